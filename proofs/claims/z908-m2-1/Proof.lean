import JvmDerived
import JvmDerived.Pilot.@@N@@Statement
import JvmDerived.Pilot.@@N@@Code
set_option linter.unusedVariables false
set_option linter.unusedSimpArgs false
namespace Jvm.Pilot.@@N@@
open Jvm Jvm.ClassFile Sem Op Lib Jvm.Free Jvm.Stand Jvm.LawKit Jvm.RoadKit Bundle Jvm.Pilot.@@N@@.Jvm.D
section Own
variable {p : Program} {l : Launch} {e : Env} {R : Room} {s : State} {m : MethodId} {args : Array Value} {below : List Frame} {meth : Method} {c : Code} {T : State} {locs : List Loc} {cells slots : Nat} {Z : State} {a0 : Array Value} {h : Heap} {P : State → Outcome → Prop} {pc pc' : Nat} {Ls Ls' : Array Slot} {st : List Value}
/-- from the state A the run comes to an end of which P speaks -/
def Dn (p : Program) (e : Env) (below : List Frame) (P : State → Outcome → Prop) (A : State) : Prop := ∃ s₂ o, Steps p.tables e below A s₂ ∧ P s₂ o
/-- the invocation has ended, returned, and Q holds of what it returned, the heap and the places written -/
def PQ (below : List Frame) (s : State) (Q : Option Value → Heap → List Loc → Prop) (k n : Nat) (s₂ : State) (o : Outcome) : Prop :=
  s₂.status = .running ∧ Ended s₂ below o ∧ ∃ v L, o = .returned v ∧ Q v s₂.heap L ∧ FrameEnd s o s₂ L k n
theorem go {A B : State} (w : ∀ t, Steps p.tables e below B t → Steps p.tables e below A t) (k : Dn p e below P B) : Dn p e below P A := by
  obtain ⟨s₂, o, h1, h2⟩ := k
  exact ⟨s₂, o, w _ h1, h2⟩
theorem goS {A B : State} (w : Steps p.tables e below A B) (k : Dn p e below P B) : Dn p e below P A := by
  obtain ⟨s₂, o, h1, h2⟩ := k
  exact ⟨s₂, o, w.trans h1, h2⟩
/-- a method's contract, at given arguments and a given heap -/
abbrev Ctr (l : Launch) (Z : State) (y : MethodName) (bytes : ByteArray) (maxL : Nat) (ret : Option FieldType) (ws : List Jvm.Cond) (R : Room) (as' : Array Value) (h0 : Heap) (Q : Option Value → Heap → List Loc → Prop) : Prop :=
  MetFree l y (head1 (Jvm.Cond.code y bytes maxL ret :: ws) R) (fun a U => a = as' ∧ Z.Warmed39 U.vm ∧ U.heap = h0) (fun _ _ _ _ _ => True) (fun _ U o U' => ∃ v L, o = .returned v ∧ Q v U'.heap L ∧ FrameEnd U o U' L R.cells R.slots)
theorem ctr_mk {y : MethodName} {bytes : ByteArray} {maxL : Nat} {ret : Option FieldType} {ws : List Jvm.Cond} {as' : Array Value} {h0 : Heap} {Q : Option Value → Heap → List Loc → Prop} {own mn : String} (hpl : plainFor y = true) (ho : y.cls = own) (hmn : y.name = mn)
    (body : ∀ (p : Program) (e : Env) (s : State) (m : MethodId) (below : List Frame) (meth : Method) (c : Code) (T : State), Stand p l e R s m as' below meth c T [] 0 0 → p.tables.exec = Jvm.exec → c.code = bytes → c.maxLocals = maxL → Z.Warmed39 s.vm → s.vm.findClass own = some m.cls → meth.name = mn → meth.sig.returnType = ret → meth.locks = false → T.heap = h0 →
      Dn p e below (PQ below s Q R.cells R.slots) (T.setTop (entryFrame m as' maxL))) : Ctr l Z y bytes maxL ret ws R as' h0 Q := by
  subst ho hmn
  refine MetFree.of_bodySF hpl hisR ?_
  intro p e s m args below meth c s₁ Bd hml hP hK
  obtain ⟨rfl, hZ, hh⟩ := hP
  have e0 : s₁.heap = h0 := by rw [← hh, Bd.state]; rfl
  obtain ⟨s₂, o, h1, h2, h3, h4⟩ := body p e s m below meth c s₁ (Stand.of_body Bd) Bd.exec Bd.bytes hml hZ (findClass_of_methodNamed Bd.named) (name_of_methodNamed Bd.named Bd.method).1 Bd.returns Bd.notSynchronized e0
  exact ⟨s₂, o, h1, h2, h3, h4⟩
theorem o_entry {g : JFrame} {as' : Array Value} {maxL : Nat} (q : entryFrame m as' maxL = g) (k : Dn p e below P (T.setTop g)) : Dn p e below P (T.setTop (entryFrame m as' maxL)) := q ▸ k
theorem fin_of {Q : Option Value → Heap → List Loc → Prop} {k n : Nat} {v : Option Value} {A : State} (X : Stand p l e R s m args below meth c T locs cells slots) (hlk : meth.locks = false) (hv : meth.sig.returnType = none → v = none) (hc : cells ≤ k) (hs : slots ≤ n) (hQ : Q v T.heap locs)
    (w : ∀ fs, (∀ (f : JFrame) (acts : List Action), f.method = m → f.locked = none → f.entered = [] → (doReturn e (T.setTop f) acts v).1 = T.setFrames fs) → Steps p.tables e below A (T.setFrames fs)) : Dn p e below (PQ below s Q k n) A := by
  obtain ⟨fs, hr, hrun, hended, hW, hsame⟩ := X.leave (v := v) hv hlk
  exact ⟨_, _, w fs hr, hrun, hended, _, _, rfl, hQ, ⟨_, rfl⟩, hW, hsame.mono hc hs⟩
theorem finI {Q : Option Value → Heap → List Loc → Prop} {k n : Nat} (X : Stand p l e R s m args below meth c T locs cells slots) (hx : p.tables.exec = Jvm.exec) (hlk : meth.locks = false) {z : Int32} (hret : meth.sig.returnType = some .int) (hd : decode c.code pc = .ok (.ireturn, 1)) (hc : cells ≤ k) (hs : slots ≤ n) (hQ : Q (some (.int z)) T.heap locs) :
    Dn p e below (PQ below s Q k n) (T.setTop (mkF m pc Ls (.int z :: st))) :=
  fin_of X hlk (fun q => by rw [hret] at q; cases q) hc hs hQ (fun fs hr => retOut X hx hret rfl (Or.inl ⟨rfl, Or.inl rfl, _, rfl⟩) hd hr)
theorem finN {Q : Option Value → Heap → List Loc → Prop} {k n : Nat} (X : Stand p l e R s m args below meth c T locs cells slots) (hx : p.tables.exec = Jvm.exec) (hlk : meth.locks = false) {z : Int32} {t : FieldType} (hret : meth.sig.returnType = some t) (ht : t = .boolean ∨ t = .byte ∨ t = .char ∨ t = .short) (hd : decode c.code pc = .ok (.ireturn, 1)) (hc : cells ≤ k) (hs : slots ≤ n) (hQ : Q (some (.int (nar t z))) T.heap locs) :
    Dn p e below (PQ below s Q k n) (T.setTop (mkF m pc Ls (.int z :: st))) :=
  fin_of X hlk (fun q => by rw [hret] at q; cases q) hc hs hQ (fun fs hr => retN X hx hret ht hd hr)
theorem finJ {Q : Option Value → Heap → List Loc → Prop} {k n : Nat} (X : Stand p l e R s m args below meth c T locs cells slots) (hx : p.tables.exec = Jvm.exec) (hlk : meth.locks = false) {z : Int64} (hret : meth.sig.returnType = some .long) (hd : decode c.code pc = .ok (.lreturn, 1)) (hc : cells ≤ k) (hs : slots ≤ n) (hQ : Q (some (.long z)) T.heap locs) :
    Dn p e below (PQ below s Q k n) (T.setTop (mkF m pc Ls (.long z :: st))) :=
  fin_of X hlk (fun q => by rw [hret] at q; cases q) hc hs hQ (fun fs hr => retOut X hx hret rfl (Or.inr (Or.inl ⟨rfl, rfl, _, rfl⟩)) hd hr)
theorem finA {Q : Option Value → Heap → List Loc → Prop} {k n : Nat} (X : Stand p l e R s m args below meth c T locs cells slots) (hx : p.tables.exec = Jvm.exec) (hlk : meth.locks = false) {w : Value} {t : FieldType} (hw : w.isRef = true) (hret : meth.sig.returnType = some t) (ht : t.isReference = true) (hn : narrow t w = w) (hd : decode c.code pc = .ok (.areturn, 1)) (hc : cells ≤ k) (hs : slots ≤ n) (hQ : Q (some w) T.heap locs) :
    Dn p e below (PQ below s Q k n) (T.setTop (mkF m pc Ls (w :: st))) :=
  fin_of X hlk (fun q => by rw [hret] at q; cases q) hc hs hQ (fun fs hr => retOut X hx hret hn (Or.inr (Or.inr (Or.inr (Or.inr ⟨rfl, ht, hw⟩)))) hd hr)
theorem finV {Q : Option Value → Heap → List Loc → Prop} {k n : Nat} (X : Stand p l e R s m args below meth c T locs cells slots) (hx : p.tables.exec = Jvm.exec) (hlk : meth.locks = false) (hret : meth.sig.returnType = none) (hd : decode c.code pc = .ok (.return_, 1)) (hc : cells ≤ k) (hs : slots ≤ n) (hQ : Q none T.heap locs) :
    Dn p e below (PQ below s Q k n) (T.setTop (mkF m pc Ls [])) :=
  fin_of X hlk (fun _ => rfl) hc hs hQ (fun fs hr => X.returnOut hx hret hd hr)
theorem o_iload (X : Stand p l e R s m args below meth c T locs cells slots) (hx : p.tables.exec = Jvm.exec) {k : Nat} {v : Int32} (hd : decode c.code pc = .ok (.iload k, 2)) (hp : pc + 2 = pc') (hl : Ls[k]? = some (.val (.int v))) (K : Dn p e below P (T.setTop (mkF m pc' Ls (.int v :: st)))) : Dn p e below P (T.setTop (mkF m pc Ls st)) := by
  subst hp
  obtain ⟨s₂, o, h1, h2⟩ := K
  exact ⟨s₂, o, XS.iload X.here hx rfl hd hl h1, h2⟩
theorem o_iloadN (X : Stand p l e R s m args below meth c T locs cells slots) (hx : p.tables.exec = Jvm.exec) {k : Fin 4} {v : Int32} (hd : decode c.code pc = .ok (.iload_n k, 1)) (hp : pc + 1 = pc') (hl : Ls[k.val]? = some (.val (.int v))) (K : Dn p e below P (T.setTop (mkF m pc' Ls (.int v :: st)))) : Dn p e below P (T.setTop (mkF m pc Ls st)) := by
  subst hp
  obtain ⟨s₂, o, h1, h2⟩ := K
  exact ⟨s₂, o, XS.iloadN X.here hx rfl hd hl h1, h2⟩
theorem o_istore (X : Stand p l e R s m args below meth c T locs cells slots) (hx : p.tables.exec = Jvm.exec) {k : Nat} {v : Int32} (hd : decode c.code pc = .ok (.istore k, 2)) (hp : pc + 2 = pc') (hl : storeLocals Ls k (.int v) = some Ls') (K : Dn p e below P (T.setTop (mkF m pc' Ls' st))) : Dn p e below P (T.setTop (mkF m pc Ls (.int v :: st))) := by
  subst hp
  obtain ⟨s₂, o, h1, h2⟩ := K
  exact ⟨s₂, o, XS.istore X.here hx rfl hd rfl hl h1, h2⟩
theorem o_istoreN (X : Stand p l e R s m args below meth c T locs cells slots) (hx : p.tables.exec = Jvm.exec) {k : Fin 4} {v : Int32} (hd : decode c.code pc = .ok (.istore_n k, 1)) (hp : pc + 1 = pc') (hl : storeLocals Ls k.val (.int v) = some Ls') (K : Dn p e below P (T.setTop (mkF m pc' Ls' st))) : Dn p e below P (T.setTop (mkF m pc Ls (.int v :: st))) := by
  subst hp
  obtain ⟨s₂, o, h1, h2⟩ := K
  exact ⟨s₂, o, XS.istoreN X.here hx rfl hd rfl hl h1, h2⟩
theorem o_lload (X : Stand p l e R s m args below meth c T locs cells slots) (hx : p.tables.exec = Jvm.exec) {k : Nat} {v : Int64} (hd : decode c.code pc = .ok (.lload k, 2)) (hp : pc + 2 = pc') (hl : Ls[k]? = some (.val (.long v))) (K : Dn p e below P (T.setTop (mkF m pc' Ls (.long v :: st)))) : Dn p e below P (T.setTop (mkF m pc Ls st)) := by
  subst hp
  obtain ⟨s₂, o, h1, h2⟩ := K
  exact ⟨s₂, o, XS.lload X.here hx rfl hd hl h1, h2⟩
theorem o_lloadN (X : Stand p l e R s m args below meth c T locs cells slots) (hx : p.tables.exec = Jvm.exec) {k : Fin 4} {v : Int64} (hd : decode c.code pc = .ok (.lload_n k, 1)) (hp : pc + 1 = pc') (hl : Ls[k.val]? = some (.val (.long v))) (K : Dn p e below P (T.setTop (mkF m pc' Ls (.long v :: st)))) : Dn p e below P (T.setTop (mkF m pc Ls st)) := by
  subst hp
  obtain ⟨s₂, o, h1, h2⟩ := K
  exact ⟨s₂, o, XS.lloadN X.here hx rfl hd hl h1, h2⟩
theorem o_lstore (X : Stand p l e R s m args below meth c T locs cells slots) (hx : p.tables.exec = Jvm.exec) {k : Nat} {v : Int64} (hd : decode c.code pc = .ok (.lstore k, 2)) (hp : pc + 2 = pc') (hl : storeLocals Ls k (.long v) = some Ls') (K : Dn p e below P (T.setTop (mkF m pc' Ls' st))) : Dn p e below P (T.setTop (mkF m pc Ls (.long v :: st))) := by
  subst hp
  obtain ⟨s₂, o, h1, h2⟩ := K
  exact ⟨s₂, o, XS.lstore X.here hx rfl hd rfl hl h1, h2⟩
theorem o_lstoreN (X : Stand p l e R s m args below meth c T locs cells slots) (hx : p.tables.exec = Jvm.exec) {k : Fin 4} {v : Int64} (hd : decode c.code pc = .ok (.lstore_n k, 1)) (hp : pc + 1 = pc') (hl : storeLocals Ls k.val (.long v) = some Ls') (K : Dn p e below P (T.setTop (mkF m pc' Ls' st))) : Dn p e below P (T.setTop (mkF m pc Ls (.long v :: st))) := by
  subst hp
  obtain ⟨s₂, o, h1, h2⟩ := K
  exact ⟨s₂, o, XS.lstoreN X.here hx rfl hd rfl hl h1, h2⟩
theorem o_aload (X : Stand p l e R s m args below meth c T locs cells slots) (hx : p.tables.exec = Jvm.exec) {k : Nat} {v : Value} (hd : decode c.code pc = .ok (.aload k, 2)) (hp : pc + 2 = pc') (hl : Ls[k]? = some (.val v)) (hv : v.isRef = true) (K : Dn p e below P (T.setTop (mkF m pc' Ls (v :: st)))) : Dn p e below P (T.setTop (mkF m pc Ls st)) := by
  subst hp
  obtain ⟨s₂, o, h1, h2⟩ := K
  exact ⟨s₂, o, XS.aload X.here hx rfl hd hl hv h1, h2⟩
theorem o_aloadN (X : Stand p l e R s m args below meth c T locs cells slots) (hx : p.tables.exec = Jvm.exec) {k : Fin 4} {v : Value} (hd : decode c.code pc = .ok (.aload_n k, 1)) (hp : pc + 1 = pc') (hl : Ls[k.val]? = some (.val v)) (hv : v.isRef = true) (K : Dn p e below P (T.setTop (mkF m pc' Ls (v :: st)))) : Dn p e below P (T.setTop (mkF m pc Ls st)) := by
  subst hp
  obtain ⟨s₂, o, h1, h2⟩ := K
  exact ⟨s₂, o, XS.aloadN X.here hx rfl hd hl hv h1, h2⟩
theorem o_astore (X : Stand p l e R s m args below meth c T locs cells slots) (hx : p.tables.exec = Jvm.exec) {k : Nat} {v : Value} (hd : decode c.code pc = .ok (.astore k, 2)) (hp : pc + 2 = pc') (hv : v.isRef = true) (hl : storeLocals Ls k v = some Ls') (K : Dn p e below P (T.setTop (mkF m pc' Ls' st))) : Dn p e below P (T.setTop (mkF m pc Ls (v :: st))) := by
  subst hp
  obtain ⟨s₂, o, h1, h2⟩ := K
  exact ⟨s₂, o, XS.astore X.here hx rfl hd rfl hv hl h1, h2⟩
theorem o_astoreN (X : Stand p l e R s m args below meth c T locs cells slots) (hx : p.tables.exec = Jvm.exec) {k : Fin 4} {v : Value} (hd : decode c.code pc = .ok (.astore_n k, 1)) (hp : pc + 1 = pc') (hv : v.isRef = true) (hl : storeLocals Ls k.val v = some Ls') (K : Dn p e below P (T.setTop (mkF m pc' Ls' st))) : Dn p e below P (T.setTop (mkF m pc Ls (v :: st))) := by
  subst hp
  obtain ⟨s₂, o, h1, h2⟩ := K
  exact ⟨s₂, o, XS.astoreN X.here hx rfl hd rfl hv hl h1, h2⟩
theorem o_iconst (X : Stand p l e R s m args below meth c T locs cells slots) (hx : p.tables.exec = Jvm.exec) {i : Int} {v : Int32} (hd : decode c.code pc = .ok (.iconst i, 1)) (hp : pc + 1 = pc') (hv : Int32.ofInt i = v) (K : Dn p e below P (T.setTop (mkF m pc' Ls (.int v :: st)))) : Dn p e below P (T.setTop (mkF m pc Ls st)) := by
  subst hp hv
  obtain ⟨s₂, o, h1, h2⟩ := K
  exact ⟨s₂, o, XS.iconst X.here hx rfl hd h1, h2⟩
theorem o_bipush (X : Stand p l e R s m args below meth c T locs cells slots) (hx : p.tables.exec = Jvm.exec) {i : Int} {v : Int32} (hd : decode c.code pc = .ok (.bipush i, 2)) (hp : pc + 2 = pc') (hv : (Int8.ofInt i).toInt32 = v) (K : Dn p e below P (T.setTop (mkF m pc' Ls (.int v :: st)))) : Dn p e below P (T.setTop (mkF m pc Ls st)) := by
  subst hp hv
  obtain ⟨s₂, o, h1, h2⟩ := K
  exact ⟨s₂, o, XS.bipush X.here hx rfl hd h1, h2⟩
theorem o_sipush (X : Stand p l e R s m args below meth c T locs cells slots) (hx : p.tables.exec = Jvm.exec) {i : Int} {v : Int32} (hd : decode c.code pc = .ok (.sipush i, 3)) (hp : pc + 3 = pc') (hv : (Int16.ofInt i).toInt32 = v) (K : Dn p e below P (T.setTop (mkF m pc' Ls (.int v :: st)))) : Dn p e below P (T.setTop (mkF m pc Ls st)) := by
  subst hp hv
  obtain ⟨s₂, o, h1, h2⟩ := K
  exact ⟨s₂, o, XS.sipush X.here hx rfl hd h1, h2⟩
theorem o_lconst (X : Stand p l e R s m args below meth c T locs cells slots) (hx : p.tables.exec = Jvm.exec) {k : Fin 2} {v : Int64} (hd : decode c.code pc = .ok (.lconst k, 1)) (hp : pc + 1 = pc') (hv : Int64.ofNat k = v) (K : Dn p e below P (T.setTop (mkF m pc' Ls (.long v :: st)))) : Dn p e below P (T.setTop (mkF m pc Ls st)) := by
  subst hp hv
  obtain ⟨s₂, o, h1, h2⟩ := K
  exact ⟨s₂, o, XS.lconst X.here hx rfl hd h1, h2⟩
theorem o_aconstNull (X : Stand p l e R s m args below meth c T locs cells slots) (hx : p.tables.exec = Jvm.exec)  (hd : decode c.code pc = .ok (.aconst_null, 1)) (hp : pc + 1 = pc')  (K : Dn p e below P (T.setTop (mkF m pc' Ls (.null :: st)))) : Dn p e below P (T.setTop (mkF m pc Ls st)) := by
  subst hp
  obtain ⟨s₂, o, h1, h2⟩ := K
  exact ⟨s₂, o, XS.aconstNull X.here hx rfl hd  h1, h2⟩
theorem o_iadd (X : Stand p l e R s m args below meth c T locs cells slots) (hx : p.tables.exec = Jvm.exec) {x y : Int32} (hd : decode c.code pc = .ok (.iadd, 1)) (hp : pc + 1 = pc')  (K : Dn p e below P (T.setTop (mkF m pc' Ls (.int (x + y) :: st)))) : Dn p e below P (T.setTop (mkF m pc Ls (.int y :: .int x :: st))) := by
  subst hp
  obtain ⟨s₂, o, h1, h2⟩ := K
  exact ⟨s₂, o, XS.iadd X.here hx rfl hd rfl h1, h2⟩
theorem o_isub (X : Stand p l e R s m args below meth c T locs cells slots) (hx : p.tables.exec = Jvm.exec) {x y : Int32} (hd : decode c.code pc = .ok (.isub, 1)) (hp : pc + 1 = pc')  (K : Dn p e below P (T.setTop (mkF m pc' Ls (.int (x - y) :: st)))) : Dn p e below P (T.setTop (mkF m pc Ls (.int y :: .int x :: st))) := by
  subst hp
  obtain ⟨s₂, o, h1, h2⟩ := K
  exact ⟨s₂, o, XS.isub X.here hx rfl hd rfl h1, h2⟩
theorem o_imul (X : Stand p l e R s m args below meth c T locs cells slots) (hx : p.tables.exec = Jvm.exec) {x y : Int32} (hd : decode c.code pc = .ok (.imul, 1)) (hp : pc + 1 = pc')  (K : Dn p e below P (T.setTop (mkF m pc' Ls (.int (x * y) :: st)))) : Dn p e below P (T.setTop (mkF m pc Ls (.int y :: .int x :: st))) := by
  subst hp
  obtain ⟨s₂, o, h1, h2⟩ := K
  exact ⟨s₂, o, XS.imul X.here hx rfl hd rfl h1, h2⟩
theorem o_iand (X : Stand p l e R s m args below meth c T locs cells slots) (hx : p.tables.exec = Jvm.exec) {x y : Int32} (hd : decode c.code pc = .ok (.iand, 1)) (hp : pc + 1 = pc')  (K : Dn p e below P (T.setTop (mkF m pc' Ls (.int (x &&& y) :: st)))) : Dn p e below P (T.setTop (mkF m pc Ls (.int y :: .int x :: st))) := by
  subst hp
  obtain ⟨s₂, o, h1, h2⟩ := K
  exact ⟨s₂, o, XS.iand X.here hx rfl hd rfl h1, h2⟩
theorem o_ior (X : Stand p l e R s m args below meth c T locs cells slots) (hx : p.tables.exec = Jvm.exec) {x y : Int32} (hd : decode c.code pc = .ok (.ior, 1)) (hp : pc + 1 = pc')  (K : Dn p e below P (T.setTop (mkF m pc' Ls (.int (x ||| y) :: st)))) : Dn p e below P (T.setTop (mkF m pc Ls (.int y :: .int x :: st))) := by
  subst hp
  obtain ⟨s₂, o, h1, h2⟩ := K
  exact ⟨s₂, o, XS.ior X.here hx rfl hd rfl h1, h2⟩
theorem o_ixor (X : Stand p l e R s m args below meth c T locs cells slots) (hx : p.tables.exec = Jvm.exec) {x y : Int32} (hd : decode c.code pc = .ok (.ixor, 1)) (hp : pc + 1 = pc')  (K : Dn p e below P (T.setTop (mkF m pc' Ls (.int (x ^^^ y) :: st)))) : Dn p e below P (T.setTop (mkF m pc Ls (.int y :: .int x :: st))) := by
  subst hp
  obtain ⟨s₂, o, h1, h2⟩ := K
  exact ⟨s₂, o, XS.ixor X.here hx rfl hd rfl h1, h2⟩
theorem o_ladd (X : Stand p l e R s m args below meth c T locs cells slots) (hx : p.tables.exec = Jvm.exec) {x y : Int64} (hd : decode c.code pc = .ok (.ladd, 1)) (hp : pc + 1 = pc')  (K : Dn p e below P (T.setTop (mkF m pc' Ls (.long (x + y) :: st)))) : Dn p e below P (T.setTop (mkF m pc Ls (.long y :: .long x :: st))) := by
  subst hp
  obtain ⟨s₂, o, h1, h2⟩ := K
  exact ⟨s₂, o, XS.ladd X.here hx rfl hd rfl h1, h2⟩
theorem o_lsub (X : Stand p l e R s m args below meth c T locs cells slots) (hx : p.tables.exec = Jvm.exec) {x y : Int64} (hd : decode c.code pc = .ok (.lsub, 1)) (hp : pc + 1 = pc')  (K : Dn p e below P (T.setTop (mkF m pc' Ls (.long (x - y) :: st)))) : Dn p e below P (T.setTop (mkF m pc Ls (.long y :: .long x :: st))) := by
  subst hp
  obtain ⟨s₂, o, h1, h2⟩ := K
  exact ⟨s₂, o, XS.lsub X.here hx rfl hd rfl h1, h2⟩
theorem o_lmul (X : Stand p l e R s m args below meth c T locs cells slots) (hx : p.tables.exec = Jvm.exec) {x y : Int64} (hd : decode c.code pc = .ok (.lmul, 1)) (hp : pc + 1 = pc')  (K : Dn p e below P (T.setTop (mkF m pc' Ls (.long (x * y) :: st)))) : Dn p e below P (T.setTop (mkF m pc Ls (.long y :: .long x :: st))) := by
  subst hp
  obtain ⟨s₂, o, h1, h2⟩ := K
  exact ⟨s₂, o, XS.lmul X.here hx rfl hd rfl h1, h2⟩
theorem o_land (X : Stand p l e R s m args below meth c T locs cells slots) (hx : p.tables.exec = Jvm.exec) {x y : Int64} (hd : decode c.code pc = .ok (.land, 1)) (hp : pc + 1 = pc')  (K : Dn p e below P (T.setTop (mkF m pc' Ls (.long (x &&& y) :: st)))) : Dn p e below P (T.setTop (mkF m pc Ls (.long y :: .long x :: st))) := by
  subst hp
  obtain ⟨s₂, o, h1, h2⟩ := K
  exact ⟨s₂, o, XS.land X.here hx rfl hd rfl h1, h2⟩
theorem o_lor (X : Stand p l e R s m args below meth c T locs cells slots) (hx : p.tables.exec = Jvm.exec) {x y : Int64} (hd : decode c.code pc = .ok (.lor, 1)) (hp : pc + 1 = pc')  (K : Dn p e below P (T.setTop (mkF m pc' Ls (.long (x ||| y) :: st)))) : Dn p e below P (T.setTop (mkF m pc Ls (.long y :: .long x :: st))) := by
  subst hp
  obtain ⟨s₂, o, h1, h2⟩ := K
  exact ⟨s₂, o, XS.lor X.here hx rfl hd rfl h1, h2⟩
theorem o_lxor (X : Stand p l e R s m args below meth c T locs cells slots) (hx : p.tables.exec = Jvm.exec) {x y : Int64} (hd : decode c.code pc = .ok (.lxor, 1)) (hp : pc + 1 = pc')  (K : Dn p e below P (T.setTop (mkF m pc' Ls (.long (x ^^^ y) :: st)))) : Dn p e below P (T.setTop (mkF m pc Ls (.long y :: .long x :: st))) := by
  subst hp
  obtain ⟨s₂, o, h1, h2⟩ := K
  exact ⟨s₂, o, XS.lxor X.here hx rfl hd rfl h1, h2⟩
theorem o_ishl (X : Stand p l e R s m args below meth c T locs cells slots) (hx : p.tables.exec = Jvm.exec) {x : Int32} {y : Int32} (hd : decode c.code pc = .ok (.ishl, 1)) (hp : pc + 1 = pc')  (K : Dn p e below P (T.setTop (mkF m pc' Ls (.int (x <<< (y &&& 31)) :: st)))) : Dn p e below P (T.setTop (mkF m pc Ls (.int y :: .int x :: st))) := by
  subst hp
  obtain ⟨s₂, o, h1, h2⟩ := K
  exact ⟨s₂, o, XS.ishl X.here hx rfl hd rfl h1, h2⟩
theorem o_ishr (X : Stand p l e R s m args below meth c T locs cells slots) (hx : p.tables.exec = Jvm.exec) {x : Int32} {y : Int32} (hd : decode c.code pc = .ok (.ishr, 1)) (hp : pc + 1 = pc')  (K : Dn p e below P (T.setTop (mkF m pc' Ls (.int (x >>> (y &&& 31)) :: st)))) : Dn p e below P (T.setTop (mkF m pc Ls (.int y :: .int x :: st))) := by
  subst hp
  obtain ⟨s₂, o, h1, h2⟩ := K
  exact ⟨s₂, o, XS.ishr X.here hx rfl hd rfl h1, h2⟩
theorem o_iushr (X : Stand p l e R s m args below meth c T locs cells slots) (hx : p.tables.exec = Jvm.exec) {x : Int32} {y : Int32} (hd : decode c.code pc = .ok (.iushr, 1)) (hp : pc + 1 = pc')  (K : Dn p e below P (T.setTop (mkF m pc' Ls (.int ((x.toUInt32 >>> (y &&& 31).toUInt32).toInt32) :: st)))) : Dn p e below P (T.setTop (mkF m pc Ls (.int y :: .int x :: st))) := by
  subst hp
  obtain ⟨s₂, o, h1, h2⟩ := K
  exact ⟨s₂, o, XS.iushr X.here hx rfl hd rfl h1, h2⟩
theorem o_lshl (X : Stand p l e R s m args below meth c T locs cells slots) (hx : p.tables.exec = Jvm.exec) {x : Int64} {y : Int32} (hd : decode c.code pc = .ok (.lshl, 1)) (hp : pc + 1 = pc')  (K : Dn p e below P (T.setTop (mkF m pc' Ls (.long (x <<< (y &&& 0x3f).toInt64) :: st)))) : Dn p e below P (T.setTop (mkF m pc Ls (.int y :: .long x :: st))) := by
  subst hp
  obtain ⟨s₂, o, h1, h2⟩ := K
  exact ⟨s₂, o, XS.lshl X.here hx rfl hd rfl h1, h2⟩
theorem o_lshr (X : Stand p l e R s m args below meth c T locs cells slots) (hx : p.tables.exec = Jvm.exec) {x : Int64} {y : Int32} (hd : decode c.code pc = .ok (.lshr, 1)) (hp : pc + 1 = pc')  (K : Dn p e below P (T.setTop (mkF m pc' Ls (.long (x >>> (y &&& 0x3f).toInt64) :: st)))) : Dn p e below P (T.setTop (mkF m pc Ls (.int y :: .long x :: st))) := by
  subst hp
  obtain ⟨s₂, o, h1, h2⟩ := K
  exact ⟨s₂, o, XS.lshr X.here hx rfl hd rfl h1, h2⟩
theorem o_lushr (X : Stand p l e R s m args below meth c T locs cells slots) (hx : p.tables.exec = Jvm.exec) {x : Int64} {y : Int32} (hd : decode c.code pc = .ok (.lushr, 1)) (hp : pc + 1 = pc')  (K : Dn p e below P (T.setTop (mkF m pc' Ls (.long ((x.toUInt64 >>> (y &&& 0x3f).toInt64.toUInt64).toInt64) :: st)))) : Dn p e below P (T.setTop (mkF m pc Ls (.int y :: .long x :: st))) := by
  subst hp
  obtain ⟨s₂, o, h1, h2⟩ := K
  exact ⟨s₂, o, XS.lushr X.here hx rfl hd rfl h1, h2⟩
theorem o_ineg (X : Stand p l e R s m args below meth c T locs cells slots) (hx : p.tables.exec = Jvm.exec) {x : Int32} (hd : decode c.code pc = .ok (.ineg, 1)) (hp : pc + 1 = pc')  (K : Dn p e below P (T.setTop (mkF m pc' Ls (.int (-x) :: st)))) : Dn p e below P (T.setTop (mkF m pc Ls (.int x :: st))) := by
  subst hp
  obtain ⟨s₂, o, h1, h2⟩ := K
  exact ⟨s₂, o, XS.ineg X.here hx rfl hd rfl h1, h2⟩
theorem o_lneg (X : Stand p l e R s m args below meth c T locs cells slots) (hx : p.tables.exec = Jvm.exec) {x : Int64} (hd : decode c.code pc = .ok (.lneg, 1)) (hp : pc + 1 = pc')  (K : Dn p e below P (T.setTop (mkF m pc' Ls (.long (-x) :: st)))) : Dn p e below P (T.setTop (mkF m pc Ls (.long x :: st))) := by
  subst hp
  obtain ⟨s₂, o, h1, h2⟩ := K
  exact ⟨s₂, o, XS.lneg X.here hx rfl hd rfl h1, h2⟩
theorem o_i2l (X : Stand p l e R s m args below meth c T locs cells slots) (hx : p.tables.exec = Jvm.exec) {x : Int32} (hd : decode c.code pc = .ok (.i2l, 1)) (hp : pc + 1 = pc')  (K : Dn p e below P (T.setTop (mkF m pc' Ls (.long (x.toInt64) :: st)))) : Dn p e below P (T.setTop (mkF m pc Ls (.int x :: st))) := by
  subst hp
  obtain ⟨s₂, o, h1, h2⟩ := K
  exact ⟨s₂, o, XS.i2l X.here hx rfl hd rfl h1, h2⟩
theorem o_l2i (X : Stand p l e R s m args below meth c T locs cells slots) (hx : p.tables.exec = Jvm.exec) {x : Int64} (hd : decode c.code pc = .ok (.l2i, 1)) (hp : pc + 1 = pc')  (K : Dn p e below P (T.setTop (mkF m pc' Ls (.int (x.toInt32) :: st)))) : Dn p e below P (T.setTop (mkF m pc Ls (.long x :: st))) := by
  subst hp
  obtain ⟨s₂, o, h1, h2⟩ := K
  exact ⟨s₂, o, XS.l2i X.here hx rfl hd rfl h1, h2⟩
theorem o_i2b (X : Stand p l e R s m args below meth c T locs cells slots) (hx : p.tables.exec = Jvm.exec) {x : Int32} (hd : decode c.code pc = .ok (.i2b, 1)) (hp : pc + 1 = pc')  (K : Dn p e below P (T.setTop (mkF m pc' Ls (.int (x.toInt8.toInt32) :: st)))) : Dn p e below P (T.setTop (mkF m pc Ls (.int x :: st))) := by
  subst hp
  obtain ⟨s₂, o, h1, h2⟩ := K
  exact ⟨s₂, o, XS.i2b X.here hx rfl hd rfl h1, h2⟩
theorem o_i2s (X : Stand p l e R s m args below meth c T locs cells slots) (hx : p.tables.exec = Jvm.exec) {x : Int32} (hd : decode c.code pc = .ok (.i2s, 1)) (hp : pc + 1 = pc')  (K : Dn p e below P (T.setTop (mkF m pc' Ls (.int (x.toInt16.toInt32) :: st)))) : Dn p e below P (T.setTop (mkF m pc Ls (.int x :: st))) := by
  subst hp
  obtain ⟨s₂, o, h1, h2⟩ := K
  exact ⟨s₂, o, XS.i2s X.here hx rfl hd rfl h1, h2⟩
theorem o_i2c (X : Stand p l e R s m args below meth c T locs cells slots) (hx : p.tables.exec = Jvm.exec) {x : Int32} (hd : decode c.code pc = .ok (.i2c, 1)) (hp : pc + 1 = pc')  (K : Dn p e below P (T.setTop (mkF m pc' Ls (.int (x.toUInt32.toUInt16.toUInt32.toInt32) :: st)))) : Dn p e below P (T.setTop (mkF m pc Ls (.int x :: st))) := by
  subst hp
  obtain ⟨s₂, o, h1, h2⟩ := K
  exact ⟨s₂, o, XS.i2c X.here hx rfl hd rfl h1, h2⟩
theorem o_idiv (X : Stand p l e R s m args below meth c T locs cells slots) (hx : p.tables.exec = Jvm.exec) {x y : Int32} (hd : decode c.code pc = .ok (.idiv, 1)) (hp : pc + 1 = pc') (hy : y ≠ 0) (K : Dn p e below P (T.setTop (mkF m pc' Ls (.int (x / y) :: st)))) : Dn p e below P (T.setTop (mkF m pc Ls (.int y :: .int x :: st))) := by
  subst hp
  obtain ⟨s₂, o, h1, h2⟩ := K
  exact ⟨s₂, o, XS.idiv X.here hx rfl hd rfl hy h1, h2⟩
theorem o_ldiv (X : Stand p l e R s m args below meth c T locs cells slots) (hx : p.tables.exec = Jvm.exec) {x y : Int64} (hd : decode c.code pc = .ok (.ldiv, 1)) (hp : pc + 1 = pc') (hy : y ≠ 0) (K : Dn p e below P (T.setTop (mkF m pc' Ls (.long (x / y) :: st)))) : Dn p e below P (T.setTop (mkF m pc Ls (.long y :: .long x :: st))) := by
  subst hp
  obtain ⟨s₂, o, h1, h2⟩ := K
  exact ⟨s₂, o, XS.ldiv X.here hx rfl hd rfl hy h1, h2⟩
theorem o_irem (X : Stand p l e R s m args below meth c T locs cells slots) (hx : p.tables.exec = Jvm.exec) {x y : Int32} (hd : decode c.code pc = .ok (.irem, 1)) (hp : pc + 1 = pc') (hy : y ≠ 0) (K : Dn p e below P (T.setTop (mkF m pc' Ls (.int (x % y) :: st)))) : Dn p e below P (T.setTop (mkF m pc Ls (.int y :: .int x :: st))) := by
  subst hp
  obtain ⟨s₂, o, h1, h2⟩ := K
  exact ⟨s₂, o, iremM X hx rfl hd rfl hy h1, h2⟩
theorem o_lcmp (X : Stand p l e R s m args below meth c T locs cells slots) (hx : p.tables.exec = Jvm.exec) {x y : Int64} (hd : decode c.code pc = .ok (.lcmp, 1)) (hp : pc + 1 = pc')  (K : Dn p e below P (T.setTop (mkF m pc' Ls (.int (lcmpW x y) :: st)))) : Dn p e below P (T.setTop (mkF m pc Ls (.long y :: .long x :: st))) := by
  subst hp
  obtain ⟨s₂, o, h1, h2⟩ := K
  exact ⟨s₂, o, XS.lcmp X.here hx rfl hd rfl h1, h2⟩
theorem o_dup (X : Stand p l e R s m args below meth c T locs cells slots) (hx : p.tables.exec = Jvm.exec) {v : Value} (hd : decode c.code pc = .ok (.dup, 1)) (hp : pc + 1 = pc') (hv : v.category = 1) (K : Dn p e below P (T.setTop (mkF m pc' Ls (v :: v :: st)))) : Dn p e below P (T.setTop (mkF m pc Ls (v :: st))) := by
  subst hp
  obtain ⟨s₂, o, h1, h2⟩ := K
  exact ⟨s₂, o, XS.dup X.here hx rfl hd rfl hv h1, h2⟩
theorem o_pop (X : Stand p l e R s m args below meth c T locs cells slots) (hx : p.tables.exec = Jvm.exec) {v : Value} (hd : decode c.code pc = .ok (.pop, 1)) (hp : pc + 1 = pc') (hv : v.category = 1) (K : Dn p e below P (T.setTop (mkF m pc' Ls st))) : Dn p e below P (T.setTop (mkF m pc Ls (v :: st))) := by
  subst hp
  obtain ⟨s₂, o, h1, h2⟩ := K
  exact ⟨s₂, o, XS.pop X.here hx rfl hd rfl hv h1, h2⟩
theorem o_dupX1 (X : Stand p l e R s m args below meth c T locs cells slots) (hx : p.tables.exec = Jvm.exec) {v w : Value} (hd : decode c.code pc = .ok (.dup_x1, 1)) (hp : pc + 1 = pc') (hv : v.category = 1) (hw : w.category = 1) (K : Dn p e below P (T.setTop (mkF m pc' Ls (v :: w :: v :: st)))) : Dn p e below P (T.setTop (mkF m pc Ls (v :: w :: st))) := by
  subst hp
  obtain ⟨s₂, o, h1, h2⟩ := K
  exact ⟨s₂, o, XS.dupX1 X.here hx rfl hd rfl hv hw h1, h2⟩
theorem o_iinc (X : Stand p l e R s m args below meth c T locs cells slots) (hx : p.tables.exec = Jvm.exec) {k : Nat} {i : Int} {x v : Int32} (hd : decode c.code pc = .ok (.iinc k i, 3)) (hp : pc + 3 = pc') (hv : Int32.ofInt i = v) (hl : Ls[k]? = some (.val (.int x))) (hl' : storeLocals Ls k (.int (x + v)) = some Ls') (K : Dn p e below P (T.setTop (mkF m pc' Ls' st))) : Dn p e below P (T.setTop (mkF m pc Ls st)) := by
  subst hp hv
  obtain ⟨s₂, o, h1, h2⟩ := K
  exact ⟨s₂, o, XS.iinc X.here hx rfl hd hl hl' h1, h2⟩
theorem o_goto (X : Stand p l e R s m args below meth c T locs cells slots) (hx : p.tables.exec = Jvm.exec) {i : Int} (hd : decode c.code pc = .ok (.goto i, 3)) (ho : 0 ≤ (pc : Int) + i) (hp : ((pc : Int) + i).toNat = pc') (K : Dn p e below P (T.setTop (mkF m pc' Ls st))) : Dn p e below P (T.setTop (mkF m pc Ls st)) := by
  obtain ⟨s₂, o, h1, h2⟩ := K
  exact ⟨s₂, o, XS.goto X.here hx rfl (pc0 := pc) rfl hd ho hp h1, h2⟩
theorem o_if_eq (X : Stand p l e R s m args below meth c T locs cells slots) (hx : p.tables.exec = Jvm.exec) {x : Int32} {i : Int} {pt : Nat} (hd : decode c.code pc = .ok (.ifCond .eq i, 3)) (hp : pc + 3 = pc') (ho : 0 ≤ (pc : Int) + i) (ht : ((pc : Int) + i).toNat = pt) (Kt : x = (0 : Int32) → Dn p e below P (T.setTop (mkF m pt Ls st))) (Kf : ¬ (x = (0 : Int32)) → Dn p e below P (T.setTop (mkF m pc' Ls st))) : Dn p e below P (T.setTop (mkF m pc Ls (.int x :: st))) := by
  subst hp
  by_cases hq : x = (0 : Int32)
  · obtain ⟨s₂, o, h1, h2⟩ := Kt hq
    exact ⟨s₂, o, XS.ifYes X.here hx rfl (pc0 := pc) rfl hd rfl ((if0 _ _).trans (teq hq).1) ho ht h1, h2⟩
  · obtain ⟨s₂, o, h1, h2⟩ := Kf hq
    exact ⟨s₂, o, XS.ifNo X.here hx rfl hd rfl ((if0 _ _).trans (feq hq).1) h1, h2⟩
theorem o_icmp_eq (X : Stand p l e R s m args below meth c T locs cells slots) (hx : p.tables.exec = Jvm.exec) {x y : Int32} {i : Int} {pt : Nat} (hd : decode c.code pc = .ok (.if_icmp .eq i, 3)) (hp : pc + 3 = pc') (ho : 0 ≤ (pc : Int) + i) (ht : ((pc : Int) + i).toNat = pt) (Kt : x = y → Dn p e below P (T.setTop (mkF m pt Ls st))) (Kf : ¬ (x = y) → Dn p e below P (T.setTop (mkF m pc' Ls st))) : Dn p e below P (T.setTop (mkF m pc Ls (.int y :: .int x :: st))) := by
  subst hp
  by_cases hq : x = y
  · obtain ⟨s₂, o, h1, h2⟩ := Kt hq
    exact ⟨s₂, o, XS.icmpYes X.here hx rfl (pc0 := pc) rfl hd rfl (teq hq).1 ho ht h1, h2⟩
  · obtain ⟨s₂, o, h1, h2⟩ := Kf hq
    exact ⟨s₂, o, XS.icmpNo X.here hx rfl hd rfl (feq hq).1 h1, h2⟩
theorem o_lif_eq (X : Stand p l e R s m args below meth c T locs cells slots) (hx : p.tables.exec = Jvm.exec) {x y : Int64} {i : Int} {pt : Nat} (hd : decode c.code pc = .ok (.ifCond .eq i, 3)) (hp : pc + 3 = pc') (ho : 0 ≤ (pc : Int) + i) (ht : ((pc : Int) + i).toNat = pt) (Kt : x = y → Dn p e below P (T.setTop (mkF m pt Ls st))) (Kf : ¬ (x = y) → Dn p e below P (T.setTop (mkF m pc' Ls st))) : Dn p e below P (T.setTop (mkF m pc Ls (.int (lcmpW x y) :: st))) := by
  subst hp
  by_cases hq : x = y
  · obtain ⟨s₂, o, h1, h2⟩ := Kt hq
    exact ⟨s₂, o, XS.ifYes X.here hx rfl (pc0 := pc) rfl hd rfl ((if0 _ _).trans (teq ((lw_eq x y).mpr hq)).1) ho ht h1, h2⟩
  · obtain ⟨s₂, o, h1, h2⟩ := Kf hq
    exact ⟨s₂, o, XS.ifNo X.here hx rfl hd rfl ((if0 _ _).trans (feq (fun z => hq ((lw_eq x y).mp z))).1) h1, h2⟩
theorem o_if_ne (X : Stand p l e R s m args below meth c T locs cells slots) (hx : p.tables.exec = Jvm.exec) {x : Int32} {i : Int} {pt : Nat} (hd : decode c.code pc = .ok (.ifCond .ne i, 3)) (hp : pc + 3 = pc') (ho : 0 ≤ (pc : Int) + i) (ht : ((pc : Int) + i).toNat = pt) (Kt : ¬ (x = (0 : Int32)) → Dn p e below P (T.setTop (mkF m pt Ls st))) (Kf : x = (0 : Int32) → Dn p e below P (T.setTop (mkF m pc' Ls st))) : Dn p e below P (T.setTop (mkF m pc Ls (.int x :: st))) := by
  subst hp
  by_cases hq : x = (0 : Int32)
  · obtain ⟨s₂, o, h1, h2⟩ := Kf hq
    exact ⟨s₂, o, XS.ifNo X.here hx rfl hd rfl ((if0 _ _).trans (teq hq).2) h1, h2⟩
  · obtain ⟨s₂, o, h1, h2⟩ := Kt hq
    exact ⟨s₂, o, XS.ifYes X.here hx rfl (pc0 := pc) rfl hd rfl ((if0 _ _).trans (feq hq).2) ho ht h1, h2⟩
theorem o_icmp_ne (X : Stand p l e R s m args below meth c T locs cells slots) (hx : p.tables.exec = Jvm.exec) {x y : Int32} {i : Int} {pt : Nat} (hd : decode c.code pc = .ok (.if_icmp .ne i, 3)) (hp : pc + 3 = pc') (ho : 0 ≤ (pc : Int) + i) (ht : ((pc : Int) + i).toNat = pt) (Kt : ¬ (x = y) → Dn p e below P (T.setTop (mkF m pt Ls st))) (Kf : x = y → Dn p e below P (T.setTop (mkF m pc' Ls st))) : Dn p e below P (T.setTop (mkF m pc Ls (.int y :: .int x :: st))) := by
  subst hp
  by_cases hq : x = y
  · obtain ⟨s₂, o, h1, h2⟩ := Kf hq
    exact ⟨s₂, o, XS.icmpNo X.here hx rfl hd rfl (teq hq).2 h1, h2⟩
  · obtain ⟨s₂, o, h1, h2⟩ := Kt hq
    exact ⟨s₂, o, XS.icmpYes X.here hx rfl (pc0 := pc) rfl hd rfl (feq hq).2 ho ht h1, h2⟩
theorem o_lif_ne (X : Stand p l e R s m args below meth c T locs cells slots) (hx : p.tables.exec = Jvm.exec) {x y : Int64} {i : Int} {pt : Nat} (hd : decode c.code pc = .ok (.ifCond .ne i, 3)) (hp : pc + 3 = pc') (ho : 0 ≤ (pc : Int) + i) (ht : ((pc : Int) + i).toNat = pt) (Kt : ¬ (x = y) → Dn p e below P (T.setTop (mkF m pt Ls st))) (Kf : x = y → Dn p e below P (T.setTop (mkF m pc' Ls st))) : Dn p e below P (T.setTop (mkF m pc Ls (.int (lcmpW x y) :: st))) := by
  subst hp
  by_cases hq : x = y
  · obtain ⟨s₂, o, h1, h2⟩ := Kf hq
    exact ⟨s₂, o, XS.ifNo X.here hx rfl hd rfl ((if0 _ _).trans (teq ((lw_eq x y).mpr hq)).2) h1, h2⟩
  · obtain ⟨s₂, o, h1, h2⟩ := Kt hq
    exact ⟨s₂, o, XS.ifYes X.here hx rfl (pc0 := pc) rfl hd rfl ((if0 _ _).trans (feq (fun z => hq ((lw_eq x y).mp z))).2) ho ht h1, h2⟩
theorem o_if_lt (X : Stand p l e R s m args below meth c T locs cells slots) (hx : p.tables.exec = Jvm.exec) {x : Int32} {i : Int} {pt : Nat} (hd : decode c.code pc = .ok (.ifCond .lt i, 3)) (hp : pc + 3 = pc') (ho : 0 ≤ (pc : Int) + i) (ht : ((pc : Int) + i).toNat = pt) (Kt : x < (0 : Int32) → Dn p e below P (T.setTop (mkF m pt Ls st))) (Kf : ¬ (x < (0 : Int32)) → Dn p e below P (T.setTop (mkF m pc' Ls st))) : Dn p e below P (T.setTop (mkF m pc Ls (.int x :: st))) := by
  subst hp
  by_cases hq : x < (0 : Int32)
  · obtain ⟨s₂, o, h1, h2⟩ := Kt hq
    exact ⟨s₂, o, XS.ifYes X.here hx rfl (pc0 := pc) rfl hd rfl ((if0 _ _).trans (tlt hq).1) ho ht h1, h2⟩
  · obtain ⟨s₂, o, h1, h2⟩ := Kf hq
    exact ⟨s₂, o, XS.ifNo X.here hx rfl hd rfl ((if0 _ _).trans (flt hq).1) h1, h2⟩
theorem o_icmp_lt (X : Stand p l e R s m args below meth c T locs cells slots) (hx : p.tables.exec = Jvm.exec) {x y : Int32} {i : Int} {pt : Nat} (hd : decode c.code pc = .ok (.if_icmp .lt i, 3)) (hp : pc + 3 = pc') (ho : 0 ≤ (pc : Int) + i) (ht : ((pc : Int) + i).toNat = pt) (Kt : x < y → Dn p e below P (T.setTop (mkF m pt Ls st))) (Kf : ¬ (x < y) → Dn p e below P (T.setTop (mkF m pc' Ls st))) : Dn p e below P (T.setTop (mkF m pc Ls (.int y :: .int x :: st))) := by
  subst hp
  by_cases hq : x < y
  · obtain ⟨s₂, o, h1, h2⟩ := Kt hq
    exact ⟨s₂, o, XS.icmpYes X.here hx rfl (pc0 := pc) rfl hd rfl (tlt hq).1 ho ht h1, h2⟩
  · obtain ⟨s₂, o, h1, h2⟩ := Kf hq
    exact ⟨s₂, o, XS.icmpNo X.here hx rfl hd rfl (flt hq).1 h1, h2⟩
theorem o_lif_lt (X : Stand p l e R s m args below meth c T locs cells slots) (hx : p.tables.exec = Jvm.exec) {x y : Int64} {i : Int} {pt : Nat} (hd : decode c.code pc = .ok (.ifCond .lt i, 3)) (hp : pc + 3 = pc') (ho : 0 ≤ (pc : Int) + i) (ht : ((pc : Int) + i).toNat = pt) (Kt : x < y → Dn p e below P (T.setTop (mkF m pt Ls st))) (Kf : ¬ (x < y) → Dn p e below P (T.setTop (mkF m pc' Ls st))) : Dn p e below P (T.setTop (mkF m pc Ls (.int (lcmpW x y) :: st))) := by
  subst hp
  by_cases hq : x < y
  · obtain ⟨s₂, o, h1, h2⟩ := Kt hq
    exact ⟨s₂, o, XS.ifYes X.here hx rfl (pc0 := pc) rfl hd rfl ((if0 _ _).trans (tlt ((lw_lt x y).mpr hq)).1) ho ht h1, h2⟩
  · obtain ⟨s₂, o, h1, h2⟩ := Kf hq
    exact ⟨s₂, o, XS.ifNo X.here hx rfl hd rfl ((if0 _ _).trans (flt (fun z => hq ((lw_lt x y).mp z))).1) h1, h2⟩
theorem o_if_ge (X : Stand p l e R s m args below meth c T locs cells slots) (hx : p.tables.exec = Jvm.exec) {x : Int32} {i : Int} {pt : Nat} (hd : decode c.code pc = .ok (.ifCond .ge i, 3)) (hp : pc + 3 = pc') (ho : 0 ≤ (pc : Int) + i) (ht : ((pc : Int) + i).toNat = pt) (Kt : ¬ (x < (0 : Int32)) → Dn p e below P (T.setTop (mkF m pt Ls st))) (Kf : x < (0 : Int32) → Dn p e below P (T.setTop (mkF m pc' Ls st))) : Dn p e below P (T.setTop (mkF m pc Ls (.int x :: st))) := by
  subst hp
  by_cases hq : x < (0 : Int32)
  · obtain ⟨s₂, o, h1, h2⟩ := Kf hq
    exact ⟨s₂, o, XS.ifNo X.here hx rfl hd rfl ((if0 _ _).trans (tlt hq).2.1) h1, h2⟩
  · obtain ⟨s₂, o, h1, h2⟩ := Kt hq
    exact ⟨s₂, o, XS.ifYes X.here hx rfl (pc0 := pc) rfl hd rfl ((if0 _ _).trans (flt hq).2.1) ho ht h1, h2⟩
theorem o_icmp_ge (X : Stand p l e R s m args below meth c T locs cells slots) (hx : p.tables.exec = Jvm.exec) {x y : Int32} {i : Int} {pt : Nat} (hd : decode c.code pc = .ok (.if_icmp .ge i, 3)) (hp : pc + 3 = pc') (ho : 0 ≤ (pc : Int) + i) (ht : ((pc : Int) + i).toNat = pt) (Kt : ¬ (x < y) → Dn p e below P (T.setTop (mkF m pt Ls st))) (Kf : x < y → Dn p e below P (T.setTop (mkF m pc' Ls st))) : Dn p e below P (T.setTop (mkF m pc Ls (.int y :: .int x :: st))) := by
  subst hp
  by_cases hq : x < y
  · obtain ⟨s₂, o, h1, h2⟩ := Kf hq
    exact ⟨s₂, o, XS.icmpNo X.here hx rfl hd rfl (tlt hq).2.1 h1, h2⟩
  · obtain ⟨s₂, o, h1, h2⟩ := Kt hq
    exact ⟨s₂, o, XS.icmpYes X.here hx rfl (pc0 := pc) rfl hd rfl (flt hq).2.1 ho ht h1, h2⟩
theorem o_lif_ge (X : Stand p l e R s m args below meth c T locs cells slots) (hx : p.tables.exec = Jvm.exec) {x y : Int64} {i : Int} {pt : Nat} (hd : decode c.code pc = .ok (.ifCond .ge i, 3)) (hp : pc + 3 = pc') (ho : 0 ≤ (pc : Int) + i) (ht : ((pc : Int) + i).toNat = pt) (Kt : ¬ (x < y) → Dn p e below P (T.setTop (mkF m pt Ls st))) (Kf : x < y → Dn p e below P (T.setTop (mkF m pc' Ls st))) : Dn p e below P (T.setTop (mkF m pc Ls (.int (lcmpW x y) :: st))) := by
  subst hp
  by_cases hq : x < y
  · obtain ⟨s₂, o, h1, h2⟩ := Kf hq
    exact ⟨s₂, o, XS.ifNo X.here hx rfl hd rfl ((if0 _ _).trans (tlt ((lw_lt x y).mpr hq)).2.1) h1, h2⟩
  · obtain ⟨s₂, o, h1, h2⟩ := Kt hq
    exact ⟨s₂, o, XS.ifYes X.here hx rfl (pc0 := pc) rfl hd rfl ((if0 _ _).trans (flt (fun z => hq ((lw_lt x y).mp z))).2.1) ho ht h1, h2⟩
theorem o_if_gt (X : Stand p l e R s m args below meth c T locs cells slots) (hx : p.tables.exec = Jvm.exec) {x : Int32} {i : Int} {pt : Nat} (hd : decode c.code pc = .ok (.ifCond .gt i, 3)) (hp : pc + 3 = pc') (ho : 0 ≤ (pc : Int) + i) (ht : ((pc : Int) + i).toNat = pt) (Kt : (0 : Int32) < x → Dn p e below P (T.setTop (mkF m pt Ls st))) (Kf : ¬ ((0 : Int32) < x) → Dn p e below P (T.setTop (mkF m pc' Ls st))) : Dn p e below P (T.setTop (mkF m pc Ls (.int x :: st))) := by
  subst hp
  by_cases hq : (0 : Int32) < x
  · obtain ⟨s₂, o, h1, h2⟩ := Kt hq
    exact ⟨s₂, o, XS.ifYes X.here hx rfl (pc0 := pc) rfl hd rfl ((if0 _ _).trans (tlt hq).2.2.1) ho ht h1, h2⟩
  · obtain ⟨s₂, o, h1, h2⟩ := Kf hq
    exact ⟨s₂, o, XS.ifNo X.here hx rfl hd rfl ((if0 _ _).trans (flt hq).2.2.1) h1, h2⟩
theorem o_icmp_gt (X : Stand p l e R s m args below meth c T locs cells slots) (hx : p.tables.exec = Jvm.exec) {x y : Int32} {i : Int} {pt : Nat} (hd : decode c.code pc = .ok (.if_icmp .gt i, 3)) (hp : pc + 3 = pc') (ho : 0 ≤ (pc : Int) + i) (ht : ((pc : Int) + i).toNat = pt) (Kt : y < x → Dn p e below P (T.setTop (mkF m pt Ls st))) (Kf : ¬ (y < x) → Dn p e below P (T.setTop (mkF m pc' Ls st))) : Dn p e below P (T.setTop (mkF m pc Ls (.int y :: .int x :: st))) := by
  subst hp
  by_cases hq : y < x
  · obtain ⟨s₂, o, h1, h2⟩ := Kt hq
    exact ⟨s₂, o, XS.icmpYes X.here hx rfl (pc0 := pc) rfl hd rfl (tlt hq).2.2.1 ho ht h1, h2⟩
  · obtain ⟨s₂, o, h1, h2⟩ := Kf hq
    exact ⟨s₂, o, XS.icmpNo X.here hx rfl hd rfl (flt hq).2.2.1 h1, h2⟩
theorem o_lif_gt (X : Stand p l e R s m args below meth c T locs cells slots) (hx : p.tables.exec = Jvm.exec) {x y : Int64} {i : Int} {pt : Nat} (hd : decode c.code pc = .ok (.ifCond .gt i, 3)) (hp : pc + 3 = pc') (ho : 0 ≤ (pc : Int) + i) (ht : ((pc : Int) + i).toNat = pt) (Kt : y < x → Dn p e below P (T.setTop (mkF m pt Ls st))) (Kf : ¬ (y < x) → Dn p e below P (T.setTop (mkF m pc' Ls st))) : Dn p e below P (T.setTop (mkF m pc Ls (.int (lcmpW x y) :: st))) := by
  subst hp
  by_cases hq : y < x
  · obtain ⟨s₂, o, h1, h2⟩ := Kt hq
    exact ⟨s₂, o, XS.ifYes X.here hx rfl (pc0 := pc) rfl hd rfl ((if0 _ _).trans (tlt ((lw_gt x y).mpr hq)).2.2.1) ho ht h1, h2⟩
  · obtain ⟨s₂, o, h1, h2⟩ := Kf hq
    exact ⟨s₂, o, XS.ifNo X.here hx rfl hd rfl ((if0 _ _).trans (flt (fun z => hq ((lw_gt x y).mp z))).2.2.1) h1, h2⟩
theorem o_if_le (X : Stand p l e R s m args below meth c T locs cells slots) (hx : p.tables.exec = Jvm.exec) {x : Int32} {i : Int} {pt : Nat} (hd : decode c.code pc = .ok (.ifCond .le i, 3)) (hp : pc + 3 = pc') (ho : 0 ≤ (pc : Int) + i) (ht : ((pc : Int) + i).toNat = pt) (Kt : ¬ ((0 : Int32) < x) → Dn p e below P (T.setTop (mkF m pt Ls st))) (Kf : (0 : Int32) < x → Dn p e below P (T.setTop (mkF m pc' Ls st))) : Dn p e below P (T.setTop (mkF m pc Ls (.int x :: st))) := by
  subst hp
  by_cases hq : (0 : Int32) < x
  · obtain ⟨s₂, o, h1, h2⟩ := Kf hq
    exact ⟨s₂, o, XS.ifNo X.here hx rfl hd rfl ((if0 _ _).trans (tlt hq).2.2.2) h1, h2⟩
  · obtain ⟨s₂, o, h1, h2⟩ := Kt hq
    exact ⟨s₂, o, XS.ifYes X.here hx rfl (pc0 := pc) rfl hd rfl ((if0 _ _).trans (flt hq).2.2.2) ho ht h1, h2⟩
theorem o_icmp_le (X : Stand p l e R s m args below meth c T locs cells slots) (hx : p.tables.exec = Jvm.exec) {x y : Int32} {i : Int} {pt : Nat} (hd : decode c.code pc = .ok (.if_icmp .le i, 3)) (hp : pc + 3 = pc') (ho : 0 ≤ (pc : Int) + i) (ht : ((pc : Int) + i).toNat = pt) (Kt : ¬ (y < x) → Dn p e below P (T.setTop (mkF m pt Ls st))) (Kf : y < x → Dn p e below P (T.setTop (mkF m pc' Ls st))) : Dn p e below P (T.setTop (mkF m pc Ls (.int y :: .int x :: st))) := by
  subst hp
  by_cases hq : y < x
  · obtain ⟨s₂, o, h1, h2⟩ := Kf hq
    exact ⟨s₂, o, XS.icmpNo X.here hx rfl hd rfl (tlt hq).2.2.2 h1, h2⟩
  · obtain ⟨s₂, o, h1, h2⟩ := Kt hq
    exact ⟨s₂, o, XS.icmpYes X.here hx rfl (pc0 := pc) rfl hd rfl (flt hq).2.2.2 ho ht h1, h2⟩
theorem o_lif_le (X : Stand p l e R s m args below meth c T locs cells slots) (hx : p.tables.exec = Jvm.exec) {x y : Int64} {i : Int} {pt : Nat} (hd : decode c.code pc = .ok (.ifCond .le i, 3)) (hp : pc + 3 = pc') (ho : 0 ≤ (pc : Int) + i) (ht : ((pc : Int) + i).toNat = pt) (Kt : ¬ (y < x) → Dn p e below P (T.setTop (mkF m pt Ls st))) (Kf : y < x → Dn p e below P (T.setTop (mkF m pc' Ls st))) : Dn p e below P (T.setTop (mkF m pc Ls (.int (lcmpW x y) :: st))) := by
  subst hp
  by_cases hq : y < x
  · obtain ⟨s₂, o, h1, h2⟩ := Kf hq
    exact ⟨s₂, o, XS.ifNo X.here hx rfl hd rfl ((if0 _ _).trans (tlt ((lw_gt x y).mpr hq)).2.2.2) h1, h2⟩
  · obtain ⟨s₂, o, h1, h2⟩ := Kt hq
    exact ⟨s₂, o, XS.ifYes X.here hx rfl (pc0 := pc) rfl hd rfl ((if0 _ _).trans (flt (fun z => hq ((lw_gt x y).mp z))).2.2.2) ho ht h1, h2⟩
theorem o_acmp_eq (X : Stand p l e R s m args below meth c T locs cells slots) (hx : p.tables.exec = Jvm.exec) {x y : Value} {i : Int} {pt : Nat} (hd : decode c.code pc = .ok (.if_acmp .eq i, 3)) (hp : pc + 3 = pc') (ho : 0 ≤ (pc : Int) + i) (ht : ((pc : Int) + i).toNat = pt) (hv : x.isRef = true) (hw : y.isRef = true) (Kt : x = y → Dn p e below P (T.setTop (mkF m pt Ls st))) (Kf : ¬ (x = y) → Dn p e below P (T.setTop (mkF m pc' Ls st))) : Dn p e below P (T.setTop (mkF m pc Ls (y :: x :: st))) := by
  subst hp
  by_cases hq : x = y
  · obtain ⟨s₂, o, h1, h2⟩ := Kt hq
    exact ⟨s₂, o, Jvm.RoadKit.acmp (g := mkF m pc Ls (y :: x :: st)) X hx rfl hv hw (pc0 := pc) (same := true) rfl hd rfl (decide_eq_true hq) ho ht.symm h1, h2⟩
  · obtain ⟨s₂, o, h1, h2⟩ := Kf hq
    exact ⟨s₂, o, Jvm.RoadKit.acmp (g := mkF m pc Ls (y :: x :: st)) X hx rfl hv hw (pc0 := pc) (same := false) rfl hd rfl (decide_eq_false hq) ho rfl h1, h2⟩
theorem o_acmp_ne (X : Stand p l e R s m args below meth c T locs cells slots) (hx : p.tables.exec = Jvm.exec) {x y : Value} {i : Int} {pt : Nat} (hd : decode c.code pc = .ok (.if_acmp .ne i, 3)) (hp : pc + 3 = pc') (ho : 0 ≤ (pc : Int) + i) (ht : ((pc : Int) + i).toNat = pt) (hv : x.isRef = true) (hw : y.isRef = true) (Kt : ¬ (x = y) → Dn p e below P (T.setTop (mkF m pt Ls st))) (Kf : x = y → Dn p e below P (T.setTop (mkF m pc' Ls st))) : Dn p e below P (T.setTop (mkF m pc Ls (y :: x :: st))) := by
  subst hp
  by_cases hq : x = y
  · obtain ⟨s₂, o, h1, h2⟩ := Kf hq
    exact ⟨s₂, o, Jvm.RoadKit.acmp (g := mkF m pc Ls (y :: x :: st)) X hx rfl hv hw (pc0 := pc) (same := true) rfl hd rfl (decide_eq_true hq) ho rfl h1, h2⟩
  · obtain ⟨s₂, o, h1, h2⟩ := Kt hq
    exact ⟨s₂, o, Jvm.RoadKit.acmp (g := mkF m pc Ls (y :: x :: st)) X hx rfl hv hw (pc0 := pc) (same := false) rfl hd rfl (decide_eq_false hq) ho ht.symm h1, h2⟩
theorem o_ifnull_no (X : Stand p l e R s m args below meth c T locs cells slots) (hx : p.tables.exec = Jvm.exec) {b : Addr} {i : Int} (hd : decode c.code pc = .ok (.ifnull i, 3)) (hp : pc + 3 = pc') (K : Dn p e below P (T.setTop (mkF m pc' Ls st))) : Dn p e below P (T.setTop (mkF m pc Ls (.ref b :: st))) := by
  subst hp
  obtain ⟨s₂, o, h1, h2⟩ := K
  exact ⟨s₂, o, XS.ifnullNo X.here hx rfl hd rfl h1, h2⟩
theorem o_ifnull_yes (X : Stand p l e R s m args below meth c T locs cells slots) (hx : p.tables.exec = Jvm.exec) {i : Int} (hd : decode c.code pc = .ok (.ifnull i, 3)) (ho : 0 ≤ (pc : Int) + i) (hp : ((pc : Int) + i).toNat = pc') (K : Dn p e below P (T.setTop (mkF m pc' Ls st))) : Dn p e below P (T.setTop (mkF m pc Ls (.null :: st))) := by
  obtain ⟨s₂, o, h1, h2⟩ := K
  exact ⟨s₂, o, XS.ifnullYes X.here hx rfl (pc0 := pc) rfl hd rfl ho hp h1, h2⟩
theorem o_ifnonnull_yes (X : Stand p l e R s m args below meth c T locs cells slots) (hx : p.tables.exec = Jvm.exec) {b : Addr} {i : Int} (hd : decode c.code pc = .ok (.ifnonnull i, 3)) (ho : 0 ≤ (pc : Int) + i) (hp : ((pc : Int) + i).toNat = pc') (K : Dn p e below P (T.setTop (mkF m pc' Ls st))) : Dn p e below P (T.setTop (mkF m pc Ls (.ref b :: st))) := by
  obtain ⟨s₂, o, h1, h2⟩ := K
  exact ⟨s₂, o, XS.ifnonnullYes X.here hx rfl (pc0 := pc) rfl hd rfl ho hp h1, h2⟩
theorem o_ldc2 (X : Stand p l e R s m args below meth c T locs cells slots) (hx : p.tables.exec = Jvm.exec) (hZ : Z.Warmed39 s.vm) {own : String} {index : Nat} {v : Int64} (hown : s.vm.findClass own = some m.cls) (w : (Jvm.Cond.constantLong own index v).before a0 Z = true) (hd : decode c.code pc = .ok (.ldc2_w index, 3)) (hp : pc + 3 = pc') (K : Dn p e below P (T.setTop (mkF m pc' Ls (.long v :: st)))) : Dn p e below P (T.setTop (mkF m pc Ls st)) := by
  subst hp
  exact go (X.ldc2Long hx hown (mvT hZ w) (g := mkF m pc Ls st) rfl hd) K
theorem o_ldc (X : Stand p l e R s m args below meth c T locs cells slots) (hx : p.tables.exec = Jvm.exec) (hZ : Z.Warmed39 s.vm) {own : String} {index : Nat} {v : Int32} (hown : s.vm.findClass own = some m.cls) (w : (Jvm.Cond.constant own index v).before a0 Z = true) (hd : decode c.code pc = .ok (.ldc index, 2)) (hp : pc + 2 = pc') (K : Dn p e below P (T.setTop (mkF m pc' Ls (.int v :: st)))) : Dn p e below P (T.setTop (mkF m pc Ls st)) := by
  subst hp
  exact go (X.ldcInt hx hown (mvT hZ w) (g := mkF m pc Ls st) rfl hd) K
theorem o_ldcw (X : Stand p l e R s m args below meth c T locs cells slots) (hx : p.tables.exec = Jvm.exec) (hZ : Z.Warmed39 s.vm) {own : String} {index : Nat} {v : Int32} (hown : s.vm.findClass own = some m.cls) (w : (Jvm.Cond.constant own index v).before a0 Z = true) (hd : decode c.code pc = .ok (.ldc_w index, 3)) (hp : pc + 3 = pc') (K : Dn p e below P (T.setTop (mkF m pc' Ls (.int v :: st)))) : Dn p e below P (T.setTop (mkF m pc Ls st)) := by
  subst hp
  exact go (X.ldcwInt hx hown (mvT hZ w) (g := mkF m pc Ls st) rfl hd) K
theorem o_dup2 (X : Stand p l e R s m args below meth c T locs cells slots) (hx : p.tables.exec = Jvm.exec) {v w : Value} (hd : decode c.code pc = .ok (.dup2, 1)) (hp : pc + 1 = pc') (hv : v.category = 1) (hw : w.category = 1) (K : Dn p e below P (T.setTop (mkF m pc' Ls (v :: w :: v :: w :: st)))) : Dn p e below P (T.setTop (mkF m pc Ls (v :: w :: st))) := by
  subst hp
  obtain ⟨s₂, o, h1, h2⟩ := K
  exact ⟨s₂, o, XT.dup2 X.here hx rfl hd rfl hv hw h1, h2⟩
theorem o_iaload (X : Stand p l e R s m args below meth c T locs cells slots) (hx : p.tables.exec = Jvm.exec) (hZ : Z.Warmed39 s.vm) (eT : T.heap = h) {a : Addr} {k : ClassId} {n j : Int32} {vs : List Value} {d v : Value} (V : Arv Z h a k .int n vs d) (hj : ¬ j < 0 ∧ j < n) (hv : vs.getD j.toNatClampNeg d = v) (hd : decode c.code pc = .ok (.iaload, 1)) (hp : pc + 1 = pc') (K : Dn p e below P (T.setTop (mkF m pc' Ls (v :: st)))) : Dn p e below P (T.setTop (mkF m pc Ls (.int j :: .ref a :: st))) := by
  subst hp
  obtain ⟨cl, A, -, S, N, H, -⟩ := V
  have hin := inb_of S hj
  exact go (X.iaload hx (j := j) (v := v) (by rw [eT]; exact A.1) (State.isArrayOf_alike hZ.alike A.2.1) A.2.2 hin (H.at hin hv) (g := mkF m pc Ls (.int j :: .ref a :: st)) rfl rfl hd) K
theorem o_laload (X : Stand p l e R s m args below meth c T locs cells slots) (hx : p.tables.exec = Jvm.exec) (hZ : Z.Warmed39 s.vm) (eT : T.heap = h) {a : Addr} {k : ClassId} {n j : Int32} {vs : List Value} {d v : Value} (V : Arv Z h a k .long n vs d) (hj : ¬ j < 0 ∧ j < n) (hv : vs.getD j.toNatClampNeg d = v) (hd : decode c.code pc = .ok (.laload, 1)) (hp : pc + 1 = pc') (K : Dn p e below P (T.setTop (mkF m pc' Ls (v :: st)))) : Dn p e below P (T.setTop (mkF m pc Ls (.int j :: .ref a :: st))) := by
  subst hp
  obtain ⟨cl, A, -, S, N, H, -⟩ := V
  have hin := inb_of S hj
  exact go (X.laload hx (j := j) (v := v) (by rw [eT]; exact A.1) (State.isArrayOf_alike hZ.alike A.2.1) A.2.2 hin (H.at hin hv) (g := mkF m pc Ls (.int j :: .ref a :: st)) rfl rfl hd) K
theorem o_caload (X : Stand p l e R s m args below meth c T locs cells slots) (hx : p.tables.exec = Jvm.exec) (hZ : Z.Warmed39 s.vm) (eT : T.heap = h) {a : Addr} {k : ClassId} {n j : Int32} {vs : List Value} {d v : Value} (V : Arv Z h a k .char n vs d) (hj : ¬ j < 0 ∧ j < n) (hv : vs.getD j.toNatClampNeg d = v) (hd : decode c.code pc = .ok (.caload, 1)) (hp : pc + 1 = pc') (K : Dn p e below P (T.setTop (mkF m pc' Ls (v :: st)))) : Dn p e below P (T.setTop (mkF m pc Ls (.int j :: .ref a :: st))) := by
  subst hp
  obtain ⟨cl, A, -, S, N, H, -⟩ := V
  have hin := inb_of S hj
  exact go (X.caload hx (j := j) (v := v) (by rw [eT]; exact A.1) (State.isArrayOf_alike hZ.alike A.2.1) A.2.2 hin (H.at hin hv) (g := mkF m pc Ls (.int j :: .ref a :: st)) rfl rfl hd) K
theorem o_baload (X : Stand p l e R s m args below meth c T locs cells slots) (hx : p.tables.exec = Jvm.exec) (hZ : Z.Warmed39 s.vm) (eT : T.heap = h) {a : Addr} {k : ClassId} {n j : Int32} {vs : List Value} {d v : Value} (V : Arv Z h a k .byte n vs d) (hj : ¬ j < 0 ∧ j < n) (hv : vs.getD j.toNatClampNeg d = v) (hd : decode c.code pc = .ok (.baload, 1)) (hp : pc + 1 = pc') (K : Dn p e below P (T.setTop (mkF m pc' Ls (v :: st)))) : Dn p e below P (T.setTop (mkF m pc Ls (.int j :: .ref a :: st))) := by
  subst hp
  obtain ⟨cl, A, -, S, N, H, -⟩ := V
  have hin := inb_of S hj
  exact go (X.baloadBytes hx (j := j) (v := v) (by rw [eT]; exact A.1) (State.isArrayOf_alike hZ.alike A.2.1) A.2.2 hin (H.at hin hv) (g := mkF m pc Ls (.int j :: .ref a :: st)) rfl rfl hd) K
theorem o_aaload (X : Stand p l e R s m args below meth c T locs cells slots) (hx : p.tables.exec = Jvm.exec) (hZ : Z.Warmed39 s.vm) (eT : T.heap = h) {a : Addr} {k : ClassId} {n j : Int32} {vs : List Value} {d v : Value} {ty : FieldType} (V : Arv Z h a k ty n vs d) (hty : ty.isReference = true) (hj : ¬ j < 0 ∧ j < n) (hv : vs.getD j.toNatClampNeg d = v) (hd : decode c.code pc = .ok (.aaload, 1)) (hp : pc + 1 = pc') (K : Dn p e below P (T.setTop (mkF m pc' Ls (v :: st)))) : Dn p e below P (T.setTop (mkF m pc Ls (.int j :: .ref a :: st))) := by
  subst hp
  obtain ⟨cl, A, -, S, N, H, -⟩ := V
  have hin := inb_of S hj
  exact go (X.aaload hx (j := j) (v := v) (by rw [eT]; exact A.1) (State.isArrayOf_alike hZ.alike A.2.1) hty A.2.2 hin (H.at hin hv) (g := mkF m pc Ls (.int j :: .ref a :: st)) rfl rfl hd) K
theorem o_arraylength (X : Stand p l e R s m args below meth c T locs cells slots) (hx : p.tables.exec = Jvm.exec) (hZ : Z.Warmed39 s.vm) (eT : T.heap = h) {a : Addr} {k : ClassId} {n : Int32} {vs : List Value} {d : Value} {ty : FieldType} (V : Arv Z h a k ty n vs d) (hd : decode c.code pc = .ok (.arraylength, 1)) (hp : pc + 1 = pc') (K : Dn p e below P (T.setTop (mkF m pc' Ls (.int n :: st)))) : Dn p e below P (T.setTop (mkF m pc Ls (.ref a :: st))) := by
  subst hp
  obtain ⟨cl, A, -, S, N, H, -⟩ := V
  refine go (X.arraylength hx (by rw [eT]; exact A.1) (State.isArrayOf_alike hZ.alike A.2.1) (g := mkF m pc Ls (.ref a :: st)) rfl rfl hd) ?_
  rw [len_of S N]
  exact K
theorem o_iastore (X : Stand p l e R s m args below meth c T locs cells slots) (hx : p.tables.exec = Jvm.exec) (hZ : Z.Warmed39 s.vm) (eT : T.heap = h) {a : Addr} {k : ClassId} {n j : Int32} {vs : List Value} {d : Value} {x : Int32} (V : Arv Z h a k .int n vs d) (hj : ¬ j < 0 ∧ j < n) (i : Nat) (hi : j.toNatClampNeg = i) (hl : i < vs.length) (hd : decode c.code pc = .ok (.iastore, 1)) (hp : pc + 1 = pc') (K : ∀ T' h', Stand p l e R s m args below meth c T' (locs ++ [⟨a, j.toNatClampNeg⟩]) cells slots → T'.heap = h' → Wr h h' a j.toNatClampNeg (.int x) → Arv Z h' a k .int n (vs.set i (.int x)) d → Dn p e below P (T'.setTop (mkF m pc' Ls st))) : Dn p e below P (T.setTop (mkF m pc Ls (.int x :: .int j :: .ref a :: st))) := by
  subst hp
  obtain ⟨cl, A, q, S, N, H, G⟩ := V
  have hin := inb_of S hj
  obtain ⟨T', h', X', e', W', st'⟩ := stI X hx hZ eT A (j := j) (x := x) hin (g := mkF m pc Ls (.int x :: .int j :: .ref a :: st)) rfl rfl hd
  exact go st' (K T' h' X' e' W' (Arv.set A q S N H G rfl W' i hi hl))
theorem o_lastore (X : Stand p l e R s m args below meth c T locs cells slots) (hx : p.tables.exec = Jvm.exec) (hZ : Z.Warmed39 s.vm) (eT : T.heap = h) {a : Addr} {k : ClassId} {n j : Int32} {vs : List Value} {d : Value} {x : Int64} (V : Arv Z h a k .long n vs d) (hj : ¬ j < 0 ∧ j < n) (i : Nat) (hi : j.toNatClampNeg = i) (hl : i < vs.length) (hd : decode c.code pc = .ok (.lastore, 1)) (hp : pc + 1 = pc') (K : ∀ T' h', Stand p l e R s m args below meth c T' (locs ++ [⟨a, j.toNatClampNeg⟩]) cells slots → T'.heap = h' → Wr h h' a j.toNatClampNeg (.long x) → Arv Z h' a k .long n (vs.set i (.long x)) d → Dn p e below P (T'.setTop (mkF m pc' Ls st))) : Dn p e below P (T.setTop (mkF m pc Ls (.long x :: .int j :: .ref a :: st))) := by
  subst hp
  obtain ⟨cl, A, q, S, N, H, G⟩ := V
  have hin := inb_of S hj
  obtain ⟨T', h', X', e', W', st'⟩ := stJ X hx hZ eT A (j := j) (x := x) hin (g := mkF m pc Ls (.long x :: .int j :: .ref a :: st)) rfl rfl hd
  exact go st' (K T' h' X' e' W' (Arv.set A q S N H G rfl W' i hi hl))
theorem o_castore (X : Stand p l e R s m args below meth c T locs cells slots) (hx : p.tables.exec = Jvm.exec) (hZ : Z.Warmed39 s.vm) (eT : T.heap = h) {a : Addr} {k : ClassId} {n j : Int32} {vs : List Value} {d : Value} {x : Int32} (V : Arv Z h a k .char n vs d) (hj : ¬ j < 0 ∧ j < n) (i : Nat) (hi : j.toNatClampNeg = i) (hl : i < vs.length) (hd : decode c.code pc = .ok (.castore, 1)) (hp : pc + 1 = pc') (K : ∀ T' h', Stand p l e R s m args below meth c T' (locs ++ [⟨a, j.toNatClampNeg⟩]) cells slots → T'.heap = h' → Wr h h' a j.toNatClampNeg (.int (nar .char x)) → Arv Z h' a k .char n (vs.set i (.int (nar .char x))) d → Dn p e below P (T'.setTop (mkF m pc' Ls st))) : Dn p e below P (T.setTop (mkF m pc Ls (.int x :: .int j :: .ref a :: st))) := by
  subst hp
  obtain ⟨cl, A, q, S, N, H, G⟩ := V
  have hin := inb_of S hj
  obtain ⟨T', h', X', e', W', st'⟩ := stC X hx hZ eT A (j := j) (x := x) hin (g := mkF m pc Ls (.int x :: .int j :: .ref a :: st)) rfl rfl hd
  exact go st' (K T' h' X' e' W' (Arv.set A q S N H G (fits_nar_char x) W' i hi hl))
theorem o_bastore (X : Stand p l e R s m args below meth c T locs cells slots) (hx : p.tables.exec = Jvm.exec) (hZ : Z.Warmed39 s.vm) (eT : T.heap = h) {a : Addr} {k : ClassId} {n j : Int32} {vs : List Value} {d : Value} {x : Int32} (V : Arv Z h a k .byte n vs d) (hj : ¬ j < 0 ∧ j < n) (i : Nat) (hi : j.toNatClampNeg = i) (hl : i < vs.length) (hd : decode c.code pc = .ok (.bastore, 1)) (hp : pc + 1 = pc') (K : ∀ T' h', Stand p l e R s m args below meth c T' (locs ++ [⟨a, j.toNatClampNeg⟩]) cells slots → T'.heap = h' → Wr h h' a j.toNatClampNeg (.int (nar .byte x)) → Arv Z h' a k .byte n (vs.set i (.int (nar .byte x))) d → Dn p e below P (T'.setTop (mkF m pc' Ls st))) : Dn p e below P (T.setTop (mkF m pc Ls (.int x :: .int j :: .ref a :: st))) := by
  subst hp
  obtain ⟨cl, A, q, S, N, H, G⟩ := V
  have hin := inb_of S hj
  obtain ⟨T', h', X', e', W', st'⟩ := stB X hx hZ eT A (j := j) (x := x) hin (g := mkF m pc Ls (.int x :: .int j :: .ref a :: st)) rfl rfl hd
  exact go st' (K T' h' X' e' W' (Arv.set A q S N H G (fits_nar_byte x) W' i hi hl))
theorem o_newarray (X : Stand p l e R s m args below meth c T locs cells slots) (hx : p.tables.exec = Jvm.exec) (hZ : Z.Warmed39 s.vm) (eT : T.heap = h) {aty : ArrayType} (w : (Jvm.Cond.arrayClass (newarray.typeOf aty)).before a0 Z = true) (hd : decode c.code pc = .ok (.newarray aty, 2)) (hp : pc + 2 = pc') {n : Int32} (hn : ¬ n < 0) (cap : Nat) (hcap : n.toNatClampNeg ≤ cap) (hb : cap * 8 ≤ 536870912) (hc : cells + 1 ≤ R.cells) (hs : slots + cap ≤ R.slots) (K : ∀ T' h' a k, a = h.size → Stand p l e R s m args below meth c T' locs (cells + 1) (slots + cap) → T'.heap = h' → Ext h h' → Arv Z h' a k (newarray.typeOf aty) n [] (defaultValue (newarray.typeOf aty)) → Dn p e below P (T'.setTop (mkF m pc' Ls (.ref a :: st)))) : Dn p e below P (T.setTop (mkF m pc Ls (.int n :: st))) := by
  subst hp
  obtain ⟨T', h', k, X', e', E', A', st'⟩ := newP X hx hZ w eT (g := mkF m pc Ls (.int n :: st)) rfl hd rfl hn hcap hb hc hs
  exact go st' (K T' h' _ k rfl X' e' E' (Arv.new A' hn))
theorem o_getfield (X : Stand p l e R s m args below meth c T locs cells slots) (hx : p.tables.exec = Jvm.exec) (hZ : Z.Warmed39 s.vm) {own O n d : String} {index : Nat} (hown : s.vm.findClass own = some m.cls) (w : (Jvm.Cond.fieldLink own index O n d).before a0 Z = true) (eT : T.heap = h) {a : Addr} {v : Value} (F : Fld Z h a O n d v) (hd : decode c.code pc = .ok (.getfield index, 3)) (hp : pc + 3 = pc') (K : ∀ T', Stand p l e R s m args below meth c T' locs cells slots → T'.heap = h → Dn p e below P (T'.setTop (mkF m pc' Ls (v :: st)))) : Dn p e below P (T.setTop (mkF m pc Ls (.ref a :: st))) := by
  subst hp
  obtain ⟨T', X', e', st'⟩ := getF X hx hZ hown (host := "") (Or.inl w) Via.refl eT F (g := mkF m pc Ls (.ref a :: st)) rfl rfl hd
  exact go st' (K T' X' e')
theorem o_getfieldN (X : Stand p l e R s m args below meth c T locs cells slots) (hx : p.tables.exec = Jvm.exec) (hZ : Z.Warmed39 s.vm) {own O n d host : String} {index : Nat} (hown : s.vm.findClass own = some m.cls) (w : (Jvm.Cond.fieldLinkNest own index O n d host).before a0 Z = true) (eT : T.heap = h) {a : Addr} {v : Value} (F : Fld Z h a O n d v) (hd : decode c.code pc = .ok (.getfield index, 3)) (hp : pc + 3 = pc') (K : ∀ T', Stand p l e R s m args below meth c T' locs cells slots → T'.heap = h → Dn p e below P (T'.setTop (mkF m pc' Ls (v :: st)))) : Dn p e below P (T.setTop (mkF m pc Ls (.ref a :: st))) := by
  subst hp
  obtain ⟨T', X', e', st'⟩ := getF X hx hZ hown (host := host) (Or.inr w) Via.refl eT F (g := mkF m pc Ls (.ref a :: st)) rfl rfl hd
  exact go st' (K T' X' e')
theorem o_putfield (X : Stand p l e R s m args below meth c T locs cells slots) (hx : p.tables.exec = Jvm.exec) (hZ : Z.Warmed39 s.vm) {own O n d C : String} {index kk : Nat} {ty : FieldType} (hown : s.vm.findClass own = some m.cls) (w : (Jvm.Cond.fieldLink own index O n d).before a0 Z = true) (eT : T.heap = h) {a : Addr} {v v' old : Value} (F : Fld Z h a O n d old) (E : Exa Z h a C) (L : (Jvm.Cond.lays C O n d).before a0 Z = true ∨ ((Jvm.Cond.laysFinal C O n d).before a0 Z = true ∧ own = O ∧ meth.name = "<init>")) (wi : (Jvm.Cond.instantiable C kk).before a0 Z = true) (hty : parseFieldDescriptor d = some ty) (hn : narrow ty v = v') (hf : fits ty v' = true) (hd : decode c.code pc = .ok (.putfield index, 3)) (hp : pc + 3 = pc') (K : ∀ T' h', Stand p l e R s m args below meth c T' (locs ++ [⟨a, Jvm.RoadKit.slotOf Z O n d⟩]) cells slots → T'.heap = h' → Wr h h' a (Jvm.RoadKit.slotOf Z O n d) v' → Fld Z h' a O n d v' → Exa Z h' a C → Dn p e below P (T'.setTop (mkF m pc' Ls st))) : Dn p e below P (T.setTop (mkF m pc Ls (v :: .ref a :: st))) := by
  subst hp
  obtain ⟨T', h', X', e', W', st'⟩ := putFN X hx hZ hown w Via.refl eT F E L wi hty hn hf (g := mkF m pc Ls (v :: .ref a :: st)) rfl rfl hd
  exact go st' (K T' h' X' e' W' (F.same W') (E.wr W'))
theorem o_getstatic (X : Stand p l e R s m args below meth c T locs cells slots) (hx : p.tables.exec = Jvm.exec) (hZ : Z.Warmed39 s.vm) {own O n d : String} {index : Nat} (hown : s.vm.findClass own = some m.cls) (w : (Jvm.Cond.fieldLink own index O n d).before a0 Z = true) (eT : T.heap = h) {v : Value} (F : Sta Z h O n d v) (hd : decode c.code pc = .ok (.getstatic index, 3)) (hp : pc + 3 = pc') (K : ∀ T', Stand p l e R s m args below meth c T' locs cells slots → T'.heap = h → Dn p e below P (T'.setTop (mkF m pc' Ls (v :: st)))) : Dn p e below P (T.setTop (mkF m pc Ls st)) := by
  subst hp
  obtain ⟨T', X', e', st'⟩ := getS2 X hx hZ hown (host := "") (Or.inl w) Via.refl eT F (g := mkF m pc Ls st) rfl hd
  exact go st' (K T' X' e')
theorem o_new (X : Stand p l e R s m args below meth c T locs cells slots) (hx : p.tables.exec = Jvm.exec) (hZ : Z.Warmed39 s.vm) {own C : String} {index n : Nat} (hown : s.vm.findClass own = some m.cls) (w : (Jvm.Cond.classLink own index C).before a0 Z = true) (wi : (Jvm.Cond.instantiable C n).before a0 Z = true) (wz : (Jvm.Cond.initialized C).before a0 Z = true) (eT : T.heap = h) (hd : decode c.code pc = .ok (.new index, 3)) (hp : pc + 3 = pc') (hc : cells + 1 ≤ R.cells) (hs : slots + n ≤ R.slots) (K : ∀ T' h' a, a = h.size → Stand p l e R s m args below meth c T' locs (cells + 1) (slots + n) → T'.heap = h' → Ext h h' → Exa Z h' a C → (∀ {O nm d : String} {ty : FieldType}, Laid Z a0 C O nm d → parseFieldDescriptor d = some ty → Fld Z h' a O nm d (defaultValue ty)) → Dn p e below P (T'.setTop (mkF m pc' Ls (.ref a :: st)))) : Dn p e below P (T.setTop (mkF m pc Ls st)) := by
  subst hp
  obtain ⟨T', h', X', e', E', A', D', -, st'⟩ := newO X hx hZ hown w wi wz eT (g := mkF m pc Ls st) rfl hd hc hs
  exact go st' (K T' h' _ rfl X' e' E' A' D')
theorem o_initO (X : Stand p l e R s m args below meth c T locs cells slots) (hx : p.tables.exec = Jvm.exec) (hZ : Z.Warmed39 s.vm) {own : String} {index : Nat} (hown : s.vm.findClass own = some m.cls) (w1 : (Jvm.Cond.methodLink own index Lib.objectInit).before a0 Z = true) (w2 : (Jvm.Cond.instanceMethod Lib.objectInit).before a0 Z = true) (w3 : (Jvm.Cond.code Lib.objectInit ⟨#[0xb1]⟩ 1 none).before a0 Z = true) (eT : T.heap = h) (hsize : Ls.size = c.maxLocals) {a : Addr} (hd : decode c.code pc = .ok (.invokespecial index, 3)) (hp : pc + 3 = pc') (hf : 1 ≤ R.frames) {W : Nat} (hW : 2 * 0 + (st.map fun v => v.category).sum ≤ W) (hl : W + 12 ≤ R.locals) (K : ∀ T', Stand p l e R s m args below meth c T' locs cells slots → T'.heap = h → Dn p e below P (T'.setTop (mkF m pc' Ls st))) : Dn p e below P (T.setTop (mkF m pc Ls (.ref a :: st))) := by
  subst hp
  obtain ⟨T', X', e', st'⟩ := initO X hx hZ hown w1 w2 w3 eT (g := mkF m pc Ls (.ref a :: st)) rfl hsize rfl hd hf (W := W) hW hl
  exact go st' (K T' X' e')
theorem o_callS (X : Stand p l e R s m args below meth c T locs cells slots) (hx : p.tables.exec = Jvm.exec) (hZ : Z.Warmed39 s.vm) {own : String} {index : Nat} {y : MethodName} {bytes : ByteArray} {maxL : Nat} {ret : Option FieldType} {Rm : Room} {Q : Option Value → Heap → List Loc → Prop} {ps : List FieldType} (argsL : List Value) {as' : Array Value} (C : Ctr l Z y bytes maxL ret [] Rm as' h Q) (hown : s.vm.findClass own = some m.cls) (w1 : (Jvm.Cond.methodLink own index y).before a0 Z = true) (w2 : (Jvm.Cond.static y).before a0 Z = true) (w3 : (Jvm.Cond.initialized y.cls).before a0 Z = true) (w4 : (Jvm.Cond.code y bytes maxL ret).before a0 Z = true) (hy : y.cls ≠ "java/lang/invoke/MethodHandle" ∧ y.cls ≠ "java/lang/invoke/VarHandle") (hpd : parseMethodDescriptor y.desc = some ⟨ps, ret⟩) (eT : T.heap = h) (hsize : Ls.size = c.maxLocals) {stk : List Value} (has : as' = argsL.toArray) (hln : argsL.length = ps.length) (hst : stk = argsL.reverse ++ st) (hd : decode c.code pc = .ok (.invokestatic index, 3)) (hp : pc + 3 = pc') (W : Nat) (hW : 2 * 0 + (st.map fun v => v.category).sum ≤ W) (hf : Rm.frames + 1 ≤ R.frames) (hl : W + (maxL + 11) + Rm.locals ≤ R.locals) (hc : cells + Rm.cells ≤ R.cells) (hs : slots + Rm.slots ≤ R.slots) (K : ∀ T' v L, Stand p l e R s m args below meth c T' (locs ++ L) (cells + Rm.cells) (slots + Rm.slots) → Q v T'.heap L → Dn p e below P (T'.setTop (mkF m pc' Ls (v.toList ++ st)))) : Dn p e below P (T.setTop (mkF m pc Ls stk)) := by
  subst hp has hst
  obtain ⟨v, vm₁, ⟨T', L', k', n'⟩, -, X', ⟨L, hQ, l1, y1, z1⟩, st'⟩ := Jvm.LawKit.callS X hx (y := y) hown (mvT hZ w1) (mvT hZ w2) (mvT hZ w3) (mvT hZ w4) hy (backOf (W := W) C hZ w4 w3 hf hl) (g := mkF m pc Ls (argsL.reverse ++ st)) rfl hsize (argsL := argsL) (rest := st) (lenOf hpd hln) rfl hW hd (fun _ _ => ⟨rfl, eT, hc, hs⟩)
  dsimp only [Pt.U, Pt.locs, Pt.cells, Pt.slots] at X' l1 y1 z1 st' hQ
  subst l1 y1 z1
  exact go st' (K T' v L X' hQ)
theorem o_callI (X : Stand p l e R s m args below meth c T locs cells slots) (hx : p.tables.exec = Jvm.exec) (hZ : Z.Warmed39 s.vm) {own : String} {index : Nat} {y : MethodName} {bytes : ByteArray} {maxL : Nat} {Rm : Room} {Q : Option Value → Heap → List Loc → Prop} {ps : List FieldType} (a : Addr) (argsL : List Value) {as' : Array Value} (C : Ctr l Z y bytes maxL none [] Rm as' h Q) (hy1 : y.name = "<init>") (hown : s.vm.findClass own = some m.cls) (w1 : (Jvm.Cond.methodLink own index y).before a0 Z = true) (w2 : (Jvm.Cond.instanceMethod y).before a0 Z = true) (w3 : (Jvm.Cond.initialized y.cls).before a0 Z = true) (w4 : (Jvm.Cond.code y bytes maxL none).before a0 Z = true) (hy : y.cls ≠ "java/lang/invoke/MethodHandle" ∧ y.cls ≠ "java/lang/invoke/VarHandle") (hpd : parseMethodDescriptor y.desc = some ⟨ps, none⟩) (eT : T.heap = h) (hsize : Ls.size = c.maxLocals) {stk : List Value} (has : as' = (.ref a :: argsL).toArray) (hln : argsL.length = ps.length) (hst : stk = argsL.reverse ++ .ref a :: st) (hd : decode c.code pc = .ok (.invokespecial index, 3)) (hp : pc + 3 = pc') (W : Nat) (hW : 2 * 0 + (st.map fun v => v.category).sum ≤ W) (hf : Rm.frames + 1 ≤ R.frames) (hl : W + (maxL + 11) + Rm.locals ≤ R.locals) (hc : cells + Rm.cells ≤ R.cells) (hs : slots + Rm.slots ≤ R.slots) (K : ∀ T' v L, Stand p l e R s m args below meth c T' (locs ++ L) (cells + Rm.cells) (slots + Rm.slots) → Q v T'.heap L → Dn p e below P (T'.setTop (mkF m pc' Ls (v.toList ++ st)))) : Dn p e below P (T.setTop (mkF m pc Ls stk)) := by
  subst hp has hst
  obtain ⟨v, vm₁, ⟨T', L', k', n'⟩, -, X', ⟨L, hQ, l1, y1, z1⟩, st'⟩ := X.specialBack hx (y := y) hy1 hown (mvT hZ w1) (mvT hZ w2) (mvT hZ w4) hy (backOf (W := W) C hZ w4 w3 hf hl) (g := mkF m pc Ls (argsL.reverse ++ .ref a :: st)) rfl hsize (Steps.refl _) (a := a) (argsL := argsL) (rest := st) (lenOf hpd hln) rfl hW hd (fun _ _ => ⟨rfl, eT, hc, hs⟩)
  dsimp only [Pt.U, Pt.locs, Pt.cells, Pt.slots] at X' l1 y1 z1 st' hQ
  subst l1 y1 z1
  exact goS st' (K T' v L X' hQ)
theorem o_callV (X : Stand p l e R s m args below meth c T locs cells slots) (hx : p.tables.exec = Jvm.exec) (hZ : Z.Warmed39 s.vm) {own Cc : String} {index : Nat} {y : MethodName} {bytes : ByteArray} {maxL : Nat} {ret : Option FieldType} {Rm : Room} {Q : Option Value → Heap → List Loc → Prop} {ps : List FieldType} (a : Addr) (argsL : List Value) {as' : Array Value} (C : Ctr l Z y bytes maxL ret [] Rm as' h Q) (hown : s.vm.findClass own = some m.cls) (w1 : (Jvm.Cond.methodLink own index y).before a0 Z = true) (w5 : (Jvm.Cond.declares y).before a0 Z = true) (w6 : (Jvm.Cond.selects Cc y y).before a0 Z = true) (w2 : (Jvm.Cond.instanceMethod y).before a0 Z = true) (w3 : (Jvm.Cond.initialized y.cls).before a0 Z = true) (w4 : (Jvm.Cond.code y bytes maxL ret).before a0 Z = true) (hy : y.cls ≠ "java/lang/invoke/MethodHandle" ∧ y.cls ≠ "java/lang/invoke/VarHandle") (E : Exa Z h a Cc) (hpd : parseMethodDescriptor y.desc = some ⟨ps, ret⟩) (eT : T.heap = h) (hsize : Ls.size = c.maxLocals) {stk : List Value} (has : as' = (.ref a :: argsL).toArray) (hln : argsL.length = ps.length) (hst : stk = argsL.reverse ++ .ref a :: st) (hd : decode c.code pc = .ok (.invokevirtual index, 3)) (hp : pc + 3 = pc') (W : Nat) (hW : 2 * 0 + (st.map fun v => v.category).sum ≤ W) (hf : Rm.frames + 1 ≤ R.frames) (hl : W + (maxL + 11) + Rm.locals ≤ R.locals) (hc : cells + Rm.cells ≤ R.cells) (hs : slots + Rm.slots ≤ R.slots) (K : ∀ T' v L, Stand p l e R s m args below meth c T' (locs ++ L) (cells + Rm.cells) (slots + Rm.slots) → Q v T'.heap L → Dn p e below P (T'.setTop (mkF m pc' Ls (v.toList ++ st)))) : Dn p e below P (T.setTop (mkF m pc Ls stk)) := by
  subst hp has hst
  obtain ⟨cq, kq, qa, qb, qc⟩ := isOf (T := T) hZ eT E
  obtain ⟨v, vm₁, ⟨T', L', k', n'⟩, -, X', ⟨L, hQ, l1, y1, z1⟩, st'⟩ := X.virtualBack hx (y := y) (z := y) hown (mvT hZ w1) (mvT hZ w5) (notFace_of_selects (args := #[]) (mvT hZ w6)) (mvT hZ w6) (mvT hZ w2) hy (backOf (W := W) C hZ w4 w3 hf hl) qa qc (g := mkF m pc Ls (argsL.reverse ++ .ref a :: st)) rfl hsize (Steps.refl _) (argsL := argsL) (rest := st) (lenOf hpd hln) rfl hW hd (fun _ _ => ⟨rfl, eT, hc, hs⟩)
  dsimp only [Pt.U, Pt.locs, Pt.cells, Pt.slots] at X' l1 y1 z1 st' hQ
  subst l1 y1 z1
  exact goS st' (K T' v L X' hQ)
theorem o_callP (X : Stand p l e R s m args below meth c T locs cells slots) (hx : p.tables.exec = Jvm.exec) (hZ : Z.Warmed39 s.vm) {own : String} {index : Nat} {y : MethodName} {bytes : ByteArray} {maxL : Nat} {ret : Option FieldType} {Rm : Room} {Q : Option Value → Heap → List Loc → Prop} {ps : List FieldType} (a : Addr) (argsL : List Value) {as' : Array Value} (C : Ctr l Z y bytes maxL ret [] Rm as' h Q) (hown : s.vm.findClass own = some m.cls) (w1 : (Jvm.Cond.methodLink own index y).before a0 Z = true) {kk : Nat} (w6 : (Jvm.Cond.instantiable y.cls kk).before a0 Z = true) (w7 : (Jvm.Cond.privateMethod y).before a0 Z = true) (w2 : (Jvm.Cond.instanceMethod y).before a0 Z = true) (w3 : (Jvm.Cond.initialized y.cls).before a0 Z = true) (w4 : (Jvm.Cond.code y bytes maxL ret).before a0 Z = true) (hy : y.cls ≠ "java/lang/invoke/MethodHandle" ∧ y.cls ≠ "java/lang/invoke/VarHandle") {Cc : String} (E : Exa Z h a Cc) (hpd : parseMethodDescriptor y.desc = some ⟨ps, ret⟩) (eT : T.heap = h) (hsize : Ls.size = c.maxLocals) {stk : List Value} (has : as' = (.ref a :: argsL).toArray) (hln : argsL.length = ps.length) (hst : stk = argsL.reverse ++ .ref a :: st) (hd : decode c.code pc = .ok (.invokevirtual index, 3)) (hp : pc + 3 = pc') (W : Nat) (hW : 2 * 0 + (st.map fun v => v.category).sum ≤ W) (hf : Rm.frames + 1 ≤ R.frames) (hl : W + (maxL + 11) + Rm.locals ≤ R.locals) (hc : cells + Rm.cells ≤ R.cells) (hs : slots + Rm.slots ≤ R.slots) (K : ∀ T' v L, Stand p l e R s m args below meth c T' (locs ++ L) (cells + Rm.cells) (slots + Rm.slots) → Q v T'.heap L → Dn p e below P (T'.setTop (mkF m pc' Ls (v.toList ++ st)))) : Dn p e below P (T.setTop (mkF m pc Ls stk)) := by
  subst hp has hst
  obtain ⟨cq, q1, q2⟩ := E.cell
  obtain ⟨cc, kc, hcc, hkc, -, hni, -, -⟩ := Jvm.Cond.instantiable_spec (mvT (args := args) hZ w6)
  have hpv := Jvm.Cond.privateMethod_at (mvP hZ w7 (args := #[]))
  have hsel := selects_self_of_private (args := args) hcc hkc (Bool.or_eq_false_iff.mp hni).1 hpv (mvT hZ w2) hy
  obtain ⟨v, vm₁, ⟨T', L', k', n'⟩, -, X', ⟨L, hQ, l1, y1, z1⟩, st'⟩ := X.privateBack hx (y := y) hown (mvT hZ w1) (mvT hZ w2) hsel hpv (mvT hZ w4) hy (backOf (W := W) C hZ w4 w3 hf hl) (g := mkF m pc Ls (argsL.reverse ++ .ref a :: st)) rfl hsize (Steps.refl _) (a := a) (by rw [eT]; exact q1) q2 (argsL := argsL) (rest := st) (lenOf hpd hln) rfl hW hd (fun _ _ => ⟨rfl, eT, hc, hs⟩)
  dsimp only [Pt.U, Pt.locs, Pt.cells, Pt.slots] at X' l1 y1 z1 st' hQ
  subst l1 y1 z1
  exact goS st' (K T' v L X' hQ)
abbrev Pure (v0 : Value) (h0 : Heap) : Option Value → Heap → List Loc → Prop := fun v h L => v = some v0 ∧ L = [] ∧ h = h0
theorem o_callSP (X : Stand p l e R s m args below meth c T locs cells slots) (hx : p.tables.exec = Jvm.exec) (hZ : Z.Warmed39 s.vm) {own : String} {index : Nat} {y : MethodName} {bytes : ByteArray} {maxL : Nat} {ret : Option FieldType} {Rm : Room} {v0 : Value} {ps : List FieldType} (argsL : List Value) {as' : Array Value} (C : Ctr l Z y bytes maxL ret [] Rm as' h (Pure v0 h)) (hown : s.vm.findClass own = some m.cls) (w1 : (Jvm.Cond.methodLink own index y).before a0 Z = true) (w2 : (Jvm.Cond.static y).before a0 Z = true) (w3 : (Jvm.Cond.initialized y.cls).before a0 Z = true) (w4 : (Jvm.Cond.code y bytes maxL ret).before a0 Z = true) (hy : y.cls ≠ "java/lang/invoke/MethodHandle" ∧ y.cls ≠ "java/lang/invoke/VarHandle") (hpd : parseMethodDescriptor y.desc = some ⟨ps, ret⟩) (eT : T.heap = h) (hsize : Ls.size = c.maxLocals) {stk : List Value} (has : as' = argsL.toArray) (hln : argsL.length = ps.length) (hst : stk = argsL.reverse ++ st) (hd : decode c.code pc = .ok (.invokestatic index, 3)) (hp : pc + 3 = pc') (W : Nat) (hW : 2 * 0 + (st.map fun v => v.category).sum ≤ W) (hf : Rm.frames + 1 ≤ R.frames) (hl : W + (maxL + 11) + Rm.locals ≤ R.locals) (hc0 : Rm.cells = 0) (hs0 : Rm.slots = 0) (hc : cells ≤ R.cells) (hs : slots ≤ R.slots) (K : ∀ T', Stand p l e R s m args below meth c T' locs cells slots → T'.heap = h → Dn p e below P (T'.setTop (mkF m pc' Ls (v0 :: st)))) : Dn p e below P (T.setTop (mkF m pc Ls stk)) := by
  refine o_callS X hx hZ argsL C hown w1 w2 w3 w4 hy hpd eT hsize has hln hst hd hp W hW hf hl (by rw [hc0]; exact hc) (by rw [hs0]; exact hs) ?_
  intro T' v L X' hQ
  obtain ⟨rfl, rfl, e'⟩ := hQ
  rw [List.append_nil, hc0, hs0] at X'
  exact K T' X' e'
theorem o_callVP (X : Stand p l e R s m args below meth c T locs cells slots) (hx : p.tables.exec = Jvm.exec) (hZ : Z.Warmed39 s.vm) {own Cc : String} {index : Nat} {y : MethodName} {bytes : ByteArray} {maxL : Nat} {ret : Option FieldType} {Rm : Room} {v0 : Value} {ps : List FieldType} (a : Addr) (argsL : List Value) {as' : Array Value} (C : Ctr l Z y bytes maxL ret [] Rm as' h (Pure v0 h)) (hown : s.vm.findClass own = some m.cls) (w1 : (Jvm.Cond.methodLink own index y).before a0 Z = true) (w5 : (Jvm.Cond.declares y).before a0 Z = true) (w6 : (Jvm.Cond.selects Cc y y).before a0 Z = true) (w2 : (Jvm.Cond.instanceMethod y).before a0 Z = true) (w3 : (Jvm.Cond.initialized y.cls).before a0 Z = true) (w4 : (Jvm.Cond.code y bytes maxL ret).before a0 Z = true) (hy : y.cls ≠ "java/lang/invoke/MethodHandle" ∧ y.cls ≠ "java/lang/invoke/VarHandle") (E : Exa Z h a Cc) (hpd : parseMethodDescriptor y.desc = some ⟨ps, ret⟩) (eT : T.heap = h) (hsize : Ls.size = c.maxLocals) {stk : List Value} (has : as' = (.ref a :: argsL).toArray) (hln : argsL.length = ps.length) (hst : stk = argsL.reverse ++ .ref a :: st) (hd : decode c.code pc = .ok (.invokevirtual index, 3)) (hp : pc + 3 = pc') (W : Nat) (hW : 2 * 0 + (st.map fun v => v.category).sum ≤ W) (hf : Rm.frames + 1 ≤ R.frames) (hl : W + (maxL + 11) + Rm.locals ≤ R.locals) (hc0 : Rm.cells = 0) (hs0 : Rm.slots = 0) (hc : cells ≤ R.cells) (hs : slots ≤ R.slots) (K : ∀ T', Stand p l e R s m args below meth c T' locs cells slots → T'.heap = h → Dn p e below P (T'.setTop (mkF m pc' Ls (v0 :: st)))) : Dn p e below P (T.setTop (mkF m pc Ls stk)) := by
  refine o_callV X hx hZ a argsL C hown w1 w5 w6 w2 w3 w4 hy E hpd eT hsize has hln hst hd hp W hW hf hl (by rw [hc0]; exact hc) (by rw [hs0]; exact hs) ?_
  intro T' v L X' hQ
  obtain ⟨rfl, rfl, e'⟩ := hQ
  rw [List.append_nil, hc0, hs0] at X'
  exact K T' X' e'
theorem o_callPP (X : Stand p l e R s m args below meth c T locs cells slots) (hx : p.tables.exec = Jvm.exec) (hZ : Z.Warmed39 s.vm) {own : String} {index : Nat} {y : MethodName} {bytes : ByteArray} {maxL : Nat} {ret : Option FieldType} {Rm : Room} {v0 : Value} {ps : List FieldType} (a : Addr) (argsL : List Value) {as' : Array Value} (C : Ctr l Z y bytes maxL ret [] Rm as' h (Pure v0 h)) (hown : s.vm.findClass own = some m.cls) (w1 : (Jvm.Cond.methodLink own index y).before a0 Z = true) {kk : Nat} (w6 : (Jvm.Cond.instantiable y.cls kk).before a0 Z = true) (w7 : (Jvm.Cond.privateMethod y).before a0 Z = true) (w2 : (Jvm.Cond.instanceMethod y).before a0 Z = true) (w3 : (Jvm.Cond.initialized y.cls).before a0 Z = true) (w4 : (Jvm.Cond.code y bytes maxL ret).before a0 Z = true) (hy : y.cls ≠ "java/lang/invoke/MethodHandle" ∧ y.cls ≠ "java/lang/invoke/VarHandle") {Cc : String} (E : Exa Z h a Cc) (hpd : parseMethodDescriptor y.desc = some ⟨ps, ret⟩) (eT : T.heap = h) (hsize : Ls.size = c.maxLocals) {stk : List Value} (has : as' = (.ref a :: argsL).toArray) (hln : argsL.length = ps.length) (hst : stk = argsL.reverse ++ .ref a :: st) (hd : decode c.code pc = .ok (.invokevirtual index, 3)) (hp : pc + 3 = pc') (W : Nat) (hW : 2 * 0 + (st.map fun v => v.category).sum ≤ W) (hf : Rm.frames + 1 ≤ R.frames) (hl : W + (maxL + 11) + Rm.locals ≤ R.locals) (hc0 : Rm.cells = 0) (hs0 : Rm.slots = 0) (hc : cells ≤ R.cells) (hs : slots ≤ R.slots) (K : ∀ T', Stand p l e R s m args below meth c T' locs cells slots → T'.heap = h → Dn p e below P (T'.setTop (mkF m pc' Ls (v0 :: st)))) : Dn p e below P (T.setTop (mkF m pc Ls stk)) := by
  refine o_callP X hx hZ a argsL C hown w1 w6 w7 w2 w3 w4 hy E hpd eT hsize has hln hst hd hp W hW hf hl (by rw [hc0]; exact hc) (by rw [hs0]; exact hs) ?_
  intro T' v L X' hQ
  obtain ⟨rfl, rfl, e'⟩ := hQ
  rw [List.append_nil, hc0, hs0] at X'
  exact K T' X' e'
end Own
def g1_1 (q1 : Int64) : Int64 := (((q1 <<< ((1 : Int32) &&& 0x3f).toInt64) &&& (-72340172838076674 : Int64)) ||| (((q1.toUInt64 >>> ((1 : Int32) &&& 0x3f).toInt64.toUInt64).toInt64) &&& (9187201950435737471 : Int64)))
def g1_2 (q1 : Int64) : Int64 := (((q1 <<< ((2 : Int32) &&& 0x3f).toInt64) &&& (-217020518514230020 : Int64)) ||| (((q1.toUInt64 >>> ((2 : Int32) &&& 0x3f).toInt64.toUInt64).toInt64) &&& (4557430888798830399 : Int64)))
theorem d1_0 : decode prog_1_method_5_code 0 = .ok (.lload_n 0, 1) := by decide +kernel
theorem d1_1 : decode prog_1_method_5_code 1 = .ok (.iconst 1, 1) := by decide +kernel
theorem d1_2 : decode prog_1_method_5_code 2 = .ok (.lshl, 1) := by decide +kernel
theorem d1_3 : decode prog_1_method_5_code 3 = .ok (.ldc2_w 20, 3) := by decide +kernel
theorem d1_6 : decode prog_1_method_5_code 6 = .ok (.land, 1) := by decide +kernel
theorem d1_7 : decode prog_1_method_5_code 7 = .ok (.lload_n 0, 1) := by decide +kernel
theorem d1_8 : decode prog_1_method_5_code 8 = .ok (.iconst 1, 1) := by decide +kernel
theorem d1_9 : decode prog_1_method_5_code 9 = .ok (.lushr, 1) := by decide +kernel
theorem d1_10 : decode prog_1_method_5_code 10 = .ok (.ldc2_w 22, 3) := by decide +kernel
theorem d1_13 : decode prog_1_method_5_code 13 = .ok (.land, 1) := by decide +kernel
theorem d1_14 : decode prog_1_method_5_code 14 = .ok (.lor, 1) := by decide +kernel
theorem d1_15 : decode prog_1_method_5_code 15 = .ok (.lstore_n 2, 1) := by decide +kernel
theorem d1_16 : decode prog_1_method_5_code 16 = .ok (.lload_n 0, 1) := by decide +kernel
theorem d1_17 : decode prog_1_method_5_code 17 = .ok (.iconst 2, 1) := by decide +kernel
theorem d1_18 : decode prog_1_method_5_code 18 = .ok (.lshl, 1) := by decide +kernel
theorem d1_19 : decode prog_1_method_5_code 19 = .ok (.ldc2_w 24, 3) := by decide +kernel
theorem d1_22 : decode prog_1_method_5_code 22 = .ok (.land, 1) := by decide +kernel
theorem d1_23 : decode prog_1_method_5_code 23 = .ok (.lload_n 0, 1) := by decide +kernel
theorem d1_24 : decode prog_1_method_5_code 24 = .ok (.iconst 2, 1) := by decide +kernel
theorem d1_25 : decode prog_1_method_5_code 25 = .ok (.lushr, 1) := by decide +kernel
theorem d1_26 : decode prog_1_method_5_code 26 = .ok (.ldc2_w 26, 3) := by decide +kernel
theorem d1_29 : decode prog_1_method_5_code 29 = .ok (.land, 1) := by decide +kernel
theorem d1_30 : decode prog_1_method_5_code 30 = .ok (.lor, 1) := by decide +kernel
theorem d1_31 : decode prog_1_method_5_code 31 = .ok (.lstore 4, 2) := by decide +kernel
theorem d1_33 : decode prog_1_method_5_code 33 = .ok (.lload_n 2, 1) := by decide +kernel
theorem d1_34 : decode prog_1_method_5_code 34 = .ok (.bipush 16, 2) := by decide +kernel
theorem d1_36 : decode prog_1_method_5_code 36 = .ok (.lshl, 1) := by decide +kernel
theorem d1_37 : decode prog_1_method_5_code 37 = .ok (.lload_n 2, 1) := by decide +kernel
theorem d1_38 : decode prog_1_method_5_code 38 = .ok (.bipush 16, 2) := by decide +kernel
theorem d1_40 : decode prog_1_method_5_code 40 = .ok (.lushr, 1) := by decide +kernel
theorem d1_41 : decode prog_1_method_5_code 41 = .ok (.lor, 1) := by decide +kernel
theorem d1_42 : decode prog_1_method_5_code 42 = .ok (.lload 4, 2) := by decide +kernel
theorem d1_44 : decode prog_1_method_5_code 44 = .ok (.bipush 8, 2) := by decide +kernel
theorem d1_46 : decode prog_1_method_5_code 46 = .ok (.lshl, 1) := by decide +kernel
theorem d1_47 : decode prog_1_method_5_code 47 = .ok (.lor, 1) := by decide +kernel
theorem d1_48 : decode prog_1_method_5_code 48 = .ok (.lload 4, 2) := by decide +kernel
theorem d1_50 : decode prog_1_method_5_code 50 = .ok (.bipush 8, 2) := by decide +kernel
theorem d1_52 : decode prog_1_method_5_code 52 = .ok (.lushr, 1) := by decide +kernel
theorem d1_53 : decode prog_1_method_5_code 53 = .ok (.lor, 1) := by decide +kernel
theorem d1_54 : decode prog_1_method_5_code 54 = .ok (.lreturn, 1) := by decide +kernel
theorem pn_1 : plainFor (⟨"com/example/jadoube/jadoube/Bitboards", "knightAttacksOf", "(J)J"⟩ : MethodName) = true := plainFor_of_name (by show plainName "com/example/jadoube/jadoube/Bitboards" = true; first | (simp [plainName, overriddenIn]; done) | decide +kernel)
theorem ef_1 (m : MethodId) (q1 : Int64) : entryFrame m #[(.long q1)] 6 = mkF m 0 #[.val (.long q1), .second, .unset, .unset, .unset, .unset] [] := by first | (simp [entryFrame, mkF, argsToLocals, Value.category]; done) | rfl
def F1 (q1 : Int64) : Int64 := (((((g1_1 q1) <<< ((16 : Int32) &&& 0x3f).toInt64) ||| (((g1_1 q1).toUInt64 >>> ((16 : Int32) &&& 0x3f).toInt64.toUInt64).toInt64)) ||| ((g1_2 q1) <<< ((8 : Int32) &&& 0x3f).toInt64)) ||| (((g1_2 q1).toUInt64 >>> ((8 : Int32) &&& 0x3f).toInt64.toUInt64).toInt64))
set_option maxRecDepth 65536 in
set_option maxHeartbeats 40000000 in
theorem rm1 (l : Launch) (Z : State) (a0 : Array Value) (hw : ∀ d ∈ tables_1, d.before a0 Z = true) (h0 : Heap) (q1 : Int64) : Ctr l Z (⟨"com/example/jadoube/jadoube/Bitboards", "knightAttacksOf", "(J)J"⟩ : MethodName) prog_1_method_5_code 6 (some .long) [] ({ frames := 0, cells := 0, slots := 0, locals := 0 } : Room) #[(.long q1)] h0 (Pure (.long (F1 q1)) h0) := by
  refine ctr_mk pn_1 (own := "com/example/jadoube/jadoube/Bitboards") (mn := "knightAttacksOf") rfl rfl ?_
  intro p e s m below meth c T0 X0 hx hby hml hZ hown hnm hret hlk e0
  refine o_entry (ef_1 m q1) ?_
  refine o_lloadN X0 hx (pc' := 1) (hb hby d1_0) rfl rfl ?_
  refine o_iconst X0 hx (pc' := 2) (v := (1 : Int32)) (hb hby d1_1) rfl rfl ?_
  refine o_lshl X0 hx (pc' := 3) (hb hby d1_2) rfl ?_
  refine o_ldc2 X0 hx hZ hown (hw _ (List.mem_of_getElem? (i := 4) rfl)) (pc' := 6) (hb hby d1_3) rfl ?_
  refine o_land X0 hx (pc' := 7) (hb hby d1_6) rfl ?_
  refine o_lloadN X0 hx (pc' := 8) (hb hby d1_7) rfl rfl ?_
  refine o_iconst X0 hx (pc' := 9) (v := (1 : Int32)) (hb hby d1_8) rfl rfl ?_
  refine o_lushr X0 hx (pc' := 10) (hb hby d1_9) rfl ?_
  refine o_ldc2 X0 hx hZ hown (hw _ (List.mem_of_getElem? (i := 5) rfl)) (pc' := 13) (hb hby d1_10) rfl ?_
  refine o_land X0 hx (pc' := 14) (hb hby d1_13) rfl ?_
  refine o_lor X0 hx (pc' := 15) (hb hby d1_14) rfl ?_
  refine o_lstoreN X0 hx (pc' := 16) (Ls' := #[.val (.long q1), .second, .val (.long (g1_1 q1)), .second, .unset, .unset]) (hb hby d1_15) rfl rfl ?_
  refine o_lloadN X0 hx (pc' := 17) (hb hby d1_16) rfl rfl ?_
  refine o_iconst X0 hx (pc' := 18) (v := (2 : Int32)) (hb hby d1_17) rfl rfl ?_
  refine o_lshl X0 hx (pc' := 19) (hb hby d1_18) rfl ?_
  refine o_ldc2 X0 hx hZ hown (hw _ (List.mem_of_getElem? (i := 6) rfl)) (pc' := 22) (hb hby d1_19) rfl ?_
  refine o_land X0 hx (pc' := 23) (hb hby d1_22) rfl ?_
  refine o_lloadN X0 hx (pc' := 24) (hb hby d1_23) rfl rfl ?_
  refine o_iconst X0 hx (pc' := 25) (v := (2 : Int32)) (hb hby d1_24) rfl rfl ?_
  refine o_lushr X0 hx (pc' := 26) (hb hby d1_25) rfl ?_
  refine o_ldc2 X0 hx hZ hown (hw _ (List.mem_of_getElem? (i := 7) rfl)) (pc' := 29) (hb hby d1_26) rfl ?_
  refine o_land X0 hx (pc' := 30) (hb hby d1_29) rfl ?_
  refine o_lor X0 hx (pc' := 31) (hb hby d1_30) rfl ?_
  refine o_lstore X0 hx (pc' := 33) (Ls' := #[.val (.long q1), .second, .val (.long (g1_1 q1)), .second, .val (.long (g1_2 q1)), .second]) (hb hby d1_31) rfl rfl ?_
  refine o_lloadN X0 hx (pc' := 34) (hb hby d1_33) rfl rfl ?_
  refine o_bipush X0 hx (pc' := 36) (v := (16 : Int32)) (hb hby d1_34) rfl rfl ?_
  refine o_lshl X0 hx (pc' := 37) (hb hby d1_36) rfl ?_
  refine o_lloadN X0 hx (pc' := 38) (hb hby d1_37) rfl rfl ?_
  refine o_bipush X0 hx (pc' := 40) (v := (16 : Int32)) (hb hby d1_38) rfl rfl ?_
  refine o_lushr X0 hx (pc' := 41) (hb hby d1_40) rfl ?_
  refine o_lor X0 hx (pc' := 42) (hb hby d1_41) rfl ?_
  refine o_lload X0 hx (pc' := 44) (hb hby d1_42) rfl rfl ?_
  refine o_bipush X0 hx (pc' := 46) (v := (8 : Int32)) (hb hby d1_44) rfl rfl ?_
  refine o_lshl X0 hx (pc' := 47) (hb hby d1_46) rfl ?_
  refine o_lor X0 hx (pc' := 48) (hb hby d1_47) rfl ?_
  refine o_lload X0 hx (pc' := 50) (hb hby d1_48) rfl rfl ?_
  refine o_bipush X0 hx (pc' := 52) (v := (8 : Int32)) (hb hby d1_50) rfl rfl ?_
  refine o_lushr X0 hx (pc' := 53) (hb hby d1_52) rfl ?_
  refine o_lor X0 hx (pc' := 54) (hb hby d1_53) rfl ?_
  exact finJ X0 hx hlk hret (hb hby d1_54) (by decide) (by decide) ⟨by show some (Value.long _) = some (Value.long (F1 q1)); unfold F1; rfl, rfl, e0⟩
theorem d3_0 : decode method_4_code 0 = .ok (.iload_n 0, 1) := by decide +kernel
theorem d3_1 : decode method_4_code 1 = .ok (.ifCond .lt 19, 3) := by decide +kernel
theorem d3_4 : decode method_4_code 4 = .ok (.iload_n 0, 1) := by decide +kernel
theorem d3_5 : decode method_4_code 5 = .ok (.bipush 7, 2) := by decide +kernel
theorem d3_7 : decode method_4_code 7 = .ok (.if_icmp .gt 13, 3) := by decide +kernel
theorem d3_10 : decode method_4_code 10 = .ok (.iload_n 1, 1) := by decide +kernel
theorem d3_11 : decode method_4_code 11 = .ok (.ifCond .lt 9, 3) := by decide +kernel
theorem d3_14 : decode method_4_code 14 = .ok (.iload_n 1, 1) := by decide +kernel
theorem d3_15 : decode method_4_code 15 = .ok (.bipush 7, 2) := by decide +kernel
theorem d3_17 : decode method_4_code 17 = .ok (.if_icmp .le 5, 3) := by decide +kernel
theorem d3_20 : decode method_4_code 20 = .ok (.lconst 0, 1) := by decide +kernel
theorem d3_21 : decode method_4_code 21 = .ok (.lreturn, 1) := by decide +kernel
theorem d3_22 : decode method_4_code 22 = .ok (.lconst 1, 1) := by decide +kernel
theorem d3_23 : decode method_4_code 23 = .ok (.iload_n 1, 1) := by decide +kernel
theorem d3_24 : decode method_4_code 24 = .ok (.bipush 8, 2) := by decide +kernel
theorem d3_26 : decode method_4_code 26 = .ok (.imul, 1) := by decide +kernel
theorem d3_27 : decode method_4_code 27 = .ok (.iload_n 0, 1) := by decide +kernel
theorem d3_28 : decode method_4_code 28 = .ok (.iadd, 1) := by decide +kernel
theorem d3_29 : decode method_4_code 29 = .ok (.lshl, 1) := by decide +kernel
theorem d3_30 : decode method_4_code 30 = .ok (.lreturn, 1) := by decide +kernel
theorem pn_3 : plainFor (⟨"com/example/jadoube/jadoube/BitboardsKnightAttacksOfPinLaw", "at", "(II)J"⟩ : MethodName) = true := plainFor_of_name (by show plainName "com/example/jadoube/jadoube/BitboardsKnightAttacksOfPinLaw" = true; first | (simp [plainName, overriddenIn]; done) | decide +kernel)
theorem ef_3 (m : MethodId) (p1 : Int32) (p2 : Int32) : entryFrame m #[(.int p1), (.int p2)] 2 = mkF m 0 #[.val (.int p1), .val (.int p2)] [] := by first | (simp [entryFrame, mkF, argsToLocals, Value.category]; done) | rfl
def F3 (p1 : Int32) (p2 : Int32) : Int64 := 
  if p1 < (0 : Int32) then (0 : Int64)
  else 
    if (7 : Int32) < p1 then (0 : Int64)
    else 
      if p2 < (0 : Int32) then (0 : Int64)
      else 
        if (7 : Int32) < p2 then (0 : Int64)
        else ((1 : Int64) <<< (((p2 * (8 : Int32)) + p1) &&& 0x3f).toInt64)
set_option maxRecDepth 65536 in
set_option maxHeartbeats 40000000 in
theorem rm3 (l : Launch) (Z : State) (a0 : Array Value) (hw : ∀ d ∈ tables_1, d.before a0 Z = true) (h0 : Heap) (p1 : Int32) (p2 : Int32) : Ctr l Z (⟨"com/example/jadoube/jadoube/BitboardsKnightAttacksOfPinLaw", "at", "(II)J"⟩ : MethodName) method_4_code 2 (some .long) [] ({ frames := 0, cells := 0, slots := 0, locals := 0 } : Room) #[(.int p1), (.int p2)] h0 (Pure (.long (F3 p1 p2)) h0) := by
  refine ctr_mk pn_3 (own := "com/example/jadoube/jadoube/BitboardsKnightAttacksOfPinLaw") (mn := "at") rfl rfl ?_
  intro p e s m below meth c T0 X0 hx hby hml hZ hown hnm hret hlk e0
  refine o_entry (ef_3 m p1 p2) ?_
  refine o_iloadN X0 hx (pc' := 1) (hb hby d3_0) rfl rfl ?_
  refine o_if_lt X0 hx (pc' := 4) (pt := 20) (hb hby d3_1) rfl (by decide) (by decide) (fun hc1 => ?_) (fun hc1 => ?_)
  · skip
    refine o_lconst X0 hx (pc' := 21) (v := (0 : Int64)) (hb hby d3_20) rfl rfl ?_
    exact finJ X0 hx hlk hret (hb hby d3_21) (by decide) (by decide) ⟨by show some (Value.long _) = some (Value.long (F3 p1 p2)); unfold F3; rw [if_pos hc1], rfl, e0⟩
  · skip
    refine o_iloadN X0 hx (pc' := 5) (hb hby d3_4) rfl rfl ?_
    refine o_bipush X0 hx (pc' := 7) (v := (7 : Int32)) (hb hby d3_5) rfl rfl ?_
    refine o_icmp_gt X0 hx (pc' := 10) (pt := 20) (hb hby d3_7) rfl (by decide) (by decide) (fun hc7 => ?_) (fun hc7 => ?_)
    · skip
      refine o_lconst X0 hx (pc' := 21) (v := (0 : Int64)) (hb hby d3_20) rfl rfl ?_
      exact finJ X0 hx hlk hret (hb hby d3_21) (by decide) (by decide) ⟨by show some (Value.long _) = some (Value.long (F3 p1 p2)); unfold F3; rw [if_neg hc1, if_pos hc7], rfl, e0⟩
    · skip
      refine o_iloadN X0 hx (pc' := 11) (hb hby d3_10) rfl rfl ?_
      refine o_if_lt X0 hx (pc' := 14) (pt := 20) (hb hby d3_11) rfl (by decide) (by decide) (fun hc11 => ?_) (fun hc11 => ?_)
      · skip
        refine o_lconst X0 hx (pc' := 21) (v := (0 : Int64)) (hb hby d3_20) rfl rfl ?_
        exact finJ X0 hx hlk hret (hb hby d3_21) (by decide) (by decide) ⟨by show some (Value.long _) = some (Value.long (F3 p1 p2)); unfold F3; rw [if_neg hc1, if_neg hc7, if_pos hc11], rfl, e0⟩
      · skip
        refine o_iloadN X0 hx (pc' := 15) (hb hby d3_14) rfl rfl ?_
        refine o_bipush X0 hx (pc' := 17) (v := (7 : Int32)) (hb hby d3_15) rfl rfl ?_
        refine o_icmp_le X0 hx (pc' := 20) (pt := 22) (hb hby d3_17) rfl (by decide) (by decide) (fun hc17 => ?_) (fun hc17 => ?_)
        · skip
          refine o_lconst X0 hx (pc' := 23) (v := (1 : Int64)) (hb hby d3_22) rfl rfl ?_
          refine o_iloadN X0 hx (pc' := 24) (hb hby d3_23) rfl rfl ?_
          refine o_bipush X0 hx (pc' := 26) (v := (8 : Int32)) (hb hby d3_24) rfl rfl ?_
          refine o_imul X0 hx (pc' := 27) (hb hby d3_26) rfl ?_
          refine o_iloadN X0 hx (pc' := 28) (hb hby d3_27) rfl rfl ?_
          refine o_iadd X0 hx (pc' := 29) (hb hby d3_28) rfl ?_
          refine o_lshl X0 hx (pc' := 30) (hb hby d3_29) rfl ?_
          exact finJ X0 hx hlk hret (hb hby d3_30) (by decide) (by decide) ⟨by show some (Value.long _) = some (Value.long (F3 p1 p2)); unfold F3; rw [if_neg hc1, if_neg hc7, if_neg hc11, if_neg hc17], rfl, e0⟩
        · skip
          refine o_lconst X0 hx (pc' := 21) (v := (0 : Int64)) (hb hby d3_20) rfl rfl ?_
          exact finJ X0 hx hlk hret (hb hby d3_21) (by decide) (by decide) ⟨by show some (Value.long _) = some (Value.long (F3 p1 p2)); unfold F3; rw [if_neg hc1, if_neg hc7, if_neg hc11, if_pos hc17], rfl, e0⟩
theorem pd_0 : parseMethodDescriptor "(II)J" = some ⟨[.int, .int], some .long⟩ := by decide +kernel
def g2_1 (p1 : Int32) : Int64 := ((0 : Int64) ||| (F3 ((p1 &&& (7 : Int32)) + (1 : Int32)) (((p1.toUInt32 >>> ((3 : Int32) &&& 31).toUInt32).toInt32) + (2 : Int32))))
def g2_2 (p1 : Int32) : Int64 := ((g2_1 p1) ||| (F3 ((p1 &&& (7 : Int32)) + (2 : Int32)) (((p1.toUInt32 >>> ((3 : Int32) &&& 31).toUInt32).toInt32) + (1 : Int32))))
def g2_3 (p1 : Int32) : Int64 := ((g2_2 p1) ||| (F3 ((p1 &&& (7 : Int32)) + (2 : Int32)) (((p1.toUInt32 >>> ((3 : Int32) &&& 31).toUInt32).toInt32) - (1 : Int32))))
def g2_4 (p1 : Int32) : Int64 := ((g2_3 p1) ||| (F3 ((p1 &&& (7 : Int32)) + (1 : Int32)) (((p1.toUInt32 >>> ((3 : Int32) &&& 31).toUInt32).toInt32) - (2 : Int32))))
def g2_5 (p1 : Int32) : Int64 := ((g2_4 p1) ||| (F3 ((p1 &&& (7 : Int32)) - (1 : Int32)) (((p1.toUInt32 >>> ((3 : Int32) &&& 31).toUInt32).toInt32) - (2 : Int32))))
def g2_6 (p1 : Int32) : Int64 := ((g2_5 p1) ||| (F3 ((p1 &&& (7 : Int32)) - (2 : Int32)) (((p1.toUInt32 >>> ((3 : Int32) &&& 31).toUInt32).toInt32) - (1 : Int32))))
def g2_7 (p1 : Int32) : Int64 := ((g2_6 p1) ||| (F3 ((p1 &&& (7 : Int32)) - (2 : Int32)) (((p1.toUInt32 >>> ((3 : Int32) &&& 31).toUInt32).toInt32) + (1 : Int32))))
def g2_8 (p1 : Int32) : Int64 := ((g2_7 p1) ||| (F3 ((p1 &&& (7 : Int32)) - (1 : Int32)) (((p1.toUInt32 >>> ((3 : Int32) &&& 31).toUInt32).toInt32) + (2 : Int32))))
theorem d2_0 : decode method_3_code 0 = .ok (.iload_n 0, 1) := by decide +kernel
theorem d2_1 : decode method_3_code 1 = .ok (.bipush 7, 2) := by decide +kernel
theorem d2_3 : decode method_3_code 3 = .ok (.iand, 1) := by decide +kernel
theorem d2_4 : decode method_3_code 4 = .ok (.istore_n 1, 1) := by decide +kernel
theorem d2_5 : decode method_3_code 5 = .ok (.iload_n 0, 1) := by decide +kernel
theorem d2_6 : decode method_3_code 6 = .ok (.iconst 3, 1) := by decide +kernel
theorem d2_7 : decode method_3_code 7 = .ok (.iushr, 1) := by decide +kernel
theorem d2_8 : decode method_3_code 8 = .ok (.istore_n 2, 1) := by decide +kernel
theorem d2_9 : decode method_3_code 9 = .ok (.lconst 0, 1) := by decide +kernel
theorem d2_10 : decode method_3_code 10 = .ok (.lstore_n 3, 1) := by decide +kernel
theorem d2_11 : decode method_3_code 11 = .ok (.lload_n 3, 1) := by decide +kernel
theorem d2_12 : decode method_3_code 12 = .ok (.iload_n 1, 1) := by decide +kernel
theorem d2_13 : decode method_3_code 13 = .ok (.iconst 1, 1) := by decide +kernel
theorem d2_14 : decode method_3_code 14 = .ok (.iadd, 1) := by decide +kernel
theorem d2_15 : decode method_3_code 15 = .ok (.iload_n 2, 1) := by decide +kernel
theorem d2_16 : decode method_3_code 16 = .ok (.iconst 2, 1) := by decide +kernel
theorem d2_17 : decode method_3_code 17 = .ok (.iadd, 1) := by decide +kernel
theorem d2_18 : decode method_3_code 18 = .ok (.invokestatic 19, 3) := by decide +kernel
theorem d2_21 : decode method_3_code 21 = .ok (.lor, 1) := by decide +kernel
theorem d2_22 : decode method_3_code 22 = .ok (.lstore_n 3, 1) := by decide +kernel
theorem d2_23 : decode method_3_code 23 = .ok (.lload_n 3, 1) := by decide +kernel
theorem d2_24 : decode method_3_code 24 = .ok (.iload_n 1, 1) := by decide +kernel
theorem d2_25 : decode method_3_code 25 = .ok (.iconst 2, 1) := by decide +kernel
theorem d2_26 : decode method_3_code 26 = .ok (.iadd, 1) := by decide +kernel
theorem d2_27 : decode method_3_code 27 = .ok (.iload_n 2, 1) := by decide +kernel
theorem d2_28 : decode method_3_code 28 = .ok (.iconst 1, 1) := by decide +kernel
theorem d2_29 : decode method_3_code 29 = .ok (.iadd, 1) := by decide +kernel
theorem d2_30 : decode method_3_code 30 = .ok (.invokestatic 19, 3) := by decide +kernel
theorem d2_33 : decode method_3_code 33 = .ok (.lor, 1) := by decide +kernel
theorem d2_34 : decode method_3_code 34 = .ok (.lstore_n 3, 1) := by decide +kernel
theorem d2_35 : decode method_3_code 35 = .ok (.lload_n 3, 1) := by decide +kernel
theorem d2_36 : decode method_3_code 36 = .ok (.iload_n 1, 1) := by decide +kernel
theorem d2_37 : decode method_3_code 37 = .ok (.iconst 2, 1) := by decide +kernel
theorem d2_38 : decode method_3_code 38 = .ok (.iadd, 1) := by decide +kernel
theorem d2_39 : decode method_3_code 39 = .ok (.iload_n 2, 1) := by decide +kernel
theorem d2_40 : decode method_3_code 40 = .ok (.iconst 1, 1) := by decide +kernel
theorem d2_41 : decode method_3_code 41 = .ok (.isub, 1) := by decide +kernel
theorem d2_42 : decode method_3_code 42 = .ok (.invokestatic 19, 3) := by decide +kernel
theorem d2_45 : decode method_3_code 45 = .ok (.lor, 1) := by decide +kernel
theorem d2_46 : decode method_3_code 46 = .ok (.lstore_n 3, 1) := by decide +kernel
theorem d2_47 : decode method_3_code 47 = .ok (.lload_n 3, 1) := by decide +kernel
theorem d2_48 : decode method_3_code 48 = .ok (.iload_n 1, 1) := by decide +kernel
theorem d2_49 : decode method_3_code 49 = .ok (.iconst 1, 1) := by decide +kernel
theorem d2_50 : decode method_3_code 50 = .ok (.iadd, 1) := by decide +kernel
theorem d2_51 : decode method_3_code 51 = .ok (.iload_n 2, 1) := by decide +kernel
theorem d2_52 : decode method_3_code 52 = .ok (.iconst 2, 1) := by decide +kernel
theorem d2_53 : decode method_3_code 53 = .ok (.isub, 1) := by decide +kernel
theorem d2_54 : decode method_3_code 54 = .ok (.invokestatic 19, 3) := by decide +kernel
theorem d2_57 : decode method_3_code 57 = .ok (.lor, 1) := by decide +kernel
theorem d2_58 : decode method_3_code 58 = .ok (.lstore_n 3, 1) := by decide +kernel
theorem d2_59 : decode method_3_code 59 = .ok (.lload_n 3, 1) := by decide +kernel
theorem d2_60 : decode method_3_code 60 = .ok (.iload_n 1, 1) := by decide +kernel
theorem d2_61 : decode method_3_code 61 = .ok (.iconst 1, 1) := by decide +kernel
theorem d2_62 : decode method_3_code 62 = .ok (.isub, 1) := by decide +kernel
theorem d2_63 : decode method_3_code 63 = .ok (.iload_n 2, 1) := by decide +kernel
theorem d2_64 : decode method_3_code 64 = .ok (.iconst 2, 1) := by decide +kernel
theorem d2_65 : decode method_3_code 65 = .ok (.isub, 1) := by decide +kernel
theorem d2_66 : decode method_3_code 66 = .ok (.invokestatic 19, 3) := by decide +kernel
theorem d2_69 : decode method_3_code 69 = .ok (.lor, 1) := by decide +kernel
theorem d2_70 : decode method_3_code 70 = .ok (.lstore_n 3, 1) := by decide +kernel
theorem d2_71 : decode method_3_code 71 = .ok (.lload_n 3, 1) := by decide +kernel
theorem d2_72 : decode method_3_code 72 = .ok (.iload_n 1, 1) := by decide +kernel
theorem d2_73 : decode method_3_code 73 = .ok (.iconst 2, 1) := by decide +kernel
theorem d2_74 : decode method_3_code 74 = .ok (.isub, 1) := by decide +kernel
theorem d2_75 : decode method_3_code 75 = .ok (.iload_n 2, 1) := by decide +kernel
theorem d2_76 : decode method_3_code 76 = .ok (.iconst 1, 1) := by decide +kernel
theorem d2_77 : decode method_3_code 77 = .ok (.isub, 1) := by decide +kernel
theorem d2_78 : decode method_3_code 78 = .ok (.invokestatic 19, 3) := by decide +kernel
theorem d2_81 : decode method_3_code 81 = .ok (.lor, 1) := by decide +kernel
theorem d2_82 : decode method_3_code 82 = .ok (.lstore_n 3, 1) := by decide +kernel
theorem d2_83 : decode method_3_code 83 = .ok (.lload_n 3, 1) := by decide +kernel
theorem d2_84 : decode method_3_code 84 = .ok (.iload_n 1, 1) := by decide +kernel
theorem d2_85 : decode method_3_code 85 = .ok (.iconst 2, 1) := by decide +kernel
theorem d2_86 : decode method_3_code 86 = .ok (.isub, 1) := by decide +kernel
theorem d2_87 : decode method_3_code 87 = .ok (.iload_n 2, 1) := by decide +kernel
theorem d2_88 : decode method_3_code 88 = .ok (.iconst 1, 1) := by decide +kernel
theorem d2_89 : decode method_3_code 89 = .ok (.iadd, 1) := by decide +kernel
theorem d2_90 : decode method_3_code 90 = .ok (.invokestatic 19, 3) := by decide +kernel
theorem d2_93 : decode method_3_code 93 = .ok (.lor, 1) := by decide +kernel
theorem d2_94 : decode method_3_code 94 = .ok (.lstore_n 3, 1) := by decide +kernel
theorem d2_95 : decode method_3_code 95 = .ok (.lload_n 3, 1) := by decide +kernel
theorem d2_96 : decode method_3_code 96 = .ok (.iload_n 1, 1) := by decide +kernel
theorem d2_97 : decode method_3_code 97 = .ok (.iconst 1, 1) := by decide +kernel
theorem d2_98 : decode method_3_code 98 = .ok (.isub, 1) := by decide +kernel
theorem d2_99 : decode method_3_code 99 = .ok (.iload_n 2, 1) := by decide +kernel
theorem d2_100 : decode method_3_code 100 = .ok (.iconst 2, 1) := by decide +kernel
theorem d2_101 : decode method_3_code 101 = .ok (.iadd, 1) := by decide +kernel
theorem d2_102 : decode method_3_code 102 = .ok (.invokestatic 19, 3) := by decide +kernel
theorem d2_105 : decode method_3_code 105 = .ok (.lor, 1) := by decide +kernel
theorem d2_106 : decode method_3_code 106 = .ok (.lstore_n 3, 1) := by decide +kernel
theorem d2_107 : decode method_3_code 107 = .ok (.lload_n 3, 1) := by decide +kernel
theorem d2_108 : decode method_3_code 108 = .ok (.lreturn, 1) := by decide +kernel
theorem pn_2 : plainFor (⟨"com/example/jadoube/jadoube/BitboardsKnightAttacksOfPinLaw", "reference", "(I)J"⟩ : MethodName) = true := plainFor_of_name (by show plainName "com/example/jadoube/jadoube/BitboardsKnightAttacksOfPinLaw" = true; first | (simp [plainName, overriddenIn]; done) | decide +kernel)
theorem ef_2 (m : MethodId) (p1 : Int32) : entryFrame m #[(.int p1)] 5 = mkF m 0 #[.val (.int p1), .unset, .unset, .unset, .unset] [] := by first | (simp [entryFrame, mkF, argsToLocals, Value.category]; done) | rfl
def F2 (p1 : Int32) : Int64 := (g2_8 p1)
set_option maxRecDepth 65536 in
set_option maxHeartbeats 40000000 in
theorem rm2 (l : Launch) (Z : State) (a0 : Array Value) (hw : ∀ d ∈ tables_1, d.before a0 Z = true) (h0 : Heap) (p1 : Int32) : Ctr l Z (⟨"com/example/jadoube/jadoube/BitboardsKnightAttacksOfPinLaw", "reference", "(I)J"⟩ : MethodName) method_3_code 5 (some .long) [] ({ frames := 1, cells := 0, slots := 0, locals := 15 } : Room) #[(.int p1)] h0 (Pure (.long (F2 p1)) h0) := by
  refine ctr_mk pn_2 (own := "com/example/jadoube/jadoube/BitboardsKnightAttacksOfPinLaw") (mn := "reference") rfl rfl ?_
  intro p e s m below meth c T0 X0 hx hby hml hZ hown hnm hret hlk e0
  refine o_entry (ef_2 m p1) ?_
  refine o_iloadN X0 hx (pc' := 1) (hb hby d2_0) rfl rfl ?_
  refine o_bipush X0 hx (pc' := 3) (v := (7 : Int32)) (hb hby d2_1) rfl rfl ?_
  refine o_iand X0 hx (pc' := 4) (hb hby d2_3) rfl ?_
  refine o_istoreN X0 hx (pc' := 5) (Ls' := #[.val (.int p1), .val (.int (p1 &&& (7 : Int32))), .unset, .unset, .unset]) (hb hby d2_4) rfl rfl ?_
  refine o_iloadN X0 hx (pc' := 6) (hb hby d2_5) rfl rfl ?_
  refine o_iconst X0 hx (pc' := 7) (v := (3 : Int32)) (hb hby d2_6) rfl rfl ?_
  refine o_iushr X0 hx (pc' := 8) (hb hby d2_7) rfl ?_
  refine o_istoreN X0 hx (pc' := 9) (Ls' := #[.val (.int p1), .val (.int (p1 &&& (7 : Int32))), .val (.int ((p1.toUInt32 >>> ((3 : Int32) &&& 31).toUInt32).toInt32)), .unset, .unset]) (hb hby d2_8) rfl rfl ?_
  refine o_lconst X0 hx (pc' := 10) (v := (0 : Int64)) (hb hby d2_9) rfl rfl ?_
  refine o_lstoreN X0 hx (pc' := 11) (Ls' := #[.val (.int p1), .val (.int (p1 &&& (7 : Int32))), .val (.int ((p1.toUInt32 >>> ((3 : Int32) &&& 31).toUInt32).toInt32)), .val (.long (0 : Int64)), .second]) (hb hby d2_10) rfl rfl ?_
  refine o_lloadN X0 hx (pc' := 12) (hb hby d2_11) rfl rfl ?_
  refine o_iloadN X0 hx (pc' := 13) (hb hby d2_12) rfl rfl ?_
  refine o_iconst X0 hx (pc' := 14) (v := (1 : Int32)) (hb hby d2_13) rfl rfl ?_
  refine o_iadd X0 hx (pc' := 15) (hb hby d2_14) rfl ?_
  refine o_iloadN X0 hx (pc' := 16) (hb hby d2_15) rfl rfl ?_
  refine o_iconst X0 hx (pc' := 17) (v := (2 : Int32)) (hb hby d2_16) rfl rfl ?_
  refine o_iadd X0 hx (pc' := 18) (hb hby d2_17) rfl ?_
  refine o_callSP X0 hx hZ [(.int ((p1 &&& (7 : Int32)) + (1 : Int32))), (.int (((p1.toUInt32 >>> ((3 : Int32) &&& 31).toUInt32).toInt32) + (2 : Int32)))] (rm3 l Z a0 hw h0 ((p1 &&& (7 : Int32)) + (1 : Int32)) (((p1.toUInt32 >>> ((3 : Int32) &&& 31).toUInt32).toInt32) + (2 : Int32))) hown (hw _ (List.mem_of_getElem? (i := 12) rfl)) (hw _ (List.mem_of_getElem? (i := 13) rfl)) (hw _ (List.mem_of_getElem? (i := 10) rfl)) (hw _ (List.mem_of_getElem? (i := 14) rfl)) (by decide) pd_0 e0 (by rw [hml]; rfl) rfl rfl rfl (hb hby d2_18) (pc' := 21) rfl 2 (Nat.le_of_eq rfl) (by decide) (by decide) rfl rfl (by decide) (by decide) ?_
  intro T1 X1 e1
  show Dn p e below _ (T1.setTop (mkF m 21 #[.val (.int p1), .val (.int (p1 &&& (7 : Int32))), .val (.int ((p1.toUInt32 >>> ((3 : Int32) &&& 31).toUInt32).toInt32)), .val (.long (0 : Int64)), .second] [(.long (F3 ((p1 &&& (7 : Int32)) + (1 : Int32)) (((p1.toUInt32 >>> ((3 : Int32) &&& 31).toUInt32).toInt32) + (2 : Int32)))), (.long (0 : Int64))]))
  refine o_lor X1 hx (pc' := 22) (hb hby d2_21) rfl ?_
  refine o_lstoreN X1 hx (pc' := 23) (Ls' := #[.val (.int p1), .val (.int (p1 &&& (7 : Int32))), .val (.int ((p1.toUInt32 >>> ((3 : Int32) &&& 31).toUInt32).toInt32)), .val (.long (g2_1 p1)), .second]) (hb hby d2_22) rfl rfl ?_
  refine o_lloadN X1 hx (pc' := 24) (hb hby d2_23) rfl rfl ?_
  refine o_iloadN X1 hx (pc' := 25) (hb hby d2_24) rfl rfl ?_
  refine o_iconst X1 hx (pc' := 26) (v := (2 : Int32)) (hb hby d2_25) rfl rfl ?_
  refine o_iadd X1 hx (pc' := 27) (hb hby d2_26) rfl ?_
  refine o_iloadN X1 hx (pc' := 28) (hb hby d2_27) rfl rfl ?_
  refine o_iconst X1 hx (pc' := 29) (v := (1 : Int32)) (hb hby d2_28) rfl rfl ?_
  refine o_iadd X1 hx (pc' := 30) (hb hby d2_29) rfl ?_
  refine o_callSP X1 hx hZ [(.int ((p1 &&& (7 : Int32)) + (2 : Int32))), (.int (((p1.toUInt32 >>> ((3 : Int32) &&& 31).toUInt32).toInt32) + (1 : Int32)))] (rm3 l Z a0 hw h0 ((p1 &&& (7 : Int32)) + (2 : Int32)) (((p1.toUInt32 >>> ((3 : Int32) &&& 31).toUInt32).toInt32) + (1 : Int32))) hown (hw _ (List.mem_of_getElem? (i := 12) rfl)) (hw _ (List.mem_of_getElem? (i := 13) rfl)) (hw _ (List.mem_of_getElem? (i := 10) rfl)) (hw _ (List.mem_of_getElem? (i := 14) rfl)) (by decide) pd_0 e1 (by rw [hml]; rfl) rfl rfl rfl (hb hby d2_30) (pc' := 33) rfl 2 (Nat.le_of_eq rfl) (by decide) (by decide) rfl rfl (by decide) (by decide) ?_
  intro T2 X2 e2
  show Dn p e below _ (T2.setTop (mkF m 33 #[.val (.int p1), .val (.int (p1 &&& (7 : Int32))), .val (.int ((p1.toUInt32 >>> ((3 : Int32) &&& 31).toUInt32).toInt32)), .val (.long (g2_1 p1)), .second] [(.long (F3 ((p1 &&& (7 : Int32)) + (2 : Int32)) (((p1.toUInt32 >>> ((3 : Int32) &&& 31).toUInt32).toInt32) + (1 : Int32)))), (.long (g2_1 p1))]))
  refine o_lor X2 hx (pc' := 34) (hb hby d2_33) rfl ?_
  refine o_lstoreN X2 hx (pc' := 35) (Ls' := #[.val (.int p1), .val (.int (p1 &&& (7 : Int32))), .val (.int ((p1.toUInt32 >>> ((3 : Int32) &&& 31).toUInt32).toInt32)), .val (.long (g2_2 p1)), .second]) (hb hby d2_34) rfl rfl ?_
  refine o_lloadN X2 hx (pc' := 36) (hb hby d2_35) rfl rfl ?_
  refine o_iloadN X2 hx (pc' := 37) (hb hby d2_36) rfl rfl ?_
  refine o_iconst X2 hx (pc' := 38) (v := (2 : Int32)) (hb hby d2_37) rfl rfl ?_
  refine o_iadd X2 hx (pc' := 39) (hb hby d2_38) rfl ?_
  refine o_iloadN X2 hx (pc' := 40) (hb hby d2_39) rfl rfl ?_
  refine o_iconst X2 hx (pc' := 41) (v := (1 : Int32)) (hb hby d2_40) rfl rfl ?_
  refine o_isub X2 hx (pc' := 42) (hb hby d2_41) rfl ?_
  refine o_callSP X2 hx hZ [(.int ((p1 &&& (7 : Int32)) + (2 : Int32))), (.int (((p1.toUInt32 >>> ((3 : Int32) &&& 31).toUInt32).toInt32) - (1 : Int32)))] (rm3 l Z a0 hw h0 ((p1 &&& (7 : Int32)) + (2 : Int32)) (((p1.toUInt32 >>> ((3 : Int32) &&& 31).toUInt32).toInt32) - (1 : Int32))) hown (hw _ (List.mem_of_getElem? (i := 12) rfl)) (hw _ (List.mem_of_getElem? (i := 13) rfl)) (hw _ (List.mem_of_getElem? (i := 10) rfl)) (hw _ (List.mem_of_getElem? (i := 14) rfl)) (by decide) pd_0 e2 (by rw [hml]; rfl) rfl rfl rfl (hb hby d2_42) (pc' := 45) rfl 2 (Nat.le_of_eq rfl) (by decide) (by decide) rfl rfl (by decide) (by decide) ?_
  intro T3 X3 e3
  show Dn p e below _ (T3.setTop (mkF m 45 #[.val (.int p1), .val (.int (p1 &&& (7 : Int32))), .val (.int ((p1.toUInt32 >>> ((3 : Int32) &&& 31).toUInt32).toInt32)), .val (.long (g2_2 p1)), .second] [(.long (F3 ((p1 &&& (7 : Int32)) + (2 : Int32)) (((p1.toUInt32 >>> ((3 : Int32) &&& 31).toUInt32).toInt32) - (1 : Int32)))), (.long (g2_2 p1))]))
  refine o_lor X3 hx (pc' := 46) (hb hby d2_45) rfl ?_
  refine o_lstoreN X3 hx (pc' := 47) (Ls' := #[.val (.int p1), .val (.int (p1 &&& (7 : Int32))), .val (.int ((p1.toUInt32 >>> ((3 : Int32) &&& 31).toUInt32).toInt32)), .val (.long (g2_3 p1)), .second]) (hb hby d2_46) rfl rfl ?_
  refine o_lloadN X3 hx (pc' := 48) (hb hby d2_47) rfl rfl ?_
  refine o_iloadN X3 hx (pc' := 49) (hb hby d2_48) rfl rfl ?_
  refine o_iconst X3 hx (pc' := 50) (v := (1 : Int32)) (hb hby d2_49) rfl rfl ?_
  refine o_iadd X3 hx (pc' := 51) (hb hby d2_50) rfl ?_
  refine o_iloadN X3 hx (pc' := 52) (hb hby d2_51) rfl rfl ?_
  refine o_iconst X3 hx (pc' := 53) (v := (2 : Int32)) (hb hby d2_52) rfl rfl ?_
  refine o_isub X3 hx (pc' := 54) (hb hby d2_53) rfl ?_
  refine o_callSP X3 hx hZ [(.int ((p1 &&& (7 : Int32)) + (1 : Int32))), (.int (((p1.toUInt32 >>> ((3 : Int32) &&& 31).toUInt32).toInt32) - (2 : Int32)))] (rm3 l Z a0 hw h0 ((p1 &&& (7 : Int32)) + (1 : Int32)) (((p1.toUInt32 >>> ((3 : Int32) &&& 31).toUInt32).toInt32) - (2 : Int32))) hown (hw _ (List.mem_of_getElem? (i := 12) rfl)) (hw _ (List.mem_of_getElem? (i := 13) rfl)) (hw _ (List.mem_of_getElem? (i := 10) rfl)) (hw _ (List.mem_of_getElem? (i := 14) rfl)) (by decide) pd_0 e3 (by rw [hml]; rfl) rfl rfl rfl (hb hby d2_54) (pc' := 57) rfl 2 (Nat.le_of_eq rfl) (by decide) (by decide) rfl rfl (by decide) (by decide) ?_
  intro T4 X4 e4
  show Dn p e below _ (T4.setTop (mkF m 57 #[.val (.int p1), .val (.int (p1 &&& (7 : Int32))), .val (.int ((p1.toUInt32 >>> ((3 : Int32) &&& 31).toUInt32).toInt32)), .val (.long (g2_3 p1)), .second] [(.long (F3 ((p1 &&& (7 : Int32)) + (1 : Int32)) (((p1.toUInt32 >>> ((3 : Int32) &&& 31).toUInt32).toInt32) - (2 : Int32)))), (.long (g2_3 p1))]))
  refine o_lor X4 hx (pc' := 58) (hb hby d2_57) rfl ?_
  refine o_lstoreN X4 hx (pc' := 59) (Ls' := #[.val (.int p1), .val (.int (p1 &&& (7 : Int32))), .val (.int ((p1.toUInt32 >>> ((3 : Int32) &&& 31).toUInt32).toInt32)), .val (.long (g2_4 p1)), .second]) (hb hby d2_58) rfl rfl ?_
  refine o_lloadN X4 hx (pc' := 60) (hb hby d2_59) rfl rfl ?_
  refine o_iloadN X4 hx (pc' := 61) (hb hby d2_60) rfl rfl ?_
  refine o_iconst X4 hx (pc' := 62) (v := (1 : Int32)) (hb hby d2_61) rfl rfl ?_
  refine o_isub X4 hx (pc' := 63) (hb hby d2_62) rfl ?_
  refine o_iloadN X4 hx (pc' := 64) (hb hby d2_63) rfl rfl ?_
  refine o_iconst X4 hx (pc' := 65) (v := (2 : Int32)) (hb hby d2_64) rfl rfl ?_
  refine o_isub X4 hx (pc' := 66) (hb hby d2_65) rfl ?_
  refine o_callSP X4 hx hZ [(.int ((p1 &&& (7 : Int32)) - (1 : Int32))), (.int (((p1.toUInt32 >>> ((3 : Int32) &&& 31).toUInt32).toInt32) - (2 : Int32)))] (rm3 l Z a0 hw h0 ((p1 &&& (7 : Int32)) - (1 : Int32)) (((p1.toUInt32 >>> ((3 : Int32) &&& 31).toUInt32).toInt32) - (2 : Int32))) hown (hw _ (List.mem_of_getElem? (i := 12) rfl)) (hw _ (List.mem_of_getElem? (i := 13) rfl)) (hw _ (List.mem_of_getElem? (i := 10) rfl)) (hw _ (List.mem_of_getElem? (i := 14) rfl)) (by decide) pd_0 e4 (by rw [hml]; rfl) rfl rfl rfl (hb hby d2_66) (pc' := 69) rfl 2 (Nat.le_of_eq rfl) (by decide) (by decide) rfl rfl (by decide) (by decide) ?_
  intro T5 X5 e5
  show Dn p e below _ (T5.setTop (mkF m 69 #[.val (.int p1), .val (.int (p1 &&& (7 : Int32))), .val (.int ((p1.toUInt32 >>> ((3 : Int32) &&& 31).toUInt32).toInt32)), .val (.long (g2_4 p1)), .second] [(.long (F3 ((p1 &&& (7 : Int32)) - (1 : Int32)) (((p1.toUInt32 >>> ((3 : Int32) &&& 31).toUInt32).toInt32) - (2 : Int32)))), (.long (g2_4 p1))]))
  refine o_lor X5 hx (pc' := 70) (hb hby d2_69) rfl ?_
  refine o_lstoreN X5 hx (pc' := 71) (Ls' := #[.val (.int p1), .val (.int (p1 &&& (7 : Int32))), .val (.int ((p1.toUInt32 >>> ((3 : Int32) &&& 31).toUInt32).toInt32)), .val (.long (g2_5 p1)), .second]) (hb hby d2_70) rfl rfl ?_
  refine o_lloadN X5 hx (pc' := 72) (hb hby d2_71) rfl rfl ?_
  refine o_iloadN X5 hx (pc' := 73) (hb hby d2_72) rfl rfl ?_
  refine o_iconst X5 hx (pc' := 74) (v := (2 : Int32)) (hb hby d2_73) rfl rfl ?_
  refine o_isub X5 hx (pc' := 75) (hb hby d2_74) rfl ?_
  refine o_iloadN X5 hx (pc' := 76) (hb hby d2_75) rfl rfl ?_
  refine o_iconst X5 hx (pc' := 77) (v := (1 : Int32)) (hb hby d2_76) rfl rfl ?_
  refine o_isub X5 hx (pc' := 78) (hb hby d2_77) rfl ?_
  refine o_callSP X5 hx hZ [(.int ((p1 &&& (7 : Int32)) - (2 : Int32))), (.int (((p1.toUInt32 >>> ((3 : Int32) &&& 31).toUInt32).toInt32) - (1 : Int32)))] (rm3 l Z a0 hw h0 ((p1 &&& (7 : Int32)) - (2 : Int32)) (((p1.toUInt32 >>> ((3 : Int32) &&& 31).toUInt32).toInt32) - (1 : Int32))) hown (hw _ (List.mem_of_getElem? (i := 12) rfl)) (hw _ (List.mem_of_getElem? (i := 13) rfl)) (hw _ (List.mem_of_getElem? (i := 10) rfl)) (hw _ (List.mem_of_getElem? (i := 14) rfl)) (by decide) pd_0 e5 (by rw [hml]; rfl) rfl rfl rfl (hb hby d2_78) (pc' := 81) rfl 2 (Nat.le_of_eq rfl) (by decide) (by decide) rfl rfl (by decide) (by decide) ?_
  intro T6 X6 e6
  show Dn p e below _ (T6.setTop (mkF m 81 #[.val (.int p1), .val (.int (p1 &&& (7 : Int32))), .val (.int ((p1.toUInt32 >>> ((3 : Int32) &&& 31).toUInt32).toInt32)), .val (.long (g2_5 p1)), .second] [(.long (F3 ((p1 &&& (7 : Int32)) - (2 : Int32)) (((p1.toUInt32 >>> ((3 : Int32) &&& 31).toUInt32).toInt32) - (1 : Int32)))), (.long (g2_5 p1))]))
  refine o_lor X6 hx (pc' := 82) (hb hby d2_81) rfl ?_
  refine o_lstoreN X6 hx (pc' := 83) (Ls' := #[.val (.int p1), .val (.int (p1 &&& (7 : Int32))), .val (.int ((p1.toUInt32 >>> ((3 : Int32) &&& 31).toUInt32).toInt32)), .val (.long (g2_6 p1)), .second]) (hb hby d2_82) rfl rfl ?_
  refine o_lloadN X6 hx (pc' := 84) (hb hby d2_83) rfl rfl ?_
  refine o_iloadN X6 hx (pc' := 85) (hb hby d2_84) rfl rfl ?_
  refine o_iconst X6 hx (pc' := 86) (v := (2 : Int32)) (hb hby d2_85) rfl rfl ?_
  refine o_isub X6 hx (pc' := 87) (hb hby d2_86) rfl ?_
  refine o_iloadN X6 hx (pc' := 88) (hb hby d2_87) rfl rfl ?_
  refine o_iconst X6 hx (pc' := 89) (v := (1 : Int32)) (hb hby d2_88) rfl rfl ?_
  refine o_iadd X6 hx (pc' := 90) (hb hby d2_89) rfl ?_
  refine o_callSP X6 hx hZ [(.int ((p1 &&& (7 : Int32)) - (2 : Int32))), (.int (((p1.toUInt32 >>> ((3 : Int32) &&& 31).toUInt32).toInt32) + (1 : Int32)))] (rm3 l Z a0 hw h0 ((p1 &&& (7 : Int32)) - (2 : Int32)) (((p1.toUInt32 >>> ((3 : Int32) &&& 31).toUInt32).toInt32) + (1 : Int32))) hown (hw _ (List.mem_of_getElem? (i := 12) rfl)) (hw _ (List.mem_of_getElem? (i := 13) rfl)) (hw _ (List.mem_of_getElem? (i := 10) rfl)) (hw _ (List.mem_of_getElem? (i := 14) rfl)) (by decide) pd_0 e6 (by rw [hml]; rfl) rfl rfl rfl (hb hby d2_90) (pc' := 93) rfl 2 (Nat.le_of_eq rfl) (by decide) (by decide) rfl rfl (by decide) (by decide) ?_
  intro T7 X7 e7
  show Dn p e below _ (T7.setTop (mkF m 93 #[.val (.int p1), .val (.int (p1 &&& (7 : Int32))), .val (.int ((p1.toUInt32 >>> ((3 : Int32) &&& 31).toUInt32).toInt32)), .val (.long (g2_6 p1)), .second] [(.long (F3 ((p1 &&& (7 : Int32)) - (2 : Int32)) (((p1.toUInt32 >>> ((3 : Int32) &&& 31).toUInt32).toInt32) + (1 : Int32)))), (.long (g2_6 p1))]))
  refine o_lor X7 hx (pc' := 94) (hb hby d2_93) rfl ?_
  refine o_lstoreN X7 hx (pc' := 95) (Ls' := #[.val (.int p1), .val (.int (p1 &&& (7 : Int32))), .val (.int ((p1.toUInt32 >>> ((3 : Int32) &&& 31).toUInt32).toInt32)), .val (.long (g2_7 p1)), .second]) (hb hby d2_94) rfl rfl ?_
  refine o_lloadN X7 hx (pc' := 96) (hb hby d2_95) rfl rfl ?_
  refine o_iloadN X7 hx (pc' := 97) (hb hby d2_96) rfl rfl ?_
  refine o_iconst X7 hx (pc' := 98) (v := (1 : Int32)) (hb hby d2_97) rfl rfl ?_
  refine o_isub X7 hx (pc' := 99) (hb hby d2_98) rfl ?_
  refine o_iloadN X7 hx (pc' := 100) (hb hby d2_99) rfl rfl ?_
  refine o_iconst X7 hx (pc' := 101) (v := (2 : Int32)) (hb hby d2_100) rfl rfl ?_
  refine o_iadd X7 hx (pc' := 102) (hb hby d2_101) rfl ?_
  refine o_callSP X7 hx hZ [(.int ((p1 &&& (7 : Int32)) - (1 : Int32))), (.int (((p1.toUInt32 >>> ((3 : Int32) &&& 31).toUInt32).toInt32) + (2 : Int32)))] (rm3 l Z a0 hw h0 ((p1 &&& (7 : Int32)) - (1 : Int32)) (((p1.toUInt32 >>> ((3 : Int32) &&& 31).toUInt32).toInt32) + (2 : Int32))) hown (hw _ (List.mem_of_getElem? (i := 12) rfl)) (hw _ (List.mem_of_getElem? (i := 13) rfl)) (hw _ (List.mem_of_getElem? (i := 10) rfl)) (hw _ (List.mem_of_getElem? (i := 14) rfl)) (by decide) pd_0 e7 (by rw [hml]; rfl) rfl rfl rfl (hb hby d2_102) (pc' := 105) rfl 2 (Nat.le_of_eq rfl) (by decide) (by decide) rfl rfl (by decide) (by decide) ?_
  intro T8 X8 e8
  show Dn p e below _ (T8.setTop (mkF m 105 #[.val (.int p1), .val (.int (p1 &&& (7 : Int32))), .val (.int ((p1.toUInt32 >>> ((3 : Int32) &&& 31).toUInt32).toInt32)), .val (.long (g2_7 p1)), .second] [(.long (F3 ((p1 &&& (7 : Int32)) - (1 : Int32)) (((p1.toUInt32 >>> ((3 : Int32) &&& 31).toUInt32).toInt32) + (2 : Int32)))), (.long (g2_7 p1))]))
  refine o_lor X8 hx (pc' := 106) (hb hby d2_105) rfl ?_
  refine o_lstoreN X8 hx (pc' := 107) (Ls' := #[.val (.int p1), .val (.int (p1 &&& (7 : Int32))), .val (.int ((p1.toUInt32 >>> ((3 : Int32) &&& 31).toUInt32).toInt32)), .val (.long (g2_8 p1)), .second]) (hb hby d2_106) rfl rfl ?_
  refine o_lloadN X8 hx (pc' := 108) (hb hby d2_107) rfl rfl ?_
  exact finJ X8 hx hlk hret (hb hby d2_108) (by decide) (by decide) ⟨by show some (Value.long _) = some (Value.long (F2 p1)); unfold F2; rfl, rfl, e8⟩
theorem pd_1 : parseMethodDescriptor "(J)J" = some ⟨[.long], some .long⟩ := by decide +kernel
theorem pd_2 : parseMethodDescriptor "(I)J" = some ⟨[.int], some .long⟩ := by decide +kernel
theorem pn_0 : plainFor x = true := plainFor_of_name (by show plainName "com/example/jadoube/jadoube/BitboardsKnightAttacksOfPinLaw" = true; first | (simp [plainName, overriddenIn]; done) | decide +kernel)
theorem ef_0 (m : MethodId) (q1 : Int64) (q2 : Int64) (p3 : Int32) : entryFrame m #[(.long q1), (.long q2), (.int p3)] maxLocals = mkF m 0 #[.val (.long q1), .second, .val (.long q2), .second, .val (.int p3), .unset, .unset, .unset, .unset, .unset, .unset] [] := by first | (simp [entryFrame, mkF, argsToLocals, Value.category, maxLocals]; done) | rfl
def F0 (q1 : Int64) (q2 : Int64) (p3 : Int32) : Int32 := 
  if (F1 (0 : Int64)) = (0 : Int64) then 
    if (F1 ((1 : Int64) <<< ((p3 &&& (63 : Int32)) &&& 0x3f).toInt64)) = (F2 (p3 &&& (63 : Int32))) then 
      if (F1 (q1 ||| q2)) = ((F1 q1) ||| (F1 q2)) then (1 : Int32)
      else (0 : Int32)
    else 
      if (F1 (q1 ||| q2)) = ((F1 q1) ||| (F1 q2)) then (0 : Int32)
      else (0 : Int32)
  else 
    if (F1 ((1 : Int64) <<< ((p3 &&& (63 : Int32)) &&& 0x3f).toInt64)) = (F2 (p3 &&& (63 : Int32))) then 
      if (F1 (q1 ||| q2)) = ((F1 q1) ||| (F1 q2)) then (0 : Int32)
      else (0 : Int32)
    else 
      if (F1 (q1 ||| q2)) = ((F1 q1) ||| (F1 q2)) then (0 : Int32)
      else (0 : Int32)
set_option maxRecDepth 65536 in
set_option maxHeartbeats 40000000 in
theorem rm0 (l : Launch) (Z : State) (a0 : Array Value) (hw : ∀ d ∈ tables_1, d.before a0 Z = true) (ws : List Jvm.Cond) (h0 : Heap) (q1 : Int64) (q2 : Int64) (p3 : Int32) : Ctr l Z x code maxLocals ret ws room_1 #[(.long q1), (.long q2), (.int p3)] h0 (Pure (.int (F0 q1 q2 p3)) h0) := by
  refine ctr_mk pn_0 (own := "com/example/jadoube/jadoube/BitboardsKnightAttacksOfPinLaw") (mn := "law") rfl rfl ?_
  intro p e s m below meth c T0 X0 hx hby hml hZ hown hnm hret hlk e0
  refine o_entry (ef_0 m q1 q2 p3) ?_
  refine o_iload X0 hx (pc' := 2) (hb hby at_0) rfl rfl ?_
  refine o_bipush X0 hx (pc' := 4) (v := (63 : Int32)) (hb hby at_2) rfl rfl ?_
  refine o_iand X0 hx (pc' := 5) (hb hby at_4) rfl ?_
  refine o_istore X0 hx (pc' := 7) (Ls' := #[.val (.long q1), .second, .val (.long q2), .second, .val (.int p3), .val (.int (p3 &&& (63 : Int32))), .unset, .unset, .unset, .unset, .unset]) (hb hby at_5) rfl rfl ?_
  refine o_lconst X0 hx (pc' := 8) (v := (1 : Int64)) (hb hby at_7) rfl rfl ?_
  refine o_iload X0 hx (pc' := 10) (hb hby at_8) rfl rfl ?_
  refine o_lshl X0 hx (pc' := 11) (hb hby at_10) rfl ?_
  refine o_lstore X0 hx (pc' := 13) (Ls' := #[.val (.long q1), .second, .val (.long q2), .second, .val (.int p3), .val (.int (p3 &&& (63 : Int32))), .val (.long ((1 : Int64) <<< ((p3 &&& (63 : Int32)) &&& 0x3f).toInt64)), .second, .unset, .unset, .unset]) (hb hby at_11) rfl rfl ?_
  refine o_lconst X0 hx (pc' := 14) (v := (0 : Int64)) (hb hby at_13) rfl rfl ?_
  refine o_callSP X0 hx hZ [(.long (0 : Int64))] (rm1 l Z a0 hw h0 (0 : Int64)) hown (hw _ (List.mem_of_getElem? (i := 0) rfl)) (hw _ (List.mem_of_getElem? (i := 1) rfl)) (hw _ (List.mem_of_getElem? (i := 2) rfl)) (hw _ (List.mem_of_getElem? (i := 3) rfl)) (by decide) pd_1 e0 (by rw [hml]; rfl) rfl rfl rfl (hb hby at_14) (pc' := 17) rfl 0 (Nat.le_of_eq rfl) (by decide) (by decide) rfl rfl (by decide) (by decide) ?_
  intro T1 X1 e1
  show Dn p e below _ (T1.setTop (mkF m 17 #[.val (.long q1), .second, .val (.long q2), .second, .val (.int p3), .val (.int (p3 &&& (63 : Int32))), .val (.long ((1 : Int64) <<< ((p3 &&& (63 : Int32)) &&& 0x3f).toInt64)), .second, .unset, .unset, .unset] [(.long (F1 (0 : Int64)))]))
  refine o_lconst X1 hx (pc' := 18) (v := (0 : Int64)) (hb hby at_17) rfl rfl ?_
  refine o_lcmp X1 hx (pc' := 19) (hb hby at_18) rfl ?_
  refine o_lif_ne X1 hx (pc' := 22) (pt := 26) (hb hby at_19) rfl (by decide) (by decide) (fun hc19 => ?_) (fun hc19 => ?_)
  · skip
    refine o_iconst X1 hx (pc' := 27) (v := (0 : Int32)) (hb hby at_26) rfl rfl ?_
    refine o_istore X1 hx (pc' := 29) (Ls' := #[.val (.long q1), .second, .val (.long q2), .second, .val (.int p3), .val (.int (p3 &&& (63 : Int32))), .val (.long ((1 : Int64) <<< ((p3 &&& (63 : Int32)) &&& 0x3f).toInt64)), .second, .val (.int (0 : Int32)), .unset, .unset]) (hb hby at_27) rfl rfl ?_
    refine o_lload X1 hx (pc' := 31) (hb hby at_29) rfl rfl ?_
    refine o_callSP X1 hx hZ [(.long ((1 : Int64) <<< ((p3 &&& (63 : Int32)) &&& 0x3f).toInt64))] (rm1 l Z a0 hw h0 ((1 : Int64) <<< ((p3 &&& (63 : Int32)) &&& 0x3f).toInt64)) hown (hw _ (List.mem_of_getElem? (i := 0) rfl)) (hw _ (List.mem_of_getElem? (i := 1) rfl)) (hw _ (List.mem_of_getElem? (i := 2) rfl)) (hw _ (List.mem_of_getElem? (i := 3) rfl)) (by decide) pd_1 e1 (by rw [hml]; rfl) rfl rfl rfl (hb hby at_31) (pc' := 34) rfl 0 (Nat.le_of_eq rfl) (by decide) (by decide) rfl rfl (by decide) (by decide) ?_
    intro T2 X2 e2
    show Dn p e below _ (T2.setTop (mkF m 34 #[.val (.long q1), .second, .val (.long q2), .second, .val (.int p3), .val (.int (p3 &&& (63 : Int32))), .val (.long ((1 : Int64) <<< ((p3 &&& (63 : Int32)) &&& 0x3f).toInt64)), .second, .val (.int (0 : Int32)), .unset, .unset] [(.long (F1 ((1 : Int64) <<< ((p3 &&& (63 : Int32)) &&& 0x3f).toInt64)))]))
    refine o_iload X2 hx (pc' := 36) (hb hby at_34) rfl rfl ?_
    refine o_callSP X2 hx hZ [(.int (p3 &&& (63 : Int32)))] (rm2 l Z a0 hw h0 (p3 &&& (63 : Int32))) hown (hw _ (List.mem_of_getElem? (i := 8) rfl)) (hw _ (List.mem_of_getElem? (i := 9) rfl)) (hw _ (List.mem_of_getElem? (i := 10) rfl)) (hw _ (List.mem_of_getElem? (i := 11) rfl)) (by decide) pd_2 e2 (by rw [hml]; rfl) rfl rfl rfl (hb hby at_36) (pc' := 39) rfl 2 (Nat.le_of_eq rfl) (by decide) (by decide) rfl rfl (by decide) (by decide) ?_
    intro T3 X3 e3
    show Dn p e below _ (T3.setTop (mkF m 39 #[.val (.long q1), .second, .val (.long q2), .second, .val (.int p3), .val (.int (p3 &&& (63 : Int32))), .val (.long ((1 : Int64) <<< ((p3 &&& (63 : Int32)) &&& 0x3f).toInt64)), .second, .val (.int (0 : Int32)), .unset, .unset] [(.long (F2 (p3 &&& (63 : Int32)))), (.long (F1 ((1 : Int64) <<< ((p3 &&& (63 : Int32)) &&& 0x3f).toInt64)))]))
    refine o_lcmp X3 hx (pc' := 40) (hb hby at_39) rfl ?_
    refine o_lif_ne X3 hx (pc' := 43) (pt := 47) (hb hby at_40) rfl (by decide) (by decide) (fun hc40 => ?_) (fun hc40 => ?_)
    · skip
      refine o_iconst X3 hx (pc' := 48) (v := (0 : Int32)) (hb hby at_47) rfl rfl ?_
      refine o_istore X3 hx (pc' := 50) (Ls' := #[.val (.long q1), .second, .val (.long q2), .second, .val (.int p3), .val (.int (p3 &&& (63 : Int32))), .val (.long ((1 : Int64) <<< ((p3 &&& (63 : Int32)) &&& 0x3f).toInt64)), .second, .val (.int (0 : Int32)), .val (.int (0 : Int32)), .unset]) (hb hby at_48) rfl rfl ?_
      refine o_lloadN X3 hx (pc' := 51) (hb hby at_50) rfl rfl ?_
      refine o_lloadN X3 hx (pc' := 52) (hb hby at_51) rfl rfl ?_
      refine o_lor X3 hx (pc' := 53) (hb hby at_52) rfl ?_
      refine o_callSP X3 hx hZ [(.long (q1 ||| q2))] (rm1 l Z a0 hw h0 (q1 ||| q2)) hown (hw _ (List.mem_of_getElem? (i := 0) rfl)) (hw _ (List.mem_of_getElem? (i := 1) rfl)) (hw _ (List.mem_of_getElem? (i := 2) rfl)) (hw _ (List.mem_of_getElem? (i := 3) rfl)) (by decide) pd_1 e3 (by rw [hml]; rfl) rfl rfl rfl (hb hby at_53) (pc' := 56) rfl 0 (Nat.le_of_eq rfl) (by decide) (by decide) rfl rfl (by decide) (by decide) ?_
      intro T4 X4 e4
      show Dn p e below _ (T4.setTop (mkF m 56 #[.val (.long q1), .second, .val (.long q2), .second, .val (.int p3), .val (.int (p3 &&& (63 : Int32))), .val (.long ((1 : Int64) <<< ((p3 &&& (63 : Int32)) &&& 0x3f).toInt64)), .second, .val (.int (0 : Int32)), .val (.int (0 : Int32)), .unset] [(.long (F1 (q1 ||| q2)))]))
      refine o_lloadN X4 hx (pc' := 57) (hb hby at_56) rfl rfl ?_
      refine o_callSP X4 hx hZ [(.long q1)] (rm1 l Z a0 hw h0 q1) hown (hw _ (List.mem_of_getElem? (i := 0) rfl)) (hw _ (List.mem_of_getElem? (i := 1) rfl)) (hw _ (List.mem_of_getElem? (i := 2) rfl)) (hw _ (List.mem_of_getElem? (i := 3) rfl)) (by decide) pd_1 e4 (by rw [hml]; rfl) rfl rfl rfl (hb hby at_57) (pc' := 60) rfl 2 (Nat.le_of_eq rfl) (by decide) (by decide) rfl rfl (by decide) (by decide) ?_
      intro T5 X5 e5
      show Dn p e below _ (T5.setTop (mkF m 60 #[.val (.long q1), .second, .val (.long q2), .second, .val (.int p3), .val (.int (p3 &&& (63 : Int32))), .val (.long ((1 : Int64) <<< ((p3 &&& (63 : Int32)) &&& 0x3f).toInt64)), .second, .val (.int (0 : Int32)), .val (.int (0 : Int32)), .unset] [(.long (F1 q1)), (.long (F1 (q1 ||| q2)))]))
      refine o_lloadN X5 hx (pc' := 61) (hb hby at_60) rfl rfl ?_
      refine o_callSP X5 hx hZ [(.long q2)] (rm1 l Z a0 hw h0 q2) hown (hw _ (List.mem_of_getElem? (i := 0) rfl)) (hw _ (List.mem_of_getElem? (i := 1) rfl)) (hw _ (List.mem_of_getElem? (i := 2) rfl)) (hw _ (List.mem_of_getElem? (i := 3) rfl)) (by decide) pd_1 e5 (by rw [hml]; rfl) rfl rfl rfl (hb hby at_61) (pc' := 64) rfl 4 (Nat.le_of_eq rfl) (by decide) (by decide) rfl rfl (by decide) (by decide) ?_
      intro T6 X6 e6
      show Dn p e below _ (T6.setTop (mkF m 64 #[.val (.long q1), .second, .val (.long q2), .second, .val (.int p3), .val (.int (p3 &&& (63 : Int32))), .val (.long ((1 : Int64) <<< ((p3 &&& (63 : Int32)) &&& 0x3f).toInt64)), .second, .val (.int (0 : Int32)), .val (.int (0 : Int32)), .unset] [(.long (F1 q2)), (.long (F1 q1)), (.long (F1 (q1 ||| q2)))]))
      refine o_lor X6 hx (pc' := 65) (hb hby at_64) rfl ?_
      refine o_lcmp X6 hx (pc' := 66) (hb hby at_65) rfl ?_
      refine o_lif_ne X6 hx (pc' := 69) (pt := 73) (hb hby at_66) rfl (by decide) (by decide) (fun hc66 => ?_) (fun hc66 => ?_)
      · skip
        refine o_iconst X6 hx (pc' := 74) (v := (0 : Int32)) (hb hby at_73) rfl rfl ?_
        refine o_istore X6 hx (pc' := 76) (Ls' := #[.val (.long q1), .second, .val (.long q2), .second, .val (.int p3), .val (.int (p3 &&& (63 : Int32))), .val (.long ((1 : Int64) <<< ((p3 &&& (63 : Int32)) &&& 0x3f).toInt64)), .second, .val (.int (0 : Int32)), .val (.int (0 : Int32)), .val (.int (0 : Int32))]) (hb hby at_74) rfl rfl ?_
        refine o_iload X6 hx (pc' := 78) (hb hby at_76) rfl rfl ?_
        refine o_if_eq X6 hx (pc' := 81) (pt := 95) (hb hby at_78) rfl (by decide) (by decide) (fun _ => ?_) (fun q => absurd q (by decide))
        refine o_iconst X6 hx (pc' := 96) (v := (0 : Int32)) (hb hby at_95) rfl rfl ?_
        exact finN X6 hx hlk (t := .boolean) hret (by simp) (hb hby at_96) (by decide) (by decide) ⟨by show some (Value.int _) = some (Value.int (F0 q1 q2 p3)); unfold F0; rw [if_neg hc19, if_neg hc40, if_neg hc66]; rfl, rfl, e6⟩
      · skip
        refine o_iconst X6 hx (pc' := 70) (v := (1 : Int32)) (hb hby at_69) rfl rfl ?_
        refine o_goto X6 hx (pc' := 74) (hb hby at_70) (by decide) (by decide) ?_
        refine o_istore X6 hx (pc' := 76) (Ls' := #[.val (.long q1), .second, .val (.long q2), .second, .val (.int p3), .val (.int (p3 &&& (63 : Int32))), .val (.long ((1 : Int64) <<< ((p3 &&& (63 : Int32)) &&& 0x3f).toInt64)), .second, .val (.int (0 : Int32)), .val (.int (0 : Int32)), .val (.int (1 : Int32))]) (hb hby at_74) rfl rfl ?_
        refine o_iload X6 hx (pc' := 78) (hb hby at_76) rfl rfl ?_
        refine o_if_eq X6 hx (pc' := 81) (pt := 95) (hb hby at_78) rfl (by decide) (by decide) (fun _ => ?_) (fun q => absurd q (by decide))
        refine o_iconst X6 hx (pc' := 96) (v := (0 : Int32)) (hb hby at_95) rfl rfl ?_
        exact finN X6 hx hlk (t := .boolean) hret (by simp) (hb hby at_96) (by decide) (by decide) ⟨by show some (Value.int _) = some (Value.int (F0 q1 q2 p3)); unfold F0; rw [if_neg hc19, if_neg hc40, if_pos hc66]; rfl, rfl, e6⟩
    · skip
      refine o_iconst X3 hx (pc' := 44) (v := (1 : Int32)) (hb hby at_43) rfl rfl ?_
      refine o_goto X3 hx (pc' := 48) (hb hby at_44) (by decide) (by decide) ?_
      refine o_istore X3 hx (pc' := 50) (Ls' := #[.val (.long q1), .second, .val (.long q2), .second, .val (.int p3), .val (.int (p3 &&& (63 : Int32))), .val (.long ((1 : Int64) <<< ((p3 &&& (63 : Int32)) &&& 0x3f).toInt64)), .second, .val (.int (0 : Int32)), .val (.int (1 : Int32)), .unset]) (hb hby at_48) rfl rfl ?_
      refine o_lloadN X3 hx (pc' := 51) (hb hby at_50) rfl rfl ?_
      refine o_lloadN X3 hx (pc' := 52) (hb hby at_51) rfl rfl ?_
      refine o_lor X3 hx (pc' := 53) (hb hby at_52) rfl ?_
      refine o_callSP X3 hx hZ [(.long (q1 ||| q2))] (rm1 l Z a0 hw h0 (q1 ||| q2)) hown (hw _ (List.mem_of_getElem? (i := 0) rfl)) (hw _ (List.mem_of_getElem? (i := 1) rfl)) (hw _ (List.mem_of_getElem? (i := 2) rfl)) (hw _ (List.mem_of_getElem? (i := 3) rfl)) (by decide) pd_1 e3 (by rw [hml]; rfl) rfl rfl rfl (hb hby at_53) (pc' := 56) rfl 0 (Nat.le_of_eq rfl) (by decide) (by decide) rfl rfl (by decide) (by decide) ?_
      intro T7 X7 e7
      show Dn p e below _ (T7.setTop (mkF m 56 #[.val (.long q1), .second, .val (.long q2), .second, .val (.int p3), .val (.int (p3 &&& (63 : Int32))), .val (.long ((1 : Int64) <<< ((p3 &&& (63 : Int32)) &&& 0x3f).toInt64)), .second, .val (.int (0 : Int32)), .val (.int (1 : Int32)), .unset] [(.long (F1 (q1 ||| q2)))]))
      refine o_lloadN X7 hx (pc' := 57) (hb hby at_56) rfl rfl ?_
      refine o_callSP X7 hx hZ [(.long q1)] (rm1 l Z a0 hw h0 q1) hown (hw _ (List.mem_of_getElem? (i := 0) rfl)) (hw _ (List.mem_of_getElem? (i := 1) rfl)) (hw _ (List.mem_of_getElem? (i := 2) rfl)) (hw _ (List.mem_of_getElem? (i := 3) rfl)) (by decide) pd_1 e7 (by rw [hml]; rfl) rfl rfl rfl (hb hby at_57) (pc' := 60) rfl 2 (Nat.le_of_eq rfl) (by decide) (by decide) rfl rfl (by decide) (by decide) ?_
      intro T8 X8 e8
      show Dn p e below _ (T8.setTop (mkF m 60 #[.val (.long q1), .second, .val (.long q2), .second, .val (.int p3), .val (.int (p3 &&& (63 : Int32))), .val (.long ((1 : Int64) <<< ((p3 &&& (63 : Int32)) &&& 0x3f).toInt64)), .second, .val (.int (0 : Int32)), .val (.int (1 : Int32)), .unset] [(.long (F1 q1)), (.long (F1 (q1 ||| q2)))]))
      refine o_lloadN X8 hx (pc' := 61) (hb hby at_60) rfl rfl ?_
      refine o_callSP X8 hx hZ [(.long q2)] (rm1 l Z a0 hw h0 q2) hown (hw _ (List.mem_of_getElem? (i := 0) rfl)) (hw _ (List.mem_of_getElem? (i := 1) rfl)) (hw _ (List.mem_of_getElem? (i := 2) rfl)) (hw _ (List.mem_of_getElem? (i := 3) rfl)) (by decide) pd_1 e8 (by rw [hml]; rfl) rfl rfl rfl (hb hby at_61) (pc' := 64) rfl 4 (Nat.le_of_eq rfl) (by decide) (by decide) rfl rfl (by decide) (by decide) ?_
      intro T9 X9 e9
      show Dn p e below _ (T9.setTop (mkF m 64 #[.val (.long q1), .second, .val (.long q2), .second, .val (.int p3), .val (.int (p3 &&& (63 : Int32))), .val (.long ((1 : Int64) <<< ((p3 &&& (63 : Int32)) &&& 0x3f).toInt64)), .second, .val (.int (0 : Int32)), .val (.int (1 : Int32)), .unset] [(.long (F1 q2)), (.long (F1 q1)), (.long (F1 (q1 ||| q2)))]))
      refine o_lor X9 hx (pc' := 65) (hb hby at_64) rfl ?_
      refine o_lcmp X9 hx (pc' := 66) (hb hby at_65) rfl ?_
      refine o_lif_ne X9 hx (pc' := 69) (pt := 73) (hb hby at_66) rfl (by decide) (by decide) (fun hc66 => ?_) (fun hc66 => ?_)
      · skip
        refine o_iconst X9 hx (pc' := 74) (v := (0 : Int32)) (hb hby at_73) rfl rfl ?_
        refine o_istore X9 hx (pc' := 76) (Ls' := #[.val (.long q1), .second, .val (.long q2), .second, .val (.int p3), .val (.int (p3 &&& (63 : Int32))), .val (.long ((1 : Int64) <<< ((p3 &&& (63 : Int32)) &&& 0x3f).toInt64)), .second, .val (.int (0 : Int32)), .val (.int (1 : Int32)), .val (.int (0 : Int32))]) (hb hby at_74) rfl rfl ?_
        refine o_iload X9 hx (pc' := 78) (hb hby at_76) rfl rfl ?_
        refine o_if_eq X9 hx (pc' := 81) (pt := 95) (hb hby at_78) rfl (by decide) (by decide) (fun _ => ?_) (fun q => absurd q (by decide))
        refine o_iconst X9 hx (pc' := 96) (v := (0 : Int32)) (hb hby at_95) rfl rfl ?_
        exact finN X9 hx hlk (t := .boolean) hret (by simp) (hb hby at_96) (by decide) (by decide) ⟨by show some (Value.int _) = some (Value.int (F0 q1 q2 p3)); unfold F0; rw [if_neg hc19, if_pos hc40, if_neg hc66]; rfl, rfl, e9⟩
      · skip
        refine o_iconst X9 hx (pc' := 70) (v := (1 : Int32)) (hb hby at_69) rfl rfl ?_
        refine o_goto X9 hx (pc' := 74) (hb hby at_70) (by decide) (by decide) ?_
        refine o_istore X9 hx (pc' := 76) (Ls' := #[.val (.long q1), .second, .val (.long q2), .second, .val (.int p3), .val (.int (p3 &&& (63 : Int32))), .val (.long ((1 : Int64) <<< ((p3 &&& (63 : Int32)) &&& 0x3f).toInt64)), .second, .val (.int (0 : Int32)), .val (.int (1 : Int32)), .val (.int (1 : Int32))]) (hb hby at_74) rfl rfl ?_
        refine o_iload X9 hx (pc' := 78) (hb hby at_76) rfl rfl ?_
        refine o_if_eq X9 hx (pc' := 81) (pt := 95) (hb hby at_78) rfl (by decide) (by decide) (fun _ => ?_) (fun q => absurd q (by decide))
        refine o_iconst X9 hx (pc' := 96) (v := (0 : Int32)) (hb hby at_95) rfl rfl ?_
        exact finN X9 hx hlk (t := .boolean) hret (by simp) (hb hby at_96) (by decide) (by decide) ⟨by show some (Value.int _) = some (Value.int (F0 q1 q2 p3)); unfold F0; rw [if_neg hc19, if_pos hc40, if_pos hc66]; rfl, rfl, e9⟩
  · skip
    refine o_iconst X1 hx (pc' := 23) (v := (1 : Int32)) (hb hby at_22) rfl rfl ?_
    refine o_goto X1 hx (pc' := 27) (hb hby at_23) (by decide) (by decide) ?_
    refine o_istore X1 hx (pc' := 29) (Ls' := #[.val (.long q1), .second, .val (.long q2), .second, .val (.int p3), .val (.int (p3 &&& (63 : Int32))), .val (.long ((1 : Int64) <<< ((p3 &&& (63 : Int32)) &&& 0x3f).toInt64)), .second, .val (.int (1 : Int32)), .unset, .unset]) (hb hby at_27) rfl rfl ?_
    refine o_lload X1 hx (pc' := 31) (hb hby at_29) rfl rfl ?_
    refine o_callSP X1 hx hZ [(.long ((1 : Int64) <<< ((p3 &&& (63 : Int32)) &&& 0x3f).toInt64))] (rm1 l Z a0 hw h0 ((1 : Int64) <<< ((p3 &&& (63 : Int32)) &&& 0x3f).toInt64)) hown (hw _ (List.mem_of_getElem? (i := 0) rfl)) (hw _ (List.mem_of_getElem? (i := 1) rfl)) (hw _ (List.mem_of_getElem? (i := 2) rfl)) (hw _ (List.mem_of_getElem? (i := 3) rfl)) (by decide) pd_1 e1 (by rw [hml]; rfl) rfl rfl rfl (hb hby at_31) (pc' := 34) rfl 0 (Nat.le_of_eq rfl) (by decide) (by decide) rfl rfl (by decide) (by decide) ?_
    intro T10 X10 e10
    show Dn p e below _ (T10.setTop (mkF m 34 #[.val (.long q1), .second, .val (.long q2), .second, .val (.int p3), .val (.int (p3 &&& (63 : Int32))), .val (.long ((1 : Int64) <<< ((p3 &&& (63 : Int32)) &&& 0x3f).toInt64)), .second, .val (.int (1 : Int32)), .unset, .unset] [(.long (F1 ((1 : Int64) <<< ((p3 &&& (63 : Int32)) &&& 0x3f).toInt64)))]))
    refine o_iload X10 hx (pc' := 36) (hb hby at_34) rfl rfl ?_
    refine o_callSP X10 hx hZ [(.int (p3 &&& (63 : Int32)))] (rm2 l Z a0 hw h0 (p3 &&& (63 : Int32))) hown (hw _ (List.mem_of_getElem? (i := 8) rfl)) (hw _ (List.mem_of_getElem? (i := 9) rfl)) (hw _ (List.mem_of_getElem? (i := 10) rfl)) (hw _ (List.mem_of_getElem? (i := 11) rfl)) (by decide) pd_2 e10 (by rw [hml]; rfl) rfl rfl rfl (hb hby at_36) (pc' := 39) rfl 2 (Nat.le_of_eq rfl) (by decide) (by decide) rfl rfl (by decide) (by decide) ?_
    intro T11 X11 e11
    show Dn p e below _ (T11.setTop (mkF m 39 #[.val (.long q1), .second, .val (.long q2), .second, .val (.int p3), .val (.int (p3 &&& (63 : Int32))), .val (.long ((1 : Int64) <<< ((p3 &&& (63 : Int32)) &&& 0x3f).toInt64)), .second, .val (.int (1 : Int32)), .unset, .unset] [(.long (F2 (p3 &&& (63 : Int32)))), (.long (F1 ((1 : Int64) <<< ((p3 &&& (63 : Int32)) &&& 0x3f).toInt64)))]))
    refine o_lcmp X11 hx (pc' := 40) (hb hby at_39) rfl ?_
    refine o_lif_ne X11 hx (pc' := 43) (pt := 47) (hb hby at_40) rfl (by decide) (by decide) (fun hc40 => ?_) (fun hc40 => ?_)
    · skip
      refine o_iconst X11 hx (pc' := 48) (v := (0 : Int32)) (hb hby at_47) rfl rfl ?_
      refine o_istore X11 hx (pc' := 50) (Ls' := #[.val (.long q1), .second, .val (.long q2), .second, .val (.int p3), .val (.int (p3 &&& (63 : Int32))), .val (.long ((1 : Int64) <<< ((p3 &&& (63 : Int32)) &&& 0x3f).toInt64)), .second, .val (.int (1 : Int32)), .val (.int (0 : Int32)), .unset]) (hb hby at_48) rfl rfl ?_
      refine o_lloadN X11 hx (pc' := 51) (hb hby at_50) rfl rfl ?_
      refine o_lloadN X11 hx (pc' := 52) (hb hby at_51) rfl rfl ?_
      refine o_lor X11 hx (pc' := 53) (hb hby at_52) rfl ?_
      refine o_callSP X11 hx hZ [(.long (q1 ||| q2))] (rm1 l Z a0 hw h0 (q1 ||| q2)) hown (hw _ (List.mem_of_getElem? (i := 0) rfl)) (hw _ (List.mem_of_getElem? (i := 1) rfl)) (hw _ (List.mem_of_getElem? (i := 2) rfl)) (hw _ (List.mem_of_getElem? (i := 3) rfl)) (by decide) pd_1 e11 (by rw [hml]; rfl) rfl rfl rfl (hb hby at_53) (pc' := 56) rfl 0 (Nat.le_of_eq rfl) (by decide) (by decide) rfl rfl (by decide) (by decide) ?_
      intro T12 X12 e12
      show Dn p e below _ (T12.setTop (mkF m 56 #[.val (.long q1), .second, .val (.long q2), .second, .val (.int p3), .val (.int (p3 &&& (63 : Int32))), .val (.long ((1 : Int64) <<< ((p3 &&& (63 : Int32)) &&& 0x3f).toInt64)), .second, .val (.int (1 : Int32)), .val (.int (0 : Int32)), .unset] [(.long (F1 (q1 ||| q2)))]))
      refine o_lloadN X12 hx (pc' := 57) (hb hby at_56) rfl rfl ?_
      refine o_callSP X12 hx hZ [(.long q1)] (rm1 l Z a0 hw h0 q1) hown (hw _ (List.mem_of_getElem? (i := 0) rfl)) (hw _ (List.mem_of_getElem? (i := 1) rfl)) (hw _ (List.mem_of_getElem? (i := 2) rfl)) (hw _ (List.mem_of_getElem? (i := 3) rfl)) (by decide) pd_1 e12 (by rw [hml]; rfl) rfl rfl rfl (hb hby at_57) (pc' := 60) rfl 2 (Nat.le_of_eq rfl) (by decide) (by decide) rfl rfl (by decide) (by decide) ?_
      intro T13 X13 e13
      show Dn p e below _ (T13.setTop (mkF m 60 #[.val (.long q1), .second, .val (.long q2), .second, .val (.int p3), .val (.int (p3 &&& (63 : Int32))), .val (.long ((1 : Int64) <<< ((p3 &&& (63 : Int32)) &&& 0x3f).toInt64)), .second, .val (.int (1 : Int32)), .val (.int (0 : Int32)), .unset] [(.long (F1 q1)), (.long (F1 (q1 ||| q2)))]))
      refine o_lloadN X13 hx (pc' := 61) (hb hby at_60) rfl rfl ?_
      refine o_callSP X13 hx hZ [(.long q2)] (rm1 l Z a0 hw h0 q2) hown (hw _ (List.mem_of_getElem? (i := 0) rfl)) (hw _ (List.mem_of_getElem? (i := 1) rfl)) (hw _ (List.mem_of_getElem? (i := 2) rfl)) (hw _ (List.mem_of_getElem? (i := 3) rfl)) (by decide) pd_1 e13 (by rw [hml]; rfl) rfl rfl rfl (hb hby at_61) (pc' := 64) rfl 4 (Nat.le_of_eq rfl) (by decide) (by decide) rfl rfl (by decide) (by decide) ?_
      intro T14 X14 e14
      show Dn p e below _ (T14.setTop (mkF m 64 #[.val (.long q1), .second, .val (.long q2), .second, .val (.int p3), .val (.int (p3 &&& (63 : Int32))), .val (.long ((1 : Int64) <<< ((p3 &&& (63 : Int32)) &&& 0x3f).toInt64)), .second, .val (.int (1 : Int32)), .val (.int (0 : Int32)), .unset] [(.long (F1 q2)), (.long (F1 q1)), (.long (F1 (q1 ||| q2)))]))
      refine o_lor X14 hx (pc' := 65) (hb hby at_64) rfl ?_
      refine o_lcmp X14 hx (pc' := 66) (hb hby at_65) rfl ?_
      refine o_lif_ne X14 hx (pc' := 69) (pt := 73) (hb hby at_66) rfl (by decide) (by decide) (fun hc66 => ?_) (fun hc66 => ?_)
      · skip
        refine o_iconst X14 hx (pc' := 74) (v := (0 : Int32)) (hb hby at_73) rfl rfl ?_
        refine o_istore X14 hx (pc' := 76) (Ls' := #[.val (.long q1), .second, .val (.long q2), .second, .val (.int p3), .val (.int (p3 &&& (63 : Int32))), .val (.long ((1 : Int64) <<< ((p3 &&& (63 : Int32)) &&& 0x3f).toInt64)), .second, .val (.int (1 : Int32)), .val (.int (0 : Int32)), .val (.int (0 : Int32))]) (hb hby at_74) rfl rfl ?_
        refine o_iload X14 hx (pc' := 78) (hb hby at_76) rfl rfl ?_
        refine o_if_eq X14 hx (pc' := 81) (pt := 95) (hb hby at_78) rfl (by decide) (by decide) (fun q => absurd q (by decide)) (fun _ => ?_)
        refine o_iload X14 hx (pc' := 83) (hb hby at_81) rfl rfl ?_
        refine o_if_eq X14 hx (pc' := 86) (pt := 95) (hb hby at_83) rfl (by decide) (by decide) (fun _ => ?_) (fun q => absurd q (by decide))
        refine o_iconst X14 hx (pc' := 96) (v := (0 : Int32)) (hb hby at_95) rfl rfl ?_
        exact finN X14 hx hlk (t := .boolean) hret (by simp) (hb hby at_96) (by decide) (by decide) ⟨by show some (Value.int _) = some (Value.int (F0 q1 q2 p3)); unfold F0; rw [if_pos hc19, if_neg hc40, if_neg hc66]; rfl, rfl, e14⟩
      · skip
        refine o_iconst X14 hx (pc' := 70) (v := (1 : Int32)) (hb hby at_69) rfl rfl ?_
        refine o_goto X14 hx (pc' := 74) (hb hby at_70) (by decide) (by decide) ?_
        refine o_istore X14 hx (pc' := 76) (Ls' := #[.val (.long q1), .second, .val (.long q2), .second, .val (.int p3), .val (.int (p3 &&& (63 : Int32))), .val (.long ((1 : Int64) <<< ((p3 &&& (63 : Int32)) &&& 0x3f).toInt64)), .second, .val (.int (1 : Int32)), .val (.int (0 : Int32)), .val (.int (1 : Int32))]) (hb hby at_74) rfl rfl ?_
        refine o_iload X14 hx (pc' := 78) (hb hby at_76) rfl rfl ?_
        refine o_if_eq X14 hx (pc' := 81) (pt := 95) (hb hby at_78) rfl (by decide) (by decide) (fun q => absurd q (by decide)) (fun _ => ?_)
        refine o_iload X14 hx (pc' := 83) (hb hby at_81) rfl rfl ?_
        refine o_if_eq X14 hx (pc' := 86) (pt := 95) (hb hby at_83) rfl (by decide) (by decide) (fun _ => ?_) (fun q => absurd q (by decide))
        refine o_iconst X14 hx (pc' := 96) (v := (0 : Int32)) (hb hby at_95) rfl rfl ?_
        exact finN X14 hx hlk (t := .boolean) hret (by simp) (hb hby at_96) (by decide) (by decide) ⟨by show some (Value.int _) = some (Value.int (F0 q1 q2 p3)); unfold F0; rw [if_pos hc19, if_neg hc40, if_pos hc66]; rfl, rfl, e14⟩
    · skip
      refine o_iconst X11 hx (pc' := 44) (v := (1 : Int32)) (hb hby at_43) rfl rfl ?_
      refine o_goto X11 hx (pc' := 48) (hb hby at_44) (by decide) (by decide) ?_
      refine o_istore X11 hx (pc' := 50) (Ls' := #[.val (.long q1), .second, .val (.long q2), .second, .val (.int p3), .val (.int (p3 &&& (63 : Int32))), .val (.long ((1 : Int64) <<< ((p3 &&& (63 : Int32)) &&& 0x3f).toInt64)), .second, .val (.int (1 : Int32)), .val (.int (1 : Int32)), .unset]) (hb hby at_48) rfl rfl ?_
      refine o_lloadN X11 hx (pc' := 51) (hb hby at_50) rfl rfl ?_
      refine o_lloadN X11 hx (pc' := 52) (hb hby at_51) rfl rfl ?_
      refine o_lor X11 hx (pc' := 53) (hb hby at_52) rfl ?_
      refine o_callSP X11 hx hZ [(.long (q1 ||| q2))] (rm1 l Z a0 hw h0 (q1 ||| q2)) hown (hw _ (List.mem_of_getElem? (i := 0) rfl)) (hw _ (List.mem_of_getElem? (i := 1) rfl)) (hw _ (List.mem_of_getElem? (i := 2) rfl)) (hw _ (List.mem_of_getElem? (i := 3) rfl)) (by decide) pd_1 e11 (by rw [hml]; rfl) rfl rfl rfl (hb hby at_53) (pc' := 56) rfl 0 (Nat.le_of_eq rfl) (by decide) (by decide) rfl rfl (by decide) (by decide) ?_
      intro T15 X15 e15
      show Dn p e below _ (T15.setTop (mkF m 56 #[.val (.long q1), .second, .val (.long q2), .second, .val (.int p3), .val (.int (p3 &&& (63 : Int32))), .val (.long ((1 : Int64) <<< ((p3 &&& (63 : Int32)) &&& 0x3f).toInt64)), .second, .val (.int (1 : Int32)), .val (.int (1 : Int32)), .unset] [(.long (F1 (q1 ||| q2)))]))
      refine o_lloadN X15 hx (pc' := 57) (hb hby at_56) rfl rfl ?_
      refine o_callSP X15 hx hZ [(.long q1)] (rm1 l Z a0 hw h0 q1) hown (hw _ (List.mem_of_getElem? (i := 0) rfl)) (hw _ (List.mem_of_getElem? (i := 1) rfl)) (hw _ (List.mem_of_getElem? (i := 2) rfl)) (hw _ (List.mem_of_getElem? (i := 3) rfl)) (by decide) pd_1 e15 (by rw [hml]; rfl) rfl rfl rfl (hb hby at_57) (pc' := 60) rfl 2 (Nat.le_of_eq rfl) (by decide) (by decide) rfl rfl (by decide) (by decide) ?_
      intro T16 X16 e16
      show Dn p e below _ (T16.setTop (mkF m 60 #[.val (.long q1), .second, .val (.long q2), .second, .val (.int p3), .val (.int (p3 &&& (63 : Int32))), .val (.long ((1 : Int64) <<< ((p3 &&& (63 : Int32)) &&& 0x3f).toInt64)), .second, .val (.int (1 : Int32)), .val (.int (1 : Int32)), .unset] [(.long (F1 q1)), (.long (F1 (q1 ||| q2)))]))
      refine o_lloadN X16 hx (pc' := 61) (hb hby at_60) rfl rfl ?_
      refine o_callSP X16 hx hZ [(.long q2)] (rm1 l Z a0 hw h0 q2) hown (hw _ (List.mem_of_getElem? (i := 0) rfl)) (hw _ (List.mem_of_getElem? (i := 1) rfl)) (hw _ (List.mem_of_getElem? (i := 2) rfl)) (hw _ (List.mem_of_getElem? (i := 3) rfl)) (by decide) pd_1 e16 (by rw [hml]; rfl) rfl rfl rfl (hb hby at_61) (pc' := 64) rfl 4 (Nat.le_of_eq rfl) (by decide) (by decide) rfl rfl (by decide) (by decide) ?_
      intro T17 X17 e17
      show Dn p e below _ (T17.setTop (mkF m 64 #[.val (.long q1), .second, .val (.long q2), .second, .val (.int p3), .val (.int (p3 &&& (63 : Int32))), .val (.long ((1 : Int64) <<< ((p3 &&& (63 : Int32)) &&& 0x3f).toInt64)), .second, .val (.int (1 : Int32)), .val (.int (1 : Int32)), .unset] [(.long (F1 q2)), (.long (F1 q1)), (.long (F1 (q1 ||| q2)))]))
      refine o_lor X17 hx (pc' := 65) (hb hby at_64) rfl ?_
      refine o_lcmp X17 hx (pc' := 66) (hb hby at_65) rfl ?_
      refine o_lif_ne X17 hx (pc' := 69) (pt := 73) (hb hby at_66) rfl (by decide) (by decide) (fun hc66 => ?_) (fun hc66 => ?_)
      · skip
        refine o_iconst X17 hx (pc' := 74) (v := (0 : Int32)) (hb hby at_73) rfl rfl ?_
        refine o_istore X17 hx (pc' := 76) (Ls' := #[.val (.long q1), .second, .val (.long q2), .second, .val (.int p3), .val (.int (p3 &&& (63 : Int32))), .val (.long ((1 : Int64) <<< ((p3 &&& (63 : Int32)) &&& 0x3f).toInt64)), .second, .val (.int (1 : Int32)), .val (.int (1 : Int32)), .val (.int (0 : Int32))]) (hb hby at_74) rfl rfl ?_
        refine o_iload X17 hx (pc' := 78) (hb hby at_76) rfl rfl ?_
        refine o_if_eq X17 hx (pc' := 81) (pt := 95) (hb hby at_78) rfl (by decide) (by decide) (fun q => absurd q (by decide)) (fun _ => ?_)
        refine o_iload X17 hx (pc' := 83) (hb hby at_81) rfl rfl ?_
        refine o_if_eq X17 hx (pc' := 86) (pt := 95) (hb hby at_83) rfl (by decide) (by decide) (fun q => absurd q (by decide)) (fun _ => ?_)
        refine o_iload X17 hx (pc' := 88) (hb hby at_86) rfl rfl ?_
        refine o_if_eq X17 hx (pc' := 91) (pt := 95) (hb hby at_88) rfl (by decide) (by decide) (fun _ => ?_) (fun q => absurd q (by decide))
        refine o_iconst X17 hx (pc' := 96) (v := (0 : Int32)) (hb hby at_95) rfl rfl ?_
        exact finN X17 hx hlk (t := .boolean) hret (by simp) (hb hby at_96) (by decide) (by decide) ⟨by show some (Value.int _) = some (Value.int (F0 q1 q2 p3)); unfold F0; rw [if_pos hc19, if_pos hc40, if_neg hc66]; rfl, rfl, e17⟩
      · skip
        refine o_iconst X17 hx (pc' := 70) (v := (1 : Int32)) (hb hby at_69) rfl rfl ?_
        refine o_goto X17 hx (pc' := 74) (hb hby at_70) (by decide) (by decide) ?_
        refine o_istore X17 hx (pc' := 76) (Ls' := #[.val (.long q1), .second, .val (.long q2), .second, .val (.int p3), .val (.int (p3 &&& (63 : Int32))), .val (.long ((1 : Int64) <<< ((p3 &&& (63 : Int32)) &&& 0x3f).toInt64)), .second, .val (.int (1 : Int32)), .val (.int (1 : Int32)), .val (.int (1 : Int32))]) (hb hby at_74) rfl rfl ?_
        refine o_iload X17 hx (pc' := 78) (hb hby at_76) rfl rfl ?_
        refine o_if_eq X17 hx (pc' := 81) (pt := 95) (hb hby at_78) rfl (by decide) (by decide) (fun q => absurd q (by decide)) (fun _ => ?_)
        refine o_iload X17 hx (pc' := 83) (hb hby at_81) rfl rfl ?_
        refine o_if_eq X17 hx (pc' := 86) (pt := 95) (hb hby at_83) rfl (by decide) (by decide) (fun q => absurd q (by decide)) (fun _ => ?_)
        refine o_iload X17 hx (pc' := 88) (hb hby at_86) rfl rfl ?_
        refine o_if_eq X17 hx (pc' := 91) (pt := 95) (hb hby at_88) rfl (by decide) (by decide) (fun q => absurd q (by decide)) (fun _ => ?_)
        refine o_iconst X17 hx (pc' := 92) (v := (1 : Int32)) (hb hby at_91) rfl rfl ?_
        refine o_goto X17 hx (pc' := 96) (hb hby at_92) (by decide) (by decide) ?_
        exact finN X17 hx hlk (t := .boolean) hret (by simp) (hb hby at_96) (by decide) (by decide) ⟨by show some (Value.int _) = some (Value.int (F0 q1 q2 p3)); unfold F0; rw [if_pos hc19, if_pos hc40, if_pos hc66]; rfl, rfl, e17⟩
def own_K (v : BitVec 64) : BitVec 64 :=
  ((((((v <<< 1) &&& 18374403900871474942#64) ||| ((v >>> 1) &&& 9187201950435737471#64)) <<< 16) ||| ((((v <<< 1) &&& 18374403900871474942#64) ||| ((v >>> 1) &&& 9187201950435737471#64)) >>> 16)) ||| ((((v <<< 2) &&& 18229723555195321596#64) ||| ((v >>> 2) &&& 4557430888798830399#64)) <<< 8)) ||| ((((v <<< 2) &&& 18229723555195321596#64) ||| ((v >>> 2) &&& 4557430888798830399#64)) >>> 8)
theorem own_K_eq (x : Int64) : (F1 x).toBitVec = own_K x.toBitVec := by
  have e1 : ((1 : Int32) &&& 0x3f).toInt64 = (1 : Int64) := by decide +kernel
  have e2 : ((2 : Int32) &&& 0x3f).toInt64 = (2 : Int64) := by decide +kernel
  have e8 : ((8 : Int32) &&& 0x3f).toInt64 = (8 : Int64) := by decide +kernel
  have e16 : ((16 : Int32) &&& 0x3f).toInt64 = (16 : Int64) := by decide +kernel
  unfold F1 g1_1 g1_2
  rw [e1, e2, e8, e16]
  rfl
set_option maxHeartbeats 4000000 in
theorem own_K_or (a b : BitVec 64) : own_K (a ||| b) = own_K a ||| own_K b := by
  have d (x y m : BitVec 64) : (x ||| y) &&& m = (x &&& m) ||| (y &&& m) := by
    apply BitVec.eq_of_getLsbD_eq
    intro i hi
    simp only [BitVec.getLsbD_and, BitVec.getLsbD_or]
    cases x.getLsbD i <;> cases y.getLsbD i <;> cases m.getLsbD i <;> rfl
  simp only [own_K, BitVec.shiftLeft_or_distrib, BitVec.ushiftRight_or_distrib, d]
  ac_rfl
theorem own_add (a b : Int64) : F1 (a ||| b) = F1 a ||| F1 b := by
  apply Int64.toBitVec_inj.mp
  rw [Int64.toBitVec_or, own_K_eq, own_K_eq, own_K_eq, Int64.toBitVec_or, own_K_or]
theorem own_one : ∀ i : Fin 64, F1 ((1 : Int64) <<< ((Int32.ofNat i.1) &&& 0x3f).toInt64) = F2 (Int32.ofNat i.1) := by decide +kernel
theorem own_u (x : Int32) : ∃ i : Fin 64, x &&& 63 = Int32.ofNat i.1 := by
  have e := c_mask x 63 6 (by decide) (by decide)
  have e' : (x &&& 63).toInt = x.toInt % 64 := e
  generalize x &&& 63 = y at *
  refine ⟨⟨y.toInt.toNat, by omega⟩, ?_⟩
  apply Int32.toInt_inj.mp
  show y.toInt = (Int32.ofNat y.toInt.toNat).toInt
  rw [Int32.toInt_ofNat_of_lt (by omega)]
  omega
theorem own_zero : F1 0 = 0 := by decide +kernel
theorem own_plain (a b : Int64) (q : Int32) : F0 a b q = 1 := by
  obtain ⟨i, hi⟩ := own_u q
  unfold F0 
  rw [hi, if_pos own_zero, if_pos (own_one i), if_pos (own_add a b)]
set_option maxRecDepth 65536 in
set_option maxHeartbeats 40000000 in
theorem comes_1 {Post : Tables → Env → Array Value → State → Outcome → State → Prop} (hpost : ∀ tb e args s v u, (limb_1_1.after args s (.returned v) u = true ∧ limb_1_2.after args s (.returned v) u = true ∧ True) → FrameEnd s (.returned v) u (Jvm.fieldLocs frame_1_writes args s ++ Jvm.arrayLocs frame_1_arrays args s ++ Jvm.staticLocs frame_1_statics s) 0 0 → Post tb e args s (.returned v) u) :
    ArmFor flags0 classFile x code maxLocals ret World_1 tables_1 room_1 Calls_1 rest_1 Pre_1 Post := by
  intro l hfl _ _ p e ha hc hk s m args below hf hA hF happ hP
  obtain ⟨hcalls, hrest, hpre⟩ := hP
  obtain ⟨-, -, -, hnamed, -, -, -, hat⟩ := (Spec.applies_iff hf).mp happ
  obtain ⟨hg, hn⟩ := and_e (Cond.before_iff.mp (show (Jvm.Cond.and given_1 narrow_1).before args s = true from hpre))
  obtain ⟨g0, r0⟩ := and_e hg
  obtain ⟨g1, r1⟩ := and_e r0
  obtain ⟨g2, r2⟩ := and_e r1
  have g3 := r2
  obtain ⟨w0, w1, w2, rfl⟩ : ∃ w0 w1 w2 : Value, args = #[w0, w1, w2] := by
    have hs : args.size = 3 := by simpa [Cond.value, given_1] using g0
    obtain ⟨L⟩ := args
    match L, hs with
    | [w0, w1, w2], _ => exact ⟨w0, w1, w2, rfl⟩
  have hw := fun d (hd : d ∈ tables_1) => atoms_spec (ws := Jvm.Cond.code x code maxLocals ret :: tables_1) hat d (List.mem_cons_of_mem _ hd)
  have hfit : Fit s := fun {y c} hc i hi => by
    obtain ⟨ha, rfl⟩ := Array.getElem?_eq_some_iff.mp hc
    have q := List.all_eq_true.mp ((Array.all_eq_true_iff_forall_mem.mp hF) _ (Array.getElem_mem ha)) i (List.mem_range.mpr hi)
    simpa [Array.getElem?_eq_getElem hi] using q
  obtain ⟨i0, ei0⟩ := isL_v g1
  obtain rfl : w0 = (.long i0) := Option.some.inj ei0
  obtain ⟨i1, ei1⟩ := isL_v g2
  obtain rfl : w1 = (.long i1) := Option.some.inj ei1
  obtain ⟨i2, ei2⟩ := is_v g3
  obtain rfl : w2 = (.int i2) := Option.some.inj ei2
  obtain ⟨n, o, h1, h2, h3, v, L, rfl, hQ, hq⟩ := rm0 l s _ hw tables_1 s.heap i0 i1 i2 p e ha hc hk s m _ below hf ((Spec.applies_iff_loose hf).mp happ).1 ⟨rfl, State.Warmed39.refl s, rfl⟩ trivial
  rw [own_plain i0 i1 i2] at hQ
  obtain ⟨rfl, rfl, -⟩ := hQ
  have N : Fr s.heap.size ([] : List Loc) := Fr.nil _
  refine ⟨n, _, h1, h2, h3, hpost _ _ _ _ _ _ ⟨Cond.after_iff.mpr rfl, Cond.after_iff.mpr (eq_i res_at (Term.int_eval (1)) rfl), trivial⟩ ⟨hq.1, hq.2.1, (hq.2.2.sift fun y hy => Or.inr (N y hy)).mono (by decide) (by decide)⟩⟩
theorem main_1_1 : Claimed_1_1 := comes_1 fun _ _ _ _ _ _ h hF => ⟨h.1, hF⟩
theorem main_1_2 : Claimed_1_2 := comes_1 fun _ _ _ _ _ _ h hF => ⟨h.2.1, hF⟩
end Jvm.Pilot.@@N@@
namespace Jvm.Pilot.@@N@@
open Jvm Jvm.ClassFile Sem Op Lib Jvm.Free Jvm.Stand Jvm.Pilot.@@N@@.Jvm.D
/-! MADE BY PROGRAM (witnessworld.py) out of the Statement's table words and the real class files: 9 classes; the members and pool entries that the words name. The judged class is class 1, her method 1. -/
namespace start1
open Jvm.ClassFile
def u (s : String) : CpInfo := .utf8 (stringToUtf16 s)
/-- a pool by its gaps: so many unusable entries, then the entry; so many at the end -/
def gap : Nat → List CpInfo → List CpInfo
  | 0, r => r
  | n + 1, r => .unusable :: gap n r
def poolList (es : List (Nat × CpInfo)) (last : Nat) : List CpInfo := es.foldr (fun e r => gap e.1 (e.2 :: r)) (gap last [])
def pool (es : List (Nat × CpInfo)) (last : Nat) : Array CpInfo := ⟨poolList es last⟩
def fileOf (pool : Array CpInfo) (this : Nat) (attrs : Array Attribute := #[]) (ms : Array MethodInfo := #[]) (fl : Nat := 33) (sup : Nat := 0) (ifs : Array Nat := #[]) (fds : Array FieldInfo := #[]) : ClassFile where
  minorVersion := 0
  majorVersion := 65
  constantPool := pool
  accessFlags := fl
  thisClass := this
  superClass := sup
  interfaces := ifs
  fields := fds
  methods := ms
  attributes := attrs
def plain (name : String) (sup : Option ClassId) : Class where
  name := name
  kind := .ordinary
  loader := none
  accessFlags := 33
  super := sup
  interfaces := #[]
  cf := none
  fields := #[]
  methods := #[]
  instanceTypes := #[]
  staticTypes := #[]
  resolved := #[]
  callSites := []
  init := .initialized
  statics := none
  mirror := none

def pool0 : Array CpInfo := pool [(5, u "<init>"), (0, u "()V"), (1, .class_ 10), (1, u "java/lang/Object")] 113

def k0m0 : Method := { name := "<init>", desc := "()V", sig := { parameters := [], returnType := none }, accessFlags := 1, code := none }
/-- java/lang/Object -/
def k0 : Class := { plain "java/lang/Object" none with
  accessFlags := 33
  interfaces := #[]
  cf := some (fileOf pool0 8 #[] #[{ accessFlags := 1, nameIndex := 5, descriptorIndex := 6, attributes := #[] }] 33 0 #[] #[])
  fields := #[]
  methods := #[k0m0]
  instanceTypes := #[]
  staticTypes := #[]
  resolved := Array.replicate 124 none
  statics := none }

def pool1 : Array CpInfo := pool [(2, .class_ 4), (1, u "java/lang/Object"), (0, u "<init>"), (0, u "()V"), (0, .methodref 8 9), (0, .class_ 10), (0, .nameAndType 11 12), (0, u "com/example/jadoube/jadoube/Bitboards"), (0, u "knightAttacksOf"), (0, u "(J)J"), (0, .methodref 14 15), (0, .class_ 16), (0, .nameAndType 17 18), (0, u "com/example/jadoube/jadoube/BitboardsKnightAttacksOfPinLaw"), (0, u "reference"), (0, u "(I)J"), (0, .methodref 14 20), (0, .nameAndType 21 22), (0, u "at"), (0, u "(II)J"), (2, u "law"), (0, u "(JJI)Z")] 3

def k1m0 : Method := { name := "<init>", desc := "()V", sig := { parameters := [], returnType := none }, accessFlags := 2, code := none }
def k1c1 : Code := { maxStack := 6, maxLocals := 11, code := code, exceptionTable := #[], attributes := #[] }
def k1m1 : Method := { name := "law", desc := "(JJI)Z", sig := { parameters := [.long, .long, .int], returnType := some .boolean }, accessFlags := 9, code := some k1c1 }
def k1c2 : Code := { maxStack := 5, maxLocals := 5, code := method_3_code, exceptionTable := #[], attributes := #[] }
def k1m2 : Method := { name := "reference", desc := "(I)J", sig := { parameters := [.int], returnType := some .long }, accessFlags := 10, code := some k1c2 }
def k1c3 : Code := { maxStack := 4, maxLocals := 2, code := method_4_code, exceptionTable := #[], attributes := #[] }
def k1m3 : Method := { name := "at", desc := "(II)J", sig := { parameters := [.int, .int], returnType := some .long }, accessFlags := 10, code := some k1c3 }
/-- com/example/jadoube/jadoube/BitboardsKnightAttacksOfPinLaw -/
def k1 : Class := { plain "com/example/jadoube/jadoube/BitboardsKnightAttacksOfPinLaw" (some 0) with
  accessFlags := 49
  interfaces := #[]
  cf := some (fileOf pool1 14 #[] #[{ accessFlags := 2, nameIndex := 5, descriptorIndex := 6, attributes := #[] }, { accessFlags := 9, nameIndex := 25, descriptorIndex := 26, attributes := #[] }, { accessFlags := 10, nameIndex := 17, descriptorIndex := 18, attributes := #[] }, { accessFlags := 10, nameIndex := 21, descriptorIndex := 22, attributes := #[] }] 49 2 #[] #[])
  fields := #[]
  methods := #[k1m0, k1m1, k1m2, k1m3]
  instanceTypes := #[]
  staticTypes := #[]
  resolved := Array.replicate 30 none
  statics := none }

def pool2 : Array CpInfo := pool [(1, .class_ 2), (0, u "com/example/jadoube/jadoube/Bitboards"), (1, .class_ 6), (1, u "java/lang/Object"), (0, u "<init>"), (0, u "()V"), (2, u "KNIGHT"), (0, u "[J"), (2, u "KING"), (4, .long 18374403900871474942), (1, .long 9187201950435737471), (1, .long 18229723555195321596), (1, .long 4557430888798830399), (3, u "PAWN"), (0, u "[[J"), (6, u "BETWEEN"), (2, u "LINE"), (2, u "LOWER"), (2, u "UPPER"), (28, u "FILE_A"), (0, u "J"), (3, u "FILE_H"), (2, u "RANK_1"), (0, u "RANK_8"), (0, u "LIGHT_SQUARES"), (9, u "knightAttacksOf"), (0, u "(J)J")] 11

def k2m0 : Method := { name := "<init>", desc := "()V", sig := { parameters := [], returnType := none }, accessFlags := 2, code := none }
def k2c1 : Code := { maxStack := 6, maxLocals := 6, code := prog_1_method_5_code, exceptionTable := #[], attributes := #[] }
def k2m1 : Method := { name := "knightAttacksOf", desc := "(J)J", sig := { parameters := [.long], returnType := some .long }, accessFlags := 8, code := some k2c1 }
/-- com/example/jadoube/jadoube/Bitboards -/
def k2 : Class := { plain "com/example/jadoube/jadoube/Bitboards" (some 0) with
  accessFlags := 48
  interfaces := #[]
  cf := some (fileOf pool2 1 #[] #[{ accessFlags := 2, nameIndex := 7, descriptorIndex := 8, attributes := #[] }, { accessFlags := 8, nameIndex := 96, descriptorIndex := 97, attributes := #[] }] 48 4 #[] #[{ accessFlags := 24, nameIndex := 76, descriptorIndex := 77, attributes := #[] }, { accessFlags := 24, nameIndex := 81, descriptorIndex := 77, attributes := #[] }, { accessFlags := 24, nameIndex := 84, descriptorIndex := 77, attributes := #[] }, { accessFlags := 24, nameIndex := 85, descriptorIndex := 77, attributes := #[] }, { accessFlags := 24, nameIndex := 86, descriptorIndex := 77, attributes := #[] }, { accessFlags := 26, nameIndex := 11, descriptorIndex := 12, attributes := #[] }, { accessFlags := 26, nameIndex := 15, descriptorIndex := 12, attributes := #[] }, { accessFlags := 26, nameIndex := 30, descriptorIndex := 31, attributes := #[] }, { accessFlags := 26, nameIndex := 44, descriptorIndex := 12, attributes := #[] }, { accessFlags := 26, nameIndex := 47, descriptorIndex := 12, attributes := #[] }, { accessFlags := 26, nameIndex := 38, descriptorIndex := 31, attributes := #[] }, { accessFlags := 26, nameIndex := 41, descriptorIndex := 31, attributes := #[] }])
  fields := #[{ name := "FILE_A", type := .long, accessFlags := 24, slot := 0, constantValue := 0 }, { name := "FILE_H", type := .long, accessFlags := 24, slot := 1, constantValue := 0 }, { name := "RANK_1", type := .long, accessFlags := 24, slot := 2, constantValue := 0 }, { name := "RANK_8", type := .long, accessFlags := 24, slot := 3, constantValue := 0 }, { name := "LIGHT_SQUARES", type := .long, accessFlags := 24, slot := 4, constantValue := 0 }, { name := "KNIGHT", type := (.array .long), accessFlags := 26, slot := 5, constantValue := 0 }, { name := "KING", type := (.array .long), accessFlags := 26, slot := 6, constantValue := 0 }, { name := "PAWN", type := (.array (.array .long)), accessFlags := 26, slot := 7, constantValue := 0 }, { name := "LOWER", type := (.array .long), accessFlags := 26, slot := 8, constantValue := 0 }, { name := "UPPER", type := (.array .long), accessFlags := 26, slot := 9, constantValue := 0 }, { name := "BETWEEN", type := (.array (.array .long)), accessFlags := 26, slot := 10, constantValue := 0 }, { name := "LINE", type := (.array (.array .long)), accessFlags := 26, slot := 11, constantValue := 0 }]
  methods := #[k2m0, k2m1]
  instanceTypes := #[]
  staticTypes := #[.long, .long, .long, .long, .long, (.array .long), (.array .long), (.array (.array .long)), (.array .long), (.array .long), (.array (.array .long)), (.array (.array .long))]
  resolved := Array.replicate 109 none
  statics := none }

def pool3 : Array CpInfo := pool [(1, u "java/lang/Cloneable"), (0, .class_ 1), (0, u "java/lang/Object"), (0, .class_ 3)] 3

/-- java/lang/Cloneable -/
def k3 : Class := { plain "java/lang/Cloneable" (some 0) with
  accessFlags := 1537
  interfaces := #[]
  cf := some (fileOf pool3 2 #[] #[] 1537 4 #[] #[])
  fields := #[]
  methods := #[]
  instanceTypes := #[]
  staticTypes := #[]
  resolved := Array.replicate 8 none
  statics := none }

def pool4 : Array CpInfo := pool [(1, u "java/io/Serializable"), (0, .class_ 1), (0, u "java/lang/Object"), (0, .class_ 3)] 3

/-- java/io/Serializable -/
def k4 : Class := { plain "java/io/Serializable" (some 0) with
  accessFlags := 1537
  interfaces := #[]
  cf := some (fileOf pool4 2 #[] #[] 1537 4 #[] #[])
  fields := #[]
  methods := #[]
  instanceTypes := #[]
  staticTypes := #[]
  resolved := Array.replicate 8 none
  statics := none }

/-- the primitive byte -/
def k5 : Class := { plain "byte" none with kind := .primitive 'B', accessFlags := 0x411 }
/-- [B -/
def k6 : Class := { plain "[B" (some 0) with kind := .array 5 .byte, interfaces := #[3, 4], accessFlags := 1041 }

/-- the primitive int -/
def k7 : Class := { plain "int" none with kind := .primitive 'I', accessFlags := 0x411 }
/-- [I -/
def k8 : Class := { plain "[I" (some 0) with kind := .array 7 .int, interfaces := #[3, 4], accessFlags := 1041 }

def heap : Heap := #[]
def classes : Array Class := #[k0, k1, k2, k3, k4, k5, k6, k7, k8]
def interned : List (Array UInt16 × Addr) := []
def slotsUsed : Nat := 0
def theMethod : MethodId := ⟨1, 1⟩
def args0 : Array Value := #[.long 5, .long 9, .int 12]
def aboutOver (below : List Frame) : State where
  vm := { classes := classes, interned := interned.toArray }
  heap := heap
  slotsUsed := slotsUsed
  threads := #[{ frames := .invoking theMethod args0 :: below }]
def below0 : List Frame := [.native { method := ⟨0, 0⟩, args := #[] }]
def about1 : State := aboutOver below0
def p0 : Program := .bare "" "" ""
def e0 : Env := launch0.env 0 0 0
theorem w_frames : about1.frames = Frame.invoking theMethod args0 :: below0 := rfl
set_option maxRecDepth 65536 in
theorem w_args : argsFit about1.vm theMethod args0 = true := by decide +kernel
set_option maxRecDepth 65536 in
theorem w_heap : heapFits about1 = true := by decide +kernel
set_option maxRecDepth 65536 in
theorem w_runnable : about1.curStatus? = some .runnable := by decide +kernel
set_option maxRecDepth 65536 in
theorem w_alone : about1.alone = true := by decide +kernel
set_option maxRecDepth 65536 in
theorem w_named : about1.methodNamed? x = some theMethod := by decide +kernel
set_option maxRecDepth 65536 in
theorem w_hears : about1.hears theMethod below0 = true := by decide +kernel
set_option maxRecDepth 65536 in
theorem w_ripe : about1.ripe theMethod args0 below0 = true := by decide +kernel
theorem w_running : about1.status = .running := rfl
set_option maxRecDepth 65536 in
theorem w_room : about1.hasRoom e0.platform room_1 = true :=
  launch0.hasRoom_least _ room_1 (by decide +kernel) (by decide +kernel) (by decide +kernel) (by decide +kernel) (by decide +kernel) (by decide +kernel)
theorem allAtoms_all (ts : List Jvm.Cond) (a : Array Jvm.Value) (st : Jvm.State) : (allAtoms ts).before a st = ts.all (fun c => c.before a st) := by
  induction ts with
  | nil => rfl
  | cons c t ih =>
    show (Jvm.Cond.and c (allAtoms t)).before a st = _
    rw [Jvm.Cond.before_and, ih, List.all_cons]
def words1 : List Jvm.Cond := Jvm.Cond.code x code maxLocals ret :: tables_1
/-- a 'code' word, met by the world's own term for the bytes: nothing is compared byte by byte -/
theorem code_word {y : MethodName} {bytes : ByteArray} {mx : Nat} {rt : Option FieldType} {a : Array Value} {s : State} {m : MethodId} {meth : Method} {c : Code} (h1 : s.methodNamed? y = some m) (h2 : s.vm.method? m = some meth) (h3 : meth.code = some c) (h4 : c.code = bytes)
    (h5 : (c.maxLocals == mx && c.exceptionTable.isEmpty && decide (c.maxStack ≤ mostOperands) && decide (meth.sig.returnType = rt) && !meth.locks && decide (parseMethodDescriptor y.desc = some meth.sig)) = true) : (Jvm.Cond.code y bytes mx rt).before a s = true := by
  simp only [Bool.and_eq_true, beq_iff_eq, Bool.not_eq_true', decide_eq_true_eq] at h5
  obtain ⟨⟨⟨⟨⟨g1, g2⟩, g3⟩, g4⟩, g5⟩, g6⟩ := h5
  simp [Cond.before, Cond.holds, Cond.value, h1, h2, h3, h4, g1, g2, g3, g4, g5, g6]
def isCode : Jvm.Cond → Bool
  | .code _ _ _ _ => true
  | _ => false
theorem all_split {L : List Jvm.Cond} {P : Jvm.Cond → Bool} (h1 : L.all (fun c => isCode c || P c) = true) (h2 : ∀ c ∈ L.filter isCode, P c = true) : L.all P = true := by
  refine List.all_eq_true.mpr fun c hc => ?_
  have h := List.all_eq_true.mp h1 c hc
  rcases Bool.eq_false_or_eq_true (isCode c) with hi | hi
  · exact h2 c (List.mem_filter.mpr ⟨hc, hi⟩)
  · simpa [hi] using h
set_option maxRecDepth 65536 in
theorem w_c0 : (Jvm.Cond.code x code maxLocals ret).before args0 about1 = true := code_word (m := ⟨1, 1⟩) (meth := k1m1) (c := k1c1) (by decide +kernel) rfl rfl rfl (by decide +kernel)
set_option maxRecDepth 65536 in
theorem w_c1 : (Jvm.Cond.code ({ cls := "com/example/jadoube/jadoube/Bitboards", name := "knightAttacksOf", desc := "(J)J" } : Jvm.MethodName) prog_1_method_5_code (6 : Nat) (Option.some Jvm.ClassFile.FieldType.long)).before args0 about1 = true := code_word (m := ⟨2, 1⟩) (meth := k2m1) (c := k2c1) (by decide +kernel) rfl rfl rfl (by decide +kernel)
set_option maxRecDepth 65536 in
theorem w_c2 : (Jvm.Cond.code ({ cls := "com/example/jadoube/jadoube/BitboardsKnightAttacksOfPinLaw", name := "reference", desc := "(I)J" } : Jvm.MethodName) method_3_code (5 : Nat) (Option.some Jvm.ClassFile.FieldType.long)).before args0 about1 = true := code_word (m := ⟨1, 2⟩) (meth := k1m2) (c := k1c2) (by decide +kernel) rfl rfl rfl (by decide +kernel)
set_option maxRecDepth 65536 in
theorem w_c3 : (Jvm.Cond.code ({ cls := "com/example/jadoube/jadoube/BitboardsKnightAttacksOfPinLaw", name := "at", desc := "(II)J" } : Jvm.MethodName) method_4_code (2 : Nat) (Option.some Jvm.ClassFile.FieldType.long)).before args0 about1 = true := code_word (m := ⟨1, 3⟩) (meth := k1m3) (c := k1c3) (by decide +kernel) rfl rfl rfl (by decide +kernel)
def codes1 : List Jvm.Cond := [Jvm.Cond.code x code maxLocals ret, Jvm.Cond.code ({ cls := "com/example/jadoube/jadoube/Bitboards", name := "knightAttacksOf", desc := "(J)J" } : Jvm.MethodName) prog_1_method_5_code (6 : Nat) (Option.some Jvm.ClassFile.FieldType.long), Jvm.Cond.code ({ cls := "com/example/jadoube/jadoube/BitboardsKnightAttacksOfPinLaw", name := "reference", desc := "(I)J" } : Jvm.MethodName) method_3_code (5 : Nat) (Option.some Jvm.ClassFile.FieldType.long), Jvm.Cond.code ({ cls := "com/example/jadoube/jadoube/BitboardsKnightAttacksOfPinLaw", name := "at", desc := "(II)J" } : Jvm.MethodName) method_4_code (2 : Nat) (Option.some Jvm.ClassFile.FieldType.long)]
set_option maxRecDepth 65536 in
theorem codes_eq : words1.filter isCode = codes1 := rfl
theorem w_codes : ∀ c ∈ words1.filter isCode, c.before args0 about1 = true := by
  rw [codes_eq]
  intro c hc
  simp only [codes1, List.mem_cons, List.not_mem_nil, or_false] at hc
  rcases hc with rfl | rfl | rfl | rfl
  · exact w_c0
  · exact w_c1
  · exact w_c2
  · exact w_c3
set_option maxRecDepth 65536 in
theorem w_t1 : words1.all (fun c => isCode c || c.before args0 about1) = true := by decide +kernel
theorem w_tables : (allAtoms (Jvm.Cond.code x code maxLocals ret :: tables_1)).before args0 about1 = true := by
  rw [allAtoms_all]
  show words1.all (fun c => c.before args0 about1) = true
  refine all_split ?_ w_codes
  rw [w_t1]
set_option maxRecDepth 65536 in
theorem w_case : (Jvm.Cond.and given_1 narrow_1).before args0 about1 = true := by decide +kernel
theorem w_applies : (headSpec (Jvm.Cond.code x code maxLocals ret :: tables_1) room_1).applies x e0.platform about1 = true :=
  (Spec.applies_iff w_frames).mpr ⟨w_running, w_runnable, w_alone, w_named, w_hears, w_ripe, w_room, w_tables⟩
theorem atStart : AtStart classFile x code maxLocals ret World_1 tables_1 room_1 Calls_1 rest_1 Pre_1 launch0 p0 e0 about1 theMethod args0 below0 :=
  ⟨lists_1, trivial, launch0.admits_env _ _ _, launch0.least_env, fairChoices_fair.cas, fairChoices_fair.clock, w_frames, w_args, w_heap, w_applies, trivial, trivial, w_case⟩
end start1
theorem witness_1 : WitnessClaimed_1 := ⟨start1.p0, start1.e0, start1.about1, start1.theMethod, start1.args0, start1.below0, start1.atStart⟩
end Jvm.Pilot.@@N@@
