import JvmDerived
import JvmDerived.Pilot.@@N@@Statement
import JvmDerived.Pilot.@@N@@Code
set_option linter.unusedVariables false
set_option linter.unusedSimpArgs false
namespace Jvm.Pilot.@@N@@
open Jvm Jvm.ClassFile Sem Op Lib Jvm.Free Jvm.Stand Jvm.LawKit Jvm.RoadKit Bundle Jvm.Pilot.@@N@@.Jvm.D
section Own
variable {p : Program} {l : Launch} {e : Env} {R : Room} {s : State} {m : MethodId} {args : Array Value} {below : List Frame} {meth : Method} {c : Code} {T : State} {locs : List Loc} {cells slots : Nat} {Z : State} {a0 : Array Value} {h : Heap} {P : State → Outcome → Prop} {pc pc' : Nat} {Ls Ls' : Array Slot} {st : List Value}
/-- from the state A the run comes to an end of which P speaks -/
def Dn (p : Program) (e : Env) (below : List Frame) (P : State → Outcome → Prop) (A : State) : Prop := ∃ s₂ o, Steps p.tables e below A s₂ ∧ P s₂ o
/-- the invocation has ended, returned, and Q holds of what it returned, the heap and the places written -/
def PQ (below : List Frame) (s : State) (Q : Option Value → Heap → List Loc → Prop) (k n : Nat) (s₂ : State) (o : Outcome) : Prop :=
  s₂.status = .running ∧ Ended s₂ below o ∧ ∃ v L, o = .returned v ∧ Q v s₂.heap L ∧ FrameEnd s o s₂ L k n
theorem go {A B : State} (w : ∀ t, Steps p.tables e below B t → Steps p.tables e below A t) (k : Dn p e below P B) : Dn p e below P A := by
  obtain ⟨s₂, o, h1, h2⟩ := k
  exact ⟨s₂, o, w _ h1, h2⟩
theorem goS {A B : State} (w : Steps p.tables e below A B) (k : Dn p e below P B) : Dn p e below P A := by
  obtain ⟨s₂, o, h1, h2⟩ := k
  exact ⟨s₂, o, w.trans h1, h2⟩
/-- a method's contract, at given arguments and a given heap -/
abbrev Ctr (l : Launch) (Z : State) (y : MethodName) (bytes : ByteArray) (maxL : Nat) (ret : Option FieldType) (ws : List Jvm.Cond) (R : Room) (as' : Array Value) (h0 : Heap) (Q : Option Value → Heap → List Loc → Prop) : Prop :=
  MetFree l y (head1 (Jvm.Cond.code y bytes maxL ret :: ws) R) (fun a U => a = as' ∧ Z.Warmed39 U.vm ∧ U.heap = h0) (fun _ _ _ _ _ => True) (fun _ U o U' => ∃ v L, o = .returned v ∧ Q v U'.heap L ∧ FrameEnd U o U' L R.cells R.slots)
theorem ctr_mk {y : MethodName} {bytes : ByteArray} {maxL : Nat} {ret : Option FieldType} {ws : List Jvm.Cond} {as' : Array Value} {h0 : Heap} {Q : Option Value → Heap → List Loc → Prop} {own mn : String} (hpl : plainFor y = true) (ho : y.cls = own) (hmn : y.name = mn)
    (body : ∀ (p : Program) (e : Env) (s : State) (m : MethodId) (below : List Frame) (meth : Method) (c : Code) (T : State), Stand p l e R s m as' below meth c T [] 0 0 → p.tables.exec = Jvm.exec → c.code = bytes → c.maxLocals = maxL → Z.Warmed39 s.vm → s.vm.findClass own = some m.cls → meth.name = mn → meth.sig.returnType = ret → meth.locks = false → T.heap = h0 →
      Dn p e below (PQ below s Q R.cells R.slots) (T.setTop (entryFrame m as' maxL))) : Ctr l Z y bytes maxL ret ws R as' h0 Q := by
  subst ho hmn
  refine MetFree.of_bodySF hpl hisR ?_
  intro p e s m args below meth c s₁ Bd hml hP hK
  obtain ⟨rfl, hZ, hh⟩ := hP
  have e0 : s₁.heap = h0 := by rw [← hh, Bd.state]; rfl
  obtain ⟨s₂, o, h1, h2, h3, h4⟩ := body p e s m below meth c s₁ (Stand.of_body Bd) Bd.exec Bd.bytes hml hZ (findClass_of_methodNamed Bd.named) (name_of_methodNamed Bd.named Bd.method).1 Bd.returns Bd.notSynchronized e0
  exact ⟨s₂, o, h1, h2, h3, h4⟩
theorem o_entry {g : JFrame} {as' : Array Value} {maxL : Nat} (q : entryFrame m as' maxL = g) (k : Dn p e below P (T.setTop g)) : Dn p e below P (T.setTop (entryFrame m as' maxL)) := q ▸ k
theorem fin_of {Q : Option Value → Heap → List Loc → Prop} {k n : Nat} {v : Option Value} {A : State} (X : Stand p l e R s m args below meth c T locs cells slots) (hlk : meth.locks = false) (hv : meth.sig.returnType = none → v = none) (hc : cells ≤ k) (hs : slots ≤ n) (hQ : Q v T.heap locs)
    (w : ∀ fs, (∀ (f : JFrame) (acts : List Action), f.method = m → f.locked = none → f.entered = [] → (doReturn e (T.setTop f) acts v).1 = T.setFrames fs) → Steps p.tables e below A (T.setFrames fs)) : Dn p e below (PQ below s Q k n) A := by
  obtain ⟨fs, hr, hrun, hended, hW, hsame⟩ := X.leave (v := v) hv hlk
  exact ⟨_, _, w fs hr, hrun, hended, _, _, rfl, hQ, ⟨_, rfl⟩, hW, hsame.mono hc hs⟩
theorem finI {Q : Option Value → Heap → List Loc → Prop} {k n : Nat} (X : Stand p l e R s m args below meth c T locs cells slots) (hx : p.tables.exec = Jvm.exec) (hlk : meth.locks = false) {z : Int32} (hret : meth.sig.returnType = some .int) (hd : decode c.code pc = .ok (.ireturn, 1)) (hc : cells ≤ k) (hs : slots ≤ n) (hQ : Q (some (.int z)) T.heap locs) :
    Dn p e below (PQ below s Q k n) (T.setTop (mkF m pc Ls (.int z :: st))) :=
  fin_of X hlk (fun q => by rw [hret] at q; cases q) hc hs hQ (fun fs hr => retOut X hx hret rfl (Or.inl ⟨rfl, Or.inl rfl, _, rfl⟩) hd hr)
theorem finN {Q : Option Value → Heap → List Loc → Prop} {k n : Nat} (X : Stand p l e R s m args below meth c T locs cells slots) (hx : p.tables.exec = Jvm.exec) (hlk : meth.locks = false) {z : Int32} {t : FieldType} (hret : meth.sig.returnType = some t) (ht : t = .boolean ∨ t = .byte ∨ t = .char ∨ t = .short) (hd : decode c.code pc = .ok (.ireturn, 1)) (hc : cells ≤ k) (hs : slots ≤ n) (hQ : Q (some (.int (nar t z))) T.heap locs) :
    Dn p e below (PQ below s Q k n) (T.setTop (mkF m pc Ls (.int z :: st))) :=
  fin_of X hlk (fun q => by rw [hret] at q; cases q) hc hs hQ (fun fs hr => retN X hx hret ht hd hr)
theorem finJ {Q : Option Value → Heap → List Loc → Prop} {k n : Nat} (X : Stand p l e R s m args below meth c T locs cells slots) (hx : p.tables.exec = Jvm.exec) (hlk : meth.locks = false) {z : Int64} (hret : meth.sig.returnType = some .long) (hd : decode c.code pc = .ok (.lreturn, 1)) (hc : cells ≤ k) (hs : slots ≤ n) (hQ : Q (some (.long z)) T.heap locs) :
    Dn p e below (PQ below s Q k n) (T.setTop (mkF m pc Ls (.long z :: st))) :=
  fin_of X hlk (fun q => by rw [hret] at q; cases q) hc hs hQ (fun fs hr => retOut X hx hret rfl (Or.inr (Or.inl ⟨rfl, rfl, _, rfl⟩)) hd hr)
theorem finA {Q : Option Value → Heap → List Loc → Prop} {k n : Nat} (X : Stand p l e R s m args below meth c T locs cells slots) (hx : p.tables.exec = Jvm.exec) (hlk : meth.locks = false) {w : Value} {t : FieldType} (hw : w.isRef = true) (hret : meth.sig.returnType = some t) (ht : t.isReference = true) (hn : narrow t w = w) (hd : decode c.code pc = .ok (.areturn, 1)) (hc : cells ≤ k) (hs : slots ≤ n) (hQ : Q (some w) T.heap locs) :
    Dn p e below (PQ below s Q k n) (T.setTop (mkF m pc Ls (w :: st))) :=
  fin_of X hlk (fun q => by rw [hret] at q; cases q) hc hs hQ (fun fs hr => retOut X hx hret hn (Or.inr (Or.inr (Or.inr (Or.inr ⟨rfl, ht, hw⟩)))) hd hr)
theorem finV {Q : Option Value → Heap → List Loc → Prop} {k n : Nat} (X : Stand p l e R s m args below meth c T locs cells slots) (hx : p.tables.exec = Jvm.exec) (hlk : meth.locks = false) (hret : meth.sig.returnType = none) (hd : decode c.code pc = .ok (.return_, 1)) (hc : cells ≤ k) (hs : slots ≤ n) (hQ : Q none T.heap locs) :
    Dn p e below (PQ below s Q k n) (T.setTop (mkF m pc Ls [])) :=
  fin_of X hlk (fun _ => rfl) hc hs hQ (fun fs hr => X.returnOut hx hret hd hr)
theorem o_iload (X : Stand p l e R s m args below meth c T locs cells slots) (hx : p.tables.exec = Jvm.exec) {k : Nat} {v : Int32} (hd : decode c.code pc = .ok (.iload k, 2)) (hp : pc + 2 = pc') (hl : Ls[k]? = some (.val (.int v))) (K : Dn p e below P (T.setTop (mkF m pc' Ls (.int v :: st)))) : Dn p e below P (T.setTop (mkF m pc Ls st)) := by
  subst hp
  obtain ⟨s₂, o, h1, h2⟩ := K
  exact ⟨s₂, o, XS.iload X.here hx rfl hd hl h1, h2⟩
theorem o_iloadN (X : Stand p l e R s m args below meth c T locs cells slots) (hx : p.tables.exec = Jvm.exec) {k : Fin 4} {v : Int32} (hd : decode c.code pc = .ok (.iload_n k, 1)) (hp : pc + 1 = pc') (hl : Ls[k.val]? = some (.val (.int v))) (K : Dn p e below P (T.setTop (mkF m pc' Ls (.int v :: st)))) : Dn p e below P (T.setTop (mkF m pc Ls st)) := by
  subst hp
  obtain ⟨s₂, o, h1, h2⟩ := K
  exact ⟨s₂, o, XS.iloadN X.here hx rfl hd hl h1, h2⟩
theorem o_istore (X : Stand p l e R s m args below meth c T locs cells slots) (hx : p.tables.exec = Jvm.exec) {k : Nat} {v : Int32} (hd : decode c.code pc = .ok (.istore k, 2)) (hp : pc + 2 = pc') (hl : storeLocals Ls k (.int v) = some Ls') (K : Dn p e below P (T.setTop (mkF m pc' Ls' st))) : Dn p e below P (T.setTop (mkF m pc Ls (.int v :: st))) := by
  subst hp
  obtain ⟨s₂, o, h1, h2⟩ := K
  exact ⟨s₂, o, XS.istore X.here hx rfl hd rfl hl h1, h2⟩
theorem o_istoreN (X : Stand p l e R s m args below meth c T locs cells slots) (hx : p.tables.exec = Jvm.exec) {k : Fin 4} {v : Int32} (hd : decode c.code pc = .ok (.istore_n k, 1)) (hp : pc + 1 = pc') (hl : storeLocals Ls k.val (.int v) = some Ls') (K : Dn p e below P (T.setTop (mkF m pc' Ls' st))) : Dn p e below P (T.setTop (mkF m pc Ls (.int v :: st))) := by
  subst hp
  obtain ⟨s₂, o, h1, h2⟩ := K
  exact ⟨s₂, o, XS.istoreN X.here hx rfl hd rfl hl h1, h2⟩
theorem o_lload (X : Stand p l e R s m args below meth c T locs cells slots) (hx : p.tables.exec = Jvm.exec) {k : Nat} {v : Int64} (hd : decode c.code pc = .ok (.lload k, 2)) (hp : pc + 2 = pc') (hl : Ls[k]? = some (.val (.long v))) (K : Dn p e below P (T.setTop (mkF m pc' Ls (.long v :: st)))) : Dn p e below P (T.setTop (mkF m pc Ls st)) := by
  subst hp
  obtain ⟨s₂, o, h1, h2⟩ := K
  exact ⟨s₂, o, XS.lload X.here hx rfl hd hl h1, h2⟩
theorem o_lloadN (X : Stand p l e R s m args below meth c T locs cells slots) (hx : p.tables.exec = Jvm.exec) {k : Fin 4} {v : Int64} (hd : decode c.code pc = .ok (.lload_n k, 1)) (hp : pc + 1 = pc') (hl : Ls[k.val]? = some (.val (.long v))) (K : Dn p e below P (T.setTop (mkF m pc' Ls (.long v :: st)))) : Dn p e below P (T.setTop (mkF m pc Ls st)) := by
  subst hp
  obtain ⟨s₂, o, h1, h2⟩ := K
  exact ⟨s₂, o, XS.lloadN X.here hx rfl hd hl h1, h2⟩
theorem o_lstore (X : Stand p l e R s m args below meth c T locs cells slots) (hx : p.tables.exec = Jvm.exec) {k : Nat} {v : Int64} (hd : decode c.code pc = .ok (.lstore k, 2)) (hp : pc + 2 = pc') (hl : storeLocals Ls k (.long v) = some Ls') (K : Dn p e below P (T.setTop (mkF m pc' Ls' st))) : Dn p e below P (T.setTop (mkF m pc Ls (.long v :: st))) := by
  subst hp
  obtain ⟨s₂, o, h1, h2⟩ := K
  exact ⟨s₂, o, XS.lstore X.here hx rfl hd rfl hl h1, h2⟩
theorem o_lstoreN (X : Stand p l e R s m args below meth c T locs cells slots) (hx : p.tables.exec = Jvm.exec) {k : Fin 4} {v : Int64} (hd : decode c.code pc = .ok (.lstore_n k, 1)) (hp : pc + 1 = pc') (hl : storeLocals Ls k.val (.long v) = some Ls') (K : Dn p e below P (T.setTop (mkF m pc' Ls' st))) : Dn p e below P (T.setTop (mkF m pc Ls (.long v :: st))) := by
  subst hp
  obtain ⟨s₂, o, h1, h2⟩ := K
  exact ⟨s₂, o, XS.lstoreN X.here hx rfl hd rfl hl h1, h2⟩
theorem o_aload (X : Stand p l e R s m args below meth c T locs cells slots) (hx : p.tables.exec = Jvm.exec) {k : Nat} {v : Value} (hd : decode c.code pc = .ok (.aload k, 2)) (hp : pc + 2 = pc') (hl : Ls[k]? = some (.val v)) (hv : v.isRef = true) (K : Dn p e below P (T.setTop (mkF m pc' Ls (v :: st)))) : Dn p e below P (T.setTop (mkF m pc Ls st)) := by
  subst hp
  obtain ⟨s₂, o, h1, h2⟩ := K
  exact ⟨s₂, o, XS.aload X.here hx rfl hd hl hv h1, h2⟩
theorem o_aloadN (X : Stand p l e R s m args below meth c T locs cells slots) (hx : p.tables.exec = Jvm.exec) {k : Fin 4} {v : Value} (hd : decode c.code pc = .ok (.aload_n k, 1)) (hp : pc + 1 = pc') (hl : Ls[k.val]? = some (.val v)) (hv : v.isRef = true) (K : Dn p e below P (T.setTop (mkF m pc' Ls (v :: st)))) : Dn p e below P (T.setTop (mkF m pc Ls st)) := by
  subst hp
  obtain ⟨s₂, o, h1, h2⟩ := K
  exact ⟨s₂, o, XS.aloadN X.here hx rfl hd hl hv h1, h2⟩
theorem o_astore (X : Stand p l e R s m args below meth c T locs cells slots) (hx : p.tables.exec = Jvm.exec) {k : Nat} {v : Value} (hd : decode c.code pc = .ok (.astore k, 2)) (hp : pc + 2 = pc') (hv : v.isRef = true) (hl : storeLocals Ls k v = some Ls') (K : Dn p e below P (T.setTop (mkF m pc' Ls' st))) : Dn p e below P (T.setTop (mkF m pc Ls (v :: st))) := by
  subst hp
  obtain ⟨s₂, o, h1, h2⟩ := K
  exact ⟨s₂, o, XS.astore X.here hx rfl hd rfl hv hl h1, h2⟩
theorem o_astoreN (X : Stand p l e R s m args below meth c T locs cells slots) (hx : p.tables.exec = Jvm.exec) {k : Fin 4} {v : Value} (hd : decode c.code pc = .ok (.astore_n k, 1)) (hp : pc + 1 = pc') (hv : v.isRef = true) (hl : storeLocals Ls k.val v = some Ls') (K : Dn p e below P (T.setTop (mkF m pc' Ls' st))) : Dn p e below P (T.setTop (mkF m pc Ls (v :: st))) := by
  subst hp
  obtain ⟨s₂, o, h1, h2⟩ := K
  exact ⟨s₂, o, XS.astoreN X.here hx rfl hd rfl hv hl h1, h2⟩
theorem o_iconst (X : Stand p l e R s m args below meth c T locs cells slots) (hx : p.tables.exec = Jvm.exec) {i : Int} {v : Int32} (hd : decode c.code pc = .ok (.iconst i, 1)) (hp : pc + 1 = pc') (hv : Int32.ofInt i = v) (K : Dn p e below P (T.setTop (mkF m pc' Ls (.int v :: st)))) : Dn p e below P (T.setTop (mkF m pc Ls st)) := by
  subst hp hv
  obtain ⟨s₂, o, h1, h2⟩ := K
  exact ⟨s₂, o, XS.iconst X.here hx rfl hd h1, h2⟩
theorem o_bipush (X : Stand p l e R s m args below meth c T locs cells slots) (hx : p.tables.exec = Jvm.exec) {i : Int} {v : Int32} (hd : decode c.code pc = .ok (.bipush i, 2)) (hp : pc + 2 = pc') (hv : (Int8.ofInt i).toInt32 = v) (K : Dn p e below P (T.setTop (mkF m pc' Ls (.int v :: st)))) : Dn p e below P (T.setTop (mkF m pc Ls st)) := by
  subst hp hv
  obtain ⟨s₂, o, h1, h2⟩ := K
  exact ⟨s₂, o, XS.bipush X.here hx rfl hd h1, h2⟩
theorem o_sipush (X : Stand p l e R s m args below meth c T locs cells slots) (hx : p.tables.exec = Jvm.exec) {i : Int} {v : Int32} (hd : decode c.code pc = .ok (.sipush i, 3)) (hp : pc + 3 = pc') (hv : (Int16.ofInt i).toInt32 = v) (K : Dn p e below P (T.setTop (mkF m pc' Ls (.int v :: st)))) : Dn p e below P (T.setTop (mkF m pc Ls st)) := by
  subst hp hv
  obtain ⟨s₂, o, h1, h2⟩ := K
  exact ⟨s₂, o, XS.sipush X.here hx rfl hd h1, h2⟩
theorem o_lconst (X : Stand p l e R s m args below meth c T locs cells slots) (hx : p.tables.exec = Jvm.exec) {k : Fin 2} {v : Int64} (hd : decode c.code pc = .ok (.lconst k, 1)) (hp : pc + 1 = pc') (hv : Int64.ofNat k = v) (K : Dn p e below P (T.setTop (mkF m pc' Ls (.long v :: st)))) : Dn p e below P (T.setTop (mkF m pc Ls st)) := by
  subst hp hv
  obtain ⟨s₂, o, h1, h2⟩ := K
  exact ⟨s₂, o, XS.lconst X.here hx rfl hd h1, h2⟩
theorem o_aconstNull (X : Stand p l e R s m args below meth c T locs cells slots) (hx : p.tables.exec = Jvm.exec)  (hd : decode c.code pc = .ok (.aconst_null, 1)) (hp : pc + 1 = pc')  (K : Dn p e below P (T.setTop (mkF m pc' Ls (.null :: st)))) : Dn p e below P (T.setTop (mkF m pc Ls st)) := by
  subst hp
  obtain ⟨s₂, o, h1, h2⟩ := K
  exact ⟨s₂, o, XS.aconstNull X.here hx rfl hd  h1, h2⟩
theorem o_iadd (X : Stand p l e R s m args below meth c T locs cells slots) (hx : p.tables.exec = Jvm.exec) {x y : Int32} (hd : decode c.code pc = .ok (.iadd, 1)) (hp : pc + 1 = pc')  (K : Dn p e below P (T.setTop (mkF m pc' Ls (.int (x + y) :: st)))) : Dn p e below P (T.setTop (mkF m pc Ls (.int y :: .int x :: st))) := by
  subst hp
  obtain ⟨s₂, o, h1, h2⟩ := K
  exact ⟨s₂, o, XS.iadd X.here hx rfl hd rfl h1, h2⟩
theorem o_isub (X : Stand p l e R s m args below meth c T locs cells slots) (hx : p.tables.exec = Jvm.exec) {x y : Int32} (hd : decode c.code pc = .ok (.isub, 1)) (hp : pc + 1 = pc')  (K : Dn p e below P (T.setTop (mkF m pc' Ls (.int (x - y) :: st)))) : Dn p e below P (T.setTop (mkF m pc Ls (.int y :: .int x :: st))) := by
  subst hp
  obtain ⟨s₂, o, h1, h2⟩ := K
  exact ⟨s₂, o, XS.isub X.here hx rfl hd rfl h1, h2⟩
theorem o_imul (X : Stand p l e R s m args below meth c T locs cells slots) (hx : p.tables.exec = Jvm.exec) {x y : Int32} (hd : decode c.code pc = .ok (.imul, 1)) (hp : pc + 1 = pc')  (K : Dn p e below P (T.setTop (mkF m pc' Ls (.int (x * y) :: st)))) : Dn p e below P (T.setTop (mkF m pc Ls (.int y :: .int x :: st))) := by
  subst hp
  obtain ⟨s₂, o, h1, h2⟩ := K
  exact ⟨s₂, o, XS.imul X.here hx rfl hd rfl h1, h2⟩
theorem o_iand (X : Stand p l e R s m args below meth c T locs cells slots) (hx : p.tables.exec = Jvm.exec) {x y : Int32} (hd : decode c.code pc = .ok (.iand, 1)) (hp : pc + 1 = pc')  (K : Dn p e below P (T.setTop (mkF m pc' Ls (.int (x &&& y) :: st)))) : Dn p e below P (T.setTop (mkF m pc Ls (.int y :: .int x :: st))) := by
  subst hp
  obtain ⟨s₂, o, h1, h2⟩ := K
  exact ⟨s₂, o, XS.iand X.here hx rfl hd rfl h1, h2⟩
theorem o_ior (X : Stand p l e R s m args below meth c T locs cells slots) (hx : p.tables.exec = Jvm.exec) {x y : Int32} (hd : decode c.code pc = .ok (.ior, 1)) (hp : pc + 1 = pc')  (K : Dn p e below P (T.setTop (mkF m pc' Ls (.int (x ||| y) :: st)))) : Dn p e below P (T.setTop (mkF m pc Ls (.int y :: .int x :: st))) := by
  subst hp
  obtain ⟨s₂, o, h1, h2⟩ := K
  exact ⟨s₂, o, XS.ior X.here hx rfl hd rfl h1, h2⟩
theorem o_ixor (X : Stand p l e R s m args below meth c T locs cells slots) (hx : p.tables.exec = Jvm.exec) {x y : Int32} (hd : decode c.code pc = .ok (.ixor, 1)) (hp : pc + 1 = pc')  (K : Dn p e below P (T.setTop (mkF m pc' Ls (.int (x ^^^ y) :: st)))) : Dn p e below P (T.setTop (mkF m pc Ls (.int y :: .int x :: st))) := by
  subst hp
  obtain ⟨s₂, o, h1, h2⟩ := K
  exact ⟨s₂, o, XS.ixor X.here hx rfl hd rfl h1, h2⟩
theorem o_ladd (X : Stand p l e R s m args below meth c T locs cells slots) (hx : p.tables.exec = Jvm.exec) {x y : Int64} (hd : decode c.code pc = .ok (.ladd, 1)) (hp : pc + 1 = pc')  (K : Dn p e below P (T.setTop (mkF m pc' Ls (.long (x + y) :: st)))) : Dn p e below P (T.setTop (mkF m pc Ls (.long y :: .long x :: st))) := by
  subst hp
  obtain ⟨s₂, o, h1, h2⟩ := K
  exact ⟨s₂, o, XS.ladd X.here hx rfl hd rfl h1, h2⟩
theorem o_lsub (X : Stand p l e R s m args below meth c T locs cells slots) (hx : p.tables.exec = Jvm.exec) {x y : Int64} (hd : decode c.code pc = .ok (.lsub, 1)) (hp : pc + 1 = pc')  (K : Dn p e below P (T.setTop (mkF m pc' Ls (.long (x - y) :: st)))) : Dn p e below P (T.setTop (mkF m pc Ls (.long y :: .long x :: st))) := by
  subst hp
  obtain ⟨s₂, o, h1, h2⟩ := K
  exact ⟨s₂, o, XS.lsub X.here hx rfl hd rfl h1, h2⟩
theorem o_lmul (X : Stand p l e R s m args below meth c T locs cells slots) (hx : p.tables.exec = Jvm.exec) {x y : Int64} (hd : decode c.code pc = .ok (.lmul, 1)) (hp : pc + 1 = pc')  (K : Dn p e below P (T.setTop (mkF m pc' Ls (.long (x * y) :: st)))) : Dn p e below P (T.setTop (mkF m pc Ls (.long y :: .long x :: st))) := by
  subst hp
  obtain ⟨s₂, o, h1, h2⟩ := K
  exact ⟨s₂, o, XS.lmul X.here hx rfl hd rfl h1, h2⟩
theorem o_land (X : Stand p l e R s m args below meth c T locs cells slots) (hx : p.tables.exec = Jvm.exec) {x y : Int64} (hd : decode c.code pc = .ok (.land, 1)) (hp : pc + 1 = pc')  (K : Dn p e below P (T.setTop (mkF m pc' Ls (.long (x &&& y) :: st)))) : Dn p e below P (T.setTop (mkF m pc Ls (.long y :: .long x :: st))) := by
  subst hp
  obtain ⟨s₂, o, h1, h2⟩ := K
  exact ⟨s₂, o, XS.land X.here hx rfl hd rfl h1, h2⟩
theorem o_lor (X : Stand p l e R s m args below meth c T locs cells slots) (hx : p.tables.exec = Jvm.exec) {x y : Int64} (hd : decode c.code pc = .ok (.lor, 1)) (hp : pc + 1 = pc')  (K : Dn p e below P (T.setTop (mkF m pc' Ls (.long (x ||| y) :: st)))) : Dn p e below P (T.setTop (mkF m pc Ls (.long y :: .long x :: st))) := by
  subst hp
  obtain ⟨s₂, o, h1, h2⟩ := K
  exact ⟨s₂, o, XS.lor X.here hx rfl hd rfl h1, h2⟩
theorem o_lxor (X : Stand p l e R s m args below meth c T locs cells slots) (hx : p.tables.exec = Jvm.exec) {x y : Int64} (hd : decode c.code pc = .ok (.lxor, 1)) (hp : pc + 1 = pc')  (K : Dn p e below P (T.setTop (mkF m pc' Ls (.long (x ^^^ y) :: st)))) : Dn p e below P (T.setTop (mkF m pc Ls (.long y :: .long x :: st))) := by
  subst hp
  obtain ⟨s₂, o, h1, h2⟩ := K
  exact ⟨s₂, o, XS.lxor X.here hx rfl hd rfl h1, h2⟩
theorem o_ishl (X : Stand p l e R s m args below meth c T locs cells slots) (hx : p.tables.exec = Jvm.exec) {x : Int32} {y : Int32} (hd : decode c.code pc = .ok (.ishl, 1)) (hp : pc + 1 = pc')  (K : Dn p e below P (T.setTop (mkF m pc' Ls (.int (x <<< (y &&& 31)) :: st)))) : Dn p e below P (T.setTop (mkF m pc Ls (.int y :: .int x :: st))) := by
  subst hp
  obtain ⟨s₂, o, h1, h2⟩ := K
  exact ⟨s₂, o, XS.ishl X.here hx rfl hd rfl h1, h2⟩
theorem o_ishr (X : Stand p l e R s m args below meth c T locs cells slots) (hx : p.tables.exec = Jvm.exec) {x : Int32} {y : Int32} (hd : decode c.code pc = .ok (.ishr, 1)) (hp : pc + 1 = pc')  (K : Dn p e below P (T.setTop (mkF m pc' Ls (.int (x >>> (y &&& 31)) :: st)))) : Dn p e below P (T.setTop (mkF m pc Ls (.int y :: .int x :: st))) := by
  subst hp
  obtain ⟨s₂, o, h1, h2⟩ := K
  exact ⟨s₂, o, XS.ishr X.here hx rfl hd rfl h1, h2⟩
theorem o_iushr (X : Stand p l e R s m args below meth c T locs cells slots) (hx : p.tables.exec = Jvm.exec) {x : Int32} {y : Int32} (hd : decode c.code pc = .ok (.iushr, 1)) (hp : pc + 1 = pc')  (K : Dn p e below P (T.setTop (mkF m pc' Ls (.int ((x.toUInt32 >>> (y &&& 31).toUInt32).toInt32) :: st)))) : Dn p e below P (T.setTop (mkF m pc Ls (.int y :: .int x :: st))) := by
  subst hp
  obtain ⟨s₂, o, h1, h2⟩ := K
  exact ⟨s₂, o, XS.iushr X.here hx rfl hd rfl h1, h2⟩
theorem o_lshl (X : Stand p l e R s m args below meth c T locs cells slots) (hx : p.tables.exec = Jvm.exec) {x : Int64} {y : Int32} (hd : decode c.code pc = .ok (.lshl, 1)) (hp : pc + 1 = pc')  (K : Dn p e below P (T.setTop (mkF m pc' Ls (.long (x <<< (y &&& 0x3f).toInt64) :: st)))) : Dn p e below P (T.setTop (mkF m pc Ls (.int y :: .long x :: st))) := by
  subst hp
  obtain ⟨s₂, o, h1, h2⟩ := K
  exact ⟨s₂, o, XS.lshl X.here hx rfl hd rfl h1, h2⟩
theorem o_lshr (X : Stand p l e R s m args below meth c T locs cells slots) (hx : p.tables.exec = Jvm.exec) {x : Int64} {y : Int32} (hd : decode c.code pc = .ok (.lshr, 1)) (hp : pc + 1 = pc')  (K : Dn p e below P (T.setTop (mkF m pc' Ls (.long (x >>> (y &&& 0x3f).toInt64) :: st)))) : Dn p e below P (T.setTop (mkF m pc Ls (.int y :: .long x :: st))) := by
  subst hp
  obtain ⟨s₂, o, h1, h2⟩ := K
  exact ⟨s₂, o, XS.lshr X.here hx rfl hd rfl h1, h2⟩
theorem o_lushr (X : Stand p l e R s m args below meth c T locs cells slots) (hx : p.tables.exec = Jvm.exec) {x : Int64} {y : Int32} (hd : decode c.code pc = .ok (.lushr, 1)) (hp : pc + 1 = pc')  (K : Dn p e below P (T.setTop (mkF m pc' Ls (.long ((x.toUInt64 >>> (y &&& 0x3f).toInt64.toUInt64).toInt64) :: st)))) : Dn p e below P (T.setTop (mkF m pc Ls (.int y :: .long x :: st))) := by
  subst hp
  obtain ⟨s₂, o, h1, h2⟩ := K
  exact ⟨s₂, o, XS.lushr X.here hx rfl hd rfl h1, h2⟩
theorem o_ineg (X : Stand p l e R s m args below meth c T locs cells slots) (hx : p.tables.exec = Jvm.exec) {x : Int32} (hd : decode c.code pc = .ok (.ineg, 1)) (hp : pc + 1 = pc')  (K : Dn p e below P (T.setTop (mkF m pc' Ls (.int (-x) :: st)))) : Dn p e below P (T.setTop (mkF m pc Ls (.int x :: st))) := by
  subst hp
  obtain ⟨s₂, o, h1, h2⟩ := K
  exact ⟨s₂, o, XS.ineg X.here hx rfl hd rfl h1, h2⟩
theorem o_lneg (X : Stand p l e R s m args below meth c T locs cells slots) (hx : p.tables.exec = Jvm.exec) {x : Int64} (hd : decode c.code pc = .ok (.lneg, 1)) (hp : pc + 1 = pc')  (K : Dn p e below P (T.setTop (mkF m pc' Ls (.long (-x) :: st)))) : Dn p e below P (T.setTop (mkF m pc Ls (.long x :: st))) := by
  subst hp
  obtain ⟨s₂, o, h1, h2⟩ := K
  exact ⟨s₂, o, XS.lneg X.here hx rfl hd rfl h1, h2⟩
theorem o_i2l (X : Stand p l e R s m args below meth c T locs cells slots) (hx : p.tables.exec = Jvm.exec) {x : Int32} (hd : decode c.code pc = .ok (.i2l, 1)) (hp : pc + 1 = pc')  (K : Dn p e below P (T.setTop (mkF m pc' Ls (.long (x.toInt64) :: st)))) : Dn p e below P (T.setTop (mkF m pc Ls (.int x :: st))) := by
  subst hp
  obtain ⟨s₂, o, h1, h2⟩ := K
  exact ⟨s₂, o, XS.i2l X.here hx rfl hd rfl h1, h2⟩
theorem o_l2i (X : Stand p l e R s m args below meth c T locs cells slots) (hx : p.tables.exec = Jvm.exec) {x : Int64} (hd : decode c.code pc = .ok (.l2i, 1)) (hp : pc + 1 = pc')  (K : Dn p e below P (T.setTop (mkF m pc' Ls (.int (x.toInt32) :: st)))) : Dn p e below P (T.setTop (mkF m pc Ls (.long x :: st))) := by
  subst hp
  obtain ⟨s₂, o, h1, h2⟩ := K
  exact ⟨s₂, o, XS.l2i X.here hx rfl hd rfl h1, h2⟩
theorem o_i2b (X : Stand p l e R s m args below meth c T locs cells slots) (hx : p.tables.exec = Jvm.exec) {x : Int32} (hd : decode c.code pc = .ok (.i2b, 1)) (hp : pc + 1 = pc')  (K : Dn p e below P (T.setTop (mkF m pc' Ls (.int (x.toInt8.toInt32) :: st)))) : Dn p e below P (T.setTop (mkF m pc Ls (.int x :: st))) := by
  subst hp
  obtain ⟨s₂, o, h1, h2⟩ := K
  exact ⟨s₂, o, XS.i2b X.here hx rfl hd rfl h1, h2⟩
theorem o_i2s (X : Stand p l e R s m args below meth c T locs cells slots) (hx : p.tables.exec = Jvm.exec) {x : Int32} (hd : decode c.code pc = .ok (.i2s, 1)) (hp : pc + 1 = pc')  (K : Dn p e below P (T.setTop (mkF m pc' Ls (.int (x.toInt16.toInt32) :: st)))) : Dn p e below P (T.setTop (mkF m pc Ls (.int x :: st))) := by
  subst hp
  obtain ⟨s₂, o, h1, h2⟩ := K
  exact ⟨s₂, o, XS.i2s X.here hx rfl hd rfl h1, h2⟩
theorem o_i2c (X : Stand p l e R s m args below meth c T locs cells slots) (hx : p.tables.exec = Jvm.exec) {x : Int32} (hd : decode c.code pc = .ok (.i2c, 1)) (hp : pc + 1 = pc')  (K : Dn p e below P (T.setTop (mkF m pc' Ls (.int (x.toUInt32.toUInt16.toUInt32.toInt32) :: st)))) : Dn p e below P (T.setTop (mkF m pc Ls (.int x :: st))) := by
  subst hp
  obtain ⟨s₂, o, h1, h2⟩ := K
  exact ⟨s₂, o, XS.i2c X.here hx rfl hd rfl h1, h2⟩
theorem o_idiv (X : Stand p l e R s m args below meth c T locs cells slots) (hx : p.tables.exec = Jvm.exec) {x y : Int32} (hd : decode c.code pc = .ok (.idiv, 1)) (hp : pc + 1 = pc') (hy : y ≠ 0) (K : Dn p e below P (T.setTop (mkF m pc' Ls (.int (x / y) :: st)))) : Dn p e below P (T.setTop (mkF m pc Ls (.int y :: .int x :: st))) := by
  subst hp
  obtain ⟨s₂, o, h1, h2⟩ := K
  exact ⟨s₂, o, XS.idiv X.here hx rfl hd rfl hy h1, h2⟩
theorem o_ldiv (X : Stand p l e R s m args below meth c T locs cells slots) (hx : p.tables.exec = Jvm.exec) {x y : Int64} (hd : decode c.code pc = .ok (.ldiv, 1)) (hp : pc + 1 = pc') (hy : y ≠ 0) (K : Dn p e below P (T.setTop (mkF m pc' Ls (.long (x / y) :: st)))) : Dn p e below P (T.setTop (mkF m pc Ls (.long y :: .long x :: st))) := by
  subst hp
  obtain ⟨s₂, o, h1, h2⟩ := K
  exact ⟨s₂, o, XS.ldiv X.here hx rfl hd rfl hy h1, h2⟩
theorem o_irem (X : Stand p l e R s m args below meth c T locs cells slots) (hx : p.tables.exec = Jvm.exec) {x y : Int32} (hd : decode c.code pc = .ok (.irem, 1)) (hp : pc + 1 = pc') (hy : y ≠ 0) (K : Dn p e below P (T.setTop (mkF m pc' Ls (.int (x % y) :: st)))) : Dn p e below P (T.setTop (mkF m pc Ls (.int y :: .int x :: st))) := by
  subst hp
  obtain ⟨s₂, o, h1, h2⟩ := K
  exact ⟨s₂, o, iremM X hx rfl hd rfl hy h1, h2⟩
theorem o_lcmp (X : Stand p l e R s m args below meth c T locs cells slots) (hx : p.tables.exec = Jvm.exec) {x y : Int64} (hd : decode c.code pc = .ok (.lcmp, 1)) (hp : pc + 1 = pc')  (K : Dn p e below P (T.setTop (mkF m pc' Ls (.int (lcmpW x y) :: st)))) : Dn p e below P (T.setTop (mkF m pc Ls (.long y :: .long x :: st))) := by
  subst hp
  obtain ⟨s₂, o, h1, h2⟩ := K
  exact ⟨s₂, o, XS.lcmp X.here hx rfl hd rfl h1, h2⟩
theorem o_dup (X : Stand p l e R s m args below meth c T locs cells slots) (hx : p.tables.exec = Jvm.exec) {v : Value} (hd : decode c.code pc = .ok (.dup, 1)) (hp : pc + 1 = pc') (hv : v.category = 1) (K : Dn p e below P (T.setTop (mkF m pc' Ls (v :: v :: st)))) : Dn p e below P (T.setTop (mkF m pc Ls (v :: st))) := by
  subst hp
  obtain ⟨s₂, o, h1, h2⟩ := K
  exact ⟨s₂, o, XS.dup X.here hx rfl hd rfl hv h1, h2⟩
theorem o_pop (X : Stand p l e R s m args below meth c T locs cells slots) (hx : p.tables.exec = Jvm.exec) {v : Value} (hd : decode c.code pc = .ok (.pop, 1)) (hp : pc + 1 = pc') (hv : v.category = 1) (K : Dn p e below P (T.setTop (mkF m pc' Ls st))) : Dn p e below P (T.setTop (mkF m pc Ls (v :: st))) := by
  subst hp
  obtain ⟨s₂, o, h1, h2⟩ := K
  exact ⟨s₂, o, XS.pop X.here hx rfl hd rfl hv h1, h2⟩
theorem o_dupX1 (X : Stand p l e R s m args below meth c T locs cells slots) (hx : p.tables.exec = Jvm.exec) {v w : Value} (hd : decode c.code pc = .ok (.dup_x1, 1)) (hp : pc + 1 = pc') (hv : v.category = 1) (hw : w.category = 1) (K : Dn p e below P (T.setTop (mkF m pc' Ls (v :: w :: v :: st)))) : Dn p e below P (T.setTop (mkF m pc Ls (v :: w :: st))) := by
  subst hp
  obtain ⟨s₂, o, h1, h2⟩ := K
  exact ⟨s₂, o, XS.dupX1 X.here hx rfl hd rfl hv hw h1, h2⟩
theorem o_iinc (X : Stand p l e R s m args below meth c T locs cells slots) (hx : p.tables.exec = Jvm.exec) {k : Nat} {i : Int} {x v : Int32} (hd : decode c.code pc = .ok (.iinc k i, 3)) (hp : pc + 3 = pc') (hv : Int32.ofInt i = v) (hl : Ls[k]? = some (.val (.int x))) (hl' : storeLocals Ls k (.int (x + v)) = some Ls') (K : Dn p e below P (T.setTop (mkF m pc' Ls' st))) : Dn p e below P (T.setTop (mkF m pc Ls st)) := by
  subst hp hv
  obtain ⟨s₂, o, h1, h2⟩ := K
  exact ⟨s₂, o, XS.iinc X.here hx rfl hd hl hl' h1, h2⟩
theorem o_goto (X : Stand p l e R s m args below meth c T locs cells slots) (hx : p.tables.exec = Jvm.exec) {i : Int} (hd : decode c.code pc = .ok (.goto i, 3)) (ho : 0 ≤ (pc : Int) + i) (hp : ((pc : Int) + i).toNat = pc') (K : Dn p e below P (T.setTop (mkF m pc' Ls st))) : Dn p e below P (T.setTop (mkF m pc Ls st)) := by
  obtain ⟨s₂, o, h1, h2⟩ := K
  exact ⟨s₂, o, XS.goto X.here hx rfl (pc0 := pc) rfl hd ho hp h1, h2⟩
theorem o_if_eq (X : Stand p l e R s m args below meth c T locs cells slots) (hx : p.tables.exec = Jvm.exec) {x : Int32} {i : Int} {pt : Nat} (hd : decode c.code pc = .ok (.ifCond .eq i, 3)) (hp : pc + 3 = pc') (ho : 0 ≤ (pc : Int) + i) (ht : ((pc : Int) + i).toNat = pt) (Kt : x = (0 : Int32) → Dn p e below P (T.setTop (mkF m pt Ls st))) (Kf : ¬ (x = (0 : Int32)) → Dn p e below P (T.setTop (mkF m pc' Ls st))) : Dn p e below P (T.setTop (mkF m pc Ls (.int x :: st))) := by
  subst hp
  by_cases hq : x = (0 : Int32)
  · obtain ⟨s₂, o, h1, h2⟩ := Kt hq
    exact ⟨s₂, o, XS.ifYes X.here hx rfl (pc0 := pc) rfl hd rfl ((if0 _ _).trans (teq hq).1) ho ht h1, h2⟩
  · obtain ⟨s₂, o, h1, h2⟩ := Kf hq
    exact ⟨s₂, o, XS.ifNo X.here hx rfl hd rfl ((if0 _ _).trans (feq hq).1) h1, h2⟩
theorem o_icmp_eq (X : Stand p l e R s m args below meth c T locs cells slots) (hx : p.tables.exec = Jvm.exec) {x y : Int32} {i : Int} {pt : Nat} (hd : decode c.code pc = .ok (.if_icmp .eq i, 3)) (hp : pc + 3 = pc') (ho : 0 ≤ (pc : Int) + i) (ht : ((pc : Int) + i).toNat = pt) (Kt : x = y → Dn p e below P (T.setTop (mkF m pt Ls st))) (Kf : ¬ (x = y) → Dn p e below P (T.setTop (mkF m pc' Ls st))) : Dn p e below P (T.setTop (mkF m pc Ls (.int y :: .int x :: st))) := by
  subst hp
  by_cases hq : x = y
  · obtain ⟨s₂, o, h1, h2⟩ := Kt hq
    exact ⟨s₂, o, XS.icmpYes X.here hx rfl (pc0 := pc) rfl hd rfl (teq hq).1 ho ht h1, h2⟩
  · obtain ⟨s₂, o, h1, h2⟩ := Kf hq
    exact ⟨s₂, o, XS.icmpNo X.here hx rfl hd rfl (feq hq).1 h1, h2⟩
theorem o_lif_eq (X : Stand p l e R s m args below meth c T locs cells slots) (hx : p.tables.exec = Jvm.exec) {x y : Int64} {i : Int} {pt : Nat} (hd : decode c.code pc = .ok (.ifCond .eq i, 3)) (hp : pc + 3 = pc') (ho : 0 ≤ (pc : Int) + i) (ht : ((pc : Int) + i).toNat = pt) (Kt : x = y → Dn p e below P (T.setTop (mkF m pt Ls st))) (Kf : ¬ (x = y) → Dn p e below P (T.setTop (mkF m pc' Ls st))) : Dn p e below P (T.setTop (mkF m pc Ls (.int (lcmpW x y) :: st))) := by
  subst hp
  by_cases hq : x = y
  · obtain ⟨s₂, o, h1, h2⟩ := Kt hq
    exact ⟨s₂, o, XS.ifYes X.here hx rfl (pc0 := pc) rfl hd rfl ((if0 _ _).trans (teq ((lw_eq x y).mpr hq)).1) ho ht h1, h2⟩
  · obtain ⟨s₂, o, h1, h2⟩ := Kf hq
    exact ⟨s₂, o, XS.ifNo X.here hx rfl hd rfl ((if0 _ _).trans (feq (fun z => hq ((lw_eq x y).mp z))).1) h1, h2⟩
theorem o_if_ne (X : Stand p l e R s m args below meth c T locs cells slots) (hx : p.tables.exec = Jvm.exec) {x : Int32} {i : Int} {pt : Nat} (hd : decode c.code pc = .ok (.ifCond .ne i, 3)) (hp : pc + 3 = pc') (ho : 0 ≤ (pc : Int) + i) (ht : ((pc : Int) + i).toNat = pt) (Kt : ¬ (x = (0 : Int32)) → Dn p e below P (T.setTop (mkF m pt Ls st))) (Kf : x = (0 : Int32) → Dn p e below P (T.setTop (mkF m pc' Ls st))) : Dn p e below P (T.setTop (mkF m pc Ls (.int x :: st))) := by
  subst hp
  by_cases hq : x = (0 : Int32)
  · obtain ⟨s₂, o, h1, h2⟩ := Kf hq
    exact ⟨s₂, o, XS.ifNo X.here hx rfl hd rfl ((if0 _ _).trans (teq hq).2) h1, h2⟩
  · obtain ⟨s₂, o, h1, h2⟩ := Kt hq
    exact ⟨s₂, o, XS.ifYes X.here hx rfl (pc0 := pc) rfl hd rfl ((if0 _ _).trans (feq hq).2) ho ht h1, h2⟩
theorem o_icmp_ne (X : Stand p l e R s m args below meth c T locs cells slots) (hx : p.tables.exec = Jvm.exec) {x y : Int32} {i : Int} {pt : Nat} (hd : decode c.code pc = .ok (.if_icmp .ne i, 3)) (hp : pc + 3 = pc') (ho : 0 ≤ (pc : Int) + i) (ht : ((pc : Int) + i).toNat = pt) (Kt : ¬ (x = y) → Dn p e below P (T.setTop (mkF m pt Ls st))) (Kf : x = y → Dn p e below P (T.setTop (mkF m pc' Ls st))) : Dn p e below P (T.setTop (mkF m pc Ls (.int y :: .int x :: st))) := by
  subst hp
  by_cases hq : x = y
  · obtain ⟨s₂, o, h1, h2⟩ := Kf hq
    exact ⟨s₂, o, XS.icmpNo X.here hx rfl hd rfl (teq hq).2 h1, h2⟩
  · obtain ⟨s₂, o, h1, h2⟩ := Kt hq
    exact ⟨s₂, o, XS.icmpYes X.here hx rfl (pc0 := pc) rfl hd rfl (feq hq).2 ho ht h1, h2⟩
theorem o_lif_ne (X : Stand p l e R s m args below meth c T locs cells slots) (hx : p.tables.exec = Jvm.exec) {x y : Int64} {i : Int} {pt : Nat} (hd : decode c.code pc = .ok (.ifCond .ne i, 3)) (hp : pc + 3 = pc') (ho : 0 ≤ (pc : Int) + i) (ht : ((pc : Int) + i).toNat = pt) (Kt : ¬ (x = y) → Dn p e below P (T.setTop (mkF m pt Ls st))) (Kf : x = y → Dn p e below P (T.setTop (mkF m pc' Ls st))) : Dn p e below P (T.setTop (mkF m pc Ls (.int (lcmpW x y) :: st))) := by
  subst hp
  by_cases hq : x = y
  · obtain ⟨s₂, o, h1, h2⟩ := Kf hq
    exact ⟨s₂, o, XS.ifNo X.here hx rfl hd rfl ((if0 _ _).trans (teq ((lw_eq x y).mpr hq)).2) h1, h2⟩
  · obtain ⟨s₂, o, h1, h2⟩ := Kt hq
    exact ⟨s₂, o, XS.ifYes X.here hx rfl (pc0 := pc) rfl hd rfl ((if0 _ _).trans (feq (fun z => hq ((lw_eq x y).mp z))).2) ho ht h1, h2⟩
theorem o_if_lt (X : Stand p l e R s m args below meth c T locs cells slots) (hx : p.tables.exec = Jvm.exec) {x : Int32} {i : Int} {pt : Nat} (hd : decode c.code pc = .ok (.ifCond .lt i, 3)) (hp : pc + 3 = pc') (ho : 0 ≤ (pc : Int) + i) (ht : ((pc : Int) + i).toNat = pt) (Kt : x < (0 : Int32) → Dn p e below P (T.setTop (mkF m pt Ls st))) (Kf : ¬ (x < (0 : Int32)) → Dn p e below P (T.setTop (mkF m pc' Ls st))) : Dn p e below P (T.setTop (mkF m pc Ls (.int x :: st))) := by
  subst hp
  by_cases hq : x < (0 : Int32)
  · obtain ⟨s₂, o, h1, h2⟩ := Kt hq
    exact ⟨s₂, o, XS.ifYes X.here hx rfl (pc0 := pc) rfl hd rfl ((if0 _ _).trans (tlt hq).1) ho ht h1, h2⟩
  · obtain ⟨s₂, o, h1, h2⟩ := Kf hq
    exact ⟨s₂, o, XS.ifNo X.here hx rfl hd rfl ((if0 _ _).trans (flt hq).1) h1, h2⟩
theorem o_icmp_lt (X : Stand p l e R s m args below meth c T locs cells slots) (hx : p.tables.exec = Jvm.exec) {x y : Int32} {i : Int} {pt : Nat} (hd : decode c.code pc = .ok (.if_icmp .lt i, 3)) (hp : pc + 3 = pc') (ho : 0 ≤ (pc : Int) + i) (ht : ((pc : Int) + i).toNat = pt) (Kt : x < y → Dn p e below P (T.setTop (mkF m pt Ls st))) (Kf : ¬ (x < y) → Dn p e below P (T.setTop (mkF m pc' Ls st))) : Dn p e below P (T.setTop (mkF m pc Ls (.int y :: .int x :: st))) := by
  subst hp
  by_cases hq : x < y
  · obtain ⟨s₂, o, h1, h2⟩ := Kt hq
    exact ⟨s₂, o, XS.icmpYes X.here hx rfl (pc0 := pc) rfl hd rfl (tlt hq).1 ho ht h1, h2⟩
  · obtain ⟨s₂, o, h1, h2⟩ := Kf hq
    exact ⟨s₂, o, XS.icmpNo X.here hx rfl hd rfl (flt hq).1 h1, h2⟩
theorem o_lif_lt (X : Stand p l e R s m args below meth c T locs cells slots) (hx : p.tables.exec = Jvm.exec) {x y : Int64} {i : Int} {pt : Nat} (hd : decode c.code pc = .ok (.ifCond .lt i, 3)) (hp : pc + 3 = pc') (ho : 0 ≤ (pc : Int) + i) (ht : ((pc : Int) + i).toNat = pt) (Kt : x < y → Dn p e below P (T.setTop (mkF m pt Ls st))) (Kf : ¬ (x < y) → Dn p e below P (T.setTop (mkF m pc' Ls st))) : Dn p e below P (T.setTop (mkF m pc Ls (.int (lcmpW x y) :: st))) := by
  subst hp
  by_cases hq : x < y
  · obtain ⟨s₂, o, h1, h2⟩ := Kt hq
    exact ⟨s₂, o, XS.ifYes X.here hx rfl (pc0 := pc) rfl hd rfl ((if0 _ _).trans (tlt ((lw_lt x y).mpr hq)).1) ho ht h1, h2⟩
  · obtain ⟨s₂, o, h1, h2⟩ := Kf hq
    exact ⟨s₂, o, XS.ifNo X.here hx rfl hd rfl ((if0 _ _).trans (flt (fun z => hq ((lw_lt x y).mp z))).1) h1, h2⟩
theorem o_if_ge (X : Stand p l e R s m args below meth c T locs cells slots) (hx : p.tables.exec = Jvm.exec) {x : Int32} {i : Int} {pt : Nat} (hd : decode c.code pc = .ok (.ifCond .ge i, 3)) (hp : pc + 3 = pc') (ho : 0 ≤ (pc : Int) + i) (ht : ((pc : Int) + i).toNat = pt) (Kt : ¬ (x < (0 : Int32)) → Dn p e below P (T.setTop (mkF m pt Ls st))) (Kf : x < (0 : Int32) → Dn p e below P (T.setTop (mkF m pc' Ls st))) : Dn p e below P (T.setTop (mkF m pc Ls (.int x :: st))) := by
  subst hp
  by_cases hq : x < (0 : Int32)
  · obtain ⟨s₂, o, h1, h2⟩ := Kf hq
    exact ⟨s₂, o, XS.ifNo X.here hx rfl hd rfl ((if0 _ _).trans (tlt hq).2.1) h1, h2⟩
  · obtain ⟨s₂, o, h1, h2⟩ := Kt hq
    exact ⟨s₂, o, XS.ifYes X.here hx rfl (pc0 := pc) rfl hd rfl ((if0 _ _).trans (flt hq).2.1) ho ht h1, h2⟩
theorem o_icmp_ge (X : Stand p l e R s m args below meth c T locs cells slots) (hx : p.tables.exec = Jvm.exec) {x y : Int32} {i : Int} {pt : Nat} (hd : decode c.code pc = .ok (.if_icmp .ge i, 3)) (hp : pc + 3 = pc') (ho : 0 ≤ (pc : Int) + i) (ht : ((pc : Int) + i).toNat = pt) (Kt : ¬ (x < y) → Dn p e below P (T.setTop (mkF m pt Ls st))) (Kf : x < y → Dn p e below P (T.setTop (mkF m pc' Ls st))) : Dn p e below P (T.setTop (mkF m pc Ls (.int y :: .int x :: st))) := by
  subst hp
  by_cases hq : x < y
  · obtain ⟨s₂, o, h1, h2⟩ := Kf hq
    exact ⟨s₂, o, XS.icmpNo X.here hx rfl hd rfl (tlt hq).2.1 h1, h2⟩
  · obtain ⟨s₂, o, h1, h2⟩ := Kt hq
    exact ⟨s₂, o, XS.icmpYes X.here hx rfl (pc0 := pc) rfl hd rfl (flt hq).2.1 ho ht h1, h2⟩
theorem o_lif_ge (X : Stand p l e R s m args below meth c T locs cells slots) (hx : p.tables.exec = Jvm.exec) {x y : Int64} {i : Int} {pt : Nat} (hd : decode c.code pc = .ok (.ifCond .ge i, 3)) (hp : pc + 3 = pc') (ho : 0 ≤ (pc : Int) + i) (ht : ((pc : Int) + i).toNat = pt) (Kt : ¬ (x < y) → Dn p e below P (T.setTop (mkF m pt Ls st))) (Kf : x < y → Dn p e below P (T.setTop (mkF m pc' Ls st))) : Dn p e below P (T.setTop (mkF m pc Ls (.int (lcmpW x y) :: st))) := by
  subst hp
  by_cases hq : x < y
  · obtain ⟨s₂, o, h1, h2⟩ := Kf hq
    exact ⟨s₂, o, XS.ifNo X.here hx rfl hd rfl ((if0 _ _).trans (tlt ((lw_lt x y).mpr hq)).2.1) h1, h2⟩
  · obtain ⟨s₂, o, h1, h2⟩ := Kt hq
    exact ⟨s₂, o, XS.ifYes X.here hx rfl (pc0 := pc) rfl hd rfl ((if0 _ _).trans (flt (fun z => hq ((lw_lt x y).mp z))).2.1) ho ht h1, h2⟩
theorem o_if_gt (X : Stand p l e R s m args below meth c T locs cells slots) (hx : p.tables.exec = Jvm.exec) {x : Int32} {i : Int} {pt : Nat} (hd : decode c.code pc = .ok (.ifCond .gt i, 3)) (hp : pc + 3 = pc') (ho : 0 ≤ (pc : Int) + i) (ht : ((pc : Int) + i).toNat = pt) (Kt : (0 : Int32) < x → Dn p e below P (T.setTop (mkF m pt Ls st))) (Kf : ¬ ((0 : Int32) < x) → Dn p e below P (T.setTop (mkF m pc' Ls st))) : Dn p e below P (T.setTop (mkF m pc Ls (.int x :: st))) := by
  subst hp
  by_cases hq : (0 : Int32) < x
  · obtain ⟨s₂, o, h1, h2⟩ := Kt hq
    exact ⟨s₂, o, XS.ifYes X.here hx rfl (pc0 := pc) rfl hd rfl ((if0 _ _).trans (tlt hq).2.2.1) ho ht h1, h2⟩
  · obtain ⟨s₂, o, h1, h2⟩ := Kf hq
    exact ⟨s₂, o, XS.ifNo X.here hx rfl hd rfl ((if0 _ _).trans (flt hq).2.2.1) h1, h2⟩
theorem o_icmp_gt (X : Stand p l e R s m args below meth c T locs cells slots) (hx : p.tables.exec = Jvm.exec) {x y : Int32} {i : Int} {pt : Nat} (hd : decode c.code pc = .ok (.if_icmp .gt i, 3)) (hp : pc + 3 = pc') (ho : 0 ≤ (pc : Int) + i) (ht : ((pc : Int) + i).toNat = pt) (Kt : y < x → Dn p e below P (T.setTop (mkF m pt Ls st))) (Kf : ¬ (y < x) → Dn p e below P (T.setTop (mkF m pc' Ls st))) : Dn p e below P (T.setTop (mkF m pc Ls (.int y :: .int x :: st))) := by
  subst hp
  by_cases hq : y < x
  · obtain ⟨s₂, o, h1, h2⟩ := Kt hq
    exact ⟨s₂, o, XS.icmpYes X.here hx rfl (pc0 := pc) rfl hd rfl (tlt hq).2.2.1 ho ht h1, h2⟩
  · obtain ⟨s₂, o, h1, h2⟩ := Kf hq
    exact ⟨s₂, o, XS.icmpNo X.here hx rfl hd rfl (flt hq).2.2.1 h1, h2⟩
theorem o_lif_gt (X : Stand p l e R s m args below meth c T locs cells slots) (hx : p.tables.exec = Jvm.exec) {x y : Int64} {i : Int} {pt : Nat} (hd : decode c.code pc = .ok (.ifCond .gt i, 3)) (hp : pc + 3 = pc') (ho : 0 ≤ (pc : Int) + i) (ht : ((pc : Int) + i).toNat = pt) (Kt : y < x → Dn p e below P (T.setTop (mkF m pt Ls st))) (Kf : ¬ (y < x) → Dn p e below P (T.setTop (mkF m pc' Ls st))) : Dn p e below P (T.setTop (mkF m pc Ls (.int (lcmpW x y) :: st))) := by
  subst hp
  by_cases hq : y < x
  · obtain ⟨s₂, o, h1, h2⟩ := Kt hq
    exact ⟨s₂, o, XS.ifYes X.here hx rfl (pc0 := pc) rfl hd rfl ((if0 _ _).trans (tlt ((lw_gt x y).mpr hq)).2.2.1) ho ht h1, h2⟩
  · obtain ⟨s₂, o, h1, h2⟩ := Kf hq
    exact ⟨s₂, o, XS.ifNo X.here hx rfl hd rfl ((if0 _ _).trans (flt (fun z => hq ((lw_gt x y).mp z))).2.2.1) h1, h2⟩
theorem o_if_le (X : Stand p l e R s m args below meth c T locs cells slots) (hx : p.tables.exec = Jvm.exec) {x : Int32} {i : Int} {pt : Nat} (hd : decode c.code pc = .ok (.ifCond .le i, 3)) (hp : pc + 3 = pc') (ho : 0 ≤ (pc : Int) + i) (ht : ((pc : Int) + i).toNat = pt) (Kt : ¬ ((0 : Int32) < x) → Dn p e below P (T.setTop (mkF m pt Ls st))) (Kf : (0 : Int32) < x → Dn p e below P (T.setTop (mkF m pc' Ls st))) : Dn p e below P (T.setTop (mkF m pc Ls (.int x :: st))) := by
  subst hp
  by_cases hq : (0 : Int32) < x
  · obtain ⟨s₂, o, h1, h2⟩ := Kf hq
    exact ⟨s₂, o, XS.ifNo X.here hx rfl hd rfl ((if0 _ _).trans (tlt hq).2.2.2) h1, h2⟩
  · obtain ⟨s₂, o, h1, h2⟩ := Kt hq
    exact ⟨s₂, o, XS.ifYes X.here hx rfl (pc0 := pc) rfl hd rfl ((if0 _ _).trans (flt hq).2.2.2) ho ht h1, h2⟩
theorem o_icmp_le (X : Stand p l e R s m args below meth c T locs cells slots) (hx : p.tables.exec = Jvm.exec) {x y : Int32} {i : Int} {pt : Nat} (hd : decode c.code pc = .ok (.if_icmp .le i, 3)) (hp : pc + 3 = pc') (ho : 0 ≤ (pc : Int) + i) (ht : ((pc : Int) + i).toNat = pt) (Kt : ¬ (y < x) → Dn p e below P (T.setTop (mkF m pt Ls st))) (Kf : y < x → Dn p e below P (T.setTop (mkF m pc' Ls st))) : Dn p e below P (T.setTop (mkF m pc Ls (.int y :: .int x :: st))) := by
  subst hp
  by_cases hq : y < x
  · obtain ⟨s₂, o, h1, h2⟩ := Kf hq
    exact ⟨s₂, o, XS.icmpNo X.here hx rfl hd rfl (tlt hq).2.2.2 h1, h2⟩
  · obtain ⟨s₂, o, h1, h2⟩ := Kt hq
    exact ⟨s₂, o, XS.icmpYes X.here hx rfl (pc0 := pc) rfl hd rfl (flt hq).2.2.2 ho ht h1, h2⟩
theorem o_lif_le (X : Stand p l e R s m args below meth c T locs cells slots) (hx : p.tables.exec = Jvm.exec) {x y : Int64} {i : Int} {pt : Nat} (hd : decode c.code pc = .ok (.ifCond .le i, 3)) (hp : pc + 3 = pc') (ho : 0 ≤ (pc : Int) + i) (ht : ((pc : Int) + i).toNat = pt) (Kt : ¬ (y < x) → Dn p e below P (T.setTop (mkF m pt Ls st))) (Kf : y < x → Dn p e below P (T.setTop (mkF m pc' Ls st))) : Dn p e below P (T.setTop (mkF m pc Ls (.int (lcmpW x y) :: st))) := by
  subst hp
  by_cases hq : y < x
  · obtain ⟨s₂, o, h1, h2⟩ := Kf hq
    exact ⟨s₂, o, XS.ifNo X.here hx rfl hd rfl ((if0 _ _).trans (tlt ((lw_gt x y).mpr hq)).2.2.2) h1, h2⟩
  · obtain ⟨s₂, o, h1, h2⟩ := Kt hq
    exact ⟨s₂, o, XS.ifYes X.here hx rfl (pc0 := pc) rfl hd rfl ((if0 _ _).trans (flt (fun z => hq ((lw_gt x y).mp z))).2.2.2) ho ht h1, h2⟩
theorem o_acmp_eq (X : Stand p l e R s m args below meth c T locs cells slots) (hx : p.tables.exec = Jvm.exec) {x y : Value} {i : Int} {pt : Nat} (hd : decode c.code pc = .ok (.if_acmp .eq i, 3)) (hp : pc + 3 = pc') (ho : 0 ≤ (pc : Int) + i) (ht : ((pc : Int) + i).toNat = pt) (hv : x.isRef = true) (hw : y.isRef = true) (Kt : x = y → Dn p e below P (T.setTop (mkF m pt Ls st))) (Kf : ¬ (x = y) → Dn p e below P (T.setTop (mkF m pc' Ls st))) : Dn p e below P (T.setTop (mkF m pc Ls (y :: x :: st))) := by
  subst hp
  by_cases hq : x = y
  · obtain ⟨s₂, o, h1, h2⟩ := Kt hq
    exact ⟨s₂, o, Jvm.RoadKit.acmp (g := mkF m pc Ls (y :: x :: st)) X hx rfl hv hw (pc0 := pc) (same := true) rfl hd rfl (decide_eq_true hq) ho ht.symm h1, h2⟩
  · obtain ⟨s₂, o, h1, h2⟩ := Kf hq
    exact ⟨s₂, o, Jvm.RoadKit.acmp (g := mkF m pc Ls (y :: x :: st)) X hx rfl hv hw (pc0 := pc) (same := false) rfl hd rfl (decide_eq_false hq) ho rfl h1, h2⟩
theorem o_acmp_ne (X : Stand p l e R s m args below meth c T locs cells slots) (hx : p.tables.exec = Jvm.exec) {x y : Value} {i : Int} {pt : Nat} (hd : decode c.code pc = .ok (.if_acmp .ne i, 3)) (hp : pc + 3 = pc') (ho : 0 ≤ (pc : Int) + i) (ht : ((pc : Int) + i).toNat = pt) (hv : x.isRef = true) (hw : y.isRef = true) (Kt : ¬ (x = y) → Dn p e below P (T.setTop (mkF m pt Ls st))) (Kf : x = y → Dn p e below P (T.setTop (mkF m pc' Ls st))) : Dn p e below P (T.setTop (mkF m pc Ls (y :: x :: st))) := by
  subst hp
  by_cases hq : x = y
  · obtain ⟨s₂, o, h1, h2⟩ := Kf hq
    exact ⟨s₂, o, Jvm.RoadKit.acmp (g := mkF m pc Ls (y :: x :: st)) X hx rfl hv hw (pc0 := pc) (same := true) rfl hd rfl (decide_eq_true hq) ho rfl h1, h2⟩
  · obtain ⟨s₂, o, h1, h2⟩ := Kt hq
    exact ⟨s₂, o, Jvm.RoadKit.acmp (g := mkF m pc Ls (y :: x :: st)) X hx rfl hv hw (pc0 := pc) (same := false) rfl hd rfl (decide_eq_false hq) ho ht.symm h1, h2⟩
theorem o_ifnull_no (X : Stand p l e R s m args below meth c T locs cells slots) (hx : p.tables.exec = Jvm.exec) {b : Addr} {i : Int} (hd : decode c.code pc = .ok (.ifnull i, 3)) (hp : pc + 3 = pc') (K : Dn p e below P (T.setTop (mkF m pc' Ls st))) : Dn p e below P (T.setTop (mkF m pc Ls (.ref b :: st))) := by
  subst hp
  obtain ⟨s₂, o, h1, h2⟩ := K
  exact ⟨s₂, o, XS.ifnullNo X.here hx rfl hd rfl h1, h2⟩
theorem o_ifnull_yes (X : Stand p l e R s m args below meth c T locs cells slots) (hx : p.tables.exec = Jvm.exec) {i : Int} (hd : decode c.code pc = .ok (.ifnull i, 3)) (ho : 0 ≤ (pc : Int) + i) (hp : ((pc : Int) + i).toNat = pc') (K : Dn p e below P (T.setTop (mkF m pc' Ls st))) : Dn p e below P (T.setTop (mkF m pc Ls (.null :: st))) := by
  obtain ⟨s₂, o, h1, h2⟩ := K
  exact ⟨s₂, o, XS.ifnullYes X.here hx rfl (pc0 := pc) rfl hd rfl ho hp h1, h2⟩
theorem o_ifnonnull_yes (X : Stand p l e R s m args below meth c T locs cells slots) (hx : p.tables.exec = Jvm.exec) {b : Addr} {i : Int} (hd : decode c.code pc = .ok (.ifnonnull i, 3)) (ho : 0 ≤ (pc : Int) + i) (hp : ((pc : Int) + i).toNat = pc') (K : Dn p e below P (T.setTop (mkF m pc' Ls st))) : Dn p e below P (T.setTop (mkF m pc Ls (.ref b :: st))) := by
  obtain ⟨s₂, o, h1, h2⟩ := K
  exact ⟨s₂, o, XS.ifnonnullYes X.here hx rfl (pc0 := pc) rfl hd rfl ho hp h1, h2⟩
theorem o_ldc2 (X : Stand p l e R s m args below meth c T locs cells slots) (hx : p.tables.exec = Jvm.exec) (hZ : Z.Warmed39 s.vm) {own : String} {index : Nat} {v : Int64} (hown : s.vm.findClass own = some m.cls) (w : (Jvm.Cond.constantLong own index v).before a0 Z = true) (hd : decode c.code pc = .ok (.ldc2_w index, 3)) (hp : pc + 3 = pc') (K : Dn p e below P (T.setTop (mkF m pc' Ls (.long v :: st)))) : Dn p e below P (T.setTop (mkF m pc Ls st)) := by
  subst hp
  exact go (X.ldc2Long hx hown (mvT hZ w) (g := mkF m pc Ls st) rfl hd) K
theorem o_ldc (X : Stand p l e R s m args below meth c T locs cells slots) (hx : p.tables.exec = Jvm.exec) (hZ : Z.Warmed39 s.vm) {own : String} {index : Nat} {v : Int32} (hown : s.vm.findClass own = some m.cls) (w : (Jvm.Cond.constant own index v).before a0 Z = true) (hd : decode c.code pc = .ok (.ldc index, 2)) (hp : pc + 2 = pc') (K : Dn p e below P (T.setTop (mkF m pc' Ls (.int v :: st)))) : Dn p e below P (T.setTop (mkF m pc Ls st)) := by
  subst hp
  exact go (X.ldcInt hx hown (mvT hZ w) (g := mkF m pc Ls st) rfl hd) K
theorem o_ldcw (X : Stand p l e R s m args below meth c T locs cells slots) (hx : p.tables.exec = Jvm.exec) (hZ : Z.Warmed39 s.vm) {own : String} {index : Nat} {v : Int32} (hown : s.vm.findClass own = some m.cls) (w : (Jvm.Cond.constant own index v).before a0 Z = true) (hd : decode c.code pc = .ok (.ldc_w index, 3)) (hp : pc + 3 = pc') (K : Dn p e below P (T.setTop (mkF m pc' Ls (.int v :: st)))) : Dn p e below P (T.setTop (mkF m pc Ls st)) := by
  subst hp
  exact go (X.ldcwInt hx hown (mvT hZ w) (g := mkF m pc Ls st) rfl hd) K
theorem o_dup2 (X : Stand p l e R s m args below meth c T locs cells slots) (hx : p.tables.exec = Jvm.exec) {v w : Value} (hd : decode c.code pc = .ok (.dup2, 1)) (hp : pc + 1 = pc') (hv : v.category = 1) (hw : w.category = 1) (K : Dn p e below P (T.setTop (mkF m pc' Ls (v :: w :: v :: w :: st)))) : Dn p e below P (T.setTop (mkF m pc Ls (v :: w :: st))) := by
  subst hp
  obtain ⟨s₂, o, h1, h2⟩ := K
  exact ⟨s₂, o, XT.dup2 X.here hx rfl hd rfl hv hw h1, h2⟩
theorem o_iaload (X : Stand p l e R s m args below meth c T locs cells slots) (hx : p.tables.exec = Jvm.exec) (hZ : Z.Warmed39 s.vm) (eT : T.heap = h) {a : Addr} {k : ClassId} {n j : Int32} {vs : List Value} {d v : Value} (V : Arv Z h a k .int n vs d) (hj : ¬ j < 0 ∧ j < n) (hv : vs.getD j.toNatClampNeg d = v) (hd : decode c.code pc = .ok (.iaload, 1)) (hp : pc + 1 = pc') (K : Dn p e below P (T.setTop (mkF m pc' Ls (v :: st)))) : Dn p e below P (T.setTop (mkF m pc Ls (.int j :: .ref a :: st))) := by
  subst hp
  obtain ⟨cl, A, -, S, N, H, -⟩ := V
  have hin := inb_of S hj
  exact go (X.iaload hx (j := j) (v := v) (by rw [eT]; exact A.1) (State.isArrayOf_alike hZ.alike A.2.1) A.2.2 hin (H.at hin hv) (g := mkF m pc Ls (.int j :: .ref a :: st)) rfl rfl hd) K
theorem o_laload (X : Stand p l e R s m args below meth c T locs cells slots) (hx : p.tables.exec = Jvm.exec) (hZ : Z.Warmed39 s.vm) (eT : T.heap = h) {a : Addr} {k : ClassId} {n j : Int32} {vs : List Value} {d v : Value} (V : Arv Z h a k .long n vs d) (hj : ¬ j < 0 ∧ j < n) (hv : vs.getD j.toNatClampNeg d = v) (hd : decode c.code pc = .ok (.laload, 1)) (hp : pc + 1 = pc') (K : Dn p e below P (T.setTop (mkF m pc' Ls (v :: st)))) : Dn p e below P (T.setTop (mkF m pc Ls (.int j :: .ref a :: st))) := by
  subst hp
  obtain ⟨cl, A, -, S, N, H, -⟩ := V
  have hin := inb_of S hj
  exact go (X.laload hx (j := j) (v := v) (by rw [eT]; exact A.1) (State.isArrayOf_alike hZ.alike A.2.1) A.2.2 hin (H.at hin hv) (g := mkF m pc Ls (.int j :: .ref a :: st)) rfl rfl hd) K
theorem o_caload (X : Stand p l e R s m args below meth c T locs cells slots) (hx : p.tables.exec = Jvm.exec) (hZ : Z.Warmed39 s.vm) (eT : T.heap = h) {a : Addr} {k : ClassId} {n j : Int32} {vs : List Value} {d v : Value} (V : Arv Z h a k .char n vs d) (hj : ¬ j < 0 ∧ j < n) (hv : vs.getD j.toNatClampNeg d = v) (hd : decode c.code pc = .ok (.caload, 1)) (hp : pc + 1 = pc') (K : Dn p e below P (T.setTop (mkF m pc' Ls (v :: st)))) : Dn p e below P (T.setTop (mkF m pc Ls (.int j :: .ref a :: st))) := by
  subst hp
  obtain ⟨cl, A, -, S, N, H, -⟩ := V
  have hin := inb_of S hj
  exact go (X.caload hx (j := j) (v := v) (by rw [eT]; exact A.1) (State.isArrayOf_alike hZ.alike A.2.1) A.2.2 hin (H.at hin hv) (g := mkF m pc Ls (.int j :: .ref a :: st)) rfl rfl hd) K
theorem o_baload (X : Stand p l e R s m args below meth c T locs cells slots) (hx : p.tables.exec = Jvm.exec) (hZ : Z.Warmed39 s.vm) (eT : T.heap = h) {a : Addr} {k : ClassId} {n j : Int32} {vs : List Value} {d v : Value} (V : Arv Z h a k .byte n vs d) (hj : ¬ j < 0 ∧ j < n) (hv : vs.getD j.toNatClampNeg d = v) (hd : decode c.code pc = .ok (.baload, 1)) (hp : pc + 1 = pc') (K : Dn p e below P (T.setTop (mkF m pc' Ls (v :: st)))) : Dn p e below P (T.setTop (mkF m pc Ls (.int j :: .ref a :: st))) := by
  subst hp
  obtain ⟨cl, A, -, S, N, H, -⟩ := V
  have hin := inb_of S hj
  exact go (X.baloadBytes hx (j := j) (v := v) (by rw [eT]; exact A.1) (State.isArrayOf_alike hZ.alike A.2.1) A.2.2 hin (H.at hin hv) (g := mkF m pc Ls (.int j :: .ref a :: st)) rfl rfl hd) K
theorem o_aaload (X : Stand p l e R s m args below meth c T locs cells slots) (hx : p.tables.exec = Jvm.exec) (hZ : Z.Warmed39 s.vm) (eT : T.heap = h) {a : Addr} {k : ClassId} {n j : Int32} {vs : List Value} {d v : Value} {ty : FieldType} (V : Arv Z h a k ty n vs d) (hty : ty.isReference = true) (hj : ¬ j < 0 ∧ j < n) (hv : vs.getD j.toNatClampNeg d = v) (hd : decode c.code pc = .ok (.aaload, 1)) (hp : pc + 1 = pc') (K : Dn p e below P (T.setTop (mkF m pc' Ls (v :: st)))) : Dn p e below P (T.setTop (mkF m pc Ls (.int j :: .ref a :: st))) := by
  subst hp
  obtain ⟨cl, A, -, S, N, H, -⟩ := V
  have hin := inb_of S hj
  exact go (X.aaload hx (j := j) (v := v) (by rw [eT]; exact A.1) (State.isArrayOf_alike hZ.alike A.2.1) hty A.2.2 hin (H.at hin hv) (g := mkF m pc Ls (.int j :: .ref a :: st)) rfl rfl hd) K
theorem o_arraylength (X : Stand p l e R s m args below meth c T locs cells slots) (hx : p.tables.exec = Jvm.exec) (hZ : Z.Warmed39 s.vm) (eT : T.heap = h) {a : Addr} {k : ClassId} {n : Int32} {vs : List Value} {d : Value} {ty : FieldType} (V : Arv Z h a k ty n vs d) (hd : decode c.code pc = .ok (.arraylength, 1)) (hp : pc + 1 = pc') (K : Dn p e below P (T.setTop (mkF m pc' Ls (.int n :: st)))) : Dn p e below P (T.setTop (mkF m pc Ls (.ref a :: st))) := by
  subst hp
  obtain ⟨cl, A, -, S, N, H, -⟩ := V
  refine go (X.arraylength hx (by rw [eT]; exact A.1) (State.isArrayOf_alike hZ.alike A.2.1) (g := mkF m pc Ls (.ref a :: st)) rfl rfl hd) ?_
  rw [len_of S N]
  exact K
theorem o_iastore (X : Stand p l e R s m args below meth c T locs cells slots) (hx : p.tables.exec = Jvm.exec) (hZ : Z.Warmed39 s.vm) (eT : T.heap = h) {a : Addr} {k : ClassId} {n j : Int32} {vs : List Value} {d : Value} {x : Int32} (V : Arv Z h a k .int n vs d) (hj : ¬ j < 0 ∧ j < n) (i : Nat) (hi : j.toNatClampNeg = i) (hl : i < vs.length) (hd : decode c.code pc = .ok (.iastore, 1)) (hp : pc + 1 = pc') (K : ∀ T' h', Stand p l e R s m args below meth c T' (locs ++ [⟨a, j.toNatClampNeg⟩]) cells slots → T'.heap = h' → Wr h h' a j.toNatClampNeg (.int x) → Arv Z h' a k .int n (vs.set i (.int x)) d → Dn p e below P (T'.setTop (mkF m pc' Ls st))) : Dn p e below P (T.setTop (mkF m pc Ls (.int x :: .int j :: .ref a :: st))) := by
  subst hp
  obtain ⟨cl, A, q, S, N, H, G⟩ := V
  have hin := inb_of S hj
  obtain ⟨T', h', X', e', W', st'⟩ := stI X hx hZ eT A (j := j) (x := x) hin (g := mkF m pc Ls (.int x :: .int j :: .ref a :: st)) rfl rfl hd
  exact go st' (K T' h' X' e' W' (Arv.set A q S N H G rfl W' i hi hl))
theorem o_lastore (X : Stand p l e R s m args below meth c T locs cells slots) (hx : p.tables.exec = Jvm.exec) (hZ : Z.Warmed39 s.vm) (eT : T.heap = h) {a : Addr} {k : ClassId} {n j : Int32} {vs : List Value} {d : Value} {x : Int64} (V : Arv Z h a k .long n vs d) (hj : ¬ j < 0 ∧ j < n) (i : Nat) (hi : j.toNatClampNeg = i) (hl : i < vs.length) (hd : decode c.code pc = .ok (.lastore, 1)) (hp : pc + 1 = pc') (K : ∀ T' h', Stand p l e R s m args below meth c T' (locs ++ [⟨a, j.toNatClampNeg⟩]) cells slots → T'.heap = h' → Wr h h' a j.toNatClampNeg (.long x) → Arv Z h' a k .long n (vs.set i (.long x)) d → Dn p e below P (T'.setTop (mkF m pc' Ls st))) : Dn p e below P (T.setTop (mkF m pc Ls (.long x :: .int j :: .ref a :: st))) := by
  subst hp
  obtain ⟨cl, A, q, S, N, H, G⟩ := V
  have hin := inb_of S hj
  obtain ⟨T', h', X', e', W', st'⟩ := stJ X hx hZ eT A (j := j) (x := x) hin (g := mkF m pc Ls (.long x :: .int j :: .ref a :: st)) rfl rfl hd
  exact go st' (K T' h' X' e' W' (Arv.set A q S N H G rfl W' i hi hl))
theorem o_castore (X : Stand p l e R s m args below meth c T locs cells slots) (hx : p.tables.exec = Jvm.exec) (hZ : Z.Warmed39 s.vm) (eT : T.heap = h) {a : Addr} {k : ClassId} {n j : Int32} {vs : List Value} {d : Value} {x : Int32} (V : Arv Z h a k .char n vs d) (hj : ¬ j < 0 ∧ j < n) (i : Nat) (hi : j.toNatClampNeg = i) (hl : i < vs.length) (hd : decode c.code pc = .ok (.castore, 1)) (hp : pc + 1 = pc') (K : ∀ T' h', Stand p l e R s m args below meth c T' (locs ++ [⟨a, j.toNatClampNeg⟩]) cells slots → T'.heap = h' → Wr h h' a j.toNatClampNeg (.int (nar .char x)) → Arv Z h' a k .char n (vs.set i (.int (nar .char x))) d → Dn p e below P (T'.setTop (mkF m pc' Ls st))) : Dn p e below P (T.setTop (mkF m pc Ls (.int x :: .int j :: .ref a :: st))) := by
  subst hp
  obtain ⟨cl, A, q, S, N, H, G⟩ := V
  have hin := inb_of S hj
  obtain ⟨T', h', X', e', W', st'⟩ := stC X hx hZ eT A (j := j) (x := x) hin (g := mkF m pc Ls (.int x :: .int j :: .ref a :: st)) rfl rfl hd
  exact go st' (K T' h' X' e' W' (Arv.set A q S N H G (fits_nar_char x) W' i hi hl))
theorem o_bastore (X : Stand p l e R s m args below meth c T locs cells slots) (hx : p.tables.exec = Jvm.exec) (hZ : Z.Warmed39 s.vm) (eT : T.heap = h) {a : Addr} {k : ClassId} {n j : Int32} {vs : List Value} {d : Value} {x : Int32} (V : Arv Z h a k .byte n vs d) (hj : ¬ j < 0 ∧ j < n) (i : Nat) (hi : j.toNatClampNeg = i) (hl : i < vs.length) (hd : decode c.code pc = .ok (.bastore, 1)) (hp : pc + 1 = pc') (K : ∀ T' h', Stand p l e R s m args below meth c T' (locs ++ [⟨a, j.toNatClampNeg⟩]) cells slots → T'.heap = h' → Wr h h' a j.toNatClampNeg (.int (nar .byte x)) → Arv Z h' a k .byte n (vs.set i (.int (nar .byte x))) d → Dn p e below P (T'.setTop (mkF m pc' Ls st))) : Dn p e below P (T.setTop (mkF m pc Ls (.int x :: .int j :: .ref a :: st))) := by
  subst hp
  obtain ⟨cl, A, q, S, N, H, G⟩ := V
  have hin := inb_of S hj
  obtain ⟨T', h', X', e', W', st'⟩ := stB X hx hZ eT A (j := j) (x := x) hin (g := mkF m pc Ls (.int x :: .int j :: .ref a :: st)) rfl rfl hd
  exact go st' (K T' h' X' e' W' (Arv.set A q S N H G (fits_nar_byte x) W' i hi hl))
theorem o_newarray (X : Stand p l e R s m args below meth c T locs cells slots) (hx : p.tables.exec = Jvm.exec) (hZ : Z.Warmed39 s.vm) (eT : T.heap = h) {aty : ArrayType} (w : (Jvm.Cond.arrayClass (newarray.typeOf aty)).before a0 Z = true) (hd : decode c.code pc = .ok (.newarray aty, 2)) (hp : pc + 2 = pc') {n : Int32} (hn : ¬ n < 0) (cap : Nat) (hcap : n.toNatClampNeg ≤ cap) (hb : cap * 8 ≤ 536870912) (hc : cells + 1 ≤ R.cells) (hs : slots + cap ≤ R.slots) (K : ∀ T' h' a k, a = h.size → Stand p l e R s m args below meth c T' locs (cells + 1) (slots + cap) → T'.heap = h' → Ext h h' → Arv Z h' a k (newarray.typeOf aty) n [] (defaultValue (newarray.typeOf aty)) → Dn p e below P (T'.setTop (mkF m pc' Ls (.ref a :: st)))) : Dn p e below P (T.setTop (mkF m pc Ls (.int n :: st))) := by
  subst hp
  obtain ⟨T', h', k, X', e', E', A', st'⟩ := newP X hx hZ w eT (g := mkF m pc Ls (.int n :: st)) rfl hd rfl hn hcap hb hc hs
  exact go st' (K T' h' _ k rfl X' e' E' (Arv.new A' hn))
theorem o_getfield (X : Stand p l e R s m args below meth c T locs cells slots) (hx : p.tables.exec = Jvm.exec) (hZ : Z.Warmed39 s.vm) {own O n d : String} {index : Nat} (hown : s.vm.findClass own = some m.cls) (w : (Jvm.Cond.fieldLink own index O n d).before a0 Z = true) (eT : T.heap = h) {a : Addr} {v : Value} (F : Fld Z h a O n d v) (hd : decode c.code pc = .ok (.getfield index, 3)) (hp : pc + 3 = pc') (K : ∀ T', Stand p l e R s m args below meth c T' locs cells slots → T'.heap = h → Dn p e below P (T'.setTop (mkF m pc' Ls (v :: st)))) : Dn p e below P (T.setTop (mkF m pc Ls (.ref a :: st))) := by
  subst hp
  obtain ⟨T', X', e', st'⟩ := getF X hx hZ hown (host := "") (Or.inl w) Via.refl eT F (g := mkF m pc Ls (.ref a :: st)) rfl rfl hd
  exact go st' (K T' X' e')
theorem o_getfieldN (X : Stand p l e R s m args below meth c T locs cells slots) (hx : p.tables.exec = Jvm.exec) (hZ : Z.Warmed39 s.vm) {own O n d host : String} {index : Nat} (hown : s.vm.findClass own = some m.cls) (w : (Jvm.Cond.fieldLinkNest own index O n d host).before a0 Z = true) (eT : T.heap = h) {a : Addr} {v : Value} (F : Fld Z h a O n d v) (hd : decode c.code pc = .ok (.getfield index, 3)) (hp : pc + 3 = pc') (K : ∀ T', Stand p l e R s m args below meth c T' locs cells slots → T'.heap = h → Dn p e below P (T'.setTop (mkF m pc' Ls (v :: st)))) : Dn p e below P (T.setTop (mkF m pc Ls (.ref a :: st))) := by
  subst hp
  obtain ⟨T', X', e', st'⟩ := getF X hx hZ hown (host := host) (Or.inr w) Via.refl eT F (g := mkF m pc Ls (.ref a :: st)) rfl rfl hd
  exact go st' (K T' X' e')
theorem o_putfield (X : Stand p l e R s m args below meth c T locs cells slots) (hx : p.tables.exec = Jvm.exec) (hZ : Z.Warmed39 s.vm) {own O n d C : String} {index kk : Nat} {ty : FieldType} (hown : s.vm.findClass own = some m.cls) (w : (Jvm.Cond.fieldLink own index O n d).before a0 Z = true) (eT : T.heap = h) {a : Addr} {v v' old : Value} (F : Fld Z h a O n d old) (E : Exa Z h a C) (L : (Jvm.Cond.lays C O n d).before a0 Z = true ∨ ((Jvm.Cond.laysFinal C O n d).before a0 Z = true ∧ own = O ∧ meth.name = "<init>")) (wi : (Jvm.Cond.instantiable C kk).before a0 Z = true) (hty : parseFieldDescriptor d = some ty) (hn : narrow ty v = v') (hf : fits ty v' = true) (hd : decode c.code pc = .ok (.putfield index, 3)) (hp : pc + 3 = pc') (K : ∀ T' h', Stand p l e R s m args below meth c T' (locs ++ [⟨a, Jvm.RoadKit.slotOf Z O n d⟩]) cells slots → T'.heap = h' → Wr h h' a (Jvm.RoadKit.slotOf Z O n d) v' → Fld Z h' a O n d v' → Exa Z h' a C → Dn p e below P (T'.setTop (mkF m pc' Ls st))) : Dn p e below P (T.setTop (mkF m pc Ls (v :: .ref a :: st))) := by
  subst hp
  obtain ⟨T', h', X', e', W', st'⟩ := putFN X hx hZ hown w Via.refl eT F E L wi hty hn hf (g := mkF m pc Ls (v :: .ref a :: st)) rfl rfl hd
  exact go st' (K T' h' X' e' W' (F.same W') (E.wr W'))
theorem o_getstatic (X : Stand p l e R s m args below meth c T locs cells slots) (hx : p.tables.exec = Jvm.exec) (hZ : Z.Warmed39 s.vm) {own O n d : String} {index : Nat} (hown : s.vm.findClass own = some m.cls) (w : (Jvm.Cond.fieldLink own index O n d).before a0 Z = true) (eT : T.heap = h) {v : Value} (F : Sta Z h O n d v) (hd : decode c.code pc = .ok (.getstatic index, 3)) (hp : pc + 3 = pc') (K : ∀ T', Stand p l e R s m args below meth c T' locs cells slots → T'.heap = h → Dn p e below P (T'.setTop (mkF m pc' Ls (v :: st)))) : Dn p e below P (T.setTop (mkF m pc Ls st)) := by
  subst hp
  obtain ⟨T', X', e', st'⟩ := getS2 X hx hZ hown (host := "") (Or.inl w) Via.refl eT F (g := mkF m pc Ls st) rfl hd
  exact go st' (K T' X' e')
theorem o_new (X : Stand p l e R s m args below meth c T locs cells slots) (hx : p.tables.exec = Jvm.exec) (hZ : Z.Warmed39 s.vm) {own C : String} {index n : Nat} (hown : s.vm.findClass own = some m.cls) (w : (Jvm.Cond.classLink own index C).before a0 Z = true) (wi : (Jvm.Cond.instantiable C n).before a0 Z = true) (wz : (Jvm.Cond.initialized C).before a0 Z = true) (eT : T.heap = h) (hd : decode c.code pc = .ok (.new index, 3)) (hp : pc + 3 = pc') (hc : cells + 1 ≤ R.cells) (hs : slots + n ≤ R.slots) (K : ∀ T' h' a, a = h.size → Stand p l e R s m args below meth c T' locs (cells + 1) (slots + n) → T'.heap = h' → Ext h h' → Exa Z h' a C → (∀ {O nm d : String} {ty : FieldType}, Laid Z a0 C O nm d → parseFieldDescriptor d = some ty → Fld Z h' a O nm d (defaultValue ty)) → Dn p e below P (T'.setTop (mkF m pc' Ls (.ref a :: st)))) : Dn p e below P (T.setTop (mkF m pc Ls st)) := by
  subst hp
  obtain ⟨T', h', X', e', E', A', D', -, st'⟩ := newO X hx hZ hown w wi wz eT (g := mkF m pc Ls st) rfl hd hc hs
  exact go st' (K T' h' _ rfl X' e' E' A' D')
theorem o_initO (X : Stand p l e R s m args below meth c T locs cells slots) (hx : p.tables.exec = Jvm.exec) (hZ : Z.Warmed39 s.vm) {own : String} {index : Nat} (hown : s.vm.findClass own = some m.cls) (w1 : (Jvm.Cond.methodLink own index Lib.objectInit).before a0 Z = true) (w2 : (Jvm.Cond.instanceMethod Lib.objectInit).before a0 Z = true) (w3 : (Jvm.Cond.code Lib.objectInit ⟨#[0xb1]⟩ 1 none).before a0 Z = true) (eT : T.heap = h) (hsize : Ls.size = c.maxLocals) {a : Addr} (hd : decode c.code pc = .ok (.invokespecial index, 3)) (hp : pc + 3 = pc') (hf : 1 ≤ R.frames) {W : Nat} (hW : 2 * 0 + (st.map fun v => v.category).sum ≤ W) (hl : W + 12 ≤ R.locals) (K : ∀ T', Stand p l e R s m args below meth c T' locs cells slots → T'.heap = h → Dn p e below P (T'.setTop (mkF m pc' Ls st))) : Dn p e below P (T.setTop (mkF m pc Ls (.ref a :: st))) := by
  subst hp
  obtain ⟨T', X', e', st'⟩ := initO X hx hZ hown w1 w2 w3 eT (g := mkF m pc Ls (.ref a :: st)) rfl hsize rfl hd hf (W := W) hW hl
  exact go st' (K T' X' e')
theorem o_callS (X : Stand p l e R s m args below meth c T locs cells slots) (hx : p.tables.exec = Jvm.exec) (hZ : Z.Warmed39 s.vm) {own : String} {index : Nat} {y : MethodName} {bytes : ByteArray} {maxL : Nat} {ret : Option FieldType} {Rm : Room} {Q : Option Value → Heap → List Loc → Prop} {ps : List FieldType} (argsL : List Value) {as' : Array Value} (C : Ctr l Z y bytes maxL ret [] Rm as' h Q) (hown : s.vm.findClass own = some m.cls) (w1 : (Jvm.Cond.methodLink own index y).before a0 Z = true) (w2 : (Jvm.Cond.static y).before a0 Z = true) (w3 : (Jvm.Cond.initialized y.cls).before a0 Z = true) (w4 : (Jvm.Cond.code y bytes maxL ret).before a0 Z = true) (hy : y.cls ≠ "java/lang/invoke/MethodHandle" ∧ y.cls ≠ "java/lang/invoke/VarHandle") (hpd : parseMethodDescriptor y.desc = some ⟨ps, ret⟩) (eT : T.heap = h) (hsize : Ls.size = c.maxLocals) {stk : List Value} (has : as' = argsL.toArray) (hln : argsL.length = ps.length) (hst : stk = argsL.reverse ++ st) (hd : decode c.code pc = .ok (.invokestatic index, 3)) (hp : pc + 3 = pc') (W : Nat) (hW : 2 * 0 + (st.map fun v => v.category).sum ≤ W) (hf : Rm.frames + 1 ≤ R.frames) (hl : W + (maxL + 11) + Rm.locals ≤ R.locals) (hc : cells + Rm.cells ≤ R.cells) (hs : slots + Rm.slots ≤ R.slots) (K : ∀ T' v L, Stand p l e R s m args below meth c T' (locs ++ L) (cells + Rm.cells) (slots + Rm.slots) → Q v T'.heap L → Dn p e below P (T'.setTop (mkF m pc' Ls (v.toList ++ st)))) : Dn p e below P (T.setTop (mkF m pc Ls stk)) := by
  subst hp has hst
  obtain ⟨v, vm₁, ⟨T', L', k', n'⟩, -, X', ⟨L, hQ, l1, y1, z1⟩, st'⟩ := Jvm.LawKit.callS X hx (y := y) hown (mvT hZ w1) (mvT hZ w2) (mvT hZ w3) (mvT hZ w4) hy (backOf (W := W) C hZ w4 w3 hf hl) (g := mkF m pc Ls (argsL.reverse ++ st)) rfl hsize (argsL := argsL) (rest := st) (lenOf hpd hln) rfl hW hd (fun _ _ => ⟨rfl, eT, hc, hs⟩)
  dsimp only [Pt.U, Pt.locs, Pt.cells, Pt.slots] at X' l1 y1 z1 st' hQ
  subst l1 y1 z1
  exact go st' (K T' v L X' hQ)
theorem o_callI (X : Stand p l e R s m args below meth c T locs cells slots) (hx : p.tables.exec = Jvm.exec) (hZ : Z.Warmed39 s.vm) {own : String} {index : Nat} {y : MethodName} {bytes : ByteArray} {maxL : Nat} {Rm : Room} {Q : Option Value → Heap → List Loc → Prop} {ps : List FieldType} (a : Addr) (argsL : List Value) {as' : Array Value} (C : Ctr l Z y bytes maxL none [] Rm as' h Q) (hy1 : y.name = "<init>") (hown : s.vm.findClass own = some m.cls) (w1 : (Jvm.Cond.methodLink own index y).before a0 Z = true) (w2 : (Jvm.Cond.instanceMethod y).before a0 Z = true) (w3 : (Jvm.Cond.initialized y.cls).before a0 Z = true) (w4 : (Jvm.Cond.code y bytes maxL none).before a0 Z = true) (hy : y.cls ≠ "java/lang/invoke/MethodHandle" ∧ y.cls ≠ "java/lang/invoke/VarHandle") (hpd : parseMethodDescriptor y.desc = some ⟨ps, none⟩) (eT : T.heap = h) (hsize : Ls.size = c.maxLocals) {stk : List Value} (has : as' = (.ref a :: argsL).toArray) (hln : argsL.length = ps.length) (hst : stk = argsL.reverse ++ .ref a :: st) (hd : decode c.code pc = .ok (.invokespecial index, 3)) (hp : pc + 3 = pc') (W : Nat) (hW : 2 * 0 + (st.map fun v => v.category).sum ≤ W) (hf : Rm.frames + 1 ≤ R.frames) (hl : W + (maxL + 11) + Rm.locals ≤ R.locals) (hc : cells + Rm.cells ≤ R.cells) (hs : slots + Rm.slots ≤ R.slots) (K : ∀ T' v L, Stand p l e R s m args below meth c T' (locs ++ L) (cells + Rm.cells) (slots + Rm.slots) → Q v T'.heap L → Dn p e below P (T'.setTop (mkF m pc' Ls (v.toList ++ st)))) : Dn p e below P (T.setTop (mkF m pc Ls stk)) := by
  subst hp has hst
  obtain ⟨v, vm₁, ⟨T', L', k', n'⟩, -, X', ⟨L, hQ, l1, y1, z1⟩, st'⟩ := X.specialBack hx (y := y) hy1 hown (mvT hZ w1) (mvT hZ w2) (mvT hZ w4) hy (backOf (W := W) C hZ w4 w3 hf hl) (g := mkF m pc Ls (argsL.reverse ++ .ref a :: st)) rfl hsize (Steps.refl _) (a := a) (argsL := argsL) (rest := st) (lenOf hpd hln) rfl hW hd (fun _ _ => ⟨rfl, eT, hc, hs⟩)
  dsimp only [Pt.U, Pt.locs, Pt.cells, Pt.slots] at X' l1 y1 z1 st' hQ
  subst l1 y1 z1
  exact goS st' (K T' v L X' hQ)
theorem o_callV (X : Stand p l e R s m args below meth c T locs cells slots) (hx : p.tables.exec = Jvm.exec) (hZ : Z.Warmed39 s.vm) {own Cc : String} {index : Nat} {y : MethodName} {bytes : ByteArray} {maxL : Nat} {ret : Option FieldType} {Rm : Room} {Q : Option Value → Heap → List Loc → Prop} {ps : List FieldType} (a : Addr) (argsL : List Value) {as' : Array Value} (C : Ctr l Z y bytes maxL ret [] Rm as' h Q) (hown : s.vm.findClass own = some m.cls) (w1 : (Jvm.Cond.methodLink own index y).before a0 Z = true) (w5 : (Jvm.Cond.declares y).before a0 Z = true) (w6 : (Jvm.Cond.selects Cc y y).before a0 Z = true) (w2 : (Jvm.Cond.instanceMethod y).before a0 Z = true) (w3 : (Jvm.Cond.initialized y.cls).before a0 Z = true) (w4 : (Jvm.Cond.code y bytes maxL ret).before a0 Z = true) (hy : y.cls ≠ "java/lang/invoke/MethodHandle" ∧ y.cls ≠ "java/lang/invoke/VarHandle") (E : Exa Z h a Cc) (hpd : parseMethodDescriptor y.desc = some ⟨ps, ret⟩) (eT : T.heap = h) (hsize : Ls.size = c.maxLocals) {stk : List Value} (has : as' = (.ref a :: argsL).toArray) (hln : argsL.length = ps.length) (hst : stk = argsL.reverse ++ .ref a :: st) (hd : decode c.code pc = .ok (.invokevirtual index, 3)) (hp : pc + 3 = pc') (W : Nat) (hW : 2 * 0 + (st.map fun v => v.category).sum ≤ W) (hf : Rm.frames + 1 ≤ R.frames) (hl : W + (maxL + 11) + Rm.locals ≤ R.locals) (hc : cells + Rm.cells ≤ R.cells) (hs : slots + Rm.slots ≤ R.slots) (K : ∀ T' v L, Stand p l e R s m args below meth c T' (locs ++ L) (cells + Rm.cells) (slots + Rm.slots) → Q v T'.heap L → Dn p e below P (T'.setTop (mkF m pc' Ls (v.toList ++ st)))) : Dn p e below P (T.setTop (mkF m pc Ls stk)) := by
  subst hp has hst
  obtain ⟨cq, kq, qa, qb, qc⟩ := isOf (T := T) hZ eT E
  obtain ⟨v, vm₁, ⟨T', L', k', n'⟩, -, X', ⟨L, hQ, l1, y1, z1⟩, st'⟩ := X.virtualBack hx (y := y) (z := y) hown (mvT hZ w1) (mvT hZ w5) (notFace_of_selects (args := #[]) (mvT hZ w6)) (mvT hZ w6) (mvT hZ w2) hy (backOf (W := W) C hZ w4 w3 hf hl) qa qc (g := mkF m pc Ls (argsL.reverse ++ .ref a :: st)) rfl hsize (Steps.refl _) (argsL := argsL) (rest := st) (lenOf hpd hln) rfl hW hd (fun _ _ => ⟨rfl, eT, hc, hs⟩)
  dsimp only [Pt.U, Pt.locs, Pt.cells, Pt.slots] at X' l1 y1 z1 st' hQ
  subst l1 y1 z1
  exact goS st' (K T' v L X' hQ)
theorem o_callP (X : Stand p l e R s m args below meth c T locs cells slots) (hx : p.tables.exec = Jvm.exec) (hZ : Z.Warmed39 s.vm) {own : String} {index : Nat} {y : MethodName} {bytes : ByteArray} {maxL : Nat} {ret : Option FieldType} {Rm : Room} {Q : Option Value → Heap → List Loc → Prop} {ps : List FieldType} (a : Addr) (argsL : List Value) {as' : Array Value} (C : Ctr l Z y bytes maxL ret [] Rm as' h Q) (hown : s.vm.findClass own = some m.cls) (w1 : (Jvm.Cond.methodLink own index y).before a0 Z = true) {kk : Nat} (w6 : (Jvm.Cond.instantiable y.cls kk).before a0 Z = true) (w7 : (Jvm.Cond.privateMethod y).before a0 Z = true) (w2 : (Jvm.Cond.instanceMethod y).before a0 Z = true) (w3 : (Jvm.Cond.initialized y.cls).before a0 Z = true) (w4 : (Jvm.Cond.code y bytes maxL ret).before a0 Z = true) (hy : y.cls ≠ "java/lang/invoke/MethodHandle" ∧ y.cls ≠ "java/lang/invoke/VarHandle") {Cc : String} (E : Exa Z h a Cc) (hpd : parseMethodDescriptor y.desc = some ⟨ps, ret⟩) (eT : T.heap = h) (hsize : Ls.size = c.maxLocals) {stk : List Value} (has : as' = (.ref a :: argsL).toArray) (hln : argsL.length = ps.length) (hst : stk = argsL.reverse ++ .ref a :: st) (hd : decode c.code pc = .ok (.invokevirtual index, 3)) (hp : pc + 3 = pc') (W : Nat) (hW : 2 * 0 + (st.map fun v => v.category).sum ≤ W) (hf : Rm.frames + 1 ≤ R.frames) (hl : W + (maxL + 11) + Rm.locals ≤ R.locals) (hc : cells + Rm.cells ≤ R.cells) (hs : slots + Rm.slots ≤ R.slots) (K : ∀ T' v L, Stand p l e R s m args below meth c T' (locs ++ L) (cells + Rm.cells) (slots + Rm.slots) → Q v T'.heap L → Dn p e below P (T'.setTop (mkF m pc' Ls (v.toList ++ st)))) : Dn p e below P (T.setTop (mkF m pc Ls stk)) := by
  subst hp has hst
  obtain ⟨cq, q1, q2⟩ := E.cell
  obtain ⟨cc, kc, hcc, hkc, -, hni, -, -⟩ := Jvm.Cond.instantiable_spec (mvT (args := args) hZ w6)
  have hpv := Jvm.Cond.privateMethod_at (mvP hZ w7 (args := #[]))
  have hsel := selects_self_of_private (args := args) hcc hkc (Bool.or_eq_false_iff.mp hni).1 hpv (mvT hZ w2) hy
  obtain ⟨v, vm₁, ⟨T', L', k', n'⟩, -, X', ⟨L, hQ, l1, y1, z1⟩, st'⟩ := X.privateBack hx (y := y) hown (mvT hZ w1) (mvT hZ w2) hsel hpv (mvT hZ w4) hy (backOf (W := W) C hZ w4 w3 hf hl) (g := mkF m pc Ls (argsL.reverse ++ .ref a :: st)) rfl hsize (Steps.refl _) (a := a) (by rw [eT]; exact q1) q2 (argsL := argsL) (rest := st) (lenOf hpd hln) rfl hW hd (fun _ _ => ⟨rfl, eT, hc, hs⟩)
  dsimp only [Pt.U, Pt.locs, Pt.cells, Pt.slots] at X' l1 y1 z1 st' hQ
  subst l1 y1 z1
  exact goS st' (K T' v L X' hQ)
abbrev Pure (v0 : Value) (h0 : Heap) : Option Value → Heap → List Loc → Prop := fun v h L => v = some v0 ∧ L = [] ∧ h = h0
theorem o_callSP (X : Stand p l e R s m args below meth c T locs cells slots) (hx : p.tables.exec = Jvm.exec) (hZ : Z.Warmed39 s.vm) {own : String} {index : Nat} {y : MethodName} {bytes : ByteArray} {maxL : Nat} {ret : Option FieldType} {Rm : Room} {v0 : Value} {ps : List FieldType} (argsL : List Value) {as' : Array Value} (C : Ctr l Z y bytes maxL ret [] Rm as' h (Pure v0 h)) (hown : s.vm.findClass own = some m.cls) (w1 : (Jvm.Cond.methodLink own index y).before a0 Z = true) (w2 : (Jvm.Cond.static y).before a0 Z = true) (w3 : (Jvm.Cond.initialized y.cls).before a0 Z = true) (w4 : (Jvm.Cond.code y bytes maxL ret).before a0 Z = true) (hy : y.cls ≠ "java/lang/invoke/MethodHandle" ∧ y.cls ≠ "java/lang/invoke/VarHandle") (hpd : parseMethodDescriptor y.desc = some ⟨ps, ret⟩) (eT : T.heap = h) (hsize : Ls.size = c.maxLocals) {stk : List Value} (has : as' = argsL.toArray) (hln : argsL.length = ps.length) (hst : stk = argsL.reverse ++ st) (hd : decode c.code pc = .ok (.invokestatic index, 3)) (hp : pc + 3 = pc') (W : Nat) (hW : 2 * 0 + (st.map fun v => v.category).sum ≤ W) (hf : Rm.frames + 1 ≤ R.frames) (hl : W + (maxL + 11) + Rm.locals ≤ R.locals) (hc0 : Rm.cells = 0) (hs0 : Rm.slots = 0) (hc : cells ≤ R.cells) (hs : slots ≤ R.slots) (K : ∀ T', Stand p l e R s m args below meth c T' locs cells slots → T'.heap = h → Dn p e below P (T'.setTop (mkF m pc' Ls (v0 :: st)))) : Dn p e below P (T.setTop (mkF m pc Ls stk)) := by
  refine o_callS X hx hZ argsL C hown w1 w2 w3 w4 hy hpd eT hsize has hln hst hd hp W hW hf hl (by rw [hc0]; exact hc) (by rw [hs0]; exact hs) ?_
  intro T' v L X' hQ
  obtain ⟨rfl, rfl, e'⟩ := hQ
  rw [List.append_nil, hc0, hs0] at X'
  exact K T' X' e'
theorem o_callVP (X : Stand p l e R s m args below meth c T locs cells slots) (hx : p.tables.exec = Jvm.exec) (hZ : Z.Warmed39 s.vm) {own Cc : String} {index : Nat} {y : MethodName} {bytes : ByteArray} {maxL : Nat} {ret : Option FieldType} {Rm : Room} {v0 : Value} {ps : List FieldType} (a : Addr) (argsL : List Value) {as' : Array Value} (C : Ctr l Z y bytes maxL ret [] Rm as' h (Pure v0 h)) (hown : s.vm.findClass own = some m.cls) (w1 : (Jvm.Cond.methodLink own index y).before a0 Z = true) (w5 : (Jvm.Cond.declares y).before a0 Z = true) (w6 : (Jvm.Cond.selects Cc y y).before a0 Z = true) (w2 : (Jvm.Cond.instanceMethod y).before a0 Z = true) (w3 : (Jvm.Cond.initialized y.cls).before a0 Z = true) (w4 : (Jvm.Cond.code y bytes maxL ret).before a0 Z = true) (hy : y.cls ≠ "java/lang/invoke/MethodHandle" ∧ y.cls ≠ "java/lang/invoke/VarHandle") (E : Exa Z h a Cc) (hpd : parseMethodDescriptor y.desc = some ⟨ps, ret⟩) (eT : T.heap = h) (hsize : Ls.size = c.maxLocals) {stk : List Value} (has : as' = (.ref a :: argsL).toArray) (hln : argsL.length = ps.length) (hst : stk = argsL.reverse ++ .ref a :: st) (hd : decode c.code pc = .ok (.invokevirtual index, 3)) (hp : pc + 3 = pc') (W : Nat) (hW : 2 * 0 + (st.map fun v => v.category).sum ≤ W) (hf : Rm.frames + 1 ≤ R.frames) (hl : W + (maxL + 11) + Rm.locals ≤ R.locals) (hc0 : Rm.cells = 0) (hs0 : Rm.slots = 0) (hc : cells ≤ R.cells) (hs : slots ≤ R.slots) (K : ∀ T', Stand p l e R s m args below meth c T' locs cells slots → T'.heap = h → Dn p e below P (T'.setTop (mkF m pc' Ls (v0 :: st)))) : Dn p e below P (T.setTop (mkF m pc Ls stk)) := by
  refine o_callV X hx hZ a argsL C hown w1 w5 w6 w2 w3 w4 hy E hpd eT hsize has hln hst hd hp W hW hf hl (by rw [hc0]; exact hc) (by rw [hs0]; exact hs) ?_
  intro T' v L X' hQ
  obtain ⟨rfl, rfl, e'⟩ := hQ
  rw [List.append_nil, hc0, hs0] at X'
  exact K T' X' e'
theorem o_callPP (X : Stand p l e R s m args below meth c T locs cells slots) (hx : p.tables.exec = Jvm.exec) (hZ : Z.Warmed39 s.vm) {own : String} {index : Nat} {y : MethodName} {bytes : ByteArray} {maxL : Nat} {ret : Option FieldType} {Rm : Room} {v0 : Value} {ps : List FieldType} (a : Addr) (argsL : List Value) {as' : Array Value} (C : Ctr l Z y bytes maxL ret [] Rm as' h (Pure v0 h)) (hown : s.vm.findClass own = some m.cls) (w1 : (Jvm.Cond.methodLink own index y).before a0 Z = true) {kk : Nat} (w6 : (Jvm.Cond.instantiable y.cls kk).before a0 Z = true) (w7 : (Jvm.Cond.privateMethod y).before a0 Z = true) (w2 : (Jvm.Cond.instanceMethod y).before a0 Z = true) (w3 : (Jvm.Cond.initialized y.cls).before a0 Z = true) (w4 : (Jvm.Cond.code y bytes maxL ret).before a0 Z = true) (hy : y.cls ≠ "java/lang/invoke/MethodHandle" ∧ y.cls ≠ "java/lang/invoke/VarHandle") {Cc : String} (E : Exa Z h a Cc) (hpd : parseMethodDescriptor y.desc = some ⟨ps, ret⟩) (eT : T.heap = h) (hsize : Ls.size = c.maxLocals) {stk : List Value} (has : as' = (.ref a :: argsL).toArray) (hln : argsL.length = ps.length) (hst : stk = argsL.reverse ++ .ref a :: st) (hd : decode c.code pc = .ok (.invokevirtual index, 3)) (hp : pc + 3 = pc') (W : Nat) (hW : 2 * 0 + (st.map fun v => v.category).sum ≤ W) (hf : Rm.frames + 1 ≤ R.frames) (hl : W + (maxL + 11) + Rm.locals ≤ R.locals) (hc0 : Rm.cells = 0) (hs0 : Rm.slots = 0) (hc : cells ≤ R.cells) (hs : slots ≤ R.slots) (K : ∀ T', Stand p l e R s m args below meth c T' locs cells slots → T'.heap = h → Dn p e below P (T'.setTop (mkF m pc' Ls (v0 :: st)))) : Dn p e below P (T.setTop (mkF m pc Ls stk)) := by
  refine o_callP X hx hZ a argsL C hown w1 w6 w7 w2 w3 w4 hy E hpd eT hsize has hln hst hd hp W hW hf hl (by rw [hc0]; exact hc) (by rw [hs0]; exact hs) ?_
  intro T' v L X' hQ
  obtain ⟨rfl, rfl, e'⟩ := hQ
  rw [List.append_nil, hc0, hs0] at X'
  exact K T' X' e'
end Own
theorem d1_0 : decode prog_122_method_26_code 0 = .ok (.iload_n 2, 1) := by decide +kernel
theorem d1_1 : decode prog_122_method_26_code 1 = .ok (.ifCond .eq 11, 3) := by decide +kernel
theorem d1_4 : decode prog_122_method_26_code 4 = .ok (.iload_n 0, 1) := by decide +kernel
theorem d1_5 : decode prog_122_method_26_code 5 = .ok (.iload_n 1, 1) := by decide +kernel
theorem d1_6 : decode prog_122_method_26_code 6 = .ok (.ishl, 1) := by decide +kernel
theorem d1_7 : decode prog_122_method_26_code 7 = .ok (.iload_n 1, 1) := by decide +kernel
theorem d1_8 : decode prog_122_method_26_code 8 = .ok (.ishr, 1) := by decide +kernel
theorem d1_9 : decode prog_122_method_26_code 9 = .ok (.goto 8, 3) := by decide +kernel
theorem d1_12 : decode prog_122_method_26_code 12 = .ok (.iload_n 0, 1) := by decide +kernel
theorem d1_13 : decode prog_122_method_26_code 13 = .ok (.iload_n 1, 1) := by decide +kernel
theorem d1_14 : decode prog_122_method_26_code 14 = .ok (.ishl, 1) := by decide +kernel
theorem d1_15 : decode prog_122_method_26_code 15 = .ok (.iload_n 1, 1) := by decide +kernel
theorem d1_16 : decode prog_122_method_26_code 16 = .ok (.iushr, 1) := by decide +kernel
theorem d1_17 : decode prog_122_method_26_code 17 = .ok (.ireturn, 1) := by decide +kernel
theorem pn_1 : plainFor (⟨"com/example/quillon/quillon/interpreter/Arithmetic", "wrap", "(IIZ)I"⟩ : MethodName) = true := plainFor_of_name (by show plainName "com/example/quillon/quillon/interpreter/Arithmetic" = true; first | (simp [plainName, overriddenIn]; done) | decide +kernel)
theorem ef_1 (m : MethodId) (p1 : Int32) (p2 : Int32) (p3 : Int32) : entryFrame m #[(.int p1), (.int p2), (.int p3)] 3 = mkF m 0 #[.val (.int p1), .val (.int p2), .val (.int p3)] [] := by first | (simp [entryFrame, mkF, argsToLocals, Value.category]; done) | rfl
def F1 (p1 : Int32) (p2 : Int32) (p3 : Int32) : Int32 := 
  if p3 = (0 : Int32) then (((p1 <<< (p2 &&& 31)).toUInt32 >>> (p2 &&& 31).toUInt32).toInt32)
  else ((p1 <<< (p2 &&& 31)) >>> (p2 &&& 31))
set_option maxRecDepth 65536 in
set_option maxHeartbeats 40000000 in
theorem rm1 (l : Launch) (Z : State) (a0 : Array Value) (hw : ∀ d ∈ tables_1, d.before a0 Z = true) (h0 : Heap) (p1 : Int32) (p2 : Int32) (p3 : Int32) : Ctr l Z (⟨"com/example/quillon/quillon/interpreter/Arithmetic", "wrap", "(IIZ)I"⟩ : MethodName) prog_122_method_26_code 3 (some .int) [] ({ frames := 0, cells := 0, slots := 0, locals := 0 } : Room) #[(.int p1), (.int p2), (.int p3)] h0 (Pure (.int (F1 p1 p2 p3)) h0) := by
  refine ctr_mk pn_1 (own := "com/example/quillon/quillon/interpreter/Arithmetic") (mn := "wrap") rfl rfl ?_
  intro p e s m below meth c T0 X0 hx hby hml hZ hown hnm hret hlk e0
  refine o_entry (ef_1 m p1 p2 p3) ?_
  refine o_iloadN X0 hx (pc' := 1) (hb hby d1_0) rfl rfl ?_
  refine o_if_eq X0 hx (pc' := 4) (pt := 12) (hb hby d1_1) rfl (by decide) (by decide) (fun hc1 => ?_) (fun hc1 => ?_)
  · skip
    refine o_iloadN X0 hx (pc' := 13) (hb hby d1_12) rfl rfl ?_
    refine o_iloadN X0 hx (pc' := 14) (hb hby d1_13) rfl rfl ?_
    refine o_ishl X0 hx (pc' := 15) (hb hby d1_14) rfl ?_
    refine o_iloadN X0 hx (pc' := 16) (hb hby d1_15) rfl rfl ?_
    refine o_iushr X0 hx (pc' := 17) (hb hby d1_16) rfl ?_
    exact finI X0 hx hlk hret (hb hby d1_17) (by decide) (by decide) ⟨by show some (Value.int _) = some (Value.int (F1 p1 p2 p3)); unfold F1; rw [if_pos hc1], rfl, e0⟩
  · skip
    refine o_iloadN X0 hx (pc' := 5) (hb hby d1_4) rfl rfl ?_
    refine o_iloadN X0 hx (pc' := 6) (hb hby d1_5) rfl rfl ?_
    refine o_ishl X0 hx (pc' := 7) (hb hby d1_6) rfl ?_
    refine o_iloadN X0 hx (pc' := 8) (hb hby d1_7) rfl rfl ?_
    refine o_ishr X0 hx (pc' := 9) (hb hby d1_8) rfl ?_
    refine o_goto X0 hx (pc' := 17) (hb hby d1_9) (by decide) (by decide) ?_
    exact finI X0 hx hlk hret (hb hby d1_17) (by decide) (by decide) ⟨by show some (Value.int _) = some (Value.int (F1 p1 p2 p3)); unfold F1; rw [if_neg hc1], rfl, e0⟩
def g0_1 (p1 : Int32) (p2 : Int32) (p3 : Int32) : Int64 := ((1 : Int64) <<< (((32 : Int32) - (p2 &&& (31 : Int32))) &&& 0x3f).toInt64)
theorem pd_0 : parseMethodDescriptor "(IIZ)I" = some ⟨[.int, .int, .boolean], some .int⟩ := by decide +kernel
def g0_2 (p1 : Int32) (p2 : Int32) (p3 : Int32) : Int64 := (((p1.toInt64) &&& ((g0_1 p1 p2 p3) - (1 : Int64))) - (g0_1 p1 p2 p3))
theorem pn_0 : plainFor x = true := plainFor_of_name (by show plainName "com/example/quillon/quillon/interpreter/ArithmeticWrapPinLaw" = true; first | (simp [plainName, overriddenIn]; done) | decide +kernel)
theorem ef_0 (m : MethodId) (p1 : Int32) (p2 : Int32) (p3 : Int32) : entryFrame m #[(.int p1), (.int p2), (.int p3)] maxLocals = mkF m 0 #[.val (.int p1), .val (.int p2), .val (.int p3), .unset, .unset, .unset, .unset, .unset, .unset, .unset, .unset, .unset, .unset, .unset, .unset] [] := by first | (simp [entryFrame, mkF, argsToLocals, Value.category, maxLocals]; done) | rfl
def F0 (p1 : Int32) (p2 : Int32) (p3 : Int32) : Int32 := 
  if (p3 &&& (1 : Int32)) = (0 : Int32) then 
    if (((F1 p1 (p2 &&& (31 : Int32)) (0 : Int32)).toInt64) &&& (4294967295 : Int64)) = ((p1.toInt64) &&& ((g0_1 p1 p2 p3) - (1 : Int64))) then (1 : Int32)
    else (0 : Int32)
  else 
    if ((p1.toInt64) &&& ((g0_1 p1 p2 p3) - (1 : Int64))) < ((g0_1 p1 p2 p3) >>> ((1 : Int32) &&& 0x3f).toInt64) then 
      if ((F1 p1 (p2 &&& (31 : Int32)) (1 : Int32)).toInt64) = ((p1.toInt64) &&& ((g0_1 p1 p2 p3) - (1 : Int64))) then (1 : Int32)
      else (0 : Int32)
    else 
      if ((F1 p1 (p2 &&& (31 : Int32)) (1 : Int32)).toInt64) = (g0_2 p1 p2 p3) then (1 : Int32)
      else (0 : Int32)
set_option maxRecDepth 65536 in
set_option maxHeartbeats 40000000 in
theorem rm0 (l : Launch) (Z : State) (a0 : Array Value) (hw : ∀ d ∈ tables_1, d.before a0 Z = true) (ws : List Jvm.Cond) (h0 : Heap) (p1 : Int32) (p2 : Int32) (p3 : Int32) : Ctr l Z x code maxLocals ret ws room_1 #[(.int p1), (.int p2), (.int p3)] h0 (Pure (.int (F0 p1 p2 p3)) h0) := by
  refine ctr_mk pn_0 (own := "com/example/quillon/quillon/interpreter/ArithmeticWrapPinLaw") (mn := "law") rfl rfl ?_
  intro p e s m below meth c T0 X0 hx hby hml hZ hown hnm hret hlk e0
  refine o_entry (ef_0 m p1 p2 p3) ?_
  refine o_iloadN X0 hx (pc' := 1) (hb hby at_0) rfl rfl ?_
  refine o_bipush X0 hx (pc' := 3) (v := (31 : Int32)) (hb hby at_1) rfl rfl ?_
  refine o_iand X0 hx (pc' := 4) (hb hby at_3) rfl ?_
  refine o_istoreN X0 hx (pc' := 5) (Ls' := #[.val (.int p1), .val (.int p2), .val (.int p3), .val (.int (p2 &&& (31 : Int32))), .unset, .unset, .unset, .unset, .unset, .unset, .unset, .unset, .unset, .unset, .unset]) (hb hby at_4) rfl rfl ?_
  refine o_iloadN X0 hx (pc' := 6) (hb hby at_5) rfl rfl ?_
  refine o_iconst X0 hx (pc' := 7) (v := (1 : Int32)) (hb hby at_6) rfl rfl ?_
  refine o_iand X0 hx (pc' := 8) (hb hby at_7) rfl ?_
  refine o_if_eq X0 hx (pc' := 11) (pt := 15) (hb hby at_8) rfl (by decide) (by decide) (fun hc8 => ?_) (fun hc8 => ?_)
  · skip
    refine o_iconst X0 hx (pc' := 16) (v := (0 : Int32)) (hb hby at_15) rfl rfl ?_
    refine o_istore X0 hx (pc' := 18) (Ls' := #[.val (.int p1), .val (.int p2), .val (.int p3), .val (.int (p2 &&& (31 : Int32))), .val (.int (0 : Int32)), .unset, .unset, .unset, .unset, .unset, .unset, .unset, .unset, .unset, .unset]) (hb hby at_16) rfl rfl ?_
    refine o_bipush X0 hx (pc' := 20) (v := (32 : Int32)) (hb hby at_18) rfl rfl ?_
    refine o_iloadN X0 hx (pc' := 21) (hb hby at_20) rfl rfl ?_
    refine o_isub X0 hx (pc' := 22) (hb hby at_21) rfl ?_
    refine o_istore X0 hx (pc' := 24) (Ls' := #[.val (.int p1), .val (.int p2), .val (.int p3), .val (.int (p2 &&& (31 : Int32))), .val (.int (0 : Int32)), .val (.int ((32 : Int32) - (p2 &&& (31 : Int32)))), .unset, .unset, .unset, .unset, .unset, .unset, .unset, .unset, .unset]) (hb hby at_22) rfl rfl ?_
    refine o_lconst X0 hx (pc' := 25) (v := (1 : Int64)) (hb hby at_24) rfl rfl ?_
    refine o_iload X0 hx (pc' := 27) (hb hby at_25) rfl rfl ?_
    refine o_lshl X0 hx (pc' := 28) (hb hby at_27) rfl ?_
    refine o_lstore X0 hx (pc' := 30) (Ls' := #[.val (.int p1), .val (.int p2), .val (.int p3), .val (.int (p2 &&& (31 : Int32))), .val (.int (0 : Int32)), .val (.int ((32 : Int32) - (p2 &&& (31 : Int32)))), .val (.long (g0_1 p1 p2 p3)), .second, .unset, .unset, .unset, .unset, .unset, .unset, .unset]) (hb hby at_28) rfl rfl ?_
    refine o_iloadN X0 hx (pc' := 31) (hb hby at_30) rfl rfl ?_
    refine o_i2l X0 hx (pc' := 32) (hb hby at_31) rfl ?_
    refine o_lload X0 hx (pc' := 34) (hb hby at_32) rfl rfl ?_
    refine o_lconst X0 hx (pc' := 35) (v := (1 : Int64)) (hb hby at_34) rfl rfl ?_
    refine o_lsub X0 hx (pc' := 36) (hb hby at_35) rfl ?_
    refine o_land X0 hx (pc' := 37) (hb hby at_36) rfl ?_
    refine o_lstore X0 hx (pc' := 39) (Ls' := #[.val (.int p1), .val (.int p2), .val (.int p3), .val (.int (p2 &&& (31 : Int32))), .val (.int (0 : Int32)), .val (.int ((32 : Int32) - (p2 &&& (31 : Int32)))), .val (.long (g0_1 p1 p2 p3)), .second, .val (.long ((p1.toInt64) &&& ((g0_1 p1 p2 p3) - (1 : Int64)))), .second, .unset, .unset, .unset, .unset, .unset]) (hb hby at_37) rfl rfl ?_
    refine o_iloadN X0 hx (pc' := 40) (hb hby at_39) rfl rfl ?_
    refine o_iloadN X0 hx (pc' := 41) (hb hby at_40) rfl rfl ?_
    refine o_iload X0 hx (pc' := 43) (hb hby at_41) rfl rfl ?_
    refine o_callSP X0 hx hZ [(.int p1), (.int (p2 &&& (31 : Int32))), (.int (0 : Int32))] (rm1 l Z a0 hw h0 p1 (p2 &&& (31 : Int32)) (0 : Int32)) hown (hw _ (List.mem_of_getElem? (i := 0) rfl)) (hw _ (List.mem_of_getElem? (i := 1) rfl)) (hw _ (List.mem_of_getElem? (i := 2) rfl)) (hw _ (List.mem_of_getElem? (i := 3) rfl)) (by decide) pd_0 e0 (by rw [hml]; rfl) rfl rfl rfl (hb hby at_43) (pc' := 46) rfl 0 (Nat.le_of_eq rfl) (by decide) (by decide) rfl rfl (by decide) (by decide) ?_
    intro T1 X1 e1
    show Dn p e below _ (T1.setTop (mkF m 46 #[.val (.int p1), .val (.int p2), .val (.int p3), .val (.int (p2 &&& (31 : Int32))), .val (.int (0 : Int32)), .val (.int ((32 : Int32) - (p2 &&& (31 : Int32)))), .val (.long (g0_1 p1 p2 p3)), .second, .val (.long ((p1.toInt64) &&& ((g0_1 p1 p2 p3) - (1 : Int64)))), .second, .unset, .unset, .unset, .unset, .unset] [(.int (F1 p1 (p2 &&& (31 : Int32)) (0 : Int32)))]))
    refine o_istore X1 hx (pc' := 48) (Ls' := #[.val (.int p1), .val (.int p2), .val (.int p3), .val (.int (p2 &&& (31 : Int32))), .val (.int (0 : Int32)), .val (.int ((32 : Int32) - (p2 &&& (31 : Int32)))), .val (.long (g0_1 p1 p2 p3)), .second, .val (.long ((p1.toInt64) &&& ((g0_1 p1 p2 p3) - (1 : Int64)))), .second, .val (.int (F1 p1 (p2 &&& (31 : Int32)) (0 : Int32))), .unset, .unset, .unset, .unset]) (hb hby at_46) rfl rfl ?_
    refine o_iload X1 hx (pc' := 50) (hb hby at_48) rfl rfl ?_
    refine o_if_eq X1 hx (pc' := 53) (pt := 94) (hb hby at_50) rfl (by decide) (by decide) (fun _ => ?_) (fun q => absurd q (by decide))
    refine o_iload X1 hx (pc' := 96) (hb hby at_94) rfl rfl ?_
    refine o_i2l X1 hx (pc' := 97) (hb hby at_96) rfl ?_
    refine o_ldc2 X1 hx hZ hown (hw _ (List.mem_of_getElem? (i := 4) rfl)) (pc' := 100) (hb hby at_97) rfl ?_
    refine o_land X1 hx (pc' := 101) (hb hby at_100) rfl ?_
    refine o_lload X1 hx (pc' := 103) (hb hby at_101) rfl rfl ?_
    refine o_lcmp X1 hx (pc' := 104) (hb hby at_103) rfl ?_
    refine o_lif_ne X1 hx (pc' := 107) (pt := 111) (hb hby at_104) rfl (by decide) (by decide) (fun hc104 => ?_) (fun hc104 => ?_)
    · skip
      refine o_iconst X1 hx (pc' := 112) (v := (0 : Int32)) (hb hby at_111) rfl rfl ?_
      exact finN X1 hx hlk (t := .boolean) hret (by simp) (hb hby at_112) (by decide) (by decide) ⟨by show some (Value.int _) = some (Value.int (F0 p1 p2 p3)); unfold F0; rw [if_pos hc8, if_neg hc104]; rfl, rfl, e1⟩
    · skip
      refine o_iconst X1 hx (pc' := 108) (v := (1 : Int32)) (hb hby at_107) rfl rfl ?_
      refine o_goto X1 hx (pc' := 112) (hb hby at_108) (by decide) (by decide) ?_
      exact finN X1 hx hlk (t := .boolean) hret (by simp) (hb hby at_112) (by decide) (by decide) ⟨by show some (Value.int _) = some (Value.int (F0 p1 p2 p3)); unfold F0; rw [if_pos hc8, if_pos hc104]; rfl, rfl, e1⟩
  · skip
    refine o_iconst X0 hx (pc' := 12) (v := (1 : Int32)) (hb hby at_11) rfl rfl ?_
    refine o_goto X0 hx (pc' := 16) (hb hby at_12) (by decide) (by decide) ?_
    refine o_istore X0 hx (pc' := 18) (Ls' := #[.val (.int p1), .val (.int p2), .val (.int p3), .val (.int (p2 &&& (31 : Int32))), .val (.int (1 : Int32)), .unset, .unset, .unset, .unset, .unset, .unset, .unset, .unset, .unset, .unset]) (hb hby at_16) rfl rfl ?_
    refine o_bipush X0 hx (pc' := 20) (v := (32 : Int32)) (hb hby at_18) rfl rfl ?_
    refine o_iloadN X0 hx (pc' := 21) (hb hby at_20) rfl rfl ?_
    refine o_isub X0 hx (pc' := 22) (hb hby at_21) rfl ?_
    refine o_istore X0 hx (pc' := 24) (Ls' := #[.val (.int p1), .val (.int p2), .val (.int p3), .val (.int (p2 &&& (31 : Int32))), .val (.int (1 : Int32)), .val (.int ((32 : Int32) - (p2 &&& (31 : Int32)))), .unset, .unset, .unset, .unset, .unset, .unset, .unset, .unset, .unset]) (hb hby at_22) rfl rfl ?_
    refine o_lconst X0 hx (pc' := 25) (v := (1 : Int64)) (hb hby at_24) rfl rfl ?_
    refine o_iload X0 hx (pc' := 27) (hb hby at_25) rfl rfl ?_
    refine o_lshl X0 hx (pc' := 28) (hb hby at_27) rfl ?_
    refine o_lstore X0 hx (pc' := 30) (Ls' := #[.val (.int p1), .val (.int p2), .val (.int p3), .val (.int (p2 &&& (31 : Int32))), .val (.int (1 : Int32)), .val (.int ((32 : Int32) - (p2 &&& (31 : Int32)))), .val (.long (g0_1 p1 p2 p3)), .second, .unset, .unset, .unset, .unset, .unset, .unset, .unset]) (hb hby at_28) rfl rfl ?_
    refine o_iloadN X0 hx (pc' := 31) (hb hby at_30) rfl rfl ?_
    refine o_i2l X0 hx (pc' := 32) (hb hby at_31) rfl ?_
    refine o_lload X0 hx (pc' := 34) (hb hby at_32) rfl rfl ?_
    refine o_lconst X0 hx (pc' := 35) (v := (1 : Int64)) (hb hby at_34) rfl rfl ?_
    refine o_lsub X0 hx (pc' := 36) (hb hby at_35) rfl ?_
    refine o_land X0 hx (pc' := 37) (hb hby at_36) rfl ?_
    refine o_lstore X0 hx (pc' := 39) (Ls' := #[.val (.int p1), .val (.int p2), .val (.int p3), .val (.int (p2 &&& (31 : Int32))), .val (.int (1 : Int32)), .val (.int ((32 : Int32) - (p2 &&& (31 : Int32)))), .val (.long (g0_1 p1 p2 p3)), .second, .val (.long ((p1.toInt64) &&& ((g0_1 p1 p2 p3) - (1 : Int64)))), .second, .unset, .unset, .unset, .unset, .unset]) (hb hby at_37) rfl rfl ?_
    refine o_iloadN X0 hx (pc' := 40) (hb hby at_39) rfl rfl ?_
    refine o_iloadN X0 hx (pc' := 41) (hb hby at_40) rfl rfl ?_
    refine o_iload X0 hx (pc' := 43) (hb hby at_41) rfl rfl ?_
    refine o_callSP X0 hx hZ [(.int p1), (.int (p2 &&& (31 : Int32))), (.int (1 : Int32))] (rm1 l Z a0 hw h0 p1 (p2 &&& (31 : Int32)) (1 : Int32)) hown (hw _ (List.mem_of_getElem? (i := 0) rfl)) (hw _ (List.mem_of_getElem? (i := 1) rfl)) (hw _ (List.mem_of_getElem? (i := 2) rfl)) (hw _ (List.mem_of_getElem? (i := 3) rfl)) (by decide) pd_0 e0 (by rw [hml]; rfl) rfl rfl rfl (hb hby at_43) (pc' := 46) rfl 0 (Nat.le_of_eq rfl) (by decide) (by decide) rfl rfl (by decide) (by decide) ?_
    intro T2 X2 e2
    show Dn p e below _ (T2.setTop (mkF m 46 #[.val (.int p1), .val (.int p2), .val (.int p3), .val (.int (p2 &&& (31 : Int32))), .val (.int (1 : Int32)), .val (.int ((32 : Int32) - (p2 &&& (31 : Int32)))), .val (.long (g0_1 p1 p2 p3)), .second, .val (.long ((p1.toInt64) &&& ((g0_1 p1 p2 p3) - (1 : Int64)))), .second, .unset, .unset, .unset, .unset, .unset] [(.int (F1 p1 (p2 &&& (31 : Int32)) (1 : Int32)))]))
    refine o_istore X2 hx (pc' := 48) (Ls' := #[.val (.int p1), .val (.int p2), .val (.int p3), .val (.int (p2 &&& (31 : Int32))), .val (.int (1 : Int32)), .val (.int ((32 : Int32) - (p2 &&& (31 : Int32)))), .val (.long (g0_1 p1 p2 p3)), .second, .val (.long ((p1.toInt64) &&& ((g0_1 p1 p2 p3) - (1 : Int64)))), .second, .val (.int (F1 p1 (p2 &&& (31 : Int32)) (1 : Int32))), .unset, .unset, .unset, .unset]) (hb hby at_46) rfl rfl ?_
    refine o_iload X2 hx (pc' := 50) (hb hby at_48) rfl rfl ?_
    refine o_if_eq X2 hx (pc' := 53) (pt := 94) (hb hby at_50) rfl (by decide) (by decide) (fun q => absurd q (by decide)) (fun _ => ?_)
    refine o_lload X2 hx (pc' := 55) (hb hby at_53) rfl rfl ?_
    refine o_iconst X2 hx (pc' := 56) (v := (1 : Int32)) (hb hby at_55) rfl rfl ?_
    refine o_lshr X2 hx (pc' := 57) (hb hby at_56) rfl ?_
    refine o_lstore X2 hx (pc' := 59) (Ls' := #[.val (.int p1), .val (.int p2), .val (.int p3), .val (.int (p2 &&& (31 : Int32))), .val (.int (1 : Int32)), .val (.int ((32 : Int32) - (p2 &&& (31 : Int32)))), .val (.long (g0_1 p1 p2 p3)), .second, .val (.long ((p1.toInt64) &&& ((g0_1 p1 p2 p3) - (1 : Int64)))), .second, .val (.int (F1 p1 (p2 &&& (31 : Int32)) (1 : Int32))), .val (.long ((g0_1 p1 p2 p3) >>> ((1 : Int32) &&& 0x3f).toInt64)), .second, .unset, .unset]) (hb hby at_57) rfl rfl ?_
    refine o_lload X2 hx (pc' := 61) (hb hby at_59) rfl rfl ?_
    refine o_lload X2 hx (pc' := 63) (hb hby at_61) rfl rfl ?_
    refine o_lcmp X2 hx (pc' := 64) (hb hby at_63) rfl ?_
    refine o_lif_lt X2 hx (pc' := 67) (pt := 75) (hb hby at_64) rfl (by decide) (by decide) (fun hc64 => ?_) (fun hc64 => ?_)
    · skip
      refine o_lload X2 hx (pc' := 77) (hb hby at_75) rfl rfl ?_
      refine o_lstore X2 hx (pc' := 79) (Ls' := #[.val (.int p1), .val (.int p2), .val (.int p3), .val (.int (p2 &&& (31 : Int32))), .val (.int (1 : Int32)), .val (.int ((32 : Int32) - (p2 &&& (31 : Int32)))), .val (.long (g0_1 p1 p2 p3)), .second, .val (.long ((p1.toInt64) &&& ((g0_1 p1 p2 p3) - (1 : Int64)))), .second, .val (.int (F1 p1 (p2 &&& (31 : Int32)) (1 : Int32))), .val (.long ((g0_1 p1 p2 p3) >>> ((1 : Int32) &&& 0x3f).toInt64)), .second, .val (.long ((p1.toInt64) &&& ((g0_1 p1 p2 p3) - (1 : Int64)))), .second]) (hb hby at_77) rfl rfl ?_
      refine o_iload X2 hx (pc' := 81) (hb hby at_79) rfl rfl ?_
      refine o_i2l X2 hx (pc' := 82) (hb hby at_81) rfl ?_
      refine o_lload X2 hx (pc' := 84) (hb hby at_82) rfl rfl ?_
      refine o_lcmp X2 hx (pc' := 85) (hb hby at_84) rfl ?_
      refine o_lif_ne X2 hx (pc' := 88) (pt := 92) (hb hby at_85) rfl (by decide) (by decide) (fun hc85 => ?_) (fun hc85 => ?_)
      · skip
        refine o_iconst X2 hx (pc' := 93) (v := (0 : Int32)) (hb hby at_92) rfl rfl ?_
        exact finN X2 hx hlk (t := .boolean) hret (by simp) (hb hby at_93) (by decide) (by decide) ⟨by show some (Value.int _) = some (Value.int (F0 p1 p2 p3)); unfold F0; rw [if_neg hc8, if_pos hc64, if_neg hc85]; rfl, rfl, e2⟩
      · skip
        refine o_iconst X2 hx (pc' := 89) (v := (1 : Int32)) (hb hby at_88) rfl rfl ?_
        refine o_goto X2 hx (pc' := 93) (hb hby at_89) (by decide) (by decide) ?_
        exact finN X2 hx hlk (t := .boolean) hret (by simp) (hb hby at_93) (by decide) (by decide) ⟨by show some (Value.int _) = some (Value.int (F0 p1 p2 p3)); unfold F0; rw [if_neg hc8, if_pos hc64, if_pos hc85]; rfl, rfl, e2⟩
    · skip
      refine o_lload X2 hx (pc' := 69) (hb hby at_67) rfl rfl ?_
      refine o_lload X2 hx (pc' := 71) (hb hby at_69) rfl rfl ?_
      refine o_lsub X2 hx (pc' := 72) (hb hby at_71) rfl ?_
      refine o_goto X2 hx (pc' := 77) (hb hby at_72) (by decide) (by decide) ?_
      refine o_lstore X2 hx (pc' := 79) (Ls' := #[.val (.int p1), .val (.int p2), .val (.int p3), .val (.int (p2 &&& (31 : Int32))), .val (.int (1 : Int32)), .val (.int ((32 : Int32) - (p2 &&& (31 : Int32)))), .val (.long (g0_1 p1 p2 p3)), .second, .val (.long ((p1.toInt64) &&& ((g0_1 p1 p2 p3) - (1 : Int64)))), .second, .val (.int (F1 p1 (p2 &&& (31 : Int32)) (1 : Int32))), .val (.long ((g0_1 p1 p2 p3) >>> ((1 : Int32) &&& 0x3f).toInt64)), .second, .val (.long (g0_2 p1 p2 p3)), .second]) (hb hby at_77) rfl rfl ?_
      refine o_iload X2 hx (pc' := 81) (hb hby at_79) rfl rfl ?_
      refine o_i2l X2 hx (pc' := 82) (hb hby at_81) rfl ?_
      refine o_lload X2 hx (pc' := 84) (hb hby at_82) rfl rfl ?_
      refine o_lcmp X2 hx (pc' := 85) (hb hby at_84) rfl ?_
      refine o_lif_ne X2 hx (pc' := 88) (pt := 92) (hb hby at_85) rfl (by decide) (by decide) (fun hc85 => ?_) (fun hc85 => ?_)
      · skip
        refine o_iconst X2 hx (pc' := 93) (v := (0 : Int32)) (hb hby at_92) rfl rfl ?_
        exact finN X2 hx hlk (t := .boolean) hret (by simp) (hb hby at_93) (by decide) (by decide) ⟨by show some (Value.int _) = some (Value.int (F0 p1 p2 p3)); unfold F0; rw [if_neg hc8, if_neg hc64, if_neg hc85]; rfl, rfl, e2⟩
      · skip
        refine o_iconst X2 hx (pc' := 89) (v := (1 : Int32)) (hb hby at_88) rfl rfl ?_
        refine o_goto X2 hx (pc' := 93) (hb hby at_89) (by decide) (by decide) ?_
        exact finN X2 hx hlk (t := .boolean) hret (by simp) (hb hby at_93) (by decide) (by decide) ⟨by show some (Value.int _) = some (Value.int (F0 p1 p2 p3)); unfold F0; rw [if_neg hc8, if_neg hc64, if_pos hc85]; rfl, rfl, e2⟩
theorem own_u (x : Int32) : ∃ i : Nat, i < 32 ∧ x &&& 31 = Int32.ofNat i := by
  have e := c_mask x 31 5 (by decide) (by decide)
  have r := c_and x 31 (by decide)
  refine ⟨(x &&& 31).toInt.toNat, by omega, ?_⟩
  apply Int32.toInt_inj.mp
  rw [Int32.toInt_ofNat_of_lt (by omega)]
  omega
theorem own_s0 (p1 : Int32) : ((p1 <<< ((0 : Int32) &&& 31)) >>> ((0 : Int32) &&& 31)).toInt64 = if p1.toInt64 &&& ((4294967296 : Int64) - 1) < (4294967296 : Int64) >>> ((1 : Int32) &&& 0x3f).toInt64 then p1.toInt64 &&& ((4294967296 : Int64) - 1) else (p1.toInt64 &&& ((4294967296 : Int64) - 1)) - 4294967296 := by
  have e1 := c_ishl p1 0 0 (by decide)
  have e2 := c_ishr (p1 <<< ((0 : Int32) &&& 31)) 0 0 (by decide)
  have e3 := c_maskL p1.toInt64 ((4294967296 : Int64) - 1) 32 (by decide) (by decide)
  have e4 := c_i2l p1
  have e5 := c_i2l ((p1 <<< ((0 : Int32) &&& 31)) >>> ((0 : Int32) &&& 31))
  have r1 := rng32 p1
  have r2 := rng32 (p1 <<< ((0 : Int32) &&& 31))
  have e6 : ((4294967296 : Int64) >>> ((1 : Int32) &&& 0x3f).toInt64) = (2147483648 : Int64) := by decide +kernel
  have e7 := c_lsub (p1.toInt64 &&& ((4294967296 : Int64) - 1)) (4294967296 : Int64)
  have r7 := rng64 ((p1.toInt64 &&& ((4294967296 : Int64) - 1)) - (4294967296 : Int64))
  have e8 : (4294967296 : Int64).toInt = 4294967296 := by decide +kernel
  have e9 : (2147483648 : Int64).toInt = 2147483648 := by decide +kernel
  rw [e6]
  rw [e8] at e7
  apply Int64.toInt_inj.mp
  rw [e5, e2]
  by_cases q : p1.toInt64 &&& ((4294967296 : Int64) - 1) < (2147483648 : Int64)
  · rw [if_pos q, e3, e4]
    rw [Int64.lt_iff_toInt_lt, e3, e4, e9] at q
    omega
  · rw [if_neg q]
    rw [Int64.lt_iff_toInt_lt, e3, e4, e9] at q
    omega
theorem own_n0 (p1 : Int32) : (((p1 <<< ((0 : Int32) &&& 31)).toUInt32 >>> ((0 : Int32) &&& 31).toUInt32).toInt32).toInt64 &&& (4294967295 : Int64) = p1.toInt64 &&& ((4294967296 : Int64) - 1) := by
  have e1 := c_ishl p1 0 0 (by decide)
  have z0 : ((0 : Int32) &&& 31).toUInt32 = (0 : UInt32) := by decide +kernel
  have e2 : ((p1 <<< ((0 : Int32) &&& 31)).toUInt32 >>> ((0 : Int32) &&& 31).toUInt32).toInt32 = p1 <<< ((0 : Int32) &&& 31) := by rw [z0]; simp
  have e3 := c_maskL p1.toInt64 ((4294967296 : Int64) - 1) 32 (by decide) (by decide)
  have e4 := c_i2l p1
  have e5 := c_i2l (((p1 <<< ((0 : Int32) &&& 31)).toUInt32 >>> ((0 : Int32) &&& 31).toUInt32).toInt32)
  have e6 := c_maskL (((p1 <<< ((0 : Int32) &&& 31)).toUInt32 >>> ((0 : Int32) &&& 31).toUInt32).toInt32).toInt64 4294967295 32 (by decide) (by decide)
  have r1 := rng32 p1
  have r2 := rng32 (p1 <<< ((0 : Int32) &&& 31))
  apply Int64.toInt_inj.mp
  rw [e6, e5, e3, e4, e2]
  omega
theorem own_s1 (p1 : Int32) : ((p1 <<< ((1 : Int32) &&& 31)) >>> ((1 : Int32) &&& 31)).toInt64 = if p1.toInt64 &&& ((2147483648 : Int64) - 1) < (2147483648 : Int64) >>> ((1 : Int32) &&& 0x3f).toInt64 then p1.toInt64 &&& ((2147483648 : Int64) - 1) else (p1.toInt64 &&& ((2147483648 : Int64) - 1)) - 2147483648 := by
  have e1 := c_ishl p1 1 1 (by decide)
  have e2 := c_ishr (p1 <<< ((1 : Int32) &&& 31)) 1 1 (by decide)
  have e3 := c_maskL p1.toInt64 ((2147483648 : Int64) - 1) 31 (by decide) (by decide)
  have e4 := c_i2l p1
  have e5 := c_i2l ((p1 <<< ((1 : Int32) &&& 31)) >>> ((1 : Int32) &&& 31))
  have r1 := rng32 p1
  have r2 := rng32 (p1 <<< ((1 : Int32) &&& 31))
  have e6 : ((2147483648 : Int64) >>> ((1 : Int32) &&& 0x3f).toInt64) = (1073741824 : Int64) := by decide +kernel
  have e7 := c_lsub (p1.toInt64 &&& ((2147483648 : Int64) - 1)) (2147483648 : Int64)
  have r7 := rng64 ((p1.toInt64 &&& ((2147483648 : Int64) - 1)) - (2147483648 : Int64))
  have e8 : (2147483648 : Int64).toInt = 2147483648 := by decide +kernel
  have e9 : (1073741824 : Int64).toInt = 1073741824 := by decide +kernel
  rw [e6]
  rw [e8] at e7
  apply Int64.toInt_inj.mp
  rw [e5, e2]
  by_cases q : p1.toInt64 &&& ((2147483648 : Int64) - 1) < (1073741824 : Int64)
  · rw [if_pos q, e3, e4]
    rw [Int64.lt_iff_toInt_lt, e3, e4, e9] at q
    omega
  · rw [if_neg q]
    rw [Int64.lt_iff_toInt_lt, e3, e4, e9] at q
    omega
theorem own_n1 (p1 : Int32) : (((p1 <<< ((1 : Int32) &&& 31)).toUInt32 >>> ((1 : Int32) &&& 31).toUInt32).toInt32).toInt64 &&& (4294967295 : Int64) = p1.toInt64 &&& ((2147483648 : Int64) - 1) := by
  have e1 := c_ishl p1 1 1 (by decide)
  have e2 : (((p1 <<< ((1 : Int32) &&& 31)).toUInt32 >>> ((1 : Int32) &&& 31).toUInt32).toInt32).toInt = ((p1 <<< ((1 : Int32) &&& 31)).toInt % 4294967296) / (2 ^ 1 : Nat) := c_iushr _ 1 1 (by decide) (by decide)
  have e3 := c_maskL p1.toInt64 ((2147483648 : Int64) - 1) 31 (by decide) (by decide)
  have e4 := c_i2l p1
  have e5 := c_i2l (((p1 <<< ((1 : Int32) &&& 31)).toUInt32 >>> ((1 : Int32) &&& 31).toUInt32).toInt32)
  have e6 := c_maskL (((p1 <<< ((1 : Int32) &&& 31)).toUInt32 >>> ((1 : Int32) &&& 31).toUInt32).toInt32).toInt64 4294967295 32 (by decide) (by decide)
  have r1 := rng32 p1
  have r2 := rng32 (p1 <<< ((1 : Int32) &&& 31))
  apply Int64.toInt_inj.mp
  rw [e6, e5, e3, e4, e2]
  omega
theorem own_s2 (p1 : Int32) : ((p1 <<< ((2 : Int32) &&& 31)) >>> ((2 : Int32) &&& 31)).toInt64 = if p1.toInt64 &&& ((1073741824 : Int64) - 1) < (1073741824 : Int64) >>> ((1 : Int32) &&& 0x3f).toInt64 then p1.toInt64 &&& ((1073741824 : Int64) - 1) else (p1.toInt64 &&& ((1073741824 : Int64) - 1)) - 1073741824 := by
  have e1 := c_ishl p1 2 2 (by decide)
  have e2 := c_ishr (p1 <<< ((2 : Int32) &&& 31)) 2 2 (by decide)
  have e3 := c_maskL p1.toInt64 ((1073741824 : Int64) - 1) 30 (by decide) (by decide)
  have e4 := c_i2l p1
  have e5 := c_i2l ((p1 <<< ((2 : Int32) &&& 31)) >>> ((2 : Int32) &&& 31))
  have r1 := rng32 p1
  have r2 := rng32 (p1 <<< ((2 : Int32) &&& 31))
  have e6 : ((1073741824 : Int64) >>> ((1 : Int32) &&& 0x3f).toInt64) = (536870912 : Int64) := by decide +kernel
  have e7 := c_lsub (p1.toInt64 &&& ((1073741824 : Int64) - 1)) (1073741824 : Int64)
  have r7 := rng64 ((p1.toInt64 &&& ((1073741824 : Int64) - 1)) - (1073741824 : Int64))
  have e8 : (1073741824 : Int64).toInt = 1073741824 := by decide +kernel
  have e9 : (536870912 : Int64).toInt = 536870912 := by decide +kernel
  rw [e6]
  rw [e8] at e7
  apply Int64.toInt_inj.mp
  rw [e5, e2]
  by_cases q : p1.toInt64 &&& ((1073741824 : Int64) - 1) < (536870912 : Int64)
  · rw [if_pos q, e3, e4]
    rw [Int64.lt_iff_toInt_lt, e3, e4, e9] at q
    omega
  · rw [if_neg q]
    rw [Int64.lt_iff_toInt_lt, e3, e4, e9] at q
    omega
theorem own_n2 (p1 : Int32) : (((p1 <<< ((2 : Int32) &&& 31)).toUInt32 >>> ((2 : Int32) &&& 31).toUInt32).toInt32).toInt64 &&& (4294967295 : Int64) = p1.toInt64 &&& ((1073741824 : Int64) - 1) := by
  have e1 := c_ishl p1 2 2 (by decide)
  have e2 : (((p1 <<< ((2 : Int32) &&& 31)).toUInt32 >>> ((2 : Int32) &&& 31).toUInt32).toInt32).toInt = ((p1 <<< ((2 : Int32) &&& 31)).toInt % 4294967296) / (2 ^ 2 : Nat) := c_iushr _ 2 2 (by decide) (by decide)
  have e3 := c_maskL p1.toInt64 ((1073741824 : Int64) - 1) 30 (by decide) (by decide)
  have e4 := c_i2l p1
  have e5 := c_i2l (((p1 <<< ((2 : Int32) &&& 31)).toUInt32 >>> ((2 : Int32) &&& 31).toUInt32).toInt32)
  have e6 := c_maskL (((p1 <<< ((2 : Int32) &&& 31)).toUInt32 >>> ((2 : Int32) &&& 31).toUInt32).toInt32).toInt64 4294967295 32 (by decide) (by decide)
  have r1 := rng32 p1
  have r2 := rng32 (p1 <<< ((2 : Int32) &&& 31))
  apply Int64.toInt_inj.mp
  rw [e6, e5, e3, e4, e2]
  omega
theorem own_s3 (p1 : Int32) : ((p1 <<< ((3 : Int32) &&& 31)) >>> ((3 : Int32) &&& 31)).toInt64 = if p1.toInt64 &&& ((536870912 : Int64) - 1) < (536870912 : Int64) >>> ((1 : Int32) &&& 0x3f).toInt64 then p1.toInt64 &&& ((536870912 : Int64) - 1) else (p1.toInt64 &&& ((536870912 : Int64) - 1)) - 536870912 := by
  have e1 := c_ishl p1 3 3 (by decide)
  have e2 := c_ishr (p1 <<< ((3 : Int32) &&& 31)) 3 3 (by decide)
  have e3 := c_maskL p1.toInt64 ((536870912 : Int64) - 1) 29 (by decide) (by decide)
  have e4 := c_i2l p1
  have e5 := c_i2l ((p1 <<< ((3 : Int32) &&& 31)) >>> ((3 : Int32) &&& 31))
  have r1 := rng32 p1
  have r2 := rng32 (p1 <<< ((3 : Int32) &&& 31))
  have e6 : ((536870912 : Int64) >>> ((1 : Int32) &&& 0x3f).toInt64) = (268435456 : Int64) := by decide +kernel
  have e7 := c_lsub (p1.toInt64 &&& ((536870912 : Int64) - 1)) (536870912 : Int64)
  have r7 := rng64 ((p1.toInt64 &&& ((536870912 : Int64) - 1)) - (536870912 : Int64))
  have e8 : (536870912 : Int64).toInt = 536870912 := by decide +kernel
  have e9 : (268435456 : Int64).toInt = 268435456 := by decide +kernel
  rw [e6]
  rw [e8] at e7
  apply Int64.toInt_inj.mp
  rw [e5, e2]
  by_cases q : p1.toInt64 &&& ((536870912 : Int64) - 1) < (268435456 : Int64)
  · rw [if_pos q, e3, e4]
    rw [Int64.lt_iff_toInt_lt, e3, e4, e9] at q
    omega
  · rw [if_neg q]
    rw [Int64.lt_iff_toInt_lt, e3, e4, e9] at q
    omega
theorem own_n3 (p1 : Int32) : (((p1 <<< ((3 : Int32) &&& 31)).toUInt32 >>> ((3 : Int32) &&& 31).toUInt32).toInt32).toInt64 &&& (4294967295 : Int64) = p1.toInt64 &&& ((536870912 : Int64) - 1) := by
  have e1 := c_ishl p1 3 3 (by decide)
  have e2 : (((p1 <<< ((3 : Int32) &&& 31)).toUInt32 >>> ((3 : Int32) &&& 31).toUInt32).toInt32).toInt = ((p1 <<< ((3 : Int32) &&& 31)).toInt % 4294967296) / (2 ^ 3 : Nat) := c_iushr _ 3 3 (by decide) (by decide)
  have e3 := c_maskL p1.toInt64 ((536870912 : Int64) - 1) 29 (by decide) (by decide)
  have e4 := c_i2l p1
  have e5 := c_i2l (((p1 <<< ((3 : Int32) &&& 31)).toUInt32 >>> ((3 : Int32) &&& 31).toUInt32).toInt32)
  have e6 := c_maskL (((p1 <<< ((3 : Int32) &&& 31)).toUInt32 >>> ((3 : Int32) &&& 31).toUInt32).toInt32).toInt64 4294967295 32 (by decide) (by decide)
  have r1 := rng32 p1
  have r2 := rng32 (p1 <<< ((3 : Int32) &&& 31))
  apply Int64.toInt_inj.mp
  rw [e6, e5, e3, e4, e2]
  omega
theorem own_s4 (p1 : Int32) : ((p1 <<< ((4 : Int32) &&& 31)) >>> ((4 : Int32) &&& 31)).toInt64 = if p1.toInt64 &&& ((268435456 : Int64) - 1) < (268435456 : Int64) >>> ((1 : Int32) &&& 0x3f).toInt64 then p1.toInt64 &&& ((268435456 : Int64) - 1) else (p1.toInt64 &&& ((268435456 : Int64) - 1)) - 268435456 := by
  have e1 := c_ishl p1 4 4 (by decide)
  have e2 := c_ishr (p1 <<< ((4 : Int32) &&& 31)) 4 4 (by decide)
  have e3 := c_maskL p1.toInt64 ((268435456 : Int64) - 1) 28 (by decide) (by decide)
  have e4 := c_i2l p1
  have e5 := c_i2l ((p1 <<< ((4 : Int32) &&& 31)) >>> ((4 : Int32) &&& 31))
  have r1 := rng32 p1
  have r2 := rng32 (p1 <<< ((4 : Int32) &&& 31))
  have e6 : ((268435456 : Int64) >>> ((1 : Int32) &&& 0x3f).toInt64) = (134217728 : Int64) := by decide +kernel
  have e7 := c_lsub (p1.toInt64 &&& ((268435456 : Int64) - 1)) (268435456 : Int64)
  have r7 := rng64 ((p1.toInt64 &&& ((268435456 : Int64) - 1)) - (268435456 : Int64))
  have e8 : (268435456 : Int64).toInt = 268435456 := by decide +kernel
  have e9 : (134217728 : Int64).toInt = 134217728 := by decide +kernel
  rw [e6]
  rw [e8] at e7
  apply Int64.toInt_inj.mp
  rw [e5, e2]
  by_cases q : p1.toInt64 &&& ((268435456 : Int64) - 1) < (134217728 : Int64)
  · rw [if_pos q, e3, e4]
    rw [Int64.lt_iff_toInt_lt, e3, e4, e9] at q
    omega
  · rw [if_neg q]
    rw [Int64.lt_iff_toInt_lt, e3, e4, e9] at q
    omega
theorem own_n4 (p1 : Int32) : (((p1 <<< ((4 : Int32) &&& 31)).toUInt32 >>> ((4 : Int32) &&& 31).toUInt32).toInt32).toInt64 &&& (4294967295 : Int64) = p1.toInt64 &&& ((268435456 : Int64) - 1) := by
  have e1 := c_ishl p1 4 4 (by decide)
  have e2 : (((p1 <<< ((4 : Int32) &&& 31)).toUInt32 >>> ((4 : Int32) &&& 31).toUInt32).toInt32).toInt = ((p1 <<< ((4 : Int32) &&& 31)).toInt % 4294967296) / (2 ^ 4 : Nat) := c_iushr _ 4 4 (by decide) (by decide)
  have e3 := c_maskL p1.toInt64 ((268435456 : Int64) - 1) 28 (by decide) (by decide)
  have e4 := c_i2l p1
  have e5 := c_i2l (((p1 <<< ((4 : Int32) &&& 31)).toUInt32 >>> ((4 : Int32) &&& 31).toUInt32).toInt32)
  have e6 := c_maskL (((p1 <<< ((4 : Int32) &&& 31)).toUInt32 >>> ((4 : Int32) &&& 31).toUInt32).toInt32).toInt64 4294967295 32 (by decide) (by decide)
  have r1 := rng32 p1
  have r2 := rng32 (p1 <<< ((4 : Int32) &&& 31))
  apply Int64.toInt_inj.mp
  rw [e6, e5, e3, e4, e2]
  omega
theorem own_s5 (p1 : Int32) : ((p1 <<< ((5 : Int32) &&& 31)) >>> ((5 : Int32) &&& 31)).toInt64 = if p1.toInt64 &&& ((134217728 : Int64) - 1) < (134217728 : Int64) >>> ((1 : Int32) &&& 0x3f).toInt64 then p1.toInt64 &&& ((134217728 : Int64) - 1) else (p1.toInt64 &&& ((134217728 : Int64) - 1)) - 134217728 := by
  have e1 := c_ishl p1 5 5 (by decide)
  have e2 := c_ishr (p1 <<< ((5 : Int32) &&& 31)) 5 5 (by decide)
  have e3 := c_maskL p1.toInt64 ((134217728 : Int64) - 1) 27 (by decide) (by decide)
  have e4 := c_i2l p1
  have e5 := c_i2l ((p1 <<< ((5 : Int32) &&& 31)) >>> ((5 : Int32) &&& 31))
  have r1 := rng32 p1
  have r2 := rng32 (p1 <<< ((5 : Int32) &&& 31))
  have e6 : ((134217728 : Int64) >>> ((1 : Int32) &&& 0x3f).toInt64) = (67108864 : Int64) := by decide +kernel
  have e7 := c_lsub (p1.toInt64 &&& ((134217728 : Int64) - 1)) (134217728 : Int64)
  have r7 := rng64 ((p1.toInt64 &&& ((134217728 : Int64) - 1)) - (134217728 : Int64))
  have e8 : (134217728 : Int64).toInt = 134217728 := by decide +kernel
  have e9 : (67108864 : Int64).toInt = 67108864 := by decide +kernel
  rw [e6]
  rw [e8] at e7
  apply Int64.toInt_inj.mp
  rw [e5, e2]
  by_cases q : p1.toInt64 &&& ((134217728 : Int64) - 1) < (67108864 : Int64)
  · rw [if_pos q, e3, e4]
    rw [Int64.lt_iff_toInt_lt, e3, e4, e9] at q
    omega
  · rw [if_neg q]
    rw [Int64.lt_iff_toInt_lt, e3, e4, e9] at q
    omega
theorem own_n5 (p1 : Int32) : (((p1 <<< ((5 : Int32) &&& 31)).toUInt32 >>> ((5 : Int32) &&& 31).toUInt32).toInt32).toInt64 &&& (4294967295 : Int64) = p1.toInt64 &&& ((134217728 : Int64) - 1) := by
  have e1 := c_ishl p1 5 5 (by decide)
  have e2 : (((p1 <<< ((5 : Int32) &&& 31)).toUInt32 >>> ((5 : Int32) &&& 31).toUInt32).toInt32).toInt = ((p1 <<< ((5 : Int32) &&& 31)).toInt % 4294967296) / (2 ^ 5 : Nat) := c_iushr _ 5 5 (by decide) (by decide)
  have e3 := c_maskL p1.toInt64 ((134217728 : Int64) - 1) 27 (by decide) (by decide)
  have e4 := c_i2l p1
  have e5 := c_i2l (((p1 <<< ((5 : Int32) &&& 31)).toUInt32 >>> ((5 : Int32) &&& 31).toUInt32).toInt32)
  have e6 := c_maskL (((p1 <<< ((5 : Int32) &&& 31)).toUInt32 >>> ((5 : Int32) &&& 31).toUInt32).toInt32).toInt64 4294967295 32 (by decide) (by decide)
  have r1 := rng32 p1
  have r2 := rng32 (p1 <<< ((5 : Int32) &&& 31))
  apply Int64.toInt_inj.mp
  rw [e6, e5, e3, e4, e2]
  omega
theorem own_s6 (p1 : Int32) : ((p1 <<< ((6 : Int32) &&& 31)) >>> ((6 : Int32) &&& 31)).toInt64 = if p1.toInt64 &&& ((67108864 : Int64) - 1) < (67108864 : Int64) >>> ((1 : Int32) &&& 0x3f).toInt64 then p1.toInt64 &&& ((67108864 : Int64) - 1) else (p1.toInt64 &&& ((67108864 : Int64) - 1)) - 67108864 := by
  have e1 := c_ishl p1 6 6 (by decide)
  have e2 := c_ishr (p1 <<< ((6 : Int32) &&& 31)) 6 6 (by decide)
  have e3 := c_maskL p1.toInt64 ((67108864 : Int64) - 1) 26 (by decide) (by decide)
  have e4 := c_i2l p1
  have e5 := c_i2l ((p1 <<< ((6 : Int32) &&& 31)) >>> ((6 : Int32) &&& 31))
  have r1 := rng32 p1
  have r2 := rng32 (p1 <<< ((6 : Int32) &&& 31))
  have e6 : ((67108864 : Int64) >>> ((1 : Int32) &&& 0x3f).toInt64) = (33554432 : Int64) := by decide +kernel
  have e7 := c_lsub (p1.toInt64 &&& ((67108864 : Int64) - 1)) (67108864 : Int64)
  have r7 := rng64 ((p1.toInt64 &&& ((67108864 : Int64) - 1)) - (67108864 : Int64))
  have e8 : (67108864 : Int64).toInt = 67108864 := by decide +kernel
  have e9 : (33554432 : Int64).toInt = 33554432 := by decide +kernel
  rw [e6]
  rw [e8] at e7
  apply Int64.toInt_inj.mp
  rw [e5, e2]
  by_cases q : p1.toInt64 &&& ((67108864 : Int64) - 1) < (33554432 : Int64)
  · rw [if_pos q, e3, e4]
    rw [Int64.lt_iff_toInt_lt, e3, e4, e9] at q
    omega
  · rw [if_neg q]
    rw [Int64.lt_iff_toInt_lt, e3, e4, e9] at q
    omega
theorem own_n6 (p1 : Int32) : (((p1 <<< ((6 : Int32) &&& 31)).toUInt32 >>> ((6 : Int32) &&& 31).toUInt32).toInt32).toInt64 &&& (4294967295 : Int64) = p1.toInt64 &&& ((67108864 : Int64) - 1) := by
  have e1 := c_ishl p1 6 6 (by decide)
  have e2 : (((p1 <<< ((6 : Int32) &&& 31)).toUInt32 >>> ((6 : Int32) &&& 31).toUInt32).toInt32).toInt = ((p1 <<< ((6 : Int32) &&& 31)).toInt % 4294967296) / (2 ^ 6 : Nat) := c_iushr _ 6 6 (by decide) (by decide)
  have e3 := c_maskL p1.toInt64 ((67108864 : Int64) - 1) 26 (by decide) (by decide)
  have e4 := c_i2l p1
  have e5 := c_i2l (((p1 <<< ((6 : Int32) &&& 31)).toUInt32 >>> ((6 : Int32) &&& 31).toUInt32).toInt32)
  have e6 := c_maskL (((p1 <<< ((6 : Int32) &&& 31)).toUInt32 >>> ((6 : Int32) &&& 31).toUInt32).toInt32).toInt64 4294967295 32 (by decide) (by decide)
  have r1 := rng32 p1
  have r2 := rng32 (p1 <<< ((6 : Int32) &&& 31))
  apply Int64.toInt_inj.mp
  rw [e6, e5, e3, e4, e2]
  omega
theorem own_s7 (p1 : Int32) : ((p1 <<< ((7 : Int32) &&& 31)) >>> ((7 : Int32) &&& 31)).toInt64 = if p1.toInt64 &&& ((33554432 : Int64) - 1) < (33554432 : Int64) >>> ((1 : Int32) &&& 0x3f).toInt64 then p1.toInt64 &&& ((33554432 : Int64) - 1) else (p1.toInt64 &&& ((33554432 : Int64) - 1)) - 33554432 := by
  have e1 := c_ishl p1 7 7 (by decide)
  have e2 := c_ishr (p1 <<< ((7 : Int32) &&& 31)) 7 7 (by decide)
  have e3 := c_maskL p1.toInt64 ((33554432 : Int64) - 1) 25 (by decide) (by decide)
  have e4 := c_i2l p1
  have e5 := c_i2l ((p1 <<< ((7 : Int32) &&& 31)) >>> ((7 : Int32) &&& 31))
  have r1 := rng32 p1
  have r2 := rng32 (p1 <<< ((7 : Int32) &&& 31))
  have e6 : ((33554432 : Int64) >>> ((1 : Int32) &&& 0x3f).toInt64) = (16777216 : Int64) := by decide +kernel
  have e7 := c_lsub (p1.toInt64 &&& ((33554432 : Int64) - 1)) (33554432 : Int64)
  have r7 := rng64 ((p1.toInt64 &&& ((33554432 : Int64) - 1)) - (33554432 : Int64))
  have e8 : (33554432 : Int64).toInt = 33554432 := by decide +kernel
  have e9 : (16777216 : Int64).toInt = 16777216 := by decide +kernel
  rw [e6]
  rw [e8] at e7
  apply Int64.toInt_inj.mp
  rw [e5, e2]
  by_cases q : p1.toInt64 &&& ((33554432 : Int64) - 1) < (16777216 : Int64)
  · rw [if_pos q, e3, e4]
    rw [Int64.lt_iff_toInt_lt, e3, e4, e9] at q
    omega
  · rw [if_neg q]
    rw [Int64.lt_iff_toInt_lt, e3, e4, e9] at q
    omega
theorem own_n7 (p1 : Int32) : (((p1 <<< ((7 : Int32) &&& 31)).toUInt32 >>> ((7 : Int32) &&& 31).toUInt32).toInt32).toInt64 &&& (4294967295 : Int64) = p1.toInt64 &&& ((33554432 : Int64) - 1) := by
  have e1 := c_ishl p1 7 7 (by decide)
  have e2 : (((p1 <<< ((7 : Int32) &&& 31)).toUInt32 >>> ((7 : Int32) &&& 31).toUInt32).toInt32).toInt = ((p1 <<< ((7 : Int32) &&& 31)).toInt % 4294967296) / (2 ^ 7 : Nat) := c_iushr _ 7 7 (by decide) (by decide)
  have e3 := c_maskL p1.toInt64 ((33554432 : Int64) - 1) 25 (by decide) (by decide)
  have e4 := c_i2l p1
  have e5 := c_i2l (((p1 <<< ((7 : Int32) &&& 31)).toUInt32 >>> ((7 : Int32) &&& 31).toUInt32).toInt32)
  have e6 := c_maskL (((p1 <<< ((7 : Int32) &&& 31)).toUInt32 >>> ((7 : Int32) &&& 31).toUInt32).toInt32).toInt64 4294967295 32 (by decide) (by decide)
  have r1 := rng32 p1
  have r2 := rng32 (p1 <<< ((7 : Int32) &&& 31))
  apply Int64.toInt_inj.mp
  rw [e6, e5, e3, e4, e2]
  omega
theorem own_s8 (p1 : Int32) : ((p1 <<< ((8 : Int32) &&& 31)) >>> ((8 : Int32) &&& 31)).toInt64 = if p1.toInt64 &&& ((16777216 : Int64) - 1) < (16777216 : Int64) >>> ((1 : Int32) &&& 0x3f).toInt64 then p1.toInt64 &&& ((16777216 : Int64) - 1) else (p1.toInt64 &&& ((16777216 : Int64) - 1)) - 16777216 := by
  have e1 := c_ishl p1 8 8 (by decide)
  have e2 := c_ishr (p1 <<< ((8 : Int32) &&& 31)) 8 8 (by decide)
  have e3 := c_maskL p1.toInt64 ((16777216 : Int64) - 1) 24 (by decide) (by decide)
  have e4 := c_i2l p1
  have e5 := c_i2l ((p1 <<< ((8 : Int32) &&& 31)) >>> ((8 : Int32) &&& 31))
  have r1 := rng32 p1
  have r2 := rng32 (p1 <<< ((8 : Int32) &&& 31))
  have e6 : ((16777216 : Int64) >>> ((1 : Int32) &&& 0x3f).toInt64) = (8388608 : Int64) := by decide +kernel
  have e7 := c_lsub (p1.toInt64 &&& ((16777216 : Int64) - 1)) (16777216 : Int64)
  have r7 := rng64 ((p1.toInt64 &&& ((16777216 : Int64) - 1)) - (16777216 : Int64))
  have e8 : (16777216 : Int64).toInt = 16777216 := by decide +kernel
  have e9 : (8388608 : Int64).toInt = 8388608 := by decide +kernel
  rw [e6]
  rw [e8] at e7
  apply Int64.toInt_inj.mp
  rw [e5, e2]
  by_cases q : p1.toInt64 &&& ((16777216 : Int64) - 1) < (8388608 : Int64)
  · rw [if_pos q, e3, e4]
    rw [Int64.lt_iff_toInt_lt, e3, e4, e9] at q
    omega
  · rw [if_neg q]
    rw [Int64.lt_iff_toInt_lt, e3, e4, e9] at q
    omega
theorem own_n8 (p1 : Int32) : (((p1 <<< ((8 : Int32) &&& 31)).toUInt32 >>> ((8 : Int32) &&& 31).toUInt32).toInt32).toInt64 &&& (4294967295 : Int64) = p1.toInt64 &&& ((16777216 : Int64) - 1) := by
  have e1 := c_ishl p1 8 8 (by decide)
  have e2 : (((p1 <<< ((8 : Int32) &&& 31)).toUInt32 >>> ((8 : Int32) &&& 31).toUInt32).toInt32).toInt = ((p1 <<< ((8 : Int32) &&& 31)).toInt % 4294967296) / (2 ^ 8 : Nat) := c_iushr _ 8 8 (by decide) (by decide)
  have e3 := c_maskL p1.toInt64 ((16777216 : Int64) - 1) 24 (by decide) (by decide)
  have e4 := c_i2l p1
  have e5 := c_i2l (((p1 <<< ((8 : Int32) &&& 31)).toUInt32 >>> ((8 : Int32) &&& 31).toUInt32).toInt32)
  have e6 := c_maskL (((p1 <<< ((8 : Int32) &&& 31)).toUInt32 >>> ((8 : Int32) &&& 31).toUInt32).toInt32).toInt64 4294967295 32 (by decide) (by decide)
  have r1 := rng32 p1
  have r2 := rng32 (p1 <<< ((8 : Int32) &&& 31))
  apply Int64.toInt_inj.mp
  rw [e6, e5, e3, e4, e2]
  omega
theorem own_s9 (p1 : Int32) : ((p1 <<< ((9 : Int32) &&& 31)) >>> ((9 : Int32) &&& 31)).toInt64 = if p1.toInt64 &&& ((8388608 : Int64) - 1) < (8388608 : Int64) >>> ((1 : Int32) &&& 0x3f).toInt64 then p1.toInt64 &&& ((8388608 : Int64) - 1) else (p1.toInt64 &&& ((8388608 : Int64) - 1)) - 8388608 := by
  have e1 := c_ishl p1 9 9 (by decide)
  have e2 := c_ishr (p1 <<< ((9 : Int32) &&& 31)) 9 9 (by decide)
  have e3 := c_maskL p1.toInt64 ((8388608 : Int64) - 1) 23 (by decide) (by decide)
  have e4 := c_i2l p1
  have e5 := c_i2l ((p1 <<< ((9 : Int32) &&& 31)) >>> ((9 : Int32) &&& 31))
  have r1 := rng32 p1
  have r2 := rng32 (p1 <<< ((9 : Int32) &&& 31))
  have e6 : ((8388608 : Int64) >>> ((1 : Int32) &&& 0x3f).toInt64) = (4194304 : Int64) := by decide +kernel
  have e7 := c_lsub (p1.toInt64 &&& ((8388608 : Int64) - 1)) (8388608 : Int64)
  have r7 := rng64 ((p1.toInt64 &&& ((8388608 : Int64) - 1)) - (8388608 : Int64))
  have e8 : (8388608 : Int64).toInt = 8388608 := by decide +kernel
  have e9 : (4194304 : Int64).toInt = 4194304 := by decide +kernel
  rw [e6]
  rw [e8] at e7
  apply Int64.toInt_inj.mp
  rw [e5, e2]
  by_cases q : p1.toInt64 &&& ((8388608 : Int64) - 1) < (4194304 : Int64)
  · rw [if_pos q, e3, e4]
    rw [Int64.lt_iff_toInt_lt, e3, e4, e9] at q
    omega
  · rw [if_neg q]
    rw [Int64.lt_iff_toInt_lt, e3, e4, e9] at q
    omega
theorem own_n9 (p1 : Int32) : (((p1 <<< ((9 : Int32) &&& 31)).toUInt32 >>> ((9 : Int32) &&& 31).toUInt32).toInt32).toInt64 &&& (4294967295 : Int64) = p1.toInt64 &&& ((8388608 : Int64) - 1) := by
  have e1 := c_ishl p1 9 9 (by decide)
  have e2 : (((p1 <<< ((9 : Int32) &&& 31)).toUInt32 >>> ((9 : Int32) &&& 31).toUInt32).toInt32).toInt = ((p1 <<< ((9 : Int32) &&& 31)).toInt % 4294967296) / (2 ^ 9 : Nat) := c_iushr _ 9 9 (by decide) (by decide)
  have e3 := c_maskL p1.toInt64 ((8388608 : Int64) - 1) 23 (by decide) (by decide)
  have e4 := c_i2l p1
  have e5 := c_i2l (((p1 <<< ((9 : Int32) &&& 31)).toUInt32 >>> ((9 : Int32) &&& 31).toUInt32).toInt32)
  have e6 := c_maskL (((p1 <<< ((9 : Int32) &&& 31)).toUInt32 >>> ((9 : Int32) &&& 31).toUInt32).toInt32).toInt64 4294967295 32 (by decide) (by decide)
  have r1 := rng32 p1
  have r2 := rng32 (p1 <<< ((9 : Int32) &&& 31))
  apply Int64.toInt_inj.mp
  rw [e6, e5, e3, e4, e2]
  omega
theorem own_s10 (p1 : Int32) : ((p1 <<< ((10 : Int32) &&& 31)) >>> ((10 : Int32) &&& 31)).toInt64 = if p1.toInt64 &&& ((4194304 : Int64) - 1) < (4194304 : Int64) >>> ((1 : Int32) &&& 0x3f).toInt64 then p1.toInt64 &&& ((4194304 : Int64) - 1) else (p1.toInt64 &&& ((4194304 : Int64) - 1)) - 4194304 := by
  have e1 := c_ishl p1 10 10 (by decide)
  have e2 := c_ishr (p1 <<< ((10 : Int32) &&& 31)) 10 10 (by decide)
  have e3 := c_maskL p1.toInt64 ((4194304 : Int64) - 1) 22 (by decide) (by decide)
  have e4 := c_i2l p1
  have e5 := c_i2l ((p1 <<< ((10 : Int32) &&& 31)) >>> ((10 : Int32) &&& 31))
  have r1 := rng32 p1
  have r2 := rng32 (p1 <<< ((10 : Int32) &&& 31))
  have e6 : ((4194304 : Int64) >>> ((1 : Int32) &&& 0x3f).toInt64) = (2097152 : Int64) := by decide +kernel
  have e7 := c_lsub (p1.toInt64 &&& ((4194304 : Int64) - 1)) (4194304 : Int64)
  have r7 := rng64 ((p1.toInt64 &&& ((4194304 : Int64) - 1)) - (4194304 : Int64))
  have e8 : (4194304 : Int64).toInt = 4194304 := by decide +kernel
  have e9 : (2097152 : Int64).toInt = 2097152 := by decide +kernel
  rw [e6]
  rw [e8] at e7
  apply Int64.toInt_inj.mp
  rw [e5, e2]
  by_cases q : p1.toInt64 &&& ((4194304 : Int64) - 1) < (2097152 : Int64)
  · rw [if_pos q, e3, e4]
    rw [Int64.lt_iff_toInt_lt, e3, e4, e9] at q
    omega
  · rw [if_neg q]
    rw [Int64.lt_iff_toInt_lt, e3, e4, e9] at q
    omega
theorem own_n10 (p1 : Int32) : (((p1 <<< ((10 : Int32) &&& 31)).toUInt32 >>> ((10 : Int32) &&& 31).toUInt32).toInt32).toInt64 &&& (4294967295 : Int64) = p1.toInt64 &&& ((4194304 : Int64) - 1) := by
  have e1 := c_ishl p1 10 10 (by decide)
  have e2 : (((p1 <<< ((10 : Int32) &&& 31)).toUInt32 >>> ((10 : Int32) &&& 31).toUInt32).toInt32).toInt = ((p1 <<< ((10 : Int32) &&& 31)).toInt % 4294967296) / (2 ^ 10 : Nat) := c_iushr _ 10 10 (by decide) (by decide)
  have e3 := c_maskL p1.toInt64 ((4194304 : Int64) - 1) 22 (by decide) (by decide)
  have e4 := c_i2l p1
  have e5 := c_i2l (((p1 <<< ((10 : Int32) &&& 31)).toUInt32 >>> ((10 : Int32) &&& 31).toUInt32).toInt32)
  have e6 := c_maskL (((p1 <<< ((10 : Int32) &&& 31)).toUInt32 >>> ((10 : Int32) &&& 31).toUInt32).toInt32).toInt64 4294967295 32 (by decide) (by decide)
  have r1 := rng32 p1
  have r2 := rng32 (p1 <<< ((10 : Int32) &&& 31))
  apply Int64.toInt_inj.mp
  rw [e6, e5, e3, e4, e2]
  omega
theorem own_s11 (p1 : Int32) : ((p1 <<< ((11 : Int32) &&& 31)) >>> ((11 : Int32) &&& 31)).toInt64 = if p1.toInt64 &&& ((2097152 : Int64) - 1) < (2097152 : Int64) >>> ((1 : Int32) &&& 0x3f).toInt64 then p1.toInt64 &&& ((2097152 : Int64) - 1) else (p1.toInt64 &&& ((2097152 : Int64) - 1)) - 2097152 := by
  have e1 := c_ishl p1 11 11 (by decide)
  have e2 := c_ishr (p1 <<< ((11 : Int32) &&& 31)) 11 11 (by decide)
  have e3 := c_maskL p1.toInt64 ((2097152 : Int64) - 1) 21 (by decide) (by decide)
  have e4 := c_i2l p1
  have e5 := c_i2l ((p1 <<< ((11 : Int32) &&& 31)) >>> ((11 : Int32) &&& 31))
  have r1 := rng32 p1
  have r2 := rng32 (p1 <<< ((11 : Int32) &&& 31))
  have e6 : ((2097152 : Int64) >>> ((1 : Int32) &&& 0x3f).toInt64) = (1048576 : Int64) := by decide +kernel
  have e7 := c_lsub (p1.toInt64 &&& ((2097152 : Int64) - 1)) (2097152 : Int64)
  have r7 := rng64 ((p1.toInt64 &&& ((2097152 : Int64) - 1)) - (2097152 : Int64))
  have e8 : (2097152 : Int64).toInt = 2097152 := by decide +kernel
  have e9 : (1048576 : Int64).toInt = 1048576 := by decide +kernel
  rw [e6]
  rw [e8] at e7
  apply Int64.toInt_inj.mp
  rw [e5, e2]
  by_cases q : p1.toInt64 &&& ((2097152 : Int64) - 1) < (1048576 : Int64)
  · rw [if_pos q, e3, e4]
    rw [Int64.lt_iff_toInt_lt, e3, e4, e9] at q
    omega
  · rw [if_neg q]
    rw [Int64.lt_iff_toInt_lt, e3, e4, e9] at q
    omega
theorem own_n11 (p1 : Int32) : (((p1 <<< ((11 : Int32) &&& 31)).toUInt32 >>> ((11 : Int32) &&& 31).toUInt32).toInt32).toInt64 &&& (4294967295 : Int64) = p1.toInt64 &&& ((2097152 : Int64) - 1) := by
  have e1 := c_ishl p1 11 11 (by decide)
  have e2 : (((p1 <<< ((11 : Int32) &&& 31)).toUInt32 >>> ((11 : Int32) &&& 31).toUInt32).toInt32).toInt = ((p1 <<< ((11 : Int32) &&& 31)).toInt % 4294967296) / (2 ^ 11 : Nat) := c_iushr _ 11 11 (by decide) (by decide)
  have e3 := c_maskL p1.toInt64 ((2097152 : Int64) - 1) 21 (by decide) (by decide)
  have e4 := c_i2l p1
  have e5 := c_i2l (((p1 <<< ((11 : Int32) &&& 31)).toUInt32 >>> ((11 : Int32) &&& 31).toUInt32).toInt32)
  have e6 := c_maskL (((p1 <<< ((11 : Int32) &&& 31)).toUInt32 >>> ((11 : Int32) &&& 31).toUInt32).toInt32).toInt64 4294967295 32 (by decide) (by decide)
  have r1 := rng32 p1
  have r2 := rng32 (p1 <<< ((11 : Int32) &&& 31))
  apply Int64.toInt_inj.mp
  rw [e6, e5, e3, e4, e2]
  omega
theorem own_s12 (p1 : Int32) : ((p1 <<< ((12 : Int32) &&& 31)) >>> ((12 : Int32) &&& 31)).toInt64 = if p1.toInt64 &&& ((1048576 : Int64) - 1) < (1048576 : Int64) >>> ((1 : Int32) &&& 0x3f).toInt64 then p1.toInt64 &&& ((1048576 : Int64) - 1) else (p1.toInt64 &&& ((1048576 : Int64) - 1)) - 1048576 := by
  have e1 := c_ishl p1 12 12 (by decide)
  have e2 := c_ishr (p1 <<< ((12 : Int32) &&& 31)) 12 12 (by decide)
  have e3 := c_maskL p1.toInt64 ((1048576 : Int64) - 1) 20 (by decide) (by decide)
  have e4 := c_i2l p1
  have e5 := c_i2l ((p1 <<< ((12 : Int32) &&& 31)) >>> ((12 : Int32) &&& 31))
  have r1 := rng32 p1
  have r2 := rng32 (p1 <<< ((12 : Int32) &&& 31))
  have e6 : ((1048576 : Int64) >>> ((1 : Int32) &&& 0x3f).toInt64) = (524288 : Int64) := by decide +kernel
  have e7 := c_lsub (p1.toInt64 &&& ((1048576 : Int64) - 1)) (1048576 : Int64)
  have r7 := rng64 ((p1.toInt64 &&& ((1048576 : Int64) - 1)) - (1048576 : Int64))
  have e8 : (1048576 : Int64).toInt = 1048576 := by decide +kernel
  have e9 : (524288 : Int64).toInt = 524288 := by decide +kernel
  rw [e6]
  rw [e8] at e7
  apply Int64.toInt_inj.mp
  rw [e5, e2]
  by_cases q : p1.toInt64 &&& ((1048576 : Int64) - 1) < (524288 : Int64)
  · rw [if_pos q, e3, e4]
    rw [Int64.lt_iff_toInt_lt, e3, e4, e9] at q
    omega
  · rw [if_neg q]
    rw [Int64.lt_iff_toInt_lt, e3, e4, e9] at q
    omega
theorem own_n12 (p1 : Int32) : (((p1 <<< ((12 : Int32) &&& 31)).toUInt32 >>> ((12 : Int32) &&& 31).toUInt32).toInt32).toInt64 &&& (4294967295 : Int64) = p1.toInt64 &&& ((1048576 : Int64) - 1) := by
  have e1 := c_ishl p1 12 12 (by decide)
  have e2 : (((p1 <<< ((12 : Int32) &&& 31)).toUInt32 >>> ((12 : Int32) &&& 31).toUInt32).toInt32).toInt = ((p1 <<< ((12 : Int32) &&& 31)).toInt % 4294967296) / (2 ^ 12 : Nat) := c_iushr _ 12 12 (by decide) (by decide)
  have e3 := c_maskL p1.toInt64 ((1048576 : Int64) - 1) 20 (by decide) (by decide)
  have e4 := c_i2l p1
  have e5 := c_i2l (((p1 <<< ((12 : Int32) &&& 31)).toUInt32 >>> ((12 : Int32) &&& 31).toUInt32).toInt32)
  have e6 := c_maskL (((p1 <<< ((12 : Int32) &&& 31)).toUInt32 >>> ((12 : Int32) &&& 31).toUInt32).toInt32).toInt64 4294967295 32 (by decide) (by decide)
  have r1 := rng32 p1
  have r2 := rng32 (p1 <<< ((12 : Int32) &&& 31))
  apply Int64.toInt_inj.mp
  rw [e6, e5, e3, e4, e2]
  omega
theorem own_s13 (p1 : Int32) : ((p1 <<< ((13 : Int32) &&& 31)) >>> ((13 : Int32) &&& 31)).toInt64 = if p1.toInt64 &&& ((524288 : Int64) - 1) < (524288 : Int64) >>> ((1 : Int32) &&& 0x3f).toInt64 then p1.toInt64 &&& ((524288 : Int64) - 1) else (p1.toInt64 &&& ((524288 : Int64) - 1)) - 524288 := by
  have e1 := c_ishl p1 13 13 (by decide)
  have e2 := c_ishr (p1 <<< ((13 : Int32) &&& 31)) 13 13 (by decide)
  have e3 := c_maskL p1.toInt64 ((524288 : Int64) - 1) 19 (by decide) (by decide)
  have e4 := c_i2l p1
  have e5 := c_i2l ((p1 <<< ((13 : Int32) &&& 31)) >>> ((13 : Int32) &&& 31))
  have r1 := rng32 p1
  have r2 := rng32 (p1 <<< ((13 : Int32) &&& 31))
  have e6 : ((524288 : Int64) >>> ((1 : Int32) &&& 0x3f).toInt64) = (262144 : Int64) := by decide +kernel
  have e7 := c_lsub (p1.toInt64 &&& ((524288 : Int64) - 1)) (524288 : Int64)
  have r7 := rng64 ((p1.toInt64 &&& ((524288 : Int64) - 1)) - (524288 : Int64))
  have e8 : (524288 : Int64).toInt = 524288 := by decide +kernel
  have e9 : (262144 : Int64).toInt = 262144 := by decide +kernel
  rw [e6]
  rw [e8] at e7
  apply Int64.toInt_inj.mp
  rw [e5, e2]
  by_cases q : p1.toInt64 &&& ((524288 : Int64) - 1) < (262144 : Int64)
  · rw [if_pos q, e3, e4]
    rw [Int64.lt_iff_toInt_lt, e3, e4, e9] at q
    omega
  · rw [if_neg q]
    rw [Int64.lt_iff_toInt_lt, e3, e4, e9] at q
    omega
theorem own_n13 (p1 : Int32) : (((p1 <<< ((13 : Int32) &&& 31)).toUInt32 >>> ((13 : Int32) &&& 31).toUInt32).toInt32).toInt64 &&& (4294967295 : Int64) = p1.toInt64 &&& ((524288 : Int64) - 1) := by
  have e1 := c_ishl p1 13 13 (by decide)
  have e2 : (((p1 <<< ((13 : Int32) &&& 31)).toUInt32 >>> ((13 : Int32) &&& 31).toUInt32).toInt32).toInt = ((p1 <<< ((13 : Int32) &&& 31)).toInt % 4294967296) / (2 ^ 13 : Nat) := c_iushr _ 13 13 (by decide) (by decide)
  have e3 := c_maskL p1.toInt64 ((524288 : Int64) - 1) 19 (by decide) (by decide)
  have e4 := c_i2l p1
  have e5 := c_i2l (((p1 <<< ((13 : Int32) &&& 31)).toUInt32 >>> ((13 : Int32) &&& 31).toUInt32).toInt32)
  have e6 := c_maskL (((p1 <<< ((13 : Int32) &&& 31)).toUInt32 >>> ((13 : Int32) &&& 31).toUInt32).toInt32).toInt64 4294967295 32 (by decide) (by decide)
  have r1 := rng32 p1
  have r2 := rng32 (p1 <<< ((13 : Int32) &&& 31))
  apply Int64.toInt_inj.mp
  rw [e6, e5, e3, e4, e2]
  omega
theorem own_s14 (p1 : Int32) : ((p1 <<< ((14 : Int32) &&& 31)) >>> ((14 : Int32) &&& 31)).toInt64 = if p1.toInt64 &&& ((262144 : Int64) - 1) < (262144 : Int64) >>> ((1 : Int32) &&& 0x3f).toInt64 then p1.toInt64 &&& ((262144 : Int64) - 1) else (p1.toInt64 &&& ((262144 : Int64) - 1)) - 262144 := by
  have e1 := c_ishl p1 14 14 (by decide)
  have e2 := c_ishr (p1 <<< ((14 : Int32) &&& 31)) 14 14 (by decide)
  have e3 := c_maskL p1.toInt64 ((262144 : Int64) - 1) 18 (by decide) (by decide)
  have e4 := c_i2l p1
  have e5 := c_i2l ((p1 <<< ((14 : Int32) &&& 31)) >>> ((14 : Int32) &&& 31))
  have r1 := rng32 p1
  have r2 := rng32 (p1 <<< ((14 : Int32) &&& 31))
  have e6 : ((262144 : Int64) >>> ((1 : Int32) &&& 0x3f).toInt64) = (131072 : Int64) := by decide +kernel
  have e7 := c_lsub (p1.toInt64 &&& ((262144 : Int64) - 1)) (262144 : Int64)
  have r7 := rng64 ((p1.toInt64 &&& ((262144 : Int64) - 1)) - (262144 : Int64))
  have e8 : (262144 : Int64).toInt = 262144 := by decide +kernel
  have e9 : (131072 : Int64).toInt = 131072 := by decide +kernel
  rw [e6]
  rw [e8] at e7
  apply Int64.toInt_inj.mp
  rw [e5, e2]
  by_cases q : p1.toInt64 &&& ((262144 : Int64) - 1) < (131072 : Int64)
  · rw [if_pos q, e3, e4]
    rw [Int64.lt_iff_toInt_lt, e3, e4, e9] at q
    omega
  · rw [if_neg q]
    rw [Int64.lt_iff_toInt_lt, e3, e4, e9] at q
    omega
theorem own_n14 (p1 : Int32) : (((p1 <<< ((14 : Int32) &&& 31)).toUInt32 >>> ((14 : Int32) &&& 31).toUInt32).toInt32).toInt64 &&& (4294967295 : Int64) = p1.toInt64 &&& ((262144 : Int64) - 1) := by
  have e1 := c_ishl p1 14 14 (by decide)
  have e2 : (((p1 <<< ((14 : Int32) &&& 31)).toUInt32 >>> ((14 : Int32) &&& 31).toUInt32).toInt32).toInt = ((p1 <<< ((14 : Int32) &&& 31)).toInt % 4294967296) / (2 ^ 14 : Nat) := c_iushr _ 14 14 (by decide) (by decide)
  have e3 := c_maskL p1.toInt64 ((262144 : Int64) - 1) 18 (by decide) (by decide)
  have e4 := c_i2l p1
  have e5 := c_i2l (((p1 <<< ((14 : Int32) &&& 31)).toUInt32 >>> ((14 : Int32) &&& 31).toUInt32).toInt32)
  have e6 := c_maskL (((p1 <<< ((14 : Int32) &&& 31)).toUInt32 >>> ((14 : Int32) &&& 31).toUInt32).toInt32).toInt64 4294967295 32 (by decide) (by decide)
  have r1 := rng32 p1
  have r2 := rng32 (p1 <<< ((14 : Int32) &&& 31))
  apply Int64.toInt_inj.mp
  rw [e6, e5, e3, e4, e2]
  omega
theorem own_s15 (p1 : Int32) : ((p1 <<< ((15 : Int32) &&& 31)) >>> ((15 : Int32) &&& 31)).toInt64 = if p1.toInt64 &&& ((131072 : Int64) - 1) < (131072 : Int64) >>> ((1 : Int32) &&& 0x3f).toInt64 then p1.toInt64 &&& ((131072 : Int64) - 1) else (p1.toInt64 &&& ((131072 : Int64) - 1)) - 131072 := by
  have e1 := c_ishl p1 15 15 (by decide)
  have e2 := c_ishr (p1 <<< ((15 : Int32) &&& 31)) 15 15 (by decide)
  have e3 := c_maskL p1.toInt64 ((131072 : Int64) - 1) 17 (by decide) (by decide)
  have e4 := c_i2l p1
  have e5 := c_i2l ((p1 <<< ((15 : Int32) &&& 31)) >>> ((15 : Int32) &&& 31))
  have r1 := rng32 p1
  have r2 := rng32 (p1 <<< ((15 : Int32) &&& 31))
  have e6 : ((131072 : Int64) >>> ((1 : Int32) &&& 0x3f).toInt64) = (65536 : Int64) := by decide +kernel
  have e7 := c_lsub (p1.toInt64 &&& ((131072 : Int64) - 1)) (131072 : Int64)
  have r7 := rng64 ((p1.toInt64 &&& ((131072 : Int64) - 1)) - (131072 : Int64))
  have e8 : (131072 : Int64).toInt = 131072 := by decide +kernel
  have e9 : (65536 : Int64).toInt = 65536 := by decide +kernel
  rw [e6]
  rw [e8] at e7
  apply Int64.toInt_inj.mp
  rw [e5, e2]
  by_cases q : p1.toInt64 &&& ((131072 : Int64) - 1) < (65536 : Int64)
  · rw [if_pos q, e3, e4]
    rw [Int64.lt_iff_toInt_lt, e3, e4, e9] at q
    omega
  · rw [if_neg q]
    rw [Int64.lt_iff_toInt_lt, e3, e4, e9] at q
    omega
theorem own_n15 (p1 : Int32) : (((p1 <<< ((15 : Int32) &&& 31)).toUInt32 >>> ((15 : Int32) &&& 31).toUInt32).toInt32).toInt64 &&& (4294967295 : Int64) = p1.toInt64 &&& ((131072 : Int64) - 1) := by
  have e1 := c_ishl p1 15 15 (by decide)
  have e2 : (((p1 <<< ((15 : Int32) &&& 31)).toUInt32 >>> ((15 : Int32) &&& 31).toUInt32).toInt32).toInt = ((p1 <<< ((15 : Int32) &&& 31)).toInt % 4294967296) / (2 ^ 15 : Nat) := c_iushr _ 15 15 (by decide) (by decide)
  have e3 := c_maskL p1.toInt64 ((131072 : Int64) - 1) 17 (by decide) (by decide)
  have e4 := c_i2l p1
  have e5 := c_i2l (((p1 <<< ((15 : Int32) &&& 31)).toUInt32 >>> ((15 : Int32) &&& 31).toUInt32).toInt32)
  have e6 := c_maskL (((p1 <<< ((15 : Int32) &&& 31)).toUInt32 >>> ((15 : Int32) &&& 31).toUInt32).toInt32).toInt64 4294967295 32 (by decide) (by decide)
  have r1 := rng32 p1
  have r2 := rng32 (p1 <<< ((15 : Int32) &&& 31))
  apply Int64.toInt_inj.mp
  rw [e6, e5, e3, e4, e2]
  omega
theorem own_s16 (p1 : Int32) : ((p1 <<< ((16 : Int32) &&& 31)) >>> ((16 : Int32) &&& 31)).toInt64 = if p1.toInt64 &&& ((65536 : Int64) - 1) < (65536 : Int64) >>> ((1 : Int32) &&& 0x3f).toInt64 then p1.toInt64 &&& ((65536 : Int64) - 1) else (p1.toInt64 &&& ((65536 : Int64) - 1)) - 65536 := by
  have e1 := c_ishl p1 16 16 (by decide)
  have e2 := c_ishr (p1 <<< ((16 : Int32) &&& 31)) 16 16 (by decide)
  have e3 := c_maskL p1.toInt64 ((65536 : Int64) - 1) 16 (by decide) (by decide)
  have e4 := c_i2l p1
  have e5 := c_i2l ((p1 <<< ((16 : Int32) &&& 31)) >>> ((16 : Int32) &&& 31))
  have r1 := rng32 p1
  have r2 := rng32 (p1 <<< ((16 : Int32) &&& 31))
  have e6 : ((65536 : Int64) >>> ((1 : Int32) &&& 0x3f).toInt64) = (32768 : Int64) := by decide +kernel
  have e7 := c_lsub (p1.toInt64 &&& ((65536 : Int64) - 1)) (65536 : Int64)
  have r7 := rng64 ((p1.toInt64 &&& ((65536 : Int64) - 1)) - (65536 : Int64))
  have e8 : (65536 : Int64).toInt = 65536 := by decide +kernel
  have e9 : (32768 : Int64).toInt = 32768 := by decide +kernel
  rw [e6]
  rw [e8] at e7
  apply Int64.toInt_inj.mp
  rw [e5, e2]
  by_cases q : p1.toInt64 &&& ((65536 : Int64) - 1) < (32768 : Int64)
  · rw [if_pos q, e3, e4]
    rw [Int64.lt_iff_toInt_lt, e3, e4, e9] at q
    omega
  · rw [if_neg q]
    rw [Int64.lt_iff_toInt_lt, e3, e4, e9] at q
    omega
theorem own_n16 (p1 : Int32) : (((p1 <<< ((16 : Int32) &&& 31)).toUInt32 >>> ((16 : Int32) &&& 31).toUInt32).toInt32).toInt64 &&& (4294967295 : Int64) = p1.toInt64 &&& ((65536 : Int64) - 1) := by
  have e1 := c_ishl p1 16 16 (by decide)
  have e2 : (((p1 <<< ((16 : Int32) &&& 31)).toUInt32 >>> ((16 : Int32) &&& 31).toUInt32).toInt32).toInt = ((p1 <<< ((16 : Int32) &&& 31)).toInt % 4294967296) / (2 ^ 16 : Nat) := c_iushr _ 16 16 (by decide) (by decide)
  have e3 := c_maskL p1.toInt64 ((65536 : Int64) - 1) 16 (by decide) (by decide)
  have e4 := c_i2l p1
  have e5 := c_i2l (((p1 <<< ((16 : Int32) &&& 31)).toUInt32 >>> ((16 : Int32) &&& 31).toUInt32).toInt32)
  have e6 := c_maskL (((p1 <<< ((16 : Int32) &&& 31)).toUInt32 >>> ((16 : Int32) &&& 31).toUInt32).toInt32).toInt64 4294967295 32 (by decide) (by decide)
  have r1 := rng32 p1
  have r2 := rng32 (p1 <<< ((16 : Int32) &&& 31))
  apply Int64.toInt_inj.mp
  rw [e6, e5, e3, e4, e2]
  omega
theorem own_s17 (p1 : Int32) : ((p1 <<< ((17 : Int32) &&& 31)) >>> ((17 : Int32) &&& 31)).toInt64 = if p1.toInt64 &&& ((32768 : Int64) - 1) < (32768 : Int64) >>> ((1 : Int32) &&& 0x3f).toInt64 then p1.toInt64 &&& ((32768 : Int64) - 1) else (p1.toInt64 &&& ((32768 : Int64) - 1)) - 32768 := by
  have e1 := c_ishl p1 17 17 (by decide)
  have e2 := c_ishr (p1 <<< ((17 : Int32) &&& 31)) 17 17 (by decide)
  have e3 := c_maskL p1.toInt64 ((32768 : Int64) - 1) 15 (by decide) (by decide)
  have e4 := c_i2l p1
  have e5 := c_i2l ((p1 <<< ((17 : Int32) &&& 31)) >>> ((17 : Int32) &&& 31))
  have r1 := rng32 p1
  have r2 := rng32 (p1 <<< ((17 : Int32) &&& 31))
  have e6 : ((32768 : Int64) >>> ((1 : Int32) &&& 0x3f).toInt64) = (16384 : Int64) := by decide +kernel
  have e7 := c_lsub (p1.toInt64 &&& ((32768 : Int64) - 1)) (32768 : Int64)
  have r7 := rng64 ((p1.toInt64 &&& ((32768 : Int64) - 1)) - (32768 : Int64))
  have e8 : (32768 : Int64).toInt = 32768 := by decide +kernel
  have e9 : (16384 : Int64).toInt = 16384 := by decide +kernel
  rw [e6]
  rw [e8] at e7
  apply Int64.toInt_inj.mp
  rw [e5, e2]
  by_cases q : p1.toInt64 &&& ((32768 : Int64) - 1) < (16384 : Int64)
  · rw [if_pos q, e3, e4]
    rw [Int64.lt_iff_toInt_lt, e3, e4, e9] at q
    omega
  · rw [if_neg q]
    rw [Int64.lt_iff_toInt_lt, e3, e4, e9] at q
    omega
theorem own_n17 (p1 : Int32) : (((p1 <<< ((17 : Int32) &&& 31)).toUInt32 >>> ((17 : Int32) &&& 31).toUInt32).toInt32).toInt64 &&& (4294967295 : Int64) = p1.toInt64 &&& ((32768 : Int64) - 1) := by
  have e1 := c_ishl p1 17 17 (by decide)
  have e2 : (((p1 <<< ((17 : Int32) &&& 31)).toUInt32 >>> ((17 : Int32) &&& 31).toUInt32).toInt32).toInt = ((p1 <<< ((17 : Int32) &&& 31)).toInt % 4294967296) / (2 ^ 17 : Nat) := c_iushr _ 17 17 (by decide) (by decide)
  have e3 := c_maskL p1.toInt64 ((32768 : Int64) - 1) 15 (by decide) (by decide)
  have e4 := c_i2l p1
  have e5 := c_i2l (((p1 <<< ((17 : Int32) &&& 31)).toUInt32 >>> ((17 : Int32) &&& 31).toUInt32).toInt32)
  have e6 := c_maskL (((p1 <<< ((17 : Int32) &&& 31)).toUInt32 >>> ((17 : Int32) &&& 31).toUInt32).toInt32).toInt64 4294967295 32 (by decide) (by decide)
  have r1 := rng32 p1
  have r2 := rng32 (p1 <<< ((17 : Int32) &&& 31))
  apply Int64.toInt_inj.mp
  rw [e6, e5, e3, e4, e2]
  omega
theorem own_s18 (p1 : Int32) : ((p1 <<< ((18 : Int32) &&& 31)) >>> ((18 : Int32) &&& 31)).toInt64 = if p1.toInt64 &&& ((16384 : Int64) - 1) < (16384 : Int64) >>> ((1 : Int32) &&& 0x3f).toInt64 then p1.toInt64 &&& ((16384 : Int64) - 1) else (p1.toInt64 &&& ((16384 : Int64) - 1)) - 16384 := by
  have e1 := c_ishl p1 18 18 (by decide)
  have e2 := c_ishr (p1 <<< ((18 : Int32) &&& 31)) 18 18 (by decide)
  have e3 := c_maskL p1.toInt64 ((16384 : Int64) - 1) 14 (by decide) (by decide)
  have e4 := c_i2l p1
  have e5 := c_i2l ((p1 <<< ((18 : Int32) &&& 31)) >>> ((18 : Int32) &&& 31))
  have r1 := rng32 p1
  have r2 := rng32 (p1 <<< ((18 : Int32) &&& 31))
  have e6 : ((16384 : Int64) >>> ((1 : Int32) &&& 0x3f).toInt64) = (8192 : Int64) := by decide +kernel
  have e7 := c_lsub (p1.toInt64 &&& ((16384 : Int64) - 1)) (16384 : Int64)
  have r7 := rng64 ((p1.toInt64 &&& ((16384 : Int64) - 1)) - (16384 : Int64))
  have e8 : (16384 : Int64).toInt = 16384 := by decide +kernel
  have e9 : (8192 : Int64).toInt = 8192 := by decide +kernel
  rw [e6]
  rw [e8] at e7
  apply Int64.toInt_inj.mp
  rw [e5, e2]
  by_cases q : p1.toInt64 &&& ((16384 : Int64) - 1) < (8192 : Int64)
  · rw [if_pos q, e3, e4]
    rw [Int64.lt_iff_toInt_lt, e3, e4, e9] at q
    omega
  · rw [if_neg q]
    rw [Int64.lt_iff_toInt_lt, e3, e4, e9] at q
    omega
theorem own_n18 (p1 : Int32) : (((p1 <<< ((18 : Int32) &&& 31)).toUInt32 >>> ((18 : Int32) &&& 31).toUInt32).toInt32).toInt64 &&& (4294967295 : Int64) = p1.toInt64 &&& ((16384 : Int64) - 1) := by
  have e1 := c_ishl p1 18 18 (by decide)
  have e2 : (((p1 <<< ((18 : Int32) &&& 31)).toUInt32 >>> ((18 : Int32) &&& 31).toUInt32).toInt32).toInt = ((p1 <<< ((18 : Int32) &&& 31)).toInt % 4294967296) / (2 ^ 18 : Nat) := c_iushr _ 18 18 (by decide) (by decide)
  have e3 := c_maskL p1.toInt64 ((16384 : Int64) - 1) 14 (by decide) (by decide)
  have e4 := c_i2l p1
  have e5 := c_i2l (((p1 <<< ((18 : Int32) &&& 31)).toUInt32 >>> ((18 : Int32) &&& 31).toUInt32).toInt32)
  have e6 := c_maskL (((p1 <<< ((18 : Int32) &&& 31)).toUInt32 >>> ((18 : Int32) &&& 31).toUInt32).toInt32).toInt64 4294967295 32 (by decide) (by decide)
  have r1 := rng32 p1
  have r2 := rng32 (p1 <<< ((18 : Int32) &&& 31))
  apply Int64.toInt_inj.mp
  rw [e6, e5, e3, e4, e2]
  omega
theorem own_s19 (p1 : Int32) : ((p1 <<< ((19 : Int32) &&& 31)) >>> ((19 : Int32) &&& 31)).toInt64 = if p1.toInt64 &&& ((8192 : Int64) - 1) < (8192 : Int64) >>> ((1 : Int32) &&& 0x3f).toInt64 then p1.toInt64 &&& ((8192 : Int64) - 1) else (p1.toInt64 &&& ((8192 : Int64) - 1)) - 8192 := by
  have e1 := c_ishl p1 19 19 (by decide)
  have e2 := c_ishr (p1 <<< ((19 : Int32) &&& 31)) 19 19 (by decide)
  have e3 := c_maskL p1.toInt64 ((8192 : Int64) - 1) 13 (by decide) (by decide)
  have e4 := c_i2l p1
  have e5 := c_i2l ((p1 <<< ((19 : Int32) &&& 31)) >>> ((19 : Int32) &&& 31))
  have r1 := rng32 p1
  have r2 := rng32 (p1 <<< ((19 : Int32) &&& 31))
  have e6 : ((8192 : Int64) >>> ((1 : Int32) &&& 0x3f).toInt64) = (4096 : Int64) := by decide +kernel
  have e7 := c_lsub (p1.toInt64 &&& ((8192 : Int64) - 1)) (8192 : Int64)
  have r7 := rng64 ((p1.toInt64 &&& ((8192 : Int64) - 1)) - (8192 : Int64))
  have e8 : (8192 : Int64).toInt = 8192 := by decide +kernel
  have e9 : (4096 : Int64).toInt = 4096 := by decide +kernel
  rw [e6]
  rw [e8] at e7
  apply Int64.toInt_inj.mp
  rw [e5, e2]
  by_cases q : p1.toInt64 &&& ((8192 : Int64) - 1) < (4096 : Int64)
  · rw [if_pos q, e3, e4]
    rw [Int64.lt_iff_toInt_lt, e3, e4, e9] at q
    omega
  · rw [if_neg q]
    rw [Int64.lt_iff_toInt_lt, e3, e4, e9] at q
    omega
theorem own_n19 (p1 : Int32) : (((p1 <<< ((19 : Int32) &&& 31)).toUInt32 >>> ((19 : Int32) &&& 31).toUInt32).toInt32).toInt64 &&& (4294967295 : Int64) = p1.toInt64 &&& ((8192 : Int64) - 1) := by
  have e1 := c_ishl p1 19 19 (by decide)
  have e2 : (((p1 <<< ((19 : Int32) &&& 31)).toUInt32 >>> ((19 : Int32) &&& 31).toUInt32).toInt32).toInt = ((p1 <<< ((19 : Int32) &&& 31)).toInt % 4294967296) / (2 ^ 19 : Nat) := c_iushr _ 19 19 (by decide) (by decide)
  have e3 := c_maskL p1.toInt64 ((8192 : Int64) - 1) 13 (by decide) (by decide)
  have e4 := c_i2l p1
  have e5 := c_i2l (((p1 <<< ((19 : Int32) &&& 31)).toUInt32 >>> ((19 : Int32) &&& 31).toUInt32).toInt32)
  have e6 := c_maskL (((p1 <<< ((19 : Int32) &&& 31)).toUInt32 >>> ((19 : Int32) &&& 31).toUInt32).toInt32).toInt64 4294967295 32 (by decide) (by decide)
  have r1 := rng32 p1
  have r2 := rng32 (p1 <<< ((19 : Int32) &&& 31))
  apply Int64.toInt_inj.mp
  rw [e6, e5, e3, e4, e2]
  omega
theorem own_s20 (p1 : Int32) : ((p1 <<< ((20 : Int32) &&& 31)) >>> ((20 : Int32) &&& 31)).toInt64 = if p1.toInt64 &&& ((4096 : Int64) - 1) < (4096 : Int64) >>> ((1 : Int32) &&& 0x3f).toInt64 then p1.toInt64 &&& ((4096 : Int64) - 1) else (p1.toInt64 &&& ((4096 : Int64) - 1)) - 4096 := by
  have e1 := c_ishl p1 20 20 (by decide)
  have e2 := c_ishr (p1 <<< ((20 : Int32) &&& 31)) 20 20 (by decide)
  have e3 := c_maskL p1.toInt64 ((4096 : Int64) - 1) 12 (by decide) (by decide)
  have e4 := c_i2l p1
  have e5 := c_i2l ((p1 <<< ((20 : Int32) &&& 31)) >>> ((20 : Int32) &&& 31))
  have r1 := rng32 p1
  have r2 := rng32 (p1 <<< ((20 : Int32) &&& 31))
  have e6 : ((4096 : Int64) >>> ((1 : Int32) &&& 0x3f).toInt64) = (2048 : Int64) := by decide +kernel
  have e7 := c_lsub (p1.toInt64 &&& ((4096 : Int64) - 1)) (4096 : Int64)
  have r7 := rng64 ((p1.toInt64 &&& ((4096 : Int64) - 1)) - (4096 : Int64))
  have e8 : (4096 : Int64).toInt = 4096 := by decide +kernel
  have e9 : (2048 : Int64).toInt = 2048 := by decide +kernel
  rw [e6]
  rw [e8] at e7
  apply Int64.toInt_inj.mp
  rw [e5, e2]
  by_cases q : p1.toInt64 &&& ((4096 : Int64) - 1) < (2048 : Int64)
  · rw [if_pos q, e3, e4]
    rw [Int64.lt_iff_toInt_lt, e3, e4, e9] at q
    omega
  · rw [if_neg q]
    rw [Int64.lt_iff_toInt_lt, e3, e4, e9] at q
    omega
theorem own_n20 (p1 : Int32) : (((p1 <<< ((20 : Int32) &&& 31)).toUInt32 >>> ((20 : Int32) &&& 31).toUInt32).toInt32).toInt64 &&& (4294967295 : Int64) = p1.toInt64 &&& ((4096 : Int64) - 1) := by
  have e1 := c_ishl p1 20 20 (by decide)
  have e2 : (((p1 <<< ((20 : Int32) &&& 31)).toUInt32 >>> ((20 : Int32) &&& 31).toUInt32).toInt32).toInt = ((p1 <<< ((20 : Int32) &&& 31)).toInt % 4294967296) / (2 ^ 20 : Nat) := c_iushr _ 20 20 (by decide) (by decide)
  have e3 := c_maskL p1.toInt64 ((4096 : Int64) - 1) 12 (by decide) (by decide)
  have e4 := c_i2l p1
  have e5 := c_i2l (((p1 <<< ((20 : Int32) &&& 31)).toUInt32 >>> ((20 : Int32) &&& 31).toUInt32).toInt32)
  have e6 := c_maskL (((p1 <<< ((20 : Int32) &&& 31)).toUInt32 >>> ((20 : Int32) &&& 31).toUInt32).toInt32).toInt64 4294967295 32 (by decide) (by decide)
  have r1 := rng32 p1
  have r2 := rng32 (p1 <<< ((20 : Int32) &&& 31))
  apply Int64.toInt_inj.mp
  rw [e6, e5, e3, e4, e2]
  omega
theorem own_s21 (p1 : Int32) : ((p1 <<< ((21 : Int32) &&& 31)) >>> ((21 : Int32) &&& 31)).toInt64 = if p1.toInt64 &&& ((2048 : Int64) - 1) < (2048 : Int64) >>> ((1 : Int32) &&& 0x3f).toInt64 then p1.toInt64 &&& ((2048 : Int64) - 1) else (p1.toInt64 &&& ((2048 : Int64) - 1)) - 2048 := by
  have e1 := c_ishl p1 21 21 (by decide)
  have e2 := c_ishr (p1 <<< ((21 : Int32) &&& 31)) 21 21 (by decide)
  have e3 := c_maskL p1.toInt64 ((2048 : Int64) - 1) 11 (by decide) (by decide)
  have e4 := c_i2l p1
  have e5 := c_i2l ((p1 <<< ((21 : Int32) &&& 31)) >>> ((21 : Int32) &&& 31))
  have r1 := rng32 p1
  have r2 := rng32 (p1 <<< ((21 : Int32) &&& 31))
  have e6 : ((2048 : Int64) >>> ((1 : Int32) &&& 0x3f).toInt64) = (1024 : Int64) := by decide +kernel
  have e7 := c_lsub (p1.toInt64 &&& ((2048 : Int64) - 1)) (2048 : Int64)
  have r7 := rng64 ((p1.toInt64 &&& ((2048 : Int64) - 1)) - (2048 : Int64))
  have e8 : (2048 : Int64).toInt = 2048 := by decide +kernel
  have e9 : (1024 : Int64).toInt = 1024 := by decide +kernel
  rw [e6]
  rw [e8] at e7
  apply Int64.toInt_inj.mp
  rw [e5, e2]
  by_cases q : p1.toInt64 &&& ((2048 : Int64) - 1) < (1024 : Int64)
  · rw [if_pos q, e3, e4]
    rw [Int64.lt_iff_toInt_lt, e3, e4, e9] at q
    omega
  · rw [if_neg q]
    rw [Int64.lt_iff_toInt_lt, e3, e4, e9] at q
    omega
theorem own_n21 (p1 : Int32) : (((p1 <<< ((21 : Int32) &&& 31)).toUInt32 >>> ((21 : Int32) &&& 31).toUInt32).toInt32).toInt64 &&& (4294967295 : Int64) = p1.toInt64 &&& ((2048 : Int64) - 1) := by
  have e1 := c_ishl p1 21 21 (by decide)
  have e2 : (((p1 <<< ((21 : Int32) &&& 31)).toUInt32 >>> ((21 : Int32) &&& 31).toUInt32).toInt32).toInt = ((p1 <<< ((21 : Int32) &&& 31)).toInt % 4294967296) / (2 ^ 21 : Nat) := c_iushr _ 21 21 (by decide) (by decide)
  have e3 := c_maskL p1.toInt64 ((2048 : Int64) - 1) 11 (by decide) (by decide)
  have e4 := c_i2l p1
  have e5 := c_i2l (((p1 <<< ((21 : Int32) &&& 31)).toUInt32 >>> ((21 : Int32) &&& 31).toUInt32).toInt32)
  have e6 := c_maskL (((p1 <<< ((21 : Int32) &&& 31)).toUInt32 >>> ((21 : Int32) &&& 31).toUInt32).toInt32).toInt64 4294967295 32 (by decide) (by decide)
  have r1 := rng32 p1
  have r2 := rng32 (p1 <<< ((21 : Int32) &&& 31))
  apply Int64.toInt_inj.mp
  rw [e6, e5, e3, e4, e2]
  omega
theorem own_s22 (p1 : Int32) : ((p1 <<< ((22 : Int32) &&& 31)) >>> ((22 : Int32) &&& 31)).toInt64 = if p1.toInt64 &&& ((1024 : Int64) - 1) < (1024 : Int64) >>> ((1 : Int32) &&& 0x3f).toInt64 then p1.toInt64 &&& ((1024 : Int64) - 1) else (p1.toInt64 &&& ((1024 : Int64) - 1)) - 1024 := by
  have e1 := c_ishl p1 22 22 (by decide)
  have e2 := c_ishr (p1 <<< ((22 : Int32) &&& 31)) 22 22 (by decide)
  have e3 := c_maskL p1.toInt64 ((1024 : Int64) - 1) 10 (by decide) (by decide)
  have e4 := c_i2l p1
  have e5 := c_i2l ((p1 <<< ((22 : Int32) &&& 31)) >>> ((22 : Int32) &&& 31))
  have r1 := rng32 p1
  have r2 := rng32 (p1 <<< ((22 : Int32) &&& 31))
  have e6 : ((1024 : Int64) >>> ((1 : Int32) &&& 0x3f).toInt64) = (512 : Int64) := by decide +kernel
  have e7 := c_lsub (p1.toInt64 &&& ((1024 : Int64) - 1)) (1024 : Int64)
  have r7 := rng64 ((p1.toInt64 &&& ((1024 : Int64) - 1)) - (1024 : Int64))
  have e8 : (1024 : Int64).toInt = 1024 := by decide +kernel
  have e9 : (512 : Int64).toInt = 512 := by decide +kernel
  rw [e6]
  rw [e8] at e7
  apply Int64.toInt_inj.mp
  rw [e5, e2]
  by_cases q : p1.toInt64 &&& ((1024 : Int64) - 1) < (512 : Int64)
  · rw [if_pos q, e3, e4]
    rw [Int64.lt_iff_toInt_lt, e3, e4, e9] at q
    omega
  · rw [if_neg q]
    rw [Int64.lt_iff_toInt_lt, e3, e4, e9] at q
    omega
theorem own_n22 (p1 : Int32) : (((p1 <<< ((22 : Int32) &&& 31)).toUInt32 >>> ((22 : Int32) &&& 31).toUInt32).toInt32).toInt64 &&& (4294967295 : Int64) = p1.toInt64 &&& ((1024 : Int64) - 1) := by
  have e1 := c_ishl p1 22 22 (by decide)
  have e2 : (((p1 <<< ((22 : Int32) &&& 31)).toUInt32 >>> ((22 : Int32) &&& 31).toUInt32).toInt32).toInt = ((p1 <<< ((22 : Int32) &&& 31)).toInt % 4294967296) / (2 ^ 22 : Nat) := c_iushr _ 22 22 (by decide) (by decide)
  have e3 := c_maskL p1.toInt64 ((1024 : Int64) - 1) 10 (by decide) (by decide)
  have e4 := c_i2l p1
  have e5 := c_i2l (((p1 <<< ((22 : Int32) &&& 31)).toUInt32 >>> ((22 : Int32) &&& 31).toUInt32).toInt32)
  have e6 := c_maskL (((p1 <<< ((22 : Int32) &&& 31)).toUInt32 >>> ((22 : Int32) &&& 31).toUInt32).toInt32).toInt64 4294967295 32 (by decide) (by decide)
  have r1 := rng32 p1
  have r2 := rng32 (p1 <<< ((22 : Int32) &&& 31))
  apply Int64.toInt_inj.mp
  rw [e6, e5, e3, e4, e2]
  omega
theorem own_s23 (p1 : Int32) : ((p1 <<< ((23 : Int32) &&& 31)) >>> ((23 : Int32) &&& 31)).toInt64 = if p1.toInt64 &&& ((512 : Int64) - 1) < (512 : Int64) >>> ((1 : Int32) &&& 0x3f).toInt64 then p1.toInt64 &&& ((512 : Int64) - 1) else (p1.toInt64 &&& ((512 : Int64) - 1)) - 512 := by
  have e1 := c_ishl p1 23 23 (by decide)
  have e2 := c_ishr (p1 <<< ((23 : Int32) &&& 31)) 23 23 (by decide)
  have e3 := c_maskL p1.toInt64 ((512 : Int64) - 1) 9 (by decide) (by decide)
  have e4 := c_i2l p1
  have e5 := c_i2l ((p1 <<< ((23 : Int32) &&& 31)) >>> ((23 : Int32) &&& 31))
  have r1 := rng32 p1
  have r2 := rng32 (p1 <<< ((23 : Int32) &&& 31))
  have e6 : ((512 : Int64) >>> ((1 : Int32) &&& 0x3f).toInt64) = (256 : Int64) := by decide +kernel
  have e7 := c_lsub (p1.toInt64 &&& ((512 : Int64) - 1)) (512 : Int64)
  have r7 := rng64 ((p1.toInt64 &&& ((512 : Int64) - 1)) - (512 : Int64))
  have e8 : (512 : Int64).toInt = 512 := by decide +kernel
  have e9 : (256 : Int64).toInt = 256 := by decide +kernel
  rw [e6]
  rw [e8] at e7
  apply Int64.toInt_inj.mp
  rw [e5, e2]
  by_cases q : p1.toInt64 &&& ((512 : Int64) - 1) < (256 : Int64)
  · rw [if_pos q, e3, e4]
    rw [Int64.lt_iff_toInt_lt, e3, e4, e9] at q
    omega
  · rw [if_neg q]
    rw [Int64.lt_iff_toInt_lt, e3, e4, e9] at q
    omega
theorem own_n23 (p1 : Int32) : (((p1 <<< ((23 : Int32) &&& 31)).toUInt32 >>> ((23 : Int32) &&& 31).toUInt32).toInt32).toInt64 &&& (4294967295 : Int64) = p1.toInt64 &&& ((512 : Int64) - 1) := by
  have e1 := c_ishl p1 23 23 (by decide)
  have e2 : (((p1 <<< ((23 : Int32) &&& 31)).toUInt32 >>> ((23 : Int32) &&& 31).toUInt32).toInt32).toInt = ((p1 <<< ((23 : Int32) &&& 31)).toInt % 4294967296) / (2 ^ 23 : Nat) := c_iushr _ 23 23 (by decide) (by decide)
  have e3 := c_maskL p1.toInt64 ((512 : Int64) - 1) 9 (by decide) (by decide)
  have e4 := c_i2l p1
  have e5 := c_i2l (((p1 <<< ((23 : Int32) &&& 31)).toUInt32 >>> ((23 : Int32) &&& 31).toUInt32).toInt32)
  have e6 := c_maskL (((p1 <<< ((23 : Int32) &&& 31)).toUInt32 >>> ((23 : Int32) &&& 31).toUInt32).toInt32).toInt64 4294967295 32 (by decide) (by decide)
  have r1 := rng32 p1
  have r2 := rng32 (p1 <<< ((23 : Int32) &&& 31))
  apply Int64.toInt_inj.mp
  rw [e6, e5, e3, e4, e2]
  omega
theorem own_s24 (p1 : Int32) : ((p1 <<< ((24 : Int32) &&& 31)) >>> ((24 : Int32) &&& 31)).toInt64 = if p1.toInt64 &&& ((256 : Int64) - 1) < (256 : Int64) >>> ((1 : Int32) &&& 0x3f).toInt64 then p1.toInt64 &&& ((256 : Int64) - 1) else (p1.toInt64 &&& ((256 : Int64) - 1)) - 256 := by
  have e1 := c_ishl p1 24 24 (by decide)
  have e2 := c_ishr (p1 <<< ((24 : Int32) &&& 31)) 24 24 (by decide)
  have e3 := c_maskL p1.toInt64 ((256 : Int64) - 1) 8 (by decide) (by decide)
  have e4 := c_i2l p1
  have e5 := c_i2l ((p1 <<< ((24 : Int32) &&& 31)) >>> ((24 : Int32) &&& 31))
  have r1 := rng32 p1
  have r2 := rng32 (p1 <<< ((24 : Int32) &&& 31))
  have e6 : ((256 : Int64) >>> ((1 : Int32) &&& 0x3f).toInt64) = (128 : Int64) := by decide +kernel
  have e7 := c_lsub (p1.toInt64 &&& ((256 : Int64) - 1)) (256 : Int64)
  have r7 := rng64 ((p1.toInt64 &&& ((256 : Int64) - 1)) - (256 : Int64))
  have e8 : (256 : Int64).toInt = 256 := by decide +kernel
  have e9 : (128 : Int64).toInt = 128 := by decide +kernel
  rw [e6]
  rw [e8] at e7
  apply Int64.toInt_inj.mp
  rw [e5, e2]
  by_cases q : p1.toInt64 &&& ((256 : Int64) - 1) < (128 : Int64)
  · rw [if_pos q, e3, e4]
    rw [Int64.lt_iff_toInt_lt, e3, e4, e9] at q
    omega
  · rw [if_neg q]
    rw [Int64.lt_iff_toInt_lt, e3, e4, e9] at q
    omega
theorem own_n24 (p1 : Int32) : (((p1 <<< ((24 : Int32) &&& 31)).toUInt32 >>> ((24 : Int32) &&& 31).toUInt32).toInt32).toInt64 &&& (4294967295 : Int64) = p1.toInt64 &&& ((256 : Int64) - 1) := by
  have e1 := c_ishl p1 24 24 (by decide)
  have e2 : (((p1 <<< ((24 : Int32) &&& 31)).toUInt32 >>> ((24 : Int32) &&& 31).toUInt32).toInt32).toInt = ((p1 <<< ((24 : Int32) &&& 31)).toInt % 4294967296) / (2 ^ 24 : Nat) := c_iushr _ 24 24 (by decide) (by decide)
  have e3 := c_maskL p1.toInt64 ((256 : Int64) - 1) 8 (by decide) (by decide)
  have e4 := c_i2l p1
  have e5 := c_i2l (((p1 <<< ((24 : Int32) &&& 31)).toUInt32 >>> ((24 : Int32) &&& 31).toUInt32).toInt32)
  have e6 := c_maskL (((p1 <<< ((24 : Int32) &&& 31)).toUInt32 >>> ((24 : Int32) &&& 31).toUInt32).toInt32).toInt64 4294967295 32 (by decide) (by decide)
  have r1 := rng32 p1
  have r2 := rng32 (p1 <<< ((24 : Int32) &&& 31))
  apply Int64.toInt_inj.mp
  rw [e6, e5, e3, e4, e2]
  omega
theorem own_s25 (p1 : Int32) : ((p1 <<< ((25 : Int32) &&& 31)) >>> ((25 : Int32) &&& 31)).toInt64 = if p1.toInt64 &&& ((128 : Int64) - 1) < (128 : Int64) >>> ((1 : Int32) &&& 0x3f).toInt64 then p1.toInt64 &&& ((128 : Int64) - 1) else (p1.toInt64 &&& ((128 : Int64) - 1)) - 128 := by
  have e1 := c_ishl p1 25 25 (by decide)
  have e2 := c_ishr (p1 <<< ((25 : Int32) &&& 31)) 25 25 (by decide)
  have e3 := c_maskL p1.toInt64 ((128 : Int64) - 1) 7 (by decide) (by decide)
  have e4 := c_i2l p1
  have e5 := c_i2l ((p1 <<< ((25 : Int32) &&& 31)) >>> ((25 : Int32) &&& 31))
  have r1 := rng32 p1
  have r2 := rng32 (p1 <<< ((25 : Int32) &&& 31))
  have e6 : ((128 : Int64) >>> ((1 : Int32) &&& 0x3f).toInt64) = (64 : Int64) := by decide +kernel
  have e7 := c_lsub (p1.toInt64 &&& ((128 : Int64) - 1)) (128 : Int64)
  have r7 := rng64 ((p1.toInt64 &&& ((128 : Int64) - 1)) - (128 : Int64))
  have e8 : (128 : Int64).toInt = 128 := by decide +kernel
  have e9 : (64 : Int64).toInt = 64 := by decide +kernel
  rw [e6]
  rw [e8] at e7
  apply Int64.toInt_inj.mp
  rw [e5, e2]
  by_cases q : p1.toInt64 &&& ((128 : Int64) - 1) < (64 : Int64)
  · rw [if_pos q, e3, e4]
    rw [Int64.lt_iff_toInt_lt, e3, e4, e9] at q
    omega
  · rw [if_neg q]
    rw [Int64.lt_iff_toInt_lt, e3, e4, e9] at q
    omega
theorem own_n25 (p1 : Int32) : (((p1 <<< ((25 : Int32) &&& 31)).toUInt32 >>> ((25 : Int32) &&& 31).toUInt32).toInt32).toInt64 &&& (4294967295 : Int64) = p1.toInt64 &&& ((128 : Int64) - 1) := by
  have e1 := c_ishl p1 25 25 (by decide)
  have e2 : (((p1 <<< ((25 : Int32) &&& 31)).toUInt32 >>> ((25 : Int32) &&& 31).toUInt32).toInt32).toInt = ((p1 <<< ((25 : Int32) &&& 31)).toInt % 4294967296) / (2 ^ 25 : Nat) := c_iushr _ 25 25 (by decide) (by decide)
  have e3 := c_maskL p1.toInt64 ((128 : Int64) - 1) 7 (by decide) (by decide)
  have e4 := c_i2l p1
  have e5 := c_i2l (((p1 <<< ((25 : Int32) &&& 31)).toUInt32 >>> ((25 : Int32) &&& 31).toUInt32).toInt32)
  have e6 := c_maskL (((p1 <<< ((25 : Int32) &&& 31)).toUInt32 >>> ((25 : Int32) &&& 31).toUInt32).toInt32).toInt64 4294967295 32 (by decide) (by decide)
  have r1 := rng32 p1
  have r2 := rng32 (p1 <<< ((25 : Int32) &&& 31))
  apply Int64.toInt_inj.mp
  rw [e6, e5, e3, e4, e2]
  omega
theorem own_s26 (p1 : Int32) : ((p1 <<< ((26 : Int32) &&& 31)) >>> ((26 : Int32) &&& 31)).toInt64 = if p1.toInt64 &&& ((64 : Int64) - 1) < (64 : Int64) >>> ((1 : Int32) &&& 0x3f).toInt64 then p1.toInt64 &&& ((64 : Int64) - 1) else (p1.toInt64 &&& ((64 : Int64) - 1)) - 64 := by
  have e1 := c_ishl p1 26 26 (by decide)
  have e2 := c_ishr (p1 <<< ((26 : Int32) &&& 31)) 26 26 (by decide)
  have e3 := c_maskL p1.toInt64 ((64 : Int64) - 1) 6 (by decide) (by decide)
  have e4 := c_i2l p1
  have e5 := c_i2l ((p1 <<< ((26 : Int32) &&& 31)) >>> ((26 : Int32) &&& 31))
  have r1 := rng32 p1
  have r2 := rng32 (p1 <<< ((26 : Int32) &&& 31))
  have e6 : ((64 : Int64) >>> ((1 : Int32) &&& 0x3f).toInt64) = (32 : Int64) := by decide +kernel
  have e7 := c_lsub (p1.toInt64 &&& ((64 : Int64) - 1)) (64 : Int64)
  have r7 := rng64 ((p1.toInt64 &&& ((64 : Int64) - 1)) - (64 : Int64))
  have e8 : (64 : Int64).toInt = 64 := by decide +kernel
  have e9 : (32 : Int64).toInt = 32 := by decide +kernel
  rw [e6]
  rw [e8] at e7
  apply Int64.toInt_inj.mp
  rw [e5, e2]
  by_cases q : p1.toInt64 &&& ((64 : Int64) - 1) < (32 : Int64)
  · rw [if_pos q, e3, e4]
    rw [Int64.lt_iff_toInt_lt, e3, e4, e9] at q
    omega
  · rw [if_neg q]
    rw [Int64.lt_iff_toInt_lt, e3, e4, e9] at q
    omega
theorem own_n26 (p1 : Int32) : (((p1 <<< ((26 : Int32) &&& 31)).toUInt32 >>> ((26 : Int32) &&& 31).toUInt32).toInt32).toInt64 &&& (4294967295 : Int64) = p1.toInt64 &&& ((64 : Int64) - 1) := by
  have e1 := c_ishl p1 26 26 (by decide)
  have e2 : (((p1 <<< ((26 : Int32) &&& 31)).toUInt32 >>> ((26 : Int32) &&& 31).toUInt32).toInt32).toInt = ((p1 <<< ((26 : Int32) &&& 31)).toInt % 4294967296) / (2 ^ 26 : Nat) := c_iushr _ 26 26 (by decide) (by decide)
  have e3 := c_maskL p1.toInt64 ((64 : Int64) - 1) 6 (by decide) (by decide)
  have e4 := c_i2l p1
  have e5 := c_i2l (((p1 <<< ((26 : Int32) &&& 31)).toUInt32 >>> ((26 : Int32) &&& 31).toUInt32).toInt32)
  have e6 := c_maskL (((p1 <<< ((26 : Int32) &&& 31)).toUInt32 >>> ((26 : Int32) &&& 31).toUInt32).toInt32).toInt64 4294967295 32 (by decide) (by decide)
  have r1 := rng32 p1
  have r2 := rng32 (p1 <<< ((26 : Int32) &&& 31))
  apply Int64.toInt_inj.mp
  rw [e6, e5, e3, e4, e2]
  omega
theorem own_s27 (p1 : Int32) : ((p1 <<< ((27 : Int32) &&& 31)) >>> ((27 : Int32) &&& 31)).toInt64 = if p1.toInt64 &&& ((32 : Int64) - 1) < (32 : Int64) >>> ((1 : Int32) &&& 0x3f).toInt64 then p1.toInt64 &&& ((32 : Int64) - 1) else (p1.toInt64 &&& ((32 : Int64) - 1)) - 32 := by
  have e1 := c_ishl p1 27 27 (by decide)
  have e2 := c_ishr (p1 <<< ((27 : Int32) &&& 31)) 27 27 (by decide)
  have e3 := c_maskL p1.toInt64 ((32 : Int64) - 1) 5 (by decide) (by decide)
  have e4 := c_i2l p1
  have e5 := c_i2l ((p1 <<< ((27 : Int32) &&& 31)) >>> ((27 : Int32) &&& 31))
  have r1 := rng32 p1
  have r2 := rng32 (p1 <<< ((27 : Int32) &&& 31))
  have e6 : ((32 : Int64) >>> ((1 : Int32) &&& 0x3f).toInt64) = (16 : Int64) := by decide +kernel
  have e7 := c_lsub (p1.toInt64 &&& ((32 : Int64) - 1)) (32 : Int64)
  have r7 := rng64 ((p1.toInt64 &&& ((32 : Int64) - 1)) - (32 : Int64))
  have e8 : (32 : Int64).toInt = 32 := by decide +kernel
  have e9 : (16 : Int64).toInt = 16 := by decide +kernel
  rw [e6]
  rw [e8] at e7
  apply Int64.toInt_inj.mp
  rw [e5, e2]
  by_cases q : p1.toInt64 &&& ((32 : Int64) - 1) < (16 : Int64)
  · rw [if_pos q, e3, e4]
    rw [Int64.lt_iff_toInt_lt, e3, e4, e9] at q
    omega
  · rw [if_neg q]
    rw [Int64.lt_iff_toInt_lt, e3, e4, e9] at q
    omega
theorem own_n27 (p1 : Int32) : (((p1 <<< ((27 : Int32) &&& 31)).toUInt32 >>> ((27 : Int32) &&& 31).toUInt32).toInt32).toInt64 &&& (4294967295 : Int64) = p1.toInt64 &&& ((32 : Int64) - 1) := by
  have e1 := c_ishl p1 27 27 (by decide)
  have e2 : (((p1 <<< ((27 : Int32) &&& 31)).toUInt32 >>> ((27 : Int32) &&& 31).toUInt32).toInt32).toInt = ((p1 <<< ((27 : Int32) &&& 31)).toInt % 4294967296) / (2 ^ 27 : Nat) := c_iushr _ 27 27 (by decide) (by decide)
  have e3 := c_maskL p1.toInt64 ((32 : Int64) - 1) 5 (by decide) (by decide)
  have e4 := c_i2l p1
  have e5 := c_i2l (((p1 <<< ((27 : Int32) &&& 31)).toUInt32 >>> ((27 : Int32) &&& 31).toUInt32).toInt32)
  have e6 := c_maskL (((p1 <<< ((27 : Int32) &&& 31)).toUInt32 >>> ((27 : Int32) &&& 31).toUInt32).toInt32).toInt64 4294967295 32 (by decide) (by decide)
  have r1 := rng32 p1
  have r2 := rng32 (p1 <<< ((27 : Int32) &&& 31))
  apply Int64.toInt_inj.mp
  rw [e6, e5, e3, e4, e2]
  omega
theorem own_s28 (p1 : Int32) : ((p1 <<< ((28 : Int32) &&& 31)) >>> ((28 : Int32) &&& 31)).toInt64 = if p1.toInt64 &&& ((16 : Int64) - 1) < (16 : Int64) >>> ((1 : Int32) &&& 0x3f).toInt64 then p1.toInt64 &&& ((16 : Int64) - 1) else (p1.toInt64 &&& ((16 : Int64) - 1)) - 16 := by
  have e1 := c_ishl p1 28 28 (by decide)
  have e2 := c_ishr (p1 <<< ((28 : Int32) &&& 31)) 28 28 (by decide)
  have e3 := c_maskL p1.toInt64 ((16 : Int64) - 1) 4 (by decide) (by decide)
  have e4 := c_i2l p1
  have e5 := c_i2l ((p1 <<< ((28 : Int32) &&& 31)) >>> ((28 : Int32) &&& 31))
  have r1 := rng32 p1
  have r2 := rng32 (p1 <<< ((28 : Int32) &&& 31))
  have e6 : ((16 : Int64) >>> ((1 : Int32) &&& 0x3f).toInt64) = (8 : Int64) := by decide +kernel
  have e7 := c_lsub (p1.toInt64 &&& ((16 : Int64) - 1)) (16 : Int64)
  have r7 := rng64 ((p1.toInt64 &&& ((16 : Int64) - 1)) - (16 : Int64))
  have e8 : (16 : Int64).toInt = 16 := by decide +kernel
  have e9 : (8 : Int64).toInt = 8 := by decide +kernel
  rw [e6]
  rw [e8] at e7
  apply Int64.toInt_inj.mp
  rw [e5, e2]
  by_cases q : p1.toInt64 &&& ((16 : Int64) - 1) < (8 : Int64)
  · rw [if_pos q, e3, e4]
    rw [Int64.lt_iff_toInt_lt, e3, e4, e9] at q
    omega
  · rw [if_neg q]
    rw [Int64.lt_iff_toInt_lt, e3, e4, e9] at q
    omega
theorem own_n28 (p1 : Int32) : (((p1 <<< ((28 : Int32) &&& 31)).toUInt32 >>> ((28 : Int32) &&& 31).toUInt32).toInt32).toInt64 &&& (4294967295 : Int64) = p1.toInt64 &&& ((16 : Int64) - 1) := by
  have e1 := c_ishl p1 28 28 (by decide)
  have e2 : (((p1 <<< ((28 : Int32) &&& 31)).toUInt32 >>> ((28 : Int32) &&& 31).toUInt32).toInt32).toInt = ((p1 <<< ((28 : Int32) &&& 31)).toInt % 4294967296) / (2 ^ 28 : Nat) := c_iushr _ 28 28 (by decide) (by decide)
  have e3 := c_maskL p1.toInt64 ((16 : Int64) - 1) 4 (by decide) (by decide)
  have e4 := c_i2l p1
  have e5 := c_i2l (((p1 <<< ((28 : Int32) &&& 31)).toUInt32 >>> ((28 : Int32) &&& 31).toUInt32).toInt32)
  have e6 := c_maskL (((p1 <<< ((28 : Int32) &&& 31)).toUInt32 >>> ((28 : Int32) &&& 31).toUInt32).toInt32).toInt64 4294967295 32 (by decide) (by decide)
  have r1 := rng32 p1
  have r2 := rng32 (p1 <<< ((28 : Int32) &&& 31))
  apply Int64.toInt_inj.mp
  rw [e6, e5, e3, e4, e2]
  omega
theorem own_s29 (p1 : Int32) : ((p1 <<< ((29 : Int32) &&& 31)) >>> ((29 : Int32) &&& 31)).toInt64 = if p1.toInt64 &&& ((8 : Int64) - 1) < (8 : Int64) >>> ((1 : Int32) &&& 0x3f).toInt64 then p1.toInt64 &&& ((8 : Int64) - 1) else (p1.toInt64 &&& ((8 : Int64) - 1)) - 8 := by
  have e1 := c_ishl p1 29 29 (by decide)
  have e2 := c_ishr (p1 <<< ((29 : Int32) &&& 31)) 29 29 (by decide)
  have e3 := c_maskL p1.toInt64 ((8 : Int64) - 1) 3 (by decide) (by decide)
  have e4 := c_i2l p1
  have e5 := c_i2l ((p1 <<< ((29 : Int32) &&& 31)) >>> ((29 : Int32) &&& 31))
  have r1 := rng32 p1
  have r2 := rng32 (p1 <<< ((29 : Int32) &&& 31))
  have e6 : ((8 : Int64) >>> ((1 : Int32) &&& 0x3f).toInt64) = (4 : Int64) := by decide +kernel
  have e7 := c_lsub (p1.toInt64 &&& ((8 : Int64) - 1)) (8 : Int64)
  have r7 := rng64 ((p1.toInt64 &&& ((8 : Int64) - 1)) - (8 : Int64))
  have e8 : (8 : Int64).toInt = 8 := by decide +kernel
  have e9 : (4 : Int64).toInt = 4 := by decide +kernel
  rw [e6]
  rw [e8] at e7
  apply Int64.toInt_inj.mp
  rw [e5, e2]
  by_cases q : p1.toInt64 &&& ((8 : Int64) - 1) < (4 : Int64)
  · rw [if_pos q, e3, e4]
    rw [Int64.lt_iff_toInt_lt, e3, e4, e9] at q
    omega
  · rw [if_neg q]
    rw [Int64.lt_iff_toInt_lt, e3, e4, e9] at q
    omega
theorem own_n29 (p1 : Int32) : (((p1 <<< ((29 : Int32) &&& 31)).toUInt32 >>> ((29 : Int32) &&& 31).toUInt32).toInt32).toInt64 &&& (4294967295 : Int64) = p1.toInt64 &&& ((8 : Int64) - 1) := by
  have e1 := c_ishl p1 29 29 (by decide)
  have e2 : (((p1 <<< ((29 : Int32) &&& 31)).toUInt32 >>> ((29 : Int32) &&& 31).toUInt32).toInt32).toInt = ((p1 <<< ((29 : Int32) &&& 31)).toInt % 4294967296) / (2 ^ 29 : Nat) := c_iushr _ 29 29 (by decide) (by decide)
  have e3 := c_maskL p1.toInt64 ((8 : Int64) - 1) 3 (by decide) (by decide)
  have e4 := c_i2l p1
  have e5 := c_i2l (((p1 <<< ((29 : Int32) &&& 31)).toUInt32 >>> ((29 : Int32) &&& 31).toUInt32).toInt32)
  have e6 := c_maskL (((p1 <<< ((29 : Int32) &&& 31)).toUInt32 >>> ((29 : Int32) &&& 31).toUInt32).toInt32).toInt64 4294967295 32 (by decide) (by decide)
  have r1 := rng32 p1
  have r2 := rng32 (p1 <<< ((29 : Int32) &&& 31))
  apply Int64.toInt_inj.mp
  rw [e6, e5, e3, e4, e2]
  omega
theorem own_s30 (p1 : Int32) : ((p1 <<< ((30 : Int32) &&& 31)) >>> ((30 : Int32) &&& 31)).toInt64 = if p1.toInt64 &&& ((4 : Int64) - 1) < (4 : Int64) >>> ((1 : Int32) &&& 0x3f).toInt64 then p1.toInt64 &&& ((4 : Int64) - 1) else (p1.toInt64 &&& ((4 : Int64) - 1)) - 4 := by
  have e1 := c_ishl p1 30 30 (by decide)
  have e2 := c_ishr (p1 <<< ((30 : Int32) &&& 31)) 30 30 (by decide)
  have e3 := c_maskL p1.toInt64 ((4 : Int64) - 1) 2 (by decide) (by decide)
  have e4 := c_i2l p1
  have e5 := c_i2l ((p1 <<< ((30 : Int32) &&& 31)) >>> ((30 : Int32) &&& 31))
  have r1 := rng32 p1
  have r2 := rng32 (p1 <<< ((30 : Int32) &&& 31))
  have e6 : ((4 : Int64) >>> ((1 : Int32) &&& 0x3f).toInt64) = (2 : Int64) := by decide +kernel
  have e7 := c_lsub (p1.toInt64 &&& ((4 : Int64) - 1)) (4 : Int64)
  have r7 := rng64 ((p1.toInt64 &&& ((4 : Int64) - 1)) - (4 : Int64))
  have e8 : (4 : Int64).toInt = 4 := by decide +kernel
  have e9 : (2 : Int64).toInt = 2 := by decide +kernel
  rw [e6]
  rw [e8] at e7
  apply Int64.toInt_inj.mp
  rw [e5, e2]
  by_cases q : p1.toInt64 &&& ((4 : Int64) - 1) < (2 : Int64)
  · rw [if_pos q, e3, e4]
    rw [Int64.lt_iff_toInt_lt, e3, e4, e9] at q
    omega
  · rw [if_neg q]
    rw [Int64.lt_iff_toInt_lt, e3, e4, e9] at q
    omega
theorem own_n30 (p1 : Int32) : (((p1 <<< ((30 : Int32) &&& 31)).toUInt32 >>> ((30 : Int32) &&& 31).toUInt32).toInt32).toInt64 &&& (4294967295 : Int64) = p1.toInt64 &&& ((4 : Int64) - 1) := by
  have e1 := c_ishl p1 30 30 (by decide)
  have e2 : (((p1 <<< ((30 : Int32) &&& 31)).toUInt32 >>> ((30 : Int32) &&& 31).toUInt32).toInt32).toInt = ((p1 <<< ((30 : Int32) &&& 31)).toInt % 4294967296) / (2 ^ 30 : Nat) := c_iushr _ 30 30 (by decide) (by decide)
  have e3 := c_maskL p1.toInt64 ((4 : Int64) - 1) 2 (by decide) (by decide)
  have e4 := c_i2l p1
  have e5 := c_i2l (((p1 <<< ((30 : Int32) &&& 31)).toUInt32 >>> ((30 : Int32) &&& 31).toUInt32).toInt32)
  have e6 := c_maskL (((p1 <<< ((30 : Int32) &&& 31)).toUInt32 >>> ((30 : Int32) &&& 31).toUInt32).toInt32).toInt64 4294967295 32 (by decide) (by decide)
  have r1 := rng32 p1
  have r2 := rng32 (p1 <<< ((30 : Int32) &&& 31))
  apply Int64.toInt_inj.mp
  rw [e6, e5, e3, e4, e2]
  omega
theorem own_s31 (p1 : Int32) : ((p1 <<< ((31 : Int32) &&& 31)) >>> ((31 : Int32) &&& 31)).toInt64 = if p1.toInt64 &&& ((2 : Int64) - 1) < (2 : Int64) >>> ((1 : Int32) &&& 0x3f).toInt64 then p1.toInt64 &&& ((2 : Int64) - 1) else (p1.toInt64 &&& ((2 : Int64) - 1)) - 2 := by
  have e1 := c_ishl p1 31 31 (by decide)
  have e2 := c_ishr (p1 <<< ((31 : Int32) &&& 31)) 31 31 (by decide)
  have e3 := c_maskL p1.toInt64 ((2 : Int64) - 1) 1 (by decide) (by decide)
  have e4 := c_i2l p1
  have e5 := c_i2l ((p1 <<< ((31 : Int32) &&& 31)) >>> ((31 : Int32) &&& 31))
  have r1 := rng32 p1
  have r2 := rng32 (p1 <<< ((31 : Int32) &&& 31))
  have e6 : ((2 : Int64) >>> ((1 : Int32) &&& 0x3f).toInt64) = (1 : Int64) := by decide +kernel
  have e7 := c_lsub (p1.toInt64 &&& ((2 : Int64) - 1)) (2 : Int64)
  have r7 := rng64 ((p1.toInt64 &&& ((2 : Int64) - 1)) - (2 : Int64))
  have e8 : (2 : Int64).toInt = 2 := by decide +kernel
  have e9 : (1 : Int64).toInt = 1 := by decide +kernel
  rw [e6]
  rw [e8] at e7
  apply Int64.toInt_inj.mp
  rw [e5, e2]
  by_cases q : p1.toInt64 &&& ((2 : Int64) - 1) < (1 : Int64)
  · rw [if_pos q, e3, e4]
    rw [Int64.lt_iff_toInt_lt, e3, e4, e9] at q
    omega
  · rw [if_neg q]
    rw [Int64.lt_iff_toInt_lt, e3, e4, e9] at q
    omega
theorem own_n31 (p1 : Int32) : (((p1 <<< ((31 : Int32) &&& 31)).toUInt32 >>> ((31 : Int32) &&& 31).toUInt32).toInt32).toInt64 &&& (4294967295 : Int64) = p1.toInt64 &&& ((2 : Int64) - 1) := by
  have e1 := c_ishl p1 31 31 (by decide)
  have e2 : (((p1 <<< ((31 : Int32) &&& 31)).toUInt32 >>> ((31 : Int32) &&& 31).toUInt32).toInt32).toInt = ((p1 <<< ((31 : Int32) &&& 31)).toInt % 4294967296) / (2 ^ 31 : Nat) := c_iushr _ 31 31 (by decide) (by decide)
  have e3 := c_maskL p1.toInt64 ((2 : Int64) - 1) 1 (by decide) (by decide)
  have e4 := c_i2l p1
  have e5 := c_i2l (((p1 <<< ((31 : Int32) &&& 31)).toUInt32 >>> ((31 : Int32) &&& 31).toUInt32).toInt32)
  have e6 := c_maskL (((p1 <<< ((31 : Int32) &&& 31)).toUInt32 >>> ((31 : Int32) &&& 31).toUInt32).toInt32).toInt64 4294967295 32 (by decide) (by decide)
  have r1 := rng32 p1
  have r2 := rng32 (p1 <<< ((31 : Int32) &&& 31))
  apply Int64.toInt_inj.mp
  rw [e6, e5, e3, e4, e2]
  omega
theorem own_plain (p1 p2 p3 : Int32) : F0 p1 p2 p3 = 1 := by
  obtain ⟨i, hi, hu⟩ := own_u p2
  have hh : i = 0 ∨ i = 1 ∨ i = 2 ∨ i = 3 ∨ i = 4 ∨ i = 5 ∨ i = 6 ∨ i = 7 ∨ i = 8 ∨ i = 9 ∨ i = 10 ∨ i = 11 ∨ i = 12 ∨ i = 13 ∨ i = 14 ∨ i = 15 ∨ i = 16 ∨ i = 17 ∨ i = 18 ∨ i = 19 ∨ i = 20 ∨ i = 21 ∨ i = 22 ∨ i = 23 ∨ i = 24 ∨ i = 25 ∨ i = 26 ∨ i = 27 ∨ i = 28 ∨ i = 29 ∨ i = 30 ∨ i = 31 := by omega
  unfold F0 g0_2 g0_1 F1
  rw [hu]
  rcases hh with rfl | rfl | rfl | rfl | rfl | rfl | rfl | rfl | rfl | rfl | rfl | rfl | rfl | rfl | rfl | rfl | rfl | rfl | rfl | rfl | rfl | rfl | rfl | rfl | rfl | rfl | rfl | rfl | rfl | rfl | rfl | rfl
  · have m1 : ((1 : Int64) <<< (((32 : Int32) - (Int32.ofNat 0)) &&& 0x3f).toInt64) = (4294967296 : Int64) := by decide +kernel
    have m2 : (Int32.ofNat 0) = (0 : Int32) := by decide +kernel
    rw [m1, m2]
    have n := own_n0 p1
    have s := own_s0 p1
    by_cases q : p3 &&& (1 : Int32) = (0 : Int32)
    · rw [if_pos q, if_pos rfl, if_pos n]
    · rw [if_neg q, if_neg (show ¬ (1 : Int32) = 0 from by decide)]
      by_cases z : p1.toInt64 &&& ((4294967296 : Int64) - 1) < (4294967296 : Int64) >>> ((1 : Int32) &&& 0x3f).toInt64
      · rw [if_pos z] at s
        rw [if_pos z, if_pos s]
      · rw [if_neg z] at s
        rw [if_neg z, if_pos s]
  · have m1 : ((1 : Int64) <<< (((32 : Int32) - (Int32.ofNat 1)) &&& 0x3f).toInt64) = (2147483648 : Int64) := by decide +kernel
    have m2 : (Int32.ofNat 1) = (1 : Int32) := by decide +kernel
    rw [m1, m2]
    have n := own_n1 p1
    have s := own_s1 p1
    by_cases q : p3 &&& (1 : Int32) = (0 : Int32)
    · rw [if_pos q, if_pos rfl, if_pos n]
    · rw [if_neg q, if_neg (show ¬ (1 : Int32) = 0 from by decide)]
      by_cases z : p1.toInt64 &&& ((2147483648 : Int64) - 1) < (2147483648 : Int64) >>> ((1 : Int32) &&& 0x3f).toInt64
      · rw [if_pos z] at s
        rw [if_pos z, if_pos s]
      · rw [if_neg z] at s
        rw [if_neg z, if_pos s]
  · have m1 : ((1 : Int64) <<< (((32 : Int32) - (Int32.ofNat 2)) &&& 0x3f).toInt64) = (1073741824 : Int64) := by decide +kernel
    have m2 : (Int32.ofNat 2) = (2 : Int32) := by decide +kernel
    rw [m1, m2]
    have n := own_n2 p1
    have s := own_s2 p1
    by_cases q : p3 &&& (1 : Int32) = (0 : Int32)
    · rw [if_pos q, if_pos rfl, if_pos n]
    · rw [if_neg q, if_neg (show ¬ (1 : Int32) = 0 from by decide)]
      by_cases z : p1.toInt64 &&& ((1073741824 : Int64) - 1) < (1073741824 : Int64) >>> ((1 : Int32) &&& 0x3f).toInt64
      · rw [if_pos z] at s
        rw [if_pos z, if_pos s]
      · rw [if_neg z] at s
        rw [if_neg z, if_pos s]
  · have m1 : ((1 : Int64) <<< (((32 : Int32) - (Int32.ofNat 3)) &&& 0x3f).toInt64) = (536870912 : Int64) := by decide +kernel
    have m2 : (Int32.ofNat 3) = (3 : Int32) := by decide +kernel
    rw [m1, m2]
    have n := own_n3 p1
    have s := own_s3 p1
    by_cases q : p3 &&& (1 : Int32) = (0 : Int32)
    · rw [if_pos q, if_pos rfl, if_pos n]
    · rw [if_neg q, if_neg (show ¬ (1 : Int32) = 0 from by decide)]
      by_cases z : p1.toInt64 &&& ((536870912 : Int64) - 1) < (536870912 : Int64) >>> ((1 : Int32) &&& 0x3f).toInt64
      · rw [if_pos z] at s
        rw [if_pos z, if_pos s]
      · rw [if_neg z] at s
        rw [if_neg z, if_pos s]
  · have m1 : ((1 : Int64) <<< (((32 : Int32) - (Int32.ofNat 4)) &&& 0x3f).toInt64) = (268435456 : Int64) := by decide +kernel
    have m2 : (Int32.ofNat 4) = (4 : Int32) := by decide +kernel
    rw [m1, m2]
    have n := own_n4 p1
    have s := own_s4 p1
    by_cases q : p3 &&& (1 : Int32) = (0 : Int32)
    · rw [if_pos q, if_pos rfl, if_pos n]
    · rw [if_neg q, if_neg (show ¬ (1 : Int32) = 0 from by decide)]
      by_cases z : p1.toInt64 &&& ((268435456 : Int64) - 1) < (268435456 : Int64) >>> ((1 : Int32) &&& 0x3f).toInt64
      · rw [if_pos z] at s
        rw [if_pos z, if_pos s]
      · rw [if_neg z] at s
        rw [if_neg z, if_pos s]
  · have m1 : ((1 : Int64) <<< (((32 : Int32) - (Int32.ofNat 5)) &&& 0x3f).toInt64) = (134217728 : Int64) := by decide +kernel
    have m2 : (Int32.ofNat 5) = (5 : Int32) := by decide +kernel
    rw [m1, m2]
    have n := own_n5 p1
    have s := own_s5 p1
    by_cases q : p3 &&& (1 : Int32) = (0 : Int32)
    · rw [if_pos q, if_pos rfl, if_pos n]
    · rw [if_neg q, if_neg (show ¬ (1 : Int32) = 0 from by decide)]
      by_cases z : p1.toInt64 &&& ((134217728 : Int64) - 1) < (134217728 : Int64) >>> ((1 : Int32) &&& 0x3f).toInt64
      · rw [if_pos z] at s
        rw [if_pos z, if_pos s]
      · rw [if_neg z] at s
        rw [if_neg z, if_pos s]
  · have m1 : ((1 : Int64) <<< (((32 : Int32) - (Int32.ofNat 6)) &&& 0x3f).toInt64) = (67108864 : Int64) := by decide +kernel
    have m2 : (Int32.ofNat 6) = (6 : Int32) := by decide +kernel
    rw [m1, m2]
    have n := own_n6 p1
    have s := own_s6 p1
    by_cases q : p3 &&& (1 : Int32) = (0 : Int32)
    · rw [if_pos q, if_pos rfl, if_pos n]
    · rw [if_neg q, if_neg (show ¬ (1 : Int32) = 0 from by decide)]
      by_cases z : p1.toInt64 &&& ((67108864 : Int64) - 1) < (67108864 : Int64) >>> ((1 : Int32) &&& 0x3f).toInt64
      · rw [if_pos z] at s
        rw [if_pos z, if_pos s]
      · rw [if_neg z] at s
        rw [if_neg z, if_pos s]
  · have m1 : ((1 : Int64) <<< (((32 : Int32) - (Int32.ofNat 7)) &&& 0x3f).toInt64) = (33554432 : Int64) := by decide +kernel
    have m2 : (Int32.ofNat 7) = (7 : Int32) := by decide +kernel
    rw [m1, m2]
    have n := own_n7 p1
    have s := own_s7 p1
    by_cases q : p3 &&& (1 : Int32) = (0 : Int32)
    · rw [if_pos q, if_pos rfl, if_pos n]
    · rw [if_neg q, if_neg (show ¬ (1 : Int32) = 0 from by decide)]
      by_cases z : p1.toInt64 &&& ((33554432 : Int64) - 1) < (33554432 : Int64) >>> ((1 : Int32) &&& 0x3f).toInt64
      · rw [if_pos z] at s
        rw [if_pos z, if_pos s]
      · rw [if_neg z] at s
        rw [if_neg z, if_pos s]
  · have m1 : ((1 : Int64) <<< (((32 : Int32) - (Int32.ofNat 8)) &&& 0x3f).toInt64) = (16777216 : Int64) := by decide +kernel
    have m2 : (Int32.ofNat 8) = (8 : Int32) := by decide +kernel
    rw [m1, m2]
    have n := own_n8 p1
    have s := own_s8 p1
    by_cases q : p3 &&& (1 : Int32) = (0 : Int32)
    · rw [if_pos q, if_pos rfl, if_pos n]
    · rw [if_neg q, if_neg (show ¬ (1 : Int32) = 0 from by decide)]
      by_cases z : p1.toInt64 &&& ((16777216 : Int64) - 1) < (16777216 : Int64) >>> ((1 : Int32) &&& 0x3f).toInt64
      · rw [if_pos z] at s
        rw [if_pos z, if_pos s]
      · rw [if_neg z] at s
        rw [if_neg z, if_pos s]
  · have m1 : ((1 : Int64) <<< (((32 : Int32) - (Int32.ofNat 9)) &&& 0x3f).toInt64) = (8388608 : Int64) := by decide +kernel
    have m2 : (Int32.ofNat 9) = (9 : Int32) := by decide +kernel
    rw [m1, m2]
    have n := own_n9 p1
    have s := own_s9 p1
    by_cases q : p3 &&& (1 : Int32) = (0 : Int32)
    · rw [if_pos q, if_pos rfl, if_pos n]
    · rw [if_neg q, if_neg (show ¬ (1 : Int32) = 0 from by decide)]
      by_cases z : p1.toInt64 &&& ((8388608 : Int64) - 1) < (8388608 : Int64) >>> ((1 : Int32) &&& 0x3f).toInt64
      · rw [if_pos z] at s
        rw [if_pos z, if_pos s]
      · rw [if_neg z] at s
        rw [if_neg z, if_pos s]
  · have m1 : ((1 : Int64) <<< (((32 : Int32) - (Int32.ofNat 10)) &&& 0x3f).toInt64) = (4194304 : Int64) := by decide +kernel
    have m2 : (Int32.ofNat 10) = (10 : Int32) := by decide +kernel
    rw [m1, m2]
    have n := own_n10 p1
    have s := own_s10 p1
    by_cases q : p3 &&& (1 : Int32) = (0 : Int32)
    · rw [if_pos q, if_pos rfl, if_pos n]
    · rw [if_neg q, if_neg (show ¬ (1 : Int32) = 0 from by decide)]
      by_cases z : p1.toInt64 &&& ((4194304 : Int64) - 1) < (4194304 : Int64) >>> ((1 : Int32) &&& 0x3f).toInt64
      · rw [if_pos z] at s
        rw [if_pos z, if_pos s]
      · rw [if_neg z] at s
        rw [if_neg z, if_pos s]
  · have m1 : ((1 : Int64) <<< (((32 : Int32) - (Int32.ofNat 11)) &&& 0x3f).toInt64) = (2097152 : Int64) := by decide +kernel
    have m2 : (Int32.ofNat 11) = (11 : Int32) := by decide +kernel
    rw [m1, m2]
    have n := own_n11 p1
    have s := own_s11 p1
    by_cases q : p3 &&& (1 : Int32) = (0 : Int32)
    · rw [if_pos q, if_pos rfl, if_pos n]
    · rw [if_neg q, if_neg (show ¬ (1 : Int32) = 0 from by decide)]
      by_cases z : p1.toInt64 &&& ((2097152 : Int64) - 1) < (2097152 : Int64) >>> ((1 : Int32) &&& 0x3f).toInt64
      · rw [if_pos z] at s
        rw [if_pos z, if_pos s]
      · rw [if_neg z] at s
        rw [if_neg z, if_pos s]
  · have m1 : ((1 : Int64) <<< (((32 : Int32) - (Int32.ofNat 12)) &&& 0x3f).toInt64) = (1048576 : Int64) := by decide +kernel
    have m2 : (Int32.ofNat 12) = (12 : Int32) := by decide +kernel
    rw [m1, m2]
    have n := own_n12 p1
    have s := own_s12 p1
    by_cases q : p3 &&& (1 : Int32) = (0 : Int32)
    · rw [if_pos q, if_pos rfl, if_pos n]
    · rw [if_neg q, if_neg (show ¬ (1 : Int32) = 0 from by decide)]
      by_cases z : p1.toInt64 &&& ((1048576 : Int64) - 1) < (1048576 : Int64) >>> ((1 : Int32) &&& 0x3f).toInt64
      · rw [if_pos z] at s
        rw [if_pos z, if_pos s]
      · rw [if_neg z] at s
        rw [if_neg z, if_pos s]
  · have m1 : ((1 : Int64) <<< (((32 : Int32) - (Int32.ofNat 13)) &&& 0x3f).toInt64) = (524288 : Int64) := by decide +kernel
    have m2 : (Int32.ofNat 13) = (13 : Int32) := by decide +kernel
    rw [m1, m2]
    have n := own_n13 p1
    have s := own_s13 p1
    by_cases q : p3 &&& (1 : Int32) = (0 : Int32)
    · rw [if_pos q, if_pos rfl, if_pos n]
    · rw [if_neg q, if_neg (show ¬ (1 : Int32) = 0 from by decide)]
      by_cases z : p1.toInt64 &&& ((524288 : Int64) - 1) < (524288 : Int64) >>> ((1 : Int32) &&& 0x3f).toInt64
      · rw [if_pos z] at s
        rw [if_pos z, if_pos s]
      · rw [if_neg z] at s
        rw [if_neg z, if_pos s]
  · have m1 : ((1 : Int64) <<< (((32 : Int32) - (Int32.ofNat 14)) &&& 0x3f).toInt64) = (262144 : Int64) := by decide +kernel
    have m2 : (Int32.ofNat 14) = (14 : Int32) := by decide +kernel
    rw [m1, m2]
    have n := own_n14 p1
    have s := own_s14 p1
    by_cases q : p3 &&& (1 : Int32) = (0 : Int32)
    · rw [if_pos q, if_pos rfl, if_pos n]
    · rw [if_neg q, if_neg (show ¬ (1 : Int32) = 0 from by decide)]
      by_cases z : p1.toInt64 &&& ((262144 : Int64) - 1) < (262144 : Int64) >>> ((1 : Int32) &&& 0x3f).toInt64
      · rw [if_pos z] at s
        rw [if_pos z, if_pos s]
      · rw [if_neg z] at s
        rw [if_neg z, if_pos s]
  · have m1 : ((1 : Int64) <<< (((32 : Int32) - (Int32.ofNat 15)) &&& 0x3f).toInt64) = (131072 : Int64) := by decide +kernel
    have m2 : (Int32.ofNat 15) = (15 : Int32) := by decide +kernel
    rw [m1, m2]
    have n := own_n15 p1
    have s := own_s15 p1
    by_cases q : p3 &&& (1 : Int32) = (0 : Int32)
    · rw [if_pos q, if_pos rfl, if_pos n]
    · rw [if_neg q, if_neg (show ¬ (1 : Int32) = 0 from by decide)]
      by_cases z : p1.toInt64 &&& ((131072 : Int64) - 1) < (131072 : Int64) >>> ((1 : Int32) &&& 0x3f).toInt64
      · rw [if_pos z] at s
        rw [if_pos z, if_pos s]
      · rw [if_neg z] at s
        rw [if_neg z, if_pos s]
  · have m1 : ((1 : Int64) <<< (((32 : Int32) - (Int32.ofNat 16)) &&& 0x3f).toInt64) = (65536 : Int64) := by decide +kernel
    have m2 : (Int32.ofNat 16) = (16 : Int32) := by decide +kernel
    rw [m1, m2]
    have n := own_n16 p1
    have s := own_s16 p1
    by_cases q : p3 &&& (1 : Int32) = (0 : Int32)
    · rw [if_pos q, if_pos rfl, if_pos n]
    · rw [if_neg q, if_neg (show ¬ (1 : Int32) = 0 from by decide)]
      by_cases z : p1.toInt64 &&& ((65536 : Int64) - 1) < (65536 : Int64) >>> ((1 : Int32) &&& 0x3f).toInt64
      · rw [if_pos z] at s
        rw [if_pos z, if_pos s]
      · rw [if_neg z] at s
        rw [if_neg z, if_pos s]
  · have m1 : ((1 : Int64) <<< (((32 : Int32) - (Int32.ofNat 17)) &&& 0x3f).toInt64) = (32768 : Int64) := by decide +kernel
    have m2 : (Int32.ofNat 17) = (17 : Int32) := by decide +kernel
    rw [m1, m2]
    have n := own_n17 p1
    have s := own_s17 p1
    by_cases q : p3 &&& (1 : Int32) = (0 : Int32)
    · rw [if_pos q, if_pos rfl, if_pos n]
    · rw [if_neg q, if_neg (show ¬ (1 : Int32) = 0 from by decide)]
      by_cases z : p1.toInt64 &&& ((32768 : Int64) - 1) < (32768 : Int64) >>> ((1 : Int32) &&& 0x3f).toInt64
      · rw [if_pos z] at s
        rw [if_pos z, if_pos s]
      · rw [if_neg z] at s
        rw [if_neg z, if_pos s]
  · have m1 : ((1 : Int64) <<< (((32 : Int32) - (Int32.ofNat 18)) &&& 0x3f).toInt64) = (16384 : Int64) := by decide +kernel
    have m2 : (Int32.ofNat 18) = (18 : Int32) := by decide +kernel
    rw [m1, m2]
    have n := own_n18 p1
    have s := own_s18 p1
    by_cases q : p3 &&& (1 : Int32) = (0 : Int32)
    · rw [if_pos q, if_pos rfl, if_pos n]
    · rw [if_neg q, if_neg (show ¬ (1 : Int32) = 0 from by decide)]
      by_cases z : p1.toInt64 &&& ((16384 : Int64) - 1) < (16384 : Int64) >>> ((1 : Int32) &&& 0x3f).toInt64
      · rw [if_pos z] at s
        rw [if_pos z, if_pos s]
      · rw [if_neg z] at s
        rw [if_neg z, if_pos s]
  · have m1 : ((1 : Int64) <<< (((32 : Int32) - (Int32.ofNat 19)) &&& 0x3f).toInt64) = (8192 : Int64) := by decide +kernel
    have m2 : (Int32.ofNat 19) = (19 : Int32) := by decide +kernel
    rw [m1, m2]
    have n := own_n19 p1
    have s := own_s19 p1
    by_cases q : p3 &&& (1 : Int32) = (0 : Int32)
    · rw [if_pos q, if_pos rfl, if_pos n]
    · rw [if_neg q, if_neg (show ¬ (1 : Int32) = 0 from by decide)]
      by_cases z : p1.toInt64 &&& ((8192 : Int64) - 1) < (8192 : Int64) >>> ((1 : Int32) &&& 0x3f).toInt64
      · rw [if_pos z] at s
        rw [if_pos z, if_pos s]
      · rw [if_neg z] at s
        rw [if_neg z, if_pos s]
  · have m1 : ((1 : Int64) <<< (((32 : Int32) - (Int32.ofNat 20)) &&& 0x3f).toInt64) = (4096 : Int64) := by decide +kernel
    have m2 : (Int32.ofNat 20) = (20 : Int32) := by decide +kernel
    rw [m1, m2]
    have n := own_n20 p1
    have s := own_s20 p1
    by_cases q : p3 &&& (1 : Int32) = (0 : Int32)
    · rw [if_pos q, if_pos rfl, if_pos n]
    · rw [if_neg q, if_neg (show ¬ (1 : Int32) = 0 from by decide)]
      by_cases z : p1.toInt64 &&& ((4096 : Int64) - 1) < (4096 : Int64) >>> ((1 : Int32) &&& 0x3f).toInt64
      · rw [if_pos z] at s
        rw [if_pos z, if_pos s]
      · rw [if_neg z] at s
        rw [if_neg z, if_pos s]
  · have m1 : ((1 : Int64) <<< (((32 : Int32) - (Int32.ofNat 21)) &&& 0x3f).toInt64) = (2048 : Int64) := by decide +kernel
    have m2 : (Int32.ofNat 21) = (21 : Int32) := by decide +kernel
    rw [m1, m2]
    have n := own_n21 p1
    have s := own_s21 p1
    by_cases q : p3 &&& (1 : Int32) = (0 : Int32)
    · rw [if_pos q, if_pos rfl, if_pos n]
    · rw [if_neg q, if_neg (show ¬ (1 : Int32) = 0 from by decide)]
      by_cases z : p1.toInt64 &&& ((2048 : Int64) - 1) < (2048 : Int64) >>> ((1 : Int32) &&& 0x3f).toInt64
      · rw [if_pos z] at s
        rw [if_pos z, if_pos s]
      · rw [if_neg z] at s
        rw [if_neg z, if_pos s]
  · have m1 : ((1 : Int64) <<< (((32 : Int32) - (Int32.ofNat 22)) &&& 0x3f).toInt64) = (1024 : Int64) := by decide +kernel
    have m2 : (Int32.ofNat 22) = (22 : Int32) := by decide +kernel
    rw [m1, m2]
    have n := own_n22 p1
    have s := own_s22 p1
    by_cases q : p3 &&& (1 : Int32) = (0 : Int32)
    · rw [if_pos q, if_pos rfl, if_pos n]
    · rw [if_neg q, if_neg (show ¬ (1 : Int32) = 0 from by decide)]
      by_cases z : p1.toInt64 &&& ((1024 : Int64) - 1) < (1024 : Int64) >>> ((1 : Int32) &&& 0x3f).toInt64
      · rw [if_pos z] at s
        rw [if_pos z, if_pos s]
      · rw [if_neg z] at s
        rw [if_neg z, if_pos s]
  · have m1 : ((1 : Int64) <<< (((32 : Int32) - (Int32.ofNat 23)) &&& 0x3f).toInt64) = (512 : Int64) := by decide +kernel
    have m2 : (Int32.ofNat 23) = (23 : Int32) := by decide +kernel
    rw [m1, m2]
    have n := own_n23 p1
    have s := own_s23 p1
    by_cases q : p3 &&& (1 : Int32) = (0 : Int32)
    · rw [if_pos q, if_pos rfl, if_pos n]
    · rw [if_neg q, if_neg (show ¬ (1 : Int32) = 0 from by decide)]
      by_cases z : p1.toInt64 &&& ((512 : Int64) - 1) < (512 : Int64) >>> ((1 : Int32) &&& 0x3f).toInt64
      · rw [if_pos z] at s
        rw [if_pos z, if_pos s]
      · rw [if_neg z] at s
        rw [if_neg z, if_pos s]
  · have m1 : ((1 : Int64) <<< (((32 : Int32) - (Int32.ofNat 24)) &&& 0x3f).toInt64) = (256 : Int64) := by decide +kernel
    have m2 : (Int32.ofNat 24) = (24 : Int32) := by decide +kernel
    rw [m1, m2]
    have n := own_n24 p1
    have s := own_s24 p1
    by_cases q : p3 &&& (1 : Int32) = (0 : Int32)
    · rw [if_pos q, if_pos rfl, if_pos n]
    · rw [if_neg q, if_neg (show ¬ (1 : Int32) = 0 from by decide)]
      by_cases z : p1.toInt64 &&& ((256 : Int64) - 1) < (256 : Int64) >>> ((1 : Int32) &&& 0x3f).toInt64
      · rw [if_pos z] at s
        rw [if_pos z, if_pos s]
      · rw [if_neg z] at s
        rw [if_neg z, if_pos s]
  · have m1 : ((1 : Int64) <<< (((32 : Int32) - (Int32.ofNat 25)) &&& 0x3f).toInt64) = (128 : Int64) := by decide +kernel
    have m2 : (Int32.ofNat 25) = (25 : Int32) := by decide +kernel
    rw [m1, m2]
    have n := own_n25 p1
    have s := own_s25 p1
    by_cases q : p3 &&& (1 : Int32) = (0 : Int32)
    · rw [if_pos q, if_pos rfl, if_pos n]
    · rw [if_neg q, if_neg (show ¬ (1 : Int32) = 0 from by decide)]
      by_cases z : p1.toInt64 &&& ((128 : Int64) - 1) < (128 : Int64) >>> ((1 : Int32) &&& 0x3f).toInt64
      · rw [if_pos z] at s
        rw [if_pos z, if_pos s]
      · rw [if_neg z] at s
        rw [if_neg z, if_pos s]
  · have m1 : ((1 : Int64) <<< (((32 : Int32) - (Int32.ofNat 26)) &&& 0x3f).toInt64) = (64 : Int64) := by decide +kernel
    have m2 : (Int32.ofNat 26) = (26 : Int32) := by decide +kernel
    rw [m1, m2]
    have n := own_n26 p1
    have s := own_s26 p1
    by_cases q : p3 &&& (1 : Int32) = (0 : Int32)
    · rw [if_pos q, if_pos rfl, if_pos n]
    · rw [if_neg q, if_neg (show ¬ (1 : Int32) = 0 from by decide)]
      by_cases z : p1.toInt64 &&& ((64 : Int64) - 1) < (64 : Int64) >>> ((1 : Int32) &&& 0x3f).toInt64
      · rw [if_pos z] at s
        rw [if_pos z, if_pos s]
      · rw [if_neg z] at s
        rw [if_neg z, if_pos s]
  · have m1 : ((1 : Int64) <<< (((32 : Int32) - (Int32.ofNat 27)) &&& 0x3f).toInt64) = (32 : Int64) := by decide +kernel
    have m2 : (Int32.ofNat 27) = (27 : Int32) := by decide +kernel
    rw [m1, m2]
    have n := own_n27 p1
    have s := own_s27 p1
    by_cases q : p3 &&& (1 : Int32) = (0 : Int32)
    · rw [if_pos q, if_pos rfl, if_pos n]
    · rw [if_neg q, if_neg (show ¬ (1 : Int32) = 0 from by decide)]
      by_cases z : p1.toInt64 &&& ((32 : Int64) - 1) < (32 : Int64) >>> ((1 : Int32) &&& 0x3f).toInt64
      · rw [if_pos z] at s
        rw [if_pos z, if_pos s]
      · rw [if_neg z] at s
        rw [if_neg z, if_pos s]
  · have m1 : ((1 : Int64) <<< (((32 : Int32) - (Int32.ofNat 28)) &&& 0x3f).toInt64) = (16 : Int64) := by decide +kernel
    have m2 : (Int32.ofNat 28) = (28 : Int32) := by decide +kernel
    rw [m1, m2]
    have n := own_n28 p1
    have s := own_s28 p1
    by_cases q : p3 &&& (1 : Int32) = (0 : Int32)
    · rw [if_pos q, if_pos rfl, if_pos n]
    · rw [if_neg q, if_neg (show ¬ (1 : Int32) = 0 from by decide)]
      by_cases z : p1.toInt64 &&& ((16 : Int64) - 1) < (16 : Int64) >>> ((1 : Int32) &&& 0x3f).toInt64
      · rw [if_pos z] at s
        rw [if_pos z, if_pos s]
      · rw [if_neg z] at s
        rw [if_neg z, if_pos s]
  · have m1 : ((1 : Int64) <<< (((32 : Int32) - (Int32.ofNat 29)) &&& 0x3f).toInt64) = (8 : Int64) := by decide +kernel
    have m2 : (Int32.ofNat 29) = (29 : Int32) := by decide +kernel
    rw [m1, m2]
    have n := own_n29 p1
    have s := own_s29 p1
    by_cases q : p3 &&& (1 : Int32) = (0 : Int32)
    · rw [if_pos q, if_pos rfl, if_pos n]
    · rw [if_neg q, if_neg (show ¬ (1 : Int32) = 0 from by decide)]
      by_cases z : p1.toInt64 &&& ((8 : Int64) - 1) < (8 : Int64) >>> ((1 : Int32) &&& 0x3f).toInt64
      · rw [if_pos z] at s
        rw [if_pos z, if_pos s]
      · rw [if_neg z] at s
        rw [if_neg z, if_pos s]
  · have m1 : ((1 : Int64) <<< (((32 : Int32) - (Int32.ofNat 30)) &&& 0x3f).toInt64) = (4 : Int64) := by decide +kernel
    have m2 : (Int32.ofNat 30) = (30 : Int32) := by decide +kernel
    rw [m1, m2]
    have n := own_n30 p1
    have s := own_s30 p1
    by_cases q : p3 &&& (1 : Int32) = (0 : Int32)
    · rw [if_pos q, if_pos rfl, if_pos n]
    · rw [if_neg q, if_neg (show ¬ (1 : Int32) = 0 from by decide)]
      by_cases z : p1.toInt64 &&& ((4 : Int64) - 1) < (4 : Int64) >>> ((1 : Int32) &&& 0x3f).toInt64
      · rw [if_pos z] at s
        rw [if_pos z, if_pos s]
      · rw [if_neg z] at s
        rw [if_neg z, if_pos s]
  · have m1 : ((1 : Int64) <<< (((32 : Int32) - (Int32.ofNat 31)) &&& 0x3f).toInt64) = (2 : Int64) := by decide +kernel
    have m2 : (Int32.ofNat 31) = (31 : Int32) := by decide +kernel
    rw [m1, m2]
    have n := own_n31 p1
    have s := own_s31 p1
    by_cases q : p3 &&& (1 : Int32) = (0 : Int32)
    · rw [if_pos q, if_pos rfl, if_pos n]
    · rw [if_neg q, if_neg (show ¬ (1 : Int32) = 0 from by decide)]
      by_cases z : p1.toInt64 &&& ((2 : Int64) - 1) < (2 : Int64) >>> ((1 : Int32) &&& 0x3f).toInt64
      · rw [if_pos z] at s
        rw [if_pos z, if_pos s]
      · rw [if_neg z] at s
        rw [if_neg z, if_pos s]
set_option maxRecDepth 65536 in
set_option maxHeartbeats 40000000 in
theorem comes_1 {Post : Tables → Env → Array Value → State → Outcome → State → Prop} (hpost : ∀ tb e args s v u, (limb_1_1.after args s (.returned v) u = true ∧ limb_1_2.after args s (.returned v) u = true ∧ True) → FrameEnd s (.returned v) u (Jvm.fieldLocs frame_1_writes args s ++ Jvm.arrayLocs frame_1_arrays args s ++ Jvm.staticLocs frame_1_statics s) 0 0 → Post tb e args s (.returned v) u) :
    ArmFor flags0 classFile x code maxLocals ret World_1 tables_1 room_1 Calls_1 rest_1 Pre_1 Post := by
  intro l hfl _ _ p e ha hc hk s m args below hf hA hF happ hP
  obtain ⟨hcalls, hrest, hpre⟩ := hP
  obtain ⟨-, -, -, hnamed, -, -, -, hat⟩ := (Spec.applies_iff hf).mp happ
  obtain ⟨hg, hn⟩ := and_e (Cond.before_iff.mp (show (Jvm.Cond.and given_1 narrow_1).before args s = true from hpre))
  obtain ⟨g0, r0⟩ := and_e hg
  obtain ⟨g1, r1⟩ := and_e r0
  obtain ⟨g2, r2⟩ := and_e r1
  have g3 := r2
  obtain ⟨w0, w1, w2, rfl⟩ : ∃ w0 w1 w2 : Value, args = #[w0, w1, w2] := by
    have hs : args.size = 3 := by simpa [Cond.value, given_1] using g0
    obtain ⟨L⟩ := args
    match L, hs with
    | [w0, w1, w2], _ => exact ⟨w0, w1, w2, rfl⟩
  have hw := fun d (hd : d ∈ tables_1) => atoms_spec (ws := Jvm.Cond.code x code maxLocals ret :: tables_1) hat d (List.mem_cons_of_mem _ hd)
  have hfit : Fit s := fun {y c} hc i hi => by
    obtain ⟨ha, rfl⟩ := Array.getElem?_eq_some_iff.mp hc
    have q := List.all_eq_true.mp ((Array.all_eq_true_iff_forall_mem.mp hF) _ (Array.getElem_mem ha)) i (List.mem_range.mpr hi)
    simpa [Array.getElem?_eq_getElem hi] using q
  obtain ⟨i0, ei0⟩ := is_v g1
  obtain rfl : w0 = (.int i0) := Option.some.inj ei0
  obtain ⟨i1, ei1⟩ := is_v g2
  obtain rfl : w1 = (.int i1) := Option.some.inj ei1
  obtain ⟨i2, ei2⟩ := is_v g3
  obtain rfl : w2 = (.int i2) := Option.some.inj ei2
  obtain ⟨n, o, h1, h2, h3, v, L, rfl, hQ, hq⟩ := rm0 l s _ hw tables_1 s.heap i0 i1 i2 p e ha hc hk s m _ below hf ((Spec.applies_iff_loose hf).mp happ).1 ⟨rfl, State.Warmed39.refl s, rfl⟩ trivial
  rw [own_plain i0 i1 i2] at hQ
  obtain ⟨rfl, rfl, -⟩ := hQ
  have N : Fr s.heap.size ([] : List Loc) := Fr.nil _
  refine ⟨n, _, h1, h2, h3, hpost _ _ _ _ _ _ ⟨Cond.after_iff.mpr rfl, Cond.after_iff.mpr (eq_i res_at (Term.int_eval (1)) rfl), trivial⟩ ⟨hq.1, hq.2.1, (hq.2.2.sift fun y hy => Or.inr (N y hy)).mono (by decide) (by decide)⟩⟩
theorem main_1_1 : Claimed_1_1 := comes_1 fun _ _ _ _ _ _ h hF => ⟨h.1, hF⟩
theorem main_1_2 : Claimed_1_2 := comes_1 fun _ _ _ _ _ _ h hF => ⟨h.2.1, hF⟩
end Jvm.Pilot.@@N@@
namespace Jvm.Pilot.@@N@@
open Jvm Jvm.ClassFile Sem Op Lib Jvm.Free Jvm.Stand Jvm.Pilot.@@N@@.Jvm.D
/-! MADE BY PROGRAM (witnessworld.py) out of the Statement's table words and the real class files: 9 classes; the members and pool entries that the words name. The judged class is class 1, her method 1. -/
namespace start1
open Jvm.ClassFile
def u (s : String) : CpInfo := .utf8 (stringToUtf16 s)
/-- a pool by its gaps: so many unusable entries, then the entry; so many at the end -/
def gap : Nat → List CpInfo → List CpInfo
  | 0, r => r
  | n + 1, r => .unusable :: gap n r
def poolList (es : List (Nat × CpInfo)) (last : Nat) : List CpInfo := es.foldr (fun e r => gap e.1 (e.2 :: r)) (gap last [])
def pool (es : List (Nat × CpInfo)) (last : Nat) : Array CpInfo := ⟨poolList es last⟩
def fileOf (pool : Array CpInfo) (this : Nat) (attrs : Array Attribute := #[]) (ms : Array MethodInfo := #[]) (fl : Nat := 33) (sup : Nat := 0) (ifs : Array Nat := #[]) (fds : Array FieldInfo := #[]) : ClassFile where
  minorVersion := 0
  majorVersion := 65
  constantPool := pool
  accessFlags := fl
  thisClass := this
  superClass := sup
  interfaces := ifs
  fields := fds
  methods := ms
  attributes := attrs
def plain (name : String) (sup : Option ClassId) : Class where
  name := name
  kind := .ordinary
  loader := none
  accessFlags := 33
  super := sup
  interfaces := #[]
  cf := none
  fields := #[]
  methods := #[]
  instanceTypes := #[]
  staticTypes := #[]
  resolved := #[]
  callSites := []
  init := .initialized
  statics := none
  mirror := none

def pool0 : Array CpInfo := pool [(5, u "<init>"), (0, u "()V"), (1, .class_ 10), (1, u "java/lang/Object")] 113

def k0m0 : Method := { name := "<init>", desc := "()V", sig := { parameters := [], returnType := none }, accessFlags := 1, code := none }
/-- java/lang/Object -/
def k0 : Class := { plain "java/lang/Object" none with
  accessFlags := 33
  interfaces := #[]
  cf := some (fileOf pool0 8 #[] #[{ accessFlags := 1, nameIndex := 5, descriptorIndex := 6, attributes := #[] }] 33 0 #[] #[])
  fields := #[]
  methods := #[k0m0]
  instanceTypes := #[]
  staticTypes := #[]
  resolved := Array.replicate 124 none
  statics := none }

def pool1 : Array CpInfo := pool [(2, .class_ 4), (1, u "java/lang/Object"), (0, u "<init>"), (0, u "()V"), (0, .methodref 8 9), (0, .class_ 10), (0, .nameAndType 11 12), (0, u "com/example/quillon/quillon/interpreter/Arithmetic"), (0, u "wrap"), (0, u "(IIZ)I"), (0, .long 4294967295), (1, .class_ 16), (0, u "com/example/quillon/quillon/interpreter/ArithmeticWrapPinLaw"), (2, u "law"), (0, u "(III)Z")] 3

def k1m0 : Method := { name := "<init>", desc := "()V", sig := { parameters := [], returnType := none }, accessFlags := 2, code := none }
def k1c1 : Code := { maxStack := 6, maxLocals := 15, code := code, exceptionTable := #[], attributes := #[] }
def k1m1 : Method := { name := "law", desc := "(III)Z", sig := { parameters := [.int, .int, .int], returnType := some .boolean }, accessFlags := 9, code := some k1c1 }
/-- com/example/quillon/quillon/interpreter/ArithmeticWrapPinLaw -/
def k1 : Class := { plain "com/example/quillon/quillon/interpreter/ArithmeticWrapPinLaw" (some 0) with
  accessFlags := 49
  interfaces := #[]
  cf := some (fileOf pool1 15 #[] #[{ accessFlags := 2, nameIndex := 5, descriptorIndex := 6, attributes := #[] }, { accessFlags := 9, nameIndex := 19, descriptorIndex := 20, attributes := #[] }] 49 2 #[] #[])
  fields := #[]
  methods := #[k1m0, k1m1]
  instanceTypes := #[]
  staticTypes := #[]
  resolved := Array.replicate 24 none
  statics := none }

def pool2 : Array CpInfo := pool [(2, .class_ 4), (1, u "java/lang/Object"), (0, u "<init>"), (0, u "()V"), (18, .class_ 26), (0, u "com/example/quillon/quillon/interpreter/Arithmetic$1"), (12, .class_ 40), (0, u "com/example/quillon/quillon/interpreter/Arithmetic$2"), (4, .class_ 46), (0, u "com/example/quillon/quillon/interpreter/Arithmetic$3"), (11, .class_ 59), (0, u "com/example/quillon/quillon/interpreter/Arithmetic$4"), (1, .class_ 62), (0, u "com/example/quillon/quillon/interpreter/Arithmetic$5"), (1, .class_ 65), (0, u "com/example/quillon/quillon/interpreter/Arithmetic$6"), (3, .class_ 70), (0, u "com/example/quillon/quillon/interpreter/Arithmetic$7"), (15, .class_ 88), (1, u "com/example/quillon/quillon/interpreter/Arithmetic"), (0, u "SATURATING"), (0, u "Ljava/util/Set;"), (61, u "COMPARISONS"), (23, .class_ 177), (0, u "com/example/quillon/quillon/interpreter/Arithmetic$8"), (6, .class_ 185), (0, u "com/example/quillon/quillon/interpreter/Arithmetic$9"), (1, .class_ 188), (0, u "com/example/quillon/quillon/interpreter/Arithmetic$10"), (3, .class_ 193), (0, u "com/example/quillon/quillon/interpreter/Arithmetic$11"), (1, .class_ 196), (0, u "com/example/quillon/quillon/interpreter/Arithmetic$12"), (3, .class_ 201), (0, u "com/example/quillon/quillon/interpreter/Arithmetic$13"), (1, .class_ 204), (0, u "com/example/quillon/quillon/interpreter/Arithmetic$14"), (3, .class_ 209), (0, u "com/example/quillon/quillon/interpreter/Arithmetic$15"), (1, .class_ 212), (0, u "com/example/quillon/quillon/interpreter/Arithmetic$16"), (1, .class_ 215), (0, u "com/example/quillon/quillon/interpreter/Arithmetic$17"), (1, .class_ 218), (0, u "com/example/quillon/quillon/interpreter/Arithmetic$18"), (6, .class_ 227), (1, u "com/example/quillon/quillon/interpreter/Arithmetic$34"), (50, .class_ 279), (0, u "com/example/quillon/quillon/interpreter/Arithmetic$19"), (6, .class_ 287), (0, u "com/example/quillon/quillon/interpreter/Arithmetic$20"), (1, .class_ 290), (0, u "com/example/quillon/quillon/interpreter/Arithmetic$21"), (1, .class_ 293), (0, u "com/example/quillon/quillon/interpreter/Arithmetic$22"), (3, .class_ 298), (0, u "com/example/quillon/quillon/interpreter/Arithmetic$23"), (5, .class_ 305), (0, u "com/example/quillon/quillon/interpreter/Arithmetic$24"), (3, .class_ 310), (0, u "com/example/quillon/quillon/interpreter/Arithmetic$25"), (1, .class_ 313), (0, u "com/example/quillon/quillon/interpreter/Arithmetic$26"), (1, .class_ 316), (0, u "com/example/quillon/quillon/interpreter/Arithmetic$27"), (1, .class_ 319), (0, u "com/example/quillon/quillon/interpreter/Arithmetic$28"), (1, .class_ 322), (0, u "com/example/quillon/quillon/interpreter/Arithmetic$29"), (3, .class_ 327), (0, u "com/example/quillon/quillon/interpreter/Arithmetic$30"), (1, .class_ 330), (0, u "com/example/quillon/quillon/interpreter/Arithmetic$31"), (1, .class_ 333), (0, u "com/example/quillon/quillon/interpreter/Arithmetic$32"), (29, .class_ 364), (0, u "com/example/quillon/quillon/interpreter/Arithmetic$33"), (60, u "DIVISION_BY_ZERO"), (0, u "Ljava/lang/String;"), (3, u "TWO_TO_63"), (0, u "D"), (0, u "TWO_TO_64"), (28, u "wrap"), (0, u "(IIZ)I")] 29

def k2m0 : Method := { name := "<init>", desc := "()V", sig := { parameters := [], returnType := none }, accessFlags := 2, code := none }
def k2c1 : Code := { maxStack := 2, maxLocals := 3, code := prog_122_method_26_code, exceptionTable := #[], attributes := #[] }
def k2m1 : Method := { name := "wrap", desc := "(IIZ)I", sig := { parameters := [.int, .int, .boolean], returnType := some .int }, accessFlags := 8, code := some k2c1 }
/-- com/example/quillon/quillon/interpreter/Arithmetic -/
def k2 : Class := { plain "com/example/quillon/quillon/interpreter/Arithmetic" (some 0) with
  accessFlags := 48
  interfaces := #[]
  cf := some (fileOf pool2 86 #[.nestMembers #[225, 363, 332, 329, 326, 321, 318, 315, 312, 309, 304, 297, 292, 289, 286, 278, 217, 214, 211, 208, 203, 200, 195, 192, 187, 184, 176, 69, 64, 61, 58, 45, 39, 25]] #[{ accessFlags := 2, nameIndex := 5, descriptorIndex := 6, attributes := #[] }, { accessFlags := 8, nameIndex := 461, descriptorIndex := 462, attributes := #[] }] 48 2 #[] #[{ accessFlags := 26, nameIndex := 425, descriptorIndex := 426, attributes := #[] }, { accessFlags := 26, nameIndex := 89, descriptorIndex := 90, attributes := #[] }, { accessFlags := 26, nameIndex := 152, descriptorIndex := 90, attributes := #[] }, { accessFlags := 26, nameIndex := 430, descriptorIndex := 431, attributes := #[] }, { accessFlags := 26, nameIndex := 432, descriptorIndex := 431, attributes := #[] }])
  fields := #[{ name := "DIVISION_BY_ZERO", type := (.object "java/lang/String"), accessFlags := 26, slot := 0, constantValue := 0 }, { name := "SATURATING", type := (.object "java/util/Set"), accessFlags := 26, slot := 1, constantValue := 0 }, { name := "COMPARISONS", type := (.object "java/util/Set"), accessFlags := 26, slot := 2, constantValue := 0 }, { name := "TWO_TO_63", type := .double, accessFlags := 26, slot := 3, constantValue := 0 }, { name := "TWO_TO_64", type := .double, accessFlags := 26, slot := 4, constantValue := 0 }]
  methods := #[k2m0, k2m1]
  instanceTypes := #[]
  staticTypes := #[(.object "java/lang/String"), (.object "java/util/Set"), (.object "java/util/Set"), .double, .double]
  resolved := Array.replicate 492 none
  statics := none }

def pool3 : Array CpInfo := pool [(1, u "java/lang/Cloneable"), (0, .class_ 1), (0, u "java/lang/Object"), (0, .class_ 3)] 3

/-- java/lang/Cloneable -/
def k3 : Class := { plain "java/lang/Cloneable" (some 0) with
  accessFlags := 1537
  interfaces := #[]
  cf := some (fileOf pool3 2 #[] #[] 1537 4 #[] #[])
  fields := #[]
  methods := #[]
  instanceTypes := #[]
  staticTypes := #[]
  resolved := Array.replicate 8 none
  statics := none }

def pool4 : Array CpInfo := pool [(1, u "java/io/Serializable"), (0, .class_ 1), (0, u "java/lang/Object"), (0, .class_ 3)] 3

/-- java/io/Serializable -/
def k4 : Class := { plain "java/io/Serializable" (some 0) with
  accessFlags := 1537
  interfaces := #[]
  cf := some (fileOf pool4 2 #[] #[] 1537 4 #[] #[])
  fields := #[]
  methods := #[]
  instanceTypes := #[]
  staticTypes := #[]
  resolved := Array.replicate 8 none
  statics := none }

/-- the primitive byte -/
def k5 : Class := { plain "byte" none with kind := .primitive 'B', accessFlags := 0x411 }
/-- [B -/
def k6 : Class := { plain "[B" (some 0) with kind := .array 5 .byte, interfaces := #[3, 4], accessFlags := 1041 }

/-- the primitive int -/
def k7 : Class := { plain "int" none with kind := .primitive 'I', accessFlags := 0x411 }
/-- [I -/
def k8 : Class := { plain "[I" (some 0) with kind := .array 7 .int, interfaces := #[3, 4], accessFlags := 1041 }

def heap : Heap := #[]
def classes : Array Class := #[k0, k1, k2, k3, k4, k5, k6, k7, k8]
def interned : List (Array UInt16 × Addr) := []
def slotsUsed : Nat := 0
def theMethod : MethodId := ⟨1, 1⟩
def args0 : Array Value := #[.int 300, .int 24, .int 1]
def aboutOver (below : List Frame) : State where
  vm := { classes := classes, interned := interned.toArray }
  heap := heap
  slotsUsed := slotsUsed
  threads := #[{ frames := .invoking theMethod args0 :: below }]
def below0 : List Frame := [.native { method := ⟨0, 0⟩, args := #[] }]
def about1 : State := aboutOver below0
def p0 : Program := .bare "" "" ""
def e0 : Env := launch0.env 0 0 0
theorem w_frames : about1.frames = Frame.invoking theMethod args0 :: below0 := rfl
set_option maxRecDepth 65536 in
theorem w_args : argsFit about1.vm theMethod args0 = true := by decide +kernel
set_option maxRecDepth 65536 in
theorem w_heap : heapFits about1 = true := by decide +kernel
set_option maxRecDepth 65536 in
theorem w_runnable : about1.curStatus? = some .runnable := by decide +kernel
set_option maxRecDepth 65536 in
theorem w_alone : about1.alone = true := by decide +kernel
set_option maxRecDepth 65536 in
theorem w_named : about1.methodNamed? x = some theMethod := by decide +kernel
set_option maxRecDepth 65536 in
theorem w_hears : about1.hears theMethod below0 = true := by decide +kernel
set_option maxRecDepth 65536 in
theorem w_ripe : about1.ripe theMethod args0 below0 = true := by decide +kernel
theorem w_running : about1.status = .running := rfl
set_option maxRecDepth 65536 in
theorem w_room : about1.hasRoom e0.platform room_1 = true :=
  launch0.hasRoom_least _ room_1 (by decide +kernel) (by decide +kernel) (by decide +kernel) (by decide +kernel) (by decide +kernel) (by decide +kernel)
theorem allAtoms_all (ts : List Jvm.Cond) (a : Array Jvm.Value) (st : Jvm.State) : (allAtoms ts).before a st = ts.all (fun c => c.before a st) := by
  induction ts with
  | nil => rfl
  | cons c t ih =>
    show (Jvm.Cond.and c (allAtoms t)).before a st = _
    rw [Jvm.Cond.before_and, ih, List.all_cons]
def words1 : List Jvm.Cond := Jvm.Cond.code x code maxLocals ret :: tables_1
/-- a 'code' word, met by the world's own term for the bytes: nothing is compared byte by byte -/
theorem code_word {y : MethodName} {bytes : ByteArray} {mx : Nat} {rt : Option FieldType} {a : Array Value} {s : State} {m : MethodId} {meth : Method} {c : Code} (h1 : s.methodNamed? y = some m) (h2 : s.vm.method? m = some meth) (h3 : meth.code = some c) (h4 : c.code = bytes)
    (h5 : (c.maxLocals == mx && c.exceptionTable.isEmpty && decide (c.maxStack ≤ mostOperands) && decide (meth.sig.returnType = rt) && !meth.locks && decide (parseMethodDescriptor y.desc = some meth.sig)) = true) : (Jvm.Cond.code y bytes mx rt).before a s = true := by
  simp only [Bool.and_eq_true, beq_iff_eq, Bool.not_eq_true', decide_eq_true_eq] at h5
  obtain ⟨⟨⟨⟨⟨g1, g2⟩, g3⟩, g4⟩, g5⟩, g6⟩ := h5
  simp [Cond.before, Cond.holds, Cond.value, h1, h2, h3, h4, g1, g2, g3, g4, g5, g6]
def isCode : Jvm.Cond → Bool
  | .code _ _ _ _ => true
  | _ => false
theorem all_split {L : List Jvm.Cond} {P : Jvm.Cond → Bool} (h1 : L.all (fun c => isCode c || P c) = true) (h2 : ∀ c ∈ L.filter isCode, P c = true) : L.all P = true := by
  refine List.all_eq_true.mpr fun c hc => ?_
  have h := List.all_eq_true.mp h1 c hc
  rcases Bool.eq_false_or_eq_true (isCode c) with hi | hi
  · exact h2 c (List.mem_filter.mpr ⟨hc, hi⟩)
  · simpa [hi] using h
set_option maxRecDepth 65536 in
theorem w_c0 : (Jvm.Cond.code x code maxLocals ret).before args0 about1 = true := code_word (m := ⟨1, 1⟩) (meth := k1m1) (c := k1c1) (by decide +kernel) rfl rfl rfl (by decide +kernel)
set_option maxRecDepth 65536 in
theorem w_c1 : (Jvm.Cond.code ({ cls := "com/example/quillon/quillon/interpreter/Arithmetic", name := "wrap", desc := "(IIZ)I" } : Jvm.MethodName) prog_122_method_26_code (3 : Nat) (Option.some Jvm.ClassFile.FieldType.int)).before args0 about1 = true := code_word (m := ⟨2, 1⟩) (meth := k2m1) (c := k2c1) (by decide +kernel) rfl rfl rfl (by decide +kernel)
def codes1 : List Jvm.Cond := [Jvm.Cond.code x code maxLocals ret, Jvm.Cond.code ({ cls := "com/example/quillon/quillon/interpreter/Arithmetic", name := "wrap", desc := "(IIZ)I" } : Jvm.MethodName) prog_122_method_26_code (3 : Nat) (Option.some Jvm.ClassFile.FieldType.int)]
set_option maxRecDepth 65536 in
theorem codes_eq : words1.filter isCode = codes1 := rfl
theorem w_codes : ∀ c ∈ words1.filter isCode, c.before args0 about1 = true := by
  rw [codes_eq]
  intro c hc
  simp only [codes1, List.mem_cons, List.not_mem_nil, or_false] at hc
  rcases hc with rfl | rfl
  · exact w_c0
  · exact w_c1
set_option maxRecDepth 65536 in
theorem w_t1 : words1.all (fun c => isCode c || c.before args0 about1) = true := by decide +kernel
theorem w_tables : (allAtoms (Jvm.Cond.code x code maxLocals ret :: tables_1)).before args0 about1 = true := by
  rw [allAtoms_all]
  show words1.all (fun c => c.before args0 about1) = true
  refine all_split ?_ w_codes
  rw [w_t1]
set_option maxRecDepth 65536 in
theorem w_case : (Jvm.Cond.and given_1 narrow_1).before args0 about1 = true := by decide +kernel
theorem w_applies : (headSpec (Jvm.Cond.code x code maxLocals ret :: tables_1) room_1).applies x e0.platform about1 = true :=
  (Spec.applies_iff w_frames).mpr ⟨w_running, w_runnable, w_alone, w_named, w_hears, w_ripe, w_room, w_tables⟩
theorem atStart : AtStart classFile x code maxLocals ret World_1 tables_1 room_1 Calls_1 rest_1 Pre_1 launch0 p0 e0 about1 theMethod args0 below0 :=
  ⟨lists_1, trivial, launch0.admits_env _ _ _, launch0.least_env, fairChoices_fair.cas, fairChoices_fair.clock, w_frames, w_args, w_heap, w_applies, trivial, trivial, w_case⟩
end start1
theorem witness_1 : WitnessClaimed_1 := ⟨start1.p0, start1.e0, start1.about1, start1.theMethod, start1.args0, start1.below0, start1.atStart⟩
end Jvm.Pilot.@@N@@
