import JvmDerived
import JvmDerived.Pilot.@@N@@Statement
import JvmDerived.Pilot.@@N@@Code
set_option linter.unusedVariables false
set_option linter.unusedSimpArgs false
namespace Jvm.Pilot.@@N@@
open Jvm Jvm.ClassFile Sem Op Lib Jvm.Free Jvm.Stand Jvm.LawKit Jvm.RoadKit Bundle Jvm.Pilot.@@N@@.Jvm.D
section OwnKit
variable {p : Program} {l : Launch} {e : Env} {R : Room} {s : State} {m : MethodId} {args : Array Value} {below : List Frame} {meth : Method} {c : Code} {T : State} {locs : List Loc} {cells slots : Nat} {Z : State} {h h' : Heap} {a b : Addr} {ty : FieldType}
/-- from S the run comes to a state of which F holds -/
def oGl (p : Program) (e : Env) (below : List Frame) (S : State) (F : State → Prop) : Prop := ∃ t, Steps p.tables e below S t ∧ F t
theorem oOn {S S' : State} {F : State → Prop} (st : ∀ t, Steps p.tables e below S' t → Steps p.tables e below S t) (k : oGl p e below S' F) : oGl p e below S F := by
  obtain ⟨t, k1, k2⟩ := k; exact ⟨t, st t k1, k2⟩
theorem oSt {S S' : State} {F : State → Prop} (st : Steps p.tables e below S S') (k : oGl p e below S' F) : oGl p e below S F := by
  obtain ⟨t, k1, k2⟩ := k; exact ⟨t, st.trans k1, k2⟩
theorem oCast {g g' : JFrame} {F : State → Prop} (q : g = g') (k : oGl p e below (T.setTop g') F) : oGl p e below (T.setTop g) F := q ▸ k
def oFin (s : State) (below : List Frame) (Q : Option Value → Heap → List Loc → Prop) (C S : Nat) (t : State) : Prop := ∃ o, t.status = .running ∧ Ended t below o ∧ ∃ v L, o = .returned v ∧ Q v t.heap L ∧ FrameEnd s o t L C S
theorem oEnter {S0 : State} {Q : Option Value → Heap → List Loc → Prop} {C S : Nat} (k : oGl p e below S0 (oFin s below Q C S)) : ∃ s₂ o, Steps p.tables e below S0 s₂ ∧ s₂.status = .running ∧ Ended s₂ below o ∧ ∃ v L, o = .returned v ∧ Q v s₂.heap L ∧ FrameEnd s o s₂ L C S := by
  obtain ⟨t, k1, o, k2, k3, k4⟩ := k; exact ⟨t, o, k1, k2, k3, k4⟩
theorem oRetI (X : Stand p l e R s m args below meth c T locs cells slots) (hx : p.tables.exec = Jvm.exec) (hl : meth.locks = false) {pc : Nat} {Ls : Array Slot} {z : Int32} {rest : List Value} (hret : meth.sig.returnType = some .int) (hd : decode c.code pc = .ok (.ireturn, 1))
    {Q : Option Value → Heap → List Loc → Prop} {C S : Nat} (hc : cells ≤ C) (hs : slots ≤ S) (hq : Q (some (.int z)) T.heap locs) : oGl p e below (T.setTop (mkF m pc Ls (.int z :: rest))) (oFin s below Q C S) := by
  obtain ⟨fs, hr, hrun, hended, hW, hsame⟩ := X.leave (v := some (.int z)) (fun q => by rw [hret] at q; cases q) hl
  exact ⟨_, retOut X hx hret rfl (Or.inl ⟨rfl, Or.inl rfl, _, rfl⟩) hd hr, _, hrun, hended, _, _, rfl, hq, ⟨_, rfl⟩, hW, hsame.mono hc hs⟩
theorem oRetN {t : FieldType} (X : Stand p l e R s m args below meth c T locs cells slots) (hx : p.tables.exec = Jvm.exec) (hl : meth.locks = false) {pc : Nat} {Ls : Array Slot} {z : Int32} {rest : List Value} (hret : meth.sig.returnType = some t) (ht : t = .boolean ∨ t = .byte ∨ t = .char ∨ t = .short) (hd : decode c.code pc = .ok (.ireturn, 1))
    {Q : Option Value → Heap → List Loc → Prop} {C S : Nat} (hc : cells ≤ C) (hs : slots ≤ S) (hq : Q (some (.int (nar t z))) T.heap locs) : oGl p e below (T.setTop (mkF m pc Ls (.int z :: rest))) (oFin s below Q C S) := by
  obtain ⟨fs, hr, hrun, hended, hW, hsame⟩ := X.leave (v := some (.int (nar t z))) (fun q => by rw [hret] at q; cases q) hl
  exact ⟨_, retN X hx hret ht hd hr, _, hrun, hended, _, _, rfl, hq, ⟨_, rfl⟩, hW, hsame.mono hc hs⟩
theorem oRetJ (X : Stand p l e R s m args below meth c T locs cells slots) (hx : p.tables.exec = Jvm.exec) (hl : meth.locks = false) {pc : Nat} {Ls : Array Slot} {z : Int64} {rest : List Value} (hret : meth.sig.returnType = some .long) (hd : decode c.code pc = .ok (.lreturn, 1))
    {Q : Option Value → Heap → List Loc → Prop} {C S : Nat} (hc : cells ≤ C) (hs : slots ≤ S) (hq : Q (some (.long z)) T.heap locs) : oGl p e below (T.setTop (mkF m pc Ls (.long z :: rest))) (oFin s below Q C S) := by
  obtain ⟨fs, hr, hrun, hended, hW, hsame⟩ := X.leave (v := some (.long z)) (fun q => by rw [hret] at q; cases q) hl
  exact ⟨_, retOut X hx hret rfl (Or.inr (Or.inl ⟨rfl, rfl, _, rfl⟩)) hd hr, _, hrun, hended, _, _, rfl, hq, ⟨_, rfl⟩, hW, hsame.mono hc hs⟩
theorem narrow_ref {t : FieldType} {w : Value} (ht : t.isReference = true) (hw : w.isRef = true) : narrow t w = w := by
  rcases ref_cases hw with rfl | ⟨a, rfl⟩ <;> cases t <;> first | rfl | (cases ht; done)
theorem oRetR {t : FieldType} (X : Stand p l e R s m args below meth c T locs cells slots) (hx : p.tables.exec = Jvm.exec) (hl : meth.locks = false) {pc : Nat} {Ls : Array Slot} {w : Value} {rest : List Value} (hret : meth.sig.returnType = some t) (ht : t.isReference = true) (hw : w.isRef = true) (hd : decode c.code pc = .ok (.areturn, 1))
    {Q : Option Value → Heap → List Loc → Prop} {C S : Nat} (hc : cells ≤ C) (hs : slots ≤ S) (hq : Q (some w) T.heap locs) : oGl p e below (T.setTop (mkF m pc Ls (w :: rest))) (oFin s below Q C S) := by
  obtain ⟨fs, hr, hrun, hended, hW, hsame⟩ := X.leave (v := some w) (fun q => by rw [hret] at q; cases q) hl
  exact ⟨_, retOut X hx hret (narrow_ref ht hw) (Or.inr (Or.inr (Or.inr (Or.inr ⟨rfl, ht, hw⟩)))) hd hr, _, hrun, hended, _, _, rfl, hq, ⟨_, rfl⟩, hW, hsame.mono hc hs⟩
theorem oRet0 (X : Stand p l e R s m args below meth c T locs cells slots) (hx : p.tables.exec = Jvm.exec) (hl : meth.locks = false) {pc : Nat} {Ls : Array Slot} (hret : meth.sig.returnType = none) (hd : decode c.code pc = .ok (.return_, 1))
    {Q : Option Value → Heap → List Loc → Prop} {C S : Nat} (hc : cells ≤ C) (hs : slots ≤ S) (hq : Q none T.heap locs) : oGl p e below (T.setTop (mkF m pc Ls [])) (oFin s below Q C S) := by
  obtain ⟨fs, hr, hrun, hended, hW, hsame⟩ := X.leave (v := none) (fun _ => rfl) hl
  exact ⟨_, X.returnOut hx hret hd hr, _, hrun, hended, _, _, rfl, hq, ⟨_, rfl⟩, hW, hsame.mono hc hs⟩
theorem oCat {w : Value} (hw : w.isRef = true) : w.category = 1 := by rcases ref_cases hw with rfl | ⟨a, rfl⟩ <;> rfl
theorem oSto {ls : Array Slot} {i : Nat} {v : Value} {o : Slot} (hold : ls[i]? = some o) (ho : o = .unset ∨ ∃ w, o = .val w ∧ w.category = 1) (hv : v.category = 1) : storeLocals ls i v = some (ls.setIfInBounds i (.val v)) := XS.store1 hold ho hv
theorem oDup2 {tb : Tables} [Ours tb] {target : State} {g : JFrame} (hh : At T m c below) (hx : tb.exec = Jvm.exec) (hg : g.method = m) {x y : Value} {rest : List Value} (hd : decode c.code g.pc = .ok (.dup2, 1)) (hs : g.stack = x :: y :: rest) (hc : x.category = 1) (hc2 : y.category = 1)
    (hr : Steps tb e below (T.setTop { g with pc := g.pc + 1, stack := x :: y :: x :: y :: rest }) target) : Steps tb e below (T.setTop g) target := by
  subst hg
  jvm_step hh [hh.top, hx, hd, hs, hc, hc2]
  exact hr
theorem oDupX2 {tb : Tables} [Ours tb] {target : State} {g : JFrame} (hh : At T m c below) (hx : tb.exec = Jvm.exec) (hg : g.method = m) {x y z : Value} {rest : List Value} (hd : decode c.code g.pc = .ok (.dup_x2, 1)) (hs : g.stack = x :: y :: z :: rest) (hc : x.category = 1) (hc2 : y.category = 1) (hc3 : z.category = 1)
    (hr : Steps tb e below (T.setTop { g with pc := g.pc + 1, stack := x :: y :: z :: x :: rest }) target) : Steps tb e below (T.setTop g) target := by
  subst hg
  jvm_step hh [hh.top, hx, hd, hs, hc, hc2, hc3]
  exact hr
/-! single steps -/
theorem siload {pc pc' : Nat} {Ls : Array Slot} {F : State → Prop} {st : List Value} {k : Nat} {v : Int32} (X : Stand p l e R s m args below meth c T locs cells slots) (hx : p.tables.exec = Jvm.exec) (hd : decode c.code pc = .ok (.iload k, 2)) (hp : pc + 2 = pc') (hl : Ls[k]? = some (.val (.int v))) (kk : oGl p e below (T.setTop (mkF m pc' Ls (.int v :: st))) F) : oGl p e below (T.setTop (mkF m pc Ls (st))) F := by
  subst hp
  exact oOn (fun _ kK => XS.iload X.here hx rfl hd hl kK) kk
theorem siloadN {pc pc' : Nat} {Ls : Array Slot} {F : State → Prop} {st : List Value} {k : Fin 4} {v : Int32} (X : Stand p l e R s m args below meth c T locs cells slots) (hx : p.tables.exec = Jvm.exec) (hd : decode c.code pc = .ok (.iload_n k, 1)) (hp : pc + 1 = pc') (hl : Ls[k.val]? = some (.val (.int v))) (kk : oGl p e below (T.setTop (mkF m pc' Ls (.int v :: st))) F) : oGl p e below (T.setTop (mkF m pc Ls (st))) F := by
  subst hp
  exact oOn (fun _ kK => XS.iloadN X.here hx rfl hd hl kK) kk
theorem slload {pc pc' : Nat} {Ls : Array Slot} {F : State → Prop} {st : List Value} {k : Nat} {v : Int64} (X : Stand p l e R s m args below meth c T locs cells slots) (hx : p.tables.exec = Jvm.exec) (hd : decode c.code pc = .ok (.lload k, 2)) (hp : pc + 2 = pc') (hl : Ls[k]? = some (.val (.long v))) (kk : oGl p e below (T.setTop (mkF m pc' Ls (.long v :: st))) F) : oGl p e below (T.setTop (mkF m pc Ls (st))) F := by
  subst hp
  exact oOn (fun _ kK => XS.lload X.here hx rfl hd hl kK) kk
theorem slloadN {pc pc' : Nat} {Ls : Array Slot} {F : State → Prop} {st : List Value} {k : Fin 4} {v : Int64} (X : Stand p l e R s m args below meth c T locs cells slots) (hx : p.tables.exec = Jvm.exec) (hd : decode c.code pc = .ok (.lload_n k, 1)) (hp : pc + 1 = pc') (hl : Ls[k.val]? = some (.val (.long v))) (kk : oGl p e below (T.setTop (mkF m pc' Ls (.long v :: st))) F) : oGl p e below (T.setTop (mkF m pc Ls (st))) F := by
  subst hp
  exact oOn (fun _ kK => XS.lloadN X.here hx rfl hd hl kK) kk
theorem saload {pc pc' : Nat} {Ls : Array Slot} {F : State → Prop} {st : List Value} {k : Nat} {v : Value} (X : Stand p l e R s m args below meth c T locs cells slots) (hx : p.tables.exec = Jvm.exec) (hd : decode c.code pc = .ok (.aload k, 2)) (hp : pc + 2 = pc') (hl : Ls[k]? = some (.val v)) (hv : v.isRef = true) (kk : oGl p e below (T.setTop (mkF m pc' Ls (v :: st))) F) : oGl p e below (T.setTop (mkF m pc Ls (st))) F := by
  subst hp
  exact oOn (fun _ kK => XS.aload X.here hx rfl hd hl hv kK) kk
theorem saloadN {pc pc' : Nat} {Ls : Array Slot} {F : State → Prop} {st : List Value} {k : Fin 4} {v : Value} (X : Stand p l e R s m args below meth c T locs cells slots) (hx : p.tables.exec = Jvm.exec) (hd : decode c.code pc = .ok (.aload_n k, 1)) (hp : pc + 1 = pc') (hl : Ls[k.val]? = some (.val v)) (hv : v.isRef = true) (kk : oGl p e below (T.setTop (mkF m pc' Ls (v :: st))) F) : oGl p e below (T.setTop (mkF m pc Ls (st))) F := by
  subst hp
  exact oOn (fun _ kK => XS.aloadN X.here hx rfl hd hl hv kK) kk
theorem sistore {pc pc' : Nat} {Ls : Array Slot} {F : State → Prop} {st : List Value} {k : Nat} {x : Int32} {l' : Array Slot} (X : Stand p l e R s m args below meth c T locs cells slots) (hx : p.tables.exec = Jvm.exec) (hd : decode c.code pc = .ok (.istore k, 2)) (hp : pc + 2 = pc') (hl : storeLocals Ls k (.int x) = some l') (kk : oGl p e below (T.setTop (mkF m pc' l' (st))) F) : oGl p e below (T.setTop (mkF m pc Ls (.int x :: st))) F := by
  subst hp
  exact oOn (fun _ kK => XS.istore X.here hx rfl hd rfl hl kK) kk
theorem sistoreN {pc pc' : Nat} {Ls : Array Slot} {F : State → Prop} {st : List Value} {k : Fin 4} {x : Int32} {l' : Array Slot} (X : Stand p l e R s m args below meth c T locs cells slots) (hx : p.tables.exec = Jvm.exec) (hd : decode c.code pc = .ok (.istore_n k, 1)) (hp : pc + 1 = pc') (hl : storeLocals Ls k.val (.int x) = some l') (kk : oGl p e below (T.setTop (mkF m pc' l' (st))) F) : oGl p e below (T.setTop (mkF m pc Ls (.int x :: st))) F := by
  subst hp
  exact oOn (fun _ kK => XS.istoreN X.here hx rfl hd rfl hl kK) kk
theorem slstore {pc pc' : Nat} {Ls : Array Slot} {F : State → Prop} {st : List Value} {k : Nat} {x : Int64} {l' : Array Slot} (X : Stand p l e R s m args below meth c T locs cells slots) (hx : p.tables.exec = Jvm.exec) (hd : decode c.code pc = .ok (.lstore k, 2)) (hp : pc + 2 = pc') (hl : storeLocals Ls k (.long x) = some l') (kk : oGl p e below (T.setTop (mkF m pc' l' (st))) F) : oGl p e below (T.setTop (mkF m pc Ls (.long x :: st))) F := by
  subst hp
  exact oOn (fun _ kK => XS.lstore X.here hx rfl hd rfl hl kK) kk
theorem slstoreN {pc pc' : Nat} {Ls : Array Slot} {F : State → Prop} {st : List Value} {k : Fin 4} {x : Int64} {l' : Array Slot} (X : Stand p l e R s m args below meth c T locs cells slots) (hx : p.tables.exec = Jvm.exec) (hd : decode c.code pc = .ok (.lstore_n k, 1)) (hp : pc + 1 = pc') (hl : storeLocals Ls k.val (.long x) = some l') (kk : oGl p e below (T.setTop (mkF m pc' l' (st))) F) : oGl p e below (T.setTop (mkF m pc Ls (.long x :: st))) F := by
  subst hp
  exact oOn (fun _ kK => XS.lstoreN X.here hx rfl hd rfl hl kK) kk
theorem sastore {pc pc' : Nat} {Ls : Array Slot} {F : State → Prop} {st : List Value} {k : Nat} {x : Value} {l' : Array Slot} (X : Stand p l e R s m args below meth c T locs cells slots) (hx : p.tables.exec = Jvm.exec) (hd : decode c.code pc = .ok (.astore k, 2)) (hp : pc + 2 = pc') (hv : x.isRef = true) (hl : storeLocals Ls k x = some l') (kk : oGl p e below (T.setTop (mkF m pc' l' (st))) F) : oGl p e below (T.setTop (mkF m pc Ls (x :: st))) F := by
  subst hp
  exact oOn (fun _ kK => XS.astore X.here hx rfl hd rfl hv hl kK) kk
theorem sastoreN {pc pc' : Nat} {Ls : Array Slot} {F : State → Prop} {st : List Value} {k : Fin 4} {x : Value} {l' : Array Slot} (X : Stand p l e R s m args below meth c T locs cells slots) (hx : p.tables.exec = Jvm.exec) (hd : decode c.code pc = .ok (.astore_n k, 1)) (hp : pc + 1 = pc') (hv : x.isRef = true) (hl : storeLocals Ls k.val x = some l') (kk : oGl p e below (T.setTop (mkF m pc' l' (st))) F) : oGl p e below (T.setTop (mkF m pc Ls (x :: st))) F := by
  subst hp
  exact oOn (fun _ kK => XS.astoreN X.here hx rfl hd rfl hv hl kK) kk
theorem siconst {pc pc' : Nat} {Ls : Array Slot} {F : State → Prop} {st : List Value} {i : Int} {z : Int32} (X : Stand p l e R s m args below meth c T locs cells slots) (hx : p.tables.exec = Jvm.exec) (hd : decode c.code pc = .ok (.iconst i, 1)) (hp : pc + 1 = pc') (hz : Int32.ofInt i = z) (kk : oGl p e below (T.setTop (mkF m pc' Ls (.int z :: st))) F) : oGl p e below (T.setTop (mkF m pc Ls (st))) F := by
  subst hp hz
  exact oOn (fun _ kK => XS.iconst X.here hx rfl hd kK) kk
theorem sbipush {pc pc' : Nat} {Ls : Array Slot} {F : State → Prop} {st : List Value} {i : Int} {z : Int32} (X : Stand p l e R s m args below meth c T locs cells slots) (hx : p.tables.exec = Jvm.exec) (hd : decode c.code pc = .ok (.bipush i, 2)) (hp : pc + 2 = pc') (hz : (Int8.ofInt i).toInt32 = z) (kk : oGl p e below (T.setTop (mkF m pc' Ls (.int z :: st))) F) : oGl p e below (T.setTop (mkF m pc Ls (st))) F := by
  subst hp hz
  exact oOn (fun _ kK => XS.bipush X.here hx rfl hd kK) kk
theorem ssipush {pc pc' : Nat} {Ls : Array Slot} {F : State → Prop} {st : List Value} {i : Int} {z : Int32} (X : Stand p l e R s m args below meth c T locs cells slots) (hx : p.tables.exec = Jvm.exec) (hd : decode c.code pc = .ok (.sipush i, 3)) (hp : pc + 3 = pc') (hz : (Int16.ofInt i).toInt32 = z) (kk : oGl p e below (T.setTop (mkF m pc' Ls (.int z :: st))) F) : oGl p e below (T.setTop (mkF m pc Ls (st))) F := by
  subst hp hz
  exact oOn (fun _ kK => XS.sipush X.here hx rfl hd kK) kk
theorem slconst {pc pc' : Nat} {Ls : Array Slot} {F : State → Prop} {st : List Value} {k : Fin 2} {z : Int64} (X : Stand p l e R s m args below meth c T locs cells slots) (hx : p.tables.exec = Jvm.exec) (hd : decode c.code pc = .ok (.lconst k, 1)) (hp : pc + 1 = pc') (hz : Int64.ofNat k = z) (kk : oGl p e below (T.setTop (mkF m pc' Ls (.long z :: st))) F) : oGl p e below (T.setTop (mkF m pc Ls (st))) F := by
  subst hp hz
  exact oOn (fun _ kK => XS.lconst X.here hx rfl hd kK) kk
theorem saconst_null {pc pc' : Nat} {Ls : Array Slot} {F : State → Prop} {st : List Value} (X : Stand p l e R s m args below meth c T locs cells slots) (hx : p.tables.exec = Jvm.exec) (hd : decode c.code pc = .ok (.aconst_null, 1)) (hp : pc + 1 = pc')  (kk : oGl p e below (T.setTop (mkF m pc' Ls (.null :: st))) F) : oGl p e below (T.setTop (mkF m pc Ls (st))) F := by
  subst hp
  exact oOn (fun _ kK => XS.aconstNull X.here hx rfl hd kK) kk
theorem siadd {pc pc' : Nat} {Ls : Array Slot} {F : State → Prop} {st : List Value} {x y z : Int32} (X : Stand p l e R s m args below meth c T locs cells slots) (hx : p.tables.exec = Jvm.exec) (hd : decode c.code pc = .ok (.iadd, 1)) (hp : pc + 1 = pc') (hz : x + y = z) (kk : oGl p e below (T.setTop (mkF m pc' Ls (.int z :: st))) F) : oGl p e below (T.setTop (mkF m pc Ls (.int y :: .int x :: st))) F := by
  subst hp hz
  exact oOn (fun _ kK => XS.iadd X.here hx rfl hd rfl kK) kk
theorem sladd {pc pc' : Nat} {Ls : Array Slot} {F : State → Prop} {st : List Value} {x y z : Int64} (X : Stand p l e R s m args below meth c T locs cells slots) (hx : p.tables.exec = Jvm.exec) (hd : decode c.code pc = .ok (.ladd, 1)) (hp : pc + 1 = pc') (hz : x + y = z) (kk : oGl p e below (T.setTop (mkF m pc' Ls (.long z :: st))) F) : oGl p e below (T.setTop (mkF m pc Ls (.long y :: .long x :: st))) F := by
  subst hp hz
  exact oOn (fun _ kK => XS.ladd X.here hx rfl hd rfl kK) kk
theorem sisub {pc pc' : Nat} {Ls : Array Slot} {F : State → Prop} {st : List Value} {x y z : Int32} (X : Stand p l e R s m args below meth c T locs cells slots) (hx : p.tables.exec = Jvm.exec) (hd : decode c.code pc = .ok (.isub, 1)) (hp : pc + 1 = pc') (hz : x - y = z) (kk : oGl p e below (T.setTop (mkF m pc' Ls (.int z :: st))) F) : oGl p e below (T.setTop (mkF m pc Ls (.int y :: .int x :: st))) F := by
  subst hp hz
  exact oOn (fun _ kK => XS.isub X.here hx rfl hd rfl kK) kk
theorem slsub {pc pc' : Nat} {Ls : Array Slot} {F : State → Prop} {st : List Value} {x y z : Int64} (X : Stand p l e R s m args below meth c T locs cells slots) (hx : p.tables.exec = Jvm.exec) (hd : decode c.code pc = .ok (.lsub, 1)) (hp : pc + 1 = pc') (hz : x - y = z) (kk : oGl p e below (T.setTop (mkF m pc' Ls (.long z :: st))) F) : oGl p e below (T.setTop (mkF m pc Ls (.long y :: .long x :: st))) F := by
  subst hp hz
  exact oOn (fun _ kK => XS.lsub X.here hx rfl hd rfl kK) kk
theorem simul {pc pc' : Nat} {Ls : Array Slot} {F : State → Prop} {st : List Value} {x y z : Int32} (X : Stand p l e R s m args below meth c T locs cells slots) (hx : p.tables.exec = Jvm.exec) (hd : decode c.code pc = .ok (.imul, 1)) (hp : pc + 1 = pc') (hz : x * y = z) (kk : oGl p e below (T.setTop (mkF m pc' Ls (.int z :: st))) F) : oGl p e below (T.setTop (mkF m pc Ls (.int y :: .int x :: st))) F := by
  subst hp hz
  exact oOn (fun _ kK => XS.imul X.here hx rfl hd rfl kK) kk
theorem slmul {pc pc' : Nat} {Ls : Array Slot} {F : State → Prop} {st : List Value} {x y z : Int64} (X : Stand p l e R s m args below meth c T locs cells slots) (hx : p.tables.exec = Jvm.exec) (hd : decode c.code pc = .ok (.lmul, 1)) (hp : pc + 1 = pc') (hz : x * y = z) (kk : oGl p e below (T.setTop (mkF m pc' Ls (.long z :: st))) F) : oGl p e below (T.setTop (mkF m pc Ls (.long y :: .long x :: st))) F := by
  subst hp hz
  exact oOn (fun _ kK => XS.lmul X.here hx rfl hd rfl kK) kk
theorem siand {pc pc' : Nat} {Ls : Array Slot} {F : State → Prop} {st : List Value} {x y z : Int32} (X : Stand p l e R s m args below meth c T locs cells slots) (hx : p.tables.exec = Jvm.exec) (hd : decode c.code pc = .ok (.iand, 1)) (hp : pc + 1 = pc') (hz : x &&& y = z) (kk : oGl p e below (T.setTop (mkF m pc' Ls (.int z :: st))) F) : oGl p e below (T.setTop (mkF m pc Ls (.int y :: .int x :: st))) F := by
  subst hp hz
  exact oOn (fun _ kK => XS.iand X.here hx rfl hd rfl kK) kk
theorem sland {pc pc' : Nat} {Ls : Array Slot} {F : State → Prop} {st : List Value} {x y z : Int64} (X : Stand p l e R s m args below meth c T locs cells slots) (hx : p.tables.exec = Jvm.exec) (hd : decode c.code pc = .ok (.land, 1)) (hp : pc + 1 = pc') (hz : x &&& y = z) (kk : oGl p e below (T.setTop (mkF m pc' Ls (.long z :: st))) F) : oGl p e below (T.setTop (mkF m pc Ls (.long y :: .long x :: st))) F := by
  subst hp hz
  exact oOn (fun _ kK => XS.land X.here hx rfl hd rfl kK) kk
theorem sior {pc pc' : Nat} {Ls : Array Slot} {F : State → Prop} {st : List Value} {x y z : Int32} (X : Stand p l e R s m args below meth c T locs cells slots) (hx : p.tables.exec = Jvm.exec) (hd : decode c.code pc = .ok (.ior, 1)) (hp : pc + 1 = pc') (hz : x ||| y = z) (kk : oGl p e below (T.setTop (mkF m pc' Ls (.int z :: st))) F) : oGl p e below (T.setTop (mkF m pc Ls (.int y :: .int x :: st))) F := by
  subst hp hz
  exact oOn (fun _ kK => XS.ior X.here hx rfl hd rfl kK) kk
theorem slor {pc pc' : Nat} {Ls : Array Slot} {F : State → Prop} {st : List Value} {x y z : Int64} (X : Stand p l e R s m args below meth c T locs cells slots) (hx : p.tables.exec = Jvm.exec) (hd : decode c.code pc = .ok (.lor, 1)) (hp : pc + 1 = pc') (hz : x ||| y = z) (kk : oGl p e below (T.setTop (mkF m pc' Ls (.long z :: st))) F) : oGl p e below (T.setTop (mkF m pc Ls (.long y :: .long x :: st))) F := by
  subst hp hz
  exact oOn (fun _ kK => XS.lor X.here hx rfl hd rfl kK) kk
theorem sixor {pc pc' : Nat} {Ls : Array Slot} {F : State → Prop} {st : List Value} {x y z : Int32} (X : Stand p l e R s m args below meth c T locs cells slots) (hx : p.tables.exec = Jvm.exec) (hd : decode c.code pc = .ok (.ixor, 1)) (hp : pc + 1 = pc') (hz : x ^^^ y = z) (kk : oGl p e below (T.setTop (mkF m pc' Ls (.int z :: st))) F) : oGl p e below (T.setTop (mkF m pc Ls (.int y :: .int x :: st))) F := by
  subst hp hz
  exact oOn (fun _ kK => XS.ixor X.here hx rfl hd rfl kK) kk
theorem slxor {pc pc' : Nat} {Ls : Array Slot} {F : State → Prop} {st : List Value} {x y z : Int64} (X : Stand p l e R s m args below meth c T locs cells slots) (hx : p.tables.exec = Jvm.exec) (hd : decode c.code pc = .ok (.lxor, 1)) (hp : pc + 1 = pc') (hz : x ^^^ y = z) (kk : oGl p e below (T.setTop (mkF m pc' Ls (.long z :: st))) F) : oGl p e below (T.setTop (mkF m pc Ls (.long y :: .long x :: st))) F := by
  subst hp hz
  exact oOn (fun _ kK => XS.lxor X.here hx rfl hd rfl kK) kk
theorem sishl {pc pc' : Nat} {Ls : Array Slot} {F : State → Prop} {st : List Value} {x y z : Int32} (X : Stand p l e R s m args below meth c T locs cells slots) (hx : p.tables.exec = Jvm.exec) (hd : decode c.code pc = .ok (.ishl, 1)) (hp : pc + 1 = pc') (hz : x <<< (y &&& 31) = z) (kk : oGl p e below (T.setTop (mkF m pc' Ls (.int z :: st))) F) : oGl p e below (T.setTop (mkF m pc Ls (.int y :: .int x :: st))) F := by
  subst hp hz
  exact oOn (fun _ kK => XS.ishl X.here hx rfl hd rfl kK) kk
theorem sishr {pc pc' : Nat} {Ls : Array Slot} {F : State → Prop} {st : List Value} {x y z : Int32} (X : Stand p l e R s m args below meth c T locs cells slots) (hx : p.tables.exec = Jvm.exec) (hd : decode c.code pc = .ok (.ishr, 1)) (hp : pc + 1 = pc') (hz : x >>> (y &&& 31) = z) (kk : oGl p e below (T.setTop (mkF m pc' Ls (.int z :: st))) F) : oGl p e below (T.setTop (mkF m pc Ls (.int y :: .int x :: st))) F := by
  subst hp hz
  exact oOn (fun _ kK => XS.ishr X.here hx rfl hd rfl kK) kk
theorem siushr {pc pc' : Nat} {Ls : Array Slot} {F : State → Prop} {st : List Value} {x y z : Int32} (X : Stand p l e R s m args below meth c T locs cells slots) (hx : p.tables.exec = Jvm.exec) (hd : decode c.code pc = .ok (.iushr, 1)) (hp : pc + 1 = pc') (hz : (x.toUInt32 >>> (y &&& 31).toUInt32).toInt32 = z) (kk : oGl p e below (T.setTop (mkF m pc' Ls (.int z :: st))) F) : oGl p e below (T.setTop (mkF m pc Ls (.int y :: .int x :: st))) F := by
  subst hp hz
  exact oOn (fun _ kK => XS.iushr X.here hx rfl hd rfl kK) kk
theorem slshl {pc pc' : Nat} {Ls : Array Slot} {F : State → Prop} {st : List Value} {x z : Int64} {y : Int32} (X : Stand p l e R s m args below meth c T locs cells slots) (hx : p.tables.exec = Jvm.exec) (hd : decode c.code pc = .ok (.lshl, 1)) (hp : pc + 1 = pc') (hz : x <<< (y &&& 0x3f).toInt64 = z) (kk : oGl p e below (T.setTop (mkF m pc' Ls (.long z :: st))) F) : oGl p e below (T.setTop (mkF m pc Ls (.int y :: .long x :: st))) F := by
  subst hp hz
  exact oOn (fun _ kK => XS.lshl X.here hx rfl hd rfl kK) kk
theorem slshr {pc pc' : Nat} {Ls : Array Slot} {F : State → Prop} {st : List Value} {x z : Int64} {y : Int32} (X : Stand p l e R s m args below meth c T locs cells slots) (hx : p.tables.exec = Jvm.exec) (hd : decode c.code pc = .ok (.lshr, 1)) (hp : pc + 1 = pc') (hz : x >>> (y &&& 0x3f).toInt64 = z) (kk : oGl p e below (T.setTop (mkF m pc' Ls (.long z :: st))) F) : oGl p e below (T.setTop (mkF m pc Ls (.int y :: .long x :: st))) F := by
  subst hp hz
  exact oOn (fun _ kK => XS.lshr X.here hx rfl hd rfl kK) kk
theorem slushr {pc pc' : Nat} {Ls : Array Slot} {F : State → Prop} {st : List Value} {x z : Int64} {y : Int32} (X : Stand p l e R s m args below meth c T locs cells slots) (hx : p.tables.exec = Jvm.exec) (hd : decode c.code pc = .ok (.lushr, 1)) (hp : pc + 1 = pc') (hz : (x.toUInt64 >>> (y &&& 0x3f).toInt64.toUInt64).toInt64 = z) (kk : oGl p e below (T.setTop (mkF m pc' Ls (.long z :: st))) F) : oGl p e below (T.setTop (mkF m pc Ls (.int y :: .long x :: st))) F := by
  subst hp hz
  exact oOn (fun _ kK => XS.lushr X.here hx rfl hd rfl kK) kk
theorem sineg {pc pc' : Nat} {Ls : Array Slot} {F : State → Prop} {st : List Value} {x : Int32} {z : Int32} (X : Stand p l e R s m args below meth c T locs cells slots) (hx : p.tables.exec = Jvm.exec) (hd : decode c.code pc = .ok (.ineg, 1)) (hp : pc + 1 = pc') (hz : -x = z) (kk : oGl p e below (T.setTop (mkF m pc' Ls (.int z :: st))) F) : oGl p e below (T.setTop (mkF m pc Ls (.int x :: st))) F := by
  subst hp hz
  exact oOn (fun _ kK => XS.ineg X.here hx rfl hd rfl kK) kk
theorem slneg {pc pc' : Nat} {Ls : Array Slot} {F : State → Prop} {st : List Value} {x : Int64} {z : Int64} (X : Stand p l e R s m args below meth c T locs cells slots) (hx : p.tables.exec = Jvm.exec) (hd : decode c.code pc = .ok (.lneg, 1)) (hp : pc + 1 = pc') (hz : -x = z) (kk : oGl p e below (T.setTop (mkF m pc' Ls (.long z :: st))) F) : oGl p e below (T.setTop (mkF m pc Ls (.long x :: st))) F := by
  subst hp hz
  exact oOn (fun _ kK => XS.lneg X.here hx rfl hd rfl kK) kk
theorem si2l {pc pc' : Nat} {Ls : Array Slot} {F : State → Prop} {st : List Value} {x : Int32} {z : Int64} (X : Stand p l e R s m args below meth c T locs cells slots) (hx : p.tables.exec = Jvm.exec) (hd : decode c.code pc = .ok (.i2l, 1)) (hp : pc + 1 = pc') (hz : x.toInt64 = z) (kk : oGl p e below (T.setTop (mkF m pc' Ls (.long z :: st))) F) : oGl p e below (T.setTop (mkF m pc Ls (.int x :: st))) F := by
  subst hp hz
  exact oOn (fun _ kK => XS.i2l X.here hx rfl hd rfl kK) kk
theorem sl2i {pc pc' : Nat} {Ls : Array Slot} {F : State → Prop} {st : List Value} {x : Int64} {z : Int32} (X : Stand p l e R s m args below meth c T locs cells slots) (hx : p.tables.exec = Jvm.exec) (hd : decode c.code pc = .ok (.l2i, 1)) (hp : pc + 1 = pc') (hz : x.toInt32 = z) (kk : oGl p e below (T.setTop (mkF m pc' Ls (.int z :: st))) F) : oGl p e below (T.setTop (mkF m pc Ls (.long x :: st))) F := by
  subst hp hz
  exact oOn (fun _ kK => XS.l2i X.here hx rfl hd rfl kK) kk
theorem si2b {pc pc' : Nat} {Ls : Array Slot} {F : State → Prop} {st : List Value} {x : Int32} {z : Int32} (X : Stand p l e R s m args below meth c T locs cells slots) (hx : p.tables.exec = Jvm.exec) (hd : decode c.code pc = .ok (.i2b, 1)) (hp : pc + 1 = pc') (hz : x.toInt8.toInt32 = z) (kk : oGl p e below (T.setTop (mkF m pc' Ls (.int z :: st))) F) : oGl p e below (T.setTop (mkF m pc Ls (.int x :: st))) F := by
  subst hp hz
  exact oOn (fun _ kK => XS.i2b X.here hx rfl hd rfl kK) kk
theorem si2s {pc pc' : Nat} {Ls : Array Slot} {F : State → Prop} {st : List Value} {x : Int32} {z : Int32} (X : Stand p l e R s m args below meth c T locs cells slots) (hx : p.tables.exec = Jvm.exec) (hd : decode c.code pc = .ok (.i2s, 1)) (hp : pc + 1 = pc') (hz : x.toInt16.toInt32 = z) (kk : oGl p e below (T.setTop (mkF m pc' Ls (.int z :: st))) F) : oGl p e below (T.setTop (mkF m pc Ls (.int x :: st))) F := by
  subst hp hz
  exact oOn (fun _ kK => XS.i2s X.here hx rfl hd rfl kK) kk
theorem si2c {pc pc' : Nat} {Ls : Array Slot} {F : State → Prop} {st : List Value} {x : Int32} {z : Int32} (X : Stand p l e R s m args below meth c T locs cells slots) (hx : p.tables.exec = Jvm.exec) (hd : decode c.code pc = .ok (.i2c, 1)) (hp : pc + 1 = pc') (hz : x.toUInt32.toUInt16.toUInt32.toInt32 = z) (kk : oGl p e below (T.setTop (mkF m pc' Ls (.int z :: st))) F) : oGl p e below (T.setTop (mkF m pc Ls (.int x :: st))) F := by
  subst hp hz
  exact oOn (fun _ kK => XS.i2c X.here hx rfl hd rfl kK) kk
theorem slcmp {pc pc' : Nat} {Ls : Array Slot} {F : State → Prop} {st : List Value} {x y : Int64} (X : Stand p l e R s m args below meth c T locs cells slots) (hx : p.tables.exec = Jvm.exec) (hd : decode c.code pc = .ok (.lcmp, 1)) (hp : pc + 1 = pc')  (kk : oGl p e below (T.setTop (mkF m pc' Ls (.int (lcmpW x y) :: st))) F) : oGl p e below (T.setTop (mkF m pc Ls (.long y :: .long x :: st))) F := by
  subst hp
  exact oOn (fun _ kK => XS.lcmp X.here hx rfl hd rfl kK) kk
theorem sirem {pc pc' : Nat} {Ls : Array Slot} {F : State → Prop} {st : List Value} {x y z : Int32} (X : Stand p l e R s m args below meth c T locs cells slots) (hx : p.tables.exec = Jvm.exec) (hd : decode c.code pc = .ok (.irem, 1)) (hp : pc + 1 = pc') (hy : y ≠ 0) (hz : x % y = z) (kk : oGl p e below (T.setTop (mkF m pc' Ls (.int z :: st))) F) : oGl p e below (T.setTop (mkF m pc Ls (.int y :: .int x :: st))) F := by
  subst hp hz
  exact oOn (fun _ kK => iremM X hx rfl hd rfl hy kK) kk
theorem sidiv {pc pc' : Nat} {Ls : Array Slot} {F : State → Prop} {st : List Value} {x y z : Int32} (X : Stand p l e R s m args below meth c T locs cells slots) (hx : p.tables.exec = Jvm.exec) (hd : decode c.code pc = .ok (.idiv, 1)) (hp : pc + 1 = pc') (hy : y ≠ 0) (hz : x / y = z) (kk : oGl p e below (T.setTop (mkF m pc' Ls (.int z :: st))) F) : oGl p e below (T.setTop (mkF m pc Ls (.int y :: .int x :: st))) F := by
  subst hp hz
  exact oOn (fun _ kK => XS.idiv X.here hx rfl hd rfl hy kK) kk
theorem siinc {pc pc' : Nat} {Ls : Array Slot} {F : State → Prop} {st : List Value} {k : Nat} {cst : Int} {x : Int32} {l' : Array Slot} (X : Stand p l e R s m args below meth c T locs cells slots) (hx : p.tables.exec = Jvm.exec) (hd : decode c.code pc = .ok (.iinc k cst, 3)) (hp : pc + 3 = pc') (hl : Ls[k]? = some (.val (.int x))) (hl' : storeLocals Ls k (.int (x + Int32.ofInt cst)) = some l') (kk : oGl p e below (T.setTop (mkF m pc' l' (st))) F) : oGl p e below (T.setTop (mkF m pc Ls (st))) F := by
  subst hp
  exact oOn (fun _ kK => XS.iinc X.here hx rfl hd hl hl' kK) kk
theorem sdup {pc pc' : Nat} {Ls : Array Slot} {F : State → Prop} {st : List Value} {x : Value} (X : Stand p l e R s m args below meth c T locs cells slots) (hx : p.tables.exec = Jvm.exec) (hd : decode c.code pc = .ok (.dup, 1)) (hp : pc + 1 = pc') (hc : x.category = 1) (kk : oGl p e below (T.setTop (mkF m pc' Ls (x :: x :: st))) F) : oGl p e below (T.setTop (mkF m pc Ls (x :: st))) F := by
  subst hp
  exact oOn (fun _ kK => XS.dup X.here hx rfl hd rfl hc kK) kk
theorem spop {pc pc' : Nat} {Ls : Array Slot} {F : State → Prop} {st : List Value} {x : Value} (X : Stand p l e R s m args below meth c T locs cells slots) (hx : p.tables.exec = Jvm.exec) (hd : decode c.code pc = .ok (.pop, 1)) (hp : pc + 1 = pc') (hc : x.category = 1) (kk : oGl p e below (T.setTop (mkF m pc' Ls (st))) F) : oGl p e below (T.setTop (mkF m pc Ls (x :: st))) F := by
  subst hp
  exact oOn (fun _ kK => XS.pop X.here hx rfl hd rfl hc kK) kk
theorem sdup_x1 {pc pc' : Nat} {Ls : Array Slot} {F : State → Prop} {st : List Value} {x y : Value} (X : Stand p l e R s m args below meth c T locs cells slots) (hx : p.tables.exec = Jvm.exec) (hd : decode c.code pc = .ok (.dup_x1, 1)) (hp : pc + 1 = pc') (hc : x.category = 1) (hc2 : y.category = 1) (kk : oGl p e below (T.setTop (mkF m pc' Ls (x :: y :: x :: st))) F) : oGl p e below (T.setTop (mkF m pc Ls (x :: y :: st))) F := by
  subst hp
  exact oOn (fun _ kK => XS.dupX1 X.here hx rfl hd rfl hc hc2 kK) kk
theorem sdup2 {pc pc' : Nat} {Ls : Array Slot} {F : State → Prop} {st : List Value} {x y : Value} (X : Stand p l e R s m args below meth c T locs cells slots) (hx : p.tables.exec = Jvm.exec) (hd : decode c.code pc = .ok (.dup2, 1)) (hp : pc + 1 = pc') (hc : x.category = 1) (hc2 : y.category = 1) (kk : oGl p e below (T.setTop (mkF m pc' Ls (x :: y :: x :: y :: st))) F) : oGl p e below (T.setTop (mkF m pc Ls (x :: y :: st))) F := by
  subst hp
  exact oOn (fun _ kK => oDup2 X.here hx rfl hd rfl hc hc2 kK) kk
theorem sdup_x2 {pc pc' : Nat} {Ls : Array Slot} {F : State → Prop} {st : List Value} {x y z : Value} (X : Stand p l e R s m args below meth c T locs cells slots) (hx : p.tables.exec = Jvm.exec) (hd : decode c.code pc = .ok (.dup_x2, 1)) (hp : pc + 1 = pc') (hc : x.category = 1) (hc2 : y.category = 1) (hc3 : z.category = 1) (kk : oGl p e below (T.setTop (mkF m pc' Ls (x :: y :: z :: x :: st))) F) : oGl p e below (T.setTop (mkF m pc Ls (x :: y :: z :: st))) F := by
  subst hp
  exact oOn (fun _ kK => oDupX2 X.here hx rfl hd rfl hc hc2 hc3 kK) kk
theorem sgoto {pc pc' : Nat} {Ls : Array Slot} {st : List Value} {F : State → Prop} {o : Int}  (X : Stand p l e R s m args below meth c T locs cells slots) (hx : p.tables.exec = Jvm.exec) (hd : decode c.code pc = .ok (.goto o, 3)) (ho : 0 ≤ (pc : Int) + o) (hp : ((pc : Int) + o).toNat = pc')  (kk : oGl p e below (T.setTop (mkF m pc' Ls st)) F) : oGl p e below (T.setTop (mkF m pc Ls (st))) F :=
  oOn (fun _ kK => XS.goto X.here hx rfl rfl hd ho hp kK) kk
theorem sifY {pc pc' : Nat} {Ls : Array Slot} {st : List Value} {F : State → Prop} {o : Int} {cd : ClassFile.Cond} {x : Int32} (X : Stand p l e R s m args below meth c T locs cells slots) (hx : p.tables.exec = Jvm.exec) (hd : decode c.code pc = .ok (.ifCond cd o, 3)) (ho : 0 ≤ (pc : Int) + o) (hp : ((pc : Int) + o).toNat = pc') (hc : if_icmp.holds cd x 0 = true) (kk : oGl p e below (T.setTop (mkF m pc' Ls st)) F) : oGl p e below (T.setTop (mkF m pc Ls (.int x :: st))) F :=
  oOn (fun _ kK => XS.ifYes X.here hx rfl rfl hd rfl ((if0 _ _).trans hc) ho hp kK) kk
theorem sicY {pc pc' : Nat} {Ls : Array Slot} {st : List Value} {F : State → Prop} {o : Int} {cd : ClassFile.Cond} {x y : Int32} (X : Stand p l e R s m args below meth c T locs cells slots) (hx : p.tables.exec = Jvm.exec) (hd : decode c.code pc = .ok (.if_icmp cd o, 3)) (ho : 0 ≤ (pc : Int) + o) (hp : ((pc : Int) + o).toNat = pc') (hc : if_icmp.holds cd x y = true) (kk : oGl p e below (T.setTop (mkF m pc' Ls st)) F) : oGl p e below (T.setTop (mkF m pc Ls (.int y :: .int x :: st))) F :=
  oOn (fun _ kK => XS.icmpYes X.here hx rfl rfl hd rfl hc ho hp kK) kk
theorem sifnullY {pc pc' : Nat} {Ls : Array Slot} {st : List Value} {F : State → Prop} {o : Int}  (X : Stand p l e R s m args below meth c T locs cells slots) (hx : p.tables.exec = Jvm.exec) (hd : decode c.code pc = .ok (.ifnull o, 3)) (ho : 0 ≤ (pc : Int) + o) (hp : ((pc : Int) + o).toNat = pc')  (kk : oGl p e below (T.setTop (mkF m pc' Ls st)) F) : oGl p e below (T.setTop (mkF m pc Ls (.null :: st))) F :=
  oOn (fun _ kK => XS.ifnullYes X.here hx rfl rfl hd rfl ho hp kK) kk
theorem sifnonnullY {pc pc' : Nat} {Ls : Array Slot} {st : List Value} {F : State → Prop} {o : Int} {b : Addr} (X : Stand p l e R s m args below meth c T locs cells slots) (hx : p.tables.exec = Jvm.exec) (hd : decode c.code pc = .ok (.ifnonnull o, 3)) (ho : 0 ≤ (pc : Int) + o) (hp : ((pc : Int) + o).toNat = pc')  (kk : oGl p e below (T.setTop (mkF m pc' Ls st)) F) : oGl p e below (T.setTop (mkF m pc Ls (.ref b :: st))) F :=
  oOn (fun _ kK => XS.ifnonnullYes X.here hx rfl rfl hd rfl ho hp kK) kk
theorem sifN {pc pc' : Nat} {Ls : Array Slot} {F : State → Prop} {st : List Value} {cd : ClassFile.Cond} {o : Int} {x : Int32} (X : Stand p l e R s m args below meth c T locs cells slots) (hx : p.tables.exec = Jvm.exec) (hd : decode c.code pc = .ok (.ifCond cd o, 3)) (hp : pc + 3 = pc') (hc : if_icmp.holds cd x 0 = false) (kk : oGl p e below (T.setTop (mkF m pc' Ls (st))) F) : oGl p e below (T.setTop (mkF m pc Ls (.int x :: st))) F := by
  subst hp
  exact oOn (fun _ kK => XS.ifNo X.here hx rfl hd rfl ((if0 _ _).trans hc) kK) kk
theorem sicN {pc pc' : Nat} {Ls : Array Slot} {F : State → Prop} {st : List Value} {cd : ClassFile.Cond} {o : Int} {x y : Int32} (X : Stand p l e R s m args below meth c T locs cells slots) (hx : p.tables.exec = Jvm.exec) (hd : decode c.code pc = .ok (.if_icmp cd o, 3)) (hp : pc + 3 = pc') (hc : if_icmp.holds cd x y = false) (kk : oGl p e below (T.setTop (mkF m pc' Ls (st))) F) : oGl p e below (T.setTop (mkF m pc Ls (.int y :: .int x :: st))) F := by
  subst hp
  exact oOn (fun _ kK => XS.icmpNo X.here hx rfl hd rfl hc kK) kk
theorem sifnullN {pc pc' : Nat} {Ls : Array Slot} {F : State → Prop} {st : List Value} {o : Int} {b : Addr} (X : Stand p l e R s m args below meth c T locs cells slots) (hx : p.tables.exec = Jvm.exec) (hd : decode c.code pc = .ok (.ifnull o, 3)) (hp : pc + 3 = pc')  (kk : oGl p e below (T.setTop (mkF m pc' Ls (st))) F) : oGl p e below (T.setTop (mkF m pc Ls (.ref b :: st))) F := by
  subst hp
  exact oOn (fun _ kK => XS.ifnullNo X.here hx rfl hd rfl kK) kk
theorem sifnonnullN {pc pc' : Nat} {Ls : Array Slot} {F : State → Prop} {st : List Value} {o : Int} (X : Stand p l e R s m args below meth c T locs cells slots) (hx : p.tables.exec = Jvm.exec) (hd : decode c.code pc = .ok (.ifnonnull o, 3)) (hp : pc + 3 = pc')  (kk : oGl p e below (T.setTop (mkF m pc' Ls (st))) F) : oGl p e below (T.setTop (mkF m pc Ls (.null :: st))) F := by
  subst hp
  exact oOn (fun _ kK => XS.ifnonnullNo X.here hx rfl hd rfl kK) kk
/-! arrays of ints, bytes, chars, shorts, booleans: place j holds f j -/
def oAI (Z : State) (h : Heap) (a : Addr) (ty : FieldType) (n : Nat) (f : Nat → Int32) : Prop := ∃ c : Cell, Arr Z h a c ty ∧ c.slots.size = n ∧ n < 2147483648 ∧ ∀ j, j < n → c.slots[j]? = some (.int (f j))
def oUp {α : Type} (f : Nat → α) (i : Nat) (x : α) : Nat → α := fun k => if k = i then x else f k
theorem oUp_hit {α : Type} {f : Nat → α} {i : Nat} {x : α} : oUp f i x i = x := if_pos rfl
theorem oUp_miss {α : Type} {f : Nat → α} {i k : Nat} {x : α} (q : k ≠ i) : oUp f i x k = f k := if_neg q
variable {n : Nat} {f f' : Nat → Int32} {sl : Nat} {v : Value} {ws : List Addr}
theorem oAI.lt (F : oAI Z h a ty n f) : a < h.size := by obtain ⟨c, A, -⟩ := F; exact A.lt
theorem oAI.small (F : oAI Z h a ty n f) : n < 2147483648 := by obtain ⟨c, -, -, q, -⟩ := F; exact q
theorem oAI.ext (F : oAI Z h a ty n f) (E : Ext h h') : oAI Z h' a ty n f := by obtain ⟨c, A, r⟩ := F; exact ⟨c, A.ext E, r⟩
theorem oAI.other (F : oAI Z h b ty n f) (W : Wr h h' a sl v) (q : b ≠ a) : oAI Z h' b ty n f := by obtain ⟨c, A, r⟩ := F; exact ⟨c, A.other W q, r⟩
theorem oAI.keep (F : oAI Z h a ty n f) (K : Keep h h' ws) (q : a ∉ ws) : oAI Z h' a ty n f := by obtain ⟨c, A, r⟩ := F; exact ⟨c, ⟨K.2.1 a c A.1 q, A.2⟩, r⟩
theorem oAI.congr (F : oAI Z h a ty n f) (q : ∀ j, j < n → f j = f' j) : oAI Z h a ty n f' := by obtain ⟨c, A, r1, r2, r3⟩ := F; exact ⟨c, A, r1, r2, fun j hj => by rw [← q j hj]; exact r3 j hj⟩
theorem oAI.new {k : ClassId} {z : Int32} (A : Arr Z h a (newA k ty z) ty) (hn : z.toInt.toNat = n) (hd : defaultValue ty = .int 0 := by rfl) : oAI Z h a ty n (fun _ => 0) := by
  refine ⟨_, A, ?_, ?_, fun j hj => ?_⟩
  · rw [sz_new]; exact hn
  · have := z.toInt_lt; omega
  · have hs : (newA k ty z).slots.size = n := by rw [sz_new]; exact hn
    simp only [newA] at hs ⊢
    rw [Array.getElem?_replicate, if_pos (by simpa using (by simpa using hs : z.toNatClampNeg = n) ▸ hj), hd]
theorem oNotIn {j : Int32} {cl : Cell} (hs : cl.slots.size = n) (hj : 0 ≤ j.toInt ∧ j.toInt < n) : ¬ (j < 0 ∨ cl.slots.size ≤ j.toNatClampNeg) := by
  have h1 : j.toNatClampNeg = j.toInt.toNat := rfl
  rw [hs, h1, Int32.lt_iff_toInt_lt]
  have h2 : (0 : Int32).toInt = 0 := rfl
  rw [h2]; omega
theorem oAI.at (F : oAI Z h a ty n f) {j : Int32} (hj : 0 ≤ j.toInt ∧ j.toInt < n) : ∃ c : Cell, Arr Z h a c ty ∧ ¬ (j < 0 ∨ c.slots.size ≤ j.toNatClampNeg) ∧ c.slots[j.toNatClampNeg]? = some (.int (f j.toInt.toNat)) := by
  obtain ⟨c, A, S, q, G⟩ := F
  exact ⟨c, A, oNotIn S hj, G j.toInt.toNat (by omega)⟩
theorem oAI.set {j : Int32} {x : Int32} (F : oAI Z h a ty n f) (W : Wr h h' a j.toNatClampNeg (.int x)) (hj : 0 ≤ j.toInt ∧ j.toInt < n) : oAI Z h' a ty n (oUp f j.toInt.toNat x) := by
  obtain ⟨c, A, S, q, G⟩ := F
  refine ⟨_, A.same W, by rw [sz_set]; exact S, q, fun k hk => ?_⟩
  have h1 : j.toNatClampNeg = j.toInt.toNat := rfl
  show (c.slots.setIfInBounds j.toNatClampNeg (.int x))[k]? = _
  by_cases e : k = j.toInt.toNat
  · subst e; rw [oUp_hit, h1, Array.getElem?_setIfInBounds_self_of_lt (by rw [S]; exact hk)]
  · rw [oUp_miss e, h1, Array.getElem?_setIfInBounds_ne (Ne.symm e)]; exact G k hk
theorem oAI.len (F : oAI Z h a ty n f) (X : Stand p l e R s m args below meth c T locs cells slots) (hx : p.tables.exec = Jvm.exec) (hZ : Z.Warmed39 s.vm) (eT : T.heap = h) {g : JFrame} (hg : g.method = m) {rest : List Value} (hs : g.stack = .ref a :: rest) (hd : decode c.code g.pc = .ok (.arraylength, 1)) :
    ∀ t, Steps p.tables e below (T.setTop { g with pc := g.pc + 1, stack := .int (Int32.ofNat n) :: rest }) t → Steps p.tables e below (T.setTop g) t := by
  obtain ⟨cl, A, S, -, -⟩ := F
  intro t k
  refine X.arraylength hx (by rw [eT]; exact A.1) (State.isArrayOf_alike hZ.alike A.2.1) hg hs hd _ ?_
  rw [S]; exact k
theorem oAI.ldI (F : oAI Z h a .int n f) (X : Stand p l e R s m args below meth c T locs cells slots) (hx : p.tables.exec = Jvm.exec) (hZ : Z.Warmed39 s.vm) (eT : T.heap = h) {j : Int32} (hj : 0 ≤ j.toInt ∧ j.toInt < n) {g : JFrame} (hg : g.method = m) {rest : List Value} (hs : g.stack = .int j :: .ref a :: rest) (hd : decode c.code g.pc = .ok (.iaload, 1)) :
    ∀ t, Steps p.tables e below (T.setTop { g with pc := g.pc + 1, stack := .int (f j.toInt.toNat) :: rest }) t → Steps p.tables e below (T.setTop g) t := by
  obtain ⟨cl, A, q1, q2⟩ := F.at hj
  exact X.iaload hx (by rw [eT]; exact A.1) (State.isArrayOf_alike hZ.alike A.2.1) A.2.2 q1 q2 hg hs hd
theorem oAI.ldB (F : oAI Z h a .byte n f) (X : Stand p l e R s m args below meth c T locs cells slots) (hx : p.tables.exec = Jvm.exec) (hZ : Z.Warmed39 s.vm) (eT : T.heap = h) {j : Int32} (hj : 0 ≤ j.toInt ∧ j.toInt < n) {g : JFrame} (hg : g.method = m) {rest : List Value} (hs : g.stack = .int j :: .ref a :: rest) (hd : decode c.code g.pc = .ok (.baload, 1)) :
    ∀ t, Steps p.tables e below (T.setTop { g with pc := g.pc + 1, stack := .int (f j.toInt.toNat) :: rest }) t → Steps p.tables e below (T.setTop g) t := by
  obtain ⟨cl, A, q1, q2⟩ := F.at hj
  exact X.baloadBytes hx (by rw [eT]; exact A.1) (State.isArrayOf_alike hZ.alike A.2.1) A.2.2 q1 q2 hg hs hd
theorem oAI.ldZ (F : oAI Z h a .boolean n f) (X : Stand p l e R s m args below meth c T locs cells slots) (hx : p.tables.exec = Jvm.exec) (hZ : Z.Warmed39 s.vm) (eT : T.heap = h) {j : Int32} (hj : 0 ≤ j.toInt ∧ j.toInt < n) {g : JFrame} (hg : g.method = m) {rest : List Value} (hs : g.stack = .int j :: .ref a :: rest) (hd : decode c.code g.pc = .ok (.baload, 1)) :
    ∀ t, Steps p.tables e below (T.setTop { g with pc := g.pc + 1, stack := .int (f j.toInt.toNat) :: rest }) t → Steps p.tables e below (T.setTop g) t := by
  obtain ⟨cl, A, q1, q2⟩ := F.at hj
  exact X.baloadBooleans hx (by rw [eT]; exact A.1) (State.isArrayOf_alike hZ.alike A.2.1) A.2.2 q1 q2 hg hs hd
theorem oAI.ldC (F : oAI Z h a .char n f) (X : Stand p l e R s m args below meth c T locs cells slots) (hx : p.tables.exec = Jvm.exec) (hZ : Z.Warmed39 s.vm) (eT : T.heap = h) {j : Int32} (hj : 0 ≤ j.toInt ∧ j.toInt < n) {g : JFrame} (hg : g.method = m) {rest : List Value} (hs : g.stack = .int j :: .ref a :: rest) (hd : decode c.code g.pc = .ok (.caload, 1)) :
    ∀ t, Steps p.tables e below (T.setTop { g with pc := g.pc + 1, stack := .int (f j.toInt.toNat) :: rest }) t → Steps p.tables e below (T.setTop g) t := by
  obtain ⟨cl, A, q1, q2⟩ := F.at hj
  exact X.caload hx (by rw [eT]; exact A.1) (State.isArrayOf_alike hZ.alike A.2.1) A.2.2 q1 q2 hg hs hd
theorem oAI.ldS (F : oAI Z h a .short n f) (X : Stand p l e R s m args below meth c T locs cells slots) (hx : p.tables.exec = Jvm.exec) (hZ : Z.Warmed39 s.vm) (eT : T.heap = h) {j : Int32} (hj : 0 ≤ j.toInt ∧ j.toInt < n) {g : JFrame} (hg : g.method = m) {rest : List Value} (hs : g.stack = .int j :: .ref a :: rest) (hd : decode c.code g.pc = .ok (.saload, 1)) :
    ∀ t, Steps p.tables e below (T.setTop { g with pc := g.pc + 1, stack := .int (f j.toInt.toNat) :: rest }) t → Steps p.tables e below (T.setTop g) t := by
  obtain ⟨cl, A, q1, q2⟩ := F.at hj
  exact X.saload hx (by rw [eT]; exact A.1) (State.isArrayOf_alike hZ.alike A.2.1) A.2.2 q1 q2 hg hs hd
theorem oAI.stI (F : oAI Z h a .int n f) (X : Stand p l e R s m args below meth c T locs cells slots) (hx : p.tables.exec = Jvm.exec) (hZ : Z.Warmed39 s.vm) (eT : T.heap = h) {j x : Int32} (hj : 0 ≤ j.toInt ∧ j.toInt < n) {g : JFrame} (hg : g.method = m) {rest : List Value} (hs : g.stack = .int x :: .int j :: .ref a :: rest) (hd : decode c.code g.pc = .ok (.iastore, 1)) :
    ∃ T' h', Stand p l e R s m args below meth c T' (locs ++ [⟨a, j.toNatClampNeg⟩]) cells slots ∧ T'.heap = h' ∧ Wr h h' a j.toNatClampNeg (.int x) ∧ oAI Z h' a .int n (oUp f j.toInt.toNat x) ∧ ∀ t, Steps p.tables e below (T'.setTop { g with pc := g.pc + 1, stack := rest }) t → Steps p.tables e below (T.setTop g) t := by
  have F' := F
  obtain ⟨cl, A, S, q, G⟩ := F'
  obtain ⟨T', h', X', e', W, st⟩ := Jvm.RoadKit.stI X hx hZ eT A (x := x) (oNotIn S hj) hg hs hd
  exact ⟨T', h', X', e', W, F.set W hj, st⟩
theorem oAI.stB (F : oAI Z h a .byte n f) (X : Stand p l e R s m args below meth c T locs cells slots) (hx : p.tables.exec = Jvm.exec) (hZ : Z.Warmed39 s.vm) (eT : T.heap = h) {j x : Int32} (hj : 0 ≤ j.toInt ∧ j.toInt < n) {g : JFrame} (hg : g.method = m) {rest : List Value} (hs : g.stack = .int x :: .int j :: .ref a :: rest) (hd : decode c.code g.pc = .ok (.bastore, 1)) :
    ∃ T' h', Stand p l e R s m args below meth c T' (locs ++ [⟨a, j.toNatClampNeg⟩]) cells slots ∧ T'.heap = h' ∧ Wr h h' a j.toNatClampNeg (.int (nar .byte x)) ∧ oAI Z h' a .byte n (oUp f j.toInt.toNat (nar .byte x)) ∧ ∀ t, Steps p.tables e below (T'.setTop { g with pc := g.pc + 1, stack := rest }) t → Steps p.tables e below (T.setTop g) t := by
  have F' := F
  obtain ⟨cl, A, S, q, G⟩ := F'
  obtain ⟨T', h', X', e', W, st⟩ := Jvm.RoadKit.stB X hx hZ eT A (x := x) (oNotIn S hj) hg hs hd
  exact ⟨T', h', X', e', W, F.set W hj, st⟩
theorem oAI.stZ (F : oAI Z h a .boolean n f) (X : Stand p l e R s m args below meth c T locs cells slots) (hx : p.tables.exec = Jvm.exec) (hZ : Z.Warmed39 s.vm) (eT : T.heap = h) {j x : Int32} (hj : 0 ≤ j.toInt ∧ j.toInt < n) {g : JFrame} (hg : g.method = m) {rest : List Value} (hs : g.stack = .int x :: .int j :: .ref a :: rest) (hd : decode c.code g.pc = .ok (.bastore, 1)) :
    ∃ T' h', Stand p l e R s m args below meth c T' (locs ++ [⟨a, j.toNatClampNeg⟩]) cells slots ∧ T'.heap = h' ∧ Wr h h' a j.toNatClampNeg (.int (nar .boolean x)) ∧ oAI Z h' a .boolean n (oUp f j.toInt.toNat (nar .boolean x)) ∧ ∀ t, Steps p.tables e below (T'.setTop { g with pc := g.pc + 1, stack := rest }) t → Steps p.tables e below (T.setTop g) t := by
  have F' := F
  obtain ⟨cl, A, S, q, G⟩ := F'
  obtain ⟨T', h', X', e', W, st⟩ := Jvm.RoadKit.stZ X hx hZ eT A (x := x) (oNotIn S hj) hg hs hd
  exact ⟨T', h', X', e', W, F.set W hj, st⟩
theorem oAI.stC (F : oAI Z h a .char n f) (X : Stand p l e R s m args below meth c T locs cells slots) (hx : p.tables.exec = Jvm.exec) (hZ : Z.Warmed39 s.vm) (eT : T.heap = h) {j x : Int32} (hj : 0 ≤ j.toInt ∧ j.toInt < n) {g : JFrame} (hg : g.method = m) {rest : List Value} (hs : g.stack = .int x :: .int j :: .ref a :: rest) (hd : decode c.code g.pc = .ok (.castore, 1)) :
    ∃ T' h', Stand p l e R s m args below meth c T' (locs ++ [⟨a, j.toNatClampNeg⟩]) cells slots ∧ T'.heap = h' ∧ Wr h h' a j.toNatClampNeg (.int (nar .char x)) ∧ oAI Z h' a .char n (oUp f j.toInt.toNat (nar .char x)) ∧ ∀ t, Steps p.tables e below (T'.setTop { g with pc := g.pc + 1, stack := rest }) t → Steps p.tables e below (T.setTop g) t := by
  have F' := F
  obtain ⟨cl, A, S, q, G⟩ := F'
  obtain ⟨T', h', X', e', W, st⟩ := Jvm.RoadKit.stC X hx hZ eT A (x := x) (oNotIn S hj) hg hs hd
  exact ⟨T', h', X', e', W, F.set W hj, st⟩
theorem oAI.stS (F : oAI Z h a .short n f) (X : Stand p l e R s m args below meth c T locs cells slots) (hx : p.tables.exec = Jvm.exec) (hZ : Z.Warmed39 s.vm) (eT : T.heap = h) {j x : Int32} (hj : 0 ≤ j.toInt ∧ j.toInt < n) {g : JFrame} (hg : g.method = m) {rest : List Value} (hs : g.stack = .int x :: .int j :: .ref a :: rest) (hd : decode c.code g.pc = .ok (.sastore, 1)) :
    ∃ T' h', Stand p l e R s m args below meth c T' (locs ++ [⟨a, j.toNatClampNeg⟩]) cells slots ∧ T'.heap = h' ∧ Wr h h' a j.toNatClampNeg (.int (nar .short x)) ∧ oAI Z h' a .short n (oUp f j.toInt.toNat (nar .short x)) ∧ ∀ t, Steps p.tables e below (T'.setTop { g with pc := g.pc + 1, stack := rest }) t → Steps p.tables e below (T.setTop g) t := by
  have F' := F
  obtain ⟨cl, A, S, q, G⟩ := F'
  obtain ⟨T', h', X', e', W, st⟩ := Jvm.RoadKit.stS X hx hZ eT A (x := x) (oNotIn S hj) hg hs hd
  exact ⟨T', h', X', e', W, F.set W hj, st⟩
/-! words out of words -/
theorem oSame {as : Array Value} {C : String} {x y z : MethodName} (wd : (Jvm.Cond.declares y).before as Z = true) (ws : (Jvm.Cond.selects C x z).before as Z = true) (hc : z.cls = y.cls) (hy : y.cls ≠ "java/lang/invoke/MethodHandle" ∧ y.cls ≠ "java/lang/invoke/VarHandle") : (Jvm.Cond.sameMethod y.cls y.cls y.name y.desc).before as Z = true := by
  obtain ⟨c2, r2, m2, -, -, q3, -, kP, hkP, hkPi⟩ := Cond.selects_spec ws
  have h1 := findClass_of_methodNamed q3
  rw [hc] at h1
  cases hm : Z.methodNamed? y with
  | none => simp [Cond.before, Cond.holds, Cond.value, hm] at wd
  | some mk =>
    have h2 := State.methodFound?_of_named hm hy
    have h3 := findClass_of_methodNamed hm
    simp only [Cond.before, Cond.holds, Cond.value, h1, h2, hm, hkP, Option.any_some, hkPi]
    rfl
theorem oPriv {as : Array Value} {y : MethodName} {kk : Nat} (wi : (Jvm.Cond.instantiable y.cls kk).before as s = true) (hpriv : s.PrivateAt y) (hinst : (Jvm.Cond.instanceMethod y).before as s = true) (hy : y.cls ≠ "java/lang/invoke/MethodHandle" ∧ y.cls ≠ "java/lang/invoke/VarHandle") : (Jvm.Cond.selects y.cls y y).before as s = true := by
  obtain ⟨c, k, h1, h2, h3, h4, -⟩ := Cond.instantiable_spec wi
  have i5 : k.isInterface = false := by cases hq : k.isInterface <;> simp [hq] at h4 ⊢
  exact selects_self_of_private h1 h2 i5 hpriv hinst hy
/-! the start's statics -/
theorem oAnd {A B : Jvm.Cond} {as : Array Value} {st : State} (q : (Jvm.Cond.and A B).before as st = true) : A.before as st = true ∧ B.before as st = true := by
  rw [Cond.before_and, Bool.and_eq_true] at q; exact q
/-- a static that holds exactly an object of the class K -/
theorem oStaR {as : Array Value} {C n d K : String} (q : (Jvm.Cond.exactly (.static C n d) K).before as Z = true) (w1 : (Jvm.Cond.initialized C).before as Z = true) (w2 : (Jvm.Cond.laysStatic C n d).before as Z = true) : ∃ a, (Term.static C n d).eval as Z none [] Z = some (.ref a) ∧ Sta Z Z.heap C n d (.ref a) ∧ Exa Z Z.heap a K := by
  obtain ⟨a, c', cell, k, e1, -⟩ := Cond.exactly_spec q
  exact ⟨a, e1, Sta.start e1 (Or.inr ⟨w1, w2⟩), Exa.start e1 (Cond.before_iff.mp q)⟩
theorem oFldI {as : Array Value} {t : Term} {C n d : String} {k : Int32} {a : Addr} (q : (Jvm.Cond.eq (.field t C n d) (.int k)).before as Z = true) (ev : t.eval as Z none [] Z = some (.ref a)) : Fld Z Z.heap a C n d (.int k) := by
  have q' := Cond.before_iff.mp q
  have e1 : (Term.field t C n d).eval as Z none [] Z = Z.fieldOf? a C n d := by simp [Term.eval, ev]
  refine Fld.start ?_
  simp only [Cond.value, e1] at q'
  cases hf : Z.fieldOf? a C n d with
  | none => simp [hf] at q'
  | some v => cases v <;> simp [hf, Term.eval] at q' ⊢; exact q'
theorem oArgI {as : Array Value} {i : Nat} {w : Value} (q : (Jvm.Cond.isInt (.arg i)).before as s = true) (e : as[i]? = some w) : ∃ z, w = .int z := by
  have q' := Cond.before_iff.mp q
  simp only [Cond.value, Term.eval, e] at q'
  cases w <;> first | exact ⟨_, rfl⟩ | simp at q'
theorem oArgJ {as : Array Value} {i : Nat} {w : Value} (q : (Jvm.Cond.isLong (.arg i)).before as s = true) (e : as[i]? = some w) : ∃ z, w = .long z := by
  have q' := Cond.before_iff.mp q
  simp only [Cond.value, Term.eval, e] at q'
  cases w <;> first | exact ⟨_, rfl⟩ | simp at q'
end OwnKit
theorem d4_0 : decode jdk_37_method_2_code 0 = .ok (.aload_n 0, 1) := by decide +kernel
theorem d4_1 : decode jdk_37_method_2_code 1 = .ok (.getfield 7, 3) := by decide +kernel
theorem d4_4 : decode jdk_37_method_2_code 4 = .ok (.ireturn, 1) := by decide +kernel
theorem pn_Enum : plainName "java/lang/Enum" = true := by first | (simp [plainName, overriddenIn]; done) | decide +kernel
theorem ef_rmOrd (m : MethodId) (x0 : Addr)  : entryFrame m #[(.ref x0)] 1 = mkF m 0 #[.val (.ref x0)] [] := by first | rfl | (simp [entryFrame, mkF, argsToLocals, Value.category, maxLocals]; done)
def Q_rmOrd (Z : State) (a : Addr) (o : Int32) (h0 : Heap) (n0 : Nat) (vv : Option Value) (h : Heap) (L : List Loc) : Prop := vv = some (.int o) ∧ Fr n0 L ∧ h = h0
set_option maxRecDepth 65536 in
set_option maxHeartbeats 40000000 in
theorem rmOrd (l : Launch) (Z : State) (a0 : Array Value) (hw : ∀ d ∈ tables_1, d.before a0 Z = true) (ws : List Jvm.Cond) (a : Addr) (o : Int32) (h0 : Heap) (n0 : Nat) (Z0 : n0 ≤ h0.size) (F0 : Fld Z h0 a "java/lang/Enum" "ordinal" "I" (.int o)) :
    MetFree l (⟨"java/lang/Enum", "ordinal", "()I"⟩ : MethodName) (head1 (Jvm.Cond.code (⟨"java/lang/Enum", "ordinal", "()I"⟩ : MethodName) jdk_37_method_2_code 1 (some .int) :: ws) ({ frames := 0, cells := 0, slots := 0, locals := 0 } : Room)) (fun aA uU => aA = #[(.ref a)] ∧ Z.Warmed39 uU.vm ∧ uU.heap = h0) (fun _ _ _ _ _ => True) (fun _ uU oO uU' => ∃ vV lL, oO = .returned vV ∧ Q_rmOrd Z a o h0 n0 vV uU'.heap lL ∧ FrameEnd uU oO uU' lL ({ frames := 0, cells := 0, slots := 0, locals := 0 } : Room).cells ({ frames := 0, cells := 0, slots := 0, locals := 0 } : Room).slots) := by
  refine MetFree.of_bodySF (plainFor_of_name pn_Enum) hisR ?_
  intro p e s m args below meth c s₁ Bd hml0 hP hK
  obtain ⟨rfl, hZ, hh⟩ := hP
  have hx := Bd.exec
  have hby := Bd.bytes
  have hml : c.maxLocals = 1 := hml0
  have hown : s.vm.findClass "java/lang/Enum" = some m.cls := findClass_of_methodNamed Bd.named
  have hnm := (name_of_methodNamed Bd.named Bd.method).1
  have X0 : Stand p l e ({ frames := 0, cells := 0, slots := 0, locals := 0 } : Room) s m #[(.ref a)] below meth c s₁ [] 0 0 := Stand.of_body Bd
  have e0 : s₁.heap = h0 := by rw [← hh, Bd.state]; rfl
  have N0 := Fr.nil n0
  refine oEnter (oCast (ef_rmOrd m a ) ?_)
  show oGl p e below (s₁.setTop (mkF m 0 #[.val (.ref a)] [])) _
  refine saloadN X0 hx (hb hby d4_0) rfl rfl rfl (pc' := 1) ?_
  obtain ⟨T1, X1, e1, st1⟩ := getF X0 hx hZ hown (host := "") (Or.inl (hw _ (List.mem_of_getElem? (i := 34) rfl))) Via.refl e0 F0 (g := (mkF m 1 #[.val (.ref a)] [(.ref a)])) rfl rfl (hb hby d4_1)
  refine oOn st1 ?_
  show oGl p e below (T1.setTop (mkF m 4 #[.val (.ref a)] [(.int o)])) _
  refine oRetI X1 hx Bd.notSynchronized Bd.returns (hb hby d4_4) (by decide) (by decide) ?_
  show Q_rmOrd Z a o h0 n0 _ T1.heap _
  rw [e1]
  exact ⟨rfl, N0, rfl⟩
theorem d1_0 : decode method_2_code 0 = .ok (.iload_n 0, 1) := by decide +kernel
theorem d1_1 : decode method_2_code 1 = .ok (.ifCond .ne 7, 3) := by decide +kernel
theorem d1_4 : decode method_2_code 4 = .ok (.getstatic 7, 3) := by decide +kernel
theorem d1_7 : decode method_2_code 7 = .ok (.areturn, 1) := by decide +kernel
theorem pn_OperatorLiteralsPinLaw : plainName "com/example/moraine/moraine/model/OperatorLiteralsPinLaw" = true := by first | (simp [plainName, overriddenIn]; done) | decide +kernel
theorem ef_rmP0 (m : MethodId) (x0 : Int32)  : entryFrame m #[(.int x0)] 1 = mkF m 0 #[.val (.int x0)] [] := by first | rfl | (simp [entryFrame, mkF, argsToLocals, Value.category, maxLocals]; done)
def Q_rmP0 (Z : State) (sEQ : Addr) (sIS_NULL : Addr) (sNOT_NULL : Addr) (sIN : Addr) (sNOT_IN : Addr) (sNE : Addr) (sLE : Addr) (sGT : Addr) (sLT : Addr) (sGE : Addr) (h0 : Heap) (n0 : Nat) (vv : Option Value) (h : Heap) (L : List Loc) : Prop := vv = some (.ref sEQ) ∧ Fr n0 L ∧ h = h0
set_option maxRecDepth 65536 in
set_option maxHeartbeats 40000000 in
theorem rmP0 (l : Launch) (Z : State) (a0 : Array Value) (hw : ∀ d ∈ tables_1, d.before a0 Z = true) (ws : List Jvm.Cond) (sEQ : Addr) (sIS_NULL : Addr) (sNOT_NULL : Addr) (sIN : Addr) (sNOT_IN : Addr) (sNE : Addr) (sLE : Addr) (sGT : Addr) (sLT : Addr) (sGE : Addr) (h0 : Heap) (n0 : Nat) (Z0 : n0 ≤ h0.size) (O0 : Old Z n0 h0) (SsEQ : Sta Z Z.heap "com/example/moraine/moraine/model/Expression$Operator" "EQ" "Lcom/example/moraine/moraine/model/Expression$Operator;" (.ref sEQ)) (EsEQ : Exa Z Z.heap sEQ "com/example/moraine/moraine/model/Expression$Operator") (FsEQ : Fld Z Z.heap sEQ "java/lang/Enum" "ordinal" "I" (.int 0)) (SsIS_NULL : Sta Z Z.heap "com/example/moraine/moraine/model/Expression$Operator" "IS_NULL" "Lcom/example/moraine/moraine/model/Expression$Operator;" (.ref sIS_NULL)) (EsIS_NULL : Exa Z Z.heap sIS_NULL "com/example/moraine/moraine/model/Expression$Operator") (FsIS_NULL : Fld Z Z.heap sIS_NULL "java/lang/Enum" "ordinal" "I" (.int 6)) (SsNOT_NULL : Sta Z Z.heap "com/example/moraine/moraine/model/Expression$Operator" "NOT_NULL" "Lcom/example/moraine/moraine/model/Expression$Operator;" (.ref sNOT_NULL)) (EsNOT_NULL : Exa Z Z.heap sNOT_NULL "com/example/moraine/moraine/model/Expression$Operator") (FsNOT_NULL : Fld Z Z.heap sNOT_NULL "java/lang/Enum" "ordinal" "I" (.int 7)) (SsIN : Sta Z Z.heap "com/example/moraine/moraine/model/Expression$Operator" "IN" "Lcom/example/moraine/moraine/model/Expression$Operator;" (.ref sIN)) (EsIN : Exa Z Z.heap sIN "com/example/moraine/moraine/model/Expression$Operator") (FsIN : Fld Z Z.heap sIN "java/lang/Enum" "ordinal" "I" (.int 8)) (SsNOT_IN : Sta Z Z.heap "com/example/moraine/moraine/model/Expression$Operator" "NOT_IN" "Lcom/example/moraine/moraine/model/Expression$Operator;" (.ref sNOT_IN)) (EsNOT_IN : Exa Z Z.heap sNOT_IN "com/example/moraine/moraine/model/Expression$Operator") (FsNOT_IN : Fld Z Z.heap sNOT_IN "java/lang/Enum" "ordinal" "I" (.int 9)) (SsNE : Sta Z Z.heap "com/example/moraine/moraine/model/Expression$Operator" "NE" "Lcom/example/moraine/moraine/model/Expression$Operator;" (.ref sNE)) (EsNE : Exa Z Z.heap sNE "com/example/moraine/moraine/model/Expression$Operator") (FsNE : Fld Z Z.heap sNE "java/lang/Enum" "ordinal" "I" (.int 1)) (SsLE : Sta Z Z.heap "com/example/moraine/moraine/model/Expression$Operator" "LE" "Lcom/example/moraine/moraine/model/Expression$Operator;" (.ref sLE)) (EsLE : Exa Z Z.heap sLE "com/example/moraine/moraine/model/Expression$Operator") (FsLE : Fld Z Z.heap sLE "java/lang/Enum" "ordinal" "I" (.int 3)) (SsGT : Sta Z Z.heap "com/example/moraine/moraine/model/Expression$Operator" "GT" "Lcom/example/moraine/moraine/model/Expression$Operator;" (.ref sGT)) (EsGT : Exa Z Z.heap sGT "com/example/moraine/moraine/model/Expression$Operator") (FsGT : Fld Z Z.heap sGT "java/lang/Enum" "ordinal" "I" (.int 4)) (SsLT : Sta Z Z.heap "com/example/moraine/moraine/model/Expression$Operator" "LT" "Lcom/example/moraine/moraine/model/Expression$Operator;" (.ref sLT)) (EsLT : Exa Z Z.heap sLT "com/example/moraine/moraine/model/Expression$Operator") (FsLT : Fld Z Z.heap sLT "java/lang/Enum" "ordinal" "I" (.int 2)) (SsGE : Sta Z Z.heap "com/example/moraine/moraine/model/Expression$Operator" "GE" "Lcom/example/moraine/moraine/model/Expression$Operator;" (.ref sGE)) (EsGE : Exa Z Z.heap sGE "com/example/moraine/moraine/model/Expression$Operator") (FsGE : Fld Z Z.heap sGE "java/lang/Enum" "ordinal" "I" (.int 5)) :
    MetFree l (⟨"com/example/moraine/moraine/model/OperatorLiteralsPinLaw", "pick", "(I)Lcom/example/moraine/moraine/model/Expression$Operator;"⟩ : MethodName) (head1 (Jvm.Cond.code (⟨"com/example/moraine/moraine/model/OperatorLiteralsPinLaw", "pick", "(I)Lcom/example/moraine/moraine/model/Expression$Operator;"⟩ : MethodName) method_2_code 1 (some (.object "com/example/moraine/moraine/model/Expression$Operator")) :: ws) ({ frames := 0, cells := 0, slots := 0, locals := 0 } : Room)) (fun aA uU => aA = #[(.int (0 : Int32))] ∧ Z.Warmed39 uU.vm ∧ uU.heap = h0) (fun _ _ _ _ _ => True) (fun _ uU oO uU' => ∃ vV lL, oO = .returned vV ∧ Q_rmP0 Z sEQ sIS_NULL sNOT_NULL sIN sNOT_IN sNE sLE sGT sLT sGE h0 n0 vV uU'.heap lL ∧ FrameEnd uU oO uU' lL ({ frames := 0, cells := 0, slots := 0, locals := 0 } : Room).cells ({ frames := 0, cells := 0, slots := 0, locals := 0 } : Room).slots) := by
  refine MetFree.of_bodySF (plainFor_of_name pn_OperatorLiteralsPinLaw) hisR ?_
  intro p e s m args below meth c s₁ Bd hml0 hP hK
  obtain ⟨rfl, hZ, hh⟩ := hP
  have hx := Bd.exec
  have hby := Bd.bytes
  have hml : c.maxLocals = 1 := hml0
  have hown : s.vm.findClass "com/example/moraine/moraine/model/OperatorLiteralsPinLaw" = some m.cls := findClass_of_methodNamed Bd.named
  have hnm := (name_of_methodNamed Bd.named Bd.method).1
  have X0 : Stand p l e ({ frames := 0, cells := 0, slots := 0, locals := 0 } : Room) s m #[(.int (0 : Int32))] below meth c s₁ [] 0 0 := Stand.of_body Bd
  have e0 : s₁.heap = h0 := by rw [← hh, Bd.state]; rfl
  have N0 := Fr.nil n0
  refine oEnter (oCast (ef_rmP0 m (0 : Int32) ) ?_)
  show oGl p e below (s₁.setTop (mkF m 0 #[.val (.int (0 : Int32))] [])) _
  refine siloadN X0 hx (hb hby d1_0) rfl rfl (pc' := 1) ?_
  refine sifN X0 hx (hb hby d1_1) rfl (teq (by decide : (0 : Int32) = (0 : Int32))).2 (pc' := 4) ?_
  obtain ⟨T1, X1, e1, st1⟩ := getS2 X0 hx hZ hown (host := "") (Or.inl (hw _ (List.mem_of_getElem? (i := 6) rfl))) Via.refl e0 (SsEQ.ext O0.2) (g := (mkF m 4 #[.val (.int (0 : Int32))] [])) rfl (hb hby d1_4)
  refine oOn st1 ?_
  show oGl p e below (T1.setTop (mkF m 7 #[.val (.int (0 : Int32))] [(.ref sEQ)])) _
  refine oRetR X1 hx Bd.notSynchronized Bd.returns rfl rfl (hb hby d1_7) (by decide) (by decide) ?_
  show Q_rmP0 Z sEQ sIS_NULL sNOT_NULL sIN sNOT_IN sNE sLE sGT sLT sGE h0 n0 _ T1.heap _
  rw [e1]
  exact ⟨rfl, N0, rfl⟩
theorem d1_8 : decode method_2_code 8 = .ok (.iload_n 0, 1) := by decide +kernel
theorem d1_9 : decode method_2_code 9 = .ok (.iconst 1, 1) := by decide +kernel
theorem d1_10 : decode method_2_code 10 = .ok (.if_icmp .ne 7, 3) := by decide +kernel
theorem d1_13 : decode method_2_code 13 = .ok (.getstatic 13, 3) := by decide +kernel
theorem d1_16 : decode method_2_code 16 = .ok (.areturn, 1) := by decide +kernel
theorem ef_rmP1 (m : MethodId) (x0 : Int32)  : entryFrame m #[(.int x0)] 1 = mkF m 0 #[.val (.int x0)] [] := by first | rfl | (simp [entryFrame, mkF, argsToLocals, Value.category, maxLocals]; done)
def Q_rmP1 (Z : State) (sEQ : Addr) (sIS_NULL : Addr) (sNOT_NULL : Addr) (sIN : Addr) (sNOT_IN : Addr) (sNE : Addr) (sLE : Addr) (sGT : Addr) (sLT : Addr) (sGE : Addr) (h0 : Heap) (n0 : Nat) (vv : Option Value) (h : Heap) (L : List Loc) : Prop := vv = some (.ref sNE) ∧ Fr n0 L ∧ h = h0
set_option maxRecDepth 65536 in
set_option maxHeartbeats 40000000 in
theorem rmP1 (l : Launch) (Z : State) (a0 : Array Value) (hw : ∀ d ∈ tables_1, d.before a0 Z = true) (ws : List Jvm.Cond) (sEQ : Addr) (sIS_NULL : Addr) (sNOT_NULL : Addr) (sIN : Addr) (sNOT_IN : Addr) (sNE : Addr) (sLE : Addr) (sGT : Addr) (sLT : Addr) (sGE : Addr) (h0 : Heap) (n0 : Nat) (Z0 : n0 ≤ h0.size) (O0 : Old Z n0 h0) (SsEQ : Sta Z Z.heap "com/example/moraine/moraine/model/Expression$Operator" "EQ" "Lcom/example/moraine/moraine/model/Expression$Operator;" (.ref sEQ)) (EsEQ : Exa Z Z.heap sEQ "com/example/moraine/moraine/model/Expression$Operator") (FsEQ : Fld Z Z.heap sEQ "java/lang/Enum" "ordinal" "I" (.int 0)) (SsIS_NULL : Sta Z Z.heap "com/example/moraine/moraine/model/Expression$Operator" "IS_NULL" "Lcom/example/moraine/moraine/model/Expression$Operator;" (.ref sIS_NULL)) (EsIS_NULL : Exa Z Z.heap sIS_NULL "com/example/moraine/moraine/model/Expression$Operator") (FsIS_NULL : Fld Z Z.heap sIS_NULL "java/lang/Enum" "ordinal" "I" (.int 6)) (SsNOT_NULL : Sta Z Z.heap "com/example/moraine/moraine/model/Expression$Operator" "NOT_NULL" "Lcom/example/moraine/moraine/model/Expression$Operator;" (.ref sNOT_NULL)) (EsNOT_NULL : Exa Z Z.heap sNOT_NULL "com/example/moraine/moraine/model/Expression$Operator") (FsNOT_NULL : Fld Z Z.heap sNOT_NULL "java/lang/Enum" "ordinal" "I" (.int 7)) (SsIN : Sta Z Z.heap "com/example/moraine/moraine/model/Expression$Operator" "IN" "Lcom/example/moraine/moraine/model/Expression$Operator;" (.ref sIN)) (EsIN : Exa Z Z.heap sIN "com/example/moraine/moraine/model/Expression$Operator") (FsIN : Fld Z Z.heap sIN "java/lang/Enum" "ordinal" "I" (.int 8)) (SsNOT_IN : Sta Z Z.heap "com/example/moraine/moraine/model/Expression$Operator" "NOT_IN" "Lcom/example/moraine/moraine/model/Expression$Operator;" (.ref sNOT_IN)) (EsNOT_IN : Exa Z Z.heap sNOT_IN "com/example/moraine/moraine/model/Expression$Operator") (FsNOT_IN : Fld Z Z.heap sNOT_IN "java/lang/Enum" "ordinal" "I" (.int 9)) (SsNE : Sta Z Z.heap "com/example/moraine/moraine/model/Expression$Operator" "NE" "Lcom/example/moraine/moraine/model/Expression$Operator;" (.ref sNE)) (EsNE : Exa Z Z.heap sNE "com/example/moraine/moraine/model/Expression$Operator") (FsNE : Fld Z Z.heap sNE "java/lang/Enum" "ordinal" "I" (.int 1)) (SsLE : Sta Z Z.heap "com/example/moraine/moraine/model/Expression$Operator" "LE" "Lcom/example/moraine/moraine/model/Expression$Operator;" (.ref sLE)) (EsLE : Exa Z Z.heap sLE "com/example/moraine/moraine/model/Expression$Operator") (FsLE : Fld Z Z.heap sLE "java/lang/Enum" "ordinal" "I" (.int 3)) (SsGT : Sta Z Z.heap "com/example/moraine/moraine/model/Expression$Operator" "GT" "Lcom/example/moraine/moraine/model/Expression$Operator;" (.ref sGT)) (EsGT : Exa Z Z.heap sGT "com/example/moraine/moraine/model/Expression$Operator") (FsGT : Fld Z Z.heap sGT "java/lang/Enum" "ordinal" "I" (.int 4)) (SsLT : Sta Z Z.heap "com/example/moraine/moraine/model/Expression$Operator" "LT" "Lcom/example/moraine/moraine/model/Expression$Operator;" (.ref sLT)) (EsLT : Exa Z Z.heap sLT "com/example/moraine/moraine/model/Expression$Operator") (FsLT : Fld Z Z.heap sLT "java/lang/Enum" "ordinal" "I" (.int 2)) (SsGE : Sta Z Z.heap "com/example/moraine/moraine/model/Expression$Operator" "GE" "Lcom/example/moraine/moraine/model/Expression$Operator;" (.ref sGE)) (EsGE : Exa Z Z.heap sGE "com/example/moraine/moraine/model/Expression$Operator") (FsGE : Fld Z Z.heap sGE "java/lang/Enum" "ordinal" "I" (.int 5)) :
    MetFree l (⟨"com/example/moraine/moraine/model/OperatorLiteralsPinLaw", "pick", "(I)Lcom/example/moraine/moraine/model/Expression$Operator;"⟩ : MethodName) (head1 (Jvm.Cond.code (⟨"com/example/moraine/moraine/model/OperatorLiteralsPinLaw", "pick", "(I)Lcom/example/moraine/moraine/model/Expression$Operator;"⟩ : MethodName) method_2_code 1 (some (.object "com/example/moraine/moraine/model/Expression$Operator")) :: ws) ({ frames := 0, cells := 0, slots := 0, locals := 0 } : Room)) (fun aA uU => aA = #[(.int (1 : Int32))] ∧ Z.Warmed39 uU.vm ∧ uU.heap = h0) (fun _ _ _ _ _ => True) (fun _ uU oO uU' => ∃ vV lL, oO = .returned vV ∧ Q_rmP1 Z sEQ sIS_NULL sNOT_NULL sIN sNOT_IN sNE sLE sGT sLT sGE h0 n0 vV uU'.heap lL ∧ FrameEnd uU oO uU' lL ({ frames := 0, cells := 0, slots := 0, locals := 0 } : Room).cells ({ frames := 0, cells := 0, slots := 0, locals := 0 } : Room).slots) := by
  refine MetFree.of_bodySF (plainFor_of_name pn_OperatorLiteralsPinLaw) hisR ?_
  intro p e s m args below meth c s₁ Bd hml0 hP hK
  obtain ⟨rfl, hZ, hh⟩ := hP
  have hx := Bd.exec
  have hby := Bd.bytes
  have hml : c.maxLocals = 1 := hml0
  have hown : s.vm.findClass "com/example/moraine/moraine/model/OperatorLiteralsPinLaw" = some m.cls := findClass_of_methodNamed Bd.named
  have hnm := (name_of_methodNamed Bd.named Bd.method).1
  have X0 : Stand p l e ({ frames := 0, cells := 0, slots := 0, locals := 0 } : Room) s m #[(.int (1 : Int32))] below meth c s₁ [] 0 0 := Stand.of_body Bd
  have e0 : s₁.heap = h0 := by rw [← hh, Bd.state]; rfl
  have N0 := Fr.nil n0
  refine oEnter (oCast (ef_rmP1 m (1 : Int32) ) ?_)
  show oGl p e below (s₁.setTop (mkF m 0 #[.val (.int (1 : Int32))] [])) _
  refine siloadN X0 hx (hb hby d1_0) rfl rfl (pc' := 1) ?_
  refine sifY X0 hx (hb hby d1_1) (by decide) (by decide) (feq (by decide : ¬ ((1 : Int32) = (0 : Int32)))).2 (pc' := 8) ?_
  refine siloadN X0 hx (hb hby d1_8) rfl rfl (pc' := 9) ?_
  refine siconst X0 hx (hb hby d1_9) rfl rfl (z := 1) (pc' := 10) ?_
  refine sicN X0 hx (hb hby d1_10) rfl (teq (by decide : (1 : Int32) = (1 : Int32))).2 (pc' := 13) ?_
  obtain ⟨T1, X1, e1, st1⟩ := getS2 X0 hx hZ hown (host := "") (Or.inl (hw _ (List.mem_of_getElem? (i := 42) rfl))) Via.refl e0 (SsNE.ext O0.2) (g := (mkF m 13 #[.val (.int (1 : Int32))] [])) rfl (hb hby d1_13)
  refine oOn st1 ?_
  show oGl p e below (T1.setTop (mkF m 16 #[.val (.int (1 : Int32))] [(.ref sNE)])) _
  refine oRetR X1 hx Bd.notSynchronized Bd.returns rfl rfl (hb hby d1_16) (by decide) (by decide) ?_
  show Q_rmP1 Z sEQ sIS_NULL sNOT_NULL sIN sNOT_IN sNE sLE sGT sLT sGE h0 n0 _ T1.heap _
  rw [e1]
  exact ⟨rfl, N0, rfl⟩
theorem d1_17 : decode method_2_code 17 = .ok (.iload_n 0, 1) := by decide +kernel
theorem d1_18 : decode method_2_code 18 = .ok (.iconst 2, 1) := by decide +kernel
theorem d1_19 : decode method_2_code 19 = .ok (.if_icmp .ne 7, 3) := by decide +kernel
theorem d1_22 : decode method_2_code 22 = .ok (.getstatic 16, 3) := by decide +kernel
theorem d1_25 : decode method_2_code 25 = .ok (.areturn, 1) := by decide +kernel
theorem ef_rmP2 (m : MethodId) (x0 : Int32)  : entryFrame m #[(.int x0)] 1 = mkF m 0 #[.val (.int x0)] [] := by first | rfl | (simp [entryFrame, mkF, argsToLocals, Value.category, maxLocals]; done)
def Q_rmP2 (Z : State) (sEQ : Addr) (sIS_NULL : Addr) (sNOT_NULL : Addr) (sIN : Addr) (sNOT_IN : Addr) (sNE : Addr) (sLE : Addr) (sGT : Addr) (sLT : Addr) (sGE : Addr) (h0 : Heap) (n0 : Nat) (vv : Option Value) (h : Heap) (L : List Loc) : Prop := vv = some (.ref sLT) ∧ Fr n0 L ∧ h = h0
set_option maxRecDepth 65536 in
set_option maxHeartbeats 40000000 in
theorem rmP2 (l : Launch) (Z : State) (a0 : Array Value) (hw : ∀ d ∈ tables_1, d.before a0 Z = true) (ws : List Jvm.Cond) (sEQ : Addr) (sIS_NULL : Addr) (sNOT_NULL : Addr) (sIN : Addr) (sNOT_IN : Addr) (sNE : Addr) (sLE : Addr) (sGT : Addr) (sLT : Addr) (sGE : Addr) (h0 : Heap) (n0 : Nat) (Z0 : n0 ≤ h0.size) (O0 : Old Z n0 h0) (SsEQ : Sta Z Z.heap "com/example/moraine/moraine/model/Expression$Operator" "EQ" "Lcom/example/moraine/moraine/model/Expression$Operator;" (.ref sEQ)) (EsEQ : Exa Z Z.heap sEQ "com/example/moraine/moraine/model/Expression$Operator") (FsEQ : Fld Z Z.heap sEQ "java/lang/Enum" "ordinal" "I" (.int 0)) (SsIS_NULL : Sta Z Z.heap "com/example/moraine/moraine/model/Expression$Operator" "IS_NULL" "Lcom/example/moraine/moraine/model/Expression$Operator;" (.ref sIS_NULL)) (EsIS_NULL : Exa Z Z.heap sIS_NULL "com/example/moraine/moraine/model/Expression$Operator") (FsIS_NULL : Fld Z Z.heap sIS_NULL "java/lang/Enum" "ordinal" "I" (.int 6)) (SsNOT_NULL : Sta Z Z.heap "com/example/moraine/moraine/model/Expression$Operator" "NOT_NULL" "Lcom/example/moraine/moraine/model/Expression$Operator;" (.ref sNOT_NULL)) (EsNOT_NULL : Exa Z Z.heap sNOT_NULL "com/example/moraine/moraine/model/Expression$Operator") (FsNOT_NULL : Fld Z Z.heap sNOT_NULL "java/lang/Enum" "ordinal" "I" (.int 7)) (SsIN : Sta Z Z.heap "com/example/moraine/moraine/model/Expression$Operator" "IN" "Lcom/example/moraine/moraine/model/Expression$Operator;" (.ref sIN)) (EsIN : Exa Z Z.heap sIN "com/example/moraine/moraine/model/Expression$Operator") (FsIN : Fld Z Z.heap sIN "java/lang/Enum" "ordinal" "I" (.int 8)) (SsNOT_IN : Sta Z Z.heap "com/example/moraine/moraine/model/Expression$Operator" "NOT_IN" "Lcom/example/moraine/moraine/model/Expression$Operator;" (.ref sNOT_IN)) (EsNOT_IN : Exa Z Z.heap sNOT_IN "com/example/moraine/moraine/model/Expression$Operator") (FsNOT_IN : Fld Z Z.heap sNOT_IN "java/lang/Enum" "ordinal" "I" (.int 9)) (SsNE : Sta Z Z.heap "com/example/moraine/moraine/model/Expression$Operator" "NE" "Lcom/example/moraine/moraine/model/Expression$Operator;" (.ref sNE)) (EsNE : Exa Z Z.heap sNE "com/example/moraine/moraine/model/Expression$Operator") (FsNE : Fld Z Z.heap sNE "java/lang/Enum" "ordinal" "I" (.int 1)) (SsLE : Sta Z Z.heap "com/example/moraine/moraine/model/Expression$Operator" "LE" "Lcom/example/moraine/moraine/model/Expression$Operator;" (.ref sLE)) (EsLE : Exa Z Z.heap sLE "com/example/moraine/moraine/model/Expression$Operator") (FsLE : Fld Z Z.heap sLE "java/lang/Enum" "ordinal" "I" (.int 3)) (SsGT : Sta Z Z.heap "com/example/moraine/moraine/model/Expression$Operator" "GT" "Lcom/example/moraine/moraine/model/Expression$Operator;" (.ref sGT)) (EsGT : Exa Z Z.heap sGT "com/example/moraine/moraine/model/Expression$Operator") (FsGT : Fld Z Z.heap sGT "java/lang/Enum" "ordinal" "I" (.int 4)) (SsLT : Sta Z Z.heap "com/example/moraine/moraine/model/Expression$Operator" "LT" "Lcom/example/moraine/moraine/model/Expression$Operator;" (.ref sLT)) (EsLT : Exa Z Z.heap sLT "com/example/moraine/moraine/model/Expression$Operator") (FsLT : Fld Z Z.heap sLT "java/lang/Enum" "ordinal" "I" (.int 2)) (SsGE : Sta Z Z.heap "com/example/moraine/moraine/model/Expression$Operator" "GE" "Lcom/example/moraine/moraine/model/Expression$Operator;" (.ref sGE)) (EsGE : Exa Z Z.heap sGE "com/example/moraine/moraine/model/Expression$Operator") (FsGE : Fld Z Z.heap sGE "java/lang/Enum" "ordinal" "I" (.int 5)) :
    MetFree l (⟨"com/example/moraine/moraine/model/OperatorLiteralsPinLaw", "pick", "(I)Lcom/example/moraine/moraine/model/Expression$Operator;"⟩ : MethodName) (head1 (Jvm.Cond.code (⟨"com/example/moraine/moraine/model/OperatorLiteralsPinLaw", "pick", "(I)Lcom/example/moraine/moraine/model/Expression$Operator;"⟩ : MethodName) method_2_code 1 (some (.object "com/example/moraine/moraine/model/Expression$Operator")) :: ws) ({ frames := 0, cells := 0, slots := 0, locals := 0 } : Room)) (fun aA uU => aA = #[(.int (2 : Int32))] ∧ Z.Warmed39 uU.vm ∧ uU.heap = h0) (fun _ _ _ _ _ => True) (fun _ uU oO uU' => ∃ vV lL, oO = .returned vV ∧ Q_rmP2 Z sEQ sIS_NULL sNOT_NULL sIN sNOT_IN sNE sLE sGT sLT sGE h0 n0 vV uU'.heap lL ∧ FrameEnd uU oO uU' lL ({ frames := 0, cells := 0, slots := 0, locals := 0 } : Room).cells ({ frames := 0, cells := 0, slots := 0, locals := 0 } : Room).slots) := by
  refine MetFree.of_bodySF (plainFor_of_name pn_OperatorLiteralsPinLaw) hisR ?_
  intro p e s m args below meth c s₁ Bd hml0 hP hK
  obtain ⟨rfl, hZ, hh⟩ := hP
  have hx := Bd.exec
  have hby := Bd.bytes
  have hml : c.maxLocals = 1 := hml0
  have hown : s.vm.findClass "com/example/moraine/moraine/model/OperatorLiteralsPinLaw" = some m.cls := findClass_of_methodNamed Bd.named
  have hnm := (name_of_methodNamed Bd.named Bd.method).1
  have X0 : Stand p l e ({ frames := 0, cells := 0, slots := 0, locals := 0 } : Room) s m #[(.int (2 : Int32))] below meth c s₁ [] 0 0 := Stand.of_body Bd
  have e0 : s₁.heap = h0 := by rw [← hh, Bd.state]; rfl
  have N0 := Fr.nil n0
  refine oEnter (oCast (ef_rmP2 m (2 : Int32) ) ?_)
  show oGl p e below (s₁.setTop (mkF m 0 #[.val (.int (2 : Int32))] [])) _
  refine siloadN X0 hx (hb hby d1_0) rfl rfl (pc' := 1) ?_
  refine sifY X0 hx (hb hby d1_1) (by decide) (by decide) (feq (by decide : ¬ ((2 : Int32) = (0 : Int32)))).2 (pc' := 8) ?_
  refine siloadN X0 hx (hb hby d1_8) rfl rfl (pc' := 9) ?_
  refine siconst X0 hx (hb hby d1_9) rfl rfl (z := 1) (pc' := 10) ?_
  refine sicY X0 hx (hb hby d1_10) (by decide) (by decide) (feq (by decide : ¬ ((2 : Int32) = (1 : Int32)))).2 (pc' := 17) ?_
  refine siloadN X0 hx (hb hby d1_17) rfl rfl (pc' := 18) ?_
  refine siconst X0 hx (hb hby d1_18) rfl rfl (z := 2) (pc' := 19) ?_
  refine sicN X0 hx (hb hby d1_19) rfl (teq (by decide : (2 : Int32) = (2 : Int32))).2 (pc' := 22) ?_
  obtain ⟨T1, X1, e1, st1⟩ := getS2 X0 hx hZ hown (host := "") (Or.inl (hw _ (List.mem_of_getElem? (i := 47) rfl))) Via.refl e0 (SsLT.ext O0.2) (g := (mkF m 22 #[.val (.int (2 : Int32))] [])) rfl (hb hby d1_22)
  refine oOn st1 ?_
  show oGl p e below (T1.setTop (mkF m 25 #[.val (.int (2 : Int32))] [(.ref sLT)])) _
  refine oRetR X1 hx Bd.notSynchronized Bd.returns rfl rfl (hb hby d1_25) (by decide) (by decide) ?_
  show Q_rmP2 Z sEQ sIS_NULL sNOT_NULL sIN sNOT_IN sNE sLE sGT sLT sGE h0 n0 _ T1.heap _
  rw [e1]
  exact ⟨rfl, N0, rfl⟩
theorem d1_26 : decode method_2_code 26 = .ok (.iload_n 0, 1) := by decide +kernel
theorem d1_27 : decode method_2_code 27 = .ok (.iconst 3, 1) := by decide +kernel
theorem d1_28 : decode method_2_code 28 = .ok (.if_icmp .ne 7, 3) := by decide +kernel
theorem d1_31 : decode method_2_code 31 = .ok (.getstatic 19, 3) := by decide +kernel
theorem d1_34 : decode method_2_code 34 = .ok (.areturn, 1) := by decide +kernel
theorem ef_rmP3 (m : MethodId) (x0 : Int32)  : entryFrame m #[(.int x0)] 1 = mkF m 0 #[.val (.int x0)] [] := by first | rfl | (simp [entryFrame, mkF, argsToLocals, Value.category, maxLocals]; done)
def Q_rmP3 (Z : State) (sEQ : Addr) (sIS_NULL : Addr) (sNOT_NULL : Addr) (sIN : Addr) (sNOT_IN : Addr) (sNE : Addr) (sLE : Addr) (sGT : Addr) (sLT : Addr) (sGE : Addr) (h0 : Heap) (n0 : Nat) (vv : Option Value) (h : Heap) (L : List Loc) : Prop := vv = some (.ref sLE) ∧ Fr n0 L ∧ h = h0
set_option maxRecDepth 65536 in
set_option maxHeartbeats 40000000 in
theorem rmP3 (l : Launch) (Z : State) (a0 : Array Value) (hw : ∀ d ∈ tables_1, d.before a0 Z = true) (ws : List Jvm.Cond) (sEQ : Addr) (sIS_NULL : Addr) (sNOT_NULL : Addr) (sIN : Addr) (sNOT_IN : Addr) (sNE : Addr) (sLE : Addr) (sGT : Addr) (sLT : Addr) (sGE : Addr) (h0 : Heap) (n0 : Nat) (Z0 : n0 ≤ h0.size) (O0 : Old Z n0 h0) (SsEQ : Sta Z Z.heap "com/example/moraine/moraine/model/Expression$Operator" "EQ" "Lcom/example/moraine/moraine/model/Expression$Operator;" (.ref sEQ)) (EsEQ : Exa Z Z.heap sEQ "com/example/moraine/moraine/model/Expression$Operator") (FsEQ : Fld Z Z.heap sEQ "java/lang/Enum" "ordinal" "I" (.int 0)) (SsIS_NULL : Sta Z Z.heap "com/example/moraine/moraine/model/Expression$Operator" "IS_NULL" "Lcom/example/moraine/moraine/model/Expression$Operator;" (.ref sIS_NULL)) (EsIS_NULL : Exa Z Z.heap sIS_NULL "com/example/moraine/moraine/model/Expression$Operator") (FsIS_NULL : Fld Z Z.heap sIS_NULL "java/lang/Enum" "ordinal" "I" (.int 6)) (SsNOT_NULL : Sta Z Z.heap "com/example/moraine/moraine/model/Expression$Operator" "NOT_NULL" "Lcom/example/moraine/moraine/model/Expression$Operator;" (.ref sNOT_NULL)) (EsNOT_NULL : Exa Z Z.heap sNOT_NULL "com/example/moraine/moraine/model/Expression$Operator") (FsNOT_NULL : Fld Z Z.heap sNOT_NULL "java/lang/Enum" "ordinal" "I" (.int 7)) (SsIN : Sta Z Z.heap "com/example/moraine/moraine/model/Expression$Operator" "IN" "Lcom/example/moraine/moraine/model/Expression$Operator;" (.ref sIN)) (EsIN : Exa Z Z.heap sIN "com/example/moraine/moraine/model/Expression$Operator") (FsIN : Fld Z Z.heap sIN "java/lang/Enum" "ordinal" "I" (.int 8)) (SsNOT_IN : Sta Z Z.heap "com/example/moraine/moraine/model/Expression$Operator" "NOT_IN" "Lcom/example/moraine/moraine/model/Expression$Operator;" (.ref sNOT_IN)) (EsNOT_IN : Exa Z Z.heap sNOT_IN "com/example/moraine/moraine/model/Expression$Operator") (FsNOT_IN : Fld Z Z.heap sNOT_IN "java/lang/Enum" "ordinal" "I" (.int 9)) (SsNE : Sta Z Z.heap "com/example/moraine/moraine/model/Expression$Operator" "NE" "Lcom/example/moraine/moraine/model/Expression$Operator;" (.ref sNE)) (EsNE : Exa Z Z.heap sNE "com/example/moraine/moraine/model/Expression$Operator") (FsNE : Fld Z Z.heap sNE "java/lang/Enum" "ordinal" "I" (.int 1)) (SsLE : Sta Z Z.heap "com/example/moraine/moraine/model/Expression$Operator" "LE" "Lcom/example/moraine/moraine/model/Expression$Operator;" (.ref sLE)) (EsLE : Exa Z Z.heap sLE "com/example/moraine/moraine/model/Expression$Operator") (FsLE : Fld Z Z.heap sLE "java/lang/Enum" "ordinal" "I" (.int 3)) (SsGT : Sta Z Z.heap "com/example/moraine/moraine/model/Expression$Operator" "GT" "Lcom/example/moraine/moraine/model/Expression$Operator;" (.ref sGT)) (EsGT : Exa Z Z.heap sGT "com/example/moraine/moraine/model/Expression$Operator") (FsGT : Fld Z Z.heap sGT "java/lang/Enum" "ordinal" "I" (.int 4)) (SsLT : Sta Z Z.heap "com/example/moraine/moraine/model/Expression$Operator" "LT" "Lcom/example/moraine/moraine/model/Expression$Operator;" (.ref sLT)) (EsLT : Exa Z Z.heap sLT "com/example/moraine/moraine/model/Expression$Operator") (FsLT : Fld Z Z.heap sLT "java/lang/Enum" "ordinal" "I" (.int 2)) (SsGE : Sta Z Z.heap "com/example/moraine/moraine/model/Expression$Operator" "GE" "Lcom/example/moraine/moraine/model/Expression$Operator;" (.ref sGE)) (EsGE : Exa Z Z.heap sGE "com/example/moraine/moraine/model/Expression$Operator") (FsGE : Fld Z Z.heap sGE "java/lang/Enum" "ordinal" "I" (.int 5)) :
    MetFree l (⟨"com/example/moraine/moraine/model/OperatorLiteralsPinLaw", "pick", "(I)Lcom/example/moraine/moraine/model/Expression$Operator;"⟩ : MethodName) (head1 (Jvm.Cond.code (⟨"com/example/moraine/moraine/model/OperatorLiteralsPinLaw", "pick", "(I)Lcom/example/moraine/moraine/model/Expression$Operator;"⟩ : MethodName) method_2_code 1 (some (.object "com/example/moraine/moraine/model/Expression$Operator")) :: ws) ({ frames := 0, cells := 0, slots := 0, locals := 0 } : Room)) (fun aA uU => aA = #[(.int (3 : Int32))] ∧ Z.Warmed39 uU.vm ∧ uU.heap = h0) (fun _ _ _ _ _ => True) (fun _ uU oO uU' => ∃ vV lL, oO = .returned vV ∧ Q_rmP3 Z sEQ sIS_NULL sNOT_NULL sIN sNOT_IN sNE sLE sGT sLT sGE h0 n0 vV uU'.heap lL ∧ FrameEnd uU oO uU' lL ({ frames := 0, cells := 0, slots := 0, locals := 0 } : Room).cells ({ frames := 0, cells := 0, slots := 0, locals := 0 } : Room).slots) := by
  refine MetFree.of_bodySF (plainFor_of_name pn_OperatorLiteralsPinLaw) hisR ?_
  intro p e s m args below meth c s₁ Bd hml0 hP hK
  obtain ⟨rfl, hZ, hh⟩ := hP
  have hx := Bd.exec
  have hby := Bd.bytes
  have hml : c.maxLocals = 1 := hml0
  have hown : s.vm.findClass "com/example/moraine/moraine/model/OperatorLiteralsPinLaw" = some m.cls := findClass_of_methodNamed Bd.named
  have hnm := (name_of_methodNamed Bd.named Bd.method).1
  have X0 : Stand p l e ({ frames := 0, cells := 0, slots := 0, locals := 0 } : Room) s m #[(.int (3 : Int32))] below meth c s₁ [] 0 0 := Stand.of_body Bd
  have e0 : s₁.heap = h0 := by rw [← hh, Bd.state]; rfl
  have N0 := Fr.nil n0
  refine oEnter (oCast (ef_rmP3 m (3 : Int32) ) ?_)
  show oGl p e below (s₁.setTop (mkF m 0 #[.val (.int (3 : Int32))] [])) _
  refine siloadN X0 hx (hb hby d1_0) rfl rfl (pc' := 1) ?_
  refine sifY X0 hx (hb hby d1_1) (by decide) (by decide) (feq (by decide : ¬ ((3 : Int32) = (0 : Int32)))).2 (pc' := 8) ?_
  refine siloadN X0 hx (hb hby d1_8) rfl rfl (pc' := 9) ?_
  refine siconst X0 hx (hb hby d1_9) rfl rfl (z := 1) (pc' := 10) ?_
  refine sicY X0 hx (hb hby d1_10) (by decide) (by decide) (feq (by decide : ¬ ((3 : Int32) = (1 : Int32)))).2 (pc' := 17) ?_
  refine siloadN X0 hx (hb hby d1_17) rfl rfl (pc' := 18) ?_
  refine siconst X0 hx (hb hby d1_18) rfl rfl (z := 2) (pc' := 19) ?_
  refine sicY X0 hx (hb hby d1_19) (by decide) (by decide) (feq (by decide : ¬ ((3 : Int32) = (2 : Int32)))).2 (pc' := 26) ?_
  refine siloadN X0 hx (hb hby d1_26) rfl rfl (pc' := 27) ?_
  refine siconst X0 hx (hb hby d1_27) rfl rfl (z := 3) (pc' := 28) ?_
  refine sicN X0 hx (hb hby d1_28) rfl (teq (by decide : (3 : Int32) = (3 : Int32))).2 (pc' := 31) ?_
  obtain ⟨T1, X1, e1, st1⟩ := getS2 X0 hx hZ hown (host := "") (Or.inl (hw _ (List.mem_of_getElem? (i := 38) rfl))) Via.refl e0 (SsLE.ext O0.2) (g := (mkF m 31 #[.val (.int (3 : Int32))] [])) rfl (hb hby d1_31)
  refine oOn st1 ?_
  show oGl p e below (T1.setTop (mkF m 34 #[.val (.int (3 : Int32))] [(.ref sLE)])) _
  refine oRetR X1 hx Bd.notSynchronized Bd.returns rfl rfl (hb hby d1_34) (by decide) (by decide) ?_
  show Q_rmP3 Z sEQ sIS_NULL sNOT_NULL sIN sNOT_IN sNE sLE sGT sLT sGE h0 n0 _ T1.heap _
  rw [e1]
  exact ⟨rfl, N0, rfl⟩
theorem d1_35 : decode method_2_code 35 = .ok (.iload_n 0, 1) := by decide +kernel
theorem d1_36 : decode method_2_code 36 = .ok (.iconst 4, 1) := by decide +kernel
theorem d1_37 : decode method_2_code 37 = .ok (.if_icmp .ne 7, 3) := by decide +kernel
theorem d1_40 : decode method_2_code 40 = .ok (.getstatic 22, 3) := by decide +kernel
theorem d1_43 : decode method_2_code 43 = .ok (.areturn, 1) := by decide +kernel
theorem ef_rmP4 (m : MethodId) (x0 : Int32)  : entryFrame m #[(.int x0)] 1 = mkF m 0 #[.val (.int x0)] [] := by first | rfl | (simp [entryFrame, mkF, argsToLocals, Value.category, maxLocals]; done)
def Q_rmP4 (Z : State) (sEQ : Addr) (sIS_NULL : Addr) (sNOT_NULL : Addr) (sIN : Addr) (sNOT_IN : Addr) (sNE : Addr) (sLE : Addr) (sGT : Addr) (sLT : Addr) (sGE : Addr) (h0 : Heap) (n0 : Nat) (vv : Option Value) (h : Heap) (L : List Loc) : Prop := vv = some (.ref sGT) ∧ Fr n0 L ∧ h = h0
set_option maxRecDepth 65536 in
set_option maxHeartbeats 40000000 in
theorem rmP4 (l : Launch) (Z : State) (a0 : Array Value) (hw : ∀ d ∈ tables_1, d.before a0 Z = true) (ws : List Jvm.Cond) (sEQ : Addr) (sIS_NULL : Addr) (sNOT_NULL : Addr) (sIN : Addr) (sNOT_IN : Addr) (sNE : Addr) (sLE : Addr) (sGT : Addr) (sLT : Addr) (sGE : Addr) (h0 : Heap) (n0 : Nat) (Z0 : n0 ≤ h0.size) (O0 : Old Z n0 h0) (SsEQ : Sta Z Z.heap "com/example/moraine/moraine/model/Expression$Operator" "EQ" "Lcom/example/moraine/moraine/model/Expression$Operator;" (.ref sEQ)) (EsEQ : Exa Z Z.heap sEQ "com/example/moraine/moraine/model/Expression$Operator") (FsEQ : Fld Z Z.heap sEQ "java/lang/Enum" "ordinal" "I" (.int 0)) (SsIS_NULL : Sta Z Z.heap "com/example/moraine/moraine/model/Expression$Operator" "IS_NULL" "Lcom/example/moraine/moraine/model/Expression$Operator;" (.ref sIS_NULL)) (EsIS_NULL : Exa Z Z.heap sIS_NULL "com/example/moraine/moraine/model/Expression$Operator") (FsIS_NULL : Fld Z Z.heap sIS_NULL "java/lang/Enum" "ordinal" "I" (.int 6)) (SsNOT_NULL : Sta Z Z.heap "com/example/moraine/moraine/model/Expression$Operator" "NOT_NULL" "Lcom/example/moraine/moraine/model/Expression$Operator;" (.ref sNOT_NULL)) (EsNOT_NULL : Exa Z Z.heap sNOT_NULL "com/example/moraine/moraine/model/Expression$Operator") (FsNOT_NULL : Fld Z Z.heap sNOT_NULL "java/lang/Enum" "ordinal" "I" (.int 7)) (SsIN : Sta Z Z.heap "com/example/moraine/moraine/model/Expression$Operator" "IN" "Lcom/example/moraine/moraine/model/Expression$Operator;" (.ref sIN)) (EsIN : Exa Z Z.heap sIN "com/example/moraine/moraine/model/Expression$Operator") (FsIN : Fld Z Z.heap sIN "java/lang/Enum" "ordinal" "I" (.int 8)) (SsNOT_IN : Sta Z Z.heap "com/example/moraine/moraine/model/Expression$Operator" "NOT_IN" "Lcom/example/moraine/moraine/model/Expression$Operator;" (.ref sNOT_IN)) (EsNOT_IN : Exa Z Z.heap sNOT_IN "com/example/moraine/moraine/model/Expression$Operator") (FsNOT_IN : Fld Z Z.heap sNOT_IN "java/lang/Enum" "ordinal" "I" (.int 9)) (SsNE : Sta Z Z.heap "com/example/moraine/moraine/model/Expression$Operator" "NE" "Lcom/example/moraine/moraine/model/Expression$Operator;" (.ref sNE)) (EsNE : Exa Z Z.heap sNE "com/example/moraine/moraine/model/Expression$Operator") (FsNE : Fld Z Z.heap sNE "java/lang/Enum" "ordinal" "I" (.int 1)) (SsLE : Sta Z Z.heap "com/example/moraine/moraine/model/Expression$Operator" "LE" "Lcom/example/moraine/moraine/model/Expression$Operator;" (.ref sLE)) (EsLE : Exa Z Z.heap sLE "com/example/moraine/moraine/model/Expression$Operator") (FsLE : Fld Z Z.heap sLE "java/lang/Enum" "ordinal" "I" (.int 3)) (SsGT : Sta Z Z.heap "com/example/moraine/moraine/model/Expression$Operator" "GT" "Lcom/example/moraine/moraine/model/Expression$Operator;" (.ref sGT)) (EsGT : Exa Z Z.heap sGT "com/example/moraine/moraine/model/Expression$Operator") (FsGT : Fld Z Z.heap sGT "java/lang/Enum" "ordinal" "I" (.int 4)) (SsLT : Sta Z Z.heap "com/example/moraine/moraine/model/Expression$Operator" "LT" "Lcom/example/moraine/moraine/model/Expression$Operator;" (.ref sLT)) (EsLT : Exa Z Z.heap sLT "com/example/moraine/moraine/model/Expression$Operator") (FsLT : Fld Z Z.heap sLT "java/lang/Enum" "ordinal" "I" (.int 2)) (SsGE : Sta Z Z.heap "com/example/moraine/moraine/model/Expression$Operator" "GE" "Lcom/example/moraine/moraine/model/Expression$Operator;" (.ref sGE)) (EsGE : Exa Z Z.heap sGE "com/example/moraine/moraine/model/Expression$Operator") (FsGE : Fld Z Z.heap sGE "java/lang/Enum" "ordinal" "I" (.int 5)) :
    MetFree l (⟨"com/example/moraine/moraine/model/OperatorLiteralsPinLaw", "pick", "(I)Lcom/example/moraine/moraine/model/Expression$Operator;"⟩ : MethodName) (head1 (Jvm.Cond.code (⟨"com/example/moraine/moraine/model/OperatorLiteralsPinLaw", "pick", "(I)Lcom/example/moraine/moraine/model/Expression$Operator;"⟩ : MethodName) method_2_code 1 (some (.object "com/example/moraine/moraine/model/Expression$Operator")) :: ws) ({ frames := 0, cells := 0, slots := 0, locals := 0 } : Room)) (fun aA uU => aA = #[(.int (4 : Int32))] ∧ Z.Warmed39 uU.vm ∧ uU.heap = h0) (fun _ _ _ _ _ => True) (fun _ uU oO uU' => ∃ vV lL, oO = .returned vV ∧ Q_rmP4 Z sEQ sIS_NULL sNOT_NULL sIN sNOT_IN sNE sLE sGT sLT sGE h0 n0 vV uU'.heap lL ∧ FrameEnd uU oO uU' lL ({ frames := 0, cells := 0, slots := 0, locals := 0 } : Room).cells ({ frames := 0, cells := 0, slots := 0, locals := 0 } : Room).slots) := by
  refine MetFree.of_bodySF (plainFor_of_name pn_OperatorLiteralsPinLaw) hisR ?_
  intro p e s m args below meth c s₁ Bd hml0 hP hK
  obtain ⟨rfl, hZ, hh⟩ := hP
  have hx := Bd.exec
  have hby := Bd.bytes
  have hml : c.maxLocals = 1 := hml0
  have hown : s.vm.findClass "com/example/moraine/moraine/model/OperatorLiteralsPinLaw" = some m.cls := findClass_of_methodNamed Bd.named
  have hnm := (name_of_methodNamed Bd.named Bd.method).1
  have X0 : Stand p l e ({ frames := 0, cells := 0, slots := 0, locals := 0 } : Room) s m #[(.int (4 : Int32))] below meth c s₁ [] 0 0 := Stand.of_body Bd
  have e0 : s₁.heap = h0 := by rw [← hh, Bd.state]; rfl
  have N0 := Fr.nil n0
  refine oEnter (oCast (ef_rmP4 m (4 : Int32) ) ?_)
  show oGl p e below (s₁.setTop (mkF m 0 #[.val (.int (4 : Int32))] [])) _
  refine siloadN X0 hx (hb hby d1_0) rfl rfl (pc' := 1) ?_
  refine sifY X0 hx (hb hby d1_1) (by decide) (by decide) (feq (by decide : ¬ ((4 : Int32) = (0 : Int32)))).2 (pc' := 8) ?_
  refine siloadN X0 hx (hb hby d1_8) rfl rfl (pc' := 9) ?_
  refine siconst X0 hx (hb hby d1_9) rfl rfl (z := 1) (pc' := 10) ?_
  refine sicY X0 hx (hb hby d1_10) (by decide) (by decide) (feq (by decide : ¬ ((4 : Int32) = (1 : Int32)))).2 (pc' := 17) ?_
  refine siloadN X0 hx (hb hby d1_17) rfl rfl (pc' := 18) ?_
  refine siconst X0 hx (hb hby d1_18) rfl rfl (z := 2) (pc' := 19) ?_
  refine sicY X0 hx (hb hby d1_19) (by decide) (by decide) (feq (by decide : ¬ ((4 : Int32) = (2 : Int32)))).2 (pc' := 26) ?_
  refine siloadN X0 hx (hb hby d1_26) rfl rfl (pc' := 27) ?_
  refine siconst X0 hx (hb hby d1_27) rfl rfl (z := 3) (pc' := 28) ?_
  refine sicY X0 hx (hb hby d1_28) (by decide) (by decide) (feq (by decide : ¬ ((4 : Int32) = (3 : Int32)))).2 (pc' := 35) ?_
  refine siloadN X0 hx (hb hby d1_35) rfl rfl (pc' := 36) ?_
  refine siconst X0 hx (hb hby d1_36) rfl rfl (z := 4) (pc' := 37) ?_
  refine sicN X0 hx (hb hby d1_37) rfl (teq (by decide : (4 : Int32) = (4 : Int32))).2 (pc' := 40) ?_
  obtain ⟨T1, X1, e1, st1⟩ := getS2 X0 hx hZ hown (host := "") (Or.inl (hw _ (List.mem_of_getElem? (i := 44) rfl))) Via.refl e0 (SsGT.ext O0.2) (g := (mkF m 40 #[.val (.int (4 : Int32))] [])) rfl (hb hby d1_40)
  refine oOn st1 ?_
  show oGl p e below (T1.setTop (mkF m 43 #[.val (.int (4 : Int32))] [(.ref sGT)])) _
  refine oRetR X1 hx Bd.notSynchronized Bd.returns rfl rfl (hb hby d1_43) (by decide) (by decide) ?_
  show Q_rmP4 Z sEQ sIS_NULL sNOT_NULL sIN sNOT_IN sNE sLE sGT sLT sGE h0 n0 _ T1.heap _
  rw [e1]
  exact ⟨rfl, N0, rfl⟩
theorem d1_44 : decode method_2_code 44 = .ok (.iload_n 0, 1) := by decide +kernel
theorem d1_45 : decode method_2_code 45 = .ok (.iconst 5, 1) := by decide +kernel
theorem d1_46 : decode method_2_code 46 = .ok (.if_icmp .ne 7, 3) := by decide +kernel
theorem d1_49 : decode method_2_code 49 = .ok (.getstatic 25, 3) := by decide +kernel
theorem d1_52 : decode method_2_code 52 = .ok (.areturn, 1) := by decide +kernel
theorem ef_rmP5 (m : MethodId) (x0 : Int32)  : entryFrame m #[(.int x0)] 1 = mkF m 0 #[.val (.int x0)] [] := by first | rfl | (simp [entryFrame, mkF, argsToLocals, Value.category, maxLocals]; done)
def Q_rmP5 (Z : State) (sEQ : Addr) (sIS_NULL : Addr) (sNOT_NULL : Addr) (sIN : Addr) (sNOT_IN : Addr) (sNE : Addr) (sLE : Addr) (sGT : Addr) (sLT : Addr) (sGE : Addr) (h0 : Heap) (n0 : Nat) (vv : Option Value) (h : Heap) (L : List Loc) : Prop := vv = some (.ref sGE) ∧ Fr n0 L ∧ h = h0
set_option maxRecDepth 65536 in
set_option maxHeartbeats 40000000 in
theorem rmP5 (l : Launch) (Z : State) (a0 : Array Value) (hw : ∀ d ∈ tables_1, d.before a0 Z = true) (ws : List Jvm.Cond) (sEQ : Addr) (sIS_NULL : Addr) (sNOT_NULL : Addr) (sIN : Addr) (sNOT_IN : Addr) (sNE : Addr) (sLE : Addr) (sGT : Addr) (sLT : Addr) (sGE : Addr) (h0 : Heap) (n0 : Nat) (Z0 : n0 ≤ h0.size) (O0 : Old Z n0 h0) (SsEQ : Sta Z Z.heap "com/example/moraine/moraine/model/Expression$Operator" "EQ" "Lcom/example/moraine/moraine/model/Expression$Operator;" (.ref sEQ)) (EsEQ : Exa Z Z.heap sEQ "com/example/moraine/moraine/model/Expression$Operator") (FsEQ : Fld Z Z.heap sEQ "java/lang/Enum" "ordinal" "I" (.int 0)) (SsIS_NULL : Sta Z Z.heap "com/example/moraine/moraine/model/Expression$Operator" "IS_NULL" "Lcom/example/moraine/moraine/model/Expression$Operator;" (.ref sIS_NULL)) (EsIS_NULL : Exa Z Z.heap sIS_NULL "com/example/moraine/moraine/model/Expression$Operator") (FsIS_NULL : Fld Z Z.heap sIS_NULL "java/lang/Enum" "ordinal" "I" (.int 6)) (SsNOT_NULL : Sta Z Z.heap "com/example/moraine/moraine/model/Expression$Operator" "NOT_NULL" "Lcom/example/moraine/moraine/model/Expression$Operator;" (.ref sNOT_NULL)) (EsNOT_NULL : Exa Z Z.heap sNOT_NULL "com/example/moraine/moraine/model/Expression$Operator") (FsNOT_NULL : Fld Z Z.heap sNOT_NULL "java/lang/Enum" "ordinal" "I" (.int 7)) (SsIN : Sta Z Z.heap "com/example/moraine/moraine/model/Expression$Operator" "IN" "Lcom/example/moraine/moraine/model/Expression$Operator;" (.ref sIN)) (EsIN : Exa Z Z.heap sIN "com/example/moraine/moraine/model/Expression$Operator") (FsIN : Fld Z Z.heap sIN "java/lang/Enum" "ordinal" "I" (.int 8)) (SsNOT_IN : Sta Z Z.heap "com/example/moraine/moraine/model/Expression$Operator" "NOT_IN" "Lcom/example/moraine/moraine/model/Expression$Operator;" (.ref sNOT_IN)) (EsNOT_IN : Exa Z Z.heap sNOT_IN "com/example/moraine/moraine/model/Expression$Operator") (FsNOT_IN : Fld Z Z.heap sNOT_IN "java/lang/Enum" "ordinal" "I" (.int 9)) (SsNE : Sta Z Z.heap "com/example/moraine/moraine/model/Expression$Operator" "NE" "Lcom/example/moraine/moraine/model/Expression$Operator;" (.ref sNE)) (EsNE : Exa Z Z.heap sNE "com/example/moraine/moraine/model/Expression$Operator") (FsNE : Fld Z Z.heap sNE "java/lang/Enum" "ordinal" "I" (.int 1)) (SsLE : Sta Z Z.heap "com/example/moraine/moraine/model/Expression$Operator" "LE" "Lcom/example/moraine/moraine/model/Expression$Operator;" (.ref sLE)) (EsLE : Exa Z Z.heap sLE "com/example/moraine/moraine/model/Expression$Operator") (FsLE : Fld Z Z.heap sLE "java/lang/Enum" "ordinal" "I" (.int 3)) (SsGT : Sta Z Z.heap "com/example/moraine/moraine/model/Expression$Operator" "GT" "Lcom/example/moraine/moraine/model/Expression$Operator;" (.ref sGT)) (EsGT : Exa Z Z.heap sGT "com/example/moraine/moraine/model/Expression$Operator") (FsGT : Fld Z Z.heap sGT "java/lang/Enum" "ordinal" "I" (.int 4)) (SsLT : Sta Z Z.heap "com/example/moraine/moraine/model/Expression$Operator" "LT" "Lcom/example/moraine/moraine/model/Expression$Operator;" (.ref sLT)) (EsLT : Exa Z Z.heap sLT "com/example/moraine/moraine/model/Expression$Operator") (FsLT : Fld Z Z.heap sLT "java/lang/Enum" "ordinal" "I" (.int 2)) (SsGE : Sta Z Z.heap "com/example/moraine/moraine/model/Expression$Operator" "GE" "Lcom/example/moraine/moraine/model/Expression$Operator;" (.ref sGE)) (EsGE : Exa Z Z.heap sGE "com/example/moraine/moraine/model/Expression$Operator") (FsGE : Fld Z Z.heap sGE "java/lang/Enum" "ordinal" "I" (.int 5)) :
    MetFree l (⟨"com/example/moraine/moraine/model/OperatorLiteralsPinLaw", "pick", "(I)Lcom/example/moraine/moraine/model/Expression$Operator;"⟩ : MethodName) (head1 (Jvm.Cond.code (⟨"com/example/moraine/moraine/model/OperatorLiteralsPinLaw", "pick", "(I)Lcom/example/moraine/moraine/model/Expression$Operator;"⟩ : MethodName) method_2_code 1 (some (.object "com/example/moraine/moraine/model/Expression$Operator")) :: ws) ({ frames := 0, cells := 0, slots := 0, locals := 0 } : Room)) (fun aA uU => aA = #[(.int (5 : Int32))] ∧ Z.Warmed39 uU.vm ∧ uU.heap = h0) (fun _ _ _ _ _ => True) (fun _ uU oO uU' => ∃ vV lL, oO = .returned vV ∧ Q_rmP5 Z sEQ sIS_NULL sNOT_NULL sIN sNOT_IN sNE sLE sGT sLT sGE h0 n0 vV uU'.heap lL ∧ FrameEnd uU oO uU' lL ({ frames := 0, cells := 0, slots := 0, locals := 0 } : Room).cells ({ frames := 0, cells := 0, slots := 0, locals := 0 } : Room).slots) := by
  refine MetFree.of_bodySF (plainFor_of_name pn_OperatorLiteralsPinLaw) hisR ?_
  intro p e s m args below meth c s₁ Bd hml0 hP hK
  obtain ⟨rfl, hZ, hh⟩ := hP
  have hx := Bd.exec
  have hby := Bd.bytes
  have hml : c.maxLocals = 1 := hml0
  have hown : s.vm.findClass "com/example/moraine/moraine/model/OperatorLiteralsPinLaw" = some m.cls := findClass_of_methodNamed Bd.named
  have hnm := (name_of_methodNamed Bd.named Bd.method).1
  have X0 : Stand p l e ({ frames := 0, cells := 0, slots := 0, locals := 0 } : Room) s m #[(.int (5 : Int32))] below meth c s₁ [] 0 0 := Stand.of_body Bd
  have e0 : s₁.heap = h0 := by rw [← hh, Bd.state]; rfl
  have N0 := Fr.nil n0
  refine oEnter (oCast (ef_rmP5 m (5 : Int32) ) ?_)
  show oGl p e below (s₁.setTop (mkF m 0 #[.val (.int (5 : Int32))] [])) _
  refine siloadN X0 hx (hb hby d1_0) rfl rfl (pc' := 1) ?_
  refine sifY X0 hx (hb hby d1_1) (by decide) (by decide) (feq (by decide : ¬ ((5 : Int32) = (0 : Int32)))).2 (pc' := 8) ?_
  refine siloadN X0 hx (hb hby d1_8) rfl rfl (pc' := 9) ?_
  refine siconst X0 hx (hb hby d1_9) rfl rfl (z := 1) (pc' := 10) ?_
  refine sicY X0 hx (hb hby d1_10) (by decide) (by decide) (feq (by decide : ¬ ((5 : Int32) = (1 : Int32)))).2 (pc' := 17) ?_
  refine siloadN X0 hx (hb hby d1_17) rfl rfl (pc' := 18) ?_
  refine siconst X0 hx (hb hby d1_18) rfl rfl (z := 2) (pc' := 19) ?_
  refine sicY X0 hx (hb hby d1_19) (by decide) (by decide) (feq (by decide : ¬ ((5 : Int32) = (2 : Int32)))).2 (pc' := 26) ?_
  refine siloadN X0 hx (hb hby d1_26) rfl rfl (pc' := 27) ?_
  refine siconst X0 hx (hb hby d1_27) rfl rfl (z := 3) (pc' := 28) ?_
  refine sicY X0 hx (hb hby d1_28) (by decide) (by decide) (feq (by decide : ¬ ((5 : Int32) = (3 : Int32)))).2 (pc' := 35) ?_
  refine siloadN X0 hx (hb hby d1_35) rfl rfl (pc' := 36) ?_
  refine siconst X0 hx (hb hby d1_36) rfl rfl (z := 4) (pc' := 37) ?_
  refine sicY X0 hx (hb hby d1_37) (by decide) (by decide) (feq (by decide : ¬ ((5 : Int32) = (4 : Int32)))).2 (pc' := 44) ?_
  refine siloadN X0 hx (hb hby d1_44) rfl rfl (pc' := 45) ?_
  refine siconst X0 hx (hb hby d1_45) rfl rfl (z := 5) (pc' := 46) ?_
  refine sicN X0 hx (hb hby d1_46) rfl (teq (by decide : (5 : Int32) = (5 : Int32))).2 (pc' := 49) ?_
  obtain ⟨T1, X1, e1, st1⟩ := getS2 X0 hx hZ hown (host := "") (Or.inl (hw _ (List.mem_of_getElem? (i := 53) rfl))) Via.refl e0 (SsGE.ext O0.2) (g := (mkF m 49 #[.val (.int (5 : Int32))] [])) rfl (hb hby d1_49)
  refine oOn st1 ?_
  show oGl p e below (T1.setTop (mkF m 52 #[.val (.int (5 : Int32))] [(.ref sGE)])) _
  refine oRetR X1 hx Bd.notSynchronized Bd.returns rfl rfl (hb hby d1_52) (by decide) (by decide) ?_
  show Q_rmP5 Z sEQ sIS_NULL sNOT_NULL sIN sNOT_IN sNE sLE sGT sLT sGE h0 n0 _ T1.heap _
  rw [e1]
  exact ⟨rfl, N0, rfl⟩
theorem d1_53 : decode method_2_code 53 = .ok (.iload_n 0, 1) := by decide +kernel
theorem d1_54 : decode method_2_code 54 = .ok (.bipush 6, 2) := by decide +kernel
theorem d1_56 : decode method_2_code 56 = .ok (.if_icmp .ne 7, 3) := by decide +kernel
theorem d1_59 : decode method_2_code 59 = .ok (.getstatic 28, 3) := by decide +kernel
theorem d1_62 : decode method_2_code 62 = .ok (.areturn, 1) := by decide +kernel
theorem ef_rmP6 (m : MethodId) (x0 : Int32)  : entryFrame m #[(.int x0)] 1 = mkF m 0 #[.val (.int x0)] [] := by first | rfl | (simp [entryFrame, mkF, argsToLocals, Value.category, maxLocals]; done)
def Q_rmP6 (Z : State) (sEQ : Addr) (sIS_NULL : Addr) (sNOT_NULL : Addr) (sIN : Addr) (sNOT_IN : Addr) (sNE : Addr) (sLE : Addr) (sGT : Addr) (sLT : Addr) (sGE : Addr) (h0 : Heap) (n0 : Nat) (vv : Option Value) (h : Heap) (L : List Loc) : Prop := vv = some (.ref sIS_NULL) ∧ Fr n0 L ∧ h = h0
set_option maxRecDepth 65536 in
set_option maxHeartbeats 40000000 in
theorem rmP6 (l : Launch) (Z : State) (a0 : Array Value) (hw : ∀ d ∈ tables_1, d.before a0 Z = true) (ws : List Jvm.Cond) (sEQ : Addr) (sIS_NULL : Addr) (sNOT_NULL : Addr) (sIN : Addr) (sNOT_IN : Addr) (sNE : Addr) (sLE : Addr) (sGT : Addr) (sLT : Addr) (sGE : Addr) (h0 : Heap) (n0 : Nat) (Z0 : n0 ≤ h0.size) (O0 : Old Z n0 h0) (SsEQ : Sta Z Z.heap "com/example/moraine/moraine/model/Expression$Operator" "EQ" "Lcom/example/moraine/moraine/model/Expression$Operator;" (.ref sEQ)) (EsEQ : Exa Z Z.heap sEQ "com/example/moraine/moraine/model/Expression$Operator") (FsEQ : Fld Z Z.heap sEQ "java/lang/Enum" "ordinal" "I" (.int 0)) (SsIS_NULL : Sta Z Z.heap "com/example/moraine/moraine/model/Expression$Operator" "IS_NULL" "Lcom/example/moraine/moraine/model/Expression$Operator;" (.ref sIS_NULL)) (EsIS_NULL : Exa Z Z.heap sIS_NULL "com/example/moraine/moraine/model/Expression$Operator") (FsIS_NULL : Fld Z Z.heap sIS_NULL "java/lang/Enum" "ordinal" "I" (.int 6)) (SsNOT_NULL : Sta Z Z.heap "com/example/moraine/moraine/model/Expression$Operator" "NOT_NULL" "Lcom/example/moraine/moraine/model/Expression$Operator;" (.ref sNOT_NULL)) (EsNOT_NULL : Exa Z Z.heap sNOT_NULL "com/example/moraine/moraine/model/Expression$Operator") (FsNOT_NULL : Fld Z Z.heap sNOT_NULL "java/lang/Enum" "ordinal" "I" (.int 7)) (SsIN : Sta Z Z.heap "com/example/moraine/moraine/model/Expression$Operator" "IN" "Lcom/example/moraine/moraine/model/Expression$Operator;" (.ref sIN)) (EsIN : Exa Z Z.heap sIN "com/example/moraine/moraine/model/Expression$Operator") (FsIN : Fld Z Z.heap sIN "java/lang/Enum" "ordinal" "I" (.int 8)) (SsNOT_IN : Sta Z Z.heap "com/example/moraine/moraine/model/Expression$Operator" "NOT_IN" "Lcom/example/moraine/moraine/model/Expression$Operator;" (.ref sNOT_IN)) (EsNOT_IN : Exa Z Z.heap sNOT_IN "com/example/moraine/moraine/model/Expression$Operator") (FsNOT_IN : Fld Z Z.heap sNOT_IN "java/lang/Enum" "ordinal" "I" (.int 9)) (SsNE : Sta Z Z.heap "com/example/moraine/moraine/model/Expression$Operator" "NE" "Lcom/example/moraine/moraine/model/Expression$Operator;" (.ref sNE)) (EsNE : Exa Z Z.heap sNE "com/example/moraine/moraine/model/Expression$Operator") (FsNE : Fld Z Z.heap sNE "java/lang/Enum" "ordinal" "I" (.int 1)) (SsLE : Sta Z Z.heap "com/example/moraine/moraine/model/Expression$Operator" "LE" "Lcom/example/moraine/moraine/model/Expression$Operator;" (.ref sLE)) (EsLE : Exa Z Z.heap sLE "com/example/moraine/moraine/model/Expression$Operator") (FsLE : Fld Z Z.heap sLE "java/lang/Enum" "ordinal" "I" (.int 3)) (SsGT : Sta Z Z.heap "com/example/moraine/moraine/model/Expression$Operator" "GT" "Lcom/example/moraine/moraine/model/Expression$Operator;" (.ref sGT)) (EsGT : Exa Z Z.heap sGT "com/example/moraine/moraine/model/Expression$Operator") (FsGT : Fld Z Z.heap sGT "java/lang/Enum" "ordinal" "I" (.int 4)) (SsLT : Sta Z Z.heap "com/example/moraine/moraine/model/Expression$Operator" "LT" "Lcom/example/moraine/moraine/model/Expression$Operator;" (.ref sLT)) (EsLT : Exa Z Z.heap sLT "com/example/moraine/moraine/model/Expression$Operator") (FsLT : Fld Z Z.heap sLT "java/lang/Enum" "ordinal" "I" (.int 2)) (SsGE : Sta Z Z.heap "com/example/moraine/moraine/model/Expression$Operator" "GE" "Lcom/example/moraine/moraine/model/Expression$Operator;" (.ref sGE)) (EsGE : Exa Z Z.heap sGE "com/example/moraine/moraine/model/Expression$Operator") (FsGE : Fld Z Z.heap sGE "java/lang/Enum" "ordinal" "I" (.int 5)) :
    MetFree l (⟨"com/example/moraine/moraine/model/OperatorLiteralsPinLaw", "pick", "(I)Lcom/example/moraine/moraine/model/Expression$Operator;"⟩ : MethodName) (head1 (Jvm.Cond.code (⟨"com/example/moraine/moraine/model/OperatorLiteralsPinLaw", "pick", "(I)Lcom/example/moraine/moraine/model/Expression$Operator;"⟩ : MethodName) method_2_code 1 (some (.object "com/example/moraine/moraine/model/Expression$Operator")) :: ws) ({ frames := 0, cells := 0, slots := 0, locals := 0 } : Room)) (fun aA uU => aA = #[(.int (6 : Int32))] ∧ Z.Warmed39 uU.vm ∧ uU.heap = h0) (fun _ _ _ _ _ => True) (fun _ uU oO uU' => ∃ vV lL, oO = .returned vV ∧ Q_rmP6 Z sEQ sIS_NULL sNOT_NULL sIN sNOT_IN sNE sLE sGT sLT sGE h0 n0 vV uU'.heap lL ∧ FrameEnd uU oO uU' lL ({ frames := 0, cells := 0, slots := 0, locals := 0 } : Room).cells ({ frames := 0, cells := 0, slots := 0, locals := 0 } : Room).slots) := by
  refine MetFree.of_bodySF (plainFor_of_name pn_OperatorLiteralsPinLaw) hisR ?_
  intro p e s m args below meth c s₁ Bd hml0 hP hK
  obtain ⟨rfl, hZ, hh⟩ := hP
  have hx := Bd.exec
  have hby := Bd.bytes
  have hml : c.maxLocals = 1 := hml0
  have hown : s.vm.findClass "com/example/moraine/moraine/model/OperatorLiteralsPinLaw" = some m.cls := findClass_of_methodNamed Bd.named
  have hnm := (name_of_methodNamed Bd.named Bd.method).1
  have X0 : Stand p l e ({ frames := 0, cells := 0, slots := 0, locals := 0 } : Room) s m #[(.int (6 : Int32))] below meth c s₁ [] 0 0 := Stand.of_body Bd
  have e0 : s₁.heap = h0 := by rw [← hh, Bd.state]; rfl
  have N0 := Fr.nil n0
  refine oEnter (oCast (ef_rmP6 m (6 : Int32) ) ?_)
  show oGl p e below (s₁.setTop (mkF m 0 #[.val (.int (6 : Int32))] [])) _
  refine siloadN X0 hx (hb hby d1_0) rfl rfl (pc' := 1) ?_
  refine sifY X0 hx (hb hby d1_1) (by decide) (by decide) (feq (by decide : ¬ ((6 : Int32) = (0 : Int32)))).2 (pc' := 8) ?_
  refine siloadN X0 hx (hb hby d1_8) rfl rfl (pc' := 9) ?_
  refine siconst X0 hx (hb hby d1_9) rfl rfl (z := 1) (pc' := 10) ?_
  refine sicY X0 hx (hb hby d1_10) (by decide) (by decide) (feq (by decide : ¬ ((6 : Int32) = (1 : Int32)))).2 (pc' := 17) ?_
  refine siloadN X0 hx (hb hby d1_17) rfl rfl (pc' := 18) ?_
  refine siconst X0 hx (hb hby d1_18) rfl rfl (z := 2) (pc' := 19) ?_
  refine sicY X0 hx (hb hby d1_19) (by decide) (by decide) (feq (by decide : ¬ ((6 : Int32) = (2 : Int32)))).2 (pc' := 26) ?_
  refine siloadN X0 hx (hb hby d1_26) rfl rfl (pc' := 27) ?_
  refine siconst X0 hx (hb hby d1_27) rfl rfl (z := 3) (pc' := 28) ?_
  refine sicY X0 hx (hb hby d1_28) (by decide) (by decide) (feq (by decide : ¬ ((6 : Int32) = (3 : Int32)))).2 (pc' := 35) ?_
  refine siloadN X0 hx (hb hby d1_35) rfl rfl (pc' := 36) ?_
  refine siconst X0 hx (hb hby d1_36) rfl rfl (z := 4) (pc' := 37) ?_
  refine sicY X0 hx (hb hby d1_37) (by decide) (by decide) (feq (by decide : ¬ ((6 : Int32) = (4 : Int32)))).2 (pc' := 44) ?_
  refine siloadN X0 hx (hb hby d1_44) rfl rfl (pc' := 45) ?_
  refine siconst X0 hx (hb hby d1_45) rfl rfl (z := 5) (pc' := 46) ?_
  refine sicY X0 hx (hb hby d1_46) (by decide) (by decide) (feq (by decide : ¬ ((6 : Int32) = (5 : Int32)))).2 (pc' := 53) ?_
  refine siloadN X0 hx (hb hby d1_53) rfl rfl (pc' := 54) ?_
  refine sbipush X0 hx (hb hby d1_54) rfl rfl (z := 6) (pc' := 56) ?_
  refine sicN X0 hx (hb hby d1_56) rfl (teq (by decide : (6 : Int32) = (6 : Int32))).2 (pc' := 59) ?_
  obtain ⟨T1, X1, e1, st1⟩ := getS2 X0 hx hZ hown (host := "") (Or.inl (hw _ (List.mem_of_getElem? (i := 55) rfl))) Via.refl e0 (SsIS_NULL.ext O0.2) (g := (mkF m 59 #[.val (.int (6 : Int32))] [])) rfl (hb hby d1_59)
  refine oOn st1 ?_
  show oGl p e below (T1.setTop (mkF m 62 #[.val (.int (6 : Int32))] [(.ref sIS_NULL)])) _
  refine oRetR X1 hx Bd.notSynchronized Bd.returns rfl rfl (hb hby d1_62) (by decide) (by decide) ?_
  show Q_rmP6 Z sEQ sIS_NULL sNOT_NULL sIN sNOT_IN sNE sLE sGT sLT sGE h0 n0 _ T1.heap _
  rw [e1]
  exact ⟨rfl, N0, rfl⟩
theorem d1_63 : decode method_2_code 63 = .ok (.iload_n 0, 1) := by decide +kernel
theorem d1_64 : decode method_2_code 64 = .ok (.bipush 7, 2) := by decide +kernel
theorem d1_66 : decode method_2_code 66 = .ok (.if_icmp .ne 7, 3) := by decide +kernel
theorem d1_69 : decode method_2_code 69 = .ok (.getstatic 31, 3) := by decide +kernel
theorem d1_72 : decode method_2_code 72 = .ok (.areturn, 1) := by decide +kernel
theorem ef_rmP7 (m : MethodId) (x0 : Int32)  : entryFrame m #[(.int x0)] 1 = mkF m 0 #[.val (.int x0)] [] := by first | rfl | (simp [entryFrame, mkF, argsToLocals, Value.category, maxLocals]; done)
def Q_rmP7 (Z : State) (sEQ : Addr) (sIS_NULL : Addr) (sNOT_NULL : Addr) (sIN : Addr) (sNOT_IN : Addr) (sNE : Addr) (sLE : Addr) (sGT : Addr) (sLT : Addr) (sGE : Addr) (h0 : Heap) (n0 : Nat) (vv : Option Value) (h : Heap) (L : List Loc) : Prop := vv = some (.ref sNOT_NULL) ∧ Fr n0 L ∧ h = h0
set_option maxRecDepth 65536 in
set_option maxHeartbeats 40000000 in
theorem rmP7 (l : Launch) (Z : State) (a0 : Array Value) (hw : ∀ d ∈ tables_1, d.before a0 Z = true) (ws : List Jvm.Cond) (sEQ : Addr) (sIS_NULL : Addr) (sNOT_NULL : Addr) (sIN : Addr) (sNOT_IN : Addr) (sNE : Addr) (sLE : Addr) (sGT : Addr) (sLT : Addr) (sGE : Addr) (h0 : Heap) (n0 : Nat) (Z0 : n0 ≤ h0.size) (O0 : Old Z n0 h0) (SsEQ : Sta Z Z.heap "com/example/moraine/moraine/model/Expression$Operator" "EQ" "Lcom/example/moraine/moraine/model/Expression$Operator;" (.ref sEQ)) (EsEQ : Exa Z Z.heap sEQ "com/example/moraine/moraine/model/Expression$Operator") (FsEQ : Fld Z Z.heap sEQ "java/lang/Enum" "ordinal" "I" (.int 0)) (SsIS_NULL : Sta Z Z.heap "com/example/moraine/moraine/model/Expression$Operator" "IS_NULL" "Lcom/example/moraine/moraine/model/Expression$Operator;" (.ref sIS_NULL)) (EsIS_NULL : Exa Z Z.heap sIS_NULL "com/example/moraine/moraine/model/Expression$Operator") (FsIS_NULL : Fld Z Z.heap sIS_NULL "java/lang/Enum" "ordinal" "I" (.int 6)) (SsNOT_NULL : Sta Z Z.heap "com/example/moraine/moraine/model/Expression$Operator" "NOT_NULL" "Lcom/example/moraine/moraine/model/Expression$Operator;" (.ref sNOT_NULL)) (EsNOT_NULL : Exa Z Z.heap sNOT_NULL "com/example/moraine/moraine/model/Expression$Operator") (FsNOT_NULL : Fld Z Z.heap sNOT_NULL "java/lang/Enum" "ordinal" "I" (.int 7)) (SsIN : Sta Z Z.heap "com/example/moraine/moraine/model/Expression$Operator" "IN" "Lcom/example/moraine/moraine/model/Expression$Operator;" (.ref sIN)) (EsIN : Exa Z Z.heap sIN "com/example/moraine/moraine/model/Expression$Operator") (FsIN : Fld Z Z.heap sIN "java/lang/Enum" "ordinal" "I" (.int 8)) (SsNOT_IN : Sta Z Z.heap "com/example/moraine/moraine/model/Expression$Operator" "NOT_IN" "Lcom/example/moraine/moraine/model/Expression$Operator;" (.ref sNOT_IN)) (EsNOT_IN : Exa Z Z.heap sNOT_IN "com/example/moraine/moraine/model/Expression$Operator") (FsNOT_IN : Fld Z Z.heap sNOT_IN "java/lang/Enum" "ordinal" "I" (.int 9)) (SsNE : Sta Z Z.heap "com/example/moraine/moraine/model/Expression$Operator" "NE" "Lcom/example/moraine/moraine/model/Expression$Operator;" (.ref sNE)) (EsNE : Exa Z Z.heap sNE "com/example/moraine/moraine/model/Expression$Operator") (FsNE : Fld Z Z.heap sNE "java/lang/Enum" "ordinal" "I" (.int 1)) (SsLE : Sta Z Z.heap "com/example/moraine/moraine/model/Expression$Operator" "LE" "Lcom/example/moraine/moraine/model/Expression$Operator;" (.ref sLE)) (EsLE : Exa Z Z.heap sLE "com/example/moraine/moraine/model/Expression$Operator") (FsLE : Fld Z Z.heap sLE "java/lang/Enum" "ordinal" "I" (.int 3)) (SsGT : Sta Z Z.heap "com/example/moraine/moraine/model/Expression$Operator" "GT" "Lcom/example/moraine/moraine/model/Expression$Operator;" (.ref sGT)) (EsGT : Exa Z Z.heap sGT "com/example/moraine/moraine/model/Expression$Operator") (FsGT : Fld Z Z.heap sGT "java/lang/Enum" "ordinal" "I" (.int 4)) (SsLT : Sta Z Z.heap "com/example/moraine/moraine/model/Expression$Operator" "LT" "Lcom/example/moraine/moraine/model/Expression$Operator;" (.ref sLT)) (EsLT : Exa Z Z.heap sLT "com/example/moraine/moraine/model/Expression$Operator") (FsLT : Fld Z Z.heap sLT "java/lang/Enum" "ordinal" "I" (.int 2)) (SsGE : Sta Z Z.heap "com/example/moraine/moraine/model/Expression$Operator" "GE" "Lcom/example/moraine/moraine/model/Expression$Operator;" (.ref sGE)) (EsGE : Exa Z Z.heap sGE "com/example/moraine/moraine/model/Expression$Operator") (FsGE : Fld Z Z.heap sGE "java/lang/Enum" "ordinal" "I" (.int 5)) :
    MetFree l (⟨"com/example/moraine/moraine/model/OperatorLiteralsPinLaw", "pick", "(I)Lcom/example/moraine/moraine/model/Expression$Operator;"⟩ : MethodName) (head1 (Jvm.Cond.code (⟨"com/example/moraine/moraine/model/OperatorLiteralsPinLaw", "pick", "(I)Lcom/example/moraine/moraine/model/Expression$Operator;"⟩ : MethodName) method_2_code 1 (some (.object "com/example/moraine/moraine/model/Expression$Operator")) :: ws) ({ frames := 0, cells := 0, slots := 0, locals := 0 } : Room)) (fun aA uU => aA = #[(.int (7 : Int32))] ∧ Z.Warmed39 uU.vm ∧ uU.heap = h0) (fun _ _ _ _ _ => True) (fun _ uU oO uU' => ∃ vV lL, oO = .returned vV ∧ Q_rmP7 Z sEQ sIS_NULL sNOT_NULL sIN sNOT_IN sNE sLE sGT sLT sGE h0 n0 vV uU'.heap lL ∧ FrameEnd uU oO uU' lL ({ frames := 0, cells := 0, slots := 0, locals := 0 } : Room).cells ({ frames := 0, cells := 0, slots := 0, locals := 0 } : Room).slots) := by
  refine MetFree.of_bodySF (plainFor_of_name pn_OperatorLiteralsPinLaw) hisR ?_
  intro p e s m args below meth c s₁ Bd hml0 hP hK
  obtain ⟨rfl, hZ, hh⟩ := hP
  have hx := Bd.exec
  have hby := Bd.bytes
  have hml : c.maxLocals = 1 := hml0
  have hown : s.vm.findClass "com/example/moraine/moraine/model/OperatorLiteralsPinLaw" = some m.cls := findClass_of_methodNamed Bd.named
  have hnm := (name_of_methodNamed Bd.named Bd.method).1
  have X0 : Stand p l e ({ frames := 0, cells := 0, slots := 0, locals := 0 } : Room) s m #[(.int (7 : Int32))] below meth c s₁ [] 0 0 := Stand.of_body Bd
  have e0 : s₁.heap = h0 := by rw [← hh, Bd.state]; rfl
  have N0 := Fr.nil n0
  refine oEnter (oCast (ef_rmP7 m (7 : Int32) ) ?_)
  show oGl p e below (s₁.setTop (mkF m 0 #[.val (.int (7 : Int32))] [])) _
  refine siloadN X0 hx (hb hby d1_0) rfl rfl (pc' := 1) ?_
  refine sifY X0 hx (hb hby d1_1) (by decide) (by decide) (feq (by decide : ¬ ((7 : Int32) = (0 : Int32)))).2 (pc' := 8) ?_
  refine siloadN X0 hx (hb hby d1_8) rfl rfl (pc' := 9) ?_
  refine siconst X0 hx (hb hby d1_9) rfl rfl (z := 1) (pc' := 10) ?_
  refine sicY X0 hx (hb hby d1_10) (by decide) (by decide) (feq (by decide : ¬ ((7 : Int32) = (1 : Int32)))).2 (pc' := 17) ?_
  refine siloadN X0 hx (hb hby d1_17) rfl rfl (pc' := 18) ?_
  refine siconst X0 hx (hb hby d1_18) rfl rfl (z := 2) (pc' := 19) ?_
  refine sicY X0 hx (hb hby d1_19) (by decide) (by decide) (feq (by decide : ¬ ((7 : Int32) = (2 : Int32)))).2 (pc' := 26) ?_
  refine siloadN X0 hx (hb hby d1_26) rfl rfl (pc' := 27) ?_
  refine siconst X0 hx (hb hby d1_27) rfl rfl (z := 3) (pc' := 28) ?_
  refine sicY X0 hx (hb hby d1_28) (by decide) (by decide) (feq (by decide : ¬ ((7 : Int32) = (3 : Int32)))).2 (pc' := 35) ?_
  refine siloadN X0 hx (hb hby d1_35) rfl rfl (pc' := 36) ?_
  refine siconst X0 hx (hb hby d1_36) rfl rfl (z := 4) (pc' := 37) ?_
  refine sicY X0 hx (hb hby d1_37) (by decide) (by decide) (feq (by decide : ¬ ((7 : Int32) = (4 : Int32)))).2 (pc' := 44) ?_
  refine siloadN X0 hx (hb hby d1_44) rfl rfl (pc' := 45) ?_
  refine siconst X0 hx (hb hby d1_45) rfl rfl (z := 5) (pc' := 46) ?_
  refine sicY X0 hx (hb hby d1_46) (by decide) (by decide) (feq (by decide : ¬ ((7 : Int32) = (5 : Int32)))).2 (pc' := 53) ?_
  refine siloadN X0 hx (hb hby d1_53) rfl rfl (pc' := 54) ?_
  refine sbipush X0 hx (hb hby d1_54) rfl rfl (z := 6) (pc' := 56) ?_
  refine sicY X0 hx (hb hby d1_56) (by decide) (by decide) (feq (by decide : ¬ ((7 : Int32) = (6 : Int32)))).2 (pc' := 63) ?_
  refine siloadN X0 hx (hb hby d1_63) rfl rfl (pc' := 64) ?_
  refine sbipush X0 hx (hb hby d1_64) rfl rfl (z := 7) (pc' := 66) ?_
  refine sicN X0 hx (hb hby d1_66) rfl (teq (by decide : (7 : Int32) = (7 : Int32))).2 (pc' := 69) ?_
  obtain ⟨T1, X1, e1, st1⟩ := getS2 X0 hx hZ hown (host := "") (Or.inl (hw _ (List.mem_of_getElem? (i := 46) rfl))) Via.refl e0 (SsNOT_NULL.ext O0.2) (g := (mkF m 69 #[.val (.int (7 : Int32))] [])) rfl (hb hby d1_69)
  refine oOn st1 ?_
  show oGl p e below (T1.setTop (mkF m 72 #[.val (.int (7 : Int32))] [(.ref sNOT_NULL)])) _
  refine oRetR X1 hx Bd.notSynchronized Bd.returns rfl rfl (hb hby d1_72) (by decide) (by decide) ?_
  show Q_rmP7 Z sEQ sIS_NULL sNOT_NULL sIN sNOT_IN sNE sLE sGT sLT sGE h0 n0 _ T1.heap _
  rw [e1]
  exact ⟨rfl, N0, rfl⟩
theorem d1_73 : decode method_2_code 73 = .ok (.iload_n 0, 1) := by decide +kernel
theorem d1_74 : decode method_2_code 74 = .ok (.bipush 8, 2) := by decide +kernel
theorem d1_76 : decode method_2_code 76 = .ok (.if_icmp .ne 7, 3) := by decide +kernel
theorem d1_79 : decode method_2_code 79 = .ok (.getstatic 34, 3) := by decide +kernel
theorem d1_82 : decode method_2_code 82 = .ok (.areturn, 1) := by decide +kernel
theorem ef_rmP8 (m : MethodId) (x0 : Int32)  : entryFrame m #[(.int x0)] 1 = mkF m 0 #[.val (.int x0)] [] := by first | rfl | (simp [entryFrame, mkF, argsToLocals, Value.category, maxLocals]; done)
def Q_rmP8 (Z : State) (sEQ : Addr) (sIS_NULL : Addr) (sNOT_NULL : Addr) (sIN : Addr) (sNOT_IN : Addr) (sNE : Addr) (sLE : Addr) (sGT : Addr) (sLT : Addr) (sGE : Addr) (h0 : Heap) (n0 : Nat) (vv : Option Value) (h : Heap) (L : List Loc) : Prop := vv = some (.ref sIN) ∧ Fr n0 L ∧ h = h0
set_option maxRecDepth 65536 in
set_option maxHeartbeats 40000000 in
theorem rmP8 (l : Launch) (Z : State) (a0 : Array Value) (hw : ∀ d ∈ tables_1, d.before a0 Z = true) (ws : List Jvm.Cond) (sEQ : Addr) (sIS_NULL : Addr) (sNOT_NULL : Addr) (sIN : Addr) (sNOT_IN : Addr) (sNE : Addr) (sLE : Addr) (sGT : Addr) (sLT : Addr) (sGE : Addr) (h0 : Heap) (n0 : Nat) (Z0 : n0 ≤ h0.size) (O0 : Old Z n0 h0) (SsEQ : Sta Z Z.heap "com/example/moraine/moraine/model/Expression$Operator" "EQ" "Lcom/example/moraine/moraine/model/Expression$Operator;" (.ref sEQ)) (EsEQ : Exa Z Z.heap sEQ "com/example/moraine/moraine/model/Expression$Operator") (FsEQ : Fld Z Z.heap sEQ "java/lang/Enum" "ordinal" "I" (.int 0)) (SsIS_NULL : Sta Z Z.heap "com/example/moraine/moraine/model/Expression$Operator" "IS_NULL" "Lcom/example/moraine/moraine/model/Expression$Operator;" (.ref sIS_NULL)) (EsIS_NULL : Exa Z Z.heap sIS_NULL "com/example/moraine/moraine/model/Expression$Operator") (FsIS_NULL : Fld Z Z.heap sIS_NULL "java/lang/Enum" "ordinal" "I" (.int 6)) (SsNOT_NULL : Sta Z Z.heap "com/example/moraine/moraine/model/Expression$Operator" "NOT_NULL" "Lcom/example/moraine/moraine/model/Expression$Operator;" (.ref sNOT_NULL)) (EsNOT_NULL : Exa Z Z.heap sNOT_NULL "com/example/moraine/moraine/model/Expression$Operator") (FsNOT_NULL : Fld Z Z.heap sNOT_NULL "java/lang/Enum" "ordinal" "I" (.int 7)) (SsIN : Sta Z Z.heap "com/example/moraine/moraine/model/Expression$Operator" "IN" "Lcom/example/moraine/moraine/model/Expression$Operator;" (.ref sIN)) (EsIN : Exa Z Z.heap sIN "com/example/moraine/moraine/model/Expression$Operator") (FsIN : Fld Z Z.heap sIN "java/lang/Enum" "ordinal" "I" (.int 8)) (SsNOT_IN : Sta Z Z.heap "com/example/moraine/moraine/model/Expression$Operator" "NOT_IN" "Lcom/example/moraine/moraine/model/Expression$Operator;" (.ref sNOT_IN)) (EsNOT_IN : Exa Z Z.heap sNOT_IN "com/example/moraine/moraine/model/Expression$Operator") (FsNOT_IN : Fld Z Z.heap sNOT_IN "java/lang/Enum" "ordinal" "I" (.int 9)) (SsNE : Sta Z Z.heap "com/example/moraine/moraine/model/Expression$Operator" "NE" "Lcom/example/moraine/moraine/model/Expression$Operator;" (.ref sNE)) (EsNE : Exa Z Z.heap sNE "com/example/moraine/moraine/model/Expression$Operator") (FsNE : Fld Z Z.heap sNE "java/lang/Enum" "ordinal" "I" (.int 1)) (SsLE : Sta Z Z.heap "com/example/moraine/moraine/model/Expression$Operator" "LE" "Lcom/example/moraine/moraine/model/Expression$Operator;" (.ref sLE)) (EsLE : Exa Z Z.heap sLE "com/example/moraine/moraine/model/Expression$Operator") (FsLE : Fld Z Z.heap sLE "java/lang/Enum" "ordinal" "I" (.int 3)) (SsGT : Sta Z Z.heap "com/example/moraine/moraine/model/Expression$Operator" "GT" "Lcom/example/moraine/moraine/model/Expression$Operator;" (.ref sGT)) (EsGT : Exa Z Z.heap sGT "com/example/moraine/moraine/model/Expression$Operator") (FsGT : Fld Z Z.heap sGT "java/lang/Enum" "ordinal" "I" (.int 4)) (SsLT : Sta Z Z.heap "com/example/moraine/moraine/model/Expression$Operator" "LT" "Lcom/example/moraine/moraine/model/Expression$Operator;" (.ref sLT)) (EsLT : Exa Z Z.heap sLT "com/example/moraine/moraine/model/Expression$Operator") (FsLT : Fld Z Z.heap sLT "java/lang/Enum" "ordinal" "I" (.int 2)) (SsGE : Sta Z Z.heap "com/example/moraine/moraine/model/Expression$Operator" "GE" "Lcom/example/moraine/moraine/model/Expression$Operator;" (.ref sGE)) (EsGE : Exa Z Z.heap sGE "com/example/moraine/moraine/model/Expression$Operator") (FsGE : Fld Z Z.heap sGE "java/lang/Enum" "ordinal" "I" (.int 5)) :
    MetFree l (⟨"com/example/moraine/moraine/model/OperatorLiteralsPinLaw", "pick", "(I)Lcom/example/moraine/moraine/model/Expression$Operator;"⟩ : MethodName) (head1 (Jvm.Cond.code (⟨"com/example/moraine/moraine/model/OperatorLiteralsPinLaw", "pick", "(I)Lcom/example/moraine/moraine/model/Expression$Operator;"⟩ : MethodName) method_2_code 1 (some (.object "com/example/moraine/moraine/model/Expression$Operator")) :: ws) ({ frames := 0, cells := 0, slots := 0, locals := 0 } : Room)) (fun aA uU => aA = #[(.int (8 : Int32))] ∧ Z.Warmed39 uU.vm ∧ uU.heap = h0) (fun _ _ _ _ _ => True) (fun _ uU oO uU' => ∃ vV lL, oO = .returned vV ∧ Q_rmP8 Z sEQ sIS_NULL sNOT_NULL sIN sNOT_IN sNE sLE sGT sLT sGE h0 n0 vV uU'.heap lL ∧ FrameEnd uU oO uU' lL ({ frames := 0, cells := 0, slots := 0, locals := 0 } : Room).cells ({ frames := 0, cells := 0, slots := 0, locals := 0 } : Room).slots) := by
  refine MetFree.of_bodySF (plainFor_of_name pn_OperatorLiteralsPinLaw) hisR ?_
  intro p e s m args below meth c s₁ Bd hml0 hP hK
  obtain ⟨rfl, hZ, hh⟩ := hP
  have hx := Bd.exec
  have hby := Bd.bytes
  have hml : c.maxLocals = 1 := hml0
  have hown : s.vm.findClass "com/example/moraine/moraine/model/OperatorLiteralsPinLaw" = some m.cls := findClass_of_methodNamed Bd.named
  have hnm := (name_of_methodNamed Bd.named Bd.method).1
  have X0 : Stand p l e ({ frames := 0, cells := 0, slots := 0, locals := 0 } : Room) s m #[(.int (8 : Int32))] below meth c s₁ [] 0 0 := Stand.of_body Bd
  have e0 : s₁.heap = h0 := by rw [← hh, Bd.state]; rfl
  have N0 := Fr.nil n0
  refine oEnter (oCast (ef_rmP8 m (8 : Int32) ) ?_)
  show oGl p e below (s₁.setTop (mkF m 0 #[.val (.int (8 : Int32))] [])) _
  refine siloadN X0 hx (hb hby d1_0) rfl rfl (pc' := 1) ?_
  refine sifY X0 hx (hb hby d1_1) (by decide) (by decide) (feq (by decide : ¬ ((8 : Int32) = (0 : Int32)))).2 (pc' := 8) ?_
  refine siloadN X0 hx (hb hby d1_8) rfl rfl (pc' := 9) ?_
  refine siconst X0 hx (hb hby d1_9) rfl rfl (z := 1) (pc' := 10) ?_
  refine sicY X0 hx (hb hby d1_10) (by decide) (by decide) (feq (by decide : ¬ ((8 : Int32) = (1 : Int32)))).2 (pc' := 17) ?_
  refine siloadN X0 hx (hb hby d1_17) rfl rfl (pc' := 18) ?_
  refine siconst X0 hx (hb hby d1_18) rfl rfl (z := 2) (pc' := 19) ?_
  refine sicY X0 hx (hb hby d1_19) (by decide) (by decide) (feq (by decide : ¬ ((8 : Int32) = (2 : Int32)))).2 (pc' := 26) ?_
  refine siloadN X0 hx (hb hby d1_26) rfl rfl (pc' := 27) ?_
  refine siconst X0 hx (hb hby d1_27) rfl rfl (z := 3) (pc' := 28) ?_
  refine sicY X0 hx (hb hby d1_28) (by decide) (by decide) (feq (by decide : ¬ ((8 : Int32) = (3 : Int32)))).2 (pc' := 35) ?_
  refine siloadN X0 hx (hb hby d1_35) rfl rfl (pc' := 36) ?_
  refine siconst X0 hx (hb hby d1_36) rfl rfl (z := 4) (pc' := 37) ?_
  refine sicY X0 hx (hb hby d1_37) (by decide) (by decide) (feq (by decide : ¬ ((8 : Int32) = (4 : Int32)))).2 (pc' := 44) ?_
  refine siloadN X0 hx (hb hby d1_44) rfl rfl (pc' := 45) ?_
  refine siconst X0 hx (hb hby d1_45) rfl rfl (z := 5) (pc' := 46) ?_
  refine sicY X0 hx (hb hby d1_46) (by decide) (by decide) (feq (by decide : ¬ ((8 : Int32) = (5 : Int32)))).2 (pc' := 53) ?_
  refine siloadN X0 hx (hb hby d1_53) rfl rfl (pc' := 54) ?_
  refine sbipush X0 hx (hb hby d1_54) rfl rfl (z := 6) (pc' := 56) ?_
  refine sicY X0 hx (hb hby d1_56) (by decide) (by decide) (feq (by decide : ¬ ((8 : Int32) = (6 : Int32)))).2 (pc' := 63) ?_
  refine siloadN X0 hx (hb hby d1_63) rfl rfl (pc' := 64) ?_
  refine sbipush X0 hx (hb hby d1_64) rfl rfl (z := 7) (pc' := 66) ?_
  refine sicY X0 hx (hb hby d1_66) (by decide) (by decide) (feq (by decide : ¬ ((8 : Int32) = (7 : Int32)))).2 (pc' := 73) ?_
  refine siloadN X0 hx (hb hby d1_73) rfl rfl (pc' := 74) ?_
  refine sbipush X0 hx (hb hby d1_74) rfl rfl (z := 8) (pc' := 76) ?_
  refine sicN X0 hx (hb hby d1_76) rfl (teq (by decide : (8 : Int32) = (8 : Int32))).2 (pc' := 79) ?_
  obtain ⟨T1, X1, e1, st1⟩ := getS2 X0 hx hZ hown (host := "") (Or.inl (hw _ (List.mem_of_getElem? (i := 51) rfl))) Via.refl e0 (SsIN.ext O0.2) (g := (mkF m 79 #[.val (.int (8 : Int32))] [])) rfl (hb hby d1_79)
  refine oOn st1 ?_
  show oGl p e below (T1.setTop (mkF m 82 #[.val (.int (8 : Int32))] [(.ref sIN)])) _
  refine oRetR X1 hx Bd.notSynchronized Bd.returns rfl rfl (hb hby d1_82) (by decide) (by decide) ?_
  show Q_rmP8 Z sEQ sIS_NULL sNOT_NULL sIN sNOT_IN sNE sLE sGT sLT sGE h0 n0 _ T1.heap _
  rw [e1]
  exact ⟨rfl, N0, rfl⟩
theorem d1_83 : decode method_2_code 83 = .ok (.getstatic 37, 3) := by decide +kernel
theorem d1_86 : decode method_2_code 86 = .ok (.areturn, 1) := by decide +kernel
theorem ef_rmP9 (m : MethodId) (x0 : Int32)  : entryFrame m #[(.int x0)] 1 = mkF m 0 #[.val (.int x0)] [] := by first | rfl | (simp [entryFrame, mkF, argsToLocals, Value.category, maxLocals]; done)
def Q_rmP9 (Z : State) (sEQ : Addr) (sIS_NULL : Addr) (sNOT_NULL : Addr) (sIN : Addr) (sNOT_IN : Addr) (sNE : Addr) (sLE : Addr) (sGT : Addr) (sLT : Addr) (sGE : Addr) (h0 : Heap) (n0 : Nat) (vv : Option Value) (h : Heap) (L : List Loc) : Prop := vv = some (.ref sNOT_IN) ∧ Fr n0 L ∧ h = h0
set_option maxRecDepth 65536 in
set_option maxHeartbeats 40000000 in
theorem rmP9 (l : Launch) (Z : State) (a0 : Array Value) (hw : ∀ d ∈ tables_1, d.before a0 Z = true) (ws : List Jvm.Cond) (sEQ : Addr) (sIS_NULL : Addr) (sNOT_NULL : Addr) (sIN : Addr) (sNOT_IN : Addr) (sNE : Addr) (sLE : Addr) (sGT : Addr) (sLT : Addr) (sGE : Addr) (h0 : Heap) (n0 : Nat) (Z0 : n0 ≤ h0.size) (O0 : Old Z n0 h0) (SsEQ : Sta Z Z.heap "com/example/moraine/moraine/model/Expression$Operator" "EQ" "Lcom/example/moraine/moraine/model/Expression$Operator;" (.ref sEQ)) (EsEQ : Exa Z Z.heap sEQ "com/example/moraine/moraine/model/Expression$Operator") (FsEQ : Fld Z Z.heap sEQ "java/lang/Enum" "ordinal" "I" (.int 0)) (SsIS_NULL : Sta Z Z.heap "com/example/moraine/moraine/model/Expression$Operator" "IS_NULL" "Lcom/example/moraine/moraine/model/Expression$Operator;" (.ref sIS_NULL)) (EsIS_NULL : Exa Z Z.heap sIS_NULL "com/example/moraine/moraine/model/Expression$Operator") (FsIS_NULL : Fld Z Z.heap sIS_NULL "java/lang/Enum" "ordinal" "I" (.int 6)) (SsNOT_NULL : Sta Z Z.heap "com/example/moraine/moraine/model/Expression$Operator" "NOT_NULL" "Lcom/example/moraine/moraine/model/Expression$Operator;" (.ref sNOT_NULL)) (EsNOT_NULL : Exa Z Z.heap sNOT_NULL "com/example/moraine/moraine/model/Expression$Operator") (FsNOT_NULL : Fld Z Z.heap sNOT_NULL "java/lang/Enum" "ordinal" "I" (.int 7)) (SsIN : Sta Z Z.heap "com/example/moraine/moraine/model/Expression$Operator" "IN" "Lcom/example/moraine/moraine/model/Expression$Operator;" (.ref sIN)) (EsIN : Exa Z Z.heap sIN "com/example/moraine/moraine/model/Expression$Operator") (FsIN : Fld Z Z.heap sIN "java/lang/Enum" "ordinal" "I" (.int 8)) (SsNOT_IN : Sta Z Z.heap "com/example/moraine/moraine/model/Expression$Operator" "NOT_IN" "Lcom/example/moraine/moraine/model/Expression$Operator;" (.ref sNOT_IN)) (EsNOT_IN : Exa Z Z.heap sNOT_IN "com/example/moraine/moraine/model/Expression$Operator") (FsNOT_IN : Fld Z Z.heap sNOT_IN "java/lang/Enum" "ordinal" "I" (.int 9)) (SsNE : Sta Z Z.heap "com/example/moraine/moraine/model/Expression$Operator" "NE" "Lcom/example/moraine/moraine/model/Expression$Operator;" (.ref sNE)) (EsNE : Exa Z Z.heap sNE "com/example/moraine/moraine/model/Expression$Operator") (FsNE : Fld Z Z.heap sNE "java/lang/Enum" "ordinal" "I" (.int 1)) (SsLE : Sta Z Z.heap "com/example/moraine/moraine/model/Expression$Operator" "LE" "Lcom/example/moraine/moraine/model/Expression$Operator;" (.ref sLE)) (EsLE : Exa Z Z.heap sLE "com/example/moraine/moraine/model/Expression$Operator") (FsLE : Fld Z Z.heap sLE "java/lang/Enum" "ordinal" "I" (.int 3)) (SsGT : Sta Z Z.heap "com/example/moraine/moraine/model/Expression$Operator" "GT" "Lcom/example/moraine/moraine/model/Expression$Operator;" (.ref sGT)) (EsGT : Exa Z Z.heap sGT "com/example/moraine/moraine/model/Expression$Operator") (FsGT : Fld Z Z.heap sGT "java/lang/Enum" "ordinal" "I" (.int 4)) (SsLT : Sta Z Z.heap "com/example/moraine/moraine/model/Expression$Operator" "LT" "Lcom/example/moraine/moraine/model/Expression$Operator;" (.ref sLT)) (EsLT : Exa Z Z.heap sLT "com/example/moraine/moraine/model/Expression$Operator") (FsLT : Fld Z Z.heap sLT "java/lang/Enum" "ordinal" "I" (.int 2)) (SsGE : Sta Z Z.heap "com/example/moraine/moraine/model/Expression$Operator" "GE" "Lcom/example/moraine/moraine/model/Expression$Operator;" (.ref sGE)) (EsGE : Exa Z Z.heap sGE "com/example/moraine/moraine/model/Expression$Operator") (FsGE : Fld Z Z.heap sGE "java/lang/Enum" "ordinal" "I" (.int 5)) :
    MetFree l (⟨"com/example/moraine/moraine/model/OperatorLiteralsPinLaw", "pick", "(I)Lcom/example/moraine/moraine/model/Expression$Operator;"⟩ : MethodName) (head1 (Jvm.Cond.code (⟨"com/example/moraine/moraine/model/OperatorLiteralsPinLaw", "pick", "(I)Lcom/example/moraine/moraine/model/Expression$Operator;"⟩ : MethodName) method_2_code 1 (some (.object "com/example/moraine/moraine/model/Expression$Operator")) :: ws) ({ frames := 0, cells := 0, slots := 0, locals := 0 } : Room)) (fun aA uU => aA = #[(.int (9 : Int32))] ∧ Z.Warmed39 uU.vm ∧ uU.heap = h0) (fun _ _ _ _ _ => True) (fun _ uU oO uU' => ∃ vV lL, oO = .returned vV ∧ Q_rmP9 Z sEQ sIS_NULL sNOT_NULL sIN sNOT_IN sNE sLE sGT sLT sGE h0 n0 vV uU'.heap lL ∧ FrameEnd uU oO uU' lL ({ frames := 0, cells := 0, slots := 0, locals := 0 } : Room).cells ({ frames := 0, cells := 0, slots := 0, locals := 0 } : Room).slots) := by
  refine MetFree.of_bodySF (plainFor_of_name pn_OperatorLiteralsPinLaw) hisR ?_
  intro p e s m args below meth c s₁ Bd hml0 hP hK
  obtain ⟨rfl, hZ, hh⟩ := hP
  have hx := Bd.exec
  have hby := Bd.bytes
  have hml : c.maxLocals = 1 := hml0
  have hown : s.vm.findClass "com/example/moraine/moraine/model/OperatorLiteralsPinLaw" = some m.cls := findClass_of_methodNamed Bd.named
  have hnm := (name_of_methodNamed Bd.named Bd.method).1
  have X0 : Stand p l e ({ frames := 0, cells := 0, slots := 0, locals := 0 } : Room) s m #[(.int (9 : Int32))] below meth c s₁ [] 0 0 := Stand.of_body Bd
  have e0 : s₁.heap = h0 := by rw [← hh, Bd.state]; rfl
  have N0 := Fr.nil n0
  refine oEnter (oCast (ef_rmP9 m (9 : Int32) ) ?_)
  show oGl p e below (s₁.setTop (mkF m 0 #[.val (.int (9 : Int32))] [])) _
  refine siloadN X0 hx (hb hby d1_0) rfl rfl (pc' := 1) ?_
  refine sifY X0 hx (hb hby d1_1) (by decide) (by decide) (feq (by decide : ¬ ((9 : Int32) = (0 : Int32)))).2 (pc' := 8) ?_
  refine siloadN X0 hx (hb hby d1_8) rfl rfl (pc' := 9) ?_
  refine siconst X0 hx (hb hby d1_9) rfl rfl (z := 1) (pc' := 10) ?_
  refine sicY X0 hx (hb hby d1_10) (by decide) (by decide) (feq (by decide : ¬ ((9 : Int32) = (1 : Int32)))).2 (pc' := 17) ?_
  refine siloadN X0 hx (hb hby d1_17) rfl rfl (pc' := 18) ?_
  refine siconst X0 hx (hb hby d1_18) rfl rfl (z := 2) (pc' := 19) ?_
  refine sicY X0 hx (hb hby d1_19) (by decide) (by decide) (feq (by decide : ¬ ((9 : Int32) = (2 : Int32)))).2 (pc' := 26) ?_
  refine siloadN X0 hx (hb hby d1_26) rfl rfl (pc' := 27) ?_
  refine siconst X0 hx (hb hby d1_27) rfl rfl (z := 3) (pc' := 28) ?_
  refine sicY X0 hx (hb hby d1_28) (by decide) (by decide) (feq (by decide : ¬ ((9 : Int32) = (3 : Int32)))).2 (pc' := 35) ?_
  refine siloadN X0 hx (hb hby d1_35) rfl rfl (pc' := 36) ?_
  refine siconst X0 hx (hb hby d1_36) rfl rfl (z := 4) (pc' := 37) ?_
  refine sicY X0 hx (hb hby d1_37) (by decide) (by decide) (feq (by decide : ¬ ((9 : Int32) = (4 : Int32)))).2 (pc' := 44) ?_
  refine siloadN X0 hx (hb hby d1_44) rfl rfl (pc' := 45) ?_
  refine siconst X0 hx (hb hby d1_45) rfl rfl (z := 5) (pc' := 46) ?_
  refine sicY X0 hx (hb hby d1_46) (by decide) (by decide) (feq (by decide : ¬ ((9 : Int32) = (5 : Int32)))).2 (pc' := 53) ?_
  refine siloadN X0 hx (hb hby d1_53) rfl rfl (pc' := 54) ?_
  refine sbipush X0 hx (hb hby d1_54) rfl rfl (z := 6) (pc' := 56) ?_
  refine sicY X0 hx (hb hby d1_56) (by decide) (by decide) (feq (by decide : ¬ ((9 : Int32) = (6 : Int32)))).2 (pc' := 63) ?_
  refine siloadN X0 hx (hb hby d1_63) rfl rfl (pc' := 64) ?_
  refine sbipush X0 hx (hb hby d1_64) rfl rfl (z := 7) (pc' := 66) ?_
  refine sicY X0 hx (hb hby d1_66) (by decide) (by decide) (feq (by decide : ¬ ((9 : Int32) = (7 : Int32)))).2 (pc' := 73) ?_
  refine siloadN X0 hx (hb hby d1_73) rfl rfl (pc' := 74) ?_
  refine sbipush X0 hx (hb hby d1_74) rfl rfl (z := 8) (pc' := 76) ?_
  refine sicY X0 hx (hb hby d1_76) (by decide) (by decide) (feq (by decide : ¬ ((9 : Int32) = (8 : Int32)))).2 (pc' := 83) ?_
  obtain ⟨T1, X1, e1, st1⟩ := getS2 X0 hx hZ hown (host := "") (Or.inl (hw _ (List.mem_of_getElem? (i := 52) rfl))) Via.refl e0 (SsNOT_IN.ext O0.2) (g := (mkF m 83 #[.val (.int (9 : Int32))] [])) rfl (hb hby d1_83)
  refine oOn st1 ?_
  show oGl p e below (T1.setTop (mkF m 86 #[.val (.int (9 : Int32))] [(.ref sNOT_IN)])) _
  refine oRetR X1 hx Bd.notSynchronized Bd.returns rfl rfl (hb hby d1_86) (by decide) (by decide) ?_
  show Q_rmP9 Z sEQ sIS_NULL sNOT_NULL sIN sNOT_IN sNE sLE sGT sLT sGE h0 n0 _ T1.heap _
  rw [e1]
  exact ⟨rfl, N0, rfl⟩
theorem d2_0 : decode prog_66_method_5_code 0 = .ok (.aload_n 0, 1) := by decide +kernel
theorem d2_1 : decode prog_66_method_5_code 1 = .ok (.getstatic 22, 3) := by decide +kernel
theorem d2_4 : decode prog_66_method_5_code 4 = .ok (.if_acmp .eq 10, 3) := by decide +kernel
theorem d2_7 : decode prog_66_method_5_code 7 = .ok (.aload_n 0, 1) := by decide +kernel
theorem d2_8 : decode prog_66_method_5_code 8 = .ok (.getstatic 25, 3) := by decide +kernel
theorem d2_11 : decode prog_66_method_5_code 11 = .ok (.if_acmp .ne 7, 3) := by decide +kernel
theorem d2_18 : decode prog_66_method_5_code 18 = .ok (.aload_n 0, 1) := by decide +kernel
theorem d2_19 : decode prog_66_method_5_code 19 = .ok (.getstatic 28, 3) := by decide +kernel
theorem d2_22 : decode prog_66_method_5_code 22 = .ok (.if_acmp .eq 10, 3) := by decide +kernel
theorem d2_25 : decode prog_66_method_5_code 25 = .ok (.aload_n 0, 1) := by decide +kernel
theorem d2_26 : decode prog_66_method_5_code 26 = .ok (.getstatic 31, 3) := by decide +kernel
theorem d2_29 : decode prog_66_method_5_code 29 = .ok (.if_acmp .ne 7, 3) := by decide +kernel
theorem d2_36 : decode prog_66_method_5_code 36 = .ok (.iconst 1, 1) := by decide +kernel
theorem d2_37 : decode prog_66_method_5_code 37 = .ok (.ireturn, 1) := by decide +kernel
theorem pn_Expression_Operator : plainName "com/example/moraine/moraine/model/Expression$Operator" = true := by first | (simp [plainName, overriddenIn]; done) | decide +kernel
theorem ef_rmLit_EQ (m : MethodId) (x0 : Addr)  : entryFrame m #[(.ref x0)] 1 = mkF m 0 #[.val (.ref x0)] [] := by first | rfl | (simp [entryFrame, mkF, argsToLocals, Value.category, maxLocals]; done)
def Q_rmLit_EQ (Z : State) (sEQ : Addr) (sIS_NULL : Addr) (sNOT_NULL : Addr) (sIN : Addr) (sNOT_IN : Addr) (sNE : Addr) (sLE : Addr) (sGT : Addr) (sLT : Addr) (sGE : Addr) (h0 : Heap) (n0 : Nat) (vv : Option Value) (h : Heap) (L : List Loc) : Prop := vv = some (.int (1)) ∧ Fr n0 L ∧ h = h0
set_option maxRecDepth 65536 in
set_option maxHeartbeats 40000000 in
theorem rmLit_EQ (l : Launch) (Z : State) (a0 : Array Value) (hw : ∀ d ∈ tables_1, d.before a0 Z = true) (ws : List Jvm.Cond) (sEQ : Addr) (sIS_NULL : Addr) (sNOT_NULL : Addr) (sIN : Addr) (sNOT_IN : Addr) (sNE : Addr) (sLE : Addr) (sGT : Addr) (sLT : Addr) (sGE : Addr) (h0 : Heap) (n0 : Nat) (Z0 : n0 ≤ h0.size) (O0 : Old Z n0 h0) (SsEQ : Sta Z Z.heap "com/example/moraine/moraine/model/Expression$Operator" "EQ" "Lcom/example/moraine/moraine/model/Expression$Operator;" (.ref sEQ)) (EsEQ : Exa Z Z.heap sEQ "com/example/moraine/moraine/model/Expression$Operator") (FsEQ : Fld Z Z.heap sEQ "java/lang/Enum" "ordinal" "I" (.int 0)) (SsIS_NULL : Sta Z Z.heap "com/example/moraine/moraine/model/Expression$Operator" "IS_NULL" "Lcom/example/moraine/moraine/model/Expression$Operator;" (.ref sIS_NULL)) (EsIS_NULL : Exa Z Z.heap sIS_NULL "com/example/moraine/moraine/model/Expression$Operator") (FsIS_NULL : Fld Z Z.heap sIS_NULL "java/lang/Enum" "ordinal" "I" (.int 6)) (SsNOT_NULL : Sta Z Z.heap "com/example/moraine/moraine/model/Expression$Operator" "NOT_NULL" "Lcom/example/moraine/moraine/model/Expression$Operator;" (.ref sNOT_NULL)) (EsNOT_NULL : Exa Z Z.heap sNOT_NULL "com/example/moraine/moraine/model/Expression$Operator") (FsNOT_NULL : Fld Z Z.heap sNOT_NULL "java/lang/Enum" "ordinal" "I" (.int 7)) (SsIN : Sta Z Z.heap "com/example/moraine/moraine/model/Expression$Operator" "IN" "Lcom/example/moraine/moraine/model/Expression$Operator;" (.ref sIN)) (EsIN : Exa Z Z.heap sIN "com/example/moraine/moraine/model/Expression$Operator") (FsIN : Fld Z Z.heap sIN "java/lang/Enum" "ordinal" "I" (.int 8)) (SsNOT_IN : Sta Z Z.heap "com/example/moraine/moraine/model/Expression$Operator" "NOT_IN" "Lcom/example/moraine/moraine/model/Expression$Operator;" (.ref sNOT_IN)) (EsNOT_IN : Exa Z Z.heap sNOT_IN "com/example/moraine/moraine/model/Expression$Operator") (FsNOT_IN : Fld Z Z.heap sNOT_IN "java/lang/Enum" "ordinal" "I" (.int 9)) (SsNE : Sta Z Z.heap "com/example/moraine/moraine/model/Expression$Operator" "NE" "Lcom/example/moraine/moraine/model/Expression$Operator;" (.ref sNE)) (EsNE : Exa Z Z.heap sNE "com/example/moraine/moraine/model/Expression$Operator") (FsNE : Fld Z Z.heap sNE "java/lang/Enum" "ordinal" "I" (.int 1)) (SsLE : Sta Z Z.heap "com/example/moraine/moraine/model/Expression$Operator" "LE" "Lcom/example/moraine/moraine/model/Expression$Operator;" (.ref sLE)) (EsLE : Exa Z Z.heap sLE "com/example/moraine/moraine/model/Expression$Operator") (FsLE : Fld Z Z.heap sLE "java/lang/Enum" "ordinal" "I" (.int 3)) (SsGT : Sta Z Z.heap "com/example/moraine/moraine/model/Expression$Operator" "GT" "Lcom/example/moraine/moraine/model/Expression$Operator;" (.ref sGT)) (EsGT : Exa Z Z.heap sGT "com/example/moraine/moraine/model/Expression$Operator") (FsGT : Fld Z Z.heap sGT "java/lang/Enum" "ordinal" "I" (.int 4)) (SsLT : Sta Z Z.heap "com/example/moraine/moraine/model/Expression$Operator" "LT" "Lcom/example/moraine/moraine/model/Expression$Operator;" (.ref sLT)) (EsLT : Exa Z Z.heap sLT "com/example/moraine/moraine/model/Expression$Operator") (FsLT : Fld Z Z.heap sLT "java/lang/Enum" "ordinal" "I" (.int 2)) (SsGE : Sta Z Z.heap "com/example/moraine/moraine/model/Expression$Operator" "GE" "Lcom/example/moraine/moraine/model/Expression$Operator;" (.ref sGE)) (EsGE : Exa Z Z.heap sGE "com/example/moraine/moraine/model/Expression$Operator") (FsGE : Fld Z Z.heap sGE "java/lang/Enum" "ordinal" "I" (.int 5)) :
    MetFree l (⟨"com/example/moraine/moraine/model/Expression$Operator", "literals", "()I"⟩ : MethodName) (head1 (Jvm.Cond.code (⟨"com/example/moraine/moraine/model/Expression$Operator", "literals", "()I"⟩ : MethodName) prog_66_method_5_code 1 (some .int) :: ws) ({ frames := 0, cells := 0, slots := 0, locals := 0 } : Room)) (fun aA uU => aA = #[(.ref sEQ)] ∧ Z.Warmed39 uU.vm ∧ uU.heap = h0) (fun _ _ _ _ _ => True) (fun _ uU oO uU' => ∃ vV lL, oO = .returned vV ∧ Q_rmLit_EQ Z sEQ sIS_NULL sNOT_NULL sIN sNOT_IN sNE sLE sGT sLT sGE h0 n0 vV uU'.heap lL ∧ FrameEnd uU oO uU' lL ({ frames := 0, cells := 0, slots := 0, locals := 0 } : Room).cells ({ frames := 0, cells := 0, slots := 0, locals := 0 } : Room).slots) := by
  refine MetFree.of_bodySF (plainFor_of_name pn_Expression_Operator) hisR ?_
  intro p e s m args below meth c s₁ Bd hml0 hP hK
  obtain ⟨rfl, hZ, hh⟩ := hP
  have hx := Bd.exec
  have hby := Bd.bytes
  have hml : c.maxLocals = 1 := hml0
  have hown : s.vm.findClass "com/example/moraine/moraine/model/Expression$Operator" = some m.cls := findClass_of_methodNamed Bd.named
  have hnm := (name_of_methodNamed Bd.named Bd.method).1
  have X0 : Stand p l e ({ frames := 0, cells := 0, slots := 0, locals := 0 } : Room) s m #[(.ref sEQ)] below meth c s₁ [] 0 0 := Stand.of_body Bd
  have e0 : s₁.heap = h0 := by rw [← hh, Bd.state]; rfl
  have N0 := Fr.nil n0
  refine oEnter (oCast (ef_rmLit_EQ m sEQ ) ?_)
  show oGl p e below (s₁.setTop (mkF m 0 #[.val (.ref sEQ)] [])) _
  refine saloadN X0 hx (hb hby d2_0) rfl rfl rfl (pc' := 1) ?_
  obtain ⟨T1, X1, e1, st1⟩ := getS2 X0 hx hZ hown (host := "") (Or.inl (hw _ (List.mem_of_getElem? (i := 14) rfl))) Via.refl e0 (SsIS_NULL.ext O0.2) (g := (mkF m 1 #[.val (.ref sEQ)] [(.ref sEQ)])) rfl (hb hby d2_1)
  refine oOn st1 ?_
  show oGl p e below (T1.setTop (mkF m 4 #[.val (.ref sEQ)] [(.ref sIS_NULL), (.ref sEQ)])) _
  refine oOn (fun _ kK => Jvm.RoadKit.acmp (g := (mkF m 4 #[.val (.ref sEQ)] [(.ref sIS_NULL), (.ref sEQ)])) X1 hx rfl rfl rfl (pc0 := 4) (pc' := 7) (same := false) rfl (hb hby d2_4) rfl (decide_eq_false fun q => (FsEQ.ne FsIS_NULL (by decide)) (Value.ref.inj q)) (by decide) (by decide) kK) ?_
  show oGl p e below (T1.setTop (mkF m 7 #[.val (.ref sEQ)] [])) _
  refine saloadN X1 hx (hb hby d2_7) rfl rfl rfl (pc' := 8) ?_
  obtain ⟨T2, X2, e2, st2⟩ := getS2 X1 hx hZ hown (host := "") (Or.inl (hw _ (List.mem_of_getElem? (i := 16) rfl))) Via.refl e1 (SsNOT_NULL.ext O0.2) (g := (mkF m 8 #[.val (.ref sEQ)] [(.ref sEQ)])) rfl (hb hby d2_8)
  refine oOn st2 ?_
  show oGl p e below (T2.setTop (mkF m 11 #[.val (.ref sEQ)] [(.ref sNOT_NULL), (.ref sEQ)])) _
  refine oOn (fun _ kK => Jvm.RoadKit.acmp (g := (mkF m 11 #[.val (.ref sEQ)] [(.ref sNOT_NULL), (.ref sEQ)])) X2 hx rfl rfl rfl (pc0 := 11) (pc' := 18) (same := false) rfl (hb hby d2_11) rfl (decide_eq_false fun q => (FsEQ.ne FsNOT_NULL (by decide)) (Value.ref.inj q)) (by decide) (by decide) kK) ?_
  show oGl p e below (T2.setTop (mkF m 18 #[.val (.ref sEQ)] [])) _
  refine saloadN X2 hx (hb hby d2_18) rfl rfl rfl (pc' := 19) ?_
  obtain ⟨T3, X3, e3, st3⟩ := getS2 X2 hx hZ hown (host := "") (Or.inl (hw _ (List.mem_of_getElem? (i := 18) rfl))) Via.refl e2 (SsIN.ext O0.2) (g := (mkF m 19 #[.val (.ref sEQ)] [(.ref sEQ)])) rfl (hb hby d2_19)
  refine oOn st3 ?_
  show oGl p e below (T3.setTop (mkF m 22 #[.val (.ref sEQ)] [(.ref sIN), (.ref sEQ)])) _
  refine oOn (fun _ kK => Jvm.RoadKit.acmp (g := (mkF m 22 #[.val (.ref sEQ)] [(.ref sIN), (.ref sEQ)])) X3 hx rfl rfl rfl (pc0 := 22) (pc' := 25) (same := false) rfl (hb hby d2_22) rfl (decide_eq_false fun q => (FsEQ.ne FsIN (by decide)) (Value.ref.inj q)) (by decide) (by decide) kK) ?_
  show oGl p e below (T3.setTop (mkF m 25 #[.val (.ref sEQ)] [])) _
  refine saloadN X3 hx (hb hby d2_25) rfl rfl rfl (pc' := 26) ?_
  obtain ⟨T4, X4, e4, st4⟩ := getS2 X3 hx hZ hown (host := "") (Or.inl (hw _ (List.mem_of_getElem? (i := 20) rfl))) Via.refl e3 (SsNOT_IN.ext O0.2) (g := (mkF m 26 #[.val (.ref sEQ)] [(.ref sEQ)])) rfl (hb hby d2_26)
  refine oOn st4 ?_
  show oGl p e below (T4.setTop (mkF m 29 #[.val (.ref sEQ)] [(.ref sNOT_IN), (.ref sEQ)])) _
  refine oOn (fun _ kK => Jvm.RoadKit.acmp (g := (mkF m 29 #[.val (.ref sEQ)] [(.ref sNOT_IN), (.ref sEQ)])) X4 hx rfl rfl rfl (pc0 := 29) (pc' := 36) (same := false) rfl (hb hby d2_29) rfl (decide_eq_false fun q => (FsEQ.ne FsNOT_IN (by decide)) (Value.ref.inj q)) (by decide) (by decide) kK) ?_
  show oGl p e below (T4.setTop (mkF m 36 #[.val (.ref sEQ)] [])) _
  refine siconst X4 hx (hb hby d2_36) rfl rfl (z := 1) (pc' := 37) ?_
  refine oRetI X4 hx Bd.notSynchronized Bd.returns (hb hby d2_37) (by decide) (by decide) ?_
  show Q_rmLit_EQ Z sEQ sIS_NULL sNOT_NULL sIN sNOT_IN sNE sLE sGT sLT sGE h0 n0 _ T4.heap _
  rw [e4]
  exact ⟨rfl, N0, rfl⟩
theorem ef_rmLit_NE (m : MethodId) (x0 : Addr)  : entryFrame m #[(.ref x0)] 1 = mkF m 0 #[.val (.ref x0)] [] := by first | rfl | (simp [entryFrame, mkF, argsToLocals, Value.category, maxLocals]; done)
def Q_rmLit_NE (Z : State) (sEQ : Addr) (sIS_NULL : Addr) (sNOT_NULL : Addr) (sIN : Addr) (sNOT_IN : Addr) (sNE : Addr) (sLE : Addr) (sGT : Addr) (sLT : Addr) (sGE : Addr) (h0 : Heap) (n0 : Nat) (vv : Option Value) (h : Heap) (L : List Loc) : Prop := vv = some (.int (1)) ∧ Fr n0 L ∧ h = h0
set_option maxRecDepth 65536 in
set_option maxHeartbeats 40000000 in
theorem rmLit_NE (l : Launch) (Z : State) (a0 : Array Value) (hw : ∀ d ∈ tables_1, d.before a0 Z = true) (ws : List Jvm.Cond) (sEQ : Addr) (sIS_NULL : Addr) (sNOT_NULL : Addr) (sIN : Addr) (sNOT_IN : Addr) (sNE : Addr) (sLE : Addr) (sGT : Addr) (sLT : Addr) (sGE : Addr) (h0 : Heap) (n0 : Nat) (Z0 : n0 ≤ h0.size) (O0 : Old Z n0 h0) (SsEQ : Sta Z Z.heap "com/example/moraine/moraine/model/Expression$Operator" "EQ" "Lcom/example/moraine/moraine/model/Expression$Operator;" (.ref sEQ)) (EsEQ : Exa Z Z.heap sEQ "com/example/moraine/moraine/model/Expression$Operator") (FsEQ : Fld Z Z.heap sEQ "java/lang/Enum" "ordinal" "I" (.int 0)) (SsIS_NULL : Sta Z Z.heap "com/example/moraine/moraine/model/Expression$Operator" "IS_NULL" "Lcom/example/moraine/moraine/model/Expression$Operator;" (.ref sIS_NULL)) (EsIS_NULL : Exa Z Z.heap sIS_NULL "com/example/moraine/moraine/model/Expression$Operator") (FsIS_NULL : Fld Z Z.heap sIS_NULL "java/lang/Enum" "ordinal" "I" (.int 6)) (SsNOT_NULL : Sta Z Z.heap "com/example/moraine/moraine/model/Expression$Operator" "NOT_NULL" "Lcom/example/moraine/moraine/model/Expression$Operator;" (.ref sNOT_NULL)) (EsNOT_NULL : Exa Z Z.heap sNOT_NULL "com/example/moraine/moraine/model/Expression$Operator") (FsNOT_NULL : Fld Z Z.heap sNOT_NULL "java/lang/Enum" "ordinal" "I" (.int 7)) (SsIN : Sta Z Z.heap "com/example/moraine/moraine/model/Expression$Operator" "IN" "Lcom/example/moraine/moraine/model/Expression$Operator;" (.ref sIN)) (EsIN : Exa Z Z.heap sIN "com/example/moraine/moraine/model/Expression$Operator") (FsIN : Fld Z Z.heap sIN "java/lang/Enum" "ordinal" "I" (.int 8)) (SsNOT_IN : Sta Z Z.heap "com/example/moraine/moraine/model/Expression$Operator" "NOT_IN" "Lcom/example/moraine/moraine/model/Expression$Operator;" (.ref sNOT_IN)) (EsNOT_IN : Exa Z Z.heap sNOT_IN "com/example/moraine/moraine/model/Expression$Operator") (FsNOT_IN : Fld Z Z.heap sNOT_IN "java/lang/Enum" "ordinal" "I" (.int 9)) (SsNE : Sta Z Z.heap "com/example/moraine/moraine/model/Expression$Operator" "NE" "Lcom/example/moraine/moraine/model/Expression$Operator;" (.ref sNE)) (EsNE : Exa Z Z.heap sNE "com/example/moraine/moraine/model/Expression$Operator") (FsNE : Fld Z Z.heap sNE "java/lang/Enum" "ordinal" "I" (.int 1)) (SsLE : Sta Z Z.heap "com/example/moraine/moraine/model/Expression$Operator" "LE" "Lcom/example/moraine/moraine/model/Expression$Operator;" (.ref sLE)) (EsLE : Exa Z Z.heap sLE "com/example/moraine/moraine/model/Expression$Operator") (FsLE : Fld Z Z.heap sLE "java/lang/Enum" "ordinal" "I" (.int 3)) (SsGT : Sta Z Z.heap "com/example/moraine/moraine/model/Expression$Operator" "GT" "Lcom/example/moraine/moraine/model/Expression$Operator;" (.ref sGT)) (EsGT : Exa Z Z.heap sGT "com/example/moraine/moraine/model/Expression$Operator") (FsGT : Fld Z Z.heap sGT "java/lang/Enum" "ordinal" "I" (.int 4)) (SsLT : Sta Z Z.heap "com/example/moraine/moraine/model/Expression$Operator" "LT" "Lcom/example/moraine/moraine/model/Expression$Operator;" (.ref sLT)) (EsLT : Exa Z Z.heap sLT "com/example/moraine/moraine/model/Expression$Operator") (FsLT : Fld Z Z.heap sLT "java/lang/Enum" "ordinal" "I" (.int 2)) (SsGE : Sta Z Z.heap "com/example/moraine/moraine/model/Expression$Operator" "GE" "Lcom/example/moraine/moraine/model/Expression$Operator;" (.ref sGE)) (EsGE : Exa Z Z.heap sGE "com/example/moraine/moraine/model/Expression$Operator") (FsGE : Fld Z Z.heap sGE "java/lang/Enum" "ordinal" "I" (.int 5)) :
    MetFree l (⟨"com/example/moraine/moraine/model/Expression$Operator", "literals", "()I"⟩ : MethodName) (head1 (Jvm.Cond.code (⟨"com/example/moraine/moraine/model/Expression$Operator", "literals", "()I"⟩ : MethodName) prog_66_method_5_code 1 (some .int) :: ws) ({ frames := 0, cells := 0, slots := 0, locals := 0 } : Room)) (fun aA uU => aA = #[(.ref sNE)] ∧ Z.Warmed39 uU.vm ∧ uU.heap = h0) (fun _ _ _ _ _ => True) (fun _ uU oO uU' => ∃ vV lL, oO = .returned vV ∧ Q_rmLit_NE Z sEQ sIS_NULL sNOT_NULL sIN sNOT_IN sNE sLE sGT sLT sGE h0 n0 vV uU'.heap lL ∧ FrameEnd uU oO uU' lL ({ frames := 0, cells := 0, slots := 0, locals := 0 } : Room).cells ({ frames := 0, cells := 0, slots := 0, locals := 0 } : Room).slots) := by
  refine MetFree.of_bodySF (plainFor_of_name pn_Expression_Operator) hisR ?_
  intro p e s m args below meth c s₁ Bd hml0 hP hK
  obtain ⟨rfl, hZ, hh⟩ := hP
  have hx := Bd.exec
  have hby := Bd.bytes
  have hml : c.maxLocals = 1 := hml0
  have hown : s.vm.findClass "com/example/moraine/moraine/model/Expression$Operator" = some m.cls := findClass_of_methodNamed Bd.named
  have hnm := (name_of_methodNamed Bd.named Bd.method).1
  have X0 : Stand p l e ({ frames := 0, cells := 0, slots := 0, locals := 0 } : Room) s m #[(.ref sNE)] below meth c s₁ [] 0 0 := Stand.of_body Bd
  have e0 : s₁.heap = h0 := by rw [← hh, Bd.state]; rfl
  have N0 := Fr.nil n0
  refine oEnter (oCast (ef_rmLit_NE m sNE ) ?_)
  show oGl p e below (s₁.setTop (mkF m 0 #[.val (.ref sNE)] [])) _
  refine saloadN X0 hx (hb hby d2_0) rfl rfl rfl (pc' := 1) ?_
  obtain ⟨T1, X1, e1, st1⟩ := getS2 X0 hx hZ hown (host := "") (Or.inl (hw _ (List.mem_of_getElem? (i := 14) rfl))) Via.refl e0 (SsIS_NULL.ext O0.2) (g := (mkF m 1 #[.val (.ref sNE)] [(.ref sNE)])) rfl (hb hby d2_1)
  refine oOn st1 ?_
  show oGl p e below (T1.setTop (mkF m 4 #[.val (.ref sNE)] [(.ref sIS_NULL), (.ref sNE)])) _
  refine oOn (fun _ kK => Jvm.RoadKit.acmp (g := (mkF m 4 #[.val (.ref sNE)] [(.ref sIS_NULL), (.ref sNE)])) X1 hx rfl rfl rfl (pc0 := 4) (pc' := 7) (same := false) rfl (hb hby d2_4) rfl (decide_eq_false fun q => (FsNE.ne FsIS_NULL (by decide)) (Value.ref.inj q)) (by decide) (by decide) kK) ?_
  show oGl p e below (T1.setTop (mkF m 7 #[.val (.ref sNE)] [])) _
  refine saloadN X1 hx (hb hby d2_7) rfl rfl rfl (pc' := 8) ?_
  obtain ⟨T2, X2, e2, st2⟩ := getS2 X1 hx hZ hown (host := "") (Or.inl (hw _ (List.mem_of_getElem? (i := 16) rfl))) Via.refl e1 (SsNOT_NULL.ext O0.2) (g := (mkF m 8 #[.val (.ref sNE)] [(.ref sNE)])) rfl (hb hby d2_8)
  refine oOn st2 ?_
  show oGl p e below (T2.setTop (mkF m 11 #[.val (.ref sNE)] [(.ref sNOT_NULL), (.ref sNE)])) _
  refine oOn (fun _ kK => Jvm.RoadKit.acmp (g := (mkF m 11 #[.val (.ref sNE)] [(.ref sNOT_NULL), (.ref sNE)])) X2 hx rfl rfl rfl (pc0 := 11) (pc' := 18) (same := false) rfl (hb hby d2_11) rfl (decide_eq_false fun q => (FsNE.ne FsNOT_NULL (by decide)) (Value.ref.inj q)) (by decide) (by decide) kK) ?_
  show oGl p e below (T2.setTop (mkF m 18 #[.val (.ref sNE)] [])) _
  refine saloadN X2 hx (hb hby d2_18) rfl rfl rfl (pc' := 19) ?_
  obtain ⟨T3, X3, e3, st3⟩ := getS2 X2 hx hZ hown (host := "") (Or.inl (hw _ (List.mem_of_getElem? (i := 18) rfl))) Via.refl e2 (SsIN.ext O0.2) (g := (mkF m 19 #[.val (.ref sNE)] [(.ref sNE)])) rfl (hb hby d2_19)
  refine oOn st3 ?_
  show oGl p e below (T3.setTop (mkF m 22 #[.val (.ref sNE)] [(.ref sIN), (.ref sNE)])) _
  refine oOn (fun _ kK => Jvm.RoadKit.acmp (g := (mkF m 22 #[.val (.ref sNE)] [(.ref sIN), (.ref sNE)])) X3 hx rfl rfl rfl (pc0 := 22) (pc' := 25) (same := false) rfl (hb hby d2_22) rfl (decide_eq_false fun q => (FsNE.ne FsIN (by decide)) (Value.ref.inj q)) (by decide) (by decide) kK) ?_
  show oGl p e below (T3.setTop (mkF m 25 #[.val (.ref sNE)] [])) _
  refine saloadN X3 hx (hb hby d2_25) rfl rfl rfl (pc' := 26) ?_
  obtain ⟨T4, X4, e4, st4⟩ := getS2 X3 hx hZ hown (host := "") (Or.inl (hw _ (List.mem_of_getElem? (i := 20) rfl))) Via.refl e3 (SsNOT_IN.ext O0.2) (g := (mkF m 26 #[.val (.ref sNE)] [(.ref sNE)])) rfl (hb hby d2_26)
  refine oOn st4 ?_
  show oGl p e below (T4.setTop (mkF m 29 #[.val (.ref sNE)] [(.ref sNOT_IN), (.ref sNE)])) _
  refine oOn (fun _ kK => Jvm.RoadKit.acmp (g := (mkF m 29 #[.val (.ref sNE)] [(.ref sNOT_IN), (.ref sNE)])) X4 hx rfl rfl rfl (pc0 := 29) (pc' := 36) (same := false) rfl (hb hby d2_29) rfl (decide_eq_false fun q => (FsNE.ne FsNOT_IN (by decide)) (Value.ref.inj q)) (by decide) (by decide) kK) ?_
  show oGl p e below (T4.setTop (mkF m 36 #[.val (.ref sNE)] [])) _
  refine siconst X4 hx (hb hby d2_36) rfl rfl (z := 1) (pc' := 37) ?_
  refine oRetI X4 hx Bd.notSynchronized Bd.returns (hb hby d2_37) (by decide) (by decide) ?_
  show Q_rmLit_NE Z sEQ sIS_NULL sNOT_NULL sIN sNOT_IN sNE sLE sGT sLT sGE h0 n0 _ T4.heap _
  rw [e4]
  exact ⟨rfl, N0, rfl⟩
theorem ef_rmLit_LT (m : MethodId) (x0 : Addr)  : entryFrame m #[(.ref x0)] 1 = mkF m 0 #[.val (.ref x0)] [] := by first | rfl | (simp [entryFrame, mkF, argsToLocals, Value.category, maxLocals]; done)
def Q_rmLit_LT (Z : State) (sEQ : Addr) (sIS_NULL : Addr) (sNOT_NULL : Addr) (sIN : Addr) (sNOT_IN : Addr) (sNE : Addr) (sLE : Addr) (sGT : Addr) (sLT : Addr) (sGE : Addr) (h0 : Heap) (n0 : Nat) (vv : Option Value) (h : Heap) (L : List Loc) : Prop := vv = some (.int (1)) ∧ Fr n0 L ∧ h = h0
set_option maxRecDepth 65536 in
set_option maxHeartbeats 40000000 in
theorem rmLit_LT (l : Launch) (Z : State) (a0 : Array Value) (hw : ∀ d ∈ tables_1, d.before a0 Z = true) (ws : List Jvm.Cond) (sEQ : Addr) (sIS_NULL : Addr) (sNOT_NULL : Addr) (sIN : Addr) (sNOT_IN : Addr) (sNE : Addr) (sLE : Addr) (sGT : Addr) (sLT : Addr) (sGE : Addr) (h0 : Heap) (n0 : Nat) (Z0 : n0 ≤ h0.size) (O0 : Old Z n0 h0) (SsEQ : Sta Z Z.heap "com/example/moraine/moraine/model/Expression$Operator" "EQ" "Lcom/example/moraine/moraine/model/Expression$Operator;" (.ref sEQ)) (EsEQ : Exa Z Z.heap sEQ "com/example/moraine/moraine/model/Expression$Operator") (FsEQ : Fld Z Z.heap sEQ "java/lang/Enum" "ordinal" "I" (.int 0)) (SsIS_NULL : Sta Z Z.heap "com/example/moraine/moraine/model/Expression$Operator" "IS_NULL" "Lcom/example/moraine/moraine/model/Expression$Operator;" (.ref sIS_NULL)) (EsIS_NULL : Exa Z Z.heap sIS_NULL "com/example/moraine/moraine/model/Expression$Operator") (FsIS_NULL : Fld Z Z.heap sIS_NULL "java/lang/Enum" "ordinal" "I" (.int 6)) (SsNOT_NULL : Sta Z Z.heap "com/example/moraine/moraine/model/Expression$Operator" "NOT_NULL" "Lcom/example/moraine/moraine/model/Expression$Operator;" (.ref sNOT_NULL)) (EsNOT_NULL : Exa Z Z.heap sNOT_NULL "com/example/moraine/moraine/model/Expression$Operator") (FsNOT_NULL : Fld Z Z.heap sNOT_NULL "java/lang/Enum" "ordinal" "I" (.int 7)) (SsIN : Sta Z Z.heap "com/example/moraine/moraine/model/Expression$Operator" "IN" "Lcom/example/moraine/moraine/model/Expression$Operator;" (.ref sIN)) (EsIN : Exa Z Z.heap sIN "com/example/moraine/moraine/model/Expression$Operator") (FsIN : Fld Z Z.heap sIN "java/lang/Enum" "ordinal" "I" (.int 8)) (SsNOT_IN : Sta Z Z.heap "com/example/moraine/moraine/model/Expression$Operator" "NOT_IN" "Lcom/example/moraine/moraine/model/Expression$Operator;" (.ref sNOT_IN)) (EsNOT_IN : Exa Z Z.heap sNOT_IN "com/example/moraine/moraine/model/Expression$Operator") (FsNOT_IN : Fld Z Z.heap sNOT_IN "java/lang/Enum" "ordinal" "I" (.int 9)) (SsNE : Sta Z Z.heap "com/example/moraine/moraine/model/Expression$Operator" "NE" "Lcom/example/moraine/moraine/model/Expression$Operator;" (.ref sNE)) (EsNE : Exa Z Z.heap sNE "com/example/moraine/moraine/model/Expression$Operator") (FsNE : Fld Z Z.heap sNE "java/lang/Enum" "ordinal" "I" (.int 1)) (SsLE : Sta Z Z.heap "com/example/moraine/moraine/model/Expression$Operator" "LE" "Lcom/example/moraine/moraine/model/Expression$Operator;" (.ref sLE)) (EsLE : Exa Z Z.heap sLE "com/example/moraine/moraine/model/Expression$Operator") (FsLE : Fld Z Z.heap sLE "java/lang/Enum" "ordinal" "I" (.int 3)) (SsGT : Sta Z Z.heap "com/example/moraine/moraine/model/Expression$Operator" "GT" "Lcom/example/moraine/moraine/model/Expression$Operator;" (.ref sGT)) (EsGT : Exa Z Z.heap sGT "com/example/moraine/moraine/model/Expression$Operator") (FsGT : Fld Z Z.heap sGT "java/lang/Enum" "ordinal" "I" (.int 4)) (SsLT : Sta Z Z.heap "com/example/moraine/moraine/model/Expression$Operator" "LT" "Lcom/example/moraine/moraine/model/Expression$Operator;" (.ref sLT)) (EsLT : Exa Z Z.heap sLT "com/example/moraine/moraine/model/Expression$Operator") (FsLT : Fld Z Z.heap sLT "java/lang/Enum" "ordinal" "I" (.int 2)) (SsGE : Sta Z Z.heap "com/example/moraine/moraine/model/Expression$Operator" "GE" "Lcom/example/moraine/moraine/model/Expression$Operator;" (.ref sGE)) (EsGE : Exa Z Z.heap sGE "com/example/moraine/moraine/model/Expression$Operator") (FsGE : Fld Z Z.heap sGE "java/lang/Enum" "ordinal" "I" (.int 5)) :
    MetFree l (⟨"com/example/moraine/moraine/model/Expression$Operator", "literals", "()I"⟩ : MethodName) (head1 (Jvm.Cond.code (⟨"com/example/moraine/moraine/model/Expression$Operator", "literals", "()I"⟩ : MethodName) prog_66_method_5_code 1 (some .int) :: ws) ({ frames := 0, cells := 0, slots := 0, locals := 0 } : Room)) (fun aA uU => aA = #[(.ref sLT)] ∧ Z.Warmed39 uU.vm ∧ uU.heap = h0) (fun _ _ _ _ _ => True) (fun _ uU oO uU' => ∃ vV lL, oO = .returned vV ∧ Q_rmLit_LT Z sEQ sIS_NULL sNOT_NULL sIN sNOT_IN sNE sLE sGT sLT sGE h0 n0 vV uU'.heap lL ∧ FrameEnd uU oO uU' lL ({ frames := 0, cells := 0, slots := 0, locals := 0 } : Room).cells ({ frames := 0, cells := 0, slots := 0, locals := 0 } : Room).slots) := by
  refine MetFree.of_bodySF (plainFor_of_name pn_Expression_Operator) hisR ?_
  intro p e s m args below meth c s₁ Bd hml0 hP hK
  obtain ⟨rfl, hZ, hh⟩ := hP
  have hx := Bd.exec
  have hby := Bd.bytes
  have hml : c.maxLocals = 1 := hml0
  have hown : s.vm.findClass "com/example/moraine/moraine/model/Expression$Operator" = some m.cls := findClass_of_methodNamed Bd.named
  have hnm := (name_of_methodNamed Bd.named Bd.method).1
  have X0 : Stand p l e ({ frames := 0, cells := 0, slots := 0, locals := 0 } : Room) s m #[(.ref sLT)] below meth c s₁ [] 0 0 := Stand.of_body Bd
  have e0 : s₁.heap = h0 := by rw [← hh, Bd.state]; rfl
  have N0 := Fr.nil n0
  refine oEnter (oCast (ef_rmLit_LT m sLT ) ?_)
  show oGl p e below (s₁.setTop (mkF m 0 #[.val (.ref sLT)] [])) _
  refine saloadN X0 hx (hb hby d2_0) rfl rfl rfl (pc' := 1) ?_
  obtain ⟨T1, X1, e1, st1⟩ := getS2 X0 hx hZ hown (host := "") (Or.inl (hw _ (List.mem_of_getElem? (i := 14) rfl))) Via.refl e0 (SsIS_NULL.ext O0.2) (g := (mkF m 1 #[.val (.ref sLT)] [(.ref sLT)])) rfl (hb hby d2_1)
  refine oOn st1 ?_
  show oGl p e below (T1.setTop (mkF m 4 #[.val (.ref sLT)] [(.ref sIS_NULL), (.ref sLT)])) _
  refine oOn (fun _ kK => Jvm.RoadKit.acmp (g := (mkF m 4 #[.val (.ref sLT)] [(.ref sIS_NULL), (.ref sLT)])) X1 hx rfl rfl rfl (pc0 := 4) (pc' := 7) (same := false) rfl (hb hby d2_4) rfl (decide_eq_false fun q => (FsLT.ne FsIS_NULL (by decide)) (Value.ref.inj q)) (by decide) (by decide) kK) ?_
  show oGl p e below (T1.setTop (mkF m 7 #[.val (.ref sLT)] [])) _
  refine saloadN X1 hx (hb hby d2_7) rfl rfl rfl (pc' := 8) ?_
  obtain ⟨T2, X2, e2, st2⟩ := getS2 X1 hx hZ hown (host := "") (Or.inl (hw _ (List.mem_of_getElem? (i := 16) rfl))) Via.refl e1 (SsNOT_NULL.ext O0.2) (g := (mkF m 8 #[.val (.ref sLT)] [(.ref sLT)])) rfl (hb hby d2_8)
  refine oOn st2 ?_
  show oGl p e below (T2.setTop (mkF m 11 #[.val (.ref sLT)] [(.ref sNOT_NULL), (.ref sLT)])) _
  refine oOn (fun _ kK => Jvm.RoadKit.acmp (g := (mkF m 11 #[.val (.ref sLT)] [(.ref sNOT_NULL), (.ref sLT)])) X2 hx rfl rfl rfl (pc0 := 11) (pc' := 18) (same := false) rfl (hb hby d2_11) rfl (decide_eq_false fun q => (FsLT.ne FsNOT_NULL (by decide)) (Value.ref.inj q)) (by decide) (by decide) kK) ?_
  show oGl p e below (T2.setTop (mkF m 18 #[.val (.ref sLT)] [])) _
  refine saloadN X2 hx (hb hby d2_18) rfl rfl rfl (pc' := 19) ?_
  obtain ⟨T3, X3, e3, st3⟩ := getS2 X2 hx hZ hown (host := "") (Or.inl (hw _ (List.mem_of_getElem? (i := 18) rfl))) Via.refl e2 (SsIN.ext O0.2) (g := (mkF m 19 #[.val (.ref sLT)] [(.ref sLT)])) rfl (hb hby d2_19)
  refine oOn st3 ?_
  show oGl p e below (T3.setTop (mkF m 22 #[.val (.ref sLT)] [(.ref sIN), (.ref sLT)])) _
  refine oOn (fun _ kK => Jvm.RoadKit.acmp (g := (mkF m 22 #[.val (.ref sLT)] [(.ref sIN), (.ref sLT)])) X3 hx rfl rfl rfl (pc0 := 22) (pc' := 25) (same := false) rfl (hb hby d2_22) rfl (decide_eq_false fun q => (FsLT.ne FsIN (by decide)) (Value.ref.inj q)) (by decide) (by decide) kK) ?_
  show oGl p e below (T3.setTop (mkF m 25 #[.val (.ref sLT)] [])) _
  refine saloadN X3 hx (hb hby d2_25) rfl rfl rfl (pc' := 26) ?_
  obtain ⟨T4, X4, e4, st4⟩ := getS2 X3 hx hZ hown (host := "") (Or.inl (hw _ (List.mem_of_getElem? (i := 20) rfl))) Via.refl e3 (SsNOT_IN.ext O0.2) (g := (mkF m 26 #[.val (.ref sLT)] [(.ref sLT)])) rfl (hb hby d2_26)
  refine oOn st4 ?_
  show oGl p e below (T4.setTop (mkF m 29 #[.val (.ref sLT)] [(.ref sNOT_IN), (.ref sLT)])) _
  refine oOn (fun _ kK => Jvm.RoadKit.acmp (g := (mkF m 29 #[.val (.ref sLT)] [(.ref sNOT_IN), (.ref sLT)])) X4 hx rfl rfl rfl (pc0 := 29) (pc' := 36) (same := false) rfl (hb hby d2_29) rfl (decide_eq_false fun q => (FsLT.ne FsNOT_IN (by decide)) (Value.ref.inj q)) (by decide) (by decide) kK) ?_
  show oGl p e below (T4.setTop (mkF m 36 #[.val (.ref sLT)] [])) _
  refine siconst X4 hx (hb hby d2_36) rfl rfl (z := 1) (pc' := 37) ?_
  refine oRetI X4 hx Bd.notSynchronized Bd.returns (hb hby d2_37) (by decide) (by decide) ?_
  show Q_rmLit_LT Z sEQ sIS_NULL sNOT_NULL sIN sNOT_IN sNE sLE sGT sLT sGE h0 n0 _ T4.heap _
  rw [e4]
  exact ⟨rfl, N0, rfl⟩
theorem ef_rmLit_LE (m : MethodId) (x0 : Addr)  : entryFrame m #[(.ref x0)] 1 = mkF m 0 #[.val (.ref x0)] [] := by first | rfl | (simp [entryFrame, mkF, argsToLocals, Value.category, maxLocals]; done)
def Q_rmLit_LE (Z : State) (sEQ : Addr) (sIS_NULL : Addr) (sNOT_NULL : Addr) (sIN : Addr) (sNOT_IN : Addr) (sNE : Addr) (sLE : Addr) (sGT : Addr) (sLT : Addr) (sGE : Addr) (h0 : Heap) (n0 : Nat) (vv : Option Value) (h : Heap) (L : List Loc) : Prop := vv = some (.int (1)) ∧ Fr n0 L ∧ h = h0
set_option maxRecDepth 65536 in
set_option maxHeartbeats 40000000 in
theorem rmLit_LE (l : Launch) (Z : State) (a0 : Array Value) (hw : ∀ d ∈ tables_1, d.before a0 Z = true) (ws : List Jvm.Cond) (sEQ : Addr) (sIS_NULL : Addr) (sNOT_NULL : Addr) (sIN : Addr) (sNOT_IN : Addr) (sNE : Addr) (sLE : Addr) (sGT : Addr) (sLT : Addr) (sGE : Addr) (h0 : Heap) (n0 : Nat) (Z0 : n0 ≤ h0.size) (O0 : Old Z n0 h0) (SsEQ : Sta Z Z.heap "com/example/moraine/moraine/model/Expression$Operator" "EQ" "Lcom/example/moraine/moraine/model/Expression$Operator;" (.ref sEQ)) (EsEQ : Exa Z Z.heap sEQ "com/example/moraine/moraine/model/Expression$Operator") (FsEQ : Fld Z Z.heap sEQ "java/lang/Enum" "ordinal" "I" (.int 0)) (SsIS_NULL : Sta Z Z.heap "com/example/moraine/moraine/model/Expression$Operator" "IS_NULL" "Lcom/example/moraine/moraine/model/Expression$Operator;" (.ref sIS_NULL)) (EsIS_NULL : Exa Z Z.heap sIS_NULL "com/example/moraine/moraine/model/Expression$Operator") (FsIS_NULL : Fld Z Z.heap sIS_NULL "java/lang/Enum" "ordinal" "I" (.int 6)) (SsNOT_NULL : Sta Z Z.heap "com/example/moraine/moraine/model/Expression$Operator" "NOT_NULL" "Lcom/example/moraine/moraine/model/Expression$Operator;" (.ref sNOT_NULL)) (EsNOT_NULL : Exa Z Z.heap sNOT_NULL "com/example/moraine/moraine/model/Expression$Operator") (FsNOT_NULL : Fld Z Z.heap sNOT_NULL "java/lang/Enum" "ordinal" "I" (.int 7)) (SsIN : Sta Z Z.heap "com/example/moraine/moraine/model/Expression$Operator" "IN" "Lcom/example/moraine/moraine/model/Expression$Operator;" (.ref sIN)) (EsIN : Exa Z Z.heap sIN "com/example/moraine/moraine/model/Expression$Operator") (FsIN : Fld Z Z.heap sIN "java/lang/Enum" "ordinal" "I" (.int 8)) (SsNOT_IN : Sta Z Z.heap "com/example/moraine/moraine/model/Expression$Operator" "NOT_IN" "Lcom/example/moraine/moraine/model/Expression$Operator;" (.ref sNOT_IN)) (EsNOT_IN : Exa Z Z.heap sNOT_IN "com/example/moraine/moraine/model/Expression$Operator") (FsNOT_IN : Fld Z Z.heap sNOT_IN "java/lang/Enum" "ordinal" "I" (.int 9)) (SsNE : Sta Z Z.heap "com/example/moraine/moraine/model/Expression$Operator" "NE" "Lcom/example/moraine/moraine/model/Expression$Operator;" (.ref sNE)) (EsNE : Exa Z Z.heap sNE "com/example/moraine/moraine/model/Expression$Operator") (FsNE : Fld Z Z.heap sNE "java/lang/Enum" "ordinal" "I" (.int 1)) (SsLE : Sta Z Z.heap "com/example/moraine/moraine/model/Expression$Operator" "LE" "Lcom/example/moraine/moraine/model/Expression$Operator;" (.ref sLE)) (EsLE : Exa Z Z.heap sLE "com/example/moraine/moraine/model/Expression$Operator") (FsLE : Fld Z Z.heap sLE "java/lang/Enum" "ordinal" "I" (.int 3)) (SsGT : Sta Z Z.heap "com/example/moraine/moraine/model/Expression$Operator" "GT" "Lcom/example/moraine/moraine/model/Expression$Operator;" (.ref sGT)) (EsGT : Exa Z Z.heap sGT "com/example/moraine/moraine/model/Expression$Operator") (FsGT : Fld Z Z.heap sGT "java/lang/Enum" "ordinal" "I" (.int 4)) (SsLT : Sta Z Z.heap "com/example/moraine/moraine/model/Expression$Operator" "LT" "Lcom/example/moraine/moraine/model/Expression$Operator;" (.ref sLT)) (EsLT : Exa Z Z.heap sLT "com/example/moraine/moraine/model/Expression$Operator") (FsLT : Fld Z Z.heap sLT "java/lang/Enum" "ordinal" "I" (.int 2)) (SsGE : Sta Z Z.heap "com/example/moraine/moraine/model/Expression$Operator" "GE" "Lcom/example/moraine/moraine/model/Expression$Operator;" (.ref sGE)) (EsGE : Exa Z Z.heap sGE "com/example/moraine/moraine/model/Expression$Operator") (FsGE : Fld Z Z.heap sGE "java/lang/Enum" "ordinal" "I" (.int 5)) :
    MetFree l (⟨"com/example/moraine/moraine/model/Expression$Operator", "literals", "()I"⟩ : MethodName) (head1 (Jvm.Cond.code (⟨"com/example/moraine/moraine/model/Expression$Operator", "literals", "()I"⟩ : MethodName) prog_66_method_5_code 1 (some .int) :: ws) ({ frames := 0, cells := 0, slots := 0, locals := 0 } : Room)) (fun aA uU => aA = #[(.ref sLE)] ∧ Z.Warmed39 uU.vm ∧ uU.heap = h0) (fun _ _ _ _ _ => True) (fun _ uU oO uU' => ∃ vV lL, oO = .returned vV ∧ Q_rmLit_LE Z sEQ sIS_NULL sNOT_NULL sIN sNOT_IN sNE sLE sGT sLT sGE h0 n0 vV uU'.heap lL ∧ FrameEnd uU oO uU' lL ({ frames := 0, cells := 0, slots := 0, locals := 0 } : Room).cells ({ frames := 0, cells := 0, slots := 0, locals := 0 } : Room).slots) := by
  refine MetFree.of_bodySF (plainFor_of_name pn_Expression_Operator) hisR ?_
  intro p e s m args below meth c s₁ Bd hml0 hP hK
  obtain ⟨rfl, hZ, hh⟩ := hP
  have hx := Bd.exec
  have hby := Bd.bytes
  have hml : c.maxLocals = 1 := hml0
  have hown : s.vm.findClass "com/example/moraine/moraine/model/Expression$Operator" = some m.cls := findClass_of_methodNamed Bd.named
  have hnm := (name_of_methodNamed Bd.named Bd.method).1
  have X0 : Stand p l e ({ frames := 0, cells := 0, slots := 0, locals := 0 } : Room) s m #[(.ref sLE)] below meth c s₁ [] 0 0 := Stand.of_body Bd
  have e0 : s₁.heap = h0 := by rw [← hh, Bd.state]; rfl
  have N0 := Fr.nil n0
  refine oEnter (oCast (ef_rmLit_LE m sLE ) ?_)
  show oGl p e below (s₁.setTop (mkF m 0 #[.val (.ref sLE)] [])) _
  refine saloadN X0 hx (hb hby d2_0) rfl rfl rfl (pc' := 1) ?_
  obtain ⟨T1, X1, e1, st1⟩ := getS2 X0 hx hZ hown (host := "") (Or.inl (hw _ (List.mem_of_getElem? (i := 14) rfl))) Via.refl e0 (SsIS_NULL.ext O0.2) (g := (mkF m 1 #[.val (.ref sLE)] [(.ref sLE)])) rfl (hb hby d2_1)
  refine oOn st1 ?_
  show oGl p e below (T1.setTop (mkF m 4 #[.val (.ref sLE)] [(.ref sIS_NULL), (.ref sLE)])) _
  refine oOn (fun _ kK => Jvm.RoadKit.acmp (g := (mkF m 4 #[.val (.ref sLE)] [(.ref sIS_NULL), (.ref sLE)])) X1 hx rfl rfl rfl (pc0 := 4) (pc' := 7) (same := false) rfl (hb hby d2_4) rfl (decide_eq_false fun q => (FsLE.ne FsIS_NULL (by decide)) (Value.ref.inj q)) (by decide) (by decide) kK) ?_
  show oGl p e below (T1.setTop (mkF m 7 #[.val (.ref sLE)] [])) _
  refine saloadN X1 hx (hb hby d2_7) rfl rfl rfl (pc' := 8) ?_
  obtain ⟨T2, X2, e2, st2⟩ := getS2 X1 hx hZ hown (host := "") (Or.inl (hw _ (List.mem_of_getElem? (i := 16) rfl))) Via.refl e1 (SsNOT_NULL.ext O0.2) (g := (mkF m 8 #[.val (.ref sLE)] [(.ref sLE)])) rfl (hb hby d2_8)
  refine oOn st2 ?_
  show oGl p e below (T2.setTop (mkF m 11 #[.val (.ref sLE)] [(.ref sNOT_NULL), (.ref sLE)])) _
  refine oOn (fun _ kK => Jvm.RoadKit.acmp (g := (mkF m 11 #[.val (.ref sLE)] [(.ref sNOT_NULL), (.ref sLE)])) X2 hx rfl rfl rfl (pc0 := 11) (pc' := 18) (same := false) rfl (hb hby d2_11) rfl (decide_eq_false fun q => (FsLE.ne FsNOT_NULL (by decide)) (Value.ref.inj q)) (by decide) (by decide) kK) ?_
  show oGl p e below (T2.setTop (mkF m 18 #[.val (.ref sLE)] [])) _
  refine saloadN X2 hx (hb hby d2_18) rfl rfl rfl (pc' := 19) ?_
  obtain ⟨T3, X3, e3, st3⟩ := getS2 X2 hx hZ hown (host := "") (Or.inl (hw _ (List.mem_of_getElem? (i := 18) rfl))) Via.refl e2 (SsIN.ext O0.2) (g := (mkF m 19 #[.val (.ref sLE)] [(.ref sLE)])) rfl (hb hby d2_19)
  refine oOn st3 ?_
  show oGl p e below (T3.setTop (mkF m 22 #[.val (.ref sLE)] [(.ref sIN), (.ref sLE)])) _
  refine oOn (fun _ kK => Jvm.RoadKit.acmp (g := (mkF m 22 #[.val (.ref sLE)] [(.ref sIN), (.ref sLE)])) X3 hx rfl rfl rfl (pc0 := 22) (pc' := 25) (same := false) rfl (hb hby d2_22) rfl (decide_eq_false fun q => (FsLE.ne FsIN (by decide)) (Value.ref.inj q)) (by decide) (by decide) kK) ?_
  show oGl p e below (T3.setTop (mkF m 25 #[.val (.ref sLE)] [])) _
  refine saloadN X3 hx (hb hby d2_25) rfl rfl rfl (pc' := 26) ?_
  obtain ⟨T4, X4, e4, st4⟩ := getS2 X3 hx hZ hown (host := "") (Or.inl (hw _ (List.mem_of_getElem? (i := 20) rfl))) Via.refl e3 (SsNOT_IN.ext O0.2) (g := (mkF m 26 #[.val (.ref sLE)] [(.ref sLE)])) rfl (hb hby d2_26)
  refine oOn st4 ?_
  show oGl p e below (T4.setTop (mkF m 29 #[.val (.ref sLE)] [(.ref sNOT_IN), (.ref sLE)])) _
  refine oOn (fun _ kK => Jvm.RoadKit.acmp (g := (mkF m 29 #[.val (.ref sLE)] [(.ref sNOT_IN), (.ref sLE)])) X4 hx rfl rfl rfl (pc0 := 29) (pc' := 36) (same := false) rfl (hb hby d2_29) rfl (decide_eq_false fun q => (FsLE.ne FsNOT_IN (by decide)) (Value.ref.inj q)) (by decide) (by decide) kK) ?_
  show oGl p e below (T4.setTop (mkF m 36 #[.val (.ref sLE)] [])) _
  refine siconst X4 hx (hb hby d2_36) rfl rfl (z := 1) (pc' := 37) ?_
  refine oRetI X4 hx Bd.notSynchronized Bd.returns (hb hby d2_37) (by decide) (by decide) ?_
  show Q_rmLit_LE Z sEQ sIS_NULL sNOT_NULL sIN sNOT_IN sNE sLE sGT sLT sGE h0 n0 _ T4.heap _
  rw [e4]
  exact ⟨rfl, N0, rfl⟩
theorem ef_rmLit_GT (m : MethodId) (x0 : Addr)  : entryFrame m #[(.ref x0)] 1 = mkF m 0 #[.val (.ref x0)] [] := by first | rfl | (simp [entryFrame, mkF, argsToLocals, Value.category, maxLocals]; done)
def Q_rmLit_GT (Z : State) (sEQ : Addr) (sIS_NULL : Addr) (sNOT_NULL : Addr) (sIN : Addr) (sNOT_IN : Addr) (sNE : Addr) (sLE : Addr) (sGT : Addr) (sLT : Addr) (sGE : Addr) (h0 : Heap) (n0 : Nat) (vv : Option Value) (h : Heap) (L : List Loc) : Prop := vv = some (.int (1)) ∧ Fr n0 L ∧ h = h0
set_option maxRecDepth 65536 in
set_option maxHeartbeats 40000000 in
theorem rmLit_GT (l : Launch) (Z : State) (a0 : Array Value) (hw : ∀ d ∈ tables_1, d.before a0 Z = true) (ws : List Jvm.Cond) (sEQ : Addr) (sIS_NULL : Addr) (sNOT_NULL : Addr) (sIN : Addr) (sNOT_IN : Addr) (sNE : Addr) (sLE : Addr) (sGT : Addr) (sLT : Addr) (sGE : Addr) (h0 : Heap) (n0 : Nat) (Z0 : n0 ≤ h0.size) (O0 : Old Z n0 h0) (SsEQ : Sta Z Z.heap "com/example/moraine/moraine/model/Expression$Operator" "EQ" "Lcom/example/moraine/moraine/model/Expression$Operator;" (.ref sEQ)) (EsEQ : Exa Z Z.heap sEQ "com/example/moraine/moraine/model/Expression$Operator") (FsEQ : Fld Z Z.heap sEQ "java/lang/Enum" "ordinal" "I" (.int 0)) (SsIS_NULL : Sta Z Z.heap "com/example/moraine/moraine/model/Expression$Operator" "IS_NULL" "Lcom/example/moraine/moraine/model/Expression$Operator;" (.ref sIS_NULL)) (EsIS_NULL : Exa Z Z.heap sIS_NULL "com/example/moraine/moraine/model/Expression$Operator") (FsIS_NULL : Fld Z Z.heap sIS_NULL "java/lang/Enum" "ordinal" "I" (.int 6)) (SsNOT_NULL : Sta Z Z.heap "com/example/moraine/moraine/model/Expression$Operator" "NOT_NULL" "Lcom/example/moraine/moraine/model/Expression$Operator;" (.ref sNOT_NULL)) (EsNOT_NULL : Exa Z Z.heap sNOT_NULL "com/example/moraine/moraine/model/Expression$Operator") (FsNOT_NULL : Fld Z Z.heap sNOT_NULL "java/lang/Enum" "ordinal" "I" (.int 7)) (SsIN : Sta Z Z.heap "com/example/moraine/moraine/model/Expression$Operator" "IN" "Lcom/example/moraine/moraine/model/Expression$Operator;" (.ref sIN)) (EsIN : Exa Z Z.heap sIN "com/example/moraine/moraine/model/Expression$Operator") (FsIN : Fld Z Z.heap sIN "java/lang/Enum" "ordinal" "I" (.int 8)) (SsNOT_IN : Sta Z Z.heap "com/example/moraine/moraine/model/Expression$Operator" "NOT_IN" "Lcom/example/moraine/moraine/model/Expression$Operator;" (.ref sNOT_IN)) (EsNOT_IN : Exa Z Z.heap sNOT_IN "com/example/moraine/moraine/model/Expression$Operator") (FsNOT_IN : Fld Z Z.heap sNOT_IN "java/lang/Enum" "ordinal" "I" (.int 9)) (SsNE : Sta Z Z.heap "com/example/moraine/moraine/model/Expression$Operator" "NE" "Lcom/example/moraine/moraine/model/Expression$Operator;" (.ref sNE)) (EsNE : Exa Z Z.heap sNE "com/example/moraine/moraine/model/Expression$Operator") (FsNE : Fld Z Z.heap sNE "java/lang/Enum" "ordinal" "I" (.int 1)) (SsLE : Sta Z Z.heap "com/example/moraine/moraine/model/Expression$Operator" "LE" "Lcom/example/moraine/moraine/model/Expression$Operator;" (.ref sLE)) (EsLE : Exa Z Z.heap sLE "com/example/moraine/moraine/model/Expression$Operator") (FsLE : Fld Z Z.heap sLE "java/lang/Enum" "ordinal" "I" (.int 3)) (SsGT : Sta Z Z.heap "com/example/moraine/moraine/model/Expression$Operator" "GT" "Lcom/example/moraine/moraine/model/Expression$Operator;" (.ref sGT)) (EsGT : Exa Z Z.heap sGT "com/example/moraine/moraine/model/Expression$Operator") (FsGT : Fld Z Z.heap sGT "java/lang/Enum" "ordinal" "I" (.int 4)) (SsLT : Sta Z Z.heap "com/example/moraine/moraine/model/Expression$Operator" "LT" "Lcom/example/moraine/moraine/model/Expression$Operator;" (.ref sLT)) (EsLT : Exa Z Z.heap sLT "com/example/moraine/moraine/model/Expression$Operator") (FsLT : Fld Z Z.heap sLT "java/lang/Enum" "ordinal" "I" (.int 2)) (SsGE : Sta Z Z.heap "com/example/moraine/moraine/model/Expression$Operator" "GE" "Lcom/example/moraine/moraine/model/Expression$Operator;" (.ref sGE)) (EsGE : Exa Z Z.heap sGE "com/example/moraine/moraine/model/Expression$Operator") (FsGE : Fld Z Z.heap sGE "java/lang/Enum" "ordinal" "I" (.int 5)) :
    MetFree l (⟨"com/example/moraine/moraine/model/Expression$Operator", "literals", "()I"⟩ : MethodName) (head1 (Jvm.Cond.code (⟨"com/example/moraine/moraine/model/Expression$Operator", "literals", "()I"⟩ : MethodName) prog_66_method_5_code 1 (some .int) :: ws) ({ frames := 0, cells := 0, slots := 0, locals := 0 } : Room)) (fun aA uU => aA = #[(.ref sGT)] ∧ Z.Warmed39 uU.vm ∧ uU.heap = h0) (fun _ _ _ _ _ => True) (fun _ uU oO uU' => ∃ vV lL, oO = .returned vV ∧ Q_rmLit_GT Z sEQ sIS_NULL sNOT_NULL sIN sNOT_IN sNE sLE sGT sLT sGE h0 n0 vV uU'.heap lL ∧ FrameEnd uU oO uU' lL ({ frames := 0, cells := 0, slots := 0, locals := 0 } : Room).cells ({ frames := 0, cells := 0, slots := 0, locals := 0 } : Room).slots) := by
  refine MetFree.of_bodySF (plainFor_of_name pn_Expression_Operator) hisR ?_
  intro p e s m args below meth c s₁ Bd hml0 hP hK
  obtain ⟨rfl, hZ, hh⟩ := hP
  have hx := Bd.exec
  have hby := Bd.bytes
  have hml : c.maxLocals = 1 := hml0
  have hown : s.vm.findClass "com/example/moraine/moraine/model/Expression$Operator" = some m.cls := findClass_of_methodNamed Bd.named
  have hnm := (name_of_methodNamed Bd.named Bd.method).1
  have X0 : Stand p l e ({ frames := 0, cells := 0, slots := 0, locals := 0 } : Room) s m #[(.ref sGT)] below meth c s₁ [] 0 0 := Stand.of_body Bd
  have e0 : s₁.heap = h0 := by rw [← hh, Bd.state]; rfl
  have N0 := Fr.nil n0
  refine oEnter (oCast (ef_rmLit_GT m sGT ) ?_)
  show oGl p e below (s₁.setTop (mkF m 0 #[.val (.ref sGT)] [])) _
  refine saloadN X0 hx (hb hby d2_0) rfl rfl rfl (pc' := 1) ?_
  obtain ⟨T1, X1, e1, st1⟩ := getS2 X0 hx hZ hown (host := "") (Or.inl (hw _ (List.mem_of_getElem? (i := 14) rfl))) Via.refl e0 (SsIS_NULL.ext O0.2) (g := (mkF m 1 #[.val (.ref sGT)] [(.ref sGT)])) rfl (hb hby d2_1)
  refine oOn st1 ?_
  show oGl p e below (T1.setTop (mkF m 4 #[.val (.ref sGT)] [(.ref sIS_NULL), (.ref sGT)])) _
  refine oOn (fun _ kK => Jvm.RoadKit.acmp (g := (mkF m 4 #[.val (.ref sGT)] [(.ref sIS_NULL), (.ref sGT)])) X1 hx rfl rfl rfl (pc0 := 4) (pc' := 7) (same := false) rfl (hb hby d2_4) rfl (decide_eq_false fun q => (FsGT.ne FsIS_NULL (by decide)) (Value.ref.inj q)) (by decide) (by decide) kK) ?_
  show oGl p e below (T1.setTop (mkF m 7 #[.val (.ref sGT)] [])) _
  refine saloadN X1 hx (hb hby d2_7) rfl rfl rfl (pc' := 8) ?_
  obtain ⟨T2, X2, e2, st2⟩ := getS2 X1 hx hZ hown (host := "") (Or.inl (hw _ (List.mem_of_getElem? (i := 16) rfl))) Via.refl e1 (SsNOT_NULL.ext O0.2) (g := (mkF m 8 #[.val (.ref sGT)] [(.ref sGT)])) rfl (hb hby d2_8)
  refine oOn st2 ?_
  show oGl p e below (T2.setTop (mkF m 11 #[.val (.ref sGT)] [(.ref sNOT_NULL), (.ref sGT)])) _
  refine oOn (fun _ kK => Jvm.RoadKit.acmp (g := (mkF m 11 #[.val (.ref sGT)] [(.ref sNOT_NULL), (.ref sGT)])) X2 hx rfl rfl rfl (pc0 := 11) (pc' := 18) (same := false) rfl (hb hby d2_11) rfl (decide_eq_false fun q => (FsGT.ne FsNOT_NULL (by decide)) (Value.ref.inj q)) (by decide) (by decide) kK) ?_
  show oGl p e below (T2.setTop (mkF m 18 #[.val (.ref sGT)] [])) _
  refine saloadN X2 hx (hb hby d2_18) rfl rfl rfl (pc' := 19) ?_
  obtain ⟨T3, X3, e3, st3⟩ := getS2 X2 hx hZ hown (host := "") (Or.inl (hw _ (List.mem_of_getElem? (i := 18) rfl))) Via.refl e2 (SsIN.ext O0.2) (g := (mkF m 19 #[.val (.ref sGT)] [(.ref sGT)])) rfl (hb hby d2_19)
  refine oOn st3 ?_
  show oGl p e below (T3.setTop (mkF m 22 #[.val (.ref sGT)] [(.ref sIN), (.ref sGT)])) _
  refine oOn (fun _ kK => Jvm.RoadKit.acmp (g := (mkF m 22 #[.val (.ref sGT)] [(.ref sIN), (.ref sGT)])) X3 hx rfl rfl rfl (pc0 := 22) (pc' := 25) (same := false) rfl (hb hby d2_22) rfl (decide_eq_false fun q => (FsGT.ne FsIN (by decide)) (Value.ref.inj q)) (by decide) (by decide) kK) ?_
  show oGl p e below (T3.setTop (mkF m 25 #[.val (.ref sGT)] [])) _
  refine saloadN X3 hx (hb hby d2_25) rfl rfl rfl (pc' := 26) ?_
  obtain ⟨T4, X4, e4, st4⟩ := getS2 X3 hx hZ hown (host := "") (Or.inl (hw _ (List.mem_of_getElem? (i := 20) rfl))) Via.refl e3 (SsNOT_IN.ext O0.2) (g := (mkF m 26 #[.val (.ref sGT)] [(.ref sGT)])) rfl (hb hby d2_26)
  refine oOn st4 ?_
  show oGl p e below (T4.setTop (mkF m 29 #[.val (.ref sGT)] [(.ref sNOT_IN), (.ref sGT)])) _
  refine oOn (fun _ kK => Jvm.RoadKit.acmp (g := (mkF m 29 #[.val (.ref sGT)] [(.ref sNOT_IN), (.ref sGT)])) X4 hx rfl rfl rfl (pc0 := 29) (pc' := 36) (same := false) rfl (hb hby d2_29) rfl (decide_eq_false fun q => (FsGT.ne FsNOT_IN (by decide)) (Value.ref.inj q)) (by decide) (by decide) kK) ?_
  show oGl p e below (T4.setTop (mkF m 36 #[.val (.ref sGT)] [])) _
  refine siconst X4 hx (hb hby d2_36) rfl rfl (z := 1) (pc' := 37) ?_
  refine oRetI X4 hx Bd.notSynchronized Bd.returns (hb hby d2_37) (by decide) (by decide) ?_
  show Q_rmLit_GT Z sEQ sIS_NULL sNOT_NULL sIN sNOT_IN sNE sLE sGT sLT sGE h0 n0 _ T4.heap _
  rw [e4]
  exact ⟨rfl, N0, rfl⟩
theorem ef_rmLit_GE (m : MethodId) (x0 : Addr)  : entryFrame m #[(.ref x0)] 1 = mkF m 0 #[.val (.ref x0)] [] := by first | rfl | (simp [entryFrame, mkF, argsToLocals, Value.category, maxLocals]; done)
def Q_rmLit_GE (Z : State) (sEQ : Addr) (sIS_NULL : Addr) (sNOT_NULL : Addr) (sIN : Addr) (sNOT_IN : Addr) (sNE : Addr) (sLE : Addr) (sGT : Addr) (sLT : Addr) (sGE : Addr) (h0 : Heap) (n0 : Nat) (vv : Option Value) (h : Heap) (L : List Loc) : Prop := vv = some (.int (1)) ∧ Fr n0 L ∧ h = h0
set_option maxRecDepth 65536 in
set_option maxHeartbeats 40000000 in
theorem rmLit_GE (l : Launch) (Z : State) (a0 : Array Value) (hw : ∀ d ∈ tables_1, d.before a0 Z = true) (ws : List Jvm.Cond) (sEQ : Addr) (sIS_NULL : Addr) (sNOT_NULL : Addr) (sIN : Addr) (sNOT_IN : Addr) (sNE : Addr) (sLE : Addr) (sGT : Addr) (sLT : Addr) (sGE : Addr) (h0 : Heap) (n0 : Nat) (Z0 : n0 ≤ h0.size) (O0 : Old Z n0 h0) (SsEQ : Sta Z Z.heap "com/example/moraine/moraine/model/Expression$Operator" "EQ" "Lcom/example/moraine/moraine/model/Expression$Operator;" (.ref sEQ)) (EsEQ : Exa Z Z.heap sEQ "com/example/moraine/moraine/model/Expression$Operator") (FsEQ : Fld Z Z.heap sEQ "java/lang/Enum" "ordinal" "I" (.int 0)) (SsIS_NULL : Sta Z Z.heap "com/example/moraine/moraine/model/Expression$Operator" "IS_NULL" "Lcom/example/moraine/moraine/model/Expression$Operator;" (.ref sIS_NULL)) (EsIS_NULL : Exa Z Z.heap sIS_NULL "com/example/moraine/moraine/model/Expression$Operator") (FsIS_NULL : Fld Z Z.heap sIS_NULL "java/lang/Enum" "ordinal" "I" (.int 6)) (SsNOT_NULL : Sta Z Z.heap "com/example/moraine/moraine/model/Expression$Operator" "NOT_NULL" "Lcom/example/moraine/moraine/model/Expression$Operator;" (.ref sNOT_NULL)) (EsNOT_NULL : Exa Z Z.heap sNOT_NULL "com/example/moraine/moraine/model/Expression$Operator") (FsNOT_NULL : Fld Z Z.heap sNOT_NULL "java/lang/Enum" "ordinal" "I" (.int 7)) (SsIN : Sta Z Z.heap "com/example/moraine/moraine/model/Expression$Operator" "IN" "Lcom/example/moraine/moraine/model/Expression$Operator;" (.ref sIN)) (EsIN : Exa Z Z.heap sIN "com/example/moraine/moraine/model/Expression$Operator") (FsIN : Fld Z Z.heap sIN "java/lang/Enum" "ordinal" "I" (.int 8)) (SsNOT_IN : Sta Z Z.heap "com/example/moraine/moraine/model/Expression$Operator" "NOT_IN" "Lcom/example/moraine/moraine/model/Expression$Operator;" (.ref sNOT_IN)) (EsNOT_IN : Exa Z Z.heap sNOT_IN "com/example/moraine/moraine/model/Expression$Operator") (FsNOT_IN : Fld Z Z.heap sNOT_IN "java/lang/Enum" "ordinal" "I" (.int 9)) (SsNE : Sta Z Z.heap "com/example/moraine/moraine/model/Expression$Operator" "NE" "Lcom/example/moraine/moraine/model/Expression$Operator;" (.ref sNE)) (EsNE : Exa Z Z.heap sNE "com/example/moraine/moraine/model/Expression$Operator") (FsNE : Fld Z Z.heap sNE "java/lang/Enum" "ordinal" "I" (.int 1)) (SsLE : Sta Z Z.heap "com/example/moraine/moraine/model/Expression$Operator" "LE" "Lcom/example/moraine/moraine/model/Expression$Operator;" (.ref sLE)) (EsLE : Exa Z Z.heap sLE "com/example/moraine/moraine/model/Expression$Operator") (FsLE : Fld Z Z.heap sLE "java/lang/Enum" "ordinal" "I" (.int 3)) (SsGT : Sta Z Z.heap "com/example/moraine/moraine/model/Expression$Operator" "GT" "Lcom/example/moraine/moraine/model/Expression$Operator;" (.ref sGT)) (EsGT : Exa Z Z.heap sGT "com/example/moraine/moraine/model/Expression$Operator") (FsGT : Fld Z Z.heap sGT "java/lang/Enum" "ordinal" "I" (.int 4)) (SsLT : Sta Z Z.heap "com/example/moraine/moraine/model/Expression$Operator" "LT" "Lcom/example/moraine/moraine/model/Expression$Operator;" (.ref sLT)) (EsLT : Exa Z Z.heap sLT "com/example/moraine/moraine/model/Expression$Operator") (FsLT : Fld Z Z.heap sLT "java/lang/Enum" "ordinal" "I" (.int 2)) (SsGE : Sta Z Z.heap "com/example/moraine/moraine/model/Expression$Operator" "GE" "Lcom/example/moraine/moraine/model/Expression$Operator;" (.ref sGE)) (EsGE : Exa Z Z.heap sGE "com/example/moraine/moraine/model/Expression$Operator") (FsGE : Fld Z Z.heap sGE "java/lang/Enum" "ordinal" "I" (.int 5)) :
    MetFree l (⟨"com/example/moraine/moraine/model/Expression$Operator", "literals", "()I"⟩ : MethodName) (head1 (Jvm.Cond.code (⟨"com/example/moraine/moraine/model/Expression$Operator", "literals", "()I"⟩ : MethodName) prog_66_method_5_code 1 (some .int) :: ws) ({ frames := 0, cells := 0, slots := 0, locals := 0 } : Room)) (fun aA uU => aA = #[(.ref sGE)] ∧ Z.Warmed39 uU.vm ∧ uU.heap = h0) (fun _ _ _ _ _ => True) (fun _ uU oO uU' => ∃ vV lL, oO = .returned vV ∧ Q_rmLit_GE Z sEQ sIS_NULL sNOT_NULL sIN sNOT_IN sNE sLE sGT sLT sGE h0 n0 vV uU'.heap lL ∧ FrameEnd uU oO uU' lL ({ frames := 0, cells := 0, slots := 0, locals := 0 } : Room).cells ({ frames := 0, cells := 0, slots := 0, locals := 0 } : Room).slots) := by
  refine MetFree.of_bodySF (plainFor_of_name pn_Expression_Operator) hisR ?_
  intro p e s m args below meth c s₁ Bd hml0 hP hK
  obtain ⟨rfl, hZ, hh⟩ := hP
  have hx := Bd.exec
  have hby := Bd.bytes
  have hml : c.maxLocals = 1 := hml0
  have hown : s.vm.findClass "com/example/moraine/moraine/model/Expression$Operator" = some m.cls := findClass_of_methodNamed Bd.named
  have hnm := (name_of_methodNamed Bd.named Bd.method).1
  have X0 : Stand p l e ({ frames := 0, cells := 0, slots := 0, locals := 0 } : Room) s m #[(.ref sGE)] below meth c s₁ [] 0 0 := Stand.of_body Bd
  have e0 : s₁.heap = h0 := by rw [← hh, Bd.state]; rfl
  have N0 := Fr.nil n0
  refine oEnter (oCast (ef_rmLit_GE m sGE ) ?_)
  show oGl p e below (s₁.setTop (mkF m 0 #[.val (.ref sGE)] [])) _
  refine saloadN X0 hx (hb hby d2_0) rfl rfl rfl (pc' := 1) ?_
  obtain ⟨T1, X1, e1, st1⟩ := getS2 X0 hx hZ hown (host := "") (Or.inl (hw _ (List.mem_of_getElem? (i := 14) rfl))) Via.refl e0 (SsIS_NULL.ext O0.2) (g := (mkF m 1 #[.val (.ref sGE)] [(.ref sGE)])) rfl (hb hby d2_1)
  refine oOn st1 ?_
  show oGl p e below (T1.setTop (mkF m 4 #[.val (.ref sGE)] [(.ref sIS_NULL), (.ref sGE)])) _
  refine oOn (fun _ kK => Jvm.RoadKit.acmp (g := (mkF m 4 #[.val (.ref sGE)] [(.ref sIS_NULL), (.ref sGE)])) X1 hx rfl rfl rfl (pc0 := 4) (pc' := 7) (same := false) rfl (hb hby d2_4) rfl (decide_eq_false fun q => (FsGE.ne FsIS_NULL (by decide)) (Value.ref.inj q)) (by decide) (by decide) kK) ?_
  show oGl p e below (T1.setTop (mkF m 7 #[.val (.ref sGE)] [])) _
  refine saloadN X1 hx (hb hby d2_7) rfl rfl rfl (pc' := 8) ?_
  obtain ⟨T2, X2, e2, st2⟩ := getS2 X1 hx hZ hown (host := "") (Or.inl (hw _ (List.mem_of_getElem? (i := 16) rfl))) Via.refl e1 (SsNOT_NULL.ext O0.2) (g := (mkF m 8 #[.val (.ref sGE)] [(.ref sGE)])) rfl (hb hby d2_8)
  refine oOn st2 ?_
  show oGl p e below (T2.setTop (mkF m 11 #[.val (.ref sGE)] [(.ref sNOT_NULL), (.ref sGE)])) _
  refine oOn (fun _ kK => Jvm.RoadKit.acmp (g := (mkF m 11 #[.val (.ref sGE)] [(.ref sNOT_NULL), (.ref sGE)])) X2 hx rfl rfl rfl (pc0 := 11) (pc' := 18) (same := false) rfl (hb hby d2_11) rfl (decide_eq_false fun q => (FsGE.ne FsNOT_NULL (by decide)) (Value.ref.inj q)) (by decide) (by decide) kK) ?_
  show oGl p e below (T2.setTop (mkF m 18 #[.val (.ref sGE)] [])) _
  refine saloadN X2 hx (hb hby d2_18) rfl rfl rfl (pc' := 19) ?_
  obtain ⟨T3, X3, e3, st3⟩ := getS2 X2 hx hZ hown (host := "") (Or.inl (hw _ (List.mem_of_getElem? (i := 18) rfl))) Via.refl e2 (SsIN.ext O0.2) (g := (mkF m 19 #[.val (.ref sGE)] [(.ref sGE)])) rfl (hb hby d2_19)
  refine oOn st3 ?_
  show oGl p e below (T3.setTop (mkF m 22 #[.val (.ref sGE)] [(.ref sIN), (.ref sGE)])) _
  refine oOn (fun _ kK => Jvm.RoadKit.acmp (g := (mkF m 22 #[.val (.ref sGE)] [(.ref sIN), (.ref sGE)])) X3 hx rfl rfl rfl (pc0 := 22) (pc' := 25) (same := false) rfl (hb hby d2_22) rfl (decide_eq_false fun q => (FsGE.ne FsIN (by decide)) (Value.ref.inj q)) (by decide) (by decide) kK) ?_
  show oGl p e below (T3.setTop (mkF m 25 #[.val (.ref sGE)] [])) _
  refine saloadN X3 hx (hb hby d2_25) rfl rfl rfl (pc' := 26) ?_
  obtain ⟨T4, X4, e4, st4⟩ := getS2 X3 hx hZ hown (host := "") (Or.inl (hw _ (List.mem_of_getElem? (i := 20) rfl))) Via.refl e3 (SsNOT_IN.ext O0.2) (g := (mkF m 26 #[.val (.ref sGE)] [(.ref sGE)])) rfl (hb hby d2_26)
  refine oOn st4 ?_
  show oGl p e below (T4.setTop (mkF m 29 #[.val (.ref sGE)] [(.ref sNOT_IN), (.ref sGE)])) _
  refine oOn (fun _ kK => Jvm.RoadKit.acmp (g := (mkF m 29 #[.val (.ref sGE)] [(.ref sNOT_IN), (.ref sGE)])) X4 hx rfl rfl rfl (pc0 := 29) (pc' := 36) (same := false) rfl (hb hby d2_29) rfl (decide_eq_false fun q => (FsGE.ne FsNOT_IN (by decide)) (Value.ref.inj q)) (by decide) (by decide) kK) ?_
  show oGl p e below (T4.setTop (mkF m 36 #[.val (.ref sGE)] [])) _
  refine siconst X4 hx (hb hby d2_36) rfl rfl (z := 1) (pc' := 37) ?_
  refine oRetI X4 hx Bd.notSynchronized Bd.returns (hb hby d2_37) (by decide) (by decide) ?_
  show Q_rmLit_GE Z sEQ sIS_NULL sNOT_NULL sIN sNOT_IN sNE sLE sGT sLT sGE h0 n0 _ T4.heap _
  rw [e4]
  exact ⟨rfl, N0, rfl⟩
theorem d2_14 : decode prog_66_method_5_code 14 = .ok (.iconst 0, 1) := by decide +kernel
theorem d2_15 : decode prog_66_method_5_code 15 = .ok (.goto 22, 3) := by decide +kernel
theorem ef_rmLit_IS_NULL (m : MethodId) (x0 : Addr)  : entryFrame m #[(.ref x0)] 1 = mkF m 0 #[.val (.ref x0)] [] := by first | rfl | (simp [entryFrame, mkF, argsToLocals, Value.category, maxLocals]; done)
def Q_rmLit_IS_NULL (Z : State) (sEQ : Addr) (sIS_NULL : Addr) (sNOT_NULL : Addr) (sIN : Addr) (sNOT_IN : Addr) (sNE : Addr) (sLE : Addr) (sGT : Addr) (sLT : Addr) (sGE : Addr) (h0 : Heap) (n0 : Nat) (vv : Option Value) (h : Heap) (L : List Loc) : Prop := vv = some (.int (0)) ∧ Fr n0 L ∧ h = h0
set_option maxRecDepth 65536 in
set_option maxHeartbeats 40000000 in
theorem rmLit_IS_NULL (l : Launch) (Z : State) (a0 : Array Value) (hw : ∀ d ∈ tables_1, d.before a0 Z = true) (ws : List Jvm.Cond) (sEQ : Addr) (sIS_NULL : Addr) (sNOT_NULL : Addr) (sIN : Addr) (sNOT_IN : Addr) (sNE : Addr) (sLE : Addr) (sGT : Addr) (sLT : Addr) (sGE : Addr) (h0 : Heap) (n0 : Nat) (Z0 : n0 ≤ h0.size) (O0 : Old Z n0 h0) (SsEQ : Sta Z Z.heap "com/example/moraine/moraine/model/Expression$Operator" "EQ" "Lcom/example/moraine/moraine/model/Expression$Operator;" (.ref sEQ)) (EsEQ : Exa Z Z.heap sEQ "com/example/moraine/moraine/model/Expression$Operator") (FsEQ : Fld Z Z.heap sEQ "java/lang/Enum" "ordinal" "I" (.int 0)) (SsIS_NULL : Sta Z Z.heap "com/example/moraine/moraine/model/Expression$Operator" "IS_NULL" "Lcom/example/moraine/moraine/model/Expression$Operator;" (.ref sIS_NULL)) (EsIS_NULL : Exa Z Z.heap sIS_NULL "com/example/moraine/moraine/model/Expression$Operator") (FsIS_NULL : Fld Z Z.heap sIS_NULL "java/lang/Enum" "ordinal" "I" (.int 6)) (SsNOT_NULL : Sta Z Z.heap "com/example/moraine/moraine/model/Expression$Operator" "NOT_NULL" "Lcom/example/moraine/moraine/model/Expression$Operator;" (.ref sNOT_NULL)) (EsNOT_NULL : Exa Z Z.heap sNOT_NULL "com/example/moraine/moraine/model/Expression$Operator") (FsNOT_NULL : Fld Z Z.heap sNOT_NULL "java/lang/Enum" "ordinal" "I" (.int 7)) (SsIN : Sta Z Z.heap "com/example/moraine/moraine/model/Expression$Operator" "IN" "Lcom/example/moraine/moraine/model/Expression$Operator;" (.ref sIN)) (EsIN : Exa Z Z.heap sIN "com/example/moraine/moraine/model/Expression$Operator") (FsIN : Fld Z Z.heap sIN "java/lang/Enum" "ordinal" "I" (.int 8)) (SsNOT_IN : Sta Z Z.heap "com/example/moraine/moraine/model/Expression$Operator" "NOT_IN" "Lcom/example/moraine/moraine/model/Expression$Operator;" (.ref sNOT_IN)) (EsNOT_IN : Exa Z Z.heap sNOT_IN "com/example/moraine/moraine/model/Expression$Operator") (FsNOT_IN : Fld Z Z.heap sNOT_IN "java/lang/Enum" "ordinal" "I" (.int 9)) (SsNE : Sta Z Z.heap "com/example/moraine/moraine/model/Expression$Operator" "NE" "Lcom/example/moraine/moraine/model/Expression$Operator;" (.ref sNE)) (EsNE : Exa Z Z.heap sNE "com/example/moraine/moraine/model/Expression$Operator") (FsNE : Fld Z Z.heap sNE "java/lang/Enum" "ordinal" "I" (.int 1)) (SsLE : Sta Z Z.heap "com/example/moraine/moraine/model/Expression$Operator" "LE" "Lcom/example/moraine/moraine/model/Expression$Operator;" (.ref sLE)) (EsLE : Exa Z Z.heap sLE "com/example/moraine/moraine/model/Expression$Operator") (FsLE : Fld Z Z.heap sLE "java/lang/Enum" "ordinal" "I" (.int 3)) (SsGT : Sta Z Z.heap "com/example/moraine/moraine/model/Expression$Operator" "GT" "Lcom/example/moraine/moraine/model/Expression$Operator;" (.ref sGT)) (EsGT : Exa Z Z.heap sGT "com/example/moraine/moraine/model/Expression$Operator") (FsGT : Fld Z Z.heap sGT "java/lang/Enum" "ordinal" "I" (.int 4)) (SsLT : Sta Z Z.heap "com/example/moraine/moraine/model/Expression$Operator" "LT" "Lcom/example/moraine/moraine/model/Expression$Operator;" (.ref sLT)) (EsLT : Exa Z Z.heap sLT "com/example/moraine/moraine/model/Expression$Operator") (FsLT : Fld Z Z.heap sLT "java/lang/Enum" "ordinal" "I" (.int 2)) (SsGE : Sta Z Z.heap "com/example/moraine/moraine/model/Expression$Operator" "GE" "Lcom/example/moraine/moraine/model/Expression$Operator;" (.ref sGE)) (EsGE : Exa Z Z.heap sGE "com/example/moraine/moraine/model/Expression$Operator") (FsGE : Fld Z Z.heap sGE "java/lang/Enum" "ordinal" "I" (.int 5)) :
    MetFree l (⟨"com/example/moraine/moraine/model/Expression$Operator", "literals", "()I"⟩ : MethodName) (head1 (Jvm.Cond.code (⟨"com/example/moraine/moraine/model/Expression$Operator", "literals", "()I"⟩ : MethodName) prog_66_method_5_code 1 (some .int) :: ws) ({ frames := 0, cells := 0, slots := 0, locals := 0 } : Room)) (fun aA uU => aA = #[(.ref sIS_NULL)] ∧ Z.Warmed39 uU.vm ∧ uU.heap = h0) (fun _ _ _ _ _ => True) (fun _ uU oO uU' => ∃ vV lL, oO = .returned vV ∧ Q_rmLit_IS_NULL Z sEQ sIS_NULL sNOT_NULL sIN sNOT_IN sNE sLE sGT sLT sGE h0 n0 vV uU'.heap lL ∧ FrameEnd uU oO uU' lL ({ frames := 0, cells := 0, slots := 0, locals := 0 } : Room).cells ({ frames := 0, cells := 0, slots := 0, locals := 0 } : Room).slots) := by
  refine MetFree.of_bodySF (plainFor_of_name pn_Expression_Operator) hisR ?_
  intro p e s m args below meth c s₁ Bd hml0 hP hK
  obtain ⟨rfl, hZ, hh⟩ := hP
  have hx := Bd.exec
  have hby := Bd.bytes
  have hml : c.maxLocals = 1 := hml0
  have hown : s.vm.findClass "com/example/moraine/moraine/model/Expression$Operator" = some m.cls := findClass_of_methodNamed Bd.named
  have hnm := (name_of_methodNamed Bd.named Bd.method).1
  have X0 : Stand p l e ({ frames := 0, cells := 0, slots := 0, locals := 0 } : Room) s m #[(.ref sIS_NULL)] below meth c s₁ [] 0 0 := Stand.of_body Bd
  have e0 : s₁.heap = h0 := by rw [← hh, Bd.state]; rfl
  have N0 := Fr.nil n0
  refine oEnter (oCast (ef_rmLit_IS_NULL m sIS_NULL ) ?_)
  show oGl p e below (s₁.setTop (mkF m 0 #[.val (.ref sIS_NULL)] [])) _
  refine saloadN X0 hx (hb hby d2_0) rfl rfl rfl (pc' := 1) ?_
  obtain ⟨T1, X1, e1, st1⟩ := getS2 X0 hx hZ hown (host := "") (Or.inl (hw _ (List.mem_of_getElem? (i := 14) rfl))) Via.refl e0 (SsIS_NULL.ext O0.2) (g := (mkF m 1 #[.val (.ref sIS_NULL)] [(.ref sIS_NULL)])) rfl (hb hby d2_1)
  refine oOn st1 ?_
  show oGl p e below (T1.setTop (mkF m 4 #[.val (.ref sIS_NULL)] [(.ref sIS_NULL), (.ref sIS_NULL)])) _
  refine oOn (fun _ kK => Jvm.RoadKit.acmp (g := (mkF m 4 #[.val (.ref sIS_NULL)] [(.ref sIS_NULL), (.ref sIS_NULL)])) X1 hx rfl rfl rfl (pc0 := 4) (pc' := 14) (same := true) rfl (hb hby d2_4) rfl (decide_eq_true rfl) (by decide) (by decide) kK) ?_
  show oGl p e below (T1.setTop (mkF m 14 #[.val (.ref sIS_NULL)] [])) _
  refine siconst X1 hx (hb hby d2_14) rfl rfl (z := 0) (pc' := 15) ?_
  refine sgoto X1 hx (hb hby d2_15) (by decide) (by decide)  (pc' := 37) ?_
  refine oRetI X1 hx Bd.notSynchronized Bd.returns (hb hby d2_37) (by decide) (by decide) ?_
  show Q_rmLit_IS_NULL Z sEQ sIS_NULL sNOT_NULL sIN sNOT_IN sNE sLE sGT sLT sGE h0 n0 _ T1.heap _
  rw [e1]
  exact ⟨rfl, N0, rfl⟩
theorem ef_rmLit_NOT_NULL (m : MethodId) (x0 : Addr)  : entryFrame m #[(.ref x0)] 1 = mkF m 0 #[.val (.ref x0)] [] := by first | rfl | (simp [entryFrame, mkF, argsToLocals, Value.category, maxLocals]; done)
def Q_rmLit_NOT_NULL (Z : State) (sEQ : Addr) (sIS_NULL : Addr) (sNOT_NULL : Addr) (sIN : Addr) (sNOT_IN : Addr) (sNE : Addr) (sLE : Addr) (sGT : Addr) (sLT : Addr) (sGE : Addr) (h0 : Heap) (n0 : Nat) (vv : Option Value) (h : Heap) (L : List Loc) : Prop := vv = some (.int (0)) ∧ Fr n0 L ∧ h = h0
set_option maxRecDepth 65536 in
set_option maxHeartbeats 40000000 in
theorem rmLit_NOT_NULL (l : Launch) (Z : State) (a0 : Array Value) (hw : ∀ d ∈ tables_1, d.before a0 Z = true) (ws : List Jvm.Cond) (sEQ : Addr) (sIS_NULL : Addr) (sNOT_NULL : Addr) (sIN : Addr) (sNOT_IN : Addr) (sNE : Addr) (sLE : Addr) (sGT : Addr) (sLT : Addr) (sGE : Addr) (h0 : Heap) (n0 : Nat) (Z0 : n0 ≤ h0.size) (O0 : Old Z n0 h0) (SsEQ : Sta Z Z.heap "com/example/moraine/moraine/model/Expression$Operator" "EQ" "Lcom/example/moraine/moraine/model/Expression$Operator;" (.ref sEQ)) (EsEQ : Exa Z Z.heap sEQ "com/example/moraine/moraine/model/Expression$Operator") (FsEQ : Fld Z Z.heap sEQ "java/lang/Enum" "ordinal" "I" (.int 0)) (SsIS_NULL : Sta Z Z.heap "com/example/moraine/moraine/model/Expression$Operator" "IS_NULL" "Lcom/example/moraine/moraine/model/Expression$Operator;" (.ref sIS_NULL)) (EsIS_NULL : Exa Z Z.heap sIS_NULL "com/example/moraine/moraine/model/Expression$Operator") (FsIS_NULL : Fld Z Z.heap sIS_NULL "java/lang/Enum" "ordinal" "I" (.int 6)) (SsNOT_NULL : Sta Z Z.heap "com/example/moraine/moraine/model/Expression$Operator" "NOT_NULL" "Lcom/example/moraine/moraine/model/Expression$Operator;" (.ref sNOT_NULL)) (EsNOT_NULL : Exa Z Z.heap sNOT_NULL "com/example/moraine/moraine/model/Expression$Operator") (FsNOT_NULL : Fld Z Z.heap sNOT_NULL "java/lang/Enum" "ordinal" "I" (.int 7)) (SsIN : Sta Z Z.heap "com/example/moraine/moraine/model/Expression$Operator" "IN" "Lcom/example/moraine/moraine/model/Expression$Operator;" (.ref sIN)) (EsIN : Exa Z Z.heap sIN "com/example/moraine/moraine/model/Expression$Operator") (FsIN : Fld Z Z.heap sIN "java/lang/Enum" "ordinal" "I" (.int 8)) (SsNOT_IN : Sta Z Z.heap "com/example/moraine/moraine/model/Expression$Operator" "NOT_IN" "Lcom/example/moraine/moraine/model/Expression$Operator;" (.ref sNOT_IN)) (EsNOT_IN : Exa Z Z.heap sNOT_IN "com/example/moraine/moraine/model/Expression$Operator") (FsNOT_IN : Fld Z Z.heap sNOT_IN "java/lang/Enum" "ordinal" "I" (.int 9)) (SsNE : Sta Z Z.heap "com/example/moraine/moraine/model/Expression$Operator" "NE" "Lcom/example/moraine/moraine/model/Expression$Operator;" (.ref sNE)) (EsNE : Exa Z Z.heap sNE "com/example/moraine/moraine/model/Expression$Operator") (FsNE : Fld Z Z.heap sNE "java/lang/Enum" "ordinal" "I" (.int 1)) (SsLE : Sta Z Z.heap "com/example/moraine/moraine/model/Expression$Operator" "LE" "Lcom/example/moraine/moraine/model/Expression$Operator;" (.ref sLE)) (EsLE : Exa Z Z.heap sLE "com/example/moraine/moraine/model/Expression$Operator") (FsLE : Fld Z Z.heap sLE "java/lang/Enum" "ordinal" "I" (.int 3)) (SsGT : Sta Z Z.heap "com/example/moraine/moraine/model/Expression$Operator" "GT" "Lcom/example/moraine/moraine/model/Expression$Operator;" (.ref sGT)) (EsGT : Exa Z Z.heap sGT "com/example/moraine/moraine/model/Expression$Operator") (FsGT : Fld Z Z.heap sGT "java/lang/Enum" "ordinal" "I" (.int 4)) (SsLT : Sta Z Z.heap "com/example/moraine/moraine/model/Expression$Operator" "LT" "Lcom/example/moraine/moraine/model/Expression$Operator;" (.ref sLT)) (EsLT : Exa Z Z.heap sLT "com/example/moraine/moraine/model/Expression$Operator") (FsLT : Fld Z Z.heap sLT "java/lang/Enum" "ordinal" "I" (.int 2)) (SsGE : Sta Z Z.heap "com/example/moraine/moraine/model/Expression$Operator" "GE" "Lcom/example/moraine/moraine/model/Expression$Operator;" (.ref sGE)) (EsGE : Exa Z Z.heap sGE "com/example/moraine/moraine/model/Expression$Operator") (FsGE : Fld Z Z.heap sGE "java/lang/Enum" "ordinal" "I" (.int 5)) :
    MetFree l (⟨"com/example/moraine/moraine/model/Expression$Operator", "literals", "()I"⟩ : MethodName) (head1 (Jvm.Cond.code (⟨"com/example/moraine/moraine/model/Expression$Operator", "literals", "()I"⟩ : MethodName) prog_66_method_5_code 1 (some .int) :: ws) ({ frames := 0, cells := 0, slots := 0, locals := 0 } : Room)) (fun aA uU => aA = #[(.ref sNOT_NULL)] ∧ Z.Warmed39 uU.vm ∧ uU.heap = h0) (fun _ _ _ _ _ => True) (fun _ uU oO uU' => ∃ vV lL, oO = .returned vV ∧ Q_rmLit_NOT_NULL Z sEQ sIS_NULL sNOT_NULL sIN sNOT_IN sNE sLE sGT sLT sGE h0 n0 vV uU'.heap lL ∧ FrameEnd uU oO uU' lL ({ frames := 0, cells := 0, slots := 0, locals := 0 } : Room).cells ({ frames := 0, cells := 0, slots := 0, locals := 0 } : Room).slots) := by
  refine MetFree.of_bodySF (plainFor_of_name pn_Expression_Operator) hisR ?_
  intro p e s m args below meth c s₁ Bd hml0 hP hK
  obtain ⟨rfl, hZ, hh⟩ := hP
  have hx := Bd.exec
  have hby := Bd.bytes
  have hml : c.maxLocals = 1 := hml0
  have hown : s.vm.findClass "com/example/moraine/moraine/model/Expression$Operator" = some m.cls := findClass_of_methodNamed Bd.named
  have hnm := (name_of_methodNamed Bd.named Bd.method).1
  have X0 : Stand p l e ({ frames := 0, cells := 0, slots := 0, locals := 0 } : Room) s m #[(.ref sNOT_NULL)] below meth c s₁ [] 0 0 := Stand.of_body Bd
  have e0 : s₁.heap = h0 := by rw [← hh, Bd.state]; rfl
  have N0 := Fr.nil n0
  refine oEnter (oCast (ef_rmLit_NOT_NULL m sNOT_NULL ) ?_)
  show oGl p e below (s₁.setTop (mkF m 0 #[.val (.ref sNOT_NULL)] [])) _
  refine saloadN X0 hx (hb hby d2_0) rfl rfl rfl (pc' := 1) ?_
  obtain ⟨T1, X1, e1, st1⟩ := getS2 X0 hx hZ hown (host := "") (Or.inl (hw _ (List.mem_of_getElem? (i := 14) rfl))) Via.refl e0 (SsIS_NULL.ext O0.2) (g := (mkF m 1 #[.val (.ref sNOT_NULL)] [(.ref sNOT_NULL)])) rfl (hb hby d2_1)
  refine oOn st1 ?_
  show oGl p e below (T1.setTop (mkF m 4 #[.val (.ref sNOT_NULL)] [(.ref sIS_NULL), (.ref sNOT_NULL)])) _
  refine oOn (fun _ kK => Jvm.RoadKit.acmp (g := (mkF m 4 #[.val (.ref sNOT_NULL)] [(.ref sIS_NULL), (.ref sNOT_NULL)])) X1 hx rfl rfl rfl (pc0 := 4) (pc' := 7) (same := false) rfl (hb hby d2_4) rfl (decide_eq_false fun q => (FsNOT_NULL.ne FsIS_NULL (by decide)) (Value.ref.inj q)) (by decide) (by decide) kK) ?_
  show oGl p e below (T1.setTop (mkF m 7 #[.val (.ref sNOT_NULL)] [])) _
  refine saloadN X1 hx (hb hby d2_7) rfl rfl rfl (pc' := 8) ?_
  obtain ⟨T2, X2, e2, st2⟩ := getS2 X1 hx hZ hown (host := "") (Or.inl (hw _ (List.mem_of_getElem? (i := 16) rfl))) Via.refl e1 (SsNOT_NULL.ext O0.2) (g := (mkF m 8 #[.val (.ref sNOT_NULL)] [(.ref sNOT_NULL)])) rfl (hb hby d2_8)
  refine oOn st2 ?_
  show oGl p e below (T2.setTop (mkF m 11 #[.val (.ref sNOT_NULL)] [(.ref sNOT_NULL), (.ref sNOT_NULL)])) _
  refine oOn (fun _ kK => Jvm.RoadKit.acmp (g := (mkF m 11 #[.val (.ref sNOT_NULL)] [(.ref sNOT_NULL), (.ref sNOT_NULL)])) X2 hx rfl rfl rfl (pc0 := 11) (pc' := 14) (same := true) rfl (hb hby d2_11) rfl (decide_eq_true rfl) (by decide) (by decide) kK) ?_
  show oGl p e below (T2.setTop (mkF m 14 #[.val (.ref sNOT_NULL)] [])) _
  refine siconst X2 hx (hb hby d2_14) rfl rfl (z := 0) (pc' := 15) ?_
  refine sgoto X2 hx (hb hby d2_15) (by decide) (by decide)  (pc' := 37) ?_
  refine oRetI X2 hx Bd.notSynchronized Bd.returns (hb hby d2_37) (by decide) (by decide) ?_
  show Q_rmLit_NOT_NULL Z sEQ sIS_NULL sNOT_NULL sIN sNOT_IN sNE sLE sGT sLT sGE h0 n0 _ T2.heap _
  rw [e2]
  exact ⟨rfl, N0, rfl⟩
theorem d2_32 : decode prog_66_method_5_code 32 = .ok (.iconst (-1), 1) := by decide +kernel
theorem d2_33 : decode prog_66_method_5_code 33 = .ok (.goto 4, 3) := by decide +kernel
theorem ef_rmLit_IN (m : MethodId) (x0 : Addr)  : entryFrame m #[(.ref x0)] 1 = mkF m 0 #[.val (.ref x0)] [] := by first | rfl | (simp [entryFrame, mkF, argsToLocals, Value.category, maxLocals]; done)
def Q_rmLit_IN (Z : State) (sEQ : Addr) (sIS_NULL : Addr) (sNOT_NULL : Addr) (sIN : Addr) (sNOT_IN : Addr) (sNE : Addr) (sLE : Addr) (sGT : Addr) (sLT : Addr) (sGE : Addr) (h0 : Heap) (n0 : Nat) (vv : Option Value) (h : Heap) (L : List Loc) : Prop := vv = some (.int (-1)) ∧ Fr n0 L ∧ h = h0
set_option maxRecDepth 65536 in
set_option maxHeartbeats 40000000 in
theorem rmLit_IN (l : Launch) (Z : State) (a0 : Array Value) (hw : ∀ d ∈ tables_1, d.before a0 Z = true) (ws : List Jvm.Cond) (sEQ : Addr) (sIS_NULL : Addr) (sNOT_NULL : Addr) (sIN : Addr) (sNOT_IN : Addr) (sNE : Addr) (sLE : Addr) (sGT : Addr) (sLT : Addr) (sGE : Addr) (h0 : Heap) (n0 : Nat) (Z0 : n0 ≤ h0.size) (O0 : Old Z n0 h0) (SsEQ : Sta Z Z.heap "com/example/moraine/moraine/model/Expression$Operator" "EQ" "Lcom/example/moraine/moraine/model/Expression$Operator;" (.ref sEQ)) (EsEQ : Exa Z Z.heap sEQ "com/example/moraine/moraine/model/Expression$Operator") (FsEQ : Fld Z Z.heap sEQ "java/lang/Enum" "ordinal" "I" (.int 0)) (SsIS_NULL : Sta Z Z.heap "com/example/moraine/moraine/model/Expression$Operator" "IS_NULL" "Lcom/example/moraine/moraine/model/Expression$Operator;" (.ref sIS_NULL)) (EsIS_NULL : Exa Z Z.heap sIS_NULL "com/example/moraine/moraine/model/Expression$Operator") (FsIS_NULL : Fld Z Z.heap sIS_NULL "java/lang/Enum" "ordinal" "I" (.int 6)) (SsNOT_NULL : Sta Z Z.heap "com/example/moraine/moraine/model/Expression$Operator" "NOT_NULL" "Lcom/example/moraine/moraine/model/Expression$Operator;" (.ref sNOT_NULL)) (EsNOT_NULL : Exa Z Z.heap sNOT_NULL "com/example/moraine/moraine/model/Expression$Operator") (FsNOT_NULL : Fld Z Z.heap sNOT_NULL "java/lang/Enum" "ordinal" "I" (.int 7)) (SsIN : Sta Z Z.heap "com/example/moraine/moraine/model/Expression$Operator" "IN" "Lcom/example/moraine/moraine/model/Expression$Operator;" (.ref sIN)) (EsIN : Exa Z Z.heap sIN "com/example/moraine/moraine/model/Expression$Operator") (FsIN : Fld Z Z.heap sIN "java/lang/Enum" "ordinal" "I" (.int 8)) (SsNOT_IN : Sta Z Z.heap "com/example/moraine/moraine/model/Expression$Operator" "NOT_IN" "Lcom/example/moraine/moraine/model/Expression$Operator;" (.ref sNOT_IN)) (EsNOT_IN : Exa Z Z.heap sNOT_IN "com/example/moraine/moraine/model/Expression$Operator") (FsNOT_IN : Fld Z Z.heap sNOT_IN "java/lang/Enum" "ordinal" "I" (.int 9)) (SsNE : Sta Z Z.heap "com/example/moraine/moraine/model/Expression$Operator" "NE" "Lcom/example/moraine/moraine/model/Expression$Operator;" (.ref sNE)) (EsNE : Exa Z Z.heap sNE "com/example/moraine/moraine/model/Expression$Operator") (FsNE : Fld Z Z.heap sNE "java/lang/Enum" "ordinal" "I" (.int 1)) (SsLE : Sta Z Z.heap "com/example/moraine/moraine/model/Expression$Operator" "LE" "Lcom/example/moraine/moraine/model/Expression$Operator;" (.ref sLE)) (EsLE : Exa Z Z.heap sLE "com/example/moraine/moraine/model/Expression$Operator") (FsLE : Fld Z Z.heap sLE "java/lang/Enum" "ordinal" "I" (.int 3)) (SsGT : Sta Z Z.heap "com/example/moraine/moraine/model/Expression$Operator" "GT" "Lcom/example/moraine/moraine/model/Expression$Operator;" (.ref sGT)) (EsGT : Exa Z Z.heap sGT "com/example/moraine/moraine/model/Expression$Operator") (FsGT : Fld Z Z.heap sGT "java/lang/Enum" "ordinal" "I" (.int 4)) (SsLT : Sta Z Z.heap "com/example/moraine/moraine/model/Expression$Operator" "LT" "Lcom/example/moraine/moraine/model/Expression$Operator;" (.ref sLT)) (EsLT : Exa Z Z.heap sLT "com/example/moraine/moraine/model/Expression$Operator") (FsLT : Fld Z Z.heap sLT "java/lang/Enum" "ordinal" "I" (.int 2)) (SsGE : Sta Z Z.heap "com/example/moraine/moraine/model/Expression$Operator" "GE" "Lcom/example/moraine/moraine/model/Expression$Operator;" (.ref sGE)) (EsGE : Exa Z Z.heap sGE "com/example/moraine/moraine/model/Expression$Operator") (FsGE : Fld Z Z.heap sGE "java/lang/Enum" "ordinal" "I" (.int 5)) :
    MetFree l (⟨"com/example/moraine/moraine/model/Expression$Operator", "literals", "()I"⟩ : MethodName) (head1 (Jvm.Cond.code (⟨"com/example/moraine/moraine/model/Expression$Operator", "literals", "()I"⟩ : MethodName) prog_66_method_5_code 1 (some .int) :: ws) ({ frames := 0, cells := 0, slots := 0, locals := 0 } : Room)) (fun aA uU => aA = #[(.ref sIN)] ∧ Z.Warmed39 uU.vm ∧ uU.heap = h0) (fun _ _ _ _ _ => True) (fun _ uU oO uU' => ∃ vV lL, oO = .returned vV ∧ Q_rmLit_IN Z sEQ sIS_NULL sNOT_NULL sIN sNOT_IN sNE sLE sGT sLT sGE h0 n0 vV uU'.heap lL ∧ FrameEnd uU oO uU' lL ({ frames := 0, cells := 0, slots := 0, locals := 0 } : Room).cells ({ frames := 0, cells := 0, slots := 0, locals := 0 } : Room).slots) := by
  refine MetFree.of_bodySF (plainFor_of_name pn_Expression_Operator) hisR ?_
  intro p e s m args below meth c s₁ Bd hml0 hP hK
  obtain ⟨rfl, hZ, hh⟩ := hP
  have hx := Bd.exec
  have hby := Bd.bytes
  have hml : c.maxLocals = 1 := hml0
  have hown : s.vm.findClass "com/example/moraine/moraine/model/Expression$Operator" = some m.cls := findClass_of_methodNamed Bd.named
  have hnm := (name_of_methodNamed Bd.named Bd.method).1
  have X0 : Stand p l e ({ frames := 0, cells := 0, slots := 0, locals := 0 } : Room) s m #[(.ref sIN)] below meth c s₁ [] 0 0 := Stand.of_body Bd
  have e0 : s₁.heap = h0 := by rw [← hh, Bd.state]; rfl
  have N0 := Fr.nil n0
  refine oEnter (oCast (ef_rmLit_IN m sIN ) ?_)
  show oGl p e below (s₁.setTop (mkF m 0 #[.val (.ref sIN)] [])) _
  refine saloadN X0 hx (hb hby d2_0) rfl rfl rfl (pc' := 1) ?_
  obtain ⟨T1, X1, e1, st1⟩ := getS2 X0 hx hZ hown (host := "") (Or.inl (hw _ (List.mem_of_getElem? (i := 14) rfl))) Via.refl e0 (SsIS_NULL.ext O0.2) (g := (mkF m 1 #[.val (.ref sIN)] [(.ref sIN)])) rfl (hb hby d2_1)
  refine oOn st1 ?_
  show oGl p e below (T1.setTop (mkF m 4 #[.val (.ref sIN)] [(.ref sIS_NULL), (.ref sIN)])) _
  refine oOn (fun _ kK => Jvm.RoadKit.acmp (g := (mkF m 4 #[.val (.ref sIN)] [(.ref sIS_NULL), (.ref sIN)])) X1 hx rfl rfl rfl (pc0 := 4) (pc' := 7) (same := false) rfl (hb hby d2_4) rfl (decide_eq_false fun q => (FsIN.ne FsIS_NULL (by decide)) (Value.ref.inj q)) (by decide) (by decide) kK) ?_
  show oGl p e below (T1.setTop (mkF m 7 #[.val (.ref sIN)] [])) _
  refine saloadN X1 hx (hb hby d2_7) rfl rfl rfl (pc' := 8) ?_
  obtain ⟨T2, X2, e2, st2⟩ := getS2 X1 hx hZ hown (host := "") (Or.inl (hw _ (List.mem_of_getElem? (i := 16) rfl))) Via.refl e1 (SsNOT_NULL.ext O0.2) (g := (mkF m 8 #[.val (.ref sIN)] [(.ref sIN)])) rfl (hb hby d2_8)
  refine oOn st2 ?_
  show oGl p e below (T2.setTop (mkF m 11 #[.val (.ref sIN)] [(.ref sNOT_NULL), (.ref sIN)])) _
  refine oOn (fun _ kK => Jvm.RoadKit.acmp (g := (mkF m 11 #[.val (.ref sIN)] [(.ref sNOT_NULL), (.ref sIN)])) X2 hx rfl rfl rfl (pc0 := 11) (pc' := 18) (same := false) rfl (hb hby d2_11) rfl (decide_eq_false fun q => (FsIN.ne FsNOT_NULL (by decide)) (Value.ref.inj q)) (by decide) (by decide) kK) ?_
  show oGl p e below (T2.setTop (mkF m 18 #[.val (.ref sIN)] [])) _
  refine saloadN X2 hx (hb hby d2_18) rfl rfl rfl (pc' := 19) ?_
  obtain ⟨T3, X3, e3, st3⟩ := getS2 X2 hx hZ hown (host := "") (Or.inl (hw _ (List.mem_of_getElem? (i := 18) rfl))) Via.refl e2 (SsIN.ext O0.2) (g := (mkF m 19 #[.val (.ref sIN)] [(.ref sIN)])) rfl (hb hby d2_19)
  refine oOn st3 ?_
  show oGl p e below (T3.setTop (mkF m 22 #[.val (.ref sIN)] [(.ref sIN), (.ref sIN)])) _
  refine oOn (fun _ kK => Jvm.RoadKit.acmp (g := (mkF m 22 #[.val (.ref sIN)] [(.ref sIN), (.ref sIN)])) X3 hx rfl rfl rfl (pc0 := 22) (pc' := 32) (same := true) rfl (hb hby d2_22) rfl (decide_eq_true rfl) (by decide) (by decide) kK) ?_
  show oGl p e below (T3.setTop (mkF m 32 #[.val (.ref sIN)] [])) _
  refine siconst X3 hx (hb hby d2_32) rfl rfl (z := -1) (pc' := 33) ?_
  refine sgoto X3 hx (hb hby d2_33) (by decide) (by decide)  (pc' := 37) ?_
  refine oRetI X3 hx Bd.notSynchronized Bd.returns (hb hby d2_37) (by decide) (by decide) ?_
  show Q_rmLit_IN Z sEQ sIS_NULL sNOT_NULL sIN sNOT_IN sNE sLE sGT sLT sGE h0 n0 _ T3.heap _
  rw [e3]
  exact ⟨rfl, N0, rfl⟩
theorem ef_rmLit_NOT_IN (m : MethodId) (x0 : Addr)  : entryFrame m #[(.ref x0)] 1 = mkF m 0 #[.val (.ref x0)] [] := by first | rfl | (simp [entryFrame, mkF, argsToLocals, Value.category, maxLocals]; done)
def Q_rmLit_NOT_IN (Z : State) (sEQ : Addr) (sIS_NULL : Addr) (sNOT_NULL : Addr) (sIN : Addr) (sNOT_IN : Addr) (sNE : Addr) (sLE : Addr) (sGT : Addr) (sLT : Addr) (sGE : Addr) (h0 : Heap) (n0 : Nat) (vv : Option Value) (h : Heap) (L : List Loc) : Prop := vv = some (.int (-1)) ∧ Fr n0 L ∧ h = h0
set_option maxRecDepth 65536 in
set_option maxHeartbeats 40000000 in
theorem rmLit_NOT_IN (l : Launch) (Z : State) (a0 : Array Value) (hw : ∀ d ∈ tables_1, d.before a0 Z = true) (ws : List Jvm.Cond) (sEQ : Addr) (sIS_NULL : Addr) (sNOT_NULL : Addr) (sIN : Addr) (sNOT_IN : Addr) (sNE : Addr) (sLE : Addr) (sGT : Addr) (sLT : Addr) (sGE : Addr) (h0 : Heap) (n0 : Nat) (Z0 : n0 ≤ h0.size) (O0 : Old Z n0 h0) (SsEQ : Sta Z Z.heap "com/example/moraine/moraine/model/Expression$Operator" "EQ" "Lcom/example/moraine/moraine/model/Expression$Operator;" (.ref sEQ)) (EsEQ : Exa Z Z.heap sEQ "com/example/moraine/moraine/model/Expression$Operator") (FsEQ : Fld Z Z.heap sEQ "java/lang/Enum" "ordinal" "I" (.int 0)) (SsIS_NULL : Sta Z Z.heap "com/example/moraine/moraine/model/Expression$Operator" "IS_NULL" "Lcom/example/moraine/moraine/model/Expression$Operator;" (.ref sIS_NULL)) (EsIS_NULL : Exa Z Z.heap sIS_NULL "com/example/moraine/moraine/model/Expression$Operator") (FsIS_NULL : Fld Z Z.heap sIS_NULL "java/lang/Enum" "ordinal" "I" (.int 6)) (SsNOT_NULL : Sta Z Z.heap "com/example/moraine/moraine/model/Expression$Operator" "NOT_NULL" "Lcom/example/moraine/moraine/model/Expression$Operator;" (.ref sNOT_NULL)) (EsNOT_NULL : Exa Z Z.heap sNOT_NULL "com/example/moraine/moraine/model/Expression$Operator") (FsNOT_NULL : Fld Z Z.heap sNOT_NULL "java/lang/Enum" "ordinal" "I" (.int 7)) (SsIN : Sta Z Z.heap "com/example/moraine/moraine/model/Expression$Operator" "IN" "Lcom/example/moraine/moraine/model/Expression$Operator;" (.ref sIN)) (EsIN : Exa Z Z.heap sIN "com/example/moraine/moraine/model/Expression$Operator") (FsIN : Fld Z Z.heap sIN "java/lang/Enum" "ordinal" "I" (.int 8)) (SsNOT_IN : Sta Z Z.heap "com/example/moraine/moraine/model/Expression$Operator" "NOT_IN" "Lcom/example/moraine/moraine/model/Expression$Operator;" (.ref sNOT_IN)) (EsNOT_IN : Exa Z Z.heap sNOT_IN "com/example/moraine/moraine/model/Expression$Operator") (FsNOT_IN : Fld Z Z.heap sNOT_IN "java/lang/Enum" "ordinal" "I" (.int 9)) (SsNE : Sta Z Z.heap "com/example/moraine/moraine/model/Expression$Operator" "NE" "Lcom/example/moraine/moraine/model/Expression$Operator;" (.ref sNE)) (EsNE : Exa Z Z.heap sNE "com/example/moraine/moraine/model/Expression$Operator") (FsNE : Fld Z Z.heap sNE "java/lang/Enum" "ordinal" "I" (.int 1)) (SsLE : Sta Z Z.heap "com/example/moraine/moraine/model/Expression$Operator" "LE" "Lcom/example/moraine/moraine/model/Expression$Operator;" (.ref sLE)) (EsLE : Exa Z Z.heap sLE "com/example/moraine/moraine/model/Expression$Operator") (FsLE : Fld Z Z.heap sLE "java/lang/Enum" "ordinal" "I" (.int 3)) (SsGT : Sta Z Z.heap "com/example/moraine/moraine/model/Expression$Operator" "GT" "Lcom/example/moraine/moraine/model/Expression$Operator;" (.ref sGT)) (EsGT : Exa Z Z.heap sGT "com/example/moraine/moraine/model/Expression$Operator") (FsGT : Fld Z Z.heap sGT "java/lang/Enum" "ordinal" "I" (.int 4)) (SsLT : Sta Z Z.heap "com/example/moraine/moraine/model/Expression$Operator" "LT" "Lcom/example/moraine/moraine/model/Expression$Operator;" (.ref sLT)) (EsLT : Exa Z Z.heap sLT "com/example/moraine/moraine/model/Expression$Operator") (FsLT : Fld Z Z.heap sLT "java/lang/Enum" "ordinal" "I" (.int 2)) (SsGE : Sta Z Z.heap "com/example/moraine/moraine/model/Expression$Operator" "GE" "Lcom/example/moraine/moraine/model/Expression$Operator;" (.ref sGE)) (EsGE : Exa Z Z.heap sGE "com/example/moraine/moraine/model/Expression$Operator") (FsGE : Fld Z Z.heap sGE "java/lang/Enum" "ordinal" "I" (.int 5)) :
    MetFree l (⟨"com/example/moraine/moraine/model/Expression$Operator", "literals", "()I"⟩ : MethodName) (head1 (Jvm.Cond.code (⟨"com/example/moraine/moraine/model/Expression$Operator", "literals", "()I"⟩ : MethodName) prog_66_method_5_code 1 (some .int) :: ws) ({ frames := 0, cells := 0, slots := 0, locals := 0 } : Room)) (fun aA uU => aA = #[(.ref sNOT_IN)] ∧ Z.Warmed39 uU.vm ∧ uU.heap = h0) (fun _ _ _ _ _ => True) (fun _ uU oO uU' => ∃ vV lL, oO = .returned vV ∧ Q_rmLit_NOT_IN Z sEQ sIS_NULL sNOT_NULL sIN sNOT_IN sNE sLE sGT sLT sGE h0 n0 vV uU'.heap lL ∧ FrameEnd uU oO uU' lL ({ frames := 0, cells := 0, slots := 0, locals := 0 } : Room).cells ({ frames := 0, cells := 0, slots := 0, locals := 0 } : Room).slots) := by
  refine MetFree.of_bodySF (plainFor_of_name pn_Expression_Operator) hisR ?_
  intro p e s m args below meth c s₁ Bd hml0 hP hK
  obtain ⟨rfl, hZ, hh⟩ := hP
  have hx := Bd.exec
  have hby := Bd.bytes
  have hml : c.maxLocals = 1 := hml0
  have hown : s.vm.findClass "com/example/moraine/moraine/model/Expression$Operator" = some m.cls := findClass_of_methodNamed Bd.named
  have hnm := (name_of_methodNamed Bd.named Bd.method).1
  have X0 : Stand p l e ({ frames := 0, cells := 0, slots := 0, locals := 0 } : Room) s m #[(.ref sNOT_IN)] below meth c s₁ [] 0 0 := Stand.of_body Bd
  have e0 : s₁.heap = h0 := by rw [← hh, Bd.state]; rfl
  have N0 := Fr.nil n0
  refine oEnter (oCast (ef_rmLit_NOT_IN m sNOT_IN ) ?_)
  show oGl p e below (s₁.setTop (mkF m 0 #[.val (.ref sNOT_IN)] [])) _
  refine saloadN X0 hx (hb hby d2_0) rfl rfl rfl (pc' := 1) ?_
  obtain ⟨T1, X1, e1, st1⟩ := getS2 X0 hx hZ hown (host := "") (Or.inl (hw _ (List.mem_of_getElem? (i := 14) rfl))) Via.refl e0 (SsIS_NULL.ext O0.2) (g := (mkF m 1 #[.val (.ref sNOT_IN)] [(.ref sNOT_IN)])) rfl (hb hby d2_1)
  refine oOn st1 ?_
  show oGl p e below (T1.setTop (mkF m 4 #[.val (.ref sNOT_IN)] [(.ref sIS_NULL), (.ref sNOT_IN)])) _
  refine oOn (fun _ kK => Jvm.RoadKit.acmp (g := (mkF m 4 #[.val (.ref sNOT_IN)] [(.ref sIS_NULL), (.ref sNOT_IN)])) X1 hx rfl rfl rfl (pc0 := 4) (pc' := 7) (same := false) rfl (hb hby d2_4) rfl (decide_eq_false fun q => (FsNOT_IN.ne FsIS_NULL (by decide)) (Value.ref.inj q)) (by decide) (by decide) kK) ?_
  show oGl p e below (T1.setTop (mkF m 7 #[.val (.ref sNOT_IN)] [])) _
  refine saloadN X1 hx (hb hby d2_7) rfl rfl rfl (pc' := 8) ?_
  obtain ⟨T2, X2, e2, st2⟩ := getS2 X1 hx hZ hown (host := "") (Or.inl (hw _ (List.mem_of_getElem? (i := 16) rfl))) Via.refl e1 (SsNOT_NULL.ext O0.2) (g := (mkF m 8 #[.val (.ref sNOT_IN)] [(.ref sNOT_IN)])) rfl (hb hby d2_8)
  refine oOn st2 ?_
  show oGl p e below (T2.setTop (mkF m 11 #[.val (.ref sNOT_IN)] [(.ref sNOT_NULL), (.ref sNOT_IN)])) _
  refine oOn (fun _ kK => Jvm.RoadKit.acmp (g := (mkF m 11 #[.val (.ref sNOT_IN)] [(.ref sNOT_NULL), (.ref sNOT_IN)])) X2 hx rfl rfl rfl (pc0 := 11) (pc' := 18) (same := false) rfl (hb hby d2_11) rfl (decide_eq_false fun q => (FsNOT_IN.ne FsNOT_NULL (by decide)) (Value.ref.inj q)) (by decide) (by decide) kK) ?_
  show oGl p e below (T2.setTop (mkF m 18 #[.val (.ref sNOT_IN)] [])) _
  refine saloadN X2 hx (hb hby d2_18) rfl rfl rfl (pc' := 19) ?_
  obtain ⟨T3, X3, e3, st3⟩ := getS2 X2 hx hZ hown (host := "") (Or.inl (hw _ (List.mem_of_getElem? (i := 18) rfl))) Via.refl e2 (SsIN.ext O0.2) (g := (mkF m 19 #[.val (.ref sNOT_IN)] [(.ref sNOT_IN)])) rfl (hb hby d2_19)
  refine oOn st3 ?_
  show oGl p e below (T3.setTop (mkF m 22 #[.val (.ref sNOT_IN)] [(.ref sIN), (.ref sNOT_IN)])) _
  refine oOn (fun _ kK => Jvm.RoadKit.acmp (g := (mkF m 22 #[.val (.ref sNOT_IN)] [(.ref sIN), (.ref sNOT_IN)])) X3 hx rfl rfl rfl (pc0 := 22) (pc' := 25) (same := false) rfl (hb hby d2_22) rfl (decide_eq_false fun q => (FsNOT_IN.ne FsIN (by decide)) (Value.ref.inj q)) (by decide) (by decide) kK) ?_
  show oGl p e below (T3.setTop (mkF m 25 #[.val (.ref sNOT_IN)] [])) _
  refine saloadN X3 hx (hb hby d2_25) rfl rfl rfl (pc' := 26) ?_
  obtain ⟨T4, X4, e4, st4⟩ := getS2 X3 hx hZ hown (host := "") (Or.inl (hw _ (List.mem_of_getElem? (i := 20) rfl))) Via.refl e3 (SsNOT_IN.ext O0.2) (g := (mkF m 26 #[.val (.ref sNOT_IN)] [(.ref sNOT_IN)])) rfl (hb hby d2_26)
  refine oOn st4 ?_
  show oGl p e below (T4.setTop (mkF m 29 #[.val (.ref sNOT_IN)] [(.ref sNOT_IN), (.ref sNOT_IN)])) _
  refine oOn (fun _ kK => Jvm.RoadKit.acmp (g := (mkF m 29 #[.val (.ref sNOT_IN)] [(.ref sNOT_IN), (.ref sNOT_IN)])) X4 hx rfl rfl rfl (pc0 := 29) (pc' := 32) (same := true) rfl (hb hby d2_29) rfl (decide_eq_true rfl) (by decide) (by decide) kK) ?_
  show oGl p e below (T4.setTop (mkF m 32 #[.val (.ref sNOT_IN)] [])) _
  refine siconst X4 hx (hb hby d2_32) rfl rfl (z := -1) (pc' := 33) ?_
  refine sgoto X4 hx (hb hby d2_33) (by decide) (by decide)  (pc' := 37) ?_
  refine oRetI X4 hx Bd.notSynchronized Bd.returns (hb hby d2_37) (by decide) (by decide) ?_
  show Q_rmLit_NOT_IN Z sEQ sIS_NULL sNOT_NULL sIN sNOT_IN sNE sLE sGT sLT sGE h0 n0 _ T4.heap _
  rw [e4]
  exact ⟨rfl, N0, rfl⟩
theorem d3_0 : decode prog_66_method_4_code 0 = .ok (.aload_n 0, 1) := by decide +kernel
theorem d3_1 : decode prog_66_method_4_code 1 = .ok (.invokevirtual 57, 3) := by decide +kernel
theorem pd_0 : parseMethodDescriptor "()I" = some ⟨[], some .int⟩ := by decide +kernel
theorem d3_4 : decode prog_66_method_4_code 4 = .ok (.tableswitch 88 0 8 #[52, 56, 60, 68, 72, 64, 76, 80, 84], 52) := by decide +kernel
theorem d3_56 : decode prog_66_method_4_code 56 = .ok (.getstatic 7, 3) := by decide +kernel
theorem d3_59 : decode prog_66_method_4_code 59 = .ok (.areturn, 1) := by decide +kernel
theorem ef_rmNeg_EQ (m : MethodId) (x0 : Addr)  : entryFrame m #[(.ref x0)] 1 = mkF m 0 #[.val (.ref x0)] [] := by first | rfl | (simp [entryFrame, mkF, argsToLocals, Value.category, maxLocals]; done)
def Q_rmNeg_EQ (Z : State) (sEQ : Addr) (sIS_NULL : Addr) (sNOT_NULL : Addr) (sIN : Addr) (sNOT_IN : Addr) (sNE : Addr) (sLE : Addr) (sGT : Addr) (sLT : Addr) (sGE : Addr) (h0 : Heap) (n0 : Nat) (vv : Option Value) (h : Heap) (L : List Loc) : Prop := vv = some (.ref sNE) ∧ Fr n0 L ∧ h = h0
set_option maxRecDepth 65536 in
set_option maxHeartbeats 40000000 in
theorem rmNeg_EQ (l : Launch) (Z : State) (a0 : Array Value) (hw : ∀ d ∈ tables_1, d.before a0 Z = true) (ws : List Jvm.Cond) (sEQ : Addr) (sIS_NULL : Addr) (sNOT_NULL : Addr) (sIN : Addr) (sNOT_IN : Addr) (sNE : Addr) (sLE : Addr) (sGT : Addr) (sLT : Addr) (sGE : Addr) (h0 : Heap) (n0 : Nat) (Z0 : n0 ≤ h0.size) (O0 : Old Z n0 h0) (SsEQ : Sta Z Z.heap "com/example/moraine/moraine/model/Expression$Operator" "EQ" "Lcom/example/moraine/moraine/model/Expression$Operator;" (.ref sEQ)) (EsEQ : Exa Z Z.heap sEQ "com/example/moraine/moraine/model/Expression$Operator") (FsEQ : Fld Z Z.heap sEQ "java/lang/Enum" "ordinal" "I" (.int 0)) (SsIS_NULL : Sta Z Z.heap "com/example/moraine/moraine/model/Expression$Operator" "IS_NULL" "Lcom/example/moraine/moraine/model/Expression$Operator;" (.ref sIS_NULL)) (EsIS_NULL : Exa Z Z.heap sIS_NULL "com/example/moraine/moraine/model/Expression$Operator") (FsIS_NULL : Fld Z Z.heap sIS_NULL "java/lang/Enum" "ordinal" "I" (.int 6)) (SsNOT_NULL : Sta Z Z.heap "com/example/moraine/moraine/model/Expression$Operator" "NOT_NULL" "Lcom/example/moraine/moraine/model/Expression$Operator;" (.ref sNOT_NULL)) (EsNOT_NULL : Exa Z Z.heap sNOT_NULL "com/example/moraine/moraine/model/Expression$Operator") (FsNOT_NULL : Fld Z Z.heap sNOT_NULL "java/lang/Enum" "ordinal" "I" (.int 7)) (SsIN : Sta Z Z.heap "com/example/moraine/moraine/model/Expression$Operator" "IN" "Lcom/example/moraine/moraine/model/Expression$Operator;" (.ref sIN)) (EsIN : Exa Z Z.heap sIN "com/example/moraine/moraine/model/Expression$Operator") (FsIN : Fld Z Z.heap sIN "java/lang/Enum" "ordinal" "I" (.int 8)) (SsNOT_IN : Sta Z Z.heap "com/example/moraine/moraine/model/Expression$Operator" "NOT_IN" "Lcom/example/moraine/moraine/model/Expression$Operator;" (.ref sNOT_IN)) (EsNOT_IN : Exa Z Z.heap sNOT_IN "com/example/moraine/moraine/model/Expression$Operator") (FsNOT_IN : Fld Z Z.heap sNOT_IN "java/lang/Enum" "ordinal" "I" (.int 9)) (SsNE : Sta Z Z.heap "com/example/moraine/moraine/model/Expression$Operator" "NE" "Lcom/example/moraine/moraine/model/Expression$Operator;" (.ref sNE)) (EsNE : Exa Z Z.heap sNE "com/example/moraine/moraine/model/Expression$Operator") (FsNE : Fld Z Z.heap sNE "java/lang/Enum" "ordinal" "I" (.int 1)) (SsLE : Sta Z Z.heap "com/example/moraine/moraine/model/Expression$Operator" "LE" "Lcom/example/moraine/moraine/model/Expression$Operator;" (.ref sLE)) (EsLE : Exa Z Z.heap sLE "com/example/moraine/moraine/model/Expression$Operator") (FsLE : Fld Z Z.heap sLE "java/lang/Enum" "ordinal" "I" (.int 3)) (SsGT : Sta Z Z.heap "com/example/moraine/moraine/model/Expression$Operator" "GT" "Lcom/example/moraine/moraine/model/Expression$Operator;" (.ref sGT)) (EsGT : Exa Z Z.heap sGT "com/example/moraine/moraine/model/Expression$Operator") (FsGT : Fld Z Z.heap sGT "java/lang/Enum" "ordinal" "I" (.int 4)) (SsLT : Sta Z Z.heap "com/example/moraine/moraine/model/Expression$Operator" "LT" "Lcom/example/moraine/moraine/model/Expression$Operator;" (.ref sLT)) (EsLT : Exa Z Z.heap sLT "com/example/moraine/moraine/model/Expression$Operator") (FsLT : Fld Z Z.heap sLT "java/lang/Enum" "ordinal" "I" (.int 2)) (SsGE : Sta Z Z.heap "com/example/moraine/moraine/model/Expression$Operator" "GE" "Lcom/example/moraine/moraine/model/Expression$Operator;" (.ref sGE)) (EsGE : Exa Z Z.heap sGE "com/example/moraine/moraine/model/Expression$Operator") (FsGE : Fld Z Z.heap sGE "java/lang/Enum" "ordinal" "I" (.int 5)) :
    MetFree l (⟨"com/example/moraine/moraine/model/Expression$Operator", "negation", "()Lcom/example/moraine/moraine/model/Expression$Operator;"⟩ : MethodName) (head1 (Jvm.Cond.code (⟨"com/example/moraine/moraine/model/Expression$Operator", "negation", "()Lcom/example/moraine/moraine/model/Expression$Operator;"⟩ : MethodName) prog_66_method_4_code 1 (some (.object "com/example/moraine/moraine/model/Expression$Operator")) :: ws) ({ frames := 1, cells := 0, slots := 0, locals := 12 } : Room)) (fun aA uU => aA = #[(.ref sEQ)] ∧ Z.Warmed39 uU.vm ∧ uU.heap = h0) (fun _ _ _ _ _ => True) (fun _ uU oO uU' => ∃ vV lL, oO = .returned vV ∧ Q_rmNeg_EQ Z sEQ sIS_NULL sNOT_NULL sIN sNOT_IN sNE sLE sGT sLT sGE h0 n0 vV uU'.heap lL ∧ FrameEnd uU oO uU' lL ({ frames := 1, cells := 0, slots := 0, locals := 12 } : Room).cells ({ frames := 1, cells := 0, slots := 0, locals := 12 } : Room).slots) := by
  refine MetFree.of_bodySF (plainFor_of_name pn_Expression_Operator) hisR ?_
  intro p e s m args below meth c s₁ Bd hml0 hP hK
  obtain ⟨rfl, hZ, hh⟩ := hP
  have hx := Bd.exec
  have hby := Bd.bytes
  have hml : c.maxLocals = 1 := hml0
  have hown : s.vm.findClass "com/example/moraine/moraine/model/Expression$Operator" = some m.cls := findClass_of_methodNamed Bd.named
  have hnm := (name_of_methodNamed Bd.named Bd.method).1
  have X0 : Stand p l e ({ frames := 1, cells := 0, slots := 0, locals := 12 } : Room) s m #[(.ref sEQ)] below meth c s₁ [] 0 0 := Stand.of_body Bd
  have e0 : s₁.heap = h0 := by rw [← hh, Bd.state]; rfl
  have N0 := Fr.nil n0
  refine oEnter (oCast (ef_rmNeg_EQ m sEQ ) ?_)
  show oGl p e below (s₁.setTop (mkF m 0 #[.val (.ref sEQ)] [])) _
  refine saloadN X0 hx (hb hby d3_0) rfl rfl rfl (pc' := 1) ?_
  have hz1 : n0 ≤ h0.size := by omega
  obtain ⟨cq1, kq1, q1a, q1b, q1c⟩ := isOf hZ e0 (EsEQ.ext O0.2)
  obtain ⟨_, _, ⟨T1, L1, k1, n1⟩, -, X1, ⟨Lc1, hQ1, l1, y1, z1⟩, st1⟩ := X0.virtualBackUp hx (x := (⟨"com/example/moraine/moraine/model/Expression$Operator", "ordinal", "()I"⟩ : MethodName)) (y := (⟨"java/lang/Enum", "ordinal", "()I"⟩ : MethodName)) (owner := "java/lang/Enum") hown (mvT hZ (hw _ (List.mem_of_getElem? (i := 27) rfl))) (mvT hZ (hw _ (List.mem_of_getElem? (i := 28) rfl))) (mvT hZ (hw _ (List.mem_of_getElem? (i := 29) rfl))) (by decide) (mvT hZ (hw _ (List.mem_of_getElem? (i := 31) rfl))) (mvT hZ (hw _ (List.mem_of_getElem? (i := 30) rfl))) (backOf (W := 0) (rmOrd l Z a0 hw [] sEQ (0 : Int32) h0 n0 hz1 (FsEQ.ext O0.2)) hZ (hw _ (List.mem_of_getElem? (i := 33) rfl)) (hw _ (List.mem_of_getElem? (i := 32) rfl)) (by decide) (by decide)) q1a q1c (g := (mkF m 1 #[.val (.ref sEQ)] [(.ref sEQ)])) rfl (by rw [hml]; rfl) (Steps.refl _) (argsL := []) (rest := []) (lenOf pd_0 rfl) rfl (by show 2 * 0 + _ ≤ _; exact Nat.le_of_eq rfl) (hb hby d3_1) (fun _ _ => ⟨rfl, e0, (by decide : 0 + 0 ≤ _), (by decide : 0 + 0 ≤ _)⟩)
  dsimp only [Pt.U, Pt.locs, Pt.cells, Pt.slots] at X1 l1 y1 z1 st1 hQ1
  subst l1 y1 z1
  obtain ⟨rfl, N1q, eh1⟩ := hQ1
  have N1 := Fr.app N0 N1q
  refine oSt st1 ?_
  show oGl p e below (T1.setTop (mkF m 4 #[.val (.ref sEQ)] [(.int (0 : Int32))])) _
  refine oOn (fun _ kK => XS.tswIn X1.here hx rfl (pc0 := 4) (pc' := 56) rfl (hb hby d3_4) rfl (by decide) rfl (by decide) (by decide) kK) ?_
  show oGl p e below (T1.setTop (mkF m 56 #[.val (.ref sEQ)] [])) _
  obtain ⟨T2, X2, e2, st2⟩ := getS2 X1 hx hZ hown (host := "") (Or.inl (hw _ (List.mem_of_getElem? (i := 36) rfl))) Via.refl eh1 (SsNE.ext O0.2) (g := (mkF m 56 #[.val (.ref sEQ)] [])) rfl (hb hby d3_56)
  refine oOn st2 ?_
  show oGl p e below (T2.setTop (mkF m 59 #[.val (.ref sEQ)] [(.ref sNE)])) _
  refine oRetR X2 hx Bd.notSynchronized Bd.returns rfl rfl (hb hby d3_59) (by decide) (by decide) ?_
  show Q_rmNeg_EQ Z sEQ sIS_NULL sNOT_NULL sIN sNOT_IN sNE sLE sGT sLT sGE h0 n0 _ T2.heap _
  rw [e2]
  exact ⟨rfl, N1, rfl⟩
theorem d3_60 : decode prog_66_method_4_code 60 = .ok (.getstatic 3, 3) := by decide +kernel
theorem d3_63 : decode prog_66_method_4_code 63 = .ok (.areturn, 1) := by decide +kernel
theorem ef_rmNeg_NE (m : MethodId) (x0 : Addr)  : entryFrame m #[(.ref x0)] 1 = mkF m 0 #[.val (.ref x0)] [] := by first | rfl | (simp [entryFrame, mkF, argsToLocals, Value.category, maxLocals]; done)
def Q_rmNeg_NE (Z : State) (sEQ : Addr) (sIS_NULL : Addr) (sNOT_NULL : Addr) (sIN : Addr) (sNOT_IN : Addr) (sNE : Addr) (sLE : Addr) (sGT : Addr) (sLT : Addr) (sGE : Addr) (h0 : Heap) (n0 : Nat) (vv : Option Value) (h : Heap) (L : List Loc) : Prop := vv = some (.ref sEQ) ∧ Fr n0 L ∧ h = h0
set_option maxRecDepth 65536 in
set_option maxHeartbeats 40000000 in
theorem rmNeg_NE (l : Launch) (Z : State) (a0 : Array Value) (hw : ∀ d ∈ tables_1, d.before a0 Z = true) (ws : List Jvm.Cond) (sEQ : Addr) (sIS_NULL : Addr) (sNOT_NULL : Addr) (sIN : Addr) (sNOT_IN : Addr) (sNE : Addr) (sLE : Addr) (sGT : Addr) (sLT : Addr) (sGE : Addr) (h0 : Heap) (n0 : Nat) (Z0 : n0 ≤ h0.size) (O0 : Old Z n0 h0) (SsEQ : Sta Z Z.heap "com/example/moraine/moraine/model/Expression$Operator" "EQ" "Lcom/example/moraine/moraine/model/Expression$Operator;" (.ref sEQ)) (EsEQ : Exa Z Z.heap sEQ "com/example/moraine/moraine/model/Expression$Operator") (FsEQ : Fld Z Z.heap sEQ "java/lang/Enum" "ordinal" "I" (.int 0)) (SsIS_NULL : Sta Z Z.heap "com/example/moraine/moraine/model/Expression$Operator" "IS_NULL" "Lcom/example/moraine/moraine/model/Expression$Operator;" (.ref sIS_NULL)) (EsIS_NULL : Exa Z Z.heap sIS_NULL "com/example/moraine/moraine/model/Expression$Operator") (FsIS_NULL : Fld Z Z.heap sIS_NULL "java/lang/Enum" "ordinal" "I" (.int 6)) (SsNOT_NULL : Sta Z Z.heap "com/example/moraine/moraine/model/Expression$Operator" "NOT_NULL" "Lcom/example/moraine/moraine/model/Expression$Operator;" (.ref sNOT_NULL)) (EsNOT_NULL : Exa Z Z.heap sNOT_NULL "com/example/moraine/moraine/model/Expression$Operator") (FsNOT_NULL : Fld Z Z.heap sNOT_NULL "java/lang/Enum" "ordinal" "I" (.int 7)) (SsIN : Sta Z Z.heap "com/example/moraine/moraine/model/Expression$Operator" "IN" "Lcom/example/moraine/moraine/model/Expression$Operator;" (.ref sIN)) (EsIN : Exa Z Z.heap sIN "com/example/moraine/moraine/model/Expression$Operator") (FsIN : Fld Z Z.heap sIN "java/lang/Enum" "ordinal" "I" (.int 8)) (SsNOT_IN : Sta Z Z.heap "com/example/moraine/moraine/model/Expression$Operator" "NOT_IN" "Lcom/example/moraine/moraine/model/Expression$Operator;" (.ref sNOT_IN)) (EsNOT_IN : Exa Z Z.heap sNOT_IN "com/example/moraine/moraine/model/Expression$Operator") (FsNOT_IN : Fld Z Z.heap sNOT_IN "java/lang/Enum" "ordinal" "I" (.int 9)) (SsNE : Sta Z Z.heap "com/example/moraine/moraine/model/Expression$Operator" "NE" "Lcom/example/moraine/moraine/model/Expression$Operator;" (.ref sNE)) (EsNE : Exa Z Z.heap sNE "com/example/moraine/moraine/model/Expression$Operator") (FsNE : Fld Z Z.heap sNE "java/lang/Enum" "ordinal" "I" (.int 1)) (SsLE : Sta Z Z.heap "com/example/moraine/moraine/model/Expression$Operator" "LE" "Lcom/example/moraine/moraine/model/Expression$Operator;" (.ref sLE)) (EsLE : Exa Z Z.heap sLE "com/example/moraine/moraine/model/Expression$Operator") (FsLE : Fld Z Z.heap sLE "java/lang/Enum" "ordinal" "I" (.int 3)) (SsGT : Sta Z Z.heap "com/example/moraine/moraine/model/Expression$Operator" "GT" "Lcom/example/moraine/moraine/model/Expression$Operator;" (.ref sGT)) (EsGT : Exa Z Z.heap sGT "com/example/moraine/moraine/model/Expression$Operator") (FsGT : Fld Z Z.heap sGT "java/lang/Enum" "ordinal" "I" (.int 4)) (SsLT : Sta Z Z.heap "com/example/moraine/moraine/model/Expression$Operator" "LT" "Lcom/example/moraine/moraine/model/Expression$Operator;" (.ref sLT)) (EsLT : Exa Z Z.heap sLT "com/example/moraine/moraine/model/Expression$Operator") (FsLT : Fld Z Z.heap sLT "java/lang/Enum" "ordinal" "I" (.int 2)) (SsGE : Sta Z Z.heap "com/example/moraine/moraine/model/Expression$Operator" "GE" "Lcom/example/moraine/moraine/model/Expression$Operator;" (.ref sGE)) (EsGE : Exa Z Z.heap sGE "com/example/moraine/moraine/model/Expression$Operator") (FsGE : Fld Z Z.heap sGE "java/lang/Enum" "ordinal" "I" (.int 5)) :
    MetFree l (⟨"com/example/moraine/moraine/model/Expression$Operator", "negation", "()Lcom/example/moraine/moraine/model/Expression$Operator;"⟩ : MethodName) (head1 (Jvm.Cond.code (⟨"com/example/moraine/moraine/model/Expression$Operator", "negation", "()Lcom/example/moraine/moraine/model/Expression$Operator;"⟩ : MethodName) prog_66_method_4_code 1 (some (.object "com/example/moraine/moraine/model/Expression$Operator")) :: ws) ({ frames := 1, cells := 0, slots := 0, locals := 12 } : Room)) (fun aA uU => aA = #[(.ref sNE)] ∧ Z.Warmed39 uU.vm ∧ uU.heap = h0) (fun _ _ _ _ _ => True) (fun _ uU oO uU' => ∃ vV lL, oO = .returned vV ∧ Q_rmNeg_NE Z sEQ sIS_NULL sNOT_NULL sIN sNOT_IN sNE sLE sGT sLT sGE h0 n0 vV uU'.heap lL ∧ FrameEnd uU oO uU' lL ({ frames := 1, cells := 0, slots := 0, locals := 12 } : Room).cells ({ frames := 1, cells := 0, slots := 0, locals := 12 } : Room).slots) := by
  refine MetFree.of_bodySF (plainFor_of_name pn_Expression_Operator) hisR ?_
  intro p e s m args below meth c s₁ Bd hml0 hP hK
  obtain ⟨rfl, hZ, hh⟩ := hP
  have hx := Bd.exec
  have hby := Bd.bytes
  have hml : c.maxLocals = 1 := hml0
  have hown : s.vm.findClass "com/example/moraine/moraine/model/Expression$Operator" = some m.cls := findClass_of_methodNamed Bd.named
  have hnm := (name_of_methodNamed Bd.named Bd.method).1
  have X0 : Stand p l e ({ frames := 1, cells := 0, slots := 0, locals := 12 } : Room) s m #[(.ref sNE)] below meth c s₁ [] 0 0 := Stand.of_body Bd
  have e0 : s₁.heap = h0 := by rw [← hh, Bd.state]; rfl
  have N0 := Fr.nil n0
  refine oEnter (oCast (ef_rmNeg_NE m sNE ) ?_)
  show oGl p e below (s₁.setTop (mkF m 0 #[.val (.ref sNE)] [])) _
  refine saloadN X0 hx (hb hby d3_0) rfl rfl rfl (pc' := 1) ?_
  have hz1 : n0 ≤ h0.size := by omega
  obtain ⟨cq1, kq1, q1a, q1b, q1c⟩ := isOf hZ e0 (EsNE.ext O0.2)
  obtain ⟨_, _, ⟨T1, L1, k1, n1⟩, -, X1, ⟨Lc1, hQ1, l1, y1, z1⟩, st1⟩ := X0.virtualBackUp hx (x := (⟨"com/example/moraine/moraine/model/Expression$Operator", "ordinal", "()I"⟩ : MethodName)) (y := (⟨"java/lang/Enum", "ordinal", "()I"⟩ : MethodName)) (owner := "java/lang/Enum") hown (mvT hZ (hw _ (List.mem_of_getElem? (i := 27) rfl))) (mvT hZ (hw _ (List.mem_of_getElem? (i := 28) rfl))) (mvT hZ (hw _ (List.mem_of_getElem? (i := 29) rfl))) (by decide) (mvT hZ (hw _ (List.mem_of_getElem? (i := 31) rfl))) (mvT hZ (hw _ (List.mem_of_getElem? (i := 30) rfl))) (backOf (W := 0) (rmOrd l Z a0 hw [] sNE (1 : Int32) h0 n0 hz1 (FsNE.ext O0.2)) hZ (hw _ (List.mem_of_getElem? (i := 33) rfl)) (hw _ (List.mem_of_getElem? (i := 32) rfl)) (by decide) (by decide)) q1a q1c (g := (mkF m 1 #[.val (.ref sNE)] [(.ref sNE)])) rfl (by rw [hml]; rfl) (Steps.refl _) (argsL := []) (rest := []) (lenOf pd_0 rfl) rfl (by show 2 * 0 + _ ≤ _; exact Nat.le_of_eq rfl) (hb hby d3_1) (fun _ _ => ⟨rfl, e0, (by decide : 0 + 0 ≤ _), (by decide : 0 + 0 ≤ _)⟩)
  dsimp only [Pt.U, Pt.locs, Pt.cells, Pt.slots] at X1 l1 y1 z1 st1 hQ1
  subst l1 y1 z1
  obtain ⟨rfl, N1q, eh1⟩ := hQ1
  have N1 := Fr.app N0 N1q
  refine oSt st1 ?_
  show oGl p e below (T1.setTop (mkF m 4 #[.val (.ref sNE)] [(.int (1 : Int32))])) _
  refine oOn (fun _ kK => XS.tswIn X1.here hx rfl (pc0 := 4) (pc' := 60) rfl (hb hby d3_4) rfl (by decide) rfl (by decide) (by decide) kK) ?_
  show oGl p e below (T1.setTop (mkF m 60 #[.val (.ref sNE)] [])) _
  obtain ⟨T2, X2, e2, st2⟩ := getS2 X1 hx hZ hown (host := "") (Or.inl (hw _ (List.mem_of_getElem? (i := 43) rfl))) Via.refl eh1 (SsEQ.ext O0.2) (g := (mkF m 60 #[.val (.ref sNE)] [])) rfl (hb hby d3_60)
  refine oOn st2 ?_
  show oGl p e below (T2.setTop (mkF m 63 #[.val (.ref sNE)] [(.ref sEQ)])) _
  refine oRetR X2 hx Bd.notSynchronized Bd.returns rfl rfl (hb hby d3_63) (by decide) (by decide) ?_
  show Q_rmNeg_NE Z sEQ sIS_NULL sNOT_NULL sIN sNOT_IN sNE sLE sGT sLT sGE h0 n0 _ T2.heap _
  rw [e2]
  exact ⟨rfl, N1, rfl⟩
theorem d3_64 : decode prog_66_method_4_code 64 = .ok (.getstatic 19, 3) := by decide +kernel
theorem d3_67 : decode prog_66_method_4_code 67 = .ok (.areturn, 1) := by decide +kernel
theorem ef_rmNeg_LT (m : MethodId) (x0 : Addr)  : entryFrame m #[(.ref x0)] 1 = mkF m 0 #[.val (.ref x0)] [] := by first | rfl | (simp [entryFrame, mkF, argsToLocals, Value.category, maxLocals]; done)
def Q_rmNeg_LT (Z : State) (sEQ : Addr) (sIS_NULL : Addr) (sNOT_NULL : Addr) (sIN : Addr) (sNOT_IN : Addr) (sNE : Addr) (sLE : Addr) (sGT : Addr) (sLT : Addr) (sGE : Addr) (h0 : Heap) (n0 : Nat) (vv : Option Value) (h : Heap) (L : List Loc) : Prop := vv = some (.ref sGE) ∧ Fr n0 L ∧ h = h0
set_option maxRecDepth 65536 in
set_option maxHeartbeats 40000000 in
theorem rmNeg_LT (l : Launch) (Z : State) (a0 : Array Value) (hw : ∀ d ∈ tables_1, d.before a0 Z = true) (ws : List Jvm.Cond) (sEQ : Addr) (sIS_NULL : Addr) (sNOT_NULL : Addr) (sIN : Addr) (sNOT_IN : Addr) (sNE : Addr) (sLE : Addr) (sGT : Addr) (sLT : Addr) (sGE : Addr) (h0 : Heap) (n0 : Nat) (Z0 : n0 ≤ h0.size) (O0 : Old Z n0 h0) (SsEQ : Sta Z Z.heap "com/example/moraine/moraine/model/Expression$Operator" "EQ" "Lcom/example/moraine/moraine/model/Expression$Operator;" (.ref sEQ)) (EsEQ : Exa Z Z.heap sEQ "com/example/moraine/moraine/model/Expression$Operator") (FsEQ : Fld Z Z.heap sEQ "java/lang/Enum" "ordinal" "I" (.int 0)) (SsIS_NULL : Sta Z Z.heap "com/example/moraine/moraine/model/Expression$Operator" "IS_NULL" "Lcom/example/moraine/moraine/model/Expression$Operator;" (.ref sIS_NULL)) (EsIS_NULL : Exa Z Z.heap sIS_NULL "com/example/moraine/moraine/model/Expression$Operator") (FsIS_NULL : Fld Z Z.heap sIS_NULL "java/lang/Enum" "ordinal" "I" (.int 6)) (SsNOT_NULL : Sta Z Z.heap "com/example/moraine/moraine/model/Expression$Operator" "NOT_NULL" "Lcom/example/moraine/moraine/model/Expression$Operator;" (.ref sNOT_NULL)) (EsNOT_NULL : Exa Z Z.heap sNOT_NULL "com/example/moraine/moraine/model/Expression$Operator") (FsNOT_NULL : Fld Z Z.heap sNOT_NULL "java/lang/Enum" "ordinal" "I" (.int 7)) (SsIN : Sta Z Z.heap "com/example/moraine/moraine/model/Expression$Operator" "IN" "Lcom/example/moraine/moraine/model/Expression$Operator;" (.ref sIN)) (EsIN : Exa Z Z.heap sIN "com/example/moraine/moraine/model/Expression$Operator") (FsIN : Fld Z Z.heap sIN "java/lang/Enum" "ordinal" "I" (.int 8)) (SsNOT_IN : Sta Z Z.heap "com/example/moraine/moraine/model/Expression$Operator" "NOT_IN" "Lcom/example/moraine/moraine/model/Expression$Operator;" (.ref sNOT_IN)) (EsNOT_IN : Exa Z Z.heap sNOT_IN "com/example/moraine/moraine/model/Expression$Operator") (FsNOT_IN : Fld Z Z.heap sNOT_IN "java/lang/Enum" "ordinal" "I" (.int 9)) (SsNE : Sta Z Z.heap "com/example/moraine/moraine/model/Expression$Operator" "NE" "Lcom/example/moraine/moraine/model/Expression$Operator;" (.ref sNE)) (EsNE : Exa Z Z.heap sNE "com/example/moraine/moraine/model/Expression$Operator") (FsNE : Fld Z Z.heap sNE "java/lang/Enum" "ordinal" "I" (.int 1)) (SsLE : Sta Z Z.heap "com/example/moraine/moraine/model/Expression$Operator" "LE" "Lcom/example/moraine/moraine/model/Expression$Operator;" (.ref sLE)) (EsLE : Exa Z Z.heap sLE "com/example/moraine/moraine/model/Expression$Operator") (FsLE : Fld Z Z.heap sLE "java/lang/Enum" "ordinal" "I" (.int 3)) (SsGT : Sta Z Z.heap "com/example/moraine/moraine/model/Expression$Operator" "GT" "Lcom/example/moraine/moraine/model/Expression$Operator;" (.ref sGT)) (EsGT : Exa Z Z.heap sGT "com/example/moraine/moraine/model/Expression$Operator") (FsGT : Fld Z Z.heap sGT "java/lang/Enum" "ordinal" "I" (.int 4)) (SsLT : Sta Z Z.heap "com/example/moraine/moraine/model/Expression$Operator" "LT" "Lcom/example/moraine/moraine/model/Expression$Operator;" (.ref sLT)) (EsLT : Exa Z Z.heap sLT "com/example/moraine/moraine/model/Expression$Operator") (FsLT : Fld Z Z.heap sLT "java/lang/Enum" "ordinal" "I" (.int 2)) (SsGE : Sta Z Z.heap "com/example/moraine/moraine/model/Expression$Operator" "GE" "Lcom/example/moraine/moraine/model/Expression$Operator;" (.ref sGE)) (EsGE : Exa Z Z.heap sGE "com/example/moraine/moraine/model/Expression$Operator") (FsGE : Fld Z Z.heap sGE "java/lang/Enum" "ordinal" "I" (.int 5)) :
    MetFree l (⟨"com/example/moraine/moraine/model/Expression$Operator", "negation", "()Lcom/example/moraine/moraine/model/Expression$Operator;"⟩ : MethodName) (head1 (Jvm.Cond.code (⟨"com/example/moraine/moraine/model/Expression$Operator", "negation", "()Lcom/example/moraine/moraine/model/Expression$Operator;"⟩ : MethodName) prog_66_method_4_code 1 (some (.object "com/example/moraine/moraine/model/Expression$Operator")) :: ws) ({ frames := 1, cells := 0, slots := 0, locals := 12 } : Room)) (fun aA uU => aA = #[(.ref sLT)] ∧ Z.Warmed39 uU.vm ∧ uU.heap = h0) (fun _ _ _ _ _ => True) (fun _ uU oO uU' => ∃ vV lL, oO = .returned vV ∧ Q_rmNeg_LT Z sEQ sIS_NULL sNOT_NULL sIN sNOT_IN sNE sLE sGT sLT sGE h0 n0 vV uU'.heap lL ∧ FrameEnd uU oO uU' lL ({ frames := 1, cells := 0, slots := 0, locals := 12 } : Room).cells ({ frames := 1, cells := 0, slots := 0, locals := 12 } : Room).slots) := by
  refine MetFree.of_bodySF (plainFor_of_name pn_Expression_Operator) hisR ?_
  intro p e s m args below meth c s₁ Bd hml0 hP hK
  obtain ⟨rfl, hZ, hh⟩ := hP
  have hx := Bd.exec
  have hby := Bd.bytes
  have hml : c.maxLocals = 1 := hml0
  have hown : s.vm.findClass "com/example/moraine/moraine/model/Expression$Operator" = some m.cls := findClass_of_methodNamed Bd.named
  have hnm := (name_of_methodNamed Bd.named Bd.method).1
  have X0 : Stand p l e ({ frames := 1, cells := 0, slots := 0, locals := 12 } : Room) s m #[(.ref sLT)] below meth c s₁ [] 0 0 := Stand.of_body Bd
  have e0 : s₁.heap = h0 := by rw [← hh, Bd.state]; rfl
  have N0 := Fr.nil n0
  refine oEnter (oCast (ef_rmNeg_LT m sLT ) ?_)
  show oGl p e below (s₁.setTop (mkF m 0 #[.val (.ref sLT)] [])) _
  refine saloadN X0 hx (hb hby d3_0) rfl rfl rfl (pc' := 1) ?_
  have hz1 : n0 ≤ h0.size := by omega
  obtain ⟨cq1, kq1, q1a, q1b, q1c⟩ := isOf hZ e0 (EsLT.ext O0.2)
  obtain ⟨_, _, ⟨T1, L1, k1, n1⟩, -, X1, ⟨Lc1, hQ1, l1, y1, z1⟩, st1⟩ := X0.virtualBackUp hx (x := (⟨"com/example/moraine/moraine/model/Expression$Operator", "ordinal", "()I"⟩ : MethodName)) (y := (⟨"java/lang/Enum", "ordinal", "()I"⟩ : MethodName)) (owner := "java/lang/Enum") hown (mvT hZ (hw _ (List.mem_of_getElem? (i := 27) rfl))) (mvT hZ (hw _ (List.mem_of_getElem? (i := 28) rfl))) (mvT hZ (hw _ (List.mem_of_getElem? (i := 29) rfl))) (by decide) (mvT hZ (hw _ (List.mem_of_getElem? (i := 31) rfl))) (mvT hZ (hw _ (List.mem_of_getElem? (i := 30) rfl))) (backOf (W := 0) (rmOrd l Z a0 hw [] sLT (2 : Int32) h0 n0 hz1 (FsLT.ext O0.2)) hZ (hw _ (List.mem_of_getElem? (i := 33) rfl)) (hw _ (List.mem_of_getElem? (i := 32) rfl)) (by decide) (by decide)) q1a q1c (g := (mkF m 1 #[.val (.ref sLT)] [(.ref sLT)])) rfl (by rw [hml]; rfl) (Steps.refl _) (argsL := []) (rest := []) (lenOf pd_0 rfl) rfl (by show 2 * 0 + _ ≤ _; exact Nat.le_of_eq rfl) (hb hby d3_1) (fun _ _ => ⟨rfl, e0, (by decide : 0 + 0 ≤ _), (by decide : 0 + 0 ≤ _)⟩)
  dsimp only [Pt.U, Pt.locs, Pt.cells, Pt.slots] at X1 l1 y1 z1 st1 hQ1
  subst l1 y1 z1
  obtain ⟨rfl, N1q, eh1⟩ := hQ1
  have N1 := Fr.app N0 N1q
  refine oSt st1 ?_
  show oGl p e below (T1.setTop (mkF m 4 #[.val (.ref sLT)] [(.int (2 : Int32))])) _
  refine oOn (fun _ kK => XS.tswIn X1.here hx rfl (pc0 := 4) (pc' := 64) rfl (hb hby d3_4) rfl (by decide) rfl (by decide) (by decide) kK) ?_
  show oGl p e below (T1.setTop (mkF m 64 #[.val (.ref sLT)] [])) _
  obtain ⟨T2, X2, e2, st2⟩ := getS2 X1 hx hZ hown (host := "") (Or.inl (hw _ (List.mem_of_getElem? (i := 49) rfl))) Via.refl eh1 (SsGE.ext O0.2) (g := (mkF m 64 #[.val (.ref sLT)] [])) rfl (hb hby d3_64)
  refine oOn st2 ?_
  show oGl p e below (T2.setTop (mkF m 67 #[.val (.ref sLT)] [(.ref sGE)])) _
  refine oRetR X2 hx Bd.notSynchronized Bd.returns rfl rfl (hb hby d3_67) (by decide) (by decide) ?_
  show Q_rmNeg_LT Z sEQ sIS_NULL sNOT_NULL sIN sNOT_IN sNE sLE sGT sLT sGE h0 n0 _ T2.heap _
  rw [e2]
  exact ⟨rfl, N1, rfl⟩
theorem d3_72 : decode prog_66_method_4_code 72 = .ok (.getstatic 16, 3) := by decide +kernel
theorem d3_75 : decode prog_66_method_4_code 75 = .ok (.areturn, 1) := by decide +kernel
theorem ef_rmNeg_LE (m : MethodId) (x0 : Addr)  : entryFrame m #[(.ref x0)] 1 = mkF m 0 #[.val (.ref x0)] [] := by first | rfl | (simp [entryFrame, mkF, argsToLocals, Value.category, maxLocals]; done)
def Q_rmNeg_LE (Z : State) (sEQ : Addr) (sIS_NULL : Addr) (sNOT_NULL : Addr) (sIN : Addr) (sNOT_IN : Addr) (sNE : Addr) (sLE : Addr) (sGT : Addr) (sLT : Addr) (sGE : Addr) (h0 : Heap) (n0 : Nat) (vv : Option Value) (h : Heap) (L : List Loc) : Prop := vv = some (.ref sGT) ∧ Fr n0 L ∧ h = h0
set_option maxRecDepth 65536 in
set_option maxHeartbeats 40000000 in
theorem rmNeg_LE (l : Launch) (Z : State) (a0 : Array Value) (hw : ∀ d ∈ tables_1, d.before a0 Z = true) (ws : List Jvm.Cond) (sEQ : Addr) (sIS_NULL : Addr) (sNOT_NULL : Addr) (sIN : Addr) (sNOT_IN : Addr) (sNE : Addr) (sLE : Addr) (sGT : Addr) (sLT : Addr) (sGE : Addr) (h0 : Heap) (n0 : Nat) (Z0 : n0 ≤ h0.size) (O0 : Old Z n0 h0) (SsEQ : Sta Z Z.heap "com/example/moraine/moraine/model/Expression$Operator" "EQ" "Lcom/example/moraine/moraine/model/Expression$Operator;" (.ref sEQ)) (EsEQ : Exa Z Z.heap sEQ "com/example/moraine/moraine/model/Expression$Operator") (FsEQ : Fld Z Z.heap sEQ "java/lang/Enum" "ordinal" "I" (.int 0)) (SsIS_NULL : Sta Z Z.heap "com/example/moraine/moraine/model/Expression$Operator" "IS_NULL" "Lcom/example/moraine/moraine/model/Expression$Operator;" (.ref sIS_NULL)) (EsIS_NULL : Exa Z Z.heap sIS_NULL "com/example/moraine/moraine/model/Expression$Operator") (FsIS_NULL : Fld Z Z.heap sIS_NULL "java/lang/Enum" "ordinal" "I" (.int 6)) (SsNOT_NULL : Sta Z Z.heap "com/example/moraine/moraine/model/Expression$Operator" "NOT_NULL" "Lcom/example/moraine/moraine/model/Expression$Operator;" (.ref sNOT_NULL)) (EsNOT_NULL : Exa Z Z.heap sNOT_NULL "com/example/moraine/moraine/model/Expression$Operator") (FsNOT_NULL : Fld Z Z.heap sNOT_NULL "java/lang/Enum" "ordinal" "I" (.int 7)) (SsIN : Sta Z Z.heap "com/example/moraine/moraine/model/Expression$Operator" "IN" "Lcom/example/moraine/moraine/model/Expression$Operator;" (.ref sIN)) (EsIN : Exa Z Z.heap sIN "com/example/moraine/moraine/model/Expression$Operator") (FsIN : Fld Z Z.heap sIN "java/lang/Enum" "ordinal" "I" (.int 8)) (SsNOT_IN : Sta Z Z.heap "com/example/moraine/moraine/model/Expression$Operator" "NOT_IN" "Lcom/example/moraine/moraine/model/Expression$Operator;" (.ref sNOT_IN)) (EsNOT_IN : Exa Z Z.heap sNOT_IN "com/example/moraine/moraine/model/Expression$Operator") (FsNOT_IN : Fld Z Z.heap sNOT_IN "java/lang/Enum" "ordinal" "I" (.int 9)) (SsNE : Sta Z Z.heap "com/example/moraine/moraine/model/Expression$Operator" "NE" "Lcom/example/moraine/moraine/model/Expression$Operator;" (.ref sNE)) (EsNE : Exa Z Z.heap sNE "com/example/moraine/moraine/model/Expression$Operator") (FsNE : Fld Z Z.heap sNE "java/lang/Enum" "ordinal" "I" (.int 1)) (SsLE : Sta Z Z.heap "com/example/moraine/moraine/model/Expression$Operator" "LE" "Lcom/example/moraine/moraine/model/Expression$Operator;" (.ref sLE)) (EsLE : Exa Z Z.heap sLE "com/example/moraine/moraine/model/Expression$Operator") (FsLE : Fld Z Z.heap sLE "java/lang/Enum" "ordinal" "I" (.int 3)) (SsGT : Sta Z Z.heap "com/example/moraine/moraine/model/Expression$Operator" "GT" "Lcom/example/moraine/moraine/model/Expression$Operator;" (.ref sGT)) (EsGT : Exa Z Z.heap sGT "com/example/moraine/moraine/model/Expression$Operator") (FsGT : Fld Z Z.heap sGT "java/lang/Enum" "ordinal" "I" (.int 4)) (SsLT : Sta Z Z.heap "com/example/moraine/moraine/model/Expression$Operator" "LT" "Lcom/example/moraine/moraine/model/Expression$Operator;" (.ref sLT)) (EsLT : Exa Z Z.heap sLT "com/example/moraine/moraine/model/Expression$Operator") (FsLT : Fld Z Z.heap sLT "java/lang/Enum" "ordinal" "I" (.int 2)) (SsGE : Sta Z Z.heap "com/example/moraine/moraine/model/Expression$Operator" "GE" "Lcom/example/moraine/moraine/model/Expression$Operator;" (.ref sGE)) (EsGE : Exa Z Z.heap sGE "com/example/moraine/moraine/model/Expression$Operator") (FsGE : Fld Z Z.heap sGE "java/lang/Enum" "ordinal" "I" (.int 5)) :
    MetFree l (⟨"com/example/moraine/moraine/model/Expression$Operator", "negation", "()Lcom/example/moraine/moraine/model/Expression$Operator;"⟩ : MethodName) (head1 (Jvm.Cond.code (⟨"com/example/moraine/moraine/model/Expression$Operator", "negation", "()Lcom/example/moraine/moraine/model/Expression$Operator;"⟩ : MethodName) prog_66_method_4_code 1 (some (.object "com/example/moraine/moraine/model/Expression$Operator")) :: ws) ({ frames := 1, cells := 0, slots := 0, locals := 12 } : Room)) (fun aA uU => aA = #[(.ref sLE)] ∧ Z.Warmed39 uU.vm ∧ uU.heap = h0) (fun _ _ _ _ _ => True) (fun _ uU oO uU' => ∃ vV lL, oO = .returned vV ∧ Q_rmNeg_LE Z sEQ sIS_NULL sNOT_NULL sIN sNOT_IN sNE sLE sGT sLT sGE h0 n0 vV uU'.heap lL ∧ FrameEnd uU oO uU' lL ({ frames := 1, cells := 0, slots := 0, locals := 12 } : Room).cells ({ frames := 1, cells := 0, slots := 0, locals := 12 } : Room).slots) := by
  refine MetFree.of_bodySF (plainFor_of_name pn_Expression_Operator) hisR ?_
  intro p e s m args below meth c s₁ Bd hml0 hP hK
  obtain ⟨rfl, hZ, hh⟩ := hP
  have hx := Bd.exec
  have hby := Bd.bytes
  have hml : c.maxLocals = 1 := hml0
  have hown : s.vm.findClass "com/example/moraine/moraine/model/Expression$Operator" = some m.cls := findClass_of_methodNamed Bd.named
  have hnm := (name_of_methodNamed Bd.named Bd.method).1
  have X0 : Stand p l e ({ frames := 1, cells := 0, slots := 0, locals := 12 } : Room) s m #[(.ref sLE)] below meth c s₁ [] 0 0 := Stand.of_body Bd
  have e0 : s₁.heap = h0 := by rw [← hh, Bd.state]; rfl
  have N0 := Fr.nil n0
  refine oEnter (oCast (ef_rmNeg_LE m sLE ) ?_)
  show oGl p e below (s₁.setTop (mkF m 0 #[.val (.ref sLE)] [])) _
  refine saloadN X0 hx (hb hby d3_0) rfl rfl rfl (pc' := 1) ?_
  have hz1 : n0 ≤ h0.size := by omega
  obtain ⟨cq1, kq1, q1a, q1b, q1c⟩ := isOf hZ e0 (EsLE.ext O0.2)
  obtain ⟨_, _, ⟨T1, L1, k1, n1⟩, -, X1, ⟨Lc1, hQ1, l1, y1, z1⟩, st1⟩ := X0.virtualBackUp hx (x := (⟨"com/example/moraine/moraine/model/Expression$Operator", "ordinal", "()I"⟩ : MethodName)) (y := (⟨"java/lang/Enum", "ordinal", "()I"⟩ : MethodName)) (owner := "java/lang/Enum") hown (mvT hZ (hw _ (List.mem_of_getElem? (i := 27) rfl))) (mvT hZ (hw _ (List.mem_of_getElem? (i := 28) rfl))) (mvT hZ (hw _ (List.mem_of_getElem? (i := 29) rfl))) (by decide) (mvT hZ (hw _ (List.mem_of_getElem? (i := 31) rfl))) (mvT hZ (hw _ (List.mem_of_getElem? (i := 30) rfl))) (backOf (W := 0) (rmOrd l Z a0 hw [] sLE (3 : Int32) h0 n0 hz1 (FsLE.ext O0.2)) hZ (hw _ (List.mem_of_getElem? (i := 33) rfl)) (hw _ (List.mem_of_getElem? (i := 32) rfl)) (by decide) (by decide)) q1a q1c (g := (mkF m 1 #[.val (.ref sLE)] [(.ref sLE)])) rfl (by rw [hml]; rfl) (Steps.refl _) (argsL := []) (rest := []) (lenOf pd_0 rfl) rfl (by show 2 * 0 + _ ≤ _; exact Nat.le_of_eq rfl) (hb hby d3_1) (fun _ _ => ⟨rfl, e0, (by decide : 0 + 0 ≤ _), (by decide : 0 + 0 ≤ _)⟩)
  dsimp only [Pt.U, Pt.locs, Pt.cells, Pt.slots] at X1 l1 y1 z1 st1 hQ1
  subst l1 y1 z1
  obtain ⟨rfl, N1q, eh1⟩ := hQ1
  have N1 := Fr.app N0 N1q
  refine oSt st1 ?_
  show oGl p e below (T1.setTop (mkF m 4 #[.val (.ref sLE)] [(.int (3 : Int32))])) _
  refine oOn (fun _ kK => XS.tswIn X1.here hx rfl (pc0 := 4) (pc' := 72) rfl (hb hby d3_4) rfl (by decide) rfl (by decide) (by decide) kK) ?_
  show oGl p e below (T1.setTop (mkF m 72 #[.val (.ref sLE)] [])) _
  obtain ⟨T2, X2, e2, st2⟩ := getS2 X1 hx hZ hown (host := "") (Or.inl (hw _ (List.mem_of_getElem? (i := 40) rfl))) Via.refl eh1 (SsGT.ext O0.2) (g := (mkF m 72 #[.val (.ref sLE)] [])) rfl (hb hby d3_72)
  refine oOn st2 ?_
  show oGl p e below (T2.setTop (mkF m 75 #[.val (.ref sLE)] [(.ref sGT)])) _
  refine oRetR X2 hx Bd.notSynchronized Bd.returns rfl rfl (hb hby d3_75) (by decide) (by decide) ?_
  show Q_rmNeg_LE Z sEQ sIS_NULL sNOT_NULL sIN sNOT_IN sNE sLE sGT sLT sGE h0 n0 _ T2.heap _
  rw [e2]
  exact ⟨rfl, N1, rfl⟩
theorem d3_76 : decode prog_66_method_4_code 76 = .ok (.getstatic 13, 3) := by decide +kernel
theorem d3_79 : decode prog_66_method_4_code 79 = .ok (.areturn, 1) := by decide +kernel
theorem ef_rmNeg_GT (m : MethodId) (x0 : Addr)  : entryFrame m #[(.ref x0)] 1 = mkF m 0 #[.val (.ref x0)] [] := by first | rfl | (simp [entryFrame, mkF, argsToLocals, Value.category, maxLocals]; done)
def Q_rmNeg_GT (Z : State) (sEQ : Addr) (sIS_NULL : Addr) (sNOT_NULL : Addr) (sIN : Addr) (sNOT_IN : Addr) (sNE : Addr) (sLE : Addr) (sGT : Addr) (sLT : Addr) (sGE : Addr) (h0 : Heap) (n0 : Nat) (vv : Option Value) (h : Heap) (L : List Loc) : Prop := vv = some (.ref sLE) ∧ Fr n0 L ∧ h = h0
set_option maxRecDepth 65536 in
set_option maxHeartbeats 40000000 in
theorem rmNeg_GT (l : Launch) (Z : State) (a0 : Array Value) (hw : ∀ d ∈ tables_1, d.before a0 Z = true) (ws : List Jvm.Cond) (sEQ : Addr) (sIS_NULL : Addr) (sNOT_NULL : Addr) (sIN : Addr) (sNOT_IN : Addr) (sNE : Addr) (sLE : Addr) (sGT : Addr) (sLT : Addr) (sGE : Addr) (h0 : Heap) (n0 : Nat) (Z0 : n0 ≤ h0.size) (O0 : Old Z n0 h0) (SsEQ : Sta Z Z.heap "com/example/moraine/moraine/model/Expression$Operator" "EQ" "Lcom/example/moraine/moraine/model/Expression$Operator;" (.ref sEQ)) (EsEQ : Exa Z Z.heap sEQ "com/example/moraine/moraine/model/Expression$Operator") (FsEQ : Fld Z Z.heap sEQ "java/lang/Enum" "ordinal" "I" (.int 0)) (SsIS_NULL : Sta Z Z.heap "com/example/moraine/moraine/model/Expression$Operator" "IS_NULL" "Lcom/example/moraine/moraine/model/Expression$Operator;" (.ref sIS_NULL)) (EsIS_NULL : Exa Z Z.heap sIS_NULL "com/example/moraine/moraine/model/Expression$Operator") (FsIS_NULL : Fld Z Z.heap sIS_NULL "java/lang/Enum" "ordinal" "I" (.int 6)) (SsNOT_NULL : Sta Z Z.heap "com/example/moraine/moraine/model/Expression$Operator" "NOT_NULL" "Lcom/example/moraine/moraine/model/Expression$Operator;" (.ref sNOT_NULL)) (EsNOT_NULL : Exa Z Z.heap sNOT_NULL "com/example/moraine/moraine/model/Expression$Operator") (FsNOT_NULL : Fld Z Z.heap sNOT_NULL "java/lang/Enum" "ordinal" "I" (.int 7)) (SsIN : Sta Z Z.heap "com/example/moraine/moraine/model/Expression$Operator" "IN" "Lcom/example/moraine/moraine/model/Expression$Operator;" (.ref sIN)) (EsIN : Exa Z Z.heap sIN "com/example/moraine/moraine/model/Expression$Operator") (FsIN : Fld Z Z.heap sIN "java/lang/Enum" "ordinal" "I" (.int 8)) (SsNOT_IN : Sta Z Z.heap "com/example/moraine/moraine/model/Expression$Operator" "NOT_IN" "Lcom/example/moraine/moraine/model/Expression$Operator;" (.ref sNOT_IN)) (EsNOT_IN : Exa Z Z.heap sNOT_IN "com/example/moraine/moraine/model/Expression$Operator") (FsNOT_IN : Fld Z Z.heap sNOT_IN "java/lang/Enum" "ordinal" "I" (.int 9)) (SsNE : Sta Z Z.heap "com/example/moraine/moraine/model/Expression$Operator" "NE" "Lcom/example/moraine/moraine/model/Expression$Operator;" (.ref sNE)) (EsNE : Exa Z Z.heap sNE "com/example/moraine/moraine/model/Expression$Operator") (FsNE : Fld Z Z.heap sNE "java/lang/Enum" "ordinal" "I" (.int 1)) (SsLE : Sta Z Z.heap "com/example/moraine/moraine/model/Expression$Operator" "LE" "Lcom/example/moraine/moraine/model/Expression$Operator;" (.ref sLE)) (EsLE : Exa Z Z.heap sLE "com/example/moraine/moraine/model/Expression$Operator") (FsLE : Fld Z Z.heap sLE "java/lang/Enum" "ordinal" "I" (.int 3)) (SsGT : Sta Z Z.heap "com/example/moraine/moraine/model/Expression$Operator" "GT" "Lcom/example/moraine/moraine/model/Expression$Operator;" (.ref sGT)) (EsGT : Exa Z Z.heap sGT "com/example/moraine/moraine/model/Expression$Operator") (FsGT : Fld Z Z.heap sGT "java/lang/Enum" "ordinal" "I" (.int 4)) (SsLT : Sta Z Z.heap "com/example/moraine/moraine/model/Expression$Operator" "LT" "Lcom/example/moraine/moraine/model/Expression$Operator;" (.ref sLT)) (EsLT : Exa Z Z.heap sLT "com/example/moraine/moraine/model/Expression$Operator") (FsLT : Fld Z Z.heap sLT "java/lang/Enum" "ordinal" "I" (.int 2)) (SsGE : Sta Z Z.heap "com/example/moraine/moraine/model/Expression$Operator" "GE" "Lcom/example/moraine/moraine/model/Expression$Operator;" (.ref sGE)) (EsGE : Exa Z Z.heap sGE "com/example/moraine/moraine/model/Expression$Operator") (FsGE : Fld Z Z.heap sGE "java/lang/Enum" "ordinal" "I" (.int 5)) :
    MetFree l (⟨"com/example/moraine/moraine/model/Expression$Operator", "negation", "()Lcom/example/moraine/moraine/model/Expression$Operator;"⟩ : MethodName) (head1 (Jvm.Cond.code (⟨"com/example/moraine/moraine/model/Expression$Operator", "negation", "()Lcom/example/moraine/moraine/model/Expression$Operator;"⟩ : MethodName) prog_66_method_4_code 1 (some (.object "com/example/moraine/moraine/model/Expression$Operator")) :: ws) ({ frames := 1, cells := 0, slots := 0, locals := 12 } : Room)) (fun aA uU => aA = #[(.ref sGT)] ∧ Z.Warmed39 uU.vm ∧ uU.heap = h0) (fun _ _ _ _ _ => True) (fun _ uU oO uU' => ∃ vV lL, oO = .returned vV ∧ Q_rmNeg_GT Z sEQ sIS_NULL sNOT_NULL sIN sNOT_IN sNE sLE sGT sLT sGE h0 n0 vV uU'.heap lL ∧ FrameEnd uU oO uU' lL ({ frames := 1, cells := 0, slots := 0, locals := 12 } : Room).cells ({ frames := 1, cells := 0, slots := 0, locals := 12 } : Room).slots) := by
  refine MetFree.of_bodySF (plainFor_of_name pn_Expression_Operator) hisR ?_
  intro p e s m args below meth c s₁ Bd hml0 hP hK
  obtain ⟨rfl, hZ, hh⟩ := hP
  have hx := Bd.exec
  have hby := Bd.bytes
  have hml : c.maxLocals = 1 := hml0
  have hown : s.vm.findClass "com/example/moraine/moraine/model/Expression$Operator" = some m.cls := findClass_of_methodNamed Bd.named
  have hnm := (name_of_methodNamed Bd.named Bd.method).1
  have X0 : Stand p l e ({ frames := 1, cells := 0, slots := 0, locals := 12 } : Room) s m #[(.ref sGT)] below meth c s₁ [] 0 0 := Stand.of_body Bd
  have e0 : s₁.heap = h0 := by rw [← hh, Bd.state]; rfl
  have N0 := Fr.nil n0
  refine oEnter (oCast (ef_rmNeg_GT m sGT ) ?_)
  show oGl p e below (s₁.setTop (mkF m 0 #[.val (.ref sGT)] [])) _
  refine saloadN X0 hx (hb hby d3_0) rfl rfl rfl (pc' := 1) ?_
  have hz1 : n0 ≤ h0.size := by omega
  obtain ⟨cq1, kq1, q1a, q1b, q1c⟩ := isOf hZ e0 (EsGT.ext O0.2)
  obtain ⟨_, _, ⟨T1, L1, k1, n1⟩, -, X1, ⟨Lc1, hQ1, l1, y1, z1⟩, st1⟩ := X0.virtualBackUp hx (x := (⟨"com/example/moraine/moraine/model/Expression$Operator", "ordinal", "()I"⟩ : MethodName)) (y := (⟨"java/lang/Enum", "ordinal", "()I"⟩ : MethodName)) (owner := "java/lang/Enum") hown (mvT hZ (hw _ (List.mem_of_getElem? (i := 27) rfl))) (mvT hZ (hw _ (List.mem_of_getElem? (i := 28) rfl))) (mvT hZ (hw _ (List.mem_of_getElem? (i := 29) rfl))) (by decide) (mvT hZ (hw _ (List.mem_of_getElem? (i := 31) rfl))) (mvT hZ (hw _ (List.mem_of_getElem? (i := 30) rfl))) (backOf (W := 0) (rmOrd l Z a0 hw [] sGT (4 : Int32) h0 n0 hz1 (FsGT.ext O0.2)) hZ (hw _ (List.mem_of_getElem? (i := 33) rfl)) (hw _ (List.mem_of_getElem? (i := 32) rfl)) (by decide) (by decide)) q1a q1c (g := (mkF m 1 #[.val (.ref sGT)] [(.ref sGT)])) rfl (by rw [hml]; rfl) (Steps.refl _) (argsL := []) (rest := []) (lenOf pd_0 rfl) rfl (by show 2 * 0 + _ ≤ _; exact Nat.le_of_eq rfl) (hb hby d3_1) (fun _ _ => ⟨rfl, e0, (by decide : 0 + 0 ≤ _), (by decide : 0 + 0 ≤ _)⟩)
  dsimp only [Pt.U, Pt.locs, Pt.cells, Pt.slots] at X1 l1 y1 z1 st1 hQ1
  subst l1 y1 z1
  obtain ⟨rfl, N1q, eh1⟩ := hQ1
  have N1 := Fr.app N0 N1q
  refine oSt st1 ?_
  show oGl p e below (T1.setTop (mkF m 4 #[.val (.ref sGT)] [(.int (4 : Int32))])) _
  refine oOn (fun _ kK => XS.tswIn X1.here hx rfl (pc0 := 4) (pc' := 76) rfl (hb hby d3_4) rfl (by decide) rfl (by decide) (by decide) kK) ?_
  show oGl p e below (T1.setTop (mkF m 76 #[.val (.ref sGT)] [])) _
  obtain ⟨T2, X2, e2, st2⟩ := getS2 X1 hx hZ hown (host := "") (Or.inl (hw _ (List.mem_of_getElem? (i := 45) rfl))) Via.refl eh1 (SsLE.ext O0.2) (g := (mkF m 76 #[.val (.ref sGT)] [])) rfl (hb hby d3_76)
  refine oOn st2 ?_
  show oGl p e below (T2.setTop (mkF m 79 #[.val (.ref sGT)] [(.ref sLE)])) _
  refine oRetR X2 hx Bd.notSynchronized Bd.returns rfl rfl (hb hby d3_79) (by decide) (by decide) ?_
  show Q_rmNeg_GT Z sEQ sIS_NULL sNOT_NULL sIN sNOT_IN sNE sLE sGT sLT sGE h0 n0 _ T2.heap _
  rw [e2]
  exact ⟨rfl, N1, rfl⟩
theorem d3_68 : decode prog_66_method_4_code 68 = .ok (.getstatic 10, 3) := by decide +kernel
theorem d3_71 : decode prog_66_method_4_code 71 = .ok (.areturn, 1) := by decide +kernel
theorem ef_rmNeg_GE (m : MethodId) (x0 : Addr)  : entryFrame m #[(.ref x0)] 1 = mkF m 0 #[.val (.ref x0)] [] := by first | rfl | (simp [entryFrame, mkF, argsToLocals, Value.category, maxLocals]; done)
def Q_rmNeg_GE (Z : State) (sEQ : Addr) (sIS_NULL : Addr) (sNOT_NULL : Addr) (sIN : Addr) (sNOT_IN : Addr) (sNE : Addr) (sLE : Addr) (sGT : Addr) (sLT : Addr) (sGE : Addr) (h0 : Heap) (n0 : Nat) (vv : Option Value) (h : Heap) (L : List Loc) : Prop := vv = some (.ref sLT) ∧ Fr n0 L ∧ h = h0
set_option maxRecDepth 65536 in
set_option maxHeartbeats 40000000 in
theorem rmNeg_GE (l : Launch) (Z : State) (a0 : Array Value) (hw : ∀ d ∈ tables_1, d.before a0 Z = true) (ws : List Jvm.Cond) (sEQ : Addr) (sIS_NULL : Addr) (sNOT_NULL : Addr) (sIN : Addr) (sNOT_IN : Addr) (sNE : Addr) (sLE : Addr) (sGT : Addr) (sLT : Addr) (sGE : Addr) (h0 : Heap) (n0 : Nat) (Z0 : n0 ≤ h0.size) (O0 : Old Z n0 h0) (SsEQ : Sta Z Z.heap "com/example/moraine/moraine/model/Expression$Operator" "EQ" "Lcom/example/moraine/moraine/model/Expression$Operator;" (.ref sEQ)) (EsEQ : Exa Z Z.heap sEQ "com/example/moraine/moraine/model/Expression$Operator") (FsEQ : Fld Z Z.heap sEQ "java/lang/Enum" "ordinal" "I" (.int 0)) (SsIS_NULL : Sta Z Z.heap "com/example/moraine/moraine/model/Expression$Operator" "IS_NULL" "Lcom/example/moraine/moraine/model/Expression$Operator;" (.ref sIS_NULL)) (EsIS_NULL : Exa Z Z.heap sIS_NULL "com/example/moraine/moraine/model/Expression$Operator") (FsIS_NULL : Fld Z Z.heap sIS_NULL "java/lang/Enum" "ordinal" "I" (.int 6)) (SsNOT_NULL : Sta Z Z.heap "com/example/moraine/moraine/model/Expression$Operator" "NOT_NULL" "Lcom/example/moraine/moraine/model/Expression$Operator;" (.ref sNOT_NULL)) (EsNOT_NULL : Exa Z Z.heap sNOT_NULL "com/example/moraine/moraine/model/Expression$Operator") (FsNOT_NULL : Fld Z Z.heap sNOT_NULL "java/lang/Enum" "ordinal" "I" (.int 7)) (SsIN : Sta Z Z.heap "com/example/moraine/moraine/model/Expression$Operator" "IN" "Lcom/example/moraine/moraine/model/Expression$Operator;" (.ref sIN)) (EsIN : Exa Z Z.heap sIN "com/example/moraine/moraine/model/Expression$Operator") (FsIN : Fld Z Z.heap sIN "java/lang/Enum" "ordinal" "I" (.int 8)) (SsNOT_IN : Sta Z Z.heap "com/example/moraine/moraine/model/Expression$Operator" "NOT_IN" "Lcom/example/moraine/moraine/model/Expression$Operator;" (.ref sNOT_IN)) (EsNOT_IN : Exa Z Z.heap sNOT_IN "com/example/moraine/moraine/model/Expression$Operator") (FsNOT_IN : Fld Z Z.heap sNOT_IN "java/lang/Enum" "ordinal" "I" (.int 9)) (SsNE : Sta Z Z.heap "com/example/moraine/moraine/model/Expression$Operator" "NE" "Lcom/example/moraine/moraine/model/Expression$Operator;" (.ref sNE)) (EsNE : Exa Z Z.heap sNE "com/example/moraine/moraine/model/Expression$Operator") (FsNE : Fld Z Z.heap sNE "java/lang/Enum" "ordinal" "I" (.int 1)) (SsLE : Sta Z Z.heap "com/example/moraine/moraine/model/Expression$Operator" "LE" "Lcom/example/moraine/moraine/model/Expression$Operator;" (.ref sLE)) (EsLE : Exa Z Z.heap sLE "com/example/moraine/moraine/model/Expression$Operator") (FsLE : Fld Z Z.heap sLE "java/lang/Enum" "ordinal" "I" (.int 3)) (SsGT : Sta Z Z.heap "com/example/moraine/moraine/model/Expression$Operator" "GT" "Lcom/example/moraine/moraine/model/Expression$Operator;" (.ref sGT)) (EsGT : Exa Z Z.heap sGT "com/example/moraine/moraine/model/Expression$Operator") (FsGT : Fld Z Z.heap sGT "java/lang/Enum" "ordinal" "I" (.int 4)) (SsLT : Sta Z Z.heap "com/example/moraine/moraine/model/Expression$Operator" "LT" "Lcom/example/moraine/moraine/model/Expression$Operator;" (.ref sLT)) (EsLT : Exa Z Z.heap sLT "com/example/moraine/moraine/model/Expression$Operator") (FsLT : Fld Z Z.heap sLT "java/lang/Enum" "ordinal" "I" (.int 2)) (SsGE : Sta Z Z.heap "com/example/moraine/moraine/model/Expression$Operator" "GE" "Lcom/example/moraine/moraine/model/Expression$Operator;" (.ref sGE)) (EsGE : Exa Z Z.heap sGE "com/example/moraine/moraine/model/Expression$Operator") (FsGE : Fld Z Z.heap sGE "java/lang/Enum" "ordinal" "I" (.int 5)) :
    MetFree l (⟨"com/example/moraine/moraine/model/Expression$Operator", "negation", "()Lcom/example/moraine/moraine/model/Expression$Operator;"⟩ : MethodName) (head1 (Jvm.Cond.code (⟨"com/example/moraine/moraine/model/Expression$Operator", "negation", "()Lcom/example/moraine/moraine/model/Expression$Operator;"⟩ : MethodName) prog_66_method_4_code 1 (some (.object "com/example/moraine/moraine/model/Expression$Operator")) :: ws) ({ frames := 1, cells := 0, slots := 0, locals := 12 } : Room)) (fun aA uU => aA = #[(.ref sGE)] ∧ Z.Warmed39 uU.vm ∧ uU.heap = h0) (fun _ _ _ _ _ => True) (fun _ uU oO uU' => ∃ vV lL, oO = .returned vV ∧ Q_rmNeg_GE Z sEQ sIS_NULL sNOT_NULL sIN sNOT_IN sNE sLE sGT sLT sGE h0 n0 vV uU'.heap lL ∧ FrameEnd uU oO uU' lL ({ frames := 1, cells := 0, slots := 0, locals := 12 } : Room).cells ({ frames := 1, cells := 0, slots := 0, locals := 12 } : Room).slots) := by
  refine MetFree.of_bodySF (plainFor_of_name pn_Expression_Operator) hisR ?_
  intro p e s m args below meth c s₁ Bd hml0 hP hK
  obtain ⟨rfl, hZ, hh⟩ := hP
  have hx := Bd.exec
  have hby := Bd.bytes
  have hml : c.maxLocals = 1 := hml0
  have hown : s.vm.findClass "com/example/moraine/moraine/model/Expression$Operator" = some m.cls := findClass_of_methodNamed Bd.named
  have hnm := (name_of_methodNamed Bd.named Bd.method).1
  have X0 : Stand p l e ({ frames := 1, cells := 0, slots := 0, locals := 12 } : Room) s m #[(.ref sGE)] below meth c s₁ [] 0 0 := Stand.of_body Bd
  have e0 : s₁.heap = h0 := by rw [← hh, Bd.state]; rfl
  have N0 := Fr.nil n0
  refine oEnter (oCast (ef_rmNeg_GE m sGE ) ?_)
  show oGl p e below (s₁.setTop (mkF m 0 #[.val (.ref sGE)] [])) _
  refine saloadN X0 hx (hb hby d3_0) rfl rfl rfl (pc' := 1) ?_
  have hz1 : n0 ≤ h0.size := by omega
  obtain ⟨cq1, kq1, q1a, q1b, q1c⟩ := isOf hZ e0 (EsGE.ext O0.2)
  obtain ⟨_, _, ⟨T1, L1, k1, n1⟩, -, X1, ⟨Lc1, hQ1, l1, y1, z1⟩, st1⟩ := X0.virtualBackUp hx (x := (⟨"com/example/moraine/moraine/model/Expression$Operator", "ordinal", "()I"⟩ : MethodName)) (y := (⟨"java/lang/Enum", "ordinal", "()I"⟩ : MethodName)) (owner := "java/lang/Enum") hown (mvT hZ (hw _ (List.mem_of_getElem? (i := 27) rfl))) (mvT hZ (hw _ (List.mem_of_getElem? (i := 28) rfl))) (mvT hZ (hw _ (List.mem_of_getElem? (i := 29) rfl))) (by decide) (mvT hZ (hw _ (List.mem_of_getElem? (i := 31) rfl))) (mvT hZ (hw _ (List.mem_of_getElem? (i := 30) rfl))) (backOf (W := 0) (rmOrd l Z a0 hw [] sGE (5 : Int32) h0 n0 hz1 (FsGE.ext O0.2)) hZ (hw _ (List.mem_of_getElem? (i := 33) rfl)) (hw _ (List.mem_of_getElem? (i := 32) rfl)) (by decide) (by decide)) q1a q1c (g := (mkF m 1 #[.val (.ref sGE)] [(.ref sGE)])) rfl (by rw [hml]; rfl) (Steps.refl _) (argsL := []) (rest := []) (lenOf pd_0 rfl) rfl (by show 2 * 0 + _ ≤ _; exact Nat.le_of_eq rfl) (hb hby d3_1) (fun _ _ => ⟨rfl, e0, (by decide : 0 + 0 ≤ _), (by decide : 0 + 0 ≤ _)⟩)
  dsimp only [Pt.U, Pt.locs, Pt.cells, Pt.slots] at X1 l1 y1 z1 st1 hQ1
  subst l1 y1 z1
  obtain ⟨rfl, N1q, eh1⟩ := hQ1
  have N1 := Fr.app N0 N1q
  refine oSt st1 ?_
  show oGl p e below (T1.setTop (mkF m 4 #[.val (.ref sGE)] [(.int (5 : Int32))])) _
  refine oOn (fun _ kK => XS.tswIn X1.here hx rfl (pc0 := 4) (pc' := 68) rfl (hb hby d3_4) rfl (by decide) rfl (by decide) (by decide) kK) ?_
  show oGl p e below (T1.setTop (mkF m 68 #[.val (.ref sGE)] [])) _
  obtain ⟨T2, X2, e2, st2⟩ := getS2 X1 hx hZ hown (host := "") (Or.inl (hw _ (List.mem_of_getElem? (i := 54) rfl))) Via.refl eh1 (SsLT.ext O0.2) (g := (mkF m 68 #[.val (.ref sGE)] [])) rfl (hb hby d3_68)
  refine oOn st2 ?_
  show oGl p e below (T2.setTop (mkF m 71 #[.val (.ref sGE)] [(.ref sLT)])) _
  refine oRetR X2 hx Bd.notSynchronized Bd.returns rfl rfl (hb hby d3_71) (by decide) (by decide) ?_
  show Q_rmNeg_GE Z sEQ sIS_NULL sNOT_NULL sIN sNOT_IN sNE sLE sGT sLT sGE h0 n0 _ T2.heap _
  rw [e2]
  exact ⟨rfl, N1, rfl⟩
theorem d3_80 : decode prog_66_method_4_code 80 = .ok (.getstatic 25, 3) := by decide +kernel
theorem d3_83 : decode prog_66_method_4_code 83 = .ok (.areturn, 1) := by decide +kernel
theorem ef_rmNeg_IS_NULL (m : MethodId) (x0 : Addr)  : entryFrame m #[(.ref x0)] 1 = mkF m 0 #[.val (.ref x0)] [] := by first | rfl | (simp [entryFrame, mkF, argsToLocals, Value.category, maxLocals]; done)
def Q_rmNeg_IS_NULL (Z : State) (sEQ : Addr) (sIS_NULL : Addr) (sNOT_NULL : Addr) (sIN : Addr) (sNOT_IN : Addr) (sNE : Addr) (sLE : Addr) (sGT : Addr) (sLT : Addr) (sGE : Addr) (h0 : Heap) (n0 : Nat) (vv : Option Value) (h : Heap) (L : List Loc) : Prop := vv = some (.ref sNOT_NULL) ∧ Fr n0 L ∧ h = h0
set_option maxRecDepth 65536 in
set_option maxHeartbeats 40000000 in
theorem rmNeg_IS_NULL (l : Launch) (Z : State) (a0 : Array Value) (hw : ∀ d ∈ tables_1, d.before a0 Z = true) (ws : List Jvm.Cond) (sEQ : Addr) (sIS_NULL : Addr) (sNOT_NULL : Addr) (sIN : Addr) (sNOT_IN : Addr) (sNE : Addr) (sLE : Addr) (sGT : Addr) (sLT : Addr) (sGE : Addr) (h0 : Heap) (n0 : Nat) (Z0 : n0 ≤ h0.size) (O0 : Old Z n0 h0) (SsEQ : Sta Z Z.heap "com/example/moraine/moraine/model/Expression$Operator" "EQ" "Lcom/example/moraine/moraine/model/Expression$Operator;" (.ref sEQ)) (EsEQ : Exa Z Z.heap sEQ "com/example/moraine/moraine/model/Expression$Operator") (FsEQ : Fld Z Z.heap sEQ "java/lang/Enum" "ordinal" "I" (.int 0)) (SsIS_NULL : Sta Z Z.heap "com/example/moraine/moraine/model/Expression$Operator" "IS_NULL" "Lcom/example/moraine/moraine/model/Expression$Operator;" (.ref sIS_NULL)) (EsIS_NULL : Exa Z Z.heap sIS_NULL "com/example/moraine/moraine/model/Expression$Operator") (FsIS_NULL : Fld Z Z.heap sIS_NULL "java/lang/Enum" "ordinal" "I" (.int 6)) (SsNOT_NULL : Sta Z Z.heap "com/example/moraine/moraine/model/Expression$Operator" "NOT_NULL" "Lcom/example/moraine/moraine/model/Expression$Operator;" (.ref sNOT_NULL)) (EsNOT_NULL : Exa Z Z.heap sNOT_NULL "com/example/moraine/moraine/model/Expression$Operator") (FsNOT_NULL : Fld Z Z.heap sNOT_NULL "java/lang/Enum" "ordinal" "I" (.int 7)) (SsIN : Sta Z Z.heap "com/example/moraine/moraine/model/Expression$Operator" "IN" "Lcom/example/moraine/moraine/model/Expression$Operator;" (.ref sIN)) (EsIN : Exa Z Z.heap sIN "com/example/moraine/moraine/model/Expression$Operator") (FsIN : Fld Z Z.heap sIN "java/lang/Enum" "ordinal" "I" (.int 8)) (SsNOT_IN : Sta Z Z.heap "com/example/moraine/moraine/model/Expression$Operator" "NOT_IN" "Lcom/example/moraine/moraine/model/Expression$Operator;" (.ref sNOT_IN)) (EsNOT_IN : Exa Z Z.heap sNOT_IN "com/example/moraine/moraine/model/Expression$Operator") (FsNOT_IN : Fld Z Z.heap sNOT_IN "java/lang/Enum" "ordinal" "I" (.int 9)) (SsNE : Sta Z Z.heap "com/example/moraine/moraine/model/Expression$Operator" "NE" "Lcom/example/moraine/moraine/model/Expression$Operator;" (.ref sNE)) (EsNE : Exa Z Z.heap sNE "com/example/moraine/moraine/model/Expression$Operator") (FsNE : Fld Z Z.heap sNE "java/lang/Enum" "ordinal" "I" (.int 1)) (SsLE : Sta Z Z.heap "com/example/moraine/moraine/model/Expression$Operator" "LE" "Lcom/example/moraine/moraine/model/Expression$Operator;" (.ref sLE)) (EsLE : Exa Z Z.heap sLE "com/example/moraine/moraine/model/Expression$Operator") (FsLE : Fld Z Z.heap sLE "java/lang/Enum" "ordinal" "I" (.int 3)) (SsGT : Sta Z Z.heap "com/example/moraine/moraine/model/Expression$Operator" "GT" "Lcom/example/moraine/moraine/model/Expression$Operator;" (.ref sGT)) (EsGT : Exa Z Z.heap sGT "com/example/moraine/moraine/model/Expression$Operator") (FsGT : Fld Z Z.heap sGT "java/lang/Enum" "ordinal" "I" (.int 4)) (SsLT : Sta Z Z.heap "com/example/moraine/moraine/model/Expression$Operator" "LT" "Lcom/example/moraine/moraine/model/Expression$Operator;" (.ref sLT)) (EsLT : Exa Z Z.heap sLT "com/example/moraine/moraine/model/Expression$Operator") (FsLT : Fld Z Z.heap sLT "java/lang/Enum" "ordinal" "I" (.int 2)) (SsGE : Sta Z Z.heap "com/example/moraine/moraine/model/Expression$Operator" "GE" "Lcom/example/moraine/moraine/model/Expression$Operator;" (.ref sGE)) (EsGE : Exa Z Z.heap sGE "com/example/moraine/moraine/model/Expression$Operator") (FsGE : Fld Z Z.heap sGE "java/lang/Enum" "ordinal" "I" (.int 5)) :
    MetFree l (⟨"com/example/moraine/moraine/model/Expression$Operator", "negation", "()Lcom/example/moraine/moraine/model/Expression$Operator;"⟩ : MethodName) (head1 (Jvm.Cond.code (⟨"com/example/moraine/moraine/model/Expression$Operator", "negation", "()Lcom/example/moraine/moraine/model/Expression$Operator;"⟩ : MethodName) prog_66_method_4_code 1 (some (.object "com/example/moraine/moraine/model/Expression$Operator")) :: ws) ({ frames := 1, cells := 0, slots := 0, locals := 12 } : Room)) (fun aA uU => aA = #[(.ref sIS_NULL)] ∧ Z.Warmed39 uU.vm ∧ uU.heap = h0) (fun _ _ _ _ _ => True) (fun _ uU oO uU' => ∃ vV lL, oO = .returned vV ∧ Q_rmNeg_IS_NULL Z sEQ sIS_NULL sNOT_NULL sIN sNOT_IN sNE sLE sGT sLT sGE h0 n0 vV uU'.heap lL ∧ FrameEnd uU oO uU' lL ({ frames := 1, cells := 0, slots := 0, locals := 12 } : Room).cells ({ frames := 1, cells := 0, slots := 0, locals := 12 } : Room).slots) := by
  refine MetFree.of_bodySF (plainFor_of_name pn_Expression_Operator) hisR ?_
  intro p e s m args below meth c s₁ Bd hml0 hP hK
  obtain ⟨rfl, hZ, hh⟩ := hP
  have hx := Bd.exec
  have hby := Bd.bytes
  have hml : c.maxLocals = 1 := hml0
  have hown : s.vm.findClass "com/example/moraine/moraine/model/Expression$Operator" = some m.cls := findClass_of_methodNamed Bd.named
  have hnm := (name_of_methodNamed Bd.named Bd.method).1
  have X0 : Stand p l e ({ frames := 1, cells := 0, slots := 0, locals := 12 } : Room) s m #[(.ref sIS_NULL)] below meth c s₁ [] 0 0 := Stand.of_body Bd
  have e0 : s₁.heap = h0 := by rw [← hh, Bd.state]; rfl
  have N0 := Fr.nil n0
  refine oEnter (oCast (ef_rmNeg_IS_NULL m sIS_NULL ) ?_)
  show oGl p e below (s₁.setTop (mkF m 0 #[.val (.ref sIS_NULL)] [])) _
  refine saloadN X0 hx (hb hby d3_0) rfl rfl rfl (pc' := 1) ?_
  have hz1 : n0 ≤ h0.size := by omega
  obtain ⟨cq1, kq1, q1a, q1b, q1c⟩ := isOf hZ e0 (EsIS_NULL.ext O0.2)
  obtain ⟨_, _, ⟨T1, L1, k1, n1⟩, -, X1, ⟨Lc1, hQ1, l1, y1, z1⟩, st1⟩ := X0.virtualBackUp hx (x := (⟨"com/example/moraine/moraine/model/Expression$Operator", "ordinal", "()I"⟩ : MethodName)) (y := (⟨"java/lang/Enum", "ordinal", "()I"⟩ : MethodName)) (owner := "java/lang/Enum") hown (mvT hZ (hw _ (List.mem_of_getElem? (i := 27) rfl))) (mvT hZ (hw _ (List.mem_of_getElem? (i := 28) rfl))) (mvT hZ (hw _ (List.mem_of_getElem? (i := 29) rfl))) (by decide) (mvT hZ (hw _ (List.mem_of_getElem? (i := 31) rfl))) (mvT hZ (hw _ (List.mem_of_getElem? (i := 30) rfl))) (backOf (W := 0) (rmOrd l Z a0 hw [] sIS_NULL (6 : Int32) h0 n0 hz1 (FsIS_NULL.ext O0.2)) hZ (hw _ (List.mem_of_getElem? (i := 33) rfl)) (hw _ (List.mem_of_getElem? (i := 32) rfl)) (by decide) (by decide)) q1a q1c (g := (mkF m 1 #[.val (.ref sIS_NULL)] [(.ref sIS_NULL)])) rfl (by rw [hml]; rfl) (Steps.refl _) (argsL := []) (rest := []) (lenOf pd_0 rfl) rfl (by show 2 * 0 + _ ≤ _; exact Nat.le_of_eq rfl) (hb hby d3_1) (fun _ _ => ⟨rfl, e0, (by decide : 0 + 0 ≤ _), (by decide : 0 + 0 ≤ _)⟩)
  dsimp only [Pt.U, Pt.locs, Pt.cells, Pt.slots] at X1 l1 y1 z1 st1 hQ1
  subst l1 y1 z1
  obtain ⟨rfl, N1q, eh1⟩ := hQ1
  have N1 := Fr.app N0 N1q
  refine oSt st1 ?_
  show oGl p e below (T1.setTop (mkF m 4 #[.val (.ref sIS_NULL)] [(.int (6 : Int32))])) _
  refine oOn (fun _ kK => XS.tswIn X1.here hx rfl (pc0 := 4) (pc' := 80) rfl (hb hby d3_4) rfl (by decide) rfl (by decide) (by decide) kK) ?_
  show oGl p e below (T1.setTop (mkF m 80 #[.val (.ref sIS_NULL)] [])) _
  obtain ⟨T2, X2, e2, st2⟩ := getS2 X1 hx hZ hown (host := "") (Or.inl (hw _ (List.mem_of_getElem? (i := 16) rfl))) Via.refl eh1 (SsNOT_NULL.ext O0.2) (g := (mkF m 80 #[.val (.ref sIS_NULL)] [])) rfl (hb hby d3_80)
  refine oOn st2 ?_
  show oGl p e below (T2.setTop (mkF m 83 #[.val (.ref sIS_NULL)] [(.ref sNOT_NULL)])) _
  refine oRetR X2 hx Bd.notSynchronized Bd.returns rfl rfl (hb hby d3_83) (by decide) (by decide) ?_
  show Q_rmNeg_IS_NULL Z sEQ sIS_NULL sNOT_NULL sIN sNOT_IN sNE sLE sGT sLT sGE h0 n0 _ T2.heap _
  rw [e2]
  exact ⟨rfl, N1, rfl⟩
theorem d3_84 : decode prog_66_method_4_code 84 = .ok (.getstatic 22, 3) := by decide +kernel
theorem d3_87 : decode prog_66_method_4_code 87 = .ok (.areturn, 1) := by decide +kernel
theorem ef_rmNeg_NOT_NULL (m : MethodId) (x0 : Addr)  : entryFrame m #[(.ref x0)] 1 = mkF m 0 #[.val (.ref x0)] [] := by first | rfl | (simp [entryFrame, mkF, argsToLocals, Value.category, maxLocals]; done)
def Q_rmNeg_NOT_NULL (Z : State) (sEQ : Addr) (sIS_NULL : Addr) (sNOT_NULL : Addr) (sIN : Addr) (sNOT_IN : Addr) (sNE : Addr) (sLE : Addr) (sGT : Addr) (sLT : Addr) (sGE : Addr) (h0 : Heap) (n0 : Nat) (vv : Option Value) (h : Heap) (L : List Loc) : Prop := vv = some (.ref sIS_NULL) ∧ Fr n0 L ∧ h = h0
set_option maxRecDepth 65536 in
set_option maxHeartbeats 40000000 in
theorem rmNeg_NOT_NULL (l : Launch) (Z : State) (a0 : Array Value) (hw : ∀ d ∈ tables_1, d.before a0 Z = true) (ws : List Jvm.Cond) (sEQ : Addr) (sIS_NULL : Addr) (sNOT_NULL : Addr) (sIN : Addr) (sNOT_IN : Addr) (sNE : Addr) (sLE : Addr) (sGT : Addr) (sLT : Addr) (sGE : Addr) (h0 : Heap) (n0 : Nat) (Z0 : n0 ≤ h0.size) (O0 : Old Z n0 h0) (SsEQ : Sta Z Z.heap "com/example/moraine/moraine/model/Expression$Operator" "EQ" "Lcom/example/moraine/moraine/model/Expression$Operator;" (.ref sEQ)) (EsEQ : Exa Z Z.heap sEQ "com/example/moraine/moraine/model/Expression$Operator") (FsEQ : Fld Z Z.heap sEQ "java/lang/Enum" "ordinal" "I" (.int 0)) (SsIS_NULL : Sta Z Z.heap "com/example/moraine/moraine/model/Expression$Operator" "IS_NULL" "Lcom/example/moraine/moraine/model/Expression$Operator;" (.ref sIS_NULL)) (EsIS_NULL : Exa Z Z.heap sIS_NULL "com/example/moraine/moraine/model/Expression$Operator") (FsIS_NULL : Fld Z Z.heap sIS_NULL "java/lang/Enum" "ordinal" "I" (.int 6)) (SsNOT_NULL : Sta Z Z.heap "com/example/moraine/moraine/model/Expression$Operator" "NOT_NULL" "Lcom/example/moraine/moraine/model/Expression$Operator;" (.ref sNOT_NULL)) (EsNOT_NULL : Exa Z Z.heap sNOT_NULL "com/example/moraine/moraine/model/Expression$Operator") (FsNOT_NULL : Fld Z Z.heap sNOT_NULL "java/lang/Enum" "ordinal" "I" (.int 7)) (SsIN : Sta Z Z.heap "com/example/moraine/moraine/model/Expression$Operator" "IN" "Lcom/example/moraine/moraine/model/Expression$Operator;" (.ref sIN)) (EsIN : Exa Z Z.heap sIN "com/example/moraine/moraine/model/Expression$Operator") (FsIN : Fld Z Z.heap sIN "java/lang/Enum" "ordinal" "I" (.int 8)) (SsNOT_IN : Sta Z Z.heap "com/example/moraine/moraine/model/Expression$Operator" "NOT_IN" "Lcom/example/moraine/moraine/model/Expression$Operator;" (.ref sNOT_IN)) (EsNOT_IN : Exa Z Z.heap sNOT_IN "com/example/moraine/moraine/model/Expression$Operator") (FsNOT_IN : Fld Z Z.heap sNOT_IN "java/lang/Enum" "ordinal" "I" (.int 9)) (SsNE : Sta Z Z.heap "com/example/moraine/moraine/model/Expression$Operator" "NE" "Lcom/example/moraine/moraine/model/Expression$Operator;" (.ref sNE)) (EsNE : Exa Z Z.heap sNE "com/example/moraine/moraine/model/Expression$Operator") (FsNE : Fld Z Z.heap sNE "java/lang/Enum" "ordinal" "I" (.int 1)) (SsLE : Sta Z Z.heap "com/example/moraine/moraine/model/Expression$Operator" "LE" "Lcom/example/moraine/moraine/model/Expression$Operator;" (.ref sLE)) (EsLE : Exa Z Z.heap sLE "com/example/moraine/moraine/model/Expression$Operator") (FsLE : Fld Z Z.heap sLE "java/lang/Enum" "ordinal" "I" (.int 3)) (SsGT : Sta Z Z.heap "com/example/moraine/moraine/model/Expression$Operator" "GT" "Lcom/example/moraine/moraine/model/Expression$Operator;" (.ref sGT)) (EsGT : Exa Z Z.heap sGT "com/example/moraine/moraine/model/Expression$Operator") (FsGT : Fld Z Z.heap sGT "java/lang/Enum" "ordinal" "I" (.int 4)) (SsLT : Sta Z Z.heap "com/example/moraine/moraine/model/Expression$Operator" "LT" "Lcom/example/moraine/moraine/model/Expression$Operator;" (.ref sLT)) (EsLT : Exa Z Z.heap sLT "com/example/moraine/moraine/model/Expression$Operator") (FsLT : Fld Z Z.heap sLT "java/lang/Enum" "ordinal" "I" (.int 2)) (SsGE : Sta Z Z.heap "com/example/moraine/moraine/model/Expression$Operator" "GE" "Lcom/example/moraine/moraine/model/Expression$Operator;" (.ref sGE)) (EsGE : Exa Z Z.heap sGE "com/example/moraine/moraine/model/Expression$Operator") (FsGE : Fld Z Z.heap sGE "java/lang/Enum" "ordinal" "I" (.int 5)) :
    MetFree l (⟨"com/example/moraine/moraine/model/Expression$Operator", "negation", "()Lcom/example/moraine/moraine/model/Expression$Operator;"⟩ : MethodName) (head1 (Jvm.Cond.code (⟨"com/example/moraine/moraine/model/Expression$Operator", "negation", "()Lcom/example/moraine/moraine/model/Expression$Operator;"⟩ : MethodName) prog_66_method_4_code 1 (some (.object "com/example/moraine/moraine/model/Expression$Operator")) :: ws) ({ frames := 1, cells := 0, slots := 0, locals := 12 } : Room)) (fun aA uU => aA = #[(.ref sNOT_NULL)] ∧ Z.Warmed39 uU.vm ∧ uU.heap = h0) (fun _ _ _ _ _ => True) (fun _ uU oO uU' => ∃ vV lL, oO = .returned vV ∧ Q_rmNeg_NOT_NULL Z sEQ sIS_NULL sNOT_NULL sIN sNOT_IN sNE sLE sGT sLT sGE h0 n0 vV uU'.heap lL ∧ FrameEnd uU oO uU' lL ({ frames := 1, cells := 0, slots := 0, locals := 12 } : Room).cells ({ frames := 1, cells := 0, slots := 0, locals := 12 } : Room).slots) := by
  refine MetFree.of_bodySF (plainFor_of_name pn_Expression_Operator) hisR ?_
  intro p e s m args below meth c s₁ Bd hml0 hP hK
  obtain ⟨rfl, hZ, hh⟩ := hP
  have hx := Bd.exec
  have hby := Bd.bytes
  have hml : c.maxLocals = 1 := hml0
  have hown : s.vm.findClass "com/example/moraine/moraine/model/Expression$Operator" = some m.cls := findClass_of_methodNamed Bd.named
  have hnm := (name_of_methodNamed Bd.named Bd.method).1
  have X0 : Stand p l e ({ frames := 1, cells := 0, slots := 0, locals := 12 } : Room) s m #[(.ref sNOT_NULL)] below meth c s₁ [] 0 0 := Stand.of_body Bd
  have e0 : s₁.heap = h0 := by rw [← hh, Bd.state]; rfl
  have N0 := Fr.nil n0
  refine oEnter (oCast (ef_rmNeg_NOT_NULL m sNOT_NULL ) ?_)
  show oGl p e below (s₁.setTop (mkF m 0 #[.val (.ref sNOT_NULL)] [])) _
  refine saloadN X0 hx (hb hby d3_0) rfl rfl rfl (pc' := 1) ?_
  have hz1 : n0 ≤ h0.size := by omega
  obtain ⟨cq1, kq1, q1a, q1b, q1c⟩ := isOf hZ e0 (EsNOT_NULL.ext O0.2)
  obtain ⟨_, _, ⟨T1, L1, k1, n1⟩, -, X1, ⟨Lc1, hQ1, l1, y1, z1⟩, st1⟩ := X0.virtualBackUp hx (x := (⟨"com/example/moraine/moraine/model/Expression$Operator", "ordinal", "()I"⟩ : MethodName)) (y := (⟨"java/lang/Enum", "ordinal", "()I"⟩ : MethodName)) (owner := "java/lang/Enum") hown (mvT hZ (hw _ (List.mem_of_getElem? (i := 27) rfl))) (mvT hZ (hw _ (List.mem_of_getElem? (i := 28) rfl))) (mvT hZ (hw _ (List.mem_of_getElem? (i := 29) rfl))) (by decide) (mvT hZ (hw _ (List.mem_of_getElem? (i := 31) rfl))) (mvT hZ (hw _ (List.mem_of_getElem? (i := 30) rfl))) (backOf (W := 0) (rmOrd l Z a0 hw [] sNOT_NULL (7 : Int32) h0 n0 hz1 (FsNOT_NULL.ext O0.2)) hZ (hw _ (List.mem_of_getElem? (i := 33) rfl)) (hw _ (List.mem_of_getElem? (i := 32) rfl)) (by decide) (by decide)) q1a q1c (g := (mkF m 1 #[.val (.ref sNOT_NULL)] [(.ref sNOT_NULL)])) rfl (by rw [hml]; rfl) (Steps.refl _) (argsL := []) (rest := []) (lenOf pd_0 rfl) rfl (by show 2 * 0 + _ ≤ _; exact Nat.le_of_eq rfl) (hb hby d3_1) (fun _ _ => ⟨rfl, e0, (by decide : 0 + 0 ≤ _), (by decide : 0 + 0 ≤ _)⟩)
  dsimp only [Pt.U, Pt.locs, Pt.cells, Pt.slots] at X1 l1 y1 z1 st1 hQ1
  subst l1 y1 z1
  obtain ⟨rfl, N1q, eh1⟩ := hQ1
  have N1 := Fr.app N0 N1q
  refine oSt st1 ?_
  show oGl p e below (T1.setTop (mkF m 4 #[.val (.ref sNOT_NULL)] [(.int (7 : Int32))])) _
  refine oOn (fun _ kK => XS.tswIn X1.here hx rfl (pc0 := 4) (pc' := 84) rfl (hb hby d3_4) rfl (by decide) rfl (by decide) (by decide) kK) ?_
  show oGl p e below (T1.setTop (mkF m 84 #[.val (.ref sNOT_NULL)] [])) _
  obtain ⟨T2, X2, e2, st2⟩ := getS2 X1 hx hZ hown (host := "") (Or.inl (hw _ (List.mem_of_getElem? (i := 14) rfl))) Via.refl eh1 (SsIS_NULL.ext O0.2) (g := (mkF m 84 #[.val (.ref sNOT_NULL)] [])) rfl (hb hby d3_84)
  refine oOn st2 ?_
  show oGl p e below (T2.setTop (mkF m 87 #[.val (.ref sNOT_NULL)] [(.ref sIS_NULL)])) _
  refine oRetR X2 hx Bd.notSynchronized Bd.returns rfl rfl (hb hby d3_87) (by decide) (by decide) ?_
  show Q_rmNeg_NOT_NULL Z sEQ sIS_NULL sNOT_NULL sIN sNOT_IN sNE sLE sGT sLT sGE h0 n0 _ T2.heap _
  rw [e2]
  exact ⟨rfl, N1, rfl⟩
theorem d3_88 : decode prog_66_method_4_code 88 = .ok (.getstatic 31, 3) := by decide +kernel
theorem d3_91 : decode prog_66_method_4_code 91 = .ok (.areturn, 1) := by decide +kernel
theorem ef_rmNeg_IN (m : MethodId) (x0 : Addr)  : entryFrame m #[(.ref x0)] 1 = mkF m 0 #[.val (.ref x0)] [] := by first | rfl | (simp [entryFrame, mkF, argsToLocals, Value.category, maxLocals]; done)
def Q_rmNeg_IN (Z : State) (sEQ : Addr) (sIS_NULL : Addr) (sNOT_NULL : Addr) (sIN : Addr) (sNOT_IN : Addr) (sNE : Addr) (sLE : Addr) (sGT : Addr) (sLT : Addr) (sGE : Addr) (h0 : Heap) (n0 : Nat) (vv : Option Value) (h : Heap) (L : List Loc) : Prop := vv = some (.ref sNOT_IN) ∧ Fr n0 L ∧ h = h0
set_option maxRecDepth 65536 in
set_option maxHeartbeats 40000000 in
theorem rmNeg_IN (l : Launch) (Z : State) (a0 : Array Value) (hw : ∀ d ∈ tables_1, d.before a0 Z = true) (ws : List Jvm.Cond) (sEQ : Addr) (sIS_NULL : Addr) (sNOT_NULL : Addr) (sIN : Addr) (sNOT_IN : Addr) (sNE : Addr) (sLE : Addr) (sGT : Addr) (sLT : Addr) (sGE : Addr) (h0 : Heap) (n0 : Nat) (Z0 : n0 ≤ h0.size) (O0 : Old Z n0 h0) (SsEQ : Sta Z Z.heap "com/example/moraine/moraine/model/Expression$Operator" "EQ" "Lcom/example/moraine/moraine/model/Expression$Operator;" (.ref sEQ)) (EsEQ : Exa Z Z.heap sEQ "com/example/moraine/moraine/model/Expression$Operator") (FsEQ : Fld Z Z.heap sEQ "java/lang/Enum" "ordinal" "I" (.int 0)) (SsIS_NULL : Sta Z Z.heap "com/example/moraine/moraine/model/Expression$Operator" "IS_NULL" "Lcom/example/moraine/moraine/model/Expression$Operator;" (.ref sIS_NULL)) (EsIS_NULL : Exa Z Z.heap sIS_NULL "com/example/moraine/moraine/model/Expression$Operator") (FsIS_NULL : Fld Z Z.heap sIS_NULL "java/lang/Enum" "ordinal" "I" (.int 6)) (SsNOT_NULL : Sta Z Z.heap "com/example/moraine/moraine/model/Expression$Operator" "NOT_NULL" "Lcom/example/moraine/moraine/model/Expression$Operator;" (.ref sNOT_NULL)) (EsNOT_NULL : Exa Z Z.heap sNOT_NULL "com/example/moraine/moraine/model/Expression$Operator") (FsNOT_NULL : Fld Z Z.heap sNOT_NULL "java/lang/Enum" "ordinal" "I" (.int 7)) (SsIN : Sta Z Z.heap "com/example/moraine/moraine/model/Expression$Operator" "IN" "Lcom/example/moraine/moraine/model/Expression$Operator;" (.ref sIN)) (EsIN : Exa Z Z.heap sIN "com/example/moraine/moraine/model/Expression$Operator") (FsIN : Fld Z Z.heap sIN "java/lang/Enum" "ordinal" "I" (.int 8)) (SsNOT_IN : Sta Z Z.heap "com/example/moraine/moraine/model/Expression$Operator" "NOT_IN" "Lcom/example/moraine/moraine/model/Expression$Operator;" (.ref sNOT_IN)) (EsNOT_IN : Exa Z Z.heap sNOT_IN "com/example/moraine/moraine/model/Expression$Operator") (FsNOT_IN : Fld Z Z.heap sNOT_IN "java/lang/Enum" "ordinal" "I" (.int 9)) (SsNE : Sta Z Z.heap "com/example/moraine/moraine/model/Expression$Operator" "NE" "Lcom/example/moraine/moraine/model/Expression$Operator;" (.ref sNE)) (EsNE : Exa Z Z.heap sNE "com/example/moraine/moraine/model/Expression$Operator") (FsNE : Fld Z Z.heap sNE "java/lang/Enum" "ordinal" "I" (.int 1)) (SsLE : Sta Z Z.heap "com/example/moraine/moraine/model/Expression$Operator" "LE" "Lcom/example/moraine/moraine/model/Expression$Operator;" (.ref sLE)) (EsLE : Exa Z Z.heap sLE "com/example/moraine/moraine/model/Expression$Operator") (FsLE : Fld Z Z.heap sLE "java/lang/Enum" "ordinal" "I" (.int 3)) (SsGT : Sta Z Z.heap "com/example/moraine/moraine/model/Expression$Operator" "GT" "Lcom/example/moraine/moraine/model/Expression$Operator;" (.ref sGT)) (EsGT : Exa Z Z.heap sGT "com/example/moraine/moraine/model/Expression$Operator") (FsGT : Fld Z Z.heap sGT "java/lang/Enum" "ordinal" "I" (.int 4)) (SsLT : Sta Z Z.heap "com/example/moraine/moraine/model/Expression$Operator" "LT" "Lcom/example/moraine/moraine/model/Expression$Operator;" (.ref sLT)) (EsLT : Exa Z Z.heap sLT "com/example/moraine/moraine/model/Expression$Operator") (FsLT : Fld Z Z.heap sLT "java/lang/Enum" "ordinal" "I" (.int 2)) (SsGE : Sta Z Z.heap "com/example/moraine/moraine/model/Expression$Operator" "GE" "Lcom/example/moraine/moraine/model/Expression$Operator;" (.ref sGE)) (EsGE : Exa Z Z.heap sGE "com/example/moraine/moraine/model/Expression$Operator") (FsGE : Fld Z Z.heap sGE "java/lang/Enum" "ordinal" "I" (.int 5)) :
    MetFree l (⟨"com/example/moraine/moraine/model/Expression$Operator", "negation", "()Lcom/example/moraine/moraine/model/Expression$Operator;"⟩ : MethodName) (head1 (Jvm.Cond.code (⟨"com/example/moraine/moraine/model/Expression$Operator", "negation", "()Lcom/example/moraine/moraine/model/Expression$Operator;"⟩ : MethodName) prog_66_method_4_code 1 (some (.object "com/example/moraine/moraine/model/Expression$Operator")) :: ws) ({ frames := 1, cells := 0, slots := 0, locals := 12 } : Room)) (fun aA uU => aA = #[(.ref sIN)] ∧ Z.Warmed39 uU.vm ∧ uU.heap = h0) (fun _ _ _ _ _ => True) (fun _ uU oO uU' => ∃ vV lL, oO = .returned vV ∧ Q_rmNeg_IN Z sEQ sIS_NULL sNOT_NULL sIN sNOT_IN sNE sLE sGT sLT sGE h0 n0 vV uU'.heap lL ∧ FrameEnd uU oO uU' lL ({ frames := 1, cells := 0, slots := 0, locals := 12 } : Room).cells ({ frames := 1, cells := 0, slots := 0, locals := 12 } : Room).slots) := by
  refine MetFree.of_bodySF (plainFor_of_name pn_Expression_Operator) hisR ?_
  intro p e s m args below meth c s₁ Bd hml0 hP hK
  obtain ⟨rfl, hZ, hh⟩ := hP
  have hx := Bd.exec
  have hby := Bd.bytes
  have hml : c.maxLocals = 1 := hml0
  have hown : s.vm.findClass "com/example/moraine/moraine/model/Expression$Operator" = some m.cls := findClass_of_methodNamed Bd.named
  have hnm := (name_of_methodNamed Bd.named Bd.method).1
  have X0 : Stand p l e ({ frames := 1, cells := 0, slots := 0, locals := 12 } : Room) s m #[(.ref sIN)] below meth c s₁ [] 0 0 := Stand.of_body Bd
  have e0 : s₁.heap = h0 := by rw [← hh, Bd.state]; rfl
  have N0 := Fr.nil n0
  refine oEnter (oCast (ef_rmNeg_IN m sIN ) ?_)
  show oGl p e below (s₁.setTop (mkF m 0 #[.val (.ref sIN)] [])) _
  refine saloadN X0 hx (hb hby d3_0) rfl rfl rfl (pc' := 1) ?_
  have hz1 : n0 ≤ h0.size := by omega
  obtain ⟨cq1, kq1, q1a, q1b, q1c⟩ := isOf hZ e0 (EsIN.ext O0.2)
  obtain ⟨_, _, ⟨T1, L1, k1, n1⟩, -, X1, ⟨Lc1, hQ1, l1, y1, z1⟩, st1⟩ := X0.virtualBackUp hx (x := (⟨"com/example/moraine/moraine/model/Expression$Operator", "ordinal", "()I"⟩ : MethodName)) (y := (⟨"java/lang/Enum", "ordinal", "()I"⟩ : MethodName)) (owner := "java/lang/Enum") hown (mvT hZ (hw _ (List.mem_of_getElem? (i := 27) rfl))) (mvT hZ (hw _ (List.mem_of_getElem? (i := 28) rfl))) (mvT hZ (hw _ (List.mem_of_getElem? (i := 29) rfl))) (by decide) (mvT hZ (hw _ (List.mem_of_getElem? (i := 31) rfl))) (mvT hZ (hw _ (List.mem_of_getElem? (i := 30) rfl))) (backOf (W := 0) (rmOrd l Z a0 hw [] sIN (8 : Int32) h0 n0 hz1 (FsIN.ext O0.2)) hZ (hw _ (List.mem_of_getElem? (i := 33) rfl)) (hw _ (List.mem_of_getElem? (i := 32) rfl)) (by decide) (by decide)) q1a q1c (g := (mkF m 1 #[.val (.ref sIN)] [(.ref sIN)])) rfl (by rw [hml]; rfl) (Steps.refl _) (argsL := []) (rest := []) (lenOf pd_0 rfl) rfl (by show 2 * 0 + _ ≤ _; exact Nat.le_of_eq rfl) (hb hby d3_1) (fun _ _ => ⟨rfl, e0, (by decide : 0 + 0 ≤ _), (by decide : 0 + 0 ≤ _)⟩)
  dsimp only [Pt.U, Pt.locs, Pt.cells, Pt.slots] at X1 l1 y1 z1 st1 hQ1
  subst l1 y1 z1
  obtain ⟨rfl, N1q, eh1⟩ := hQ1
  have N1 := Fr.app N0 N1q
  refine oSt st1 ?_
  show oGl p e below (T1.setTop (mkF m 4 #[.val (.ref sIN)] [(.int (8 : Int32))])) _
  refine oOn (fun _ kK => XS.tswIn X1.here hx rfl (pc0 := 4) (pc' := 88) rfl (hb hby d3_4) rfl (by decide) rfl (by decide) (by decide) kK) ?_
  show oGl p e below (T1.setTop (mkF m 88 #[.val (.ref sIN)] [])) _
  obtain ⟨T2, X2, e2, st2⟩ := getS2 X1 hx hZ hown (host := "") (Or.inl (hw _ (List.mem_of_getElem? (i := 20) rfl))) Via.refl eh1 (SsNOT_IN.ext O0.2) (g := (mkF m 88 #[.val (.ref sIN)] [])) rfl (hb hby d3_88)
  refine oOn st2 ?_
  show oGl p e below (T2.setTop (mkF m 91 #[.val (.ref sIN)] [(.ref sNOT_IN)])) _
  refine oRetR X2 hx Bd.notSynchronized Bd.returns rfl rfl (hb hby d3_91) (by decide) (by decide) ?_
  show Q_rmNeg_IN Z sEQ sIS_NULL sNOT_NULL sIN sNOT_IN sNE sLE sGT sLT sGE h0 n0 _ T2.heap _
  rw [e2]
  exact ⟨rfl, N1, rfl⟩
theorem d3_92 : decode prog_66_method_4_code 92 = .ok (.getstatic 28, 3) := by decide +kernel
theorem d3_95 : decode prog_66_method_4_code 95 = .ok (.areturn, 1) := by decide +kernel
theorem ef_rmNeg_NOT_IN (m : MethodId) (x0 : Addr)  : entryFrame m #[(.ref x0)] 1 = mkF m 0 #[.val (.ref x0)] [] := by first | rfl | (simp [entryFrame, mkF, argsToLocals, Value.category, maxLocals]; done)
def Q_rmNeg_NOT_IN (Z : State) (sEQ : Addr) (sIS_NULL : Addr) (sNOT_NULL : Addr) (sIN : Addr) (sNOT_IN : Addr) (sNE : Addr) (sLE : Addr) (sGT : Addr) (sLT : Addr) (sGE : Addr) (h0 : Heap) (n0 : Nat) (vv : Option Value) (h : Heap) (L : List Loc) : Prop := vv = some (.ref sIN) ∧ Fr n0 L ∧ h = h0
set_option maxRecDepth 65536 in
set_option maxHeartbeats 40000000 in
theorem rmNeg_NOT_IN (l : Launch) (Z : State) (a0 : Array Value) (hw : ∀ d ∈ tables_1, d.before a0 Z = true) (ws : List Jvm.Cond) (sEQ : Addr) (sIS_NULL : Addr) (sNOT_NULL : Addr) (sIN : Addr) (sNOT_IN : Addr) (sNE : Addr) (sLE : Addr) (sGT : Addr) (sLT : Addr) (sGE : Addr) (h0 : Heap) (n0 : Nat) (Z0 : n0 ≤ h0.size) (O0 : Old Z n0 h0) (SsEQ : Sta Z Z.heap "com/example/moraine/moraine/model/Expression$Operator" "EQ" "Lcom/example/moraine/moraine/model/Expression$Operator;" (.ref sEQ)) (EsEQ : Exa Z Z.heap sEQ "com/example/moraine/moraine/model/Expression$Operator") (FsEQ : Fld Z Z.heap sEQ "java/lang/Enum" "ordinal" "I" (.int 0)) (SsIS_NULL : Sta Z Z.heap "com/example/moraine/moraine/model/Expression$Operator" "IS_NULL" "Lcom/example/moraine/moraine/model/Expression$Operator;" (.ref sIS_NULL)) (EsIS_NULL : Exa Z Z.heap sIS_NULL "com/example/moraine/moraine/model/Expression$Operator") (FsIS_NULL : Fld Z Z.heap sIS_NULL "java/lang/Enum" "ordinal" "I" (.int 6)) (SsNOT_NULL : Sta Z Z.heap "com/example/moraine/moraine/model/Expression$Operator" "NOT_NULL" "Lcom/example/moraine/moraine/model/Expression$Operator;" (.ref sNOT_NULL)) (EsNOT_NULL : Exa Z Z.heap sNOT_NULL "com/example/moraine/moraine/model/Expression$Operator") (FsNOT_NULL : Fld Z Z.heap sNOT_NULL "java/lang/Enum" "ordinal" "I" (.int 7)) (SsIN : Sta Z Z.heap "com/example/moraine/moraine/model/Expression$Operator" "IN" "Lcom/example/moraine/moraine/model/Expression$Operator;" (.ref sIN)) (EsIN : Exa Z Z.heap sIN "com/example/moraine/moraine/model/Expression$Operator") (FsIN : Fld Z Z.heap sIN "java/lang/Enum" "ordinal" "I" (.int 8)) (SsNOT_IN : Sta Z Z.heap "com/example/moraine/moraine/model/Expression$Operator" "NOT_IN" "Lcom/example/moraine/moraine/model/Expression$Operator;" (.ref sNOT_IN)) (EsNOT_IN : Exa Z Z.heap sNOT_IN "com/example/moraine/moraine/model/Expression$Operator") (FsNOT_IN : Fld Z Z.heap sNOT_IN "java/lang/Enum" "ordinal" "I" (.int 9)) (SsNE : Sta Z Z.heap "com/example/moraine/moraine/model/Expression$Operator" "NE" "Lcom/example/moraine/moraine/model/Expression$Operator;" (.ref sNE)) (EsNE : Exa Z Z.heap sNE "com/example/moraine/moraine/model/Expression$Operator") (FsNE : Fld Z Z.heap sNE "java/lang/Enum" "ordinal" "I" (.int 1)) (SsLE : Sta Z Z.heap "com/example/moraine/moraine/model/Expression$Operator" "LE" "Lcom/example/moraine/moraine/model/Expression$Operator;" (.ref sLE)) (EsLE : Exa Z Z.heap sLE "com/example/moraine/moraine/model/Expression$Operator") (FsLE : Fld Z Z.heap sLE "java/lang/Enum" "ordinal" "I" (.int 3)) (SsGT : Sta Z Z.heap "com/example/moraine/moraine/model/Expression$Operator" "GT" "Lcom/example/moraine/moraine/model/Expression$Operator;" (.ref sGT)) (EsGT : Exa Z Z.heap sGT "com/example/moraine/moraine/model/Expression$Operator") (FsGT : Fld Z Z.heap sGT "java/lang/Enum" "ordinal" "I" (.int 4)) (SsLT : Sta Z Z.heap "com/example/moraine/moraine/model/Expression$Operator" "LT" "Lcom/example/moraine/moraine/model/Expression$Operator;" (.ref sLT)) (EsLT : Exa Z Z.heap sLT "com/example/moraine/moraine/model/Expression$Operator") (FsLT : Fld Z Z.heap sLT "java/lang/Enum" "ordinal" "I" (.int 2)) (SsGE : Sta Z Z.heap "com/example/moraine/moraine/model/Expression$Operator" "GE" "Lcom/example/moraine/moraine/model/Expression$Operator;" (.ref sGE)) (EsGE : Exa Z Z.heap sGE "com/example/moraine/moraine/model/Expression$Operator") (FsGE : Fld Z Z.heap sGE "java/lang/Enum" "ordinal" "I" (.int 5)) :
    MetFree l (⟨"com/example/moraine/moraine/model/Expression$Operator", "negation", "()Lcom/example/moraine/moraine/model/Expression$Operator;"⟩ : MethodName) (head1 (Jvm.Cond.code (⟨"com/example/moraine/moraine/model/Expression$Operator", "negation", "()Lcom/example/moraine/moraine/model/Expression$Operator;"⟩ : MethodName) prog_66_method_4_code 1 (some (.object "com/example/moraine/moraine/model/Expression$Operator")) :: ws) ({ frames := 1, cells := 0, slots := 0, locals := 12 } : Room)) (fun aA uU => aA = #[(.ref sNOT_IN)] ∧ Z.Warmed39 uU.vm ∧ uU.heap = h0) (fun _ _ _ _ _ => True) (fun _ uU oO uU' => ∃ vV lL, oO = .returned vV ∧ Q_rmNeg_NOT_IN Z sEQ sIS_NULL sNOT_NULL sIN sNOT_IN sNE sLE sGT sLT sGE h0 n0 vV uU'.heap lL ∧ FrameEnd uU oO uU' lL ({ frames := 1, cells := 0, slots := 0, locals := 12 } : Room).cells ({ frames := 1, cells := 0, slots := 0, locals := 12 } : Room).slots) := by
  refine MetFree.of_bodySF (plainFor_of_name pn_Expression_Operator) hisR ?_
  intro p e s m args below meth c s₁ Bd hml0 hP hK
  obtain ⟨rfl, hZ, hh⟩ := hP
  have hx := Bd.exec
  have hby := Bd.bytes
  have hml : c.maxLocals = 1 := hml0
  have hown : s.vm.findClass "com/example/moraine/moraine/model/Expression$Operator" = some m.cls := findClass_of_methodNamed Bd.named
  have hnm := (name_of_methodNamed Bd.named Bd.method).1
  have X0 : Stand p l e ({ frames := 1, cells := 0, slots := 0, locals := 12 } : Room) s m #[(.ref sNOT_IN)] below meth c s₁ [] 0 0 := Stand.of_body Bd
  have e0 : s₁.heap = h0 := by rw [← hh, Bd.state]; rfl
  have N0 := Fr.nil n0
  refine oEnter (oCast (ef_rmNeg_NOT_IN m sNOT_IN ) ?_)
  show oGl p e below (s₁.setTop (mkF m 0 #[.val (.ref sNOT_IN)] [])) _
  refine saloadN X0 hx (hb hby d3_0) rfl rfl rfl (pc' := 1) ?_
  have hz1 : n0 ≤ h0.size := by omega
  obtain ⟨cq1, kq1, q1a, q1b, q1c⟩ := isOf hZ e0 (EsNOT_IN.ext O0.2)
  obtain ⟨_, _, ⟨T1, L1, k1, n1⟩, -, X1, ⟨Lc1, hQ1, l1, y1, z1⟩, st1⟩ := X0.virtualBackUp hx (x := (⟨"com/example/moraine/moraine/model/Expression$Operator", "ordinal", "()I"⟩ : MethodName)) (y := (⟨"java/lang/Enum", "ordinal", "()I"⟩ : MethodName)) (owner := "java/lang/Enum") hown (mvT hZ (hw _ (List.mem_of_getElem? (i := 27) rfl))) (mvT hZ (hw _ (List.mem_of_getElem? (i := 28) rfl))) (mvT hZ (hw _ (List.mem_of_getElem? (i := 29) rfl))) (by decide) (mvT hZ (hw _ (List.mem_of_getElem? (i := 31) rfl))) (mvT hZ (hw _ (List.mem_of_getElem? (i := 30) rfl))) (backOf (W := 0) (rmOrd l Z a0 hw [] sNOT_IN (9 : Int32) h0 n0 hz1 (FsNOT_IN.ext O0.2)) hZ (hw _ (List.mem_of_getElem? (i := 33) rfl)) (hw _ (List.mem_of_getElem? (i := 32) rfl)) (by decide) (by decide)) q1a q1c (g := (mkF m 1 #[.val (.ref sNOT_IN)] [(.ref sNOT_IN)])) rfl (by rw [hml]; rfl) (Steps.refl _) (argsL := []) (rest := []) (lenOf pd_0 rfl) rfl (by show 2 * 0 + _ ≤ _; exact Nat.le_of_eq rfl) (hb hby d3_1) (fun _ _ => ⟨rfl, e0, (by decide : 0 + 0 ≤ _), (by decide : 0 + 0 ≤ _)⟩)
  dsimp only [Pt.U, Pt.locs, Pt.cells, Pt.slots] at X1 l1 y1 z1 st1 hQ1
  subst l1 y1 z1
  obtain ⟨rfl, N1q, eh1⟩ := hQ1
  have N1 := Fr.app N0 N1q
  refine oSt st1 ?_
  show oGl p e below (T1.setTop (mkF m 4 #[.val (.ref sNOT_IN)] [(.int (9 : Int32))])) _
  refine oOn (fun _ kK => XS.tswOut X1.here hx rfl (pc0 := 4) (pc' := 92) rfl (hb hby d3_4) rfl (by decide) (by decide) (by decide) kK) ?_
  show oGl p e below (T1.setTop (mkF m 92 #[.val (.ref sNOT_IN)] [])) _
  obtain ⟨T2, X2, e2, st2⟩ := getS2 X1 hx hZ hown (host := "") (Or.inl (hw _ (List.mem_of_getElem? (i := 18) rfl))) Via.refl eh1 (SsIN.ext O0.2) (g := (mkF m 92 #[.val (.ref sNOT_IN)] [])) rfl (hb hby d3_92)
  refine oOn st2 ?_
  show oGl p e below (T2.setTop (mkF m 95 #[.val (.ref sNOT_IN)] [(.ref sIN)])) _
  refine oRetR X2 hx Bd.notSynchronized Bd.returns rfl rfl (hb hby d3_95) (by decide) (by decide) ?_
  show Q_rmNeg_NOT_IN Z sEQ sIS_NULL sNOT_NULL sIN sNOT_IN sNE sLE sGT sLT sGE h0 n0 _ T2.heap _
  rw [e2]
  exact ⟨rfl, N1, rfl⟩
theorem own_mod (x : Int32) : 0 ≤ ((x &&& (2147483647 : Int32)) % (10 : Int32)).toInt ∧ ((x &&& (2147483647 : Int32)) % (10 : Int32)).toInt < 10 := by
  have h := (c_and x 2147483647 (by decide)).1
  have h2 := (c_irem (x &&& 2147483647) 10 10 (by decide)).1 h
  omega
theorem own_ten {k : Int32} (h : 0 ≤ k.toInt ∧ k.toInt < 10) : k = (0 : Int32) ∨ k = (1 : Int32) ∨ k = (2 : Int32) ∨ k = (3 : Int32) ∨ k = (4 : Int32) ∨ k = (5 : Int32) ∨ k = (6 : Int32) ∨ k = (7 : Int32) ∨ k = (8 : Int32) ∨ k = (9 : Int32) := by
  have h2 : k.toInt = 0 ∨ k.toInt = 1 ∨ k.toInt = 2 ∨ k.toInt = 3 ∨ k.toInt = 4 ∨ k.toInt = 5 ∨ k.toInt = 6 ∨ k.toInt = 7 ∨ k.toInt = 8 ∨ k.toInt = 9 := by omega
  rcases h2 with q | q | q | q | q | q | q | q | q | q
  · exact Or.inl (Int32.toInt_inj.mp (q.trans (by decide)))
  · exact Or.inr (Or.inl (Int32.toInt_inj.mp (q.trans (by decide))))
  · exact Or.inr (Or.inr (Or.inl (Int32.toInt_inj.mp (q.trans (by decide)))))
  · exact Or.inr (Or.inr (Or.inr (Or.inl (Int32.toInt_inj.mp (q.trans (by decide))))))
  · exact Or.inr (Or.inr (Or.inr (Or.inr (Or.inl (Int32.toInt_inj.mp (q.trans (by decide)))))))
  · exact Or.inr (Or.inr (Or.inr (Or.inr (Or.inr (Or.inl (Int32.toInt_inj.mp (q.trans (by decide))))))))
  · exact Or.inr (Or.inr (Or.inr (Or.inr (Or.inr (Or.inr (Or.inl (Int32.toInt_inj.mp (q.trans (by decide)))))))))
  · exact Or.inr (Or.inr (Or.inr (Or.inr (Or.inr (Or.inr (Or.inr (Or.inl (Int32.toInt_inj.mp (q.trans (by decide))))))))))
  · exact Or.inr (Or.inr (Or.inr (Or.inr (Or.inr (Or.inr (Or.inr (Or.inr (Or.inl (Int32.toInt_inj.mp (q.trans (by decide)))))))))))
  · exact Or.inr (Or.inr (Or.inr (Or.inr (Or.inr (Or.inr (Or.inr (Or.inr (Or.inr ((Int32.toInt_inj.mp (q.trans (by decide))))))))))))
theorem pd_1 : parseMethodDescriptor "(I)Lcom/example/moraine/moraine/model/Expression$Operator;" = some ⟨[.int], some (.object "com/example/moraine/moraine/model/Expression$Operator")⟩ := by decide +kernel
theorem pd_2 : parseMethodDescriptor "()Lcom/example/moraine/moraine/model/Expression$Operator;" = some ⟨[], some (.object "com/example/moraine/moraine/model/Expression$Operator")⟩ := by decide +kernel
theorem ef_rmL (m : MethodId) (x0 : Int32)  : entryFrame m #[(.int x0)] maxLocals = mkF m 0 #[.val (.int x0), .unset, .unset, .unset, .unset, .unset] [] := by first | rfl | (simp [entryFrame, mkF, argsToLocals, Value.category, maxLocals]; done)
def Q_rmL (Z : State) (i0 : Int32) (sEQ : Addr) (sIS_NULL : Addr) (sNOT_NULL : Addr) (sIN : Addr) (sNOT_IN : Addr) (sNE : Addr) (sLE : Addr) (sGT : Addr) (sLT : Addr) (sGE : Addr) (h0 : Heap) (n0 : Nat) (vv : Option Value) (h : Heap) (L : List Loc) : Prop := vv = some (.int 1) ∧ Fr n0 L
set_option maxRecDepth 65536 in
set_option maxHeartbeats 40000000 in
theorem rmL (l : Launch) (Z : State) (a0 : Array Value) (hw : ∀ d ∈ tables_1, d.before a0 Z = true) (ws : List Jvm.Cond) (i0 : Int32) (sEQ : Addr) (sIS_NULL : Addr) (sNOT_NULL : Addr) (sIN : Addr) (sNOT_IN : Addr) (sNE : Addr) (sLE : Addr) (sGT : Addr) (sLT : Addr) (sGE : Addr) (h0 : Heap) (n0 : Nat) (Z0 : n0 ≤ h0.size) (O0 : Old Z n0 h0) (SsEQ : Sta Z Z.heap "com/example/moraine/moraine/model/Expression$Operator" "EQ" "Lcom/example/moraine/moraine/model/Expression$Operator;" (.ref sEQ)) (EsEQ : Exa Z Z.heap sEQ "com/example/moraine/moraine/model/Expression$Operator") (FsEQ : Fld Z Z.heap sEQ "java/lang/Enum" "ordinal" "I" (.int 0)) (SsIS_NULL : Sta Z Z.heap "com/example/moraine/moraine/model/Expression$Operator" "IS_NULL" "Lcom/example/moraine/moraine/model/Expression$Operator;" (.ref sIS_NULL)) (EsIS_NULL : Exa Z Z.heap sIS_NULL "com/example/moraine/moraine/model/Expression$Operator") (FsIS_NULL : Fld Z Z.heap sIS_NULL "java/lang/Enum" "ordinal" "I" (.int 6)) (SsNOT_NULL : Sta Z Z.heap "com/example/moraine/moraine/model/Expression$Operator" "NOT_NULL" "Lcom/example/moraine/moraine/model/Expression$Operator;" (.ref sNOT_NULL)) (EsNOT_NULL : Exa Z Z.heap sNOT_NULL "com/example/moraine/moraine/model/Expression$Operator") (FsNOT_NULL : Fld Z Z.heap sNOT_NULL "java/lang/Enum" "ordinal" "I" (.int 7)) (SsIN : Sta Z Z.heap "com/example/moraine/moraine/model/Expression$Operator" "IN" "Lcom/example/moraine/moraine/model/Expression$Operator;" (.ref sIN)) (EsIN : Exa Z Z.heap sIN "com/example/moraine/moraine/model/Expression$Operator") (FsIN : Fld Z Z.heap sIN "java/lang/Enum" "ordinal" "I" (.int 8)) (SsNOT_IN : Sta Z Z.heap "com/example/moraine/moraine/model/Expression$Operator" "NOT_IN" "Lcom/example/moraine/moraine/model/Expression$Operator;" (.ref sNOT_IN)) (EsNOT_IN : Exa Z Z.heap sNOT_IN "com/example/moraine/moraine/model/Expression$Operator") (FsNOT_IN : Fld Z Z.heap sNOT_IN "java/lang/Enum" "ordinal" "I" (.int 9)) (SsNE : Sta Z Z.heap "com/example/moraine/moraine/model/Expression$Operator" "NE" "Lcom/example/moraine/moraine/model/Expression$Operator;" (.ref sNE)) (EsNE : Exa Z Z.heap sNE "com/example/moraine/moraine/model/Expression$Operator") (FsNE : Fld Z Z.heap sNE "java/lang/Enum" "ordinal" "I" (.int 1)) (SsLE : Sta Z Z.heap "com/example/moraine/moraine/model/Expression$Operator" "LE" "Lcom/example/moraine/moraine/model/Expression$Operator;" (.ref sLE)) (EsLE : Exa Z Z.heap sLE "com/example/moraine/moraine/model/Expression$Operator") (FsLE : Fld Z Z.heap sLE "java/lang/Enum" "ordinal" "I" (.int 3)) (SsGT : Sta Z Z.heap "com/example/moraine/moraine/model/Expression$Operator" "GT" "Lcom/example/moraine/moraine/model/Expression$Operator;" (.ref sGT)) (EsGT : Exa Z Z.heap sGT "com/example/moraine/moraine/model/Expression$Operator") (FsGT : Fld Z Z.heap sGT "java/lang/Enum" "ordinal" "I" (.int 4)) (SsLT : Sta Z Z.heap "com/example/moraine/moraine/model/Expression$Operator" "LT" "Lcom/example/moraine/moraine/model/Expression$Operator;" (.ref sLT)) (EsLT : Exa Z Z.heap sLT "com/example/moraine/moraine/model/Expression$Operator") (FsLT : Fld Z Z.heap sLT "java/lang/Enum" "ordinal" "I" (.int 2)) (SsGE : Sta Z Z.heap "com/example/moraine/moraine/model/Expression$Operator" "GE" "Lcom/example/moraine/moraine/model/Expression$Operator;" (.ref sGE)) (EsGE : Exa Z Z.heap sGE "com/example/moraine/moraine/model/Expression$Operator") (FsGE : Fld Z Z.heap sGE "java/lang/Enum" "ordinal" "I" (.int 5)) :
    MetFree l x (head1 (Jvm.Cond.code x code maxLocals ret :: ws) room_1) (fun aA uU => aA = #[(.int i0)] ∧ Z.Warmed39 uU.vm ∧ uU.heap = h0) (fun _ _ _ _ _ => True) (fun _ uU oO uU' => ∃ vV lL, oO = .returned vV ∧ Q_rmL Z i0 sEQ sIS_NULL sNOT_NULL sIN sNOT_IN sNE sLE sGT sLT sGE h0 n0 vV uU'.heap lL ∧ FrameEnd uU oO uU' lL 16 128) := by
  refine MetFree.of_bodySF (plainFor_of_name pn_OperatorLiteralsPinLaw) hisR ?_
  intro p e s m args below meth c s₁ Bd hml0 hP hK
  obtain ⟨rfl, hZ, hh⟩ := hP
  have hx := Bd.exec
  have hby := Bd.bytes
  have hml : c.maxLocals = 6 := hml0
  have hown : s.vm.findClass "com/example/moraine/moraine/model/OperatorLiteralsPinLaw" = some m.cls := findClass_of_methodNamed Bd.named
  have hnm := (name_of_methodNamed Bd.named Bd.method).1
  have X0 : Stand p l e room_1 s m #[(.int i0)] below meth c s₁ [] 0 0 := Stand.of_body Bd
  have e0 : s₁.heap = h0 := by rw [← hh, Bd.state]; rfl
  have N0 := Fr.nil n0
  refine oEnter (oCast (ef_rmL m i0 ) ?_)
  show oGl p e below (s₁.setTop (mkF m 0 #[.val (.int i0), .unset, .unset, .unset, .unset, .unset] [])) _
  refine siloadN X0 hx (hb hby at_0) rfl rfl (pc' := 1) ?_
  refine oOn (X0.ldcInt hx hown (mvT hZ (hw _ (List.mem_of_getElem? (i := 0) rfl))) (g := (mkF m 1 #[.val (.int i0), .unset, .unset, .unset, .unset, .unset] [(.int i0)])) rfl (hb hby at_1)) ?_
  show oGl p e below (s₁.setTop (mkF m 3 #[.val (.int i0), .unset, .unset, .unset, .unset, .unset] [(.int (2147483647 : Int32)), (.int i0)])) _
  refine siand X0 hx (hb hby at_3) rfl rfl (pc' := 4) ?_
  refine sbipush X0 hx (hb hby at_4) rfl rfl (z := 10) (pc' := 6) ?_
  refine sirem X0 hx (hb hby at_6) rfl (by decide) rfl (pc' := 7) ?_
  refine sistoreN X0 hx (hb hby at_7) rfl rfl (l' := #[.val (.int i0), .val (.int ((i0 &&& (2147483647 : Int32)) % (10 : Int32))), .unset, .unset, .unset, .unset]) (pc' := 8) ?_
  have hk9 := own_mod i0
  generalize hk : ((i0 &&& (2147483647 : Int32)) % (10 : Int32)) = k
  show oGl p e below (s₁.setTop (mkF m 8 #[.val (.int i0), .val (.int k), .unset, .unset, .unset, .unset] [])) _
  rw [hk] at hk9
  refine sbipush X0 hx (hb hby at_8) rfl rfl (z := 10) (pc' := 10) ?_
  obtain ⟨T1, h1, k1, X1, e1, E1, A1, st1⟩ := newP X0 hx hZ (hw _ (List.mem_of_getElem? (i := 1) rfl)) e0 (g := (mkF m 10 #[.val (.int i0), .val (.int k), .unset, .unset, .unset, .unset] [(.int (10 : Int32))])) rfl (hb hby at_10) rfl (by decide) (cap := 10) (by decide) (by decide) (by decide) (by decide)
  obtain ⟨a1, g1⟩ : ∃ z, z = h0.size := ⟨_, rfl⟩
  rw [← g1] at A1 st1
  refine oOn st1 ?_
  have z2 : h0.size ≤ h1.size := E1.1
  have lt1 : a1 < h1.size := A1.lt
  have V1 : oAI Z h1 a1 .int 10 (fun _ => 0) := oAI.new A1 rfl
  show oGl p e below (T1.setTop (mkF m 12 #[.val (.int i0), .val (.int k), .unset, .unset, .unset, .unset] [(.ref a1)])) _
  refine sdup X1 hx (hb hby at_12) rfl rfl (pc' := 13) ?_
  refine siconst X1 hx (hb hby at_13) rfl rfl (z := 0) (pc' := 14) ?_
  refine siconst X1 hx (hb hby at_14) rfl rfl (z := 1) (pc' := 15) ?_
  obtain ⟨T3, h3, X3, e3, W3, V3, st3⟩ := V1.stI X1 hx hZ e1 (j := (0 : Int32)) (by decide) (g := (mkF m 15 #[.val (.int i0), .val (.int k), .unset, .unset, .unset, .unset] [(.int (1 : Int32)), (.int (0 : Int32)), (.ref a1), (.ref a1)])) rfl rfl (hb hby at_15)
  refine oOn st3 ?_
  have z4 : h1.size ≤ h3.size := Nat.le_of_eq W3.size.symm
  have N3 := Fr.snoc X3 N0 (by omega)
  show oGl p e below (T3.setTop (mkF m 16 #[.val (.int i0), .val (.int k), .unset, .unset, .unset, .unset] [(.ref a1)])) _
  refine sdup X3 hx (hb hby at_16) rfl rfl (pc' := 17) ?_
  refine siconst X3 hx (hb hby at_17) rfl rfl (z := 1) (pc' := 18) ?_
  refine siconst X3 hx (hb hby at_18) rfl rfl (z := 1) (pc' := 19) ?_
  obtain ⟨T5, h5, X5, e5, W5, V5, st5⟩ := V3.stI X3 hx hZ e3 (j := (1 : Int32)) (by decide) (g := (mkF m 19 #[.val (.int i0), .val (.int k), .unset, .unset, .unset, .unset] [(.int (1 : Int32)), (.int (1 : Int32)), (.ref a1), (.ref a1)])) rfl rfl (hb hby at_19)
  refine oOn st5 ?_
  have z6 : h3.size ≤ h5.size := Nat.le_of_eq W5.size.symm
  have N5 := Fr.snoc X5 N3 (by omega)
  show oGl p e below (T5.setTop (mkF m 20 #[.val (.int i0), .val (.int k), .unset, .unset, .unset, .unset] [(.ref a1)])) _
  refine sdup X5 hx (hb hby at_20) rfl rfl (pc' := 21) ?_
  refine siconst X5 hx (hb hby at_21) rfl rfl (z := 2) (pc' := 22) ?_
  refine siconst X5 hx (hb hby at_22) rfl rfl (z := 1) (pc' := 23) ?_
  obtain ⟨T7, h7, X7, e7, W7, V7, st7⟩ := V5.stI X5 hx hZ e5 (j := (2 : Int32)) (by decide) (g := (mkF m 23 #[.val (.int i0), .val (.int k), .unset, .unset, .unset, .unset] [(.int (1 : Int32)), (.int (2 : Int32)), (.ref a1), (.ref a1)])) rfl rfl (hb hby at_23)
  refine oOn st7 ?_
  have z8 : h5.size ≤ h7.size := Nat.le_of_eq W7.size.symm
  have N7 := Fr.snoc X7 N5 (by omega)
  show oGl p e below (T7.setTop (mkF m 24 #[.val (.int i0), .val (.int k), .unset, .unset, .unset, .unset] [(.ref a1)])) _
  refine sdup X7 hx (hb hby at_24) rfl rfl (pc' := 25) ?_
  refine siconst X7 hx (hb hby at_25) rfl rfl (z := 3) (pc' := 26) ?_
  refine siconst X7 hx (hb hby at_26) rfl rfl (z := 1) (pc' := 27) ?_
  obtain ⟨T9, h9, X9, e9, W9, V9, st9⟩ := V7.stI X7 hx hZ e7 (j := (3 : Int32)) (by decide) (g := (mkF m 27 #[.val (.int i0), .val (.int k), .unset, .unset, .unset, .unset] [(.int (1 : Int32)), (.int (3 : Int32)), (.ref a1), (.ref a1)])) rfl rfl (hb hby at_27)
  refine oOn st9 ?_
  have z10 : h7.size ≤ h9.size := Nat.le_of_eq W9.size.symm
  have N9 := Fr.snoc X9 N7 (by omega)
  show oGl p e below (T9.setTop (mkF m 28 #[.val (.int i0), .val (.int k), .unset, .unset, .unset, .unset] [(.ref a1)])) _
  refine sdup X9 hx (hb hby at_28) rfl rfl (pc' := 29) ?_
  refine siconst X9 hx (hb hby at_29) rfl rfl (z := 4) (pc' := 30) ?_
  refine siconst X9 hx (hb hby at_30) rfl rfl (z := 1) (pc' := 31) ?_
  obtain ⟨T11, h11, X11, e11, W11, V11, st11⟩ := V9.stI X9 hx hZ e9 (j := (4 : Int32)) (by decide) (g := (mkF m 31 #[.val (.int i0), .val (.int k), .unset, .unset, .unset, .unset] [(.int (1 : Int32)), (.int (4 : Int32)), (.ref a1), (.ref a1)])) rfl rfl (hb hby at_31)
  refine oOn st11 ?_
  have z12 : h9.size ≤ h11.size := Nat.le_of_eq W11.size.symm
  have N11 := Fr.snoc X11 N9 (by omega)
  show oGl p e below (T11.setTop (mkF m 32 #[.val (.int i0), .val (.int k), .unset, .unset, .unset, .unset] [(.ref a1)])) _
  refine sdup X11 hx (hb hby at_32) rfl rfl (pc' := 33) ?_
  refine siconst X11 hx (hb hby at_33) rfl rfl (z := 5) (pc' := 34) ?_
  refine siconst X11 hx (hb hby at_34) rfl rfl (z := 1) (pc' := 35) ?_
  obtain ⟨T13, h13, X13, e13, W13, V13, st13⟩ := V11.stI X11 hx hZ e11 (j := (5 : Int32)) (by decide) (g := (mkF m 35 #[.val (.int i0), .val (.int k), .unset, .unset, .unset, .unset] [(.int (1 : Int32)), (.int (5 : Int32)), (.ref a1), (.ref a1)])) rfl rfl (hb hby at_35)
  refine oOn st13 ?_
  have z14 : h11.size ≤ h13.size := Nat.le_of_eq W13.size.symm
  have N13 := Fr.snoc X13 N11 (by omega)
  show oGl p e below (T13.setTop (mkF m 36 #[.val (.int i0), .val (.int k), .unset, .unset, .unset, .unset] [(.ref a1)])) _
  refine sdup X13 hx (hb hby at_36) rfl rfl (pc' := 37) ?_
  refine sbipush X13 hx (hb hby at_37) rfl rfl (z := 6) (pc' := 39) ?_
  refine siconst X13 hx (hb hby at_39) rfl rfl (z := 0) (pc' := 40) ?_
  obtain ⟨T15, h15, X15, e15, W15, V15, st15⟩ := V13.stI X13 hx hZ e13 (j := (6 : Int32)) (by decide) (g := (mkF m 40 #[.val (.int i0), .val (.int k), .unset, .unset, .unset, .unset] [(.int (0 : Int32)), (.int (6 : Int32)), (.ref a1), (.ref a1)])) rfl rfl (hb hby at_40)
  refine oOn st15 ?_
  have z16 : h13.size ≤ h15.size := Nat.le_of_eq W15.size.symm
  have N15 := Fr.snoc X15 N13 (by omega)
  show oGl p e below (T15.setTop (mkF m 41 #[.val (.int i0), .val (.int k), .unset, .unset, .unset, .unset] [(.ref a1)])) _
  refine sdup X15 hx (hb hby at_41) rfl rfl (pc' := 42) ?_
  refine sbipush X15 hx (hb hby at_42) rfl rfl (z := 7) (pc' := 44) ?_
  refine siconst X15 hx (hb hby at_44) rfl rfl (z := 0) (pc' := 45) ?_
  obtain ⟨T17, h17, X17, e17, W17, V17, st17⟩ := V15.stI X15 hx hZ e15 (j := (7 : Int32)) (by decide) (g := (mkF m 45 #[.val (.int i0), .val (.int k), .unset, .unset, .unset, .unset] [(.int (0 : Int32)), (.int (7 : Int32)), (.ref a1), (.ref a1)])) rfl rfl (hb hby at_45)
  refine oOn st17 ?_
  have z18 : h15.size ≤ h17.size := Nat.le_of_eq W17.size.symm
  have N17 := Fr.snoc X17 N15 (by omega)
  show oGl p e below (T17.setTop (mkF m 46 #[.val (.int i0), .val (.int k), .unset, .unset, .unset, .unset] [(.ref a1)])) _
  refine sdup X17 hx (hb hby at_46) rfl rfl (pc' := 47) ?_
  refine sbipush X17 hx (hb hby at_47) rfl rfl (z := 8) (pc' := 49) ?_
  refine siconst X17 hx (hb hby at_49) rfl rfl (z := -1) (pc' := 50) ?_
  obtain ⟨T19, h19, X19, e19, W19, V19, st19⟩ := V17.stI X17 hx hZ e17 (j := (8 : Int32)) (by decide) (g := (mkF m 50 #[.val (.int i0), .val (.int k), .unset, .unset, .unset, .unset] [(.int (-1 : Int32)), (.int (8 : Int32)), (.ref a1), (.ref a1)])) rfl rfl (hb hby at_50)
  refine oOn st19 ?_
  have z20 : h17.size ≤ h19.size := Nat.le_of_eq W19.size.symm
  have N19 := Fr.snoc X19 N17 (by omega)
  show oGl p e below (T19.setTop (mkF m 51 #[.val (.int i0), .val (.int k), .unset, .unset, .unset, .unset] [(.ref a1)])) _
  refine sdup X19 hx (hb hby at_51) rfl rfl (pc' := 52) ?_
  refine sbipush X19 hx (hb hby at_52) rfl rfl (z := 9) (pc' := 54) ?_
  refine siconst X19 hx (hb hby at_54) rfl rfl (z := -1) (pc' := 55) ?_
  obtain ⟨T21, h21, X21, e21, W21, V21, st21⟩ := V19.stI X19 hx hZ e19 (j := (9 : Int32)) (by decide) (g := (mkF m 55 #[.val (.int i0), .val (.int k), .unset, .unset, .unset, .unset] [(.int (-1 : Int32)), (.int (9 : Int32)), (.ref a1), (.ref a1)])) rfl rfl (hb hby at_55)
  refine oOn st21 ?_
  have z22 : h19.size ≤ h21.size := Nat.le_of_eq W21.size.symm
  have N21 := Fr.snoc X21 N19 (by omega)
  show oGl p e below (T21.setTop (mkF m 56 #[.val (.int i0), .val (.int k), .unset, .unset, .unset, .unset] [(.ref a1)])) _
  refine sastoreN X21 hx (hb hby at_56) rfl rfl rfl (l' := #[.val (.int i0), .val (.int k), .val (.ref a1), .unset, .unset, .unset]) (pc' := 57) ?_
  rcases own_ten hk9 with rfl | rfl | rfl | rfl | rfl | rfl | rfl | rfl | rfl | rfl
  · skip
    show oGl p e below (T21.setTop (mkF m 57 #[.val (.int i0), .val (.int (0 : Int32)), .val (.ref a1), .unset, .unset, .unset] [])) _
    refine siloadN X21 hx (hb hby at_57) rfl rfl (pc' := 58) ?_
    have f23 := (((((((((((O0.ext E1).wr W3 (by omega)).wr W5 (by omega)).wr W7 (by omega)).wr W9 (by omega)).wr W11 (by omega)).wr W13 (by omega)).wr W15 (by omega)).wr W17 (by omega)).wr W19 (by omega)).wr W21 (by omega))
    have hz24 : n0 ≤ h21.size := by omega
    obtain ⟨_, _, ⟨T24, L24, k24, n24⟩, -, X24, ⟨Lc24, hQ24, l24, y24, z24⟩, st24⟩ := Jvm.LawKit.callS X21 hx (y := (⟨"com/example/moraine/moraine/model/OperatorLiteralsPinLaw", "pick", "(I)Lcom/example/moraine/moraine/model/Expression$Operator;"⟩ : MethodName)) hown (mvT hZ (hw _ (List.mem_of_getElem? (i := 2) rfl))) (mvT hZ (hw _ (List.mem_of_getElem? (i := 3) rfl))) (mvT hZ (hw _ (List.mem_of_getElem? (i := 4) rfl))) (mvT hZ (hw _ (List.mem_of_getElem? (i := 5) rfl))) (by decide) (backOf (W := 0) (rmP0 l Z a0 hw [] sEQ sIS_NULL sNOT_NULL sIN sNOT_IN sNE sLE sGT sLT sGE h21 n0 hz24 f23 SsEQ EsEQ FsEQ SsIS_NULL EsIS_NULL FsIS_NULL SsNOT_NULL EsNOT_NULL FsNOT_NULL SsIN EsIN FsIN SsNOT_IN EsNOT_IN FsNOT_IN SsNE EsNE FsNE SsLE EsLE FsLE SsGT EsGT FsGT SsLT EsLT FsLT SsGE EsGE FsGE) hZ (hw _ (List.mem_of_getElem? (i := 5) rfl)) (hw _ (List.mem_of_getElem? (i := 4) rfl)) (by decide) (by decide)) (g := (mkF m 58 #[.val (.int i0), .val (.int (0 : Int32)), .val (.ref a1), .unset, .unset, .unset] [(.int (0 : Int32))])) rfl (by rw [hml]; rfl) (argsL := [(.int (0 : Int32))]) (rest := []) (lenOf pd_1 rfl) rfl (by show 2 * 0 + _ ≤ _; exact Nat.le_of_eq rfl) (hb hby at_58) (fun _ _ => ⟨rfl, e21, (by decide : 1 + 0 ≤ _), (by decide : 10 + 0 ≤ _)⟩)
    dsimp only [Pt.U, Pt.locs, Pt.cells, Pt.slots] at X24 l24 y24 z24 st24 hQ24
    subst l24 y24 z24
    obtain ⟨rfl, N24q, eh24⟩ := hQ24
    have N24 := Fr.app N21 N24q
    refine oOn st24 ?_
    show oGl p e below (T24.setTop (mkF m 61 #[.val (.int i0), .val (.int (0 : Int32)), .val (.ref a1), .unset, .unset, .unset] [(.ref sEQ)])) _
    refine sastoreN X24 hx (hb hby at_61) rfl rfl rfl (l' := #[.val (.int i0), .val (.int (0 : Int32)), .val (.ref a1), .val (.ref sEQ), .unset, .unset]) (pc' := 62) ?_
    refine saloadN X24 hx (hb hby at_62) rfl rfl rfl (pc' := 63) ?_
    have hz25 : n0 ≤ h21.size := by omega
    obtain ⟨cq25, kq25, q25a, q25b, q25c⟩ := isOf hZ eh24 (EsEQ.ext f23.2)
    obtain ⟨_, _, ⟨T25, L25, k25, n25⟩, -, X25, ⟨Lc25, hQ25, l25, y25, z25⟩, st25⟩ := X24.virtualBack hx (y := (⟨"com/example/moraine/moraine/model/Expression$Operator", "literals", "()I"⟩ : MethodName)) (z := (⟨"com/example/moraine/moraine/model/Expression$Operator", "literals", "()I"⟩ : MethodName)) hown (mvT hZ (hw _ (List.mem_of_getElem? (i := 9) rfl))) (mvT hZ (hw _ (List.mem_of_getElem? (i := 10) rfl))) (notFace_of_selects (args := #[]) (mvT hZ (hw _ (List.mem_of_getElem? (i := 12) rfl)))) (mvT hZ (hw _ (List.mem_of_getElem? (i := 12) rfl))) (mvT hZ (hw _ (List.mem_of_getElem? (i := 11) rfl))) (by decide) (backOf (W := 0) (rmLit_EQ l Z a0 hw [] sEQ sIS_NULL sNOT_NULL sIN sNOT_IN sNE sLE sGT sLT sGE h21 n0 hz25 f23 SsEQ EsEQ FsEQ SsIS_NULL EsIS_NULL FsIS_NULL SsNOT_NULL EsNOT_NULL FsNOT_NULL SsIN EsIN FsIN SsNOT_IN EsNOT_IN FsNOT_IN SsNE EsNE FsNE SsLE EsLE FsLE SsGT EsGT FsGT SsLT EsLT FsLT SsGE EsGE FsGE) hZ (hw _ (List.mem_of_getElem? (i := 13) rfl)) (hw _ (List.mem_of_getElem? (i := 7) rfl)) (by decide) (by decide)) q25a q25c (g := (mkF m 63 #[.val (.int i0), .val (.int (0 : Int32)), .val (.ref a1), .val (.ref sEQ), .unset, .unset] [(.ref sEQ)])) rfl (by rw [hml]; rfl) (Steps.refl _) (argsL := []) (rest := []) (lenOf pd_0 rfl) rfl (by show 2 * 0 + _ ≤ _; exact Nat.le_of_eq rfl) (hb hby at_63) (fun _ _ => ⟨rfl, eh24, (by decide : 1 + 0 ≤ _), (by decide : 10 + 0 ≤ _)⟩)
    dsimp only [Pt.U, Pt.locs, Pt.cells, Pt.slots] at X25 l25 y25 z25 st25 hQ25
    subst l25 y25 z25
    obtain ⟨rfl, N25q, eh25⟩ := hQ25
    have N25 := Fr.app N24 N25q
    refine oSt st25 ?_
    show oGl p e below (T25.setTop (mkF m 66 #[.val (.int i0), .val (.int (0 : Int32)), .val (.ref a1), .val (.ref sEQ), .unset, .unset] [(.int (1 : Int32))])) _
    refine sistore X25 hx (hb hby at_66) rfl rfl (l' := #[.val (.int i0), .val (.int (0 : Int32)), .val (.ref a1), .val (.ref sEQ), .val (.int (1 : Int32)), .unset]) (pc' := 68) ?_
    refine saloadN X25 hx (hb hby at_68) rfl rfl rfl (pc' := 69) ?_
    have hz26 : n0 ≤ h21.size := by omega
    obtain ⟨cq26, kq26, q26a, q26b, q26c⟩ := isOf hZ eh25 (EsEQ.ext f23.2)
    obtain ⟨_, _, ⟨T26, L26, k26, n26⟩, -, X26, ⟨Lc26, hQ26, l26, y26, z26⟩, st26⟩ := X25.virtualBack hx (y := (⟨"com/example/moraine/moraine/model/Expression$Operator", "negation", "()Lcom/example/moraine/moraine/model/Expression$Operator;"⟩ : MethodName)) (z := (⟨"com/example/moraine/moraine/model/Expression$Operator", "negation", "()Lcom/example/moraine/moraine/model/Expression$Operator;"⟩ : MethodName)) hown (mvT hZ (hw _ (List.mem_of_getElem? (i := 22) rfl))) (mvT hZ (hw _ (List.mem_of_getElem? (i := 23) rfl))) (notFace_of_selects (args := #[]) (mvT hZ (hw _ (List.mem_of_getElem? (i := 25) rfl)))) (mvT hZ (hw _ (List.mem_of_getElem? (i := 25) rfl))) (mvT hZ (hw _ (List.mem_of_getElem? (i := 24) rfl))) (by decide) (backOf (W := 0) (rmNeg_EQ l Z a0 hw [] sEQ sIS_NULL sNOT_NULL sIN sNOT_IN sNE sLE sGT sLT sGE h21 n0 hz26 f23 SsEQ EsEQ FsEQ SsIS_NULL EsIS_NULL FsIS_NULL SsNOT_NULL EsNOT_NULL FsNOT_NULL SsIN EsIN FsIN SsNOT_IN EsNOT_IN FsNOT_IN SsNE EsNE FsNE SsLE EsLE FsLE SsGT EsGT FsGT SsLT EsLT FsLT SsGE EsGE FsGE) hZ (hw _ (List.mem_of_getElem? (i := 26) rfl)) (hw _ (List.mem_of_getElem? (i := 7) rfl)) (by decide) (by decide)) q26a q26c (g := (mkF m 69 #[.val (.int i0), .val (.int (0 : Int32)), .val (.ref a1), .val (.ref sEQ), .val (.int (1 : Int32)), .unset] [(.ref sEQ)])) rfl (by rw [hml]; rfl) (Steps.refl _) (argsL := []) (rest := []) (lenOf pd_2 rfl) rfl (by show 2 * 0 + _ ≤ _; exact Nat.le_of_eq rfl) (hb hby at_69) (fun _ _ => ⟨rfl, eh25, (by decide : 1 + 0 ≤ _), (by decide : 10 + 0 ≤ _)⟩)
    dsimp only [Pt.U, Pt.locs, Pt.cells, Pt.slots] at X26 l26 y26 z26 st26 hQ26
    subst l26 y26 z26
    obtain ⟨rfl, N26q, eh26⟩ := hQ26
    have N26 := Fr.app N25 N26q
    refine oSt st26 ?_
    show oGl p e below (T26.setTop (mkF m 72 #[.val (.int i0), .val (.int (0 : Int32)), .val (.ref a1), .val (.ref sEQ), .val (.int (1 : Int32)), .unset] [(.ref sNE)])) _
    have hz27 : n0 ≤ h21.size := by omega
    obtain ⟨cq27, kq27, q27a, q27b, q27c⟩ := isOf hZ eh26 (EsNE.ext f23.2)
    obtain ⟨_, _, ⟨T27, L27, k27, n27⟩, -, X27, ⟨Lc27, hQ27, l27, y27, z27⟩, st27⟩ := X26.virtualBack hx (y := (⟨"com/example/moraine/moraine/model/Expression$Operator", "literals", "()I"⟩ : MethodName)) (z := (⟨"com/example/moraine/moraine/model/Expression$Operator", "literals", "()I"⟩ : MethodName)) hown (mvT hZ (hw _ (List.mem_of_getElem? (i := 9) rfl))) (mvT hZ (hw _ (List.mem_of_getElem? (i := 10) rfl))) (notFace_of_selects (args := #[]) (mvT hZ (hw _ (List.mem_of_getElem? (i := 12) rfl)))) (mvT hZ (hw _ (List.mem_of_getElem? (i := 12) rfl))) (mvT hZ (hw _ (List.mem_of_getElem? (i := 11) rfl))) (by decide) (backOf (W := 0) (rmLit_NE l Z a0 hw [] sEQ sIS_NULL sNOT_NULL sIN sNOT_IN sNE sLE sGT sLT sGE h21 n0 hz27 f23 SsEQ EsEQ FsEQ SsIS_NULL EsIS_NULL FsIS_NULL SsNOT_NULL EsNOT_NULL FsNOT_NULL SsIN EsIN FsIN SsNOT_IN EsNOT_IN FsNOT_IN SsNE EsNE FsNE SsLE EsLE FsLE SsGT EsGT FsGT SsLT EsLT FsLT SsGE EsGE FsGE) hZ (hw _ (List.mem_of_getElem? (i := 13) rfl)) (hw _ (List.mem_of_getElem? (i := 7) rfl)) (by decide) (by decide)) q27a q27c (g := (mkF m 72 #[.val (.int i0), .val (.int (0 : Int32)), .val (.ref a1), .val (.ref sEQ), .val (.int (1 : Int32)), .unset] [(.ref sNE)])) rfl (by rw [hml]; rfl) (Steps.refl _) (argsL := []) (rest := []) (lenOf pd_0 rfl) rfl (by show 2 * 0 + _ ≤ _; exact Nat.le_of_eq rfl) (hb hby at_72) (fun _ _ => ⟨rfl, eh26, (by decide : 1 + 0 ≤ _), (by decide : 10 + 0 ≤ _)⟩)
    dsimp only [Pt.U, Pt.locs, Pt.cells, Pt.slots] at X27 l27 y27 z27 st27 hQ27
    subst l27 y27 z27
    obtain ⟨rfl, N27q, eh27⟩ := hQ27
    have N27 := Fr.app N26 N27q
    refine oSt st27 ?_
    show oGl p e below (T27.setTop (mkF m 75 #[.val (.int i0), .val (.int (0 : Int32)), .val (.ref a1), .val (.ref sEQ), .val (.int (1 : Int32)), .unset] [(.int (1 : Int32))])) _
    refine sistore X27 hx (hb hby at_75) rfl rfl (l' := #[.val (.int i0), .val (.int (0 : Int32)), .val (.ref a1), .val (.ref sEQ), .val (.int (1 : Int32)), .val (.int (1 : Int32))]) (pc' := 77) ?_
    refine siload X27 hx (hb hby at_77) rfl rfl (pc' := 79) ?_
    refine saloadN X27 hx (hb hby at_79) rfl rfl rfl (pc' := 80) ?_
    refine siloadN X27 hx (hb hby at_80) rfl rfl (pc' := 81) ?_
    refine oOn (V21.ldI X27 hx hZ eh27 (j := (0 : Int32)) (by decide) (g := (mkF m 81 #[.val (.int i0), .val (.int (0 : Int32)), .val (.ref a1), .val (.ref sEQ), .val (.int (1 : Int32)), .val (.int (1 : Int32))] [(.int (0 : Int32)), (.ref a1), (.int (1 : Int32))])) rfl rfl (hb hby at_81)) ?_
    show oGl p e below (T27.setTop (mkF m 82 #[.val (.int i0), .val (.int (0 : Int32)), .val (.ref a1), .val (.ref sEQ), .val (.int (1 : Int32)), .val (.int (1 : Int32))] [(.int ((oUp (oUp (oUp (oUp (oUp (oUp (oUp (oUp (oUp (oUp (fun _ => 0) 0 (1 : Int32)) 1 (1 : Int32)) 2 (1 : Int32)) 3 (1 : Int32)) 4 (1 : Int32)) 5 (1 : Int32)) 6 (0 : Int32)) 7 (0 : Int32)) 8 (-1 : Int32)) 9 (-1 : Int32)) 0)), (.int (1 : Int32))])) _
    refine sicN X27 hx (hb hby at_82) rfl (teq (rfl : (1 : Int32) = ((oUp (oUp (oUp (oUp (oUp (oUp (oUp (oUp (oUp (oUp (fun _ => 0) 0 (1 : Int32)) 1 (1 : Int32)) 2 (1 : Int32)) 3 (1 : Int32)) 4 (1 : Int32)) 5 (1 : Int32)) 6 (0 : Int32)) 7 (0 : Int32)) 8 (-1 : Int32)) 9 (-1 : Int32)) 0))).2 (pc' := 85) ?_
    refine siload X27 hx (hb hby at_85) rfl rfl (pc' := 87) ?_
    refine siload X27 hx (hb hby at_87) rfl rfl (pc' := 89) ?_
    refine sicN X27 hx (hb hby at_89) rfl (teq (by decide : (1 : Int32) = (1 : Int32))).2 (pc' := 92) ?_
    refine siconst X27 hx (hb hby at_92) rfl rfl (z := 1) (pc' := 93) ?_
    refine sgoto X27 hx (hb hby at_93) (by decide) (by decide)  (pc' := 97) ?_
    refine oRetN (t := .boolean) X27 hx Bd.notSynchronized Bd.returns (by simp) (hb hby at_97) (by decide) (by decide) ?_
    show Q_rmL Z i0 sEQ sIS_NULL sNOT_NULL sIN sNOT_IN sNE sLE sGT sLT sGE h0 n0 _ T27.heap _
    rw [eh27]
    exact ⟨rfl, N27⟩
  · skip
    show oGl p e below (T21.setTop (mkF m 57 #[.val (.int i0), .val (.int (1 : Int32)), .val (.ref a1), .unset, .unset, .unset] [])) _
    refine siloadN X21 hx (hb hby at_57) rfl rfl (pc' := 58) ?_
    have f28 := (((((((((((O0.ext E1).wr W3 (by omega)).wr W5 (by omega)).wr W7 (by omega)).wr W9 (by omega)).wr W11 (by omega)).wr W13 (by omega)).wr W15 (by omega)).wr W17 (by omega)).wr W19 (by omega)).wr W21 (by omega))
    have hz29 : n0 ≤ h21.size := by omega
    obtain ⟨_, _, ⟨T29, L29, k29, n29⟩, -, X29, ⟨Lc29, hQ29, l29, y29, z29⟩, st29⟩ := Jvm.LawKit.callS X21 hx (y := (⟨"com/example/moraine/moraine/model/OperatorLiteralsPinLaw", "pick", "(I)Lcom/example/moraine/moraine/model/Expression$Operator;"⟩ : MethodName)) hown (mvT hZ (hw _ (List.mem_of_getElem? (i := 2) rfl))) (mvT hZ (hw _ (List.mem_of_getElem? (i := 3) rfl))) (mvT hZ (hw _ (List.mem_of_getElem? (i := 4) rfl))) (mvT hZ (hw _ (List.mem_of_getElem? (i := 5) rfl))) (by decide) (backOf (W := 0) (rmP1 l Z a0 hw [] sEQ sIS_NULL sNOT_NULL sIN sNOT_IN sNE sLE sGT sLT sGE h21 n0 hz29 f28 SsEQ EsEQ FsEQ SsIS_NULL EsIS_NULL FsIS_NULL SsNOT_NULL EsNOT_NULL FsNOT_NULL SsIN EsIN FsIN SsNOT_IN EsNOT_IN FsNOT_IN SsNE EsNE FsNE SsLE EsLE FsLE SsGT EsGT FsGT SsLT EsLT FsLT SsGE EsGE FsGE) hZ (hw _ (List.mem_of_getElem? (i := 5) rfl)) (hw _ (List.mem_of_getElem? (i := 4) rfl)) (by decide) (by decide)) (g := (mkF m 58 #[.val (.int i0), .val (.int (1 : Int32)), .val (.ref a1), .unset, .unset, .unset] [(.int (1 : Int32))])) rfl (by rw [hml]; rfl) (argsL := [(.int (1 : Int32))]) (rest := []) (lenOf pd_1 rfl) rfl (by show 2 * 0 + _ ≤ _; exact Nat.le_of_eq rfl) (hb hby at_58) (fun _ _ => ⟨rfl, e21, (by decide : 1 + 0 ≤ _), (by decide : 10 + 0 ≤ _)⟩)
    dsimp only [Pt.U, Pt.locs, Pt.cells, Pt.slots] at X29 l29 y29 z29 st29 hQ29
    subst l29 y29 z29
    obtain ⟨rfl, N29q, eh29⟩ := hQ29
    have N29 := Fr.app N21 N29q
    refine oOn st29 ?_
    show oGl p e below (T29.setTop (mkF m 61 #[.val (.int i0), .val (.int (1 : Int32)), .val (.ref a1), .unset, .unset, .unset] [(.ref sNE)])) _
    refine sastoreN X29 hx (hb hby at_61) rfl rfl rfl (l' := #[.val (.int i0), .val (.int (1 : Int32)), .val (.ref a1), .val (.ref sNE), .unset, .unset]) (pc' := 62) ?_
    refine saloadN X29 hx (hb hby at_62) rfl rfl rfl (pc' := 63) ?_
    have hz30 : n0 ≤ h21.size := by omega
    obtain ⟨cq30, kq30, q30a, q30b, q30c⟩ := isOf hZ eh29 (EsNE.ext f28.2)
    obtain ⟨_, _, ⟨T30, L30, k30, n30⟩, -, X30, ⟨Lc30, hQ30, l30, y30, z30⟩, st30⟩ := X29.virtualBack hx (y := (⟨"com/example/moraine/moraine/model/Expression$Operator", "literals", "()I"⟩ : MethodName)) (z := (⟨"com/example/moraine/moraine/model/Expression$Operator", "literals", "()I"⟩ : MethodName)) hown (mvT hZ (hw _ (List.mem_of_getElem? (i := 9) rfl))) (mvT hZ (hw _ (List.mem_of_getElem? (i := 10) rfl))) (notFace_of_selects (args := #[]) (mvT hZ (hw _ (List.mem_of_getElem? (i := 12) rfl)))) (mvT hZ (hw _ (List.mem_of_getElem? (i := 12) rfl))) (mvT hZ (hw _ (List.mem_of_getElem? (i := 11) rfl))) (by decide) (backOf (W := 0) (rmLit_NE l Z a0 hw [] sEQ sIS_NULL sNOT_NULL sIN sNOT_IN sNE sLE sGT sLT sGE h21 n0 hz30 f28 SsEQ EsEQ FsEQ SsIS_NULL EsIS_NULL FsIS_NULL SsNOT_NULL EsNOT_NULL FsNOT_NULL SsIN EsIN FsIN SsNOT_IN EsNOT_IN FsNOT_IN SsNE EsNE FsNE SsLE EsLE FsLE SsGT EsGT FsGT SsLT EsLT FsLT SsGE EsGE FsGE) hZ (hw _ (List.mem_of_getElem? (i := 13) rfl)) (hw _ (List.mem_of_getElem? (i := 7) rfl)) (by decide) (by decide)) q30a q30c (g := (mkF m 63 #[.val (.int i0), .val (.int (1 : Int32)), .val (.ref a1), .val (.ref sNE), .unset, .unset] [(.ref sNE)])) rfl (by rw [hml]; rfl) (Steps.refl _) (argsL := []) (rest := []) (lenOf pd_0 rfl) rfl (by show 2 * 0 + _ ≤ _; exact Nat.le_of_eq rfl) (hb hby at_63) (fun _ _ => ⟨rfl, eh29, (by decide : 1 + 0 ≤ _), (by decide : 10 + 0 ≤ _)⟩)
    dsimp only [Pt.U, Pt.locs, Pt.cells, Pt.slots] at X30 l30 y30 z30 st30 hQ30
    subst l30 y30 z30
    obtain ⟨rfl, N30q, eh30⟩ := hQ30
    have N30 := Fr.app N29 N30q
    refine oSt st30 ?_
    show oGl p e below (T30.setTop (mkF m 66 #[.val (.int i0), .val (.int (1 : Int32)), .val (.ref a1), .val (.ref sNE), .unset, .unset] [(.int (1 : Int32))])) _
    refine sistore X30 hx (hb hby at_66) rfl rfl (l' := #[.val (.int i0), .val (.int (1 : Int32)), .val (.ref a1), .val (.ref sNE), .val (.int (1 : Int32)), .unset]) (pc' := 68) ?_
    refine saloadN X30 hx (hb hby at_68) rfl rfl rfl (pc' := 69) ?_
    have hz31 : n0 ≤ h21.size := by omega
    obtain ⟨cq31, kq31, q31a, q31b, q31c⟩ := isOf hZ eh30 (EsNE.ext f28.2)
    obtain ⟨_, _, ⟨T31, L31, k31, n31⟩, -, X31, ⟨Lc31, hQ31, l31, y31, z31⟩, st31⟩ := X30.virtualBack hx (y := (⟨"com/example/moraine/moraine/model/Expression$Operator", "negation", "()Lcom/example/moraine/moraine/model/Expression$Operator;"⟩ : MethodName)) (z := (⟨"com/example/moraine/moraine/model/Expression$Operator", "negation", "()Lcom/example/moraine/moraine/model/Expression$Operator;"⟩ : MethodName)) hown (mvT hZ (hw _ (List.mem_of_getElem? (i := 22) rfl))) (mvT hZ (hw _ (List.mem_of_getElem? (i := 23) rfl))) (notFace_of_selects (args := #[]) (mvT hZ (hw _ (List.mem_of_getElem? (i := 25) rfl)))) (mvT hZ (hw _ (List.mem_of_getElem? (i := 25) rfl))) (mvT hZ (hw _ (List.mem_of_getElem? (i := 24) rfl))) (by decide) (backOf (W := 0) (rmNeg_NE l Z a0 hw [] sEQ sIS_NULL sNOT_NULL sIN sNOT_IN sNE sLE sGT sLT sGE h21 n0 hz31 f28 SsEQ EsEQ FsEQ SsIS_NULL EsIS_NULL FsIS_NULL SsNOT_NULL EsNOT_NULL FsNOT_NULL SsIN EsIN FsIN SsNOT_IN EsNOT_IN FsNOT_IN SsNE EsNE FsNE SsLE EsLE FsLE SsGT EsGT FsGT SsLT EsLT FsLT SsGE EsGE FsGE) hZ (hw _ (List.mem_of_getElem? (i := 26) rfl)) (hw _ (List.mem_of_getElem? (i := 7) rfl)) (by decide) (by decide)) q31a q31c (g := (mkF m 69 #[.val (.int i0), .val (.int (1 : Int32)), .val (.ref a1), .val (.ref sNE), .val (.int (1 : Int32)), .unset] [(.ref sNE)])) rfl (by rw [hml]; rfl) (Steps.refl _) (argsL := []) (rest := []) (lenOf pd_2 rfl) rfl (by show 2 * 0 + _ ≤ _; exact Nat.le_of_eq rfl) (hb hby at_69) (fun _ _ => ⟨rfl, eh30, (by decide : 1 + 0 ≤ _), (by decide : 10 + 0 ≤ _)⟩)
    dsimp only [Pt.U, Pt.locs, Pt.cells, Pt.slots] at X31 l31 y31 z31 st31 hQ31
    subst l31 y31 z31
    obtain ⟨rfl, N31q, eh31⟩ := hQ31
    have N31 := Fr.app N30 N31q
    refine oSt st31 ?_
    show oGl p e below (T31.setTop (mkF m 72 #[.val (.int i0), .val (.int (1 : Int32)), .val (.ref a1), .val (.ref sNE), .val (.int (1 : Int32)), .unset] [(.ref sEQ)])) _
    have hz32 : n0 ≤ h21.size := by omega
    obtain ⟨cq32, kq32, q32a, q32b, q32c⟩ := isOf hZ eh31 (EsEQ.ext f28.2)
    obtain ⟨_, _, ⟨T32, L32, k32, n32⟩, -, X32, ⟨Lc32, hQ32, l32, y32, z32⟩, st32⟩ := X31.virtualBack hx (y := (⟨"com/example/moraine/moraine/model/Expression$Operator", "literals", "()I"⟩ : MethodName)) (z := (⟨"com/example/moraine/moraine/model/Expression$Operator", "literals", "()I"⟩ : MethodName)) hown (mvT hZ (hw _ (List.mem_of_getElem? (i := 9) rfl))) (mvT hZ (hw _ (List.mem_of_getElem? (i := 10) rfl))) (notFace_of_selects (args := #[]) (mvT hZ (hw _ (List.mem_of_getElem? (i := 12) rfl)))) (mvT hZ (hw _ (List.mem_of_getElem? (i := 12) rfl))) (mvT hZ (hw _ (List.mem_of_getElem? (i := 11) rfl))) (by decide) (backOf (W := 0) (rmLit_EQ l Z a0 hw [] sEQ sIS_NULL sNOT_NULL sIN sNOT_IN sNE sLE sGT sLT sGE h21 n0 hz32 f28 SsEQ EsEQ FsEQ SsIS_NULL EsIS_NULL FsIS_NULL SsNOT_NULL EsNOT_NULL FsNOT_NULL SsIN EsIN FsIN SsNOT_IN EsNOT_IN FsNOT_IN SsNE EsNE FsNE SsLE EsLE FsLE SsGT EsGT FsGT SsLT EsLT FsLT SsGE EsGE FsGE) hZ (hw _ (List.mem_of_getElem? (i := 13) rfl)) (hw _ (List.mem_of_getElem? (i := 7) rfl)) (by decide) (by decide)) q32a q32c (g := (mkF m 72 #[.val (.int i0), .val (.int (1 : Int32)), .val (.ref a1), .val (.ref sNE), .val (.int (1 : Int32)), .unset] [(.ref sEQ)])) rfl (by rw [hml]; rfl) (Steps.refl _) (argsL := []) (rest := []) (lenOf pd_0 rfl) rfl (by show 2 * 0 + _ ≤ _; exact Nat.le_of_eq rfl) (hb hby at_72) (fun _ _ => ⟨rfl, eh31, (by decide : 1 + 0 ≤ _), (by decide : 10 + 0 ≤ _)⟩)
    dsimp only [Pt.U, Pt.locs, Pt.cells, Pt.slots] at X32 l32 y32 z32 st32 hQ32
    subst l32 y32 z32
    obtain ⟨rfl, N32q, eh32⟩ := hQ32
    have N32 := Fr.app N31 N32q
    refine oSt st32 ?_
    show oGl p e below (T32.setTop (mkF m 75 #[.val (.int i0), .val (.int (1 : Int32)), .val (.ref a1), .val (.ref sNE), .val (.int (1 : Int32)), .unset] [(.int (1 : Int32))])) _
    refine sistore X32 hx (hb hby at_75) rfl rfl (l' := #[.val (.int i0), .val (.int (1 : Int32)), .val (.ref a1), .val (.ref sNE), .val (.int (1 : Int32)), .val (.int (1 : Int32))]) (pc' := 77) ?_
    refine siload X32 hx (hb hby at_77) rfl rfl (pc' := 79) ?_
    refine saloadN X32 hx (hb hby at_79) rfl rfl rfl (pc' := 80) ?_
    refine siloadN X32 hx (hb hby at_80) rfl rfl (pc' := 81) ?_
    refine oOn (V21.ldI X32 hx hZ eh32 (j := (1 : Int32)) (by decide) (g := (mkF m 81 #[.val (.int i0), .val (.int (1 : Int32)), .val (.ref a1), .val (.ref sNE), .val (.int (1 : Int32)), .val (.int (1 : Int32))] [(.int (1 : Int32)), (.ref a1), (.int (1 : Int32))])) rfl rfl (hb hby at_81)) ?_
    show oGl p e below (T32.setTop (mkF m 82 #[.val (.int i0), .val (.int (1 : Int32)), .val (.ref a1), .val (.ref sNE), .val (.int (1 : Int32)), .val (.int (1 : Int32))] [(.int ((oUp (oUp (oUp (oUp (oUp (oUp (oUp (oUp (oUp (oUp (fun _ => 0) 0 (1 : Int32)) 1 (1 : Int32)) 2 (1 : Int32)) 3 (1 : Int32)) 4 (1 : Int32)) 5 (1 : Int32)) 6 (0 : Int32)) 7 (0 : Int32)) 8 (-1 : Int32)) 9 (-1 : Int32)) 1)), (.int (1 : Int32))])) _
    refine sicN X32 hx (hb hby at_82) rfl (teq (rfl : (1 : Int32) = ((oUp (oUp (oUp (oUp (oUp (oUp (oUp (oUp (oUp (oUp (fun _ => 0) 0 (1 : Int32)) 1 (1 : Int32)) 2 (1 : Int32)) 3 (1 : Int32)) 4 (1 : Int32)) 5 (1 : Int32)) 6 (0 : Int32)) 7 (0 : Int32)) 8 (-1 : Int32)) 9 (-1 : Int32)) 1))).2 (pc' := 85) ?_
    refine siload X32 hx (hb hby at_85) rfl rfl (pc' := 87) ?_
    refine siload X32 hx (hb hby at_87) rfl rfl (pc' := 89) ?_
    refine sicN X32 hx (hb hby at_89) rfl (teq (by decide : (1 : Int32) = (1 : Int32))).2 (pc' := 92) ?_
    refine siconst X32 hx (hb hby at_92) rfl rfl (z := 1) (pc' := 93) ?_
    refine sgoto X32 hx (hb hby at_93) (by decide) (by decide)  (pc' := 97) ?_
    refine oRetN (t := .boolean) X32 hx Bd.notSynchronized Bd.returns (by simp) (hb hby at_97) (by decide) (by decide) ?_
    show Q_rmL Z i0 sEQ sIS_NULL sNOT_NULL sIN sNOT_IN sNE sLE sGT sLT sGE h0 n0 _ T32.heap _
    rw [eh32]
    exact ⟨rfl, N32⟩
  · skip
    show oGl p e below (T21.setTop (mkF m 57 #[.val (.int i0), .val (.int (2 : Int32)), .val (.ref a1), .unset, .unset, .unset] [])) _
    refine siloadN X21 hx (hb hby at_57) rfl rfl (pc' := 58) ?_
    have f33 := (((((((((((O0.ext E1).wr W3 (by omega)).wr W5 (by omega)).wr W7 (by omega)).wr W9 (by omega)).wr W11 (by omega)).wr W13 (by omega)).wr W15 (by omega)).wr W17 (by omega)).wr W19 (by omega)).wr W21 (by omega))
    have hz34 : n0 ≤ h21.size := by omega
    obtain ⟨_, _, ⟨T34, L34, k34, n34⟩, -, X34, ⟨Lc34, hQ34, l34, y34, z34⟩, st34⟩ := Jvm.LawKit.callS X21 hx (y := (⟨"com/example/moraine/moraine/model/OperatorLiteralsPinLaw", "pick", "(I)Lcom/example/moraine/moraine/model/Expression$Operator;"⟩ : MethodName)) hown (mvT hZ (hw _ (List.mem_of_getElem? (i := 2) rfl))) (mvT hZ (hw _ (List.mem_of_getElem? (i := 3) rfl))) (mvT hZ (hw _ (List.mem_of_getElem? (i := 4) rfl))) (mvT hZ (hw _ (List.mem_of_getElem? (i := 5) rfl))) (by decide) (backOf (W := 0) (rmP2 l Z a0 hw [] sEQ sIS_NULL sNOT_NULL sIN sNOT_IN sNE sLE sGT sLT sGE h21 n0 hz34 f33 SsEQ EsEQ FsEQ SsIS_NULL EsIS_NULL FsIS_NULL SsNOT_NULL EsNOT_NULL FsNOT_NULL SsIN EsIN FsIN SsNOT_IN EsNOT_IN FsNOT_IN SsNE EsNE FsNE SsLE EsLE FsLE SsGT EsGT FsGT SsLT EsLT FsLT SsGE EsGE FsGE) hZ (hw _ (List.mem_of_getElem? (i := 5) rfl)) (hw _ (List.mem_of_getElem? (i := 4) rfl)) (by decide) (by decide)) (g := (mkF m 58 #[.val (.int i0), .val (.int (2 : Int32)), .val (.ref a1), .unset, .unset, .unset] [(.int (2 : Int32))])) rfl (by rw [hml]; rfl) (argsL := [(.int (2 : Int32))]) (rest := []) (lenOf pd_1 rfl) rfl (by show 2 * 0 + _ ≤ _; exact Nat.le_of_eq rfl) (hb hby at_58) (fun _ _ => ⟨rfl, e21, (by decide : 1 + 0 ≤ _), (by decide : 10 + 0 ≤ _)⟩)
    dsimp only [Pt.U, Pt.locs, Pt.cells, Pt.slots] at X34 l34 y34 z34 st34 hQ34
    subst l34 y34 z34
    obtain ⟨rfl, N34q, eh34⟩ := hQ34
    have N34 := Fr.app N21 N34q
    refine oOn st34 ?_
    show oGl p e below (T34.setTop (mkF m 61 #[.val (.int i0), .val (.int (2 : Int32)), .val (.ref a1), .unset, .unset, .unset] [(.ref sLT)])) _
    refine sastoreN X34 hx (hb hby at_61) rfl rfl rfl (l' := #[.val (.int i0), .val (.int (2 : Int32)), .val (.ref a1), .val (.ref sLT), .unset, .unset]) (pc' := 62) ?_
    refine saloadN X34 hx (hb hby at_62) rfl rfl rfl (pc' := 63) ?_
    have hz35 : n0 ≤ h21.size := by omega
    obtain ⟨cq35, kq35, q35a, q35b, q35c⟩ := isOf hZ eh34 (EsLT.ext f33.2)
    obtain ⟨_, _, ⟨T35, L35, k35, n35⟩, -, X35, ⟨Lc35, hQ35, l35, y35, z35⟩, st35⟩ := X34.virtualBack hx (y := (⟨"com/example/moraine/moraine/model/Expression$Operator", "literals", "()I"⟩ : MethodName)) (z := (⟨"com/example/moraine/moraine/model/Expression$Operator", "literals", "()I"⟩ : MethodName)) hown (mvT hZ (hw _ (List.mem_of_getElem? (i := 9) rfl))) (mvT hZ (hw _ (List.mem_of_getElem? (i := 10) rfl))) (notFace_of_selects (args := #[]) (mvT hZ (hw _ (List.mem_of_getElem? (i := 12) rfl)))) (mvT hZ (hw _ (List.mem_of_getElem? (i := 12) rfl))) (mvT hZ (hw _ (List.mem_of_getElem? (i := 11) rfl))) (by decide) (backOf (W := 0) (rmLit_LT l Z a0 hw [] sEQ sIS_NULL sNOT_NULL sIN sNOT_IN sNE sLE sGT sLT sGE h21 n0 hz35 f33 SsEQ EsEQ FsEQ SsIS_NULL EsIS_NULL FsIS_NULL SsNOT_NULL EsNOT_NULL FsNOT_NULL SsIN EsIN FsIN SsNOT_IN EsNOT_IN FsNOT_IN SsNE EsNE FsNE SsLE EsLE FsLE SsGT EsGT FsGT SsLT EsLT FsLT SsGE EsGE FsGE) hZ (hw _ (List.mem_of_getElem? (i := 13) rfl)) (hw _ (List.mem_of_getElem? (i := 7) rfl)) (by decide) (by decide)) q35a q35c (g := (mkF m 63 #[.val (.int i0), .val (.int (2 : Int32)), .val (.ref a1), .val (.ref sLT), .unset, .unset] [(.ref sLT)])) rfl (by rw [hml]; rfl) (Steps.refl _) (argsL := []) (rest := []) (lenOf pd_0 rfl) rfl (by show 2 * 0 + _ ≤ _; exact Nat.le_of_eq rfl) (hb hby at_63) (fun _ _ => ⟨rfl, eh34, (by decide : 1 + 0 ≤ _), (by decide : 10 + 0 ≤ _)⟩)
    dsimp only [Pt.U, Pt.locs, Pt.cells, Pt.slots] at X35 l35 y35 z35 st35 hQ35
    subst l35 y35 z35
    obtain ⟨rfl, N35q, eh35⟩ := hQ35
    have N35 := Fr.app N34 N35q
    refine oSt st35 ?_
    show oGl p e below (T35.setTop (mkF m 66 #[.val (.int i0), .val (.int (2 : Int32)), .val (.ref a1), .val (.ref sLT), .unset, .unset] [(.int (1 : Int32))])) _
    refine sistore X35 hx (hb hby at_66) rfl rfl (l' := #[.val (.int i0), .val (.int (2 : Int32)), .val (.ref a1), .val (.ref sLT), .val (.int (1 : Int32)), .unset]) (pc' := 68) ?_
    refine saloadN X35 hx (hb hby at_68) rfl rfl rfl (pc' := 69) ?_
    have hz36 : n0 ≤ h21.size := by omega
    obtain ⟨cq36, kq36, q36a, q36b, q36c⟩ := isOf hZ eh35 (EsLT.ext f33.2)
    obtain ⟨_, _, ⟨T36, L36, k36, n36⟩, -, X36, ⟨Lc36, hQ36, l36, y36, z36⟩, st36⟩ := X35.virtualBack hx (y := (⟨"com/example/moraine/moraine/model/Expression$Operator", "negation", "()Lcom/example/moraine/moraine/model/Expression$Operator;"⟩ : MethodName)) (z := (⟨"com/example/moraine/moraine/model/Expression$Operator", "negation", "()Lcom/example/moraine/moraine/model/Expression$Operator;"⟩ : MethodName)) hown (mvT hZ (hw _ (List.mem_of_getElem? (i := 22) rfl))) (mvT hZ (hw _ (List.mem_of_getElem? (i := 23) rfl))) (notFace_of_selects (args := #[]) (mvT hZ (hw _ (List.mem_of_getElem? (i := 25) rfl)))) (mvT hZ (hw _ (List.mem_of_getElem? (i := 25) rfl))) (mvT hZ (hw _ (List.mem_of_getElem? (i := 24) rfl))) (by decide) (backOf (W := 0) (rmNeg_LT l Z a0 hw [] sEQ sIS_NULL sNOT_NULL sIN sNOT_IN sNE sLE sGT sLT sGE h21 n0 hz36 f33 SsEQ EsEQ FsEQ SsIS_NULL EsIS_NULL FsIS_NULL SsNOT_NULL EsNOT_NULL FsNOT_NULL SsIN EsIN FsIN SsNOT_IN EsNOT_IN FsNOT_IN SsNE EsNE FsNE SsLE EsLE FsLE SsGT EsGT FsGT SsLT EsLT FsLT SsGE EsGE FsGE) hZ (hw _ (List.mem_of_getElem? (i := 26) rfl)) (hw _ (List.mem_of_getElem? (i := 7) rfl)) (by decide) (by decide)) q36a q36c (g := (mkF m 69 #[.val (.int i0), .val (.int (2 : Int32)), .val (.ref a1), .val (.ref sLT), .val (.int (1 : Int32)), .unset] [(.ref sLT)])) rfl (by rw [hml]; rfl) (Steps.refl _) (argsL := []) (rest := []) (lenOf pd_2 rfl) rfl (by show 2 * 0 + _ ≤ _; exact Nat.le_of_eq rfl) (hb hby at_69) (fun _ _ => ⟨rfl, eh35, (by decide : 1 + 0 ≤ _), (by decide : 10 + 0 ≤ _)⟩)
    dsimp only [Pt.U, Pt.locs, Pt.cells, Pt.slots] at X36 l36 y36 z36 st36 hQ36
    subst l36 y36 z36
    obtain ⟨rfl, N36q, eh36⟩ := hQ36
    have N36 := Fr.app N35 N36q
    refine oSt st36 ?_
    show oGl p e below (T36.setTop (mkF m 72 #[.val (.int i0), .val (.int (2 : Int32)), .val (.ref a1), .val (.ref sLT), .val (.int (1 : Int32)), .unset] [(.ref sGE)])) _
    have hz37 : n0 ≤ h21.size := by omega
    obtain ⟨cq37, kq37, q37a, q37b, q37c⟩ := isOf hZ eh36 (EsGE.ext f33.2)
    obtain ⟨_, _, ⟨T37, L37, k37, n37⟩, -, X37, ⟨Lc37, hQ37, l37, y37, z37⟩, st37⟩ := X36.virtualBack hx (y := (⟨"com/example/moraine/moraine/model/Expression$Operator", "literals", "()I"⟩ : MethodName)) (z := (⟨"com/example/moraine/moraine/model/Expression$Operator", "literals", "()I"⟩ : MethodName)) hown (mvT hZ (hw _ (List.mem_of_getElem? (i := 9) rfl))) (mvT hZ (hw _ (List.mem_of_getElem? (i := 10) rfl))) (notFace_of_selects (args := #[]) (mvT hZ (hw _ (List.mem_of_getElem? (i := 12) rfl)))) (mvT hZ (hw _ (List.mem_of_getElem? (i := 12) rfl))) (mvT hZ (hw _ (List.mem_of_getElem? (i := 11) rfl))) (by decide) (backOf (W := 0) (rmLit_GE l Z a0 hw [] sEQ sIS_NULL sNOT_NULL sIN sNOT_IN sNE sLE sGT sLT sGE h21 n0 hz37 f33 SsEQ EsEQ FsEQ SsIS_NULL EsIS_NULL FsIS_NULL SsNOT_NULL EsNOT_NULL FsNOT_NULL SsIN EsIN FsIN SsNOT_IN EsNOT_IN FsNOT_IN SsNE EsNE FsNE SsLE EsLE FsLE SsGT EsGT FsGT SsLT EsLT FsLT SsGE EsGE FsGE) hZ (hw _ (List.mem_of_getElem? (i := 13) rfl)) (hw _ (List.mem_of_getElem? (i := 7) rfl)) (by decide) (by decide)) q37a q37c (g := (mkF m 72 #[.val (.int i0), .val (.int (2 : Int32)), .val (.ref a1), .val (.ref sLT), .val (.int (1 : Int32)), .unset] [(.ref sGE)])) rfl (by rw [hml]; rfl) (Steps.refl _) (argsL := []) (rest := []) (lenOf pd_0 rfl) rfl (by show 2 * 0 + _ ≤ _; exact Nat.le_of_eq rfl) (hb hby at_72) (fun _ _ => ⟨rfl, eh36, (by decide : 1 + 0 ≤ _), (by decide : 10 + 0 ≤ _)⟩)
    dsimp only [Pt.U, Pt.locs, Pt.cells, Pt.slots] at X37 l37 y37 z37 st37 hQ37
    subst l37 y37 z37
    obtain ⟨rfl, N37q, eh37⟩ := hQ37
    have N37 := Fr.app N36 N37q
    refine oSt st37 ?_
    show oGl p e below (T37.setTop (mkF m 75 #[.val (.int i0), .val (.int (2 : Int32)), .val (.ref a1), .val (.ref sLT), .val (.int (1 : Int32)), .unset] [(.int (1 : Int32))])) _
    refine sistore X37 hx (hb hby at_75) rfl rfl (l' := #[.val (.int i0), .val (.int (2 : Int32)), .val (.ref a1), .val (.ref sLT), .val (.int (1 : Int32)), .val (.int (1 : Int32))]) (pc' := 77) ?_
    refine siload X37 hx (hb hby at_77) rfl rfl (pc' := 79) ?_
    refine saloadN X37 hx (hb hby at_79) rfl rfl rfl (pc' := 80) ?_
    refine siloadN X37 hx (hb hby at_80) rfl rfl (pc' := 81) ?_
    refine oOn (V21.ldI X37 hx hZ eh37 (j := (2 : Int32)) (by decide) (g := (mkF m 81 #[.val (.int i0), .val (.int (2 : Int32)), .val (.ref a1), .val (.ref sLT), .val (.int (1 : Int32)), .val (.int (1 : Int32))] [(.int (2 : Int32)), (.ref a1), (.int (1 : Int32))])) rfl rfl (hb hby at_81)) ?_
    show oGl p e below (T37.setTop (mkF m 82 #[.val (.int i0), .val (.int (2 : Int32)), .val (.ref a1), .val (.ref sLT), .val (.int (1 : Int32)), .val (.int (1 : Int32))] [(.int ((oUp (oUp (oUp (oUp (oUp (oUp (oUp (oUp (oUp (oUp (fun _ => 0) 0 (1 : Int32)) 1 (1 : Int32)) 2 (1 : Int32)) 3 (1 : Int32)) 4 (1 : Int32)) 5 (1 : Int32)) 6 (0 : Int32)) 7 (0 : Int32)) 8 (-1 : Int32)) 9 (-1 : Int32)) 2)), (.int (1 : Int32))])) _
    refine sicN X37 hx (hb hby at_82) rfl (teq (rfl : (1 : Int32) = ((oUp (oUp (oUp (oUp (oUp (oUp (oUp (oUp (oUp (oUp (fun _ => 0) 0 (1 : Int32)) 1 (1 : Int32)) 2 (1 : Int32)) 3 (1 : Int32)) 4 (1 : Int32)) 5 (1 : Int32)) 6 (0 : Int32)) 7 (0 : Int32)) 8 (-1 : Int32)) 9 (-1 : Int32)) 2))).2 (pc' := 85) ?_
    refine siload X37 hx (hb hby at_85) rfl rfl (pc' := 87) ?_
    refine siload X37 hx (hb hby at_87) rfl rfl (pc' := 89) ?_
    refine sicN X37 hx (hb hby at_89) rfl (teq (by decide : (1 : Int32) = (1 : Int32))).2 (pc' := 92) ?_
    refine siconst X37 hx (hb hby at_92) rfl rfl (z := 1) (pc' := 93) ?_
    refine sgoto X37 hx (hb hby at_93) (by decide) (by decide)  (pc' := 97) ?_
    refine oRetN (t := .boolean) X37 hx Bd.notSynchronized Bd.returns (by simp) (hb hby at_97) (by decide) (by decide) ?_
    show Q_rmL Z i0 sEQ sIS_NULL sNOT_NULL sIN sNOT_IN sNE sLE sGT sLT sGE h0 n0 _ T37.heap _
    rw [eh37]
    exact ⟨rfl, N37⟩
  · skip
    show oGl p e below (T21.setTop (mkF m 57 #[.val (.int i0), .val (.int (3 : Int32)), .val (.ref a1), .unset, .unset, .unset] [])) _
    refine siloadN X21 hx (hb hby at_57) rfl rfl (pc' := 58) ?_
    have f38 := (((((((((((O0.ext E1).wr W3 (by omega)).wr W5 (by omega)).wr W7 (by omega)).wr W9 (by omega)).wr W11 (by omega)).wr W13 (by omega)).wr W15 (by omega)).wr W17 (by omega)).wr W19 (by omega)).wr W21 (by omega))
    have hz39 : n0 ≤ h21.size := by omega
    obtain ⟨_, _, ⟨T39, L39, k39, n39⟩, -, X39, ⟨Lc39, hQ39, l39, y39, z39⟩, st39⟩ := Jvm.LawKit.callS X21 hx (y := (⟨"com/example/moraine/moraine/model/OperatorLiteralsPinLaw", "pick", "(I)Lcom/example/moraine/moraine/model/Expression$Operator;"⟩ : MethodName)) hown (mvT hZ (hw _ (List.mem_of_getElem? (i := 2) rfl))) (mvT hZ (hw _ (List.mem_of_getElem? (i := 3) rfl))) (mvT hZ (hw _ (List.mem_of_getElem? (i := 4) rfl))) (mvT hZ (hw _ (List.mem_of_getElem? (i := 5) rfl))) (by decide) (backOf (W := 0) (rmP3 l Z a0 hw [] sEQ sIS_NULL sNOT_NULL sIN sNOT_IN sNE sLE sGT sLT sGE h21 n0 hz39 f38 SsEQ EsEQ FsEQ SsIS_NULL EsIS_NULL FsIS_NULL SsNOT_NULL EsNOT_NULL FsNOT_NULL SsIN EsIN FsIN SsNOT_IN EsNOT_IN FsNOT_IN SsNE EsNE FsNE SsLE EsLE FsLE SsGT EsGT FsGT SsLT EsLT FsLT SsGE EsGE FsGE) hZ (hw _ (List.mem_of_getElem? (i := 5) rfl)) (hw _ (List.mem_of_getElem? (i := 4) rfl)) (by decide) (by decide)) (g := (mkF m 58 #[.val (.int i0), .val (.int (3 : Int32)), .val (.ref a1), .unset, .unset, .unset] [(.int (3 : Int32))])) rfl (by rw [hml]; rfl) (argsL := [(.int (3 : Int32))]) (rest := []) (lenOf pd_1 rfl) rfl (by show 2 * 0 + _ ≤ _; exact Nat.le_of_eq rfl) (hb hby at_58) (fun _ _ => ⟨rfl, e21, (by decide : 1 + 0 ≤ _), (by decide : 10 + 0 ≤ _)⟩)
    dsimp only [Pt.U, Pt.locs, Pt.cells, Pt.slots] at X39 l39 y39 z39 st39 hQ39
    subst l39 y39 z39
    obtain ⟨rfl, N39q, eh39⟩ := hQ39
    have N39 := Fr.app N21 N39q
    refine oOn st39 ?_
    show oGl p e below (T39.setTop (mkF m 61 #[.val (.int i0), .val (.int (3 : Int32)), .val (.ref a1), .unset, .unset, .unset] [(.ref sLE)])) _
    refine sastoreN X39 hx (hb hby at_61) rfl rfl rfl (l' := #[.val (.int i0), .val (.int (3 : Int32)), .val (.ref a1), .val (.ref sLE), .unset, .unset]) (pc' := 62) ?_
    refine saloadN X39 hx (hb hby at_62) rfl rfl rfl (pc' := 63) ?_
    have hz40 : n0 ≤ h21.size := by omega
    obtain ⟨cq40, kq40, q40a, q40b, q40c⟩ := isOf hZ eh39 (EsLE.ext f38.2)
    obtain ⟨_, _, ⟨T40, L40, k40, n40⟩, -, X40, ⟨Lc40, hQ40, l40, y40, z40⟩, st40⟩ := X39.virtualBack hx (y := (⟨"com/example/moraine/moraine/model/Expression$Operator", "literals", "()I"⟩ : MethodName)) (z := (⟨"com/example/moraine/moraine/model/Expression$Operator", "literals", "()I"⟩ : MethodName)) hown (mvT hZ (hw _ (List.mem_of_getElem? (i := 9) rfl))) (mvT hZ (hw _ (List.mem_of_getElem? (i := 10) rfl))) (notFace_of_selects (args := #[]) (mvT hZ (hw _ (List.mem_of_getElem? (i := 12) rfl)))) (mvT hZ (hw _ (List.mem_of_getElem? (i := 12) rfl))) (mvT hZ (hw _ (List.mem_of_getElem? (i := 11) rfl))) (by decide) (backOf (W := 0) (rmLit_LE l Z a0 hw [] sEQ sIS_NULL sNOT_NULL sIN sNOT_IN sNE sLE sGT sLT sGE h21 n0 hz40 f38 SsEQ EsEQ FsEQ SsIS_NULL EsIS_NULL FsIS_NULL SsNOT_NULL EsNOT_NULL FsNOT_NULL SsIN EsIN FsIN SsNOT_IN EsNOT_IN FsNOT_IN SsNE EsNE FsNE SsLE EsLE FsLE SsGT EsGT FsGT SsLT EsLT FsLT SsGE EsGE FsGE) hZ (hw _ (List.mem_of_getElem? (i := 13) rfl)) (hw _ (List.mem_of_getElem? (i := 7) rfl)) (by decide) (by decide)) q40a q40c (g := (mkF m 63 #[.val (.int i0), .val (.int (3 : Int32)), .val (.ref a1), .val (.ref sLE), .unset, .unset] [(.ref sLE)])) rfl (by rw [hml]; rfl) (Steps.refl _) (argsL := []) (rest := []) (lenOf pd_0 rfl) rfl (by show 2 * 0 + _ ≤ _; exact Nat.le_of_eq rfl) (hb hby at_63) (fun _ _ => ⟨rfl, eh39, (by decide : 1 + 0 ≤ _), (by decide : 10 + 0 ≤ _)⟩)
    dsimp only [Pt.U, Pt.locs, Pt.cells, Pt.slots] at X40 l40 y40 z40 st40 hQ40
    subst l40 y40 z40
    obtain ⟨rfl, N40q, eh40⟩ := hQ40
    have N40 := Fr.app N39 N40q
    refine oSt st40 ?_
    show oGl p e below (T40.setTop (mkF m 66 #[.val (.int i0), .val (.int (3 : Int32)), .val (.ref a1), .val (.ref sLE), .unset, .unset] [(.int (1 : Int32))])) _
    refine sistore X40 hx (hb hby at_66) rfl rfl (l' := #[.val (.int i0), .val (.int (3 : Int32)), .val (.ref a1), .val (.ref sLE), .val (.int (1 : Int32)), .unset]) (pc' := 68) ?_
    refine saloadN X40 hx (hb hby at_68) rfl rfl rfl (pc' := 69) ?_
    have hz41 : n0 ≤ h21.size := by omega
    obtain ⟨cq41, kq41, q41a, q41b, q41c⟩ := isOf hZ eh40 (EsLE.ext f38.2)
    obtain ⟨_, _, ⟨T41, L41, k41, n41⟩, -, X41, ⟨Lc41, hQ41, l41, y41, z41⟩, st41⟩ := X40.virtualBack hx (y := (⟨"com/example/moraine/moraine/model/Expression$Operator", "negation", "()Lcom/example/moraine/moraine/model/Expression$Operator;"⟩ : MethodName)) (z := (⟨"com/example/moraine/moraine/model/Expression$Operator", "negation", "()Lcom/example/moraine/moraine/model/Expression$Operator;"⟩ : MethodName)) hown (mvT hZ (hw _ (List.mem_of_getElem? (i := 22) rfl))) (mvT hZ (hw _ (List.mem_of_getElem? (i := 23) rfl))) (notFace_of_selects (args := #[]) (mvT hZ (hw _ (List.mem_of_getElem? (i := 25) rfl)))) (mvT hZ (hw _ (List.mem_of_getElem? (i := 25) rfl))) (mvT hZ (hw _ (List.mem_of_getElem? (i := 24) rfl))) (by decide) (backOf (W := 0) (rmNeg_LE l Z a0 hw [] sEQ sIS_NULL sNOT_NULL sIN sNOT_IN sNE sLE sGT sLT sGE h21 n0 hz41 f38 SsEQ EsEQ FsEQ SsIS_NULL EsIS_NULL FsIS_NULL SsNOT_NULL EsNOT_NULL FsNOT_NULL SsIN EsIN FsIN SsNOT_IN EsNOT_IN FsNOT_IN SsNE EsNE FsNE SsLE EsLE FsLE SsGT EsGT FsGT SsLT EsLT FsLT SsGE EsGE FsGE) hZ (hw _ (List.mem_of_getElem? (i := 26) rfl)) (hw _ (List.mem_of_getElem? (i := 7) rfl)) (by decide) (by decide)) q41a q41c (g := (mkF m 69 #[.val (.int i0), .val (.int (3 : Int32)), .val (.ref a1), .val (.ref sLE), .val (.int (1 : Int32)), .unset] [(.ref sLE)])) rfl (by rw [hml]; rfl) (Steps.refl _) (argsL := []) (rest := []) (lenOf pd_2 rfl) rfl (by show 2 * 0 + _ ≤ _; exact Nat.le_of_eq rfl) (hb hby at_69) (fun _ _ => ⟨rfl, eh40, (by decide : 1 + 0 ≤ _), (by decide : 10 + 0 ≤ _)⟩)
    dsimp only [Pt.U, Pt.locs, Pt.cells, Pt.slots] at X41 l41 y41 z41 st41 hQ41
    subst l41 y41 z41
    obtain ⟨rfl, N41q, eh41⟩ := hQ41
    have N41 := Fr.app N40 N41q
    refine oSt st41 ?_
    show oGl p e below (T41.setTop (mkF m 72 #[.val (.int i0), .val (.int (3 : Int32)), .val (.ref a1), .val (.ref sLE), .val (.int (1 : Int32)), .unset] [(.ref sGT)])) _
    have hz42 : n0 ≤ h21.size := by omega
    obtain ⟨cq42, kq42, q42a, q42b, q42c⟩ := isOf hZ eh41 (EsGT.ext f38.2)
    obtain ⟨_, _, ⟨T42, L42, k42, n42⟩, -, X42, ⟨Lc42, hQ42, l42, y42, z42⟩, st42⟩ := X41.virtualBack hx (y := (⟨"com/example/moraine/moraine/model/Expression$Operator", "literals", "()I"⟩ : MethodName)) (z := (⟨"com/example/moraine/moraine/model/Expression$Operator", "literals", "()I"⟩ : MethodName)) hown (mvT hZ (hw _ (List.mem_of_getElem? (i := 9) rfl))) (mvT hZ (hw _ (List.mem_of_getElem? (i := 10) rfl))) (notFace_of_selects (args := #[]) (mvT hZ (hw _ (List.mem_of_getElem? (i := 12) rfl)))) (mvT hZ (hw _ (List.mem_of_getElem? (i := 12) rfl))) (mvT hZ (hw _ (List.mem_of_getElem? (i := 11) rfl))) (by decide) (backOf (W := 0) (rmLit_GT l Z a0 hw [] sEQ sIS_NULL sNOT_NULL sIN sNOT_IN sNE sLE sGT sLT sGE h21 n0 hz42 f38 SsEQ EsEQ FsEQ SsIS_NULL EsIS_NULL FsIS_NULL SsNOT_NULL EsNOT_NULL FsNOT_NULL SsIN EsIN FsIN SsNOT_IN EsNOT_IN FsNOT_IN SsNE EsNE FsNE SsLE EsLE FsLE SsGT EsGT FsGT SsLT EsLT FsLT SsGE EsGE FsGE) hZ (hw _ (List.mem_of_getElem? (i := 13) rfl)) (hw _ (List.mem_of_getElem? (i := 7) rfl)) (by decide) (by decide)) q42a q42c (g := (mkF m 72 #[.val (.int i0), .val (.int (3 : Int32)), .val (.ref a1), .val (.ref sLE), .val (.int (1 : Int32)), .unset] [(.ref sGT)])) rfl (by rw [hml]; rfl) (Steps.refl _) (argsL := []) (rest := []) (lenOf pd_0 rfl) rfl (by show 2 * 0 + _ ≤ _; exact Nat.le_of_eq rfl) (hb hby at_72) (fun _ _ => ⟨rfl, eh41, (by decide : 1 + 0 ≤ _), (by decide : 10 + 0 ≤ _)⟩)
    dsimp only [Pt.U, Pt.locs, Pt.cells, Pt.slots] at X42 l42 y42 z42 st42 hQ42
    subst l42 y42 z42
    obtain ⟨rfl, N42q, eh42⟩ := hQ42
    have N42 := Fr.app N41 N42q
    refine oSt st42 ?_
    show oGl p e below (T42.setTop (mkF m 75 #[.val (.int i0), .val (.int (3 : Int32)), .val (.ref a1), .val (.ref sLE), .val (.int (1 : Int32)), .unset] [(.int (1 : Int32))])) _
    refine sistore X42 hx (hb hby at_75) rfl rfl (l' := #[.val (.int i0), .val (.int (3 : Int32)), .val (.ref a1), .val (.ref sLE), .val (.int (1 : Int32)), .val (.int (1 : Int32))]) (pc' := 77) ?_
    refine siload X42 hx (hb hby at_77) rfl rfl (pc' := 79) ?_
    refine saloadN X42 hx (hb hby at_79) rfl rfl rfl (pc' := 80) ?_
    refine siloadN X42 hx (hb hby at_80) rfl rfl (pc' := 81) ?_
    refine oOn (V21.ldI X42 hx hZ eh42 (j := (3 : Int32)) (by decide) (g := (mkF m 81 #[.val (.int i0), .val (.int (3 : Int32)), .val (.ref a1), .val (.ref sLE), .val (.int (1 : Int32)), .val (.int (1 : Int32))] [(.int (3 : Int32)), (.ref a1), (.int (1 : Int32))])) rfl rfl (hb hby at_81)) ?_
    show oGl p e below (T42.setTop (mkF m 82 #[.val (.int i0), .val (.int (3 : Int32)), .val (.ref a1), .val (.ref sLE), .val (.int (1 : Int32)), .val (.int (1 : Int32))] [(.int ((oUp (oUp (oUp (oUp (oUp (oUp (oUp (oUp (oUp (oUp (fun _ => 0) 0 (1 : Int32)) 1 (1 : Int32)) 2 (1 : Int32)) 3 (1 : Int32)) 4 (1 : Int32)) 5 (1 : Int32)) 6 (0 : Int32)) 7 (0 : Int32)) 8 (-1 : Int32)) 9 (-1 : Int32)) 3)), (.int (1 : Int32))])) _
    refine sicN X42 hx (hb hby at_82) rfl (teq (rfl : (1 : Int32) = ((oUp (oUp (oUp (oUp (oUp (oUp (oUp (oUp (oUp (oUp (fun _ => 0) 0 (1 : Int32)) 1 (1 : Int32)) 2 (1 : Int32)) 3 (1 : Int32)) 4 (1 : Int32)) 5 (1 : Int32)) 6 (0 : Int32)) 7 (0 : Int32)) 8 (-1 : Int32)) 9 (-1 : Int32)) 3))).2 (pc' := 85) ?_
    refine siload X42 hx (hb hby at_85) rfl rfl (pc' := 87) ?_
    refine siload X42 hx (hb hby at_87) rfl rfl (pc' := 89) ?_
    refine sicN X42 hx (hb hby at_89) rfl (teq (by decide : (1 : Int32) = (1 : Int32))).2 (pc' := 92) ?_
    refine siconst X42 hx (hb hby at_92) rfl rfl (z := 1) (pc' := 93) ?_
    refine sgoto X42 hx (hb hby at_93) (by decide) (by decide)  (pc' := 97) ?_
    refine oRetN (t := .boolean) X42 hx Bd.notSynchronized Bd.returns (by simp) (hb hby at_97) (by decide) (by decide) ?_
    show Q_rmL Z i0 sEQ sIS_NULL sNOT_NULL sIN sNOT_IN sNE sLE sGT sLT sGE h0 n0 _ T42.heap _
    rw [eh42]
    exact ⟨rfl, N42⟩
  · skip
    show oGl p e below (T21.setTop (mkF m 57 #[.val (.int i0), .val (.int (4 : Int32)), .val (.ref a1), .unset, .unset, .unset] [])) _
    refine siloadN X21 hx (hb hby at_57) rfl rfl (pc' := 58) ?_
    have f43 := (((((((((((O0.ext E1).wr W3 (by omega)).wr W5 (by omega)).wr W7 (by omega)).wr W9 (by omega)).wr W11 (by omega)).wr W13 (by omega)).wr W15 (by omega)).wr W17 (by omega)).wr W19 (by omega)).wr W21 (by omega))
    have hz44 : n0 ≤ h21.size := by omega
    obtain ⟨_, _, ⟨T44, L44, k44, n44⟩, -, X44, ⟨Lc44, hQ44, l44, y44, z44⟩, st44⟩ := Jvm.LawKit.callS X21 hx (y := (⟨"com/example/moraine/moraine/model/OperatorLiteralsPinLaw", "pick", "(I)Lcom/example/moraine/moraine/model/Expression$Operator;"⟩ : MethodName)) hown (mvT hZ (hw _ (List.mem_of_getElem? (i := 2) rfl))) (mvT hZ (hw _ (List.mem_of_getElem? (i := 3) rfl))) (mvT hZ (hw _ (List.mem_of_getElem? (i := 4) rfl))) (mvT hZ (hw _ (List.mem_of_getElem? (i := 5) rfl))) (by decide) (backOf (W := 0) (rmP4 l Z a0 hw [] sEQ sIS_NULL sNOT_NULL sIN sNOT_IN sNE sLE sGT sLT sGE h21 n0 hz44 f43 SsEQ EsEQ FsEQ SsIS_NULL EsIS_NULL FsIS_NULL SsNOT_NULL EsNOT_NULL FsNOT_NULL SsIN EsIN FsIN SsNOT_IN EsNOT_IN FsNOT_IN SsNE EsNE FsNE SsLE EsLE FsLE SsGT EsGT FsGT SsLT EsLT FsLT SsGE EsGE FsGE) hZ (hw _ (List.mem_of_getElem? (i := 5) rfl)) (hw _ (List.mem_of_getElem? (i := 4) rfl)) (by decide) (by decide)) (g := (mkF m 58 #[.val (.int i0), .val (.int (4 : Int32)), .val (.ref a1), .unset, .unset, .unset] [(.int (4 : Int32))])) rfl (by rw [hml]; rfl) (argsL := [(.int (4 : Int32))]) (rest := []) (lenOf pd_1 rfl) rfl (by show 2 * 0 + _ ≤ _; exact Nat.le_of_eq rfl) (hb hby at_58) (fun _ _ => ⟨rfl, e21, (by decide : 1 + 0 ≤ _), (by decide : 10 + 0 ≤ _)⟩)
    dsimp only [Pt.U, Pt.locs, Pt.cells, Pt.slots] at X44 l44 y44 z44 st44 hQ44
    subst l44 y44 z44
    obtain ⟨rfl, N44q, eh44⟩ := hQ44
    have N44 := Fr.app N21 N44q
    refine oOn st44 ?_
    show oGl p e below (T44.setTop (mkF m 61 #[.val (.int i0), .val (.int (4 : Int32)), .val (.ref a1), .unset, .unset, .unset] [(.ref sGT)])) _
    refine sastoreN X44 hx (hb hby at_61) rfl rfl rfl (l' := #[.val (.int i0), .val (.int (4 : Int32)), .val (.ref a1), .val (.ref sGT), .unset, .unset]) (pc' := 62) ?_
    refine saloadN X44 hx (hb hby at_62) rfl rfl rfl (pc' := 63) ?_
    have hz45 : n0 ≤ h21.size := by omega
    obtain ⟨cq45, kq45, q45a, q45b, q45c⟩ := isOf hZ eh44 (EsGT.ext f43.2)
    obtain ⟨_, _, ⟨T45, L45, k45, n45⟩, -, X45, ⟨Lc45, hQ45, l45, y45, z45⟩, st45⟩ := X44.virtualBack hx (y := (⟨"com/example/moraine/moraine/model/Expression$Operator", "literals", "()I"⟩ : MethodName)) (z := (⟨"com/example/moraine/moraine/model/Expression$Operator", "literals", "()I"⟩ : MethodName)) hown (mvT hZ (hw _ (List.mem_of_getElem? (i := 9) rfl))) (mvT hZ (hw _ (List.mem_of_getElem? (i := 10) rfl))) (notFace_of_selects (args := #[]) (mvT hZ (hw _ (List.mem_of_getElem? (i := 12) rfl)))) (mvT hZ (hw _ (List.mem_of_getElem? (i := 12) rfl))) (mvT hZ (hw _ (List.mem_of_getElem? (i := 11) rfl))) (by decide) (backOf (W := 0) (rmLit_GT l Z a0 hw [] sEQ sIS_NULL sNOT_NULL sIN sNOT_IN sNE sLE sGT sLT sGE h21 n0 hz45 f43 SsEQ EsEQ FsEQ SsIS_NULL EsIS_NULL FsIS_NULL SsNOT_NULL EsNOT_NULL FsNOT_NULL SsIN EsIN FsIN SsNOT_IN EsNOT_IN FsNOT_IN SsNE EsNE FsNE SsLE EsLE FsLE SsGT EsGT FsGT SsLT EsLT FsLT SsGE EsGE FsGE) hZ (hw _ (List.mem_of_getElem? (i := 13) rfl)) (hw _ (List.mem_of_getElem? (i := 7) rfl)) (by decide) (by decide)) q45a q45c (g := (mkF m 63 #[.val (.int i0), .val (.int (4 : Int32)), .val (.ref a1), .val (.ref sGT), .unset, .unset] [(.ref sGT)])) rfl (by rw [hml]; rfl) (Steps.refl _) (argsL := []) (rest := []) (lenOf pd_0 rfl) rfl (by show 2 * 0 + _ ≤ _; exact Nat.le_of_eq rfl) (hb hby at_63) (fun _ _ => ⟨rfl, eh44, (by decide : 1 + 0 ≤ _), (by decide : 10 + 0 ≤ _)⟩)
    dsimp only [Pt.U, Pt.locs, Pt.cells, Pt.slots] at X45 l45 y45 z45 st45 hQ45
    subst l45 y45 z45
    obtain ⟨rfl, N45q, eh45⟩ := hQ45
    have N45 := Fr.app N44 N45q
    refine oSt st45 ?_
    show oGl p e below (T45.setTop (mkF m 66 #[.val (.int i0), .val (.int (4 : Int32)), .val (.ref a1), .val (.ref sGT), .unset, .unset] [(.int (1 : Int32))])) _
    refine sistore X45 hx (hb hby at_66) rfl rfl (l' := #[.val (.int i0), .val (.int (4 : Int32)), .val (.ref a1), .val (.ref sGT), .val (.int (1 : Int32)), .unset]) (pc' := 68) ?_
    refine saloadN X45 hx (hb hby at_68) rfl rfl rfl (pc' := 69) ?_
    have hz46 : n0 ≤ h21.size := by omega
    obtain ⟨cq46, kq46, q46a, q46b, q46c⟩ := isOf hZ eh45 (EsGT.ext f43.2)
    obtain ⟨_, _, ⟨T46, L46, k46, n46⟩, -, X46, ⟨Lc46, hQ46, l46, y46, z46⟩, st46⟩ := X45.virtualBack hx (y := (⟨"com/example/moraine/moraine/model/Expression$Operator", "negation", "()Lcom/example/moraine/moraine/model/Expression$Operator;"⟩ : MethodName)) (z := (⟨"com/example/moraine/moraine/model/Expression$Operator", "negation", "()Lcom/example/moraine/moraine/model/Expression$Operator;"⟩ : MethodName)) hown (mvT hZ (hw _ (List.mem_of_getElem? (i := 22) rfl))) (mvT hZ (hw _ (List.mem_of_getElem? (i := 23) rfl))) (notFace_of_selects (args := #[]) (mvT hZ (hw _ (List.mem_of_getElem? (i := 25) rfl)))) (mvT hZ (hw _ (List.mem_of_getElem? (i := 25) rfl))) (mvT hZ (hw _ (List.mem_of_getElem? (i := 24) rfl))) (by decide) (backOf (W := 0) (rmNeg_GT l Z a0 hw [] sEQ sIS_NULL sNOT_NULL sIN sNOT_IN sNE sLE sGT sLT sGE h21 n0 hz46 f43 SsEQ EsEQ FsEQ SsIS_NULL EsIS_NULL FsIS_NULL SsNOT_NULL EsNOT_NULL FsNOT_NULL SsIN EsIN FsIN SsNOT_IN EsNOT_IN FsNOT_IN SsNE EsNE FsNE SsLE EsLE FsLE SsGT EsGT FsGT SsLT EsLT FsLT SsGE EsGE FsGE) hZ (hw _ (List.mem_of_getElem? (i := 26) rfl)) (hw _ (List.mem_of_getElem? (i := 7) rfl)) (by decide) (by decide)) q46a q46c (g := (mkF m 69 #[.val (.int i0), .val (.int (4 : Int32)), .val (.ref a1), .val (.ref sGT), .val (.int (1 : Int32)), .unset] [(.ref sGT)])) rfl (by rw [hml]; rfl) (Steps.refl _) (argsL := []) (rest := []) (lenOf pd_2 rfl) rfl (by show 2 * 0 + _ ≤ _; exact Nat.le_of_eq rfl) (hb hby at_69) (fun _ _ => ⟨rfl, eh45, (by decide : 1 + 0 ≤ _), (by decide : 10 + 0 ≤ _)⟩)
    dsimp only [Pt.U, Pt.locs, Pt.cells, Pt.slots] at X46 l46 y46 z46 st46 hQ46
    subst l46 y46 z46
    obtain ⟨rfl, N46q, eh46⟩ := hQ46
    have N46 := Fr.app N45 N46q
    refine oSt st46 ?_
    show oGl p e below (T46.setTop (mkF m 72 #[.val (.int i0), .val (.int (4 : Int32)), .val (.ref a1), .val (.ref sGT), .val (.int (1 : Int32)), .unset] [(.ref sLE)])) _
    have hz47 : n0 ≤ h21.size := by omega
    obtain ⟨cq47, kq47, q47a, q47b, q47c⟩ := isOf hZ eh46 (EsLE.ext f43.2)
    obtain ⟨_, _, ⟨T47, L47, k47, n47⟩, -, X47, ⟨Lc47, hQ47, l47, y47, z47⟩, st47⟩ := X46.virtualBack hx (y := (⟨"com/example/moraine/moraine/model/Expression$Operator", "literals", "()I"⟩ : MethodName)) (z := (⟨"com/example/moraine/moraine/model/Expression$Operator", "literals", "()I"⟩ : MethodName)) hown (mvT hZ (hw _ (List.mem_of_getElem? (i := 9) rfl))) (mvT hZ (hw _ (List.mem_of_getElem? (i := 10) rfl))) (notFace_of_selects (args := #[]) (mvT hZ (hw _ (List.mem_of_getElem? (i := 12) rfl)))) (mvT hZ (hw _ (List.mem_of_getElem? (i := 12) rfl))) (mvT hZ (hw _ (List.mem_of_getElem? (i := 11) rfl))) (by decide) (backOf (W := 0) (rmLit_LE l Z a0 hw [] sEQ sIS_NULL sNOT_NULL sIN sNOT_IN sNE sLE sGT sLT sGE h21 n0 hz47 f43 SsEQ EsEQ FsEQ SsIS_NULL EsIS_NULL FsIS_NULL SsNOT_NULL EsNOT_NULL FsNOT_NULL SsIN EsIN FsIN SsNOT_IN EsNOT_IN FsNOT_IN SsNE EsNE FsNE SsLE EsLE FsLE SsGT EsGT FsGT SsLT EsLT FsLT SsGE EsGE FsGE) hZ (hw _ (List.mem_of_getElem? (i := 13) rfl)) (hw _ (List.mem_of_getElem? (i := 7) rfl)) (by decide) (by decide)) q47a q47c (g := (mkF m 72 #[.val (.int i0), .val (.int (4 : Int32)), .val (.ref a1), .val (.ref sGT), .val (.int (1 : Int32)), .unset] [(.ref sLE)])) rfl (by rw [hml]; rfl) (Steps.refl _) (argsL := []) (rest := []) (lenOf pd_0 rfl) rfl (by show 2 * 0 + _ ≤ _; exact Nat.le_of_eq rfl) (hb hby at_72) (fun _ _ => ⟨rfl, eh46, (by decide : 1 + 0 ≤ _), (by decide : 10 + 0 ≤ _)⟩)
    dsimp only [Pt.U, Pt.locs, Pt.cells, Pt.slots] at X47 l47 y47 z47 st47 hQ47
    subst l47 y47 z47
    obtain ⟨rfl, N47q, eh47⟩ := hQ47
    have N47 := Fr.app N46 N47q
    refine oSt st47 ?_
    show oGl p e below (T47.setTop (mkF m 75 #[.val (.int i0), .val (.int (4 : Int32)), .val (.ref a1), .val (.ref sGT), .val (.int (1 : Int32)), .unset] [(.int (1 : Int32))])) _
    refine sistore X47 hx (hb hby at_75) rfl rfl (l' := #[.val (.int i0), .val (.int (4 : Int32)), .val (.ref a1), .val (.ref sGT), .val (.int (1 : Int32)), .val (.int (1 : Int32))]) (pc' := 77) ?_
    refine siload X47 hx (hb hby at_77) rfl rfl (pc' := 79) ?_
    refine saloadN X47 hx (hb hby at_79) rfl rfl rfl (pc' := 80) ?_
    refine siloadN X47 hx (hb hby at_80) rfl rfl (pc' := 81) ?_
    refine oOn (V21.ldI X47 hx hZ eh47 (j := (4 : Int32)) (by decide) (g := (mkF m 81 #[.val (.int i0), .val (.int (4 : Int32)), .val (.ref a1), .val (.ref sGT), .val (.int (1 : Int32)), .val (.int (1 : Int32))] [(.int (4 : Int32)), (.ref a1), (.int (1 : Int32))])) rfl rfl (hb hby at_81)) ?_
    show oGl p e below (T47.setTop (mkF m 82 #[.val (.int i0), .val (.int (4 : Int32)), .val (.ref a1), .val (.ref sGT), .val (.int (1 : Int32)), .val (.int (1 : Int32))] [(.int ((oUp (oUp (oUp (oUp (oUp (oUp (oUp (oUp (oUp (oUp (fun _ => 0) 0 (1 : Int32)) 1 (1 : Int32)) 2 (1 : Int32)) 3 (1 : Int32)) 4 (1 : Int32)) 5 (1 : Int32)) 6 (0 : Int32)) 7 (0 : Int32)) 8 (-1 : Int32)) 9 (-1 : Int32)) 4)), (.int (1 : Int32))])) _
    refine sicN X47 hx (hb hby at_82) rfl (teq (rfl : (1 : Int32) = ((oUp (oUp (oUp (oUp (oUp (oUp (oUp (oUp (oUp (oUp (fun _ => 0) 0 (1 : Int32)) 1 (1 : Int32)) 2 (1 : Int32)) 3 (1 : Int32)) 4 (1 : Int32)) 5 (1 : Int32)) 6 (0 : Int32)) 7 (0 : Int32)) 8 (-1 : Int32)) 9 (-1 : Int32)) 4))).2 (pc' := 85) ?_
    refine siload X47 hx (hb hby at_85) rfl rfl (pc' := 87) ?_
    refine siload X47 hx (hb hby at_87) rfl rfl (pc' := 89) ?_
    refine sicN X47 hx (hb hby at_89) rfl (teq (by decide : (1 : Int32) = (1 : Int32))).2 (pc' := 92) ?_
    refine siconst X47 hx (hb hby at_92) rfl rfl (z := 1) (pc' := 93) ?_
    refine sgoto X47 hx (hb hby at_93) (by decide) (by decide)  (pc' := 97) ?_
    refine oRetN (t := .boolean) X47 hx Bd.notSynchronized Bd.returns (by simp) (hb hby at_97) (by decide) (by decide) ?_
    show Q_rmL Z i0 sEQ sIS_NULL sNOT_NULL sIN sNOT_IN sNE sLE sGT sLT sGE h0 n0 _ T47.heap _
    rw [eh47]
    exact ⟨rfl, N47⟩
  · skip
    show oGl p e below (T21.setTop (mkF m 57 #[.val (.int i0), .val (.int (5 : Int32)), .val (.ref a1), .unset, .unset, .unset] [])) _
    refine siloadN X21 hx (hb hby at_57) rfl rfl (pc' := 58) ?_
    have f48 := (((((((((((O0.ext E1).wr W3 (by omega)).wr W5 (by omega)).wr W7 (by omega)).wr W9 (by omega)).wr W11 (by omega)).wr W13 (by omega)).wr W15 (by omega)).wr W17 (by omega)).wr W19 (by omega)).wr W21 (by omega))
    have hz49 : n0 ≤ h21.size := by omega
    obtain ⟨_, _, ⟨T49, L49, k49, n49⟩, -, X49, ⟨Lc49, hQ49, l49, y49, z49⟩, st49⟩ := Jvm.LawKit.callS X21 hx (y := (⟨"com/example/moraine/moraine/model/OperatorLiteralsPinLaw", "pick", "(I)Lcom/example/moraine/moraine/model/Expression$Operator;"⟩ : MethodName)) hown (mvT hZ (hw _ (List.mem_of_getElem? (i := 2) rfl))) (mvT hZ (hw _ (List.mem_of_getElem? (i := 3) rfl))) (mvT hZ (hw _ (List.mem_of_getElem? (i := 4) rfl))) (mvT hZ (hw _ (List.mem_of_getElem? (i := 5) rfl))) (by decide) (backOf (W := 0) (rmP5 l Z a0 hw [] sEQ sIS_NULL sNOT_NULL sIN sNOT_IN sNE sLE sGT sLT sGE h21 n0 hz49 f48 SsEQ EsEQ FsEQ SsIS_NULL EsIS_NULL FsIS_NULL SsNOT_NULL EsNOT_NULL FsNOT_NULL SsIN EsIN FsIN SsNOT_IN EsNOT_IN FsNOT_IN SsNE EsNE FsNE SsLE EsLE FsLE SsGT EsGT FsGT SsLT EsLT FsLT SsGE EsGE FsGE) hZ (hw _ (List.mem_of_getElem? (i := 5) rfl)) (hw _ (List.mem_of_getElem? (i := 4) rfl)) (by decide) (by decide)) (g := (mkF m 58 #[.val (.int i0), .val (.int (5 : Int32)), .val (.ref a1), .unset, .unset, .unset] [(.int (5 : Int32))])) rfl (by rw [hml]; rfl) (argsL := [(.int (5 : Int32))]) (rest := []) (lenOf pd_1 rfl) rfl (by show 2 * 0 + _ ≤ _; exact Nat.le_of_eq rfl) (hb hby at_58) (fun _ _ => ⟨rfl, e21, (by decide : 1 + 0 ≤ _), (by decide : 10 + 0 ≤ _)⟩)
    dsimp only [Pt.U, Pt.locs, Pt.cells, Pt.slots] at X49 l49 y49 z49 st49 hQ49
    subst l49 y49 z49
    obtain ⟨rfl, N49q, eh49⟩ := hQ49
    have N49 := Fr.app N21 N49q
    refine oOn st49 ?_
    show oGl p e below (T49.setTop (mkF m 61 #[.val (.int i0), .val (.int (5 : Int32)), .val (.ref a1), .unset, .unset, .unset] [(.ref sGE)])) _
    refine sastoreN X49 hx (hb hby at_61) rfl rfl rfl (l' := #[.val (.int i0), .val (.int (5 : Int32)), .val (.ref a1), .val (.ref sGE), .unset, .unset]) (pc' := 62) ?_
    refine saloadN X49 hx (hb hby at_62) rfl rfl rfl (pc' := 63) ?_
    have hz50 : n0 ≤ h21.size := by omega
    obtain ⟨cq50, kq50, q50a, q50b, q50c⟩ := isOf hZ eh49 (EsGE.ext f48.2)
    obtain ⟨_, _, ⟨T50, L50, k50, n50⟩, -, X50, ⟨Lc50, hQ50, l50, y50, z50⟩, st50⟩ := X49.virtualBack hx (y := (⟨"com/example/moraine/moraine/model/Expression$Operator", "literals", "()I"⟩ : MethodName)) (z := (⟨"com/example/moraine/moraine/model/Expression$Operator", "literals", "()I"⟩ : MethodName)) hown (mvT hZ (hw _ (List.mem_of_getElem? (i := 9) rfl))) (mvT hZ (hw _ (List.mem_of_getElem? (i := 10) rfl))) (notFace_of_selects (args := #[]) (mvT hZ (hw _ (List.mem_of_getElem? (i := 12) rfl)))) (mvT hZ (hw _ (List.mem_of_getElem? (i := 12) rfl))) (mvT hZ (hw _ (List.mem_of_getElem? (i := 11) rfl))) (by decide) (backOf (W := 0) (rmLit_GE l Z a0 hw [] sEQ sIS_NULL sNOT_NULL sIN sNOT_IN sNE sLE sGT sLT sGE h21 n0 hz50 f48 SsEQ EsEQ FsEQ SsIS_NULL EsIS_NULL FsIS_NULL SsNOT_NULL EsNOT_NULL FsNOT_NULL SsIN EsIN FsIN SsNOT_IN EsNOT_IN FsNOT_IN SsNE EsNE FsNE SsLE EsLE FsLE SsGT EsGT FsGT SsLT EsLT FsLT SsGE EsGE FsGE) hZ (hw _ (List.mem_of_getElem? (i := 13) rfl)) (hw _ (List.mem_of_getElem? (i := 7) rfl)) (by decide) (by decide)) q50a q50c (g := (mkF m 63 #[.val (.int i0), .val (.int (5 : Int32)), .val (.ref a1), .val (.ref sGE), .unset, .unset] [(.ref sGE)])) rfl (by rw [hml]; rfl) (Steps.refl _) (argsL := []) (rest := []) (lenOf pd_0 rfl) rfl (by show 2 * 0 + _ ≤ _; exact Nat.le_of_eq rfl) (hb hby at_63) (fun _ _ => ⟨rfl, eh49, (by decide : 1 + 0 ≤ _), (by decide : 10 + 0 ≤ _)⟩)
    dsimp only [Pt.U, Pt.locs, Pt.cells, Pt.slots] at X50 l50 y50 z50 st50 hQ50
    subst l50 y50 z50
    obtain ⟨rfl, N50q, eh50⟩ := hQ50
    have N50 := Fr.app N49 N50q
    refine oSt st50 ?_
    show oGl p e below (T50.setTop (mkF m 66 #[.val (.int i0), .val (.int (5 : Int32)), .val (.ref a1), .val (.ref sGE), .unset, .unset] [(.int (1 : Int32))])) _
    refine sistore X50 hx (hb hby at_66) rfl rfl (l' := #[.val (.int i0), .val (.int (5 : Int32)), .val (.ref a1), .val (.ref sGE), .val (.int (1 : Int32)), .unset]) (pc' := 68) ?_
    refine saloadN X50 hx (hb hby at_68) rfl rfl rfl (pc' := 69) ?_
    have hz51 : n0 ≤ h21.size := by omega
    obtain ⟨cq51, kq51, q51a, q51b, q51c⟩ := isOf hZ eh50 (EsGE.ext f48.2)
    obtain ⟨_, _, ⟨T51, L51, k51, n51⟩, -, X51, ⟨Lc51, hQ51, l51, y51, z51⟩, st51⟩ := X50.virtualBack hx (y := (⟨"com/example/moraine/moraine/model/Expression$Operator", "negation", "()Lcom/example/moraine/moraine/model/Expression$Operator;"⟩ : MethodName)) (z := (⟨"com/example/moraine/moraine/model/Expression$Operator", "negation", "()Lcom/example/moraine/moraine/model/Expression$Operator;"⟩ : MethodName)) hown (mvT hZ (hw _ (List.mem_of_getElem? (i := 22) rfl))) (mvT hZ (hw _ (List.mem_of_getElem? (i := 23) rfl))) (notFace_of_selects (args := #[]) (mvT hZ (hw _ (List.mem_of_getElem? (i := 25) rfl)))) (mvT hZ (hw _ (List.mem_of_getElem? (i := 25) rfl))) (mvT hZ (hw _ (List.mem_of_getElem? (i := 24) rfl))) (by decide) (backOf (W := 0) (rmNeg_GE l Z a0 hw [] sEQ sIS_NULL sNOT_NULL sIN sNOT_IN sNE sLE sGT sLT sGE h21 n0 hz51 f48 SsEQ EsEQ FsEQ SsIS_NULL EsIS_NULL FsIS_NULL SsNOT_NULL EsNOT_NULL FsNOT_NULL SsIN EsIN FsIN SsNOT_IN EsNOT_IN FsNOT_IN SsNE EsNE FsNE SsLE EsLE FsLE SsGT EsGT FsGT SsLT EsLT FsLT SsGE EsGE FsGE) hZ (hw _ (List.mem_of_getElem? (i := 26) rfl)) (hw _ (List.mem_of_getElem? (i := 7) rfl)) (by decide) (by decide)) q51a q51c (g := (mkF m 69 #[.val (.int i0), .val (.int (5 : Int32)), .val (.ref a1), .val (.ref sGE), .val (.int (1 : Int32)), .unset] [(.ref sGE)])) rfl (by rw [hml]; rfl) (Steps.refl _) (argsL := []) (rest := []) (lenOf pd_2 rfl) rfl (by show 2 * 0 + _ ≤ _; exact Nat.le_of_eq rfl) (hb hby at_69) (fun _ _ => ⟨rfl, eh50, (by decide : 1 + 0 ≤ _), (by decide : 10 + 0 ≤ _)⟩)
    dsimp only [Pt.U, Pt.locs, Pt.cells, Pt.slots] at X51 l51 y51 z51 st51 hQ51
    subst l51 y51 z51
    obtain ⟨rfl, N51q, eh51⟩ := hQ51
    have N51 := Fr.app N50 N51q
    refine oSt st51 ?_
    show oGl p e below (T51.setTop (mkF m 72 #[.val (.int i0), .val (.int (5 : Int32)), .val (.ref a1), .val (.ref sGE), .val (.int (1 : Int32)), .unset] [(.ref sLT)])) _
    have hz52 : n0 ≤ h21.size := by omega
    obtain ⟨cq52, kq52, q52a, q52b, q52c⟩ := isOf hZ eh51 (EsLT.ext f48.2)
    obtain ⟨_, _, ⟨T52, L52, k52, n52⟩, -, X52, ⟨Lc52, hQ52, l52, y52, z52⟩, st52⟩ := X51.virtualBack hx (y := (⟨"com/example/moraine/moraine/model/Expression$Operator", "literals", "()I"⟩ : MethodName)) (z := (⟨"com/example/moraine/moraine/model/Expression$Operator", "literals", "()I"⟩ : MethodName)) hown (mvT hZ (hw _ (List.mem_of_getElem? (i := 9) rfl))) (mvT hZ (hw _ (List.mem_of_getElem? (i := 10) rfl))) (notFace_of_selects (args := #[]) (mvT hZ (hw _ (List.mem_of_getElem? (i := 12) rfl)))) (mvT hZ (hw _ (List.mem_of_getElem? (i := 12) rfl))) (mvT hZ (hw _ (List.mem_of_getElem? (i := 11) rfl))) (by decide) (backOf (W := 0) (rmLit_LT l Z a0 hw [] sEQ sIS_NULL sNOT_NULL sIN sNOT_IN sNE sLE sGT sLT sGE h21 n0 hz52 f48 SsEQ EsEQ FsEQ SsIS_NULL EsIS_NULL FsIS_NULL SsNOT_NULL EsNOT_NULL FsNOT_NULL SsIN EsIN FsIN SsNOT_IN EsNOT_IN FsNOT_IN SsNE EsNE FsNE SsLE EsLE FsLE SsGT EsGT FsGT SsLT EsLT FsLT SsGE EsGE FsGE) hZ (hw _ (List.mem_of_getElem? (i := 13) rfl)) (hw _ (List.mem_of_getElem? (i := 7) rfl)) (by decide) (by decide)) q52a q52c (g := (mkF m 72 #[.val (.int i0), .val (.int (5 : Int32)), .val (.ref a1), .val (.ref sGE), .val (.int (1 : Int32)), .unset] [(.ref sLT)])) rfl (by rw [hml]; rfl) (Steps.refl _) (argsL := []) (rest := []) (lenOf pd_0 rfl) rfl (by show 2 * 0 + _ ≤ _; exact Nat.le_of_eq rfl) (hb hby at_72) (fun _ _ => ⟨rfl, eh51, (by decide : 1 + 0 ≤ _), (by decide : 10 + 0 ≤ _)⟩)
    dsimp only [Pt.U, Pt.locs, Pt.cells, Pt.slots] at X52 l52 y52 z52 st52 hQ52
    subst l52 y52 z52
    obtain ⟨rfl, N52q, eh52⟩ := hQ52
    have N52 := Fr.app N51 N52q
    refine oSt st52 ?_
    show oGl p e below (T52.setTop (mkF m 75 #[.val (.int i0), .val (.int (5 : Int32)), .val (.ref a1), .val (.ref sGE), .val (.int (1 : Int32)), .unset] [(.int (1 : Int32))])) _
    refine sistore X52 hx (hb hby at_75) rfl rfl (l' := #[.val (.int i0), .val (.int (5 : Int32)), .val (.ref a1), .val (.ref sGE), .val (.int (1 : Int32)), .val (.int (1 : Int32))]) (pc' := 77) ?_
    refine siload X52 hx (hb hby at_77) rfl rfl (pc' := 79) ?_
    refine saloadN X52 hx (hb hby at_79) rfl rfl rfl (pc' := 80) ?_
    refine siloadN X52 hx (hb hby at_80) rfl rfl (pc' := 81) ?_
    refine oOn (V21.ldI X52 hx hZ eh52 (j := (5 : Int32)) (by decide) (g := (mkF m 81 #[.val (.int i0), .val (.int (5 : Int32)), .val (.ref a1), .val (.ref sGE), .val (.int (1 : Int32)), .val (.int (1 : Int32))] [(.int (5 : Int32)), (.ref a1), (.int (1 : Int32))])) rfl rfl (hb hby at_81)) ?_
    show oGl p e below (T52.setTop (mkF m 82 #[.val (.int i0), .val (.int (5 : Int32)), .val (.ref a1), .val (.ref sGE), .val (.int (1 : Int32)), .val (.int (1 : Int32))] [(.int ((oUp (oUp (oUp (oUp (oUp (oUp (oUp (oUp (oUp (oUp (fun _ => 0) 0 (1 : Int32)) 1 (1 : Int32)) 2 (1 : Int32)) 3 (1 : Int32)) 4 (1 : Int32)) 5 (1 : Int32)) 6 (0 : Int32)) 7 (0 : Int32)) 8 (-1 : Int32)) 9 (-1 : Int32)) 5)), (.int (1 : Int32))])) _
    refine sicN X52 hx (hb hby at_82) rfl (teq (rfl : (1 : Int32) = ((oUp (oUp (oUp (oUp (oUp (oUp (oUp (oUp (oUp (oUp (fun _ => 0) 0 (1 : Int32)) 1 (1 : Int32)) 2 (1 : Int32)) 3 (1 : Int32)) 4 (1 : Int32)) 5 (1 : Int32)) 6 (0 : Int32)) 7 (0 : Int32)) 8 (-1 : Int32)) 9 (-1 : Int32)) 5))).2 (pc' := 85) ?_
    refine siload X52 hx (hb hby at_85) rfl rfl (pc' := 87) ?_
    refine siload X52 hx (hb hby at_87) rfl rfl (pc' := 89) ?_
    refine sicN X52 hx (hb hby at_89) rfl (teq (by decide : (1 : Int32) = (1 : Int32))).2 (pc' := 92) ?_
    refine siconst X52 hx (hb hby at_92) rfl rfl (z := 1) (pc' := 93) ?_
    refine sgoto X52 hx (hb hby at_93) (by decide) (by decide)  (pc' := 97) ?_
    refine oRetN (t := .boolean) X52 hx Bd.notSynchronized Bd.returns (by simp) (hb hby at_97) (by decide) (by decide) ?_
    show Q_rmL Z i0 sEQ sIS_NULL sNOT_NULL sIN sNOT_IN sNE sLE sGT sLT sGE h0 n0 _ T52.heap _
    rw [eh52]
    exact ⟨rfl, N52⟩
  · skip
    show oGl p e below (T21.setTop (mkF m 57 #[.val (.int i0), .val (.int (6 : Int32)), .val (.ref a1), .unset, .unset, .unset] [])) _
    refine siloadN X21 hx (hb hby at_57) rfl rfl (pc' := 58) ?_
    have f53 := (((((((((((O0.ext E1).wr W3 (by omega)).wr W5 (by omega)).wr W7 (by omega)).wr W9 (by omega)).wr W11 (by omega)).wr W13 (by omega)).wr W15 (by omega)).wr W17 (by omega)).wr W19 (by omega)).wr W21 (by omega))
    have hz54 : n0 ≤ h21.size := by omega
    obtain ⟨_, _, ⟨T54, L54, k54, n54⟩, -, X54, ⟨Lc54, hQ54, l54, y54, z54⟩, st54⟩ := Jvm.LawKit.callS X21 hx (y := (⟨"com/example/moraine/moraine/model/OperatorLiteralsPinLaw", "pick", "(I)Lcom/example/moraine/moraine/model/Expression$Operator;"⟩ : MethodName)) hown (mvT hZ (hw _ (List.mem_of_getElem? (i := 2) rfl))) (mvT hZ (hw _ (List.mem_of_getElem? (i := 3) rfl))) (mvT hZ (hw _ (List.mem_of_getElem? (i := 4) rfl))) (mvT hZ (hw _ (List.mem_of_getElem? (i := 5) rfl))) (by decide) (backOf (W := 0) (rmP6 l Z a0 hw [] sEQ sIS_NULL sNOT_NULL sIN sNOT_IN sNE sLE sGT sLT sGE h21 n0 hz54 f53 SsEQ EsEQ FsEQ SsIS_NULL EsIS_NULL FsIS_NULL SsNOT_NULL EsNOT_NULL FsNOT_NULL SsIN EsIN FsIN SsNOT_IN EsNOT_IN FsNOT_IN SsNE EsNE FsNE SsLE EsLE FsLE SsGT EsGT FsGT SsLT EsLT FsLT SsGE EsGE FsGE) hZ (hw _ (List.mem_of_getElem? (i := 5) rfl)) (hw _ (List.mem_of_getElem? (i := 4) rfl)) (by decide) (by decide)) (g := (mkF m 58 #[.val (.int i0), .val (.int (6 : Int32)), .val (.ref a1), .unset, .unset, .unset] [(.int (6 : Int32))])) rfl (by rw [hml]; rfl) (argsL := [(.int (6 : Int32))]) (rest := []) (lenOf pd_1 rfl) rfl (by show 2 * 0 + _ ≤ _; exact Nat.le_of_eq rfl) (hb hby at_58) (fun _ _ => ⟨rfl, e21, (by decide : 1 + 0 ≤ _), (by decide : 10 + 0 ≤ _)⟩)
    dsimp only [Pt.U, Pt.locs, Pt.cells, Pt.slots] at X54 l54 y54 z54 st54 hQ54
    subst l54 y54 z54
    obtain ⟨rfl, N54q, eh54⟩ := hQ54
    have N54 := Fr.app N21 N54q
    refine oOn st54 ?_
    show oGl p e below (T54.setTop (mkF m 61 #[.val (.int i0), .val (.int (6 : Int32)), .val (.ref a1), .unset, .unset, .unset] [(.ref sIS_NULL)])) _
    refine sastoreN X54 hx (hb hby at_61) rfl rfl rfl (l' := #[.val (.int i0), .val (.int (6 : Int32)), .val (.ref a1), .val (.ref sIS_NULL), .unset, .unset]) (pc' := 62) ?_
    refine saloadN X54 hx (hb hby at_62) rfl rfl rfl (pc' := 63) ?_
    have hz55 : n0 ≤ h21.size := by omega
    obtain ⟨cq55, kq55, q55a, q55b, q55c⟩ := isOf hZ eh54 (EsIS_NULL.ext f53.2)
    obtain ⟨_, _, ⟨T55, L55, k55, n55⟩, -, X55, ⟨Lc55, hQ55, l55, y55, z55⟩, st55⟩ := X54.virtualBack hx (y := (⟨"com/example/moraine/moraine/model/Expression$Operator", "literals", "()I"⟩ : MethodName)) (z := (⟨"com/example/moraine/moraine/model/Expression$Operator", "literals", "()I"⟩ : MethodName)) hown (mvT hZ (hw _ (List.mem_of_getElem? (i := 9) rfl))) (mvT hZ (hw _ (List.mem_of_getElem? (i := 10) rfl))) (notFace_of_selects (args := #[]) (mvT hZ (hw _ (List.mem_of_getElem? (i := 12) rfl)))) (mvT hZ (hw _ (List.mem_of_getElem? (i := 12) rfl))) (mvT hZ (hw _ (List.mem_of_getElem? (i := 11) rfl))) (by decide) (backOf (W := 0) (rmLit_IS_NULL l Z a0 hw [] sEQ sIS_NULL sNOT_NULL sIN sNOT_IN sNE sLE sGT sLT sGE h21 n0 hz55 f53 SsEQ EsEQ FsEQ SsIS_NULL EsIS_NULL FsIS_NULL SsNOT_NULL EsNOT_NULL FsNOT_NULL SsIN EsIN FsIN SsNOT_IN EsNOT_IN FsNOT_IN SsNE EsNE FsNE SsLE EsLE FsLE SsGT EsGT FsGT SsLT EsLT FsLT SsGE EsGE FsGE) hZ (hw _ (List.mem_of_getElem? (i := 13) rfl)) (hw _ (List.mem_of_getElem? (i := 7) rfl)) (by decide) (by decide)) q55a q55c (g := (mkF m 63 #[.val (.int i0), .val (.int (6 : Int32)), .val (.ref a1), .val (.ref sIS_NULL), .unset, .unset] [(.ref sIS_NULL)])) rfl (by rw [hml]; rfl) (Steps.refl _) (argsL := []) (rest := []) (lenOf pd_0 rfl) rfl (by show 2 * 0 + _ ≤ _; exact Nat.le_of_eq rfl) (hb hby at_63) (fun _ _ => ⟨rfl, eh54, (by decide : 1 + 0 ≤ _), (by decide : 10 + 0 ≤ _)⟩)
    dsimp only [Pt.U, Pt.locs, Pt.cells, Pt.slots] at X55 l55 y55 z55 st55 hQ55
    subst l55 y55 z55
    obtain ⟨rfl, N55q, eh55⟩ := hQ55
    have N55 := Fr.app N54 N55q
    refine oSt st55 ?_
    show oGl p e below (T55.setTop (mkF m 66 #[.val (.int i0), .val (.int (6 : Int32)), .val (.ref a1), .val (.ref sIS_NULL), .unset, .unset] [(.int (0 : Int32))])) _
    refine sistore X55 hx (hb hby at_66) rfl rfl (l' := #[.val (.int i0), .val (.int (6 : Int32)), .val (.ref a1), .val (.ref sIS_NULL), .val (.int (0 : Int32)), .unset]) (pc' := 68) ?_
    refine saloadN X55 hx (hb hby at_68) rfl rfl rfl (pc' := 69) ?_
    have hz56 : n0 ≤ h21.size := by omega
    obtain ⟨cq56, kq56, q56a, q56b, q56c⟩ := isOf hZ eh55 (EsIS_NULL.ext f53.2)
    obtain ⟨_, _, ⟨T56, L56, k56, n56⟩, -, X56, ⟨Lc56, hQ56, l56, y56, z56⟩, st56⟩ := X55.virtualBack hx (y := (⟨"com/example/moraine/moraine/model/Expression$Operator", "negation", "()Lcom/example/moraine/moraine/model/Expression$Operator;"⟩ : MethodName)) (z := (⟨"com/example/moraine/moraine/model/Expression$Operator", "negation", "()Lcom/example/moraine/moraine/model/Expression$Operator;"⟩ : MethodName)) hown (mvT hZ (hw _ (List.mem_of_getElem? (i := 22) rfl))) (mvT hZ (hw _ (List.mem_of_getElem? (i := 23) rfl))) (notFace_of_selects (args := #[]) (mvT hZ (hw _ (List.mem_of_getElem? (i := 25) rfl)))) (mvT hZ (hw _ (List.mem_of_getElem? (i := 25) rfl))) (mvT hZ (hw _ (List.mem_of_getElem? (i := 24) rfl))) (by decide) (backOf (W := 0) (rmNeg_IS_NULL l Z a0 hw [] sEQ sIS_NULL sNOT_NULL sIN sNOT_IN sNE sLE sGT sLT sGE h21 n0 hz56 f53 SsEQ EsEQ FsEQ SsIS_NULL EsIS_NULL FsIS_NULL SsNOT_NULL EsNOT_NULL FsNOT_NULL SsIN EsIN FsIN SsNOT_IN EsNOT_IN FsNOT_IN SsNE EsNE FsNE SsLE EsLE FsLE SsGT EsGT FsGT SsLT EsLT FsLT SsGE EsGE FsGE) hZ (hw _ (List.mem_of_getElem? (i := 26) rfl)) (hw _ (List.mem_of_getElem? (i := 7) rfl)) (by decide) (by decide)) q56a q56c (g := (mkF m 69 #[.val (.int i0), .val (.int (6 : Int32)), .val (.ref a1), .val (.ref sIS_NULL), .val (.int (0 : Int32)), .unset] [(.ref sIS_NULL)])) rfl (by rw [hml]; rfl) (Steps.refl _) (argsL := []) (rest := []) (lenOf pd_2 rfl) rfl (by show 2 * 0 + _ ≤ _; exact Nat.le_of_eq rfl) (hb hby at_69) (fun _ _ => ⟨rfl, eh55, (by decide : 1 + 0 ≤ _), (by decide : 10 + 0 ≤ _)⟩)
    dsimp only [Pt.U, Pt.locs, Pt.cells, Pt.slots] at X56 l56 y56 z56 st56 hQ56
    subst l56 y56 z56
    obtain ⟨rfl, N56q, eh56⟩ := hQ56
    have N56 := Fr.app N55 N56q
    refine oSt st56 ?_
    show oGl p e below (T56.setTop (mkF m 72 #[.val (.int i0), .val (.int (6 : Int32)), .val (.ref a1), .val (.ref sIS_NULL), .val (.int (0 : Int32)), .unset] [(.ref sNOT_NULL)])) _
    have hz57 : n0 ≤ h21.size := by omega
    obtain ⟨cq57, kq57, q57a, q57b, q57c⟩ := isOf hZ eh56 (EsNOT_NULL.ext f53.2)
    obtain ⟨_, _, ⟨T57, L57, k57, n57⟩, -, X57, ⟨Lc57, hQ57, l57, y57, z57⟩, st57⟩ := X56.virtualBack hx (y := (⟨"com/example/moraine/moraine/model/Expression$Operator", "literals", "()I"⟩ : MethodName)) (z := (⟨"com/example/moraine/moraine/model/Expression$Operator", "literals", "()I"⟩ : MethodName)) hown (mvT hZ (hw _ (List.mem_of_getElem? (i := 9) rfl))) (mvT hZ (hw _ (List.mem_of_getElem? (i := 10) rfl))) (notFace_of_selects (args := #[]) (mvT hZ (hw _ (List.mem_of_getElem? (i := 12) rfl)))) (mvT hZ (hw _ (List.mem_of_getElem? (i := 12) rfl))) (mvT hZ (hw _ (List.mem_of_getElem? (i := 11) rfl))) (by decide) (backOf (W := 0) (rmLit_NOT_NULL l Z a0 hw [] sEQ sIS_NULL sNOT_NULL sIN sNOT_IN sNE sLE sGT sLT sGE h21 n0 hz57 f53 SsEQ EsEQ FsEQ SsIS_NULL EsIS_NULL FsIS_NULL SsNOT_NULL EsNOT_NULL FsNOT_NULL SsIN EsIN FsIN SsNOT_IN EsNOT_IN FsNOT_IN SsNE EsNE FsNE SsLE EsLE FsLE SsGT EsGT FsGT SsLT EsLT FsLT SsGE EsGE FsGE) hZ (hw _ (List.mem_of_getElem? (i := 13) rfl)) (hw _ (List.mem_of_getElem? (i := 7) rfl)) (by decide) (by decide)) q57a q57c (g := (mkF m 72 #[.val (.int i0), .val (.int (6 : Int32)), .val (.ref a1), .val (.ref sIS_NULL), .val (.int (0 : Int32)), .unset] [(.ref sNOT_NULL)])) rfl (by rw [hml]; rfl) (Steps.refl _) (argsL := []) (rest := []) (lenOf pd_0 rfl) rfl (by show 2 * 0 + _ ≤ _; exact Nat.le_of_eq rfl) (hb hby at_72) (fun _ _ => ⟨rfl, eh56, (by decide : 1 + 0 ≤ _), (by decide : 10 + 0 ≤ _)⟩)
    dsimp only [Pt.U, Pt.locs, Pt.cells, Pt.slots] at X57 l57 y57 z57 st57 hQ57
    subst l57 y57 z57
    obtain ⟨rfl, N57q, eh57⟩ := hQ57
    have N57 := Fr.app N56 N57q
    refine oSt st57 ?_
    show oGl p e below (T57.setTop (mkF m 75 #[.val (.int i0), .val (.int (6 : Int32)), .val (.ref a1), .val (.ref sIS_NULL), .val (.int (0 : Int32)), .unset] [(.int (0 : Int32))])) _
    refine sistore X57 hx (hb hby at_75) rfl rfl (l' := #[.val (.int i0), .val (.int (6 : Int32)), .val (.ref a1), .val (.ref sIS_NULL), .val (.int (0 : Int32)), .val (.int (0 : Int32))]) (pc' := 77) ?_
    refine siload X57 hx (hb hby at_77) rfl rfl (pc' := 79) ?_
    refine saloadN X57 hx (hb hby at_79) rfl rfl rfl (pc' := 80) ?_
    refine siloadN X57 hx (hb hby at_80) rfl rfl (pc' := 81) ?_
    refine oOn (V21.ldI X57 hx hZ eh57 (j := (6 : Int32)) (by decide) (g := (mkF m 81 #[.val (.int i0), .val (.int (6 : Int32)), .val (.ref a1), .val (.ref sIS_NULL), .val (.int (0 : Int32)), .val (.int (0 : Int32))] [(.int (6 : Int32)), (.ref a1), (.int (0 : Int32))])) rfl rfl (hb hby at_81)) ?_
    show oGl p e below (T57.setTop (mkF m 82 #[.val (.int i0), .val (.int (6 : Int32)), .val (.ref a1), .val (.ref sIS_NULL), .val (.int (0 : Int32)), .val (.int (0 : Int32))] [(.int ((oUp (oUp (oUp (oUp (oUp (oUp (oUp (oUp (oUp (oUp (fun _ => 0) 0 (1 : Int32)) 1 (1 : Int32)) 2 (1 : Int32)) 3 (1 : Int32)) 4 (1 : Int32)) 5 (1 : Int32)) 6 (0 : Int32)) 7 (0 : Int32)) 8 (-1 : Int32)) 9 (-1 : Int32)) 6)), (.int (0 : Int32))])) _
    refine sicN X57 hx (hb hby at_82) rfl (teq (rfl : (0 : Int32) = ((oUp (oUp (oUp (oUp (oUp (oUp (oUp (oUp (oUp (oUp (fun _ => 0) 0 (1 : Int32)) 1 (1 : Int32)) 2 (1 : Int32)) 3 (1 : Int32)) 4 (1 : Int32)) 5 (1 : Int32)) 6 (0 : Int32)) 7 (0 : Int32)) 8 (-1 : Int32)) 9 (-1 : Int32)) 6))).2 (pc' := 85) ?_
    refine siload X57 hx (hb hby at_85) rfl rfl (pc' := 87) ?_
    refine siload X57 hx (hb hby at_87) rfl rfl (pc' := 89) ?_
    refine sicN X57 hx (hb hby at_89) rfl (teq (by decide : (0 : Int32) = (0 : Int32))).2 (pc' := 92) ?_
    refine siconst X57 hx (hb hby at_92) rfl rfl (z := 1) (pc' := 93) ?_
    refine sgoto X57 hx (hb hby at_93) (by decide) (by decide)  (pc' := 97) ?_
    refine oRetN (t := .boolean) X57 hx Bd.notSynchronized Bd.returns (by simp) (hb hby at_97) (by decide) (by decide) ?_
    show Q_rmL Z i0 sEQ sIS_NULL sNOT_NULL sIN sNOT_IN sNE sLE sGT sLT sGE h0 n0 _ T57.heap _
    rw [eh57]
    exact ⟨rfl, N57⟩
  · skip
    show oGl p e below (T21.setTop (mkF m 57 #[.val (.int i0), .val (.int (7 : Int32)), .val (.ref a1), .unset, .unset, .unset] [])) _
    refine siloadN X21 hx (hb hby at_57) rfl rfl (pc' := 58) ?_
    have f58 := (((((((((((O0.ext E1).wr W3 (by omega)).wr W5 (by omega)).wr W7 (by omega)).wr W9 (by omega)).wr W11 (by omega)).wr W13 (by omega)).wr W15 (by omega)).wr W17 (by omega)).wr W19 (by omega)).wr W21 (by omega))
    have hz59 : n0 ≤ h21.size := by omega
    obtain ⟨_, _, ⟨T59, L59, k59, n59⟩, -, X59, ⟨Lc59, hQ59, l59, y59, z59⟩, st59⟩ := Jvm.LawKit.callS X21 hx (y := (⟨"com/example/moraine/moraine/model/OperatorLiteralsPinLaw", "pick", "(I)Lcom/example/moraine/moraine/model/Expression$Operator;"⟩ : MethodName)) hown (mvT hZ (hw _ (List.mem_of_getElem? (i := 2) rfl))) (mvT hZ (hw _ (List.mem_of_getElem? (i := 3) rfl))) (mvT hZ (hw _ (List.mem_of_getElem? (i := 4) rfl))) (mvT hZ (hw _ (List.mem_of_getElem? (i := 5) rfl))) (by decide) (backOf (W := 0) (rmP7 l Z a0 hw [] sEQ sIS_NULL sNOT_NULL sIN sNOT_IN sNE sLE sGT sLT sGE h21 n0 hz59 f58 SsEQ EsEQ FsEQ SsIS_NULL EsIS_NULL FsIS_NULL SsNOT_NULL EsNOT_NULL FsNOT_NULL SsIN EsIN FsIN SsNOT_IN EsNOT_IN FsNOT_IN SsNE EsNE FsNE SsLE EsLE FsLE SsGT EsGT FsGT SsLT EsLT FsLT SsGE EsGE FsGE) hZ (hw _ (List.mem_of_getElem? (i := 5) rfl)) (hw _ (List.mem_of_getElem? (i := 4) rfl)) (by decide) (by decide)) (g := (mkF m 58 #[.val (.int i0), .val (.int (7 : Int32)), .val (.ref a1), .unset, .unset, .unset] [(.int (7 : Int32))])) rfl (by rw [hml]; rfl) (argsL := [(.int (7 : Int32))]) (rest := []) (lenOf pd_1 rfl) rfl (by show 2 * 0 + _ ≤ _; exact Nat.le_of_eq rfl) (hb hby at_58) (fun _ _ => ⟨rfl, e21, (by decide : 1 + 0 ≤ _), (by decide : 10 + 0 ≤ _)⟩)
    dsimp only [Pt.U, Pt.locs, Pt.cells, Pt.slots] at X59 l59 y59 z59 st59 hQ59
    subst l59 y59 z59
    obtain ⟨rfl, N59q, eh59⟩ := hQ59
    have N59 := Fr.app N21 N59q
    refine oOn st59 ?_
    show oGl p e below (T59.setTop (mkF m 61 #[.val (.int i0), .val (.int (7 : Int32)), .val (.ref a1), .unset, .unset, .unset] [(.ref sNOT_NULL)])) _
    refine sastoreN X59 hx (hb hby at_61) rfl rfl rfl (l' := #[.val (.int i0), .val (.int (7 : Int32)), .val (.ref a1), .val (.ref sNOT_NULL), .unset, .unset]) (pc' := 62) ?_
    refine saloadN X59 hx (hb hby at_62) rfl rfl rfl (pc' := 63) ?_
    have hz60 : n0 ≤ h21.size := by omega
    obtain ⟨cq60, kq60, q60a, q60b, q60c⟩ := isOf hZ eh59 (EsNOT_NULL.ext f58.2)
    obtain ⟨_, _, ⟨T60, L60, k60, n60⟩, -, X60, ⟨Lc60, hQ60, l60, y60, z60⟩, st60⟩ := X59.virtualBack hx (y := (⟨"com/example/moraine/moraine/model/Expression$Operator", "literals", "()I"⟩ : MethodName)) (z := (⟨"com/example/moraine/moraine/model/Expression$Operator", "literals", "()I"⟩ : MethodName)) hown (mvT hZ (hw _ (List.mem_of_getElem? (i := 9) rfl))) (mvT hZ (hw _ (List.mem_of_getElem? (i := 10) rfl))) (notFace_of_selects (args := #[]) (mvT hZ (hw _ (List.mem_of_getElem? (i := 12) rfl)))) (mvT hZ (hw _ (List.mem_of_getElem? (i := 12) rfl))) (mvT hZ (hw _ (List.mem_of_getElem? (i := 11) rfl))) (by decide) (backOf (W := 0) (rmLit_NOT_NULL l Z a0 hw [] sEQ sIS_NULL sNOT_NULL sIN sNOT_IN sNE sLE sGT sLT sGE h21 n0 hz60 f58 SsEQ EsEQ FsEQ SsIS_NULL EsIS_NULL FsIS_NULL SsNOT_NULL EsNOT_NULL FsNOT_NULL SsIN EsIN FsIN SsNOT_IN EsNOT_IN FsNOT_IN SsNE EsNE FsNE SsLE EsLE FsLE SsGT EsGT FsGT SsLT EsLT FsLT SsGE EsGE FsGE) hZ (hw _ (List.mem_of_getElem? (i := 13) rfl)) (hw _ (List.mem_of_getElem? (i := 7) rfl)) (by decide) (by decide)) q60a q60c (g := (mkF m 63 #[.val (.int i0), .val (.int (7 : Int32)), .val (.ref a1), .val (.ref sNOT_NULL), .unset, .unset] [(.ref sNOT_NULL)])) rfl (by rw [hml]; rfl) (Steps.refl _) (argsL := []) (rest := []) (lenOf pd_0 rfl) rfl (by show 2 * 0 + _ ≤ _; exact Nat.le_of_eq rfl) (hb hby at_63) (fun _ _ => ⟨rfl, eh59, (by decide : 1 + 0 ≤ _), (by decide : 10 + 0 ≤ _)⟩)
    dsimp only [Pt.U, Pt.locs, Pt.cells, Pt.slots] at X60 l60 y60 z60 st60 hQ60
    subst l60 y60 z60
    obtain ⟨rfl, N60q, eh60⟩ := hQ60
    have N60 := Fr.app N59 N60q
    refine oSt st60 ?_
    show oGl p e below (T60.setTop (mkF m 66 #[.val (.int i0), .val (.int (7 : Int32)), .val (.ref a1), .val (.ref sNOT_NULL), .unset, .unset] [(.int (0 : Int32))])) _
    refine sistore X60 hx (hb hby at_66) rfl rfl (l' := #[.val (.int i0), .val (.int (7 : Int32)), .val (.ref a1), .val (.ref sNOT_NULL), .val (.int (0 : Int32)), .unset]) (pc' := 68) ?_
    refine saloadN X60 hx (hb hby at_68) rfl rfl rfl (pc' := 69) ?_
    have hz61 : n0 ≤ h21.size := by omega
    obtain ⟨cq61, kq61, q61a, q61b, q61c⟩ := isOf hZ eh60 (EsNOT_NULL.ext f58.2)
    obtain ⟨_, _, ⟨T61, L61, k61, n61⟩, -, X61, ⟨Lc61, hQ61, l61, y61, z61⟩, st61⟩ := X60.virtualBack hx (y := (⟨"com/example/moraine/moraine/model/Expression$Operator", "negation", "()Lcom/example/moraine/moraine/model/Expression$Operator;"⟩ : MethodName)) (z := (⟨"com/example/moraine/moraine/model/Expression$Operator", "negation", "()Lcom/example/moraine/moraine/model/Expression$Operator;"⟩ : MethodName)) hown (mvT hZ (hw _ (List.mem_of_getElem? (i := 22) rfl))) (mvT hZ (hw _ (List.mem_of_getElem? (i := 23) rfl))) (notFace_of_selects (args := #[]) (mvT hZ (hw _ (List.mem_of_getElem? (i := 25) rfl)))) (mvT hZ (hw _ (List.mem_of_getElem? (i := 25) rfl))) (mvT hZ (hw _ (List.mem_of_getElem? (i := 24) rfl))) (by decide) (backOf (W := 0) (rmNeg_NOT_NULL l Z a0 hw [] sEQ sIS_NULL sNOT_NULL sIN sNOT_IN sNE sLE sGT sLT sGE h21 n0 hz61 f58 SsEQ EsEQ FsEQ SsIS_NULL EsIS_NULL FsIS_NULL SsNOT_NULL EsNOT_NULL FsNOT_NULL SsIN EsIN FsIN SsNOT_IN EsNOT_IN FsNOT_IN SsNE EsNE FsNE SsLE EsLE FsLE SsGT EsGT FsGT SsLT EsLT FsLT SsGE EsGE FsGE) hZ (hw _ (List.mem_of_getElem? (i := 26) rfl)) (hw _ (List.mem_of_getElem? (i := 7) rfl)) (by decide) (by decide)) q61a q61c (g := (mkF m 69 #[.val (.int i0), .val (.int (7 : Int32)), .val (.ref a1), .val (.ref sNOT_NULL), .val (.int (0 : Int32)), .unset] [(.ref sNOT_NULL)])) rfl (by rw [hml]; rfl) (Steps.refl _) (argsL := []) (rest := []) (lenOf pd_2 rfl) rfl (by show 2 * 0 + _ ≤ _; exact Nat.le_of_eq rfl) (hb hby at_69) (fun _ _ => ⟨rfl, eh60, (by decide : 1 + 0 ≤ _), (by decide : 10 + 0 ≤ _)⟩)
    dsimp only [Pt.U, Pt.locs, Pt.cells, Pt.slots] at X61 l61 y61 z61 st61 hQ61
    subst l61 y61 z61
    obtain ⟨rfl, N61q, eh61⟩ := hQ61
    have N61 := Fr.app N60 N61q
    refine oSt st61 ?_
    show oGl p e below (T61.setTop (mkF m 72 #[.val (.int i0), .val (.int (7 : Int32)), .val (.ref a1), .val (.ref sNOT_NULL), .val (.int (0 : Int32)), .unset] [(.ref sIS_NULL)])) _
    have hz62 : n0 ≤ h21.size := by omega
    obtain ⟨cq62, kq62, q62a, q62b, q62c⟩ := isOf hZ eh61 (EsIS_NULL.ext f58.2)
    obtain ⟨_, _, ⟨T62, L62, k62, n62⟩, -, X62, ⟨Lc62, hQ62, l62, y62, z62⟩, st62⟩ := X61.virtualBack hx (y := (⟨"com/example/moraine/moraine/model/Expression$Operator", "literals", "()I"⟩ : MethodName)) (z := (⟨"com/example/moraine/moraine/model/Expression$Operator", "literals", "()I"⟩ : MethodName)) hown (mvT hZ (hw _ (List.mem_of_getElem? (i := 9) rfl))) (mvT hZ (hw _ (List.mem_of_getElem? (i := 10) rfl))) (notFace_of_selects (args := #[]) (mvT hZ (hw _ (List.mem_of_getElem? (i := 12) rfl)))) (mvT hZ (hw _ (List.mem_of_getElem? (i := 12) rfl))) (mvT hZ (hw _ (List.mem_of_getElem? (i := 11) rfl))) (by decide) (backOf (W := 0) (rmLit_IS_NULL l Z a0 hw [] sEQ sIS_NULL sNOT_NULL sIN sNOT_IN sNE sLE sGT sLT sGE h21 n0 hz62 f58 SsEQ EsEQ FsEQ SsIS_NULL EsIS_NULL FsIS_NULL SsNOT_NULL EsNOT_NULL FsNOT_NULL SsIN EsIN FsIN SsNOT_IN EsNOT_IN FsNOT_IN SsNE EsNE FsNE SsLE EsLE FsLE SsGT EsGT FsGT SsLT EsLT FsLT SsGE EsGE FsGE) hZ (hw _ (List.mem_of_getElem? (i := 13) rfl)) (hw _ (List.mem_of_getElem? (i := 7) rfl)) (by decide) (by decide)) q62a q62c (g := (mkF m 72 #[.val (.int i0), .val (.int (7 : Int32)), .val (.ref a1), .val (.ref sNOT_NULL), .val (.int (0 : Int32)), .unset] [(.ref sIS_NULL)])) rfl (by rw [hml]; rfl) (Steps.refl _) (argsL := []) (rest := []) (lenOf pd_0 rfl) rfl (by show 2 * 0 + _ ≤ _; exact Nat.le_of_eq rfl) (hb hby at_72) (fun _ _ => ⟨rfl, eh61, (by decide : 1 + 0 ≤ _), (by decide : 10 + 0 ≤ _)⟩)
    dsimp only [Pt.U, Pt.locs, Pt.cells, Pt.slots] at X62 l62 y62 z62 st62 hQ62
    subst l62 y62 z62
    obtain ⟨rfl, N62q, eh62⟩ := hQ62
    have N62 := Fr.app N61 N62q
    refine oSt st62 ?_
    show oGl p e below (T62.setTop (mkF m 75 #[.val (.int i0), .val (.int (7 : Int32)), .val (.ref a1), .val (.ref sNOT_NULL), .val (.int (0 : Int32)), .unset] [(.int (0 : Int32))])) _
    refine sistore X62 hx (hb hby at_75) rfl rfl (l' := #[.val (.int i0), .val (.int (7 : Int32)), .val (.ref a1), .val (.ref sNOT_NULL), .val (.int (0 : Int32)), .val (.int (0 : Int32))]) (pc' := 77) ?_
    refine siload X62 hx (hb hby at_77) rfl rfl (pc' := 79) ?_
    refine saloadN X62 hx (hb hby at_79) rfl rfl rfl (pc' := 80) ?_
    refine siloadN X62 hx (hb hby at_80) rfl rfl (pc' := 81) ?_
    refine oOn (V21.ldI X62 hx hZ eh62 (j := (7 : Int32)) (by decide) (g := (mkF m 81 #[.val (.int i0), .val (.int (7 : Int32)), .val (.ref a1), .val (.ref sNOT_NULL), .val (.int (0 : Int32)), .val (.int (0 : Int32))] [(.int (7 : Int32)), (.ref a1), (.int (0 : Int32))])) rfl rfl (hb hby at_81)) ?_
    show oGl p e below (T62.setTop (mkF m 82 #[.val (.int i0), .val (.int (7 : Int32)), .val (.ref a1), .val (.ref sNOT_NULL), .val (.int (0 : Int32)), .val (.int (0 : Int32))] [(.int ((oUp (oUp (oUp (oUp (oUp (oUp (oUp (oUp (oUp (oUp (fun _ => 0) 0 (1 : Int32)) 1 (1 : Int32)) 2 (1 : Int32)) 3 (1 : Int32)) 4 (1 : Int32)) 5 (1 : Int32)) 6 (0 : Int32)) 7 (0 : Int32)) 8 (-1 : Int32)) 9 (-1 : Int32)) 7)), (.int (0 : Int32))])) _
    refine sicN X62 hx (hb hby at_82) rfl (teq (rfl : (0 : Int32) = ((oUp (oUp (oUp (oUp (oUp (oUp (oUp (oUp (oUp (oUp (fun _ => 0) 0 (1 : Int32)) 1 (1 : Int32)) 2 (1 : Int32)) 3 (1 : Int32)) 4 (1 : Int32)) 5 (1 : Int32)) 6 (0 : Int32)) 7 (0 : Int32)) 8 (-1 : Int32)) 9 (-1 : Int32)) 7))).2 (pc' := 85) ?_
    refine siload X62 hx (hb hby at_85) rfl rfl (pc' := 87) ?_
    refine siload X62 hx (hb hby at_87) rfl rfl (pc' := 89) ?_
    refine sicN X62 hx (hb hby at_89) rfl (teq (by decide : (0 : Int32) = (0 : Int32))).2 (pc' := 92) ?_
    refine siconst X62 hx (hb hby at_92) rfl rfl (z := 1) (pc' := 93) ?_
    refine sgoto X62 hx (hb hby at_93) (by decide) (by decide)  (pc' := 97) ?_
    refine oRetN (t := .boolean) X62 hx Bd.notSynchronized Bd.returns (by simp) (hb hby at_97) (by decide) (by decide) ?_
    show Q_rmL Z i0 sEQ sIS_NULL sNOT_NULL sIN sNOT_IN sNE sLE sGT sLT sGE h0 n0 _ T62.heap _
    rw [eh62]
    exact ⟨rfl, N62⟩
  · skip
    show oGl p e below (T21.setTop (mkF m 57 #[.val (.int i0), .val (.int (8 : Int32)), .val (.ref a1), .unset, .unset, .unset] [])) _
    refine siloadN X21 hx (hb hby at_57) rfl rfl (pc' := 58) ?_
    have f63 := (((((((((((O0.ext E1).wr W3 (by omega)).wr W5 (by omega)).wr W7 (by omega)).wr W9 (by omega)).wr W11 (by omega)).wr W13 (by omega)).wr W15 (by omega)).wr W17 (by omega)).wr W19 (by omega)).wr W21 (by omega))
    have hz64 : n0 ≤ h21.size := by omega
    obtain ⟨_, _, ⟨T64, L64, k64, n64⟩, -, X64, ⟨Lc64, hQ64, l64, y64, z64⟩, st64⟩ := Jvm.LawKit.callS X21 hx (y := (⟨"com/example/moraine/moraine/model/OperatorLiteralsPinLaw", "pick", "(I)Lcom/example/moraine/moraine/model/Expression$Operator;"⟩ : MethodName)) hown (mvT hZ (hw _ (List.mem_of_getElem? (i := 2) rfl))) (mvT hZ (hw _ (List.mem_of_getElem? (i := 3) rfl))) (mvT hZ (hw _ (List.mem_of_getElem? (i := 4) rfl))) (mvT hZ (hw _ (List.mem_of_getElem? (i := 5) rfl))) (by decide) (backOf (W := 0) (rmP8 l Z a0 hw [] sEQ sIS_NULL sNOT_NULL sIN sNOT_IN sNE sLE sGT sLT sGE h21 n0 hz64 f63 SsEQ EsEQ FsEQ SsIS_NULL EsIS_NULL FsIS_NULL SsNOT_NULL EsNOT_NULL FsNOT_NULL SsIN EsIN FsIN SsNOT_IN EsNOT_IN FsNOT_IN SsNE EsNE FsNE SsLE EsLE FsLE SsGT EsGT FsGT SsLT EsLT FsLT SsGE EsGE FsGE) hZ (hw _ (List.mem_of_getElem? (i := 5) rfl)) (hw _ (List.mem_of_getElem? (i := 4) rfl)) (by decide) (by decide)) (g := (mkF m 58 #[.val (.int i0), .val (.int (8 : Int32)), .val (.ref a1), .unset, .unset, .unset] [(.int (8 : Int32))])) rfl (by rw [hml]; rfl) (argsL := [(.int (8 : Int32))]) (rest := []) (lenOf pd_1 rfl) rfl (by show 2 * 0 + _ ≤ _; exact Nat.le_of_eq rfl) (hb hby at_58) (fun _ _ => ⟨rfl, e21, (by decide : 1 + 0 ≤ _), (by decide : 10 + 0 ≤ _)⟩)
    dsimp only [Pt.U, Pt.locs, Pt.cells, Pt.slots] at X64 l64 y64 z64 st64 hQ64
    subst l64 y64 z64
    obtain ⟨rfl, N64q, eh64⟩ := hQ64
    have N64 := Fr.app N21 N64q
    refine oOn st64 ?_
    show oGl p e below (T64.setTop (mkF m 61 #[.val (.int i0), .val (.int (8 : Int32)), .val (.ref a1), .unset, .unset, .unset] [(.ref sIN)])) _
    refine sastoreN X64 hx (hb hby at_61) rfl rfl rfl (l' := #[.val (.int i0), .val (.int (8 : Int32)), .val (.ref a1), .val (.ref sIN), .unset, .unset]) (pc' := 62) ?_
    refine saloadN X64 hx (hb hby at_62) rfl rfl rfl (pc' := 63) ?_
    have hz65 : n0 ≤ h21.size := by omega
    obtain ⟨cq65, kq65, q65a, q65b, q65c⟩ := isOf hZ eh64 (EsIN.ext f63.2)
    obtain ⟨_, _, ⟨T65, L65, k65, n65⟩, -, X65, ⟨Lc65, hQ65, l65, y65, z65⟩, st65⟩ := X64.virtualBack hx (y := (⟨"com/example/moraine/moraine/model/Expression$Operator", "literals", "()I"⟩ : MethodName)) (z := (⟨"com/example/moraine/moraine/model/Expression$Operator", "literals", "()I"⟩ : MethodName)) hown (mvT hZ (hw _ (List.mem_of_getElem? (i := 9) rfl))) (mvT hZ (hw _ (List.mem_of_getElem? (i := 10) rfl))) (notFace_of_selects (args := #[]) (mvT hZ (hw _ (List.mem_of_getElem? (i := 12) rfl)))) (mvT hZ (hw _ (List.mem_of_getElem? (i := 12) rfl))) (mvT hZ (hw _ (List.mem_of_getElem? (i := 11) rfl))) (by decide) (backOf (W := 0) (rmLit_IN l Z a0 hw [] sEQ sIS_NULL sNOT_NULL sIN sNOT_IN sNE sLE sGT sLT sGE h21 n0 hz65 f63 SsEQ EsEQ FsEQ SsIS_NULL EsIS_NULL FsIS_NULL SsNOT_NULL EsNOT_NULL FsNOT_NULL SsIN EsIN FsIN SsNOT_IN EsNOT_IN FsNOT_IN SsNE EsNE FsNE SsLE EsLE FsLE SsGT EsGT FsGT SsLT EsLT FsLT SsGE EsGE FsGE) hZ (hw _ (List.mem_of_getElem? (i := 13) rfl)) (hw _ (List.mem_of_getElem? (i := 7) rfl)) (by decide) (by decide)) q65a q65c (g := (mkF m 63 #[.val (.int i0), .val (.int (8 : Int32)), .val (.ref a1), .val (.ref sIN), .unset, .unset] [(.ref sIN)])) rfl (by rw [hml]; rfl) (Steps.refl _) (argsL := []) (rest := []) (lenOf pd_0 rfl) rfl (by show 2 * 0 + _ ≤ _; exact Nat.le_of_eq rfl) (hb hby at_63) (fun _ _ => ⟨rfl, eh64, (by decide : 1 + 0 ≤ _), (by decide : 10 + 0 ≤ _)⟩)
    dsimp only [Pt.U, Pt.locs, Pt.cells, Pt.slots] at X65 l65 y65 z65 st65 hQ65
    subst l65 y65 z65
    obtain ⟨rfl, N65q, eh65⟩ := hQ65
    have N65 := Fr.app N64 N65q
    refine oSt st65 ?_
    show oGl p e below (T65.setTop (mkF m 66 #[.val (.int i0), .val (.int (8 : Int32)), .val (.ref a1), .val (.ref sIN), .unset, .unset] [(.int (-1 : Int32))])) _
    refine sistore X65 hx (hb hby at_66) rfl rfl (l' := #[.val (.int i0), .val (.int (8 : Int32)), .val (.ref a1), .val (.ref sIN), .val (.int (-1 : Int32)), .unset]) (pc' := 68) ?_
    refine saloadN X65 hx (hb hby at_68) rfl rfl rfl (pc' := 69) ?_
    have hz66 : n0 ≤ h21.size := by omega
    obtain ⟨cq66, kq66, q66a, q66b, q66c⟩ := isOf hZ eh65 (EsIN.ext f63.2)
    obtain ⟨_, _, ⟨T66, L66, k66, n66⟩, -, X66, ⟨Lc66, hQ66, l66, y66, z66⟩, st66⟩ := X65.virtualBack hx (y := (⟨"com/example/moraine/moraine/model/Expression$Operator", "negation", "()Lcom/example/moraine/moraine/model/Expression$Operator;"⟩ : MethodName)) (z := (⟨"com/example/moraine/moraine/model/Expression$Operator", "negation", "()Lcom/example/moraine/moraine/model/Expression$Operator;"⟩ : MethodName)) hown (mvT hZ (hw _ (List.mem_of_getElem? (i := 22) rfl))) (mvT hZ (hw _ (List.mem_of_getElem? (i := 23) rfl))) (notFace_of_selects (args := #[]) (mvT hZ (hw _ (List.mem_of_getElem? (i := 25) rfl)))) (mvT hZ (hw _ (List.mem_of_getElem? (i := 25) rfl))) (mvT hZ (hw _ (List.mem_of_getElem? (i := 24) rfl))) (by decide) (backOf (W := 0) (rmNeg_IN l Z a0 hw [] sEQ sIS_NULL sNOT_NULL sIN sNOT_IN sNE sLE sGT sLT sGE h21 n0 hz66 f63 SsEQ EsEQ FsEQ SsIS_NULL EsIS_NULL FsIS_NULL SsNOT_NULL EsNOT_NULL FsNOT_NULL SsIN EsIN FsIN SsNOT_IN EsNOT_IN FsNOT_IN SsNE EsNE FsNE SsLE EsLE FsLE SsGT EsGT FsGT SsLT EsLT FsLT SsGE EsGE FsGE) hZ (hw _ (List.mem_of_getElem? (i := 26) rfl)) (hw _ (List.mem_of_getElem? (i := 7) rfl)) (by decide) (by decide)) q66a q66c (g := (mkF m 69 #[.val (.int i0), .val (.int (8 : Int32)), .val (.ref a1), .val (.ref sIN), .val (.int (-1 : Int32)), .unset] [(.ref sIN)])) rfl (by rw [hml]; rfl) (Steps.refl _) (argsL := []) (rest := []) (lenOf pd_2 rfl) rfl (by show 2 * 0 + _ ≤ _; exact Nat.le_of_eq rfl) (hb hby at_69) (fun _ _ => ⟨rfl, eh65, (by decide : 1 + 0 ≤ _), (by decide : 10 + 0 ≤ _)⟩)
    dsimp only [Pt.U, Pt.locs, Pt.cells, Pt.slots] at X66 l66 y66 z66 st66 hQ66
    subst l66 y66 z66
    obtain ⟨rfl, N66q, eh66⟩ := hQ66
    have N66 := Fr.app N65 N66q
    refine oSt st66 ?_
    show oGl p e below (T66.setTop (mkF m 72 #[.val (.int i0), .val (.int (8 : Int32)), .val (.ref a1), .val (.ref sIN), .val (.int (-1 : Int32)), .unset] [(.ref sNOT_IN)])) _
    have hz67 : n0 ≤ h21.size := by omega
    obtain ⟨cq67, kq67, q67a, q67b, q67c⟩ := isOf hZ eh66 (EsNOT_IN.ext f63.2)
    obtain ⟨_, _, ⟨T67, L67, k67, n67⟩, -, X67, ⟨Lc67, hQ67, l67, y67, z67⟩, st67⟩ := X66.virtualBack hx (y := (⟨"com/example/moraine/moraine/model/Expression$Operator", "literals", "()I"⟩ : MethodName)) (z := (⟨"com/example/moraine/moraine/model/Expression$Operator", "literals", "()I"⟩ : MethodName)) hown (mvT hZ (hw _ (List.mem_of_getElem? (i := 9) rfl))) (mvT hZ (hw _ (List.mem_of_getElem? (i := 10) rfl))) (notFace_of_selects (args := #[]) (mvT hZ (hw _ (List.mem_of_getElem? (i := 12) rfl)))) (mvT hZ (hw _ (List.mem_of_getElem? (i := 12) rfl))) (mvT hZ (hw _ (List.mem_of_getElem? (i := 11) rfl))) (by decide) (backOf (W := 0) (rmLit_NOT_IN l Z a0 hw [] sEQ sIS_NULL sNOT_NULL sIN sNOT_IN sNE sLE sGT sLT sGE h21 n0 hz67 f63 SsEQ EsEQ FsEQ SsIS_NULL EsIS_NULL FsIS_NULL SsNOT_NULL EsNOT_NULL FsNOT_NULL SsIN EsIN FsIN SsNOT_IN EsNOT_IN FsNOT_IN SsNE EsNE FsNE SsLE EsLE FsLE SsGT EsGT FsGT SsLT EsLT FsLT SsGE EsGE FsGE) hZ (hw _ (List.mem_of_getElem? (i := 13) rfl)) (hw _ (List.mem_of_getElem? (i := 7) rfl)) (by decide) (by decide)) q67a q67c (g := (mkF m 72 #[.val (.int i0), .val (.int (8 : Int32)), .val (.ref a1), .val (.ref sIN), .val (.int (-1 : Int32)), .unset] [(.ref sNOT_IN)])) rfl (by rw [hml]; rfl) (Steps.refl _) (argsL := []) (rest := []) (lenOf pd_0 rfl) rfl (by show 2 * 0 + _ ≤ _; exact Nat.le_of_eq rfl) (hb hby at_72) (fun _ _ => ⟨rfl, eh66, (by decide : 1 + 0 ≤ _), (by decide : 10 + 0 ≤ _)⟩)
    dsimp only [Pt.U, Pt.locs, Pt.cells, Pt.slots] at X67 l67 y67 z67 st67 hQ67
    subst l67 y67 z67
    obtain ⟨rfl, N67q, eh67⟩ := hQ67
    have N67 := Fr.app N66 N67q
    refine oSt st67 ?_
    show oGl p e below (T67.setTop (mkF m 75 #[.val (.int i0), .val (.int (8 : Int32)), .val (.ref a1), .val (.ref sIN), .val (.int (-1 : Int32)), .unset] [(.int (-1 : Int32))])) _
    refine sistore X67 hx (hb hby at_75) rfl rfl (l' := #[.val (.int i0), .val (.int (8 : Int32)), .val (.ref a1), .val (.ref sIN), .val (.int (-1 : Int32)), .val (.int (-1 : Int32))]) (pc' := 77) ?_
    refine siload X67 hx (hb hby at_77) rfl rfl (pc' := 79) ?_
    refine saloadN X67 hx (hb hby at_79) rfl rfl rfl (pc' := 80) ?_
    refine siloadN X67 hx (hb hby at_80) rfl rfl (pc' := 81) ?_
    refine oOn (V21.ldI X67 hx hZ eh67 (j := (8 : Int32)) (by decide) (g := (mkF m 81 #[.val (.int i0), .val (.int (8 : Int32)), .val (.ref a1), .val (.ref sIN), .val (.int (-1 : Int32)), .val (.int (-1 : Int32))] [(.int (8 : Int32)), (.ref a1), (.int (-1 : Int32))])) rfl rfl (hb hby at_81)) ?_
    show oGl p e below (T67.setTop (mkF m 82 #[.val (.int i0), .val (.int (8 : Int32)), .val (.ref a1), .val (.ref sIN), .val (.int (-1 : Int32)), .val (.int (-1 : Int32))] [(.int ((oUp (oUp (oUp (oUp (oUp (oUp (oUp (oUp (oUp (oUp (fun _ => 0) 0 (1 : Int32)) 1 (1 : Int32)) 2 (1 : Int32)) 3 (1 : Int32)) 4 (1 : Int32)) 5 (1 : Int32)) 6 (0 : Int32)) 7 (0 : Int32)) 8 (-1 : Int32)) 9 (-1 : Int32)) 8)), (.int (-1 : Int32))])) _
    refine sicN X67 hx (hb hby at_82) rfl (teq (rfl : (-1 : Int32) = ((oUp (oUp (oUp (oUp (oUp (oUp (oUp (oUp (oUp (oUp (fun _ => 0) 0 (1 : Int32)) 1 (1 : Int32)) 2 (1 : Int32)) 3 (1 : Int32)) 4 (1 : Int32)) 5 (1 : Int32)) 6 (0 : Int32)) 7 (0 : Int32)) 8 (-1 : Int32)) 9 (-1 : Int32)) 8))).2 (pc' := 85) ?_
    refine siload X67 hx (hb hby at_85) rfl rfl (pc' := 87) ?_
    refine siload X67 hx (hb hby at_87) rfl rfl (pc' := 89) ?_
    refine sicN X67 hx (hb hby at_89) rfl (teq (by decide : (-1 : Int32) = (-1 : Int32))).2 (pc' := 92) ?_
    refine siconst X67 hx (hb hby at_92) rfl rfl (z := 1) (pc' := 93) ?_
    refine sgoto X67 hx (hb hby at_93) (by decide) (by decide)  (pc' := 97) ?_
    refine oRetN (t := .boolean) X67 hx Bd.notSynchronized Bd.returns (by simp) (hb hby at_97) (by decide) (by decide) ?_
    show Q_rmL Z i0 sEQ sIS_NULL sNOT_NULL sIN sNOT_IN sNE sLE sGT sLT sGE h0 n0 _ T67.heap _
    rw [eh67]
    exact ⟨rfl, N67⟩
  · skip
    show oGl p e below (T21.setTop (mkF m 57 #[.val (.int i0), .val (.int (9 : Int32)), .val (.ref a1), .unset, .unset, .unset] [])) _
    refine siloadN X21 hx (hb hby at_57) rfl rfl (pc' := 58) ?_
    have f68 := (((((((((((O0.ext E1).wr W3 (by omega)).wr W5 (by omega)).wr W7 (by omega)).wr W9 (by omega)).wr W11 (by omega)).wr W13 (by omega)).wr W15 (by omega)).wr W17 (by omega)).wr W19 (by omega)).wr W21 (by omega))
    have hz69 : n0 ≤ h21.size := by omega
    obtain ⟨_, _, ⟨T69, L69, k69, n69⟩, -, X69, ⟨Lc69, hQ69, l69, y69, z69⟩, st69⟩ := Jvm.LawKit.callS X21 hx (y := (⟨"com/example/moraine/moraine/model/OperatorLiteralsPinLaw", "pick", "(I)Lcom/example/moraine/moraine/model/Expression$Operator;"⟩ : MethodName)) hown (mvT hZ (hw _ (List.mem_of_getElem? (i := 2) rfl))) (mvT hZ (hw _ (List.mem_of_getElem? (i := 3) rfl))) (mvT hZ (hw _ (List.mem_of_getElem? (i := 4) rfl))) (mvT hZ (hw _ (List.mem_of_getElem? (i := 5) rfl))) (by decide) (backOf (W := 0) (rmP9 l Z a0 hw [] sEQ sIS_NULL sNOT_NULL sIN sNOT_IN sNE sLE sGT sLT sGE h21 n0 hz69 f68 SsEQ EsEQ FsEQ SsIS_NULL EsIS_NULL FsIS_NULL SsNOT_NULL EsNOT_NULL FsNOT_NULL SsIN EsIN FsIN SsNOT_IN EsNOT_IN FsNOT_IN SsNE EsNE FsNE SsLE EsLE FsLE SsGT EsGT FsGT SsLT EsLT FsLT SsGE EsGE FsGE) hZ (hw _ (List.mem_of_getElem? (i := 5) rfl)) (hw _ (List.mem_of_getElem? (i := 4) rfl)) (by decide) (by decide)) (g := (mkF m 58 #[.val (.int i0), .val (.int (9 : Int32)), .val (.ref a1), .unset, .unset, .unset] [(.int (9 : Int32))])) rfl (by rw [hml]; rfl) (argsL := [(.int (9 : Int32))]) (rest := []) (lenOf pd_1 rfl) rfl (by show 2 * 0 + _ ≤ _; exact Nat.le_of_eq rfl) (hb hby at_58) (fun _ _ => ⟨rfl, e21, (by decide : 1 + 0 ≤ _), (by decide : 10 + 0 ≤ _)⟩)
    dsimp only [Pt.U, Pt.locs, Pt.cells, Pt.slots] at X69 l69 y69 z69 st69 hQ69
    subst l69 y69 z69
    obtain ⟨rfl, N69q, eh69⟩ := hQ69
    have N69 := Fr.app N21 N69q
    refine oOn st69 ?_
    show oGl p e below (T69.setTop (mkF m 61 #[.val (.int i0), .val (.int (9 : Int32)), .val (.ref a1), .unset, .unset, .unset] [(.ref sNOT_IN)])) _
    refine sastoreN X69 hx (hb hby at_61) rfl rfl rfl (l' := #[.val (.int i0), .val (.int (9 : Int32)), .val (.ref a1), .val (.ref sNOT_IN), .unset, .unset]) (pc' := 62) ?_
    refine saloadN X69 hx (hb hby at_62) rfl rfl rfl (pc' := 63) ?_
    have hz70 : n0 ≤ h21.size := by omega
    obtain ⟨cq70, kq70, q70a, q70b, q70c⟩ := isOf hZ eh69 (EsNOT_IN.ext f68.2)
    obtain ⟨_, _, ⟨T70, L70, k70, n70⟩, -, X70, ⟨Lc70, hQ70, l70, y70, z70⟩, st70⟩ := X69.virtualBack hx (y := (⟨"com/example/moraine/moraine/model/Expression$Operator", "literals", "()I"⟩ : MethodName)) (z := (⟨"com/example/moraine/moraine/model/Expression$Operator", "literals", "()I"⟩ : MethodName)) hown (mvT hZ (hw _ (List.mem_of_getElem? (i := 9) rfl))) (mvT hZ (hw _ (List.mem_of_getElem? (i := 10) rfl))) (notFace_of_selects (args := #[]) (mvT hZ (hw _ (List.mem_of_getElem? (i := 12) rfl)))) (mvT hZ (hw _ (List.mem_of_getElem? (i := 12) rfl))) (mvT hZ (hw _ (List.mem_of_getElem? (i := 11) rfl))) (by decide) (backOf (W := 0) (rmLit_NOT_IN l Z a0 hw [] sEQ sIS_NULL sNOT_NULL sIN sNOT_IN sNE sLE sGT sLT sGE h21 n0 hz70 f68 SsEQ EsEQ FsEQ SsIS_NULL EsIS_NULL FsIS_NULL SsNOT_NULL EsNOT_NULL FsNOT_NULL SsIN EsIN FsIN SsNOT_IN EsNOT_IN FsNOT_IN SsNE EsNE FsNE SsLE EsLE FsLE SsGT EsGT FsGT SsLT EsLT FsLT SsGE EsGE FsGE) hZ (hw _ (List.mem_of_getElem? (i := 13) rfl)) (hw _ (List.mem_of_getElem? (i := 7) rfl)) (by decide) (by decide)) q70a q70c (g := (mkF m 63 #[.val (.int i0), .val (.int (9 : Int32)), .val (.ref a1), .val (.ref sNOT_IN), .unset, .unset] [(.ref sNOT_IN)])) rfl (by rw [hml]; rfl) (Steps.refl _) (argsL := []) (rest := []) (lenOf pd_0 rfl) rfl (by show 2 * 0 + _ ≤ _; exact Nat.le_of_eq rfl) (hb hby at_63) (fun _ _ => ⟨rfl, eh69, (by decide : 1 + 0 ≤ _), (by decide : 10 + 0 ≤ _)⟩)
    dsimp only [Pt.U, Pt.locs, Pt.cells, Pt.slots] at X70 l70 y70 z70 st70 hQ70
    subst l70 y70 z70
    obtain ⟨rfl, N70q, eh70⟩ := hQ70
    have N70 := Fr.app N69 N70q
    refine oSt st70 ?_
    show oGl p e below (T70.setTop (mkF m 66 #[.val (.int i0), .val (.int (9 : Int32)), .val (.ref a1), .val (.ref sNOT_IN), .unset, .unset] [(.int (-1 : Int32))])) _
    refine sistore X70 hx (hb hby at_66) rfl rfl (l' := #[.val (.int i0), .val (.int (9 : Int32)), .val (.ref a1), .val (.ref sNOT_IN), .val (.int (-1 : Int32)), .unset]) (pc' := 68) ?_
    refine saloadN X70 hx (hb hby at_68) rfl rfl rfl (pc' := 69) ?_
    have hz71 : n0 ≤ h21.size := by omega
    obtain ⟨cq71, kq71, q71a, q71b, q71c⟩ := isOf hZ eh70 (EsNOT_IN.ext f68.2)
    obtain ⟨_, _, ⟨T71, L71, k71, n71⟩, -, X71, ⟨Lc71, hQ71, l71, y71, z71⟩, st71⟩ := X70.virtualBack hx (y := (⟨"com/example/moraine/moraine/model/Expression$Operator", "negation", "()Lcom/example/moraine/moraine/model/Expression$Operator;"⟩ : MethodName)) (z := (⟨"com/example/moraine/moraine/model/Expression$Operator", "negation", "()Lcom/example/moraine/moraine/model/Expression$Operator;"⟩ : MethodName)) hown (mvT hZ (hw _ (List.mem_of_getElem? (i := 22) rfl))) (mvT hZ (hw _ (List.mem_of_getElem? (i := 23) rfl))) (notFace_of_selects (args := #[]) (mvT hZ (hw _ (List.mem_of_getElem? (i := 25) rfl)))) (mvT hZ (hw _ (List.mem_of_getElem? (i := 25) rfl))) (mvT hZ (hw _ (List.mem_of_getElem? (i := 24) rfl))) (by decide) (backOf (W := 0) (rmNeg_NOT_IN l Z a0 hw [] sEQ sIS_NULL sNOT_NULL sIN sNOT_IN sNE sLE sGT sLT sGE h21 n0 hz71 f68 SsEQ EsEQ FsEQ SsIS_NULL EsIS_NULL FsIS_NULL SsNOT_NULL EsNOT_NULL FsNOT_NULL SsIN EsIN FsIN SsNOT_IN EsNOT_IN FsNOT_IN SsNE EsNE FsNE SsLE EsLE FsLE SsGT EsGT FsGT SsLT EsLT FsLT SsGE EsGE FsGE) hZ (hw _ (List.mem_of_getElem? (i := 26) rfl)) (hw _ (List.mem_of_getElem? (i := 7) rfl)) (by decide) (by decide)) q71a q71c (g := (mkF m 69 #[.val (.int i0), .val (.int (9 : Int32)), .val (.ref a1), .val (.ref sNOT_IN), .val (.int (-1 : Int32)), .unset] [(.ref sNOT_IN)])) rfl (by rw [hml]; rfl) (Steps.refl _) (argsL := []) (rest := []) (lenOf pd_2 rfl) rfl (by show 2 * 0 + _ ≤ _; exact Nat.le_of_eq rfl) (hb hby at_69) (fun _ _ => ⟨rfl, eh70, (by decide : 1 + 0 ≤ _), (by decide : 10 + 0 ≤ _)⟩)
    dsimp only [Pt.U, Pt.locs, Pt.cells, Pt.slots] at X71 l71 y71 z71 st71 hQ71
    subst l71 y71 z71
    obtain ⟨rfl, N71q, eh71⟩ := hQ71
    have N71 := Fr.app N70 N71q
    refine oSt st71 ?_
    show oGl p e below (T71.setTop (mkF m 72 #[.val (.int i0), .val (.int (9 : Int32)), .val (.ref a1), .val (.ref sNOT_IN), .val (.int (-1 : Int32)), .unset] [(.ref sIN)])) _
    have hz72 : n0 ≤ h21.size := by omega
    obtain ⟨cq72, kq72, q72a, q72b, q72c⟩ := isOf hZ eh71 (EsIN.ext f68.2)
    obtain ⟨_, _, ⟨T72, L72, k72, n72⟩, -, X72, ⟨Lc72, hQ72, l72, y72, z72⟩, st72⟩ := X71.virtualBack hx (y := (⟨"com/example/moraine/moraine/model/Expression$Operator", "literals", "()I"⟩ : MethodName)) (z := (⟨"com/example/moraine/moraine/model/Expression$Operator", "literals", "()I"⟩ : MethodName)) hown (mvT hZ (hw _ (List.mem_of_getElem? (i := 9) rfl))) (mvT hZ (hw _ (List.mem_of_getElem? (i := 10) rfl))) (notFace_of_selects (args := #[]) (mvT hZ (hw _ (List.mem_of_getElem? (i := 12) rfl)))) (mvT hZ (hw _ (List.mem_of_getElem? (i := 12) rfl))) (mvT hZ (hw _ (List.mem_of_getElem? (i := 11) rfl))) (by decide) (backOf (W := 0) (rmLit_IN l Z a0 hw [] sEQ sIS_NULL sNOT_NULL sIN sNOT_IN sNE sLE sGT sLT sGE h21 n0 hz72 f68 SsEQ EsEQ FsEQ SsIS_NULL EsIS_NULL FsIS_NULL SsNOT_NULL EsNOT_NULL FsNOT_NULL SsIN EsIN FsIN SsNOT_IN EsNOT_IN FsNOT_IN SsNE EsNE FsNE SsLE EsLE FsLE SsGT EsGT FsGT SsLT EsLT FsLT SsGE EsGE FsGE) hZ (hw _ (List.mem_of_getElem? (i := 13) rfl)) (hw _ (List.mem_of_getElem? (i := 7) rfl)) (by decide) (by decide)) q72a q72c (g := (mkF m 72 #[.val (.int i0), .val (.int (9 : Int32)), .val (.ref a1), .val (.ref sNOT_IN), .val (.int (-1 : Int32)), .unset] [(.ref sIN)])) rfl (by rw [hml]; rfl) (Steps.refl _) (argsL := []) (rest := []) (lenOf pd_0 rfl) rfl (by show 2 * 0 + _ ≤ _; exact Nat.le_of_eq rfl) (hb hby at_72) (fun _ _ => ⟨rfl, eh71, (by decide : 1 + 0 ≤ _), (by decide : 10 + 0 ≤ _)⟩)
    dsimp only [Pt.U, Pt.locs, Pt.cells, Pt.slots] at X72 l72 y72 z72 st72 hQ72
    subst l72 y72 z72
    obtain ⟨rfl, N72q, eh72⟩ := hQ72
    have N72 := Fr.app N71 N72q
    refine oSt st72 ?_
    show oGl p e below (T72.setTop (mkF m 75 #[.val (.int i0), .val (.int (9 : Int32)), .val (.ref a1), .val (.ref sNOT_IN), .val (.int (-1 : Int32)), .unset] [(.int (-1 : Int32))])) _
    refine sistore X72 hx (hb hby at_75) rfl rfl (l' := #[.val (.int i0), .val (.int (9 : Int32)), .val (.ref a1), .val (.ref sNOT_IN), .val (.int (-1 : Int32)), .val (.int (-1 : Int32))]) (pc' := 77) ?_
    refine siload X72 hx (hb hby at_77) rfl rfl (pc' := 79) ?_
    refine saloadN X72 hx (hb hby at_79) rfl rfl rfl (pc' := 80) ?_
    refine siloadN X72 hx (hb hby at_80) rfl rfl (pc' := 81) ?_
    refine oOn (V21.ldI X72 hx hZ eh72 (j := (9 : Int32)) (by decide) (g := (mkF m 81 #[.val (.int i0), .val (.int (9 : Int32)), .val (.ref a1), .val (.ref sNOT_IN), .val (.int (-1 : Int32)), .val (.int (-1 : Int32))] [(.int (9 : Int32)), (.ref a1), (.int (-1 : Int32))])) rfl rfl (hb hby at_81)) ?_
    show oGl p e below (T72.setTop (mkF m 82 #[.val (.int i0), .val (.int (9 : Int32)), .val (.ref a1), .val (.ref sNOT_IN), .val (.int (-1 : Int32)), .val (.int (-1 : Int32))] [(.int ((oUp (oUp (oUp (oUp (oUp (oUp (oUp (oUp (oUp (oUp (fun _ => 0) 0 (1 : Int32)) 1 (1 : Int32)) 2 (1 : Int32)) 3 (1 : Int32)) 4 (1 : Int32)) 5 (1 : Int32)) 6 (0 : Int32)) 7 (0 : Int32)) 8 (-1 : Int32)) 9 (-1 : Int32)) 9)), (.int (-1 : Int32))])) _
    refine sicN X72 hx (hb hby at_82) rfl (teq (rfl : (-1 : Int32) = ((oUp (oUp (oUp (oUp (oUp (oUp (oUp (oUp (oUp (oUp (fun _ => 0) 0 (1 : Int32)) 1 (1 : Int32)) 2 (1 : Int32)) 3 (1 : Int32)) 4 (1 : Int32)) 5 (1 : Int32)) 6 (0 : Int32)) 7 (0 : Int32)) 8 (-1 : Int32)) 9 (-1 : Int32)) 9))).2 (pc' := 85) ?_
    refine siload X72 hx (hb hby at_85) rfl rfl (pc' := 87) ?_
    refine siload X72 hx (hb hby at_87) rfl rfl (pc' := 89) ?_
    refine sicN X72 hx (hb hby at_89) rfl (teq (by decide : (-1 : Int32) = (-1 : Int32))).2 (pc' := 92) ?_
    refine siconst X72 hx (hb hby at_92) rfl rfl (z := 1) (pc' := 93) ?_
    refine sgoto X72 hx (hb hby at_93) (by decide) (by decide)  (pc' := 97) ?_
    refine oRetN (t := .boolean) X72 hx Bd.notSynchronized Bd.returns (by simp) (hb hby at_97) (by decide) (by decide) ?_
    show Q_rmL Z i0 sEQ sIS_NULL sNOT_NULL sIN sNOT_IN sNE sLE sGT sLT sGE h0 n0 _ T72.heap _
    rw [eh72]
    exact ⟨rfl, N72⟩
set_option maxRecDepth 65536 in
set_option maxHeartbeats 40000000 in
theorem comes_1 {Post : Tables → Env → Array Value → State → Outcome → State → Prop} (hpost : ∀ tb e args s v u, (limb_1_1.after args s (.returned v) u = true ∧ limb_1_2.after args s (.returned v) u = true ∧ True) → FrameEnd s (.returned v) u (Jvm.fieldLocs frame_1_writes args s ++ Jvm.arrayLocs frame_1_arrays args s ++ Jvm.staticLocs frame_1_statics s) 16 128 → Post tb e args s (.returned v) u) :
    ArmFor flags0 classFile x code maxLocals ret World_1 tables_1 room_1 Calls_1 rest_1 Pre_1 Post := by
  intro l hfl _ _ p e ha hc hk s m args below hf hA hF happ hP
  obtain ⟨hcalls, hrest, hpre⟩ := hP
  obtain ⟨-, -, -, hnamed, -, -, -, hat⟩ := (Spec.applies_iff hf).mp happ
  obtain ⟨hg, hn⟩ := oAnd (show (Jvm.Cond.and given_1 narrow_1).before args s = true from hpre)
  obtain ⟨gc, hg0⟩ := oAnd hg
  have ga0 := hg0
  obtain ⟨w0, rfl⟩ : ∃ w0 : Value, args = #[w0] := by
    have hs : args.size = 1 := by simpa [Cond.before, Cond.holds, Cond.value] using gc
    obtain ⟨L⟩ := args
    match L, hs with
    | [w0], _ => exact ⟨w0, rfl⟩
  obtain ⟨i0, rfl⟩ := oArgI ga0 rfl
  have hw := fun d (hd : d ∈ tables_1) => atoms_spec (ws := Jvm.Cond.code x code maxLocals ret :: tables_1) hat d (List.mem_cons_of_mem _ hd)
  have hfit : Fit s := fun {y c} hc i hi => by
    obtain ⟨ha, rfl⟩ := Array.getElem?_eq_some_iff.mp hc
    have q := List.all_eq_true.mp ((Array.all_eq_true_iff_forall_mem.mp hF) _ (Array.getElem_mem ha)) i (List.mem_range.mpr hi)
    simpa [Array.getElem?_eq_getElem hi] using q
  obtain ⟨nr0, hn0⟩ := oAnd hn
  obtain ⟨nr1, hn1⟩ := oAnd hn0
  obtain ⟨nr2, hn2⟩ := oAnd hn1
  obtain ⟨nr3, hn3⟩ := oAnd hn2
  obtain ⟨nr4, hn4⟩ := oAnd hn3
  obtain ⟨nr5, hn5⟩ := oAnd hn4
  obtain ⟨nr6, hn6⟩ := oAnd hn5
  obtain ⟨nr7, hn7⟩ := oAnd hn6
  obtain ⟨nr8, hn8⟩ := oAnd hn7
  obtain ⟨nr9, hn9⟩ := oAnd hn8
  obtain ⟨nr10, hn10⟩ := oAnd hn9
  obtain ⟨nr11, hn11⟩ := oAnd hn10
  obtain ⟨nr12, hn12⟩ := oAnd hn11
  obtain ⟨nr13, hn13⟩ := oAnd hn12
  obtain ⟨nr14, hn14⟩ := oAnd hn13
  obtain ⟨nr15, hn15⟩ := oAnd hn14
  obtain ⟨nr16, hn16⟩ := oAnd hn15
  obtain ⟨nr17, hn17⟩ := oAnd hn16
  obtain ⟨nr18, hn18⟩ := oAnd hn17
  have nr19 := hn18
  obtain ⟨sEQ, evsEQ, SsEQ, EsEQ⟩ := oStaR nr0 (hw _ (List.mem_of_getElem? (i := 7) rfl)) (hw _ (List.mem_of_getElem? (i := 8) rfl))
  have FsEQ := oFldI nr2 evsEQ
  obtain ⟨sIS_NULL, evsIS_NULL, SsIS_NULL, EsIS_NULL⟩ := oStaR nr1 (hw _ (List.mem_of_getElem? (i := 7) rfl)) (hw _ (List.mem_of_getElem? (i := 15) rfl))
  have FsIS_NULL := oFldI nr3 evsIS_NULL
  obtain ⟨sNOT_NULL, evsNOT_NULL, SsNOT_NULL, EsNOT_NULL⟩ := oStaR nr4 (hw _ (List.mem_of_getElem? (i := 7) rfl)) (hw _ (List.mem_of_getElem? (i := 17) rfl))
  have FsNOT_NULL := oFldI nr5 evsNOT_NULL
  obtain ⟨sIN, evsIN, SsIN, EsIN⟩ := oStaR nr6 (hw _ (List.mem_of_getElem? (i := 7) rfl)) (hw _ (List.mem_of_getElem? (i := 19) rfl))
  have FsIN := oFldI nr7 evsIN
  obtain ⟨sNOT_IN, evsNOT_IN, SsNOT_IN, EsNOT_IN⟩ := oStaR nr8 (hw _ (List.mem_of_getElem? (i := 7) rfl)) (hw _ (List.mem_of_getElem? (i := 21) rfl))
  have FsNOT_IN := oFldI nr9 evsNOT_IN
  obtain ⟨sNE, evsNE, SsNE, EsNE⟩ := oStaR nr10 (hw _ (List.mem_of_getElem? (i := 7) rfl)) (hw _ (List.mem_of_getElem? (i := 37) rfl))
  have FsNE := oFldI nr11 evsNE
  obtain ⟨sLE, evsLE, SsLE, EsLE⟩ := oStaR nr12 (hw _ (List.mem_of_getElem? (i := 7) rfl)) (hw _ (List.mem_of_getElem? (i := 39) rfl))
  have FsLE := oFldI nr13 evsLE
  obtain ⟨sGT, evsGT, SsGT, EsGT⟩ := oStaR nr14 (hw _ (List.mem_of_getElem? (i := 7) rfl)) (hw _ (List.mem_of_getElem? (i := 41) rfl))
  have FsGT := oFldI nr15 evsGT
  obtain ⟨sLT, evsLT, SsLT, EsLT⟩ := oStaR nr16 (hw _ (List.mem_of_getElem? (i := 7) rfl)) (hw _ (List.mem_of_getElem? (i := 48) rfl))
  have FsLT := oFldI nr17 evsLT
  obtain ⟨sGE, evsGE, SsGE, EsGE⟩ := oStaR nr18 (hw _ (List.mem_of_getElem? (i := 7) rfl)) (hw _ (List.mem_of_getElem? (i := 50) rfl))
  have FsGE := oFldI nr19 evsGE
  obtain ⟨n, o, h1, h2, h3, _, L, rfl, ⟨rfl, N⟩, hq⟩ := rmL l s _ hw tables_1 i0 sEQ sIS_NULL sNOT_NULL sIN sNOT_IN sNE sLE sGT sLT sGE s.heap s.heap.size (Nat.le_refl _) (Old.start s) SsEQ EsEQ FsEQ SsIS_NULL EsIS_NULL FsIS_NULL SsNOT_NULL EsNOT_NULL FsNOT_NULL SsIN EsIN FsIN SsNOT_IN EsNOT_IN FsNOT_IN SsNE EsNE FsNE SsLE EsLE FsLE SsGT EsGT FsGT SsLT EsLT FsLT SsGE EsGE FsGE  p e ha hc hk s m _ below hf ((Spec.applies_iff_loose hf).mp happ).1 ⟨rfl, State.Warmed39.refl s, rfl⟩ trivial
  refine ⟨n, _, h1, h2, h3, hpost _ _ _ _ _ _ ⟨Cond.after_iff.mpr rfl, Cond.after_iff.mpr (eq_i res_at (Term.int_eval (1)) rfl), trivial⟩ ⟨hq.1, hq.2.1, (hq.2.2.sift fun y hy => Or.inr (N y hy)).mono (by decide) (by decide)⟩⟩
theorem main_1_1 : Claimed_1_1 := comes_1 fun _ _ _ _ _ _ h hF => ⟨h.1, hF⟩
theorem main_1_2 : Claimed_1_2 := comes_1 fun _ _ _ _ _ _ h hF => ⟨h.2.1, hF⟩
end Jvm.Pilot.@@N@@
namespace Jvm.Pilot.@@N@@
open Jvm Jvm.ClassFile Sem Op Lib Jvm.Free Jvm.Stand Jvm.Pilot.@@N@@.Jvm.D
/-! MADE BY PROGRAM (witnessworld.py) out of the Statement's table words and the real class files: 12 classes; the members and pool entries that the words name. The judged class is class 1, her method 2. -/
namespace start1
open Jvm.ClassFile
def u (s : String) : CpInfo := .utf8 (stringToUtf16 s)
/-- a pool by its gaps: so many unusable entries, then the entry; so many at the end -/
def gap : Nat → List CpInfo → List CpInfo
  | 0, r => r
  | n + 1, r => .unusable :: gap n r
def poolList (es : List (Nat × CpInfo)) (last : Nat) : List CpInfo := es.foldr (fun e r => gap e.1 (e.2 :: r)) (gap last [])
def pool (es : List (Nat × CpInfo)) (last : Nat) : Array CpInfo := ⟨poolList es last⟩
def fileOf (pool : Array CpInfo) (this : Nat) (attrs : Array Attribute := #[]) (ms : Array MethodInfo := #[]) (fl : Nat := 33) (sup : Nat := 0) (ifs : Array Nat := #[]) (fds : Array FieldInfo := #[]) : ClassFile where
  minorVersion := 0
  majorVersion := 65
  constantPool := pool
  accessFlags := fl
  thisClass := this
  superClass := sup
  interfaces := ifs
  fields := fds
  methods := ms
  attributes := attrs
def plain (name : String) (sup : Option ClassId) : Class where
  name := name
  kind := .ordinary
  loader := none
  accessFlags := 33
  super := sup
  interfaces := #[]
  cf := none
  fields := #[]
  methods := #[]
  instanceTypes := #[]
  staticTypes := #[]
  resolved := #[]
  callSites := []
  init := .initialized
  statics := none
  mirror := none

def pool0 : Array CpInfo := pool [(5, u "<init>"), (0, u "()V"), (1, .class_ 10), (1, u "java/lang/Object")] 113

def k0m0 : Method := { name := "<init>", desc := "()V", sig := { parameters := [], returnType := none }, accessFlags := 1, code := none }
/-- java/lang/Object -/
def k0 : Class := { plain "java/lang/Object" none with
  accessFlags := 33
  interfaces := #[]
  cf := some (fileOf pool0 8 #[] #[{ accessFlags := 1, nameIndex := 5, descriptorIndex := 6, attributes := #[] }] 33 0 #[] #[])
  fields := #[]
  methods := #[k0m0]
  instanceTypes := #[]
  staticTypes := #[]
  resolved := Array.replicate 124 none
  statics := none }

def pool1 : Array CpInfo := pool [(2, .class_ 4), (1, u "java/lang/Object"), (0, u "<init>"), (0, u "()V"), (0, .fieldref 8 9), (0, .class_ 10), (0, .nameAndType 11 12), (0, u "com/example/moraine/moraine/model/Expression$Operator"), (0, u "EQ"), (0, u "Lcom/example/moraine/moraine/model/Expression$Operator;"), (0, .fieldref 8 14), (0, .nameAndType 15 12), (0, u "NE"), (0, .fieldref 8 17), (0, .nameAndType 18 12), (0, u "LT"), (0, .fieldref 8 20), (0, .nameAndType 21 12), (0, u "LE"), (0, .fieldref 8 23), (0, .nameAndType 24 12), (0, u "GT"), (0, .fieldref 8 26), (0, .nameAndType 27 12), (0, u "GE"), (0, .fieldref 8 29), (0, .nameAndType 30 12), (0, u "IS_NULL"), (0, .fieldref 8 32), (0, .nameAndType 33 12), (0, u "NOT_NULL"), (0, .fieldref 8 35), (0, .nameAndType 36 12), (0, u "IN"), (0, .fieldref 8 38), (0, .nameAndType 39 12), (0, u "NOT_IN"), (0, .integer 2147483647), (0, .methodref 42 43), (0, .class_ 44), (0, .nameAndType 45 46), (0, u "com/example/moraine/moraine/model/OperatorLiteralsPinLaw"), (0, u "pick"), (0, u "(I)Lcom/example/moraine/moraine/model/Expression$Operator;"), (0, .methodref 8 48), (0, .nameAndType 49 50), (0, u "literals"), (0, u "()I"), (0, .methodref 8 52), (0, .nameAndType 53 54), (0, u "negation"), (0, u "()Lcom/example/moraine/moraine/model/Expression$Operator;"), (3, u "law"), (0, u "(I)Z")] 8

def k1m0 : Method := { name := "<init>", desc := "()V", sig := { parameters := [], returnType := none }, accessFlags := 2, code := none }
def k1c1 : Code := { maxStack := 2, maxLocals := 1, code := method_2_code, exceptionTable := #[], attributes := #[] }
def k1m1 : Method := { name := "pick", desc := "(I)Lcom/example/moraine/moraine/model/Expression$Operator;", sig := { parameters := [.int], returnType := some (.object "com/example/moraine/moraine/model/Expression$Operator") }, accessFlags := 10, code := some k1c1 }
def k1c2 : Code := { maxStack := 4, maxLocals := 6, code := code, exceptionTable := #[], attributes := #[] }
def k1m2 : Method := { name := "law", desc := "(I)Z", sig := { parameters := [.int], returnType := some .boolean }, accessFlags := 9, code := some k1c2 }
/-- com/example/moraine/moraine/model/OperatorLiteralsPinLaw -/
def k1 : Class := { plain "com/example/moraine/moraine/model/OperatorLiteralsPinLaw" (some 0) with
  accessFlags := 49
  interfaces := #[]
  cf := some (fileOf pool1 42 #[] #[{ accessFlags := 2, nameIndex := 5, descriptorIndex := 6, attributes := #[] }, { accessFlags := 10, nameIndex := 45, descriptorIndex := 46, attributes := #[] }, { accessFlags := 9, nameIndex := 58, descriptorIndex := 59, attributes := #[] }] 49 2 #[] #[])
  fields := #[]
  methods := #[k1m0, k1m1, k1m2]
  instanceTypes := #[]
  staticTypes := #[]
  resolved := Array.replicate 68 none
  statics := none }

def pool2 : Array CpInfo := pool [(1, .class_ 2), (0, u "java/lang/constant/Constable"), (0, .class_ 4), (0, u "java/lang/Object")] 6

/-- java/lang/constant/Constable -/
def k2 : Class := { plain "java/lang/constant/Constable" (some 0) with
  accessFlags := 1537
  interfaces := #[]
  cf := some (fileOf pool2 1 #[] #[] 1537 3 #[] #[])
  fields := #[]
  methods := #[]
  instanceTypes := #[]
  staticTypes := #[]
  resolved := Array.replicate 11 none
  statics := none }

def pool3 : Array CpInfo := pool [(1, .class_ 2), (0, u "java/lang/Comparable"), (0, .class_ 4), (0, u "java/lang/Object")] 7

/-- java/lang/Comparable -/
def k3 : Class := { plain "java/lang/Comparable" (some 0) with
  accessFlags := 1537
  interfaces := #[]
  cf := some (fileOf pool3 1 #[] #[] 1537 3 #[] #[])
  fields := #[]
  methods := #[]
  instanceTypes := #[]
  staticTypes := #[]
  resolved := Array.replicate 12 none
  statics := none }

def pool4 : Array CpInfo := pool [(1, .class_ 2), (0, u "java/io/Serializable"), (0, .class_ 4), (0, u "java/lang/Object")] 2

/-- java/io/Serializable -/
def k4 : Class := { plain "java/io/Serializable" (some 0) with
  accessFlags := 1537
  interfaces := #[]
  cf := some (fileOf pool4 1 #[] #[] 1537 3 #[] #[])
  fields := #[]
  methods := #[]
  instanceTypes := #[]
  staticTypes := #[]
  resolved := Array.replicate 7 none
  statics := none }

def pool5 : Array CpInfo := pool [(2, .class_ 4), (1, u "java/lang/Enum"), (0, u "name"), (0, u "Ljava/lang/String;"), (0, .fieldref 2 8), (0, .nameAndType 9 10), (0, u "ordinal"), (0, u "I"), (1, .class_ 14), (1, u "java/lang/Object"), (4, u "hash"), (86, .class_ 108), (1, u "java/lang/Enum$EnumDesc"), (2, .class_ 112), (0, u "java/lang/constant/Constable"), (0, .class_ 114), (0, u "java/lang/Comparable"), (0, .class_ 116), (0, u "java/io/Serializable"), (9, u "()I")] 77

def k5c0 : Code := { maxStack := 1, maxLocals := 1, code := jdk_37_method_2_code, exceptionTable := #[], attributes := #[] }
def k5m0 : Method := { name := "ordinal", desc := "()I", sig := { parameters := [], returnType := some .int }, accessFlags := 17, code := some k5c0 }
/-- java/lang/Enum -/
def k5 : Class := { plain "java/lang/Enum" (some 0) with
  accessFlags := 1057
  interfaces := #[2, 3, 4]
  cf := some (fileOf pool5 2 #[.nestMembers #[106]] #[{ accessFlags := 17, nameIndex := 9, descriptorIndex := 126, attributes := #[] }] 1057 12 #[111, 113, 115] #[{ accessFlags := 18, nameIndex := 5, descriptorIndex := 6, attributes := #[] }, { accessFlags := 18, nameIndex := 9, descriptorIndex := 10, attributes := #[] }, { accessFlags := 2, nameIndex := 19, descriptorIndex := 10, attributes := #[] }])
  fields := #[{ name := "name", type := (.object "java/lang/String"), accessFlags := 18, slot := 0, constantValue := 0 }, { name := "ordinal", type := .int, accessFlags := 18, slot := 1, constantValue := 0 }, { name := "hash", type := .int, accessFlags := 2, slot := 2, constantValue := 0 }]
  methods := #[k5m0]
  instanceTypes := #[(.object "java/lang/String"), .int, .int]
  staticTypes := #[]
  resolved := Array.replicate 204 none
  statics := none }

def pool6 : Array CpInfo := pool [(1, .class_ 2), (0, u "com/example/moraine/moraine/model/Expression$Operator"), (0, .fieldref 1 4), (0, .nameAndType 5 6), (0, u "EQ"), (0, u "Lcom/example/moraine/moraine/model/Expression$Operator;"), (0, .fieldref 1 8), (0, .nameAndType 9 6), (0, u "NE"), (0, .fieldref 1 11), (0, .nameAndType 12 6), (0, u "LT"), (0, .fieldref 1 14), (0, .nameAndType 15 6), (0, u "LE"), (0, .fieldref 1 17), (0, .nameAndType 18 6), (0, u "GT"), (0, .fieldref 1 20), (0, .nameAndType 21 6), (0, u "GE"), (0, .fieldref 1 23), (0, .nameAndType 24 6), (0, u "IS_NULL"), (0, .fieldref 1 26), (0, .nameAndType 27 6), (0, u "NOT_NULL"), (0, .fieldref 1 29), (0, .nameAndType 30 6), (0, u "IN"), (0, .fieldref 1 32), (0, .nameAndType 33 6), (0, u "NOT_IN"), (2, u "$VALUES"), (0, u "[Lcom/example/moraine/moraine/model/Expression$Operator;"), (6, .class_ 46), (1, u "java/lang/Enum"), (8, u "symbol"), (0, u "Ljava/lang/String;"), (0, .methodref 1 58), (0, .nameAndType 59 60), (0, u "ordinal"), (0, u "()I"), (2, u "literals"), (62, u "negation"), (0, u "()Lcom/example/moraine/moraine/model/Expression$Operator;"), (13, .class_ 142), (0, u "com/example/moraine/moraine/model/Expression")] 16

def k6c0 : Code := { maxStack := 1, maxLocals := 1, code := prog_66_method_4_code, exceptionTable := #[], attributes := #[] }
def k6m0 : Method := { name := "negation", desc := "()Lcom/example/moraine/moraine/model/Expression$Operator;", sig := { parameters := [], returnType := some (.object "com/example/moraine/moraine/model/Expression$Operator") }, accessFlags := 1, code := some k6c0 }
def k6c1 : Code := { maxStack := 2, maxLocals := 1, code := prog_66_method_5_code, exceptionTable := #[], attributes := #[] }
def k6m1 : Method := { name := "literals", desc := "()I", sig := { parameters := [], returnType := some .int }, accessFlags := 0, code := some k6c1 }
/-- com/example/moraine/moraine/model/Expression$Operator -/
def k6 : Class := { plain "com/example/moraine/moraine/model/Expression$Operator" (some 5) with
  accessFlags := 16433
  interfaces := #[]
  cf := some (fileOf pool6 1 #[.nestHost 141] #[{ accessFlags := 1, nameIndex := 126, descriptorIndex := 127, attributes := #[] }, { accessFlags := 0, nameIndex := 63, descriptorIndex := 60, attributes := #[] }] 16433 44 #[] #[{ accessFlags := 16409, nameIndex := 5, descriptorIndex := 6, attributes := #[] }, { accessFlags := 16409, nameIndex := 9, descriptorIndex := 6, attributes := #[] }, { accessFlags := 16409, nameIndex := 12, descriptorIndex := 6, attributes := #[] }, { accessFlags := 16409, nameIndex := 15, descriptorIndex := 6, attributes := #[] }, { accessFlags := 16409, nameIndex := 18, descriptorIndex := 6, attributes := #[] }, { accessFlags := 16409, nameIndex := 21, descriptorIndex := 6, attributes := #[] }, { accessFlags := 16409, nameIndex := 24, descriptorIndex := 6, attributes := #[] }, { accessFlags := 16409, nameIndex := 27, descriptorIndex := 6, attributes := #[] }, { accessFlags := 16409, nameIndex := 30, descriptorIndex := 6, attributes := #[] }, { accessFlags := 16409, nameIndex := 33, descriptorIndex := 6, attributes := #[] }, { accessFlags := 18, nameIndex := 55, descriptorIndex := 56, attributes := #[] }, { accessFlags := 4122, nameIndex := 36, descriptorIndex := 37, attributes := #[] }])
  fields := #[{ name := "EQ", type := (.object "com/example/moraine/moraine/model/Expression$Operator"), accessFlags := 16409, slot := 0, constantValue := 0 }, { name := "NE", type := (.object "com/example/moraine/moraine/model/Expression$Operator"), accessFlags := 16409, slot := 1, constantValue := 0 }, { name := "LT", type := (.object "com/example/moraine/moraine/model/Expression$Operator"), accessFlags := 16409, slot := 2, constantValue := 0 }, { name := "LE", type := (.object "com/example/moraine/moraine/model/Expression$Operator"), accessFlags := 16409, slot := 3, constantValue := 0 }, { name := "GT", type := (.object "com/example/moraine/moraine/model/Expression$Operator"), accessFlags := 16409, slot := 4, constantValue := 0 }, { name := "GE", type := (.object "com/example/moraine/moraine/model/Expression$Operator"), accessFlags := 16409, slot := 5, constantValue := 0 }, { name := "IS_NULL", type := (.object "com/example/moraine/moraine/model/Expression$Operator"), accessFlags := 16409, slot := 6, constantValue := 0 }, { name := "NOT_NULL", type := (.object "com/example/moraine/moraine/model/Expression$Operator"), accessFlags := 16409, slot := 7, constantValue := 0 }, { name := "IN", type := (.object "com/example/moraine/moraine/model/Expression$Operator"), accessFlags := 16409, slot := 8, constantValue := 0 }, { name := "NOT_IN", type := (.object "com/example/moraine/moraine/model/Expression$Operator"), accessFlags := 16409, slot := 9, constantValue := 0 }, { name := "symbol", type := (.object "java/lang/String"), accessFlags := 18, slot := 3, constantValue := 0 }, { name := "$VALUES", type := (.array (.object "com/example/moraine/moraine/model/Expression$Operator")), accessFlags := 4122, slot := 10, constantValue := 0 }]
  methods := #[k6m0, k6m1]
  instanceTypes := #[(.object "java/lang/String"), .int, .int, (.object "java/lang/String")]
  staticTypes := #[(.object "com/example/moraine/moraine/model/Expression$Operator"), (.object "com/example/moraine/moraine/model/Expression$Operator"), (.object "com/example/moraine/moraine/model/Expression$Operator"), (.object "com/example/moraine/moraine/model/Expression$Operator"), (.object "com/example/moraine/moraine/model/Expression$Operator"), (.object "com/example/moraine/moraine/model/Expression$Operator"), (.object "com/example/moraine/moraine/model/Expression$Operator"), (.object "com/example/moraine/moraine/model/Expression$Operator"), (.object "com/example/moraine/moraine/model/Expression$Operator"), (.object "com/example/moraine/moraine/model/Expression$Operator"), (.array (.object "com/example/moraine/moraine/model/Expression$Operator"))]
  resolved := Array.replicate 159 none
  statics := some 0 }

def pool7 : Array CpInfo := pool [(1, u "java/lang/Cloneable"), (0, .class_ 1), (0, u "java/lang/Object"), (0, .class_ 3)] 3

/-- java/lang/Cloneable -/
def k7 : Class := { plain "java/lang/Cloneable" (some 0) with
  accessFlags := 1537
  interfaces := #[]
  cf := some (fileOf pool7 2 #[] #[] 1537 4 #[] #[])
  fields := #[]
  methods := #[]
  instanceTypes := #[]
  staticTypes := #[]
  resolved := Array.replicate 8 none
  statics := none }

/-- the primitive byte -/
def k8 : Class := { plain "byte" none with kind := .primitive 'B', accessFlags := 0x411 }
/-- [B -/
def k9 : Class := { plain "[B" (some 0) with kind := .array 8 .byte, interfaces := #[7, 4], accessFlags := 1041 }

/-- the primitive int -/
def k10 : Class := { plain "int" none with kind := .primitive 'I', accessFlags := 0x411 }
/-- [I -/
def k11 : Class := { plain "[I" (some 0) with kind := .array 10 .int, interfaces := #[7, 4], accessFlags := 1041 }

def heap : Heap := #[{ cls := 6, slots := #[.ref 1, .ref 6, .ref 9, .ref 7, .ref 8, .ref 10, .ref 2, .ref 3, .ref 4, .ref 5, .null], vm := .statics 6 },
  { cls := 6, slots := #[.null, .int 0, .int 0, .null], vm := .none },
  { cls := 6, slots := #[.null, .int 6, .int 0, .null], vm := .none },
  { cls := 6, slots := #[.null, .int 7, .int 0, .null], vm := .none },
  { cls := 6, slots := #[.null, .int 8, .int 0, .null], vm := .none },
  { cls := 6, slots := #[.null, .int 9, .int 0, .null], vm := .none },
  { cls := 6, slots := #[.null, .int 1, .int 0, .null], vm := .none },
  { cls := 6, slots := #[.null, .int 3, .int 0, .null], vm := .none },
  { cls := 6, slots := #[.null, .int 4, .int 0, .null], vm := .none },
  { cls := 6, slots := #[.null, .int 2, .int 0, .null], vm := .none },
  { cls := 6, slots := #[.null, .int 5, .int 0, .null], vm := .none }]
def classes : Array Class := #[k0, k1, k2, k3, k4, k5, k6, k7, k8, k9, k10, k11]
def interned : List (Array UInt16 × Addr) := []
def slotsUsed : Nat := 51
def theMethod : MethodId := ⟨1, 2⟩
def args0 : Array Value := #[.int 5]
def aboutOver (below : List Frame) : State where
  vm := { classes := classes, interned := interned.toArray }
  heap := heap
  slotsUsed := slotsUsed
  threads := #[{ frames := .invoking theMethod args0 :: below }]
def below0 : List Frame := [.native { method := ⟨0, 0⟩, args := #[] }]
def about1 : State := aboutOver below0
def p0 : Program := .bare "" "" ""
def e0 : Env := launch0.env 0 0 0
theorem w_frames : about1.frames = Frame.invoking theMethod args0 :: below0 := rfl
set_option maxRecDepth 65536 in
theorem w_args : argsFit about1.vm theMethod args0 = true := by decide +kernel
set_option maxRecDepth 65536 in
theorem w_heap : heapFits about1 = true := by decide +kernel
set_option maxRecDepth 65536 in
theorem w_runnable : about1.curStatus? = some .runnable := by decide +kernel
set_option maxRecDepth 65536 in
theorem w_alone : about1.alone = true := by decide +kernel
set_option maxRecDepth 65536 in
theorem w_named : about1.methodNamed? x = some theMethod := by decide +kernel
set_option maxRecDepth 65536 in
theorem w_hears : about1.hears theMethod below0 = true := by decide +kernel
set_option maxRecDepth 65536 in
theorem w_ripe : about1.ripe theMethod args0 below0 = true := by decide +kernel
theorem w_running : about1.status = .running := rfl
set_option maxRecDepth 65536 in
theorem w_room : about1.hasRoom e0.platform room_1 = true :=
  launch0.hasRoom_least _ room_1 (by decide +kernel) (by decide +kernel) (by decide +kernel) (by decide +kernel) (by decide +kernel) (by decide +kernel)
theorem allAtoms_all (ts : List Jvm.Cond) (a : Array Jvm.Value) (st : Jvm.State) : (allAtoms ts).before a st = ts.all (fun c => c.before a st) := by
  induction ts with
  | nil => rfl
  | cons c t ih =>
    show (Jvm.Cond.and c (allAtoms t)).before a st = _
    rw [Jvm.Cond.before_and, ih, List.all_cons]
def words1 : List Jvm.Cond := Jvm.Cond.code x code maxLocals ret :: tables_1
/-- a 'code' word, met by the world's own term for the bytes: nothing is compared byte by byte -/
theorem code_word {y : MethodName} {bytes : ByteArray} {mx : Nat} {rt : Option FieldType} {a : Array Value} {s : State} {m : MethodId} {meth : Method} {c : Code} (h1 : s.methodNamed? y = some m) (h2 : s.vm.method? m = some meth) (h3 : meth.code = some c) (h4 : c.code = bytes)
    (h5 : (c.maxLocals == mx && c.exceptionTable.isEmpty && decide (c.maxStack ≤ mostOperands) && decide (meth.sig.returnType = rt) && !meth.locks && decide (parseMethodDescriptor y.desc = some meth.sig)) = true) : (Jvm.Cond.code y bytes mx rt).before a s = true := by
  simp only [Bool.and_eq_true, beq_iff_eq, Bool.not_eq_true', decide_eq_true_eq] at h5
  obtain ⟨⟨⟨⟨⟨g1, g2⟩, g3⟩, g4⟩, g5⟩, g6⟩ := h5
  simp [Cond.before, Cond.holds, Cond.value, h1, h2, h3, h4, g1, g2, g3, g4, g5, g6]
def isCode : Jvm.Cond → Bool
  | .code _ _ _ _ => true
  | _ => false
theorem all_split {L : List Jvm.Cond} {P : Jvm.Cond → Bool} (h1 : L.all (fun c => isCode c || P c) = true) (h2 : ∀ c ∈ L.filter isCode, P c = true) : L.all P = true := by
  refine List.all_eq_true.mpr fun c hc => ?_
  have h := List.all_eq_true.mp h1 c hc
  rcases Bool.eq_false_or_eq_true (isCode c) with hi | hi
  · exact h2 c (List.mem_filter.mpr ⟨hc, hi⟩)
  · simpa [hi] using h
set_option maxRecDepth 65536 in
theorem w_c0 : (Jvm.Cond.code x code maxLocals ret).before args0 about1 = true := code_word (m := ⟨1, 2⟩) (meth := k1m2) (c := k1c2) (by decide +kernel) rfl rfl rfl (by decide +kernel)
set_option maxRecDepth 65536 in
theorem w_c1 : (Jvm.Cond.code ({ cls := "com/example/moraine/moraine/model/OperatorLiteralsPinLaw", name := "pick", desc := "(I)Lcom/example/moraine/moraine/model/Expression$Operator;" } : Jvm.MethodName) method_2_code (1 : Nat) (Option.some (Jvm.ClassFile.FieldType.object "com/example/moraine/moraine/model/Expression$Operator"))).before args0 about1 = true := code_word (m := ⟨1, 1⟩) (meth := k1m1) (c := k1c1) (by decide +kernel) rfl rfl rfl (by decide +kernel)
set_option maxRecDepth 65536 in
theorem w_c2 : (Jvm.Cond.code ({ cls := "com/example/moraine/moraine/model/Expression$Operator", name := "literals", desc := "()I" } : Jvm.MethodName) prog_66_method_5_code (1 : Nat) (Option.some Jvm.ClassFile.FieldType.int)).before args0 about1 = true := code_word (m := ⟨6, 1⟩) (meth := k6m1) (c := k6c1) (by decide +kernel) rfl rfl rfl (by decide +kernel)
set_option maxRecDepth 65536 in
theorem w_c3 : (Jvm.Cond.code ({ cls := "com/example/moraine/moraine/model/Expression$Operator", name := "negation", desc := "()Lcom/example/moraine/moraine/model/Expression$Operator;" } : Jvm.MethodName) prog_66_method_4_code (1 : Nat) (Option.some (Jvm.ClassFile.FieldType.object "com/example/moraine/moraine/model/Expression$Operator"))).before args0 about1 = true := code_word (m := ⟨6, 0⟩) (meth := k6m0) (c := k6c0) (by decide +kernel) rfl rfl rfl (by decide +kernel)
set_option maxRecDepth 65536 in
theorem w_c4 : (Jvm.Cond.code ({ cls := "java/lang/Enum", name := "ordinal", desc := "()I" } : Jvm.MethodName) jdk_37_method_2_code (1 : Nat) (Option.some Jvm.ClassFile.FieldType.int)).before args0 about1 = true := code_word (m := ⟨5, 0⟩) (meth := k5m0) (c := k5c0) (by decide +kernel) rfl rfl rfl (by decide +kernel)
def codes1 : List Jvm.Cond := [Jvm.Cond.code x code maxLocals ret, Jvm.Cond.code ({ cls := "com/example/moraine/moraine/model/OperatorLiteralsPinLaw", name := "pick", desc := "(I)Lcom/example/moraine/moraine/model/Expression$Operator;" } : Jvm.MethodName) method_2_code (1 : Nat) (Option.some (Jvm.ClassFile.FieldType.object "com/example/moraine/moraine/model/Expression$Operator")), Jvm.Cond.code ({ cls := "com/example/moraine/moraine/model/Expression$Operator", name := "literals", desc := "()I" } : Jvm.MethodName) prog_66_method_5_code (1 : Nat) (Option.some Jvm.ClassFile.FieldType.int), Jvm.Cond.code ({ cls := "com/example/moraine/moraine/model/Expression$Operator", name := "negation", desc := "()Lcom/example/moraine/moraine/model/Expression$Operator;" } : Jvm.MethodName) prog_66_method_4_code (1 : Nat) (Option.some (Jvm.ClassFile.FieldType.object "com/example/moraine/moraine/model/Expression$Operator")), Jvm.Cond.code ({ cls := "java/lang/Enum", name := "ordinal", desc := "()I" } : Jvm.MethodName) jdk_37_method_2_code (1 : Nat) (Option.some Jvm.ClassFile.FieldType.int)]
set_option maxRecDepth 65536 in
theorem codes_eq : words1.filter isCode = codes1 := rfl
theorem w_codes : ∀ c ∈ words1.filter isCode, c.before args0 about1 = true := by
  rw [codes_eq]
  intro c hc
  simp only [codes1, List.mem_cons, List.not_mem_nil, or_false] at hc
  rcases hc with rfl | rfl | rfl | rfl | rfl
  · exact w_c0
  · exact w_c1
  · exact w_c2
  · exact w_c3
  · exact w_c4
set_option maxRecDepth 65536 in
theorem w_t1 : (words1.take 24).all (fun c => isCode c || c.before args0 about1) = true := by decide +kernel
set_option maxRecDepth 65536 in
theorem w_t2 : ((words1.drop 24).take 24).all (fun c => isCode c || c.before args0 about1) = true := by decide +kernel
set_option maxRecDepth 65536 in
theorem w_t3 : ((words1.drop 24).drop 24).all (fun c => isCode c || c.before args0 about1) = true := by decide +kernel
theorem w_tables : (allAtoms (Jvm.Cond.code x code maxLocals ret :: tables_1)).before args0 about1 = true := by
  rw [allAtoms_all]
  show words1.all (fun c => c.before args0 about1) = true
  refine all_split ?_ w_codes
  rw [← List.take_append_drop 24 words1, List.all_append, w_t1, ← List.take_append_drop 24 (words1.drop 24), List.all_append, w_t2, w_t3]
  rfl
set_option maxRecDepth 65536 in
theorem w_case : (Jvm.Cond.and given_1 narrow_1).before args0 about1 = true := by decide +kernel
theorem w_applies : (headSpec (Jvm.Cond.code x code maxLocals ret :: tables_1) room_1).applies x e0.platform about1 = true :=
  (Spec.applies_iff w_frames).mpr ⟨w_running, w_runnable, w_alone, w_named, w_hears, w_ripe, w_room, w_tables⟩
theorem atStart : AtStart classFile x code maxLocals ret World_1 tables_1 room_1 Calls_1 rest_1 Pre_1 launch0 p0 e0 about1 theMethod args0 below0 :=
  ⟨lists_1, trivial, launch0.admits_env _ _ _, launch0.least_env, fairChoices_fair.cas, fairChoices_fair.clock, w_frames, w_args, w_heap, w_applies, trivial, trivial, w_case⟩
end start1
theorem witness_1 : WitnessClaimed_1 := ⟨start1.p0, start1.e0, start1.about1, start1.theMethod, start1.args0, start1.below0, start1.atStart⟩
end Jvm.Pilot.@@N@@
