import JvmDerived
import JvmDerived.Pilot.@@N@@Statement
import JvmDerived.Pilot.@@N@@Code
set_option linter.unusedVariables false
set_option linter.unusedSimpArgs false
namespace Jvm.Pilot.@@N@@
open Jvm Jvm.ClassFile Sem Op Lib Jvm.Free Jvm.Stand Jvm.LawKit Jvm.RoadKit Bundle Jvm.Pilot.@@N@@.Jvm.D
section OwnKit
variable {p : Program} {l : Launch} {e : Env} {R : Room} {s : State} {m : MethodId} {args : Array Value} {below : List Frame} {meth : Method} {c : Code} {T : State} {locs : List Loc} {cells slots : Nat} {Z : State} {h h' : Heap} {a b : Addr} {ty : FieldType}
/-- from S the run comes to a state of which F holds -/
def oGl (p : Program) (e : Env) (below : List Frame) (S : State) (F : State → Prop) : Prop := ∃ t, Steps p.tables e below S t ∧ F t
theorem oOn {S S' : State} {F : State → Prop} (st : ∀ t, Steps p.tables e below S' t → Steps p.tables e below S t) (k : oGl p e below S' F) : oGl p e below S F := by
  obtain ⟨t, k1, k2⟩ := k; exact ⟨t, st t k1, k2⟩
theorem oSt {S S' : State} {F : State → Prop} (st : Steps p.tables e below S S') (k : oGl p e below S' F) : oGl p e below S F := by
  obtain ⟨t, k1, k2⟩ := k; exact ⟨t, st.trans k1, k2⟩
theorem oCast {g g' : JFrame} {F : State → Prop} (q : g = g') (k : oGl p e below (T.setTop g') F) : oGl p e below (T.setTop g) F := q ▸ k
def oFin (s : State) (below : List Frame) (Q : Option Value → Heap → List Loc → Prop) (C S : Nat) (t : State) : Prop := ∃ o, t.status = .running ∧ Ended t below o ∧ ∃ v L, o = .returned v ∧ Q v t.heap L ∧ FrameEnd s o t L C S
theorem oEnter {S0 : State} {Q : Option Value → Heap → List Loc → Prop} {C S : Nat} (k : oGl p e below S0 (oFin s below Q C S)) : ∃ s₂ o, Steps p.tables e below S0 s₂ ∧ s₂.status = .running ∧ Ended s₂ below o ∧ ∃ v L, o = .returned v ∧ Q v s₂.heap L ∧ FrameEnd s o s₂ L C S := by
  obtain ⟨t, k1, o, k2, k3, k4⟩ := k; exact ⟨t, o, k1, k2, k3, k4⟩
theorem oRetI (X : Stand p l e R s m args below meth c T locs cells slots) (hx : p.tables.exec = Jvm.exec) (hl : meth.locks = false) {pc : Nat} {Ls : Array Slot} {z : Int32} {rest : List Value} (hret : meth.sig.returnType = some .int) (hd : decode c.code pc = .ok (.ireturn, 1))
    {Q : Option Value → Heap → List Loc → Prop} {C S : Nat} (hc : cells ≤ C) (hs : slots ≤ S) (hq : Q (some (.int z)) T.heap locs) : oGl p e below (T.setTop (mkF m pc Ls (.int z :: rest))) (oFin s below Q C S) := by
  obtain ⟨fs, hr, hrun, hended, hW, hsame⟩ := X.leave (v := some (.int z)) (fun q => by rw [hret] at q; cases q) hl
  exact ⟨_, retOut X hx hret rfl (Or.inl ⟨rfl, Or.inl rfl, _, rfl⟩) hd hr, _, hrun, hended, _, _, rfl, hq, ⟨_, rfl⟩, hW, hsame.mono hc hs⟩
theorem oRetN {t : FieldType} (X : Stand p l e R s m args below meth c T locs cells slots) (hx : p.tables.exec = Jvm.exec) (hl : meth.locks = false) {pc : Nat} {Ls : Array Slot} {z : Int32} {rest : List Value} (hret : meth.sig.returnType = some t) (ht : t = .boolean ∨ t = .byte ∨ t = .char ∨ t = .short) (hd : decode c.code pc = .ok (.ireturn, 1))
    {Q : Option Value → Heap → List Loc → Prop} {C S : Nat} (hc : cells ≤ C) (hs : slots ≤ S) (hq : Q (some (.int (nar t z))) T.heap locs) : oGl p e below (T.setTop (mkF m pc Ls (.int z :: rest))) (oFin s below Q C S) := by
  obtain ⟨fs, hr, hrun, hended, hW, hsame⟩ := X.leave (v := some (.int (nar t z))) (fun q => by rw [hret] at q; cases q) hl
  exact ⟨_, retN X hx hret ht hd hr, _, hrun, hended, _, _, rfl, hq, ⟨_, rfl⟩, hW, hsame.mono hc hs⟩
theorem oRetJ (X : Stand p l e R s m args below meth c T locs cells slots) (hx : p.tables.exec = Jvm.exec) (hl : meth.locks = false) {pc : Nat} {Ls : Array Slot} {z : Int64} {rest : List Value} (hret : meth.sig.returnType = some .long) (hd : decode c.code pc = .ok (.lreturn, 1))
    {Q : Option Value → Heap → List Loc → Prop} {C S : Nat} (hc : cells ≤ C) (hs : slots ≤ S) (hq : Q (some (.long z)) T.heap locs) : oGl p e below (T.setTop (mkF m pc Ls (.long z :: rest))) (oFin s below Q C S) := by
  obtain ⟨fs, hr, hrun, hended, hW, hsame⟩ := X.leave (v := some (.long z)) (fun q => by rw [hret] at q; cases q) hl
  exact ⟨_, retOut X hx hret rfl (Or.inr (Or.inl ⟨rfl, rfl, _, rfl⟩)) hd hr, _, hrun, hended, _, _, rfl, hq, ⟨_, rfl⟩, hW, hsame.mono hc hs⟩
theorem narrow_ref {t : FieldType} {w : Value} (ht : t.isReference = true) (hw : w.isRef = true) : narrow t w = w := by
  rcases ref_cases hw with rfl | ⟨a, rfl⟩ <;> cases t <;> first | rfl | (cases ht; done)
theorem oRetR {t : FieldType} (X : Stand p l e R s m args below meth c T locs cells slots) (hx : p.tables.exec = Jvm.exec) (hl : meth.locks = false) {pc : Nat} {Ls : Array Slot} {w : Value} {rest : List Value} (hret : meth.sig.returnType = some t) (ht : t.isReference = true) (hw : w.isRef = true) (hd : decode c.code pc = .ok (.areturn, 1))
    {Q : Option Value → Heap → List Loc → Prop} {C S : Nat} (hc : cells ≤ C) (hs : slots ≤ S) (hq : Q (some w) T.heap locs) : oGl p e below (T.setTop (mkF m pc Ls (w :: rest))) (oFin s below Q C S) := by
  obtain ⟨fs, hr, hrun, hended, hW, hsame⟩ := X.leave (v := some w) (fun q => by rw [hret] at q; cases q) hl
  exact ⟨_, retOut X hx hret (narrow_ref ht hw) (Or.inr (Or.inr (Or.inr (Or.inr ⟨rfl, ht, hw⟩)))) hd hr, _, hrun, hended, _, _, rfl, hq, ⟨_, rfl⟩, hW, hsame.mono hc hs⟩
theorem oRet0 (X : Stand p l e R s m args below meth c T locs cells slots) (hx : p.tables.exec = Jvm.exec) (hl : meth.locks = false) {pc : Nat} {Ls : Array Slot} (hret : meth.sig.returnType = none) (hd : decode c.code pc = .ok (.return_, 1))
    {Q : Option Value → Heap → List Loc → Prop} {C S : Nat} (hc : cells ≤ C) (hs : slots ≤ S) (hq : Q none T.heap locs) : oGl p e below (T.setTop (mkF m pc Ls [])) (oFin s below Q C S) := by
  obtain ⟨fs, hr, hrun, hended, hW, hsame⟩ := X.leave (v := none) (fun _ => rfl) hl
  exact ⟨_, X.returnOut hx hret hd hr, _, hrun, hended, _, _, rfl, hq, ⟨_, rfl⟩, hW, hsame.mono hc hs⟩
theorem oCat {w : Value} (hw : w.isRef = true) : w.category = 1 := by rcases ref_cases hw with rfl | ⟨a, rfl⟩ <;> rfl
theorem oSto {ls : Array Slot} {i : Nat} {v : Value} {o : Slot} (hold : ls[i]? = some o) (ho : o = .unset ∨ ∃ w, o = .val w ∧ w.category = 1) (hv : v.category = 1) : storeLocals ls i v = some (ls.setIfInBounds i (.val v)) := XS.store1 hold ho hv
theorem oDup2 {tb : Tables} [Ours tb] {target : State} {g : JFrame} (hh : At T m c below) (hx : tb.exec = Jvm.exec) (hg : g.method = m) {x y : Value} {rest : List Value} (hd : decode c.code g.pc = .ok (.dup2, 1)) (hs : g.stack = x :: y :: rest) (hc : x.category = 1) (hc2 : y.category = 1)
    (hr : Steps tb e below (T.setTop { g with pc := g.pc + 1, stack := x :: y :: x :: y :: rest }) target) : Steps tb e below (T.setTop g) target := by
  subst hg
  jvm_step hh [hh.top, hx, hd, hs, hc, hc2]
  exact hr
theorem oDupX2 {tb : Tables} [Ours tb] {target : State} {g : JFrame} (hh : At T m c below) (hx : tb.exec = Jvm.exec) (hg : g.method = m) {x y z : Value} {rest : List Value} (hd : decode c.code g.pc = .ok (.dup_x2, 1)) (hs : g.stack = x :: y :: z :: rest) (hc : x.category = 1) (hc2 : y.category = 1) (hc3 : z.category = 1)
    (hr : Steps tb e below (T.setTop { g with pc := g.pc + 1, stack := x :: y :: z :: x :: rest }) target) : Steps tb e below (T.setTop g) target := by
  subst hg
  jvm_step hh [hh.top, hx, hd, hs, hc, hc2, hc3]
  exact hr
theorem oNe {x y : Nat} (q : x < y ∨ y < x) : x ≠ y := by omega
/-! single steps -/
theorem siload {pc pc' : Nat} {Ls : Array Slot} {F : State → Prop} {st : List Value} {k : Nat} {v : Int32} (X : Stand p l e R s m args below meth c T locs cells slots) (hx : p.tables.exec = Jvm.exec) (hd : decode c.code pc = .ok (.iload k, 2)) (hp : pc + 2 = pc') (hl : Ls[k]? = some (.val (.int v))) (kk : oGl p e below (T.setTop (mkF m pc' Ls (.int v :: st))) F) : oGl p e below (T.setTop (mkF m pc Ls (st))) F := by
  subst hp
  exact oOn (fun _ kK => XS.iload X.here hx rfl hd hl kK) kk
theorem siloadN {pc pc' : Nat} {Ls : Array Slot} {F : State → Prop} {st : List Value} {k : Fin 4} {v : Int32} (X : Stand p l e R s m args below meth c T locs cells slots) (hx : p.tables.exec = Jvm.exec) (hd : decode c.code pc = .ok (.iload_n k, 1)) (hp : pc + 1 = pc') (hl : Ls[k.val]? = some (.val (.int v))) (kk : oGl p e below (T.setTop (mkF m pc' Ls (.int v :: st))) F) : oGl p e below (T.setTop (mkF m pc Ls (st))) F := by
  subst hp
  exact oOn (fun _ kK => XS.iloadN X.here hx rfl hd hl kK) kk
theorem slload {pc pc' : Nat} {Ls : Array Slot} {F : State → Prop} {st : List Value} {k : Nat} {v : Int64} (X : Stand p l e R s m args below meth c T locs cells slots) (hx : p.tables.exec = Jvm.exec) (hd : decode c.code pc = .ok (.lload k, 2)) (hp : pc + 2 = pc') (hl : Ls[k]? = some (.val (.long v))) (kk : oGl p e below (T.setTop (mkF m pc' Ls (.long v :: st))) F) : oGl p e below (T.setTop (mkF m pc Ls (st))) F := by
  subst hp
  exact oOn (fun _ kK => XS.lload X.here hx rfl hd hl kK) kk
theorem slloadN {pc pc' : Nat} {Ls : Array Slot} {F : State → Prop} {st : List Value} {k : Fin 4} {v : Int64} (X : Stand p l e R s m args below meth c T locs cells slots) (hx : p.tables.exec = Jvm.exec) (hd : decode c.code pc = .ok (.lload_n k, 1)) (hp : pc + 1 = pc') (hl : Ls[k.val]? = some (.val (.long v))) (kk : oGl p e below (T.setTop (mkF m pc' Ls (.long v :: st))) F) : oGl p e below (T.setTop (mkF m pc Ls (st))) F := by
  subst hp
  exact oOn (fun _ kK => XS.lloadN X.here hx rfl hd hl kK) kk
theorem saload {pc pc' : Nat} {Ls : Array Slot} {F : State → Prop} {st : List Value} {k : Nat} {v : Value} (X : Stand p l e R s m args below meth c T locs cells slots) (hx : p.tables.exec = Jvm.exec) (hd : decode c.code pc = .ok (.aload k, 2)) (hp : pc + 2 = pc') (hl : Ls[k]? = some (.val v)) (hv : v.isRef = true) (kk : oGl p e below (T.setTop (mkF m pc' Ls (v :: st))) F) : oGl p e below (T.setTop (mkF m pc Ls (st))) F := by
  subst hp
  exact oOn (fun _ kK => XS.aload X.here hx rfl hd hl hv kK) kk
theorem saloadN {pc pc' : Nat} {Ls : Array Slot} {F : State → Prop} {st : List Value} {k : Fin 4} {v : Value} (X : Stand p l e R s m args below meth c T locs cells slots) (hx : p.tables.exec = Jvm.exec) (hd : decode c.code pc = .ok (.aload_n k, 1)) (hp : pc + 1 = pc') (hl : Ls[k.val]? = some (.val v)) (hv : v.isRef = true) (kk : oGl p e below (T.setTop (mkF m pc' Ls (v :: st))) F) : oGl p e below (T.setTop (mkF m pc Ls (st))) F := by
  subst hp
  exact oOn (fun _ kK => XS.aloadN X.here hx rfl hd hl hv kK) kk
theorem sistore {pc pc' : Nat} {Ls : Array Slot} {F : State → Prop} {st : List Value} {k : Nat} {x : Int32} {l' : Array Slot} (X : Stand p l e R s m args below meth c T locs cells slots) (hx : p.tables.exec = Jvm.exec) (hd : decode c.code pc = .ok (.istore k, 2)) (hp : pc + 2 = pc') (hl : storeLocals Ls k (.int x) = some l') (kk : oGl p e below (T.setTop (mkF m pc' l' (st))) F) : oGl p e below (T.setTop (mkF m pc Ls (.int x :: st))) F := by
  subst hp
  exact oOn (fun _ kK => XS.istore X.here hx rfl hd rfl hl kK) kk
theorem sistoreN {pc pc' : Nat} {Ls : Array Slot} {F : State → Prop} {st : List Value} {k : Fin 4} {x : Int32} {l' : Array Slot} (X : Stand p l e R s m args below meth c T locs cells slots) (hx : p.tables.exec = Jvm.exec) (hd : decode c.code pc = .ok (.istore_n k, 1)) (hp : pc + 1 = pc') (hl : storeLocals Ls k.val (.int x) = some l') (kk : oGl p e below (T.setTop (mkF m pc' l' (st))) F) : oGl p e below (T.setTop (mkF m pc Ls (.int x :: st))) F := by
  subst hp
  exact oOn (fun _ kK => XS.istoreN X.here hx rfl hd rfl hl kK) kk
theorem slstore {pc pc' : Nat} {Ls : Array Slot} {F : State → Prop} {st : List Value} {k : Nat} {x : Int64} {l' : Array Slot} (X : Stand p l e R s m args below meth c T locs cells slots) (hx : p.tables.exec = Jvm.exec) (hd : decode c.code pc = .ok (.lstore k, 2)) (hp : pc + 2 = pc') (hl : storeLocals Ls k (.long x) = some l') (kk : oGl p e below (T.setTop (mkF m pc' l' (st))) F) : oGl p e below (T.setTop (mkF m pc Ls (.long x :: st))) F := by
  subst hp
  exact oOn (fun _ kK => XS.lstore X.here hx rfl hd rfl hl kK) kk
theorem slstoreN {pc pc' : Nat} {Ls : Array Slot} {F : State → Prop} {st : List Value} {k : Fin 4} {x : Int64} {l' : Array Slot} (X : Stand p l e R s m args below meth c T locs cells slots) (hx : p.tables.exec = Jvm.exec) (hd : decode c.code pc = .ok (.lstore_n k, 1)) (hp : pc + 1 = pc') (hl : storeLocals Ls k.val (.long x) = some l') (kk : oGl p e below (T.setTop (mkF m pc' l' (st))) F) : oGl p e below (T.setTop (mkF m pc Ls (.long x :: st))) F := by
  subst hp
  exact oOn (fun _ kK => XS.lstoreN X.here hx rfl hd rfl hl kK) kk
theorem sastore {pc pc' : Nat} {Ls : Array Slot} {F : State → Prop} {st : List Value} {k : Nat} {x : Value} {l' : Array Slot} (X : Stand p l e R s m args below meth c T locs cells slots) (hx : p.tables.exec = Jvm.exec) (hd : decode c.code pc = .ok (.astore k, 2)) (hp : pc + 2 = pc') (hv : x.isRef = true) (hl : storeLocals Ls k x = some l') (kk : oGl p e below (T.setTop (mkF m pc' l' (st))) F) : oGl p e below (T.setTop (mkF m pc Ls (x :: st))) F := by
  subst hp
  exact oOn (fun _ kK => XS.astore X.here hx rfl hd rfl hv hl kK) kk
theorem sastoreN {pc pc' : Nat} {Ls : Array Slot} {F : State → Prop} {st : List Value} {k : Fin 4} {x : Value} {l' : Array Slot} (X : Stand p l e R s m args below meth c T locs cells slots) (hx : p.tables.exec = Jvm.exec) (hd : decode c.code pc = .ok (.astore_n k, 1)) (hp : pc + 1 = pc') (hv : x.isRef = true) (hl : storeLocals Ls k.val x = some l') (kk : oGl p e below (T.setTop (mkF m pc' l' (st))) F) : oGl p e below (T.setTop (mkF m pc Ls (x :: st))) F := by
  subst hp
  exact oOn (fun _ kK => XS.astoreN X.here hx rfl hd rfl hv hl kK) kk
theorem siconst {pc pc' : Nat} {Ls : Array Slot} {F : State → Prop} {st : List Value} {i : Int} {z : Int32} (X : Stand p l e R s m args below meth c T locs cells slots) (hx : p.tables.exec = Jvm.exec) (hd : decode c.code pc = .ok (.iconst i, 1)) (hp : pc + 1 = pc') (hz : Int32.ofInt i = z) (kk : oGl p e below (T.setTop (mkF m pc' Ls (.int z :: st))) F) : oGl p e below (T.setTop (mkF m pc Ls (st))) F := by
  subst hp hz
  exact oOn (fun _ kK => XS.iconst X.here hx rfl hd kK) kk
theorem sbipush {pc pc' : Nat} {Ls : Array Slot} {F : State → Prop} {st : List Value} {i : Int} {z : Int32} (X : Stand p l e R s m args below meth c T locs cells slots) (hx : p.tables.exec = Jvm.exec) (hd : decode c.code pc = .ok (.bipush i, 2)) (hp : pc + 2 = pc') (hz : (Int8.ofInt i).toInt32 = z) (kk : oGl p e below (T.setTop (mkF m pc' Ls (.int z :: st))) F) : oGl p e below (T.setTop (mkF m pc Ls (st))) F := by
  subst hp hz
  exact oOn (fun _ kK => XS.bipush X.here hx rfl hd kK) kk
theorem ssipush {pc pc' : Nat} {Ls : Array Slot} {F : State → Prop} {st : List Value} {i : Int} {z : Int32} (X : Stand p l e R s m args below meth c T locs cells slots) (hx : p.tables.exec = Jvm.exec) (hd : decode c.code pc = .ok (.sipush i, 3)) (hp : pc + 3 = pc') (hz : (Int16.ofInt i).toInt32 = z) (kk : oGl p e below (T.setTop (mkF m pc' Ls (.int z :: st))) F) : oGl p e below (T.setTop (mkF m pc Ls (st))) F := by
  subst hp hz
  exact oOn (fun _ kK => XS.sipush X.here hx rfl hd kK) kk
theorem slconst {pc pc' : Nat} {Ls : Array Slot} {F : State → Prop} {st : List Value} {k : Fin 2} {z : Int64} (X : Stand p l e R s m args below meth c T locs cells slots) (hx : p.tables.exec = Jvm.exec) (hd : decode c.code pc = .ok (.lconst k, 1)) (hp : pc + 1 = pc') (hz : Int64.ofNat k = z) (kk : oGl p e below (T.setTop (mkF m pc' Ls (.long z :: st))) F) : oGl p e below (T.setTop (mkF m pc Ls (st))) F := by
  subst hp hz
  exact oOn (fun _ kK => XS.lconst X.here hx rfl hd kK) kk
theorem saconst_null {pc pc' : Nat} {Ls : Array Slot} {F : State → Prop} {st : List Value} (X : Stand p l e R s m args below meth c T locs cells slots) (hx : p.tables.exec = Jvm.exec) (hd : decode c.code pc = .ok (.aconst_null, 1)) (hp : pc + 1 = pc')  (kk : oGl p e below (T.setTop (mkF m pc' Ls (.null :: st))) F) : oGl p e below (T.setTop (mkF m pc Ls (st))) F := by
  subst hp
  exact oOn (fun _ kK => XS.aconstNull X.here hx rfl hd kK) kk
theorem siadd {pc pc' : Nat} {Ls : Array Slot} {F : State → Prop} {st : List Value} {x y z : Int32} (X : Stand p l e R s m args below meth c T locs cells slots) (hx : p.tables.exec = Jvm.exec) (hd : decode c.code pc = .ok (.iadd, 1)) (hp : pc + 1 = pc') (hz : x + y = z) (kk : oGl p e below (T.setTop (mkF m pc' Ls (.int z :: st))) F) : oGl p e below (T.setTop (mkF m pc Ls (.int y :: .int x :: st))) F := by
  subst hp hz
  exact oOn (fun _ kK => XS.iadd X.here hx rfl hd rfl kK) kk
theorem sladd {pc pc' : Nat} {Ls : Array Slot} {F : State → Prop} {st : List Value} {x y z : Int64} (X : Stand p l e R s m args below meth c T locs cells slots) (hx : p.tables.exec = Jvm.exec) (hd : decode c.code pc = .ok (.ladd, 1)) (hp : pc + 1 = pc') (hz : x + y = z) (kk : oGl p e below (T.setTop (mkF m pc' Ls (.long z :: st))) F) : oGl p e below (T.setTop (mkF m pc Ls (.long y :: .long x :: st))) F := by
  subst hp hz
  exact oOn (fun _ kK => XS.ladd X.here hx rfl hd rfl kK) kk
theorem sisub {pc pc' : Nat} {Ls : Array Slot} {F : State → Prop} {st : List Value} {x y z : Int32} (X : Stand p l e R s m args below meth c T locs cells slots) (hx : p.tables.exec = Jvm.exec) (hd : decode c.code pc = .ok (.isub, 1)) (hp : pc + 1 = pc') (hz : x - y = z) (kk : oGl p e below (T.setTop (mkF m pc' Ls (.int z :: st))) F) : oGl p e below (T.setTop (mkF m pc Ls (.int y :: .int x :: st))) F := by
  subst hp hz
  exact oOn (fun _ kK => XS.isub X.here hx rfl hd rfl kK) kk
theorem slsub {pc pc' : Nat} {Ls : Array Slot} {F : State → Prop} {st : List Value} {x y z : Int64} (X : Stand p l e R s m args below meth c T locs cells slots) (hx : p.tables.exec = Jvm.exec) (hd : decode c.code pc = .ok (.lsub, 1)) (hp : pc + 1 = pc') (hz : x - y = z) (kk : oGl p e below (T.setTop (mkF m pc' Ls (.long z :: st))) F) : oGl p e below (T.setTop (mkF m pc Ls (.long y :: .long x :: st))) F := by
  subst hp hz
  exact oOn (fun _ kK => XS.lsub X.here hx rfl hd rfl kK) kk
theorem simul {pc pc' : Nat} {Ls : Array Slot} {F : State → Prop} {st : List Value} {x y z : Int32} (X : Stand p l e R s m args below meth c T locs cells slots) (hx : p.tables.exec = Jvm.exec) (hd : decode c.code pc = .ok (.imul, 1)) (hp : pc + 1 = pc') (hz : x * y = z) (kk : oGl p e below (T.setTop (mkF m pc' Ls (.int z :: st))) F) : oGl p e below (T.setTop (mkF m pc Ls (.int y :: .int x :: st))) F := by
  subst hp hz
  exact oOn (fun _ kK => XS.imul X.here hx rfl hd rfl kK) kk
theorem slmul {pc pc' : Nat} {Ls : Array Slot} {F : State → Prop} {st : List Value} {x y z : Int64} (X : Stand p l e R s m args below meth c T locs cells slots) (hx : p.tables.exec = Jvm.exec) (hd : decode c.code pc = .ok (.lmul, 1)) (hp : pc + 1 = pc') (hz : x * y = z) (kk : oGl p e below (T.setTop (mkF m pc' Ls (.long z :: st))) F) : oGl p e below (T.setTop (mkF m pc Ls (.long y :: .long x :: st))) F := by
  subst hp hz
  exact oOn (fun _ kK => XS.lmul X.here hx rfl hd rfl kK) kk
theorem siand {pc pc' : Nat} {Ls : Array Slot} {F : State → Prop} {st : List Value} {x y z : Int32} (X : Stand p l e R s m args below meth c T locs cells slots) (hx : p.tables.exec = Jvm.exec) (hd : decode c.code pc = .ok (.iand, 1)) (hp : pc + 1 = pc') (hz : x &&& y = z) (kk : oGl p e below (T.setTop (mkF m pc' Ls (.int z :: st))) F) : oGl p e below (T.setTop (mkF m pc Ls (.int y :: .int x :: st))) F := by
  subst hp hz
  exact oOn (fun _ kK => XS.iand X.here hx rfl hd rfl kK) kk
theorem sland {pc pc' : Nat} {Ls : Array Slot} {F : State → Prop} {st : List Value} {x y z : Int64} (X : Stand p l e R s m args below meth c T locs cells slots) (hx : p.tables.exec = Jvm.exec) (hd : decode c.code pc = .ok (.land, 1)) (hp : pc + 1 = pc') (hz : x &&& y = z) (kk : oGl p e below (T.setTop (mkF m pc' Ls (.long z :: st))) F) : oGl p e below (T.setTop (mkF m pc Ls (.long y :: .long x :: st))) F := by
  subst hp hz
  exact oOn (fun _ kK => XS.land X.here hx rfl hd rfl kK) kk
theorem sior {pc pc' : Nat} {Ls : Array Slot} {F : State → Prop} {st : List Value} {x y z : Int32} (X : Stand p l e R s m args below meth c T locs cells slots) (hx : p.tables.exec = Jvm.exec) (hd : decode c.code pc = .ok (.ior, 1)) (hp : pc + 1 = pc') (hz : x ||| y = z) (kk : oGl p e below (T.setTop (mkF m pc' Ls (.int z :: st))) F) : oGl p e below (T.setTop (mkF m pc Ls (.int y :: .int x :: st))) F := by
  subst hp hz
  exact oOn (fun _ kK => XS.ior X.here hx rfl hd rfl kK) kk
theorem slor {pc pc' : Nat} {Ls : Array Slot} {F : State → Prop} {st : List Value} {x y z : Int64} (X : Stand p l e R s m args below meth c T locs cells slots) (hx : p.tables.exec = Jvm.exec) (hd : decode c.code pc = .ok (.lor, 1)) (hp : pc + 1 = pc') (hz : x ||| y = z) (kk : oGl p e below (T.setTop (mkF m pc' Ls (.long z :: st))) F) : oGl p e below (T.setTop (mkF m pc Ls (.long y :: .long x :: st))) F := by
  subst hp hz
  exact oOn (fun _ kK => XS.lor X.here hx rfl hd rfl kK) kk
theorem sixor {pc pc' : Nat} {Ls : Array Slot} {F : State → Prop} {st : List Value} {x y z : Int32} (X : Stand p l e R s m args below meth c T locs cells slots) (hx : p.tables.exec = Jvm.exec) (hd : decode c.code pc = .ok (.ixor, 1)) (hp : pc + 1 = pc') (hz : x ^^^ y = z) (kk : oGl p e below (T.setTop (mkF m pc' Ls (.int z :: st))) F) : oGl p e below (T.setTop (mkF m pc Ls (.int y :: .int x :: st))) F := by
  subst hp hz
  exact oOn (fun _ kK => XS.ixor X.here hx rfl hd rfl kK) kk
theorem slxor {pc pc' : Nat} {Ls : Array Slot} {F : State → Prop} {st : List Value} {x y z : Int64} (X : Stand p l e R s m args below meth c T locs cells slots) (hx : p.tables.exec = Jvm.exec) (hd : decode c.code pc = .ok (.lxor, 1)) (hp : pc + 1 = pc') (hz : x ^^^ y = z) (kk : oGl p e below (T.setTop (mkF m pc' Ls (.long z :: st))) F) : oGl p e below (T.setTop (mkF m pc Ls (.long y :: .long x :: st))) F := by
  subst hp hz
  exact oOn (fun _ kK => XS.lxor X.here hx rfl hd rfl kK) kk
theorem sishl {pc pc' : Nat} {Ls : Array Slot} {F : State → Prop} {st : List Value} {x y z : Int32} (X : Stand p l e R s m args below meth c T locs cells slots) (hx : p.tables.exec = Jvm.exec) (hd : decode c.code pc = .ok (.ishl, 1)) (hp : pc + 1 = pc') (hz : x <<< (y &&& 31) = z) (kk : oGl p e below (T.setTop (mkF m pc' Ls (.int z :: st))) F) : oGl p e below (T.setTop (mkF m pc Ls (.int y :: .int x :: st))) F := by
  subst hp hz
  exact oOn (fun _ kK => XS.ishl X.here hx rfl hd rfl kK) kk
theorem sishr {pc pc' : Nat} {Ls : Array Slot} {F : State → Prop} {st : List Value} {x y z : Int32} (X : Stand p l e R s m args below meth c T locs cells slots) (hx : p.tables.exec = Jvm.exec) (hd : decode c.code pc = .ok (.ishr, 1)) (hp : pc + 1 = pc') (hz : x >>> (y &&& 31) = z) (kk : oGl p e below (T.setTop (mkF m pc' Ls (.int z :: st))) F) : oGl p e below (T.setTop (mkF m pc Ls (.int y :: .int x :: st))) F := by
  subst hp hz
  exact oOn (fun _ kK => XS.ishr X.here hx rfl hd rfl kK) kk
theorem siushr {pc pc' : Nat} {Ls : Array Slot} {F : State → Prop} {st : List Value} {x y z : Int32} (X : Stand p l e R s m args below meth c T locs cells slots) (hx : p.tables.exec = Jvm.exec) (hd : decode c.code pc = .ok (.iushr, 1)) (hp : pc + 1 = pc') (hz : (x.toUInt32 >>> (y &&& 31).toUInt32).toInt32 = z) (kk : oGl p e below (T.setTop (mkF m pc' Ls (.int z :: st))) F) : oGl p e below (T.setTop (mkF m pc Ls (.int y :: .int x :: st))) F := by
  subst hp hz
  exact oOn (fun _ kK => XS.iushr X.here hx rfl hd rfl kK) kk
theorem slshl {pc pc' : Nat} {Ls : Array Slot} {F : State → Prop} {st : List Value} {x z : Int64} {y : Int32} (X : Stand p l e R s m args below meth c T locs cells slots) (hx : p.tables.exec = Jvm.exec) (hd : decode c.code pc = .ok (.lshl, 1)) (hp : pc + 1 = pc') (hz : x <<< (y &&& 0x3f).toInt64 = z) (kk : oGl p e below (T.setTop (mkF m pc' Ls (.long z :: st))) F) : oGl p e below (T.setTop (mkF m pc Ls (.int y :: .long x :: st))) F := by
  subst hp hz
  exact oOn (fun _ kK => XS.lshl X.here hx rfl hd rfl kK) kk
theorem slshr {pc pc' : Nat} {Ls : Array Slot} {F : State → Prop} {st : List Value} {x z : Int64} {y : Int32} (X : Stand p l e R s m args below meth c T locs cells slots) (hx : p.tables.exec = Jvm.exec) (hd : decode c.code pc = .ok (.lshr, 1)) (hp : pc + 1 = pc') (hz : x >>> (y &&& 0x3f).toInt64 = z) (kk : oGl p e below (T.setTop (mkF m pc' Ls (.long z :: st))) F) : oGl p e below (T.setTop (mkF m pc Ls (.int y :: .long x :: st))) F := by
  subst hp hz
  exact oOn (fun _ kK => XS.lshr X.here hx rfl hd rfl kK) kk
theorem slushr {pc pc' : Nat} {Ls : Array Slot} {F : State → Prop} {st : List Value} {x z : Int64} {y : Int32} (X : Stand p l e R s m args below meth c T locs cells slots) (hx : p.tables.exec = Jvm.exec) (hd : decode c.code pc = .ok (.lushr, 1)) (hp : pc + 1 = pc') (hz : (x.toUInt64 >>> (y &&& 0x3f).toInt64.toUInt64).toInt64 = z) (kk : oGl p e below (T.setTop (mkF m pc' Ls (.long z :: st))) F) : oGl p e below (T.setTop (mkF m pc Ls (.int y :: .long x :: st))) F := by
  subst hp hz
  exact oOn (fun _ kK => XS.lushr X.here hx rfl hd rfl kK) kk
theorem sineg {pc pc' : Nat} {Ls : Array Slot} {F : State → Prop} {st : List Value} {x : Int32} {z : Int32} (X : Stand p l e R s m args below meth c T locs cells slots) (hx : p.tables.exec = Jvm.exec) (hd : decode c.code pc = .ok (.ineg, 1)) (hp : pc + 1 = pc') (hz : -x = z) (kk : oGl p e below (T.setTop (mkF m pc' Ls (.int z :: st))) F) : oGl p e below (T.setTop (mkF m pc Ls (.int x :: st))) F := by
  subst hp hz
  exact oOn (fun _ kK => XS.ineg X.here hx rfl hd rfl kK) kk
theorem slneg {pc pc' : Nat} {Ls : Array Slot} {F : State → Prop} {st : List Value} {x : Int64} {z : Int64} (X : Stand p l e R s m args below meth c T locs cells slots) (hx : p.tables.exec = Jvm.exec) (hd : decode c.code pc = .ok (.lneg, 1)) (hp : pc + 1 = pc') (hz : -x = z) (kk : oGl p e below (T.setTop (mkF m pc' Ls (.long z :: st))) F) : oGl p e below (T.setTop (mkF m pc Ls (.long x :: st))) F := by
  subst hp hz
  exact oOn (fun _ kK => XS.lneg X.here hx rfl hd rfl kK) kk
theorem si2l {pc pc' : Nat} {Ls : Array Slot} {F : State → Prop} {st : List Value} {x : Int32} {z : Int64} (X : Stand p l e R s m args below meth c T locs cells slots) (hx : p.tables.exec = Jvm.exec) (hd : decode c.code pc = .ok (.i2l, 1)) (hp : pc + 1 = pc') (hz : x.toInt64 = z) (kk : oGl p e below (T.setTop (mkF m pc' Ls (.long z :: st))) F) : oGl p e below (T.setTop (mkF m pc Ls (.int x :: st))) F := by
  subst hp hz
  exact oOn (fun _ kK => XS.i2l X.here hx rfl hd rfl kK) kk
theorem sl2i {pc pc' : Nat} {Ls : Array Slot} {F : State → Prop} {st : List Value} {x : Int64} {z : Int32} (X : Stand p l e R s m args below meth c T locs cells slots) (hx : p.tables.exec = Jvm.exec) (hd : decode c.code pc = .ok (.l2i, 1)) (hp : pc + 1 = pc') (hz : x.toInt32 = z) (kk : oGl p e below (T.setTop (mkF m pc' Ls (.int z :: st))) F) : oGl p e below (T.setTop (mkF m pc Ls (.long x :: st))) F := by
  subst hp hz
  exact oOn (fun _ kK => XS.l2i X.here hx rfl hd rfl kK) kk
theorem si2b {pc pc' : Nat} {Ls : Array Slot} {F : State → Prop} {st : List Value} {x : Int32} {z : Int32} (X : Stand p l e R s m args below meth c T locs cells slots) (hx : p.tables.exec = Jvm.exec) (hd : decode c.code pc = .ok (.i2b, 1)) (hp : pc + 1 = pc') (hz : x.toInt8.toInt32 = z) (kk : oGl p e below (T.setTop (mkF m pc' Ls (.int z :: st))) F) : oGl p e below (T.setTop (mkF m pc Ls (.int x :: st))) F := by
  subst hp hz
  exact oOn (fun _ kK => XS.i2b X.here hx rfl hd rfl kK) kk
theorem si2s {pc pc' : Nat} {Ls : Array Slot} {F : State → Prop} {st : List Value} {x : Int32} {z : Int32} (X : Stand p l e R s m args below meth c T locs cells slots) (hx : p.tables.exec = Jvm.exec) (hd : decode c.code pc = .ok (.i2s, 1)) (hp : pc + 1 = pc') (hz : x.toInt16.toInt32 = z) (kk : oGl p e below (T.setTop (mkF m pc' Ls (.int z :: st))) F) : oGl p e below (T.setTop (mkF m pc Ls (.int x :: st))) F := by
  subst hp hz
  exact oOn (fun _ kK => XS.i2s X.here hx rfl hd rfl kK) kk
theorem si2c {pc pc' : Nat} {Ls : Array Slot} {F : State → Prop} {st : List Value} {x : Int32} {z : Int32} (X : Stand p l e R s m args below meth c T locs cells slots) (hx : p.tables.exec = Jvm.exec) (hd : decode c.code pc = .ok (.i2c, 1)) (hp : pc + 1 = pc') (hz : x.toUInt32.toUInt16.toUInt32.toInt32 = z) (kk : oGl p e below (T.setTop (mkF m pc' Ls (.int z :: st))) F) : oGl p e below (T.setTop (mkF m pc Ls (.int x :: st))) F := by
  subst hp hz
  exact oOn (fun _ kK => XS.i2c X.here hx rfl hd rfl kK) kk
theorem slcmp {pc pc' : Nat} {Ls : Array Slot} {F : State → Prop} {st : List Value} {x y : Int64} (X : Stand p l e R s m args below meth c T locs cells slots) (hx : p.tables.exec = Jvm.exec) (hd : decode c.code pc = .ok (.lcmp, 1)) (hp : pc + 1 = pc')  (kk : oGl p e below (T.setTop (mkF m pc' Ls (.int (lcmpW x y) :: st))) F) : oGl p e below (T.setTop (mkF m pc Ls (.long y :: .long x :: st))) F := by
  subst hp
  exact oOn (fun _ kK => XS.lcmp X.here hx rfl hd rfl kK) kk
theorem sirem {pc pc' : Nat} {Ls : Array Slot} {F : State → Prop} {st : List Value} {x y z : Int32} (X : Stand p l e R s m args below meth c T locs cells slots) (hx : p.tables.exec = Jvm.exec) (hd : decode c.code pc = .ok (.irem, 1)) (hp : pc + 1 = pc') (hy : y ≠ 0) (hz : x % y = z) (kk : oGl p e below (T.setTop (mkF m pc' Ls (.int z :: st))) F) : oGl p e below (T.setTop (mkF m pc Ls (.int y :: .int x :: st))) F := by
  subst hp hz
  exact oOn (fun _ kK => iremM X hx rfl hd rfl hy kK) kk
theorem sidiv {pc pc' : Nat} {Ls : Array Slot} {F : State → Prop} {st : List Value} {x y z : Int32} (X : Stand p l e R s m args below meth c T locs cells slots) (hx : p.tables.exec = Jvm.exec) (hd : decode c.code pc = .ok (.idiv, 1)) (hp : pc + 1 = pc') (hy : y ≠ 0) (hz : x / y = z) (kk : oGl p e below (T.setTop (mkF m pc' Ls (.int z :: st))) F) : oGl p e below (T.setTop (mkF m pc Ls (.int y :: .int x :: st))) F := by
  subst hp hz
  exact oOn (fun _ kK => XS.idiv X.here hx rfl hd rfl hy kK) kk
theorem siinc {pc pc' : Nat} {Ls : Array Slot} {F : State → Prop} {st : List Value} {k : Nat} {cst : Int} {x : Int32} {l' : Array Slot} (X : Stand p l e R s m args below meth c T locs cells slots) (hx : p.tables.exec = Jvm.exec) (hd : decode c.code pc = .ok (.iinc k cst, 3)) (hp : pc + 3 = pc') (hl : Ls[k]? = some (.val (.int x))) (hl' : storeLocals Ls k (.int (x + Int32.ofInt cst)) = some l') (kk : oGl p e below (T.setTop (mkF m pc' l' (st))) F) : oGl p e below (T.setTop (mkF m pc Ls (st))) F := by
  subst hp
  exact oOn (fun _ kK => XS.iinc X.here hx rfl hd hl hl' kK) kk
theorem sdup {pc pc' : Nat} {Ls : Array Slot} {F : State → Prop} {st : List Value} {x : Value} (X : Stand p l e R s m args below meth c T locs cells slots) (hx : p.tables.exec = Jvm.exec) (hd : decode c.code pc = .ok (.dup, 1)) (hp : pc + 1 = pc') (hc : x.category = 1) (kk : oGl p e below (T.setTop (mkF m pc' Ls (x :: x :: st))) F) : oGl p e below (T.setTop (mkF m pc Ls (x :: st))) F := by
  subst hp
  exact oOn (fun _ kK => XS.dup X.here hx rfl hd rfl hc kK) kk
theorem spop {pc pc' : Nat} {Ls : Array Slot} {F : State → Prop} {st : List Value} {x : Value} (X : Stand p l e R s m args below meth c T locs cells slots) (hx : p.tables.exec = Jvm.exec) (hd : decode c.code pc = .ok (.pop, 1)) (hp : pc + 1 = pc') (hc : x.category = 1) (kk : oGl p e below (T.setTop (mkF m pc' Ls (st))) F) : oGl p e below (T.setTop (mkF m pc Ls (x :: st))) F := by
  subst hp
  exact oOn (fun _ kK => XS.pop X.here hx rfl hd rfl hc kK) kk
theorem sdup_x1 {pc pc' : Nat} {Ls : Array Slot} {F : State → Prop} {st : List Value} {x y : Value} (X : Stand p l e R s m args below meth c T locs cells slots) (hx : p.tables.exec = Jvm.exec) (hd : decode c.code pc = .ok (.dup_x1, 1)) (hp : pc + 1 = pc') (hc : x.category = 1) (hc2 : y.category = 1) (kk : oGl p e below (T.setTop (mkF m pc' Ls (x :: y :: x :: st))) F) : oGl p e below (T.setTop (mkF m pc Ls (x :: y :: st))) F := by
  subst hp
  exact oOn (fun _ kK => XS.dupX1 X.here hx rfl hd rfl hc hc2 kK) kk
theorem sdup2 {pc pc' : Nat} {Ls : Array Slot} {F : State → Prop} {st : List Value} {x y : Value} (X : Stand p l e R s m args below meth c T locs cells slots) (hx : p.tables.exec = Jvm.exec) (hd : decode c.code pc = .ok (.dup2, 1)) (hp : pc + 1 = pc') (hc : x.category = 1) (hc2 : y.category = 1) (kk : oGl p e below (T.setTop (mkF m pc' Ls (x :: y :: x :: y :: st))) F) : oGl p e below (T.setTop (mkF m pc Ls (x :: y :: st))) F := by
  subst hp
  exact oOn (fun _ kK => oDup2 X.here hx rfl hd rfl hc hc2 kK) kk
theorem sdup_x2 {pc pc' : Nat} {Ls : Array Slot} {F : State → Prop} {st : List Value} {x y z : Value} (X : Stand p l e R s m args below meth c T locs cells slots) (hx : p.tables.exec = Jvm.exec) (hd : decode c.code pc = .ok (.dup_x2, 1)) (hp : pc + 1 = pc') (hc : x.category = 1) (hc2 : y.category = 1) (hc3 : z.category = 1) (kk : oGl p e below (T.setTop (mkF m pc' Ls (x :: y :: z :: x :: st))) F) : oGl p e below (T.setTop (mkF m pc Ls (x :: y :: z :: st))) F := by
  subst hp
  exact oOn (fun _ kK => oDupX2 X.here hx rfl hd rfl hc hc2 hc3 kK) kk
theorem sgoto {pc pc' : Nat} {Ls : Array Slot} {st : List Value} {F : State → Prop} {o : Int}  (X : Stand p l e R s m args below meth c T locs cells slots) (hx : p.tables.exec = Jvm.exec) (hd : decode c.code pc = .ok (.goto o, 3)) (ho : 0 ≤ (pc : Int) + o) (hp : ((pc : Int) + o).toNat = pc')  (kk : oGl p e below (T.setTop (mkF m pc' Ls st)) F) : oGl p e below (T.setTop (mkF m pc Ls (st))) F :=
  oOn (fun _ kK => XS.goto X.here hx rfl rfl hd ho hp kK) kk
theorem sifY {pc pc' : Nat} {Ls : Array Slot} {st : List Value} {F : State → Prop} {o : Int} {cd : ClassFile.Cond} {x : Int32} (X : Stand p l e R s m args below meth c T locs cells slots) (hx : p.tables.exec = Jvm.exec) (hd : decode c.code pc = .ok (.ifCond cd o, 3)) (ho : 0 ≤ (pc : Int) + o) (hp : ((pc : Int) + o).toNat = pc') (hc : if_icmp.holds cd x 0 = true) (kk : oGl p e below (T.setTop (mkF m pc' Ls st)) F) : oGl p e below (T.setTop (mkF m pc Ls (.int x :: st))) F :=
  oOn (fun _ kK => XS.ifYes X.here hx rfl rfl hd rfl ((if0 _ _).trans hc) ho hp kK) kk
theorem sicY {pc pc' : Nat} {Ls : Array Slot} {st : List Value} {F : State → Prop} {o : Int} {cd : ClassFile.Cond} {x y : Int32} (X : Stand p l e R s m args below meth c T locs cells slots) (hx : p.tables.exec = Jvm.exec) (hd : decode c.code pc = .ok (.if_icmp cd o, 3)) (ho : 0 ≤ (pc : Int) + o) (hp : ((pc : Int) + o).toNat = pc') (hc : if_icmp.holds cd x y = true) (kk : oGl p e below (T.setTop (mkF m pc' Ls st)) F) : oGl p e below (T.setTop (mkF m pc Ls (.int y :: .int x :: st))) F :=
  oOn (fun _ kK => XS.icmpYes X.here hx rfl rfl hd rfl hc ho hp kK) kk
theorem sifnullY {pc pc' : Nat} {Ls : Array Slot} {st : List Value} {F : State → Prop} {o : Int}  (X : Stand p l e R s m args below meth c T locs cells slots) (hx : p.tables.exec = Jvm.exec) (hd : decode c.code pc = .ok (.ifnull o, 3)) (ho : 0 ≤ (pc : Int) + o) (hp : ((pc : Int) + o).toNat = pc')  (kk : oGl p e below (T.setTop (mkF m pc' Ls st)) F) : oGl p e below (T.setTop (mkF m pc Ls (.null :: st))) F :=
  oOn (fun _ kK => XS.ifnullYes X.here hx rfl rfl hd rfl ho hp kK) kk
theorem sifnonnullY {pc pc' : Nat} {Ls : Array Slot} {st : List Value} {F : State → Prop} {o : Int} {b : Addr} (X : Stand p l e R s m args below meth c T locs cells slots) (hx : p.tables.exec = Jvm.exec) (hd : decode c.code pc = .ok (.ifnonnull o, 3)) (ho : 0 ≤ (pc : Int) + o) (hp : ((pc : Int) + o).toNat = pc')  (kk : oGl p e below (T.setTop (mkF m pc' Ls st)) F) : oGl p e below (T.setTop (mkF m pc Ls (.ref b :: st))) F :=
  oOn (fun _ kK => XS.ifnonnullYes X.here hx rfl rfl hd rfl ho hp kK) kk
theorem sifN {pc pc' : Nat} {Ls : Array Slot} {F : State → Prop} {st : List Value} {cd : ClassFile.Cond} {o : Int} {x : Int32} (X : Stand p l e R s m args below meth c T locs cells slots) (hx : p.tables.exec = Jvm.exec) (hd : decode c.code pc = .ok (.ifCond cd o, 3)) (hp : pc + 3 = pc') (hc : if_icmp.holds cd x 0 = false) (kk : oGl p e below (T.setTop (mkF m pc' Ls (st))) F) : oGl p e below (T.setTop (mkF m pc Ls (.int x :: st))) F := by
  subst hp
  exact oOn (fun _ kK => XS.ifNo X.here hx rfl hd rfl ((if0 _ _).trans hc) kK) kk
theorem sicN {pc pc' : Nat} {Ls : Array Slot} {F : State → Prop} {st : List Value} {cd : ClassFile.Cond} {o : Int} {x y : Int32} (X : Stand p l e R s m args below meth c T locs cells slots) (hx : p.tables.exec = Jvm.exec) (hd : decode c.code pc = .ok (.if_icmp cd o, 3)) (hp : pc + 3 = pc') (hc : if_icmp.holds cd x y = false) (kk : oGl p e below (T.setTop (mkF m pc' Ls (st))) F) : oGl p e below (T.setTop (mkF m pc Ls (.int y :: .int x :: st))) F := by
  subst hp
  exact oOn (fun _ kK => XS.icmpNo X.here hx rfl hd rfl hc kK) kk
theorem sifnullN {pc pc' : Nat} {Ls : Array Slot} {F : State → Prop} {st : List Value} {o : Int} {b : Addr} (X : Stand p l e R s m args below meth c T locs cells slots) (hx : p.tables.exec = Jvm.exec) (hd : decode c.code pc = .ok (.ifnull o, 3)) (hp : pc + 3 = pc')  (kk : oGl p e below (T.setTop (mkF m pc' Ls (st))) F) : oGl p e below (T.setTop (mkF m pc Ls (.ref b :: st))) F := by
  subst hp
  exact oOn (fun _ kK => XS.ifnullNo X.here hx rfl hd rfl kK) kk
theorem sifnonnullN {pc pc' : Nat} {Ls : Array Slot} {F : State → Prop} {st : List Value} {o : Int} (X : Stand p l e R s m args below meth c T locs cells slots) (hx : p.tables.exec = Jvm.exec) (hd : decode c.code pc = .ok (.ifnonnull o, 3)) (hp : pc + 3 = pc')  (kk : oGl p e below (T.setTop (mkF m pc' Ls (st))) F) : oGl p e below (T.setTop (mkF m pc Ls (.null :: st))) F := by
  subst hp
  exact oOn (fun _ kK => XS.ifnonnullNo X.here hx rfl hd rfl kK) kk
/-! arrays of ints, bytes, chars, shorts, booleans: place j holds f j -/
def oAI (Z : State) (h : Heap) (a : Addr) (ty : FieldType) (n : Nat) (f : Nat → Int32) : Prop := ∃ c : Cell, Arr Z h a c ty ∧ c.slots.size = n ∧ n < 2147483648 ∧ ∀ j, j < n → c.slots[j]? = some (.int (f j))
def oUp {α : Type} (f : Nat → α) (i : Nat) (x : α) : Nat → α := fun k => if k = i then x else f k
theorem oUp_hit {α : Type} {f : Nat → α} {i : Nat} {x : α} : oUp f i x i = x := if_pos rfl
theorem oUp_miss {α : Type} {f : Nat → α} {i k : Nat} {x : α} (q : k ≠ i) : oUp f i x k = f k := if_neg q
variable {n : Nat} {f f' : Nat → Int32} {sl : Nat} {v : Value} {ws : List Addr}
theorem oAI.lt (F : oAI Z h a ty n f) : @LT.lt Nat _ a h.size := by obtain ⟨c, A, -⟩ := F; exact A.lt
theorem oAI.small (F : oAI Z h a ty n f) : n < 2147483648 := by obtain ⟨c, -, -, q, -⟩ := F; exact q
theorem oAI.ext (F : oAI Z h a ty n f) (E : Ext h h') : oAI Z h' a ty n f := by obtain ⟨c, A, r⟩ := F; exact ⟨c, A.ext E, r⟩
theorem oAI.other (F : oAI Z h b ty n f) (W : Wr h h' a sl v) (q : b ≠ a) : oAI Z h' b ty n f := by obtain ⟨c, A, r⟩ := F; exact ⟨c, A.other W q, r⟩
theorem oAI.keep (F : oAI Z h a ty n f) (K : Keep h h' ws) (q : a ∉ ws) : oAI Z h' a ty n f := by obtain ⟨c, A, r⟩ := F; exact ⟨c, ⟨K.2.1 a c A.1 q, A.2⟩, r⟩
theorem oAI.congr (F : oAI Z h a ty n f) (q : ∀ j, j < n → f j = f' j) : oAI Z h a ty n f' := by obtain ⟨c, A, r1, r2, r3⟩ := F; exact ⟨c, A, r1, r2, fun j hj => by rw [← q j hj]; exact r3 j hj⟩
theorem oAI.new {k : ClassId} {z : Int32} (A : Arr Z h a (newA k ty z) ty) (hn : z.toInt.toNat = n) (hd : defaultValue ty = .int 0 := by rfl) : oAI Z h a ty n (fun _ => 0) := by
  refine ⟨_, A, ?_, ?_, fun j hj => ?_⟩
  · rw [sz_new]; exact hn
  · have := z.toInt_lt; omega
  · have hs : (newA k ty z).slots.size = n := by rw [sz_new]; exact hn
    simp only [newA] at hs ⊢
    rw [Array.getElem?_replicate, if_pos (by simpa using (by simpa using hs : z.toNatClampNeg = n) ▸ hj), hd]
theorem oNotIn {j : Int32} {cl : Cell} (hs : cl.slots.size = n) (hj : 0 ≤ j.toInt ∧ j.toInt < n) : ¬ (j < 0 ∨ cl.slots.size ≤ j.toNatClampNeg) := by
  have h1 : j.toNatClampNeg = j.toInt.toNat := rfl
  rw [hs, h1, Int32.lt_iff_toInt_lt]
  have h2 : (0 : Int32).toInt = 0 := rfl
  rw [h2]; omega
theorem oAI.at (F : oAI Z h a ty n f) {j : Int32} (hj : 0 ≤ j.toInt ∧ j.toInt < n) : ∃ c : Cell, Arr Z h a c ty ∧ ¬ (j < 0 ∨ c.slots.size ≤ j.toNatClampNeg) ∧ c.slots[j.toNatClampNeg]? = some (.int (f j.toInt.toNat)) := by
  obtain ⟨c, A, S, q, G⟩ := F
  exact ⟨c, A, oNotIn S hj, G j.toInt.toNat (by omega)⟩
theorem oAI.set {j : Int32} {x : Int32} (F : oAI Z h a ty n f) (W : Wr h h' a j.toNatClampNeg (.int x)) (hj : 0 ≤ j.toInt ∧ j.toInt < n) : oAI Z h' a ty n (oUp f j.toInt.toNat x) := by
  obtain ⟨c, A, S, q, G⟩ := F
  refine ⟨_, A.same W, by rw [sz_set]; exact S, q, fun k hk => ?_⟩
  have h1 : j.toNatClampNeg = j.toInt.toNat := rfl
  show (c.slots.setIfInBounds j.toNatClampNeg (.int x))[k]? = _
  by_cases e : k = j.toInt.toNat
  · subst e; rw [oUp_hit, h1, Array.getElem?_setIfInBounds_self_of_lt (by rw [S]; exact hk)]
  · rw [oUp_miss e, h1, Array.getElem?_setIfInBounds_ne (Ne.symm e)]; exact G k hk
theorem oAI.len (F : oAI Z h a ty n f) (X : Stand p l e R s m args below meth c T locs cells slots) (hx : p.tables.exec = Jvm.exec) (hZ : Z.Warmed39 s.vm) (eT : T.heap = h) {g : JFrame} (hg : g.method = m) {rest : List Value} (hs : g.stack = .ref a :: rest) (hd : decode c.code g.pc = .ok (.arraylength, 1)) :
    ∀ t, Steps p.tables e below (T.setTop { g with pc := g.pc + 1, stack := .int (Int32.ofNat n) :: rest }) t → Steps p.tables e below (T.setTop g) t := by
  obtain ⟨cl, A, S, -, -⟩ := F
  intro t k
  refine X.arraylength hx (by rw [eT]; exact A.1) (State.isArrayOf_alike hZ.alike A.2.1) hg hs hd _ ?_
  rw [S]; exact k
theorem oAI.ldI (F : oAI Z h a .int n f) (X : Stand p l e R s m args below meth c T locs cells slots) (hx : p.tables.exec = Jvm.exec) (hZ : Z.Warmed39 s.vm) (eT : T.heap = h) {j : Int32} (hj : 0 ≤ j.toInt ∧ j.toInt < n) {g : JFrame} (hg : g.method = m) {rest : List Value} (hs : g.stack = .int j :: .ref a :: rest) (hd : decode c.code g.pc = .ok (.iaload, 1)) :
    ∀ t, Steps p.tables e below (T.setTop { g with pc := g.pc + 1, stack := .int (f j.toInt.toNat) :: rest }) t → Steps p.tables e below (T.setTop g) t := by
  obtain ⟨cl, A, q1, q2⟩ := F.at hj
  exact X.iaload hx (by rw [eT]; exact A.1) (State.isArrayOf_alike hZ.alike A.2.1) A.2.2 q1 q2 hg hs hd
theorem oAI.ldB (F : oAI Z h a .byte n f) (X : Stand p l e R s m args below meth c T locs cells slots) (hx : p.tables.exec = Jvm.exec) (hZ : Z.Warmed39 s.vm) (eT : T.heap = h) {j : Int32} (hj : 0 ≤ j.toInt ∧ j.toInt < n) {g : JFrame} (hg : g.method = m) {rest : List Value} (hs : g.stack = .int j :: .ref a :: rest) (hd : decode c.code g.pc = .ok (.baload, 1)) :
    ∀ t, Steps p.tables e below (T.setTop { g with pc := g.pc + 1, stack := .int (f j.toInt.toNat) :: rest }) t → Steps p.tables e below (T.setTop g) t := by
  obtain ⟨cl, A, q1, q2⟩ := F.at hj
  exact X.baloadBytes hx (by rw [eT]; exact A.1) (State.isArrayOf_alike hZ.alike A.2.1) A.2.2 q1 q2 hg hs hd
theorem oAI.ldZ (F : oAI Z h a .boolean n f) (X : Stand p l e R s m args below meth c T locs cells slots) (hx : p.tables.exec = Jvm.exec) (hZ : Z.Warmed39 s.vm) (eT : T.heap = h) {j : Int32} (hj : 0 ≤ j.toInt ∧ j.toInt < n) {g : JFrame} (hg : g.method = m) {rest : List Value} (hs : g.stack = .int j :: .ref a :: rest) (hd : decode c.code g.pc = .ok (.baload, 1)) :
    ∀ t, Steps p.tables e below (T.setTop { g with pc := g.pc + 1, stack := .int (f j.toInt.toNat) :: rest }) t → Steps p.tables e below (T.setTop g) t := by
  obtain ⟨cl, A, q1, q2⟩ := F.at hj
  exact X.baloadBooleans hx (by rw [eT]; exact A.1) (State.isArrayOf_alike hZ.alike A.2.1) A.2.2 q1 q2 hg hs hd
theorem oAI.ldC (F : oAI Z h a .char n f) (X : Stand p l e R s m args below meth c T locs cells slots) (hx : p.tables.exec = Jvm.exec) (hZ : Z.Warmed39 s.vm) (eT : T.heap = h) {j : Int32} (hj : 0 ≤ j.toInt ∧ j.toInt < n) {g : JFrame} (hg : g.method = m) {rest : List Value} (hs : g.stack = .int j :: .ref a :: rest) (hd : decode c.code g.pc = .ok (.caload, 1)) :
    ∀ t, Steps p.tables e below (T.setTop { g with pc := g.pc + 1, stack := .int (f j.toInt.toNat) :: rest }) t → Steps p.tables e below (T.setTop g) t := by
  obtain ⟨cl, A, q1, q2⟩ := F.at hj
  exact X.caload hx (by rw [eT]; exact A.1) (State.isArrayOf_alike hZ.alike A.2.1) A.2.2 q1 q2 hg hs hd
theorem oAI.ldS (F : oAI Z h a .short n f) (X : Stand p l e R s m args below meth c T locs cells slots) (hx : p.tables.exec = Jvm.exec) (hZ : Z.Warmed39 s.vm) (eT : T.heap = h) {j : Int32} (hj : 0 ≤ j.toInt ∧ j.toInt < n) {g : JFrame} (hg : g.method = m) {rest : List Value} (hs : g.stack = .int j :: .ref a :: rest) (hd : decode c.code g.pc = .ok (.saload, 1)) :
    ∀ t, Steps p.tables e below (T.setTop { g with pc := g.pc + 1, stack := .int (f j.toInt.toNat) :: rest }) t → Steps p.tables e below (T.setTop g) t := by
  obtain ⟨cl, A, q1, q2⟩ := F.at hj
  exact X.saload hx (by rw [eT]; exact A.1) (State.isArrayOf_alike hZ.alike A.2.1) A.2.2 q1 q2 hg hs hd
theorem oAI.stI (F : oAI Z h a .int n f) (X : Stand p l e R s m args below meth c T locs cells slots) (hx : p.tables.exec = Jvm.exec) (hZ : Z.Warmed39 s.vm) (eT : T.heap = h) {j x : Int32} (hj : 0 ≤ j.toInt ∧ j.toInt < n) {g : JFrame} (hg : g.method = m) {rest : List Value} (hs : g.stack = .int x :: .int j :: .ref a :: rest) (hd : decode c.code g.pc = .ok (.iastore, 1)) :
    ∃ T' h', Stand p l e R s m args below meth c T' (locs ++ [⟨a, j.toNatClampNeg⟩]) cells slots ∧ T'.heap = h' ∧ Wr h h' a j.toNatClampNeg (.int x) ∧ oAI Z h' a .int n (oUp f j.toInt.toNat x) ∧ ∀ t, Steps p.tables e below (T'.setTop { g with pc := g.pc + 1, stack := rest }) t → Steps p.tables e below (T.setTop g) t := by
  have F' := F
  obtain ⟨cl, A, S, q, G⟩ := F'
  obtain ⟨T', h', X', e', W, st⟩ := Jvm.RoadKit.stI X hx hZ eT A (x := x) (oNotIn S hj) hg hs hd
  exact ⟨T', h', X', e', W, F.set W hj, st⟩
theorem oAI.stB (F : oAI Z h a .byte n f) (X : Stand p l e R s m args below meth c T locs cells slots) (hx : p.tables.exec = Jvm.exec) (hZ : Z.Warmed39 s.vm) (eT : T.heap = h) {j x : Int32} (hj : 0 ≤ j.toInt ∧ j.toInt < n) {g : JFrame} (hg : g.method = m) {rest : List Value} (hs : g.stack = .int x :: .int j :: .ref a :: rest) (hd : decode c.code g.pc = .ok (.bastore, 1)) :
    ∃ T' h', Stand p l e R s m args below meth c T' (locs ++ [⟨a, j.toNatClampNeg⟩]) cells slots ∧ T'.heap = h' ∧ Wr h h' a j.toNatClampNeg (.int (nar .byte x)) ∧ oAI Z h' a .byte n (oUp f j.toInt.toNat (nar .byte x)) ∧ ∀ t, Steps p.tables e below (T'.setTop { g with pc := g.pc + 1, stack := rest }) t → Steps p.tables e below (T.setTop g) t := by
  have F' := F
  obtain ⟨cl, A, S, q, G⟩ := F'
  obtain ⟨T', h', X', e', W, st⟩ := Jvm.RoadKit.stB X hx hZ eT A (x := x) (oNotIn S hj) hg hs hd
  exact ⟨T', h', X', e', W, F.set W hj, st⟩
theorem oAI.stZ (F : oAI Z h a .boolean n f) (X : Stand p l e R s m args below meth c T locs cells slots) (hx : p.tables.exec = Jvm.exec) (hZ : Z.Warmed39 s.vm) (eT : T.heap = h) {j x : Int32} (hj : 0 ≤ j.toInt ∧ j.toInt < n) {g : JFrame} (hg : g.method = m) {rest : List Value} (hs : g.stack = .int x :: .int j :: .ref a :: rest) (hd : decode c.code g.pc = .ok (.bastore, 1)) :
    ∃ T' h', Stand p l e R s m args below meth c T' (locs ++ [⟨a, j.toNatClampNeg⟩]) cells slots ∧ T'.heap = h' ∧ Wr h h' a j.toNatClampNeg (.int (nar .boolean x)) ∧ oAI Z h' a .boolean n (oUp f j.toInt.toNat (nar .boolean x)) ∧ ∀ t, Steps p.tables e below (T'.setTop { g with pc := g.pc + 1, stack := rest }) t → Steps p.tables e below (T.setTop g) t := by
  have F' := F
  obtain ⟨cl, A, S, q, G⟩ := F'
  obtain ⟨T', h', X', e', W, st⟩ := Jvm.RoadKit.stZ X hx hZ eT A (x := x) (oNotIn S hj) hg hs hd
  exact ⟨T', h', X', e', W, F.set W hj, st⟩
theorem oAI.stC (F : oAI Z h a .char n f) (X : Stand p l e R s m args below meth c T locs cells slots) (hx : p.tables.exec = Jvm.exec) (hZ : Z.Warmed39 s.vm) (eT : T.heap = h) {j x : Int32} (hj : 0 ≤ j.toInt ∧ j.toInt < n) {g : JFrame} (hg : g.method = m) {rest : List Value} (hs : g.stack = .int x :: .int j :: .ref a :: rest) (hd : decode c.code g.pc = .ok (.castore, 1)) :
    ∃ T' h', Stand p l e R s m args below meth c T' (locs ++ [⟨a, j.toNatClampNeg⟩]) cells slots ∧ T'.heap = h' ∧ Wr h h' a j.toNatClampNeg (.int (nar .char x)) ∧ oAI Z h' a .char n (oUp f j.toInt.toNat (nar .char x)) ∧ ∀ t, Steps p.tables e below (T'.setTop { g with pc := g.pc + 1, stack := rest }) t → Steps p.tables e below (T.setTop g) t := by
  have F' := F
  obtain ⟨cl, A, S, q, G⟩ := F'
  obtain ⟨T', h', X', e', W, st⟩ := Jvm.RoadKit.stC X hx hZ eT A (x := x) (oNotIn S hj) hg hs hd
  exact ⟨T', h', X', e', W, F.set W hj, st⟩
theorem oAI.stS (F : oAI Z h a .short n f) (X : Stand p l e R s m args below meth c T locs cells slots) (hx : p.tables.exec = Jvm.exec) (hZ : Z.Warmed39 s.vm) (eT : T.heap = h) {j x : Int32} (hj : 0 ≤ j.toInt ∧ j.toInt < n) {g : JFrame} (hg : g.method = m) {rest : List Value} (hs : g.stack = .int x :: .int j :: .ref a :: rest) (hd : decode c.code g.pc = .ok (.sastore, 1)) :
    ∃ T' h', Stand p l e R s m args below meth c T' (locs ++ [⟨a, j.toNatClampNeg⟩]) cells slots ∧ T'.heap = h' ∧ Wr h h' a j.toNatClampNeg (.int (nar .short x)) ∧ oAI Z h' a .short n (oUp f j.toInt.toNat (nar .short x)) ∧ ∀ t, Steps p.tables e below (T'.setTop { g with pc := g.pc + 1, stack := rest }) t → Steps p.tables e below (T.setTop g) t := by
  have F' := F
  obtain ⟨cl, A, S, q, G⟩ := F'
  obtain ⟨T', h', X', e', W, st⟩ := Jvm.RoadKit.stS X hx hZ eT A (x := x) (oNotIn S hj) hg hs hd
  exact ⟨T', h', X', e', W, F.set W hj, st⟩
/-! words out of words -/
theorem oSame {as : Array Value} {C : String} {x y z : MethodName} (wd : (Jvm.Cond.declares y).before as Z = true) (ws : (Jvm.Cond.selects C x z).before as Z = true) (hc : z.cls = y.cls) (hy : y.cls ≠ "java/lang/invoke/MethodHandle" ∧ y.cls ≠ "java/lang/invoke/VarHandle") : (Jvm.Cond.sameMethod y.cls y.cls y.name y.desc).before as Z = true := by
  obtain ⟨c2, r2, m2, -, -, q3, -, kP, hkP, hkPi⟩ := Cond.selects_spec ws
  have h1 := findClass_of_methodNamed q3
  rw [hc] at h1
  cases hm : Z.methodNamed? y with
  | none => simp [Cond.before, Cond.holds, Cond.value, hm] at wd
  | some mk =>
    have h2 := State.methodFound?_of_named hm hy
    have h3 := findClass_of_methodNamed hm
    simp only [Cond.before, Cond.holds, Cond.value, h1, h2, hm, hkP, Option.any_some, hkPi]
    rfl
theorem oPriv {as : Array Value} {y : MethodName} {kk : Nat} (wi : (Jvm.Cond.instantiable y.cls kk).before as s = true) (hpriv : s.PrivateAt y) (hinst : (Jvm.Cond.instanceMethod y).before as s = true) (hy : y.cls ≠ "java/lang/invoke/MethodHandle" ∧ y.cls ≠ "java/lang/invoke/VarHandle") : (Jvm.Cond.selects y.cls y y).before as s = true := by
  obtain ⟨c, k, h1, h2, h3, h4, -⟩ := Cond.instantiable_spec wi
  have i5 : k.isInterface = false := by cases hq : k.isInterface <;> simp [hq] at h4 ⊢
  exact selects_self_of_private h1 h2 i5 hpriv hinst hy
/-! the start's statics -/
theorem oAnd {A B : Jvm.Cond} {as : Array Value} {st : State} (q : (Jvm.Cond.and A B).before as st = true) : A.before as st = true ∧ B.before as st = true := by
  rw [Cond.before_and, Bool.and_eq_true] at q; exact q
/-- a static that holds exactly an object of the class K -/
theorem oStaR {as : Array Value} {C n d K : String} (q : (Jvm.Cond.exactly (.static C n d) K).before as Z = true) (w1 : (Jvm.Cond.initialized C).before as Z = true) (w2 : (Jvm.Cond.laysStatic C n d).before as Z = true) : ∃ a, (Term.static C n d).eval as Z none [] Z = some (.ref a) ∧ Sta Z Z.heap C n d (.ref a) ∧ Exa Z Z.heap a K := by
  obtain ⟨a, c', cell, k, e1, -⟩ := Cond.exactly_spec q
  exact ⟨a, e1, Sta.start e1 (Or.inr ⟨w1, w2⟩), Exa.start e1 (Cond.before_iff.mp q)⟩
theorem oFldI {as : Array Value} {t : Term} {C n d : String} {k : Int32} {a : Addr} (q : (Jvm.Cond.eq (.field t C n d) (.int k)).before as Z = true) (ev : t.eval as Z none [] Z = some (.ref a)) : Fld Z Z.heap a C n d (.int k) := by
  have q' := Cond.before_iff.mp q
  have e1 : (Term.field t C n d).eval as Z none [] Z = Z.fieldOf? a C n d := by simp [Term.eval, ev]
  refine Fld.start ?_
  simp only [Cond.value, e1] at q'
  cases hf : Z.fieldOf? a C n d with
  | none => simp [hf] at q'
  | some v => cases v <;> simp [hf, Term.eval] at q' ⊢; exact q'
theorem oArgI {as : Array Value} {i : Nat} {w : Value} (q : (Jvm.Cond.isInt (.arg i)).before as s = true) (e : as[i]? = some w) : ∃ z, w = .int z := by
  have q' := Cond.before_iff.mp q
  simp only [Cond.value, Term.eval, e] at q'
  cases w <;> first | exact ⟨_, rfl⟩ | simp at q'
theorem oArgJ {as : Array Value} {i : Nat} {w : Value} (q : (Jvm.Cond.isLong (.arg i)).before as s = true) (e : as[i]? = some w) : ∃ z, w = .long z := by
  have q' := Cond.before_iff.mp q
  simp only [Cond.value, Term.eval, e] at q'
  cases w <;> first | exact ⟨_, rfl⟩ | simp at q'
theorem own_arrAt {Z : State} {ca : Addr} {cl : Cell} {ty : FieldType} (A : Arr Z Z.heap ca cl ty) : Z.arrayAt? ca = some cl := by
  have hp := A.plain
  obtain ⟨h1, ⟨hp', k, hk, comp, hkind⟩, h3⟩ := A
  simp [State.arrayAt?, h1, hk, hkind, h3, hp]
theorem own_len {as : Array Value} {Z : State} {t : Term} {ca : Addr} {cl : Cell} {ty : FieldType} (ev : t.eval as Z none [] Z = some (.ref ca)) (A : Arr Z Z.heap ca cl ty) (q : (Jvm.Cond.eq (.length t) (.int 256)).before as Z = true) : cl.slots.size = 256 := by
  have q' := Cond.before_iff.mp q
  have e1 := own_arrAt A
  by_cases hs : cl.slots.size < 2 ^ 31
  · have e2 : (Term.length t).eval as Z none [] Z = some (.int cl.slots.size.toInt32) := by simp [Term.eval, ev, e1, hs]
    have e3 := Cond.eq_ints e2 (Term.int_eval 256)
    rw [e3] at q'
    have e4 : cl.slots.size.toInt32 = 256 := by simpa using q'
    have e5 : (cl.slots.size.toInt32).toInt = (256 : Int32).toInt := by rw [e4]
    have e6 : (Int32.ofNat cl.slots.size).toInt = cl.slots.size := Int32.toInt_ofNat_of_lt (by omega)
    have e7 : (256 : Int32).toInt = 256 := by decide
    have e8 : cl.slots.size.toInt32 = Int32.ofNat cl.slots.size := rfl
    rw [e8, e6, e7] at e5
    omega
  · have e2 : (Term.length t).eval as Z none [] Z = none := by
      simp [Term.eval, ev]
      intro a ha
      rw [e1] at ha
      cases ha
      omega
    simp [Cond.value, e2] at q'
theorem own_all {as : Array Value} {Z : State} {C n d K : String} {ca : Addr} {cl : Cell} {ty : FieldType} {X : Jvm.Cond} (ev : (Term.static C n d).eval as Z none [] Z = some (.ref ca)) (A : Arr Z Z.heap ca cl ty) (hn : cl.slots.size = 256) (q : (Jvm.Cond.all (.static C n d) (.and (.exactly (.elem (.static C n d) (.index 0)) K) X)).before as Z = true) :
    ∀ j : Int32, 0 ≤ j.toInt ∧ j.toInt < (256 : Nat) → ∃ o, cl.slots[j.toNatClampNeg]? = some (.ref o) ∧ Exa Z Z.heap o K ∧ (Term.elem (.static C n d) (.index 0)).eval as Z none [j.toNatClampNeg] Z = some (.ref o) ∧ X.value as Z none Z [j.toNatClampNeg] = some true := by
  intro j hj
  have e1 := own_arrAt A
  have hj0 : ¬ j < 0 := by rw [Int32.lt_iff_toInt_lt]; have : (0 : Int32).toInt = 0 := rfl; omega
  have h1 : j.toNatClampNeg = j.toInt.toNat := rfl
  have h := Cond.all_elim ev e1 (Cond.before_iff.mp q) j.toNatClampNeg (by rw [hn, h1]; omega)
  obtain ⟨h2, h3⟩ := and_e h
  have ev' : (Term.static C n d).eval as Z none [j.toNatClampNeg] Z = some (.ref ca) := ev
  have e2 : (Term.elem (.static C n d) (.index 0)).eval as Z none [j.toNatClampNeg] Z = cl.slots[j.toNatClampNeg]? := by
    have e3 := idx_at (args := as) (s := Z) (first := Z) (o := none) hj0
    simp only [Term.eval] at ev' e3 ⊢
    rw [ev', e3]
    simp [e1, hj0]
  obtain ⟨o, c', cell, k, f1, -⟩ := Cond.exactly_spec (show (Cond.exactly (.elem (.static C n d) (.index 0)) K).holds as Z none Z [j.toNatClampNeg] = true by simp [Cond.holds, h2])
  exact ⟨o, by rw [← e2]; exact f1, exa_at f1 h2, f1, h3⟩
theorem own_fld {as : Array Value} {Z : State} {t u : Term} {idx : List Nat} {O f D : String} {o : Addr} {k : Int32} (f1 : t.eval as Z none idx Z = some (.ref o)) (hx : (Jvm.Cond.eq (.field t O f D) u).value as Z none Z idx = some true) (hu : u.eval as Z none idx Z = some (.int k)) : Fld Z Z.heap o O f D (.int k) := by
  have e1 : (Term.field t O f D).eval as Z none idx Z = Z.fieldOf? o O f D := by simp [Term.eval, f1]
  refine Fld.start ?_
  simp only [Cond.value, e1, hu] at hx
  cases hf : Z.fieldOf? o O f D with
  | none => simp [hf] at hx
  | some v => cases v <;> simp [hf] at hx ⊢; exact hx
theorem own_ix {as : Array Value} {Z : State} {j : Int32} (hj : 0 ≤ j.toInt) : (Term.sub (.index 0) (.int 128)).eval as Z none [j.toNatClampNeg] Z = some (.int (j - 128)) := by
  have hj0 : ¬ j < 0 := by rw [Int32.lt_iff_toInt_lt]; have : (0 : Int32).toInt = 0 := rfl; omega
  have e3 := idx_at (args := as) (s := Z) (first := Z) (o := none) hj0
  simp only [Term.eval] at e3 ⊢
  rw [e3]; rfl
theorem oEqI {as : Array Value} {t : Term} {k : Int32} (q : (Jvm.Cond.eq t (.int k)).before as Z = true) : t.eval as Z none [] Z = some (.int k) := by
  have q' := Cond.before_iff.mp q
  simp only [Cond.value] at q'
  cases hf : t.eval as Z none [] Z with
  | none => simp [hf] at q'
  | some v => cases v <;> simp [hf, Term.eval] at q' ⊢; exact q'
end OwnKit
def oPick (a : Int32) : Int32 := if a &&& 3 = 0 then 32 else if a &&& 3 = 1 then 9 else if a &&& 3 = 2 then 13 else nar .byte ((a >>> ((2 : Int32) &&& 31)).toInt8.toInt32)
theorem nar_byte2 (x : Int32) : nar .byte (nar .byte x) = nar .byte x := by
  have h : ∀ z : Int8, z.toInt32.toInt8 = z := fun z => by simp
  show (x.toInt8.toInt32).toInt8.toInt32 = x.toInt8.toInt32
  rw [h]
theorem oPick_nar (a : Int32) : nar .byte (oPick a) = oPick a := by
  unfold oPick
  split
  · decide
  · split
    · decide
    · split
      · decide
      · exact nar_byte2 _
def oFits (v i n : Int32) : Int32 := if i < n then (if v = 32 then 1 else if v = 9 then 1 else if i = n - 1 then (if v = 13 then 1 else 0) else 0) else 1
theorem d1_0 : decode method_3_code 0 = .ok (.iload_n 0, 1) := by decide +kernel
theorem d1_1 : decode method_3_code 1 = .ok (.iconst 3, 1) := by decide +kernel
theorem d1_2 : decode method_3_code 2 = .ok (.iand, 1) := by decide +kernel
theorem d1_3 : decode method_3_code 3 = .ok (.istore_n 1, 1) := by decide +kernel
theorem d1_4 : decode method_3_code 4 = .ok (.iload_n 1, 1) := by decide +kernel
theorem d1_5 : decode method_3_code 5 = .ok (.ifCond .ne 6, 3) := by decide +kernel
theorem d1_8 : decode method_3_code 8 = .ok (.bipush 32, 2) := by decide +kernel
theorem d1_10 : decode method_3_code 10 = .ok (.ireturn, 1) := by decide +kernel
theorem d1_11 : decode method_3_code 11 = .ok (.iload_n 1, 1) := by decide +kernel
theorem d1_12 : decode method_3_code 12 = .ok (.iconst 1, 1) := by decide +kernel
theorem d1_13 : decode method_3_code 13 = .ok (.if_icmp .ne 6, 3) := by decide +kernel
theorem d1_16 : decode method_3_code 16 = .ok (.bipush 9, 2) := by decide +kernel
theorem d1_18 : decode method_3_code 18 = .ok (.ireturn, 1) := by decide +kernel
theorem d1_19 : decode method_3_code 19 = .ok (.iload_n 1, 1) := by decide +kernel
theorem d1_20 : decode method_3_code 20 = .ok (.iconst 2, 1) := by decide +kernel
theorem d1_21 : decode method_3_code 21 = .ok (.if_icmp .ne 6, 3) := by decide +kernel
theorem d1_24 : decode method_3_code 24 = .ok (.bipush 13, 2) := by decide +kernel
theorem d1_26 : decode method_3_code 26 = .ok (.ireturn, 1) := by decide +kernel
theorem d1_27 : decode method_3_code 27 = .ok (.iload_n 0, 1) := by decide +kernel
theorem d1_28 : decode method_3_code 28 = .ok (.iconst 2, 1) := by decide +kernel
theorem d1_29 : decode method_3_code 29 = .ok (.ishr, 1) := by decide +kernel
theorem d1_30 : decode method_3_code 30 = .ok (.i2b, 1) := by decide +kernel
theorem d1_31 : decode method_3_code 31 = .ok (.ireturn, 1) := by decide +kernel
theorem pn_LineReaderIsBlankPinLaw : plainName "com/example/yusen_ledger/yusenledger/LineReaderIsBlankPinLaw" = true := by first | (simp [plainName, overriddenIn]; done) | decide +kernel
theorem ef_rmPick (m : MethodId) (x0 : Int32)  : entryFrame m #[(.int x0)] 2 = mkF m 0 #[.val (.int x0), .unset] [] := by first | rfl | (simp [entryFrame, mkF, argsToLocals, Value.category, maxLocals]; done)
def Q_rmPick (Z : State) (a : Int32) (h0 : Heap) (n0 : Nat) (vv : Option Value) (h : Heap) (L : List Loc) : Prop := vv = some (.int (oPick a)) ∧ Fr n0 L ∧ h = h0
set_option maxRecDepth 65536 in
set_option maxHeartbeats 40000000 in
theorem rmPick (l : Launch) (Z : State) (a0 : Array Value) (hw : ∀ d ∈ tables_1, d.before a0 Z = true) (ws : List Jvm.Cond) (a : Int32) (h0 : Heap) (n0 : Nat) (Z0 : n0 ≤ h0.size)  :
    MetFree l (⟨"com/example/yusen_ledger/yusenledger/LineReaderIsBlankPinLaw", "pick", "(I)B"⟩ : MethodName) (head1 (Jvm.Cond.code (⟨"com/example/yusen_ledger/yusenledger/LineReaderIsBlankPinLaw", "pick", "(I)B"⟩ : MethodName) method_3_code 2 (some .byte) :: ws) ({ frames := 0, cells := 0, slots := 0, locals := 0 } : Room)) (fun aA uU => aA = #[(.int a)] ∧ Z.Warmed39 uU.vm ∧ uU.heap = h0) (fun _ _ _ _ _ => True) (fun _ uU oO uU' => ∃ vV lL, oO = .returned vV ∧ Q_rmPick Z a h0 n0 vV uU'.heap lL ∧ FrameEnd uU oO uU' lL ({ frames := 0, cells := 0, slots := 0, locals := 0 } : Room).cells ({ frames := 0, cells := 0, slots := 0, locals := 0 } : Room).slots) := by
  refine MetFree.of_bodySF (plainFor_of_name pn_LineReaderIsBlankPinLaw) hisR ?_
  intro p e s m args below meth c s₁ Bd hml0 hP hK
  obtain ⟨rfl, hZ, hh⟩ := hP
  have hx := Bd.exec
  have hby := Bd.bytes
  have hml : c.maxLocals = 2 := hml0
  have hown : s.vm.findClass "com/example/yusen_ledger/yusenledger/LineReaderIsBlankPinLaw" = some m.cls := findClass_of_methodNamed Bd.named
  have hnm := (name_of_methodNamed Bd.named Bd.method).1
  have X0 : Stand p l e ({ frames := 0, cells := 0, slots := 0, locals := 0 } : Room) s m #[(.int a)] below meth c s₁ [] 0 0 := Stand.of_body Bd
  have e0 : s₁.heap = h0 := by rw [← hh, Bd.state]; rfl
  have N0 := Fr.nil n0
  refine oEnter (oCast (ef_rmPick m a ) ?_)
  show oGl p e below (s₁.setTop (mkF m 0 #[.val (.int a), .unset] [])) _
  refine siloadN X0 hx (hb hby d1_0) rfl rfl (pc' := 1) ?_
  refine siconst X0 hx (hb hby d1_1) rfl rfl (z := 3) (pc' := 2) ?_
  refine siand X0 hx (hb hby d1_2) rfl rfl (pc' := 3) ?_
  refine sistoreN X0 hx (hb hby d1_3) rfl rfl (l' := #[.val (.int a), .val (.int (a &&& (3 : Int32)))]) (pc' := 4) ?_
  refine siloadN X0 hx (hb hby d1_4) rfl rfl (pc' := 5) ?_
  by_cases hc5 : (a &&& (3 : Int32)) = (0 : Int32)
  · skip
    refine sifN X0 hx (hb hby d1_5) rfl (teq hc5).2 (pc' := 8) ?_
    refine sbipush X0 hx (hb hby d1_8) rfl rfl (z := 32) (pc' := 10) ?_
    refine oRetN (t := .byte) X0 hx Bd.notSynchronized Bd.returns (by simp) (hb hby d1_10) (by decide) (by decide) ?_
    show Q_rmPick Z a h0 n0 _ s₁.heap _
    rw [e0]
    exact ⟨by rw [oPick, if_pos hc5]; rfl, N0, rfl⟩
  · skip
    refine sifY X0 hx (hb hby d1_5) (by decide) (by decide) (feq hc5).2 (pc' := 11) ?_
    refine siloadN X0 hx (hb hby d1_11) rfl rfl (pc' := 12) ?_
    refine siconst X0 hx (hb hby d1_12) rfl rfl (z := 1) (pc' := 13) ?_
    by_cases hc13 : (a &&& (3 : Int32)) = (1 : Int32)
    · skip
      refine sicN X0 hx (hb hby d1_13) rfl (teq hc13).2 (pc' := 16) ?_
      refine sbipush X0 hx (hb hby d1_16) rfl rfl (z := 9) (pc' := 18) ?_
      refine oRetN (t := .byte) X0 hx Bd.notSynchronized Bd.returns (by simp) (hb hby d1_18) (by decide) (by decide) ?_
      show Q_rmPick Z a h0 n0 _ s₁.heap _
      rw [e0]
      exact ⟨by rw [oPick, if_neg hc5, if_pos hc13]; rfl, N0, rfl⟩
    · skip
      refine sicY X0 hx (hb hby d1_13) (by decide) (by decide) (feq hc13).2 (pc' := 19) ?_
      refine siloadN X0 hx (hb hby d1_19) rfl rfl (pc' := 20) ?_
      refine siconst X0 hx (hb hby d1_20) rfl rfl (z := 2) (pc' := 21) ?_
      by_cases hc21 : (a &&& (3 : Int32)) = (2 : Int32)
      · skip
        refine sicN X0 hx (hb hby d1_21) rfl (teq hc21).2 (pc' := 24) ?_
        refine sbipush X0 hx (hb hby d1_24) rfl rfl (z := 13) (pc' := 26) ?_
        refine oRetN (t := .byte) X0 hx Bd.notSynchronized Bd.returns (by simp) (hb hby d1_26) (by decide) (by decide) ?_
        show Q_rmPick Z a h0 n0 _ s₁.heap _
        rw [e0]
        exact ⟨by rw [oPick, if_neg hc5, if_neg hc13, if_pos hc21]; rfl, N0, rfl⟩
      · skip
        refine sicY X0 hx (hb hby d1_21) (by decide) (by decide) (feq hc21).2 (pc' := 27) ?_
        refine siloadN X0 hx (hb hby d1_27) rfl rfl (pc' := 28) ?_
        refine siconst X0 hx (hb hby d1_28) rfl rfl (z := 2) (pc' := 29) ?_
        refine sishr X0 hx (hb hby d1_29) rfl rfl (pc' := 30) ?_
        refine si2b X0 hx (hb hby d1_30) rfl rfl (pc' := 31) ?_
        refine oRetN (t := .byte) X0 hx Bd.notSynchronized Bd.returns (by simp) (hb hby d1_31) (by decide) (by decide) ?_
        show Q_rmPick Z a h0 n0 _ s₁.heap _
        rw [e0]
        exact ⟨by rw [oPick, if_neg hc5, if_neg hc13, if_neg hc21], N0, rfl⟩
theorem d2_0 : decode method_4_code 0 = .ok (.iload_n 1, 1) := by decide +kernel
theorem d2_1 : decode method_4_code 1 = .ok (.iload_n 2, 1) := by decide +kernel
theorem d2_2 : decode method_4_code 2 = .ok (.if_icmp .lt 5, 3) := by decide +kernel
theorem d2_7 : decode method_4_code 7 = .ok (.iload_n 0, 1) := by decide +kernel
theorem d2_8 : decode method_4_code 8 = .ok (.bipush 32, 2) := by decide +kernel
theorem d2_10 : decode method_4_code 10 = .ok (.if_icmp .eq 9, 3) := by decide +kernel
theorem d2_19 : decode method_4_code 19 = .ok (.iconst 1, 1) := by decide +kernel
theorem d2_20 : decode method_4_code 20 = .ok (.ireturn, 1) := by decide +kernel
theorem d2_13 : decode method_4_code 13 = .ok (.iload_n 0, 1) := by decide +kernel
theorem d2_14 : decode method_4_code 14 = .ok (.bipush 9, 2) := by decide +kernel
theorem d2_16 : decode method_4_code 16 = .ok (.if_icmp .ne 5, 3) := by decide +kernel
theorem d2_21 : decode method_4_code 21 = .ok (.iload_n 1, 1) := by decide +kernel
theorem d2_22 : decode method_4_code 22 = .ok (.iload_n 2, 1) := by decide +kernel
theorem d2_23 : decode method_4_code 23 = .ok (.iconst 1, 1) := by decide +kernel
theorem d2_24 : decode method_4_code 24 = .ok (.isub, 1) := by decide +kernel
theorem d2_25 : decode method_4_code 25 = .ok (.if_icmp .ne 13, 3) := by decide +kernel
theorem d2_28 : decode method_4_code 28 = .ok (.iload_n 0, 1) := by decide +kernel
theorem d2_29 : decode method_4_code 29 = .ok (.bipush 13, 2) := by decide +kernel
theorem d2_31 : decode method_4_code 31 = .ok (.if_icmp .ne 7, 3) := by decide +kernel
theorem d2_34 : decode method_4_code 34 = .ok (.iconst 1, 1) := by decide +kernel
theorem d2_35 : decode method_4_code 35 = .ok (.goto 4, 3) := by decide +kernel
theorem d2_39 : decode method_4_code 39 = .ok (.ireturn, 1) := by decide +kernel
theorem d2_38 : decode method_4_code 38 = .ok (.iconst 0, 1) := by decide +kernel
theorem d2_5 : decode method_4_code 5 = .ok (.iconst 1, 1) := by decide +kernel
theorem d2_6 : decode method_4_code 6 = .ok (.ireturn, 1) := by decide +kernel
theorem ef_rmFits (m : MethodId) (x0 : Int32) (x1 : Int32) (x2 : Int32)  : entryFrame m #[(.int x0), (.int x1), (.int x2)] 3 = mkF m 0 #[.val (.int x0), .val (.int x1), .val (.int x2)] [] := by first | rfl | (simp [entryFrame, mkF, argsToLocals, Value.category, maxLocals]; done)
def Q_rmFits (Z : State) (a i n : Int32) (h0 : Heap) (n0 : Nat) (vv : Option Value) (h : Heap) (L : List Loc) : Prop := vv = some (.int (oFits a i n)) ∧ Fr n0 L ∧ h = h0
set_option maxRecDepth 65536 in
set_option maxHeartbeats 40000000 in
theorem rmFits (l : Launch) (Z : State) (a0 : Array Value) (hw : ∀ d ∈ tables_1, d.before a0 Z = true) (ws : List Jvm.Cond) (a i n : Int32) (h0 : Heap) (n0 : Nat) (Z0 : n0 ≤ h0.size)  :
    MetFree l (⟨"com/example/yusen_ledger/yusenledger/LineReaderIsBlankPinLaw", "fits", "(BII)Z"⟩ : MethodName) (head1 (Jvm.Cond.code (⟨"com/example/yusen_ledger/yusenledger/LineReaderIsBlankPinLaw", "fits", "(BII)Z"⟩ : MethodName) method_4_code 3 (some .boolean) :: ws) ({ frames := 0, cells := 0, slots := 0, locals := 0 } : Room)) (fun aA uU => aA = #[(.int a), (.int i), (.int n)] ∧ Z.Warmed39 uU.vm ∧ uU.heap = h0) (fun _ _ _ _ _ => True) (fun _ uU oO uU' => ∃ vV lL, oO = .returned vV ∧ Q_rmFits Z a i n h0 n0 vV uU'.heap lL ∧ FrameEnd uU oO uU' lL ({ frames := 0, cells := 0, slots := 0, locals := 0 } : Room).cells ({ frames := 0, cells := 0, slots := 0, locals := 0 } : Room).slots) := by
  refine MetFree.of_bodySF (plainFor_of_name pn_LineReaderIsBlankPinLaw) hisR ?_
  intro p e s m args below meth c s₁ Bd hml0 hP hK
  obtain ⟨rfl, hZ, hh⟩ := hP
  have hx := Bd.exec
  have hby := Bd.bytes
  have hml : c.maxLocals = 3 := hml0
  have hown : s.vm.findClass "com/example/yusen_ledger/yusenledger/LineReaderIsBlankPinLaw" = some m.cls := findClass_of_methodNamed Bd.named
  have hnm := (name_of_methodNamed Bd.named Bd.method).1
  have X0 : Stand p l e ({ frames := 0, cells := 0, slots := 0, locals := 0 } : Room) s m #[(.int a), (.int i), (.int n)] below meth c s₁ [] 0 0 := Stand.of_body Bd
  have e0 : s₁.heap = h0 := by rw [← hh, Bd.state]; rfl
  have N0 := Fr.nil n0
  refine oEnter (oCast (ef_rmFits m a i n ) ?_)
  show oGl p e below (s₁.setTop (mkF m 0 #[.val (.int a), .val (.int i), .val (.int n)] [])) _
  refine siloadN X0 hx (hb hby d2_0) rfl rfl (pc' := 1) ?_
  refine siloadN X0 hx (hb hby d2_1) rfl rfl (pc' := 2) ?_
  by_cases hc2 : i < n
  · skip
    refine sicY X0 hx (hb hby d2_2) (by decide) (by decide) (tlt hc2).1 (pc' := 7) ?_
    refine siloadN X0 hx (hb hby d2_7) rfl rfl (pc' := 8) ?_
    refine sbipush X0 hx (hb hby d2_8) rfl rfl (z := 32) (pc' := 10) ?_
    by_cases hc10 : a = (32 : Int32)
    · skip
      refine sicY X0 hx (hb hby d2_10) (by decide) (by decide) (teq hc10).1 (pc' := 19) ?_
      refine siconst X0 hx (hb hby d2_19) rfl rfl (z := 1) (pc' := 20) ?_
      refine oRetN (t := .boolean) X0 hx Bd.notSynchronized Bd.returns (by simp) (hb hby d2_20) (by decide) (by decide) ?_
      show Q_rmFits Z a i n h0 n0 _ s₁.heap _
      rw [e0]
      exact ⟨by rw [oFits, if_pos hc2, if_pos hc10]; rfl, N0, rfl⟩
    · skip
      refine sicN X0 hx (hb hby d2_10) rfl (feq hc10).1 (pc' := 13) ?_
      refine siloadN X0 hx (hb hby d2_13) rfl rfl (pc' := 14) ?_
      refine sbipush X0 hx (hb hby d2_14) rfl rfl (z := 9) (pc' := 16) ?_
      by_cases hc16 : a = (9 : Int32)
      · skip
        refine sicN X0 hx (hb hby d2_16) rfl (teq hc16).2 (pc' := 19) ?_
        refine siconst X0 hx (hb hby d2_19) rfl rfl (z := 1) (pc' := 20) ?_
        refine oRetN (t := .boolean) X0 hx Bd.notSynchronized Bd.returns (by simp) (hb hby d2_20) (by decide) (by decide) ?_
        show Q_rmFits Z a i n h0 n0 _ s₁.heap _
        rw [e0]
        exact ⟨by rw [oFits, if_pos hc2, if_neg hc10, if_pos hc16]; rfl, N0, rfl⟩
      · skip
        refine sicY X0 hx (hb hby d2_16) (by decide) (by decide) (feq hc16).2 (pc' := 21) ?_
        refine siloadN X0 hx (hb hby d2_21) rfl rfl (pc' := 22) ?_
        refine siloadN X0 hx (hb hby d2_22) rfl rfl (pc' := 23) ?_
        refine siconst X0 hx (hb hby d2_23) rfl rfl (z := 1) (pc' := 24) ?_
        refine sisub X0 hx (hb hby d2_24) rfl rfl (pc' := 25) ?_
        by_cases hc25 : i = (n - (1 : Int32))
        · skip
          refine sicN X0 hx (hb hby d2_25) rfl (teq hc25).2 (pc' := 28) ?_
          refine siloadN X0 hx (hb hby d2_28) rfl rfl (pc' := 29) ?_
          refine sbipush X0 hx (hb hby d2_29) rfl rfl (z := 13) (pc' := 31) ?_
          by_cases hc31 : a = (13 : Int32)
          · skip
            refine sicN X0 hx (hb hby d2_31) rfl (teq hc31).2 (pc' := 34) ?_
            refine siconst X0 hx (hb hby d2_34) rfl rfl (z := 1) (pc' := 35) ?_
            refine sgoto X0 hx (hb hby d2_35) (by decide) (by decide)  (pc' := 39) ?_
            refine oRetN (t := .boolean) X0 hx Bd.notSynchronized Bd.returns (by simp) (hb hby d2_39) (by decide) (by decide) ?_
            show Q_rmFits Z a i n h0 n0 _ s₁.heap _
            rw [e0]
            exact ⟨by rw [oFits, if_pos hc2, if_neg hc10, if_neg hc16, if_pos hc25, if_pos hc31]; rfl, N0, rfl⟩
          · skip
            refine sicY X0 hx (hb hby d2_31) (by decide) (by decide) (feq hc31).2 (pc' := 38) ?_
            refine siconst X0 hx (hb hby d2_38) rfl rfl (z := 0) (pc' := 39) ?_
            refine oRetN (t := .boolean) X0 hx Bd.notSynchronized Bd.returns (by simp) (hb hby d2_39) (by decide) (by decide) ?_
            show Q_rmFits Z a i n h0 n0 _ s₁.heap _
            rw [e0]
            exact ⟨by rw [oFits, if_pos hc2, if_neg hc10, if_neg hc16, if_pos hc25, if_neg hc31]; rfl, N0, rfl⟩
        · skip
          refine sicY X0 hx (hb hby d2_25) (by decide) (by decide) (feq hc25).2 (pc' := 38) ?_
          refine siconst X0 hx (hb hby d2_38) rfl rfl (z := 0) (pc' := 39) ?_
          refine oRetN (t := .boolean) X0 hx Bd.notSynchronized Bd.returns (by simp) (hb hby d2_39) (by decide) (by decide) ?_
          show Q_rmFits Z a i n h0 n0 _ s₁.heap _
          rw [e0]
          exact ⟨by rw [oFits, if_pos hc2, if_neg hc10, if_neg hc16, if_neg hc25]; rfl, N0, rfl⟩
  · skip
    refine sicN X0 hx (hb hby d2_2) rfl (flt hc2).1 (pc' := 5) ?_
    refine siconst X0 hx (hb hby d2_5) rfl rfl (z := 1) (pc' := 6) ?_
    refine oRetN (t := .boolean) X0 hx Bd.notSynchronized Bd.returns (by simp) (hb hby d2_6) (by decide) (by decide) ?_
    show Q_rmFits Z a i n h0 n0 _ s₁.heap _
    rw [e0]
    exact ⟨by rw [oFits, if_neg hc2]; rfl, N0, rfl⟩
def oOk (x : Int32) : Prop := x = 32 ∨ x = 9
def oEnd (n : Nat) (f : Nat → Int32) : Nat := if 0 < n ∧ f (n - 1) = 13 then n - 1 else n
theorem own_ofNat {n : Nat} (h : n < 2147483648) : (Int32.ofNat n).toInt = n := Int32.toInt_ofNat_of_lt (by omega)
theorem own_inc {x : Int32} (h : x.toInt < 2147483647) : (x + (1 : Int32)).toInt = x.toInt + 1 := by
  have h1 := c_iadd x 1; have h2 := rng32 (x + 1); have h3 := rng32 x; have e1 : (1 : Int32).toInt = 1 := rfl
  omega
theorem own_decr {x : Int32} (h : -2147483648 < x.toInt) : (x + (-1 : Int32)).toInt = x.toInt - 1 := by
  have h1 := c_iadd x (-1); have h2 := rng32 (x + (-1)); have h3 := rng32 x; have e1 : (-1 : Int32).toInt = -1 := by decide
  omega
theorem own_sub1 {x : Int32} (h : -2147483648 < x.toInt) : (x - (1 : Int32)).toInt = x.toInt - 1 := by
  have h1 := c_isub x 1; have h2 := rng32 (x - 1); have h3 := rng32 x; have e1 : (1 : Int32).toInt = 1 := by decide
  omega
theorem own_pos {n : Nat} (h : n < 2147483648) (q : ¬ ((0 : Int32) < Int32.ofNat n)) : n = 0 := by
  rw [Int32.lt_iff_toInt_lt, own_ofNat h] at q; have e0 : (0 : Int32).toInt = 0 := rfl
  omega
theorem own_npos {n : Nat} (h : n < 2147483648) (q : (0 : Int32) < Int32.ofNat n) : 0 < n := by
  rw [Int32.lt_iff_toInt_lt, own_ofNat h] at q; have e0 : (0 : Int32).toInt = 0 := rfl
  omega
theorem own_dec {n : Nat} (h : n < 2147483648) (q : 0 < n) : (Int32.ofNat n + (-1 : Int32)).toInt = (n : Int) - 1 := by
  rw [own_decr (by rw [own_ofNat h]; omega), own_ofNat h]
theorem own_pred {n : Nat} (h : n < 2147483648) (q : 0 < n) : n - 1 = (Int32.ofNat n - (1 : Int32)).toInt.toNat := by
  rw [own_sub1 (by rw [own_ofNat h]; omega), own_ofNat h]; omega
theorem own_predI {n : Nat} (h : n < 2147483648) (q : (0 : Int32) < Int32.ofNat n) : 0 ≤ (Int32.ofNat n - (1 : Int32)).toInt ∧ (Int32.ofNat n - (1 : Int32)).toInt < n := by
  have := own_npos h q
  rw [own_sub1 (by rw [own_ofNat h]; omega), own_ofNat h]; omega
theorem d3_0 : decode prog_42_method_7_code 0 = .ok (.aload_n 0, 1) := by decide +kernel
theorem d3_1 : decode prog_42_method_7_code 1 = .ok (.arraylength, 1) := by decide +kernel
theorem d3_2 : decode prog_42_method_7_code 2 = .ok (.istore_n 1, 1) := by decide +kernel
theorem d3_3 : decode prog_42_method_7_code 3 = .ok (.iload_n 1, 1) := by decide +kernel
theorem d3_4 : decode prog_42_method_7_code 4 = .ok (.ifCond .le 16, 3) := by decide +kernel
theorem d3_7 : decode prog_42_method_7_code 7 = .ok (.aload_n 0, 1) := by decide +kernel
theorem d3_8 : decode prog_42_method_7_code 8 = .ok (.iload_n 1, 1) := by decide +kernel
theorem d3_9 : decode prog_42_method_7_code 9 = .ok (.iconst 1, 1) := by decide +kernel
theorem d3_10 : decode prog_42_method_7_code 10 = .ok (.isub, 1) := by decide +kernel
theorem d3_11 : decode prog_42_method_7_code 11 = .ok (.baload, 1) := by decide +kernel
theorem d3_12 : decode prog_42_method_7_code 12 = .ok (.bipush 13, 2) := by decide +kernel
theorem d3_14 : decode prog_42_method_7_code 14 = .ok (.if_icmp .ne 6, 3) := by decide +kernel
theorem d3_17 : decode prog_42_method_7_code 17 = .ok (.iinc 1 (-1), 3) := by decide +kernel
theorem d3_20 : decode prog_42_method_7_code 20 = .ok (.iconst 1, 1) := by decide +kernel
theorem d3_21 : decode prog_42_method_7_code 21 = .ok (.istore_n 2, 1) := by decide +kernel
theorem d3_22 : decode prog_42_method_7_code 22 = .ok (.iconst 0, 1) := by decide +kernel
theorem d3_23 : decode prog_42_method_7_code 23 = .ok (.istore_n 3, 1) := by decide +kernel
theorem d3_24 : decode prog_42_method_7_code 24 = .ok (.iload_n 2, 1) := by decide +kernel
theorem d3_25 : decode prog_42_method_7_code 25 = .ok (.ifCond .eq 36, 3) := by decide +kernel
theorem d3_61 : decode prog_42_method_7_code 61 = .ok (.iload_n 2, 1) := by decide +kernel
theorem d3_62 : decode prog_42_method_7_code 62 = .ok (.ireturn, 1) := by decide +kernel
theorem d3_28 : decode prog_42_method_7_code 28 = .ok (.iload_n 3, 1) := by decide +kernel
theorem d3_29 : decode prog_42_method_7_code 29 = .ok (.iload_n 1, 1) := by decide +kernel
theorem d3_30 : decode prog_42_method_7_code 30 = .ok (.if_icmp .ge 31, 3) := by decide +kernel
theorem d3_33 : decode prog_42_method_7_code 33 = .ok (.aload_n 0, 1) := by decide +kernel
theorem d3_34 : decode prog_42_method_7_code 34 = .ok (.iload_n 3, 1) := by decide +kernel
theorem d3_35 : decode prog_42_method_7_code 35 = .ok (.baload, 1) := by decide +kernel
theorem d3_36 : decode prog_42_method_7_code 36 = .ok (.bipush 32, 2) := by decide +kernel
theorem d3_38 : decode prog_42_method_7_code 38 = .ok (.if_icmp .eq 11, 3) := by decide +kernel
theorem d3_49 : decode prog_42_method_7_code 49 = .ok (.iconst 1, 1) := by decide +kernel
theorem d3_50 : decode prog_42_method_7_code 50 = .ok (.goto 4, 3) := by decide +kernel
theorem d3_54 : decode prog_42_method_7_code 54 = .ok (.istore_n 2, 1) := by decide +kernel
theorem d3_55 : decode prog_42_method_7_code 55 = .ok (.iinc 3 1, 3) := by decide +kernel
theorem d3_58 : decode prog_42_method_7_code 58 = .ok (.goto (-34), 3) := by decide +kernel
theorem d3_41 : decode prog_42_method_7_code 41 = .ok (.aload_n 0, 1) := by decide +kernel
theorem d3_42 : decode prog_42_method_7_code 42 = .ok (.iload_n 3, 1) := by decide +kernel
theorem d3_43 : decode prog_42_method_7_code 43 = .ok (.baload, 1) := by decide +kernel
theorem d3_44 : decode prog_42_method_7_code 44 = .ok (.bipush 9, 2) := by decide +kernel
theorem d3_46 : decode prog_42_method_7_code 46 = .ok (.if_icmp .ne 7, 3) := by decide +kernel
theorem d3_53 : decode prog_42_method_7_code 53 = .ok (.iconst 0, 1) := by decide +kernel
theorem pn_LineReader : plainName "com/example/yusen_ledger/yusenledger/LineReader" = true := by first | (simp [plainName, overriddenIn]; done) | decide +kernel
theorem ef_rmBlank (m : MethodId) (x0 : Nat)  : entryFrame m #[(.ref x0)] 4 = mkF m 0 #[.val (.ref x0), .unset, .unset, .unset] [] := by first | rfl | (simp [entryFrame, mkF, argsToLocals, Value.category, maxLocals]; done)
def Q_rmBlank (Z : State) (a : Nat) (n : Nat) (f : Nat → Int32) (h0 : Heap) (n0 : Nat) (vv : Option Value) (h : Heap) (L : List Loc) : Prop := ∃ r : Int32, vv = some (.int r) ∧ Fr n0 L ∧ h = h0 ∧ ((r = 1 ∧ ∀ j : Nat, j < oEnd n f → oOk (f j)) ∨ (r = 0 ∧ ∃ j : Nat, j < oEnd n f ∧ ¬ oOk (f j)))
set_option maxRecDepth 65536 in
set_option maxHeartbeats 40000000 in
theorem rmBlank (l : Launch) (Z : State) (a0 : Array Value) (hw : ∀ d ∈ tables_1, d.before a0 Z = true) (ws : List Jvm.Cond) (a : Nat) (n : Nat) (f : Nat → Int32) (h0 : Heap) (n0 : Nat) (Z0 : n0 ≤ h0.size) (V0 : oAI Z h0 a .byte n f) :
    MetFree l (⟨"com/example/yusen_ledger/yusenledger/LineReader", "isBlank", "([B)Z"⟩ : MethodName) (head1 (Jvm.Cond.code (⟨"com/example/yusen_ledger/yusenledger/LineReader", "isBlank", "([B)Z"⟩ : MethodName) prog_42_method_7_code 4 (some .boolean) :: ws) ({ frames := 0, cells := 0, slots := 0, locals := 0 } : Room)) (fun aA uU => aA = #[(.ref a)] ∧ Z.Warmed39 uU.vm ∧ uU.heap = h0) (fun _ _ _ _ _ => True) (fun _ uU oO uU' => ∃ vV lL, oO = .returned vV ∧ Q_rmBlank Z a n f h0 n0 vV uU'.heap lL ∧ FrameEnd uU oO uU' lL ({ frames := 0, cells := 0, slots := 0, locals := 0 } : Room).cells ({ frames := 0, cells := 0, slots := 0, locals := 0 } : Room).slots) := by
  refine MetFree.of_bodySF (plainFor_of_name pn_LineReader) hisR ?_
  intro p e s m args below meth c s₁ Bd hml0 hP hK
  obtain ⟨rfl, hZ, hh⟩ := hP
  have hx := Bd.exec
  have hby := Bd.bytes
  have hml : c.maxLocals = 4 := hml0
  have hown : s.vm.findClass "com/example/yusen_ledger/yusenledger/LineReader" = some m.cls := findClass_of_methodNamed Bd.named
  have hnm := (name_of_methodNamed Bd.named Bd.method).1
  have X0 : Stand p l e ({ frames := 0, cells := 0, slots := 0, locals := 0 } : Room) s m #[(.ref a)] below meth c s₁ [] 0 0 := Stand.of_body Bd
  have e0 : s₁.heap = h0 := by rw [← hh, Bd.state]; rfl
  have N0 := Fr.nil n0
  refine oEnter (oCast (ef_rmBlank m a ) ?_)
  show oGl p e below (s₁.setTop (mkF m 0 #[.val (.ref a), .unset, .unset, .unset] [])) _
  refine saloadN X0 hx (hb hby d3_0) rfl rfl rfl (pc' := 1) ?_
  refine oOn (V0.len X0 hx hZ e0 (g := (mkF m 1 #[.val (.ref a), .unset, .unset, .unset] [(.ref a)])) rfl rfl (hb hby d3_1)) ?_
  show oGl p e below (s₁.setTop (mkF m 2 #[.val (.ref a), .unset, .unset, .unset] [(.int (Int32.ofNat n))])) _
  refine sistoreN X0 hx (hb hby d3_2) rfl rfl (l' := #[.val (.ref a), .val (.int (Int32.ofNat n)), .unset, .unset]) (pc' := 3) ?_
  refine siloadN X0 hx (hb hby d3_3) rfl rfl (pc' := 4) ?_
  by_cases hc4 : (0 : Int32) < (Int32.ofNat n)
  · skip
    refine sifN X0 hx (hb hby d3_4) rfl (tlt hc4).2.2.2 (pc' := 7) ?_
    refine saloadN X0 hx (hb hby d3_7) rfl rfl rfl (pc' := 8) ?_
    refine siloadN X0 hx (hb hby d3_8) rfl rfl (pc' := 9) ?_
    refine siconst X0 hx (hb hby d3_9) rfl rfl (z := 1) (pc' := 10) ?_
    refine sisub X0 hx (hb hby d3_10) rfl rfl (pc' := 11) ?_
    refine oOn (V0.ldB X0 hx hZ e0 (j := ((Int32.ofNat n) - (1 : Int32))) (own_predI V0.small hc4) (g := (mkF m 11 #[.val (.ref a), .val (.int (Int32.ofNat n)), .unset, .unset] [(.int ((Int32.ofNat n) - (1 : Int32))), (.ref a)])) rfl rfl (hb hby d3_11)) ?_
    show oGl p e below (s₁.setTop (mkF m 12 #[.val (.ref a), .val (.int (Int32.ofNat n)), .unset, .unset] [(.int (f ((Int32.ofNat n) - (1 : Int32)).toInt.toNat))])) _
    refine sbipush X0 hx (hb hby d3_12) rfl rfl (z := 13) (pc' := 14) ?_
    by_cases hc14 : (f ((Int32.ofNat n) - (1 : Int32)).toInt.toNat) = (13 : Int32)
    · skip
      refine sicN X0 hx (hb hby d3_14) rfl (teq hc14).2 (pc' := 17) ?_
      refine siinc X0 hx (hb hby d3_17) rfl rfl rfl (l' := #[.val (.ref a), .val (.int ((Int32.ofNat n) + (-1 : Int32))), .unset, .unset]) (pc' := 20) ?_
      refine siconst X0 hx (hb hby d3_20) rfl rfl (z := 1) (pc' := 21) ?_
      refine sistoreN X0 hx (hb hby d3_21) rfl rfl (l' := #[.val (.ref a), .val (.int ((Int32.ofNat n) + (-1 : Int32))), .val (.int (1 : Int32)), .unset]) (pc' := 22) ?_
      refine siconst X0 hx (hb hby d3_22) rfl rfl (z := 0) (pc' := 23) ?_
      refine sistoreN X0 hx (hb hby d3_23) rfl rfl (l' := #[.val (.ref a), .val (.int ((Int32.ofNat n) + (-1 : Int32))), .val (.int (1 : Int32)), .val (.int (0 : Int32))]) (pc' := 24) ?_
      have hen : (((Int32.ofNat n) + (-1 : Int32))).toInt = oEnd n f := by
        have q2 := own_npos V0.small hc4
        rw [own_dec V0.small q2]; unfold oEnd; rw [if_pos ⟨q2, by rw [own_pred V0.small q2]; exact hc14⟩]; omega
      generalize hee : ((Int32.ofNat n) + (-1 : Int32)) = en
      show oGl p e below (s₁.setTop (mkF m 24 #[.val (.ref a), .val (.int en), .val (.int (1 : Int32)), .val (.int (0 : Int32))] [])) _
      rw [hee] at hen
      have hel : oEnd n f ≤ n := by unfold oEnd; split <;> omega
      have hnn := V0.small
      have loop : ∀ (k : Nat) (bl at_ : Int32) (T : State) (locs : List Loc) (X : Stand p l e ({ frames := 0, cells := 0, slots := 0, locals := 0 } : Room) s m #[(.ref a)] below meth c T locs 0 0) (eT : T.heap = h0) (N : Fr n0 locs) (hm : (oEnd n f - at_.toInt.toNat) < k) (hi : 0 ≤ at_.toInt ∧ at_.toInt ≤ oEnd n f ∧ ((bl = 1 ∧ ∀ j : Nat, (j : Int) < at_.toInt → oOk (f j)) ∨ (bl = 0 ∧ ∃ j : Nat, j < oEnd n f ∧ ¬ oOk (f j)))), oGl p e below (T.setTop (mkF m 24 #[.val (.ref a), .val (.int en), .val (.int bl), .val (.int at_)] [])) (oFin s below (Q_rmBlank Z a n f h0 n0) ({ frames := 0, cells := 0, slots := 0, locals := 0 } : Room).cells ({ frames := 0, cells := 0, slots := 0, locals := 0 } : Room).slots) := by
        intro k
        induction k with
        | zero => intro bl at_ T locs X eT N hm hi; exact absurd hm (Nat.not_lt_zero _)
        | succ k ih =>
          intro bl at_ T locs X eT N hm hi
          refine siloadN X hx (hb hby d3_24) rfl rfl (pc' := 25) ?_
          by_cases hc25 : bl = (0 : Int32)
          · skip
            refine sifY X hx (hb hby d3_25) (by decide) (by decide) (teq hc25).1 (pc' := 61) ?_
            refine siloadN X hx (hb hby d3_61) rfl rfl (pc' := 62) ?_
            refine oRetN (t := .boolean) X hx Bd.notSynchronized Bd.returns (by simp) (hb hby d3_62) (by decide) (by decide) ?_
            show Q_rmBlank Z a n f h0 n0 _ T.heap _
            rw [eT]
            exact ⟨0, by subst hc25; rfl, N, rfl, Or.inr ⟨rfl, by
              rcases hi.2.2 with ⟨g, _⟩ | ⟨_, g⟩
              · subst hc25; exact absurd g (by decide)
              · exact g⟩⟩
          · skip
            refine sifN X hx (hb hby d3_25) rfl (feq hc25).1 (pc' := 28) ?_
            refine siloadN X hx (hb hby d3_28) rfl rfl (pc' := 29) ?_
            refine siloadN X hx (hb hby d3_29) rfl rfl (pc' := 30) ?_
            by_cases hc30 : at_ < en
            · skip
              refine sicN X hx (hb hby d3_30) rfl (tlt hc30).2.1 (pc' := 33) ?_
              refine saloadN X hx (hb hby d3_33) rfl rfl rfl (pc' := 34) ?_
              refine siloadN X hx (hb hby d3_34) rfl rfl (pc' := 35) ?_
              refine oOn (V0.ldB X hx hZ eT (j := at_) (by have q := Int32.lt_iff_toInt_lt.mp hc30; omega) (g := (mkF m 35 #[.val (.ref a), .val (.int en), .val (.int bl), .val (.int at_)] [(.int at_), (.ref a)])) rfl rfl (hb hby d3_35)) ?_
              show oGl p e below (T.setTop (mkF m 36 #[.val (.ref a), .val (.int en), .val (.int bl), .val (.int at_)] [(.int (f at_.toInt.toNat))])) _
              refine sbipush X hx (hb hby d3_36) rfl rfl (z := 32) (pc' := 38) ?_
              by_cases hc38 : (f at_.toInt.toNat) = (32 : Int32)
              · skip
                refine sicY X hx (hb hby d3_38) (by decide) (by decide) (teq hc38).1 (pc' := 49) ?_
                refine siconst X hx (hb hby d3_49) rfl rfl (z := 1) (pc' := 50) ?_
                refine sgoto X hx (hb hby d3_50) (by decide) (by decide)  (pc' := 54) ?_
                refine sistoreN X hx (hb hby d3_54) rfl rfl (l' := #[.val (.ref a), .val (.int en), .val (.int (1 : Int32)), .val (.int at_)]) (pc' := 55) ?_
                refine siinc X hx (hb hby d3_55) rfl rfl rfl (l' := #[.val (.ref a), .val (.int en), .val (.int (1 : Int32)), .val (.int (at_ + (1 : Int32)))]) (pc' := 58) ?_
                refine sgoto X hx (hb hby d3_58) (by decide) (by decide)  (pc' := 24) ?_
                have hlt := Int32.lt_iff_toInt_lt.mp hc30
                have hat : (at_ + (1 : Int32)).toInt = at_.toInt + 1 := own_inc (by omega)
                have hok : oOk (f at_.toInt.toNat) := by first | exact Or.inl hc38 | exact Or.inr hc46
                exact ih (1 : Int32) (at_ + (1 : Int32)) _ _ X eT N (by omega) ⟨by omega, by omega, Or.inl ⟨rfl, fun j hj => by
                  by_cases q : (j : Int) < at_.toInt
                  · rcases hi.2.2 with ⟨_, g⟩ | ⟨g, _⟩
                    · exact g j q
                    · exact absurd g hc25
                  · have q2 : j = at_.toInt.toNat := by omega
                    rw [q2]; exact hok⟩⟩
              · skip
                refine sicN X hx (hb hby d3_38) rfl (feq hc38).1 (pc' := 41) ?_
                refine saloadN X hx (hb hby d3_41) rfl rfl rfl (pc' := 42) ?_
                refine siloadN X hx (hb hby d3_42) rfl rfl (pc' := 43) ?_
                refine oOn (V0.ldB X hx hZ eT (j := at_) (by have q := Int32.lt_iff_toInt_lt.mp hc30; omega) (g := (mkF m 43 #[.val (.ref a), .val (.int en), .val (.int bl), .val (.int at_)] [(.int at_), (.ref a)])) rfl rfl (hb hby d3_43)) ?_
                show oGl p e below (T.setTop (mkF m 44 #[.val (.ref a), .val (.int en), .val (.int bl), .val (.int at_)] [(.int (f at_.toInt.toNat))])) _
                refine sbipush X hx (hb hby d3_44) rfl rfl (z := 9) (pc' := 46) ?_
                by_cases hc46 : (f at_.toInt.toNat) = (9 : Int32)
                · skip
                  refine sicN X hx (hb hby d3_46) rfl (teq hc46).2 (pc' := 49) ?_
                  refine siconst X hx (hb hby d3_49) rfl rfl (z := 1) (pc' := 50) ?_
                  refine sgoto X hx (hb hby d3_50) (by decide) (by decide)  (pc' := 54) ?_
                  refine sistoreN X hx (hb hby d3_54) rfl rfl (l' := #[.val (.ref a), .val (.int en), .val (.int (1 : Int32)), .val (.int at_)]) (pc' := 55) ?_
                  refine siinc X hx (hb hby d3_55) rfl rfl rfl (l' := #[.val (.ref a), .val (.int en), .val (.int (1 : Int32)), .val (.int (at_ + (1 : Int32)))]) (pc' := 58) ?_
                  refine sgoto X hx (hb hby d3_58) (by decide) (by decide)  (pc' := 24) ?_
                  have hlt := Int32.lt_iff_toInt_lt.mp hc30
                  have hat : (at_ + (1 : Int32)).toInt = at_.toInt + 1 := own_inc (by omega)
                  have hok : oOk (f at_.toInt.toNat) := by first | exact Or.inl hc38 | exact Or.inr hc46
                  exact ih (1 : Int32) (at_ + (1 : Int32)) _ _ X eT N (by omega) ⟨by omega, by omega, Or.inl ⟨rfl, fun j hj => by
                    by_cases q : (j : Int) < at_.toInt
                    · rcases hi.2.2 with ⟨_, g⟩ | ⟨g, _⟩
                      · exact g j q
                      · exact absurd g hc25
                    · have q2 : j = at_.toInt.toNat := by omega
                      rw [q2]; exact hok⟩⟩
                · skip
                  refine sicY X hx (hb hby d3_46) (by decide) (by decide) (feq hc46).2 (pc' := 53) ?_
                  refine siconst X hx (hb hby d3_53) rfl rfl (z := 0) (pc' := 54) ?_
                  refine sistoreN X hx (hb hby d3_54) rfl rfl (l' := #[.val (.ref a), .val (.int en), .val (.int (0 : Int32)), .val (.int at_)]) (pc' := 55) ?_
                  refine siinc X hx (hb hby d3_55) rfl rfl rfl (l' := #[.val (.ref a), .val (.int en), .val (.int (0 : Int32)), .val (.int (at_ + (1 : Int32)))]) (pc' := 58) ?_
                  refine sgoto X hx (hb hby d3_58) (by decide) (by decide)  (pc' := 24) ?_
                  have hlt := Int32.lt_iff_toInt_lt.mp hc30
                  have hat : (at_ + (1 : Int32)).toInt = at_.toInt + 1 := own_inc (by omega)
                  exact ih (0 : Int32) (at_ + (1 : Int32)) _ _ X eT N (by omega) ⟨by omega, by omega, Or.inr ⟨rfl, at_.toInt.toNat, by omega, fun q => q.elim hc38 hc46⟩⟩
            · skip
              refine sicY X hx (hb hby d3_30) (by decide) (by decide) (flt hc30).2.1 (pc' := 61) ?_
              refine siloadN X hx (hb hby d3_61) rfl rfl (pc' := 62) ?_
              refine oRetN (t := .boolean) X hx Bd.notSynchronized Bd.returns (by simp) (hb hby d3_62) (by decide) (by decide) ?_
              show Q_rmBlank Z a n f h0 n0 _ T.heap _
              rw [eT]
              exact ⟨1, by
                rcases hi.2.2 with ⟨g, _⟩ | ⟨g, _⟩
                · subst g; rfl
                · exact absurd g hc25, N, rfl, Or.inl ⟨rfl, fun j hj => by
                have hge : ¬ at_.toInt < en.toInt := fun q => hc30 (Int32.lt_iff_toInt_lt.mpr q)
                rcases hi.2.2 with ⟨_, g⟩ | ⟨g, _⟩
                · exact g j (by omega)
                · exact absurd g hc25⟩⟩
      exact loop _ 1 0 _ _ X0 e0 N0 (Nat.lt_succ_self _) (by
          have e0 : (0 : Int32).toInt = 0 := rfl
          exact ⟨by omega, by omega, Or.inl ⟨rfl, fun j hj => by omega⟩⟩)
    · skip
      refine sicY X0 hx (hb hby d3_14) (by decide) (by decide) (feq hc14).2 (pc' := 20) ?_
      refine siconst X0 hx (hb hby d3_20) rfl rfl (z := 1) (pc' := 21) ?_
      refine sistoreN X0 hx (hb hby d3_21) rfl rfl (l' := #[.val (.ref a), .val (.int (Int32.ofNat n)), .val (.int (1 : Int32)), .unset]) (pc' := 22) ?_
      refine siconst X0 hx (hb hby d3_22) rfl rfl (z := 0) (pc' := 23) ?_
      refine sistoreN X0 hx (hb hby d3_23) rfl rfl (l' := #[.val (.ref a), .val (.int (Int32.ofNat n)), .val (.int (1 : Int32)), .val (.int (0 : Int32))]) (pc' := 24) ?_
      have hen : (Int32.ofNat n).toInt = oEnd n f := by
        rw [own_ofNat V0.small]; unfold oEnd; rw [if_neg]; intro q; first | exact hc14 (by rw [← own_pred V0.small q.1]; exact q.2) | (have q2 := own_pos V0.small hc4; omega)
      generalize hee : (Int32.ofNat n) = en
      show oGl p e below (s₁.setTop (mkF m 24 #[.val (.ref a), .val (.int en), .val (.int (1 : Int32)), .val (.int (0 : Int32))] [])) _
      rw [hee] at hen
      have hel : oEnd n f ≤ n := by unfold oEnd; split <;> omega
      have hnn := V0.small
      have loop : ∀ (k : Nat) (bl at_ : Int32) (T : State) (locs : List Loc) (X : Stand p l e ({ frames := 0, cells := 0, slots := 0, locals := 0 } : Room) s m #[(.ref a)] below meth c T locs 0 0) (eT : T.heap = h0) (N : Fr n0 locs) (hm : (oEnd n f - at_.toInt.toNat) < k) (hi : 0 ≤ at_.toInt ∧ at_.toInt ≤ oEnd n f ∧ ((bl = 1 ∧ ∀ j : Nat, (j : Int) < at_.toInt → oOk (f j)) ∨ (bl = 0 ∧ ∃ j : Nat, j < oEnd n f ∧ ¬ oOk (f j)))), oGl p e below (T.setTop (mkF m 24 #[.val (.ref a), .val (.int en), .val (.int bl), .val (.int at_)] [])) (oFin s below (Q_rmBlank Z a n f h0 n0) ({ frames := 0, cells := 0, slots := 0, locals := 0 } : Room).cells ({ frames := 0, cells := 0, slots := 0, locals := 0 } : Room).slots) := by
        intro k
        induction k with
        | zero => intro bl at_ T locs X eT N hm hi; exact absurd hm (Nat.not_lt_zero _)
        | succ k ih =>
          intro bl at_ T locs X eT N hm hi
          refine siloadN X hx (hb hby d3_24) rfl rfl (pc' := 25) ?_
          by_cases hc25 : bl = (0 : Int32)
          · skip
            refine sifY X hx (hb hby d3_25) (by decide) (by decide) (teq hc25).1 (pc' := 61) ?_
            refine siloadN X hx (hb hby d3_61) rfl rfl (pc' := 62) ?_
            refine oRetN (t := .boolean) X hx Bd.notSynchronized Bd.returns (by simp) (hb hby d3_62) (by decide) (by decide) ?_
            show Q_rmBlank Z a n f h0 n0 _ T.heap _
            rw [eT]
            exact ⟨0, by subst hc25; rfl, N, rfl, Or.inr ⟨rfl, by
              rcases hi.2.2 with ⟨g, _⟩ | ⟨_, g⟩
              · subst hc25; exact absurd g (by decide)
              · exact g⟩⟩
          · skip
            refine sifN X hx (hb hby d3_25) rfl (feq hc25).1 (pc' := 28) ?_
            refine siloadN X hx (hb hby d3_28) rfl rfl (pc' := 29) ?_
            refine siloadN X hx (hb hby d3_29) rfl rfl (pc' := 30) ?_
            by_cases hc30 : at_ < en
            · skip
              refine sicN X hx (hb hby d3_30) rfl (tlt hc30).2.1 (pc' := 33) ?_
              refine saloadN X hx (hb hby d3_33) rfl rfl rfl (pc' := 34) ?_
              refine siloadN X hx (hb hby d3_34) rfl rfl (pc' := 35) ?_
              refine oOn (V0.ldB X hx hZ eT (j := at_) (by have q := Int32.lt_iff_toInt_lt.mp hc30; omega) (g := (mkF m 35 #[.val (.ref a), .val (.int en), .val (.int bl), .val (.int at_)] [(.int at_), (.ref a)])) rfl rfl (hb hby d3_35)) ?_
              show oGl p e below (T.setTop (mkF m 36 #[.val (.ref a), .val (.int en), .val (.int bl), .val (.int at_)] [(.int (f at_.toInt.toNat))])) _
              refine sbipush X hx (hb hby d3_36) rfl rfl (z := 32) (pc' := 38) ?_
              by_cases hc38 : (f at_.toInt.toNat) = (32 : Int32)
              · skip
                refine sicY X hx (hb hby d3_38) (by decide) (by decide) (teq hc38).1 (pc' := 49) ?_
                refine siconst X hx (hb hby d3_49) rfl rfl (z := 1) (pc' := 50) ?_
                refine sgoto X hx (hb hby d3_50) (by decide) (by decide)  (pc' := 54) ?_
                refine sistoreN X hx (hb hby d3_54) rfl rfl (l' := #[.val (.ref a), .val (.int en), .val (.int (1 : Int32)), .val (.int at_)]) (pc' := 55) ?_
                refine siinc X hx (hb hby d3_55) rfl rfl rfl (l' := #[.val (.ref a), .val (.int en), .val (.int (1 : Int32)), .val (.int (at_ + (1 : Int32)))]) (pc' := 58) ?_
                refine sgoto X hx (hb hby d3_58) (by decide) (by decide)  (pc' := 24) ?_
                have hlt := Int32.lt_iff_toInt_lt.mp hc30
                have hat : (at_ + (1 : Int32)).toInt = at_.toInt + 1 := own_inc (by omega)
                have hok : oOk (f at_.toInt.toNat) := by first | exact Or.inl hc38 | exact Or.inr hc46
                exact ih (1 : Int32) (at_ + (1 : Int32)) _ _ X eT N (by omega) ⟨by omega, by omega, Or.inl ⟨rfl, fun j hj => by
                  by_cases q : (j : Int) < at_.toInt
                  · rcases hi.2.2 with ⟨_, g⟩ | ⟨g, _⟩
                    · exact g j q
                    · exact absurd g hc25
                  · have q2 : j = at_.toInt.toNat := by omega
                    rw [q2]; exact hok⟩⟩
              · skip
                refine sicN X hx (hb hby d3_38) rfl (feq hc38).1 (pc' := 41) ?_
                refine saloadN X hx (hb hby d3_41) rfl rfl rfl (pc' := 42) ?_
                refine siloadN X hx (hb hby d3_42) rfl rfl (pc' := 43) ?_
                refine oOn (V0.ldB X hx hZ eT (j := at_) (by have q := Int32.lt_iff_toInt_lt.mp hc30; omega) (g := (mkF m 43 #[.val (.ref a), .val (.int en), .val (.int bl), .val (.int at_)] [(.int at_), (.ref a)])) rfl rfl (hb hby d3_43)) ?_
                show oGl p e below (T.setTop (mkF m 44 #[.val (.ref a), .val (.int en), .val (.int bl), .val (.int at_)] [(.int (f at_.toInt.toNat))])) _
                refine sbipush X hx (hb hby d3_44) rfl rfl (z := 9) (pc' := 46) ?_
                by_cases hc46 : (f at_.toInt.toNat) = (9 : Int32)
                · skip
                  refine sicN X hx (hb hby d3_46) rfl (teq hc46).2 (pc' := 49) ?_
                  refine siconst X hx (hb hby d3_49) rfl rfl (z := 1) (pc' := 50) ?_
                  refine sgoto X hx (hb hby d3_50) (by decide) (by decide)  (pc' := 54) ?_
                  refine sistoreN X hx (hb hby d3_54) rfl rfl (l' := #[.val (.ref a), .val (.int en), .val (.int (1 : Int32)), .val (.int at_)]) (pc' := 55) ?_
                  refine siinc X hx (hb hby d3_55) rfl rfl rfl (l' := #[.val (.ref a), .val (.int en), .val (.int (1 : Int32)), .val (.int (at_ + (1 : Int32)))]) (pc' := 58) ?_
                  refine sgoto X hx (hb hby d3_58) (by decide) (by decide)  (pc' := 24) ?_
                  have hlt := Int32.lt_iff_toInt_lt.mp hc30
                  have hat : (at_ + (1 : Int32)).toInt = at_.toInt + 1 := own_inc (by omega)
                  have hok : oOk (f at_.toInt.toNat) := by first | exact Or.inl hc38 | exact Or.inr hc46
                  exact ih (1 : Int32) (at_ + (1 : Int32)) _ _ X eT N (by omega) ⟨by omega, by omega, Or.inl ⟨rfl, fun j hj => by
                    by_cases q : (j : Int) < at_.toInt
                    · rcases hi.2.2 with ⟨_, g⟩ | ⟨g, _⟩
                      · exact g j q
                      · exact absurd g hc25
                    · have q2 : j = at_.toInt.toNat := by omega
                      rw [q2]; exact hok⟩⟩
                · skip
                  refine sicY X hx (hb hby d3_46) (by decide) (by decide) (feq hc46).2 (pc' := 53) ?_
                  refine siconst X hx (hb hby d3_53) rfl rfl (z := 0) (pc' := 54) ?_
                  refine sistoreN X hx (hb hby d3_54) rfl rfl (l' := #[.val (.ref a), .val (.int en), .val (.int (0 : Int32)), .val (.int at_)]) (pc' := 55) ?_
                  refine siinc X hx (hb hby d3_55) rfl rfl rfl (l' := #[.val (.ref a), .val (.int en), .val (.int (0 : Int32)), .val (.int (at_ + (1 : Int32)))]) (pc' := 58) ?_
                  refine sgoto X hx (hb hby d3_58) (by decide) (by decide)  (pc' := 24) ?_
                  have hlt := Int32.lt_iff_toInt_lt.mp hc30
                  have hat : (at_ + (1 : Int32)).toInt = at_.toInt + 1 := own_inc (by omega)
                  exact ih (0 : Int32) (at_ + (1 : Int32)) _ _ X eT N (by omega) ⟨by omega, by omega, Or.inr ⟨rfl, at_.toInt.toNat, by omega, fun q => q.elim hc38 hc46⟩⟩
            · skip
              refine sicY X hx (hb hby d3_30) (by decide) (by decide) (flt hc30).2.1 (pc' := 61) ?_
              refine siloadN X hx (hb hby d3_61) rfl rfl (pc' := 62) ?_
              refine oRetN (t := .boolean) X hx Bd.notSynchronized Bd.returns (by simp) (hb hby d3_62) (by decide) (by decide) ?_
              show Q_rmBlank Z a n f h0 n0 _ T.heap _
              rw [eT]
              exact ⟨1, by
                rcases hi.2.2 with ⟨g, _⟩ | ⟨g, _⟩
                · subst g; rfl
                · exact absurd g hc25, N, rfl, Or.inl ⟨rfl, fun j hj => by
                have hge : ¬ at_.toInt < en.toInt := fun q => hc30 (Int32.lt_iff_toInt_lt.mpr q)
                rcases hi.2.2 with ⟨_, g⟩ | ⟨g, _⟩
                · exact g j (by omega)
                · exact absurd g hc25⟩⟩
      exact loop _ 1 0 _ _ X0 e0 N0 (Nat.lt_succ_self _) (by
          have e0 : (0 : Int32).toInt = 0 := rfl
          exact ⟨by omega, by omega, Or.inl ⟨rfl, fun j hj => by omega⟩⟩)
  · skip
    refine sifY X0 hx (hb hby d3_4) (by decide) (by decide) (flt hc4).2.2.2 (pc' := 20) ?_
    refine siconst X0 hx (hb hby d3_20) rfl rfl (z := 1) (pc' := 21) ?_
    refine sistoreN X0 hx (hb hby d3_21) rfl rfl (l' := #[.val (.ref a), .val (.int (Int32.ofNat n)), .val (.int (1 : Int32)), .unset]) (pc' := 22) ?_
    refine siconst X0 hx (hb hby d3_22) rfl rfl (z := 0) (pc' := 23) ?_
    refine sistoreN X0 hx (hb hby d3_23) rfl rfl (l' := #[.val (.ref a), .val (.int (Int32.ofNat n)), .val (.int (1 : Int32)), .val (.int (0 : Int32))]) (pc' := 24) ?_
    have hen : (Int32.ofNat n).toInt = oEnd n f := by
      rw [own_ofNat V0.small]; unfold oEnd; rw [if_neg]; intro q; first | exact hc14 (by rw [← own_pred V0.small q.1]; exact q.2) | (have q2 := own_pos V0.small hc4; omega)
    generalize hee : (Int32.ofNat n) = en
    show oGl p e below (s₁.setTop (mkF m 24 #[.val (.ref a), .val (.int en), .val (.int (1 : Int32)), .val (.int (0 : Int32))] [])) _
    rw [hee] at hen
    have hel : oEnd n f ≤ n := by unfold oEnd; split <;> omega
    have hnn := V0.small
    have loop : ∀ (k : Nat) (bl at_ : Int32) (T : State) (locs : List Loc) (X : Stand p l e ({ frames := 0, cells := 0, slots := 0, locals := 0 } : Room) s m #[(.ref a)] below meth c T locs 0 0) (eT : T.heap = h0) (N : Fr n0 locs) (hm : (oEnd n f - at_.toInt.toNat) < k) (hi : 0 ≤ at_.toInt ∧ at_.toInt ≤ oEnd n f ∧ ((bl = 1 ∧ ∀ j : Nat, (j : Int) < at_.toInt → oOk (f j)) ∨ (bl = 0 ∧ ∃ j : Nat, j < oEnd n f ∧ ¬ oOk (f j)))), oGl p e below (T.setTop (mkF m 24 #[.val (.ref a), .val (.int en), .val (.int bl), .val (.int at_)] [])) (oFin s below (Q_rmBlank Z a n f h0 n0) ({ frames := 0, cells := 0, slots := 0, locals := 0 } : Room).cells ({ frames := 0, cells := 0, slots := 0, locals := 0 } : Room).slots) := by
      intro k
      induction k with
      | zero => intro bl at_ T locs X eT N hm hi; exact absurd hm (Nat.not_lt_zero _)
      | succ k ih =>
        intro bl at_ T locs X eT N hm hi
        refine siloadN X hx (hb hby d3_24) rfl rfl (pc' := 25) ?_
        by_cases hc25 : bl = (0 : Int32)
        · skip
          refine sifY X hx (hb hby d3_25) (by decide) (by decide) (teq hc25).1 (pc' := 61) ?_
          refine siloadN X hx (hb hby d3_61) rfl rfl (pc' := 62) ?_
          refine oRetN (t := .boolean) X hx Bd.notSynchronized Bd.returns (by simp) (hb hby d3_62) (by decide) (by decide) ?_
          show Q_rmBlank Z a n f h0 n0 _ T.heap _
          rw [eT]
          exact ⟨0, by subst hc25; rfl, N, rfl, Or.inr ⟨rfl, by
            rcases hi.2.2 with ⟨g, _⟩ | ⟨_, g⟩
            · subst hc25; exact absurd g (by decide)
            · exact g⟩⟩
        · skip
          refine sifN X hx (hb hby d3_25) rfl (feq hc25).1 (pc' := 28) ?_
          refine siloadN X hx (hb hby d3_28) rfl rfl (pc' := 29) ?_
          refine siloadN X hx (hb hby d3_29) rfl rfl (pc' := 30) ?_
          by_cases hc30 : at_ < en
          · skip
            refine sicN X hx (hb hby d3_30) rfl (tlt hc30).2.1 (pc' := 33) ?_
            refine saloadN X hx (hb hby d3_33) rfl rfl rfl (pc' := 34) ?_
            refine siloadN X hx (hb hby d3_34) rfl rfl (pc' := 35) ?_
            refine oOn (V0.ldB X hx hZ eT (j := at_) (by have q := Int32.lt_iff_toInt_lt.mp hc30; omega) (g := (mkF m 35 #[.val (.ref a), .val (.int en), .val (.int bl), .val (.int at_)] [(.int at_), (.ref a)])) rfl rfl (hb hby d3_35)) ?_
            show oGl p e below (T.setTop (mkF m 36 #[.val (.ref a), .val (.int en), .val (.int bl), .val (.int at_)] [(.int (f at_.toInt.toNat))])) _
            refine sbipush X hx (hb hby d3_36) rfl rfl (z := 32) (pc' := 38) ?_
            by_cases hc38 : (f at_.toInt.toNat) = (32 : Int32)
            · skip
              refine sicY X hx (hb hby d3_38) (by decide) (by decide) (teq hc38).1 (pc' := 49) ?_
              refine siconst X hx (hb hby d3_49) rfl rfl (z := 1) (pc' := 50) ?_
              refine sgoto X hx (hb hby d3_50) (by decide) (by decide)  (pc' := 54) ?_
              refine sistoreN X hx (hb hby d3_54) rfl rfl (l' := #[.val (.ref a), .val (.int en), .val (.int (1 : Int32)), .val (.int at_)]) (pc' := 55) ?_
              refine siinc X hx (hb hby d3_55) rfl rfl rfl (l' := #[.val (.ref a), .val (.int en), .val (.int (1 : Int32)), .val (.int (at_ + (1 : Int32)))]) (pc' := 58) ?_
              refine sgoto X hx (hb hby d3_58) (by decide) (by decide)  (pc' := 24) ?_
              have hlt := Int32.lt_iff_toInt_lt.mp hc30
              have hat : (at_ + (1 : Int32)).toInt = at_.toInt + 1 := own_inc (by omega)
              have hok : oOk (f at_.toInt.toNat) := by first | exact Or.inl hc38 | exact Or.inr hc46
              exact ih (1 : Int32) (at_ + (1 : Int32)) _ _ X eT N (by omega) ⟨by omega, by omega, Or.inl ⟨rfl, fun j hj => by
                by_cases q : (j : Int) < at_.toInt
                · rcases hi.2.2 with ⟨_, g⟩ | ⟨g, _⟩
                  · exact g j q
                  · exact absurd g hc25
                · have q2 : j = at_.toInt.toNat := by omega
                  rw [q2]; exact hok⟩⟩
            · skip
              refine sicN X hx (hb hby d3_38) rfl (feq hc38).1 (pc' := 41) ?_
              refine saloadN X hx (hb hby d3_41) rfl rfl rfl (pc' := 42) ?_
              refine siloadN X hx (hb hby d3_42) rfl rfl (pc' := 43) ?_
              refine oOn (V0.ldB X hx hZ eT (j := at_) (by have q := Int32.lt_iff_toInt_lt.mp hc30; omega) (g := (mkF m 43 #[.val (.ref a), .val (.int en), .val (.int bl), .val (.int at_)] [(.int at_), (.ref a)])) rfl rfl (hb hby d3_43)) ?_
              show oGl p e below (T.setTop (mkF m 44 #[.val (.ref a), .val (.int en), .val (.int bl), .val (.int at_)] [(.int (f at_.toInt.toNat))])) _
              refine sbipush X hx (hb hby d3_44) rfl rfl (z := 9) (pc' := 46) ?_
              by_cases hc46 : (f at_.toInt.toNat) = (9 : Int32)
              · skip
                refine sicN X hx (hb hby d3_46) rfl (teq hc46).2 (pc' := 49) ?_
                refine siconst X hx (hb hby d3_49) rfl rfl (z := 1) (pc' := 50) ?_
                refine sgoto X hx (hb hby d3_50) (by decide) (by decide)  (pc' := 54) ?_
                refine sistoreN X hx (hb hby d3_54) rfl rfl (l' := #[.val (.ref a), .val (.int en), .val (.int (1 : Int32)), .val (.int at_)]) (pc' := 55) ?_
                refine siinc X hx (hb hby d3_55) rfl rfl rfl (l' := #[.val (.ref a), .val (.int en), .val (.int (1 : Int32)), .val (.int (at_ + (1 : Int32)))]) (pc' := 58) ?_
                refine sgoto X hx (hb hby d3_58) (by decide) (by decide)  (pc' := 24) ?_
                have hlt := Int32.lt_iff_toInt_lt.mp hc30
                have hat : (at_ + (1 : Int32)).toInt = at_.toInt + 1 := own_inc (by omega)
                have hok : oOk (f at_.toInt.toNat) := by first | exact Or.inl hc38 | exact Or.inr hc46
                exact ih (1 : Int32) (at_ + (1 : Int32)) _ _ X eT N (by omega) ⟨by omega, by omega, Or.inl ⟨rfl, fun j hj => by
                  by_cases q : (j : Int) < at_.toInt
                  · rcases hi.2.2 with ⟨_, g⟩ | ⟨g, _⟩
                    · exact g j q
                    · exact absurd g hc25
                  · have q2 : j = at_.toInt.toNat := by omega
                    rw [q2]; exact hok⟩⟩
              · skip
                refine sicY X hx (hb hby d3_46) (by decide) (by decide) (feq hc46).2 (pc' := 53) ?_
                refine siconst X hx (hb hby d3_53) rfl rfl (z := 0) (pc' := 54) ?_
                refine sistoreN X hx (hb hby d3_54) rfl rfl (l' := #[.val (.ref a), .val (.int en), .val (.int (0 : Int32)), .val (.int at_)]) (pc' := 55) ?_
                refine siinc X hx (hb hby d3_55) rfl rfl rfl (l' := #[.val (.ref a), .val (.int en), .val (.int (0 : Int32)), .val (.int (at_ + (1 : Int32)))]) (pc' := 58) ?_
                refine sgoto X hx (hb hby d3_58) (by decide) (by decide)  (pc' := 24) ?_
                have hlt := Int32.lt_iff_toInt_lt.mp hc30
                have hat : (at_ + (1 : Int32)).toInt = at_.toInt + 1 := own_inc (by omega)
                exact ih (0 : Int32) (at_ + (1 : Int32)) _ _ X eT N (by omega) ⟨by omega, by omega, Or.inr ⟨rfl, at_.toInt.toNat, by omega, fun q => q.elim hc38 hc46⟩⟩
          · skip
            refine sicY X hx (hb hby d3_30) (by decide) (by decide) (flt hc30).2.1 (pc' := 61) ?_
            refine siloadN X hx (hb hby d3_61) rfl rfl (pc' := 62) ?_
            refine oRetN (t := .boolean) X hx Bd.notSynchronized Bd.returns (by simp) (hb hby d3_62) (by decide) (by decide) ?_
            show Q_rmBlank Z a n f h0 n0 _ T.heap _
            rw [eT]
            exact ⟨1, by
              rcases hi.2.2 with ⟨g, _⟩ | ⟨g, _⟩
              · subst g; rfl
              · exact absurd g hc25, N, rfl, Or.inl ⟨rfl, fun j hj => by
              have hge : ¬ at_.toInt < en.toInt := fun q => hc30 (Int32.lt_iff_toInt_lt.mpr q)
              rcases hi.2.2 with ⟨_, g⟩ | ⟨g, _⟩
              · exact g j (by omega)
              · exact absurd g hc25⟩⟩
    exact loop _ 1 0 _ _ X0 e0 N0 (Nat.lt_succ_self _) (by
        have e0 : (0 : Int32).toInt = 0 := rfl
        exact ⟨by omega, by omega, Or.inl ⟨rfl, fun j hj => by omega⟩⟩)
theorem own_mod (x : Int32) : 0 ≤ ((x &&& (2147483647 : Int32)) % (5 : Int32)).toInt ∧ ((x &&& (2147483647 : Int32)) % (5 : Int32)).toInt < 5 := by
  have h := (c_and x 2147483647 (by decide)).1
  have h2 := (c_irem (x &&& 2147483647) 5 5 (by decide)).1 h
  omega
theorem own_five {k : Int32} (h : 0 ≤ k.toInt ∧ k.toInt < 5) : k = (0 : Int32) ∨ k = (1 : Int32) ∨ k = (2 : Int32) ∨ k = (3 : Int32) ∨ k = (4 : Int32) := by
  have h2 : k.toInt = 0 ∨ k.toInt = 1 ∨ k.toInt = 2 ∨ k.toInt = 3 ∨ k.toInt = 4 := by omega
  rcases h2 with q | q | q | q | q
  · exact Or.inl (Int32.toInt_inj.mp (q.trans (by decide)))
  · exact Or.inr (Or.inl (Int32.toInt_inj.mp (q.trans (by decide))))
  · exact Or.inr (Or.inr (Or.inl (Int32.toInt_inj.mp (q.trans (by decide)))))
  · exact Or.inr (Or.inr (Or.inr (Or.inl (Int32.toInt_inj.mp (q.trans (by decide))))))
  · exact Or.inr (Or.inr (Or.inr (Or.inr ((Int32.toInt_inj.mp (q.trans (by decide)))))))
theorem own_fits {b i k : Int32} {j n : Nat} (hi : i.toInt = j) (hk : k.toInt = n) : oFits b i k ≠ 0 ↔ (j < n → (oOk b ∨ (j + 1 = n ∧ b = 13))) := by
  have h1 : i < k ↔ j < n := by rw [Int32.lt_iff_toInt_lt, hi, hk]; omega
  have h2 : j < n → (i = k - 1 ↔ j + 1 = n) := fun q => by
    have e2 := own_sub1 (x := k) (by omega)
    rw [← Int32.toInt_inj, e2, hi, hk]; omega
  unfold oFits oOk
  by_cases q : j < n
  · rw [if_pos (h1.mpr q)]
    have h3 := h2 q
    by_cases q1 : b = 32
    · simp [q1]
    · by_cases q2 : b = 9
      · simp [q2]
      · by_cases q3 : i = k - 1
        · by_cases q4 : b = 13
          · simp [q4, q3, h3.mp q3]
          · simp [q1, q2, q3, q4, q]
        · have q5 : ¬ j + 1 = n := fun z => q3 (h3.mpr z)
          simp [q1, q2, q3, q5, q]
  · rw [if_neg (fun z => q (h1.mp z))]
    simp [q]
theorem own_cmp {n : Nat} {k r b1 b2 b3 b4 : Int32} {f : Nat → Int32} (hk : k.toInt = n) (hn : n ≤ 4) (h1 : 0 < n → f 0 = b1) (h2 : 1 < n → f 1 = b2) (h3 : 2 < n → f 2 = b3) (h4 : 3 < n → f 3 = b4)
    (hr : (r = 1 ∧ ∀ j : Nat, j < oEnd n f → oOk (f j)) ∨ (r = 0 ∧ ∃ j : Nat, j < oEnd n f ∧ ¬ oOk (f j))) :
    ((oFits b1 (0 : Int32) k ≠ 0 ∧ oFits b2 (1 : Int32) k ≠ 0 ∧ oFits b3 (2 : Int32) k ≠ 0 ∧ oFits b4 (3 : Int32) k ≠ 0) → r = 1) ∧ (¬ (oFits b1 (0 : Int32) k ≠ 0 ∧ oFits b2 (1 : Int32) k ≠ 0 ∧ oFits b3 (2 : Int32) k ≠ 0 ∧ oFits b4 (3 : Int32) k ≠ 0) → r = 0) := by
  have e1 := own_fits (b := b1) (i := 0) (k := k) (j := 0) rfl hk
  have e2 := own_fits (b := b2) (i := 1) (k := k) (j := 1) rfl hk
  have e3 := own_fits (b := b3) (i := 2) (k := k) (j := 2) rfl hk
  have e4 := own_fits (b := b4) (i := 3) (k := k) (j := 3) rfl hk
  rw [e1, e2, e3, e4]
  have hall : ((0 < n → (oOk b1 ∨ (0 + 1 = n ∧ b1 = 13))) ∧ (1 < n → (oOk b2 ∨ (1 + 1 = n ∧ b2 = 13))) ∧ (2 < n → (oOk b3 ∨ (2 + 1 = n ∧ b3 = 13))) ∧ (3 < n → (oOk b4 ∨ (3 + 1 = n ∧ b4 = 13)))) ↔ ∀ j, j < n → (oOk (f j) ∨ (j + 1 = n ∧ f j = 13)) := by
    constructor
    · rintro ⟨g1, g2, g3, g4⟩ j hj
      rcases (by omega : j = 0 ∨ j = 1 ∨ j = 2 ∨ j = 3) with rfl | rfl | rfl | rfl
      · rw [h1 hj]; exact g1 hj
      · rw [h2 hj]; exact g2 hj
      · rw [h3 hj]; exact g3 hj
      · rw [h4 hj]; exact g4 hj
    · intro g
      refine ⟨fun q => ?_, fun q => ?_, fun q => ?_, fun q => ?_⟩
      · have := g 0 q; rw [h1 q] at this; exact this
      · have := g 1 q; rw [h2 q] at this; exact this
      · have := g 2 q; rw [h3 q] at this; exact this
      · have := g 3 q; rw [h4 q] at this; exact this
  rw [hall]
  have hend : (∀ j, j < n → (oOk (f j) ∨ (j + 1 = n ∧ f j = 13))) ↔ ∀ j, j < oEnd n f → oOk (f j) := by
    unfold oEnd
    by_cases q : 0 < n ∧ f (n - 1) = 13
    · rw [if_pos q]
      constructor
      · intro g j hj
        rcases g j (by omega) with z | z
        · exact z
        · omega
      · intro g j hj
        by_cases z : j < n - 1
        · exact Or.inl (g j z)
        · have z2 : j = n - 1 := by omega
          exact Or.inr ⟨by omega, by rw [z2]; exact q.2⟩
    · rw [if_neg q]
      constructor
      · intro g j hj
        rcases g j hj with z | z
        · exact z
        · have z2 : j = n - 1 := by omega
          exact absurd ⟨by omega, by rw [← z2]; exact z.2⟩ q
      · intro g j hj
        exact Or.inl (g j hj)
  rw [hend]
  refine ⟨fun q => ?_, fun q => ?_⟩
  · rcases hr with ⟨z, _⟩ | ⟨_, j, z1, z2⟩
    · exact z
    · exact absurd (q j z1) z2
  · rcases hr with ⟨_, z⟩ | ⟨z, _⟩
    · exact absurd z q
    · exact z
theorem pd_0 : parseMethodDescriptor "(I)B" = some ⟨[.int], some .byte⟩ := by decide +kernel
theorem pd_1 : parseMethodDescriptor "(BII)Z" = some ⟨[.byte, .int, .int], some .boolean⟩ := by decide +kernel
theorem pd_2 : parseMethodDescriptor "([B)Z" = some ⟨[(.array .byte)], some .boolean⟩ := by decide +kernel
theorem ef_rmL (m : MethodId) (x0 : Int32) (x1 : Int32) (x2 : Int32) (x3 : Int32) (x4 : Int32)  : entryFrame m #[(.int x0), (.int x1), (.int x2), (.int x3), (.int x4)] maxLocals = mkF m 0 #[.val (.int x0), .val (.int x1), .val (.int x2), .val (.int x3), .val (.int x4), .unset, .unset, .unset, .unset, .unset, .unset, .unset] [] := by first | rfl | (simp [entryFrame, mkF, argsToLocals, Value.category, maxLocals]; done)
def Q_rmL (Z : State) (i0 i1 i2 i3 i4 : Int32) (h0 : Heap) (n0 : Nat) (vv : Option Value) (h : Heap) (L : List Loc) : Prop := vv = some (.int 1) ∧ Fr n0 L
set_option maxRecDepth 65536 in
set_option maxHeartbeats 40000000 in
theorem rmL (l : Launch) (Z : State) (a0 : Array Value) (hw : ∀ d ∈ tables_1, d.before a0 Z = true) (ws : List Jvm.Cond) (i0 i1 i2 i3 i4 : Int32) (h0 : Heap) (n0 : Nat) (Z0 : n0 ≤ h0.size) (O0 : Old Z n0 h0) :
    MetFree l x (head1 (Jvm.Cond.code x code maxLocals ret :: ws) room_1) (fun aA uU => aA = #[(.int i0), (.int i1), (.int i2), (.int i3), (.int i4)] ∧ Z.Warmed39 uU.vm ∧ uU.heap = h0) (fun _ _ _ _ _ => True) (fun _ uU oO uU' => ∃ vV lL, oO = .returned vV ∧ Q_rmL Z i0 i1 i2 i3 i4 h0 n0 vV uU'.heap lL ∧ FrameEnd uU oO uU' lL 16 128) := by
  refine MetFree.of_bodySF (plainFor_of_name pn_LineReaderIsBlankPinLaw) hisR ?_
  intro p e s m args below meth c s₁ Bd hml0 hP hK
  obtain ⟨rfl, hZ, hh⟩ := hP
  have hx := Bd.exec
  have hby := Bd.bytes
  have hml : c.maxLocals = 12 := hml0
  have hown : s.vm.findClass "com/example/yusen_ledger/yusenledger/LineReaderIsBlankPinLaw" = some m.cls := findClass_of_methodNamed Bd.named
  have hnm := (name_of_methodNamed Bd.named Bd.method).1
  have X0 : Stand p l e room_1 s m #[(.int i0), (.int i1), (.int i2), (.int i3), (.int i4)] below meth c s₁ [] 0 0 := Stand.of_body Bd
  have e0 : s₁.heap = h0 := by rw [← hh, Bd.state]; rfl
  have N0 := Fr.nil n0
  refine oEnter (oCast (ef_rmL m i0 i1 i2 i3 i4 ) ?_)
  show oGl p e below (s₁.setTop (mkF m 0 #[.val (.int i0), .val (.int i1), .val (.int i2), .val (.int i3), .val (.int i4), .unset, .unset, .unset, .unset, .unset, .unset, .unset] [])) _
  refine siloadN X0 hx (hb hby at_0) rfl rfl (pc' := 1) ?_
  refine oOn (X0.ldcInt hx hown (mvT hZ (hw _ (List.mem_of_getElem? (i := 0) rfl))) (g := (mkF m 1 #[.val (.int i0), .val (.int i1), .val (.int i2), .val (.int i3), .val (.int i4), .unset, .unset, .unset, .unset, .unset, .unset, .unset] [(.int i0)])) rfl (hb hby at_1)) ?_
  show oGl p e below (s₁.setTop (mkF m 3 #[.val (.int i0), .val (.int i1), .val (.int i2), .val (.int i3), .val (.int i4), .unset, .unset, .unset, .unset, .unset, .unset, .unset] [(.int (2147483647 : Int32)), (.int i0)])) _
  refine siand X0 hx (hb hby at_3) rfl rfl (pc' := 4) ?_
  refine siconst X0 hx (hb hby at_4) rfl rfl (z := 5) (pc' := 5) ?_
  refine sirem X0 hx (hb hby at_5) rfl (by decide) rfl (pc' := 6) ?_
  refine sistore X0 hx (hb hby at_6) rfl rfl (l' := #[.val (.int i0), .val (.int i1), .val (.int i2), .val (.int i3), .val (.int i4), .val (.int ((i0 &&& (2147483647 : Int32)) % (5 : Int32))), .unset, .unset, .unset, .unset, .unset, .unset]) (pc' := 8) ?_
  refine siloadN X0 hx (hb hby at_8) rfl rfl (pc' := 9) ?_
  have hz1 : n0 ≤ h0.size := by omega
  obtain ⟨_, _, ⟨T1, L1, k1, n1⟩, -, X1, ⟨Lc1, hQ1, l1, y1, z1⟩, st1⟩ := Jvm.LawKit.callS X0 hx (y := (⟨"com/example/yusen_ledger/yusenledger/LineReaderIsBlankPinLaw", "pick", "(I)B"⟩ : MethodName)) hown (mvT hZ (hw _ (List.mem_of_getElem? (i := 1) rfl))) (mvT hZ (hw _ (List.mem_of_getElem? (i := 2) rfl))) (mvT hZ (hw _ (List.mem_of_getElem? (i := 3) rfl))) (mvT hZ (hw _ (List.mem_of_getElem? (i := 4) rfl))) (by decide) (backOf (W := 0) (rmPick l Z a0 hw [] i1 h0 n0 hz1 ) hZ (hw _ (List.mem_of_getElem? (i := 4) rfl)) (hw _ (List.mem_of_getElem? (i := 3) rfl)) (by decide) (by decide)) (g := (mkF m 9 #[.val (.int i0), .val (.int i1), .val (.int i2), .val (.int i3), .val (.int i4), .val (.int ((i0 &&& (2147483647 : Int32)) % (5 : Int32))), .unset, .unset, .unset, .unset, .unset, .unset] [(.int i1)])) rfl (by rw [hml]; rfl) (argsL := [(.int i1)]) (rest := []) (lenOf pd_0 rfl) rfl (by show 2 * 0 + _ ≤ _; exact Nat.le_of_eq rfl) (hb hby at_9) (fun _ _ => ⟨rfl, e0, (by decide : 0 + 0 ≤ _), (by decide : 0 + 0 ≤ _)⟩)
  dsimp only [Pt.U, Pt.locs, Pt.cells, Pt.slots] at X1 l1 y1 z1 st1 hQ1
  subst l1 y1 z1
  obtain ⟨rfl, N1q, eh1⟩ := hQ1
  have N1 := Fr.app N0 N1q
  refine oOn st1 ?_
  show oGl p e below (T1.setTop (mkF m 12 #[.val (.int i0), .val (.int i1), .val (.int i2), .val (.int i3), .val (.int i4), .val (.int ((i0 &&& (2147483647 : Int32)) % (5 : Int32))), .unset, .unset, .unset, .unset, .unset, .unset] [(.int (oPick i1))])) _
  refine sistore X1 hx (hb hby at_12) rfl rfl (l' := #[.val (.int i0), .val (.int i1), .val (.int i2), .val (.int i3), .val (.int i4), .val (.int ((i0 &&& (2147483647 : Int32)) % (5 : Int32))), .val (.int (oPick i1)), .unset, .unset, .unset, .unset, .unset]) (pc' := 14) ?_
  refine siloadN X1 hx (hb hby at_14) rfl rfl (pc' := 15) ?_
  have hz2 : n0 ≤ h0.size := by omega
  obtain ⟨_, _, ⟨T2, L2, k2, n2⟩, -, X2, ⟨Lc2, hQ2, l2, y2, z2⟩, st2⟩ := Jvm.LawKit.callS X1 hx (y := (⟨"com/example/yusen_ledger/yusenledger/LineReaderIsBlankPinLaw", "pick", "(I)B"⟩ : MethodName)) hown (mvT hZ (hw _ (List.mem_of_getElem? (i := 1) rfl))) (mvT hZ (hw _ (List.mem_of_getElem? (i := 2) rfl))) (mvT hZ (hw _ (List.mem_of_getElem? (i := 3) rfl))) (mvT hZ (hw _ (List.mem_of_getElem? (i := 4) rfl))) (by decide) (backOf (W := 0) (rmPick l Z a0 hw [] i2 h0 n0 hz2 ) hZ (hw _ (List.mem_of_getElem? (i := 4) rfl)) (hw _ (List.mem_of_getElem? (i := 3) rfl)) (by decide) (by decide)) (g := (mkF m 15 #[.val (.int i0), .val (.int i1), .val (.int i2), .val (.int i3), .val (.int i4), .val (.int ((i0 &&& (2147483647 : Int32)) % (5 : Int32))), .val (.int (oPick i1)), .unset, .unset, .unset, .unset, .unset] [(.int i2)])) rfl (by rw [hml]; rfl) (argsL := [(.int i2)]) (rest := []) (lenOf pd_0 rfl) rfl (by show 2 * 0 + _ ≤ _; exact Nat.le_of_eq rfl) (hb hby at_15) (fun _ _ => ⟨rfl, eh1, (by decide : 0 + 0 ≤ _), (by decide : 0 + 0 ≤ _)⟩)
  dsimp only [Pt.U, Pt.locs, Pt.cells, Pt.slots] at X2 l2 y2 z2 st2 hQ2
  subst l2 y2 z2
  obtain ⟨rfl, N2q, eh2⟩ := hQ2
  have N2 := Fr.app N1 N2q
  refine oOn st2 ?_
  show oGl p e below (T2.setTop (mkF m 18 #[.val (.int i0), .val (.int i1), .val (.int i2), .val (.int i3), .val (.int i4), .val (.int ((i0 &&& (2147483647 : Int32)) % (5 : Int32))), .val (.int (oPick i1)), .unset, .unset, .unset, .unset, .unset] [(.int (oPick i2))])) _
  refine sistore X2 hx (hb hby at_18) rfl rfl (l' := #[.val (.int i0), .val (.int i1), .val (.int i2), .val (.int i3), .val (.int i4), .val (.int ((i0 &&& (2147483647 : Int32)) % (5 : Int32))), .val (.int (oPick i1)), .val (.int (oPick i2)), .unset, .unset, .unset, .unset]) (pc' := 20) ?_
  refine siloadN X2 hx (hb hby at_20) rfl rfl (pc' := 21) ?_
  have hz3 : n0 ≤ h0.size := by omega
  obtain ⟨_, _, ⟨T3, L3, k3, n3⟩, -, X3, ⟨Lc3, hQ3, l3, y3, z3⟩, st3⟩ := Jvm.LawKit.callS X2 hx (y := (⟨"com/example/yusen_ledger/yusenledger/LineReaderIsBlankPinLaw", "pick", "(I)B"⟩ : MethodName)) hown (mvT hZ (hw _ (List.mem_of_getElem? (i := 1) rfl))) (mvT hZ (hw _ (List.mem_of_getElem? (i := 2) rfl))) (mvT hZ (hw _ (List.mem_of_getElem? (i := 3) rfl))) (mvT hZ (hw _ (List.mem_of_getElem? (i := 4) rfl))) (by decide) (backOf (W := 0) (rmPick l Z a0 hw [] i3 h0 n0 hz3 ) hZ (hw _ (List.mem_of_getElem? (i := 4) rfl)) (hw _ (List.mem_of_getElem? (i := 3) rfl)) (by decide) (by decide)) (g := (mkF m 21 #[.val (.int i0), .val (.int i1), .val (.int i2), .val (.int i3), .val (.int i4), .val (.int ((i0 &&& (2147483647 : Int32)) % (5 : Int32))), .val (.int (oPick i1)), .val (.int (oPick i2)), .unset, .unset, .unset, .unset] [(.int i3)])) rfl (by rw [hml]; rfl) (argsL := [(.int i3)]) (rest := []) (lenOf pd_0 rfl) rfl (by show 2 * 0 + _ ≤ _; exact Nat.le_of_eq rfl) (hb hby at_21) (fun _ _ => ⟨rfl, eh2, (by decide : 0 + 0 ≤ _), (by decide : 0 + 0 ≤ _)⟩)
  dsimp only [Pt.U, Pt.locs, Pt.cells, Pt.slots] at X3 l3 y3 z3 st3 hQ3
  subst l3 y3 z3
  obtain ⟨rfl, N3q, eh3⟩ := hQ3
  have N3 := Fr.app N2 N3q
  refine oOn st3 ?_
  show oGl p e below (T3.setTop (mkF m 24 #[.val (.int i0), .val (.int i1), .val (.int i2), .val (.int i3), .val (.int i4), .val (.int ((i0 &&& (2147483647 : Int32)) % (5 : Int32))), .val (.int (oPick i1)), .val (.int (oPick i2)), .unset, .unset, .unset, .unset] [(.int (oPick i3))])) _
  refine sistore X3 hx (hb hby at_24) rfl rfl (l' := #[.val (.int i0), .val (.int i1), .val (.int i2), .val (.int i3), .val (.int i4), .val (.int ((i0 &&& (2147483647 : Int32)) % (5 : Int32))), .val (.int (oPick i1)), .val (.int (oPick i2)), .val (.int (oPick i3)), .unset, .unset, .unset]) (pc' := 26) ?_
  refine siload X3 hx (hb hby at_26) rfl rfl (pc' := 28) ?_
  have hz4 : n0 ≤ h0.size := by omega
  obtain ⟨_, _, ⟨T4, L4, k4, n4⟩, -, X4, ⟨Lc4, hQ4, l4, y4, z4⟩, st4⟩ := Jvm.LawKit.callS X3 hx (y := (⟨"com/example/yusen_ledger/yusenledger/LineReaderIsBlankPinLaw", "pick", "(I)B"⟩ : MethodName)) hown (mvT hZ (hw _ (List.mem_of_getElem? (i := 1) rfl))) (mvT hZ (hw _ (List.mem_of_getElem? (i := 2) rfl))) (mvT hZ (hw _ (List.mem_of_getElem? (i := 3) rfl))) (mvT hZ (hw _ (List.mem_of_getElem? (i := 4) rfl))) (by decide) (backOf (W := 0) (rmPick l Z a0 hw [] i4 h0 n0 hz4 ) hZ (hw _ (List.mem_of_getElem? (i := 4) rfl)) (hw _ (List.mem_of_getElem? (i := 3) rfl)) (by decide) (by decide)) (g := (mkF m 28 #[.val (.int i0), .val (.int i1), .val (.int i2), .val (.int i3), .val (.int i4), .val (.int ((i0 &&& (2147483647 : Int32)) % (5 : Int32))), .val (.int (oPick i1)), .val (.int (oPick i2)), .val (.int (oPick i3)), .unset, .unset, .unset] [(.int i4)])) rfl (by rw [hml]; rfl) (argsL := [(.int i4)]) (rest := []) (lenOf pd_0 rfl) rfl (by show 2 * 0 + _ ≤ _; exact Nat.le_of_eq rfl) (hb hby at_28) (fun _ _ => ⟨rfl, eh3, (by decide : 0 + 0 ≤ _), (by decide : 0 + 0 ≤ _)⟩)
  dsimp only [Pt.U, Pt.locs, Pt.cells, Pt.slots] at X4 l4 y4 z4 st4 hQ4
  subst l4 y4 z4
  obtain ⟨rfl, N4q, eh4⟩ := hQ4
  have N4 := Fr.app N3 N4q
  refine oOn st4 ?_
  show oGl p e below (T4.setTop (mkF m 31 #[.val (.int i0), .val (.int i1), .val (.int i2), .val (.int i3), .val (.int i4), .val (.int ((i0 &&& (2147483647 : Int32)) % (5 : Int32))), .val (.int (oPick i1)), .val (.int (oPick i2)), .val (.int (oPick i3)), .unset, .unset, .unset] [(.int (oPick i4))])) _
  refine sistore X4 hx (hb hby at_31) rfl rfl (l' := #[.val (.int i0), .val (.int i1), .val (.int i2), .val (.int i3), .val (.int i4), .val (.int ((i0 &&& (2147483647 : Int32)) % (5 : Int32))), .val (.int (oPick i1)), .val (.int (oPick i2)), .val (.int (oPick i3)), .val (.int (oPick i4)), .unset, .unset]) (pc' := 33) ?_
  have hp1 := oPick_nar i1
  generalize hb1 : (oPick i1) = b1
  show oGl p e below (T4.setTop (mkF m 33 #[.val (.int i0), .val (.int i1), .val (.int i2), .val (.int i3), .val (.int i4), .val (.int ((i0 &&& (2147483647 : Int32)) % (5 : Int32))), .val (.int b1), .val (.int (oPick i2)), .val (.int (oPick i3)), .val (.int (oPick i4)), .unset, .unset] [])) _
  rw [hb1] at hp1
  have hp2 := oPick_nar i2
  generalize hb2 : (oPick i2) = b2
  show oGl p e below (T4.setTop (mkF m 33 #[.val (.int i0), .val (.int i1), .val (.int i2), .val (.int i3), .val (.int i4), .val (.int ((i0 &&& (2147483647 : Int32)) % (5 : Int32))), .val (.int b1), .val (.int b2), .val (.int (oPick i3)), .val (.int (oPick i4)), .unset, .unset] [])) _
  rw [hb2] at hp2
  have hp3 := oPick_nar i3
  generalize hb3 : (oPick i3) = b3
  show oGl p e below (T4.setTop (mkF m 33 #[.val (.int i0), .val (.int i1), .val (.int i2), .val (.int i3), .val (.int i4), .val (.int ((i0 &&& (2147483647 : Int32)) % (5 : Int32))), .val (.int b1), .val (.int b2), .val (.int b3), .val (.int (oPick i4)), .unset, .unset] [])) _
  rw [hb3] at hp3
  have hp4 := oPick_nar i4
  generalize hb4 : (oPick i4) = b4
  show oGl p e below (T4.setTop (mkF m 33 #[.val (.int i0), .val (.int i1), .val (.int i2), .val (.int i3), .val (.int i4), .val (.int ((i0 &&& (2147483647 : Int32)) % (5 : Int32))), .val (.int b1), .val (.int b2), .val (.int b3), .val (.int b4), .unset, .unset] [])) _
  rw [hb4] at hp4
  have hk9 := own_mod i0
  generalize hk : ((i0 &&& (2147483647 : Int32)) % (5 : Int32)) = k
  show oGl p e below (T4.setTop (mkF m 33 #[.val (.int i0), .val (.int i1), .val (.int i2), .val (.int i3), .val (.int i4), .val (.int k), .val (.int b1), .val (.int b2), .val (.int b3), .val (.int b4), .unset, .unset] [])) _
  rw [hk] at hk9
  rcases own_five hk9 with rfl | rfl | rfl | rfl | rfl
  · skip
    show oGl p e below (T4.setTop (mkF m 33 #[.val (.int i0), .val (.int i1), .val (.int i2), .val (.int i3), .val (.int i4), .val (.int (0 : Int32)), .val (.int b1), .val (.int b2), .val (.int b3), .val (.int b4), .unset, .unset] [])) _
    refine siload X4 hx (hb hby at_33) rfl rfl (pc' := 35) ?_
    obtain ⟨T5, h5, k5, X5, e5, E5, A5, st5⟩ := newP X4 hx hZ (hw _ (List.mem_of_getElem? (i := 5) rfl)) eh4 (g := (mkF m 35 #[.val (.int i0), .val (.int i1), .val (.int i2), .val (.int i3), .val (.int i4), .val (.int (0 : Int32)), .val (.int b1), .val (.int b2), .val (.int b3), .val (.int b4), .unset, .unset] [(.int (0 : Int32))])) rfl (hb hby at_35) rfl (by decide) (cap := 0) (by decide) (by decide) (by decide) (by decide)
    obtain ⟨a5, g5⟩ : ∃ z, z = h0.size := ⟨_, rfl⟩
    rw [← g5] at A5 st5
    refine oOn st5 ?_
    have z6 : h0.size ≤ h5.size := E5.1
    have lt5 : a5 < h5.size := A5.lt
    have V5 : oAI Z h5 a5 .byte 0 (fun _ => 0) := oAI.new A5 rfl
    show oGl p e below (T5.setTop (mkF m 37 #[.val (.int i0), .val (.int i1), .val (.int i2), .val (.int i3), .val (.int i4), .val (.int (0 : Int32)), .val (.int b1), .val (.int b2), .val (.int b3), .val (.int b4), .unset, .unset] [(.ref a5)])) _
    refine sastore X5 hx (hb hby at_37) rfl rfl rfl (l' := #[.val (.int i0), .val (.int i1), .val (.int i2), .val (.int i3), .val (.int i4), .val (.int (0 : Int32)), .val (.int b1), .val (.int b2), .val (.int b3), .val (.int b4), .val (.ref a5), .unset]) (pc' := 39) ?_
    refine siload X5 hx (hb hby at_39) rfl rfl (pc' := 41) ?_
    refine sifY X5 hx (hb hby at_41) (by decide) (by decide) (flt (by decide : ¬ ((0 : Int32) < (0 : Int32)))).2.2.2 (pc' := 50) ?_
    refine siload X5 hx (hb hby at_50) rfl rfl (pc' := 52) ?_
    refine siconst X5 hx (hb hby at_52) rfl rfl (z := 1) (pc' := 53) ?_
    refine sicY X5 hx (hb hby at_53) (by decide) (by decide) (flt (by decide : ¬ ((1 : Int32) < (0 : Int32)))).2.2.2 (pc' := 62) ?_
    refine siload X5 hx (hb hby at_62) rfl rfl (pc' := 64) ?_
    refine siconst X5 hx (hb hby at_64) rfl rfl (z := 2) (pc' := 65) ?_
    refine sicY X5 hx (hb hby at_65) (by decide) (by decide) (flt (by decide : ¬ ((2 : Int32) < (0 : Int32)))).2.2.2 (pc' := 74) ?_
    refine siload X5 hx (hb hby at_74) rfl rfl (pc' := 76) ?_
    refine siconst X5 hx (hb hby at_76) rfl rfl (z := 3) (pc' := 77) ?_
    refine sicY X5 hx (hb hby at_77) (by decide) (by decide) (flt (by decide : ¬ ((3 : Int32) < (0 : Int32)))).2.2.2 (pc' := 86) ?_
    refine siload X5 hx (hb hby at_86) rfl rfl (pc' := 88) ?_
    refine siconst X5 hx (hb hby at_88) rfl rfl (z := 0) (pc' := 89) ?_
    refine siload X5 hx (hb hby at_89) rfl rfl (pc' := 91) ?_
    have hz7 : n0 ≤ h5.size := by omega
    obtain ⟨_, _, ⟨T7, L7, k7, n7⟩, -, X7, ⟨Lc7, hQ7, l7, y7, z7⟩, st7⟩ := Jvm.LawKit.callS X5 hx (y := (⟨"com/example/yusen_ledger/yusenledger/LineReaderIsBlankPinLaw", "fits", "(BII)Z"⟩ : MethodName)) hown (mvT hZ (hw _ (List.mem_of_getElem? (i := 6) rfl))) (mvT hZ (hw _ (List.mem_of_getElem? (i := 7) rfl))) (mvT hZ (hw _ (List.mem_of_getElem? (i := 3) rfl))) (mvT hZ (hw _ (List.mem_of_getElem? (i := 8) rfl))) (by decide) (backOf (W := 0) (rmFits l Z a0 hw [] b1 (0 : Int32) (0 : Int32) h5 n0 hz7 ) hZ (hw _ (List.mem_of_getElem? (i := 8) rfl)) (hw _ (List.mem_of_getElem? (i := 3) rfl)) (by decide) (by decide)) (g := (mkF m 91 #[.val (.int i0), .val (.int i1), .val (.int i2), .val (.int i3), .val (.int i4), .val (.int (0 : Int32)), .val (.int b1), .val (.int b2), .val (.int b3), .val (.int b4), .val (.ref a5), .unset] [(.int (0 : Int32)), (.int (0 : Int32)), (.int b1)])) rfl (by rw [hml]; rfl) (argsL := [(.int b1), (.int (0 : Int32)), (.int (0 : Int32))]) (rest := []) (lenOf pd_1 rfl) rfl (by show 2 * 0 + _ ≤ _; exact Nat.le_of_eq rfl) (hb hby at_91) (fun _ _ => ⟨rfl, e5, (by decide : 1 + 0 ≤ _), (by decide : 0 + 0 ≤ _)⟩)
    dsimp only [Pt.U, Pt.locs, Pt.cells, Pt.slots] at X7 l7 y7 z7 st7 hQ7
    subst l7 y7 z7
    obtain ⟨rfl, N7q, eh7⟩ := hQ7
    have N7 := Fr.app N4 N7q
    refine oOn st7 ?_
    show oGl p e below (T7.setTop (mkF m 94 #[.val (.int i0), .val (.int i1), .val (.int i2), .val (.int i3), .val (.int i4), .val (.int (0 : Int32)), .val (.int b1), .val (.int b2), .val (.int b3), .val (.int b4), .val (.ref a5), .unset] [(.int (oFits b1 (0 : Int32) (0 : Int32)))])) _
    by_cases hc94 : (oFits b1 (0 : Int32) (0 : Int32)) = (0 : Int32)
    · skip
      refine sifY X7 hx (hb hby at_94) (by decide) (by decide) (teq hc94).1 (pc' := 134) ?_
      refine siconst X7 hx (hb hby at_134) rfl rfl (z := 0) (pc' := 135) ?_
      refine sistore X7 hx (hb hby at_135) rfl rfl (l' := #[.val (.int i0), .val (.int i1), .val (.int i2), .val (.int i3), .val (.int i4), .val (.int (0 : Int32)), .val (.int b1), .val (.int b2), .val (.int b3), .val (.int b4), .val (.ref a5), .val (.int (0 : Int32))]) (pc' := 137) ?_
      refine saload X7 hx (hb hby at_137) rfl rfl rfl (pc' := 139) ?_
      have hz8 : n0 ≤ h5.size := by omega
      obtain ⟨_, _, ⟨T8, L8, k8, n8⟩, -, X8, ⟨Lc8, hQ8, l8, y8, z8⟩, st8⟩ := Jvm.LawKit.callS X7 hx (y := (⟨"com/example/yusen_ledger/yusenledger/LineReader", "isBlank", "([B)Z"⟩ : MethodName)) hown (mvT hZ (hw _ (List.mem_of_getElem? (i := 9) rfl))) (mvT hZ (hw _ (List.mem_of_getElem? (i := 10) rfl))) (mvT hZ (hw _ (List.mem_of_getElem? (i := 11) rfl))) (mvT hZ (hw _ (List.mem_of_getElem? (i := 12) rfl))) (by decide) (backOf (W := 0) (rmBlank l Z a0 hw [] a5 0 (fun _ => 0) h5 n0 hz8 V5) hZ (hw _ (List.mem_of_getElem? (i := 12) rfl)) (hw _ (List.mem_of_getElem? (i := 11) rfl)) (by decide) (by decide)) (g := (mkF m 139 #[.val (.int i0), .val (.int i1), .val (.int i2), .val (.int i3), .val (.int i4), .val (.int (0 : Int32)), .val (.int b1), .val (.int b2), .val (.int b3), .val (.int b4), .val (.ref a5), .val (.int (0 : Int32))] [(.ref a5)])) rfl (by rw [hml]; rfl) (argsL := [(.ref a5)]) (rest := []) (lenOf pd_2 rfl) rfl (by show 2 * 0 + _ ≤ _; exact Nat.le_of_eq rfl) (hb hby at_139) (fun _ _ => ⟨rfl, eh7, (by decide : 1 + 0 ≤ _), (by decide : 0 + 0 ≤ _)⟩)
      dsimp only [Pt.U, Pt.locs, Pt.cells, Pt.slots] at X8 l8 y8 z8 st8 hQ8
      subst l8 y8 z8
      obtain ⟨r8, rfl, N8q, eh8, hr⟩ := hQ8
      have N8 := Fr.app N7 N8q
      refine oOn st8 ?_
      show oGl p e below (T8.setTop (mkF m 142 #[.val (.int i0), .val (.int i1), .val (.int i2), .val (.int i3), .val (.int i4), .val (.int (0 : Int32)), .val (.int b1), .val (.int b2), .val (.int b3), .val (.int b4), .val (.ref a5), .val (.int (0 : Int32))] [(.int r8)])) _
      refine siload X8 hx (hb hby at_142) rfl rfl (pc' := 144) ?_
      refine sicN X8 hx (hb hby at_144) rfl (teq ((own_cmp (n := 0) (k := (0 : Int32)) (b1 := b1) (b2 := b2) (b3 := b3) (b4 := b4) rfl (by decide) (fun q => absurd q (by decide)) (fun q => absurd q (by decide)) (fun q => absurd q (by decide)) (fun q => absurd q (by decide)) hr).2 (fun q => q.1 hc94) : r8 = (0 : Int32))).2 (pc' := 147) ?_
      refine siconst X8 hx (hb hby at_147) rfl rfl (z := 1) (pc' := 148) ?_
      refine sgoto X8 hx (hb hby at_148) (by decide) (by decide)  (pc' := 152) ?_
      refine oRetN (t := .boolean) X8 hx Bd.notSynchronized Bd.returns (by simp) (hb hby at_152) (by decide) (by decide) ?_
      show Q_rmL Z i0 i1 i2 i3 i4 h0 n0 _ T8.heap _
      rw [eh8]
      exact ⟨rfl, N8⟩
    · skip
      refine sifN X7 hx (hb hby at_94) rfl (feq hc94).1 (pc' := 97) ?_
      refine siload X7 hx (hb hby at_97) rfl rfl (pc' := 99) ?_
      refine siconst X7 hx (hb hby at_99) rfl rfl (z := 1) (pc' := 100) ?_
      refine siload X7 hx (hb hby at_100) rfl rfl (pc' := 102) ?_
      have hz9 : n0 ≤ h5.size := by omega
      obtain ⟨_, _, ⟨T9, L9, k9, n9⟩, -, X9, ⟨Lc9, hQ9, l9, y9, z9⟩, st9⟩ := Jvm.LawKit.callS X7 hx (y := (⟨"com/example/yusen_ledger/yusenledger/LineReaderIsBlankPinLaw", "fits", "(BII)Z"⟩ : MethodName)) hown (mvT hZ (hw _ (List.mem_of_getElem? (i := 6) rfl))) (mvT hZ (hw _ (List.mem_of_getElem? (i := 7) rfl))) (mvT hZ (hw _ (List.mem_of_getElem? (i := 3) rfl))) (mvT hZ (hw _ (List.mem_of_getElem? (i := 8) rfl))) (by decide) (backOf (W := 0) (rmFits l Z a0 hw [] b2 (1 : Int32) (0 : Int32) h5 n0 hz9 ) hZ (hw _ (List.mem_of_getElem? (i := 8) rfl)) (hw _ (List.mem_of_getElem? (i := 3) rfl)) (by decide) (by decide)) (g := (mkF m 102 #[.val (.int i0), .val (.int i1), .val (.int i2), .val (.int i3), .val (.int i4), .val (.int (0 : Int32)), .val (.int b1), .val (.int b2), .val (.int b3), .val (.int b4), .val (.ref a5), .unset] [(.int (0 : Int32)), (.int (1 : Int32)), (.int b2)])) rfl (by rw [hml]; rfl) (argsL := [(.int b2), (.int (1 : Int32)), (.int (0 : Int32))]) (rest := []) (lenOf pd_1 rfl) rfl (by show 2 * 0 + _ ≤ _; exact Nat.le_of_eq rfl) (hb hby at_102) (fun _ _ => ⟨rfl, eh7, (by decide : 1 + 0 ≤ _), (by decide : 0 + 0 ≤ _)⟩)
      dsimp only [Pt.U, Pt.locs, Pt.cells, Pt.slots] at X9 l9 y9 z9 st9 hQ9
      subst l9 y9 z9
      obtain ⟨rfl, N9q, eh9⟩ := hQ9
      have N9 := Fr.app N7 N9q
      refine oOn st9 ?_
      show oGl p e below (T9.setTop (mkF m 105 #[.val (.int i0), .val (.int i1), .val (.int i2), .val (.int i3), .val (.int i4), .val (.int (0 : Int32)), .val (.int b1), .val (.int b2), .val (.int b3), .val (.int b4), .val (.ref a5), .unset] [(.int (oFits b2 (1 : Int32) (0 : Int32)))])) _
      by_cases hc105 : (oFits b2 (1 : Int32) (0 : Int32)) = (0 : Int32)
      · skip
        refine sifY X9 hx (hb hby at_105) (by decide) (by decide) (teq hc105).1 (pc' := 134) ?_
        refine siconst X9 hx (hb hby at_134) rfl rfl (z := 0) (pc' := 135) ?_
        refine sistore X9 hx (hb hby at_135) rfl rfl (l' := #[.val (.int i0), .val (.int i1), .val (.int i2), .val (.int i3), .val (.int i4), .val (.int (0 : Int32)), .val (.int b1), .val (.int b2), .val (.int b3), .val (.int b4), .val (.ref a5), .val (.int (0 : Int32))]) (pc' := 137) ?_
        refine saload X9 hx (hb hby at_137) rfl rfl rfl (pc' := 139) ?_
        have hz10 : n0 ≤ h5.size := by omega
        obtain ⟨_, _, ⟨T10, L10, k10, n10⟩, -, X10, ⟨Lc10, hQ10, l10, y10, z10⟩, st10⟩ := Jvm.LawKit.callS X9 hx (y := (⟨"com/example/yusen_ledger/yusenledger/LineReader", "isBlank", "([B)Z"⟩ : MethodName)) hown (mvT hZ (hw _ (List.mem_of_getElem? (i := 9) rfl))) (mvT hZ (hw _ (List.mem_of_getElem? (i := 10) rfl))) (mvT hZ (hw _ (List.mem_of_getElem? (i := 11) rfl))) (mvT hZ (hw _ (List.mem_of_getElem? (i := 12) rfl))) (by decide) (backOf (W := 0) (rmBlank l Z a0 hw [] a5 0 (fun _ => 0) h5 n0 hz10 V5) hZ (hw _ (List.mem_of_getElem? (i := 12) rfl)) (hw _ (List.mem_of_getElem? (i := 11) rfl)) (by decide) (by decide)) (g := (mkF m 139 #[.val (.int i0), .val (.int i1), .val (.int i2), .val (.int i3), .val (.int i4), .val (.int (0 : Int32)), .val (.int b1), .val (.int b2), .val (.int b3), .val (.int b4), .val (.ref a5), .val (.int (0 : Int32))] [(.ref a5)])) rfl (by rw [hml]; rfl) (argsL := [(.ref a5)]) (rest := []) (lenOf pd_2 rfl) rfl (by show 2 * 0 + _ ≤ _; exact Nat.le_of_eq rfl) (hb hby at_139) (fun _ _ => ⟨rfl, eh9, (by decide : 1 + 0 ≤ _), (by decide : 0 + 0 ≤ _)⟩)
        dsimp only [Pt.U, Pt.locs, Pt.cells, Pt.slots] at X10 l10 y10 z10 st10 hQ10
        subst l10 y10 z10
        obtain ⟨r10, rfl, N10q, eh10, hr⟩ := hQ10
        have N10 := Fr.app N9 N10q
        refine oOn st10 ?_
        show oGl p e below (T10.setTop (mkF m 142 #[.val (.int i0), .val (.int i1), .val (.int i2), .val (.int i3), .val (.int i4), .val (.int (0 : Int32)), .val (.int b1), .val (.int b2), .val (.int b3), .val (.int b4), .val (.ref a5), .val (.int (0 : Int32))] [(.int r10)])) _
        refine siload X10 hx (hb hby at_142) rfl rfl (pc' := 144) ?_
        refine sicN X10 hx (hb hby at_144) rfl (teq ((own_cmp (n := 0) (k := (0 : Int32)) (b1 := b1) (b2 := b2) (b3 := b3) (b4 := b4) rfl (by decide) (fun q => absurd q (by decide)) (fun q => absurd q (by decide)) (fun q => absurd q (by decide)) (fun q => absurd q (by decide)) hr).2 (fun q => q.2.1 hc105) : r10 = (0 : Int32))).2 (pc' := 147) ?_
        refine siconst X10 hx (hb hby at_147) rfl rfl (z := 1) (pc' := 148) ?_
        refine sgoto X10 hx (hb hby at_148) (by decide) (by decide)  (pc' := 152) ?_
        refine oRetN (t := .boolean) X10 hx Bd.notSynchronized Bd.returns (by simp) (hb hby at_152) (by decide) (by decide) ?_
        show Q_rmL Z i0 i1 i2 i3 i4 h0 n0 _ T10.heap _
        rw [eh10]
        exact ⟨rfl, N10⟩
      · skip
        refine sifN X9 hx (hb hby at_105) rfl (feq hc105).1 (pc' := 108) ?_
        refine siload X9 hx (hb hby at_108) rfl rfl (pc' := 110) ?_
        refine siconst X9 hx (hb hby at_110) rfl rfl (z := 2) (pc' := 111) ?_
        refine siload X9 hx (hb hby at_111) rfl rfl (pc' := 113) ?_
        have hz11 : n0 ≤ h5.size := by omega
        obtain ⟨_, _, ⟨T11, L11, k11, n11⟩, -, X11, ⟨Lc11, hQ11, l11, y11, z11⟩, st11⟩ := Jvm.LawKit.callS X9 hx (y := (⟨"com/example/yusen_ledger/yusenledger/LineReaderIsBlankPinLaw", "fits", "(BII)Z"⟩ : MethodName)) hown (mvT hZ (hw _ (List.mem_of_getElem? (i := 6) rfl))) (mvT hZ (hw _ (List.mem_of_getElem? (i := 7) rfl))) (mvT hZ (hw _ (List.mem_of_getElem? (i := 3) rfl))) (mvT hZ (hw _ (List.mem_of_getElem? (i := 8) rfl))) (by decide) (backOf (W := 0) (rmFits l Z a0 hw [] b3 (2 : Int32) (0 : Int32) h5 n0 hz11 ) hZ (hw _ (List.mem_of_getElem? (i := 8) rfl)) (hw _ (List.mem_of_getElem? (i := 3) rfl)) (by decide) (by decide)) (g := (mkF m 113 #[.val (.int i0), .val (.int i1), .val (.int i2), .val (.int i3), .val (.int i4), .val (.int (0 : Int32)), .val (.int b1), .val (.int b2), .val (.int b3), .val (.int b4), .val (.ref a5), .unset] [(.int (0 : Int32)), (.int (2 : Int32)), (.int b3)])) rfl (by rw [hml]; rfl) (argsL := [(.int b3), (.int (2 : Int32)), (.int (0 : Int32))]) (rest := []) (lenOf pd_1 rfl) rfl (by show 2 * 0 + _ ≤ _; exact Nat.le_of_eq rfl) (hb hby at_113) (fun _ _ => ⟨rfl, eh9, (by decide : 1 + 0 ≤ _), (by decide : 0 + 0 ≤ _)⟩)
        dsimp only [Pt.U, Pt.locs, Pt.cells, Pt.slots] at X11 l11 y11 z11 st11 hQ11
        subst l11 y11 z11
        obtain ⟨rfl, N11q, eh11⟩ := hQ11
        have N11 := Fr.app N9 N11q
        refine oOn st11 ?_
        show oGl p e below (T11.setTop (mkF m 116 #[.val (.int i0), .val (.int i1), .val (.int i2), .val (.int i3), .val (.int i4), .val (.int (0 : Int32)), .val (.int b1), .val (.int b2), .val (.int b3), .val (.int b4), .val (.ref a5), .unset] [(.int (oFits b3 (2 : Int32) (0 : Int32)))])) _
        by_cases hc116 : (oFits b3 (2 : Int32) (0 : Int32)) = (0 : Int32)
        · skip
          refine sifY X11 hx (hb hby at_116) (by decide) (by decide) (teq hc116).1 (pc' := 134) ?_
          refine siconst X11 hx (hb hby at_134) rfl rfl (z := 0) (pc' := 135) ?_
          refine sistore X11 hx (hb hby at_135) rfl rfl (l' := #[.val (.int i0), .val (.int i1), .val (.int i2), .val (.int i3), .val (.int i4), .val (.int (0 : Int32)), .val (.int b1), .val (.int b2), .val (.int b3), .val (.int b4), .val (.ref a5), .val (.int (0 : Int32))]) (pc' := 137) ?_
          refine saload X11 hx (hb hby at_137) rfl rfl rfl (pc' := 139) ?_
          have hz12 : n0 ≤ h5.size := by omega
          obtain ⟨_, _, ⟨T12, L12, k12, n12⟩, -, X12, ⟨Lc12, hQ12, l12, y12, z12⟩, st12⟩ := Jvm.LawKit.callS X11 hx (y := (⟨"com/example/yusen_ledger/yusenledger/LineReader", "isBlank", "([B)Z"⟩ : MethodName)) hown (mvT hZ (hw _ (List.mem_of_getElem? (i := 9) rfl))) (mvT hZ (hw _ (List.mem_of_getElem? (i := 10) rfl))) (mvT hZ (hw _ (List.mem_of_getElem? (i := 11) rfl))) (mvT hZ (hw _ (List.mem_of_getElem? (i := 12) rfl))) (by decide) (backOf (W := 0) (rmBlank l Z a0 hw [] a5 0 (fun _ => 0) h5 n0 hz12 V5) hZ (hw _ (List.mem_of_getElem? (i := 12) rfl)) (hw _ (List.mem_of_getElem? (i := 11) rfl)) (by decide) (by decide)) (g := (mkF m 139 #[.val (.int i0), .val (.int i1), .val (.int i2), .val (.int i3), .val (.int i4), .val (.int (0 : Int32)), .val (.int b1), .val (.int b2), .val (.int b3), .val (.int b4), .val (.ref a5), .val (.int (0 : Int32))] [(.ref a5)])) rfl (by rw [hml]; rfl) (argsL := [(.ref a5)]) (rest := []) (lenOf pd_2 rfl) rfl (by show 2 * 0 + _ ≤ _; exact Nat.le_of_eq rfl) (hb hby at_139) (fun _ _ => ⟨rfl, eh11, (by decide : 1 + 0 ≤ _), (by decide : 0 + 0 ≤ _)⟩)
          dsimp only [Pt.U, Pt.locs, Pt.cells, Pt.slots] at X12 l12 y12 z12 st12 hQ12
          subst l12 y12 z12
          obtain ⟨r12, rfl, N12q, eh12, hr⟩ := hQ12
          have N12 := Fr.app N11 N12q
          refine oOn st12 ?_
          show oGl p e below (T12.setTop (mkF m 142 #[.val (.int i0), .val (.int i1), .val (.int i2), .val (.int i3), .val (.int i4), .val (.int (0 : Int32)), .val (.int b1), .val (.int b2), .val (.int b3), .val (.int b4), .val (.ref a5), .val (.int (0 : Int32))] [(.int r12)])) _
          refine siload X12 hx (hb hby at_142) rfl rfl (pc' := 144) ?_
          refine sicN X12 hx (hb hby at_144) rfl (teq ((own_cmp (n := 0) (k := (0 : Int32)) (b1 := b1) (b2 := b2) (b3 := b3) (b4 := b4) rfl (by decide) (fun q => absurd q (by decide)) (fun q => absurd q (by decide)) (fun q => absurd q (by decide)) (fun q => absurd q (by decide)) hr).2 (fun q => q.2.2.1 hc116) : r12 = (0 : Int32))).2 (pc' := 147) ?_
          refine siconst X12 hx (hb hby at_147) rfl rfl (z := 1) (pc' := 148) ?_
          refine sgoto X12 hx (hb hby at_148) (by decide) (by decide)  (pc' := 152) ?_
          refine oRetN (t := .boolean) X12 hx Bd.notSynchronized Bd.returns (by simp) (hb hby at_152) (by decide) (by decide) ?_
          show Q_rmL Z i0 i1 i2 i3 i4 h0 n0 _ T12.heap _
          rw [eh12]
          exact ⟨rfl, N12⟩
        · skip
          refine sifN X11 hx (hb hby at_116) rfl (feq hc116).1 (pc' := 119) ?_
          refine siload X11 hx (hb hby at_119) rfl rfl (pc' := 121) ?_
          refine siconst X11 hx (hb hby at_121) rfl rfl (z := 3) (pc' := 122) ?_
          refine siload X11 hx (hb hby at_122) rfl rfl (pc' := 124) ?_
          have hz13 : n0 ≤ h5.size := by omega
          obtain ⟨_, _, ⟨T13, L13, k13, n13⟩, -, X13, ⟨Lc13, hQ13, l13, y13, z13⟩, st13⟩ := Jvm.LawKit.callS X11 hx (y := (⟨"com/example/yusen_ledger/yusenledger/LineReaderIsBlankPinLaw", "fits", "(BII)Z"⟩ : MethodName)) hown (mvT hZ (hw _ (List.mem_of_getElem? (i := 6) rfl))) (mvT hZ (hw _ (List.mem_of_getElem? (i := 7) rfl))) (mvT hZ (hw _ (List.mem_of_getElem? (i := 3) rfl))) (mvT hZ (hw _ (List.mem_of_getElem? (i := 8) rfl))) (by decide) (backOf (W := 0) (rmFits l Z a0 hw [] b4 (3 : Int32) (0 : Int32) h5 n0 hz13 ) hZ (hw _ (List.mem_of_getElem? (i := 8) rfl)) (hw _ (List.mem_of_getElem? (i := 3) rfl)) (by decide) (by decide)) (g := (mkF m 124 #[.val (.int i0), .val (.int i1), .val (.int i2), .val (.int i3), .val (.int i4), .val (.int (0 : Int32)), .val (.int b1), .val (.int b2), .val (.int b3), .val (.int b4), .val (.ref a5), .unset] [(.int (0 : Int32)), (.int (3 : Int32)), (.int b4)])) rfl (by rw [hml]; rfl) (argsL := [(.int b4), (.int (3 : Int32)), (.int (0 : Int32))]) (rest := []) (lenOf pd_1 rfl) rfl (by show 2 * 0 + _ ≤ _; exact Nat.le_of_eq rfl) (hb hby at_124) (fun _ _ => ⟨rfl, eh11, (by decide : 1 + 0 ≤ _), (by decide : 0 + 0 ≤ _)⟩)
          dsimp only [Pt.U, Pt.locs, Pt.cells, Pt.slots] at X13 l13 y13 z13 st13 hQ13
          subst l13 y13 z13
          obtain ⟨rfl, N13q, eh13⟩ := hQ13
          have N13 := Fr.app N11 N13q
          refine oOn st13 ?_
          show oGl p e below (T13.setTop (mkF m 127 #[.val (.int i0), .val (.int i1), .val (.int i2), .val (.int i3), .val (.int i4), .val (.int (0 : Int32)), .val (.int b1), .val (.int b2), .val (.int b3), .val (.int b4), .val (.ref a5), .unset] [(.int (oFits b4 (3 : Int32) (0 : Int32)))])) _
          by_cases hc127 : (oFits b4 (3 : Int32) (0 : Int32)) = (0 : Int32)
          · skip
            refine sifY X13 hx (hb hby at_127) (by decide) (by decide) (teq hc127).1 (pc' := 134) ?_
            refine siconst X13 hx (hb hby at_134) rfl rfl (z := 0) (pc' := 135) ?_
            refine sistore X13 hx (hb hby at_135) rfl rfl (l' := #[.val (.int i0), .val (.int i1), .val (.int i2), .val (.int i3), .val (.int i4), .val (.int (0 : Int32)), .val (.int b1), .val (.int b2), .val (.int b3), .val (.int b4), .val (.ref a5), .val (.int (0 : Int32))]) (pc' := 137) ?_
            refine saload X13 hx (hb hby at_137) rfl rfl rfl (pc' := 139) ?_
            have hz14 : n0 ≤ h5.size := by omega
            obtain ⟨_, _, ⟨T14, L14, k14, n14⟩, -, X14, ⟨Lc14, hQ14, l14, y14, z14⟩, st14⟩ := Jvm.LawKit.callS X13 hx (y := (⟨"com/example/yusen_ledger/yusenledger/LineReader", "isBlank", "([B)Z"⟩ : MethodName)) hown (mvT hZ (hw _ (List.mem_of_getElem? (i := 9) rfl))) (mvT hZ (hw _ (List.mem_of_getElem? (i := 10) rfl))) (mvT hZ (hw _ (List.mem_of_getElem? (i := 11) rfl))) (mvT hZ (hw _ (List.mem_of_getElem? (i := 12) rfl))) (by decide) (backOf (W := 0) (rmBlank l Z a0 hw [] a5 0 (fun _ => 0) h5 n0 hz14 V5) hZ (hw _ (List.mem_of_getElem? (i := 12) rfl)) (hw _ (List.mem_of_getElem? (i := 11) rfl)) (by decide) (by decide)) (g := (mkF m 139 #[.val (.int i0), .val (.int i1), .val (.int i2), .val (.int i3), .val (.int i4), .val (.int (0 : Int32)), .val (.int b1), .val (.int b2), .val (.int b3), .val (.int b4), .val (.ref a5), .val (.int (0 : Int32))] [(.ref a5)])) rfl (by rw [hml]; rfl) (argsL := [(.ref a5)]) (rest := []) (lenOf pd_2 rfl) rfl (by show 2 * 0 + _ ≤ _; exact Nat.le_of_eq rfl) (hb hby at_139) (fun _ _ => ⟨rfl, eh13, (by decide : 1 + 0 ≤ _), (by decide : 0 + 0 ≤ _)⟩)
            dsimp only [Pt.U, Pt.locs, Pt.cells, Pt.slots] at X14 l14 y14 z14 st14 hQ14
            subst l14 y14 z14
            obtain ⟨r14, rfl, N14q, eh14, hr⟩ := hQ14
            have N14 := Fr.app N13 N14q
            refine oOn st14 ?_
            show oGl p e below (T14.setTop (mkF m 142 #[.val (.int i0), .val (.int i1), .val (.int i2), .val (.int i3), .val (.int i4), .val (.int (0 : Int32)), .val (.int b1), .val (.int b2), .val (.int b3), .val (.int b4), .val (.ref a5), .val (.int (0 : Int32))] [(.int r14)])) _
            refine siload X14 hx (hb hby at_142) rfl rfl (pc' := 144) ?_
            refine sicN X14 hx (hb hby at_144) rfl (teq ((own_cmp (n := 0) (k := (0 : Int32)) (b1 := b1) (b2 := b2) (b3 := b3) (b4 := b4) rfl (by decide) (fun q => absurd q (by decide)) (fun q => absurd q (by decide)) (fun q => absurd q (by decide)) (fun q => absurd q (by decide)) hr).2 (fun q => q.2.2.2 hc127) : r14 = (0 : Int32))).2 (pc' := 147) ?_
            refine siconst X14 hx (hb hby at_147) rfl rfl (z := 1) (pc' := 148) ?_
            refine sgoto X14 hx (hb hby at_148) (by decide) (by decide)  (pc' := 152) ?_
            refine oRetN (t := .boolean) X14 hx Bd.notSynchronized Bd.returns (by simp) (hb hby at_152) (by decide) (by decide) ?_
            show Q_rmL Z i0 i1 i2 i3 i4 h0 n0 _ T14.heap _
            rw [eh14]
            exact ⟨rfl, N14⟩
          · skip
            refine sifN X13 hx (hb hby at_127) rfl (feq hc127).1 (pc' := 130) ?_
            refine siconst X13 hx (hb hby at_130) rfl rfl (z := 1) (pc' := 131) ?_
            refine sgoto X13 hx (hb hby at_131) (by decide) (by decide)  (pc' := 135) ?_
            refine sistore X13 hx (hb hby at_135) rfl rfl (l' := #[.val (.int i0), .val (.int i1), .val (.int i2), .val (.int i3), .val (.int i4), .val (.int (0 : Int32)), .val (.int b1), .val (.int b2), .val (.int b3), .val (.int b4), .val (.ref a5), .val (.int (1 : Int32))]) (pc' := 137) ?_
            refine saload X13 hx (hb hby at_137) rfl rfl rfl (pc' := 139) ?_
            have hz15 : n0 ≤ h5.size := by omega
            obtain ⟨_, _, ⟨T15, L15, k15, n15⟩, -, X15, ⟨Lc15, hQ15, l15, y15, z15⟩, st15⟩ := Jvm.LawKit.callS X13 hx (y := (⟨"com/example/yusen_ledger/yusenledger/LineReader", "isBlank", "([B)Z"⟩ : MethodName)) hown (mvT hZ (hw _ (List.mem_of_getElem? (i := 9) rfl))) (mvT hZ (hw _ (List.mem_of_getElem? (i := 10) rfl))) (mvT hZ (hw _ (List.mem_of_getElem? (i := 11) rfl))) (mvT hZ (hw _ (List.mem_of_getElem? (i := 12) rfl))) (by decide) (backOf (W := 0) (rmBlank l Z a0 hw [] a5 0 (fun _ => 0) h5 n0 hz15 V5) hZ (hw _ (List.mem_of_getElem? (i := 12) rfl)) (hw _ (List.mem_of_getElem? (i := 11) rfl)) (by decide) (by decide)) (g := (mkF m 139 #[.val (.int i0), .val (.int i1), .val (.int i2), .val (.int i3), .val (.int i4), .val (.int (0 : Int32)), .val (.int b1), .val (.int b2), .val (.int b3), .val (.int b4), .val (.ref a5), .val (.int (1 : Int32))] [(.ref a5)])) rfl (by rw [hml]; rfl) (argsL := [(.ref a5)]) (rest := []) (lenOf pd_2 rfl) rfl (by show 2 * 0 + _ ≤ _; exact Nat.le_of_eq rfl) (hb hby at_139) (fun _ _ => ⟨rfl, eh13, (by decide : 1 + 0 ≤ _), (by decide : 0 + 0 ≤ _)⟩)
            dsimp only [Pt.U, Pt.locs, Pt.cells, Pt.slots] at X15 l15 y15 z15 st15 hQ15
            subst l15 y15 z15
            obtain ⟨r15, rfl, N15q, eh15, hr⟩ := hQ15
            have N15 := Fr.app N13 N15q
            refine oOn st15 ?_
            show oGl p e below (T15.setTop (mkF m 142 #[.val (.int i0), .val (.int i1), .val (.int i2), .val (.int i3), .val (.int i4), .val (.int (0 : Int32)), .val (.int b1), .val (.int b2), .val (.int b3), .val (.int b4), .val (.ref a5), .val (.int (1 : Int32))] [(.int r15)])) _
            refine siload X15 hx (hb hby at_142) rfl rfl (pc' := 144) ?_
            refine sicN X15 hx (hb hby at_144) rfl (teq ((own_cmp (n := 0) (k := (0 : Int32)) (b1 := b1) (b2 := b2) (b3 := b3) (b4 := b4) rfl (by decide) (fun q => absurd q (by decide)) (fun q => absurd q (by decide)) (fun q => absurd q (by decide)) (fun q => absurd q (by decide)) hr).1 ⟨hc94, hc105, hc116, hc127⟩ : r15 = (1 : Int32))).2 (pc' := 147) ?_
            refine siconst X15 hx (hb hby at_147) rfl rfl (z := 1) (pc' := 148) ?_
            refine sgoto X15 hx (hb hby at_148) (by decide) (by decide)  (pc' := 152) ?_
            refine oRetN (t := .boolean) X15 hx Bd.notSynchronized Bd.returns (by simp) (hb hby at_152) (by decide) (by decide) ?_
            show Q_rmL Z i0 i1 i2 i3 i4 h0 n0 _ T15.heap _
            rw [eh15]
            exact ⟨rfl, N15⟩
  · skip
    show oGl p e below (T4.setTop (mkF m 33 #[.val (.int i0), .val (.int i1), .val (.int i2), .val (.int i3), .val (.int i4), .val (.int (1 : Int32)), .val (.int b1), .val (.int b2), .val (.int b3), .val (.int b4), .unset, .unset] [])) _
    refine siload X4 hx (hb hby at_33) rfl rfl (pc' := 35) ?_
    obtain ⟨T16, h16, k16, X16, e16, E16, A16, st16⟩ := newP X4 hx hZ (hw _ (List.mem_of_getElem? (i := 5) rfl)) eh4 (g := (mkF m 35 #[.val (.int i0), .val (.int i1), .val (.int i2), .val (.int i3), .val (.int i4), .val (.int (1 : Int32)), .val (.int b1), .val (.int b2), .val (.int b3), .val (.int b4), .unset, .unset] [(.int (1 : Int32))])) rfl (hb hby at_35) rfl (by decide) (cap := 1) (by decide) (by decide) (by decide) (by decide)
    obtain ⟨a16, g16⟩ : ∃ z, z = h0.size := ⟨_, rfl⟩
    rw [← g16] at A16 st16
    refine oOn st16 ?_
    have z17 : h0.size ≤ h16.size := E16.1
    have lt16 : a16 < h16.size := A16.lt
    have V16 : oAI Z h16 a16 .byte 1 (fun _ => 0) := oAI.new A16 rfl
    show oGl p e below (T16.setTop (mkF m 37 #[.val (.int i0), .val (.int i1), .val (.int i2), .val (.int i3), .val (.int i4), .val (.int (1 : Int32)), .val (.int b1), .val (.int b2), .val (.int b3), .val (.int b4), .unset, .unset] [(.ref a16)])) _
    refine sastore X16 hx (hb hby at_37) rfl rfl rfl (l' := #[.val (.int i0), .val (.int i1), .val (.int i2), .val (.int i3), .val (.int i4), .val (.int (1 : Int32)), .val (.int b1), .val (.int b2), .val (.int b3), .val (.int b4), .val (.ref a16), .unset]) (pc' := 39) ?_
    refine siload X16 hx (hb hby at_39) rfl rfl (pc' := 41) ?_
    refine sifN X16 hx (hb hby at_41) rfl (tlt (by decide : (0 : Int32) < (1 : Int32))).2.2.2 (pc' := 44) ?_
    refine saload X16 hx (hb hby at_44) rfl rfl rfl (pc' := 46) ?_
    refine siconst X16 hx (hb hby at_46) rfl rfl (z := 0) (pc' := 47) ?_
    refine siload X16 hx (hb hby at_47) rfl rfl (pc' := 49) ?_
    obtain ⟨T18, h18, X18, e18, W18, V18, st18⟩ := V16.stB X16 hx hZ e16 (j := (0 : Int32)) (by decide) (g := (mkF m 49 #[.val (.int i0), .val (.int i1), .val (.int i2), .val (.int i3), .val (.int i4), .val (.int (1 : Int32)), .val (.int b1), .val (.int b2), .val (.int b3), .val (.int b4), .val (.ref a16), .unset] [(.int b1), (.int (0 : Int32)), (.ref a16)])) rfl rfl (hb hby at_49)
    refine oOn st18 ?_
    have z19 : h16.size ≤ h18.size := Nat.le_of_eq W18.size.symm
    have N18 := Fr.snoc X18 N4 (by omega)
    show oGl p e below (T18.setTop (mkF m 50 #[.val (.int i0), .val (.int i1), .val (.int i2), .val (.int i3), .val (.int i4), .val (.int (1 : Int32)), .val (.int b1), .val (.int b2), .val (.int b3), .val (.int b4), .val (.ref a16), .unset] [])) _
    refine siload X18 hx (hb hby at_50) rfl rfl (pc' := 52) ?_
    refine siconst X18 hx (hb hby at_52) rfl rfl (z := 1) (pc' := 53) ?_
    refine sicY X18 hx (hb hby at_53) (by decide) (by decide) (flt (by decide : ¬ ((1 : Int32) < (1 : Int32)))).2.2.2 (pc' := 62) ?_
    refine siload X18 hx (hb hby at_62) rfl rfl (pc' := 64) ?_
    refine siconst X18 hx (hb hby at_64) rfl rfl (z := 2) (pc' := 65) ?_
    refine sicY X18 hx (hb hby at_65) (by decide) (by decide) (flt (by decide : ¬ ((2 : Int32) < (1 : Int32)))).2.2.2 (pc' := 74) ?_
    refine siload X18 hx (hb hby at_74) rfl rfl (pc' := 76) ?_
    refine siconst X18 hx (hb hby at_76) rfl rfl (z := 3) (pc' := 77) ?_
    refine sicY X18 hx (hb hby at_77) (by decide) (by decide) (flt (by decide : ¬ ((3 : Int32) < (1 : Int32)))).2.2.2 (pc' := 86) ?_
    refine siload X18 hx (hb hby at_86) rfl rfl (pc' := 88) ?_
    refine siconst X18 hx (hb hby at_88) rfl rfl (z := 0) (pc' := 89) ?_
    refine siload X18 hx (hb hby at_89) rfl rfl (pc' := 91) ?_
    have hz20 : n0 ≤ h18.size := by omega
    obtain ⟨_, _, ⟨T20, L20, k20, n20⟩, -, X20, ⟨Lc20, hQ20, l20, y20, z20⟩, st20⟩ := Jvm.LawKit.callS X18 hx (y := (⟨"com/example/yusen_ledger/yusenledger/LineReaderIsBlankPinLaw", "fits", "(BII)Z"⟩ : MethodName)) hown (mvT hZ (hw _ (List.mem_of_getElem? (i := 6) rfl))) (mvT hZ (hw _ (List.mem_of_getElem? (i := 7) rfl))) (mvT hZ (hw _ (List.mem_of_getElem? (i := 3) rfl))) (mvT hZ (hw _ (List.mem_of_getElem? (i := 8) rfl))) (by decide) (backOf (W := 0) (rmFits l Z a0 hw [] b1 (0 : Int32) (1 : Int32) h18 n0 hz20 ) hZ (hw _ (List.mem_of_getElem? (i := 8) rfl)) (hw _ (List.mem_of_getElem? (i := 3) rfl)) (by decide) (by decide)) (g := (mkF m 91 #[.val (.int i0), .val (.int i1), .val (.int i2), .val (.int i3), .val (.int i4), .val (.int (1 : Int32)), .val (.int b1), .val (.int b2), .val (.int b3), .val (.int b4), .val (.ref a16), .unset] [(.int (1 : Int32)), (.int (0 : Int32)), (.int b1)])) rfl (by rw [hml]; rfl) (argsL := [(.int b1), (.int (0 : Int32)), (.int (1 : Int32))]) (rest := []) (lenOf pd_1 rfl) rfl (by show 2 * 0 + _ ≤ _; exact Nat.le_of_eq rfl) (hb hby at_91) (fun _ _ => ⟨rfl, e18, (by decide : 1 + 0 ≤ _), (by decide : 1 + 0 ≤ _)⟩)
    dsimp only [Pt.U, Pt.locs, Pt.cells, Pt.slots] at X20 l20 y20 z20 st20 hQ20
    subst l20 y20 z20
    obtain ⟨rfl, N20q, eh20⟩ := hQ20
    have N20 := Fr.app N18 N20q
    refine oOn st20 ?_
    show oGl p e below (T20.setTop (mkF m 94 #[.val (.int i0), .val (.int i1), .val (.int i2), .val (.int i3), .val (.int i4), .val (.int (1 : Int32)), .val (.int b1), .val (.int b2), .val (.int b3), .val (.int b4), .val (.ref a16), .unset] [(.int (oFits b1 (0 : Int32) (1 : Int32)))])) _
    by_cases hc94 : (oFits b1 (0 : Int32) (1 : Int32)) = (0 : Int32)
    · skip
      refine sifY X20 hx (hb hby at_94) (by decide) (by decide) (teq hc94).1 (pc' := 134) ?_
      refine siconst X20 hx (hb hby at_134) rfl rfl (z := 0) (pc' := 135) ?_
      refine sistore X20 hx (hb hby at_135) rfl rfl (l' := #[.val (.int i0), .val (.int i1), .val (.int i2), .val (.int i3), .val (.int i4), .val (.int (1 : Int32)), .val (.int b1), .val (.int b2), .val (.int b3), .val (.int b4), .val (.ref a16), .val (.int (0 : Int32))]) (pc' := 137) ?_
      refine saload X20 hx (hb hby at_137) rfl rfl rfl (pc' := 139) ?_
      have hz21 : n0 ≤ h18.size := by omega
      obtain ⟨_, _, ⟨T21, L21, k21, n21⟩, -, X21, ⟨Lc21, hQ21, l21, y21, z21⟩, st21⟩ := Jvm.LawKit.callS X20 hx (y := (⟨"com/example/yusen_ledger/yusenledger/LineReader", "isBlank", "([B)Z"⟩ : MethodName)) hown (mvT hZ (hw _ (List.mem_of_getElem? (i := 9) rfl))) (mvT hZ (hw _ (List.mem_of_getElem? (i := 10) rfl))) (mvT hZ (hw _ (List.mem_of_getElem? (i := 11) rfl))) (mvT hZ (hw _ (List.mem_of_getElem? (i := 12) rfl))) (by decide) (backOf (W := 0) (rmBlank l Z a0 hw [] a16 1 (oUp (fun _ => 0) 0 (nar .byte b1)) h18 n0 hz21 V18) hZ (hw _ (List.mem_of_getElem? (i := 12) rfl)) (hw _ (List.mem_of_getElem? (i := 11) rfl)) (by decide) (by decide)) (g := (mkF m 139 #[.val (.int i0), .val (.int i1), .val (.int i2), .val (.int i3), .val (.int i4), .val (.int (1 : Int32)), .val (.int b1), .val (.int b2), .val (.int b3), .val (.int b4), .val (.ref a16), .val (.int (0 : Int32))] [(.ref a16)])) rfl (by rw [hml]; rfl) (argsL := [(.ref a16)]) (rest := []) (lenOf pd_2 rfl) rfl (by show 2 * 0 + _ ≤ _; exact Nat.le_of_eq rfl) (hb hby at_139) (fun _ _ => ⟨rfl, eh20, (by decide : 1 + 0 ≤ _), (by decide : 1 + 0 ≤ _)⟩)
      dsimp only [Pt.U, Pt.locs, Pt.cells, Pt.slots] at X21 l21 y21 z21 st21 hQ21
      subst l21 y21 z21
      obtain ⟨r21, rfl, N21q, eh21, hr⟩ := hQ21
      have N21 := Fr.app N20 N21q
      refine oOn st21 ?_
      show oGl p e below (T21.setTop (mkF m 142 #[.val (.int i0), .val (.int i1), .val (.int i2), .val (.int i3), .val (.int i4), .val (.int (1 : Int32)), .val (.int b1), .val (.int b2), .val (.int b3), .val (.int b4), .val (.ref a16), .val (.int (0 : Int32))] [(.int r21)])) _
      refine siload X21 hx (hb hby at_142) rfl rfl (pc' := 144) ?_
      refine sicN X21 hx (hb hby at_144) rfl (teq ((own_cmp (n := 1) (k := (1 : Int32)) (b1 := b1) (b2 := b2) (b3 := b3) (b4 := b4) rfl (by decide) (fun _ => hp1) (fun q => absurd q (by decide)) (fun q => absurd q (by decide)) (fun q => absurd q (by decide)) hr).2 (fun q => q.1 hc94) : r21 = (0 : Int32))).2 (pc' := 147) ?_
      refine siconst X21 hx (hb hby at_147) rfl rfl (z := 1) (pc' := 148) ?_
      refine sgoto X21 hx (hb hby at_148) (by decide) (by decide)  (pc' := 152) ?_
      refine oRetN (t := .boolean) X21 hx Bd.notSynchronized Bd.returns (by simp) (hb hby at_152) (by decide) (by decide) ?_
      show Q_rmL Z i0 i1 i2 i3 i4 h0 n0 _ T21.heap _
      rw [eh21]
      exact ⟨rfl, N21⟩
    · skip
      refine sifN X20 hx (hb hby at_94) rfl (feq hc94).1 (pc' := 97) ?_
      refine siload X20 hx (hb hby at_97) rfl rfl (pc' := 99) ?_
      refine siconst X20 hx (hb hby at_99) rfl rfl (z := 1) (pc' := 100) ?_
      refine siload X20 hx (hb hby at_100) rfl rfl (pc' := 102) ?_
      have hz22 : n0 ≤ h18.size := by omega
      obtain ⟨_, _, ⟨T22, L22, k22, n22⟩, -, X22, ⟨Lc22, hQ22, l22, y22, z22⟩, st22⟩ := Jvm.LawKit.callS X20 hx (y := (⟨"com/example/yusen_ledger/yusenledger/LineReaderIsBlankPinLaw", "fits", "(BII)Z"⟩ : MethodName)) hown (mvT hZ (hw _ (List.mem_of_getElem? (i := 6) rfl))) (mvT hZ (hw _ (List.mem_of_getElem? (i := 7) rfl))) (mvT hZ (hw _ (List.mem_of_getElem? (i := 3) rfl))) (mvT hZ (hw _ (List.mem_of_getElem? (i := 8) rfl))) (by decide) (backOf (W := 0) (rmFits l Z a0 hw [] b2 (1 : Int32) (1 : Int32) h18 n0 hz22 ) hZ (hw _ (List.mem_of_getElem? (i := 8) rfl)) (hw _ (List.mem_of_getElem? (i := 3) rfl)) (by decide) (by decide)) (g := (mkF m 102 #[.val (.int i0), .val (.int i1), .val (.int i2), .val (.int i3), .val (.int i4), .val (.int (1 : Int32)), .val (.int b1), .val (.int b2), .val (.int b3), .val (.int b4), .val (.ref a16), .unset] [(.int (1 : Int32)), (.int (1 : Int32)), (.int b2)])) rfl (by rw [hml]; rfl) (argsL := [(.int b2), (.int (1 : Int32)), (.int (1 : Int32))]) (rest := []) (lenOf pd_1 rfl) rfl (by show 2 * 0 + _ ≤ _; exact Nat.le_of_eq rfl) (hb hby at_102) (fun _ _ => ⟨rfl, eh20, (by decide : 1 + 0 ≤ _), (by decide : 1 + 0 ≤ _)⟩)
      dsimp only [Pt.U, Pt.locs, Pt.cells, Pt.slots] at X22 l22 y22 z22 st22 hQ22
      subst l22 y22 z22
      obtain ⟨rfl, N22q, eh22⟩ := hQ22
      have N22 := Fr.app N20 N22q
      refine oOn st22 ?_
      show oGl p e below (T22.setTop (mkF m 105 #[.val (.int i0), .val (.int i1), .val (.int i2), .val (.int i3), .val (.int i4), .val (.int (1 : Int32)), .val (.int b1), .val (.int b2), .val (.int b3), .val (.int b4), .val (.ref a16), .unset] [(.int (oFits b2 (1 : Int32) (1 : Int32)))])) _
      by_cases hc105 : (oFits b2 (1 : Int32) (1 : Int32)) = (0 : Int32)
      · skip
        refine sifY X22 hx (hb hby at_105) (by decide) (by decide) (teq hc105).1 (pc' := 134) ?_
        refine siconst X22 hx (hb hby at_134) rfl rfl (z := 0) (pc' := 135) ?_
        refine sistore X22 hx (hb hby at_135) rfl rfl (l' := #[.val (.int i0), .val (.int i1), .val (.int i2), .val (.int i3), .val (.int i4), .val (.int (1 : Int32)), .val (.int b1), .val (.int b2), .val (.int b3), .val (.int b4), .val (.ref a16), .val (.int (0 : Int32))]) (pc' := 137) ?_
        refine saload X22 hx (hb hby at_137) rfl rfl rfl (pc' := 139) ?_
        have hz23 : n0 ≤ h18.size := by omega
        obtain ⟨_, _, ⟨T23, L23, k23, n23⟩, -, X23, ⟨Lc23, hQ23, l23, y23, z23⟩, st23⟩ := Jvm.LawKit.callS X22 hx (y := (⟨"com/example/yusen_ledger/yusenledger/LineReader", "isBlank", "([B)Z"⟩ : MethodName)) hown (mvT hZ (hw _ (List.mem_of_getElem? (i := 9) rfl))) (mvT hZ (hw _ (List.mem_of_getElem? (i := 10) rfl))) (mvT hZ (hw _ (List.mem_of_getElem? (i := 11) rfl))) (mvT hZ (hw _ (List.mem_of_getElem? (i := 12) rfl))) (by decide) (backOf (W := 0) (rmBlank l Z a0 hw [] a16 1 (oUp (fun _ => 0) 0 (nar .byte b1)) h18 n0 hz23 V18) hZ (hw _ (List.mem_of_getElem? (i := 12) rfl)) (hw _ (List.mem_of_getElem? (i := 11) rfl)) (by decide) (by decide)) (g := (mkF m 139 #[.val (.int i0), .val (.int i1), .val (.int i2), .val (.int i3), .val (.int i4), .val (.int (1 : Int32)), .val (.int b1), .val (.int b2), .val (.int b3), .val (.int b4), .val (.ref a16), .val (.int (0 : Int32))] [(.ref a16)])) rfl (by rw [hml]; rfl) (argsL := [(.ref a16)]) (rest := []) (lenOf pd_2 rfl) rfl (by show 2 * 0 + _ ≤ _; exact Nat.le_of_eq rfl) (hb hby at_139) (fun _ _ => ⟨rfl, eh22, (by decide : 1 + 0 ≤ _), (by decide : 1 + 0 ≤ _)⟩)
        dsimp only [Pt.U, Pt.locs, Pt.cells, Pt.slots] at X23 l23 y23 z23 st23 hQ23
        subst l23 y23 z23
        obtain ⟨r23, rfl, N23q, eh23, hr⟩ := hQ23
        have N23 := Fr.app N22 N23q
        refine oOn st23 ?_
        show oGl p e below (T23.setTop (mkF m 142 #[.val (.int i0), .val (.int i1), .val (.int i2), .val (.int i3), .val (.int i4), .val (.int (1 : Int32)), .val (.int b1), .val (.int b2), .val (.int b3), .val (.int b4), .val (.ref a16), .val (.int (0 : Int32))] [(.int r23)])) _
        refine siload X23 hx (hb hby at_142) rfl rfl (pc' := 144) ?_
        refine sicN X23 hx (hb hby at_144) rfl (teq ((own_cmp (n := 1) (k := (1 : Int32)) (b1 := b1) (b2 := b2) (b3 := b3) (b4 := b4) rfl (by decide) (fun _ => hp1) (fun q => absurd q (by decide)) (fun q => absurd q (by decide)) (fun q => absurd q (by decide)) hr).2 (fun q => q.2.1 hc105) : r23 = (0 : Int32))).2 (pc' := 147) ?_
        refine siconst X23 hx (hb hby at_147) rfl rfl (z := 1) (pc' := 148) ?_
        refine sgoto X23 hx (hb hby at_148) (by decide) (by decide)  (pc' := 152) ?_
        refine oRetN (t := .boolean) X23 hx Bd.notSynchronized Bd.returns (by simp) (hb hby at_152) (by decide) (by decide) ?_
        show Q_rmL Z i0 i1 i2 i3 i4 h0 n0 _ T23.heap _
        rw [eh23]
        exact ⟨rfl, N23⟩
      · skip
        refine sifN X22 hx (hb hby at_105) rfl (feq hc105).1 (pc' := 108) ?_
        refine siload X22 hx (hb hby at_108) rfl rfl (pc' := 110) ?_
        refine siconst X22 hx (hb hby at_110) rfl rfl (z := 2) (pc' := 111) ?_
        refine siload X22 hx (hb hby at_111) rfl rfl (pc' := 113) ?_
        have hz24 : n0 ≤ h18.size := by omega
        obtain ⟨_, _, ⟨T24, L24, k24, n24⟩, -, X24, ⟨Lc24, hQ24, l24, y24, z24⟩, st24⟩ := Jvm.LawKit.callS X22 hx (y := (⟨"com/example/yusen_ledger/yusenledger/LineReaderIsBlankPinLaw", "fits", "(BII)Z"⟩ : MethodName)) hown (mvT hZ (hw _ (List.mem_of_getElem? (i := 6) rfl))) (mvT hZ (hw _ (List.mem_of_getElem? (i := 7) rfl))) (mvT hZ (hw _ (List.mem_of_getElem? (i := 3) rfl))) (mvT hZ (hw _ (List.mem_of_getElem? (i := 8) rfl))) (by decide) (backOf (W := 0) (rmFits l Z a0 hw [] b3 (2 : Int32) (1 : Int32) h18 n0 hz24 ) hZ (hw _ (List.mem_of_getElem? (i := 8) rfl)) (hw _ (List.mem_of_getElem? (i := 3) rfl)) (by decide) (by decide)) (g := (mkF m 113 #[.val (.int i0), .val (.int i1), .val (.int i2), .val (.int i3), .val (.int i4), .val (.int (1 : Int32)), .val (.int b1), .val (.int b2), .val (.int b3), .val (.int b4), .val (.ref a16), .unset] [(.int (1 : Int32)), (.int (2 : Int32)), (.int b3)])) rfl (by rw [hml]; rfl) (argsL := [(.int b3), (.int (2 : Int32)), (.int (1 : Int32))]) (rest := []) (lenOf pd_1 rfl) rfl (by show 2 * 0 + _ ≤ _; exact Nat.le_of_eq rfl) (hb hby at_113) (fun _ _ => ⟨rfl, eh22, (by decide : 1 + 0 ≤ _), (by decide : 1 + 0 ≤ _)⟩)
        dsimp only [Pt.U, Pt.locs, Pt.cells, Pt.slots] at X24 l24 y24 z24 st24 hQ24
        subst l24 y24 z24
        obtain ⟨rfl, N24q, eh24⟩ := hQ24
        have N24 := Fr.app N22 N24q
        refine oOn st24 ?_
        show oGl p e below (T24.setTop (mkF m 116 #[.val (.int i0), .val (.int i1), .val (.int i2), .val (.int i3), .val (.int i4), .val (.int (1 : Int32)), .val (.int b1), .val (.int b2), .val (.int b3), .val (.int b4), .val (.ref a16), .unset] [(.int (oFits b3 (2 : Int32) (1 : Int32)))])) _
        by_cases hc116 : (oFits b3 (2 : Int32) (1 : Int32)) = (0 : Int32)
        · skip
          refine sifY X24 hx (hb hby at_116) (by decide) (by decide) (teq hc116).1 (pc' := 134) ?_
          refine siconst X24 hx (hb hby at_134) rfl rfl (z := 0) (pc' := 135) ?_
          refine sistore X24 hx (hb hby at_135) rfl rfl (l' := #[.val (.int i0), .val (.int i1), .val (.int i2), .val (.int i3), .val (.int i4), .val (.int (1 : Int32)), .val (.int b1), .val (.int b2), .val (.int b3), .val (.int b4), .val (.ref a16), .val (.int (0 : Int32))]) (pc' := 137) ?_
          refine saload X24 hx (hb hby at_137) rfl rfl rfl (pc' := 139) ?_
          have hz25 : n0 ≤ h18.size := by omega
          obtain ⟨_, _, ⟨T25, L25, k25, n25⟩, -, X25, ⟨Lc25, hQ25, l25, y25, z25⟩, st25⟩ := Jvm.LawKit.callS X24 hx (y := (⟨"com/example/yusen_ledger/yusenledger/LineReader", "isBlank", "([B)Z"⟩ : MethodName)) hown (mvT hZ (hw _ (List.mem_of_getElem? (i := 9) rfl))) (mvT hZ (hw _ (List.mem_of_getElem? (i := 10) rfl))) (mvT hZ (hw _ (List.mem_of_getElem? (i := 11) rfl))) (mvT hZ (hw _ (List.mem_of_getElem? (i := 12) rfl))) (by decide) (backOf (W := 0) (rmBlank l Z a0 hw [] a16 1 (oUp (fun _ => 0) 0 (nar .byte b1)) h18 n0 hz25 V18) hZ (hw _ (List.mem_of_getElem? (i := 12) rfl)) (hw _ (List.mem_of_getElem? (i := 11) rfl)) (by decide) (by decide)) (g := (mkF m 139 #[.val (.int i0), .val (.int i1), .val (.int i2), .val (.int i3), .val (.int i4), .val (.int (1 : Int32)), .val (.int b1), .val (.int b2), .val (.int b3), .val (.int b4), .val (.ref a16), .val (.int (0 : Int32))] [(.ref a16)])) rfl (by rw [hml]; rfl) (argsL := [(.ref a16)]) (rest := []) (lenOf pd_2 rfl) rfl (by show 2 * 0 + _ ≤ _; exact Nat.le_of_eq rfl) (hb hby at_139) (fun _ _ => ⟨rfl, eh24, (by decide : 1 + 0 ≤ _), (by decide : 1 + 0 ≤ _)⟩)
          dsimp only [Pt.U, Pt.locs, Pt.cells, Pt.slots] at X25 l25 y25 z25 st25 hQ25
          subst l25 y25 z25
          obtain ⟨r25, rfl, N25q, eh25, hr⟩ := hQ25
          have N25 := Fr.app N24 N25q
          refine oOn st25 ?_
          show oGl p e below (T25.setTop (mkF m 142 #[.val (.int i0), .val (.int i1), .val (.int i2), .val (.int i3), .val (.int i4), .val (.int (1 : Int32)), .val (.int b1), .val (.int b2), .val (.int b3), .val (.int b4), .val (.ref a16), .val (.int (0 : Int32))] [(.int r25)])) _
          refine siload X25 hx (hb hby at_142) rfl rfl (pc' := 144) ?_
          refine sicN X25 hx (hb hby at_144) rfl (teq ((own_cmp (n := 1) (k := (1 : Int32)) (b1 := b1) (b2 := b2) (b3 := b3) (b4 := b4) rfl (by decide) (fun _ => hp1) (fun q => absurd q (by decide)) (fun q => absurd q (by decide)) (fun q => absurd q (by decide)) hr).2 (fun q => q.2.2.1 hc116) : r25 = (0 : Int32))).2 (pc' := 147) ?_
          refine siconst X25 hx (hb hby at_147) rfl rfl (z := 1) (pc' := 148) ?_
          refine sgoto X25 hx (hb hby at_148) (by decide) (by decide)  (pc' := 152) ?_
          refine oRetN (t := .boolean) X25 hx Bd.notSynchronized Bd.returns (by simp) (hb hby at_152) (by decide) (by decide) ?_
          show Q_rmL Z i0 i1 i2 i3 i4 h0 n0 _ T25.heap _
          rw [eh25]
          exact ⟨rfl, N25⟩
        · skip
          refine sifN X24 hx (hb hby at_116) rfl (feq hc116).1 (pc' := 119) ?_
          refine siload X24 hx (hb hby at_119) rfl rfl (pc' := 121) ?_
          refine siconst X24 hx (hb hby at_121) rfl rfl (z := 3) (pc' := 122) ?_
          refine siload X24 hx (hb hby at_122) rfl rfl (pc' := 124) ?_
          have hz26 : n0 ≤ h18.size := by omega
          obtain ⟨_, _, ⟨T26, L26, k26, n26⟩, -, X26, ⟨Lc26, hQ26, l26, y26, z26⟩, st26⟩ := Jvm.LawKit.callS X24 hx (y := (⟨"com/example/yusen_ledger/yusenledger/LineReaderIsBlankPinLaw", "fits", "(BII)Z"⟩ : MethodName)) hown (mvT hZ (hw _ (List.mem_of_getElem? (i := 6) rfl))) (mvT hZ (hw _ (List.mem_of_getElem? (i := 7) rfl))) (mvT hZ (hw _ (List.mem_of_getElem? (i := 3) rfl))) (mvT hZ (hw _ (List.mem_of_getElem? (i := 8) rfl))) (by decide) (backOf (W := 0) (rmFits l Z a0 hw [] b4 (3 : Int32) (1 : Int32) h18 n0 hz26 ) hZ (hw _ (List.mem_of_getElem? (i := 8) rfl)) (hw _ (List.mem_of_getElem? (i := 3) rfl)) (by decide) (by decide)) (g := (mkF m 124 #[.val (.int i0), .val (.int i1), .val (.int i2), .val (.int i3), .val (.int i4), .val (.int (1 : Int32)), .val (.int b1), .val (.int b2), .val (.int b3), .val (.int b4), .val (.ref a16), .unset] [(.int (1 : Int32)), (.int (3 : Int32)), (.int b4)])) rfl (by rw [hml]; rfl) (argsL := [(.int b4), (.int (3 : Int32)), (.int (1 : Int32))]) (rest := []) (lenOf pd_1 rfl) rfl (by show 2 * 0 + _ ≤ _; exact Nat.le_of_eq rfl) (hb hby at_124) (fun _ _ => ⟨rfl, eh24, (by decide : 1 + 0 ≤ _), (by decide : 1 + 0 ≤ _)⟩)
          dsimp only [Pt.U, Pt.locs, Pt.cells, Pt.slots] at X26 l26 y26 z26 st26 hQ26
          subst l26 y26 z26
          obtain ⟨rfl, N26q, eh26⟩ := hQ26
          have N26 := Fr.app N24 N26q
          refine oOn st26 ?_
          show oGl p e below (T26.setTop (mkF m 127 #[.val (.int i0), .val (.int i1), .val (.int i2), .val (.int i3), .val (.int i4), .val (.int (1 : Int32)), .val (.int b1), .val (.int b2), .val (.int b3), .val (.int b4), .val (.ref a16), .unset] [(.int (oFits b4 (3 : Int32) (1 : Int32)))])) _
          by_cases hc127 : (oFits b4 (3 : Int32) (1 : Int32)) = (0 : Int32)
          · skip
            refine sifY X26 hx (hb hby at_127) (by decide) (by decide) (teq hc127).1 (pc' := 134) ?_
            refine siconst X26 hx (hb hby at_134) rfl rfl (z := 0) (pc' := 135) ?_
            refine sistore X26 hx (hb hby at_135) rfl rfl (l' := #[.val (.int i0), .val (.int i1), .val (.int i2), .val (.int i3), .val (.int i4), .val (.int (1 : Int32)), .val (.int b1), .val (.int b2), .val (.int b3), .val (.int b4), .val (.ref a16), .val (.int (0 : Int32))]) (pc' := 137) ?_
            refine saload X26 hx (hb hby at_137) rfl rfl rfl (pc' := 139) ?_
            have hz27 : n0 ≤ h18.size := by omega
            obtain ⟨_, _, ⟨T27, L27, k27, n27⟩, -, X27, ⟨Lc27, hQ27, l27, y27, z27⟩, st27⟩ := Jvm.LawKit.callS X26 hx (y := (⟨"com/example/yusen_ledger/yusenledger/LineReader", "isBlank", "([B)Z"⟩ : MethodName)) hown (mvT hZ (hw _ (List.mem_of_getElem? (i := 9) rfl))) (mvT hZ (hw _ (List.mem_of_getElem? (i := 10) rfl))) (mvT hZ (hw _ (List.mem_of_getElem? (i := 11) rfl))) (mvT hZ (hw _ (List.mem_of_getElem? (i := 12) rfl))) (by decide) (backOf (W := 0) (rmBlank l Z a0 hw [] a16 1 (oUp (fun _ => 0) 0 (nar .byte b1)) h18 n0 hz27 V18) hZ (hw _ (List.mem_of_getElem? (i := 12) rfl)) (hw _ (List.mem_of_getElem? (i := 11) rfl)) (by decide) (by decide)) (g := (mkF m 139 #[.val (.int i0), .val (.int i1), .val (.int i2), .val (.int i3), .val (.int i4), .val (.int (1 : Int32)), .val (.int b1), .val (.int b2), .val (.int b3), .val (.int b4), .val (.ref a16), .val (.int (0 : Int32))] [(.ref a16)])) rfl (by rw [hml]; rfl) (argsL := [(.ref a16)]) (rest := []) (lenOf pd_2 rfl) rfl (by show 2 * 0 + _ ≤ _; exact Nat.le_of_eq rfl) (hb hby at_139) (fun _ _ => ⟨rfl, eh26, (by decide : 1 + 0 ≤ _), (by decide : 1 + 0 ≤ _)⟩)
            dsimp only [Pt.U, Pt.locs, Pt.cells, Pt.slots] at X27 l27 y27 z27 st27 hQ27
            subst l27 y27 z27
            obtain ⟨r27, rfl, N27q, eh27, hr⟩ := hQ27
            have N27 := Fr.app N26 N27q
            refine oOn st27 ?_
            show oGl p e below (T27.setTop (mkF m 142 #[.val (.int i0), .val (.int i1), .val (.int i2), .val (.int i3), .val (.int i4), .val (.int (1 : Int32)), .val (.int b1), .val (.int b2), .val (.int b3), .val (.int b4), .val (.ref a16), .val (.int (0 : Int32))] [(.int r27)])) _
            refine siload X27 hx (hb hby at_142) rfl rfl (pc' := 144) ?_
            refine sicN X27 hx (hb hby at_144) rfl (teq ((own_cmp (n := 1) (k := (1 : Int32)) (b1 := b1) (b2 := b2) (b3 := b3) (b4 := b4) rfl (by decide) (fun _ => hp1) (fun q => absurd q (by decide)) (fun q => absurd q (by decide)) (fun q => absurd q (by decide)) hr).2 (fun q => q.2.2.2 hc127) : r27 = (0 : Int32))).2 (pc' := 147) ?_
            refine siconst X27 hx (hb hby at_147) rfl rfl (z := 1) (pc' := 148) ?_
            refine sgoto X27 hx (hb hby at_148) (by decide) (by decide)  (pc' := 152) ?_
            refine oRetN (t := .boolean) X27 hx Bd.notSynchronized Bd.returns (by simp) (hb hby at_152) (by decide) (by decide) ?_
            show Q_rmL Z i0 i1 i2 i3 i4 h0 n0 _ T27.heap _
            rw [eh27]
            exact ⟨rfl, N27⟩
          · skip
            refine sifN X26 hx (hb hby at_127) rfl (feq hc127).1 (pc' := 130) ?_
            refine siconst X26 hx (hb hby at_130) rfl rfl (z := 1) (pc' := 131) ?_
            refine sgoto X26 hx (hb hby at_131) (by decide) (by decide)  (pc' := 135) ?_
            refine sistore X26 hx (hb hby at_135) rfl rfl (l' := #[.val (.int i0), .val (.int i1), .val (.int i2), .val (.int i3), .val (.int i4), .val (.int (1 : Int32)), .val (.int b1), .val (.int b2), .val (.int b3), .val (.int b4), .val (.ref a16), .val (.int (1 : Int32))]) (pc' := 137) ?_
            refine saload X26 hx (hb hby at_137) rfl rfl rfl (pc' := 139) ?_
            have hz28 : n0 ≤ h18.size := by omega
            obtain ⟨_, _, ⟨T28, L28, k28, n28⟩, -, X28, ⟨Lc28, hQ28, l28, y28, z28⟩, st28⟩ := Jvm.LawKit.callS X26 hx (y := (⟨"com/example/yusen_ledger/yusenledger/LineReader", "isBlank", "([B)Z"⟩ : MethodName)) hown (mvT hZ (hw _ (List.mem_of_getElem? (i := 9) rfl))) (mvT hZ (hw _ (List.mem_of_getElem? (i := 10) rfl))) (mvT hZ (hw _ (List.mem_of_getElem? (i := 11) rfl))) (mvT hZ (hw _ (List.mem_of_getElem? (i := 12) rfl))) (by decide) (backOf (W := 0) (rmBlank l Z a0 hw [] a16 1 (oUp (fun _ => 0) 0 (nar .byte b1)) h18 n0 hz28 V18) hZ (hw _ (List.mem_of_getElem? (i := 12) rfl)) (hw _ (List.mem_of_getElem? (i := 11) rfl)) (by decide) (by decide)) (g := (mkF m 139 #[.val (.int i0), .val (.int i1), .val (.int i2), .val (.int i3), .val (.int i4), .val (.int (1 : Int32)), .val (.int b1), .val (.int b2), .val (.int b3), .val (.int b4), .val (.ref a16), .val (.int (1 : Int32))] [(.ref a16)])) rfl (by rw [hml]; rfl) (argsL := [(.ref a16)]) (rest := []) (lenOf pd_2 rfl) rfl (by show 2 * 0 + _ ≤ _; exact Nat.le_of_eq rfl) (hb hby at_139) (fun _ _ => ⟨rfl, eh26, (by decide : 1 + 0 ≤ _), (by decide : 1 + 0 ≤ _)⟩)
            dsimp only [Pt.U, Pt.locs, Pt.cells, Pt.slots] at X28 l28 y28 z28 st28 hQ28
            subst l28 y28 z28
            obtain ⟨r28, rfl, N28q, eh28, hr⟩ := hQ28
            have N28 := Fr.app N26 N28q
            refine oOn st28 ?_
            show oGl p e below (T28.setTop (mkF m 142 #[.val (.int i0), .val (.int i1), .val (.int i2), .val (.int i3), .val (.int i4), .val (.int (1 : Int32)), .val (.int b1), .val (.int b2), .val (.int b3), .val (.int b4), .val (.ref a16), .val (.int (1 : Int32))] [(.int r28)])) _
            refine siload X28 hx (hb hby at_142) rfl rfl (pc' := 144) ?_
            refine sicN X28 hx (hb hby at_144) rfl (teq ((own_cmp (n := 1) (k := (1 : Int32)) (b1 := b1) (b2 := b2) (b3 := b3) (b4 := b4) rfl (by decide) (fun _ => hp1) (fun q => absurd q (by decide)) (fun q => absurd q (by decide)) (fun q => absurd q (by decide)) hr).1 ⟨hc94, hc105, hc116, hc127⟩ : r28 = (1 : Int32))).2 (pc' := 147) ?_
            refine siconst X28 hx (hb hby at_147) rfl rfl (z := 1) (pc' := 148) ?_
            refine sgoto X28 hx (hb hby at_148) (by decide) (by decide)  (pc' := 152) ?_
            refine oRetN (t := .boolean) X28 hx Bd.notSynchronized Bd.returns (by simp) (hb hby at_152) (by decide) (by decide) ?_
            show Q_rmL Z i0 i1 i2 i3 i4 h0 n0 _ T28.heap _
            rw [eh28]
            exact ⟨rfl, N28⟩
  · skip
    show oGl p e below (T4.setTop (mkF m 33 #[.val (.int i0), .val (.int i1), .val (.int i2), .val (.int i3), .val (.int i4), .val (.int (2 : Int32)), .val (.int b1), .val (.int b2), .val (.int b3), .val (.int b4), .unset, .unset] [])) _
    refine siload X4 hx (hb hby at_33) rfl rfl (pc' := 35) ?_
    obtain ⟨T29, h29, k29, X29, e29, E29, A29, st29⟩ := newP X4 hx hZ (hw _ (List.mem_of_getElem? (i := 5) rfl)) eh4 (g := (mkF m 35 #[.val (.int i0), .val (.int i1), .val (.int i2), .val (.int i3), .val (.int i4), .val (.int (2 : Int32)), .val (.int b1), .val (.int b2), .val (.int b3), .val (.int b4), .unset, .unset] [(.int (2 : Int32))])) rfl (hb hby at_35) rfl (by decide) (cap := 2) (by decide) (by decide) (by decide) (by decide)
    obtain ⟨a29, g29⟩ : ∃ z, z = h0.size := ⟨_, rfl⟩
    rw [← g29] at A29 st29
    refine oOn st29 ?_
    have z30 : h0.size ≤ h29.size := E29.1
    have lt29 : a29 < h29.size := A29.lt
    have V29 : oAI Z h29 a29 .byte 2 (fun _ => 0) := oAI.new A29 rfl
    show oGl p e below (T29.setTop (mkF m 37 #[.val (.int i0), .val (.int i1), .val (.int i2), .val (.int i3), .val (.int i4), .val (.int (2 : Int32)), .val (.int b1), .val (.int b2), .val (.int b3), .val (.int b4), .unset, .unset] [(.ref a29)])) _
    refine sastore X29 hx (hb hby at_37) rfl rfl rfl (l' := #[.val (.int i0), .val (.int i1), .val (.int i2), .val (.int i3), .val (.int i4), .val (.int (2 : Int32)), .val (.int b1), .val (.int b2), .val (.int b3), .val (.int b4), .val (.ref a29), .unset]) (pc' := 39) ?_
    refine siload X29 hx (hb hby at_39) rfl rfl (pc' := 41) ?_
    refine sifN X29 hx (hb hby at_41) rfl (tlt (by decide : (0 : Int32) < (2 : Int32))).2.2.2 (pc' := 44) ?_
    refine saload X29 hx (hb hby at_44) rfl rfl rfl (pc' := 46) ?_
    refine siconst X29 hx (hb hby at_46) rfl rfl (z := 0) (pc' := 47) ?_
    refine siload X29 hx (hb hby at_47) rfl rfl (pc' := 49) ?_
    obtain ⟨T31, h31, X31, e31, W31, V31, st31⟩ := V29.stB X29 hx hZ e29 (j := (0 : Int32)) (by decide) (g := (mkF m 49 #[.val (.int i0), .val (.int i1), .val (.int i2), .val (.int i3), .val (.int i4), .val (.int (2 : Int32)), .val (.int b1), .val (.int b2), .val (.int b3), .val (.int b4), .val (.ref a29), .unset] [(.int b1), (.int (0 : Int32)), (.ref a29)])) rfl rfl (hb hby at_49)
    refine oOn st31 ?_
    have z32 : h29.size ≤ h31.size := Nat.le_of_eq W31.size.symm
    have N31 := Fr.snoc X31 N4 (by omega)
    show oGl p e below (T31.setTop (mkF m 50 #[.val (.int i0), .val (.int i1), .val (.int i2), .val (.int i3), .val (.int i4), .val (.int (2 : Int32)), .val (.int b1), .val (.int b2), .val (.int b3), .val (.int b4), .val (.ref a29), .unset] [])) _
    refine siload X31 hx (hb hby at_50) rfl rfl (pc' := 52) ?_
    refine siconst X31 hx (hb hby at_52) rfl rfl (z := 1) (pc' := 53) ?_
    refine sicN X31 hx (hb hby at_53) rfl (tlt (by decide : (1 : Int32) < (2 : Int32))).2.2.2 (pc' := 56) ?_
    refine saload X31 hx (hb hby at_56) rfl rfl rfl (pc' := 58) ?_
    refine siconst X31 hx (hb hby at_58) rfl rfl (z := 1) (pc' := 59) ?_
    refine siload X31 hx (hb hby at_59) rfl rfl (pc' := 61) ?_
    obtain ⟨T33, h33, X33, e33, W33, V33, st33⟩ := V31.stB X31 hx hZ e31 (j := (1 : Int32)) (by decide) (g := (mkF m 61 #[.val (.int i0), .val (.int i1), .val (.int i2), .val (.int i3), .val (.int i4), .val (.int (2 : Int32)), .val (.int b1), .val (.int b2), .val (.int b3), .val (.int b4), .val (.ref a29), .unset] [(.int b2), (.int (1 : Int32)), (.ref a29)])) rfl rfl (hb hby at_61)
    refine oOn st33 ?_
    have z34 : h31.size ≤ h33.size := Nat.le_of_eq W33.size.symm
    have N33 := Fr.snoc X33 N31 (by omega)
    show oGl p e below (T33.setTop (mkF m 62 #[.val (.int i0), .val (.int i1), .val (.int i2), .val (.int i3), .val (.int i4), .val (.int (2 : Int32)), .val (.int b1), .val (.int b2), .val (.int b3), .val (.int b4), .val (.ref a29), .unset] [])) _
    refine siload X33 hx (hb hby at_62) rfl rfl (pc' := 64) ?_
    refine siconst X33 hx (hb hby at_64) rfl rfl (z := 2) (pc' := 65) ?_
    refine sicY X33 hx (hb hby at_65) (by decide) (by decide) (flt (by decide : ¬ ((2 : Int32) < (2 : Int32)))).2.2.2 (pc' := 74) ?_
    refine siload X33 hx (hb hby at_74) rfl rfl (pc' := 76) ?_
    refine siconst X33 hx (hb hby at_76) rfl rfl (z := 3) (pc' := 77) ?_
    refine sicY X33 hx (hb hby at_77) (by decide) (by decide) (flt (by decide : ¬ ((3 : Int32) < (2 : Int32)))).2.2.2 (pc' := 86) ?_
    refine siload X33 hx (hb hby at_86) rfl rfl (pc' := 88) ?_
    refine siconst X33 hx (hb hby at_88) rfl rfl (z := 0) (pc' := 89) ?_
    refine siload X33 hx (hb hby at_89) rfl rfl (pc' := 91) ?_
    have hz35 : n0 ≤ h33.size := by omega
    obtain ⟨_, _, ⟨T35, L35, k35, n35⟩, -, X35, ⟨Lc35, hQ35, l35, y35, z35⟩, st35⟩ := Jvm.LawKit.callS X33 hx (y := (⟨"com/example/yusen_ledger/yusenledger/LineReaderIsBlankPinLaw", "fits", "(BII)Z"⟩ : MethodName)) hown (mvT hZ (hw _ (List.mem_of_getElem? (i := 6) rfl))) (mvT hZ (hw _ (List.mem_of_getElem? (i := 7) rfl))) (mvT hZ (hw _ (List.mem_of_getElem? (i := 3) rfl))) (mvT hZ (hw _ (List.mem_of_getElem? (i := 8) rfl))) (by decide) (backOf (W := 0) (rmFits l Z a0 hw [] b1 (0 : Int32) (2 : Int32) h33 n0 hz35 ) hZ (hw _ (List.mem_of_getElem? (i := 8) rfl)) (hw _ (List.mem_of_getElem? (i := 3) rfl)) (by decide) (by decide)) (g := (mkF m 91 #[.val (.int i0), .val (.int i1), .val (.int i2), .val (.int i3), .val (.int i4), .val (.int (2 : Int32)), .val (.int b1), .val (.int b2), .val (.int b3), .val (.int b4), .val (.ref a29), .unset] [(.int (2 : Int32)), (.int (0 : Int32)), (.int b1)])) rfl (by rw [hml]; rfl) (argsL := [(.int b1), (.int (0 : Int32)), (.int (2 : Int32))]) (rest := []) (lenOf pd_1 rfl) rfl (by show 2 * 0 + _ ≤ _; exact Nat.le_of_eq rfl) (hb hby at_91) (fun _ _ => ⟨rfl, e33, (by decide : 1 + 0 ≤ _), (by decide : 2 + 0 ≤ _)⟩)
    dsimp only [Pt.U, Pt.locs, Pt.cells, Pt.slots] at X35 l35 y35 z35 st35 hQ35
    subst l35 y35 z35
    obtain ⟨rfl, N35q, eh35⟩ := hQ35
    have N35 := Fr.app N33 N35q
    refine oOn st35 ?_
    show oGl p e below (T35.setTop (mkF m 94 #[.val (.int i0), .val (.int i1), .val (.int i2), .val (.int i3), .val (.int i4), .val (.int (2 : Int32)), .val (.int b1), .val (.int b2), .val (.int b3), .val (.int b4), .val (.ref a29), .unset] [(.int (oFits b1 (0 : Int32) (2 : Int32)))])) _
    by_cases hc94 : (oFits b1 (0 : Int32) (2 : Int32)) = (0 : Int32)
    · skip
      refine sifY X35 hx (hb hby at_94) (by decide) (by decide) (teq hc94).1 (pc' := 134) ?_
      refine siconst X35 hx (hb hby at_134) rfl rfl (z := 0) (pc' := 135) ?_
      refine sistore X35 hx (hb hby at_135) rfl rfl (l' := #[.val (.int i0), .val (.int i1), .val (.int i2), .val (.int i3), .val (.int i4), .val (.int (2 : Int32)), .val (.int b1), .val (.int b2), .val (.int b3), .val (.int b4), .val (.ref a29), .val (.int (0 : Int32))]) (pc' := 137) ?_
      refine saload X35 hx (hb hby at_137) rfl rfl rfl (pc' := 139) ?_
      have hz36 : n0 ≤ h33.size := by omega
      obtain ⟨_, _, ⟨T36, L36, k36, n36⟩, -, X36, ⟨Lc36, hQ36, l36, y36, z36⟩, st36⟩ := Jvm.LawKit.callS X35 hx (y := (⟨"com/example/yusen_ledger/yusenledger/LineReader", "isBlank", "([B)Z"⟩ : MethodName)) hown (mvT hZ (hw _ (List.mem_of_getElem? (i := 9) rfl))) (mvT hZ (hw _ (List.mem_of_getElem? (i := 10) rfl))) (mvT hZ (hw _ (List.mem_of_getElem? (i := 11) rfl))) (mvT hZ (hw _ (List.mem_of_getElem? (i := 12) rfl))) (by decide) (backOf (W := 0) (rmBlank l Z a0 hw [] a29 2 (oUp (oUp (fun _ => 0) 0 (nar .byte b1)) 1 (nar .byte b2)) h33 n0 hz36 V33) hZ (hw _ (List.mem_of_getElem? (i := 12) rfl)) (hw _ (List.mem_of_getElem? (i := 11) rfl)) (by decide) (by decide)) (g := (mkF m 139 #[.val (.int i0), .val (.int i1), .val (.int i2), .val (.int i3), .val (.int i4), .val (.int (2 : Int32)), .val (.int b1), .val (.int b2), .val (.int b3), .val (.int b4), .val (.ref a29), .val (.int (0 : Int32))] [(.ref a29)])) rfl (by rw [hml]; rfl) (argsL := [(.ref a29)]) (rest := []) (lenOf pd_2 rfl) rfl (by show 2 * 0 + _ ≤ _; exact Nat.le_of_eq rfl) (hb hby at_139) (fun _ _ => ⟨rfl, eh35, (by decide : 1 + 0 ≤ _), (by decide : 2 + 0 ≤ _)⟩)
      dsimp only [Pt.U, Pt.locs, Pt.cells, Pt.slots] at X36 l36 y36 z36 st36 hQ36
      subst l36 y36 z36
      obtain ⟨r36, rfl, N36q, eh36, hr⟩ := hQ36
      have N36 := Fr.app N35 N36q
      refine oOn st36 ?_
      show oGl p e below (T36.setTop (mkF m 142 #[.val (.int i0), .val (.int i1), .val (.int i2), .val (.int i3), .val (.int i4), .val (.int (2 : Int32)), .val (.int b1), .val (.int b2), .val (.int b3), .val (.int b4), .val (.ref a29), .val (.int (0 : Int32))] [(.int r36)])) _
      refine siload X36 hx (hb hby at_142) rfl rfl (pc' := 144) ?_
      refine sicN X36 hx (hb hby at_144) rfl (teq ((own_cmp (n := 2) (k := (2 : Int32)) (b1 := b1) (b2 := b2) (b3 := b3) (b4 := b4) rfl (by decide) (fun _ => hp1) (fun _ => hp2) (fun q => absurd q (by decide)) (fun q => absurd q (by decide)) hr).2 (fun q => q.1 hc94) : r36 = (0 : Int32))).2 (pc' := 147) ?_
      refine siconst X36 hx (hb hby at_147) rfl rfl (z := 1) (pc' := 148) ?_
      refine sgoto X36 hx (hb hby at_148) (by decide) (by decide)  (pc' := 152) ?_
      refine oRetN (t := .boolean) X36 hx Bd.notSynchronized Bd.returns (by simp) (hb hby at_152) (by decide) (by decide) ?_
      show Q_rmL Z i0 i1 i2 i3 i4 h0 n0 _ T36.heap _
      rw [eh36]
      exact ⟨rfl, N36⟩
    · skip
      refine sifN X35 hx (hb hby at_94) rfl (feq hc94).1 (pc' := 97) ?_
      refine siload X35 hx (hb hby at_97) rfl rfl (pc' := 99) ?_
      refine siconst X35 hx (hb hby at_99) rfl rfl (z := 1) (pc' := 100) ?_
      refine siload X35 hx (hb hby at_100) rfl rfl (pc' := 102) ?_
      have hz37 : n0 ≤ h33.size := by omega
      obtain ⟨_, _, ⟨T37, L37, k37, n37⟩, -, X37, ⟨Lc37, hQ37, l37, y37, z37⟩, st37⟩ := Jvm.LawKit.callS X35 hx (y := (⟨"com/example/yusen_ledger/yusenledger/LineReaderIsBlankPinLaw", "fits", "(BII)Z"⟩ : MethodName)) hown (mvT hZ (hw _ (List.mem_of_getElem? (i := 6) rfl))) (mvT hZ (hw _ (List.mem_of_getElem? (i := 7) rfl))) (mvT hZ (hw _ (List.mem_of_getElem? (i := 3) rfl))) (mvT hZ (hw _ (List.mem_of_getElem? (i := 8) rfl))) (by decide) (backOf (W := 0) (rmFits l Z a0 hw [] b2 (1 : Int32) (2 : Int32) h33 n0 hz37 ) hZ (hw _ (List.mem_of_getElem? (i := 8) rfl)) (hw _ (List.mem_of_getElem? (i := 3) rfl)) (by decide) (by decide)) (g := (mkF m 102 #[.val (.int i0), .val (.int i1), .val (.int i2), .val (.int i3), .val (.int i4), .val (.int (2 : Int32)), .val (.int b1), .val (.int b2), .val (.int b3), .val (.int b4), .val (.ref a29), .unset] [(.int (2 : Int32)), (.int (1 : Int32)), (.int b2)])) rfl (by rw [hml]; rfl) (argsL := [(.int b2), (.int (1 : Int32)), (.int (2 : Int32))]) (rest := []) (lenOf pd_1 rfl) rfl (by show 2 * 0 + _ ≤ _; exact Nat.le_of_eq rfl) (hb hby at_102) (fun _ _ => ⟨rfl, eh35, (by decide : 1 + 0 ≤ _), (by decide : 2 + 0 ≤ _)⟩)
      dsimp only [Pt.U, Pt.locs, Pt.cells, Pt.slots] at X37 l37 y37 z37 st37 hQ37
      subst l37 y37 z37
      obtain ⟨rfl, N37q, eh37⟩ := hQ37
      have N37 := Fr.app N35 N37q
      refine oOn st37 ?_
      show oGl p e below (T37.setTop (mkF m 105 #[.val (.int i0), .val (.int i1), .val (.int i2), .val (.int i3), .val (.int i4), .val (.int (2 : Int32)), .val (.int b1), .val (.int b2), .val (.int b3), .val (.int b4), .val (.ref a29), .unset] [(.int (oFits b2 (1 : Int32) (2 : Int32)))])) _
      by_cases hc105 : (oFits b2 (1 : Int32) (2 : Int32)) = (0 : Int32)
      · skip
        refine sifY X37 hx (hb hby at_105) (by decide) (by decide) (teq hc105).1 (pc' := 134) ?_
        refine siconst X37 hx (hb hby at_134) rfl rfl (z := 0) (pc' := 135) ?_
        refine sistore X37 hx (hb hby at_135) rfl rfl (l' := #[.val (.int i0), .val (.int i1), .val (.int i2), .val (.int i3), .val (.int i4), .val (.int (2 : Int32)), .val (.int b1), .val (.int b2), .val (.int b3), .val (.int b4), .val (.ref a29), .val (.int (0 : Int32))]) (pc' := 137) ?_
        refine saload X37 hx (hb hby at_137) rfl rfl rfl (pc' := 139) ?_
        have hz38 : n0 ≤ h33.size := by omega
        obtain ⟨_, _, ⟨T38, L38, k38, n38⟩, -, X38, ⟨Lc38, hQ38, l38, y38, z38⟩, st38⟩ := Jvm.LawKit.callS X37 hx (y := (⟨"com/example/yusen_ledger/yusenledger/LineReader", "isBlank", "([B)Z"⟩ : MethodName)) hown (mvT hZ (hw _ (List.mem_of_getElem? (i := 9) rfl))) (mvT hZ (hw _ (List.mem_of_getElem? (i := 10) rfl))) (mvT hZ (hw _ (List.mem_of_getElem? (i := 11) rfl))) (mvT hZ (hw _ (List.mem_of_getElem? (i := 12) rfl))) (by decide) (backOf (W := 0) (rmBlank l Z a0 hw [] a29 2 (oUp (oUp (fun _ => 0) 0 (nar .byte b1)) 1 (nar .byte b2)) h33 n0 hz38 V33) hZ (hw _ (List.mem_of_getElem? (i := 12) rfl)) (hw _ (List.mem_of_getElem? (i := 11) rfl)) (by decide) (by decide)) (g := (mkF m 139 #[.val (.int i0), .val (.int i1), .val (.int i2), .val (.int i3), .val (.int i4), .val (.int (2 : Int32)), .val (.int b1), .val (.int b2), .val (.int b3), .val (.int b4), .val (.ref a29), .val (.int (0 : Int32))] [(.ref a29)])) rfl (by rw [hml]; rfl) (argsL := [(.ref a29)]) (rest := []) (lenOf pd_2 rfl) rfl (by show 2 * 0 + _ ≤ _; exact Nat.le_of_eq rfl) (hb hby at_139) (fun _ _ => ⟨rfl, eh37, (by decide : 1 + 0 ≤ _), (by decide : 2 + 0 ≤ _)⟩)
        dsimp only [Pt.U, Pt.locs, Pt.cells, Pt.slots] at X38 l38 y38 z38 st38 hQ38
        subst l38 y38 z38
        obtain ⟨r38, rfl, N38q, eh38, hr⟩ := hQ38
        have N38 := Fr.app N37 N38q
        refine oOn st38 ?_
        show oGl p e below (T38.setTop (mkF m 142 #[.val (.int i0), .val (.int i1), .val (.int i2), .val (.int i3), .val (.int i4), .val (.int (2 : Int32)), .val (.int b1), .val (.int b2), .val (.int b3), .val (.int b4), .val (.ref a29), .val (.int (0 : Int32))] [(.int r38)])) _
        refine siload X38 hx (hb hby at_142) rfl rfl (pc' := 144) ?_
        refine sicN X38 hx (hb hby at_144) rfl (teq ((own_cmp (n := 2) (k := (2 : Int32)) (b1 := b1) (b2 := b2) (b3 := b3) (b4 := b4) rfl (by decide) (fun _ => hp1) (fun _ => hp2) (fun q => absurd q (by decide)) (fun q => absurd q (by decide)) hr).2 (fun q => q.2.1 hc105) : r38 = (0 : Int32))).2 (pc' := 147) ?_
        refine siconst X38 hx (hb hby at_147) rfl rfl (z := 1) (pc' := 148) ?_
        refine sgoto X38 hx (hb hby at_148) (by decide) (by decide)  (pc' := 152) ?_
        refine oRetN (t := .boolean) X38 hx Bd.notSynchronized Bd.returns (by simp) (hb hby at_152) (by decide) (by decide) ?_
        show Q_rmL Z i0 i1 i2 i3 i4 h0 n0 _ T38.heap _
        rw [eh38]
        exact ⟨rfl, N38⟩
      · skip
        refine sifN X37 hx (hb hby at_105) rfl (feq hc105).1 (pc' := 108) ?_
        refine siload X37 hx (hb hby at_108) rfl rfl (pc' := 110) ?_
        refine siconst X37 hx (hb hby at_110) rfl rfl (z := 2) (pc' := 111) ?_
        refine siload X37 hx (hb hby at_111) rfl rfl (pc' := 113) ?_
        have hz39 : n0 ≤ h33.size := by omega
        obtain ⟨_, _, ⟨T39, L39, k39, n39⟩, -, X39, ⟨Lc39, hQ39, l39, y39, z39⟩, st39⟩ := Jvm.LawKit.callS X37 hx (y := (⟨"com/example/yusen_ledger/yusenledger/LineReaderIsBlankPinLaw", "fits", "(BII)Z"⟩ : MethodName)) hown (mvT hZ (hw _ (List.mem_of_getElem? (i := 6) rfl))) (mvT hZ (hw _ (List.mem_of_getElem? (i := 7) rfl))) (mvT hZ (hw _ (List.mem_of_getElem? (i := 3) rfl))) (mvT hZ (hw _ (List.mem_of_getElem? (i := 8) rfl))) (by decide) (backOf (W := 0) (rmFits l Z a0 hw [] b3 (2 : Int32) (2 : Int32) h33 n0 hz39 ) hZ (hw _ (List.mem_of_getElem? (i := 8) rfl)) (hw _ (List.mem_of_getElem? (i := 3) rfl)) (by decide) (by decide)) (g := (mkF m 113 #[.val (.int i0), .val (.int i1), .val (.int i2), .val (.int i3), .val (.int i4), .val (.int (2 : Int32)), .val (.int b1), .val (.int b2), .val (.int b3), .val (.int b4), .val (.ref a29), .unset] [(.int (2 : Int32)), (.int (2 : Int32)), (.int b3)])) rfl (by rw [hml]; rfl) (argsL := [(.int b3), (.int (2 : Int32)), (.int (2 : Int32))]) (rest := []) (lenOf pd_1 rfl) rfl (by show 2 * 0 + _ ≤ _; exact Nat.le_of_eq rfl) (hb hby at_113) (fun _ _ => ⟨rfl, eh37, (by decide : 1 + 0 ≤ _), (by decide : 2 + 0 ≤ _)⟩)
        dsimp only [Pt.U, Pt.locs, Pt.cells, Pt.slots] at X39 l39 y39 z39 st39 hQ39
        subst l39 y39 z39
        obtain ⟨rfl, N39q, eh39⟩ := hQ39
        have N39 := Fr.app N37 N39q
        refine oOn st39 ?_
        show oGl p e below (T39.setTop (mkF m 116 #[.val (.int i0), .val (.int i1), .val (.int i2), .val (.int i3), .val (.int i4), .val (.int (2 : Int32)), .val (.int b1), .val (.int b2), .val (.int b3), .val (.int b4), .val (.ref a29), .unset] [(.int (oFits b3 (2 : Int32) (2 : Int32)))])) _
        by_cases hc116 : (oFits b3 (2 : Int32) (2 : Int32)) = (0 : Int32)
        · skip
          refine sifY X39 hx (hb hby at_116) (by decide) (by decide) (teq hc116).1 (pc' := 134) ?_
          refine siconst X39 hx (hb hby at_134) rfl rfl (z := 0) (pc' := 135) ?_
          refine sistore X39 hx (hb hby at_135) rfl rfl (l' := #[.val (.int i0), .val (.int i1), .val (.int i2), .val (.int i3), .val (.int i4), .val (.int (2 : Int32)), .val (.int b1), .val (.int b2), .val (.int b3), .val (.int b4), .val (.ref a29), .val (.int (0 : Int32))]) (pc' := 137) ?_
          refine saload X39 hx (hb hby at_137) rfl rfl rfl (pc' := 139) ?_
          have hz40 : n0 ≤ h33.size := by omega
          obtain ⟨_, _, ⟨T40, L40, k40, n40⟩, -, X40, ⟨Lc40, hQ40, l40, y40, z40⟩, st40⟩ := Jvm.LawKit.callS X39 hx (y := (⟨"com/example/yusen_ledger/yusenledger/LineReader", "isBlank", "([B)Z"⟩ : MethodName)) hown (mvT hZ (hw _ (List.mem_of_getElem? (i := 9) rfl))) (mvT hZ (hw _ (List.mem_of_getElem? (i := 10) rfl))) (mvT hZ (hw _ (List.mem_of_getElem? (i := 11) rfl))) (mvT hZ (hw _ (List.mem_of_getElem? (i := 12) rfl))) (by decide) (backOf (W := 0) (rmBlank l Z a0 hw [] a29 2 (oUp (oUp (fun _ => 0) 0 (nar .byte b1)) 1 (nar .byte b2)) h33 n0 hz40 V33) hZ (hw _ (List.mem_of_getElem? (i := 12) rfl)) (hw _ (List.mem_of_getElem? (i := 11) rfl)) (by decide) (by decide)) (g := (mkF m 139 #[.val (.int i0), .val (.int i1), .val (.int i2), .val (.int i3), .val (.int i4), .val (.int (2 : Int32)), .val (.int b1), .val (.int b2), .val (.int b3), .val (.int b4), .val (.ref a29), .val (.int (0 : Int32))] [(.ref a29)])) rfl (by rw [hml]; rfl) (argsL := [(.ref a29)]) (rest := []) (lenOf pd_2 rfl) rfl (by show 2 * 0 + _ ≤ _; exact Nat.le_of_eq rfl) (hb hby at_139) (fun _ _ => ⟨rfl, eh39, (by decide : 1 + 0 ≤ _), (by decide : 2 + 0 ≤ _)⟩)
          dsimp only [Pt.U, Pt.locs, Pt.cells, Pt.slots] at X40 l40 y40 z40 st40 hQ40
          subst l40 y40 z40
          obtain ⟨r40, rfl, N40q, eh40, hr⟩ := hQ40
          have N40 := Fr.app N39 N40q
          refine oOn st40 ?_
          show oGl p e below (T40.setTop (mkF m 142 #[.val (.int i0), .val (.int i1), .val (.int i2), .val (.int i3), .val (.int i4), .val (.int (2 : Int32)), .val (.int b1), .val (.int b2), .val (.int b3), .val (.int b4), .val (.ref a29), .val (.int (0 : Int32))] [(.int r40)])) _
          refine siload X40 hx (hb hby at_142) rfl rfl (pc' := 144) ?_
          refine sicN X40 hx (hb hby at_144) rfl (teq ((own_cmp (n := 2) (k := (2 : Int32)) (b1 := b1) (b2 := b2) (b3 := b3) (b4 := b4) rfl (by decide) (fun _ => hp1) (fun _ => hp2) (fun q => absurd q (by decide)) (fun q => absurd q (by decide)) hr).2 (fun q => q.2.2.1 hc116) : r40 = (0 : Int32))).2 (pc' := 147) ?_
          refine siconst X40 hx (hb hby at_147) rfl rfl (z := 1) (pc' := 148) ?_
          refine sgoto X40 hx (hb hby at_148) (by decide) (by decide)  (pc' := 152) ?_
          refine oRetN (t := .boolean) X40 hx Bd.notSynchronized Bd.returns (by simp) (hb hby at_152) (by decide) (by decide) ?_
          show Q_rmL Z i0 i1 i2 i3 i4 h0 n0 _ T40.heap _
          rw [eh40]
          exact ⟨rfl, N40⟩
        · skip
          refine sifN X39 hx (hb hby at_116) rfl (feq hc116).1 (pc' := 119) ?_
          refine siload X39 hx (hb hby at_119) rfl rfl (pc' := 121) ?_
          refine siconst X39 hx (hb hby at_121) rfl rfl (z := 3) (pc' := 122) ?_
          refine siload X39 hx (hb hby at_122) rfl rfl (pc' := 124) ?_
          have hz41 : n0 ≤ h33.size := by omega
          obtain ⟨_, _, ⟨T41, L41, k41, n41⟩, -, X41, ⟨Lc41, hQ41, l41, y41, z41⟩, st41⟩ := Jvm.LawKit.callS X39 hx (y := (⟨"com/example/yusen_ledger/yusenledger/LineReaderIsBlankPinLaw", "fits", "(BII)Z"⟩ : MethodName)) hown (mvT hZ (hw _ (List.mem_of_getElem? (i := 6) rfl))) (mvT hZ (hw _ (List.mem_of_getElem? (i := 7) rfl))) (mvT hZ (hw _ (List.mem_of_getElem? (i := 3) rfl))) (mvT hZ (hw _ (List.mem_of_getElem? (i := 8) rfl))) (by decide) (backOf (W := 0) (rmFits l Z a0 hw [] b4 (3 : Int32) (2 : Int32) h33 n0 hz41 ) hZ (hw _ (List.mem_of_getElem? (i := 8) rfl)) (hw _ (List.mem_of_getElem? (i := 3) rfl)) (by decide) (by decide)) (g := (mkF m 124 #[.val (.int i0), .val (.int i1), .val (.int i2), .val (.int i3), .val (.int i4), .val (.int (2 : Int32)), .val (.int b1), .val (.int b2), .val (.int b3), .val (.int b4), .val (.ref a29), .unset] [(.int (2 : Int32)), (.int (3 : Int32)), (.int b4)])) rfl (by rw [hml]; rfl) (argsL := [(.int b4), (.int (3 : Int32)), (.int (2 : Int32))]) (rest := []) (lenOf pd_1 rfl) rfl (by show 2 * 0 + _ ≤ _; exact Nat.le_of_eq rfl) (hb hby at_124) (fun _ _ => ⟨rfl, eh39, (by decide : 1 + 0 ≤ _), (by decide : 2 + 0 ≤ _)⟩)
          dsimp only [Pt.U, Pt.locs, Pt.cells, Pt.slots] at X41 l41 y41 z41 st41 hQ41
          subst l41 y41 z41
          obtain ⟨rfl, N41q, eh41⟩ := hQ41
          have N41 := Fr.app N39 N41q
          refine oOn st41 ?_
          show oGl p e below (T41.setTop (mkF m 127 #[.val (.int i0), .val (.int i1), .val (.int i2), .val (.int i3), .val (.int i4), .val (.int (2 : Int32)), .val (.int b1), .val (.int b2), .val (.int b3), .val (.int b4), .val (.ref a29), .unset] [(.int (oFits b4 (3 : Int32) (2 : Int32)))])) _
          by_cases hc127 : (oFits b4 (3 : Int32) (2 : Int32)) = (0 : Int32)
          · skip
            refine sifY X41 hx (hb hby at_127) (by decide) (by decide) (teq hc127).1 (pc' := 134) ?_
            refine siconst X41 hx (hb hby at_134) rfl rfl (z := 0) (pc' := 135) ?_
            refine sistore X41 hx (hb hby at_135) rfl rfl (l' := #[.val (.int i0), .val (.int i1), .val (.int i2), .val (.int i3), .val (.int i4), .val (.int (2 : Int32)), .val (.int b1), .val (.int b2), .val (.int b3), .val (.int b4), .val (.ref a29), .val (.int (0 : Int32))]) (pc' := 137) ?_
            refine saload X41 hx (hb hby at_137) rfl rfl rfl (pc' := 139) ?_
            have hz42 : n0 ≤ h33.size := by omega
            obtain ⟨_, _, ⟨T42, L42, k42, n42⟩, -, X42, ⟨Lc42, hQ42, l42, y42, z42⟩, st42⟩ := Jvm.LawKit.callS X41 hx (y := (⟨"com/example/yusen_ledger/yusenledger/LineReader", "isBlank", "([B)Z"⟩ : MethodName)) hown (mvT hZ (hw _ (List.mem_of_getElem? (i := 9) rfl))) (mvT hZ (hw _ (List.mem_of_getElem? (i := 10) rfl))) (mvT hZ (hw _ (List.mem_of_getElem? (i := 11) rfl))) (mvT hZ (hw _ (List.mem_of_getElem? (i := 12) rfl))) (by decide) (backOf (W := 0) (rmBlank l Z a0 hw [] a29 2 (oUp (oUp (fun _ => 0) 0 (nar .byte b1)) 1 (nar .byte b2)) h33 n0 hz42 V33) hZ (hw _ (List.mem_of_getElem? (i := 12) rfl)) (hw _ (List.mem_of_getElem? (i := 11) rfl)) (by decide) (by decide)) (g := (mkF m 139 #[.val (.int i0), .val (.int i1), .val (.int i2), .val (.int i3), .val (.int i4), .val (.int (2 : Int32)), .val (.int b1), .val (.int b2), .val (.int b3), .val (.int b4), .val (.ref a29), .val (.int (0 : Int32))] [(.ref a29)])) rfl (by rw [hml]; rfl) (argsL := [(.ref a29)]) (rest := []) (lenOf pd_2 rfl) rfl (by show 2 * 0 + _ ≤ _; exact Nat.le_of_eq rfl) (hb hby at_139) (fun _ _ => ⟨rfl, eh41, (by decide : 1 + 0 ≤ _), (by decide : 2 + 0 ≤ _)⟩)
            dsimp only [Pt.U, Pt.locs, Pt.cells, Pt.slots] at X42 l42 y42 z42 st42 hQ42
            subst l42 y42 z42
            obtain ⟨r42, rfl, N42q, eh42, hr⟩ := hQ42
            have N42 := Fr.app N41 N42q
            refine oOn st42 ?_
            show oGl p e below (T42.setTop (mkF m 142 #[.val (.int i0), .val (.int i1), .val (.int i2), .val (.int i3), .val (.int i4), .val (.int (2 : Int32)), .val (.int b1), .val (.int b2), .val (.int b3), .val (.int b4), .val (.ref a29), .val (.int (0 : Int32))] [(.int r42)])) _
            refine siload X42 hx (hb hby at_142) rfl rfl (pc' := 144) ?_
            refine sicN X42 hx (hb hby at_144) rfl (teq ((own_cmp (n := 2) (k := (2 : Int32)) (b1 := b1) (b2 := b2) (b3 := b3) (b4 := b4) rfl (by decide) (fun _ => hp1) (fun _ => hp2) (fun q => absurd q (by decide)) (fun q => absurd q (by decide)) hr).2 (fun q => q.2.2.2 hc127) : r42 = (0 : Int32))).2 (pc' := 147) ?_
            refine siconst X42 hx (hb hby at_147) rfl rfl (z := 1) (pc' := 148) ?_
            refine sgoto X42 hx (hb hby at_148) (by decide) (by decide)  (pc' := 152) ?_
            refine oRetN (t := .boolean) X42 hx Bd.notSynchronized Bd.returns (by simp) (hb hby at_152) (by decide) (by decide) ?_
            show Q_rmL Z i0 i1 i2 i3 i4 h0 n0 _ T42.heap _
            rw [eh42]
            exact ⟨rfl, N42⟩
          · skip
            refine sifN X41 hx (hb hby at_127) rfl (feq hc127).1 (pc' := 130) ?_
            refine siconst X41 hx (hb hby at_130) rfl rfl (z := 1) (pc' := 131) ?_
            refine sgoto X41 hx (hb hby at_131) (by decide) (by decide)  (pc' := 135) ?_
            refine sistore X41 hx (hb hby at_135) rfl rfl (l' := #[.val (.int i0), .val (.int i1), .val (.int i2), .val (.int i3), .val (.int i4), .val (.int (2 : Int32)), .val (.int b1), .val (.int b2), .val (.int b3), .val (.int b4), .val (.ref a29), .val (.int (1 : Int32))]) (pc' := 137) ?_
            refine saload X41 hx (hb hby at_137) rfl rfl rfl (pc' := 139) ?_
            have hz43 : n0 ≤ h33.size := by omega
            obtain ⟨_, _, ⟨T43, L43, k43, n43⟩, -, X43, ⟨Lc43, hQ43, l43, y43, z43⟩, st43⟩ := Jvm.LawKit.callS X41 hx (y := (⟨"com/example/yusen_ledger/yusenledger/LineReader", "isBlank", "([B)Z"⟩ : MethodName)) hown (mvT hZ (hw _ (List.mem_of_getElem? (i := 9) rfl))) (mvT hZ (hw _ (List.mem_of_getElem? (i := 10) rfl))) (mvT hZ (hw _ (List.mem_of_getElem? (i := 11) rfl))) (mvT hZ (hw _ (List.mem_of_getElem? (i := 12) rfl))) (by decide) (backOf (W := 0) (rmBlank l Z a0 hw [] a29 2 (oUp (oUp (fun _ => 0) 0 (nar .byte b1)) 1 (nar .byte b2)) h33 n0 hz43 V33) hZ (hw _ (List.mem_of_getElem? (i := 12) rfl)) (hw _ (List.mem_of_getElem? (i := 11) rfl)) (by decide) (by decide)) (g := (mkF m 139 #[.val (.int i0), .val (.int i1), .val (.int i2), .val (.int i3), .val (.int i4), .val (.int (2 : Int32)), .val (.int b1), .val (.int b2), .val (.int b3), .val (.int b4), .val (.ref a29), .val (.int (1 : Int32))] [(.ref a29)])) rfl (by rw [hml]; rfl) (argsL := [(.ref a29)]) (rest := []) (lenOf pd_2 rfl) rfl (by show 2 * 0 + _ ≤ _; exact Nat.le_of_eq rfl) (hb hby at_139) (fun _ _ => ⟨rfl, eh41, (by decide : 1 + 0 ≤ _), (by decide : 2 + 0 ≤ _)⟩)
            dsimp only [Pt.U, Pt.locs, Pt.cells, Pt.slots] at X43 l43 y43 z43 st43 hQ43
            subst l43 y43 z43
            obtain ⟨r43, rfl, N43q, eh43, hr⟩ := hQ43
            have N43 := Fr.app N41 N43q
            refine oOn st43 ?_
            show oGl p e below (T43.setTop (mkF m 142 #[.val (.int i0), .val (.int i1), .val (.int i2), .val (.int i3), .val (.int i4), .val (.int (2 : Int32)), .val (.int b1), .val (.int b2), .val (.int b3), .val (.int b4), .val (.ref a29), .val (.int (1 : Int32))] [(.int r43)])) _
            refine siload X43 hx (hb hby at_142) rfl rfl (pc' := 144) ?_
            refine sicN X43 hx (hb hby at_144) rfl (teq ((own_cmp (n := 2) (k := (2 : Int32)) (b1 := b1) (b2 := b2) (b3 := b3) (b4 := b4) rfl (by decide) (fun _ => hp1) (fun _ => hp2) (fun q => absurd q (by decide)) (fun q => absurd q (by decide)) hr).1 ⟨hc94, hc105, hc116, hc127⟩ : r43 = (1 : Int32))).2 (pc' := 147) ?_
            refine siconst X43 hx (hb hby at_147) rfl rfl (z := 1) (pc' := 148) ?_
            refine sgoto X43 hx (hb hby at_148) (by decide) (by decide)  (pc' := 152) ?_
            refine oRetN (t := .boolean) X43 hx Bd.notSynchronized Bd.returns (by simp) (hb hby at_152) (by decide) (by decide) ?_
            show Q_rmL Z i0 i1 i2 i3 i4 h0 n0 _ T43.heap _
            rw [eh43]
            exact ⟨rfl, N43⟩
  · skip
    show oGl p e below (T4.setTop (mkF m 33 #[.val (.int i0), .val (.int i1), .val (.int i2), .val (.int i3), .val (.int i4), .val (.int (3 : Int32)), .val (.int b1), .val (.int b2), .val (.int b3), .val (.int b4), .unset, .unset] [])) _
    refine siload X4 hx (hb hby at_33) rfl rfl (pc' := 35) ?_
    obtain ⟨T44, h44, k44, X44, e44, E44, A44, st44⟩ := newP X4 hx hZ (hw _ (List.mem_of_getElem? (i := 5) rfl)) eh4 (g := (mkF m 35 #[.val (.int i0), .val (.int i1), .val (.int i2), .val (.int i3), .val (.int i4), .val (.int (3 : Int32)), .val (.int b1), .val (.int b2), .val (.int b3), .val (.int b4), .unset, .unset] [(.int (3 : Int32))])) rfl (hb hby at_35) rfl (by decide) (cap := 3) (by decide) (by decide) (by decide) (by decide)
    obtain ⟨a44, g44⟩ : ∃ z, z = h0.size := ⟨_, rfl⟩
    rw [← g44] at A44 st44
    refine oOn st44 ?_
    have z45 : h0.size ≤ h44.size := E44.1
    have lt44 : a44 < h44.size := A44.lt
    have V44 : oAI Z h44 a44 .byte 3 (fun _ => 0) := oAI.new A44 rfl
    show oGl p e below (T44.setTop (mkF m 37 #[.val (.int i0), .val (.int i1), .val (.int i2), .val (.int i3), .val (.int i4), .val (.int (3 : Int32)), .val (.int b1), .val (.int b2), .val (.int b3), .val (.int b4), .unset, .unset] [(.ref a44)])) _
    refine sastore X44 hx (hb hby at_37) rfl rfl rfl (l' := #[.val (.int i0), .val (.int i1), .val (.int i2), .val (.int i3), .val (.int i4), .val (.int (3 : Int32)), .val (.int b1), .val (.int b2), .val (.int b3), .val (.int b4), .val (.ref a44), .unset]) (pc' := 39) ?_
    refine siload X44 hx (hb hby at_39) rfl rfl (pc' := 41) ?_
    refine sifN X44 hx (hb hby at_41) rfl (tlt (by decide : (0 : Int32) < (3 : Int32))).2.2.2 (pc' := 44) ?_
    refine saload X44 hx (hb hby at_44) rfl rfl rfl (pc' := 46) ?_
    refine siconst X44 hx (hb hby at_46) rfl rfl (z := 0) (pc' := 47) ?_
    refine siload X44 hx (hb hby at_47) rfl rfl (pc' := 49) ?_
    obtain ⟨T46, h46, X46, e46, W46, V46, st46⟩ := V44.stB X44 hx hZ e44 (j := (0 : Int32)) (by decide) (g := (mkF m 49 #[.val (.int i0), .val (.int i1), .val (.int i2), .val (.int i3), .val (.int i4), .val (.int (3 : Int32)), .val (.int b1), .val (.int b2), .val (.int b3), .val (.int b4), .val (.ref a44), .unset] [(.int b1), (.int (0 : Int32)), (.ref a44)])) rfl rfl (hb hby at_49)
    refine oOn st46 ?_
    have z47 : h44.size ≤ h46.size := Nat.le_of_eq W46.size.symm
    have N46 := Fr.snoc X46 N4 (by omega)
    show oGl p e below (T46.setTop (mkF m 50 #[.val (.int i0), .val (.int i1), .val (.int i2), .val (.int i3), .val (.int i4), .val (.int (3 : Int32)), .val (.int b1), .val (.int b2), .val (.int b3), .val (.int b4), .val (.ref a44), .unset] [])) _
    refine siload X46 hx (hb hby at_50) rfl rfl (pc' := 52) ?_
    refine siconst X46 hx (hb hby at_52) rfl rfl (z := 1) (pc' := 53) ?_
    refine sicN X46 hx (hb hby at_53) rfl (tlt (by decide : (1 : Int32) < (3 : Int32))).2.2.2 (pc' := 56) ?_
    refine saload X46 hx (hb hby at_56) rfl rfl rfl (pc' := 58) ?_
    refine siconst X46 hx (hb hby at_58) rfl rfl (z := 1) (pc' := 59) ?_
    refine siload X46 hx (hb hby at_59) rfl rfl (pc' := 61) ?_
    obtain ⟨T48, h48, X48, e48, W48, V48, st48⟩ := V46.stB X46 hx hZ e46 (j := (1 : Int32)) (by decide) (g := (mkF m 61 #[.val (.int i0), .val (.int i1), .val (.int i2), .val (.int i3), .val (.int i4), .val (.int (3 : Int32)), .val (.int b1), .val (.int b2), .val (.int b3), .val (.int b4), .val (.ref a44), .unset] [(.int b2), (.int (1 : Int32)), (.ref a44)])) rfl rfl (hb hby at_61)
    refine oOn st48 ?_
    have z49 : h46.size ≤ h48.size := Nat.le_of_eq W48.size.symm
    have N48 := Fr.snoc X48 N46 (by omega)
    show oGl p e below (T48.setTop (mkF m 62 #[.val (.int i0), .val (.int i1), .val (.int i2), .val (.int i3), .val (.int i4), .val (.int (3 : Int32)), .val (.int b1), .val (.int b2), .val (.int b3), .val (.int b4), .val (.ref a44), .unset] [])) _
    refine siload X48 hx (hb hby at_62) rfl rfl (pc' := 64) ?_
    refine siconst X48 hx (hb hby at_64) rfl rfl (z := 2) (pc' := 65) ?_
    refine sicN X48 hx (hb hby at_65) rfl (tlt (by decide : (2 : Int32) < (3 : Int32))).2.2.2 (pc' := 68) ?_
    refine saload X48 hx (hb hby at_68) rfl rfl rfl (pc' := 70) ?_
    refine siconst X48 hx (hb hby at_70) rfl rfl (z := 2) (pc' := 71) ?_
    refine siload X48 hx (hb hby at_71) rfl rfl (pc' := 73) ?_
    obtain ⟨T50, h50, X50, e50, W50, V50, st50⟩ := V48.stB X48 hx hZ e48 (j := (2 : Int32)) (by decide) (g := (mkF m 73 #[.val (.int i0), .val (.int i1), .val (.int i2), .val (.int i3), .val (.int i4), .val (.int (3 : Int32)), .val (.int b1), .val (.int b2), .val (.int b3), .val (.int b4), .val (.ref a44), .unset] [(.int b3), (.int (2 : Int32)), (.ref a44)])) rfl rfl (hb hby at_73)
    refine oOn st50 ?_
    have z51 : h48.size ≤ h50.size := Nat.le_of_eq W50.size.symm
    have N50 := Fr.snoc X50 N48 (by omega)
    show oGl p e below (T50.setTop (mkF m 74 #[.val (.int i0), .val (.int i1), .val (.int i2), .val (.int i3), .val (.int i4), .val (.int (3 : Int32)), .val (.int b1), .val (.int b2), .val (.int b3), .val (.int b4), .val (.ref a44), .unset] [])) _
    refine siload X50 hx (hb hby at_74) rfl rfl (pc' := 76) ?_
    refine siconst X50 hx (hb hby at_76) rfl rfl (z := 3) (pc' := 77) ?_
    refine sicY X50 hx (hb hby at_77) (by decide) (by decide) (flt (by decide : ¬ ((3 : Int32) < (3 : Int32)))).2.2.2 (pc' := 86) ?_
    refine siload X50 hx (hb hby at_86) rfl rfl (pc' := 88) ?_
    refine siconst X50 hx (hb hby at_88) rfl rfl (z := 0) (pc' := 89) ?_
    refine siload X50 hx (hb hby at_89) rfl rfl (pc' := 91) ?_
    have hz52 : n0 ≤ h50.size := by omega
    obtain ⟨_, _, ⟨T52, L52, k52, n52⟩, -, X52, ⟨Lc52, hQ52, l52, y52, z52⟩, st52⟩ := Jvm.LawKit.callS X50 hx (y := (⟨"com/example/yusen_ledger/yusenledger/LineReaderIsBlankPinLaw", "fits", "(BII)Z"⟩ : MethodName)) hown (mvT hZ (hw _ (List.mem_of_getElem? (i := 6) rfl))) (mvT hZ (hw _ (List.mem_of_getElem? (i := 7) rfl))) (mvT hZ (hw _ (List.mem_of_getElem? (i := 3) rfl))) (mvT hZ (hw _ (List.mem_of_getElem? (i := 8) rfl))) (by decide) (backOf (W := 0) (rmFits l Z a0 hw [] b1 (0 : Int32) (3 : Int32) h50 n0 hz52 ) hZ (hw _ (List.mem_of_getElem? (i := 8) rfl)) (hw _ (List.mem_of_getElem? (i := 3) rfl)) (by decide) (by decide)) (g := (mkF m 91 #[.val (.int i0), .val (.int i1), .val (.int i2), .val (.int i3), .val (.int i4), .val (.int (3 : Int32)), .val (.int b1), .val (.int b2), .val (.int b3), .val (.int b4), .val (.ref a44), .unset] [(.int (3 : Int32)), (.int (0 : Int32)), (.int b1)])) rfl (by rw [hml]; rfl) (argsL := [(.int b1), (.int (0 : Int32)), (.int (3 : Int32))]) (rest := []) (lenOf pd_1 rfl) rfl (by show 2 * 0 + _ ≤ _; exact Nat.le_of_eq rfl) (hb hby at_91) (fun _ _ => ⟨rfl, e50, (by decide : 1 + 0 ≤ _), (by decide : 3 + 0 ≤ _)⟩)
    dsimp only [Pt.U, Pt.locs, Pt.cells, Pt.slots] at X52 l52 y52 z52 st52 hQ52
    subst l52 y52 z52
    obtain ⟨rfl, N52q, eh52⟩ := hQ52
    have N52 := Fr.app N50 N52q
    refine oOn st52 ?_
    show oGl p e below (T52.setTop (mkF m 94 #[.val (.int i0), .val (.int i1), .val (.int i2), .val (.int i3), .val (.int i4), .val (.int (3 : Int32)), .val (.int b1), .val (.int b2), .val (.int b3), .val (.int b4), .val (.ref a44), .unset] [(.int (oFits b1 (0 : Int32) (3 : Int32)))])) _
    by_cases hc94 : (oFits b1 (0 : Int32) (3 : Int32)) = (0 : Int32)
    · skip
      refine sifY X52 hx (hb hby at_94) (by decide) (by decide) (teq hc94).1 (pc' := 134) ?_
      refine siconst X52 hx (hb hby at_134) rfl rfl (z := 0) (pc' := 135) ?_
      refine sistore X52 hx (hb hby at_135) rfl rfl (l' := #[.val (.int i0), .val (.int i1), .val (.int i2), .val (.int i3), .val (.int i4), .val (.int (3 : Int32)), .val (.int b1), .val (.int b2), .val (.int b3), .val (.int b4), .val (.ref a44), .val (.int (0 : Int32))]) (pc' := 137) ?_
      refine saload X52 hx (hb hby at_137) rfl rfl rfl (pc' := 139) ?_
      have hz53 : n0 ≤ h50.size := by omega
      obtain ⟨_, _, ⟨T53, L53, k53, n53⟩, -, X53, ⟨Lc53, hQ53, l53, y53, z53⟩, st53⟩ := Jvm.LawKit.callS X52 hx (y := (⟨"com/example/yusen_ledger/yusenledger/LineReader", "isBlank", "([B)Z"⟩ : MethodName)) hown (mvT hZ (hw _ (List.mem_of_getElem? (i := 9) rfl))) (mvT hZ (hw _ (List.mem_of_getElem? (i := 10) rfl))) (mvT hZ (hw _ (List.mem_of_getElem? (i := 11) rfl))) (mvT hZ (hw _ (List.mem_of_getElem? (i := 12) rfl))) (by decide) (backOf (W := 0) (rmBlank l Z a0 hw [] a44 3 (oUp (oUp (oUp (fun _ => 0) 0 (nar .byte b1)) 1 (nar .byte b2)) 2 (nar .byte b3)) h50 n0 hz53 V50) hZ (hw _ (List.mem_of_getElem? (i := 12) rfl)) (hw _ (List.mem_of_getElem? (i := 11) rfl)) (by decide) (by decide)) (g := (mkF m 139 #[.val (.int i0), .val (.int i1), .val (.int i2), .val (.int i3), .val (.int i4), .val (.int (3 : Int32)), .val (.int b1), .val (.int b2), .val (.int b3), .val (.int b4), .val (.ref a44), .val (.int (0 : Int32))] [(.ref a44)])) rfl (by rw [hml]; rfl) (argsL := [(.ref a44)]) (rest := []) (lenOf pd_2 rfl) rfl (by show 2 * 0 + _ ≤ _; exact Nat.le_of_eq rfl) (hb hby at_139) (fun _ _ => ⟨rfl, eh52, (by decide : 1 + 0 ≤ _), (by decide : 3 + 0 ≤ _)⟩)
      dsimp only [Pt.U, Pt.locs, Pt.cells, Pt.slots] at X53 l53 y53 z53 st53 hQ53
      subst l53 y53 z53
      obtain ⟨r53, rfl, N53q, eh53, hr⟩ := hQ53
      have N53 := Fr.app N52 N53q
      refine oOn st53 ?_
      show oGl p e below (T53.setTop (mkF m 142 #[.val (.int i0), .val (.int i1), .val (.int i2), .val (.int i3), .val (.int i4), .val (.int (3 : Int32)), .val (.int b1), .val (.int b2), .val (.int b3), .val (.int b4), .val (.ref a44), .val (.int (0 : Int32))] [(.int r53)])) _
      refine siload X53 hx (hb hby at_142) rfl rfl (pc' := 144) ?_
      refine sicN X53 hx (hb hby at_144) rfl (teq ((own_cmp (n := 3) (k := (3 : Int32)) (b1 := b1) (b2 := b2) (b3 := b3) (b4 := b4) rfl (by decide) (fun _ => hp1) (fun _ => hp2) (fun _ => hp3) (fun q => absurd q (by decide)) hr).2 (fun q => q.1 hc94) : r53 = (0 : Int32))).2 (pc' := 147) ?_
      refine siconst X53 hx (hb hby at_147) rfl rfl (z := 1) (pc' := 148) ?_
      refine sgoto X53 hx (hb hby at_148) (by decide) (by decide)  (pc' := 152) ?_
      refine oRetN (t := .boolean) X53 hx Bd.notSynchronized Bd.returns (by simp) (hb hby at_152) (by decide) (by decide) ?_
      show Q_rmL Z i0 i1 i2 i3 i4 h0 n0 _ T53.heap _
      rw [eh53]
      exact ⟨rfl, N53⟩
    · skip
      refine sifN X52 hx (hb hby at_94) rfl (feq hc94).1 (pc' := 97) ?_
      refine siload X52 hx (hb hby at_97) rfl rfl (pc' := 99) ?_
      refine siconst X52 hx (hb hby at_99) rfl rfl (z := 1) (pc' := 100) ?_
      refine siload X52 hx (hb hby at_100) rfl rfl (pc' := 102) ?_
      have hz54 : n0 ≤ h50.size := by omega
      obtain ⟨_, _, ⟨T54, L54, k54, n54⟩, -, X54, ⟨Lc54, hQ54, l54, y54, z54⟩, st54⟩ := Jvm.LawKit.callS X52 hx (y := (⟨"com/example/yusen_ledger/yusenledger/LineReaderIsBlankPinLaw", "fits", "(BII)Z"⟩ : MethodName)) hown (mvT hZ (hw _ (List.mem_of_getElem? (i := 6) rfl))) (mvT hZ (hw _ (List.mem_of_getElem? (i := 7) rfl))) (mvT hZ (hw _ (List.mem_of_getElem? (i := 3) rfl))) (mvT hZ (hw _ (List.mem_of_getElem? (i := 8) rfl))) (by decide) (backOf (W := 0) (rmFits l Z a0 hw [] b2 (1 : Int32) (3 : Int32) h50 n0 hz54 ) hZ (hw _ (List.mem_of_getElem? (i := 8) rfl)) (hw _ (List.mem_of_getElem? (i := 3) rfl)) (by decide) (by decide)) (g := (mkF m 102 #[.val (.int i0), .val (.int i1), .val (.int i2), .val (.int i3), .val (.int i4), .val (.int (3 : Int32)), .val (.int b1), .val (.int b2), .val (.int b3), .val (.int b4), .val (.ref a44), .unset] [(.int (3 : Int32)), (.int (1 : Int32)), (.int b2)])) rfl (by rw [hml]; rfl) (argsL := [(.int b2), (.int (1 : Int32)), (.int (3 : Int32))]) (rest := []) (lenOf pd_1 rfl) rfl (by show 2 * 0 + _ ≤ _; exact Nat.le_of_eq rfl) (hb hby at_102) (fun _ _ => ⟨rfl, eh52, (by decide : 1 + 0 ≤ _), (by decide : 3 + 0 ≤ _)⟩)
      dsimp only [Pt.U, Pt.locs, Pt.cells, Pt.slots] at X54 l54 y54 z54 st54 hQ54
      subst l54 y54 z54
      obtain ⟨rfl, N54q, eh54⟩ := hQ54
      have N54 := Fr.app N52 N54q
      refine oOn st54 ?_
      show oGl p e below (T54.setTop (mkF m 105 #[.val (.int i0), .val (.int i1), .val (.int i2), .val (.int i3), .val (.int i4), .val (.int (3 : Int32)), .val (.int b1), .val (.int b2), .val (.int b3), .val (.int b4), .val (.ref a44), .unset] [(.int (oFits b2 (1 : Int32) (3 : Int32)))])) _
      by_cases hc105 : (oFits b2 (1 : Int32) (3 : Int32)) = (0 : Int32)
      · skip
        refine sifY X54 hx (hb hby at_105) (by decide) (by decide) (teq hc105).1 (pc' := 134) ?_
        refine siconst X54 hx (hb hby at_134) rfl rfl (z := 0) (pc' := 135) ?_
        refine sistore X54 hx (hb hby at_135) rfl rfl (l' := #[.val (.int i0), .val (.int i1), .val (.int i2), .val (.int i3), .val (.int i4), .val (.int (3 : Int32)), .val (.int b1), .val (.int b2), .val (.int b3), .val (.int b4), .val (.ref a44), .val (.int (0 : Int32))]) (pc' := 137) ?_
        refine saload X54 hx (hb hby at_137) rfl rfl rfl (pc' := 139) ?_
        have hz55 : n0 ≤ h50.size := by omega
        obtain ⟨_, _, ⟨T55, L55, k55, n55⟩, -, X55, ⟨Lc55, hQ55, l55, y55, z55⟩, st55⟩ := Jvm.LawKit.callS X54 hx (y := (⟨"com/example/yusen_ledger/yusenledger/LineReader", "isBlank", "([B)Z"⟩ : MethodName)) hown (mvT hZ (hw _ (List.mem_of_getElem? (i := 9) rfl))) (mvT hZ (hw _ (List.mem_of_getElem? (i := 10) rfl))) (mvT hZ (hw _ (List.mem_of_getElem? (i := 11) rfl))) (mvT hZ (hw _ (List.mem_of_getElem? (i := 12) rfl))) (by decide) (backOf (W := 0) (rmBlank l Z a0 hw [] a44 3 (oUp (oUp (oUp (fun _ => 0) 0 (nar .byte b1)) 1 (nar .byte b2)) 2 (nar .byte b3)) h50 n0 hz55 V50) hZ (hw _ (List.mem_of_getElem? (i := 12) rfl)) (hw _ (List.mem_of_getElem? (i := 11) rfl)) (by decide) (by decide)) (g := (mkF m 139 #[.val (.int i0), .val (.int i1), .val (.int i2), .val (.int i3), .val (.int i4), .val (.int (3 : Int32)), .val (.int b1), .val (.int b2), .val (.int b3), .val (.int b4), .val (.ref a44), .val (.int (0 : Int32))] [(.ref a44)])) rfl (by rw [hml]; rfl) (argsL := [(.ref a44)]) (rest := []) (lenOf pd_2 rfl) rfl (by show 2 * 0 + _ ≤ _; exact Nat.le_of_eq rfl) (hb hby at_139) (fun _ _ => ⟨rfl, eh54, (by decide : 1 + 0 ≤ _), (by decide : 3 + 0 ≤ _)⟩)
        dsimp only [Pt.U, Pt.locs, Pt.cells, Pt.slots] at X55 l55 y55 z55 st55 hQ55
        subst l55 y55 z55
        obtain ⟨r55, rfl, N55q, eh55, hr⟩ := hQ55
        have N55 := Fr.app N54 N55q
        refine oOn st55 ?_
        show oGl p e below (T55.setTop (mkF m 142 #[.val (.int i0), .val (.int i1), .val (.int i2), .val (.int i3), .val (.int i4), .val (.int (3 : Int32)), .val (.int b1), .val (.int b2), .val (.int b3), .val (.int b4), .val (.ref a44), .val (.int (0 : Int32))] [(.int r55)])) _
        refine siload X55 hx (hb hby at_142) rfl rfl (pc' := 144) ?_
        refine sicN X55 hx (hb hby at_144) rfl (teq ((own_cmp (n := 3) (k := (3 : Int32)) (b1 := b1) (b2 := b2) (b3 := b3) (b4 := b4) rfl (by decide) (fun _ => hp1) (fun _ => hp2) (fun _ => hp3) (fun q => absurd q (by decide)) hr).2 (fun q => q.2.1 hc105) : r55 = (0 : Int32))).2 (pc' := 147) ?_
        refine siconst X55 hx (hb hby at_147) rfl rfl (z := 1) (pc' := 148) ?_
        refine sgoto X55 hx (hb hby at_148) (by decide) (by decide)  (pc' := 152) ?_
        refine oRetN (t := .boolean) X55 hx Bd.notSynchronized Bd.returns (by simp) (hb hby at_152) (by decide) (by decide) ?_
        show Q_rmL Z i0 i1 i2 i3 i4 h0 n0 _ T55.heap _
        rw [eh55]
        exact ⟨rfl, N55⟩
      · skip
        refine sifN X54 hx (hb hby at_105) rfl (feq hc105).1 (pc' := 108) ?_
        refine siload X54 hx (hb hby at_108) rfl rfl (pc' := 110) ?_
        refine siconst X54 hx (hb hby at_110) rfl rfl (z := 2) (pc' := 111) ?_
        refine siload X54 hx (hb hby at_111) rfl rfl (pc' := 113) ?_
        have hz56 : n0 ≤ h50.size := by omega
        obtain ⟨_, _, ⟨T56, L56, k56, n56⟩, -, X56, ⟨Lc56, hQ56, l56, y56, z56⟩, st56⟩ := Jvm.LawKit.callS X54 hx (y := (⟨"com/example/yusen_ledger/yusenledger/LineReaderIsBlankPinLaw", "fits", "(BII)Z"⟩ : MethodName)) hown (mvT hZ (hw _ (List.mem_of_getElem? (i := 6) rfl))) (mvT hZ (hw _ (List.mem_of_getElem? (i := 7) rfl))) (mvT hZ (hw _ (List.mem_of_getElem? (i := 3) rfl))) (mvT hZ (hw _ (List.mem_of_getElem? (i := 8) rfl))) (by decide) (backOf (W := 0) (rmFits l Z a0 hw [] b3 (2 : Int32) (3 : Int32) h50 n0 hz56 ) hZ (hw _ (List.mem_of_getElem? (i := 8) rfl)) (hw _ (List.mem_of_getElem? (i := 3) rfl)) (by decide) (by decide)) (g := (mkF m 113 #[.val (.int i0), .val (.int i1), .val (.int i2), .val (.int i3), .val (.int i4), .val (.int (3 : Int32)), .val (.int b1), .val (.int b2), .val (.int b3), .val (.int b4), .val (.ref a44), .unset] [(.int (3 : Int32)), (.int (2 : Int32)), (.int b3)])) rfl (by rw [hml]; rfl) (argsL := [(.int b3), (.int (2 : Int32)), (.int (3 : Int32))]) (rest := []) (lenOf pd_1 rfl) rfl (by show 2 * 0 + _ ≤ _; exact Nat.le_of_eq rfl) (hb hby at_113) (fun _ _ => ⟨rfl, eh54, (by decide : 1 + 0 ≤ _), (by decide : 3 + 0 ≤ _)⟩)
        dsimp only [Pt.U, Pt.locs, Pt.cells, Pt.slots] at X56 l56 y56 z56 st56 hQ56
        subst l56 y56 z56
        obtain ⟨rfl, N56q, eh56⟩ := hQ56
        have N56 := Fr.app N54 N56q
        refine oOn st56 ?_
        show oGl p e below (T56.setTop (mkF m 116 #[.val (.int i0), .val (.int i1), .val (.int i2), .val (.int i3), .val (.int i4), .val (.int (3 : Int32)), .val (.int b1), .val (.int b2), .val (.int b3), .val (.int b4), .val (.ref a44), .unset] [(.int (oFits b3 (2 : Int32) (3 : Int32)))])) _
        by_cases hc116 : (oFits b3 (2 : Int32) (3 : Int32)) = (0 : Int32)
        · skip
          refine sifY X56 hx (hb hby at_116) (by decide) (by decide) (teq hc116).1 (pc' := 134) ?_
          refine siconst X56 hx (hb hby at_134) rfl rfl (z := 0) (pc' := 135) ?_
          refine sistore X56 hx (hb hby at_135) rfl rfl (l' := #[.val (.int i0), .val (.int i1), .val (.int i2), .val (.int i3), .val (.int i4), .val (.int (3 : Int32)), .val (.int b1), .val (.int b2), .val (.int b3), .val (.int b4), .val (.ref a44), .val (.int (0 : Int32))]) (pc' := 137) ?_
          refine saload X56 hx (hb hby at_137) rfl rfl rfl (pc' := 139) ?_
          have hz57 : n0 ≤ h50.size := by omega
          obtain ⟨_, _, ⟨T57, L57, k57, n57⟩, -, X57, ⟨Lc57, hQ57, l57, y57, z57⟩, st57⟩ := Jvm.LawKit.callS X56 hx (y := (⟨"com/example/yusen_ledger/yusenledger/LineReader", "isBlank", "([B)Z"⟩ : MethodName)) hown (mvT hZ (hw _ (List.mem_of_getElem? (i := 9) rfl))) (mvT hZ (hw _ (List.mem_of_getElem? (i := 10) rfl))) (mvT hZ (hw _ (List.mem_of_getElem? (i := 11) rfl))) (mvT hZ (hw _ (List.mem_of_getElem? (i := 12) rfl))) (by decide) (backOf (W := 0) (rmBlank l Z a0 hw [] a44 3 (oUp (oUp (oUp (fun _ => 0) 0 (nar .byte b1)) 1 (nar .byte b2)) 2 (nar .byte b3)) h50 n0 hz57 V50) hZ (hw _ (List.mem_of_getElem? (i := 12) rfl)) (hw _ (List.mem_of_getElem? (i := 11) rfl)) (by decide) (by decide)) (g := (mkF m 139 #[.val (.int i0), .val (.int i1), .val (.int i2), .val (.int i3), .val (.int i4), .val (.int (3 : Int32)), .val (.int b1), .val (.int b2), .val (.int b3), .val (.int b4), .val (.ref a44), .val (.int (0 : Int32))] [(.ref a44)])) rfl (by rw [hml]; rfl) (argsL := [(.ref a44)]) (rest := []) (lenOf pd_2 rfl) rfl (by show 2 * 0 + _ ≤ _; exact Nat.le_of_eq rfl) (hb hby at_139) (fun _ _ => ⟨rfl, eh56, (by decide : 1 + 0 ≤ _), (by decide : 3 + 0 ≤ _)⟩)
          dsimp only [Pt.U, Pt.locs, Pt.cells, Pt.slots] at X57 l57 y57 z57 st57 hQ57
          subst l57 y57 z57
          obtain ⟨r57, rfl, N57q, eh57, hr⟩ := hQ57
          have N57 := Fr.app N56 N57q
          refine oOn st57 ?_
          show oGl p e below (T57.setTop (mkF m 142 #[.val (.int i0), .val (.int i1), .val (.int i2), .val (.int i3), .val (.int i4), .val (.int (3 : Int32)), .val (.int b1), .val (.int b2), .val (.int b3), .val (.int b4), .val (.ref a44), .val (.int (0 : Int32))] [(.int r57)])) _
          refine siload X57 hx (hb hby at_142) rfl rfl (pc' := 144) ?_
          refine sicN X57 hx (hb hby at_144) rfl (teq ((own_cmp (n := 3) (k := (3 : Int32)) (b1 := b1) (b2 := b2) (b3 := b3) (b4 := b4) rfl (by decide) (fun _ => hp1) (fun _ => hp2) (fun _ => hp3) (fun q => absurd q (by decide)) hr).2 (fun q => q.2.2.1 hc116) : r57 = (0 : Int32))).2 (pc' := 147) ?_
          refine siconst X57 hx (hb hby at_147) rfl rfl (z := 1) (pc' := 148) ?_
          refine sgoto X57 hx (hb hby at_148) (by decide) (by decide)  (pc' := 152) ?_
          refine oRetN (t := .boolean) X57 hx Bd.notSynchronized Bd.returns (by simp) (hb hby at_152) (by decide) (by decide) ?_
          show Q_rmL Z i0 i1 i2 i3 i4 h0 n0 _ T57.heap _
          rw [eh57]
          exact ⟨rfl, N57⟩
        · skip
          refine sifN X56 hx (hb hby at_116) rfl (feq hc116).1 (pc' := 119) ?_
          refine siload X56 hx (hb hby at_119) rfl rfl (pc' := 121) ?_
          refine siconst X56 hx (hb hby at_121) rfl rfl (z := 3) (pc' := 122) ?_
          refine siload X56 hx (hb hby at_122) rfl rfl (pc' := 124) ?_
          have hz58 : n0 ≤ h50.size := by omega
          obtain ⟨_, _, ⟨T58, L58, k58, n58⟩, -, X58, ⟨Lc58, hQ58, l58, y58, z58⟩, st58⟩ := Jvm.LawKit.callS X56 hx (y := (⟨"com/example/yusen_ledger/yusenledger/LineReaderIsBlankPinLaw", "fits", "(BII)Z"⟩ : MethodName)) hown (mvT hZ (hw _ (List.mem_of_getElem? (i := 6) rfl))) (mvT hZ (hw _ (List.mem_of_getElem? (i := 7) rfl))) (mvT hZ (hw _ (List.mem_of_getElem? (i := 3) rfl))) (mvT hZ (hw _ (List.mem_of_getElem? (i := 8) rfl))) (by decide) (backOf (W := 0) (rmFits l Z a0 hw [] b4 (3 : Int32) (3 : Int32) h50 n0 hz58 ) hZ (hw _ (List.mem_of_getElem? (i := 8) rfl)) (hw _ (List.mem_of_getElem? (i := 3) rfl)) (by decide) (by decide)) (g := (mkF m 124 #[.val (.int i0), .val (.int i1), .val (.int i2), .val (.int i3), .val (.int i4), .val (.int (3 : Int32)), .val (.int b1), .val (.int b2), .val (.int b3), .val (.int b4), .val (.ref a44), .unset] [(.int (3 : Int32)), (.int (3 : Int32)), (.int b4)])) rfl (by rw [hml]; rfl) (argsL := [(.int b4), (.int (3 : Int32)), (.int (3 : Int32))]) (rest := []) (lenOf pd_1 rfl) rfl (by show 2 * 0 + _ ≤ _; exact Nat.le_of_eq rfl) (hb hby at_124) (fun _ _ => ⟨rfl, eh56, (by decide : 1 + 0 ≤ _), (by decide : 3 + 0 ≤ _)⟩)
          dsimp only [Pt.U, Pt.locs, Pt.cells, Pt.slots] at X58 l58 y58 z58 st58 hQ58
          subst l58 y58 z58
          obtain ⟨rfl, N58q, eh58⟩ := hQ58
          have N58 := Fr.app N56 N58q
          refine oOn st58 ?_
          show oGl p e below (T58.setTop (mkF m 127 #[.val (.int i0), .val (.int i1), .val (.int i2), .val (.int i3), .val (.int i4), .val (.int (3 : Int32)), .val (.int b1), .val (.int b2), .val (.int b3), .val (.int b4), .val (.ref a44), .unset] [(.int (oFits b4 (3 : Int32) (3 : Int32)))])) _
          by_cases hc127 : (oFits b4 (3 : Int32) (3 : Int32)) = (0 : Int32)
          · skip
            refine sifY X58 hx (hb hby at_127) (by decide) (by decide) (teq hc127).1 (pc' := 134) ?_
            refine siconst X58 hx (hb hby at_134) rfl rfl (z := 0) (pc' := 135) ?_
            refine sistore X58 hx (hb hby at_135) rfl rfl (l' := #[.val (.int i0), .val (.int i1), .val (.int i2), .val (.int i3), .val (.int i4), .val (.int (3 : Int32)), .val (.int b1), .val (.int b2), .val (.int b3), .val (.int b4), .val (.ref a44), .val (.int (0 : Int32))]) (pc' := 137) ?_
            refine saload X58 hx (hb hby at_137) rfl rfl rfl (pc' := 139) ?_
            have hz59 : n0 ≤ h50.size := by omega
            obtain ⟨_, _, ⟨T59, L59, k59, n59⟩, -, X59, ⟨Lc59, hQ59, l59, y59, z59⟩, st59⟩ := Jvm.LawKit.callS X58 hx (y := (⟨"com/example/yusen_ledger/yusenledger/LineReader", "isBlank", "([B)Z"⟩ : MethodName)) hown (mvT hZ (hw _ (List.mem_of_getElem? (i := 9) rfl))) (mvT hZ (hw _ (List.mem_of_getElem? (i := 10) rfl))) (mvT hZ (hw _ (List.mem_of_getElem? (i := 11) rfl))) (mvT hZ (hw _ (List.mem_of_getElem? (i := 12) rfl))) (by decide) (backOf (W := 0) (rmBlank l Z a0 hw [] a44 3 (oUp (oUp (oUp (fun _ => 0) 0 (nar .byte b1)) 1 (nar .byte b2)) 2 (nar .byte b3)) h50 n0 hz59 V50) hZ (hw _ (List.mem_of_getElem? (i := 12) rfl)) (hw _ (List.mem_of_getElem? (i := 11) rfl)) (by decide) (by decide)) (g := (mkF m 139 #[.val (.int i0), .val (.int i1), .val (.int i2), .val (.int i3), .val (.int i4), .val (.int (3 : Int32)), .val (.int b1), .val (.int b2), .val (.int b3), .val (.int b4), .val (.ref a44), .val (.int (0 : Int32))] [(.ref a44)])) rfl (by rw [hml]; rfl) (argsL := [(.ref a44)]) (rest := []) (lenOf pd_2 rfl) rfl (by show 2 * 0 + _ ≤ _; exact Nat.le_of_eq rfl) (hb hby at_139) (fun _ _ => ⟨rfl, eh58, (by decide : 1 + 0 ≤ _), (by decide : 3 + 0 ≤ _)⟩)
            dsimp only [Pt.U, Pt.locs, Pt.cells, Pt.slots] at X59 l59 y59 z59 st59 hQ59
            subst l59 y59 z59
            obtain ⟨r59, rfl, N59q, eh59, hr⟩ := hQ59
            have N59 := Fr.app N58 N59q
            refine oOn st59 ?_
            show oGl p e below (T59.setTop (mkF m 142 #[.val (.int i0), .val (.int i1), .val (.int i2), .val (.int i3), .val (.int i4), .val (.int (3 : Int32)), .val (.int b1), .val (.int b2), .val (.int b3), .val (.int b4), .val (.ref a44), .val (.int (0 : Int32))] [(.int r59)])) _
            refine siload X59 hx (hb hby at_142) rfl rfl (pc' := 144) ?_
            refine sicN X59 hx (hb hby at_144) rfl (teq ((own_cmp (n := 3) (k := (3 : Int32)) (b1 := b1) (b2 := b2) (b3 := b3) (b4 := b4) rfl (by decide) (fun _ => hp1) (fun _ => hp2) (fun _ => hp3) (fun q => absurd q (by decide)) hr).2 (fun q => q.2.2.2 hc127) : r59 = (0 : Int32))).2 (pc' := 147) ?_
            refine siconst X59 hx (hb hby at_147) rfl rfl (z := 1) (pc' := 148) ?_
            refine sgoto X59 hx (hb hby at_148) (by decide) (by decide)  (pc' := 152) ?_
            refine oRetN (t := .boolean) X59 hx Bd.notSynchronized Bd.returns (by simp) (hb hby at_152) (by decide) (by decide) ?_
            show Q_rmL Z i0 i1 i2 i3 i4 h0 n0 _ T59.heap _
            rw [eh59]
            exact ⟨rfl, N59⟩
          · skip
            refine sifN X58 hx (hb hby at_127) rfl (feq hc127).1 (pc' := 130) ?_
            refine siconst X58 hx (hb hby at_130) rfl rfl (z := 1) (pc' := 131) ?_
            refine sgoto X58 hx (hb hby at_131) (by decide) (by decide)  (pc' := 135) ?_
            refine sistore X58 hx (hb hby at_135) rfl rfl (l' := #[.val (.int i0), .val (.int i1), .val (.int i2), .val (.int i3), .val (.int i4), .val (.int (3 : Int32)), .val (.int b1), .val (.int b2), .val (.int b3), .val (.int b4), .val (.ref a44), .val (.int (1 : Int32))]) (pc' := 137) ?_
            refine saload X58 hx (hb hby at_137) rfl rfl rfl (pc' := 139) ?_
            have hz60 : n0 ≤ h50.size := by omega
            obtain ⟨_, _, ⟨T60, L60, k60, n60⟩, -, X60, ⟨Lc60, hQ60, l60, y60, z60⟩, st60⟩ := Jvm.LawKit.callS X58 hx (y := (⟨"com/example/yusen_ledger/yusenledger/LineReader", "isBlank", "([B)Z"⟩ : MethodName)) hown (mvT hZ (hw _ (List.mem_of_getElem? (i := 9) rfl))) (mvT hZ (hw _ (List.mem_of_getElem? (i := 10) rfl))) (mvT hZ (hw _ (List.mem_of_getElem? (i := 11) rfl))) (mvT hZ (hw _ (List.mem_of_getElem? (i := 12) rfl))) (by decide) (backOf (W := 0) (rmBlank l Z a0 hw [] a44 3 (oUp (oUp (oUp (fun _ => 0) 0 (nar .byte b1)) 1 (nar .byte b2)) 2 (nar .byte b3)) h50 n0 hz60 V50) hZ (hw _ (List.mem_of_getElem? (i := 12) rfl)) (hw _ (List.mem_of_getElem? (i := 11) rfl)) (by decide) (by decide)) (g := (mkF m 139 #[.val (.int i0), .val (.int i1), .val (.int i2), .val (.int i3), .val (.int i4), .val (.int (3 : Int32)), .val (.int b1), .val (.int b2), .val (.int b3), .val (.int b4), .val (.ref a44), .val (.int (1 : Int32))] [(.ref a44)])) rfl (by rw [hml]; rfl) (argsL := [(.ref a44)]) (rest := []) (lenOf pd_2 rfl) rfl (by show 2 * 0 + _ ≤ _; exact Nat.le_of_eq rfl) (hb hby at_139) (fun _ _ => ⟨rfl, eh58, (by decide : 1 + 0 ≤ _), (by decide : 3 + 0 ≤ _)⟩)
            dsimp only [Pt.U, Pt.locs, Pt.cells, Pt.slots] at X60 l60 y60 z60 st60 hQ60
            subst l60 y60 z60
            obtain ⟨r60, rfl, N60q, eh60, hr⟩ := hQ60
            have N60 := Fr.app N58 N60q
            refine oOn st60 ?_
            show oGl p e below (T60.setTop (mkF m 142 #[.val (.int i0), .val (.int i1), .val (.int i2), .val (.int i3), .val (.int i4), .val (.int (3 : Int32)), .val (.int b1), .val (.int b2), .val (.int b3), .val (.int b4), .val (.ref a44), .val (.int (1 : Int32))] [(.int r60)])) _
            refine siload X60 hx (hb hby at_142) rfl rfl (pc' := 144) ?_
            refine sicN X60 hx (hb hby at_144) rfl (teq ((own_cmp (n := 3) (k := (3 : Int32)) (b1 := b1) (b2 := b2) (b3 := b3) (b4 := b4) rfl (by decide) (fun _ => hp1) (fun _ => hp2) (fun _ => hp3) (fun q => absurd q (by decide)) hr).1 ⟨hc94, hc105, hc116, hc127⟩ : r60 = (1 : Int32))).2 (pc' := 147) ?_
            refine siconst X60 hx (hb hby at_147) rfl rfl (z := 1) (pc' := 148) ?_
            refine sgoto X60 hx (hb hby at_148) (by decide) (by decide)  (pc' := 152) ?_
            refine oRetN (t := .boolean) X60 hx Bd.notSynchronized Bd.returns (by simp) (hb hby at_152) (by decide) (by decide) ?_
            show Q_rmL Z i0 i1 i2 i3 i4 h0 n0 _ T60.heap _
            rw [eh60]
            exact ⟨rfl, N60⟩
  · skip
    show oGl p e below (T4.setTop (mkF m 33 #[.val (.int i0), .val (.int i1), .val (.int i2), .val (.int i3), .val (.int i4), .val (.int (4 : Int32)), .val (.int b1), .val (.int b2), .val (.int b3), .val (.int b4), .unset, .unset] [])) _
    refine siload X4 hx (hb hby at_33) rfl rfl (pc' := 35) ?_
    obtain ⟨T61, h61, k61, X61, e61, E61, A61, st61⟩ := newP X4 hx hZ (hw _ (List.mem_of_getElem? (i := 5) rfl)) eh4 (g := (mkF m 35 #[.val (.int i0), .val (.int i1), .val (.int i2), .val (.int i3), .val (.int i4), .val (.int (4 : Int32)), .val (.int b1), .val (.int b2), .val (.int b3), .val (.int b4), .unset, .unset] [(.int (4 : Int32))])) rfl (hb hby at_35) rfl (by decide) (cap := 4) (by decide) (by decide) (by decide) (by decide)
    obtain ⟨a61, g61⟩ : ∃ z, z = h0.size := ⟨_, rfl⟩
    rw [← g61] at A61 st61
    refine oOn st61 ?_
    have z62 : h0.size ≤ h61.size := E61.1
    have lt61 : a61 < h61.size := A61.lt
    have V61 : oAI Z h61 a61 .byte 4 (fun _ => 0) := oAI.new A61 rfl
    show oGl p e below (T61.setTop (mkF m 37 #[.val (.int i0), .val (.int i1), .val (.int i2), .val (.int i3), .val (.int i4), .val (.int (4 : Int32)), .val (.int b1), .val (.int b2), .val (.int b3), .val (.int b4), .unset, .unset] [(.ref a61)])) _
    refine sastore X61 hx (hb hby at_37) rfl rfl rfl (l' := #[.val (.int i0), .val (.int i1), .val (.int i2), .val (.int i3), .val (.int i4), .val (.int (4 : Int32)), .val (.int b1), .val (.int b2), .val (.int b3), .val (.int b4), .val (.ref a61), .unset]) (pc' := 39) ?_
    refine siload X61 hx (hb hby at_39) rfl rfl (pc' := 41) ?_
    refine sifN X61 hx (hb hby at_41) rfl (tlt (by decide : (0 : Int32) < (4 : Int32))).2.2.2 (pc' := 44) ?_
    refine saload X61 hx (hb hby at_44) rfl rfl rfl (pc' := 46) ?_
    refine siconst X61 hx (hb hby at_46) rfl rfl (z := 0) (pc' := 47) ?_
    refine siload X61 hx (hb hby at_47) rfl rfl (pc' := 49) ?_
    obtain ⟨T63, h63, X63, e63, W63, V63, st63⟩ := V61.stB X61 hx hZ e61 (j := (0 : Int32)) (by decide) (g := (mkF m 49 #[.val (.int i0), .val (.int i1), .val (.int i2), .val (.int i3), .val (.int i4), .val (.int (4 : Int32)), .val (.int b1), .val (.int b2), .val (.int b3), .val (.int b4), .val (.ref a61), .unset] [(.int b1), (.int (0 : Int32)), (.ref a61)])) rfl rfl (hb hby at_49)
    refine oOn st63 ?_
    have z64 : h61.size ≤ h63.size := Nat.le_of_eq W63.size.symm
    have N63 := Fr.snoc X63 N4 (by omega)
    show oGl p e below (T63.setTop (mkF m 50 #[.val (.int i0), .val (.int i1), .val (.int i2), .val (.int i3), .val (.int i4), .val (.int (4 : Int32)), .val (.int b1), .val (.int b2), .val (.int b3), .val (.int b4), .val (.ref a61), .unset] [])) _
    refine siload X63 hx (hb hby at_50) rfl rfl (pc' := 52) ?_
    refine siconst X63 hx (hb hby at_52) rfl rfl (z := 1) (pc' := 53) ?_
    refine sicN X63 hx (hb hby at_53) rfl (tlt (by decide : (1 : Int32) < (4 : Int32))).2.2.2 (pc' := 56) ?_
    refine saload X63 hx (hb hby at_56) rfl rfl rfl (pc' := 58) ?_
    refine siconst X63 hx (hb hby at_58) rfl rfl (z := 1) (pc' := 59) ?_
    refine siload X63 hx (hb hby at_59) rfl rfl (pc' := 61) ?_
    obtain ⟨T65, h65, X65, e65, W65, V65, st65⟩ := V63.stB X63 hx hZ e63 (j := (1 : Int32)) (by decide) (g := (mkF m 61 #[.val (.int i0), .val (.int i1), .val (.int i2), .val (.int i3), .val (.int i4), .val (.int (4 : Int32)), .val (.int b1), .val (.int b2), .val (.int b3), .val (.int b4), .val (.ref a61), .unset] [(.int b2), (.int (1 : Int32)), (.ref a61)])) rfl rfl (hb hby at_61)
    refine oOn st65 ?_
    have z66 : h63.size ≤ h65.size := Nat.le_of_eq W65.size.symm
    have N65 := Fr.snoc X65 N63 (by omega)
    show oGl p e below (T65.setTop (mkF m 62 #[.val (.int i0), .val (.int i1), .val (.int i2), .val (.int i3), .val (.int i4), .val (.int (4 : Int32)), .val (.int b1), .val (.int b2), .val (.int b3), .val (.int b4), .val (.ref a61), .unset] [])) _
    refine siload X65 hx (hb hby at_62) rfl rfl (pc' := 64) ?_
    refine siconst X65 hx (hb hby at_64) rfl rfl (z := 2) (pc' := 65) ?_
    refine sicN X65 hx (hb hby at_65) rfl (tlt (by decide : (2 : Int32) < (4 : Int32))).2.2.2 (pc' := 68) ?_
    refine saload X65 hx (hb hby at_68) rfl rfl rfl (pc' := 70) ?_
    refine siconst X65 hx (hb hby at_70) rfl rfl (z := 2) (pc' := 71) ?_
    refine siload X65 hx (hb hby at_71) rfl rfl (pc' := 73) ?_
    obtain ⟨T67, h67, X67, e67, W67, V67, st67⟩ := V65.stB X65 hx hZ e65 (j := (2 : Int32)) (by decide) (g := (mkF m 73 #[.val (.int i0), .val (.int i1), .val (.int i2), .val (.int i3), .val (.int i4), .val (.int (4 : Int32)), .val (.int b1), .val (.int b2), .val (.int b3), .val (.int b4), .val (.ref a61), .unset] [(.int b3), (.int (2 : Int32)), (.ref a61)])) rfl rfl (hb hby at_73)
    refine oOn st67 ?_
    have z68 : h65.size ≤ h67.size := Nat.le_of_eq W67.size.symm
    have N67 := Fr.snoc X67 N65 (by omega)
    show oGl p e below (T67.setTop (mkF m 74 #[.val (.int i0), .val (.int i1), .val (.int i2), .val (.int i3), .val (.int i4), .val (.int (4 : Int32)), .val (.int b1), .val (.int b2), .val (.int b3), .val (.int b4), .val (.ref a61), .unset] [])) _
    refine siload X67 hx (hb hby at_74) rfl rfl (pc' := 76) ?_
    refine siconst X67 hx (hb hby at_76) rfl rfl (z := 3) (pc' := 77) ?_
    refine sicN X67 hx (hb hby at_77) rfl (tlt (by decide : (3 : Int32) < (4 : Int32))).2.2.2 (pc' := 80) ?_
    refine saload X67 hx (hb hby at_80) rfl rfl rfl (pc' := 82) ?_
    refine siconst X67 hx (hb hby at_82) rfl rfl (z := 3) (pc' := 83) ?_
    refine siload X67 hx (hb hby at_83) rfl rfl (pc' := 85) ?_
    obtain ⟨T69, h69, X69, e69, W69, V69, st69⟩ := V67.stB X67 hx hZ e67 (j := (3 : Int32)) (by decide) (g := (mkF m 85 #[.val (.int i0), .val (.int i1), .val (.int i2), .val (.int i3), .val (.int i4), .val (.int (4 : Int32)), .val (.int b1), .val (.int b2), .val (.int b3), .val (.int b4), .val (.ref a61), .unset] [(.int b4), (.int (3 : Int32)), (.ref a61)])) rfl rfl (hb hby at_85)
    refine oOn st69 ?_
    have z70 : h67.size ≤ h69.size := Nat.le_of_eq W69.size.symm
    have N69 := Fr.snoc X69 N67 (by omega)
    show oGl p e below (T69.setTop (mkF m 86 #[.val (.int i0), .val (.int i1), .val (.int i2), .val (.int i3), .val (.int i4), .val (.int (4 : Int32)), .val (.int b1), .val (.int b2), .val (.int b3), .val (.int b4), .val (.ref a61), .unset] [])) _
    refine siload X69 hx (hb hby at_86) rfl rfl (pc' := 88) ?_
    refine siconst X69 hx (hb hby at_88) rfl rfl (z := 0) (pc' := 89) ?_
    refine siload X69 hx (hb hby at_89) rfl rfl (pc' := 91) ?_
    have hz71 : n0 ≤ h69.size := by omega
    obtain ⟨_, _, ⟨T71, L71, k71, n71⟩, -, X71, ⟨Lc71, hQ71, l71, y71, z71⟩, st71⟩ := Jvm.LawKit.callS X69 hx (y := (⟨"com/example/yusen_ledger/yusenledger/LineReaderIsBlankPinLaw", "fits", "(BII)Z"⟩ : MethodName)) hown (mvT hZ (hw _ (List.mem_of_getElem? (i := 6) rfl))) (mvT hZ (hw _ (List.mem_of_getElem? (i := 7) rfl))) (mvT hZ (hw _ (List.mem_of_getElem? (i := 3) rfl))) (mvT hZ (hw _ (List.mem_of_getElem? (i := 8) rfl))) (by decide) (backOf (W := 0) (rmFits l Z a0 hw [] b1 (0 : Int32) (4 : Int32) h69 n0 hz71 ) hZ (hw _ (List.mem_of_getElem? (i := 8) rfl)) (hw _ (List.mem_of_getElem? (i := 3) rfl)) (by decide) (by decide)) (g := (mkF m 91 #[.val (.int i0), .val (.int i1), .val (.int i2), .val (.int i3), .val (.int i4), .val (.int (4 : Int32)), .val (.int b1), .val (.int b2), .val (.int b3), .val (.int b4), .val (.ref a61), .unset] [(.int (4 : Int32)), (.int (0 : Int32)), (.int b1)])) rfl (by rw [hml]; rfl) (argsL := [(.int b1), (.int (0 : Int32)), (.int (4 : Int32))]) (rest := []) (lenOf pd_1 rfl) rfl (by show 2 * 0 + _ ≤ _; exact Nat.le_of_eq rfl) (hb hby at_91) (fun _ _ => ⟨rfl, e69, (by decide : 1 + 0 ≤ _), (by decide : 4 + 0 ≤ _)⟩)
    dsimp only [Pt.U, Pt.locs, Pt.cells, Pt.slots] at X71 l71 y71 z71 st71 hQ71
    subst l71 y71 z71
    obtain ⟨rfl, N71q, eh71⟩ := hQ71
    have N71 := Fr.app N69 N71q
    refine oOn st71 ?_
    show oGl p e below (T71.setTop (mkF m 94 #[.val (.int i0), .val (.int i1), .val (.int i2), .val (.int i3), .val (.int i4), .val (.int (4 : Int32)), .val (.int b1), .val (.int b2), .val (.int b3), .val (.int b4), .val (.ref a61), .unset] [(.int (oFits b1 (0 : Int32) (4 : Int32)))])) _
    by_cases hc94 : (oFits b1 (0 : Int32) (4 : Int32)) = (0 : Int32)
    · skip
      refine sifY X71 hx (hb hby at_94) (by decide) (by decide) (teq hc94).1 (pc' := 134) ?_
      refine siconst X71 hx (hb hby at_134) rfl rfl (z := 0) (pc' := 135) ?_
      refine sistore X71 hx (hb hby at_135) rfl rfl (l' := #[.val (.int i0), .val (.int i1), .val (.int i2), .val (.int i3), .val (.int i4), .val (.int (4 : Int32)), .val (.int b1), .val (.int b2), .val (.int b3), .val (.int b4), .val (.ref a61), .val (.int (0 : Int32))]) (pc' := 137) ?_
      refine saload X71 hx (hb hby at_137) rfl rfl rfl (pc' := 139) ?_
      have hz72 : n0 ≤ h69.size := by omega
      obtain ⟨_, _, ⟨T72, L72, k72, n72⟩, -, X72, ⟨Lc72, hQ72, l72, y72, z72⟩, st72⟩ := Jvm.LawKit.callS X71 hx (y := (⟨"com/example/yusen_ledger/yusenledger/LineReader", "isBlank", "([B)Z"⟩ : MethodName)) hown (mvT hZ (hw _ (List.mem_of_getElem? (i := 9) rfl))) (mvT hZ (hw _ (List.mem_of_getElem? (i := 10) rfl))) (mvT hZ (hw _ (List.mem_of_getElem? (i := 11) rfl))) (mvT hZ (hw _ (List.mem_of_getElem? (i := 12) rfl))) (by decide) (backOf (W := 0) (rmBlank l Z a0 hw [] a61 4 (oUp (oUp (oUp (oUp (fun _ => 0) 0 (nar .byte b1)) 1 (nar .byte b2)) 2 (nar .byte b3)) 3 (nar .byte b4)) h69 n0 hz72 V69) hZ (hw _ (List.mem_of_getElem? (i := 12) rfl)) (hw _ (List.mem_of_getElem? (i := 11) rfl)) (by decide) (by decide)) (g := (mkF m 139 #[.val (.int i0), .val (.int i1), .val (.int i2), .val (.int i3), .val (.int i4), .val (.int (4 : Int32)), .val (.int b1), .val (.int b2), .val (.int b3), .val (.int b4), .val (.ref a61), .val (.int (0 : Int32))] [(.ref a61)])) rfl (by rw [hml]; rfl) (argsL := [(.ref a61)]) (rest := []) (lenOf pd_2 rfl) rfl (by show 2 * 0 + _ ≤ _; exact Nat.le_of_eq rfl) (hb hby at_139) (fun _ _ => ⟨rfl, eh71, (by decide : 1 + 0 ≤ _), (by decide : 4 + 0 ≤ _)⟩)
      dsimp only [Pt.U, Pt.locs, Pt.cells, Pt.slots] at X72 l72 y72 z72 st72 hQ72
      subst l72 y72 z72
      obtain ⟨r72, rfl, N72q, eh72, hr⟩ := hQ72
      have N72 := Fr.app N71 N72q
      refine oOn st72 ?_
      show oGl p e below (T72.setTop (mkF m 142 #[.val (.int i0), .val (.int i1), .val (.int i2), .val (.int i3), .val (.int i4), .val (.int (4 : Int32)), .val (.int b1), .val (.int b2), .val (.int b3), .val (.int b4), .val (.ref a61), .val (.int (0 : Int32))] [(.int r72)])) _
      refine siload X72 hx (hb hby at_142) rfl rfl (pc' := 144) ?_
      refine sicN X72 hx (hb hby at_144) rfl (teq ((own_cmp (n := 4) (k := (4 : Int32)) (b1 := b1) (b2 := b2) (b3 := b3) (b4 := b4) rfl (by decide) (fun _ => hp1) (fun _ => hp2) (fun _ => hp3) (fun _ => hp4) hr).2 (fun q => q.1 hc94) : r72 = (0 : Int32))).2 (pc' := 147) ?_
      refine siconst X72 hx (hb hby at_147) rfl rfl (z := 1) (pc' := 148) ?_
      refine sgoto X72 hx (hb hby at_148) (by decide) (by decide)  (pc' := 152) ?_
      refine oRetN (t := .boolean) X72 hx Bd.notSynchronized Bd.returns (by simp) (hb hby at_152) (by decide) (by decide) ?_
      show Q_rmL Z i0 i1 i2 i3 i4 h0 n0 _ T72.heap _
      rw [eh72]
      exact ⟨rfl, N72⟩
    · skip
      refine sifN X71 hx (hb hby at_94) rfl (feq hc94).1 (pc' := 97) ?_
      refine siload X71 hx (hb hby at_97) rfl rfl (pc' := 99) ?_
      refine siconst X71 hx (hb hby at_99) rfl rfl (z := 1) (pc' := 100) ?_
      refine siload X71 hx (hb hby at_100) rfl rfl (pc' := 102) ?_
      have hz73 : n0 ≤ h69.size := by omega
      obtain ⟨_, _, ⟨T73, L73, k73, n73⟩, -, X73, ⟨Lc73, hQ73, l73, y73, z73⟩, st73⟩ := Jvm.LawKit.callS X71 hx (y := (⟨"com/example/yusen_ledger/yusenledger/LineReaderIsBlankPinLaw", "fits", "(BII)Z"⟩ : MethodName)) hown (mvT hZ (hw _ (List.mem_of_getElem? (i := 6) rfl))) (mvT hZ (hw _ (List.mem_of_getElem? (i := 7) rfl))) (mvT hZ (hw _ (List.mem_of_getElem? (i := 3) rfl))) (mvT hZ (hw _ (List.mem_of_getElem? (i := 8) rfl))) (by decide) (backOf (W := 0) (rmFits l Z a0 hw [] b2 (1 : Int32) (4 : Int32) h69 n0 hz73 ) hZ (hw _ (List.mem_of_getElem? (i := 8) rfl)) (hw _ (List.mem_of_getElem? (i := 3) rfl)) (by decide) (by decide)) (g := (mkF m 102 #[.val (.int i0), .val (.int i1), .val (.int i2), .val (.int i3), .val (.int i4), .val (.int (4 : Int32)), .val (.int b1), .val (.int b2), .val (.int b3), .val (.int b4), .val (.ref a61), .unset] [(.int (4 : Int32)), (.int (1 : Int32)), (.int b2)])) rfl (by rw [hml]; rfl) (argsL := [(.int b2), (.int (1 : Int32)), (.int (4 : Int32))]) (rest := []) (lenOf pd_1 rfl) rfl (by show 2 * 0 + _ ≤ _; exact Nat.le_of_eq rfl) (hb hby at_102) (fun _ _ => ⟨rfl, eh71, (by decide : 1 + 0 ≤ _), (by decide : 4 + 0 ≤ _)⟩)
      dsimp only [Pt.U, Pt.locs, Pt.cells, Pt.slots] at X73 l73 y73 z73 st73 hQ73
      subst l73 y73 z73
      obtain ⟨rfl, N73q, eh73⟩ := hQ73
      have N73 := Fr.app N71 N73q
      refine oOn st73 ?_
      show oGl p e below (T73.setTop (mkF m 105 #[.val (.int i0), .val (.int i1), .val (.int i2), .val (.int i3), .val (.int i4), .val (.int (4 : Int32)), .val (.int b1), .val (.int b2), .val (.int b3), .val (.int b4), .val (.ref a61), .unset] [(.int (oFits b2 (1 : Int32) (4 : Int32)))])) _
      by_cases hc105 : (oFits b2 (1 : Int32) (4 : Int32)) = (0 : Int32)
      · skip
        refine sifY X73 hx (hb hby at_105) (by decide) (by decide) (teq hc105).1 (pc' := 134) ?_
        refine siconst X73 hx (hb hby at_134) rfl rfl (z := 0) (pc' := 135) ?_
        refine sistore X73 hx (hb hby at_135) rfl rfl (l' := #[.val (.int i0), .val (.int i1), .val (.int i2), .val (.int i3), .val (.int i4), .val (.int (4 : Int32)), .val (.int b1), .val (.int b2), .val (.int b3), .val (.int b4), .val (.ref a61), .val (.int (0 : Int32))]) (pc' := 137) ?_
        refine saload X73 hx (hb hby at_137) rfl rfl rfl (pc' := 139) ?_
        have hz74 : n0 ≤ h69.size := by omega
        obtain ⟨_, _, ⟨T74, L74, k74, n74⟩, -, X74, ⟨Lc74, hQ74, l74, y74, z74⟩, st74⟩ := Jvm.LawKit.callS X73 hx (y := (⟨"com/example/yusen_ledger/yusenledger/LineReader", "isBlank", "([B)Z"⟩ : MethodName)) hown (mvT hZ (hw _ (List.mem_of_getElem? (i := 9) rfl))) (mvT hZ (hw _ (List.mem_of_getElem? (i := 10) rfl))) (mvT hZ (hw _ (List.mem_of_getElem? (i := 11) rfl))) (mvT hZ (hw _ (List.mem_of_getElem? (i := 12) rfl))) (by decide) (backOf (W := 0) (rmBlank l Z a0 hw [] a61 4 (oUp (oUp (oUp (oUp (fun _ => 0) 0 (nar .byte b1)) 1 (nar .byte b2)) 2 (nar .byte b3)) 3 (nar .byte b4)) h69 n0 hz74 V69) hZ (hw _ (List.mem_of_getElem? (i := 12) rfl)) (hw _ (List.mem_of_getElem? (i := 11) rfl)) (by decide) (by decide)) (g := (mkF m 139 #[.val (.int i0), .val (.int i1), .val (.int i2), .val (.int i3), .val (.int i4), .val (.int (4 : Int32)), .val (.int b1), .val (.int b2), .val (.int b3), .val (.int b4), .val (.ref a61), .val (.int (0 : Int32))] [(.ref a61)])) rfl (by rw [hml]; rfl) (argsL := [(.ref a61)]) (rest := []) (lenOf pd_2 rfl) rfl (by show 2 * 0 + _ ≤ _; exact Nat.le_of_eq rfl) (hb hby at_139) (fun _ _ => ⟨rfl, eh73, (by decide : 1 + 0 ≤ _), (by decide : 4 + 0 ≤ _)⟩)
        dsimp only [Pt.U, Pt.locs, Pt.cells, Pt.slots] at X74 l74 y74 z74 st74 hQ74
        subst l74 y74 z74
        obtain ⟨r74, rfl, N74q, eh74, hr⟩ := hQ74
        have N74 := Fr.app N73 N74q
        refine oOn st74 ?_
        show oGl p e below (T74.setTop (mkF m 142 #[.val (.int i0), .val (.int i1), .val (.int i2), .val (.int i3), .val (.int i4), .val (.int (4 : Int32)), .val (.int b1), .val (.int b2), .val (.int b3), .val (.int b4), .val (.ref a61), .val (.int (0 : Int32))] [(.int r74)])) _
        refine siload X74 hx (hb hby at_142) rfl rfl (pc' := 144) ?_
        refine sicN X74 hx (hb hby at_144) rfl (teq ((own_cmp (n := 4) (k := (4 : Int32)) (b1 := b1) (b2 := b2) (b3 := b3) (b4 := b4) rfl (by decide) (fun _ => hp1) (fun _ => hp2) (fun _ => hp3) (fun _ => hp4) hr).2 (fun q => q.2.1 hc105) : r74 = (0 : Int32))).2 (pc' := 147) ?_
        refine siconst X74 hx (hb hby at_147) rfl rfl (z := 1) (pc' := 148) ?_
        refine sgoto X74 hx (hb hby at_148) (by decide) (by decide)  (pc' := 152) ?_
        refine oRetN (t := .boolean) X74 hx Bd.notSynchronized Bd.returns (by simp) (hb hby at_152) (by decide) (by decide) ?_
        show Q_rmL Z i0 i1 i2 i3 i4 h0 n0 _ T74.heap _
        rw [eh74]
        exact ⟨rfl, N74⟩
      · skip
        refine sifN X73 hx (hb hby at_105) rfl (feq hc105).1 (pc' := 108) ?_
        refine siload X73 hx (hb hby at_108) rfl rfl (pc' := 110) ?_
        refine siconst X73 hx (hb hby at_110) rfl rfl (z := 2) (pc' := 111) ?_
        refine siload X73 hx (hb hby at_111) rfl rfl (pc' := 113) ?_
        have hz75 : n0 ≤ h69.size := by omega
        obtain ⟨_, _, ⟨T75, L75, k75, n75⟩, -, X75, ⟨Lc75, hQ75, l75, y75, z75⟩, st75⟩ := Jvm.LawKit.callS X73 hx (y := (⟨"com/example/yusen_ledger/yusenledger/LineReaderIsBlankPinLaw", "fits", "(BII)Z"⟩ : MethodName)) hown (mvT hZ (hw _ (List.mem_of_getElem? (i := 6) rfl))) (mvT hZ (hw _ (List.mem_of_getElem? (i := 7) rfl))) (mvT hZ (hw _ (List.mem_of_getElem? (i := 3) rfl))) (mvT hZ (hw _ (List.mem_of_getElem? (i := 8) rfl))) (by decide) (backOf (W := 0) (rmFits l Z a0 hw [] b3 (2 : Int32) (4 : Int32) h69 n0 hz75 ) hZ (hw _ (List.mem_of_getElem? (i := 8) rfl)) (hw _ (List.mem_of_getElem? (i := 3) rfl)) (by decide) (by decide)) (g := (mkF m 113 #[.val (.int i0), .val (.int i1), .val (.int i2), .val (.int i3), .val (.int i4), .val (.int (4 : Int32)), .val (.int b1), .val (.int b2), .val (.int b3), .val (.int b4), .val (.ref a61), .unset] [(.int (4 : Int32)), (.int (2 : Int32)), (.int b3)])) rfl (by rw [hml]; rfl) (argsL := [(.int b3), (.int (2 : Int32)), (.int (4 : Int32))]) (rest := []) (lenOf pd_1 rfl) rfl (by show 2 * 0 + _ ≤ _; exact Nat.le_of_eq rfl) (hb hby at_113) (fun _ _ => ⟨rfl, eh73, (by decide : 1 + 0 ≤ _), (by decide : 4 + 0 ≤ _)⟩)
        dsimp only [Pt.U, Pt.locs, Pt.cells, Pt.slots] at X75 l75 y75 z75 st75 hQ75
        subst l75 y75 z75
        obtain ⟨rfl, N75q, eh75⟩ := hQ75
        have N75 := Fr.app N73 N75q
        refine oOn st75 ?_
        show oGl p e below (T75.setTop (mkF m 116 #[.val (.int i0), .val (.int i1), .val (.int i2), .val (.int i3), .val (.int i4), .val (.int (4 : Int32)), .val (.int b1), .val (.int b2), .val (.int b3), .val (.int b4), .val (.ref a61), .unset] [(.int (oFits b3 (2 : Int32) (4 : Int32)))])) _
        by_cases hc116 : (oFits b3 (2 : Int32) (4 : Int32)) = (0 : Int32)
        · skip
          refine sifY X75 hx (hb hby at_116) (by decide) (by decide) (teq hc116).1 (pc' := 134) ?_
          refine siconst X75 hx (hb hby at_134) rfl rfl (z := 0) (pc' := 135) ?_
          refine sistore X75 hx (hb hby at_135) rfl rfl (l' := #[.val (.int i0), .val (.int i1), .val (.int i2), .val (.int i3), .val (.int i4), .val (.int (4 : Int32)), .val (.int b1), .val (.int b2), .val (.int b3), .val (.int b4), .val (.ref a61), .val (.int (0 : Int32))]) (pc' := 137) ?_
          refine saload X75 hx (hb hby at_137) rfl rfl rfl (pc' := 139) ?_
          have hz76 : n0 ≤ h69.size := by omega
          obtain ⟨_, _, ⟨T76, L76, k76, n76⟩, -, X76, ⟨Lc76, hQ76, l76, y76, z76⟩, st76⟩ := Jvm.LawKit.callS X75 hx (y := (⟨"com/example/yusen_ledger/yusenledger/LineReader", "isBlank", "([B)Z"⟩ : MethodName)) hown (mvT hZ (hw _ (List.mem_of_getElem? (i := 9) rfl))) (mvT hZ (hw _ (List.mem_of_getElem? (i := 10) rfl))) (mvT hZ (hw _ (List.mem_of_getElem? (i := 11) rfl))) (mvT hZ (hw _ (List.mem_of_getElem? (i := 12) rfl))) (by decide) (backOf (W := 0) (rmBlank l Z a0 hw [] a61 4 (oUp (oUp (oUp (oUp (fun _ => 0) 0 (nar .byte b1)) 1 (nar .byte b2)) 2 (nar .byte b3)) 3 (nar .byte b4)) h69 n0 hz76 V69) hZ (hw _ (List.mem_of_getElem? (i := 12) rfl)) (hw _ (List.mem_of_getElem? (i := 11) rfl)) (by decide) (by decide)) (g := (mkF m 139 #[.val (.int i0), .val (.int i1), .val (.int i2), .val (.int i3), .val (.int i4), .val (.int (4 : Int32)), .val (.int b1), .val (.int b2), .val (.int b3), .val (.int b4), .val (.ref a61), .val (.int (0 : Int32))] [(.ref a61)])) rfl (by rw [hml]; rfl) (argsL := [(.ref a61)]) (rest := []) (lenOf pd_2 rfl) rfl (by show 2 * 0 + _ ≤ _; exact Nat.le_of_eq rfl) (hb hby at_139) (fun _ _ => ⟨rfl, eh75, (by decide : 1 + 0 ≤ _), (by decide : 4 + 0 ≤ _)⟩)
          dsimp only [Pt.U, Pt.locs, Pt.cells, Pt.slots] at X76 l76 y76 z76 st76 hQ76
          subst l76 y76 z76
          obtain ⟨r76, rfl, N76q, eh76, hr⟩ := hQ76
          have N76 := Fr.app N75 N76q
          refine oOn st76 ?_
          show oGl p e below (T76.setTop (mkF m 142 #[.val (.int i0), .val (.int i1), .val (.int i2), .val (.int i3), .val (.int i4), .val (.int (4 : Int32)), .val (.int b1), .val (.int b2), .val (.int b3), .val (.int b4), .val (.ref a61), .val (.int (0 : Int32))] [(.int r76)])) _
          refine siload X76 hx (hb hby at_142) rfl rfl (pc' := 144) ?_
          refine sicN X76 hx (hb hby at_144) rfl (teq ((own_cmp (n := 4) (k := (4 : Int32)) (b1 := b1) (b2 := b2) (b3 := b3) (b4 := b4) rfl (by decide) (fun _ => hp1) (fun _ => hp2) (fun _ => hp3) (fun _ => hp4) hr).2 (fun q => q.2.2.1 hc116) : r76 = (0 : Int32))).2 (pc' := 147) ?_
          refine siconst X76 hx (hb hby at_147) rfl rfl (z := 1) (pc' := 148) ?_
          refine sgoto X76 hx (hb hby at_148) (by decide) (by decide)  (pc' := 152) ?_
          refine oRetN (t := .boolean) X76 hx Bd.notSynchronized Bd.returns (by simp) (hb hby at_152) (by decide) (by decide) ?_
          show Q_rmL Z i0 i1 i2 i3 i4 h0 n0 _ T76.heap _
          rw [eh76]
          exact ⟨rfl, N76⟩
        · skip
          refine sifN X75 hx (hb hby at_116) rfl (feq hc116).1 (pc' := 119) ?_
          refine siload X75 hx (hb hby at_119) rfl rfl (pc' := 121) ?_
          refine siconst X75 hx (hb hby at_121) rfl rfl (z := 3) (pc' := 122) ?_
          refine siload X75 hx (hb hby at_122) rfl rfl (pc' := 124) ?_
          have hz77 : n0 ≤ h69.size := by omega
          obtain ⟨_, _, ⟨T77, L77, k77, n77⟩, -, X77, ⟨Lc77, hQ77, l77, y77, z77⟩, st77⟩ := Jvm.LawKit.callS X75 hx (y := (⟨"com/example/yusen_ledger/yusenledger/LineReaderIsBlankPinLaw", "fits", "(BII)Z"⟩ : MethodName)) hown (mvT hZ (hw _ (List.mem_of_getElem? (i := 6) rfl))) (mvT hZ (hw _ (List.mem_of_getElem? (i := 7) rfl))) (mvT hZ (hw _ (List.mem_of_getElem? (i := 3) rfl))) (mvT hZ (hw _ (List.mem_of_getElem? (i := 8) rfl))) (by decide) (backOf (W := 0) (rmFits l Z a0 hw [] b4 (3 : Int32) (4 : Int32) h69 n0 hz77 ) hZ (hw _ (List.mem_of_getElem? (i := 8) rfl)) (hw _ (List.mem_of_getElem? (i := 3) rfl)) (by decide) (by decide)) (g := (mkF m 124 #[.val (.int i0), .val (.int i1), .val (.int i2), .val (.int i3), .val (.int i4), .val (.int (4 : Int32)), .val (.int b1), .val (.int b2), .val (.int b3), .val (.int b4), .val (.ref a61), .unset] [(.int (4 : Int32)), (.int (3 : Int32)), (.int b4)])) rfl (by rw [hml]; rfl) (argsL := [(.int b4), (.int (3 : Int32)), (.int (4 : Int32))]) (rest := []) (lenOf pd_1 rfl) rfl (by show 2 * 0 + _ ≤ _; exact Nat.le_of_eq rfl) (hb hby at_124) (fun _ _ => ⟨rfl, eh75, (by decide : 1 + 0 ≤ _), (by decide : 4 + 0 ≤ _)⟩)
          dsimp only [Pt.U, Pt.locs, Pt.cells, Pt.slots] at X77 l77 y77 z77 st77 hQ77
          subst l77 y77 z77
          obtain ⟨rfl, N77q, eh77⟩ := hQ77
          have N77 := Fr.app N75 N77q
          refine oOn st77 ?_
          show oGl p e below (T77.setTop (mkF m 127 #[.val (.int i0), .val (.int i1), .val (.int i2), .val (.int i3), .val (.int i4), .val (.int (4 : Int32)), .val (.int b1), .val (.int b2), .val (.int b3), .val (.int b4), .val (.ref a61), .unset] [(.int (oFits b4 (3 : Int32) (4 : Int32)))])) _
          by_cases hc127 : (oFits b4 (3 : Int32) (4 : Int32)) = (0 : Int32)
          · skip
            refine sifY X77 hx (hb hby at_127) (by decide) (by decide) (teq hc127).1 (pc' := 134) ?_
            refine siconst X77 hx (hb hby at_134) rfl rfl (z := 0) (pc' := 135) ?_
            refine sistore X77 hx (hb hby at_135) rfl rfl (l' := #[.val (.int i0), .val (.int i1), .val (.int i2), .val (.int i3), .val (.int i4), .val (.int (4 : Int32)), .val (.int b1), .val (.int b2), .val (.int b3), .val (.int b4), .val (.ref a61), .val (.int (0 : Int32))]) (pc' := 137) ?_
            refine saload X77 hx (hb hby at_137) rfl rfl rfl (pc' := 139) ?_
            have hz78 : n0 ≤ h69.size := by omega
            obtain ⟨_, _, ⟨T78, L78, k78, n78⟩, -, X78, ⟨Lc78, hQ78, l78, y78, z78⟩, st78⟩ := Jvm.LawKit.callS X77 hx (y := (⟨"com/example/yusen_ledger/yusenledger/LineReader", "isBlank", "([B)Z"⟩ : MethodName)) hown (mvT hZ (hw _ (List.mem_of_getElem? (i := 9) rfl))) (mvT hZ (hw _ (List.mem_of_getElem? (i := 10) rfl))) (mvT hZ (hw _ (List.mem_of_getElem? (i := 11) rfl))) (mvT hZ (hw _ (List.mem_of_getElem? (i := 12) rfl))) (by decide) (backOf (W := 0) (rmBlank l Z a0 hw [] a61 4 (oUp (oUp (oUp (oUp (fun _ => 0) 0 (nar .byte b1)) 1 (nar .byte b2)) 2 (nar .byte b3)) 3 (nar .byte b4)) h69 n0 hz78 V69) hZ (hw _ (List.mem_of_getElem? (i := 12) rfl)) (hw _ (List.mem_of_getElem? (i := 11) rfl)) (by decide) (by decide)) (g := (mkF m 139 #[.val (.int i0), .val (.int i1), .val (.int i2), .val (.int i3), .val (.int i4), .val (.int (4 : Int32)), .val (.int b1), .val (.int b2), .val (.int b3), .val (.int b4), .val (.ref a61), .val (.int (0 : Int32))] [(.ref a61)])) rfl (by rw [hml]; rfl) (argsL := [(.ref a61)]) (rest := []) (lenOf pd_2 rfl) rfl (by show 2 * 0 + _ ≤ _; exact Nat.le_of_eq rfl) (hb hby at_139) (fun _ _ => ⟨rfl, eh77, (by decide : 1 + 0 ≤ _), (by decide : 4 + 0 ≤ _)⟩)
            dsimp only [Pt.U, Pt.locs, Pt.cells, Pt.slots] at X78 l78 y78 z78 st78 hQ78
            subst l78 y78 z78
            obtain ⟨r78, rfl, N78q, eh78, hr⟩ := hQ78
            have N78 := Fr.app N77 N78q
            refine oOn st78 ?_
            show oGl p e below (T78.setTop (mkF m 142 #[.val (.int i0), .val (.int i1), .val (.int i2), .val (.int i3), .val (.int i4), .val (.int (4 : Int32)), .val (.int b1), .val (.int b2), .val (.int b3), .val (.int b4), .val (.ref a61), .val (.int (0 : Int32))] [(.int r78)])) _
            refine siload X78 hx (hb hby at_142) rfl rfl (pc' := 144) ?_
            refine sicN X78 hx (hb hby at_144) rfl (teq ((own_cmp (n := 4) (k := (4 : Int32)) (b1 := b1) (b2 := b2) (b3 := b3) (b4 := b4) rfl (by decide) (fun _ => hp1) (fun _ => hp2) (fun _ => hp3) (fun _ => hp4) hr).2 (fun q => q.2.2.2 hc127) : r78 = (0 : Int32))).2 (pc' := 147) ?_
            refine siconst X78 hx (hb hby at_147) rfl rfl (z := 1) (pc' := 148) ?_
            refine sgoto X78 hx (hb hby at_148) (by decide) (by decide)  (pc' := 152) ?_
            refine oRetN (t := .boolean) X78 hx Bd.notSynchronized Bd.returns (by simp) (hb hby at_152) (by decide) (by decide) ?_
            show Q_rmL Z i0 i1 i2 i3 i4 h0 n0 _ T78.heap _
            rw [eh78]
            exact ⟨rfl, N78⟩
          · skip
            refine sifN X77 hx (hb hby at_127) rfl (feq hc127).1 (pc' := 130) ?_
            refine siconst X77 hx (hb hby at_130) rfl rfl (z := 1) (pc' := 131) ?_
            refine sgoto X77 hx (hb hby at_131) (by decide) (by decide)  (pc' := 135) ?_
            refine sistore X77 hx (hb hby at_135) rfl rfl (l' := #[.val (.int i0), .val (.int i1), .val (.int i2), .val (.int i3), .val (.int i4), .val (.int (4 : Int32)), .val (.int b1), .val (.int b2), .val (.int b3), .val (.int b4), .val (.ref a61), .val (.int (1 : Int32))]) (pc' := 137) ?_
            refine saload X77 hx (hb hby at_137) rfl rfl rfl (pc' := 139) ?_
            have hz79 : n0 ≤ h69.size := by omega
            obtain ⟨_, _, ⟨T79, L79, k79, n79⟩, -, X79, ⟨Lc79, hQ79, l79, y79, z79⟩, st79⟩ := Jvm.LawKit.callS X77 hx (y := (⟨"com/example/yusen_ledger/yusenledger/LineReader", "isBlank", "([B)Z"⟩ : MethodName)) hown (mvT hZ (hw _ (List.mem_of_getElem? (i := 9) rfl))) (mvT hZ (hw _ (List.mem_of_getElem? (i := 10) rfl))) (mvT hZ (hw _ (List.mem_of_getElem? (i := 11) rfl))) (mvT hZ (hw _ (List.mem_of_getElem? (i := 12) rfl))) (by decide) (backOf (W := 0) (rmBlank l Z a0 hw [] a61 4 (oUp (oUp (oUp (oUp (fun _ => 0) 0 (nar .byte b1)) 1 (nar .byte b2)) 2 (nar .byte b3)) 3 (nar .byte b4)) h69 n0 hz79 V69) hZ (hw _ (List.mem_of_getElem? (i := 12) rfl)) (hw _ (List.mem_of_getElem? (i := 11) rfl)) (by decide) (by decide)) (g := (mkF m 139 #[.val (.int i0), .val (.int i1), .val (.int i2), .val (.int i3), .val (.int i4), .val (.int (4 : Int32)), .val (.int b1), .val (.int b2), .val (.int b3), .val (.int b4), .val (.ref a61), .val (.int (1 : Int32))] [(.ref a61)])) rfl (by rw [hml]; rfl) (argsL := [(.ref a61)]) (rest := []) (lenOf pd_2 rfl) rfl (by show 2 * 0 + _ ≤ _; exact Nat.le_of_eq rfl) (hb hby at_139) (fun _ _ => ⟨rfl, eh77, (by decide : 1 + 0 ≤ _), (by decide : 4 + 0 ≤ _)⟩)
            dsimp only [Pt.U, Pt.locs, Pt.cells, Pt.slots] at X79 l79 y79 z79 st79 hQ79
            subst l79 y79 z79
            obtain ⟨r79, rfl, N79q, eh79, hr⟩ := hQ79
            have N79 := Fr.app N77 N79q
            refine oOn st79 ?_
            show oGl p e below (T79.setTop (mkF m 142 #[.val (.int i0), .val (.int i1), .val (.int i2), .val (.int i3), .val (.int i4), .val (.int (4 : Int32)), .val (.int b1), .val (.int b2), .val (.int b3), .val (.int b4), .val (.ref a61), .val (.int (1 : Int32))] [(.int r79)])) _
            refine siload X79 hx (hb hby at_142) rfl rfl (pc' := 144) ?_
            refine sicN X79 hx (hb hby at_144) rfl (teq ((own_cmp (n := 4) (k := (4 : Int32)) (b1 := b1) (b2 := b2) (b3 := b3) (b4 := b4) rfl (by decide) (fun _ => hp1) (fun _ => hp2) (fun _ => hp3) (fun _ => hp4) hr).1 ⟨hc94, hc105, hc116, hc127⟩ : r79 = (1 : Int32))).2 (pc' := 147) ?_
            refine siconst X79 hx (hb hby at_147) rfl rfl (z := 1) (pc' := 148) ?_
            refine sgoto X79 hx (hb hby at_148) (by decide) (by decide)  (pc' := 152) ?_
            refine oRetN (t := .boolean) X79 hx Bd.notSynchronized Bd.returns (by simp) (hb hby at_152) (by decide) (by decide) ?_
            show Q_rmL Z i0 i1 i2 i3 i4 h0 n0 _ T79.heap _
            rw [eh79]
            exact ⟨rfl, N79⟩
set_option maxRecDepth 65536 in
set_option maxHeartbeats 40000000 in
theorem comes_1 {Post : Tables → Env → Array Value → State → Outcome → State → Prop} (hpost : ∀ tb e args s v u, (limb_1_1.after args s (.returned v) u = true ∧ limb_1_2.after args s (.returned v) u = true ∧ True) → FrameEnd s (.returned v) u (Jvm.fieldLocs frame_1_writes args s ++ Jvm.arrayLocs frame_1_arrays args s ++ Jvm.staticLocs frame_1_statics s) 16 128 → Post tb e args s (.returned v) u) :
    ArmFor flags0 classFile x code maxLocals ret World_1 tables_1 room_1 Calls_1 rest_1 Pre_1 Post := by
  intro l hfl _ _ p e ha hc hk s m args below hf hA hF happ hP
  obtain ⟨hcalls, hrest, hpre⟩ := hP
  obtain ⟨-, -, -, hnamed, -, -, -, hat⟩ := (Spec.applies_iff hf).mp happ
  obtain ⟨hg, hn⟩ := oAnd (show (Jvm.Cond.and given_1 narrow_1).before args s = true from hpre)
  obtain ⟨gc, hg0⟩ := oAnd hg
  obtain ⟨ga0, hg1⟩ := oAnd hg0
  obtain ⟨ga1, hg2⟩ := oAnd hg1
  obtain ⟨ga2, hg3⟩ := oAnd hg2
  obtain ⟨ga3, hg4⟩ := oAnd hg3
  have ga4 := hg4
  obtain ⟨w0, w1, w2, w3, w4, rfl⟩ : ∃ w0 w1 w2 w3 w4 : Value, args = #[w0, w1, w2, w3, w4] := by
    have hs : args.size = 5 := by simpa [Cond.before, Cond.holds, Cond.value] using gc
    obtain ⟨L⟩ := args
    match L, hs with
    | [w0, w1, w2, w3, w4], _ => exact ⟨w0, w1, w2, w3, w4, rfl⟩
  obtain ⟨i0, rfl⟩ := oArgI ga0 rfl
  obtain ⟨i1, rfl⟩ := oArgI ga1 rfl
  obtain ⟨i2, rfl⟩ := oArgI ga2 rfl
  obtain ⟨i3, rfl⟩ := oArgI ga3 rfl
  obtain ⟨i4, rfl⟩ := oArgI ga4 rfl
  have hw := fun d (hd : d ∈ tables_1) => atoms_spec (ws := Jvm.Cond.code x code maxLocals ret :: tables_1) hat d (List.mem_cons_of_mem _ hd)
  have hfit : Fit s := fun {y c} hc i hi => by
    obtain ⟨ha, rfl⟩ := Array.getElem?_eq_some_iff.mp hc
    have q := List.all_eq_true.mp ((Array.all_eq_true_iff_forall_mem.mp hF) _ (Array.getElem_mem ha)) i (List.mem_range.mpr hi)
    simpa [Array.getElem?_eq_getElem hi] using q
  obtain ⟨n, o, h1, h2, h3, _, L, rfl, ⟨rfl, N⟩, hq⟩ := rmL l s _ hw tables_1 i0 i1 i2 i3 i4 s.heap s.heap.size (Nat.le_refl _) (Old.start s)   p e ha hc hk s m _ below hf ((Spec.applies_iff_loose hf).mp happ).1 ⟨rfl, State.Warmed39.refl s, rfl⟩ trivial
  refine ⟨n, _, h1, h2, h3, hpost _ _ _ _ _ _ ⟨Cond.after_iff.mpr rfl, Cond.after_iff.mpr (eq_i res_at (Term.int_eval (1)) rfl), trivial⟩ ⟨hq.1, hq.2.1, (hq.2.2.sift fun y hy => Or.inr (N y hy)).mono (by decide) (by decide)⟩⟩
theorem main_1_1 : Claimed_1_1 := comes_1 fun _ _ _ _ _ _ h hF => ⟨h.1, hF⟩
theorem main_1_2 : Claimed_1_2 := comes_1 fun _ _ _ _ _ _ h hF => ⟨h.2.1, hF⟩
end Jvm.Pilot.@@N@@
namespace Jvm.Pilot.@@N@@
open Jvm Jvm.ClassFile Sem Op Lib Jvm.Free Jvm.Stand Jvm.Pilot.@@N@@.Jvm.D
/-! MADE BY PROGRAM (witnessworld.py) out of the Statement's table words and the real class files: 9 classes; the members and pool entries that the words name. The judged class is class 1, her method 1. -/
namespace start1
open Jvm.ClassFile
def u (s : String) : CpInfo := .utf8 (stringToUtf16 s)
/-- a pool by its gaps: so many unusable entries, then the entry; so many at the end -/
def gap : Nat → List CpInfo → List CpInfo
  | 0, r => r
  | n + 1, r => .unusable :: gap n r
def poolList (es : List (Nat × CpInfo)) (last : Nat) : List CpInfo := es.foldr (fun e r => gap e.1 (e.2 :: r)) (gap last [])
def pool (es : List (Nat × CpInfo)) (last : Nat) : Array CpInfo := ⟨poolList es last⟩
def fileOf (pool : Array CpInfo) (this : Nat) (attrs : Array Attribute := #[]) (ms : Array MethodInfo := #[]) (fl : Nat := 33) (sup : Nat := 0) (ifs : Array Nat := #[]) (fds : Array FieldInfo := #[]) : ClassFile where
  minorVersion := 0
  majorVersion := 65
  constantPool := pool
  accessFlags := fl
  thisClass := this
  superClass := sup
  interfaces := ifs
  fields := fds
  methods := ms
  attributes := attrs
def plain (name : String) (sup : Option ClassId) : Class where
  name := name
  kind := .ordinary
  loader := none
  accessFlags := 33
  super := sup
  interfaces := #[]
  cf := none
  fields := #[]
  methods := #[]
  instanceTypes := #[]
  staticTypes := #[]
  resolved := #[]
  callSites := []
  init := .initialized
  statics := none
  mirror := none

def pool0 : Array CpInfo := pool [(5, u "<init>"), (0, u "()V"), (1, .class_ 10), (1, u "java/lang/Object")] 113

def k0m0 : Method := { name := "<init>", desc := "()V", sig := { parameters := [], returnType := none }, accessFlags := 1, code := none }
/-- java/lang/Object -/
def k0 : Class := { plain "java/lang/Object" none with
  accessFlags := 33
  interfaces := #[]
  cf := some (fileOf pool0 8 #[] #[{ accessFlags := 1, nameIndex := 5, descriptorIndex := 6, attributes := #[] }] 33 0 #[] #[])
  fields := #[]
  methods := #[k0m0]
  instanceTypes := #[]
  staticTypes := #[]
  resolved := Array.replicate 124 none
  statics := none }

def pool1 : Array CpInfo := pool [(2, .class_ 4), (1, u "java/lang/Object"), (0, u "<init>"), (0, u "()V"), (0, .integer 2147483647), (0, .methodref 9 10), (0, .class_ 11), (0, .nameAndType 12 13), (0, u "com/example/yusen_ledger/yusenledger/LineReaderIsBlankPinLaw"), (0, u "pick"), (0, u "(I)B"), (0, .methodref 9 15), (0, .nameAndType 16 17), (0, u "fits"), (0, u "(BII)Z"), (0, .methodref 19 20), (0, .class_ 21), (0, .nameAndType 22 23), (0, u "com/example/yusen_ledger/yusenledger/LineReader"), (0, u "isBlank"), (0, u "([B)Z"), (2, u "law"), (0, u "(IIIII)Z")] 5

def k1m0 : Method := { name := "<init>", desc := "()V", sig := { parameters := [], returnType := none }, accessFlags := 1, code := none }
def k1c1 : Code := { maxStack := 3, maxLocals := 12, code := code, exceptionTable := #[], attributes := #[] }
def k1m1 : Method := { name := "law", desc := "(IIIII)Z", sig := { parameters := [.int, .int, .int, .int, .int], returnType := some .boolean }, accessFlags := 9, code := some k1c1 }
def k1c2 : Code := { maxStack := 2, maxLocals := 2, code := method_3_code, exceptionTable := #[], attributes := #[] }
def k1m2 : Method := { name := "pick", desc := "(I)B", sig := { parameters := [.int], returnType := some .byte }, accessFlags := 10, code := some k1c2 }
def k1c3 : Code := { maxStack := 3, maxLocals := 3, code := method_4_code, exceptionTable := #[], attributes := #[] }
def k1m3 : Method := { name := "fits", desc := "(BII)Z", sig := { parameters := [.byte, .int, .int], returnType := some .boolean }, accessFlags := 10, code := some k1c3 }
/-- com/example/yusen_ledger/yusenledger/LineReaderIsBlankPinLaw -/
def k1 : Class := { plain "com/example/yusen_ledger/yusenledger/LineReaderIsBlankPinLaw" (some 0) with
  accessFlags := 49
  interfaces := #[]
  cf := some (fileOf pool1 9 #[] #[{ accessFlags := 1, nameIndex := 5, descriptorIndex := 6, attributes := #[] }, { accessFlags := 9, nameIndex := 26, descriptorIndex := 27, attributes := #[] }, { accessFlags := 10, nameIndex := 12, descriptorIndex := 13, attributes := #[] }, { accessFlags := 10, nameIndex := 16, descriptorIndex := 17, attributes := #[] }] 49 2 #[] #[])
  fields := #[]
  methods := #[k1m0, k1m1, k1m2, k1m3]
  instanceTypes := #[]
  staticTypes := #[]
  resolved := Array.replicate 33 none
  statics := none }

def pool2 : Array CpInfo := pool [(6, u "Lcom/example/yusen_ledger/yusenledger/TextEncoding;"), (1, .class_ 10), (1, u "com/example/yusen_ledger/yusenledger/LineReader"), (10, .class_ 23), (1, u "java/lang/Object"), (4, u "buffer"), (0, u "[B"), (8, u "window"), (0, u "Ljava/nio/ByteBuffer;"), (5, u "spill"), (0, u "Ljava/io/ByteArrayOutputStream;"), (2, u "unended"), (2, u "in"), (0, u "Ljava/nio/channels/ReadableByteChannel;"), (2, u "encoding"), (6, u "decoder"), (0, u "Ljava/nio/charset/CharsetDecoder;"), (2, u "completeOnly"), (0, u "Z"), (2, u "unread"), (0, u "J"), (17, u "position"), (0, u "I"), (2, u "limit"), (19, u "number"), (70, u "isBlank"), (0, u "([B)Z")] 20

def k2c0 : Code := { maxStack := 3, maxLocals := 4, code := prog_42_method_7_code, exceptionTable := #[], attributes := #[] }
def k2m0 : Method := { name := "isBlank", desc := "([B)Z", sig := { parameters := [(.array .byte)], returnType := some .boolean }, accessFlags := 8, code := some k2c0 }
/-- com/example/yusen_ledger/yusenledger/LineReader -/
def k2 : Class := { plain "com/example/yusen_ledger/yusenledger/LineReader" (some 0) with
  accessFlags := 48
  interfaces := #[]
  cf := some (fileOf pool2 8 #[] #[{ accessFlags := 8, nameIndex := 185, descriptorIndex := 186, attributes := #[] }] 48 21 #[] #[{ accessFlags := 18, nameIndex := 52, descriptorIndex := 53, attributes := #[] }, { accessFlags := 18, nameIndex := 56, descriptorIndex := 6, attributes := #[] }, { accessFlags := 18, nameIndex := 63, descriptorIndex := 64, attributes := #[] }, { accessFlags := 18, nameIndex := 28, descriptorIndex := 29, attributes := #[] }, { accessFlags := 18, nameIndex := 38, descriptorIndex := 39, attributes := #[] }, { accessFlags := 2, nameIndex := 90, descriptorIndex := 91, attributes := #[] }, { accessFlags := 2, nameIndex := 94, descriptorIndex := 91, attributes := #[] }, { accessFlags := 18, nameIndex := 45, descriptorIndex := 46, attributes := #[] }, { accessFlags := 2, nameIndex := 114, descriptorIndex := 91, attributes := #[] }, { accessFlags := 18, nameIndex := 67, descriptorIndex := 68, attributes := #[] }, { accessFlags := 2, nameIndex := 49, descriptorIndex := 29, attributes := #[] }, { accessFlags := 2, nameIndex := 71, descriptorIndex := 72, attributes := #[] }])
  fields := #[{ name := "in", type := (.object "java/nio/channels/ReadableByteChannel"), accessFlags := 18, slot := 0, constantValue := 0 }, { name := "encoding", type := (.object "com/example/yusen_ledger/yusenledger/TextEncoding"), accessFlags := 18, slot := 1, constantValue := 0 }, { name := "decoder", type := (.object "java/nio/charset/CharsetDecoder"), accessFlags := 18, slot := 2, constantValue := 0 }, { name := "buffer", type := (.array .byte), accessFlags := 18, slot := 3, constantValue := 0 }, { name := "window", type := (.object "java/nio/ByteBuffer"), accessFlags := 18, slot := 4, constantValue := 0 }, { name := "position", type := .int, accessFlags := 2, slot := 5, constantValue := 0 }, { name := "limit", type := .int, accessFlags := 2, slot := 6, constantValue := 0 }, { name := "spill", type := (.object "java/io/ByteArrayOutputStream"), accessFlags := 18, slot := 7, constantValue := 0 }, { name := "number", type := .int, accessFlags := 2, slot := 8, constantValue := 0 }, { name := "completeOnly", type := .boolean, accessFlags := 18, slot := 9, constantValue := 0 }, { name := "unended", type := (.array .byte), accessFlags := 2, slot := 10, constantValue := 0 }, { name := "unread", type := .long, accessFlags := 2, slot := 11, constantValue := 0 }]
  methods := #[k2m0]
  instanceTypes := #[(.object "java/nio/channels/ReadableByteChannel"), (.object "com/example/yusen_ledger/yusenledger/TextEncoding"), (.object "java/nio/charset/CharsetDecoder"), (.array .byte), (.object "java/nio/ByteBuffer"), .int, .int, (.object "java/io/ByteArrayOutputStream"), .int, .boolean, (.array .byte), .long]
  staticTypes := #[]
  resolved := Array.replicate 207 none
  statics := none }

def pool3 : Array CpInfo := pool [(1, u "java/lang/Cloneable"), (0, .class_ 1), (0, u "java/lang/Object"), (0, .class_ 3)] 3

/-- java/lang/Cloneable -/
def k3 : Class := { plain "java/lang/Cloneable" (some 0) with
  accessFlags := 1537
  interfaces := #[]
  cf := some (fileOf pool3 2 #[] #[] 1537 4 #[] #[])
  fields := #[]
  methods := #[]
  instanceTypes := #[]
  staticTypes := #[]
  resolved := Array.replicate 8 none
  statics := none }

def pool4 : Array CpInfo := pool [(1, u "java/io/Serializable"), (0, .class_ 1), (0, u "java/lang/Object"), (0, .class_ 3)] 3

/-- java/io/Serializable -/
def k4 : Class := { plain "java/io/Serializable" (some 0) with
  accessFlags := 1537
  interfaces := #[]
  cf := some (fileOf pool4 2 #[] #[] 1537 4 #[] #[])
  fields := #[]
  methods := #[]
  instanceTypes := #[]
  staticTypes := #[]
  resolved := Array.replicate 8 none
  statics := none }

/-- the primitive byte -/
def k5 : Class := { plain "byte" none with kind := .primitive 'B', accessFlags := 0x411 }
/-- [B -/
def k6 : Class := { plain "[B" (some 0) with kind := .array 5 .byte, interfaces := #[3, 4], accessFlags := 1041 }

/-- the primitive int -/
def k7 : Class := { plain "int" none with kind := .primitive 'I', accessFlags := 0x411 }
/-- [I -/
def k8 : Class := { plain "[I" (some 0) with kind := .array 7 .int, interfaces := #[3, 4], accessFlags := 1041 }

def heap : Heap := #[]
def classes : Array Class := #[k0, k1, k2, k3, k4, k5, k6, k7, k8]
def interned : List (Array UInt16 × Addr) := []
def slotsUsed : Nat := 0
def theMethod : MethodId := ⟨1, 1⟩
def args0 : Array Value := #[.int 5, .int 5, .int 5, .int 5, .int 5]
def aboutOver (below : List Frame) : State where
  vm := { classes := classes, interned := interned.toArray }
  heap := heap
  slotsUsed := slotsUsed
  threads := #[{ frames := .invoking theMethod args0 :: below }]
def below0 : List Frame := [.native { method := ⟨0, 0⟩, args := #[] }]
def about1 : State := aboutOver below0
def p0 : Program := .bare "" "" ""
def e0 : Env := launch0.env 0 0 0
theorem w_frames : about1.frames = Frame.invoking theMethod args0 :: below0 := rfl
set_option maxRecDepth 65536 in
theorem w_args : argsFit about1.vm theMethod args0 = true := by decide +kernel
set_option maxRecDepth 65536 in
theorem w_heap : heapFits about1 = true := by decide +kernel
set_option maxRecDepth 65536 in
theorem w_runnable : about1.curStatus? = some .runnable := by decide +kernel
set_option maxRecDepth 65536 in
theorem w_alone : about1.alone = true := by decide +kernel
set_option maxRecDepth 65536 in
theorem w_named : about1.methodNamed? x = some theMethod := by decide +kernel
set_option maxRecDepth 65536 in
theorem w_hears : about1.hears theMethod below0 = true := by decide +kernel
set_option maxRecDepth 65536 in
theorem w_ripe : about1.ripe theMethod args0 below0 = true := by decide +kernel
theorem w_running : about1.status = .running := rfl
set_option maxRecDepth 65536 in
theorem w_room : about1.hasRoom e0.platform room_1 = true :=
  launch0.hasRoom_least _ room_1 (by decide +kernel) (by decide +kernel) (by decide +kernel) (by decide +kernel) (by decide +kernel) (by decide +kernel)
theorem allAtoms_all (ts : List Jvm.Cond) (a : Array Jvm.Value) (st : Jvm.State) : (allAtoms ts).before a st = ts.all (fun c => c.before a st) := by
  induction ts with
  | nil => rfl
  | cons c t ih =>
    show (Jvm.Cond.and c (allAtoms t)).before a st = _
    rw [Jvm.Cond.before_and, ih, List.all_cons]
def words1 : List Jvm.Cond := Jvm.Cond.code x code maxLocals ret :: tables_1
/-- a 'code' word, met by the world's own term for the bytes: nothing is compared byte by byte -/
theorem code_word {y : MethodName} {bytes : ByteArray} {mx : Nat} {rt : Option FieldType} {a : Array Value} {s : State} {m : MethodId} {meth : Method} {c : Code} (h1 : s.methodNamed? y = some m) (h2 : s.vm.method? m = some meth) (h3 : meth.code = some c) (h4 : c.code = bytes)
    (h5 : (c.maxLocals == mx && c.exceptionTable.isEmpty && decide (c.maxStack ≤ mostOperands) && decide (meth.sig.returnType = rt) && !meth.locks && decide (parseMethodDescriptor y.desc = some meth.sig)) = true) : (Jvm.Cond.code y bytes mx rt).before a s = true := by
  simp only [Bool.and_eq_true, beq_iff_eq, Bool.not_eq_true', decide_eq_true_eq] at h5
  obtain ⟨⟨⟨⟨⟨g1, g2⟩, g3⟩, g4⟩, g5⟩, g6⟩ := h5
  simp [Cond.before, Cond.holds, Cond.value, h1, h2, h3, h4, g1, g2, g3, g4, g5, g6]
def isCode : Jvm.Cond → Bool
  | .code _ _ _ _ => true
  | _ => false
theorem all_split {L : List Jvm.Cond} {P : Jvm.Cond → Bool} (h1 : L.all (fun c => isCode c || P c) = true) (h2 : ∀ c ∈ L.filter isCode, P c = true) : L.all P = true := by
  refine List.all_eq_true.mpr fun c hc => ?_
  have h := List.all_eq_true.mp h1 c hc
  rcases Bool.eq_false_or_eq_true (isCode c) with hi | hi
  · exact h2 c (List.mem_filter.mpr ⟨hc, hi⟩)
  · simpa [hi] using h
set_option maxRecDepth 65536 in
theorem w_c0 : (Jvm.Cond.code x code maxLocals ret).before args0 about1 = true := code_word (m := ⟨1, 1⟩) (meth := k1m1) (c := k1c1) (by decide +kernel) rfl rfl rfl (by decide +kernel)
set_option maxRecDepth 65536 in
theorem w_c1 : (Jvm.Cond.code ({ cls := "com/example/yusen_ledger/yusenledger/LineReaderIsBlankPinLaw", name := "pick", desc := "(I)B" } : Jvm.MethodName) method_3_code (2 : Nat) (Option.some Jvm.ClassFile.FieldType.byte)).before args0 about1 = true := code_word (m := ⟨1, 2⟩) (meth := k1m2) (c := k1c2) (by decide +kernel) rfl rfl rfl (by decide +kernel)
set_option maxRecDepth 65536 in
theorem w_c2 : (Jvm.Cond.code ({ cls := "com/example/yusen_ledger/yusenledger/LineReaderIsBlankPinLaw", name := "fits", desc := "(BII)Z" } : Jvm.MethodName) method_4_code (3 : Nat) (Option.some Jvm.ClassFile.FieldType.boolean)).before args0 about1 = true := code_word (m := ⟨1, 3⟩) (meth := k1m3) (c := k1c3) (by decide +kernel) rfl rfl rfl (by decide +kernel)
set_option maxRecDepth 65536 in
theorem w_c3 : (Jvm.Cond.code ({ cls := "com/example/yusen_ledger/yusenledger/LineReader", name := "isBlank", desc := "([B)Z" } : Jvm.MethodName) prog_42_method_7_code (4 : Nat) (Option.some Jvm.ClassFile.FieldType.boolean)).before args0 about1 = true := code_word (m := ⟨2, 0⟩) (meth := k2m0) (c := k2c0) (by decide +kernel) rfl rfl rfl (by decide +kernel)
def codes1 : List Jvm.Cond := [Jvm.Cond.code x code maxLocals ret, Jvm.Cond.code ({ cls := "com/example/yusen_ledger/yusenledger/LineReaderIsBlankPinLaw", name := "pick", desc := "(I)B" } : Jvm.MethodName) method_3_code (2 : Nat) (Option.some Jvm.ClassFile.FieldType.byte), Jvm.Cond.code ({ cls := "com/example/yusen_ledger/yusenledger/LineReaderIsBlankPinLaw", name := "fits", desc := "(BII)Z" } : Jvm.MethodName) method_4_code (3 : Nat) (Option.some Jvm.ClassFile.FieldType.boolean), Jvm.Cond.code ({ cls := "com/example/yusen_ledger/yusenledger/LineReader", name := "isBlank", desc := "([B)Z" } : Jvm.MethodName) prog_42_method_7_code (4 : Nat) (Option.some Jvm.ClassFile.FieldType.boolean)]
set_option maxRecDepth 65536 in
theorem codes_eq : words1.filter isCode = codes1 := rfl
theorem w_codes : ∀ c ∈ words1.filter isCode, c.before args0 about1 = true := by
  rw [codes_eq]
  intro c hc
  simp only [codes1, List.mem_cons, List.not_mem_nil, or_false] at hc
  rcases hc with rfl | rfl | rfl | rfl
  · exact w_c0
  · exact w_c1
  · exact w_c2
  · exact w_c3
set_option maxRecDepth 65536 in
theorem w_t1 : words1.all (fun c => isCode c || c.before args0 about1) = true := by decide +kernel
theorem w_tables : (allAtoms (Jvm.Cond.code x code maxLocals ret :: tables_1)).before args0 about1 = true := by
  rw [allAtoms_all]
  show words1.all (fun c => c.before args0 about1) = true
  refine all_split ?_ w_codes
  rw [w_t1]
set_option maxRecDepth 65536 in
theorem w_case : (Jvm.Cond.and given_1 narrow_1).before args0 about1 = true := by decide +kernel
theorem w_applies : (headSpec (Jvm.Cond.code x code maxLocals ret :: tables_1) room_1).applies x e0.platform about1 = true :=
  (Spec.applies_iff w_frames).mpr ⟨w_running, w_runnable, w_alone, w_named, w_hears, w_ripe, w_room, w_tables⟩
theorem atStart : AtStart classFile x code maxLocals ret World_1 tables_1 room_1 Calls_1 rest_1 Pre_1 launch0 p0 e0 about1 theMethod args0 below0 :=
  ⟨lists_1, trivial, launch0.admits_env _ _ _, launch0.least_env, fairChoices_fair.cas, fairChoices_fair.clock, w_frames, w_args, w_heap, w_applies, trivial, trivial, w_case⟩
end start1
theorem witness_1 : WitnessClaimed_1 := ⟨start1.p0, start1.e0, start1.about1, start1.theMethod, start1.args0, start1.below0, start1.atStart⟩
end Jvm.Pilot.@@N@@
