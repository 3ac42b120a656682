import JvmDerived
import JvmDerived.Pilot.@@N@@Statement
import JvmDerived.Pilot.@@N@@Code
set_option linter.unusedVariables false
set_option linter.unusedSimpArgs false
namespace Jvm.Pilot.@@N@@
open Jvm Jvm.ClassFile Sem Op Lib Jvm.Free Jvm.Stand Jvm.LawKit Jvm.RoadKit Bundle Jvm.Pilot.@@N@@.Jvm.D
section OwnKit
variable {p : Program} {l : Launch} {e : Env} {R : Room} {s : State} {m : MethodId} {args : Array Value} {below : List Frame} {meth : Method} {c : Code} {T : State} {locs : List Loc} {cells slots : Nat} {Z : State} {h h' : Heap} {a b : Addr} {ty : FieldType}
/-- from S the run comes to a state of which F holds -/
def oGl (p : Program) (e : Env) (below : List Frame) (S : State) (F : State → Prop) : Prop := ∃ t, Steps p.tables e below S t ∧ F t
theorem oOn {S S' : State} {F : State → Prop} (st : ∀ t, Steps p.tables e below S' t → Steps p.tables e below S t) (k : oGl p e below S' F) : oGl p e below S F := by
  obtain ⟨t, k1, k2⟩ := k; exact ⟨t, st t k1, k2⟩
theorem oSt {S S' : State} {F : State → Prop} (st : Steps p.tables e below S S') (k : oGl p e below S' F) : oGl p e below S F := by
  obtain ⟨t, k1, k2⟩ := k; exact ⟨t, st.trans k1, k2⟩
theorem oCast {g g' : JFrame} {F : State → Prop} (q : g = g') (k : oGl p e below (T.setTop g') F) : oGl p e below (T.setTop g) F := q ▸ k
def oFin (s : State) (below : List Frame) (Q : Option Value → Heap → List Loc → Prop) (C S : Nat) (t : State) : Prop := ∃ o, t.status = .running ∧ Ended t below o ∧ ∃ v L, o = .returned v ∧ Q v t.heap L ∧ FrameEnd s o t L C S
theorem oEnter {S0 : State} {Q : Option Value → Heap → List Loc → Prop} {C S : Nat} (k : oGl p e below S0 (oFin s below Q C S)) : ∃ s₂ o, Steps p.tables e below S0 s₂ ∧ s₂.status = .running ∧ Ended s₂ below o ∧ ∃ v L, o = .returned v ∧ Q v s₂.heap L ∧ FrameEnd s o s₂ L C S := by
  obtain ⟨t, k1, o, k2, k3, k4⟩ := k; exact ⟨t, o, k1, k2, k3, k4⟩
theorem oRetI (X : Stand p l e R s m args below meth c T locs cells slots) (hx : p.tables.exec = Jvm.exec) (hl : meth.locks = false) {pc : Nat} {Ls : Array Slot} {z : Int32} {rest : List Value} (hret : meth.sig.returnType = some .int) (hd : decode c.code pc = .ok (.ireturn, 1))
    {Q : Option Value → Heap → List Loc → Prop} {C S : Nat} (hc : cells ≤ C) (hs : slots ≤ S) (hq : Q (some (.int z)) T.heap locs) : oGl p e below (T.setTop (mkF m pc Ls (.int z :: rest))) (oFin s below Q C S) := by
  obtain ⟨fs, hr, hrun, hended, hW, hsame⟩ := X.leave (v := some (.int z)) (fun q => by rw [hret] at q; cases q) hl
  exact ⟨_, retOut X hx hret rfl (Or.inl ⟨rfl, Or.inl rfl, _, rfl⟩) hd hr, _, hrun, hended, _, _, rfl, hq, ⟨_, rfl⟩, hW, hsame.mono hc hs⟩
theorem oRetN {t : FieldType} (X : Stand p l e R s m args below meth c T locs cells slots) (hx : p.tables.exec = Jvm.exec) (hl : meth.locks = false) {pc : Nat} {Ls : Array Slot} {z : Int32} {rest : List Value} (hret : meth.sig.returnType = some t) (ht : t = .boolean ∨ t = .byte ∨ t = .char ∨ t = .short) (hd : decode c.code pc = .ok (.ireturn, 1))
    {Q : Option Value → Heap → List Loc → Prop} {C S : Nat} (hc : cells ≤ C) (hs : slots ≤ S) (hq : Q (some (.int (nar t z))) T.heap locs) : oGl p e below (T.setTop (mkF m pc Ls (.int z :: rest))) (oFin s below Q C S) := by
  obtain ⟨fs, hr, hrun, hended, hW, hsame⟩ := X.leave (v := some (.int (nar t z))) (fun q => by rw [hret] at q; cases q) hl
  exact ⟨_, retN X hx hret ht hd hr, _, hrun, hended, _, _, rfl, hq, ⟨_, rfl⟩, hW, hsame.mono hc hs⟩
theorem oRetJ (X : Stand p l e R s m args below meth c T locs cells slots) (hx : p.tables.exec = Jvm.exec) (hl : meth.locks = false) {pc : Nat} {Ls : Array Slot} {z : Int64} {rest : List Value} (hret : meth.sig.returnType = some .long) (hd : decode c.code pc = .ok (.lreturn, 1))
    {Q : Option Value → Heap → List Loc → Prop} {C S : Nat} (hc : cells ≤ C) (hs : slots ≤ S) (hq : Q (some (.long z)) T.heap locs) : oGl p e below (T.setTop (mkF m pc Ls (.long z :: rest))) (oFin s below Q C S) := by
  obtain ⟨fs, hr, hrun, hended, hW, hsame⟩ := X.leave (v := some (.long z)) (fun q => by rw [hret] at q; cases q) hl
  exact ⟨_, retOut X hx hret rfl (Or.inr (Or.inl ⟨rfl, rfl, _, rfl⟩)) hd hr, _, hrun, hended, _, _, rfl, hq, ⟨_, rfl⟩, hW, hsame.mono hc hs⟩
theorem narrow_ref {t : FieldType} {w : Value} (ht : t.isReference = true) (hw : w.isRef = true) : narrow t w = w := by
  rcases ref_cases hw with rfl | ⟨a, rfl⟩ <;> cases t <;> first | rfl | (cases ht; done)
theorem oRetR {t : FieldType} (X : Stand p l e R s m args below meth c T locs cells slots) (hx : p.tables.exec = Jvm.exec) (hl : meth.locks = false) {pc : Nat} {Ls : Array Slot} {w : Value} {rest : List Value} (hret : meth.sig.returnType = some t) (ht : t.isReference = true) (hw : w.isRef = true) (hd : decode c.code pc = .ok (.areturn, 1))
    {Q : Option Value → Heap → List Loc → Prop} {C S : Nat} (hc : cells ≤ C) (hs : slots ≤ S) (hq : Q (some w) T.heap locs) : oGl p e below (T.setTop (mkF m pc Ls (w :: rest))) (oFin s below Q C S) := by
  obtain ⟨fs, hr, hrun, hended, hW, hsame⟩ := X.leave (v := some w) (fun q => by rw [hret] at q; cases q) hl
  exact ⟨_, retOut X hx hret (narrow_ref ht hw) (Or.inr (Or.inr (Or.inr (Or.inr ⟨rfl, ht, hw⟩)))) hd hr, _, hrun, hended, _, _, rfl, hq, ⟨_, rfl⟩, hW, hsame.mono hc hs⟩
theorem oRet0 (X : Stand p l e R s m args below meth c T locs cells slots) (hx : p.tables.exec = Jvm.exec) (hl : meth.locks = false) {pc : Nat} {Ls : Array Slot} (hret : meth.sig.returnType = none) (hd : decode c.code pc = .ok (.return_, 1))
    {Q : Option Value → Heap → List Loc → Prop} {C S : Nat} (hc : cells ≤ C) (hs : slots ≤ S) (hq : Q none T.heap locs) : oGl p e below (T.setTop (mkF m pc Ls [])) (oFin s below Q C S) := by
  obtain ⟨fs, hr, hrun, hended, hW, hsame⟩ := X.leave (v := none) (fun _ => rfl) hl
  exact ⟨_, X.returnOut hx hret hd hr, _, hrun, hended, _, _, rfl, hq, ⟨_, rfl⟩, hW, hsame.mono hc hs⟩
theorem oCat {w : Value} (hw : w.isRef = true) : w.category = 1 := by rcases ref_cases hw with rfl | ⟨a, rfl⟩ <;> rfl
theorem oSto {ls : Array Slot} {i : Nat} {v : Value} {o : Slot} (hold : ls[i]? = some o) (ho : o = .unset ∨ ∃ w, o = .val w ∧ w.category = 1) (hv : v.category = 1) : storeLocals ls i v = some (ls.setIfInBounds i (.val v)) := XS.store1 hold ho hv
theorem oDup2 {tb : Tables} [Ours tb] {target : State} {g : JFrame} (hh : At T m c below) (hx : tb.exec = Jvm.exec) (hg : g.method = m) {x y : Value} {rest : List Value} (hd : decode c.code g.pc = .ok (.dup2, 1)) (hs : g.stack = x :: y :: rest) (hc : x.category = 1) (hc2 : y.category = 1)
    (hr : Steps tb e below (T.setTop { g with pc := g.pc + 1, stack := x :: y :: x :: y :: rest }) target) : Steps tb e below (T.setTop g) target := by
  subst hg
  jvm_step hh [hh.top, hx, hd, hs, hc, hc2]
  exact hr
theorem oDupX2 {tb : Tables} [Ours tb] {target : State} {g : JFrame} (hh : At T m c below) (hx : tb.exec = Jvm.exec) (hg : g.method = m) {x y z : Value} {rest : List Value} (hd : decode c.code g.pc = .ok (.dup_x2, 1)) (hs : g.stack = x :: y :: z :: rest) (hc : x.category = 1) (hc2 : y.category = 1) (hc3 : z.category = 1)
    (hr : Steps tb e below (T.setTop { g with pc := g.pc + 1, stack := x :: y :: z :: x :: rest }) target) : Steps tb e below (T.setTop g) target := by
  subst hg
  jvm_step hh [hh.top, hx, hd, hs, hc, hc2, hc3]
  exact hr
theorem oNe {x y : Nat} (q : x < y ∨ y < x) : x ≠ y := by omega
/-! single steps -/
theorem siload {pc pc' : Nat} {Ls : Array Slot} {F : State → Prop} {st : List Value} {k : Nat} {v : Int32} (X : Stand p l e R s m args below meth c T locs cells slots) (hx : p.tables.exec = Jvm.exec) (hd : decode c.code pc = .ok (.iload k, 2)) (hp : pc + 2 = pc') (hl : Ls[k]? = some (.val (.int v))) (kk : oGl p e below (T.setTop (mkF m pc' Ls (.int v :: st))) F) : oGl p e below (T.setTop (mkF m pc Ls (st))) F := by
  subst hp
  exact oOn (fun _ kK => XS.iload X.here hx rfl hd hl kK) kk
theorem siloadN {pc pc' : Nat} {Ls : Array Slot} {F : State → Prop} {st : List Value} {k : Fin 4} {v : Int32} (X : Stand p l e R s m args below meth c T locs cells slots) (hx : p.tables.exec = Jvm.exec) (hd : decode c.code pc = .ok (.iload_n k, 1)) (hp : pc + 1 = pc') (hl : Ls[k.val]? = some (.val (.int v))) (kk : oGl p e below (T.setTop (mkF m pc' Ls (.int v :: st))) F) : oGl p e below (T.setTop (mkF m pc Ls (st))) F := by
  subst hp
  exact oOn (fun _ kK => XS.iloadN X.here hx rfl hd hl kK) kk
theorem slload {pc pc' : Nat} {Ls : Array Slot} {F : State → Prop} {st : List Value} {k : Nat} {v : Int64} (X : Stand p l e R s m args below meth c T locs cells slots) (hx : p.tables.exec = Jvm.exec) (hd : decode c.code pc = .ok (.lload k, 2)) (hp : pc + 2 = pc') (hl : Ls[k]? = some (.val (.long v))) (kk : oGl p e below (T.setTop (mkF m pc' Ls (.long v :: st))) F) : oGl p e below (T.setTop (mkF m pc Ls (st))) F := by
  subst hp
  exact oOn (fun _ kK => XS.lload X.here hx rfl hd hl kK) kk
theorem slloadN {pc pc' : Nat} {Ls : Array Slot} {F : State → Prop} {st : List Value} {k : Fin 4} {v : Int64} (X : Stand p l e R s m args below meth c T locs cells slots) (hx : p.tables.exec = Jvm.exec) (hd : decode c.code pc = .ok (.lload_n k, 1)) (hp : pc + 1 = pc') (hl : Ls[k.val]? = some (.val (.long v))) (kk : oGl p e below (T.setTop (mkF m pc' Ls (.long v :: st))) F) : oGl p e below (T.setTop (mkF m pc Ls (st))) F := by
  subst hp
  exact oOn (fun _ kK => XS.lloadN X.here hx rfl hd hl kK) kk
theorem saload {pc pc' : Nat} {Ls : Array Slot} {F : State → Prop} {st : List Value} {k : Nat} {v : Value} (X : Stand p l e R s m args below meth c T locs cells slots) (hx : p.tables.exec = Jvm.exec) (hd : decode c.code pc = .ok (.aload k, 2)) (hp : pc + 2 = pc') (hl : Ls[k]? = some (.val v)) (hv : v.isRef = true) (kk : oGl p e below (T.setTop (mkF m pc' Ls (v :: st))) F) : oGl p e below (T.setTop (mkF m pc Ls (st))) F := by
  subst hp
  exact oOn (fun _ kK => XS.aload X.here hx rfl hd hl hv kK) kk
theorem saloadN {pc pc' : Nat} {Ls : Array Slot} {F : State → Prop} {st : List Value} {k : Fin 4} {v : Value} (X : Stand p l e R s m args below meth c T locs cells slots) (hx : p.tables.exec = Jvm.exec) (hd : decode c.code pc = .ok (.aload_n k, 1)) (hp : pc + 1 = pc') (hl : Ls[k.val]? = some (.val v)) (hv : v.isRef = true) (kk : oGl p e below (T.setTop (mkF m pc' Ls (v :: st))) F) : oGl p e below (T.setTop (mkF m pc Ls (st))) F := by
  subst hp
  exact oOn (fun _ kK => XS.aloadN X.here hx rfl hd hl hv kK) kk
theorem sistore {pc pc' : Nat} {Ls : Array Slot} {F : State → Prop} {st : List Value} {k : Nat} {x : Int32} {l' : Array Slot} (X : Stand p l e R s m args below meth c T locs cells slots) (hx : p.tables.exec = Jvm.exec) (hd : decode c.code pc = .ok (.istore k, 2)) (hp : pc + 2 = pc') (hl : storeLocals Ls k (.int x) = some l') (kk : oGl p e below (T.setTop (mkF m pc' l' (st))) F) : oGl p e below (T.setTop (mkF m pc Ls (.int x :: st))) F := by
  subst hp
  exact oOn (fun _ kK => XS.istore X.here hx rfl hd rfl hl kK) kk
theorem sistoreN {pc pc' : Nat} {Ls : Array Slot} {F : State → Prop} {st : List Value} {k : Fin 4} {x : Int32} {l' : Array Slot} (X : Stand p l e R s m args below meth c T locs cells slots) (hx : p.tables.exec = Jvm.exec) (hd : decode c.code pc = .ok (.istore_n k, 1)) (hp : pc + 1 = pc') (hl : storeLocals Ls k.val (.int x) = some l') (kk : oGl p e below (T.setTop (mkF m pc' l' (st))) F) : oGl p e below (T.setTop (mkF m pc Ls (.int x :: st))) F := by
  subst hp
  exact oOn (fun _ kK => XS.istoreN X.here hx rfl hd rfl hl kK) kk
theorem slstore {pc pc' : Nat} {Ls : Array Slot} {F : State → Prop} {st : List Value} {k : Nat} {x : Int64} {l' : Array Slot} (X : Stand p l e R s m args below meth c T locs cells slots) (hx : p.tables.exec = Jvm.exec) (hd : decode c.code pc = .ok (.lstore k, 2)) (hp : pc + 2 = pc') (hl : storeLocals Ls k (.long x) = some l') (kk : oGl p e below (T.setTop (mkF m pc' l' (st))) F) : oGl p e below (T.setTop (mkF m pc Ls (.long x :: st))) F := by
  subst hp
  exact oOn (fun _ kK => XS.lstore X.here hx rfl hd rfl hl kK) kk
theorem slstoreN {pc pc' : Nat} {Ls : Array Slot} {F : State → Prop} {st : List Value} {k : Fin 4} {x : Int64} {l' : Array Slot} (X : Stand p l e R s m args below meth c T locs cells slots) (hx : p.tables.exec = Jvm.exec) (hd : decode c.code pc = .ok (.lstore_n k, 1)) (hp : pc + 1 = pc') (hl : storeLocals Ls k.val (.long x) = some l') (kk : oGl p e below (T.setTop (mkF m pc' l' (st))) F) : oGl p e below (T.setTop (mkF m pc Ls (.long x :: st))) F := by
  subst hp
  exact oOn (fun _ kK => XS.lstoreN X.here hx rfl hd rfl hl kK) kk
theorem sastore {pc pc' : Nat} {Ls : Array Slot} {F : State → Prop} {st : List Value} {k : Nat} {x : Value} {l' : Array Slot} (X : Stand p l e R s m args below meth c T locs cells slots) (hx : p.tables.exec = Jvm.exec) (hd : decode c.code pc = .ok (.astore k, 2)) (hp : pc + 2 = pc') (hv : x.isRef = true) (hl : storeLocals Ls k x = some l') (kk : oGl p e below (T.setTop (mkF m pc' l' (st))) F) : oGl p e below (T.setTop (mkF m pc Ls (x :: st))) F := by
  subst hp
  exact oOn (fun _ kK => XS.astore X.here hx rfl hd rfl hv hl kK) kk
theorem sastoreN {pc pc' : Nat} {Ls : Array Slot} {F : State → Prop} {st : List Value} {k : Fin 4} {x : Value} {l' : Array Slot} (X : Stand p l e R s m args below meth c T locs cells slots) (hx : p.tables.exec = Jvm.exec) (hd : decode c.code pc = .ok (.astore_n k, 1)) (hp : pc + 1 = pc') (hv : x.isRef = true) (hl : storeLocals Ls k.val x = some l') (kk : oGl p e below (T.setTop (mkF m pc' l' (st))) F) : oGl p e below (T.setTop (mkF m pc Ls (x :: st))) F := by
  subst hp
  exact oOn (fun _ kK => XS.astoreN X.here hx rfl hd rfl hv hl kK) kk
theorem siconst {pc pc' : Nat} {Ls : Array Slot} {F : State → Prop} {st : List Value} {i : Int} {z : Int32} (X : Stand p l e R s m args below meth c T locs cells slots) (hx : p.tables.exec = Jvm.exec) (hd : decode c.code pc = .ok (.iconst i, 1)) (hp : pc + 1 = pc') (hz : Int32.ofInt i = z) (kk : oGl p e below (T.setTop (mkF m pc' Ls (.int z :: st))) F) : oGl p e below (T.setTop (mkF m pc Ls (st))) F := by
  subst hp hz
  exact oOn (fun _ kK => XS.iconst X.here hx rfl hd kK) kk
theorem sbipush {pc pc' : Nat} {Ls : Array Slot} {F : State → Prop} {st : List Value} {i : Int} {z : Int32} (X : Stand p l e R s m args below meth c T locs cells slots) (hx : p.tables.exec = Jvm.exec) (hd : decode c.code pc = .ok (.bipush i, 2)) (hp : pc + 2 = pc') (hz : (Int8.ofInt i).toInt32 = z) (kk : oGl p e below (T.setTop (mkF m pc' Ls (.int z :: st))) F) : oGl p e below (T.setTop (mkF m pc Ls (st))) F := by
  subst hp hz
  exact oOn (fun _ kK => XS.bipush X.here hx rfl hd kK) kk
theorem ssipush {pc pc' : Nat} {Ls : Array Slot} {F : State → Prop} {st : List Value} {i : Int} {z : Int32} (X : Stand p l e R s m args below meth c T locs cells slots) (hx : p.tables.exec = Jvm.exec) (hd : decode c.code pc = .ok (.sipush i, 3)) (hp : pc + 3 = pc') (hz : (Int16.ofInt i).toInt32 = z) (kk : oGl p e below (T.setTop (mkF m pc' Ls (.int z :: st))) F) : oGl p e below (T.setTop (mkF m pc Ls (st))) F := by
  subst hp hz
  exact oOn (fun _ kK => XS.sipush X.here hx rfl hd kK) kk
theorem slconst {pc pc' : Nat} {Ls : Array Slot} {F : State → Prop} {st : List Value} {k : Fin 2} {z : Int64} (X : Stand p l e R s m args below meth c T locs cells slots) (hx : p.tables.exec = Jvm.exec) (hd : decode c.code pc = .ok (.lconst k, 1)) (hp : pc + 1 = pc') (hz : Int64.ofNat k = z) (kk : oGl p e below (T.setTop (mkF m pc' Ls (.long z :: st))) F) : oGl p e below (T.setTop (mkF m pc Ls (st))) F := by
  subst hp hz
  exact oOn (fun _ kK => XS.lconst X.here hx rfl hd kK) kk
theorem saconst_null {pc pc' : Nat} {Ls : Array Slot} {F : State → Prop} {st : List Value} (X : Stand p l e R s m args below meth c T locs cells slots) (hx : p.tables.exec = Jvm.exec) (hd : decode c.code pc = .ok (.aconst_null, 1)) (hp : pc + 1 = pc')  (kk : oGl p e below (T.setTop (mkF m pc' Ls (.null :: st))) F) : oGl p e below (T.setTop (mkF m pc Ls (st))) F := by
  subst hp
  exact oOn (fun _ kK => XS.aconstNull X.here hx rfl hd kK) kk
theorem siadd {pc pc' : Nat} {Ls : Array Slot} {F : State → Prop} {st : List Value} {x y z : Int32} (X : Stand p l e R s m args below meth c T locs cells slots) (hx : p.tables.exec = Jvm.exec) (hd : decode c.code pc = .ok (.iadd, 1)) (hp : pc + 1 = pc') (hz : x + y = z) (kk : oGl p e below (T.setTop (mkF m pc' Ls (.int z :: st))) F) : oGl p e below (T.setTop (mkF m pc Ls (.int y :: .int x :: st))) F := by
  subst hp hz
  exact oOn (fun _ kK => XS.iadd X.here hx rfl hd rfl kK) kk
theorem sladd {pc pc' : Nat} {Ls : Array Slot} {F : State → Prop} {st : List Value} {x y z : Int64} (X : Stand p l e R s m args below meth c T locs cells slots) (hx : p.tables.exec = Jvm.exec) (hd : decode c.code pc = .ok (.ladd, 1)) (hp : pc + 1 = pc') (hz : x + y = z) (kk : oGl p e below (T.setTop (mkF m pc' Ls (.long z :: st))) F) : oGl p e below (T.setTop (mkF m pc Ls (.long y :: .long x :: st))) F := by
  subst hp hz
  exact oOn (fun _ kK => XS.ladd X.here hx rfl hd rfl kK) kk
theorem sisub {pc pc' : Nat} {Ls : Array Slot} {F : State → Prop} {st : List Value} {x y z : Int32} (X : Stand p l e R s m args below meth c T locs cells slots) (hx : p.tables.exec = Jvm.exec) (hd : decode c.code pc = .ok (.isub, 1)) (hp : pc + 1 = pc') (hz : x - y = z) (kk : oGl p e below (T.setTop (mkF m pc' Ls (.int z :: st))) F) : oGl p e below (T.setTop (mkF m pc Ls (.int y :: .int x :: st))) F := by
  subst hp hz
  exact oOn (fun _ kK => XS.isub X.here hx rfl hd rfl kK) kk
theorem slsub {pc pc' : Nat} {Ls : Array Slot} {F : State → Prop} {st : List Value} {x y z : Int64} (X : Stand p l e R s m args below meth c T locs cells slots) (hx : p.tables.exec = Jvm.exec) (hd : decode c.code pc = .ok (.lsub, 1)) (hp : pc + 1 = pc') (hz : x - y = z) (kk : oGl p e below (T.setTop (mkF m pc' Ls (.long z :: st))) F) : oGl p e below (T.setTop (mkF m pc Ls (.long y :: .long x :: st))) F := by
  subst hp hz
  exact oOn (fun _ kK => XS.lsub X.here hx rfl hd rfl kK) kk
theorem simul {pc pc' : Nat} {Ls : Array Slot} {F : State → Prop} {st : List Value} {x y z : Int32} (X : Stand p l e R s m args below meth c T locs cells slots) (hx : p.tables.exec = Jvm.exec) (hd : decode c.code pc = .ok (.imul, 1)) (hp : pc + 1 = pc') (hz : x * y = z) (kk : oGl p e below (T.setTop (mkF m pc' Ls (.int z :: st))) F) : oGl p e below (T.setTop (mkF m pc Ls (.int y :: .int x :: st))) F := by
  subst hp hz
  exact oOn (fun _ kK => XS.imul X.here hx rfl hd rfl kK) kk
theorem slmul {pc pc' : Nat} {Ls : Array Slot} {F : State → Prop} {st : List Value} {x y z : Int64} (X : Stand p l e R s m args below meth c T locs cells slots) (hx : p.tables.exec = Jvm.exec) (hd : decode c.code pc = .ok (.lmul, 1)) (hp : pc + 1 = pc') (hz : x * y = z) (kk : oGl p e below (T.setTop (mkF m pc' Ls (.long z :: st))) F) : oGl p e below (T.setTop (mkF m pc Ls (.long y :: .long x :: st))) F := by
  subst hp hz
  exact oOn (fun _ kK => XS.lmul X.here hx rfl hd rfl kK) kk
theorem siand {pc pc' : Nat} {Ls : Array Slot} {F : State → Prop} {st : List Value} {x y z : Int32} (X : Stand p l e R s m args below meth c T locs cells slots) (hx : p.tables.exec = Jvm.exec) (hd : decode c.code pc = .ok (.iand, 1)) (hp : pc + 1 = pc') (hz : x &&& y = z) (kk : oGl p e below (T.setTop (mkF m pc' Ls (.int z :: st))) F) : oGl p e below (T.setTop (mkF m pc Ls (.int y :: .int x :: st))) F := by
  subst hp hz
  exact oOn (fun _ kK => XS.iand X.here hx rfl hd rfl kK) kk
theorem sland {pc pc' : Nat} {Ls : Array Slot} {F : State → Prop} {st : List Value} {x y z : Int64} (X : Stand p l e R s m args below meth c T locs cells slots) (hx : p.tables.exec = Jvm.exec) (hd : decode c.code pc = .ok (.land, 1)) (hp : pc + 1 = pc') (hz : x &&& y = z) (kk : oGl p e below (T.setTop (mkF m pc' Ls (.long z :: st))) F) : oGl p e below (T.setTop (mkF m pc Ls (.long y :: .long x :: st))) F := by
  subst hp hz
  exact oOn (fun _ kK => XS.land X.here hx rfl hd rfl kK) kk
theorem sior {pc pc' : Nat} {Ls : Array Slot} {F : State → Prop} {st : List Value} {x y z : Int32} (X : Stand p l e R s m args below meth c T locs cells slots) (hx : p.tables.exec = Jvm.exec) (hd : decode c.code pc = .ok (.ior, 1)) (hp : pc + 1 = pc') (hz : x ||| y = z) (kk : oGl p e below (T.setTop (mkF m pc' Ls (.int z :: st))) F) : oGl p e below (T.setTop (mkF m pc Ls (.int y :: .int x :: st))) F := by
  subst hp hz
  exact oOn (fun _ kK => XS.ior X.here hx rfl hd rfl kK) kk
theorem slor {pc pc' : Nat} {Ls : Array Slot} {F : State → Prop} {st : List Value} {x y z : Int64} (X : Stand p l e R s m args below meth c T locs cells slots) (hx : p.tables.exec = Jvm.exec) (hd : decode c.code pc = .ok (.lor, 1)) (hp : pc + 1 = pc') (hz : x ||| y = z) (kk : oGl p e below (T.setTop (mkF m pc' Ls (.long z :: st))) F) : oGl p e below (T.setTop (mkF m pc Ls (.long y :: .long x :: st))) F := by
  subst hp hz
  exact oOn (fun _ kK => XS.lor X.here hx rfl hd rfl kK) kk
theorem sixor {pc pc' : Nat} {Ls : Array Slot} {F : State → Prop} {st : List Value} {x y z : Int32} (X : Stand p l e R s m args below meth c T locs cells slots) (hx : p.tables.exec = Jvm.exec) (hd : decode c.code pc = .ok (.ixor, 1)) (hp : pc + 1 = pc') (hz : x ^^^ y = z) (kk : oGl p e below (T.setTop (mkF m pc' Ls (.int z :: st))) F) : oGl p e below (T.setTop (mkF m pc Ls (.int y :: .int x :: st))) F := by
  subst hp hz
  exact oOn (fun _ kK => XS.ixor X.here hx rfl hd rfl kK) kk
theorem slxor {pc pc' : Nat} {Ls : Array Slot} {F : State → Prop} {st : List Value} {x y z : Int64} (X : Stand p l e R s m args below meth c T locs cells slots) (hx : p.tables.exec = Jvm.exec) (hd : decode c.code pc = .ok (.lxor, 1)) (hp : pc + 1 = pc') (hz : x ^^^ y = z) (kk : oGl p e below (T.setTop (mkF m pc' Ls (.long z :: st))) F) : oGl p e below (T.setTop (mkF m pc Ls (.long y :: .long x :: st))) F := by
  subst hp hz
  exact oOn (fun _ kK => XS.lxor X.here hx rfl hd rfl kK) kk
theorem sishl {pc pc' : Nat} {Ls : Array Slot} {F : State → Prop} {st : List Value} {x y z : Int32} (X : Stand p l e R s m args below meth c T locs cells slots) (hx : p.tables.exec = Jvm.exec) (hd : decode c.code pc = .ok (.ishl, 1)) (hp : pc + 1 = pc') (hz : x <<< (y &&& 31) = z) (kk : oGl p e below (T.setTop (mkF m pc' Ls (.int z :: st))) F) : oGl p e below (T.setTop (mkF m pc Ls (.int y :: .int x :: st))) F := by
  subst hp hz
  exact oOn (fun _ kK => XS.ishl X.here hx rfl hd rfl kK) kk
theorem sishr {pc pc' : Nat} {Ls : Array Slot} {F : State → Prop} {st : List Value} {x y z : Int32} (X : Stand p l e R s m args below meth c T locs cells slots) (hx : p.tables.exec = Jvm.exec) (hd : decode c.code pc = .ok (.ishr, 1)) (hp : pc + 1 = pc') (hz : x >>> (y &&& 31) = z) (kk : oGl p e below (T.setTop (mkF m pc' Ls (.int z :: st))) F) : oGl p e below (T.setTop (mkF m pc Ls (.int y :: .int x :: st))) F := by
  subst hp hz
  exact oOn (fun _ kK => XS.ishr X.here hx rfl hd rfl kK) kk
theorem siushr {pc pc' : Nat} {Ls : Array Slot} {F : State → Prop} {st : List Value} {x y z : Int32} (X : Stand p l e R s m args below meth c T locs cells slots) (hx : p.tables.exec = Jvm.exec) (hd : decode c.code pc = .ok (.iushr, 1)) (hp : pc + 1 = pc') (hz : (x.toUInt32 >>> (y &&& 31).toUInt32).toInt32 = z) (kk : oGl p e below (T.setTop (mkF m pc' Ls (.int z :: st))) F) : oGl p e below (T.setTop (mkF m pc Ls (.int y :: .int x :: st))) F := by
  subst hp hz
  exact oOn (fun _ kK => XS.iushr X.here hx rfl hd rfl kK) kk
theorem slshl {pc pc' : Nat} {Ls : Array Slot} {F : State → Prop} {st : List Value} {x z : Int64} {y : Int32} (X : Stand p l e R s m args below meth c T locs cells slots) (hx : p.tables.exec = Jvm.exec) (hd : decode c.code pc = .ok (.lshl, 1)) (hp : pc + 1 = pc') (hz : x <<< (y &&& 0x3f).toInt64 = z) (kk : oGl p e below (T.setTop (mkF m pc' Ls (.long z :: st))) F) : oGl p e below (T.setTop (mkF m pc Ls (.int y :: .long x :: st))) F := by
  subst hp hz
  exact oOn (fun _ kK => XS.lshl X.here hx rfl hd rfl kK) kk
theorem slshr {pc pc' : Nat} {Ls : Array Slot} {F : State → Prop} {st : List Value} {x z : Int64} {y : Int32} (X : Stand p l e R s m args below meth c T locs cells slots) (hx : p.tables.exec = Jvm.exec) (hd : decode c.code pc = .ok (.lshr, 1)) (hp : pc + 1 = pc') (hz : x >>> (y &&& 0x3f).toInt64 = z) (kk : oGl p e below (T.setTop (mkF m pc' Ls (.long z :: st))) F) : oGl p e below (T.setTop (mkF m pc Ls (.int y :: .long x :: st))) F := by
  subst hp hz
  exact oOn (fun _ kK => XS.lshr X.here hx rfl hd rfl kK) kk
theorem slushr {pc pc' : Nat} {Ls : Array Slot} {F : State → Prop} {st : List Value} {x z : Int64} {y : Int32} (X : Stand p l e R s m args below meth c T locs cells slots) (hx : p.tables.exec = Jvm.exec) (hd : decode c.code pc = .ok (.lushr, 1)) (hp : pc + 1 = pc') (hz : (x.toUInt64 >>> (y &&& 0x3f).toInt64.toUInt64).toInt64 = z) (kk : oGl p e below (T.setTop (mkF m pc' Ls (.long z :: st))) F) : oGl p e below (T.setTop (mkF m pc Ls (.int y :: .long x :: st))) F := by
  subst hp hz
  exact oOn (fun _ kK => XS.lushr X.here hx rfl hd rfl kK) kk
theorem sineg {pc pc' : Nat} {Ls : Array Slot} {F : State → Prop} {st : List Value} {x : Int32} {z : Int32} (X : Stand p l e R s m args below meth c T locs cells slots) (hx : p.tables.exec = Jvm.exec) (hd : decode c.code pc = .ok (.ineg, 1)) (hp : pc + 1 = pc') (hz : -x = z) (kk : oGl p e below (T.setTop (mkF m pc' Ls (.int z :: st))) F) : oGl p e below (T.setTop (mkF m pc Ls (.int x :: st))) F := by
  subst hp hz
  exact oOn (fun _ kK => XS.ineg X.here hx rfl hd rfl kK) kk
theorem slneg {pc pc' : Nat} {Ls : Array Slot} {F : State → Prop} {st : List Value} {x : Int64} {z : Int64} (X : Stand p l e R s m args below meth c T locs cells slots) (hx : p.tables.exec = Jvm.exec) (hd : decode c.code pc = .ok (.lneg, 1)) (hp : pc + 1 = pc') (hz : -x = z) (kk : oGl p e below (T.setTop (mkF m pc' Ls (.long z :: st))) F) : oGl p e below (T.setTop (mkF m pc Ls (.long x :: st))) F := by
  subst hp hz
  exact oOn (fun _ kK => XS.lneg X.here hx rfl hd rfl kK) kk
theorem si2l {pc pc' : Nat} {Ls : Array Slot} {F : State → Prop} {st : List Value} {x : Int32} {z : Int64} (X : Stand p l e R s m args below meth c T locs cells slots) (hx : p.tables.exec = Jvm.exec) (hd : decode c.code pc = .ok (.i2l, 1)) (hp : pc + 1 = pc') (hz : x.toInt64 = z) (kk : oGl p e below (T.setTop (mkF m pc' Ls (.long z :: st))) F) : oGl p e below (T.setTop (mkF m pc Ls (.int x :: st))) F := by
  subst hp hz
  exact oOn (fun _ kK => XS.i2l X.here hx rfl hd rfl kK) kk
theorem sl2i {pc pc' : Nat} {Ls : Array Slot} {F : State → Prop} {st : List Value} {x : Int64} {z : Int32} (X : Stand p l e R s m args below meth c T locs cells slots) (hx : p.tables.exec = Jvm.exec) (hd : decode c.code pc = .ok (.l2i, 1)) (hp : pc + 1 = pc') (hz : x.toInt32 = z) (kk : oGl p e below (T.setTop (mkF m pc' Ls (.int z :: st))) F) : oGl p e below (T.setTop (mkF m pc Ls (.long x :: st))) F := by
  subst hp hz
  exact oOn (fun _ kK => XS.l2i X.here hx rfl hd rfl kK) kk
theorem si2b {pc pc' : Nat} {Ls : Array Slot} {F : State → Prop} {st : List Value} {x : Int32} {z : Int32} (X : Stand p l e R s m args below meth c T locs cells slots) (hx : p.tables.exec = Jvm.exec) (hd : decode c.code pc = .ok (.i2b, 1)) (hp : pc + 1 = pc') (hz : x.toInt8.toInt32 = z) (kk : oGl p e below (T.setTop (mkF m pc' Ls (.int z :: st))) F) : oGl p e below (T.setTop (mkF m pc Ls (.int x :: st))) F := by
  subst hp hz
  exact oOn (fun _ kK => XS.i2b X.here hx rfl hd rfl kK) kk
theorem si2s {pc pc' : Nat} {Ls : Array Slot} {F : State → Prop} {st : List Value} {x : Int32} {z : Int32} (X : Stand p l e R s m args below meth c T locs cells slots) (hx : p.tables.exec = Jvm.exec) (hd : decode c.code pc = .ok (.i2s, 1)) (hp : pc + 1 = pc') (hz : x.toInt16.toInt32 = z) (kk : oGl p e below (T.setTop (mkF m pc' Ls (.int z :: st))) F) : oGl p e below (T.setTop (mkF m pc Ls (.int x :: st))) F := by
  subst hp hz
  exact oOn (fun _ kK => XS.i2s X.here hx rfl hd rfl kK) kk
theorem si2c {pc pc' : Nat} {Ls : Array Slot} {F : State → Prop} {st : List Value} {x : Int32} {z : Int32} (X : Stand p l e R s m args below meth c T locs cells slots) (hx : p.tables.exec = Jvm.exec) (hd : decode c.code pc = .ok (.i2c, 1)) (hp : pc + 1 = pc') (hz : x.toUInt32.toUInt16.toUInt32.toInt32 = z) (kk : oGl p e below (T.setTop (mkF m pc' Ls (.int z :: st))) F) : oGl p e below (T.setTop (mkF m pc Ls (.int x :: st))) F := by
  subst hp hz
  exact oOn (fun _ kK => XS.i2c X.here hx rfl hd rfl kK) kk
theorem slcmp {pc pc' : Nat} {Ls : Array Slot} {F : State → Prop} {st : List Value} {x y : Int64} (X : Stand p l e R s m args below meth c T locs cells slots) (hx : p.tables.exec = Jvm.exec) (hd : decode c.code pc = .ok (.lcmp, 1)) (hp : pc + 1 = pc')  (kk : oGl p e below (T.setTop (mkF m pc' Ls (.int (lcmpW x y) :: st))) F) : oGl p e below (T.setTop (mkF m pc Ls (.long y :: .long x :: st))) F := by
  subst hp
  exact oOn (fun _ kK => XS.lcmp X.here hx rfl hd rfl kK) kk
theorem sirem {pc pc' : Nat} {Ls : Array Slot} {F : State → Prop} {st : List Value} {x y z : Int32} (X : Stand p l e R s m args below meth c T locs cells slots) (hx : p.tables.exec = Jvm.exec) (hd : decode c.code pc = .ok (.irem, 1)) (hp : pc + 1 = pc') (hy : y ≠ 0) (hz : x % y = z) (kk : oGl p e below (T.setTop (mkF m pc' Ls (.int z :: st))) F) : oGl p e below (T.setTop (mkF m pc Ls (.int y :: .int x :: st))) F := by
  subst hp hz
  exact oOn (fun _ kK => iremM X hx rfl hd rfl hy kK) kk
theorem sidiv {pc pc' : Nat} {Ls : Array Slot} {F : State → Prop} {st : List Value} {x y z : Int32} (X : Stand p l e R s m args below meth c T locs cells slots) (hx : p.tables.exec = Jvm.exec) (hd : decode c.code pc = .ok (.idiv, 1)) (hp : pc + 1 = pc') (hy : y ≠ 0) (hz : x / y = z) (kk : oGl p e below (T.setTop (mkF m pc' Ls (.int z :: st))) F) : oGl p e below (T.setTop (mkF m pc Ls (.int y :: .int x :: st))) F := by
  subst hp hz
  exact oOn (fun _ kK => XS.idiv X.here hx rfl hd rfl hy kK) kk
theorem siinc {pc pc' : Nat} {Ls : Array Slot} {F : State → Prop} {st : List Value} {k : Nat} {cst : Int} {x : Int32} {l' : Array Slot} (X : Stand p l e R s m args below meth c T locs cells slots) (hx : p.tables.exec = Jvm.exec) (hd : decode c.code pc = .ok (.iinc k cst, 3)) (hp : pc + 3 = pc') (hl : Ls[k]? = some (.val (.int x))) (hl' : storeLocals Ls k (.int (x + Int32.ofInt cst)) = some l') (kk : oGl p e below (T.setTop (mkF m pc' l' (st))) F) : oGl p e below (T.setTop (mkF m pc Ls (st))) F := by
  subst hp
  exact oOn (fun _ kK => XS.iinc X.here hx rfl hd hl hl' kK) kk
theorem sdup {pc pc' : Nat} {Ls : Array Slot} {F : State → Prop} {st : List Value} {x : Value} (X : Stand p l e R s m args below meth c T locs cells slots) (hx : p.tables.exec = Jvm.exec) (hd : decode c.code pc = .ok (.dup, 1)) (hp : pc + 1 = pc') (hc : x.category = 1) (kk : oGl p e below (T.setTop (mkF m pc' Ls (x :: x :: st))) F) : oGl p e below (T.setTop (mkF m pc Ls (x :: st))) F := by
  subst hp
  exact oOn (fun _ kK => XS.dup X.here hx rfl hd rfl hc kK) kk
theorem spop {pc pc' : Nat} {Ls : Array Slot} {F : State → Prop} {st : List Value} {x : Value} (X : Stand p l e R s m args below meth c T locs cells slots) (hx : p.tables.exec = Jvm.exec) (hd : decode c.code pc = .ok (.pop, 1)) (hp : pc + 1 = pc') (hc : x.category = 1) (kk : oGl p e below (T.setTop (mkF m pc' Ls (st))) F) : oGl p e below (T.setTop (mkF m pc Ls (x :: st))) F := by
  subst hp
  exact oOn (fun _ kK => XS.pop X.here hx rfl hd rfl hc kK) kk
theorem sdup_x1 {pc pc' : Nat} {Ls : Array Slot} {F : State → Prop} {st : List Value} {x y : Value} (X : Stand p l e R s m args below meth c T locs cells slots) (hx : p.tables.exec = Jvm.exec) (hd : decode c.code pc = .ok (.dup_x1, 1)) (hp : pc + 1 = pc') (hc : x.category = 1) (hc2 : y.category = 1) (kk : oGl p e below (T.setTop (mkF m pc' Ls (x :: y :: x :: st))) F) : oGl p e below (T.setTop (mkF m pc Ls (x :: y :: st))) F := by
  subst hp
  exact oOn (fun _ kK => XS.dupX1 X.here hx rfl hd rfl hc hc2 kK) kk
theorem sdup2 {pc pc' : Nat} {Ls : Array Slot} {F : State → Prop} {st : List Value} {x y : Value} (X : Stand p l e R s m args below meth c T locs cells slots) (hx : p.tables.exec = Jvm.exec) (hd : decode c.code pc = .ok (.dup2, 1)) (hp : pc + 1 = pc') (hc : x.category = 1) (hc2 : y.category = 1) (kk : oGl p e below (T.setTop (mkF m pc' Ls (x :: y :: x :: y :: st))) F) : oGl p e below (T.setTop (mkF m pc Ls (x :: y :: st))) F := by
  subst hp
  exact oOn (fun _ kK => oDup2 X.here hx rfl hd rfl hc hc2 kK) kk
theorem sdup_x2 {pc pc' : Nat} {Ls : Array Slot} {F : State → Prop} {st : List Value} {x y z : Value} (X : Stand p l e R s m args below meth c T locs cells slots) (hx : p.tables.exec = Jvm.exec) (hd : decode c.code pc = .ok (.dup_x2, 1)) (hp : pc + 1 = pc') (hc : x.category = 1) (hc2 : y.category = 1) (hc3 : z.category = 1) (kk : oGl p e below (T.setTop (mkF m pc' Ls (x :: y :: z :: x :: st))) F) : oGl p e below (T.setTop (mkF m pc Ls (x :: y :: z :: st))) F := by
  subst hp
  exact oOn (fun _ kK => oDupX2 X.here hx rfl hd rfl hc hc2 hc3 kK) kk
theorem sgoto {pc pc' : Nat} {Ls : Array Slot} {st : List Value} {F : State → Prop} {o : Int}  (X : Stand p l e R s m args below meth c T locs cells slots) (hx : p.tables.exec = Jvm.exec) (hd : decode c.code pc = .ok (.goto o, 3)) (ho : 0 ≤ (pc : Int) + o) (hp : ((pc : Int) + o).toNat = pc')  (kk : oGl p e below (T.setTop (mkF m pc' Ls st)) F) : oGl p e below (T.setTop (mkF m pc Ls (st))) F :=
  oOn (fun _ kK => XS.goto X.here hx rfl rfl hd ho hp kK) kk
theorem sifY {pc pc' : Nat} {Ls : Array Slot} {st : List Value} {F : State → Prop} {o : Int} {cd : ClassFile.Cond} {x : Int32} (X : Stand p l e R s m args below meth c T locs cells slots) (hx : p.tables.exec = Jvm.exec) (hd : decode c.code pc = .ok (.ifCond cd o, 3)) (ho : 0 ≤ (pc : Int) + o) (hp : ((pc : Int) + o).toNat = pc') (hc : if_icmp.holds cd x 0 = true) (kk : oGl p e below (T.setTop (mkF m pc' Ls st)) F) : oGl p e below (T.setTop (mkF m pc Ls (.int x :: st))) F :=
  oOn (fun _ kK => XS.ifYes X.here hx rfl rfl hd rfl ((if0 _ _).trans hc) ho hp kK) kk
theorem sicY {pc pc' : Nat} {Ls : Array Slot} {st : List Value} {F : State → Prop} {o : Int} {cd : ClassFile.Cond} {x y : Int32} (X : Stand p l e R s m args below meth c T locs cells slots) (hx : p.tables.exec = Jvm.exec) (hd : decode c.code pc = .ok (.if_icmp cd o, 3)) (ho : 0 ≤ (pc : Int) + o) (hp : ((pc : Int) + o).toNat = pc') (hc : if_icmp.holds cd x y = true) (kk : oGl p e below (T.setTop (mkF m pc' Ls st)) F) : oGl p e below (T.setTop (mkF m pc Ls (.int y :: .int x :: st))) F :=
  oOn (fun _ kK => XS.icmpYes X.here hx rfl rfl hd rfl hc ho hp kK) kk
theorem sifnullY {pc pc' : Nat} {Ls : Array Slot} {st : List Value} {F : State → Prop} {o : Int}  (X : Stand p l e R s m args below meth c T locs cells slots) (hx : p.tables.exec = Jvm.exec) (hd : decode c.code pc = .ok (.ifnull o, 3)) (ho : 0 ≤ (pc : Int) + o) (hp : ((pc : Int) + o).toNat = pc')  (kk : oGl p e below (T.setTop (mkF m pc' Ls st)) F) : oGl p e below (T.setTop (mkF m pc Ls (.null :: st))) F :=
  oOn (fun _ kK => XS.ifnullYes X.here hx rfl rfl hd rfl ho hp kK) kk
theorem sifnonnullY {pc pc' : Nat} {Ls : Array Slot} {st : List Value} {F : State → Prop} {o : Int} {b : Addr} (X : Stand p l e R s m args below meth c T locs cells slots) (hx : p.tables.exec = Jvm.exec) (hd : decode c.code pc = .ok (.ifnonnull o, 3)) (ho : 0 ≤ (pc : Int) + o) (hp : ((pc : Int) + o).toNat = pc')  (kk : oGl p e below (T.setTop (mkF m pc' Ls st)) F) : oGl p e below (T.setTop (mkF m pc Ls (.ref b :: st))) F :=
  oOn (fun _ kK => XS.ifnonnullYes X.here hx rfl rfl hd rfl ho hp kK) kk
theorem sifN {pc pc' : Nat} {Ls : Array Slot} {F : State → Prop} {st : List Value} {cd : ClassFile.Cond} {o : Int} {x : Int32} (X : Stand p l e R s m args below meth c T locs cells slots) (hx : p.tables.exec = Jvm.exec) (hd : decode c.code pc = .ok (.ifCond cd o, 3)) (hp : pc + 3 = pc') (hc : if_icmp.holds cd x 0 = false) (kk : oGl p e below (T.setTop (mkF m pc' Ls (st))) F) : oGl p e below (T.setTop (mkF m pc Ls (.int x :: st))) F := by
  subst hp
  exact oOn (fun _ kK => XS.ifNo X.here hx rfl hd rfl ((if0 _ _).trans hc) kK) kk
theorem sicN {pc pc' : Nat} {Ls : Array Slot} {F : State → Prop} {st : List Value} {cd : ClassFile.Cond} {o : Int} {x y : Int32} (X : Stand p l e R s m args below meth c T locs cells slots) (hx : p.tables.exec = Jvm.exec) (hd : decode c.code pc = .ok (.if_icmp cd o, 3)) (hp : pc + 3 = pc') (hc : if_icmp.holds cd x y = false) (kk : oGl p e below (T.setTop (mkF m pc' Ls (st))) F) : oGl p e below (T.setTop (mkF m pc Ls (.int y :: .int x :: st))) F := by
  subst hp
  exact oOn (fun _ kK => XS.icmpNo X.here hx rfl hd rfl hc kK) kk
theorem sifnullN {pc pc' : Nat} {Ls : Array Slot} {F : State → Prop} {st : List Value} {o : Int} {b : Addr} (X : Stand p l e R s m args below meth c T locs cells slots) (hx : p.tables.exec = Jvm.exec) (hd : decode c.code pc = .ok (.ifnull o, 3)) (hp : pc + 3 = pc')  (kk : oGl p e below (T.setTop (mkF m pc' Ls (st))) F) : oGl p e below (T.setTop (mkF m pc Ls (.ref b :: st))) F := by
  subst hp
  exact oOn (fun _ kK => XS.ifnullNo X.here hx rfl hd rfl kK) kk
theorem sifnonnullN {pc pc' : Nat} {Ls : Array Slot} {F : State → Prop} {st : List Value} {o : Int} (X : Stand p l e R s m args below meth c T locs cells slots) (hx : p.tables.exec = Jvm.exec) (hd : decode c.code pc = .ok (.ifnonnull o, 3)) (hp : pc + 3 = pc')  (kk : oGl p e below (T.setTop (mkF m pc' Ls (st))) F) : oGl p e below (T.setTop (mkF m pc Ls (.null :: st))) F := by
  subst hp
  exact oOn (fun _ kK => XS.ifnonnullNo X.here hx rfl hd rfl kK) kk
/-! arrays of ints, bytes, chars, shorts, booleans: place j holds f j -/
def oAI (Z : State) (h : Heap) (a : Addr) (ty : FieldType) (n : Nat) (f : Nat → Int32) : Prop := ∃ c : Cell, Arr Z h a c ty ∧ c.slots.size = n ∧ n < 2147483648 ∧ ∀ j, j < n → c.slots[j]? = some (.int (f j))
def oUp {α : Type} (f : Nat → α) (i : Nat) (x : α) : Nat → α := fun k => if k = i then x else f k
theorem oUp_hit {α : Type} {f : Nat → α} {i : Nat} {x : α} : oUp f i x i = x := if_pos rfl
theorem oUp_miss {α : Type} {f : Nat → α} {i k : Nat} {x : α} (q : k ≠ i) : oUp f i x k = f k := if_neg q
variable {n : Nat} {f f' : Nat → Int32} {sl : Nat} {v : Value} {ws : List Addr}
theorem oAI.lt (F : oAI Z h a ty n f) : @LT.lt Nat _ a h.size := by obtain ⟨c, A, -⟩ := F; exact A.lt
theorem oAI.small (F : oAI Z h a ty n f) : n < 2147483648 := by obtain ⟨c, -, -, q, -⟩ := F; exact q
theorem oAI.ext (F : oAI Z h a ty n f) (E : Ext h h') : oAI Z h' a ty n f := by obtain ⟨c, A, r⟩ := F; exact ⟨c, A.ext E, r⟩
theorem oAI.other (F : oAI Z h b ty n f) (W : Wr h h' a sl v) (q : b ≠ a) : oAI Z h' b ty n f := by obtain ⟨c, A, r⟩ := F; exact ⟨c, A.other W q, r⟩
theorem oAI.keep (F : oAI Z h a ty n f) (K : Keep h h' ws) (q : a ∉ ws) : oAI Z h' a ty n f := by obtain ⟨c, A, r⟩ := F; exact ⟨c, ⟨K.2.1 a c A.1 q, A.2⟩, r⟩
theorem oAI.congr (F : oAI Z h a ty n f) (q : ∀ j, j < n → f j = f' j) : oAI Z h a ty n f' := by obtain ⟨c, A, r1, r2, r3⟩ := F; exact ⟨c, A, r1, r2, fun j hj => by rw [← q j hj]; exact r3 j hj⟩
theorem oAI.new {k : ClassId} {z : Int32} (A : Arr Z h a (newA k ty z) ty) (hn : z.toInt.toNat = n) (hd : defaultValue ty = .int 0 := by rfl) : oAI Z h a ty n (fun _ => 0) := by
  refine ⟨_, A, ?_, ?_, fun j hj => ?_⟩
  · rw [sz_new]; exact hn
  · have := z.toInt_lt; omega
  · have hs : (newA k ty z).slots.size = n := by rw [sz_new]; exact hn
    simp only [newA] at hs ⊢
    rw [Array.getElem?_replicate, if_pos (by simpa using (by simpa using hs : z.toNatClampNeg = n) ▸ hj), hd]
theorem oNotIn {j : Int32} {cl : Cell} (hs : cl.slots.size = n) (hj : 0 ≤ j.toInt ∧ j.toInt < n) : ¬ (j < 0 ∨ cl.slots.size ≤ j.toNatClampNeg) := by
  have h1 : j.toNatClampNeg = j.toInt.toNat := rfl
  rw [hs, h1, Int32.lt_iff_toInt_lt]
  have h2 : (0 : Int32).toInt = 0 := rfl
  rw [h2]; omega
theorem oAI.at (F : oAI Z h a ty n f) {j : Int32} (hj : 0 ≤ j.toInt ∧ j.toInt < n) : ∃ c : Cell, Arr Z h a c ty ∧ ¬ (j < 0 ∨ c.slots.size ≤ j.toNatClampNeg) ∧ c.slots[j.toNatClampNeg]? = some (.int (f j.toInt.toNat)) := by
  obtain ⟨c, A, S, q, G⟩ := F
  exact ⟨c, A, oNotIn S hj, G j.toInt.toNat (by omega)⟩
theorem oAI.set {j : Int32} {x : Int32} (F : oAI Z h a ty n f) (W : Wr h h' a j.toNatClampNeg (.int x)) (hj : 0 ≤ j.toInt ∧ j.toInt < n) : oAI Z h' a ty n (oUp f j.toInt.toNat x) := by
  obtain ⟨c, A, S, q, G⟩ := F
  refine ⟨_, A.same W, by rw [sz_set]; exact S, q, fun k hk => ?_⟩
  have h1 : j.toNatClampNeg = j.toInt.toNat := rfl
  show (c.slots.setIfInBounds j.toNatClampNeg (.int x))[k]? = _
  by_cases e : k = j.toInt.toNat
  · subst e; rw [oUp_hit, h1, Array.getElem?_setIfInBounds_self_of_lt (by rw [S]; exact hk)]
  · rw [oUp_miss e, h1, Array.getElem?_setIfInBounds_ne (Ne.symm e)]; exact G k hk
theorem oAI.len (F : oAI Z h a ty n f) (X : Stand p l e R s m args below meth c T locs cells slots) (hx : p.tables.exec = Jvm.exec) (hZ : Z.Warmed39 s.vm) (eT : T.heap = h) {g : JFrame} (hg : g.method = m) {rest : List Value} (hs : g.stack = .ref a :: rest) (hd : decode c.code g.pc = .ok (.arraylength, 1)) :
    ∀ t, Steps p.tables e below (T.setTop { g with pc := g.pc + 1, stack := .int (Int32.ofNat n) :: rest }) t → Steps p.tables e below (T.setTop g) t := by
  obtain ⟨cl, A, S, -, -⟩ := F
  intro t k
  refine X.arraylength hx (by rw [eT]; exact A.1) (State.isArrayOf_alike hZ.alike A.2.1) hg hs hd _ ?_
  rw [S]; exact k
theorem oAI.ldI (F : oAI Z h a .int n f) (X : Stand p l e R s m args below meth c T locs cells slots) (hx : p.tables.exec = Jvm.exec) (hZ : Z.Warmed39 s.vm) (eT : T.heap = h) {j : Int32} (hj : 0 ≤ j.toInt ∧ j.toInt < n) {g : JFrame} (hg : g.method = m) {rest : List Value} (hs : g.stack = .int j :: .ref a :: rest) (hd : decode c.code g.pc = .ok (.iaload, 1)) :
    ∀ t, Steps p.tables e below (T.setTop { g with pc := g.pc + 1, stack := .int (f j.toInt.toNat) :: rest }) t → Steps p.tables e below (T.setTop g) t := by
  obtain ⟨cl, A, q1, q2⟩ := F.at hj
  exact X.iaload hx (by rw [eT]; exact A.1) (State.isArrayOf_alike hZ.alike A.2.1) A.2.2 q1 q2 hg hs hd
theorem oAI.ldB (F : oAI Z h a .byte n f) (X : Stand p l e R s m args below meth c T locs cells slots) (hx : p.tables.exec = Jvm.exec) (hZ : Z.Warmed39 s.vm) (eT : T.heap = h) {j : Int32} (hj : 0 ≤ j.toInt ∧ j.toInt < n) {g : JFrame} (hg : g.method = m) {rest : List Value} (hs : g.stack = .int j :: .ref a :: rest) (hd : decode c.code g.pc = .ok (.baload, 1)) :
    ∀ t, Steps p.tables e below (T.setTop { g with pc := g.pc + 1, stack := .int (f j.toInt.toNat) :: rest }) t → Steps p.tables e below (T.setTop g) t := by
  obtain ⟨cl, A, q1, q2⟩ := F.at hj
  exact X.baloadBytes hx (by rw [eT]; exact A.1) (State.isArrayOf_alike hZ.alike A.2.1) A.2.2 q1 q2 hg hs hd
theorem oAI.ldZ (F : oAI Z h a .boolean n f) (X : Stand p l e R s m args below meth c T locs cells slots) (hx : p.tables.exec = Jvm.exec) (hZ : Z.Warmed39 s.vm) (eT : T.heap = h) {j : Int32} (hj : 0 ≤ j.toInt ∧ j.toInt < n) {g : JFrame} (hg : g.method = m) {rest : List Value} (hs : g.stack = .int j :: .ref a :: rest) (hd : decode c.code g.pc = .ok (.baload, 1)) :
    ∀ t, Steps p.tables e below (T.setTop { g with pc := g.pc + 1, stack := .int (f j.toInt.toNat) :: rest }) t → Steps p.tables e below (T.setTop g) t := by
  obtain ⟨cl, A, q1, q2⟩ := F.at hj
  exact X.baloadBooleans hx (by rw [eT]; exact A.1) (State.isArrayOf_alike hZ.alike A.2.1) A.2.2 q1 q2 hg hs hd
theorem oAI.ldC (F : oAI Z h a .char n f) (X : Stand p l e R s m args below meth c T locs cells slots) (hx : p.tables.exec = Jvm.exec) (hZ : Z.Warmed39 s.vm) (eT : T.heap = h) {j : Int32} (hj : 0 ≤ j.toInt ∧ j.toInt < n) {g : JFrame} (hg : g.method = m) {rest : List Value} (hs : g.stack = .int j :: .ref a :: rest) (hd : decode c.code g.pc = .ok (.caload, 1)) :
    ∀ t, Steps p.tables e below (T.setTop { g with pc := g.pc + 1, stack := .int (f j.toInt.toNat) :: rest }) t → Steps p.tables e below (T.setTop g) t := by
  obtain ⟨cl, A, q1, q2⟩ := F.at hj
  exact X.caload hx (by rw [eT]; exact A.1) (State.isArrayOf_alike hZ.alike A.2.1) A.2.2 q1 q2 hg hs hd
theorem oAI.ldS (F : oAI Z h a .short n f) (X : Stand p l e R s m args below meth c T locs cells slots) (hx : p.tables.exec = Jvm.exec) (hZ : Z.Warmed39 s.vm) (eT : T.heap = h) {j : Int32} (hj : 0 ≤ j.toInt ∧ j.toInt < n) {g : JFrame} (hg : g.method = m) {rest : List Value} (hs : g.stack = .int j :: .ref a :: rest) (hd : decode c.code g.pc = .ok (.saload, 1)) :
    ∀ t, Steps p.tables e below (T.setTop { g with pc := g.pc + 1, stack := .int (f j.toInt.toNat) :: rest }) t → Steps p.tables e below (T.setTop g) t := by
  obtain ⟨cl, A, q1, q2⟩ := F.at hj
  exact X.saload hx (by rw [eT]; exact A.1) (State.isArrayOf_alike hZ.alike A.2.1) A.2.2 q1 q2 hg hs hd
theorem oAI.stI (F : oAI Z h a .int n f) (X : Stand p l e R s m args below meth c T locs cells slots) (hx : p.tables.exec = Jvm.exec) (hZ : Z.Warmed39 s.vm) (eT : T.heap = h) {j x : Int32} (hj : 0 ≤ j.toInt ∧ j.toInt < n) {g : JFrame} (hg : g.method = m) {rest : List Value} (hs : g.stack = .int x :: .int j :: .ref a :: rest) (hd : decode c.code g.pc = .ok (.iastore, 1)) :
    ∃ T' h', Stand p l e R s m args below meth c T' (locs ++ [⟨a, j.toNatClampNeg⟩]) cells slots ∧ T'.heap = h' ∧ Wr h h' a j.toNatClampNeg (.int x) ∧ oAI Z h' a .int n (oUp f j.toInt.toNat x) ∧ ∀ t, Steps p.tables e below (T'.setTop { g with pc := g.pc + 1, stack := rest }) t → Steps p.tables e below (T.setTop g) t := by
  have F' := F
  obtain ⟨cl, A, S, q, G⟩ := F'
  obtain ⟨T', h', X', e', W, st⟩ := Jvm.RoadKit.stI X hx hZ eT A (x := x) (oNotIn S hj) hg hs hd
  exact ⟨T', h', X', e', W, F.set W hj, st⟩
theorem oAI.stB (F : oAI Z h a .byte n f) (X : Stand p l e R s m args below meth c T locs cells slots) (hx : p.tables.exec = Jvm.exec) (hZ : Z.Warmed39 s.vm) (eT : T.heap = h) {j x : Int32} (hj : 0 ≤ j.toInt ∧ j.toInt < n) {g : JFrame} (hg : g.method = m) {rest : List Value} (hs : g.stack = .int x :: .int j :: .ref a :: rest) (hd : decode c.code g.pc = .ok (.bastore, 1)) :
    ∃ T' h', Stand p l e R s m args below meth c T' (locs ++ [⟨a, j.toNatClampNeg⟩]) cells slots ∧ T'.heap = h' ∧ Wr h h' a j.toNatClampNeg (.int (nar .byte x)) ∧ oAI Z h' a .byte n (oUp f j.toInt.toNat (nar .byte x)) ∧ ∀ t, Steps p.tables e below (T'.setTop { g with pc := g.pc + 1, stack := rest }) t → Steps p.tables e below (T.setTop g) t := by
  have F' := F
  obtain ⟨cl, A, S, q, G⟩ := F'
  obtain ⟨T', h', X', e', W, st⟩ := Jvm.RoadKit.stB X hx hZ eT A (x := x) (oNotIn S hj) hg hs hd
  exact ⟨T', h', X', e', W, F.set W hj, st⟩
theorem oAI.stZ (F : oAI Z h a .boolean n f) (X : Stand p l e R s m args below meth c T locs cells slots) (hx : p.tables.exec = Jvm.exec) (hZ : Z.Warmed39 s.vm) (eT : T.heap = h) {j x : Int32} (hj : 0 ≤ j.toInt ∧ j.toInt < n) {g : JFrame} (hg : g.method = m) {rest : List Value} (hs : g.stack = .int x :: .int j :: .ref a :: rest) (hd : decode c.code g.pc = .ok (.bastore, 1)) :
    ∃ T' h', Stand p l e R s m args below meth c T' (locs ++ [⟨a, j.toNatClampNeg⟩]) cells slots ∧ T'.heap = h' ∧ Wr h h' a j.toNatClampNeg (.int (nar .boolean x)) ∧ oAI Z h' a .boolean n (oUp f j.toInt.toNat (nar .boolean x)) ∧ ∀ t, Steps p.tables e below (T'.setTop { g with pc := g.pc + 1, stack := rest }) t → Steps p.tables e below (T.setTop g) t := by
  have F' := F
  obtain ⟨cl, A, S, q, G⟩ := F'
  obtain ⟨T', h', X', e', W, st⟩ := Jvm.RoadKit.stZ X hx hZ eT A (x := x) (oNotIn S hj) hg hs hd
  exact ⟨T', h', X', e', W, F.set W hj, st⟩
theorem oAI.stC (F : oAI Z h a .char n f) (X : Stand p l e R s m args below meth c T locs cells slots) (hx : p.tables.exec = Jvm.exec) (hZ : Z.Warmed39 s.vm) (eT : T.heap = h) {j x : Int32} (hj : 0 ≤ j.toInt ∧ j.toInt < n) {g : JFrame} (hg : g.method = m) {rest : List Value} (hs : g.stack = .int x :: .int j :: .ref a :: rest) (hd : decode c.code g.pc = .ok (.castore, 1)) :
    ∃ T' h', Stand p l e R s m args below meth c T' (locs ++ [⟨a, j.toNatClampNeg⟩]) cells slots ∧ T'.heap = h' ∧ Wr h h' a j.toNatClampNeg (.int (nar .char x)) ∧ oAI Z h' a .char n (oUp f j.toInt.toNat (nar .char x)) ∧ ∀ t, Steps p.tables e below (T'.setTop { g with pc := g.pc + 1, stack := rest }) t → Steps p.tables e below (T.setTop g) t := by
  have F' := F
  obtain ⟨cl, A, S, q, G⟩ := F'
  obtain ⟨T', h', X', e', W, st⟩ := Jvm.RoadKit.stC X hx hZ eT A (x := x) (oNotIn S hj) hg hs hd
  exact ⟨T', h', X', e', W, F.set W hj, st⟩
theorem oAI.stS (F : oAI Z h a .short n f) (X : Stand p l e R s m args below meth c T locs cells slots) (hx : p.tables.exec = Jvm.exec) (hZ : Z.Warmed39 s.vm) (eT : T.heap = h) {j x : Int32} (hj : 0 ≤ j.toInt ∧ j.toInt < n) {g : JFrame} (hg : g.method = m) {rest : List Value} (hs : g.stack = .int x :: .int j :: .ref a :: rest) (hd : decode c.code g.pc = .ok (.sastore, 1)) :
    ∃ T' h', Stand p l e R s m args below meth c T' (locs ++ [⟨a, j.toNatClampNeg⟩]) cells slots ∧ T'.heap = h' ∧ Wr h h' a j.toNatClampNeg (.int (nar .short x)) ∧ oAI Z h' a .short n (oUp f j.toInt.toNat (nar .short x)) ∧ ∀ t, Steps p.tables e below (T'.setTop { g with pc := g.pc + 1, stack := rest }) t → Steps p.tables e below (T.setTop g) t := by
  have F' := F
  obtain ⟨cl, A, S, q, G⟩ := F'
  obtain ⟨T', h', X', e', W, st⟩ := Jvm.RoadKit.stS X hx hZ eT A (x := x) (oNotIn S hj) hg hs hd
  exact ⟨T', h', X', e', W, F.set W hj, st⟩
/-! words out of words -/
theorem oSame {as : Array Value} {C : String} {x y z : MethodName} (wd : (Jvm.Cond.declares y).before as Z = true) (ws : (Jvm.Cond.selects C x z).before as Z = true) (hc : z.cls = y.cls) (hy : y.cls ≠ "java/lang/invoke/MethodHandle" ∧ y.cls ≠ "java/lang/invoke/VarHandle") : (Jvm.Cond.sameMethod y.cls y.cls y.name y.desc).before as Z = true := by
  obtain ⟨c2, r2, m2, -, -, q3, -, kP, hkP, hkPi⟩ := Cond.selects_spec ws
  have h1 := findClass_of_methodNamed q3
  rw [hc] at h1
  cases hm : Z.methodNamed? y with
  | none => simp [Cond.before, Cond.holds, Cond.value, hm] at wd
  | some mk =>
    have h2 := State.methodFound?_of_named hm hy
    have h3 := findClass_of_methodNamed hm
    simp only [Cond.before, Cond.holds, Cond.value, h1, h2, hm, hkP, Option.any_some, hkPi]
    rfl
theorem oPriv {as : Array Value} {y : MethodName} {kk : Nat} (wi : (Jvm.Cond.instantiable y.cls kk).before as s = true) (hpriv : s.PrivateAt y) (hinst : (Jvm.Cond.instanceMethod y).before as s = true) (hy : y.cls ≠ "java/lang/invoke/MethodHandle" ∧ y.cls ≠ "java/lang/invoke/VarHandle") : (Jvm.Cond.selects y.cls y y).before as s = true := by
  obtain ⟨c, k, h1, h2, h3, h4, -⟩ := Cond.instantiable_spec wi
  have i5 : k.isInterface = false := by cases hq : k.isInterface <;> simp [hq] at h4 ⊢
  exact selects_self_of_private h1 h2 i5 hpriv hinst hy
/-! the start's statics -/
theorem oAnd {A B : Jvm.Cond} {as : Array Value} {st : State} (q : (Jvm.Cond.and A B).before as st = true) : A.before as st = true ∧ B.before as st = true := by
  rw [Cond.before_and, Bool.and_eq_true] at q; exact q
/-- a static that holds exactly an object of the class K -/
theorem oStaR {as : Array Value} {C n d K : String} (q : (Jvm.Cond.exactly (.static C n d) K).before as Z = true) (w1 : (Jvm.Cond.initialized C).before as Z = true) (w2 : (Jvm.Cond.laysStatic C n d).before as Z = true) : ∃ a, (Term.static C n d).eval as Z none [] Z = some (.ref a) ∧ Sta Z Z.heap C n d (.ref a) ∧ Exa Z Z.heap a K := by
  obtain ⟨a, c', cell, k, e1, -⟩ := Cond.exactly_spec q
  exact ⟨a, e1, Sta.start e1 (Or.inr ⟨w1, w2⟩), Exa.start e1 (Cond.before_iff.mp q)⟩
theorem oFldI {as : Array Value} {t : Term} {C n d : String} {k : Int32} {a : Addr} (q : (Jvm.Cond.eq (.field t C n d) (.int k)).before as Z = true) (ev : t.eval as Z none [] Z = some (.ref a)) : Fld Z Z.heap a C n d (.int k) := by
  have q' := Cond.before_iff.mp q
  have e1 : (Term.field t C n d).eval as Z none [] Z = Z.fieldOf? a C n d := by simp [Term.eval, ev]
  refine Fld.start ?_
  simp only [Cond.value, e1] at q'
  cases hf : Z.fieldOf? a C n d with
  | none => simp [hf] at q'
  | some v => cases v <;> simp [hf, Term.eval] at q' ⊢; exact q'
theorem oArgI {as : Array Value} {i : Nat} {w : Value} (q : (Jvm.Cond.isInt (.arg i)).before as s = true) (e : as[i]? = some w) : ∃ z, w = .int z := by
  have q' := Cond.before_iff.mp q
  simp only [Cond.value, Term.eval, e] at q'
  cases w <;> first | exact ⟨_, rfl⟩ | simp at q'
theorem oArgJ {as : Array Value} {i : Nat} {w : Value} (q : (Jvm.Cond.isLong (.arg i)).before as s = true) (e : as[i]? = some w) : ∃ z, w = .long z := by
  have q' := Cond.before_iff.mp q
  simp only [Cond.value, Term.eval, e] at q'
  cases w <;> first | exact ⟨_, rfl⟩ | simp at q'
theorem own_arrAt {Z : State} {ca : Addr} {cl : Cell} {ty : FieldType} (A : Arr Z Z.heap ca cl ty) : Z.arrayAt? ca = some cl := by
  have hp := A.plain
  obtain ⟨h1, ⟨hp', k, hk, comp, hkind⟩, h3⟩ := A
  simp [State.arrayAt?, h1, hk, hkind, h3, hp]
theorem own_len {as : Array Value} {Z : State} {t : Term} {ca : Addr} {cl : Cell} {ty : FieldType} (ev : t.eval as Z none [] Z = some (.ref ca)) (A : Arr Z Z.heap ca cl ty) (q : (Jvm.Cond.eq (.length t) (.int 256)).before as Z = true) : cl.slots.size = 256 := by
  have q' := Cond.before_iff.mp q
  have e1 := own_arrAt A
  by_cases hs : cl.slots.size < 2 ^ 31
  · have e2 : (Term.length t).eval as Z none [] Z = some (.int cl.slots.size.toInt32) := by simp [Term.eval, ev, e1, hs]
    have e3 := Cond.eq_ints e2 (Term.int_eval 256)
    rw [e3] at q'
    have e4 : cl.slots.size.toInt32 = 256 := by simpa using q'
    have e5 : (cl.slots.size.toInt32).toInt = (256 : Int32).toInt := by rw [e4]
    have e6 : (Int32.ofNat cl.slots.size).toInt = cl.slots.size := Int32.toInt_ofNat_of_lt (by omega)
    have e7 : (256 : Int32).toInt = 256 := by decide
    have e8 : cl.slots.size.toInt32 = Int32.ofNat cl.slots.size := rfl
    rw [e8, e6, e7] at e5
    omega
  · have e2 : (Term.length t).eval as Z none [] Z = none := by
      simp [Term.eval, ev]
      intro a ha
      rw [e1] at ha
      cases ha
      omega
    simp [Cond.value, e2] at q'
theorem own_all {as : Array Value} {Z : State} {C n d K : String} {ca : Addr} {cl : Cell} {ty : FieldType} {X : Jvm.Cond} (ev : (Term.static C n d).eval as Z none [] Z = some (.ref ca)) (A : Arr Z Z.heap ca cl ty) (hn : cl.slots.size = 256) (q : (Jvm.Cond.all (.static C n d) (.and (.exactly (.elem (.static C n d) (.index 0)) K) X)).before as Z = true) :
    ∀ j : Int32, 0 ≤ j.toInt ∧ j.toInt < (256 : Nat) → ∃ o, cl.slots[j.toNatClampNeg]? = some (.ref o) ∧ Exa Z Z.heap o K ∧ (Term.elem (.static C n d) (.index 0)).eval as Z none [j.toNatClampNeg] Z = some (.ref o) ∧ X.value as Z none Z [j.toNatClampNeg] = some true := by
  intro j hj
  have e1 := own_arrAt A
  have hj0 : ¬ j < 0 := by rw [Int32.lt_iff_toInt_lt]; have : (0 : Int32).toInt = 0 := rfl; omega
  have h1 : j.toNatClampNeg = j.toInt.toNat := rfl
  have h := Cond.all_elim ev e1 (Cond.before_iff.mp q) j.toNatClampNeg (by rw [hn, h1]; omega)
  obtain ⟨h2, h3⟩ := and_e h
  have ev' : (Term.static C n d).eval as Z none [j.toNatClampNeg] Z = some (.ref ca) := ev
  have e2 : (Term.elem (.static C n d) (.index 0)).eval as Z none [j.toNatClampNeg] Z = cl.slots[j.toNatClampNeg]? := by
    have e3 := idx_at (args := as) (s := Z) (first := Z) (o := none) hj0
    simp only [Term.eval] at ev' e3 ⊢
    rw [ev', e3]
    simp [e1, hj0]
  obtain ⟨o, c', cell, k, f1, -⟩ := Cond.exactly_spec (show (Cond.exactly (.elem (.static C n d) (.index 0)) K).holds as Z none Z [j.toNatClampNeg] = true by simp [Cond.holds, h2])
  exact ⟨o, by rw [← e2]; exact f1, exa_at f1 h2, f1, h3⟩
theorem own_fld {as : Array Value} {Z : State} {t u : Term} {idx : List Nat} {O f D : String} {o : Addr} {k : Int32} (f1 : t.eval as Z none idx Z = some (.ref o)) (hx : (Jvm.Cond.eq (.field t O f D) u).value as Z none Z idx = some true) (hu : u.eval as Z none idx Z = some (.int k)) : Fld Z Z.heap o O f D (.int k) := by
  have e1 : (Term.field t O f D).eval as Z none idx Z = Z.fieldOf? o O f D := by simp [Term.eval, f1]
  refine Fld.start ?_
  simp only [Cond.value, e1, hu] at hx
  cases hf : Z.fieldOf? o O f D with
  | none => simp [hf] at hx
  | some v => cases v <;> simp [hf] at hx ⊢; exact hx
theorem own_ix {as : Array Value} {Z : State} {j : Int32} (hj : 0 ≤ j.toInt) : (Term.sub (.index 0) (.int 128)).eval as Z none [j.toNatClampNeg] Z = some (.int (j - 128)) := by
  have hj0 : ¬ j < 0 := by rw [Int32.lt_iff_toInt_lt]; have : (0 : Int32).toInt = 0 := rfl; omega
  have e3 := idx_at (args := as) (s := Z) (first := Z) (o := none) hj0
  simp only [Term.eval] at e3 ⊢
  rw [e3]; rfl
theorem oEqI {as : Array Value} {t : Term} {k : Int32} (q : (Jvm.Cond.eq t (.int k)).before as Z = true) : t.eval as Z none [] Z = some (.int k) := by
  have q' := Cond.before_iff.mp q
  simp only [Cond.value] at q'
  cases hf : t.eval as Z none [] Z with
  | none => simp [hf] at q'
  | some v => cases v <;> simp [hf, Term.eval] at q' ⊢; exact q'
end OwnKit
theorem oNeT {Z : State} {h : Heap} {a b : Addr} {ty ty' : FieldType} {n n' : Nat} {f f' : Nat → Int32} (F : oAI Z h a ty n f) (G : oAI Z h b ty' n' f') (q : ty ≠ ty') : a ≠ b := fun e => by
  subst e
  obtain ⟨c1, A1, -⟩ := F
  obtain ⟨c2, A2, -⟩ := G
  cases A1.1.symm.trans A2.1
  obtain ⟨-, k1, h1, cp1, h2⟩ := A1.2.1
  obtain ⟨-, k2, g1, cp2, g2⟩ := A2.2.1
  cases h1.symm.trans g1
  rw [h2] at g2
  injection g2 with q1 q2
  exact q q2
theorem oNeO {Z : State} {h : Heap} {a b : Addr} {C : String} {k n : Nat} {ty : FieldType} {f : Nat → Int32} {a0 : Array Value} (F : Exa Z h a C) (wi : (Jvm.Cond.instantiable C k).before a0 Z = true) (G : oAI Z h b ty n f) : a ≠ b := by
  obtain ⟨c2, A2, -⟩ := G
  exact ne_arr F wi A2
def oNul (Z : State) (h : Heap) (v : Nat) (n0 : Nat) (g : Nat → Int32) : Prop := (Fld Z h v "com/example/moraine/moraine/formats/ColumnVector$Nullable" "nulls" "[Z" .null ∧ ∀ j, g j = 0) ∨ ∃ nb : Nat, n0 ≤ nb ∧ Fld Z h v "com/example/moraine/moraine/formats/ColumnVector$Nullable" "nulls" "[Z" (.ref nb) ∧ oAI Z h nb .boolean 4 g
def oVec (Z : State) (h : Heap) (v va : Nat) (n0 : Nat) (f g : Nat → Int32) : Prop := Exa Z h v "com/example/moraine/moraine/formats/ColumnVector$Ints" ∧ Fld Z h v "com/example/moraine/moraine/formats/ColumnVector$Nullable" "capacity" "I" (.int 4) ∧ Fld Z h v "com/example/moraine/moraine/formats/ColumnVector$Ints" "values" "[I" (.ref va) ∧ oAI Z h va .int 4 f ∧ n0 ≤ v ∧ n0 ≤ va ∧ v ≠ va ∧ (∀ j, g j = 0 ∨ g j = 1) ∧ oNul Z h v n0 g
theorem oVec.lt {Z : State} {h : Heap} {v va : Addr} {n0 : Nat} {f g : Nat → Int32} (V : oVec Z h v va n0 f g) : @LT.lt Nat _ v h.size := V.1.lt
theorem oVec.keep0 {Z : State} {h h' : Heap} {v va : Addr} {n0 : Nat} {f g : Nat → Int32} (V : oVec Z h v va n0 f g) (K : Keep h h' []) : oVec Z h' v va n0 f g := by
  obtain ⟨E0, F0, F1, V0, gv, gva, nva, hbb, hn⟩ := V
  refine ⟨E0.keep K, F0.keep K nin0, F1.keep K nin0, V0.keep K nin0, gv, gva, nva, hbb, ?_⟩
  rcases hn with ⟨F2, hg⟩ | ⟨nb, gnb, F2, V1⟩
  · exact Or.inl ⟨F2.keep K nin0, hg⟩
  · exact Or.inr ⟨nb, gnb, F2.keep K nin0, V1.keep K nin0⟩
/-- arrays of ints but va stand -/
def oTr (Z : State) (h0 h : Heap) (va : Nat) : Prop := h0.size ≤ h.size ∧ ∀ (a n : Nat) fn, a ≠ va → oAI Z h0 a .int n fn → oAI Z h a .int n fn
theorem oTr.refl (Z : State) (h : Heap) (va : Addr) : oTr Z h h va := ⟨Nat.le_refl _, fun _ _ _ _ F => F⟩
theorem oTr.trans {Z : State} {h0 h h' : Heap} {va : Addr} (A : oTr Z h0 h va) (B : oTr Z h h' va) : oTr Z h0 h' va := ⟨Nat.le_trans A.1 B.1, fun a n fn q F => B.2 a n fn q (A.2 a n fn q F)⟩
theorem oTr.of {Z : State} {h0 h : Heap} {va : Addr} {ws : List Addr} (K : Keep h0 h ws) (q : ∀ (a n : Nat) fn, a ≠ va → oAI Z h0 a .int n fn → a ∉ ws) : oTr Z h0 h va := ⟨K.1, fun a n fn r F => F.keep K (q a n fn r F)⟩
theorem nar01 {x : Int32} (h : x = 0 ∨ x = 1) : nar .boolean x = x := by rcases h with rfl | rfl <;> decide
theorem oUp01 {g : Nat → Int32} {i : Nat} {x : Int32} (hbb : ∀ j, g j = 0 ∨ g j = 1) (hx : x = 0 ∨ x = 1) : ∀ j, oUp g i x j = 0 ∨ oUp g i x j = 1 := fun j => by
  unfold oUp; split
  · exact hx
  · exact hbb j

theorem d15_0 : decode prog_23_method_2_code 0 = .ok (.aload_n 0, 1) := by decide +kernel
theorem d15_1 : decode prog_23_method_2_code 1 = .ok (.getfield 13, 3) := by decide +kernel
theorem d15_4 : decode prog_23_method_2_code 4 = .ok (.ifnonnull 13, 3) := by decide +kernel
theorem d15_7 : decode prog_23_method_2_code 7 = .ok (.aload_n 0, 1) := by decide +kernel
theorem d15_8 : decode prog_23_method_2_code 8 = .ok (.aload_n 0, 1) := by decide +kernel
theorem d15_9 : decode prog_23_method_2_code 9 = .ok (.getfield 7, 3) := by decide +kernel
theorem d15_12 : decode prog_23_method_2_code 12 = .ok (.newarray .boolean, 2) := by decide +kernel
theorem d15_14 : decode prog_23_method_2_code 14 = .ok (.putfield 13, 3) := by decide +kernel
theorem d15_17 : decode prog_23_method_2_code 17 = .ok (.aload_n 0, 1) := by decide +kernel
theorem d15_18 : decode prog_23_method_2_code 18 = .ok (.getfield 13, 3) := by decide +kernel
theorem d15_21 : decode prog_23_method_2_code 21 = .ok (.iload_n 1, 1) := by decide +kernel
theorem d15_22 : decode prog_23_method_2_code 22 = .ok (.iconst 1, 1) := by decide +kernel
theorem d15_23 : decode prog_23_method_2_code 23 = .ok (.bastore, 1) := by decide +kernel
theorem d15_24 : decode prog_23_method_2_code 24 = .ok (.return_, 1) := by decide +kernel
theorem pn_ColumnVector_Nullable : plainName "com/example/moraine/moraine/formats/ColumnVector$Nullable" = true := by first | (simp [plainName, overriddenIn]; done) | decide +kernel
theorem ef_rmSetNull (m : MethodId) (x0 : Nat) (x1 : Int32)  : entryFrame m #[(.ref x0), (.int x1)] 2 = mkF m 0 #[.val (.ref x0), .val (.int x1)] [] := by first | (simp [entryFrame, mkF, argsToLocals, Value.category, maxLocals]; done) | rfl
def Q_rmSetNull (Z : State) (v va : Nat) (f g : Nat → Int32) (r : Int32) (h0 : Heap) (n0 : Nat) (vv : Option Value) (h : Heap) (L : List Loc) : Prop := vv = none ∧ Fr n0 L ∧ oTr Z h0 h va ∧ Old Z n0 h ∧ oVec Z h v va n0 f (oUp g r.toInt.toNat 1)
set_option maxRecDepth 65536 in
set_option maxHeartbeats 40000000 in
theorem rmSetNull (l : Launch) (Z : State) (a0 : Array Value) (hw : ∀ d ∈ tables_1, d.before a0 Z = true) (ws : List Jvm.Cond) (v va : Nat) (f g : Nat → Int32) (r : Int32) (h0 : Heap) (n0 : Nat) (Z0 : n0 ≤ h0.size) (V0' : oVec Z h0 v va n0 f g) (O0 : Old Z n0 h0) (hr : 0 ≤ r.toInt ∧ r.toInt < (4 : Nat)) :
    MetFree l (⟨"com/example/moraine/moraine/formats/ColumnVector$Nullable", "setNull", "(I)V"⟩ : MethodName) (head1 (Jvm.Cond.code (⟨"com/example/moraine/moraine/formats/ColumnVector$Nullable", "setNull", "(I)V"⟩ : MethodName) prog_23_method_2_code 2 (none : Option FieldType) :: ws) ({ frames := 0, cells := 1, slots := 4, locals := 0 } : Room)) (fun aA uU => aA = #[(.ref v), (.int r)] ∧ Z.Warmed39 uU.vm ∧ uU.heap = h0) (fun _ _ _ _ _ => True) (fun _ uU oO uU' => ∃ vV lL, oO = .returned vV ∧ Q_rmSetNull Z v va f g r h0 n0 vV uU'.heap lL ∧ FrameEnd uU oO uU' lL ({ frames := 0, cells := 1, slots := 4, locals := 0 } : Room).cells ({ frames := 0, cells := 1, slots := 4, locals := 0 } : Room).slots) := by
  refine MetFree.of_bodySF (plainFor_of_name pn_ColumnVector_Nullable) hisR ?_
  intro p e s m args below meth c s₁ Bd hml0 hP hK
  obtain ⟨rfl, hZ, hh⟩ := hP
  have hx := Bd.exec
  have hby := Bd.bytes
  have hml : c.maxLocals = 2 := hml0
  have hown : s.vm.findClass "com/example/moraine/moraine/formats/ColumnVector$Nullable" = some m.cls := findClass_of_methodNamed Bd.named
  have hnm := (name_of_methodNamed Bd.named Bd.method).1
  have X0 : Stand p l e ({ frames := 0, cells := 1, slots := 4, locals := 0 } : Room) s m #[(.ref v), (.int r)] below meth c s₁ [] 0 0 := Stand.of_body Bd
  have e0 : s₁.heap = h0 := by rw [← hh, Bd.state]; rfl
  have N0 := Fr.nil n0
  refine oEnter (oCast (ef_rmSetNull m v r ) ?_)
  show oGl p e below (s₁.setTop (mkF m 0 #[.val (.ref v), .val (.int r)] [])) _
  obtain ⟨E0, F0, F1, V0, gv, gva, nva, hbb, hn⟩ := V0'
  have lv : @LT.lt Nat _ v h0.size := E0.lt
  have lva := V0.lt
  have nva2 : @Ne Nat v va := nva
  rcases hn with ⟨F2, hg⟩ | ⟨nb, gnb, F2, V1⟩
  · skip
    refine saloadN X0 hx (hb hby d15_0) rfl rfl rfl (pc' := 1) ?_
    obtain ⟨T1, X1, e1, st1⟩ := getF X0 hx hZ hown (host := "") (Or.inl (hw _ (List.mem_of_getElem? (i := 39) rfl))) Via.refl e0 F2 (g := (mkF m 1 #[.val (.ref v), .val (.int r)] [(.ref v)])) rfl rfl (hb hby d15_1)
    refine oOn st1 ?_
    show oGl p e below (T1.setTop (mkF m 4 #[.val (.ref v), .val (.int r)] [.null])) _
    refine sifnonnullN X1 hx (hb hby d15_4) rfl  (pc' := 7) ?_
    refine saloadN X1 hx (hb hby d15_7) rfl rfl rfl (pc' := 8) ?_
    refine saloadN X1 hx (hb hby d15_8) rfl rfl rfl (pc' := 9) ?_
    obtain ⟨T2, X2, e2, st2⟩ := getF X1 hx hZ hown (host := "") (Or.inl (hw _ (List.mem_of_getElem? (i := 20) rfl))) Via.refl e1 F0 (g := (mkF m 9 #[.val (.ref v), .val (.int r)] [(.ref v), (.ref v)])) rfl rfl (hb hby d15_9)
    refine oOn st2 ?_
    show oGl p e below (T2.setTop (mkF m 12 #[.val (.ref v), .val (.int r)] [(.int (4 : Int32)), (.ref v)])) _
    obtain ⟨T3, h3, k3, X3, e3, E3, A3, st3⟩ := newP X2 hx hZ (hw _ (List.mem_of_getElem? (i := 87) rfl)) e2 (g := (mkF m 12 #[.val (.ref v), .val (.int r)] [(.int (4 : Int32)), (.ref v)])) rfl (hb hby d15_12) rfl (by decide) (cap := 4) (by decide) (by decide) (by decide) (by decide)
    obtain ⟨a3, g3⟩ : ∃ z, z = h0.size := ⟨_, rfl⟩
    rw [← g3] at A3 st3
    refine oOn st3 ?_
    have z4 : h0.size ≤ h3.size := E3.1
    have lt3 : a3 < h3.size := A3.lt
    have V3 : oAI Z h3 a3 .boolean 4 (fun _ => 0) := oAI.new A3 rfl
    show oGl p e below (T3.setTop (mkF m 14 #[.val (.ref v), .val (.int r)] [(.ref a3), (.ref v)])) _
    have f6 := (F2.ext E3)
    have f7 := (E0.ext E3)
    obtain ⟨T5, h5, X5, e5, W5, st5⟩ := putF X3 hx hZ hown (host := "") (Or.inl (hw _ (List.mem_of_getElem? (i := 39) rfl))) Via.refl e3 f6 f7 (Or.inl (hw _ (List.mem_of_getElem? (i := 40) rfl))) (hw _ (List.mem_of_getElem? (i := 2) rfl)) (ty := (.array .boolean)) (by decide) rfl rfl (g := (mkF m 14 #[.val (.ref v), .val (.int r)] [(.ref a3), (.ref v)])) rfl rfl (hb hby d15_14)
    refine oOn st5 ?_
    have z8 : h3.size ≤ h5.size := Nat.le_of_eq W5.size.symm
    have N5 := Fr.snoc X5 N0 (by omega)
    have f5 := Fld.same W5 f6
    show oGl p e below (T5.setTop (mkF m 17 #[.val (.ref v), .val (.int r)] [])) _
    refine saloadN X5 hx (hb hby d15_17) rfl rfl rfl (pc' := 18) ?_
    obtain ⟨T9, X9, e9, st9⟩ := getF X5 hx hZ hown (host := "") (Or.inl (hw _ (List.mem_of_getElem? (i := 39) rfl))) Via.refl e5 f5 (g := (mkF m 18 #[.val (.ref v), .val (.int r)] [(.ref v)])) rfl rfl (hb hby d15_18)
    refine oOn st9 ?_
    show oGl p e below (T9.setTop (mkF m 21 #[.val (.ref v), .val (.int r)] [(.ref a3)])) _
    refine siloadN X9 hx (hb hby d15_21) rfl rfl (pc' := 22) ?_
    refine siconst X9 hx (hb hby d15_22) rfl rfl (z := 1) (pc' := 23) ?_
    have f10 := (V3.other W5 (oNe (by omega)))
    obtain ⟨T11, h11, X11, e11, W11, V11, st11⟩ := f10.stZ X9 hx hZ e9 (j := r) hr (g := (mkF m 23 #[.val (.ref v), .val (.int r)] [(.int (1 : Int32)), (.int r), (.ref a3)])) rfl rfl (hb hby d15_23)
    refine oOn st11 ?_
    have z12 : h5.size ≤ h11.size := Nat.le_of_eq W11.size.symm
    have N11 := Fr.snoc X11 N5 (by omega)
    show oGl p e below (T11.setTop (mkF m 24 #[.val (.ref v), .val (.int r)] [])) _
    have kp13 : Keep h0 h11 [v] := ((((Keep.refl h0 [v]).ext E3).wr W5 (Or.inl (List.mem_of_getElem? (i := 0) rfl))).wr W11 (Or.inr (by omega)))
    have f14 := (((O0.ext E3).wr W5 (by omega)).wr W11 (by omega))
    have f15 := (((V0.ext E3).other W5 (oNe (by omega))).other W11 (oNe (by omega)))
    have f16 := (f5.other W11 (Or.inl (oNe (by omega))))
    have f17 := ((f7.wr W5).wr W11)
    have f18 := (((F0.ext E3).other W5 (Or.inr (slot_ne (Or.inr (hw _ (List.mem_of_getElem? (i := 21) rfl))) (Or.inl (hw _ (List.mem_of_getElem? (i := 40) rfl))) (by decide) (t := .int) (t' := (.array .boolean)) (by decide) (by decide)))).other W11 (Or.inl (oNe (by omega))))
    have f19 := (((F1.ext E3).other W5 (Or.inr (slot_ne (Or.inr (hw _ (List.mem_of_getElem? (i := 23) rfl))) (Or.inl (hw _ (List.mem_of_getElem? (i := 40) rfl))) (by decide) (t := (.array .int)) (t' := (.array .boolean)) (by decide) (by decide)))).other W11 (Or.inl (oNe (by omega))))
    refine oRet0 X11 hx Bd.notSynchronized Bd.returns (hb hby d15_24) (by decide) (by decide) ?_
    show Q_rmSetNull Z v va f g r h0 n0 _ T11.heap _
    rw [e11]
    exact ⟨rfl, N11, (oTr.of kp13 (fun a n fn q0 F => (ninS (fun q => (oNeO E0 (hw _ (List.mem_of_getElem? (i := 2) rfl)) F) q.symm) nin0))), f14, ⟨f17, f18, f19, f15, gv, gva, nva, oUp01 hbb (Or.inr rfl), Or.inr ⟨a3, by omega, f16, (V11.congr (fun j _ => by unfold oUp; split <;> simp_all <;> decide))⟩⟩⟩
  · skip
    have lnb := V1.lt
    have nnb : @Ne Nat nb va := oNeT V1 V0 (by decide)
    have nnv : @Ne Nat v nb := oNeO E0 (hw _ (List.mem_of_getElem? (i := 2) rfl)) V1
    have nva2 : @Ne Nat v va := nva
    refine saloadN X0 hx (hb hby d15_0) rfl rfl rfl (pc' := 1) ?_
    obtain ⟨T20, X20, e20, st20⟩ := getF X0 hx hZ hown (host := "") (Or.inl (hw _ (List.mem_of_getElem? (i := 39) rfl))) Via.refl e0 F2 (g := (mkF m 1 #[.val (.ref v), .val (.int r)] [(.ref v)])) rfl rfl (hb hby d15_1)
    refine oOn st20 ?_
    show oGl p e below (T20.setTop (mkF m 4 #[.val (.ref v), .val (.int r)] [(.ref nb)])) _
    refine sifnonnullY X20 hx (hb hby d15_4) (by decide) (by decide)  (pc' := 17) ?_
    refine saloadN X20 hx (hb hby d15_17) rfl rfl rfl (pc' := 18) ?_
    obtain ⟨T21, X21, e21, st21⟩ := getF X20 hx hZ hown (host := "") (Or.inl (hw _ (List.mem_of_getElem? (i := 39) rfl))) Via.refl e20 F2 (g := (mkF m 18 #[.val (.ref v), .val (.int r)] [(.ref v)])) rfl rfl (hb hby d15_18)
    refine oOn st21 ?_
    show oGl p e below (T21.setTop (mkF m 21 #[.val (.ref v), .val (.int r)] [(.ref nb)])) _
    refine siloadN X21 hx (hb hby d15_21) rfl rfl (pc' := 22) ?_
    refine siconst X21 hx (hb hby d15_22) rfl rfl (z := 1) (pc' := 23) ?_
    obtain ⟨T22, h22, X22, e22, W22, V22, st22⟩ := V1.stZ X21 hx hZ e21 (j := r) hr (g := (mkF m 23 #[.val (.ref v), .val (.int r)] [(.int (1 : Int32)), (.int r), (.ref nb)])) rfl rfl (hb hby d15_23)
    refine oOn st22 ?_
    have z23 : h0.size ≤ h22.size := Nat.le_of_eq W22.size.symm
    have N22 := Fr.snoc X22 N0 (by omega)
    show oGl p e below (T22.setTop (mkF m 24 #[.val (.ref v), .val (.int r)] [])) _
    have kp24 : Keep h0 h22 [nb] := ((Keep.refl h0 [nb]).wr W22 (Or.inl (List.mem_of_getElem? (i := 0) rfl)))
    have f25 := (O0.wr W22 (by omega))
    have f26 := (V0.other W22 (oNe (by omega)))
    have f27 := (F2.other W22 (Or.inl (oNe (by omega))))
    have f28 := (E0.wr W22)
    have f29 := (F0.other W22 (Or.inl (oNe (by omega))))
    have f30 := (F1.other W22 (Or.inl (oNe (by omega))))
    refine oRet0 X22 hx Bd.notSynchronized Bd.returns (hb hby d15_24) (by decide) (by decide) ?_
    show Q_rmSetNull Z v va f g r h0 n0 _ T22.heap _
    rw [e22]
    exact ⟨rfl, N22, (oTr.of kp24 (fun a n fn q0 F => (ninS (oNeT F V1 (by decide)) nin0))), f25, ⟨f28, f29, f30, f26, gv, gva, nva, oUp01 hbb (Or.inr rfl), Or.inr ⟨nb, by omega, f27, V22⟩⟩⟩
theorem d7_0 : decode prog_23_method_3_code 0 = .ok (.aload_n 0, 1) := by decide +kernel
theorem d7_1 : decode prog_23_method_3_code 1 = .ok (.getfield 13, 3) := by decide +kernel
theorem d7_4 : decode prog_23_method_3_code 4 = .ok (.ifnull 10, 3) := by decide +kernel
theorem d7_14 : decode prog_23_method_3_code 14 = .ok (.return_, 1) := by decide +kernel
theorem d7_7 : decode prog_23_method_3_code 7 = .ok (.aload_n 0, 1) := by decide +kernel
theorem d7_8 : decode prog_23_method_3_code 8 = .ok (.getfield 13, 3) := by decide +kernel
theorem d7_11 : decode prog_23_method_3_code 11 = .ok (.iload_n 1, 1) := by decide +kernel
theorem d7_12 : decode prog_23_method_3_code 12 = .ok (.iconst 0, 1) := by decide +kernel
theorem d7_13 : decode prog_23_method_3_code 13 = .ok (.bastore, 1) := by decide +kernel
theorem ef_rmPresent (m : MethodId) (x0 : Nat) (x1 : Int32)  : entryFrame m #[(.ref x0), (.int x1)] 2 = mkF m 0 #[.val (.ref x0), .val (.int x1)] [] := by first | (simp [entryFrame, mkF, argsToLocals, Value.category, maxLocals]; done) | rfl
def Q_rmPresent (Z : State) (v va : Nat) (f g : Nat → Int32) (r : Int32) (h0 : Heap) (n0 : Nat) (vv : Option Value) (h : Heap) (L : List Loc) : Prop := vv = none ∧ Fr n0 L ∧ oTr Z h0 h va ∧ Old Z n0 h ∧ oVec Z h v va n0 f (oUp g r.toInt.toNat 0)
set_option maxRecDepth 65536 in
set_option maxHeartbeats 40000000 in
theorem rmPresent (l : Launch) (Z : State) (a0 : Array Value) (hw : ∀ d ∈ tables_1, d.before a0 Z = true) (ws : List Jvm.Cond) (v va : Nat) (f g : Nat → Int32) (r : Int32) (h0 : Heap) (n0 : Nat) (Z0 : n0 ≤ h0.size) (V0' : oVec Z h0 v va n0 f g) (O0 : Old Z n0 h0) (hr : 0 ≤ r.toInt ∧ r.toInt < (4 : Nat)) :
    MetFree l (⟨"com/example/moraine/moraine/formats/ColumnVector$Nullable", "present", "(I)V"⟩ : MethodName) (head1 (Jvm.Cond.code (⟨"com/example/moraine/moraine/formats/ColumnVector$Nullable", "present", "(I)V"⟩ : MethodName) prog_23_method_3_code 2 (none : Option FieldType) :: ws) ({ frames := 0, cells := 0, slots := 0, locals := 0 } : Room)) (fun aA uU => aA = #[(.ref v), (.int r)] ∧ Z.Warmed39 uU.vm ∧ uU.heap = h0) (fun _ _ _ _ _ => True) (fun _ uU oO uU' => ∃ vV lL, oO = .returned vV ∧ Q_rmPresent Z v va f g r h0 n0 vV uU'.heap lL ∧ FrameEnd uU oO uU' lL ({ frames := 0, cells := 0, slots := 0, locals := 0 } : Room).cells ({ frames := 0, cells := 0, slots := 0, locals := 0 } : Room).slots) := by
  refine MetFree.of_bodySF (plainFor_of_name pn_ColumnVector_Nullable) hisR ?_
  intro p e s m args below meth c s₁ Bd hml0 hP hK
  obtain ⟨rfl, hZ, hh⟩ := hP
  have hx := Bd.exec
  have hby := Bd.bytes
  have hml : c.maxLocals = 2 := hml0
  have hown : s.vm.findClass "com/example/moraine/moraine/formats/ColumnVector$Nullable" = some m.cls := findClass_of_methodNamed Bd.named
  have hnm := (name_of_methodNamed Bd.named Bd.method).1
  have X0 : Stand p l e ({ frames := 0, cells := 0, slots := 0, locals := 0 } : Room) s m #[(.ref v), (.int r)] below meth c s₁ [] 0 0 := Stand.of_body Bd
  have e0 : s₁.heap = h0 := by rw [← hh, Bd.state]; rfl
  have N0 := Fr.nil n0
  refine oEnter (oCast (ef_rmPresent m v r ) ?_)
  show oGl p e below (s₁.setTop (mkF m 0 #[.val (.ref v), .val (.int r)] [])) _
  obtain ⟨E0, F0, F1, V0, gv, gva, nva, hbb, hn⟩ := V0'
  have lv : @LT.lt Nat _ v h0.size := E0.lt
  have lva := V0.lt
  have nva2 : @Ne Nat v va := nva
  rcases hn with ⟨F2, hg⟩ | ⟨nb, gnb, F2, V1⟩
  · skip
    refine saloadN X0 hx (hb hby d7_0) rfl rfl rfl (pc' := 1) ?_
    obtain ⟨T1, X1, e1, st1⟩ := getF X0 hx hZ hown (host := "") (Or.inl (hw _ (List.mem_of_getElem? (i := 39) rfl))) Via.refl e0 F2 (g := (mkF m 1 #[.val (.ref v), .val (.int r)] [(.ref v)])) rfl rfl (hb hby d7_1)
    refine oOn st1 ?_
    show oGl p e below (T1.setTop (mkF m 4 #[.val (.ref v), .val (.int r)] [.null])) _
    refine sifnullY X1 hx (hb hby d7_4) (by decide) (by decide)  (pc' := 14) ?_
    refine oRet0 X1 hx Bd.notSynchronized Bd.returns (hb hby d7_14) (by decide) (by decide) ?_
    show Q_rmPresent Z v va f g r h0 n0 _ T1.heap _
    rw [e1]
    exact ⟨rfl, N0, oTr.refl _ _ _, O0, ⟨E0, F0, F1, V0, gv, gva, nva, oUp01 hbb (Or.inl rfl), Or.inl ⟨F2, fun j => by unfold oUp; split; rfl; exact hg j⟩⟩⟩
  · skip
    have lnb := V1.lt
    have nnb : @Ne Nat nb va := oNeT V1 V0 (by decide)
    have nnv : @Ne Nat v nb := oNeO E0 (hw _ (List.mem_of_getElem? (i := 2) rfl)) V1
    have nva2 : @Ne Nat v va := nva
    refine saloadN X0 hx (hb hby d7_0) rfl rfl rfl (pc' := 1) ?_
    obtain ⟨T2, X2, e2, st2⟩ := getF X0 hx hZ hown (host := "") (Or.inl (hw _ (List.mem_of_getElem? (i := 39) rfl))) Via.refl e0 F2 (g := (mkF m 1 #[.val (.ref v), .val (.int r)] [(.ref v)])) rfl rfl (hb hby d7_1)
    refine oOn st2 ?_
    show oGl p e below (T2.setTop (mkF m 4 #[.val (.ref v), .val (.int r)] [(.ref nb)])) _
    refine sifnullN X2 hx (hb hby d7_4) rfl  (pc' := 7) ?_
    refine saloadN X2 hx (hb hby d7_7) rfl rfl rfl (pc' := 8) ?_
    obtain ⟨T3, X3, e3, st3⟩ := getF X2 hx hZ hown (host := "") (Or.inl (hw _ (List.mem_of_getElem? (i := 39) rfl))) Via.refl e2 F2 (g := (mkF m 8 #[.val (.ref v), .val (.int r)] [(.ref v)])) rfl rfl (hb hby d7_8)
    refine oOn st3 ?_
    show oGl p e below (T3.setTop (mkF m 11 #[.val (.ref v), .val (.int r)] [(.ref nb)])) _
    refine siloadN X3 hx (hb hby d7_11) rfl rfl (pc' := 12) ?_
    refine siconst X3 hx (hb hby d7_12) rfl rfl (z := 0) (pc' := 13) ?_
    obtain ⟨T4, h4, X4, e4, W4, V4, st4⟩ := V1.stZ X3 hx hZ e3 (j := r) hr (g := (mkF m 13 #[.val (.ref v), .val (.int r)] [(.int (0 : Int32)), (.int r), (.ref nb)])) rfl rfl (hb hby d7_13)
    refine oOn st4 ?_
    have z5 : h0.size ≤ h4.size := Nat.le_of_eq W4.size.symm
    have N4 := Fr.snoc X4 N0 (by omega)
    show oGl p e below (T4.setTop (mkF m 14 #[.val (.ref v), .val (.int r)] [])) _
    have kp6 : Keep h0 h4 [nb] := ((Keep.refl h0 [nb]).wr W4 (Or.inl (List.mem_of_getElem? (i := 0) rfl)))
    have f7 := (O0.wr W4 (by omega))
    have f8 := (V0.other W4 (oNe (by omega)))
    have f9 := (F2.other W4 (Or.inl (oNe (by omega))))
    have f10 := (E0.wr W4)
    have f11 := (F0.other W4 (Or.inl (oNe (by omega))))
    have f12 := (F1.other W4 (Or.inl (oNe (by omega))))
    refine oRet0 X4 hx Bd.notSynchronized Bd.returns (hb hby d7_14) (by decide) (by decide) ?_
    show Q_rmPresent Z v va f g r h0 n0 _ T4.heap _
    rw [e4]
    exact ⟨rfl, N4, (oTr.of kp6 (fun a n fn q0 F => (ninS (oNeT F V1 (by decide)) nin0))), f7, ⟨f10, f11, f12, f8, gv, gva, nva, oUp01 hbb (Or.inl rfl), Or.inr ⟨nb, by omega, f9, V4⟩⟩⟩
theorem d6_0 : decode prog_21_method_4_code 0 = .ok (.aload_n 0, 1) := by decide +kernel
theorem d6_1 : decode prog_21_method_4_code 1 = .ok (.getfield 7, 3) := by decide +kernel
theorem d6_4 : decode prog_21_method_4_code 4 = .ok (.iload_n 1, 1) := by decide +kernel
theorem d6_5 : decode prog_21_method_4_code 5 = .ok (.iload_n 2, 1) := by decide +kernel
theorem d6_6 : decode prog_21_method_4_code 6 = .ok (.iastore, 1) := by decide +kernel
theorem d6_7 : decode prog_21_method_4_code 7 = .ok (.aload_n 0, 1) := by decide +kernel
theorem d6_8 : decode prog_21_method_4_code 8 = .ok (.iload_n 1, 1) := by decide +kernel
theorem d6_9 : decode prog_21_method_4_code 9 = .ok (.invokevirtual 23, 3) := by decide +kernel
theorem pd_0 : parseMethodDescriptor "(I)V" = some ⟨[.int], none⟩ := by decide +kernel
theorem d6_12 : decode prog_21_method_4_code 12 = .ok (.return_, 1) := by decide +kernel
theorem pn_ColumnVector_Ints : plainName "com/example/moraine/moraine/formats/ColumnVector$Ints" = true := by first | (simp [plainName, overriddenIn]; done) | decide +kernel
theorem ef_rmSet (m : MethodId) (x0 : Nat) (x1 : Int32) (x2 : Int32)  : entryFrame m #[(.ref x0), (.int x1), (.int x2)] 3 = mkF m 0 #[.val (.ref x0), .val (.int x1), .val (.int x2)] [] := by first | (simp [entryFrame, mkF, argsToLocals, Value.category, maxLocals]; done) | rfl
def Q_rmSet (Z : State) (v va : Nat) (f g : Nat → Int32) (r x : Int32) (h0 : Heap) (n0 : Nat) (vv : Option Value) (h : Heap) (L : List Loc) : Prop := vv = none ∧ Fr n0 L ∧ oTr Z h0 h va ∧ Old Z n0 h ∧ oVec Z h v va n0 (oUp f r.toInt.toNat x) (oUp g r.toInt.toNat 0)
set_option maxRecDepth 65536 in
set_option maxHeartbeats 40000000 in
theorem rmSet (l : Launch) (Z : State) (a0 : Array Value) (hw : ∀ d ∈ tables_1, d.before a0 Z = true) (ws : List Jvm.Cond) (v va : Nat) (f g : Nat → Int32) (r x : Int32) (h0 : Heap) (n0 : Nat) (Z0 : n0 ≤ h0.size) (V0' : oVec Z h0 v va n0 f g) (O0 : Old Z n0 h0) (hr : 0 ≤ r.toInt ∧ r.toInt < (4 : Nat)) :
    MetFree l (⟨"com/example/moraine/moraine/formats/ColumnVector$Ints", "set", "(II)V"⟩ : MethodName) (head1 (Jvm.Cond.code (⟨"com/example/moraine/moraine/formats/ColumnVector$Ints", "set", "(II)V"⟩ : MethodName) prog_21_method_4_code 3 (none : Option FieldType) :: ws) ({ frames := 1, cells := 0, slots := 0, locals := 13 } : Room)) (fun aA uU => aA = #[(.ref v), (.int r), (.int x)] ∧ Z.Warmed39 uU.vm ∧ uU.heap = h0) (fun _ _ _ _ _ => True) (fun _ uU oO uU' => ∃ vV lL, oO = .returned vV ∧ Q_rmSet Z v va f g r x h0 n0 vV uU'.heap lL ∧ FrameEnd uU oO uU' lL ({ frames := 1, cells := 0, slots := 0, locals := 13 } : Room).cells ({ frames := 1, cells := 0, slots := 0, locals := 13 } : Room).slots) := by
  refine MetFree.of_bodySF (plainFor_of_name pn_ColumnVector_Ints) hisR ?_
  intro p e s m args below meth c s₁ Bd hml0 hP hK
  obtain ⟨rfl, hZ, hh⟩ := hP
  have hx := Bd.exec
  have hby := Bd.bytes
  have hml : c.maxLocals = 3 := hml0
  have hown : s.vm.findClass "com/example/moraine/moraine/formats/ColumnVector$Ints" = some m.cls := findClass_of_methodNamed Bd.named
  have hnm := (name_of_methodNamed Bd.named Bd.method).1
  have X0 : Stand p l e ({ frames := 1, cells := 0, slots := 0, locals := 13 } : Room) s m #[(.ref v), (.int r), (.int x)] below meth c s₁ [] 0 0 := Stand.of_body Bd
  have e0 : s₁.heap = h0 := by rw [← hh, Bd.state]; rfl
  have N0 := Fr.nil n0
  refine oEnter (oCast (ef_rmSet m v r x ) ?_)
  show oGl p e below (s₁.setTop (mkF m 0 #[.val (.ref v), .val (.int r), .val (.int x)] [])) _
  obtain ⟨E0, F0, F1, V0, gv, gva, nva, hbb, hn⟩ := V0'
  have lv : @LT.lt Nat _ v h0.size := E0.lt
  have lva := V0.lt
  have nva2 : @Ne Nat v va := nva
  refine saloadN X0 hx (hb hby d6_0) rfl rfl rfl (pc' := 1) ?_
  obtain ⟨T1, X1, e1, st1⟩ := getF X0 hx hZ hown (host := "") (Or.inl (hw _ (List.mem_of_getElem? (i := 22) rfl))) Via.refl e0 F1 (g := (mkF m 1 #[.val (.ref v), .val (.int r), .val (.int x)] [(.ref v)])) rfl rfl (hb hby d6_1)
  refine oOn st1 ?_
  show oGl p e below (T1.setTop (mkF m 4 #[.val (.ref v), .val (.int r), .val (.int x)] [(.ref va)])) _
  refine siloadN X1 hx (hb hby d6_4) rfl rfl (pc' := 5) ?_
  refine siloadN X1 hx (hb hby d6_5) rfl rfl (pc' := 6) ?_
  obtain ⟨T2, h2, X2, e2, W2, V2, st2⟩ := V0.stI X1 hx hZ e1 (j := r) hr (g := (mkF m 6 #[.val (.ref v), .val (.int r), .val (.int x)] [(.int x), (.int r), (.ref va)])) rfl rfl (hb hby d6_6)
  refine oOn st2 ?_
  have z3 : h0.size ≤ h2.size := Nat.le_of_eq W2.size.symm
  have N2 := Fr.snoc X2 N0 (by omega)
  show oGl p e below (T2.setTop (mkF m 7 #[.val (.ref v), .val (.int r), .val (.int x)] [])) _
  have kp4 : Keep h0 h2 [va] := ((Keep.refl h0 [va]).wr W2 (Or.inl (List.mem_of_getElem? (i := 0) rfl)))
  have kpS := kp4
  have f5 := (O0.wr W2 (by omega))
  have Oo' := f5
  have f6 := (E0.wr W2)
  have f7 := (F0.other W2 (Or.inl (oNe (by omega))))
  have f8 := (F1.other W2 (Or.inl (oNe (by omega))))
  have Vs : oVec Z h2 v va n0 (oUp f r.toInt.toNat x) g := ⟨f6, f7, f8, V2, gv, gva, nva, hbb, by
    rcases hn with ⟨F2, hg⟩ | ⟨nb, gnb, F2, V1⟩
    · exact Or.inl ⟨F2.other W2 (Or.inl nva), hg⟩
    · exact Or.inr ⟨nb, gnb, F2.other W2 (Or.inl nva), V1.other W2 (oNeT V1 V0 (by decide))⟩⟩
  refine saloadN X2 hx (hb hby d6_7) rfl rfl rfl (pc' := 8) ?_
  refine siloadN X2 hx (hb hby d6_8) rfl rfl (pc' := 9) ?_
  have Ev8 := Vs.1
  have hz9 : n0 ≤ h2.size := by omega
  obtain ⟨cq9, kq9, q9a, q9b, q9c⟩ := isOf hZ e2 Ev8
  obtain ⟨_, _, ⟨T9, L9, k9, n9⟩, -, X9, ⟨Lc9, hQ9, l9, y9, z9⟩, st9⟩ := X2.virtualBackUp hx (x := (⟨"com/example/moraine/moraine/formats/ColumnVector$Ints", "present", "(I)V"⟩ : MethodName)) (y := (⟨"com/example/moraine/moraine/formats/ColumnVector$Nullable", "present", "(I)V"⟩ : MethodName)) (owner := "com/example/moraine/moraine/formats/ColumnVector$Nullable") hown (mvT hZ (hw _ (List.mem_of_getElem? (i := 33) rfl))) (mvT hZ (hw _ (List.mem_of_getElem? (i := 34) rfl))) (mvT hZ (hw _ (List.mem_of_getElem? (i := 35) rfl))) (by decide) (mvT hZ (hw _ (List.mem_of_getElem? (i := 37) rfl))) (mvT hZ (hw _ (List.mem_of_getElem? (i := 36) rfl))) (backOf (W := 0) (rmPresent l Z a0 hw [] v va (oUp f r.toInt.toNat x) g r h2 n0 hz9 Vs Oo' hr) hZ (hw _ (List.mem_of_getElem? (i := 38) rfl)) (hw _ (List.mem_of_getElem? (i := 10) rfl)) (by decide) (by decide)) q9a q9c (g := (mkF m 9 #[.val (.ref v), .val (.int r), .val (.int x)] [(.int r), (.ref v)])) rfl (by rw [hml]; rfl) (Steps.refl _) (argsL := [(.int r)]) (rest := []) (lenOf pd_0 rfl) rfl (by show 2 * 0 + _ ≤ _; exact Nat.le_of_eq rfl) (hb hby d6_9) (fun _ _ => ⟨rfl, e2, (by decide : 0 + 0 ≤ _), (by decide : 0 + 0 ≤ _)⟩)
  dsimp only [Pt.U, Pt.locs, Pt.cells, Pt.slots] at X9 l9 y9 z9 st9 hQ9
  subst l9 y9 z9
  obtain ⟨rfl, N9q, Tr9, Oo9, Vv9⟩ := hQ9
  have N9 := Fr.app N2 N9q
  refine oSt st9 ?_
  have z10 : h2.size ≤ T9.heap.size := Tr9.1
  show oGl p e below (T9.setTop (mkF m 12 #[.val (.ref v), .val (.int r), .val (.int x)] [])) _
  refine oRet0 X9 hx Bd.notSynchronized Bd.returns (hb hby d6_12) (by decide) (by decide) ?_
  show Q_rmSet Z v va f g r x h0 n0 _ T9.heap _
  exact ⟨rfl, N9, (oTr.of kpS (fun a n fn q0 F => ninS q0 nin0)).trans Tr9, Oo9, Vv9⟩
abbrev oBit (mask r : Int32) : Int32 := (mask >>> (((4 : Int32) + r) &&& 31)) &&& 1
theorem d5_0 : decode method_3_code 0 = .ok (.iload_n 2, 1) := by decide +kernel
theorem d5_1 : decode method_3_code 1 = .ok (.iconst 4, 1) := by decide +kernel
theorem d5_2 : decode method_3_code 2 = .ok (.iload_n 1, 1) := by decide +kernel
theorem d5_3 : decode method_3_code 3 = .ok (.iadd, 1) := by decide +kernel
theorem d5_4 : decode method_3_code 4 = .ok (.ishr, 1) := by decide +kernel
theorem d5_5 : decode method_3_code 5 = .ok (.iconst 1, 1) := by decide +kernel
theorem d5_6 : decode method_3_code 6 = .ok (.iand, 1) := by decide +kernel
theorem d5_7 : decode method_3_code 7 = .ok (.ifCond .eq 11, 3) := by decide +kernel
theorem d5_18 : decode method_3_code 18 = .ok (.aload_n 0, 1) := by decide +kernel
theorem d5_19 : decode method_3_code 19 = .ok (.iload_n 1, 1) := by decide +kernel
theorem d5_20 : decode method_3_code 20 = .ok (.iload_n 3, 1) := by decide +kernel
theorem d5_21 : decode method_3_code 21 = .ok (.invokevirtual 29, 3) := by decide +kernel
theorem pd_1 : parseMethodDescriptor "(II)V" = some ⟨[.int, .int], none⟩ := by decide +kernel
theorem d5_24 : decode method_3_code 24 = .ok (.return_, 1) := by decide +kernel
theorem d5_10 : decode method_3_code 10 = .ok (.aload_n 0, 1) := by decide +kernel
theorem d5_11 : decode method_3_code 11 = .ok (.iload_n 1, 1) := by decide +kernel
theorem d5_12 : decode method_3_code 12 = .ok (.invokevirtual 26, 3) := by decide +kernel
theorem d5_15 : decode method_3_code 15 = .ok (.goto 9, 3) := by decide +kernel
theorem pn_NullableKeepPinLaw : plainName "com/example/moraine/moraine/formats/NullableKeepPinLaw" = true := by first | (simp [plainName, overriddenIn]; done) | decide +kernel
theorem ef_rmFill (m : MethodId) (x0 : Nat) (x1 : Int32) (x2 : Int32) (x3 : Int32)  : entryFrame m #[(.ref x0), (.int x1), (.int x2), (.int x3)] 4 = mkF m 0 #[.val (.ref x0), .val (.int x1), .val (.int x2), .val (.int x3)] [] := by first | (simp [entryFrame, mkF, argsToLocals, Value.category, maxLocals]; done) | rfl
def Q_rmFill (Z : State) (v va : Nat) (f g : Nat → Int32) (r mask x : Int32) (h0 : Heap) (n0 : Nat) (vv : Option Value) (h : Heap) (L : List Loc) : Prop := ∃ f' g', vv = none ∧ Fr n0 L ∧ oTr Z h0 h va ∧ Old Z n0 h ∧ oVec Z h v va n0 f' g' ∧ (oBit mask r = 0 → f' = oUp f r.toInt.toNat x ∧ g' = oUp g r.toInt.toNat 0) ∧ (¬ oBit mask r = 0 → f' = f ∧ g' = oUp g r.toInt.toNat 1)
set_option maxRecDepth 65536 in
set_option maxHeartbeats 40000000 in
theorem rmFill (l : Launch) (Z : State) (a0 : Array Value) (hw : ∀ d ∈ tables_1, d.before a0 Z = true) (ws : List Jvm.Cond) (v va : Nat) (f g : Nat → Int32) (r mask x : Int32) (h0 : Heap) (n0 : Nat) (Z0 : n0 ≤ h0.size) (V0' : oVec Z h0 v va n0 f g) (O0 : Old Z n0 h0) (hr : 0 ≤ r.toInt ∧ r.toInt < (4 : Nat)) :
    MetFree l (⟨"com/example/moraine/moraine/formats/NullableKeepPinLaw", "fill", "(Lcom/example/moraine/moraine/formats/ColumnVector$Ints;III)V"⟩ : MethodName) (head1 (Jvm.Cond.code (⟨"com/example/moraine/moraine/formats/NullableKeepPinLaw", "fill", "(Lcom/example/moraine/moraine/formats/ColumnVector$Ints;III)V"⟩ : MethodName) method_3_code 4 (none : Option FieldType) :: ws) ({ frames := 2, cells := 1, slots := 4, locals := 27 } : Room)) (fun aA uU => aA = #[(.ref v), (.int r), (.int mask), (.int x)] ∧ Z.Warmed39 uU.vm ∧ uU.heap = h0) (fun _ _ _ _ _ => True) (fun _ uU oO uU' => ∃ vV lL, oO = .returned vV ∧ Q_rmFill Z v va f g r mask x h0 n0 vV uU'.heap lL ∧ FrameEnd uU oO uU' lL ({ frames := 2, cells := 1, slots := 4, locals := 27 } : Room).cells ({ frames := 2, cells := 1, slots := 4, locals := 27 } : Room).slots) := by
  refine MetFree.of_bodySF (plainFor_of_name pn_NullableKeepPinLaw) hisR ?_
  intro p e s m args below meth c s₁ Bd hml0 hP hK
  obtain ⟨rfl, hZ, hh⟩ := hP
  have hx := Bd.exec
  have hby := Bd.bytes
  have hml : c.maxLocals = 4 := hml0
  have hown : s.vm.findClass "com/example/moraine/moraine/formats/NullableKeepPinLaw" = some m.cls := findClass_of_methodNamed Bd.named
  have hnm := (name_of_methodNamed Bd.named Bd.method).1
  have X0 : Stand p l e ({ frames := 2, cells := 1, slots := 4, locals := 27 } : Room) s m #[(.ref v), (.int r), (.int mask), (.int x)] below meth c s₁ [] 0 0 := Stand.of_body Bd
  have e0 : s₁.heap = h0 := by rw [← hh, Bd.state]; rfl
  have N0 := Fr.nil n0
  refine oEnter (oCast (ef_rmFill m v r mask x ) ?_)
  show oGl p e below (s₁.setTop (mkF m 0 #[.val (.ref v), .val (.int r), .val (.int mask), .val (.int x)] [])) _
  refine siloadN X0 hx (hb hby d5_0) rfl rfl (pc' := 1) ?_
  refine siconst X0 hx (hb hby d5_1) rfl rfl (z := 4) (pc' := 2) ?_
  refine siloadN X0 hx (hb hby d5_2) rfl rfl (pc' := 3) ?_
  refine siadd X0 hx (hb hby d5_3) rfl rfl (pc' := 4) ?_
  refine sishr X0 hx (hb hby d5_4) rfl rfl (pc' := 5) ?_
  refine siconst X0 hx (hb hby d5_5) rfl rfl (z := 1) (pc' := 6) ?_
  refine siand X0 hx (hb hby d5_6) rfl rfl (pc' := 7) ?_
  by_cases hc7 : ((mask >>> (((4 : Int32) + r) &&& 31)) &&& (1 : Int32)) = (0 : Int32)
  · skip
    refine sifY X0 hx (hb hby d5_7) (by decide) (by decide) (teq hc7).1 (pc' := 18) ?_
    refine saloadN X0 hx (hb hby d5_18) rfl rfl rfl (pc' := 19) ?_
    refine siloadN X0 hx (hb hby d5_19) rfl rfl (pc' := 20) ?_
    refine siloadN X0 hx (hb hby d5_20) rfl rfl (pc' := 21) ?_
    have Ev0 := V0'.1
    have hz1 : n0 ≤ h0.size := by omega
    obtain ⟨cq1, kq1, q1a, q1b, q1c⟩ := isOf hZ e0 Ev0
    obtain ⟨_, _, ⟨T1, L1, k1, n1⟩, -, X1, ⟨Lc1, hQ1, l1, y1, z1⟩, st1⟩ := X0.virtualBack hx (y := (⟨"com/example/moraine/moraine/formats/ColumnVector$Ints", "set", "(II)V"⟩ : MethodName)) (z := (⟨"com/example/moraine/moraine/formats/ColumnVector$Ints", "set", "(II)V"⟩ : MethodName)) hown (mvT hZ (hw _ (List.mem_of_getElem? (i := 28) rfl))) (mvT hZ (hw _ (List.mem_of_getElem? (i := 29) rfl))) (notFace_of_selects (args := #[]) (mvT hZ (hw _ (List.mem_of_getElem? (i := 31) rfl)))) (mvT hZ (hw _ (List.mem_of_getElem? (i := 31) rfl))) (mvT hZ (hw _ (List.mem_of_getElem? (i := 30) rfl))) (by decide) (backOf (W := 0) (rmSet l Z a0 hw [] v va f g r x h0 n0 hz1 V0' O0 hr) hZ (hw _ (List.mem_of_getElem? (i := 32) rfl)) (hw _ (List.mem_of_getElem? (i := 3) rfl)) (by decide) (by decide)) q1a q1c (g := (mkF m 21 #[.val (.ref v), .val (.int r), .val (.int mask), .val (.int x)] [(.int x), (.int r), (.ref v)])) rfl (by rw [hml]; rfl) (Steps.refl _) (argsL := [(.int r), (.int x)]) (rest := []) (lenOf pd_1 rfl) rfl (by show 2 * 0 + _ ≤ _; exact Nat.le_of_eq rfl) (hb hby d5_21) (fun _ _ => ⟨rfl, e0, (by decide : 0 + 0 ≤ _), (by decide : 0 + 0 ≤ _)⟩)
    dsimp only [Pt.U, Pt.locs, Pt.cells, Pt.slots] at X1 l1 y1 z1 st1 hQ1
    subst l1 y1 z1
    obtain ⟨rfl, N1q, Tr1, Oo1, Vv1⟩ := hQ1
    have N1 := Fr.app N0 N1q
    refine oSt st1 ?_
    have z2 : h0.size ≤ T1.heap.size := Tr1.1
    show oGl p e below (T1.setTop (mkF m 24 #[.val (.ref v), .val (.int r), .val (.int mask), .val (.int x)] [])) _
    refine oRet0 X1 hx Bd.notSynchronized Bd.returns (hb hby d5_24) (by decide) (by decide) ?_
    show Q_rmFill Z v va f g r mask x h0 n0 _ T1.heap _
    exact ⟨(oUp f r.toInt.toNat x), (oUp g r.toInt.toNat 0), rfl, N1, Tr1, Oo1, Vv1, ⟨fun _ => ⟨rfl, rfl⟩, fun q => absurd hc7 q⟩⟩
  · skip
    refine sifN X0 hx (hb hby d5_7) rfl (feq hc7).1 (pc' := 10) ?_
    refine saloadN X0 hx (hb hby d5_10) rfl rfl rfl (pc' := 11) ?_
    refine siloadN X0 hx (hb hby d5_11) rfl rfl (pc' := 12) ?_
    have Ev2 := V0'.1
    have hz3 : n0 ≤ h0.size := by omega
    obtain ⟨cq3, kq3, q3a, q3b, q3c⟩ := isOf hZ e0 Ev2
    obtain ⟨_, _, ⟨T3, L3, k3, n3⟩, -, X3, ⟨Lc3, hQ3, l3, y3, z3⟩, st3⟩ := X0.virtualBackUp hx (x := (⟨"com/example/moraine/moraine/formats/ColumnVector$Ints", "setNull", "(I)V"⟩ : MethodName)) (y := (⟨"com/example/moraine/moraine/formats/ColumnVector$Nullable", "setNull", "(I)V"⟩ : MethodName)) (owner := "com/example/moraine/moraine/formats/ColumnVector$Nullable") hown (mvT hZ (hw _ (List.mem_of_getElem? (i := 81) rfl))) (mvT hZ (hw _ (List.mem_of_getElem? (i := 82) rfl))) (mvT hZ (hw _ (List.mem_of_getElem? (i := 83) rfl))) (by decide) (mvT hZ (hw _ (List.mem_of_getElem? (i := 85) rfl))) (mvT hZ (hw _ (List.mem_of_getElem? (i := 84) rfl))) (backOf (W := 0) (rmSetNull l Z a0 hw [] v va f g r h0 n0 hz3 V0' O0 hr) hZ (hw _ (List.mem_of_getElem? (i := 86) rfl)) (hw _ (List.mem_of_getElem? (i := 10) rfl)) (by decide) (by decide)) q3a q3c (g := (mkF m 12 #[.val (.ref v), .val (.int r), .val (.int mask), .val (.int x)] [(.int r), (.ref v)])) rfl (by rw [hml]; rfl) (Steps.refl _) (argsL := [(.int r)]) (rest := []) (lenOf pd_0 rfl) rfl (by show 2 * 0 + _ ≤ _; exact Nat.le_of_eq rfl) (hb hby d5_12) (fun _ _ => ⟨rfl, e0, (by decide : 0 + 1 ≤ _), (by decide : 0 + 4 ≤ _)⟩)
    dsimp only [Pt.U, Pt.locs, Pt.cells, Pt.slots] at X3 l3 y3 z3 st3 hQ3
    subst l3 y3 z3
    obtain ⟨rfl, N3q, Tr3, Oo3, Vv3⟩ := hQ3
    have N3 := Fr.app N0 N3q
    refine oSt st3 ?_
    have z4 : h0.size ≤ T3.heap.size := Tr3.1
    show oGl p e below (T3.setTop (mkF m 15 #[.val (.ref v), .val (.int r), .val (.int mask), .val (.int x)] [])) _
    refine sgoto X3 hx (hb hby d5_15) (by decide) (by decide)  (pc' := 24) ?_
    refine oRet0 X3 hx Bd.notSynchronized Bd.returns (hb hby d5_24) (by decide) (by decide) ?_
    show Q_rmFill Z v va f g r mask x h0 n0 _ T3.heap _
    exact ⟨f, (oUp g r.toInt.toNat 1), rfl, N3, Tr3, Oo3, Vv3, ⟨fun q => absurd q hc7, fun _ => ⟨rfl, rfl⟩⟩⟩
/-- the places below i taken from rf -/
def oKp (f : Nat → Int32) (rf : Nat → Int32) (i : Nat) : Nat → Int32 := fun j => if j < i then f (rf j).toInt.toNat else f j
def oRows (rf : Nat → Int32) (k : Int32) : Prop := 0 ≤ k.toInt ∧ k.toInt ≤ 4 ∧ ∀ j : Nat, (j : Int) < k.toInt → (j : Int) ≤ (rf j).toInt ∧ (rf j).toInt < (4 : Nat)
theorem oKp_step {f rf : Nat → Int32} {i : Int32} (h0 : 0 ≤ i.toInt) (hr : i.toInt ≤ (rf i.toInt.toNat).toInt) : oUp (oKp f rf i.toInt.toNat) i.toInt.toNat (oKp f rf i.toInt.toNat (rf i.toInt.toNat).toInt.toNat) = oKp f rf (i.toInt.toNat + 1) := by
  funext j
  have h1 : ¬ (rf i.toInt.toNat).toInt.toNat < i.toInt.toNat := by omega
  unfold oUp
  by_cases e : j = i.toInt.toNat
  · subst e; rw [if_pos rfl]; unfold oKp; rw [if_neg h1, if_pos (by omega)]
  · rw [if_neg e]; unfold oKp
    by_cases q : j < i.toInt.toNat
    · rw [if_pos q, if_pos (by omega)]
    · rw [if_neg q, if_neg (by omega)]
theorem own_inc {x : Int32} (h : x.toInt < 2147483647) : (x + (1 : Int32)).toInt = x.toInt + 1 := by
  have h1 := c_iadd x 1; have h2 := rng32 (x + 1); have h3 := rng32 x; have e1 : (1 : Int32).toInt = 1 := rfl
  omega
theorem oKp01 {g rf : Nat → Int32} {i : Nat} (hbb : ∀ j, g j = 0 ∨ g j = 1) : ∀ j, oKp g rf i j = 0 ∨ oKp g rf i j = 1 := fun j => by
  unfold oKp; split
  · exact hbb _
  · exact hbb _
theorem oKp0 (f rf : Nat → Int32) : oKp f rf 0 = f := by funext j; unfold oKp; rw [if_neg (by omega)]
theorem d9_0 : decode prog_23_method_7_code 0 = .ok (.aload_n 0, 1) := by decide +kernel
theorem d9_1 : decode prog_23_method_7_code 1 = .ok (.getfield 13, 3) := by decide +kernel
theorem d9_4 : decode prog_23_method_7_code 4 = .ok (.ifnull 30, 3) := by decide +kernel
theorem d9_34 : decode prog_23_method_7_code 34 = .ok (.return_, 1) := by decide +kernel
theorem d9_7 : decode prog_23_method_7_code 7 = .ok (.iconst 0, 1) := by decide +kernel
theorem d9_8 : decode prog_23_method_7_code 8 = .ok (.istore_n 3, 1) := by decide +kernel
theorem d9_9 : decode prog_23_method_7_code 9 = .ok (.iload_n 3, 1) := by decide +kernel
theorem d9_10 : decode prog_23_method_7_code 10 = .ok (.iload_n 2, 1) := by decide +kernel
theorem d9_11 : decode prog_23_method_7_code 11 = .ok (.if_icmp .ge 23, 3) := by decide +kernel
theorem d9_14 : decode prog_23_method_7_code 14 = .ok (.aload_n 0, 1) := by decide +kernel
theorem d9_15 : decode prog_23_method_7_code 15 = .ok (.getfield 13, 3) := by decide +kernel
theorem d9_18 : decode prog_23_method_7_code 18 = .ok (.iload_n 3, 1) := by decide +kernel
theorem d9_19 : decode prog_23_method_7_code 19 = .ok (.aload_n 0, 1) := by decide +kernel
theorem d9_20 : decode prog_23_method_7_code 20 = .ok (.getfield 13, 3) := by decide +kernel
theorem d9_23 : decode prog_23_method_7_code 23 = .ok (.aload_n 1, 1) := by decide +kernel
theorem d9_24 : decode prog_23_method_7_code 24 = .ok (.iload_n 3, 1) := by decide +kernel
theorem d9_25 : decode prog_23_method_7_code 25 = .ok (.iaload, 1) := by decide +kernel
theorem d9_26 : decode prog_23_method_7_code 26 = .ok (.baload, 1) := by decide +kernel
theorem d9_27 : decode prog_23_method_7_code 27 = .ok (.bastore, 1) := by decide +kernel
theorem d9_28 : decode prog_23_method_7_code 28 = .ok (.iinc 3 1, 3) := by decide +kernel
theorem d9_31 : decode prog_23_method_7_code 31 = .ok (.goto (-22), 3) := by decide +kernel
theorem ef_rmNKeep (m : MethodId) (x0 : Nat) (x1 : Nat) (x2 : Int32)  : entryFrame m #[(.ref x0), (.ref x1), (.int x2)] 4 = mkF m 0 #[.val (.ref x0), .val (.ref x1), .val (.int x2), .unset] [] := by first | (simp [entryFrame, mkF, argsToLocals, Value.category, maxLocals]; done) | rfl
def Q_rmNKeep (Z : State) (v va : Nat) (f g : Nat → Int32) (rs : Nat) (rf : Nat → Int32) (k : Int32) (h0 : Heap) (n0 : Nat) (vv : Option Value) (h : Heap) (L : List Loc) : Prop := vv = none ∧ Fr n0 L ∧ oTr Z h0 h va ∧ Old Z n0 h ∧ oVec Z h v va n0 f (oKp g rf k.toInt.toNat)
set_option maxRecDepth 65536 in
set_option maxHeartbeats 40000000 in
theorem rmNKeep (l : Launch) (Z : State) (a0 : Array Value) (hw : ∀ d ∈ tables_1, d.before a0 Z = true) (ws : List Jvm.Cond) (v va : Nat) (f g : Nat → Int32) (rs : Nat) (rf : Nat → Int32) (k : Int32) (h0 : Heap) (n0 : Nat) (Z0 : n0 ≤ h0.size) (V0' : oVec Z h0 v va n0 f g) (O0 : Old Z n0 h0) (hk : oRows rf k) (VR : oAI Z h0 rs .int 4 rf) (nrv : rs ≠ va) :
    MetFree l (⟨"com/example/moraine/moraine/formats/ColumnVector$Nullable", "keep", "([II)V"⟩ : MethodName) (head1 (Jvm.Cond.code (⟨"com/example/moraine/moraine/formats/ColumnVector$Nullable", "keep", "([II)V"⟩ : MethodName) prog_23_method_7_code 4 (none : Option FieldType) :: ws) ({ frames := 0, cells := 0, slots := 0, locals := 0 } : Room)) (fun aA uU => aA = #[(.ref v), (.ref rs), (.int k)] ∧ Z.Warmed39 uU.vm ∧ uU.heap = h0) (fun _ _ _ _ _ => True) (fun _ uU oO uU' => ∃ vV lL, oO = .returned vV ∧ Q_rmNKeep Z v va f g rs rf k h0 n0 vV uU'.heap lL ∧ FrameEnd uU oO uU' lL ({ frames := 0, cells := 0, slots := 0, locals := 0 } : Room).cells ({ frames := 0, cells := 0, slots := 0, locals := 0 } : Room).slots) := by
  refine MetFree.of_bodySF (plainFor_of_name pn_ColumnVector_Nullable) hisR ?_
  intro p e s m args below meth c s₁ Bd hml0 hP hK
  obtain ⟨rfl, hZ, hh⟩ := hP
  have hx := Bd.exec
  have hby := Bd.bytes
  have hml : c.maxLocals = 4 := hml0
  have hown : s.vm.findClass "com/example/moraine/moraine/formats/ColumnVector$Nullable" = some m.cls := findClass_of_methodNamed Bd.named
  have hnm := (name_of_methodNamed Bd.named Bd.method).1
  have X0 : Stand p l e ({ frames := 0, cells := 0, slots := 0, locals := 0 } : Room) s m #[(.ref v), (.ref rs), (.int k)] below meth c s₁ [] 0 0 := Stand.of_body Bd
  have e0 : s₁.heap = h0 := by rw [← hh, Bd.state]; rfl
  have N0 := Fr.nil n0
  refine oEnter (oCast (ef_rmNKeep m v rs k ) ?_)
  show oGl p e below (s₁.setTop (mkF m 0 #[.val (.ref v), .val (.ref rs), .val (.int k), .unset] [])) _
  obtain ⟨E0, F0, F1, V0, gv, gva, nva, hbb, hn⟩ := V0'
  have lv : @LT.lt Nat _ v h0.size := E0.lt
  have lva := V0.lt
  have nva2 : @Ne Nat v va := nva
  rcases hn with ⟨F2, hg⟩ | ⟨nb, gnb, F2, V1⟩
  · skip
    refine saloadN X0 hx (hb hby d9_0) rfl rfl rfl (pc' := 1) ?_
    obtain ⟨T1, X1, e1, st1⟩ := getF X0 hx hZ hown (host := "") (Or.inl (hw _ (List.mem_of_getElem? (i := 39) rfl))) Via.refl e0 F2 (g := (mkF m 1 #[.val (.ref v), .val (.ref rs), .val (.int k), .unset] [(.ref v)])) rfl rfl (hb hby d9_1)
    refine oOn st1 ?_
    show oGl p e below (T1.setTop (mkF m 4 #[.val (.ref v), .val (.ref rs), .val (.int k), .unset] [.null])) _
    refine sifnullY X1 hx (hb hby d9_4) (by decide) (by decide)  (pc' := 34) ?_
    refine oRet0 X1 hx Bd.notSynchronized Bd.returns (hb hby d9_34) (by decide) (by decide) ?_
    show Q_rmNKeep Z v va f g rs rf k h0 n0 _ T1.heap _
    rw [e1]
    exact ⟨rfl, N0, oTr.refl _ _ _, O0, ⟨E0, F0, F1, V0, gv, gva, nva, oKp01 hbb, Or.inl ⟨F2, fun j => by unfold oKp; split <;> exact hg _⟩⟩⟩
  · skip
    have lnb := V1.lt
    have nnb : @Ne Nat nb va := oNeT V1 V0 (by decide)
    have nnv : @Ne Nat v nb := oNeO E0 (hw _ (List.mem_of_getElem? (i := 2) rfl)) V1
    have nva2 : @Ne Nat v va := nva
    refine saloadN X0 hx (hb hby d9_0) rfl rfl rfl (pc' := 1) ?_
    obtain ⟨T2, X2, e2, st2⟩ := getF X0 hx hZ hown (host := "") (Or.inl (hw _ (List.mem_of_getElem? (i := 39) rfl))) Via.refl e0 F2 (g := (mkF m 1 #[.val (.ref v), .val (.ref rs), .val (.int k), .unset] [(.ref v)])) rfl rfl (hb hby d9_1)
    refine oOn st2 ?_
    show oGl p e below (T2.setTop (mkF m 4 #[.val (.ref v), .val (.ref rs), .val (.int k), .unset] [(.ref nb)])) _
    refine sifnullN X2 hx (hb hby d9_4) rfl  (pc' := 7) ?_
    refine siconst X2 hx (hb hby d9_7) rfl rfl (z := 0) (pc' := 8) ?_
    refine sistoreN X2 hx (hb hby d9_8) rfl rfl (l' := #[.val (.ref v), .val (.ref rs), .val (.int k), .val (.int (0 : Int32))]) (pc' := 9) ?_
    have lrs := VR.lt
    have nrn : @Ne Nat rs nb := oNeT VR V1 (by decide)
    have nrv2 : @Ne Nat rs va := nrv
    have V1z : oAI Z h0 nb .boolean 4 (oKp g rf (0 : Int32).toInt.toNat) := by rw [show (0 : Int32).toInt.toNat = 0 from rfl, oKp0]; exact V1
    have loop : ∀ (kF : Nat) (i : Int32) (T : State) (locs : List Loc) (X : Stand p l e ({ frames := 0, cells := 0, slots := 0, locals := 0 } : Room) s m #[(.ref v), (.ref rs), (.int k)] below meth c T locs 0 0) (hh : Heap) (eT : T.heap = hh) (N : Fr n0 locs) (hzh : n0 ≤ hh.size) (Kp : Keep h0 hh [nb]) (Oo : Old Z n0 hh) (fa0 : Exa Z hh v "com/example/moraine/moraine/formats/ColumnVector$Ints") (fa1 : Fld Z hh v "com/example/moraine/moraine/formats/ColumnVector$Nullable" "nulls" "[Z" (.ref nb)) (fa2 : oAI Z hh nb .boolean 4 (oKp g rf i.toInt.toNat)) (fa3 : oAI Z hh rs .int 4 rf) (fa4 : oAI Z hh va .int 4 f) (fa5 : Fld Z hh v "com/example/moraine/moraine/formats/ColumnVector$Nullable" "capacity" "I" (.int 4)) (fa6 : Fld Z hh v "com/example/moraine/moraine/formats/ColumnVector$Ints" "values" "[I" (.ref va)) (hm : (k.toInt.toNat - i.toInt.toNat) < kF) (hi : 0 ≤ i.toInt ∧ i.toInt ≤ k.toInt), oGl p e below (T.setTop (mkF m 9 #[.val (.ref v), .val (.ref rs), .val (.int k), .val (.int i)] [])) (oFin s below (Q_rmNKeep Z v va f g rs rf k h0 n0) ({ frames := 0, cells := 0, slots := 0, locals := 0 } : Room).cells ({ frames := 0, cells := 0, slots := 0, locals := 0 } : Room).slots) := by
      intro kF
      induction kF with
      | zero => intro i T locs X hh eT N hzh Kp Oo fa0 fa1 fa2 fa3 fa4 fa5 fa6 hm hi; exact absurd hm (Nat.not_lt_zero _)
      | succ kF ih =>
        intro i T locs X hh eT N hzh Kp Oo fa0 fa1 fa2 fa3 fa4 fa5 fa6 hm hi
        have lfa0 : @LT.lt Nat _ v hh.size := fa0.lt
        have lfa1 : @LT.lt Nat _ v hh.size := fa1.lt
        have lfa2 : @LT.lt Nat _ nb hh.size := fa2.lt
        have lfa3 : @LT.lt Nat _ rs hh.size := fa3.lt
        have lfa4 : @LT.lt Nat _ va hh.size := fa4.lt
        have lfa5 : @LT.lt Nat _ v hh.size := fa5.lt
        have lfa6 : @LT.lt Nat _ v hh.size := fa6.lt
        have nr01 : ∀ j, oKp g rf i.toInt.toNat j = 0 ∨ oKp g rf i.toInt.toNat j = 1 := oKp01 hbb
        refine siloadN X hx (hb hby d9_9) rfl rfl (pc' := 10) ?_
        refine siloadN X hx (hb hby d9_10) rfl rfl (pc' := 11) ?_
        by_cases hc11 : i < k
        · skip
          refine sicN X hx (hb hby d9_11) rfl (tlt hc11).2.1 (pc' := 14) ?_
          refine saloadN X hx (hb hby d9_14) rfl rfl rfl (pc' := 15) ?_
          obtain ⟨T3, X3, e3, st3⟩ := getF X hx hZ hown (host := "") (Or.inl (hw _ (List.mem_of_getElem? (i := 39) rfl))) Via.refl eT fa1 (g := (mkF m 15 #[.val (.ref v), .val (.ref rs), .val (.int k), .val (.int i)] [(.ref v)])) rfl rfl (hb hby d9_15)
          refine oOn st3 ?_
          show oGl p e below (T3.setTop (mkF m 18 #[.val (.ref v), .val (.ref rs), .val (.int k), .val (.int i)] [(.ref nb)])) _
          refine siloadN X3 hx (hb hby d9_18) rfl rfl (pc' := 19) ?_
          refine saloadN X3 hx (hb hby d9_19) rfl rfl rfl (pc' := 20) ?_
          obtain ⟨T4, X4, e4, st4⟩ := getF X3 hx hZ hown (host := "") (Or.inl (hw _ (List.mem_of_getElem? (i := 39) rfl))) Via.refl e3 fa1 (g := (mkF m 20 #[.val (.ref v), .val (.ref rs), .val (.int k), .val (.int i)] [(.ref v), (.int i), (.ref nb)])) rfl rfl (hb hby d9_20)
          refine oOn st4 ?_
          show oGl p e below (T4.setTop (mkF m 23 #[.val (.ref v), .val (.ref rs), .val (.int k), .val (.int i)] [(.ref nb), (.int i), (.ref nb)])) _
          refine saloadN X4 hx (hb hby d9_23) rfl rfl rfl (pc' := 24) ?_
          refine siloadN X4 hx (hb hby d9_24) rfl rfl (pc' := 25) ?_
          refine oOn (fa3.ldI X4 hx hZ e4 (j := i) (by have hlt := Int32.lt_iff_toInt_lt.mp hc11; have := hk.2.1; have hrr := hk.2.2 i.toInt.toNat (by omega); omega) (g := (mkF m 25 #[.val (.ref v), .val (.ref rs), .val (.int k), .val (.int i)] [(.int i), (.ref rs), (.ref nb), (.int i), (.ref nb)])) rfl rfl (hb hby d9_25)) ?_
          show oGl p e below (T4.setTop (mkF m 26 #[.val (.ref v), .val (.ref rs), .val (.int k), .val (.int i)] [(.int (rf i.toInt.toNat)), (.ref nb), (.int i), (.ref nb)])) _
          refine oOn (fa2.ldZ X4 hx hZ e4 (j := (rf i.toInt.toNat)) (by have hlt := Int32.lt_iff_toInt_lt.mp hc11; have := hk.2.1; have hrr := hk.2.2 i.toInt.toNat (by omega); omega) (g := (mkF m 26 #[.val (.ref v), .val (.ref rs), .val (.int k), .val (.int i)] [(.int (rf i.toInt.toNat)), (.ref nb), (.int i), (.ref nb)])) rfl rfl (hb hby d9_26)) ?_
          show oGl p e below (T4.setTop (mkF m 27 #[.val (.ref v), .val (.ref rs), .val (.int k), .val (.int i)] [(.int ((oKp g rf i.toInt.toNat) (rf i.toInt.toNat).toInt.toNat)), (.int i), (.ref nb)])) _
          obtain ⟨T5, h5, X5, e5, W5, V5, st5⟩ := fa2.stZ X4 hx hZ e4 (j := i) (by have hlt := Int32.lt_iff_toInt_lt.mp hc11; have := hk.2.1; have hrr := hk.2.2 i.toInt.toNat (by omega); omega) (g := (mkF m 27 #[.val (.ref v), .val (.ref rs), .val (.int k), .val (.int i)] [(.int ((oKp g rf i.toInt.toNat) (rf i.toInt.toNat).toInt.toNat)), (.int i), (.ref nb)])) rfl rfl (hb hby d9_27)
          refine oOn st5 ?_
          have z6 : hh.size ≤ h5.size := Nat.le_of_eq W5.size.symm
          have N5 := Fr.snoc X5 N (by omega)
          show oGl p e below (T5.setTop (mkF m 28 #[.val (.ref v), .val (.ref rs), .val (.int k), .val (.int i)] [])) _
          refine siinc X5 hx (hb hby d9_28) rfl rfl rfl (l' := #[.val (.ref v), .val (.ref rs), .val (.int k), .val (.int (i + (1 : Int32)))]) (pc' := 31) ?_
          refine sgoto X5 hx (hb hby d9_31) (by decide) (by decide)  (pc' := 9) ?_
          have hlt := Int32.lt_iff_toInt_lt.mp hc11
          have hi1 := own_inc (x := i) (by have := hk.2.1; omega)
          have hrr := hk.2.2 i.toInt.toNat (by omega)
          have Vn : oAI Z h5 nb .boolean 4 (oKp g rf (i + (1 : Int32)).toInt.toNat) := by
            have q := V5
            rw [nar01 (oKp01 hbb _), oKp_step hi.1 (by omega)] at q
            rw [hi1, show (i.toInt + 1).toNat = i.toInt.toNat + 1 by omega]; exact q
          have hzb : n0 ≤ h5.size := by omega
          have kp7 : Keep h0 h5 [nb] := (Kp.wr W5 (Or.inl (List.mem_of_getElem? (i := 0) rfl)))
          have f8 := (Oo.wr W5 (by omega))
          have f9 := (fa0.wr W5)
          have f10 := (fa1.other W5 (Or.inl (oNe (by omega))))
          have f11 := (fa3.other W5 (oNe (by omega)))
          have f12 := (fa4.other W5 (oNe (by omega)))
          have f13 := (fa5.other W5 (Or.inl (oNe (by omega))))
          have f14 := (fa6.other W5 (Or.inl (oNe (by omega))))
          exact ih (i + (1 : Int32)) _ _ X5 _ e5 N5 hzb kp7 f8 f9 f10 Vn f11 f12 f13 f14 (by have := hk.2.1; omega) ⟨by omega, by omega⟩
        · skip
          refine sicY X hx (hb hby d9_11) (by decide) (by decide) (flt hc11).2.1 (pc' := 34) ?_
          have hge : ¬ i.toInt < k.toInt := fun q => hc11 (Int32.lt_iff_toInt_lt.mpr q)
          have hik : i.toInt.toNat = k.toInt.toNat := by omega
          have kp15 : Keep h0 hh [nb] := Kp
          refine oRet0 X hx Bd.notSynchronized Bd.returns (hb hby d9_34) (by decide) (by decide) ?_
          show Q_rmNKeep Z v va f g rs rf k h0 n0 _ T.heap _
          rw [eT]
          exact ⟨rfl, N, (oTr.of kp15 (fun a n fn q0 F => (ninS (oNeT F V1 (by decide)) nin0))), Oo, ⟨fa0, fa5, fa6, fa4, gv, gva, nva, oKp01 hbb, Or.inr ⟨nb, gnb, fa1, hik ▸ fa2⟩⟩⟩
    have hzb : n0 ≤ h0.size := by omega
    have kp16 : Keep h0 h0 [nb] := (Keep.refl h0 [nb])
    exact loop _ 0 _ _ X2 _ e2 N0 hzb kp16 O0 E0 F2 V1z VR V0 F0 F1 (Nat.lt_succ_self _) (by
        have e0 : (0 : Int32).toInt = 0 := rfl
        have := hk.1
        exact ⟨by omega, by omega⟩)
theorem d8_0 : decode prog_21_method_6_code 0 = .ok (.aload_n 0, 1) := by decide +kernel
theorem d8_1 : decode prog_21_method_6_code 1 = .ok (.aload_n 1, 1) := by decide +kernel
theorem d8_2 : decode prog_21_method_6_code 2 = .ok (.iload_n 2, 1) := by decide +kernel
theorem d8_3 : decode prog_21_method_6_code 3 = .ok (.invokespecial 34, 3) := by decide +kernel
theorem pd_2 : parseMethodDescriptor "([II)V" = some ⟨[(.array .int), .int], none⟩ := by decide +kernel
theorem d8_6 : decode prog_21_method_6_code 6 = .ok (.iconst 0, 1) := by decide +kernel
theorem d8_7 : decode prog_21_method_6_code 7 = .ok (.istore_n 3, 1) := by decide +kernel
theorem d8_8 : decode prog_21_method_6_code 8 = .ok (.iload_n 3, 1) := by decide +kernel
theorem d8_9 : decode prog_21_method_6_code 9 = .ok (.iload_n 2, 1) := by decide +kernel
theorem d8_10 : decode prog_21_method_6_code 10 = .ok (.if_icmp .ge 23, 3) := by decide +kernel
theorem d8_13 : decode prog_21_method_6_code 13 = .ok (.aload_n 0, 1) := by decide +kernel
theorem d8_14 : decode prog_21_method_6_code 14 = .ok (.getfield 7, 3) := by decide +kernel
theorem d8_17 : decode prog_21_method_6_code 17 = .ok (.iload_n 3, 1) := by decide +kernel
theorem d8_18 : decode prog_21_method_6_code 18 = .ok (.aload_n 0, 1) := by decide +kernel
theorem d8_19 : decode prog_21_method_6_code 19 = .ok (.getfield 7, 3) := by decide +kernel
theorem d8_22 : decode prog_21_method_6_code 22 = .ok (.aload_n 1, 1) := by decide +kernel
theorem d8_23 : decode prog_21_method_6_code 23 = .ok (.iload_n 3, 1) := by decide +kernel
theorem d8_24 : decode prog_21_method_6_code 24 = .ok (.iaload, 1) := by decide +kernel
theorem d8_25 : decode prog_21_method_6_code 25 = .ok (.iaload, 1) := by decide +kernel
theorem d8_26 : decode prog_21_method_6_code 26 = .ok (.iastore, 1) := by decide +kernel
theorem d8_27 : decode prog_21_method_6_code 27 = .ok (.iinc 3 1, 3) := by decide +kernel
theorem d8_30 : decode prog_21_method_6_code 30 = .ok (.goto (-22), 3) := by decide +kernel
theorem d8_33 : decode prog_21_method_6_code 33 = .ok (.return_, 1) := by decide +kernel
theorem ef_rmKeep (m : MethodId) (x0 : Nat) (x1 : Nat) (x2 : Int32)  : entryFrame m #[(.ref x0), (.ref x1), (.int x2)] 4 = mkF m 0 #[.val (.ref x0), .val (.ref x1), .val (.int x2), .unset] [] := by first | (simp [entryFrame, mkF, argsToLocals, Value.category, maxLocals]; done) | rfl
def Q_rmKeep (Z : State) (v va : Nat) (f g : Nat → Int32) (rs : Nat) (rf : Nat → Int32) (k : Int32) (h0 : Heap) (n0 : Nat) (vv : Option Value) (h : Heap) (L : List Loc) : Prop := vv = none ∧ Fr n0 L ∧ oTr Z h0 h va ∧ Old Z n0 h ∧ oVec Z h v va n0 (oKp f rf k.toInt.toNat) (oKp g rf k.toInt.toNat)
set_option maxRecDepth 65536 in
set_option maxHeartbeats 40000000 in
theorem rmKeep (l : Launch) (Z : State) (a0 : Array Value) (hw : ∀ d ∈ tables_1, d.before a0 Z = true) (ws : List Jvm.Cond) (v va : Nat) (f g : Nat → Int32) (rs : Nat) (rf : Nat → Int32) (k : Int32) (h0 : Heap) (n0 : Nat) (Z0 : n0 ≤ h0.size) (V0' : oVec Z h0 v va n0 f g) (O0 : Old Z n0 h0) (hk : oRows rf k) (VR : oAI Z h0 rs .int 4 rf) (nrv : rs ≠ va) :
    MetFree l (⟨"com/example/moraine/moraine/formats/ColumnVector$Ints", "keep", "([II)V"⟩ : MethodName) (head1 (Jvm.Cond.code (⟨"com/example/moraine/moraine/formats/ColumnVector$Ints", "keep", "([II)V"⟩ : MethodName) prog_21_method_6_code 4 (none : Option FieldType) :: ws) ({ frames := 1, cells := 0, slots := 0, locals := 15 } : Room)) (fun aA uU => aA = #[(.ref v), (.ref rs), (.int k)] ∧ Z.Warmed39 uU.vm ∧ uU.heap = h0) (fun _ _ _ _ _ => True) (fun _ uU oO uU' => ∃ vV lL, oO = .returned vV ∧ Q_rmKeep Z v va f g rs rf k h0 n0 vV uU'.heap lL ∧ FrameEnd uU oO uU' lL ({ frames := 1, cells := 0, slots := 0, locals := 15 } : Room).cells ({ frames := 1, cells := 0, slots := 0, locals := 15 } : Room).slots) := by
  refine MetFree.of_bodySF (plainFor_of_name pn_ColumnVector_Ints) hisR ?_
  intro p e s m args below meth c s₁ Bd hml0 hP hK
  obtain ⟨rfl, hZ, hh⟩ := hP
  have hx := Bd.exec
  have hby := Bd.bytes
  have hml : c.maxLocals = 4 := hml0
  have hown : s.vm.findClass "com/example/moraine/moraine/formats/ColumnVector$Ints" = some m.cls := findClass_of_methodNamed Bd.named
  have hnm := (name_of_methodNamed Bd.named Bd.method).1
  have X0 : Stand p l e ({ frames := 1, cells := 0, slots := 0, locals := 15 } : Room) s m #[(.ref v), (.ref rs), (.int k)] below meth c s₁ [] 0 0 := Stand.of_body Bd
  have e0 : s₁.heap = h0 := by rw [← hh, Bd.state]; rfl
  have N0 := Fr.nil n0
  refine oEnter (oCast (ef_rmKeep m v rs k ) ?_)
  show oGl p e below (s₁.setTop (mkF m 0 #[.val (.ref v), .val (.ref rs), .val (.int k), .unset] [])) _
  refine saloadN X0 hx (hb hby d8_0) rfl rfl rfl (pc' := 1) ?_
  refine saloadN X0 hx (hb hby d8_1) rfl rfl rfl (pc' := 2) ?_
  refine siloadN X0 hx (hb hby d8_2) rfl rfl (pc' := 3) ?_
  have hz1 : n0 ≤ h0.size := by omega
  obtain ⟨_, _, ⟨T1, L1, k1, n1⟩, -, X1, ⟨Lc1, hQ1, l1, y1, z1⟩, st1⟩ := superBack X0 hx hZ (y := (⟨"com/example/moraine/moraine/formats/ColumnVector$Nullable", "keep", "([II)V"⟩ : MethodName)) hown (hw _ (List.mem_of_getElem? (i := 46) rfl)) (oSame (hw _ (List.mem_of_getElem? (i := 49) rfl)) (hw _ (List.mem_of_getElem? (i := 37) rfl)) rfl (by decide)) (hw _ (List.mem_of_getElem? (i := 47) rfl)) (hw _ (List.mem_of_getElem? (i := 48) rfl)) (by decide) (backOf (W := 0) (rmNKeep l Z a0 hw [] v va f g rs rf k h0 n0 hz1 V0' O0 hk VR nrv) hZ (hw _ (List.mem_of_getElem? (i := 50) rfl)) (hw _ (List.mem_of_getElem? (i := 10) rfl)) (by decide) (by decide)) e0 (Ins.self V0'.1) (g := (mkF m 3 #[.val (.ref v), .val (.ref rs), .val (.int k), .unset] [(.int k), (.ref rs), (.ref v)])) rfl (by rw [hml]; rfl) (hw _ (List.mem_of_getElem? (i := 50) rfl)) (argsL := [(.ref rs), (.int k)]) (rest := []) (lenOf pd_2 rfl) rfl (by show 2 * 0 + _ ≤ _; exact Nat.le_of_eq rfl) (hb hby d8_3) (fun _ _ => ⟨rfl, e0, (by decide : 0 + 0 ≤ _), (by decide : 0 + 0 ≤ _)⟩)
  dsimp only [Pt.U, Pt.locs, Pt.cells, Pt.slots] at X1 l1 y1 z1 st1 hQ1
  subst l1 y1 z1
  obtain ⟨rfl, N1q, Tr1, Oo1, Vv1⟩ := hQ1
  have N1 := Fr.app N0 N1q
  refine oSt st1 ?_
  have z2 : h0.size ≤ T1.heap.size := Tr1.1
  show oGl p e below (T1.setTop (mkF m 6 #[.val (.ref v), .val (.ref rs), .val (.int k), .unset] [])) _
  refine siconst X1 hx (hb hby d8_6) rfl rfl (z := 0) (pc' := 7) ?_
  refine sistoreN X1 hx (hb hby d8_7) rfl rfl (l' := #[.val (.ref v), .val (.ref rs), .val (.int k), .val (.int (0 : Int32))]) (pc' := 8) ?_
  have f3 := (Tr1.2 _ _ _ (oNe (by omega)) VR)
  have VRa := f3
  have Ob := Oo1
  obtain ⟨E0, F0, F1, V0, gv, gva, nva, hbb, hn⟩ := Vv1
  have lva := V0.lt
  have lrs := VRa.lt
  have lh : n0 ≤ T1.heap.size := by omega
  have nva2 : @Ne Nat v va := nva
  have nrv2 : @Ne Nat rs va := nrv
  have V0z : oAI Z T1.heap va .int 4 (oKp f rf (0 : Int32).toInt.toNat) := by rw [show (0 : Int32).toInt.toNat = 0 from rfl, oKp0]; exact V0
  have Kz : Keep T1.heap T1.heap [va] := Keep.refl _ _
  have loop : ∀ (kF : Nat) (i : Int32) (T : State) (locs : List Loc) (X : Stand p l e ({ frames := 1, cells := 0, slots := 0, locals := 15 } : Room) s m #[(.ref v), (.ref rs), (.int k)] below meth c T locs 0 0) (hh : Heap) (eT : T.heap = hh) (N : Fr n0 locs) (hzh : n0 ≤ hh.size) (Kp : Keep T1.heap hh [va]) (Oo : Old Z n0 hh) (fa0 : Exa Z hh v "com/example/moraine/moraine/formats/ColumnVector$Ints") (fa1 : Fld Z hh v "com/example/moraine/moraine/formats/ColumnVector$Ints" "values" "[I" (.ref va)) (fa2 : oAI Z hh va .int 4 (oKp f rf i.toInt.toNat)) (fa3 : oAI Z hh rs .int 4 rf) (fa4 : Fld Z hh v "com/example/moraine/moraine/formats/ColumnVector$Nullable" "capacity" "I" (.int 4)) (hm : (k.toInt.toNat - i.toInt.toNat) < kF) (hi : 0 ≤ i.toInt ∧ i.toInt ≤ k.toInt), oGl p e below (T.setTop (mkF m 8 #[.val (.ref v), .val (.ref rs), .val (.int k), .val (.int i)] [])) (oFin s below (Q_rmKeep Z v va f g rs rf k h0 n0) ({ frames := 1, cells := 0, slots := 0, locals := 15 } : Room).cells ({ frames := 1, cells := 0, slots := 0, locals := 15 } : Room).slots) := by
    intro kF
    induction kF with
    | zero => intro i T locs X hh eT N hzh Kp Oo fa0 fa1 fa2 fa3 fa4 hm hi; exact absurd hm (Nat.not_lt_zero _)
    | succ kF ih =>
      intro i T locs X hh eT N hzh Kp Oo fa0 fa1 fa2 fa3 fa4 hm hi
      have lfa0 : @LT.lt Nat _ v hh.size := fa0.lt
      have lfa1 : @LT.lt Nat _ v hh.size := fa1.lt
      have lfa2 : @LT.lt Nat _ va hh.size := fa2.lt
      have lfa3 : @LT.lt Nat _ rs hh.size := fa3.lt
      have lfa4 : @LT.lt Nat _ v hh.size := fa4.lt
      refine siloadN X hx (hb hby d8_8) rfl rfl (pc' := 9) ?_
      refine siloadN X hx (hb hby d8_9) rfl rfl (pc' := 10) ?_
      by_cases hc10 : i < k
      · skip
        refine sicN X hx (hb hby d8_10) rfl (tlt hc10).2.1 (pc' := 13) ?_
        refine saloadN X hx (hb hby d8_13) rfl rfl rfl (pc' := 14) ?_
        obtain ⟨T4, X4, e4, st4⟩ := getF X hx hZ hown (host := "") (Or.inl (hw _ (List.mem_of_getElem? (i := 22) rfl))) Via.refl eT fa1 (g := (mkF m 14 #[.val (.ref v), .val (.ref rs), .val (.int k), .val (.int i)] [(.ref v)])) rfl rfl (hb hby d8_14)
        refine oOn st4 ?_
        show oGl p e below (T4.setTop (mkF m 17 #[.val (.ref v), .val (.ref rs), .val (.int k), .val (.int i)] [(.ref va)])) _
        refine siloadN X4 hx (hb hby d8_17) rfl rfl (pc' := 18) ?_
        refine saloadN X4 hx (hb hby d8_18) rfl rfl rfl (pc' := 19) ?_
        obtain ⟨T5, X5, e5, st5⟩ := getF X4 hx hZ hown (host := "") (Or.inl (hw _ (List.mem_of_getElem? (i := 22) rfl))) Via.refl e4 fa1 (g := (mkF m 19 #[.val (.ref v), .val (.ref rs), .val (.int k), .val (.int i)] [(.ref v), (.int i), (.ref va)])) rfl rfl (hb hby d8_19)
        refine oOn st5 ?_
        show oGl p e below (T5.setTop (mkF m 22 #[.val (.ref v), .val (.ref rs), .val (.int k), .val (.int i)] [(.ref va), (.int i), (.ref va)])) _
        refine saloadN X5 hx (hb hby d8_22) rfl rfl rfl (pc' := 23) ?_
        refine siloadN X5 hx (hb hby d8_23) rfl rfl (pc' := 24) ?_
        refine oOn (fa3.ldI X5 hx hZ e5 (j := i) (by have hlt := Int32.lt_iff_toInt_lt.mp hc10; have := hk.2.1; have hrr := hk.2.2 i.toInt.toNat (by omega); omega) (g := (mkF m 24 #[.val (.ref v), .val (.ref rs), .val (.int k), .val (.int i)] [(.int i), (.ref rs), (.ref va), (.int i), (.ref va)])) rfl rfl (hb hby d8_24)) ?_
        show oGl p e below (T5.setTop (mkF m 25 #[.val (.ref v), .val (.ref rs), .val (.int k), .val (.int i)] [(.int (rf i.toInt.toNat)), (.ref va), (.int i), (.ref va)])) _
        refine oOn (fa2.ldI X5 hx hZ e5 (j := (rf i.toInt.toNat)) (by have hlt := Int32.lt_iff_toInt_lt.mp hc10; have := hk.2.1; have hrr := hk.2.2 i.toInt.toNat (by omega); omega) (g := (mkF m 25 #[.val (.ref v), .val (.ref rs), .val (.int k), .val (.int i)] [(.int (rf i.toInt.toNat)), (.ref va), (.int i), (.ref va)])) rfl rfl (hb hby d8_25)) ?_
        show oGl p e below (T5.setTop (mkF m 26 #[.val (.ref v), .val (.ref rs), .val (.int k), .val (.int i)] [(.int ((oKp f rf i.toInt.toNat) (rf i.toInt.toNat).toInt.toNat)), (.int i), (.ref va)])) _
        obtain ⟨T6, h6, X6, e6, W6, V6, st6⟩ := fa2.stI X5 hx hZ e5 (j := i) (by have hlt := Int32.lt_iff_toInt_lt.mp hc10; have := hk.2.1; have hrr := hk.2.2 i.toInt.toNat (by omega); omega) (g := (mkF m 26 #[.val (.ref v), .val (.ref rs), .val (.int k), .val (.int i)] [(.int ((oKp f rf i.toInt.toNat) (rf i.toInt.toNat).toInt.toNat)), (.int i), (.ref va)])) rfl rfl (hb hby d8_26)
        refine oOn st6 ?_
        have z7 : hh.size ≤ h6.size := Nat.le_of_eq W6.size.symm
        have N6 := Fr.snoc X6 N (by omega)
        show oGl p e below (T6.setTop (mkF m 27 #[.val (.ref v), .val (.ref rs), .val (.int k), .val (.int i)] [])) _
        refine siinc X6 hx (hb hby d8_27) rfl rfl rfl (l' := #[.val (.ref v), .val (.ref rs), .val (.int k), .val (.int (i + (1 : Int32)))]) (pc' := 30) ?_
        refine sgoto X6 hx (hb hby d8_30) (by decide) (by decide)  (pc' := 8) ?_
        have hlt := Int32.lt_iff_toInt_lt.mp hc10
        have hi1 := own_inc (x := i) (by have := hk.2.1; omega)
        have hrr := hk.2.2 i.toInt.toNat (by omega)
        have Vn : oAI Z h6 va .int 4 (oKp f rf (i + (1 : Int32)).toInt.toNat) := by
          have q := V6
          rw [oKp_step hi.1 (by omega)] at q
          rw [hi1, show (i.toInt + 1).toNat = i.toInt.toNat + 1 by omega]; exact q
        have hzb : n0 ≤ h6.size := by omega
        have kp8 : Keep T1.heap h6 [va] := (Kp.wr W6 (Or.inl (List.mem_of_getElem? (i := 0) rfl)))
        have f9 := (Oo.wr W6 (by omega))
        have f10 := (fa0.wr W6)
        have f11 := (fa1.other W6 (Or.inl (oNe (by omega))))
        have f12 := (fa3.other W6 (oNe (by omega)))
        have f13 := (fa4.other W6 (Or.inl (oNe (by omega))))
        exact ih (i + (1 : Int32)) _ _ X6 _ e6 N6 hzb kp8 f9 f10 f11 Vn f12 f13 (by have := hk.2.1; omega) ⟨by omega, by omega⟩
      · skip
        refine sicY X hx (hb hby d8_10) (by decide) (by decide) (flt hc10).2.1 (pc' := 33) ?_
        have hge : ¬ i.toInt < k.toInt := fun q => hc10 (Int32.lt_iff_toInt_lt.mpr q)
        have hik : i.toInt.toNat = k.toInt.toNat := by omega
        have kp14 : Keep T1.heap hh [va] := Kp
        refine oRet0 X hx Bd.notSynchronized Bd.returns (hb hby d8_33) (by decide) (by decide) ?_
        show Q_rmKeep Z v va f g rs rf k h0 n0 _ T.heap _
        rw [eT]
        exact ⟨rfl, N, Tr1.trans (oTr.of kp14 (fun a n fn q0 F => ninS q0 nin0)), Oo, ⟨fa0, fa4, fa1, hik ▸ fa2, gv, gva, nva, hbb, by
          rcases hn with ⟨F2, hg⟩ | ⟨nb, gnb, F2, V1⟩
          · exact Or.inl ⟨F2.keep kp14 (ninS nva nin0), hg⟩
          · exact Or.inr ⟨nb, gnb, F2.keep kp14 (ninS nva nin0), V1.keep kp14 (ninS (oNeT V1 V0 (by decide)) nin0)⟩⟩⟩
  have hzb : n0 ≤ T1.heap.size := by omega
  exact loop _ 0 _ _ X1 _ rfl N1 hzb Kz Ob E0 F1 V0z VRa F0 (Nat.lt_succ_self _) (by
      have e0 : (0 : Int32).toInt = 0 := rfl
      have := hk.1
      exact ⟨by omega, by omega⟩)
theorem d12_0 : decode prog_23_method_5_code 0 = .ok (.aload_n 0, 1) := by decide +kernel
theorem d12_1 : decode prog_23_method_5_code 1 = .ok (.getfield 13, 3) := by decide +kernel
theorem d12_4 : decode prog_23_method_5_code 4 = .ok (.ifnull 16, 3) := by decide +kernel
theorem d12_20 : decode prog_23_method_5_code 20 = .ok (.iconst 0, 1) := by decide +kernel
theorem d12_21 : decode prog_23_method_5_code 21 = .ok (.ireturn, 1) := by decide +kernel
theorem d12_7 : decode prog_23_method_5_code 7 = .ok (.aload_n 0, 1) := by decide +kernel
theorem d12_8 : decode prog_23_method_5_code 8 = .ok (.getfield 13, 3) := by decide +kernel
theorem d12_11 : decode prog_23_method_5_code 11 = .ok (.iload_n 1, 1) := by decide +kernel
theorem d12_12 : decode prog_23_method_5_code 12 = .ok (.baload, 1) := by decide +kernel
theorem d12_13 : decode prog_23_method_5_code 13 = .ok (.ifCond .eq 7, 3) := by decide +kernel
theorem d12_16 : decode prog_23_method_5_code 16 = .ok (.iconst 1, 1) := by decide +kernel
theorem d12_17 : decode prog_23_method_5_code 17 = .ok (.goto 4, 3) := by decide +kernel
theorem ef_rmIsNull (m : MethodId) (x0 : Nat) (x1 : Int32)  : entryFrame m #[(.ref x0), (.int x1)] 2 = mkF m 0 #[.val (.ref x0), .val (.int x1)] [] := by first | (simp [entryFrame, mkF, argsToLocals, Value.category, maxLocals]; done) | rfl
def Q_rmIsNull (Z : State) (v va : Nat) (f g : Nat → Int32) (r : Int32) (h0 : Heap) (n0 : Nat) (vv : Option Value) (h : Heap) (L : List Loc) : Prop := vv = some (.int (if g r.toInt.toNat = 0 then 0 else 1)) ∧ Fr n0 L ∧ h = h0
set_option maxRecDepth 65536 in
set_option maxHeartbeats 40000000 in
theorem rmIsNull (l : Launch) (Z : State) (a0 : Array Value) (hw : ∀ d ∈ tables_1, d.before a0 Z = true) (ws : List Jvm.Cond) (v va : Nat) (f g : Nat → Int32) (r : Int32) (h0 : Heap) (n0 : Nat) (Z0 : n0 ≤ h0.size) (V0' : oVec Z h0 v va n0 f g) (O0 : Old Z n0 h0) (hr : 0 ≤ r.toInt ∧ r.toInt < (4 : Nat)) :
    MetFree l (⟨"com/example/moraine/moraine/formats/ColumnVector$Nullable", "isNull", "(I)Z"⟩ : MethodName) (head1 (Jvm.Cond.code (⟨"com/example/moraine/moraine/formats/ColumnVector$Nullable", "isNull", "(I)Z"⟩ : MethodName) prog_23_method_5_code 2 (some .boolean) :: ws) ({ frames := 0, cells := 0, slots := 0, locals := 0 } : Room)) (fun aA uU => aA = #[(.ref v), (.int r)] ∧ Z.Warmed39 uU.vm ∧ uU.heap = h0) (fun _ _ _ _ _ => True) (fun _ uU oO uU' => ∃ vV lL, oO = .returned vV ∧ Q_rmIsNull Z v va f g r h0 n0 vV uU'.heap lL ∧ FrameEnd uU oO uU' lL ({ frames := 0, cells := 0, slots := 0, locals := 0 } : Room).cells ({ frames := 0, cells := 0, slots := 0, locals := 0 } : Room).slots) := by
  refine MetFree.of_bodySF (plainFor_of_name pn_ColumnVector_Nullable) hisR ?_
  intro p e s m args below meth c s₁ Bd hml0 hP hK
  obtain ⟨rfl, hZ, hh⟩ := hP
  have hx := Bd.exec
  have hby := Bd.bytes
  have hml : c.maxLocals = 2 := hml0
  have hown : s.vm.findClass "com/example/moraine/moraine/formats/ColumnVector$Nullable" = some m.cls := findClass_of_methodNamed Bd.named
  have hnm := (name_of_methodNamed Bd.named Bd.method).1
  have X0 : Stand p l e ({ frames := 0, cells := 0, slots := 0, locals := 0 } : Room) s m #[(.ref v), (.int r)] below meth c s₁ [] 0 0 := Stand.of_body Bd
  have e0 : s₁.heap = h0 := by rw [← hh, Bd.state]; rfl
  have N0 := Fr.nil n0
  refine oEnter (oCast (ef_rmIsNull m v r ) ?_)
  show oGl p e below (s₁.setTop (mkF m 0 #[.val (.ref v), .val (.int r)] [])) _
  obtain ⟨E0, F0, F1, V0, gv, gva, nva, hbb, hn⟩ := V0'
  have lv : @LT.lt Nat _ v h0.size := E0.lt
  have lva := V0.lt
  have nva2 : @Ne Nat v va := nva
  rcases hn with ⟨F2, hg⟩ | ⟨nb, gnb, F2, V1⟩
  · skip
    refine saloadN X0 hx (hb hby d12_0) rfl rfl rfl (pc' := 1) ?_
    obtain ⟨T1, X1, e1, st1⟩ := getF X0 hx hZ hown (host := "") (Or.inl (hw _ (List.mem_of_getElem? (i := 39) rfl))) Via.refl e0 F2 (g := (mkF m 1 #[.val (.ref v), .val (.int r)] [(.ref v)])) rfl rfl (hb hby d12_1)
    refine oOn st1 ?_
    show oGl p e below (T1.setTop (mkF m 4 #[.val (.ref v), .val (.int r)] [.null])) _
    refine sifnullY X1 hx (hb hby d12_4) (by decide) (by decide)  (pc' := 20) ?_
    refine siconst X1 hx (hb hby d12_20) rfl rfl (z := 0) (pc' := 21) ?_
    refine oRetN (t := .boolean) X1 hx Bd.notSynchronized Bd.returns (by simp) (hb hby d12_21) (by decide) (by decide) ?_
    show Q_rmIsNull Z v va f g r h0 n0 _ T1.heap _
    rw [e1]
    exact ⟨by rw [hg]; rfl, N0, rfl⟩
  · skip
    have lnb := V1.lt
    have nnb : @Ne Nat nb va := oNeT V1 V0 (by decide)
    have nnv : @Ne Nat v nb := oNeO E0 (hw _ (List.mem_of_getElem? (i := 2) rfl)) V1
    have nva2 : @Ne Nat v va := nva
    refine saloadN X0 hx (hb hby d12_0) rfl rfl rfl (pc' := 1) ?_
    obtain ⟨T2, X2, e2, st2⟩ := getF X0 hx hZ hown (host := "") (Or.inl (hw _ (List.mem_of_getElem? (i := 39) rfl))) Via.refl e0 F2 (g := (mkF m 1 #[.val (.ref v), .val (.int r)] [(.ref v)])) rfl rfl (hb hby d12_1)
    refine oOn st2 ?_
    show oGl p e below (T2.setTop (mkF m 4 #[.val (.ref v), .val (.int r)] [(.ref nb)])) _
    refine sifnullN X2 hx (hb hby d12_4) rfl  (pc' := 7) ?_
    refine saloadN X2 hx (hb hby d12_7) rfl rfl rfl (pc' := 8) ?_
    obtain ⟨T3, X3, e3, st3⟩ := getF X2 hx hZ hown (host := "") (Or.inl (hw _ (List.mem_of_getElem? (i := 39) rfl))) Via.refl e2 F2 (g := (mkF m 8 #[.val (.ref v), .val (.int r)] [(.ref v)])) rfl rfl (hb hby d12_8)
    refine oOn st3 ?_
    show oGl p e below (T3.setTop (mkF m 11 #[.val (.ref v), .val (.int r)] [(.ref nb)])) _
    refine siloadN X3 hx (hb hby d12_11) rfl rfl (pc' := 12) ?_
    refine oOn (V1.ldZ X3 hx hZ e3 (j := r) hr (g := (mkF m 12 #[.val (.ref v), .val (.int r)] [(.int r), (.ref nb)])) rfl rfl (hb hby d12_12)) ?_
    show oGl p e below (T3.setTop (mkF m 13 #[.val (.ref v), .val (.int r)] [(.int (g r.toInt.toNat))])) _
    by_cases hc13 : (g r.toInt.toNat) = (0 : Int32)
    · skip
      refine sifY X3 hx (hb hby d12_13) (by decide) (by decide) (teq hc13).1 (pc' := 20) ?_
      refine siconst X3 hx (hb hby d12_20) rfl rfl (z := 0) (pc' := 21) ?_
      refine oRetN (t := .boolean) X3 hx Bd.notSynchronized Bd.returns (by simp) (hb hby d12_21) (by decide) (by decide) ?_
      show Q_rmIsNull Z v va f g r h0 n0 _ T3.heap _
      rw [e3]
      exact ⟨by rw [if_pos hc13]; rfl, N0, rfl⟩
    · skip
      refine sifN X3 hx (hb hby d12_13) rfl (feq hc13).1 (pc' := 16) ?_
      refine siconst X3 hx (hb hby d12_16) rfl rfl (z := 1) (pc' := 17) ?_
      refine sgoto X3 hx (hb hby d12_17) (by decide) (by decide)  (pc' := 21) ?_
      refine oRetN (t := .boolean) X3 hx Bd.notSynchronized Bd.returns (by simp) (hb hby d12_21) (by decide) (by decide) ?_
      show Q_rmIsNull Z v va f g r h0 n0 _ T3.heap _
      rw [e3]
      exact ⟨by rw [if_neg hc13]; rfl, N0, rfl⟩
theorem d17_0 : decode jdk_18_method_1_code 0 = .ok (.aload_n 0, 1) := by decide +kernel
theorem d17_1 : decode jdk_18_method_1_code 1 = .ok (.invokespecial 1, 3) := by decide +kernel
theorem d17_4 : decode jdk_18_method_1_code 4 = .ok (.return_, 1) := by decide +kernel
theorem pn_Number : plainName "java/lang/Number" = true := by first | (simp [plainName, overriddenIn]; done) | decide +kernel
theorem ef_rmNum (m : MethodId) (x0 : Nat)  : entryFrame m #[(.ref x0)] 1 = mkF m 0 #[.val (.ref x0)] [] := by first | (simp [entryFrame, mkF, argsToLocals, Value.category, maxLocals]; done) | rfl
def Q_rmNum (Z : State) (a : Nat) (h0 : Heap) (n0 : Nat) (vv : Option Value) (h : Heap) (L : List Loc) : Prop := vv = none ∧ Fr n0 L ∧ h = h0
set_option maxRecDepth 65536 in
set_option maxHeartbeats 40000000 in
theorem rmNum (l : Launch) (Z : State) (a0 : Array Value) (hw : ∀ d ∈ tables_1, d.before a0 Z = true) (ws : List Jvm.Cond) (a : Nat) (h0 : Heap) (n0 : Nat) (Z0 : n0 ≤ h0.size)  :
    MetFree l (⟨"java/lang/Number", "<init>", "()V"⟩ : MethodName) (head1 (Jvm.Cond.code (⟨"java/lang/Number", "<init>", "()V"⟩ : MethodName) jdk_18_method_1_code 1 (none : Option FieldType) :: ws) ({ frames := 1, cells := 0, slots := 0, locals := 12 } : Room)) (fun aA uU => aA = #[(.ref a)] ∧ Z.Warmed39 uU.vm ∧ uU.heap = h0) (fun _ _ _ _ _ => True) (fun _ uU oO uU' => ∃ vV lL, oO = .returned vV ∧ Q_rmNum Z a h0 n0 vV uU'.heap lL ∧ FrameEnd uU oO uU' lL ({ frames := 1, cells := 0, slots := 0, locals := 12 } : Room).cells ({ frames := 1, cells := 0, slots := 0, locals := 12 } : Room).slots) := by
  refine MetFree.of_bodySF (plainFor_of_name pn_Number) hisR ?_
  intro p e s m args below meth c s₁ Bd hml0 hP hK
  obtain ⟨rfl, hZ, hh⟩ := hP
  have hx := Bd.exec
  have hby := Bd.bytes
  have hml : c.maxLocals = 1 := hml0
  have hown : s.vm.findClass "java/lang/Number" = some m.cls := findClass_of_methodNamed Bd.named
  have hnm := (name_of_methodNamed Bd.named Bd.method).1
  have X0 : Stand p l e ({ frames := 1, cells := 0, slots := 0, locals := 12 } : Room) s m #[(.ref a)] below meth c s₁ [] 0 0 := Stand.of_body Bd
  have e0 : s₁.heap = h0 := by rw [← hh, Bd.state]; rfl
  have N0 := Fr.nil n0
  refine oEnter (oCast (ef_rmNum m a ) ?_)
  show oGl p e below (s₁.setTop (mkF m 0 #[.val (.ref a)] [])) _
  refine saloadN X0 hx (hb hby d17_0) rfl rfl rfl (pc' := 1) ?_
  obtain ⟨T1, X1, e1, st1⟩ := initO X0 hx hZ hown (hw _ (List.mem_of_getElem? (i := 99) rfl)) (hw _ (List.mem_of_getElem? (i := 18) rfl)) (hw _ (List.mem_of_getElem? (i := 19) rfl)) e0 (g := (mkF m 1 #[.val (.ref a)] [(.ref a)])) rfl (by rw [hml]; rfl) rfl (hb hby d17_1) (by decide) (W := 0) (by show 2 * 0 + _ ≤ _; exact Nat.le_of_eq rfl) (by decide)
  refine oOn st1 ?_
  show oGl p e below (T1.setTop (mkF m 4 #[.val (.ref a)] [])) _
  refine oRet0 X1 hx Bd.notSynchronized Bd.returns (hb hby d17_4) (by decide) (by decide) ?_
  show Q_rmNum Z a h0 n0 _ T1.heap _
  rw [e1]
  exact ⟨rfl, N0, rfl⟩
theorem d16_0 : decode jdk_33_method_23_code 0 = .ok (.aload_n 0, 1) := by decide +kernel
theorem d16_1 : decode jdk_33_method_23_code 1 = .ok (.invokespecial 202, 3) := by decide +kernel
theorem pd_3 : parseMethodDescriptor "()V" = some ⟨[], none⟩ := by decide +kernel
theorem d16_4 : decode jdk_33_method_23_code 4 = .ok (.aload_n 0, 1) := by decide +kernel
theorem d16_5 : decode jdk_33_method_23_code 5 = .ok (.iload_n 1, 1) := by decide +kernel
theorem d16_6 : decode jdk_33_method_23_code 6 = .ok (.putfield 205, 3) := by decide +kernel
theorem d16_9 : decode jdk_33_method_23_code 9 = .ok (.return_, 1) := by decide +kernel
theorem pn_Integer : plainName "java/lang/Integer" = true := by first | (simp [plainName, overriddenIn]; done) | decide +kernel
theorem ef_rmIntInit (m : MethodId) (x0 : Nat) (x1 : Int32)  : entryFrame m #[(.ref x0), (.int x1)] 2 = mkF m 0 #[.val (.ref x0), .val (.int x1)] [] := by first | (simp [entryFrame, mkF, argsToLocals, Value.category, maxLocals]; done) | rfl
def Q_rmIntInit (Z : State) (a : Nat) (x : Int32) (h0 : Heap) (n0 : Nat) (vv : Option Value) (h : Heap) (L : List Loc) : Prop := vv = none ∧ Fr n0 L ∧ Keep h0 h [a] ∧ Fld Z h a "java/lang/Integer" "value" "I" (.int x)
set_option maxRecDepth 65536 in
set_option maxHeartbeats 40000000 in
theorem rmIntInit (l : Launch) (Z : State) (a0 : Array Value) (hw : ∀ d ∈ tables_1, d.before a0 Z = true) (ws : List Jvm.Cond) (a : Nat) (x : Int32) (h0 : Heap) (n0 : Nat) (Z0 : n0 ≤ h0.size) (E0 : Exa Z h0 a "java/lang/Integer") (F0 : Fld Z h0 a "java/lang/Integer" "value" "I" (.int 0)) (ga : n0 ≤ a) :
    MetFree l (⟨"java/lang/Integer", "<init>", "(I)V"⟩ : MethodName) (head1 (Jvm.Cond.code (⟨"java/lang/Integer", "<init>", "(I)V"⟩ : MethodName) jdk_33_method_23_code 2 (none : Option FieldType) :: ws) ({ frames := 2, cells := 0, slots := 0, locals := 24 } : Room)) (fun aA uU => aA = #[(.ref a), (.int x)] ∧ Z.Warmed39 uU.vm ∧ uU.heap = h0) (fun _ _ _ _ _ => True) (fun _ uU oO uU' => ∃ vV lL, oO = .returned vV ∧ Q_rmIntInit Z a x h0 n0 vV uU'.heap lL ∧ FrameEnd uU oO uU' lL ({ frames := 2, cells := 0, slots := 0, locals := 24 } : Room).cells ({ frames := 2, cells := 0, slots := 0, locals := 24 } : Room).slots) := by
  refine MetFree.of_bodySF (plainFor_of_name pn_Integer) hisR ?_
  intro p e s m args below meth c s₁ Bd hml0 hP hK
  obtain ⟨rfl, hZ, hh⟩ := hP
  have hx := Bd.exec
  have hby := Bd.bytes
  have hml : c.maxLocals = 2 := hml0
  have hown : s.vm.findClass "java/lang/Integer" = some m.cls := findClass_of_methodNamed Bd.named
  have hnm := (name_of_methodNamed Bd.named Bd.method).1
  have X0 : Stand p l e ({ frames := 2, cells := 0, slots := 0, locals := 24 } : Room) s m #[(.ref a), (.int x)] below meth c s₁ [] 0 0 := Stand.of_body Bd
  have e0 : s₁.heap = h0 := by rw [← hh, Bd.state]; rfl
  have N0 := Fr.nil n0
  refine oEnter (oCast (ef_rmIntInit m a x ) ?_)
  show oGl p e below (s₁.setTop (mkF m 0 #[.val (.ref a), .val (.int x)] [])) _
  refine saloadN X0 hx (hb hby d16_0) rfl rfl rfl (pc' := 1) ?_
  have hz1 : n0 ≤ h0.size := by omega
  obtain ⟨_, _, ⟨T1, L1, k1, n1⟩, -, X1, ⟨Lc1, hQ1, l1, y1, z1⟩, st1⟩ := X0.specialBack hx (y := (⟨"java/lang/Number", "<init>", "()V"⟩ : MethodName)) rfl hown (mvT hZ (hw _ (List.mem_of_getElem? (i := 93) rfl))) (mvT hZ (hw _ (List.mem_of_getElem? (i := 94) rfl))) (mvT hZ (hw _ (List.mem_of_getElem? (i := 98) rfl))) (by decide) (backOf (W := 0) (rmNum l Z a0 hw [] a h0 n0 hz1 ) hZ (hw _ (List.mem_of_getElem? (i := 98) rfl)) (hw _ (List.mem_of_getElem? (i := 97) rfl)) (by decide) (by decide)) (g := (mkF m 1 #[.val (.ref a), .val (.int x)] [(.ref a)])) rfl (by rw [hml]; rfl) (Steps.refl _) (a := a) (argsL := []) (rest := []) (lenOf pd_3 rfl) rfl (by show 2 * 0 + _ ≤ _; exact Nat.le_of_eq rfl) (hb hby d16_1) (fun _ _ => ⟨rfl, e0, (by decide : 0 + 0 ≤ _), (by decide : 0 + 0 ≤ _)⟩)
  dsimp only [Pt.U, Pt.locs, Pt.cells, Pt.slots] at X1 l1 y1 z1 st1 hQ1
  subst l1 y1 z1
  obtain ⟨rfl, N1q, eh1⟩ := hQ1
  have N1 := Fr.app N0 N1q
  refine oSt st1 ?_
  show oGl p e below (T1.setTop (mkF m 4 #[.val (.ref a), .val (.int x)] [])) _
  refine saloadN X1 hx (hb hby d16_4) rfl rfl rfl (pc' := 5) ?_
  refine siloadN X1 hx (hb hby d16_5) rfl rfl (pc' := 6) ?_
  obtain ⟨T2, h2, X2, e2, W2, st2⟩ := putF X1 hx hZ hown (host := "") (Or.inl (hw _ (List.mem_of_getElem? (i := 79) rfl))) Via.refl eh1 F0 E0 (Or.inr ⟨(hw _ (List.mem_of_getElem? (i := 80) rfl)), rfl, hnm⟩) (hw _ (List.mem_of_getElem? (i := 89) rfl)) (ty := .int) (by decide) rfl rfl (g := (mkF m 6 #[.val (.ref a), .val (.int x)] [(.int x), (.ref a)])) rfl rfl (hb hby d16_6)
  refine oOn st2 ?_
  have z3 : h0.size ≤ h2.size := Nat.le_of_eq W2.size.symm
  have N2 := Fr.snoc X2 N1 (by omega)
  have f2 := Fld.same W2 F0
  show oGl p e below (T2.setTop (mkF m 9 #[.val (.ref a), .val (.int x)] [])) _
  have kp4 : Keep h0 h2 [a] := ((Keep.refl h0 [a]).wr W2 (Or.inl (List.mem_of_getElem? (i := 0) rfl)))
  refine oRet0 X2 hx Bd.notSynchronized Bd.returns (hb hby d16_9) (by decide) (by decide) ?_
  show Q_rmIntInit Z a x h0 n0 _ T2.heap _
  rw [e2]
  exact ⟨rfl, N2, kp4, f2⟩
theorem own_cidx {x : Int32} (h1 : ¬ x < (-128 : Int32)) (h2 : ¬ (127 : Int32) < x) : (0 ≤ (x + (128 : Int32)).toInt ∧ (x + (128 : Int32)).toInt < (256 : Nat)) ∧ x + (128 : Int32) - 128 = x := by
  rw [Int32.lt_iff_toInt_lt] at h1 h2
  have e1 : (-128 : Int32).toInt = -128 := by decide
  have e2 : (127 : Int32).toInt = 127 := by decide
  have e3 : (128 : Int32).toInt = 128 := by decide
  have a2 := c_iadd x 128; have a4 := rng32 (x + 128)
  exact ⟨by omega, Int32.add_sub_cancel x 128⟩
theorem d13_0 : decode jdk_33_method_22_code 0 = .ok (.iload_n 0, 1) := by decide +kernel
theorem d13_1 : decode jdk_33_method_22_code 1 = .ok (.bipush (-128), 2) := by decide +kernel
theorem d13_3 : decode jdk_33_method_22_code 3 = .ok (.if_icmp .lt 20, 3) := by decide +kernel
theorem d13_23 : decode jdk_33_method_22_code 23 = .ok (.new 1, 3) := by decide +kernel
theorem d13_26 : decode jdk_33_method_22_code 26 = .ok (.dup, 1) := by decide +kernel
theorem d13_27 : decode jdk_33_method_22_code 27 = .ok (.iload_n 0, 1) := by decide +kernel
theorem d13_28 : decode jdk_33_method_22_code 28 = .ok (.invokespecial 199, 3) := by decide +kernel
theorem d13_31 : decode jdk_33_method_22_code 31 = .ok (.areturn, 1) := by decide +kernel
theorem d13_6 : decode jdk_33_method_22_code 6 = .ok (.iload_n 0, 1) := by decide +kernel
theorem d13_7 : decode jdk_33_method_22_code 7 = .ok (.getstatic 191, 3) := by decide +kernel
theorem d13_10 : decode jdk_33_method_22_code 10 = .ok (.if_icmp .gt 13, 3) := by decide +kernel
theorem d13_13 : decode jdk_33_method_22_code 13 = .ok (.getstatic 195, 3) := by decide +kernel
theorem d13_16 : decode jdk_33_method_22_code 16 = .ok (.iload_n 0, 1) := by decide +kernel
theorem d13_17 : decode jdk_33_method_22_code 17 = .ok (.sipush 128, 3) := by decide +kernel
theorem d13_20 : decode jdk_33_method_22_code 20 = .ok (.iadd, 1) := by decide +kernel
theorem d13_21 : decode jdk_33_method_22_code 21 = .ok (.aaload, 1) := by decide +kernel
theorem d13_22 : decode jdk_33_method_22_code 22 = .ok (.areturn, 1) := by decide +kernel
theorem ef_rmValueOf (m : MethodId) (x0 : Int32)  : entryFrame m #[(.int x0)] 1 = mkF m 0 #[.val (.int x0)] [] := by first | (simp [entryFrame, mkF, argsToLocals, Value.category, maxLocals]; done) | rfl
def Q_rmValueOf (Z : State) (x : Int32) (ca : Nat) (cl : Cell) (h0 : Heap) (n0 : Nat) (vv : Option Value) (h : Heap) (L : List Loc) : Prop := ∃ o : Addr, vv = some (.ref o) ∧ Fr n0 L ∧ Keep h0 h [] ∧ Exa Z h o "java/lang/Integer" ∧ Fld Z h o "java/lang/Integer" "value" "I" (.int x)
set_option maxRecDepth 65536 in
set_option maxHeartbeats 40000000 in
theorem rmValueOf (l : Launch) (Z : State) (a0 : Array Value) (hw : ∀ d ∈ tables_1, d.before a0 Z = true) (ws : List Jvm.Cond) (x : Int32) (ca : Nat) (cl : Cell) (h0 : Heap) (n0 : Nat) (Z0 : n0 ≤ h0.size) (O0 : Old Z n0 h0) (SH : Sta Z Z.heap "java/lang/Integer$IntegerCache" "high" "I" (.int 127)) (SC : Sta Z Z.heap "java/lang/Integer$IntegerCache" "cache" "[Ljava/lang/Integer;" (.ref ca)) (AC : Arr Z Z.heap ca cl (.object "java/lang/Integer")) (CN : cl.slots.size = 256) (CA : ∀ j : Int32, 0 ≤ j.toInt ∧ j.toInt < (256 : Nat) → ∃ o, cl.slots[j.toNatClampNeg]? = some (.ref o) ∧ Exa Z Z.heap o "java/lang/Integer" ∧ Fld Z Z.heap o "java/lang/Integer" "value" "I" (.int (j - 128))) :
    MetFree l (⟨"java/lang/Integer", "valueOf", "(I)Ljava/lang/Integer;"⟩ : MethodName) (head1 (Jvm.Cond.code (⟨"java/lang/Integer", "valueOf", "(I)Ljava/lang/Integer;"⟩ : MethodName) jdk_33_method_22_code 1 (some (.object "java/lang/Integer")) :: ws) ({ frames := 3, cells := 1, slots := 1, locals := 38 } : Room)) (fun aA uU => aA = #[(.int x)] ∧ Z.Warmed39 uU.vm ∧ uU.heap = h0) (fun _ _ _ _ _ => True) (fun _ uU oO uU' => ∃ vV lL, oO = .returned vV ∧ Q_rmValueOf Z x ca cl h0 n0 vV uU'.heap lL ∧ FrameEnd uU oO uU' lL ({ frames := 3, cells := 1, slots := 1, locals := 38 } : Room).cells ({ frames := 3, cells := 1, slots := 1, locals := 38 } : Room).slots) := by
  refine MetFree.of_bodySF (plainFor_of_name pn_Integer) hisR ?_
  intro p e s m args below meth c s₁ Bd hml0 hP hK
  obtain ⟨rfl, hZ, hh⟩ := hP
  have hx := Bd.exec
  have hby := Bd.bytes
  have hml : c.maxLocals = 1 := hml0
  have hown : s.vm.findClass "java/lang/Integer" = some m.cls := findClass_of_methodNamed Bd.named
  have hnm := (name_of_methodNamed Bd.named Bd.method).1
  have X0 : Stand p l e ({ frames := 3, cells := 1, slots := 1, locals := 38 } : Room) s m #[(.int x)] below meth c s₁ [] 0 0 := Stand.of_body Bd
  have e0 : s₁.heap = h0 := by rw [← hh, Bd.state]; rfl
  have N0 := Fr.nil n0
  refine oEnter (oCast (ef_rmValueOf m x ) ?_)
  show oGl p e below (s₁.setTop (mkF m 0 #[.val (.int x)] [])) _
  refine siloadN X0 hx (hb hby d13_0) rfl rfl (pc' := 1) ?_
  refine sbipush X0 hx (hb hby d13_1) rfl rfl (z := -128) (pc' := 3) ?_
  by_cases hc3 : x < (-128 : Int32)
  · skip
    refine sicY X0 hx (hb hby d13_3) (by decide) (by decide) (tlt hc3).1 (pc' := 23) ?_
    obtain ⟨T1, h1, X1, e1, E1, A1, D1, -, st1⟩ := newO X0 hx hZ hown (hw _ (List.mem_of_getElem? (i := 88) rfl)) (hw _ (List.mem_of_getElem? (i := 89) rfl)) (hw _ (List.mem_of_getElem? (i := 67) rfl)) e0 (g := (mkF m 23 #[.val (.int x)] [])) rfl (hb hby d13_23) (by decide) (by decide)
    obtain ⟨a1, g1⟩ : ∃ z, z = h0.size := ⟨_, rfl⟩
    rw [← g1] at A1 D1 st1
    refine oOn st1 ?_
    have z2 : h0.size ≤ h1.size := E1.1
    have lt1 : a1 < h1.size := A1.lt
    have f1_80 : Fld Z h1 a1 "java/lang/Integer" "value" "I" (.int (0 : Int32)) := D1 (Or.inr (hw _ (List.mem_of_getElem? (i := 80) rfl))) (ty := .int) (by decide)
    show oGl p e below (T1.setTop (mkF m 26 #[.val (.int x)] [(.ref a1)])) _
    refine sdup X1 hx (hb hby d13_26) rfl rfl (pc' := 27) ?_
    refine siloadN X1 hx (hb hby d13_27) rfl rfl (pc' := 28) ?_
    have hz3 : n0 ≤ h1.size := by omega
    obtain ⟨_, _, ⟨T3, L3, k3, n3⟩, -, X3, ⟨Lc3, hQ3, l3, y3, z3⟩, st3⟩ := X1.specialBack hx (y := (⟨"java/lang/Integer", "<init>", "(I)V"⟩ : MethodName)) rfl hown (mvT hZ (hw _ (List.mem_of_getElem? (i := 90) rfl))) (mvT hZ (hw _ (List.mem_of_getElem? (i := 91) rfl))) (mvT hZ (hw _ (List.mem_of_getElem? (i := 92) rfl))) (by decide) (backOf (W := 1) (rmIntInit l Z a0 hw [] a1 x h1 n0 hz3 A1 f1_80 (by omega)) hZ (hw _ (List.mem_of_getElem? (i := 92) rfl)) (hw _ (List.mem_of_getElem? (i := 67) rfl)) (by decide) (by decide)) (g := (mkF m 28 #[.val (.int x)] [(.int x), (.ref a1), (.ref a1)])) rfl (by rw [hml]; rfl) (Steps.refl _) (a := a1) (argsL := [(.int x)]) (rest := [(.ref a1)]) (lenOf pd_0 rfl) rfl (by show 2 * 0 + _ ≤ _; exact Nat.le_of_eq rfl) (hb hby d13_28) (fun _ _ => ⟨rfl, e1, (by decide : 1 + 0 ≤ _), (by decide : 1 + 0 ≤ _)⟩)
    dsimp only [Pt.U, Pt.locs, Pt.cells, Pt.slots] at X3 l3 y3 z3 st3 hQ3
    subst l3 y3 z3
    obtain ⟨rfl, N3q, K3, Fi3⟩ := hQ3
    have N3 := Fr.app N0 N3q
    have z4 : h1.size ≤ T3.heap.size := K3.1
    refine oSt st3 ?_
    show oGl p e below (T3.setTop (mkF m 31 #[.val (.int x)] [(.ref a1)])) _
    have kp5 : Keep h0 T3.heap [] := (((Keep.refl h0 []).ext E1).trans K3 (allS (Or.inr (by omega)) all0))
    have f6 := (A1.keep K3)
    refine oRetR X3 hx Bd.notSynchronized Bd.returns rfl rfl (hb hby d13_31) (by decide) (by decide) ?_
    show Q_rmValueOf Z x ca cl h0 n0 _ T3.heap _
    exact ⟨a1, rfl, N3, kp5, f6, Fi3⟩
  · skip
    refine sicN X0 hx (hb hby d13_3) rfl (flt hc3).1 (pc' := 6) ?_
    refine siloadN X0 hx (hb hby d13_6) rfl rfl (pc' := 7) ?_
    obtain ⟨T7, X7, e7, st7⟩ := getS2 X0 hx hZ hown (host := "") (Or.inl (hw _ (List.mem_of_getElem? (i := 69) rfl))) Via.refl e0 (SH.ext O0.2) (g := (mkF m 7 #[.val (.int x)] [(.int x)])) rfl (hb hby d13_7)
    refine oOn st7 ?_
    show oGl p e below (T7.setTop (mkF m 10 #[.val (.int x)] [(.int (127 : Int32)), (.int x)])) _
    by_cases hc10 : (127 : Int32) < x
    · skip
      refine sicY X7 hx (hb hby d13_10) (by decide) (by decide) (tlt hc10).2.2.1 (pc' := 23) ?_
      obtain ⟨T8, h8, X8, e8, E8, A8, D8, -, st8⟩ := newO X7 hx hZ hown (hw _ (List.mem_of_getElem? (i := 88) rfl)) (hw _ (List.mem_of_getElem? (i := 89) rfl)) (hw _ (List.mem_of_getElem? (i := 67) rfl)) e7 (g := (mkF m 23 #[.val (.int x)] [])) rfl (hb hby d13_23) (by decide) (by decide)
      obtain ⟨a8, g8⟩ : ∃ z, z = h0.size := ⟨_, rfl⟩
      rw [← g8] at A8 D8 st8
      refine oOn st8 ?_
      have z9 : h0.size ≤ h8.size := E8.1
      have lt8 : a8 < h8.size := A8.lt
      have f8_80 : Fld Z h8 a8 "java/lang/Integer" "value" "I" (.int (0 : Int32)) := D8 (Or.inr (hw _ (List.mem_of_getElem? (i := 80) rfl))) (ty := .int) (by decide)
      show oGl p e below (T8.setTop (mkF m 26 #[.val (.int x)] [(.ref a8)])) _
      refine sdup X8 hx (hb hby d13_26) rfl rfl (pc' := 27) ?_
      refine siloadN X8 hx (hb hby d13_27) rfl rfl (pc' := 28) ?_
      have hz10 : n0 ≤ h8.size := by omega
      obtain ⟨_, _, ⟨T10, L10, k10, n10⟩, -, X10, ⟨Lc10, hQ10, l10, y10, z10⟩, st10⟩ := X8.specialBack hx (y := (⟨"java/lang/Integer", "<init>", "(I)V"⟩ : MethodName)) rfl hown (mvT hZ (hw _ (List.mem_of_getElem? (i := 90) rfl))) (mvT hZ (hw _ (List.mem_of_getElem? (i := 91) rfl))) (mvT hZ (hw _ (List.mem_of_getElem? (i := 92) rfl))) (by decide) (backOf (W := 1) (rmIntInit l Z a0 hw [] a8 x h8 n0 hz10 A8 f8_80 (by omega)) hZ (hw _ (List.mem_of_getElem? (i := 92) rfl)) (hw _ (List.mem_of_getElem? (i := 67) rfl)) (by decide) (by decide)) (g := (mkF m 28 #[.val (.int x)] [(.int x), (.ref a8), (.ref a8)])) rfl (by rw [hml]; rfl) (Steps.refl _) (a := a8) (argsL := [(.int x)]) (rest := [(.ref a8)]) (lenOf pd_0 rfl) rfl (by show 2 * 0 + _ ≤ _; exact Nat.le_of_eq rfl) (hb hby d13_28) (fun _ _ => ⟨rfl, e8, (by decide : 1 + 0 ≤ _), (by decide : 1 + 0 ≤ _)⟩)
      dsimp only [Pt.U, Pt.locs, Pt.cells, Pt.slots] at X10 l10 y10 z10 st10 hQ10
      subst l10 y10 z10
      obtain ⟨rfl, N10q, K10, Fi10⟩ := hQ10
      have N10 := Fr.app N0 N10q
      have z11 : h8.size ≤ T10.heap.size := K10.1
      refine oSt st10 ?_
      show oGl p e below (T10.setTop (mkF m 31 #[.val (.int x)] [(.ref a8)])) _
      have kp12 : Keep h0 T10.heap [] := (((Keep.refl h0 []).ext E8).trans K10 (allS (Or.inr (by omega)) all0))
      have f13 := (A8.keep K10)
      refine oRetR X10 hx Bd.notSynchronized Bd.returns rfl rfl (hb hby d13_31) (by decide) (by decide) ?_
      show Q_rmValueOf Z x ca cl h0 n0 _ T10.heap _
      exact ⟨a8, rfl, N10, kp12, f13, Fi10⟩
    · skip
      refine sicN X7 hx (hb hby d13_10) rfl (flt hc10).2.2.1 (pc' := 13) ?_
      obtain ⟨T14, X14, e14, st14⟩ := getS2 X7 hx hZ hown (host := "") (Or.inl (hw _ (List.mem_of_getElem? (i := 71) rfl))) Via.refl e7 (SC.ext O0.2) (g := (mkF m 13 #[.val (.int x)] [])) rfl (hb hby d13_13)
      refine oOn st14 ?_
      show oGl p e below (T14.setTop (mkF m 16 #[.val (.int x)] [(.ref ca)])) _
      refine siloadN X14 hx (hb hby d13_16) rfl rfl (pc' := 17) ?_
      refine ssipush X14 hx (hb hby d13_17) rfl rfl (z := 128) (pc' := 20) ?_
      refine siadd X14 hx (hb hby d13_20) rfl rfl (pc' := 21) ?_
      obtain ⟨hj, hjx⟩ := own_cidx (x := x) hc3 hc10
      obtain ⟨o, ho, Eo, Fo⟩ := CA _ hj
      rw [hjx] at Fo
      refine oOn (X14.aaload hx (j := (x + (128 : Int32))) (v := .ref o) (by rw [e14]; exact (AC.ext O0.2).1) (State.isArrayOf_alike hZ.alike AC.2.1) rfl AC.2.2 (oNotIn CN hj) ho (g := (mkF m 21 #[.val (.int x)] [(.int (x + (128 : Int32))), (.ref ca)])) rfl rfl (hb hby d13_21)) ?_
      show oGl p e below (T14.setTop (mkF m 22 #[.val (.int x)] [(.ref o)])) _
      have kp15 : Keep h0 h0 [] := (Keep.refl h0 [])
      refine oRetR X14 hx Bd.notSynchronized Bd.returns rfl rfl (hb hby d13_22) (by decide) (by decide) ?_
      show Q_rmValueOf Z x ca cl h0 n0 _ T14.heap _
      rw [e14]
      exact ⟨o, rfl, N0, kp15, (Eo.ext O0.2), (Fo.ext O0.2)⟩
theorem d14_0 : decode jdk_33_method_27_code 0 = .ok (.aload_n 0, 1) := by decide +kernel
theorem d14_1 : decode jdk_33_method_27_code 1 = .ok (.getfield 205, 3) := by decide +kernel
theorem d14_4 : decode jdk_33_method_27_code 4 = .ok (.ireturn, 1) := by decide +kernel
theorem ef_rmIntValue (m : MethodId) (x0 : Nat)  : entryFrame m #[(.ref x0)] 1 = mkF m 0 #[.val (.ref x0)] [] := by first | (simp [entryFrame, mkF, argsToLocals, Value.category, maxLocals]; done) | rfl
def Q_rmIntValue (Z : State) (a : Nat) (x : Int32) (h0 : Heap) (n0 : Nat) (vv : Option Value) (h : Heap) (L : List Loc) : Prop := vv = some (.int x) ∧ Fr n0 L ∧ h = h0
set_option maxRecDepth 65536 in
set_option maxHeartbeats 40000000 in
theorem rmIntValue (l : Launch) (Z : State) (a0 : Array Value) (hw : ∀ d ∈ tables_1, d.before a0 Z = true) (ws : List Jvm.Cond) (a : Nat) (x : Int32) (h0 : Heap) (n0 : Nat) (Z0 : n0 ≤ h0.size) (F0 : Fld Z h0 a "java/lang/Integer" "value" "I" (.int x)) :
    MetFree l (⟨"java/lang/Integer", "intValue", "()I"⟩ : MethodName) (head1 (Jvm.Cond.code (⟨"java/lang/Integer", "intValue", "()I"⟩ : MethodName) jdk_33_method_27_code 1 (some .int) :: ws) ({ frames := 0, cells := 0, slots := 0, locals := 0 } : Room)) (fun aA uU => aA = #[(.ref a)] ∧ Z.Warmed39 uU.vm ∧ uU.heap = h0) (fun _ _ _ _ _ => True) (fun _ uU oO uU' => ∃ vV lL, oO = .returned vV ∧ Q_rmIntValue Z a x h0 n0 vV uU'.heap lL ∧ FrameEnd uU oO uU' lL ({ frames := 0, cells := 0, slots := 0, locals := 0 } : Room).cells ({ frames := 0, cells := 0, slots := 0, locals := 0 } : Room).slots) := by
  refine MetFree.of_bodySF (plainFor_of_name pn_Integer) hisR ?_
  intro p e s m args below meth c s₁ Bd hml0 hP hK
  obtain ⟨rfl, hZ, hh⟩ := hP
  have hx := Bd.exec
  have hby := Bd.bytes
  have hml : c.maxLocals = 1 := hml0
  have hown : s.vm.findClass "java/lang/Integer" = some m.cls := findClass_of_methodNamed Bd.named
  have hnm := (name_of_methodNamed Bd.named Bd.method).1
  have X0 : Stand p l e ({ frames := 0, cells := 0, slots := 0, locals := 0 } : Room) s m #[(.ref a)] below meth c s₁ [] 0 0 := Stand.of_body Bd
  have e0 : s₁.heap = h0 := by rw [← hh, Bd.state]; rfl
  have N0 := Fr.nil n0
  refine oEnter (oCast (ef_rmIntValue m a ) ?_)
  show oGl p e below (s₁.setTop (mkF m 0 #[.val (.ref a)] [])) _
  refine saloadN X0 hx (hb hby d14_0) rfl rfl rfl (pc' := 1) ?_
  obtain ⟨T1, X1, e1, st1⟩ := getF X0 hx hZ hown (host := "") (Or.inl (hw _ (List.mem_of_getElem? (i := 79) rfl))) Via.refl e0 F0 (g := (mkF m 1 #[.val (.ref a)] [(.ref a)])) rfl rfl (hb hby d14_1)
  refine oOn st1 ?_
  show oGl p e below (T1.setTop (mkF m 4 #[.val (.ref a)] [(.int x)])) _
  refine oRetI X1 hx Bd.notSynchronized Bd.returns (hb hby d14_4) (by decide) (by decide) ?_
  show Q_rmIntValue Z a x h0 n0 _ T1.heap _
  rw [e1]
  exact ⟨rfl, N0, rfl⟩
theorem d11_0 : decode prog_21_method_2_code 0 = .ok (.aload_n 0, 1) := by decide +kernel
theorem d11_1 : decode prog_21_method_2_code 1 = .ok (.iload_n 1, 1) := by decide +kernel
theorem d11_2 : decode prog_21_method_2_code 2 = .ok (.invokevirtual 13, 3) := by decide +kernel
theorem pd_4 : parseMethodDescriptor "(I)Z" = some ⟨[.int], some .boolean⟩ := by decide +kernel
theorem d11_5 : decode prog_21_method_2_code 5 = .ok (.ifCond .eq 7, 3) := by decide +kernel
theorem d11_12 : decode prog_21_method_2_code 12 = .ok (.aload_n 0, 1) := by decide +kernel
theorem d11_13 : decode prog_21_method_2_code 13 = .ok (.getfield 7, 3) := by decide +kernel
theorem d11_16 : decode prog_21_method_2_code 16 = .ok (.iload_n 1, 1) := by decide +kernel
theorem d11_17 : decode prog_21_method_2_code 17 = .ok (.iaload, 1) := by decide +kernel
theorem d11_18 : decode prog_21_method_2_code 18 = .ok (.invokestatic 17, 3) := by decide +kernel
theorem pd_5 : parseMethodDescriptor "(I)Ljava/lang/Integer;" = some ⟨[.int], some (.object "java/lang/Integer")⟩ := by decide +kernel
theorem d11_21 : decode prog_21_method_2_code 21 = .ok (.areturn, 1) := by decide +kernel
theorem d11_8 : decode prog_21_method_2_code 8 = .ok (.aconst_null, 1) := by decide +kernel
theorem d11_9 : decode prog_21_method_2_code 9 = .ok (.goto 12, 3) := by decide +kernel
theorem ef_rmGet (m : MethodId) (x0 : Nat) (x1 : Int32)  : entryFrame m #[(.ref x0), (.int x1)] 2 = mkF m 0 #[.val (.ref x0), .val (.int x1)] [] := by first | (simp [entryFrame, mkF, argsToLocals, Value.category, maxLocals]; done) | rfl
def Q_rmGet (Z : State) (v va : Nat) (f g : Nat → Int32) (r : Int32) (ca : Nat) (cl : Cell) (h0 : Heap) (n0 : Nat) (vv : Option Value) (h : Heap) (L : List Loc) : Prop := ∃ u : Value, vv = some u ∧ Fr n0 L ∧ Keep h0 h [] ∧ Old Z n0 h ∧ ((u = .null ∧ ¬ g r.toInt.toNat = 0) ∨ ∃ o, u = .ref o ∧ g r.toInt.toNat = 0 ∧ Exa Z h o "java/lang/Integer" ∧ Fld Z h o "java/lang/Integer" "value" "I" (.int (f r.toInt.toNat)))
set_option maxRecDepth 65536 in
set_option maxHeartbeats 40000000 in
theorem rmGet (l : Launch) (Z : State) (a0 : Array Value) (hw : ∀ d ∈ tables_1, d.before a0 Z = true) (ws : List Jvm.Cond) (v va : Nat) (f g : Nat → Int32) (r : Int32) (ca : Nat) (cl : Cell) (h0 : Heap) (n0 : Nat) (Z0 : n0 ≤ h0.size) (V0' : oVec Z h0 v va n0 f g) (O0 : Old Z n0 h0) (hr : 0 ≤ r.toInt ∧ r.toInt < (4 : Nat)) (SH : Sta Z Z.heap "java/lang/Integer$IntegerCache" "high" "I" (.int 127)) (SC : Sta Z Z.heap "java/lang/Integer$IntegerCache" "cache" "[Ljava/lang/Integer;" (.ref ca)) (AC : Arr Z Z.heap ca cl (.object "java/lang/Integer")) (CN : cl.slots.size = 256) (CA : ∀ j : Int32, 0 ≤ j.toInt ∧ j.toInt < (256 : Nat) → ∃ o, cl.slots[j.toNatClampNeg]? = some (.ref o) ∧ Exa Z Z.heap o "java/lang/Integer" ∧ Fld Z Z.heap o "java/lang/Integer" "value" "I" (.int (j - 128))) :
    MetFree l (⟨"com/example/moraine/moraine/formats/ColumnVector$Ints", "get", "(I)Ljava/lang/Object;"⟩ : MethodName) (head1 (Jvm.Cond.code (⟨"com/example/moraine/moraine/formats/ColumnVector$Ints", "get", "(I)Ljava/lang/Object;"⟩ : MethodName) prog_21_method_2_code 2 (some (.object "java/lang/Object")) :: ws) ({ frames := 4, cells := 1, slots := 1, locals := 50 } : Room)) (fun aA uU => aA = #[(.ref v), (.int r)] ∧ Z.Warmed39 uU.vm ∧ uU.heap = h0) (fun _ _ _ _ _ => True) (fun _ uU oO uU' => ∃ vV lL, oO = .returned vV ∧ Q_rmGet Z v va f g r ca cl h0 n0 vV uU'.heap lL ∧ FrameEnd uU oO uU' lL ({ frames := 4, cells := 1, slots := 1, locals := 50 } : Room).cells ({ frames := 4, cells := 1, slots := 1, locals := 50 } : Room).slots) := by
  refine MetFree.of_bodySF (plainFor_of_name pn_ColumnVector_Ints) hisR ?_
  intro p e s m args below meth c s₁ Bd hml0 hP hK
  obtain ⟨rfl, hZ, hh⟩ := hP
  have hx := Bd.exec
  have hby := Bd.bytes
  have hml : c.maxLocals = 2 := hml0
  have hown : s.vm.findClass "com/example/moraine/moraine/formats/ColumnVector$Ints" = some m.cls := findClass_of_methodNamed Bd.named
  have hnm := (name_of_methodNamed Bd.named Bd.method).1
  have X0 : Stand p l e ({ frames := 4, cells := 1, slots := 1, locals := 50 } : Room) s m #[(.ref v), (.int r)] below meth c s₁ [] 0 0 := Stand.of_body Bd
  have e0 : s₁.heap = h0 := by rw [← hh, Bd.state]; rfl
  have N0 := Fr.nil n0
  refine oEnter (oCast (ef_rmGet m v r ) ?_)
  show oGl p e below (s₁.setTop (mkF m 0 #[.val (.ref v), .val (.int r)] [])) _
  refine saloadN X0 hx (hb hby d11_0) rfl rfl rfl (pc' := 1) ?_
  refine siloadN X0 hx (hb hby d11_1) rfl rfl (pc' := 2) ?_
  have hz1 : n0 ≤ h0.size := by omega
  obtain ⟨cq1, kq1, q1a, q1b, q1c⟩ := isOf hZ e0 V0'.1
  obtain ⟨_, _, ⟨T1, L1, k1, n1⟩, -, X1, ⟨Lc1, hQ1, l1, y1, z1⟩, st1⟩ := X0.virtualBackUp hx (x := (⟨"com/example/moraine/moraine/formats/ColumnVector$Ints", "isNull", "(I)Z"⟩ : MethodName)) (y := (⟨"com/example/moraine/moraine/formats/ColumnVector$Nullable", "isNull", "(I)Z"⟩ : MethodName)) (owner := "com/example/moraine/moraine/formats/ColumnVector$Nullable") hown (mvT hZ (hw _ (List.mem_of_getElem? (i := 59) rfl))) (mvT hZ (hw _ (List.mem_of_getElem? (i := 60) rfl))) (mvT hZ (hw _ (List.mem_of_getElem? (i := 61) rfl))) (by decide) (mvT hZ (hw _ (List.mem_of_getElem? (i := 63) rfl))) (mvT hZ (hw _ (List.mem_of_getElem? (i := 62) rfl))) (backOf (W := 0) (rmIsNull l Z a0 hw [] v va f g r h0 n0 hz1 V0' O0 hr) hZ (hw _ (List.mem_of_getElem? (i := 64) rfl)) (hw _ (List.mem_of_getElem? (i := 10) rfl)) (by decide) (by decide)) q1a q1c (g := (mkF m 2 #[.val (.ref v), .val (.int r)] [(.int r), (.ref v)])) rfl (by rw [hml]; rfl) (Steps.refl _) (argsL := [(.int r)]) (rest := []) (lenOf pd_4 rfl) rfl (by show 2 * 0 + _ ≤ _; exact Nat.le_of_eq rfl) (hb hby d11_2) (fun _ _ => ⟨rfl, e0, (by decide : 0 + 0 ≤ _), (by decide : 0 + 0 ≤ _)⟩)
  dsimp only [Pt.U, Pt.locs, Pt.cells, Pt.slots] at X1 l1 y1 z1 st1 hQ1
  subst l1 y1 z1
  obtain ⟨rfl, N1q, eh1⟩ := hQ1
  have N1 := Fr.app N0 N1q
  refine oSt st1 ?_
  show oGl p e below (T1.setTop (mkF m 5 #[.val (.ref v), .val (.int r)] [(.int (if g r.toInt.toNat = 0 then 0 else 1))])) _
  by_cases hc5 : (if g r.toInt.toNat = 0 then 0 else 1) = (0 : Int32)
  · skip
    refine sifY X1 hx (hb hby d11_5) (by decide) (by decide) (teq hc5).1 (pc' := 12) ?_
    obtain ⟨E0, F0, F1, V0, gv, gva, nva, hbb, hn⟩ := V0'
    refine saloadN X1 hx (hb hby d11_12) rfl rfl rfl (pc' := 13) ?_
    obtain ⟨T2, X2, e2, st2⟩ := getF X1 hx hZ hown (host := "") (Or.inl (hw _ (List.mem_of_getElem? (i := 22) rfl))) Via.refl eh1 F1 (g := (mkF m 13 #[.val (.ref v), .val (.int r)] [(.ref v)])) rfl rfl (hb hby d11_13)
    refine oOn st2 ?_
    show oGl p e below (T2.setTop (mkF m 16 #[.val (.ref v), .val (.int r)] [(.ref va)])) _
    refine siloadN X2 hx (hb hby d11_16) rfl rfl (pc' := 17) ?_
    refine oOn (V0.ldI X2 hx hZ e2 (j := r) hr (g := (mkF m 17 #[.val (.ref v), .val (.int r)] [(.int r), (.ref va)])) rfl rfl (hb hby d11_17)) ?_
    show oGl p e below (T2.setTop (mkF m 18 #[.val (.ref v), .val (.int r)] [(.int (f r.toInt.toNat))])) _
    have hz3 : n0 ≤ h0.size := by omega
    obtain ⟨_, _, ⟨T3, L3, k3, n3⟩, -, X3, ⟨Lc3, hQ3, l3, y3, z3⟩, st3⟩ := Jvm.LawKit.callS X2 hx (y := (⟨"java/lang/Integer", "valueOf", "(I)Ljava/lang/Integer;"⟩ : MethodName)) hown (mvT hZ (hw _ (List.mem_of_getElem? (i := 65) rfl))) (mvT hZ (hw _ (List.mem_of_getElem? (i := 66) rfl))) (mvT hZ (hw _ (List.mem_of_getElem? (i := 67) rfl))) (mvT hZ (hw _ (List.mem_of_getElem? (i := 68) rfl))) (by decide) (backOf (W := 0) (rmValueOf l Z a0 hw [] (f r.toInt.toNat) ca cl h0 n0 hz3 O0 SH SC AC CN CA) hZ (hw _ (List.mem_of_getElem? (i := 68) rfl)) (hw _ (List.mem_of_getElem? (i := 67) rfl)) (by decide) (by decide)) (g := (mkF m 18 #[.val (.ref v), .val (.int r)] [(.int (f r.toInt.toNat))])) rfl (by rw [hml]; rfl) (argsL := [(.int (f r.toInt.toNat))]) (rest := []) (lenOf pd_5 rfl) rfl (by show 2 * 0 + _ ≤ _; exact Nat.le_of_eq rfl) (hb hby d11_18) (fun _ _ => ⟨rfl, e2, (by decide : 0 + 1 ≤ _), (by decide : 0 + 1 ≤ _)⟩)
    dsimp only [Pt.U, Pt.locs, Pt.cells, Pt.slots] at X3 l3 y3 z3 st3 hQ3
    subst l3 y3 z3
    obtain ⟨o3, rfl, N3q, K3, Eo3, Fo3⟩ := hQ3
    have N3 := Fr.app N1 N3q
    have z4 : h0.size ≤ T3.heap.size := K3.1
    refine oOn st3 ?_
    show oGl p e below (T3.setTop (mkF m 21 #[.val (.ref v), .val (.int r)] [(.ref o3)])) _
    have kp5 : Keep h0 T3.heap [] := ((Keep.refl h0 []).trans K3 all0)
    have f6 := (O0.keep K3 all0)
    refine oRetR X3 hx Bd.notSynchronized Bd.returns rfl rfl (hb hby d11_21) (by decide) (by decide) ?_
    show Q_rmGet Z v va f g r ca cl h0 n0 _ T3.heap _
    exact ⟨_, rfl, N3, kp5, f6, Or.inr ⟨o3, rfl, by by_cases q : g r.toInt.toNat = 0; exact q; exact absurd (if_neg q ▸ hc5) (by decide), Eo3, Fo3⟩⟩
  · skip
    refine sifN X1 hx (hb hby d11_5) rfl (feq hc5).1 (pc' := 8) ?_
    refine saconst_null X1 hx (hb hby d11_8) rfl  (pc' := 9) ?_
    refine sgoto X1 hx (hb hby d11_9) (by decide) (by decide)  (pc' := 21) ?_
    have kp7 : Keep h0 h0 [] := (Keep.refl h0 [])
    refine oRetR X1 hx Bd.notSynchronized Bd.returns rfl rfl (hb hby d11_21) (by decide) (by decide) ?_
    show Q_rmGet Z v va f g r ca cl h0 n0 _ T1.heap _
    rw [eh1]
    exact ⟨_, rfl, N1, kp7, O0, Or.inl ⟨rfl, fun q => hc5 (if_pos q)⟩⟩
theorem d10_0 : decode method_4_code 0 = .ok (.iload_n 1, 1) := by decide +kernel
theorem d10_1 : decode method_4_code 1 = .ok (.iload_n 2, 1) := by decide +kernel
theorem d10_2 : decode method_4_code 2 = .ok (.if_icmp .lt 5, 3) := by decide +kernel
theorem d10_7 : decode method_4_code 7 = .ok (.aload_n 3, 1) := by decide +kernel
theorem d10_8 : decode method_4_code 8 = .ok (.iload_n 1, 1) := by decide +kernel
theorem d10_9 : decode method_4_code 9 = .ok (.iaload, 1) := by decide +kernel
theorem d10_10 : decode method_4_code 10 = .ok (.istore 6, 2) := by decide +kernel
theorem d10_12 : decode method_4_code 12 = .ok (.iload 4, 2) := by decide +kernel
theorem d10_14 : decode method_4_code 14 = .ok (.iconst 4, 1) := by decide +kernel
theorem d10_15 : decode method_4_code 15 = .ok (.iload 6, 2) := by decide +kernel
theorem d10_17 : decode method_4_code 17 = .ok (.iadd, 1) := by decide +kernel
theorem d10_18 : decode method_4_code 18 = .ok (.ishr, 1) := by decide +kernel
theorem d10_19 : decode method_4_code 19 = .ok (.iconst 1, 1) := by decide +kernel
theorem d10_20 : decode method_4_code 20 = .ok (.iand, 1) := by decide +kernel
theorem d10_21 : decode method_4_code 21 = .ok (.ifCond .eq 7, 3) := by decide +kernel
theorem d10_28 : decode method_4_code 28 = .ok (.iconst 0, 1) := by decide +kernel
theorem d10_29 : decode method_4_code 29 = .ok (.istore 7, 2) := by decide +kernel
theorem d10_31 : decode method_4_code 31 = .ok (.aload_n 0, 1) := by decide +kernel
theorem d10_32 : decode method_4_code 32 = .ok (.iload_n 1, 1) := by decide +kernel
theorem d10_33 : decode method_4_code 33 = .ok (.invokevirtual 33, 3) := by decide +kernel
theorem pd_6 : parseMethodDescriptor "(I)Ljava/lang/Object;" = some ⟨[.int], some (.object "java/lang/Object")⟩ := by decide +kernel
theorem d10_36 : decode method_4_code 36 = .ok (.astore 8, 2) := by decide +kernel
theorem d10_38 : decode method_4_code 38 = .ok (.iload 7, 2) := by decide +kernel
theorem d10_40 : decode method_4_code 40 = .ok (.ifCond .eq 14, 3) := by decide +kernel
theorem d10_54 : decode method_4_code 54 = .ok (.aload 8, 2) := by decide +kernel
theorem d10_56 : decode method_4_code 56 = .ok (.ifnull 23, 3) := by decide +kernel
theorem d10_59 : decode method_4_code 59 = .ok (.aload 8, 2) := by decide +kernel
theorem d10_61 : decode method_4_code 61 = .ok (.checkcast 37, 3) := by decide +kernel
theorem d10_64 : decode method_4_code 64 = .ok (.invokevirtual 39, 3) := by decide +kernel
theorem pd_7 : parseMethodDescriptor "()I" = some ⟨[], some .int⟩ := by decide +kernel
theorem d10_67 : decode method_4_code 67 = .ok (.aload 5, 2) := by decide +kernel
theorem d10_69 : decode method_4_code 69 = .ok (.iload 6, 2) := by decide +kernel
theorem d10_71 : decode method_4_code 71 = .ok (.iaload, 1) := by decide +kernel
theorem d10_72 : decode method_4_code 72 = .ok (.if_icmp .ne 7, 3) := by decide +kernel
theorem d10_75 : decode method_4_code 75 = .ok (.iconst 1, 1) := by decide +kernel
theorem d10_76 : decode method_4_code 76 = .ok (.goto 4, 3) := by decide +kernel
theorem d10_80 : decode method_4_code 80 = .ok (.ireturn, 1) := by decide +kernel
theorem d10_24 : decode method_4_code 24 = .ok (.iconst 1, 1) := by decide +kernel
theorem d10_25 : decode method_4_code 25 = .ok (.goto 4, 3) := by decide +kernel
theorem d10_43 : decode method_4_code 43 = .ok (.aload 8, 2) := by decide +kernel
theorem d10_45 : decode method_4_code 45 = .ok (.ifnonnull 7, 3) := by decide +kernel
theorem d10_48 : decode method_4_code 48 = .ok (.iconst 1, 1) := by decide +kernel
theorem d10_49 : decode method_4_code 49 = .ok (.goto 4, 3) := by decide +kernel
theorem d10_53 : decode method_4_code 53 = .ok (.ireturn, 1) := by decide +kernel
theorem d10_5 : decode method_4_code 5 = .ok (.iconst 1, 1) := by decide +kernel
theorem d10_6 : decode method_4_code 6 = .ok (.ireturn, 1) := by decide +kernel
theorem ef_rmCheck (m : MethodId) (x0 : Nat) (x1 : Int32) (x2 : Int32) (x3 : Nat) (x4 : Int32) (x5 : Nat)  : entryFrame m #[(.ref x0), (.int x1), (.int x2), (.ref x3), (.int x4), (.ref x5)] 9 = mkF m 0 #[.val (.ref x0), .val (.int x1), .val (.int x2), .val (.ref x3), .val (.int x4), .val (.ref x5), .unset, .unset, .unset] [] := by first | (simp [entryFrame, mkF, argsToLocals, Value.category, maxLocals]; done) | rfl
def Q_rmCheck (Z : State) (v va : Nat) (f g : Nat → Int32) (rs xs : Nat) (rf xf : Nat → Int32) (j k mask : Int32) (ca : Nat) (cl : Cell) (h0 : Heap) (n0 : Nat) (vv : Option Value) (h : Heap) (L : List Loc) : Prop := vv = some (.int 1) ∧ Fr n0 L ∧ Keep h0 h [] ∧ Old Z n0 h
set_option maxRecDepth 65536 in
set_option maxHeartbeats 40000000 in
theorem rmCheck (l : Launch) (Z : State) (a0 : Array Value) (hw : ∀ d ∈ tables_1, d.before a0 Z = true) (ws : List Jvm.Cond) (v va : Nat) (f g : Nat → Int32) (rs xs : Nat) (rf xf : Nat → Int32) (j k mask : Int32) (ca : Nat) (cl : Cell) (h0 : Heap) (n0 : Nat) (Z0 : n0 ≤ h0.size) (V0' : oVec Z h0 v va n0 f g) (O0 : Old Z n0 h0) (hr : 0 ≤ j.toInt ∧ j.toInt < (4 : Nat)) (hC : j < k → (0 ≤ (rf j.toInt.toNat).toInt ∧ (rf j.toInt.toNat).toInt < (4 : Nat)) ∧ (oBit mask (rf j.toInt.toNat) = 0 → f j.toInt.toNat = xf (rf j.toInt.toNat).toInt.toNat ∧ g j.toInt.toNat = 0) ∧ (¬ oBit mask (rf j.toInt.toNat) = 0 → g j.toInt.toNat = 1)) (VR : oAI Z h0 rs .int 4 rf) (VX : oAI Z h0 xs .int 4 xf) (SH : Sta Z Z.heap "java/lang/Integer$IntegerCache" "high" "I" (.int 127)) (SC : Sta Z Z.heap "java/lang/Integer$IntegerCache" "cache" "[Ljava/lang/Integer;" (.ref ca)) (AC : Arr Z Z.heap ca cl (.object "java/lang/Integer")) (CN : cl.slots.size = 256) (CA : ∀ j : Int32, 0 ≤ j.toInt ∧ j.toInt < (256 : Nat) → ∃ o, cl.slots[j.toNatClampNeg]? = some (.ref o) ∧ Exa Z Z.heap o "java/lang/Integer" ∧ Fld Z Z.heap o "java/lang/Integer" "value" "I" (.int (j - 128))) :
    MetFree l (⟨"com/example/moraine/moraine/formats/NullableKeepPinLaw", "check", "(Lcom/example/moraine/moraine/formats/ColumnVector$Ints;II[II[I)Z"⟩ : MethodName) (head1 (Jvm.Cond.code (⟨"com/example/moraine/moraine/formats/NullableKeepPinLaw", "check", "(Lcom/example/moraine/moraine/formats/ColumnVector$Ints;II[II[I)Z"⟩ : MethodName) method_4_code 9 (some .boolean) :: ws) ({ frames := 5, cells := 1, slots := 1, locals := 63 } : Room)) (fun aA uU => aA = #[(.ref v), (.int j), (.int k), (.ref rs), (.int mask), (.ref xs)] ∧ Z.Warmed39 uU.vm ∧ uU.heap = h0) (fun _ _ _ _ _ => True) (fun _ uU oO uU' => ∃ vV lL, oO = .returned vV ∧ Q_rmCheck Z v va f g rs xs rf xf j k mask ca cl h0 n0 vV uU'.heap lL ∧ FrameEnd uU oO uU' lL ({ frames := 5, cells := 1, slots := 1, locals := 63 } : Room).cells ({ frames := 5, cells := 1, slots := 1, locals := 63 } : Room).slots) := by
  refine MetFree.of_bodySF (plainFor_of_name pn_NullableKeepPinLaw) hisR ?_
  intro p e s m args below meth c s₁ Bd hml0 hP hK
  obtain ⟨rfl, hZ, hh⟩ := hP
  have hx := Bd.exec
  have hby := Bd.bytes
  have hml : c.maxLocals = 9 := hml0
  have hown : s.vm.findClass "com/example/moraine/moraine/formats/NullableKeepPinLaw" = some m.cls := findClass_of_methodNamed Bd.named
  have hnm := (name_of_methodNamed Bd.named Bd.method).1
  have X0 : Stand p l e ({ frames := 5, cells := 1, slots := 1, locals := 63 } : Room) s m #[(.ref v), (.int j), (.int k), (.ref rs), (.int mask), (.ref xs)] below meth c s₁ [] 0 0 := Stand.of_body Bd
  have e0 : s₁.heap = h0 := by rw [← hh, Bd.state]; rfl
  have N0 := Fr.nil n0
  refine oEnter (oCast (ef_rmCheck m v j k rs mask xs ) ?_)
  show oGl p e below (s₁.setTop (mkF m 0 #[.val (.ref v), .val (.int j), .val (.int k), .val (.ref rs), .val (.int mask), .val (.ref xs), .unset, .unset, .unset] [])) _
  refine siloadN X0 hx (hb hby d10_0) rfl rfl (pc' := 1) ?_
  refine siloadN X0 hx (hb hby d10_1) rfl rfl (pc' := 2) ?_
  by_cases hc2 : j < k
  · skip
    refine sicY X0 hx (hb hby d10_2) (by decide) (by decide) (tlt hc2).1 (pc' := 7) ?_
    refine saloadN X0 hx (hb hby d10_7) rfl rfl rfl (pc' := 8) ?_
    refine siloadN X0 hx (hb hby d10_8) rfl rfl (pc' := 9) ?_
    refine oOn (VR.ldI X0 hx hZ e0 (j := j) hr (g := (mkF m 9 #[.val (.ref v), .val (.int j), .val (.int k), .val (.ref rs), .val (.int mask), .val (.ref xs), .unset, .unset, .unset] [(.int j), (.ref rs)])) rfl rfl (hb hby d10_9)) ?_
    show oGl p e below (s₁.setTop (mkF m 10 #[.val (.ref v), .val (.int j), .val (.int k), .val (.ref rs), .val (.int mask), .val (.ref xs), .unset, .unset, .unset] [(.int (rf j.toInt.toNat))])) _
    refine sistore X0 hx (hb hby d10_10) rfl rfl (l' := #[.val (.ref v), .val (.int j), .val (.int k), .val (.ref rs), .val (.int mask), .val (.ref xs), .val (.int (rf j.toInt.toNat)), .unset, .unset]) (pc' := 12) ?_
    refine siload X0 hx (hb hby d10_12) rfl rfl (pc' := 14) ?_
    refine siconst X0 hx (hb hby d10_14) rfl rfl (z := 4) (pc' := 15) ?_
    refine siload X0 hx (hb hby d10_15) rfl rfl (pc' := 17) ?_
    refine siadd X0 hx (hb hby d10_17) rfl rfl (pc' := 18) ?_
    refine sishr X0 hx (hb hby d10_18) rfl rfl (pc' := 19) ?_
    refine siconst X0 hx (hb hby d10_19) rfl rfl (z := 1) (pc' := 20) ?_
    refine siand X0 hx (hb hby d10_20) rfl rfl (pc' := 21) ?_
    by_cases hc21 : ((mask >>> (((4 : Int32) + (rf j.toInt.toNat)) &&& 31)) &&& (1 : Int32)) = (0 : Int32)
    · skip
      refine sifY X0 hx (hb hby d10_21) (by decide) (by decide) (teq hc21).1 (pc' := 28) ?_
      refine siconst X0 hx (hb hby d10_28) rfl rfl (z := 0) (pc' := 29) ?_
      refine sistore X0 hx (hb hby d10_29) rfl rfl (l' := #[.val (.ref v), .val (.int j), .val (.int k), .val (.ref rs), .val (.int mask), .val (.ref xs), .val (.int (rf j.toInt.toNat)), .val (.int (0 : Int32)), .unset]) (pc' := 31) ?_
      refine saloadN X0 hx (hb hby d10_31) rfl rfl rfl (pc' := 32) ?_
      refine siloadN X0 hx (hb hby d10_32) rfl rfl (pc' := 33) ?_
      have hz1 : n0 ≤ h0.size := by omega
      obtain ⟨cq1, kq1, q1a, q1b, q1c⟩ := isOf hZ e0 V0'.1
      obtain ⟨_, _, ⟨T1, L1, k1, n1⟩, -, X1, ⟨Lc1, hQ1, l1, y1, z1⟩, st1⟩ := X0.virtualBack hx (y := (⟨"com/example/moraine/moraine/formats/ColumnVector$Ints", "get", "(I)Ljava/lang/Object;"⟩ : MethodName)) (z := (⟨"com/example/moraine/moraine/formats/ColumnVector$Ints", "get", "(I)Ljava/lang/Object;"⟩ : MethodName)) hown (mvT hZ (hw _ (List.mem_of_getElem? (i := 54) rfl))) (mvT hZ (hw _ (List.mem_of_getElem? (i := 55) rfl))) (notFace_of_selects (args := #[]) (mvT hZ (hw _ (List.mem_of_getElem? (i := 57) rfl)))) (mvT hZ (hw _ (List.mem_of_getElem? (i := 57) rfl))) (mvT hZ (hw _ (List.mem_of_getElem? (i := 56) rfl))) (by decide) (backOf (W := 0) (rmGet l Z a0 hw [] v va f g j ca cl h0 n0 hz1 V0' O0 hr SH SC AC CN CA) hZ (hw _ (List.mem_of_getElem? (i := 58) rfl)) (hw _ (List.mem_of_getElem? (i := 3) rfl)) (by decide) (by decide)) q1a q1c (g := (mkF m 33 #[.val (.ref v), .val (.int j), .val (.int k), .val (.ref rs), .val (.int mask), .val (.ref xs), .val (.int (rf j.toInt.toNat)), .val (.int (0 : Int32)), .unset] [(.int j), (.ref v)])) rfl (by rw [hml]; rfl) (Steps.refl _) (argsL := [(.int j)]) (rest := []) (lenOf pd_6 rfl) rfl (by show 2 * 0 + _ ≤ _; exact Nat.le_of_eq rfl) (hb hby d10_33) (fun _ _ => ⟨rfl, e0, (by decide : 0 + 1 ≤ _), (by decide : 0 + 1 ≤ _)⟩)
      dsimp only [Pt.U, Pt.locs, Pt.cells, Pt.slots] at X1 l1 y1 z1 st1 hQ1
      subst l1 y1 z1
      obtain ⟨u1, rfl, N1q, K1, Oo1, hu1⟩ := hQ1
      have N1 := Fr.app N0 N1q
      have z2 : h0.size ≤ T1.heap.size := K1.1
      refine oSt st1 ?_
      show oGl p e below (T1.setTop (mkF m 36 #[.val (.ref v), .val (.int j), .val (.int k), .val (.ref rs), .val (.int mask), .val (.ref xs), .val (.int (rf j.toInt.toNat)), .val (.int (0 : Int32)), .unset] [u1])) _
      rcases hu1 with ⟨rfl, hgn⟩ | ⟨ob, rfl, hg0, Eb, Fb⟩
      · skip
        show oGl p e below (T1.setTop (mkF m 36 #[.val (.ref v), .val (.int j), .val (.int k), .val (.ref rs), .val (.int mask), .val (.ref xs), .val (.int (rf j.toInt.toNat)), .val (.int (0 : Int32)), .unset] [.null])) _
        refine sastore X1 hx (hb hby d10_36) rfl rfl rfl (l' := #[.val (.ref v), .val (.int j), .val (.int k), .val (.ref rs), .val (.int mask), .val (.ref xs), .val (.int (rf j.toInt.toNat)), .val (.int (0 : Int32)), .val .null]) (pc' := 38) ?_
        refine siload X1 hx (hb hby d10_38) rfl rfl (pc' := 40) ?_
        refine sifY X1 hx (hb hby d10_40) (by decide) (by decide) (teq (by decide : (0 : Int32) = (0 : Int32))).1 (pc' := 54) ?_
        refine saload X1 hx (hb hby d10_54) rfl rfl rfl (pc' := 56) ?_
        refine sifnullY X1 hx (hb hby d10_56) (by decide) (by decide)  (pc' := 79) ?_
        exact absurd ((hC hc2).2.1 hc21).2 hgn
      · skip
        show oGl p e below (T1.setTop (mkF m 36 #[.val (.ref v), .val (.int j), .val (.int k), .val (.ref rs), .val (.int mask), .val (.ref xs), .val (.int (rf j.toInt.toNat)), .val (.int (0 : Int32)), .unset] [(.ref ob)])) _
        refine sastore X1 hx (hb hby d10_36) rfl rfl rfl (l' := #[.val (.ref v), .val (.int j), .val (.int k), .val (.ref rs), .val (.int mask), .val (.ref xs), .val (.int (rf j.toInt.toNat)), .val (.int (0 : Int32)), .val (.ref ob)]) (pc' := 38) ?_
        refine siload X1 hx (hb hby d10_38) rfl rfl (pc' := 40) ?_
        refine sifY X1 hx (hb hby d10_40) (by decide) (by decide) (teq (by decide : (0 : Int32) = (0 : Int32))).1 (pc' := 54) ?_
        refine saload X1 hx (hb hby d10_54) rfl rfl rfl (pc' := 56) ?_
        refine sifnullN X1 hx (hb hby d10_56) rfl  (pc' := 59) ?_
        refine saload X1 hx (hb hby d10_59) rfl rfl rfl (pc' := 61) ?_
        obtain ⟨T3, X3, e3, st3⟩ := castY X1 hx hZ hown (hw _ (List.mem_of_getElem? (i := 72) rfl)) rfl (Ins.self Eb) (g := (mkF m 61 #[.val (.ref v), .val (.int j), .val (.int k), .val (.ref rs), .val (.int mask), .val (.ref xs), .val (.int (rf j.toInt.toNat)), .val (.int (0 : Int32)), .val (.ref ob)] [(.ref ob)])) rfl rfl (hb hby d10_61)
        refine oOn st3 ?_
        show oGl p e below (T3.setTop (mkF m 64 #[.val (.ref v), .val (.int j), .val (.int k), .val (.ref rs), .val (.int mask), .val (.ref xs), .val (.int (rf j.toInt.toNat)), .val (.int (0 : Int32)), .val (.ref ob)] [(.ref ob)])) _
        have hz4 : n0 ≤ T1.heap.size := by omega
        obtain ⟨cq4, kq4, q4a, q4b, q4c⟩ := isOf hZ e3 Eb
        obtain ⟨_, _, ⟨T4, L4, k4, n4⟩, -, X4, ⟨Lc4, hQ4, l4, y4, z4⟩, st4⟩ := X3.virtualBack hx (y := (⟨"java/lang/Integer", "intValue", "()I"⟩ : MethodName)) (z := (⟨"java/lang/Integer", "intValue", "()I"⟩ : MethodName)) hown (mvT hZ (hw _ (List.mem_of_getElem? (i := 74) rfl))) (mvT hZ (hw _ (List.mem_of_getElem? (i := 75) rfl))) (notFace_of_selects (args := #[]) (mvT hZ (hw _ (List.mem_of_getElem? (i := 77) rfl)))) (mvT hZ (hw _ (List.mem_of_getElem? (i := 77) rfl))) (mvT hZ (hw _ (List.mem_of_getElem? (i := 76) rfl))) (by decide) (backOf (W := 0) (rmIntValue l Z a0 hw [] ob (f j.toInt.toNat) T1.heap n0 hz4 Fb) hZ (hw _ (List.mem_of_getElem? (i := 78) rfl)) (hw _ (List.mem_of_getElem? (i := 67) rfl)) (by decide) (by decide)) q4a q4c (g := (mkF m 64 #[.val (.ref v), .val (.int j), .val (.int k), .val (.ref rs), .val (.int mask), .val (.ref xs), .val (.int (rf j.toInt.toNat)), .val (.int (0 : Int32)), .val (.ref ob)] [(.ref ob)])) rfl (by rw [hml]; rfl) (Steps.refl _) (argsL := []) (rest := []) (lenOf pd_7 rfl) rfl (by show 2 * 0 + _ ≤ _; exact Nat.le_of_eq rfl) (hb hby d10_64) (fun _ _ => ⟨rfl, e3, (by decide : 1 + 0 ≤ _), (by decide : 1 + 0 ≤ _)⟩)
        dsimp only [Pt.U, Pt.locs, Pt.cells, Pt.slots] at X4 l4 y4 z4 st4 hQ4
        subst l4 y4 z4
        obtain ⟨rfl, N4q, eh4⟩ := hQ4
        have N4 := Fr.app N1 N4q
        refine oSt st4 ?_
        show oGl p e below (T4.setTop (mkF m 67 #[.val (.ref v), .val (.int j), .val (.int k), .val (.ref rs), .val (.int mask), .val (.ref xs), .val (.int (rf j.toInt.toNat)), .val (.int (0 : Int32)), .val (.ref ob)] [(.int (f j.toInt.toNat))])) _
        refine saload X4 hx (hb hby d10_67) rfl rfl rfl (pc' := 69) ?_
        refine siload X4 hx (hb hby d10_69) rfl rfl (pc' := 71) ?_
        have f5 := (VX.keep K1 nin0)
        refine oOn (f5.ldI X4 hx hZ eh4 (j := (rf j.toInt.toNat)) (hC hc2).1 (g := (mkF m 71 #[.val (.ref v), .val (.int j), .val (.int k), .val (.ref rs), .val (.int mask), .val (.ref xs), .val (.int (rf j.toInt.toNat)), .val (.int (0 : Int32)), .val (.ref ob)] [(.int (rf j.toInt.toNat)), (.ref xs), (.int (f j.toInt.toNat))])) rfl rfl (hb hby d10_71)) ?_
        show oGl p e below (T4.setTop (mkF m 72 #[.val (.ref v), .val (.int j), .val (.int k), .val (.ref rs), .val (.int mask), .val (.ref xs), .val (.int (rf j.toInt.toNat)), .val (.int (0 : Int32)), .val (.ref ob)] [(.int (xf (rf j.toInt.toNat).toInt.toNat)), (.int (f j.toInt.toNat))])) _
        by_cases hc72 : (f j.toInt.toNat) = (xf (rf j.toInt.toNat).toInt.toNat)
        · skip
          refine sicN X4 hx (hb hby d10_72) rfl (teq hc72).2 (pc' := 75) ?_
          refine siconst X4 hx (hb hby d10_75) rfl rfl (z := 1) (pc' := 76) ?_
          refine sgoto X4 hx (hb hby d10_76) (by decide) (by decide)  (pc' := 80) ?_
          have kp6 : Keep h0 T1.heap [] := ((Keep.refl h0 []).trans K1 all0)
          refine oRetN (t := .boolean) X4 hx Bd.notSynchronized Bd.returns (by simp) (hb hby d10_80) (by decide) (by decide) ?_
          show Q_rmCheck Z v va f g rs xs rf xf j k mask ca cl h0 n0 _ T4.heap _
          rw [eh4]
          exact ⟨rfl, N4, kp6, Oo1⟩
        · skip
          refine sicY X4 hx (hb hby d10_72) (by decide) (by decide) (feq hc72).2 (pc' := 79) ?_
          exact absurd ((hC hc2).2.1 hc21).1 hc72
    · skip
      refine sifN X0 hx (hb hby d10_21) rfl (feq hc21).1 (pc' := 24) ?_
      refine siconst X0 hx (hb hby d10_24) rfl rfl (z := 1) (pc' := 25) ?_
      refine sgoto X0 hx (hb hby d10_25) (by decide) (by decide)  (pc' := 29) ?_
      refine sistore X0 hx (hb hby d10_29) rfl rfl (l' := #[.val (.ref v), .val (.int j), .val (.int k), .val (.ref rs), .val (.int mask), .val (.ref xs), .val (.int (rf j.toInt.toNat)), .val (.int (1 : Int32)), .unset]) (pc' := 31) ?_
      refine saloadN X0 hx (hb hby d10_31) rfl rfl rfl (pc' := 32) ?_
      refine siloadN X0 hx (hb hby d10_32) rfl rfl (pc' := 33) ?_
      have hz7 : n0 ≤ h0.size := by omega
      obtain ⟨cq7, kq7, q7a, q7b, q7c⟩ := isOf hZ e0 V0'.1
      obtain ⟨_, _, ⟨T7, L7, k7, n7⟩, -, X7, ⟨Lc7, hQ7, l7, y7, z7⟩, st7⟩ := X0.virtualBack hx (y := (⟨"com/example/moraine/moraine/formats/ColumnVector$Ints", "get", "(I)Ljava/lang/Object;"⟩ : MethodName)) (z := (⟨"com/example/moraine/moraine/formats/ColumnVector$Ints", "get", "(I)Ljava/lang/Object;"⟩ : MethodName)) hown (mvT hZ (hw _ (List.mem_of_getElem? (i := 54) rfl))) (mvT hZ (hw _ (List.mem_of_getElem? (i := 55) rfl))) (notFace_of_selects (args := #[]) (mvT hZ (hw _ (List.mem_of_getElem? (i := 57) rfl)))) (mvT hZ (hw _ (List.mem_of_getElem? (i := 57) rfl))) (mvT hZ (hw _ (List.mem_of_getElem? (i := 56) rfl))) (by decide) (backOf (W := 0) (rmGet l Z a0 hw [] v va f g j ca cl h0 n0 hz7 V0' O0 hr SH SC AC CN CA) hZ (hw _ (List.mem_of_getElem? (i := 58) rfl)) (hw _ (List.mem_of_getElem? (i := 3) rfl)) (by decide) (by decide)) q7a q7c (g := (mkF m 33 #[.val (.ref v), .val (.int j), .val (.int k), .val (.ref rs), .val (.int mask), .val (.ref xs), .val (.int (rf j.toInt.toNat)), .val (.int (1 : Int32)), .unset] [(.int j), (.ref v)])) rfl (by rw [hml]; rfl) (Steps.refl _) (argsL := [(.int j)]) (rest := []) (lenOf pd_6 rfl) rfl (by show 2 * 0 + _ ≤ _; exact Nat.le_of_eq rfl) (hb hby d10_33) (fun _ _ => ⟨rfl, e0, (by decide : 0 + 1 ≤ _), (by decide : 0 + 1 ≤ _)⟩)
      dsimp only [Pt.U, Pt.locs, Pt.cells, Pt.slots] at X7 l7 y7 z7 st7 hQ7
      subst l7 y7 z7
      obtain ⟨u7, rfl, N7q, K7, Oo7, hu7⟩ := hQ7
      have N7 := Fr.app N0 N7q
      have z8 : h0.size ≤ T7.heap.size := K7.1
      refine oSt st7 ?_
      show oGl p e below (T7.setTop (mkF m 36 #[.val (.ref v), .val (.int j), .val (.int k), .val (.ref rs), .val (.int mask), .val (.ref xs), .val (.int (rf j.toInt.toNat)), .val (.int (1 : Int32)), .unset] [u7])) _
      rcases hu7 with ⟨rfl, hgn⟩ | ⟨ob, rfl, hg0, Eb, Fb⟩
      · skip
        show oGl p e below (T7.setTop (mkF m 36 #[.val (.ref v), .val (.int j), .val (.int k), .val (.ref rs), .val (.int mask), .val (.ref xs), .val (.int (rf j.toInt.toNat)), .val (.int (1 : Int32)), .unset] [.null])) _
        refine sastore X7 hx (hb hby d10_36) rfl rfl rfl (l' := #[.val (.ref v), .val (.int j), .val (.int k), .val (.ref rs), .val (.int mask), .val (.ref xs), .val (.int (rf j.toInt.toNat)), .val (.int (1 : Int32)), .val .null]) (pc' := 38) ?_
        refine siload X7 hx (hb hby d10_38) rfl rfl (pc' := 40) ?_
        refine sifN X7 hx (hb hby d10_40) rfl (feq (by decide : ¬ ((1 : Int32) = (0 : Int32)))).1 (pc' := 43) ?_
        refine saload X7 hx (hb hby d10_43) rfl rfl rfl (pc' := 45) ?_
        refine sifnonnullN X7 hx (hb hby d10_45) rfl  (pc' := 48) ?_
        refine siconst X7 hx (hb hby d10_48) rfl rfl (z := 1) (pc' := 49) ?_
        refine sgoto X7 hx (hb hby d10_49) (by decide) (by decide)  (pc' := 53) ?_
        have kp9 : Keep h0 T7.heap [] := ((Keep.refl h0 []).trans K7 all0)
        refine oRetN (t := .boolean) X7 hx Bd.notSynchronized Bd.returns (by simp) (hb hby d10_53) (by decide) (by decide) ?_
        show Q_rmCheck Z v va f g rs xs rf xf j k mask ca cl h0 n0 _ T7.heap _
        exact ⟨rfl, N7, kp9, Oo7⟩
      · skip
        show oGl p e below (T7.setTop (mkF m 36 #[.val (.ref v), .val (.int j), .val (.int k), .val (.ref rs), .val (.int mask), .val (.ref xs), .val (.int (rf j.toInt.toNat)), .val (.int (1 : Int32)), .unset] [(.ref ob)])) _
        refine sastore X7 hx (hb hby d10_36) rfl rfl rfl (l' := #[.val (.ref v), .val (.int j), .val (.int k), .val (.ref rs), .val (.int mask), .val (.ref xs), .val (.int (rf j.toInt.toNat)), .val (.int (1 : Int32)), .val (.ref ob)]) (pc' := 38) ?_
        refine siload X7 hx (hb hby d10_38) rfl rfl (pc' := 40) ?_
        refine sifN X7 hx (hb hby d10_40) rfl (feq (by decide : ¬ ((1 : Int32) = (0 : Int32)))).1 (pc' := 43) ?_
        refine saload X7 hx (hb hby d10_43) rfl rfl rfl (pc' := 45) ?_
        refine sifnonnullY X7 hx (hb hby d10_45) (by decide) (by decide)  (pc' := 52) ?_
        exact absurd hg0 (by rw [(hC hc2).2.2 hc21]; decide)
  · skip
    refine sicN X0 hx (hb hby d10_2) rfl (flt hc2).1 (pc' := 5) ?_
    refine siconst X0 hx (hb hby d10_5) rfl rfl (z := 1) (pc' := 6) ?_
    have kp10 : Keep h0 h0 [] := (Keep.refl h0 [])
    refine oRetN (t := .boolean) X0 hx Bd.notSynchronized Bd.returns (by simp) (hb hby d10_6) (by decide) (by decide) ?_
    show Q_rmCheck Z v va f g rs xs rf xf j k mask ca cl h0 n0 _ s₁.heap _
    rw [e0]
    exact ⟨rfl, N0, kp10, O0⟩
theorem d3_0 : decode prog_17_method_1_code 0 = .ok (.aload_n 0, 1) := by decide +kernel
theorem d3_1 : decode prog_17_method_1_code 1 = .ok (.invokespecial 1, 3) := by decide +kernel
theorem d3_4 : decode prog_17_method_1_code 4 = .ok (.return_, 1) := by decide +kernel
theorem pn_ColumnVector : plainName "com/example/moraine/moraine/formats/ColumnVector" = true := by first | (simp [plainName, overriddenIn]; done) | decide +kernel
theorem ef_rmCV (m : MethodId) (x0 : Nat)  : entryFrame m #[(.ref x0)] 1 = mkF m 0 #[.val (.ref x0)] [] := by first | (simp [entryFrame, mkF, argsToLocals, Value.category, maxLocals]; done) | rfl
def Q_rmCV (Z : State) (a : Nat) (h0 : Heap) (n0 : Nat) (vv : Option Value) (h : Heap) (L : List Loc) : Prop := vv = none ∧ Fr n0 L ∧ h = h0
set_option maxRecDepth 65536 in
set_option maxHeartbeats 40000000 in
theorem rmCV (l : Launch) (Z : State) (a0 : Array Value) (hw : ∀ d ∈ tables_1, d.before a0 Z = true) (ws : List Jvm.Cond) (a : Nat) (h0 : Heap) (n0 : Nat) (Z0 : n0 ≤ h0.size)  :
    MetFree l (⟨"com/example/moraine/moraine/formats/ColumnVector", "<init>", "()V"⟩ : MethodName) (head1 (Jvm.Cond.code (⟨"com/example/moraine/moraine/formats/ColumnVector", "<init>", "()V"⟩ : MethodName) prog_17_method_1_code 1 (none : Option FieldType) :: ws) ({ frames := 1, cells := 0, slots := 0, locals := 12 } : Room)) (fun aA uU => aA = #[(.ref a)] ∧ Z.Warmed39 uU.vm ∧ uU.heap = h0) (fun _ _ _ _ _ => True) (fun _ uU oO uU' => ∃ vV lL, oO = .returned vV ∧ Q_rmCV Z a h0 n0 vV uU'.heap lL ∧ FrameEnd uU oO uU' lL ({ frames := 1, cells := 0, slots := 0, locals := 12 } : Room).cells ({ frames := 1, cells := 0, slots := 0, locals := 12 } : Room).slots) := by
  refine MetFree.of_bodySF (plainFor_of_name pn_ColumnVector) hisR ?_
  intro p e s m args below meth c s₁ Bd hml0 hP hK
  obtain ⟨rfl, hZ, hh⟩ := hP
  have hx := Bd.exec
  have hby := Bd.bytes
  have hml : c.maxLocals = 1 := hml0
  have hown : s.vm.findClass "com/example/moraine/moraine/formats/ColumnVector" = some m.cls := findClass_of_methodNamed Bd.named
  have hnm := (name_of_methodNamed Bd.named Bd.method).1
  have X0 : Stand p l e ({ frames := 1, cells := 0, slots := 0, locals := 12 } : Room) s m #[(.ref a)] below meth c s₁ [] 0 0 := Stand.of_body Bd
  have e0 : s₁.heap = h0 := by rw [← hh, Bd.state]; rfl
  have N0 := Fr.nil n0
  refine oEnter (oCast (ef_rmCV m a ) ?_)
  show oGl p e below (s₁.setTop (mkF m 0 #[.val (.ref a)] [])) _
  refine saloadN X0 hx (hb hby d3_0) rfl rfl rfl (pc' := 1) ?_
  obtain ⟨T1, X1, e1, st1⟩ := initO X0 hx hZ hown (hw _ (List.mem_of_getElem? (i := 17) rfl)) (hw _ (List.mem_of_getElem? (i := 18) rfl)) (hw _ (List.mem_of_getElem? (i := 19) rfl)) e0 (g := (mkF m 1 #[.val (.ref a)] [(.ref a)])) rfl (by rw [hml]; rfl) rfl (hb hby d3_1) (by decide) (W := 0) (by show 2 * 0 + _ ≤ _; exact Nat.le_of_eq rfl) (by decide)
  refine oOn st1 ?_
  show oGl p e below (T1.setTop (mkF m 4 #[.val (.ref a)] [])) _
  refine oRet0 X1 hx Bd.notSynchronized Bd.returns (hb hby d3_4) (by decide) (by decide) ?_
  show Q_rmCV Z a h0 n0 _ T1.heap _
  rw [e1]
  exact ⟨rfl, N0, rfl⟩
theorem d2_0 : decode prog_23_method_1_code 0 = .ok (.aload_n 0, 1) := by decide +kernel
theorem d2_1 : decode prog_23_method_1_code 1 = .ok (.invokespecial 1, 3) := by decide +kernel
theorem d2_4 : decode prog_23_method_1_code 4 = .ok (.aload_n 0, 1) := by decide +kernel
theorem d2_5 : decode prog_23_method_1_code 5 = .ok (.iload_n 1, 1) := by decide +kernel
theorem d2_6 : decode prog_23_method_1_code 6 = .ok (.putfield 7, 3) := by decide +kernel
theorem d2_9 : decode prog_23_method_1_code 9 = .ok (.return_, 1) := by decide +kernel
theorem ef_rmNI (m : MethodId) (x0 : Nat) (x1 : Int32)  : entryFrame m #[(.ref x0), (.int x1)] 2 = mkF m 0 #[.val (.ref x0), .val (.int x1)] [] := by first | (simp [entryFrame, mkF, argsToLocals, Value.category, maxLocals]; done) | rfl
def Q_rmNI (Z : State) (v : Nat) (x : Int32) (h0 : Heap) (n0 : Nat) (vv : Option Value) (h : Heap) (L : List Loc) : Prop := vv = none ∧ Fr n0 L ∧ Keep h0 h [v] ∧ Exa Z h v "com/example/moraine/moraine/formats/ColumnVector$Ints" ∧ Fld Z h v "com/example/moraine/moraine/formats/ColumnVector$Nullable" "capacity" "I" (.int x) ∧ Fld Z h v "com/example/moraine/moraine/formats/ColumnVector$Ints" "values" "[I" .null ∧ Fld Z h v "com/example/moraine/moraine/formats/ColumnVector$Nullable" "nulls" "[Z" .null
set_option maxRecDepth 65536 in
set_option maxHeartbeats 40000000 in
theorem rmNI (l : Launch) (Z : State) (a0 : Array Value) (hw : ∀ d ∈ tables_1, d.before a0 Z = true) (ws : List Jvm.Cond) (v : Nat) (x : Int32) (h0 : Heap) (n0 : Nat) (Z0 : n0 ≤ h0.size) (E0 : Exa Z h0 v "com/example/moraine/moraine/formats/ColumnVector$Ints") (F0 : Fld Z h0 v "com/example/moraine/moraine/formats/ColumnVector$Nullable" "capacity" "I" (.int 0)) (F1 : Fld Z h0 v "com/example/moraine/moraine/formats/ColumnVector$Ints" "values" "[I" .null) (F2 : Fld Z h0 v "com/example/moraine/moraine/formats/ColumnVector$Nullable" "nulls" "[Z" .null) (gv : n0 ≤ v) :
    MetFree l (⟨"com/example/moraine/moraine/formats/ColumnVector$Nullable", "<init>", "(I)V"⟩ : MethodName) (head1 (Jvm.Cond.code (⟨"com/example/moraine/moraine/formats/ColumnVector$Nullable", "<init>", "(I)V"⟩ : MethodName) prog_23_method_1_code 2 (none : Option FieldType) :: ws) ({ frames := 2, cells := 0, slots := 0, locals := 24 } : Room)) (fun aA uU => aA = #[(.ref v), (.int x)] ∧ Z.Warmed39 uU.vm ∧ uU.heap = h0) (fun _ _ _ _ _ => True) (fun _ uU oO uU' => ∃ vV lL, oO = .returned vV ∧ Q_rmNI Z v x h0 n0 vV uU'.heap lL ∧ FrameEnd uU oO uU' lL ({ frames := 2, cells := 0, slots := 0, locals := 24 } : Room).cells ({ frames := 2, cells := 0, slots := 0, locals := 24 } : Room).slots) := by
  refine MetFree.of_bodySF (plainFor_of_name pn_ColumnVector_Nullable) hisR ?_
  intro p e s m args below meth c s₁ Bd hml0 hP hK
  obtain ⟨rfl, hZ, hh⟩ := hP
  have hx := Bd.exec
  have hby := Bd.bytes
  have hml : c.maxLocals = 2 := hml0
  have hown : s.vm.findClass "com/example/moraine/moraine/formats/ColumnVector$Nullable" = some m.cls := findClass_of_methodNamed Bd.named
  have hnm := (name_of_methodNamed Bd.named Bd.method).1
  have X0 : Stand p l e ({ frames := 2, cells := 0, slots := 0, locals := 24 } : Room) s m #[(.ref v), (.int x)] below meth c s₁ [] 0 0 := Stand.of_body Bd
  have e0 : s₁.heap = h0 := by rw [← hh, Bd.state]; rfl
  have N0 := Fr.nil n0
  refine oEnter (oCast (ef_rmNI m v x ) ?_)
  show oGl p e below (s₁.setTop (mkF m 0 #[.val (.ref v), .val (.int x)] [])) _
  refine saloadN X0 hx (hb hby d2_0) rfl rfl rfl (pc' := 1) ?_
  have hz1 : n0 ≤ h0.size := by omega
  obtain ⟨_, _, ⟨T1, L1, k1, n1⟩, -, X1, ⟨Lc1, hQ1, l1, y1, z1⟩, st1⟩ := X0.specialBack hx (y := (⟨"com/example/moraine/moraine/formats/ColumnVector", "<init>", "()V"⟩ : MethodName)) rfl hown (mvT hZ (hw _ (List.mem_of_getElem? (i := 12) rfl))) (mvT hZ (hw _ (List.mem_of_getElem? (i := 13) rfl))) (mvT hZ (hw _ (List.mem_of_getElem? (i := 16) rfl))) (by decide) (backOf (W := 0) (rmCV l Z a0 hw [] v h0 n0 hz1 ) hZ (hw _ (List.mem_of_getElem? (i := 16) rfl)) (hw _ (List.mem_of_getElem? (i := 15) rfl)) (by decide) (by decide)) (g := (mkF m 1 #[.val (.ref v), .val (.int x)] [(.ref v)])) rfl (by rw [hml]; rfl) (Steps.refl _) (a := v) (argsL := []) (rest := []) (lenOf pd_3 rfl) rfl (by show 2 * 0 + _ ≤ _; exact Nat.le_of_eq rfl) (hb hby d2_1) (fun _ _ => ⟨rfl, e0, (by decide : 0 + 0 ≤ _), (by decide : 0 + 0 ≤ _)⟩)
  dsimp only [Pt.U, Pt.locs, Pt.cells, Pt.slots] at X1 l1 y1 z1 st1 hQ1
  subst l1 y1 z1
  obtain ⟨rfl, N1q, eh1⟩ := hQ1
  have N1 := Fr.app N0 N1q
  refine oSt st1 ?_
  show oGl p e below (T1.setTop (mkF m 4 #[.val (.ref v), .val (.int x)] [])) _
  refine saloadN X1 hx (hb hby d2_4) rfl rfl rfl (pc' := 5) ?_
  refine siloadN X1 hx (hb hby d2_5) rfl rfl (pc' := 6) ?_
  obtain ⟨T2, h2, X2, e2, W2, st2⟩ := putF X1 hx hZ hown (host := "") (Or.inl (hw _ (List.mem_of_getElem? (i := 20) rfl))) Via.refl eh1 F0 E0 (Or.inr ⟨(hw _ (List.mem_of_getElem? (i := 21) rfl)), rfl, hnm⟩) (hw _ (List.mem_of_getElem? (i := 2) rfl)) (ty := .int) (by decide) rfl rfl (g := (mkF m 6 #[.val (.ref v), .val (.int x)] [(.int x), (.ref v)])) rfl rfl (hb hby d2_6)
  refine oOn st2 ?_
  have z3 : h0.size ≤ h2.size := Nat.le_of_eq W2.size.symm
  have N2 := Fr.snoc X2 N1 (by omega)
  have f2 := Fld.same W2 F0
  show oGl p e below (T2.setTop (mkF m 9 #[.val (.ref v), .val (.int x)] [])) _
  have kp4 : Keep h0 h2 [v] := ((Keep.refl h0 [v]).wr W2 (Or.inl (List.mem_of_getElem? (i := 0) rfl)))
  have f5 := (E0.wr W2)
  have f6 := (F1.other W2 (Or.inr (slot_ne (Or.inr (hw _ (List.mem_of_getElem? (i := 23) rfl))) (Or.inr (hw _ (List.mem_of_getElem? (i := 21) rfl))) (by decide) (t := (.array .int)) (t' := .int) (by decide) (by decide))))
  have f7 := (F2.other W2 (Or.inr (slot_ne (Or.inl (hw _ (List.mem_of_getElem? (i := 40) rfl))) (Or.inr (hw _ (List.mem_of_getElem? (i := 21) rfl))) (by decide) (t := (.array .boolean)) (t' := .int) (by decide) (by decide))))
  refine oRet0 X2 hx Bd.notSynchronized Bd.returns (hb hby d2_9) (by decide) (by decide) ?_
  show Q_rmNI Z v x h0 n0 _ T2.heap _
  rw [e2]
  exact ⟨rfl, N2, kp4, f5, f2, f6, f7⟩
theorem d1_0 : decode prog_21_method_1_code 0 = .ok (.aload_n 0, 1) := by decide +kernel
theorem d1_1 : decode prog_21_method_1_code 1 = .ok (.iload_n 1, 1) := by decide +kernel
theorem d1_2 : decode prog_21_method_1_code 2 = .ok (.invokespecial 1, 3) := by decide +kernel
theorem d1_5 : decode prog_21_method_1_code 5 = .ok (.aload_n 0, 1) := by decide +kernel
theorem d1_6 : decode prog_21_method_1_code 6 = .ok (.iload_n 1, 1) := by decide +kernel
theorem d1_7 : decode prog_21_method_1_code 7 = .ok (.newarray .int, 2) := by decide +kernel
theorem d1_9 : decode prog_21_method_1_code 9 = .ok (.putfield 7, 3) := by decide +kernel
theorem d1_12 : decode prog_21_method_1_code 12 = .ok (.return_, 1) := by decide +kernel
theorem ef_rmInts (m : MethodId) (x0 : Nat) (x1 : Int32)  : entryFrame m #[(.ref x0), (.int x1)] 2 = mkF m 0 #[.val (.ref x0), .val (.int x1)] [] := by first | (simp [entryFrame, mkF, argsToLocals, Value.category, maxLocals]; done) | rfl
def Q_rmInts (Z : State) (v : Nat) (h0 : Heap) (n0 : Nat) (vv : Option Value) (h : Heap) (L : List Loc) : Prop := ∃ va : Nat, vv = none ∧ Fr n0 L ∧ Keep h0 h [v] ∧ Old Z n0 h ∧ h0.size ≤ va ∧ oVec Z h v va n0 (fun _ => 0) (fun _ => 0)
set_option maxRecDepth 65536 in
set_option maxHeartbeats 40000000 in
theorem rmInts (l : Launch) (Z : State) (a0 : Array Value) (hw : ∀ d ∈ tables_1, d.before a0 Z = true) (ws : List Jvm.Cond) (v : Nat) (h0 : Heap) (n0 : Nat) (Z0 : n0 ≤ h0.size) (O0 : Old Z n0 h0) (E0 : Exa Z h0 v "com/example/moraine/moraine/formats/ColumnVector$Ints") (F0 : Fld Z h0 v "com/example/moraine/moraine/formats/ColumnVector$Nullable" "capacity" "I" (.int 0)) (F1 : Fld Z h0 v "com/example/moraine/moraine/formats/ColumnVector$Ints" "values" "[I" .null) (F2 : Fld Z h0 v "com/example/moraine/moraine/formats/ColumnVector$Nullable" "nulls" "[Z" .null) (gv : n0 ≤ v) :
    MetFree l (⟨"com/example/moraine/moraine/formats/ColumnVector$Ints", "<init>", "(I)V"⟩ : MethodName) (head1 (Jvm.Cond.code (⟨"com/example/moraine/moraine/formats/ColumnVector$Ints", "<init>", "(I)V"⟩ : MethodName) prog_21_method_1_code 2 (none : Option FieldType) :: ws) ({ frames := 3, cells := 1, slots := 4, locals := 37 } : Room)) (fun aA uU => aA = #[(.ref v), (.int (4 : Int32))] ∧ Z.Warmed39 uU.vm ∧ uU.heap = h0) (fun _ _ _ _ _ => True) (fun _ uU oO uU' => ∃ vV lL, oO = .returned vV ∧ Q_rmInts Z v h0 n0 vV uU'.heap lL ∧ FrameEnd uU oO uU' lL ({ frames := 3, cells := 1, slots := 4, locals := 37 } : Room).cells ({ frames := 3, cells := 1, slots := 4, locals := 37 } : Room).slots) := by
  refine MetFree.of_bodySF (plainFor_of_name pn_ColumnVector_Ints) hisR ?_
  intro p e s m args below meth c s₁ Bd hml0 hP hK
  obtain ⟨rfl, hZ, hh⟩ := hP
  have hx := Bd.exec
  have hby := Bd.bytes
  have hml : c.maxLocals = 2 := hml0
  have hown : s.vm.findClass "com/example/moraine/moraine/formats/ColumnVector$Ints" = some m.cls := findClass_of_methodNamed Bd.named
  have hnm := (name_of_methodNamed Bd.named Bd.method).1
  have X0 : Stand p l e ({ frames := 3, cells := 1, slots := 4, locals := 37 } : Room) s m #[(.ref v), (.int (4 : Int32))] below meth c s₁ [] 0 0 := Stand.of_body Bd
  have e0 : s₁.heap = h0 := by rw [← hh, Bd.state]; rfl
  have N0 := Fr.nil n0
  have lv : @LT.lt Nat _ v h0.size := E0.lt
  refine oEnter (oCast (ef_rmInts m v (4 : Int32) ) ?_)
  show oGl p e below (s₁.setTop (mkF m 0 #[.val (.ref v), .val (.int (4 : Int32))] [])) _
  refine saloadN X0 hx (hb hby d1_0) rfl rfl rfl (pc' := 1) ?_
  refine siloadN X0 hx (hb hby d1_1) rfl rfl (pc' := 2) ?_
  have hz1 : n0 ≤ h0.size := by omega
  obtain ⟨_, _, ⟨T1, L1, k1, n1⟩, -, X1, ⟨Lc1, hQ1, l1, y1, z1⟩, st1⟩ := X0.specialBack hx (y := (⟨"com/example/moraine/moraine/formats/ColumnVector$Nullable", "<init>", "(I)V"⟩ : MethodName)) rfl hown (mvT hZ (hw _ (List.mem_of_getElem? (i := 7) rfl))) (mvT hZ (hw _ (List.mem_of_getElem? (i := 8) rfl))) (mvT hZ (hw _ (List.mem_of_getElem? (i := 11) rfl))) (by decide) (backOf (W := 0) (rmNI l Z a0 hw [] v (4 : Int32) h0 n0 hz1 E0 F0 F1 F2 (by omega)) hZ (hw _ (List.mem_of_getElem? (i := 11) rfl)) (hw _ (List.mem_of_getElem? (i := 10) rfl)) (by decide) (by decide)) (g := (mkF m 2 #[.val (.ref v), .val (.int (4 : Int32))] [(.int (4 : Int32)), (.ref v)])) rfl (by rw [hml]; rfl) (Steps.refl _) (a := v) (argsL := [(.int (4 : Int32))]) (rest := []) (lenOf pd_0 rfl) rfl (by show 2 * 0 + _ ≤ _; exact Nat.le_of_eq rfl) (hb hby d1_2) (fun _ _ => ⟨rfl, e0, (by decide : 0 + 0 ≤ _), (by decide : 0 + 0 ≤ _)⟩)
  dsimp only [Pt.U, Pt.locs, Pt.cells, Pt.slots] at X1 l1 y1 z1 st1 hQ1
  subst l1 y1 z1
  obtain ⟨rfl, N1q, K1, Ei1, Fa1, Fb1, Fc1⟩ := hQ1
  have N1 := Fr.app N0 N1q
  have z2 : h0.size ≤ T1.heap.size := K1.1
  refine oSt st1 ?_
  show oGl p e below (T1.setTop (mkF m 5 #[.val (.ref v), .val (.int (4 : Int32))] [])) _
  refine saloadN X1 hx (hb hby d1_5) rfl rfl rfl (pc' := 6) ?_
  refine siloadN X1 hx (hb hby d1_6) rfl rfl (pc' := 7) ?_
  obtain ⟨T3, h3, k3, X3, e3, E3, A3, st3⟩ := newP X1 hx hZ (hw _ (List.mem_of_getElem? (i := 0) rfl)) rfl (g := (mkF m 7 #[.val (.ref v), .val (.int (4 : Int32))] [(.int (4 : Int32)), (.ref v)])) rfl (hb hby d1_7) rfl (by decide) (cap := 4) (by decide) (by decide) (by decide) (by decide)
  obtain ⟨a3, g3⟩ : ∃ z, z = T1.heap.size := ⟨_, rfl⟩
  rw [← g3] at A3 st3
  refine oOn st3 ?_
  have z4 : T1.heap.size ≤ h3.size := E3.1
  have lt3 : a3 < h3.size := A3.lt
  have V3 : oAI Z h3 a3 .int 4 (fun _ => 0) := oAI.new A3 rfl
  show oGl p e below (T3.setTop (mkF m 9 #[.val (.ref v), .val (.int (4 : Int32))] [(.ref a3), (.ref v)])) _
  have f6 := (Fb1.ext E3)
  have f7 := (Ei1.ext E3)
  obtain ⟨T5, h5, X5, e5, W5, st5⟩ := putF X3 hx hZ hown (host := "") (Or.inl (hw _ (List.mem_of_getElem? (i := 22) rfl))) Via.refl e3 f6 f7 (Or.inr ⟨(hw _ (List.mem_of_getElem? (i := 23) rfl)), rfl, hnm⟩) (hw _ (List.mem_of_getElem? (i := 2) rfl)) (ty := (.array .int)) (by decide) rfl rfl (g := (mkF m 9 #[.val (.ref v), .val (.int (4 : Int32))] [(.ref a3), (.ref v)])) rfl rfl (hb hby d1_9)
  refine oOn st5 ?_
  have z8 : h3.size ≤ h5.size := Nat.le_of_eq W5.size.symm
  have N5 := Fr.snoc X5 N1 (by omega)
  have f5 := Fld.same W5 f6
  show oGl p e below (T5.setTop (mkF m 12 #[.val (.ref v), .val (.int (4 : Int32))] [])) _
  have kp9 : Keep h0 h5 [v] := ((((Keep.refl h0 [v]).trans K1 (allS (Or.inl (List.mem_of_getElem? (i := 0) rfl)) all0)).ext E3).wr W5 (Or.inl (List.mem_of_getElem? (i := 0) rfl)))
  have f10 := (((O0.keep K1 (allS (by omega) all0)).ext E3).wr W5 (by omega))
  have f11 := (f7.wr W5)
  have f12 := ((Fa1.ext E3).other W5 (Or.inr (slot_ne (Or.inr (hw _ (List.mem_of_getElem? (i := 21) rfl))) (Or.inr (hw _ (List.mem_of_getElem? (i := 23) rfl))) (by decide) (t := .int) (t' := (.array .int)) (by decide) (by decide))))
  have f13 := (V3.other W5 (oNe (by omega)))
  have f14 := ((Fc1.ext E3).other W5 (Or.inr (slot_ne (Or.inl (hw _ (List.mem_of_getElem? (i := 40) rfl))) (Or.inr (hw _ (List.mem_of_getElem? (i := 23) rfl))) (by decide) (t := (.array .boolean)) (t' := (.array .int)) (by decide) (by decide))))
  refine oRet0 X5 hx Bd.notSynchronized Bd.returns (hb hby d1_12) (by decide) (by decide) ?_
  show Q_rmInts Z v h0 n0 _ T5.heap _
  rw [e5]
  exact ⟨a3, rfl, N5, kp9, f10, by omega, ⟨f11, f12, f5, f13, by omega, by omega, oNe (by omega), fun _ => Or.inl rfl, Or.inl ⟨f14, fun _ => rfl⟩⟩⟩
theorem own_fills {mask x0 x1 x2 x3 : Int32} {f1 g1 f2 g2 f3 g3 f4 g4 : Nat → Int32}
    (a1 : oBit mask (0 : Int32) = 0 → f1 = oUp (fun _ => 0) (0 : Int32).toInt.toNat x0 ∧ g1 = oUp (fun _ => 0) (0 : Int32).toInt.toNat 0) (b1 : ¬ oBit mask (0 : Int32) = 0 → f1 = (fun _ => 0) ∧ g1 = oUp (fun _ => 0) (0 : Int32).toInt.toNat 1)
    (a2 : oBit mask (1 : Int32) = 0 → f2 = oUp f1 (1 : Int32).toInt.toNat x1 ∧ g2 = oUp g1 (1 : Int32).toInt.toNat 0) (b2 : ¬ oBit mask (1 : Int32) = 0 → f2 = f1 ∧ g2 = oUp g1 (1 : Int32).toInt.toNat 1)
    (a3 : oBit mask (2 : Int32) = 0 → f3 = oUp f2 (2 : Int32).toInt.toNat x2 ∧ g3 = oUp g2 (2 : Int32).toInt.toNat 0) (b3 : ¬ oBit mask (2 : Int32) = 0 → f3 = f2 ∧ g3 = oUp g2 (2 : Int32).toInt.toNat 1)
    (a4 : oBit mask (3 : Int32) = 0 → f4 = oUp f3 (3 : Int32).toInt.toNat x3 ∧ g4 = oUp g3 (3 : Int32).toInt.toNat 0) (b4 : ¬ oBit mask (3 : Int32) = 0 → f4 = f3 ∧ g4 = oUp g3 (3 : Int32).toInt.toNat 1) :
    ∀ r : Int32, 0 ≤ r.toInt → r.toInt < (4 : Nat) → (oBit mask r = 0 → f4 r.toInt.toNat = (oUp (oUp (oUp (oUp (fun _ => 0) 0 x0) 1 x1) 2 x2) 3 x3) r.toInt.toNat ∧ g4 r.toInt.toNat = 0) ∧ (¬ oBit mask r = 0 → g4 r.toInt.toNat = 1) := by
  have up1 : ∀ (f : Nat → Int32) (i : Int32) (x : Int32) (j : Nat), j ≠ i.toInt.toNat → oUp f i.toInt.toNat x j = f j := fun f i x j q => oUp_miss q
  have hg : ∀ {f f' g g' : Nat → Int32} {i x : Int32}, (oBit mask i = 0 → f' = oUp f i.toInt.toNat x ∧ g' = oUp g i.toInt.toNat 0) → (¬ oBit mask i = 0 → f' = f ∧ g' = oUp g i.toInt.toNat 1) → (∀ j, j ≠ i.toInt.toNat → f' j = f j ∧ g' j = g j) ∧ (oBit mask i = 0 → f' i.toInt.toNat = x ∧ g' i.toInt.toNat = 0) ∧ (¬ oBit mask i = 0 → g' i.toInt.toNat = 1) := by
    intro f f' g g' i x A B
    by_cases q : oBit mask i = 0
    · obtain ⟨rfl, rfl⟩ := A q
      exact ⟨fun j hj => ⟨oUp_miss hj, oUp_miss hj⟩, fun _ => ⟨oUp_hit, oUp_hit⟩, fun r => absurd q r⟩
    · obtain ⟨rfl, rfl⟩ := B q
      exact ⟨fun j hj => ⟨rfl, oUp_miss hj⟩, fun r => absurd r q, fun _ => oUp_hit⟩
  obtain ⟨k1, p1, n1⟩ := hg a1 b1
  obtain ⟨k2, p2, n2⟩ := hg a2 b2
  obtain ⟨k3, p3, n3⟩ := hg a3 b3
  obtain ⟨k4, p4, n4⟩ := hg a4 b4
  intro r h0 h4
  have h5 : r.toInt = 0 ∨ r.toInt = 1 ∨ r.toInt = 2 ∨ r.toInt = 3 := by omega
  rcases h5 with q | q | q | q
  · obtain rfl : r = 0 := Int32.toInt_inj.mp q
    show (oBit mask 0 = 0 → f4 0 = x0 ∧ g4 0 = 0) ∧ (¬ oBit mask 0 = 0 → g4 0 = 1)
    rw [(k4 0 (by decide)).1, (k4 0 (by decide)).2, (k3 0 (by decide)).1, (k3 0 (by decide)).2, (k2 0 (by decide)).1, (k2 0 (by decide)).2]
    exact ⟨p1, n1⟩
  · obtain rfl : r = 1 := Int32.toInt_inj.mp q
    show (oBit mask 1 = 0 → f4 1 = x1 ∧ g4 1 = 0) ∧ (¬ oBit mask 1 = 0 → g4 1 = 1)
    rw [(k4 1 (by decide)).1, (k4 1 (by decide)).2, (k3 1 (by decide)).1, (k3 1 (by decide)).2]
    exact ⟨p2, n2⟩
  · obtain rfl : r = 2 := Int32.toInt_inj.mp q
    show (oBit mask 2 = 0 → f4 2 = x2 ∧ g4 2 = 0) ∧ (¬ oBit mask 2 = 0 → g4 2 = 1)
    rw [(k4 2 (by decide)).1, (k4 2 (by decide)).2]
    exact ⟨p3, n3⟩
  · obtain rfl : r = 3 := Int32.toInt_inj.mp q
    exact ⟨p4, n4⟩
theorem own_check {mask k j : Int32} {f g rf xf : Nat → Int32} (hk : oRows rf k) (hF : ∀ r : Int32, 0 ≤ r.toInt → r.toInt < (4 : Nat) → (oBit mask r = 0 → f r.toInt.toNat = xf r.toInt.toNat ∧ g r.toInt.toNat = 0) ∧ (¬ oBit mask r = 0 → g r.toInt.toNat = 1)) (hj : 0 ≤ j.toInt := by decide) :
    j < k → (0 ≤ (rf j.toInt.toNat).toInt ∧ (rf j.toInt.toNat).toInt < (4 : Nat)) ∧ (oBit mask (rf j.toInt.toNat) = 0 → oKp f rf k.toInt.toNat j.toInt.toNat = xf (rf j.toInt.toNat).toInt.toNat ∧ oKp g rf k.toInt.toNat j.toInt.toNat = 0) ∧ (¬ oBit mask (rf j.toInt.toNat) = 0 → oKp g rf k.toInt.toNat j.toInt.toNat = 1) := by
  intro q
  have q2 := Int32.lt_iff_toInt_lt.mp q
  have h1 := hk.2.2 j.toInt.toNat (by omega)
  have h2 : 0 ≤ (rf j.toInt.toNat).toInt := by omega
  have h3 := hF _ h2 h1.2
  have e1 : ∀ f : Nat → Int32, oKp f rf k.toInt.toNat j.toInt.toNat = f (rf j.toInt.toNat).toInt.toNat := fun f => if_pos (by omega)
  rw [e1, e1]
  exact ⟨⟨h2, h1.2⟩, h3⟩
theorem pd_8 : parseMethodDescriptor "(Lcom/example/moraine/moraine/formats/ColumnVector$Ints;III)V" = some ⟨[(.object "com/example/moraine/moraine/formats/ColumnVector$Ints"), .int, .int, .int], none⟩ := by decide +kernel
theorem pd_9 : parseMethodDescriptor "(Lcom/example/moraine/moraine/formats/ColumnVector$Ints;II[II[I)Z" = some ⟨[(.object "com/example/moraine/moraine/formats/ColumnVector$Ints"), .int, .int, (.array .int), .int, (.array .int)], some .boolean⟩ := by decide +kernel
theorem ef_rmL (m : MethodId) (x0 : Int32) (x1 : Int32) (x2 : Int32) (x3 : Int32) (x4 : Int32)  : entryFrame m #[(.int x0), (.int x1), (.int x2), (.int x3), (.int x4)] maxLocals = mkF m 0 #[.val (.int x0), .val (.int x1), .val (.int x2), .val (.int x3), .val (.int x4), .unset, .unset, .unset, .unset] [] := by first | (simp [entryFrame, mkF, argsToLocals, Value.category, maxLocals]; done) | rfl
def Q_rmL (Z : State) (i0 i1 i2 i3 i4 : Int32) (ca : Nat) (cl : Cell) (h0 : Heap) (n0 : Nat) (vv : Option Value) (h : Heap) (L : List Loc) : Prop := vv = some (.int 1) ∧ Fr n0 L
set_option maxRecDepth 65536 in
set_option maxHeartbeats 40000000 in
theorem rmL (l : Launch) (Z : State) (a0 : Array Value) (hw : ∀ d ∈ tables_1, d.before a0 Z = true) (ws : List Jvm.Cond) (i0 i1 i2 i3 i4 : Int32) (ca : Nat) (cl : Cell) (h0 : Heap) (n0 : Nat) (Z0 : n0 ≤ h0.size) (O0 : Old Z n0 h0) (SH : Sta Z Z.heap "java/lang/Integer$IntegerCache" "high" "I" (.int 127)) (SC : Sta Z Z.heap "java/lang/Integer$IntegerCache" "cache" "[Ljava/lang/Integer;" (.ref ca)) (AC : Arr Z Z.heap ca cl (.object "java/lang/Integer")) (CN : cl.slots.size = 256) (CA : ∀ j : Int32, 0 ≤ j.toInt ∧ j.toInt < (256 : Nat) → ∃ o, cl.slots[j.toNatClampNeg]? = some (.ref o) ∧ Exa Z Z.heap o "java/lang/Integer" ∧ Fld Z Z.heap o "java/lang/Integer" "value" "I" (.int (j - 128))) :
    MetFree l x (head1 (Jvm.Cond.code x code maxLocals ret :: ws) room_1) (fun aA uU => aA = #[(.int i0), (.int i1), (.int i2), (.int i3), (.int i4)] ∧ Z.Warmed39 uU.vm ∧ uU.heap = h0) (fun _ _ _ _ _ => True) (fun _ uU oO uU' => ∃ vV lL, oO = .returned vV ∧ Q_rmL Z i0 i1 i2 i3 i4 ca cl h0 n0 vV uU'.heap lL ∧ FrameEnd uU oO uU' lL 24 128) := by
  refine MetFree.of_bodySF (plainFor_of_name pn_NullableKeepPinLaw) hisR ?_
  intro p e s m args below meth c s₁ Bd hml0 hP hK
  obtain ⟨rfl, hZ, hh⟩ := hP
  have hx := Bd.exec
  have hby := Bd.bytes
  have hml : c.maxLocals = 9 := hml0
  have hown : s.vm.findClass "com/example/moraine/moraine/formats/NullableKeepPinLaw" = some m.cls := findClass_of_methodNamed Bd.named
  have hnm := (name_of_methodNamed Bd.named Bd.method).1
  have X0 : Stand p l e room_1 s m #[(.int i0), (.int i1), (.int i2), (.int i3), (.int i4)] below meth c s₁ [] 0 0 := Stand.of_body Bd
  have e0 : s₁.heap = h0 := by rw [← hh, Bd.state]; rfl
  have N0 := Fr.nil n0
  refine oEnter (oCast (ef_rmL m i0 i1 i2 i3 i4 ) ?_)
  show oGl p e below (s₁.setTop (mkF m 0 #[.val (.int i0), .val (.int i1), .val (.int i2), .val (.int i3), .val (.int i4), .unset, .unset, .unset, .unset] [])) _
  refine siconst X0 hx (hb hby at_0) rfl rfl (z := 4) (pc' := 1) ?_
  obtain ⟨T1, h1, k1, X1, e1, E1, A1, st1⟩ := newP X0 hx hZ (hw _ (List.mem_of_getElem? (i := 0) rfl)) e0 (g := (mkF m 1 #[.val (.int i0), .val (.int i1), .val (.int i2), .val (.int i3), .val (.int i4), .unset, .unset, .unset, .unset] [(.int (4 : Int32))])) rfl (hb hby at_1) rfl (by decide) (cap := 4) (by decide) (by decide) (by decide) (by decide)
  obtain ⟨a1, g1⟩ : ∃ z, z = h0.size := ⟨_, rfl⟩
  rw [← g1] at A1 st1
  refine oOn st1 ?_
  have z2 : h0.size ≤ h1.size := E1.1
  have lt1 : a1 < h1.size := A1.lt
  have V1 : oAI Z h1 a1 .int 4 (fun _ => 0) := oAI.new A1 rfl
  show oGl p e below (T1.setTop (mkF m 3 #[.val (.int i0), .val (.int i1), .val (.int i2), .val (.int i3), .val (.int i4), .unset, .unset, .unset, .unset] [(.ref a1)])) _
  refine sdup X1 hx (hb hby at_3) rfl rfl (pc' := 4) ?_
  refine siconst X1 hx (hb hby at_4) rfl rfl (z := 0) (pc' := 5) ?_
  refine siloadN X1 hx (hb hby at_5) rfl rfl (pc' := 6) ?_
  obtain ⟨T3, h3, X3, e3, W3, V3, st3⟩ := V1.stI X1 hx hZ e1 (j := (0 : Int32)) (by decide) (g := (mkF m 6 #[.val (.int i0), .val (.int i1), .val (.int i2), .val (.int i3), .val (.int i4), .unset, .unset, .unset, .unset] [(.int i1), (.int (0 : Int32)), (.ref a1), (.ref a1)])) rfl rfl (hb hby at_6)
  refine oOn st3 ?_
  have z4 : h1.size ≤ h3.size := Nat.le_of_eq W3.size.symm
  have N3 := Fr.snoc X3 N0 (by omega)
  show oGl p e below (T3.setTop (mkF m 7 #[.val (.int i0), .val (.int i1), .val (.int i2), .val (.int i3), .val (.int i4), .unset, .unset, .unset, .unset] [(.ref a1)])) _
  refine sdup X3 hx (hb hby at_7) rfl rfl (pc' := 8) ?_
  refine siconst X3 hx (hb hby at_8) rfl rfl (z := 1) (pc' := 9) ?_
  refine siloadN X3 hx (hb hby at_9) rfl rfl (pc' := 10) ?_
  obtain ⟨T5, h5, X5, e5, W5, V5, st5⟩ := V3.stI X3 hx hZ e3 (j := (1 : Int32)) (by decide) (g := (mkF m 10 #[.val (.int i0), .val (.int i1), .val (.int i2), .val (.int i3), .val (.int i4), .unset, .unset, .unset, .unset] [(.int i2), (.int (1 : Int32)), (.ref a1), (.ref a1)])) rfl rfl (hb hby at_10)
  refine oOn st5 ?_
  have z6 : h3.size ≤ h5.size := Nat.le_of_eq W5.size.symm
  have N5 := Fr.snoc X5 N3 (by omega)
  show oGl p e below (T5.setTop (mkF m 11 #[.val (.int i0), .val (.int i1), .val (.int i2), .val (.int i3), .val (.int i4), .unset, .unset, .unset, .unset] [(.ref a1)])) _
  refine sdup X5 hx (hb hby at_11) rfl rfl (pc' := 12) ?_
  refine siconst X5 hx (hb hby at_12) rfl rfl (z := 2) (pc' := 13) ?_
  refine siloadN X5 hx (hb hby at_13) rfl rfl (pc' := 14) ?_
  obtain ⟨T7, h7, X7, e7, W7, V7, st7⟩ := V5.stI X5 hx hZ e5 (j := (2 : Int32)) (by decide) (g := (mkF m 14 #[.val (.int i0), .val (.int i1), .val (.int i2), .val (.int i3), .val (.int i4), .unset, .unset, .unset, .unset] [(.int i3), (.int (2 : Int32)), (.ref a1), (.ref a1)])) rfl rfl (hb hby at_14)
  refine oOn st7 ?_
  have z8 : h5.size ≤ h7.size := Nat.le_of_eq W7.size.symm
  have N7 := Fr.snoc X7 N5 (by omega)
  show oGl p e below (T7.setTop (mkF m 15 #[.val (.int i0), .val (.int i1), .val (.int i2), .val (.int i3), .val (.int i4), .unset, .unset, .unset, .unset] [(.ref a1)])) _
  refine sdup X7 hx (hb hby at_15) rfl rfl (pc' := 16) ?_
  refine siconst X7 hx (hb hby at_16) rfl rfl (z := 3) (pc' := 17) ?_
  refine siload X7 hx (hb hby at_17) rfl rfl (pc' := 19) ?_
  obtain ⟨T9, h9, X9, e9, W9, V9, st9⟩ := V7.stI X7 hx hZ e7 (j := (3 : Int32)) (by decide) (g := (mkF m 19 #[.val (.int i0), .val (.int i1), .val (.int i2), .val (.int i3), .val (.int i4), .unset, .unset, .unset, .unset] [(.int i4), (.int (3 : Int32)), (.ref a1), (.ref a1)])) rfl rfl (hb hby at_19)
  refine oOn st9 ?_
  have z10 : h7.size ≤ h9.size := Nat.le_of_eq W9.size.symm
  have N9 := Fr.snoc X9 N7 (by omega)
  show oGl p e below (T9.setTop (mkF m 20 #[.val (.int i0), .val (.int i1), .val (.int i2), .val (.int i3), .val (.int i4), .unset, .unset, .unset, .unset] [(.ref a1)])) _
  refine sastore X9 hx (hb hby at_20) rfl rfl rfl (l' := #[.val (.int i0), .val (.int i1), .val (.int i2), .val (.int i3), .val (.int i4), .val (.ref a1), .unset, .unset, .unset]) (pc' := 22) ?_
  refine siconst X9 hx (hb hby at_22) rfl rfl (z := 4) (pc' := 23) ?_
  obtain ⟨T11, h11, k11, X11, e11, E11, A11, st11⟩ := newP X9 hx hZ (hw _ (List.mem_of_getElem? (i := 0) rfl)) e9 (g := (mkF m 23 #[.val (.int i0), .val (.int i1), .val (.int i2), .val (.int i3), .val (.int i4), .val (.ref a1), .unset, .unset, .unset] [(.int (4 : Int32))])) rfl (hb hby at_23) rfl (by decide) (cap := 4) (by decide) (by decide) (by decide) (by decide)
  obtain ⟨a11, g11⟩ : ∃ z, z = h9.size := ⟨_, rfl⟩
  rw [← g11] at A11 st11
  refine oOn st11 ?_
  have z12 : h9.size ≤ h11.size := E11.1
  have lt11 : a11 < h11.size := A11.lt
  have V11 : oAI Z h11 a11 .int 4 (fun _ => 0) := oAI.new A11 rfl
  show oGl p e below (T11.setTop (mkF m 25 #[.val (.int i0), .val (.int i1), .val (.int i2), .val (.int i3), .val (.int i4), .val (.ref a1), .unset, .unset, .unset] [(.ref a11)])) _
  refine sastore X11 hx (hb hby at_25) rfl rfl rfl (l' := #[.val (.int i0), .val (.int i1), .val (.int i2), .val (.int i3), .val (.int i4), .val (.ref a1), .val (.ref a11), .unset, .unset]) (pc' := 27) ?_
  refine siconst X11 hx (hb hby at_27) rfl rfl (z := 0) (pc' := 28) ?_
  refine sistore X11 hx (hb hby at_28) rfl rfl (l' := #[.val (.int i0), .val (.int i1), .val (.int i2), .val (.int i3), .val (.int i4), .val (.ref a1), .val (.ref a11), .val (.int (0 : Int32)), .unset]) (pc' := 30) ?_
  have j91 : ∀ (k : Int32) (rf : Nat → Int32) (hk : oRows rf k) (T : State) (locs : List Loc) (X : Stand p l e room_1 s m #[(.int i0), (.int i1), (.int i2), (.int i3), (.int i4)] below meth c T locs 2 8) (hh : Heap) (eT : T.heap = hh) (N : Fr n0 locs) (hzh : n0 ≤ hh.size) (Oo : Old Z n0 hh) (fa0 : oAI Z hh a1 .int 4 (oUp (oUp (oUp (oUp (fun _ => 0) 0 i1) 1 i2) 2 i3) 3 i4)) (fa1 : oAI Z hh a11 .int 4 rf), oGl p e below (T.setTop (mkF m 91 #[.val (.int i0), .val (.int i1), .val (.int i2), .val (.int i3), .val (.int i4), .val (.ref a1), .val (.ref a11), .val (.int k), .unset] [])) (oFin s below (Q_rmL Z i0 i1 i2 i3 i4 ca cl h0 n0) 24 128) := by
    intro k rf hk T locs X hh eT N hzh Oo fa0 fa1
    have lfa0 : @LT.lt Nat _ a1 hh.size := fa0.lt
    have lfa1 : @LT.lt Nat _ a11 hh.size := fa1.lt
    obtain ⟨T13, h13, X13, e13, E13, A13, D13, -, st13⟩ := newO X hx hZ hown (hw _ (List.mem_of_getElem? (i := 1) rfl)) (hw _ (List.mem_of_getElem? (i := 2) rfl)) (hw _ (List.mem_of_getElem? (i := 3) rfl)) eT (g := (mkF m 91 #[.val (.int i0), .val (.int i1), .val (.int i2), .val (.int i3), .val (.int i4), .val (.ref a1), .val (.ref a11), .val (.int k), .unset] [])) rfl (hb hby at_91) (by decide) (by decide)
    obtain ⟨a13, g13⟩ : ∃ z, z = hh.size := ⟨_, rfl⟩
    rw [← g13] at A13 D13 st13
    refine oOn st13 ?_
    have z14 : hh.size ≤ h13.size := E13.1
    have lt13 : a13 < h13.size := A13.lt
    have f13_21 : Fld Z h13 a13 "com/example/moraine/moraine/formats/ColumnVector$Nullable" "capacity" "I" (.int (0 : Int32)) := D13 (Or.inr (hw _ (List.mem_of_getElem? (i := 21) rfl))) (ty := .int) (by decide)
    have f13_23 : Fld Z h13 a13 "com/example/moraine/moraine/formats/ColumnVector$Ints" "values" "[I" .null := D13 (Or.inr (hw _ (List.mem_of_getElem? (i := 23) rfl))) (ty := (.array .int)) (by decide)
    have f13_40 : Fld Z h13 a13 "com/example/moraine/moraine/formats/ColumnVector$Nullable" "nulls" "[Z" .null := D13 (Or.inl (hw _ (List.mem_of_getElem? (i := 40) rfl))) (ty := (.array .boolean)) (by decide)
    show oGl p e below (T13.setTop (mkF m 94 #[.val (.int i0), .val (.int i1), .val (.int i2), .val (.int i3), .val (.int i4), .val (.ref a1), .val (.ref a11), .val (.int k), .unset] [(.ref a13)])) _
    refine sdup X13 hx (hb hby at_94) rfl rfl (pc' := 95) ?_
    refine siconst X13 hx (hb hby at_95) rfl rfl (z := 4) (pc' := 96) ?_
    have f15 := (Oo.ext E13)
    have hz16 : n0 ≤ h13.size := by omega
    obtain ⟨_, _, ⟨T16, L16, k16, n16⟩, -, X16, ⟨Lc16, hQ16, l16, y16, z16⟩, st16⟩ := X13.specialBack hx (y := (⟨"com/example/moraine/moraine/formats/ColumnVector$Ints", "<init>", "(I)V"⟩ : MethodName)) rfl hown (mvT hZ (hw _ (List.mem_of_getElem? (i := 4) rfl))) (mvT hZ (hw _ (List.mem_of_getElem? (i := 5) rfl))) (mvT hZ (hw _ (List.mem_of_getElem? (i := 6) rfl))) (by decide) (backOf (W := 1) (rmInts l Z a0 hw [] a13 h13 n0 hz16 f15 A13 f13_21 f13_23 f13_40 (by omega)) hZ (hw _ (List.mem_of_getElem? (i := 6) rfl)) (hw _ (List.mem_of_getElem? (i := 3) rfl)) (by decide) (by decide)) (g := (mkF m 96 #[.val (.int i0), .val (.int i1), .val (.int i2), .val (.int i3), .val (.int i4), .val (.ref a1), .val (.ref a11), .val (.int k), .unset] [(.int (4 : Int32)), (.ref a13), (.ref a13)])) rfl (by rw [hml]; rfl) (Steps.refl _) (a := a13) (argsL := [(.int (4 : Int32))]) (rest := [(.ref a13)]) (lenOf pd_0 rfl) rfl (by show 2 * 0 + _ ≤ _; exact Nat.le_of_eq rfl) (hb hby at_96) (fun _ _ => ⟨rfl, e13, (by decide : 3 + 1 ≤ _), (by decide : 11 + 4 ≤ _)⟩)
    dsimp only [Pt.U, Pt.locs, Pt.cells, Pt.slots] at X16 l16 y16 z16 st16 hQ16
    subst l16 y16 z16
    obtain ⟨va, rfl, N16q, K16, Oo16, lva, Vv16⟩ := hQ16
    have N16 := Fr.app N N16q
    have z17 : h13.size ≤ T16.heap.size := K16.1
    refine oSt st16 ?_
    show oGl p e below (T16.setTop (mkF m 99 #[.val (.int i0), .val (.int i1), .val (.int i2), .val (.int i3), .val (.int i4), .val (.ref a1), .val (.ref a11), .val (.int k), .unset] [(.ref a13)])) _
    refine sastore X16 hx (hb hby at_99) rfl rfl rfl (l' := #[.val (.int i0), .val (.int i1), .val (.int i2), .val (.int i3), .val (.int i4), .val (.ref a1), .val (.ref a11), .val (.int k), .val (.ref a13)]) (pc' := 101) ?_
    refine saload X16 hx (hb hby at_101) rfl rfl rfl (pc' := 103) ?_
    refine siconst X16 hx (hb hby at_103) rfl rfl (z := 0) (pc' := 104) ?_
    refine siloadN X16 hx (hb hby at_104) rfl rfl (pc' := 105) ?_
    refine siloadN X16 hx (hb hby at_105) rfl rfl (pc' := 106) ?_
    have hz18 : n0 ≤ T16.heap.size := by omega
    obtain ⟨_, _, ⟨T18, L18, k18, n18⟩, -, X18, ⟨Lc18, hQ18, l18, y18, z18⟩, st18⟩ := Jvm.LawKit.callS X16 hx (y := (⟨"com/example/moraine/moraine/formats/NullableKeepPinLaw", "fill", "(Lcom/example/moraine/moraine/formats/ColumnVector$Ints;III)V"⟩ : MethodName)) hown (mvT hZ (hw _ (List.mem_of_getElem? (i := 24) rfl))) (mvT hZ (hw _ (List.mem_of_getElem? (i := 25) rfl))) (mvT hZ (hw _ (List.mem_of_getElem? (i := 26) rfl))) (mvT hZ (hw _ (List.mem_of_getElem? (i := 27) rfl))) (by decide) (backOf (W := 0) (rmFill l Z a0 hw [] a13 va (fun _ => 0) (fun _ => 0) (0 : Int32) i0 i1 T16.heap n0 hz18 Vv16 Oo16 (by decide)) hZ (hw _ (List.mem_of_getElem? (i := 27) rfl)) (hw _ (List.mem_of_getElem? (i := 26) rfl)) (by decide) (by decide)) (g := (mkF m 106 #[.val (.int i0), .val (.int i1), .val (.int i2), .val (.int i3), .val (.int i4), .val (.ref a1), .val (.ref a11), .val (.int k), .val (.ref a13)] [(.int i1), (.int i0), (.int (0 : Int32)), (.ref a13)])) rfl (by rw [hml]; rfl) (argsL := [(.ref a13), (.int (0 : Int32)), (.int i0), (.int i1)]) (rest := []) (lenOf pd_8 rfl) rfl (by show 2 * 0 + _ ≤ _; exact Nat.le_of_eq rfl) (hb hby at_106) (fun _ _ => ⟨rfl, rfl, (by decide : 4 + 1 ≤ _), (by decide : 15 + 4 ≤ _)⟩)
    dsimp only [Pt.U, Pt.locs, Pt.cells, Pt.slots] at X18 l18 y18 z18 st18 hQ18
    subst l18 y18 z18
    obtain ⟨f18, g18, rfl, N18q, Tr18, Oo18, Vv18, hA18, hB18⟩ := hQ18
    have N18 := Fr.app N16 N18q
    refine oOn st18 ?_
    have z19 : T16.heap.size ≤ T18.heap.size := Tr18.1
    show oGl p e below (T18.setTop (mkF m 109 #[.val (.int i0), .val (.int i1), .val (.int i2), .val (.int i3), .val (.int i4), .val (.ref a1), .val (.ref a11), .val (.int k), .val (.ref a13)] [])) _
    refine saload X18 hx (hb hby at_109) rfl rfl rfl (pc' := 111) ?_
    refine siconst X18 hx (hb hby at_111) rfl rfl (z := 1) (pc' := 112) ?_
    refine siloadN X18 hx (hb hby at_112) rfl rfl (pc' := 113) ?_
    refine siloadN X18 hx (hb hby at_113) rfl rfl (pc' := 114) ?_
    have hz20 : n0 ≤ T18.heap.size := by omega
    obtain ⟨_, _, ⟨T20, L20, k20, n20⟩, -, X20, ⟨Lc20, hQ20, l20, y20, z20⟩, st20⟩ := Jvm.LawKit.callS X18 hx (y := (⟨"com/example/moraine/moraine/formats/NullableKeepPinLaw", "fill", "(Lcom/example/moraine/moraine/formats/ColumnVector$Ints;III)V"⟩ : MethodName)) hown (mvT hZ (hw _ (List.mem_of_getElem? (i := 24) rfl))) (mvT hZ (hw _ (List.mem_of_getElem? (i := 25) rfl))) (mvT hZ (hw _ (List.mem_of_getElem? (i := 26) rfl))) (mvT hZ (hw _ (List.mem_of_getElem? (i := 27) rfl))) (by decide) (backOf (W := 0) (rmFill l Z a0 hw [] a13 va f18 g18 (1 : Int32) i0 i2 T18.heap n0 hz20 Vv18 Oo18 (by decide)) hZ (hw _ (List.mem_of_getElem? (i := 27) rfl)) (hw _ (List.mem_of_getElem? (i := 26) rfl)) (by decide) (by decide)) (g := (mkF m 114 #[.val (.int i0), .val (.int i1), .val (.int i2), .val (.int i3), .val (.int i4), .val (.ref a1), .val (.ref a11), .val (.int k), .val (.ref a13)] [(.int i2), (.int i0), (.int (1 : Int32)), (.ref a13)])) rfl (by rw [hml]; rfl) (argsL := [(.ref a13), (.int (1 : Int32)), (.int i0), (.int i2)]) (rest := []) (lenOf pd_8 rfl) rfl (by show 2 * 0 + _ ≤ _; exact Nat.le_of_eq rfl) (hb hby at_114) (fun _ _ => ⟨rfl, rfl, (by decide : 5 + 1 ≤ _), (by decide : 19 + 4 ≤ _)⟩)
    dsimp only [Pt.U, Pt.locs, Pt.cells, Pt.slots] at X20 l20 y20 z20 st20 hQ20
    subst l20 y20 z20
    obtain ⟨f20, g20, rfl, N20q, Tr20, Oo20, Vv20, hA20, hB20⟩ := hQ20
    have N20 := Fr.app N18 N20q
    refine oOn st20 ?_
    have z21 : T18.heap.size ≤ T20.heap.size := Tr20.1
    show oGl p e below (T20.setTop (mkF m 117 #[.val (.int i0), .val (.int i1), .val (.int i2), .val (.int i3), .val (.int i4), .val (.ref a1), .val (.ref a11), .val (.int k), .val (.ref a13)] [])) _
    refine saload X20 hx (hb hby at_117) rfl rfl rfl (pc' := 119) ?_
    refine siconst X20 hx (hb hby at_119) rfl rfl (z := 2) (pc' := 120) ?_
    refine siloadN X20 hx (hb hby at_120) rfl rfl (pc' := 121) ?_
    refine siloadN X20 hx (hb hby at_121) rfl rfl (pc' := 122) ?_
    have hz22 : n0 ≤ T20.heap.size := by omega
    obtain ⟨_, _, ⟨T22, L22, k22, n22⟩, -, X22, ⟨Lc22, hQ22, l22, y22, z22⟩, st22⟩ := Jvm.LawKit.callS X20 hx (y := (⟨"com/example/moraine/moraine/formats/NullableKeepPinLaw", "fill", "(Lcom/example/moraine/moraine/formats/ColumnVector$Ints;III)V"⟩ : MethodName)) hown (mvT hZ (hw _ (List.mem_of_getElem? (i := 24) rfl))) (mvT hZ (hw _ (List.mem_of_getElem? (i := 25) rfl))) (mvT hZ (hw _ (List.mem_of_getElem? (i := 26) rfl))) (mvT hZ (hw _ (List.mem_of_getElem? (i := 27) rfl))) (by decide) (backOf (W := 0) (rmFill l Z a0 hw [] a13 va f20 g20 (2 : Int32) i0 i3 T20.heap n0 hz22 Vv20 Oo20 (by decide)) hZ (hw _ (List.mem_of_getElem? (i := 27) rfl)) (hw _ (List.mem_of_getElem? (i := 26) rfl)) (by decide) (by decide)) (g := (mkF m 122 #[.val (.int i0), .val (.int i1), .val (.int i2), .val (.int i3), .val (.int i4), .val (.ref a1), .val (.ref a11), .val (.int k), .val (.ref a13)] [(.int i3), (.int i0), (.int (2 : Int32)), (.ref a13)])) rfl (by rw [hml]; rfl) (argsL := [(.ref a13), (.int (2 : Int32)), (.int i0), (.int i3)]) (rest := []) (lenOf pd_8 rfl) rfl (by show 2 * 0 + _ ≤ _; exact Nat.le_of_eq rfl) (hb hby at_122) (fun _ _ => ⟨rfl, rfl, (by decide : 6 + 1 ≤ _), (by decide : 23 + 4 ≤ _)⟩)
    dsimp only [Pt.U, Pt.locs, Pt.cells, Pt.slots] at X22 l22 y22 z22 st22 hQ22
    subst l22 y22 z22
    obtain ⟨f22, g22, rfl, N22q, Tr22, Oo22, Vv22, hA22, hB22⟩ := hQ22
    have N22 := Fr.app N20 N22q
    refine oOn st22 ?_
    have z23 : T20.heap.size ≤ T22.heap.size := Tr22.1
    show oGl p e below (T22.setTop (mkF m 125 #[.val (.int i0), .val (.int i1), .val (.int i2), .val (.int i3), .val (.int i4), .val (.ref a1), .val (.ref a11), .val (.int k), .val (.ref a13)] [])) _
    refine saload X22 hx (hb hby at_125) rfl rfl rfl (pc' := 127) ?_
    refine siconst X22 hx (hb hby at_127) rfl rfl (z := 3) (pc' := 128) ?_
    refine siloadN X22 hx (hb hby at_128) rfl rfl (pc' := 129) ?_
    refine siload X22 hx (hb hby at_129) rfl rfl (pc' := 131) ?_
    have hz24 : n0 ≤ T22.heap.size := by omega
    obtain ⟨_, _, ⟨T24, L24, k24, n24⟩, -, X24, ⟨Lc24, hQ24, l24, y24, z24⟩, st24⟩ := Jvm.LawKit.callS X22 hx (y := (⟨"com/example/moraine/moraine/formats/NullableKeepPinLaw", "fill", "(Lcom/example/moraine/moraine/formats/ColumnVector$Ints;III)V"⟩ : MethodName)) hown (mvT hZ (hw _ (List.mem_of_getElem? (i := 24) rfl))) (mvT hZ (hw _ (List.mem_of_getElem? (i := 25) rfl))) (mvT hZ (hw _ (List.mem_of_getElem? (i := 26) rfl))) (mvT hZ (hw _ (List.mem_of_getElem? (i := 27) rfl))) (by decide) (backOf (W := 0) (rmFill l Z a0 hw [] a13 va f22 g22 (3 : Int32) i0 i4 T22.heap n0 hz24 Vv22 Oo22 (by decide)) hZ (hw _ (List.mem_of_getElem? (i := 27) rfl)) (hw _ (List.mem_of_getElem? (i := 26) rfl)) (by decide) (by decide)) (g := (mkF m 131 #[.val (.int i0), .val (.int i1), .val (.int i2), .val (.int i3), .val (.int i4), .val (.ref a1), .val (.ref a11), .val (.int k), .val (.ref a13)] [(.int i4), (.int i0), (.int (3 : Int32)), (.ref a13)])) rfl (by rw [hml]; rfl) (argsL := [(.ref a13), (.int (3 : Int32)), (.int i0), (.int i4)]) (rest := []) (lenOf pd_8 rfl) rfl (by show 2 * 0 + _ ≤ _; exact Nat.le_of_eq rfl) (hb hby at_131) (fun _ _ => ⟨rfl, rfl, (by decide : 7 + 1 ≤ _), (by decide : 27 + 4 ≤ _)⟩)
    dsimp only [Pt.U, Pt.locs, Pt.cells, Pt.slots] at X24 l24 y24 z24 st24 hQ24
    subst l24 y24 z24
    obtain ⟨f24, g24, rfl, N24q, Tr24, Oo24, Vv24, hA24, hB24⟩ := hQ24
    have N24 := Fr.app N22 N24q
    refine oOn st24 ?_
    have z25 : T22.heap.size ≤ T24.heap.size := Tr24.1
    show oGl p e below (T24.setTop (mkF m 134 #[.val (.int i0), .val (.int i1), .val (.int i2), .val (.int i3), .val (.int i4), .val (.ref a1), .val (.ref a11), .val (.int k), .val (.ref a13)] [])) _
    refine saload X24 hx (hb hby at_134) rfl rfl rfl (pc' := 136) ?_
    refine saload X24 hx (hb hby at_136) rfl rfl rfl (pc' := 138) ?_
    refine siload X24 hx (hb hby at_138) rfl rfl (pc' := 140) ?_
    have hF := own_fills (mask := i0) (x0 := i1) (x1 := i2) (x2 := i3) (x3 := i4) hA18 hB18 hA20 hB20 hA22 hB22 hA24 hB24
    have Ev25 := Vv24.1
    have f26 := (Tr24.2 _ _ _ (oNe (by omega)) (Tr22.2 _ _ _ (oNe (by omega)) (Tr20.2 _ _ _ (oNe (by omega)) (Tr18.2 _ _ _ (oNe (by omega)) ((fa1.ext E13).keep K16 (ninS (oNe (by omega)) nin0))))))
    have hz27 : n0 ≤ T24.heap.size := by omega
    obtain ⟨cq27, kq27, q27a, q27b, q27c⟩ := isOf hZ rfl Ev25
    obtain ⟨_, _, ⟨T27, L27, k27, n27⟩, -, X27, ⟨Lc27, hQ27, l27, y27, z27⟩, st27⟩ := X24.virtualBack hx (y := (⟨"com/example/moraine/moraine/formats/ColumnVector$Ints", "keep", "([II)V"⟩ : MethodName)) (z := (⟨"com/example/moraine/moraine/formats/ColumnVector$Ints", "keep", "([II)V"⟩ : MethodName)) hown (mvT hZ (hw _ (List.mem_of_getElem? (i := 41) rfl))) (mvT hZ (hw _ (List.mem_of_getElem? (i := 42) rfl))) (notFace_of_selects (args := #[]) (mvT hZ (hw _ (List.mem_of_getElem? (i := 44) rfl)))) (mvT hZ (hw _ (List.mem_of_getElem? (i := 44) rfl))) (mvT hZ (hw _ (List.mem_of_getElem? (i := 43) rfl))) (by decide) (backOf (W := 0) (rmKeep l Z a0 hw [] a13 va f24 g24 a11 rf k T24.heap n0 hz27 Vv24 Oo24 hk f26 (oNe (by omega))) hZ (hw _ (List.mem_of_getElem? (i := 45) rfl)) (hw _ (List.mem_of_getElem? (i := 3) rfl)) (by decide) (by decide)) q27a q27c (g := (mkF m 140 #[.val (.int i0), .val (.int i1), .val (.int i2), .val (.int i3), .val (.int i4), .val (.ref a1), .val (.ref a11), .val (.int k), .val (.ref a13)] [(.int k), (.ref a11), (.ref a13)])) rfl (by rw [hml]; rfl) (Steps.refl _) (argsL := [(.ref a11), (.int k)]) (rest := []) (lenOf pd_2 rfl) rfl (by show 2 * 0 + _ ≤ _; exact Nat.le_of_eq rfl) (hb hby at_140) (fun _ _ => ⟨rfl, rfl, (by decide : 8 + 0 ≤ _), (by decide : 31 + 0 ≤ _)⟩)
    dsimp only [Pt.U, Pt.locs, Pt.cells, Pt.slots] at X27 l27 y27 z27 st27 hQ27
    subst l27 y27 z27
    obtain ⟨rfl, N27q, Tr27, Oo27, Vv27⟩ := hQ27
    have N27 := Fr.app N24 N27q
    refine oSt st27 ?_
    have z28 : T24.heap.size ≤ T27.heap.size := Tr27.1
    show oGl p e below (T27.setTop (mkF m 143 #[.val (.int i0), .val (.int i1), .val (.int i2), .val (.int i3), .val (.int i4), .val (.ref a1), .val (.ref a11), .val (.int k), .val (.ref a13)] [])) _
    refine saload X27 hx (hb hby at_143) rfl rfl rfl (pc' := 145) ?_
    refine siconst X27 hx (hb hby at_145) rfl rfl (z := 0) (pc' := 146) ?_
    refine siload X27 hx (hb hby at_146) rfl rfl (pc' := 148) ?_
    refine saload X27 hx (hb hby at_148) rfl rfl rfl (pc' := 150) ?_
    refine siloadN X27 hx (hb hby at_150) rfl rfl (pc' := 151) ?_
    refine saload X27 hx (hb hby at_151) rfl rfl rfl (pc' := 153) ?_
    have f29 := (Tr27.2 _ _ _ (oNe (by omega)) f26)
    have f30 := (Tr27.2 _ _ _ (oNe (by omega)) (Tr24.2 _ _ _ (oNe (by omega)) (Tr22.2 _ _ _ (oNe (by omega)) (Tr20.2 _ _ _ (oNe (by omega)) (Tr18.2 _ _ _ (oNe (by omega)) ((fa0.ext E13).keep K16 (ninS (oNe (by omega)) nin0)))))))
    have hz31 : n0 ≤ T27.heap.size := by omega
    obtain ⟨_, _, ⟨T31, L31, k31, n31⟩, -, X31, ⟨Lc31, hQ31, l31, y31, z31⟩, st31⟩ := Jvm.LawKit.callS X27 hx (y := (⟨"com/example/moraine/moraine/formats/NullableKeepPinLaw", "check", "(Lcom/example/moraine/moraine/formats/ColumnVector$Ints;II[II[I)Z"⟩ : MethodName)) hown (mvT hZ (hw _ (List.mem_of_getElem? (i := 51) rfl))) (mvT hZ (hw _ (List.mem_of_getElem? (i := 52) rfl))) (mvT hZ (hw _ (List.mem_of_getElem? (i := 26) rfl))) (mvT hZ (hw _ (List.mem_of_getElem? (i := 53) rfl))) (by decide) (backOf (W := 0) (rmCheck l Z a0 hw [] a13 va (oKp f24 rf k.toInt.toNat) (oKp g24 rf k.toInt.toNat) a11 a1 rf (oUp (oUp (oUp (oUp (fun _ => 0) 0 i1) 1 i2) 2 i3) 3 i4) (0 : Int32) k i0 ca cl T27.heap n0 hz31 Vv27 Oo27 (by decide) (own_check hk hF) f29 f30 SH SC AC CN CA) hZ (hw _ (List.mem_of_getElem? (i := 53) rfl)) (hw _ (List.mem_of_getElem? (i := 26) rfl)) (by decide) (by decide)) (g := (mkF m 153 #[.val (.int i0), .val (.int i1), .val (.int i2), .val (.int i3), .val (.int i4), .val (.ref a1), .val (.ref a11), .val (.int k), .val (.ref a13)] [(.ref a1), (.int i0), (.ref a11), (.int k), (.int (0 : Int32)), (.ref a13)])) rfl (by rw [hml]; rfl) (argsL := [(.ref a13), (.int (0 : Int32)), (.int k), (.ref a11), (.int i0), (.ref a1)]) (rest := []) (lenOf pd_9 rfl) rfl (by show 2 * 0 + _ ≤ _; exact Nat.le_of_eq rfl) (hb hby at_153) (fun _ _ => ⟨rfl, rfl, (by decide : 8 + 1 ≤ _), (by decide : 31 + 1 ≤ _)⟩)
    dsimp only [Pt.U, Pt.locs, Pt.cells, Pt.slots] at X31 l31 y31 z31 st31 hQ31
    subst l31 y31 z31
    obtain ⟨rfl, N31q, K31, Oo31⟩ := hQ31
    have N31 := Fr.app N27 N31q
    have z32 : T27.heap.size ≤ T31.heap.size := K31.1
    refine oOn st31 ?_
    show oGl p e below (T31.setTop (mkF m 156 #[.val (.int i0), .val (.int i1), .val (.int i2), .val (.int i3), .val (.int i4), .val (.ref a1), .val (.ref a11), .val (.int k), .val (.ref a13)] [(.int (1 : Int32))])) _
    refine sifN X31 hx (hb hby at_156) rfl (feq (by decide : ¬ ((1 : Int32) = (0 : Int32)))).1 (pc' := 159) ?_
    refine saload X31 hx (hb hby at_159) rfl rfl rfl (pc' := 161) ?_
    refine siconst X31 hx (hb hby at_161) rfl rfl (z := 1) (pc' := 162) ?_
    refine siload X31 hx (hb hby at_162) rfl rfl (pc' := 164) ?_
    refine saload X31 hx (hb hby at_164) rfl rfl rfl (pc' := 166) ?_
    refine siloadN X31 hx (hb hby at_166) rfl rfl (pc' := 167) ?_
    refine saload X31 hx (hb hby at_167) rfl rfl rfl (pc' := 169) ?_
    have f33 := (Vv27.keep0 K31)
    have f34 := (f29.keep K31 nin0)
    have f35 := (f30.keep K31 nin0)
    have hz36 : n0 ≤ T31.heap.size := by omega
    obtain ⟨_, _, ⟨T36, L36, k36, n36⟩, -, X36, ⟨Lc36, hQ36, l36, y36, z36⟩, st36⟩ := Jvm.LawKit.callS X31 hx (y := (⟨"com/example/moraine/moraine/formats/NullableKeepPinLaw", "check", "(Lcom/example/moraine/moraine/formats/ColumnVector$Ints;II[II[I)Z"⟩ : MethodName)) hown (mvT hZ (hw _ (List.mem_of_getElem? (i := 51) rfl))) (mvT hZ (hw _ (List.mem_of_getElem? (i := 52) rfl))) (mvT hZ (hw _ (List.mem_of_getElem? (i := 26) rfl))) (mvT hZ (hw _ (List.mem_of_getElem? (i := 53) rfl))) (by decide) (backOf (W := 0) (rmCheck l Z a0 hw [] a13 va (oKp f24 rf k.toInt.toNat) (oKp g24 rf k.toInt.toNat) a11 a1 rf (oUp (oUp (oUp (oUp (fun _ => 0) 0 i1) 1 i2) 2 i3) 3 i4) (1 : Int32) k i0 ca cl T31.heap n0 hz36 f33 Oo31 (by decide) (own_check hk hF) f34 f35 SH SC AC CN CA) hZ (hw _ (List.mem_of_getElem? (i := 53) rfl)) (hw _ (List.mem_of_getElem? (i := 26) rfl)) (by decide) (by decide)) (g := (mkF m 169 #[.val (.int i0), .val (.int i1), .val (.int i2), .val (.int i3), .val (.int i4), .val (.ref a1), .val (.ref a11), .val (.int k), .val (.ref a13)] [(.ref a1), (.int i0), (.ref a11), (.int k), (.int (1 : Int32)), (.ref a13)])) rfl (by rw [hml]; rfl) (argsL := [(.ref a13), (.int (1 : Int32)), (.int k), (.ref a11), (.int i0), (.ref a1)]) (rest := []) (lenOf pd_9 rfl) rfl (by show 2 * 0 + _ ≤ _; exact Nat.le_of_eq rfl) (hb hby at_169) (fun _ _ => ⟨rfl, rfl, (by decide : 9 + 1 ≤ _), (by decide : 32 + 1 ≤ _)⟩)
    dsimp only [Pt.U, Pt.locs, Pt.cells, Pt.slots] at X36 l36 y36 z36 st36 hQ36
    subst l36 y36 z36
    obtain ⟨rfl, N36q, K36, Oo36⟩ := hQ36
    have N36 := Fr.app N31 N36q
    have z37 : T31.heap.size ≤ T36.heap.size := K36.1
    refine oOn st36 ?_
    show oGl p e below (T36.setTop (mkF m 172 #[.val (.int i0), .val (.int i1), .val (.int i2), .val (.int i3), .val (.int i4), .val (.ref a1), .val (.ref a11), .val (.int k), .val (.ref a13)] [(.int (1 : Int32))])) _
    refine sifN X36 hx (hb hby at_172) rfl (feq (by decide : ¬ ((1 : Int32) = (0 : Int32)))).1 (pc' := 175) ?_
    refine saload X36 hx (hb hby at_175) rfl rfl rfl (pc' := 177) ?_
    refine siconst X36 hx (hb hby at_177) rfl rfl (z := 2) (pc' := 178) ?_
    refine siload X36 hx (hb hby at_178) rfl rfl (pc' := 180) ?_
    refine saload X36 hx (hb hby at_180) rfl rfl rfl (pc' := 182) ?_
    refine siloadN X36 hx (hb hby at_182) rfl rfl (pc' := 183) ?_
    refine saload X36 hx (hb hby at_183) rfl rfl rfl (pc' := 185) ?_
    have f38 := (f33.keep0 K36)
    have f39 := (f34.keep K36 nin0)
    have f40 := (f35.keep K36 nin0)
    have hz41 : n0 ≤ T36.heap.size := by omega
    obtain ⟨_, _, ⟨T41, L41, k41, n41⟩, -, X41, ⟨Lc41, hQ41, l41, y41, z41⟩, st41⟩ := Jvm.LawKit.callS X36 hx (y := (⟨"com/example/moraine/moraine/formats/NullableKeepPinLaw", "check", "(Lcom/example/moraine/moraine/formats/ColumnVector$Ints;II[II[I)Z"⟩ : MethodName)) hown (mvT hZ (hw _ (List.mem_of_getElem? (i := 51) rfl))) (mvT hZ (hw _ (List.mem_of_getElem? (i := 52) rfl))) (mvT hZ (hw _ (List.mem_of_getElem? (i := 26) rfl))) (mvT hZ (hw _ (List.mem_of_getElem? (i := 53) rfl))) (by decide) (backOf (W := 0) (rmCheck l Z a0 hw [] a13 va (oKp f24 rf k.toInt.toNat) (oKp g24 rf k.toInt.toNat) a11 a1 rf (oUp (oUp (oUp (oUp (fun _ => 0) 0 i1) 1 i2) 2 i3) 3 i4) (2 : Int32) k i0 ca cl T36.heap n0 hz41 f38 Oo36 (by decide) (own_check hk hF) f39 f40 SH SC AC CN CA) hZ (hw _ (List.mem_of_getElem? (i := 53) rfl)) (hw _ (List.mem_of_getElem? (i := 26) rfl)) (by decide) (by decide)) (g := (mkF m 185 #[.val (.int i0), .val (.int i1), .val (.int i2), .val (.int i3), .val (.int i4), .val (.ref a1), .val (.ref a11), .val (.int k), .val (.ref a13)] [(.ref a1), (.int i0), (.ref a11), (.int k), (.int (2 : Int32)), (.ref a13)])) rfl (by rw [hml]; rfl) (argsL := [(.ref a13), (.int (2 : Int32)), (.int k), (.ref a11), (.int i0), (.ref a1)]) (rest := []) (lenOf pd_9 rfl) rfl (by show 2 * 0 + _ ≤ _; exact Nat.le_of_eq rfl) (hb hby at_185) (fun _ _ => ⟨rfl, rfl, (by decide : 10 + 1 ≤ _), (by decide : 33 + 1 ≤ _)⟩)
    dsimp only [Pt.U, Pt.locs, Pt.cells, Pt.slots] at X41 l41 y41 z41 st41 hQ41
    subst l41 y41 z41
    obtain ⟨rfl, N41q, K41, Oo41⟩ := hQ41
    have N41 := Fr.app N36 N41q
    have z42 : T36.heap.size ≤ T41.heap.size := K41.1
    refine oOn st41 ?_
    show oGl p e below (T41.setTop (mkF m 188 #[.val (.int i0), .val (.int i1), .val (.int i2), .val (.int i3), .val (.int i4), .val (.ref a1), .val (.ref a11), .val (.int k), .val (.ref a13)] [(.int (1 : Int32))])) _
    refine sifN X41 hx (hb hby at_188) rfl (feq (by decide : ¬ ((1 : Int32) = (0 : Int32)))).1 (pc' := 191) ?_
    refine saload X41 hx (hb hby at_191) rfl rfl rfl (pc' := 193) ?_
    refine siconst X41 hx (hb hby at_193) rfl rfl (z := 3) (pc' := 194) ?_
    refine siload X41 hx (hb hby at_194) rfl rfl (pc' := 196) ?_
    refine saload X41 hx (hb hby at_196) rfl rfl rfl (pc' := 198) ?_
    refine siloadN X41 hx (hb hby at_198) rfl rfl (pc' := 199) ?_
    refine saload X41 hx (hb hby at_199) rfl rfl rfl (pc' := 201) ?_
    have f43 := (f38.keep0 K41)
    have f44 := (f39.keep K41 nin0)
    have f45 := (f40.keep K41 nin0)
    have hz46 : n0 ≤ T41.heap.size := by omega
    obtain ⟨_, _, ⟨T46, L46, k46, n46⟩, -, X46, ⟨Lc46, hQ46, l46, y46, z46⟩, st46⟩ := Jvm.LawKit.callS X41 hx (y := (⟨"com/example/moraine/moraine/formats/NullableKeepPinLaw", "check", "(Lcom/example/moraine/moraine/formats/ColumnVector$Ints;II[II[I)Z"⟩ : MethodName)) hown (mvT hZ (hw _ (List.mem_of_getElem? (i := 51) rfl))) (mvT hZ (hw _ (List.mem_of_getElem? (i := 52) rfl))) (mvT hZ (hw _ (List.mem_of_getElem? (i := 26) rfl))) (mvT hZ (hw _ (List.mem_of_getElem? (i := 53) rfl))) (by decide) (backOf (W := 0) (rmCheck l Z a0 hw [] a13 va (oKp f24 rf k.toInt.toNat) (oKp g24 rf k.toInt.toNat) a11 a1 rf (oUp (oUp (oUp (oUp (fun _ => 0) 0 i1) 1 i2) 2 i3) 3 i4) (3 : Int32) k i0 ca cl T41.heap n0 hz46 f43 Oo41 (by decide) (own_check hk hF) f44 f45 SH SC AC CN CA) hZ (hw _ (List.mem_of_getElem? (i := 53) rfl)) (hw _ (List.mem_of_getElem? (i := 26) rfl)) (by decide) (by decide)) (g := (mkF m 201 #[.val (.int i0), .val (.int i1), .val (.int i2), .val (.int i3), .val (.int i4), .val (.ref a1), .val (.ref a11), .val (.int k), .val (.ref a13)] [(.ref a1), (.int i0), (.ref a11), (.int k), (.int (3 : Int32)), (.ref a13)])) rfl (by rw [hml]; rfl) (argsL := [(.ref a13), (.int (3 : Int32)), (.int k), (.ref a11), (.int i0), (.ref a1)]) (rest := []) (lenOf pd_9 rfl) rfl (by show 2 * 0 + _ ≤ _; exact Nat.le_of_eq rfl) (hb hby at_201) (fun _ _ => ⟨rfl, rfl, (by decide : 11 + 1 ≤ _), (by decide : 34 + 1 ≤ _)⟩)
    dsimp only [Pt.U, Pt.locs, Pt.cells, Pt.slots] at X46 l46 y46 z46 st46 hQ46
    subst l46 y46 z46
    obtain ⟨rfl, N46q, K46, Oo46⟩ := hQ46
    have N46 := Fr.app N41 N46q
    have z47 : T41.heap.size ≤ T46.heap.size := K46.1
    refine oOn st46 ?_
    show oGl p e below (T46.setTop (mkF m 204 #[.val (.int i0), .val (.int i1), .val (.int i2), .val (.int i3), .val (.int i4), .val (.ref a1), .val (.ref a11), .val (.int k), .val (.ref a13)] [(.int (1 : Int32))])) _
    refine sifN X46 hx (hb hby at_204) rfl (feq (by decide : ¬ ((1 : Int32) = (0 : Int32)))).1 (pc' := 207) ?_
    refine siconst X46 hx (hb hby at_207) rfl rfl (z := 1) (pc' := 208) ?_
    refine sgoto X46 hx (hb hby at_208) (by decide) (by decide)  (pc' := 212) ?_
    refine oRetN (t := .boolean) X46 hx Bd.notSynchronized Bd.returns (by simp) (hb hby at_212) (by decide) (by decide) ?_
    show Q_rmL Z i0 i1 i2 i3 i4 ca cl h0 n0 _ T46.heap _
    exact ⟨rfl, N46⟩
  refine siloadN X11 hx (hb hby at_30) rfl rfl (pc' := 31) ?_
  refine siconst X11 hx (hb hby at_31) rfl rfl (z := 1) (pc' := 32) ?_
  refine siand X11 hx (hb hby at_32) rfl rfl (pc' := 33) ?_
  by_cases hc33 : (i0 &&& (1 : Int32)) = (0 : Int32)
  · skip
    refine sifY X11 hx (hb hby at_33) (by decide) (by decide) (teq hc33).1 (pc' := 45) ?_
    refine siloadN X11 hx (hb hby at_45) rfl rfl (pc' := 46) ?_
    refine siconst X11 hx (hb hby at_46) rfl rfl (z := 2) (pc' := 47) ?_
    refine siand X11 hx (hb hby at_47) rfl rfl (pc' := 48) ?_
    by_cases hc48 : (i0 &&& (2 : Int32)) = (0 : Int32)
    · skip
      refine sifY X11 hx (hb hby at_48) (by decide) (by decide) (teq hc48).1 (pc' := 60) ?_
      refine siloadN X11 hx (hb hby at_60) rfl rfl (pc' := 61) ?_
      refine siconst X11 hx (hb hby at_61) rfl rfl (z := 4) (pc' := 62) ?_
      refine siand X11 hx (hb hby at_62) rfl rfl (pc' := 63) ?_
      by_cases hc63 : (i0 &&& (4 : Int32)) = (0 : Int32)
      · skip
        refine sifY X11 hx (hb hby at_63) (by decide) (by decide) (teq hc63).1 (pc' := 75) ?_
        refine siloadN X11 hx (hb hby at_75) rfl rfl (pc' := 76) ?_
        refine sbipush X11 hx (hb hby at_76) rfl rfl (z := 8) (pc' := 78) ?_
        refine siand X11 hx (hb hby at_78) rfl rfl (pc' := 79) ?_
        by_cases hc79 : (i0 &&& (8 : Int32)) = (0 : Int32)
        · skip
          refine sifY X11 hx (hb hby at_79) (by decide) (by decide) (teq hc79).1 (pc' := 91) ?_
          have hzb : n0 ≤ h11.size := by omega
          have hrk : oRows (fun _ => 0) (0 : Int32) := by
            refine ⟨by decide, by decide, fun j hj => ?_⟩
            have hj2 : (j : Int) < 0 := hj
            omega
          have f48 := ((((((O0.ext E1).wr W3 (by omega)).wr W5 (by omega)).wr W7 (by omega)).wr W9 (by omega)).ext E11)
          have f49 := (V9.ext E11)
          exact j91 (0 : Int32) (fun _ => 0) hrk _ _ X11 _ e11 N9 hzb f48 f49 V11
        · skip
          refine sifN X11 hx (hb hby at_79) rfl (feq hc79).1 (pc' := 82) ?_
          refine saload X11 hx (hb hby at_82) rfl rfl rfl (pc' := 84) ?_
          refine siload X11 hx (hb hby at_84) rfl rfl (pc' := 86) ?_
          refine siconst X11 hx (hb hby at_86) rfl rfl (z := 3) (pc' := 87) ?_
          obtain ⟨T50, h50, X50, e50, W50, V50, st50⟩ := V11.stI X11 hx hZ e11 (j := (0 : Int32)) (by decide) (g := (mkF m 87 #[.val (.int i0), .val (.int i1), .val (.int i2), .val (.int i3), .val (.int i4), .val (.ref a1), .val (.ref a11), .val (.int (0 : Int32)), .unset] [(.int (3 : Int32)), (.int (0 : Int32)), (.ref a11)])) rfl rfl (hb hby at_87)
          refine oOn st50 ?_
          have z51 : h11.size ≤ h50.size := Nat.le_of_eq W50.size.symm
          have N50 := Fr.snoc X50 N9 (by omega)
          show oGl p e below (T50.setTop (mkF m 88 #[.val (.int i0), .val (.int i1), .val (.int i2), .val (.int i3), .val (.int i4), .val (.ref a1), .val (.ref a11), .val (.int (0 : Int32)), .unset] [])) _
          refine siinc X50 hx (hb hby at_88) rfl rfl rfl (l' := #[.val (.int i0), .val (.int i1), .val (.int i2), .val (.int i3), .val (.int i4), .val (.ref a1), .val (.ref a11), .val (.int (1 : Int32)), .unset]) (pc' := 91) ?_
          have hzb : n0 ≤ h50.size := by omega
          have hrk : oRows (oUp (fun _ => 0) 0 (3 : Int32)) (1 : Int32) := by
            refine ⟨by decide, by decide, fun j hj => ?_⟩
            have hj2 : (j : Int) < 1 := hj
            have hj3 : j = 0 := by omega
            rcases hj3 with rfl
            · exact ⟨by decide, by decide⟩
          have f52 := (((((((O0.ext E1).wr W3 (by omega)).wr W5 (by omega)).wr W7 (by omega)).wr W9 (by omega)).ext E11).wr W50 (by omega))
          have f53 := ((V9.ext E11).other W50 (oNe (by omega)))
          exact j91 (1 : Int32) (oUp (fun _ => 0) 0 (3 : Int32)) hrk _ _ X50 _ e50 N50 hzb f52 f53 V50
      · skip
        refine sifN X11 hx (hb hby at_63) rfl (feq hc63).1 (pc' := 66) ?_
        refine saload X11 hx (hb hby at_66) rfl rfl rfl (pc' := 68) ?_
        refine siload X11 hx (hb hby at_68) rfl rfl (pc' := 70) ?_
        refine siconst X11 hx (hb hby at_70) rfl rfl (z := 2) (pc' := 71) ?_
        obtain ⟨T54, h54, X54, e54, W54, V54, st54⟩ := V11.stI X11 hx hZ e11 (j := (0 : Int32)) (by decide) (g := (mkF m 71 #[.val (.int i0), .val (.int i1), .val (.int i2), .val (.int i3), .val (.int i4), .val (.ref a1), .val (.ref a11), .val (.int (0 : Int32)), .unset] [(.int (2 : Int32)), (.int (0 : Int32)), (.ref a11)])) rfl rfl (hb hby at_71)
        refine oOn st54 ?_
        have z55 : h11.size ≤ h54.size := Nat.le_of_eq W54.size.symm
        have N54 := Fr.snoc X54 N9 (by omega)
        show oGl p e below (T54.setTop (mkF m 72 #[.val (.int i0), .val (.int i1), .val (.int i2), .val (.int i3), .val (.int i4), .val (.ref a1), .val (.ref a11), .val (.int (0 : Int32)), .unset] [])) _
        refine siinc X54 hx (hb hby at_72) rfl rfl rfl (l' := #[.val (.int i0), .val (.int i1), .val (.int i2), .val (.int i3), .val (.int i4), .val (.ref a1), .val (.ref a11), .val (.int (1 : Int32)), .unset]) (pc' := 75) ?_
        refine siloadN X54 hx (hb hby at_75) rfl rfl (pc' := 76) ?_
        refine sbipush X54 hx (hb hby at_76) rfl rfl (z := 8) (pc' := 78) ?_
        refine siand X54 hx (hb hby at_78) rfl rfl (pc' := 79) ?_
        by_cases hc79 : (i0 &&& (8 : Int32)) = (0 : Int32)
        · skip
          refine sifY X54 hx (hb hby at_79) (by decide) (by decide) (teq hc79).1 (pc' := 91) ?_
          have hzb : n0 ≤ h54.size := by omega
          have hrk : oRows (oUp (fun _ => 0) 0 (2 : Int32)) (1 : Int32) := by
            refine ⟨by decide, by decide, fun j hj => ?_⟩
            have hj2 : (j : Int) < 1 := hj
            have hj3 : j = 0 := by omega
            rcases hj3 with rfl
            · exact ⟨by decide, by decide⟩
          have f56 := (((((((O0.ext E1).wr W3 (by omega)).wr W5 (by omega)).wr W7 (by omega)).wr W9 (by omega)).ext E11).wr W54 (by omega))
          have f57 := ((V9.ext E11).other W54 (oNe (by omega)))
          exact j91 (1 : Int32) (oUp (fun _ => 0) 0 (2 : Int32)) hrk _ _ X54 _ e54 N54 hzb f56 f57 V54
        · skip
          refine sifN X54 hx (hb hby at_79) rfl (feq hc79).1 (pc' := 82) ?_
          refine saload X54 hx (hb hby at_82) rfl rfl rfl (pc' := 84) ?_
          refine siload X54 hx (hb hby at_84) rfl rfl (pc' := 86) ?_
          refine siconst X54 hx (hb hby at_86) rfl rfl (z := 3) (pc' := 87) ?_
          obtain ⟨T58, h58, X58, e58, W58, V58, st58⟩ := V54.stI X54 hx hZ e54 (j := (1 : Int32)) (by decide) (g := (mkF m 87 #[.val (.int i0), .val (.int i1), .val (.int i2), .val (.int i3), .val (.int i4), .val (.ref a1), .val (.ref a11), .val (.int (1 : Int32)), .unset] [(.int (3 : Int32)), (.int (1 : Int32)), (.ref a11)])) rfl rfl (hb hby at_87)
          refine oOn st58 ?_
          have z59 : h54.size ≤ h58.size := Nat.le_of_eq W58.size.symm
          have N58 := Fr.snoc X58 N54 (by omega)
          show oGl p e below (T58.setTop (mkF m 88 #[.val (.int i0), .val (.int i1), .val (.int i2), .val (.int i3), .val (.int i4), .val (.ref a1), .val (.ref a11), .val (.int (1 : Int32)), .unset] [])) _
          refine siinc X58 hx (hb hby at_88) rfl rfl rfl (l' := #[.val (.int i0), .val (.int i1), .val (.int i2), .val (.int i3), .val (.int i4), .val (.ref a1), .val (.ref a11), .val (.int (2 : Int32)), .unset]) (pc' := 91) ?_
          have hzb : n0 ≤ h58.size := by omega
          have hrk : oRows (oUp (oUp (fun _ => 0) 0 (2 : Int32)) 1 (3 : Int32)) (2 : Int32) := by
            refine ⟨by decide, by decide, fun j hj => ?_⟩
            have hj2 : (j : Int) < 2 := hj
            have hj3 : j = 0 ∨ j = 1 := by omega
            rcases hj3 with rfl | rfl
            · exact ⟨by decide, by decide⟩
            · exact ⟨by decide, by decide⟩
          have f60 := ((((((((O0.ext E1).wr W3 (by omega)).wr W5 (by omega)).wr W7 (by omega)).wr W9 (by omega)).ext E11).wr W54 (by omega)).wr W58 (by omega))
          have f61 := (((V9.ext E11).other W54 (oNe (by omega))).other W58 (oNe (by omega)))
          exact j91 (2 : Int32) (oUp (oUp (fun _ => 0) 0 (2 : Int32)) 1 (3 : Int32)) hrk _ _ X58 _ e58 N58 hzb f60 f61 V58
    · skip
      refine sifN X11 hx (hb hby at_48) rfl (feq hc48).1 (pc' := 51) ?_
      refine saload X11 hx (hb hby at_51) rfl rfl rfl (pc' := 53) ?_
      refine siload X11 hx (hb hby at_53) rfl rfl (pc' := 55) ?_
      refine siconst X11 hx (hb hby at_55) rfl rfl (z := 1) (pc' := 56) ?_
      obtain ⟨T62, h62, X62, e62, W62, V62, st62⟩ := V11.stI X11 hx hZ e11 (j := (0 : Int32)) (by decide) (g := (mkF m 56 #[.val (.int i0), .val (.int i1), .val (.int i2), .val (.int i3), .val (.int i4), .val (.ref a1), .val (.ref a11), .val (.int (0 : Int32)), .unset] [(.int (1 : Int32)), (.int (0 : Int32)), (.ref a11)])) rfl rfl (hb hby at_56)
      refine oOn st62 ?_
      have z63 : h11.size ≤ h62.size := Nat.le_of_eq W62.size.symm
      have N62 := Fr.snoc X62 N9 (by omega)
      show oGl p e below (T62.setTop (mkF m 57 #[.val (.int i0), .val (.int i1), .val (.int i2), .val (.int i3), .val (.int i4), .val (.ref a1), .val (.ref a11), .val (.int (0 : Int32)), .unset] [])) _
      refine siinc X62 hx (hb hby at_57) rfl rfl rfl (l' := #[.val (.int i0), .val (.int i1), .val (.int i2), .val (.int i3), .val (.int i4), .val (.ref a1), .val (.ref a11), .val (.int (1 : Int32)), .unset]) (pc' := 60) ?_
      refine siloadN X62 hx (hb hby at_60) rfl rfl (pc' := 61) ?_
      refine siconst X62 hx (hb hby at_61) rfl rfl (z := 4) (pc' := 62) ?_
      refine siand X62 hx (hb hby at_62) rfl rfl (pc' := 63) ?_
      by_cases hc63 : (i0 &&& (4 : Int32)) = (0 : Int32)
      · skip
        refine sifY X62 hx (hb hby at_63) (by decide) (by decide) (teq hc63).1 (pc' := 75) ?_
        refine siloadN X62 hx (hb hby at_75) rfl rfl (pc' := 76) ?_
        refine sbipush X62 hx (hb hby at_76) rfl rfl (z := 8) (pc' := 78) ?_
        refine siand X62 hx (hb hby at_78) rfl rfl (pc' := 79) ?_
        by_cases hc79 : (i0 &&& (8 : Int32)) = (0 : Int32)
        · skip
          refine sifY X62 hx (hb hby at_79) (by decide) (by decide) (teq hc79).1 (pc' := 91) ?_
          have hzb : n0 ≤ h62.size := by omega
          have hrk : oRows (oUp (fun _ => 0) 0 (1 : Int32)) (1 : Int32) := by
            refine ⟨by decide, by decide, fun j hj => ?_⟩
            have hj2 : (j : Int) < 1 := hj
            have hj3 : j = 0 := by omega
            rcases hj3 with rfl
            · exact ⟨by decide, by decide⟩
          have f64 := (((((((O0.ext E1).wr W3 (by omega)).wr W5 (by omega)).wr W7 (by omega)).wr W9 (by omega)).ext E11).wr W62 (by omega))
          have f65 := ((V9.ext E11).other W62 (oNe (by omega)))
          exact j91 (1 : Int32) (oUp (fun _ => 0) 0 (1 : Int32)) hrk _ _ X62 _ e62 N62 hzb f64 f65 V62
        · skip
          refine sifN X62 hx (hb hby at_79) rfl (feq hc79).1 (pc' := 82) ?_
          refine saload X62 hx (hb hby at_82) rfl rfl rfl (pc' := 84) ?_
          refine siload X62 hx (hb hby at_84) rfl rfl (pc' := 86) ?_
          refine siconst X62 hx (hb hby at_86) rfl rfl (z := 3) (pc' := 87) ?_
          obtain ⟨T66, h66, X66, e66, W66, V66, st66⟩ := V62.stI X62 hx hZ e62 (j := (1 : Int32)) (by decide) (g := (mkF m 87 #[.val (.int i0), .val (.int i1), .val (.int i2), .val (.int i3), .val (.int i4), .val (.ref a1), .val (.ref a11), .val (.int (1 : Int32)), .unset] [(.int (3 : Int32)), (.int (1 : Int32)), (.ref a11)])) rfl rfl (hb hby at_87)
          refine oOn st66 ?_
          have z67 : h62.size ≤ h66.size := Nat.le_of_eq W66.size.symm
          have N66 := Fr.snoc X66 N62 (by omega)
          show oGl p e below (T66.setTop (mkF m 88 #[.val (.int i0), .val (.int i1), .val (.int i2), .val (.int i3), .val (.int i4), .val (.ref a1), .val (.ref a11), .val (.int (1 : Int32)), .unset] [])) _
          refine siinc X66 hx (hb hby at_88) rfl rfl rfl (l' := #[.val (.int i0), .val (.int i1), .val (.int i2), .val (.int i3), .val (.int i4), .val (.ref a1), .val (.ref a11), .val (.int (2 : Int32)), .unset]) (pc' := 91) ?_
          have hzb : n0 ≤ h66.size := by omega
          have hrk : oRows (oUp (oUp (fun _ => 0) 0 (1 : Int32)) 1 (3 : Int32)) (2 : Int32) := by
            refine ⟨by decide, by decide, fun j hj => ?_⟩
            have hj2 : (j : Int) < 2 := hj
            have hj3 : j = 0 ∨ j = 1 := by omega
            rcases hj3 with rfl | rfl
            · exact ⟨by decide, by decide⟩
            · exact ⟨by decide, by decide⟩
          have f68 := ((((((((O0.ext E1).wr W3 (by omega)).wr W5 (by omega)).wr W7 (by omega)).wr W9 (by omega)).ext E11).wr W62 (by omega)).wr W66 (by omega))
          have f69 := (((V9.ext E11).other W62 (oNe (by omega))).other W66 (oNe (by omega)))
          exact j91 (2 : Int32) (oUp (oUp (fun _ => 0) 0 (1 : Int32)) 1 (3 : Int32)) hrk _ _ X66 _ e66 N66 hzb f68 f69 V66
      · skip
        refine sifN X62 hx (hb hby at_63) rfl (feq hc63).1 (pc' := 66) ?_
        refine saload X62 hx (hb hby at_66) rfl rfl rfl (pc' := 68) ?_
        refine siload X62 hx (hb hby at_68) rfl rfl (pc' := 70) ?_
        refine siconst X62 hx (hb hby at_70) rfl rfl (z := 2) (pc' := 71) ?_
        obtain ⟨T70, h70, X70, e70, W70, V70, st70⟩ := V62.stI X62 hx hZ e62 (j := (1 : Int32)) (by decide) (g := (mkF m 71 #[.val (.int i0), .val (.int i1), .val (.int i2), .val (.int i3), .val (.int i4), .val (.ref a1), .val (.ref a11), .val (.int (1 : Int32)), .unset] [(.int (2 : Int32)), (.int (1 : Int32)), (.ref a11)])) rfl rfl (hb hby at_71)
        refine oOn st70 ?_
        have z71 : h62.size ≤ h70.size := Nat.le_of_eq W70.size.symm
        have N70 := Fr.snoc X70 N62 (by omega)
        show oGl p e below (T70.setTop (mkF m 72 #[.val (.int i0), .val (.int i1), .val (.int i2), .val (.int i3), .val (.int i4), .val (.ref a1), .val (.ref a11), .val (.int (1 : Int32)), .unset] [])) _
        refine siinc X70 hx (hb hby at_72) rfl rfl rfl (l' := #[.val (.int i0), .val (.int i1), .val (.int i2), .val (.int i3), .val (.int i4), .val (.ref a1), .val (.ref a11), .val (.int (2 : Int32)), .unset]) (pc' := 75) ?_
        refine siloadN X70 hx (hb hby at_75) rfl rfl (pc' := 76) ?_
        refine sbipush X70 hx (hb hby at_76) rfl rfl (z := 8) (pc' := 78) ?_
        refine siand X70 hx (hb hby at_78) rfl rfl (pc' := 79) ?_
        by_cases hc79 : (i0 &&& (8 : Int32)) = (0 : Int32)
        · skip
          refine sifY X70 hx (hb hby at_79) (by decide) (by decide) (teq hc79).1 (pc' := 91) ?_
          have hzb : n0 ≤ h70.size := by omega
          have hrk : oRows (oUp (oUp (fun _ => 0) 0 (1 : Int32)) 1 (2 : Int32)) (2 : Int32) := by
            refine ⟨by decide, by decide, fun j hj => ?_⟩
            have hj2 : (j : Int) < 2 := hj
            have hj3 : j = 0 ∨ j = 1 := by omega
            rcases hj3 with rfl | rfl
            · exact ⟨by decide, by decide⟩
            · exact ⟨by decide, by decide⟩
          have f72 := ((((((((O0.ext E1).wr W3 (by omega)).wr W5 (by omega)).wr W7 (by omega)).wr W9 (by omega)).ext E11).wr W62 (by omega)).wr W70 (by omega))
          have f73 := (((V9.ext E11).other W62 (oNe (by omega))).other W70 (oNe (by omega)))
          exact j91 (2 : Int32) (oUp (oUp (fun _ => 0) 0 (1 : Int32)) 1 (2 : Int32)) hrk _ _ X70 _ e70 N70 hzb f72 f73 V70
        · skip
          refine sifN X70 hx (hb hby at_79) rfl (feq hc79).1 (pc' := 82) ?_
          refine saload X70 hx (hb hby at_82) rfl rfl rfl (pc' := 84) ?_
          refine siload X70 hx (hb hby at_84) rfl rfl (pc' := 86) ?_
          refine siconst X70 hx (hb hby at_86) rfl rfl (z := 3) (pc' := 87) ?_
          obtain ⟨T74, h74, X74, e74, W74, V74, st74⟩ := V70.stI X70 hx hZ e70 (j := (2 : Int32)) (by decide) (g := (mkF m 87 #[.val (.int i0), .val (.int i1), .val (.int i2), .val (.int i3), .val (.int i4), .val (.ref a1), .val (.ref a11), .val (.int (2 : Int32)), .unset] [(.int (3 : Int32)), (.int (2 : Int32)), (.ref a11)])) rfl rfl (hb hby at_87)
          refine oOn st74 ?_
          have z75 : h70.size ≤ h74.size := Nat.le_of_eq W74.size.symm
          have N74 := Fr.snoc X74 N70 (by omega)
          show oGl p e below (T74.setTop (mkF m 88 #[.val (.int i0), .val (.int i1), .val (.int i2), .val (.int i3), .val (.int i4), .val (.ref a1), .val (.ref a11), .val (.int (2 : Int32)), .unset] [])) _
          refine siinc X74 hx (hb hby at_88) rfl rfl rfl (l' := #[.val (.int i0), .val (.int i1), .val (.int i2), .val (.int i3), .val (.int i4), .val (.ref a1), .val (.ref a11), .val (.int (3 : Int32)), .unset]) (pc' := 91) ?_
          have hzb : n0 ≤ h74.size := by omega
          have hrk : oRows (oUp (oUp (oUp (fun _ => 0) 0 (1 : Int32)) 1 (2 : Int32)) 2 (3 : Int32)) (3 : Int32) := by
            refine ⟨by decide, by decide, fun j hj => ?_⟩
            have hj2 : (j : Int) < 3 := hj
            have hj3 : j = 0 ∨ j = 1 ∨ j = 2 := by omega
            rcases hj3 with rfl | rfl | rfl
            · exact ⟨by decide, by decide⟩
            · exact ⟨by decide, by decide⟩
            · exact ⟨by decide, by decide⟩
          have f76 := (((((((((O0.ext E1).wr W3 (by omega)).wr W5 (by omega)).wr W7 (by omega)).wr W9 (by omega)).ext E11).wr W62 (by omega)).wr W70 (by omega)).wr W74 (by omega))
          have f77 := ((((V9.ext E11).other W62 (oNe (by omega))).other W70 (oNe (by omega))).other W74 (oNe (by omega)))
          exact j91 (3 : Int32) (oUp (oUp (oUp (fun _ => 0) 0 (1 : Int32)) 1 (2 : Int32)) 2 (3 : Int32)) hrk _ _ X74 _ e74 N74 hzb f76 f77 V74
  · skip
    refine sifN X11 hx (hb hby at_33) rfl (feq hc33).1 (pc' := 36) ?_
    refine saload X11 hx (hb hby at_36) rfl rfl rfl (pc' := 38) ?_
    refine siload X11 hx (hb hby at_38) rfl rfl (pc' := 40) ?_
    refine siconst X11 hx (hb hby at_40) rfl rfl (z := 0) (pc' := 41) ?_
    obtain ⟨T78, h78, X78, e78, W78, V78, st78⟩ := V11.stI X11 hx hZ e11 (j := (0 : Int32)) (by decide) (g := (mkF m 41 #[.val (.int i0), .val (.int i1), .val (.int i2), .val (.int i3), .val (.int i4), .val (.ref a1), .val (.ref a11), .val (.int (0 : Int32)), .unset] [(.int (0 : Int32)), (.int (0 : Int32)), (.ref a11)])) rfl rfl (hb hby at_41)
    refine oOn st78 ?_
    have z79 : h11.size ≤ h78.size := Nat.le_of_eq W78.size.symm
    have N78 := Fr.snoc X78 N9 (by omega)
    show oGl p e below (T78.setTop (mkF m 42 #[.val (.int i0), .val (.int i1), .val (.int i2), .val (.int i3), .val (.int i4), .val (.ref a1), .val (.ref a11), .val (.int (0 : Int32)), .unset] [])) _
    refine siinc X78 hx (hb hby at_42) rfl rfl rfl (l' := #[.val (.int i0), .val (.int i1), .val (.int i2), .val (.int i3), .val (.int i4), .val (.ref a1), .val (.ref a11), .val (.int (1 : Int32)), .unset]) (pc' := 45) ?_
    refine siloadN X78 hx (hb hby at_45) rfl rfl (pc' := 46) ?_
    refine siconst X78 hx (hb hby at_46) rfl rfl (z := 2) (pc' := 47) ?_
    refine siand X78 hx (hb hby at_47) rfl rfl (pc' := 48) ?_
    by_cases hc48 : (i0 &&& (2 : Int32)) = (0 : Int32)
    · skip
      refine sifY X78 hx (hb hby at_48) (by decide) (by decide) (teq hc48).1 (pc' := 60) ?_
      refine siloadN X78 hx (hb hby at_60) rfl rfl (pc' := 61) ?_
      refine siconst X78 hx (hb hby at_61) rfl rfl (z := 4) (pc' := 62) ?_
      refine siand X78 hx (hb hby at_62) rfl rfl (pc' := 63) ?_
      by_cases hc63 : (i0 &&& (4 : Int32)) = (0 : Int32)
      · skip
        refine sifY X78 hx (hb hby at_63) (by decide) (by decide) (teq hc63).1 (pc' := 75) ?_
        refine siloadN X78 hx (hb hby at_75) rfl rfl (pc' := 76) ?_
        refine sbipush X78 hx (hb hby at_76) rfl rfl (z := 8) (pc' := 78) ?_
        refine siand X78 hx (hb hby at_78) rfl rfl (pc' := 79) ?_
        by_cases hc79 : (i0 &&& (8 : Int32)) = (0 : Int32)
        · skip
          refine sifY X78 hx (hb hby at_79) (by decide) (by decide) (teq hc79).1 (pc' := 91) ?_
          have hzb : n0 ≤ h78.size := by omega
          have hrk : oRows (oUp (fun _ => 0) 0 (0 : Int32)) (1 : Int32) := by
            refine ⟨by decide, by decide, fun j hj => ?_⟩
            have hj2 : (j : Int) < 1 := hj
            have hj3 : j = 0 := by omega
            rcases hj3 with rfl
            · exact ⟨by decide, by decide⟩
          have f80 := (((((((O0.ext E1).wr W3 (by omega)).wr W5 (by omega)).wr W7 (by omega)).wr W9 (by omega)).ext E11).wr W78 (by omega))
          have f81 := ((V9.ext E11).other W78 (oNe (by omega)))
          exact j91 (1 : Int32) (oUp (fun _ => 0) 0 (0 : Int32)) hrk _ _ X78 _ e78 N78 hzb f80 f81 V78
        · skip
          refine sifN X78 hx (hb hby at_79) rfl (feq hc79).1 (pc' := 82) ?_
          refine saload X78 hx (hb hby at_82) rfl rfl rfl (pc' := 84) ?_
          refine siload X78 hx (hb hby at_84) rfl rfl (pc' := 86) ?_
          refine siconst X78 hx (hb hby at_86) rfl rfl (z := 3) (pc' := 87) ?_
          obtain ⟨T82, h82, X82, e82, W82, V82, st82⟩ := V78.stI X78 hx hZ e78 (j := (1 : Int32)) (by decide) (g := (mkF m 87 #[.val (.int i0), .val (.int i1), .val (.int i2), .val (.int i3), .val (.int i4), .val (.ref a1), .val (.ref a11), .val (.int (1 : Int32)), .unset] [(.int (3 : Int32)), (.int (1 : Int32)), (.ref a11)])) rfl rfl (hb hby at_87)
          refine oOn st82 ?_
          have z83 : h78.size ≤ h82.size := Nat.le_of_eq W82.size.symm
          have N82 := Fr.snoc X82 N78 (by omega)
          show oGl p e below (T82.setTop (mkF m 88 #[.val (.int i0), .val (.int i1), .val (.int i2), .val (.int i3), .val (.int i4), .val (.ref a1), .val (.ref a11), .val (.int (1 : Int32)), .unset] [])) _
          refine siinc X82 hx (hb hby at_88) rfl rfl rfl (l' := #[.val (.int i0), .val (.int i1), .val (.int i2), .val (.int i3), .val (.int i4), .val (.ref a1), .val (.ref a11), .val (.int (2 : Int32)), .unset]) (pc' := 91) ?_
          have hzb : n0 ≤ h82.size := by omega
          have hrk : oRows (oUp (oUp (fun _ => 0) 0 (0 : Int32)) 1 (3 : Int32)) (2 : Int32) := by
            refine ⟨by decide, by decide, fun j hj => ?_⟩
            have hj2 : (j : Int) < 2 := hj
            have hj3 : j = 0 ∨ j = 1 := by omega
            rcases hj3 with rfl | rfl
            · exact ⟨by decide, by decide⟩
            · exact ⟨by decide, by decide⟩
          have f84 := ((((((((O0.ext E1).wr W3 (by omega)).wr W5 (by omega)).wr W7 (by omega)).wr W9 (by omega)).ext E11).wr W78 (by omega)).wr W82 (by omega))
          have f85 := (((V9.ext E11).other W78 (oNe (by omega))).other W82 (oNe (by omega)))
          exact j91 (2 : Int32) (oUp (oUp (fun _ => 0) 0 (0 : Int32)) 1 (3 : Int32)) hrk _ _ X82 _ e82 N82 hzb f84 f85 V82
      · skip
        refine sifN X78 hx (hb hby at_63) rfl (feq hc63).1 (pc' := 66) ?_
        refine saload X78 hx (hb hby at_66) rfl rfl rfl (pc' := 68) ?_
        refine siload X78 hx (hb hby at_68) rfl rfl (pc' := 70) ?_
        refine siconst X78 hx (hb hby at_70) rfl rfl (z := 2) (pc' := 71) ?_
        obtain ⟨T86, h86, X86, e86, W86, V86, st86⟩ := V78.stI X78 hx hZ e78 (j := (1 : Int32)) (by decide) (g := (mkF m 71 #[.val (.int i0), .val (.int i1), .val (.int i2), .val (.int i3), .val (.int i4), .val (.ref a1), .val (.ref a11), .val (.int (1 : Int32)), .unset] [(.int (2 : Int32)), (.int (1 : Int32)), (.ref a11)])) rfl rfl (hb hby at_71)
        refine oOn st86 ?_
        have z87 : h78.size ≤ h86.size := Nat.le_of_eq W86.size.symm
        have N86 := Fr.snoc X86 N78 (by omega)
        show oGl p e below (T86.setTop (mkF m 72 #[.val (.int i0), .val (.int i1), .val (.int i2), .val (.int i3), .val (.int i4), .val (.ref a1), .val (.ref a11), .val (.int (1 : Int32)), .unset] [])) _
        refine siinc X86 hx (hb hby at_72) rfl rfl rfl (l' := #[.val (.int i0), .val (.int i1), .val (.int i2), .val (.int i3), .val (.int i4), .val (.ref a1), .val (.ref a11), .val (.int (2 : Int32)), .unset]) (pc' := 75) ?_
        refine siloadN X86 hx (hb hby at_75) rfl rfl (pc' := 76) ?_
        refine sbipush X86 hx (hb hby at_76) rfl rfl (z := 8) (pc' := 78) ?_
        refine siand X86 hx (hb hby at_78) rfl rfl (pc' := 79) ?_
        by_cases hc79 : (i0 &&& (8 : Int32)) = (0 : Int32)
        · skip
          refine sifY X86 hx (hb hby at_79) (by decide) (by decide) (teq hc79).1 (pc' := 91) ?_
          have hzb : n0 ≤ h86.size := by omega
          have hrk : oRows (oUp (oUp (fun _ => 0) 0 (0 : Int32)) 1 (2 : Int32)) (2 : Int32) := by
            refine ⟨by decide, by decide, fun j hj => ?_⟩
            have hj2 : (j : Int) < 2 := hj
            have hj3 : j = 0 ∨ j = 1 := by omega
            rcases hj3 with rfl | rfl
            · exact ⟨by decide, by decide⟩
            · exact ⟨by decide, by decide⟩
          have f88 := ((((((((O0.ext E1).wr W3 (by omega)).wr W5 (by omega)).wr W7 (by omega)).wr W9 (by omega)).ext E11).wr W78 (by omega)).wr W86 (by omega))
          have f89 := (((V9.ext E11).other W78 (oNe (by omega))).other W86 (oNe (by omega)))
          exact j91 (2 : Int32) (oUp (oUp (fun _ => 0) 0 (0 : Int32)) 1 (2 : Int32)) hrk _ _ X86 _ e86 N86 hzb f88 f89 V86
        · skip
          refine sifN X86 hx (hb hby at_79) rfl (feq hc79).1 (pc' := 82) ?_
          refine saload X86 hx (hb hby at_82) rfl rfl rfl (pc' := 84) ?_
          refine siload X86 hx (hb hby at_84) rfl rfl (pc' := 86) ?_
          refine siconst X86 hx (hb hby at_86) rfl rfl (z := 3) (pc' := 87) ?_
          obtain ⟨T90, h90, X90, e90, W90, V90, st90⟩ := V86.stI X86 hx hZ e86 (j := (2 : Int32)) (by decide) (g := (mkF m 87 #[.val (.int i0), .val (.int i1), .val (.int i2), .val (.int i3), .val (.int i4), .val (.ref a1), .val (.ref a11), .val (.int (2 : Int32)), .unset] [(.int (3 : Int32)), (.int (2 : Int32)), (.ref a11)])) rfl rfl (hb hby at_87)
          refine oOn st90 ?_
          have z91 : h86.size ≤ h90.size := Nat.le_of_eq W90.size.symm
          have N90 := Fr.snoc X90 N86 (by omega)
          show oGl p e below (T90.setTop (mkF m 88 #[.val (.int i0), .val (.int i1), .val (.int i2), .val (.int i3), .val (.int i4), .val (.ref a1), .val (.ref a11), .val (.int (2 : Int32)), .unset] [])) _
          refine siinc X90 hx (hb hby at_88) rfl rfl rfl (l' := #[.val (.int i0), .val (.int i1), .val (.int i2), .val (.int i3), .val (.int i4), .val (.ref a1), .val (.ref a11), .val (.int (3 : Int32)), .unset]) (pc' := 91) ?_
          have hzb : n0 ≤ h90.size := by omega
          have hrk : oRows (oUp (oUp (oUp (fun _ => 0) 0 (0 : Int32)) 1 (2 : Int32)) 2 (3 : Int32)) (3 : Int32) := by
            refine ⟨by decide, by decide, fun j hj => ?_⟩
            have hj2 : (j : Int) < 3 := hj
            have hj3 : j = 0 ∨ j = 1 ∨ j = 2 := by omega
            rcases hj3 with rfl | rfl | rfl
            · exact ⟨by decide, by decide⟩
            · exact ⟨by decide, by decide⟩
            · exact ⟨by decide, by decide⟩
          have f92 := (((((((((O0.ext E1).wr W3 (by omega)).wr W5 (by omega)).wr W7 (by omega)).wr W9 (by omega)).ext E11).wr W78 (by omega)).wr W86 (by omega)).wr W90 (by omega))
          have f93 := ((((V9.ext E11).other W78 (oNe (by omega))).other W86 (oNe (by omega))).other W90 (oNe (by omega)))
          exact j91 (3 : Int32) (oUp (oUp (oUp (fun _ => 0) 0 (0 : Int32)) 1 (2 : Int32)) 2 (3 : Int32)) hrk _ _ X90 _ e90 N90 hzb f92 f93 V90
    · skip
      refine sifN X78 hx (hb hby at_48) rfl (feq hc48).1 (pc' := 51) ?_
      refine saload X78 hx (hb hby at_51) rfl rfl rfl (pc' := 53) ?_
      refine siload X78 hx (hb hby at_53) rfl rfl (pc' := 55) ?_
      refine siconst X78 hx (hb hby at_55) rfl rfl (z := 1) (pc' := 56) ?_
      obtain ⟨T94, h94, X94, e94, W94, V94, st94⟩ := V78.stI X78 hx hZ e78 (j := (1 : Int32)) (by decide) (g := (mkF m 56 #[.val (.int i0), .val (.int i1), .val (.int i2), .val (.int i3), .val (.int i4), .val (.ref a1), .val (.ref a11), .val (.int (1 : Int32)), .unset] [(.int (1 : Int32)), (.int (1 : Int32)), (.ref a11)])) rfl rfl (hb hby at_56)
      refine oOn st94 ?_
      have z95 : h78.size ≤ h94.size := Nat.le_of_eq W94.size.symm
      have N94 := Fr.snoc X94 N78 (by omega)
      show oGl p e below (T94.setTop (mkF m 57 #[.val (.int i0), .val (.int i1), .val (.int i2), .val (.int i3), .val (.int i4), .val (.ref a1), .val (.ref a11), .val (.int (1 : Int32)), .unset] [])) _
      refine siinc X94 hx (hb hby at_57) rfl rfl rfl (l' := #[.val (.int i0), .val (.int i1), .val (.int i2), .val (.int i3), .val (.int i4), .val (.ref a1), .val (.ref a11), .val (.int (2 : Int32)), .unset]) (pc' := 60) ?_
      refine siloadN X94 hx (hb hby at_60) rfl rfl (pc' := 61) ?_
      refine siconst X94 hx (hb hby at_61) rfl rfl (z := 4) (pc' := 62) ?_
      refine siand X94 hx (hb hby at_62) rfl rfl (pc' := 63) ?_
      by_cases hc63 : (i0 &&& (4 : Int32)) = (0 : Int32)
      · skip
        refine sifY X94 hx (hb hby at_63) (by decide) (by decide) (teq hc63).1 (pc' := 75) ?_
        refine siloadN X94 hx (hb hby at_75) rfl rfl (pc' := 76) ?_
        refine sbipush X94 hx (hb hby at_76) rfl rfl (z := 8) (pc' := 78) ?_
        refine siand X94 hx (hb hby at_78) rfl rfl (pc' := 79) ?_
        by_cases hc79 : (i0 &&& (8 : Int32)) = (0 : Int32)
        · skip
          refine sifY X94 hx (hb hby at_79) (by decide) (by decide) (teq hc79).1 (pc' := 91) ?_
          have hzb : n0 ≤ h94.size := by omega
          have hrk : oRows (oUp (oUp (fun _ => 0) 0 (0 : Int32)) 1 (1 : Int32)) (2 : Int32) := by
            refine ⟨by decide, by decide, fun j hj => ?_⟩
            have hj2 : (j : Int) < 2 := hj
            have hj3 : j = 0 ∨ j = 1 := by omega
            rcases hj3 with rfl | rfl
            · exact ⟨by decide, by decide⟩
            · exact ⟨by decide, by decide⟩
          have f96 := ((((((((O0.ext E1).wr W3 (by omega)).wr W5 (by omega)).wr W7 (by omega)).wr W9 (by omega)).ext E11).wr W78 (by omega)).wr W94 (by omega))
          have f97 := (((V9.ext E11).other W78 (oNe (by omega))).other W94 (oNe (by omega)))
          exact j91 (2 : Int32) (oUp (oUp (fun _ => 0) 0 (0 : Int32)) 1 (1 : Int32)) hrk _ _ X94 _ e94 N94 hzb f96 f97 V94
        · skip
          refine sifN X94 hx (hb hby at_79) rfl (feq hc79).1 (pc' := 82) ?_
          refine saload X94 hx (hb hby at_82) rfl rfl rfl (pc' := 84) ?_
          refine siload X94 hx (hb hby at_84) rfl rfl (pc' := 86) ?_
          refine siconst X94 hx (hb hby at_86) rfl rfl (z := 3) (pc' := 87) ?_
          obtain ⟨T98, h98, X98, e98, W98, V98, st98⟩ := V94.stI X94 hx hZ e94 (j := (2 : Int32)) (by decide) (g := (mkF m 87 #[.val (.int i0), .val (.int i1), .val (.int i2), .val (.int i3), .val (.int i4), .val (.ref a1), .val (.ref a11), .val (.int (2 : Int32)), .unset] [(.int (3 : Int32)), (.int (2 : Int32)), (.ref a11)])) rfl rfl (hb hby at_87)
          refine oOn st98 ?_
          have z99 : h94.size ≤ h98.size := Nat.le_of_eq W98.size.symm
          have N98 := Fr.snoc X98 N94 (by omega)
          show oGl p e below (T98.setTop (mkF m 88 #[.val (.int i0), .val (.int i1), .val (.int i2), .val (.int i3), .val (.int i4), .val (.ref a1), .val (.ref a11), .val (.int (2 : Int32)), .unset] [])) _
          refine siinc X98 hx (hb hby at_88) rfl rfl rfl (l' := #[.val (.int i0), .val (.int i1), .val (.int i2), .val (.int i3), .val (.int i4), .val (.ref a1), .val (.ref a11), .val (.int (3 : Int32)), .unset]) (pc' := 91) ?_
          have hzb : n0 ≤ h98.size := by omega
          have hrk : oRows (oUp (oUp (oUp (fun _ => 0) 0 (0 : Int32)) 1 (1 : Int32)) 2 (3 : Int32)) (3 : Int32) := by
            refine ⟨by decide, by decide, fun j hj => ?_⟩
            have hj2 : (j : Int) < 3 := hj
            have hj3 : j = 0 ∨ j = 1 ∨ j = 2 := by omega
            rcases hj3 with rfl | rfl | rfl
            · exact ⟨by decide, by decide⟩
            · exact ⟨by decide, by decide⟩
            · exact ⟨by decide, by decide⟩
          have f100 := (((((((((O0.ext E1).wr W3 (by omega)).wr W5 (by omega)).wr W7 (by omega)).wr W9 (by omega)).ext E11).wr W78 (by omega)).wr W94 (by omega)).wr W98 (by omega))
          have f101 := ((((V9.ext E11).other W78 (oNe (by omega))).other W94 (oNe (by omega))).other W98 (oNe (by omega)))
          exact j91 (3 : Int32) (oUp (oUp (oUp (fun _ => 0) 0 (0 : Int32)) 1 (1 : Int32)) 2 (3 : Int32)) hrk _ _ X98 _ e98 N98 hzb f100 f101 V98
      · skip
        refine sifN X94 hx (hb hby at_63) rfl (feq hc63).1 (pc' := 66) ?_
        refine saload X94 hx (hb hby at_66) rfl rfl rfl (pc' := 68) ?_
        refine siload X94 hx (hb hby at_68) rfl rfl (pc' := 70) ?_
        refine siconst X94 hx (hb hby at_70) rfl rfl (z := 2) (pc' := 71) ?_
        obtain ⟨T102, h102, X102, e102, W102, V102, st102⟩ := V94.stI X94 hx hZ e94 (j := (2 : Int32)) (by decide) (g := (mkF m 71 #[.val (.int i0), .val (.int i1), .val (.int i2), .val (.int i3), .val (.int i4), .val (.ref a1), .val (.ref a11), .val (.int (2 : Int32)), .unset] [(.int (2 : Int32)), (.int (2 : Int32)), (.ref a11)])) rfl rfl (hb hby at_71)
        refine oOn st102 ?_
        have z103 : h94.size ≤ h102.size := Nat.le_of_eq W102.size.symm
        have N102 := Fr.snoc X102 N94 (by omega)
        show oGl p e below (T102.setTop (mkF m 72 #[.val (.int i0), .val (.int i1), .val (.int i2), .val (.int i3), .val (.int i4), .val (.ref a1), .val (.ref a11), .val (.int (2 : Int32)), .unset] [])) _
        refine siinc X102 hx (hb hby at_72) rfl rfl rfl (l' := #[.val (.int i0), .val (.int i1), .val (.int i2), .val (.int i3), .val (.int i4), .val (.ref a1), .val (.ref a11), .val (.int (3 : Int32)), .unset]) (pc' := 75) ?_
        refine siloadN X102 hx (hb hby at_75) rfl rfl (pc' := 76) ?_
        refine sbipush X102 hx (hb hby at_76) rfl rfl (z := 8) (pc' := 78) ?_
        refine siand X102 hx (hb hby at_78) rfl rfl (pc' := 79) ?_
        by_cases hc79 : (i0 &&& (8 : Int32)) = (0 : Int32)
        · skip
          refine sifY X102 hx (hb hby at_79) (by decide) (by decide) (teq hc79).1 (pc' := 91) ?_
          have hzb : n0 ≤ h102.size := by omega
          have hrk : oRows (oUp (oUp (oUp (fun _ => 0) 0 (0 : Int32)) 1 (1 : Int32)) 2 (2 : Int32)) (3 : Int32) := by
            refine ⟨by decide, by decide, fun j hj => ?_⟩
            have hj2 : (j : Int) < 3 := hj
            have hj3 : j = 0 ∨ j = 1 ∨ j = 2 := by omega
            rcases hj3 with rfl | rfl | rfl
            · exact ⟨by decide, by decide⟩
            · exact ⟨by decide, by decide⟩
            · exact ⟨by decide, by decide⟩
          have f104 := (((((((((O0.ext E1).wr W3 (by omega)).wr W5 (by omega)).wr W7 (by omega)).wr W9 (by omega)).ext E11).wr W78 (by omega)).wr W94 (by omega)).wr W102 (by omega))
          have f105 := ((((V9.ext E11).other W78 (oNe (by omega))).other W94 (oNe (by omega))).other W102 (oNe (by omega)))
          exact j91 (3 : Int32) (oUp (oUp (oUp (fun _ => 0) 0 (0 : Int32)) 1 (1 : Int32)) 2 (2 : Int32)) hrk _ _ X102 _ e102 N102 hzb f104 f105 V102
        · skip
          refine sifN X102 hx (hb hby at_79) rfl (feq hc79).1 (pc' := 82) ?_
          refine saload X102 hx (hb hby at_82) rfl rfl rfl (pc' := 84) ?_
          refine siload X102 hx (hb hby at_84) rfl rfl (pc' := 86) ?_
          refine siconst X102 hx (hb hby at_86) rfl rfl (z := 3) (pc' := 87) ?_
          obtain ⟨T106, h106, X106, e106, W106, V106, st106⟩ := V102.stI X102 hx hZ e102 (j := (3 : Int32)) (by decide) (g := (mkF m 87 #[.val (.int i0), .val (.int i1), .val (.int i2), .val (.int i3), .val (.int i4), .val (.ref a1), .val (.ref a11), .val (.int (3 : Int32)), .unset] [(.int (3 : Int32)), (.int (3 : Int32)), (.ref a11)])) rfl rfl (hb hby at_87)
          refine oOn st106 ?_
          have z107 : h102.size ≤ h106.size := Nat.le_of_eq W106.size.symm
          have N106 := Fr.snoc X106 N102 (by omega)
          show oGl p e below (T106.setTop (mkF m 88 #[.val (.int i0), .val (.int i1), .val (.int i2), .val (.int i3), .val (.int i4), .val (.ref a1), .val (.ref a11), .val (.int (3 : Int32)), .unset] [])) _
          refine siinc X106 hx (hb hby at_88) rfl rfl rfl (l' := #[.val (.int i0), .val (.int i1), .val (.int i2), .val (.int i3), .val (.int i4), .val (.ref a1), .val (.ref a11), .val (.int (4 : Int32)), .unset]) (pc' := 91) ?_
          have hzb : n0 ≤ h106.size := by omega
          have hrk : oRows (oUp (oUp (oUp (oUp (fun _ => 0) 0 (0 : Int32)) 1 (1 : Int32)) 2 (2 : Int32)) 3 (3 : Int32)) (4 : Int32) := by
            refine ⟨by decide, by decide, fun j hj => ?_⟩
            have hj2 : (j : Int) < 4 := hj
            have hj3 : j = 0 ∨ j = 1 ∨ j = 2 ∨ j = 3 := by omega
            rcases hj3 with rfl | rfl | rfl | rfl
            · exact ⟨by decide, by decide⟩
            · exact ⟨by decide, by decide⟩
            · exact ⟨by decide, by decide⟩
            · exact ⟨by decide, by decide⟩
          have f108 := ((((((((((O0.ext E1).wr W3 (by omega)).wr W5 (by omega)).wr W7 (by omega)).wr W9 (by omega)).ext E11).wr W78 (by omega)).wr W94 (by omega)).wr W102 (by omega)).wr W106 (by omega))
          have f109 := (((((V9.ext E11).other W78 (oNe (by omega))).other W94 (oNe (by omega))).other W102 (oNe (by omega))).other W106 (oNe (by omega)))
          exact j91 (4 : Int32) (oUp (oUp (oUp (oUp (fun _ => 0) 0 (0 : Int32)) 1 (1 : Int32)) 2 (2 : Int32)) 3 (3 : Int32)) hrk _ _ X106 _ e106 N106 hzb f108 f109 V106
set_option maxRecDepth 65536 in
set_option maxHeartbeats 40000000 in
theorem comes_1 {Post : Tables → Env → Array Value → State → Outcome → State → Prop} (hpost : ∀ tb e args s v u, (limb_1_1.after args s (.returned v) u = true ∧ limb_1_2.after args s (.returned v) u = true ∧ True) → FrameEnd s (.returned v) u (Jvm.fieldLocs frame_1_writes args s ++ Jvm.arrayLocs frame_1_arrays args s ++ Jvm.staticLocs frame_1_statics s) 24 128 → Post tb e args s (.returned v) u) :
    ArmFor flags0 classFile x code maxLocals ret World_1 tables_1 room_1 Calls_1 rest_1 Pre_1 Post := by
  intro l hfl _ _ p e ha hc hk s m args below hf hA hF happ hP
  obtain ⟨hcalls, hrest, hpre⟩ := hP
  obtain ⟨-, -, -, hnamed, -, -, -, hat⟩ := (Spec.applies_iff hf).mp happ
  obtain ⟨hg, hn⟩ := oAnd (show (Jvm.Cond.and given_1 narrow_1).before args s = true from hpre)
  obtain ⟨gc, hg0⟩ := oAnd hg
  obtain ⟨ga0, hg1⟩ := oAnd hg0
  obtain ⟨ga1, hg2⟩ := oAnd hg1
  obtain ⟨ga2, hg3⟩ := oAnd hg2
  obtain ⟨ga3, hg4⟩ := oAnd hg3
  have ga4 := hg4
  obtain ⟨w0, w1, w2, w3, w4, rfl⟩ : ∃ w0 w1 w2 w3 w4 : Value, args = #[w0, w1, w2, w3, w4] := by
    have hs : args.size = 5 := by simpa [Cond.before, Cond.holds, Cond.value] using gc
    obtain ⟨L⟩ := args
    match L, hs with
    | [w0, w1, w2, w3, w4], _ => exact ⟨w0, w1, w2, w3, w4, rfl⟩
  obtain ⟨i0, rfl⟩ := oArgI ga0 rfl
  obtain ⟨i1, rfl⟩ := oArgI ga1 rfl
  obtain ⟨i2, rfl⟩ := oArgI ga2 rfl
  obtain ⟨i3, rfl⟩ := oArgI ga3 rfl
  obtain ⟨i4, rfl⟩ := oArgI ga4 rfl
  have hw := fun d (hd : d ∈ tables_1) => atoms_spec (ws := Jvm.Cond.code x code maxLocals ret :: tables_1) hat d (List.mem_cons_of_mem _ hd)
  have hfit : Fit s := fun {y c} hc i hi => by
    obtain ⟨ha, rfl⟩ := Array.getElem?_eq_some_iff.mp hc
    have q := List.all_eq_true.mp ((Array.all_eq_true_iff_forall_mem.mp hF) _ (Array.getElem_mem ha)) i (List.mem_range.mpr hi)
    simpa [Array.getElem?_eq_getElem hi] using q
  obtain ⟨hsets, -⟩ := atoms_of _ (rest_1_c_eq ▸ (show rest_1_c.before _ s = true from hrest))
  obtain ⟨ca, cC, cell, kC, evc, -⟩ := Cond.exactly_spec (hsets _ (List.mem_of_getElem? (i := 5) rfl))
  have SC := Sta.start evc (Or.inr ⟨hw _ (List.mem_of_getElem? (i := 70) rfl), hsets _ (List.mem_of_getElem? (i := 2) rfl)⟩)
  obtain ⟨cl, AC⟩ := Arr.start evc (Cond.before_iff.mp (hsets _ (List.mem_of_getElem? (i := 4) rfl)))
  have CN := own_len evc AC (hsets _ (List.mem_of_getElem? (i := 6) rfl))
  have SH := Sta.start (oEqI (hsets _ (List.mem_of_getElem? (i := 3) rfl))) (Or.inl (hsets _ (List.mem_of_getElem? (i := 1) rfl)))
  have CA : ∀ j : Int32, 0 ≤ j.toInt ∧ j.toInt < (256 : Nat) → ∃ o, cl.slots[j.toNatClampNeg]? = some (.ref o) ∧ Exa s s.heap o "java/lang/Integer" ∧ Fld s s.heap o "java/lang/Integer" "value" "I" (.int (j - 128)) := fun j hj => by
    obtain ⟨o, h1, h2, h3, h4⟩ := own_all evc AC CN (hsets _ (List.mem_of_getElem? (i := 7) rfl)) j hj
    exact ⟨o, h1, h2, own_fld h3 h4 (own_ix hj.1)⟩
  obtain ⟨n, o, h1, h2, h3, _, L, rfl, ⟨rfl, N⟩, hq⟩ := rmL l s _ hw tables_1 i0 i1 i2 i3 i4 ca cl s.heap s.heap.size (Nat.le_refl _) (Old.start s) SH SC AC CN CA p e ha hc hk s m _ below hf ((Spec.applies_iff_loose hf).mp happ).1 ⟨rfl, State.Warmed39.refl s, rfl⟩ trivial
  refine ⟨n, _, h1, h2, h3, hpost _ _ _ _ _ _ ⟨Cond.after_iff.mpr rfl, Cond.after_iff.mpr (eq_i res_at (Term.int_eval (1)) rfl), trivial⟩ ⟨hq.1, hq.2.1, (hq.2.2.sift fun y hy => Or.inr (N y hy)).mono (by decide) (by decide)⟩⟩
theorem main_1_1 : Claimed_1_1 := comes_1 fun _ _ _ _ _ _ h hF => ⟨h.1, hF⟩
theorem main_1_2 : Claimed_1_2 := comes_1 fun _ _ _ _ _ _ h hF => ⟨h.2.1, hF⟩
end Jvm.Pilot.@@N@@
namespace Jvm.Pilot.@@N@@
open Jvm Jvm.ClassFile Sem Op Lib Jvm.Free Jvm.Stand Jvm.Pilot.@@N@@.Jvm.D
/-! MADE BY PROGRAM (witnessworld.py) out of the Statement's table words and the real class files: 20 classes; the members and pool entries that the words name. The judged class is class 1, her method 1. -/
namespace start1
open Jvm.ClassFile
def u (s : String) : CpInfo := .utf8 (stringToUtf16 s)
/-- a pool by its gaps: so many unusable entries, then the entry; so many at the end -/
def gap : Nat → List CpInfo → List CpInfo
  | 0, r => r
  | n + 1, r => .unusable :: gap n r
def poolList (es : List (Nat × CpInfo)) (last : Nat) : List CpInfo := es.foldr (fun e r => gap e.1 (e.2 :: r)) (gap last [])
def pool (es : List (Nat × CpInfo)) (last : Nat) : Array CpInfo := ⟨poolList es last⟩
def fileOf (pool : Array CpInfo) (this : Nat) (attrs : Array Attribute := #[]) (ms : Array MethodInfo := #[]) (fl : Nat := 33) (sup : Nat := 0) (ifs : Array Nat := #[]) (fds : Array FieldInfo := #[]) : ClassFile where
  minorVersion := 0
  majorVersion := 65
  constantPool := pool
  accessFlags := fl
  thisClass := this
  superClass := sup
  interfaces := ifs
  fields := fds
  methods := ms
  attributes := attrs
def plain (name : String) (sup : Option ClassId) : Class where
  name := name
  kind := .ordinary
  loader := none
  accessFlags := 33
  super := sup
  interfaces := #[]
  cf := none
  fields := #[]
  methods := #[]
  instanceTypes := #[]
  staticTypes := #[]
  resolved := #[]
  callSites := []
  init := .initialized
  statics := none
  mirror := none

def pool0 : Array CpInfo := pool [(5, u "<init>"), (0, u "()V"), (1, .class_ 10), (1, u "java/lang/Object")] 113

def k0c0 : Code := { maxStack := 0, maxLocals := 1, code := object_method_1_code, exceptionTable := #[], attributes := #[] }
def k0m0 : Method := { name := "<init>", desc := "()V", sig := { parameters := [], returnType := none }, accessFlags := 1, code := some k0c0 }
/-- java/lang/Object -/
def k0 : Class := { plain "java/lang/Object" none with
  accessFlags := 33
  interfaces := #[]
  cf := some (fileOf pool0 8 #[] #[{ accessFlags := 1, nameIndex := 5, descriptorIndex := 6, attributes := #[] }] 33 0 #[] #[])
  fields := #[]
  methods := #[k0m0]
  instanceTypes := #[]
  staticTypes := #[]
  resolved := Array.replicate 124 none
  statics := none }

def pool1 : Array CpInfo := pool [(2, .class_ 4), (1, u "java/lang/Object"), (0, u "<init>"), (0, u "()V"), (0, .class_ 8), (0, u "com/example/moraine/moraine/formats/ColumnVector$Ints"), (0, .methodref 7 10), (0, .nameAndType 5 11), (0, u "(I)V"), (0, .methodref 13 14), (0, .class_ 15), (0, .nameAndType 16 17), (0, u "com/example/moraine/moraine/formats/NullableKeepPinLaw"), (0, u "fill"), (0, u "(Lcom/example/moraine/moraine/formats/ColumnVector$Ints;III)V"), (0, .methodref 7 19), (0, .nameAndType 20 21), (0, u "keep"), (0, u "([II)V"), (0, .methodref 13 23), (0, .nameAndType 24 25), (0, u "check"), (0, u "(Lcom/example/moraine/moraine/formats/ColumnVector$Ints;II[II[I)Z"), (0, .methodref 7 27), (0, .nameAndType 28 11), (0, u "setNull"), (0, .methodref 7 30), (0, .nameAndType 31 32), (0, u "set"), (0, u "(II)V"), (0, .methodref 7 34), (0, .nameAndType 35 36), (0, u "get"), (0, u "(I)Ljava/lang/Object;"), (0, .class_ 38), (0, u "java/lang/Integer"), (0, .methodref 37 40), (0, .nameAndType 41 42), (0, u "intValue"), (0, u "()I"), (2, u "law"), (0, u "(IIIII)Z")] 9

def k1m0 : Method := { name := "<init>", desc := "()V", sig := { parameters := [], returnType := none }, accessFlags := 1, code := none }
def k1c1 : Code := { maxStack := 6, maxLocals := 9, code := code, exceptionTable := #[], attributes := #[] }
def k1m1 : Method := { name := "law", desc := "(IIIII)Z", sig := { parameters := [.int, .int, .int, .int, .int], returnType := some .boolean }, accessFlags := 9, code := some k1c1 }
def k1c2 : Code := { maxStack := 3, maxLocals := 4, code := method_3_code, exceptionTable := #[], attributes := #[] }
def k1m2 : Method := { name := "fill", desc := "(Lcom/example/moraine/moraine/formats/ColumnVector$Ints;III)V", sig := { parameters := [(.object "com/example/moraine/moraine/formats/ColumnVector$Ints"), .int, .int, .int], returnType := none }, accessFlags := 10, code := some k1c2 }
def k1c3 : Code := { maxStack := 3, maxLocals := 9, code := method_4_code, exceptionTable := #[], attributes := #[] }
def k1m3 : Method := { name := "check", desc := "(Lcom/example/moraine/moraine/formats/ColumnVector$Ints;II[II[I)Z", sig := { parameters := [(.object "com/example/moraine/moraine/formats/ColumnVector$Ints"), .int, .int, (.array .int), .int, (.array .int)], returnType := some .boolean }, accessFlags := 10, code := some k1c3 }
/-- com/example/moraine/moraine/formats/NullableKeepPinLaw -/
def k1 : Class := { plain "com/example/moraine/moraine/formats/NullableKeepPinLaw" (some 0) with
  accessFlags := 49
  interfaces := #[]
  cf := some (fileOf pool1 13 #[] #[{ accessFlags := 1, nameIndex := 5, descriptorIndex := 6, attributes := #[] }, { accessFlags := 9, nameIndex := 45, descriptorIndex := 46, attributes := #[] }, { accessFlags := 10, nameIndex := 16, descriptorIndex := 17, attributes := #[] }, { accessFlags := 10, nameIndex := 24, descriptorIndex := 25, attributes := #[] }] 49 2 #[] #[])
  fields := #[]
  methods := #[k1m0, k1m1, k1m2, k1m3]
  instanceTypes := #[]
  staticTypes := #[]
  resolved := Array.replicate 56 none
  statics := none }

def pool2 : Array CpInfo := pool [(1, .methodref 2 3), (0, .class_ 4), (0, .nameAndType 5 6), (0, u "java/lang/Object"), (0, u "<init>"), (0, u "()V"), (1, .class_ 10), (1, u "com/example/moraine/moraine/formats/ColumnVector"), (3, .class_ 16), (1, u "com/example/moraine/moraine/formats/ColumnVector$VectorKind"), (8, .class_ 26), (0, u "com/example/moraine/moraine/formats/ColumnVector$Objects"), (0, .class_ 28), (0, u "com/example/moraine/moraine/formats/ColumnVector$Constant"), (13, u "HELD"), (0, u "Ljava/util/Map;"), (2, u "OBJECTS"), (0, u "Lcom/example/moraine/moraine/formats/ColumnVector$VectorKind;"), (33, .class_ 82), (0, u "com/example/moraine/moraine/formats/ColumnVector$Ints"), (7, u "INTS"), (0, .class_ 92), (0, u "com/example/moraine/moraine/formats/ColumnVector$Longs"), (3, u "LONGS"), (0, .class_ 98), (0, u "com/example/moraine/moraine/formats/ColumnVector$Floats"), (3, u "FLOATS"), (0, .class_ 104), (0, u "com/example/moraine/moraine/formats/ColumnVector$Doubles"), (3, u "DOUBLES"), (0, .class_ 110), (0, u "com/example/moraine/moraine/formats/ColumnVector$Strings"), (3, u "STRINGS"), (78, .class_ 194), (0, u "com/example/moraine/moraine/formats/ColumnVector$Nullable")] 40

def k2c0 : Code := { maxStack := 1, maxLocals := 1, code := prog_17_method_1_code, exceptionTable := #[], attributes := #[] }
def k2m0 : Method := { name := "<init>", desc := "()V", sig := { parameters := [], returnType := none }, accessFlags := 0, code := some k2c0 }
/-- com/example/moraine/moraine/formats/ColumnVector -/
def k2 : Class := { plain "com/example/moraine/moraine/formats/ColumnVector" (some 0) with
  accessFlags := 1057
  interfaces := #[]
  cf := some (fileOf pool2 8 #[.nestMembers #[27, 25, 109, 103, 97, 91, 81, 193, 14]] #[{ accessFlags := 0, nameIndex := 5, descriptorIndex := 6, attributes := #[] }] 1057 2 #[] #[{ accessFlags := 26, nameIndex := 90, descriptorIndex := 47, attributes := #[] }, { accessFlags := 26, nameIndex := 96, descriptorIndex := 47, attributes := #[] }, { accessFlags := 26, nameIndex := 102, descriptorIndex := 47, attributes := #[] }, { accessFlags := 26, nameIndex := 108, descriptorIndex := 47, attributes := #[] }, { accessFlags := 26, nameIndex := 114, descriptorIndex := 47, attributes := #[] }, { accessFlags := 26, nameIndex := 46, descriptorIndex := 47, attributes := #[] }, { accessFlags := 26, nameIndex := 42, descriptorIndex := 43, attributes := #[] }])
  fields := #[{ name := "INTS", type := (.object "com/example/moraine/moraine/formats/ColumnVector$VectorKind"), accessFlags := 26, slot := 0, constantValue := 0 }, { name := "LONGS", type := (.object "com/example/moraine/moraine/formats/ColumnVector$VectorKind"), accessFlags := 26, slot := 1, constantValue := 0 }, { name := "FLOATS", type := (.object "com/example/moraine/moraine/formats/ColumnVector$VectorKind"), accessFlags := 26, slot := 2, constantValue := 0 }, { name := "DOUBLES", type := (.object "com/example/moraine/moraine/formats/ColumnVector$VectorKind"), accessFlags := 26, slot := 3, constantValue := 0 }, { name := "STRINGS", type := (.object "com/example/moraine/moraine/formats/ColumnVector$VectorKind"), accessFlags := 26, slot := 4, constantValue := 0 }, { name := "OBJECTS", type := (.object "com/example/moraine/moraine/formats/ColumnVector$VectorKind"), accessFlags := 26, slot := 5, constantValue := 0 }, { name := "HELD", type := (.object "java/util/Map"), accessFlags := 26, slot := 6, constantValue := 0 }]
  methods := #[k2m0]
  instanceTypes := #[]
  staticTypes := #[(.object "com/example/moraine/moraine/formats/ColumnVector$VectorKind"), (.object "com/example/moraine/moraine/formats/ColumnVector$VectorKind"), (.object "com/example/moraine/moraine/formats/ColumnVector$VectorKind"), (.object "com/example/moraine/moraine/formats/ColumnVector$VectorKind"), (.object "com/example/moraine/moraine/formats/ColumnVector$VectorKind"), (.object "com/example/moraine/moraine/formats/ColumnVector$VectorKind"), (.object "java/util/Map")]
  resolved := Array.replicate 235 none
  statics := none }

def pool3 : Array CpInfo := pool [(1, .methodref 2 3), (0, .class_ 4), (0, .nameAndType 5 6), (0, u "com/example/moraine/moraine/formats/ColumnVector"), (0, u "<init>"), (0, u "()V"), (0, .fieldref 8 9), (0, .class_ 10), (0, .nameAndType 11 12), (0, u "com/example/moraine/moraine/formats/ColumnVector$Nullable"), (0, u "capacity"), (0, u "I"), (0, .fieldref 8 14), (0, .nameAndType 15 16), (0, u "nulls"), (0, u "[Z"), (0, u "(I)V"), (2, u "setNull"), (1, u "present"), (1, u "isNull"), (0, u "(I)Z"), (2, u "keep"), (0, u "([II)V")] 5

def k3c0 : Code := { maxStack := 2, maxLocals := 2, code := prog_23_method_1_code, exceptionTable := #[], attributes := #[] }
def k3m0 : Method := { name := "<init>", desc := "(I)V", sig := { parameters := [.int], returnType := none }, accessFlags := 0, code := some k3c0 }
def k3c1 : Code := { maxStack := 3, maxLocals := 2, code := prog_23_method_2_code, exceptionTable := #[], attributes := #[] }
def k3m1 : Method := { name := "setNull", desc := "(I)V", sig := { parameters := [.int], returnType := none }, accessFlags := 0, code := some k3c1 }
def k3c2 : Code := { maxStack := 3, maxLocals := 2, code := prog_23_method_3_code, exceptionTable := #[], attributes := #[] }
def k3m2 : Method := { name := "present", desc := "(I)V", sig := { parameters := [.int], returnType := none }, accessFlags := 16, code := some k3c2 }
def k3c3 : Code := { maxStack := 2, maxLocals := 2, code := prog_23_method_5_code, exceptionTable := #[], attributes := #[] }
def k3m3 : Method := { name := "isNull", desc := "(I)Z", sig := { parameters := [.int], returnType := some .boolean }, accessFlags := 17, code := some k3c3 }
def k3c4 : Code := { maxStack := 5, maxLocals := 4, code := prog_23_method_7_code, exceptionTable := #[], attributes := #[] }
def k3m4 : Method := { name := "keep", desc := "([II)V", sig := { parameters := [(.array .int), .int], returnType := none }, accessFlags := 0, code := some k3c4 }
/-- com/example/moraine/moraine/formats/ColumnVector$Nullable -/
def k3 : Class := { plain "com/example/moraine/moraine/formats/ColumnVector$Nullable" (some 2) with
  accessFlags := 1056
  interfaces := #[]
  cf := some (fileOf pool3 8 #[.nestHost 2] #[{ accessFlags := 0, nameIndex := 5, descriptorIndex := 17, attributes := #[] }, { accessFlags := 0, nameIndex := 20, descriptorIndex := 17, attributes := #[] }, { accessFlags := 16, nameIndex := 22, descriptorIndex := 17, attributes := #[] }, { accessFlags := 17, nameIndex := 24, descriptorIndex := 25, attributes := #[] }, { accessFlags := 0, nameIndex := 28, descriptorIndex := 29, attributes := #[] }] 1056 2 #[] #[{ accessFlags := 18, nameIndex := 11, descriptorIndex := 12, attributes := #[] }, { accessFlags := 2, nameIndex := 15, descriptorIndex := 16, attributes := #[] }])
  fields := #[{ name := "capacity", type := .int, accessFlags := 18, slot := 0, constantValue := 0 }, { name := "nulls", type := (.array .boolean), accessFlags := 2, slot := 1, constantValue := 0 }]
  methods := #[k3m0, k3m1, k3m2, k3m3, k3m4]
  instanceTypes := #[.int, (.array .boolean)]
  staticTypes := #[]
  resolved := Array.replicate 35 none
  statics := none }

def pool4 : Array CpInfo := pool [(1, .methodref 2 3), (0, .class_ 4), (0, .nameAndType 5 6), (0, u "com/example/moraine/moraine/formats/ColumnVector$Nullable"), (0, u "<init>"), (0, u "(I)V"), (0, .fieldref 8 9), (0, .class_ 10), (0, .nameAndType 11 12), (0, u "com/example/moraine/moraine/formats/ColumnVector$Ints"), (0, u "values"), (0, u "[I"), (0, .methodref 8 14), (0, .nameAndType 15 16), (0, u "isNull"), (0, u "(I)Z"), (0, .methodref 18 19), (0, .class_ 20), (0, .nameAndType 21 22), (0, u "java/lang/Integer"), (0, u "valueOf"), (0, u "(I)Ljava/lang/Integer;"), (0, .methodref 8 24), (0, .nameAndType 25 6), (0, u "present"), (6, u "set"), (0, u "(II)V"), (0, .methodref 2 35), (0, .nameAndType 36 37), (0, u "keep"), (0, u "([II)V"), (2, u "get"), (0, u "(I)Ljava/lang/Object;"), (7, .class_ 50), (0, u "com/example/moraine/moraine/formats/ColumnVector")] 3

def k4c0 : Code := { maxStack := 2, maxLocals := 2, code := prog_21_method_1_code, exceptionTable := #[], attributes := #[] }
def k4m0 : Method := { name := "<init>", desc := "(I)V", sig := { parameters := [.int], returnType := none }, accessFlags := 0, code := some k4c0 }
def k4c1 : Code := { maxStack := 2, maxLocals := 2, code := prog_21_method_2_code, exceptionTable := #[], attributes := #[] }
def k4m1 : Method := { name := "get", desc := "(I)Ljava/lang/Object;", sig := { parameters := [.int], returnType := some (.object "java/lang/Object") }, accessFlags := 1, code := some k4c1 }
def k4c2 : Code := { maxStack := 3, maxLocals := 3, code := prog_21_method_4_code, exceptionTable := #[], attributes := #[] }
def k4m2 : Method := { name := "set", desc := "(II)V", sig := { parameters := [.int, .int], returnType := none }, accessFlags := 0, code := some k4c2 }
def k4c3 : Code := { maxStack := 5, maxLocals := 4, code := prog_21_method_6_code, exceptionTable := #[], attributes := #[] }
def k4m3 : Method := { name := "keep", desc := "([II)V", sig := { parameters := [(.array .int), .int], returnType := none }, accessFlags := 0, code := some k4c3 }
/-- com/example/moraine/moraine/formats/ColumnVector$Ints -/
def k4 : Class := { plain "com/example/moraine/moraine/formats/ColumnVector$Ints" (some 3) with
  accessFlags := 48
  interfaces := #[]
  cf := some (fileOf pool4 8 #[.nestHost 49] #[{ accessFlags := 0, nameIndex := 5, descriptorIndex := 6, attributes := #[] }, { accessFlags := 1, nameIndex := 40, descriptorIndex := 41, attributes := #[] }, { accessFlags := 0, nameIndex := 32, descriptorIndex := 33, attributes := #[] }, { accessFlags := 0, nameIndex := 36, descriptorIndex := 37, attributes := #[] }] 48 2 #[] #[{ accessFlags := 16, nameIndex := 11, descriptorIndex := 12, attributes := #[] }])
  fields := #[{ name := "values", type := (.array .int), accessFlags := 16, slot := 2, constantValue := 0 }]
  methods := #[k4m0, k4m1, k4m2, k4m3]
  instanceTypes := #[.int, (.array .boolean), (.array .int)]
  staticTypes := #[]
  resolved := Array.replicate 54 none
  statics := none }

def pool5 : Array CpInfo := pool [(1, .class_ 2), (0, u "java/io/Serializable"), (0, .class_ 4), (0, u "java/lang/Object")] 2

/-- java/io/Serializable -/
def k5 : Class := { plain "java/io/Serializable" (some 0) with
  accessFlags := 1537
  interfaces := #[]
  cf := some (fileOf pool5 1 #[] #[] 1537 3 #[] #[])
  fields := #[]
  methods := #[]
  instanceTypes := #[]
  staticTypes := #[]
  resolved := Array.replicate 7 none
  statics := none }

def pool6 : Array CpInfo := pool [(1, .methodref 2 3), (0, .class_ 4), (0, .nameAndType 5 6), (0, u "java/lang/Object"), (0, u "<init>"), (0, u "()V"), (1, .class_ 10), (1, u "java/lang/Number"), (2, .class_ 14), (0, u "java/io/Serializable"), (0, u "serialVersionUID"), (0, u "J")] 20

def k6c0 : Code := { maxStack := 1, maxLocals := 1, code := jdk_18_method_1_code, exceptionTable := #[], attributes := #[] }
def k6m0 : Method := { name := "<init>", desc := "()V", sig := { parameters := [], returnType := none }, accessFlags := 1, code := some k6c0 }
/-- java/lang/Number -/
def k6 : Class := { plain "java/lang/Number" (some 0) with
  accessFlags := 1057
  interfaces := #[5]
  cf := some (fileOf pool6 8 #[] #[{ accessFlags := 1, nameIndex := 5, descriptorIndex := 6, attributes := #[] }] 1057 2 #[13] #[{ accessFlags := 26, nameIndex := 15, descriptorIndex := 16, attributes := #[] }])
  fields := #[{ name := "serialVersionUID", type := .long, accessFlags := 26, slot := 0, constantValue := 0 }]
  methods := #[k6m0]
  instanceTypes := #[]
  staticTypes := #[.long]
  resolved := Array.replicate 37 none
  statics := none }

def pool7 : Array CpInfo := pool [(1, .class_ 2), (0, u "java/lang/Comparable"), (0, .class_ 4), (0, u "java/lang/Object")] 7

/-- java/lang/Comparable -/
def k7 : Class := { plain "java/lang/Comparable" (some 0) with
  accessFlags := 1537
  interfaces := #[]
  cf := some (fileOf pool7 1 #[] #[] 1537 3 #[] #[])
  fields := #[]
  methods := #[]
  instanceTypes := #[]
  staticTypes := #[]
  resolved := Array.replicate 12 none
  statics := none }

def pool8 : Array CpInfo := pool [(1, .class_ 2), (0, u "java/lang/constant/Constable"), (0, .class_ 4), (0, u "java/lang/Object")] 6

/-- java/lang/constant/Constable -/
def k8 : Class := { plain "java/lang/constant/Constable" (some 0) with
  accessFlags := 1537
  interfaces := #[]
  cf := some (fileOf pool8 1 #[] #[] 1537 3 #[] #[])
  fields := #[]
  methods := #[]
  instanceTypes := #[]
  staticTypes := #[]
  resolved := Array.replicate 11 none
  statics := none }

def pool9 : Array CpInfo := pool [(1, .class_ 2), (0, u "java/lang/constant/ConstantDesc"), (0, .class_ 4), (0, u "java/lang/Object")] 32

/-- java/lang/constant/ConstantDesc -/
def k9 : Class := { plain "java/lang/constant/ConstantDesc" (some 0) with
  accessFlags := 1537
  interfaces := #[]
  cf := some (fileOf pool9 1 #[] #[] 1537 3 #[] #[])
  fields := #[]
  methods := #[]
  instanceTypes := #[]
  staticTypes := #[]
  resolved := Array.replicate 37 none
  statics := none }

def pool10 : Array CpInfo := pool [(1, .class_ 2), (0, u "java/lang/Integer"), (16, u "digits"), (0, u "[C"), (46, u "<init>"), (17, u "DigitOnes"), (0, u "[B"), (2, u "DigitTens"), (10, .nameAndType 67 101), (0, u "()V"), (19, u "()I"), (65, u "valueOf"), (0, u "(I)Ljava/lang/Integer;"), (0, .class_ 190), (0, u "java/lang/Integer$IntegerCache"), (0, .fieldref 189 192), (0, .nameAndType 193 194), (0, u "high"), (0, u "I"), (0, .fieldref 189 196), (0, .nameAndType 197 198), (0, u "cache"), (0, u "[Ljava/lang/Integer;"), (0, .methodref 1 200), (0, .nameAndType 67 201), (0, u "(I)V"), (0, .methodref 203 100), (0, .class_ 204), (0, u "java/lang/Number"), (0, .fieldref 1 206), (0, .nameAndType 207 194), (0, u "value"), (5, u "intValue"), (88, u "TYPE"), (0, u "Ljava/lang/Class;"), (0, .class_ 305), (0, u "java/lang/Comparable"), (0, .class_ 307), (0, u "java/lang/constant/Constable"), (0, .class_ 309), (0, u "java/lang/constant/ConstantDesc"), (0, u "MIN_VALUE"), (1, u "MAX_VALUE"), (3, u "SIZE"), (1, u "BYTES"), (1, u "serialVersionUID"), (0, u "J")] 131

def k10c0 : Code := { maxStack := 3, maxLocals := 1, code := jdk_33_method_22_code, exceptionTable := #[], attributes := #[] }
def k10m0 : Method := { name := "valueOf", desc := "(I)Ljava/lang/Integer;", sig := { parameters := [.int], returnType := some (.object "java/lang/Integer") }, accessFlags := 9, code := some k10c0 }
def k10c1 : Code := { maxStack := 2, maxLocals := 2, code := jdk_33_method_23_code, exceptionTable := #[], attributes := #[] }
def k10m1 : Method := { name := "<init>", desc := "(I)V", sig := { parameters := [.int], returnType := none }, accessFlags := 1, code := some k10c1 }
def k10c2 : Code := { maxStack := 1, maxLocals := 1, code := jdk_33_method_27_code, exceptionTable := #[], attributes := #[] }
def k10m2 : Method := { name := "intValue", desc := "()I", sig := { parameters := [], returnType := some .int }, accessFlags := 1, code := some k10c2 }
/-- java/lang/Integer -/
def k10 : Class := { plain "java/lang/Integer" (some 6) with
  accessFlags := 49
  interfaces := #[7, 8, 9]
  cf := some (fileOf pool10 1 #[.nestMembers #[189]] #[{ accessFlags := 9, nameIndex := 187, descriptorIndex := 188, attributes := #[] }, { accessFlags := 1, nameIndex := 67, descriptorIndex := 201, attributes := #[] }, { accessFlags := 1, nameIndex := 213, descriptorIndex := 121, attributes := #[] }] 49 203 #[304, 306, 308] #[{ accessFlags := 25, nameIndex := 310, descriptorIndex := 194, attributes := #[] }, { accessFlags := 25, nameIndex := 312, descriptorIndex := 194, attributes := #[] }, { accessFlags := 25, nameIndex := 302, descriptorIndex := 303, attributes := #[] }, { accessFlags := 24, nameIndex := 19, descriptorIndex := 20, attributes := #[] }, { accessFlags := 24, nameIndex := 89, descriptorIndex := 86, attributes := #[] }, { accessFlags := 24, nameIndex := 85, descriptorIndex := 86, attributes := #[] }, { accessFlags := 18, nameIndex := 207, descriptorIndex := 194, attributes := #[] }, { accessFlags := 25, nameIndex := 316, descriptorIndex := 194, attributes := #[] }, { accessFlags := 25, nameIndex := 318, descriptorIndex := 194, attributes := #[] }, { accessFlags := 26, nameIndex := 320, descriptorIndex := 321, attributes := #[] }])
  fields := #[{ name := "MIN_VALUE", type := .int, accessFlags := 25, slot := 0, constantValue := 0 }, { name := "MAX_VALUE", type := .int, accessFlags := 25, slot := 1, constantValue := 0 }, { name := "TYPE", type := (.object "java/lang/Class"), accessFlags := 25, slot := 2, constantValue := 0 }, { name := "digits", type := (.array .char), accessFlags := 24, slot := 3, constantValue := 0 }, { name := "DigitTens", type := (.array .byte), accessFlags := 24, slot := 4, constantValue := 0 }, { name := "DigitOnes", type := (.array .byte), accessFlags := 24, slot := 5, constantValue := 0 }, { name := "value", type := .int, accessFlags := 18, slot := 0, constantValue := 0 }, { name := "SIZE", type := .int, accessFlags := 25, slot := 6, constantValue := 0 }, { name := "BYTES", type := .int, accessFlags := 25, slot := 7, constantValue := 0 }, { name := "serialVersionUID", type := .long, accessFlags := 26, slot := 8, constantValue := 0 }]
  methods := #[k10m0, k10m1, k10m2]
  instanceTypes := #[.int]
  staticTypes := #[.int, .int, (.object "java/lang/Class"), (.array .char), (.array .byte), (.array .byte), .int, .int, .long]
  resolved := Array.replicate 453 none
  statics := none }

def pool11 : Array CpInfo := pool [(2, .class_ 4), (1, u "java/lang/Object"), (0, u "<init>"), (0, u "()V"), (0, .class_ 8), (0, u "java/lang/Integer"), (7, .class_ 18), (1, u "java/lang/Integer$IntegerCache"), (0, u "$assertionsDisabled"), (0, u "Z"), (26, u "high"), (0, u "I"), (8, u "archivedCache"), (0, u "[Ljava/lang/Integer;"), (12, u "cache"), (0, u "low")] 27

def k11m0 : Method := { name := "<init>", desc := "()V", sig := { parameters := [], returnType := none }, accessFlags := 2, code := none }
/-- java/lang/Integer$IntegerCache -/
def k11 : Class := { plain "java/lang/Integer$IntegerCache" (some 0) with
  accessFlags := 48
  interfaces := #[]
  cf := some (fileOf pool11 16 #[.nestHost 7] #[{ accessFlags := 2, nameIndex := 5, descriptorIndex := 6, attributes := #[] }] 48 2 #[] #[{ accessFlags := 24, nameIndex := 72, descriptorIndex := 48, attributes := #[] }, { accessFlags := 24, nameIndex := 47, descriptorIndex := 48, attributes := #[] }, { accessFlags := 24, nameIndex := 71, descriptorIndex := 58, attributes := #[] }, { accessFlags := 8, nameIndex := 57, descriptorIndex := 58, attributes := #[] }, { accessFlags := 4120, nameIndex := 19, descriptorIndex := 20, attributes := #[] }])
  fields := #[{ name := "low", type := .int, accessFlags := 24, slot := 0, constantValue := 0 }, { name := "high", type := .int, accessFlags := 24, slot := 1, constantValue := 0 }, { name := "cache", type := (.array (.object "java/lang/Integer")), accessFlags := 24, slot := 2, constantValue := 0 }, { name := "archivedCache", type := (.array (.object "java/lang/Integer")), accessFlags := 8, slot := 3, constantValue := 0 }, { name := "$assertionsDisabled", type := .boolean, accessFlags := 4120, slot := 4, constantValue := 0 }]
  methods := #[k11m0]
  instanceTypes := #[]
  staticTypes := #[.int, .int, (.array (.object "java/lang/Integer")), (.array (.object "java/lang/Integer")), .boolean]
  resolved := Array.replicate 100 none
  statics := some 0 }

def pool12 : Array CpInfo := pool [(1, u "java/lang/Cloneable"), (0, .class_ 1), (0, u "java/lang/Object"), (0, .class_ 3)] 3

/-- java/lang/Cloneable -/
def k12 : Class := { plain "java/lang/Cloneable" (some 0) with
  accessFlags := 1537
  interfaces := #[]
  cf := some (fileOf pool12 2 #[] #[] 1537 4 #[] #[])
  fields := #[]
  methods := #[]
  instanceTypes := #[]
  staticTypes := #[]
  resolved := Array.replicate 8 none
  statics := none }

/-- the primitive boolean -/
def k13 : Class := { plain "boolean" none with kind := .primitive 'Z', accessFlags := 0x411 }
/-- [Z -/
def k14 : Class := { plain "[Z" (some 0) with kind := .array 13 .boolean, interfaces := #[12, 5], accessFlags := 1041 }

/-- the primitive byte -/
def k15 : Class := { plain "byte" none with kind := .primitive 'B', accessFlags := 0x411 }
/-- [B -/
def k16 : Class := { plain "[B" (some 0) with kind := .array 15 .byte, interfaces := #[12, 5], accessFlags := 1041 }

/-- the primitive int -/
def k17 : Class := { plain "int" none with kind := .primitive 'I', accessFlags := 0x411 }
/-- [I -/
def k18 : Class := { plain "[I" (some 0) with kind := .array 17 .int, interfaces := #[12, 5], accessFlags := 1041 }

/-- [Ljava/lang/Integer; -/
def k19 : Class := { plain "[Ljava/lang/Integer;" (some 0) with kind := .array 10 (.object "java/lang/Integer"), interfaces := #[12, 5], accessFlags := 1041 }

def heap : Heap := #[{ cls := 11, slots := #[.int 0, .int 127, .ref 1, .null, .int 0], vm := .statics 11 },
  { cls := 19, slots := #[.ref 2, .ref 3, .ref 4, .ref 5, .ref 6, .ref 7, .ref 8, .ref 9, .ref 10, .ref 11, .ref 12, .ref 13, .ref 14, .ref 15, .ref 16, .ref 17, .ref 18, .ref 19, .ref 20, .ref 21, .ref 22, .ref 23, .ref 24, .ref 25, .ref 26, .ref 27, .ref 28, .ref 29, .ref 30, .ref 31, .ref 32, .ref 33, .ref 34, .ref 35, .ref 36, .ref 37, .ref 38, .ref 39, .ref 40, .ref 41, .ref 42, .ref 43, .ref 44, .ref 45, .ref 46, .ref 47, .ref 48, .ref 49, .ref 50, .ref 51, .ref 52, .ref 53, .ref 54, .ref 55, .ref 56, .ref 57, .ref 58, .ref 59, .ref 60, .ref 61, .ref 62, .ref 63, .ref 64, .ref 65, .ref 66, .ref 67, .ref 68, .ref 69, .ref 70, .ref 71, .ref 72, .ref 73, .ref 74, .ref 75, .ref 76, .ref 77, .ref 78, .ref 79, .ref 80, .ref 81, .ref 82, .ref 83, .ref 84, .ref 85, .ref 86, .ref 87, .ref 88, .ref 89, .ref 90, .ref 91, .ref 92, .ref 93, .ref 94, .ref 95, .ref 96, .ref 97, .ref 98, .ref 99, .ref 100, .ref 101, .ref 102, .ref 103, .ref 104, .ref 105, .ref 106, .ref 107, .ref 108, .ref 109, .ref 110, .ref 111, .ref 112, .ref 113, .ref 114, .ref 115, .ref 116, .ref 117, .ref 118, .ref 119, .ref 120, .ref 121, .ref 122, .ref 123, .ref 124, .ref 125, .ref 126, .ref 127, .ref 128, .ref 129, .ref 130, .ref 131, .ref 132, .ref 133, .ref 134, .ref 135, .ref 136, .ref 137, .ref 138, .ref 139, .ref 140, .ref 141, .ref 142, .ref 143, .ref 144, .ref 145, .ref 146, .ref 147, .ref 148, .ref 149, .ref 150, .ref 151, .ref 152, .ref 153, .ref 154, .ref 155, .ref 156, .ref 157, .ref 158, .ref 159, .ref 160, .ref 161, .ref 162, .ref 163, .ref 164, .ref 165, .ref 166, .ref 167, .ref 168, .ref 169, .ref 170, .ref 171, .ref 172, .ref 173, .ref 174, .ref 175, .ref 176, .ref 177, .ref 178, .ref 179, .ref 180, .ref 181, .ref 182, .ref 183, .ref 184, .ref 185, .ref 186, .ref 187, .ref 188, .ref 189, .ref 190, .ref 191, .ref 192, .ref 193, .ref 194, .ref 195, .ref 196, .ref 197, .ref 198, .ref 199, .ref 200, .ref 201, .ref 202, .ref 203, .ref 204, .ref 205, .ref 206, .ref 207, .ref 208, .ref 209, .ref 210, .ref 211, .ref 212, .ref 213, .ref 214, .ref 215, .ref 216, .ref 217, .ref 218, .ref 219, .ref 220, .ref 221, .ref 222, .ref 223, .ref 224, .ref 225, .ref 226, .ref 227, .ref 228, .ref 229, .ref 230, .ref 231, .ref 232, .ref 233, .ref 234, .ref 235, .ref 236, .ref 237, .ref 238, .ref 239, .ref 240, .ref 241, .ref 242, .ref 243, .ref 244, .ref 245, .ref 246, .ref 247, .ref 248, .ref 249, .ref 250, .ref 251, .ref 252, .ref 253, .ref 254, .ref 255, .ref 256, .ref 257], vm := .none },
  { cls := 10, slots := #[.int (-128)], vm := .none },
  { cls := 10, slots := #[.int (-127)], vm := .none },
  { cls := 10, slots := #[.int (-126)], vm := .none },
  { cls := 10, slots := #[.int (-125)], vm := .none },
  { cls := 10, slots := #[.int (-124)], vm := .none },
  { cls := 10, slots := #[.int (-123)], vm := .none },
  { cls := 10, slots := #[.int (-122)], vm := .none },
  { cls := 10, slots := #[.int (-121)], vm := .none },
  { cls := 10, slots := #[.int (-120)], vm := .none },
  { cls := 10, slots := #[.int (-119)], vm := .none },
  { cls := 10, slots := #[.int (-118)], vm := .none },
  { cls := 10, slots := #[.int (-117)], vm := .none },
  { cls := 10, slots := #[.int (-116)], vm := .none },
  { cls := 10, slots := #[.int (-115)], vm := .none },
  { cls := 10, slots := #[.int (-114)], vm := .none },
  { cls := 10, slots := #[.int (-113)], vm := .none },
  { cls := 10, slots := #[.int (-112)], vm := .none },
  { cls := 10, slots := #[.int (-111)], vm := .none },
  { cls := 10, slots := #[.int (-110)], vm := .none },
  { cls := 10, slots := #[.int (-109)], vm := .none },
  { cls := 10, slots := #[.int (-108)], vm := .none },
  { cls := 10, slots := #[.int (-107)], vm := .none },
  { cls := 10, slots := #[.int (-106)], vm := .none },
  { cls := 10, slots := #[.int (-105)], vm := .none },
  { cls := 10, slots := #[.int (-104)], vm := .none },
  { cls := 10, slots := #[.int (-103)], vm := .none },
  { cls := 10, slots := #[.int (-102)], vm := .none },
  { cls := 10, slots := #[.int (-101)], vm := .none },
  { cls := 10, slots := #[.int (-100)], vm := .none },
  { cls := 10, slots := #[.int (-99)], vm := .none },
  { cls := 10, slots := #[.int (-98)], vm := .none },
  { cls := 10, slots := #[.int (-97)], vm := .none },
  { cls := 10, slots := #[.int (-96)], vm := .none },
  { cls := 10, slots := #[.int (-95)], vm := .none },
  { cls := 10, slots := #[.int (-94)], vm := .none },
  { cls := 10, slots := #[.int (-93)], vm := .none },
  { cls := 10, slots := #[.int (-92)], vm := .none },
  { cls := 10, slots := #[.int (-91)], vm := .none },
  { cls := 10, slots := #[.int (-90)], vm := .none },
  { cls := 10, slots := #[.int (-89)], vm := .none },
  { cls := 10, slots := #[.int (-88)], vm := .none },
  { cls := 10, slots := #[.int (-87)], vm := .none },
  { cls := 10, slots := #[.int (-86)], vm := .none },
  { cls := 10, slots := #[.int (-85)], vm := .none },
  { cls := 10, slots := #[.int (-84)], vm := .none },
  { cls := 10, slots := #[.int (-83)], vm := .none },
  { cls := 10, slots := #[.int (-82)], vm := .none },
  { cls := 10, slots := #[.int (-81)], vm := .none },
  { cls := 10, slots := #[.int (-80)], vm := .none },
  { cls := 10, slots := #[.int (-79)], vm := .none },
  { cls := 10, slots := #[.int (-78)], vm := .none },
  { cls := 10, slots := #[.int (-77)], vm := .none },
  { cls := 10, slots := #[.int (-76)], vm := .none },
  { cls := 10, slots := #[.int (-75)], vm := .none },
  { cls := 10, slots := #[.int (-74)], vm := .none },
  { cls := 10, slots := #[.int (-73)], vm := .none },
  { cls := 10, slots := #[.int (-72)], vm := .none },
  { cls := 10, slots := #[.int (-71)], vm := .none },
  { cls := 10, slots := #[.int (-70)], vm := .none },
  { cls := 10, slots := #[.int (-69)], vm := .none },
  { cls := 10, slots := #[.int (-68)], vm := .none },
  { cls := 10, slots := #[.int (-67)], vm := .none },
  { cls := 10, slots := #[.int (-66)], vm := .none },
  { cls := 10, slots := #[.int (-65)], vm := .none },
  { cls := 10, slots := #[.int (-64)], vm := .none },
  { cls := 10, slots := #[.int (-63)], vm := .none },
  { cls := 10, slots := #[.int (-62)], vm := .none },
  { cls := 10, slots := #[.int (-61)], vm := .none },
  { cls := 10, slots := #[.int (-60)], vm := .none },
  { cls := 10, slots := #[.int (-59)], vm := .none },
  { cls := 10, slots := #[.int (-58)], vm := .none },
  { cls := 10, slots := #[.int (-57)], vm := .none },
  { cls := 10, slots := #[.int (-56)], vm := .none },
  { cls := 10, slots := #[.int (-55)], vm := .none },
  { cls := 10, slots := #[.int (-54)], vm := .none },
  { cls := 10, slots := #[.int (-53)], vm := .none },
  { cls := 10, slots := #[.int (-52)], vm := .none },
  { cls := 10, slots := #[.int (-51)], vm := .none },
  { cls := 10, slots := #[.int (-50)], vm := .none },
  { cls := 10, slots := #[.int (-49)], vm := .none },
  { cls := 10, slots := #[.int (-48)], vm := .none },
  { cls := 10, slots := #[.int (-47)], vm := .none },
  { cls := 10, slots := #[.int (-46)], vm := .none },
  { cls := 10, slots := #[.int (-45)], vm := .none },
  { cls := 10, slots := #[.int (-44)], vm := .none },
  { cls := 10, slots := #[.int (-43)], vm := .none },
  { cls := 10, slots := #[.int (-42)], vm := .none },
  { cls := 10, slots := #[.int (-41)], vm := .none },
  { cls := 10, slots := #[.int (-40)], vm := .none },
  { cls := 10, slots := #[.int (-39)], vm := .none },
  { cls := 10, slots := #[.int (-38)], vm := .none },
  { cls := 10, slots := #[.int (-37)], vm := .none },
  { cls := 10, slots := #[.int (-36)], vm := .none },
  { cls := 10, slots := #[.int (-35)], vm := .none },
  { cls := 10, slots := #[.int (-34)], vm := .none },
  { cls := 10, slots := #[.int (-33)], vm := .none },
  { cls := 10, slots := #[.int (-32)], vm := .none },
  { cls := 10, slots := #[.int (-31)], vm := .none },
  { cls := 10, slots := #[.int (-30)], vm := .none },
  { cls := 10, slots := #[.int (-29)], vm := .none },
  { cls := 10, slots := #[.int (-28)], vm := .none },
  { cls := 10, slots := #[.int (-27)], vm := .none },
  { cls := 10, slots := #[.int (-26)], vm := .none },
  { cls := 10, slots := #[.int (-25)], vm := .none },
  { cls := 10, slots := #[.int (-24)], vm := .none },
  { cls := 10, slots := #[.int (-23)], vm := .none },
  { cls := 10, slots := #[.int (-22)], vm := .none },
  { cls := 10, slots := #[.int (-21)], vm := .none },
  { cls := 10, slots := #[.int (-20)], vm := .none },
  { cls := 10, slots := #[.int (-19)], vm := .none },
  { cls := 10, slots := #[.int (-18)], vm := .none },
  { cls := 10, slots := #[.int (-17)], vm := .none },
  { cls := 10, slots := #[.int (-16)], vm := .none },
  { cls := 10, slots := #[.int (-15)], vm := .none },
  { cls := 10, slots := #[.int (-14)], vm := .none },
  { cls := 10, slots := #[.int (-13)], vm := .none },
  { cls := 10, slots := #[.int (-12)], vm := .none },
  { cls := 10, slots := #[.int (-11)], vm := .none },
  { cls := 10, slots := #[.int (-10)], vm := .none },
  { cls := 10, slots := #[.int (-9)], vm := .none },
  { cls := 10, slots := #[.int (-8)], vm := .none },
  { cls := 10, slots := #[.int (-7)], vm := .none },
  { cls := 10, slots := #[.int (-6)], vm := .none },
  { cls := 10, slots := #[.int (-5)], vm := .none },
  { cls := 10, slots := #[.int (-4)], vm := .none },
  { cls := 10, slots := #[.int (-3)], vm := .none },
  { cls := 10, slots := #[.int (-2)], vm := .none },
  { cls := 10, slots := #[.int (-1)], vm := .none },
  { cls := 10, slots := #[.int 0], vm := .none },
  { cls := 10, slots := #[.int 1], vm := .none },
  { cls := 10, slots := #[.int 2], vm := .none },
  { cls := 10, slots := #[.int 3], vm := .none },
  { cls := 10, slots := #[.int 4], vm := .none },
  { cls := 10, slots := #[.int 5], vm := .none },
  { cls := 10, slots := #[.int 6], vm := .none },
  { cls := 10, slots := #[.int 7], vm := .none },
  { cls := 10, slots := #[.int 8], vm := .none },
  { cls := 10, slots := #[.int 9], vm := .none },
  { cls := 10, slots := #[.int 10], vm := .none },
  { cls := 10, slots := #[.int 11], vm := .none },
  { cls := 10, slots := #[.int 12], vm := .none },
  { cls := 10, slots := #[.int 13], vm := .none },
  { cls := 10, slots := #[.int 14], vm := .none },
  { cls := 10, slots := #[.int 15], vm := .none },
  { cls := 10, slots := #[.int 16], vm := .none },
  { cls := 10, slots := #[.int 17], vm := .none },
  { cls := 10, slots := #[.int 18], vm := .none },
  { cls := 10, slots := #[.int 19], vm := .none },
  { cls := 10, slots := #[.int 20], vm := .none },
  { cls := 10, slots := #[.int 21], vm := .none },
  { cls := 10, slots := #[.int 22], vm := .none },
  { cls := 10, slots := #[.int 23], vm := .none },
  { cls := 10, slots := #[.int 24], vm := .none },
  { cls := 10, slots := #[.int 25], vm := .none },
  { cls := 10, slots := #[.int 26], vm := .none },
  { cls := 10, slots := #[.int 27], vm := .none },
  { cls := 10, slots := #[.int 28], vm := .none },
  { cls := 10, slots := #[.int 29], vm := .none },
  { cls := 10, slots := #[.int 30], vm := .none },
  { cls := 10, slots := #[.int 31], vm := .none },
  { cls := 10, slots := #[.int 32], vm := .none },
  { cls := 10, slots := #[.int 33], vm := .none },
  { cls := 10, slots := #[.int 34], vm := .none },
  { cls := 10, slots := #[.int 35], vm := .none },
  { cls := 10, slots := #[.int 36], vm := .none },
  { cls := 10, slots := #[.int 37], vm := .none },
  { cls := 10, slots := #[.int 38], vm := .none },
  { cls := 10, slots := #[.int 39], vm := .none },
  { cls := 10, slots := #[.int 40], vm := .none },
  { cls := 10, slots := #[.int 41], vm := .none },
  { cls := 10, slots := #[.int 42], vm := .none },
  { cls := 10, slots := #[.int 43], vm := .none },
  { cls := 10, slots := #[.int 44], vm := .none },
  { cls := 10, slots := #[.int 45], vm := .none },
  { cls := 10, slots := #[.int 46], vm := .none },
  { cls := 10, slots := #[.int 47], vm := .none },
  { cls := 10, slots := #[.int 48], vm := .none },
  { cls := 10, slots := #[.int 49], vm := .none },
  { cls := 10, slots := #[.int 50], vm := .none },
  { cls := 10, slots := #[.int 51], vm := .none },
  { cls := 10, slots := #[.int 52], vm := .none },
  { cls := 10, slots := #[.int 53], vm := .none },
  { cls := 10, slots := #[.int 54], vm := .none },
  { cls := 10, slots := #[.int 55], vm := .none },
  { cls := 10, slots := #[.int 56], vm := .none },
  { cls := 10, slots := #[.int 57], vm := .none },
  { cls := 10, slots := #[.int 58], vm := .none },
  { cls := 10, slots := #[.int 59], vm := .none },
  { cls := 10, slots := #[.int 60], vm := .none },
  { cls := 10, slots := #[.int 61], vm := .none },
  { cls := 10, slots := #[.int 62], vm := .none },
  { cls := 10, slots := #[.int 63], vm := .none },
  { cls := 10, slots := #[.int 64], vm := .none },
  { cls := 10, slots := #[.int 65], vm := .none },
  { cls := 10, slots := #[.int 66], vm := .none },
  { cls := 10, slots := #[.int 67], vm := .none },
  { cls := 10, slots := #[.int 68], vm := .none },
  { cls := 10, slots := #[.int 69], vm := .none },
  { cls := 10, slots := #[.int 70], vm := .none },
  { cls := 10, slots := #[.int 71], vm := .none },
  { cls := 10, slots := #[.int 72], vm := .none },
  { cls := 10, slots := #[.int 73], vm := .none },
  { cls := 10, slots := #[.int 74], vm := .none },
  { cls := 10, slots := #[.int 75], vm := .none },
  { cls := 10, slots := #[.int 76], vm := .none },
  { cls := 10, slots := #[.int 77], vm := .none },
  { cls := 10, slots := #[.int 78], vm := .none },
  { cls := 10, slots := #[.int 79], vm := .none },
  { cls := 10, slots := #[.int 80], vm := .none },
  { cls := 10, slots := #[.int 81], vm := .none },
  { cls := 10, slots := #[.int 82], vm := .none },
  { cls := 10, slots := #[.int 83], vm := .none },
  { cls := 10, slots := #[.int 84], vm := .none },
  { cls := 10, slots := #[.int 85], vm := .none },
  { cls := 10, slots := #[.int 86], vm := .none },
  { cls := 10, slots := #[.int 87], vm := .none },
  { cls := 10, slots := #[.int 88], vm := .none },
  { cls := 10, slots := #[.int 89], vm := .none },
  { cls := 10, slots := #[.int 90], vm := .none },
  { cls := 10, slots := #[.int 91], vm := .none },
  { cls := 10, slots := #[.int 92], vm := .none },
  { cls := 10, slots := #[.int 93], vm := .none },
  { cls := 10, slots := #[.int 94], vm := .none },
  { cls := 10, slots := #[.int 95], vm := .none },
  { cls := 10, slots := #[.int 96], vm := .none },
  { cls := 10, slots := #[.int 97], vm := .none },
  { cls := 10, slots := #[.int 98], vm := .none },
  { cls := 10, slots := #[.int 99], vm := .none },
  { cls := 10, slots := #[.int 100], vm := .none },
  { cls := 10, slots := #[.int 101], vm := .none },
  { cls := 10, slots := #[.int 102], vm := .none },
  { cls := 10, slots := #[.int 103], vm := .none },
  { cls := 10, slots := #[.int 104], vm := .none },
  { cls := 10, slots := #[.int 105], vm := .none },
  { cls := 10, slots := #[.int 106], vm := .none },
  { cls := 10, slots := #[.int 107], vm := .none },
  { cls := 10, slots := #[.int 108], vm := .none },
  { cls := 10, slots := #[.int 109], vm := .none },
  { cls := 10, slots := #[.int 110], vm := .none },
  { cls := 10, slots := #[.int 111], vm := .none },
  { cls := 10, slots := #[.int 112], vm := .none },
  { cls := 10, slots := #[.int 113], vm := .none },
  { cls := 10, slots := #[.int 114], vm := .none },
  { cls := 10, slots := #[.int 115], vm := .none },
  { cls := 10, slots := #[.int 116], vm := .none },
  { cls := 10, slots := #[.int 117], vm := .none },
  { cls := 10, slots := #[.int 118], vm := .none },
  { cls := 10, slots := #[.int 119], vm := .none },
  { cls := 10, slots := #[.int 120], vm := .none },
  { cls := 10, slots := #[.int 121], vm := .none },
  { cls := 10, slots := #[.int 122], vm := .none },
  { cls := 10, slots := #[.int 123], vm := .none },
  { cls := 10, slots := #[.int 124], vm := .none },
  { cls := 10, slots := #[.int 125], vm := .none },
  { cls := 10, slots := #[.int 126], vm := .none },
  { cls := 10, slots := #[.int 127], vm := .none }]
def classes : Array Class := #[k0, k1, k2, k3, k4, k5, k6, k7, k8, k9, k10, k11, k12, k13, k14, k15, k16, k17, k18, k19]
def interned : List (Array UInt16 × Addr) := []
def slotsUsed : Nat := 517
def theMethod : MethodId := ⟨1, 1⟩
def args0 : Array Value := #[.int 5, .int 7, .int 9, .int 1, .int 2]
def aboutOver (below : List Frame) : State where
  vm := { classes := classes, interned := interned.toArray }
  heap := heap
  slotsUsed := slotsUsed
  threads := #[{ frames := .invoking theMethod args0 :: below }]
def below0 : List Frame := [.native { method := ⟨0, 0⟩, args := #[] }]
def about1 : State := aboutOver below0
def p0 : Program := .bare "" "" ""
def e0 : Env := launch0.env 0 0 0
theorem w_frames : about1.frames = Frame.invoking theMethod args0 :: below0 := rfl
set_option maxRecDepth 65536 in
theorem w_args : argsFit about1.vm theMethod args0 = true := by decide +kernel
set_option maxRecDepth 65536 in
theorem w_heap : heapFits about1 = true := by decide +kernel
set_option maxRecDepth 65536 in
theorem w_runnable : about1.curStatus? = some .runnable := by decide +kernel
set_option maxRecDepth 65536 in
theorem w_alone : about1.alone = true := by decide +kernel
set_option maxRecDepth 65536 in
theorem w_named : about1.methodNamed? x = some theMethod := by decide +kernel
set_option maxRecDepth 65536 in
theorem w_hears : about1.hears theMethod below0 = true := by decide +kernel
set_option maxRecDepth 65536 in
theorem w_ripe : about1.ripe theMethod args0 below0 = true := by decide +kernel
theorem w_running : about1.status = .running := rfl
set_option maxRecDepth 65536 in
theorem w_room : about1.hasRoom e0.platform room_1 = true :=
  launch0.hasRoom_least _ room_1 (by decide +kernel) (by decide +kernel) (by decide +kernel) (by decide +kernel) (by decide +kernel) (by decide +kernel)
theorem allAtoms_all (ts : List Jvm.Cond) (a : Array Jvm.Value) (st : Jvm.State) : (allAtoms ts).before a st = ts.all (fun c => c.before a st) := by
  induction ts with
  | nil => rfl
  | cons c t ih =>
    show (Jvm.Cond.and c (allAtoms t)).before a st = _
    rw [Jvm.Cond.before_and, ih, List.all_cons]
def words1 : List Jvm.Cond := Jvm.Cond.code x code maxLocals ret :: tables_1
/-- a 'code' word, met by the world's own term for the bytes: nothing is compared byte by byte -/
theorem code_word {y : MethodName} {bytes : ByteArray} {mx : Nat} {rt : Option FieldType} {a : Array Value} {s : State} {m : MethodId} {meth : Method} {c : Code} (h1 : s.methodNamed? y = some m) (h2 : s.vm.method? m = some meth) (h3 : meth.code = some c) (h4 : c.code = bytes)
    (h5 : (c.maxLocals == mx && c.exceptionTable.isEmpty && decide (c.maxStack ≤ mostOperands) && decide (meth.sig.returnType = rt) && !meth.locks && decide (parseMethodDescriptor y.desc = some meth.sig)) = true) : (Jvm.Cond.code y bytes mx rt).before a s = true := by
  simp only [Bool.and_eq_true, beq_iff_eq, Bool.not_eq_true', decide_eq_true_eq] at h5
  obtain ⟨⟨⟨⟨⟨g1, g2⟩, g3⟩, g4⟩, g5⟩, g6⟩ := h5
  simp [Cond.before, Cond.holds, Cond.value, h1, h2, h3, h4, g1, g2, g3, g4, g5, g6]
def isCode : Jvm.Cond → Bool
  | .code _ _ _ _ => true
  | _ => false
theorem all_split {L : List Jvm.Cond} {P : Jvm.Cond → Bool} (h1 : L.all (fun c => isCode c || P c) = true) (h2 : ∀ c ∈ L.filter isCode, P c = true) : L.all P = true := by
  refine List.all_eq_true.mpr fun c hc => ?_
  have h := List.all_eq_true.mp h1 c hc
  rcases Bool.eq_false_or_eq_true (isCode c) with hi | hi
  · exact h2 c (List.mem_filter.mpr ⟨hc, hi⟩)
  · simpa [hi] using h
set_option maxRecDepth 65536 in
theorem w_c0 : (Jvm.Cond.code x code maxLocals ret).before args0 about1 = true := code_word (m := ⟨1, 1⟩) (meth := k1m1) (c := k1c1) (by decide +kernel) rfl rfl rfl (by decide +kernel)
set_option maxRecDepth 65536 in
theorem w_c1 : (Jvm.Cond.code ({ cls := "com/example/moraine/moraine/formats/ColumnVector$Ints", name := "<init>", desc := "(I)V" } : Jvm.MethodName) prog_21_method_1_code (2 : Nat) (Option.none : Option Jvm.ClassFile.FieldType)).before args0 about1 = true := code_word (m := ⟨4, 0⟩) (meth := k4m0) (c := k4c0) (by decide +kernel) rfl rfl rfl (by decide +kernel)
set_option maxRecDepth 65536 in
theorem w_c2 : (Jvm.Cond.code ({ cls := "com/example/moraine/moraine/formats/ColumnVector$Nullable", name := "<init>", desc := "(I)V" } : Jvm.MethodName) prog_23_method_1_code (2 : Nat) (Option.none : Option Jvm.ClassFile.FieldType)).before args0 about1 = true := code_word (m := ⟨3, 0⟩) (meth := k3m0) (c := k3c0) (by decide +kernel) rfl rfl rfl (by decide +kernel)
set_option maxRecDepth 65536 in
theorem w_c3 : (Jvm.Cond.code ({ cls := "com/example/moraine/moraine/formats/ColumnVector", name := "<init>", desc := "()V" } : Jvm.MethodName) prog_17_method_1_code (1 : Nat) (Option.none : Option Jvm.ClassFile.FieldType)).before args0 about1 = true := code_word (m := ⟨2, 0⟩) (meth := k2m0) (c := k2c0) (by decide +kernel) rfl rfl rfl (by decide +kernel)
set_option maxRecDepth 65536 in
theorem w_c4 : (Jvm.Cond.code ({ cls := "java/lang/Object", name := "<init>", desc := "()V" } : Jvm.MethodName) object_method_1_code (1 : Nat) (Option.none : Option Jvm.ClassFile.FieldType)).before args0 about1 = true := code_word (m := ⟨0, 0⟩) (meth := k0m0) (c := k0c0) (by decide +kernel) rfl rfl rfl (by decide +kernel)
set_option maxRecDepth 65536 in
theorem w_c5 : (Jvm.Cond.code ({ cls := "com/example/moraine/moraine/formats/NullableKeepPinLaw", name := "fill", desc := "(Lcom/example/moraine/moraine/formats/ColumnVector$Ints;III)V" } : Jvm.MethodName) method_3_code (4 : Nat) (Option.none : Option Jvm.ClassFile.FieldType)).before args0 about1 = true := code_word (m := ⟨1, 2⟩) (meth := k1m2) (c := k1c2) (by decide +kernel) rfl rfl rfl (by decide +kernel)
set_option maxRecDepth 65536 in
theorem w_c6 : (Jvm.Cond.code ({ cls := "com/example/moraine/moraine/formats/ColumnVector$Ints", name := "set", desc := "(II)V" } : Jvm.MethodName) prog_21_method_4_code (3 : Nat) (Option.none : Option Jvm.ClassFile.FieldType)).before args0 about1 = true := code_word (m := ⟨4, 2⟩) (meth := k4m2) (c := k4c2) (by decide +kernel) rfl rfl rfl (by decide +kernel)
set_option maxRecDepth 65536 in
theorem w_c7 : (Jvm.Cond.code ({ cls := "com/example/moraine/moraine/formats/ColumnVector$Nullable", name := "present", desc := "(I)V" } : Jvm.MethodName) prog_23_method_3_code (2 : Nat) (Option.none : Option Jvm.ClassFile.FieldType)).before args0 about1 = true := code_word (m := ⟨3, 2⟩) (meth := k3m2) (c := k3c2) (by decide +kernel) rfl rfl rfl (by decide +kernel)
set_option maxRecDepth 65536 in
theorem w_c8 : (Jvm.Cond.code ({ cls := "com/example/moraine/moraine/formats/ColumnVector$Ints", name := "keep", desc := "([II)V" } : Jvm.MethodName) prog_21_method_6_code (4 : Nat) (Option.none : Option Jvm.ClassFile.FieldType)).before args0 about1 = true := code_word (m := ⟨4, 3⟩) (meth := k4m3) (c := k4c3) (by decide +kernel) rfl rfl rfl (by decide +kernel)
set_option maxRecDepth 65536 in
theorem w_c9 : (Jvm.Cond.code ({ cls := "com/example/moraine/moraine/formats/ColumnVector$Nullable", name := "keep", desc := "([II)V" } : Jvm.MethodName) prog_23_method_7_code (4 : Nat) (Option.none : Option Jvm.ClassFile.FieldType)).before args0 about1 = true := code_word (m := ⟨3, 4⟩) (meth := k3m4) (c := k3c4) (by decide +kernel) rfl rfl rfl (by decide +kernel)
set_option maxRecDepth 65536 in
theorem w_c10 : (Jvm.Cond.code ({ cls := "com/example/moraine/moraine/formats/NullableKeepPinLaw", name := "check", desc := "(Lcom/example/moraine/moraine/formats/ColumnVector$Ints;II[II[I)Z" } : Jvm.MethodName) method_4_code (9 : Nat) (Option.some Jvm.ClassFile.FieldType.boolean)).before args0 about1 = true := code_word (m := ⟨1, 3⟩) (meth := k1m3) (c := k1c3) (by decide +kernel) rfl rfl rfl (by decide +kernel)
set_option maxRecDepth 65536 in
theorem w_c11 : (Jvm.Cond.code ({ cls := "com/example/moraine/moraine/formats/ColumnVector$Ints", name := "get", desc := "(I)Ljava/lang/Object;" } : Jvm.MethodName) prog_21_method_2_code (2 : Nat) (Option.some (Jvm.ClassFile.FieldType.object "java/lang/Object"))).before args0 about1 = true := code_word (m := ⟨4, 1⟩) (meth := k4m1) (c := k4c1) (by decide +kernel) rfl rfl rfl (by decide +kernel)
set_option maxRecDepth 65536 in
theorem w_c12 : (Jvm.Cond.code ({ cls := "com/example/moraine/moraine/formats/ColumnVector$Nullable", name := "isNull", desc := "(I)Z" } : Jvm.MethodName) prog_23_method_5_code (2 : Nat) (Option.some Jvm.ClassFile.FieldType.boolean)).before args0 about1 = true := code_word (m := ⟨3, 3⟩) (meth := k3m3) (c := k3c3) (by decide +kernel) rfl rfl rfl (by decide +kernel)
set_option maxRecDepth 65536 in
theorem w_c13 : (Jvm.Cond.code ({ cls := "java/lang/Integer", name := "valueOf", desc := "(I)Ljava/lang/Integer;" } : Jvm.MethodName) jdk_33_method_22_code (1 : Nat) (Option.some (Jvm.ClassFile.FieldType.object "java/lang/Integer"))).before args0 about1 = true := code_word (m := ⟨10, 0⟩) (meth := k10m0) (c := k10c0) (by decide +kernel) rfl rfl rfl (by decide +kernel)
set_option maxRecDepth 65536 in
theorem w_c14 : (Jvm.Cond.code ({ cls := "java/lang/Integer", name := "intValue", desc := "()I" } : Jvm.MethodName) jdk_33_method_27_code (1 : Nat) (Option.some Jvm.ClassFile.FieldType.int)).before args0 about1 = true := code_word (m := ⟨10, 2⟩) (meth := k10m2) (c := k10c2) (by decide +kernel) rfl rfl rfl (by decide +kernel)
set_option maxRecDepth 65536 in
theorem w_c15 : (Jvm.Cond.code ({ cls := "com/example/moraine/moraine/formats/ColumnVector$Nullable", name := "setNull", desc := "(I)V" } : Jvm.MethodName) prog_23_method_2_code (2 : Nat) (Option.none : Option Jvm.ClassFile.FieldType)).before args0 about1 = true := code_word (m := ⟨3, 1⟩) (meth := k3m1) (c := k3c1) (by decide +kernel) rfl rfl rfl (by decide +kernel)
set_option maxRecDepth 65536 in
theorem w_c16 : (Jvm.Cond.code ({ cls := "java/lang/Integer", name := "<init>", desc := "(I)V" } : Jvm.MethodName) jdk_33_method_23_code (2 : Nat) (Option.none : Option Jvm.ClassFile.FieldType)).before args0 about1 = true := code_word (m := ⟨10, 1⟩) (meth := k10m1) (c := k10c1) (by decide +kernel) rfl rfl rfl (by decide +kernel)
set_option maxRecDepth 65536 in
theorem w_c17 : (Jvm.Cond.code ({ cls := "java/lang/Number", name := "<init>", desc := "()V" } : Jvm.MethodName) jdk_18_method_1_code (1 : Nat) (Option.none : Option Jvm.ClassFile.FieldType)).before args0 about1 = true := code_word (m := ⟨6, 0⟩) (meth := k6m0) (c := k6c0) (by decide +kernel) rfl rfl rfl (by decide +kernel)
def codes1 : List Jvm.Cond := [Jvm.Cond.code x code maxLocals ret, Jvm.Cond.code ({ cls := "com/example/moraine/moraine/formats/ColumnVector$Ints", name := "<init>", desc := "(I)V" } : Jvm.MethodName) prog_21_method_1_code (2 : Nat) (Option.none : Option Jvm.ClassFile.FieldType), Jvm.Cond.code ({ cls := "com/example/moraine/moraine/formats/ColumnVector$Nullable", name := "<init>", desc := "(I)V" } : Jvm.MethodName) prog_23_method_1_code (2 : Nat) (Option.none : Option Jvm.ClassFile.FieldType), Jvm.Cond.code ({ cls := "com/example/moraine/moraine/formats/ColumnVector", name := "<init>", desc := "()V" } : Jvm.MethodName) prog_17_method_1_code (1 : Nat) (Option.none : Option Jvm.ClassFile.FieldType), Jvm.Cond.code ({ cls := "java/lang/Object", name := "<init>", desc := "()V" } : Jvm.MethodName) object_method_1_code (1 : Nat) (Option.none : Option Jvm.ClassFile.FieldType), Jvm.Cond.code ({ cls := "com/example/moraine/moraine/formats/NullableKeepPinLaw", name := "fill", desc := "(Lcom/example/moraine/moraine/formats/ColumnVector$Ints;III)V" } : Jvm.MethodName) method_3_code (4 : Nat) (Option.none : Option Jvm.ClassFile.FieldType), Jvm.Cond.code ({ cls := "com/example/moraine/moraine/formats/ColumnVector$Ints", name := "set", desc := "(II)V" } : Jvm.MethodName) prog_21_method_4_code (3 : Nat) (Option.none : Option Jvm.ClassFile.FieldType), Jvm.Cond.code ({ cls := "com/example/moraine/moraine/formats/ColumnVector$Nullable", name := "present", desc := "(I)V" } : Jvm.MethodName) prog_23_method_3_code (2 : Nat) (Option.none : Option Jvm.ClassFile.FieldType), Jvm.Cond.code ({ cls := "com/example/moraine/moraine/formats/ColumnVector$Ints", name := "keep", desc := "([II)V" } : Jvm.MethodName) prog_21_method_6_code (4 : Nat) (Option.none : Option Jvm.ClassFile.FieldType), Jvm.Cond.code ({ cls := "com/example/moraine/moraine/formats/ColumnVector$Nullable", name := "keep", desc := "([II)V" } : Jvm.MethodName) prog_23_method_7_code (4 : Nat) (Option.none : Option Jvm.ClassFile.FieldType), Jvm.Cond.code ({ cls := "com/example/moraine/moraine/formats/NullableKeepPinLaw", name := "check", desc := "(Lcom/example/moraine/moraine/formats/ColumnVector$Ints;II[II[I)Z" } : Jvm.MethodName) method_4_code (9 : Nat) (Option.some Jvm.ClassFile.FieldType.boolean), Jvm.Cond.code ({ cls := "com/example/moraine/moraine/formats/ColumnVector$Ints", name := "get", desc := "(I)Ljava/lang/Object;" } : Jvm.MethodName) prog_21_method_2_code (2 : Nat) (Option.some (Jvm.ClassFile.FieldType.object "java/lang/Object")), Jvm.Cond.code ({ cls := "com/example/moraine/moraine/formats/ColumnVector$Nullable", name := "isNull", desc := "(I)Z" } : Jvm.MethodName) prog_23_method_5_code (2 : Nat) (Option.some Jvm.ClassFile.FieldType.boolean), Jvm.Cond.code ({ cls := "java/lang/Integer", name := "valueOf", desc := "(I)Ljava/lang/Integer;" } : Jvm.MethodName) jdk_33_method_22_code (1 : Nat) (Option.some (Jvm.ClassFile.FieldType.object "java/lang/Integer")), Jvm.Cond.code ({ cls := "java/lang/Integer", name := "intValue", desc := "()I" } : Jvm.MethodName) jdk_33_method_27_code (1 : Nat) (Option.some Jvm.ClassFile.FieldType.int), Jvm.Cond.code ({ cls := "com/example/moraine/moraine/formats/ColumnVector$Nullable", name := "setNull", desc := "(I)V" } : Jvm.MethodName) prog_23_method_2_code (2 : Nat) (Option.none : Option Jvm.ClassFile.FieldType), Jvm.Cond.code ({ cls := "java/lang/Integer", name := "<init>", desc := "(I)V" } : Jvm.MethodName) jdk_33_method_23_code (2 : Nat) (Option.none : Option Jvm.ClassFile.FieldType), Jvm.Cond.code ({ cls := "java/lang/Number", name := "<init>", desc := "()V" } : Jvm.MethodName) jdk_18_method_1_code (1 : Nat) (Option.none : Option Jvm.ClassFile.FieldType)]
set_option maxRecDepth 65536 in
theorem codes_eq : words1.filter isCode = codes1 := rfl
theorem w_codes : ∀ c ∈ words1.filter isCode, c.before args0 about1 = true := by
  rw [codes_eq]
  intro c hc
  simp only [codes1, List.mem_cons, List.not_mem_nil, or_false] at hc
  rcases hc with rfl | rfl | rfl | rfl | rfl | rfl | rfl | rfl | rfl | rfl | rfl | rfl | rfl | rfl | rfl | rfl | rfl | rfl
  · exact w_c0
  · exact w_c1
  · exact w_c2
  · exact w_c3
  · exact w_c4
  · exact w_c5
  · exact w_c6
  · exact w_c7
  · exact w_c8
  · exact w_c9
  · exact w_c10
  · exact w_c11
  · exact w_c12
  · exact w_c13
  · exact w_c14
  · exact w_c15
  · exact w_c16
  · exact w_c17
set_option maxRecDepth 65536 in
theorem w_t1 : (words1.take 24).all (fun c => isCode c || c.before args0 about1) = true := by decide +kernel
set_option maxRecDepth 65536 in
theorem w_t2 : ((words1.drop 24).take 24).all (fun c => isCode c || c.before args0 about1) = true := by decide +kernel
set_option maxRecDepth 65536 in
theorem w_t3 : (((words1.drop 24).drop 24).take 24).all (fun c => isCode c || c.before args0 about1) = true := by decide +kernel
set_option maxRecDepth 65536 in
theorem w_t4 : ((((words1.drop 24).drop 24).drop 24).take 24).all (fun c => isCode c || c.before args0 about1) = true := by decide +kernel
set_option maxRecDepth 65536 in
theorem w_t5 : ((((words1.drop 24).drop 24).drop 24).drop 24).all (fun c => isCode c || c.before args0 about1) = true := by decide +kernel
theorem w_tables : (allAtoms (Jvm.Cond.code x code maxLocals ret :: tables_1)).before args0 about1 = true := by
  rw [allAtoms_all]
  show words1.all (fun c => c.before args0 about1) = true
  refine all_split ?_ w_codes
  rw [← List.take_append_drop 24 words1, List.all_append, w_t1, ← List.take_append_drop 24 (words1.drop 24), List.all_append, w_t2, ← List.take_append_drop 24 ((words1.drop 24).drop 24), List.all_append, w_t3, ← List.take_append_drop 24 (((words1.drop 24).drop 24).drop 24), List.all_append, w_t4, w_t5]
  rfl
set_option maxRecDepth 65536 in
theorem w_rest : rest_1_c.before args0 about1 = true := by decide +kernel
set_option maxRecDepth 65536 in
theorem w_case : (Jvm.Cond.and given_1 narrow_1).before args0 about1 = true := by decide +kernel
theorem w_applies : (headSpec (Jvm.Cond.code x code maxLocals ret :: tables_1) room_1).applies x e0.platform about1 = true :=
  (Spec.applies_iff w_frames).mpr ⟨w_running, w_runnable, w_alone, w_named, w_hears, w_ripe, w_room, w_tables⟩
theorem atStart : AtStart classFile x code maxLocals ret World_1 tables_1 room_1 Calls_1 rest_1 Pre_1 launch0 p0 e0 about1 theMethod args0 below0 :=
  ⟨lists_1, trivial, launch0.admits_env _ _ _, launch0.least_env, fairChoices_fair.cas, fairChoices_fair.clock, w_frames, w_args, w_heap, w_applies, trivial, w_rest, w_case⟩
end start1
theorem witness_1 : WitnessClaimed_1 := ⟨start1.p0, start1.e0, start1.about1, start1.theMethod, start1.args0, start1.below0, start1.atStart⟩
end Jvm.Pilot.@@N@@
