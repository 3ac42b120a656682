import JvmDerived
import JvmDerived.Pilot.@@N@@Statement
import JvmDerived.Pilot.@@N@@Code
set_option linter.unusedVariables false
set_option linter.unusedSimpArgs false
namespace Jvm.Pilot.@@N@@
open Jvm Jvm.ClassFile Sem Op Lib Jvm.Free Jvm.Stand Jvm.LawKit Jvm.RoadKit Bundle Jvm.Pilot.@@N@@.Jvm.D
section OwnKit
variable {p : Program} {l : Launch} {e : Env} {R : Room} {s : State} {m : MethodId} {args : Array Value} {below : List Frame} {meth : Method} {c : Code} {T : State} {locs : List Loc} {cells slots : Nat} {Z : State} {h h' : Heap} {a b : Addr} {ty : FieldType}
/-- from S the run comes to a state of which F holds -/
def oGl (p : Program) (e : Env) (below : List Frame) (S : State) (F : State → Prop) : Prop := ∃ t, Steps p.tables e below S t ∧ F t
theorem oOn {S S' : State} {F : State → Prop} (st : ∀ t, Steps p.tables e below S' t → Steps p.tables e below S t) (k : oGl p e below S' F) : oGl p e below S F := by
  obtain ⟨t, k1, k2⟩ := k; exact ⟨t, st t k1, k2⟩
theorem oSt {S S' : State} {F : State → Prop} (st : Steps p.tables e below S S') (k : oGl p e below S' F) : oGl p e below S F := by
  obtain ⟨t, k1, k2⟩ := k; exact ⟨t, st.trans k1, k2⟩
theorem oCast {g g' : JFrame} {F : State → Prop} (q : g = g') (k : oGl p e below (T.setTop g') F) : oGl p e below (T.setTop g) F := q ▸ k
def oFin (s : State) (below : List Frame) (Q : Option Value → Heap → List Loc → Prop) (C S : Nat) (t : State) : Prop := ∃ o, t.status = .running ∧ Ended t below o ∧ ∃ v L, o = .returned v ∧ Q v t.heap L ∧ FrameEnd s o t L C S
theorem oEnter {S0 : State} {Q : Option Value → Heap → List Loc → Prop} {C S : Nat} (k : oGl p e below S0 (oFin s below Q C S)) : ∃ s₂ o, Steps p.tables e below S0 s₂ ∧ s₂.status = .running ∧ Ended s₂ below o ∧ ∃ v L, o = .returned v ∧ Q v s₂.heap L ∧ FrameEnd s o s₂ L C S := by
  obtain ⟨t, k1, o, k2, k3, k4⟩ := k; exact ⟨t, o, k1, k2, k3, k4⟩
theorem oRetI (X : Stand p l e R s m args below meth c T locs cells slots) (hx : p.tables.exec = Jvm.exec) (hl : meth.locks = false) {pc : Nat} {Ls : Array Slot} {z : Int32} {rest : List Value} (hret : meth.sig.returnType = some .int) (hd : decode c.code pc = .ok (.ireturn, 1))
    {Q : Option Value → Heap → List Loc → Prop} {C S : Nat} (hc : cells ≤ C) (hs : slots ≤ S) (hq : Q (some (.int z)) T.heap locs) : oGl p e below (T.setTop (mkF m pc Ls (.int z :: rest))) (oFin s below Q C S) := by
  obtain ⟨fs, hr, hrun, hended, hW, hsame⟩ := X.leave (v := some (.int z)) (fun q => by rw [hret] at q; cases q) hl
  exact ⟨_, retOut X hx hret rfl (Or.inl ⟨rfl, Or.inl rfl, _, rfl⟩) hd hr, _, hrun, hended, _, _, rfl, hq, ⟨_, rfl⟩, hW, hsame.mono hc hs⟩
theorem oRetN {t : FieldType} (X : Stand p l e R s m args below meth c T locs cells slots) (hx : p.tables.exec = Jvm.exec) (hl : meth.locks = false) {pc : Nat} {Ls : Array Slot} {z : Int32} {rest : List Value} (hret : meth.sig.returnType = some t) (ht : t = .boolean ∨ t = .byte ∨ t = .char ∨ t = .short) (hd : decode c.code pc = .ok (.ireturn, 1))
    {Q : Option Value → Heap → List Loc → Prop} {C S : Nat} (hc : cells ≤ C) (hs : slots ≤ S) (hq : Q (some (.int (nar t z))) T.heap locs) : oGl p e below (T.setTop (mkF m pc Ls (.int z :: rest))) (oFin s below Q C S) := by
  obtain ⟨fs, hr, hrun, hended, hW, hsame⟩ := X.leave (v := some (.int (nar t z))) (fun q => by rw [hret] at q; cases q) hl
  exact ⟨_, retN X hx hret ht hd hr, _, hrun, hended, _, _, rfl, hq, ⟨_, rfl⟩, hW, hsame.mono hc hs⟩
theorem oRetJ (X : Stand p l e R s m args below meth c T locs cells slots) (hx : p.tables.exec = Jvm.exec) (hl : meth.locks = false) {pc : Nat} {Ls : Array Slot} {z : Int64} {rest : List Value} (hret : meth.sig.returnType = some .long) (hd : decode c.code pc = .ok (.lreturn, 1))
    {Q : Option Value → Heap → List Loc → Prop} {C S : Nat} (hc : cells ≤ C) (hs : slots ≤ S) (hq : Q (some (.long z)) T.heap locs) : oGl p e below (T.setTop (mkF m pc Ls (.long z :: rest))) (oFin s below Q C S) := by
  obtain ⟨fs, hr, hrun, hended, hW, hsame⟩ := X.leave (v := some (.long z)) (fun q => by rw [hret] at q; cases q) hl
  exact ⟨_, retOut X hx hret rfl (Or.inr (Or.inl ⟨rfl, rfl, _, rfl⟩)) hd hr, _, hrun, hended, _, _, rfl, hq, ⟨_, rfl⟩, hW, hsame.mono hc hs⟩
theorem narrow_ref {t : FieldType} {w : Value} (ht : t.isReference = true) (hw : w.isRef = true) : narrow t w = w := by
  rcases ref_cases hw with rfl | ⟨a, rfl⟩ <;> cases t <;> first | rfl | (cases ht; done)
theorem oRetR {t : FieldType} (X : Stand p l e R s m args below meth c T locs cells slots) (hx : p.tables.exec = Jvm.exec) (hl : meth.locks = false) {pc : Nat} {Ls : Array Slot} {w : Value} {rest : List Value} (hret : meth.sig.returnType = some t) (ht : t.isReference = true) (hw : w.isRef = true) (hd : decode c.code pc = .ok (.areturn, 1))
    {Q : Option Value → Heap → List Loc → Prop} {C S : Nat} (hc : cells ≤ C) (hs : slots ≤ S) (hq : Q (some w) T.heap locs) : oGl p e below (T.setTop (mkF m pc Ls (w :: rest))) (oFin s below Q C S) := by
  obtain ⟨fs, hr, hrun, hended, hW, hsame⟩ := X.leave (v := some w) (fun q => by rw [hret] at q; cases q) hl
  exact ⟨_, retOut X hx hret (narrow_ref ht hw) (Or.inr (Or.inr (Or.inr (Or.inr ⟨rfl, ht, hw⟩)))) hd hr, _, hrun, hended, _, _, rfl, hq, ⟨_, rfl⟩, hW, hsame.mono hc hs⟩
theorem oRet0 (X : Stand p l e R s m args below meth c T locs cells slots) (hx : p.tables.exec = Jvm.exec) (hl : meth.locks = false) {pc : Nat} {Ls : Array Slot} (hret : meth.sig.returnType = none) (hd : decode c.code pc = .ok (.return_, 1))
    {Q : Option Value → Heap → List Loc → Prop} {C S : Nat} (hc : cells ≤ C) (hs : slots ≤ S) (hq : Q none T.heap locs) : oGl p e below (T.setTop (mkF m pc Ls [])) (oFin s below Q C S) := by
  obtain ⟨fs, hr, hrun, hended, hW, hsame⟩ := X.leave (v := none) (fun _ => rfl) hl
  exact ⟨_, X.returnOut hx hret hd hr, _, hrun, hended, _, _, rfl, hq, ⟨_, rfl⟩, hW, hsame.mono hc hs⟩
theorem oCat {w : Value} (hw : w.isRef = true) : w.category = 1 := by rcases ref_cases hw with rfl | ⟨a, rfl⟩ <;> rfl
theorem oSto {ls : Array Slot} {i : Nat} {v : Value} {o : Slot} (hold : ls[i]? = some o) (ho : o = .unset ∨ ∃ w, o = .val w ∧ w.category = 1) (hv : v.category = 1) : storeLocals ls i v = some (ls.setIfInBounds i (.val v)) := XS.store1 hold ho hv
theorem oDup2 {tb : Tables} [Ours tb] {target : State} {g : JFrame} (hh : At T m c below) (hx : tb.exec = Jvm.exec) (hg : g.method = m) {x y : Value} {rest : List Value} (hd : decode c.code g.pc = .ok (.dup2, 1)) (hs : g.stack = x :: y :: rest) (hc : x.category = 1) (hc2 : y.category = 1)
    (hr : Steps tb e below (T.setTop { g with pc := g.pc + 1, stack := x :: y :: x :: y :: rest }) target) : Steps tb e below (T.setTop g) target := by
  subst hg
  jvm_step hh [hh.top, hx, hd, hs, hc, hc2]
  exact hr
theorem oDupX2 {tb : Tables} [Ours tb] {target : State} {g : JFrame} (hh : At T m c below) (hx : tb.exec = Jvm.exec) (hg : g.method = m) {x y z : Value} {rest : List Value} (hd : decode c.code g.pc = .ok (.dup_x2, 1)) (hs : g.stack = x :: y :: z :: rest) (hc : x.category = 1) (hc2 : y.category = 1) (hc3 : z.category = 1)
    (hr : Steps tb e below (T.setTop { g with pc := g.pc + 1, stack := x :: y :: z :: x :: rest }) target) : Steps tb e below (T.setTop g) target := by
  subst hg
  jvm_step hh [hh.top, hx, hd, hs, hc, hc2, hc3]
  exact hr
theorem oNe {x y : Nat} (q : x < y ∨ y < x) : x ≠ y := by omega
/-! single steps -/
theorem siload {pc pc' : Nat} {Ls : Array Slot} {F : State → Prop} {st : List Value} {k : Nat} {v : Int32} (X : Stand p l e R s m args below meth c T locs cells slots) (hx : p.tables.exec = Jvm.exec) (hd : decode c.code pc = .ok (.iload k, 2)) (hp : pc + 2 = pc') (hl : Ls[k]? = some (.val (.int v))) (kk : oGl p e below (T.setTop (mkF m pc' Ls (.int v :: st))) F) : oGl p e below (T.setTop (mkF m pc Ls (st))) F := by
  subst hp
  exact oOn (fun _ kK => XS.iload X.here hx rfl hd hl kK) kk
theorem siloadN {pc pc' : Nat} {Ls : Array Slot} {F : State → Prop} {st : List Value} {k : Fin 4} {v : Int32} (X : Stand p l e R s m args below meth c T locs cells slots) (hx : p.tables.exec = Jvm.exec) (hd : decode c.code pc = .ok (.iload_n k, 1)) (hp : pc + 1 = pc') (hl : Ls[k.val]? = some (.val (.int v))) (kk : oGl p e below (T.setTop (mkF m pc' Ls (.int v :: st))) F) : oGl p e below (T.setTop (mkF m pc Ls (st))) F := by
  subst hp
  exact oOn (fun _ kK => XS.iloadN X.here hx rfl hd hl kK) kk
theorem slload {pc pc' : Nat} {Ls : Array Slot} {F : State → Prop} {st : List Value} {k : Nat} {v : Int64} (X : Stand p l e R s m args below meth c T locs cells slots) (hx : p.tables.exec = Jvm.exec) (hd : decode c.code pc = .ok (.lload k, 2)) (hp : pc + 2 = pc') (hl : Ls[k]? = some (.val (.long v))) (kk : oGl p e below (T.setTop (mkF m pc' Ls (.long v :: st))) F) : oGl p e below (T.setTop (mkF m pc Ls (st))) F := by
  subst hp
  exact oOn (fun _ kK => XS.lload X.here hx rfl hd hl kK) kk
theorem slloadN {pc pc' : Nat} {Ls : Array Slot} {F : State → Prop} {st : List Value} {k : Fin 4} {v : Int64} (X : Stand p l e R s m args below meth c T locs cells slots) (hx : p.tables.exec = Jvm.exec) (hd : decode c.code pc = .ok (.lload_n k, 1)) (hp : pc + 1 = pc') (hl : Ls[k.val]? = some (.val (.long v))) (kk : oGl p e below (T.setTop (mkF m pc' Ls (.long v :: st))) F) : oGl p e below (T.setTop (mkF m pc Ls (st))) F := by
  subst hp
  exact oOn (fun _ kK => XS.lloadN X.here hx rfl hd hl kK) kk
theorem saload {pc pc' : Nat} {Ls : Array Slot} {F : State → Prop} {st : List Value} {k : Nat} {v : Value} (X : Stand p l e R s m args below meth c T locs cells slots) (hx : p.tables.exec = Jvm.exec) (hd : decode c.code pc = .ok (.aload k, 2)) (hp : pc + 2 = pc') (hl : Ls[k]? = some (.val v)) (hv : v.isRef = true) (kk : oGl p e below (T.setTop (mkF m pc' Ls (v :: st))) F) : oGl p e below (T.setTop (mkF m pc Ls (st))) F := by
  subst hp
  exact oOn (fun _ kK => XS.aload X.here hx rfl hd hl hv kK) kk
theorem saloadN {pc pc' : Nat} {Ls : Array Slot} {F : State → Prop} {st : List Value} {k : Fin 4} {v : Value} (X : Stand p l e R s m args below meth c T locs cells slots) (hx : p.tables.exec = Jvm.exec) (hd : decode c.code pc = .ok (.aload_n k, 1)) (hp : pc + 1 = pc') (hl : Ls[k.val]? = some (.val v)) (hv : v.isRef = true) (kk : oGl p e below (T.setTop (mkF m pc' Ls (v :: st))) F) : oGl p e below (T.setTop (mkF m pc Ls (st))) F := by
  subst hp
  exact oOn (fun _ kK => XS.aloadN X.here hx rfl hd hl hv kK) kk
theorem sistore {pc pc' : Nat} {Ls : Array Slot} {F : State → Prop} {st : List Value} {k : Nat} {x : Int32} {l' : Array Slot} (X : Stand p l e R s m args below meth c T locs cells slots) (hx : p.tables.exec = Jvm.exec) (hd : decode c.code pc = .ok (.istore k, 2)) (hp : pc + 2 = pc') (hl : storeLocals Ls k (.int x) = some l') (kk : oGl p e below (T.setTop (mkF m pc' l' (st))) F) : oGl p e below (T.setTop (mkF m pc Ls (.int x :: st))) F := by
  subst hp
  exact oOn (fun _ kK => XS.istore X.here hx rfl hd rfl hl kK) kk
theorem sistoreN {pc pc' : Nat} {Ls : Array Slot} {F : State → Prop} {st : List Value} {k : Fin 4} {x : Int32} {l' : Array Slot} (X : Stand p l e R s m args below meth c T locs cells slots) (hx : p.tables.exec = Jvm.exec) (hd : decode c.code pc = .ok (.istore_n k, 1)) (hp : pc + 1 = pc') (hl : storeLocals Ls k.val (.int x) = some l') (kk : oGl p e below (T.setTop (mkF m pc' l' (st))) F) : oGl p e below (T.setTop (mkF m pc Ls (.int x :: st))) F := by
  subst hp
  exact oOn (fun _ kK => XS.istoreN X.here hx rfl hd rfl hl kK) kk
theorem slstore {pc pc' : Nat} {Ls : Array Slot} {F : State → Prop} {st : List Value} {k : Nat} {x : Int64} {l' : Array Slot} (X : Stand p l e R s m args below meth c T locs cells slots) (hx : p.tables.exec = Jvm.exec) (hd : decode c.code pc = .ok (.lstore k, 2)) (hp : pc + 2 = pc') (hl : storeLocals Ls k (.long x) = some l') (kk : oGl p e below (T.setTop (mkF m pc' l' (st))) F) : oGl p e below (T.setTop (mkF m pc Ls (.long x :: st))) F := by
  subst hp
  exact oOn (fun _ kK => XS.lstore X.here hx rfl hd rfl hl kK) kk
theorem slstoreN {pc pc' : Nat} {Ls : Array Slot} {F : State → Prop} {st : List Value} {k : Fin 4} {x : Int64} {l' : Array Slot} (X : Stand p l e R s m args below meth c T locs cells slots) (hx : p.tables.exec = Jvm.exec) (hd : decode c.code pc = .ok (.lstore_n k, 1)) (hp : pc + 1 = pc') (hl : storeLocals Ls k.val (.long x) = some l') (kk : oGl p e below (T.setTop (mkF m pc' l' (st))) F) : oGl p e below (T.setTop (mkF m pc Ls (.long x :: st))) F := by
  subst hp
  exact oOn (fun _ kK => XS.lstoreN X.here hx rfl hd rfl hl kK) kk
theorem sastore {pc pc' : Nat} {Ls : Array Slot} {F : State → Prop} {st : List Value} {k : Nat} {x : Value} {l' : Array Slot} (X : Stand p l e R s m args below meth c T locs cells slots) (hx : p.tables.exec = Jvm.exec) (hd : decode c.code pc = .ok (.astore k, 2)) (hp : pc + 2 = pc') (hv : x.isRef = true) (hl : storeLocals Ls k x = some l') (kk : oGl p e below (T.setTop (mkF m pc' l' (st))) F) : oGl p e below (T.setTop (mkF m pc Ls (x :: st))) F := by
  subst hp
  exact oOn (fun _ kK => XS.astore X.here hx rfl hd rfl hv hl kK) kk
theorem sastoreN {pc pc' : Nat} {Ls : Array Slot} {F : State → Prop} {st : List Value} {k : Fin 4} {x : Value} {l' : Array Slot} (X : Stand p l e R s m args below meth c T locs cells slots) (hx : p.tables.exec = Jvm.exec) (hd : decode c.code pc = .ok (.astore_n k, 1)) (hp : pc + 1 = pc') (hv : x.isRef = true) (hl : storeLocals Ls k.val x = some l') (kk : oGl p e below (T.setTop (mkF m pc' l' (st))) F) : oGl p e below (T.setTop (mkF m pc Ls (x :: st))) F := by
  subst hp
  exact oOn (fun _ kK => XS.astoreN X.here hx rfl hd rfl hv hl kK) kk
theorem siconst {pc pc' : Nat} {Ls : Array Slot} {F : State → Prop} {st : List Value} {i : Int} {z : Int32} (X : Stand p l e R s m args below meth c T locs cells slots) (hx : p.tables.exec = Jvm.exec) (hd : decode c.code pc = .ok (.iconst i, 1)) (hp : pc + 1 = pc') (hz : Int32.ofInt i = z) (kk : oGl p e below (T.setTop (mkF m pc' Ls (.int z :: st))) F) : oGl p e below (T.setTop (mkF m pc Ls (st))) F := by
  subst hp hz
  exact oOn (fun _ kK => XS.iconst X.here hx rfl hd kK) kk
theorem sbipush {pc pc' : Nat} {Ls : Array Slot} {F : State → Prop} {st : List Value} {i : Int} {z : Int32} (X : Stand p l e R s m args below meth c T locs cells slots) (hx : p.tables.exec = Jvm.exec) (hd : decode c.code pc = .ok (.bipush i, 2)) (hp : pc + 2 = pc') (hz : (Int8.ofInt i).toInt32 = z) (kk : oGl p e below (T.setTop (mkF m pc' Ls (.int z :: st))) F) : oGl p e below (T.setTop (mkF m pc Ls (st))) F := by
  subst hp hz
  exact oOn (fun _ kK => XS.bipush X.here hx rfl hd kK) kk
theorem ssipush {pc pc' : Nat} {Ls : Array Slot} {F : State → Prop} {st : List Value} {i : Int} {z : Int32} (X : Stand p l e R s m args below meth c T locs cells slots) (hx : p.tables.exec = Jvm.exec) (hd : decode c.code pc = .ok (.sipush i, 3)) (hp : pc + 3 = pc') (hz : (Int16.ofInt i).toInt32 = z) (kk : oGl p e below (T.setTop (mkF m pc' Ls (.int z :: st))) F) : oGl p e below (T.setTop (mkF m pc Ls (st))) F := by
  subst hp hz
  exact oOn (fun _ kK => XS.sipush X.here hx rfl hd kK) kk
theorem slconst {pc pc' : Nat} {Ls : Array Slot} {F : State → Prop} {st : List Value} {k : Fin 2} {z : Int64} (X : Stand p l e R s m args below meth c T locs cells slots) (hx : p.tables.exec = Jvm.exec) (hd : decode c.code pc = .ok (.lconst k, 1)) (hp : pc + 1 = pc') (hz : Int64.ofNat k = z) (kk : oGl p e below (T.setTop (mkF m pc' Ls (.long z :: st))) F) : oGl p e below (T.setTop (mkF m pc Ls (st))) F := by
  subst hp hz
  exact oOn (fun _ kK => XS.lconst X.here hx rfl hd kK) kk
theorem saconst_null {pc pc' : Nat} {Ls : Array Slot} {F : State → Prop} {st : List Value} (X : Stand p l e R s m args below meth c T locs cells slots) (hx : p.tables.exec = Jvm.exec) (hd : decode c.code pc = .ok (.aconst_null, 1)) (hp : pc + 1 = pc')  (kk : oGl p e below (T.setTop (mkF m pc' Ls (.null :: st))) F) : oGl p e below (T.setTop (mkF m pc Ls (st))) F := by
  subst hp
  exact oOn (fun _ kK => XS.aconstNull X.here hx rfl hd kK) kk
theorem siadd {pc pc' : Nat} {Ls : Array Slot} {F : State → Prop} {st : List Value} {x y z : Int32} (X : Stand p l e R s m args below meth c T locs cells slots) (hx : p.tables.exec = Jvm.exec) (hd : decode c.code pc = .ok (.iadd, 1)) (hp : pc + 1 = pc') (hz : x + y = z) (kk : oGl p e below (T.setTop (mkF m pc' Ls (.int z :: st))) F) : oGl p e below (T.setTop (mkF m pc Ls (.int y :: .int x :: st))) F := by
  subst hp hz
  exact oOn (fun _ kK => XS.iadd X.here hx rfl hd rfl kK) kk
theorem sladd {pc pc' : Nat} {Ls : Array Slot} {F : State → Prop} {st : List Value} {x y z : Int64} (X : Stand p l e R s m args below meth c T locs cells slots) (hx : p.tables.exec = Jvm.exec) (hd : decode c.code pc = .ok (.ladd, 1)) (hp : pc + 1 = pc') (hz : x + y = z) (kk : oGl p e below (T.setTop (mkF m pc' Ls (.long z :: st))) F) : oGl p e below (T.setTop (mkF m pc Ls (.long y :: .long x :: st))) F := by
  subst hp hz
  exact oOn (fun _ kK => XS.ladd X.here hx rfl hd rfl kK) kk
theorem sisub {pc pc' : Nat} {Ls : Array Slot} {F : State → Prop} {st : List Value} {x y z : Int32} (X : Stand p l e R s m args below meth c T locs cells slots) (hx : p.tables.exec = Jvm.exec) (hd : decode c.code pc = .ok (.isub, 1)) (hp : pc + 1 = pc') (hz : x - y = z) (kk : oGl p e below (T.setTop (mkF m pc' Ls (.int z :: st))) F) : oGl p e below (T.setTop (mkF m pc Ls (.int y :: .int x :: st))) F := by
  subst hp hz
  exact oOn (fun _ kK => XS.isub X.here hx rfl hd rfl kK) kk
theorem slsub {pc pc' : Nat} {Ls : Array Slot} {F : State → Prop} {st : List Value} {x y z : Int64} (X : Stand p l e R s m args below meth c T locs cells slots) (hx : p.tables.exec = Jvm.exec) (hd : decode c.code pc = .ok (.lsub, 1)) (hp : pc + 1 = pc') (hz : x - y = z) (kk : oGl p e below (T.setTop (mkF m pc' Ls (.long z :: st))) F) : oGl p e below (T.setTop (mkF m pc Ls (.long y :: .long x :: st))) F := by
  subst hp hz
  exact oOn (fun _ kK => XS.lsub X.here hx rfl hd rfl kK) kk
theorem simul {pc pc' : Nat} {Ls : Array Slot} {F : State → Prop} {st : List Value} {x y z : Int32} (X : Stand p l e R s m args below meth c T locs cells slots) (hx : p.tables.exec = Jvm.exec) (hd : decode c.code pc = .ok (.imul, 1)) (hp : pc + 1 = pc') (hz : x * y = z) (kk : oGl p e below (T.setTop (mkF m pc' Ls (.int z :: st))) F) : oGl p e below (T.setTop (mkF m pc Ls (.int y :: .int x :: st))) F := by
  subst hp hz
  exact oOn (fun _ kK => XS.imul X.here hx rfl hd rfl kK) kk
theorem slmul {pc pc' : Nat} {Ls : Array Slot} {F : State → Prop} {st : List Value} {x y z : Int64} (X : Stand p l e R s m args below meth c T locs cells slots) (hx : p.tables.exec = Jvm.exec) (hd : decode c.code pc = .ok (.lmul, 1)) (hp : pc + 1 = pc') (hz : x * y = z) (kk : oGl p e below (T.setTop (mkF m pc' Ls (.long z :: st))) F) : oGl p e below (T.setTop (mkF m pc Ls (.long y :: .long x :: st))) F := by
  subst hp hz
  exact oOn (fun _ kK => XS.lmul X.here hx rfl hd rfl kK) kk
theorem siand {pc pc' : Nat} {Ls : Array Slot} {F : State → Prop} {st : List Value} {x y z : Int32} (X : Stand p l e R s m args below meth c T locs cells slots) (hx : p.tables.exec = Jvm.exec) (hd : decode c.code pc = .ok (.iand, 1)) (hp : pc + 1 = pc') (hz : x &&& y = z) (kk : oGl p e below (T.setTop (mkF m pc' Ls (.int z :: st))) F) : oGl p e below (T.setTop (mkF m pc Ls (.int y :: .int x :: st))) F := by
  subst hp hz
  exact oOn (fun _ kK => XS.iand X.here hx rfl hd rfl kK) kk
theorem sland {pc pc' : Nat} {Ls : Array Slot} {F : State → Prop} {st : List Value} {x y z : Int64} (X : Stand p l e R s m args below meth c T locs cells slots) (hx : p.tables.exec = Jvm.exec) (hd : decode c.code pc = .ok (.land, 1)) (hp : pc + 1 = pc') (hz : x &&& y = z) (kk : oGl p e below (T.setTop (mkF m pc' Ls (.long z :: st))) F) : oGl p e below (T.setTop (mkF m pc Ls (.long y :: .long x :: st))) F := by
  subst hp hz
  exact oOn (fun _ kK => XS.land X.here hx rfl hd rfl kK) kk
theorem sior {pc pc' : Nat} {Ls : Array Slot} {F : State → Prop} {st : List Value} {x y z : Int32} (X : Stand p l e R s m args below meth c T locs cells slots) (hx : p.tables.exec = Jvm.exec) (hd : decode c.code pc = .ok (.ior, 1)) (hp : pc + 1 = pc') (hz : x ||| y = z) (kk : oGl p e below (T.setTop (mkF m pc' Ls (.int z :: st))) F) : oGl p e below (T.setTop (mkF m pc Ls (.int y :: .int x :: st))) F := by
  subst hp hz
  exact oOn (fun _ kK => XS.ior X.here hx rfl hd rfl kK) kk
theorem slor {pc pc' : Nat} {Ls : Array Slot} {F : State → Prop} {st : List Value} {x y z : Int64} (X : Stand p l e R s m args below meth c T locs cells slots) (hx : p.tables.exec = Jvm.exec) (hd : decode c.code pc = .ok (.lor, 1)) (hp : pc + 1 = pc') (hz : x ||| y = z) (kk : oGl p e below (T.setTop (mkF m pc' Ls (.long z :: st))) F) : oGl p e below (T.setTop (mkF m pc Ls (.long y :: .long x :: st))) F := by
  subst hp hz
  exact oOn (fun _ kK => XS.lor X.here hx rfl hd rfl kK) kk
theorem sixor {pc pc' : Nat} {Ls : Array Slot} {F : State → Prop} {st : List Value} {x y z : Int32} (X : Stand p l e R s m args below meth c T locs cells slots) (hx : p.tables.exec = Jvm.exec) (hd : decode c.code pc = .ok (.ixor, 1)) (hp : pc + 1 = pc') (hz : x ^^^ y = z) (kk : oGl p e below (T.setTop (mkF m pc' Ls (.int z :: st))) F) : oGl p e below (T.setTop (mkF m pc Ls (.int y :: .int x :: st))) F := by
  subst hp hz
  exact oOn (fun _ kK => XS.ixor X.here hx rfl hd rfl kK) kk
theorem slxor {pc pc' : Nat} {Ls : Array Slot} {F : State → Prop} {st : List Value} {x y z : Int64} (X : Stand p l e R s m args below meth c T locs cells slots) (hx : p.tables.exec = Jvm.exec) (hd : decode c.code pc = .ok (.lxor, 1)) (hp : pc + 1 = pc') (hz : x ^^^ y = z) (kk : oGl p e below (T.setTop (mkF m pc' Ls (.long z :: st))) F) : oGl p e below (T.setTop (mkF m pc Ls (.long y :: .long x :: st))) F := by
  subst hp hz
  exact oOn (fun _ kK => XS.lxor X.here hx rfl hd rfl kK) kk
theorem sishl {pc pc' : Nat} {Ls : Array Slot} {F : State → Prop} {st : List Value} {x y z : Int32} (X : Stand p l e R s m args below meth c T locs cells slots) (hx : p.tables.exec = Jvm.exec) (hd : decode c.code pc = .ok (.ishl, 1)) (hp : pc + 1 = pc') (hz : x <<< (y &&& 31) = z) (kk : oGl p e below (T.setTop (mkF m pc' Ls (.int z :: st))) F) : oGl p e below (T.setTop (mkF m pc Ls (.int y :: .int x :: st))) F := by
  subst hp hz
  exact oOn (fun _ kK => XS.ishl X.here hx rfl hd rfl kK) kk
theorem sishr {pc pc' : Nat} {Ls : Array Slot} {F : State → Prop} {st : List Value} {x y z : Int32} (X : Stand p l e R s m args below meth c T locs cells slots) (hx : p.tables.exec = Jvm.exec) (hd : decode c.code pc = .ok (.ishr, 1)) (hp : pc + 1 = pc') (hz : x >>> (y &&& 31) = z) (kk : oGl p e below (T.setTop (mkF m pc' Ls (.int z :: st))) F) : oGl p e below (T.setTop (mkF m pc Ls (.int y :: .int x :: st))) F := by
  subst hp hz
  exact oOn (fun _ kK => XS.ishr X.here hx rfl hd rfl kK) kk
theorem siushr {pc pc' : Nat} {Ls : Array Slot} {F : State → Prop} {st : List Value} {x y z : Int32} (X : Stand p l e R s m args below meth c T locs cells slots) (hx : p.tables.exec = Jvm.exec) (hd : decode c.code pc = .ok (.iushr, 1)) (hp : pc + 1 = pc') (hz : (x.toUInt32 >>> (y &&& 31).toUInt32).toInt32 = z) (kk : oGl p e below (T.setTop (mkF m pc' Ls (.int z :: st))) F) : oGl p e below (T.setTop (mkF m pc Ls (.int y :: .int x :: st))) F := by
  subst hp hz
  exact oOn (fun _ kK => XS.iushr X.here hx rfl hd rfl kK) kk
theorem slshl {pc pc' : Nat} {Ls : Array Slot} {F : State → Prop} {st : List Value} {x z : Int64} {y : Int32} (X : Stand p l e R s m args below meth c T locs cells slots) (hx : p.tables.exec = Jvm.exec) (hd : decode c.code pc = .ok (.lshl, 1)) (hp : pc + 1 = pc') (hz : x <<< (y &&& 0x3f).toInt64 = z) (kk : oGl p e below (T.setTop (mkF m pc' Ls (.long z :: st))) F) : oGl p e below (T.setTop (mkF m pc Ls (.int y :: .long x :: st))) F := by
  subst hp hz
  exact oOn (fun _ kK => XS.lshl X.here hx rfl hd rfl kK) kk
theorem slshr {pc pc' : Nat} {Ls : Array Slot} {F : State → Prop} {st : List Value} {x z : Int64} {y : Int32} (X : Stand p l e R s m args below meth c T locs cells slots) (hx : p.tables.exec = Jvm.exec) (hd : decode c.code pc = .ok (.lshr, 1)) (hp : pc + 1 = pc') (hz : x >>> (y &&& 0x3f).toInt64 = z) (kk : oGl p e below (T.setTop (mkF m pc' Ls (.long z :: st))) F) : oGl p e below (T.setTop (mkF m pc Ls (.int y :: .long x :: st))) F := by
  subst hp hz
  exact oOn (fun _ kK => XS.lshr X.here hx rfl hd rfl kK) kk
theorem slushr {pc pc' : Nat} {Ls : Array Slot} {F : State → Prop} {st : List Value} {x z : Int64} {y : Int32} (X : Stand p l e R s m args below meth c T locs cells slots) (hx : p.tables.exec = Jvm.exec) (hd : decode c.code pc = .ok (.lushr, 1)) (hp : pc + 1 = pc') (hz : (x.toUInt64 >>> (y &&& 0x3f).toInt64.toUInt64).toInt64 = z) (kk : oGl p e below (T.setTop (mkF m pc' Ls (.long z :: st))) F) : oGl p e below (T.setTop (mkF m pc Ls (.int y :: .long x :: st))) F := by
  subst hp hz
  exact oOn (fun _ kK => XS.lushr X.here hx rfl hd rfl kK) kk
theorem sineg {pc pc' : Nat} {Ls : Array Slot} {F : State → Prop} {st : List Value} {x : Int32} {z : Int32} (X : Stand p l e R s m args below meth c T locs cells slots) (hx : p.tables.exec = Jvm.exec) (hd : decode c.code pc = .ok (.ineg, 1)) (hp : pc + 1 = pc') (hz : -x = z) (kk : oGl p e below (T.setTop (mkF m pc' Ls (.int z :: st))) F) : oGl p e below (T.setTop (mkF m pc Ls (.int x :: st))) F := by
  subst hp hz
  exact oOn (fun _ kK => XS.ineg X.here hx rfl hd rfl kK) kk
theorem slneg {pc pc' : Nat} {Ls : Array Slot} {F : State → Prop} {st : List Value} {x : Int64} {z : Int64} (X : Stand p l e R s m args below meth c T locs cells slots) (hx : p.tables.exec = Jvm.exec) (hd : decode c.code pc = .ok (.lneg, 1)) (hp : pc + 1 = pc') (hz : -x = z) (kk : oGl p e below (T.setTop (mkF m pc' Ls (.long z :: st))) F) : oGl p e below (T.setTop (mkF m pc Ls (.long x :: st))) F := by
  subst hp hz
  exact oOn (fun _ kK => XS.lneg X.here hx rfl hd rfl kK) kk
theorem si2l {pc pc' : Nat} {Ls : Array Slot} {F : State → Prop} {st : List Value} {x : Int32} {z : Int64} (X : Stand p l e R s m args below meth c T locs cells slots) (hx : p.tables.exec = Jvm.exec) (hd : decode c.code pc = .ok (.i2l, 1)) (hp : pc + 1 = pc') (hz : x.toInt64 = z) (kk : oGl p e below (T.setTop (mkF m pc' Ls (.long z :: st))) F) : oGl p e below (T.setTop (mkF m pc Ls (.int x :: st))) F := by
  subst hp hz
  exact oOn (fun _ kK => XS.i2l X.here hx rfl hd rfl kK) kk
theorem sl2i {pc pc' : Nat} {Ls : Array Slot} {F : State → Prop} {st : List Value} {x : Int64} {z : Int32} (X : Stand p l e R s m args below meth c T locs cells slots) (hx : p.tables.exec = Jvm.exec) (hd : decode c.code pc = .ok (.l2i, 1)) (hp : pc + 1 = pc') (hz : x.toInt32 = z) (kk : oGl p e below (T.setTop (mkF m pc' Ls (.int z :: st))) F) : oGl p e below (T.setTop (mkF m pc Ls (.long x :: st))) F := by
  subst hp hz
  exact oOn (fun _ kK => XS.l2i X.here hx rfl hd rfl kK) kk
theorem si2b {pc pc' : Nat} {Ls : Array Slot} {F : State → Prop} {st : List Value} {x : Int32} {z : Int32} (X : Stand p l e R s m args below meth c T locs cells slots) (hx : p.tables.exec = Jvm.exec) (hd : decode c.code pc = .ok (.i2b, 1)) (hp : pc + 1 = pc') (hz : x.toInt8.toInt32 = z) (kk : oGl p e below (T.setTop (mkF m pc' Ls (.int z :: st))) F) : oGl p e below (T.setTop (mkF m pc Ls (.int x :: st))) F := by
  subst hp hz
  exact oOn (fun _ kK => XS.i2b X.here hx rfl hd rfl kK) kk
theorem si2s {pc pc' : Nat} {Ls : Array Slot} {F : State → Prop} {st : List Value} {x : Int32} {z : Int32} (X : Stand p l e R s m args below meth c T locs cells slots) (hx : p.tables.exec = Jvm.exec) (hd : decode c.code pc = .ok (.i2s, 1)) (hp : pc + 1 = pc') (hz : x.toInt16.toInt32 = z) (kk : oGl p e below (T.setTop (mkF m pc' Ls (.int z :: st))) F) : oGl p e below (T.setTop (mkF m pc Ls (.int x :: st))) F := by
  subst hp hz
  exact oOn (fun _ kK => XS.i2s X.here hx rfl hd rfl kK) kk
theorem si2c {pc pc' : Nat} {Ls : Array Slot} {F : State → Prop} {st : List Value} {x : Int32} {z : Int32} (X : Stand p l e R s m args below meth c T locs cells slots) (hx : p.tables.exec = Jvm.exec) (hd : decode c.code pc = .ok (.i2c, 1)) (hp : pc + 1 = pc') (hz : x.toUInt32.toUInt16.toUInt32.toInt32 = z) (kk : oGl p e below (T.setTop (mkF m pc' Ls (.int z :: st))) F) : oGl p e below (T.setTop (mkF m pc Ls (.int x :: st))) F := by
  subst hp hz
  exact oOn (fun _ kK => XS.i2c X.here hx rfl hd rfl kK) kk
theorem slcmp {pc pc' : Nat} {Ls : Array Slot} {F : State → Prop} {st : List Value} {x y : Int64} (X : Stand p l e R s m args below meth c T locs cells slots) (hx : p.tables.exec = Jvm.exec) (hd : decode c.code pc = .ok (.lcmp, 1)) (hp : pc + 1 = pc')  (kk : oGl p e below (T.setTop (mkF m pc' Ls (.int (lcmpW x y) :: st))) F) : oGl p e below (T.setTop (mkF m pc Ls (.long y :: .long x :: st))) F := by
  subst hp
  exact oOn (fun _ kK => XS.lcmp X.here hx rfl hd rfl kK) kk
theorem sirem {pc pc' : Nat} {Ls : Array Slot} {F : State → Prop} {st : List Value} {x y z : Int32} (X : Stand p l e R s m args below meth c T locs cells slots) (hx : p.tables.exec = Jvm.exec) (hd : decode c.code pc = .ok (.irem, 1)) (hp : pc + 1 = pc') (hy : y ≠ 0) (hz : x % y = z) (kk : oGl p e below (T.setTop (mkF m pc' Ls (.int z :: st))) F) : oGl p e below (T.setTop (mkF m pc Ls (.int y :: .int x :: st))) F := by
  subst hp hz
  exact oOn (fun _ kK => iremM X hx rfl hd rfl hy kK) kk
theorem sidiv {pc pc' : Nat} {Ls : Array Slot} {F : State → Prop} {st : List Value} {x y z : Int32} (X : Stand p l e R s m args below meth c T locs cells slots) (hx : p.tables.exec = Jvm.exec) (hd : decode c.code pc = .ok (.idiv, 1)) (hp : pc + 1 = pc') (hy : y ≠ 0) (hz : x / y = z) (kk : oGl p e below (T.setTop (mkF m pc' Ls (.int z :: st))) F) : oGl p e below (T.setTop (mkF m pc Ls (.int y :: .int x :: st))) F := by
  subst hp hz
  exact oOn (fun _ kK => XS.idiv X.here hx rfl hd rfl hy kK) kk
theorem siinc {pc pc' : Nat} {Ls : Array Slot} {F : State → Prop} {st : List Value} {k : Nat} {cst : Int} {x : Int32} {l' : Array Slot} (X : Stand p l e R s m args below meth c T locs cells slots) (hx : p.tables.exec = Jvm.exec) (hd : decode c.code pc = .ok (.iinc k cst, 3)) (hp : pc + 3 = pc') (hl : Ls[k]? = some (.val (.int x))) (hl' : storeLocals Ls k (.int (x + Int32.ofInt cst)) = some l') (kk : oGl p e below (T.setTop (mkF m pc' l' (st))) F) : oGl p e below (T.setTop (mkF m pc Ls (st))) F := by
  subst hp
  exact oOn (fun _ kK => XS.iinc X.here hx rfl hd hl hl' kK) kk
theorem sdup {pc pc' : Nat} {Ls : Array Slot} {F : State → Prop} {st : List Value} {x : Value} (X : Stand p l e R s m args below meth c T locs cells slots) (hx : p.tables.exec = Jvm.exec) (hd : decode c.code pc = .ok (.dup, 1)) (hp : pc + 1 = pc') (hc : x.category = 1) (kk : oGl p e below (T.setTop (mkF m pc' Ls (x :: x :: st))) F) : oGl p e below (T.setTop (mkF m pc Ls (x :: st))) F := by
  subst hp
  exact oOn (fun _ kK => XS.dup X.here hx rfl hd rfl hc kK) kk
theorem spop {pc pc' : Nat} {Ls : Array Slot} {F : State → Prop} {st : List Value} {x : Value} (X : Stand p l e R s m args below meth c T locs cells slots) (hx : p.tables.exec = Jvm.exec) (hd : decode c.code pc = .ok (.pop, 1)) (hp : pc + 1 = pc') (hc : x.category = 1) (kk : oGl p e below (T.setTop (mkF m pc' Ls (st))) F) : oGl p e below (T.setTop (mkF m pc Ls (x :: st))) F := by
  subst hp
  exact oOn (fun _ kK => XS.pop X.here hx rfl hd rfl hc kK) kk
theorem sdup_x1 {pc pc' : Nat} {Ls : Array Slot} {F : State → Prop} {st : List Value} {x y : Value} (X : Stand p l e R s m args below meth c T locs cells slots) (hx : p.tables.exec = Jvm.exec) (hd : decode c.code pc = .ok (.dup_x1, 1)) (hp : pc + 1 = pc') (hc : x.category = 1) (hc2 : y.category = 1) (kk : oGl p e below (T.setTop (mkF m pc' Ls (x :: y :: x :: st))) F) : oGl p e below (T.setTop (mkF m pc Ls (x :: y :: st))) F := by
  subst hp
  exact oOn (fun _ kK => XS.dupX1 X.here hx rfl hd rfl hc hc2 kK) kk
theorem sdup2 {pc pc' : Nat} {Ls : Array Slot} {F : State → Prop} {st : List Value} {x y : Value} (X : Stand p l e R s m args below meth c T locs cells slots) (hx : p.tables.exec = Jvm.exec) (hd : decode c.code pc = .ok (.dup2, 1)) (hp : pc + 1 = pc') (hc : x.category = 1) (hc2 : y.category = 1) (kk : oGl p e below (T.setTop (mkF m pc' Ls (x :: y :: x :: y :: st))) F) : oGl p e below (T.setTop (mkF m pc Ls (x :: y :: st))) F := by
  subst hp
  exact oOn (fun _ kK => oDup2 X.here hx rfl hd rfl hc hc2 kK) kk
theorem sdup_x2 {pc pc' : Nat} {Ls : Array Slot} {F : State → Prop} {st : List Value} {x y z : Value} (X : Stand p l e R s m args below meth c T locs cells slots) (hx : p.tables.exec = Jvm.exec) (hd : decode c.code pc = .ok (.dup_x2, 1)) (hp : pc + 1 = pc') (hc : x.category = 1) (hc2 : y.category = 1) (hc3 : z.category = 1) (kk : oGl p e below (T.setTop (mkF m pc' Ls (x :: y :: z :: x :: st))) F) : oGl p e below (T.setTop (mkF m pc Ls (x :: y :: z :: st))) F := by
  subst hp
  exact oOn (fun _ kK => oDupX2 X.here hx rfl hd rfl hc hc2 hc3 kK) kk
theorem sgoto {pc pc' : Nat} {Ls : Array Slot} {st : List Value} {F : State → Prop} {o : Int}  (X : Stand p l e R s m args below meth c T locs cells slots) (hx : p.tables.exec = Jvm.exec) (hd : decode c.code pc = .ok (.goto o, 3)) (ho : 0 ≤ (pc : Int) + o) (hp : ((pc : Int) + o).toNat = pc')  (kk : oGl p e below (T.setTop (mkF m pc' Ls st)) F) : oGl p e below (T.setTop (mkF m pc Ls (st))) F :=
  oOn (fun _ kK => XS.goto X.here hx rfl rfl hd ho hp kK) kk
theorem sifY {pc pc' : Nat} {Ls : Array Slot} {st : List Value} {F : State → Prop} {o : Int} {cd : ClassFile.Cond} {x : Int32} (X : Stand p l e R s m args below meth c T locs cells slots) (hx : p.tables.exec = Jvm.exec) (hd : decode c.code pc = .ok (.ifCond cd o, 3)) (ho : 0 ≤ (pc : Int) + o) (hp : ((pc : Int) + o).toNat = pc') (hc : if_icmp.holds cd x 0 = true) (kk : oGl p e below (T.setTop (mkF m pc' Ls st)) F) : oGl p e below (T.setTop (mkF m pc Ls (.int x :: st))) F :=
  oOn (fun _ kK => XS.ifYes X.here hx rfl rfl hd rfl ((if0 _ _).trans hc) ho hp kK) kk
theorem sicY {pc pc' : Nat} {Ls : Array Slot} {st : List Value} {F : State → Prop} {o : Int} {cd : ClassFile.Cond} {x y : Int32} (X : Stand p l e R s m args below meth c T locs cells slots) (hx : p.tables.exec = Jvm.exec) (hd : decode c.code pc = .ok (.if_icmp cd o, 3)) (ho : 0 ≤ (pc : Int) + o) (hp : ((pc : Int) + o).toNat = pc') (hc : if_icmp.holds cd x y = true) (kk : oGl p e below (T.setTop (mkF m pc' Ls st)) F) : oGl p e below (T.setTop (mkF m pc Ls (.int y :: .int x :: st))) F :=
  oOn (fun _ kK => XS.icmpYes X.here hx rfl rfl hd rfl hc ho hp kK) kk
theorem sifnullY {pc pc' : Nat} {Ls : Array Slot} {st : List Value} {F : State → Prop} {o : Int}  (X : Stand p l e R s m args below meth c T locs cells slots) (hx : p.tables.exec = Jvm.exec) (hd : decode c.code pc = .ok (.ifnull o, 3)) (ho : 0 ≤ (pc : Int) + o) (hp : ((pc : Int) + o).toNat = pc')  (kk : oGl p e below (T.setTop (mkF m pc' Ls st)) F) : oGl p e below (T.setTop (mkF m pc Ls (.null :: st))) F :=
  oOn (fun _ kK => XS.ifnullYes X.here hx rfl rfl hd rfl ho hp kK) kk
theorem sifnonnullY {pc pc' : Nat} {Ls : Array Slot} {st : List Value} {F : State → Prop} {o : Int} {b : Addr} (X : Stand p l e R s m args below meth c T locs cells slots) (hx : p.tables.exec = Jvm.exec) (hd : decode c.code pc = .ok (.ifnonnull o, 3)) (ho : 0 ≤ (pc : Int) + o) (hp : ((pc : Int) + o).toNat = pc')  (kk : oGl p e below (T.setTop (mkF m pc' Ls st)) F) : oGl p e below (T.setTop (mkF m pc Ls (.ref b :: st))) F :=
  oOn (fun _ kK => XS.ifnonnullYes X.here hx rfl rfl hd rfl ho hp kK) kk
theorem sifN {pc pc' : Nat} {Ls : Array Slot} {F : State → Prop} {st : List Value} {cd : ClassFile.Cond} {o : Int} {x : Int32} (X : Stand p l e R s m args below meth c T locs cells slots) (hx : p.tables.exec = Jvm.exec) (hd : decode c.code pc = .ok (.ifCond cd o, 3)) (hp : pc + 3 = pc') (hc : if_icmp.holds cd x 0 = false) (kk : oGl p e below (T.setTop (mkF m pc' Ls (st))) F) : oGl p e below (T.setTop (mkF m pc Ls (.int x :: st))) F := by
  subst hp
  exact oOn (fun _ kK => XS.ifNo X.here hx rfl hd rfl ((if0 _ _).trans hc) kK) kk
theorem sicN {pc pc' : Nat} {Ls : Array Slot} {F : State → Prop} {st : List Value} {cd : ClassFile.Cond} {o : Int} {x y : Int32} (X : Stand p l e R s m args below meth c T locs cells slots) (hx : p.tables.exec = Jvm.exec) (hd : decode c.code pc = .ok (.if_icmp cd o, 3)) (hp : pc + 3 = pc') (hc : if_icmp.holds cd x y = false) (kk : oGl p e below (T.setTop (mkF m pc' Ls (st))) F) : oGl p e below (T.setTop (mkF m pc Ls (.int y :: .int x :: st))) F := by
  subst hp
  exact oOn (fun _ kK => XS.icmpNo X.here hx rfl hd rfl hc kK) kk
theorem sifnullN {pc pc' : Nat} {Ls : Array Slot} {F : State → Prop} {st : List Value} {o : Int} {b : Addr} (X : Stand p l e R s m args below meth c T locs cells slots) (hx : p.tables.exec = Jvm.exec) (hd : decode c.code pc = .ok (.ifnull o, 3)) (hp : pc + 3 = pc')  (kk : oGl p e below (T.setTop (mkF m pc' Ls (st))) F) : oGl p e below (T.setTop (mkF m pc Ls (.ref b :: st))) F := by
  subst hp
  exact oOn (fun _ kK => XS.ifnullNo X.here hx rfl hd rfl kK) kk
theorem sifnonnullN {pc pc' : Nat} {Ls : Array Slot} {F : State → Prop} {st : List Value} {o : Int} (X : Stand p l e R s m args below meth c T locs cells slots) (hx : p.tables.exec = Jvm.exec) (hd : decode c.code pc = .ok (.ifnonnull o, 3)) (hp : pc + 3 = pc')  (kk : oGl p e below (T.setTop (mkF m pc' Ls (st))) F) : oGl p e below (T.setTop (mkF m pc Ls (.null :: st))) F := by
  subst hp
  exact oOn (fun _ kK => XS.ifnonnullNo X.here hx rfl hd rfl kK) kk
/-! arrays of ints, bytes, chars, shorts, booleans: place j holds f j -/
def oAI (Z : State) (h : Heap) (a : Addr) (ty : FieldType) (n : Nat) (f : Nat → Int32) : Prop := ∃ c : Cell, Arr Z h a c ty ∧ c.slots.size = n ∧ n < 2147483648 ∧ ∀ j, j < n → c.slots[j]? = some (.int (f j))
def oUp {α : Type} (f : Nat → α) (i : Nat) (x : α) : Nat → α := fun k => if k = i then x else f k
theorem oUp_hit {α : Type} {f : Nat → α} {i : Nat} {x : α} : oUp f i x i = x := if_pos rfl
theorem oUp_miss {α : Type} {f : Nat → α} {i k : Nat} {x : α} (q : k ≠ i) : oUp f i x k = f k := if_neg q
variable {n : Nat} {f f' : Nat → Int32} {sl : Nat} {v : Value} {ws : List Addr}
theorem oAI.lt (F : oAI Z h a ty n f) : @LT.lt Nat _ a h.size := by obtain ⟨c, A, -⟩ := F; exact A.lt
theorem oAI.small (F : oAI Z h a ty n f) : n < 2147483648 := by obtain ⟨c, -, -, q, -⟩ := F; exact q
theorem oAI.ext (F : oAI Z h a ty n f) (E : Ext h h') : oAI Z h' a ty n f := by obtain ⟨c, A, r⟩ := F; exact ⟨c, A.ext E, r⟩
theorem oAI.other (F : oAI Z h b ty n f) (W : Wr h h' a sl v) (q : b ≠ a) : oAI Z h' b ty n f := by obtain ⟨c, A, r⟩ := F; exact ⟨c, A.other W q, r⟩
theorem oAI.keep (F : oAI Z h a ty n f) (K : Keep h h' ws) (q : a ∉ ws) : oAI Z h' a ty n f := by obtain ⟨c, A, r⟩ := F; exact ⟨c, ⟨K.2.1 a c A.1 q, A.2⟩, r⟩
theorem oAI.congr (F : oAI Z h a ty n f) (q : ∀ j, j < n → f j = f' j) : oAI Z h a ty n f' := by obtain ⟨c, A, r1, r2, r3⟩ := F; exact ⟨c, A, r1, r2, fun j hj => by rw [← q j hj]; exact r3 j hj⟩
theorem oAI.new {k : ClassId} {z : Int32} (A : Arr Z h a (newA k ty z) ty) (hn : z.toInt.toNat = n) (hd : defaultValue ty = .int 0 := by rfl) : oAI Z h a ty n (fun _ => 0) := by
  refine ⟨_, A, ?_, ?_, fun j hj => ?_⟩
  · rw [sz_new]; exact hn
  · have := z.toInt_lt; omega
  · have hs : (newA k ty z).slots.size = n := by rw [sz_new]; exact hn
    simp only [newA] at hs ⊢
    rw [Array.getElem?_replicate, if_pos (by simpa using (by simpa using hs : z.toNatClampNeg = n) ▸ hj), hd]
theorem oNotIn {j : Int32} {cl : Cell} (hs : cl.slots.size = n) (hj : 0 ≤ j.toInt ∧ j.toInt < n) : ¬ (j < 0 ∨ cl.slots.size ≤ j.toNatClampNeg) := by
  have h1 : j.toNatClampNeg = j.toInt.toNat := rfl
  rw [hs, h1, Int32.lt_iff_toInt_lt]
  have h2 : (0 : Int32).toInt = 0 := rfl
  rw [h2]; omega
theorem oAI.at (F : oAI Z h a ty n f) {j : Int32} (hj : 0 ≤ j.toInt ∧ j.toInt < n) : ∃ c : Cell, Arr Z h a c ty ∧ ¬ (j < 0 ∨ c.slots.size ≤ j.toNatClampNeg) ∧ c.slots[j.toNatClampNeg]? = some (.int (f j.toInt.toNat)) := by
  obtain ⟨c, A, S, q, G⟩ := F
  exact ⟨c, A, oNotIn S hj, G j.toInt.toNat (by omega)⟩
theorem oAI.set {j : Int32} {x : Int32} (F : oAI Z h a ty n f) (W : Wr h h' a j.toNatClampNeg (.int x)) (hj : 0 ≤ j.toInt ∧ j.toInt < n) : oAI Z h' a ty n (oUp f j.toInt.toNat x) := by
  obtain ⟨c, A, S, q, G⟩ := F
  refine ⟨_, A.same W, by rw [sz_set]; exact S, q, fun k hk => ?_⟩
  have h1 : j.toNatClampNeg = j.toInt.toNat := rfl
  show (c.slots.setIfInBounds j.toNatClampNeg (.int x))[k]? = _
  by_cases e : k = j.toInt.toNat
  · subst e; rw [oUp_hit, h1, Array.getElem?_setIfInBounds_self_of_lt (by rw [S]; exact hk)]
  · rw [oUp_miss e, h1, Array.getElem?_setIfInBounds_ne (Ne.symm e)]; exact G k hk
theorem oAI.len (F : oAI Z h a ty n f) (X : Stand p l e R s m args below meth c T locs cells slots) (hx : p.tables.exec = Jvm.exec) (hZ : Z.Warmed39 s.vm) (eT : T.heap = h) {g : JFrame} (hg : g.method = m) {rest : List Value} (hs : g.stack = .ref a :: rest) (hd : decode c.code g.pc = .ok (.arraylength, 1)) :
    ∀ t, Steps p.tables e below (T.setTop { g with pc := g.pc + 1, stack := .int (Int32.ofNat n) :: rest }) t → Steps p.tables e below (T.setTop g) t := by
  obtain ⟨cl, A, S, -, -⟩ := F
  intro t k
  refine X.arraylength hx (by rw [eT]; exact A.1) (State.isArrayOf_alike hZ.alike A.2.1) hg hs hd _ ?_
  rw [S]; exact k
theorem oAI.ldI (F : oAI Z h a .int n f) (X : Stand p l e R s m args below meth c T locs cells slots) (hx : p.tables.exec = Jvm.exec) (hZ : Z.Warmed39 s.vm) (eT : T.heap = h) {j : Int32} (hj : 0 ≤ j.toInt ∧ j.toInt < n) {g : JFrame} (hg : g.method = m) {rest : List Value} (hs : g.stack = .int j :: .ref a :: rest) (hd : decode c.code g.pc = .ok (.iaload, 1)) :
    ∀ t, Steps p.tables e below (T.setTop { g with pc := g.pc + 1, stack := .int (f j.toInt.toNat) :: rest }) t → Steps p.tables e below (T.setTop g) t := by
  obtain ⟨cl, A, q1, q2⟩ := F.at hj
  exact X.iaload hx (by rw [eT]; exact A.1) (State.isArrayOf_alike hZ.alike A.2.1) A.2.2 q1 q2 hg hs hd
theorem oAI.ldB (F : oAI Z h a .byte n f) (X : Stand p l e R s m args below meth c T locs cells slots) (hx : p.tables.exec = Jvm.exec) (hZ : Z.Warmed39 s.vm) (eT : T.heap = h) {j : Int32} (hj : 0 ≤ j.toInt ∧ j.toInt < n) {g : JFrame} (hg : g.method = m) {rest : List Value} (hs : g.stack = .int j :: .ref a :: rest) (hd : decode c.code g.pc = .ok (.baload, 1)) :
    ∀ t, Steps p.tables e below (T.setTop { g with pc := g.pc + 1, stack := .int (f j.toInt.toNat) :: rest }) t → Steps p.tables e below (T.setTop g) t := by
  obtain ⟨cl, A, q1, q2⟩ := F.at hj
  exact X.baloadBytes hx (by rw [eT]; exact A.1) (State.isArrayOf_alike hZ.alike A.2.1) A.2.2 q1 q2 hg hs hd
theorem oAI.ldZ (F : oAI Z h a .boolean n f) (X : Stand p l e R s m args below meth c T locs cells slots) (hx : p.tables.exec = Jvm.exec) (hZ : Z.Warmed39 s.vm) (eT : T.heap = h) {j : Int32} (hj : 0 ≤ j.toInt ∧ j.toInt < n) {g : JFrame} (hg : g.method = m) {rest : List Value} (hs : g.stack = .int j :: .ref a :: rest) (hd : decode c.code g.pc = .ok (.baload, 1)) :
    ∀ t, Steps p.tables e below (T.setTop { g with pc := g.pc + 1, stack := .int (f j.toInt.toNat) :: rest }) t → Steps p.tables e below (T.setTop g) t := by
  obtain ⟨cl, A, q1, q2⟩ := F.at hj
  exact X.baloadBooleans hx (by rw [eT]; exact A.1) (State.isArrayOf_alike hZ.alike A.2.1) A.2.2 q1 q2 hg hs hd
theorem oAI.ldC (F : oAI Z h a .char n f) (X : Stand p l e R s m args below meth c T locs cells slots) (hx : p.tables.exec = Jvm.exec) (hZ : Z.Warmed39 s.vm) (eT : T.heap = h) {j : Int32} (hj : 0 ≤ j.toInt ∧ j.toInt < n) {g : JFrame} (hg : g.method = m) {rest : List Value} (hs : g.stack = .int j :: .ref a :: rest) (hd : decode c.code g.pc = .ok (.caload, 1)) :
    ∀ t, Steps p.tables e below (T.setTop { g with pc := g.pc + 1, stack := .int (f j.toInt.toNat) :: rest }) t → Steps p.tables e below (T.setTop g) t := by
  obtain ⟨cl, A, q1, q2⟩ := F.at hj
  exact X.caload hx (by rw [eT]; exact A.1) (State.isArrayOf_alike hZ.alike A.2.1) A.2.2 q1 q2 hg hs hd
theorem oAI.ldS (F : oAI Z h a .short n f) (X : Stand p l e R s m args below meth c T locs cells slots) (hx : p.tables.exec = Jvm.exec) (hZ : Z.Warmed39 s.vm) (eT : T.heap = h) {j : Int32} (hj : 0 ≤ j.toInt ∧ j.toInt < n) {g : JFrame} (hg : g.method = m) {rest : List Value} (hs : g.stack = .int j :: .ref a :: rest) (hd : decode c.code g.pc = .ok (.saload, 1)) :
    ∀ t, Steps p.tables e below (T.setTop { g with pc := g.pc + 1, stack := .int (f j.toInt.toNat) :: rest }) t → Steps p.tables e below (T.setTop g) t := by
  obtain ⟨cl, A, q1, q2⟩ := F.at hj
  exact X.saload hx (by rw [eT]; exact A.1) (State.isArrayOf_alike hZ.alike A.2.1) A.2.2 q1 q2 hg hs hd
theorem oAI.stI (F : oAI Z h a .int n f) (X : Stand p l e R s m args below meth c T locs cells slots) (hx : p.tables.exec = Jvm.exec) (hZ : Z.Warmed39 s.vm) (eT : T.heap = h) {j x : Int32} (hj : 0 ≤ j.toInt ∧ j.toInt < n) {g : JFrame} (hg : g.method = m) {rest : List Value} (hs : g.stack = .int x :: .int j :: .ref a :: rest) (hd : decode c.code g.pc = .ok (.iastore, 1)) :
    ∃ T' h', Stand p l e R s m args below meth c T' (locs ++ [⟨a, j.toNatClampNeg⟩]) cells slots ∧ T'.heap = h' ∧ Wr h h' a j.toNatClampNeg (.int x) ∧ oAI Z h' a .int n (oUp f j.toInt.toNat x) ∧ ∀ t, Steps p.tables e below (T'.setTop { g with pc := g.pc + 1, stack := rest }) t → Steps p.tables e below (T.setTop g) t := by
  have F' := F
  obtain ⟨cl, A, S, q, G⟩ := F'
  obtain ⟨T', h', X', e', W, st⟩ := Jvm.RoadKit.stI X hx hZ eT A (x := x) (oNotIn S hj) hg hs hd
  exact ⟨T', h', X', e', W, F.set W hj, st⟩
theorem oAI.stB (F : oAI Z h a .byte n f) (X : Stand p l e R s m args below meth c T locs cells slots) (hx : p.tables.exec = Jvm.exec) (hZ : Z.Warmed39 s.vm) (eT : T.heap = h) {j x : Int32} (hj : 0 ≤ j.toInt ∧ j.toInt < n) {g : JFrame} (hg : g.method = m) {rest : List Value} (hs : g.stack = .int x :: .int j :: .ref a :: rest) (hd : decode c.code g.pc = .ok (.bastore, 1)) :
    ∃ T' h', Stand p l e R s m args below meth c T' (locs ++ [⟨a, j.toNatClampNeg⟩]) cells slots ∧ T'.heap = h' ∧ Wr h h' a j.toNatClampNeg (.int (nar .byte x)) ∧ oAI Z h' a .byte n (oUp f j.toInt.toNat (nar .byte x)) ∧ ∀ t, Steps p.tables e below (T'.setTop { g with pc := g.pc + 1, stack := rest }) t → Steps p.tables e below (T.setTop g) t := by
  have F' := F
  obtain ⟨cl, A, S, q, G⟩ := F'
  obtain ⟨T', h', X', e', W, st⟩ := Jvm.RoadKit.stB X hx hZ eT A (x := x) (oNotIn S hj) hg hs hd
  exact ⟨T', h', X', e', W, F.set W hj, st⟩
theorem oAI.stZ (F : oAI Z h a .boolean n f) (X : Stand p l e R s m args below meth c T locs cells slots) (hx : p.tables.exec = Jvm.exec) (hZ : Z.Warmed39 s.vm) (eT : T.heap = h) {j x : Int32} (hj : 0 ≤ j.toInt ∧ j.toInt < n) {g : JFrame} (hg : g.method = m) {rest : List Value} (hs : g.stack = .int x :: .int j :: .ref a :: rest) (hd : decode c.code g.pc = .ok (.bastore, 1)) :
    ∃ T' h', Stand p l e R s m args below meth c T' (locs ++ [⟨a, j.toNatClampNeg⟩]) cells slots ∧ T'.heap = h' ∧ Wr h h' a j.toNatClampNeg (.int (nar .boolean x)) ∧ oAI Z h' a .boolean n (oUp f j.toInt.toNat (nar .boolean x)) ∧ ∀ t, Steps p.tables e below (T'.setTop { g with pc := g.pc + 1, stack := rest }) t → Steps p.tables e below (T.setTop g) t := by
  have F' := F
  obtain ⟨cl, A, S, q, G⟩ := F'
  obtain ⟨T', h', X', e', W, st⟩ := Jvm.RoadKit.stZ X hx hZ eT A (x := x) (oNotIn S hj) hg hs hd
  exact ⟨T', h', X', e', W, F.set W hj, st⟩
theorem oAI.stC (F : oAI Z h a .char n f) (X : Stand p l e R s m args below meth c T locs cells slots) (hx : p.tables.exec = Jvm.exec) (hZ : Z.Warmed39 s.vm) (eT : T.heap = h) {j x : Int32} (hj : 0 ≤ j.toInt ∧ j.toInt < n) {g : JFrame} (hg : g.method = m) {rest : List Value} (hs : g.stack = .int x :: .int j :: .ref a :: rest) (hd : decode c.code g.pc = .ok (.castore, 1)) :
    ∃ T' h', Stand p l e R s m args below meth c T' (locs ++ [⟨a, j.toNatClampNeg⟩]) cells slots ∧ T'.heap = h' ∧ Wr h h' a j.toNatClampNeg (.int (nar .char x)) ∧ oAI Z h' a .char n (oUp f j.toInt.toNat (nar .char x)) ∧ ∀ t, Steps p.tables e below (T'.setTop { g with pc := g.pc + 1, stack := rest }) t → Steps p.tables e below (T.setTop g) t := by
  have F' := F
  obtain ⟨cl, A, S, q, G⟩ := F'
  obtain ⟨T', h', X', e', W, st⟩ := Jvm.RoadKit.stC X hx hZ eT A (x := x) (oNotIn S hj) hg hs hd
  exact ⟨T', h', X', e', W, F.set W hj, st⟩
theorem oAI.stS (F : oAI Z h a .short n f) (X : Stand p l e R s m args below meth c T locs cells slots) (hx : p.tables.exec = Jvm.exec) (hZ : Z.Warmed39 s.vm) (eT : T.heap = h) {j x : Int32} (hj : 0 ≤ j.toInt ∧ j.toInt < n) {g : JFrame} (hg : g.method = m) {rest : List Value} (hs : g.stack = .int x :: .int j :: .ref a :: rest) (hd : decode c.code g.pc = .ok (.sastore, 1)) :
    ∃ T' h', Stand p l e R s m args below meth c T' (locs ++ [⟨a, j.toNatClampNeg⟩]) cells slots ∧ T'.heap = h' ∧ Wr h h' a j.toNatClampNeg (.int (nar .short x)) ∧ oAI Z h' a .short n (oUp f j.toInt.toNat (nar .short x)) ∧ ∀ t, Steps p.tables e below (T'.setTop { g with pc := g.pc + 1, stack := rest }) t → Steps p.tables e below (T.setTop g) t := by
  have F' := F
  obtain ⟨cl, A, S, q, G⟩ := F'
  obtain ⟨T', h', X', e', W, st⟩ := Jvm.RoadKit.stS X hx hZ eT A (x := x) (oNotIn S hj) hg hs hd
  exact ⟨T', h', X', e', W, F.set W hj, st⟩
/-! words out of words -/
theorem oSame {as : Array Value} {C : String} {x y z : MethodName} (wd : (Jvm.Cond.declares y).before as Z = true) (ws : (Jvm.Cond.selects C x z).before as Z = true) (hc : z.cls = y.cls) (hy : y.cls ≠ "java/lang/invoke/MethodHandle" ∧ y.cls ≠ "java/lang/invoke/VarHandle") : (Jvm.Cond.sameMethod y.cls y.cls y.name y.desc).before as Z = true := by
  obtain ⟨c2, r2, m2, -, -, q3, -, kP, hkP, hkPi⟩ := Cond.selects_spec ws
  have h1 := findClass_of_methodNamed q3
  rw [hc] at h1
  cases hm : Z.methodNamed? y with
  | none => simp [Cond.before, Cond.holds, Cond.value, hm] at wd
  | some mk =>
    have h2 := State.methodFound?_of_named hm hy
    have h3 := findClass_of_methodNamed hm
    simp only [Cond.before, Cond.holds, Cond.value, h1, h2, hm, hkP, Option.any_some, hkPi]
    rfl
theorem oPriv {as : Array Value} {y : MethodName} {kk : Nat} (wi : (Jvm.Cond.instantiable y.cls kk).before as s = true) (hpriv : s.PrivateAt y) (hinst : (Jvm.Cond.instanceMethod y).before as s = true) (hy : y.cls ≠ "java/lang/invoke/MethodHandle" ∧ y.cls ≠ "java/lang/invoke/VarHandle") : (Jvm.Cond.selects y.cls y y).before as s = true := by
  obtain ⟨c, k, h1, h2, h3, h4, -⟩ := Cond.instantiable_spec wi
  have i5 : k.isInterface = false := by cases hq : k.isInterface <;> simp [hq] at h4 ⊢
  exact selects_self_of_private h1 h2 i5 hpriv hinst hy
/-! the start's statics -/
theorem oAnd {A B : Jvm.Cond} {as : Array Value} {st : State} (q : (Jvm.Cond.and A B).before as st = true) : A.before as st = true ∧ B.before as st = true := by
  rw [Cond.before_and, Bool.and_eq_true] at q; exact q
/-- a static that holds exactly an object of the class K -/
theorem oStaR {as : Array Value} {C n d K : String} (q : (Jvm.Cond.exactly (.static C n d) K).before as Z = true) (w1 : (Jvm.Cond.initialized C).before as Z = true) (w2 : (Jvm.Cond.laysStatic C n d).before as Z = true) : ∃ a, (Term.static C n d).eval as Z none [] Z = some (.ref a) ∧ Sta Z Z.heap C n d (.ref a) ∧ Exa Z Z.heap a K := by
  obtain ⟨a, c', cell, k, e1, -⟩ := Cond.exactly_spec q
  exact ⟨a, e1, Sta.start e1 (Or.inr ⟨w1, w2⟩), Exa.start e1 (Cond.before_iff.mp q)⟩
theorem oFldI {as : Array Value} {t : Term} {C n d : String} {k : Int32} {a : Addr} (q : (Jvm.Cond.eq (.field t C n d) (.int k)).before as Z = true) (ev : t.eval as Z none [] Z = some (.ref a)) : Fld Z Z.heap a C n d (.int k) := by
  have q' := Cond.before_iff.mp q
  have e1 : (Term.field t C n d).eval as Z none [] Z = Z.fieldOf? a C n d := by simp [Term.eval, ev]
  refine Fld.start ?_
  simp only [Cond.value, e1] at q'
  cases hf : Z.fieldOf? a C n d with
  | none => simp [hf] at q'
  | some v => cases v <;> simp [hf, Term.eval] at q' ⊢; exact q'
theorem oArgI {as : Array Value} {i : Nat} {w : Value} (q : (Jvm.Cond.isInt (.arg i)).before as s = true) (e : as[i]? = some w) : ∃ z, w = .int z := by
  have q' := Cond.before_iff.mp q
  simp only [Cond.value, Term.eval, e] at q'
  cases w <;> first | exact ⟨_, rfl⟩ | simp at q'
theorem oArgJ {as : Array Value} {i : Nat} {w : Value} (q : (Jvm.Cond.isLong (.arg i)).before as s = true) (e : as[i]? = some w) : ∃ z, w = .long z := by
  have q' := Cond.before_iff.mp q
  simp only [Cond.value, Term.eval, e] at q'
  cases w <;> first | exact ⟨_, rfl⟩ | simp at q'
theorem own_arrAt {Z : State} {ca : Addr} {cl : Cell} {ty : FieldType} (A : Arr Z Z.heap ca cl ty) : Z.arrayAt? ca = some cl := by
  have hp := A.plain
  obtain ⟨h1, ⟨hp', k, hk, comp, hkind⟩, h3⟩ := A
  simp [State.arrayAt?, h1, hk, hkind, h3, hp]
theorem own_len {as : Array Value} {Z : State} {t : Term} {ca : Addr} {cl : Cell} {ty : FieldType} (ev : t.eval as Z none [] Z = some (.ref ca)) (A : Arr Z Z.heap ca cl ty) (q : (Jvm.Cond.eq (.length t) (.int 256)).before as Z = true) : cl.slots.size = 256 := by
  have q' := Cond.before_iff.mp q
  have e1 := own_arrAt A
  by_cases hs : cl.slots.size < 2 ^ 31
  · have e2 : (Term.length t).eval as Z none [] Z = some (.int cl.slots.size.toInt32) := by simp [Term.eval, ev, e1, hs]
    have e3 := Cond.eq_ints e2 (Term.int_eval 256)
    rw [e3] at q'
    have e4 : cl.slots.size.toInt32 = 256 := by simpa using q'
    have e5 : (cl.slots.size.toInt32).toInt = (256 : Int32).toInt := by rw [e4]
    have e6 : (Int32.ofNat cl.slots.size).toInt = cl.slots.size := Int32.toInt_ofNat_of_lt (by omega)
    have e7 : (256 : Int32).toInt = 256 := by decide
    have e8 : cl.slots.size.toInt32 = Int32.ofNat cl.slots.size := rfl
    rw [e8, e6, e7] at e5
    omega
  · have e2 : (Term.length t).eval as Z none [] Z = none := by
      simp [Term.eval, ev]
      intro a ha
      rw [e1] at ha
      cases ha
      omega
    simp [Cond.value, e2] at q'
theorem own_all {as : Array Value} {Z : State} {C n d K : String} {ca : Addr} {cl : Cell} {ty : FieldType} {X : Jvm.Cond} (ev : (Term.static C n d).eval as Z none [] Z = some (.ref ca)) (A : Arr Z Z.heap ca cl ty) (hn : cl.slots.size = 256) (q : (Jvm.Cond.all (.static C n d) (.and (.exactly (.elem (.static C n d) (.index 0)) K) X)).before as Z = true) :
    ∀ j : Int32, 0 ≤ j.toInt ∧ j.toInt < (256 : Nat) → ∃ o, cl.slots[j.toNatClampNeg]? = some (.ref o) ∧ Exa Z Z.heap o K ∧ (Term.elem (.static C n d) (.index 0)).eval as Z none [j.toNatClampNeg] Z = some (.ref o) ∧ X.value as Z none Z [j.toNatClampNeg] = some true := by
  intro j hj
  have e1 := own_arrAt A
  have hj0 : ¬ j < 0 := by rw [Int32.lt_iff_toInt_lt]; have : (0 : Int32).toInt = 0 := rfl; omega
  have h1 : j.toNatClampNeg = j.toInt.toNat := rfl
  have h := Cond.all_elim ev e1 (Cond.before_iff.mp q) j.toNatClampNeg (by rw [hn, h1]; omega)
  obtain ⟨h2, h3⟩ := and_e h
  have ev' : (Term.static C n d).eval as Z none [j.toNatClampNeg] Z = some (.ref ca) := ev
  have e2 : (Term.elem (.static C n d) (.index 0)).eval as Z none [j.toNatClampNeg] Z = cl.slots[j.toNatClampNeg]? := by
    have e3 := idx_at (args := as) (s := Z) (first := Z) (o := none) hj0
    simp only [Term.eval] at ev' e3 ⊢
    rw [ev', e3]
    simp [e1, hj0]
  obtain ⟨o, c', cell, k, f1, -⟩ := Cond.exactly_spec (show (Cond.exactly (.elem (.static C n d) (.index 0)) K).holds as Z none Z [j.toNatClampNeg] = true by simp [Cond.holds, h2])
  exact ⟨o, by rw [← e2]; exact f1, exa_at f1 h2, f1, h3⟩
theorem own_fld {as : Array Value} {Z : State} {t u : Term} {idx : List Nat} {O f D : String} {o : Addr} {k : Int32} (f1 : t.eval as Z none idx Z = some (.ref o)) (hx : (Jvm.Cond.eq (.field t O f D) u).value as Z none Z idx = some true) (hu : u.eval as Z none idx Z = some (.int k)) : Fld Z Z.heap o O f D (.int k) := by
  have e1 : (Term.field t O f D).eval as Z none idx Z = Z.fieldOf? o O f D := by simp [Term.eval, f1]
  refine Fld.start ?_
  simp only [Cond.value, e1, hu] at hx
  cases hf : Z.fieldOf? o O f D with
  | none => simp [hf] at hx
  | some v => cases v <;> simp [hf] at hx ⊢; exact hx
theorem own_ix {as : Array Value} {Z : State} {j : Int32} (hj : 0 ≤ j.toInt) : (Term.sub (.index 0) (.int 128)).eval as Z none [j.toNatClampNeg] Z = some (.int (j - 128)) := by
  have hj0 : ¬ j < 0 := by rw [Int32.lt_iff_toInt_lt]; have : (0 : Int32).toInt = 0 := rfl; omega
  have e3 := idx_at (args := as) (s := Z) (first := Z) (o := none) hj0
  simp only [Term.eval] at e3 ⊢
  rw [e3]; rfl
theorem oEqI {as : Array Value} {t : Term} {k : Int32} (q : (Jvm.Cond.eq t (.int k)).before as Z = true) : t.eval as Z none [] Z = some (.int k) := by
  have q' := Cond.before_iff.mp q
  simp only [Cond.value] at q'
  cases hf : t.eval as Z none [] Z with
  | none => simp [hf] at q'
  | some v => cases v <;> simp [hf, Term.eval] at q' ⊢; exact q'
end OwnKit
theorem d5_0 : decode jdk_33_method_48_code 0 = .ok (.iload_n 0, 1) := by decide +kernel
theorem d5_1 : decode jdk_33_method_48_code 1 = .ok (.iconst (-1), 1) := by decide +kernel
theorem d5_2 : decode jdk_33_method_48_code 2 = .ok (.ixor, 1) := by decide +kernel
theorem d5_3 : decode jdk_33_method_48_code 3 = .ok (.iload_n 0, 1) := by decide +kernel
theorem d5_4 : decode jdk_33_method_48_code 4 = .ok (.iconst 1, 1) := by decide +kernel
theorem d5_5 : decode jdk_33_method_48_code 5 = .ok (.isub, 1) := by decide +kernel
theorem d5_6 : decode jdk_33_method_48_code 6 = .ok (.iand, 1) := by decide +kernel
theorem d5_7 : decode jdk_33_method_48_code 7 = .ok (.istore_n 0, 1) := by decide +kernel
theorem d5_8 : decode jdk_33_method_48_code 8 = .ok (.iload_n 0, 1) := by decide +kernel
theorem d5_9 : decode jdk_33_method_48_code 9 = .ok (.ifCond .gt 8, 3) := by decide +kernel
theorem d5_17 : decode jdk_33_method_48_code 17 = .ok (.iconst 1, 1) := by decide +kernel
theorem d5_18 : decode jdk_33_method_48_code 18 = .ok (.istore_n 1, 1) := by decide +kernel
theorem d5_19 : decode jdk_33_method_48_code 19 = .ok (.iload_n 0, 1) := by decide +kernel
theorem d5_20 : decode jdk_33_method_48_code 20 = .ok (.ldc_w 264, 3) := by decide +kernel
theorem d5_23 : decode jdk_33_method_48_code 23 = .ok (.if_icmp .le 11, 3) := by decide +kernel
theorem d5_34 : decode jdk_33_method_48_code 34 = .ok (.iload_n 0, 1) := by decide +kernel
theorem d5_35 : decode jdk_33_method_48_code 35 = .ok (.sipush 256, 3) := by decide +kernel
theorem d5_38 : decode jdk_33_method_48_code 38 = .ok (.if_icmp .le 11, 3) := by decide +kernel
theorem d5_49 : decode jdk_33_method_48_code 49 = .ok (.iload_n 0, 1) := by decide +kernel
theorem d5_50 : decode jdk_33_method_48_code 50 = .ok (.bipush 16, 2) := by decide +kernel
theorem d5_52 : decode jdk_33_method_48_code 52 = .ok (.if_icmp .le 10, 3) := by decide +kernel
theorem d5_55 : decode jdk_33_method_48_code 55 = .ok (.iinc 1 4, 3) := by decide +kernel
theorem d5_58 : decode jdk_33_method_48_code 58 = .ok (.iload_n 0, 1) := by decide +kernel
theorem d5_59 : decode jdk_33_method_48_code 59 = .ok (.iconst 4, 1) := by decide +kernel
theorem d5_60 : decode jdk_33_method_48_code 60 = .ok (.iushr, 1) := by decide +kernel
theorem d5_61 : decode jdk_33_method_48_code 61 = .ok (.istore_n 0, 1) := by decide +kernel
theorem d5_62 : decode jdk_33_method_48_code 62 = .ok (.iload_n 0, 1) := by decide +kernel
theorem d5_63 : decode jdk_33_method_48_code 63 = .ok (.iconst 4, 1) := by decide +kernel
theorem d5_64 : decode jdk_33_method_48_code 64 = .ok (.if_icmp .le 10, 3) := by decide +kernel
theorem d5_74 : decode jdk_33_method_48_code 74 = .ok (.iload_n 1, 1) := by decide +kernel
theorem d5_75 : decode jdk_33_method_48_code 75 = .ok (.iload_n 0, 1) := by decide +kernel
theorem d5_76 : decode jdk_33_method_48_code 76 = .ok (.iconst 1, 1) := by decide +kernel
theorem d5_77 : decode jdk_33_method_48_code 77 = .ok (.iushr, 1) := by decide +kernel
theorem d5_78 : decode jdk_33_method_48_code 78 = .ok (.iadd, 1) := by decide +kernel
theorem d5_79 : decode jdk_33_method_48_code 79 = .ok (.ireturn, 1) := by decide +kernel
theorem pn_Integer : plainName "java/lang/Integer" = true := by first | (simp [plainName, overriddenIn]; done) | decide +kernel
theorem ef_rmNtz32 (m : MethodId) (x0 : Int32)  : entryFrame m #[(.int x0)] 2 = mkF m 0 #[.val (.int x0), .unset] [] := by first | (simp [entryFrame, mkF, argsToLocals, Value.category, maxLocals]; done) | rfl
def Q_rmNtz32 (Z : State)  (h0 : Heap) (n0 : Nat) (vv : Option Value) (h : Heap) (L : List Loc) : Prop := vv = some (.int 5) ∧ Fr n0 L ∧ h = h0
set_option maxRecDepth 65536 in
set_option maxHeartbeats 40000000 in
theorem rmNtz32 (l : Launch) (Z : State) (a0 : Array Value) (hw : ∀ d ∈ tables_1, d.before a0 Z = true) (ws : List Jvm.Cond)  (h0 : Heap) (n0 : Nat) (Z0 : n0 ≤ h0.size)  :
    MetFree l (⟨"java/lang/Integer", "numberOfTrailingZeros", "(I)I"⟩ : MethodName) (head1 (Jvm.Cond.code (⟨"java/lang/Integer", "numberOfTrailingZeros", "(I)I"⟩ : MethodName) jdk_33_method_48_code 2 (some .int) :: ws) ({ frames := 0, cells := 0, slots := 0, locals := 0 } : Room)) (fun aA uU => aA = #[(.int (32 : Int32))] ∧ Z.Warmed39 uU.vm ∧ uU.heap = h0) (fun _ _ _ _ _ => True) (fun _ uU oO uU' => ∃ vV lL, oO = .returned vV ∧ Q_rmNtz32 Z  h0 n0 vV uU'.heap lL ∧ FrameEnd uU oO uU' lL ({ frames := 0, cells := 0, slots := 0, locals := 0 } : Room).cells ({ frames := 0, cells := 0, slots := 0, locals := 0 } : Room).slots) := by
  refine MetFree.of_bodySF (plainFor_of_name pn_Integer) hisR ?_
  intro p e s m args below meth c s₁ Bd hml0 hP hK
  obtain ⟨rfl, hZ, hh⟩ := hP
  have hx := Bd.exec
  have hby := Bd.bytes
  have hml : c.maxLocals = 2 := hml0
  have hown : s.vm.findClass "java/lang/Integer" = some m.cls := findClass_of_methodNamed Bd.named
  have hnm := (name_of_methodNamed Bd.named Bd.method).1
  have X0 : Stand p l e ({ frames := 0, cells := 0, slots := 0, locals := 0 } : Room) s m #[(.int (32 : Int32))] below meth c s₁ [] 0 0 := Stand.of_body Bd
  have e0 : s₁.heap = h0 := by rw [← hh, Bd.state]; rfl
  have N0 := Fr.nil n0
  refine oEnter (oCast (ef_rmNtz32 m (32 : Int32) ) ?_)
  show oGl p e below (s₁.setTop (mkF m 0 #[.val (.int (32 : Int32)), .unset] [])) _
  refine siloadN X0 hx (hb hby d5_0) rfl rfl (pc' := 1) ?_
  refine siconst X0 hx (hb hby d5_1) rfl rfl (z := -1) (pc' := 2) ?_
  refine sixor X0 hx (hb hby d5_2) rfl (by decide) (z := (-33 : Int32)) (pc' := 3) ?_
  refine siloadN X0 hx (hb hby d5_3) rfl rfl (pc' := 4) ?_
  refine siconst X0 hx (hb hby d5_4) rfl rfl (z := 1) (pc' := 5) ?_
  refine sisub X0 hx (hb hby d5_5) rfl (by decide) (z := (31 : Int32)) (pc' := 6) ?_
  refine siand X0 hx (hb hby d5_6) rfl (by decide) (z := (31 : Int32)) (pc' := 7) ?_
  refine sistoreN X0 hx (hb hby d5_7) rfl rfl (l' := #[.val (.int (31 : Int32)), .unset]) (pc' := 8) ?_
  refine siloadN X0 hx (hb hby d5_8) rfl rfl (pc' := 9) ?_
  refine sifY X0 hx (hb hby d5_9) (by decide) (by decide) (tlt (by decide : (0 : Int32) < (31 : Int32))).2.2.1 (pc' := 17) ?_
  refine siconst X0 hx (hb hby d5_17) rfl rfl (z := 1) (pc' := 18) ?_
  refine sistoreN X0 hx (hb hby d5_18) rfl rfl (l' := #[.val (.int (31 : Int32)), .val (.int (1 : Int32))]) (pc' := 19) ?_
  refine siloadN X0 hx (hb hby d5_19) rfl rfl (pc' := 20) ?_
  refine oOn (X0.ldcwInt hx hown (mvT hZ (hw _ (List.mem_of_getElem? (i := 29) rfl))) (g := (mkF m 20 #[.val (.int (31 : Int32)), .val (.int (1 : Int32))] [(.int (31 : Int32))])) rfl (hb hby d5_20)) ?_
  show oGl p e below (s₁.setTop (mkF m 23 #[.val (.int (31 : Int32)), .val (.int (1 : Int32))] [(.int (65536 : Int32)), (.int (31 : Int32))])) _
  refine sicY X0 hx (hb hby d5_23) (by decide) (by decide) (flt (by decide : ¬ ((65536 : Int32) < (31 : Int32)))).2.2.2 (pc' := 34) ?_
  refine siloadN X0 hx (hb hby d5_34) rfl rfl (pc' := 35) ?_
  refine ssipush X0 hx (hb hby d5_35) rfl rfl (z := 256) (pc' := 38) ?_
  refine sicY X0 hx (hb hby d5_38) (by decide) (by decide) (flt (by decide : ¬ ((256 : Int32) < (31 : Int32)))).2.2.2 (pc' := 49) ?_
  refine siloadN X0 hx (hb hby d5_49) rfl rfl (pc' := 50) ?_
  refine sbipush X0 hx (hb hby d5_50) rfl rfl (z := 16) (pc' := 52) ?_
  refine sicN X0 hx (hb hby d5_52) rfl (tlt (by decide : (16 : Int32) < (31 : Int32))).2.2.2 (pc' := 55) ?_
  refine siinc X0 hx (hb hby d5_55) rfl rfl rfl (l' := #[.val (.int (31 : Int32)), .val (.int (5 : Int32))]) (pc' := 58) ?_
  refine siloadN X0 hx (hb hby d5_58) rfl rfl (pc' := 59) ?_
  refine siconst X0 hx (hb hby d5_59) rfl rfl (z := 4) (pc' := 60) ?_
  refine siushr X0 hx (hb hby d5_60) rfl (by decide) (z := (1 : Int32)) (pc' := 61) ?_
  refine sistoreN X0 hx (hb hby d5_61) rfl rfl (l' := #[.val (.int (1 : Int32)), .val (.int (5 : Int32))]) (pc' := 62) ?_
  refine siloadN X0 hx (hb hby d5_62) rfl rfl (pc' := 63) ?_
  refine siconst X0 hx (hb hby d5_63) rfl rfl (z := 4) (pc' := 64) ?_
  refine sicY X0 hx (hb hby d5_64) (by decide) (by decide) (flt (by decide : ¬ ((4 : Int32) < (1 : Int32)))).2.2.2 (pc' := 74) ?_
  refine siloadN X0 hx (hb hby d5_74) rfl rfl (pc' := 75) ?_
  refine siloadN X0 hx (hb hby d5_75) rfl rfl (pc' := 76) ?_
  refine siconst X0 hx (hb hby d5_76) rfl rfl (z := 1) (pc' := 77) ?_
  refine siushr X0 hx (hb hby d5_77) rfl (by decide) (z := (0 : Int32)) (pc' := 78) ?_
  refine siadd X0 hx (hb hby d5_78) rfl (by decide) (z := (5 : Int32)) (pc' := 79) ?_
  refine oRetI X0 hx Bd.notSynchronized Bd.returns (hb hby d5_79) (by decide) (by decide) ?_
  show Q_rmNtz32 Z  h0 n0 _ s₁.heap _
  rw [e0]
  exact ⟨rfl, N0, rfl⟩
theorem ef_rmNtz64 (m : MethodId) (x0 : Int32)  : entryFrame m #[(.int x0)] 2 = mkF m 0 #[.val (.int x0), .unset] [] := by first | (simp [entryFrame, mkF, argsToLocals, Value.category, maxLocals]; done) | rfl
def Q_rmNtz64 (Z : State)  (h0 : Heap) (n0 : Nat) (vv : Option Value) (h : Heap) (L : List Loc) : Prop := vv = some (.int 6) ∧ Fr n0 L ∧ h = h0
set_option maxRecDepth 65536 in
set_option maxHeartbeats 40000000 in
theorem rmNtz64 (l : Launch) (Z : State) (a0 : Array Value) (hw : ∀ d ∈ tables_1, d.before a0 Z = true) (ws : List Jvm.Cond)  (h0 : Heap) (n0 : Nat) (Z0 : n0 ≤ h0.size)  :
    MetFree l (⟨"java/lang/Integer", "numberOfTrailingZeros", "(I)I"⟩ : MethodName) (head1 (Jvm.Cond.code (⟨"java/lang/Integer", "numberOfTrailingZeros", "(I)I"⟩ : MethodName) jdk_33_method_48_code 2 (some .int) :: ws) ({ frames := 0, cells := 0, slots := 0, locals := 0 } : Room)) (fun aA uU => aA = #[(.int (64 : Int32))] ∧ Z.Warmed39 uU.vm ∧ uU.heap = h0) (fun _ _ _ _ _ => True) (fun _ uU oO uU' => ∃ vV lL, oO = .returned vV ∧ Q_rmNtz64 Z  h0 n0 vV uU'.heap lL ∧ FrameEnd uU oO uU' lL ({ frames := 0, cells := 0, slots := 0, locals := 0 } : Room).cells ({ frames := 0, cells := 0, slots := 0, locals := 0 } : Room).slots) := by
  refine MetFree.of_bodySF (plainFor_of_name pn_Integer) hisR ?_
  intro p e s m args below meth c s₁ Bd hml0 hP hK
  obtain ⟨rfl, hZ, hh⟩ := hP
  have hx := Bd.exec
  have hby := Bd.bytes
  have hml : c.maxLocals = 2 := hml0
  have hown : s.vm.findClass "java/lang/Integer" = some m.cls := findClass_of_methodNamed Bd.named
  have hnm := (name_of_methodNamed Bd.named Bd.method).1
  have X0 : Stand p l e ({ frames := 0, cells := 0, slots := 0, locals := 0 } : Room) s m #[(.int (64 : Int32))] below meth c s₁ [] 0 0 := Stand.of_body Bd
  have e0 : s₁.heap = h0 := by rw [← hh, Bd.state]; rfl
  have N0 := Fr.nil n0
  refine oEnter (oCast (ef_rmNtz64 m (64 : Int32) ) ?_)
  show oGl p e below (s₁.setTop (mkF m 0 #[.val (.int (64 : Int32)), .unset] [])) _
  refine siloadN X0 hx (hb hby d5_0) rfl rfl (pc' := 1) ?_
  refine siconst X0 hx (hb hby d5_1) rfl rfl (z := -1) (pc' := 2) ?_
  refine sixor X0 hx (hb hby d5_2) rfl (by decide) (z := (-65 : Int32)) (pc' := 3) ?_
  refine siloadN X0 hx (hb hby d5_3) rfl rfl (pc' := 4) ?_
  refine siconst X0 hx (hb hby d5_4) rfl rfl (z := 1) (pc' := 5) ?_
  refine sisub X0 hx (hb hby d5_5) rfl (by decide) (z := (63 : Int32)) (pc' := 6) ?_
  refine siand X0 hx (hb hby d5_6) rfl (by decide) (z := (63 : Int32)) (pc' := 7) ?_
  refine sistoreN X0 hx (hb hby d5_7) rfl rfl (l' := #[.val (.int (63 : Int32)), .unset]) (pc' := 8) ?_
  refine siloadN X0 hx (hb hby d5_8) rfl rfl (pc' := 9) ?_
  refine sifY X0 hx (hb hby d5_9) (by decide) (by decide) (tlt (by decide : (0 : Int32) < (63 : Int32))).2.2.1 (pc' := 17) ?_
  refine siconst X0 hx (hb hby d5_17) rfl rfl (z := 1) (pc' := 18) ?_
  refine sistoreN X0 hx (hb hby d5_18) rfl rfl (l' := #[.val (.int (63 : Int32)), .val (.int (1 : Int32))]) (pc' := 19) ?_
  refine siloadN X0 hx (hb hby d5_19) rfl rfl (pc' := 20) ?_
  refine oOn (X0.ldcwInt hx hown (mvT hZ (hw _ (List.mem_of_getElem? (i := 29) rfl))) (g := (mkF m 20 #[.val (.int (63 : Int32)), .val (.int (1 : Int32))] [(.int (63 : Int32))])) rfl (hb hby d5_20)) ?_
  show oGl p e below (s₁.setTop (mkF m 23 #[.val (.int (63 : Int32)), .val (.int (1 : Int32))] [(.int (65536 : Int32)), (.int (63 : Int32))])) _
  refine sicY X0 hx (hb hby d5_23) (by decide) (by decide) (flt (by decide : ¬ ((65536 : Int32) < (63 : Int32)))).2.2.2 (pc' := 34) ?_
  refine siloadN X0 hx (hb hby d5_34) rfl rfl (pc' := 35) ?_
  refine ssipush X0 hx (hb hby d5_35) rfl rfl (z := 256) (pc' := 38) ?_
  refine sicY X0 hx (hb hby d5_38) (by decide) (by decide) (flt (by decide : ¬ ((256 : Int32) < (63 : Int32)))).2.2.2 (pc' := 49) ?_
  refine siloadN X0 hx (hb hby d5_49) rfl rfl (pc' := 50) ?_
  refine sbipush X0 hx (hb hby d5_50) rfl rfl (z := 16) (pc' := 52) ?_
  refine sicN X0 hx (hb hby d5_52) rfl (tlt (by decide : (16 : Int32) < (63 : Int32))).2.2.2 (pc' := 55) ?_
  refine siinc X0 hx (hb hby d5_55) rfl rfl rfl (l' := #[.val (.int (63 : Int32)), .val (.int (5 : Int32))]) (pc' := 58) ?_
  refine siloadN X0 hx (hb hby d5_58) rfl rfl (pc' := 59) ?_
  refine siconst X0 hx (hb hby d5_59) rfl rfl (z := 4) (pc' := 60) ?_
  refine siushr X0 hx (hb hby d5_60) rfl (by decide) (z := (3 : Int32)) (pc' := 61) ?_
  refine sistoreN X0 hx (hb hby d5_61) rfl rfl (l' := #[.val (.int (3 : Int32)), .val (.int (5 : Int32))]) (pc' := 62) ?_
  refine siloadN X0 hx (hb hby d5_62) rfl rfl (pc' := 63) ?_
  refine siconst X0 hx (hb hby d5_63) rfl rfl (z := 4) (pc' := 64) ?_
  refine sicY X0 hx (hb hby d5_64) (by decide) (by decide) (flt (by decide : ¬ ((4 : Int32) < (3 : Int32)))).2.2.2 (pc' := 74) ?_
  refine siloadN X0 hx (hb hby d5_74) rfl rfl (pc' := 75) ?_
  refine siloadN X0 hx (hb hby d5_75) rfl rfl (pc' := 76) ?_
  refine siconst X0 hx (hb hby d5_76) rfl rfl (z := 1) (pc' := 77) ?_
  refine siushr X0 hx (hb hby d5_77) rfl (by decide) (z := (1 : Int32)) (pc' := 78) ?_
  refine siadd X0 hx (hb hby d5_78) rfl (by decide) (z := (6 : Int32)) (pc' := 79) ?_
  refine oRetI X0 hx Bd.notSynchronized Bd.returns (hb hby d5_79) (by decide) (by decide) ?_
  show Q_rmNtz64 Z  h0 n0 _ s₁.heap _
  rw [e0]
  exact ⟨rfl, N0, rfl⟩
theorem d5_67 : decode jdk_33_method_48_code 67 = .ok (.iinc 1 2, 3) := by decide +kernel
theorem d5_70 : decode jdk_33_method_48_code 70 = .ok (.iload_n 0, 1) := by decide +kernel
theorem d5_71 : decode jdk_33_method_48_code 71 = .ok (.iconst 2, 1) := by decide +kernel
theorem d5_72 : decode jdk_33_method_48_code 72 = .ok (.iushr, 1) := by decide +kernel
theorem d5_73 : decode jdk_33_method_48_code 73 = .ok (.istore_n 0, 1) := by decide +kernel
theorem ef_rmNtz128 (m : MethodId) (x0 : Int32)  : entryFrame m #[(.int x0)] 2 = mkF m 0 #[.val (.int x0), .unset] [] := by first | (simp [entryFrame, mkF, argsToLocals, Value.category, maxLocals]; done) | rfl
def Q_rmNtz128 (Z : State)  (h0 : Heap) (n0 : Nat) (vv : Option Value) (h : Heap) (L : List Loc) : Prop := vv = some (.int 7) ∧ Fr n0 L ∧ h = h0
set_option maxRecDepth 65536 in
set_option maxHeartbeats 40000000 in
theorem rmNtz128 (l : Launch) (Z : State) (a0 : Array Value) (hw : ∀ d ∈ tables_1, d.before a0 Z = true) (ws : List Jvm.Cond)  (h0 : Heap) (n0 : Nat) (Z0 : n0 ≤ h0.size)  :
    MetFree l (⟨"java/lang/Integer", "numberOfTrailingZeros", "(I)I"⟩ : MethodName) (head1 (Jvm.Cond.code (⟨"java/lang/Integer", "numberOfTrailingZeros", "(I)I"⟩ : MethodName) jdk_33_method_48_code 2 (some .int) :: ws) ({ frames := 0, cells := 0, slots := 0, locals := 0 } : Room)) (fun aA uU => aA = #[(.int (128 : Int32))] ∧ Z.Warmed39 uU.vm ∧ uU.heap = h0) (fun _ _ _ _ _ => True) (fun _ uU oO uU' => ∃ vV lL, oO = .returned vV ∧ Q_rmNtz128 Z  h0 n0 vV uU'.heap lL ∧ FrameEnd uU oO uU' lL ({ frames := 0, cells := 0, slots := 0, locals := 0 } : Room).cells ({ frames := 0, cells := 0, slots := 0, locals := 0 } : Room).slots) := by
  refine MetFree.of_bodySF (plainFor_of_name pn_Integer) hisR ?_
  intro p e s m args below meth c s₁ Bd hml0 hP hK
  obtain ⟨rfl, hZ, hh⟩ := hP
  have hx := Bd.exec
  have hby := Bd.bytes
  have hml : c.maxLocals = 2 := hml0
  have hown : s.vm.findClass "java/lang/Integer" = some m.cls := findClass_of_methodNamed Bd.named
  have hnm := (name_of_methodNamed Bd.named Bd.method).1
  have X0 : Stand p l e ({ frames := 0, cells := 0, slots := 0, locals := 0 } : Room) s m #[(.int (128 : Int32))] below meth c s₁ [] 0 0 := Stand.of_body Bd
  have e0 : s₁.heap = h0 := by rw [← hh, Bd.state]; rfl
  have N0 := Fr.nil n0
  refine oEnter (oCast (ef_rmNtz128 m (128 : Int32) ) ?_)
  show oGl p e below (s₁.setTop (mkF m 0 #[.val (.int (128 : Int32)), .unset] [])) _
  refine siloadN X0 hx (hb hby d5_0) rfl rfl (pc' := 1) ?_
  refine siconst X0 hx (hb hby d5_1) rfl rfl (z := -1) (pc' := 2) ?_
  refine sixor X0 hx (hb hby d5_2) rfl (by decide) (z := (-129 : Int32)) (pc' := 3) ?_
  refine siloadN X0 hx (hb hby d5_3) rfl rfl (pc' := 4) ?_
  refine siconst X0 hx (hb hby d5_4) rfl rfl (z := 1) (pc' := 5) ?_
  refine sisub X0 hx (hb hby d5_5) rfl (by decide) (z := (127 : Int32)) (pc' := 6) ?_
  refine siand X0 hx (hb hby d5_6) rfl (by decide) (z := (127 : Int32)) (pc' := 7) ?_
  refine sistoreN X0 hx (hb hby d5_7) rfl rfl (l' := #[.val (.int (127 : Int32)), .unset]) (pc' := 8) ?_
  refine siloadN X0 hx (hb hby d5_8) rfl rfl (pc' := 9) ?_
  refine sifY X0 hx (hb hby d5_9) (by decide) (by decide) (tlt (by decide : (0 : Int32) < (127 : Int32))).2.2.1 (pc' := 17) ?_
  refine siconst X0 hx (hb hby d5_17) rfl rfl (z := 1) (pc' := 18) ?_
  refine sistoreN X0 hx (hb hby d5_18) rfl rfl (l' := #[.val (.int (127 : Int32)), .val (.int (1 : Int32))]) (pc' := 19) ?_
  refine siloadN X0 hx (hb hby d5_19) rfl rfl (pc' := 20) ?_
  refine oOn (X0.ldcwInt hx hown (mvT hZ (hw _ (List.mem_of_getElem? (i := 29) rfl))) (g := (mkF m 20 #[.val (.int (127 : Int32)), .val (.int (1 : Int32))] [(.int (127 : Int32))])) rfl (hb hby d5_20)) ?_
  show oGl p e below (s₁.setTop (mkF m 23 #[.val (.int (127 : Int32)), .val (.int (1 : Int32))] [(.int (65536 : Int32)), (.int (127 : Int32))])) _
  refine sicY X0 hx (hb hby d5_23) (by decide) (by decide) (flt (by decide : ¬ ((65536 : Int32) < (127 : Int32)))).2.2.2 (pc' := 34) ?_
  refine siloadN X0 hx (hb hby d5_34) rfl rfl (pc' := 35) ?_
  refine ssipush X0 hx (hb hby d5_35) rfl rfl (z := 256) (pc' := 38) ?_
  refine sicY X0 hx (hb hby d5_38) (by decide) (by decide) (flt (by decide : ¬ ((256 : Int32) < (127 : Int32)))).2.2.2 (pc' := 49) ?_
  refine siloadN X0 hx (hb hby d5_49) rfl rfl (pc' := 50) ?_
  refine sbipush X0 hx (hb hby d5_50) rfl rfl (z := 16) (pc' := 52) ?_
  refine sicN X0 hx (hb hby d5_52) rfl (tlt (by decide : (16 : Int32) < (127 : Int32))).2.2.2 (pc' := 55) ?_
  refine siinc X0 hx (hb hby d5_55) rfl rfl rfl (l' := #[.val (.int (127 : Int32)), .val (.int (5 : Int32))]) (pc' := 58) ?_
  refine siloadN X0 hx (hb hby d5_58) rfl rfl (pc' := 59) ?_
  refine siconst X0 hx (hb hby d5_59) rfl rfl (z := 4) (pc' := 60) ?_
  refine siushr X0 hx (hb hby d5_60) rfl (by decide) (z := (7 : Int32)) (pc' := 61) ?_
  refine sistoreN X0 hx (hb hby d5_61) rfl rfl (l' := #[.val (.int (7 : Int32)), .val (.int (5 : Int32))]) (pc' := 62) ?_
  refine siloadN X0 hx (hb hby d5_62) rfl rfl (pc' := 63) ?_
  refine siconst X0 hx (hb hby d5_63) rfl rfl (z := 4) (pc' := 64) ?_
  refine sicN X0 hx (hb hby d5_64) rfl (tlt (by decide : (4 : Int32) < (7 : Int32))).2.2.2 (pc' := 67) ?_
  refine siinc X0 hx (hb hby d5_67) rfl rfl rfl (l' := #[.val (.int (7 : Int32)), .val (.int (7 : Int32))]) (pc' := 70) ?_
  refine siloadN X0 hx (hb hby d5_70) rfl rfl (pc' := 71) ?_
  refine siconst X0 hx (hb hby d5_71) rfl rfl (z := 2) (pc' := 72) ?_
  refine siushr X0 hx (hb hby d5_72) rfl (by decide) (z := (1 : Int32)) (pc' := 73) ?_
  refine sistoreN X0 hx (hb hby d5_73) rfl rfl (l' := #[.val (.int (1 : Int32)), .val (.int (7 : Int32))]) (pc' := 74) ?_
  refine siloadN X0 hx (hb hby d5_74) rfl rfl (pc' := 75) ?_
  refine siloadN X0 hx (hb hby d5_75) rfl rfl (pc' := 76) ?_
  refine siconst X0 hx (hb hby d5_76) rfl rfl (z := 1) (pc' := 77) ?_
  refine siushr X0 hx (hb hby d5_77) rfl (by decide) (z := (0 : Int32)) (pc' := 78) ?_
  refine siadd X0 hx (hb hby d5_78) rfl (by decide) (z := (7 : Int32)) (pc' := 79) ?_
  refine oRetI X0 hx Bd.notSynchronized Bd.returns (hb hby d5_79) (by decide) (by decide) ?_
  show Q_rmNtz128 Z  h0 n0 _ s₁.heap _
  rw [e0]
  exact ⟨rfl, N0, rfl⟩
theorem ef_rmNtz256 (m : MethodId) (x0 : Int32)  : entryFrame m #[(.int x0)] 2 = mkF m 0 #[.val (.int x0), .unset] [] := by first | (simp [entryFrame, mkF, argsToLocals, Value.category, maxLocals]; done) | rfl
def Q_rmNtz256 (Z : State)  (h0 : Heap) (n0 : Nat) (vv : Option Value) (h : Heap) (L : List Loc) : Prop := vv = some (.int 8) ∧ Fr n0 L ∧ h = h0
set_option maxRecDepth 65536 in
set_option maxHeartbeats 40000000 in
theorem rmNtz256 (l : Launch) (Z : State) (a0 : Array Value) (hw : ∀ d ∈ tables_1, d.before a0 Z = true) (ws : List Jvm.Cond)  (h0 : Heap) (n0 : Nat) (Z0 : n0 ≤ h0.size)  :
    MetFree l (⟨"java/lang/Integer", "numberOfTrailingZeros", "(I)I"⟩ : MethodName) (head1 (Jvm.Cond.code (⟨"java/lang/Integer", "numberOfTrailingZeros", "(I)I"⟩ : MethodName) jdk_33_method_48_code 2 (some .int) :: ws) ({ frames := 0, cells := 0, slots := 0, locals := 0 } : Room)) (fun aA uU => aA = #[(.int (256 : Int32))] ∧ Z.Warmed39 uU.vm ∧ uU.heap = h0) (fun _ _ _ _ _ => True) (fun _ uU oO uU' => ∃ vV lL, oO = .returned vV ∧ Q_rmNtz256 Z  h0 n0 vV uU'.heap lL ∧ FrameEnd uU oO uU' lL ({ frames := 0, cells := 0, slots := 0, locals := 0 } : Room).cells ({ frames := 0, cells := 0, slots := 0, locals := 0 } : Room).slots) := by
  refine MetFree.of_bodySF (plainFor_of_name pn_Integer) hisR ?_
  intro p e s m args below meth c s₁ Bd hml0 hP hK
  obtain ⟨rfl, hZ, hh⟩ := hP
  have hx := Bd.exec
  have hby := Bd.bytes
  have hml : c.maxLocals = 2 := hml0
  have hown : s.vm.findClass "java/lang/Integer" = some m.cls := findClass_of_methodNamed Bd.named
  have hnm := (name_of_methodNamed Bd.named Bd.method).1
  have X0 : Stand p l e ({ frames := 0, cells := 0, slots := 0, locals := 0 } : Room) s m #[(.int (256 : Int32))] below meth c s₁ [] 0 0 := Stand.of_body Bd
  have e0 : s₁.heap = h0 := by rw [← hh, Bd.state]; rfl
  have N0 := Fr.nil n0
  refine oEnter (oCast (ef_rmNtz256 m (256 : Int32) ) ?_)
  show oGl p e below (s₁.setTop (mkF m 0 #[.val (.int (256 : Int32)), .unset] [])) _
  refine siloadN X0 hx (hb hby d5_0) rfl rfl (pc' := 1) ?_
  refine siconst X0 hx (hb hby d5_1) rfl rfl (z := -1) (pc' := 2) ?_
  refine sixor X0 hx (hb hby d5_2) rfl (by decide) (z := (-257 : Int32)) (pc' := 3) ?_
  refine siloadN X0 hx (hb hby d5_3) rfl rfl (pc' := 4) ?_
  refine siconst X0 hx (hb hby d5_4) rfl rfl (z := 1) (pc' := 5) ?_
  refine sisub X0 hx (hb hby d5_5) rfl (by decide) (z := (255 : Int32)) (pc' := 6) ?_
  refine siand X0 hx (hb hby d5_6) rfl (by decide) (z := (255 : Int32)) (pc' := 7) ?_
  refine sistoreN X0 hx (hb hby d5_7) rfl rfl (l' := #[.val (.int (255 : Int32)), .unset]) (pc' := 8) ?_
  refine siloadN X0 hx (hb hby d5_8) rfl rfl (pc' := 9) ?_
  refine sifY X0 hx (hb hby d5_9) (by decide) (by decide) (tlt (by decide : (0 : Int32) < (255 : Int32))).2.2.1 (pc' := 17) ?_
  refine siconst X0 hx (hb hby d5_17) rfl rfl (z := 1) (pc' := 18) ?_
  refine sistoreN X0 hx (hb hby d5_18) rfl rfl (l' := #[.val (.int (255 : Int32)), .val (.int (1 : Int32))]) (pc' := 19) ?_
  refine siloadN X0 hx (hb hby d5_19) rfl rfl (pc' := 20) ?_
  refine oOn (X0.ldcwInt hx hown (mvT hZ (hw _ (List.mem_of_getElem? (i := 29) rfl))) (g := (mkF m 20 #[.val (.int (255 : Int32)), .val (.int (1 : Int32))] [(.int (255 : Int32))])) rfl (hb hby d5_20)) ?_
  show oGl p e below (s₁.setTop (mkF m 23 #[.val (.int (255 : Int32)), .val (.int (1 : Int32))] [(.int (65536 : Int32)), (.int (255 : Int32))])) _
  refine sicY X0 hx (hb hby d5_23) (by decide) (by decide) (flt (by decide : ¬ ((65536 : Int32) < (255 : Int32)))).2.2.2 (pc' := 34) ?_
  refine siloadN X0 hx (hb hby d5_34) rfl rfl (pc' := 35) ?_
  refine ssipush X0 hx (hb hby d5_35) rfl rfl (z := 256) (pc' := 38) ?_
  refine sicY X0 hx (hb hby d5_38) (by decide) (by decide) (flt (by decide : ¬ ((256 : Int32) < (255 : Int32)))).2.2.2 (pc' := 49) ?_
  refine siloadN X0 hx (hb hby d5_49) rfl rfl (pc' := 50) ?_
  refine sbipush X0 hx (hb hby d5_50) rfl rfl (z := 16) (pc' := 52) ?_
  refine sicN X0 hx (hb hby d5_52) rfl (tlt (by decide : (16 : Int32) < (255 : Int32))).2.2.2 (pc' := 55) ?_
  refine siinc X0 hx (hb hby d5_55) rfl rfl rfl (l' := #[.val (.int (255 : Int32)), .val (.int (5 : Int32))]) (pc' := 58) ?_
  refine siloadN X0 hx (hb hby d5_58) rfl rfl (pc' := 59) ?_
  refine siconst X0 hx (hb hby d5_59) rfl rfl (z := 4) (pc' := 60) ?_
  refine siushr X0 hx (hb hby d5_60) rfl (by decide) (z := (15 : Int32)) (pc' := 61) ?_
  refine sistoreN X0 hx (hb hby d5_61) rfl rfl (l' := #[.val (.int (15 : Int32)), .val (.int (5 : Int32))]) (pc' := 62) ?_
  refine siloadN X0 hx (hb hby d5_62) rfl rfl (pc' := 63) ?_
  refine siconst X0 hx (hb hby d5_63) rfl rfl (z := 4) (pc' := 64) ?_
  refine sicN X0 hx (hb hby d5_64) rfl (tlt (by decide : (4 : Int32) < (15 : Int32))).2.2.2 (pc' := 67) ?_
  refine siinc X0 hx (hb hby d5_67) rfl rfl rfl (l' := #[.val (.int (15 : Int32)), .val (.int (7 : Int32))]) (pc' := 70) ?_
  refine siloadN X0 hx (hb hby d5_70) rfl rfl (pc' := 71) ?_
  refine siconst X0 hx (hb hby d5_71) rfl rfl (z := 2) (pc' := 72) ?_
  refine siushr X0 hx (hb hby d5_72) rfl (by decide) (z := (3 : Int32)) (pc' := 73) ?_
  refine sistoreN X0 hx (hb hby d5_73) rfl rfl (l' := #[.val (.int (3 : Int32)), .val (.int (7 : Int32))]) (pc' := 74) ?_
  refine siloadN X0 hx (hb hby d5_74) rfl rfl (pc' := 75) ?_
  refine siloadN X0 hx (hb hby d5_75) rfl rfl (pc' := 76) ?_
  refine siconst X0 hx (hb hby d5_76) rfl rfl (z := 1) (pc' := 77) ?_
  refine siushr X0 hx (hb hby d5_77) rfl (by decide) (z := (1 : Int32)) (pc' := 78) ?_
  refine siadd X0 hx (hb hby d5_78) rfl (by decide) (z := (8 : Int32)) (pc' := 79) ?_
  refine oRetI X0 hx Bd.notSynchronized Bd.returns (hb hby d5_79) (by decide) (by decide) ?_
  show Q_rmNtz256 Z  h0 n0 _ s₁.heap _
  rw [e0]
  exact ⟨rfl, N0, rfl⟩
theorem d7_0 : decode jdk_29_method_59_code 0 = .ok (.iload_n 0, 1) := by decide +kernel
theorem d7_1 : decode jdk_29_method_59_code 1 = .ok (.ifCond .ge 8, 3) := by decide +kernel
theorem d7_9 : decode jdk_29_method_59_code 9 = .ok (.iload_n 0, 1) := by decide +kernel
theorem d7_10 : decode jdk_29_method_59_code 10 = .ok (.ireturn, 1) := by decide +kernel
theorem ef_rmAbs3 (m : MethodId) (x0 : Int32)  : entryFrame m #[(.int x0)] 1 = mkF m 0 #[.val (.int x0)] [] := by first | (simp [entryFrame, mkF, argsToLocals, Value.category, maxLocals]; done) | rfl
def Q_rmAbs3 (Z : State)  (h0 : Heap) (n0 : Nat) (vv : Option Value) (h : Heap) (L : List Loc) : Prop := vv = some (.int 3) ∧ Fr n0 L ∧ h = h0
set_option maxRecDepth 65536 in
set_option maxHeartbeats 40000000 in
theorem rmAbs3 (l : Launch) (Z : State) (a0 : Array Value) (hw : ∀ d ∈ tables_1, d.before a0 Z = true) (ws : List Jvm.Cond)  (h0 : Heap) (n0 : Nat) (Z0 : n0 ≤ h0.size)  :
    MetFree l (⟨"java/lang/Math", "abs", "(I)I"⟩ : MethodName) (head1 (Jvm.Cond.code (⟨"java/lang/Math", "abs", "(I)I"⟩ : MethodName) jdk_29_method_59_code 1 (some .int) :: ws) ({ frames := 0, cells := 0, slots := 0, locals := 0 } : Room)) (fun aA uU => aA = #[(.int (3 : Int32))] ∧ Z.Warmed39 uU.vm ∧ uU.heap = h0) (fun _ _ _ _ _ => True) (fun _ uU oO uU' => ∃ vV lL, oO = .returned vV ∧ Q_rmAbs3 Z  h0 n0 vV uU'.heap lL ∧ FrameEnd uU oO uU' lL ({ frames := 0, cells := 0, slots := 0, locals := 0 } : Room).cells ({ frames := 0, cells := 0, slots := 0, locals := 0 } : Room).slots) := by
  refine MetFree.of_bodySF (by decide +kernel) hisR ?_
  intro p e s m args below meth c s₁ Bd hml0 hP hK
  obtain ⟨rfl, hZ, hh⟩ := hP
  have hx := Bd.exec
  have hby := Bd.bytes
  have hml : c.maxLocals = 1 := hml0
  have hown : s.vm.findClass "java/lang/Math" = some m.cls := findClass_of_methodNamed Bd.named
  have hnm := (name_of_methodNamed Bd.named Bd.method).1
  have X0 : Stand p l e ({ frames := 0, cells := 0, slots := 0, locals := 0 } : Room) s m #[(.int (3 : Int32))] below meth c s₁ [] 0 0 := Stand.of_body Bd
  have e0 : s₁.heap = h0 := by rw [← hh, Bd.state]; rfl
  have N0 := Fr.nil n0
  refine oEnter (oCast (ef_rmAbs3 m (3 : Int32) ) ?_)
  show oGl p e below (s₁.setTop (mkF m 0 #[.val (.int (3 : Int32))] [])) _
  refine siloadN X0 hx (hb hby d7_0) rfl rfl (pc' := 1) ?_
  refine sifY X0 hx (hb hby d7_1) (by decide) (by decide) (flt (by decide : ¬ ((3 : Int32) < (0 : Int32)))).2.1 (pc' := 9) ?_
  refine siloadN X0 hx (hb hby d7_9) rfl rfl (pc' := 10) ?_
  refine oRetI X0 hx Bd.notSynchronized Bd.returns (hb hby d7_10) (by decide) (by decide) ?_
  show Q_rmAbs3 Z  h0 n0 _ s₁.heap _
  rw [e0]
  exact ⟨rfl, N0, rfl⟩
theorem ef_rmAbs29 (m : MethodId) (x0 : Int32)  : entryFrame m #[(.int x0)] 1 = mkF m 0 #[.val (.int x0)] [] := by first | (simp [entryFrame, mkF, argsToLocals, Value.category, maxLocals]; done) | rfl
def Q_rmAbs29 (Z : State)  (h0 : Heap) (n0 : Nat) (vv : Option Value) (h : Heap) (L : List Loc) : Prop := vv = some (.int 29) ∧ Fr n0 L ∧ h = h0
set_option maxRecDepth 65536 in
set_option maxHeartbeats 40000000 in
theorem rmAbs29 (l : Launch) (Z : State) (a0 : Array Value) (hw : ∀ d ∈ tables_1, d.before a0 Z = true) (ws : List Jvm.Cond)  (h0 : Heap) (n0 : Nat) (Z0 : n0 ≤ h0.size)  :
    MetFree l (⟨"java/lang/Math", "abs", "(I)I"⟩ : MethodName) (head1 (Jvm.Cond.code (⟨"java/lang/Math", "abs", "(I)I"⟩ : MethodName) jdk_29_method_59_code 1 (some .int) :: ws) ({ frames := 0, cells := 0, slots := 0, locals := 0 } : Room)) (fun aA uU => aA = #[(.int (29 : Int32))] ∧ Z.Warmed39 uU.vm ∧ uU.heap = h0) (fun _ _ _ _ _ => True) (fun _ uU oO uU' => ∃ vV lL, oO = .returned vV ∧ Q_rmAbs29 Z  h0 n0 vV uU'.heap lL ∧ FrameEnd uU oO uU' lL ({ frames := 0, cells := 0, slots := 0, locals := 0 } : Room).cells ({ frames := 0, cells := 0, slots := 0, locals := 0 } : Room).slots) := by
  refine MetFree.of_bodySF (by decide +kernel) hisR ?_
  intro p e s m args below meth c s₁ Bd hml0 hP hK
  obtain ⟨rfl, hZ, hh⟩ := hP
  have hx := Bd.exec
  have hby := Bd.bytes
  have hml : c.maxLocals = 1 := hml0
  have hown : s.vm.findClass "java/lang/Math" = some m.cls := findClass_of_methodNamed Bd.named
  have hnm := (name_of_methodNamed Bd.named Bd.method).1
  have X0 : Stand p l e ({ frames := 0, cells := 0, slots := 0, locals := 0 } : Room) s m #[(.int (29 : Int32))] below meth c s₁ [] 0 0 := Stand.of_body Bd
  have e0 : s₁.heap = h0 := by rw [← hh, Bd.state]; rfl
  have N0 := Fr.nil n0
  refine oEnter (oCast (ef_rmAbs29 m (29 : Int32) ) ?_)
  show oGl p e below (s₁.setTop (mkF m 0 #[.val (.int (29 : Int32))] [])) _
  refine siloadN X0 hx (hb hby d7_0) rfl rfl (pc' := 1) ?_
  refine sifY X0 hx (hb hby d7_1) (by decide) (by decide) (flt (by decide : ¬ ((29 : Int32) < (0 : Int32)))).2.1 (pc' := 9) ?_
  refine siloadN X0 hx (hb hby d7_9) rfl rfl (pc' := 10) ?_
  refine oRetI X0 hx Bd.notSynchronized Bd.returns (hb hby d7_10) (by decide) (by decide) ?_
  show Q_rmAbs29 Z  h0 n0 _ s₁.heap _
  rw [e0]
  exact ⟨rfl, N0, rfl⟩
theorem d6_0 : decode prog_7_method_10_code 0 = .ok (.iload_n 0, 1) := by decide +kernel
theorem d6_1 : decode prog_7_method_10_code 1 = .ok (.iload_n 1, 1) := by decide +kernel
theorem d6_2 : decode prog_7_method_10_code 2 = .ok (.if_icmp .le 17, 3) := by decide +kernel
theorem d6_19 : decode prog_7_method_10_code 19 = .ok (.return_, 1) := by decide +kernel
theorem pn_FseTable : plainName "com/example/moraine/moraine/compression/FseTable" = true := by first | (simp [plainName, overriddenIn]; done) | decide +kernel
theorem ef_rmReq0 (m : MethodId) (x0 : Int32) (x1 : Int32)  : entryFrame m #[(.int x0), (.int x1)] 2 = mkF m 0 #[.val (.int x0), .val (.int x1)] [] := by first | (simp [entryFrame, mkF, argsToLocals, Value.category, maxLocals]; done) | rfl
def Q_rmReq0 (Z : State)  (h0 : Heap) (n0 : Nat) (vv : Option Value) (h : Heap) (L : List Loc) : Prop := vv = none ∧ Fr n0 L ∧ h = h0
set_option maxRecDepth 65536 in
set_option maxHeartbeats 40000000 in
theorem rmReq0 (l : Launch) (Z : State) (a0 : Array Value) (hw : ∀ d ∈ tables_1, d.before a0 Z = true) (ws : List Jvm.Cond)  (h0 : Heap) (n0 : Nat) (Z0 : n0 ≤ h0.size)  :
    MetFree l (⟨"com/example/moraine/moraine/compression/FseTable", "requireSymbol", "(II)V"⟩ : MethodName) (head1 (Jvm.Cond.code (⟨"com/example/moraine/moraine/compression/FseTable", "requireSymbol", "(II)V"⟩ : MethodName) prog_7_method_10_code 2 (none : Option FieldType) :: ws) ({ frames := 0, cells := 0, slots := 0, locals := 0 } : Room)) (fun aA uU => aA = #[(.int (0 : Int32)), (.int (1 : Int32))] ∧ Z.Warmed39 uU.vm ∧ uU.heap = h0) (fun _ _ _ _ _ => True) (fun _ uU oO uU' => ∃ vV lL, oO = .returned vV ∧ Q_rmReq0 Z  h0 n0 vV uU'.heap lL ∧ FrameEnd uU oO uU' lL ({ frames := 0, cells := 0, slots := 0, locals := 0 } : Room).cells ({ frames := 0, cells := 0, slots := 0, locals := 0 } : Room).slots) := by
  refine MetFree.of_bodySF (plainFor_of_name pn_FseTable) hisR ?_
  intro p e s m args below meth c s₁ Bd hml0 hP hK
  obtain ⟨rfl, hZ, hh⟩ := hP
  have hx := Bd.exec
  have hby := Bd.bytes
  have hml : c.maxLocals = 2 := hml0
  have hown : s.vm.findClass "com/example/moraine/moraine/compression/FseTable" = some m.cls := findClass_of_methodNamed Bd.named
  have hnm := (name_of_methodNamed Bd.named Bd.method).1
  have X0 : Stand p l e ({ frames := 0, cells := 0, slots := 0, locals := 0 } : Room) s m #[(.int (0 : Int32)), (.int (1 : Int32))] below meth c s₁ [] 0 0 := Stand.of_body Bd
  have e0 : s₁.heap = h0 := by rw [← hh, Bd.state]; rfl
  have N0 := Fr.nil n0
  refine oEnter (oCast (ef_rmReq0 m (0 : Int32) (1 : Int32) ) ?_)
  show oGl p e below (s₁.setTop (mkF m 0 #[.val (.int (0 : Int32)), .val (.int (1 : Int32))] [])) _
  refine siloadN X0 hx (hb hby d6_0) rfl rfl (pc' := 1) ?_
  refine siloadN X0 hx (hb hby d6_1) rfl rfl (pc' := 2) ?_
  refine sicY X0 hx (hb hby d6_2) (by decide) (by decide) (flt (by decide : ¬ ((1 : Int32) < (0 : Int32)))).2.2.2 (pc' := 19) ?_
  refine oRet0 X0 hx Bd.notSynchronized Bd.returns (hb hby d6_19) (by decide) (by decide) ?_
  show Q_rmReq0 Z  h0 n0 _ s₁.heap _
  rw [e0]
  exact ⟨rfl, N0, rfl⟩
theorem ef_rmReq1 (m : MethodId) (x0 : Int32) (x1 : Int32)  : entryFrame m #[(.int x0), (.int x1)] 2 = mkF m 0 #[.val (.int x0), .val (.int x1)] [] := by first | (simp [entryFrame, mkF, argsToLocals, Value.category, maxLocals]; done) | rfl
def Q_rmReq1 (Z : State)  (h0 : Heap) (n0 : Nat) (vv : Option Value) (h : Heap) (L : List Loc) : Prop := vv = none ∧ Fr n0 L ∧ h = h0
set_option maxRecDepth 65536 in
set_option maxHeartbeats 40000000 in
theorem rmReq1 (l : Launch) (Z : State) (a0 : Array Value) (hw : ∀ d ∈ tables_1, d.before a0 Z = true) (ws : List Jvm.Cond)  (h0 : Heap) (n0 : Nat) (Z0 : n0 ≤ h0.size)  :
    MetFree l (⟨"com/example/moraine/moraine/compression/FseTable", "requireSymbol", "(II)V"⟩ : MethodName) (head1 (Jvm.Cond.code (⟨"com/example/moraine/moraine/compression/FseTable", "requireSymbol", "(II)V"⟩ : MethodName) prog_7_method_10_code 2 (none : Option FieldType) :: ws) ({ frames := 0, cells := 0, slots := 0, locals := 0 } : Room)) (fun aA uU => aA = #[(.int (1 : Int32)), (.int (1 : Int32))] ∧ Z.Warmed39 uU.vm ∧ uU.heap = h0) (fun _ _ _ _ _ => True) (fun _ uU oO uU' => ∃ vV lL, oO = .returned vV ∧ Q_rmReq1 Z  h0 n0 vV uU'.heap lL ∧ FrameEnd uU oO uU' lL ({ frames := 0, cells := 0, slots := 0, locals := 0 } : Room).cells ({ frames := 0, cells := 0, slots := 0, locals := 0 } : Room).slots) := by
  refine MetFree.of_bodySF (plainFor_of_name pn_FseTable) hisR ?_
  intro p e s m args below meth c s₁ Bd hml0 hP hK
  obtain ⟨rfl, hZ, hh⟩ := hP
  have hx := Bd.exec
  have hby := Bd.bytes
  have hml : c.maxLocals = 2 := hml0
  have hown : s.vm.findClass "com/example/moraine/moraine/compression/FseTable" = some m.cls := findClass_of_methodNamed Bd.named
  have hnm := (name_of_methodNamed Bd.named Bd.method).1
  have X0 : Stand p l e ({ frames := 0, cells := 0, slots := 0, locals := 0 } : Room) s m #[(.int (1 : Int32)), (.int (1 : Int32))] below meth c s₁ [] 0 0 := Stand.of_body Bd
  have e0 : s₁.heap = h0 := by rw [← hh, Bd.state]; rfl
  have N0 := Fr.nil n0
  refine oEnter (oCast (ef_rmReq1 m (1 : Int32) (1 : Int32) ) ?_)
  show oGl p e below (s₁.setTop (mkF m 0 #[.val (.int (1 : Int32)), .val (.int (1 : Int32))] [])) _
  refine siloadN X0 hx (hb hby d6_0) rfl rfl (pc' := 1) ?_
  refine siloadN X0 hx (hb hby d6_1) rfl rfl (pc' := 2) ?_
  refine sicY X0 hx (hb hby d6_2) (by decide) (by decide) (flt (by decide : ¬ ((1 : Int32) < (1 : Int32)))).2.2.2 (pc' := 19) ?_
  refine oRet0 X0 hx Bd.notSynchronized Bd.returns (hb hby d6_19) (by decide) (by decide) ?_
  show Q_rmReq1 Z  h0 n0 _ s₁.heap _
  rw [e0]
  exact ⟨rfl, N0, rfl⟩
theorem d4_0 : decode prog_7_method_11_code 0 = .ok (.iconst 0, 1) := by decide +kernel
theorem d4_1 : decode prog_7_method_11_code 1 = .ok (.istore 5, 2) := by decide +kernel
theorem d4_3 : decode prog_7_method_11_code 3 = .ok (.iconst 0, 1) := by decide +kernel
theorem d4_4 : decode prog_7_method_11_code 4 = .ok (.istore 6, 2) := by decide +kernel
theorem d4_6 : decode prog_7_method_11_code 6 = .ok (.iload 6, 2) := by decide +kernel
theorem d4_8 : decode prog_7_method_11_code 8 = .ok (.iload 4, 2) := by decide +kernel
theorem d4_10 : decode prog_7_method_11_code 10 = .ok (.if_icmp .ge 48, 3) := by decide +kernel
theorem d4_13 : decode prog_7_method_11_code 13 = .ok (.iload_n 1, 1) := by decide +kernel
theorem d4_14 : decode prog_7_method_11_code 14 = .ok (.iload_n 3, 1) := by decide +kernel
theorem d4_15 : decode prog_7_method_11_code 15 = .ok (.iload 6, 2) := by decide +kernel
theorem d4_17 : decode prog_7_method_11_code 17 = .ok (.iadd, 1) := by decide +kernel
theorem d4_18 : decode prog_7_method_11_code 18 = .ok (.bipush 8, 2) := by decide +kernel
theorem d4_20 : decode prog_7_method_11_code 20 = .ok (.idiv, 1) := by decide +kernel
theorem d4_21 : decode prog_7_method_11_code 21 = .ok (.iadd, 1) := by decide +kernel
theorem d4_22 : decode prog_7_method_11_code 22 = .ok (.istore 7, 2) := by decide +kernel
theorem d4_24 : decode prog_7_method_11_code 24 = .ok (.iload 7, 2) := by decide +kernel
theorem d4_26 : decode prog_7_method_11_code 26 = .ok (.iload_n 2, 1) := by decide +kernel
theorem d4_27 : decode prog_7_method_11_code 27 = .ok (.if_icmp .ge 25, 3) := by decide +kernel
theorem d4_30 : decode prog_7_method_11_code 30 = .ok (.iload 5, 2) := by decide +kernel
theorem d4_32 : decode prog_7_method_11_code 32 = .ok (.aload_n 0, 1) := by decide +kernel
theorem d4_33 : decode prog_7_method_11_code 33 = .ok (.iload 7, 2) := by decide +kernel
theorem d4_35 : decode prog_7_method_11_code 35 = .ok (.baload, 1) := by decide +kernel
theorem d4_36 : decode prog_7_method_11_code 36 = .ok (.iload_n 3, 1) := by decide +kernel
theorem d4_37 : decode prog_7_method_11_code 37 = .ok (.iload 6, 2) := by decide +kernel
theorem d4_39 : decode prog_7_method_11_code 39 = .ok (.iadd, 1) := by decide +kernel
theorem d4_40 : decode prog_7_method_11_code 40 = .ok (.bipush 8, 2) := by decide +kernel
theorem d4_42 : decode prog_7_method_11_code 42 = .ok (.irem, 1) := by decide +kernel
theorem d4_43 : decode prog_7_method_11_code 43 = .ok (.iushr, 1) := by decide +kernel
theorem d4_44 : decode prog_7_method_11_code 44 = .ok (.iconst 1, 1) := by decide +kernel
theorem d4_45 : decode prog_7_method_11_code 45 = .ok (.iand, 1) := by decide +kernel
theorem d4_46 : decode prog_7_method_11_code 46 = .ok (.iload 6, 2) := by decide +kernel
theorem d4_48 : decode prog_7_method_11_code 48 = .ok (.ishl, 1) := by decide +kernel
theorem d4_49 : decode prog_7_method_11_code 49 = .ok (.ior, 1) := by decide +kernel
theorem d4_50 : decode prog_7_method_11_code 50 = .ok (.istore 5, 2) := by decide +kernel
theorem d4_52 : decode prog_7_method_11_code 52 = .ok (.iinc 6 1, 3) := by decide +kernel
theorem d4_55 : decode prog_7_method_11_code 55 = .ok (.goto (-49), 3) := by decide +kernel
theorem d4_58 : decode prog_7_method_11_code 58 = .ok (.iload 5, 2) := by decide +kernel
theorem d4_60 : decode prog_7_method_11_code 60 = .ok (.ireturn, 1) := by decide +kernel
theorem ef_rmFwd0 (m : MethodId) (x0 : Nat) (x1 : Int32) (x2 : Int32) (x3 : Int32) (x4 : Int32)  : entryFrame m #[(.ref x0), (.int x1), (.int x2), (.int x3), (.int x4)] 8 = mkF m 0 #[.val (.ref x0), .val (.int x1), .val (.int x2), .val (.int x3), .val (.int x4), .unset, .unset, .unset] [] := by first | (simp [entryFrame, mkF, argsToLocals, Value.category, maxLocals]; done) | rfl
def Q_rmFwd0 (Z : State) (i : Nat) (h0 : Heap) (n0 : Nat) (vv : Option Value) (h : Heap) (L : List Loc) : Prop := vv = some (.int 0) ∧ Fr n0 L ∧ h = h0
set_option maxRecDepth 65536 in
set_option maxHeartbeats 40000000 in
theorem rmFwd0 (l : Launch) (Z : State) (a0 : Array Value) (hw : ∀ d ∈ tables_1, d.before a0 Z = true) (ws : List Jvm.Cond) (i : Nat) (h0 : Heap) (n0 : Nat) (Z0 : n0 ≤ h0.size) (VI : oAI Z h0 i .byte 2 (oUp (oUp (fun _ => 0) 0 64) 1 62)) :
    MetFree l (⟨"com/example/moraine/moraine/compression/FseTable", "forward", "([BIIII)I"⟩ : MethodName) (head1 (Jvm.Cond.code (⟨"com/example/moraine/moraine/compression/FseTable", "forward", "([BIIII)I"⟩ : MethodName) prog_7_method_11_code 8 (some .int) :: ws) ({ frames := 0, cells := 0, slots := 0, locals := 0 } : Room)) (fun aA uU => aA = #[(.ref i), (.int (0 : Int32)), (.int (2 : Int32)), (.int (0 : Int32)), (.int (4 : Int32))] ∧ Z.Warmed39 uU.vm ∧ uU.heap = h0) (fun _ _ _ _ _ => True) (fun _ uU oO uU' => ∃ vV lL, oO = .returned vV ∧ Q_rmFwd0 Z i h0 n0 vV uU'.heap lL ∧ FrameEnd uU oO uU' lL ({ frames := 0, cells := 0, slots := 0, locals := 0 } : Room).cells ({ frames := 0, cells := 0, slots := 0, locals := 0 } : Room).slots) := by
  refine MetFree.of_bodySF (plainFor_of_name pn_FseTable) hisR ?_
  intro p e s m args below meth c s₁ Bd hml0 hP hK
  obtain ⟨rfl, hZ, hh⟩ := hP
  have hx := Bd.exec
  have hby := Bd.bytes
  have hml : c.maxLocals = 8 := hml0
  have hown : s.vm.findClass "com/example/moraine/moraine/compression/FseTable" = some m.cls := findClass_of_methodNamed Bd.named
  have hnm := (name_of_methodNamed Bd.named Bd.method).1
  have X0 : Stand p l e ({ frames := 0, cells := 0, slots := 0, locals := 0 } : Room) s m #[(.ref i), (.int (0 : Int32)), (.int (2 : Int32)), (.int (0 : Int32)), (.int (4 : Int32))] below meth c s₁ [] 0 0 := Stand.of_body Bd
  have e0 : s₁.heap = h0 := by rw [← hh, Bd.state]; rfl
  have N0 := Fr.nil n0
  refine oEnter (oCast (ef_rmFwd0 m i (0 : Int32) (2 : Int32) (0 : Int32) (4 : Int32) ) ?_)
  show oGl p e below (s₁.setTop (mkF m 0 #[.val (.ref i), .val (.int (0 : Int32)), .val (.int (2 : Int32)), .val (.int (0 : Int32)), .val (.int (4 : Int32)), .unset, .unset, .unset] [])) _
  refine siconst X0 hx (hb hby d4_0) rfl rfl (z := 0) (pc' := 1) ?_
  refine sistore X0 hx (hb hby d4_1) rfl rfl (l' := #[.val (.ref i), .val (.int (0 : Int32)), .val (.int (2 : Int32)), .val (.int (0 : Int32)), .val (.int (4 : Int32)), .val (.int (0 : Int32)), .unset, .unset]) (pc' := 3) ?_
  refine siconst X0 hx (hb hby d4_3) rfl rfl (z := 0) (pc' := 4) ?_
  refine sistore X0 hx (hb hby d4_4) rfl rfl (l' := #[.val (.ref i), .val (.int (0 : Int32)), .val (.int (2 : Int32)), .val (.int (0 : Int32)), .val (.int (4 : Int32)), .val (.int (0 : Int32)), .val (.int (0 : Int32)), .unset]) (pc' := 6) ?_
  refine siload X0 hx (hb hby d4_6) rfl rfl (pc' := 8) ?_
  refine siload X0 hx (hb hby d4_8) rfl rfl (pc' := 10) ?_
  refine sicN X0 hx (hb hby d4_10) rfl (tlt (by decide : (0 : Int32) < (4 : Int32))).2.1 (pc' := 13) ?_
  refine siloadN X0 hx (hb hby d4_13) rfl rfl (pc' := 14) ?_
  refine siloadN X0 hx (hb hby d4_14) rfl rfl (pc' := 15) ?_
  refine siload X0 hx (hb hby d4_15) rfl rfl (pc' := 17) ?_
  refine siadd X0 hx (hb hby d4_17) rfl (by decide) (z := (0 : Int32)) (pc' := 18) ?_
  refine sbipush X0 hx (hb hby d4_18) rfl rfl (z := 8) (pc' := 20) ?_
  refine sidiv X0 hx (hb hby d4_20) rfl (by decide) (by decide) (z := (0 : Int32)) (pc' := 21) ?_
  refine siadd X0 hx (hb hby d4_21) rfl (by decide) (z := (0 : Int32)) (pc' := 22) ?_
  refine sistore X0 hx (hb hby d4_22) rfl rfl (l' := #[.val (.ref i), .val (.int (0 : Int32)), .val (.int (2 : Int32)), .val (.int (0 : Int32)), .val (.int (4 : Int32)), .val (.int (0 : Int32)), .val (.int (0 : Int32)), .val (.int (0 : Int32))]) (pc' := 24) ?_
  refine siload X0 hx (hb hby d4_24) rfl rfl (pc' := 26) ?_
  refine siloadN X0 hx (hb hby d4_26) rfl rfl (pc' := 27) ?_
  refine sicN X0 hx (hb hby d4_27) rfl (tlt (by decide : (0 : Int32) < (2 : Int32))).2.1 (pc' := 30) ?_
  refine siload X0 hx (hb hby d4_30) rfl rfl (pc' := 32) ?_
  refine saloadN X0 hx (hb hby d4_32) rfl rfl rfl (pc' := 33) ?_
  refine siload X0 hx (hb hby d4_33) rfl rfl (pc' := 35) ?_
  refine oOn (VI.ldB X0 hx hZ e0 (j := (0 : Int32)) (by decide) (g := (mkF m 35 #[.val (.ref i), .val (.int (0 : Int32)), .val (.int (2 : Int32)), .val (.int (0 : Int32)), .val (.int (4 : Int32)), .val (.int (0 : Int32)), .val (.int (0 : Int32)), .val (.int (0 : Int32))] [(.int (0 : Int32)), (.ref i), (.int (0 : Int32))])) rfl rfl (hb hby d4_35)) ?_
  show oGl p e below (s₁.setTop (mkF m 36 #[.val (.ref i), .val (.int (0 : Int32)), .val (.int (2 : Int32)), .val (.int (0 : Int32)), .val (.int (4 : Int32)), .val (.int (0 : Int32)), .val (.int (0 : Int32)), .val (.int (0 : Int32))] [(.int (64 : Int32)), (.int (0 : Int32))])) _
  refine siloadN X0 hx (hb hby d4_36) rfl rfl (pc' := 37) ?_
  refine siload X0 hx (hb hby d4_37) rfl rfl (pc' := 39) ?_
  refine siadd X0 hx (hb hby d4_39) rfl (by decide) (z := (0 : Int32)) (pc' := 40) ?_
  refine sbipush X0 hx (hb hby d4_40) rfl rfl (z := 8) (pc' := 42) ?_
  refine sirem X0 hx (hb hby d4_42) rfl (by decide) (by decide) (z := (0 : Int32)) (pc' := 43) ?_
  refine siushr X0 hx (hb hby d4_43) rfl (by decide) (z := (64 : Int32)) (pc' := 44) ?_
  refine siconst X0 hx (hb hby d4_44) rfl rfl (z := 1) (pc' := 45) ?_
  refine siand X0 hx (hb hby d4_45) rfl (by decide) (z := (0 : Int32)) (pc' := 46) ?_
  refine siload X0 hx (hb hby d4_46) rfl rfl (pc' := 48) ?_
  refine sishl X0 hx (hb hby d4_48) rfl (by decide) (z := (0 : Int32)) (pc' := 49) ?_
  refine sior X0 hx (hb hby d4_49) rfl (by decide) (z := (0 : Int32)) (pc' := 50) ?_
  refine sistore X0 hx (hb hby d4_50) rfl rfl (l' := #[.val (.ref i), .val (.int (0 : Int32)), .val (.int (2 : Int32)), .val (.int (0 : Int32)), .val (.int (4 : Int32)), .val (.int (0 : Int32)), .val (.int (0 : Int32)), .val (.int (0 : Int32))]) (pc' := 52) ?_
  refine siinc X0 hx (hb hby d4_52) rfl rfl rfl (l' := #[.val (.ref i), .val (.int (0 : Int32)), .val (.int (2 : Int32)), .val (.int (0 : Int32)), .val (.int (4 : Int32)), .val (.int (0 : Int32)), .val (.int (1 : Int32)), .val (.int (0 : Int32))]) (pc' := 55) ?_
  refine sgoto X0 hx (hb hby d4_55) (by decide) (by decide)  (pc' := 6) ?_
  refine siload X0 hx (hb hby d4_6) rfl rfl (pc' := 8) ?_
  refine siload X0 hx (hb hby d4_8) rfl rfl (pc' := 10) ?_
  refine sicN X0 hx (hb hby d4_10) rfl (tlt (by decide : (1 : Int32) < (4 : Int32))).2.1 (pc' := 13) ?_
  refine siloadN X0 hx (hb hby d4_13) rfl rfl (pc' := 14) ?_
  refine siloadN X0 hx (hb hby d4_14) rfl rfl (pc' := 15) ?_
  refine siload X0 hx (hb hby d4_15) rfl rfl (pc' := 17) ?_
  refine siadd X0 hx (hb hby d4_17) rfl (by decide) (z := (1 : Int32)) (pc' := 18) ?_
  refine sbipush X0 hx (hb hby d4_18) rfl rfl (z := 8) (pc' := 20) ?_
  refine sidiv X0 hx (hb hby d4_20) rfl (by decide) (by decide) (z := (0 : Int32)) (pc' := 21) ?_
  refine siadd X0 hx (hb hby d4_21) rfl (by decide) (z := (0 : Int32)) (pc' := 22) ?_
  refine sistore X0 hx (hb hby d4_22) rfl rfl (l' := #[.val (.ref i), .val (.int (0 : Int32)), .val (.int (2 : Int32)), .val (.int (0 : Int32)), .val (.int (4 : Int32)), .val (.int (0 : Int32)), .val (.int (1 : Int32)), .val (.int (0 : Int32))]) (pc' := 24) ?_
  refine siload X0 hx (hb hby d4_24) rfl rfl (pc' := 26) ?_
  refine siloadN X0 hx (hb hby d4_26) rfl rfl (pc' := 27) ?_
  refine sicN X0 hx (hb hby d4_27) rfl (tlt (by decide : (0 : Int32) < (2 : Int32))).2.1 (pc' := 30) ?_
  refine siload X0 hx (hb hby d4_30) rfl rfl (pc' := 32) ?_
  refine saloadN X0 hx (hb hby d4_32) rfl rfl rfl (pc' := 33) ?_
  refine siload X0 hx (hb hby d4_33) rfl rfl (pc' := 35) ?_
  refine oOn (VI.ldB X0 hx hZ e0 (j := (0 : Int32)) (by decide) (g := (mkF m 35 #[.val (.ref i), .val (.int (0 : Int32)), .val (.int (2 : Int32)), .val (.int (0 : Int32)), .val (.int (4 : Int32)), .val (.int (0 : Int32)), .val (.int (1 : Int32)), .val (.int (0 : Int32))] [(.int (0 : Int32)), (.ref i), (.int (0 : Int32))])) rfl rfl (hb hby d4_35)) ?_
  show oGl p e below (s₁.setTop (mkF m 36 #[.val (.ref i), .val (.int (0 : Int32)), .val (.int (2 : Int32)), .val (.int (0 : Int32)), .val (.int (4 : Int32)), .val (.int (0 : Int32)), .val (.int (1 : Int32)), .val (.int (0 : Int32))] [(.int (64 : Int32)), (.int (0 : Int32))])) _
  refine siloadN X0 hx (hb hby d4_36) rfl rfl (pc' := 37) ?_
  refine siload X0 hx (hb hby d4_37) rfl rfl (pc' := 39) ?_
  refine siadd X0 hx (hb hby d4_39) rfl (by decide) (z := (1 : Int32)) (pc' := 40) ?_
  refine sbipush X0 hx (hb hby d4_40) rfl rfl (z := 8) (pc' := 42) ?_
  refine sirem X0 hx (hb hby d4_42) rfl (by decide) (by decide) (z := (1 : Int32)) (pc' := 43) ?_
  refine siushr X0 hx (hb hby d4_43) rfl (by decide) (z := (32 : Int32)) (pc' := 44) ?_
  refine siconst X0 hx (hb hby d4_44) rfl rfl (z := 1) (pc' := 45) ?_
  refine siand X0 hx (hb hby d4_45) rfl (by decide) (z := (0 : Int32)) (pc' := 46) ?_
  refine siload X0 hx (hb hby d4_46) rfl rfl (pc' := 48) ?_
  refine sishl X0 hx (hb hby d4_48) rfl (by decide) (z := (0 : Int32)) (pc' := 49) ?_
  refine sior X0 hx (hb hby d4_49) rfl (by decide) (z := (0 : Int32)) (pc' := 50) ?_
  refine sistore X0 hx (hb hby d4_50) rfl rfl (l' := #[.val (.ref i), .val (.int (0 : Int32)), .val (.int (2 : Int32)), .val (.int (0 : Int32)), .val (.int (4 : Int32)), .val (.int (0 : Int32)), .val (.int (1 : Int32)), .val (.int (0 : Int32))]) (pc' := 52) ?_
  refine siinc X0 hx (hb hby d4_52) rfl rfl rfl (l' := #[.val (.ref i), .val (.int (0 : Int32)), .val (.int (2 : Int32)), .val (.int (0 : Int32)), .val (.int (4 : Int32)), .val (.int (0 : Int32)), .val (.int (2 : Int32)), .val (.int (0 : Int32))]) (pc' := 55) ?_
  refine sgoto X0 hx (hb hby d4_55) (by decide) (by decide)  (pc' := 6) ?_
  refine siload X0 hx (hb hby d4_6) rfl rfl (pc' := 8) ?_
  refine siload X0 hx (hb hby d4_8) rfl rfl (pc' := 10) ?_
  refine sicN X0 hx (hb hby d4_10) rfl (tlt (by decide : (2 : Int32) < (4 : Int32))).2.1 (pc' := 13) ?_
  refine siloadN X0 hx (hb hby d4_13) rfl rfl (pc' := 14) ?_
  refine siloadN X0 hx (hb hby d4_14) rfl rfl (pc' := 15) ?_
  refine siload X0 hx (hb hby d4_15) rfl rfl (pc' := 17) ?_
  refine siadd X0 hx (hb hby d4_17) rfl (by decide) (z := (2 : Int32)) (pc' := 18) ?_
  refine sbipush X0 hx (hb hby d4_18) rfl rfl (z := 8) (pc' := 20) ?_
  refine sidiv X0 hx (hb hby d4_20) rfl (by decide) (by decide) (z := (0 : Int32)) (pc' := 21) ?_
  refine siadd X0 hx (hb hby d4_21) rfl (by decide) (z := (0 : Int32)) (pc' := 22) ?_
  refine sistore X0 hx (hb hby d4_22) rfl rfl (l' := #[.val (.ref i), .val (.int (0 : Int32)), .val (.int (2 : Int32)), .val (.int (0 : Int32)), .val (.int (4 : Int32)), .val (.int (0 : Int32)), .val (.int (2 : Int32)), .val (.int (0 : Int32))]) (pc' := 24) ?_
  refine siload X0 hx (hb hby d4_24) rfl rfl (pc' := 26) ?_
  refine siloadN X0 hx (hb hby d4_26) rfl rfl (pc' := 27) ?_
  refine sicN X0 hx (hb hby d4_27) rfl (tlt (by decide : (0 : Int32) < (2 : Int32))).2.1 (pc' := 30) ?_
  refine siload X0 hx (hb hby d4_30) rfl rfl (pc' := 32) ?_
  refine saloadN X0 hx (hb hby d4_32) rfl rfl rfl (pc' := 33) ?_
  refine siload X0 hx (hb hby d4_33) rfl rfl (pc' := 35) ?_
  refine oOn (VI.ldB X0 hx hZ e0 (j := (0 : Int32)) (by decide) (g := (mkF m 35 #[.val (.ref i), .val (.int (0 : Int32)), .val (.int (2 : Int32)), .val (.int (0 : Int32)), .val (.int (4 : Int32)), .val (.int (0 : Int32)), .val (.int (2 : Int32)), .val (.int (0 : Int32))] [(.int (0 : Int32)), (.ref i), (.int (0 : Int32))])) rfl rfl (hb hby d4_35)) ?_
  show oGl p e below (s₁.setTop (mkF m 36 #[.val (.ref i), .val (.int (0 : Int32)), .val (.int (2 : Int32)), .val (.int (0 : Int32)), .val (.int (4 : Int32)), .val (.int (0 : Int32)), .val (.int (2 : Int32)), .val (.int (0 : Int32))] [(.int (64 : Int32)), (.int (0 : Int32))])) _
  refine siloadN X0 hx (hb hby d4_36) rfl rfl (pc' := 37) ?_
  refine siload X0 hx (hb hby d4_37) rfl rfl (pc' := 39) ?_
  refine siadd X0 hx (hb hby d4_39) rfl (by decide) (z := (2 : Int32)) (pc' := 40) ?_
  refine sbipush X0 hx (hb hby d4_40) rfl rfl (z := 8) (pc' := 42) ?_
  refine sirem X0 hx (hb hby d4_42) rfl (by decide) (by decide) (z := (2 : Int32)) (pc' := 43) ?_
  refine siushr X0 hx (hb hby d4_43) rfl (by decide) (z := (16 : Int32)) (pc' := 44) ?_
  refine siconst X0 hx (hb hby d4_44) rfl rfl (z := 1) (pc' := 45) ?_
  refine siand X0 hx (hb hby d4_45) rfl (by decide) (z := (0 : Int32)) (pc' := 46) ?_
  refine siload X0 hx (hb hby d4_46) rfl rfl (pc' := 48) ?_
  refine sishl X0 hx (hb hby d4_48) rfl (by decide) (z := (0 : Int32)) (pc' := 49) ?_
  refine sior X0 hx (hb hby d4_49) rfl (by decide) (z := (0 : Int32)) (pc' := 50) ?_
  refine sistore X0 hx (hb hby d4_50) rfl rfl (l' := #[.val (.ref i), .val (.int (0 : Int32)), .val (.int (2 : Int32)), .val (.int (0 : Int32)), .val (.int (4 : Int32)), .val (.int (0 : Int32)), .val (.int (2 : Int32)), .val (.int (0 : Int32))]) (pc' := 52) ?_
  refine siinc X0 hx (hb hby d4_52) rfl rfl rfl (l' := #[.val (.ref i), .val (.int (0 : Int32)), .val (.int (2 : Int32)), .val (.int (0 : Int32)), .val (.int (4 : Int32)), .val (.int (0 : Int32)), .val (.int (3 : Int32)), .val (.int (0 : Int32))]) (pc' := 55) ?_
  refine sgoto X0 hx (hb hby d4_55) (by decide) (by decide)  (pc' := 6) ?_
  refine siload X0 hx (hb hby d4_6) rfl rfl (pc' := 8) ?_
  refine siload X0 hx (hb hby d4_8) rfl rfl (pc' := 10) ?_
  refine sicN X0 hx (hb hby d4_10) rfl (tlt (by decide : (3 : Int32) < (4 : Int32))).2.1 (pc' := 13) ?_
  refine siloadN X0 hx (hb hby d4_13) rfl rfl (pc' := 14) ?_
  refine siloadN X0 hx (hb hby d4_14) rfl rfl (pc' := 15) ?_
  refine siload X0 hx (hb hby d4_15) rfl rfl (pc' := 17) ?_
  refine siadd X0 hx (hb hby d4_17) rfl (by decide) (z := (3 : Int32)) (pc' := 18) ?_
  refine sbipush X0 hx (hb hby d4_18) rfl rfl (z := 8) (pc' := 20) ?_
  refine sidiv X0 hx (hb hby d4_20) rfl (by decide) (by decide) (z := (0 : Int32)) (pc' := 21) ?_
  refine siadd X0 hx (hb hby d4_21) rfl (by decide) (z := (0 : Int32)) (pc' := 22) ?_
  refine sistore X0 hx (hb hby d4_22) rfl rfl (l' := #[.val (.ref i), .val (.int (0 : Int32)), .val (.int (2 : Int32)), .val (.int (0 : Int32)), .val (.int (4 : Int32)), .val (.int (0 : Int32)), .val (.int (3 : Int32)), .val (.int (0 : Int32))]) (pc' := 24) ?_
  refine siload X0 hx (hb hby d4_24) rfl rfl (pc' := 26) ?_
  refine siloadN X0 hx (hb hby d4_26) rfl rfl (pc' := 27) ?_
  refine sicN X0 hx (hb hby d4_27) rfl (tlt (by decide : (0 : Int32) < (2 : Int32))).2.1 (pc' := 30) ?_
  refine siload X0 hx (hb hby d4_30) rfl rfl (pc' := 32) ?_
  refine saloadN X0 hx (hb hby d4_32) rfl rfl rfl (pc' := 33) ?_
  refine siload X0 hx (hb hby d4_33) rfl rfl (pc' := 35) ?_
  refine oOn (VI.ldB X0 hx hZ e0 (j := (0 : Int32)) (by decide) (g := (mkF m 35 #[.val (.ref i), .val (.int (0 : Int32)), .val (.int (2 : Int32)), .val (.int (0 : Int32)), .val (.int (4 : Int32)), .val (.int (0 : Int32)), .val (.int (3 : Int32)), .val (.int (0 : Int32))] [(.int (0 : Int32)), (.ref i), (.int (0 : Int32))])) rfl rfl (hb hby d4_35)) ?_
  show oGl p e below (s₁.setTop (mkF m 36 #[.val (.ref i), .val (.int (0 : Int32)), .val (.int (2 : Int32)), .val (.int (0 : Int32)), .val (.int (4 : Int32)), .val (.int (0 : Int32)), .val (.int (3 : Int32)), .val (.int (0 : Int32))] [(.int (64 : Int32)), (.int (0 : Int32))])) _
  refine siloadN X0 hx (hb hby d4_36) rfl rfl (pc' := 37) ?_
  refine siload X0 hx (hb hby d4_37) rfl rfl (pc' := 39) ?_
  refine siadd X0 hx (hb hby d4_39) rfl (by decide) (z := (3 : Int32)) (pc' := 40) ?_
  refine sbipush X0 hx (hb hby d4_40) rfl rfl (z := 8) (pc' := 42) ?_
  refine sirem X0 hx (hb hby d4_42) rfl (by decide) (by decide) (z := (3 : Int32)) (pc' := 43) ?_
  refine siushr X0 hx (hb hby d4_43) rfl (by decide) (z := (8 : Int32)) (pc' := 44) ?_
  refine siconst X0 hx (hb hby d4_44) rfl rfl (z := 1) (pc' := 45) ?_
  refine siand X0 hx (hb hby d4_45) rfl (by decide) (z := (0 : Int32)) (pc' := 46) ?_
  refine siload X0 hx (hb hby d4_46) rfl rfl (pc' := 48) ?_
  refine sishl X0 hx (hb hby d4_48) rfl (by decide) (z := (0 : Int32)) (pc' := 49) ?_
  refine sior X0 hx (hb hby d4_49) rfl (by decide) (z := (0 : Int32)) (pc' := 50) ?_
  refine sistore X0 hx (hb hby d4_50) rfl rfl (l' := #[.val (.ref i), .val (.int (0 : Int32)), .val (.int (2 : Int32)), .val (.int (0 : Int32)), .val (.int (4 : Int32)), .val (.int (0 : Int32)), .val (.int (3 : Int32)), .val (.int (0 : Int32))]) (pc' := 52) ?_
  refine siinc X0 hx (hb hby d4_52) rfl rfl rfl (l' := #[.val (.ref i), .val (.int (0 : Int32)), .val (.int (2 : Int32)), .val (.int (0 : Int32)), .val (.int (4 : Int32)), .val (.int (0 : Int32)), .val (.int (4 : Int32)), .val (.int (0 : Int32))]) (pc' := 55) ?_
  refine sgoto X0 hx (hb hby d4_55) (by decide) (by decide)  (pc' := 6) ?_
  refine siload X0 hx (hb hby d4_6) rfl rfl (pc' := 8) ?_
  refine siload X0 hx (hb hby d4_8) rfl rfl (pc' := 10) ?_
  refine sicY X0 hx (hb hby d4_10) (by decide) (by decide) (flt (by decide : ¬ ((4 : Int32) < (4 : Int32)))).2.1 (pc' := 58) ?_
  refine siload X0 hx (hb hby d4_58) rfl rfl (pc' := 60) ?_
  refine oRetI X0 hx Bd.notSynchronized Bd.returns (hb hby d4_60) (by decide) (by decide) ?_
  show Q_rmFwd0 Z i h0 n0 _ s₁.heap _
  rw [e0]
  exact ⟨rfl, N0, rfl⟩
theorem ef_rmFwd4 (m : MethodId) (x0 : Nat) (x1 : Int32) (x2 : Int32) (x3 : Int32) (x4 : Int32)  : entryFrame m #[(.ref x0), (.int x1), (.int x2), (.int x3), (.int x4)] 8 = mkF m 0 #[.val (.ref x0), .val (.int x1), .val (.int x2), .val (.int x3), .val (.int x4), .unset, .unset, .unset] [] := by first | (simp [entryFrame, mkF, argsToLocals, Value.category, maxLocals]; done) | rfl
def Q_rmFwd4 (Z : State) (i : Nat) (h0 : Heap) (n0 : Nat) (vv : Option Value) (h : Heap) (L : List Loc) : Prop := vv = some (.int 36) ∧ Fr n0 L ∧ h = h0
set_option maxRecDepth 65536 in
set_option maxHeartbeats 40000000 in
theorem rmFwd4 (l : Launch) (Z : State) (a0 : Array Value) (hw : ∀ d ∈ tables_1, d.before a0 Z = true) (ws : List Jvm.Cond) (i : Nat) (h0 : Heap) (n0 : Nat) (Z0 : n0 ≤ h0.size) (VI : oAI Z h0 i .byte 2 (oUp (oUp (fun _ => 0) 0 64) 1 62)) :
    MetFree l (⟨"com/example/moraine/moraine/compression/FseTable", "forward", "([BIIII)I"⟩ : MethodName) (head1 (Jvm.Cond.code (⟨"com/example/moraine/moraine/compression/FseTable", "forward", "([BIIII)I"⟩ : MethodName) prog_7_method_11_code 8 (some .int) :: ws) ({ frames := 0, cells := 0, slots := 0, locals := 0 } : Room)) (fun aA uU => aA = #[(.ref i), (.int (0 : Int32)), (.int (2 : Int32)), (.int (4 : Int32)), (.int (6 : Int32))] ∧ Z.Warmed39 uU.vm ∧ uU.heap = h0) (fun _ _ _ _ _ => True) (fun _ uU oO uU' => ∃ vV lL, oO = .returned vV ∧ Q_rmFwd4 Z i h0 n0 vV uU'.heap lL ∧ FrameEnd uU oO uU' lL ({ frames := 0, cells := 0, slots := 0, locals := 0 } : Room).cells ({ frames := 0, cells := 0, slots := 0, locals := 0 } : Room).slots) := by
  refine MetFree.of_bodySF (plainFor_of_name pn_FseTable) hisR ?_
  intro p e s m args below meth c s₁ Bd hml0 hP hK
  obtain ⟨rfl, hZ, hh⟩ := hP
  have hx := Bd.exec
  have hby := Bd.bytes
  have hml : c.maxLocals = 8 := hml0
  have hown : s.vm.findClass "com/example/moraine/moraine/compression/FseTable" = some m.cls := findClass_of_methodNamed Bd.named
  have hnm := (name_of_methodNamed Bd.named Bd.method).1
  have X0 : Stand p l e ({ frames := 0, cells := 0, slots := 0, locals := 0 } : Room) s m #[(.ref i), (.int (0 : Int32)), (.int (2 : Int32)), (.int (4 : Int32)), (.int (6 : Int32))] below meth c s₁ [] 0 0 := Stand.of_body Bd
  have e0 : s₁.heap = h0 := by rw [← hh, Bd.state]; rfl
  have N0 := Fr.nil n0
  refine oEnter (oCast (ef_rmFwd4 m i (0 : Int32) (2 : Int32) (4 : Int32) (6 : Int32) ) ?_)
  show oGl p e below (s₁.setTop (mkF m 0 #[.val (.ref i), .val (.int (0 : Int32)), .val (.int (2 : Int32)), .val (.int (4 : Int32)), .val (.int (6 : Int32)), .unset, .unset, .unset] [])) _
  refine siconst X0 hx (hb hby d4_0) rfl rfl (z := 0) (pc' := 1) ?_
  refine sistore X0 hx (hb hby d4_1) rfl rfl (l' := #[.val (.ref i), .val (.int (0 : Int32)), .val (.int (2 : Int32)), .val (.int (4 : Int32)), .val (.int (6 : Int32)), .val (.int (0 : Int32)), .unset, .unset]) (pc' := 3) ?_
  refine siconst X0 hx (hb hby d4_3) rfl rfl (z := 0) (pc' := 4) ?_
  refine sistore X0 hx (hb hby d4_4) rfl rfl (l' := #[.val (.ref i), .val (.int (0 : Int32)), .val (.int (2 : Int32)), .val (.int (4 : Int32)), .val (.int (6 : Int32)), .val (.int (0 : Int32)), .val (.int (0 : Int32)), .unset]) (pc' := 6) ?_
  refine siload X0 hx (hb hby d4_6) rfl rfl (pc' := 8) ?_
  refine siload X0 hx (hb hby d4_8) rfl rfl (pc' := 10) ?_
  refine sicN X0 hx (hb hby d4_10) rfl (tlt (by decide : (0 : Int32) < (6 : Int32))).2.1 (pc' := 13) ?_
  refine siloadN X0 hx (hb hby d4_13) rfl rfl (pc' := 14) ?_
  refine siloadN X0 hx (hb hby d4_14) rfl rfl (pc' := 15) ?_
  refine siload X0 hx (hb hby d4_15) rfl rfl (pc' := 17) ?_
  refine siadd X0 hx (hb hby d4_17) rfl (by decide) (z := (4 : Int32)) (pc' := 18) ?_
  refine sbipush X0 hx (hb hby d4_18) rfl rfl (z := 8) (pc' := 20) ?_
  refine sidiv X0 hx (hb hby d4_20) rfl (by decide) (by decide) (z := (0 : Int32)) (pc' := 21) ?_
  refine siadd X0 hx (hb hby d4_21) rfl (by decide) (z := (0 : Int32)) (pc' := 22) ?_
  refine sistore X0 hx (hb hby d4_22) rfl rfl (l' := #[.val (.ref i), .val (.int (0 : Int32)), .val (.int (2 : Int32)), .val (.int (4 : Int32)), .val (.int (6 : Int32)), .val (.int (0 : Int32)), .val (.int (0 : Int32)), .val (.int (0 : Int32))]) (pc' := 24) ?_
  refine siload X0 hx (hb hby d4_24) rfl rfl (pc' := 26) ?_
  refine siloadN X0 hx (hb hby d4_26) rfl rfl (pc' := 27) ?_
  refine sicN X0 hx (hb hby d4_27) rfl (tlt (by decide : (0 : Int32) < (2 : Int32))).2.1 (pc' := 30) ?_
  refine siload X0 hx (hb hby d4_30) rfl rfl (pc' := 32) ?_
  refine saloadN X0 hx (hb hby d4_32) rfl rfl rfl (pc' := 33) ?_
  refine siload X0 hx (hb hby d4_33) rfl rfl (pc' := 35) ?_
  refine oOn (VI.ldB X0 hx hZ e0 (j := (0 : Int32)) (by decide) (g := (mkF m 35 #[.val (.ref i), .val (.int (0 : Int32)), .val (.int (2 : Int32)), .val (.int (4 : Int32)), .val (.int (6 : Int32)), .val (.int (0 : Int32)), .val (.int (0 : Int32)), .val (.int (0 : Int32))] [(.int (0 : Int32)), (.ref i), (.int (0 : Int32))])) rfl rfl (hb hby d4_35)) ?_
  show oGl p e below (s₁.setTop (mkF m 36 #[.val (.ref i), .val (.int (0 : Int32)), .val (.int (2 : Int32)), .val (.int (4 : Int32)), .val (.int (6 : Int32)), .val (.int (0 : Int32)), .val (.int (0 : Int32)), .val (.int (0 : Int32))] [(.int (64 : Int32)), (.int (0 : Int32))])) _
  refine siloadN X0 hx (hb hby d4_36) rfl rfl (pc' := 37) ?_
  refine siload X0 hx (hb hby d4_37) rfl rfl (pc' := 39) ?_
  refine siadd X0 hx (hb hby d4_39) rfl (by decide) (z := (4 : Int32)) (pc' := 40) ?_
  refine sbipush X0 hx (hb hby d4_40) rfl rfl (z := 8) (pc' := 42) ?_
  refine sirem X0 hx (hb hby d4_42) rfl (by decide) (by decide) (z := (4 : Int32)) (pc' := 43) ?_
  refine siushr X0 hx (hb hby d4_43) rfl (by decide) (z := (4 : Int32)) (pc' := 44) ?_
  refine siconst X0 hx (hb hby d4_44) rfl rfl (z := 1) (pc' := 45) ?_
  refine siand X0 hx (hb hby d4_45) rfl (by decide) (z := (0 : Int32)) (pc' := 46) ?_
  refine siload X0 hx (hb hby d4_46) rfl rfl (pc' := 48) ?_
  refine sishl X0 hx (hb hby d4_48) rfl (by decide) (z := (0 : Int32)) (pc' := 49) ?_
  refine sior X0 hx (hb hby d4_49) rfl (by decide) (z := (0 : Int32)) (pc' := 50) ?_
  refine sistore X0 hx (hb hby d4_50) rfl rfl (l' := #[.val (.ref i), .val (.int (0 : Int32)), .val (.int (2 : Int32)), .val (.int (4 : Int32)), .val (.int (6 : Int32)), .val (.int (0 : Int32)), .val (.int (0 : Int32)), .val (.int (0 : Int32))]) (pc' := 52) ?_
  refine siinc X0 hx (hb hby d4_52) rfl rfl rfl (l' := #[.val (.ref i), .val (.int (0 : Int32)), .val (.int (2 : Int32)), .val (.int (4 : Int32)), .val (.int (6 : Int32)), .val (.int (0 : Int32)), .val (.int (1 : Int32)), .val (.int (0 : Int32))]) (pc' := 55) ?_
  refine sgoto X0 hx (hb hby d4_55) (by decide) (by decide)  (pc' := 6) ?_
  refine siload X0 hx (hb hby d4_6) rfl rfl (pc' := 8) ?_
  refine siload X0 hx (hb hby d4_8) rfl rfl (pc' := 10) ?_
  refine sicN X0 hx (hb hby d4_10) rfl (tlt (by decide : (1 : Int32) < (6 : Int32))).2.1 (pc' := 13) ?_
  refine siloadN X0 hx (hb hby d4_13) rfl rfl (pc' := 14) ?_
  refine siloadN X0 hx (hb hby d4_14) rfl rfl (pc' := 15) ?_
  refine siload X0 hx (hb hby d4_15) rfl rfl (pc' := 17) ?_
  refine siadd X0 hx (hb hby d4_17) rfl (by decide) (z := (5 : Int32)) (pc' := 18) ?_
  refine sbipush X0 hx (hb hby d4_18) rfl rfl (z := 8) (pc' := 20) ?_
  refine sidiv X0 hx (hb hby d4_20) rfl (by decide) (by decide) (z := (0 : Int32)) (pc' := 21) ?_
  refine siadd X0 hx (hb hby d4_21) rfl (by decide) (z := (0 : Int32)) (pc' := 22) ?_
  refine sistore X0 hx (hb hby d4_22) rfl rfl (l' := #[.val (.ref i), .val (.int (0 : Int32)), .val (.int (2 : Int32)), .val (.int (4 : Int32)), .val (.int (6 : Int32)), .val (.int (0 : Int32)), .val (.int (1 : Int32)), .val (.int (0 : Int32))]) (pc' := 24) ?_
  refine siload X0 hx (hb hby d4_24) rfl rfl (pc' := 26) ?_
  refine siloadN X0 hx (hb hby d4_26) rfl rfl (pc' := 27) ?_
  refine sicN X0 hx (hb hby d4_27) rfl (tlt (by decide : (0 : Int32) < (2 : Int32))).2.1 (pc' := 30) ?_
  refine siload X0 hx (hb hby d4_30) rfl rfl (pc' := 32) ?_
  refine saloadN X0 hx (hb hby d4_32) rfl rfl rfl (pc' := 33) ?_
  refine siload X0 hx (hb hby d4_33) rfl rfl (pc' := 35) ?_
  refine oOn (VI.ldB X0 hx hZ e0 (j := (0 : Int32)) (by decide) (g := (mkF m 35 #[.val (.ref i), .val (.int (0 : Int32)), .val (.int (2 : Int32)), .val (.int (4 : Int32)), .val (.int (6 : Int32)), .val (.int (0 : Int32)), .val (.int (1 : Int32)), .val (.int (0 : Int32))] [(.int (0 : Int32)), (.ref i), (.int (0 : Int32))])) rfl rfl (hb hby d4_35)) ?_
  show oGl p e below (s₁.setTop (mkF m 36 #[.val (.ref i), .val (.int (0 : Int32)), .val (.int (2 : Int32)), .val (.int (4 : Int32)), .val (.int (6 : Int32)), .val (.int (0 : Int32)), .val (.int (1 : Int32)), .val (.int (0 : Int32))] [(.int (64 : Int32)), (.int (0 : Int32))])) _
  refine siloadN X0 hx (hb hby d4_36) rfl rfl (pc' := 37) ?_
  refine siload X0 hx (hb hby d4_37) rfl rfl (pc' := 39) ?_
  refine siadd X0 hx (hb hby d4_39) rfl (by decide) (z := (5 : Int32)) (pc' := 40) ?_
  refine sbipush X0 hx (hb hby d4_40) rfl rfl (z := 8) (pc' := 42) ?_
  refine sirem X0 hx (hb hby d4_42) rfl (by decide) (by decide) (z := (5 : Int32)) (pc' := 43) ?_
  refine siushr X0 hx (hb hby d4_43) rfl (by decide) (z := (2 : Int32)) (pc' := 44) ?_
  refine siconst X0 hx (hb hby d4_44) rfl rfl (z := 1) (pc' := 45) ?_
  refine siand X0 hx (hb hby d4_45) rfl (by decide) (z := (0 : Int32)) (pc' := 46) ?_
  refine siload X0 hx (hb hby d4_46) rfl rfl (pc' := 48) ?_
  refine sishl X0 hx (hb hby d4_48) rfl (by decide) (z := (0 : Int32)) (pc' := 49) ?_
  refine sior X0 hx (hb hby d4_49) rfl (by decide) (z := (0 : Int32)) (pc' := 50) ?_
  refine sistore X0 hx (hb hby d4_50) rfl rfl (l' := #[.val (.ref i), .val (.int (0 : Int32)), .val (.int (2 : Int32)), .val (.int (4 : Int32)), .val (.int (6 : Int32)), .val (.int (0 : Int32)), .val (.int (1 : Int32)), .val (.int (0 : Int32))]) (pc' := 52) ?_
  refine siinc X0 hx (hb hby d4_52) rfl rfl rfl (l' := #[.val (.ref i), .val (.int (0 : Int32)), .val (.int (2 : Int32)), .val (.int (4 : Int32)), .val (.int (6 : Int32)), .val (.int (0 : Int32)), .val (.int (2 : Int32)), .val (.int (0 : Int32))]) (pc' := 55) ?_
  refine sgoto X0 hx (hb hby d4_55) (by decide) (by decide)  (pc' := 6) ?_
  refine siload X0 hx (hb hby d4_6) rfl rfl (pc' := 8) ?_
  refine siload X0 hx (hb hby d4_8) rfl rfl (pc' := 10) ?_
  refine sicN X0 hx (hb hby d4_10) rfl (tlt (by decide : (2 : Int32) < (6 : Int32))).2.1 (pc' := 13) ?_
  refine siloadN X0 hx (hb hby d4_13) rfl rfl (pc' := 14) ?_
  refine siloadN X0 hx (hb hby d4_14) rfl rfl (pc' := 15) ?_
  refine siload X0 hx (hb hby d4_15) rfl rfl (pc' := 17) ?_
  refine siadd X0 hx (hb hby d4_17) rfl (by decide) (z := (6 : Int32)) (pc' := 18) ?_
  refine sbipush X0 hx (hb hby d4_18) rfl rfl (z := 8) (pc' := 20) ?_
  refine sidiv X0 hx (hb hby d4_20) rfl (by decide) (by decide) (z := (0 : Int32)) (pc' := 21) ?_
  refine siadd X0 hx (hb hby d4_21) rfl (by decide) (z := (0 : Int32)) (pc' := 22) ?_
  refine sistore X0 hx (hb hby d4_22) rfl rfl (l' := #[.val (.ref i), .val (.int (0 : Int32)), .val (.int (2 : Int32)), .val (.int (4 : Int32)), .val (.int (6 : Int32)), .val (.int (0 : Int32)), .val (.int (2 : Int32)), .val (.int (0 : Int32))]) (pc' := 24) ?_
  refine siload X0 hx (hb hby d4_24) rfl rfl (pc' := 26) ?_
  refine siloadN X0 hx (hb hby d4_26) rfl rfl (pc' := 27) ?_
  refine sicN X0 hx (hb hby d4_27) rfl (tlt (by decide : (0 : Int32) < (2 : Int32))).2.1 (pc' := 30) ?_
  refine siload X0 hx (hb hby d4_30) rfl rfl (pc' := 32) ?_
  refine saloadN X0 hx (hb hby d4_32) rfl rfl rfl (pc' := 33) ?_
  refine siload X0 hx (hb hby d4_33) rfl rfl (pc' := 35) ?_
  refine oOn (VI.ldB X0 hx hZ e0 (j := (0 : Int32)) (by decide) (g := (mkF m 35 #[.val (.ref i), .val (.int (0 : Int32)), .val (.int (2 : Int32)), .val (.int (4 : Int32)), .val (.int (6 : Int32)), .val (.int (0 : Int32)), .val (.int (2 : Int32)), .val (.int (0 : Int32))] [(.int (0 : Int32)), (.ref i), (.int (0 : Int32))])) rfl rfl (hb hby d4_35)) ?_
  show oGl p e below (s₁.setTop (mkF m 36 #[.val (.ref i), .val (.int (0 : Int32)), .val (.int (2 : Int32)), .val (.int (4 : Int32)), .val (.int (6 : Int32)), .val (.int (0 : Int32)), .val (.int (2 : Int32)), .val (.int (0 : Int32))] [(.int (64 : Int32)), (.int (0 : Int32))])) _
  refine siloadN X0 hx (hb hby d4_36) rfl rfl (pc' := 37) ?_
  refine siload X0 hx (hb hby d4_37) rfl rfl (pc' := 39) ?_
  refine siadd X0 hx (hb hby d4_39) rfl (by decide) (z := (6 : Int32)) (pc' := 40) ?_
  refine sbipush X0 hx (hb hby d4_40) rfl rfl (z := 8) (pc' := 42) ?_
  refine sirem X0 hx (hb hby d4_42) rfl (by decide) (by decide) (z := (6 : Int32)) (pc' := 43) ?_
  refine siushr X0 hx (hb hby d4_43) rfl (by decide) (z := (1 : Int32)) (pc' := 44) ?_
  refine siconst X0 hx (hb hby d4_44) rfl rfl (z := 1) (pc' := 45) ?_
  refine siand X0 hx (hb hby d4_45) rfl (by decide) (z := (1 : Int32)) (pc' := 46) ?_
  refine siload X0 hx (hb hby d4_46) rfl rfl (pc' := 48) ?_
  refine sishl X0 hx (hb hby d4_48) rfl (by decide) (z := (4 : Int32)) (pc' := 49) ?_
  refine sior X0 hx (hb hby d4_49) rfl (by decide) (z := (4 : Int32)) (pc' := 50) ?_
  refine sistore X0 hx (hb hby d4_50) rfl rfl (l' := #[.val (.ref i), .val (.int (0 : Int32)), .val (.int (2 : Int32)), .val (.int (4 : Int32)), .val (.int (6 : Int32)), .val (.int (4 : Int32)), .val (.int (2 : Int32)), .val (.int (0 : Int32))]) (pc' := 52) ?_
  refine siinc X0 hx (hb hby d4_52) rfl rfl rfl (l' := #[.val (.ref i), .val (.int (0 : Int32)), .val (.int (2 : Int32)), .val (.int (4 : Int32)), .val (.int (6 : Int32)), .val (.int (4 : Int32)), .val (.int (3 : Int32)), .val (.int (0 : Int32))]) (pc' := 55) ?_
  refine sgoto X0 hx (hb hby d4_55) (by decide) (by decide)  (pc' := 6) ?_
  refine siload X0 hx (hb hby d4_6) rfl rfl (pc' := 8) ?_
  refine siload X0 hx (hb hby d4_8) rfl rfl (pc' := 10) ?_
  refine sicN X0 hx (hb hby d4_10) rfl (tlt (by decide : (3 : Int32) < (6 : Int32))).2.1 (pc' := 13) ?_
  refine siloadN X0 hx (hb hby d4_13) rfl rfl (pc' := 14) ?_
  refine siloadN X0 hx (hb hby d4_14) rfl rfl (pc' := 15) ?_
  refine siload X0 hx (hb hby d4_15) rfl rfl (pc' := 17) ?_
  refine siadd X0 hx (hb hby d4_17) rfl (by decide) (z := (7 : Int32)) (pc' := 18) ?_
  refine sbipush X0 hx (hb hby d4_18) rfl rfl (z := 8) (pc' := 20) ?_
  refine sidiv X0 hx (hb hby d4_20) rfl (by decide) (by decide) (z := (0 : Int32)) (pc' := 21) ?_
  refine siadd X0 hx (hb hby d4_21) rfl (by decide) (z := (0 : Int32)) (pc' := 22) ?_
  refine sistore X0 hx (hb hby d4_22) rfl rfl (l' := #[.val (.ref i), .val (.int (0 : Int32)), .val (.int (2 : Int32)), .val (.int (4 : Int32)), .val (.int (6 : Int32)), .val (.int (4 : Int32)), .val (.int (3 : Int32)), .val (.int (0 : Int32))]) (pc' := 24) ?_
  refine siload X0 hx (hb hby d4_24) rfl rfl (pc' := 26) ?_
  refine siloadN X0 hx (hb hby d4_26) rfl rfl (pc' := 27) ?_
  refine sicN X0 hx (hb hby d4_27) rfl (tlt (by decide : (0 : Int32) < (2 : Int32))).2.1 (pc' := 30) ?_
  refine siload X0 hx (hb hby d4_30) rfl rfl (pc' := 32) ?_
  refine saloadN X0 hx (hb hby d4_32) rfl rfl rfl (pc' := 33) ?_
  refine siload X0 hx (hb hby d4_33) rfl rfl (pc' := 35) ?_
  refine oOn (VI.ldB X0 hx hZ e0 (j := (0 : Int32)) (by decide) (g := (mkF m 35 #[.val (.ref i), .val (.int (0 : Int32)), .val (.int (2 : Int32)), .val (.int (4 : Int32)), .val (.int (6 : Int32)), .val (.int (4 : Int32)), .val (.int (3 : Int32)), .val (.int (0 : Int32))] [(.int (0 : Int32)), (.ref i), (.int (4 : Int32))])) rfl rfl (hb hby d4_35)) ?_
  show oGl p e below (s₁.setTop (mkF m 36 #[.val (.ref i), .val (.int (0 : Int32)), .val (.int (2 : Int32)), .val (.int (4 : Int32)), .val (.int (6 : Int32)), .val (.int (4 : Int32)), .val (.int (3 : Int32)), .val (.int (0 : Int32))] [(.int (64 : Int32)), (.int (4 : Int32))])) _
  refine siloadN X0 hx (hb hby d4_36) rfl rfl (pc' := 37) ?_
  refine siload X0 hx (hb hby d4_37) rfl rfl (pc' := 39) ?_
  refine siadd X0 hx (hb hby d4_39) rfl (by decide) (z := (7 : Int32)) (pc' := 40) ?_
  refine sbipush X0 hx (hb hby d4_40) rfl rfl (z := 8) (pc' := 42) ?_
  refine sirem X0 hx (hb hby d4_42) rfl (by decide) (by decide) (z := (7 : Int32)) (pc' := 43) ?_
  refine siushr X0 hx (hb hby d4_43) rfl (by decide) (z := (0 : Int32)) (pc' := 44) ?_
  refine siconst X0 hx (hb hby d4_44) rfl rfl (z := 1) (pc' := 45) ?_
  refine siand X0 hx (hb hby d4_45) rfl (by decide) (z := (0 : Int32)) (pc' := 46) ?_
  refine siload X0 hx (hb hby d4_46) rfl rfl (pc' := 48) ?_
  refine sishl X0 hx (hb hby d4_48) rfl (by decide) (z := (0 : Int32)) (pc' := 49) ?_
  refine sior X0 hx (hb hby d4_49) rfl (by decide) (z := (4 : Int32)) (pc' := 50) ?_
  refine sistore X0 hx (hb hby d4_50) rfl rfl (l' := #[.val (.ref i), .val (.int (0 : Int32)), .val (.int (2 : Int32)), .val (.int (4 : Int32)), .val (.int (6 : Int32)), .val (.int (4 : Int32)), .val (.int (3 : Int32)), .val (.int (0 : Int32))]) (pc' := 52) ?_
  refine siinc X0 hx (hb hby d4_52) rfl rfl rfl (l' := #[.val (.ref i), .val (.int (0 : Int32)), .val (.int (2 : Int32)), .val (.int (4 : Int32)), .val (.int (6 : Int32)), .val (.int (4 : Int32)), .val (.int (4 : Int32)), .val (.int (0 : Int32))]) (pc' := 55) ?_
  refine sgoto X0 hx (hb hby d4_55) (by decide) (by decide)  (pc' := 6) ?_
  refine siload X0 hx (hb hby d4_6) rfl rfl (pc' := 8) ?_
  refine siload X0 hx (hb hby d4_8) rfl rfl (pc' := 10) ?_
  refine sicN X0 hx (hb hby d4_10) rfl (tlt (by decide : (4 : Int32) < (6 : Int32))).2.1 (pc' := 13) ?_
  refine siloadN X0 hx (hb hby d4_13) rfl rfl (pc' := 14) ?_
  refine siloadN X0 hx (hb hby d4_14) rfl rfl (pc' := 15) ?_
  refine siload X0 hx (hb hby d4_15) rfl rfl (pc' := 17) ?_
  refine siadd X0 hx (hb hby d4_17) rfl (by decide) (z := (8 : Int32)) (pc' := 18) ?_
  refine sbipush X0 hx (hb hby d4_18) rfl rfl (z := 8) (pc' := 20) ?_
  refine sidiv X0 hx (hb hby d4_20) rfl (by decide) (by decide) (z := (1 : Int32)) (pc' := 21) ?_
  refine siadd X0 hx (hb hby d4_21) rfl (by decide) (z := (1 : Int32)) (pc' := 22) ?_
  refine sistore X0 hx (hb hby d4_22) rfl rfl (l' := #[.val (.ref i), .val (.int (0 : Int32)), .val (.int (2 : Int32)), .val (.int (4 : Int32)), .val (.int (6 : Int32)), .val (.int (4 : Int32)), .val (.int (4 : Int32)), .val (.int (1 : Int32))]) (pc' := 24) ?_
  refine siload X0 hx (hb hby d4_24) rfl rfl (pc' := 26) ?_
  refine siloadN X0 hx (hb hby d4_26) rfl rfl (pc' := 27) ?_
  refine sicN X0 hx (hb hby d4_27) rfl (tlt (by decide : (1 : Int32) < (2 : Int32))).2.1 (pc' := 30) ?_
  refine siload X0 hx (hb hby d4_30) rfl rfl (pc' := 32) ?_
  refine saloadN X0 hx (hb hby d4_32) rfl rfl rfl (pc' := 33) ?_
  refine siload X0 hx (hb hby d4_33) rfl rfl (pc' := 35) ?_
  refine oOn (VI.ldB X0 hx hZ e0 (j := (1 : Int32)) (by decide) (g := (mkF m 35 #[.val (.ref i), .val (.int (0 : Int32)), .val (.int (2 : Int32)), .val (.int (4 : Int32)), .val (.int (6 : Int32)), .val (.int (4 : Int32)), .val (.int (4 : Int32)), .val (.int (1 : Int32))] [(.int (1 : Int32)), (.ref i), (.int (4 : Int32))])) rfl rfl (hb hby d4_35)) ?_
  show oGl p e below (s₁.setTop (mkF m 36 #[.val (.ref i), .val (.int (0 : Int32)), .val (.int (2 : Int32)), .val (.int (4 : Int32)), .val (.int (6 : Int32)), .val (.int (4 : Int32)), .val (.int (4 : Int32)), .val (.int (1 : Int32))] [(.int (62 : Int32)), (.int (4 : Int32))])) _
  refine siloadN X0 hx (hb hby d4_36) rfl rfl (pc' := 37) ?_
  refine siload X0 hx (hb hby d4_37) rfl rfl (pc' := 39) ?_
  refine siadd X0 hx (hb hby d4_39) rfl (by decide) (z := (8 : Int32)) (pc' := 40) ?_
  refine sbipush X0 hx (hb hby d4_40) rfl rfl (z := 8) (pc' := 42) ?_
  refine sirem X0 hx (hb hby d4_42) rfl (by decide) (by decide) (z := (0 : Int32)) (pc' := 43) ?_
  refine siushr X0 hx (hb hby d4_43) rfl (by decide) (z := (62 : Int32)) (pc' := 44) ?_
  refine siconst X0 hx (hb hby d4_44) rfl rfl (z := 1) (pc' := 45) ?_
  refine siand X0 hx (hb hby d4_45) rfl (by decide) (z := (0 : Int32)) (pc' := 46) ?_
  refine siload X0 hx (hb hby d4_46) rfl rfl (pc' := 48) ?_
  refine sishl X0 hx (hb hby d4_48) rfl (by decide) (z := (0 : Int32)) (pc' := 49) ?_
  refine sior X0 hx (hb hby d4_49) rfl (by decide) (z := (4 : Int32)) (pc' := 50) ?_
  refine sistore X0 hx (hb hby d4_50) rfl rfl (l' := #[.val (.ref i), .val (.int (0 : Int32)), .val (.int (2 : Int32)), .val (.int (4 : Int32)), .val (.int (6 : Int32)), .val (.int (4 : Int32)), .val (.int (4 : Int32)), .val (.int (1 : Int32))]) (pc' := 52) ?_
  refine siinc X0 hx (hb hby d4_52) rfl rfl rfl (l' := #[.val (.ref i), .val (.int (0 : Int32)), .val (.int (2 : Int32)), .val (.int (4 : Int32)), .val (.int (6 : Int32)), .val (.int (4 : Int32)), .val (.int (5 : Int32)), .val (.int (1 : Int32))]) (pc' := 55) ?_
  refine sgoto X0 hx (hb hby d4_55) (by decide) (by decide)  (pc' := 6) ?_
  refine siload X0 hx (hb hby d4_6) rfl rfl (pc' := 8) ?_
  refine siload X0 hx (hb hby d4_8) rfl rfl (pc' := 10) ?_
  refine sicN X0 hx (hb hby d4_10) rfl (tlt (by decide : (5 : Int32) < (6 : Int32))).2.1 (pc' := 13) ?_
  refine siloadN X0 hx (hb hby d4_13) rfl rfl (pc' := 14) ?_
  refine siloadN X0 hx (hb hby d4_14) rfl rfl (pc' := 15) ?_
  refine siload X0 hx (hb hby d4_15) rfl rfl (pc' := 17) ?_
  refine siadd X0 hx (hb hby d4_17) rfl (by decide) (z := (9 : Int32)) (pc' := 18) ?_
  refine sbipush X0 hx (hb hby d4_18) rfl rfl (z := 8) (pc' := 20) ?_
  refine sidiv X0 hx (hb hby d4_20) rfl (by decide) (by decide) (z := (1 : Int32)) (pc' := 21) ?_
  refine siadd X0 hx (hb hby d4_21) rfl (by decide) (z := (1 : Int32)) (pc' := 22) ?_
  refine sistore X0 hx (hb hby d4_22) rfl rfl (l' := #[.val (.ref i), .val (.int (0 : Int32)), .val (.int (2 : Int32)), .val (.int (4 : Int32)), .val (.int (6 : Int32)), .val (.int (4 : Int32)), .val (.int (5 : Int32)), .val (.int (1 : Int32))]) (pc' := 24) ?_
  refine siload X0 hx (hb hby d4_24) rfl rfl (pc' := 26) ?_
  refine siloadN X0 hx (hb hby d4_26) rfl rfl (pc' := 27) ?_
  refine sicN X0 hx (hb hby d4_27) rfl (tlt (by decide : (1 : Int32) < (2 : Int32))).2.1 (pc' := 30) ?_
  refine siload X0 hx (hb hby d4_30) rfl rfl (pc' := 32) ?_
  refine saloadN X0 hx (hb hby d4_32) rfl rfl rfl (pc' := 33) ?_
  refine siload X0 hx (hb hby d4_33) rfl rfl (pc' := 35) ?_
  refine oOn (VI.ldB X0 hx hZ e0 (j := (1 : Int32)) (by decide) (g := (mkF m 35 #[.val (.ref i), .val (.int (0 : Int32)), .val (.int (2 : Int32)), .val (.int (4 : Int32)), .val (.int (6 : Int32)), .val (.int (4 : Int32)), .val (.int (5 : Int32)), .val (.int (1 : Int32))] [(.int (1 : Int32)), (.ref i), (.int (4 : Int32))])) rfl rfl (hb hby d4_35)) ?_
  show oGl p e below (s₁.setTop (mkF m 36 #[.val (.ref i), .val (.int (0 : Int32)), .val (.int (2 : Int32)), .val (.int (4 : Int32)), .val (.int (6 : Int32)), .val (.int (4 : Int32)), .val (.int (5 : Int32)), .val (.int (1 : Int32))] [(.int (62 : Int32)), (.int (4 : Int32))])) _
  refine siloadN X0 hx (hb hby d4_36) rfl rfl (pc' := 37) ?_
  refine siload X0 hx (hb hby d4_37) rfl rfl (pc' := 39) ?_
  refine siadd X0 hx (hb hby d4_39) rfl (by decide) (z := (9 : Int32)) (pc' := 40) ?_
  refine sbipush X0 hx (hb hby d4_40) rfl rfl (z := 8) (pc' := 42) ?_
  refine sirem X0 hx (hb hby d4_42) rfl (by decide) (by decide) (z := (1 : Int32)) (pc' := 43) ?_
  refine siushr X0 hx (hb hby d4_43) rfl (by decide) (z := (31 : Int32)) (pc' := 44) ?_
  refine siconst X0 hx (hb hby d4_44) rfl rfl (z := 1) (pc' := 45) ?_
  refine siand X0 hx (hb hby d4_45) rfl (by decide) (z := (1 : Int32)) (pc' := 46) ?_
  refine siload X0 hx (hb hby d4_46) rfl rfl (pc' := 48) ?_
  refine sishl X0 hx (hb hby d4_48) rfl (by decide) (z := (32 : Int32)) (pc' := 49) ?_
  refine sior X0 hx (hb hby d4_49) rfl (by decide) (z := (36 : Int32)) (pc' := 50) ?_
  refine sistore X0 hx (hb hby d4_50) rfl rfl (l' := #[.val (.ref i), .val (.int (0 : Int32)), .val (.int (2 : Int32)), .val (.int (4 : Int32)), .val (.int (6 : Int32)), .val (.int (36 : Int32)), .val (.int (5 : Int32)), .val (.int (1 : Int32))]) (pc' := 52) ?_
  refine siinc X0 hx (hb hby d4_52) rfl rfl rfl (l' := #[.val (.ref i), .val (.int (0 : Int32)), .val (.int (2 : Int32)), .val (.int (4 : Int32)), .val (.int (6 : Int32)), .val (.int (36 : Int32)), .val (.int (6 : Int32)), .val (.int (1 : Int32))]) (pc' := 55) ?_
  refine sgoto X0 hx (hb hby d4_55) (by decide) (by decide)  (pc' := 6) ?_
  refine siload X0 hx (hb hby d4_6) rfl rfl (pc' := 8) ?_
  refine siload X0 hx (hb hby d4_8) rfl rfl (pc' := 10) ?_
  refine sicY X0 hx (hb hby d4_10) (by decide) (by decide) (flt (by decide : ¬ ((6 : Int32) < (6 : Int32)))).2.1 (pc' := 58) ?_
  refine siload X0 hx (hb hby d4_58) rfl rfl (pc' := 60) ?_
  refine oRetI X0 hx Bd.notSynchronized Bd.returns (hb hby d4_60) (by decide) (by decide) ?_
  show Q_rmFwd4 Z i h0 n0 _ s₁.heap _
  rw [e0]
  exact ⟨rfl, N0, rfl⟩
theorem ef_rmFwd9 (m : MethodId) (x0 : Nat) (x1 : Int32) (x2 : Int32) (x3 : Int32) (x4 : Int32)  : entryFrame m #[(.ref x0), (.int x1), (.int x2), (.int x3), (.int x4)] 8 = mkF m 0 #[.val (.ref x0), .val (.int x1), .val (.int x2), .val (.int x3), .val (.int x4), .unset, .unset, .unset] [] := by first | (simp [entryFrame, mkF, argsToLocals, Value.category, maxLocals]; done) | rfl
def Q_rmFwd9 (Z : State) (i : Nat) (h0 : Heap) (n0 : Nat) (vv : Option Value) (h : Heap) (L : List Loc) : Prop := vv = some (.int 31) ∧ Fr n0 L ∧ h = h0
set_option maxRecDepth 65536 in
set_option maxHeartbeats 40000000 in
theorem rmFwd9 (l : Launch) (Z : State) (a0 : Array Value) (hw : ∀ d ∈ tables_1, d.before a0 Z = true) (ws : List Jvm.Cond) (i : Nat) (h0 : Heap) (n0 : Nat) (Z0 : n0 ≤ h0.size) (VI : oAI Z h0 i .byte 2 (oUp (oUp (fun _ => 0) 0 64) 1 62)) :
    MetFree l (⟨"com/example/moraine/moraine/compression/FseTable", "forward", "([BIIII)I"⟩ : MethodName) (head1 (Jvm.Cond.code (⟨"com/example/moraine/moraine/compression/FseTable", "forward", "([BIIII)I"⟩ : MethodName) prog_7_method_11_code 8 (some .int) :: ws) ({ frames := 0, cells := 0, slots := 0, locals := 0 } : Room)) (fun aA uU => aA = #[(.ref i), (.int (0 : Int32)), (.int (2 : Int32)), (.int (9 : Int32)), (.int (5 : Int32))] ∧ Z.Warmed39 uU.vm ∧ uU.heap = h0) (fun _ _ _ _ _ => True) (fun _ uU oO uU' => ∃ vV lL, oO = .returned vV ∧ Q_rmFwd9 Z i h0 n0 vV uU'.heap lL ∧ FrameEnd uU oO uU' lL ({ frames := 0, cells := 0, slots := 0, locals := 0 } : Room).cells ({ frames := 0, cells := 0, slots := 0, locals := 0 } : Room).slots) := by
  refine MetFree.of_bodySF (plainFor_of_name pn_FseTable) hisR ?_
  intro p e s m args below meth c s₁ Bd hml0 hP hK
  obtain ⟨rfl, hZ, hh⟩ := hP
  have hx := Bd.exec
  have hby := Bd.bytes
  have hml : c.maxLocals = 8 := hml0
  have hown : s.vm.findClass "com/example/moraine/moraine/compression/FseTable" = some m.cls := findClass_of_methodNamed Bd.named
  have hnm := (name_of_methodNamed Bd.named Bd.method).1
  have X0 : Stand p l e ({ frames := 0, cells := 0, slots := 0, locals := 0 } : Room) s m #[(.ref i), (.int (0 : Int32)), (.int (2 : Int32)), (.int (9 : Int32)), (.int (5 : Int32))] below meth c s₁ [] 0 0 := Stand.of_body Bd
  have e0 : s₁.heap = h0 := by rw [← hh, Bd.state]; rfl
  have N0 := Fr.nil n0
  refine oEnter (oCast (ef_rmFwd9 m i (0 : Int32) (2 : Int32) (9 : Int32) (5 : Int32) ) ?_)
  show oGl p e below (s₁.setTop (mkF m 0 #[.val (.ref i), .val (.int (0 : Int32)), .val (.int (2 : Int32)), .val (.int (9 : Int32)), .val (.int (5 : Int32)), .unset, .unset, .unset] [])) _
  refine siconst X0 hx (hb hby d4_0) rfl rfl (z := 0) (pc' := 1) ?_
  refine sistore X0 hx (hb hby d4_1) rfl rfl (l' := #[.val (.ref i), .val (.int (0 : Int32)), .val (.int (2 : Int32)), .val (.int (9 : Int32)), .val (.int (5 : Int32)), .val (.int (0 : Int32)), .unset, .unset]) (pc' := 3) ?_
  refine siconst X0 hx (hb hby d4_3) rfl rfl (z := 0) (pc' := 4) ?_
  refine sistore X0 hx (hb hby d4_4) rfl rfl (l' := #[.val (.ref i), .val (.int (0 : Int32)), .val (.int (2 : Int32)), .val (.int (9 : Int32)), .val (.int (5 : Int32)), .val (.int (0 : Int32)), .val (.int (0 : Int32)), .unset]) (pc' := 6) ?_
  refine siload X0 hx (hb hby d4_6) rfl rfl (pc' := 8) ?_
  refine siload X0 hx (hb hby d4_8) rfl rfl (pc' := 10) ?_
  refine sicN X0 hx (hb hby d4_10) rfl (tlt (by decide : (0 : Int32) < (5 : Int32))).2.1 (pc' := 13) ?_
  refine siloadN X0 hx (hb hby d4_13) rfl rfl (pc' := 14) ?_
  refine siloadN X0 hx (hb hby d4_14) rfl rfl (pc' := 15) ?_
  refine siload X0 hx (hb hby d4_15) rfl rfl (pc' := 17) ?_
  refine siadd X0 hx (hb hby d4_17) rfl (by decide) (z := (9 : Int32)) (pc' := 18) ?_
  refine sbipush X0 hx (hb hby d4_18) rfl rfl (z := 8) (pc' := 20) ?_
  refine sidiv X0 hx (hb hby d4_20) rfl (by decide) (by decide) (z := (1 : Int32)) (pc' := 21) ?_
  refine siadd X0 hx (hb hby d4_21) rfl (by decide) (z := (1 : Int32)) (pc' := 22) ?_
  refine sistore X0 hx (hb hby d4_22) rfl rfl (l' := #[.val (.ref i), .val (.int (0 : Int32)), .val (.int (2 : Int32)), .val (.int (9 : Int32)), .val (.int (5 : Int32)), .val (.int (0 : Int32)), .val (.int (0 : Int32)), .val (.int (1 : Int32))]) (pc' := 24) ?_
  refine siload X0 hx (hb hby d4_24) rfl rfl (pc' := 26) ?_
  refine siloadN X0 hx (hb hby d4_26) rfl rfl (pc' := 27) ?_
  refine sicN X0 hx (hb hby d4_27) rfl (tlt (by decide : (1 : Int32) < (2 : Int32))).2.1 (pc' := 30) ?_
  refine siload X0 hx (hb hby d4_30) rfl rfl (pc' := 32) ?_
  refine saloadN X0 hx (hb hby d4_32) rfl rfl rfl (pc' := 33) ?_
  refine siload X0 hx (hb hby d4_33) rfl rfl (pc' := 35) ?_
  refine oOn (VI.ldB X0 hx hZ e0 (j := (1 : Int32)) (by decide) (g := (mkF m 35 #[.val (.ref i), .val (.int (0 : Int32)), .val (.int (2 : Int32)), .val (.int (9 : Int32)), .val (.int (5 : Int32)), .val (.int (0 : Int32)), .val (.int (0 : Int32)), .val (.int (1 : Int32))] [(.int (1 : Int32)), (.ref i), (.int (0 : Int32))])) rfl rfl (hb hby d4_35)) ?_
  show oGl p e below (s₁.setTop (mkF m 36 #[.val (.ref i), .val (.int (0 : Int32)), .val (.int (2 : Int32)), .val (.int (9 : Int32)), .val (.int (5 : Int32)), .val (.int (0 : Int32)), .val (.int (0 : Int32)), .val (.int (1 : Int32))] [(.int (62 : Int32)), (.int (0 : Int32))])) _
  refine siloadN X0 hx (hb hby d4_36) rfl rfl (pc' := 37) ?_
  refine siload X0 hx (hb hby d4_37) rfl rfl (pc' := 39) ?_
  refine siadd X0 hx (hb hby d4_39) rfl (by decide) (z := (9 : Int32)) (pc' := 40) ?_
  refine sbipush X0 hx (hb hby d4_40) rfl rfl (z := 8) (pc' := 42) ?_
  refine sirem X0 hx (hb hby d4_42) rfl (by decide) (by decide) (z := (1 : Int32)) (pc' := 43) ?_
  refine siushr X0 hx (hb hby d4_43) rfl (by decide) (z := (31 : Int32)) (pc' := 44) ?_
  refine siconst X0 hx (hb hby d4_44) rfl rfl (z := 1) (pc' := 45) ?_
  refine siand X0 hx (hb hby d4_45) rfl (by decide) (z := (1 : Int32)) (pc' := 46) ?_
  refine siload X0 hx (hb hby d4_46) rfl rfl (pc' := 48) ?_
  refine sishl X0 hx (hb hby d4_48) rfl (by decide) (z := (1 : Int32)) (pc' := 49) ?_
  refine sior X0 hx (hb hby d4_49) rfl (by decide) (z := (1 : Int32)) (pc' := 50) ?_
  refine sistore X0 hx (hb hby d4_50) rfl rfl (l' := #[.val (.ref i), .val (.int (0 : Int32)), .val (.int (2 : Int32)), .val (.int (9 : Int32)), .val (.int (5 : Int32)), .val (.int (1 : Int32)), .val (.int (0 : Int32)), .val (.int (1 : Int32))]) (pc' := 52) ?_
  refine siinc X0 hx (hb hby d4_52) rfl rfl rfl (l' := #[.val (.ref i), .val (.int (0 : Int32)), .val (.int (2 : Int32)), .val (.int (9 : Int32)), .val (.int (5 : Int32)), .val (.int (1 : Int32)), .val (.int (1 : Int32)), .val (.int (1 : Int32))]) (pc' := 55) ?_
  refine sgoto X0 hx (hb hby d4_55) (by decide) (by decide)  (pc' := 6) ?_
  refine siload X0 hx (hb hby d4_6) rfl rfl (pc' := 8) ?_
  refine siload X0 hx (hb hby d4_8) rfl rfl (pc' := 10) ?_
  refine sicN X0 hx (hb hby d4_10) rfl (tlt (by decide : (1 : Int32) < (5 : Int32))).2.1 (pc' := 13) ?_
  refine siloadN X0 hx (hb hby d4_13) rfl rfl (pc' := 14) ?_
  refine siloadN X0 hx (hb hby d4_14) rfl rfl (pc' := 15) ?_
  refine siload X0 hx (hb hby d4_15) rfl rfl (pc' := 17) ?_
  refine siadd X0 hx (hb hby d4_17) rfl (by decide) (z := (10 : Int32)) (pc' := 18) ?_
  refine sbipush X0 hx (hb hby d4_18) rfl rfl (z := 8) (pc' := 20) ?_
  refine sidiv X0 hx (hb hby d4_20) rfl (by decide) (by decide) (z := (1 : Int32)) (pc' := 21) ?_
  refine siadd X0 hx (hb hby d4_21) rfl (by decide) (z := (1 : Int32)) (pc' := 22) ?_
  refine sistore X0 hx (hb hby d4_22) rfl rfl (l' := #[.val (.ref i), .val (.int (0 : Int32)), .val (.int (2 : Int32)), .val (.int (9 : Int32)), .val (.int (5 : Int32)), .val (.int (1 : Int32)), .val (.int (1 : Int32)), .val (.int (1 : Int32))]) (pc' := 24) ?_
  refine siload X0 hx (hb hby d4_24) rfl rfl (pc' := 26) ?_
  refine siloadN X0 hx (hb hby d4_26) rfl rfl (pc' := 27) ?_
  refine sicN X0 hx (hb hby d4_27) rfl (tlt (by decide : (1 : Int32) < (2 : Int32))).2.1 (pc' := 30) ?_
  refine siload X0 hx (hb hby d4_30) rfl rfl (pc' := 32) ?_
  refine saloadN X0 hx (hb hby d4_32) rfl rfl rfl (pc' := 33) ?_
  refine siload X0 hx (hb hby d4_33) rfl rfl (pc' := 35) ?_
  refine oOn (VI.ldB X0 hx hZ e0 (j := (1 : Int32)) (by decide) (g := (mkF m 35 #[.val (.ref i), .val (.int (0 : Int32)), .val (.int (2 : Int32)), .val (.int (9 : Int32)), .val (.int (5 : Int32)), .val (.int (1 : Int32)), .val (.int (1 : Int32)), .val (.int (1 : Int32))] [(.int (1 : Int32)), (.ref i), (.int (1 : Int32))])) rfl rfl (hb hby d4_35)) ?_
  show oGl p e below (s₁.setTop (mkF m 36 #[.val (.ref i), .val (.int (0 : Int32)), .val (.int (2 : Int32)), .val (.int (9 : Int32)), .val (.int (5 : Int32)), .val (.int (1 : Int32)), .val (.int (1 : Int32)), .val (.int (1 : Int32))] [(.int (62 : Int32)), (.int (1 : Int32))])) _
  refine siloadN X0 hx (hb hby d4_36) rfl rfl (pc' := 37) ?_
  refine siload X0 hx (hb hby d4_37) rfl rfl (pc' := 39) ?_
  refine siadd X0 hx (hb hby d4_39) rfl (by decide) (z := (10 : Int32)) (pc' := 40) ?_
  refine sbipush X0 hx (hb hby d4_40) rfl rfl (z := 8) (pc' := 42) ?_
  refine sirem X0 hx (hb hby d4_42) rfl (by decide) (by decide) (z := (2 : Int32)) (pc' := 43) ?_
  refine siushr X0 hx (hb hby d4_43) rfl (by decide) (z := (15 : Int32)) (pc' := 44) ?_
  refine siconst X0 hx (hb hby d4_44) rfl rfl (z := 1) (pc' := 45) ?_
  refine siand X0 hx (hb hby d4_45) rfl (by decide) (z := (1 : Int32)) (pc' := 46) ?_
  refine siload X0 hx (hb hby d4_46) rfl rfl (pc' := 48) ?_
  refine sishl X0 hx (hb hby d4_48) rfl (by decide) (z := (2 : Int32)) (pc' := 49) ?_
  refine sior X0 hx (hb hby d4_49) rfl (by decide) (z := (3 : Int32)) (pc' := 50) ?_
  refine sistore X0 hx (hb hby d4_50) rfl rfl (l' := #[.val (.ref i), .val (.int (0 : Int32)), .val (.int (2 : Int32)), .val (.int (9 : Int32)), .val (.int (5 : Int32)), .val (.int (3 : Int32)), .val (.int (1 : Int32)), .val (.int (1 : Int32))]) (pc' := 52) ?_
  refine siinc X0 hx (hb hby d4_52) rfl rfl rfl (l' := #[.val (.ref i), .val (.int (0 : Int32)), .val (.int (2 : Int32)), .val (.int (9 : Int32)), .val (.int (5 : Int32)), .val (.int (3 : Int32)), .val (.int (2 : Int32)), .val (.int (1 : Int32))]) (pc' := 55) ?_
  refine sgoto X0 hx (hb hby d4_55) (by decide) (by decide)  (pc' := 6) ?_
  refine siload X0 hx (hb hby d4_6) rfl rfl (pc' := 8) ?_
  refine siload X0 hx (hb hby d4_8) rfl rfl (pc' := 10) ?_
  refine sicN X0 hx (hb hby d4_10) rfl (tlt (by decide : (2 : Int32) < (5 : Int32))).2.1 (pc' := 13) ?_
  refine siloadN X0 hx (hb hby d4_13) rfl rfl (pc' := 14) ?_
  refine siloadN X0 hx (hb hby d4_14) rfl rfl (pc' := 15) ?_
  refine siload X0 hx (hb hby d4_15) rfl rfl (pc' := 17) ?_
  refine siadd X0 hx (hb hby d4_17) rfl (by decide) (z := (11 : Int32)) (pc' := 18) ?_
  refine sbipush X0 hx (hb hby d4_18) rfl rfl (z := 8) (pc' := 20) ?_
  refine sidiv X0 hx (hb hby d4_20) rfl (by decide) (by decide) (z := (1 : Int32)) (pc' := 21) ?_
  refine siadd X0 hx (hb hby d4_21) rfl (by decide) (z := (1 : Int32)) (pc' := 22) ?_
  refine sistore X0 hx (hb hby d4_22) rfl rfl (l' := #[.val (.ref i), .val (.int (0 : Int32)), .val (.int (2 : Int32)), .val (.int (9 : Int32)), .val (.int (5 : Int32)), .val (.int (3 : Int32)), .val (.int (2 : Int32)), .val (.int (1 : Int32))]) (pc' := 24) ?_
  refine siload X0 hx (hb hby d4_24) rfl rfl (pc' := 26) ?_
  refine siloadN X0 hx (hb hby d4_26) rfl rfl (pc' := 27) ?_
  refine sicN X0 hx (hb hby d4_27) rfl (tlt (by decide : (1 : Int32) < (2 : Int32))).2.1 (pc' := 30) ?_
  refine siload X0 hx (hb hby d4_30) rfl rfl (pc' := 32) ?_
  refine saloadN X0 hx (hb hby d4_32) rfl rfl rfl (pc' := 33) ?_
  refine siload X0 hx (hb hby d4_33) rfl rfl (pc' := 35) ?_
  refine oOn (VI.ldB X0 hx hZ e0 (j := (1 : Int32)) (by decide) (g := (mkF m 35 #[.val (.ref i), .val (.int (0 : Int32)), .val (.int (2 : Int32)), .val (.int (9 : Int32)), .val (.int (5 : Int32)), .val (.int (3 : Int32)), .val (.int (2 : Int32)), .val (.int (1 : Int32))] [(.int (1 : Int32)), (.ref i), (.int (3 : Int32))])) rfl rfl (hb hby d4_35)) ?_
  show oGl p e below (s₁.setTop (mkF m 36 #[.val (.ref i), .val (.int (0 : Int32)), .val (.int (2 : Int32)), .val (.int (9 : Int32)), .val (.int (5 : Int32)), .val (.int (3 : Int32)), .val (.int (2 : Int32)), .val (.int (1 : Int32))] [(.int (62 : Int32)), (.int (3 : Int32))])) _
  refine siloadN X0 hx (hb hby d4_36) rfl rfl (pc' := 37) ?_
  refine siload X0 hx (hb hby d4_37) rfl rfl (pc' := 39) ?_
  refine siadd X0 hx (hb hby d4_39) rfl (by decide) (z := (11 : Int32)) (pc' := 40) ?_
  refine sbipush X0 hx (hb hby d4_40) rfl rfl (z := 8) (pc' := 42) ?_
  refine sirem X0 hx (hb hby d4_42) rfl (by decide) (by decide) (z := (3 : Int32)) (pc' := 43) ?_
  refine siushr X0 hx (hb hby d4_43) rfl (by decide) (z := (7 : Int32)) (pc' := 44) ?_
  refine siconst X0 hx (hb hby d4_44) rfl rfl (z := 1) (pc' := 45) ?_
  refine siand X0 hx (hb hby d4_45) rfl (by decide) (z := (1 : Int32)) (pc' := 46) ?_
  refine siload X0 hx (hb hby d4_46) rfl rfl (pc' := 48) ?_
  refine sishl X0 hx (hb hby d4_48) rfl (by decide) (z := (4 : Int32)) (pc' := 49) ?_
  refine sior X0 hx (hb hby d4_49) rfl (by decide) (z := (7 : Int32)) (pc' := 50) ?_
  refine sistore X0 hx (hb hby d4_50) rfl rfl (l' := #[.val (.ref i), .val (.int (0 : Int32)), .val (.int (2 : Int32)), .val (.int (9 : Int32)), .val (.int (5 : Int32)), .val (.int (7 : Int32)), .val (.int (2 : Int32)), .val (.int (1 : Int32))]) (pc' := 52) ?_
  refine siinc X0 hx (hb hby d4_52) rfl rfl rfl (l' := #[.val (.ref i), .val (.int (0 : Int32)), .val (.int (2 : Int32)), .val (.int (9 : Int32)), .val (.int (5 : Int32)), .val (.int (7 : Int32)), .val (.int (3 : Int32)), .val (.int (1 : Int32))]) (pc' := 55) ?_
  refine sgoto X0 hx (hb hby d4_55) (by decide) (by decide)  (pc' := 6) ?_
  refine siload X0 hx (hb hby d4_6) rfl rfl (pc' := 8) ?_
  refine siload X0 hx (hb hby d4_8) rfl rfl (pc' := 10) ?_
  refine sicN X0 hx (hb hby d4_10) rfl (tlt (by decide : (3 : Int32) < (5 : Int32))).2.1 (pc' := 13) ?_
  refine siloadN X0 hx (hb hby d4_13) rfl rfl (pc' := 14) ?_
  refine siloadN X0 hx (hb hby d4_14) rfl rfl (pc' := 15) ?_
  refine siload X0 hx (hb hby d4_15) rfl rfl (pc' := 17) ?_
  refine siadd X0 hx (hb hby d4_17) rfl (by decide) (z := (12 : Int32)) (pc' := 18) ?_
  refine sbipush X0 hx (hb hby d4_18) rfl rfl (z := 8) (pc' := 20) ?_
  refine sidiv X0 hx (hb hby d4_20) rfl (by decide) (by decide) (z := (1 : Int32)) (pc' := 21) ?_
  refine siadd X0 hx (hb hby d4_21) rfl (by decide) (z := (1 : Int32)) (pc' := 22) ?_
  refine sistore X0 hx (hb hby d4_22) rfl rfl (l' := #[.val (.ref i), .val (.int (0 : Int32)), .val (.int (2 : Int32)), .val (.int (9 : Int32)), .val (.int (5 : Int32)), .val (.int (7 : Int32)), .val (.int (3 : Int32)), .val (.int (1 : Int32))]) (pc' := 24) ?_
  refine siload X0 hx (hb hby d4_24) rfl rfl (pc' := 26) ?_
  refine siloadN X0 hx (hb hby d4_26) rfl rfl (pc' := 27) ?_
  refine sicN X0 hx (hb hby d4_27) rfl (tlt (by decide : (1 : Int32) < (2 : Int32))).2.1 (pc' := 30) ?_
  refine siload X0 hx (hb hby d4_30) rfl rfl (pc' := 32) ?_
  refine saloadN X0 hx (hb hby d4_32) rfl rfl rfl (pc' := 33) ?_
  refine siload X0 hx (hb hby d4_33) rfl rfl (pc' := 35) ?_
  refine oOn (VI.ldB X0 hx hZ e0 (j := (1 : Int32)) (by decide) (g := (mkF m 35 #[.val (.ref i), .val (.int (0 : Int32)), .val (.int (2 : Int32)), .val (.int (9 : Int32)), .val (.int (5 : Int32)), .val (.int (7 : Int32)), .val (.int (3 : Int32)), .val (.int (1 : Int32))] [(.int (1 : Int32)), (.ref i), (.int (7 : Int32))])) rfl rfl (hb hby d4_35)) ?_
  show oGl p e below (s₁.setTop (mkF m 36 #[.val (.ref i), .val (.int (0 : Int32)), .val (.int (2 : Int32)), .val (.int (9 : Int32)), .val (.int (5 : Int32)), .val (.int (7 : Int32)), .val (.int (3 : Int32)), .val (.int (1 : Int32))] [(.int (62 : Int32)), (.int (7 : Int32))])) _
  refine siloadN X0 hx (hb hby d4_36) rfl rfl (pc' := 37) ?_
  refine siload X0 hx (hb hby d4_37) rfl rfl (pc' := 39) ?_
  refine siadd X0 hx (hb hby d4_39) rfl (by decide) (z := (12 : Int32)) (pc' := 40) ?_
  refine sbipush X0 hx (hb hby d4_40) rfl rfl (z := 8) (pc' := 42) ?_
  refine sirem X0 hx (hb hby d4_42) rfl (by decide) (by decide) (z := (4 : Int32)) (pc' := 43) ?_
  refine siushr X0 hx (hb hby d4_43) rfl (by decide) (z := (3 : Int32)) (pc' := 44) ?_
  refine siconst X0 hx (hb hby d4_44) rfl rfl (z := 1) (pc' := 45) ?_
  refine siand X0 hx (hb hby d4_45) rfl (by decide) (z := (1 : Int32)) (pc' := 46) ?_
  refine siload X0 hx (hb hby d4_46) rfl rfl (pc' := 48) ?_
  refine sishl X0 hx (hb hby d4_48) rfl (by decide) (z := (8 : Int32)) (pc' := 49) ?_
  refine sior X0 hx (hb hby d4_49) rfl (by decide) (z := (15 : Int32)) (pc' := 50) ?_
  refine sistore X0 hx (hb hby d4_50) rfl rfl (l' := #[.val (.ref i), .val (.int (0 : Int32)), .val (.int (2 : Int32)), .val (.int (9 : Int32)), .val (.int (5 : Int32)), .val (.int (15 : Int32)), .val (.int (3 : Int32)), .val (.int (1 : Int32))]) (pc' := 52) ?_
  refine siinc X0 hx (hb hby d4_52) rfl rfl rfl (l' := #[.val (.ref i), .val (.int (0 : Int32)), .val (.int (2 : Int32)), .val (.int (9 : Int32)), .val (.int (5 : Int32)), .val (.int (15 : Int32)), .val (.int (4 : Int32)), .val (.int (1 : Int32))]) (pc' := 55) ?_
  refine sgoto X0 hx (hb hby d4_55) (by decide) (by decide)  (pc' := 6) ?_
  refine siload X0 hx (hb hby d4_6) rfl rfl (pc' := 8) ?_
  refine siload X0 hx (hb hby d4_8) rfl rfl (pc' := 10) ?_
  refine sicN X0 hx (hb hby d4_10) rfl (tlt (by decide : (4 : Int32) < (5 : Int32))).2.1 (pc' := 13) ?_
  refine siloadN X0 hx (hb hby d4_13) rfl rfl (pc' := 14) ?_
  refine siloadN X0 hx (hb hby d4_14) rfl rfl (pc' := 15) ?_
  refine siload X0 hx (hb hby d4_15) rfl rfl (pc' := 17) ?_
  refine siadd X0 hx (hb hby d4_17) rfl (by decide) (z := (13 : Int32)) (pc' := 18) ?_
  refine sbipush X0 hx (hb hby d4_18) rfl rfl (z := 8) (pc' := 20) ?_
  refine sidiv X0 hx (hb hby d4_20) rfl (by decide) (by decide) (z := (1 : Int32)) (pc' := 21) ?_
  refine siadd X0 hx (hb hby d4_21) rfl (by decide) (z := (1 : Int32)) (pc' := 22) ?_
  refine sistore X0 hx (hb hby d4_22) rfl rfl (l' := #[.val (.ref i), .val (.int (0 : Int32)), .val (.int (2 : Int32)), .val (.int (9 : Int32)), .val (.int (5 : Int32)), .val (.int (15 : Int32)), .val (.int (4 : Int32)), .val (.int (1 : Int32))]) (pc' := 24) ?_
  refine siload X0 hx (hb hby d4_24) rfl rfl (pc' := 26) ?_
  refine siloadN X0 hx (hb hby d4_26) rfl rfl (pc' := 27) ?_
  refine sicN X0 hx (hb hby d4_27) rfl (tlt (by decide : (1 : Int32) < (2 : Int32))).2.1 (pc' := 30) ?_
  refine siload X0 hx (hb hby d4_30) rfl rfl (pc' := 32) ?_
  refine saloadN X0 hx (hb hby d4_32) rfl rfl rfl (pc' := 33) ?_
  refine siload X0 hx (hb hby d4_33) rfl rfl (pc' := 35) ?_
  refine oOn (VI.ldB X0 hx hZ e0 (j := (1 : Int32)) (by decide) (g := (mkF m 35 #[.val (.ref i), .val (.int (0 : Int32)), .val (.int (2 : Int32)), .val (.int (9 : Int32)), .val (.int (5 : Int32)), .val (.int (15 : Int32)), .val (.int (4 : Int32)), .val (.int (1 : Int32))] [(.int (1 : Int32)), (.ref i), (.int (15 : Int32))])) rfl rfl (hb hby d4_35)) ?_
  show oGl p e below (s₁.setTop (mkF m 36 #[.val (.ref i), .val (.int (0 : Int32)), .val (.int (2 : Int32)), .val (.int (9 : Int32)), .val (.int (5 : Int32)), .val (.int (15 : Int32)), .val (.int (4 : Int32)), .val (.int (1 : Int32))] [(.int (62 : Int32)), (.int (15 : Int32))])) _
  refine siloadN X0 hx (hb hby d4_36) rfl rfl (pc' := 37) ?_
  refine siload X0 hx (hb hby d4_37) rfl rfl (pc' := 39) ?_
  refine siadd X0 hx (hb hby d4_39) rfl (by decide) (z := (13 : Int32)) (pc' := 40) ?_
  refine sbipush X0 hx (hb hby d4_40) rfl rfl (z := 8) (pc' := 42) ?_
  refine sirem X0 hx (hb hby d4_42) rfl (by decide) (by decide) (z := (5 : Int32)) (pc' := 43) ?_
  refine siushr X0 hx (hb hby d4_43) rfl (by decide) (z := (1 : Int32)) (pc' := 44) ?_
  refine siconst X0 hx (hb hby d4_44) rfl rfl (z := 1) (pc' := 45) ?_
  refine siand X0 hx (hb hby d4_45) rfl (by decide) (z := (1 : Int32)) (pc' := 46) ?_
  refine siload X0 hx (hb hby d4_46) rfl rfl (pc' := 48) ?_
  refine sishl X0 hx (hb hby d4_48) rfl (by decide) (z := (16 : Int32)) (pc' := 49) ?_
  refine sior X0 hx (hb hby d4_49) rfl (by decide) (z := (31 : Int32)) (pc' := 50) ?_
  refine sistore X0 hx (hb hby d4_50) rfl rfl (l' := #[.val (.ref i), .val (.int (0 : Int32)), .val (.int (2 : Int32)), .val (.int (9 : Int32)), .val (.int (5 : Int32)), .val (.int (31 : Int32)), .val (.int (4 : Int32)), .val (.int (1 : Int32))]) (pc' := 52) ?_
  refine siinc X0 hx (hb hby d4_52) rfl rfl rfl (l' := #[.val (.ref i), .val (.int (0 : Int32)), .val (.int (2 : Int32)), .val (.int (9 : Int32)), .val (.int (5 : Int32)), .val (.int (31 : Int32)), .val (.int (5 : Int32)), .val (.int (1 : Int32))]) (pc' := 55) ?_
  refine sgoto X0 hx (hb hby d4_55) (by decide) (by decide)  (pc' := 6) ?_
  refine siload X0 hx (hb hby d4_6) rfl rfl (pc' := 8) ?_
  refine siload X0 hx (hb hby d4_8) rfl rfl (pc' := 10) ?_
  refine sicY X0 hx (hb hby d4_10) (by decide) (by decide) (flt (by decide : ¬ ((5 : Int32) < (5 : Int32)))).2.1 (pc' := 58) ?_
  refine siload X0 hx (hb hby d4_58) rfl rfl (pc' := 60) ?_
  refine oRetI X0 hx Bd.notSynchronized Bd.returns (hb hby d4_60) (by decide) (by decide) ?_
  show Q_rmFwd9 Z i h0 n0 _ s₁.heap _
  rw [e0]
  exact ⟨rfl, N0, rfl⟩
theorem d9_0 : decode jdk_33_method_47_code 0 = .ok (.iload_n 0, 1) := by decide +kernel
theorem d9_1 : decode jdk_33_method_47_code 1 = .ok (.ifCond .gt 14, 3) := by decide +kernel
theorem d9_15 : decode jdk_33_method_47_code 15 = .ok (.bipush 31, 2) := by decide +kernel
theorem d9_17 : decode jdk_33_method_47_code 17 = .ok (.istore_n 1, 1) := by decide +kernel
theorem d9_18 : decode jdk_33_method_47_code 18 = .ok (.iload_n 0, 1) := by decide +kernel
theorem d9_19 : decode jdk_33_method_47_code 19 = .ok (.ldc_w 264, 3) := by decide +kernel
theorem d9_22 : decode jdk_33_method_47_code 22 = .ok (.if_icmp .lt 11, 3) := by decide +kernel
theorem d9_33 : decode jdk_33_method_47_code 33 = .ok (.iload_n 0, 1) := by decide +kernel
theorem d9_34 : decode jdk_33_method_47_code 34 = .ok (.sipush 256, 3) := by decide +kernel
theorem d9_37 : decode jdk_33_method_47_code 37 = .ok (.if_icmp .lt 11, 3) := by decide +kernel
theorem d9_48 : decode jdk_33_method_47_code 48 = .ok (.iload_n 0, 1) := by decide +kernel
theorem d9_49 : decode jdk_33_method_47_code 49 = .ok (.bipush 16, 2) := by decide +kernel
theorem d9_51 : decode jdk_33_method_47_code 51 = .ok (.if_icmp .lt 10, 3) := by decide +kernel
theorem d9_61 : decode jdk_33_method_47_code 61 = .ok (.iload_n 0, 1) := by decide +kernel
theorem d9_62 : decode jdk_33_method_47_code 62 = .ok (.iconst 4, 1) := by decide +kernel
theorem d9_63 : decode jdk_33_method_47_code 63 = .ok (.if_icmp .lt 10, 3) := by decide +kernel
theorem d9_73 : decode jdk_33_method_47_code 73 = .ok (.iload_n 1, 1) := by decide +kernel
theorem d9_74 : decode jdk_33_method_47_code 74 = .ok (.iload_n 0, 1) := by decide +kernel
theorem d9_75 : decode jdk_33_method_47_code 75 = .ok (.iconst 1, 1) := by decide +kernel
theorem d9_76 : decode jdk_33_method_47_code 76 = .ok (.iushr, 1) := by decide +kernel
theorem d9_77 : decode jdk_33_method_47_code 77 = .ok (.isub, 1) := by decide +kernel
theorem d9_78 : decode jdk_33_method_47_code 78 = .ok (.ireturn, 1) := by decide +kernel
theorem d9_66 : decode jdk_33_method_47_code 66 = .ok (.iinc 1 (-2), 3) := by decide +kernel
theorem d9_69 : decode jdk_33_method_47_code 69 = .ok (.iload_n 0, 1) := by decide +kernel
theorem d9_70 : decode jdk_33_method_47_code 70 = .ok (.iconst 2, 1) := by decide +kernel
theorem d9_71 : decode jdk_33_method_47_code 71 = .ok (.iushr, 1) := by decide +kernel
theorem d9_72 : decode jdk_33_method_47_code 72 = .ok (.istore_n 0, 1) := by decide +kernel
theorem d9_54 : decode jdk_33_method_47_code 54 = .ok (.iinc 1 (-4), 3) := by decide +kernel
theorem d9_57 : decode jdk_33_method_47_code 57 = .ok (.iload_n 0, 1) := by decide +kernel
theorem d9_58 : decode jdk_33_method_47_code 58 = .ok (.iconst 4, 1) := by decide +kernel
theorem d9_59 : decode jdk_33_method_47_code 59 = .ok (.iushr, 1) := by decide +kernel
theorem d9_60 : decode jdk_33_method_47_code 60 = .ok (.istore_n 0, 1) := by decide +kernel
theorem d9_40 : decode jdk_33_method_47_code 40 = .ok (.iinc 1 (-8), 3) := by decide +kernel
theorem d9_43 : decode jdk_33_method_47_code 43 = .ok (.iload_n 0, 1) := by decide +kernel
theorem d9_44 : decode jdk_33_method_47_code 44 = .ok (.bipush 8, 2) := by decide +kernel
theorem d9_46 : decode jdk_33_method_47_code 46 = .ok (.iushr, 1) := by decide +kernel
theorem d9_47 : decode jdk_33_method_47_code 47 = .ok (.istore_n 0, 1) := by decide +kernel
theorem d9_25 : decode jdk_33_method_47_code 25 = .ok (.iinc 1 (-16), 3) := by decide +kernel
theorem d9_28 : decode jdk_33_method_47_code 28 = .ok (.iload_n 0, 1) := by decide +kernel
theorem d9_29 : decode jdk_33_method_47_code 29 = .ok (.bipush 16, 2) := by decide +kernel
theorem d9_31 : decode jdk_33_method_47_code 31 = .ok (.iushr, 1) := by decide +kernel
theorem d9_32 : decode jdk_33_method_47_code 32 = .ok (.istore_n 0, 1) := by decide +kernel
theorem d9_4 : decode jdk_33_method_47_code 4 = .ok (.iload_n 0, 1) := by decide +kernel
theorem d9_5 : decode jdk_33_method_47_code 5 = .ok (.ifCond .ne 8, 3) := by decide +kernel
theorem d9_8 : decode jdk_33_method_47_code 8 = .ok (.bipush 32, 2) := by decide +kernel
theorem d9_10 : decode jdk_33_method_47_code 10 = .ok (.goto 4, 3) := by decide +kernel
theorem d9_14 : decode jdk_33_method_47_code 14 = .ok (.ireturn, 1) := by decide +kernel
theorem d9_13 : decode jdk_33_method_47_code 13 = .ok (.iconst 0, 1) := by decide +kernel
theorem ef_rmNlz (m : MethodId) (x0 : Int32)  : entryFrame m #[(.int x0)] 2 = mkF m 0 #[.val (.int x0), .unset] [] := by first | (simp [entryFrame, mkF, argsToLocals, Value.category, maxLocals]; done) | rfl
def Q_rmNlz (Z : State) (x : Int32) (h0 : Heap) (n0 : Nat) (vv : Option Value) (h : Heap) (L : List Loc) : Prop := ∃ r : Int32, vv = some (.int r) ∧ Fr n0 L ∧ h = h0
set_option maxRecDepth 65536 in
set_option maxHeartbeats 40000000 in
theorem rmNlz (l : Launch) (Z : State) (a0 : Array Value) (hw : ∀ d ∈ tables_1, d.before a0 Z = true) (ws : List Jvm.Cond) (x : Int32) (h0 : Heap) (n0 : Nat) (Z0 : n0 ≤ h0.size)  :
    MetFree l (⟨"java/lang/Integer", "numberOfLeadingZeros", "(I)I"⟩ : MethodName) (head1 (Jvm.Cond.code (⟨"java/lang/Integer", "numberOfLeadingZeros", "(I)I"⟩ : MethodName) jdk_33_method_47_code 2 (some .int) :: ws) ({ frames := 0, cells := 0, slots := 0, locals := 0 } : Room)) (fun aA uU => aA = #[(.int x)] ∧ Z.Warmed39 uU.vm ∧ uU.heap = h0) (fun _ _ _ _ _ => True) (fun _ uU oO uU' => ∃ vV lL, oO = .returned vV ∧ Q_rmNlz Z x h0 n0 vV uU'.heap lL ∧ FrameEnd uU oO uU' lL ({ frames := 0, cells := 0, slots := 0, locals := 0 } : Room).cells ({ frames := 0, cells := 0, slots := 0, locals := 0 } : Room).slots) := by
  refine MetFree.of_bodySF (plainFor_of_name pn_Integer) hisR ?_
  intro p e s m args below meth c s₁ Bd hml0 hP hK
  obtain ⟨rfl, hZ, hh⟩ := hP
  have hx := Bd.exec
  have hby := Bd.bytes
  have hml : c.maxLocals = 2 := hml0
  have hown : s.vm.findClass "java/lang/Integer" = some m.cls := findClass_of_methodNamed Bd.named
  have hnm := (name_of_methodNamed Bd.named Bd.method).1
  have X0 : Stand p l e ({ frames := 0, cells := 0, slots := 0, locals := 0 } : Room) s m #[(.int x)] below meth c s₁ [] 0 0 := Stand.of_body Bd
  have e0 : s₁.heap = h0 := by rw [← hh, Bd.state]; rfl
  have N0 := Fr.nil n0
  refine oEnter (oCast (ef_rmNlz m x ) ?_)
  show oGl p e below (s₁.setTop (mkF m 0 #[.val (.int x), .unset] [])) _
  refine siloadN X0 hx (hb hby d9_0) rfl rfl (pc' := 1) ?_
  by_cases hc1 : (0 : Int32) < x
  · skip
    refine sifY X0 hx (hb hby d9_1) (by decide) (by decide) (tlt hc1).2.2.1 (pc' := 15) ?_
    refine sbipush X0 hx (hb hby d9_15) rfl rfl (z := 31) (pc' := 17) ?_
    refine sistoreN X0 hx (hb hby d9_17) rfl rfl (l' := #[.val (.int x), .val (.int (31 : Int32))]) (pc' := 18) ?_
    refine siloadN X0 hx (hb hby d9_18) rfl rfl (pc' := 19) ?_
    refine oOn (X0.ldcwInt hx hown (mvT hZ (hw _ (List.mem_of_getElem? (i := 29) rfl))) (g := (mkF m 19 #[.val (.int x), .val (.int (31 : Int32))] [(.int x)])) rfl (hb hby d9_19)) ?_
    show oGl p e below (s₁.setTop (mkF m 22 #[.val (.int x), .val (.int (31 : Int32))] [(.int (65536 : Int32)), (.int x)])) _
    by_cases hc22 : x < (65536 : Int32)
    · skip
      refine sicY X0 hx (hb hby d9_22) (by decide) (by decide) (tlt hc22).1 (pc' := 33) ?_
      refine siloadN X0 hx (hb hby d9_33) rfl rfl (pc' := 34) ?_
      refine ssipush X0 hx (hb hby d9_34) rfl rfl (z := 256) (pc' := 37) ?_
      by_cases hc37 : x < (256 : Int32)
      · skip
        refine sicY X0 hx (hb hby d9_37) (by decide) (by decide) (tlt hc37).1 (pc' := 48) ?_
        refine siloadN X0 hx (hb hby d9_48) rfl rfl (pc' := 49) ?_
        refine sbipush X0 hx (hb hby d9_49) rfl rfl (z := 16) (pc' := 51) ?_
        by_cases hc51 : x < (16 : Int32)
        · skip
          refine sicY X0 hx (hb hby d9_51) (by decide) (by decide) (tlt hc51).1 (pc' := 61) ?_
          refine siloadN X0 hx (hb hby d9_61) rfl rfl (pc' := 62) ?_
          refine siconst X0 hx (hb hby d9_62) rfl rfl (z := 4) (pc' := 63) ?_
          by_cases hc63 : x < (4 : Int32)
          · skip
            refine sicY X0 hx (hb hby d9_63) (by decide) (by decide) (tlt hc63).1 (pc' := 73) ?_
            refine siloadN X0 hx (hb hby d9_73) rfl rfl (pc' := 74) ?_
            refine siloadN X0 hx (hb hby d9_74) rfl rfl (pc' := 75) ?_
            refine siconst X0 hx (hb hby d9_75) rfl rfl (z := 1) (pc' := 76) ?_
            refine siushr X0 hx (hb hby d9_76) rfl rfl (pc' := 77) ?_
            refine sisub X0 hx (hb hby d9_77) rfl rfl (pc' := 78) ?_
            refine oRetI X0 hx Bd.notSynchronized Bd.returns (hb hby d9_78) (by decide) (by decide) ?_
            show Q_rmNlz Z x h0 n0 _ s₁.heap _
            rw [e0]
            exact ⟨_, rfl, N0, rfl⟩
          · skip
            refine sicN X0 hx (hb hby d9_63) rfl (flt hc63).1 (pc' := 66) ?_
            refine siinc X0 hx (hb hby d9_66) rfl rfl rfl (l' := #[.val (.int x), .val (.int (29 : Int32))]) (pc' := 69) ?_
            refine siloadN X0 hx (hb hby d9_69) rfl rfl (pc' := 70) ?_
            refine siconst X0 hx (hb hby d9_70) rfl rfl (z := 2) (pc' := 71) ?_
            refine siushr X0 hx (hb hby d9_71) rfl rfl (pc' := 72) ?_
            refine sistoreN X0 hx (hb hby d9_72) rfl rfl (l' := #[.val (.int ((x.toUInt32 >>> ((2 : Int32) &&& 31).toUInt32).toInt32)), .val (.int (29 : Int32))]) (pc' := 73) ?_
            refine siloadN X0 hx (hb hby d9_73) rfl rfl (pc' := 74) ?_
            refine siloadN X0 hx (hb hby d9_74) rfl rfl (pc' := 75) ?_
            refine siconst X0 hx (hb hby d9_75) rfl rfl (z := 1) (pc' := 76) ?_
            refine siushr X0 hx (hb hby d9_76) rfl rfl (pc' := 77) ?_
            refine sisub X0 hx (hb hby d9_77) rfl rfl (pc' := 78) ?_
            refine oRetI X0 hx Bd.notSynchronized Bd.returns (hb hby d9_78) (by decide) (by decide) ?_
            show Q_rmNlz Z x h0 n0 _ s₁.heap _
            rw [e0]
            exact ⟨_, rfl, N0, rfl⟩
        · skip
          refine sicN X0 hx (hb hby d9_51) rfl (flt hc51).1 (pc' := 54) ?_
          refine siinc X0 hx (hb hby d9_54) rfl rfl rfl (l' := #[.val (.int x), .val (.int (27 : Int32))]) (pc' := 57) ?_
          refine siloadN X0 hx (hb hby d9_57) rfl rfl (pc' := 58) ?_
          refine siconst X0 hx (hb hby d9_58) rfl rfl (z := 4) (pc' := 59) ?_
          refine siushr X0 hx (hb hby d9_59) rfl rfl (pc' := 60) ?_
          refine sistoreN X0 hx (hb hby d9_60) rfl rfl (l' := #[.val (.int ((x.toUInt32 >>> ((4 : Int32) &&& 31).toUInt32).toInt32)), .val (.int (27 : Int32))]) (pc' := 61) ?_
          refine siloadN X0 hx (hb hby d9_61) rfl rfl (pc' := 62) ?_
          refine siconst X0 hx (hb hby d9_62) rfl rfl (z := 4) (pc' := 63) ?_
          by_cases hc63 : ((x.toUInt32 >>> ((4 : Int32) &&& 31).toUInt32).toInt32) < (4 : Int32)
          · skip
            refine sicY X0 hx (hb hby d9_63) (by decide) (by decide) (tlt hc63).1 (pc' := 73) ?_
            refine siloadN X0 hx (hb hby d9_73) rfl rfl (pc' := 74) ?_
            refine siloadN X0 hx (hb hby d9_74) rfl rfl (pc' := 75) ?_
            refine siconst X0 hx (hb hby d9_75) rfl rfl (z := 1) (pc' := 76) ?_
            refine siushr X0 hx (hb hby d9_76) rfl rfl (pc' := 77) ?_
            refine sisub X0 hx (hb hby d9_77) rfl rfl (pc' := 78) ?_
            refine oRetI X0 hx Bd.notSynchronized Bd.returns (hb hby d9_78) (by decide) (by decide) ?_
            show Q_rmNlz Z x h0 n0 _ s₁.heap _
            rw [e0]
            exact ⟨_, rfl, N0, rfl⟩
          · skip
            refine sicN X0 hx (hb hby d9_63) rfl (flt hc63).1 (pc' := 66) ?_
            refine siinc X0 hx (hb hby d9_66) rfl rfl rfl (l' := #[.val (.int ((x.toUInt32 >>> ((4 : Int32) &&& 31).toUInt32).toInt32)), .val (.int (25 : Int32))]) (pc' := 69) ?_
            refine siloadN X0 hx (hb hby d9_69) rfl rfl (pc' := 70) ?_
            refine siconst X0 hx (hb hby d9_70) rfl rfl (z := 2) (pc' := 71) ?_
            refine siushr X0 hx (hb hby d9_71) rfl rfl (pc' := 72) ?_
            refine sistoreN X0 hx (hb hby d9_72) rfl rfl (l' := #[.val (.int ((((x.toUInt32 >>> ((4 : Int32) &&& 31).toUInt32).toInt32).toUInt32 >>> ((2 : Int32) &&& 31).toUInt32).toInt32)), .val (.int (25 : Int32))]) (pc' := 73) ?_
            refine siloadN X0 hx (hb hby d9_73) rfl rfl (pc' := 74) ?_
            refine siloadN X0 hx (hb hby d9_74) rfl rfl (pc' := 75) ?_
            refine siconst X0 hx (hb hby d9_75) rfl rfl (z := 1) (pc' := 76) ?_
            refine siushr X0 hx (hb hby d9_76) rfl rfl (pc' := 77) ?_
            refine sisub X0 hx (hb hby d9_77) rfl rfl (pc' := 78) ?_
            refine oRetI X0 hx Bd.notSynchronized Bd.returns (hb hby d9_78) (by decide) (by decide) ?_
            show Q_rmNlz Z x h0 n0 _ s₁.heap _
            rw [e0]
            exact ⟨_, rfl, N0, rfl⟩
      · skip
        refine sicN X0 hx (hb hby d9_37) rfl (flt hc37).1 (pc' := 40) ?_
        refine siinc X0 hx (hb hby d9_40) rfl rfl rfl (l' := #[.val (.int x), .val (.int (23 : Int32))]) (pc' := 43) ?_
        refine siloadN X0 hx (hb hby d9_43) rfl rfl (pc' := 44) ?_
        refine sbipush X0 hx (hb hby d9_44) rfl rfl (z := 8) (pc' := 46) ?_
        refine siushr X0 hx (hb hby d9_46) rfl rfl (pc' := 47) ?_
        refine sistoreN X0 hx (hb hby d9_47) rfl rfl (l' := #[.val (.int ((x.toUInt32 >>> ((8 : Int32) &&& 31).toUInt32).toInt32)), .val (.int (23 : Int32))]) (pc' := 48) ?_
        refine siloadN X0 hx (hb hby d9_48) rfl rfl (pc' := 49) ?_
        refine sbipush X0 hx (hb hby d9_49) rfl rfl (z := 16) (pc' := 51) ?_
        by_cases hc51 : ((x.toUInt32 >>> ((8 : Int32) &&& 31).toUInt32).toInt32) < (16 : Int32)
        · skip
          refine sicY X0 hx (hb hby d9_51) (by decide) (by decide) (tlt hc51).1 (pc' := 61) ?_
          refine siloadN X0 hx (hb hby d9_61) rfl rfl (pc' := 62) ?_
          refine siconst X0 hx (hb hby d9_62) rfl rfl (z := 4) (pc' := 63) ?_
          by_cases hc63 : ((x.toUInt32 >>> ((8 : Int32) &&& 31).toUInt32).toInt32) < (4 : Int32)
          · skip
            refine sicY X0 hx (hb hby d9_63) (by decide) (by decide) (tlt hc63).1 (pc' := 73) ?_
            refine siloadN X0 hx (hb hby d9_73) rfl rfl (pc' := 74) ?_
            refine siloadN X0 hx (hb hby d9_74) rfl rfl (pc' := 75) ?_
            refine siconst X0 hx (hb hby d9_75) rfl rfl (z := 1) (pc' := 76) ?_
            refine siushr X0 hx (hb hby d9_76) rfl rfl (pc' := 77) ?_
            refine sisub X0 hx (hb hby d9_77) rfl rfl (pc' := 78) ?_
            refine oRetI X0 hx Bd.notSynchronized Bd.returns (hb hby d9_78) (by decide) (by decide) ?_
            show Q_rmNlz Z x h0 n0 _ s₁.heap _
            rw [e0]
            exact ⟨_, rfl, N0, rfl⟩
          · skip
            refine sicN X0 hx (hb hby d9_63) rfl (flt hc63).1 (pc' := 66) ?_
            refine siinc X0 hx (hb hby d9_66) rfl rfl rfl (l' := #[.val (.int ((x.toUInt32 >>> ((8 : Int32) &&& 31).toUInt32).toInt32)), .val (.int (21 : Int32))]) (pc' := 69) ?_
            refine siloadN X0 hx (hb hby d9_69) rfl rfl (pc' := 70) ?_
            refine siconst X0 hx (hb hby d9_70) rfl rfl (z := 2) (pc' := 71) ?_
            refine siushr X0 hx (hb hby d9_71) rfl rfl (pc' := 72) ?_
            refine sistoreN X0 hx (hb hby d9_72) rfl rfl (l' := #[.val (.int ((((x.toUInt32 >>> ((8 : Int32) &&& 31).toUInt32).toInt32).toUInt32 >>> ((2 : Int32) &&& 31).toUInt32).toInt32)), .val (.int (21 : Int32))]) (pc' := 73) ?_
            refine siloadN X0 hx (hb hby d9_73) rfl rfl (pc' := 74) ?_
            refine siloadN X0 hx (hb hby d9_74) rfl rfl (pc' := 75) ?_
            refine siconst X0 hx (hb hby d9_75) rfl rfl (z := 1) (pc' := 76) ?_
            refine siushr X0 hx (hb hby d9_76) rfl rfl (pc' := 77) ?_
            refine sisub X0 hx (hb hby d9_77) rfl rfl (pc' := 78) ?_
            refine oRetI X0 hx Bd.notSynchronized Bd.returns (hb hby d9_78) (by decide) (by decide) ?_
            show Q_rmNlz Z x h0 n0 _ s₁.heap _
            rw [e0]
            exact ⟨_, rfl, N0, rfl⟩
        · skip
          refine sicN X0 hx (hb hby d9_51) rfl (flt hc51).1 (pc' := 54) ?_
          refine siinc X0 hx (hb hby d9_54) rfl rfl rfl (l' := #[.val (.int ((x.toUInt32 >>> ((8 : Int32) &&& 31).toUInt32).toInt32)), .val (.int (19 : Int32))]) (pc' := 57) ?_
          refine siloadN X0 hx (hb hby d9_57) rfl rfl (pc' := 58) ?_
          refine siconst X0 hx (hb hby d9_58) rfl rfl (z := 4) (pc' := 59) ?_
          refine siushr X0 hx (hb hby d9_59) rfl rfl (pc' := 60) ?_
          refine sistoreN X0 hx (hb hby d9_60) rfl rfl (l' := #[.val (.int ((((x.toUInt32 >>> ((8 : Int32) &&& 31).toUInt32).toInt32).toUInt32 >>> ((4 : Int32) &&& 31).toUInt32).toInt32)), .val (.int (19 : Int32))]) (pc' := 61) ?_
          refine siloadN X0 hx (hb hby d9_61) rfl rfl (pc' := 62) ?_
          refine siconst X0 hx (hb hby d9_62) rfl rfl (z := 4) (pc' := 63) ?_
          by_cases hc63 : ((((x.toUInt32 >>> ((8 : Int32) &&& 31).toUInt32).toInt32).toUInt32 >>> ((4 : Int32) &&& 31).toUInt32).toInt32) < (4 : Int32)
          · skip
            refine sicY X0 hx (hb hby d9_63) (by decide) (by decide) (tlt hc63).1 (pc' := 73) ?_
            refine siloadN X0 hx (hb hby d9_73) rfl rfl (pc' := 74) ?_
            refine siloadN X0 hx (hb hby d9_74) rfl rfl (pc' := 75) ?_
            refine siconst X0 hx (hb hby d9_75) rfl rfl (z := 1) (pc' := 76) ?_
            refine siushr X0 hx (hb hby d9_76) rfl rfl (pc' := 77) ?_
            refine sisub X0 hx (hb hby d9_77) rfl rfl (pc' := 78) ?_
            refine oRetI X0 hx Bd.notSynchronized Bd.returns (hb hby d9_78) (by decide) (by decide) ?_
            show Q_rmNlz Z x h0 n0 _ s₁.heap _
            rw [e0]
            exact ⟨_, rfl, N0, rfl⟩
          · skip
            refine sicN X0 hx (hb hby d9_63) rfl (flt hc63).1 (pc' := 66) ?_
            refine siinc X0 hx (hb hby d9_66) rfl rfl rfl (l' := #[.val (.int ((((x.toUInt32 >>> ((8 : Int32) &&& 31).toUInt32).toInt32).toUInt32 >>> ((4 : Int32) &&& 31).toUInt32).toInt32)), .val (.int (17 : Int32))]) (pc' := 69) ?_
            refine siloadN X0 hx (hb hby d9_69) rfl rfl (pc' := 70) ?_
            refine siconst X0 hx (hb hby d9_70) rfl rfl (z := 2) (pc' := 71) ?_
            refine siushr X0 hx (hb hby d9_71) rfl rfl (pc' := 72) ?_
            refine sistoreN X0 hx (hb hby d9_72) rfl rfl (l' := #[.val (.int ((((((x.toUInt32 >>> ((8 : Int32) &&& 31).toUInt32).toInt32).toUInt32 >>> ((4 : Int32) &&& 31).toUInt32).toInt32).toUInt32 >>> ((2 : Int32) &&& 31).toUInt32).toInt32)), .val (.int (17 : Int32))]) (pc' := 73) ?_
            refine siloadN X0 hx (hb hby d9_73) rfl rfl (pc' := 74) ?_
            refine siloadN X0 hx (hb hby d9_74) rfl rfl (pc' := 75) ?_
            refine siconst X0 hx (hb hby d9_75) rfl rfl (z := 1) (pc' := 76) ?_
            refine siushr X0 hx (hb hby d9_76) rfl rfl (pc' := 77) ?_
            refine sisub X0 hx (hb hby d9_77) rfl rfl (pc' := 78) ?_
            refine oRetI X0 hx Bd.notSynchronized Bd.returns (hb hby d9_78) (by decide) (by decide) ?_
            show Q_rmNlz Z x h0 n0 _ s₁.heap _
            rw [e0]
            exact ⟨_, rfl, N0, rfl⟩
    · skip
      refine sicN X0 hx (hb hby d9_22) rfl (flt hc22).1 (pc' := 25) ?_
      refine siinc X0 hx (hb hby d9_25) rfl rfl rfl (l' := #[.val (.int x), .val (.int (15 : Int32))]) (pc' := 28) ?_
      refine siloadN X0 hx (hb hby d9_28) rfl rfl (pc' := 29) ?_
      refine sbipush X0 hx (hb hby d9_29) rfl rfl (z := 16) (pc' := 31) ?_
      refine siushr X0 hx (hb hby d9_31) rfl rfl (pc' := 32) ?_
      refine sistoreN X0 hx (hb hby d9_32) rfl rfl (l' := #[.val (.int ((x.toUInt32 >>> ((16 : Int32) &&& 31).toUInt32).toInt32)), .val (.int (15 : Int32))]) (pc' := 33) ?_
      refine siloadN X0 hx (hb hby d9_33) rfl rfl (pc' := 34) ?_
      refine ssipush X0 hx (hb hby d9_34) rfl rfl (z := 256) (pc' := 37) ?_
      by_cases hc37 : ((x.toUInt32 >>> ((16 : Int32) &&& 31).toUInt32).toInt32) < (256 : Int32)
      · skip
        refine sicY X0 hx (hb hby d9_37) (by decide) (by decide) (tlt hc37).1 (pc' := 48) ?_
        refine siloadN X0 hx (hb hby d9_48) rfl rfl (pc' := 49) ?_
        refine sbipush X0 hx (hb hby d9_49) rfl rfl (z := 16) (pc' := 51) ?_
        by_cases hc51 : ((x.toUInt32 >>> ((16 : Int32) &&& 31).toUInt32).toInt32) < (16 : Int32)
        · skip
          refine sicY X0 hx (hb hby d9_51) (by decide) (by decide) (tlt hc51).1 (pc' := 61) ?_
          refine siloadN X0 hx (hb hby d9_61) rfl rfl (pc' := 62) ?_
          refine siconst X0 hx (hb hby d9_62) rfl rfl (z := 4) (pc' := 63) ?_
          by_cases hc63 : ((x.toUInt32 >>> ((16 : Int32) &&& 31).toUInt32).toInt32) < (4 : Int32)
          · skip
            refine sicY X0 hx (hb hby d9_63) (by decide) (by decide) (tlt hc63).1 (pc' := 73) ?_
            refine siloadN X0 hx (hb hby d9_73) rfl rfl (pc' := 74) ?_
            refine siloadN X0 hx (hb hby d9_74) rfl rfl (pc' := 75) ?_
            refine siconst X0 hx (hb hby d9_75) rfl rfl (z := 1) (pc' := 76) ?_
            refine siushr X0 hx (hb hby d9_76) rfl rfl (pc' := 77) ?_
            refine sisub X0 hx (hb hby d9_77) rfl rfl (pc' := 78) ?_
            refine oRetI X0 hx Bd.notSynchronized Bd.returns (hb hby d9_78) (by decide) (by decide) ?_
            show Q_rmNlz Z x h0 n0 _ s₁.heap _
            rw [e0]
            exact ⟨_, rfl, N0, rfl⟩
          · skip
            refine sicN X0 hx (hb hby d9_63) rfl (flt hc63).1 (pc' := 66) ?_
            refine siinc X0 hx (hb hby d9_66) rfl rfl rfl (l' := #[.val (.int ((x.toUInt32 >>> ((16 : Int32) &&& 31).toUInt32).toInt32)), .val (.int (13 : Int32))]) (pc' := 69) ?_
            refine siloadN X0 hx (hb hby d9_69) rfl rfl (pc' := 70) ?_
            refine siconst X0 hx (hb hby d9_70) rfl rfl (z := 2) (pc' := 71) ?_
            refine siushr X0 hx (hb hby d9_71) rfl rfl (pc' := 72) ?_
            refine sistoreN X0 hx (hb hby d9_72) rfl rfl (l' := #[.val (.int ((((x.toUInt32 >>> ((16 : Int32) &&& 31).toUInt32).toInt32).toUInt32 >>> ((2 : Int32) &&& 31).toUInt32).toInt32)), .val (.int (13 : Int32))]) (pc' := 73) ?_
            refine siloadN X0 hx (hb hby d9_73) rfl rfl (pc' := 74) ?_
            refine siloadN X0 hx (hb hby d9_74) rfl rfl (pc' := 75) ?_
            refine siconst X0 hx (hb hby d9_75) rfl rfl (z := 1) (pc' := 76) ?_
            refine siushr X0 hx (hb hby d9_76) rfl rfl (pc' := 77) ?_
            refine sisub X0 hx (hb hby d9_77) rfl rfl (pc' := 78) ?_
            refine oRetI X0 hx Bd.notSynchronized Bd.returns (hb hby d9_78) (by decide) (by decide) ?_
            show Q_rmNlz Z x h0 n0 _ s₁.heap _
            rw [e0]
            exact ⟨_, rfl, N0, rfl⟩
        · skip
          refine sicN X0 hx (hb hby d9_51) rfl (flt hc51).1 (pc' := 54) ?_
          refine siinc X0 hx (hb hby d9_54) rfl rfl rfl (l' := #[.val (.int ((x.toUInt32 >>> ((16 : Int32) &&& 31).toUInt32).toInt32)), .val (.int (11 : Int32))]) (pc' := 57) ?_
          refine siloadN X0 hx (hb hby d9_57) rfl rfl (pc' := 58) ?_
          refine siconst X0 hx (hb hby d9_58) rfl rfl (z := 4) (pc' := 59) ?_
          refine siushr X0 hx (hb hby d9_59) rfl rfl (pc' := 60) ?_
          refine sistoreN X0 hx (hb hby d9_60) rfl rfl (l' := #[.val (.int ((((x.toUInt32 >>> ((16 : Int32) &&& 31).toUInt32).toInt32).toUInt32 >>> ((4 : Int32) &&& 31).toUInt32).toInt32)), .val (.int (11 : Int32))]) (pc' := 61) ?_
          refine siloadN X0 hx (hb hby d9_61) rfl rfl (pc' := 62) ?_
          refine siconst X0 hx (hb hby d9_62) rfl rfl (z := 4) (pc' := 63) ?_
          by_cases hc63 : ((((x.toUInt32 >>> ((16 : Int32) &&& 31).toUInt32).toInt32).toUInt32 >>> ((4 : Int32) &&& 31).toUInt32).toInt32) < (4 : Int32)
          · skip
            refine sicY X0 hx (hb hby d9_63) (by decide) (by decide) (tlt hc63).1 (pc' := 73) ?_
            refine siloadN X0 hx (hb hby d9_73) rfl rfl (pc' := 74) ?_
            refine siloadN X0 hx (hb hby d9_74) rfl rfl (pc' := 75) ?_
            refine siconst X0 hx (hb hby d9_75) rfl rfl (z := 1) (pc' := 76) ?_
            refine siushr X0 hx (hb hby d9_76) rfl rfl (pc' := 77) ?_
            refine sisub X0 hx (hb hby d9_77) rfl rfl (pc' := 78) ?_
            refine oRetI X0 hx Bd.notSynchronized Bd.returns (hb hby d9_78) (by decide) (by decide) ?_
            show Q_rmNlz Z x h0 n0 _ s₁.heap _
            rw [e0]
            exact ⟨_, rfl, N0, rfl⟩
          · skip
            refine sicN X0 hx (hb hby d9_63) rfl (flt hc63).1 (pc' := 66) ?_
            refine siinc X0 hx (hb hby d9_66) rfl rfl rfl (l' := #[.val (.int ((((x.toUInt32 >>> ((16 : Int32) &&& 31).toUInt32).toInt32).toUInt32 >>> ((4 : Int32) &&& 31).toUInt32).toInt32)), .val (.int (9 : Int32))]) (pc' := 69) ?_
            refine siloadN X0 hx (hb hby d9_69) rfl rfl (pc' := 70) ?_
            refine siconst X0 hx (hb hby d9_70) rfl rfl (z := 2) (pc' := 71) ?_
            refine siushr X0 hx (hb hby d9_71) rfl rfl (pc' := 72) ?_
            refine sistoreN X0 hx (hb hby d9_72) rfl rfl (l' := #[.val (.int ((((((x.toUInt32 >>> ((16 : Int32) &&& 31).toUInt32).toInt32).toUInt32 >>> ((4 : Int32) &&& 31).toUInt32).toInt32).toUInt32 >>> ((2 : Int32) &&& 31).toUInt32).toInt32)), .val (.int (9 : Int32))]) (pc' := 73) ?_
            refine siloadN X0 hx (hb hby d9_73) rfl rfl (pc' := 74) ?_
            refine siloadN X0 hx (hb hby d9_74) rfl rfl (pc' := 75) ?_
            refine siconst X0 hx (hb hby d9_75) rfl rfl (z := 1) (pc' := 76) ?_
            refine siushr X0 hx (hb hby d9_76) rfl rfl (pc' := 77) ?_
            refine sisub X0 hx (hb hby d9_77) rfl rfl (pc' := 78) ?_
            refine oRetI X0 hx Bd.notSynchronized Bd.returns (hb hby d9_78) (by decide) (by decide) ?_
            show Q_rmNlz Z x h0 n0 _ s₁.heap _
            rw [e0]
            exact ⟨_, rfl, N0, rfl⟩
      · skip
        refine sicN X0 hx (hb hby d9_37) rfl (flt hc37).1 (pc' := 40) ?_
        refine siinc X0 hx (hb hby d9_40) rfl rfl rfl (l' := #[.val (.int ((x.toUInt32 >>> ((16 : Int32) &&& 31).toUInt32).toInt32)), .val (.int (7 : Int32))]) (pc' := 43) ?_
        refine siloadN X0 hx (hb hby d9_43) rfl rfl (pc' := 44) ?_
        refine sbipush X0 hx (hb hby d9_44) rfl rfl (z := 8) (pc' := 46) ?_
        refine siushr X0 hx (hb hby d9_46) rfl rfl (pc' := 47) ?_
        refine sistoreN X0 hx (hb hby d9_47) rfl rfl (l' := #[.val (.int ((((x.toUInt32 >>> ((16 : Int32) &&& 31).toUInt32).toInt32).toUInt32 >>> ((8 : Int32) &&& 31).toUInt32).toInt32)), .val (.int (7 : Int32))]) (pc' := 48) ?_
        refine siloadN X0 hx (hb hby d9_48) rfl rfl (pc' := 49) ?_
        refine sbipush X0 hx (hb hby d9_49) rfl rfl (z := 16) (pc' := 51) ?_
        by_cases hc51 : ((((x.toUInt32 >>> ((16 : Int32) &&& 31).toUInt32).toInt32).toUInt32 >>> ((8 : Int32) &&& 31).toUInt32).toInt32) < (16 : Int32)
        · skip
          refine sicY X0 hx (hb hby d9_51) (by decide) (by decide) (tlt hc51).1 (pc' := 61) ?_
          refine siloadN X0 hx (hb hby d9_61) rfl rfl (pc' := 62) ?_
          refine siconst X0 hx (hb hby d9_62) rfl rfl (z := 4) (pc' := 63) ?_
          by_cases hc63 : ((((x.toUInt32 >>> ((16 : Int32) &&& 31).toUInt32).toInt32).toUInt32 >>> ((8 : Int32) &&& 31).toUInt32).toInt32) < (4 : Int32)
          · skip
            refine sicY X0 hx (hb hby d9_63) (by decide) (by decide) (tlt hc63).1 (pc' := 73) ?_
            refine siloadN X0 hx (hb hby d9_73) rfl rfl (pc' := 74) ?_
            refine siloadN X0 hx (hb hby d9_74) rfl rfl (pc' := 75) ?_
            refine siconst X0 hx (hb hby d9_75) rfl rfl (z := 1) (pc' := 76) ?_
            refine siushr X0 hx (hb hby d9_76) rfl rfl (pc' := 77) ?_
            refine sisub X0 hx (hb hby d9_77) rfl rfl (pc' := 78) ?_
            refine oRetI X0 hx Bd.notSynchronized Bd.returns (hb hby d9_78) (by decide) (by decide) ?_
            show Q_rmNlz Z x h0 n0 _ s₁.heap _
            rw [e0]
            exact ⟨_, rfl, N0, rfl⟩
          · skip
            refine sicN X0 hx (hb hby d9_63) rfl (flt hc63).1 (pc' := 66) ?_
            refine siinc X0 hx (hb hby d9_66) rfl rfl rfl (l' := #[.val (.int ((((x.toUInt32 >>> ((16 : Int32) &&& 31).toUInt32).toInt32).toUInt32 >>> ((8 : Int32) &&& 31).toUInt32).toInt32)), .val (.int (5 : Int32))]) (pc' := 69) ?_
            refine siloadN X0 hx (hb hby d9_69) rfl rfl (pc' := 70) ?_
            refine siconst X0 hx (hb hby d9_70) rfl rfl (z := 2) (pc' := 71) ?_
            refine siushr X0 hx (hb hby d9_71) rfl rfl (pc' := 72) ?_
            refine sistoreN X0 hx (hb hby d9_72) rfl rfl (l' := #[.val (.int ((((((x.toUInt32 >>> ((16 : Int32) &&& 31).toUInt32).toInt32).toUInt32 >>> ((8 : Int32) &&& 31).toUInt32).toInt32).toUInt32 >>> ((2 : Int32) &&& 31).toUInt32).toInt32)), .val (.int (5 : Int32))]) (pc' := 73) ?_
            refine siloadN X0 hx (hb hby d9_73) rfl rfl (pc' := 74) ?_
            refine siloadN X0 hx (hb hby d9_74) rfl rfl (pc' := 75) ?_
            refine siconst X0 hx (hb hby d9_75) rfl rfl (z := 1) (pc' := 76) ?_
            refine siushr X0 hx (hb hby d9_76) rfl rfl (pc' := 77) ?_
            refine sisub X0 hx (hb hby d9_77) rfl rfl (pc' := 78) ?_
            refine oRetI X0 hx Bd.notSynchronized Bd.returns (hb hby d9_78) (by decide) (by decide) ?_
            show Q_rmNlz Z x h0 n0 _ s₁.heap _
            rw [e0]
            exact ⟨_, rfl, N0, rfl⟩
        · skip
          refine sicN X0 hx (hb hby d9_51) rfl (flt hc51).1 (pc' := 54) ?_
          refine siinc X0 hx (hb hby d9_54) rfl rfl rfl (l' := #[.val (.int ((((x.toUInt32 >>> ((16 : Int32) &&& 31).toUInt32).toInt32).toUInt32 >>> ((8 : Int32) &&& 31).toUInt32).toInt32)), .val (.int (3 : Int32))]) (pc' := 57) ?_
          refine siloadN X0 hx (hb hby d9_57) rfl rfl (pc' := 58) ?_
          refine siconst X0 hx (hb hby d9_58) rfl rfl (z := 4) (pc' := 59) ?_
          refine siushr X0 hx (hb hby d9_59) rfl rfl (pc' := 60) ?_
          refine sistoreN X0 hx (hb hby d9_60) rfl rfl (l' := #[.val (.int ((((((x.toUInt32 >>> ((16 : Int32) &&& 31).toUInt32).toInt32).toUInt32 >>> ((8 : Int32) &&& 31).toUInt32).toInt32).toUInt32 >>> ((4 : Int32) &&& 31).toUInt32).toInt32)), .val (.int (3 : Int32))]) (pc' := 61) ?_
          refine siloadN X0 hx (hb hby d9_61) rfl rfl (pc' := 62) ?_
          refine siconst X0 hx (hb hby d9_62) rfl rfl (z := 4) (pc' := 63) ?_
          by_cases hc63 : ((((((x.toUInt32 >>> ((16 : Int32) &&& 31).toUInt32).toInt32).toUInt32 >>> ((8 : Int32) &&& 31).toUInt32).toInt32).toUInt32 >>> ((4 : Int32) &&& 31).toUInt32).toInt32) < (4 : Int32)
          · skip
            refine sicY X0 hx (hb hby d9_63) (by decide) (by decide) (tlt hc63).1 (pc' := 73) ?_
            refine siloadN X0 hx (hb hby d9_73) rfl rfl (pc' := 74) ?_
            refine siloadN X0 hx (hb hby d9_74) rfl rfl (pc' := 75) ?_
            refine siconst X0 hx (hb hby d9_75) rfl rfl (z := 1) (pc' := 76) ?_
            refine siushr X0 hx (hb hby d9_76) rfl rfl (pc' := 77) ?_
            refine sisub X0 hx (hb hby d9_77) rfl rfl (pc' := 78) ?_
            refine oRetI X0 hx Bd.notSynchronized Bd.returns (hb hby d9_78) (by decide) (by decide) ?_
            show Q_rmNlz Z x h0 n0 _ s₁.heap _
            rw [e0]
            exact ⟨_, rfl, N0, rfl⟩
          · skip
            refine sicN X0 hx (hb hby d9_63) rfl (flt hc63).1 (pc' := 66) ?_
            refine siinc X0 hx (hb hby d9_66) rfl rfl rfl (l' := #[.val (.int ((((((x.toUInt32 >>> ((16 : Int32) &&& 31).toUInt32).toInt32).toUInt32 >>> ((8 : Int32) &&& 31).toUInt32).toInt32).toUInt32 >>> ((4 : Int32) &&& 31).toUInt32).toInt32)), .val (.int (1 : Int32))]) (pc' := 69) ?_
            refine siloadN X0 hx (hb hby d9_69) rfl rfl (pc' := 70) ?_
            refine siconst X0 hx (hb hby d9_70) rfl rfl (z := 2) (pc' := 71) ?_
            refine siushr X0 hx (hb hby d9_71) rfl rfl (pc' := 72) ?_
            refine sistoreN X0 hx (hb hby d9_72) rfl rfl (l' := #[.val (.int ((((((((x.toUInt32 >>> ((16 : Int32) &&& 31).toUInt32).toInt32).toUInt32 >>> ((8 : Int32) &&& 31).toUInt32).toInt32).toUInt32 >>> ((4 : Int32) &&& 31).toUInt32).toInt32).toUInt32 >>> ((2 : Int32) &&& 31).toUInt32).toInt32)), .val (.int (1 : Int32))]) (pc' := 73) ?_
            refine siloadN X0 hx (hb hby d9_73) rfl rfl (pc' := 74) ?_
            refine siloadN X0 hx (hb hby d9_74) rfl rfl (pc' := 75) ?_
            refine siconst X0 hx (hb hby d9_75) rfl rfl (z := 1) (pc' := 76) ?_
            refine siushr X0 hx (hb hby d9_76) rfl rfl (pc' := 77) ?_
            refine sisub X0 hx (hb hby d9_77) rfl rfl (pc' := 78) ?_
            refine oRetI X0 hx Bd.notSynchronized Bd.returns (hb hby d9_78) (by decide) (by decide) ?_
            show Q_rmNlz Z x h0 n0 _ s₁.heap _
            rw [e0]
            exact ⟨_, rfl, N0, rfl⟩
  · skip
    refine sifN X0 hx (hb hby d9_1) rfl (flt hc1).2.2.1 (pc' := 4) ?_
    refine siloadN X0 hx (hb hby d9_4) rfl rfl (pc' := 5) ?_
    by_cases hc5 : x = (0 : Int32)
    · skip
      refine sifN X0 hx (hb hby d9_5) rfl (teq hc5).2 (pc' := 8) ?_
      refine sbipush X0 hx (hb hby d9_8) rfl rfl (z := 32) (pc' := 10) ?_
      refine sgoto X0 hx (hb hby d9_10) (by decide) (by decide)  (pc' := 14) ?_
      refine oRetI X0 hx Bd.notSynchronized Bd.returns (hb hby d9_14) (by decide) (by decide) ?_
      show Q_rmNlz Z x h0 n0 _ s₁.heap _
      rw [e0]
      exact ⟨_, rfl, N0, rfl⟩
    · skip
      refine sifY X0 hx (hb hby d9_5) (by decide) (by decide) (feq hc5).2 (pc' := 13) ?_
      refine siconst X0 hx (hb hby d9_13) rfl rfl (z := 0) (pc' := 14) ?_
      refine oRetI X0 hx Bd.notSynchronized Bd.returns (hb hby d9_14) (by decide) (by decide) ?_
      show Q_rmNlz Z x h0 n0 _ s₁.heap _
      rw [e0]
      exact ⟨_, rfl, N0, rfl⟩
theorem own_inc {x : Int32} (h : x.toInt < 2147483647) : (x + (1 : Int32)).toInt = x.toInt + 1 := by
  have h1 := c_iadd x 1; have h2 := rng32 (x + 1); have h3 := rng32 x; have e1 : (1 : Int32).toInt = 1 := rfl
  omega
theorem own_m31 (x : Int32) : 0 ≤ (x &&& (31 : Int32)).toInt ∧ (x &&& (31 : Int32)).toInt < 32 := by
  have h := c_and x 31 (by decide)
  have e : (31 : Int32).toInt = 31 := by decide
  omega
theorem own_m31' (x : Int32) : ¬ ((31 : Int32) < (x &&& (31 : Int32))) := fun q => by
  have h := own_m31 x
  have e : (31 : Int32).toInt = 31 := by decide
  rw [Int32.lt_iff_toInt_lt] at q; omega
theorem own_bit {x : Int32} (h : x = 0 ∨ x = 1) : 0 ≤ (x &&& (255 : Int32)).toInt ∧ (x &&& (255 : Int32)).toInt < (2 : Nat) := by rcases h with rfl | rfl <;> decide
theorem oUp01 {g : Nat → Int32} {i : Nat} {x : Int32} (hb : ∀ j, g j = 0 ∨ g j = 1) (hx : x = 0 ∨ x = 1) : ∀ j, oUp g i x j = 0 ∨ oUp g i x j = 1 := fun j => by
  unfold oUp; split
  · exact hx
  · exact hb j
theorem d8_0 : decode prog_7_method_12_code 0 = .ok (.iconst 1, 1) := by decide +kernel
theorem d8_1 : decode prog_7_method_12_code 1 = .ok (.iload_n 3, 1) := by decide +kernel
theorem d8_2 : decode prog_7_method_12_code 2 = .ok (.ishl, 1) := by decide +kernel
theorem d8_3 : decode prog_7_method_12_code 3 = .ok (.istore 4, 2) := by decide +kernel
theorem d8_5 : decode prog_7_method_12_code 5 = .ok (.iload 4, 2) := by decide +kernel
theorem d8_7 : decode prog_7_method_12_code 7 = .ok (.iconst 1, 1) := by decide +kernel
theorem d8_8 : decode prog_7_method_12_code 8 = .ok (.isub, 1) := by decide +kernel
theorem d8_9 : decode prog_7_method_12_code 9 = .ok (.istore 5, 2) := by decide +kernel
theorem d8_11 : decode prog_7_method_12_code 11 = .ok (.iload_n 2, 1) := by decide +kernel
theorem d8_12 : decode prog_7_method_12_code 12 = .ok (.newarray .int, 2) := by decide +kernel
theorem d8_14 : decode prog_7_method_12_code 14 = .ok (.astore 6, 2) := by decide +kernel
theorem d8_16 : decode prog_7_method_12_code 16 = .ok (.iconst 0, 1) := by decide +kernel
theorem d8_17 : decode prog_7_method_12_code 17 = .ok (.istore 7, 2) := by decide +kernel
theorem d8_19 : decode prog_7_method_12_code 19 = .ok (.iload 7, 2) := by decide +kernel
theorem d8_21 : decode prog_7_method_12_code 21 = .ok (.iload_n 2, 1) := by decide +kernel
theorem d8_22 : decode prog_7_method_12_code 22 = .ok (.if_icmp .ge 48, 3) := by decide +kernel
theorem d8_25 : decode prog_7_method_12_code 25 = .ok (.aload_n 1, 1) := by decide +kernel
theorem d8_26 : decode prog_7_method_12_code 26 = .ok (.iload 7, 2) := by decide +kernel
theorem d8_28 : decode prog_7_method_12_code 28 = .ok (.saload, 1) := by decide +kernel
theorem d8_29 : decode prog_7_method_12_code 29 = .ok (.iconst (-1), 1) := by decide +kernel
theorem d8_30 : decode prog_7_method_12_code 30 = .ok (.if_icmp .ne 25, 3) := by decide +kernel
theorem d8_55 : decode prog_7_method_12_code 55 = .ok (.aload 6, 2) := by decide +kernel
theorem d8_57 : decode prog_7_method_12_code 57 = .ok (.iload 7, 2) := by decide +kernel
theorem d8_59 : decode prog_7_method_12_code 59 = .ok (.aload_n 1, 1) := by decide +kernel
theorem d8_60 : decode prog_7_method_12_code 60 = .ok (.iload 7, 2) := by decide +kernel
theorem d8_62 : decode prog_7_method_12_code 62 = .ok (.saload, 1) := by decide +kernel
theorem d8_63 : decode prog_7_method_12_code 63 = .ok (.iastore, 1) := by decide +kernel
theorem d8_64 : decode prog_7_method_12_code 64 = .ok (.iinc 7 1, 3) := by decide +kernel
theorem d8_67 : decode prog_7_method_12_code 67 = .ok (.goto (-48), 3) := by decide +kernel
theorem d8_70 : decode prog_7_method_12_code 70 = .ok (.iload 4, 2) := by decide +kernel
theorem d8_72 : decode prog_7_method_12_code 72 = .ok (.iconst 1, 1) := by decide +kernel
theorem d8_73 : decode prog_7_method_12_code 73 = .ok (.iushr, 1) := by decide +kernel
theorem d8_74 : decode prog_7_method_12_code 74 = .ok (.iload 4, 2) := by decide +kernel
theorem d8_76 : decode prog_7_method_12_code 76 = .ok (.iconst 3, 1) := by decide +kernel
theorem d8_77 : decode prog_7_method_12_code 77 = .ok (.iushr, 1) := by decide +kernel
theorem d8_78 : decode prog_7_method_12_code 78 = .ok (.iadd, 1) := by decide +kernel
theorem d8_79 : decode prog_7_method_12_code 79 = .ok (.iconst 3, 1) := by decide +kernel
theorem d8_80 : decode prog_7_method_12_code 80 = .ok (.iadd, 1) := by decide +kernel
theorem d8_81 : decode prog_7_method_12_code 81 = .ok (.istore 7, 2) := by decide +kernel
theorem d8_83 : decode prog_7_method_12_code 83 = .ok (.iconst 0, 1) := by decide +kernel
theorem d8_84 : decode prog_7_method_12_code 84 = .ok (.istore 8, 2) := by decide +kernel
theorem d8_86 : decode prog_7_method_12_code 86 = .ok (.iconst 0, 1) := by decide +kernel
theorem d8_87 : decode prog_7_method_12_code 87 = .ok (.istore 9, 2) := by decide +kernel
theorem d8_89 : decode prog_7_method_12_code 89 = .ok (.iload 9, 2) := by decide +kernel
theorem d8_91 : decode prog_7_method_12_code 91 = .ok (.iload_n 2, 1) := by decide +kernel
theorem d8_92 : decode prog_7_method_12_code 92 = .ok (.if_icmp .ge 56, 3) := by decide +kernel
theorem d8_95 : decode prog_7_method_12_code 95 = .ok (.iconst 0, 1) := by decide +kernel
theorem d8_96 : decode prog_7_method_12_code 96 = .ok (.istore 10, 2) := by decide +kernel
theorem d8_98 : decode prog_7_method_12_code 98 = .ok (.iload 10, 2) := by decide +kernel
theorem d8_100 : decode prog_7_method_12_code 100 = .ok (.aload_n 1, 1) := by decide +kernel
theorem d8_101 : decode prog_7_method_12_code 101 = .ok (.iload 9, 2) := by decide +kernel
theorem d8_103 : decode prog_7_method_12_code 103 = .ok (.saload, 1) := by decide +kernel
theorem d8_104 : decode prog_7_method_12_code 104 = .ok (.if_icmp .ge 38, 3) := by decide +kernel
theorem d8_107 : decode prog_7_method_12_code 107 = .ok (.aload_n 0, 1) := by decide +kernel
theorem d8_108 : decode prog_7_method_12_code 108 = .ok (.getfield 7, 3) := by decide +kernel
theorem d8_111 : decode prog_7_method_12_code 111 = .ok (.iload 8, 2) := by decide +kernel
theorem d8_113 : decode prog_7_method_12_code 113 = .ok (.iload 9, 2) := by decide +kernel
theorem d8_115 : decode prog_7_method_12_code 115 = .ok (.i2b, 1) := by decide +kernel
theorem d8_116 : decode prog_7_method_12_code 116 = .ok (.bastore, 1) := by decide +kernel
theorem d8_117 : decode prog_7_method_12_code 117 = .ok (.iload 8, 2) := by decide +kernel
theorem d8_119 : decode prog_7_method_12_code 119 = .ok (.iload 7, 2) := by decide +kernel
theorem d8_121 : decode prog_7_method_12_code 121 = .ok (.iadd, 1) := by decide +kernel
theorem d8_122 : decode prog_7_method_12_code 122 = .ok (.iload 4, 2) := by decide +kernel
theorem d8_124 : decode prog_7_method_12_code 124 = .ok (.iconst 1, 1) := by decide +kernel
theorem d8_125 : decode prog_7_method_12_code 125 = .ok (.isub, 1) := by decide +kernel
theorem d8_126 : decode prog_7_method_12_code 126 = .ok (.iand, 1) := by decide +kernel
theorem d8_127 : decode prog_7_method_12_code 127 = .ok (.istore 8, 2) := by decide +kernel
theorem d8_129 : decode prog_7_method_12_code 129 = .ok (.iload 8, 2) := by decide +kernel
theorem d8_131 : decode prog_7_method_12_code 131 = .ok (.iload 5, 2) := by decide +kernel
theorem d8_133 : decode prog_7_method_12_code 133 = .ok (.if_icmp .gt (-16), 3) := by decide +kernel
theorem d8_136 : decode prog_7_method_12_code 136 = .ok (.iinc 10 1, 3) := by decide +kernel
theorem d8_139 : decode prog_7_method_12_code 139 = .ok (.goto (-41), 3) := by decide +kernel
theorem d8_142 : decode prog_7_method_12_code 142 = .ok (.iinc 9 1, 3) := by decide +kernel
theorem d8_145 : decode prog_7_method_12_code 145 = .ok (.goto (-56), 3) := by decide +kernel
theorem d8_148 : decode prog_7_method_12_code 148 = .ok (.iconst 0, 1) := by decide +kernel
theorem d8_149 : decode prog_7_method_12_code 149 = .ok (.istore 9, 2) := by decide +kernel
theorem d8_151 : decode prog_7_method_12_code 151 = .ok (.iload 9, 2) := by decide +kernel
theorem d8_153 : decode prog_7_method_12_code 153 = .ok (.iload 4, 2) := by decide +kernel
theorem d8_155 : decode prog_7_method_12_code 155 = .ok (.if_icmp .ge 68, 3) := by decide +kernel
theorem d8_158 : decode prog_7_method_12_code 158 = .ok (.aload 6, 2) := by decide +kernel
theorem d8_160 : decode prog_7_method_12_code 160 = .ok (.aload_n 0, 1) := by decide +kernel
theorem d8_161 : decode prog_7_method_12_code 161 = .ok (.getfield 7, 3) := by decide +kernel
theorem d8_164 : decode prog_7_method_12_code 164 = .ok (.iload 9, 2) := by decide +kernel
theorem d8_166 : decode prog_7_method_12_code 166 = .ok (.baload, 1) := by decide +kernel
theorem d8_167 : decode prog_7_method_12_code 167 = .ok (.sipush 255, 3) := by decide +kernel
theorem d8_170 : decode prog_7_method_12_code 170 = .ok (.iand, 1) := by decide +kernel
theorem d8_171 : decode prog_7_method_12_code 171 = .ok (.dup2, 1) := by decide +kernel
theorem d8_172 : decode prog_7_method_12_code 172 = .ok (.iaload, 1) := by decide +kernel
theorem d8_173 : decode prog_7_method_12_code 173 = .ok (.dup_x2, 1) := by decide +kernel
theorem d8_174 : decode prog_7_method_12_code 174 = .ok (.iconst 1, 1) := by decide +kernel
theorem d8_175 : decode prog_7_method_12_code 175 = .ok (.iadd, 1) := by decide +kernel
theorem d8_176 : decode prog_7_method_12_code 176 = .ok (.iastore, 1) := by decide +kernel
theorem d8_177 : decode prog_7_method_12_code 177 = .ok (.istore 10, 2) := by decide +kernel
theorem d8_179 : decode prog_7_method_12_code 179 = .ok (.iload_n 3, 1) := by decide +kernel
theorem d8_180 : decode prog_7_method_12_code 180 = .ok (.bipush 31, 2) := by decide +kernel
theorem d8_182 : decode prog_7_method_12_code 182 = .ok (.iload 10, 2) := by decide +kernel
theorem d8_184 : decode prog_7_method_12_code 184 = .ok (.invokestatic 71, 3) := by decide +kernel
theorem pd_0 : parseMethodDescriptor "(I)I" = some ⟨[.int], some .int⟩ := by decide +kernel
theorem d8_187 : decode prog_7_method_12_code 187 = .ok (.isub, 1) := by decide +kernel
theorem d8_188 : decode prog_7_method_12_code 188 = .ok (.isub, 1) := by decide +kernel
theorem d8_189 : decode prog_7_method_12_code 189 = .ok (.istore 11, 2) := by decide +kernel
theorem d8_191 : decode prog_7_method_12_code 191 = .ok (.aload_n 0, 1) := by decide +kernel
theorem d8_192 : decode prog_7_method_12_code 192 = .ok (.getfield 13, 3) := by decide +kernel
theorem d8_195 : decode prog_7_method_12_code 195 = .ok (.iload 9, 2) := by decide +kernel
theorem d8_197 : decode prog_7_method_12_code 197 = .ok (.iload 11, 2) := by decide +kernel
theorem d8_199 : decode prog_7_method_12_code 199 = .ok (.i2b, 1) := by decide +kernel
theorem d8_200 : decode prog_7_method_12_code 200 = .ok (.bastore, 1) := by decide +kernel
theorem d8_201 : decode prog_7_method_12_code 201 = .ok (.aload_n 0, 1) := by decide +kernel
theorem d8_202 : decode prog_7_method_12_code 202 = .ok (.getfield 16, 3) := by decide +kernel
theorem d8_205 : decode prog_7_method_12_code 205 = .ok (.iload 9, 2) := by decide +kernel
theorem d8_207 : decode prog_7_method_12_code 207 = .ok (.iload 10, 2) := by decide +kernel
theorem d8_209 : decode prog_7_method_12_code 209 = .ok (.iload 11, 2) := by decide +kernel
theorem d8_211 : decode prog_7_method_12_code 211 = .ok (.ishl, 1) := by decide +kernel
theorem d8_212 : decode prog_7_method_12_code 212 = .ok (.iload 4, 2) := by decide +kernel
theorem d8_214 : decode prog_7_method_12_code 214 = .ok (.isub, 1) := by decide +kernel
theorem d8_215 : decode prog_7_method_12_code 215 = .ok (.i2s, 1) := by decide +kernel
theorem d8_216 : decode prog_7_method_12_code 216 = .ok (.sastore, 1) := by decide +kernel
theorem d8_217 : decode prog_7_method_12_code 217 = .ok (.iinc 9 1, 3) := by decide +kernel
theorem d8_220 : decode prog_7_method_12_code 220 = .ok (.goto (-69), 3) := by decide +kernel
theorem d8_223 : decode prog_7_method_12_code 223 = .ok (.aload_n 0, 1) := by decide +kernel
theorem d8_224 : decode prog_7_method_12_code 224 = .ok (.iload_n 3, 1) := by decide +kernel
theorem d8_225 : decode prog_7_method_12_code 225 = .ok (.putfield 27, 3) := by decide +kernel
theorem d8_228 : decode prog_7_method_12_code 228 = .ok (.return_, 1) := by decide +kernel
theorem ef_rmBuild (m : MethodId) (x0 : Nat) (x1 : Nat) (x2 : Int32) (x3 : Int32)  : entryFrame m #[(.ref x0), (.ref x1), (.int x2), (.int x3)] 12 = mkF m 0 #[.val (.ref x0), .val (.ref x1), .val (.int x2), .val (.int x3), .unset, .unset, .unset, .unset, .unset, .unset, .unset, .unset] [] := by first | (simp [entryFrame, mkF, argsToLocals, Value.category, maxLocals]; done) | rfl
def Q_rmBuild (Z : State) (v sa ba la : Nat) (d : Nat) (Nn : Nat) (lg : Int32) (fs fb fl : Nat → Int32) (h0 : Heap) (n0 : Nat) (vv : Option Value) (h : Heap) (L : List Loc) : Prop := ∃ fs fb fl, vv = none ∧ Fr n0 L ∧ Keep h0 h [v, sa, ba, la] ∧ Exa Z h v "com/example/moraine/moraine/compression/FseTable" ∧ Fld Z h v "com/example/moraine/moraine/compression/FseTable" "symbols" "[B" (.ref sa) ∧ Fld Z h v "com/example/moraine/moraine/compression/FseTable" "bits" "[B" (.ref ba) ∧ Fld Z h v "com/example/moraine/moraine/compression/FseTable" "baselines" "[S" (.ref la) ∧ Fld Z h v "com/example/moraine/moraine/compression/FseTable" "log" "I" (.int 5) ∧ oAI Z h sa .byte Nn fs ∧ oAI Z h ba .byte Nn fb ∧ oAI Z h la .short Nn fl
set_option maxRecDepth 65536 in
set_option maxHeartbeats 40000000 in
theorem rmBuild (l : Launch) (Z : State) (a0 : Array Value) (hw : ∀ d ∈ tables_1, d.before a0 Z = true) (ws : List Jvm.Cond) (v sa ba la : Nat) (d : Nat) (Nn : Nat) (lg : Int32) (fs fb fl : Nat → Int32) (h0 : Heap) (n0 : Nat) (Z0 : n0 ≤ h0.size) (E0 : Exa Z h0 v "com/example/moraine/moraine/compression/FseTable") (F0 : Fld Z h0 v "com/example/moraine/moraine/compression/FseTable" "symbols" "[B" (.ref sa)) (F1 : Fld Z h0 v "com/example/moraine/moraine/compression/FseTable" "bits" "[B" (.ref ba)) (F2 : Fld Z h0 v "com/example/moraine/moraine/compression/FseTable" "baselines" "[S" (.ref la)) (F3 : Fld Z h0 v "com/example/moraine/moraine/compression/FseTable" "log" "I" (.int lg)) (PV0 : oAI Z h0 sa .byte Nn fs) (PV1 : oAI Z h0 ba .byte Nn fb) (PV2 : oAI Z h0 la .short Nn fl) (gv : n0 ≤ v) (gs : n0 ≤ sa) (gb : n0 ≤ ba) (gl : n0 ≤ la) (dd : v < sa ∧ sa < ba ∧ ba < la) (hN : 32 ≤ Nn) (hfs : ∀ j, fs j = 0 ∨ fs j = 1) (VD : oAI Z h0 d .short 2 (oUp (oUp (fun _ => 0) 0 3) 1 29)) (gd : n0 ≤ d) (dd2 : la < d) :
    MetFree l (⟨"com/example/moraine/moraine/compression/FseTable", "build", "([SII)V"⟩ : MethodName) (head1 (Jvm.Cond.code (⟨"com/example/moraine/moraine/compression/FseTable", "build", "([SII)V"⟩ : MethodName) prog_7_method_12_code 12 (none : Option FieldType) :: ws) ({ frames := 1, cells := 1, slots := 2, locals := 15 } : Room)) (fun aA uU => aA = #[(.ref v), (.ref d), (.int (2 : Int32)), (.int (5 : Int32))] ∧ Z.Warmed39 uU.vm ∧ uU.heap = h0) (fun _ _ _ _ _ => True) (fun _ uU oO uU' => ∃ vV lL, oO = .returned vV ∧ Q_rmBuild Z v sa ba la d Nn lg fs fb fl h0 n0 vV uU'.heap lL ∧ FrameEnd uU oO uU' lL ({ frames := 1, cells := 1, slots := 2, locals := 15 } : Room).cells ({ frames := 1, cells := 1, slots := 2, locals := 15 } : Room).slots) := by
  refine MetFree.of_bodySF (plainFor_of_name pn_FseTable) hisR ?_
  intro p e s m args below meth c s₁ Bd hml0 hP hK
  obtain ⟨rfl, hZ, hh⟩ := hP
  have hx := Bd.exec
  have hby := Bd.bytes
  have hml : c.maxLocals = 12 := hml0
  have hown : s.vm.findClass "com/example/moraine/moraine/compression/FseTable" = some m.cls := findClass_of_methodNamed Bd.named
  have hnm := (name_of_methodNamed Bd.named Bd.method).1
  have X0 : Stand p l e ({ frames := 1, cells := 1, slots := 2, locals := 15 } : Room) s m #[(.ref v), (.ref d), (.int (2 : Int32)), (.int (5 : Int32))] below meth c s₁ [] 0 0 := Stand.of_body Bd
  have e0 : s₁.heap = h0 := by rw [← hh, Bd.state]; rfl
  have N0 := Fr.nil n0
  have lv : @LT.lt Nat _ v h0.size := E0.lt
  have lsa := PV0.lt
  have lba := PV1.lt
  have lla := PV2.lt
  have ld := VD.lt
  refine oEnter (oCast (ef_rmBuild m v d (2 : Int32) (5 : Int32) ) ?_)
  show oGl p e below (s₁.setTop (mkF m 0 #[.val (.ref v), .val (.ref d), .val (.int (2 : Int32)), .val (.int (5 : Int32)), .unset, .unset, .unset, .unset, .unset, .unset, .unset, .unset] [])) _
  refine siconst X0 hx (hb hby d8_0) rfl rfl (z := 1) (pc' := 1) ?_
  refine siloadN X0 hx (hb hby d8_1) rfl rfl (pc' := 2) ?_
  refine sishl X0 hx (hb hby d8_2) rfl (by decide) (z := (32 : Int32)) (pc' := 3) ?_
  refine sistore X0 hx (hb hby d8_3) rfl rfl (l' := #[.val (.ref v), .val (.ref d), .val (.int (2 : Int32)), .val (.int (5 : Int32)), .val (.int (32 : Int32)), .unset, .unset, .unset, .unset, .unset, .unset, .unset]) (pc' := 5) ?_
  refine siload X0 hx (hb hby d8_5) rfl rfl (pc' := 7) ?_
  refine siconst X0 hx (hb hby d8_7) rfl rfl (z := 1) (pc' := 8) ?_
  refine sisub X0 hx (hb hby d8_8) rfl (by decide) (z := (31 : Int32)) (pc' := 9) ?_
  refine sistore X0 hx (hb hby d8_9) rfl rfl (l' := #[.val (.ref v), .val (.ref d), .val (.int (2 : Int32)), .val (.int (5 : Int32)), .val (.int (32 : Int32)), .val (.int (31 : Int32)), .unset, .unset, .unset, .unset, .unset, .unset]) (pc' := 11) ?_
  refine siloadN X0 hx (hb hby d8_11) rfl rfl (pc' := 12) ?_
  obtain ⟨T1, h1, k1, X1, e1, E1, A1, st1⟩ := newP X0 hx hZ (hw _ (List.mem_of_getElem? (i := 41) rfl)) e0 (g := (mkF m 12 #[.val (.ref v), .val (.ref d), .val (.int (2 : Int32)), .val (.int (5 : Int32)), .val (.int (32 : Int32)), .val (.int (31 : Int32)), .unset, .unset, .unset, .unset, .unset, .unset] [(.int (2 : Int32))])) rfl (hb hby d8_12) rfl (by decide) (cap := 2) (by decide) (by decide) (by decide) (by decide)
  obtain ⟨a1, g1⟩ : ∃ z, z = h0.size := ⟨_, rfl⟩
  rw [← g1] at A1 st1
  refine oOn st1 ?_
  have z2 : h0.size ≤ h1.size := E1.1
  have lt1 : a1 < h1.size := A1.lt
  have V1 : oAI Z h1 a1 .int 2 (fun _ => 0) := oAI.new A1 rfl
  show oGl p e below (T1.setTop (mkF m 14 #[.val (.ref v), .val (.ref d), .val (.int (2 : Int32)), .val (.int (5 : Int32)), .val (.int (32 : Int32)), .val (.int (31 : Int32)), .unset, .unset, .unset, .unset, .unset, .unset] [(.ref a1)])) _
  refine sastore X1 hx (hb hby d8_14) rfl rfl rfl (l' := #[.val (.ref v), .val (.ref d), .val (.int (2 : Int32)), .val (.int (5 : Int32)), .val (.int (32 : Int32)), .val (.int (31 : Int32)), .val (.ref a1), .unset, .unset, .unset, .unset, .unset]) (pc' := 16) ?_
  refine siconst X1 hx (hb hby d8_16) rfl rfl (z := 0) (pc' := 17) ?_
  refine sistore X1 hx (hb hby d8_17) rfl rfl (l' := #[.val (.ref v), .val (.ref d), .val (.int (2 : Int32)), .val (.int (5 : Int32)), .val (.int (32 : Int32)), .val (.int (31 : Int32)), .val (.ref a1), .val (.int (0 : Int32)), .unset, .unset, .unset, .unset]) (pc' := 19) ?_
  refine siload X1 hx (hb hby d8_19) rfl rfl (pc' := 21) ?_
  refine siloadN X1 hx (hb hby d8_21) rfl rfl (pc' := 22) ?_
  refine sicN X1 hx (hb hby d8_22) rfl (tlt (by decide : (0 : Int32) < (2 : Int32))).2.1 (pc' := 25) ?_
  refine saloadN X1 hx (hb hby d8_25) rfl rfl rfl (pc' := 26) ?_
  refine siload X1 hx (hb hby d8_26) rfl rfl (pc' := 28) ?_
  have f3 := (VD.ext E1)
  refine oOn (f3.ldS X1 hx hZ e1 (j := (0 : Int32)) (by decide) (g := (mkF m 28 #[.val (.ref v), .val (.ref d), .val (.int (2 : Int32)), .val (.int (5 : Int32)), .val (.int (32 : Int32)), .val (.int (31 : Int32)), .val (.ref a1), .val (.int (0 : Int32)), .unset, .unset, .unset, .unset] [(.int (0 : Int32)), (.ref d)])) rfl rfl (hb hby d8_28)) ?_
  show oGl p e below (T1.setTop (mkF m 29 #[.val (.ref v), .val (.ref d), .val (.int (2 : Int32)), .val (.int (5 : Int32)), .val (.int (32 : Int32)), .val (.int (31 : Int32)), .val (.ref a1), .val (.int (0 : Int32)), .unset, .unset, .unset, .unset] [(.int (3 : Int32))])) _
  refine siconst X1 hx (hb hby d8_29) rfl rfl (z := -1) (pc' := 30) ?_
  refine sicY X1 hx (hb hby d8_30) (by decide) (by decide) (feq (by decide : ¬ ((3 : Int32) = (-1 : Int32)))).2 (pc' := 55) ?_
  refine saload X1 hx (hb hby d8_55) rfl rfl rfl (pc' := 57) ?_
  refine siload X1 hx (hb hby d8_57) rfl rfl (pc' := 59) ?_
  refine saloadN X1 hx (hb hby d8_59) rfl rfl rfl (pc' := 60) ?_
  refine siload X1 hx (hb hby d8_60) rfl rfl (pc' := 62) ?_
  refine oOn (f3.ldS X1 hx hZ e1 (j := (0 : Int32)) (by decide) (g := (mkF m 62 #[.val (.ref v), .val (.ref d), .val (.int (2 : Int32)), .val (.int (5 : Int32)), .val (.int (32 : Int32)), .val (.int (31 : Int32)), .val (.ref a1), .val (.int (0 : Int32)), .unset, .unset, .unset, .unset] [(.int (0 : Int32)), (.ref d), (.int (0 : Int32)), (.ref a1)])) rfl rfl (hb hby d8_62)) ?_
  show oGl p e below (T1.setTop (mkF m 63 #[.val (.ref v), .val (.ref d), .val (.int (2 : Int32)), .val (.int (5 : Int32)), .val (.int (32 : Int32)), .val (.int (31 : Int32)), .val (.ref a1), .val (.int (0 : Int32)), .unset, .unset, .unset, .unset] [(.int (3 : Int32)), (.int (0 : Int32)), (.ref a1)])) _
  obtain ⟨T4, h4, X4, e4, W4, V4, st4⟩ := V1.stI X1 hx hZ e1 (j := (0 : Int32)) (by decide) (g := (mkF m 63 #[.val (.ref v), .val (.ref d), .val (.int (2 : Int32)), .val (.int (5 : Int32)), .val (.int (32 : Int32)), .val (.int (31 : Int32)), .val (.ref a1), .val (.int (0 : Int32)), .unset, .unset, .unset, .unset] [(.int (3 : Int32)), (.int (0 : Int32)), (.ref a1)])) rfl rfl (hb hby d8_63)
  refine oOn st4 ?_
  have z5 : h1.size ≤ h4.size := Nat.le_of_eq W4.size.symm
  have N4 := Fr.snoc X4 N0 (by omega)
  show oGl p e below (T4.setTop (mkF m 64 #[.val (.ref v), .val (.ref d), .val (.int (2 : Int32)), .val (.int (5 : Int32)), .val (.int (32 : Int32)), .val (.int (31 : Int32)), .val (.ref a1), .val (.int (0 : Int32)), .unset, .unset, .unset, .unset] [])) _
  refine siinc X4 hx (hb hby d8_64) rfl rfl rfl (l' := #[.val (.ref v), .val (.ref d), .val (.int (2 : Int32)), .val (.int (5 : Int32)), .val (.int (32 : Int32)), .val (.int (31 : Int32)), .val (.ref a1), .val (.int (1 : Int32)), .unset, .unset, .unset, .unset]) (pc' := 67) ?_
  refine sgoto X4 hx (hb hby d8_67) (by decide) (by decide)  (pc' := 19) ?_
  refine siload X4 hx (hb hby d8_19) rfl rfl (pc' := 21) ?_
  refine siloadN X4 hx (hb hby d8_21) rfl rfl (pc' := 22) ?_
  refine sicN X4 hx (hb hby d8_22) rfl (tlt (by decide : (1 : Int32) < (2 : Int32))).2.1 (pc' := 25) ?_
  refine saloadN X4 hx (hb hby d8_25) rfl rfl rfl (pc' := 26) ?_
  refine siload X4 hx (hb hby d8_26) rfl rfl (pc' := 28) ?_
  have f6 := (f3.other W4 (oNe (by omega)))
  refine oOn (f6.ldS X4 hx hZ e4 (j := (1 : Int32)) (by decide) (g := (mkF m 28 #[.val (.ref v), .val (.ref d), .val (.int (2 : Int32)), .val (.int (5 : Int32)), .val (.int (32 : Int32)), .val (.int (31 : Int32)), .val (.ref a1), .val (.int (1 : Int32)), .unset, .unset, .unset, .unset] [(.int (1 : Int32)), (.ref d)])) rfl rfl (hb hby d8_28)) ?_
  show oGl p e below (T4.setTop (mkF m 29 #[.val (.ref v), .val (.ref d), .val (.int (2 : Int32)), .val (.int (5 : Int32)), .val (.int (32 : Int32)), .val (.int (31 : Int32)), .val (.ref a1), .val (.int (1 : Int32)), .unset, .unset, .unset, .unset] [(.int (29 : Int32))])) _
  refine siconst X4 hx (hb hby d8_29) rfl rfl (z := -1) (pc' := 30) ?_
  refine sicY X4 hx (hb hby d8_30) (by decide) (by decide) (feq (by decide : ¬ ((29 : Int32) = (-1 : Int32)))).2 (pc' := 55) ?_
  refine saload X4 hx (hb hby d8_55) rfl rfl rfl (pc' := 57) ?_
  refine siload X4 hx (hb hby d8_57) rfl rfl (pc' := 59) ?_
  refine saloadN X4 hx (hb hby d8_59) rfl rfl rfl (pc' := 60) ?_
  refine siload X4 hx (hb hby d8_60) rfl rfl (pc' := 62) ?_
  refine oOn (f6.ldS X4 hx hZ e4 (j := (1 : Int32)) (by decide) (g := (mkF m 62 #[.val (.ref v), .val (.ref d), .val (.int (2 : Int32)), .val (.int (5 : Int32)), .val (.int (32 : Int32)), .val (.int (31 : Int32)), .val (.ref a1), .val (.int (1 : Int32)), .unset, .unset, .unset, .unset] [(.int (1 : Int32)), (.ref d), (.int (1 : Int32)), (.ref a1)])) rfl rfl (hb hby d8_62)) ?_
  show oGl p e below (T4.setTop (mkF m 63 #[.val (.ref v), .val (.ref d), .val (.int (2 : Int32)), .val (.int (5 : Int32)), .val (.int (32 : Int32)), .val (.int (31 : Int32)), .val (.ref a1), .val (.int (1 : Int32)), .unset, .unset, .unset, .unset] [(.int (29 : Int32)), (.int (1 : Int32)), (.ref a1)])) _
  obtain ⟨T7, h7, X7, e7, W7, V7, st7⟩ := V4.stI X4 hx hZ e4 (j := (1 : Int32)) (by decide) (g := (mkF m 63 #[.val (.ref v), .val (.ref d), .val (.int (2 : Int32)), .val (.int (5 : Int32)), .val (.int (32 : Int32)), .val (.int (31 : Int32)), .val (.ref a1), .val (.int (1 : Int32)), .unset, .unset, .unset, .unset] [(.int (29 : Int32)), (.int (1 : Int32)), (.ref a1)])) rfl rfl (hb hby d8_63)
  refine oOn st7 ?_
  have z8 : h4.size ≤ h7.size := Nat.le_of_eq W7.size.symm
  have N7 := Fr.snoc X7 N4 (by omega)
  show oGl p e below (T7.setTop (mkF m 64 #[.val (.ref v), .val (.ref d), .val (.int (2 : Int32)), .val (.int (5 : Int32)), .val (.int (32 : Int32)), .val (.int (31 : Int32)), .val (.ref a1), .val (.int (1 : Int32)), .unset, .unset, .unset, .unset] [])) _
  refine siinc X7 hx (hb hby d8_64) rfl rfl rfl (l' := #[.val (.ref v), .val (.ref d), .val (.int (2 : Int32)), .val (.int (5 : Int32)), .val (.int (32 : Int32)), .val (.int (31 : Int32)), .val (.ref a1), .val (.int (2 : Int32)), .unset, .unset, .unset, .unset]) (pc' := 67) ?_
  refine sgoto X7 hx (hb hby d8_67) (by decide) (by decide)  (pc' := 19) ?_
  refine siload X7 hx (hb hby d8_19) rfl rfl (pc' := 21) ?_
  refine siloadN X7 hx (hb hby d8_21) rfl rfl (pc' := 22) ?_
  refine sicY X7 hx (hb hby d8_22) (by decide) (by decide) (flt (by decide : ¬ ((2 : Int32) < (2 : Int32)))).2.1 (pc' := 70) ?_
  refine siload X7 hx (hb hby d8_70) rfl rfl (pc' := 72) ?_
  refine siconst X7 hx (hb hby d8_72) rfl rfl (z := 1) (pc' := 73) ?_
  refine siushr X7 hx (hb hby d8_73) rfl (by decide) (z := (16 : Int32)) (pc' := 74) ?_
  refine siload X7 hx (hb hby d8_74) rfl rfl (pc' := 76) ?_
  refine siconst X7 hx (hb hby d8_76) rfl rfl (z := 3) (pc' := 77) ?_
  refine siushr X7 hx (hb hby d8_77) rfl (by decide) (z := (4 : Int32)) (pc' := 78) ?_
  refine siadd X7 hx (hb hby d8_78) rfl (by decide) (z := (20 : Int32)) (pc' := 79) ?_
  refine siconst X7 hx (hb hby d8_79) rfl rfl (z := 3) (pc' := 80) ?_
  refine siadd X7 hx (hb hby d8_80) rfl (by decide) (z := (23 : Int32)) (pc' := 81) ?_
  refine sistore X7 hx (hb hby d8_81) rfl rfl (l' := #[.val (.ref v), .val (.ref d), .val (.int (2 : Int32)), .val (.int (5 : Int32)), .val (.int (32 : Int32)), .val (.int (31 : Int32)), .val (.ref a1), .val (.int (23 : Int32)), .unset, .unset, .unset, .unset]) (pc' := 83) ?_
  refine siconst X7 hx (hb hby d8_83) rfl rfl (z := 0) (pc' := 84) ?_
  refine sistore X7 hx (hb hby d8_84) rfl rfl (l' := #[.val (.ref v), .val (.ref d), .val (.int (2 : Int32)), .val (.int (5 : Int32)), .val (.int (32 : Int32)), .val (.int (31 : Int32)), .val (.ref a1), .val (.int (23 : Int32)), .val (.int (0 : Int32)), .unset, .unset, .unset]) (pc' := 86) ?_
  refine siconst X7 hx (hb hby d8_86) rfl rfl (z := 0) (pc' := 87) ?_
  refine sistore X7 hx (hb hby d8_87) rfl rfl (l' := #[.val (.ref v), .val (.ref d), .val (.int (2 : Int32)), .val (.int (5 : Int32)), .val (.int (32 : Int32)), .val (.int (31 : Int32)), .val (.ref a1), .val (.int (23 : Int32)), .val (.int (0 : Int32)), .val (.int (0 : Int32)), .unset, .unset]) (pc' := 89) ?_
  refine siload X7 hx (hb hby d8_89) rfl rfl (pc' := 91) ?_
  refine siloadN X7 hx (hb hby d8_91) rfl rfl (pc' := 92) ?_
  refine sicN X7 hx (hb hby d8_92) rfl (tlt (by decide : (0 : Int32) < (2 : Int32))).2.1 (pc' := 95) ?_
  refine siconst X7 hx (hb hby d8_95) rfl rfl (z := 0) (pc' := 96) ?_
  refine sistore X7 hx (hb hby d8_96) rfl rfl (l' := #[.val (.ref v), .val (.ref d), .val (.int (2 : Int32)), .val (.int (5 : Int32)), .val (.int (32 : Int32)), .val (.int (31 : Int32)), .val (.ref a1), .val (.int (23 : Int32)), .val (.int (0 : Int32)), .val (.int (0 : Int32)), .val (.int (0 : Int32)), .unset]) (pc' := 98) ?_
  have lp98_0 : ∀ (kF : Nat) (sh st : Int32) (fs : Nat → Int32) (T : State) (locs : List Loc) (X : Stand p l e ({ frames := 1, cells := 1, slots := 2, locals := 15 } : Room) s m #[(.ref v), (.ref d), (.int (2 : Int32)), (.int (5 : Int32))] below meth c T locs 1 2) (hh : Heap) (eT : T.heap = hh) (N : Fr n0 locs) (hzh : n0 ≤ hh.size) (Kp : Keep h0 hh [v, sa, ba, la]) (fa0 : Exa Z hh v "com/example/moraine/moraine/compression/FseTable") (fa1 : Fld Z hh v "com/example/moraine/moraine/compression/FseTable" "symbols" "[B" (.ref sa)) (fa2 : Fld Z hh v "com/example/moraine/moraine/compression/FseTable" "bits" "[B" (.ref ba)) (fa3 : Fld Z hh v "com/example/moraine/moraine/compression/FseTable" "baselines" "[S" (.ref la)) (fa4 : Fld Z hh v "com/example/moraine/moraine/compression/FseTable" "log" "I" (.int lg)) (fa5 : oAI Z hh sa .byte Nn fs) (fa6 : oAI Z hh ba .byte Nn fb) (fa7 : oAI Z hh la .short Nn fl) (fa8 : oAI Z hh d .short 2 (oUp (oUp (fun _ => 0) 0 3) 1 29)) (fa9 : oAI Z hh a1 .int 2 (oUp (oUp (fun _ => 0) 0 (3 : Int32)) 1 (29 : Int32))) (hm : (3 - sh.toInt.toNat) < kF) (hi : 0 ≤ sh.toInt ∧ sh.toInt ≤ 3 ∧ 0 ≤ st.toInt ∧ st.toInt < 32 ∧ ∀ j, fs j = 0 ∨ fs j = 1), oGl p e below (T.setTop (mkF m 98 #[.val (.ref v), .val (.ref d), .val (.int (2 : Int32)), .val (.int (5 : Int32)), .val (.int (32 : Int32)), .val (.int (31 : Int32)), .val (.ref a1), .val (.int (23 : Int32)), .val (.int st), .val (.int (0 : Int32)), .val (.int sh), .unset] [])) (oFin s below (Q_rmBuild Z v sa ba la d Nn lg fs fb fl h0 n0) ({ frames := 1, cells := 1, slots := 2, locals := 15 } : Room).cells ({ frames := 1, cells := 1, slots := 2, locals := 15 } : Room).slots) := by
    intro kF
    induction kF with
    | zero => intro sh st fs T locs X hh eT N hzh Kp fa0 fa1 fa2 fa3 fa4 fa5 fa6 fa7 fa8 fa9 hm hi; exact absurd hm (Nat.not_lt_zero _)
    | succ kF ih =>
      intro sh st fs T locs X hh eT N hzh Kp fa0 fa1 fa2 fa3 fa4 fa5 fa6 fa7 fa8 fa9 hm hi
      have lfa0 : @LT.lt Nat _ v hh.size := fa0.lt
      have lfa1 : @LT.lt Nat _ v hh.size := fa1.lt
      have lfa2 : @LT.lt Nat _ v hh.size := fa2.lt
      have lfa3 : @LT.lt Nat _ v hh.size := fa3.lt
      have lfa4 : @LT.lt Nat _ v hh.size := fa4.lt
      have lfa5 : @LT.lt Nat _ sa hh.size := fa5.lt
      have lfa6 : @LT.lt Nat _ ba hh.size := fa6.lt
      have lfa7 : @LT.lt Nat _ la hh.size := fa7.lt
      have lfa8 : @LT.lt Nat _ d hh.size := fa8.lt
      have lfa9 : @LT.lt Nat _ a1 hh.size := fa9.lt
      refine siload X hx (hb hby d8_98) rfl rfl (pc' := 100) ?_
      refine saloadN X hx (hb hby d8_100) rfl rfl rfl (pc' := 101) ?_
      refine siload X hx (hb hby d8_101) rfl rfl (pc' := 103) ?_
      refine oOn (fa8.ldS X hx hZ eT (j := (0 : Int32)) (by decide) (g := (mkF m 103 #[.val (.ref v), .val (.ref d), .val (.int (2 : Int32)), .val (.int (5 : Int32)), .val (.int (32 : Int32)), .val (.int (31 : Int32)), .val (.ref a1), .val (.int (23 : Int32)), .val (.int st), .val (.int (0 : Int32)), .val (.int sh), .unset] [(.int (0 : Int32)), (.ref d), (.int sh)])) rfl rfl (hb hby d8_103)) ?_
      show oGl p e below (T.setTop (mkF m 104 #[.val (.ref v), .val (.ref d), .val (.int (2 : Int32)), .val (.int (5 : Int32)), .val (.int (32 : Int32)), .val (.int (31 : Int32)), .val (.ref a1), .val (.int (23 : Int32)), .val (.int st), .val (.int (0 : Int32)), .val (.int sh), .unset] [(.int (3 : Int32)), (.int sh)])) _
      by_cases hc104 : sh < (3 : Int32)
      · skip
        refine sicN X hx (hb hby d8_104) rfl (tlt hc104).2.1 (pc' := 107) ?_
        refine saloadN X hx (hb hby d8_107) rfl rfl rfl (pc' := 108) ?_
        obtain ⟨T9, X9, e9, st9⟩ := getF X hx hZ hown (host := "") (Or.inl (hw _ (List.mem_of_getElem? (i := 10) rfl))) Via.refl eT fa1 (g := (mkF m 108 #[.val (.ref v), .val (.ref d), .val (.int (2 : Int32)), .val (.int (5 : Int32)), .val (.int (32 : Int32)), .val (.int (31 : Int32)), .val (.ref a1), .val (.int (23 : Int32)), .val (.int st), .val (.int (0 : Int32)), .val (.int sh), .unset] [(.ref v)])) rfl rfl (hb hby d8_108)
        refine oOn st9 ?_
        show oGl p e below (T9.setTop (mkF m 111 #[.val (.ref v), .val (.ref d), .val (.int (2 : Int32)), .val (.int (5 : Int32)), .val (.int (32 : Int32)), .val (.int (31 : Int32)), .val (.ref a1), .val (.int (23 : Int32)), .val (.int st), .val (.int (0 : Int32)), .val (.int sh), .unset] [(.ref sa)])) _
        refine siload X9 hx (hb hby d8_111) rfl rfl (pc' := 113) ?_
        refine siload X9 hx (hb hby d8_113) rfl rfl (pc' := 115) ?_
        refine si2b X9 hx (hb hby d8_115) rfl (by decide) (z := (0 : Int32)) (pc' := 116) ?_
        obtain ⟨T10, h10, X10, e10, W10, V10, st10⟩ := fa5.stB X9 hx hZ e9 (j := st) (by omega) (g := (mkF m 116 #[.val (.ref v), .val (.ref d), .val (.int (2 : Int32)), .val (.int (5 : Int32)), .val (.int (32 : Int32)), .val (.int (31 : Int32)), .val (.ref a1), .val (.int (23 : Int32)), .val (.int st), .val (.int (0 : Int32)), .val (.int sh), .unset] [(.int (0 : Int32)), (.int st), (.ref sa)])) rfl rfl (hb hby d8_116)
        refine oOn st10 ?_
        have z11 : hh.size ≤ h10.size := Nat.le_of_eq W10.size.symm
        have N10 := Fr.snoc X10 N (by omega)
        show oGl p e below (T10.setTop (mkF m 117 #[.val (.ref v), .val (.ref d), .val (.int (2 : Int32)), .val (.int (5 : Int32)), .val (.int (32 : Int32)), .val (.int (31 : Int32)), .val (.ref a1), .val (.int (23 : Int32)), .val (.int st), .val (.int (0 : Int32)), .val (.int sh), .unset] [])) _
        refine siload X10 hx (hb hby d8_117) rfl rfl (pc' := 119) ?_
        refine siload X10 hx (hb hby d8_119) rfl rfl (pc' := 121) ?_
        refine siadd X10 hx (hb hby d8_121) rfl rfl (pc' := 122) ?_
        refine siload X10 hx (hb hby d8_122) rfl rfl (pc' := 124) ?_
        refine siconst X10 hx (hb hby d8_124) rfl rfl (z := 1) (pc' := 125) ?_
        refine sisub X10 hx (hb hby d8_125) rfl (by decide) (z := (31 : Int32)) (pc' := 126) ?_
        refine siand X10 hx (hb hby d8_126) rfl rfl (pc' := 127) ?_
        refine sistore X10 hx (hb hby d8_127) rfl rfl (l' := #[.val (.ref v), .val (.ref d), .val (.int (2 : Int32)), .val (.int (5 : Int32)), .val (.int (32 : Int32)), .val (.int (31 : Int32)), .val (.ref a1), .val (.int (23 : Int32)), .val (.int ((st + (23 : Int32)) &&& (31 : Int32))), .val (.int (0 : Int32)), .val (.int sh), .unset]) (pc' := 129) ?_
        refine siload X10 hx (hb hby d8_129) rfl rfl (pc' := 131) ?_
        refine siload X10 hx (hb hby d8_131) rfl rfl (pc' := 133) ?_
        refine sicN X10 hx (hb hby d8_133) rfl (flt (own_m31' _ : ¬ ((31 : Int32) < ((st + (23 : Int32)) &&& (31 : Int32))))).2.2.1 (pc' := 136) ?_
        refine siinc X10 hx (hb hby d8_136) rfl rfl rfl (l' := #[.val (.ref v), .val (.ref d), .val (.int (2 : Int32)), .val (.int (5 : Int32)), .val (.int (32 : Int32)), .val (.int (31 : Int32)), .val (.ref a1), .val (.int (23 : Int32)), .val (.int ((st + (23 : Int32)) &&& (31 : Int32))), .val (.int (0 : Int32)), .val (.int (sh + (1 : Int32))), .unset]) (pc' := 139) ?_
        refine sgoto X10 hx (hb hby d8_139) (by decide) (by decide)  (pc' := 98) ?_
        have hlt := Int32.lt_iff_toInt_lt.mp hc104
        have e9 : (3 : Int32).toInt = 3 := by decide
        have hs1 := own_inc (x := sh) (by omega)
        have hm := own_m31 (st + 23)
        have hzb : n0 ≤ h10.size := by omega
        have kp12 : Keep h0 h10 [v, sa, ba, la] := (Kp.wr W10 (Or.inl (List.mem_of_getElem? (i := 1) rfl)))
        have f13 := (fa0.wr W10)
        have f14 := (fa1.other W10 (Or.inl (oNe (by omega))))
        have f15 := (fa2.other W10 (Or.inl (oNe (by omega))))
        have f16 := (fa3.other W10 (Or.inl (oNe (by omega))))
        have f17 := (fa4.other W10 (Or.inl (oNe (by omega))))
        have f18 := (fa6.other W10 (oNe (by omega)))
        have f19 := (fa7.other W10 (oNe (by omega)))
        have f20 := (fa8.other W10 (oNe (by omega)))
        have f21 := (fa9.other W10 (oNe (by omega)))
        exact ih (sh + (1 : Int32)) ((st + (23 : Int32)) &&& (31 : Int32)) (oUp fs st.toInt.toNat (nar .byte (0 : Int32))) _ _ X10 _ e10 N10 hzb kp12 f13 f14 f15 f16 f17 V10 f18 f19 f20 f21 (by omega) ⟨by omega, by omega, by omega, by omega, oUp01 hi.2.2.2.2 (by decide)⟩
      · skip
        refine sicY X hx (hb hby d8_104) (by decide) (by decide) (flt hc104).2.1 (pc' := 142) ?_
        refine siinc X hx (hb hby d8_142) rfl rfl rfl (l' := #[.val (.ref v), .val (.ref d), .val (.int (2 : Int32)), .val (.int (5 : Int32)), .val (.int (32 : Int32)), .val (.int (31 : Int32)), .val (.ref a1), .val (.int (23 : Int32)), .val (.int st), .val (.int (1 : Int32)), .val (.int sh), .unset]) (pc' := 145) ?_
        refine sgoto X hx (hb hby d8_145) (by decide) (by decide)  (pc' := 89) ?_
        refine siload X hx (hb hby d8_89) rfl rfl (pc' := 91) ?_
        refine siloadN X hx (hb hby d8_91) rfl rfl (pc' := 92) ?_
        refine sicN X hx (hb hby d8_92) rfl (tlt (by decide : (1 : Int32) < (2 : Int32))).2.1 (pc' := 95) ?_
        refine siconst X hx (hb hby d8_95) rfl rfl (z := 0) (pc' := 96) ?_
        refine sistore X hx (hb hby d8_96) rfl rfl (l' := #[.val (.ref v), .val (.ref d), .val (.int (2 : Int32)), .val (.int (5 : Int32)), .val (.int (32 : Int32)), .val (.int (31 : Int32)), .val (.ref a1), .val (.int (23 : Int32)), .val (.int st), .val (.int (1 : Int32)), .val (.int (0 : Int32)), .unset]) (pc' := 98) ?_
        have lp98_1 : ∀ (kF : Nat) (sh st : Int32) (fs : Nat → Int32) (T : State) (locs : List Loc) (X : Stand p l e ({ frames := 1, cells := 1, slots := 2, locals := 15 } : Room) s m #[(.ref v), (.ref d), (.int (2 : Int32)), (.int (5 : Int32))] below meth c T locs 1 2) (hh : Heap) (eT : T.heap = hh) (N : Fr n0 locs) (hzh : n0 ≤ hh.size) (Kp : Keep h0 hh [v, sa, ba, la]) (fa0 : Exa Z hh v "com/example/moraine/moraine/compression/FseTable") (fa1 : Fld Z hh v "com/example/moraine/moraine/compression/FseTable" "symbols" "[B" (.ref sa)) (fa2 : Fld Z hh v "com/example/moraine/moraine/compression/FseTable" "bits" "[B" (.ref ba)) (fa3 : Fld Z hh v "com/example/moraine/moraine/compression/FseTable" "baselines" "[S" (.ref la)) (fa4 : Fld Z hh v "com/example/moraine/moraine/compression/FseTable" "log" "I" (.int lg)) (fa5 : oAI Z hh sa .byte Nn fs) (fa6 : oAI Z hh ba .byte Nn fb) (fa7 : oAI Z hh la .short Nn fl) (fa8 : oAI Z hh d .short 2 (oUp (oUp (fun _ => 0) 0 3) 1 29)) (fa9 : oAI Z hh a1 .int 2 (oUp (oUp (fun _ => 0) 0 (3 : Int32)) 1 (29 : Int32))) (hm : (29 - sh.toInt.toNat) < kF) (hi : 0 ≤ sh.toInt ∧ sh.toInt ≤ 29 ∧ 0 ≤ st.toInt ∧ st.toInt < 32 ∧ ∀ j, fs j = 0 ∨ fs j = 1), oGl p e below (T.setTop (mkF m 98 #[.val (.ref v), .val (.ref d), .val (.int (2 : Int32)), .val (.int (5 : Int32)), .val (.int (32 : Int32)), .val (.int (31 : Int32)), .val (.ref a1), .val (.int (23 : Int32)), .val (.int st), .val (.int (1 : Int32)), .val (.int sh), .unset] [])) (oFin s below (Q_rmBuild Z v sa ba la d Nn lg fs fb fl h0 n0) ({ frames := 1, cells := 1, slots := 2, locals := 15 } : Room).cells ({ frames := 1, cells := 1, slots := 2, locals := 15 } : Room).slots) := by
          intro kF
          induction kF with
          | zero => intro sh st fs T locs X hh eT N hzh Kp fa0 fa1 fa2 fa3 fa4 fa5 fa6 fa7 fa8 fa9 hm hi; exact absurd hm (Nat.not_lt_zero _)
          | succ kF ih =>
            intro sh st fs T locs X hh eT N hzh Kp fa0 fa1 fa2 fa3 fa4 fa5 fa6 fa7 fa8 fa9 hm hi
            have lfa0 : @LT.lt Nat _ v hh.size := fa0.lt
            have lfa1 : @LT.lt Nat _ v hh.size := fa1.lt
            have lfa2 : @LT.lt Nat _ v hh.size := fa2.lt
            have lfa3 : @LT.lt Nat _ v hh.size := fa3.lt
            have lfa4 : @LT.lt Nat _ v hh.size := fa4.lt
            have lfa5 : @LT.lt Nat _ sa hh.size := fa5.lt
            have lfa6 : @LT.lt Nat _ ba hh.size := fa6.lt
            have lfa7 : @LT.lt Nat _ la hh.size := fa7.lt
            have lfa8 : @LT.lt Nat _ d hh.size := fa8.lt
            have lfa9 : @LT.lt Nat _ a1 hh.size := fa9.lt
            refine siload X hx (hb hby d8_98) rfl rfl (pc' := 100) ?_
            refine saloadN X hx (hb hby d8_100) rfl rfl rfl (pc' := 101) ?_
            refine siload X hx (hb hby d8_101) rfl rfl (pc' := 103) ?_
            refine oOn (fa8.ldS X hx hZ eT (j := (1 : Int32)) (by decide) (g := (mkF m 103 #[.val (.ref v), .val (.ref d), .val (.int (2 : Int32)), .val (.int (5 : Int32)), .val (.int (32 : Int32)), .val (.int (31 : Int32)), .val (.ref a1), .val (.int (23 : Int32)), .val (.int st), .val (.int (1 : Int32)), .val (.int sh), .unset] [(.int (1 : Int32)), (.ref d), (.int sh)])) rfl rfl (hb hby d8_103)) ?_
            show oGl p e below (T.setTop (mkF m 104 #[.val (.ref v), .val (.ref d), .val (.int (2 : Int32)), .val (.int (5 : Int32)), .val (.int (32 : Int32)), .val (.int (31 : Int32)), .val (.ref a1), .val (.int (23 : Int32)), .val (.int st), .val (.int (1 : Int32)), .val (.int sh), .unset] [(.int (29 : Int32)), (.int sh)])) _
            by_cases hc104 : sh < (29 : Int32)
            · skip
              refine sicN X hx (hb hby d8_104) rfl (tlt hc104).2.1 (pc' := 107) ?_
              refine saloadN X hx (hb hby d8_107) rfl rfl rfl (pc' := 108) ?_
              obtain ⟨T22, X22, e22, st22⟩ := getF X hx hZ hown (host := "") (Or.inl (hw _ (List.mem_of_getElem? (i := 10) rfl))) Via.refl eT fa1 (g := (mkF m 108 #[.val (.ref v), .val (.ref d), .val (.int (2 : Int32)), .val (.int (5 : Int32)), .val (.int (32 : Int32)), .val (.int (31 : Int32)), .val (.ref a1), .val (.int (23 : Int32)), .val (.int st), .val (.int (1 : Int32)), .val (.int sh), .unset] [(.ref v)])) rfl rfl (hb hby d8_108)
              refine oOn st22 ?_
              show oGl p e below (T22.setTop (mkF m 111 #[.val (.ref v), .val (.ref d), .val (.int (2 : Int32)), .val (.int (5 : Int32)), .val (.int (32 : Int32)), .val (.int (31 : Int32)), .val (.ref a1), .val (.int (23 : Int32)), .val (.int st), .val (.int (1 : Int32)), .val (.int sh), .unset] [(.ref sa)])) _
              refine siload X22 hx (hb hby d8_111) rfl rfl (pc' := 113) ?_
              refine siload X22 hx (hb hby d8_113) rfl rfl (pc' := 115) ?_
              refine si2b X22 hx (hb hby d8_115) rfl (by decide) (z := (1 : Int32)) (pc' := 116) ?_
              obtain ⟨T23, h23, X23, e23, W23, V23, st23⟩ := fa5.stB X22 hx hZ e22 (j := st) (by omega) (g := (mkF m 116 #[.val (.ref v), .val (.ref d), .val (.int (2 : Int32)), .val (.int (5 : Int32)), .val (.int (32 : Int32)), .val (.int (31 : Int32)), .val (.ref a1), .val (.int (23 : Int32)), .val (.int st), .val (.int (1 : Int32)), .val (.int sh), .unset] [(.int (1 : Int32)), (.int st), (.ref sa)])) rfl rfl (hb hby d8_116)
              refine oOn st23 ?_
              have z24 : hh.size ≤ h23.size := Nat.le_of_eq W23.size.symm
              have N23 := Fr.snoc X23 N (by omega)
              show oGl p e below (T23.setTop (mkF m 117 #[.val (.ref v), .val (.ref d), .val (.int (2 : Int32)), .val (.int (5 : Int32)), .val (.int (32 : Int32)), .val (.int (31 : Int32)), .val (.ref a1), .val (.int (23 : Int32)), .val (.int st), .val (.int (1 : Int32)), .val (.int sh), .unset] [])) _
              refine siload X23 hx (hb hby d8_117) rfl rfl (pc' := 119) ?_
              refine siload X23 hx (hb hby d8_119) rfl rfl (pc' := 121) ?_
              refine siadd X23 hx (hb hby d8_121) rfl rfl (pc' := 122) ?_
              refine siload X23 hx (hb hby d8_122) rfl rfl (pc' := 124) ?_
              refine siconst X23 hx (hb hby d8_124) rfl rfl (z := 1) (pc' := 125) ?_
              refine sisub X23 hx (hb hby d8_125) rfl (by decide) (z := (31 : Int32)) (pc' := 126) ?_
              refine siand X23 hx (hb hby d8_126) rfl rfl (pc' := 127) ?_
              refine sistore X23 hx (hb hby d8_127) rfl rfl (l' := #[.val (.ref v), .val (.ref d), .val (.int (2 : Int32)), .val (.int (5 : Int32)), .val (.int (32 : Int32)), .val (.int (31 : Int32)), .val (.ref a1), .val (.int (23 : Int32)), .val (.int ((st + (23 : Int32)) &&& (31 : Int32))), .val (.int (1 : Int32)), .val (.int sh), .unset]) (pc' := 129) ?_
              refine siload X23 hx (hb hby d8_129) rfl rfl (pc' := 131) ?_
              refine siload X23 hx (hb hby d8_131) rfl rfl (pc' := 133) ?_
              refine sicN X23 hx (hb hby d8_133) rfl (flt (own_m31' _ : ¬ ((31 : Int32) < ((st + (23 : Int32)) &&& (31 : Int32))))).2.2.1 (pc' := 136) ?_
              refine siinc X23 hx (hb hby d8_136) rfl rfl rfl (l' := #[.val (.ref v), .val (.ref d), .val (.int (2 : Int32)), .val (.int (5 : Int32)), .val (.int (32 : Int32)), .val (.int (31 : Int32)), .val (.ref a1), .val (.int (23 : Int32)), .val (.int ((st + (23 : Int32)) &&& (31 : Int32))), .val (.int (1 : Int32)), .val (.int (sh + (1 : Int32))), .unset]) (pc' := 139) ?_
              refine sgoto X23 hx (hb hby d8_139) (by decide) (by decide)  (pc' := 98) ?_
              have hlt := Int32.lt_iff_toInt_lt.mp hc104
              have e9 : (29 : Int32).toInt = 29 := by decide
              have hs1 := own_inc (x := sh) (by omega)
              have hm := own_m31 (st + 23)
              have hzb : n0 ≤ h23.size := by omega
              have kp25 : Keep h0 h23 [v, sa, ba, la] := (Kp.wr W23 (Or.inl (List.mem_of_getElem? (i := 1) rfl)))
              have f26 := (fa0.wr W23)
              have f27 := (fa1.other W23 (Or.inl (oNe (by omega))))
              have f28 := (fa2.other W23 (Or.inl (oNe (by omega))))
              have f29 := (fa3.other W23 (Or.inl (oNe (by omega))))
              have f30 := (fa4.other W23 (Or.inl (oNe (by omega))))
              have f31 := (fa6.other W23 (oNe (by omega)))
              have f32 := (fa7.other W23 (oNe (by omega)))
              have f33 := (fa8.other W23 (oNe (by omega)))
              have f34 := (fa9.other W23 (oNe (by omega)))
              exact ih (sh + (1 : Int32)) ((st + (23 : Int32)) &&& (31 : Int32)) (oUp fs st.toInt.toNat (nar .byte (1 : Int32))) _ _ X23 _ e23 N23 hzb kp25 f26 f27 f28 f29 f30 V23 f31 f32 f33 f34 (by omega) ⟨by omega, by omega, by omega, by omega, oUp01 hi.2.2.2.2 (by decide)⟩
            · skip
              refine sicY X hx (hb hby d8_104) (by decide) (by decide) (flt hc104).2.1 (pc' := 142) ?_
              refine siinc X hx (hb hby d8_142) rfl rfl rfl (l' := #[.val (.ref v), .val (.ref d), .val (.int (2 : Int32)), .val (.int (5 : Int32)), .val (.int (32 : Int32)), .val (.int (31 : Int32)), .val (.ref a1), .val (.int (23 : Int32)), .val (.int st), .val (.int (2 : Int32)), .val (.int sh), .unset]) (pc' := 145) ?_
              refine sgoto X hx (hb hby d8_145) (by decide) (by decide)  (pc' := 89) ?_
              refine siload X hx (hb hby d8_89) rfl rfl (pc' := 91) ?_
              refine siloadN X hx (hb hby d8_91) rfl rfl (pc' := 92) ?_
              refine sicY X hx (hb hby d8_92) (by decide) (by decide) (flt (by decide : ¬ ((2 : Int32) < (2 : Int32)))).2.1 (pc' := 148) ?_
              refine siconst X hx (hb hby d8_148) rfl rfl (z := 0) (pc' := 149) ?_
              refine sistore X hx (hb hby d8_149) rfl rfl (l' := #[.val (.ref v), .val (.ref d), .val (.int (2 : Int32)), .val (.int (5 : Int32)), .val (.int (32 : Int32)), .val (.int (31 : Int32)), .val (.ref a1), .val (.int (23 : Int32)), .val (.int st), .val (.int (0 : Int32)), .val (.int sh), .unset]) (pc' := 151) ?_
              have hfz := hi.2.2.2.2
              have lp151 : ∀ (kF : Nat) (ea x10 : Int32) (o11 : Slot) (nf gb gl : Nat → Int32) (T : State) (locs : List Loc) (X : Stand p l e ({ frames := 1, cells := 1, slots := 2, locals := 15 } : Room) s m #[(.ref v), (.ref d), (.int (2 : Int32)), (.int (5 : Int32))] below meth c T locs 1 2) (hh : Heap) (eT : T.heap = hh) (N : Fr n0 locs) (hzh : n0 ≤ hh.size) (Kp : Keep h0 hh [v, sa, ba, la]) (fa0 : Exa Z hh v "com/example/moraine/moraine/compression/FseTable") (fa1 : Fld Z hh v "com/example/moraine/moraine/compression/FseTable" "symbols" "[B" (.ref sa)) (fa2 : Fld Z hh v "com/example/moraine/moraine/compression/FseTable" "bits" "[B" (.ref ba)) (fa3 : Fld Z hh v "com/example/moraine/moraine/compression/FseTable" "baselines" "[S" (.ref la)) (fa4 : Fld Z hh v "com/example/moraine/moraine/compression/FseTable" "log" "I" (.int lg)) (fa5 : oAI Z hh sa .byte Nn fs) (fa6 : oAI Z hh ba .byte Nn gb) (fa7 : oAI Z hh la .short Nn gl) (fa8 : oAI Z hh a1 .int 2 nf) (hm : (32 - ea.toInt.toNat) < kF) (hi : 0 ≤ ea.toInt ∧ ea.toInt ≤ 32 ∧ One o11), oGl p e below (T.setTop (mkF m 151 #[.val (.ref v), .val (.ref d), .val (.int (2 : Int32)), .val (.int (5 : Int32)), .val (.int (32 : Int32)), .val (.int (31 : Int32)), .val (.ref a1), .val (.int (23 : Int32)), .val (.int st), .val (.int ea), .val (.int x10), o11] [])) (oFin s below (Q_rmBuild Z v sa ba la d Nn lg fs fb fl h0 n0) ({ frames := 1, cells := 1, slots := 2, locals := 15 } : Room).cells ({ frames := 1, cells := 1, slots := 2, locals := 15 } : Room).slots) := by
                intro kF
                induction kF with
                | zero => intro ea x10 o11 nf gb gl T locs X hh eT N hzh Kp fa0 fa1 fa2 fa3 fa4 fa5 fa6 fa7 fa8 hm hi; exact absurd hm (Nat.not_lt_zero _)
                | succ kF ih =>
                  intro ea x10 o11 nf gb gl T locs X hh eT N hzh Kp fa0 fa1 fa2 fa3 fa4 fa5 fa6 fa7 fa8 hm hi
                  have lfa0 : @LT.lt Nat _ v hh.size := fa0.lt
                  have lfa1 : @LT.lt Nat _ v hh.size := fa1.lt
                  have lfa2 : @LT.lt Nat _ v hh.size := fa2.lt
                  have lfa3 : @LT.lt Nat _ v hh.size := fa3.lt
                  have lfa4 : @LT.lt Nat _ v hh.size := fa4.lt
                  have lfa5 : @LT.lt Nat _ sa hh.size := fa5.lt
                  have lfa6 : @LT.lt Nat _ ba hh.size := fa6.lt
                  have lfa7 : @LT.lt Nat _ la hh.size := fa7.lt
                  have lfa8 : @LT.lt Nat _ a1 hh.size := fa8.lt
                  refine siload X hx (hb hby d8_151) rfl rfl (pc' := 153) ?_
                  refine siload X hx (hb hby d8_153) rfl rfl (pc' := 155) ?_
                  by_cases hc155 : ea < (32 : Int32)
                  · skip
                    refine sicN X hx (hb hby d8_155) rfl (tlt hc155).2.1 (pc' := 158) ?_
                    refine saload X hx (hb hby d8_158) rfl rfl rfl (pc' := 160) ?_
                    refine saloadN X hx (hb hby d8_160) rfl rfl rfl (pc' := 161) ?_
                    obtain ⟨T35, X35, e35, st35⟩ := getF X hx hZ hown (host := "") (Or.inl (hw _ (List.mem_of_getElem? (i := 10) rfl))) Via.refl eT fa1 (g := (mkF m 161 #[.val (.ref v), .val (.ref d), .val (.int (2 : Int32)), .val (.int (5 : Int32)), .val (.int (32 : Int32)), .val (.int (31 : Int32)), .val (.ref a1), .val (.int (23 : Int32)), .val (.int st), .val (.int ea), .val (.int x10), o11] [(.ref v), (.ref a1)])) rfl rfl (hb hby d8_161)
                    refine oOn st35 ?_
                    show oGl p e below (T35.setTop (mkF m 164 #[.val (.ref v), .val (.ref d), .val (.int (2 : Int32)), .val (.int (5 : Int32)), .val (.int (32 : Int32)), .val (.int (31 : Int32)), .val (.ref a1), .val (.int (23 : Int32)), .val (.int st), .val (.int ea), .val (.int x10), o11] [(.ref sa), (.ref a1)])) _
                    refine siload X35 hx (hb hby d8_164) rfl rfl (pc' := 166) ?_
                    refine oOn (fa5.ldB X35 hx hZ e35 (j := ea) (by have hlt := Int32.lt_iff_toInt_lt.mp hc155; have e9 : (32 : Int32).toInt = 32 := (by decide); omega) (g := (mkF m 166 #[.val (.ref v), .val (.ref d), .val (.int (2 : Int32)), .val (.int (5 : Int32)), .val (.int (32 : Int32)), .val (.int (31 : Int32)), .val (.ref a1), .val (.int (23 : Int32)), .val (.int st), .val (.int ea), .val (.int x10), o11] [(.int ea), (.ref sa), (.ref a1)])) rfl rfl (hb hby d8_166)) ?_
                    show oGl p e below (T35.setTop (mkF m 167 #[.val (.ref v), .val (.ref d), .val (.int (2 : Int32)), .val (.int (5 : Int32)), .val (.int (32 : Int32)), .val (.int (31 : Int32)), .val (.ref a1), .val (.int (23 : Int32)), .val (.int st), .val (.int ea), .val (.int x10), o11] [(.int (fs ea.toInt.toNat)), (.ref a1)])) _
                    refine ssipush X35 hx (hb hby d8_167) rfl rfl (z := 255) (pc' := 170) ?_
                    refine siand X35 hx (hb hby d8_170) rfl rfl (pc' := 171) ?_
                    refine sdup2 X35 hx (hb hby d8_171) rfl rfl rfl (pc' := 172) ?_
                    refine oOn (fa8.ldI X35 hx hZ e35 (j := ((fs ea.toInt.toNat) &&& (255 : Int32))) (own_bit (hfz _)) (g := (mkF m 172 #[.val (.ref v), .val (.ref d), .val (.int (2 : Int32)), .val (.int (5 : Int32)), .val (.int (32 : Int32)), .val (.int (31 : Int32)), .val (.ref a1), .val (.int (23 : Int32)), .val (.int st), .val (.int ea), .val (.int x10), o11] [(.int ((fs ea.toInt.toNat) &&& (255 : Int32))), (.ref a1), (.int ((fs ea.toInt.toNat) &&& (255 : Int32))), (.ref a1)])) rfl rfl (hb hby d8_172)) ?_
                    show oGl p e below (T35.setTop (mkF m 173 #[.val (.ref v), .val (.ref d), .val (.int (2 : Int32)), .val (.int (5 : Int32)), .val (.int (32 : Int32)), .val (.int (31 : Int32)), .val (.ref a1), .val (.int (23 : Int32)), .val (.int st), .val (.int ea), .val (.int x10), o11] [(.int (nf ((fs ea.toInt.toNat) &&& (255 : Int32)).toInt.toNat)), (.int ((fs ea.toInt.toNat) &&& (255 : Int32))), (.ref a1)])) _
                    refine sdup_x2 X35 hx (hb hby d8_173) rfl rfl rfl rfl (pc' := 174) ?_
                    refine siconst X35 hx (hb hby d8_174) rfl rfl (z := 1) (pc' := 175) ?_
                    refine siadd X35 hx (hb hby d8_175) rfl rfl (pc' := 176) ?_
                    obtain ⟨T36, h36, X36, e36, W36, V36, st36⟩ := fa8.stI X35 hx hZ e35 (j := ((fs ea.toInt.toNat) &&& (255 : Int32))) (own_bit (hfz _)) (g := (mkF m 176 #[.val (.ref v), .val (.ref d), .val (.int (2 : Int32)), .val (.int (5 : Int32)), .val (.int (32 : Int32)), .val (.int (31 : Int32)), .val (.ref a1), .val (.int (23 : Int32)), .val (.int st), .val (.int ea), .val (.int x10), o11] [(.int ((nf ((fs ea.toInt.toNat) &&& (255 : Int32)).toInt.toNat) + (1 : Int32))), (.int ((fs ea.toInt.toNat) &&& (255 : Int32))), (.ref a1), (.int (nf ((fs ea.toInt.toNat) &&& (255 : Int32)).toInt.toNat))])) rfl rfl (hb hby d8_176)
                    refine oOn st36 ?_
                    have z37 : hh.size ≤ h36.size := Nat.le_of_eq W36.size.symm
                    have N36 := Fr.snoc X36 N (by omega)
                    show oGl p e below (T36.setTop (mkF m 177 #[.val (.ref v), .val (.ref d), .val (.int (2 : Int32)), .val (.int (5 : Int32)), .val (.int (32 : Int32)), .val (.int (31 : Int32)), .val (.ref a1), .val (.int (23 : Int32)), .val (.int st), .val (.int ea), .val (.int x10), o11] [(.int (nf ((fs ea.toInt.toNat) &&& (255 : Int32)).toInt.toNat))])) _
                    refine sistore X36 hx (hb hby d8_177) rfl rfl (l' := #[.val (.ref v), .val (.ref d), .val (.int (2 : Int32)), .val (.int (5 : Int32)), .val (.int (32 : Int32)), .val (.int (31 : Int32)), .val (.ref a1), .val (.int (23 : Int32)), .val (.int st), .val (.int ea), .val (.int (nf ((fs ea.toInt.toNat) &&& (255 : Int32)).toInt.toNat)), o11]) (pc' := 179) ?_
                    refine siloadN X36 hx (hb hby d8_179) rfl rfl (pc' := 180) ?_
                    refine sbipush X36 hx (hb hby d8_180) rfl rfl (z := 31) (pc' := 182) ?_
                    refine siload X36 hx (hb hby d8_182) rfl rfl (pc' := 184) ?_
                    have hz38 : n0 ≤ h36.size := by omega
                    obtain ⟨_, _, ⟨T38, L38, k38, n38⟩, -, X38, ⟨Lc38, hQ38, l38, y38, z38⟩, st38⟩ := Jvm.LawKit.callS X36 hx (y := (⟨"java/lang/Integer", "numberOfLeadingZeros", "(I)I"⟩ : MethodName)) hown (mvT hZ (hw _ (List.mem_of_getElem? (i := 42) rfl))) (mvT hZ (hw _ (List.mem_of_getElem? (i := 43) rfl))) (mvT hZ (hw _ (List.mem_of_getElem? (i := 27) rfl))) (mvT hZ (hw _ (List.mem_of_getElem? (i := 44) rfl))) (by decide) (backOf (W := 2) (rmNlz l Z a0 hw [] (nf ((fs ea.toInt.toNat) &&& (255 : Int32)).toInt.toNat) h36 n0 hz38 ) hZ (hw _ (List.mem_of_getElem? (i := 44) rfl)) (hw _ (List.mem_of_getElem? (i := 27) rfl)) (by decide) (by decide)) (g := (mkF m 184 #[.val (.ref v), .val (.ref d), .val (.int (2 : Int32)), .val (.int (5 : Int32)), .val (.int (32 : Int32)), .val (.int (31 : Int32)), .val (.ref a1), .val (.int (23 : Int32)), .val (.int st), .val (.int ea), .val (.int (nf ((fs ea.toInt.toNat) &&& (255 : Int32)).toInt.toNat)), o11] [(.int (nf ((fs ea.toInt.toNat) &&& (255 : Int32)).toInt.toNat)), (.int (31 : Int32)), (.int (5 : Int32))])) rfl (by rw [hml]; rfl) (argsL := [(.int (nf ((fs ea.toInt.toNat) &&& (255 : Int32)).toInt.toNat))]) (rest := [(.int (31 : Int32)), (.int (5 : Int32))]) (lenOf pd_0 rfl) rfl (by show 2 * 0 + _ ≤ _; exact Nat.le_of_eq rfl) (hb hby d8_184) (fun _ _ => ⟨rfl, e36, (by decide : 1 + 0 ≤ _), (by decide : 2 + 0 ≤ _)⟩)
                    dsimp only [Pt.U, Pt.locs, Pt.cells, Pt.slots] at X38 l38 y38 z38 st38 hQ38
                    subst l38 y38 z38
                    obtain ⟨r38, rfl, N38q, eh38⟩ := hQ38
                    have N38 := Fr.app N36 N38q
                    refine oOn st38 ?_
                    show oGl p e below (T38.setTop (mkF m 187 #[.val (.ref v), .val (.ref d), .val (.int (2 : Int32)), .val (.int (5 : Int32)), .val (.int (32 : Int32)), .val (.int (31 : Int32)), .val (.ref a1), .val (.int (23 : Int32)), .val (.int st), .val (.int ea), .val (.int (nf ((fs ea.toInt.toNat) &&& (255 : Int32)).toInt.toNat)), o11] [(.int r38), (.int (31 : Int32)), (.int (5 : Int32))])) _
                    refine sisub X38 hx (hb hby d8_187) rfl rfl (pc' := 188) ?_
                    refine sisub X38 hx (hb hby d8_188) rfl rfl (pc' := 189) ?_
                    refine sistore X38 hx (hb hby d8_189) rfl (oSto rfl hi.2.2 rfl) (l' := #[.val (.ref v), .val (.ref d), .val (.int (2 : Int32)), .val (.int (5 : Int32)), .val (.int (32 : Int32)), .val (.int (31 : Int32)), .val (.ref a1), .val (.int (23 : Int32)), .val (.int st), .val (.int ea), .val (.int (nf ((fs ea.toInt.toNat) &&& (255 : Int32)).toInt.toNat)), .val (.int ((5 : Int32) - ((31 : Int32) - r38)))]) (pc' := 191) ?_
                    refine saloadN X38 hx (hb hby d8_191) rfl rfl rfl (pc' := 192) ?_
                    have f40 := (fa2.other W36 (Or.inl (oNe (by omega))))
                    obtain ⟨T39, X39, e39, st39⟩ := getF X38 hx hZ hown (host := "") (Or.inl (hw _ (List.mem_of_getElem? (i := 12) rfl))) Via.refl eh38 f40 (g := (mkF m 192 #[.val (.ref v), .val (.ref d), .val (.int (2 : Int32)), .val (.int (5 : Int32)), .val (.int (32 : Int32)), .val (.int (31 : Int32)), .val (.ref a1), .val (.int (23 : Int32)), .val (.int st), .val (.int ea), .val (.int (nf ((fs ea.toInt.toNat) &&& (255 : Int32)).toInt.toNat)), .val (.int ((5 : Int32) - ((31 : Int32) - r38)))] [(.ref v)])) rfl rfl (hb hby d8_192)
                    refine oOn st39 ?_
                    show oGl p e below (T39.setTop (mkF m 195 #[.val (.ref v), .val (.ref d), .val (.int (2 : Int32)), .val (.int (5 : Int32)), .val (.int (32 : Int32)), .val (.int (31 : Int32)), .val (.ref a1), .val (.int (23 : Int32)), .val (.int st), .val (.int ea), .val (.int (nf ((fs ea.toInt.toNat) &&& (255 : Int32)).toInt.toNat)), .val (.int ((5 : Int32) - ((31 : Int32) - r38)))] [(.ref ba)])) _
                    refine siload X39 hx (hb hby d8_195) rfl rfl (pc' := 197) ?_
                    refine siload X39 hx (hb hby d8_197) rfl rfl (pc' := 199) ?_
                    refine si2b X39 hx (hb hby d8_199) rfl rfl (pc' := 200) ?_
                    have f41 := (fa6.other W36 (oNe (by omega)))
                    obtain ⟨T42, h42, X42, e42, W42, V42, st42⟩ := f41.stB X39 hx hZ e39 (j := ea) (by have hlt := Int32.lt_iff_toInt_lt.mp hc155; have e9 : (32 : Int32).toInt = 32 := (by decide); omega) (g := (mkF m 200 #[.val (.ref v), .val (.ref d), .val (.int (2 : Int32)), .val (.int (5 : Int32)), .val (.int (32 : Int32)), .val (.int (31 : Int32)), .val (.ref a1), .val (.int (23 : Int32)), .val (.int st), .val (.int ea), .val (.int (nf ((fs ea.toInt.toNat) &&& (255 : Int32)).toInt.toNat)), .val (.int ((5 : Int32) - ((31 : Int32) - r38)))] [(.int ((((5 : Int32) - ((31 : Int32) - r38))).toInt8.toInt32)), (.int ea), (.ref ba)])) rfl rfl (hb hby d8_200)
                    refine oOn st42 ?_
                    have z43 : h36.size ≤ h42.size := Nat.le_of_eq W42.size.symm
                    have N42 := Fr.snoc X42 N38 (by omega)
                    show oGl p e below (T42.setTop (mkF m 201 #[.val (.ref v), .val (.ref d), .val (.int (2 : Int32)), .val (.int (5 : Int32)), .val (.int (32 : Int32)), .val (.int (31 : Int32)), .val (.ref a1), .val (.int (23 : Int32)), .val (.int st), .val (.int ea), .val (.int (nf ((fs ea.toInt.toNat) &&& (255 : Int32)).toInt.toNat)), .val (.int ((5 : Int32) - ((31 : Int32) - r38)))] [])) _
                    refine saloadN X42 hx (hb hby d8_201) rfl rfl rfl (pc' := 202) ?_
                    have f45 := ((fa3.other W36 (Or.inl (oNe (by omega)))).other W42 (Or.inl (oNe (by omega))))
                    obtain ⟨T44, X44, e44, st44⟩ := getF X42 hx hZ hown (host := "") (Or.inl (hw _ (List.mem_of_getElem? (i := 15) rfl))) Via.refl e42 f45 (g := (mkF m 202 #[.val (.ref v), .val (.ref d), .val (.int (2 : Int32)), .val (.int (5 : Int32)), .val (.int (32 : Int32)), .val (.int (31 : Int32)), .val (.ref a1), .val (.int (23 : Int32)), .val (.int st), .val (.int ea), .val (.int (nf ((fs ea.toInt.toNat) &&& (255 : Int32)).toInt.toNat)), .val (.int ((5 : Int32) - ((31 : Int32) - r38)))] [(.ref v)])) rfl rfl (hb hby d8_202)
                    refine oOn st44 ?_
                    show oGl p e below (T44.setTop (mkF m 205 #[.val (.ref v), .val (.ref d), .val (.int (2 : Int32)), .val (.int (5 : Int32)), .val (.int (32 : Int32)), .val (.int (31 : Int32)), .val (.ref a1), .val (.int (23 : Int32)), .val (.int st), .val (.int ea), .val (.int (nf ((fs ea.toInt.toNat) &&& (255 : Int32)).toInt.toNat)), .val (.int ((5 : Int32) - ((31 : Int32) - r38)))] [(.ref la)])) _
                    refine siload X44 hx (hb hby d8_205) rfl rfl (pc' := 207) ?_
                    refine siload X44 hx (hb hby d8_207) rfl rfl (pc' := 209) ?_
                    refine siload X44 hx (hb hby d8_209) rfl rfl (pc' := 211) ?_
                    refine sishl X44 hx (hb hby d8_211) rfl rfl (pc' := 212) ?_
                    refine siload X44 hx (hb hby d8_212) rfl rfl (pc' := 214) ?_
                    refine sisub X44 hx (hb hby d8_214) rfl rfl (pc' := 215) ?_
                    refine si2s X44 hx (hb hby d8_215) rfl rfl (pc' := 216) ?_
                    have f46 := ((fa7.other W36 (oNe (by omega))).other W42 (oNe (by omega)))
                    obtain ⟨T47, h47, X47, e47, W47, V47, st47⟩ := f46.stS X44 hx hZ e44 (j := ea) (by have hlt := Int32.lt_iff_toInt_lt.mp hc155; have e9 : (32 : Int32).toInt = 32 := (by decide); omega) (g := (mkF m 216 #[.val (.ref v), .val (.ref d), .val (.int (2 : Int32)), .val (.int (5 : Int32)), .val (.int (32 : Int32)), .val (.int (31 : Int32)), .val (.ref a1), .val (.int (23 : Int32)), .val (.int st), .val (.int ea), .val (.int (nf ((fs ea.toInt.toNat) &&& (255 : Int32)).toInt.toNat)), .val (.int ((5 : Int32) - ((31 : Int32) - r38)))] [(.int (((((nf ((fs ea.toInt.toNat) &&& (255 : Int32)).toInt.toNat) <<< (((5 : Int32) - ((31 : Int32) - r38)) &&& 31)) - (32 : Int32))).toInt16.toInt32)), (.int ea), (.ref la)])) rfl rfl (hb hby d8_216)
                    refine oOn st47 ?_
                    have z48 : h42.size ≤ h47.size := Nat.le_of_eq W47.size.symm
                    have N47 := Fr.snoc X47 N42 (by omega)
                    show oGl p e below (T47.setTop (mkF m 217 #[.val (.ref v), .val (.ref d), .val (.int (2 : Int32)), .val (.int (5 : Int32)), .val (.int (32 : Int32)), .val (.int (31 : Int32)), .val (.ref a1), .val (.int (23 : Int32)), .val (.int st), .val (.int ea), .val (.int (nf ((fs ea.toInt.toNat) &&& (255 : Int32)).toInt.toNat)), .val (.int ((5 : Int32) - ((31 : Int32) - r38)))] [])) _
                    refine siinc X47 hx (hb hby d8_217) rfl rfl rfl (l' := #[.val (.ref v), .val (.ref d), .val (.int (2 : Int32)), .val (.int (5 : Int32)), .val (.int (32 : Int32)), .val (.int (31 : Int32)), .val (.ref a1), .val (.int (23 : Int32)), .val (.int st), .val (.int (ea + (1 : Int32))), .val (.int (nf ((fs ea.toInt.toNat) &&& (255 : Int32)).toInt.toNat)), .val (.int ((5 : Int32) - ((31 : Int32) - r38)))]) (pc' := 220) ?_
                    refine sgoto X47 hx (hb hby d8_220) (by decide) (by decide)  (pc' := 151) ?_
                    have hlt := Int32.lt_iff_toInt_lt.mp hc155
                    have e9 : (32 : Int32).toInt = 32 := by decide
                    have hs1 := own_inc (x := ea) (by omega)
                    have hzb : n0 ≤ h47.size := by omega
                    have kp49 : Keep h0 h47 [v, sa, ba, la] := (((Kp.wr W36 (Or.inr (by omega))).wr W42 (Or.inl (List.mem_of_getElem? (i := 2) rfl))).wr W47 (Or.inl (List.mem_of_getElem? (i := 3) rfl)))
                    have f50 := (((fa0.wr W36).wr W42).wr W47)
                    have f51 := (((fa1.other W36 (Or.inl (oNe (by omega)))).other W42 (Or.inl (oNe (by omega)))).other W47 (Or.inl (oNe (by omega))))
                    have f52 := ((f40.other W42 (Or.inl (oNe (by omega)))).other W47 (Or.inl (oNe (by omega))))
                    have f53 := (f45.other W47 (Or.inl (oNe (by omega))))
                    have f54 := (((fa4.other W36 (Or.inl (oNe (by omega)))).other W42 (Or.inl (oNe (by omega)))).other W47 (Or.inl (oNe (by omega))))
                    have f55 := (((fa5.other W36 (oNe (by omega))).other W42 (oNe (by omega))).other W47 (oNe (by omega)))
                    have f56 := (V42.other W47 (oNe (by omega)))
                    have f57 := ((V36.other W42 (oNe (by omega))).other W47 (oNe (by omega)))
                    exact ih (ea + (1 : Int32)) (nf ((fs ea.toInt.toNat) &&& (255 : Int32)).toInt.toNat) (.val (.int ((5 : Int32) - ((31 : Int32) - r38)))) (oUp nf ((fs ea.toInt.toNat) &&& (255 : Int32)).toInt.toNat ((nf ((fs ea.toInt.toNat) &&& (255 : Int32)).toInt.toNat) + (1 : Int32))) (oUp gb ea.toInt.toNat (nar .byte ((((5 : Int32) - ((31 : Int32) - r38))).toInt8.toInt32))) (oUp gl ea.toInt.toNat (nar .short (((((nf ((fs ea.toInt.toNat) &&& (255 : Int32)).toInt.toNat) <<< (((5 : Int32) - ((31 : Int32) - r38)) &&& 31)) - (32 : Int32))).toInt16.toInt32))) _ _ X47 _ e47 N47 hzb kp49 f50 f51 f52 f53 f54 f55 f56 V47 f57 (by omega) ⟨by omega, by omega, One.val rfl⟩
                  · skip
                    refine sicY X hx (hb hby d8_155) (by decide) (by decide) (flt hc155).2.1 (pc' := 223) ?_
                    refine saloadN X hx (hb hby d8_223) rfl rfl rfl (pc' := 224) ?_
                    refine siloadN X hx (hb hby d8_224) rfl rfl (pc' := 225) ?_
                    obtain ⟨T58, h58, X58, e58, W58, st58⟩ := putF X hx hZ hown (host := "") (Or.inl (hw _ (List.mem_of_getElem? (i := 45) rfl))) Via.refl eT fa4 fa0 (Or.inl (hw _ (List.mem_of_getElem? (i := 46) rfl))) (hw _ (List.mem_of_getElem? (i := 2) rfl)) (ty := .int) (by decide) rfl rfl (g := (mkF m 225 #[.val (.ref v), .val (.ref d), .val (.int (2 : Int32)), .val (.int (5 : Int32)), .val (.int (32 : Int32)), .val (.int (31 : Int32)), .val (.ref a1), .val (.int (23 : Int32)), .val (.int st), .val (.int ea), .val (.int x10), o11] [(.int (5 : Int32)), (.ref v)])) rfl rfl (hb hby d8_225)
                    refine oOn st58 ?_
                    have z59 : hh.size ≤ h58.size := Nat.le_of_eq W58.size.symm
                    have N58 := Fr.snoc X58 N (by omega)
                    have f58 := Fld.same W58 fa4
                    show oGl p e below (T58.setTop (mkF m 228 #[.val (.ref v), .val (.ref d), .val (.int (2 : Int32)), .val (.int (5 : Int32)), .val (.int (32 : Int32)), .val (.int (31 : Int32)), .val (.ref a1), .val (.int (23 : Int32)), .val (.int st), .val (.int ea), .val (.int x10), o11] [])) _
                    have kp60 : Keep h0 h58 [v, sa, ba, la] := (Kp.wr W58 (Or.inl (List.mem_of_getElem? (i := 0) rfl)))
                    have f61 := (fa0.wr W58)
                    have f62 := (fa1.other W58 (Or.inr (slot_ne (Or.inr (hw _ (List.mem_of_getElem? (i := 11) rfl))) (Or.inl (hw _ (List.mem_of_getElem? (i := 46) rfl))) (by decide) (t := (.array .byte)) (t' := .int) (by decide) (by decide))))
                    have f63 := (fa2.other W58 (Or.inr (slot_ne (Or.inr (hw _ (List.mem_of_getElem? (i := 13) rfl))) (Or.inl (hw _ (List.mem_of_getElem? (i := 46) rfl))) (by decide) (t := (.array .byte)) (t' := .int) (by decide) (by decide))))
                    have f64 := (fa3.other W58 (Or.inr (slot_ne (Or.inr (hw _ (List.mem_of_getElem? (i := 16) rfl))) (Or.inl (hw _ (List.mem_of_getElem? (i := 46) rfl))) (by decide) (t := (.array .short)) (t' := .int) (by decide) (by decide))))
                    have f65 := (fa5.other W58 (oNe (by omega)))
                    have f66 := (fa6.other W58 (oNe (by omega)))
                    have f67 := (fa7.other W58 (oNe (by omega)))
                    refine oRet0 X58 hx Bd.notSynchronized Bd.returns (hb hby d8_228) (by decide) (by decide) ?_
                    show Q_rmBuild Z v sa ba la d Nn lg fs fb fl h0 n0 _ T58.heap _
                    rw [e58]
                    exact ⟨fs, _, _, rfl, N58, kp60, f61, f62, f63, f64, f58, f65, f66, f67⟩
              have hzb : n0 ≤ hh.size := by omega
              have kp68 : Keep h0 hh [v, sa, ba, la] := Kp
              exact lp151 _ 0 sh .unset (oUp (oUp (fun _ => 0) 0 (3 : Int32)) 1 (29 : Int32)) fb fl _ _ X _ eT N hzb kp68 fa0 fa1 fa2 fa3 fa4 fa5 fa6 fa7 fa9 (Nat.lt_succ_self _) ⟨by decide, by decide, One.u⟩
        have hzb : n0 ≤ hh.size := by omega
        have kp69 : Keep h0 hh [v, sa, ba, la] := Kp
        exact lp98_1 _ 0 st fs _ _ X _ eT N hzb kp69 fa0 fa1 fa2 fa3 fa4 fa5 fa6 fa7 fa8 fa9 (Nat.lt_succ_self _) ⟨by decide, by decide, hi.2.2.1, hi.2.2.2.1, hi.2.2.2.2⟩
  have hzb : n0 ≤ h7.size := by omega
  have kp70 : Keep h0 h7 [v, sa, ba, la] := ((((Keep.refl h0 [v, sa, ba, la]).ext E1).wr W4 (Or.inr (by omega))).wr W7 (Or.inr (by omega)))
  have f71 := (((E0.ext E1).wr W4).wr W7)
  have f72 := (((F0.ext E1).other W4 (Or.inl (oNe (by omega)))).other W7 (Or.inl (oNe (by omega))))
  have f73 := (((F1.ext E1).other W4 (Or.inl (oNe (by omega)))).other W7 (Or.inl (oNe (by omega))))
  have f74 := (((F2.ext E1).other W4 (Or.inl (oNe (by omega)))).other W7 (Or.inl (oNe (by omega))))
  have f75 := (((F3.ext E1).other W4 (Or.inl (oNe (by omega)))).other W7 (Or.inl (oNe (by omega))))
  have f76 := (((PV0.ext E1).other W4 (oNe (by omega))).other W7 (oNe (by omega)))
  have f77 := (((PV1.ext E1).other W4 (oNe (by omega))).other W7 (oNe (by omega)))
  have f78 := (((PV2.ext E1).other W4 (oNe (by omega))).other W7 (oNe (by omega)))
  have f79 := (f6.other W7 (oNe (by omega)))
  exact lp98_0 _ 0 0 fs _ _ X7 _ e7 N7 hzb kp70 f71 f72 f73 f74 f75 f76 f77 f78 f79 V7 (Nat.lt_succ_self _) ⟨by decide, by decide, by decide, by decide, hfs⟩
theorem d3_0 : decode prog_7_method_9_code 0 = .ok (.iconst 0, 1) := by decide +kernel
theorem d3_1 : decode prog_7_method_9_code 1 = .ok (.istore 5, 2) := by decide +kernel
theorem d3_3 : decode prog_7_method_9_code 3 = .ok (.aload_n 1, 1) := by decide +kernel
theorem d3_4 : decode prog_7_method_9_code 4 = .ok (.iload_n 2, 1) := by decide +kernel
theorem d3_5 : decode prog_7_method_9_code 5 = .ok (.iload_n 3, 1) := by decide +kernel
theorem d3_6 : decode prog_7_method_9_code 6 = .ok (.iload 5, 2) := by decide +kernel
theorem d3_8 : decode prog_7_method_9_code 8 = .ok (.iconst 4, 1) := by decide +kernel
theorem d3_9 : decode prog_7_method_9_code 9 = .ok (.invokestatic 37, 3) := by decide +kernel
theorem pd_1 : parseMethodDescriptor "([BIIII)I" = some ⟨[(.array .byte), .int, .int, .int, .int], some .int⟩ := by decide +kernel
theorem d3_12 : decode prog_7_method_9_code 12 = .ok (.iconst 5, 1) := by decide +kernel
theorem d3_13 : decode prog_7_method_9_code 13 = .ok (.iadd, 1) := by decide +kernel
theorem d3_14 : decode prog_7_method_9_code 14 = .ok (.istore 6, 2) := by decide +kernel
theorem d3_16 : decode prog_7_method_9_code 16 = .ok (.iinc 5 4, 3) := by decide +kernel
theorem d3_19 : decode prog_7_method_9_code 19 = .ok (.aload_n 0, 1) := by decide +kernel
theorem d3_20 : decode prog_7_method_9_code 20 = .ok (.getfield 7, 3) := by decide +kernel
theorem d3_23 : decode prog_7_method_9_code 23 = .ok (.arraylength, 1) := by decide +kernel
theorem d3_24 : decode prog_7_method_9_code 24 = .ok (.invokestatic 41, 3) := by decide +kernel
theorem d3_27 : decode prog_7_method_9_code 27 = .ok (.istore 7, 2) := by decide +kernel
theorem d3_29 : decode prog_7_method_9_code 29 = .ok (.iload 6, 2) := by decide +kernel
theorem d3_31 : decode prog_7_method_9_code 31 = .ok (.iload 7, 2) := by decide +kernel
theorem d3_33 : decode prog_7_method_9_code 33 = .ok (.if_icmp .le 20, 3) := by decide +kernel
theorem d3_53 : decode prog_7_method_9_code 53 = .ok (.iload 4, 2) := by decide +kernel
theorem d3_55 : decode prog_7_method_9_code 55 = .ok (.iconst 1, 1) := by decide +kernel
theorem d3_56 : decode prog_7_method_9_code 56 = .ok (.iadd, 1) := by decide +kernel
theorem d3_57 : decode prog_7_method_9_code 57 = .ok (.newarray .short, 2) := by decide +kernel
theorem d3_59 : decode prog_7_method_9_code 59 = .ok (.astore 8, 2) := by decide +kernel
theorem d3_61 : decode prog_7_method_9_code 61 = .ok (.iconst 0, 1) := by decide +kernel
theorem d3_62 : decode prog_7_method_9_code 62 = .ok (.istore 9, 2) := by decide +kernel
theorem d3_64 : decode prog_7_method_9_code 64 = .ok (.iconst 1, 1) := by decide +kernel
theorem d3_65 : decode prog_7_method_9_code 65 = .ok (.iload 6, 2) := by decide +kernel
theorem d3_67 : decode prog_7_method_9_code 67 = .ok (.ishl, 1) := by decide +kernel
theorem d3_68 : decode prog_7_method_9_code 68 = .ok (.iconst 1, 1) := by decide +kernel
theorem d3_69 : decode prog_7_method_9_code 69 = .ok (.iadd, 1) := by decide +kernel
theorem d3_70 : decode prog_7_method_9_code 70 = .ok (.istore 10, 2) := by decide +kernel
theorem d3_72 : decode prog_7_method_9_code 72 = .ok (.iconst 1, 1) := by decide +kernel
theorem d3_73 : decode prog_7_method_9_code 73 = .ok (.iload 6, 2) := by decide +kernel
theorem d3_75 : decode prog_7_method_9_code 75 = .ok (.ishl, 1) := by decide +kernel
theorem d3_76 : decode prog_7_method_9_code 76 = .ok (.istore 11, 2) := by decide +kernel
theorem d3_78 : decode prog_7_method_9_code 78 = .ok (.iload 6, 2) := by decide +kernel
theorem d3_80 : decode prog_7_method_9_code 80 = .ok (.iconst 1, 1) := by decide +kernel
theorem d3_81 : decode prog_7_method_9_code 81 = .ok (.iadd, 1) := by decide +kernel
theorem d3_82 : decode prog_7_method_9_code 82 = .ok (.istore 12, 2) := by decide +kernel
theorem d3_84 : decode prog_7_method_9_code 84 = .ok (.iload 10, 2) := by decide +kernel
theorem d3_86 : decode prog_7_method_9_code 86 = .ok (.iconst 1, 1) := by decide +kernel
theorem d3_87 : decode prog_7_method_9_code 87 = .ok (.if_icmp .le 193, 3) := by decide +kernel
theorem d3_90 : decode prog_7_method_9_code 90 = .ok (.iload 9, 2) := by decide +kernel
theorem d3_92 : decode prog_7_method_9_code 92 = .ok (.iload 4, 2) := by decide +kernel
theorem d3_94 : decode prog_7_method_9_code 94 = .ok (.invokestatic 55, 3) := by decide +kernel
theorem pd_2 : parseMethodDescriptor "(II)V" = some ⟨[.int, .int], none⟩ := by decide +kernel
theorem d3_97 : decode prog_7_method_9_code 97 = .ok (.iconst 2, 1) := by decide +kernel
theorem d3_98 : decode prog_7_method_9_code 98 = .ok (.iload 11, 2) := by decide +kernel
theorem d3_100 : decode prog_7_method_9_code 100 = .ok (.imul, 1) := by decide +kernel
theorem d3_101 : decode prog_7_method_9_code 101 = .ok (.iconst 1, 1) := by decide +kernel
theorem d3_102 : decode prog_7_method_9_code 102 = .ok (.isub, 1) := by decide +kernel
theorem d3_103 : decode prog_7_method_9_code 103 = .ok (.iload 10, 2) := by decide +kernel
theorem d3_105 : decode prog_7_method_9_code 105 = .ok (.isub, 1) := by decide +kernel
theorem d3_106 : decode prog_7_method_9_code 106 = .ok (.istore 13, 2) := by decide +kernel
theorem d3_108 : decode prog_7_method_9_code 108 = .ok (.aload_n 1, 1) := by decide +kernel
theorem d3_109 : decode prog_7_method_9_code 109 = .ok (.iload_n 2, 1) := by decide +kernel
theorem d3_110 : decode prog_7_method_9_code 110 = .ok (.iload_n 3, 1) := by decide +kernel
theorem d3_111 : decode prog_7_method_9_code 111 = .ok (.iload 5, 2) := by decide +kernel
theorem d3_113 : decode prog_7_method_9_code 113 = .ok (.iload 12, 2) := by decide +kernel
theorem d3_115 : decode prog_7_method_9_code 115 = .ok (.invokestatic 37, 3) := by decide +kernel
theorem d3_118 : decode prog_7_method_9_code 118 = .ok (.istore 14, 2) := by decide +kernel
theorem d3_120 : decode prog_7_method_9_code 120 = .ok (.iload 14, 2) := by decide +kernel
theorem d3_122 : decode prog_7_method_9_code 122 = .ok (.iload 11, 2) := by decide +kernel
theorem d3_124 : decode prog_7_method_9_code 124 = .ok (.iconst 1, 1) := by decide +kernel
theorem d3_125 : decode prog_7_method_9_code 125 = .ok (.isub, 1) := by decide +kernel
theorem d3_126 : decode prog_7_method_9_code 126 = .ok (.iand, 1) := by decide +kernel
theorem d3_127 : decode prog_7_method_9_code 127 = .ok (.iload 13, 2) := by decide +kernel
theorem d3_129 : decode prog_7_method_9_code 129 = .ok (.if_icmp .ge 24, 3) := by decide +kernel
theorem d3_132 : decode prog_7_method_9_code 132 = .ok (.iload 14, 2) := by decide +kernel
theorem d3_134 : decode prog_7_method_9_code 134 = .ok (.iload 11, 2) := by decide +kernel
theorem d3_136 : decode prog_7_method_9_code 136 = .ok (.iconst 1, 1) := by decide +kernel
theorem d3_137 : decode prog_7_method_9_code 137 = .ok (.isub, 1) := by decide +kernel
theorem d3_138 : decode prog_7_method_9_code 138 = .ok (.iand, 1) := by decide +kernel
theorem d3_139 : decode prog_7_method_9_code 139 = .ok (.istore 14, 2) := by decide +kernel
theorem d3_141 : decode prog_7_method_9_code 141 = .ok (.iload 5, 2) := by decide +kernel
theorem d3_143 : decode prog_7_method_9_code 143 = .ok (.iload 12, 2) := by decide +kernel
theorem d3_145 : decode prog_7_method_9_code 145 = .ok (.iconst 1, 1) := by decide +kernel
theorem d3_146 : decode prog_7_method_9_code 146 = .ok (.isub, 1) := by decide +kernel
theorem d3_147 : decode prog_7_method_9_code 147 = .ok (.iadd, 1) := by decide +kernel
theorem d3_148 : decode prog_7_method_9_code 148 = .ok (.istore 5, 2) := by decide +kernel
theorem d3_150 : decode prog_7_method_9_code 150 = .ok (.goto 24, 3) := by decide +kernel
theorem d3_174 : decode prog_7_method_9_code 174 = .ok (.iload 14, 2) := by decide +kernel
theorem d3_176 : decode prog_7_method_9_code 176 = .ok (.iconst 1, 1) := by decide +kernel
theorem d3_177 : decode prog_7_method_9_code 177 = .ok (.isub, 1) := by decide +kernel
theorem d3_178 : decode prog_7_method_9_code 178 = .ok (.istore 15, 2) := by decide +kernel
theorem d3_180 : decode prog_7_method_9_code 180 = .ok (.aload 8, 2) := by decide +kernel
theorem d3_182 : decode prog_7_method_9_code 182 = .ok (.iload 9, 2) := by decide +kernel
theorem d3_184 : decode prog_7_method_9_code 184 = .ok (.iinc 9 1, 3) := by decide +kernel
theorem d3_187 : decode prog_7_method_9_code 187 = .ok (.iload 15, 2) := by decide +kernel
theorem d3_189 : decode prog_7_method_9_code 189 = .ok (.i2s, 1) := by decide +kernel
theorem d3_190 : decode prog_7_method_9_code 190 = .ok (.sastore, 1) := by decide +kernel
theorem d3_191 : decode prog_7_method_9_code 191 = .ok (.iload 10, 2) := by decide +kernel
theorem d3_193 : decode prog_7_method_9_code 193 = .ok (.iload 15, 2) := by decide +kernel
theorem d3_195 : decode prog_7_method_9_code 195 = .ok (.invokestatic 59, 3) := by decide +kernel
theorem d3_198 : decode prog_7_method_9_code 198 = .ok (.isub, 1) := by decide +kernel
theorem d3_199 : decode prog_7_method_9_code 199 = .ok (.istore 10, 2) := by decide +kernel
theorem d3_201 : decode prog_7_method_9_code 201 = .ok (.iload 15, 2) := by decide +kernel
theorem d3_203 : decode prog_7_method_9_code 203 = .ok (.ifCond .ne 55, 3) := by decide +kernel
theorem d3_258 : decode prog_7_method_9_code 258 = .ok (.iload 10, 2) := by decide +kernel
theorem d3_260 : decode prog_7_method_9_code 260 = .ok (.iload 11, 2) := by decide +kernel
theorem d3_262 : decode prog_7_method_9_code 262 = .ok (.if_icmp .ge 15, 3) := by decide +kernel
theorem d3_265 : decode prog_7_method_9_code 265 = .ok (.iinc 12 (-1), 3) := by decide +kernel
theorem d3_268 : decode prog_7_method_9_code 268 = .ok (.iload 11, 2) := by decide +kernel
theorem d3_270 : decode prog_7_method_9_code 270 = .ok (.iconst 1, 1) := by decide +kernel
theorem d3_271 : decode prog_7_method_9_code 271 = .ok (.ishr, 1) := by decide +kernel
theorem d3_272 : decode prog_7_method_9_code 272 = .ok (.istore 11, 2) := by decide +kernel
theorem d3_274 : decode prog_7_method_9_code 274 = .ok (.goto (-16), 3) := by decide +kernel
theorem d3_277 : decode prog_7_method_9_code 277 = .ok (.goto (-193), 3) := by decide +kernel
theorem d3_153 : decode prog_7_method_9_code 153 = .ok (.iload 14, 2) := by decide +kernel
theorem d3_155 : decode prog_7_method_9_code 155 = .ok (.iload 11, 2) := by decide +kernel
theorem d3_157 : decode prog_7_method_9_code 157 = .ok (.if_icmp .lt 10, 3) := by decide +kernel
theorem d3_160 : decode prog_7_method_9_code 160 = .ok (.iload 14, 2) := by decide +kernel
theorem d3_162 : decode prog_7_method_9_code 162 = .ok (.iload 13, 2) := by decide +kernel
theorem d3_164 : decode prog_7_method_9_code 164 = .ok (.isub, 1) := by decide +kernel
theorem d3_165 : decode prog_7_method_9_code 165 = .ok (.istore 14, 2) := by decide +kernel
theorem d3_167 : decode prog_7_method_9_code 167 = .ok (.iload 5, 2) := by decide +kernel
theorem d3_169 : decode prog_7_method_9_code 169 = .ok (.iload 12, 2) := by decide +kernel
theorem d3_171 : decode prog_7_method_9_code 171 = .ok (.iadd, 1) := by decide +kernel
theorem d3_172 : decode prog_7_method_9_code 172 = .ok (.istore 5, 2) := by decide +kernel
theorem d3_280 : decode prog_7_method_9_code 280 = .ok (.iload 5, 2) := by decide +kernel
theorem d3_282 : decode prog_7_method_9_code 282 = .ok (.bipush 8, 2) := by decide +kernel
theorem d3_284 : decode prog_7_method_9_code 284 = .ok (.iadd, 1) := by decide +kernel
theorem d3_285 : decode prog_7_method_9_code 285 = .ok (.iconst 1, 1) := by decide +kernel
theorem d3_286 : decode prog_7_method_9_code 286 = .ok (.isub, 1) := by decide +kernel
theorem d3_287 : decode prog_7_method_9_code 287 = .ok (.bipush 8, 2) := by decide +kernel
theorem d3_289 : decode prog_7_method_9_code 289 = .ok (.idiv, 1) := by decide +kernel
theorem d3_290 : decode prog_7_method_9_code 290 = .ok (.istore 13, 2) := by decide +kernel
theorem d3_292 : decode prog_7_method_9_code 292 = .ok (.iload 13, 2) := by decide +kernel
theorem d3_294 : decode prog_7_method_9_code 294 = .ok (.iload_n 3, 1) := by decide +kernel
theorem d3_295 : decode prog_7_method_9_code 295 = .ok (.iload_n 2, 1) := by decide +kernel
theorem d3_296 : decode prog_7_method_9_code 296 = .ok (.isub, 1) := by decide +kernel
theorem d3_297 : decode prog_7_method_9_code 297 = .ok (.if_icmp .le 13, 3) := by decide +kernel
theorem d3_310 : decode prog_7_method_9_code 310 = .ok (.aload_n 0, 1) := by decide +kernel
theorem d3_311 : decode prog_7_method_9_code 311 = .ok (.aload 8, 2) := by decide +kernel
theorem d3_313 : decode prog_7_method_9_code 313 = .ok (.iload 9, 2) := by decide +kernel
theorem d3_315 : decode prog_7_method_9_code 315 = .ok (.iload 6, 2) := by decide +kernel
theorem d3_317 : decode prog_7_method_9_code 317 = .ok (.invokevirtual 23, 3) := by decide +kernel
theorem pd_3 : parseMethodDescriptor "([SII)V" = some ⟨[(.array .short), .int, .int], none⟩ := by decide +kernel
theorem d3_320 : decode prog_7_method_9_code 320 = .ok (.iload 13, 2) := by decide +kernel
theorem d3_322 : decode prog_7_method_9_code 322 = .ok (.ireturn, 1) := by decide +kernel
theorem ef_rmRead32 (m : MethodId) (x0 : Nat) (x1 : Nat) (x2 : Int32) (x3 : Int32) (x4 : Int32)  : entryFrame m #[(.ref x0), (.ref x1), (.int x2), (.int x3), (.int x4)] 18 = mkF m 0 #[.val (.ref x0), .val (.ref x1), .val (.int x2), .val (.int x3), .val (.int x4), .unset, .unset, .unset, .unset, .unset, .unset, .unset, .unset, .unset, .unset, .unset, .unset, .unset] [] := by first | (simp [entryFrame, mkF, argsToLocals, Value.category, maxLocals]; done) | rfl
def Q_rmRead32 (Z : State) (v sa ba la : Nat) (i : Nat) (lg : Int32) (fb fl : Nat → Int32) (h0 : Heap) (n0 : Nat) (vv : Option Value) (h : Heap) (L : List Loc) : Prop := ∃ (r : Int32) (fs fb fl : Nat → Int32), vv = some (.int r) ∧ Fr n0 L ∧ Keep h0 h [v, sa, ba, la] ∧ Exa Z h v "com/example/moraine/moraine/compression/FseTable" ∧ Fld Z h v "com/example/moraine/moraine/compression/FseTable" "symbols" "[B" (.ref sa) ∧ Fld Z h v "com/example/moraine/moraine/compression/FseTable" "bits" "[B" (.ref ba) ∧ Fld Z h v "com/example/moraine/moraine/compression/FseTable" "baselines" "[S" (.ref la) ∧ Fld Z h v "com/example/moraine/moraine/compression/FseTable" "log" "I" (.int 5) ∧ oAI Z h sa .byte 32 fs ∧ oAI Z h ba .byte 32 fb ∧ oAI Z h la .short 32 fl
set_option maxRecDepth 65536 in
set_option maxHeartbeats 40000000 in
theorem rmRead32 (l : Launch) (Z : State) (a0 : Array Value) (hw : ∀ d ∈ tables_1, d.before a0 Z = true) (ws : List Jvm.Cond) (v sa ba la : Nat) (i : Nat) (lg : Int32) (fb fl : Nat → Int32) (h0 : Heap) (n0 : Nat) (Z0 : n0 ≤ h0.size) (E0 : Exa Z h0 v "com/example/moraine/moraine/compression/FseTable") (F0 : Fld Z h0 v "com/example/moraine/moraine/compression/FseTable" "symbols" "[B" (.ref sa)) (F1 : Fld Z h0 v "com/example/moraine/moraine/compression/FseTable" "bits" "[B" (.ref ba)) (F2 : Fld Z h0 v "com/example/moraine/moraine/compression/FseTable" "baselines" "[S" (.ref la)) (F3 : Fld Z h0 v "com/example/moraine/moraine/compression/FseTable" "log" "I" (.int lg)) (PV0 : oAI Z h0 sa .byte 32 (fun _ => 0)) (PV1 : oAI Z h0 ba .byte 32 fb) (PV2 : oAI Z h0 la .short 32 fl) (gv : n0 ≤ v) (gs : n0 ≤ sa) (gb : n0 ≤ ba) (gl : n0 ≤ la) (dd : v < sa ∧ sa < ba ∧ ba < la) (VI : oAI Z h0 i .byte 2 (oUp (oUp (fun _ => 0) 0 64) 1 62)) (di : i < v) :
    MetFree l (⟨"com/example/moraine/moraine/compression/FseTable", "read", "([BIII)I"⟩ : MethodName) (head1 (Jvm.Cond.code (⟨"com/example/moraine/moraine/compression/FseTable", "read", "([BIII)I"⟩ : MethodName) prog_7_method_9_code 18 (some .int) :: ws) ({ frames := 2, cells := 2, slots := 4, locals := 38 } : Room)) (fun aA uU => aA = #[(.ref v), (.ref i), (.int (0 : Int32)), (.int (2 : Int32)), (.int (1 : Int32))] ∧ Z.Warmed39 uU.vm ∧ uU.heap = h0) (fun _ _ _ _ _ => True) (fun _ uU oO uU' => ∃ vV lL, oO = .returned vV ∧ Q_rmRead32 Z v sa ba la i lg fb fl h0 n0 vV uU'.heap lL ∧ FrameEnd uU oO uU' lL ({ frames := 2, cells := 2, slots := 4, locals := 38 } : Room).cells ({ frames := 2, cells := 2, slots := 4, locals := 38 } : Room).slots) := by
  refine MetFree.of_bodySF (plainFor_of_name pn_FseTable) hisR ?_
  intro p e s m args below meth c s₁ Bd hml0 hP hK
  obtain ⟨rfl, hZ, hh⟩ := hP
  have hx := Bd.exec
  have hby := Bd.bytes
  have hml : c.maxLocals = 18 := hml0
  have hown : s.vm.findClass "com/example/moraine/moraine/compression/FseTable" = some m.cls := findClass_of_methodNamed Bd.named
  have hnm := (name_of_methodNamed Bd.named Bd.method).1
  have X0 : Stand p l e ({ frames := 2, cells := 2, slots := 4, locals := 38 } : Room) s m #[(.ref v), (.ref i), (.int (0 : Int32)), (.int (2 : Int32)), (.int (1 : Int32))] below meth c s₁ [] 0 0 := Stand.of_body Bd
  have e0 : s₁.heap = h0 := by rw [← hh, Bd.state]; rfl
  have N0 := Fr.nil n0
  have lv : @LT.lt Nat _ v h0.size := E0.lt
  have lsa := PV0.lt
  have lba := PV1.lt
  have lla := PV2.lt
  have li := VI.lt
  refine oEnter (oCast (ef_rmRead32 m v i (0 : Int32) (2 : Int32) (1 : Int32) ) ?_)
  show oGl p e below (s₁.setTop (mkF m 0 #[.val (.ref v), .val (.ref i), .val (.int (0 : Int32)), .val (.int (2 : Int32)), .val (.int (1 : Int32)), .unset, .unset, .unset, .unset, .unset, .unset, .unset, .unset, .unset, .unset, .unset, .unset, .unset] [])) _
  refine siconst X0 hx (hb hby d3_0) rfl rfl (z := 0) (pc' := 1) ?_
  refine sistore X0 hx (hb hby d3_1) rfl rfl (l' := #[.val (.ref v), .val (.ref i), .val (.int (0 : Int32)), .val (.int (2 : Int32)), .val (.int (1 : Int32)), .val (.int (0 : Int32)), .unset, .unset, .unset, .unset, .unset, .unset, .unset, .unset, .unset, .unset, .unset, .unset]) (pc' := 3) ?_
  refine saloadN X0 hx (hb hby d3_3) rfl rfl rfl (pc' := 4) ?_
  refine siloadN X0 hx (hb hby d3_4) rfl rfl (pc' := 5) ?_
  refine siloadN X0 hx (hb hby d3_5) rfl rfl (pc' := 6) ?_
  refine siload X0 hx (hb hby d3_6) rfl rfl (pc' := 8) ?_
  refine siconst X0 hx (hb hby d3_8) rfl rfl (z := 4) (pc' := 9) ?_
  have hz1 : n0 ≤ h0.size := by omega
  obtain ⟨_, _, ⟨T1, L1, k1, n1⟩, -, X1, ⟨Lc1, hQ1, l1, y1, z1⟩, st1⟩ := Jvm.LawKit.callS X0 hx (y := (⟨"com/example/moraine/moraine/compression/FseTable", "forward", "([BIIII)I"⟩ : MethodName)) hown (mvT hZ (hw _ (List.mem_of_getElem? (i := 22) rfl))) (mvT hZ (hw _ (List.mem_of_getElem? (i := 23) rfl))) (mvT hZ (hw _ (List.mem_of_getElem? (i := 3) rfl))) (mvT hZ (hw _ (List.mem_of_getElem? (i := 24) rfl))) (by decide) (backOf (W := 0) (rmFwd0 l Z a0 hw [] i h0 n0 hz1 VI) hZ (hw _ (List.mem_of_getElem? (i := 24) rfl)) (hw _ (List.mem_of_getElem? (i := 3) rfl)) (by decide) (by decide)) (g := (mkF m 9 #[.val (.ref v), .val (.ref i), .val (.int (0 : Int32)), .val (.int (2 : Int32)), .val (.int (1 : Int32)), .val (.int (0 : Int32)), .unset, .unset, .unset, .unset, .unset, .unset, .unset, .unset, .unset, .unset, .unset, .unset] [(.int (4 : Int32)), (.int (0 : Int32)), (.int (2 : Int32)), (.int (0 : Int32)), (.ref i)])) rfl (by rw [hml]; rfl) (argsL := [(.ref i), (.int (0 : Int32)), (.int (2 : Int32)), (.int (0 : Int32)), (.int (4 : Int32))]) (rest := []) (lenOf pd_1 rfl) rfl (by show 2 * 0 + _ ≤ _; exact Nat.le_of_eq rfl) (hb hby d3_9) (fun _ _ => ⟨rfl, e0, (by decide : 0 + 0 ≤ _), (by decide : 0 + 0 ≤ _)⟩)
  dsimp only [Pt.U, Pt.locs, Pt.cells, Pt.slots] at X1 l1 y1 z1 st1 hQ1
  subst l1 y1 z1
  obtain ⟨rfl, N1q, eh1⟩ := hQ1
  have N1 := Fr.app N0 N1q
  refine oOn st1 ?_
  show oGl p e below (T1.setTop (mkF m 12 #[.val (.ref v), .val (.ref i), .val (.int (0 : Int32)), .val (.int (2 : Int32)), .val (.int (1 : Int32)), .val (.int (0 : Int32)), .unset, .unset, .unset, .unset, .unset, .unset, .unset, .unset, .unset, .unset, .unset, .unset] [(.int (0 : Int32))])) _
  refine siconst X1 hx (hb hby d3_12) rfl rfl (z := 5) (pc' := 13) ?_
  refine siadd X1 hx (hb hby d3_13) rfl (by decide) (z := (5 : Int32)) (pc' := 14) ?_
  refine sistore X1 hx (hb hby d3_14) rfl rfl (l' := #[.val (.ref v), .val (.ref i), .val (.int (0 : Int32)), .val (.int (2 : Int32)), .val (.int (1 : Int32)), .val (.int (0 : Int32)), .val (.int (5 : Int32)), .unset, .unset, .unset, .unset, .unset, .unset, .unset, .unset, .unset, .unset, .unset]) (pc' := 16) ?_
  refine siinc X1 hx (hb hby d3_16) rfl rfl rfl (l' := #[.val (.ref v), .val (.ref i), .val (.int (0 : Int32)), .val (.int (2 : Int32)), .val (.int (1 : Int32)), .val (.int (4 : Int32)), .val (.int (5 : Int32)), .unset, .unset, .unset, .unset, .unset, .unset, .unset, .unset, .unset, .unset, .unset]) (pc' := 19) ?_
  refine saloadN X1 hx (hb hby d3_19) rfl rfl rfl (pc' := 20) ?_
  obtain ⟨T2, X2, e2, st2⟩ := getF X1 hx hZ hown (host := "") (Or.inl (hw _ (List.mem_of_getElem? (i := 10) rfl))) Via.refl eh1 F0 (g := (mkF m 20 #[.val (.ref v), .val (.ref i), .val (.int (0 : Int32)), .val (.int (2 : Int32)), .val (.int (1 : Int32)), .val (.int (4 : Int32)), .val (.int (5 : Int32)), .unset, .unset, .unset, .unset, .unset, .unset, .unset, .unset, .unset, .unset, .unset] [(.ref v)])) rfl rfl (hb hby d3_20)
  refine oOn st2 ?_
  show oGl p e below (T2.setTop (mkF m 23 #[.val (.ref v), .val (.ref i), .val (.int (0 : Int32)), .val (.int (2 : Int32)), .val (.int (1 : Int32)), .val (.int (4 : Int32)), .val (.int (5 : Int32)), .unset, .unset, .unset, .unset, .unset, .unset, .unset, .unset, .unset, .unset, .unset] [(.ref sa)])) _
  refine oOn (PV0.len X2 hx hZ e2 (g := (mkF m 23 #[.val (.ref v), .val (.ref i), .val (.int (0 : Int32)), .val (.int (2 : Int32)), .val (.int (1 : Int32)), .val (.int (4 : Int32)), .val (.int (5 : Int32)), .unset, .unset, .unset, .unset, .unset, .unset, .unset, .unset, .unset, .unset, .unset] [(.ref sa)])) rfl rfl (hb hby d3_23)) ?_
  show oGl p e below (T2.setTop (mkF m 24 #[.val (.ref v), .val (.ref i), .val (.int (0 : Int32)), .val (.int (2 : Int32)), .val (.int (1 : Int32)), .val (.int (4 : Int32)), .val (.int (5 : Int32)), .unset, .unset, .unset, .unset, .unset, .unset, .unset, .unset, .unset, .unset, .unset] [(.int (32 : Int32))])) _
  have hz3 : n0 ≤ h0.size := by omega
  obtain ⟨_, _, ⟨T3, L3, k3, n3⟩, -, X3, ⟨Lc3, hQ3, l3, y3, z3⟩, st3⟩ := Jvm.LawKit.callS X2 hx (y := (⟨"java/lang/Integer", "numberOfTrailingZeros", "(I)I"⟩ : MethodName)) hown (mvT hZ (hw _ (List.mem_of_getElem? (i := 25) rfl))) (mvT hZ (hw _ (List.mem_of_getElem? (i := 26) rfl))) (mvT hZ (hw _ (List.mem_of_getElem? (i := 27) rfl))) (mvT hZ (hw _ (List.mem_of_getElem? (i := 28) rfl))) (by decide) (backOf (W := 0) (rmNtz32 l Z a0 hw []  h0 n0 hz3 ) hZ (hw _ (List.mem_of_getElem? (i := 28) rfl)) (hw _ (List.mem_of_getElem? (i := 27) rfl)) (by decide) (by decide)) (g := (mkF m 24 #[.val (.ref v), .val (.ref i), .val (.int (0 : Int32)), .val (.int (2 : Int32)), .val (.int (1 : Int32)), .val (.int (4 : Int32)), .val (.int (5 : Int32)), .unset, .unset, .unset, .unset, .unset, .unset, .unset, .unset, .unset, .unset, .unset] [(.int (32 : Int32))])) rfl (by rw [hml]; rfl) (argsL := [(.int (32 : Int32))]) (rest := []) (lenOf pd_0 rfl) rfl (by show 2 * 0 + _ ≤ _; exact Nat.le_of_eq rfl) (hb hby d3_24) (fun _ _ => ⟨rfl, e2, (by decide : 0 + 0 ≤ _), (by decide : 0 + 0 ≤ _)⟩)
  dsimp only [Pt.U, Pt.locs, Pt.cells, Pt.slots] at X3 l3 y3 z3 st3 hQ3
  subst l3 y3 z3
  obtain ⟨rfl, N3q, eh3⟩ := hQ3
  have N3 := Fr.app N1 N3q
  refine oOn st3 ?_
  show oGl p e below (T3.setTop (mkF m 27 #[.val (.ref v), .val (.ref i), .val (.int (0 : Int32)), .val (.int (2 : Int32)), .val (.int (1 : Int32)), .val (.int (4 : Int32)), .val (.int (5 : Int32)), .unset, .unset, .unset, .unset, .unset, .unset, .unset, .unset, .unset, .unset, .unset] [(.int (5 : Int32))])) _
  refine sistore X3 hx (hb hby d3_27) rfl rfl (l' := #[.val (.ref v), .val (.ref i), .val (.int (0 : Int32)), .val (.int (2 : Int32)), .val (.int (1 : Int32)), .val (.int (4 : Int32)), .val (.int (5 : Int32)), .val (.int (5 : Int32)), .unset, .unset, .unset, .unset, .unset, .unset, .unset, .unset, .unset, .unset]) (pc' := 29) ?_
  refine siload X3 hx (hb hby d3_29) rfl rfl (pc' := 31) ?_
  refine siload X3 hx (hb hby d3_31) rfl rfl (pc' := 33) ?_
  refine sicY X3 hx (hb hby d3_33) (by decide) (by decide) (flt (by decide : ¬ ((5 : Int32) < (5 : Int32)))).2.2.2 (pc' := 53) ?_
  refine siload X3 hx (hb hby d3_53) rfl rfl (pc' := 55) ?_
  refine siconst X3 hx (hb hby d3_55) rfl rfl (z := 1) (pc' := 56) ?_
  refine siadd X3 hx (hb hby d3_56) rfl (by decide) (z := (2 : Int32)) (pc' := 57) ?_
  obtain ⟨T4, h4, k4, X4, e4, E4, A4, st4⟩ := newP X3 hx hZ (hw _ (List.mem_of_getElem? (i := 14) rfl)) eh3 (g := (mkF m 57 #[.val (.ref v), .val (.ref i), .val (.int (0 : Int32)), .val (.int (2 : Int32)), .val (.int (1 : Int32)), .val (.int (4 : Int32)), .val (.int (5 : Int32)), .val (.int (5 : Int32)), .unset, .unset, .unset, .unset, .unset, .unset, .unset, .unset, .unset, .unset] [(.int (2 : Int32))])) rfl (hb hby d3_57) rfl (by decide) (cap := 2) (by decide) (by decide) (by decide) (by decide)
  obtain ⟨a4, g4⟩ : ∃ z, z = h0.size := ⟨_, rfl⟩
  rw [← g4] at A4 st4
  refine oOn st4 ?_
  have z5 : h0.size ≤ h4.size := E4.1
  have lt4 : a4 < h4.size := A4.lt
  have V4 : oAI Z h4 a4 .short 2 (fun _ => 0) := oAI.new A4 rfl
  show oGl p e below (T4.setTop (mkF m 59 #[.val (.ref v), .val (.ref i), .val (.int (0 : Int32)), .val (.int (2 : Int32)), .val (.int (1 : Int32)), .val (.int (4 : Int32)), .val (.int (5 : Int32)), .val (.int (5 : Int32)), .unset, .unset, .unset, .unset, .unset, .unset, .unset, .unset, .unset, .unset] [(.ref a4)])) _
  refine sastore X4 hx (hb hby d3_59) rfl rfl rfl (l' := #[.val (.ref v), .val (.ref i), .val (.int (0 : Int32)), .val (.int (2 : Int32)), .val (.int (1 : Int32)), .val (.int (4 : Int32)), .val (.int (5 : Int32)), .val (.int (5 : Int32)), .val (.ref a4), .unset, .unset, .unset, .unset, .unset, .unset, .unset, .unset, .unset]) (pc' := 61) ?_
  refine siconst X4 hx (hb hby d3_61) rfl rfl (z := 0) (pc' := 62) ?_
  refine sistore X4 hx (hb hby d3_62) rfl rfl (l' := #[.val (.ref v), .val (.ref i), .val (.int (0 : Int32)), .val (.int (2 : Int32)), .val (.int (1 : Int32)), .val (.int (4 : Int32)), .val (.int (5 : Int32)), .val (.int (5 : Int32)), .val (.ref a4), .val (.int (0 : Int32)), .unset, .unset, .unset, .unset, .unset, .unset, .unset, .unset]) (pc' := 64) ?_
  refine siconst X4 hx (hb hby d3_64) rfl rfl (z := 1) (pc' := 65) ?_
  refine siload X4 hx (hb hby d3_65) rfl rfl (pc' := 67) ?_
  refine sishl X4 hx (hb hby d3_67) rfl (by decide) (z := (32 : Int32)) (pc' := 68) ?_
  refine siconst X4 hx (hb hby d3_68) rfl rfl (z := 1) (pc' := 69) ?_
  refine siadd X4 hx (hb hby d3_69) rfl (by decide) (z := (33 : Int32)) (pc' := 70) ?_
  refine sistore X4 hx (hb hby d3_70) rfl rfl (l' := #[.val (.ref v), .val (.ref i), .val (.int (0 : Int32)), .val (.int (2 : Int32)), .val (.int (1 : Int32)), .val (.int (4 : Int32)), .val (.int (5 : Int32)), .val (.int (5 : Int32)), .val (.ref a4), .val (.int (0 : Int32)), .val (.int (33 : Int32)), .unset, .unset, .unset, .unset, .unset, .unset, .unset]) (pc' := 72) ?_
  refine siconst X4 hx (hb hby d3_72) rfl rfl (z := 1) (pc' := 73) ?_
  refine siload X4 hx (hb hby d3_73) rfl rfl (pc' := 75) ?_
  refine sishl X4 hx (hb hby d3_75) rfl (by decide) (z := (32 : Int32)) (pc' := 76) ?_
  refine sistore X4 hx (hb hby d3_76) rfl rfl (l' := #[.val (.ref v), .val (.ref i), .val (.int (0 : Int32)), .val (.int (2 : Int32)), .val (.int (1 : Int32)), .val (.int (4 : Int32)), .val (.int (5 : Int32)), .val (.int (5 : Int32)), .val (.ref a4), .val (.int (0 : Int32)), .val (.int (33 : Int32)), .val (.int (32 : Int32)), .unset, .unset, .unset, .unset, .unset, .unset]) (pc' := 78) ?_
  refine siload X4 hx (hb hby d3_78) rfl rfl (pc' := 80) ?_
  refine siconst X4 hx (hb hby d3_80) rfl rfl (z := 1) (pc' := 81) ?_
  refine siadd X4 hx (hb hby d3_81) rfl (by decide) (z := (6 : Int32)) (pc' := 82) ?_
  refine sistore X4 hx (hb hby d3_82) rfl rfl (l' := #[.val (.ref v), .val (.ref i), .val (.int (0 : Int32)), .val (.int (2 : Int32)), .val (.int (1 : Int32)), .val (.int (4 : Int32)), .val (.int (5 : Int32)), .val (.int (5 : Int32)), .val (.ref a4), .val (.int (0 : Int32)), .val (.int (33 : Int32)), .val (.int (32 : Int32)), .val (.int (6 : Int32)), .unset, .unset, .unset, .unset, .unset]) (pc' := 84) ?_
  refine siload X4 hx (hb hby d3_84) rfl rfl (pc' := 86) ?_
  refine siconst X4 hx (hb hby d3_86) rfl rfl (z := 1) (pc' := 87) ?_
  refine sicN X4 hx (hb hby d3_87) rfl (tlt (by decide : (1 : Int32) < (33 : Int32))).2.2.2 (pc' := 90) ?_
  refine siload X4 hx (hb hby d3_90) rfl rfl (pc' := 92) ?_
  refine siload X4 hx (hb hby d3_92) rfl rfl (pc' := 94) ?_
  have hz6 : n0 ≤ h4.size := by omega
  obtain ⟨_, _, ⟨T6, L6, k6, n6⟩, -, X6, ⟨Lc6, hQ6, l6, y6, z6⟩, st6⟩ := Jvm.LawKit.callS X4 hx (y := (⟨"com/example/moraine/moraine/compression/FseTable", "requireSymbol", "(II)V"⟩ : MethodName)) hown (mvT hZ (hw _ (List.mem_of_getElem? (i := 30) rfl))) (mvT hZ (hw _ (List.mem_of_getElem? (i := 31) rfl))) (mvT hZ (hw _ (List.mem_of_getElem? (i := 3) rfl))) (mvT hZ (hw _ (List.mem_of_getElem? (i := 32) rfl))) (by decide) (backOf (W := 0) (rmReq0 l Z a0 hw []  h4 n0 hz6 ) hZ (hw _ (List.mem_of_getElem? (i := 32) rfl)) (hw _ (List.mem_of_getElem? (i := 3) rfl)) (by decide) (by decide)) (g := (mkF m 94 #[.val (.ref v), .val (.ref i), .val (.int (0 : Int32)), .val (.int (2 : Int32)), .val (.int (1 : Int32)), .val (.int (4 : Int32)), .val (.int (5 : Int32)), .val (.int (5 : Int32)), .val (.ref a4), .val (.int (0 : Int32)), .val (.int (33 : Int32)), .val (.int (32 : Int32)), .val (.int (6 : Int32)), .unset, .unset, .unset, .unset, .unset] [(.int (1 : Int32)), (.int (0 : Int32))])) rfl (by rw [hml]; rfl) (argsL := [(.int (0 : Int32)), (.int (1 : Int32))]) (rest := []) (lenOf pd_2 rfl) rfl (by show 2 * 0 + _ ≤ _; exact Nat.le_of_eq rfl) (hb hby d3_94) (fun _ _ => ⟨rfl, e4, (by decide : 1 + 0 ≤ _), (by decide : 2 + 0 ≤ _)⟩)
  dsimp only [Pt.U, Pt.locs, Pt.cells, Pt.slots] at X6 l6 y6 z6 st6 hQ6
  subst l6 y6 z6
  obtain ⟨rfl, N6q, eh6⟩ := hQ6
  have N6 := Fr.app N3 N6q
  refine oOn st6 ?_
  show oGl p e below (T6.setTop (mkF m 97 #[.val (.ref v), .val (.ref i), .val (.int (0 : Int32)), .val (.int (2 : Int32)), .val (.int (1 : Int32)), .val (.int (4 : Int32)), .val (.int (5 : Int32)), .val (.int (5 : Int32)), .val (.ref a4), .val (.int (0 : Int32)), .val (.int (33 : Int32)), .val (.int (32 : Int32)), .val (.int (6 : Int32)), .unset, .unset, .unset, .unset, .unset] [])) _
  refine siconst X6 hx (hb hby d3_97) rfl rfl (z := 2) (pc' := 98) ?_
  refine siload X6 hx (hb hby d3_98) rfl rfl (pc' := 100) ?_
  refine simul X6 hx (hb hby d3_100) rfl (by decide) (z := (64 : Int32)) (pc' := 101) ?_
  refine siconst X6 hx (hb hby d3_101) rfl rfl (z := 1) (pc' := 102) ?_
  refine sisub X6 hx (hb hby d3_102) rfl (by decide) (z := (63 : Int32)) (pc' := 103) ?_
  refine siload X6 hx (hb hby d3_103) rfl rfl (pc' := 105) ?_
  refine sisub X6 hx (hb hby d3_105) rfl (by decide) (z := (30 : Int32)) (pc' := 106) ?_
  refine sistore X6 hx (hb hby d3_106) rfl rfl (l' := #[.val (.ref v), .val (.ref i), .val (.int (0 : Int32)), .val (.int (2 : Int32)), .val (.int (1 : Int32)), .val (.int (4 : Int32)), .val (.int (5 : Int32)), .val (.int (5 : Int32)), .val (.ref a4), .val (.int (0 : Int32)), .val (.int (33 : Int32)), .val (.int (32 : Int32)), .val (.int (6 : Int32)), .val (.int (30 : Int32)), .unset, .unset, .unset, .unset]) (pc' := 108) ?_
  refine saloadN X6 hx (hb hby d3_108) rfl rfl rfl (pc' := 109) ?_
  refine siloadN X6 hx (hb hby d3_109) rfl rfl (pc' := 110) ?_
  refine siloadN X6 hx (hb hby d3_110) rfl rfl (pc' := 111) ?_
  refine siload X6 hx (hb hby d3_111) rfl rfl (pc' := 113) ?_
  refine siload X6 hx (hb hby d3_113) rfl rfl (pc' := 115) ?_
  have f7 := (VI.ext E4)
  have hz8 : n0 ≤ h4.size := by omega
  obtain ⟨_, _, ⟨T8, L8, k8, n8⟩, -, X8, ⟨Lc8, hQ8, l8, y8, z8⟩, st8⟩ := Jvm.LawKit.callS X6 hx (y := (⟨"com/example/moraine/moraine/compression/FseTable", "forward", "([BIIII)I"⟩ : MethodName)) hown (mvT hZ (hw _ (List.mem_of_getElem? (i := 22) rfl))) (mvT hZ (hw _ (List.mem_of_getElem? (i := 23) rfl))) (mvT hZ (hw _ (List.mem_of_getElem? (i := 3) rfl))) (mvT hZ (hw _ (List.mem_of_getElem? (i := 24) rfl))) (by decide) (backOf (W := 0) (rmFwd4 l Z a0 hw [] i h4 n0 hz8 f7) hZ (hw _ (List.mem_of_getElem? (i := 24) rfl)) (hw _ (List.mem_of_getElem? (i := 3) rfl)) (by decide) (by decide)) (g := (mkF m 115 #[.val (.ref v), .val (.ref i), .val (.int (0 : Int32)), .val (.int (2 : Int32)), .val (.int (1 : Int32)), .val (.int (4 : Int32)), .val (.int (5 : Int32)), .val (.int (5 : Int32)), .val (.ref a4), .val (.int (0 : Int32)), .val (.int (33 : Int32)), .val (.int (32 : Int32)), .val (.int (6 : Int32)), .val (.int (30 : Int32)), .unset, .unset, .unset, .unset] [(.int (6 : Int32)), (.int (4 : Int32)), (.int (2 : Int32)), (.int (0 : Int32)), (.ref i)])) rfl (by rw [hml]; rfl) (argsL := [(.ref i), (.int (0 : Int32)), (.int (2 : Int32)), (.int (4 : Int32)), (.int (6 : Int32))]) (rest := []) (lenOf pd_1 rfl) rfl (by show 2 * 0 + _ ≤ _; exact Nat.le_of_eq rfl) (hb hby d3_115) (fun _ _ => ⟨rfl, eh6, (by decide : 1 + 0 ≤ _), (by decide : 2 + 0 ≤ _)⟩)
  dsimp only [Pt.U, Pt.locs, Pt.cells, Pt.slots] at X8 l8 y8 z8 st8 hQ8
  subst l8 y8 z8
  obtain ⟨rfl, N8q, eh8⟩ := hQ8
  have N8 := Fr.app N6 N8q
  refine oOn st8 ?_
  show oGl p e below (T8.setTop (mkF m 118 #[.val (.ref v), .val (.ref i), .val (.int (0 : Int32)), .val (.int (2 : Int32)), .val (.int (1 : Int32)), .val (.int (4 : Int32)), .val (.int (5 : Int32)), .val (.int (5 : Int32)), .val (.ref a4), .val (.int (0 : Int32)), .val (.int (33 : Int32)), .val (.int (32 : Int32)), .val (.int (6 : Int32)), .val (.int (30 : Int32)), .unset, .unset, .unset, .unset] [(.int (36 : Int32))])) _
  refine sistore X8 hx (hb hby d3_118) rfl rfl (l' := #[.val (.ref v), .val (.ref i), .val (.int (0 : Int32)), .val (.int (2 : Int32)), .val (.int (1 : Int32)), .val (.int (4 : Int32)), .val (.int (5 : Int32)), .val (.int (5 : Int32)), .val (.ref a4), .val (.int (0 : Int32)), .val (.int (33 : Int32)), .val (.int (32 : Int32)), .val (.int (6 : Int32)), .val (.int (30 : Int32)), .val (.int (36 : Int32)), .unset, .unset, .unset]) (pc' := 120) ?_
  refine siload X8 hx (hb hby d3_120) rfl rfl (pc' := 122) ?_
  refine siload X8 hx (hb hby d3_122) rfl rfl (pc' := 124) ?_
  refine siconst X8 hx (hb hby d3_124) rfl rfl (z := 1) (pc' := 125) ?_
  refine sisub X8 hx (hb hby d3_125) rfl (by decide) (z := (31 : Int32)) (pc' := 126) ?_
  refine siand X8 hx (hb hby d3_126) rfl (by decide) (z := (4 : Int32)) (pc' := 127) ?_
  refine siload X8 hx (hb hby d3_127) rfl rfl (pc' := 129) ?_
  refine sicN X8 hx (hb hby d3_129) rfl (tlt (by decide : (4 : Int32) < (30 : Int32))).2.1 (pc' := 132) ?_
  refine siload X8 hx (hb hby d3_132) rfl rfl (pc' := 134) ?_
  refine siload X8 hx (hb hby d3_134) rfl rfl (pc' := 136) ?_
  refine siconst X8 hx (hb hby d3_136) rfl rfl (z := 1) (pc' := 137) ?_
  refine sisub X8 hx (hb hby d3_137) rfl (by decide) (z := (31 : Int32)) (pc' := 138) ?_
  refine siand X8 hx (hb hby d3_138) rfl (by decide) (z := (4 : Int32)) (pc' := 139) ?_
  refine sistore X8 hx (hb hby d3_139) rfl rfl (l' := #[.val (.ref v), .val (.ref i), .val (.int (0 : Int32)), .val (.int (2 : Int32)), .val (.int (1 : Int32)), .val (.int (4 : Int32)), .val (.int (5 : Int32)), .val (.int (5 : Int32)), .val (.ref a4), .val (.int (0 : Int32)), .val (.int (33 : Int32)), .val (.int (32 : Int32)), .val (.int (6 : Int32)), .val (.int (30 : Int32)), .val (.int (4 : Int32)), .unset, .unset, .unset]) (pc' := 141) ?_
  refine siload X8 hx (hb hby d3_141) rfl rfl (pc' := 143) ?_
  refine siload X8 hx (hb hby d3_143) rfl rfl (pc' := 145) ?_
  refine siconst X8 hx (hb hby d3_145) rfl rfl (z := 1) (pc' := 146) ?_
  refine sisub X8 hx (hb hby d3_146) rfl (by decide) (z := (5 : Int32)) (pc' := 147) ?_
  refine siadd X8 hx (hb hby d3_147) rfl (by decide) (z := (9 : Int32)) (pc' := 148) ?_
  refine sistore X8 hx (hb hby d3_148) rfl rfl (l' := #[.val (.ref v), .val (.ref i), .val (.int (0 : Int32)), .val (.int (2 : Int32)), .val (.int (1 : Int32)), .val (.int (9 : Int32)), .val (.int (5 : Int32)), .val (.int (5 : Int32)), .val (.ref a4), .val (.int (0 : Int32)), .val (.int (33 : Int32)), .val (.int (32 : Int32)), .val (.int (6 : Int32)), .val (.int (30 : Int32)), .val (.int (4 : Int32)), .unset, .unset, .unset]) (pc' := 150) ?_
  refine sgoto X8 hx (hb hby d3_150) (by decide) (by decide)  (pc' := 174) ?_
  refine siload X8 hx (hb hby d3_174) rfl rfl (pc' := 176) ?_
  refine siconst X8 hx (hb hby d3_176) rfl rfl (z := 1) (pc' := 177) ?_
  refine sisub X8 hx (hb hby d3_177) rfl (by decide) (z := (3 : Int32)) (pc' := 178) ?_
  refine sistore X8 hx (hb hby d3_178) rfl rfl (l' := #[.val (.ref v), .val (.ref i), .val (.int (0 : Int32)), .val (.int (2 : Int32)), .val (.int (1 : Int32)), .val (.int (9 : Int32)), .val (.int (5 : Int32)), .val (.int (5 : Int32)), .val (.ref a4), .val (.int (0 : Int32)), .val (.int (33 : Int32)), .val (.int (32 : Int32)), .val (.int (6 : Int32)), .val (.int (30 : Int32)), .val (.int (4 : Int32)), .val (.int (3 : Int32)), .unset, .unset]) (pc' := 180) ?_
  refine saload X8 hx (hb hby d3_180) rfl rfl rfl (pc' := 182) ?_
  refine siload X8 hx (hb hby d3_182) rfl rfl (pc' := 184) ?_
  refine siinc X8 hx (hb hby d3_184) rfl rfl rfl (l' := #[.val (.ref v), .val (.ref i), .val (.int (0 : Int32)), .val (.int (2 : Int32)), .val (.int (1 : Int32)), .val (.int (9 : Int32)), .val (.int (5 : Int32)), .val (.int (5 : Int32)), .val (.ref a4), .val (.int (1 : Int32)), .val (.int (33 : Int32)), .val (.int (32 : Int32)), .val (.int (6 : Int32)), .val (.int (30 : Int32)), .val (.int (4 : Int32)), .val (.int (3 : Int32)), .unset, .unset]) (pc' := 187) ?_
  refine siload X8 hx (hb hby d3_187) rfl rfl (pc' := 189) ?_
  refine si2s X8 hx (hb hby d3_189) rfl (by decide) (z := (3 : Int32)) (pc' := 190) ?_
  obtain ⟨T9, h9, X9, e9, W9, V9, st9⟩ := V4.stS X8 hx hZ eh8 (j := (0 : Int32)) (by decide) (g := (mkF m 190 #[.val (.ref v), .val (.ref i), .val (.int (0 : Int32)), .val (.int (2 : Int32)), .val (.int (1 : Int32)), .val (.int (9 : Int32)), .val (.int (5 : Int32)), .val (.int (5 : Int32)), .val (.ref a4), .val (.int (1 : Int32)), .val (.int (33 : Int32)), .val (.int (32 : Int32)), .val (.int (6 : Int32)), .val (.int (30 : Int32)), .val (.int (4 : Int32)), .val (.int (3 : Int32)), .unset, .unset] [(.int (3 : Int32)), (.int (0 : Int32)), (.ref a4)])) rfl rfl (hb hby d3_190)
  refine oOn st9 ?_
  have z10 : h4.size ≤ h9.size := Nat.le_of_eq W9.size.symm
  have N9 := Fr.snoc X9 N8 (by omega)
  show oGl p e below (T9.setTop (mkF m 191 #[.val (.ref v), .val (.ref i), .val (.int (0 : Int32)), .val (.int (2 : Int32)), .val (.int (1 : Int32)), .val (.int (9 : Int32)), .val (.int (5 : Int32)), .val (.int (5 : Int32)), .val (.ref a4), .val (.int (1 : Int32)), .val (.int (33 : Int32)), .val (.int (32 : Int32)), .val (.int (6 : Int32)), .val (.int (30 : Int32)), .val (.int (4 : Int32)), .val (.int (3 : Int32)), .unset, .unset] [])) _
  refine siload X9 hx (hb hby d3_191) rfl rfl (pc' := 193) ?_
  refine siload X9 hx (hb hby d3_193) rfl rfl (pc' := 195) ?_
  have hz11 : n0 ≤ h9.size := by omega
  obtain ⟨_, _, ⟨T11, L11, k11, n11⟩, -, X11, ⟨Lc11, hQ11, l11, y11, z11⟩, st11⟩ := Jvm.LawKit.callS X9 hx (y := (⟨"java/lang/Math", "abs", "(I)I"⟩ : MethodName)) hown (mvT hZ (hw _ (List.mem_of_getElem? (i := 33) rfl))) (mvT hZ (hw _ (List.mem_of_getElem? (i := 34) rfl))) (mvT hZ (hw _ (List.mem_of_getElem? (i := 35) rfl))) (mvT hZ (hw _ (List.mem_of_getElem? (i := 36) rfl))) (by decide) (backOf (W := 1) (rmAbs3 l Z a0 hw []  h9 n0 hz11 ) hZ (hw _ (List.mem_of_getElem? (i := 36) rfl)) (hw _ (List.mem_of_getElem? (i := 35) rfl)) (by decide) (by decide)) (g := (mkF m 195 #[.val (.ref v), .val (.ref i), .val (.int (0 : Int32)), .val (.int (2 : Int32)), .val (.int (1 : Int32)), .val (.int (9 : Int32)), .val (.int (5 : Int32)), .val (.int (5 : Int32)), .val (.ref a4), .val (.int (1 : Int32)), .val (.int (33 : Int32)), .val (.int (32 : Int32)), .val (.int (6 : Int32)), .val (.int (30 : Int32)), .val (.int (4 : Int32)), .val (.int (3 : Int32)), .unset, .unset] [(.int (3 : Int32)), (.int (33 : Int32))])) rfl (by rw [hml]; rfl) (argsL := [(.int (3 : Int32))]) (rest := [(.int (33 : Int32))]) (lenOf pd_0 rfl) rfl (by show 2 * 0 + _ ≤ _; exact Nat.le_of_eq rfl) (hb hby d3_195) (fun _ _ => ⟨rfl, e9, (by decide : 1 + 0 ≤ _), (by decide : 2 + 0 ≤ _)⟩)
  dsimp only [Pt.U, Pt.locs, Pt.cells, Pt.slots] at X11 l11 y11 z11 st11 hQ11
  subst l11 y11 z11
  obtain ⟨rfl, N11q, eh11⟩ := hQ11
  have N11 := Fr.app N9 N11q
  refine oOn st11 ?_
  show oGl p e below (T11.setTop (mkF m 198 #[.val (.ref v), .val (.ref i), .val (.int (0 : Int32)), .val (.int (2 : Int32)), .val (.int (1 : Int32)), .val (.int (9 : Int32)), .val (.int (5 : Int32)), .val (.int (5 : Int32)), .val (.ref a4), .val (.int (1 : Int32)), .val (.int (33 : Int32)), .val (.int (32 : Int32)), .val (.int (6 : Int32)), .val (.int (30 : Int32)), .val (.int (4 : Int32)), .val (.int (3 : Int32)), .unset, .unset] [(.int (3 : Int32)), (.int (33 : Int32))])) _
  refine sisub X11 hx (hb hby d3_198) rfl (by decide) (z := (30 : Int32)) (pc' := 199) ?_
  refine sistore X11 hx (hb hby d3_199) rfl rfl (l' := #[.val (.ref v), .val (.ref i), .val (.int (0 : Int32)), .val (.int (2 : Int32)), .val (.int (1 : Int32)), .val (.int (9 : Int32)), .val (.int (5 : Int32)), .val (.int (5 : Int32)), .val (.ref a4), .val (.int (1 : Int32)), .val (.int (30 : Int32)), .val (.int (32 : Int32)), .val (.int (6 : Int32)), .val (.int (30 : Int32)), .val (.int (4 : Int32)), .val (.int (3 : Int32)), .unset, .unset]) (pc' := 201) ?_
  refine siload X11 hx (hb hby d3_201) rfl rfl (pc' := 203) ?_
  refine sifY X11 hx (hb hby d3_203) (by decide) (by decide) (feq (by decide : ¬ ((3 : Int32) = (0 : Int32)))).2 (pc' := 258) ?_
  refine siload X11 hx (hb hby d3_258) rfl rfl (pc' := 260) ?_
  refine siload X11 hx (hb hby d3_260) rfl rfl (pc' := 262) ?_
  refine sicN X11 hx (hb hby d3_262) rfl (tlt (by decide : (30 : Int32) < (32 : Int32))).2.1 (pc' := 265) ?_
  refine siinc X11 hx (hb hby d3_265) rfl rfl rfl (l' := #[.val (.ref v), .val (.ref i), .val (.int (0 : Int32)), .val (.int (2 : Int32)), .val (.int (1 : Int32)), .val (.int (9 : Int32)), .val (.int (5 : Int32)), .val (.int (5 : Int32)), .val (.ref a4), .val (.int (1 : Int32)), .val (.int (30 : Int32)), .val (.int (32 : Int32)), .val (.int (5 : Int32)), .val (.int (30 : Int32)), .val (.int (4 : Int32)), .val (.int (3 : Int32)), .unset, .unset]) (pc' := 268) ?_
  refine siload X11 hx (hb hby d3_268) rfl rfl (pc' := 270) ?_
  refine siconst X11 hx (hb hby d3_270) rfl rfl (z := 1) (pc' := 271) ?_
  refine sishr X11 hx (hb hby d3_271) rfl (by decide) (z := (16 : Int32)) (pc' := 272) ?_
  refine sistore X11 hx (hb hby d3_272) rfl rfl (l' := #[.val (.ref v), .val (.ref i), .val (.int (0 : Int32)), .val (.int (2 : Int32)), .val (.int (1 : Int32)), .val (.int (9 : Int32)), .val (.int (5 : Int32)), .val (.int (5 : Int32)), .val (.ref a4), .val (.int (1 : Int32)), .val (.int (30 : Int32)), .val (.int (16 : Int32)), .val (.int (5 : Int32)), .val (.int (30 : Int32)), .val (.int (4 : Int32)), .val (.int (3 : Int32)), .unset, .unset]) (pc' := 274) ?_
  refine sgoto X11 hx (hb hby d3_274) (by decide) (by decide)  (pc' := 258) ?_
  refine siload X11 hx (hb hby d3_258) rfl rfl (pc' := 260) ?_
  refine siload X11 hx (hb hby d3_260) rfl rfl (pc' := 262) ?_
  refine sicY X11 hx (hb hby d3_262) (by decide) (by decide) (flt (by decide : ¬ ((30 : Int32) < (16 : Int32)))).2.1 (pc' := 277) ?_
  refine sgoto X11 hx (hb hby d3_277) (by decide) (by decide)  (pc' := 84) ?_
  refine siload X11 hx (hb hby d3_84) rfl rfl (pc' := 86) ?_
  refine siconst X11 hx (hb hby d3_86) rfl rfl (z := 1) (pc' := 87) ?_
  refine sicN X11 hx (hb hby d3_87) rfl (tlt (by decide : (1 : Int32) < (30 : Int32))).2.2.2 (pc' := 90) ?_
  refine siload X11 hx (hb hby d3_90) rfl rfl (pc' := 92) ?_
  refine siload X11 hx (hb hby d3_92) rfl rfl (pc' := 94) ?_
  have hz12 : n0 ≤ h9.size := by omega
  obtain ⟨_, _, ⟨T12, L12, k12, n12⟩, -, X12, ⟨Lc12, hQ12, l12, y12, z12⟩, st12⟩ := Jvm.LawKit.callS X11 hx (y := (⟨"com/example/moraine/moraine/compression/FseTable", "requireSymbol", "(II)V"⟩ : MethodName)) hown (mvT hZ (hw _ (List.mem_of_getElem? (i := 30) rfl))) (mvT hZ (hw _ (List.mem_of_getElem? (i := 31) rfl))) (mvT hZ (hw _ (List.mem_of_getElem? (i := 3) rfl))) (mvT hZ (hw _ (List.mem_of_getElem? (i := 32) rfl))) (by decide) (backOf (W := 0) (rmReq1 l Z a0 hw []  h9 n0 hz12 ) hZ (hw _ (List.mem_of_getElem? (i := 32) rfl)) (hw _ (List.mem_of_getElem? (i := 3) rfl)) (by decide) (by decide)) (g := (mkF m 94 #[.val (.ref v), .val (.ref i), .val (.int (0 : Int32)), .val (.int (2 : Int32)), .val (.int (1 : Int32)), .val (.int (9 : Int32)), .val (.int (5 : Int32)), .val (.int (5 : Int32)), .val (.ref a4), .val (.int (1 : Int32)), .val (.int (30 : Int32)), .val (.int (16 : Int32)), .val (.int (5 : Int32)), .val (.int (30 : Int32)), .val (.int (4 : Int32)), .val (.int (3 : Int32)), .unset, .unset] [(.int (1 : Int32)), (.int (1 : Int32))])) rfl (by rw [hml]; rfl) (argsL := [(.int (1 : Int32)), (.int (1 : Int32))]) (rest := []) (lenOf pd_2 rfl) rfl (by show 2 * 0 + _ ≤ _; exact Nat.le_of_eq rfl) (hb hby d3_94) (fun _ _ => ⟨rfl, eh11, (by decide : 1 + 0 ≤ _), (by decide : 2 + 0 ≤ _)⟩)
  dsimp only [Pt.U, Pt.locs, Pt.cells, Pt.slots] at X12 l12 y12 z12 st12 hQ12
  subst l12 y12 z12
  obtain ⟨rfl, N12q, eh12⟩ := hQ12
  have N12 := Fr.app N11 N12q
  refine oOn st12 ?_
  show oGl p e below (T12.setTop (mkF m 97 #[.val (.ref v), .val (.ref i), .val (.int (0 : Int32)), .val (.int (2 : Int32)), .val (.int (1 : Int32)), .val (.int (9 : Int32)), .val (.int (5 : Int32)), .val (.int (5 : Int32)), .val (.ref a4), .val (.int (1 : Int32)), .val (.int (30 : Int32)), .val (.int (16 : Int32)), .val (.int (5 : Int32)), .val (.int (30 : Int32)), .val (.int (4 : Int32)), .val (.int (3 : Int32)), .unset, .unset] [])) _
  refine siconst X12 hx (hb hby d3_97) rfl rfl (z := 2) (pc' := 98) ?_
  refine siload X12 hx (hb hby d3_98) rfl rfl (pc' := 100) ?_
  refine simul X12 hx (hb hby d3_100) rfl (by decide) (z := (32 : Int32)) (pc' := 101) ?_
  refine siconst X12 hx (hb hby d3_101) rfl rfl (z := 1) (pc' := 102) ?_
  refine sisub X12 hx (hb hby d3_102) rfl (by decide) (z := (31 : Int32)) (pc' := 103) ?_
  refine siload X12 hx (hb hby d3_103) rfl rfl (pc' := 105) ?_
  refine sisub X12 hx (hb hby d3_105) rfl (by decide) (z := (1 : Int32)) (pc' := 106) ?_
  refine sistore X12 hx (hb hby d3_106) rfl rfl (l' := #[.val (.ref v), .val (.ref i), .val (.int (0 : Int32)), .val (.int (2 : Int32)), .val (.int (1 : Int32)), .val (.int (9 : Int32)), .val (.int (5 : Int32)), .val (.int (5 : Int32)), .val (.ref a4), .val (.int (1 : Int32)), .val (.int (30 : Int32)), .val (.int (16 : Int32)), .val (.int (5 : Int32)), .val (.int (1 : Int32)), .val (.int (4 : Int32)), .val (.int (3 : Int32)), .unset, .unset]) (pc' := 108) ?_
  refine saloadN X12 hx (hb hby d3_108) rfl rfl rfl (pc' := 109) ?_
  refine siloadN X12 hx (hb hby d3_109) rfl rfl (pc' := 110) ?_
  refine siloadN X12 hx (hb hby d3_110) rfl rfl (pc' := 111) ?_
  refine siload X12 hx (hb hby d3_111) rfl rfl (pc' := 113) ?_
  refine siload X12 hx (hb hby d3_113) rfl rfl (pc' := 115) ?_
  have f13 := (f7.other W9 (oNe (by omega)))
  have hz14 : n0 ≤ h9.size := by omega
  obtain ⟨_, _, ⟨T14, L14, k14, n14⟩, -, X14, ⟨Lc14, hQ14, l14, y14, z14⟩, st14⟩ := Jvm.LawKit.callS X12 hx (y := (⟨"com/example/moraine/moraine/compression/FseTable", "forward", "([BIIII)I"⟩ : MethodName)) hown (mvT hZ (hw _ (List.mem_of_getElem? (i := 22) rfl))) (mvT hZ (hw _ (List.mem_of_getElem? (i := 23) rfl))) (mvT hZ (hw _ (List.mem_of_getElem? (i := 3) rfl))) (mvT hZ (hw _ (List.mem_of_getElem? (i := 24) rfl))) (by decide) (backOf (W := 0) (rmFwd9 l Z a0 hw [] i h9 n0 hz14 f13) hZ (hw _ (List.mem_of_getElem? (i := 24) rfl)) (hw _ (List.mem_of_getElem? (i := 3) rfl)) (by decide) (by decide)) (g := (mkF m 115 #[.val (.ref v), .val (.ref i), .val (.int (0 : Int32)), .val (.int (2 : Int32)), .val (.int (1 : Int32)), .val (.int (9 : Int32)), .val (.int (5 : Int32)), .val (.int (5 : Int32)), .val (.ref a4), .val (.int (1 : Int32)), .val (.int (30 : Int32)), .val (.int (16 : Int32)), .val (.int (5 : Int32)), .val (.int (1 : Int32)), .val (.int (4 : Int32)), .val (.int (3 : Int32)), .unset, .unset] [(.int (5 : Int32)), (.int (9 : Int32)), (.int (2 : Int32)), (.int (0 : Int32)), (.ref i)])) rfl (by rw [hml]; rfl) (argsL := [(.ref i), (.int (0 : Int32)), (.int (2 : Int32)), (.int (9 : Int32)), (.int (5 : Int32))]) (rest := []) (lenOf pd_1 rfl) rfl (by show 2 * 0 + _ ≤ _; exact Nat.le_of_eq rfl) (hb hby d3_115) (fun _ _ => ⟨rfl, eh12, (by decide : 1 + 0 ≤ _), (by decide : 2 + 0 ≤ _)⟩)
  dsimp only [Pt.U, Pt.locs, Pt.cells, Pt.slots] at X14 l14 y14 z14 st14 hQ14
  subst l14 y14 z14
  obtain ⟨rfl, N14q, eh14⟩ := hQ14
  have N14 := Fr.app N12 N14q
  refine oOn st14 ?_
  show oGl p e below (T14.setTop (mkF m 118 #[.val (.ref v), .val (.ref i), .val (.int (0 : Int32)), .val (.int (2 : Int32)), .val (.int (1 : Int32)), .val (.int (9 : Int32)), .val (.int (5 : Int32)), .val (.int (5 : Int32)), .val (.ref a4), .val (.int (1 : Int32)), .val (.int (30 : Int32)), .val (.int (16 : Int32)), .val (.int (5 : Int32)), .val (.int (1 : Int32)), .val (.int (4 : Int32)), .val (.int (3 : Int32)), .unset, .unset] [(.int (31 : Int32))])) _
  refine sistore X14 hx (hb hby d3_118) rfl rfl (l' := #[.val (.ref v), .val (.ref i), .val (.int (0 : Int32)), .val (.int (2 : Int32)), .val (.int (1 : Int32)), .val (.int (9 : Int32)), .val (.int (5 : Int32)), .val (.int (5 : Int32)), .val (.ref a4), .val (.int (1 : Int32)), .val (.int (30 : Int32)), .val (.int (16 : Int32)), .val (.int (5 : Int32)), .val (.int (1 : Int32)), .val (.int (31 : Int32)), .val (.int (3 : Int32)), .unset, .unset]) (pc' := 120) ?_
  refine siload X14 hx (hb hby d3_120) rfl rfl (pc' := 122) ?_
  refine siload X14 hx (hb hby d3_122) rfl rfl (pc' := 124) ?_
  refine siconst X14 hx (hb hby d3_124) rfl rfl (z := 1) (pc' := 125) ?_
  refine sisub X14 hx (hb hby d3_125) rfl (by decide) (z := (15 : Int32)) (pc' := 126) ?_
  refine siand X14 hx (hb hby d3_126) rfl (by decide) (z := (15 : Int32)) (pc' := 127) ?_
  refine siload X14 hx (hb hby d3_127) rfl rfl (pc' := 129) ?_
  refine sicY X14 hx (hb hby d3_129) (by decide) (by decide) (flt (by decide : ¬ ((15 : Int32) < (1 : Int32)))).2.1 (pc' := 153) ?_
  refine siload X14 hx (hb hby d3_153) rfl rfl (pc' := 155) ?_
  refine siload X14 hx (hb hby d3_155) rfl rfl (pc' := 157) ?_
  refine sicN X14 hx (hb hby d3_157) rfl (flt (by decide : ¬ ((31 : Int32) < (16 : Int32)))).1 (pc' := 160) ?_
  refine siload X14 hx (hb hby d3_160) rfl rfl (pc' := 162) ?_
  refine siload X14 hx (hb hby d3_162) rfl rfl (pc' := 164) ?_
  refine sisub X14 hx (hb hby d3_164) rfl (by decide) (z := (30 : Int32)) (pc' := 165) ?_
  refine sistore X14 hx (hb hby d3_165) rfl rfl (l' := #[.val (.ref v), .val (.ref i), .val (.int (0 : Int32)), .val (.int (2 : Int32)), .val (.int (1 : Int32)), .val (.int (9 : Int32)), .val (.int (5 : Int32)), .val (.int (5 : Int32)), .val (.ref a4), .val (.int (1 : Int32)), .val (.int (30 : Int32)), .val (.int (16 : Int32)), .val (.int (5 : Int32)), .val (.int (1 : Int32)), .val (.int (30 : Int32)), .val (.int (3 : Int32)), .unset, .unset]) (pc' := 167) ?_
  refine siload X14 hx (hb hby d3_167) rfl rfl (pc' := 169) ?_
  refine siload X14 hx (hb hby d3_169) rfl rfl (pc' := 171) ?_
  refine siadd X14 hx (hb hby d3_171) rfl (by decide) (z := (14 : Int32)) (pc' := 172) ?_
  refine sistore X14 hx (hb hby d3_172) rfl rfl (l' := #[.val (.ref v), .val (.ref i), .val (.int (0 : Int32)), .val (.int (2 : Int32)), .val (.int (1 : Int32)), .val (.int (14 : Int32)), .val (.int (5 : Int32)), .val (.int (5 : Int32)), .val (.ref a4), .val (.int (1 : Int32)), .val (.int (30 : Int32)), .val (.int (16 : Int32)), .val (.int (5 : Int32)), .val (.int (1 : Int32)), .val (.int (30 : Int32)), .val (.int (3 : Int32)), .unset, .unset]) (pc' := 174) ?_
  refine siload X14 hx (hb hby d3_174) rfl rfl (pc' := 176) ?_
  refine siconst X14 hx (hb hby d3_176) rfl rfl (z := 1) (pc' := 177) ?_
  refine sisub X14 hx (hb hby d3_177) rfl (by decide) (z := (29 : Int32)) (pc' := 178) ?_
  refine sistore X14 hx (hb hby d3_178) rfl rfl (l' := #[.val (.ref v), .val (.ref i), .val (.int (0 : Int32)), .val (.int (2 : Int32)), .val (.int (1 : Int32)), .val (.int (14 : Int32)), .val (.int (5 : Int32)), .val (.int (5 : Int32)), .val (.ref a4), .val (.int (1 : Int32)), .val (.int (30 : Int32)), .val (.int (16 : Int32)), .val (.int (5 : Int32)), .val (.int (1 : Int32)), .val (.int (30 : Int32)), .val (.int (29 : Int32)), .unset, .unset]) (pc' := 180) ?_
  refine saload X14 hx (hb hby d3_180) rfl rfl rfl (pc' := 182) ?_
  refine siload X14 hx (hb hby d3_182) rfl rfl (pc' := 184) ?_
  refine siinc X14 hx (hb hby d3_184) rfl rfl rfl (l' := #[.val (.ref v), .val (.ref i), .val (.int (0 : Int32)), .val (.int (2 : Int32)), .val (.int (1 : Int32)), .val (.int (14 : Int32)), .val (.int (5 : Int32)), .val (.int (5 : Int32)), .val (.ref a4), .val (.int (2 : Int32)), .val (.int (30 : Int32)), .val (.int (16 : Int32)), .val (.int (5 : Int32)), .val (.int (1 : Int32)), .val (.int (30 : Int32)), .val (.int (29 : Int32)), .unset, .unset]) (pc' := 187) ?_
  refine siload X14 hx (hb hby d3_187) rfl rfl (pc' := 189) ?_
  refine si2s X14 hx (hb hby d3_189) rfl (by decide) (z := (29 : Int32)) (pc' := 190) ?_
  obtain ⟨T15, h15, X15, e15, W15, V15, st15⟩ := V9.stS X14 hx hZ eh14 (j := (1 : Int32)) (by decide) (g := (mkF m 190 #[.val (.ref v), .val (.ref i), .val (.int (0 : Int32)), .val (.int (2 : Int32)), .val (.int (1 : Int32)), .val (.int (14 : Int32)), .val (.int (5 : Int32)), .val (.int (5 : Int32)), .val (.ref a4), .val (.int (2 : Int32)), .val (.int (30 : Int32)), .val (.int (16 : Int32)), .val (.int (5 : Int32)), .val (.int (1 : Int32)), .val (.int (30 : Int32)), .val (.int (29 : Int32)), .unset, .unset] [(.int (29 : Int32)), (.int (1 : Int32)), (.ref a4)])) rfl rfl (hb hby d3_190)
  refine oOn st15 ?_
  have z16 : h9.size ≤ h15.size := Nat.le_of_eq W15.size.symm
  have N15 := Fr.snoc X15 N14 (by omega)
  show oGl p e below (T15.setTop (mkF m 191 #[.val (.ref v), .val (.ref i), .val (.int (0 : Int32)), .val (.int (2 : Int32)), .val (.int (1 : Int32)), .val (.int (14 : Int32)), .val (.int (5 : Int32)), .val (.int (5 : Int32)), .val (.ref a4), .val (.int (2 : Int32)), .val (.int (30 : Int32)), .val (.int (16 : Int32)), .val (.int (5 : Int32)), .val (.int (1 : Int32)), .val (.int (30 : Int32)), .val (.int (29 : Int32)), .unset, .unset] [])) _
  refine siload X15 hx (hb hby d3_191) rfl rfl (pc' := 193) ?_
  refine siload X15 hx (hb hby d3_193) rfl rfl (pc' := 195) ?_
  have hz17 : n0 ≤ h15.size := by omega
  obtain ⟨_, _, ⟨T17, L17, k17, n17⟩, -, X17, ⟨Lc17, hQ17, l17, y17, z17⟩, st17⟩ := Jvm.LawKit.callS X15 hx (y := (⟨"java/lang/Math", "abs", "(I)I"⟩ : MethodName)) hown (mvT hZ (hw _ (List.mem_of_getElem? (i := 33) rfl))) (mvT hZ (hw _ (List.mem_of_getElem? (i := 34) rfl))) (mvT hZ (hw _ (List.mem_of_getElem? (i := 35) rfl))) (mvT hZ (hw _ (List.mem_of_getElem? (i := 36) rfl))) (by decide) (backOf (W := 1) (rmAbs29 l Z a0 hw []  h15 n0 hz17 ) hZ (hw _ (List.mem_of_getElem? (i := 36) rfl)) (hw _ (List.mem_of_getElem? (i := 35) rfl)) (by decide) (by decide)) (g := (mkF m 195 #[.val (.ref v), .val (.ref i), .val (.int (0 : Int32)), .val (.int (2 : Int32)), .val (.int (1 : Int32)), .val (.int (14 : Int32)), .val (.int (5 : Int32)), .val (.int (5 : Int32)), .val (.ref a4), .val (.int (2 : Int32)), .val (.int (30 : Int32)), .val (.int (16 : Int32)), .val (.int (5 : Int32)), .val (.int (1 : Int32)), .val (.int (30 : Int32)), .val (.int (29 : Int32)), .unset, .unset] [(.int (29 : Int32)), (.int (30 : Int32))])) rfl (by rw [hml]; rfl) (argsL := [(.int (29 : Int32))]) (rest := [(.int (30 : Int32))]) (lenOf pd_0 rfl) rfl (by show 2 * 0 + _ ≤ _; exact Nat.le_of_eq rfl) (hb hby d3_195) (fun _ _ => ⟨rfl, e15, (by decide : 1 + 0 ≤ _), (by decide : 2 + 0 ≤ _)⟩)
  dsimp only [Pt.U, Pt.locs, Pt.cells, Pt.slots] at X17 l17 y17 z17 st17 hQ17
  subst l17 y17 z17
  obtain ⟨rfl, N17q, eh17⟩ := hQ17
  have N17 := Fr.app N15 N17q
  refine oOn st17 ?_
  show oGl p e below (T17.setTop (mkF m 198 #[.val (.ref v), .val (.ref i), .val (.int (0 : Int32)), .val (.int (2 : Int32)), .val (.int (1 : Int32)), .val (.int (14 : Int32)), .val (.int (5 : Int32)), .val (.int (5 : Int32)), .val (.ref a4), .val (.int (2 : Int32)), .val (.int (30 : Int32)), .val (.int (16 : Int32)), .val (.int (5 : Int32)), .val (.int (1 : Int32)), .val (.int (30 : Int32)), .val (.int (29 : Int32)), .unset, .unset] [(.int (29 : Int32)), (.int (30 : Int32))])) _
  refine sisub X17 hx (hb hby d3_198) rfl (by decide) (z := (1 : Int32)) (pc' := 199) ?_
  refine sistore X17 hx (hb hby d3_199) rfl rfl (l' := #[.val (.ref v), .val (.ref i), .val (.int (0 : Int32)), .val (.int (2 : Int32)), .val (.int (1 : Int32)), .val (.int (14 : Int32)), .val (.int (5 : Int32)), .val (.int (5 : Int32)), .val (.ref a4), .val (.int (2 : Int32)), .val (.int (1 : Int32)), .val (.int (16 : Int32)), .val (.int (5 : Int32)), .val (.int (1 : Int32)), .val (.int (30 : Int32)), .val (.int (29 : Int32)), .unset, .unset]) (pc' := 201) ?_
  refine siload X17 hx (hb hby d3_201) rfl rfl (pc' := 203) ?_
  refine sifY X17 hx (hb hby d3_203) (by decide) (by decide) (feq (by decide : ¬ ((29 : Int32) = (0 : Int32)))).2 (pc' := 258) ?_
  refine siload X17 hx (hb hby d3_258) rfl rfl (pc' := 260) ?_
  refine siload X17 hx (hb hby d3_260) rfl rfl (pc' := 262) ?_
  refine sicN X17 hx (hb hby d3_262) rfl (tlt (by decide : (1 : Int32) < (16 : Int32))).2.1 (pc' := 265) ?_
  refine siinc X17 hx (hb hby d3_265) rfl rfl rfl (l' := #[.val (.ref v), .val (.ref i), .val (.int (0 : Int32)), .val (.int (2 : Int32)), .val (.int (1 : Int32)), .val (.int (14 : Int32)), .val (.int (5 : Int32)), .val (.int (5 : Int32)), .val (.ref a4), .val (.int (2 : Int32)), .val (.int (1 : Int32)), .val (.int (16 : Int32)), .val (.int (4 : Int32)), .val (.int (1 : Int32)), .val (.int (30 : Int32)), .val (.int (29 : Int32)), .unset, .unset]) (pc' := 268) ?_
  refine siload X17 hx (hb hby d3_268) rfl rfl (pc' := 270) ?_
  refine siconst X17 hx (hb hby d3_270) rfl rfl (z := 1) (pc' := 271) ?_
  refine sishr X17 hx (hb hby d3_271) rfl (by decide) (z := (8 : Int32)) (pc' := 272) ?_
  refine sistore X17 hx (hb hby d3_272) rfl rfl (l' := #[.val (.ref v), .val (.ref i), .val (.int (0 : Int32)), .val (.int (2 : Int32)), .val (.int (1 : Int32)), .val (.int (14 : Int32)), .val (.int (5 : Int32)), .val (.int (5 : Int32)), .val (.ref a4), .val (.int (2 : Int32)), .val (.int (1 : Int32)), .val (.int (8 : Int32)), .val (.int (4 : Int32)), .val (.int (1 : Int32)), .val (.int (30 : Int32)), .val (.int (29 : Int32)), .unset, .unset]) (pc' := 274) ?_
  refine sgoto X17 hx (hb hby d3_274) (by decide) (by decide)  (pc' := 258) ?_
  refine siload X17 hx (hb hby d3_258) rfl rfl (pc' := 260) ?_
  refine siload X17 hx (hb hby d3_260) rfl rfl (pc' := 262) ?_
  refine sicN X17 hx (hb hby d3_262) rfl (tlt (by decide : (1 : Int32) < (8 : Int32))).2.1 (pc' := 265) ?_
  refine siinc X17 hx (hb hby d3_265) rfl rfl rfl (l' := #[.val (.ref v), .val (.ref i), .val (.int (0 : Int32)), .val (.int (2 : Int32)), .val (.int (1 : Int32)), .val (.int (14 : Int32)), .val (.int (5 : Int32)), .val (.int (5 : Int32)), .val (.ref a4), .val (.int (2 : Int32)), .val (.int (1 : Int32)), .val (.int (8 : Int32)), .val (.int (3 : Int32)), .val (.int (1 : Int32)), .val (.int (30 : Int32)), .val (.int (29 : Int32)), .unset, .unset]) (pc' := 268) ?_
  refine siload X17 hx (hb hby d3_268) rfl rfl (pc' := 270) ?_
  refine siconst X17 hx (hb hby d3_270) rfl rfl (z := 1) (pc' := 271) ?_
  refine sishr X17 hx (hb hby d3_271) rfl (by decide) (z := (4 : Int32)) (pc' := 272) ?_
  refine sistore X17 hx (hb hby d3_272) rfl rfl (l' := #[.val (.ref v), .val (.ref i), .val (.int (0 : Int32)), .val (.int (2 : Int32)), .val (.int (1 : Int32)), .val (.int (14 : Int32)), .val (.int (5 : Int32)), .val (.int (5 : Int32)), .val (.ref a4), .val (.int (2 : Int32)), .val (.int (1 : Int32)), .val (.int (4 : Int32)), .val (.int (3 : Int32)), .val (.int (1 : Int32)), .val (.int (30 : Int32)), .val (.int (29 : Int32)), .unset, .unset]) (pc' := 274) ?_
  refine sgoto X17 hx (hb hby d3_274) (by decide) (by decide)  (pc' := 258) ?_
  refine siload X17 hx (hb hby d3_258) rfl rfl (pc' := 260) ?_
  refine siload X17 hx (hb hby d3_260) rfl rfl (pc' := 262) ?_
  refine sicN X17 hx (hb hby d3_262) rfl (tlt (by decide : (1 : Int32) < (4 : Int32))).2.1 (pc' := 265) ?_
  refine siinc X17 hx (hb hby d3_265) rfl rfl rfl (l' := #[.val (.ref v), .val (.ref i), .val (.int (0 : Int32)), .val (.int (2 : Int32)), .val (.int (1 : Int32)), .val (.int (14 : Int32)), .val (.int (5 : Int32)), .val (.int (5 : Int32)), .val (.ref a4), .val (.int (2 : Int32)), .val (.int (1 : Int32)), .val (.int (4 : Int32)), .val (.int (2 : Int32)), .val (.int (1 : Int32)), .val (.int (30 : Int32)), .val (.int (29 : Int32)), .unset, .unset]) (pc' := 268) ?_
  refine siload X17 hx (hb hby d3_268) rfl rfl (pc' := 270) ?_
  refine siconst X17 hx (hb hby d3_270) rfl rfl (z := 1) (pc' := 271) ?_
  refine sishr X17 hx (hb hby d3_271) rfl (by decide) (z := (2 : Int32)) (pc' := 272) ?_
  refine sistore X17 hx (hb hby d3_272) rfl rfl (l' := #[.val (.ref v), .val (.ref i), .val (.int (0 : Int32)), .val (.int (2 : Int32)), .val (.int (1 : Int32)), .val (.int (14 : Int32)), .val (.int (5 : Int32)), .val (.int (5 : Int32)), .val (.ref a4), .val (.int (2 : Int32)), .val (.int (1 : Int32)), .val (.int (2 : Int32)), .val (.int (2 : Int32)), .val (.int (1 : Int32)), .val (.int (30 : Int32)), .val (.int (29 : Int32)), .unset, .unset]) (pc' := 274) ?_
  refine sgoto X17 hx (hb hby d3_274) (by decide) (by decide)  (pc' := 258) ?_
  refine siload X17 hx (hb hby d3_258) rfl rfl (pc' := 260) ?_
  refine siload X17 hx (hb hby d3_260) rfl rfl (pc' := 262) ?_
  refine sicN X17 hx (hb hby d3_262) rfl (tlt (by decide : (1 : Int32) < (2 : Int32))).2.1 (pc' := 265) ?_
  refine siinc X17 hx (hb hby d3_265) rfl rfl rfl (l' := #[.val (.ref v), .val (.ref i), .val (.int (0 : Int32)), .val (.int (2 : Int32)), .val (.int (1 : Int32)), .val (.int (14 : Int32)), .val (.int (5 : Int32)), .val (.int (5 : Int32)), .val (.ref a4), .val (.int (2 : Int32)), .val (.int (1 : Int32)), .val (.int (2 : Int32)), .val (.int (1 : Int32)), .val (.int (1 : Int32)), .val (.int (30 : Int32)), .val (.int (29 : Int32)), .unset, .unset]) (pc' := 268) ?_
  refine siload X17 hx (hb hby d3_268) rfl rfl (pc' := 270) ?_
  refine siconst X17 hx (hb hby d3_270) rfl rfl (z := 1) (pc' := 271) ?_
  refine sishr X17 hx (hb hby d3_271) rfl (by decide) (z := (1 : Int32)) (pc' := 272) ?_
  refine sistore X17 hx (hb hby d3_272) rfl rfl (l' := #[.val (.ref v), .val (.ref i), .val (.int (0 : Int32)), .val (.int (2 : Int32)), .val (.int (1 : Int32)), .val (.int (14 : Int32)), .val (.int (5 : Int32)), .val (.int (5 : Int32)), .val (.ref a4), .val (.int (2 : Int32)), .val (.int (1 : Int32)), .val (.int (1 : Int32)), .val (.int (1 : Int32)), .val (.int (1 : Int32)), .val (.int (30 : Int32)), .val (.int (29 : Int32)), .unset, .unset]) (pc' := 274) ?_
  refine sgoto X17 hx (hb hby d3_274) (by decide) (by decide)  (pc' := 258) ?_
  refine siload X17 hx (hb hby d3_258) rfl rfl (pc' := 260) ?_
  refine siload X17 hx (hb hby d3_260) rfl rfl (pc' := 262) ?_
  refine sicY X17 hx (hb hby d3_262) (by decide) (by decide) (flt (by decide : ¬ ((1 : Int32) < (1 : Int32)))).2.1 (pc' := 277) ?_
  refine sgoto X17 hx (hb hby d3_277) (by decide) (by decide)  (pc' := 84) ?_
  refine siload X17 hx (hb hby d3_84) rfl rfl (pc' := 86) ?_
  refine siconst X17 hx (hb hby d3_86) rfl rfl (z := 1) (pc' := 87) ?_
  refine sicY X17 hx (hb hby d3_87) (by decide) (by decide) (flt (by decide : ¬ ((1 : Int32) < (1 : Int32)))).2.2.2 (pc' := 280) ?_
  refine siload X17 hx (hb hby d3_280) rfl rfl (pc' := 282) ?_
  refine sbipush X17 hx (hb hby d3_282) rfl rfl (z := 8) (pc' := 284) ?_
  refine siadd X17 hx (hb hby d3_284) rfl (by decide) (z := (22 : Int32)) (pc' := 285) ?_
  refine siconst X17 hx (hb hby d3_285) rfl rfl (z := 1) (pc' := 286) ?_
  refine sisub X17 hx (hb hby d3_286) rfl (by decide) (z := (21 : Int32)) (pc' := 287) ?_
  refine sbipush X17 hx (hb hby d3_287) rfl rfl (z := 8) (pc' := 289) ?_
  refine sidiv X17 hx (hb hby d3_289) rfl (by decide) (by decide) (z := (2 : Int32)) (pc' := 290) ?_
  refine sistore X17 hx (hb hby d3_290) rfl rfl (l' := #[.val (.ref v), .val (.ref i), .val (.int (0 : Int32)), .val (.int (2 : Int32)), .val (.int (1 : Int32)), .val (.int (14 : Int32)), .val (.int (5 : Int32)), .val (.int (5 : Int32)), .val (.ref a4), .val (.int (2 : Int32)), .val (.int (1 : Int32)), .val (.int (1 : Int32)), .val (.int (1 : Int32)), .val (.int (2 : Int32)), .val (.int (30 : Int32)), .val (.int (29 : Int32)), .unset, .unset]) (pc' := 292) ?_
  refine siload X17 hx (hb hby d3_292) rfl rfl (pc' := 294) ?_
  refine siloadN X17 hx (hb hby d3_294) rfl rfl (pc' := 295) ?_
  refine siloadN X17 hx (hb hby d3_295) rfl rfl (pc' := 296) ?_
  refine sisub X17 hx (hb hby d3_296) rfl (by decide) (z := (2 : Int32)) (pc' := 297) ?_
  refine sicY X17 hx (hb hby d3_297) (by decide) (by decide) (flt (by decide : ¬ ((2 : Int32) < (2 : Int32)))).2.2.2 (pc' := 310) ?_
  refine saloadN X17 hx (hb hby d3_310) rfl rfl rfl (pc' := 311) ?_
  refine saload X17 hx (hb hby d3_311) rfl rfl rfl (pc' := 313) ?_
  refine siload X17 hx (hb hby d3_313) rfl rfl (pc' := 315) ?_
  refine siload X17 hx (hb hby d3_315) rfl rfl (pc' := 317) ?_
  have f18 := (((E0.ext E4).wr W9).wr W15)
  have f19 := (((F0.ext E4).other W9 (Or.inl (oNe (by omega)))).other W15 (Or.inl (oNe (by omega))))
  have f20 := (((F1.ext E4).other W9 (Or.inl (oNe (by omega)))).other W15 (Or.inl (oNe (by omega))))
  have f21 := (((F2.ext E4).other W9 (Or.inl (oNe (by omega)))).other W15 (Or.inl (oNe (by omega))))
  have f22 := (((F3.ext E4).other W9 (Or.inl (oNe (by omega)))).other W15 (Or.inl (oNe (by omega))))
  have f23 := (((PV0.ext E4).other W9 (oNe (by omega))).other W15 (oNe (by omega)))
  have f24 := (((PV1.ext E4).other W9 (oNe (by omega))).other W15 (oNe (by omega)))
  have f25 := (((PV2.ext E4).other W9 (oNe (by omega))).other W15 (oNe (by omega)))
  have hz26 : n0 ≤ h15.size := by omega
  obtain ⟨cq26, q26, q26'⟩ := f18.cell
  obtain ⟨_, _, ⟨T26, L26, k26, n26⟩, -, X26, ⟨Lc26, hQ26, l26, y26, z26⟩, st26⟩ := X17.privateBack hx (y := (⟨"com/example/moraine/moraine/compression/FseTable", "build", "([SII)V"⟩ : MethodName)) hown (mvT hZ (hw _ (List.mem_of_getElem? (i := 37) rfl))) (mvT hZ (hw _ (List.mem_of_getElem? (i := 38) rfl))) (oPriv (mvT hZ (hw _ (List.mem_of_getElem? (i := 2) rfl))) (Cond.privateMethod_at (mvP hZ (hw _ (List.mem_of_getElem? (i := 39) rfl)) (args := #[]))) (mvT hZ (hw _ (List.mem_of_getElem? (i := 38) rfl))) (by decide)) (Cond.privateMethod_at (mvP hZ (hw _ (List.mem_of_getElem? (i := 39) rfl)) (args := #[]))) (mvT hZ (hw _ (List.mem_of_getElem? (i := 40) rfl))) (by decide) (backOf (W := 0) (rmBuild l Z a0 hw [] v sa ba la a4 32 lg (fun _ => 0) fb fl h15 n0 hz26 f18 f19 f20 f21 f22 f23 f24 f25 gv gs gb gl dd (by decide) (fun _ => Or.inl rfl) V15 (by omega) (by omega)) hZ (hw _ (List.mem_of_getElem? (i := 40) rfl)) (hw _ (List.mem_of_getElem? (i := 3) rfl)) (by decide) (by decide)) (g := (mkF m 317 #[.val (.ref v), .val (.ref i), .val (.int (0 : Int32)), .val (.int (2 : Int32)), .val (.int (1 : Int32)), .val (.int (14 : Int32)), .val (.int (5 : Int32)), .val (.int (5 : Int32)), .val (.ref a4), .val (.int (2 : Int32)), .val (.int (1 : Int32)), .val (.int (1 : Int32)), .val (.int (1 : Int32)), .val (.int (2 : Int32)), .val (.int (30 : Int32)), .val (.int (29 : Int32)), .unset, .unset] [(.int (5 : Int32)), (.int (2 : Int32)), (.ref a4), (.ref v)])) rfl (by rw [hml]; rfl) (Steps.refl _) (a := v) (by rw [eh17]; exact q26) q26' (argsL := [(.ref a4), (.int (2 : Int32)), (.int (5 : Int32))]) (rest := []) (lenOf pd_3 rfl) rfl (by show 2 * 0 + _ ≤ _; exact Nat.le_of_eq rfl) (hb hby d3_317) (fun _ _ => ⟨rfl, eh17, (by decide : 1 + 1 ≤ _), (by decide : 2 + 2 ≤ _)⟩)
  dsimp only [Pt.U, Pt.locs, Pt.cells, Pt.slots] at X26 l26 y26 z26 st26 hQ26
  subst l26 y26 z26
  obtain ⟨fs26, fb26, fl26, rfl, N26q, K26, Ei26, Fa26, Fb26, Fc26, Fd26, Va26, Vb26, Vc26⟩ := hQ26
  have N26 := Fr.app N17 N26q
  have z27 : h15.size ≤ T26.heap.size := K26.1
  refine oSt st26 ?_
  show oGl p e below (T26.setTop (mkF m 320 #[.val (.ref v), .val (.ref i), .val (.int (0 : Int32)), .val (.int (2 : Int32)), .val (.int (1 : Int32)), .val (.int (14 : Int32)), .val (.int (5 : Int32)), .val (.int (5 : Int32)), .val (.ref a4), .val (.int (2 : Int32)), .val (.int (1 : Int32)), .val (.int (1 : Int32)), .val (.int (1 : Int32)), .val (.int (2 : Int32)), .val (.int (30 : Int32)), .val (.int (29 : Int32)), .unset, .unset] [])) _
  refine siload X26 hx (hb hby d3_320) rfl rfl (pc' := 322) ?_
  have kp28 : Keep h0 T26.heap [v, sa, ba, la] := (((((Keep.refl h0 [v, sa, ba, la]).ext E4).wr W9 (Or.inr (by omega))).wr W15 (Or.inr (by omega))).trans K26 (allS (Or.inl (List.mem_of_getElem? (i := 0) rfl)) (allS (Or.inl (List.mem_of_getElem? (i := 1) rfl)) (allS (Or.inl (List.mem_of_getElem? (i := 2) rfl)) (allS (Or.inl (List.mem_of_getElem? (i := 3) rfl)) all0)))))
  refine oRetI X26 hx Bd.notSynchronized Bd.returns (hb hby d3_322) (by decide) (by decide) ?_
  show Q_rmRead32 Z v sa ba la i lg fb fl h0 n0 _ T26.heap _
  exact ⟨_, _, _, _, rfl, N26, kp28, Ei26, Fa26, Fb26, Fc26, Fd26, Va26, Vb26, Vc26⟩
theorem d1_0 : decode prog_7_method_1_code 0 = .ok (.aload_n 0, 1) := by decide +kernel
theorem d1_1 : decode prog_7_method_1_code 1 = .ok (.invokespecial 1, 3) := by decide +kernel
theorem d1_4 : decode prog_7_method_1_code 4 = .ok (.aload_n 0, 1) := by decide +kernel
theorem d1_5 : decode prog_7_method_1_code 5 = .ok (.iconst 1, 1) := by decide +kernel
theorem d1_6 : decode prog_7_method_1_code 6 = .ok (.iload_n 1, 1) := by decide +kernel
theorem d1_7 : decode prog_7_method_1_code 7 = .ok (.ishl, 1) := by decide +kernel
theorem d1_8 : decode prog_7_method_1_code 8 = .ok (.newarray .byte, 2) := by decide +kernel
theorem d1_10 : decode prog_7_method_1_code 10 = .ok (.putfield 7, 3) := by decide +kernel
theorem d1_13 : decode prog_7_method_1_code 13 = .ok (.aload_n 0, 1) := by decide +kernel
theorem d1_14 : decode prog_7_method_1_code 14 = .ok (.iconst 1, 1) := by decide +kernel
theorem d1_15 : decode prog_7_method_1_code 15 = .ok (.iload_n 1, 1) := by decide +kernel
theorem d1_16 : decode prog_7_method_1_code 16 = .ok (.ishl, 1) := by decide +kernel
theorem d1_17 : decode prog_7_method_1_code 17 = .ok (.newarray .byte, 2) := by decide +kernel
theorem d1_19 : decode prog_7_method_1_code 19 = .ok (.putfield 13, 3) := by decide +kernel
theorem d1_22 : decode prog_7_method_1_code 22 = .ok (.aload_n 0, 1) := by decide +kernel
theorem d1_23 : decode prog_7_method_1_code 23 = .ok (.iconst 1, 1) := by decide +kernel
theorem d1_24 : decode prog_7_method_1_code 24 = .ok (.iload_n 1, 1) := by decide +kernel
theorem d1_25 : decode prog_7_method_1_code 25 = .ok (.ishl, 1) := by decide +kernel
theorem d1_26 : decode prog_7_method_1_code 26 = .ok (.newarray .short, 2) := by decide +kernel
theorem d1_28 : decode prog_7_method_1_code 28 = .ok (.putfield 16, 3) := by decide +kernel
theorem d1_31 : decode prog_7_method_1_code 31 = .ok (.return_, 1) := by decide +kernel
theorem ef_rmInit32 (m : MethodId) (x0 : Nat) (x1 : Int32)  : entryFrame m #[(.ref x0), (.int x1)] 2 = mkF m 0 #[.val (.ref x0), .val (.int x1)] [] := by first | (simp [entryFrame, mkF, argsToLocals, Value.category, maxLocals]; done) | rfl
def Q_rmInit32 (Z : State) (v : Nat) (h0 : Heap) (n0 : Nat) (vv : Option Value) (h : Heap) (L : List Loc) : Prop := ∃ sa ba la : Nat, vv = none ∧ Fr n0 L ∧ Keep h0 h [v] ∧ Exa Z h v "com/example/moraine/moraine/compression/FseTable" ∧ Fld Z h v "com/example/moraine/moraine/compression/FseTable" "symbols" "[B" (.ref sa) ∧ Fld Z h v "com/example/moraine/moraine/compression/FseTable" "bits" "[B" (.ref ba) ∧ Fld Z h v "com/example/moraine/moraine/compression/FseTable" "baselines" "[S" (.ref la) ∧ Fld Z h v "com/example/moraine/moraine/compression/FseTable" "log" "I" (.int 0) ∧ oAI Z h sa .byte 32 (fun _ => 0) ∧ oAI Z h ba .byte 32 (fun _ => 0) ∧ oAI Z h la .short 32 (fun _ => 0) ∧ h0.size ≤ sa ∧ v < sa ∧ sa < ba ∧ ba < la
set_option maxRecDepth 65536 in
set_option maxHeartbeats 40000000 in
theorem rmInit32 (l : Launch) (Z : State) (a0 : Array Value) (hw : ∀ d ∈ tables_1, d.before a0 Z = true) (ws : List Jvm.Cond) (v : Nat) (h0 : Heap) (n0 : Nat) (Z0 : n0 ≤ h0.size) (E0 : Exa Z h0 v "com/example/moraine/moraine/compression/FseTable") (F0 : Fld Z h0 v "com/example/moraine/moraine/compression/FseTable" "symbols" "[B" .null) (F1 : Fld Z h0 v "com/example/moraine/moraine/compression/FseTable" "bits" "[B" .null) (F2 : Fld Z h0 v "com/example/moraine/moraine/compression/FseTable" "baselines" "[S" .null) (F3 : Fld Z h0 v "com/example/moraine/moraine/compression/FseTable" "log" "I" (.int 0)) (gv : n0 ≤ v) :
    MetFree l (⟨"com/example/moraine/moraine/compression/FseTable", "<init>", "(I)V"⟩ : MethodName) (head1 (Jvm.Cond.code (⟨"com/example/moraine/moraine/compression/FseTable", "<init>", "(I)V"⟩ : MethodName) prog_7_method_1_code 2 (none : Option FieldType) :: ws) ({ frames := 1, cells := 3, slots := 96, locals := 12 } : Room)) (fun aA uU => aA = #[(.ref v), (.int (5 : Int32))] ∧ Z.Warmed39 uU.vm ∧ uU.heap = h0) (fun _ _ _ _ _ => True) (fun _ uU oO uU' => ∃ vV lL, oO = .returned vV ∧ Q_rmInit32 Z v h0 n0 vV uU'.heap lL ∧ FrameEnd uU oO uU' lL ({ frames := 1, cells := 3, slots := 96, locals := 12 } : Room).cells ({ frames := 1, cells := 3, slots := 96, locals := 12 } : Room).slots) := by
  refine MetFree.of_bodySF (plainFor_of_name pn_FseTable) hisR ?_
  intro p e s m args below meth c s₁ Bd hml0 hP hK
  obtain ⟨rfl, hZ, hh⟩ := hP
  have hx := Bd.exec
  have hby := Bd.bytes
  have hml : c.maxLocals = 2 := hml0
  have hown : s.vm.findClass "com/example/moraine/moraine/compression/FseTable" = some m.cls := findClass_of_methodNamed Bd.named
  have hnm := (name_of_methodNamed Bd.named Bd.method).1
  have X0 : Stand p l e ({ frames := 1, cells := 3, slots := 96, locals := 12 } : Room) s m #[(.ref v), (.int (5 : Int32))] below meth c s₁ [] 0 0 := Stand.of_body Bd
  have e0 : s₁.heap = h0 := by rw [← hh, Bd.state]; rfl
  have N0 := Fr.nil n0
  have lv : @LT.lt Nat _ v h0.size := E0.lt
  refine oEnter (oCast (ef_rmInit32 m v (5 : Int32) ) ?_)
  show oGl p e below (s₁.setTop (mkF m 0 #[.val (.ref v), .val (.int (5 : Int32))] [])) _
  refine saloadN X0 hx (hb hby d1_0) rfl rfl rfl (pc' := 1) ?_
  obtain ⟨T1, X1, e1, st1⟩ := initO X0 hx hZ hown (hw _ (List.mem_of_getElem? (i := 7) rfl)) (hw _ (List.mem_of_getElem? (i := 8) rfl)) (hw _ (List.mem_of_getElem? (i := 9) rfl)) e0 (g := (mkF m 1 #[.val (.ref v), .val (.int (5 : Int32))] [(.ref v)])) rfl (by rw [hml]; rfl) rfl (hb hby d1_1) (by decide) (W := 0) (by show 2 * 0 + _ ≤ _; exact Nat.le_of_eq rfl) (by decide)
  refine oOn st1 ?_
  show oGl p e below (T1.setTop (mkF m 4 #[.val (.ref v), .val (.int (5 : Int32))] [])) _
  refine saloadN X1 hx (hb hby d1_4) rfl rfl rfl (pc' := 5) ?_
  refine siconst X1 hx (hb hby d1_5) rfl rfl (z := 1) (pc' := 6) ?_
  refine siloadN X1 hx (hb hby d1_6) rfl rfl (pc' := 7) ?_
  refine sishl X1 hx (hb hby d1_7) rfl (by decide) (z := (32 : Int32)) (pc' := 8) ?_
  obtain ⟨T2, h2, k2, X2, e2, E2, A2, st2⟩ := newP X1 hx hZ (hw _ (List.mem_of_getElem? (i := 0) rfl)) e1 (g := (mkF m 8 #[.val (.ref v), .val (.int (5 : Int32))] [(.int (32 : Int32)), (.ref v)])) rfl (hb hby d1_8) rfl (by decide) (cap := 32) (by decide) (by decide) (by decide) (by decide)
  obtain ⟨a2, g2⟩ : ∃ z, z = h0.size := ⟨_, rfl⟩
  rw [← g2] at A2 st2
  refine oOn st2 ?_
  have z3 : h0.size ≤ h2.size := E2.1
  have lt2 : a2 < h2.size := A2.lt
  have V2 : oAI Z h2 a2 .byte 32 (fun _ => 0) := oAI.new A2 rfl
  show oGl p e below (T2.setTop (mkF m 10 #[.val (.ref v), .val (.int (5 : Int32))] [(.ref a2), (.ref v)])) _
  have f5 := (F0.ext E2)
  have f6 := (E0.ext E2)
  obtain ⟨T4, h4, X4, e4, W4, st4⟩ := putF X2 hx hZ hown (host := "") (Or.inl (hw _ (List.mem_of_getElem? (i := 10) rfl))) Via.refl e2 f5 f6 (Or.inr ⟨(hw _ (List.mem_of_getElem? (i := 11) rfl)), rfl, hnm⟩) (hw _ (List.mem_of_getElem? (i := 2) rfl)) (ty := (.array .byte)) (by decide) rfl rfl (g := (mkF m 10 #[.val (.ref v), .val (.int (5 : Int32))] [(.ref a2), (.ref v)])) rfl rfl (hb hby d1_10)
  refine oOn st4 ?_
  have z7 : h2.size ≤ h4.size := Nat.le_of_eq W4.size.symm
  have N4 := Fr.snoc X4 N0 (by omega)
  have f4 := Fld.same W4 f5
  show oGl p e below (T4.setTop (mkF m 13 #[.val (.ref v), .val (.int (5 : Int32))] [])) _
  refine saloadN X4 hx (hb hby d1_13) rfl rfl rfl (pc' := 14) ?_
  refine siconst X4 hx (hb hby d1_14) rfl rfl (z := 1) (pc' := 15) ?_
  refine siloadN X4 hx (hb hby d1_15) rfl rfl (pc' := 16) ?_
  refine sishl X4 hx (hb hby d1_16) rfl (by decide) (z := (32 : Int32)) (pc' := 17) ?_
  obtain ⟨T8, h8, k8, X8, e8, E8, A8, st8⟩ := newP X4 hx hZ (hw _ (List.mem_of_getElem? (i := 0) rfl)) e4 (g := (mkF m 17 #[.val (.ref v), .val (.int (5 : Int32))] [(.int (32 : Int32)), (.ref v)])) rfl (hb hby d1_17) rfl (by decide) (cap := 32) (by decide) (by decide) (by decide) (by decide)
  obtain ⟨a8, g8⟩ : ∃ z, z = h4.size := ⟨_, rfl⟩
  rw [← g8] at A8 st8
  refine oOn st8 ?_
  have z9 : h4.size ≤ h8.size := E8.1
  have lt8 : a8 < h8.size := A8.lt
  have V8 : oAI Z h8 a8 .byte 32 (fun _ => 0) := oAI.new A8 rfl
  show oGl p e below (T8.setTop (mkF m 19 #[.val (.ref v), .val (.int (5 : Int32))] [(.ref a8), (.ref v)])) _
  have f11 := (((F1.ext E2).other W4 (Or.inr (slot_ne (Or.inr (hw _ (List.mem_of_getElem? (i := 13) rfl))) (Or.inr (hw _ (List.mem_of_getElem? (i := 11) rfl))) (by decide) (t := (.array .byte)) (t' := (.array .byte)) (by decide) (by decide)))).ext E8)
  have f12 := ((f6.wr W4).ext E8)
  obtain ⟨T10, h10, X10, e10, W10, st10⟩ := putF X8 hx hZ hown (host := "") (Or.inl (hw _ (List.mem_of_getElem? (i := 12) rfl))) Via.refl e8 f11 f12 (Or.inr ⟨(hw _ (List.mem_of_getElem? (i := 13) rfl)), rfl, hnm⟩) (hw _ (List.mem_of_getElem? (i := 2) rfl)) (ty := (.array .byte)) (by decide) rfl rfl (g := (mkF m 19 #[.val (.ref v), .val (.int (5 : Int32))] [(.ref a8), (.ref v)])) rfl rfl (hb hby d1_19)
  refine oOn st10 ?_
  have z13 : h8.size ≤ h10.size := Nat.le_of_eq W10.size.symm
  have N10 := Fr.snoc X10 N4 (by omega)
  have f10 := Fld.same W10 f11
  show oGl p e below (T10.setTop (mkF m 22 #[.val (.ref v), .val (.int (5 : Int32))] [])) _
  refine saloadN X10 hx (hb hby d1_22) rfl rfl rfl (pc' := 23) ?_
  refine siconst X10 hx (hb hby d1_23) rfl rfl (z := 1) (pc' := 24) ?_
  refine siloadN X10 hx (hb hby d1_24) rfl rfl (pc' := 25) ?_
  refine sishl X10 hx (hb hby d1_25) rfl (by decide) (z := (32 : Int32)) (pc' := 26) ?_
  obtain ⟨T14, h14, k14, X14, e14, E14, A14, st14⟩ := newP X10 hx hZ (hw _ (List.mem_of_getElem? (i := 14) rfl)) e10 (g := (mkF m 26 #[.val (.ref v), .val (.int (5 : Int32))] [(.int (32 : Int32)), (.ref v)])) rfl (hb hby d1_26) rfl (by decide) (cap := 32) (by decide) (by decide) (by decide) (by decide)
  obtain ⟨a14, g14⟩ : ∃ z, z = h10.size := ⟨_, rfl⟩
  rw [← g14] at A14 st14
  refine oOn st14 ?_
  have z15 : h10.size ≤ h14.size := E14.1
  have lt14 : a14 < h14.size := A14.lt
  have V14 : oAI Z h14 a14 .short 32 (fun _ => 0) := oAI.new A14 rfl
  show oGl p e below (T14.setTop (mkF m 28 #[.val (.ref v), .val (.int (5 : Int32))] [(.ref a14), (.ref v)])) _
  have f17 := (((((F2.ext E2).other W4 (Or.inr (slot_ne (Or.inr (hw _ (List.mem_of_getElem? (i := 16) rfl))) (Or.inr (hw _ (List.mem_of_getElem? (i := 11) rfl))) (by decide) (t := (.array .short)) (t' := (.array .byte)) (by decide) (by decide)))).ext E8).other W10 (Or.inr (slot_ne (Or.inr (hw _ (List.mem_of_getElem? (i := 16) rfl))) (Or.inr (hw _ (List.mem_of_getElem? (i := 13) rfl))) (by decide) (t := (.array .short)) (t' := (.array .byte)) (by decide) (by decide)))).ext E14)
  have f18 := ((f12.wr W10).ext E14)
  obtain ⟨T16, h16, X16, e16, W16, st16⟩ := putF X14 hx hZ hown (host := "") (Or.inl (hw _ (List.mem_of_getElem? (i := 15) rfl))) Via.refl e14 f17 f18 (Or.inr ⟨(hw _ (List.mem_of_getElem? (i := 16) rfl)), rfl, hnm⟩) (hw _ (List.mem_of_getElem? (i := 2) rfl)) (ty := (.array .short)) (by decide) rfl rfl (g := (mkF m 28 #[.val (.ref v), .val (.int (5 : Int32))] [(.ref a14), (.ref v)])) rfl rfl (hb hby d1_28)
  refine oOn st16 ?_
  have z19 : h14.size ≤ h16.size := Nat.le_of_eq W16.size.symm
  have N16 := Fr.snoc X16 N10 (by omega)
  have f16 := Fld.same W16 f17
  show oGl p e below (T16.setTop (mkF m 31 #[.val (.ref v), .val (.int (5 : Int32))] [])) _
  have kp20 : Keep h0 h16 [v] := (((((((Keep.refl h0 [v]).ext E2).wr W4 (Or.inl (List.mem_of_getElem? (i := 0) rfl))).ext E8).wr W10 (Or.inl (List.mem_of_getElem? (i := 0) rfl))).ext E14).wr W16 (Or.inl (List.mem_of_getElem? (i := 0) rfl)))
  have f21 := (f18.wr W16)
  have f22 := ((((f4.ext E8).other W10 (Or.inr (slot_ne (Or.inr (hw _ (List.mem_of_getElem? (i := 11) rfl))) (Or.inr (hw _ (List.mem_of_getElem? (i := 13) rfl))) (by decide) (t := (.array .byte)) (t' := (.array .byte)) (by decide) (by decide)))).ext E14).other W16 (Or.inr (slot_ne (Or.inr (hw _ (List.mem_of_getElem? (i := 11) rfl))) (Or.inr (hw _ (List.mem_of_getElem? (i := 16) rfl))) (by decide) (t := (.array .byte)) (t' := (.array .short)) (by decide) (by decide))))
  have f23 := ((f10.ext E14).other W16 (Or.inr (slot_ne (Or.inr (hw _ (List.mem_of_getElem? (i := 13) rfl))) (Or.inr (hw _ (List.mem_of_getElem? (i := 16) rfl))) (by decide) (t := (.array .byte)) (t' := (.array .short)) (by decide) (by decide))))
  have f24 := ((((((F3.ext E2).other W4 (Or.inr (slot_ne (Or.inl (hw _ (List.mem_of_getElem? (i := 46) rfl))) (Or.inr (hw _ (List.mem_of_getElem? (i := 11) rfl))) (by decide) (t := .int) (t' := (.array .byte)) (by decide) (by decide)))).ext E8).other W10 (Or.inr (slot_ne (Or.inl (hw _ (List.mem_of_getElem? (i := 46) rfl))) (Or.inr (hw _ (List.mem_of_getElem? (i := 13) rfl))) (by decide) (t := .int) (t' := (.array .byte)) (by decide) (by decide)))).ext E14).other W16 (Or.inr (slot_ne (Or.inl (hw _ (List.mem_of_getElem? (i := 46) rfl))) (Or.inr (hw _ (List.mem_of_getElem? (i := 16) rfl))) (by decide) (t := .int) (t' := (.array .short)) (by decide) (by decide))))
  have f25 := (((((V2.other W4 (oNe (by omega))).ext E8).other W10 (oNe (by omega))).ext E14).other W16 (oNe (by omega)))
  have f26 := (((V8.other W10 (oNe (by omega))).ext E14).other W16 (oNe (by omega)))
  have f27 := (V14.other W16 (oNe (by omega)))
  refine oRet0 X16 hx Bd.notSynchronized Bd.returns (hb hby d1_31) (by decide) (by decide) ?_
  show Q_rmInit32 Z v h0 n0 _ T16.heap _
  rw [e16]
  exact ⟨a2, a8, a14, rfl, N16, kp20, f21, f22, f23, f16, f24, f25, f26, f27, by omega, by omega, by omega, by omega⟩
theorem ef_rmRead64 (m : MethodId) (x0 : Nat) (x1 : Nat) (x2 : Int32) (x3 : Int32) (x4 : Int32)  : entryFrame m #[(.ref x0), (.ref x1), (.int x2), (.int x3), (.int x4)] 18 = mkF m 0 #[.val (.ref x0), .val (.ref x1), .val (.int x2), .val (.int x3), .val (.int x4), .unset, .unset, .unset, .unset, .unset, .unset, .unset, .unset, .unset, .unset, .unset, .unset, .unset] [] := by first | (simp [entryFrame, mkF, argsToLocals, Value.category, maxLocals]; done) | rfl
def Q_rmRead64 (Z : State) (v sa ba la : Nat) (i : Nat) (lg : Int32) (fb fl : Nat → Int32) (h0 : Heap) (n0 : Nat) (vv : Option Value) (h : Heap) (L : List Loc) : Prop := ∃ (r : Int32) (fs fb fl : Nat → Int32), vv = some (.int r) ∧ Fr n0 L ∧ Keep h0 h [v, sa, ba, la] ∧ Exa Z h v "com/example/moraine/moraine/compression/FseTable" ∧ Fld Z h v "com/example/moraine/moraine/compression/FseTable" "symbols" "[B" (.ref sa) ∧ Fld Z h v "com/example/moraine/moraine/compression/FseTable" "bits" "[B" (.ref ba) ∧ Fld Z h v "com/example/moraine/moraine/compression/FseTable" "baselines" "[S" (.ref la) ∧ Fld Z h v "com/example/moraine/moraine/compression/FseTable" "log" "I" (.int 5) ∧ oAI Z h sa .byte 64 fs ∧ oAI Z h ba .byte 64 fb ∧ oAI Z h la .short 64 fl
set_option maxRecDepth 65536 in
set_option maxHeartbeats 40000000 in
theorem rmRead64 (l : Launch) (Z : State) (a0 : Array Value) (hw : ∀ d ∈ tables_1, d.before a0 Z = true) (ws : List Jvm.Cond) (v sa ba la : Nat) (i : Nat) (lg : Int32) (fb fl : Nat → Int32) (h0 : Heap) (n0 : Nat) (Z0 : n0 ≤ h0.size) (E0 : Exa Z h0 v "com/example/moraine/moraine/compression/FseTable") (F0 : Fld Z h0 v "com/example/moraine/moraine/compression/FseTable" "symbols" "[B" (.ref sa)) (F1 : Fld Z h0 v "com/example/moraine/moraine/compression/FseTable" "bits" "[B" (.ref ba)) (F2 : Fld Z h0 v "com/example/moraine/moraine/compression/FseTable" "baselines" "[S" (.ref la)) (F3 : Fld Z h0 v "com/example/moraine/moraine/compression/FseTable" "log" "I" (.int lg)) (PV0 : oAI Z h0 sa .byte 64 (fun _ => 0)) (PV1 : oAI Z h0 ba .byte 64 fb) (PV2 : oAI Z h0 la .short 64 fl) (gv : n0 ≤ v) (gs : n0 ≤ sa) (gb : n0 ≤ ba) (gl : n0 ≤ la) (dd : v < sa ∧ sa < ba ∧ ba < la) (VI : oAI Z h0 i .byte 2 (oUp (oUp (fun _ => 0) 0 64) 1 62)) (di : i < v) :
    MetFree l (⟨"com/example/moraine/moraine/compression/FseTable", "read", "([BIII)I"⟩ : MethodName) (head1 (Jvm.Cond.code (⟨"com/example/moraine/moraine/compression/FseTable", "read", "([BIII)I"⟩ : MethodName) prog_7_method_9_code 18 (some .int) :: ws) ({ frames := 2, cells := 2, slots := 4, locals := 38 } : Room)) (fun aA uU => aA = #[(.ref v), (.ref i), (.int (0 : Int32)), (.int (2 : Int32)), (.int (1 : Int32))] ∧ Z.Warmed39 uU.vm ∧ uU.heap = h0) (fun _ _ _ _ _ => True) (fun _ uU oO uU' => ∃ vV lL, oO = .returned vV ∧ Q_rmRead64 Z v sa ba la i lg fb fl h0 n0 vV uU'.heap lL ∧ FrameEnd uU oO uU' lL ({ frames := 2, cells := 2, slots := 4, locals := 38 } : Room).cells ({ frames := 2, cells := 2, slots := 4, locals := 38 } : Room).slots) := by
  refine MetFree.of_bodySF (plainFor_of_name pn_FseTable) hisR ?_
  intro p e s m args below meth c s₁ Bd hml0 hP hK
  obtain ⟨rfl, hZ, hh⟩ := hP
  have hx := Bd.exec
  have hby := Bd.bytes
  have hml : c.maxLocals = 18 := hml0
  have hown : s.vm.findClass "com/example/moraine/moraine/compression/FseTable" = some m.cls := findClass_of_methodNamed Bd.named
  have hnm := (name_of_methodNamed Bd.named Bd.method).1
  have X0 : Stand p l e ({ frames := 2, cells := 2, slots := 4, locals := 38 } : Room) s m #[(.ref v), (.ref i), (.int (0 : Int32)), (.int (2 : Int32)), (.int (1 : Int32))] below meth c s₁ [] 0 0 := Stand.of_body Bd
  have e0 : s₁.heap = h0 := by rw [← hh, Bd.state]; rfl
  have N0 := Fr.nil n0
  have lv : @LT.lt Nat _ v h0.size := E0.lt
  have lsa := PV0.lt
  have lba := PV1.lt
  have lla := PV2.lt
  have li := VI.lt
  refine oEnter (oCast (ef_rmRead64 m v i (0 : Int32) (2 : Int32) (1 : Int32) ) ?_)
  show oGl p e below (s₁.setTop (mkF m 0 #[.val (.ref v), .val (.ref i), .val (.int (0 : Int32)), .val (.int (2 : Int32)), .val (.int (1 : Int32)), .unset, .unset, .unset, .unset, .unset, .unset, .unset, .unset, .unset, .unset, .unset, .unset, .unset] [])) _
  refine siconst X0 hx (hb hby d3_0) rfl rfl (z := 0) (pc' := 1) ?_
  refine sistore X0 hx (hb hby d3_1) rfl rfl (l' := #[.val (.ref v), .val (.ref i), .val (.int (0 : Int32)), .val (.int (2 : Int32)), .val (.int (1 : Int32)), .val (.int (0 : Int32)), .unset, .unset, .unset, .unset, .unset, .unset, .unset, .unset, .unset, .unset, .unset, .unset]) (pc' := 3) ?_
  refine saloadN X0 hx (hb hby d3_3) rfl rfl rfl (pc' := 4) ?_
  refine siloadN X0 hx (hb hby d3_4) rfl rfl (pc' := 5) ?_
  refine siloadN X0 hx (hb hby d3_5) rfl rfl (pc' := 6) ?_
  refine siload X0 hx (hb hby d3_6) rfl rfl (pc' := 8) ?_
  refine siconst X0 hx (hb hby d3_8) rfl rfl (z := 4) (pc' := 9) ?_
  have hz1 : n0 ≤ h0.size := by omega
  obtain ⟨_, _, ⟨T1, L1, k1, n1⟩, -, X1, ⟨Lc1, hQ1, l1, y1, z1⟩, st1⟩ := Jvm.LawKit.callS X0 hx (y := (⟨"com/example/moraine/moraine/compression/FseTable", "forward", "([BIIII)I"⟩ : MethodName)) hown (mvT hZ (hw _ (List.mem_of_getElem? (i := 22) rfl))) (mvT hZ (hw _ (List.mem_of_getElem? (i := 23) rfl))) (mvT hZ (hw _ (List.mem_of_getElem? (i := 3) rfl))) (mvT hZ (hw _ (List.mem_of_getElem? (i := 24) rfl))) (by decide) (backOf (W := 0) (rmFwd0 l Z a0 hw [] i h0 n0 hz1 VI) hZ (hw _ (List.mem_of_getElem? (i := 24) rfl)) (hw _ (List.mem_of_getElem? (i := 3) rfl)) (by decide) (by decide)) (g := (mkF m 9 #[.val (.ref v), .val (.ref i), .val (.int (0 : Int32)), .val (.int (2 : Int32)), .val (.int (1 : Int32)), .val (.int (0 : Int32)), .unset, .unset, .unset, .unset, .unset, .unset, .unset, .unset, .unset, .unset, .unset, .unset] [(.int (4 : Int32)), (.int (0 : Int32)), (.int (2 : Int32)), (.int (0 : Int32)), (.ref i)])) rfl (by rw [hml]; rfl) (argsL := [(.ref i), (.int (0 : Int32)), (.int (2 : Int32)), (.int (0 : Int32)), (.int (4 : Int32))]) (rest := []) (lenOf pd_1 rfl) rfl (by show 2 * 0 + _ ≤ _; exact Nat.le_of_eq rfl) (hb hby d3_9) (fun _ _ => ⟨rfl, e0, (by decide : 0 + 0 ≤ _), (by decide : 0 + 0 ≤ _)⟩)
  dsimp only [Pt.U, Pt.locs, Pt.cells, Pt.slots] at X1 l1 y1 z1 st1 hQ1
  subst l1 y1 z1
  obtain ⟨rfl, N1q, eh1⟩ := hQ1
  have N1 := Fr.app N0 N1q
  refine oOn st1 ?_
  show oGl p e below (T1.setTop (mkF m 12 #[.val (.ref v), .val (.ref i), .val (.int (0 : Int32)), .val (.int (2 : Int32)), .val (.int (1 : Int32)), .val (.int (0 : Int32)), .unset, .unset, .unset, .unset, .unset, .unset, .unset, .unset, .unset, .unset, .unset, .unset] [(.int (0 : Int32))])) _
  refine siconst X1 hx (hb hby d3_12) rfl rfl (z := 5) (pc' := 13) ?_
  refine siadd X1 hx (hb hby d3_13) rfl (by decide) (z := (5 : Int32)) (pc' := 14) ?_
  refine sistore X1 hx (hb hby d3_14) rfl rfl (l' := #[.val (.ref v), .val (.ref i), .val (.int (0 : Int32)), .val (.int (2 : Int32)), .val (.int (1 : Int32)), .val (.int (0 : Int32)), .val (.int (5 : Int32)), .unset, .unset, .unset, .unset, .unset, .unset, .unset, .unset, .unset, .unset, .unset]) (pc' := 16) ?_
  refine siinc X1 hx (hb hby d3_16) rfl rfl rfl (l' := #[.val (.ref v), .val (.ref i), .val (.int (0 : Int32)), .val (.int (2 : Int32)), .val (.int (1 : Int32)), .val (.int (4 : Int32)), .val (.int (5 : Int32)), .unset, .unset, .unset, .unset, .unset, .unset, .unset, .unset, .unset, .unset, .unset]) (pc' := 19) ?_
  refine saloadN X1 hx (hb hby d3_19) rfl rfl rfl (pc' := 20) ?_
  obtain ⟨T2, X2, e2, st2⟩ := getF X1 hx hZ hown (host := "") (Or.inl (hw _ (List.mem_of_getElem? (i := 10) rfl))) Via.refl eh1 F0 (g := (mkF m 20 #[.val (.ref v), .val (.ref i), .val (.int (0 : Int32)), .val (.int (2 : Int32)), .val (.int (1 : Int32)), .val (.int (4 : Int32)), .val (.int (5 : Int32)), .unset, .unset, .unset, .unset, .unset, .unset, .unset, .unset, .unset, .unset, .unset] [(.ref v)])) rfl rfl (hb hby d3_20)
  refine oOn st2 ?_
  show oGl p e below (T2.setTop (mkF m 23 #[.val (.ref v), .val (.ref i), .val (.int (0 : Int32)), .val (.int (2 : Int32)), .val (.int (1 : Int32)), .val (.int (4 : Int32)), .val (.int (5 : Int32)), .unset, .unset, .unset, .unset, .unset, .unset, .unset, .unset, .unset, .unset, .unset] [(.ref sa)])) _
  refine oOn (PV0.len X2 hx hZ e2 (g := (mkF m 23 #[.val (.ref v), .val (.ref i), .val (.int (0 : Int32)), .val (.int (2 : Int32)), .val (.int (1 : Int32)), .val (.int (4 : Int32)), .val (.int (5 : Int32)), .unset, .unset, .unset, .unset, .unset, .unset, .unset, .unset, .unset, .unset, .unset] [(.ref sa)])) rfl rfl (hb hby d3_23)) ?_
  show oGl p e below (T2.setTop (mkF m 24 #[.val (.ref v), .val (.ref i), .val (.int (0 : Int32)), .val (.int (2 : Int32)), .val (.int (1 : Int32)), .val (.int (4 : Int32)), .val (.int (5 : Int32)), .unset, .unset, .unset, .unset, .unset, .unset, .unset, .unset, .unset, .unset, .unset] [(.int (64 : Int32))])) _
  have hz3 : n0 ≤ h0.size := by omega
  obtain ⟨_, _, ⟨T3, L3, k3, n3⟩, -, X3, ⟨Lc3, hQ3, l3, y3, z3⟩, st3⟩ := Jvm.LawKit.callS X2 hx (y := (⟨"java/lang/Integer", "numberOfTrailingZeros", "(I)I"⟩ : MethodName)) hown (mvT hZ (hw _ (List.mem_of_getElem? (i := 25) rfl))) (mvT hZ (hw _ (List.mem_of_getElem? (i := 26) rfl))) (mvT hZ (hw _ (List.mem_of_getElem? (i := 27) rfl))) (mvT hZ (hw _ (List.mem_of_getElem? (i := 28) rfl))) (by decide) (backOf (W := 0) (rmNtz64 l Z a0 hw []  h0 n0 hz3 ) hZ (hw _ (List.mem_of_getElem? (i := 28) rfl)) (hw _ (List.mem_of_getElem? (i := 27) rfl)) (by decide) (by decide)) (g := (mkF m 24 #[.val (.ref v), .val (.ref i), .val (.int (0 : Int32)), .val (.int (2 : Int32)), .val (.int (1 : Int32)), .val (.int (4 : Int32)), .val (.int (5 : Int32)), .unset, .unset, .unset, .unset, .unset, .unset, .unset, .unset, .unset, .unset, .unset] [(.int (64 : Int32))])) rfl (by rw [hml]; rfl) (argsL := [(.int (64 : Int32))]) (rest := []) (lenOf pd_0 rfl) rfl (by show 2 * 0 + _ ≤ _; exact Nat.le_of_eq rfl) (hb hby d3_24) (fun _ _ => ⟨rfl, e2, (by decide : 0 + 0 ≤ _), (by decide : 0 + 0 ≤ _)⟩)
  dsimp only [Pt.U, Pt.locs, Pt.cells, Pt.slots] at X3 l3 y3 z3 st3 hQ3
  subst l3 y3 z3
  obtain ⟨rfl, N3q, eh3⟩ := hQ3
  have N3 := Fr.app N1 N3q
  refine oOn st3 ?_
  show oGl p e below (T3.setTop (mkF m 27 #[.val (.ref v), .val (.ref i), .val (.int (0 : Int32)), .val (.int (2 : Int32)), .val (.int (1 : Int32)), .val (.int (4 : Int32)), .val (.int (5 : Int32)), .unset, .unset, .unset, .unset, .unset, .unset, .unset, .unset, .unset, .unset, .unset] [(.int (6 : Int32))])) _
  refine sistore X3 hx (hb hby d3_27) rfl rfl (l' := #[.val (.ref v), .val (.ref i), .val (.int (0 : Int32)), .val (.int (2 : Int32)), .val (.int (1 : Int32)), .val (.int (4 : Int32)), .val (.int (5 : Int32)), .val (.int (6 : Int32)), .unset, .unset, .unset, .unset, .unset, .unset, .unset, .unset, .unset, .unset]) (pc' := 29) ?_
  refine siload X3 hx (hb hby d3_29) rfl rfl (pc' := 31) ?_
  refine siload X3 hx (hb hby d3_31) rfl rfl (pc' := 33) ?_
  refine sicY X3 hx (hb hby d3_33) (by decide) (by decide) (flt (by decide : ¬ ((6 : Int32) < (5 : Int32)))).2.2.2 (pc' := 53) ?_
  refine siload X3 hx (hb hby d3_53) rfl rfl (pc' := 55) ?_
  refine siconst X3 hx (hb hby d3_55) rfl rfl (z := 1) (pc' := 56) ?_
  refine siadd X3 hx (hb hby d3_56) rfl (by decide) (z := (2 : Int32)) (pc' := 57) ?_
  obtain ⟨T4, h4, k4, X4, e4, E4, A4, st4⟩ := newP X3 hx hZ (hw _ (List.mem_of_getElem? (i := 14) rfl)) eh3 (g := (mkF m 57 #[.val (.ref v), .val (.ref i), .val (.int (0 : Int32)), .val (.int (2 : Int32)), .val (.int (1 : Int32)), .val (.int (4 : Int32)), .val (.int (5 : Int32)), .val (.int (6 : Int32)), .unset, .unset, .unset, .unset, .unset, .unset, .unset, .unset, .unset, .unset] [(.int (2 : Int32))])) rfl (hb hby d3_57) rfl (by decide) (cap := 2) (by decide) (by decide) (by decide) (by decide)
  obtain ⟨a4, g4⟩ : ∃ z, z = h0.size := ⟨_, rfl⟩
  rw [← g4] at A4 st4
  refine oOn st4 ?_
  have z5 : h0.size ≤ h4.size := E4.1
  have lt4 : a4 < h4.size := A4.lt
  have V4 : oAI Z h4 a4 .short 2 (fun _ => 0) := oAI.new A4 rfl
  show oGl p e below (T4.setTop (mkF m 59 #[.val (.ref v), .val (.ref i), .val (.int (0 : Int32)), .val (.int (2 : Int32)), .val (.int (1 : Int32)), .val (.int (4 : Int32)), .val (.int (5 : Int32)), .val (.int (6 : Int32)), .unset, .unset, .unset, .unset, .unset, .unset, .unset, .unset, .unset, .unset] [(.ref a4)])) _
  refine sastore X4 hx (hb hby d3_59) rfl rfl rfl (l' := #[.val (.ref v), .val (.ref i), .val (.int (0 : Int32)), .val (.int (2 : Int32)), .val (.int (1 : Int32)), .val (.int (4 : Int32)), .val (.int (5 : Int32)), .val (.int (6 : Int32)), .val (.ref a4), .unset, .unset, .unset, .unset, .unset, .unset, .unset, .unset, .unset]) (pc' := 61) ?_
  refine siconst X4 hx (hb hby d3_61) rfl rfl (z := 0) (pc' := 62) ?_
  refine sistore X4 hx (hb hby d3_62) rfl rfl (l' := #[.val (.ref v), .val (.ref i), .val (.int (0 : Int32)), .val (.int (2 : Int32)), .val (.int (1 : Int32)), .val (.int (4 : Int32)), .val (.int (5 : Int32)), .val (.int (6 : Int32)), .val (.ref a4), .val (.int (0 : Int32)), .unset, .unset, .unset, .unset, .unset, .unset, .unset, .unset]) (pc' := 64) ?_
  refine siconst X4 hx (hb hby d3_64) rfl rfl (z := 1) (pc' := 65) ?_
  refine siload X4 hx (hb hby d3_65) rfl rfl (pc' := 67) ?_
  refine sishl X4 hx (hb hby d3_67) rfl (by decide) (z := (32 : Int32)) (pc' := 68) ?_
  refine siconst X4 hx (hb hby d3_68) rfl rfl (z := 1) (pc' := 69) ?_
  refine siadd X4 hx (hb hby d3_69) rfl (by decide) (z := (33 : Int32)) (pc' := 70) ?_
  refine sistore X4 hx (hb hby d3_70) rfl rfl (l' := #[.val (.ref v), .val (.ref i), .val (.int (0 : Int32)), .val (.int (2 : Int32)), .val (.int (1 : Int32)), .val (.int (4 : Int32)), .val (.int (5 : Int32)), .val (.int (6 : Int32)), .val (.ref a4), .val (.int (0 : Int32)), .val (.int (33 : Int32)), .unset, .unset, .unset, .unset, .unset, .unset, .unset]) (pc' := 72) ?_
  refine siconst X4 hx (hb hby d3_72) rfl rfl (z := 1) (pc' := 73) ?_
  refine siload X4 hx (hb hby d3_73) rfl rfl (pc' := 75) ?_
  refine sishl X4 hx (hb hby d3_75) rfl (by decide) (z := (32 : Int32)) (pc' := 76) ?_
  refine sistore X4 hx (hb hby d3_76) rfl rfl (l' := #[.val (.ref v), .val (.ref i), .val (.int (0 : Int32)), .val (.int (2 : Int32)), .val (.int (1 : Int32)), .val (.int (4 : Int32)), .val (.int (5 : Int32)), .val (.int (6 : Int32)), .val (.ref a4), .val (.int (0 : Int32)), .val (.int (33 : Int32)), .val (.int (32 : Int32)), .unset, .unset, .unset, .unset, .unset, .unset]) (pc' := 78) ?_
  refine siload X4 hx (hb hby d3_78) rfl rfl (pc' := 80) ?_
  refine siconst X4 hx (hb hby d3_80) rfl rfl (z := 1) (pc' := 81) ?_
  refine siadd X4 hx (hb hby d3_81) rfl (by decide) (z := (6 : Int32)) (pc' := 82) ?_
  refine sistore X4 hx (hb hby d3_82) rfl rfl (l' := #[.val (.ref v), .val (.ref i), .val (.int (0 : Int32)), .val (.int (2 : Int32)), .val (.int (1 : Int32)), .val (.int (4 : Int32)), .val (.int (5 : Int32)), .val (.int (6 : Int32)), .val (.ref a4), .val (.int (0 : Int32)), .val (.int (33 : Int32)), .val (.int (32 : Int32)), .val (.int (6 : Int32)), .unset, .unset, .unset, .unset, .unset]) (pc' := 84) ?_
  refine siload X4 hx (hb hby d3_84) rfl rfl (pc' := 86) ?_
  refine siconst X4 hx (hb hby d3_86) rfl rfl (z := 1) (pc' := 87) ?_
  refine sicN X4 hx (hb hby d3_87) rfl (tlt (by decide : (1 : Int32) < (33 : Int32))).2.2.2 (pc' := 90) ?_
  refine siload X4 hx (hb hby d3_90) rfl rfl (pc' := 92) ?_
  refine siload X4 hx (hb hby d3_92) rfl rfl (pc' := 94) ?_
  have hz6 : n0 ≤ h4.size := by omega
  obtain ⟨_, _, ⟨T6, L6, k6, n6⟩, -, X6, ⟨Lc6, hQ6, l6, y6, z6⟩, st6⟩ := Jvm.LawKit.callS X4 hx (y := (⟨"com/example/moraine/moraine/compression/FseTable", "requireSymbol", "(II)V"⟩ : MethodName)) hown (mvT hZ (hw _ (List.mem_of_getElem? (i := 30) rfl))) (mvT hZ (hw _ (List.mem_of_getElem? (i := 31) rfl))) (mvT hZ (hw _ (List.mem_of_getElem? (i := 3) rfl))) (mvT hZ (hw _ (List.mem_of_getElem? (i := 32) rfl))) (by decide) (backOf (W := 0) (rmReq0 l Z a0 hw []  h4 n0 hz6 ) hZ (hw _ (List.mem_of_getElem? (i := 32) rfl)) (hw _ (List.mem_of_getElem? (i := 3) rfl)) (by decide) (by decide)) (g := (mkF m 94 #[.val (.ref v), .val (.ref i), .val (.int (0 : Int32)), .val (.int (2 : Int32)), .val (.int (1 : Int32)), .val (.int (4 : Int32)), .val (.int (5 : Int32)), .val (.int (6 : Int32)), .val (.ref a4), .val (.int (0 : Int32)), .val (.int (33 : Int32)), .val (.int (32 : Int32)), .val (.int (6 : Int32)), .unset, .unset, .unset, .unset, .unset] [(.int (1 : Int32)), (.int (0 : Int32))])) rfl (by rw [hml]; rfl) (argsL := [(.int (0 : Int32)), (.int (1 : Int32))]) (rest := []) (lenOf pd_2 rfl) rfl (by show 2 * 0 + _ ≤ _; exact Nat.le_of_eq rfl) (hb hby d3_94) (fun _ _ => ⟨rfl, e4, (by decide : 1 + 0 ≤ _), (by decide : 2 + 0 ≤ _)⟩)
  dsimp only [Pt.U, Pt.locs, Pt.cells, Pt.slots] at X6 l6 y6 z6 st6 hQ6
  subst l6 y6 z6
  obtain ⟨rfl, N6q, eh6⟩ := hQ6
  have N6 := Fr.app N3 N6q
  refine oOn st6 ?_
  show oGl p e below (T6.setTop (mkF m 97 #[.val (.ref v), .val (.ref i), .val (.int (0 : Int32)), .val (.int (2 : Int32)), .val (.int (1 : Int32)), .val (.int (4 : Int32)), .val (.int (5 : Int32)), .val (.int (6 : Int32)), .val (.ref a4), .val (.int (0 : Int32)), .val (.int (33 : Int32)), .val (.int (32 : Int32)), .val (.int (6 : Int32)), .unset, .unset, .unset, .unset, .unset] [])) _
  refine siconst X6 hx (hb hby d3_97) rfl rfl (z := 2) (pc' := 98) ?_
  refine siload X6 hx (hb hby d3_98) rfl rfl (pc' := 100) ?_
  refine simul X6 hx (hb hby d3_100) rfl (by decide) (z := (64 : Int32)) (pc' := 101) ?_
  refine siconst X6 hx (hb hby d3_101) rfl rfl (z := 1) (pc' := 102) ?_
  refine sisub X6 hx (hb hby d3_102) rfl (by decide) (z := (63 : Int32)) (pc' := 103) ?_
  refine siload X6 hx (hb hby d3_103) rfl rfl (pc' := 105) ?_
  refine sisub X6 hx (hb hby d3_105) rfl (by decide) (z := (30 : Int32)) (pc' := 106) ?_
  refine sistore X6 hx (hb hby d3_106) rfl rfl (l' := #[.val (.ref v), .val (.ref i), .val (.int (0 : Int32)), .val (.int (2 : Int32)), .val (.int (1 : Int32)), .val (.int (4 : Int32)), .val (.int (5 : Int32)), .val (.int (6 : Int32)), .val (.ref a4), .val (.int (0 : Int32)), .val (.int (33 : Int32)), .val (.int (32 : Int32)), .val (.int (6 : Int32)), .val (.int (30 : Int32)), .unset, .unset, .unset, .unset]) (pc' := 108) ?_
  refine saloadN X6 hx (hb hby d3_108) rfl rfl rfl (pc' := 109) ?_
  refine siloadN X6 hx (hb hby d3_109) rfl rfl (pc' := 110) ?_
  refine siloadN X6 hx (hb hby d3_110) rfl rfl (pc' := 111) ?_
  refine siload X6 hx (hb hby d3_111) rfl rfl (pc' := 113) ?_
  refine siload X6 hx (hb hby d3_113) rfl rfl (pc' := 115) ?_
  have f7 := (VI.ext E4)
  have hz8 : n0 ≤ h4.size := by omega
  obtain ⟨_, _, ⟨T8, L8, k8, n8⟩, -, X8, ⟨Lc8, hQ8, l8, y8, z8⟩, st8⟩ := Jvm.LawKit.callS X6 hx (y := (⟨"com/example/moraine/moraine/compression/FseTable", "forward", "([BIIII)I"⟩ : MethodName)) hown (mvT hZ (hw _ (List.mem_of_getElem? (i := 22) rfl))) (mvT hZ (hw _ (List.mem_of_getElem? (i := 23) rfl))) (mvT hZ (hw _ (List.mem_of_getElem? (i := 3) rfl))) (mvT hZ (hw _ (List.mem_of_getElem? (i := 24) rfl))) (by decide) (backOf (W := 0) (rmFwd4 l Z a0 hw [] i h4 n0 hz8 f7) hZ (hw _ (List.mem_of_getElem? (i := 24) rfl)) (hw _ (List.mem_of_getElem? (i := 3) rfl)) (by decide) (by decide)) (g := (mkF m 115 #[.val (.ref v), .val (.ref i), .val (.int (0 : Int32)), .val (.int (2 : Int32)), .val (.int (1 : Int32)), .val (.int (4 : Int32)), .val (.int (5 : Int32)), .val (.int (6 : Int32)), .val (.ref a4), .val (.int (0 : Int32)), .val (.int (33 : Int32)), .val (.int (32 : Int32)), .val (.int (6 : Int32)), .val (.int (30 : Int32)), .unset, .unset, .unset, .unset] [(.int (6 : Int32)), (.int (4 : Int32)), (.int (2 : Int32)), (.int (0 : Int32)), (.ref i)])) rfl (by rw [hml]; rfl) (argsL := [(.ref i), (.int (0 : Int32)), (.int (2 : Int32)), (.int (4 : Int32)), (.int (6 : Int32))]) (rest := []) (lenOf pd_1 rfl) rfl (by show 2 * 0 + _ ≤ _; exact Nat.le_of_eq rfl) (hb hby d3_115) (fun _ _ => ⟨rfl, eh6, (by decide : 1 + 0 ≤ _), (by decide : 2 + 0 ≤ _)⟩)
  dsimp only [Pt.U, Pt.locs, Pt.cells, Pt.slots] at X8 l8 y8 z8 st8 hQ8
  subst l8 y8 z8
  obtain ⟨rfl, N8q, eh8⟩ := hQ8
  have N8 := Fr.app N6 N8q
  refine oOn st8 ?_
  show oGl p e below (T8.setTop (mkF m 118 #[.val (.ref v), .val (.ref i), .val (.int (0 : Int32)), .val (.int (2 : Int32)), .val (.int (1 : Int32)), .val (.int (4 : Int32)), .val (.int (5 : Int32)), .val (.int (6 : Int32)), .val (.ref a4), .val (.int (0 : Int32)), .val (.int (33 : Int32)), .val (.int (32 : Int32)), .val (.int (6 : Int32)), .val (.int (30 : Int32)), .unset, .unset, .unset, .unset] [(.int (36 : Int32))])) _
  refine sistore X8 hx (hb hby d3_118) rfl rfl (l' := #[.val (.ref v), .val (.ref i), .val (.int (0 : Int32)), .val (.int (2 : Int32)), .val (.int (1 : Int32)), .val (.int (4 : Int32)), .val (.int (5 : Int32)), .val (.int (6 : Int32)), .val (.ref a4), .val (.int (0 : Int32)), .val (.int (33 : Int32)), .val (.int (32 : Int32)), .val (.int (6 : Int32)), .val (.int (30 : Int32)), .val (.int (36 : Int32)), .unset, .unset, .unset]) (pc' := 120) ?_
  refine siload X8 hx (hb hby d3_120) rfl rfl (pc' := 122) ?_
  refine siload X8 hx (hb hby d3_122) rfl rfl (pc' := 124) ?_
  refine siconst X8 hx (hb hby d3_124) rfl rfl (z := 1) (pc' := 125) ?_
  refine sisub X8 hx (hb hby d3_125) rfl (by decide) (z := (31 : Int32)) (pc' := 126) ?_
  refine siand X8 hx (hb hby d3_126) rfl (by decide) (z := (4 : Int32)) (pc' := 127) ?_
  refine siload X8 hx (hb hby d3_127) rfl rfl (pc' := 129) ?_
  refine sicN X8 hx (hb hby d3_129) rfl (tlt (by decide : (4 : Int32) < (30 : Int32))).2.1 (pc' := 132) ?_
  refine siload X8 hx (hb hby d3_132) rfl rfl (pc' := 134) ?_
  refine siload X8 hx (hb hby d3_134) rfl rfl (pc' := 136) ?_
  refine siconst X8 hx (hb hby d3_136) rfl rfl (z := 1) (pc' := 137) ?_
  refine sisub X8 hx (hb hby d3_137) rfl (by decide) (z := (31 : Int32)) (pc' := 138) ?_
  refine siand X8 hx (hb hby d3_138) rfl (by decide) (z := (4 : Int32)) (pc' := 139) ?_
  refine sistore X8 hx (hb hby d3_139) rfl rfl (l' := #[.val (.ref v), .val (.ref i), .val (.int (0 : Int32)), .val (.int (2 : Int32)), .val (.int (1 : Int32)), .val (.int (4 : Int32)), .val (.int (5 : Int32)), .val (.int (6 : Int32)), .val (.ref a4), .val (.int (0 : Int32)), .val (.int (33 : Int32)), .val (.int (32 : Int32)), .val (.int (6 : Int32)), .val (.int (30 : Int32)), .val (.int (4 : Int32)), .unset, .unset, .unset]) (pc' := 141) ?_
  refine siload X8 hx (hb hby d3_141) rfl rfl (pc' := 143) ?_
  refine siload X8 hx (hb hby d3_143) rfl rfl (pc' := 145) ?_
  refine siconst X8 hx (hb hby d3_145) rfl rfl (z := 1) (pc' := 146) ?_
  refine sisub X8 hx (hb hby d3_146) rfl (by decide) (z := (5 : Int32)) (pc' := 147) ?_
  refine siadd X8 hx (hb hby d3_147) rfl (by decide) (z := (9 : Int32)) (pc' := 148) ?_
  refine sistore X8 hx (hb hby d3_148) rfl rfl (l' := #[.val (.ref v), .val (.ref i), .val (.int (0 : Int32)), .val (.int (2 : Int32)), .val (.int (1 : Int32)), .val (.int (9 : Int32)), .val (.int (5 : Int32)), .val (.int (6 : Int32)), .val (.ref a4), .val (.int (0 : Int32)), .val (.int (33 : Int32)), .val (.int (32 : Int32)), .val (.int (6 : Int32)), .val (.int (30 : Int32)), .val (.int (4 : Int32)), .unset, .unset, .unset]) (pc' := 150) ?_
  refine sgoto X8 hx (hb hby d3_150) (by decide) (by decide)  (pc' := 174) ?_
  refine siload X8 hx (hb hby d3_174) rfl rfl (pc' := 176) ?_
  refine siconst X8 hx (hb hby d3_176) rfl rfl (z := 1) (pc' := 177) ?_
  refine sisub X8 hx (hb hby d3_177) rfl (by decide) (z := (3 : Int32)) (pc' := 178) ?_
  refine sistore X8 hx (hb hby d3_178) rfl rfl (l' := #[.val (.ref v), .val (.ref i), .val (.int (0 : Int32)), .val (.int (2 : Int32)), .val (.int (1 : Int32)), .val (.int (9 : Int32)), .val (.int (5 : Int32)), .val (.int (6 : Int32)), .val (.ref a4), .val (.int (0 : Int32)), .val (.int (33 : Int32)), .val (.int (32 : Int32)), .val (.int (6 : Int32)), .val (.int (30 : Int32)), .val (.int (4 : Int32)), .val (.int (3 : Int32)), .unset, .unset]) (pc' := 180) ?_
  refine saload X8 hx (hb hby d3_180) rfl rfl rfl (pc' := 182) ?_
  refine siload X8 hx (hb hby d3_182) rfl rfl (pc' := 184) ?_
  refine siinc X8 hx (hb hby d3_184) rfl rfl rfl (l' := #[.val (.ref v), .val (.ref i), .val (.int (0 : Int32)), .val (.int (2 : Int32)), .val (.int (1 : Int32)), .val (.int (9 : Int32)), .val (.int (5 : Int32)), .val (.int (6 : Int32)), .val (.ref a4), .val (.int (1 : Int32)), .val (.int (33 : Int32)), .val (.int (32 : Int32)), .val (.int (6 : Int32)), .val (.int (30 : Int32)), .val (.int (4 : Int32)), .val (.int (3 : Int32)), .unset, .unset]) (pc' := 187) ?_
  refine siload X8 hx (hb hby d3_187) rfl rfl (pc' := 189) ?_
  refine si2s X8 hx (hb hby d3_189) rfl (by decide) (z := (3 : Int32)) (pc' := 190) ?_
  obtain ⟨T9, h9, X9, e9, W9, V9, st9⟩ := V4.stS X8 hx hZ eh8 (j := (0 : Int32)) (by decide) (g := (mkF m 190 #[.val (.ref v), .val (.ref i), .val (.int (0 : Int32)), .val (.int (2 : Int32)), .val (.int (1 : Int32)), .val (.int (9 : Int32)), .val (.int (5 : Int32)), .val (.int (6 : Int32)), .val (.ref a4), .val (.int (1 : Int32)), .val (.int (33 : Int32)), .val (.int (32 : Int32)), .val (.int (6 : Int32)), .val (.int (30 : Int32)), .val (.int (4 : Int32)), .val (.int (3 : Int32)), .unset, .unset] [(.int (3 : Int32)), (.int (0 : Int32)), (.ref a4)])) rfl rfl (hb hby d3_190)
  refine oOn st9 ?_
  have z10 : h4.size ≤ h9.size := Nat.le_of_eq W9.size.symm
  have N9 := Fr.snoc X9 N8 (by omega)
  show oGl p e below (T9.setTop (mkF m 191 #[.val (.ref v), .val (.ref i), .val (.int (0 : Int32)), .val (.int (2 : Int32)), .val (.int (1 : Int32)), .val (.int (9 : Int32)), .val (.int (5 : Int32)), .val (.int (6 : Int32)), .val (.ref a4), .val (.int (1 : Int32)), .val (.int (33 : Int32)), .val (.int (32 : Int32)), .val (.int (6 : Int32)), .val (.int (30 : Int32)), .val (.int (4 : Int32)), .val (.int (3 : Int32)), .unset, .unset] [])) _
  refine siload X9 hx (hb hby d3_191) rfl rfl (pc' := 193) ?_
  refine siload X9 hx (hb hby d3_193) rfl rfl (pc' := 195) ?_
  have hz11 : n0 ≤ h9.size := by omega
  obtain ⟨_, _, ⟨T11, L11, k11, n11⟩, -, X11, ⟨Lc11, hQ11, l11, y11, z11⟩, st11⟩ := Jvm.LawKit.callS X9 hx (y := (⟨"java/lang/Math", "abs", "(I)I"⟩ : MethodName)) hown (mvT hZ (hw _ (List.mem_of_getElem? (i := 33) rfl))) (mvT hZ (hw _ (List.mem_of_getElem? (i := 34) rfl))) (mvT hZ (hw _ (List.mem_of_getElem? (i := 35) rfl))) (mvT hZ (hw _ (List.mem_of_getElem? (i := 36) rfl))) (by decide) (backOf (W := 1) (rmAbs3 l Z a0 hw []  h9 n0 hz11 ) hZ (hw _ (List.mem_of_getElem? (i := 36) rfl)) (hw _ (List.mem_of_getElem? (i := 35) rfl)) (by decide) (by decide)) (g := (mkF m 195 #[.val (.ref v), .val (.ref i), .val (.int (0 : Int32)), .val (.int (2 : Int32)), .val (.int (1 : Int32)), .val (.int (9 : Int32)), .val (.int (5 : Int32)), .val (.int (6 : Int32)), .val (.ref a4), .val (.int (1 : Int32)), .val (.int (33 : Int32)), .val (.int (32 : Int32)), .val (.int (6 : Int32)), .val (.int (30 : Int32)), .val (.int (4 : Int32)), .val (.int (3 : Int32)), .unset, .unset] [(.int (3 : Int32)), (.int (33 : Int32))])) rfl (by rw [hml]; rfl) (argsL := [(.int (3 : Int32))]) (rest := [(.int (33 : Int32))]) (lenOf pd_0 rfl) rfl (by show 2 * 0 + _ ≤ _; exact Nat.le_of_eq rfl) (hb hby d3_195) (fun _ _ => ⟨rfl, e9, (by decide : 1 + 0 ≤ _), (by decide : 2 + 0 ≤ _)⟩)
  dsimp only [Pt.U, Pt.locs, Pt.cells, Pt.slots] at X11 l11 y11 z11 st11 hQ11
  subst l11 y11 z11
  obtain ⟨rfl, N11q, eh11⟩ := hQ11
  have N11 := Fr.app N9 N11q
  refine oOn st11 ?_
  show oGl p e below (T11.setTop (mkF m 198 #[.val (.ref v), .val (.ref i), .val (.int (0 : Int32)), .val (.int (2 : Int32)), .val (.int (1 : Int32)), .val (.int (9 : Int32)), .val (.int (5 : Int32)), .val (.int (6 : Int32)), .val (.ref a4), .val (.int (1 : Int32)), .val (.int (33 : Int32)), .val (.int (32 : Int32)), .val (.int (6 : Int32)), .val (.int (30 : Int32)), .val (.int (4 : Int32)), .val (.int (3 : Int32)), .unset, .unset] [(.int (3 : Int32)), (.int (33 : Int32))])) _
  refine sisub X11 hx (hb hby d3_198) rfl (by decide) (z := (30 : Int32)) (pc' := 199) ?_
  refine sistore X11 hx (hb hby d3_199) rfl rfl (l' := #[.val (.ref v), .val (.ref i), .val (.int (0 : Int32)), .val (.int (2 : Int32)), .val (.int (1 : Int32)), .val (.int (9 : Int32)), .val (.int (5 : Int32)), .val (.int (6 : Int32)), .val (.ref a4), .val (.int (1 : Int32)), .val (.int (30 : Int32)), .val (.int (32 : Int32)), .val (.int (6 : Int32)), .val (.int (30 : Int32)), .val (.int (4 : Int32)), .val (.int (3 : Int32)), .unset, .unset]) (pc' := 201) ?_
  refine siload X11 hx (hb hby d3_201) rfl rfl (pc' := 203) ?_
  refine sifY X11 hx (hb hby d3_203) (by decide) (by decide) (feq (by decide : ¬ ((3 : Int32) = (0 : Int32)))).2 (pc' := 258) ?_
  refine siload X11 hx (hb hby d3_258) rfl rfl (pc' := 260) ?_
  refine siload X11 hx (hb hby d3_260) rfl rfl (pc' := 262) ?_
  refine sicN X11 hx (hb hby d3_262) rfl (tlt (by decide : (30 : Int32) < (32 : Int32))).2.1 (pc' := 265) ?_
  refine siinc X11 hx (hb hby d3_265) rfl rfl rfl (l' := #[.val (.ref v), .val (.ref i), .val (.int (0 : Int32)), .val (.int (2 : Int32)), .val (.int (1 : Int32)), .val (.int (9 : Int32)), .val (.int (5 : Int32)), .val (.int (6 : Int32)), .val (.ref a4), .val (.int (1 : Int32)), .val (.int (30 : Int32)), .val (.int (32 : Int32)), .val (.int (5 : Int32)), .val (.int (30 : Int32)), .val (.int (4 : Int32)), .val (.int (3 : Int32)), .unset, .unset]) (pc' := 268) ?_
  refine siload X11 hx (hb hby d3_268) rfl rfl (pc' := 270) ?_
  refine siconst X11 hx (hb hby d3_270) rfl rfl (z := 1) (pc' := 271) ?_
  refine sishr X11 hx (hb hby d3_271) rfl (by decide) (z := (16 : Int32)) (pc' := 272) ?_
  refine sistore X11 hx (hb hby d3_272) rfl rfl (l' := #[.val (.ref v), .val (.ref i), .val (.int (0 : Int32)), .val (.int (2 : Int32)), .val (.int (1 : Int32)), .val (.int (9 : Int32)), .val (.int (5 : Int32)), .val (.int (6 : Int32)), .val (.ref a4), .val (.int (1 : Int32)), .val (.int (30 : Int32)), .val (.int (16 : Int32)), .val (.int (5 : Int32)), .val (.int (30 : Int32)), .val (.int (4 : Int32)), .val (.int (3 : Int32)), .unset, .unset]) (pc' := 274) ?_
  refine sgoto X11 hx (hb hby d3_274) (by decide) (by decide)  (pc' := 258) ?_
  refine siload X11 hx (hb hby d3_258) rfl rfl (pc' := 260) ?_
  refine siload X11 hx (hb hby d3_260) rfl rfl (pc' := 262) ?_
  refine sicY X11 hx (hb hby d3_262) (by decide) (by decide) (flt (by decide : ¬ ((30 : Int32) < (16 : Int32)))).2.1 (pc' := 277) ?_
  refine sgoto X11 hx (hb hby d3_277) (by decide) (by decide)  (pc' := 84) ?_
  refine siload X11 hx (hb hby d3_84) rfl rfl (pc' := 86) ?_
  refine siconst X11 hx (hb hby d3_86) rfl rfl (z := 1) (pc' := 87) ?_
  refine sicN X11 hx (hb hby d3_87) rfl (tlt (by decide : (1 : Int32) < (30 : Int32))).2.2.2 (pc' := 90) ?_
  refine siload X11 hx (hb hby d3_90) rfl rfl (pc' := 92) ?_
  refine siload X11 hx (hb hby d3_92) rfl rfl (pc' := 94) ?_
  have hz12 : n0 ≤ h9.size := by omega
  obtain ⟨_, _, ⟨T12, L12, k12, n12⟩, -, X12, ⟨Lc12, hQ12, l12, y12, z12⟩, st12⟩ := Jvm.LawKit.callS X11 hx (y := (⟨"com/example/moraine/moraine/compression/FseTable", "requireSymbol", "(II)V"⟩ : MethodName)) hown (mvT hZ (hw _ (List.mem_of_getElem? (i := 30) rfl))) (mvT hZ (hw _ (List.mem_of_getElem? (i := 31) rfl))) (mvT hZ (hw _ (List.mem_of_getElem? (i := 3) rfl))) (mvT hZ (hw _ (List.mem_of_getElem? (i := 32) rfl))) (by decide) (backOf (W := 0) (rmReq1 l Z a0 hw []  h9 n0 hz12 ) hZ (hw _ (List.mem_of_getElem? (i := 32) rfl)) (hw _ (List.mem_of_getElem? (i := 3) rfl)) (by decide) (by decide)) (g := (mkF m 94 #[.val (.ref v), .val (.ref i), .val (.int (0 : Int32)), .val (.int (2 : Int32)), .val (.int (1 : Int32)), .val (.int (9 : Int32)), .val (.int (5 : Int32)), .val (.int (6 : Int32)), .val (.ref a4), .val (.int (1 : Int32)), .val (.int (30 : Int32)), .val (.int (16 : Int32)), .val (.int (5 : Int32)), .val (.int (30 : Int32)), .val (.int (4 : Int32)), .val (.int (3 : Int32)), .unset, .unset] [(.int (1 : Int32)), (.int (1 : Int32))])) rfl (by rw [hml]; rfl) (argsL := [(.int (1 : Int32)), (.int (1 : Int32))]) (rest := []) (lenOf pd_2 rfl) rfl (by show 2 * 0 + _ ≤ _; exact Nat.le_of_eq rfl) (hb hby d3_94) (fun _ _ => ⟨rfl, eh11, (by decide : 1 + 0 ≤ _), (by decide : 2 + 0 ≤ _)⟩)
  dsimp only [Pt.U, Pt.locs, Pt.cells, Pt.slots] at X12 l12 y12 z12 st12 hQ12
  subst l12 y12 z12
  obtain ⟨rfl, N12q, eh12⟩ := hQ12
  have N12 := Fr.app N11 N12q
  refine oOn st12 ?_
  show oGl p e below (T12.setTop (mkF m 97 #[.val (.ref v), .val (.ref i), .val (.int (0 : Int32)), .val (.int (2 : Int32)), .val (.int (1 : Int32)), .val (.int (9 : Int32)), .val (.int (5 : Int32)), .val (.int (6 : Int32)), .val (.ref a4), .val (.int (1 : Int32)), .val (.int (30 : Int32)), .val (.int (16 : Int32)), .val (.int (5 : Int32)), .val (.int (30 : Int32)), .val (.int (4 : Int32)), .val (.int (3 : Int32)), .unset, .unset] [])) _
  refine siconst X12 hx (hb hby d3_97) rfl rfl (z := 2) (pc' := 98) ?_
  refine siload X12 hx (hb hby d3_98) rfl rfl (pc' := 100) ?_
  refine simul X12 hx (hb hby d3_100) rfl (by decide) (z := (32 : Int32)) (pc' := 101) ?_
  refine siconst X12 hx (hb hby d3_101) rfl rfl (z := 1) (pc' := 102) ?_
  refine sisub X12 hx (hb hby d3_102) rfl (by decide) (z := (31 : Int32)) (pc' := 103) ?_
  refine siload X12 hx (hb hby d3_103) rfl rfl (pc' := 105) ?_
  refine sisub X12 hx (hb hby d3_105) rfl (by decide) (z := (1 : Int32)) (pc' := 106) ?_
  refine sistore X12 hx (hb hby d3_106) rfl rfl (l' := #[.val (.ref v), .val (.ref i), .val (.int (0 : Int32)), .val (.int (2 : Int32)), .val (.int (1 : Int32)), .val (.int (9 : Int32)), .val (.int (5 : Int32)), .val (.int (6 : Int32)), .val (.ref a4), .val (.int (1 : Int32)), .val (.int (30 : Int32)), .val (.int (16 : Int32)), .val (.int (5 : Int32)), .val (.int (1 : Int32)), .val (.int (4 : Int32)), .val (.int (3 : Int32)), .unset, .unset]) (pc' := 108) ?_
  refine saloadN X12 hx (hb hby d3_108) rfl rfl rfl (pc' := 109) ?_
  refine siloadN X12 hx (hb hby d3_109) rfl rfl (pc' := 110) ?_
  refine siloadN X12 hx (hb hby d3_110) rfl rfl (pc' := 111) ?_
  refine siload X12 hx (hb hby d3_111) rfl rfl (pc' := 113) ?_
  refine siload X12 hx (hb hby d3_113) rfl rfl (pc' := 115) ?_
  have f13 := (f7.other W9 (oNe (by omega)))
  have hz14 : n0 ≤ h9.size := by omega
  obtain ⟨_, _, ⟨T14, L14, k14, n14⟩, -, X14, ⟨Lc14, hQ14, l14, y14, z14⟩, st14⟩ := Jvm.LawKit.callS X12 hx (y := (⟨"com/example/moraine/moraine/compression/FseTable", "forward", "([BIIII)I"⟩ : MethodName)) hown (mvT hZ (hw _ (List.mem_of_getElem? (i := 22) rfl))) (mvT hZ (hw _ (List.mem_of_getElem? (i := 23) rfl))) (mvT hZ (hw _ (List.mem_of_getElem? (i := 3) rfl))) (mvT hZ (hw _ (List.mem_of_getElem? (i := 24) rfl))) (by decide) (backOf (W := 0) (rmFwd9 l Z a0 hw [] i h9 n0 hz14 f13) hZ (hw _ (List.mem_of_getElem? (i := 24) rfl)) (hw _ (List.mem_of_getElem? (i := 3) rfl)) (by decide) (by decide)) (g := (mkF m 115 #[.val (.ref v), .val (.ref i), .val (.int (0 : Int32)), .val (.int (2 : Int32)), .val (.int (1 : Int32)), .val (.int (9 : Int32)), .val (.int (5 : Int32)), .val (.int (6 : Int32)), .val (.ref a4), .val (.int (1 : Int32)), .val (.int (30 : Int32)), .val (.int (16 : Int32)), .val (.int (5 : Int32)), .val (.int (1 : Int32)), .val (.int (4 : Int32)), .val (.int (3 : Int32)), .unset, .unset] [(.int (5 : Int32)), (.int (9 : Int32)), (.int (2 : Int32)), (.int (0 : Int32)), (.ref i)])) rfl (by rw [hml]; rfl) (argsL := [(.ref i), (.int (0 : Int32)), (.int (2 : Int32)), (.int (9 : Int32)), (.int (5 : Int32))]) (rest := []) (lenOf pd_1 rfl) rfl (by show 2 * 0 + _ ≤ _; exact Nat.le_of_eq rfl) (hb hby d3_115) (fun _ _ => ⟨rfl, eh12, (by decide : 1 + 0 ≤ _), (by decide : 2 + 0 ≤ _)⟩)
  dsimp only [Pt.U, Pt.locs, Pt.cells, Pt.slots] at X14 l14 y14 z14 st14 hQ14
  subst l14 y14 z14
  obtain ⟨rfl, N14q, eh14⟩ := hQ14
  have N14 := Fr.app N12 N14q
  refine oOn st14 ?_
  show oGl p e below (T14.setTop (mkF m 118 #[.val (.ref v), .val (.ref i), .val (.int (0 : Int32)), .val (.int (2 : Int32)), .val (.int (1 : Int32)), .val (.int (9 : Int32)), .val (.int (5 : Int32)), .val (.int (6 : Int32)), .val (.ref a4), .val (.int (1 : Int32)), .val (.int (30 : Int32)), .val (.int (16 : Int32)), .val (.int (5 : Int32)), .val (.int (1 : Int32)), .val (.int (4 : Int32)), .val (.int (3 : Int32)), .unset, .unset] [(.int (31 : Int32))])) _
  refine sistore X14 hx (hb hby d3_118) rfl rfl (l' := #[.val (.ref v), .val (.ref i), .val (.int (0 : Int32)), .val (.int (2 : Int32)), .val (.int (1 : Int32)), .val (.int (9 : Int32)), .val (.int (5 : Int32)), .val (.int (6 : Int32)), .val (.ref a4), .val (.int (1 : Int32)), .val (.int (30 : Int32)), .val (.int (16 : Int32)), .val (.int (5 : Int32)), .val (.int (1 : Int32)), .val (.int (31 : Int32)), .val (.int (3 : Int32)), .unset, .unset]) (pc' := 120) ?_
  refine siload X14 hx (hb hby d3_120) rfl rfl (pc' := 122) ?_
  refine siload X14 hx (hb hby d3_122) rfl rfl (pc' := 124) ?_
  refine siconst X14 hx (hb hby d3_124) rfl rfl (z := 1) (pc' := 125) ?_
  refine sisub X14 hx (hb hby d3_125) rfl (by decide) (z := (15 : Int32)) (pc' := 126) ?_
  refine siand X14 hx (hb hby d3_126) rfl (by decide) (z := (15 : Int32)) (pc' := 127) ?_
  refine siload X14 hx (hb hby d3_127) rfl rfl (pc' := 129) ?_
  refine sicY X14 hx (hb hby d3_129) (by decide) (by decide) (flt (by decide : ¬ ((15 : Int32) < (1 : Int32)))).2.1 (pc' := 153) ?_
  refine siload X14 hx (hb hby d3_153) rfl rfl (pc' := 155) ?_
  refine siload X14 hx (hb hby d3_155) rfl rfl (pc' := 157) ?_
  refine sicN X14 hx (hb hby d3_157) rfl (flt (by decide : ¬ ((31 : Int32) < (16 : Int32)))).1 (pc' := 160) ?_
  refine siload X14 hx (hb hby d3_160) rfl rfl (pc' := 162) ?_
  refine siload X14 hx (hb hby d3_162) rfl rfl (pc' := 164) ?_
  refine sisub X14 hx (hb hby d3_164) rfl (by decide) (z := (30 : Int32)) (pc' := 165) ?_
  refine sistore X14 hx (hb hby d3_165) rfl rfl (l' := #[.val (.ref v), .val (.ref i), .val (.int (0 : Int32)), .val (.int (2 : Int32)), .val (.int (1 : Int32)), .val (.int (9 : Int32)), .val (.int (5 : Int32)), .val (.int (6 : Int32)), .val (.ref a4), .val (.int (1 : Int32)), .val (.int (30 : Int32)), .val (.int (16 : Int32)), .val (.int (5 : Int32)), .val (.int (1 : Int32)), .val (.int (30 : Int32)), .val (.int (3 : Int32)), .unset, .unset]) (pc' := 167) ?_
  refine siload X14 hx (hb hby d3_167) rfl rfl (pc' := 169) ?_
  refine siload X14 hx (hb hby d3_169) rfl rfl (pc' := 171) ?_
  refine siadd X14 hx (hb hby d3_171) rfl (by decide) (z := (14 : Int32)) (pc' := 172) ?_
  refine sistore X14 hx (hb hby d3_172) rfl rfl (l' := #[.val (.ref v), .val (.ref i), .val (.int (0 : Int32)), .val (.int (2 : Int32)), .val (.int (1 : Int32)), .val (.int (14 : Int32)), .val (.int (5 : Int32)), .val (.int (6 : Int32)), .val (.ref a4), .val (.int (1 : Int32)), .val (.int (30 : Int32)), .val (.int (16 : Int32)), .val (.int (5 : Int32)), .val (.int (1 : Int32)), .val (.int (30 : Int32)), .val (.int (3 : Int32)), .unset, .unset]) (pc' := 174) ?_
  refine siload X14 hx (hb hby d3_174) rfl rfl (pc' := 176) ?_
  refine siconst X14 hx (hb hby d3_176) rfl rfl (z := 1) (pc' := 177) ?_
  refine sisub X14 hx (hb hby d3_177) rfl (by decide) (z := (29 : Int32)) (pc' := 178) ?_
  refine sistore X14 hx (hb hby d3_178) rfl rfl (l' := #[.val (.ref v), .val (.ref i), .val (.int (0 : Int32)), .val (.int (2 : Int32)), .val (.int (1 : Int32)), .val (.int (14 : Int32)), .val (.int (5 : Int32)), .val (.int (6 : Int32)), .val (.ref a4), .val (.int (1 : Int32)), .val (.int (30 : Int32)), .val (.int (16 : Int32)), .val (.int (5 : Int32)), .val (.int (1 : Int32)), .val (.int (30 : Int32)), .val (.int (29 : Int32)), .unset, .unset]) (pc' := 180) ?_
  refine saload X14 hx (hb hby d3_180) rfl rfl rfl (pc' := 182) ?_
  refine siload X14 hx (hb hby d3_182) rfl rfl (pc' := 184) ?_
  refine siinc X14 hx (hb hby d3_184) rfl rfl rfl (l' := #[.val (.ref v), .val (.ref i), .val (.int (0 : Int32)), .val (.int (2 : Int32)), .val (.int (1 : Int32)), .val (.int (14 : Int32)), .val (.int (5 : Int32)), .val (.int (6 : Int32)), .val (.ref a4), .val (.int (2 : Int32)), .val (.int (30 : Int32)), .val (.int (16 : Int32)), .val (.int (5 : Int32)), .val (.int (1 : Int32)), .val (.int (30 : Int32)), .val (.int (29 : Int32)), .unset, .unset]) (pc' := 187) ?_
  refine siload X14 hx (hb hby d3_187) rfl rfl (pc' := 189) ?_
  refine si2s X14 hx (hb hby d3_189) rfl (by decide) (z := (29 : Int32)) (pc' := 190) ?_
  obtain ⟨T15, h15, X15, e15, W15, V15, st15⟩ := V9.stS X14 hx hZ eh14 (j := (1 : Int32)) (by decide) (g := (mkF m 190 #[.val (.ref v), .val (.ref i), .val (.int (0 : Int32)), .val (.int (2 : Int32)), .val (.int (1 : Int32)), .val (.int (14 : Int32)), .val (.int (5 : Int32)), .val (.int (6 : Int32)), .val (.ref a4), .val (.int (2 : Int32)), .val (.int (30 : Int32)), .val (.int (16 : Int32)), .val (.int (5 : Int32)), .val (.int (1 : Int32)), .val (.int (30 : Int32)), .val (.int (29 : Int32)), .unset, .unset] [(.int (29 : Int32)), (.int (1 : Int32)), (.ref a4)])) rfl rfl (hb hby d3_190)
  refine oOn st15 ?_
  have z16 : h9.size ≤ h15.size := Nat.le_of_eq W15.size.symm
  have N15 := Fr.snoc X15 N14 (by omega)
  show oGl p e below (T15.setTop (mkF m 191 #[.val (.ref v), .val (.ref i), .val (.int (0 : Int32)), .val (.int (2 : Int32)), .val (.int (1 : Int32)), .val (.int (14 : Int32)), .val (.int (5 : Int32)), .val (.int (6 : Int32)), .val (.ref a4), .val (.int (2 : Int32)), .val (.int (30 : Int32)), .val (.int (16 : Int32)), .val (.int (5 : Int32)), .val (.int (1 : Int32)), .val (.int (30 : Int32)), .val (.int (29 : Int32)), .unset, .unset] [])) _
  refine siload X15 hx (hb hby d3_191) rfl rfl (pc' := 193) ?_
  refine siload X15 hx (hb hby d3_193) rfl rfl (pc' := 195) ?_
  have hz17 : n0 ≤ h15.size := by omega
  obtain ⟨_, _, ⟨T17, L17, k17, n17⟩, -, X17, ⟨Lc17, hQ17, l17, y17, z17⟩, st17⟩ := Jvm.LawKit.callS X15 hx (y := (⟨"java/lang/Math", "abs", "(I)I"⟩ : MethodName)) hown (mvT hZ (hw _ (List.mem_of_getElem? (i := 33) rfl))) (mvT hZ (hw _ (List.mem_of_getElem? (i := 34) rfl))) (mvT hZ (hw _ (List.mem_of_getElem? (i := 35) rfl))) (mvT hZ (hw _ (List.mem_of_getElem? (i := 36) rfl))) (by decide) (backOf (W := 1) (rmAbs29 l Z a0 hw []  h15 n0 hz17 ) hZ (hw _ (List.mem_of_getElem? (i := 36) rfl)) (hw _ (List.mem_of_getElem? (i := 35) rfl)) (by decide) (by decide)) (g := (mkF m 195 #[.val (.ref v), .val (.ref i), .val (.int (0 : Int32)), .val (.int (2 : Int32)), .val (.int (1 : Int32)), .val (.int (14 : Int32)), .val (.int (5 : Int32)), .val (.int (6 : Int32)), .val (.ref a4), .val (.int (2 : Int32)), .val (.int (30 : Int32)), .val (.int (16 : Int32)), .val (.int (5 : Int32)), .val (.int (1 : Int32)), .val (.int (30 : Int32)), .val (.int (29 : Int32)), .unset, .unset] [(.int (29 : Int32)), (.int (30 : Int32))])) rfl (by rw [hml]; rfl) (argsL := [(.int (29 : Int32))]) (rest := [(.int (30 : Int32))]) (lenOf pd_0 rfl) rfl (by show 2 * 0 + _ ≤ _; exact Nat.le_of_eq rfl) (hb hby d3_195) (fun _ _ => ⟨rfl, e15, (by decide : 1 + 0 ≤ _), (by decide : 2 + 0 ≤ _)⟩)
  dsimp only [Pt.U, Pt.locs, Pt.cells, Pt.slots] at X17 l17 y17 z17 st17 hQ17
  subst l17 y17 z17
  obtain ⟨rfl, N17q, eh17⟩ := hQ17
  have N17 := Fr.app N15 N17q
  refine oOn st17 ?_
  show oGl p e below (T17.setTop (mkF m 198 #[.val (.ref v), .val (.ref i), .val (.int (0 : Int32)), .val (.int (2 : Int32)), .val (.int (1 : Int32)), .val (.int (14 : Int32)), .val (.int (5 : Int32)), .val (.int (6 : Int32)), .val (.ref a4), .val (.int (2 : Int32)), .val (.int (30 : Int32)), .val (.int (16 : Int32)), .val (.int (5 : Int32)), .val (.int (1 : Int32)), .val (.int (30 : Int32)), .val (.int (29 : Int32)), .unset, .unset] [(.int (29 : Int32)), (.int (30 : Int32))])) _
  refine sisub X17 hx (hb hby d3_198) rfl (by decide) (z := (1 : Int32)) (pc' := 199) ?_
  refine sistore X17 hx (hb hby d3_199) rfl rfl (l' := #[.val (.ref v), .val (.ref i), .val (.int (0 : Int32)), .val (.int (2 : Int32)), .val (.int (1 : Int32)), .val (.int (14 : Int32)), .val (.int (5 : Int32)), .val (.int (6 : Int32)), .val (.ref a4), .val (.int (2 : Int32)), .val (.int (1 : Int32)), .val (.int (16 : Int32)), .val (.int (5 : Int32)), .val (.int (1 : Int32)), .val (.int (30 : Int32)), .val (.int (29 : Int32)), .unset, .unset]) (pc' := 201) ?_
  refine siload X17 hx (hb hby d3_201) rfl rfl (pc' := 203) ?_
  refine sifY X17 hx (hb hby d3_203) (by decide) (by decide) (feq (by decide : ¬ ((29 : Int32) = (0 : Int32)))).2 (pc' := 258) ?_
  refine siload X17 hx (hb hby d3_258) rfl rfl (pc' := 260) ?_
  refine siload X17 hx (hb hby d3_260) rfl rfl (pc' := 262) ?_
  refine sicN X17 hx (hb hby d3_262) rfl (tlt (by decide : (1 : Int32) < (16 : Int32))).2.1 (pc' := 265) ?_
  refine siinc X17 hx (hb hby d3_265) rfl rfl rfl (l' := #[.val (.ref v), .val (.ref i), .val (.int (0 : Int32)), .val (.int (2 : Int32)), .val (.int (1 : Int32)), .val (.int (14 : Int32)), .val (.int (5 : Int32)), .val (.int (6 : Int32)), .val (.ref a4), .val (.int (2 : Int32)), .val (.int (1 : Int32)), .val (.int (16 : Int32)), .val (.int (4 : Int32)), .val (.int (1 : Int32)), .val (.int (30 : Int32)), .val (.int (29 : Int32)), .unset, .unset]) (pc' := 268) ?_
  refine siload X17 hx (hb hby d3_268) rfl rfl (pc' := 270) ?_
  refine siconst X17 hx (hb hby d3_270) rfl rfl (z := 1) (pc' := 271) ?_
  refine sishr X17 hx (hb hby d3_271) rfl (by decide) (z := (8 : Int32)) (pc' := 272) ?_
  refine sistore X17 hx (hb hby d3_272) rfl rfl (l' := #[.val (.ref v), .val (.ref i), .val (.int (0 : Int32)), .val (.int (2 : Int32)), .val (.int (1 : Int32)), .val (.int (14 : Int32)), .val (.int (5 : Int32)), .val (.int (6 : Int32)), .val (.ref a4), .val (.int (2 : Int32)), .val (.int (1 : Int32)), .val (.int (8 : Int32)), .val (.int (4 : Int32)), .val (.int (1 : Int32)), .val (.int (30 : Int32)), .val (.int (29 : Int32)), .unset, .unset]) (pc' := 274) ?_
  refine sgoto X17 hx (hb hby d3_274) (by decide) (by decide)  (pc' := 258) ?_
  refine siload X17 hx (hb hby d3_258) rfl rfl (pc' := 260) ?_
  refine siload X17 hx (hb hby d3_260) rfl rfl (pc' := 262) ?_
  refine sicN X17 hx (hb hby d3_262) rfl (tlt (by decide : (1 : Int32) < (8 : Int32))).2.1 (pc' := 265) ?_
  refine siinc X17 hx (hb hby d3_265) rfl rfl rfl (l' := #[.val (.ref v), .val (.ref i), .val (.int (0 : Int32)), .val (.int (2 : Int32)), .val (.int (1 : Int32)), .val (.int (14 : Int32)), .val (.int (5 : Int32)), .val (.int (6 : Int32)), .val (.ref a4), .val (.int (2 : Int32)), .val (.int (1 : Int32)), .val (.int (8 : Int32)), .val (.int (3 : Int32)), .val (.int (1 : Int32)), .val (.int (30 : Int32)), .val (.int (29 : Int32)), .unset, .unset]) (pc' := 268) ?_
  refine siload X17 hx (hb hby d3_268) rfl rfl (pc' := 270) ?_
  refine siconst X17 hx (hb hby d3_270) rfl rfl (z := 1) (pc' := 271) ?_
  refine sishr X17 hx (hb hby d3_271) rfl (by decide) (z := (4 : Int32)) (pc' := 272) ?_
  refine sistore X17 hx (hb hby d3_272) rfl rfl (l' := #[.val (.ref v), .val (.ref i), .val (.int (0 : Int32)), .val (.int (2 : Int32)), .val (.int (1 : Int32)), .val (.int (14 : Int32)), .val (.int (5 : Int32)), .val (.int (6 : Int32)), .val (.ref a4), .val (.int (2 : Int32)), .val (.int (1 : Int32)), .val (.int (4 : Int32)), .val (.int (3 : Int32)), .val (.int (1 : Int32)), .val (.int (30 : Int32)), .val (.int (29 : Int32)), .unset, .unset]) (pc' := 274) ?_
  refine sgoto X17 hx (hb hby d3_274) (by decide) (by decide)  (pc' := 258) ?_
  refine siload X17 hx (hb hby d3_258) rfl rfl (pc' := 260) ?_
  refine siload X17 hx (hb hby d3_260) rfl rfl (pc' := 262) ?_
  refine sicN X17 hx (hb hby d3_262) rfl (tlt (by decide : (1 : Int32) < (4 : Int32))).2.1 (pc' := 265) ?_
  refine siinc X17 hx (hb hby d3_265) rfl rfl rfl (l' := #[.val (.ref v), .val (.ref i), .val (.int (0 : Int32)), .val (.int (2 : Int32)), .val (.int (1 : Int32)), .val (.int (14 : Int32)), .val (.int (5 : Int32)), .val (.int (6 : Int32)), .val (.ref a4), .val (.int (2 : Int32)), .val (.int (1 : Int32)), .val (.int (4 : Int32)), .val (.int (2 : Int32)), .val (.int (1 : Int32)), .val (.int (30 : Int32)), .val (.int (29 : Int32)), .unset, .unset]) (pc' := 268) ?_
  refine siload X17 hx (hb hby d3_268) rfl rfl (pc' := 270) ?_
  refine siconst X17 hx (hb hby d3_270) rfl rfl (z := 1) (pc' := 271) ?_
  refine sishr X17 hx (hb hby d3_271) rfl (by decide) (z := (2 : Int32)) (pc' := 272) ?_
  refine sistore X17 hx (hb hby d3_272) rfl rfl (l' := #[.val (.ref v), .val (.ref i), .val (.int (0 : Int32)), .val (.int (2 : Int32)), .val (.int (1 : Int32)), .val (.int (14 : Int32)), .val (.int (5 : Int32)), .val (.int (6 : Int32)), .val (.ref a4), .val (.int (2 : Int32)), .val (.int (1 : Int32)), .val (.int (2 : Int32)), .val (.int (2 : Int32)), .val (.int (1 : Int32)), .val (.int (30 : Int32)), .val (.int (29 : Int32)), .unset, .unset]) (pc' := 274) ?_
  refine sgoto X17 hx (hb hby d3_274) (by decide) (by decide)  (pc' := 258) ?_
  refine siload X17 hx (hb hby d3_258) rfl rfl (pc' := 260) ?_
  refine siload X17 hx (hb hby d3_260) rfl rfl (pc' := 262) ?_
  refine sicN X17 hx (hb hby d3_262) rfl (tlt (by decide : (1 : Int32) < (2 : Int32))).2.1 (pc' := 265) ?_
  refine siinc X17 hx (hb hby d3_265) rfl rfl rfl (l' := #[.val (.ref v), .val (.ref i), .val (.int (0 : Int32)), .val (.int (2 : Int32)), .val (.int (1 : Int32)), .val (.int (14 : Int32)), .val (.int (5 : Int32)), .val (.int (6 : Int32)), .val (.ref a4), .val (.int (2 : Int32)), .val (.int (1 : Int32)), .val (.int (2 : Int32)), .val (.int (1 : Int32)), .val (.int (1 : Int32)), .val (.int (30 : Int32)), .val (.int (29 : Int32)), .unset, .unset]) (pc' := 268) ?_
  refine siload X17 hx (hb hby d3_268) rfl rfl (pc' := 270) ?_
  refine siconst X17 hx (hb hby d3_270) rfl rfl (z := 1) (pc' := 271) ?_
  refine sishr X17 hx (hb hby d3_271) rfl (by decide) (z := (1 : Int32)) (pc' := 272) ?_
  refine sistore X17 hx (hb hby d3_272) rfl rfl (l' := #[.val (.ref v), .val (.ref i), .val (.int (0 : Int32)), .val (.int (2 : Int32)), .val (.int (1 : Int32)), .val (.int (14 : Int32)), .val (.int (5 : Int32)), .val (.int (6 : Int32)), .val (.ref a4), .val (.int (2 : Int32)), .val (.int (1 : Int32)), .val (.int (1 : Int32)), .val (.int (1 : Int32)), .val (.int (1 : Int32)), .val (.int (30 : Int32)), .val (.int (29 : Int32)), .unset, .unset]) (pc' := 274) ?_
  refine sgoto X17 hx (hb hby d3_274) (by decide) (by decide)  (pc' := 258) ?_
  refine siload X17 hx (hb hby d3_258) rfl rfl (pc' := 260) ?_
  refine siload X17 hx (hb hby d3_260) rfl rfl (pc' := 262) ?_
  refine sicY X17 hx (hb hby d3_262) (by decide) (by decide) (flt (by decide : ¬ ((1 : Int32) < (1 : Int32)))).2.1 (pc' := 277) ?_
  refine sgoto X17 hx (hb hby d3_277) (by decide) (by decide)  (pc' := 84) ?_
  refine siload X17 hx (hb hby d3_84) rfl rfl (pc' := 86) ?_
  refine siconst X17 hx (hb hby d3_86) rfl rfl (z := 1) (pc' := 87) ?_
  refine sicY X17 hx (hb hby d3_87) (by decide) (by decide) (flt (by decide : ¬ ((1 : Int32) < (1 : Int32)))).2.2.2 (pc' := 280) ?_
  refine siload X17 hx (hb hby d3_280) rfl rfl (pc' := 282) ?_
  refine sbipush X17 hx (hb hby d3_282) rfl rfl (z := 8) (pc' := 284) ?_
  refine siadd X17 hx (hb hby d3_284) rfl (by decide) (z := (22 : Int32)) (pc' := 285) ?_
  refine siconst X17 hx (hb hby d3_285) rfl rfl (z := 1) (pc' := 286) ?_
  refine sisub X17 hx (hb hby d3_286) rfl (by decide) (z := (21 : Int32)) (pc' := 287) ?_
  refine sbipush X17 hx (hb hby d3_287) rfl rfl (z := 8) (pc' := 289) ?_
  refine sidiv X17 hx (hb hby d3_289) rfl (by decide) (by decide) (z := (2 : Int32)) (pc' := 290) ?_
  refine sistore X17 hx (hb hby d3_290) rfl rfl (l' := #[.val (.ref v), .val (.ref i), .val (.int (0 : Int32)), .val (.int (2 : Int32)), .val (.int (1 : Int32)), .val (.int (14 : Int32)), .val (.int (5 : Int32)), .val (.int (6 : Int32)), .val (.ref a4), .val (.int (2 : Int32)), .val (.int (1 : Int32)), .val (.int (1 : Int32)), .val (.int (1 : Int32)), .val (.int (2 : Int32)), .val (.int (30 : Int32)), .val (.int (29 : Int32)), .unset, .unset]) (pc' := 292) ?_
  refine siload X17 hx (hb hby d3_292) rfl rfl (pc' := 294) ?_
  refine siloadN X17 hx (hb hby d3_294) rfl rfl (pc' := 295) ?_
  refine siloadN X17 hx (hb hby d3_295) rfl rfl (pc' := 296) ?_
  refine sisub X17 hx (hb hby d3_296) rfl (by decide) (z := (2 : Int32)) (pc' := 297) ?_
  refine sicY X17 hx (hb hby d3_297) (by decide) (by decide) (flt (by decide : ¬ ((2 : Int32) < (2 : Int32)))).2.2.2 (pc' := 310) ?_
  refine saloadN X17 hx (hb hby d3_310) rfl rfl rfl (pc' := 311) ?_
  refine saload X17 hx (hb hby d3_311) rfl rfl rfl (pc' := 313) ?_
  refine siload X17 hx (hb hby d3_313) rfl rfl (pc' := 315) ?_
  refine siload X17 hx (hb hby d3_315) rfl rfl (pc' := 317) ?_
  have f18 := (((E0.ext E4).wr W9).wr W15)
  have f19 := (((F0.ext E4).other W9 (Or.inl (oNe (by omega)))).other W15 (Or.inl (oNe (by omega))))
  have f20 := (((F1.ext E4).other W9 (Or.inl (oNe (by omega)))).other W15 (Or.inl (oNe (by omega))))
  have f21 := (((F2.ext E4).other W9 (Or.inl (oNe (by omega)))).other W15 (Or.inl (oNe (by omega))))
  have f22 := (((F3.ext E4).other W9 (Or.inl (oNe (by omega)))).other W15 (Or.inl (oNe (by omega))))
  have f23 := (((PV0.ext E4).other W9 (oNe (by omega))).other W15 (oNe (by omega)))
  have f24 := (((PV1.ext E4).other W9 (oNe (by omega))).other W15 (oNe (by omega)))
  have f25 := (((PV2.ext E4).other W9 (oNe (by omega))).other W15 (oNe (by omega)))
  have hz26 : n0 ≤ h15.size := by omega
  obtain ⟨cq26, q26, q26'⟩ := f18.cell
  obtain ⟨_, _, ⟨T26, L26, k26, n26⟩, -, X26, ⟨Lc26, hQ26, l26, y26, z26⟩, st26⟩ := X17.privateBack hx (y := (⟨"com/example/moraine/moraine/compression/FseTable", "build", "([SII)V"⟩ : MethodName)) hown (mvT hZ (hw _ (List.mem_of_getElem? (i := 37) rfl))) (mvT hZ (hw _ (List.mem_of_getElem? (i := 38) rfl))) (oPriv (mvT hZ (hw _ (List.mem_of_getElem? (i := 2) rfl))) (Cond.privateMethod_at (mvP hZ (hw _ (List.mem_of_getElem? (i := 39) rfl)) (args := #[]))) (mvT hZ (hw _ (List.mem_of_getElem? (i := 38) rfl))) (by decide)) (Cond.privateMethod_at (mvP hZ (hw _ (List.mem_of_getElem? (i := 39) rfl)) (args := #[]))) (mvT hZ (hw _ (List.mem_of_getElem? (i := 40) rfl))) (by decide) (backOf (W := 0) (rmBuild l Z a0 hw [] v sa ba la a4 64 lg (fun _ => 0) fb fl h15 n0 hz26 f18 f19 f20 f21 f22 f23 f24 f25 gv gs gb gl dd (by decide) (fun _ => Or.inl rfl) V15 (by omega) (by omega)) hZ (hw _ (List.mem_of_getElem? (i := 40) rfl)) (hw _ (List.mem_of_getElem? (i := 3) rfl)) (by decide) (by decide)) (g := (mkF m 317 #[.val (.ref v), .val (.ref i), .val (.int (0 : Int32)), .val (.int (2 : Int32)), .val (.int (1 : Int32)), .val (.int (14 : Int32)), .val (.int (5 : Int32)), .val (.int (6 : Int32)), .val (.ref a4), .val (.int (2 : Int32)), .val (.int (1 : Int32)), .val (.int (1 : Int32)), .val (.int (1 : Int32)), .val (.int (2 : Int32)), .val (.int (30 : Int32)), .val (.int (29 : Int32)), .unset, .unset] [(.int (5 : Int32)), (.int (2 : Int32)), (.ref a4), (.ref v)])) rfl (by rw [hml]; rfl) (Steps.refl _) (a := v) (by rw [eh17]; exact q26) q26' (argsL := [(.ref a4), (.int (2 : Int32)), (.int (5 : Int32))]) (rest := []) (lenOf pd_3 rfl) rfl (by show 2 * 0 + _ ≤ _; exact Nat.le_of_eq rfl) (hb hby d3_317) (fun _ _ => ⟨rfl, eh17, (by decide : 1 + 1 ≤ _), (by decide : 2 + 2 ≤ _)⟩)
  dsimp only [Pt.U, Pt.locs, Pt.cells, Pt.slots] at X26 l26 y26 z26 st26 hQ26
  subst l26 y26 z26
  obtain ⟨fs26, fb26, fl26, rfl, N26q, K26, Ei26, Fa26, Fb26, Fc26, Fd26, Va26, Vb26, Vc26⟩ := hQ26
  have N26 := Fr.app N17 N26q
  have z27 : h15.size ≤ T26.heap.size := K26.1
  refine oSt st26 ?_
  show oGl p e below (T26.setTop (mkF m 320 #[.val (.ref v), .val (.ref i), .val (.int (0 : Int32)), .val (.int (2 : Int32)), .val (.int (1 : Int32)), .val (.int (14 : Int32)), .val (.int (5 : Int32)), .val (.int (6 : Int32)), .val (.ref a4), .val (.int (2 : Int32)), .val (.int (1 : Int32)), .val (.int (1 : Int32)), .val (.int (1 : Int32)), .val (.int (2 : Int32)), .val (.int (30 : Int32)), .val (.int (29 : Int32)), .unset, .unset] [])) _
  refine siload X26 hx (hb hby d3_320) rfl rfl (pc' := 322) ?_
  have kp28 : Keep h0 T26.heap [v, sa, ba, la] := (((((Keep.refl h0 [v, sa, ba, la]).ext E4).wr W9 (Or.inr (by omega))).wr W15 (Or.inr (by omega))).trans K26 (allS (Or.inl (List.mem_of_getElem? (i := 0) rfl)) (allS (Or.inl (List.mem_of_getElem? (i := 1) rfl)) (allS (Or.inl (List.mem_of_getElem? (i := 2) rfl)) (allS (Or.inl (List.mem_of_getElem? (i := 3) rfl)) all0)))))
  refine oRetI X26 hx Bd.notSynchronized Bd.returns (hb hby d3_322) (by decide) (by decide) ?_
  show Q_rmRead64 Z v sa ba la i lg fb fl h0 n0 _ T26.heap _
  exact ⟨_, _, _, _, rfl, N26, kp28, Ei26, Fa26, Fb26, Fc26, Fd26, Va26, Vb26, Vc26⟩
theorem ef_rmInit64 (m : MethodId) (x0 : Nat) (x1 : Int32)  : entryFrame m #[(.ref x0), (.int x1)] 2 = mkF m 0 #[.val (.ref x0), .val (.int x1)] [] := by first | (simp [entryFrame, mkF, argsToLocals, Value.category, maxLocals]; done) | rfl
def Q_rmInit64 (Z : State) (v : Nat) (h0 : Heap) (n0 : Nat) (vv : Option Value) (h : Heap) (L : List Loc) : Prop := ∃ sa ba la : Nat, vv = none ∧ Fr n0 L ∧ Keep h0 h [v] ∧ Exa Z h v "com/example/moraine/moraine/compression/FseTable" ∧ Fld Z h v "com/example/moraine/moraine/compression/FseTable" "symbols" "[B" (.ref sa) ∧ Fld Z h v "com/example/moraine/moraine/compression/FseTable" "bits" "[B" (.ref ba) ∧ Fld Z h v "com/example/moraine/moraine/compression/FseTable" "baselines" "[S" (.ref la) ∧ Fld Z h v "com/example/moraine/moraine/compression/FseTable" "log" "I" (.int 0) ∧ oAI Z h sa .byte 64 (fun _ => 0) ∧ oAI Z h ba .byte 64 (fun _ => 0) ∧ oAI Z h la .short 64 (fun _ => 0) ∧ h0.size ≤ sa ∧ v < sa ∧ sa < ba ∧ ba < la
set_option maxRecDepth 65536 in
set_option maxHeartbeats 40000000 in
theorem rmInit64 (l : Launch) (Z : State) (a0 : Array Value) (hw : ∀ d ∈ tables_1, d.before a0 Z = true) (ws : List Jvm.Cond) (v : Nat) (h0 : Heap) (n0 : Nat) (Z0 : n0 ≤ h0.size) (E0 : Exa Z h0 v "com/example/moraine/moraine/compression/FseTable") (F0 : Fld Z h0 v "com/example/moraine/moraine/compression/FseTable" "symbols" "[B" .null) (F1 : Fld Z h0 v "com/example/moraine/moraine/compression/FseTable" "bits" "[B" .null) (F2 : Fld Z h0 v "com/example/moraine/moraine/compression/FseTable" "baselines" "[S" .null) (F3 : Fld Z h0 v "com/example/moraine/moraine/compression/FseTable" "log" "I" (.int 0)) (gv : n0 ≤ v) :
    MetFree l (⟨"com/example/moraine/moraine/compression/FseTable", "<init>", "(I)V"⟩ : MethodName) (head1 (Jvm.Cond.code (⟨"com/example/moraine/moraine/compression/FseTable", "<init>", "(I)V"⟩ : MethodName) prog_7_method_1_code 2 (none : Option FieldType) :: ws) ({ frames := 1, cells := 3, slots := 192, locals := 12 } : Room)) (fun aA uU => aA = #[(.ref v), (.int (6 : Int32))] ∧ Z.Warmed39 uU.vm ∧ uU.heap = h0) (fun _ _ _ _ _ => True) (fun _ uU oO uU' => ∃ vV lL, oO = .returned vV ∧ Q_rmInit64 Z v h0 n0 vV uU'.heap lL ∧ FrameEnd uU oO uU' lL ({ frames := 1, cells := 3, slots := 192, locals := 12 } : Room).cells ({ frames := 1, cells := 3, slots := 192, locals := 12 } : Room).slots) := by
  refine MetFree.of_bodySF (plainFor_of_name pn_FseTable) hisR ?_
  intro p e s m args below meth c s₁ Bd hml0 hP hK
  obtain ⟨rfl, hZ, hh⟩ := hP
  have hx := Bd.exec
  have hby := Bd.bytes
  have hml : c.maxLocals = 2 := hml0
  have hown : s.vm.findClass "com/example/moraine/moraine/compression/FseTable" = some m.cls := findClass_of_methodNamed Bd.named
  have hnm := (name_of_methodNamed Bd.named Bd.method).1
  have X0 : Stand p l e ({ frames := 1, cells := 3, slots := 192, locals := 12 } : Room) s m #[(.ref v), (.int (6 : Int32))] below meth c s₁ [] 0 0 := Stand.of_body Bd
  have e0 : s₁.heap = h0 := by rw [← hh, Bd.state]; rfl
  have N0 := Fr.nil n0
  have lv : @LT.lt Nat _ v h0.size := E0.lt
  refine oEnter (oCast (ef_rmInit64 m v (6 : Int32) ) ?_)
  show oGl p e below (s₁.setTop (mkF m 0 #[.val (.ref v), .val (.int (6 : Int32))] [])) _
  refine saloadN X0 hx (hb hby d1_0) rfl rfl rfl (pc' := 1) ?_
  obtain ⟨T1, X1, e1, st1⟩ := initO X0 hx hZ hown (hw _ (List.mem_of_getElem? (i := 7) rfl)) (hw _ (List.mem_of_getElem? (i := 8) rfl)) (hw _ (List.mem_of_getElem? (i := 9) rfl)) e0 (g := (mkF m 1 #[.val (.ref v), .val (.int (6 : Int32))] [(.ref v)])) rfl (by rw [hml]; rfl) rfl (hb hby d1_1) (by decide) (W := 0) (by show 2 * 0 + _ ≤ _; exact Nat.le_of_eq rfl) (by decide)
  refine oOn st1 ?_
  show oGl p e below (T1.setTop (mkF m 4 #[.val (.ref v), .val (.int (6 : Int32))] [])) _
  refine saloadN X1 hx (hb hby d1_4) rfl rfl rfl (pc' := 5) ?_
  refine siconst X1 hx (hb hby d1_5) rfl rfl (z := 1) (pc' := 6) ?_
  refine siloadN X1 hx (hb hby d1_6) rfl rfl (pc' := 7) ?_
  refine sishl X1 hx (hb hby d1_7) rfl (by decide) (z := (64 : Int32)) (pc' := 8) ?_
  obtain ⟨T2, h2, k2, X2, e2, E2, A2, st2⟩ := newP X1 hx hZ (hw _ (List.mem_of_getElem? (i := 0) rfl)) e1 (g := (mkF m 8 #[.val (.ref v), .val (.int (6 : Int32))] [(.int (64 : Int32)), (.ref v)])) rfl (hb hby d1_8) rfl (by decide) (cap := 64) (by decide) (by decide) (by decide) (by decide)
  obtain ⟨a2, g2⟩ : ∃ z, z = h0.size := ⟨_, rfl⟩
  rw [← g2] at A2 st2
  refine oOn st2 ?_
  have z3 : h0.size ≤ h2.size := E2.1
  have lt2 : a2 < h2.size := A2.lt
  have V2 : oAI Z h2 a2 .byte 64 (fun _ => 0) := oAI.new A2 rfl
  show oGl p e below (T2.setTop (mkF m 10 #[.val (.ref v), .val (.int (6 : Int32))] [(.ref a2), (.ref v)])) _
  have f5 := (F0.ext E2)
  have f6 := (E0.ext E2)
  obtain ⟨T4, h4, X4, e4, W4, st4⟩ := putF X2 hx hZ hown (host := "") (Or.inl (hw _ (List.mem_of_getElem? (i := 10) rfl))) Via.refl e2 f5 f6 (Or.inr ⟨(hw _ (List.mem_of_getElem? (i := 11) rfl)), rfl, hnm⟩) (hw _ (List.mem_of_getElem? (i := 2) rfl)) (ty := (.array .byte)) (by decide) rfl rfl (g := (mkF m 10 #[.val (.ref v), .val (.int (6 : Int32))] [(.ref a2), (.ref v)])) rfl rfl (hb hby d1_10)
  refine oOn st4 ?_
  have z7 : h2.size ≤ h4.size := Nat.le_of_eq W4.size.symm
  have N4 := Fr.snoc X4 N0 (by omega)
  have f4 := Fld.same W4 f5
  show oGl p e below (T4.setTop (mkF m 13 #[.val (.ref v), .val (.int (6 : Int32))] [])) _
  refine saloadN X4 hx (hb hby d1_13) rfl rfl rfl (pc' := 14) ?_
  refine siconst X4 hx (hb hby d1_14) rfl rfl (z := 1) (pc' := 15) ?_
  refine siloadN X4 hx (hb hby d1_15) rfl rfl (pc' := 16) ?_
  refine sishl X4 hx (hb hby d1_16) rfl (by decide) (z := (64 : Int32)) (pc' := 17) ?_
  obtain ⟨T8, h8, k8, X8, e8, E8, A8, st8⟩ := newP X4 hx hZ (hw _ (List.mem_of_getElem? (i := 0) rfl)) e4 (g := (mkF m 17 #[.val (.ref v), .val (.int (6 : Int32))] [(.int (64 : Int32)), (.ref v)])) rfl (hb hby d1_17) rfl (by decide) (cap := 64) (by decide) (by decide) (by decide) (by decide)
  obtain ⟨a8, g8⟩ : ∃ z, z = h4.size := ⟨_, rfl⟩
  rw [← g8] at A8 st8
  refine oOn st8 ?_
  have z9 : h4.size ≤ h8.size := E8.1
  have lt8 : a8 < h8.size := A8.lt
  have V8 : oAI Z h8 a8 .byte 64 (fun _ => 0) := oAI.new A8 rfl
  show oGl p e below (T8.setTop (mkF m 19 #[.val (.ref v), .val (.int (6 : Int32))] [(.ref a8), (.ref v)])) _
  have f11 := (((F1.ext E2).other W4 (Or.inr (slot_ne (Or.inr (hw _ (List.mem_of_getElem? (i := 13) rfl))) (Or.inr (hw _ (List.mem_of_getElem? (i := 11) rfl))) (by decide) (t := (.array .byte)) (t' := (.array .byte)) (by decide) (by decide)))).ext E8)
  have f12 := ((f6.wr W4).ext E8)
  obtain ⟨T10, h10, X10, e10, W10, st10⟩ := putF X8 hx hZ hown (host := "") (Or.inl (hw _ (List.mem_of_getElem? (i := 12) rfl))) Via.refl e8 f11 f12 (Or.inr ⟨(hw _ (List.mem_of_getElem? (i := 13) rfl)), rfl, hnm⟩) (hw _ (List.mem_of_getElem? (i := 2) rfl)) (ty := (.array .byte)) (by decide) rfl rfl (g := (mkF m 19 #[.val (.ref v), .val (.int (6 : Int32))] [(.ref a8), (.ref v)])) rfl rfl (hb hby d1_19)
  refine oOn st10 ?_
  have z13 : h8.size ≤ h10.size := Nat.le_of_eq W10.size.symm
  have N10 := Fr.snoc X10 N4 (by omega)
  have f10 := Fld.same W10 f11
  show oGl p e below (T10.setTop (mkF m 22 #[.val (.ref v), .val (.int (6 : Int32))] [])) _
  refine saloadN X10 hx (hb hby d1_22) rfl rfl rfl (pc' := 23) ?_
  refine siconst X10 hx (hb hby d1_23) rfl rfl (z := 1) (pc' := 24) ?_
  refine siloadN X10 hx (hb hby d1_24) rfl rfl (pc' := 25) ?_
  refine sishl X10 hx (hb hby d1_25) rfl (by decide) (z := (64 : Int32)) (pc' := 26) ?_
  obtain ⟨T14, h14, k14, X14, e14, E14, A14, st14⟩ := newP X10 hx hZ (hw _ (List.mem_of_getElem? (i := 14) rfl)) e10 (g := (mkF m 26 #[.val (.ref v), .val (.int (6 : Int32))] [(.int (64 : Int32)), (.ref v)])) rfl (hb hby d1_26) rfl (by decide) (cap := 64) (by decide) (by decide) (by decide) (by decide)
  obtain ⟨a14, g14⟩ : ∃ z, z = h10.size := ⟨_, rfl⟩
  rw [← g14] at A14 st14
  refine oOn st14 ?_
  have z15 : h10.size ≤ h14.size := E14.1
  have lt14 : a14 < h14.size := A14.lt
  have V14 : oAI Z h14 a14 .short 64 (fun _ => 0) := oAI.new A14 rfl
  show oGl p e below (T14.setTop (mkF m 28 #[.val (.ref v), .val (.int (6 : Int32))] [(.ref a14), (.ref v)])) _
  have f17 := (((((F2.ext E2).other W4 (Or.inr (slot_ne (Or.inr (hw _ (List.mem_of_getElem? (i := 16) rfl))) (Or.inr (hw _ (List.mem_of_getElem? (i := 11) rfl))) (by decide) (t := (.array .short)) (t' := (.array .byte)) (by decide) (by decide)))).ext E8).other W10 (Or.inr (slot_ne (Or.inr (hw _ (List.mem_of_getElem? (i := 16) rfl))) (Or.inr (hw _ (List.mem_of_getElem? (i := 13) rfl))) (by decide) (t := (.array .short)) (t' := (.array .byte)) (by decide) (by decide)))).ext E14)
  have f18 := ((f12.wr W10).ext E14)
  obtain ⟨T16, h16, X16, e16, W16, st16⟩ := putF X14 hx hZ hown (host := "") (Or.inl (hw _ (List.mem_of_getElem? (i := 15) rfl))) Via.refl e14 f17 f18 (Or.inr ⟨(hw _ (List.mem_of_getElem? (i := 16) rfl)), rfl, hnm⟩) (hw _ (List.mem_of_getElem? (i := 2) rfl)) (ty := (.array .short)) (by decide) rfl rfl (g := (mkF m 28 #[.val (.ref v), .val (.int (6 : Int32))] [(.ref a14), (.ref v)])) rfl rfl (hb hby d1_28)
  refine oOn st16 ?_
  have z19 : h14.size ≤ h16.size := Nat.le_of_eq W16.size.symm
  have N16 := Fr.snoc X16 N10 (by omega)
  have f16 := Fld.same W16 f17
  show oGl p e below (T16.setTop (mkF m 31 #[.val (.ref v), .val (.int (6 : Int32))] [])) _
  have kp20 : Keep h0 h16 [v] := (((((((Keep.refl h0 [v]).ext E2).wr W4 (Or.inl (List.mem_of_getElem? (i := 0) rfl))).ext E8).wr W10 (Or.inl (List.mem_of_getElem? (i := 0) rfl))).ext E14).wr W16 (Or.inl (List.mem_of_getElem? (i := 0) rfl)))
  have f21 := (f18.wr W16)
  have f22 := ((((f4.ext E8).other W10 (Or.inr (slot_ne (Or.inr (hw _ (List.mem_of_getElem? (i := 11) rfl))) (Or.inr (hw _ (List.mem_of_getElem? (i := 13) rfl))) (by decide) (t := (.array .byte)) (t' := (.array .byte)) (by decide) (by decide)))).ext E14).other W16 (Or.inr (slot_ne (Or.inr (hw _ (List.mem_of_getElem? (i := 11) rfl))) (Or.inr (hw _ (List.mem_of_getElem? (i := 16) rfl))) (by decide) (t := (.array .byte)) (t' := (.array .short)) (by decide) (by decide))))
  have f23 := ((f10.ext E14).other W16 (Or.inr (slot_ne (Or.inr (hw _ (List.mem_of_getElem? (i := 13) rfl))) (Or.inr (hw _ (List.mem_of_getElem? (i := 16) rfl))) (by decide) (t := (.array .byte)) (t' := (.array .short)) (by decide) (by decide))))
  have f24 := ((((((F3.ext E2).other W4 (Or.inr (slot_ne (Or.inl (hw _ (List.mem_of_getElem? (i := 46) rfl))) (Or.inr (hw _ (List.mem_of_getElem? (i := 11) rfl))) (by decide) (t := .int) (t' := (.array .byte)) (by decide) (by decide)))).ext E8).other W10 (Or.inr (slot_ne (Or.inl (hw _ (List.mem_of_getElem? (i := 46) rfl))) (Or.inr (hw _ (List.mem_of_getElem? (i := 13) rfl))) (by decide) (t := .int) (t' := (.array .byte)) (by decide) (by decide)))).ext E14).other W16 (Or.inr (slot_ne (Or.inl (hw _ (List.mem_of_getElem? (i := 46) rfl))) (Or.inr (hw _ (List.mem_of_getElem? (i := 16) rfl))) (by decide) (t := .int) (t' := (.array .short)) (by decide) (by decide))))
  have f25 := (((((V2.other W4 (oNe (by omega))).ext E8).other W10 (oNe (by omega))).ext E14).other W16 (oNe (by omega)))
  have f26 := (((V8.other W10 (oNe (by omega))).ext E14).other W16 (oNe (by omega)))
  have f27 := (V14.other W16 (oNe (by omega)))
  refine oRet0 X16 hx Bd.notSynchronized Bd.returns (hb hby d1_31) (by decide) (by decide) ?_
  show Q_rmInit64 Z v h0 n0 _ T16.heap _
  rw [e16]
  exact ⟨a2, a8, a14, rfl, N16, kp20, f21, f22, f23, f16, f24, f25, f26, f27, by omega, by omega, by omega, by omega⟩
theorem ef_rmRead128 (m : MethodId) (x0 : Nat) (x1 : Nat) (x2 : Int32) (x3 : Int32) (x4 : Int32)  : entryFrame m #[(.ref x0), (.ref x1), (.int x2), (.int x3), (.int x4)] 18 = mkF m 0 #[.val (.ref x0), .val (.ref x1), .val (.int x2), .val (.int x3), .val (.int x4), .unset, .unset, .unset, .unset, .unset, .unset, .unset, .unset, .unset, .unset, .unset, .unset, .unset] [] := by first | (simp [entryFrame, mkF, argsToLocals, Value.category, maxLocals]; done) | rfl
def Q_rmRead128 (Z : State) (v sa ba la : Nat) (i : Nat) (lg : Int32) (fb fl : Nat → Int32) (h0 : Heap) (n0 : Nat) (vv : Option Value) (h : Heap) (L : List Loc) : Prop := ∃ (r : Int32) (fs fb fl : Nat → Int32), vv = some (.int r) ∧ Fr n0 L ∧ Keep h0 h [v, sa, ba, la] ∧ Exa Z h v "com/example/moraine/moraine/compression/FseTable" ∧ Fld Z h v "com/example/moraine/moraine/compression/FseTable" "symbols" "[B" (.ref sa) ∧ Fld Z h v "com/example/moraine/moraine/compression/FseTable" "bits" "[B" (.ref ba) ∧ Fld Z h v "com/example/moraine/moraine/compression/FseTable" "baselines" "[S" (.ref la) ∧ Fld Z h v "com/example/moraine/moraine/compression/FseTable" "log" "I" (.int 5) ∧ oAI Z h sa .byte 128 fs ∧ oAI Z h ba .byte 128 fb ∧ oAI Z h la .short 128 fl
set_option maxRecDepth 65536 in
set_option maxHeartbeats 40000000 in
theorem rmRead128 (l : Launch) (Z : State) (a0 : Array Value) (hw : ∀ d ∈ tables_1, d.before a0 Z = true) (ws : List Jvm.Cond) (v sa ba la : Nat) (i : Nat) (lg : Int32) (fb fl : Nat → Int32) (h0 : Heap) (n0 : Nat) (Z0 : n0 ≤ h0.size) (E0 : Exa Z h0 v "com/example/moraine/moraine/compression/FseTable") (F0 : Fld Z h0 v "com/example/moraine/moraine/compression/FseTable" "symbols" "[B" (.ref sa)) (F1 : Fld Z h0 v "com/example/moraine/moraine/compression/FseTable" "bits" "[B" (.ref ba)) (F2 : Fld Z h0 v "com/example/moraine/moraine/compression/FseTable" "baselines" "[S" (.ref la)) (F3 : Fld Z h0 v "com/example/moraine/moraine/compression/FseTable" "log" "I" (.int lg)) (PV0 : oAI Z h0 sa .byte 128 (fun _ => 0)) (PV1 : oAI Z h0 ba .byte 128 fb) (PV2 : oAI Z h0 la .short 128 fl) (gv : n0 ≤ v) (gs : n0 ≤ sa) (gb : n0 ≤ ba) (gl : n0 ≤ la) (dd : v < sa ∧ sa < ba ∧ ba < la) (VI : oAI Z h0 i .byte 2 (oUp (oUp (fun _ => 0) 0 64) 1 62)) (di : i < v) :
    MetFree l (⟨"com/example/moraine/moraine/compression/FseTable", "read", "([BIII)I"⟩ : MethodName) (head1 (Jvm.Cond.code (⟨"com/example/moraine/moraine/compression/FseTable", "read", "([BIII)I"⟩ : MethodName) prog_7_method_9_code 18 (some .int) :: ws) ({ frames := 2, cells := 2, slots := 4, locals := 38 } : Room)) (fun aA uU => aA = #[(.ref v), (.ref i), (.int (0 : Int32)), (.int (2 : Int32)), (.int (1 : Int32))] ∧ Z.Warmed39 uU.vm ∧ uU.heap = h0) (fun _ _ _ _ _ => True) (fun _ uU oO uU' => ∃ vV lL, oO = .returned vV ∧ Q_rmRead128 Z v sa ba la i lg fb fl h0 n0 vV uU'.heap lL ∧ FrameEnd uU oO uU' lL ({ frames := 2, cells := 2, slots := 4, locals := 38 } : Room).cells ({ frames := 2, cells := 2, slots := 4, locals := 38 } : Room).slots) := by
  refine MetFree.of_bodySF (plainFor_of_name pn_FseTable) hisR ?_
  intro p e s m args below meth c s₁ Bd hml0 hP hK
  obtain ⟨rfl, hZ, hh⟩ := hP
  have hx := Bd.exec
  have hby := Bd.bytes
  have hml : c.maxLocals = 18 := hml0
  have hown : s.vm.findClass "com/example/moraine/moraine/compression/FseTable" = some m.cls := findClass_of_methodNamed Bd.named
  have hnm := (name_of_methodNamed Bd.named Bd.method).1
  have X0 : Stand p l e ({ frames := 2, cells := 2, slots := 4, locals := 38 } : Room) s m #[(.ref v), (.ref i), (.int (0 : Int32)), (.int (2 : Int32)), (.int (1 : Int32))] below meth c s₁ [] 0 0 := Stand.of_body Bd
  have e0 : s₁.heap = h0 := by rw [← hh, Bd.state]; rfl
  have N0 := Fr.nil n0
  have lv : @LT.lt Nat _ v h0.size := E0.lt
  have lsa := PV0.lt
  have lba := PV1.lt
  have lla := PV2.lt
  have li := VI.lt
  refine oEnter (oCast (ef_rmRead128 m v i (0 : Int32) (2 : Int32) (1 : Int32) ) ?_)
  show oGl p e below (s₁.setTop (mkF m 0 #[.val (.ref v), .val (.ref i), .val (.int (0 : Int32)), .val (.int (2 : Int32)), .val (.int (1 : Int32)), .unset, .unset, .unset, .unset, .unset, .unset, .unset, .unset, .unset, .unset, .unset, .unset, .unset] [])) _
  refine siconst X0 hx (hb hby d3_0) rfl rfl (z := 0) (pc' := 1) ?_
  refine sistore X0 hx (hb hby d3_1) rfl rfl (l' := #[.val (.ref v), .val (.ref i), .val (.int (0 : Int32)), .val (.int (2 : Int32)), .val (.int (1 : Int32)), .val (.int (0 : Int32)), .unset, .unset, .unset, .unset, .unset, .unset, .unset, .unset, .unset, .unset, .unset, .unset]) (pc' := 3) ?_
  refine saloadN X0 hx (hb hby d3_3) rfl rfl rfl (pc' := 4) ?_
  refine siloadN X0 hx (hb hby d3_4) rfl rfl (pc' := 5) ?_
  refine siloadN X0 hx (hb hby d3_5) rfl rfl (pc' := 6) ?_
  refine siload X0 hx (hb hby d3_6) rfl rfl (pc' := 8) ?_
  refine siconst X0 hx (hb hby d3_8) rfl rfl (z := 4) (pc' := 9) ?_
  have hz1 : n0 ≤ h0.size := by omega
  obtain ⟨_, _, ⟨T1, L1, k1, n1⟩, -, X1, ⟨Lc1, hQ1, l1, y1, z1⟩, st1⟩ := Jvm.LawKit.callS X0 hx (y := (⟨"com/example/moraine/moraine/compression/FseTable", "forward", "([BIIII)I"⟩ : MethodName)) hown (mvT hZ (hw _ (List.mem_of_getElem? (i := 22) rfl))) (mvT hZ (hw _ (List.mem_of_getElem? (i := 23) rfl))) (mvT hZ (hw _ (List.mem_of_getElem? (i := 3) rfl))) (mvT hZ (hw _ (List.mem_of_getElem? (i := 24) rfl))) (by decide) (backOf (W := 0) (rmFwd0 l Z a0 hw [] i h0 n0 hz1 VI) hZ (hw _ (List.mem_of_getElem? (i := 24) rfl)) (hw _ (List.mem_of_getElem? (i := 3) rfl)) (by decide) (by decide)) (g := (mkF m 9 #[.val (.ref v), .val (.ref i), .val (.int (0 : Int32)), .val (.int (2 : Int32)), .val (.int (1 : Int32)), .val (.int (0 : Int32)), .unset, .unset, .unset, .unset, .unset, .unset, .unset, .unset, .unset, .unset, .unset, .unset] [(.int (4 : Int32)), (.int (0 : Int32)), (.int (2 : Int32)), (.int (0 : Int32)), (.ref i)])) rfl (by rw [hml]; rfl) (argsL := [(.ref i), (.int (0 : Int32)), (.int (2 : Int32)), (.int (0 : Int32)), (.int (4 : Int32))]) (rest := []) (lenOf pd_1 rfl) rfl (by show 2 * 0 + _ ≤ _; exact Nat.le_of_eq rfl) (hb hby d3_9) (fun _ _ => ⟨rfl, e0, (by decide : 0 + 0 ≤ _), (by decide : 0 + 0 ≤ _)⟩)
  dsimp only [Pt.U, Pt.locs, Pt.cells, Pt.slots] at X1 l1 y1 z1 st1 hQ1
  subst l1 y1 z1
  obtain ⟨rfl, N1q, eh1⟩ := hQ1
  have N1 := Fr.app N0 N1q
  refine oOn st1 ?_
  show oGl p e below (T1.setTop (mkF m 12 #[.val (.ref v), .val (.ref i), .val (.int (0 : Int32)), .val (.int (2 : Int32)), .val (.int (1 : Int32)), .val (.int (0 : Int32)), .unset, .unset, .unset, .unset, .unset, .unset, .unset, .unset, .unset, .unset, .unset, .unset] [(.int (0 : Int32))])) _
  refine siconst X1 hx (hb hby d3_12) rfl rfl (z := 5) (pc' := 13) ?_
  refine siadd X1 hx (hb hby d3_13) rfl (by decide) (z := (5 : Int32)) (pc' := 14) ?_
  refine sistore X1 hx (hb hby d3_14) rfl rfl (l' := #[.val (.ref v), .val (.ref i), .val (.int (0 : Int32)), .val (.int (2 : Int32)), .val (.int (1 : Int32)), .val (.int (0 : Int32)), .val (.int (5 : Int32)), .unset, .unset, .unset, .unset, .unset, .unset, .unset, .unset, .unset, .unset, .unset]) (pc' := 16) ?_
  refine siinc X1 hx (hb hby d3_16) rfl rfl rfl (l' := #[.val (.ref v), .val (.ref i), .val (.int (0 : Int32)), .val (.int (2 : Int32)), .val (.int (1 : Int32)), .val (.int (4 : Int32)), .val (.int (5 : Int32)), .unset, .unset, .unset, .unset, .unset, .unset, .unset, .unset, .unset, .unset, .unset]) (pc' := 19) ?_
  refine saloadN X1 hx (hb hby d3_19) rfl rfl rfl (pc' := 20) ?_
  obtain ⟨T2, X2, e2, st2⟩ := getF X1 hx hZ hown (host := "") (Or.inl (hw _ (List.mem_of_getElem? (i := 10) rfl))) Via.refl eh1 F0 (g := (mkF m 20 #[.val (.ref v), .val (.ref i), .val (.int (0 : Int32)), .val (.int (2 : Int32)), .val (.int (1 : Int32)), .val (.int (4 : Int32)), .val (.int (5 : Int32)), .unset, .unset, .unset, .unset, .unset, .unset, .unset, .unset, .unset, .unset, .unset] [(.ref v)])) rfl rfl (hb hby d3_20)
  refine oOn st2 ?_
  show oGl p e below (T2.setTop (mkF m 23 #[.val (.ref v), .val (.ref i), .val (.int (0 : Int32)), .val (.int (2 : Int32)), .val (.int (1 : Int32)), .val (.int (4 : Int32)), .val (.int (5 : Int32)), .unset, .unset, .unset, .unset, .unset, .unset, .unset, .unset, .unset, .unset, .unset] [(.ref sa)])) _
  refine oOn (PV0.len X2 hx hZ e2 (g := (mkF m 23 #[.val (.ref v), .val (.ref i), .val (.int (0 : Int32)), .val (.int (2 : Int32)), .val (.int (1 : Int32)), .val (.int (4 : Int32)), .val (.int (5 : Int32)), .unset, .unset, .unset, .unset, .unset, .unset, .unset, .unset, .unset, .unset, .unset] [(.ref sa)])) rfl rfl (hb hby d3_23)) ?_
  show oGl p e below (T2.setTop (mkF m 24 #[.val (.ref v), .val (.ref i), .val (.int (0 : Int32)), .val (.int (2 : Int32)), .val (.int (1 : Int32)), .val (.int (4 : Int32)), .val (.int (5 : Int32)), .unset, .unset, .unset, .unset, .unset, .unset, .unset, .unset, .unset, .unset, .unset] [(.int (128 : Int32))])) _
  have hz3 : n0 ≤ h0.size := by omega
  obtain ⟨_, _, ⟨T3, L3, k3, n3⟩, -, X3, ⟨Lc3, hQ3, l3, y3, z3⟩, st3⟩ := Jvm.LawKit.callS X2 hx (y := (⟨"java/lang/Integer", "numberOfTrailingZeros", "(I)I"⟩ : MethodName)) hown (mvT hZ (hw _ (List.mem_of_getElem? (i := 25) rfl))) (mvT hZ (hw _ (List.mem_of_getElem? (i := 26) rfl))) (mvT hZ (hw _ (List.mem_of_getElem? (i := 27) rfl))) (mvT hZ (hw _ (List.mem_of_getElem? (i := 28) rfl))) (by decide) (backOf (W := 0) (rmNtz128 l Z a0 hw []  h0 n0 hz3 ) hZ (hw _ (List.mem_of_getElem? (i := 28) rfl)) (hw _ (List.mem_of_getElem? (i := 27) rfl)) (by decide) (by decide)) (g := (mkF m 24 #[.val (.ref v), .val (.ref i), .val (.int (0 : Int32)), .val (.int (2 : Int32)), .val (.int (1 : Int32)), .val (.int (4 : Int32)), .val (.int (5 : Int32)), .unset, .unset, .unset, .unset, .unset, .unset, .unset, .unset, .unset, .unset, .unset] [(.int (128 : Int32))])) rfl (by rw [hml]; rfl) (argsL := [(.int (128 : Int32))]) (rest := []) (lenOf pd_0 rfl) rfl (by show 2 * 0 + _ ≤ _; exact Nat.le_of_eq rfl) (hb hby d3_24) (fun _ _ => ⟨rfl, e2, (by decide : 0 + 0 ≤ _), (by decide : 0 + 0 ≤ _)⟩)
  dsimp only [Pt.U, Pt.locs, Pt.cells, Pt.slots] at X3 l3 y3 z3 st3 hQ3
  subst l3 y3 z3
  obtain ⟨rfl, N3q, eh3⟩ := hQ3
  have N3 := Fr.app N1 N3q
  refine oOn st3 ?_
  show oGl p e below (T3.setTop (mkF m 27 #[.val (.ref v), .val (.ref i), .val (.int (0 : Int32)), .val (.int (2 : Int32)), .val (.int (1 : Int32)), .val (.int (4 : Int32)), .val (.int (5 : Int32)), .unset, .unset, .unset, .unset, .unset, .unset, .unset, .unset, .unset, .unset, .unset] [(.int (7 : Int32))])) _
  refine sistore X3 hx (hb hby d3_27) rfl rfl (l' := #[.val (.ref v), .val (.ref i), .val (.int (0 : Int32)), .val (.int (2 : Int32)), .val (.int (1 : Int32)), .val (.int (4 : Int32)), .val (.int (5 : Int32)), .val (.int (7 : Int32)), .unset, .unset, .unset, .unset, .unset, .unset, .unset, .unset, .unset, .unset]) (pc' := 29) ?_
  refine siload X3 hx (hb hby d3_29) rfl rfl (pc' := 31) ?_
  refine siload X3 hx (hb hby d3_31) rfl rfl (pc' := 33) ?_
  refine sicY X3 hx (hb hby d3_33) (by decide) (by decide) (flt (by decide : ¬ ((7 : Int32) < (5 : Int32)))).2.2.2 (pc' := 53) ?_
  refine siload X3 hx (hb hby d3_53) rfl rfl (pc' := 55) ?_
  refine siconst X3 hx (hb hby d3_55) rfl rfl (z := 1) (pc' := 56) ?_
  refine siadd X3 hx (hb hby d3_56) rfl (by decide) (z := (2 : Int32)) (pc' := 57) ?_
  obtain ⟨T4, h4, k4, X4, e4, E4, A4, st4⟩ := newP X3 hx hZ (hw _ (List.mem_of_getElem? (i := 14) rfl)) eh3 (g := (mkF m 57 #[.val (.ref v), .val (.ref i), .val (.int (0 : Int32)), .val (.int (2 : Int32)), .val (.int (1 : Int32)), .val (.int (4 : Int32)), .val (.int (5 : Int32)), .val (.int (7 : Int32)), .unset, .unset, .unset, .unset, .unset, .unset, .unset, .unset, .unset, .unset] [(.int (2 : Int32))])) rfl (hb hby d3_57) rfl (by decide) (cap := 2) (by decide) (by decide) (by decide) (by decide)
  obtain ⟨a4, g4⟩ : ∃ z, z = h0.size := ⟨_, rfl⟩
  rw [← g4] at A4 st4
  refine oOn st4 ?_
  have z5 : h0.size ≤ h4.size := E4.1
  have lt4 : a4 < h4.size := A4.lt
  have V4 : oAI Z h4 a4 .short 2 (fun _ => 0) := oAI.new A4 rfl
  show oGl p e below (T4.setTop (mkF m 59 #[.val (.ref v), .val (.ref i), .val (.int (0 : Int32)), .val (.int (2 : Int32)), .val (.int (1 : Int32)), .val (.int (4 : Int32)), .val (.int (5 : Int32)), .val (.int (7 : Int32)), .unset, .unset, .unset, .unset, .unset, .unset, .unset, .unset, .unset, .unset] [(.ref a4)])) _
  refine sastore X4 hx (hb hby d3_59) rfl rfl rfl (l' := #[.val (.ref v), .val (.ref i), .val (.int (0 : Int32)), .val (.int (2 : Int32)), .val (.int (1 : Int32)), .val (.int (4 : Int32)), .val (.int (5 : Int32)), .val (.int (7 : Int32)), .val (.ref a4), .unset, .unset, .unset, .unset, .unset, .unset, .unset, .unset, .unset]) (pc' := 61) ?_
  refine siconst X4 hx (hb hby d3_61) rfl rfl (z := 0) (pc' := 62) ?_
  refine sistore X4 hx (hb hby d3_62) rfl rfl (l' := #[.val (.ref v), .val (.ref i), .val (.int (0 : Int32)), .val (.int (2 : Int32)), .val (.int (1 : Int32)), .val (.int (4 : Int32)), .val (.int (5 : Int32)), .val (.int (7 : Int32)), .val (.ref a4), .val (.int (0 : Int32)), .unset, .unset, .unset, .unset, .unset, .unset, .unset, .unset]) (pc' := 64) ?_
  refine siconst X4 hx (hb hby d3_64) rfl rfl (z := 1) (pc' := 65) ?_
  refine siload X4 hx (hb hby d3_65) rfl rfl (pc' := 67) ?_
  refine sishl X4 hx (hb hby d3_67) rfl (by decide) (z := (32 : Int32)) (pc' := 68) ?_
  refine siconst X4 hx (hb hby d3_68) rfl rfl (z := 1) (pc' := 69) ?_
  refine siadd X4 hx (hb hby d3_69) rfl (by decide) (z := (33 : Int32)) (pc' := 70) ?_
  refine sistore X4 hx (hb hby d3_70) rfl rfl (l' := #[.val (.ref v), .val (.ref i), .val (.int (0 : Int32)), .val (.int (2 : Int32)), .val (.int (1 : Int32)), .val (.int (4 : Int32)), .val (.int (5 : Int32)), .val (.int (7 : Int32)), .val (.ref a4), .val (.int (0 : Int32)), .val (.int (33 : Int32)), .unset, .unset, .unset, .unset, .unset, .unset, .unset]) (pc' := 72) ?_
  refine siconst X4 hx (hb hby d3_72) rfl rfl (z := 1) (pc' := 73) ?_
  refine siload X4 hx (hb hby d3_73) rfl rfl (pc' := 75) ?_
  refine sishl X4 hx (hb hby d3_75) rfl (by decide) (z := (32 : Int32)) (pc' := 76) ?_
  refine sistore X4 hx (hb hby d3_76) rfl rfl (l' := #[.val (.ref v), .val (.ref i), .val (.int (0 : Int32)), .val (.int (2 : Int32)), .val (.int (1 : Int32)), .val (.int (4 : Int32)), .val (.int (5 : Int32)), .val (.int (7 : Int32)), .val (.ref a4), .val (.int (0 : Int32)), .val (.int (33 : Int32)), .val (.int (32 : Int32)), .unset, .unset, .unset, .unset, .unset, .unset]) (pc' := 78) ?_
  refine siload X4 hx (hb hby d3_78) rfl rfl (pc' := 80) ?_
  refine siconst X4 hx (hb hby d3_80) rfl rfl (z := 1) (pc' := 81) ?_
  refine siadd X4 hx (hb hby d3_81) rfl (by decide) (z := (6 : Int32)) (pc' := 82) ?_
  refine sistore X4 hx (hb hby d3_82) rfl rfl (l' := #[.val (.ref v), .val (.ref i), .val (.int (0 : Int32)), .val (.int (2 : Int32)), .val (.int (1 : Int32)), .val (.int (4 : Int32)), .val (.int (5 : Int32)), .val (.int (7 : Int32)), .val (.ref a4), .val (.int (0 : Int32)), .val (.int (33 : Int32)), .val (.int (32 : Int32)), .val (.int (6 : Int32)), .unset, .unset, .unset, .unset, .unset]) (pc' := 84) ?_
  refine siload X4 hx (hb hby d3_84) rfl rfl (pc' := 86) ?_
  refine siconst X4 hx (hb hby d3_86) rfl rfl (z := 1) (pc' := 87) ?_
  refine sicN X4 hx (hb hby d3_87) rfl (tlt (by decide : (1 : Int32) < (33 : Int32))).2.2.2 (pc' := 90) ?_
  refine siload X4 hx (hb hby d3_90) rfl rfl (pc' := 92) ?_
  refine siload X4 hx (hb hby d3_92) rfl rfl (pc' := 94) ?_
  have hz6 : n0 ≤ h4.size := by omega
  obtain ⟨_, _, ⟨T6, L6, k6, n6⟩, -, X6, ⟨Lc6, hQ6, l6, y6, z6⟩, st6⟩ := Jvm.LawKit.callS X4 hx (y := (⟨"com/example/moraine/moraine/compression/FseTable", "requireSymbol", "(II)V"⟩ : MethodName)) hown (mvT hZ (hw _ (List.mem_of_getElem? (i := 30) rfl))) (mvT hZ (hw _ (List.mem_of_getElem? (i := 31) rfl))) (mvT hZ (hw _ (List.mem_of_getElem? (i := 3) rfl))) (mvT hZ (hw _ (List.mem_of_getElem? (i := 32) rfl))) (by decide) (backOf (W := 0) (rmReq0 l Z a0 hw []  h4 n0 hz6 ) hZ (hw _ (List.mem_of_getElem? (i := 32) rfl)) (hw _ (List.mem_of_getElem? (i := 3) rfl)) (by decide) (by decide)) (g := (mkF m 94 #[.val (.ref v), .val (.ref i), .val (.int (0 : Int32)), .val (.int (2 : Int32)), .val (.int (1 : Int32)), .val (.int (4 : Int32)), .val (.int (5 : Int32)), .val (.int (7 : Int32)), .val (.ref a4), .val (.int (0 : Int32)), .val (.int (33 : Int32)), .val (.int (32 : Int32)), .val (.int (6 : Int32)), .unset, .unset, .unset, .unset, .unset] [(.int (1 : Int32)), (.int (0 : Int32))])) rfl (by rw [hml]; rfl) (argsL := [(.int (0 : Int32)), (.int (1 : Int32))]) (rest := []) (lenOf pd_2 rfl) rfl (by show 2 * 0 + _ ≤ _; exact Nat.le_of_eq rfl) (hb hby d3_94) (fun _ _ => ⟨rfl, e4, (by decide : 1 + 0 ≤ _), (by decide : 2 + 0 ≤ _)⟩)
  dsimp only [Pt.U, Pt.locs, Pt.cells, Pt.slots] at X6 l6 y6 z6 st6 hQ6
  subst l6 y6 z6
  obtain ⟨rfl, N6q, eh6⟩ := hQ6
  have N6 := Fr.app N3 N6q
  refine oOn st6 ?_
  show oGl p e below (T6.setTop (mkF m 97 #[.val (.ref v), .val (.ref i), .val (.int (0 : Int32)), .val (.int (2 : Int32)), .val (.int (1 : Int32)), .val (.int (4 : Int32)), .val (.int (5 : Int32)), .val (.int (7 : Int32)), .val (.ref a4), .val (.int (0 : Int32)), .val (.int (33 : Int32)), .val (.int (32 : Int32)), .val (.int (6 : Int32)), .unset, .unset, .unset, .unset, .unset] [])) _
  refine siconst X6 hx (hb hby d3_97) rfl rfl (z := 2) (pc' := 98) ?_
  refine siload X6 hx (hb hby d3_98) rfl rfl (pc' := 100) ?_
  refine simul X6 hx (hb hby d3_100) rfl (by decide) (z := (64 : Int32)) (pc' := 101) ?_
  refine siconst X6 hx (hb hby d3_101) rfl rfl (z := 1) (pc' := 102) ?_
  refine sisub X6 hx (hb hby d3_102) rfl (by decide) (z := (63 : Int32)) (pc' := 103) ?_
  refine siload X6 hx (hb hby d3_103) rfl rfl (pc' := 105) ?_
  refine sisub X6 hx (hb hby d3_105) rfl (by decide) (z := (30 : Int32)) (pc' := 106) ?_
  refine sistore X6 hx (hb hby d3_106) rfl rfl (l' := #[.val (.ref v), .val (.ref i), .val (.int (0 : Int32)), .val (.int (2 : Int32)), .val (.int (1 : Int32)), .val (.int (4 : Int32)), .val (.int (5 : Int32)), .val (.int (7 : Int32)), .val (.ref a4), .val (.int (0 : Int32)), .val (.int (33 : Int32)), .val (.int (32 : Int32)), .val (.int (6 : Int32)), .val (.int (30 : Int32)), .unset, .unset, .unset, .unset]) (pc' := 108) ?_
  refine saloadN X6 hx (hb hby d3_108) rfl rfl rfl (pc' := 109) ?_
  refine siloadN X6 hx (hb hby d3_109) rfl rfl (pc' := 110) ?_
  refine siloadN X6 hx (hb hby d3_110) rfl rfl (pc' := 111) ?_
  refine siload X6 hx (hb hby d3_111) rfl rfl (pc' := 113) ?_
  refine siload X6 hx (hb hby d3_113) rfl rfl (pc' := 115) ?_
  have f7 := (VI.ext E4)
  have hz8 : n0 ≤ h4.size := by omega
  obtain ⟨_, _, ⟨T8, L8, k8, n8⟩, -, X8, ⟨Lc8, hQ8, l8, y8, z8⟩, st8⟩ := Jvm.LawKit.callS X6 hx (y := (⟨"com/example/moraine/moraine/compression/FseTable", "forward", "([BIIII)I"⟩ : MethodName)) hown (mvT hZ (hw _ (List.mem_of_getElem? (i := 22) rfl))) (mvT hZ (hw _ (List.mem_of_getElem? (i := 23) rfl))) (mvT hZ (hw _ (List.mem_of_getElem? (i := 3) rfl))) (mvT hZ (hw _ (List.mem_of_getElem? (i := 24) rfl))) (by decide) (backOf (W := 0) (rmFwd4 l Z a0 hw [] i h4 n0 hz8 f7) hZ (hw _ (List.mem_of_getElem? (i := 24) rfl)) (hw _ (List.mem_of_getElem? (i := 3) rfl)) (by decide) (by decide)) (g := (mkF m 115 #[.val (.ref v), .val (.ref i), .val (.int (0 : Int32)), .val (.int (2 : Int32)), .val (.int (1 : Int32)), .val (.int (4 : Int32)), .val (.int (5 : Int32)), .val (.int (7 : Int32)), .val (.ref a4), .val (.int (0 : Int32)), .val (.int (33 : Int32)), .val (.int (32 : Int32)), .val (.int (6 : Int32)), .val (.int (30 : Int32)), .unset, .unset, .unset, .unset] [(.int (6 : Int32)), (.int (4 : Int32)), (.int (2 : Int32)), (.int (0 : Int32)), (.ref i)])) rfl (by rw [hml]; rfl) (argsL := [(.ref i), (.int (0 : Int32)), (.int (2 : Int32)), (.int (4 : Int32)), (.int (6 : Int32))]) (rest := []) (lenOf pd_1 rfl) rfl (by show 2 * 0 + _ ≤ _; exact Nat.le_of_eq rfl) (hb hby d3_115) (fun _ _ => ⟨rfl, eh6, (by decide : 1 + 0 ≤ _), (by decide : 2 + 0 ≤ _)⟩)
  dsimp only [Pt.U, Pt.locs, Pt.cells, Pt.slots] at X8 l8 y8 z8 st8 hQ8
  subst l8 y8 z8
  obtain ⟨rfl, N8q, eh8⟩ := hQ8
  have N8 := Fr.app N6 N8q
  refine oOn st8 ?_
  show oGl p e below (T8.setTop (mkF m 118 #[.val (.ref v), .val (.ref i), .val (.int (0 : Int32)), .val (.int (2 : Int32)), .val (.int (1 : Int32)), .val (.int (4 : Int32)), .val (.int (5 : Int32)), .val (.int (7 : Int32)), .val (.ref a4), .val (.int (0 : Int32)), .val (.int (33 : Int32)), .val (.int (32 : Int32)), .val (.int (6 : Int32)), .val (.int (30 : Int32)), .unset, .unset, .unset, .unset] [(.int (36 : Int32))])) _
  refine sistore X8 hx (hb hby d3_118) rfl rfl (l' := #[.val (.ref v), .val (.ref i), .val (.int (0 : Int32)), .val (.int (2 : Int32)), .val (.int (1 : Int32)), .val (.int (4 : Int32)), .val (.int (5 : Int32)), .val (.int (7 : Int32)), .val (.ref a4), .val (.int (0 : Int32)), .val (.int (33 : Int32)), .val (.int (32 : Int32)), .val (.int (6 : Int32)), .val (.int (30 : Int32)), .val (.int (36 : Int32)), .unset, .unset, .unset]) (pc' := 120) ?_
  refine siload X8 hx (hb hby d3_120) rfl rfl (pc' := 122) ?_
  refine siload X8 hx (hb hby d3_122) rfl rfl (pc' := 124) ?_
  refine siconst X8 hx (hb hby d3_124) rfl rfl (z := 1) (pc' := 125) ?_
  refine sisub X8 hx (hb hby d3_125) rfl (by decide) (z := (31 : Int32)) (pc' := 126) ?_
  refine siand X8 hx (hb hby d3_126) rfl (by decide) (z := (4 : Int32)) (pc' := 127) ?_
  refine siload X8 hx (hb hby d3_127) rfl rfl (pc' := 129) ?_
  refine sicN X8 hx (hb hby d3_129) rfl (tlt (by decide : (4 : Int32) < (30 : Int32))).2.1 (pc' := 132) ?_
  refine siload X8 hx (hb hby d3_132) rfl rfl (pc' := 134) ?_
  refine siload X8 hx (hb hby d3_134) rfl rfl (pc' := 136) ?_
  refine siconst X8 hx (hb hby d3_136) rfl rfl (z := 1) (pc' := 137) ?_
  refine sisub X8 hx (hb hby d3_137) rfl (by decide) (z := (31 : Int32)) (pc' := 138) ?_
  refine siand X8 hx (hb hby d3_138) rfl (by decide) (z := (4 : Int32)) (pc' := 139) ?_
  refine sistore X8 hx (hb hby d3_139) rfl rfl (l' := #[.val (.ref v), .val (.ref i), .val (.int (0 : Int32)), .val (.int (2 : Int32)), .val (.int (1 : Int32)), .val (.int (4 : Int32)), .val (.int (5 : Int32)), .val (.int (7 : Int32)), .val (.ref a4), .val (.int (0 : Int32)), .val (.int (33 : Int32)), .val (.int (32 : Int32)), .val (.int (6 : Int32)), .val (.int (30 : Int32)), .val (.int (4 : Int32)), .unset, .unset, .unset]) (pc' := 141) ?_
  refine siload X8 hx (hb hby d3_141) rfl rfl (pc' := 143) ?_
  refine siload X8 hx (hb hby d3_143) rfl rfl (pc' := 145) ?_
  refine siconst X8 hx (hb hby d3_145) rfl rfl (z := 1) (pc' := 146) ?_
  refine sisub X8 hx (hb hby d3_146) rfl (by decide) (z := (5 : Int32)) (pc' := 147) ?_
  refine siadd X8 hx (hb hby d3_147) rfl (by decide) (z := (9 : Int32)) (pc' := 148) ?_
  refine sistore X8 hx (hb hby d3_148) rfl rfl (l' := #[.val (.ref v), .val (.ref i), .val (.int (0 : Int32)), .val (.int (2 : Int32)), .val (.int (1 : Int32)), .val (.int (9 : Int32)), .val (.int (5 : Int32)), .val (.int (7 : Int32)), .val (.ref a4), .val (.int (0 : Int32)), .val (.int (33 : Int32)), .val (.int (32 : Int32)), .val (.int (6 : Int32)), .val (.int (30 : Int32)), .val (.int (4 : Int32)), .unset, .unset, .unset]) (pc' := 150) ?_
  refine sgoto X8 hx (hb hby d3_150) (by decide) (by decide)  (pc' := 174) ?_
  refine siload X8 hx (hb hby d3_174) rfl rfl (pc' := 176) ?_
  refine siconst X8 hx (hb hby d3_176) rfl rfl (z := 1) (pc' := 177) ?_
  refine sisub X8 hx (hb hby d3_177) rfl (by decide) (z := (3 : Int32)) (pc' := 178) ?_
  refine sistore X8 hx (hb hby d3_178) rfl rfl (l' := #[.val (.ref v), .val (.ref i), .val (.int (0 : Int32)), .val (.int (2 : Int32)), .val (.int (1 : Int32)), .val (.int (9 : Int32)), .val (.int (5 : Int32)), .val (.int (7 : Int32)), .val (.ref a4), .val (.int (0 : Int32)), .val (.int (33 : Int32)), .val (.int (32 : Int32)), .val (.int (6 : Int32)), .val (.int (30 : Int32)), .val (.int (4 : Int32)), .val (.int (3 : Int32)), .unset, .unset]) (pc' := 180) ?_
  refine saload X8 hx (hb hby d3_180) rfl rfl rfl (pc' := 182) ?_
  refine siload X8 hx (hb hby d3_182) rfl rfl (pc' := 184) ?_
  refine siinc X8 hx (hb hby d3_184) rfl rfl rfl (l' := #[.val (.ref v), .val (.ref i), .val (.int (0 : Int32)), .val (.int (2 : Int32)), .val (.int (1 : Int32)), .val (.int (9 : Int32)), .val (.int (5 : Int32)), .val (.int (7 : Int32)), .val (.ref a4), .val (.int (1 : Int32)), .val (.int (33 : Int32)), .val (.int (32 : Int32)), .val (.int (6 : Int32)), .val (.int (30 : Int32)), .val (.int (4 : Int32)), .val (.int (3 : Int32)), .unset, .unset]) (pc' := 187) ?_
  refine siload X8 hx (hb hby d3_187) rfl rfl (pc' := 189) ?_
  refine si2s X8 hx (hb hby d3_189) rfl (by decide) (z := (3 : Int32)) (pc' := 190) ?_
  obtain ⟨T9, h9, X9, e9, W9, V9, st9⟩ := V4.stS X8 hx hZ eh8 (j := (0 : Int32)) (by decide) (g := (mkF m 190 #[.val (.ref v), .val (.ref i), .val (.int (0 : Int32)), .val (.int (2 : Int32)), .val (.int (1 : Int32)), .val (.int (9 : Int32)), .val (.int (5 : Int32)), .val (.int (7 : Int32)), .val (.ref a4), .val (.int (1 : Int32)), .val (.int (33 : Int32)), .val (.int (32 : Int32)), .val (.int (6 : Int32)), .val (.int (30 : Int32)), .val (.int (4 : Int32)), .val (.int (3 : Int32)), .unset, .unset] [(.int (3 : Int32)), (.int (0 : Int32)), (.ref a4)])) rfl rfl (hb hby d3_190)
  refine oOn st9 ?_
  have z10 : h4.size ≤ h9.size := Nat.le_of_eq W9.size.symm
  have N9 := Fr.snoc X9 N8 (by omega)
  show oGl p e below (T9.setTop (mkF m 191 #[.val (.ref v), .val (.ref i), .val (.int (0 : Int32)), .val (.int (2 : Int32)), .val (.int (1 : Int32)), .val (.int (9 : Int32)), .val (.int (5 : Int32)), .val (.int (7 : Int32)), .val (.ref a4), .val (.int (1 : Int32)), .val (.int (33 : Int32)), .val (.int (32 : Int32)), .val (.int (6 : Int32)), .val (.int (30 : Int32)), .val (.int (4 : Int32)), .val (.int (3 : Int32)), .unset, .unset] [])) _
  refine siload X9 hx (hb hby d3_191) rfl rfl (pc' := 193) ?_
  refine siload X9 hx (hb hby d3_193) rfl rfl (pc' := 195) ?_
  have hz11 : n0 ≤ h9.size := by omega
  obtain ⟨_, _, ⟨T11, L11, k11, n11⟩, -, X11, ⟨Lc11, hQ11, l11, y11, z11⟩, st11⟩ := Jvm.LawKit.callS X9 hx (y := (⟨"java/lang/Math", "abs", "(I)I"⟩ : MethodName)) hown (mvT hZ (hw _ (List.mem_of_getElem? (i := 33) rfl))) (mvT hZ (hw _ (List.mem_of_getElem? (i := 34) rfl))) (mvT hZ (hw _ (List.mem_of_getElem? (i := 35) rfl))) (mvT hZ (hw _ (List.mem_of_getElem? (i := 36) rfl))) (by decide) (backOf (W := 1) (rmAbs3 l Z a0 hw []  h9 n0 hz11 ) hZ (hw _ (List.mem_of_getElem? (i := 36) rfl)) (hw _ (List.mem_of_getElem? (i := 35) rfl)) (by decide) (by decide)) (g := (mkF m 195 #[.val (.ref v), .val (.ref i), .val (.int (0 : Int32)), .val (.int (2 : Int32)), .val (.int (1 : Int32)), .val (.int (9 : Int32)), .val (.int (5 : Int32)), .val (.int (7 : Int32)), .val (.ref a4), .val (.int (1 : Int32)), .val (.int (33 : Int32)), .val (.int (32 : Int32)), .val (.int (6 : Int32)), .val (.int (30 : Int32)), .val (.int (4 : Int32)), .val (.int (3 : Int32)), .unset, .unset] [(.int (3 : Int32)), (.int (33 : Int32))])) rfl (by rw [hml]; rfl) (argsL := [(.int (3 : Int32))]) (rest := [(.int (33 : Int32))]) (lenOf pd_0 rfl) rfl (by show 2 * 0 + _ ≤ _; exact Nat.le_of_eq rfl) (hb hby d3_195) (fun _ _ => ⟨rfl, e9, (by decide : 1 + 0 ≤ _), (by decide : 2 + 0 ≤ _)⟩)
  dsimp only [Pt.U, Pt.locs, Pt.cells, Pt.slots] at X11 l11 y11 z11 st11 hQ11
  subst l11 y11 z11
  obtain ⟨rfl, N11q, eh11⟩ := hQ11
  have N11 := Fr.app N9 N11q
  refine oOn st11 ?_
  show oGl p e below (T11.setTop (mkF m 198 #[.val (.ref v), .val (.ref i), .val (.int (0 : Int32)), .val (.int (2 : Int32)), .val (.int (1 : Int32)), .val (.int (9 : Int32)), .val (.int (5 : Int32)), .val (.int (7 : Int32)), .val (.ref a4), .val (.int (1 : Int32)), .val (.int (33 : Int32)), .val (.int (32 : Int32)), .val (.int (6 : Int32)), .val (.int (30 : Int32)), .val (.int (4 : Int32)), .val (.int (3 : Int32)), .unset, .unset] [(.int (3 : Int32)), (.int (33 : Int32))])) _
  refine sisub X11 hx (hb hby d3_198) rfl (by decide) (z := (30 : Int32)) (pc' := 199) ?_
  refine sistore X11 hx (hb hby d3_199) rfl rfl (l' := #[.val (.ref v), .val (.ref i), .val (.int (0 : Int32)), .val (.int (2 : Int32)), .val (.int (1 : Int32)), .val (.int (9 : Int32)), .val (.int (5 : Int32)), .val (.int (7 : Int32)), .val (.ref a4), .val (.int (1 : Int32)), .val (.int (30 : Int32)), .val (.int (32 : Int32)), .val (.int (6 : Int32)), .val (.int (30 : Int32)), .val (.int (4 : Int32)), .val (.int (3 : Int32)), .unset, .unset]) (pc' := 201) ?_
  refine siload X11 hx (hb hby d3_201) rfl rfl (pc' := 203) ?_
  refine sifY X11 hx (hb hby d3_203) (by decide) (by decide) (feq (by decide : ¬ ((3 : Int32) = (0 : Int32)))).2 (pc' := 258) ?_
  refine siload X11 hx (hb hby d3_258) rfl rfl (pc' := 260) ?_
  refine siload X11 hx (hb hby d3_260) rfl rfl (pc' := 262) ?_
  refine sicN X11 hx (hb hby d3_262) rfl (tlt (by decide : (30 : Int32) < (32 : Int32))).2.1 (pc' := 265) ?_
  refine siinc X11 hx (hb hby d3_265) rfl rfl rfl (l' := #[.val (.ref v), .val (.ref i), .val (.int (0 : Int32)), .val (.int (2 : Int32)), .val (.int (1 : Int32)), .val (.int (9 : Int32)), .val (.int (5 : Int32)), .val (.int (7 : Int32)), .val (.ref a4), .val (.int (1 : Int32)), .val (.int (30 : Int32)), .val (.int (32 : Int32)), .val (.int (5 : Int32)), .val (.int (30 : Int32)), .val (.int (4 : Int32)), .val (.int (3 : Int32)), .unset, .unset]) (pc' := 268) ?_
  refine siload X11 hx (hb hby d3_268) rfl rfl (pc' := 270) ?_
  refine siconst X11 hx (hb hby d3_270) rfl rfl (z := 1) (pc' := 271) ?_
  refine sishr X11 hx (hb hby d3_271) rfl (by decide) (z := (16 : Int32)) (pc' := 272) ?_
  refine sistore X11 hx (hb hby d3_272) rfl rfl (l' := #[.val (.ref v), .val (.ref i), .val (.int (0 : Int32)), .val (.int (2 : Int32)), .val (.int (1 : Int32)), .val (.int (9 : Int32)), .val (.int (5 : Int32)), .val (.int (7 : Int32)), .val (.ref a4), .val (.int (1 : Int32)), .val (.int (30 : Int32)), .val (.int (16 : Int32)), .val (.int (5 : Int32)), .val (.int (30 : Int32)), .val (.int (4 : Int32)), .val (.int (3 : Int32)), .unset, .unset]) (pc' := 274) ?_
  refine sgoto X11 hx (hb hby d3_274) (by decide) (by decide)  (pc' := 258) ?_
  refine siload X11 hx (hb hby d3_258) rfl rfl (pc' := 260) ?_
  refine siload X11 hx (hb hby d3_260) rfl rfl (pc' := 262) ?_
  refine sicY X11 hx (hb hby d3_262) (by decide) (by decide) (flt (by decide : ¬ ((30 : Int32) < (16 : Int32)))).2.1 (pc' := 277) ?_
  refine sgoto X11 hx (hb hby d3_277) (by decide) (by decide)  (pc' := 84) ?_
  refine siload X11 hx (hb hby d3_84) rfl rfl (pc' := 86) ?_
  refine siconst X11 hx (hb hby d3_86) rfl rfl (z := 1) (pc' := 87) ?_
  refine sicN X11 hx (hb hby d3_87) rfl (tlt (by decide : (1 : Int32) < (30 : Int32))).2.2.2 (pc' := 90) ?_
  refine siload X11 hx (hb hby d3_90) rfl rfl (pc' := 92) ?_
  refine siload X11 hx (hb hby d3_92) rfl rfl (pc' := 94) ?_
  have hz12 : n0 ≤ h9.size := by omega
  obtain ⟨_, _, ⟨T12, L12, k12, n12⟩, -, X12, ⟨Lc12, hQ12, l12, y12, z12⟩, st12⟩ := Jvm.LawKit.callS X11 hx (y := (⟨"com/example/moraine/moraine/compression/FseTable", "requireSymbol", "(II)V"⟩ : MethodName)) hown (mvT hZ (hw _ (List.mem_of_getElem? (i := 30) rfl))) (mvT hZ (hw _ (List.mem_of_getElem? (i := 31) rfl))) (mvT hZ (hw _ (List.mem_of_getElem? (i := 3) rfl))) (mvT hZ (hw _ (List.mem_of_getElem? (i := 32) rfl))) (by decide) (backOf (W := 0) (rmReq1 l Z a0 hw []  h9 n0 hz12 ) hZ (hw _ (List.mem_of_getElem? (i := 32) rfl)) (hw _ (List.mem_of_getElem? (i := 3) rfl)) (by decide) (by decide)) (g := (mkF m 94 #[.val (.ref v), .val (.ref i), .val (.int (0 : Int32)), .val (.int (2 : Int32)), .val (.int (1 : Int32)), .val (.int (9 : Int32)), .val (.int (5 : Int32)), .val (.int (7 : Int32)), .val (.ref a4), .val (.int (1 : Int32)), .val (.int (30 : Int32)), .val (.int (16 : Int32)), .val (.int (5 : Int32)), .val (.int (30 : Int32)), .val (.int (4 : Int32)), .val (.int (3 : Int32)), .unset, .unset] [(.int (1 : Int32)), (.int (1 : Int32))])) rfl (by rw [hml]; rfl) (argsL := [(.int (1 : Int32)), (.int (1 : Int32))]) (rest := []) (lenOf pd_2 rfl) rfl (by show 2 * 0 + _ ≤ _; exact Nat.le_of_eq rfl) (hb hby d3_94) (fun _ _ => ⟨rfl, eh11, (by decide : 1 + 0 ≤ _), (by decide : 2 + 0 ≤ _)⟩)
  dsimp only [Pt.U, Pt.locs, Pt.cells, Pt.slots] at X12 l12 y12 z12 st12 hQ12
  subst l12 y12 z12
  obtain ⟨rfl, N12q, eh12⟩ := hQ12
  have N12 := Fr.app N11 N12q
  refine oOn st12 ?_
  show oGl p e below (T12.setTop (mkF m 97 #[.val (.ref v), .val (.ref i), .val (.int (0 : Int32)), .val (.int (2 : Int32)), .val (.int (1 : Int32)), .val (.int (9 : Int32)), .val (.int (5 : Int32)), .val (.int (7 : Int32)), .val (.ref a4), .val (.int (1 : Int32)), .val (.int (30 : Int32)), .val (.int (16 : Int32)), .val (.int (5 : Int32)), .val (.int (30 : Int32)), .val (.int (4 : Int32)), .val (.int (3 : Int32)), .unset, .unset] [])) _
  refine siconst X12 hx (hb hby d3_97) rfl rfl (z := 2) (pc' := 98) ?_
  refine siload X12 hx (hb hby d3_98) rfl rfl (pc' := 100) ?_
  refine simul X12 hx (hb hby d3_100) rfl (by decide) (z := (32 : Int32)) (pc' := 101) ?_
  refine siconst X12 hx (hb hby d3_101) rfl rfl (z := 1) (pc' := 102) ?_
  refine sisub X12 hx (hb hby d3_102) rfl (by decide) (z := (31 : Int32)) (pc' := 103) ?_
  refine siload X12 hx (hb hby d3_103) rfl rfl (pc' := 105) ?_
  refine sisub X12 hx (hb hby d3_105) rfl (by decide) (z := (1 : Int32)) (pc' := 106) ?_
  refine sistore X12 hx (hb hby d3_106) rfl rfl (l' := #[.val (.ref v), .val (.ref i), .val (.int (0 : Int32)), .val (.int (2 : Int32)), .val (.int (1 : Int32)), .val (.int (9 : Int32)), .val (.int (5 : Int32)), .val (.int (7 : Int32)), .val (.ref a4), .val (.int (1 : Int32)), .val (.int (30 : Int32)), .val (.int (16 : Int32)), .val (.int (5 : Int32)), .val (.int (1 : Int32)), .val (.int (4 : Int32)), .val (.int (3 : Int32)), .unset, .unset]) (pc' := 108) ?_
  refine saloadN X12 hx (hb hby d3_108) rfl rfl rfl (pc' := 109) ?_
  refine siloadN X12 hx (hb hby d3_109) rfl rfl (pc' := 110) ?_
  refine siloadN X12 hx (hb hby d3_110) rfl rfl (pc' := 111) ?_
  refine siload X12 hx (hb hby d3_111) rfl rfl (pc' := 113) ?_
  refine siload X12 hx (hb hby d3_113) rfl rfl (pc' := 115) ?_
  have f13 := (f7.other W9 (oNe (by omega)))
  have hz14 : n0 ≤ h9.size := by omega
  obtain ⟨_, _, ⟨T14, L14, k14, n14⟩, -, X14, ⟨Lc14, hQ14, l14, y14, z14⟩, st14⟩ := Jvm.LawKit.callS X12 hx (y := (⟨"com/example/moraine/moraine/compression/FseTable", "forward", "([BIIII)I"⟩ : MethodName)) hown (mvT hZ (hw _ (List.mem_of_getElem? (i := 22) rfl))) (mvT hZ (hw _ (List.mem_of_getElem? (i := 23) rfl))) (mvT hZ (hw _ (List.mem_of_getElem? (i := 3) rfl))) (mvT hZ (hw _ (List.mem_of_getElem? (i := 24) rfl))) (by decide) (backOf (W := 0) (rmFwd9 l Z a0 hw [] i h9 n0 hz14 f13) hZ (hw _ (List.mem_of_getElem? (i := 24) rfl)) (hw _ (List.mem_of_getElem? (i := 3) rfl)) (by decide) (by decide)) (g := (mkF m 115 #[.val (.ref v), .val (.ref i), .val (.int (0 : Int32)), .val (.int (2 : Int32)), .val (.int (1 : Int32)), .val (.int (9 : Int32)), .val (.int (5 : Int32)), .val (.int (7 : Int32)), .val (.ref a4), .val (.int (1 : Int32)), .val (.int (30 : Int32)), .val (.int (16 : Int32)), .val (.int (5 : Int32)), .val (.int (1 : Int32)), .val (.int (4 : Int32)), .val (.int (3 : Int32)), .unset, .unset] [(.int (5 : Int32)), (.int (9 : Int32)), (.int (2 : Int32)), (.int (0 : Int32)), (.ref i)])) rfl (by rw [hml]; rfl) (argsL := [(.ref i), (.int (0 : Int32)), (.int (2 : Int32)), (.int (9 : Int32)), (.int (5 : Int32))]) (rest := []) (lenOf pd_1 rfl) rfl (by show 2 * 0 + _ ≤ _; exact Nat.le_of_eq rfl) (hb hby d3_115) (fun _ _ => ⟨rfl, eh12, (by decide : 1 + 0 ≤ _), (by decide : 2 + 0 ≤ _)⟩)
  dsimp only [Pt.U, Pt.locs, Pt.cells, Pt.slots] at X14 l14 y14 z14 st14 hQ14
  subst l14 y14 z14
  obtain ⟨rfl, N14q, eh14⟩ := hQ14
  have N14 := Fr.app N12 N14q
  refine oOn st14 ?_
  show oGl p e below (T14.setTop (mkF m 118 #[.val (.ref v), .val (.ref i), .val (.int (0 : Int32)), .val (.int (2 : Int32)), .val (.int (1 : Int32)), .val (.int (9 : Int32)), .val (.int (5 : Int32)), .val (.int (7 : Int32)), .val (.ref a4), .val (.int (1 : Int32)), .val (.int (30 : Int32)), .val (.int (16 : Int32)), .val (.int (5 : Int32)), .val (.int (1 : Int32)), .val (.int (4 : Int32)), .val (.int (3 : Int32)), .unset, .unset] [(.int (31 : Int32))])) _
  refine sistore X14 hx (hb hby d3_118) rfl rfl (l' := #[.val (.ref v), .val (.ref i), .val (.int (0 : Int32)), .val (.int (2 : Int32)), .val (.int (1 : Int32)), .val (.int (9 : Int32)), .val (.int (5 : Int32)), .val (.int (7 : Int32)), .val (.ref a4), .val (.int (1 : Int32)), .val (.int (30 : Int32)), .val (.int (16 : Int32)), .val (.int (5 : Int32)), .val (.int (1 : Int32)), .val (.int (31 : Int32)), .val (.int (3 : Int32)), .unset, .unset]) (pc' := 120) ?_
  refine siload X14 hx (hb hby d3_120) rfl rfl (pc' := 122) ?_
  refine siload X14 hx (hb hby d3_122) rfl rfl (pc' := 124) ?_
  refine siconst X14 hx (hb hby d3_124) rfl rfl (z := 1) (pc' := 125) ?_
  refine sisub X14 hx (hb hby d3_125) rfl (by decide) (z := (15 : Int32)) (pc' := 126) ?_
  refine siand X14 hx (hb hby d3_126) rfl (by decide) (z := (15 : Int32)) (pc' := 127) ?_
  refine siload X14 hx (hb hby d3_127) rfl rfl (pc' := 129) ?_
  refine sicY X14 hx (hb hby d3_129) (by decide) (by decide) (flt (by decide : ¬ ((15 : Int32) < (1 : Int32)))).2.1 (pc' := 153) ?_
  refine siload X14 hx (hb hby d3_153) rfl rfl (pc' := 155) ?_
  refine siload X14 hx (hb hby d3_155) rfl rfl (pc' := 157) ?_
  refine sicN X14 hx (hb hby d3_157) rfl (flt (by decide : ¬ ((31 : Int32) < (16 : Int32)))).1 (pc' := 160) ?_
  refine siload X14 hx (hb hby d3_160) rfl rfl (pc' := 162) ?_
  refine siload X14 hx (hb hby d3_162) rfl rfl (pc' := 164) ?_
  refine sisub X14 hx (hb hby d3_164) rfl (by decide) (z := (30 : Int32)) (pc' := 165) ?_
  refine sistore X14 hx (hb hby d3_165) rfl rfl (l' := #[.val (.ref v), .val (.ref i), .val (.int (0 : Int32)), .val (.int (2 : Int32)), .val (.int (1 : Int32)), .val (.int (9 : Int32)), .val (.int (5 : Int32)), .val (.int (7 : Int32)), .val (.ref a4), .val (.int (1 : Int32)), .val (.int (30 : Int32)), .val (.int (16 : Int32)), .val (.int (5 : Int32)), .val (.int (1 : Int32)), .val (.int (30 : Int32)), .val (.int (3 : Int32)), .unset, .unset]) (pc' := 167) ?_
  refine siload X14 hx (hb hby d3_167) rfl rfl (pc' := 169) ?_
  refine siload X14 hx (hb hby d3_169) rfl rfl (pc' := 171) ?_
  refine siadd X14 hx (hb hby d3_171) rfl (by decide) (z := (14 : Int32)) (pc' := 172) ?_
  refine sistore X14 hx (hb hby d3_172) rfl rfl (l' := #[.val (.ref v), .val (.ref i), .val (.int (0 : Int32)), .val (.int (2 : Int32)), .val (.int (1 : Int32)), .val (.int (14 : Int32)), .val (.int (5 : Int32)), .val (.int (7 : Int32)), .val (.ref a4), .val (.int (1 : Int32)), .val (.int (30 : Int32)), .val (.int (16 : Int32)), .val (.int (5 : Int32)), .val (.int (1 : Int32)), .val (.int (30 : Int32)), .val (.int (3 : Int32)), .unset, .unset]) (pc' := 174) ?_
  refine siload X14 hx (hb hby d3_174) rfl rfl (pc' := 176) ?_
  refine siconst X14 hx (hb hby d3_176) rfl rfl (z := 1) (pc' := 177) ?_
  refine sisub X14 hx (hb hby d3_177) rfl (by decide) (z := (29 : Int32)) (pc' := 178) ?_
  refine sistore X14 hx (hb hby d3_178) rfl rfl (l' := #[.val (.ref v), .val (.ref i), .val (.int (0 : Int32)), .val (.int (2 : Int32)), .val (.int (1 : Int32)), .val (.int (14 : Int32)), .val (.int (5 : Int32)), .val (.int (7 : Int32)), .val (.ref a4), .val (.int (1 : Int32)), .val (.int (30 : Int32)), .val (.int (16 : Int32)), .val (.int (5 : Int32)), .val (.int (1 : Int32)), .val (.int (30 : Int32)), .val (.int (29 : Int32)), .unset, .unset]) (pc' := 180) ?_
  refine saload X14 hx (hb hby d3_180) rfl rfl rfl (pc' := 182) ?_
  refine siload X14 hx (hb hby d3_182) rfl rfl (pc' := 184) ?_
  refine siinc X14 hx (hb hby d3_184) rfl rfl rfl (l' := #[.val (.ref v), .val (.ref i), .val (.int (0 : Int32)), .val (.int (2 : Int32)), .val (.int (1 : Int32)), .val (.int (14 : Int32)), .val (.int (5 : Int32)), .val (.int (7 : Int32)), .val (.ref a4), .val (.int (2 : Int32)), .val (.int (30 : Int32)), .val (.int (16 : Int32)), .val (.int (5 : Int32)), .val (.int (1 : Int32)), .val (.int (30 : Int32)), .val (.int (29 : Int32)), .unset, .unset]) (pc' := 187) ?_
  refine siload X14 hx (hb hby d3_187) rfl rfl (pc' := 189) ?_
  refine si2s X14 hx (hb hby d3_189) rfl (by decide) (z := (29 : Int32)) (pc' := 190) ?_
  obtain ⟨T15, h15, X15, e15, W15, V15, st15⟩ := V9.stS X14 hx hZ eh14 (j := (1 : Int32)) (by decide) (g := (mkF m 190 #[.val (.ref v), .val (.ref i), .val (.int (0 : Int32)), .val (.int (2 : Int32)), .val (.int (1 : Int32)), .val (.int (14 : Int32)), .val (.int (5 : Int32)), .val (.int (7 : Int32)), .val (.ref a4), .val (.int (2 : Int32)), .val (.int (30 : Int32)), .val (.int (16 : Int32)), .val (.int (5 : Int32)), .val (.int (1 : Int32)), .val (.int (30 : Int32)), .val (.int (29 : Int32)), .unset, .unset] [(.int (29 : Int32)), (.int (1 : Int32)), (.ref a4)])) rfl rfl (hb hby d3_190)
  refine oOn st15 ?_
  have z16 : h9.size ≤ h15.size := Nat.le_of_eq W15.size.symm
  have N15 := Fr.snoc X15 N14 (by omega)
  show oGl p e below (T15.setTop (mkF m 191 #[.val (.ref v), .val (.ref i), .val (.int (0 : Int32)), .val (.int (2 : Int32)), .val (.int (1 : Int32)), .val (.int (14 : Int32)), .val (.int (5 : Int32)), .val (.int (7 : Int32)), .val (.ref a4), .val (.int (2 : Int32)), .val (.int (30 : Int32)), .val (.int (16 : Int32)), .val (.int (5 : Int32)), .val (.int (1 : Int32)), .val (.int (30 : Int32)), .val (.int (29 : Int32)), .unset, .unset] [])) _
  refine siload X15 hx (hb hby d3_191) rfl rfl (pc' := 193) ?_
  refine siload X15 hx (hb hby d3_193) rfl rfl (pc' := 195) ?_
  have hz17 : n0 ≤ h15.size := by omega
  obtain ⟨_, _, ⟨T17, L17, k17, n17⟩, -, X17, ⟨Lc17, hQ17, l17, y17, z17⟩, st17⟩ := Jvm.LawKit.callS X15 hx (y := (⟨"java/lang/Math", "abs", "(I)I"⟩ : MethodName)) hown (mvT hZ (hw _ (List.mem_of_getElem? (i := 33) rfl))) (mvT hZ (hw _ (List.mem_of_getElem? (i := 34) rfl))) (mvT hZ (hw _ (List.mem_of_getElem? (i := 35) rfl))) (mvT hZ (hw _ (List.mem_of_getElem? (i := 36) rfl))) (by decide) (backOf (W := 1) (rmAbs29 l Z a0 hw []  h15 n0 hz17 ) hZ (hw _ (List.mem_of_getElem? (i := 36) rfl)) (hw _ (List.mem_of_getElem? (i := 35) rfl)) (by decide) (by decide)) (g := (mkF m 195 #[.val (.ref v), .val (.ref i), .val (.int (0 : Int32)), .val (.int (2 : Int32)), .val (.int (1 : Int32)), .val (.int (14 : Int32)), .val (.int (5 : Int32)), .val (.int (7 : Int32)), .val (.ref a4), .val (.int (2 : Int32)), .val (.int (30 : Int32)), .val (.int (16 : Int32)), .val (.int (5 : Int32)), .val (.int (1 : Int32)), .val (.int (30 : Int32)), .val (.int (29 : Int32)), .unset, .unset] [(.int (29 : Int32)), (.int (30 : Int32))])) rfl (by rw [hml]; rfl) (argsL := [(.int (29 : Int32))]) (rest := [(.int (30 : Int32))]) (lenOf pd_0 rfl) rfl (by show 2 * 0 + _ ≤ _; exact Nat.le_of_eq rfl) (hb hby d3_195) (fun _ _ => ⟨rfl, e15, (by decide : 1 + 0 ≤ _), (by decide : 2 + 0 ≤ _)⟩)
  dsimp only [Pt.U, Pt.locs, Pt.cells, Pt.slots] at X17 l17 y17 z17 st17 hQ17
  subst l17 y17 z17
  obtain ⟨rfl, N17q, eh17⟩ := hQ17
  have N17 := Fr.app N15 N17q
  refine oOn st17 ?_
  show oGl p e below (T17.setTop (mkF m 198 #[.val (.ref v), .val (.ref i), .val (.int (0 : Int32)), .val (.int (2 : Int32)), .val (.int (1 : Int32)), .val (.int (14 : Int32)), .val (.int (5 : Int32)), .val (.int (7 : Int32)), .val (.ref a4), .val (.int (2 : Int32)), .val (.int (30 : Int32)), .val (.int (16 : Int32)), .val (.int (5 : Int32)), .val (.int (1 : Int32)), .val (.int (30 : Int32)), .val (.int (29 : Int32)), .unset, .unset] [(.int (29 : Int32)), (.int (30 : Int32))])) _
  refine sisub X17 hx (hb hby d3_198) rfl (by decide) (z := (1 : Int32)) (pc' := 199) ?_
  refine sistore X17 hx (hb hby d3_199) rfl rfl (l' := #[.val (.ref v), .val (.ref i), .val (.int (0 : Int32)), .val (.int (2 : Int32)), .val (.int (1 : Int32)), .val (.int (14 : Int32)), .val (.int (5 : Int32)), .val (.int (7 : Int32)), .val (.ref a4), .val (.int (2 : Int32)), .val (.int (1 : Int32)), .val (.int (16 : Int32)), .val (.int (5 : Int32)), .val (.int (1 : Int32)), .val (.int (30 : Int32)), .val (.int (29 : Int32)), .unset, .unset]) (pc' := 201) ?_
  refine siload X17 hx (hb hby d3_201) rfl rfl (pc' := 203) ?_
  refine sifY X17 hx (hb hby d3_203) (by decide) (by decide) (feq (by decide : ¬ ((29 : Int32) = (0 : Int32)))).2 (pc' := 258) ?_
  refine siload X17 hx (hb hby d3_258) rfl rfl (pc' := 260) ?_
  refine siload X17 hx (hb hby d3_260) rfl rfl (pc' := 262) ?_
  refine sicN X17 hx (hb hby d3_262) rfl (tlt (by decide : (1 : Int32) < (16 : Int32))).2.1 (pc' := 265) ?_
  refine siinc X17 hx (hb hby d3_265) rfl rfl rfl (l' := #[.val (.ref v), .val (.ref i), .val (.int (0 : Int32)), .val (.int (2 : Int32)), .val (.int (1 : Int32)), .val (.int (14 : Int32)), .val (.int (5 : Int32)), .val (.int (7 : Int32)), .val (.ref a4), .val (.int (2 : Int32)), .val (.int (1 : Int32)), .val (.int (16 : Int32)), .val (.int (4 : Int32)), .val (.int (1 : Int32)), .val (.int (30 : Int32)), .val (.int (29 : Int32)), .unset, .unset]) (pc' := 268) ?_
  refine siload X17 hx (hb hby d3_268) rfl rfl (pc' := 270) ?_
  refine siconst X17 hx (hb hby d3_270) rfl rfl (z := 1) (pc' := 271) ?_
  refine sishr X17 hx (hb hby d3_271) rfl (by decide) (z := (8 : Int32)) (pc' := 272) ?_
  refine sistore X17 hx (hb hby d3_272) rfl rfl (l' := #[.val (.ref v), .val (.ref i), .val (.int (0 : Int32)), .val (.int (2 : Int32)), .val (.int (1 : Int32)), .val (.int (14 : Int32)), .val (.int (5 : Int32)), .val (.int (7 : Int32)), .val (.ref a4), .val (.int (2 : Int32)), .val (.int (1 : Int32)), .val (.int (8 : Int32)), .val (.int (4 : Int32)), .val (.int (1 : Int32)), .val (.int (30 : Int32)), .val (.int (29 : Int32)), .unset, .unset]) (pc' := 274) ?_
  refine sgoto X17 hx (hb hby d3_274) (by decide) (by decide)  (pc' := 258) ?_
  refine siload X17 hx (hb hby d3_258) rfl rfl (pc' := 260) ?_
  refine siload X17 hx (hb hby d3_260) rfl rfl (pc' := 262) ?_
  refine sicN X17 hx (hb hby d3_262) rfl (tlt (by decide : (1 : Int32) < (8 : Int32))).2.1 (pc' := 265) ?_
  refine siinc X17 hx (hb hby d3_265) rfl rfl rfl (l' := #[.val (.ref v), .val (.ref i), .val (.int (0 : Int32)), .val (.int (2 : Int32)), .val (.int (1 : Int32)), .val (.int (14 : Int32)), .val (.int (5 : Int32)), .val (.int (7 : Int32)), .val (.ref a4), .val (.int (2 : Int32)), .val (.int (1 : Int32)), .val (.int (8 : Int32)), .val (.int (3 : Int32)), .val (.int (1 : Int32)), .val (.int (30 : Int32)), .val (.int (29 : Int32)), .unset, .unset]) (pc' := 268) ?_
  refine siload X17 hx (hb hby d3_268) rfl rfl (pc' := 270) ?_
  refine siconst X17 hx (hb hby d3_270) rfl rfl (z := 1) (pc' := 271) ?_
  refine sishr X17 hx (hb hby d3_271) rfl (by decide) (z := (4 : Int32)) (pc' := 272) ?_
  refine sistore X17 hx (hb hby d3_272) rfl rfl (l' := #[.val (.ref v), .val (.ref i), .val (.int (0 : Int32)), .val (.int (2 : Int32)), .val (.int (1 : Int32)), .val (.int (14 : Int32)), .val (.int (5 : Int32)), .val (.int (7 : Int32)), .val (.ref a4), .val (.int (2 : Int32)), .val (.int (1 : Int32)), .val (.int (4 : Int32)), .val (.int (3 : Int32)), .val (.int (1 : Int32)), .val (.int (30 : Int32)), .val (.int (29 : Int32)), .unset, .unset]) (pc' := 274) ?_
  refine sgoto X17 hx (hb hby d3_274) (by decide) (by decide)  (pc' := 258) ?_
  refine siload X17 hx (hb hby d3_258) rfl rfl (pc' := 260) ?_
  refine siload X17 hx (hb hby d3_260) rfl rfl (pc' := 262) ?_
  refine sicN X17 hx (hb hby d3_262) rfl (tlt (by decide : (1 : Int32) < (4 : Int32))).2.1 (pc' := 265) ?_
  refine siinc X17 hx (hb hby d3_265) rfl rfl rfl (l' := #[.val (.ref v), .val (.ref i), .val (.int (0 : Int32)), .val (.int (2 : Int32)), .val (.int (1 : Int32)), .val (.int (14 : Int32)), .val (.int (5 : Int32)), .val (.int (7 : Int32)), .val (.ref a4), .val (.int (2 : Int32)), .val (.int (1 : Int32)), .val (.int (4 : Int32)), .val (.int (2 : Int32)), .val (.int (1 : Int32)), .val (.int (30 : Int32)), .val (.int (29 : Int32)), .unset, .unset]) (pc' := 268) ?_
  refine siload X17 hx (hb hby d3_268) rfl rfl (pc' := 270) ?_
  refine siconst X17 hx (hb hby d3_270) rfl rfl (z := 1) (pc' := 271) ?_
  refine sishr X17 hx (hb hby d3_271) rfl (by decide) (z := (2 : Int32)) (pc' := 272) ?_
  refine sistore X17 hx (hb hby d3_272) rfl rfl (l' := #[.val (.ref v), .val (.ref i), .val (.int (0 : Int32)), .val (.int (2 : Int32)), .val (.int (1 : Int32)), .val (.int (14 : Int32)), .val (.int (5 : Int32)), .val (.int (7 : Int32)), .val (.ref a4), .val (.int (2 : Int32)), .val (.int (1 : Int32)), .val (.int (2 : Int32)), .val (.int (2 : Int32)), .val (.int (1 : Int32)), .val (.int (30 : Int32)), .val (.int (29 : Int32)), .unset, .unset]) (pc' := 274) ?_
  refine sgoto X17 hx (hb hby d3_274) (by decide) (by decide)  (pc' := 258) ?_
  refine siload X17 hx (hb hby d3_258) rfl rfl (pc' := 260) ?_
  refine siload X17 hx (hb hby d3_260) rfl rfl (pc' := 262) ?_
  refine sicN X17 hx (hb hby d3_262) rfl (tlt (by decide : (1 : Int32) < (2 : Int32))).2.1 (pc' := 265) ?_
  refine siinc X17 hx (hb hby d3_265) rfl rfl rfl (l' := #[.val (.ref v), .val (.ref i), .val (.int (0 : Int32)), .val (.int (2 : Int32)), .val (.int (1 : Int32)), .val (.int (14 : Int32)), .val (.int (5 : Int32)), .val (.int (7 : Int32)), .val (.ref a4), .val (.int (2 : Int32)), .val (.int (1 : Int32)), .val (.int (2 : Int32)), .val (.int (1 : Int32)), .val (.int (1 : Int32)), .val (.int (30 : Int32)), .val (.int (29 : Int32)), .unset, .unset]) (pc' := 268) ?_
  refine siload X17 hx (hb hby d3_268) rfl rfl (pc' := 270) ?_
  refine siconst X17 hx (hb hby d3_270) rfl rfl (z := 1) (pc' := 271) ?_
  refine sishr X17 hx (hb hby d3_271) rfl (by decide) (z := (1 : Int32)) (pc' := 272) ?_
  refine sistore X17 hx (hb hby d3_272) rfl rfl (l' := #[.val (.ref v), .val (.ref i), .val (.int (0 : Int32)), .val (.int (2 : Int32)), .val (.int (1 : Int32)), .val (.int (14 : Int32)), .val (.int (5 : Int32)), .val (.int (7 : Int32)), .val (.ref a4), .val (.int (2 : Int32)), .val (.int (1 : Int32)), .val (.int (1 : Int32)), .val (.int (1 : Int32)), .val (.int (1 : Int32)), .val (.int (30 : Int32)), .val (.int (29 : Int32)), .unset, .unset]) (pc' := 274) ?_
  refine sgoto X17 hx (hb hby d3_274) (by decide) (by decide)  (pc' := 258) ?_
  refine siload X17 hx (hb hby d3_258) rfl rfl (pc' := 260) ?_
  refine siload X17 hx (hb hby d3_260) rfl rfl (pc' := 262) ?_
  refine sicY X17 hx (hb hby d3_262) (by decide) (by decide) (flt (by decide : ¬ ((1 : Int32) < (1 : Int32)))).2.1 (pc' := 277) ?_
  refine sgoto X17 hx (hb hby d3_277) (by decide) (by decide)  (pc' := 84) ?_
  refine siload X17 hx (hb hby d3_84) rfl rfl (pc' := 86) ?_
  refine siconst X17 hx (hb hby d3_86) rfl rfl (z := 1) (pc' := 87) ?_
  refine sicY X17 hx (hb hby d3_87) (by decide) (by decide) (flt (by decide : ¬ ((1 : Int32) < (1 : Int32)))).2.2.2 (pc' := 280) ?_
  refine siload X17 hx (hb hby d3_280) rfl rfl (pc' := 282) ?_
  refine sbipush X17 hx (hb hby d3_282) rfl rfl (z := 8) (pc' := 284) ?_
  refine siadd X17 hx (hb hby d3_284) rfl (by decide) (z := (22 : Int32)) (pc' := 285) ?_
  refine siconst X17 hx (hb hby d3_285) rfl rfl (z := 1) (pc' := 286) ?_
  refine sisub X17 hx (hb hby d3_286) rfl (by decide) (z := (21 : Int32)) (pc' := 287) ?_
  refine sbipush X17 hx (hb hby d3_287) rfl rfl (z := 8) (pc' := 289) ?_
  refine sidiv X17 hx (hb hby d3_289) rfl (by decide) (by decide) (z := (2 : Int32)) (pc' := 290) ?_
  refine sistore X17 hx (hb hby d3_290) rfl rfl (l' := #[.val (.ref v), .val (.ref i), .val (.int (0 : Int32)), .val (.int (2 : Int32)), .val (.int (1 : Int32)), .val (.int (14 : Int32)), .val (.int (5 : Int32)), .val (.int (7 : Int32)), .val (.ref a4), .val (.int (2 : Int32)), .val (.int (1 : Int32)), .val (.int (1 : Int32)), .val (.int (1 : Int32)), .val (.int (2 : Int32)), .val (.int (30 : Int32)), .val (.int (29 : Int32)), .unset, .unset]) (pc' := 292) ?_
  refine siload X17 hx (hb hby d3_292) rfl rfl (pc' := 294) ?_
  refine siloadN X17 hx (hb hby d3_294) rfl rfl (pc' := 295) ?_
  refine siloadN X17 hx (hb hby d3_295) rfl rfl (pc' := 296) ?_
  refine sisub X17 hx (hb hby d3_296) rfl (by decide) (z := (2 : Int32)) (pc' := 297) ?_
  refine sicY X17 hx (hb hby d3_297) (by decide) (by decide) (flt (by decide : ¬ ((2 : Int32) < (2 : Int32)))).2.2.2 (pc' := 310) ?_
  refine saloadN X17 hx (hb hby d3_310) rfl rfl rfl (pc' := 311) ?_
  refine saload X17 hx (hb hby d3_311) rfl rfl rfl (pc' := 313) ?_
  refine siload X17 hx (hb hby d3_313) rfl rfl (pc' := 315) ?_
  refine siload X17 hx (hb hby d3_315) rfl rfl (pc' := 317) ?_
  have f18 := (((E0.ext E4).wr W9).wr W15)
  have f19 := (((F0.ext E4).other W9 (Or.inl (oNe (by omega)))).other W15 (Or.inl (oNe (by omega))))
  have f20 := (((F1.ext E4).other W9 (Or.inl (oNe (by omega)))).other W15 (Or.inl (oNe (by omega))))
  have f21 := (((F2.ext E4).other W9 (Or.inl (oNe (by omega)))).other W15 (Or.inl (oNe (by omega))))
  have f22 := (((F3.ext E4).other W9 (Or.inl (oNe (by omega)))).other W15 (Or.inl (oNe (by omega))))
  have f23 := (((PV0.ext E4).other W9 (oNe (by omega))).other W15 (oNe (by omega)))
  have f24 := (((PV1.ext E4).other W9 (oNe (by omega))).other W15 (oNe (by omega)))
  have f25 := (((PV2.ext E4).other W9 (oNe (by omega))).other W15 (oNe (by omega)))
  have hz26 : n0 ≤ h15.size := by omega
  obtain ⟨cq26, q26, q26'⟩ := f18.cell
  obtain ⟨_, _, ⟨T26, L26, k26, n26⟩, -, X26, ⟨Lc26, hQ26, l26, y26, z26⟩, st26⟩ := X17.privateBack hx (y := (⟨"com/example/moraine/moraine/compression/FseTable", "build", "([SII)V"⟩ : MethodName)) hown (mvT hZ (hw _ (List.mem_of_getElem? (i := 37) rfl))) (mvT hZ (hw _ (List.mem_of_getElem? (i := 38) rfl))) (oPriv (mvT hZ (hw _ (List.mem_of_getElem? (i := 2) rfl))) (Cond.privateMethod_at (mvP hZ (hw _ (List.mem_of_getElem? (i := 39) rfl)) (args := #[]))) (mvT hZ (hw _ (List.mem_of_getElem? (i := 38) rfl))) (by decide)) (Cond.privateMethod_at (mvP hZ (hw _ (List.mem_of_getElem? (i := 39) rfl)) (args := #[]))) (mvT hZ (hw _ (List.mem_of_getElem? (i := 40) rfl))) (by decide) (backOf (W := 0) (rmBuild l Z a0 hw [] v sa ba la a4 128 lg (fun _ => 0) fb fl h15 n0 hz26 f18 f19 f20 f21 f22 f23 f24 f25 gv gs gb gl dd (by decide) (fun _ => Or.inl rfl) V15 (by omega) (by omega)) hZ (hw _ (List.mem_of_getElem? (i := 40) rfl)) (hw _ (List.mem_of_getElem? (i := 3) rfl)) (by decide) (by decide)) (g := (mkF m 317 #[.val (.ref v), .val (.ref i), .val (.int (0 : Int32)), .val (.int (2 : Int32)), .val (.int (1 : Int32)), .val (.int (14 : Int32)), .val (.int (5 : Int32)), .val (.int (7 : Int32)), .val (.ref a4), .val (.int (2 : Int32)), .val (.int (1 : Int32)), .val (.int (1 : Int32)), .val (.int (1 : Int32)), .val (.int (2 : Int32)), .val (.int (30 : Int32)), .val (.int (29 : Int32)), .unset, .unset] [(.int (5 : Int32)), (.int (2 : Int32)), (.ref a4), (.ref v)])) rfl (by rw [hml]; rfl) (Steps.refl _) (a := v) (by rw [eh17]; exact q26) q26' (argsL := [(.ref a4), (.int (2 : Int32)), (.int (5 : Int32))]) (rest := []) (lenOf pd_3 rfl) rfl (by show 2 * 0 + _ ≤ _; exact Nat.le_of_eq rfl) (hb hby d3_317) (fun _ _ => ⟨rfl, eh17, (by decide : 1 + 1 ≤ _), (by decide : 2 + 2 ≤ _)⟩)
  dsimp only [Pt.U, Pt.locs, Pt.cells, Pt.slots] at X26 l26 y26 z26 st26 hQ26
  subst l26 y26 z26
  obtain ⟨fs26, fb26, fl26, rfl, N26q, K26, Ei26, Fa26, Fb26, Fc26, Fd26, Va26, Vb26, Vc26⟩ := hQ26
  have N26 := Fr.app N17 N26q
  have z27 : h15.size ≤ T26.heap.size := K26.1
  refine oSt st26 ?_
  show oGl p e below (T26.setTop (mkF m 320 #[.val (.ref v), .val (.ref i), .val (.int (0 : Int32)), .val (.int (2 : Int32)), .val (.int (1 : Int32)), .val (.int (14 : Int32)), .val (.int (5 : Int32)), .val (.int (7 : Int32)), .val (.ref a4), .val (.int (2 : Int32)), .val (.int (1 : Int32)), .val (.int (1 : Int32)), .val (.int (1 : Int32)), .val (.int (2 : Int32)), .val (.int (30 : Int32)), .val (.int (29 : Int32)), .unset, .unset] [])) _
  refine siload X26 hx (hb hby d3_320) rfl rfl (pc' := 322) ?_
  have kp28 : Keep h0 T26.heap [v, sa, ba, la] := (((((Keep.refl h0 [v, sa, ba, la]).ext E4).wr W9 (Or.inr (by omega))).wr W15 (Or.inr (by omega))).trans K26 (allS (Or.inl (List.mem_of_getElem? (i := 0) rfl)) (allS (Or.inl (List.mem_of_getElem? (i := 1) rfl)) (allS (Or.inl (List.mem_of_getElem? (i := 2) rfl)) (allS (Or.inl (List.mem_of_getElem? (i := 3) rfl)) all0)))))
  refine oRetI X26 hx Bd.notSynchronized Bd.returns (hb hby d3_322) (by decide) (by decide) ?_
  show Q_rmRead128 Z v sa ba la i lg fb fl h0 n0 _ T26.heap _
  exact ⟨_, _, _, _, rfl, N26, kp28, Ei26, Fa26, Fb26, Fc26, Fd26, Va26, Vb26, Vc26⟩
theorem ef_rmInit128 (m : MethodId) (x0 : Nat) (x1 : Int32)  : entryFrame m #[(.ref x0), (.int x1)] 2 = mkF m 0 #[.val (.ref x0), .val (.int x1)] [] := by first | (simp [entryFrame, mkF, argsToLocals, Value.category, maxLocals]; done) | rfl
def Q_rmInit128 (Z : State) (v : Nat) (h0 : Heap) (n0 : Nat) (vv : Option Value) (h : Heap) (L : List Loc) : Prop := ∃ sa ba la : Nat, vv = none ∧ Fr n0 L ∧ Keep h0 h [v] ∧ Exa Z h v "com/example/moraine/moraine/compression/FseTable" ∧ Fld Z h v "com/example/moraine/moraine/compression/FseTable" "symbols" "[B" (.ref sa) ∧ Fld Z h v "com/example/moraine/moraine/compression/FseTable" "bits" "[B" (.ref ba) ∧ Fld Z h v "com/example/moraine/moraine/compression/FseTable" "baselines" "[S" (.ref la) ∧ Fld Z h v "com/example/moraine/moraine/compression/FseTable" "log" "I" (.int 0) ∧ oAI Z h sa .byte 128 (fun _ => 0) ∧ oAI Z h ba .byte 128 (fun _ => 0) ∧ oAI Z h la .short 128 (fun _ => 0) ∧ h0.size ≤ sa ∧ v < sa ∧ sa < ba ∧ ba < la
set_option maxRecDepth 65536 in
set_option maxHeartbeats 40000000 in
theorem rmInit128 (l : Launch) (Z : State) (a0 : Array Value) (hw : ∀ d ∈ tables_1, d.before a0 Z = true) (ws : List Jvm.Cond) (v : Nat) (h0 : Heap) (n0 : Nat) (Z0 : n0 ≤ h0.size) (E0 : Exa Z h0 v "com/example/moraine/moraine/compression/FseTable") (F0 : Fld Z h0 v "com/example/moraine/moraine/compression/FseTable" "symbols" "[B" .null) (F1 : Fld Z h0 v "com/example/moraine/moraine/compression/FseTable" "bits" "[B" .null) (F2 : Fld Z h0 v "com/example/moraine/moraine/compression/FseTable" "baselines" "[S" .null) (F3 : Fld Z h0 v "com/example/moraine/moraine/compression/FseTable" "log" "I" (.int 0)) (gv : n0 ≤ v) :
    MetFree l (⟨"com/example/moraine/moraine/compression/FseTable", "<init>", "(I)V"⟩ : MethodName) (head1 (Jvm.Cond.code (⟨"com/example/moraine/moraine/compression/FseTable", "<init>", "(I)V"⟩ : MethodName) prog_7_method_1_code 2 (none : Option FieldType) :: ws) ({ frames := 1, cells := 3, slots := 384, locals := 12 } : Room)) (fun aA uU => aA = #[(.ref v), (.int (7 : Int32))] ∧ Z.Warmed39 uU.vm ∧ uU.heap = h0) (fun _ _ _ _ _ => True) (fun _ uU oO uU' => ∃ vV lL, oO = .returned vV ∧ Q_rmInit128 Z v h0 n0 vV uU'.heap lL ∧ FrameEnd uU oO uU' lL ({ frames := 1, cells := 3, slots := 384, locals := 12 } : Room).cells ({ frames := 1, cells := 3, slots := 384, locals := 12 } : Room).slots) := by
  refine MetFree.of_bodySF (plainFor_of_name pn_FseTable) hisR ?_
  intro p e s m args below meth c s₁ Bd hml0 hP hK
  obtain ⟨rfl, hZ, hh⟩ := hP
  have hx := Bd.exec
  have hby := Bd.bytes
  have hml : c.maxLocals = 2 := hml0
  have hown : s.vm.findClass "com/example/moraine/moraine/compression/FseTable" = some m.cls := findClass_of_methodNamed Bd.named
  have hnm := (name_of_methodNamed Bd.named Bd.method).1
  have X0 : Stand p l e ({ frames := 1, cells := 3, slots := 384, locals := 12 } : Room) s m #[(.ref v), (.int (7 : Int32))] below meth c s₁ [] 0 0 := Stand.of_body Bd
  have e0 : s₁.heap = h0 := by rw [← hh, Bd.state]; rfl
  have N0 := Fr.nil n0
  have lv : @LT.lt Nat _ v h0.size := E0.lt
  refine oEnter (oCast (ef_rmInit128 m v (7 : Int32) ) ?_)
  show oGl p e below (s₁.setTop (mkF m 0 #[.val (.ref v), .val (.int (7 : Int32))] [])) _
  refine saloadN X0 hx (hb hby d1_0) rfl rfl rfl (pc' := 1) ?_
  obtain ⟨T1, X1, e1, st1⟩ := initO X0 hx hZ hown (hw _ (List.mem_of_getElem? (i := 7) rfl)) (hw _ (List.mem_of_getElem? (i := 8) rfl)) (hw _ (List.mem_of_getElem? (i := 9) rfl)) e0 (g := (mkF m 1 #[.val (.ref v), .val (.int (7 : Int32))] [(.ref v)])) rfl (by rw [hml]; rfl) rfl (hb hby d1_1) (by decide) (W := 0) (by show 2 * 0 + _ ≤ _; exact Nat.le_of_eq rfl) (by decide)
  refine oOn st1 ?_
  show oGl p e below (T1.setTop (mkF m 4 #[.val (.ref v), .val (.int (7 : Int32))] [])) _
  refine saloadN X1 hx (hb hby d1_4) rfl rfl rfl (pc' := 5) ?_
  refine siconst X1 hx (hb hby d1_5) rfl rfl (z := 1) (pc' := 6) ?_
  refine siloadN X1 hx (hb hby d1_6) rfl rfl (pc' := 7) ?_
  refine sishl X1 hx (hb hby d1_7) rfl (by decide) (z := (128 : Int32)) (pc' := 8) ?_
  obtain ⟨T2, h2, k2, X2, e2, E2, A2, st2⟩ := newP X1 hx hZ (hw _ (List.mem_of_getElem? (i := 0) rfl)) e1 (g := (mkF m 8 #[.val (.ref v), .val (.int (7 : Int32))] [(.int (128 : Int32)), (.ref v)])) rfl (hb hby d1_8) rfl (by decide) (cap := 128) (by decide) (by decide) (by decide) (by decide)
  obtain ⟨a2, g2⟩ : ∃ z, z = h0.size := ⟨_, rfl⟩
  rw [← g2] at A2 st2
  refine oOn st2 ?_
  have z3 : h0.size ≤ h2.size := E2.1
  have lt2 : a2 < h2.size := A2.lt
  have V2 : oAI Z h2 a2 .byte 128 (fun _ => 0) := oAI.new A2 rfl
  show oGl p e below (T2.setTop (mkF m 10 #[.val (.ref v), .val (.int (7 : Int32))] [(.ref a2), (.ref v)])) _
  have f5 := (F0.ext E2)
  have f6 := (E0.ext E2)
  obtain ⟨T4, h4, X4, e4, W4, st4⟩ := putF X2 hx hZ hown (host := "") (Or.inl (hw _ (List.mem_of_getElem? (i := 10) rfl))) Via.refl e2 f5 f6 (Or.inr ⟨(hw _ (List.mem_of_getElem? (i := 11) rfl)), rfl, hnm⟩) (hw _ (List.mem_of_getElem? (i := 2) rfl)) (ty := (.array .byte)) (by decide) rfl rfl (g := (mkF m 10 #[.val (.ref v), .val (.int (7 : Int32))] [(.ref a2), (.ref v)])) rfl rfl (hb hby d1_10)
  refine oOn st4 ?_
  have z7 : h2.size ≤ h4.size := Nat.le_of_eq W4.size.symm
  have N4 := Fr.snoc X4 N0 (by omega)
  have f4 := Fld.same W4 f5
  show oGl p e below (T4.setTop (mkF m 13 #[.val (.ref v), .val (.int (7 : Int32))] [])) _
  refine saloadN X4 hx (hb hby d1_13) rfl rfl rfl (pc' := 14) ?_
  refine siconst X4 hx (hb hby d1_14) rfl rfl (z := 1) (pc' := 15) ?_
  refine siloadN X4 hx (hb hby d1_15) rfl rfl (pc' := 16) ?_
  refine sishl X4 hx (hb hby d1_16) rfl (by decide) (z := (128 : Int32)) (pc' := 17) ?_
  obtain ⟨T8, h8, k8, X8, e8, E8, A8, st8⟩ := newP X4 hx hZ (hw _ (List.mem_of_getElem? (i := 0) rfl)) e4 (g := (mkF m 17 #[.val (.ref v), .val (.int (7 : Int32))] [(.int (128 : Int32)), (.ref v)])) rfl (hb hby d1_17) rfl (by decide) (cap := 128) (by decide) (by decide) (by decide) (by decide)
  obtain ⟨a8, g8⟩ : ∃ z, z = h4.size := ⟨_, rfl⟩
  rw [← g8] at A8 st8
  refine oOn st8 ?_
  have z9 : h4.size ≤ h8.size := E8.1
  have lt8 : a8 < h8.size := A8.lt
  have V8 : oAI Z h8 a8 .byte 128 (fun _ => 0) := oAI.new A8 rfl
  show oGl p e below (T8.setTop (mkF m 19 #[.val (.ref v), .val (.int (7 : Int32))] [(.ref a8), (.ref v)])) _
  have f11 := (((F1.ext E2).other W4 (Or.inr (slot_ne (Or.inr (hw _ (List.mem_of_getElem? (i := 13) rfl))) (Or.inr (hw _ (List.mem_of_getElem? (i := 11) rfl))) (by decide) (t := (.array .byte)) (t' := (.array .byte)) (by decide) (by decide)))).ext E8)
  have f12 := ((f6.wr W4).ext E8)
  obtain ⟨T10, h10, X10, e10, W10, st10⟩ := putF X8 hx hZ hown (host := "") (Or.inl (hw _ (List.mem_of_getElem? (i := 12) rfl))) Via.refl e8 f11 f12 (Or.inr ⟨(hw _ (List.mem_of_getElem? (i := 13) rfl)), rfl, hnm⟩) (hw _ (List.mem_of_getElem? (i := 2) rfl)) (ty := (.array .byte)) (by decide) rfl rfl (g := (mkF m 19 #[.val (.ref v), .val (.int (7 : Int32))] [(.ref a8), (.ref v)])) rfl rfl (hb hby d1_19)
  refine oOn st10 ?_
  have z13 : h8.size ≤ h10.size := Nat.le_of_eq W10.size.symm
  have N10 := Fr.snoc X10 N4 (by omega)
  have f10 := Fld.same W10 f11
  show oGl p e below (T10.setTop (mkF m 22 #[.val (.ref v), .val (.int (7 : Int32))] [])) _
  refine saloadN X10 hx (hb hby d1_22) rfl rfl rfl (pc' := 23) ?_
  refine siconst X10 hx (hb hby d1_23) rfl rfl (z := 1) (pc' := 24) ?_
  refine siloadN X10 hx (hb hby d1_24) rfl rfl (pc' := 25) ?_
  refine sishl X10 hx (hb hby d1_25) rfl (by decide) (z := (128 : Int32)) (pc' := 26) ?_
  obtain ⟨T14, h14, k14, X14, e14, E14, A14, st14⟩ := newP X10 hx hZ (hw _ (List.mem_of_getElem? (i := 14) rfl)) e10 (g := (mkF m 26 #[.val (.ref v), .val (.int (7 : Int32))] [(.int (128 : Int32)), (.ref v)])) rfl (hb hby d1_26) rfl (by decide) (cap := 128) (by decide) (by decide) (by decide) (by decide)
  obtain ⟨a14, g14⟩ : ∃ z, z = h10.size := ⟨_, rfl⟩
  rw [← g14] at A14 st14
  refine oOn st14 ?_
  have z15 : h10.size ≤ h14.size := E14.1
  have lt14 : a14 < h14.size := A14.lt
  have V14 : oAI Z h14 a14 .short 128 (fun _ => 0) := oAI.new A14 rfl
  show oGl p e below (T14.setTop (mkF m 28 #[.val (.ref v), .val (.int (7 : Int32))] [(.ref a14), (.ref v)])) _
  have f17 := (((((F2.ext E2).other W4 (Or.inr (slot_ne (Or.inr (hw _ (List.mem_of_getElem? (i := 16) rfl))) (Or.inr (hw _ (List.mem_of_getElem? (i := 11) rfl))) (by decide) (t := (.array .short)) (t' := (.array .byte)) (by decide) (by decide)))).ext E8).other W10 (Or.inr (slot_ne (Or.inr (hw _ (List.mem_of_getElem? (i := 16) rfl))) (Or.inr (hw _ (List.mem_of_getElem? (i := 13) rfl))) (by decide) (t := (.array .short)) (t' := (.array .byte)) (by decide) (by decide)))).ext E14)
  have f18 := ((f12.wr W10).ext E14)
  obtain ⟨T16, h16, X16, e16, W16, st16⟩ := putF X14 hx hZ hown (host := "") (Or.inl (hw _ (List.mem_of_getElem? (i := 15) rfl))) Via.refl e14 f17 f18 (Or.inr ⟨(hw _ (List.mem_of_getElem? (i := 16) rfl)), rfl, hnm⟩) (hw _ (List.mem_of_getElem? (i := 2) rfl)) (ty := (.array .short)) (by decide) rfl rfl (g := (mkF m 28 #[.val (.ref v), .val (.int (7 : Int32))] [(.ref a14), (.ref v)])) rfl rfl (hb hby d1_28)
  refine oOn st16 ?_
  have z19 : h14.size ≤ h16.size := Nat.le_of_eq W16.size.symm
  have N16 := Fr.snoc X16 N10 (by omega)
  have f16 := Fld.same W16 f17
  show oGl p e below (T16.setTop (mkF m 31 #[.val (.ref v), .val (.int (7 : Int32))] [])) _
  have kp20 : Keep h0 h16 [v] := (((((((Keep.refl h0 [v]).ext E2).wr W4 (Or.inl (List.mem_of_getElem? (i := 0) rfl))).ext E8).wr W10 (Or.inl (List.mem_of_getElem? (i := 0) rfl))).ext E14).wr W16 (Or.inl (List.mem_of_getElem? (i := 0) rfl)))
  have f21 := (f18.wr W16)
  have f22 := ((((f4.ext E8).other W10 (Or.inr (slot_ne (Or.inr (hw _ (List.mem_of_getElem? (i := 11) rfl))) (Or.inr (hw _ (List.mem_of_getElem? (i := 13) rfl))) (by decide) (t := (.array .byte)) (t' := (.array .byte)) (by decide) (by decide)))).ext E14).other W16 (Or.inr (slot_ne (Or.inr (hw _ (List.mem_of_getElem? (i := 11) rfl))) (Or.inr (hw _ (List.mem_of_getElem? (i := 16) rfl))) (by decide) (t := (.array .byte)) (t' := (.array .short)) (by decide) (by decide))))
  have f23 := ((f10.ext E14).other W16 (Or.inr (slot_ne (Or.inr (hw _ (List.mem_of_getElem? (i := 13) rfl))) (Or.inr (hw _ (List.mem_of_getElem? (i := 16) rfl))) (by decide) (t := (.array .byte)) (t' := (.array .short)) (by decide) (by decide))))
  have f24 := ((((((F3.ext E2).other W4 (Or.inr (slot_ne (Or.inl (hw _ (List.mem_of_getElem? (i := 46) rfl))) (Or.inr (hw _ (List.mem_of_getElem? (i := 11) rfl))) (by decide) (t := .int) (t' := (.array .byte)) (by decide) (by decide)))).ext E8).other W10 (Or.inr (slot_ne (Or.inl (hw _ (List.mem_of_getElem? (i := 46) rfl))) (Or.inr (hw _ (List.mem_of_getElem? (i := 13) rfl))) (by decide) (t := .int) (t' := (.array .byte)) (by decide) (by decide)))).ext E14).other W16 (Or.inr (slot_ne (Or.inl (hw _ (List.mem_of_getElem? (i := 46) rfl))) (Or.inr (hw _ (List.mem_of_getElem? (i := 16) rfl))) (by decide) (t := .int) (t' := (.array .short)) (by decide) (by decide))))
  have f25 := (((((V2.other W4 (oNe (by omega))).ext E8).other W10 (oNe (by omega))).ext E14).other W16 (oNe (by omega)))
  have f26 := (((V8.other W10 (oNe (by omega))).ext E14).other W16 (oNe (by omega)))
  have f27 := (V14.other W16 (oNe (by omega)))
  refine oRet0 X16 hx Bd.notSynchronized Bd.returns (hb hby d1_31) (by decide) (by decide) ?_
  show Q_rmInit128 Z v h0 n0 _ T16.heap _
  rw [e16]
  exact ⟨a2, a8, a14, rfl, N16, kp20, f21, f22, f23, f16, f24, f25, f26, f27, by omega, by omega, by omega, by omega⟩
theorem ef_rmRead256 (m : MethodId) (x0 : Nat) (x1 : Nat) (x2 : Int32) (x3 : Int32) (x4 : Int32)  : entryFrame m #[(.ref x0), (.ref x1), (.int x2), (.int x3), (.int x4)] 18 = mkF m 0 #[.val (.ref x0), .val (.ref x1), .val (.int x2), .val (.int x3), .val (.int x4), .unset, .unset, .unset, .unset, .unset, .unset, .unset, .unset, .unset, .unset, .unset, .unset, .unset] [] := by first | (simp [entryFrame, mkF, argsToLocals, Value.category, maxLocals]; done) | rfl
def Q_rmRead256 (Z : State) (v sa ba la : Nat) (i : Nat) (lg : Int32) (fb fl : Nat → Int32) (h0 : Heap) (n0 : Nat) (vv : Option Value) (h : Heap) (L : List Loc) : Prop := ∃ (r : Int32) (fs fb fl : Nat → Int32), vv = some (.int r) ∧ Fr n0 L ∧ Keep h0 h [v, sa, ba, la] ∧ Exa Z h v "com/example/moraine/moraine/compression/FseTable" ∧ Fld Z h v "com/example/moraine/moraine/compression/FseTable" "symbols" "[B" (.ref sa) ∧ Fld Z h v "com/example/moraine/moraine/compression/FseTable" "bits" "[B" (.ref ba) ∧ Fld Z h v "com/example/moraine/moraine/compression/FseTable" "baselines" "[S" (.ref la) ∧ Fld Z h v "com/example/moraine/moraine/compression/FseTable" "log" "I" (.int 5) ∧ oAI Z h sa .byte 256 fs ∧ oAI Z h ba .byte 256 fb ∧ oAI Z h la .short 256 fl
set_option maxRecDepth 65536 in
set_option maxHeartbeats 40000000 in
theorem rmRead256 (l : Launch) (Z : State) (a0 : Array Value) (hw : ∀ d ∈ tables_1, d.before a0 Z = true) (ws : List Jvm.Cond) (v sa ba la : Nat) (i : Nat) (lg : Int32) (fb fl : Nat → Int32) (h0 : Heap) (n0 : Nat) (Z0 : n0 ≤ h0.size) (E0 : Exa Z h0 v "com/example/moraine/moraine/compression/FseTable") (F0 : Fld Z h0 v "com/example/moraine/moraine/compression/FseTable" "symbols" "[B" (.ref sa)) (F1 : Fld Z h0 v "com/example/moraine/moraine/compression/FseTable" "bits" "[B" (.ref ba)) (F2 : Fld Z h0 v "com/example/moraine/moraine/compression/FseTable" "baselines" "[S" (.ref la)) (F3 : Fld Z h0 v "com/example/moraine/moraine/compression/FseTable" "log" "I" (.int lg)) (PV0 : oAI Z h0 sa .byte 256 (fun _ => 0)) (PV1 : oAI Z h0 ba .byte 256 fb) (PV2 : oAI Z h0 la .short 256 fl) (gv : n0 ≤ v) (gs : n0 ≤ sa) (gb : n0 ≤ ba) (gl : n0 ≤ la) (dd : v < sa ∧ sa < ba ∧ ba < la) (VI : oAI Z h0 i .byte 2 (oUp (oUp (fun _ => 0) 0 64) 1 62)) (di : i < v) :
    MetFree l (⟨"com/example/moraine/moraine/compression/FseTable", "read", "([BIII)I"⟩ : MethodName) (head1 (Jvm.Cond.code (⟨"com/example/moraine/moraine/compression/FseTable", "read", "([BIII)I"⟩ : MethodName) prog_7_method_9_code 18 (some .int) :: ws) ({ frames := 2, cells := 2, slots := 4, locals := 38 } : Room)) (fun aA uU => aA = #[(.ref v), (.ref i), (.int (0 : Int32)), (.int (2 : Int32)), (.int (1 : Int32))] ∧ Z.Warmed39 uU.vm ∧ uU.heap = h0) (fun _ _ _ _ _ => True) (fun _ uU oO uU' => ∃ vV lL, oO = .returned vV ∧ Q_rmRead256 Z v sa ba la i lg fb fl h0 n0 vV uU'.heap lL ∧ FrameEnd uU oO uU' lL ({ frames := 2, cells := 2, slots := 4, locals := 38 } : Room).cells ({ frames := 2, cells := 2, slots := 4, locals := 38 } : Room).slots) := by
  refine MetFree.of_bodySF (plainFor_of_name pn_FseTable) hisR ?_
  intro p e s m args below meth c s₁ Bd hml0 hP hK
  obtain ⟨rfl, hZ, hh⟩ := hP
  have hx := Bd.exec
  have hby := Bd.bytes
  have hml : c.maxLocals = 18 := hml0
  have hown : s.vm.findClass "com/example/moraine/moraine/compression/FseTable" = some m.cls := findClass_of_methodNamed Bd.named
  have hnm := (name_of_methodNamed Bd.named Bd.method).1
  have X0 : Stand p l e ({ frames := 2, cells := 2, slots := 4, locals := 38 } : Room) s m #[(.ref v), (.ref i), (.int (0 : Int32)), (.int (2 : Int32)), (.int (1 : Int32))] below meth c s₁ [] 0 0 := Stand.of_body Bd
  have e0 : s₁.heap = h0 := by rw [← hh, Bd.state]; rfl
  have N0 := Fr.nil n0
  have lv : @LT.lt Nat _ v h0.size := E0.lt
  have lsa := PV0.lt
  have lba := PV1.lt
  have lla := PV2.lt
  have li := VI.lt
  refine oEnter (oCast (ef_rmRead256 m v i (0 : Int32) (2 : Int32) (1 : Int32) ) ?_)
  show oGl p e below (s₁.setTop (mkF m 0 #[.val (.ref v), .val (.ref i), .val (.int (0 : Int32)), .val (.int (2 : Int32)), .val (.int (1 : Int32)), .unset, .unset, .unset, .unset, .unset, .unset, .unset, .unset, .unset, .unset, .unset, .unset, .unset] [])) _
  refine siconst X0 hx (hb hby d3_0) rfl rfl (z := 0) (pc' := 1) ?_
  refine sistore X0 hx (hb hby d3_1) rfl rfl (l' := #[.val (.ref v), .val (.ref i), .val (.int (0 : Int32)), .val (.int (2 : Int32)), .val (.int (1 : Int32)), .val (.int (0 : Int32)), .unset, .unset, .unset, .unset, .unset, .unset, .unset, .unset, .unset, .unset, .unset, .unset]) (pc' := 3) ?_
  refine saloadN X0 hx (hb hby d3_3) rfl rfl rfl (pc' := 4) ?_
  refine siloadN X0 hx (hb hby d3_4) rfl rfl (pc' := 5) ?_
  refine siloadN X0 hx (hb hby d3_5) rfl rfl (pc' := 6) ?_
  refine siload X0 hx (hb hby d3_6) rfl rfl (pc' := 8) ?_
  refine siconst X0 hx (hb hby d3_8) rfl rfl (z := 4) (pc' := 9) ?_
  have hz1 : n0 ≤ h0.size := by omega
  obtain ⟨_, _, ⟨T1, L1, k1, n1⟩, -, X1, ⟨Lc1, hQ1, l1, y1, z1⟩, st1⟩ := Jvm.LawKit.callS X0 hx (y := (⟨"com/example/moraine/moraine/compression/FseTable", "forward", "([BIIII)I"⟩ : MethodName)) hown (mvT hZ (hw _ (List.mem_of_getElem? (i := 22) rfl))) (mvT hZ (hw _ (List.mem_of_getElem? (i := 23) rfl))) (mvT hZ (hw _ (List.mem_of_getElem? (i := 3) rfl))) (mvT hZ (hw _ (List.mem_of_getElem? (i := 24) rfl))) (by decide) (backOf (W := 0) (rmFwd0 l Z a0 hw [] i h0 n0 hz1 VI) hZ (hw _ (List.mem_of_getElem? (i := 24) rfl)) (hw _ (List.mem_of_getElem? (i := 3) rfl)) (by decide) (by decide)) (g := (mkF m 9 #[.val (.ref v), .val (.ref i), .val (.int (0 : Int32)), .val (.int (2 : Int32)), .val (.int (1 : Int32)), .val (.int (0 : Int32)), .unset, .unset, .unset, .unset, .unset, .unset, .unset, .unset, .unset, .unset, .unset, .unset] [(.int (4 : Int32)), (.int (0 : Int32)), (.int (2 : Int32)), (.int (0 : Int32)), (.ref i)])) rfl (by rw [hml]; rfl) (argsL := [(.ref i), (.int (0 : Int32)), (.int (2 : Int32)), (.int (0 : Int32)), (.int (4 : Int32))]) (rest := []) (lenOf pd_1 rfl) rfl (by show 2 * 0 + _ ≤ _; exact Nat.le_of_eq rfl) (hb hby d3_9) (fun _ _ => ⟨rfl, e0, (by decide : 0 + 0 ≤ _), (by decide : 0 + 0 ≤ _)⟩)
  dsimp only [Pt.U, Pt.locs, Pt.cells, Pt.slots] at X1 l1 y1 z1 st1 hQ1
  subst l1 y1 z1
  obtain ⟨rfl, N1q, eh1⟩ := hQ1
  have N1 := Fr.app N0 N1q
  refine oOn st1 ?_
  show oGl p e below (T1.setTop (mkF m 12 #[.val (.ref v), .val (.ref i), .val (.int (0 : Int32)), .val (.int (2 : Int32)), .val (.int (1 : Int32)), .val (.int (0 : Int32)), .unset, .unset, .unset, .unset, .unset, .unset, .unset, .unset, .unset, .unset, .unset, .unset] [(.int (0 : Int32))])) _
  refine siconst X1 hx (hb hby d3_12) rfl rfl (z := 5) (pc' := 13) ?_
  refine siadd X1 hx (hb hby d3_13) rfl (by decide) (z := (5 : Int32)) (pc' := 14) ?_
  refine sistore X1 hx (hb hby d3_14) rfl rfl (l' := #[.val (.ref v), .val (.ref i), .val (.int (0 : Int32)), .val (.int (2 : Int32)), .val (.int (1 : Int32)), .val (.int (0 : Int32)), .val (.int (5 : Int32)), .unset, .unset, .unset, .unset, .unset, .unset, .unset, .unset, .unset, .unset, .unset]) (pc' := 16) ?_
  refine siinc X1 hx (hb hby d3_16) rfl rfl rfl (l' := #[.val (.ref v), .val (.ref i), .val (.int (0 : Int32)), .val (.int (2 : Int32)), .val (.int (1 : Int32)), .val (.int (4 : Int32)), .val (.int (5 : Int32)), .unset, .unset, .unset, .unset, .unset, .unset, .unset, .unset, .unset, .unset, .unset]) (pc' := 19) ?_
  refine saloadN X1 hx (hb hby d3_19) rfl rfl rfl (pc' := 20) ?_
  obtain ⟨T2, X2, e2, st2⟩ := getF X1 hx hZ hown (host := "") (Or.inl (hw _ (List.mem_of_getElem? (i := 10) rfl))) Via.refl eh1 F0 (g := (mkF m 20 #[.val (.ref v), .val (.ref i), .val (.int (0 : Int32)), .val (.int (2 : Int32)), .val (.int (1 : Int32)), .val (.int (4 : Int32)), .val (.int (5 : Int32)), .unset, .unset, .unset, .unset, .unset, .unset, .unset, .unset, .unset, .unset, .unset] [(.ref v)])) rfl rfl (hb hby d3_20)
  refine oOn st2 ?_
  show oGl p e below (T2.setTop (mkF m 23 #[.val (.ref v), .val (.ref i), .val (.int (0 : Int32)), .val (.int (2 : Int32)), .val (.int (1 : Int32)), .val (.int (4 : Int32)), .val (.int (5 : Int32)), .unset, .unset, .unset, .unset, .unset, .unset, .unset, .unset, .unset, .unset, .unset] [(.ref sa)])) _
  refine oOn (PV0.len X2 hx hZ e2 (g := (mkF m 23 #[.val (.ref v), .val (.ref i), .val (.int (0 : Int32)), .val (.int (2 : Int32)), .val (.int (1 : Int32)), .val (.int (4 : Int32)), .val (.int (5 : Int32)), .unset, .unset, .unset, .unset, .unset, .unset, .unset, .unset, .unset, .unset, .unset] [(.ref sa)])) rfl rfl (hb hby d3_23)) ?_
  show oGl p e below (T2.setTop (mkF m 24 #[.val (.ref v), .val (.ref i), .val (.int (0 : Int32)), .val (.int (2 : Int32)), .val (.int (1 : Int32)), .val (.int (4 : Int32)), .val (.int (5 : Int32)), .unset, .unset, .unset, .unset, .unset, .unset, .unset, .unset, .unset, .unset, .unset] [(.int (256 : Int32))])) _
  have hz3 : n0 ≤ h0.size := by omega
  obtain ⟨_, _, ⟨T3, L3, k3, n3⟩, -, X3, ⟨Lc3, hQ3, l3, y3, z3⟩, st3⟩ := Jvm.LawKit.callS X2 hx (y := (⟨"java/lang/Integer", "numberOfTrailingZeros", "(I)I"⟩ : MethodName)) hown (mvT hZ (hw _ (List.mem_of_getElem? (i := 25) rfl))) (mvT hZ (hw _ (List.mem_of_getElem? (i := 26) rfl))) (mvT hZ (hw _ (List.mem_of_getElem? (i := 27) rfl))) (mvT hZ (hw _ (List.mem_of_getElem? (i := 28) rfl))) (by decide) (backOf (W := 0) (rmNtz256 l Z a0 hw []  h0 n0 hz3 ) hZ (hw _ (List.mem_of_getElem? (i := 28) rfl)) (hw _ (List.mem_of_getElem? (i := 27) rfl)) (by decide) (by decide)) (g := (mkF m 24 #[.val (.ref v), .val (.ref i), .val (.int (0 : Int32)), .val (.int (2 : Int32)), .val (.int (1 : Int32)), .val (.int (4 : Int32)), .val (.int (5 : Int32)), .unset, .unset, .unset, .unset, .unset, .unset, .unset, .unset, .unset, .unset, .unset] [(.int (256 : Int32))])) rfl (by rw [hml]; rfl) (argsL := [(.int (256 : Int32))]) (rest := []) (lenOf pd_0 rfl) rfl (by show 2 * 0 + _ ≤ _; exact Nat.le_of_eq rfl) (hb hby d3_24) (fun _ _ => ⟨rfl, e2, (by decide : 0 + 0 ≤ _), (by decide : 0 + 0 ≤ _)⟩)
  dsimp only [Pt.U, Pt.locs, Pt.cells, Pt.slots] at X3 l3 y3 z3 st3 hQ3
  subst l3 y3 z3
  obtain ⟨rfl, N3q, eh3⟩ := hQ3
  have N3 := Fr.app N1 N3q
  refine oOn st3 ?_
  show oGl p e below (T3.setTop (mkF m 27 #[.val (.ref v), .val (.ref i), .val (.int (0 : Int32)), .val (.int (2 : Int32)), .val (.int (1 : Int32)), .val (.int (4 : Int32)), .val (.int (5 : Int32)), .unset, .unset, .unset, .unset, .unset, .unset, .unset, .unset, .unset, .unset, .unset] [(.int (8 : Int32))])) _
  refine sistore X3 hx (hb hby d3_27) rfl rfl (l' := #[.val (.ref v), .val (.ref i), .val (.int (0 : Int32)), .val (.int (2 : Int32)), .val (.int (1 : Int32)), .val (.int (4 : Int32)), .val (.int (5 : Int32)), .val (.int (8 : Int32)), .unset, .unset, .unset, .unset, .unset, .unset, .unset, .unset, .unset, .unset]) (pc' := 29) ?_
  refine siload X3 hx (hb hby d3_29) rfl rfl (pc' := 31) ?_
  refine siload X3 hx (hb hby d3_31) rfl rfl (pc' := 33) ?_
  refine sicY X3 hx (hb hby d3_33) (by decide) (by decide) (flt (by decide : ¬ ((8 : Int32) < (5 : Int32)))).2.2.2 (pc' := 53) ?_
  refine siload X3 hx (hb hby d3_53) rfl rfl (pc' := 55) ?_
  refine siconst X3 hx (hb hby d3_55) rfl rfl (z := 1) (pc' := 56) ?_
  refine siadd X3 hx (hb hby d3_56) rfl (by decide) (z := (2 : Int32)) (pc' := 57) ?_
  obtain ⟨T4, h4, k4, X4, e4, E4, A4, st4⟩ := newP X3 hx hZ (hw _ (List.mem_of_getElem? (i := 14) rfl)) eh3 (g := (mkF m 57 #[.val (.ref v), .val (.ref i), .val (.int (0 : Int32)), .val (.int (2 : Int32)), .val (.int (1 : Int32)), .val (.int (4 : Int32)), .val (.int (5 : Int32)), .val (.int (8 : Int32)), .unset, .unset, .unset, .unset, .unset, .unset, .unset, .unset, .unset, .unset] [(.int (2 : Int32))])) rfl (hb hby d3_57) rfl (by decide) (cap := 2) (by decide) (by decide) (by decide) (by decide)
  obtain ⟨a4, g4⟩ : ∃ z, z = h0.size := ⟨_, rfl⟩
  rw [← g4] at A4 st4
  refine oOn st4 ?_
  have z5 : h0.size ≤ h4.size := E4.1
  have lt4 : a4 < h4.size := A4.lt
  have V4 : oAI Z h4 a4 .short 2 (fun _ => 0) := oAI.new A4 rfl
  show oGl p e below (T4.setTop (mkF m 59 #[.val (.ref v), .val (.ref i), .val (.int (0 : Int32)), .val (.int (2 : Int32)), .val (.int (1 : Int32)), .val (.int (4 : Int32)), .val (.int (5 : Int32)), .val (.int (8 : Int32)), .unset, .unset, .unset, .unset, .unset, .unset, .unset, .unset, .unset, .unset] [(.ref a4)])) _
  refine sastore X4 hx (hb hby d3_59) rfl rfl rfl (l' := #[.val (.ref v), .val (.ref i), .val (.int (0 : Int32)), .val (.int (2 : Int32)), .val (.int (1 : Int32)), .val (.int (4 : Int32)), .val (.int (5 : Int32)), .val (.int (8 : Int32)), .val (.ref a4), .unset, .unset, .unset, .unset, .unset, .unset, .unset, .unset, .unset]) (pc' := 61) ?_
  refine siconst X4 hx (hb hby d3_61) rfl rfl (z := 0) (pc' := 62) ?_
  refine sistore X4 hx (hb hby d3_62) rfl rfl (l' := #[.val (.ref v), .val (.ref i), .val (.int (0 : Int32)), .val (.int (2 : Int32)), .val (.int (1 : Int32)), .val (.int (4 : Int32)), .val (.int (5 : Int32)), .val (.int (8 : Int32)), .val (.ref a4), .val (.int (0 : Int32)), .unset, .unset, .unset, .unset, .unset, .unset, .unset, .unset]) (pc' := 64) ?_
  refine siconst X4 hx (hb hby d3_64) rfl rfl (z := 1) (pc' := 65) ?_
  refine siload X4 hx (hb hby d3_65) rfl rfl (pc' := 67) ?_
  refine sishl X4 hx (hb hby d3_67) rfl (by decide) (z := (32 : Int32)) (pc' := 68) ?_
  refine siconst X4 hx (hb hby d3_68) rfl rfl (z := 1) (pc' := 69) ?_
  refine siadd X4 hx (hb hby d3_69) rfl (by decide) (z := (33 : Int32)) (pc' := 70) ?_
  refine sistore X4 hx (hb hby d3_70) rfl rfl (l' := #[.val (.ref v), .val (.ref i), .val (.int (0 : Int32)), .val (.int (2 : Int32)), .val (.int (1 : Int32)), .val (.int (4 : Int32)), .val (.int (5 : Int32)), .val (.int (8 : Int32)), .val (.ref a4), .val (.int (0 : Int32)), .val (.int (33 : Int32)), .unset, .unset, .unset, .unset, .unset, .unset, .unset]) (pc' := 72) ?_
  refine siconst X4 hx (hb hby d3_72) rfl rfl (z := 1) (pc' := 73) ?_
  refine siload X4 hx (hb hby d3_73) rfl rfl (pc' := 75) ?_
  refine sishl X4 hx (hb hby d3_75) rfl (by decide) (z := (32 : Int32)) (pc' := 76) ?_
  refine sistore X4 hx (hb hby d3_76) rfl rfl (l' := #[.val (.ref v), .val (.ref i), .val (.int (0 : Int32)), .val (.int (2 : Int32)), .val (.int (1 : Int32)), .val (.int (4 : Int32)), .val (.int (5 : Int32)), .val (.int (8 : Int32)), .val (.ref a4), .val (.int (0 : Int32)), .val (.int (33 : Int32)), .val (.int (32 : Int32)), .unset, .unset, .unset, .unset, .unset, .unset]) (pc' := 78) ?_
  refine siload X4 hx (hb hby d3_78) rfl rfl (pc' := 80) ?_
  refine siconst X4 hx (hb hby d3_80) rfl rfl (z := 1) (pc' := 81) ?_
  refine siadd X4 hx (hb hby d3_81) rfl (by decide) (z := (6 : Int32)) (pc' := 82) ?_
  refine sistore X4 hx (hb hby d3_82) rfl rfl (l' := #[.val (.ref v), .val (.ref i), .val (.int (0 : Int32)), .val (.int (2 : Int32)), .val (.int (1 : Int32)), .val (.int (4 : Int32)), .val (.int (5 : Int32)), .val (.int (8 : Int32)), .val (.ref a4), .val (.int (0 : Int32)), .val (.int (33 : Int32)), .val (.int (32 : Int32)), .val (.int (6 : Int32)), .unset, .unset, .unset, .unset, .unset]) (pc' := 84) ?_
  refine siload X4 hx (hb hby d3_84) rfl rfl (pc' := 86) ?_
  refine siconst X4 hx (hb hby d3_86) rfl rfl (z := 1) (pc' := 87) ?_
  refine sicN X4 hx (hb hby d3_87) rfl (tlt (by decide : (1 : Int32) < (33 : Int32))).2.2.2 (pc' := 90) ?_
  refine siload X4 hx (hb hby d3_90) rfl rfl (pc' := 92) ?_
  refine siload X4 hx (hb hby d3_92) rfl rfl (pc' := 94) ?_
  have hz6 : n0 ≤ h4.size := by omega
  obtain ⟨_, _, ⟨T6, L6, k6, n6⟩, -, X6, ⟨Lc6, hQ6, l6, y6, z6⟩, st6⟩ := Jvm.LawKit.callS X4 hx (y := (⟨"com/example/moraine/moraine/compression/FseTable", "requireSymbol", "(II)V"⟩ : MethodName)) hown (mvT hZ (hw _ (List.mem_of_getElem? (i := 30) rfl))) (mvT hZ (hw _ (List.mem_of_getElem? (i := 31) rfl))) (mvT hZ (hw _ (List.mem_of_getElem? (i := 3) rfl))) (mvT hZ (hw _ (List.mem_of_getElem? (i := 32) rfl))) (by decide) (backOf (W := 0) (rmReq0 l Z a0 hw []  h4 n0 hz6 ) hZ (hw _ (List.mem_of_getElem? (i := 32) rfl)) (hw _ (List.mem_of_getElem? (i := 3) rfl)) (by decide) (by decide)) (g := (mkF m 94 #[.val (.ref v), .val (.ref i), .val (.int (0 : Int32)), .val (.int (2 : Int32)), .val (.int (1 : Int32)), .val (.int (4 : Int32)), .val (.int (5 : Int32)), .val (.int (8 : Int32)), .val (.ref a4), .val (.int (0 : Int32)), .val (.int (33 : Int32)), .val (.int (32 : Int32)), .val (.int (6 : Int32)), .unset, .unset, .unset, .unset, .unset] [(.int (1 : Int32)), (.int (0 : Int32))])) rfl (by rw [hml]; rfl) (argsL := [(.int (0 : Int32)), (.int (1 : Int32))]) (rest := []) (lenOf pd_2 rfl) rfl (by show 2 * 0 + _ ≤ _; exact Nat.le_of_eq rfl) (hb hby d3_94) (fun _ _ => ⟨rfl, e4, (by decide : 1 + 0 ≤ _), (by decide : 2 + 0 ≤ _)⟩)
  dsimp only [Pt.U, Pt.locs, Pt.cells, Pt.slots] at X6 l6 y6 z6 st6 hQ6
  subst l6 y6 z6
  obtain ⟨rfl, N6q, eh6⟩ := hQ6
  have N6 := Fr.app N3 N6q
  refine oOn st6 ?_
  show oGl p e below (T6.setTop (mkF m 97 #[.val (.ref v), .val (.ref i), .val (.int (0 : Int32)), .val (.int (2 : Int32)), .val (.int (1 : Int32)), .val (.int (4 : Int32)), .val (.int (5 : Int32)), .val (.int (8 : Int32)), .val (.ref a4), .val (.int (0 : Int32)), .val (.int (33 : Int32)), .val (.int (32 : Int32)), .val (.int (6 : Int32)), .unset, .unset, .unset, .unset, .unset] [])) _
  refine siconst X6 hx (hb hby d3_97) rfl rfl (z := 2) (pc' := 98) ?_
  refine siload X6 hx (hb hby d3_98) rfl rfl (pc' := 100) ?_
  refine simul X6 hx (hb hby d3_100) rfl (by decide) (z := (64 : Int32)) (pc' := 101) ?_
  refine siconst X6 hx (hb hby d3_101) rfl rfl (z := 1) (pc' := 102) ?_
  refine sisub X6 hx (hb hby d3_102) rfl (by decide) (z := (63 : Int32)) (pc' := 103) ?_
  refine siload X6 hx (hb hby d3_103) rfl rfl (pc' := 105) ?_
  refine sisub X6 hx (hb hby d3_105) rfl (by decide) (z := (30 : Int32)) (pc' := 106) ?_
  refine sistore X6 hx (hb hby d3_106) rfl rfl (l' := #[.val (.ref v), .val (.ref i), .val (.int (0 : Int32)), .val (.int (2 : Int32)), .val (.int (1 : Int32)), .val (.int (4 : Int32)), .val (.int (5 : Int32)), .val (.int (8 : Int32)), .val (.ref a4), .val (.int (0 : Int32)), .val (.int (33 : Int32)), .val (.int (32 : Int32)), .val (.int (6 : Int32)), .val (.int (30 : Int32)), .unset, .unset, .unset, .unset]) (pc' := 108) ?_
  refine saloadN X6 hx (hb hby d3_108) rfl rfl rfl (pc' := 109) ?_
  refine siloadN X6 hx (hb hby d3_109) rfl rfl (pc' := 110) ?_
  refine siloadN X6 hx (hb hby d3_110) rfl rfl (pc' := 111) ?_
  refine siload X6 hx (hb hby d3_111) rfl rfl (pc' := 113) ?_
  refine siload X6 hx (hb hby d3_113) rfl rfl (pc' := 115) ?_
  have f7 := (VI.ext E4)
  have hz8 : n0 ≤ h4.size := by omega
  obtain ⟨_, _, ⟨T8, L8, k8, n8⟩, -, X8, ⟨Lc8, hQ8, l8, y8, z8⟩, st8⟩ := Jvm.LawKit.callS X6 hx (y := (⟨"com/example/moraine/moraine/compression/FseTable", "forward", "([BIIII)I"⟩ : MethodName)) hown (mvT hZ (hw _ (List.mem_of_getElem? (i := 22) rfl))) (mvT hZ (hw _ (List.mem_of_getElem? (i := 23) rfl))) (mvT hZ (hw _ (List.mem_of_getElem? (i := 3) rfl))) (mvT hZ (hw _ (List.mem_of_getElem? (i := 24) rfl))) (by decide) (backOf (W := 0) (rmFwd4 l Z a0 hw [] i h4 n0 hz8 f7) hZ (hw _ (List.mem_of_getElem? (i := 24) rfl)) (hw _ (List.mem_of_getElem? (i := 3) rfl)) (by decide) (by decide)) (g := (mkF m 115 #[.val (.ref v), .val (.ref i), .val (.int (0 : Int32)), .val (.int (2 : Int32)), .val (.int (1 : Int32)), .val (.int (4 : Int32)), .val (.int (5 : Int32)), .val (.int (8 : Int32)), .val (.ref a4), .val (.int (0 : Int32)), .val (.int (33 : Int32)), .val (.int (32 : Int32)), .val (.int (6 : Int32)), .val (.int (30 : Int32)), .unset, .unset, .unset, .unset] [(.int (6 : Int32)), (.int (4 : Int32)), (.int (2 : Int32)), (.int (0 : Int32)), (.ref i)])) rfl (by rw [hml]; rfl) (argsL := [(.ref i), (.int (0 : Int32)), (.int (2 : Int32)), (.int (4 : Int32)), (.int (6 : Int32))]) (rest := []) (lenOf pd_1 rfl) rfl (by show 2 * 0 + _ ≤ _; exact Nat.le_of_eq rfl) (hb hby d3_115) (fun _ _ => ⟨rfl, eh6, (by decide : 1 + 0 ≤ _), (by decide : 2 + 0 ≤ _)⟩)
  dsimp only [Pt.U, Pt.locs, Pt.cells, Pt.slots] at X8 l8 y8 z8 st8 hQ8
  subst l8 y8 z8
  obtain ⟨rfl, N8q, eh8⟩ := hQ8
  have N8 := Fr.app N6 N8q
  refine oOn st8 ?_
  show oGl p e below (T8.setTop (mkF m 118 #[.val (.ref v), .val (.ref i), .val (.int (0 : Int32)), .val (.int (2 : Int32)), .val (.int (1 : Int32)), .val (.int (4 : Int32)), .val (.int (5 : Int32)), .val (.int (8 : Int32)), .val (.ref a4), .val (.int (0 : Int32)), .val (.int (33 : Int32)), .val (.int (32 : Int32)), .val (.int (6 : Int32)), .val (.int (30 : Int32)), .unset, .unset, .unset, .unset] [(.int (36 : Int32))])) _
  refine sistore X8 hx (hb hby d3_118) rfl rfl (l' := #[.val (.ref v), .val (.ref i), .val (.int (0 : Int32)), .val (.int (2 : Int32)), .val (.int (1 : Int32)), .val (.int (4 : Int32)), .val (.int (5 : Int32)), .val (.int (8 : Int32)), .val (.ref a4), .val (.int (0 : Int32)), .val (.int (33 : Int32)), .val (.int (32 : Int32)), .val (.int (6 : Int32)), .val (.int (30 : Int32)), .val (.int (36 : Int32)), .unset, .unset, .unset]) (pc' := 120) ?_
  refine siload X8 hx (hb hby d3_120) rfl rfl (pc' := 122) ?_
  refine siload X8 hx (hb hby d3_122) rfl rfl (pc' := 124) ?_
  refine siconst X8 hx (hb hby d3_124) rfl rfl (z := 1) (pc' := 125) ?_
  refine sisub X8 hx (hb hby d3_125) rfl (by decide) (z := (31 : Int32)) (pc' := 126) ?_
  refine siand X8 hx (hb hby d3_126) rfl (by decide) (z := (4 : Int32)) (pc' := 127) ?_
  refine siload X8 hx (hb hby d3_127) rfl rfl (pc' := 129) ?_
  refine sicN X8 hx (hb hby d3_129) rfl (tlt (by decide : (4 : Int32) < (30 : Int32))).2.1 (pc' := 132) ?_
  refine siload X8 hx (hb hby d3_132) rfl rfl (pc' := 134) ?_
  refine siload X8 hx (hb hby d3_134) rfl rfl (pc' := 136) ?_
  refine siconst X8 hx (hb hby d3_136) rfl rfl (z := 1) (pc' := 137) ?_
  refine sisub X8 hx (hb hby d3_137) rfl (by decide) (z := (31 : Int32)) (pc' := 138) ?_
  refine siand X8 hx (hb hby d3_138) rfl (by decide) (z := (4 : Int32)) (pc' := 139) ?_
  refine sistore X8 hx (hb hby d3_139) rfl rfl (l' := #[.val (.ref v), .val (.ref i), .val (.int (0 : Int32)), .val (.int (2 : Int32)), .val (.int (1 : Int32)), .val (.int (4 : Int32)), .val (.int (5 : Int32)), .val (.int (8 : Int32)), .val (.ref a4), .val (.int (0 : Int32)), .val (.int (33 : Int32)), .val (.int (32 : Int32)), .val (.int (6 : Int32)), .val (.int (30 : Int32)), .val (.int (4 : Int32)), .unset, .unset, .unset]) (pc' := 141) ?_
  refine siload X8 hx (hb hby d3_141) rfl rfl (pc' := 143) ?_
  refine siload X8 hx (hb hby d3_143) rfl rfl (pc' := 145) ?_
  refine siconst X8 hx (hb hby d3_145) rfl rfl (z := 1) (pc' := 146) ?_
  refine sisub X8 hx (hb hby d3_146) rfl (by decide) (z := (5 : Int32)) (pc' := 147) ?_
  refine siadd X8 hx (hb hby d3_147) rfl (by decide) (z := (9 : Int32)) (pc' := 148) ?_
  refine sistore X8 hx (hb hby d3_148) rfl rfl (l' := #[.val (.ref v), .val (.ref i), .val (.int (0 : Int32)), .val (.int (2 : Int32)), .val (.int (1 : Int32)), .val (.int (9 : Int32)), .val (.int (5 : Int32)), .val (.int (8 : Int32)), .val (.ref a4), .val (.int (0 : Int32)), .val (.int (33 : Int32)), .val (.int (32 : Int32)), .val (.int (6 : Int32)), .val (.int (30 : Int32)), .val (.int (4 : Int32)), .unset, .unset, .unset]) (pc' := 150) ?_
  refine sgoto X8 hx (hb hby d3_150) (by decide) (by decide)  (pc' := 174) ?_
  refine siload X8 hx (hb hby d3_174) rfl rfl (pc' := 176) ?_
  refine siconst X8 hx (hb hby d3_176) rfl rfl (z := 1) (pc' := 177) ?_
  refine sisub X8 hx (hb hby d3_177) rfl (by decide) (z := (3 : Int32)) (pc' := 178) ?_
  refine sistore X8 hx (hb hby d3_178) rfl rfl (l' := #[.val (.ref v), .val (.ref i), .val (.int (0 : Int32)), .val (.int (2 : Int32)), .val (.int (1 : Int32)), .val (.int (9 : Int32)), .val (.int (5 : Int32)), .val (.int (8 : Int32)), .val (.ref a4), .val (.int (0 : Int32)), .val (.int (33 : Int32)), .val (.int (32 : Int32)), .val (.int (6 : Int32)), .val (.int (30 : Int32)), .val (.int (4 : Int32)), .val (.int (3 : Int32)), .unset, .unset]) (pc' := 180) ?_
  refine saload X8 hx (hb hby d3_180) rfl rfl rfl (pc' := 182) ?_
  refine siload X8 hx (hb hby d3_182) rfl rfl (pc' := 184) ?_
  refine siinc X8 hx (hb hby d3_184) rfl rfl rfl (l' := #[.val (.ref v), .val (.ref i), .val (.int (0 : Int32)), .val (.int (2 : Int32)), .val (.int (1 : Int32)), .val (.int (9 : Int32)), .val (.int (5 : Int32)), .val (.int (8 : Int32)), .val (.ref a4), .val (.int (1 : Int32)), .val (.int (33 : Int32)), .val (.int (32 : Int32)), .val (.int (6 : Int32)), .val (.int (30 : Int32)), .val (.int (4 : Int32)), .val (.int (3 : Int32)), .unset, .unset]) (pc' := 187) ?_
  refine siload X8 hx (hb hby d3_187) rfl rfl (pc' := 189) ?_
  refine si2s X8 hx (hb hby d3_189) rfl (by decide) (z := (3 : Int32)) (pc' := 190) ?_
  obtain ⟨T9, h9, X9, e9, W9, V9, st9⟩ := V4.stS X8 hx hZ eh8 (j := (0 : Int32)) (by decide) (g := (mkF m 190 #[.val (.ref v), .val (.ref i), .val (.int (0 : Int32)), .val (.int (2 : Int32)), .val (.int (1 : Int32)), .val (.int (9 : Int32)), .val (.int (5 : Int32)), .val (.int (8 : Int32)), .val (.ref a4), .val (.int (1 : Int32)), .val (.int (33 : Int32)), .val (.int (32 : Int32)), .val (.int (6 : Int32)), .val (.int (30 : Int32)), .val (.int (4 : Int32)), .val (.int (3 : Int32)), .unset, .unset] [(.int (3 : Int32)), (.int (0 : Int32)), (.ref a4)])) rfl rfl (hb hby d3_190)
  refine oOn st9 ?_
  have z10 : h4.size ≤ h9.size := Nat.le_of_eq W9.size.symm
  have N9 := Fr.snoc X9 N8 (by omega)
  show oGl p e below (T9.setTop (mkF m 191 #[.val (.ref v), .val (.ref i), .val (.int (0 : Int32)), .val (.int (2 : Int32)), .val (.int (1 : Int32)), .val (.int (9 : Int32)), .val (.int (5 : Int32)), .val (.int (8 : Int32)), .val (.ref a4), .val (.int (1 : Int32)), .val (.int (33 : Int32)), .val (.int (32 : Int32)), .val (.int (6 : Int32)), .val (.int (30 : Int32)), .val (.int (4 : Int32)), .val (.int (3 : Int32)), .unset, .unset] [])) _
  refine siload X9 hx (hb hby d3_191) rfl rfl (pc' := 193) ?_
  refine siload X9 hx (hb hby d3_193) rfl rfl (pc' := 195) ?_
  have hz11 : n0 ≤ h9.size := by omega
  obtain ⟨_, _, ⟨T11, L11, k11, n11⟩, -, X11, ⟨Lc11, hQ11, l11, y11, z11⟩, st11⟩ := Jvm.LawKit.callS X9 hx (y := (⟨"java/lang/Math", "abs", "(I)I"⟩ : MethodName)) hown (mvT hZ (hw _ (List.mem_of_getElem? (i := 33) rfl))) (mvT hZ (hw _ (List.mem_of_getElem? (i := 34) rfl))) (mvT hZ (hw _ (List.mem_of_getElem? (i := 35) rfl))) (mvT hZ (hw _ (List.mem_of_getElem? (i := 36) rfl))) (by decide) (backOf (W := 1) (rmAbs3 l Z a0 hw []  h9 n0 hz11 ) hZ (hw _ (List.mem_of_getElem? (i := 36) rfl)) (hw _ (List.mem_of_getElem? (i := 35) rfl)) (by decide) (by decide)) (g := (mkF m 195 #[.val (.ref v), .val (.ref i), .val (.int (0 : Int32)), .val (.int (2 : Int32)), .val (.int (1 : Int32)), .val (.int (9 : Int32)), .val (.int (5 : Int32)), .val (.int (8 : Int32)), .val (.ref a4), .val (.int (1 : Int32)), .val (.int (33 : Int32)), .val (.int (32 : Int32)), .val (.int (6 : Int32)), .val (.int (30 : Int32)), .val (.int (4 : Int32)), .val (.int (3 : Int32)), .unset, .unset] [(.int (3 : Int32)), (.int (33 : Int32))])) rfl (by rw [hml]; rfl) (argsL := [(.int (3 : Int32))]) (rest := [(.int (33 : Int32))]) (lenOf pd_0 rfl) rfl (by show 2 * 0 + _ ≤ _; exact Nat.le_of_eq rfl) (hb hby d3_195) (fun _ _ => ⟨rfl, e9, (by decide : 1 + 0 ≤ _), (by decide : 2 + 0 ≤ _)⟩)
  dsimp only [Pt.U, Pt.locs, Pt.cells, Pt.slots] at X11 l11 y11 z11 st11 hQ11
  subst l11 y11 z11
  obtain ⟨rfl, N11q, eh11⟩ := hQ11
  have N11 := Fr.app N9 N11q
  refine oOn st11 ?_
  show oGl p e below (T11.setTop (mkF m 198 #[.val (.ref v), .val (.ref i), .val (.int (0 : Int32)), .val (.int (2 : Int32)), .val (.int (1 : Int32)), .val (.int (9 : Int32)), .val (.int (5 : Int32)), .val (.int (8 : Int32)), .val (.ref a4), .val (.int (1 : Int32)), .val (.int (33 : Int32)), .val (.int (32 : Int32)), .val (.int (6 : Int32)), .val (.int (30 : Int32)), .val (.int (4 : Int32)), .val (.int (3 : Int32)), .unset, .unset] [(.int (3 : Int32)), (.int (33 : Int32))])) _
  refine sisub X11 hx (hb hby d3_198) rfl (by decide) (z := (30 : Int32)) (pc' := 199) ?_
  refine sistore X11 hx (hb hby d3_199) rfl rfl (l' := #[.val (.ref v), .val (.ref i), .val (.int (0 : Int32)), .val (.int (2 : Int32)), .val (.int (1 : Int32)), .val (.int (9 : Int32)), .val (.int (5 : Int32)), .val (.int (8 : Int32)), .val (.ref a4), .val (.int (1 : Int32)), .val (.int (30 : Int32)), .val (.int (32 : Int32)), .val (.int (6 : Int32)), .val (.int (30 : Int32)), .val (.int (4 : Int32)), .val (.int (3 : Int32)), .unset, .unset]) (pc' := 201) ?_
  refine siload X11 hx (hb hby d3_201) rfl rfl (pc' := 203) ?_
  refine sifY X11 hx (hb hby d3_203) (by decide) (by decide) (feq (by decide : ¬ ((3 : Int32) = (0 : Int32)))).2 (pc' := 258) ?_
  refine siload X11 hx (hb hby d3_258) rfl rfl (pc' := 260) ?_
  refine siload X11 hx (hb hby d3_260) rfl rfl (pc' := 262) ?_
  refine sicN X11 hx (hb hby d3_262) rfl (tlt (by decide : (30 : Int32) < (32 : Int32))).2.1 (pc' := 265) ?_
  refine siinc X11 hx (hb hby d3_265) rfl rfl rfl (l' := #[.val (.ref v), .val (.ref i), .val (.int (0 : Int32)), .val (.int (2 : Int32)), .val (.int (1 : Int32)), .val (.int (9 : Int32)), .val (.int (5 : Int32)), .val (.int (8 : Int32)), .val (.ref a4), .val (.int (1 : Int32)), .val (.int (30 : Int32)), .val (.int (32 : Int32)), .val (.int (5 : Int32)), .val (.int (30 : Int32)), .val (.int (4 : Int32)), .val (.int (3 : Int32)), .unset, .unset]) (pc' := 268) ?_
  refine siload X11 hx (hb hby d3_268) rfl rfl (pc' := 270) ?_
  refine siconst X11 hx (hb hby d3_270) rfl rfl (z := 1) (pc' := 271) ?_
  refine sishr X11 hx (hb hby d3_271) rfl (by decide) (z := (16 : Int32)) (pc' := 272) ?_
  refine sistore X11 hx (hb hby d3_272) rfl rfl (l' := #[.val (.ref v), .val (.ref i), .val (.int (0 : Int32)), .val (.int (2 : Int32)), .val (.int (1 : Int32)), .val (.int (9 : Int32)), .val (.int (5 : Int32)), .val (.int (8 : Int32)), .val (.ref a4), .val (.int (1 : Int32)), .val (.int (30 : Int32)), .val (.int (16 : Int32)), .val (.int (5 : Int32)), .val (.int (30 : Int32)), .val (.int (4 : Int32)), .val (.int (3 : Int32)), .unset, .unset]) (pc' := 274) ?_
  refine sgoto X11 hx (hb hby d3_274) (by decide) (by decide)  (pc' := 258) ?_
  refine siload X11 hx (hb hby d3_258) rfl rfl (pc' := 260) ?_
  refine siload X11 hx (hb hby d3_260) rfl rfl (pc' := 262) ?_
  refine sicY X11 hx (hb hby d3_262) (by decide) (by decide) (flt (by decide : ¬ ((30 : Int32) < (16 : Int32)))).2.1 (pc' := 277) ?_
  refine sgoto X11 hx (hb hby d3_277) (by decide) (by decide)  (pc' := 84) ?_
  refine siload X11 hx (hb hby d3_84) rfl rfl (pc' := 86) ?_
  refine siconst X11 hx (hb hby d3_86) rfl rfl (z := 1) (pc' := 87) ?_
  refine sicN X11 hx (hb hby d3_87) rfl (tlt (by decide : (1 : Int32) < (30 : Int32))).2.2.2 (pc' := 90) ?_
  refine siload X11 hx (hb hby d3_90) rfl rfl (pc' := 92) ?_
  refine siload X11 hx (hb hby d3_92) rfl rfl (pc' := 94) ?_
  have hz12 : n0 ≤ h9.size := by omega
  obtain ⟨_, _, ⟨T12, L12, k12, n12⟩, -, X12, ⟨Lc12, hQ12, l12, y12, z12⟩, st12⟩ := Jvm.LawKit.callS X11 hx (y := (⟨"com/example/moraine/moraine/compression/FseTable", "requireSymbol", "(II)V"⟩ : MethodName)) hown (mvT hZ (hw _ (List.mem_of_getElem? (i := 30) rfl))) (mvT hZ (hw _ (List.mem_of_getElem? (i := 31) rfl))) (mvT hZ (hw _ (List.mem_of_getElem? (i := 3) rfl))) (mvT hZ (hw _ (List.mem_of_getElem? (i := 32) rfl))) (by decide) (backOf (W := 0) (rmReq1 l Z a0 hw []  h9 n0 hz12 ) hZ (hw _ (List.mem_of_getElem? (i := 32) rfl)) (hw _ (List.mem_of_getElem? (i := 3) rfl)) (by decide) (by decide)) (g := (mkF m 94 #[.val (.ref v), .val (.ref i), .val (.int (0 : Int32)), .val (.int (2 : Int32)), .val (.int (1 : Int32)), .val (.int (9 : Int32)), .val (.int (5 : Int32)), .val (.int (8 : Int32)), .val (.ref a4), .val (.int (1 : Int32)), .val (.int (30 : Int32)), .val (.int (16 : Int32)), .val (.int (5 : Int32)), .val (.int (30 : Int32)), .val (.int (4 : Int32)), .val (.int (3 : Int32)), .unset, .unset] [(.int (1 : Int32)), (.int (1 : Int32))])) rfl (by rw [hml]; rfl) (argsL := [(.int (1 : Int32)), (.int (1 : Int32))]) (rest := []) (lenOf pd_2 rfl) rfl (by show 2 * 0 + _ ≤ _; exact Nat.le_of_eq rfl) (hb hby d3_94) (fun _ _ => ⟨rfl, eh11, (by decide : 1 + 0 ≤ _), (by decide : 2 + 0 ≤ _)⟩)
  dsimp only [Pt.U, Pt.locs, Pt.cells, Pt.slots] at X12 l12 y12 z12 st12 hQ12
  subst l12 y12 z12
  obtain ⟨rfl, N12q, eh12⟩ := hQ12
  have N12 := Fr.app N11 N12q
  refine oOn st12 ?_
  show oGl p e below (T12.setTop (mkF m 97 #[.val (.ref v), .val (.ref i), .val (.int (0 : Int32)), .val (.int (2 : Int32)), .val (.int (1 : Int32)), .val (.int (9 : Int32)), .val (.int (5 : Int32)), .val (.int (8 : Int32)), .val (.ref a4), .val (.int (1 : Int32)), .val (.int (30 : Int32)), .val (.int (16 : Int32)), .val (.int (5 : Int32)), .val (.int (30 : Int32)), .val (.int (4 : Int32)), .val (.int (3 : Int32)), .unset, .unset] [])) _
  refine siconst X12 hx (hb hby d3_97) rfl rfl (z := 2) (pc' := 98) ?_
  refine siload X12 hx (hb hby d3_98) rfl rfl (pc' := 100) ?_
  refine simul X12 hx (hb hby d3_100) rfl (by decide) (z := (32 : Int32)) (pc' := 101) ?_
  refine siconst X12 hx (hb hby d3_101) rfl rfl (z := 1) (pc' := 102) ?_
  refine sisub X12 hx (hb hby d3_102) rfl (by decide) (z := (31 : Int32)) (pc' := 103) ?_
  refine siload X12 hx (hb hby d3_103) rfl rfl (pc' := 105) ?_
  refine sisub X12 hx (hb hby d3_105) rfl (by decide) (z := (1 : Int32)) (pc' := 106) ?_
  refine sistore X12 hx (hb hby d3_106) rfl rfl (l' := #[.val (.ref v), .val (.ref i), .val (.int (0 : Int32)), .val (.int (2 : Int32)), .val (.int (1 : Int32)), .val (.int (9 : Int32)), .val (.int (5 : Int32)), .val (.int (8 : Int32)), .val (.ref a4), .val (.int (1 : Int32)), .val (.int (30 : Int32)), .val (.int (16 : Int32)), .val (.int (5 : Int32)), .val (.int (1 : Int32)), .val (.int (4 : Int32)), .val (.int (3 : Int32)), .unset, .unset]) (pc' := 108) ?_
  refine saloadN X12 hx (hb hby d3_108) rfl rfl rfl (pc' := 109) ?_
  refine siloadN X12 hx (hb hby d3_109) rfl rfl (pc' := 110) ?_
  refine siloadN X12 hx (hb hby d3_110) rfl rfl (pc' := 111) ?_
  refine siload X12 hx (hb hby d3_111) rfl rfl (pc' := 113) ?_
  refine siload X12 hx (hb hby d3_113) rfl rfl (pc' := 115) ?_
  have f13 := (f7.other W9 (oNe (by omega)))
  have hz14 : n0 ≤ h9.size := by omega
  obtain ⟨_, _, ⟨T14, L14, k14, n14⟩, -, X14, ⟨Lc14, hQ14, l14, y14, z14⟩, st14⟩ := Jvm.LawKit.callS X12 hx (y := (⟨"com/example/moraine/moraine/compression/FseTable", "forward", "([BIIII)I"⟩ : MethodName)) hown (mvT hZ (hw _ (List.mem_of_getElem? (i := 22) rfl))) (mvT hZ (hw _ (List.mem_of_getElem? (i := 23) rfl))) (mvT hZ (hw _ (List.mem_of_getElem? (i := 3) rfl))) (mvT hZ (hw _ (List.mem_of_getElem? (i := 24) rfl))) (by decide) (backOf (W := 0) (rmFwd9 l Z a0 hw [] i h9 n0 hz14 f13) hZ (hw _ (List.mem_of_getElem? (i := 24) rfl)) (hw _ (List.mem_of_getElem? (i := 3) rfl)) (by decide) (by decide)) (g := (mkF m 115 #[.val (.ref v), .val (.ref i), .val (.int (0 : Int32)), .val (.int (2 : Int32)), .val (.int (1 : Int32)), .val (.int (9 : Int32)), .val (.int (5 : Int32)), .val (.int (8 : Int32)), .val (.ref a4), .val (.int (1 : Int32)), .val (.int (30 : Int32)), .val (.int (16 : Int32)), .val (.int (5 : Int32)), .val (.int (1 : Int32)), .val (.int (4 : Int32)), .val (.int (3 : Int32)), .unset, .unset] [(.int (5 : Int32)), (.int (9 : Int32)), (.int (2 : Int32)), (.int (0 : Int32)), (.ref i)])) rfl (by rw [hml]; rfl) (argsL := [(.ref i), (.int (0 : Int32)), (.int (2 : Int32)), (.int (9 : Int32)), (.int (5 : Int32))]) (rest := []) (lenOf pd_1 rfl) rfl (by show 2 * 0 + _ ≤ _; exact Nat.le_of_eq rfl) (hb hby d3_115) (fun _ _ => ⟨rfl, eh12, (by decide : 1 + 0 ≤ _), (by decide : 2 + 0 ≤ _)⟩)
  dsimp only [Pt.U, Pt.locs, Pt.cells, Pt.slots] at X14 l14 y14 z14 st14 hQ14
  subst l14 y14 z14
  obtain ⟨rfl, N14q, eh14⟩ := hQ14
  have N14 := Fr.app N12 N14q
  refine oOn st14 ?_
  show oGl p e below (T14.setTop (mkF m 118 #[.val (.ref v), .val (.ref i), .val (.int (0 : Int32)), .val (.int (2 : Int32)), .val (.int (1 : Int32)), .val (.int (9 : Int32)), .val (.int (5 : Int32)), .val (.int (8 : Int32)), .val (.ref a4), .val (.int (1 : Int32)), .val (.int (30 : Int32)), .val (.int (16 : Int32)), .val (.int (5 : Int32)), .val (.int (1 : Int32)), .val (.int (4 : Int32)), .val (.int (3 : Int32)), .unset, .unset] [(.int (31 : Int32))])) _
  refine sistore X14 hx (hb hby d3_118) rfl rfl (l' := #[.val (.ref v), .val (.ref i), .val (.int (0 : Int32)), .val (.int (2 : Int32)), .val (.int (1 : Int32)), .val (.int (9 : Int32)), .val (.int (5 : Int32)), .val (.int (8 : Int32)), .val (.ref a4), .val (.int (1 : Int32)), .val (.int (30 : Int32)), .val (.int (16 : Int32)), .val (.int (5 : Int32)), .val (.int (1 : Int32)), .val (.int (31 : Int32)), .val (.int (3 : Int32)), .unset, .unset]) (pc' := 120) ?_
  refine siload X14 hx (hb hby d3_120) rfl rfl (pc' := 122) ?_
  refine siload X14 hx (hb hby d3_122) rfl rfl (pc' := 124) ?_
  refine siconst X14 hx (hb hby d3_124) rfl rfl (z := 1) (pc' := 125) ?_
  refine sisub X14 hx (hb hby d3_125) rfl (by decide) (z := (15 : Int32)) (pc' := 126) ?_
  refine siand X14 hx (hb hby d3_126) rfl (by decide) (z := (15 : Int32)) (pc' := 127) ?_
  refine siload X14 hx (hb hby d3_127) rfl rfl (pc' := 129) ?_
  refine sicY X14 hx (hb hby d3_129) (by decide) (by decide) (flt (by decide : ¬ ((15 : Int32) < (1 : Int32)))).2.1 (pc' := 153) ?_
  refine siload X14 hx (hb hby d3_153) rfl rfl (pc' := 155) ?_
  refine siload X14 hx (hb hby d3_155) rfl rfl (pc' := 157) ?_
  refine sicN X14 hx (hb hby d3_157) rfl (flt (by decide : ¬ ((31 : Int32) < (16 : Int32)))).1 (pc' := 160) ?_
  refine siload X14 hx (hb hby d3_160) rfl rfl (pc' := 162) ?_
  refine siload X14 hx (hb hby d3_162) rfl rfl (pc' := 164) ?_
  refine sisub X14 hx (hb hby d3_164) rfl (by decide) (z := (30 : Int32)) (pc' := 165) ?_
  refine sistore X14 hx (hb hby d3_165) rfl rfl (l' := #[.val (.ref v), .val (.ref i), .val (.int (0 : Int32)), .val (.int (2 : Int32)), .val (.int (1 : Int32)), .val (.int (9 : Int32)), .val (.int (5 : Int32)), .val (.int (8 : Int32)), .val (.ref a4), .val (.int (1 : Int32)), .val (.int (30 : Int32)), .val (.int (16 : Int32)), .val (.int (5 : Int32)), .val (.int (1 : Int32)), .val (.int (30 : Int32)), .val (.int (3 : Int32)), .unset, .unset]) (pc' := 167) ?_
  refine siload X14 hx (hb hby d3_167) rfl rfl (pc' := 169) ?_
  refine siload X14 hx (hb hby d3_169) rfl rfl (pc' := 171) ?_
  refine siadd X14 hx (hb hby d3_171) rfl (by decide) (z := (14 : Int32)) (pc' := 172) ?_
  refine sistore X14 hx (hb hby d3_172) rfl rfl (l' := #[.val (.ref v), .val (.ref i), .val (.int (0 : Int32)), .val (.int (2 : Int32)), .val (.int (1 : Int32)), .val (.int (14 : Int32)), .val (.int (5 : Int32)), .val (.int (8 : Int32)), .val (.ref a4), .val (.int (1 : Int32)), .val (.int (30 : Int32)), .val (.int (16 : Int32)), .val (.int (5 : Int32)), .val (.int (1 : Int32)), .val (.int (30 : Int32)), .val (.int (3 : Int32)), .unset, .unset]) (pc' := 174) ?_
  refine siload X14 hx (hb hby d3_174) rfl rfl (pc' := 176) ?_
  refine siconst X14 hx (hb hby d3_176) rfl rfl (z := 1) (pc' := 177) ?_
  refine sisub X14 hx (hb hby d3_177) rfl (by decide) (z := (29 : Int32)) (pc' := 178) ?_
  refine sistore X14 hx (hb hby d3_178) rfl rfl (l' := #[.val (.ref v), .val (.ref i), .val (.int (0 : Int32)), .val (.int (2 : Int32)), .val (.int (1 : Int32)), .val (.int (14 : Int32)), .val (.int (5 : Int32)), .val (.int (8 : Int32)), .val (.ref a4), .val (.int (1 : Int32)), .val (.int (30 : Int32)), .val (.int (16 : Int32)), .val (.int (5 : Int32)), .val (.int (1 : Int32)), .val (.int (30 : Int32)), .val (.int (29 : Int32)), .unset, .unset]) (pc' := 180) ?_
  refine saload X14 hx (hb hby d3_180) rfl rfl rfl (pc' := 182) ?_
  refine siload X14 hx (hb hby d3_182) rfl rfl (pc' := 184) ?_
  refine siinc X14 hx (hb hby d3_184) rfl rfl rfl (l' := #[.val (.ref v), .val (.ref i), .val (.int (0 : Int32)), .val (.int (2 : Int32)), .val (.int (1 : Int32)), .val (.int (14 : Int32)), .val (.int (5 : Int32)), .val (.int (8 : Int32)), .val (.ref a4), .val (.int (2 : Int32)), .val (.int (30 : Int32)), .val (.int (16 : Int32)), .val (.int (5 : Int32)), .val (.int (1 : Int32)), .val (.int (30 : Int32)), .val (.int (29 : Int32)), .unset, .unset]) (pc' := 187) ?_
  refine siload X14 hx (hb hby d3_187) rfl rfl (pc' := 189) ?_
  refine si2s X14 hx (hb hby d3_189) rfl (by decide) (z := (29 : Int32)) (pc' := 190) ?_
  obtain ⟨T15, h15, X15, e15, W15, V15, st15⟩ := V9.stS X14 hx hZ eh14 (j := (1 : Int32)) (by decide) (g := (mkF m 190 #[.val (.ref v), .val (.ref i), .val (.int (0 : Int32)), .val (.int (2 : Int32)), .val (.int (1 : Int32)), .val (.int (14 : Int32)), .val (.int (5 : Int32)), .val (.int (8 : Int32)), .val (.ref a4), .val (.int (2 : Int32)), .val (.int (30 : Int32)), .val (.int (16 : Int32)), .val (.int (5 : Int32)), .val (.int (1 : Int32)), .val (.int (30 : Int32)), .val (.int (29 : Int32)), .unset, .unset] [(.int (29 : Int32)), (.int (1 : Int32)), (.ref a4)])) rfl rfl (hb hby d3_190)
  refine oOn st15 ?_
  have z16 : h9.size ≤ h15.size := Nat.le_of_eq W15.size.symm
  have N15 := Fr.snoc X15 N14 (by omega)
  show oGl p e below (T15.setTop (mkF m 191 #[.val (.ref v), .val (.ref i), .val (.int (0 : Int32)), .val (.int (2 : Int32)), .val (.int (1 : Int32)), .val (.int (14 : Int32)), .val (.int (5 : Int32)), .val (.int (8 : Int32)), .val (.ref a4), .val (.int (2 : Int32)), .val (.int (30 : Int32)), .val (.int (16 : Int32)), .val (.int (5 : Int32)), .val (.int (1 : Int32)), .val (.int (30 : Int32)), .val (.int (29 : Int32)), .unset, .unset] [])) _
  refine siload X15 hx (hb hby d3_191) rfl rfl (pc' := 193) ?_
  refine siload X15 hx (hb hby d3_193) rfl rfl (pc' := 195) ?_
  have hz17 : n0 ≤ h15.size := by omega
  obtain ⟨_, _, ⟨T17, L17, k17, n17⟩, -, X17, ⟨Lc17, hQ17, l17, y17, z17⟩, st17⟩ := Jvm.LawKit.callS X15 hx (y := (⟨"java/lang/Math", "abs", "(I)I"⟩ : MethodName)) hown (mvT hZ (hw _ (List.mem_of_getElem? (i := 33) rfl))) (mvT hZ (hw _ (List.mem_of_getElem? (i := 34) rfl))) (mvT hZ (hw _ (List.mem_of_getElem? (i := 35) rfl))) (mvT hZ (hw _ (List.mem_of_getElem? (i := 36) rfl))) (by decide) (backOf (W := 1) (rmAbs29 l Z a0 hw []  h15 n0 hz17 ) hZ (hw _ (List.mem_of_getElem? (i := 36) rfl)) (hw _ (List.mem_of_getElem? (i := 35) rfl)) (by decide) (by decide)) (g := (mkF m 195 #[.val (.ref v), .val (.ref i), .val (.int (0 : Int32)), .val (.int (2 : Int32)), .val (.int (1 : Int32)), .val (.int (14 : Int32)), .val (.int (5 : Int32)), .val (.int (8 : Int32)), .val (.ref a4), .val (.int (2 : Int32)), .val (.int (30 : Int32)), .val (.int (16 : Int32)), .val (.int (5 : Int32)), .val (.int (1 : Int32)), .val (.int (30 : Int32)), .val (.int (29 : Int32)), .unset, .unset] [(.int (29 : Int32)), (.int (30 : Int32))])) rfl (by rw [hml]; rfl) (argsL := [(.int (29 : Int32))]) (rest := [(.int (30 : Int32))]) (lenOf pd_0 rfl) rfl (by show 2 * 0 + _ ≤ _; exact Nat.le_of_eq rfl) (hb hby d3_195) (fun _ _ => ⟨rfl, e15, (by decide : 1 + 0 ≤ _), (by decide : 2 + 0 ≤ _)⟩)
  dsimp only [Pt.U, Pt.locs, Pt.cells, Pt.slots] at X17 l17 y17 z17 st17 hQ17
  subst l17 y17 z17
  obtain ⟨rfl, N17q, eh17⟩ := hQ17
  have N17 := Fr.app N15 N17q
  refine oOn st17 ?_
  show oGl p e below (T17.setTop (mkF m 198 #[.val (.ref v), .val (.ref i), .val (.int (0 : Int32)), .val (.int (2 : Int32)), .val (.int (1 : Int32)), .val (.int (14 : Int32)), .val (.int (5 : Int32)), .val (.int (8 : Int32)), .val (.ref a4), .val (.int (2 : Int32)), .val (.int (30 : Int32)), .val (.int (16 : Int32)), .val (.int (5 : Int32)), .val (.int (1 : Int32)), .val (.int (30 : Int32)), .val (.int (29 : Int32)), .unset, .unset] [(.int (29 : Int32)), (.int (30 : Int32))])) _
  refine sisub X17 hx (hb hby d3_198) rfl (by decide) (z := (1 : Int32)) (pc' := 199) ?_
  refine sistore X17 hx (hb hby d3_199) rfl rfl (l' := #[.val (.ref v), .val (.ref i), .val (.int (0 : Int32)), .val (.int (2 : Int32)), .val (.int (1 : Int32)), .val (.int (14 : Int32)), .val (.int (5 : Int32)), .val (.int (8 : Int32)), .val (.ref a4), .val (.int (2 : Int32)), .val (.int (1 : Int32)), .val (.int (16 : Int32)), .val (.int (5 : Int32)), .val (.int (1 : Int32)), .val (.int (30 : Int32)), .val (.int (29 : Int32)), .unset, .unset]) (pc' := 201) ?_
  refine siload X17 hx (hb hby d3_201) rfl rfl (pc' := 203) ?_
  refine sifY X17 hx (hb hby d3_203) (by decide) (by decide) (feq (by decide : ¬ ((29 : Int32) = (0 : Int32)))).2 (pc' := 258) ?_
  refine siload X17 hx (hb hby d3_258) rfl rfl (pc' := 260) ?_
  refine siload X17 hx (hb hby d3_260) rfl rfl (pc' := 262) ?_
  refine sicN X17 hx (hb hby d3_262) rfl (tlt (by decide : (1 : Int32) < (16 : Int32))).2.1 (pc' := 265) ?_
  refine siinc X17 hx (hb hby d3_265) rfl rfl rfl (l' := #[.val (.ref v), .val (.ref i), .val (.int (0 : Int32)), .val (.int (2 : Int32)), .val (.int (1 : Int32)), .val (.int (14 : Int32)), .val (.int (5 : Int32)), .val (.int (8 : Int32)), .val (.ref a4), .val (.int (2 : Int32)), .val (.int (1 : Int32)), .val (.int (16 : Int32)), .val (.int (4 : Int32)), .val (.int (1 : Int32)), .val (.int (30 : Int32)), .val (.int (29 : Int32)), .unset, .unset]) (pc' := 268) ?_
  refine siload X17 hx (hb hby d3_268) rfl rfl (pc' := 270) ?_
  refine siconst X17 hx (hb hby d3_270) rfl rfl (z := 1) (pc' := 271) ?_
  refine sishr X17 hx (hb hby d3_271) rfl (by decide) (z := (8 : Int32)) (pc' := 272) ?_
  refine sistore X17 hx (hb hby d3_272) rfl rfl (l' := #[.val (.ref v), .val (.ref i), .val (.int (0 : Int32)), .val (.int (2 : Int32)), .val (.int (1 : Int32)), .val (.int (14 : Int32)), .val (.int (5 : Int32)), .val (.int (8 : Int32)), .val (.ref a4), .val (.int (2 : Int32)), .val (.int (1 : Int32)), .val (.int (8 : Int32)), .val (.int (4 : Int32)), .val (.int (1 : Int32)), .val (.int (30 : Int32)), .val (.int (29 : Int32)), .unset, .unset]) (pc' := 274) ?_
  refine sgoto X17 hx (hb hby d3_274) (by decide) (by decide)  (pc' := 258) ?_
  refine siload X17 hx (hb hby d3_258) rfl rfl (pc' := 260) ?_
  refine siload X17 hx (hb hby d3_260) rfl rfl (pc' := 262) ?_
  refine sicN X17 hx (hb hby d3_262) rfl (tlt (by decide : (1 : Int32) < (8 : Int32))).2.1 (pc' := 265) ?_
  refine siinc X17 hx (hb hby d3_265) rfl rfl rfl (l' := #[.val (.ref v), .val (.ref i), .val (.int (0 : Int32)), .val (.int (2 : Int32)), .val (.int (1 : Int32)), .val (.int (14 : Int32)), .val (.int (5 : Int32)), .val (.int (8 : Int32)), .val (.ref a4), .val (.int (2 : Int32)), .val (.int (1 : Int32)), .val (.int (8 : Int32)), .val (.int (3 : Int32)), .val (.int (1 : Int32)), .val (.int (30 : Int32)), .val (.int (29 : Int32)), .unset, .unset]) (pc' := 268) ?_
  refine siload X17 hx (hb hby d3_268) rfl rfl (pc' := 270) ?_
  refine siconst X17 hx (hb hby d3_270) rfl rfl (z := 1) (pc' := 271) ?_
  refine sishr X17 hx (hb hby d3_271) rfl (by decide) (z := (4 : Int32)) (pc' := 272) ?_
  refine sistore X17 hx (hb hby d3_272) rfl rfl (l' := #[.val (.ref v), .val (.ref i), .val (.int (0 : Int32)), .val (.int (2 : Int32)), .val (.int (1 : Int32)), .val (.int (14 : Int32)), .val (.int (5 : Int32)), .val (.int (8 : Int32)), .val (.ref a4), .val (.int (2 : Int32)), .val (.int (1 : Int32)), .val (.int (4 : Int32)), .val (.int (3 : Int32)), .val (.int (1 : Int32)), .val (.int (30 : Int32)), .val (.int (29 : Int32)), .unset, .unset]) (pc' := 274) ?_
  refine sgoto X17 hx (hb hby d3_274) (by decide) (by decide)  (pc' := 258) ?_
  refine siload X17 hx (hb hby d3_258) rfl rfl (pc' := 260) ?_
  refine siload X17 hx (hb hby d3_260) rfl rfl (pc' := 262) ?_
  refine sicN X17 hx (hb hby d3_262) rfl (tlt (by decide : (1 : Int32) < (4 : Int32))).2.1 (pc' := 265) ?_
  refine siinc X17 hx (hb hby d3_265) rfl rfl rfl (l' := #[.val (.ref v), .val (.ref i), .val (.int (0 : Int32)), .val (.int (2 : Int32)), .val (.int (1 : Int32)), .val (.int (14 : Int32)), .val (.int (5 : Int32)), .val (.int (8 : Int32)), .val (.ref a4), .val (.int (2 : Int32)), .val (.int (1 : Int32)), .val (.int (4 : Int32)), .val (.int (2 : Int32)), .val (.int (1 : Int32)), .val (.int (30 : Int32)), .val (.int (29 : Int32)), .unset, .unset]) (pc' := 268) ?_
  refine siload X17 hx (hb hby d3_268) rfl rfl (pc' := 270) ?_
  refine siconst X17 hx (hb hby d3_270) rfl rfl (z := 1) (pc' := 271) ?_
  refine sishr X17 hx (hb hby d3_271) rfl (by decide) (z := (2 : Int32)) (pc' := 272) ?_
  refine sistore X17 hx (hb hby d3_272) rfl rfl (l' := #[.val (.ref v), .val (.ref i), .val (.int (0 : Int32)), .val (.int (2 : Int32)), .val (.int (1 : Int32)), .val (.int (14 : Int32)), .val (.int (5 : Int32)), .val (.int (8 : Int32)), .val (.ref a4), .val (.int (2 : Int32)), .val (.int (1 : Int32)), .val (.int (2 : Int32)), .val (.int (2 : Int32)), .val (.int (1 : Int32)), .val (.int (30 : Int32)), .val (.int (29 : Int32)), .unset, .unset]) (pc' := 274) ?_
  refine sgoto X17 hx (hb hby d3_274) (by decide) (by decide)  (pc' := 258) ?_
  refine siload X17 hx (hb hby d3_258) rfl rfl (pc' := 260) ?_
  refine siload X17 hx (hb hby d3_260) rfl rfl (pc' := 262) ?_
  refine sicN X17 hx (hb hby d3_262) rfl (tlt (by decide : (1 : Int32) < (2 : Int32))).2.1 (pc' := 265) ?_
  refine siinc X17 hx (hb hby d3_265) rfl rfl rfl (l' := #[.val (.ref v), .val (.ref i), .val (.int (0 : Int32)), .val (.int (2 : Int32)), .val (.int (1 : Int32)), .val (.int (14 : Int32)), .val (.int (5 : Int32)), .val (.int (8 : Int32)), .val (.ref a4), .val (.int (2 : Int32)), .val (.int (1 : Int32)), .val (.int (2 : Int32)), .val (.int (1 : Int32)), .val (.int (1 : Int32)), .val (.int (30 : Int32)), .val (.int (29 : Int32)), .unset, .unset]) (pc' := 268) ?_
  refine siload X17 hx (hb hby d3_268) rfl rfl (pc' := 270) ?_
  refine siconst X17 hx (hb hby d3_270) rfl rfl (z := 1) (pc' := 271) ?_
  refine sishr X17 hx (hb hby d3_271) rfl (by decide) (z := (1 : Int32)) (pc' := 272) ?_
  refine sistore X17 hx (hb hby d3_272) rfl rfl (l' := #[.val (.ref v), .val (.ref i), .val (.int (0 : Int32)), .val (.int (2 : Int32)), .val (.int (1 : Int32)), .val (.int (14 : Int32)), .val (.int (5 : Int32)), .val (.int (8 : Int32)), .val (.ref a4), .val (.int (2 : Int32)), .val (.int (1 : Int32)), .val (.int (1 : Int32)), .val (.int (1 : Int32)), .val (.int (1 : Int32)), .val (.int (30 : Int32)), .val (.int (29 : Int32)), .unset, .unset]) (pc' := 274) ?_
  refine sgoto X17 hx (hb hby d3_274) (by decide) (by decide)  (pc' := 258) ?_
  refine siload X17 hx (hb hby d3_258) rfl rfl (pc' := 260) ?_
  refine siload X17 hx (hb hby d3_260) rfl rfl (pc' := 262) ?_
  refine sicY X17 hx (hb hby d3_262) (by decide) (by decide) (flt (by decide : ¬ ((1 : Int32) < (1 : Int32)))).2.1 (pc' := 277) ?_
  refine sgoto X17 hx (hb hby d3_277) (by decide) (by decide)  (pc' := 84) ?_
  refine siload X17 hx (hb hby d3_84) rfl rfl (pc' := 86) ?_
  refine siconst X17 hx (hb hby d3_86) rfl rfl (z := 1) (pc' := 87) ?_
  refine sicY X17 hx (hb hby d3_87) (by decide) (by decide) (flt (by decide : ¬ ((1 : Int32) < (1 : Int32)))).2.2.2 (pc' := 280) ?_
  refine siload X17 hx (hb hby d3_280) rfl rfl (pc' := 282) ?_
  refine sbipush X17 hx (hb hby d3_282) rfl rfl (z := 8) (pc' := 284) ?_
  refine siadd X17 hx (hb hby d3_284) rfl (by decide) (z := (22 : Int32)) (pc' := 285) ?_
  refine siconst X17 hx (hb hby d3_285) rfl rfl (z := 1) (pc' := 286) ?_
  refine sisub X17 hx (hb hby d3_286) rfl (by decide) (z := (21 : Int32)) (pc' := 287) ?_
  refine sbipush X17 hx (hb hby d3_287) rfl rfl (z := 8) (pc' := 289) ?_
  refine sidiv X17 hx (hb hby d3_289) rfl (by decide) (by decide) (z := (2 : Int32)) (pc' := 290) ?_
  refine sistore X17 hx (hb hby d3_290) rfl rfl (l' := #[.val (.ref v), .val (.ref i), .val (.int (0 : Int32)), .val (.int (2 : Int32)), .val (.int (1 : Int32)), .val (.int (14 : Int32)), .val (.int (5 : Int32)), .val (.int (8 : Int32)), .val (.ref a4), .val (.int (2 : Int32)), .val (.int (1 : Int32)), .val (.int (1 : Int32)), .val (.int (1 : Int32)), .val (.int (2 : Int32)), .val (.int (30 : Int32)), .val (.int (29 : Int32)), .unset, .unset]) (pc' := 292) ?_
  refine siload X17 hx (hb hby d3_292) rfl rfl (pc' := 294) ?_
  refine siloadN X17 hx (hb hby d3_294) rfl rfl (pc' := 295) ?_
  refine siloadN X17 hx (hb hby d3_295) rfl rfl (pc' := 296) ?_
  refine sisub X17 hx (hb hby d3_296) rfl (by decide) (z := (2 : Int32)) (pc' := 297) ?_
  refine sicY X17 hx (hb hby d3_297) (by decide) (by decide) (flt (by decide : ¬ ((2 : Int32) < (2 : Int32)))).2.2.2 (pc' := 310) ?_
  refine saloadN X17 hx (hb hby d3_310) rfl rfl rfl (pc' := 311) ?_
  refine saload X17 hx (hb hby d3_311) rfl rfl rfl (pc' := 313) ?_
  refine siload X17 hx (hb hby d3_313) rfl rfl (pc' := 315) ?_
  refine siload X17 hx (hb hby d3_315) rfl rfl (pc' := 317) ?_
  have f18 := (((E0.ext E4).wr W9).wr W15)
  have f19 := (((F0.ext E4).other W9 (Or.inl (oNe (by omega)))).other W15 (Or.inl (oNe (by omega))))
  have f20 := (((F1.ext E4).other W9 (Or.inl (oNe (by omega)))).other W15 (Or.inl (oNe (by omega))))
  have f21 := (((F2.ext E4).other W9 (Or.inl (oNe (by omega)))).other W15 (Or.inl (oNe (by omega))))
  have f22 := (((F3.ext E4).other W9 (Or.inl (oNe (by omega)))).other W15 (Or.inl (oNe (by omega))))
  have f23 := (((PV0.ext E4).other W9 (oNe (by omega))).other W15 (oNe (by omega)))
  have f24 := (((PV1.ext E4).other W9 (oNe (by omega))).other W15 (oNe (by omega)))
  have f25 := (((PV2.ext E4).other W9 (oNe (by omega))).other W15 (oNe (by omega)))
  have hz26 : n0 ≤ h15.size := by omega
  obtain ⟨cq26, q26, q26'⟩ := f18.cell
  obtain ⟨_, _, ⟨T26, L26, k26, n26⟩, -, X26, ⟨Lc26, hQ26, l26, y26, z26⟩, st26⟩ := X17.privateBack hx (y := (⟨"com/example/moraine/moraine/compression/FseTable", "build", "([SII)V"⟩ : MethodName)) hown (mvT hZ (hw _ (List.mem_of_getElem? (i := 37) rfl))) (mvT hZ (hw _ (List.mem_of_getElem? (i := 38) rfl))) (oPriv (mvT hZ (hw _ (List.mem_of_getElem? (i := 2) rfl))) (Cond.privateMethod_at (mvP hZ (hw _ (List.mem_of_getElem? (i := 39) rfl)) (args := #[]))) (mvT hZ (hw _ (List.mem_of_getElem? (i := 38) rfl))) (by decide)) (Cond.privateMethod_at (mvP hZ (hw _ (List.mem_of_getElem? (i := 39) rfl)) (args := #[]))) (mvT hZ (hw _ (List.mem_of_getElem? (i := 40) rfl))) (by decide) (backOf (W := 0) (rmBuild l Z a0 hw [] v sa ba la a4 256 lg (fun _ => 0) fb fl h15 n0 hz26 f18 f19 f20 f21 f22 f23 f24 f25 gv gs gb gl dd (by decide) (fun _ => Or.inl rfl) V15 (by omega) (by omega)) hZ (hw _ (List.mem_of_getElem? (i := 40) rfl)) (hw _ (List.mem_of_getElem? (i := 3) rfl)) (by decide) (by decide)) (g := (mkF m 317 #[.val (.ref v), .val (.ref i), .val (.int (0 : Int32)), .val (.int (2 : Int32)), .val (.int (1 : Int32)), .val (.int (14 : Int32)), .val (.int (5 : Int32)), .val (.int (8 : Int32)), .val (.ref a4), .val (.int (2 : Int32)), .val (.int (1 : Int32)), .val (.int (1 : Int32)), .val (.int (1 : Int32)), .val (.int (2 : Int32)), .val (.int (30 : Int32)), .val (.int (29 : Int32)), .unset, .unset] [(.int (5 : Int32)), (.int (2 : Int32)), (.ref a4), (.ref v)])) rfl (by rw [hml]; rfl) (Steps.refl _) (a := v) (by rw [eh17]; exact q26) q26' (argsL := [(.ref a4), (.int (2 : Int32)), (.int (5 : Int32))]) (rest := []) (lenOf pd_3 rfl) rfl (by show 2 * 0 + _ ≤ _; exact Nat.le_of_eq rfl) (hb hby d3_317) (fun _ _ => ⟨rfl, eh17, (by decide : 1 + 1 ≤ _), (by decide : 2 + 2 ≤ _)⟩)
  dsimp only [Pt.U, Pt.locs, Pt.cells, Pt.slots] at X26 l26 y26 z26 st26 hQ26
  subst l26 y26 z26
  obtain ⟨fs26, fb26, fl26, rfl, N26q, K26, Ei26, Fa26, Fb26, Fc26, Fd26, Va26, Vb26, Vc26⟩ := hQ26
  have N26 := Fr.app N17 N26q
  have z27 : h15.size ≤ T26.heap.size := K26.1
  refine oSt st26 ?_
  show oGl p e below (T26.setTop (mkF m 320 #[.val (.ref v), .val (.ref i), .val (.int (0 : Int32)), .val (.int (2 : Int32)), .val (.int (1 : Int32)), .val (.int (14 : Int32)), .val (.int (5 : Int32)), .val (.int (8 : Int32)), .val (.ref a4), .val (.int (2 : Int32)), .val (.int (1 : Int32)), .val (.int (1 : Int32)), .val (.int (1 : Int32)), .val (.int (2 : Int32)), .val (.int (30 : Int32)), .val (.int (29 : Int32)), .unset, .unset] [])) _
  refine siload X26 hx (hb hby d3_320) rfl rfl (pc' := 322) ?_
  have kp28 : Keep h0 T26.heap [v, sa, ba, la] := (((((Keep.refl h0 [v, sa, ba, la]).ext E4).wr W9 (Or.inr (by omega))).wr W15 (Or.inr (by omega))).trans K26 (allS (Or.inl (List.mem_of_getElem? (i := 0) rfl)) (allS (Or.inl (List.mem_of_getElem? (i := 1) rfl)) (allS (Or.inl (List.mem_of_getElem? (i := 2) rfl)) (allS (Or.inl (List.mem_of_getElem? (i := 3) rfl)) all0)))))
  refine oRetI X26 hx Bd.notSynchronized Bd.returns (hb hby d3_322) (by decide) (by decide) ?_
  show Q_rmRead256 Z v sa ba la i lg fb fl h0 n0 _ T26.heap _
  exact ⟨_, _, _, _, rfl, N26, kp28, Ei26, Fa26, Fb26, Fc26, Fd26, Va26, Vb26, Vc26⟩
theorem ef_rmInit256 (m : MethodId) (x0 : Nat) (x1 : Int32)  : entryFrame m #[(.ref x0), (.int x1)] 2 = mkF m 0 #[.val (.ref x0), .val (.int x1)] [] := by first | (simp [entryFrame, mkF, argsToLocals, Value.category, maxLocals]; done) | rfl
def Q_rmInit256 (Z : State) (v : Nat) (h0 : Heap) (n0 : Nat) (vv : Option Value) (h : Heap) (L : List Loc) : Prop := ∃ sa ba la : Nat, vv = none ∧ Fr n0 L ∧ Keep h0 h [v] ∧ Exa Z h v "com/example/moraine/moraine/compression/FseTable" ∧ Fld Z h v "com/example/moraine/moraine/compression/FseTable" "symbols" "[B" (.ref sa) ∧ Fld Z h v "com/example/moraine/moraine/compression/FseTable" "bits" "[B" (.ref ba) ∧ Fld Z h v "com/example/moraine/moraine/compression/FseTable" "baselines" "[S" (.ref la) ∧ Fld Z h v "com/example/moraine/moraine/compression/FseTable" "log" "I" (.int 0) ∧ oAI Z h sa .byte 256 (fun _ => 0) ∧ oAI Z h ba .byte 256 (fun _ => 0) ∧ oAI Z h la .short 256 (fun _ => 0) ∧ h0.size ≤ sa ∧ v < sa ∧ sa < ba ∧ ba < la
set_option maxRecDepth 65536 in
set_option maxHeartbeats 40000000 in
theorem rmInit256 (l : Launch) (Z : State) (a0 : Array Value) (hw : ∀ d ∈ tables_1, d.before a0 Z = true) (ws : List Jvm.Cond) (v : Nat) (h0 : Heap) (n0 : Nat) (Z0 : n0 ≤ h0.size) (E0 : Exa Z h0 v "com/example/moraine/moraine/compression/FseTable") (F0 : Fld Z h0 v "com/example/moraine/moraine/compression/FseTable" "symbols" "[B" .null) (F1 : Fld Z h0 v "com/example/moraine/moraine/compression/FseTable" "bits" "[B" .null) (F2 : Fld Z h0 v "com/example/moraine/moraine/compression/FseTable" "baselines" "[S" .null) (F3 : Fld Z h0 v "com/example/moraine/moraine/compression/FseTable" "log" "I" (.int 0)) (gv : n0 ≤ v) :
    MetFree l (⟨"com/example/moraine/moraine/compression/FseTable", "<init>", "(I)V"⟩ : MethodName) (head1 (Jvm.Cond.code (⟨"com/example/moraine/moraine/compression/FseTable", "<init>", "(I)V"⟩ : MethodName) prog_7_method_1_code 2 (none : Option FieldType) :: ws) ({ frames := 1, cells := 3, slots := 768, locals := 12 } : Room)) (fun aA uU => aA = #[(.ref v), (.int (8 : Int32))] ∧ Z.Warmed39 uU.vm ∧ uU.heap = h0) (fun _ _ _ _ _ => True) (fun _ uU oO uU' => ∃ vV lL, oO = .returned vV ∧ Q_rmInit256 Z v h0 n0 vV uU'.heap lL ∧ FrameEnd uU oO uU' lL ({ frames := 1, cells := 3, slots := 768, locals := 12 } : Room).cells ({ frames := 1, cells := 3, slots := 768, locals := 12 } : Room).slots) := by
  refine MetFree.of_bodySF (plainFor_of_name pn_FseTable) hisR ?_
  intro p e s m args below meth c s₁ Bd hml0 hP hK
  obtain ⟨rfl, hZ, hh⟩ := hP
  have hx := Bd.exec
  have hby := Bd.bytes
  have hml : c.maxLocals = 2 := hml0
  have hown : s.vm.findClass "com/example/moraine/moraine/compression/FseTable" = some m.cls := findClass_of_methodNamed Bd.named
  have hnm := (name_of_methodNamed Bd.named Bd.method).1
  have X0 : Stand p l e ({ frames := 1, cells := 3, slots := 768, locals := 12 } : Room) s m #[(.ref v), (.int (8 : Int32))] below meth c s₁ [] 0 0 := Stand.of_body Bd
  have e0 : s₁.heap = h0 := by rw [← hh, Bd.state]; rfl
  have N0 := Fr.nil n0
  have lv : @LT.lt Nat _ v h0.size := E0.lt
  refine oEnter (oCast (ef_rmInit256 m v (8 : Int32) ) ?_)
  show oGl p e below (s₁.setTop (mkF m 0 #[.val (.ref v), .val (.int (8 : Int32))] [])) _
  refine saloadN X0 hx (hb hby d1_0) rfl rfl rfl (pc' := 1) ?_
  obtain ⟨T1, X1, e1, st1⟩ := initO X0 hx hZ hown (hw _ (List.mem_of_getElem? (i := 7) rfl)) (hw _ (List.mem_of_getElem? (i := 8) rfl)) (hw _ (List.mem_of_getElem? (i := 9) rfl)) e0 (g := (mkF m 1 #[.val (.ref v), .val (.int (8 : Int32))] [(.ref v)])) rfl (by rw [hml]; rfl) rfl (hb hby d1_1) (by decide) (W := 0) (by show 2 * 0 + _ ≤ _; exact Nat.le_of_eq rfl) (by decide)
  refine oOn st1 ?_
  show oGl p e below (T1.setTop (mkF m 4 #[.val (.ref v), .val (.int (8 : Int32))] [])) _
  refine saloadN X1 hx (hb hby d1_4) rfl rfl rfl (pc' := 5) ?_
  refine siconst X1 hx (hb hby d1_5) rfl rfl (z := 1) (pc' := 6) ?_
  refine siloadN X1 hx (hb hby d1_6) rfl rfl (pc' := 7) ?_
  refine sishl X1 hx (hb hby d1_7) rfl (by decide) (z := (256 : Int32)) (pc' := 8) ?_
  obtain ⟨T2, h2, k2, X2, e2, E2, A2, st2⟩ := newP X1 hx hZ (hw _ (List.mem_of_getElem? (i := 0) rfl)) e1 (g := (mkF m 8 #[.val (.ref v), .val (.int (8 : Int32))] [(.int (256 : Int32)), (.ref v)])) rfl (hb hby d1_8) rfl (by decide) (cap := 256) (by decide) (by decide) (by decide) (by decide)
  obtain ⟨a2, g2⟩ : ∃ z, z = h0.size := ⟨_, rfl⟩
  rw [← g2] at A2 st2
  refine oOn st2 ?_
  have z3 : h0.size ≤ h2.size := E2.1
  have lt2 : a2 < h2.size := A2.lt
  have V2 : oAI Z h2 a2 .byte 256 (fun _ => 0) := oAI.new A2 rfl
  show oGl p e below (T2.setTop (mkF m 10 #[.val (.ref v), .val (.int (8 : Int32))] [(.ref a2), (.ref v)])) _
  have f5 := (F0.ext E2)
  have f6 := (E0.ext E2)
  obtain ⟨T4, h4, X4, e4, W4, st4⟩ := putF X2 hx hZ hown (host := "") (Or.inl (hw _ (List.mem_of_getElem? (i := 10) rfl))) Via.refl e2 f5 f6 (Or.inr ⟨(hw _ (List.mem_of_getElem? (i := 11) rfl)), rfl, hnm⟩) (hw _ (List.mem_of_getElem? (i := 2) rfl)) (ty := (.array .byte)) (by decide) rfl rfl (g := (mkF m 10 #[.val (.ref v), .val (.int (8 : Int32))] [(.ref a2), (.ref v)])) rfl rfl (hb hby d1_10)
  refine oOn st4 ?_
  have z7 : h2.size ≤ h4.size := Nat.le_of_eq W4.size.symm
  have N4 := Fr.snoc X4 N0 (by omega)
  have f4 := Fld.same W4 f5
  show oGl p e below (T4.setTop (mkF m 13 #[.val (.ref v), .val (.int (8 : Int32))] [])) _
  refine saloadN X4 hx (hb hby d1_13) rfl rfl rfl (pc' := 14) ?_
  refine siconst X4 hx (hb hby d1_14) rfl rfl (z := 1) (pc' := 15) ?_
  refine siloadN X4 hx (hb hby d1_15) rfl rfl (pc' := 16) ?_
  refine sishl X4 hx (hb hby d1_16) rfl (by decide) (z := (256 : Int32)) (pc' := 17) ?_
  obtain ⟨T8, h8, k8, X8, e8, E8, A8, st8⟩ := newP X4 hx hZ (hw _ (List.mem_of_getElem? (i := 0) rfl)) e4 (g := (mkF m 17 #[.val (.ref v), .val (.int (8 : Int32))] [(.int (256 : Int32)), (.ref v)])) rfl (hb hby d1_17) rfl (by decide) (cap := 256) (by decide) (by decide) (by decide) (by decide)
  obtain ⟨a8, g8⟩ : ∃ z, z = h4.size := ⟨_, rfl⟩
  rw [← g8] at A8 st8
  refine oOn st8 ?_
  have z9 : h4.size ≤ h8.size := E8.1
  have lt8 : a8 < h8.size := A8.lt
  have V8 : oAI Z h8 a8 .byte 256 (fun _ => 0) := oAI.new A8 rfl
  show oGl p e below (T8.setTop (mkF m 19 #[.val (.ref v), .val (.int (8 : Int32))] [(.ref a8), (.ref v)])) _
  have f11 := (((F1.ext E2).other W4 (Or.inr (slot_ne (Or.inr (hw _ (List.mem_of_getElem? (i := 13) rfl))) (Or.inr (hw _ (List.mem_of_getElem? (i := 11) rfl))) (by decide) (t := (.array .byte)) (t' := (.array .byte)) (by decide) (by decide)))).ext E8)
  have f12 := ((f6.wr W4).ext E8)
  obtain ⟨T10, h10, X10, e10, W10, st10⟩ := putF X8 hx hZ hown (host := "") (Or.inl (hw _ (List.mem_of_getElem? (i := 12) rfl))) Via.refl e8 f11 f12 (Or.inr ⟨(hw _ (List.mem_of_getElem? (i := 13) rfl)), rfl, hnm⟩) (hw _ (List.mem_of_getElem? (i := 2) rfl)) (ty := (.array .byte)) (by decide) rfl rfl (g := (mkF m 19 #[.val (.ref v), .val (.int (8 : Int32))] [(.ref a8), (.ref v)])) rfl rfl (hb hby d1_19)
  refine oOn st10 ?_
  have z13 : h8.size ≤ h10.size := Nat.le_of_eq W10.size.symm
  have N10 := Fr.snoc X10 N4 (by omega)
  have f10 := Fld.same W10 f11
  show oGl p e below (T10.setTop (mkF m 22 #[.val (.ref v), .val (.int (8 : Int32))] [])) _
  refine saloadN X10 hx (hb hby d1_22) rfl rfl rfl (pc' := 23) ?_
  refine siconst X10 hx (hb hby d1_23) rfl rfl (z := 1) (pc' := 24) ?_
  refine siloadN X10 hx (hb hby d1_24) rfl rfl (pc' := 25) ?_
  refine sishl X10 hx (hb hby d1_25) rfl (by decide) (z := (256 : Int32)) (pc' := 26) ?_
  obtain ⟨T14, h14, k14, X14, e14, E14, A14, st14⟩ := newP X10 hx hZ (hw _ (List.mem_of_getElem? (i := 14) rfl)) e10 (g := (mkF m 26 #[.val (.ref v), .val (.int (8 : Int32))] [(.int (256 : Int32)), (.ref v)])) rfl (hb hby d1_26) rfl (by decide) (cap := 256) (by decide) (by decide) (by decide) (by decide)
  obtain ⟨a14, g14⟩ : ∃ z, z = h10.size := ⟨_, rfl⟩
  rw [← g14] at A14 st14
  refine oOn st14 ?_
  have z15 : h10.size ≤ h14.size := E14.1
  have lt14 : a14 < h14.size := A14.lt
  have V14 : oAI Z h14 a14 .short 256 (fun _ => 0) := oAI.new A14 rfl
  show oGl p e below (T14.setTop (mkF m 28 #[.val (.ref v), .val (.int (8 : Int32))] [(.ref a14), (.ref v)])) _
  have f17 := (((((F2.ext E2).other W4 (Or.inr (slot_ne (Or.inr (hw _ (List.mem_of_getElem? (i := 16) rfl))) (Or.inr (hw _ (List.mem_of_getElem? (i := 11) rfl))) (by decide) (t := (.array .short)) (t' := (.array .byte)) (by decide) (by decide)))).ext E8).other W10 (Or.inr (slot_ne (Or.inr (hw _ (List.mem_of_getElem? (i := 16) rfl))) (Or.inr (hw _ (List.mem_of_getElem? (i := 13) rfl))) (by decide) (t := (.array .short)) (t' := (.array .byte)) (by decide) (by decide)))).ext E14)
  have f18 := ((f12.wr W10).ext E14)
  obtain ⟨T16, h16, X16, e16, W16, st16⟩ := putF X14 hx hZ hown (host := "") (Or.inl (hw _ (List.mem_of_getElem? (i := 15) rfl))) Via.refl e14 f17 f18 (Or.inr ⟨(hw _ (List.mem_of_getElem? (i := 16) rfl)), rfl, hnm⟩) (hw _ (List.mem_of_getElem? (i := 2) rfl)) (ty := (.array .short)) (by decide) rfl rfl (g := (mkF m 28 #[.val (.ref v), .val (.int (8 : Int32))] [(.ref a14), (.ref v)])) rfl rfl (hb hby d1_28)
  refine oOn st16 ?_
  have z19 : h14.size ≤ h16.size := Nat.le_of_eq W16.size.symm
  have N16 := Fr.snoc X16 N10 (by omega)
  have f16 := Fld.same W16 f17
  show oGl p e below (T16.setTop (mkF m 31 #[.val (.ref v), .val (.int (8 : Int32))] [])) _
  have kp20 : Keep h0 h16 [v] := (((((((Keep.refl h0 [v]).ext E2).wr W4 (Or.inl (List.mem_of_getElem? (i := 0) rfl))).ext E8).wr W10 (Or.inl (List.mem_of_getElem? (i := 0) rfl))).ext E14).wr W16 (Or.inl (List.mem_of_getElem? (i := 0) rfl)))
  have f21 := (f18.wr W16)
  have f22 := ((((f4.ext E8).other W10 (Or.inr (slot_ne (Or.inr (hw _ (List.mem_of_getElem? (i := 11) rfl))) (Or.inr (hw _ (List.mem_of_getElem? (i := 13) rfl))) (by decide) (t := (.array .byte)) (t' := (.array .byte)) (by decide) (by decide)))).ext E14).other W16 (Or.inr (slot_ne (Or.inr (hw _ (List.mem_of_getElem? (i := 11) rfl))) (Or.inr (hw _ (List.mem_of_getElem? (i := 16) rfl))) (by decide) (t := (.array .byte)) (t' := (.array .short)) (by decide) (by decide))))
  have f23 := ((f10.ext E14).other W16 (Or.inr (slot_ne (Or.inr (hw _ (List.mem_of_getElem? (i := 13) rfl))) (Or.inr (hw _ (List.mem_of_getElem? (i := 16) rfl))) (by decide) (t := (.array .byte)) (t' := (.array .short)) (by decide) (by decide))))
  have f24 := ((((((F3.ext E2).other W4 (Or.inr (slot_ne (Or.inl (hw _ (List.mem_of_getElem? (i := 46) rfl))) (Or.inr (hw _ (List.mem_of_getElem? (i := 11) rfl))) (by decide) (t := .int) (t' := (.array .byte)) (by decide) (by decide)))).ext E8).other W10 (Or.inr (slot_ne (Or.inl (hw _ (List.mem_of_getElem? (i := 46) rfl))) (Or.inr (hw _ (List.mem_of_getElem? (i := 13) rfl))) (by decide) (t := .int) (t' := (.array .byte)) (by decide) (by decide)))).ext E14).other W16 (Or.inr (slot_ne (Or.inl (hw _ (List.mem_of_getElem? (i := 46) rfl))) (Or.inr (hw _ (List.mem_of_getElem? (i := 16) rfl))) (by decide) (t := .int) (t' := (.array .short)) (by decide) (by decide))))
  have f25 := (((((V2.other W4 (oNe (by omega))).ext E8).other W10 (oNe (by omega))).ext E14).other W16 (oNe (by omega)))
  have f26 := (((V8.other W10 (oNe (by omega))).ext E14).other W16 (oNe (by omega)))
  have f27 := (V14.other W16 (oNe (by omega)))
  refine oRet0 X16 hx Bd.notSynchronized Bd.returns (hb hby d1_31) (by decide) (by decide) ?_
  show Q_rmInit256 Z v h0 n0 _ T16.heap _
  rw [e16]
  exact ⟨a2, a8, a14, rfl, N16, kp20, f21, f22, f23, f16, f24, f25, f26, f27, by omega, by omega, by omega, by omega⟩
theorem d10_0 : decode prog_7_method_8_code 0 = .ok (.aload_n 0, 1) := by decide +kernel
theorem d10_1 : decode prog_7_method_8_code 1 = .ok (.iconst 0, 1) := by decide +kernel
theorem d10_2 : decode prog_7_method_8_code 2 = .ok (.putfield 27, 3) := by decide +kernel
theorem d10_5 : decode prog_7_method_8_code 5 = .ok (.aload_n 0, 1) := by decide +kernel
theorem d10_6 : decode prog_7_method_8_code 6 = .ok (.getfield 7, 3) := by decide +kernel
theorem d10_9 : decode prog_7_method_8_code 9 = .ok (.iconst 0, 1) := by decide +kernel
theorem d10_10 : decode prog_7_method_8_code 10 = .ok (.iload_n 1, 1) := by decide +kernel
theorem d10_11 : decode prog_7_method_8_code 11 = .ok (.i2b, 1) := by decide +kernel
theorem d10_12 : decode prog_7_method_8_code 12 = .ok (.bastore, 1) := by decide +kernel
theorem d10_13 : decode prog_7_method_8_code 13 = .ok (.aload_n 0, 1) := by decide +kernel
theorem d10_14 : decode prog_7_method_8_code 14 = .ok (.getfield 13, 3) := by decide +kernel
theorem d10_17 : decode prog_7_method_8_code 17 = .ok (.iconst 0, 1) := by decide +kernel
theorem d10_18 : decode prog_7_method_8_code 18 = .ok (.iconst 0, 1) := by decide +kernel
theorem d10_19 : decode prog_7_method_8_code 19 = .ok (.bastore, 1) := by decide +kernel
theorem d10_20 : decode prog_7_method_8_code 20 = .ok (.aload_n 0, 1) := by decide +kernel
theorem d10_21 : decode prog_7_method_8_code 21 = .ok (.getfield 16, 3) := by decide +kernel
theorem d10_24 : decode prog_7_method_8_code 24 = .ok (.iconst 0, 1) := by decide +kernel
theorem d10_25 : decode prog_7_method_8_code 25 = .ok (.iconst 0, 1) := by decide +kernel
theorem d10_26 : decode prog_7_method_8_code 26 = .ok (.sastore, 1) := by decide +kernel
theorem d10_27 : decode prog_7_method_8_code 27 = .ok (.return_, 1) := by decide +kernel
theorem ef_rmSingle (m : MethodId) (x0 : Nat) (x1 : Int32)  : entryFrame m #[(.ref x0), (.int x1)] 2 = mkF m 0 #[.val (.ref x0), .val (.int x1)] [] := by first | (simp [entryFrame, mkF, argsToLocals, Value.category, maxLocals]; done) | rfl
def Q_rmSingle (Z : State) (v sa ba la : Nat) (Nn : Nat) (lg x : Int32) (fs fb fl : Nat → Int32) (h0 : Heap) (n0 : Nat) (vv : Option Value) (h : Heap) (L : List Loc) : Prop := vv = none ∧ Fr n0 L ∧ Keep h0 h [v, sa, ba, la] ∧ Exa Z h v "com/example/moraine/moraine/compression/FseTable" ∧ Fld Z h v "com/example/moraine/moraine/compression/FseTable" "symbols" "[B" (.ref sa) ∧ Fld Z h v "com/example/moraine/moraine/compression/FseTable" "bits" "[B" (.ref ba) ∧ Fld Z h v "com/example/moraine/moraine/compression/FseTable" "baselines" "[S" (.ref la) ∧ Fld Z h v "com/example/moraine/moraine/compression/FseTable" "log" "I" (.int 0) ∧ oAI Z h sa .byte Nn (oUp fs 0 (nar .byte (x.toInt8.toInt32))) ∧ oAI Z h ba .byte Nn (oUp fb 0 0) ∧ oAI Z h la .short Nn (oUp fl 0 0)
set_option maxRecDepth 65536 in
set_option maxHeartbeats 40000000 in
theorem rmSingle (l : Launch) (Z : State) (a0 : Array Value) (hw : ∀ d ∈ tables_1, d.before a0 Z = true) (ws : List Jvm.Cond) (v sa ba la : Nat) (Nn : Nat) (lg x : Int32) (fs fb fl : Nat → Int32) (h0 : Heap) (n0 : Nat) (Z0 : n0 ≤ h0.size) (E0 : Exa Z h0 v "com/example/moraine/moraine/compression/FseTable") (F0 : Fld Z h0 v "com/example/moraine/moraine/compression/FseTable" "symbols" "[B" (.ref sa)) (F1 : Fld Z h0 v "com/example/moraine/moraine/compression/FseTable" "bits" "[B" (.ref ba)) (F2 : Fld Z h0 v "com/example/moraine/moraine/compression/FseTable" "baselines" "[S" (.ref la)) (F3 : Fld Z h0 v "com/example/moraine/moraine/compression/FseTable" "log" "I" (.int lg)) (PV0 : oAI Z h0 sa .byte Nn fs) (PV1 : oAI Z h0 ba .byte Nn fb) (PV2 : oAI Z h0 la .short Nn fl) (gv : n0 ≤ v) (gs : n0 ≤ sa) (gb : n0 ≤ ba) (gl : n0 ≤ la) (dd : v < sa ∧ sa < ba ∧ ba < la) (hN : 0 < Nn) :
    MetFree l (⟨"com/example/moraine/moraine/compression/FseTable", "single", "(I)V"⟩ : MethodName) (head1 (Jvm.Cond.code (⟨"com/example/moraine/moraine/compression/FseTable", "single", "(I)V"⟩ : MethodName) prog_7_method_8_code 2 (none : Option FieldType) :: ws) ({ frames := 0, cells := 0, slots := 0, locals := 0 } : Room)) (fun aA uU => aA = #[(.ref v), (.int x)] ∧ Z.Warmed39 uU.vm ∧ uU.heap = h0) (fun _ _ _ _ _ => True) (fun _ uU oO uU' => ∃ vV lL, oO = .returned vV ∧ Q_rmSingle Z v sa ba la Nn lg x fs fb fl h0 n0 vV uU'.heap lL ∧ FrameEnd uU oO uU' lL ({ frames := 0, cells := 0, slots := 0, locals := 0 } : Room).cells ({ frames := 0, cells := 0, slots := 0, locals := 0 } : Room).slots) := by
  refine MetFree.of_bodySF (plainFor_of_name pn_FseTable) hisR ?_
  intro p e s m args below meth c s₁ Bd hml0 hP hK
  obtain ⟨rfl, hZ, hh⟩ := hP
  have hx := Bd.exec
  have hby := Bd.bytes
  have hml : c.maxLocals = 2 := hml0
  have hown : s.vm.findClass "com/example/moraine/moraine/compression/FseTable" = some m.cls := findClass_of_methodNamed Bd.named
  have hnm := (name_of_methodNamed Bd.named Bd.method).1
  have X0 : Stand p l e ({ frames := 0, cells := 0, slots := 0, locals := 0 } : Room) s m #[(.ref v), (.int x)] below meth c s₁ [] 0 0 := Stand.of_body Bd
  have e0 : s₁.heap = h0 := by rw [← hh, Bd.state]; rfl
  have N0 := Fr.nil n0
  have lv : @LT.lt Nat _ v h0.size := E0.lt
  have lsa := PV0.lt
  have lba := PV1.lt
  have lla := PV2.lt
  refine oEnter (oCast (ef_rmSingle m v x ) ?_)
  show oGl p e below (s₁.setTop (mkF m 0 #[.val (.ref v), .val (.int x)] [])) _
  refine saloadN X0 hx (hb hby d10_0) rfl rfl rfl (pc' := 1) ?_
  refine siconst X0 hx (hb hby d10_1) rfl rfl (z := 0) (pc' := 2) ?_
  obtain ⟨T1, h1, X1, e1, W1, st1⟩ := putF X0 hx hZ hown (host := "") (Or.inl (hw _ (List.mem_of_getElem? (i := 45) rfl))) Via.refl e0 F3 E0 (Or.inl (hw _ (List.mem_of_getElem? (i := 46) rfl))) (hw _ (List.mem_of_getElem? (i := 2) rfl)) (ty := .int) (by decide) rfl rfl (g := (mkF m 2 #[.val (.ref v), .val (.int x)] [(.int (0 : Int32)), (.ref v)])) rfl rfl (hb hby d10_2)
  refine oOn st1 ?_
  have z2 : h0.size ≤ h1.size := Nat.le_of_eq W1.size.symm
  have N1 := Fr.snoc X1 N0 (by omega)
  have f1 := Fld.same W1 F3
  show oGl p e below (T1.setTop (mkF m 5 #[.val (.ref v), .val (.int x)] [])) _
  refine saloadN X1 hx (hb hby d10_5) rfl rfl rfl (pc' := 6) ?_
  have f4 := (F0.other W1 (Or.inr (slot_ne (Or.inr (hw _ (List.mem_of_getElem? (i := 11) rfl))) (Or.inl (hw _ (List.mem_of_getElem? (i := 46) rfl))) (by decide) (t := (.array .byte)) (t' := .int) (by decide) (by decide))))
  obtain ⟨T3, X3, e3, st3⟩ := getF X1 hx hZ hown (host := "") (Or.inl (hw _ (List.mem_of_getElem? (i := 10) rfl))) Via.refl e1 f4 (g := (mkF m 6 #[.val (.ref v), .val (.int x)] [(.ref v)])) rfl rfl (hb hby d10_6)
  refine oOn st3 ?_
  show oGl p e below (T3.setTop (mkF m 9 #[.val (.ref v), .val (.int x)] [(.ref sa)])) _
  refine siconst X3 hx (hb hby d10_9) rfl rfl (z := 0) (pc' := 10) ?_
  refine siloadN X3 hx (hb hby d10_10) rfl rfl (pc' := 11) ?_
  refine si2b X3 hx (hb hby d10_11) rfl rfl (pc' := 12) ?_
  have f5 := (PV0.other W1 (oNe (by omega)))
  obtain ⟨T6, h6, X6, e6, W6, V6, st6⟩ := f5.stB X3 hx hZ e3 (j := (0 : Int32)) ⟨by decide, by show (0 : Int) < _; omega⟩ (g := (mkF m 12 #[.val (.ref v), .val (.int x)] [(.int ((x).toInt8.toInt32)), (.int (0 : Int32)), (.ref sa)])) rfl rfl (hb hby d10_12)
  refine oOn st6 ?_
  have z7 : h1.size ≤ h6.size := Nat.le_of_eq W6.size.symm
  have N6 := Fr.snoc X6 N1 (by omega)
  show oGl p e below (T6.setTop (mkF m 13 #[.val (.ref v), .val (.int x)] [])) _
  refine saloadN X6 hx (hb hby d10_13) rfl rfl rfl (pc' := 14) ?_
  have f9 := ((F1.other W1 (Or.inr (slot_ne (Or.inr (hw _ (List.mem_of_getElem? (i := 13) rfl))) (Or.inl (hw _ (List.mem_of_getElem? (i := 46) rfl))) (by decide) (t := (.array .byte)) (t' := .int) (by decide) (by decide)))).other W6 (Or.inl (oNe (by omega))))
  obtain ⟨T8, X8, e8, st8⟩ := getF X6 hx hZ hown (host := "") (Or.inl (hw _ (List.mem_of_getElem? (i := 12) rfl))) Via.refl e6 f9 (g := (mkF m 14 #[.val (.ref v), .val (.int x)] [(.ref v)])) rfl rfl (hb hby d10_14)
  refine oOn st8 ?_
  show oGl p e below (T8.setTop (mkF m 17 #[.val (.ref v), .val (.int x)] [(.ref ba)])) _
  refine siconst X8 hx (hb hby d10_17) rfl rfl (z := 0) (pc' := 18) ?_
  refine siconst X8 hx (hb hby d10_18) rfl rfl (z := 0) (pc' := 19) ?_
  have f10 := ((PV1.other W1 (oNe (by omega))).other W6 (oNe (by omega)))
  obtain ⟨T11, h11, X11, e11, W11, V11, st11⟩ := f10.stB X8 hx hZ e8 (j := (0 : Int32)) ⟨by decide, by show (0 : Int) < _; omega⟩ (g := (mkF m 19 #[.val (.ref v), .val (.int x)] [(.int (0 : Int32)), (.int (0 : Int32)), (.ref ba)])) rfl rfl (hb hby d10_19)
  refine oOn st11 ?_
  have z12 : h6.size ≤ h11.size := Nat.le_of_eq W11.size.symm
  have N11 := Fr.snoc X11 N6 (by omega)
  show oGl p e below (T11.setTop (mkF m 20 #[.val (.ref v), .val (.int x)] [])) _
  refine saloadN X11 hx (hb hby d10_20) rfl rfl rfl (pc' := 21) ?_
  have f14 := (((F2.other W1 (Or.inr (slot_ne (Or.inr (hw _ (List.mem_of_getElem? (i := 16) rfl))) (Or.inl (hw _ (List.mem_of_getElem? (i := 46) rfl))) (by decide) (t := (.array .short)) (t' := .int) (by decide) (by decide)))).other W6 (Or.inl (oNe (by omega)))).other W11 (Or.inl (oNe (by omega))))
  obtain ⟨T13, X13, e13, st13⟩ := getF X11 hx hZ hown (host := "") (Or.inl (hw _ (List.mem_of_getElem? (i := 15) rfl))) Via.refl e11 f14 (g := (mkF m 21 #[.val (.ref v), .val (.int x)] [(.ref v)])) rfl rfl (hb hby d10_21)
  refine oOn st13 ?_
  show oGl p e below (T13.setTop (mkF m 24 #[.val (.ref v), .val (.int x)] [(.ref la)])) _
  refine siconst X13 hx (hb hby d10_24) rfl rfl (z := 0) (pc' := 25) ?_
  refine siconst X13 hx (hb hby d10_25) rfl rfl (z := 0) (pc' := 26) ?_
  have f15 := (((PV2.other W1 (oNe (by omega))).other W6 (oNe (by omega))).other W11 (oNe (by omega)))
  obtain ⟨T16, h16, X16, e16, W16, V16, st16⟩ := f15.stS X13 hx hZ e13 (j := (0 : Int32)) ⟨by decide, by show (0 : Int) < _; omega⟩ (g := (mkF m 26 #[.val (.ref v), .val (.int x)] [(.int (0 : Int32)), (.int (0 : Int32)), (.ref la)])) rfl rfl (hb hby d10_26)
  refine oOn st16 ?_
  have z17 : h11.size ≤ h16.size := Nat.le_of_eq W16.size.symm
  have N16 := Fr.snoc X16 N11 (by omega)
  show oGl p e below (T16.setTop (mkF m 27 #[.val (.ref v), .val (.int x)] [])) _
  have kp18 : Keep h0 h16 [v, sa, ba, la] := (((((Keep.refl h0 [v, sa, ba, la]).wr W1 (Or.inl (List.mem_of_getElem? (i := 0) rfl))).wr W6 (Or.inl (List.mem_of_getElem? (i := 1) rfl))).wr W11 (Or.inl (List.mem_of_getElem? (i := 2) rfl))).wr W16 (Or.inl (List.mem_of_getElem? (i := 3) rfl)))
  have f19 := ((((E0.wr W1).wr W6).wr W11).wr W16)
  have f20 := (((f4.other W6 (Or.inl (oNe (by omega)))).other W11 (Or.inl (oNe (by omega)))).other W16 (Or.inl (oNe (by omega))))
  have f21 := ((f9.other W11 (Or.inl (oNe (by omega)))).other W16 (Or.inl (oNe (by omega))))
  have f22 := (f14.other W16 (Or.inl (oNe (by omega))))
  have f23 := (((f1.other W6 (Or.inl (oNe (by omega)))).other W11 (Or.inl (oNe (by omega)))).other W16 (Or.inl (oNe (by omega))))
  have f24 := ((V6.other W11 (oNe (by omega))).other W16 (oNe (by omega)))
  have f25 := (V11.other W16 (oNe (by omega)))
  refine oRet0 X16 hx Bd.notSynchronized Bd.returns (hb hby d10_27) (by decide) (by decide) ?_
  show Q_rmSingle Z v sa ba la Nn lg x fs fb fl h0 n0 _ T16.heap _
  rw [e16]
  exact ⟨rfl, N16, kp18, f19, f20, f21, f22, f23, f24, f25, V16⟩
theorem d11_0 : decode prog_7_method_3_code 0 = .ok (.aload_n 0, 1) := by decide +kernel
theorem d11_1 : decode prog_7_method_3_code 1 = .ok (.getfield 27, 3) := by decide +kernel
theorem d11_4 : decode prog_7_method_3_code 4 = .ok (.ireturn, 1) := by decide +kernel
theorem ef_rmLog (m : MethodId) (x0 : Nat)  : entryFrame m #[(.ref x0)] 1 = mkF m 0 #[.val (.ref x0)] [] := by first | (simp [entryFrame, mkF, argsToLocals, Value.category, maxLocals]; done) | rfl
def Q_rmLog (Z : State) (v : Nat) (lg : Int32) (h0 : Heap) (n0 : Nat) (vv : Option Value) (h : Heap) (L : List Loc) : Prop := vv = some (.int lg) ∧ Fr n0 L ∧ h = h0
set_option maxRecDepth 65536 in
set_option maxHeartbeats 40000000 in
theorem rmLog (l : Launch) (Z : State) (a0 : Array Value) (hw : ∀ d ∈ tables_1, d.before a0 Z = true) (ws : List Jvm.Cond) (v : Nat) (lg : Int32) (h0 : Heap) (n0 : Nat) (Z0 : n0 ≤ h0.size) (F3 : Fld Z h0 v "com/example/moraine/moraine/compression/FseTable" "log" "I" (.int lg)) :
    MetFree l (⟨"com/example/moraine/moraine/compression/FseTable", "log", "()I"⟩ : MethodName) (head1 (Jvm.Cond.code (⟨"com/example/moraine/moraine/compression/FseTable", "log", "()I"⟩ : MethodName) prog_7_method_3_code 1 (some .int) :: ws) ({ frames := 0, cells := 0, slots := 0, locals := 0 } : Room)) (fun aA uU => aA = #[(.ref v)] ∧ Z.Warmed39 uU.vm ∧ uU.heap = h0) (fun _ _ _ _ _ => True) (fun _ uU oO uU' => ∃ vV lL, oO = .returned vV ∧ Q_rmLog Z v lg h0 n0 vV uU'.heap lL ∧ FrameEnd uU oO uU' lL ({ frames := 0, cells := 0, slots := 0, locals := 0 } : Room).cells ({ frames := 0, cells := 0, slots := 0, locals := 0 } : Room).slots) := by
  refine MetFree.of_bodySF (plainFor_of_name pn_FseTable) hisR ?_
  intro p e s m args below meth c s₁ Bd hml0 hP hK
  obtain ⟨rfl, hZ, hh⟩ := hP
  have hx := Bd.exec
  have hby := Bd.bytes
  have hml : c.maxLocals = 1 := hml0
  have hown : s.vm.findClass "com/example/moraine/moraine/compression/FseTable" = some m.cls := findClass_of_methodNamed Bd.named
  have hnm := (name_of_methodNamed Bd.named Bd.method).1
  have X0 : Stand p l e ({ frames := 0, cells := 0, slots := 0, locals := 0 } : Room) s m #[(.ref v)] below meth c s₁ [] 0 0 := Stand.of_body Bd
  have e0 : s₁.heap = h0 := by rw [← hh, Bd.state]; rfl
  have N0 := Fr.nil n0
  refine oEnter (oCast (ef_rmLog m v ) ?_)
  show oGl p e below (s₁.setTop (mkF m 0 #[.val (.ref v)] [])) _
  refine saloadN X0 hx (hb hby d11_0) rfl rfl rfl (pc' := 1) ?_
  obtain ⟨T1, X1, e1, st1⟩ := getF X0 hx hZ hown (host := "") (Or.inl (hw _ (List.mem_of_getElem? (i := 45) rfl))) Via.refl e0 F3 (g := (mkF m 1 #[.val (.ref v)] [(.ref v)])) rfl rfl (hb hby d11_1)
  refine oOn st1 ?_
  show oGl p e below (T1.setTop (mkF m 4 #[.val (.ref v)] [(.int lg)])) _
  refine oRetI X1 hx Bd.notSynchronized Bd.returns (hb hby d11_4) (by decide) (by decide) ?_
  show Q_rmLog Z v lg h0 n0 _ T1.heap _
  rw [e1]
  exact ⟨rfl, N0, rfl⟩
theorem d12_0 : decode prog_7_method_4_code 0 = .ok (.aload_n 0, 1) := by decide +kernel
theorem d12_1 : decode prog_7_method_4_code 1 = .ok (.getfield 7, 3) := by decide +kernel
theorem d12_4 : decode prog_7_method_4_code 4 = .ok (.iload_n 1, 1) := by decide +kernel
theorem d12_5 : decode prog_7_method_4_code 5 = .ok (.baload, 1) := by decide +kernel
theorem d12_6 : decode prog_7_method_4_code 6 = .ok (.sipush 255, 3) := by decide +kernel
theorem d12_9 : decode prog_7_method_4_code 9 = .ok (.iand, 1) := by decide +kernel
theorem d12_10 : decode prog_7_method_4_code 10 = .ok (.ireturn, 1) := by decide +kernel
theorem ef_rm_symbol (m : MethodId) (x0 : Nat) (x1 : Int32)  : entryFrame m #[(.ref x0), (.int x1)] 2 = mkF m 0 #[.val (.ref x0), .val (.int x1)] [] := by first | (simp [entryFrame, mkF, argsToLocals, Value.category, maxLocals]; done) | rfl
def Q_rm_symbol (Z : State) (v t : Nat) (Nn : Nat) (f : Nat → Int32) (h0 : Heap) (n0 : Nat) (vv : Option Value) (h : Heap) (L : List Loc) : Prop := vv = some (.int ((f 0) &&& (255 : Int32))) ∧ Fr n0 L ∧ h = h0
set_option maxRecDepth 65536 in
set_option maxHeartbeats 40000000 in
theorem rm_symbol (l : Launch) (Z : State) (a0 : Array Value) (hw : ∀ d ∈ tables_1, d.before a0 Z = true) (ws : List Jvm.Cond) (v t : Nat) (Nn : Nat) (f : Nat → Int32) (h0 : Heap) (n0 : Nat) (Z0 : n0 ≤ h0.size) (F0 : Fld Z h0 v "com/example/moraine/moraine/compression/FseTable" "symbols" "[B" (.ref t)) (PV0 : oAI Z h0 t .byte Nn f) (hN : 0 < Nn) :
    MetFree l (⟨"com/example/moraine/moraine/compression/FseTable", "symbol", "(I)I"⟩ : MethodName) (head1 (Jvm.Cond.code (⟨"com/example/moraine/moraine/compression/FseTable", "symbol", "(I)I"⟩ : MethodName) prog_7_method_4_code 2 (some .int) :: ws) ({ frames := 0, cells := 0, slots := 0, locals := 0 } : Room)) (fun aA uU => aA = #[(.ref v), (.int (0 : Int32))] ∧ Z.Warmed39 uU.vm ∧ uU.heap = h0) (fun _ _ _ _ _ => True) (fun _ uU oO uU' => ∃ vV lL, oO = .returned vV ∧ Q_rm_symbol Z v t Nn f h0 n0 vV uU'.heap lL ∧ FrameEnd uU oO uU' lL ({ frames := 0, cells := 0, slots := 0, locals := 0 } : Room).cells ({ frames := 0, cells := 0, slots := 0, locals := 0 } : Room).slots) := by
  refine MetFree.of_bodySF (plainFor_of_name pn_FseTable) hisR ?_
  intro p e s m args below meth c s₁ Bd hml0 hP hK
  obtain ⟨rfl, hZ, hh⟩ := hP
  have hx := Bd.exec
  have hby := Bd.bytes
  have hml : c.maxLocals = 2 := hml0
  have hown : s.vm.findClass "com/example/moraine/moraine/compression/FseTable" = some m.cls := findClass_of_methodNamed Bd.named
  have hnm := (name_of_methodNamed Bd.named Bd.method).1
  have X0 : Stand p l e ({ frames := 0, cells := 0, slots := 0, locals := 0 } : Room) s m #[(.ref v), (.int (0 : Int32))] below meth c s₁ [] 0 0 := Stand.of_body Bd
  have e0 : s₁.heap = h0 := by rw [← hh, Bd.state]; rfl
  have N0 := Fr.nil n0
  refine oEnter (oCast (ef_rm_symbol m v (0 : Int32) ) ?_)
  show oGl p e below (s₁.setTop (mkF m 0 #[.val (.ref v), .val (.int (0 : Int32))] [])) _
  refine saloadN X0 hx (hb hby d12_0) rfl rfl rfl (pc' := 1) ?_
  obtain ⟨T1, X1, e1, st1⟩ := getF X0 hx hZ hown (host := "") (Or.inl (hw _ (List.mem_of_getElem? (i := 10) rfl))) Via.refl e0 F0 (g := (mkF m 1 #[.val (.ref v), .val (.int (0 : Int32))] [(.ref v)])) rfl rfl (hb hby d12_1)
  refine oOn st1 ?_
  show oGl p e below (T1.setTop (mkF m 4 #[.val (.ref v), .val (.int (0 : Int32))] [(.ref t)])) _
  refine siloadN X1 hx (hb hby d12_4) rfl rfl (pc' := 5) ?_
  refine oOn (PV0.ldB X1 hx hZ e1 (j := (0 : Int32)) ⟨by decide, by show (0 : Int) < _; omega⟩ (g := (mkF m 5 #[.val (.ref v), .val (.int (0 : Int32))] [(.int (0 : Int32)), (.ref t)])) rfl rfl (hb hby d12_5)) ?_
  show oGl p e below (T1.setTop (mkF m 6 #[.val (.ref v), .val (.int (0 : Int32))] [(.int (f 0))])) _
  refine ssipush X1 hx (hb hby d12_6) rfl rfl (z := 255) (pc' := 9) ?_
  refine siand X1 hx (hb hby d12_9) rfl rfl (pc' := 10) ?_
  refine oRetI X1 hx Bd.notSynchronized Bd.returns (hb hby d12_10) (by decide) (by decide) ?_
  show Q_rm_symbol Z v t Nn f h0 n0 _ T1.heap _
  rw [e1]
  exact ⟨rfl, N0, rfl⟩
theorem d13_0 : decode prog_7_method_5_code 0 = .ok (.aload_n 0, 1) := by decide +kernel
theorem d13_1 : decode prog_7_method_5_code 1 = .ok (.getfield 13, 3) := by decide +kernel
theorem d13_4 : decode prog_7_method_5_code 4 = .ok (.iload_n 1, 1) := by decide +kernel
theorem d13_5 : decode prog_7_method_5_code 5 = .ok (.baload, 1) := by decide +kernel
theorem d13_6 : decode prog_7_method_5_code 6 = .ok (.ireturn, 1) := by decide +kernel
theorem ef_rm_bits (m : MethodId) (x0 : Nat) (x1 : Int32)  : entryFrame m #[(.ref x0), (.int x1)] 2 = mkF m 0 #[.val (.ref x0), .val (.int x1)] [] := by first | (simp [entryFrame, mkF, argsToLocals, Value.category, maxLocals]; done) | rfl
def Q_rm_bits (Z : State) (v t : Nat) (Nn : Nat) (f : Nat → Int32) (h0 : Heap) (n0 : Nat) (vv : Option Value) (h : Heap) (L : List Loc) : Prop := vv = some (.int (f 0)) ∧ Fr n0 L ∧ h = h0
set_option maxRecDepth 65536 in
set_option maxHeartbeats 40000000 in
theorem rm_bits (l : Launch) (Z : State) (a0 : Array Value) (hw : ∀ d ∈ tables_1, d.before a0 Z = true) (ws : List Jvm.Cond) (v t : Nat) (Nn : Nat) (f : Nat → Int32) (h0 : Heap) (n0 : Nat) (Z0 : n0 ≤ h0.size) (F0 : Fld Z h0 v "com/example/moraine/moraine/compression/FseTable" "bits" "[B" (.ref t)) (PV0 : oAI Z h0 t .byte Nn f) (hN : 0 < Nn) :
    MetFree l (⟨"com/example/moraine/moraine/compression/FseTable", "bits", "(I)I"⟩ : MethodName) (head1 (Jvm.Cond.code (⟨"com/example/moraine/moraine/compression/FseTable", "bits", "(I)I"⟩ : MethodName) prog_7_method_5_code 2 (some .int) :: ws) ({ frames := 0, cells := 0, slots := 0, locals := 0 } : Room)) (fun aA uU => aA = #[(.ref v), (.int (0 : Int32))] ∧ Z.Warmed39 uU.vm ∧ uU.heap = h0) (fun _ _ _ _ _ => True) (fun _ uU oO uU' => ∃ vV lL, oO = .returned vV ∧ Q_rm_bits Z v t Nn f h0 n0 vV uU'.heap lL ∧ FrameEnd uU oO uU' lL ({ frames := 0, cells := 0, slots := 0, locals := 0 } : Room).cells ({ frames := 0, cells := 0, slots := 0, locals := 0 } : Room).slots) := by
  refine MetFree.of_bodySF (plainFor_of_name pn_FseTable) hisR ?_
  intro p e s m args below meth c s₁ Bd hml0 hP hK
  obtain ⟨rfl, hZ, hh⟩ := hP
  have hx := Bd.exec
  have hby := Bd.bytes
  have hml : c.maxLocals = 2 := hml0
  have hown : s.vm.findClass "com/example/moraine/moraine/compression/FseTable" = some m.cls := findClass_of_methodNamed Bd.named
  have hnm := (name_of_methodNamed Bd.named Bd.method).1
  have X0 : Stand p l e ({ frames := 0, cells := 0, slots := 0, locals := 0 } : Room) s m #[(.ref v), (.int (0 : Int32))] below meth c s₁ [] 0 0 := Stand.of_body Bd
  have e0 : s₁.heap = h0 := by rw [← hh, Bd.state]; rfl
  have N0 := Fr.nil n0
  refine oEnter (oCast (ef_rm_bits m v (0 : Int32) ) ?_)
  show oGl p e below (s₁.setTop (mkF m 0 #[.val (.ref v), .val (.int (0 : Int32))] [])) _
  refine saloadN X0 hx (hb hby d13_0) rfl rfl rfl (pc' := 1) ?_
  obtain ⟨T1, X1, e1, st1⟩ := getF X0 hx hZ hown (host := "") (Or.inl (hw _ (List.mem_of_getElem? (i := 12) rfl))) Via.refl e0 F0 (g := (mkF m 1 #[.val (.ref v), .val (.int (0 : Int32))] [(.ref v)])) rfl rfl (hb hby d13_1)
  refine oOn st1 ?_
  show oGl p e below (T1.setTop (mkF m 4 #[.val (.ref v), .val (.int (0 : Int32))] [(.ref t)])) _
  refine siloadN X1 hx (hb hby d13_4) rfl rfl (pc' := 5) ?_
  refine oOn (PV0.ldB X1 hx hZ e1 (j := (0 : Int32)) ⟨by decide, by show (0 : Int) < _; omega⟩ (g := (mkF m 5 #[.val (.ref v), .val (.int (0 : Int32))] [(.int (0 : Int32)), (.ref t)])) rfl rfl (hb hby d13_5)) ?_
  show oGl p e below (T1.setTop (mkF m 6 #[.val (.ref v), .val (.int (0 : Int32))] [(.int (f 0))])) _
  refine oRetI X1 hx Bd.notSynchronized Bd.returns (hb hby d13_6) (by decide) (by decide) ?_
  show Q_rm_bits Z v t Nn f h0 n0 _ T1.heap _
  rw [e1]
  exact ⟨rfl, N0, rfl⟩
theorem d14_0 : decode prog_7_method_6_code 0 = .ok (.aload_n 0, 1) := by decide +kernel
theorem d14_1 : decode prog_7_method_6_code 1 = .ok (.getfield 16, 3) := by decide +kernel
theorem d14_4 : decode prog_7_method_6_code 4 = .ok (.iload_n 1, 1) := by decide +kernel
theorem d14_5 : decode prog_7_method_6_code 5 = .ok (.saload, 1) := by decide +kernel
theorem d14_6 : decode prog_7_method_6_code 6 = .ok (.ireturn, 1) := by decide +kernel
theorem ef_rm_baseline (m : MethodId) (x0 : Nat) (x1 : Int32)  : entryFrame m #[(.ref x0), (.int x1)] 2 = mkF m 0 #[.val (.ref x0), .val (.int x1)] [] := by first | (simp [entryFrame, mkF, argsToLocals, Value.category, maxLocals]; done) | rfl
def Q_rm_baseline (Z : State) (v t : Nat) (Nn : Nat) (f : Nat → Int32) (h0 : Heap) (n0 : Nat) (vv : Option Value) (h : Heap) (L : List Loc) : Prop := vv = some (.int (f 0)) ∧ Fr n0 L ∧ h = h0
set_option maxRecDepth 65536 in
set_option maxHeartbeats 40000000 in
theorem rm_baseline (l : Launch) (Z : State) (a0 : Array Value) (hw : ∀ d ∈ tables_1, d.before a0 Z = true) (ws : List Jvm.Cond) (v t : Nat) (Nn : Nat) (f : Nat → Int32) (h0 : Heap) (n0 : Nat) (Z0 : n0 ≤ h0.size) (F0 : Fld Z h0 v "com/example/moraine/moraine/compression/FseTable" "baselines" "[S" (.ref t)) (PV0 : oAI Z h0 t .short Nn f) (hN : 0 < Nn) :
    MetFree l (⟨"com/example/moraine/moraine/compression/FseTable", "baseline", "(I)I"⟩ : MethodName) (head1 (Jvm.Cond.code (⟨"com/example/moraine/moraine/compression/FseTable", "baseline", "(I)I"⟩ : MethodName) prog_7_method_6_code 2 (some .int) :: ws) ({ frames := 0, cells := 0, slots := 0, locals := 0 } : Room)) (fun aA uU => aA = #[(.ref v), (.int (0 : Int32))] ∧ Z.Warmed39 uU.vm ∧ uU.heap = h0) (fun _ _ _ _ _ => True) (fun _ uU oO uU' => ∃ vV lL, oO = .returned vV ∧ Q_rm_baseline Z v t Nn f h0 n0 vV uU'.heap lL ∧ FrameEnd uU oO uU' lL ({ frames := 0, cells := 0, slots := 0, locals := 0 } : Room).cells ({ frames := 0, cells := 0, slots := 0, locals := 0 } : Room).slots) := by
  refine MetFree.of_bodySF (plainFor_of_name pn_FseTable) hisR ?_
  intro p e s m args below meth c s₁ Bd hml0 hP hK
  obtain ⟨rfl, hZ, hh⟩ := hP
  have hx := Bd.exec
  have hby := Bd.bytes
  have hml : c.maxLocals = 2 := hml0
  have hown : s.vm.findClass "com/example/moraine/moraine/compression/FseTable" = some m.cls := findClass_of_methodNamed Bd.named
  have hnm := (name_of_methodNamed Bd.named Bd.method).1
  have X0 : Stand p l e ({ frames := 0, cells := 0, slots := 0, locals := 0 } : Room) s m #[(.ref v), (.int (0 : Int32))] below meth c s₁ [] 0 0 := Stand.of_body Bd
  have e0 : s₁.heap = h0 := by rw [← hh, Bd.state]; rfl
  have N0 := Fr.nil n0
  refine oEnter (oCast (ef_rm_baseline m v (0 : Int32) ) ?_)
  show oGl p e below (s₁.setTop (mkF m 0 #[.val (.ref v), .val (.int (0 : Int32))] [])) _
  refine saloadN X0 hx (hb hby d14_0) rfl rfl rfl (pc' := 1) ?_
  obtain ⟨T1, X1, e1, st1⟩ := getF X0 hx hZ hown (host := "") (Or.inl (hw _ (List.mem_of_getElem? (i := 15) rfl))) Via.refl e0 F0 (g := (mkF m 1 #[.val (.ref v), .val (.int (0 : Int32))] [(.ref v)])) rfl rfl (hb hby d14_1)
  refine oOn st1 ?_
  show oGl p e below (T1.setTop (mkF m 4 #[.val (.ref v), .val (.int (0 : Int32))] [(.ref t)])) _
  refine siloadN X1 hx (hb hby d14_4) rfl rfl (pc' := 5) ?_
  refine oOn (PV0.ldS X1 hx hZ e1 (j := (0 : Int32)) ⟨by decide, by show (0 : Int) < _; omega⟩ (g := (mkF m 5 #[.val (.ref v), .val (.int (0 : Int32))] [(.int (0 : Int32)), (.ref t)])) rfl rfl (hb hby d14_5)) ?_
  show oGl p e below (T1.setTop (mkF m 6 #[.val (.ref v), .val (.int (0 : Int32))] [(.int (f 0))])) _
  refine oRetI X1 hx Bd.notSynchronized Bd.returns (hb hby d14_6) (by decide) (by decide) ?_
  show Q_rm_baseline Z v t Nn f h0 n0 _ T1.heap _
  rw [e1]
  exact ⟨rfl, N0, rfl⟩
theorem own_byte (s : Int32) : (nar .byte ((s &&& (255 : Int32)).toInt8.toInt32)) &&& (255 : Int32) = s &&& (255 : Int32) := by
  have t : ∀ k : Fin 256, (nar .byte ((Int32.ofNat k.val).toInt8.toInt32)) &&& (255 : Int32) = Int32.ofNat k.val := by decide +kernel
  have h : (s &&& 255).toBitVec.toNat < 256 := by
    simp only [Int32.toBitVec_and, BitVec.toNat_and]
    exact Nat.lt_succ_of_le Nat.and_le_right
  have e : (s &&& 255) = Int32.ofNat (s &&& 255).toBitVec.toNat := by
    apply Int32.toBitVec_inj.mp
    show _ = BitVec.ofNat 32 _
    rw [BitVec.ofNat_toNat]; simp
  rw [e]
  exact t ⟨_, h⟩
theorem own_four (a : Int32) : (a &&& (3 : Int32)) = (0 : Int32) ∨ (a &&& (3 : Int32)) = (1 : Int32) ∨ (a &&& (3 : Int32)) = (2 : Int32) ∨ (a &&& (3 : Int32)) = (3 : Int32) := by
  have h := c_and a 3 (by decide)
  have e : (3 : Int32).toInt = 3 := by decide
  have h2 : (a &&& (3 : Int32)).toInt = 0 ∨ (a &&& (3 : Int32)).toInt = 1 ∨ (a &&& (3 : Int32)).toInt = 2 ∨ (a &&& (3 : Int32)).toInt = 3 := by omega
  rcases h2 with q | q | q | q
  · exact Or.inl (Int32.toInt_inj.mp q)
  · exact Or.inr (Or.inl (Int32.toInt_inj.mp q))
  · exact Or.inr (Or.inr (Or.inl (Int32.toInt_inj.mp q)))
  · exact Or.inr (Or.inr (Or.inr (Int32.toInt_inj.mp q)))
theorem pd_4 : parseMethodDescriptor "(I)V" = some ⟨[.int], none⟩ := by decide +kernel
theorem pd_5 : parseMethodDescriptor "([BIII)I" = some ⟨[(.array .byte), .int, .int, .int], some .int⟩ := by decide +kernel
theorem pd_6 : parseMethodDescriptor "()I" = some ⟨[], some .int⟩ := by decide +kernel
theorem pn_FseTableSinglePinLaw : plainName "com/example/moraine/moraine/compression/FseTableSinglePinLaw" = true := by first | (simp [plainName, overriddenIn]; done) | decide +kernel
theorem ef_rmL (m : MethodId) (x0 : Int32) (x1 : Int32)  : entryFrame m #[(.int x0), (.int x1)] maxLocals = mkF m 0 #[.val (.int x0), .val (.int x1), .unset, .unset, .unset, .unset] [] := by first | (simp [entryFrame, mkF, argsToLocals, Value.category, maxLocals]; done) | rfl
def Q_rmL (Z : State) (i0 i1 : Int32) (h0 : Heap) (n0 : Nat) (vv : Option Value) (h : Heap) (L : List Loc) : Prop := vv = some (.int 1) ∧ Fr n0 L
set_option maxRecDepth 65536 in
set_option maxHeartbeats 40000000 in
theorem rmL (l : Launch) (Z : State) (a0 : Array Value) (hw : ∀ d ∈ tables_1, d.before a0 Z = true) (ws : List Jvm.Cond) (i0 i1 : Int32) (h0 : Heap) (n0 : Nat) (Z0 : n0 ≤ h0.size) (O0 : Old Z n0 h0) :
    MetFree l x (head1 (Jvm.Cond.code x code maxLocals ret :: ws) room_1) (fun aA uU => aA = #[(.int i0), (.int i1)] ∧ Z.Warmed39 uU.vm ∧ uU.heap = h0) (fun _ _ _ _ _ => True) (fun _ uU oO uU' => ∃ vV lL, oO = .returned vV ∧ Q_rmL Z i0 i1 h0 n0 vV uU'.heap lL ∧ FrameEnd uU oO uU' lL 24 1664) := by
  refine MetFree.of_bodySF (plainFor_of_name pn_FseTableSinglePinLaw) hisR ?_
  intro p e s m args below meth c s₁ Bd hml0 hP hK
  obtain ⟨rfl, hZ, hh⟩ := hP
  have hx := Bd.exec
  have hby := Bd.bytes
  have hml : c.maxLocals = 6 := hml0
  have hown : s.vm.findClass "com/example/moraine/moraine/compression/FseTableSinglePinLaw" = some m.cls := findClass_of_methodNamed Bd.named
  have hnm := (name_of_methodNamed Bd.named Bd.method).1
  have X0 : Stand p l e room_1 s m #[(.int i0), (.int i1)] below meth c s₁ [] 0 0 := Stand.of_body Bd
  have e0 : s₁.heap = h0 := by rw [← hh, Bd.state]; rfl
  have N0 := Fr.nil n0
  refine oEnter (oCast (ef_rmL m i0 i1 ) ?_)
  show oGl p e below (s₁.setTop (mkF m 0 #[.val (.int i0), .val (.int i1), .unset, .unset, .unset, .unset] [])) _
  refine siconst X0 hx (hb hby at_0) rfl rfl (z := 5) (pc' := 1) ?_
  refine siloadN X0 hx (hb hby at_1) rfl rfl (pc' := 2) ?_
  refine siconst X0 hx (hb hby at_2) rfl rfl (z := 3) (pc' := 3) ?_
  refine siand X0 hx (hb hby at_3) rfl rfl (pc' := 4) ?_
  rcases own_four i0 with hq | hq | hq | hq
  · skip
    rw [hq]
    show oGl p e below (s₁.setTop (mkF m 4 #[.val (.int i0), .val (.int i1), .unset, .unset, .unset, .unset] [(.int (0 : Int32)), (.int (5 : Int32))])) _
    refine siadd X0 hx (hb hby at_4) rfl (by decide) (z := (5 : Int32)) (pc' := 5) ?_
    refine sistoreN X0 hx (hb hby at_5) rfl rfl (l' := #[.val (.int i0), .val (.int i1), .val (.int (5 : Int32)), .unset, .unset, .unset]) (pc' := 6) ?_
    refine siloadN X0 hx (hb hby at_6) rfl rfl (pc' := 7) ?_
    refine ssipush X0 hx (hb hby at_7) rfl rfl (z := 255) (pc' := 10) ?_
    refine siand X0 hx (hb hby at_10) rfl rfl (pc' := 11) ?_
    refine sistoreN X0 hx (hb hby at_11) rfl rfl (l' := #[.val (.int i0), .val (.int i1), .val (.int (5 : Int32)), .val (.int (i1 &&& (255 : Int32))), .unset, .unset]) (pc' := 12) ?_
    refine siconst X0 hx (hb hby at_12) rfl rfl (z := 2) (pc' := 13) ?_
    obtain ⟨T1, h1, k1, X1, e1, E1, A1, st1⟩ := newP X0 hx hZ (hw _ (List.mem_of_getElem? (i := 0) rfl)) e0 (g := (mkF m 13 #[.val (.int i0), .val (.int i1), .val (.int (5 : Int32)), .val (.int (i1 &&& (255 : Int32))), .unset, .unset] [(.int (2 : Int32))])) rfl (hb hby at_13) rfl (by decide) (cap := 2) (by decide) (by decide) (by decide) (by decide)
    obtain ⟨a1, g1⟩ : ∃ z, z = h0.size := ⟨_, rfl⟩
    rw [← g1] at A1 st1
    refine oOn st1 ?_
    have z2 : h0.size ≤ h1.size := E1.1
    have lt1 : a1 < h1.size := A1.lt
    have V1 : oAI Z h1 a1 .byte 2 (fun _ => 0) := oAI.new A1 rfl
    show oGl p e below (T1.setTop (mkF m 15 #[.val (.int i0), .val (.int i1), .val (.int (5 : Int32)), .val (.int (i1 &&& (255 : Int32))), .unset, .unset] [(.ref a1)])) _
    refine sastore X1 hx (hb hby at_15) rfl rfl rfl (l' := #[.val (.int i0), .val (.int i1), .val (.int (5 : Int32)), .val (.int (i1 &&& (255 : Int32))), .val (.ref a1), .unset]) (pc' := 17) ?_
    refine saload X1 hx (hb hby at_17) rfl rfl rfl (pc' := 19) ?_
    refine siconst X1 hx (hb hby at_19) rfl rfl (z := 0) (pc' := 20) ?_
    refine sbipush X1 hx (hb hby at_20) rfl rfl (z := 64) (pc' := 22) ?_
    obtain ⟨T3, h3, X3, e3, W3, V3, st3⟩ := V1.stB X1 hx hZ e1 (j := (0 : Int32)) (by decide) (g := (mkF m 22 #[.val (.int i0), .val (.int i1), .val (.int (5 : Int32)), .val (.int (i1 &&& (255 : Int32))), .val (.ref a1), .unset] [(.int (64 : Int32)), (.int (0 : Int32)), (.ref a1)])) rfl rfl (hb hby at_22)
    refine oOn st3 ?_
    have z4 : h1.size ≤ h3.size := Nat.le_of_eq W3.size.symm
    have N3 := Fr.snoc X3 N0 (by omega)
    show oGl p e below (T3.setTop (mkF m 23 #[.val (.int i0), .val (.int i1), .val (.int (5 : Int32)), .val (.int (i1 &&& (255 : Int32))), .val (.ref a1), .unset] [])) _
    refine saload X3 hx (hb hby at_23) rfl rfl rfl (pc' := 25) ?_
    refine siconst X3 hx (hb hby at_25) rfl rfl (z := 1) (pc' := 26) ?_
    refine sbipush X3 hx (hb hby at_26) rfl rfl (z := 62) (pc' := 28) ?_
    obtain ⟨T5, h5, X5, e5, W5, V5, st5⟩ := V3.stB X3 hx hZ e3 (j := (1 : Int32)) (by decide) (g := (mkF m 28 #[.val (.int i0), .val (.int i1), .val (.int (5 : Int32)), .val (.int (i1 &&& (255 : Int32))), .val (.ref a1), .unset] [(.int (62 : Int32)), (.int (1 : Int32)), (.ref a1)])) rfl rfl (hb hby at_28)
    refine oOn st5 ?_
    have z6 : h3.size ≤ h5.size := Nat.le_of_eq W5.size.symm
    have N5 := Fr.snoc X5 N3 (by omega)
    show oGl p e below (T5.setTop (mkF m 29 #[.val (.int i0), .val (.int i1), .val (.int (5 : Int32)), .val (.int (i1 &&& (255 : Int32))), .val (.ref a1), .unset] [])) _
    obtain ⟨T7, h7, X7, e7, E7, A7, D7, -, st7⟩ := newO X5 hx hZ hown (hw _ (List.mem_of_getElem? (i := 1) rfl)) (hw _ (List.mem_of_getElem? (i := 2) rfl)) (hw _ (List.mem_of_getElem? (i := 3) rfl)) e5 (g := (mkF m 29 #[.val (.int i0), .val (.int i1), .val (.int (5 : Int32)), .val (.int (i1 &&& (255 : Int32))), .val (.ref a1), .unset] [])) rfl (hb hby at_29) (by decide) (by decide)
    obtain ⟨a7, g7⟩ : ∃ z, z = h5.size := ⟨_, rfl⟩
    rw [← g7] at A7 D7 st7
    refine oOn st7 ?_
    have z8 : h5.size ≤ h7.size := E7.1
    have lt7 : a7 < h7.size := A7.lt
    have f7_11 : Fld Z h7 a7 "com/example/moraine/moraine/compression/FseTable" "symbols" "[B" .null := D7 (Or.inr (hw _ (List.mem_of_getElem? (i := 11) rfl))) (ty := (.array .byte)) (by decide)
    have f7_13 : Fld Z h7 a7 "com/example/moraine/moraine/compression/FseTable" "bits" "[B" .null := D7 (Or.inr (hw _ (List.mem_of_getElem? (i := 13) rfl))) (ty := (.array .byte)) (by decide)
    have f7_16 : Fld Z h7 a7 "com/example/moraine/moraine/compression/FseTable" "baselines" "[S" .null := D7 (Or.inr (hw _ (List.mem_of_getElem? (i := 16) rfl))) (ty := (.array .short)) (by decide)
    have f7_46 : Fld Z h7 a7 "com/example/moraine/moraine/compression/FseTable" "log" "I" (.int (0 : Int32)) := D7 (Or.inl (hw _ (List.mem_of_getElem? (i := 46) rfl))) (ty := .int) (by decide)
    show oGl p e below (T7.setTop (mkF m 32 #[.val (.int i0), .val (.int i1), .val (.int (5 : Int32)), .val (.int (i1 &&& (255 : Int32))), .val (.ref a1), .unset] [(.ref a7)])) _
    refine sdup X7 hx (hb hby at_32) rfl rfl (pc' := 33) ?_
    refine siloadN X7 hx (hb hby at_33) rfl rfl (pc' := 34) ?_
    have hz9 : n0 ≤ h7.size := by omega
    obtain ⟨_, _, ⟨T9, L9, k9, n9⟩, -, X9, ⟨Lc9, hQ9, l9, y9, z9⟩, st9⟩ := X7.specialBack hx (y := (⟨"com/example/moraine/moraine/compression/FseTable", "<init>", "(I)V"⟩ : MethodName)) rfl hown (mvT hZ (hw _ (List.mem_of_getElem? (i := 4) rfl))) (mvT hZ (hw _ (List.mem_of_getElem? (i := 5) rfl))) (mvT hZ (hw _ (List.mem_of_getElem? (i := 6) rfl))) (by decide) (backOf (W := 1) (rmInit32 l Z a0 hw [] a7 h7 n0 hz9 A7 f7_11 f7_13 f7_16 f7_46 (by omega)) hZ (hw _ (List.mem_of_getElem? (i := 6) rfl)) (hw _ (List.mem_of_getElem? (i := 3) rfl)) (by decide) (by decide)) (g := (mkF m 34 #[.val (.int i0), .val (.int i1), .val (.int (5 : Int32)), .val (.int (i1 &&& (255 : Int32))), .val (.ref a1), .unset] [(.int (5 : Int32)), (.ref a7), (.ref a7)])) rfl (by rw [hml]; rfl) (Steps.refl _) (a := a7) (argsL := [(.int (5 : Int32))]) (rest := [(.ref a7)]) (lenOf pd_4 rfl) rfl (by show 2 * 0 + _ ≤ _; exact Nat.le_of_eq rfl) (hb hby at_34) (fun _ _ => ⟨rfl, e7, (by decide : 2 + 3 ≤ _), (by decide : 6 + 96 ≤ _)⟩)
    dsimp only [Pt.U, Pt.locs, Pt.cells, Pt.slots] at X9 l9 y9 z9 st9 hQ9
    subst l9 y9 z9
    obtain ⟨sa, ba, la, rfl, N9q, K9, Ei9, Fa9, Fb9, Fc9, Fd9, Va9, Vb9, Vc9, zs9, zv9, zb9, zl9⟩ := hQ9
    have N9 := Fr.app N5 N9q
    have z10 : h7.size ≤ T9.heap.size := K9.1
    refine oSt st9 ?_
    have lsa := Va9.lt
    have lba := Vb9.lt
    have lla := Vc9.lt
    have gv : n0 ≤ a7 := by omega
    have gs : n0 ≤ sa := by omega
    have gb : n0 ≤ ba := by omega
    have gl : n0 ≤ la := by omega
    have dd : a7 < sa ∧ sa < ba ∧ ba < la := ⟨zv9, zb9, zl9⟩
    show oGl p e below (T9.setTop (mkF m 37 #[.val (.int i0), .val (.int i1), .val (.int (5 : Int32)), .val (.int (i1 &&& (255 : Int32))), .val (.ref a1), .unset] [(.ref a7)])) _
    refine sastore X9 hx (hb hby at_37) rfl rfl rfl (l' := #[.val (.int i0), .val (.int i1), .val (.int (5 : Int32)), .val (.int (i1 &&& (255 : Int32))), .val (.ref a1), .val (.ref a7)]) (pc' := 39) ?_
    refine saload X9 hx (hb hby at_39) rfl rfl rfl (pc' := 41) ?_
    refine saload X9 hx (hb hby at_41) rfl rfl rfl (pc' := 43) ?_
    refine siconst X9 hx (hb hby at_43) rfl rfl (z := 0) (pc' := 44) ?_
    refine siconst X9 hx (hb hby at_44) rfl rfl (z := 2) (pc' := 45) ?_
    refine siconst X9 hx (hb hby at_45) rfl rfl (z := 1) (pc' := 46) ?_
    have f11 := ((V5.ext E7).keep K9 (ninS (oNe (by omega)) nin0))
    have hz12 : n0 ≤ T9.heap.size := by omega
    obtain ⟨cq12, kq12, q12a, q12b, q12c⟩ := isOf hZ rfl Ei9
    obtain ⟨_, _, ⟨T12, L12, k12, n12⟩, -, X12, ⟨Lc12, hQ12, l12, y12, z12⟩, st12⟩ := X9.virtualBack hx (y := (⟨"com/example/moraine/moraine/compression/FseTable", "read", "([BIII)I"⟩ : MethodName)) (z := (⟨"com/example/moraine/moraine/compression/FseTable", "read", "([BIII)I"⟩ : MethodName)) hown (mvT hZ (hw _ (List.mem_of_getElem? (i := 17) rfl))) (mvT hZ (hw _ (List.mem_of_getElem? (i := 18) rfl))) (notFace_of_selects (args := #[]) (mvT hZ (hw _ (List.mem_of_getElem? (i := 20) rfl)))) (mvT hZ (hw _ (List.mem_of_getElem? (i := 20) rfl))) (mvT hZ (hw _ (List.mem_of_getElem? (i := 19) rfl))) (by decide) (backOf (W := 0) (rmRead32 l Z a0 hw [] a7 sa ba la a1 0 (fun _ => 0) (fun _ => 0) T9.heap n0 hz12 Ei9 Fa9 Fb9 Fc9 Fd9 Va9 Vb9 Vc9 gv gs gb gl dd f11 (by omega)) hZ (hw _ (List.mem_of_getElem? (i := 21) rfl)) (hw _ (List.mem_of_getElem? (i := 3) rfl)) (by decide) (by decide)) q12a q12c (g := (mkF m 46 #[.val (.int i0), .val (.int i1), .val (.int (5 : Int32)), .val (.int (i1 &&& (255 : Int32))), .val (.ref a1), .val (.ref a7)] [(.int (1 : Int32)), (.int (2 : Int32)), (.int (0 : Int32)), (.ref a1), (.ref a7)])) rfl (by rw [hml]; rfl) (Steps.refl _) (argsL := [(.ref a1), (.int (0 : Int32)), (.int (2 : Int32)), (.int (1 : Int32))]) (rest := []) (lenOf pd_5 rfl) rfl (by show 2 * 0 + _ ≤ _; exact Nat.le_of_eq rfl) (hb hby at_46) (fun _ _ => ⟨rfl, rfl, (by decide : 5 + 2 ≤ _), (by decide : 102 + 4 ≤ _)⟩)
    dsimp only [Pt.U, Pt.locs, Pt.cells, Pt.slots] at X12 l12 y12 z12 st12 hQ12
    subst l12 y12 z12
    obtain ⟨r12, fs12, fb12, fl12, rfl, N12q, K12, Ei12, Fa12, Fb12, Fc12, Fd12, Va12, Vb12, Vc12⟩ := hQ12
    have N12 := Fr.app N9 N12q
    have z13 : T9.heap.size ≤ T12.heap.size := K12.1
    refine oSt st12 ?_
    show oGl p e below (T12.setTop (mkF m 49 #[.val (.int i0), .val (.int i1), .val (.int (5 : Int32)), .val (.int (i1 &&& (255 : Int32))), .val (.ref a1), .val (.ref a7)] [(.int r12)])) _
    refine spop X12 hx (hb hby at_49) rfl rfl (pc' := 50) ?_
    refine saload X12 hx (hb hby at_50) rfl rfl rfl (pc' := 52) ?_
    refine siloadN X12 hx (hb hby at_52) rfl rfl (pc' := 53) ?_
    have hz14 : n0 ≤ T12.heap.size := by omega
    obtain ⟨cq14, kq14, q14a, q14b, q14c⟩ := isOf hZ rfl Ei12
    obtain ⟨_, _, ⟨T14, L14, k14, n14⟩, -, X14, ⟨Lc14, hQ14, l14, y14, z14⟩, st14⟩ := X12.virtualBack hx (y := (⟨"com/example/moraine/moraine/compression/FseTable", "single", "(I)V"⟩ : MethodName)) (z := (⟨"com/example/moraine/moraine/compression/FseTable", "single", "(I)V"⟩ : MethodName)) hown (mvT hZ (hw _ (List.mem_of_getElem? (i := 47) rfl))) (mvT hZ (hw _ (List.mem_of_getElem? (i := 48) rfl))) (notFace_of_selects (args := #[]) (mvT hZ (hw _ (List.mem_of_getElem? (i := 50) rfl)))) (mvT hZ (hw _ (List.mem_of_getElem? (i := 50) rfl))) (mvT hZ (hw _ (List.mem_of_getElem? (i := 49) rfl))) (by decide) (backOf (W := 0) (rmSingle l Z a0 hw [] a7 sa ba la 32 5 (i1 &&& (255 : Int32)) fs12 fb12 fl12 T12.heap n0 hz14 Ei12 Fa12 Fb12 Fc12 Fd12 Va12 Vb12 Vc12 gv gs gb gl dd (by decide)) hZ (hw _ (List.mem_of_getElem? (i := 51) rfl)) (hw _ (List.mem_of_getElem? (i := 3) rfl)) (by decide) (by decide)) q14a q14c (g := (mkF m 53 #[.val (.int i0), .val (.int i1), .val (.int (5 : Int32)), .val (.int (i1 &&& (255 : Int32))), .val (.ref a1), .val (.ref a7)] [(.int (i1 &&& (255 : Int32))), (.ref a7)])) rfl (by rw [hml]; rfl) (Steps.refl _) (argsL := [(.int (i1 &&& (255 : Int32)))]) (rest := []) (lenOf pd_4 rfl) rfl (by show 2 * 0 + _ ≤ _; exact Nat.le_of_eq rfl) (hb hby at_53) (fun _ _ => ⟨rfl, rfl, (by decide : 7 + 0 ≤ _), (by decide : 106 + 0 ≤ _)⟩)
    dsimp only [Pt.U, Pt.locs, Pt.cells, Pt.slots] at X14 l14 y14 z14 st14 hQ14
    subst l14 y14 z14
    obtain ⟨rfl, N14q, K14, Ei14, Fa14, Fb14, Fc14, Fd14, Va14, Vb14, Vc14⟩ := hQ14
    have N14 := Fr.app N12 N14q
    have z15 : T12.heap.size ≤ T14.heap.size := K14.1
    refine oSt st14 ?_
    show oGl p e below (T14.setTop (mkF m 56 #[.val (.int i0), .val (.int i1), .val (.int (5 : Int32)), .val (.int (i1 &&& (255 : Int32))), .val (.ref a1), .val (.ref a7)] [])) _
    refine saload X14 hx (hb hby at_56) rfl rfl rfl (pc' := 58) ?_
    have hz16 : n0 ≤ T14.heap.size := by omega
    obtain ⟨cq16, kq16, q16a, q16b, q16c⟩ := isOf hZ rfl Ei14
    obtain ⟨_, _, ⟨T16, L16, k16, n16⟩, -, X16, ⟨Lc16, hQ16, l16, y16, z16⟩, st16⟩ := X14.virtualBack hx (y := (⟨"com/example/moraine/moraine/compression/FseTable", "log", "()I"⟩ : MethodName)) (z := (⟨"com/example/moraine/moraine/compression/FseTable", "log", "()I"⟩ : MethodName)) hown (mvT hZ (hw _ (List.mem_of_getElem? (i := 52) rfl))) (mvT hZ (hw _ (List.mem_of_getElem? (i := 53) rfl))) (notFace_of_selects (args := #[]) (mvT hZ (hw _ (List.mem_of_getElem? (i := 55) rfl)))) (mvT hZ (hw _ (List.mem_of_getElem? (i := 55) rfl))) (mvT hZ (hw _ (List.mem_of_getElem? (i := 54) rfl))) (by decide) (backOf (W := 0) (rmLog l Z a0 hw [] a7 (0 : Int32) T14.heap n0 hz16 Fd14) hZ (hw _ (List.mem_of_getElem? (i := 56) rfl)) (hw _ (List.mem_of_getElem? (i := 3) rfl)) (by decide) (by decide)) q16a q16c (g := (mkF m 58 #[.val (.int i0), .val (.int i1), .val (.int (5 : Int32)), .val (.int (i1 &&& (255 : Int32))), .val (.ref a1), .val (.ref a7)] [(.ref a7)])) rfl (by rw [hml]; rfl) (Steps.refl _) (argsL := []) (rest := []) (lenOf pd_6 rfl) rfl (by show 2 * 0 + _ ≤ _; exact Nat.le_of_eq rfl) (hb hby at_58) (fun _ _ => ⟨rfl, rfl, (by decide : 7 + 0 ≤ _), (by decide : 106 + 0 ≤ _)⟩)
    dsimp only [Pt.U, Pt.locs, Pt.cells, Pt.slots] at X16 l16 y16 z16 st16 hQ16
    subst l16 y16 z16
    obtain ⟨rfl, N16q, eh16⟩ := hQ16
    have N16 := Fr.app N14 N16q
    refine oSt st16 ?_
    show oGl p e below (T16.setTop (mkF m 61 #[.val (.int i0), .val (.int i1), .val (.int (5 : Int32)), .val (.int (i1 &&& (255 : Int32))), .val (.ref a1), .val (.ref a7)] [(.int (0 : Int32))])) _
    refine sifN X16 hx (hb hby at_61) rfl (teq (by decide : (0 : Int32) = (0 : Int32))).2 (pc' := 64) ?_
    refine saload X16 hx (hb hby at_64) rfl rfl rfl (pc' := 66) ?_
    refine siconst X16 hx (hb hby at_66) rfl rfl (z := 0) (pc' := 67) ?_
    have hz17 : n0 ≤ T14.heap.size := by omega
    obtain ⟨cq17, kq17, q17a, q17b, q17c⟩ := isOf hZ eh16 Ei14
    obtain ⟨_, _, ⟨T17, L17, k17, n17⟩, -, X17, ⟨Lc17, hQ17, l17, y17, z17⟩, st17⟩ := X16.virtualBack hx (y := (⟨"com/example/moraine/moraine/compression/FseTable", "symbol", "(I)I"⟩ : MethodName)) (z := (⟨"com/example/moraine/moraine/compression/FseTable", "symbol", "(I)I"⟩ : MethodName)) hown (mvT hZ (hw _ (List.mem_of_getElem? (i := 57) rfl))) (mvT hZ (hw _ (List.mem_of_getElem? (i := 58) rfl))) (notFace_of_selects (args := #[]) (mvT hZ (hw _ (List.mem_of_getElem? (i := 60) rfl)))) (mvT hZ (hw _ (List.mem_of_getElem? (i := 60) rfl))) (mvT hZ (hw _ (List.mem_of_getElem? (i := 59) rfl))) (by decide) (backOf (W := 0) (rm_symbol l Z a0 hw [] a7 sa 32 (oUp fs12 0 (nar .byte ((i1 &&& (255 : Int32)).toInt8.toInt32))) T14.heap n0 hz17 Fa14 Va14 (by decide)) hZ (hw _ (List.mem_of_getElem? (i := 61) rfl)) (hw _ (List.mem_of_getElem? (i := 3) rfl)) (by decide) (by decide)) q17a q17c (g := (mkF m 67 #[.val (.int i0), .val (.int i1), .val (.int (5 : Int32)), .val (.int (i1 &&& (255 : Int32))), .val (.ref a1), .val (.ref a7)] [(.int (0 : Int32)), (.ref a7)])) rfl (by rw [hml]; rfl) (Steps.refl _) (argsL := [(.int (0 : Int32))]) (rest := []) (lenOf pd_0 rfl) rfl (by show 2 * 0 + _ ≤ _; exact Nat.le_of_eq rfl) (hb hby at_67) (fun _ _ => ⟨rfl, eh16, (by decide : 7 + 0 ≤ _), (by decide : 106 + 0 ≤ _)⟩)
    dsimp only [Pt.U, Pt.locs, Pt.cells, Pt.slots] at X17 l17 y17 z17 st17 hQ17
    subst l17 y17 z17
    obtain ⟨rfl, N17q, eh17⟩ := hQ17
    have N17 := Fr.app N16 N17q
    refine oSt st17 ?_
    show oGl p e below (T17.setTop (mkF m 70 #[.val (.int i0), .val (.int i1), .val (.int (5 : Int32)), .val (.int (i1 &&& (255 : Int32))), .val (.ref a1), .val (.ref a7)] [(.int (((oUp fs12 0 (nar .byte ((i1 &&& (255 : Int32)).toInt8.toInt32))) 0) &&& (255 : Int32)))])) _
    refine siloadN X17 hx (hb hby at_70) rfl rfl (pc' := 71) ?_
    refine sicN X17 hx (hb hby at_71) rfl (teq (own_byte i1 : (((oUp fs12 0 (nar .byte ((i1 &&& (255 : Int32)).toInt8.toInt32))) 0) &&& (255 : Int32)) = (i1 &&& (255 : Int32)))).2 (pc' := 74) ?_
    refine saload X17 hx (hb hby at_74) rfl rfl rfl (pc' := 76) ?_
    refine siconst X17 hx (hb hby at_76) rfl rfl (z := 0) (pc' := 77) ?_
    have hz18 : n0 ≤ T14.heap.size := by omega
    obtain ⟨cq18, kq18, q18a, q18b, q18c⟩ := isOf hZ eh17 Ei14
    obtain ⟨_, _, ⟨T18, L18, k18, n18⟩, -, X18, ⟨Lc18, hQ18, l18, y18, z18⟩, st18⟩ := X17.virtualBack hx (y := (⟨"com/example/moraine/moraine/compression/FseTable", "bits", "(I)I"⟩ : MethodName)) (z := (⟨"com/example/moraine/moraine/compression/FseTable", "bits", "(I)I"⟩ : MethodName)) hown (mvT hZ (hw _ (List.mem_of_getElem? (i := 62) rfl))) (mvT hZ (hw _ (List.mem_of_getElem? (i := 63) rfl))) (notFace_of_selects (args := #[]) (mvT hZ (hw _ (List.mem_of_getElem? (i := 65) rfl)))) (mvT hZ (hw _ (List.mem_of_getElem? (i := 65) rfl))) (mvT hZ (hw _ (List.mem_of_getElem? (i := 64) rfl))) (by decide) (backOf (W := 0) (rm_bits l Z a0 hw [] a7 ba 32 (oUp fb12 0 0) T14.heap n0 hz18 Fb14 Vb14 (by decide)) hZ (hw _ (List.mem_of_getElem? (i := 66) rfl)) (hw _ (List.mem_of_getElem? (i := 3) rfl)) (by decide) (by decide)) q18a q18c (g := (mkF m 77 #[.val (.int i0), .val (.int i1), .val (.int (5 : Int32)), .val (.int (i1 &&& (255 : Int32))), .val (.ref a1), .val (.ref a7)] [(.int (0 : Int32)), (.ref a7)])) rfl (by rw [hml]; rfl) (Steps.refl _) (argsL := [(.int (0 : Int32))]) (rest := []) (lenOf pd_0 rfl) rfl (by show 2 * 0 + _ ≤ _; exact Nat.le_of_eq rfl) (hb hby at_77) (fun _ _ => ⟨rfl, eh17, (by decide : 7 + 0 ≤ _), (by decide : 106 + 0 ≤ _)⟩)
    dsimp only [Pt.U, Pt.locs, Pt.cells, Pt.slots] at X18 l18 y18 z18 st18 hQ18
    subst l18 y18 z18
    obtain ⟨rfl, N18q, eh18⟩ := hQ18
    have N18 := Fr.app N17 N18q
    refine oSt st18 ?_
    show oGl p e below (T18.setTop (mkF m 80 #[.val (.int i0), .val (.int i1), .val (.int (5 : Int32)), .val (.int (i1 &&& (255 : Int32))), .val (.ref a1), .val (.ref a7)] [(.int (0 : Int32))])) _
    refine sifN X18 hx (hb hby at_80) rfl (teq (by decide : (0 : Int32) = (0 : Int32))).2 (pc' := 83) ?_
    refine saload X18 hx (hb hby at_83) rfl rfl rfl (pc' := 85) ?_
    refine siconst X18 hx (hb hby at_85) rfl rfl (z := 0) (pc' := 86) ?_
    have hz19 : n0 ≤ T14.heap.size := by omega
    obtain ⟨cq19, kq19, q19a, q19b, q19c⟩ := isOf hZ eh18 Ei14
    obtain ⟨_, _, ⟨T19, L19, k19, n19⟩, -, X19, ⟨Lc19, hQ19, l19, y19, z19⟩, st19⟩ := X18.virtualBack hx (y := (⟨"com/example/moraine/moraine/compression/FseTable", "baseline", "(I)I"⟩ : MethodName)) (z := (⟨"com/example/moraine/moraine/compression/FseTable", "baseline", "(I)I"⟩ : MethodName)) hown (mvT hZ (hw _ (List.mem_of_getElem? (i := 67) rfl))) (mvT hZ (hw _ (List.mem_of_getElem? (i := 68) rfl))) (notFace_of_selects (args := #[]) (mvT hZ (hw _ (List.mem_of_getElem? (i := 70) rfl)))) (mvT hZ (hw _ (List.mem_of_getElem? (i := 70) rfl))) (mvT hZ (hw _ (List.mem_of_getElem? (i := 69) rfl))) (by decide) (backOf (W := 0) (rm_baseline l Z a0 hw [] a7 la 32 (oUp fl12 0 0) T14.heap n0 hz19 Fc14 Vc14 (by decide)) hZ (hw _ (List.mem_of_getElem? (i := 71) rfl)) (hw _ (List.mem_of_getElem? (i := 3) rfl)) (by decide) (by decide)) q19a q19c (g := (mkF m 86 #[.val (.int i0), .val (.int i1), .val (.int (5 : Int32)), .val (.int (i1 &&& (255 : Int32))), .val (.ref a1), .val (.ref a7)] [(.int (0 : Int32)), (.ref a7)])) rfl (by rw [hml]; rfl) (Steps.refl _) (argsL := [(.int (0 : Int32))]) (rest := []) (lenOf pd_0 rfl) rfl (by show 2 * 0 + _ ≤ _; exact Nat.le_of_eq rfl) (hb hby at_86) (fun _ _ => ⟨rfl, eh18, (by decide : 7 + 0 ≤ _), (by decide : 106 + 0 ≤ _)⟩)
    dsimp only [Pt.U, Pt.locs, Pt.cells, Pt.slots] at X19 l19 y19 z19 st19 hQ19
    subst l19 y19 z19
    obtain ⟨rfl, N19q, eh19⟩ := hQ19
    have N19 := Fr.app N18 N19q
    refine oSt st19 ?_
    show oGl p e below (T19.setTop (mkF m 89 #[.val (.int i0), .val (.int i1), .val (.int (5 : Int32)), .val (.int (i1 &&& (255 : Int32))), .val (.ref a1), .val (.ref a7)] [(.int (0 : Int32))])) _
    refine sifN X19 hx (hb hby at_89) rfl (teq (by decide : (0 : Int32) = (0 : Int32))).2 (pc' := 92) ?_
    refine siconst X19 hx (hb hby at_92) rfl rfl (z := 1) (pc' := 93) ?_
    refine sgoto X19 hx (hb hby at_93) (by decide) (by decide)  (pc' := 97) ?_
    refine oRetN (t := .boolean) X19 hx Bd.notSynchronized Bd.returns (by simp) (hb hby at_97) (by decide) (by decide) ?_
    show Q_rmL Z i0 i1 h0 n0 _ T19.heap _
    rw [eh19]
    exact ⟨rfl, N19⟩
  · skip
    rw [hq]
    show oGl p e below (s₁.setTop (mkF m 4 #[.val (.int i0), .val (.int i1), .unset, .unset, .unset, .unset] [(.int (1 : Int32)), (.int (5 : Int32))])) _
    refine siadd X0 hx (hb hby at_4) rfl (by decide) (z := (6 : Int32)) (pc' := 5) ?_
    refine sistoreN X0 hx (hb hby at_5) rfl rfl (l' := #[.val (.int i0), .val (.int i1), .val (.int (6 : Int32)), .unset, .unset, .unset]) (pc' := 6) ?_
    refine siloadN X0 hx (hb hby at_6) rfl rfl (pc' := 7) ?_
    refine ssipush X0 hx (hb hby at_7) rfl rfl (z := 255) (pc' := 10) ?_
    refine siand X0 hx (hb hby at_10) rfl rfl (pc' := 11) ?_
    refine sistoreN X0 hx (hb hby at_11) rfl rfl (l' := #[.val (.int i0), .val (.int i1), .val (.int (6 : Int32)), .val (.int (i1 &&& (255 : Int32))), .unset, .unset]) (pc' := 12) ?_
    refine siconst X0 hx (hb hby at_12) rfl rfl (z := 2) (pc' := 13) ?_
    obtain ⟨T20, h20, k20, X20, e20, E20, A20, st20⟩ := newP X0 hx hZ (hw _ (List.mem_of_getElem? (i := 0) rfl)) e0 (g := (mkF m 13 #[.val (.int i0), .val (.int i1), .val (.int (6 : Int32)), .val (.int (i1 &&& (255 : Int32))), .unset, .unset] [(.int (2 : Int32))])) rfl (hb hby at_13) rfl (by decide) (cap := 2) (by decide) (by decide) (by decide) (by decide)
    obtain ⟨a20, g20⟩ : ∃ z, z = h0.size := ⟨_, rfl⟩
    rw [← g20] at A20 st20
    refine oOn st20 ?_
    have z21 : h0.size ≤ h20.size := E20.1
    have lt20 : a20 < h20.size := A20.lt
    have V20 : oAI Z h20 a20 .byte 2 (fun _ => 0) := oAI.new A20 rfl
    show oGl p e below (T20.setTop (mkF m 15 #[.val (.int i0), .val (.int i1), .val (.int (6 : Int32)), .val (.int (i1 &&& (255 : Int32))), .unset, .unset] [(.ref a20)])) _
    refine sastore X20 hx (hb hby at_15) rfl rfl rfl (l' := #[.val (.int i0), .val (.int i1), .val (.int (6 : Int32)), .val (.int (i1 &&& (255 : Int32))), .val (.ref a20), .unset]) (pc' := 17) ?_
    refine saload X20 hx (hb hby at_17) rfl rfl rfl (pc' := 19) ?_
    refine siconst X20 hx (hb hby at_19) rfl rfl (z := 0) (pc' := 20) ?_
    refine sbipush X20 hx (hb hby at_20) rfl rfl (z := 64) (pc' := 22) ?_
    obtain ⟨T22, h22, X22, e22, W22, V22, st22⟩ := V20.stB X20 hx hZ e20 (j := (0 : Int32)) (by decide) (g := (mkF m 22 #[.val (.int i0), .val (.int i1), .val (.int (6 : Int32)), .val (.int (i1 &&& (255 : Int32))), .val (.ref a20), .unset] [(.int (64 : Int32)), (.int (0 : Int32)), (.ref a20)])) rfl rfl (hb hby at_22)
    refine oOn st22 ?_
    have z23 : h20.size ≤ h22.size := Nat.le_of_eq W22.size.symm
    have N22 := Fr.snoc X22 N0 (by omega)
    show oGl p e below (T22.setTop (mkF m 23 #[.val (.int i0), .val (.int i1), .val (.int (6 : Int32)), .val (.int (i1 &&& (255 : Int32))), .val (.ref a20), .unset] [])) _
    refine saload X22 hx (hb hby at_23) rfl rfl rfl (pc' := 25) ?_
    refine siconst X22 hx (hb hby at_25) rfl rfl (z := 1) (pc' := 26) ?_
    refine sbipush X22 hx (hb hby at_26) rfl rfl (z := 62) (pc' := 28) ?_
    obtain ⟨T24, h24, X24, e24, W24, V24, st24⟩ := V22.stB X22 hx hZ e22 (j := (1 : Int32)) (by decide) (g := (mkF m 28 #[.val (.int i0), .val (.int i1), .val (.int (6 : Int32)), .val (.int (i1 &&& (255 : Int32))), .val (.ref a20), .unset] [(.int (62 : Int32)), (.int (1 : Int32)), (.ref a20)])) rfl rfl (hb hby at_28)
    refine oOn st24 ?_
    have z25 : h22.size ≤ h24.size := Nat.le_of_eq W24.size.symm
    have N24 := Fr.snoc X24 N22 (by omega)
    show oGl p e below (T24.setTop (mkF m 29 #[.val (.int i0), .val (.int i1), .val (.int (6 : Int32)), .val (.int (i1 &&& (255 : Int32))), .val (.ref a20), .unset] [])) _
    obtain ⟨T26, h26, X26, e26, E26, A26, D26, -, st26⟩ := newO X24 hx hZ hown (hw _ (List.mem_of_getElem? (i := 1) rfl)) (hw _ (List.mem_of_getElem? (i := 2) rfl)) (hw _ (List.mem_of_getElem? (i := 3) rfl)) e24 (g := (mkF m 29 #[.val (.int i0), .val (.int i1), .val (.int (6 : Int32)), .val (.int (i1 &&& (255 : Int32))), .val (.ref a20), .unset] [])) rfl (hb hby at_29) (by decide) (by decide)
    obtain ⟨a26, g26⟩ : ∃ z, z = h24.size := ⟨_, rfl⟩
    rw [← g26] at A26 D26 st26
    refine oOn st26 ?_
    have z27 : h24.size ≤ h26.size := E26.1
    have lt26 : a26 < h26.size := A26.lt
    have f26_11 : Fld Z h26 a26 "com/example/moraine/moraine/compression/FseTable" "symbols" "[B" .null := D26 (Or.inr (hw _ (List.mem_of_getElem? (i := 11) rfl))) (ty := (.array .byte)) (by decide)
    have f26_13 : Fld Z h26 a26 "com/example/moraine/moraine/compression/FseTable" "bits" "[B" .null := D26 (Or.inr (hw _ (List.mem_of_getElem? (i := 13) rfl))) (ty := (.array .byte)) (by decide)
    have f26_16 : Fld Z h26 a26 "com/example/moraine/moraine/compression/FseTable" "baselines" "[S" .null := D26 (Or.inr (hw _ (List.mem_of_getElem? (i := 16) rfl))) (ty := (.array .short)) (by decide)
    have f26_46 : Fld Z h26 a26 "com/example/moraine/moraine/compression/FseTable" "log" "I" (.int (0 : Int32)) := D26 (Or.inl (hw _ (List.mem_of_getElem? (i := 46) rfl))) (ty := .int) (by decide)
    show oGl p e below (T26.setTop (mkF m 32 #[.val (.int i0), .val (.int i1), .val (.int (6 : Int32)), .val (.int (i1 &&& (255 : Int32))), .val (.ref a20), .unset] [(.ref a26)])) _
    refine sdup X26 hx (hb hby at_32) rfl rfl (pc' := 33) ?_
    refine siloadN X26 hx (hb hby at_33) rfl rfl (pc' := 34) ?_
    have hz28 : n0 ≤ h26.size := by omega
    obtain ⟨_, _, ⟨T28, L28, k28, n28⟩, -, X28, ⟨Lc28, hQ28, l28, y28, z28⟩, st28⟩ := X26.specialBack hx (y := (⟨"com/example/moraine/moraine/compression/FseTable", "<init>", "(I)V"⟩ : MethodName)) rfl hown (mvT hZ (hw _ (List.mem_of_getElem? (i := 4) rfl))) (mvT hZ (hw _ (List.mem_of_getElem? (i := 5) rfl))) (mvT hZ (hw _ (List.mem_of_getElem? (i := 6) rfl))) (by decide) (backOf (W := 1) (rmInit64 l Z a0 hw [] a26 h26 n0 hz28 A26 f26_11 f26_13 f26_16 f26_46 (by omega)) hZ (hw _ (List.mem_of_getElem? (i := 6) rfl)) (hw _ (List.mem_of_getElem? (i := 3) rfl)) (by decide) (by decide)) (g := (mkF m 34 #[.val (.int i0), .val (.int i1), .val (.int (6 : Int32)), .val (.int (i1 &&& (255 : Int32))), .val (.ref a20), .unset] [(.int (6 : Int32)), (.ref a26), (.ref a26)])) rfl (by rw [hml]; rfl) (Steps.refl _) (a := a26) (argsL := [(.int (6 : Int32))]) (rest := [(.ref a26)]) (lenOf pd_4 rfl) rfl (by show 2 * 0 + _ ≤ _; exact Nat.le_of_eq rfl) (hb hby at_34) (fun _ _ => ⟨rfl, e26, (by decide : 2 + 3 ≤ _), (by decide : 6 + 192 ≤ _)⟩)
    dsimp only [Pt.U, Pt.locs, Pt.cells, Pt.slots] at X28 l28 y28 z28 st28 hQ28
    subst l28 y28 z28
    obtain ⟨sa, ba, la, rfl, N28q, K28, Ei28, Fa28, Fb28, Fc28, Fd28, Va28, Vb28, Vc28, zs28, zv28, zb28, zl28⟩ := hQ28
    have N28 := Fr.app N24 N28q
    have z29 : h26.size ≤ T28.heap.size := K28.1
    refine oSt st28 ?_
    have lsa := Va28.lt
    have lba := Vb28.lt
    have lla := Vc28.lt
    have gv : n0 ≤ a26 := by omega
    have gs : n0 ≤ sa := by omega
    have gb : n0 ≤ ba := by omega
    have gl : n0 ≤ la := by omega
    have dd : a26 < sa ∧ sa < ba ∧ ba < la := ⟨zv28, zb28, zl28⟩
    show oGl p e below (T28.setTop (mkF m 37 #[.val (.int i0), .val (.int i1), .val (.int (6 : Int32)), .val (.int (i1 &&& (255 : Int32))), .val (.ref a20), .unset] [(.ref a26)])) _
    refine sastore X28 hx (hb hby at_37) rfl rfl rfl (l' := #[.val (.int i0), .val (.int i1), .val (.int (6 : Int32)), .val (.int (i1 &&& (255 : Int32))), .val (.ref a20), .val (.ref a26)]) (pc' := 39) ?_
    refine saload X28 hx (hb hby at_39) rfl rfl rfl (pc' := 41) ?_
    refine saload X28 hx (hb hby at_41) rfl rfl rfl (pc' := 43) ?_
    refine siconst X28 hx (hb hby at_43) rfl rfl (z := 0) (pc' := 44) ?_
    refine siconst X28 hx (hb hby at_44) rfl rfl (z := 2) (pc' := 45) ?_
    refine siconst X28 hx (hb hby at_45) rfl rfl (z := 1) (pc' := 46) ?_
    have f30 := ((V24.ext E26).keep K28 (ninS (oNe (by omega)) nin0))
    have hz31 : n0 ≤ T28.heap.size := by omega
    obtain ⟨cq31, kq31, q31a, q31b, q31c⟩ := isOf hZ rfl Ei28
    obtain ⟨_, _, ⟨T31, L31, k31, n31⟩, -, X31, ⟨Lc31, hQ31, l31, y31, z31⟩, st31⟩ := X28.virtualBack hx (y := (⟨"com/example/moraine/moraine/compression/FseTable", "read", "([BIII)I"⟩ : MethodName)) (z := (⟨"com/example/moraine/moraine/compression/FseTable", "read", "([BIII)I"⟩ : MethodName)) hown (mvT hZ (hw _ (List.mem_of_getElem? (i := 17) rfl))) (mvT hZ (hw _ (List.mem_of_getElem? (i := 18) rfl))) (notFace_of_selects (args := #[]) (mvT hZ (hw _ (List.mem_of_getElem? (i := 20) rfl)))) (mvT hZ (hw _ (List.mem_of_getElem? (i := 20) rfl))) (mvT hZ (hw _ (List.mem_of_getElem? (i := 19) rfl))) (by decide) (backOf (W := 0) (rmRead64 l Z a0 hw [] a26 sa ba la a20 0 (fun _ => 0) (fun _ => 0) T28.heap n0 hz31 Ei28 Fa28 Fb28 Fc28 Fd28 Va28 Vb28 Vc28 gv gs gb gl dd f30 (by omega)) hZ (hw _ (List.mem_of_getElem? (i := 21) rfl)) (hw _ (List.mem_of_getElem? (i := 3) rfl)) (by decide) (by decide)) q31a q31c (g := (mkF m 46 #[.val (.int i0), .val (.int i1), .val (.int (6 : Int32)), .val (.int (i1 &&& (255 : Int32))), .val (.ref a20), .val (.ref a26)] [(.int (1 : Int32)), (.int (2 : Int32)), (.int (0 : Int32)), (.ref a20), (.ref a26)])) rfl (by rw [hml]; rfl) (Steps.refl _) (argsL := [(.ref a20), (.int (0 : Int32)), (.int (2 : Int32)), (.int (1 : Int32))]) (rest := []) (lenOf pd_5 rfl) rfl (by show 2 * 0 + _ ≤ _; exact Nat.le_of_eq rfl) (hb hby at_46) (fun _ _ => ⟨rfl, rfl, (by decide : 5 + 2 ≤ _), (by decide : 198 + 4 ≤ _)⟩)
    dsimp only [Pt.U, Pt.locs, Pt.cells, Pt.slots] at X31 l31 y31 z31 st31 hQ31
    subst l31 y31 z31
    obtain ⟨r31, fs31, fb31, fl31, rfl, N31q, K31, Ei31, Fa31, Fb31, Fc31, Fd31, Va31, Vb31, Vc31⟩ := hQ31
    have N31 := Fr.app N28 N31q
    have z32 : T28.heap.size ≤ T31.heap.size := K31.1
    refine oSt st31 ?_
    show oGl p e below (T31.setTop (mkF m 49 #[.val (.int i0), .val (.int i1), .val (.int (6 : Int32)), .val (.int (i1 &&& (255 : Int32))), .val (.ref a20), .val (.ref a26)] [(.int r31)])) _
    refine spop X31 hx (hb hby at_49) rfl rfl (pc' := 50) ?_
    refine saload X31 hx (hb hby at_50) rfl rfl rfl (pc' := 52) ?_
    refine siloadN X31 hx (hb hby at_52) rfl rfl (pc' := 53) ?_
    have hz33 : n0 ≤ T31.heap.size := by omega
    obtain ⟨cq33, kq33, q33a, q33b, q33c⟩ := isOf hZ rfl Ei31
    obtain ⟨_, _, ⟨T33, L33, k33, n33⟩, -, X33, ⟨Lc33, hQ33, l33, y33, z33⟩, st33⟩ := X31.virtualBack hx (y := (⟨"com/example/moraine/moraine/compression/FseTable", "single", "(I)V"⟩ : MethodName)) (z := (⟨"com/example/moraine/moraine/compression/FseTable", "single", "(I)V"⟩ : MethodName)) hown (mvT hZ (hw _ (List.mem_of_getElem? (i := 47) rfl))) (mvT hZ (hw _ (List.mem_of_getElem? (i := 48) rfl))) (notFace_of_selects (args := #[]) (mvT hZ (hw _ (List.mem_of_getElem? (i := 50) rfl)))) (mvT hZ (hw _ (List.mem_of_getElem? (i := 50) rfl))) (mvT hZ (hw _ (List.mem_of_getElem? (i := 49) rfl))) (by decide) (backOf (W := 0) (rmSingle l Z a0 hw [] a26 sa ba la 64 5 (i1 &&& (255 : Int32)) fs31 fb31 fl31 T31.heap n0 hz33 Ei31 Fa31 Fb31 Fc31 Fd31 Va31 Vb31 Vc31 gv gs gb gl dd (by decide)) hZ (hw _ (List.mem_of_getElem? (i := 51) rfl)) (hw _ (List.mem_of_getElem? (i := 3) rfl)) (by decide) (by decide)) q33a q33c (g := (mkF m 53 #[.val (.int i0), .val (.int i1), .val (.int (6 : Int32)), .val (.int (i1 &&& (255 : Int32))), .val (.ref a20), .val (.ref a26)] [(.int (i1 &&& (255 : Int32))), (.ref a26)])) rfl (by rw [hml]; rfl) (Steps.refl _) (argsL := [(.int (i1 &&& (255 : Int32)))]) (rest := []) (lenOf pd_4 rfl) rfl (by show 2 * 0 + _ ≤ _; exact Nat.le_of_eq rfl) (hb hby at_53) (fun _ _ => ⟨rfl, rfl, (by decide : 7 + 0 ≤ _), (by decide : 202 + 0 ≤ _)⟩)
    dsimp only [Pt.U, Pt.locs, Pt.cells, Pt.slots] at X33 l33 y33 z33 st33 hQ33
    subst l33 y33 z33
    obtain ⟨rfl, N33q, K33, Ei33, Fa33, Fb33, Fc33, Fd33, Va33, Vb33, Vc33⟩ := hQ33
    have N33 := Fr.app N31 N33q
    have z34 : T31.heap.size ≤ T33.heap.size := K33.1
    refine oSt st33 ?_
    show oGl p e below (T33.setTop (mkF m 56 #[.val (.int i0), .val (.int i1), .val (.int (6 : Int32)), .val (.int (i1 &&& (255 : Int32))), .val (.ref a20), .val (.ref a26)] [])) _
    refine saload X33 hx (hb hby at_56) rfl rfl rfl (pc' := 58) ?_
    have hz35 : n0 ≤ T33.heap.size := by omega
    obtain ⟨cq35, kq35, q35a, q35b, q35c⟩ := isOf hZ rfl Ei33
    obtain ⟨_, _, ⟨T35, L35, k35, n35⟩, -, X35, ⟨Lc35, hQ35, l35, y35, z35⟩, st35⟩ := X33.virtualBack hx (y := (⟨"com/example/moraine/moraine/compression/FseTable", "log", "()I"⟩ : MethodName)) (z := (⟨"com/example/moraine/moraine/compression/FseTable", "log", "()I"⟩ : MethodName)) hown (mvT hZ (hw _ (List.mem_of_getElem? (i := 52) rfl))) (mvT hZ (hw _ (List.mem_of_getElem? (i := 53) rfl))) (notFace_of_selects (args := #[]) (mvT hZ (hw _ (List.mem_of_getElem? (i := 55) rfl)))) (mvT hZ (hw _ (List.mem_of_getElem? (i := 55) rfl))) (mvT hZ (hw _ (List.mem_of_getElem? (i := 54) rfl))) (by decide) (backOf (W := 0) (rmLog l Z a0 hw [] a26 (0 : Int32) T33.heap n0 hz35 Fd33) hZ (hw _ (List.mem_of_getElem? (i := 56) rfl)) (hw _ (List.mem_of_getElem? (i := 3) rfl)) (by decide) (by decide)) q35a q35c (g := (mkF m 58 #[.val (.int i0), .val (.int i1), .val (.int (6 : Int32)), .val (.int (i1 &&& (255 : Int32))), .val (.ref a20), .val (.ref a26)] [(.ref a26)])) rfl (by rw [hml]; rfl) (Steps.refl _) (argsL := []) (rest := []) (lenOf pd_6 rfl) rfl (by show 2 * 0 + _ ≤ _; exact Nat.le_of_eq rfl) (hb hby at_58) (fun _ _ => ⟨rfl, rfl, (by decide : 7 + 0 ≤ _), (by decide : 202 + 0 ≤ _)⟩)
    dsimp only [Pt.U, Pt.locs, Pt.cells, Pt.slots] at X35 l35 y35 z35 st35 hQ35
    subst l35 y35 z35
    obtain ⟨rfl, N35q, eh35⟩ := hQ35
    have N35 := Fr.app N33 N35q
    refine oSt st35 ?_
    show oGl p e below (T35.setTop (mkF m 61 #[.val (.int i0), .val (.int i1), .val (.int (6 : Int32)), .val (.int (i1 &&& (255 : Int32))), .val (.ref a20), .val (.ref a26)] [(.int (0 : Int32))])) _
    refine sifN X35 hx (hb hby at_61) rfl (teq (by decide : (0 : Int32) = (0 : Int32))).2 (pc' := 64) ?_
    refine saload X35 hx (hb hby at_64) rfl rfl rfl (pc' := 66) ?_
    refine siconst X35 hx (hb hby at_66) rfl rfl (z := 0) (pc' := 67) ?_
    have hz36 : n0 ≤ T33.heap.size := by omega
    obtain ⟨cq36, kq36, q36a, q36b, q36c⟩ := isOf hZ eh35 Ei33
    obtain ⟨_, _, ⟨T36, L36, k36, n36⟩, -, X36, ⟨Lc36, hQ36, l36, y36, z36⟩, st36⟩ := X35.virtualBack hx (y := (⟨"com/example/moraine/moraine/compression/FseTable", "symbol", "(I)I"⟩ : MethodName)) (z := (⟨"com/example/moraine/moraine/compression/FseTable", "symbol", "(I)I"⟩ : MethodName)) hown (mvT hZ (hw _ (List.mem_of_getElem? (i := 57) rfl))) (mvT hZ (hw _ (List.mem_of_getElem? (i := 58) rfl))) (notFace_of_selects (args := #[]) (mvT hZ (hw _ (List.mem_of_getElem? (i := 60) rfl)))) (mvT hZ (hw _ (List.mem_of_getElem? (i := 60) rfl))) (mvT hZ (hw _ (List.mem_of_getElem? (i := 59) rfl))) (by decide) (backOf (W := 0) (rm_symbol l Z a0 hw [] a26 sa 64 (oUp fs31 0 (nar .byte ((i1 &&& (255 : Int32)).toInt8.toInt32))) T33.heap n0 hz36 Fa33 Va33 (by decide)) hZ (hw _ (List.mem_of_getElem? (i := 61) rfl)) (hw _ (List.mem_of_getElem? (i := 3) rfl)) (by decide) (by decide)) q36a q36c (g := (mkF m 67 #[.val (.int i0), .val (.int i1), .val (.int (6 : Int32)), .val (.int (i1 &&& (255 : Int32))), .val (.ref a20), .val (.ref a26)] [(.int (0 : Int32)), (.ref a26)])) rfl (by rw [hml]; rfl) (Steps.refl _) (argsL := [(.int (0 : Int32))]) (rest := []) (lenOf pd_0 rfl) rfl (by show 2 * 0 + _ ≤ _; exact Nat.le_of_eq rfl) (hb hby at_67) (fun _ _ => ⟨rfl, eh35, (by decide : 7 + 0 ≤ _), (by decide : 202 + 0 ≤ _)⟩)
    dsimp only [Pt.U, Pt.locs, Pt.cells, Pt.slots] at X36 l36 y36 z36 st36 hQ36
    subst l36 y36 z36
    obtain ⟨rfl, N36q, eh36⟩ := hQ36
    have N36 := Fr.app N35 N36q
    refine oSt st36 ?_
    show oGl p e below (T36.setTop (mkF m 70 #[.val (.int i0), .val (.int i1), .val (.int (6 : Int32)), .val (.int (i1 &&& (255 : Int32))), .val (.ref a20), .val (.ref a26)] [(.int (((oUp fs31 0 (nar .byte ((i1 &&& (255 : Int32)).toInt8.toInt32))) 0) &&& (255 : Int32)))])) _
    refine siloadN X36 hx (hb hby at_70) rfl rfl (pc' := 71) ?_
    refine sicN X36 hx (hb hby at_71) rfl (teq (own_byte i1 : (((oUp fs31 0 (nar .byte ((i1 &&& (255 : Int32)).toInt8.toInt32))) 0) &&& (255 : Int32)) = (i1 &&& (255 : Int32)))).2 (pc' := 74) ?_
    refine saload X36 hx (hb hby at_74) rfl rfl rfl (pc' := 76) ?_
    refine siconst X36 hx (hb hby at_76) rfl rfl (z := 0) (pc' := 77) ?_
    have hz37 : n0 ≤ T33.heap.size := by omega
    obtain ⟨cq37, kq37, q37a, q37b, q37c⟩ := isOf hZ eh36 Ei33
    obtain ⟨_, _, ⟨T37, L37, k37, n37⟩, -, X37, ⟨Lc37, hQ37, l37, y37, z37⟩, st37⟩ := X36.virtualBack hx (y := (⟨"com/example/moraine/moraine/compression/FseTable", "bits", "(I)I"⟩ : MethodName)) (z := (⟨"com/example/moraine/moraine/compression/FseTable", "bits", "(I)I"⟩ : MethodName)) hown (mvT hZ (hw _ (List.mem_of_getElem? (i := 62) rfl))) (mvT hZ (hw _ (List.mem_of_getElem? (i := 63) rfl))) (notFace_of_selects (args := #[]) (mvT hZ (hw _ (List.mem_of_getElem? (i := 65) rfl)))) (mvT hZ (hw _ (List.mem_of_getElem? (i := 65) rfl))) (mvT hZ (hw _ (List.mem_of_getElem? (i := 64) rfl))) (by decide) (backOf (W := 0) (rm_bits l Z a0 hw [] a26 ba 64 (oUp fb31 0 0) T33.heap n0 hz37 Fb33 Vb33 (by decide)) hZ (hw _ (List.mem_of_getElem? (i := 66) rfl)) (hw _ (List.mem_of_getElem? (i := 3) rfl)) (by decide) (by decide)) q37a q37c (g := (mkF m 77 #[.val (.int i0), .val (.int i1), .val (.int (6 : Int32)), .val (.int (i1 &&& (255 : Int32))), .val (.ref a20), .val (.ref a26)] [(.int (0 : Int32)), (.ref a26)])) rfl (by rw [hml]; rfl) (Steps.refl _) (argsL := [(.int (0 : Int32))]) (rest := []) (lenOf pd_0 rfl) rfl (by show 2 * 0 + _ ≤ _; exact Nat.le_of_eq rfl) (hb hby at_77) (fun _ _ => ⟨rfl, eh36, (by decide : 7 + 0 ≤ _), (by decide : 202 + 0 ≤ _)⟩)
    dsimp only [Pt.U, Pt.locs, Pt.cells, Pt.slots] at X37 l37 y37 z37 st37 hQ37
    subst l37 y37 z37
    obtain ⟨rfl, N37q, eh37⟩ := hQ37
    have N37 := Fr.app N36 N37q
    refine oSt st37 ?_
    show oGl p e below (T37.setTop (mkF m 80 #[.val (.int i0), .val (.int i1), .val (.int (6 : Int32)), .val (.int (i1 &&& (255 : Int32))), .val (.ref a20), .val (.ref a26)] [(.int (0 : Int32))])) _
    refine sifN X37 hx (hb hby at_80) rfl (teq (by decide : (0 : Int32) = (0 : Int32))).2 (pc' := 83) ?_
    refine saload X37 hx (hb hby at_83) rfl rfl rfl (pc' := 85) ?_
    refine siconst X37 hx (hb hby at_85) rfl rfl (z := 0) (pc' := 86) ?_
    have hz38 : n0 ≤ T33.heap.size := by omega
    obtain ⟨cq38, kq38, q38a, q38b, q38c⟩ := isOf hZ eh37 Ei33
    obtain ⟨_, _, ⟨T38, L38, k38, n38⟩, -, X38, ⟨Lc38, hQ38, l38, y38, z38⟩, st38⟩ := X37.virtualBack hx (y := (⟨"com/example/moraine/moraine/compression/FseTable", "baseline", "(I)I"⟩ : MethodName)) (z := (⟨"com/example/moraine/moraine/compression/FseTable", "baseline", "(I)I"⟩ : MethodName)) hown (mvT hZ (hw _ (List.mem_of_getElem? (i := 67) rfl))) (mvT hZ (hw _ (List.mem_of_getElem? (i := 68) rfl))) (notFace_of_selects (args := #[]) (mvT hZ (hw _ (List.mem_of_getElem? (i := 70) rfl)))) (mvT hZ (hw _ (List.mem_of_getElem? (i := 70) rfl))) (mvT hZ (hw _ (List.mem_of_getElem? (i := 69) rfl))) (by decide) (backOf (W := 0) (rm_baseline l Z a0 hw [] a26 la 64 (oUp fl31 0 0) T33.heap n0 hz38 Fc33 Vc33 (by decide)) hZ (hw _ (List.mem_of_getElem? (i := 71) rfl)) (hw _ (List.mem_of_getElem? (i := 3) rfl)) (by decide) (by decide)) q38a q38c (g := (mkF m 86 #[.val (.int i0), .val (.int i1), .val (.int (6 : Int32)), .val (.int (i1 &&& (255 : Int32))), .val (.ref a20), .val (.ref a26)] [(.int (0 : Int32)), (.ref a26)])) rfl (by rw [hml]; rfl) (Steps.refl _) (argsL := [(.int (0 : Int32))]) (rest := []) (lenOf pd_0 rfl) rfl (by show 2 * 0 + _ ≤ _; exact Nat.le_of_eq rfl) (hb hby at_86) (fun _ _ => ⟨rfl, eh37, (by decide : 7 + 0 ≤ _), (by decide : 202 + 0 ≤ _)⟩)
    dsimp only [Pt.U, Pt.locs, Pt.cells, Pt.slots] at X38 l38 y38 z38 st38 hQ38
    subst l38 y38 z38
    obtain ⟨rfl, N38q, eh38⟩ := hQ38
    have N38 := Fr.app N37 N38q
    refine oSt st38 ?_
    show oGl p e below (T38.setTop (mkF m 89 #[.val (.int i0), .val (.int i1), .val (.int (6 : Int32)), .val (.int (i1 &&& (255 : Int32))), .val (.ref a20), .val (.ref a26)] [(.int (0 : Int32))])) _
    refine sifN X38 hx (hb hby at_89) rfl (teq (by decide : (0 : Int32) = (0 : Int32))).2 (pc' := 92) ?_
    refine siconst X38 hx (hb hby at_92) rfl rfl (z := 1) (pc' := 93) ?_
    refine sgoto X38 hx (hb hby at_93) (by decide) (by decide)  (pc' := 97) ?_
    refine oRetN (t := .boolean) X38 hx Bd.notSynchronized Bd.returns (by simp) (hb hby at_97) (by decide) (by decide) ?_
    show Q_rmL Z i0 i1 h0 n0 _ T38.heap _
    rw [eh38]
    exact ⟨rfl, N38⟩
  · skip
    rw [hq]
    show oGl p e below (s₁.setTop (mkF m 4 #[.val (.int i0), .val (.int i1), .unset, .unset, .unset, .unset] [(.int (2 : Int32)), (.int (5 : Int32))])) _
    refine siadd X0 hx (hb hby at_4) rfl (by decide) (z := (7 : Int32)) (pc' := 5) ?_
    refine sistoreN X0 hx (hb hby at_5) rfl rfl (l' := #[.val (.int i0), .val (.int i1), .val (.int (7 : Int32)), .unset, .unset, .unset]) (pc' := 6) ?_
    refine siloadN X0 hx (hb hby at_6) rfl rfl (pc' := 7) ?_
    refine ssipush X0 hx (hb hby at_7) rfl rfl (z := 255) (pc' := 10) ?_
    refine siand X0 hx (hb hby at_10) rfl rfl (pc' := 11) ?_
    refine sistoreN X0 hx (hb hby at_11) rfl rfl (l' := #[.val (.int i0), .val (.int i1), .val (.int (7 : Int32)), .val (.int (i1 &&& (255 : Int32))), .unset, .unset]) (pc' := 12) ?_
    refine siconst X0 hx (hb hby at_12) rfl rfl (z := 2) (pc' := 13) ?_
    obtain ⟨T39, h39, k39, X39, e39, E39, A39, st39⟩ := newP X0 hx hZ (hw _ (List.mem_of_getElem? (i := 0) rfl)) e0 (g := (mkF m 13 #[.val (.int i0), .val (.int i1), .val (.int (7 : Int32)), .val (.int (i1 &&& (255 : Int32))), .unset, .unset] [(.int (2 : Int32))])) rfl (hb hby at_13) rfl (by decide) (cap := 2) (by decide) (by decide) (by decide) (by decide)
    obtain ⟨a39, g39⟩ : ∃ z, z = h0.size := ⟨_, rfl⟩
    rw [← g39] at A39 st39
    refine oOn st39 ?_
    have z40 : h0.size ≤ h39.size := E39.1
    have lt39 : a39 < h39.size := A39.lt
    have V39 : oAI Z h39 a39 .byte 2 (fun _ => 0) := oAI.new A39 rfl
    show oGl p e below (T39.setTop (mkF m 15 #[.val (.int i0), .val (.int i1), .val (.int (7 : Int32)), .val (.int (i1 &&& (255 : Int32))), .unset, .unset] [(.ref a39)])) _
    refine sastore X39 hx (hb hby at_15) rfl rfl rfl (l' := #[.val (.int i0), .val (.int i1), .val (.int (7 : Int32)), .val (.int (i1 &&& (255 : Int32))), .val (.ref a39), .unset]) (pc' := 17) ?_
    refine saload X39 hx (hb hby at_17) rfl rfl rfl (pc' := 19) ?_
    refine siconst X39 hx (hb hby at_19) rfl rfl (z := 0) (pc' := 20) ?_
    refine sbipush X39 hx (hb hby at_20) rfl rfl (z := 64) (pc' := 22) ?_
    obtain ⟨T41, h41, X41, e41, W41, V41, st41⟩ := V39.stB X39 hx hZ e39 (j := (0 : Int32)) (by decide) (g := (mkF m 22 #[.val (.int i0), .val (.int i1), .val (.int (7 : Int32)), .val (.int (i1 &&& (255 : Int32))), .val (.ref a39), .unset] [(.int (64 : Int32)), (.int (0 : Int32)), (.ref a39)])) rfl rfl (hb hby at_22)
    refine oOn st41 ?_
    have z42 : h39.size ≤ h41.size := Nat.le_of_eq W41.size.symm
    have N41 := Fr.snoc X41 N0 (by omega)
    show oGl p e below (T41.setTop (mkF m 23 #[.val (.int i0), .val (.int i1), .val (.int (7 : Int32)), .val (.int (i1 &&& (255 : Int32))), .val (.ref a39), .unset] [])) _
    refine saload X41 hx (hb hby at_23) rfl rfl rfl (pc' := 25) ?_
    refine siconst X41 hx (hb hby at_25) rfl rfl (z := 1) (pc' := 26) ?_
    refine sbipush X41 hx (hb hby at_26) rfl rfl (z := 62) (pc' := 28) ?_
    obtain ⟨T43, h43, X43, e43, W43, V43, st43⟩ := V41.stB X41 hx hZ e41 (j := (1 : Int32)) (by decide) (g := (mkF m 28 #[.val (.int i0), .val (.int i1), .val (.int (7 : Int32)), .val (.int (i1 &&& (255 : Int32))), .val (.ref a39), .unset] [(.int (62 : Int32)), (.int (1 : Int32)), (.ref a39)])) rfl rfl (hb hby at_28)
    refine oOn st43 ?_
    have z44 : h41.size ≤ h43.size := Nat.le_of_eq W43.size.symm
    have N43 := Fr.snoc X43 N41 (by omega)
    show oGl p e below (T43.setTop (mkF m 29 #[.val (.int i0), .val (.int i1), .val (.int (7 : Int32)), .val (.int (i1 &&& (255 : Int32))), .val (.ref a39), .unset] [])) _
    obtain ⟨T45, h45, X45, e45, E45, A45, D45, -, st45⟩ := newO X43 hx hZ hown (hw _ (List.mem_of_getElem? (i := 1) rfl)) (hw _ (List.mem_of_getElem? (i := 2) rfl)) (hw _ (List.mem_of_getElem? (i := 3) rfl)) e43 (g := (mkF m 29 #[.val (.int i0), .val (.int i1), .val (.int (7 : Int32)), .val (.int (i1 &&& (255 : Int32))), .val (.ref a39), .unset] [])) rfl (hb hby at_29) (by decide) (by decide)
    obtain ⟨a45, g45⟩ : ∃ z, z = h43.size := ⟨_, rfl⟩
    rw [← g45] at A45 D45 st45
    refine oOn st45 ?_
    have z46 : h43.size ≤ h45.size := E45.1
    have lt45 : a45 < h45.size := A45.lt
    have f45_11 : Fld Z h45 a45 "com/example/moraine/moraine/compression/FseTable" "symbols" "[B" .null := D45 (Or.inr (hw _ (List.mem_of_getElem? (i := 11) rfl))) (ty := (.array .byte)) (by decide)
    have f45_13 : Fld Z h45 a45 "com/example/moraine/moraine/compression/FseTable" "bits" "[B" .null := D45 (Or.inr (hw _ (List.mem_of_getElem? (i := 13) rfl))) (ty := (.array .byte)) (by decide)
    have f45_16 : Fld Z h45 a45 "com/example/moraine/moraine/compression/FseTable" "baselines" "[S" .null := D45 (Or.inr (hw _ (List.mem_of_getElem? (i := 16) rfl))) (ty := (.array .short)) (by decide)
    have f45_46 : Fld Z h45 a45 "com/example/moraine/moraine/compression/FseTable" "log" "I" (.int (0 : Int32)) := D45 (Or.inl (hw _ (List.mem_of_getElem? (i := 46) rfl))) (ty := .int) (by decide)
    show oGl p e below (T45.setTop (mkF m 32 #[.val (.int i0), .val (.int i1), .val (.int (7 : Int32)), .val (.int (i1 &&& (255 : Int32))), .val (.ref a39), .unset] [(.ref a45)])) _
    refine sdup X45 hx (hb hby at_32) rfl rfl (pc' := 33) ?_
    refine siloadN X45 hx (hb hby at_33) rfl rfl (pc' := 34) ?_
    have hz47 : n0 ≤ h45.size := by omega
    obtain ⟨_, _, ⟨T47, L47, k47, n47⟩, -, X47, ⟨Lc47, hQ47, l47, y47, z47⟩, st47⟩ := X45.specialBack hx (y := (⟨"com/example/moraine/moraine/compression/FseTable", "<init>", "(I)V"⟩ : MethodName)) rfl hown (mvT hZ (hw _ (List.mem_of_getElem? (i := 4) rfl))) (mvT hZ (hw _ (List.mem_of_getElem? (i := 5) rfl))) (mvT hZ (hw _ (List.mem_of_getElem? (i := 6) rfl))) (by decide) (backOf (W := 1) (rmInit128 l Z a0 hw [] a45 h45 n0 hz47 A45 f45_11 f45_13 f45_16 f45_46 (by omega)) hZ (hw _ (List.mem_of_getElem? (i := 6) rfl)) (hw _ (List.mem_of_getElem? (i := 3) rfl)) (by decide) (by decide)) (g := (mkF m 34 #[.val (.int i0), .val (.int i1), .val (.int (7 : Int32)), .val (.int (i1 &&& (255 : Int32))), .val (.ref a39), .unset] [(.int (7 : Int32)), (.ref a45), (.ref a45)])) rfl (by rw [hml]; rfl) (Steps.refl _) (a := a45) (argsL := [(.int (7 : Int32))]) (rest := [(.ref a45)]) (lenOf pd_4 rfl) rfl (by show 2 * 0 + _ ≤ _; exact Nat.le_of_eq rfl) (hb hby at_34) (fun _ _ => ⟨rfl, e45, (by decide : 2 + 3 ≤ _), (by decide : 6 + 384 ≤ _)⟩)
    dsimp only [Pt.U, Pt.locs, Pt.cells, Pt.slots] at X47 l47 y47 z47 st47 hQ47
    subst l47 y47 z47
    obtain ⟨sa, ba, la, rfl, N47q, K47, Ei47, Fa47, Fb47, Fc47, Fd47, Va47, Vb47, Vc47, zs47, zv47, zb47, zl47⟩ := hQ47
    have N47 := Fr.app N43 N47q
    have z48 : h45.size ≤ T47.heap.size := K47.1
    refine oSt st47 ?_
    have lsa := Va47.lt
    have lba := Vb47.lt
    have lla := Vc47.lt
    have gv : n0 ≤ a45 := by omega
    have gs : n0 ≤ sa := by omega
    have gb : n0 ≤ ba := by omega
    have gl : n0 ≤ la := by omega
    have dd : a45 < sa ∧ sa < ba ∧ ba < la := ⟨zv47, zb47, zl47⟩
    show oGl p e below (T47.setTop (mkF m 37 #[.val (.int i0), .val (.int i1), .val (.int (7 : Int32)), .val (.int (i1 &&& (255 : Int32))), .val (.ref a39), .unset] [(.ref a45)])) _
    refine sastore X47 hx (hb hby at_37) rfl rfl rfl (l' := #[.val (.int i0), .val (.int i1), .val (.int (7 : Int32)), .val (.int (i1 &&& (255 : Int32))), .val (.ref a39), .val (.ref a45)]) (pc' := 39) ?_
    refine saload X47 hx (hb hby at_39) rfl rfl rfl (pc' := 41) ?_
    refine saload X47 hx (hb hby at_41) rfl rfl rfl (pc' := 43) ?_
    refine siconst X47 hx (hb hby at_43) rfl rfl (z := 0) (pc' := 44) ?_
    refine siconst X47 hx (hb hby at_44) rfl rfl (z := 2) (pc' := 45) ?_
    refine siconst X47 hx (hb hby at_45) rfl rfl (z := 1) (pc' := 46) ?_
    have f49 := ((V43.ext E45).keep K47 (ninS (oNe (by omega)) nin0))
    have hz50 : n0 ≤ T47.heap.size := by omega
    obtain ⟨cq50, kq50, q50a, q50b, q50c⟩ := isOf hZ rfl Ei47
    obtain ⟨_, _, ⟨T50, L50, k50, n50⟩, -, X50, ⟨Lc50, hQ50, l50, y50, z50⟩, st50⟩ := X47.virtualBack hx (y := (⟨"com/example/moraine/moraine/compression/FseTable", "read", "([BIII)I"⟩ : MethodName)) (z := (⟨"com/example/moraine/moraine/compression/FseTable", "read", "([BIII)I"⟩ : MethodName)) hown (mvT hZ (hw _ (List.mem_of_getElem? (i := 17) rfl))) (mvT hZ (hw _ (List.mem_of_getElem? (i := 18) rfl))) (notFace_of_selects (args := #[]) (mvT hZ (hw _ (List.mem_of_getElem? (i := 20) rfl)))) (mvT hZ (hw _ (List.mem_of_getElem? (i := 20) rfl))) (mvT hZ (hw _ (List.mem_of_getElem? (i := 19) rfl))) (by decide) (backOf (W := 0) (rmRead128 l Z a0 hw [] a45 sa ba la a39 0 (fun _ => 0) (fun _ => 0) T47.heap n0 hz50 Ei47 Fa47 Fb47 Fc47 Fd47 Va47 Vb47 Vc47 gv gs gb gl dd f49 (by omega)) hZ (hw _ (List.mem_of_getElem? (i := 21) rfl)) (hw _ (List.mem_of_getElem? (i := 3) rfl)) (by decide) (by decide)) q50a q50c (g := (mkF m 46 #[.val (.int i0), .val (.int i1), .val (.int (7 : Int32)), .val (.int (i1 &&& (255 : Int32))), .val (.ref a39), .val (.ref a45)] [(.int (1 : Int32)), (.int (2 : Int32)), (.int (0 : Int32)), (.ref a39), (.ref a45)])) rfl (by rw [hml]; rfl) (Steps.refl _) (argsL := [(.ref a39), (.int (0 : Int32)), (.int (2 : Int32)), (.int (1 : Int32))]) (rest := []) (lenOf pd_5 rfl) rfl (by show 2 * 0 + _ ≤ _; exact Nat.le_of_eq rfl) (hb hby at_46) (fun _ _ => ⟨rfl, rfl, (by decide : 5 + 2 ≤ _), (by decide : 390 + 4 ≤ _)⟩)
    dsimp only [Pt.U, Pt.locs, Pt.cells, Pt.slots] at X50 l50 y50 z50 st50 hQ50
    subst l50 y50 z50
    obtain ⟨r50, fs50, fb50, fl50, rfl, N50q, K50, Ei50, Fa50, Fb50, Fc50, Fd50, Va50, Vb50, Vc50⟩ := hQ50
    have N50 := Fr.app N47 N50q
    have z51 : T47.heap.size ≤ T50.heap.size := K50.1
    refine oSt st50 ?_
    show oGl p e below (T50.setTop (mkF m 49 #[.val (.int i0), .val (.int i1), .val (.int (7 : Int32)), .val (.int (i1 &&& (255 : Int32))), .val (.ref a39), .val (.ref a45)] [(.int r50)])) _
    refine spop X50 hx (hb hby at_49) rfl rfl (pc' := 50) ?_
    refine saload X50 hx (hb hby at_50) rfl rfl rfl (pc' := 52) ?_
    refine siloadN X50 hx (hb hby at_52) rfl rfl (pc' := 53) ?_
    have hz52 : n0 ≤ T50.heap.size := by omega
    obtain ⟨cq52, kq52, q52a, q52b, q52c⟩ := isOf hZ rfl Ei50
    obtain ⟨_, _, ⟨T52, L52, k52, n52⟩, -, X52, ⟨Lc52, hQ52, l52, y52, z52⟩, st52⟩ := X50.virtualBack hx (y := (⟨"com/example/moraine/moraine/compression/FseTable", "single", "(I)V"⟩ : MethodName)) (z := (⟨"com/example/moraine/moraine/compression/FseTable", "single", "(I)V"⟩ : MethodName)) hown (mvT hZ (hw _ (List.mem_of_getElem? (i := 47) rfl))) (mvT hZ (hw _ (List.mem_of_getElem? (i := 48) rfl))) (notFace_of_selects (args := #[]) (mvT hZ (hw _ (List.mem_of_getElem? (i := 50) rfl)))) (mvT hZ (hw _ (List.mem_of_getElem? (i := 50) rfl))) (mvT hZ (hw _ (List.mem_of_getElem? (i := 49) rfl))) (by decide) (backOf (W := 0) (rmSingle l Z a0 hw [] a45 sa ba la 128 5 (i1 &&& (255 : Int32)) fs50 fb50 fl50 T50.heap n0 hz52 Ei50 Fa50 Fb50 Fc50 Fd50 Va50 Vb50 Vc50 gv gs gb gl dd (by decide)) hZ (hw _ (List.mem_of_getElem? (i := 51) rfl)) (hw _ (List.mem_of_getElem? (i := 3) rfl)) (by decide) (by decide)) q52a q52c (g := (mkF m 53 #[.val (.int i0), .val (.int i1), .val (.int (7 : Int32)), .val (.int (i1 &&& (255 : Int32))), .val (.ref a39), .val (.ref a45)] [(.int (i1 &&& (255 : Int32))), (.ref a45)])) rfl (by rw [hml]; rfl) (Steps.refl _) (argsL := [(.int (i1 &&& (255 : Int32)))]) (rest := []) (lenOf pd_4 rfl) rfl (by show 2 * 0 + _ ≤ _; exact Nat.le_of_eq rfl) (hb hby at_53) (fun _ _ => ⟨rfl, rfl, (by decide : 7 + 0 ≤ _), (by decide : 394 + 0 ≤ _)⟩)
    dsimp only [Pt.U, Pt.locs, Pt.cells, Pt.slots] at X52 l52 y52 z52 st52 hQ52
    subst l52 y52 z52
    obtain ⟨rfl, N52q, K52, Ei52, Fa52, Fb52, Fc52, Fd52, Va52, Vb52, Vc52⟩ := hQ52
    have N52 := Fr.app N50 N52q
    have z53 : T50.heap.size ≤ T52.heap.size := K52.1
    refine oSt st52 ?_
    show oGl p e below (T52.setTop (mkF m 56 #[.val (.int i0), .val (.int i1), .val (.int (7 : Int32)), .val (.int (i1 &&& (255 : Int32))), .val (.ref a39), .val (.ref a45)] [])) _
    refine saload X52 hx (hb hby at_56) rfl rfl rfl (pc' := 58) ?_
    have hz54 : n0 ≤ T52.heap.size := by omega
    obtain ⟨cq54, kq54, q54a, q54b, q54c⟩ := isOf hZ rfl Ei52
    obtain ⟨_, _, ⟨T54, L54, k54, n54⟩, -, X54, ⟨Lc54, hQ54, l54, y54, z54⟩, st54⟩ := X52.virtualBack hx (y := (⟨"com/example/moraine/moraine/compression/FseTable", "log", "()I"⟩ : MethodName)) (z := (⟨"com/example/moraine/moraine/compression/FseTable", "log", "()I"⟩ : MethodName)) hown (mvT hZ (hw _ (List.mem_of_getElem? (i := 52) rfl))) (mvT hZ (hw _ (List.mem_of_getElem? (i := 53) rfl))) (notFace_of_selects (args := #[]) (mvT hZ (hw _ (List.mem_of_getElem? (i := 55) rfl)))) (mvT hZ (hw _ (List.mem_of_getElem? (i := 55) rfl))) (mvT hZ (hw _ (List.mem_of_getElem? (i := 54) rfl))) (by decide) (backOf (W := 0) (rmLog l Z a0 hw [] a45 (0 : Int32) T52.heap n0 hz54 Fd52) hZ (hw _ (List.mem_of_getElem? (i := 56) rfl)) (hw _ (List.mem_of_getElem? (i := 3) rfl)) (by decide) (by decide)) q54a q54c (g := (mkF m 58 #[.val (.int i0), .val (.int i1), .val (.int (7 : Int32)), .val (.int (i1 &&& (255 : Int32))), .val (.ref a39), .val (.ref a45)] [(.ref a45)])) rfl (by rw [hml]; rfl) (Steps.refl _) (argsL := []) (rest := []) (lenOf pd_6 rfl) rfl (by show 2 * 0 + _ ≤ _; exact Nat.le_of_eq rfl) (hb hby at_58) (fun _ _ => ⟨rfl, rfl, (by decide : 7 + 0 ≤ _), (by decide : 394 + 0 ≤ _)⟩)
    dsimp only [Pt.U, Pt.locs, Pt.cells, Pt.slots] at X54 l54 y54 z54 st54 hQ54
    subst l54 y54 z54
    obtain ⟨rfl, N54q, eh54⟩ := hQ54
    have N54 := Fr.app N52 N54q
    refine oSt st54 ?_
    show oGl p e below (T54.setTop (mkF m 61 #[.val (.int i0), .val (.int i1), .val (.int (7 : Int32)), .val (.int (i1 &&& (255 : Int32))), .val (.ref a39), .val (.ref a45)] [(.int (0 : Int32))])) _
    refine sifN X54 hx (hb hby at_61) rfl (teq (by decide : (0 : Int32) = (0 : Int32))).2 (pc' := 64) ?_
    refine saload X54 hx (hb hby at_64) rfl rfl rfl (pc' := 66) ?_
    refine siconst X54 hx (hb hby at_66) rfl rfl (z := 0) (pc' := 67) ?_
    have hz55 : n0 ≤ T52.heap.size := by omega
    obtain ⟨cq55, kq55, q55a, q55b, q55c⟩ := isOf hZ eh54 Ei52
    obtain ⟨_, _, ⟨T55, L55, k55, n55⟩, -, X55, ⟨Lc55, hQ55, l55, y55, z55⟩, st55⟩ := X54.virtualBack hx (y := (⟨"com/example/moraine/moraine/compression/FseTable", "symbol", "(I)I"⟩ : MethodName)) (z := (⟨"com/example/moraine/moraine/compression/FseTable", "symbol", "(I)I"⟩ : MethodName)) hown (mvT hZ (hw _ (List.mem_of_getElem? (i := 57) rfl))) (mvT hZ (hw _ (List.mem_of_getElem? (i := 58) rfl))) (notFace_of_selects (args := #[]) (mvT hZ (hw _ (List.mem_of_getElem? (i := 60) rfl)))) (mvT hZ (hw _ (List.mem_of_getElem? (i := 60) rfl))) (mvT hZ (hw _ (List.mem_of_getElem? (i := 59) rfl))) (by decide) (backOf (W := 0) (rm_symbol l Z a0 hw [] a45 sa 128 (oUp fs50 0 (nar .byte ((i1 &&& (255 : Int32)).toInt8.toInt32))) T52.heap n0 hz55 Fa52 Va52 (by decide)) hZ (hw _ (List.mem_of_getElem? (i := 61) rfl)) (hw _ (List.mem_of_getElem? (i := 3) rfl)) (by decide) (by decide)) q55a q55c (g := (mkF m 67 #[.val (.int i0), .val (.int i1), .val (.int (7 : Int32)), .val (.int (i1 &&& (255 : Int32))), .val (.ref a39), .val (.ref a45)] [(.int (0 : Int32)), (.ref a45)])) rfl (by rw [hml]; rfl) (Steps.refl _) (argsL := [(.int (0 : Int32))]) (rest := []) (lenOf pd_0 rfl) rfl (by show 2 * 0 + _ ≤ _; exact Nat.le_of_eq rfl) (hb hby at_67) (fun _ _ => ⟨rfl, eh54, (by decide : 7 + 0 ≤ _), (by decide : 394 + 0 ≤ _)⟩)
    dsimp only [Pt.U, Pt.locs, Pt.cells, Pt.slots] at X55 l55 y55 z55 st55 hQ55
    subst l55 y55 z55
    obtain ⟨rfl, N55q, eh55⟩ := hQ55
    have N55 := Fr.app N54 N55q
    refine oSt st55 ?_
    show oGl p e below (T55.setTop (mkF m 70 #[.val (.int i0), .val (.int i1), .val (.int (7 : Int32)), .val (.int (i1 &&& (255 : Int32))), .val (.ref a39), .val (.ref a45)] [(.int (((oUp fs50 0 (nar .byte ((i1 &&& (255 : Int32)).toInt8.toInt32))) 0) &&& (255 : Int32)))])) _
    refine siloadN X55 hx (hb hby at_70) rfl rfl (pc' := 71) ?_
    refine sicN X55 hx (hb hby at_71) rfl (teq (own_byte i1 : (((oUp fs50 0 (nar .byte ((i1 &&& (255 : Int32)).toInt8.toInt32))) 0) &&& (255 : Int32)) = (i1 &&& (255 : Int32)))).2 (pc' := 74) ?_
    refine saload X55 hx (hb hby at_74) rfl rfl rfl (pc' := 76) ?_
    refine siconst X55 hx (hb hby at_76) rfl rfl (z := 0) (pc' := 77) ?_
    have hz56 : n0 ≤ T52.heap.size := by omega
    obtain ⟨cq56, kq56, q56a, q56b, q56c⟩ := isOf hZ eh55 Ei52
    obtain ⟨_, _, ⟨T56, L56, k56, n56⟩, -, X56, ⟨Lc56, hQ56, l56, y56, z56⟩, st56⟩ := X55.virtualBack hx (y := (⟨"com/example/moraine/moraine/compression/FseTable", "bits", "(I)I"⟩ : MethodName)) (z := (⟨"com/example/moraine/moraine/compression/FseTable", "bits", "(I)I"⟩ : MethodName)) hown (mvT hZ (hw _ (List.mem_of_getElem? (i := 62) rfl))) (mvT hZ (hw _ (List.mem_of_getElem? (i := 63) rfl))) (notFace_of_selects (args := #[]) (mvT hZ (hw _ (List.mem_of_getElem? (i := 65) rfl)))) (mvT hZ (hw _ (List.mem_of_getElem? (i := 65) rfl))) (mvT hZ (hw _ (List.mem_of_getElem? (i := 64) rfl))) (by decide) (backOf (W := 0) (rm_bits l Z a0 hw [] a45 ba 128 (oUp fb50 0 0) T52.heap n0 hz56 Fb52 Vb52 (by decide)) hZ (hw _ (List.mem_of_getElem? (i := 66) rfl)) (hw _ (List.mem_of_getElem? (i := 3) rfl)) (by decide) (by decide)) q56a q56c (g := (mkF m 77 #[.val (.int i0), .val (.int i1), .val (.int (7 : Int32)), .val (.int (i1 &&& (255 : Int32))), .val (.ref a39), .val (.ref a45)] [(.int (0 : Int32)), (.ref a45)])) rfl (by rw [hml]; rfl) (Steps.refl _) (argsL := [(.int (0 : Int32))]) (rest := []) (lenOf pd_0 rfl) rfl (by show 2 * 0 + _ ≤ _; exact Nat.le_of_eq rfl) (hb hby at_77) (fun _ _ => ⟨rfl, eh55, (by decide : 7 + 0 ≤ _), (by decide : 394 + 0 ≤ _)⟩)
    dsimp only [Pt.U, Pt.locs, Pt.cells, Pt.slots] at X56 l56 y56 z56 st56 hQ56
    subst l56 y56 z56
    obtain ⟨rfl, N56q, eh56⟩ := hQ56
    have N56 := Fr.app N55 N56q
    refine oSt st56 ?_
    show oGl p e below (T56.setTop (mkF m 80 #[.val (.int i0), .val (.int i1), .val (.int (7 : Int32)), .val (.int (i1 &&& (255 : Int32))), .val (.ref a39), .val (.ref a45)] [(.int (0 : Int32))])) _
    refine sifN X56 hx (hb hby at_80) rfl (teq (by decide : (0 : Int32) = (0 : Int32))).2 (pc' := 83) ?_
    refine saload X56 hx (hb hby at_83) rfl rfl rfl (pc' := 85) ?_
    refine siconst X56 hx (hb hby at_85) rfl rfl (z := 0) (pc' := 86) ?_
    have hz57 : n0 ≤ T52.heap.size := by omega
    obtain ⟨cq57, kq57, q57a, q57b, q57c⟩ := isOf hZ eh56 Ei52
    obtain ⟨_, _, ⟨T57, L57, k57, n57⟩, -, X57, ⟨Lc57, hQ57, l57, y57, z57⟩, st57⟩ := X56.virtualBack hx (y := (⟨"com/example/moraine/moraine/compression/FseTable", "baseline", "(I)I"⟩ : MethodName)) (z := (⟨"com/example/moraine/moraine/compression/FseTable", "baseline", "(I)I"⟩ : MethodName)) hown (mvT hZ (hw _ (List.mem_of_getElem? (i := 67) rfl))) (mvT hZ (hw _ (List.mem_of_getElem? (i := 68) rfl))) (notFace_of_selects (args := #[]) (mvT hZ (hw _ (List.mem_of_getElem? (i := 70) rfl)))) (mvT hZ (hw _ (List.mem_of_getElem? (i := 70) rfl))) (mvT hZ (hw _ (List.mem_of_getElem? (i := 69) rfl))) (by decide) (backOf (W := 0) (rm_baseline l Z a0 hw [] a45 la 128 (oUp fl50 0 0) T52.heap n0 hz57 Fc52 Vc52 (by decide)) hZ (hw _ (List.mem_of_getElem? (i := 71) rfl)) (hw _ (List.mem_of_getElem? (i := 3) rfl)) (by decide) (by decide)) q57a q57c (g := (mkF m 86 #[.val (.int i0), .val (.int i1), .val (.int (7 : Int32)), .val (.int (i1 &&& (255 : Int32))), .val (.ref a39), .val (.ref a45)] [(.int (0 : Int32)), (.ref a45)])) rfl (by rw [hml]; rfl) (Steps.refl _) (argsL := [(.int (0 : Int32))]) (rest := []) (lenOf pd_0 rfl) rfl (by show 2 * 0 + _ ≤ _; exact Nat.le_of_eq rfl) (hb hby at_86) (fun _ _ => ⟨rfl, eh56, (by decide : 7 + 0 ≤ _), (by decide : 394 + 0 ≤ _)⟩)
    dsimp only [Pt.U, Pt.locs, Pt.cells, Pt.slots] at X57 l57 y57 z57 st57 hQ57
    subst l57 y57 z57
    obtain ⟨rfl, N57q, eh57⟩ := hQ57
    have N57 := Fr.app N56 N57q
    refine oSt st57 ?_
    show oGl p e below (T57.setTop (mkF m 89 #[.val (.int i0), .val (.int i1), .val (.int (7 : Int32)), .val (.int (i1 &&& (255 : Int32))), .val (.ref a39), .val (.ref a45)] [(.int (0 : Int32))])) _
    refine sifN X57 hx (hb hby at_89) rfl (teq (by decide : (0 : Int32) = (0 : Int32))).2 (pc' := 92) ?_
    refine siconst X57 hx (hb hby at_92) rfl rfl (z := 1) (pc' := 93) ?_
    refine sgoto X57 hx (hb hby at_93) (by decide) (by decide)  (pc' := 97) ?_
    refine oRetN (t := .boolean) X57 hx Bd.notSynchronized Bd.returns (by simp) (hb hby at_97) (by decide) (by decide) ?_
    show Q_rmL Z i0 i1 h0 n0 _ T57.heap _
    rw [eh57]
    exact ⟨rfl, N57⟩
  · skip
    rw [hq]
    show oGl p e below (s₁.setTop (mkF m 4 #[.val (.int i0), .val (.int i1), .unset, .unset, .unset, .unset] [(.int (3 : Int32)), (.int (5 : Int32))])) _
    refine siadd X0 hx (hb hby at_4) rfl (by decide) (z := (8 : Int32)) (pc' := 5) ?_
    refine sistoreN X0 hx (hb hby at_5) rfl rfl (l' := #[.val (.int i0), .val (.int i1), .val (.int (8 : Int32)), .unset, .unset, .unset]) (pc' := 6) ?_
    refine siloadN X0 hx (hb hby at_6) rfl rfl (pc' := 7) ?_
    refine ssipush X0 hx (hb hby at_7) rfl rfl (z := 255) (pc' := 10) ?_
    refine siand X0 hx (hb hby at_10) rfl rfl (pc' := 11) ?_
    refine sistoreN X0 hx (hb hby at_11) rfl rfl (l' := #[.val (.int i0), .val (.int i1), .val (.int (8 : Int32)), .val (.int (i1 &&& (255 : Int32))), .unset, .unset]) (pc' := 12) ?_
    refine siconst X0 hx (hb hby at_12) rfl rfl (z := 2) (pc' := 13) ?_
    obtain ⟨T58, h58, k58, X58, e58, E58, A58, st58⟩ := newP X0 hx hZ (hw _ (List.mem_of_getElem? (i := 0) rfl)) e0 (g := (mkF m 13 #[.val (.int i0), .val (.int i1), .val (.int (8 : Int32)), .val (.int (i1 &&& (255 : Int32))), .unset, .unset] [(.int (2 : Int32))])) rfl (hb hby at_13) rfl (by decide) (cap := 2) (by decide) (by decide) (by decide) (by decide)
    obtain ⟨a58, g58⟩ : ∃ z, z = h0.size := ⟨_, rfl⟩
    rw [← g58] at A58 st58
    refine oOn st58 ?_
    have z59 : h0.size ≤ h58.size := E58.1
    have lt58 : a58 < h58.size := A58.lt
    have V58 : oAI Z h58 a58 .byte 2 (fun _ => 0) := oAI.new A58 rfl
    show oGl p e below (T58.setTop (mkF m 15 #[.val (.int i0), .val (.int i1), .val (.int (8 : Int32)), .val (.int (i1 &&& (255 : Int32))), .unset, .unset] [(.ref a58)])) _
    refine sastore X58 hx (hb hby at_15) rfl rfl rfl (l' := #[.val (.int i0), .val (.int i1), .val (.int (8 : Int32)), .val (.int (i1 &&& (255 : Int32))), .val (.ref a58), .unset]) (pc' := 17) ?_
    refine saload X58 hx (hb hby at_17) rfl rfl rfl (pc' := 19) ?_
    refine siconst X58 hx (hb hby at_19) rfl rfl (z := 0) (pc' := 20) ?_
    refine sbipush X58 hx (hb hby at_20) rfl rfl (z := 64) (pc' := 22) ?_
    obtain ⟨T60, h60, X60, e60, W60, V60, st60⟩ := V58.stB X58 hx hZ e58 (j := (0 : Int32)) (by decide) (g := (mkF m 22 #[.val (.int i0), .val (.int i1), .val (.int (8 : Int32)), .val (.int (i1 &&& (255 : Int32))), .val (.ref a58), .unset] [(.int (64 : Int32)), (.int (0 : Int32)), (.ref a58)])) rfl rfl (hb hby at_22)
    refine oOn st60 ?_
    have z61 : h58.size ≤ h60.size := Nat.le_of_eq W60.size.symm
    have N60 := Fr.snoc X60 N0 (by omega)
    show oGl p e below (T60.setTop (mkF m 23 #[.val (.int i0), .val (.int i1), .val (.int (8 : Int32)), .val (.int (i1 &&& (255 : Int32))), .val (.ref a58), .unset] [])) _
    refine saload X60 hx (hb hby at_23) rfl rfl rfl (pc' := 25) ?_
    refine siconst X60 hx (hb hby at_25) rfl rfl (z := 1) (pc' := 26) ?_
    refine sbipush X60 hx (hb hby at_26) rfl rfl (z := 62) (pc' := 28) ?_
    obtain ⟨T62, h62, X62, e62, W62, V62, st62⟩ := V60.stB X60 hx hZ e60 (j := (1 : Int32)) (by decide) (g := (mkF m 28 #[.val (.int i0), .val (.int i1), .val (.int (8 : Int32)), .val (.int (i1 &&& (255 : Int32))), .val (.ref a58), .unset] [(.int (62 : Int32)), (.int (1 : Int32)), (.ref a58)])) rfl rfl (hb hby at_28)
    refine oOn st62 ?_
    have z63 : h60.size ≤ h62.size := Nat.le_of_eq W62.size.symm
    have N62 := Fr.snoc X62 N60 (by omega)
    show oGl p e below (T62.setTop (mkF m 29 #[.val (.int i0), .val (.int i1), .val (.int (8 : Int32)), .val (.int (i1 &&& (255 : Int32))), .val (.ref a58), .unset] [])) _
    obtain ⟨T64, h64, X64, e64, E64, A64, D64, -, st64⟩ := newO X62 hx hZ hown (hw _ (List.mem_of_getElem? (i := 1) rfl)) (hw _ (List.mem_of_getElem? (i := 2) rfl)) (hw _ (List.mem_of_getElem? (i := 3) rfl)) e62 (g := (mkF m 29 #[.val (.int i0), .val (.int i1), .val (.int (8 : Int32)), .val (.int (i1 &&& (255 : Int32))), .val (.ref a58), .unset] [])) rfl (hb hby at_29) (by decide) (by decide)
    obtain ⟨a64, g64⟩ : ∃ z, z = h62.size := ⟨_, rfl⟩
    rw [← g64] at A64 D64 st64
    refine oOn st64 ?_
    have z65 : h62.size ≤ h64.size := E64.1
    have lt64 : a64 < h64.size := A64.lt
    have f64_11 : Fld Z h64 a64 "com/example/moraine/moraine/compression/FseTable" "symbols" "[B" .null := D64 (Or.inr (hw _ (List.mem_of_getElem? (i := 11) rfl))) (ty := (.array .byte)) (by decide)
    have f64_13 : Fld Z h64 a64 "com/example/moraine/moraine/compression/FseTable" "bits" "[B" .null := D64 (Or.inr (hw _ (List.mem_of_getElem? (i := 13) rfl))) (ty := (.array .byte)) (by decide)
    have f64_16 : Fld Z h64 a64 "com/example/moraine/moraine/compression/FseTable" "baselines" "[S" .null := D64 (Or.inr (hw _ (List.mem_of_getElem? (i := 16) rfl))) (ty := (.array .short)) (by decide)
    have f64_46 : Fld Z h64 a64 "com/example/moraine/moraine/compression/FseTable" "log" "I" (.int (0 : Int32)) := D64 (Or.inl (hw _ (List.mem_of_getElem? (i := 46) rfl))) (ty := .int) (by decide)
    show oGl p e below (T64.setTop (mkF m 32 #[.val (.int i0), .val (.int i1), .val (.int (8 : Int32)), .val (.int (i1 &&& (255 : Int32))), .val (.ref a58), .unset] [(.ref a64)])) _
    refine sdup X64 hx (hb hby at_32) rfl rfl (pc' := 33) ?_
    refine siloadN X64 hx (hb hby at_33) rfl rfl (pc' := 34) ?_
    have hz66 : n0 ≤ h64.size := by omega
    obtain ⟨_, _, ⟨T66, L66, k66, n66⟩, -, X66, ⟨Lc66, hQ66, l66, y66, z66⟩, st66⟩ := X64.specialBack hx (y := (⟨"com/example/moraine/moraine/compression/FseTable", "<init>", "(I)V"⟩ : MethodName)) rfl hown (mvT hZ (hw _ (List.mem_of_getElem? (i := 4) rfl))) (mvT hZ (hw _ (List.mem_of_getElem? (i := 5) rfl))) (mvT hZ (hw _ (List.mem_of_getElem? (i := 6) rfl))) (by decide) (backOf (W := 1) (rmInit256 l Z a0 hw [] a64 h64 n0 hz66 A64 f64_11 f64_13 f64_16 f64_46 (by omega)) hZ (hw _ (List.mem_of_getElem? (i := 6) rfl)) (hw _ (List.mem_of_getElem? (i := 3) rfl)) (by decide) (by decide)) (g := (mkF m 34 #[.val (.int i0), .val (.int i1), .val (.int (8 : Int32)), .val (.int (i1 &&& (255 : Int32))), .val (.ref a58), .unset] [(.int (8 : Int32)), (.ref a64), (.ref a64)])) rfl (by rw [hml]; rfl) (Steps.refl _) (a := a64) (argsL := [(.int (8 : Int32))]) (rest := [(.ref a64)]) (lenOf pd_4 rfl) rfl (by show 2 * 0 + _ ≤ _; exact Nat.le_of_eq rfl) (hb hby at_34) (fun _ _ => ⟨rfl, e64, (by decide : 2 + 3 ≤ _), (by decide : 6 + 768 ≤ _)⟩)
    dsimp only [Pt.U, Pt.locs, Pt.cells, Pt.slots] at X66 l66 y66 z66 st66 hQ66
    subst l66 y66 z66
    obtain ⟨sa, ba, la, rfl, N66q, K66, Ei66, Fa66, Fb66, Fc66, Fd66, Va66, Vb66, Vc66, zs66, zv66, zb66, zl66⟩ := hQ66
    have N66 := Fr.app N62 N66q
    have z67 : h64.size ≤ T66.heap.size := K66.1
    refine oSt st66 ?_
    have lsa := Va66.lt
    have lba := Vb66.lt
    have lla := Vc66.lt
    have gv : n0 ≤ a64 := by omega
    have gs : n0 ≤ sa := by omega
    have gb : n0 ≤ ba := by omega
    have gl : n0 ≤ la := by omega
    have dd : a64 < sa ∧ sa < ba ∧ ba < la := ⟨zv66, zb66, zl66⟩
    show oGl p e below (T66.setTop (mkF m 37 #[.val (.int i0), .val (.int i1), .val (.int (8 : Int32)), .val (.int (i1 &&& (255 : Int32))), .val (.ref a58), .unset] [(.ref a64)])) _
    refine sastore X66 hx (hb hby at_37) rfl rfl rfl (l' := #[.val (.int i0), .val (.int i1), .val (.int (8 : Int32)), .val (.int (i1 &&& (255 : Int32))), .val (.ref a58), .val (.ref a64)]) (pc' := 39) ?_
    refine saload X66 hx (hb hby at_39) rfl rfl rfl (pc' := 41) ?_
    refine saload X66 hx (hb hby at_41) rfl rfl rfl (pc' := 43) ?_
    refine siconst X66 hx (hb hby at_43) rfl rfl (z := 0) (pc' := 44) ?_
    refine siconst X66 hx (hb hby at_44) rfl rfl (z := 2) (pc' := 45) ?_
    refine siconst X66 hx (hb hby at_45) rfl rfl (z := 1) (pc' := 46) ?_
    have f68 := ((V62.ext E64).keep K66 (ninS (oNe (by omega)) nin0))
    have hz69 : n0 ≤ T66.heap.size := by omega
    obtain ⟨cq69, kq69, q69a, q69b, q69c⟩ := isOf hZ rfl Ei66
    obtain ⟨_, _, ⟨T69, L69, k69, n69⟩, -, X69, ⟨Lc69, hQ69, l69, y69, z69⟩, st69⟩ := X66.virtualBack hx (y := (⟨"com/example/moraine/moraine/compression/FseTable", "read", "([BIII)I"⟩ : MethodName)) (z := (⟨"com/example/moraine/moraine/compression/FseTable", "read", "([BIII)I"⟩ : MethodName)) hown (mvT hZ (hw _ (List.mem_of_getElem? (i := 17) rfl))) (mvT hZ (hw _ (List.mem_of_getElem? (i := 18) rfl))) (notFace_of_selects (args := #[]) (mvT hZ (hw _ (List.mem_of_getElem? (i := 20) rfl)))) (mvT hZ (hw _ (List.mem_of_getElem? (i := 20) rfl))) (mvT hZ (hw _ (List.mem_of_getElem? (i := 19) rfl))) (by decide) (backOf (W := 0) (rmRead256 l Z a0 hw [] a64 sa ba la a58 0 (fun _ => 0) (fun _ => 0) T66.heap n0 hz69 Ei66 Fa66 Fb66 Fc66 Fd66 Va66 Vb66 Vc66 gv gs gb gl dd f68 (by omega)) hZ (hw _ (List.mem_of_getElem? (i := 21) rfl)) (hw _ (List.mem_of_getElem? (i := 3) rfl)) (by decide) (by decide)) q69a q69c (g := (mkF m 46 #[.val (.int i0), .val (.int i1), .val (.int (8 : Int32)), .val (.int (i1 &&& (255 : Int32))), .val (.ref a58), .val (.ref a64)] [(.int (1 : Int32)), (.int (2 : Int32)), (.int (0 : Int32)), (.ref a58), (.ref a64)])) rfl (by rw [hml]; rfl) (Steps.refl _) (argsL := [(.ref a58), (.int (0 : Int32)), (.int (2 : Int32)), (.int (1 : Int32))]) (rest := []) (lenOf pd_5 rfl) rfl (by show 2 * 0 + _ ≤ _; exact Nat.le_of_eq rfl) (hb hby at_46) (fun _ _ => ⟨rfl, rfl, (by decide : 5 + 2 ≤ _), (by decide : 774 + 4 ≤ _)⟩)
    dsimp only [Pt.U, Pt.locs, Pt.cells, Pt.slots] at X69 l69 y69 z69 st69 hQ69
    subst l69 y69 z69
    obtain ⟨r69, fs69, fb69, fl69, rfl, N69q, K69, Ei69, Fa69, Fb69, Fc69, Fd69, Va69, Vb69, Vc69⟩ := hQ69
    have N69 := Fr.app N66 N69q
    have z70 : T66.heap.size ≤ T69.heap.size := K69.1
    refine oSt st69 ?_
    show oGl p e below (T69.setTop (mkF m 49 #[.val (.int i0), .val (.int i1), .val (.int (8 : Int32)), .val (.int (i1 &&& (255 : Int32))), .val (.ref a58), .val (.ref a64)] [(.int r69)])) _
    refine spop X69 hx (hb hby at_49) rfl rfl (pc' := 50) ?_
    refine saload X69 hx (hb hby at_50) rfl rfl rfl (pc' := 52) ?_
    refine siloadN X69 hx (hb hby at_52) rfl rfl (pc' := 53) ?_
    have hz71 : n0 ≤ T69.heap.size := by omega
    obtain ⟨cq71, kq71, q71a, q71b, q71c⟩ := isOf hZ rfl Ei69
    obtain ⟨_, _, ⟨T71, L71, k71, n71⟩, -, X71, ⟨Lc71, hQ71, l71, y71, z71⟩, st71⟩ := X69.virtualBack hx (y := (⟨"com/example/moraine/moraine/compression/FseTable", "single", "(I)V"⟩ : MethodName)) (z := (⟨"com/example/moraine/moraine/compression/FseTable", "single", "(I)V"⟩ : MethodName)) hown (mvT hZ (hw _ (List.mem_of_getElem? (i := 47) rfl))) (mvT hZ (hw _ (List.mem_of_getElem? (i := 48) rfl))) (notFace_of_selects (args := #[]) (mvT hZ (hw _ (List.mem_of_getElem? (i := 50) rfl)))) (mvT hZ (hw _ (List.mem_of_getElem? (i := 50) rfl))) (mvT hZ (hw _ (List.mem_of_getElem? (i := 49) rfl))) (by decide) (backOf (W := 0) (rmSingle l Z a0 hw [] a64 sa ba la 256 5 (i1 &&& (255 : Int32)) fs69 fb69 fl69 T69.heap n0 hz71 Ei69 Fa69 Fb69 Fc69 Fd69 Va69 Vb69 Vc69 gv gs gb gl dd (by decide)) hZ (hw _ (List.mem_of_getElem? (i := 51) rfl)) (hw _ (List.mem_of_getElem? (i := 3) rfl)) (by decide) (by decide)) q71a q71c (g := (mkF m 53 #[.val (.int i0), .val (.int i1), .val (.int (8 : Int32)), .val (.int (i1 &&& (255 : Int32))), .val (.ref a58), .val (.ref a64)] [(.int (i1 &&& (255 : Int32))), (.ref a64)])) rfl (by rw [hml]; rfl) (Steps.refl _) (argsL := [(.int (i1 &&& (255 : Int32)))]) (rest := []) (lenOf pd_4 rfl) rfl (by show 2 * 0 + _ ≤ _; exact Nat.le_of_eq rfl) (hb hby at_53) (fun _ _ => ⟨rfl, rfl, (by decide : 7 + 0 ≤ _), (by decide : 778 + 0 ≤ _)⟩)
    dsimp only [Pt.U, Pt.locs, Pt.cells, Pt.slots] at X71 l71 y71 z71 st71 hQ71
    subst l71 y71 z71
    obtain ⟨rfl, N71q, K71, Ei71, Fa71, Fb71, Fc71, Fd71, Va71, Vb71, Vc71⟩ := hQ71
    have N71 := Fr.app N69 N71q
    have z72 : T69.heap.size ≤ T71.heap.size := K71.1
    refine oSt st71 ?_
    show oGl p e below (T71.setTop (mkF m 56 #[.val (.int i0), .val (.int i1), .val (.int (8 : Int32)), .val (.int (i1 &&& (255 : Int32))), .val (.ref a58), .val (.ref a64)] [])) _
    refine saload X71 hx (hb hby at_56) rfl rfl rfl (pc' := 58) ?_
    have hz73 : n0 ≤ T71.heap.size := by omega
    obtain ⟨cq73, kq73, q73a, q73b, q73c⟩ := isOf hZ rfl Ei71
    obtain ⟨_, _, ⟨T73, L73, k73, n73⟩, -, X73, ⟨Lc73, hQ73, l73, y73, z73⟩, st73⟩ := X71.virtualBack hx (y := (⟨"com/example/moraine/moraine/compression/FseTable", "log", "()I"⟩ : MethodName)) (z := (⟨"com/example/moraine/moraine/compression/FseTable", "log", "()I"⟩ : MethodName)) hown (mvT hZ (hw _ (List.mem_of_getElem? (i := 52) rfl))) (mvT hZ (hw _ (List.mem_of_getElem? (i := 53) rfl))) (notFace_of_selects (args := #[]) (mvT hZ (hw _ (List.mem_of_getElem? (i := 55) rfl)))) (mvT hZ (hw _ (List.mem_of_getElem? (i := 55) rfl))) (mvT hZ (hw _ (List.mem_of_getElem? (i := 54) rfl))) (by decide) (backOf (W := 0) (rmLog l Z a0 hw [] a64 (0 : Int32) T71.heap n0 hz73 Fd71) hZ (hw _ (List.mem_of_getElem? (i := 56) rfl)) (hw _ (List.mem_of_getElem? (i := 3) rfl)) (by decide) (by decide)) q73a q73c (g := (mkF m 58 #[.val (.int i0), .val (.int i1), .val (.int (8 : Int32)), .val (.int (i1 &&& (255 : Int32))), .val (.ref a58), .val (.ref a64)] [(.ref a64)])) rfl (by rw [hml]; rfl) (Steps.refl _) (argsL := []) (rest := []) (lenOf pd_6 rfl) rfl (by show 2 * 0 + _ ≤ _; exact Nat.le_of_eq rfl) (hb hby at_58) (fun _ _ => ⟨rfl, rfl, (by decide : 7 + 0 ≤ _), (by decide : 778 + 0 ≤ _)⟩)
    dsimp only [Pt.U, Pt.locs, Pt.cells, Pt.slots] at X73 l73 y73 z73 st73 hQ73
    subst l73 y73 z73
    obtain ⟨rfl, N73q, eh73⟩ := hQ73
    have N73 := Fr.app N71 N73q
    refine oSt st73 ?_
    show oGl p e below (T73.setTop (mkF m 61 #[.val (.int i0), .val (.int i1), .val (.int (8 : Int32)), .val (.int (i1 &&& (255 : Int32))), .val (.ref a58), .val (.ref a64)] [(.int (0 : Int32))])) _
    refine sifN X73 hx (hb hby at_61) rfl (teq (by decide : (0 : Int32) = (0 : Int32))).2 (pc' := 64) ?_
    refine saload X73 hx (hb hby at_64) rfl rfl rfl (pc' := 66) ?_
    refine siconst X73 hx (hb hby at_66) rfl rfl (z := 0) (pc' := 67) ?_
    have hz74 : n0 ≤ T71.heap.size := by omega
    obtain ⟨cq74, kq74, q74a, q74b, q74c⟩ := isOf hZ eh73 Ei71
    obtain ⟨_, _, ⟨T74, L74, k74, n74⟩, -, X74, ⟨Lc74, hQ74, l74, y74, z74⟩, st74⟩ := X73.virtualBack hx (y := (⟨"com/example/moraine/moraine/compression/FseTable", "symbol", "(I)I"⟩ : MethodName)) (z := (⟨"com/example/moraine/moraine/compression/FseTable", "symbol", "(I)I"⟩ : MethodName)) hown (mvT hZ (hw _ (List.mem_of_getElem? (i := 57) rfl))) (mvT hZ (hw _ (List.mem_of_getElem? (i := 58) rfl))) (notFace_of_selects (args := #[]) (mvT hZ (hw _ (List.mem_of_getElem? (i := 60) rfl)))) (mvT hZ (hw _ (List.mem_of_getElem? (i := 60) rfl))) (mvT hZ (hw _ (List.mem_of_getElem? (i := 59) rfl))) (by decide) (backOf (W := 0) (rm_symbol l Z a0 hw [] a64 sa 256 (oUp fs69 0 (nar .byte ((i1 &&& (255 : Int32)).toInt8.toInt32))) T71.heap n0 hz74 Fa71 Va71 (by decide)) hZ (hw _ (List.mem_of_getElem? (i := 61) rfl)) (hw _ (List.mem_of_getElem? (i := 3) rfl)) (by decide) (by decide)) q74a q74c (g := (mkF m 67 #[.val (.int i0), .val (.int i1), .val (.int (8 : Int32)), .val (.int (i1 &&& (255 : Int32))), .val (.ref a58), .val (.ref a64)] [(.int (0 : Int32)), (.ref a64)])) rfl (by rw [hml]; rfl) (Steps.refl _) (argsL := [(.int (0 : Int32))]) (rest := []) (lenOf pd_0 rfl) rfl (by show 2 * 0 + _ ≤ _; exact Nat.le_of_eq rfl) (hb hby at_67) (fun _ _ => ⟨rfl, eh73, (by decide : 7 + 0 ≤ _), (by decide : 778 + 0 ≤ _)⟩)
    dsimp only [Pt.U, Pt.locs, Pt.cells, Pt.slots] at X74 l74 y74 z74 st74 hQ74
    subst l74 y74 z74
    obtain ⟨rfl, N74q, eh74⟩ := hQ74
    have N74 := Fr.app N73 N74q
    refine oSt st74 ?_
    show oGl p e below (T74.setTop (mkF m 70 #[.val (.int i0), .val (.int i1), .val (.int (8 : Int32)), .val (.int (i1 &&& (255 : Int32))), .val (.ref a58), .val (.ref a64)] [(.int (((oUp fs69 0 (nar .byte ((i1 &&& (255 : Int32)).toInt8.toInt32))) 0) &&& (255 : Int32)))])) _
    refine siloadN X74 hx (hb hby at_70) rfl rfl (pc' := 71) ?_
    refine sicN X74 hx (hb hby at_71) rfl (teq (own_byte i1 : (((oUp fs69 0 (nar .byte ((i1 &&& (255 : Int32)).toInt8.toInt32))) 0) &&& (255 : Int32)) = (i1 &&& (255 : Int32)))).2 (pc' := 74) ?_
    refine saload X74 hx (hb hby at_74) rfl rfl rfl (pc' := 76) ?_
    refine siconst X74 hx (hb hby at_76) rfl rfl (z := 0) (pc' := 77) ?_
    have hz75 : n0 ≤ T71.heap.size := by omega
    obtain ⟨cq75, kq75, q75a, q75b, q75c⟩ := isOf hZ eh74 Ei71
    obtain ⟨_, _, ⟨T75, L75, k75, n75⟩, -, X75, ⟨Lc75, hQ75, l75, y75, z75⟩, st75⟩ := X74.virtualBack hx (y := (⟨"com/example/moraine/moraine/compression/FseTable", "bits", "(I)I"⟩ : MethodName)) (z := (⟨"com/example/moraine/moraine/compression/FseTable", "bits", "(I)I"⟩ : MethodName)) hown (mvT hZ (hw _ (List.mem_of_getElem? (i := 62) rfl))) (mvT hZ (hw _ (List.mem_of_getElem? (i := 63) rfl))) (notFace_of_selects (args := #[]) (mvT hZ (hw _ (List.mem_of_getElem? (i := 65) rfl)))) (mvT hZ (hw _ (List.mem_of_getElem? (i := 65) rfl))) (mvT hZ (hw _ (List.mem_of_getElem? (i := 64) rfl))) (by decide) (backOf (W := 0) (rm_bits l Z a0 hw [] a64 ba 256 (oUp fb69 0 0) T71.heap n0 hz75 Fb71 Vb71 (by decide)) hZ (hw _ (List.mem_of_getElem? (i := 66) rfl)) (hw _ (List.mem_of_getElem? (i := 3) rfl)) (by decide) (by decide)) q75a q75c (g := (mkF m 77 #[.val (.int i0), .val (.int i1), .val (.int (8 : Int32)), .val (.int (i1 &&& (255 : Int32))), .val (.ref a58), .val (.ref a64)] [(.int (0 : Int32)), (.ref a64)])) rfl (by rw [hml]; rfl) (Steps.refl _) (argsL := [(.int (0 : Int32))]) (rest := []) (lenOf pd_0 rfl) rfl (by show 2 * 0 + _ ≤ _; exact Nat.le_of_eq rfl) (hb hby at_77) (fun _ _ => ⟨rfl, eh74, (by decide : 7 + 0 ≤ _), (by decide : 778 + 0 ≤ _)⟩)
    dsimp only [Pt.U, Pt.locs, Pt.cells, Pt.slots] at X75 l75 y75 z75 st75 hQ75
    subst l75 y75 z75
    obtain ⟨rfl, N75q, eh75⟩ := hQ75
    have N75 := Fr.app N74 N75q
    refine oSt st75 ?_
    show oGl p e below (T75.setTop (mkF m 80 #[.val (.int i0), .val (.int i1), .val (.int (8 : Int32)), .val (.int (i1 &&& (255 : Int32))), .val (.ref a58), .val (.ref a64)] [(.int (0 : Int32))])) _
    refine sifN X75 hx (hb hby at_80) rfl (teq (by decide : (0 : Int32) = (0 : Int32))).2 (pc' := 83) ?_
    refine saload X75 hx (hb hby at_83) rfl rfl rfl (pc' := 85) ?_
    refine siconst X75 hx (hb hby at_85) rfl rfl (z := 0) (pc' := 86) ?_
    have hz76 : n0 ≤ T71.heap.size := by omega
    obtain ⟨cq76, kq76, q76a, q76b, q76c⟩ := isOf hZ eh75 Ei71
    obtain ⟨_, _, ⟨T76, L76, k76, n76⟩, -, X76, ⟨Lc76, hQ76, l76, y76, z76⟩, st76⟩ := X75.virtualBack hx (y := (⟨"com/example/moraine/moraine/compression/FseTable", "baseline", "(I)I"⟩ : MethodName)) (z := (⟨"com/example/moraine/moraine/compression/FseTable", "baseline", "(I)I"⟩ : MethodName)) hown (mvT hZ (hw _ (List.mem_of_getElem? (i := 67) rfl))) (mvT hZ (hw _ (List.mem_of_getElem? (i := 68) rfl))) (notFace_of_selects (args := #[]) (mvT hZ (hw _ (List.mem_of_getElem? (i := 70) rfl)))) (mvT hZ (hw _ (List.mem_of_getElem? (i := 70) rfl))) (mvT hZ (hw _ (List.mem_of_getElem? (i := 69) rfl))) (by decide) (backOf (W := 0) (rm_baseline l Z a0 hw [] a64 la 256 (oUp fl69 0 0) T71.heap n0 hz76 Fc71 Vc71 (by decide)) hZ (hw _ (List.mem_of_getElem? (i := 71) rfl)) (hw _ (List.mem_of_getElem? (i := 3) rfl)) (by decide) (by decide)) q76a q76c (g := (mkF m 86 #[.val (.int i0), .val (.int i1), .val (.int (8 : Int32)), .val (.int (i1 &&& (255 : Int32))), .val (.ref a58), .val (.ref a64)] [(.int (0 : Int32)), (.ref a64)])) rfl (by rw [hml]; rfl) (Steps.refl _) (argsL := [(.int (0 : Int32))]) (rest := []) (lenOf pd_0 rfl) rfl (by show 2 * 0 + _ ≤ _; exact Nat.le_of_eq rfl) (hb hby at_86) (fun _ _ => ⟨rfl, eh75, (by decide : 7 + 0 ≤ _), (by decide : 778 + 0 ≤ _)⟩)
    dsimp only [Pt.U, Pt.locs, Pt.cells, Pt.slots] at X76 l76 y76 z76 st76 hQ76
    subst l76 y76 z76
    obtain ⟨rfl, N76q, eh76⟩ := hQ76
    have N76 := Fr.app N75 N76q
    refine oSt st76 ?_
    show oGl p e below (T76.setTop (mkF m 89 #[.val (.int i0), .val (.int i1), .val (.int (8 : Int32)), .val (.int (i1 &&& (255 : Int32))), .val (.ref a58), .val (.ref a64)] [(.int (0 : Int32))])) _
    refine sifN X76 hx (hb hby at_89) rfl (teq (by decide : (0 : Int32) = (0 : Int32))).2 (pc' := 92) ?_
    refine siconst X76 hx (hb hby at_92) rfl rfl (z := 1) (pc' := 93) ?_
    refine sgoto X76 hx (hb hby at_93) (by decide) (by decide)  (pc' := 97) ?_
    refine oRetN (t := .boolean) X76 hx Bd.notSynchronized Bd.returns (by simp) (hb hby at_97) (by decide) (by decide) ?_
    show Q_rmL Z i0 i1 h0 n0 _ T76.heap _
    rw [eh76]
    exact ⟨rfl, N76⟩
set_option maxRecDepth 65536 in
set_option maxHeartbeats 40000000 in
theorem comes_1 {Post : Tables → Env → Array Value → State → Outcome → State → Prop} (hpost : ∀ tb e args s v u, (limb_1_1.after args s (.returned v) u = true ∧ limb_1_2.after args s (.returned v) u = true ∧ True) → FrameEnd s (.returned v) u (Jvm.fieldLocs frame_1_writes args s ++ Jvm.arrayLocs frame_1_arrays args s ++ Jvm.staticLocs frame_1_statics s) 24 1664 → Post tb e args s (.returned v) u) :
    ArmFor flags0 classFile x code maxLocals ret World_1 tables_1 room_1 Calls_1 rest_1 Pre_1 Post := by
  intro l hfl _ _ p e ha hc hk s m args below hf hA hF happ hP
  obtain ⟨hcalls, hrest, hpre⟩ := hP
  obtain ⟨-, -, -, hnamed, -, -, -, hat⟩ := (Spec.applies_iff hf).mp happ
  obtain ⟨hg, hn⟩ := oAnd (show (Jvm.Cond.and given_1 narrow_1).before args s = true from hpre)
  obtain ⟨gc, hg0⟩ := oAnd hg
  obtain ⟨ga0, hg1⟩ := oAnd hg0
  have ga1 := hg1
  obtain ⟨w0, w1, rfl⟩ : ∃ w0 w1 : Value, args = #[w0, w1] := by
    have hs : args.size = 2 := by simpa [Cond.before, Cond.holds, Cond.value] using gc
    obtain ⟨L⟩ := args
    match L, hs with
    | [w0, w1], _ => exact ⟨w0, w1, rfl⟩
  obtain ⟨i0, rfl⟩ := oArgI ga0 rfl
  obtain ⟨i1, rfl⟩ := oArgI ga1 rfl
  have hw := fun d (hd : d ∈ tables_1) => atoms_spec (ws := Jvm.Cond.code x code maxLocals ret :: tables_1) hat d (List.mem_cons_of_mem _ hd)
  have hfit : Fit s := fun {y c} hc i hi => by
    obtain ⟨ha, rfl⟩ := Array.getElem?_eq_some_iff.mp hc
    have q := List.all_eq_true.mp ((Array.all_eq_true_iff_forall_mem.mp hF) _ (Array.getElem_mem ha)) i (List.mem_range.mpr hi)
    simpa [Array.getElem?_eq_getElem hi] using q
  obtain ⟨n, o, h1, h2, h3, _, L, rfl, ⟨rfl, N⟩, hq⟩ := rmL l s _ hw tables_1 i0 i1 s.heap s.heap.size (Nat.le_refl _) (Old.start s)   p e ha hc hk s m _ below hf ((Spec.applies_iff_loose hf).mp happ).1 ⟨rfl, State.Warmed39.refl s, rfl⟩ trivial
  refine ⟨n, _, h1, h2, h3, hpost _ _ _ _ _ _ ⟨Cond.after_iff.mpr rfl, Cond.after_iff.mpr (eq_i res_at (Term.int_eval (1)) rfl), trivial⟩ ⟨hq.1, hq.2.1, (hq.2.2.sift fun y hy => Or.inr (N y hy)).mono (by decide) (by decide)⟩⟩
theorem main_1_1 : Claimed_1_1 := comes_1 fun _ _ _ _ _ _ h hF => ⟨h.1, hF⟩
theorem main_1_2 : Claimed_1_2 := comes_1 fun _ _ _ _ _ _ h hF => ⟨h.2.1, hF⟩
end Jvm.Pilot.@@N@@
namespace Jvm.Pilot.@@N@@
open Jvm Jvm.ClassFile Sem Op Lib Jvm.Free Jvm.Stand Jvm.Pilot.@@N@@.Jvm.D
/-! MADE BY PROGRAM (witnessworld.py) out of the Statement's table words and the real class files: 17 classes; the members and pool entries that the words name. The judged class is class 1, her method 1. -/
namespace start1
open Jvm.ClassFile
def u (s : String) : CpInfo := .utf8 (stringToUtf16 s)
/-- a pool by its gaps: so many unusable entries, then the entry; so many at the end -/
def gap : Nat → List CpInfo → List CpInfo
  | 0, r => r
  | n + 1, r => .unusable :: gap n r
def poolList (es : List (Nat × CpInfo)) (last : Nat) : List CpInfo := es.foldr (fun e r => gap e.1 (e.2 :: r)) (gap last [])
def pool (es : List (Nat × CpInfo)) (last : Nat) : Array CpInfo := ⟨poolList es last⟩
def fileOf (pool : Array CpInfo) (this : Nat) (attrs : Array Attribute := #[]) (ms : Array MethodInfo := #[]) (fl : Nat := 33) (sup : Nat := 0) (ifs : Array Nat := #[]) (fds : Array FieldInfo := #[]) : ClassFile where
  minorVersion := 0
  majorVersion := 65
  constantPool := pool
  accessFlags := fl
  thisClass := this
  superClass := sup
  interfaces := ifs
  fields := fds
  methods := ms
  attributes := attrs
def plain (name : String) (sup : Option ClassId) : Class where
  name := name
  kind := .ordinary
  loader := none
  accessFlags := 33
  super := sup
  interfaces := #[]
  cf := none
  fields := #[]
  methods := #[]
  instanceTypes := #[]
  staticTypes := #[]
  resolved := #[]
  callSites := []
  init := .initialized
  statics := none
  mirror := none

def pool0 : Array CpInfo := pool [(5, u "<init>"), (0, u "()V"), (1, .class_ 10), (1, u "java/lang/Object")] 113

def k0c0 : Code := { maxStack := 0, maxLocals := 1, code := object_method_1_code, exceptionTable := #[], attributes := #[] }
def k0m0 : Method := { name := "<init>", desc := "()V", sig := { parameters := [], returnType := none }, accessFlags := 1, code := some k0c0 }
/-- java/lang/Object -/
def k0 : Class := { plain "java/lang/Object" none with
  accessFlags := 33
  interfaces := #[]
  cf := some (fileOf pool0 8 #[] #[{ accessFlags := 1, nameIndex := 5, descriptorIndex := 6, attributes := #[] }] 33 0 #[] #[])
  fields := #[]
  methods := #[k0m0]
  instanceTypes := #[]
  staticTypes := #[]
  resolved := Array.replicate 124 none
  statics := none }

def pool1 : Array CpInfo := pool [(2, .class_ 4), (1, u "java/lang/Object"), (0, u "<init>"), (0, u "()V"), (0, .class_ 8), (0, u "com/example/moraine/moraine/compression/FseTable"), (0, .methodref 7 10), (0, .nameAndType 5 11), (0, u "(I)V"), (0, .methodref 7 13), (0, .nameAndType 14 15), (0, u "read"), (0, u "([BIII)I"), (0, .methodref 7 17), (0, .nameAndType 18 11), (0, u "single"), (0, .methodref 7 20), (0, .nameAndType 21 22), (0, u "log"), (0, u "()I"), (0, .methodref 7 24), (0, .nameAndType 25 26), (0, u "symbol"), (0, u "(I)I"), (0, .methodref 7 28), (0, .nameAndType 29 26), (0, u "bits"), (0, .methodref 7 31), (0, .nameAndType 32 26), (0, u "baseline"), (0, .class_ 34), (0, u "com/example/moraine/moraine/compression/FseTableSinglePinLaw"), (2, u "law"), (0, u "(II)Z")] 8

def k1m0 : Method := { name := "<init>", desc := "()V", sig := { parameters := [], returnType := none }, accessFlags := 1, code := none }
def k1c1 : Code := { maxStack := 5, maxLocals := 6, code := code, exceptionTable := #[], attributes := #[] }
def k1m1 : Method := { name := "law", desc := "(II)Z", sig := { parameters := [.int, .int], returnType := some .boolean }, accessFlags := 9, code := some k1c1 }
/-- com/example/moraine/moraine/compression/FseTableSinglePinLaw -/
def k1 : Class := { plain "com/example/moraine/moraine/compression/FseTableSinglePinLaw" (some 0) with
  accessFlags := 49
  interfaces := #[]
  cf := some (fileOf pool1 33 #[] #[{ accessFlags := 1, nameIndex := 5, descriptorIndex := 6, attributes := #[] }, { accessFlags := 9, nameIndex := 37, descriptorIndex := 38, attributes := #[] }] 49 2 #[] #[])
  fields := #[]
  methods := #[k1m0, k1m1]
  instanceTypes := #[]
  staticTypes := #[]
  resolved := Array.replicate 47 none
  statics := none }

def pool2 : Array CpInfo := pool [(1, .methodref 2 3), (0, .class_ 4), (0, .nameAndType 5 6), (0, u "java/lang/Object"), (0, u "<init>"), (0, u "()V"), (0, .fieldref 8 9), (0, .class_ 10), (0, .nameAndType 11 12), (0, u "com/example/moraine/moraine/compression/FseTable"), (0, u "symbols"), (0, u "[B"), (0, .fieldref 8 14), (0, .nameAndType 15 12), (0, u "bits"), (0, .fieldref 8 17), (0, .nameAndType 18 19), (0, u "baselines"), (0, u "[S"), (2, u "(I)V"), (0, .methodref 8 24), (0, .nameAndType 25 26), (0, u "build"), (0, u "([SII)V"), (0, .fieldref 8 28), (0, .nameAndType 29 30), (0, u "log"), (0, u "I"), (4, u "read"), (0, u "(I)I"), (0, .methodref 8 38), (0, .nameAndType 39 40), (0, u "forward"), (0, u "([BIIII)I"), (0, .methodref 42 43), (0, .class_ 44), (0, .nameAndType 45 36), (0, u "java/lang/Integer"), (0, u "numberOfTrailingZeros"), (9, .methodref 8 56), (0, .nameAndType 57 58), (0, u "requireSymbol"), (0, u "(II)V"), (0, .methodref 60 61), (0, .class_ 62), (0, .nameAndType 63 36), (0, u "java/lang/Math"), (0, u "abs"), (7, .methodref 42 72), (0, .nameAndType 73 36), (0, u "numberOfLeadingZeros"), (6, u "LITERAL_LENGTHS"), (0, u "Lcom/example/moraine/moraine/compression/FseTable;"), (2, u "MATCH_LENGTHS"), (2, u "OFFSETS"), (0, u "LEAST_LOG"), (6, u "()I"), (0, u "symbol"), (0, u "baseline"), (2, u "single"), (0, u "([BIII)I")] 24

def k2c0 : Code := { maxStack := 3, maxLocals := 2, code := prog_7_method_1_code, exceptionTable := #[], attributes := #[] }
def k2m0 : Method := { name := "<init>", desc := "(I)V", sig := { parameters := [.int], returnType := none }, accessFlags := 0, code := some k2c0 }
def k2c1 : Code := { maxStack := 1, maxLocals := 1, code := prog_7_method_3_code, exceptionTable := #[], attributes := #[] }
def k2m1 : Method := { name := "log", desc := "()I", sig := { parameters := [], returnType := some .int }, accessFlags := 0, code := some k2c1 }
def k2c2 : Code := { maxStack := 2, maxLocals := 2, code := prog_7_method_4_code, exceptionTable := #[], attributes := #[] }
def k2m2 : Method := { name := "symbol", desc := "(I)I", sig := { parameters := [.int], returnType := some .int }, accessFlags := 0, code := some k2c2 }
def k2c3 : Code := { maxStack := 2, maxLocals := 2, code := prog_7_method_5_code, exceptionTable := #[], attributes := #[] }
def k2m3 : Method := { name := "bits", desc := "(I)I", sig := { parameters := [.int], returnType := some .int }, accessFlags := 0, code := some k2c3 }
def k2c4 : Code := { maxStack := 2, maxLocals := 2, code := prog_7_method_6_code, exceptionTable := #[], attributes := #[] }
def k2m4 : Method := { name := "baseline", desc := "(I)I", sig := { parameters := [.int], returnType := some .int }, accessFlags := 0, code := some k2c4 }
def k2c5 : Code := { maxStack := 3, maxLocals := 2, code := prog_7_method_8_code, exceptionTable := #[], attributes := #[] }
def k2m5 : Method := { name := "single", desc := "(I)V", sig := { parameters := [.int], returnType := none }, accessFlags := 0, code := some k2c5 }
def k2c6 : Code := { maxStack := 5, maxLocals := 18, code := prog_7_method_9_code, exceptionTable := #[], attributes := #[] }
def k2m6 : Method := { name := "read", desc := "([BIII)I", sig := { parameters := [(.array .byte), .int, .int, .int], returnType := some .int }, accessFlags := 0, code := some k2c6 }
def k2c7 : Code := { maxStack := 3, maxLocals := 2, code := prog_7_method_10_code, exceptionTable := #[], attributes := #[] }
def k2m7 : Method := { name := "requireSymbol", desc := "(II)V", sig := { parameters := [.int, .int], returnType := none }, accessFlags := 10, code := some k2c7 }
def k2c8 : Code := { maxStack := 4, maxLocals := 8, code := prog_7_method_11_code, exceptionTable := #[], attributes := #[] }
def k2m8 : Method := { name := "forward", desc := "([BIIII)I", sig := { parameters := [(.array .byte), .int, .int, .int, .int], returnType := some .int }, accessFlags := 10, code := some k2c8 }
def k2c9 : Code := { maxStack := 5, maxLocals := 12, code := prog_7_method_12_code, exceptionTable := #[], attributes := #[] }
def k2m9 : Method := { name := "build", desc := "([SII)V", sig := { parameters := [(.array .short), .int, .int], returnType := none }, accessFlags := 2, code := some k2c9 }
/-- com/example/moraine/moraine/compression/FseTable -/
def k2 : Class := { plain "com/example/moraine/moraine/compression/FseTable" (some 0) with
  accessFlags := 48
  interfaces := #[]
  cf := some (fileOf pool2 8 #[] #[{ accessFlags := 0, nameIndex := 5, descriptorIndex := 22, attributes := #[] }, { accessFlags := 0, nameIndex := 29, descriptorIndex := 95, attributes := #[] }, { accessFlags := 0, nameIndex := 96, descriptorIndex := 36, attributes := #[] }, { accessFlags := 0, nameIndex := 15, descriptorIndex := 36, attributes := #[] }, { accessFlags := 0, nameIndex := 97, descriptorIndex := 36, attributes := #[] }, { accessFlags := 0, nameIndex := 100, descriptorIndex := 22, attributes := #[] }, { accessFlags := 0, nameIndex := 35, descriptorIndex := 101, attributes := #[] }, { accessFlags := 10, nameIndex := 57, descriptorIndex := 58, attributes := #[] }, { accessFlags := 10, nameIndex := 39, descriptorIndex := 40, attributes := #[] }, { accessFlags := 2, nameIndex := 25, descriptorIndex := 26, attributes := #[] }] 48 2 #[] #[{ accessFlags := 26, nameIndex := 88, descriptorIndex := 30, attributes := #[] }, { accessFlags := 24, nameIndex := 80, descriptorIndex := 81, attributes := #[] }, { accessFlags := 24, nameIndex := 84, descriptorIndex := 81, attributes := #[] }, { accessFlags := 24, nameIndex := 87, descriptorIndex := 81, attributes := #[] }, { accessFlags := 18, nameIndex := 11, descriptorIndex := 12, attributes := #[] }, { accessFlags := 18, nameIndex := 15, descriptorIndex := 12, attributes := #[] }, { accessFlags := 18, nameIndex := 18, descriptorIndex := 19, attributes := #[] }, { accessFlags := 2, nameIndex := 29, descriptorIndex := 30, attributes := #[] }])
  fields := #[{ name := "LEAST_LOG", type := .int, accessFlags := 26, slot := 0, constantValue := 0 }, { name := "LITERAL_LENGTHS", type := (.object "com/example/moraine/moraine/compression/FseTable"), accessFlags := 24, slot := 1, constantValue := 0 }, { name := "MATCH_LENGTHS", type := (.object "com/example/moraine/moraine/compression/FseTable"), accessFlags := 24, slot := 2, constantValue := 0 }, { name := "OFFSETS", type := (.object "com/example/moraine/moraine/compression/FseTable"), accessFlags := 24, slot := 3, constantValue := 0 }, { name := "symbols", type := (.array .byte), accessFlags := 18, slot := 0, constantValue := 0 }, { name := "bits", type := (.array .byte), accessFlags := 18, slot := 1, constantValue := 0 }, { name := "baselines", type := (.array .short), accessFlags := 18, slot := 2, constantValue := 0 }, { name := "log", type := .int, accessFlags := 2, slot := 3, constantValue := 0 }]
  methods := #[k2m0, k2m1, k2m2, k2m3, k2m4, k2m5, k2m6, k2m7, k2m8, k2m9]
  instanceTypes := #[(.array .byte), (.array .byte), (.array .short), .int]
  staticTypes := #[.int, (.object "com/example/moraine/moraine/compression/FseTable"), (.object "com/example/moraine/moraine/compression/FseTable"), (.object "com/example/moraine/moraine/compression/FseTable")]
  resolved := Array.replicate 126 none
  statics := none }

def pool3 : Array CpInfo := pool [(1, .class_ 2), (0, u "java/io/Serializable"), (0, .class_ 4), (0, u "java/lang/Object")] 2

/-- java/io/Serializable -/
def k3 : Class := { plain "java/io/Serializable" (some 0) with
  accessFlags := 1537
  interfaces := #[]
  cf := some (fileOf pool3 1 #[] #[] 1537 3 #[] #[])
  fields := #[]
  methods := #[]
  instanceTypes := #[]
  staticTypes := #[]
  resolved := Array.replicate 7 none
  statics := none }

def pool4 : Array CpInfo := pool [(2, .class_ 4), (1, u "java/lang/Object"), (0, u "<init>"), (0, u "()V"), (1, .class_ 10), (1, u "java/lang/Number"), (2, .class_ 14), (0, u "java/io/Serializable"), (0, u "serialVersionUID"), (0, u "J")] 20

def k4m0 : Method := { name := "<init>", desc := "()V", sig := { parameters := [], returnType := none }, accessFlags := 1, code := none }
/-- java/lang/Number -/
def k4 : Class := { plain "java/lang/Number" (some 0) with
  accessFlags := 1057
  interfaces := #[3]
  cf := some (fileOf pool4 8 #[] #[{ accessFlags := 1, nameIndex := 5, descriptorIndex := 6, attributes := #[] }] 1057 2 #[13] #[{ accessFlags := 26, nameIndex := 15, descriptorIndex := 16, attributes := #[] }])
  fields := #[{ name := "serialVersionUID", type := .long, accessFlags := 26, slot := 0, constantValue := 0 }]
  methods := #[k4m0]
  instanceTypes := #[]
  staticTypes := #[.long]
  resolved := Array.replicate 37 none
  statics := none }

def pool5 : Array CpInfo := pool [(1, .class_ 2), (0, u "java/lang/Comparable"), (0, .class_ 4), (0, u "java/lang/Object")] 7

/-- java/lang/Comparable -/
def k5 : Class := { plain "java/lang/Comparable" (some 0) with
  accessFlags := 1537
  interfaces := #[]
  cf := some (fileOf pool5 1 #[] #[] 1537 3 #[] #[])
  fields := #[]
  methods := #[]
  instanceTypes := #[]
  staticTypes := #[]
  resolved := Array.replicate 12 none
  statics := none }

def pool6 : Array CpInfo := pool [(1, .class_ 2), (0, u "java/lang/constant/Constable"), (0, .class_ 4), (0, u "java/lang/Object")] 6

/-- java/lang/constant/Constable -/
def k6 : Class := { plain "java/lang/constant/Constable" (some 0) with
  accessFlags := 1537
  interfaces := #[]
  cf := some (fileOf pool6 1 #[] #[] 1537 3 #[] #[])
  fields := #[]
  methods := #[]
  instanceTypes := #[]
  staticTypes := #[]
  resolved := Array.replicate 11 none
  statics := none }

def pool7 : Array CpInfo := pool [(1, .class_ 2), (0, u "java/lang/constant/ConstantDesc"), (0, .class_ 4), (0, u "java/lang/Object")] 32

/-- java/lang/constant/ConstantDesc -/
def k7 : Class := { plain "java/lang/constant/ConstantDesc" (some 0) with
  accessFlags := 1537
  interfaces := #[]
  cf := some (fileOf pool7 1 #[] #[] 1537 3 #[] #[])
  fields := #[]
  methods := #[]
  instanceTypes := #[]
  staticTypes := #[]
  resolved := Array.replicate 37 none
  statics := none }

def pool8 : Array CpInfo := pool [(1, .class_ 2), (0, u "java/lang/Integer"), (16, u "digits"), (0, u "[C"), (32, u "numberOfLeadingZeros"), (0, u "(I)I"), (30, u "DigitOnes"), (0, u "[B"), (2, u "DigitTens"), (99, .class_ 190), (0, u "java/lang/Integer$IntegerCache"), (3, u "I"), (8, .class_ 204), (0, u "java/lang/Number"), (2, u "value"), (56, .integer 65536), (37, u "TYPE"), (0, u "Ljava/lang/Class;"), (0, .class_ 305), (0, u "java/lang/Comparable"), (0, .class_ 307), (0, u "java/lang/constant/Constable"), (0, .class_ 309), (0, u "java/lang/constant/ConstantDesc"), (0, u "MIN_VALUE"), (1, u "MAX_VALUE"), (3, u "SIZE"), (1, u "BYTES"), (1, u "serialVersionUID"), (0, u "J"), (84, u "numberOfTrailingZeros")] 46

def k8c0 : Code := { maxStack := 3, maxLocals := 2, code := jdk_33_method_47_code, exceptionTable := #[], attributes := #[] }
def k8m0 : Method := { name := "numberOfLeadingZeros", desc := "(I)I", sig := { parameters := [.int], returnType := some .int }, accessFlags := 9, code := some k8c0 }
def k8c1 : Code := { maxStack := 3, maxLocals := 2, code := jdk_33_method_48_code, exceptionTable := #[], attributes := #[] }
def k8m1 : Method := { name := "numberOfTrailingZeros", desc := "(I)I", sig := { parameters := [.int], returnType := some .int }, accessFlags := 9, code := some k8c1 }
/-- java/lang/Integer -/
def k8 : Class := { plain "java/lang/Integer" (some 4) with
  accessFlags := 49
  interfaces := #[5, 6, 7]
  cf := some (fileOf pool8 1 #[.nestMembers #[189]] #[{ accessFlags := 9, nameIndex := 53, descriptorIndex := 54, attributes := #[] }, { accessFlags := 9, nameIndex := 406, descriptorIndex := 54, attributes := #[] }] 49 203 #[304, 306, 308] #[{ accessFlags := 25, nameIndex := 310, descriptorIndex := 194, attributes := #[] }, { accessFlags := 25, nameIndex := 312, descriptorIndex := 194, attributes := #[] }, { accessFlags := 25, nameIndex := 302, descriptorIndex := 303, attributes := #[] }, { accessFlags := 24, nameIndex := 19, descriptorIndex := 20, attributes := #[] }, { accessFlags := 24, nameIndex := 89, descriptorIndex := 86, attributes := #[] }, { accessFlags := 24, nameIndex := 85, descriptorIndex := 86, attributes := #[] }, { accessFlags := 18, nameIndex := 207, descriptorIndex := 194, attributes := #[] }, { accessFlags := 25, nameIndex := 316, descriptorIndex := 194, attributes := #[] }, { accessFlags := 25, nameIndex := 318, descriptorIndex := 194, attributes := #[] }, { accessFlags := 26, nameIndex := 320, descriptorIndex := 321, attributes := #[] }])
  fields := #[{ name := "MIN_VALUE", type := .int, accessFlags := 25, slot := 0, constantValue := 0 }, { name := "MAX_VALUE", type := .int, accessFlags := 25, slot := 1, constantValue := 0 }, { name := "TYPE", type := (.object "java/lang/Class"), accessFlags := 25, slot := 2, constantValue := 0 }, { name := "digits", type := (.array .char), accessFlags := 24, slot := 3, constantValue := 0 }, { name := "DigitTens", type := (.array .byte), accessFlags := 24, slot := 4, constantValue := 0 }, { name := "DigitOnes", type := (.array .byte), accessFlags := 24, slot := 5, constantValue := 0 }, { name := "value", type := .int, accessFlags := 18, slot := 0, constantValue := 0 }, { name := "SIZE", type := .int, accessFlags := 25, slot := 6, constantValue := 0 }, { name := "BYTES", type := .int, accessFlags := 25, slot := 7, constantValue := 0 }, { name := "serialVersionUID", type := .long, accessFlags := 26, slot := 8, constantValue := 0 }]
  methods := #[k8m0, k8m1]
  instanceTypes := #[.int]
  staticTypes := #[.int, .int, (.object "java/lang/Class"), (.array .char), (.array .byte), (.array .byte), .int, .int, .long]
  resolved := Array.replicate 453 none
  statics := none }

def pool9 : Array CpInfo := pool [(1, .class_ 2), (0, u "java/lang/Math"), (1, .class_ 6), (1, u "java/lang/Object"), (0, u "<init>"), (0, u "()V"), (89, .class_ 100), (1, u "java/lang/Math$RandomNumberGeneratorHolder"), (23, u "abs"), (34, u "(I)I"), (12, u "negativeZeroFloatBits"), (0, u "J"), (2, u "negativeZeroDoubleBits"), (68, u "$assertionsDisabled"), (0, u "Z"), (91, u "twoToTheDoubleScaleDown"), (0, u "D"), (4, u "twoToTheDoubleScaleUp"), (9, u "E"), (3, u "PI"), (2, u "TAU"), (2, u "DEGREES_TO_RADIANS"), (0, u "RADIANS_TO_DEGREES")] 94

def k9m0 : Method := { name := "<init>", desc := "()V", sig := { parameters := [], returnType := none }, accessFlags := 2, code := none }
def k9c1 : Code := { maxStack := 1, maxLocals := 1, code := jdk_29_method_59_code, exceptionTable := #[], attributes := #[] }
def k9m1 : Method := { name := "abs", desc := "(I)I", sig := { parameters := [.int], returnType := some .int }, accessFlags := 9, code := some k9c1 }
/-- java/lang/Math -/
def k9 : Class := { plain "java/lang/Math" (some 0) with
  accessFlags := 49
  interfaces := #[]
  cf := some (fileOf pool9 1 #[.nestMembers #[98]] #[{ accessFlags := 2, nameIndex := 7, descriptorIndex := 8, attributes := #[] }, { accessFlags := 9, nameIndex := 124, descriptorIndex := 159, attributes := #[] }] 49 4 #[] #[{ accessFlags := 25, nameIndex := 354, descriptorIndex := 339, attributes := #[] }, { accessFlags := 25, nameIndex := 358, descriptorIndex := 339, attributes := #[] }, { accessFlags := 25, nameIndex := 361, descriptorIndex := 339, attributes := #[] }, { accessFlags := 26, nameIndex := 364, descriptorIndex := 339, attributes := #[] }, { accessFlags := 26, nameIndex := 365, descriptorIndex := 339, attributes := #[] }, { accessFlags := 26, nameIndex := 172, descriptorIndex := 173, attributes := #[] }, { accessFlags := 26, nameIndex := 176, descriptorIndex := 173, attributes := #[] }, { accessFlags := 8, nameIndex := 344, descriptorIndex := 339, attributes := #[] }, { accessFlags := 8, nameIndex := 338, descriptorIndex := 339, attributes := #[] }, { accessFlags := 4120, nameIndex := 245, descriptorIndex := 246, attributes := #[] }])
  fields := #[{ name := "E", type := .double, accessFlags := 25, slot := 0, constantValue := 0 }, { name := "PI", type := .double, accessFlags := 25, slot := 1, constantValue := 0 }, { name := "TAU", type := .double, accessFlags := 25, slot := 2, constantValue := 0 }, { name := "DEGREES_TO_RADIANS", type := .double, accessFlags := 26, slot := 3, constantValue := 0 }, { name := "RADIANS_TO_DEGREES", type := .double, accessFlags := 26, slot := 4, constantValue := 0 }, { name := "negativeZeroFloatBits", type := .long, accessFlags := 26, slot := 5, constantValue := 0 }, { name := "negativeZeroDoubleBits", type := .long, accessFlags := 26, slot := 6, constantValue := 0 }, { name := "twoToTheDoubleScaleUp", type := .double, accessFlags := 8, slot := 7, constantValue := 0 }, { name := "twoToTheDoubleScaleDown", type := .double, accessFlags := 8, slot := 8, constantValue := 0 }, { name := "$assertionsDisabled", type := .boolean, accessFlags := 4120, slot := 9, constantValue := 0 }]
  methods := #[k9m0, k9m1]
  instanceTypes := #[]
  staticTypes := #[.double, .double, .double, .double, .double, .long, .long, .double, .double, .boolean]
  resolved := Array.replicate 460 none
  statics := none }

def pool10 : Array CpInfo := pool [(1, u "java/lang/Cloneable"), (0, .class_ 1), (0, u "java/lang/Object"), (0, .class_ 3)] 3

/-- java/lang/Cloneable -/
def k10 : Class := { plain "java/lang/Cloneable" (some 0) with
  accessFlags := 1537
  interfaces := #[]
  cf := some (fileOf pool10 2 #[] #[] 1537 4 #[] #[])
  fields := #[]
  methods := #[]
  instanceTypes := #[]
  staticTypes := #[]
  resolved := Array.replicate 8 none
  statics := none }

/-- the primitive byte -/
def k11 : Class := { plain "byte" none with kind := .primitive 'B', accessFlags := 0x411 }
/-- [B -/
def k12 : Class := { plain "[B" (some 0) with kind := .array 11 .byte, interfaces := #[10, 3], accessFlags := 1041 }

/-- the primitive int -/
def k13 : Class := { plain "int" none with kind := .primitive 'I', accessFlags := 0x411 }
/-- [I -/
def k14 : Class := { plain "[I" (some 0) with kind := .array 13 .int, interfaces := #[10, 3], accessFlags := 1041 }

/-- the primitive short -/
def k15 : Class := { plain "short" none with kind := .primitive 'S', accessFlags := 0x411 }
/-- [S -/
def k16 : Class := { plain "[S" (some 0) with kind := .array 15 .short, interfaces := #[10, 3], accessFlags := 1041 }

def heap : Heap := #[]
def classes : Array Class := #[k0, k1, k2, k3, k4, k5, k6, k7, k8, k9, k10, k11, k12, k13, k14, k15, k16]
def interned : List (Array UInt16 × Addr) := []
def slotsUsed : Nat := 0
def theMethod : MethodId := ⟨1, 1⟩
def args0 : Array Value := #[.int 5, .int 7]
def aboutOver (below : List Frame) : State where
  vm := { classes := classes, interned := interned.toArray }
  heap := heap
  slotsUsed := slotsUsed
  threads := #[{ frames := .invoking theMethod args0 :: below }]
def below0 : List Frame := [.native { method := ⟨0, 0⟩, args := #[] }]
def about1 : State := aboutOver below0
def p0 : Program := .bare "" "" ""
def e0 : Env := launch0.env 0 0 0
theorem w_frames : about1.frames = Frame.invoking theMethod args0 :: below0 := rfl
set_option maxRecDepth 65536 in
theorem w_args : argsFit about1.vm theMethod args0 = true := by decide +kernel
set_option maxRecDepth 65536 in
theorem w_heap : heapFits about1 = true := by decide +kernel
set_option maxRecDepth 65536 in
theorem w_runnable : about1.curStatus? = some .runnable := by decide +kernel
set_option maxRecDepth 65536 in
theorem w_alone : about1.alone = true := by decide +kernel
set_option maxRecDepth 65536 in
theorem w_named : about1.methodNamed? x = some theMethod := by decide +kernel
set_option maxRecDepth 65536 in
theorem w_hears : about1.hears theMethod below0 = true := by decide +kernel
set_option maxRecDepth 65536 in
theorem w_ripe : about1.ripe theMethod args0 below0 = true := by decide +kernel
theorem w_running : about1.status = .running := rfl
set_option maxRecDepth 65536 in
theorem w_room : about1.hasRoom e0.platform room_1 = true :=
  launch0.hasRoom_least _ room_1 (by decide +kernel) (by decide +kernel) (by decide +kernel) (by decide +kernel) (by decide +kernel) (by decide +kernel)
theorem allAtoms_all (ts : List Jvm.Cond) (a : Array Jvm.Value) (st : Jvm.State) : (allAtoms ts).before a st = ts.all (fun c => c.before a st) := by
  induction ts with
  | nil => rfl
  | cons c t ih =>
    show (Jvm.Cond.and c (allAtoms t)).before a st = _
    rw [Jvm.Cond.before_and, ih, List.all_cons]
def words1 : List Jvm.Cond := Jvm.Cond.code x code maxLocals ret :: tables_1
/-- a 'code' word, met by the world's own term for the bytes: nothing is compared byte by byte -/
theorem code_word {y : MethodName} {bytes : ByteArray} {mx : Nat} {rt : Option FieldType} {a : Array Value} {s : State} {m : MethodId} {meth : Method} {c : Code} (h1 : s.methodNamed? y = some m) (h2 : s.vm.method? m = some meth) (h3 : meth.code = some c) (h4 : c.code = bytes)
    (h5 : (c.maxLocals == mx && c.exceptionTable.isEmpty && decide (c.maxStack ≤ mostOperands) && decide (meth.sig.returnType = rt) && !meth.locks && decide (parseMethodDescriptor y.desc = some meth.sig)) = true) : (Jvm.Cond.code y bytes mx rt).before a s = true := by
  simp only [Bool.and_eq_true, beq_iff_eq, Bool.not_eq_true', decide_eq_true_eq] at h5
  obtain ⟨⟨⟨⟨⟨g1, g2⟩, g3⟩, g4⟩, g5⟩, g6⟩ := h5
  simp [Cond.before, Cond.holds, Cond.value, h1, h2, h3, h4, g1, g2, g3, g4, g5, g6]
def isCode : Jvm.Cond → Bool
  | .code _ _ _ _ => true
  | _ => false
theorem all_split {L : List Jvm.Cond} {P : Jvm.Cond → Bool} (h1 : L.all (fun c => isCode c || P c) = true) (h2 : ∀ c ∈ L.filter isCode, P c = true) : L.all P = true := by
  refine List.all_eq_true.mpr fun c hc => ?_
  have h := List.all_eq_true.mp h1 c hc
  rcases Bool.eq_false_or_eq_true (isCode c) with hi | hi
  · exact h2 c (List.mem_filter.mpr ⟨hc, hi⟩)
  · simpa [hi] using h
set_option maxRecDepth 65536 in
theorem w_c0 : (Jvm.Cond.code x code maxLocals ret).before args0 about1 = true := code_word (m := ⟨1, 1⟩) (meth := k1m1) (c := k1c1) (by decide +kernel) rfl rfl rfl (by decide +kernel)
set_option maxRecDepth 65536 in
theorem w_c1 : (Jvm.Cond.code ({ cls := "com/example/moraine/moraine/compression/FseTable", name := "<init>", desc := "(I)V" } : Jvm.MethodName) prog_7_method_1_code (2 : Nat) (Option.none : Option Jvm.ClassFile.FieldType)).before args0 about1 = true := code_word (m := ⟨2, 0⟩) (meth := k2m0) (c := k2c0) (by decide +kernel) rfl rfl rfl (by decide +kernel)
set_option maxRecDepth 65536 in
theorem w_c2 : (Jvm.Cond.code ({ cls := "java/lang/Object", name := "<init>", desc := "()V" } : Jvm.MethodName) object_method_1_code (1 : Nat) (Option.none : Option Jvm.ClassFile.FieldType)).before args0 about1 = true := code_word (m := ⟨0, 0⟩) (meth := k0m0) (c := k0c0) (by decide +kernel) rfl rfl rfl (by decide +kernel)
set_option maxRecDepth 65536 in
theorem w_c3 : (Jvm.Cond.code ({ cls := "com/example/moraine/moraine/compression/FseTable", name := "read", desc := "([BIII)I" } : Jvm.MethodName) prog_7_method_9_code (18 : Nat) (Option.some Jvm.ClassFile.FieldType.int)).before args0 about1 = true := code_word (m := ⟨2, 6⟩) (meth := k2m6) (c := k2c6) (by decide +kernel) rfl rfl rfl (by decide +kernel)
set_option maxRecDepth 65536 in
theorem w_c4 : (Jvm.Cond.code ({ cls := "com/example/moraine/moraine/compression/FseTable", name := "forward", desc := "([BIIII)I" } : Jvm.MethodName) prog_7_method_11_code (8 : Nat) (Option.some Jvm.ClassFile.FieldType.int)).before args0 about1 = true := code_word (m := ⟨2, 8⟩) (meth := k2m8) (c := k2c8) (by decide +kernel) rfl rfl rfl (by decide +kernel)
set_option maxRecDepth 65536 in
theorem w_c5 : (Jvm.Cond.code ({ cls := "java/lang/Integer", name := "numberOfTrailingZeros", desc := "(I)I" } : Jvm.MethodName) jdk_33_method_48_code (2 : Nat) (Option.some Jvm.ClassFile.FieldType.int)).before args0 about1 = true := code_word (m := ⟨8, 1⟩) (meth := k8m1) (c := k8c1) (by decide +kernel) rfl rfl rfl (by decide +kernel)
set_option maxRecDepth 65536 in
theorem w_c6 : (Jvm.Cond.code ({ cls := "com/example/moraine/moraine/compression/FseTable", name := "requireSymbol", desc := "(II)V" } : Jvm.MethodName) prog_7_method_10_code (2 : Nat) (Option.none : Option Jvm.ClassFile.FieldType)).before args0 about1 = true := code_word (m := ⟨2, 7⟩) (meth := k2m7) (c := k2c7) (by decide +kernel) rfl rfl rfl (by decide +kernel)
set_option maxRecDepth 65536 in
theorem w_c7 : (Jvm.Cond.code ({ cls := "java/lang/Math", name := "abs", desc := "(I)I" } : Jvm.MethodName) jdk_29_method_59_code (1 : Nat) (Option.some Jvm.ClassFile.FieldType.int)).before args0 about1 = true := code_word (m := ⟨9, 1⟩) (meth := k9m1) (c := k9c1) (by decide +kernel) rfl rfl rfl (by decide +kernel)
set_option maxRecDepth 65536 in
theorem w_c8 : (Jvm.Cond.code ({ cls := "com/example/moraine/moraine/compression/FseTable", name := "build", desc := "([SII)V" } : Jvm.MethodName) prog_7_method_12_code (12 : Nat) (Option.none : Option Jvm.ClassFile.FieldType)).before args0 about1 = true := code_word (m := ⟨2, 9⟩) (meth := k2m9) (c := k2c9) (by decide +kernel) rfl rfl rfl (by decide +kernel)
set_option maxRecDepth 65536 in
theorem w_c9 : (Jvm.Cond.code ({ cls := "java/lang/Integer", name := "numberOfLeadingZeros", desc := "(I)I" } : Jvm.MethodName) jdk_33_method_47_code (2 : Nat) (Option.some Jvm.ClassFile.FieldType.int)).before args0 about1 = true := code_word (m := ⟨8, 0⟩) (meth := k8m0) (c := k8c0) (by decide +kernel) rfl rfl rfl (by decide +kernel)
set_option maxRecDepth 65536 in
theorem w_c10 : (Jvm.Cond.code ({ cls := "com/example/moraine/moraine/compression/FseTable", name := "single", desc := "(I)V" } : Jvm.MethodName) prog_7_method_8_code (2 : Nat) (Option.none : Option Jvm.ClassFile.FieldType)).before args0 about1 = true := code_word (m := ⟨2, 5⟩) (meth := k2m5) (c := k2c5) (by decide +kernel) rfl rfl rfl (by decide +kernel)
set_option maxRecDepth 65536 in
theorem w_c11 : (Jvm.Cond.code ({ cls := "com/example/moraine/moraine/compression/FseTable", name := "log", desc := "()I" } : Jvm.MethodName) prog_7_method_3_code (1 : Nat) (Option.some Jvm.ClassFile.FieldType.int)).before args0 about1 = true := code_word (m := ⟨2, 1⟩) (meth := k2m1) (c := k2c1) (by decide +kernel) rfl rfl rfl (by decide +kernel)
set_option maxRecDepth 65536 in
theorem w_c12 : (Jvm.Cond.code ({ cls := "com/example/moraine/moraine/compression/FseTable", name := "symbol", desc := "(I)I" } : Jvm.MethodName) prog_7_method_4_code (2 : Nat) (Option.some Jvm.ClassFile.FieldType.int)).before args0 about1 = true := code_word (m := ⟨2, 2⟩) (meth := k2m2) (c := k2c2) (by decide +kernel) rfl rfl rfl (by decide +kernel)
set_option maxRecDepth 65536 in
theorem w_c13 : (Jvm.Cond.code ({ cls := "com/example/moraine/moraine/compression/FseTable", name := "bits", desc := "(I)I" } : Jvm.MethodName) prog_7_method_5_code (2 : Nat) (Option.some Jvm.ClassFile.FieldType.int)).before args0 about1 = true := code_word (m := ⟨2, 3⟩) (meth := k2m3) (c := k2c3) (by decide +kernel) rfl rfl rfl (by decide +kernel)
set_option maxRecDepth 65536 in
theorem w_c14 : (Jvm.Cond.code ({ cls := "com/example/moraine/moraine/compression/FseTable", name := "baseline", desc := "(I)I" } : Jvm.MethodName) prog_7_method_6_code (2 : Nat) (Option.some Jvm.ClassFile.FieldType.int)).before args0 about1 = true := code_word (m := ⟨2, 4⟩) (meth := k2m4) (c := k2c4) (by decide +kernel) rfl rfl rfl (by decide +kernel)
def codes1 : List Jvm.Cond := [Jvm.Cond.code x code maxLocals ret, Jvm.Cond.code ({ cls := "com/example/moraine/moraine/compression/FseTable", name := "<init>", desc := "(I)V" } : Jvm.MethodName) prog_7_method_1_code (2 : Nat) (Option.none : Option Jvm.ClassFile.FieldType), Jvm.Cond.code ({ cls := "java/lang/Object", name := "<init>", desc := "()V" } : Jvm.MethodName) object_method_1_code (1 : Nat) (Option.none : Option Jvm.ClassFile.FieldType), Jvm.Cond.code ({ cls := "com/example/moraine/moraine/compression/FseTable", name := "read", desc := "([BIII)I" } : Jvm.MethodName) prog_7_method_9_code (18 : Nat) (Option.some Jvm.ClassFile.FieldType.int), Jvm.Cond.code ({ cls := "com/example/moraine/moraine/compression/FseTable", name := "forward", desc := "([BIIII)I" } : Jvm.MethodName) prog_7_method_11_code (8 : Nat) (Option.some Jvm.ClassFile.FieldType.int), Jvm.Cond.code ({ cls := "java/lang/Integer", name := "numberOfTrailingZeros", desc := "(I)I" } : Jvm.MethodName) jdk_33_method_48_code (2 : Nat) (Option.some Jvm.ClassFile.FieldType.int), Jvm.Cond.code ({ cls := "com/example/moraine/moraine/compression/FseTable", name := "requireSymbol", desc := "(II)V" } : Jvm.MethodName) prog_7_method_10_code (2 : Nat) (Option.none : Option Jvm.ClassFile.FieldType), Jvm.Cond.code ({ cls := "java/lang/Math", name := "abs", desc := "(I)I" } : Jvm.MethodName) jdk_29_method_59_code (1 : Nat) (Option.some Jvm.ClassFile.FieldType.int), Jvm.Cond.code ({ cls := "com/example/moraine/moraine/compression/FseTable", name := "build", desc := "([SII)V" } : Jvm.MethodName) prog_7_method_12_code (12 : Nat) (Option.none : Option Jvm.ClassFile.FieldType), Jvm.Cond.code ({ cls := "java/lang/Integer", name := "numberOfLeadingZeros", desc := "(I)I" } : Jvm.MethodName) jdk_33_method_47_code (2 : Nat) (Option.some Jvm.ClassFile.FieldType.int), Jvm.Cond.code ({ cls := "com/example/moraine/moraine/compression/FseTable", name := "single", desc := "(I)V" } : Jvm.MethodName) prog_7_method_8_code (2 : Nat) (Option.none : Option Jvm.ClassFile.FieldType), Jvm.Cond.code ({ cls := "com/example/moraine/moraine/compression/FseTable", name := "log", desc := "()I" } : Jvm.MethodName) prog_7_method_3_code (1 : Nat) (Option.some Jvm.ClassFile.FieldType.int), Jvm.Cond.code ({ cls := "com/example/moraine/moraine/compression/FseTable", name := "symbol", desc := "(I)I" } : Jvm.MethodName) prog_7_method_4_code (2 : Nat) (Option.some Jvm.ClassFile.FieldType.int), Jvm.Cond.code ({ cls := "com/example/moraine/moraine/compression/FseTable", name := "bits", desc := "(I)I" } : Jvm.MethodName) prog_7_method_5_code (2 : Nat) (Option.some Jvm.ClassFile.FieldType.int), Jvm.Cond.code ({ cls := "com/example/moraine/moraine/compression/FseTable", name := "baseline", desc := "(I)I" } : Jvm.MethodName) prog_7_method_6_code (2 : Nat) (Option.some Jvm.ClassFile.FieldType.int)]
set_option maxRecDepth 65536 in
theorem codes_eq : words1.filter isCode = codes1 := rfl
theorem w_codes : ∀ c ∈ words1.filter isCode, c.before args0 about1 = true := by
  rw [codes_eq]
  intro c hc
  simp only [codes1, List.mem_cons, List.not_mem_nil, or_false] at hc
  rcases hc with rfl | rfl | rfl | rfl | rfl | rfl | rfl | rfl | rfl | rfl | rfl | rfl | rfl | rfl | rfl
  · exact w_c0
  · exact w_c1
  · exact w_c2
  · exact w_c3
  · exact w_c4
  · exact w_c5
  · exact w_c6
  · exact w_c7
  · exact w_c8
  · exact w_c9
  · exact w_c10
  · exact w_c11
  · exact w_c12
  · exact w_c13
  · exact w_c14
set_option maxRecDepth 65536 in
theorem w_t1 : (words1.take 24).all (fun c => isCode c || c.before args0 about1) = true := by decide +kernel
set_option maxRecDepth 65536 in
theorem w_t2 : ((words1.drop 24).take 24).all (fun c => isCode c || c.before args0 about1) = true := by decide +kernel
set_option maxRecDepth 65536 in
theorem w_t3 : (((words1.drop 24).drop 24).take 24).all (fun c => isCode c || c.before args0 about1) = true := by decide +kernel
set_option maxRecDepth 65536 in
theorem w_t4 : (((words1.drop 24).drop 24).drop 24).all (fun c => isCode c || c.before args0 about1) = true := by decide +kernel
theorem w_tables : (allAtoms (Jvm.Cond.code x code maxLocals ret :: tables_1)).before args0 about1 = true := by
  rw [allAtoms_all]
  show words1.all (fun c => c.before args0 about1) = true
  refine all_split ?_ w_codes
  rw [← List.take_append_drop 24 words1, List.all_append, w_t1, ← List.take_append_drop 24 (words1.drop 24), List.all_append, w_t2, ← List.take_append_drop 24 ((words1.drop 24).drop 24), List.all_append, w_t3, w_t4]
  rfl
set_option maxRecDepth 65536 in
theorem w_case : (Jvm.Cond.and given_1 narrow_1).before args0 about1 = true := by decide +kernel
theorem w_applies : (headSpec (Jvm.Cond.code x code maxLocals ret :: tables_1) room_1).applies x e0.platform about1 = true :=
  (Spec.applies_iff w_frames).mpr ⟨w_running, w_runnable, w_alone, w_named, w_hears, w_ripe, w_room, w_tables⟩
theorem atStart : AtStart classFile x code maxLocals ret World_1 tables_1 room_1 Calls_1 rest_1 Pre_1 launch0 p0 e0 about1 theMethod args0 below0 :=
  ⟨lists_1, trivial, launch0.admits_env _ _ _, launch0.least_env, fairChoices_fair.cas, fairChoices_fair.clock, w_frames, w_args, w_heap, w_applies, trivial, trivial, w_case⟩
end start1
theorem witness_1 : WitnessClaimed_1 := ⟨start1.p0, start1.e0, start1.about1, start1.theMethod, start1.args0, start1.below0, start1.atStart⟩
end Jvm.Pilot.@@N@@
