import JvmDerived
import JvmDerived.Pilot.@@N@@Statement
import JvmDerived.Pilot.@@N@@Code
set_option linter.unusedVariables false
set_option linter.unusedSimpArgs false
namespace Jvm.Pilot.@@N@@
open Jvm Jvm.ClassFile Sem Op Lib Jvm.Free Jvm.Stand Jvm.LawKit Jvm.RoadKit Bundle Jvm.Pilot.@@N@@.Jvm.D
section OwnKit
variable {p : Program} {l : Launch} {e : Env} {R : Room} {s : State} {m : MethodId} {args : Array Value} {below : List Frame} {meth : Method} {c : Code} {T : State} {locs : List Loc} {cells slots : Nat} {Z : State} {h h' : Heap} {a b : Addr} {ty : FieldType}
/-- from S the run comes to a state of which F holds -/
def oGl (p : Program) (e : Env) (below : List Frame) (S : State) (F : State → Prop) : Prop := ∃ t, Steps p.tables e below S t ∧ F t
theorem oOn {S S' : State} {F : State → Prop} (st : ∀ t, Steps p.tables e below S' t → Steps p.tables e below S t) (k : oGl p e below S' F) : oGl p e below S F := by
  obtain ⟨t, k1, k2⟩ := k; exact ⟨t, st t k1, k2⟩
theorem oSt {S S' : State} {F : State → Prop} (st : Steps p.tables e below S S') (k : oGl p e below S' F) : oGl p e below S F := by
  obtain ⟨t, k1, k2⟩ := k; exact ⟨t, st.trans k1, k2⟩
theorem oCast {g g' : JFrame} {F : State → Prop} (q : g = g') (k : oGl p e below (T.setTop g') F) : oGl p e below (T.setTop g) F := q ▸ k
def oFin (s : State) (below : List Frame) (Q : Option Value → Heap → List Loc → Prop) (C S : Nat) (t : State) : Prop := ∃ o, t.status = .running ∧ Ended t below o ∧ ∃ v L, o = .returned v ∧ Q v t.heap L ∧ FrameEnd s o t L C S
theorem oEnter {S0 : State} {Q : Option Value → Heap → List Loc → Prop} {C S : Nat} (k : oGl p e below S0 (oFin s below Q C S)) : ∃ s₂ o, Steps p.tables e below S0 s₂ ∧ s₂.status = .running ∧ Ended s₂ below o ∧ ∃ v L, o = .returned v ∧ Q v s₂.heap L ∧ FrameEnd s o s₂ L C S := by
  obtain ⟨t, k1, o, k2, k3, k4⟩ := k; exact ⟨t, o, k1, k2, k3, k4⟩
theorem oRetI (X : Stand p l e R s m args below meth c T locs cells slots) (hx : p.tables.exec = Jvm.exec) (hl : meth.locks = false) {pc : Nat} {Ls : Array Slot} {z : Int32} {rest : List Value} (hret : meth.sig.returnType = some .int) (hd : decode c.code pc = .ok (.ireturn, 1))
    {Q : Option Value → Heap → List Loc → Prop} {C S : Nat} (hc : cells ≤ C) (hs : slots ≤ S) (hq : Q (some (.int z)) T.heap locs) : oGl p e below (T.setTop (mkF m pc Ls (.int z :: rest))) (oFin s below Q C S) := by
  obtain ⟨fs, hr, hrun, hended, hW, hsame⟩ := X.leave (v := some (.int z)) (fun q => by rw [hret] at q; cases q) hl
  exact ⟨_, retOut X hx hret rfl (Or.inl ⟨rfl, Or.inl rfl, _, rfl⟩) hd hr, _, hrun, hended, _, _, rfl, hq, ⟨_, rfl⟩, hW, hsame.mono hc hs⟩
theorem oRetN {t : FieldType} (X : Stand p l e R s m args below meth c T locs cells slots) (hx : p.tables.exec = Jvm.exec) (hl : meth.locks = false) {pc : Nat} {Ls : Array Slot} {z : Int32} {rest : List Value} (hret : meth.sig.returnType = some t) (ht : t = .boolean ∨ t = .byte ∨ t = .char ∨ t = .short) (hd : decode c.code pc = .ok (.ireturn, 1))
    {Q : Option Value → Heap → List Loc → Prop} {C S : Nat} (hc : cells ≤ C) (hs : slots ≤ S) (hq : Q (some (.int (nar t z))) T.heap locs) : oGl p e below (T.setTop (mkF m pc Ls (.int z :: rest))) (oFin s below Q C S) := by
  obtain ⟨fs, hr, hrun, hended, hW, hsame⟩ := X.leave (v := some (.int (nar t z))) (fun q => by rw [hret] at q; cases q) hl
  exact ⟨_, retN X hx hret ht hd hr, _, hrun, hended, _, _, rfl, hq, ⟨_, rfl⟩, hW, hsame.mono hc hs⟩
theorem oRetJ (X : Stand p l e R s m args below meth c T locs cells slots) (hx : p.tables.exec = Jvm.exec) (hl : meth.locks = false) {pc : Nat} {Ls : Array Slot} {z : Int64} {rest : List Value} (hret : meth.sig.returnType = some .long) (hd : decode c.code pc = .ok (.lreturn, 1))
    {Q : Option Value → Heap → List Loc → Prop} {C S : Nat} (hc : cells ≤ C) (hs : slots ≤ S) (hq : Q (some (.long z)) T.heap locs) : oGl p e below (T.setTop (mkF m pc Ls (.long z :: rest))) (oFin s below Q C S) := by
  obtain ⟨fs, hr, hrun, hended, hW, hsame⟩ := X.leave (v := some (.long z)) (fun q => by rw [hret] at q; cases q) hl
  exact ⟨_, retOut X hx hret rfl (Or.inr (Or.inl ⟨rfl, rfl, _, rfl⟩)) hd hr, _, hrun, hended, _, _, rfl, hq, ⟨_, rfl⟩, hW, hsame.mono hc hs⟩
theorem narrow_ref {t : FieldType} {w : Value} (ht : t.isReference = true) (hw : w.isRef = true) : narrow t w = w := by
  rcases ref_cases hw with rfl | ⟨a, rfl⟩ <;> cases t <;> first | rfl | (cases ht; done)
theorem oRetR {t : FieldType} (X : Stand p l e R s m args below meth c T locs cells slots) (hx : p.tables.exec = Jvm.exec) (hl : meth.locks = false) {pc : Nat} {Ls : Array Slot} {w : Value} {rest : List Value} (hret : meth.sig.returnType = some t) (ht : t.isReference = true) (hw : w.isRef = true) (hd : decode c.code pc = .ok (.areturn, 1))
    {Q : Option Value → Heap → List Loc → Prop} {C S : Nat} (hc : cells ≤ C) (hs : slots ≤ S) (hq : Q (some w) T.heap locs) : oGl p e below (T.setTop (mkF m pc Ls (w :: rest))) (oFin s below Q C S) := by
  obtain ⟨fs, hr, hrun, hended, hW, hsame⟩ := X.leave (v := some w) (fun q => by rw [hret] at q; cases q) hl
  exact ⟨_, retOut X hx hret (narrow_ref ht hw) (Or.inr (Or.inr (Or.inr (Or.inr ⟨rfl, ht, hw⟩)))) hd hr, _, hrun, hended, _, _, rfl, hq, ⟨_, rfl⟩, hW, hsame.mono hc hs⟩
theorem oRet0 (X : Stand p l e R s m args below meth c T locs cells slots) (hx : p.tables.exec = Jvm.exec) (hl : meth.locks = false) {pc : Nat} {Ls : Array Slot} (hret : meth.sig.returnType = none) (hd : decode c.code pc = .ok (.return_, 1))
    {Q : Option Value → Heap → List Loc → Prop} {C S : Nat} (hc : cells ≤ C) (hs : slots ≤ S) (hq : Q none T.heap locs) : oGl p e below (T.setTop (mkF m pc Ls [])) (oFin s below Q C S) := by
  obtain ⟨fs, hr, hrun, hended, hW, hsame⟩ := X.leave (v := none) (fun _ => rfl) hl
  exact ⟨_, X.returnOut hx hret hd hr, _, hrun, hended, _, _, rfl, hq, ⟨_, rfl⟩, hW, hsame.mono hc hs⟩
def oFinW (s : State) (below : List Frame) (Q : Option Value → Heap → List Loc → Prop) (C S : Nat) (t : State) : Prop := ∃ o, t.status = .running ∧ Ended t below o ∧ ∃ v L, o = .returned v ∧ Q v t.heap L ∧ ReturnedEndW s o t L C S
theorem oEnterW {S0 : State} {Q : Option Value → Heap → List Loc → Prop} {C S : Nat} (k : oGl p e below S0 (oFinW s below Q C S)) : ∃ s₂ o, Steps p.tables e below S0 s₂ ∧ s₂.status = .running ∧ Ended s₂ below o ∧ ∃ v L, o = .returned v ∧ Q v s₂.heap L ∧ ReturnedEndW s o s₂ L C S := by
  obtain ⟨t, k1, o, k2, k3, k4⟩ := k; exact ⟨t, o, k1, k2, k3, k4⟩
theorem oRetIW {vm₁ : Vm} {n : Nat} (X : Stand p l e R (s.setVm vm₁) m args below meth c T locs cells slots) (hS : s.Since vm₁ n) (hn : n ≤ T.heap.size) (hx : p.tables.exec = Jvm.exec) (hl : meth.locks = false) {pc : Nat} {Ls : Array Slot} {z : Int32} {rest : List Value} (hret : meth.sig.returnType = some .int) (hd : decode c.code pc = .ok (.ireturn, 1))
    {Q : Option Value → Heap → List Loc → Prop} {C S : Nat} (hc : cells ≤ C) (hs : slots ≤ S) (hq : Q (some (.int z)) T.heap locs) : oGl p e below (T.setTop (mkF m pc Ls (.int z :: rest))) (oFinW s below Q C S) := by
  obtain ⟨fs, hr, hrun, hended, h1, h2, h3, hsame⟩ := X.leaveW hS hn (v := some (.int z)) (fun q => by rw [hret] at q; cases q) hl
  exact ⟨_, retOut X hx hret rfl (Or.inl ⟨rfl, Or.inl rfl, _, rfl⟩) hd hr, _, hrun, hended, _, _, rfl, hq, h1, h2, h3, hsame.mono hc hs⟩
theorem oRetNW {t : FieldType} {vm₁ : Vm} {n : Nat} (X : Stand p l e R (s.setVm vm₁) m args below meth c T locs cells slots) (hS : s.Since vm₁ n) (hn : n ≤ T.heap.size) (hx : p.tables.exec = Jvm.exec) (hl : meth.locks = false) {pc : Nat} {Ls : Array Slot} {z : Int32} {rest : List Value} (hret : meth.sig.returnType = some t) (ht : t = .boolean ∨ t = .byte ∨ t = .char ∨ t = .short) (hd : decode c.code pc = .ok (.ireturn, 1))
    {Q : Option Value → Heap → List Loc → Prop} {C S : Nat} (hc : cells ≤ C) (hs : slots ≤ S) (hq : Q (some (.int (nar t z))) T.heap locs) : oGl p e below (T.setTop (mkF m pc Ls (.int z :: rest))) (oFinW s below Q C S) := by
  obtain ⟨fs, hr, hrun, hended, h1, h2, h3, hsame⟩ := X.leaveW hS hn (v := some (.int (nar t z))) (fun q => by rw [hret] at q; cases q) hl
  exact ⟨_, retN X hx hret ht hd hr, _, hrun, hended, _, _, rfl, hq, h1, h2, h3, hsame.mono hc hs⟩
theorem oRetRW {t : FieldType} {vm₁ : Vm} {n : Nat} (X : Stand p l e R (s.setVm vm₁) m args below meth c T locs cells slots) (hS : s.Since vm₁ n) (hn : n ≤ T.heap.size) (hx : p.tables.exec = Jvm.exec) (hl : meth.locks = false) {pc : Nat} {Ls : Array Slot} {w : Value} {rest : List Value} (hret : meth.sig.returnType = some t) (ht : t.isReference = true) (hw : w.isRef = true) (hd : decode c.code pc = .ok (.areturn, 1))
    {Q : Option Value → Heap → List Loc → Prop} {C S : Nat} (hc : cells ≤ C) (hs : slots ≤ S) (hq : Q (some w) T.heap locs) : oGl p e below (T.setTop (mkF m pc Ls (w :: rest))) (oFinW s below Q C S) := by
  obtain ⟨fs, hr, hrun, hended, h1, h2, h3, hsame⟩ := X.leaveW hS hn (v := some w) (fun q => by rw [hret] at q; cases q) hl
  exact ⟨_, retOut X hx hret (narrow_ref ht hw) (Or.inr (Or.inr (Or.inr (Or.inr ⟨rfl, ht, hw⟩)))) hd hr, _, hrun, hended, _, _, rfl, hq, h1, h2, h3, hsame.mono hc hs⟩
theorem oRet0W {vm₁ : Vm} {n : Nat} (X : Stand p l e R (s.setVm vm₁) m args below meth c T locs cells slots) (hS : s.Since vm₁ n) (hn : n ≤ T.heap.size) (hx : p.tables.exec = Jvm.exec) (hl : meth.locks = false) {pc : Nat} {Ls : Array Slot} (hret : meth.sig.returnType = none) (hd : decode c.code pc = .ok (.return_, 1))
    {Q : Option Value → Heap → List Loc → Prop} {C S : Nat} (hc : cells ≤ C) (hs : slots ≤ S) (hq : Q none T.heap locs) : oGl p e below (T.setTop (mkF m pc Ls [])) (oFinW s below Q C S) := by
  obtain ⟨fs, hr, hrun, hended, h1, h2, h3, hsame⟩ := X.leaveW hS hn (v := none) (fun _ => rfl) hl
  exact ⟨_, X.returnOut hx hret hd hr, _, hrun, hended, _, _, rfl, hq, h1, h2, h3, hsame.mono hc hs⟩
theorem oCat {w : Value} (hw : w.isRef = true) : w.category = 1 := by rcases ref_cases hw with rfl | ⟨a, rfl⟩ <;> rfl
theorem fits_refO {t : FieldType} {w : Value} (ht : t.isReference = true) (hw : w.isRef = true) : fits t w = true := by
  rcases ref_cases hw with rfl | ⟨a, rfl⟩ <;> cases t <;> first | rfl | (cases ht; done)
theorem oSto {ls : Array Slot} {i : Nat} {v : Value} {o : Slot} (hold : ls[i]? = some o) (ho : o = .unset ∨ ∃ w, o = .val w ∧ w.category = 1) (hv : v.category = 1) : storeLocals ls i v = some (ls.setIfInBounds i (.val v)) := XS.store1 hold ho hv
theorem oDup2 {tb : Tables} [Ours tb] {target : State} {g : JFrame} (hh : At T m c below) (hx : tb.exec = Jvm.exec) (hg : g.method = m) {x y : Value} {rest : List Value} (hd : decode c.code g.pc = .ok (.dup2, 1)) (hs : g.stack = x :: y :: rest) (hc : x.category = 1) (hc2 : y.category = 1)
    (hr : Steps tb e below (T.setTop { g with pc := g.pc + 1, stack := x :: y :: x :: y :: rest }) target) : Steps tb e below (T.setTop g) target := by
  subst hg
  jvm_step hh [hh.top, hx, hd, hs, hc, hc2]
  exact hr
theorem oDupX2 {tb : Tables} [Ours tb] {target : State} {g : JFrame} (hh : At T m c below) (hx : tb.exec = Jvm.exec) (hg : g.method = m) {x y z : Value} {rest : List Value} (hd : decode c.code g.pc = .ok (.dup_x2, 1)) (hs : g.stack = x :: y :: z :: rest) (hc : x.category = 1) (hc2 : y.category = 1) (hc3 : z.category = 1)
    (hr : Steps tb e below (T.setTop { g with pc := g.pc + 1, stack := x :: y :: z :: x :: rest }) target) : Steps tb e below (T.setTop g) target := by
  subst hg
  jvm_step hh [hh.top, hx, hd, hs, hc, hc2, hc3]
  exact hr
theorem oNe {x y : Nat} (q : x < y ∨ y < x) : x ≠ y := by omega
/-! single steps -/
theorem siload {pc pc' : Nat} {Ls : Array Slot} {F : State → Prop} {st : List Value} {k : Nat} {v : Int32} (X : Stand p l e R s m args below meth c T locs cells slots) (hx : p.tables.exec = Jvm.exec) (hd : decode c.code pc = .ok (.iload k, 2)) (hp : pc + 2 = pc') (hl : Ls[k]? = some (.val (.int v))) (kk : oGl p e below (T.setTop (mkF m pc' Ls (.int v :: st))) F) : oGl p e below (T.setTop (mkF m pc Ls (st))) F := by
  subst hp
  exact oOn (fun _ kK => XS.iload X.here hx rfl hd hl kK) kk
theorem siloadN {pc pc' : Nat} {Ls : Array Slot} {F : State → Prop} {st : List Value} {k : Fin 4} {v : Int32} (X : Stand p l e R s m args below meth c T locs cells slots) (hx : p.tables.exec = Jvm.exec) (hd : decode c.code pc = .ok (.iload_n k, 1)) (hp : pc + 1 = pc') (hl : Ls[k.val]? = some (.val (.int v))) (kk : oGl p e below (T.setTop (mkF m pc' Ls (.int v :: st))) F) : oGl p e below (T.setTop (mkF m pc Ls (st))) F := by
  subst hp
  exact oOn (fun _ kK => XS.iloadN X.here hx rfl hd hl kK) kk
theorem slload {pc pc' : Nat} {Ls : Array Slot} {F : State → Prop} {st : List Value} {k : Nat} {v : Int64} (X : Stand p l e R s m args below meth c T locs cells slots) (hx : p.tables.exec = Jvm.exec) (hd : decode c.code pc = .ok (.lload k, 2)) (hp : pc + 2 = pc') (hl : Ls[k]? = some (.val (.long v))) (kk : oGl p e below (T.setTop (mkF m pc' Ls (.long v :: st))) F) : oGl p e below (T.setTop (mkF m pc Ls (st))) F := by
  subst hp
  exact oOn (fun _ kK => XS.lload X.here hx rfl hd hl kK) kk
theorem slloadN {pc pc' : Nat} {Ls : Array Slot} {F : State → Prop} {st : List Value} {k : Fin 4} {v : Int64} (X : Stand p l e R s m args below meth c T locs cells slots) (hx : p.tables.exec = Jvm.exec) (hd : decode c.code pc = .ok (.lload_n k, 1)) (hp : pc + 1 = pc') (hl : Ls[k.val]? = some (.val (.long v))) (kk : oGl p e below (T.setTop (mkF m pc' Ls (.long v :: st))) F) : oGl p e below (T.setTop (mkF m pc Ls (st))) F := by
  subst hp
  exact oOn (fun _ kK => XS.lloadN X.here hx rfl hd hl kK) kk
theorem saload {pc pc' : Nat} {Ls : Array Slot} {F : State → Prop} {st : List Value} {k : Nat} {v : Value} (X : Stand p l e R s m args below meth c T locs cells slots) (hx : p.tables.exec = Jvm.exec) (hd : decode c.code pc = .ok (.aload k, 2)) (hp : pc + 2 = pc') (hl : Ls[k]? = some (.val v)) (hv : v.isRef = true) (kk : oGl p e below (T.setTop (mkF m pc' Ls (v :: st))) F) : oGl p e below (T.setTop (mkF m pc Ls (st))) F := by
  subst hp
  exact oOn (fun _ kK => XS.aload X.here hx rfl hd hl hv kK) kk
theorem saloadN {pc pc' : Nat} {Ls : Array Slot} {F : State → Prop} {st : List Value} {k : Fin 4} {v : Value} (X : Stand p l e R s m args below meth c T locs cells slots) (hx : p.tables.exec = Jvm.exec) (hd : decode c.code pc = .ok (.aload_n k, 1)) (hp : pc + 1 = pc') (hl : Ls[k.val]? = some (.val v)) (hv : v.isRef = true) (kk : oGl p e below (T.setTop (mkF m pc' Ls (v :: st))) F) : oGl p e below (T.setTop (mkF m pc Ls (st))) F := by
  subst hp
  exact oOn (fun _ kK => XS.aloadN X.here hx rfl hd hl hv kK) kk
theorem sistore {pc pc' : Nat} {Ls : Array Slot} {F : State → Prop} {st : List Value} {k : Nat} {x : Int32} {l' : Array Slot} (X : Stand p l e R s m args below meth c T locs cells slots) (hx : p.tables.exec = Jvm.exec) (hd : decode c.code pc = .ok (.istore k, 2)) (hp : pc + 2 = pc') (hl : storeLocals Ls k (.int x) = some l') (kk : oGl p e below (T.setTop (mkF m pc' l' (st))) F) : oGl p e below (T.setTop (mkF m pc Ls (.int x :: st))) F := by
  subst hp
  exact oOn (fun _ kK => XS.istore X.here hx rfl hd rfl hl kK) kk
theorem sistoreN {pc pc' : Nat} {Ls : Array Slot} {F : State → Prop} {st : List Value} {k : Fin 4} {x : Int32} {l' : Array Slot} (X : Stand p l e R s m args below meth c T locs cells slots) (hx : p.tables.exec = Jvm.exec) (hd : decode c.code pc = .ok (.istore_n k, 1)) (hp : pc + 1 = pc') (hl : storeLocals Ls k.val (.int x) = some l') (kk : oGl p e below (T.setTop (mkF m pc' l' (st))) F) : oGl p e below (T.setTop (mkF m pc Ls (.int x :: st))) F := by
  subst hp
  exact oOn (fun _ kK => XS.istoreN X.here hx rfl hd rfl hl kK) kk
theorem slstore {pc pc' : Nat} {Ls : Array Slot} {F : State → Prop} {st : List Value} {k : Nat} {x : Int64} {l' : Array Slot} (X : Stand p l e R s m args below meth c T locs cells slots) (hx : p.tables.exec = Jvm.exec) (hd : decode c.code pc = .ok (.lstore k, 2)) (hp : pc + 2 = pc') (hl : storeLocals Ls k (.long x) = some l') (kk : oGl p e below (T.setTop (mkF m pc' l' (st))) F) : oGl p e below (T.setTop (mkF m pc Ls (.long x :: st))) F := by
  subst hp
  exact oOn (fun _ kK => XS.lstore X.here hx rfl hd rfl hl kK) kk
theorem slstoreN {pc pc' : Nat} {Ls : Array Slot} {F : State → Prop} {st : List Value} {k : Fin 4} {x : Int64} {l' : Array Slot} (X : Stand p l e R s m args below meth c T locs cells slots) (hx : p.tables.exec = Jvm.exec) (hd : decode c.code pc = .ok (.lstore_n k, 1)) (hp : pc + 1 = pc') (hl : storeLocals Ls k.val (.long x) = some l') (kk : oGl p e below (T.setTop (mkF m pc' l' (st))) F) : oGl p e below (T.setTop (mkF m pc Ls (.long x :: st))) F := by
  subst hp
  exact oOn (fun _ kK => XS.lstoreN X.here hx rfl hd rfl hl kK) kk
theorem sastore {pc pc' : Nat} {Ls : Array Slot} {F : State → Prop} {st : List Value} {k : Nat} {x : Value} {l' : Array Slot} (X : Stand p l e R s m args below meth c T locs cells slots) (hx : p.tables.exec = Jvm.exec) (hd : decode c.code pc = .ok (.astore k, 2)) (hp : pc + 2 = pc') (hv : x.isRef = true) (hl : storeLocals Ls k x = some l') (kk : oGl p e below (T.setTop (mkF m pc' l' (st))) F) : oGl p e below (T.setTop (mkF m pc Ls (x :: st))) F := by
  subst hp
  exact oOn (fun _ kK => XS.astore X.here hx rfl hd rfl hv hl kK) kk
theorem sastoreN {pc pc' : Nat} {Ls : Array Slot} {F : State → Prop} {st : List Value} {k : Fin 4} {x : Value} {l' : Array Slot} (X : Stand p l e R s m args below meth c T locs cells slots) (hx : p.tables.exec = Jvm.exec) (hd : decode c.code pc = .ok (.astore_n k, 1)) (hp : pc + 1 = pc') (hv : x.isRef = true) (hl : storeLocals Ls k.val x = some l') (kk : oGl p e below (T.setTop (mkF m pc' l' (st))) F) : oGl p e below (T.setTop (mkF m pc Ls (x :: st))) F := by
  subst hp
  exact oOn (fun _ kK => XS.astoreN X.here hx rfl hd rfl hv hl kK) kk
theorem siconst {pc pc' : Nat} {Ls : Array Slot} {F : State → Prop} {st : List Value} {i : Int} {z : Int32} (X : Stand p l e R s m args below meth c T locs cells slots) (hx : p.tables.exec = Jvm.exec) (hd : decode c.code pc = .ok (.iconst i, 1)) (hp : pc + 1 = pc') (hz : Int32.ofInt i = z) (kk : oGl p e below (T.setTop (mkF m pc' Ls (.int z :: st))) F) : oGl p e below (T.setTop (mkF m pc Ls (st))) F := by
  subst hp hz
  exact oOn (fun _ kK => XS.iconst X.here hx rfl hd kK) kk
theorem sbipush {pc pc' : Nat} {Ls : Array Slot} {F : State → Prop} {st : List Value} {i : Int} {z : Int32} (X : Stand p l e R s m args below meth c T locs cells slots) (hx : p.tables.exec = Jvm.exec) (hd : decode c.code pc = .ok (.bipush i, 2)) (hp : pc + 2 = pc') (hz : (Int8.ofInt i).toInt32 = z) (kk : oGl p e below (T.setTop (mkF m pc' Ls (.int z :: st))) F) : oGl p e below (T.setTop (mkF m pc Ls (st))) F := by
  subst hp hz
  exact oOn (fun _ kK => XS.bipush X.here hx rfl hd kK) kk
theorem ssipush {pc pc' : Nat} {Ls : Array Slot} {F : State → Prop} {st : List Value} {i : Int} {z : Int32} (X : Stand p l e R s m args below meth c T locs cells slots) (hx : p.tables.exec = Jvm.exec) (hd : decode c.code pc = .ok (.sipush i, 3)) (hp : pc + 3 = pc') (hz : (Int16.ofInt i).toInt32 = z) (kk : oGl p e below (T.setTop (mkF m pc' Ls (.int z :: st))) F) : oGl p e below (T.setTop (mkF m pc Ls (st))) F := by
  subst hp hz
  exact oOn (fun _ kK => XS.sipush X.here hx rfl hd kK) kk
theorem slconst {pc pc' : Nat} {Ls : Array Slot} {F : State → Prop} {st : List Value} {k : Fin 2} {z : Int64} (X : Stand p l e R s m args below meth c T locs cells slots) (hx : p.tables.exec = Jvm.exec) (hd : decode c.code pc = .ok (.lconst k, 1)) (hp : pc + 1 = pc') (hz : Int64.ofNat k = z) (kk : oGl p e below (T.setTop (mkF m pc' Ls (.long z :: st))) F) : oGl p e below (T.setTop (mkF m pc Ls (st))) F := by
  subst hp hz
  exact oOn (fun _ kK => XS.lconst X.here hx rfl hd kK) kk
theorem saconst_null {pc pc' : Nat} {Ls : Array Slot} {F : State → Prop} {st : List Value} (X : Stand p l e R s m args below meth c T locs cells slots) (hx : p.tables.exec = Jvm.exec) (hd : decode c.code pc = .ok (.aconst_null, 1)) (hp : pc + 1 = pc')  (kk : oGl p e below (T.setTop (mkF m pc' Ls (.null :: st))) F) : oGl p e below (T.setTop (mkF m pc Ls (st))) F := by
  subst hp
  exact oOn (fun _ kK => XS.aconstNull X.here hx rfl hd kK) kk
theorem siadd {pc pc' : Nat} {Ls : Array Slot} {F : State → Prop} {st : List Value} {x y z : Int32} (X : Stand p l e R s m args below meth c T locs cells slots) (hx : p.tables.exec = Jvm.exec) (hd : decode c.code pc = .ok (.iadd, 1)) (hp : pc + 1 = pc') (hz : x + y = z) (kk : oGl p e below (T.setTop (mkF m pc' Ls (.int z :: st))) F) : oGl p e below (T.setTop (mkF m pc Ls (.int y :: .int x :: st))) F := by
  subst hp hz
  exact oOn (fun _ kK => XS.iadd X.here hx rfl hd rfl kK) kk
theorem sladd {pc pc' : Nat} {Ls : Array Slot} {F : State → Prop} {st : List Value} {x y z : Int64} (X : Stand p l e R s m args below meth c T locs cells slots) (hx : p.tables.exec = Jvm.exec) (hd : decode c.code pc = .ok (.ladd, 1)) (hp : pc + 1 = pc') (hz : x + y = z) (kk : oGl p e below (T.setTop (mkF m pc' Ls (.long z :: st))) F) : oGl p e below (T.setTop (mkF m pc Ls (.long y :: .long x :: st))) F := by
  subst hp hz
  exact oOn (fun _ kK => XS.ladd X.here hx rfl hd rfl kK) kk
theorem sisub {pc pc' : Nat} {Ls : Array Slot} {F : State → Prop} {st : List Value} {x y z : Int32} (X : Stand p l e R s m args below meth c T locs cells slots) (hx : p.tables.exec = Jvm.exec) (hd : decode c.code pc = .ok (.isub, 1)) (hp : pc + 1 = pc') (hz : x - y = z) (kk : oGl p e below (T.setTop (mkF m pc' Ls (.int z :: st))) F) : oGl p e below (T.setTop (mkF m pc Ls (.int y :: .int x :: st))) F := by
  subst hp hz
  exact oOn (fun _ kK => XS.isub X.here hx rfl hd rfl kK) kk
theorem slsub {pc pc' : Nat} {Ls : Array Slot} {F : State → Prop} {st : List Value} {x y z : Int64} (X : Stand p l e R s m args below meth c T locs cells slots) (hx : p.tables.exec = Jvm.exec) (hd : decode c.code pc = .ok (.lsub, 1)) (hp : pc + 1 = pc') (hz : x - y = z) (kk : oGl p e below (T.setTop (mkF m pc' Ls (.long z :: st))) F) : oGl p e below (T.setTop (mkF m pc Ls (.long y :: .long x :: st))) F := by
  subst hp hz
  exact oOn (fun _ kK => XS.lsub X.here hx rfl hd rfl kK) kk
theorem simul {pc pc' : Nat} {Ls : Array Slot} {F : State → Prop} {st : List Value} {x y z : Int32} (X : Stand p l e R s m args below meth c T locs cells slots) (hx : p.tables.exec = Jvm.exec) (hd : decode c.code pc = .ok (.imul, 1)) (hp : pc + 1 = pc') (hz : x * y = z) (kk : oGl p e below (T.setTop (mkF m pc' Ls (.int z :: st))) F) : oGl p e below (T.setTop (mkF m pc Ls (.int y :: .int x :: st))) F := by
  subst hp hz
  exact oOn (fun _ kK => XS.imul X.here hx rfl hd rfl kK) kk
theorem slmul {pc pc' : Nat} {Ls : Array Slot} {F : State → Prop} {st : List Value} {x y z : Int64} (X : Stand p l e R s m args below meth c T locs cells slots) (hx : p.tables.exec = Jvm.exec) (hd : decode c.code pc = .ok (.lmul, 1)) (hp : pc + 1 = pc') (hz : x * y = z) (kk : oGl p e below (T.setTop (mkF m pc' Ls (.long z :: st))) F) : oGl p e below (T.setTop (mkF m pc Ls (.long y :: .long x :: st))) F := by
  subst hp hz
  exact oOn (fun _ kK => XS.lmul X.here hx rfl hd rfl kK) kk
theorem siand {pc pc' : Nat} {Ls : Array Slot} {F : State → Prop} {st : List Value} {x y z : Int32} (X : Stand p l e R s m args below meth c T locs cells slots) (hx : p.tables.exec = Jvm.exec) (hd : decode c.code pc = .ok (.iand, 1)) (hp : pc + 1 = pc') (hz : x &&& y = z) (kk : oGl p e below (T.setTop (mkF m pc' Ls (.int z :: st))) F) : oGl p e below (T.setTop (mkF m pc Ls (.int y :: .int x :: st))) F := by
  subst hp hz
  exact oOn (fun _ kK => XS.iand X.here hx rfl hd rfl kK) kk
theorem sland {pc pc' : Nat} {Ls : Array Slot} {F : State → Prop} {st : List Value} {x y z : Int64} (X : Stand p l e R s m args below meth c T locs cells slots) (hx : p.tables.exec = Jvm.exec) (hd : decode c.code pc = .ok (.land, 1)) (hp : pc + 1 = pc') (hz : x &&& y = z) (kk : oGl p e below (T.setTop (mkF m pc' Ls (.long z :: st))) F) : oGl p e below (T.setTop (mkF m pc Ls (.long y :: .long x :: st))) F := by
  subst hp hz
  exact oOn (fun _ kK => XS.land X.here hx rfl hd rfl kK) kk
theorem sior {pc pc' : Nat} {Ls : Array Slot} {F : State → Prop} {st : List Value} {x y z : Int32} (X : Stand p l e R s m args below meth c T locs cells slots) (hx : p.tables.exec = Jvm.exec) (hd : decode c.code pc = .ok (.ior, 1)) (hp : pc + 1 = pc') (hz : x ||| y = z) (kk : oGl p e below (T.setTop (mkF m pc' Ls (.int z :: st))) F) : oGl p e below (T.setTop (mkF m pc Ls (.int y :: .int x :: st))) F := by
  subst hp hz
  exact oOn (fun _ kK => XS.ior X.here hx rfl hd rfl kK) kk
theorem slor {pc pc' : Nat} {Ls : Array Slot} {F : State → Prop} {st : List Value} {x y z : Int64} (X : Stand p l e R s m args below meth c T locs cells slots) (hx : p.tables.exec = Jvm.exec) (hd : decode c.code pc = .ok (.lor, 1)) (hp : pc + 1 = pc') (hz : x ||| y = z) (kk : oGl p e below (T.setTop (mkF m pc' Ls (.long z :: st))) F) : oGl p e below (T.setTop (mkF m pc Ls (.long y :: .long x :: st))) F := by
  subst hp hz
  exact oOn (fun _ kK => XS.lor X.here hx rfl hd rfl kK) kk
theorem sixor {pc pc' : Nat} {Ls : Array Slot} {F : State → Prop} {st : List Value} {x y z : Int32} (X : Stand p l e R s m args below meth c T locs cells slots) (hx : p.tables.exec = Jvm.exec) (hd : decode c.code pc = .ok (.ixor, 1)) (hp : pc + 1 = pc') (hz : x ^^^ y = z) (kk : oGl p e below (T.setTop (mkF m pc' Ls (.int z :: st))) F) : oGl p e below (T.setTop (mkF m pc Ls (.int y :: .int x :: st))) F := by
  subst hp hz
  exact oOn (fun _ kK => XS.ixor X.here hx rfl hd rfl kK) kk
theorem slxor {pc pc' : Nat} {Ls : Array Slot} {F : State → Prop} {st : List Value} {x y z : Int64} (X : Stand p l e R s m args below meth c T locs cells slots) (hx : p.tables.exec = Jvm.exec) (hd : decode c.code pc = .ok (.lxor, 1)) (hp : pc + 1 = pc') (hz : x ^^^ y = z) (kk : oGl p e below (T.setTop (mkF m pc' Ls (.long z :: st))) F) : oGl p e below (T.setTop (mkF m pc Ls (.long y :: .long x :: st))) F := by
  subst hp hz
  exact oOn (fun _ kK => XS.lxor X.here hx rfl hd rfl kK) kk
theorem sishl {pc pc' : Nat} {Ls : Array Slot} {F : State → Prop} {st : List Value} {x y z : Int32} (X : Stand p l e R s m args below meth c T locs cells slots) (hx : p.tables.exec = Jvm.exec) (hd : decode c.code pc = .ok (.ishl, 1)) (hp : pc + 1 = pc') (hz : x <<< (y &&& 31) = z) (kk : oGl p e below (T.setTop (mkF m pc' Ls (.int z :: st))) F) : oGl p e below (T.setTop (mkF m pc Ls (.int y :: .int x :: st))) F := by
  subst hp hz
  exact oOn (fun _ kK => XS.ishl X.here hx rfl hd rfl kK) kk
theorem sishr {pc pc' : Nat} {Ls : Array Slot} {F : State → Prop} {st : List Value} {x y z : Int32} (X : Stand p l e R s m args below meth c T locs cells slots) (hx : p.tables.exec = Jvm.exec) (hd : decode c.code pc = .ok (.ishr, 1)) (hp : pc + 1 = pc') (hz : x >>> (y &&& 31) = z) (kk : oGl p e below (T.setTop (mkF m pc' Ls (.int z :: st))) F) : oGl p e below (T.setTop (mkF m pc Ls (.int y :: .int x :: st))) F := by
  subst hp hz
  exact oOn (fun _ kK => XS.ishr X.here hx rfl hd rfl kK) kk
theorem siushr {pc pc' : Nat} {Ls : Array Slot} {F : State → Prop} {st : List Value} {x y z : Int32} (X : Stand p l e R s m args below meth c T locs cells slots) (hx : p.tables.exec = Jvm.exec) (hd : decode c.code pc = .ok (.iushr, 1)) (hp : pc + 1 = pc') (hz : (x.toUInt32 >>> (y &&& 31).toUInt32).toInt32 = z) (kk : oGl p e below (T.setTop (mkF m pc' Ls (.int z :: st))) F) : oGl p e below (T.setTop (mkF m pc Ls (.int y :: .int x :: st))) F := by
  subst hp hz
  exact oOn (fun _ kK => XS.iushr X.here hx rfl hd rfl kK) kk
theorem slshl {pc pc' : Nat} {Ls : Array Slot} {F : State → Prop} {st : List Value} {x z : Int64} {y : Int32} (X : Stand p l e R s m args below meth c T locs cells slots) (hx : p.tables.exec = Jvm.exec) (hd : decode c.code pc = .ok (.lshl, 1)) (hp : pc + 1 = pc') (hz : x <<< (y &&& 0x3f).toInt64 = z) (kk : oGl p e below (T.setTop (mkF m pc' Ls (.long z :: st))) F) : oGl p e below (T.setTop (mkF m pc Ls (.int y :: .long x :: st))) F := by
  subst hp hz
  exact oOn (fun _ kK => XS.lshl X.here hx rfl hd rfl kK) kk
theorem slshr {pc pc' : Nat} {Ls : Array Slot} {F : State → Prop} {st : List Value} {x z : Int64} {y : Int32} (X : Stand p l e R s m args below meth c T locs cells slots) (hx : p.tables.exec = Jvm.exec) (hd : decode c.code pc = .ok (.lshr, 1)) (hp : pc + 1 = pc') (hz : x >>> (y &&& 0x3f).toInt64 = z) (kk : oGl p e below (T.setTop (mkF m pc' Ls (.long z :: st))) F) : oGl p e below (T.setTop (mkF m pc Ls (.int y :: .long x :: st))) F := by
  subst hp hz
  exact oOn (fun _ kK => XS.lshr X.here hx rfl hd rfl kK) kk
theorem slushr {pc pc' : Nat} {Ls : Array Slot} {F : State → Prop} {st : List Value} {x z : Int64} {y : Int32} (X : Stand p l e R s m args below meth c T locs cells slots) (hx : p.tables.exec = Jvm.exec) (hd : decode c.code pc = .ok (.lushr, 1)) (hp : pc + 1 = pc') (hz : (x.toUInt64 >>> (y &&& 0x3f).toInt64.toUInt64).toInt64 = z) (kk : oGl p e below (T.setTop (mkF m pc' Ls (.long z :: st))) F) : oGl p e below (T.setTop (mkF m pc Ls (.int y :: .long x :: st))) F := by
  subst hp hz
  exact oOn (fun _ kK => XS.lushr X.here hx rfl hd rfl kK) kk
theorem sineg {pc pc' : Nat} {Ls : Array Slot} {F : State → Prop} {st : List Value} {x : Int32} {z : Int32} (X : Stand p l e R s m args below meth c T locs cells slots) (hx : p.tables.exec = Jvm.exec) (hd : decode c.code pc = .ok (.ineg, 1)) (hp : pc + 1 = pc') (hz : -x = z) (kk : oGl p e below (T.setTop (mkF m pc' Ls (.int z :: st))) F) : oGl p e below (T.setTop (mkF m pc Ls (.int x :: st))) F := by
  subst hp hz
  exact oOn (fun _ kK => XS.ineg X.here hx rfl hd rfl kK) kk
theorem slneg {pc pc' : Nat} {Ls : Array Slot} {F : State → Prop} {st : List Value} {x : Int64} {z : Int64} (X : Stand p l e R s m args below meth c T locs cells slots) (hx : p.tables.exec = Jvm.exec) (hd : decode c.code pc = .ok (.lneg, 1)) (hp : pc + 1 = pc') (hz : -x = z) (kk : oGl p e below (T.setTop (mkF m pc' Ls (.long z :: st))) F) : oGl p e below (T.setTop (mkF m pc Ls (.long x :: st))) F := by
  subst hp hz
  exact oOn (fun _ kK => XS.lneg X.here hx rfl hd rfl kK) kk
theorem si2l {pc pc' : Nat} {Ls : Array Slot} {F : State → Prop} {st : List Value} {x : Int32} {z : Int64} (X : Stand p l e R s m args below meth c T locs cells slots) (hx : p.tables.exec = Jvm.exec) (hd : decode c.code pc = .ok (.i2l, 1)) (hp : pc + 1 = pc') (hz : x.toInt64 = z) (kk : oGl p e below (T.setTop (mkF m pc' Ls (.long z :: st))) F) : oGl p e below (T.setTop (mkF m pc Ls (.int x :: st))) F := by
  subst hp hz
  exact oOn (fun _ kK => XS.i2l X.here hx rfl hd rfl kK) kk
theorem sl2i {pc pc' : Nat} {Ls : Array Slot} {F : State → Prop} {st : List Value} {x : Int64} {z : Int32} (X : Stand p l e R s m args below meth c T locs cells slots) (hx : p.tables.exec = Jvm.exec) (hd : decode c.code pc = .ok (.l2i, 1)) (hp : pc + 1 = pc') (hz : x.toInt32 = z) (kk : oGl p e below (T.setTop (mkF m pc' Ls (.int z :: st))) F) : oGl p e below (T.setTop (mkF m pc Ls (.long x :: st))) F := by
  subst hp hz
  exact oOn (fun _ kK => XS.l2i X.here hx rfl hd rfl kK) kk
theorem si2b {pc pc' : Nat} {Ls : Array Slot} {F : State → Prop} {st : List Value} {x : Int32} {z : Int32} (X : Stand p l e R s m args below meth c T locs cells slots) (hx : p.tables.exec = Jvm.exec) (hd : decode c.code pc = .ok (.i2b, 1)) (hp : pc + 1 = pc') (hz : x.toInt8.toInt32 = z) (kk : oGl p e below (T.setTop (mkF m pc' Ls (.int z :: st))) F) : oGl p e below (T.setTop (mkF m pc Ls (.int x :: st))) F := by
  subst hp hz
  exact oOn (fun _ kK => XS.i2b X.here hx rfl hd rfl kK) kk
theorem si2s {pc pc' : Nat} {Ls : Array Slot} {F : State → Prop} {st : List Value} {x : Int32} {z : Int32} (X : Stand p l e R s m args below meth c T locs cells slots) (hx : p.tables.exec = Jvm.exec) (hd : decode c.code pc = .ok (.i2s, 1)) (hp : pc + 1 = pc') (hz : x.toInt16.toInt32 = z) (kk : oGl p e below (T.setTop (mkF m pc' Ls (.int z :: st))) F) : oGl p e below (T.setTop (mkF m pc Ls (.int x :: st))) F := by
  subst hp hz
  exact oOn (fun _ kK => XS.i2s X.here hx rfl hd rfl kK) kk
theorem si2c {pc pc' : Nat} {Ls : Array Slot} {F : State → Prop} {st : List Value} {x : Int32} {z : Int32} (X : Stand p l e R s m args below meth c T locs cells slots) (hx : p.tables.exec = Jvm.exec) (hd : decode c.code pc = .ok (.i2c, 1)) (hp : pc + 1 = pc') (hz : x.toUInt32.toUInt16.toUInt32.toInt32 = z) (kk : oGl p e below (T.setTop (mkF m pc' Ls (.int z :: st))) F) : oGl p e below (T.setTop (mkF m pc Ls (.int x :: st))) F := by
  subst hp hz
  exact oOn (fun _ kK => XS.i2c X.here hx rfl hd rfl kK) kk
theorem slcmp {pc pc' : Nat} {Ls : Array Slot} {F : State → Prop} {st : List Value} {x y : Int64} (X : Stand p l e R s m args below meth c T locs cells slots) (hx : p.tables.exec = Jvm.exec) (hd : decode c.code pc = .ok (.lcmp, 1)) (hp : pc + 1 = pc')  (kk : oGl p e below (T.setTop (mkF m pc' Ls (.int (lcmpW x y) :: st))) F) : oGl p e below (T.setTop (mkF m pc Ls (.long y :: .long x :: st))) F := by
  subst hp
  exact oOn (fun _ kK => XS.lcmp X.here hx rfl hd rfl kK) kk
theorem sirem {pc pc' : Nat} {Ls : Array Slot} {F : State → Prop} {st : List Value} {x y z : Int32} (X : Stand p l e R s m args below meth c T locs cells slots) (hx : p.tables.exec = Jvm.exec) (hd : decode c.code pc = .ok (.irem, 1)) (hp : pc + 1 = pc') (hy : y ≠ 0) (hz : x % y = z) (kk : oGl p e below (T.setTop (mkF m pc' Ls (.int z :: st))) F) : oGl p e below (T.setTop (mkF m pc Ls (.int y :: .int x :: st))) F := by
  subst hp hz
  exact oOn (fun _ kK => iremM X hx rfl hd rfl hy kK) kk
theorem sidiv {pc pc' : Nat} {Ls : Array Slot} {F : State → Prop} {st : List Value} {x y z : Int32} (X : Stand p l e R s m args below meth c T locs cells slots) (hx : p.tables.exec = Jvm.exec) (hd : decode c.code pc = .ok (.idiv, 1)) (hp : pc + 1 = pc') (hy : y ≠ 0) (hz : x / y = z) (kk : oGl p e below (T.setTop (mkF m pc' Ls (.int z :: st))) F) : oGl p e below (T.setTop (mkF m pc Ls (.int y :: .int x :: st))) F := by
  subst hp hz
  exact oOn (fun _ kK => XS.idiv X.here hx rfl hd rfl hy kK) kk
theorem siinc {pc pc' : Nat} {Ls : Array Slot} {F : State → Prop} {st : List Value} {k : Nat} {cst : Int} {x : Int32} {l' : Array Slot} (X : Stand p l e R s m args below meth c T locs cells slots) (hx : p.tables.exec = Jvm.exec) (hd : decode c.code pc = .ok (.iinc k cst, 3)) (hp : pc + 3 = pc') (hl : Ls[k]? = some (.val (.int x))) (hl' : storeLocals Ls k (.int (x + Int32.ofInt cst)) = some l') (kk : oGl p e below (T.setTop (mkF m pc' l' (st))) F) : oGl p e below (T.setTop (mkF m pc Ls (st))) F := by
  subst hp
  exact oOn (fun _ kK => XS.iinc X.here hx rfl hd hl hl' kK) kk
theorem sdup {pc pc' : Nat} {Ls : Array Slot} {F : State → Prop} {st : List Value} {x : Value} (X : Stand p l e R s m args below meth c T locs cells slots) (hx : p.tables.exec = Jvm.exec) (hd : decode c.code pc = .ok (.dup, 1)) (hp : pc + 1 = pc') (hc : x.category = 1) (kk : oGl p e below (T.setTop (mkF m pc' Ls (x :: x :: st))) F) : oGl p e below (T.setTop (mkF m pc Ls (x :: st))) F := by
  subst hp
  exact oOn (fun _ kK => XS.dup X.here hx rfl hd rfl hc kK) kk
theorem spop {pc pc' : Nat} {Ls : Array Slot} {F : State → Prop} {st : List Value} {x : Value} (X : Stand p l e R s m args below meth c T locs cells slots) (hx : p.tables.exec = Jvm.exec) (hd : decode c.code pc = .ok (.pop, 1)) (hp : pc + 1 = pc') (hc : x.category = 1) (kk : oGl p e below (T.setTop (mkF m pc' Ls (st))) F) : oGl p e below (T.setTop (mkF m pc Ls (x :: st))) F := by
  subst hp
  exact oOn (fun _ kK => XS.pop X.here hx rfl hd rfl hc kK) kk
theorem sdup_x1 {pc pc' : Nat} {Ls : Array Slot} {F : State → Prop} {st : List Value} {x y : Value} (X : Stand p l e R s m args below meth c T locs cells slots) (hx : p.tables.exec = Jvm.exec) (hd : decode c.code pc = .ok (.dup_x1, 1)) (hp : pc + 1 = pc') (hc : x.category = 1) (hc2 : y.category = 1) (kk : oGl p e below (T.setTop (mkF m pc' Ls (x :: y :: x :: st))) F) : oGl p e below (T.setTop (mkF m pc Ls (x :: y :: st))) F := by
  subst hp
  exact oOn (fun _ kK => XS.dupX1 X.here hx rfl hd rfl hc hc2 kK) kk
theorem sdup2 {pc pc' : Nat} {Ls : Array Slot} {F : State → Prop} {st : List Value} {x y : Value} (X : Stand p l e R s m args below meth c T locs cells slots) (hx : p.tables.exec = Jvm.exec) (hd : decode c.code pc = .ok (.dup2, 1)) (hp : pc + 1 = pc') (hc : x.category = 1) (hc2 : y.category = 1) (kk : oGl p e below (T.setTop (mkF m pc' Ls (x :: y :: x :: y :: st))) F) : oGl p e below (T.setTop (mkF m pc Ls (x :: y :: st))) F := by
  subst hp
  exact oOn (fun _ kK => oDup2 X.here hx rfl hd rfl hc hc2 kK) kk
theorem sdup_x2 {pc pc' : Nat} {Ls : Array Slot} {F : State → Prop} {st : List Value} {x y z : Value} (X : Stand p l e R s m args below meth c T locs cells slots) (hx : p.tables.exec = Jvm.exec) (hd : decode c.code pc = .ok (.dup_x2, 1)) (hp : pc + 1 = pc') (hc : x.category = 1) (hc2 : y.category = 1) (hc3 : z.category = 1) (kk : oGl p e below (T.setTop (mkF m pc' Ls (x :: y :: z :: x :: st))) F) : oGl p e below (T.setTop (mkF m pc Ls (x :: y :: z :: st))) F := by
  subst hp
  exact oOn (fun _ kK => oDupX2 X.here hx rfl hd rfl hc hc2 hc3 kK) kk
theorem sgoto {pc pc' : Nat} {Ls : Array Slot} {st : List Value} {F : State → Prop} {o : Int}  (X : Stand p l e R s m args below meth c T locs cells slots) (hx : p.tables.exec = Jvm.exec) (hd : decode c.code pc = .ok (.goto o, 3)) (ho : 0 ≤ (pc : Int) + o) (hp : ((pc : Int) + o).toNat = pc')  (kk : oGl p e below (T.setTop (mkF m pc' Ls st)) F) : oGl p e below (T.setTop (mkF m pc Ls (st))) F :=
  oOn (fun _ kK => XS.goto X.here hx rfl rfl hd ho hp kK) kk
theorem sifY {pc pc' : Nat} {Ls : Array Slot} {st : List Value} {F : State → Prop} {o : Int} {cd : ClassFile.Cond} {x : Int32} (X : Stand p l e R s m args below meth c T locs cells slots) (hx : p.tables.exec = Jvm.exec) (hd : decode c.code pc = .ok (.ifCond cd o, 3)) (ho : 0 ≤ (pc : Int) + o) (hp : ((pc : Int) + o).toNat = pc') (hc : if_icmp.holds cd x 0 = true) (kk : oGl p e below (T.setTop (mkF m pc' Ls st)) F) : oGl p e below (T.setTop (mkF m pc Ls (.int x :: st))) F :=
  oOn (fun _ kK => XS.ifYes X.here hx rfl rfl hd rfl ((if0 _ _).trans hc) ho hp kK) kk
theorem sicY {pc pc' : Nat} {Ls : Array Slot} {st : List Value} {F : State → Prop} {o : Int} {cd : ClassFile.Cond} {x y : Int32} (X : Stand p l e R s m args below meth c T locs cells slots) (hx : p.tables.exec = Jvm.exec) (hd : decode c.code pc = .ok (.if_icmp cd o, 3)) (ho : 0 ≤ (pc : Int) + o) (hp : ((pc : Int) + o).toNat = pc') (hc : if_icmp.holds cd x y = true) (kk : oGl p e below (T.setTop (mkF m pc' Ls st)) F) : oGl p e below (T.setTop (mkF m pc Ls (.int y :: .int x :: st))) F :=
  oOn (fun _ kK => XS.icmpYes X.here hx rfl rfl hd rfl hc ho hp kK) kk
theorem sifnullY {pc pc' : Nat} {Ls : Array Slot} {st : List Value} {F : State → Prop} {o : Int}  (X : Stand p l e R s m args below meth c T locs cells slots) (hx : p.tables.exec = Jvm.exec) (hd : decode c.code pc = .ok (.ifnull o, 3)) (ho : 0 ≤ (pc : Int) + o) (hp : ((pc : Int) + o).toNat = pc')  (kk : oGl p e below (T.setTop (mkF m pc' Ls st)) F) : oGl p e below (T.setTop (mkF m pc Ls (.null :: st))) F :=
  oOn (fun _ kK => XS.ifnullYes X.here hx rfl rfl hd rfl ho hp kK) kk
theorem sifnonnullY {pc pc' : Nat} {Ls : Array Slot} {st : List Value} {F : State → Prop} {o : Int} {b : Addr} (X : Stand p l e R s m args below meth c T locs cells slots) (hx : p.tables.exec = Jvm.exec) (hd : decode c.code pc = .ok (.ifnonnull o, 3)) (ho : 0 ≤ (pc : Int) + o) (hp : ((pc : Int) + o).toNat = pc')  (kk : oGl p e below (T.setTop (mkF m pc' Ls st)) F) : oGl p e below (T.setTop (mkF m pc Ls (.ref b :: st))) F :=
  oOn (fun _ kK => XS.ifnonnullYes X.here hx rfl rfl hd rfl ho hp kK) kk
theorem sifN {pc pc' : Nat} {Ls : Array Slot} {F : State → Prop} {st : List Value} {cd : ClassFile.Cond} {o : Int} {x : Int32} (X : Stand p l e R s m args below meth c T locs cells slots) (hx : p.tables.exec = Jvm.exec) (hd : decode c.code pc = .ok (.ifCond cd o, 3)) (hp : pc + 3 = pc') (hc : if_icmp.holds cd x 0 = false) (kk : oGl p e below (T.setTop (mkF m pc' Ls (st))) F) : oGl p e below (T.setTop (mkF m pc Ls (.int x :: st))) F := by
  subst hp
  exact oOn (fun _ kK => XS.ifNo X.here hx rfl hd rfl ((if0 _ _).trans hc) kK) kk
theorem sicN {pc pc' : Nat} {Ls : Array Slot} {F : State → Prop} {st : List Value} {cd : ClassFile.Cond} {o : Int} {x y : Int32} (X : Stand p l e R s m args below meth c T locs cells slots) (hx : p.tables.exec = Jvm.exec) (hd : decode c.code pc = .ok (.if_icmp cd o, 3)) (hp : pc + 3 = pc') (hc : if_icmp.holds cd x y = false) (kk : oGl p e below (T.setTop (mkF m pc' Ls (st))) F) : oGl p e below (T.setTop (mkF m pc Ls (.int y :: .int x :: st))) F := by
  subst hp
  exact oOn (fun _ kK => XS.icmpNo X.here hx rfl hd rfl hc kK) kk
theorem sifnullN {pc pc' : Nat} {Ls : Array Slot} {F : State → Prop} {st : List Value} {o : Int} {b : Addr} (X : Stand p l e R s m args below meth c T locs cells slots) (hx : p.tables.exec = Jvm.exec) (hd : decode c.code pc = .ok (.ifnull o, 3)) (hp : pc + 3 = pc')  (kk : oGl p e below (T.setTop (mkF m pc' Ls (st))) F) : oGl p e below (T.setTop (mkF m pc Ls (.ref b :: st))) F := by
  subst hp
  exact oOn (fun _ kK => XS.ifnullNo X.here hx rfl hd rfl kK) kk
theorem sifnonnullN {pc pc' : Nat} {Ls : Array Slot} {F : State → Prop} {st : List Value} {o : Int} (X : Stand p l e R s m args below meth c T locs cells slots) (hx : p.tables.exec = Jvm.exec) (hd : decode c.code pc = .ok (.ifnonnull o, 3)) (hp : pc + 3 = pc')  (kk : oGl p e below (T.setTop (mkF m pc' Ls (st))) F) : oGl p e below (T.setTop (mkF m pc Ls (.null :: st))) F := by
  subst hp
  exact oOn (fun _ kK => XS.ifnonnullNo X.here hx rfl hd rfl kK) kk
/-! arrays of ints, bytes, chars, shorts, booleans: place j holds f j -/
def oAI (Z : State) (h : Heap) (a : Addr) (ty : FieldType) (n : Nat) (f : Nat → Int32) : Prop := ∃ c : Cell, Arr Z h a c ty ∧ c.slots.size = n ∧ n < 2147483648 ∧ ∀ j, j < n → c.slots[j]? = some (.int (f j))
def oUp {α : Type} (f : Nat → α) (i : Nat) (x : α) : Nat → α := fun k => if k = i then x else f k
theorem oUp_hit {α : Type} {f : Nat → α} {i : Nat} {x : α} : oUp f i x i = x := if_pos rfl
theorem oUp_miss {α : Type} {f : Nat → α} {i k : Nat} {x : α} (q : k ≠ i) : oUp f i x k = f k := if_neg q
variable {n : Nat} {f f' : Nat → Int32} {sl : Nat} {v : Value} {ws : List Addr}
theorem oAI.lt (F : oAI Z h a ty n f) : @LT.lt Nat _ a h.size := by obtain ⟨c, A, -⟩ := F; exact A.lt
theorem oAI.small (F : oAI Z h a ty n f) : n < 2147483648 := by obtain ⟨c, -, -, q, -⟩ := F; exact q
theorem oAI.ext (F : oAI Z h a ty n f) (E : Ext h h') : oAI Z h' a ty n f := by obtain ⟨c, A, r⟩ := F; exact ⟨c, A.ext E, r⟩
theorem oAI.other (F : oAI Z h b ty n f) (W : Wr h h' a sl v) (q : b ≠ a) : oAI Z h' b ty n f := by obtain ⟨c, A, r⟩ := F; exact ⟨c, A.other W q, r⟩
theorem oAI.keep (F : oAI Z h a ty n f) (K : Keep h h' ws) (q : a ∉ ws) : oAI Z h' a ty n f := by obtain ⟨c, A, r⟩ := F; exact ⟨c, ⟨K.2.1 a c A.1 q, A.2⟩, r⟩
theorem oAI.congr (F : oAI Z h a ty n f) (q : ∀ j, j < n → f j = f' j) : oAI Z h a ty n f' := by obtain ⟨c, A, r1, r2, r3⟩ := F; exact ⟨c, A, r1, r2, fun j hj => by rw [← q j hj]; exact r3 j hj⟩
theorem oAI.new {k : ClassId} {z : Int32} (A : Arr Z h a (newA k ty z) ty) (hn : z.toInt.toNat = n) (hd : defaultValue ty = .int 0 := by rfl) : oAI Z h a ty n (fun _ => 0) := by
  refine ⟨_, A, ?_, ?_, fun j hj => ?_⟩
  · rw [sz_new]; exact hn
  · have := z.toInt_lt; omega
  · have hs : (newA k ty z).slots.size = n := by rw [sz_new]; exact hn
    simp only [newA] at hs ⊢
    rw [Array.getElem?_replicate, if_pos (by simpa using (by simpa using hs : z.toNatClampNeg = n) ▸ hj), hd]
theorem oNotIn {j : Int32} {cl : Cell} (hs : cl.slots.size = n) (hj : 0 ≤ j.toInt ∧ j.toInt < n) : ¬ (j < 0 ∨ cl.slots.size ≤ j.toNatClampNeg) := by
  have h1 : j.toNatClampNeg = j.toInt.toNat := rfl
  rw [hs, h1, Int32.lt_iff_toInt_lt]
  have h2 : (0 : Int32).toInt = 0 := rfl
  rw [h2]; omega
theorem oAI.at (F : oAI Z h a ty n f) {j : Int32} (hj : 0 ≤ j.toInt ∧ j.toInt < n) : ∃ c : Cell, Arr Z h a c ty ∧ ¬ (j < 0 ∨ c.slots.size ≤ j.toNatClampNeg) ∧ c.slots[j.toNatClampNeg]? = some (.int (f j.toInt.toNat)) := by
  obtain ⟨c, A, S, q, G⟩ := F
  exact ⟨c, A, oNotIn S hj, G j.toInt.toNat (by omega)⟩
theorem oAI.set {j : Int32} {x : Int32} (F : oAI Z h a ty n f) (W : Wr h h' a j.toNatClampNeg (.int x)) (hj : 0 ≤ j.toInt ∧ j.toInt < n) : oAI Z h' a ty n (oUp f j.toInt.toNat x) := by
  obtain ⟨c, A, S, q, G⟩ := F
  refine ⟨_, A.same W, by rw [sz_set]; exact S, q, fun k hk => ?_⟩
  have h1 : j.toNatClampNeg = j.toInt.toNat := rfl
  show (c.slots.setIfInBounds j.toNatClampNeg (.int x))[k]? = _
  by_cases e : k = j.toInt.toNat
  · subst e; rw [oUp_hit, h1, Array.getElem?_setIfInBounds_self_of_lt (by rw [S]; exact hk)]
  · rw [oUp_miss e, h1, Array.getElem?_setIfInBounds_ne (Ne.symm e)]; exact G k hk
theorem oAI.len (F : oAI Z h a ty n f) (X : Stand p l e R s m args below meth c T locs cells slots) (hx : p.tables.exec = Jvm.exec) (hZ : Z.Warmed39 s.vm) (eT : T.heap = h) {g : JFrame} (hg : g.method = m) {rest : List Value} (hs : g.stack = .ref a :: rest) (hd : decode c.code g.pc = .ok (.arraylength, 1)) :
    ∀ t, Steps p.tables e below (T.setTop { g with pc := g.pc + 1, stack := .int (Int32.ofNat n) :: rest }) t → Steps p.tables e below (T.setTop g) t := by
  obtain ⟨cl, A, S, -, -⟩ := F
  intro t k
  refine X.arraylength hx (by rw [eT]; exact A.1) (State.isArrayOf_alike hZ.alike A.2.1) hg hs hd _ ?_
  rw [S]; exact k
theorem oAI.ldI (F : oAI Z h a .int n f) (X : Stand p l e R s m args below meth c T locs cells slots) (hx : p.tables.exec = Jvm.exec) (hZ : Z.Warmed39 s.vm) (eT : T.heap = h) {j : Int32} (hj : 0 ≤ j.toInt ∧ j.toInt < n) {g : JFrame} (hg : g.method = m) {rest : List Value} (hs : g.stack = .int j :: .ref a :: rest) (hd : decode c.code g.pc = .ok (.iaload, 1)) :
    ∀ t, Steps p.tables e below (T.setTop { g with pc := g.pc + 1, stack := .int (f j.toInt.toNat) :: rest }) t → Steps p.tables e below (T.setTop g) t := by
  obtain ⟨cl, A, q1, q2⟩ := F.at hj
  exact X.iaload hx (by rw [eT]; exact A.1) (State.isArrayOf_alike hZ.alike A.2.1) A.2.2 q1 q2 hg hs hd
theorem oAI.ldB (F : oAI Z h a .byte n f) (X : Stand p l e R s m args below meth c T locs cells slots) (hx : p.tables.exec = Jvm.exec) (hZ : Z.Warmed39 s.vm) (eT : T.heap = h) {j : Int32} (hj : 0 ≤ j.toInt ∧ j.toInt < n) {g : JFrame} (hg : g.method = m) {rest : List Value} (hs : g.stack = .int j :: .ref a :: rest) (hd : decode c.code g.pc = .ok (.baload, 1)) :
    ∀ t, Steps p.tables e below (T.setTop { g with pc := g.pc + 1, stack := .int (f j.toInt.toNat) :: rest }) t → Steps p.tables e below (T.setTop g) t := by
  obtain ⟨cl, A, q1, q2⟩ := F.at hj
  exact X.baloadBytes hx (by rw [eT]; exact A.1) (State.isArrayOf_alike hZ.alike A.2.1) A.2.2 q1 q2 hg hs hd
theorem oAI.ldZ (F : oAI Z h a .boolean n f) (X : Stand p l e R s m args below meth c T locs cells slots) (hx : p.tables.exec = Jvm.exec) (hZ : Z.Warmed39 s.vm) (eT : T.heap = h) {j : Int32} (hj : 0 ≤ j.toInt ∧ j.toInt < n) {g : JFrame} (hg : g.method = m) {rest : List Value} (hs : g.stack = .int j :: .ref a :: rest) (hd : decode c.code g.pc = .ok (.baload, 1)) :
    ∀ t, Steps p.tables e below (T.setTop { g with pc := g.pc + 1, stack := .int (f j.toInt.toNat) :: rest }) t → Steps p.tables e below (T.setTop g) t := by
  obtain ⟨cl, A, q1, q2⟩ := F.at hj
  exact X.baloadBooleans hx (by rw [eT]; exact A.1) (State.isArrayOf_alike hZ.alike A.2.1) A.2.2 q1 q2 hg hs hd
theorem oAI.ldC (F : oAI Z h a .char n f) (X : Stand p l e R s m args below meth c T locs cells slots) (hx : p.tables.exec = Jvm.exec) (hZ : Z.Warmed39 s.vm) (eT : T.heap = h) {j : Int32} (hj : 0 ≤ j.toInt ∧ j.toInt < n) {g : JFrame} (hg : g.method = m) {rest : List Value} (hs : g.stack = .int j :: .ref a :: rest) (hd : decode c.code g.pc = .ok (.caload, 1)) :
    ∀ t, Steps p.tables e below (T.setTop { g with pc := g.pc + 1, stack := .int (f j.toInt.toNat) :: rest }) t → Steps p.tables e below (T.setTop g) t := by
  obtain ⟨cl, A, q1, q2⟩ := F.at hj
  exact X.caload hx (by rw [eT]; exact A.1) (State.isArrayOf_alike hZ.alike A.2.1) A.2.2 q1 q2 hg hs hd
theorem oAI.ldS (F : oAI Z h a .short n f) (X : Stand p l e R s m args below meth c T locs cells slots) (hx : p.tables.exec = Jvm.exec) (hZ : Z.Warmed39 s.vm) (eT : T.heap = h) {j : Int32} (hj : 0 ≤ j.toInt ∧ j.toInt < n) {g : JFrame} (hg : g.method = m) {rest : List Value} (hs : g.stack = .int j :: .ref a :: rest) (hd : decode c.code g.pc = .ok (.saload, 1)) :
    ∀ t, Steps p.tables e below (T.setTop { g with pc := g.pc + 1, stack := .int (f j.toInt.toNat) :: rest }) t → Steps p.tables e below (T.setTop g) t := by
  obtain ⟨cl, A, q1, q2⟩ := F.at hj
  exact X.saload hx (by rw [eT]; exact A.1) (State.isArrayOf_alike hZ.alike A.2.1) A.2.2 q1 q2 hg hs hd
theorem oAI.stI (F : oAI Z h a .int n f) (X : Stand p l e R s m args below meth c T locs cells slots) (hx : p.tables.exec = Jvm.exec) (hZ : Z.Warmed39 s.vm) (eT : T.heap = h) {j x : Int32} (hj : 0 ≤ j.toInt ∧ j.toInt < n) {g : JFrame} (hg : g.method = m) {rest : List Value} (hs : g.stack = .int x :: .int j :: .ref a :: rest) (hd : decode c.code g.pc = .ok (.iastore, 1)) :
    ∃ T' h', Stand p l e R s m args below meth c T' (locs ++ [⟨a, j.toNatClampNeg⟩]) cells slots ∧ T'.heap = h' ∧ Wr h h' a j.toNatClampNeg (.int x) ∧ oAI Z h' a .int n (oUp f j.toInt.toNat x) ∧ ∀ t, Steps p.tables e below (T'.setTop { g with pc := g.pc + 1, stack := rest }) t → Steps p.tables e below (T.setTop g) t := by
  have F' := F
  obtain ⟨cl, A, S, q, G⟩ := F'
  obtain ⟨T', h', X', e', W, st⟩ := Jvm.RoadKit.stI X hx hZ eT A (x := x) (oNotIn S hj) hg hs hd
  exact ⟨T', h', X', e', W, F.set W hj, st⟩
theorem oAI.stB (F : oAI Z h a .byte n f) (X : Stand p l e R s m args below meth c T locs cells slots) (hx : p.tables.exec = Jvm.exec) (hZ : Z.Warmed39 s.vm) (eT : T.heap = h) {j x : Int32} (hj : 0 ≤ j.toInt ∧ j.toInt < n) {g : JFrame} (hg : g.method = m) {rest : List Value} (hs : g.stack = .int x :: .int j :: .ref a :: rest) (hd : decode c.code g.pc = .ok (.bastore, 1)) :
    ∃ T' h', Stand p l e R s m args below meth c T' (locs ++ [⟨a, j.toNatClampNeg⟩]) cells slots ∧ T'.heap = h' ∧ Wr h h' a j.toNatClampNeg (.int (nar .byte x)) ∧ oAI Z h' a .byte n (oUp f j.toInt.toNat (nar .byte x)) ∧ ∀ t, Steps p.tables e below (T'.setTop { g with pc := g.pc + 1, stack := rest }) t → Steps p.tables e below (T.setTop g) t := by
  have F' := F
  obtain ⟨cl, A, S, q, G⟩ := F'
  obtain ⟨T', h', X', e', W, st⟩ := Jvm.RoadKit.stB X hx hZ eT A (x := x) (oNotIn S hj) hg hs hd
  exact ⟨T', h', X', e', W, F.set W hj, st⟩
theorem oAI.stZ (F : oAI Z h a .boolean n f) (X : Stand p l e R s m args below meth c T locs cells slots) (hx : p.tables.exec = Jvm.exec) (hZ : Z.Warmed39 s.vm) (eT : T.heap = h) {j x : Int32} (hj : 0 ≤ j.toInt ∧ j.toInt < n) {g : JFrame} (hg : g.method = m) {rest : List Value} (hs : g.stack = .int x :: .int j :: .ref a :: rest) (hd : decode c.code g.pc = .ok (.bastore, 1)) :
    ∃ T' h', Stand p l e R s m args below meth c T' (locs ++ [⟨a, j.toNatClampNeg⟩]) cells slots ∧ T'.heap = h' ∧ Wr h h' a j.toNatClampNeg (.int (nar .boolean x)) ∧ oAI Z h' a .boolean n (oUp f j.toInt.toNat (nar .boolean x)) ∧ ∀ t, Steps p.tables e below (T'.setTop { g with pc := g.pc + 1, stack := rest }) t → Steps p.tables e below (T.setTop g) t := by
  have F' := F
  obtain ⟨cl, A, S, q, G⟩ := F'
  obtain ⟨T', h', X', e', W, st⟩ := Jvm.RoadKit.stZ X hx hZ eT A (x := x) (oNotIn S hj) hg hs hd
  exact ⟨T', h', X', e', W, F.set W hj, st⟩
theorem oAI.stC (F : oAI Z h a .char n f) (X : Stand p l e R s m args below meth c T locs cells slots) (hx : p.tables.exec = Jvm.exec) (hZ : Z.Warmed39 s.vm) (eT : T.heap = h) {j x : Int32} (hj : 0 ≤ j.toInt ∧ j.toInt < n) {g : JFrame} (hg : g.method = m) {rest : List Value} (hs : g.stack = .int x :: .int j :: .ref a :: rest) (hd : decode c.code g.pc = .ok (.castore, 1)) :
    ∃ T' h', Stand p l e R s m args below meth c T' (locs ++ [⟨a, j.toNatClampNeg⟩]) cells slots ∧ T'.heap = h' ∧ Wr h h' a j.toNatClampNeg (.int (nar .char x)) ∧ oAI Z h' a .char n (oUp f j.toInt.toNat (nar .char x)) ∧ ∀ t, Steps p.tables e below (T'.setTop { g with pc := g.pc + 1, stack := rest }) t → Steps p.tables e below (T.setTop g) t := by
  have F' := F
  obtain ⟨cl, A, S, q, G⟩ := F'
  obtain ⟨T', h', X', e', W, st⟩ := Jvm.RoadKit.stC X hx hZ eT A (x := x) (oNotIn S hj) hg hs hd
  exact ⟨T', h', X', e', W, F.set W hj, st⟩
theorem oAI.stS (F : oAI Z h a .short n f) (X : Stand p l e R s m args below meth c T locs cells slots) (hx : p.tables.exec = Jvm.exec) (hZ : Z.Warmed39 s.vm) (eT : T.heap = h) {j x : Int32} (hj : 0 ≤ j.toInt ∧ j.toInt < n) {g : JFrame} (hg : g.method = m) {rest : List Value} (hs : g.stack = .int x :: .int j :: .ref a :: rest) (hd : decode c.code g.pc = .ok (.sastore, 1)) :
    ∃ T' h', Stand p l e R s m args below meth c T' (locs ++ [⟨a, j.toNatClampNeg⟩]) cells slots ∧ T'.heap = h' ∧ Wr h h' a j.toNatClampNeg (.int (nar .short x)) ∧ oAI Z h' a .short n (oUp f j.toInt.toNat (nar .short x)) ∧ ∀ t, Steps p.tables e below (T'.setTop { g with pc := g.pc + 1, stack := rest }) t → Steps p.tables e below (T.setTop g) t := by
  have F' := F
  obtain ⟨cl, A, S, q, G⟩ := F'
  obtain ⟨T', h', X', e', W, st⟩ := Jvm.RoadKit.stS X hx hZ eT A (x := x) (oNotIn S hj) hg hs hd
  exact ⟨T', h', X', e', W, F.set W hj, st⟩
/-! words out of words -/
theorem oSame {as : Array Value} {C : String} {x y z : MethodName} (wd : (Jvm.Cond.declares y).before as Z = true) (ws : (Jvm.Cond.selects C x z).before as Z = true) (hc : z.cls = y.cls) (hy : y.cls ≠ "java/lang/invoke/MethodHandle" ∧ y.cls ≠ "java/lang/invoke/VarHandle") : (Jvm.Cond.sameMethod y.cls y.cls y.name y.desc).before as Z = true := by
  obtain ⟨c2, r2, m2, -, -, q3, -, kP, hkP, hkPi⟩ := Cond.selects_spec ws
  have h1 := findClass_of_methodNamed q3
  rw [hc] at h1
  cases hm : Z.methodNamed? y with
  | none => simp [Cond.before, Cond.holds, Cond.value, hm] at wd
  | some mk =>
    have h2 := State.methodFound?_of_named hm hy
    have h3 := findClass_of_methodNamed hm
    simp only [Cond.before, Cond.holds, Cond.value, h1, h2, hm, hkP, Option.any_some, hkPi]
    rfl
theorem oPriv {as : Array Value} {y : MethodName} {kk : Nat} (wi : (Jvm.Cond.instantiable y.cls kk).before as s = true) (hpriv : s.PrivateAt y) (hinst : (Jvm.Cond.instanceMethod y).before as s = true) (hy : y.cls ≠ "java/lang/invoke/MethodHandle" ∧ y.cls ≠ "java/lang/invoke/VarHandle") : (Jvm.Cond.selects y.cls y y).before as s = true := by
  obtain ⟨c, k, h1, h2, h3, h4, -⟩ := Cond.instantiable_spec wi
  have i5 : k.isInterface = false := by cases hq : k.isInterface <;> simp [hq] at h4 ⊢
  exact selects_self_of_private h1 h2 i5 hpriv hinst hy
theorem oPriv2 {as : Array Value} {C : String} {y : MethodName} (ws : (Jvm.Cond.selects C y y).before as s = true) (hpriv : s.PrivateAt y) (hinst : (Jvm.Cond.instanceMethod y).before as s = true) (hy : y.cls ≠ "java/lang/invoke/MethodHandle" ∧ y.cls ≠ "java/lang/invoke/VarHandle") : (Jvm.Cond.selects y.cls y y).before as s = true := by
  obtain ⟨c, r, m, -, -, q3, -, k, hk, hki⟩ := Cond.selects_spec ws
  exact selects_self_of_private (findClass_of_methodNamed q3) hk hki hpriv hinst hy
/-! the start's statics -/
theorem oAnd {A B : Jvm.Cond} {as : Array Value} {st : State} (q : (Jvm.Cond.and A B).before as st = true) : A.before as st = true ∧ B.before as st = true := by
  rw [Cond.before_and, Bool.and_eq_true] at q; exact q
/-- a static that holds exactly an object of the class K -/
theorem oStaR {as : Array Value} {C n d K : String} (q : (Jvm.Cond.exactly (.static C n d) K).before as Z = true) (w1 : (Jvm.Cond.initialized C).before as Z = true) (w2 : (Jvm.Cond.laysStatic C n d).before as Z = true) : ∃ a, (Term.static C n d).eval as Z none [] Z = some (.ref a) ∧ Sta Z Z.heap C n d (.ref a) ∧ Exa Z Z.heap a K := by
  obtain ⟨a, c', cell, k, e1, -⟩ := Cond.exactly_spec q
  exact ⟨a, e1, Sta.start e1 (Or.inr ⟨w1, w2⟩), Exa.start e1 (Cond.before_iff.mp q)⟩
theorem oFldI {as : Array Value} {t : Term} {C n d : String} {k : Int32} {a : Addr} (q : (Jvm.Cond.eq (.field t C n d) (.int k)).before as Z = true) (ev : t.eval as Z none [] Z = some (.ref a)) : Fld Z Z.heap a C n d (.int k) := by
  have q' := Cond.before_iff.mp q
  have e1 : (Term.field t C n d).eval as Z none [] Z = Z.fieldOf? a C n d := by simp [Term.eval, ev]
  refine Fld.start ?_
  simp only [Cond.value, e1] at q'
  cases hf : Z.fieldOf? a C n d with
  | none => simp [hf] at q'
  | some v => cases v <;> simp [hf, Term.eval] at q' ⊢; exact q'
theorem oArgI {as : Array Value} {i : Nat} {w : Value} (q : (Jvm.Cond.isInt (.arg i)).before as s = true) (e : as[i]? = some w) : ∃ z, w = .int z := by
  have q' := Cond.before_iff.mp q
  simp only [Cond.value, Term.eval, e] at q'
  cases w <;> first | exact ⟨_, rfl⟩ | simp at q'
theorem oArgJ {as : Array Value} {i : Nat} {w : Value} (q : (Jvm.Cond.isLong (.arg i)).before as s = true) (e : as[i]? = some w) : ∃ z, w = .long z := by
  have q' := Cond.before_iff.mp q
  simp only [Cond.value, Term.eval, e] at q'
  cases w <;> first | exact ⟨_, rfl⟩ | simp at q'
theorem own_arrAt {Z : State} {ca : Addr} {cl : Cell} {ty : FieldType} (A : Arr Z Z.heap ca cl ty) : Z.arrayAt? ca = some cl := by
  have hp := A.plain
  obtain ⟨h1, ⟨hp', k, hk, comp, hkind⟩, h3⟩ := A
  simp [State.arrayAt?, h1, hk, hkind, h3, hp]
theorem own_len {as : Array Value} {Z : State} {t : Term} {ca : Addr} {cl : Cell} {ty : FieldType} (ev : t.eval as Z none [] Z = some (.ref ca)) (A : Arr Z Z.heap ca cl ty) (q : (Jvm.Cond.eq (.length t) (.int 256)).before as Z = true) : cl.slots.size = 256 := by
  have q' := Cond.before_iff.mp q
  have e1 := own_arrAt A
  by_cases hs : cl.slots.size < 2 ^ 31
  · have e2 : (Term.length t).eval as Z none [] Z = some (.int cl.slots.size.toInt32) := by simp [Term.eval, ev, e1, hs]
    have e3 := Cond.eq_ints e2 (Term.int_eval 256)
    rw [e3] at q'
    have e4 : cl.slots.size.toInt32 = 256 := by simpa using q'
    have e5 : (cl.slots.size.toInt32).toInt = (256 : Int32).toInt := by rw [e4]
    have e6 : (Int32.ofNat cl.slots.size).toInt = cl.slots.size := Int32.toInt_ofNat_of_lt (by omega)
    have e7 : (256 : Int32).toInt = 256 := by decide
    have e8 : cl.slots.size.toInt32 = Int32.ofNat cl.slots.size := rfl
    rw [e8, e6, e7] at e5
    omega
  · have e2 : (Term.length t).eval as Z none [] Z = none := by
      simp [Term.eval, ev]
      intro a ha
      rw [e1] at ha
      cases ha
      omega
    simp [Cond.value, e2] at q'
theorem own_all {as : Array Value} {Z : State} {C n d K : String} {ca : Addr} {cl : Cell} {ty : FieldType} {X : Jvm.Cond} (ev : (Term.static C n d).eval as Z none [] Z = some (.ref ca)) (A : Arr Z Z.heap ca cl ty) (hn : cl.slots.size = 256) (q : (Jvm.Cond.all (.static C n d) (.and (.exactly (.elem (.static C n d) (.index 0)) K) X)).before as Z = true) :
    ∀ j : Int32, 0 ≤ j.toInt ∧ j.toInt < (256 : Nat) → ∃ o, cl.slots[j.toNatClampNeg]? = some (.ref o) ∧ Exa Z Z.heap o K ∧ (Term.elem (.static C n d) (.index 0)).eval as Z none [j.toNatClampNeg] Z = some (.ref o) ∧ X.value as Z none Z [j.toNatClampNeg] = some true := by
  intro j hj
  have e1 := own_arrAt A
  have hj0 : ¬ j < 0 := by rw [Int32.lt_iff_toInt_lt]; have : (0 : Int32).toInt = 0 := rfl; omega
  have h1 : j.toNatClampNeg = j.toInt.toNat := rfl
  have h := Cond.all_elim ev e1 (Cond.before_iff.mp q) j.toNatClampNeg (by rw [hn, h1]; omega)
  obtain ⟨h2, h3⟩ := and_e h
  have ev' : (Term.static C n d).eval as Z none [j.toNatClampNeg] Z = some (.ref ca) := ev
  have e2 : (Term.elem (.static C n d) (.index 0)).eval as Z none [j.toNatClampNeg] Z = cl.slots[j.toNatClampNeg]? := by
    have e3 := idx_at (args := as) (s := Z) (first := Z) (o := none) hj0
    simp only [Term.eval] at ev' e3 ⊢
    rw [ev', e3]
    simp [e1, hj0]
  obtain ⟨o, c', cell, k, f1, -⟩ := Cond.exactly_spec (show (Cond.exactly (.elem (.static C n d) (.index 0)) K).holds as Z none Z [j.toNatClampNeg] = true by simp [Cond.holds, h2])
  exact ⟨o, by rw [← e2]; exact f1, exa_at f1 h2, f1, h3⟩
theorem own_fld {as : Array Value} {Z : State} {t u : Term} {idx : List Nat} {O f D : String} {o : Addr} {k : Int32} (f1 : t.eval as Z none idx Z = some (.ref o)) (hx : (Jvm.Cond.eq (.field t O f D) u).value as Z none Z idx = some true) (hu : u.eval as Z none idx Z = some (.int k)) : Fld Z Z.heap o O f D (.int k) := by
  have e1 : (Term.field t O f D).eval as Z none idx Z = Z.fieldOf? o O f D := by simp [Term.eval, f1]
  refine Fld.start ?_
  simp only [Cond.value, e1, hu] at hx
  cases hf : Z.fieldOf? o O f D with
  | none => simp [hf] at hx
  | some v => cases v <;> simp [hf] at hx ⊢; exact hx
theorem own_ix {as : Array Value} {Z : State} {j : Int32} (hj : 0 ≤ j.toInt) : (Term.sub (.index 0) (.int 128)).eval as Z none [j.toNatClampNeg] Z = some (.int (j - 128)) := by
  have hj0 : ¬ j < 0 := by rw [Int32.lt_iff_toInt_lt]; have : (0 : Int32).toInt = 0 := rfl; omega
  have e3 := idx_at (args := as) (s := Z) (first := Z) (o := none) hj0
  simp only [Term.eval] at e3 ⊢
  rw [e3]; rfl
theorem oEqI {as : Array Value} {t : Term} {k : Int32} (q : (Jvm.Cond.eq t (.int k)).before as Z = true) : t.eval as Z none [] Z = some (.int k) := by
  have q' := Cond.before_iff.mp q
  simp only [Cond.value] at q'
  cases hf : t.eval as Z none [] Z with
  | none => simp [hf] at q'
  | some v => cases v <;> simp [hf, Term.eval] at q' ⊢; exact q'
end OwnKit
section OwnVm
variable {p : Program} {l : Launch} {e : Env} {R : Room} {s : State} {m : MethodId} {args : Array Value} {below : List Frame} {meth : Method} {c : Code} {T : State} {locs : List Loc} {cells slots : Nat} {Z : State} {h h' : Heap} {a0 : Array Value}
/-! bodies whose contract speaks of the tables (which constants have been loaded) -/
def oFinV (s : State) (below : List Frame) (Q : Option Value → Heap → Vm → List Loc → Prop) (C S : Nat) (t : State) : Prop := ∃ o, t.status = .running ∧ Ended t below o ∧ ∃ v L, o = .returned v ∧ Q v t.heap t.vm L ∧ ReturnedEndW s o t L C S
theorem oEnterV {S0 : State} {Q : Option Value → Heap → Vm → List Loc → Prop} {C S : Nat} (k : oGl p e below S0 (oFinV s below Q C S)) : ∃ s₂ o, Steps p.tables e below S0 s₂ ∧ s₂.status = .running ∧ Ended s₂ below o ∧ ∃ v L, o = .returned v ∧ Q v s₂.heap s₂.vm L ∧ ReturnedEndW s o s₂ L C S := by
  obtain ⟨t, k1, o, k2, k3, k4⟩ := k; exact ⟨t, o, k1, k2, k3, k4⟩
theorem oRetIV {vm₁ : Vm} {n : Nat} (X : Stand p l e R (s.setVm vm₁) m args below meth c T locs cells slots) (hS : s.Since vm₁ n) (hn : n ≤ T.heap.size) (hx : p.tables.exec = Jvm.exec) (hl : meth.locks = false) {pc : Nat} {Ls : Array Slot} {z : Int32} {rest : List Value} (hret : meth.sig.returnType = some .int) (hd : decode c.code pc = .ok (.ireturn, 1))
    {Q : Option Value → Heap → Vm → List Loc → Prop} {C S : Nat} (hc : cells ≤ C) (hs : slots ≤ S) (hq : Q (some (.int z)) T.heap T.vm locs) : oGl p e below (T.setTop (mkF m pc Ls (.int z :: rest))) (oFinV s below Q C S) := by
  obtain ⟨fs, hr, hrun, hended, h1, h2, h3, hsame⟩ := X.leaveW hS hn (v := some (.int z)) (fun q => by rw [hret] at q; cases q) hl
  exact ⟨_, retOut X hx hret rfl (Or.inl ⟨rfl, Or.inl rfl, _, rfl⟩) hd hr, _, hrun, hended, _, _, rfl, hq, h1, h2, h3, hsame.mono hc hs⟩
theorem oRetNV {t : FieldType} {vm₁ : Vm} {n : Nat} (X : Stand p l e R (s.setVm vm₁) m args below meth c T locs cells slots) (hS : s.Since vm₁ n) (hn : n ≤ T.heap.size) (hx : p.tables.exec = Jvm.exec) (hl : meth.locks = false) {pc : Nat} {Ls : Array Slot} {z : Int32} {rest : List Value} (hret : meth.sig.returnType = some t) (ht : t = .boolean ∨ t = .byte ∨ t = .char ∨ t = .short) (hd : decode c.code pc = .ok (.ireturn, 1))
    {Q : Option Value → Heap → Vm → List Loc → Prop} {C S : Nat} (hc : cells ≤ C) (hs : slots ≤ S) (hq : Q (some (.int (nar t z))) T.heap T.vm locs) : oGl p e below (T.setTop (mkF m pc Ls (.int z :: rest))) (oFinV s below Q C S) := by
  obtain ⟨fs, hr, hrun, hended, h1, h2, h3, hsame⟩ := X.leaveW hS hn (v := some (.int (nar t z))) (fun q => by rw [hret] at q; cases q) hl
  exact ⟨_, retN X hx hret ht hd hr, _, hrun, hended, _, _, rfl, hq, h1, h2, h3, hsame.mono hc hs⟩
theorem oRetRV {t : FieldType} {vm₁ : Vm} {n : Nat} (X : Stand p l e R (s.setVm vm₁) m args below meth c T locs cells slots) (hS : s.Since vm₁ n) (hn : n ≤ T.heap.size) (hx : p.tables.exec = Jvm.exec) (hl : meth.locks = false) {pc : Nat} {Ls : Array Slot} {w : Value} {rest : List Value} (hret : meth.sig.returnType = some t) (ht : t.isReference = true) (hw : w.isRef = true) (hd : decode c.code pc = .ok (.areturn, 1))
    {Q : Option Value → Heap → Vm → List Loc → Prop} {C S : Nat} (hc : cells ≤ C) (hs : slots ≤ S) (hq : Q (some w) T.heap T.vm locs) : oGl p e below (T.setTop (mkF m pc Ls (w :: rest))) (oFinV s below Q C S) := by
  obtain ⟨fs, hr, hrun, hended, h1, h2, h3, hsame⟩ := X.leaveW hS hn (v := some w) (fun q => by rw [hret] at q; cases q) hl
  exact ⟨_, retOut X hx hret (narrow_ref ht hw) (Or.inr (Or.inr (Or.inr (Or.inr ⟨rfl, ht, hw⟩)))) hd hr, _, hrun, hended, _, _, rfl, hq, h1, h2, h3, hsame.mono hc hs⟩
theorem oRet0V {vm₁ : Vm} {n : Nat} (X : Stand p l e R (s.setVm vm₁) m args below meth c T locs cells slots) (hS : s.Since vm₁ n) (hn : n ≤ T.heap.size) (hx : p.tables.exec = Jvm.exec) (hl : meth.locks = false) {pc : Nat} {Ls : Array Slot} (hret : meth.sig.returnType = none) (hd : decode c.code pc = .ok (.return_, 1))
    {Q : Option Value → Heap → Vm → List Loc → Prop} {C S : Nat} (hc : cells ≤ C) (hs : slots ≤ S) (hq : Q none T.heap T.vm locs) : oGl p e below (T.setTop (mkF m pc Ls [])) (oFinV s below Q C S) := by
  obtain ⟨fs, hr, hrun, hended, h1, h2, h3, hsame⟩ := X.leaveW hS hn (v := none) (fun _ => rfl) hl
  exact ⟨_, X.returnOut hx hret hd hr, _, hrun, hended, _, _, rfl, hq, h1, h2, h3, hsame.mono hc hs⟩
theorem backOfV {J : Vm → Prop} {y : MethodName} {bytes : ByteArray} {maxL : Nat} {ret : Option FieldType} {rm : Room} {len W : Nat} {as' : Array Value} {Q : Option Value → Heap → Vm → List Loc → Prop}
    (hM : MetFree l y (head1 [Cond.code y bytes maxL ret] rm) (fun a U => a = as' ∧ Z.Warmed39 U.vm ∧ U.heap = h ∧ J U.vm) (fun _ _ _ _ _ => True) (fun _ U o U' => ∃ v L, o = .returned v ∧ Q v U'.heap U'.vm L ∧ ReturnedEndW U o U' L rm.cells rm.slots))
    (hZ : Z.Warmed39 s.vm) (wc : (Cond.code y bytes maxL ret).before a0 Z = true) (wz : (Cond.initialized y.cls).before a0 Z = true) (hf : rm.frames + 1 ≤ R.frames) (hl : W + (maxL + 11) + rm.locals ≤ R.locals) :
    BackS l R p e below s args y len W (fun A a => a = as' ∧ A.U.heap = h ∧ A.cells + rm.cells ≤ R.cells ∧ A.slots + rm.slots ≤ R.slots ∧ J A.U.vm)
      (fun A _ v B => ∃ L, Q v B.U.heap B.U.vm L ∧ B.locs = A.locs ++ L ∧ B.cells = A.cells + rm.cells ∧ B.slots = A.slots + rm.slots) :=
  BackS.of_freeW (bytes := bytes) (maxL := maxL) (ret := ret) (E := fun _ _ o t L k n => k = rm.cells ∧ n = rm.slots ∧ ∃ v, o = .returned v ∧ Q v t.heap t.vm L) hM hf hl
    (fun m meth c A a Y hp => by
      have hU : Z.Warmed39 A.U.vm := wtrans hZ Y.warmed
      refine ⟨?_, mv hU wc, mv hU wz, hp.2.2.1, hp.2.2.2.1⟩
      show (Cond.and _ .tt).before a A.U = true
      rw [Cond.before_and, mv hU wc]; rfl)
    (fun m meth c A a g mk Y hp => ⟨hp.1, wtrans hZ Y.warmed, hp.2.1, hp.2.2.2.2⟩) (fun _ _ _ _ _ _ _ _ _ => trivial)
    (fun _ _ _ _ ⟨v, L, h1, h2, h3⟩ => ⟨L, _, _, h3, rfl, rfl, v, h1, h2⟩)
    (fun m meth c A a g mk v t L k n Y hp _ _ ⟨e1, e2, v', e3, e4⟩ => by cases e3; subst e1 e2; exact ⟨L, e4, rfl, rfl, rfl⟩)
/-- the constant "" of java/lang/String (entry 7): nothing has been loaded yet, or it has, and what it is -/
def oEm (Z : State) (vm : Vm) (h : Heap) : Prop := vm.interned = Z.vm.interned ∨ ∃ a b : Nat, Lit (Z.setVm vm) "java/lang/String" 7 a ∧ Exa Z h a "java/lang/String" ∧ Fld Z h a "java/lang/String" "coder" "B" (.int 0) ∧ Fld Z h a "java/lang/String" "value" "[B" (.ref b) ∧ oAI Z h b .byte 0 (fun _ => 0)
theorem oEm.ext {vm : Vm} (F : oEm Z vm h) (E : Ext h h') : oEm Z vm h' := by
  rcases F with q | ⟨a, b, f1, f2, f3, f4, f5⟩
  · exact Or.inl q
  · exact Or.inr ⟨a, b, f1, f2.ext E, f3.ext E, f4.ext E, f5.ext E⟩
theorem oEm.keep0 {vm : Vm} (F : oEm Z vm h) (K : Keep h h' []) : oEm Z vm h' := by
  rcases F with q | ⟨a, b, f1, f2, f3, f4, f5⟩
  · exact Or.inl q
  · exact Or.inr ⟨a, b, f1, f2.keep K, f3.keep K nin0, f4.keep K nin0, f5.keep K nin0⟩
theorem oNeT {a b : Addr} {ty ty' : FieldType} {n n' : Nat} {f f' : Nat → Int32} (F : oAI Z h a ty n f) (G : oAI Z h b ty' n' f') (q : ty ≠ ty') : a ≠ b := fun e => by
  subst e
  obtain ⟨c1, A1, -⟩ := F
  obtain ⟨c2, A2, -⟩ := G
  cases A1.1.symm.trans A2.1
  obtain ⟨-, k1, h1, cp1, h2⟩ := A1.2.1
  obtain ⟨-, k2, g1, cp2, g2⟩ := A2.2.1
  cases h1.symm.trans g1
  rw [h2] at g2
  injection g2 with q1 q2
  exact q q2
theorem oNeO {a b : Addr} {C : String} {k n : Nat} {ty : FieldType} {f : Nat → Int32} (F : Exa Z h a C) (wi : (Jvm.Cond.instantiable C k).before a0 Z = true) (G : oAI Z h b ty n f) : a ≠ b := by
  obtain ⟨c2, A2, -⟩ := G
  exact ne_arr F wi A2
theorem oEm.wrA {vm : Vm} {x : Addr} {sl : Nat} {v : Value} {ty : FieldType} {n k : Nat} {f : Nat → Int32} (F : oEm Z vm h) (W : Wr h h' x sl v) (G : oAI Z h x ty n f) (wi : (Jvm.Cond.instantiable "java/lang/String" k).before a0 Z = true) (q : FieldType.byte ≠ ty) : oEm Z vm h' := by
  rcases F with r | ⟨a, b, f1, f2, f3, f4, f5⟩
  · exact Or.inl r
  · exact Or.inr ⟨a, b, f1, f2.wr W, f3.other W (Or.inl (oNeO f2 wi G)), f4.other W (Or.inl (oNeO f2 wi G)), f5.other W (oNeT f5 G q)⟩
theorem fld_fun {a : Addr} {C n d : String} {v w : Value} (F : Fld Z h a C n d v) (G : Fld Z h a C n d w) : v = w := by
  by_cases q : v = w
  · exact q
  · exact absurd rfl (F.ne G q)
theorem oEm.wrF {vm : Vm} {x : Addr} {sl : Nat} {v : Value} (F : oEm Z vm h) (W : Wr h h' x sl v) (G : Fld Z h x "java/lang/String" "value" "[B" .null) {k : Nat} (Ex : Exa Z h x "java/lang/String") (wi : (Jvm.Cond.instantiable "java/lang/String" k).before a0 Z = true) : oEm Z vm h' := by
  rcases F with r | ⟨a, b, f1, f2, f3, f4, f5⟩
  · exact Or.inl r
  · have q : a ≠ x := fun e => by subst e; exact absurd (fld_fun f4 G) nofun
    refine Or.inr ⟨a, b, f1, f2.wr W, f3.other W (Or.inl q), f4.other W (Or.inl q), f5.other W (fun e => oNeO Ex wi f5 e.symm)⟩
theorem warm_interned {vm0 vm1 : Vm} (W : (s.setVm vm0).WarmedH vm1) : vm1.interned = vm0.interned := by
  rw [W.1]; rfl
theorem oEm.warm {vm0 vm1 : Vm} (F : oEm Z vm0 h) (W : (s.setVm vm0).WarmedH vm1) : oEm Z vm1 h := by
  rcases F with r | ⟨a, b, f1, f2⟩
  · exact Or.inl ((warm_interned W).trans r)
  · exact Or.inr ⟨a, b, Lit.stays (s := s) f1 W.wide, f2⟩
theorem oAI.ofArv0 {b : Addr} {k : ClassId} {ty : FieldType} {d : Value} (V : Arv Z h b k ty (0 : Int32) [] d) : oAI Z h b ty 0 (fun _ => 0) := by
  obtain ⟨c, A, -, S, -⟩ := V
  exact ⟨c, A, S, by decide, fun j hj => absurd hj (Nat.not_lt_zero _)⟩
theorem oAI_fun {a : Addr} {ty : FieldType} {n n' : Nat} {f f' : Nat → Int32} (F : oAI Z h a ty n f) (G : oAI Z h a ty n' f') : n = n' ∧ ∀ j, j < n → f j = f' j := by
  obtain ⟨c1, A1, S1, -, G1⟩ := F
  obtain ⟨c2, A2, S2, -, G2⟩ := G
  cases A1.1.symm.trans A2.1
  have e : n = n' := S1.symm.trans S2
  refine ⟨e, fun j hj => ?_⟩
  have h1 := G1 j hj
  rw [G2 j (e ▸ hj)] at h1
  injection h1 with h1; injection h1 with h1; exact h1.symm
end OwnVm
section OwnCp
variable {p : Program} {l : Launch} {e : Env} {R : Room} {s : State} {m : MethodId} {args : Array Value} {below : List Frame} {meth : Method} {c : Code} {T : State} {locs : List Loc} {cells slots : Nat} {Z : State} {h h' : Heap} {a b : Addr}
theorem oNF {as : Array Value} {C : String} {z y : MethodName} (hs : (Jvm.Cond.selects C z z).before as s = true) (e : z.cls = y.cls) : NotFace s y := fun r0 h0 => by
  obtain ⟨c, r, m, -, -, q3, -, k, hk, hki⟩ := Cond.selects_spec hs
  have h1 := findClass_of_methodNamed q3
  have h2 := findClass_of_methodNamed h0
  rw [e] at h1
  have e2 : m.cls = r0.cls := Option.some.inj (h1.symm.trans h2)
  exact ⟨k, e2 ▸ hk, hki⟩
/-! System.arraycopy between byte arrays (as functions) -/
def oFit (n : Nat) (f : Nat → Int32) : Prop := ∀ j : Nat, j < n → fits .byte (.int (f j)) = true
def oCpF (d n : Nat) (f g : Nat → Int32) : Nat → Int32 := fun j => if d ≤ j ∧ j < d + n then f (j - d) else g j
theorem oFit.cp {d n k : Nat} {f g : Nat → Int32} (F : oFit n f) (G : oFit k g) : oFit k (oCpF d n f g) := fun j hj => by
  unfold oCpF; split
  · exact F _ (by omega)
  · exact G j hj
theorem oFit0 {n : Nat} : oFit n (fun _ => 0) := fun _ _ => (by decide : fits .byte (.int 0) = true)
theorem oFit.z {n : Nat} {f : Nat → Int32} (F : oFit n f) : oFit n (fun i => f (0 + i)) := fun j hj => by
  show fits .byte (.int (f (0 + j))) = true
  rw [Nat.zero_add]; exact F j hj
def oLs (n : Nat) (f : Nat → Int32) : List Value := (List.range n).map fun j => .int (f j)
theorem oLs_at {n j : Nat} {f : Nat → Int32} (h : j < n) : (oLs n f)[j]? = some (.int (f j)) := by simp [oLs, h]
theorem oLs_getD {n j : Nat} {f : Nat → Int32} {d : Value} (h : j < n) : (oLs n f).getD j d = .int (f j) := by simp [List.getD, oLs_at h]
theorem oAI.arv {n : Nat} {f : Nat → Int32} (F : oAI Z h a .byte n f) (G : oFit n f) : ∃ k, Arv Z h a k .byte (Int32.ofNat n) (oLs n f) (.int 0) := by
  obtain ⟨cl, A, S, q, H⟩ := F
  have e1 : (Int32.ofNat n).toInt = n := Int32.toInt_ofNat_of_lt (by omega)
  have e2 : (Int32.ofNat n).toNatClampNeg = n := by show (Int32.ofNat n).toInt.toNat = n; omega
  refine ⟨_, cl, A, rfl, by rw [S, e2], ?_, fun j hj => ?_, fun j hj => ?_⟩
  · rw [Int32.lt_iff_toInt_lt, e1]; have e0 : (0 : Int32).toInt = 0 := rfl; omega
  · rw [S] at hj; rw [oLs_getD hj]; exact H j hj
  · rw [S] at hj; rw [oLs_getD hj]; exact G j hj
theorem oCp_list {m' n k dp sp : Nat} {f g : Nat → Int32} {d d' : Value} (h1 : dp + k ≤ m') (h2 : sp + k ≤ n) {j : Nat} (hj : j < m') :
    ((oLs m' g).take dp ++ ((List.range k).map fun i => (oLs n f).getD (sp + i) d') ++ (oLs m' g).drop (dp + k)).getD j d = .int (oCpF dp k (fun i => f (sp + i)) g j) := by
  have hl : (oLs m' g).length = m' := by simp [oLs]
  have ht : ((oLs m' g).take dp).length = dp := by rw [List.length_take, hl]; omega
  have hu : (((List.range k).map fun i => (oLs n f).getD (sp + i) d')).length = k := by simp
  unfold oCpF
  by_cases q1 : j < dp
  · rw [if_neg (by omega), List.getD_eq_getElem?_getD, List.append_assoc, List.getElem?_append_left (by omega), List.getElem?_take, if_pos q1, oLs_at hj]; rfl
  · by_cases q2 : j < dp + k
    · rw [if_pos ⟨by omega, q2⟩, List.getD_eq_getElem?_getD, List.getElem?_append_left (by rw [List.length_append]; omega), List.getElem?_append_right (by omega), ht, List.getElem?_map, List.getElem?_range (by omega)]
      show (oLs n f).getD (sp + (j - dp)) d' = _
      rw [oLs_getD (by omega)]
    · rw [if_neg (by omega), List.getD_eq_getElem?_getD, List.getElem?_append_right (by rw [List.length_append]; omega), List.length_append, ht, hu, List.getElem?_drop, oLs_at (by omega), show dp + k + (j - (dp + k)) = j by omega]; rfl
theorem oCp (X : Stand p l e R s m args below meth c T locs cells slots) (hx : p.tables.exec = Jvm.exec) (hZ : Z.Warmed39 s.vm) {a0 : Array Value} {own : String} {index : Nat} (hown : s.vm.findClass own = some m.cls)
    (w1 : (Cond.methodLink own index Jvm.Stand.acN).before a0 Z = true) (w2 : (Cond.native Jvm.Stand.acN).before a0 Z = true) (w3 : (Cond.static Jvm.Stand.acN).before a0 Z = true) (w4 : (Cond.initialized "java/lang/System").before a0 Z = true) (eT : T.heap = h)
    {sp dp nn : Int32} {n m' : Nat} {f g : Nat → Int32} (A : oAI Z h a .byte n f) (B : oAI Z h b .byte m' g) (Fa : oFit n f) (Fb : oFit m' g)
    (h1 : 0 ≤ sp.toInt) (h2 : 0 ≤ dp.toInt) (h3 : 0 ≤ nn.toInt) (h4 : sp.toInt + nn.toInt ≤ n) (h5 : dp.toInt + nn.toInt ≤ m') {n0 : Nat} (N : Fr n0 locs) (ge : @LE.le Nat _ n0 b)
    {gf : JFrame} (hg : gf.method = m) (hsize : gf.locals.size = c.maxLocals) {rest : List Value} (hs : gf.stack = .int nn :: .int dp :: .ref b :: .int sp :: .ref a :: rest) (hd : decode c.code gf.pc = .ok (.invokestatic index, 3))
    (hf : 1 ≤ R.frames) {W : Nat} (hW : 2 * gf.monitorRoom + (rest.map fun v => v.category).sum ≤ W) (hlo : W + (nativeFrameWords "java/lang/System" "arraycopy" 5 + 11) ≤ R.locals) :
    ∃ T' h' L, Stand p l e R s m args below meth c T' L cells slots ∧ T'.heap = h' ∧ Fr n0 L ∧ Keep h h' [b] ∧ oAI Z h' b .byte m' (oCpF dp.toInt.toNat nn.toInt.toNat (fun i => f (sp.toInt.toNat + i)) g) ∧
      ∀ target, Steps p.tables e below (T'.setTop { gf with pc := gf.pc + 3, stack := rest }) target → Steps p.tables e below (T.setTop gf) target := by
  obtain ⟨ka, A'⟩ := A.arv Fa
  obtain ⟨kb, B'⟩ := B.arv Fb
  have hn9 := A.small
  have hm9 := B.small
  have e1 : (Int32.ofNat n).toNatClampNeg = n := by show (Int32.ofNat n).toInt.toNat = n; rw [Int32.toInt_ofNat_of_lt (by omega)]; omega
  have e2 : (Int32.ofNat m').toNatClampNeg = m' := by show (Int32.ofNat m').toInt.toNat = m'; rw [Int32.toInt_ofNat_of_lt (by omega)]; omega
  have s1 : sp.toNatClampNeg = sp.toInt.toNat := rfl
  have s2 : dp.toNatClampNeg = dp.toInt.toNat := rfl
  have s3 : nn.toNatClampNeg = nn.toInt.toNat := rfl
  have z0 : (0 : Int32).toInt = 0 := rfl
  obtain ⟨T', h2', L, r1, r2, r3, r4, r5, r6⟩ := cpA X hx hZ hown w1 w2 w3 w4 eT A' B' (Or.inl ⟨rfl, rfl⟩) (by rw [Int32.lt_iff_toInt_lt]; omega) (by rw [Int32.lt_iff_toInt_lt]; omega) (by rw [Int32.lt_iff_toInt_lt]; omega) (by rw [e1, s1, s3]; omega) (by rw [e2, s2, s3]; omega) rfl (by rw [s2, s3]; simp [oLs]; omega) N ge hg hsize hs hd hf hW hlo
  refine ⟨T', h2', L, r1, r2, r3, r4, ?_, r6⟩
  obtain ⟨cl, A2, -, S2, -, H2, -⟩ := r5
  rw [e2] at S2
  refine ⟨cl, A2, S2, hm9, fun j hj => ?_⟩
  rw [H2 j (by rw [S2]; exact hj), s1, s2, s3, oCp_list (by omega) (by omega) hj]
def oLst (l : List Int32) : Nat → Int32 := fun j => l.getD j 0
theorem oAI.ofArvL {k : ClassId} {z : Int32} {d : Value} {l : List Int32} (V : Arv Z h b k .byte z (l.map Value.int) d) (hl : z.toNatClampNeg = l.length) : oAI Z h b .byte l.length (oLst l) := by
  obtain ⟨cl, A, -, S, -, H, -⟩ := V
  rw [hl] at S
  refine ⟨cl, A, S, ?_, fun j hj => ?_⟩
  · rw [← hl]; show z.toInt.toNat < _; have := z.toInt_lt; omega
  · rw [H j (by rw [S]; exact hj)]; simp [oLst, List.getD, List.getElem?_map, hj]
theorem oFldX {Z : State} {as : Array Value} {t : Term} {C n d K : String} {a : Addr} (q : (Jvm.Cond.exactly (.field t C n d) K).before as Z = true) (ev : t.eval as Z none [] Z = some (.ref a)) : ∃ w : Nat, (Term.field t C n d).eval as Z none [] Z = some (.ref w) ∧ Fld Z Z.heap a C n d (.ref w) ∧ Exa Z Z.heap w K := by
  obtain ⟨w, c', cell, k, e1, -⟩ := Cond.exactly_spec q
  have e2 : (Term.field t C n d).eval as Z none [] Z = Z.fieldOf? a C n d := by simp [Term.eval, ev]
  exact ⟨w, e1, Fld.start (e2.symm.trans e1), Exa.start e1 (Cond.before_iff.mp q)⟩
theorem oFldN {Z : State} {as : Array Value} {t : Term} {C n d : String} {a : Addr} (q : (Jvm.Cond.eq (.field t C n d) .null).before as Z = true) (ev : t.eval as Z none [] Z = some (.ref a)) : Fld Z Z.heap a C n d .null := by
  have q' := Cond.before_iff.mp q
  have e1 : (Term.field t C n d).eval as Z none [] Z = Z.fieldOf? a C n d := by simp [Term.eval, ev]
  refine Fld.start ?_
  simp only [Cond.value, e1] at q'
  cases hf : Z.fieldOf? a C n d with
  | none => simp [hf] at q'
  | some v => cases v <;> simp [hf, Term.eval] at q' ⊢
theorem oLenK {Z : State} {as : Array Value} {t : Term} {ca : Addr} {cl : Cell} {ty : FieldType} {k : Int32} {N : Nat} (ev : t.eval as Z none [] Z = some (.ref ca)) (A : Arr Z Z.heap ca cl ty) (q : (Jvm.Cond.eq (.length t) (.int k)).before as Z = true) (hk : k.toInt = N) : cl.slots.size = N := by
  have q' := oEqI q
  have e1 := own_arrAt A
  by_cases hs : cl.slots.size < 2 ^ 31
  · have e2 : (Term.length t).eval as Z none [] Z = some (.int cl.slots.size.toInt32) := by simp [Term.eval, ev, e1, hs]
    rw [e2] at q'
    injection q' with q'; injection q' with q'
    have e6 : (Int32.ofNat cl.slots.size).toInt = cl.slots.size := Int32.toInt_ofNat_of_lt (by omega)
    have e8 : cl.slots.size.toInt32 = Int32.ofNat cl.slots.size := rfl
    rw [e8] at q'
    rw [q', hk] at e6
    omega
  · have e2 : (Term.length t).eval as Z none [] Z = none := by
      simp [Term.eval, ev]
      intro a ha
      rw [e1] at ha
      cases ha
      omega
    rw [e2] at q'; cases q'
theorem oElem {Z : State} {as : Array Value} {t : Term} {ca : Addr} {cl : Cell} {ty : FieldType} {j k : Int32} (ev : t.eval as Z none [] Z = some (.ref ca)) (A : Arr Z Z.heap ca cl ty) (q : (Jvm.Cond.eq (.elem t (.int j)) (.int k)).before as Z = true) (hj : ¬ j < 0) : cl.slots[j.toNatClampNeg]? = some (.int k) := by
  have q' := oEqI q
  have e1 := own_arrAt A
  simp only [Term.eval] at q' ev
  rw [ev] at q'
  simpa [e1, hj] using q'
/-! the case's start lies below q -/
def oOld (Z : State) (q : Nat) (h : Heap) : Prop := @LE.le Nat _ Z.heap.size q ∧ Ext Z.heap h
theorem oOld.start (s : State) : oOld s s.heap.size s.heap := ⟨Nat.le_refl _, Nat.le_refl _, fun _ _ h => h⟩
theorem oOld.ext {q : Nat} (O : oOld Z q h) (E : Ext h h') : oOld Z q h' := ⟨O.1, Nat.le_trans O.2.1 E.1, fun x cl hx => E.2 x cl (O.2.2 x cl hx)⟩
theorem oOld.up {q q' : Nat} (O : oOld Z q h) (le : q ≤ q') : oOld Z q' h := ⟨Nat.le_trans O.1 le, O.2⟩
theorem oOld.wr {q : Nat} {x : Addr} {sl : Nat} {v : Value} (O : oOld Z q h) (W : Wr h h' x sl v) (ge : @LE.le Nat _ q x) : oOld Z q h' := by
  obtain ⟨cell, h1, h2, h3, h4⟩ := W
  refine ⟨O.1, by rw [h4, Array.size_setIfInBounds]; exact O.2.1, fun y cl hy => ?_⟩
  have hy2 := O.2.2 y cl hy
  have ly : @LT.lt Nat _ y Z.heap.size := (Array.getElem?_eq_some_iff.mp hy).1
  have hne : x ≠ y := fun e => by subst e; exact absurd (Nat.lt_of_lt_of_le ly O.1) (Nat.not_lt.mpr ge)
  rw [h4, Array.getElem?_setIfInBounds_ne hne]; exact hy2
theorem oOld.keep {q : Nat} {ws : List Addr} (O : oOld Z q h) (K : Keep h h' ws) (al : ∀ x ∈ ws, @LE.le Nat _ q x) : oOld Z q h' :=
  ⟨O.1, Nat.le_trans O.2.1 K.1, fun y cl hy => K.2.1 y cl (O.2.2 y cl hy) (fun hm => by
    have ly : @LT.lt Nat _ y Z.heap.size := (Array.getElem?_eq_some_iff.mp hy).1
    exact absurd (Nat.lt_of_lt_of_le ly O.1) (Nat.not_lt.mpr (al y hm)))⟩
theorem IBwarm {vm0 vm1 : Vm} {Ts : List String} (F : IB Z vm0 Ts) (W : (s.setVm vm0).WarmedH vm1) : IB Z vm1 Ts := by
  obtain ⟨more, q, r⟩ := F; exact ⟨more, (warm_interned W).trans q, r⟩
end OwnCp
def oCt (Z : State) (cl : Cell) (w : Value) (k : Int32) : Prop := (w = .null ∧ k = 0) ∨ ∃ (x : Nat) (o : Int32), w = .ref x ∧ (0 ≤ o.toInt ∧ o.toInt < (7 : Nat)) ∧ k = o + 1 ∧ Exa Z Z.heap x "com/example/yusen_ledger/yusenledger/HolderCategory" ∧ Fld Z Z.heap x "java/lang/Enum" "ordinal" "I" (.int o) ∧ cl.slots[o.toNatClampNeg]? = some (.ref x)
theorem oCt.ref {Z : State} {cl : Cell} {w : Value} {k : Int32} (h : oCt Z cl w k) : w.isRef = true := by
  rcases h with ⟨rfl, -⟩ | ⟨x, o, rfl, -⟩ <;> rfl
def oU1 (f : Nat → Int32) : Nat := if f 0 < 0 then 2 else 1
def oU2 (f : Nat → Int32) : Nat := oU1 f + (if f 1 < 0 then 2 else 1)
theorem oU1_b (f : Nat → Int32) : 1 ≤ oU1 f ∧ oU1 f ≤ 2 := by unfold oU1; split <;> omega
theorem oU2_b (f : Nat → Int32) : oU1 f < oU2 f ∧ oU2 f ≤ 4 := by have h := oU1_b f; unfold oU2; split <;> omega
theorem oU1_c {f g : Nat → Int32} (h : f 0 = g 0) : oU1 f = oU1 g := by unfold oU1; rw [h]
theorem own_small {o : Int32} {n : Nat} (h : 0 ≤ o.toInt ∧ o.toInt < n) (hn : n ≤ 100) : ∃ k : Nat, k < n ∧ o = Int32.ofNat k :=
  ⟨o.toInt.toNat, by omega, Int32.toInt_inj.mp (by rw [Int32.toInt_ofNat_of_lt (by omega)]; omega)⟩
theorem own_ob {o : Int32} (h : 0 ≤ o.toInt ∧ o.toInt < (7 : Nat)) : nar .byte ((o + (1 : Int32)).toInt8.toInt32) = o + 1 := by
  obtain ⟨k, hk, rfl⟩ := own_small h (by decide)
  clear h; revert k; decide +kernel
theorem own_op {o : Int32} (h : 0 ≤ o.toInt ∧ o.toInt < (7 : Nat)) : (0 : Int32) < o + 1 := by
  obtain ⟨k, hk, rfl⟩ := own_small h (by decide)
  clear h; revert k; decide +kernel
theorem own_om {o : Int32} (h : 0 ≤ o.toInt ∧ o.toInt < (7 : Nat)) : o + 1 - 1 = o := by
  obtain ⟨k, hk, rfl⟩ := own_small h (by decide)
  clear h; revert k; decide +kernel
theorem own_a15 (x : Int32) : 0 ≤ (x &&& (15 : Int32)).toInt ∧ (x &&& (15 : Int32)).toInt < (16 : Nat) := by
  have h := c_and x 15 (by decide)
  have e : (15 : Int32).toInt = 15 := by decide
  omega
theorem own_a64 (x : Int32) : ¬ ((64 : Int32) < (x &&& (15 : Int32))) := by
  rw [Int32.lt_iff_toInt_lt]
  have h := own_a15 x
  have e : (64 : Int32).toInt = 64 := by decide
  omega
theorem own_a3 (x : Int32) : 0 ≤ (x &&& (3 : Int32)).toInt ∧ (x &&& (3 : Int32)).toInt ≤ 3 := by
  have h := c_and x 3 (by decide)
  have e : (3 : Int32).toInt = 3 := by decide
  omega
theorem own_stp {x : Int32} (h : 0 ≤ x.toInt ∧ x.toInt < (16 : Nat)) : ((x + (1 : Int32)) &&& (15 : Int32)).toInt.toNat ≠ x.toInt.toNat := by
  obtain ⟨k, hk, rfl⟩ := own_small h (by decide)
  clear h; revert k; decide +kernel
theorem own_8q {q : Int32} (h : 0 ≤ q.toInt ∧ q.toInt ≤ 3) : (¬ ((8 : Int32) * q) < 0) ∧ ((8 : Int32) * q).toNatClampNeg ≤ 24 := by
  obtain ⟨k, hk, rfl⟩ := own_small (n := 4) (show 0 ≤ q.toInt ∧ q.toInt < (4 : Nat) by omega) (by decide)
  clear h; revert k; decide +kernel
theorem own_sip {k : Nat} (h : 1 ≤ k ∧ k ≤ 4) : (((Int32.ofNat k - (0 : Int32)) / (8 : Int32)) + (1 : Int32)) = 1 := by
  rcases (by omega : k = 1 ∨ k = 2 ∨ k = 3 ∨ k = 4) with rfl | rfl | rfl | rfl <;> decide
theorem own_lt8 {k : Nat} (h : 1 ≤ k ∧ k ≤ 4) : Int32.ofNat k < (8 : Int32) := by
  rcases (by omega : k = 1 ∨ k = 2 ∨ k = 3 ∨ k = 4) with rfl | rfl | rfl | rfl <;> decide
theorem own_sm {a b : Nat} (ha : a ≤ 100) (hb : b ≤ 100) : (Int32.ofNat a + Int32.ofNat b) = Int32.ofNat (a + b) := by
  apply Int32.toInt_inj.mp
  have h1 := c_iadd (Int32.ofNat a) (Int32.ofNat b); have h2 := rng32 (Int32.ofNat a + Int32.ofNat b)
  rw [Int32.toInt_ofNat_of_lt (show a < 2 ^ 31 by omega), Int32.toInt_ofNat_of_lt (show b < 2 ^ 31 by omega)] at h1
  rw [Int32.toInt_ofNat_of_lt (show a + b < 2 ^ 31 by omega)]
  omega
theorem own_lc (x : Int32) : ¬ ((255 : Int32) < ((x &&& (255 : Int32)).toUInt32.toUInt16.toUInt32.toInt32)) := by
  rw [Int32.lt_iff_toInt_lt]
  have h := c_and x 255 (by decide)
  have e : (255 : Int32).toInt = 255 := by decide
  have h1 := c_i2c (x &&& 255)
  omega
theorem own_nc (x : Int32) : nar .char ((x &&& (255 : Int32)).toUInt32.toUInt16.toUInt32.toInt32) = ((x &&& (255 : Int32)).toUInt32.toUInt16.toUInt32.toInt32) := by
  have h := c_and x 255 (by decide)
  have e : (255 : Int32).toInt = 255 := by decide
  have h1 := c_i2c (x &&& 255)
  have h2 := c_i2c ((x &&& (255 : Int32)).toUInt32.toUInt16.toUInt32.toInt32)
  have h3 : nar .char ((x &&& (255 : Int32)).toUInt32.toUInt16.toUInt32.toInt32) = ((x &&& (255 : Int32)).toUInt32.toUInt16.toUInt32.toInt32).toUInt32.toUInt16.toUInt32.toInt32 := rfl
  rw [h3]; apply Int32.toInt_inj.mp; omega
theorem oFit.up {n i : Nat} {f : Nat → Int32} {x : Int32} (F : oFit n f) : oFit n (oUp f i (nar .byte x)) := fun j hj => by
  unfold oUp; split
  · exact fits_nar_byte x
  · exact F j hj
theorem oFit.le {n m : Nat} {f : Nat → Int32} (F : oFit n f) (q : m ≤ n) : oFit m f := fun j hj => F j (by omega)
def mkC2 (a b : Int32) : Nat → Int32 := fun j => if j = 0 then a else b

section OwnCl
variable {p : Program} {l : Launch} {e : Env} {R : Room} {s : State} {m : MethodId} {args : Array Value} {below : List Frame} {meth : Method} {c : Code} {T : State} {locs : List Loc} {cells slots : Nat} {Z : State} {h : Heap} {a : Addr}
theorem oFitC {n : Nat} {f : Nat → Int32} {cl : Cell} (A : Arr Z h a cl .byte) (S : cl.slots.size = n) (H : ∀ j, j < n → cl.slots[j]? = some (.int (f j))) (F : oFit n f) : FitC Z cl := fun i v hv => by
  obtain ⟨hi, -⟩ := Array.getElem?_eq_some_iff.mp hv
  have e1 := H i (by omega)
  rw [hv] at e1
  obtain rfl := Option.some.inj e1
  obtain ⟨-, k, hk, comp, hkind⟩ := A.2.1
  have e : Z.slotType? cl.cls .none i = some .byte := by simp [State.slotType?, hk, hkind]
  simp only [State.fitsSlot, e]
  exact F i (by omega)
theorem oCl (X : Stand p l e R s m args below meth c T locs cells slots) (hx : p.tables.exec = Jvm.exec) (hZ : Z.Warmed39 s.vm) {a0 : Array Value} {own : String} {index : Nat} (hown : s.vm.findClass own = some m.cls)
    (w1 : (Cond.methodLink own index ⟨"[B", "clone", "()Ljava/lang/Object;"⟩).before a0 Z = true) (w2 : (Cond.sameMethod "[B" "java/lang/Object" "clone" "()Ljava/lang/Object;").before a0 Z = true) (w3 : (Cond.native ⟨"java/lang/Object", "clone", "()Ljava/lang/Object;"⟩).before a0 Z = true)
    (w4 : (Cond.instanceMethod ⟨"java/lang/Object", "clone", "()Ljava/lang/Object;"⟩).before a0 Z = true) (w5 : (Cond.selects "[B" ⟨"[B", "clone", "()Ljava/lang/Object;"⟩ ⟨"java/lang/Object", "clone", "()Ljava/lang/Object;"⟩).before a0 Z = true) (w6 : (Cond.castable "[B" "java/lang/Cloneable").before a0 Z = true)
    (eT : T.heap = h) {n : Nat} {f : Nat → Int32} (A : oAI Z h a .byte n f) (E : Exa Z h a "[B") (F : oFit n f) {g : JFrame} (hg : g.method = m) (hsize : g.locals.size = c.maxLocals) {rest : List Value} (hs : g.stack = .ref a :: rest) (hd : decode c.code g.pc = .ok (.invokevirtual index, 3))
    (hf : 1 ≤ R.frames) {W : Nat} (hW : 2 * g.monitorRoom + (rest.map fun v => v.category).sum ≤ W) (hl : W + 14 ≤ R.locals) (hc : cells + 1 ≤ R.cells) (hsl : slots + n ≤ R.slots) :
    ∃ T' h', Stand p l e R s m args below meth c T' locs (cells + 1) (slots + n) ∧ T'.heap = h' ∧ Ext h h' ∧ oAI Z h' h.size .byte n f ∧ Exa Z h' h.size "[B" ∧
      ∀ target, Steps p.tables e below (T'.setTop { g with pc := g.pc + 3, stack := .ref h.size :: rest }) target → Steps p.tables e below (T.setTop g) target := by
  obtain ⟨cl, A1, S, q, H⟩ := A
  obtain ⟨T', h', r1, r2, r3, r4, r5, r6⟩ := cloneA X hx hZ hown w1 w2 w3 w4 w5 w6 eT A1 E (oFitC A1 S H F) hg hsize hs hd hf hW hl (cap := n) (by omega) hc hsl
  exact ⟨T', h', r1, r2, r3, ⟨_, r4, S, q, H⟩, r5, r6⟩
end OwnCl

theorem d1_0 : decode method_2_code 0 = .ok (.iload_n 0, 1) := by decide +kernel
theorem d1_1 : decode method_2_code 1 = .ok (.bipush 7, 2) := by decide +kernel
theorem d1_3 : decode method_2_code 3 = .ok (.iand, 1) := by decide +kernel
theorem d1_4 : decode method_2_code 4 = .ok (.istore_n 1, 1) := by decide +kernel
theorem d1_5 : decode method_2_code 5 = .ok (.iload_n 1, 1) := by decide +kernel
theorem d1_6 : decode method_2_code 6 = .ok (.iconst 1, 1) := by decide +kernel
theorem d1_7 : decode method_2_code 7 = .ok (.if_icmp .ne 7, 3) := by decide +kernel
theorem d1_10 : decode method_2_code 10 = .ok (.getstatic 7, 3) := by decide +kernel
theorem d1_13 : decode method_2_code 13 = .ok (.areturn, 1) := by decide +kernel
theorem d1_14 : decode method_2_code 14 = .ok (.iload_n 1, 1) := by decide +kernel
theorem d1_15 : decode method_2_code 15 = .ok (.iconst 2, 1) := by decide +kernel
theorem d1_16 : decode method_2_code 16 = .ok (.if_icmp .ne 7, 3) := by decide +kernel
theorem d1_19 : decode method_2_code 19 = .ok (.getstatic 13, 3) := by decide +kernel
theorem d1_22 : decode method_2_code 22 = .ok (.areturn, 1) := by decide +kernel
theorem d1_23 : decode method_2_code 23 = .ok (.iload_n 1, 1) := by decide +kernel
theorem d1_24 : decode method_2_code 24 = .ok (.iconst 3, 1) := by decide +kernel
theorem d1_25 : decode method_2_code 25 = .ok (.if_icmp .ne 7, 3) := by decide +kernel
theorem d1_28 : decode method_2_code 28 = .ok (.getstatic 16, 3) := by decide +kernel
theorem d1_31 : decode method_2_code 31 = .ok (.areturn, 1) := by decide +kernel
theorem d1_32 : decode method_2_code 32 = .ok (.iload_n 1, 1) := by decide +kernel
theorem d1_33 : decode method_2_code 33 = .ok (.iconst 4, 1) := by decide +kernel
theorem d1_34 : decode method_2_code 34 = .ok (.if_icmp .ne 7, 3) := by decide +kernel
theorem d1_37 : decode method_2_code 37 = .ok (.getstatic 19, 3) := by decide +kernel
theorem d1_40 : decode method_2_code 40 = .ok (.areturn, 1) := by decide +kernel
theorem d1_41 : decode method_2_code 41 = .ok (.iload_n 1, 1) := by decide +kernel
theorem d1_42 : decode method_2_code 42 = .ok (.iconst 5, 1) := by decide +kernel
theorem d1_43 : decode method_2_code 43 = .ok (.if_icmp .ne 7, 3) := by decide +kernel
theorem d1_46 : decode method_2_code 46 = .ok (.getstatic 22, 3) := by decide +kernel
theorem d1_49 : decode method_2_code 49 = .ok (.areturn, 1) := by decide +kernel
theorem d1_50 : decode method_2_code 50 = .ok (.iload_n 1, 1) := by decide +kernel
theorem d1_51 : decode method_2_code 51 = .ok (.bipush 6, 2) := by decide +kernel
theorem d1_53 : decode method_2_code 53 = .ok (.if_icmp .ne 7, 3) := by decide +kernel
theorem d1_56 : decode method_2_code 56 = .ok (.getstatic 25, 3) := by decide +kernel
theorem d1_59 : decode method_2_code 59 = .ok (.areturn, 1) := by decide +kernel
theorem d1_60 : decode method_2_code 60 = .ok (.iload_n 1, 1) := by decide +kernel
theorem d1_61 : decode method_2_code 61 = .ok (.bipush 7, 2) := by decide +kernel
theorem d1_63 : decode method_2_code 63 = .ok (.if_icmp .ne 7, 3) := by decide +kernel
theorem d1_66 : decode method_2_code 66 = .ok (.getstatic 28, 3) := by decide +kernel
theorem d1_69 : decode method_2_code 69 = .ok (.areturn, 1) := by decide +kernel
theorem d1_70 : decode method_2_code 70 = .ok (.aconst_null, 1) := by decide +kernel
theorem d1_71 : decode method_2_code 71 = .ok (.areturn, 1) := by decide +kernel
theorem pn_HolderTableCategoryPinLaw : plainName "com/example/yusen_ledger/yusenledger/HolderTableCategoryPinLaw" = true := by first | (simp [plainName, overriddenIn]; done) | decide +kernel
theorem ef_rmPick (m : MethodId) (x0 : Int32)  : entryFrame m #[(.int x0)] 2 = mkF m 0 #[.val (.int x0), .unset] [] := by first | (simp [entryFrame, mkF, argsToLocals, Value.category, maxLocals]; done) | rfl
def Q_rmPick (Z : State) (z : Int32) (sSECURITIES : Nat) (sCORPORATE : Nat) (sFINANCIAL : Nat) (sFOREIGN_CORPORATE : Nat) (sINDIVIDUAL : Nat) (sFOREIGN_INDIVIDUAL : Nat) (sGOVERNMENT : Nat) (cl : Cell) (h0 : Heap) (n0 : Nat) (vv : Option Value) (h : Heap) (L : List Loc) : Prop := ∃ (w : Value) (k : Int32), vv = some w ∧ Fr n0 L ∧ h = h0 ∧ oCt Z cl w k
set_option maxRecDepth 65536 in
set_option maxHeartbeats 40000000 in
theorem rmPick (l : Launch) (Z : State) (a0 : Array Value) (hw : ∀ d ∈ tables_1, d.before a0 Z = true) (ws : List Jvm.Cond) (z : Int32) (sSECURITIES : Nat) (sCORPORATE : Nat) (sFINANCIAL : Nat) (sFOREIGN_CORPORATE : Nat) (sINDIVIDUAL : Nat) (sFOREIGN_INDIVIDUAL : Nat) (sGOVERNMENT : Nat) (cl : Cell) (h0 : Heap) (n0 : Nat) (Z0 : n0 ≤ h0.size) (O0 : Old Z n0 h0) (SsSECURITIES : Sta Z Z.heap "com/example/yusen_ledger/yusenledger/HolderCategory" "SECURITIES" "Lcom/example/yusen_ledger/yusenledger/HolderCategory;" (.ref sSECURITIES)) (EsSECURITIES : Exa Z Z.heap sSECURITIES "com/example/yusen_ledger/yusenledger/HolderCategory") (FsSECURITIES : Fld Z Z.heap sSECURITIES "java/lang/Enum" "ordinal" "I" (.int 2)) (SsCORPORATE : Sta Z Z.heap "com/example/yusen_ledger/yusenledger/HolderCategory" "CORPORATE" "Lcom/example/yusen_ledger/yusenledger/HolderCategory;" (.ref sCORPORATE)) (EsCORPORATE : Exa Z Z.heap sCORPORATE "com/example/yusen_ledger/yusenledger/HolderCategory") (FsCORPORATE : Fld Z Z.heap sCORPORATE "java/lang/Enum" "ordinal" "I" (.int 3)) (SsFINANCIAL : Sta Z Z.heap "com/example/yusen_ledger/yusenledger/HolderCategory" "FINANCIAL" "Lcom/example/yusen_ledger/yusenledger/HolderCategory;" (.ref sFINANCIAL)) (EsFINANCIAL : Exa Z Z.heap sFINANCIAL "com/example/yusen_ledger/yusenledger/HolderCategory") (FsFINANCIAL : Fld Z Z.heap sFINANCIAL "java/lang/Enum" "ordinal" "I" (.int 1)) (SsFOREIGN_CORPORATE : Sta Z Z.heap "com/example/yusen_ledger/yusenledger/HolderCategory" "FOREIGN_CORPORATE" "Lcom/example/yusen_ledger/yusenledger/HolderCategory;" (.ref sFOREIGN_CORPORATE)) (EsFOREIGN_CORPORATE : Exa Z Z.heap sFOREIGN_CORPORATE "com/example/yusen_ledger/yusenledger/HolderCategory") (FsFOREIGN_CORPORATE : Fld Z Z.heap sFOREIGN_CORPORATE "java/lang/Enum" "ordinal" "I" (.int 4)) (SsINDIVIDUAL : Sta Z Z.heap "com/example/yusen_ledger/yusenledger/HolderCategory" "INDIVIDUAL" "Lcom/example/yusen_ledger/yusenledger/HolderCategory;" (.ref sINDIVIDUAL)) (EsINDIVIDUAL : Exa Z Z.heap sINDIVIDUAL "com/example/yusen_ledger/yusenledger/HolderCategory") (FsINDIVIDUAL : Fld Z Z.heap sINDIVIDUAL "java/lang/Enum" "ordinal" "I" (.int 6)) (SsFOREIGN_INDIVIDUAL : Sta Z Z.heap "com/example/yusen_ledger/yusenledger/HolderCategory" "FOREIGN_INDIVIDUAL" "Lcom/example/yusen_ledger/yusenledger/HolderCategory;" (.ref sFOREIGN_INDIVIDUAL)) (EsFOREIGN_INDIVIDUAL : Exa Z Z.heap sFOREIGN_INDIVIDUAL "com/example/yusen_ledger/yusenledger/HolderCategory") (FsFOREIGN_INDIVIDUAL : Fld Z Z.heap sFOREIGN_INDIVIDUAL "java/lang/Enum" "ordinal" "I" (.int 5)) (SsGOVERNMENT : Sta Z Z.heap "com/example/yusen_ledger/yusenledger/HolderCategory" "GOVERNMENT" "Lcom/example/yusen_ledger/yusenledger/HolderCategory;" (.ref sGOVERNMENT)) (EsGOVERNMENT : Exa Z Z.heap sGOVERNMENT "com/example/yusen_ledger/yusenledger/HolderCategory") (FsGOVERNMENT : Fld Z Z.heap sGOVERNMENT "java/lang/Enum" "ordinal" "I" (.int 0)) (elSECURITIES : cl.slots[(2 : Int32).toNatClampNeg]? = some (.ref sSECURITIES)) (elCORPORATE : cl.slots[(3 : Int32).toNatClampNeg]? = some (.ref sCORPORATE)) (elFINANCIAL : cl.slots[(1 : Int32).toNatClampNeg]? = some (.ref sFINANCIAL)) (elFOREIGN_CORPORATE : cl.slots[(4 : Int32).toNatClampNeg]? = some (.ref sFOREIGN_CORPORATE)) (elINDIVIDUAL : cl.slots[(6 : Int32).toNatClampNeg]? = some (.ref sINDIVIDUAL)) (elFOREIGN_INDIVIDUAL : cl.slots[(5 : Int32).toNatClampNeg]? = some (.ref sFOREIGN_INDIVIDUAL)) (elGOVERNMENT : cl.slots[(0 : Int32).toNatClampNeg]? = some (.ref sGOVERNMENT)) :
    MetFree l (⟨"com/example/yusen_ledger/yusenledger/HolderTableCategoryPinLaw", "pick", "(I)Lcom/example/yusen_ledger/yusenledger/HolderCategory;"⟩ : MethodName) (head1 (Jvm.Cond.code (⟨"com/example/yusen_ledger/yusenledger/HolderTableCategoryPinLaw", "pick", "(I)Lcom/example/yusen_ledger/yusenledger/HolderCategory;"⟩ : MethodName) method_2_code 2 (some (.object "com/example/yusen_ledger/yusenledger/HolderCategory")) :: ws) ({ frames := 0, cells := 0, slots := 0, locals := 0 } : Room)) (fun aA uU => aA = #[(.int z)] ∧ Z.Warmed39 uU.vm ∧ uU.heap = h0) (fun _ _ _ _ _ => True) (fun _ uU oO uU' => ∃ vV lL, oO = .returned vV ∧ Q_rmPick Z z sSECURITIES sCORPORATE sFINANCIAL sFOREIGN_CORPORATE sINDIVIDUAL sFOREIGN_INDIVIDUAL sGOVERNMENT cl h0 n0 vV uU'.heap lL ∧ FrameEnd uU oO uU' lL ({ frames := 0, cells := 0, slots := 0, locals := 0 } : Room).cells ({ frames := 0, cells := 0, slots := 0, locals := 0 } : Room).slots) := by
  refine MetFree.of_bodySF (plainFor_of_name pn_HolderTableCategoryPinLaw) hisR ?_
  intro p e s m args below meth c s₁ Bd hml0 hP hK
  obtain ⟨rfl, hZ, hh⟩ := hP
  have hx := Bd.exec
  have hby := Bd.bytes
  have hml : c.maxLocals = 2 := hml0
  have hown : s.vm.findClass "com/example/yusen_ledger/yusenledger/HolderTableCategoryPinLaw" = some m.cls := findClass_of_methodNamed Bd.named
  have hnm := (name_of_methodNamed Bd.named Bd.method).1
  have X0 : Stand p l e ({ frames := 0, cells := 0, slots := 0, locals := 0 } : Room) s m #[(.int z)] below meth c s₁ [] 0 0 := Stand.of_body Bd
  have e0 : s₁.heap = h0 := by rw [← hh, Bd.state]; rfl
  have N0 := Fr.nil n0
  refine oEnter (oCast (ef_rmPick m z ) ?_)
  show oGl p e below (s₁.setTop (mkF m 0 #[.val (.int z), .unset] [])) _
  refine siloadN X0 hx (hb hby d1_0) rfl rfl (pc' := 1) ?_
  refine sbipush X0 hx (hb hby d1_1) rfl rfl (z := 7) (pc' := 3) ?_
  refine siand X0 hx (hb hby d1_3) rfl rfl (pc' := 4) ?_
  refine sistoreN X0 hx (hb hby d1_4) rfl rfl (l' := #[.val (.int z), .val (.int (z &&& (7 : Int32)))]) (pc' := 5) ?_
  refine siloadN X0 hx (hb hby d1_5) rfl rfl (pc' := 6) ?_
  refine siconst X0 hx (hb hby d1_6) rfl rfl (z := 1) (pc' := 7) ?_
  by_cases hc7 : (z &&& (7 : Int32)) = (1 : Int32)
  · skip
    refine sicN X0 hx (hb hby d1_7) rfl (teq hc7).2 (pc' := 10) ?_
    obtain ⟨T1, X1, e1, st1⟩ := getS2 X0 hx hZ hown (host := "") (Or.inl (hw _ (List.mem_of_getElem? (i := 202) rfl))) Via.refl e0 (SsGOVERNMENT.ext O0.2) (g := (mkF m 10 #[.val (.int z), .val (.int (z &&& (7 : Int32)))] [])) rfl (hb hby d1_10)
    refine oOn st1 ?_
    show oGl p e below (T1.setTop (mkF m 13 #[.val (.int z), .val (.int (z &&& (7 : Int32)))] [(.ref sGOVERNMENT)])) _
    refine oRetR X1 hx Bd.notSynchronized Bd.returns rfl rfl (hb hby d1_13) (by decide) (by decide) ?_
    show Q_rmPick Z z sSECURITIES sCORPORATE sFINANCIAL sFOREIGN_CORPORATE sINDIVIDUAL sFOREIGN_INDIVIDUAL sGOVERNMENT cl h0 n0 _ T1.heap _
    rw [e1]
    exact ⟨_, (1 : Int32), rfl, N0, rfl, Or.inr ⟨sGOVERNMENT, (0 : Int32), rfl, by decide, by decide, EsGOVERNMENT, FsGOVERNMENT, elGOVERNMENT⟩⟩
  · skip
    refine sicY X0 hx (hb hby d1_7) (by decide) (by decide) (feq hc7).2 (pc' := 14) ?_
    refine siloadN X0 hx (hb hby d1_14) rfl rfl (pc' := 15) ?_
    refine siconst X0 hx (hb hby d1_15) rfl rfl (z := 2) (pc' := 16) ?_
    by_cases hc16 : (z &&& (7 : Int32)) = (2 : Int32)
    · skip
      refine sicN X0 hx (hb hby d1_16) rfl (teq hc16).2 (pc' := 19) ?_
      obtain ⟨T2, X2, e2, st2⟩ := getS2 X0 hx hZ hown (host := "") (Or.inl (hw _ (List.mem_of_getElem? (i := 181) rfl))) Via.refl e0 (SsFINANCIAL.ext O0.2) (g := (mkF m 19 #[.val (.int z), .val (.int (z &&& (7 : Int32)))] [])) rfl (hb hby d1_19)
      refine oOn st2 ?_
      show oGl p e below (T2.setTop (mkF m 22 #[.val (.int z), .val (.int (z &&& (7 : Int32)))] [(.ref sFINANCIAL)])) _
      refine oRetR X2 hx Bd.notSynchronized Bd.returns rfl rfl (hb hby d1_22) (by decide) (by decide) ?_
      show Q_rmPick Z z sSECURITIES sCORPORATE sFINANCIAL sFOREIGN_CORPORATE sINDIVIDUAL sFOREIGN_INDIVIDUAL sGOVERNMENT cl h0 n0 _ T2.heap _
      rw [e2]
      exact ⟨_, (2 : Int32), rfl, N0, rfl, Or.inr ⟨sFINANCIAL, (1 : Int32), rfl, by decide, by decide, EsFINANCIAL, FsFINANCIAL, elFINANCIAL⟩⟩
    · skip
      refine sicY X0 hx (hb hby d1_16) (by decide) (by decide) (feq hc16).2 (pc' := 23) ?_
      refine siloadN X0 hx (hb hby d1_23) rfl rfl (pc' := 24) ?_
      refine siconst X0 hx (hb hby d1_24) rfl rfl (z := 3) (pc' := 25) ?_
      by_cases hc25 : (z &&& (7 : Int32)) = (3 : Int32)
      · skip
        refine sicN X0 hx (hb hby d1_25) rfl (teq hc25).2 (pc' := 28) ?_
        obtain ⟨T3, X3, e3, st3⟩ := getS2 X0 hx hZ hown (host := "") (Or.inl (hw _ (List.mem_of_getElem? (i := 4) rfl))) Via.refl e0 (SsSECURITIES.ext O0.2) (g := (mkF m 28 #[.val (.int z), .val (.int (z &&& (7 : Int32)))] [])) rfl (hb hby d1_28)
        refine oOn st3 ?_
        show oGl p e below (T3.setTop (mkF m 31 #[.val (.int z), .val (.int (z &&& (7 : Int32)))] [(.ref sSECURITIES)])) _
        refine oRetR X3 hx Bd.notSynchronized Bd.returns rfl rfl (hb hby d1_31) (by decide) (by decide) ?_
        show Q_rmPick Z z sSECURITIES sCORPORATE sFINANCIAL sFOREIGN_CORPORATE sINDIVIDUAL sFOREIGN_INDIVIDUAL sGOVERNMENT cl h0 n0 _ T3.heap _
        rw [e3]
        exact ⟨_, (3 : Int32), rfl, N0, rfl, Or.inr ⟨sSECURITIES, (2 : Int32), rfl, by decide, by decide, EsSECURITIES, FsSECURITIES, elSECURITIES⟩⟩
      · skip
        refine sicY X0 hx (hb hby d1_25) (by decide) (by decide) (feq hc25).2 (pc' := 32) ?_
        refine siloadN X0 hx (hb hby d1_32) rfl rfl (pc' := 33) ?_
        refine siconst X0 hx (hb hby d1_33) rfl rfl (z := 4) (pc' := 34) ?_
        by_cases hc34 : (z &&& (7 : Int32)) = (4 : Int32)
        · skip
          refine sicN X0 hx (hb hby d1_34) rfl (teq hc34).2 (pc' := 37) ?_
          obtain ⟨T4, X4, e4, st4⟩ := getS2 X0 hx hZ hown (host := "") (Or.inl (hw _ (List.mem_of_getElem? (i := 179) rfl))) Via.refl e0 (SsCORPORATE.ext O0.2) (g := (mkF m 37 #[.val (.int z), .val (.int (z &&& (7 : Int32)))] [])) rfl (hb hby d1_37)
          refine oOn st4 ?_
          show oGl p e below (T4.setTop (mkF m 40 #[.val (.int z), .val (.int (z &&& (7 : Int32)))] [(.ref sCORPORATE)])) _
          refine oRetR X4 hx Bd.notSynchronized Bd.returns rfl rfl (hb hby d1_40) (by decide) (by decide) ?_
          show Q_rmPick Z z sSECURITIES sCORPORATE sFINANCIAL sFOREIGN_CORPORATE sINDIVIDUAL sFOREIGN_INDIVIDUAL sGOVERNMENT cl h0 n0 _ T4.heap _
          rw [e4]
          exact ⟨_, (4 : Int32), rfl, N0, rfl, Or.inr ⟨sCORPORATE, (3 : Int32), rfl, by decide, by decide, EsCORPORATE, FsCORPORATE, elCORPORATE⟩⟩
        · skip
          refine sicY X0 hx (hb hby d1_34) (by decide) (by decide) (feq hc34).2 (pc' := 41) ?_
          refine siloadN X0 hx (hb hby d1_41) rfl rfl (pc' := 42) ?_
          refine siconst X0 hx (hb hby d1_42) rfl rfl (z := 5) (pc' := 43) ?_
          by_cases hc43 : (z &&& (7 : Int32)) = (5 : Int32)
          · skip
            refine sicN X0 hx (hb hby d1_43) rfl (teq hc43).2 (pc' := 46) ?_
            obtain ⟨T5, X5, e5, st5⟩ := getS2 X0 hx hZ hown (host := "") (Or.inl (hw _ (List.mem_of_getElem? (i := 183) rfl))) Via.refl e0 (SsFOREIGN_CORPORATE.ext O0.2) (g := (mkF m 46 #[.val (.int z), .val (.int (z &&& (7 : Int32)))] [])) rfl (hb hby d1_46)
            refine oOn st5 ?_
            show oGl p e below (T5.setTop (mkF m 49 #[.val (.int z), .val (.int (z &&& (7 : Int32)))] [(.ref sFOREIGN_CORPORATE)])) _
            refine oRetR X5 hx Bd.notSynchronized Bd.returns rfl rfl (hb hby d1_49) (by decide) (by decide) ?_
            show Q_rmPick Z z sSECURITIES sCORPORATE sFINANCIAL sFOREIGN_CORPORATE sINDIVIDUAL sFOREIGN_INDIVIDUAL sGOVERNMENT cl h0 n0 _ T5.heap _
            rw [e5]
            exact ⟨_, (5 : Int32), rfl, N0, rfl, Or.inr ⟨sFOREIGN_CORPORATE, (4 : Int32), rfl, by decide, by decide, EsFOREIGN_CORPORATE, FsFOREIGN_CORPORATE, elFOREIGN_CORPORATE⟩⟩
          · skip
            refine sicY X0 hx (hb hby d1_43) (by decide) (by decide) (feq hc43).2 (pc' := 50) ?_
            refine siloadN X0 hx (hb hby d1_50) rfl rfl (pc' := 51) ?_
            refine sbipush X0 hx (hb hby d1_51) rfl rfl (z := 6) (pc' := 53) ?_
            by_cases hc53 : (z &&& (7 : Int32)) = (6 : Int32)
            · skip
              refine sicN X0 hx (hb hby d1_53) rfl (teq hc53).2 (pc' := 56) ?_
              obtain ⟨T6, X6, e6, st6⟩ := getS2 X0 hx hZ hown (host := "") (Or.inl (hw _ (List.mem_of_getElem? (i := 200) rfl))) Via.refl e0 (SsFOREIGN_INDIVIDUAL.ext O0.2) (g := (mkF m 56 #[.val (.int z), .val (.int (z &&& (7 : Int32)))] [])) rfl (hb hby d1_56)
              refine oOn st6 ?_
              show oGl p e below (T6.setTop (mkF m 59 #[.val (.int z), .val (.int (z &&& (7 : Int32)))] [(.ref sFOREIGN_INDIVIDUAL)])) _
              refine oRetR X6 hx Bd.notSynchronized Bd.returns rfl rfl (hb hby d1_59) (by decide) (by decide) ?_
              show Q_rmPick Z z sSECURITIES sCORPORATE sFINANCIAL sFOREIGN_CORPORATE sINDIVIDUAL sFOREIGN_INDIVIDUAL sGOVERNMENT cl h0 n0 _ T6.heap _
              rw [e6]
              exact ⟨_, (6 : Int32), rfl, N0, rfl, Or.inr ⟨sFOREIGN_INDIVIDUAL, (5 : Int32), rfl, by decide, by decide, EsFOREIGN_INDIVIDUAL, FsFOREIGN_INDIVIDUAL, elFOREIGN_INDIVIDUAL⟩⟩
            · skip
              refine sicY X0 hx (hb hby d1_53) (by decide) (by decide) (feq hc53).2 (pc' := 60) ?_
              refine siloadN X0 hx (hb hby d1_60) rfl rfl (pc' := 61) ?_
              refine sbipush X0 hx (hb hby d1_61) rfl rfl (z := 7) (pc' := 63) ?_
              by_cases hc63 : (z &&& (7 : Int32)) = (7 : Int32)
              · skip
                refine sicN X0 hx (hb hby d1_63) rfl (teq hc63).2 (pc' := 66) ?_
                obtain ⟨T7, X7, e7, st7⟩ := getS2 X0 hx hZ hown (host := "") (Or.inl (hw _ (List.mem_of_getElem? (i := 198) rfl))) Via.refl e0 (SsINDIVIDUAL.ext O0.2) (g := (mkF m 66 #[.val (.int z), .val (.int (z &&& (7 : Int32)))] [])) rfl (hb hby d1_66)
                refine oOn st7 ?_
                show oGl p e below (T7.setTop (mkF m 69 #[.val (.int z), .val (.int (z &&& (7 : Int32)))] [(.ref sINDIVIDUAL)])) _
                refine oRetR X7 hx Bd.notSynchronized Bd.returns rfl rfl (hb hby d1_69) (by decide) (by decide) ?_
                show Q_rmPick Z z sSECURITIES sCORPORATE sFINANCIAL sFOREIGN_CORPORATE sINDIVIDUAL sFOREIGN_INDIVIDUAL sGOVERNMENT cl h0 n0 _ T7.heap _
                rw [e7]
                exact ⟨_, (7 : Int32), rfl, N0, rfl, Or.inr ⟨sINDIVIDUAL, (6 : Int32), rfl, by decide, by decide, EsINDIVIDUAL, FsINDIVIDUAL, elINDIVIDUAL⟩⟩
              · skip
                refine sicY X0 hx (hb hby d1_63) (by decide) (by decide) (feq hc63).2 (pc' := 70) ?_
                refine saconst_null X0 hx (hb hby d1_70) rfl  (pc' := 71) ?_
                refine oRetR X0 hx Bd.notSynchronized Bd.returns rfl rfl (hb hby d1_71) (by decide) (by decide) ?_
                show Q_rmPick Z z sSECURITIES sCORPORATE sFINANCIAL sFOREIGN_CORPORATE sINDIVIDUAL sFOREIGN_INDIVIDUAL sGOVERNMENT cl h0 n0 _ s₁.heap _
                rw [e0]
                exact ⟨.null, 0, rfl, N0, rfl, Or.inl ⟨rfl, rfl⟩⟩
def oLo (f : Nat → Int32) : Nat → Int32 := fun j => nar .byte ((f j).toInt8.toInt32)
theorem own_ofNat {n : Nat} (h : n < 2147483648) : (Int32.ofNat n).toInt = n := Int32.toInt_ofNat_of_lt (by omega)
theorem own_incS {x : Int32} (h : x.toInt < 2147483647) : (x + (1 : Int32)).toInt = x.toInt + 1 := by
  have h1 := c_iadd x 1; have h2 := rng32 (x + 1); have h3 := rng32 x; have e1 : (1 : Int32).toInt = 1 := rfl
  omega
theorem d10_0 : decode jdk_52_method_21_code 0 = .ok (.iconst 0, 1) := by decide +kernel
theorem d10_1 : decode jdk_52_method_21_code 1 = .ok (.istore 5, 2) := by decide +kernel
theorem d10_3 : decode jdk_52_method_21_code 3 = .ok (.iload 5, 2) := by decide +kernel
theorem d10_5 : decode jdk_52_method_21_code 5 = .ok (.iload 4, 2) := by decide +kernel
theorem d10_7 : decode jdk_52_method_21_code 7 = .ok (.if_icmp .ge 37, 3) := by decide +kernel
theorem d10_10 : decode jdk_52_method_21_code 10 = .ok (.aload_n 0, 1) := by decide +kernel
theorem d10_11 : decode jdk_52_method_21_code 11 = .ok (.iload_n 1, 1) := by decide +kernel
theorem d10_12 : decode jdk_52_method_21_code 12 = .ok (.caload, 1) := by decide +kernel
theorem d10_13 : decode jdk_52_method_21_code 13 = .ok (.istore 6, 2) := by decide +kernel
theorem d10_15 : decode jdk_52_method_21_code 15 = .ok (.iload 6, 2) := by decide +kernel
theorem d10_17 : decode jdk_52_method_21_code 17 = .ok (.sipush 255, 3) := by decide +kernel
theorem d10_20 : decode jdk_52_method_21_code 20 = .ok (.if_icmp .le 6, 3) := by decide +kernel
theorem d10_26 : decode jdk_52_method_21_code 26 = .ok (.aload_n 2, 1) := by decide +kernel
theorem d10_27 : decode jdk_52_method_21_code 27 = .ok (.iload_n 3, 1) := by decide +kernel
theorem d10_28 : decode jdk_52_method_21_code 28 = .ok (.iload 6, 2) := by decide +kernel
theorem d10_30 : decode jdk_52_method_21_code 30 = .ok (.i2b, 1) := by decide +kernel
theorem d10_31 : decode jdk_52_method_21_code 31 = .ok (.bastore, 1) := by decide +kernel
theorem d10_32 : decode jdk_52_method_21_code 32 = .ok (.iinc 1 1, 3) := by decide +kernel
theorem d10_35 : decode jdk_52_method_21_code 35 = .ok (.iinc 3 1, 3) := by decide +kernel
theorem d10_38 : decode jdk_52_method_21_code 38 = .ok (.iinc 5 1, 3) := by decide +kernel
theorem d10_41 : decode jdk_52_method_21_code 41 = .ok (.goto (-38), 3) := by decide +kernel
theorem d10_44 : decode jdk_52_method_21_code 44 = .ok (.iload 4, 2) := by decide +kernel
theorem d10_46 : decode jdk_52_method_21_code 46 = .ok (.ireturn, 1) := by decide +kernel
theorem pn_StringUTF16 : plainName "java/lang/StringUTF16" = true := by first | (simp [plainName, overriddenIn]; done) | decide +kernel
theorem ef_rmCmp5 (m : MethodId) (x0 : Nat) (x1 : Int32) (x2 : Nat) (x3 : Int32) (x4 : Int32)  : entryFrame m #[(.ref x0), (.int x1), (.ref x2), (.int x3), (.int x4)] 7 = mkF m 0 #[.val (.ref x0), .val (.int x1), .val (.ref x2), .val (.int x3), .val (.int x4), .unset, .unset] [] := by first | (simp [entryFrame, mkF, argsToLocals, Value.category, maxLocals]; done) | rfl
def Q_rmCmp5 (Z : State) (a d n : Nat) (f g0 : Nat → Int32) (h0 : Heap) (n0 : Nat) (vv : Option Value) (h : Heap) (L : List Loc) : Prop := vv = some (.int (Int32.ofNat n)) ∧ Fr n0 L ∧ Keep h0 h [d] ∧ oAI Z h d .byte n (oLo f)
set_option maxRecDepth 65536 in
set_option maxHeartbeats 40000000 in
theorem rmCmp5 (l : Launch) (Z : State) (a0 : Array Value) (hw : ∀ d ∈ tables_1, d.before a0 Z = true) (ws : List Jvm.Cond) (a d n : Nat) (f g0 : Nat → Int32) (h0 : Heap) (n0 : Nat) (Z0 : n0 ≤ h0.size) (PV : oAI Z h0 a .char n f) (PD : oAI Z h0 d .byte n g0) (hne : a ≠ d) (gd : n0 ≤ d) (hl : ∀ j : Nat, j < n → ¬ (255 : Int32) < f j) :
    MetFree l (⟨"java/lang/StringUTF16", "compress", "([CI[BII)I"⟩ : MethodName) (head1 (Jvm.Cond.code (⟨"java/lang/StringUTF16", "compress", "([CI[BII)I"⟩ : MethodName) jdk_52_method_21_code 7 (some .int) :: ws) ({ frames := 0, cells := 0, slots := 0, locals := 0 } : Room)) (fun aA uU => aA = #[(.ref a), (.int (0 : Int32)), (.ref d), (.int (0 : Int32)), (.int (Int32.ofNat n))] ∧ Z.Warmed39 uU.vm ∧ uU.heap = h0) (fun _ _ _ _ _ => True) (fun _ uU oO uU' => ∃ vV lL, oO = .returned vV ∧ Q_rmCmp5 Z a d n f g0 h0 n0 vV uU'.heap lL ∧ FrameEnd uU oO uU' lL ({ frames := 0, cells := 0, slots := 0, locals := 0 } : Room).cells ({ frames := 0, cells := 0, slots := 0, locals := 0 } : Room).slots) := by
  refine MetFree.of_bodySF (plainFor_of_name pn_StringUTF16) hisR ?_
  intro p e s m args below meth c s₁ Bd hml0 hP hK
  obtain ⟨rfl, hZ, hh⟩ := hP
  have hx := Bd.exec
  have hby := Bd.bytes
  have hml : c.maxLocals = 7 := hml0
  have hown : s.vm.findClass "java/lang/StringUTF16" = some m.cls := findClass_of_methodNamed Bd.named
  have hnm := (name_of_methodNamed Bd.named Bd.method).1
  have X0 : Stand p l e ({ frames := 0, cells := 0, slots := 0, locals := 0 } : Room) s m #[(.ref a), (.int (0 : Int32)), (.ref d), (.int (0 : Int32)), (.int (Int32.ofNat n))] below meth c s₁ [] 0 0 := Stand.of_body Bd
  have e0 : s₁.heap = h0 := by rw [← hh, Bd.state]; rfl
  have N0 := Fr.nil n0
  refine oEnter (oCast (ef_rmCmp5 m a (0 : Int32) d (0 : Int32) (Int32.ofNat n) ) ?_)
  show oGl p e below (s₁.setTop (mkF m 0 #[.val (.ref a), .val (.int (0 : Int32)), .val (.ref d), .val (.int (0 : Int32)), .val (.int (Int32.ofNat n)), .unset, .unset] [])) _
  refine siconst X0 hx (hb hby d10_0) rfl rfl (z := 0) (pc' := 1) ?_
  refine sistore X0 hx (hb hby d10_1) rfl rfl (l' := #[.val (.ref a), .val (.int (0 : Int32)), .val (.ref d), .val (.int (0 : Int32)), .val (.int (Int32.ofNat n)), .val (.int (0 : Int32)), .unset]) (pc' := 3) ?_
  have hn9 := PV.small
  have lA : @LT.lt Nat _ a h0.size := PV.lt
  have lD : @LT.lt Nat _ d h0.size := PD.lt
  have nad : @Ne Nat a d := hne
  have lp3 : ∀ (kF : Nat) (i : Int32) (o6 : Slot) (g : Nat → Int32) (T : State) (locs : List Loc) (X : Stand p l e ({ frames := 0, cells := 0, slots := 0, locals := 0 } : Room) s m #[(.ref a), (.int (0 : Int32)), (.ref d), (.int (0 : Int32)), (.int (Int32.ofNat n))] below meth c T locs 0 0) (hh : Heap) (eT : T.heap = hh) (N : Fr n0 locs) (hzh : n0 ≤ hh.size) (Kp : Keep h0 hh [d]) (fa0 : oAI Z hh a .char n f) (fa1 : oAI Z hh d .byte n g) (hm : (n - i.toInt.toNat) < kF) (hi : 0 ≤ i.toInt ∧ i.toInt ≤ n ∧ One o6 ∧ ∀ j : Nat, (j : Int) < i.toInt → g j = oLo f j), oGl p e below (T.setTop (mkF m 3 #[.val (.ref a), .val (.int i), .val (.ref d), .val (.int i), .val (.int (Int32.ofNat n)), .val (.int i), o6] [])) (oFin s below (Q_rmCmp5 Z a d n f g0 h0 n0) ({ frames := 0, cells := 0, slots := 0, locals := 0 } : Room).cells ({ frames := 0, cells := 0, slots := 0, locals := 0 } : Room).slots) := by
    intro kF
    induction kF with
    | zero => intro i o6 g T locs X hh eT N hzh Kp fa0 fa1 hm hi; exact absurd hm (Nat.not_lt_zero _)
    | succ kF ih =>
      intro i o6 g T locs X hh eT N hzh Kp fa0 fa1 hm hi
      have lfa0 : @LT.lt Nat _ a hh.size := fa0.lt
      have lfa1 : @LT.lt Nat _ d hh.size := fa1.lt
      refine siload X hx (hb hby d10_3) rfl rfl (pc' := 5) ?_
      refine siload X hx (hb hby d10_5) rfl rfl (pc' := 7) ?_
      by_cases hc7 : i < (Int32.ofNat n)
      · skip
        refine sicN X hx (hb hby d10_7) rfl (tlt hc7).2.1 (pc' := 10) ?_
        refine saloadN X hx (hb hby d10_10) rfl rfl rfl (pc' := 11) ?_
        refine siloadN X hx (hb hby d10_11) rfl rfl (pc' := 12) ?_
        refine oOn (fa0.ldC X hx hZ eT (j := i) (by have hlt := Int32.lt_iff_toInt_lt.mp hc7; rw [own_ofNat hn9] at hlt; omega) (g := (mkF m 12 #[.val (.ref a), .val (.int i), .val (.ref d), .val (.int i), .val (.int (Int32.ofNat n)), .val (.int i), o6] [(.int i), (.ref a)])) rfl rfl (hb hby d10_12)) ?_
        show oGl p e below (T.setTop (mkF m 13 #[.val (.ref a), .val (.int i), .val (.ref d), .val (.int i), .val (.int (Int32.ofNat n)), .val (.int i), o6] [(.int (f i.toInt.toNat))])) _
        refine sistore X hx (hb hby d10_13) rfl (oSto rfl hi.2.2.1 rfl) (l' := #[.val (.ref a), .val (.int i), .val (.ref d), .val (.int i), .val (.int (Int32.ofNat n)), .val (.int i), .val (.int (f i.toInt.toNat))]) (pc' := 15) ?_
        refine siload X hx (hb hby d10_15) rfl rfl (pc' := 17) ?_
        refine ssipush X hx (hb hby d10_17) rfl rfl (z := 255) (pc' := 20) ?_
        refine sicY X hx (hb hby d10_20) (by decide) (by decide) (flt (hl _ (by have hlt := Int32.lt_iff_toInt_lt.mp hc7; rw [own_ofNat hn9] at hlt; omega) : ¬ ((255 : Int32) < (f i.toInt.toNat)))).2.2.2 (pc' := 26) ?_
        refine saloadN X hx (hb hby d10_26) rfl rfl rfl (pc' := 27) ?_
        refine siloadN X hx (hb hby d10_27) rfl rfl (pc' := 28) ?_
        refine siload X hx (hb hby d10_28) rfl rfl (pc' := 30) ?_
        refine si2b X hx (hb hby d10_30) rfl rfl (pc' := 31) ?_
        obtain ⟨T1, h1, X1, e1, W1, V1, st1⟩ := fa1.stB X hx hZ eT (j := i) (by have hlt := Int32.lt_iff_toInt_lt.mp hc7; rw [own_ofNat hn9] at hlt; omega) (g := (mkF m 31 #[.val (.ref a), .val (.int i), .val (.ref d), .val (.int i), .val (.int (Int32.ofNat n)), .val (.int i), .val (.int (f i.toInt.toNat))] [(.int (((f i.toInt.toNat)).toInt8.toInt32)), (.int i), (.ref d)])) rfl rfl (hb hby d10_31)
        refine oOn st1 ?_
        have z2 : hh.size ≤ h1.size := Nat.le_of_eq W1.size.symm
        have N1 := Fr.snoc X1 N (by omega)
        show oGl p e below (T1.setTop (mkF m 32 #[.val (.ref a), .val (.int i), .val (.ref d), .val (.int i), .val (.int (Int32.ofNat n)), .val (.int i), .val (.int (f i.toInt.toNat))] [])) _
        refine siinc X1 hx (hb hby d10_32) rfl rfl rfl (l' := #[.val (.ref a), .val (.int (i + (1 : Int32))), .val (.ref d), .val (.int i), .val (.int (Int32.ofNat n)), .val (.int i), .val (.int (f i.toInt.toNat))]) (pc' := 35) ?_
        refine siinc X1 hx (hb hby d10_35) rfl rfl rfl (l' := #[.val (.ref a), .val (.int (i + (1 : Int32))), .val (.ref d), .val (.int (i + (1 : Int32))), .val (.int (Int32.ofNat n)), .val (.int i), .val (.int (f i.toInt.toNat))]) (pc' := 38) ?_
        refine siinc X1 hx (hb hby d10_38) rfl rfl rfl (l' := #[.val (.ref a), .val (.int (i + (1 : Int32))), .val (.ref d), .val (.int (i + (1 : Int32))), .val (.int (Int32.ofNat n)), .val (.int (i + (1 : Int32))), .val (.int (f i.toInt.toNat))]) (pc' := 41) ?_
        refine sgoto X1 hx (hb hby d10_41) (by decide) (by decide)  (pc' := 3) ?_
        have hlt := Int32.lt_iff_toInt_lt.mp hc7
        rw [own_ofNat hn9] at hlt
        have hi1 := own_incS (x := i) (by omega)
        have hzb : n0 ≤ h1.size := by omega
        have kp3 : Keep h0 h1 [d] := (Kp.wr W1 (Or.inl (List.mem_of_getElem? (i := 0) rfl)))
        have f4 := (fa0.other W1 (oNe (by omega)))
        exact ih (i + (1 : Int32)) (.val (.int (f i.toInt.toNat))) (oUp g i.toInt.toNat (nar .byte (((f i.toInt.toNat)).toInt8.toInt32))) _ _ X1 _ e1 N1 hzb kp3 f4 V1 (by omega) ⟨by omega, by omega, One.val rfl, fun j hj => by
          by_cases q : j = i.toInt.toNat
          · subst q; exact oUp_hit
          · rw [oUp_miss q]; exact hi.2.2.2 j (by omega)⟩
      · skip
        refine sicY X hx (hb hby d10_7) (by decide) (by decide) (flt hc7).2.1 (pc' := 44) ?_
        refine siload X hx (hb hby d10_44) rfl rfl (pc' := 46) ?_
        have hge : ¬ i.toInt < (Int32.ofNat n).toInt := fun q => hc7 (Int32.lt_iff_toInt_lt.mpr q)
        rw [own_ofNat hn9] at hge
        have kp5 : Keep h0 hh [d] := Kp
        refine oRetI X hx Bd.notSynchronized Bd.returns (hb hby d10_46) (by decide) (by decide) ?_
        show Q_rmCmp5 Z a d n f g0 h0 n0 _ T.heap _
        rw [eT]
        exact ⟨rfl, N, kp5, fa1.congr (fun j hj => hi.2.2.2 j (by omega))⟩
  have hzb : n0 ≤ h0.size := by omega
  have kp6 : Keep h0 h0 [d] := (Keep.refl h0 [d])
  exact lp3 _ 0 .unset g0 _ _ X0 _ e0 N0 hzb kp6 PV PD (Nat.lt_succ_self _) ⟨by decide, by have e0 : (0 : Int32).toInt = 0 := rfl; omega, One.u, fun j hj => by have e0 : (0 : Int32).toInt = 0 := rfl; omega⟩
theorem own_nn {n : Nat} (h : n < 2147483648) : ¬ Int32.ofNat n < 0 := by
  rw [Int32.lt_iff_toInt_lt, own_ofNat h]; have e0 : (0 : Int32).toInt = 0 := rfl; omega
theorem own_cod (x : Int32) : nar .byte ((((x - x).toUInt32 >>> ((31 : Int32) &&& 31).toUInt32).toInt32).toInt8.toInt32) = 0 := by
  rw [Int32.sub_self]; decide
theorem d11_0 : decode jdk_52_method_15_code 0 = .ok (.iload_n 1, 1) := by decide +kernel
theorem d11_1 : decode jdk_52_method_15_code 1 = .ok (.aload_n 0, 1) := by decide +kernel
theorem d11_2 : decode jdk_52_method_15_code 2 = .ok (.arraylength, 1) := by decide +kernel
theorem d11_3 : decode jdk_52_method_15_code 3 = .ok (.isub, 1) := by decide +kernel
theorem d11_4 : decode jdk_52_method_15_code 4 = .ok (.bipush 31, 2) := by decide +kernel
theorem d11_6 : decode jdk_52_method_15_code 6 = .ok (.iushr, 1) := by decide +kernel
theorem d11_7 : decode jdk_52_method_15_code 7 = .ok (.i2b, 1) := by decide +kernel
theorem d11_8 : decode jdk_52_method_15_code 8 = .ok (.ireturn, 1) := by decide +kernel
theorem ef_rmCod (m : MethodId) (x0 : Nat) (x1 : Int32)  : entryFrame m #[(.ref x0), (.int x1)] 2 = mkF m 0 #[.val (.ref x0), .val (.int x1)] [] := by first | (simp [entryFrame, mkF, argsToLocals, Value.category, maxLocals]; done) | rfl
def Q_rmCod (Z : State) (d n : Nat) (g : Nat → Int32) (h0 : Heap) (n0 : Nat) (vv : Option Value) (h : Heap) (L : List Loc) : Prop := vv = some (.int 0) ∧ Fr n0 L ∧ h = h0
set_option maxRecDepth 65536 in
set_option maxHeartbeats 40000000 in
theorem rmCod (l : Launch) (Z : State) (a0 : Array Value) (hw : ∀ d ∈ tables_1, d.before a0 Z = true) (ws : List Jvm.Cond) (d n : Nat) (g : Nat → Int32) (h0 : Heap) (n0 : Nat) (Z0 : n0 ≤ h0.size) (PD : oAI Z h0 d .byte n g) :
    MetFree l (⟨"java/lang/StringUTF16", "coderFromArrayLen", "([BI)B"⟩ : MethodName) (head1 (Jvm.Cond.code (⟨"java/lang/StringUTF16", "coderFromArrayLen", "([BI)B"⟩ : MethodName) jdk_52_method_15_code 2 (some .byte) :: ws) ({ frames := 0, cells := 0, slots := 0, locals := 0 } : Room)) (fun aA uU => aA = #[(.ref d), (.int (Int32.ofNat n))] ∧ Z.Warmed39 uU.vm ∧ uU.heap = h0) (fun _ _ _ _ _ => True) (fun _ uU oO uU' => ∃ vV lL, oO = .returned vV ∧ Q_rmCod Z d n g h0 n0 vV uU'.heap lL ∧ FrameEnd uU oO uU' lL ({ frames := 0, cells := 0, slots := 0, locals := 0 } : Room).cells ({ frames := 0, cells := 0, slots := 0, locals := 0 } : Room).slots) := by
  refine MetFree.of_bodySF (plainFor_of_name pn_StringUTF16) hisR ?_
  intro p e s m args below meth c s₁ Bd hml0 hP hK
  obtain ⟨rfl, hZ, hh⟩ := hP
  have hx := Bd.exec
  have hby := Bd.bytes
  have hml : c.maxLocals = 2 := hml0
  have hown : s.vm.findClass "java/lang/StringUTF16" = some m.cls := findClass_of_methodNamed Bd.named
  have hnm := (name_of_methodNamed Bd.named Bd.method).1
  have X0 : Stand p l e ({ frames := 0, cells := 0, slots := 0, locals := 0 } : Room) s m #[(.ref d), (.int (Int32.ofNat n))] below meth c s₁ [] 0 0 := Stand.of_body Bd
  have e0 : s₁.heap = h0 := by rw [← hh, Bd.state]; rfl
  have N0 := Fr.nil n0
  refine oEnter (oCast (ef_rmCod m d (Int32.ofNat n) ) ?_)
  show oGl p e below (s₁.setTop (mkF m 0 #[.val (.ref d), .val (.int (Int32.ofNat n))] [])) _
  refine siloadN X0 hx (hb hby d11_0) rfl rfl (pc' := 1) ?_
  refine saloadN X0 hx (hb hby d11_1) rfl rfl rfl (pc' := 2) ?_
  refine oOn (PD.len X0 hx hZ e0 (g := (mkF m 2 #[.val (.ref d), .val (.int (Int32.ofNat n))] [(.ref d), (.int (Int32.ofNat n))])) rfl rfl (hb hby d11_2)) ?_
  show oGl p e below (s₁.setTop (mkF m 3 #[.val (.ref d), .val (.int (Int32.ofNat n))] [(.int (Int32.ofNat n)), (.int (Int32.ofNat n))])) _
  refine sisub X0 hx (hb hby d11_3) rfl rfl (pc' := 4) ?_
  refine sbipush X0 hx (hb hby d11_4) rfl rfl (z := 31) (pc' := 6) ?_
  refine siushr X0 hx (hb hby d11_6) rfl rfl (pc' := 7) ?_
  refine si2b X0 hx (hb hby d11_7) rfl rfl (pc' := 8) ?_
  refine oRetN (t := .byte) X0 hx Bd.notSynchronized Bd.returns (by simp) (hb hby d11_8) (by decide) (by decide) ?_
  show Q_rmCod Z d n g h0 n0 _ s₁.heap _
  rw [e0]
  exact ⟨congrArg (fun z => some (Value.int z)) (own_cod (Int32.ofNat n)), N0, rfl⟩
theorem d9_0 : decode jdk_52_method_16_code 0 = .ok (.iload_n 2, 1) := by decide +kernel
theorem d9_1 : decode jdk_52_method_16_code 1 = .ok (.newarray .byte, 2) := by decide +kernel
theorem d9_3 : decode jdk_52_method_16_code 3 = .ok (.astore_n 3, 1) := by decide +kernel
theorem d9_4 : decode jdk_52_method_16_code 4 = .ok (.aload_n 0, 1) := by decide +kernel
theorem d9_5 : decode jdk_52_method_16_code 5 = .ok (.iload_n 1, 1) := by decide +kernel
theorem d9_6 : decode jdk_52_method_16_code 6 = .ok (.aload_n 3, 1) := by decide +kernel
theorem d9_7 : decode jdk_52_method_16_code 7 = .ok (.iconst 0, 1) := by decide +kernel
theorem d9_8 : decode jdk_52_method_16_code 8 = .ok (.iload_n 2, 1) := by decide +kernel
theorem d9_9 : decode jdk_52_method_16_code 9 = .ok (.invokestatic 115, 3) := by decide +kernel
theorem pd_0 : parseMethodDescriptor "([CI[BII)I" = some ⟨[(.array .char), .int, (.array .byte), .int, .int], some .int⟩ := by decide +kernel
theorem d9_12 : decode jdk_52_method_16_code 12 = .ok (.istore 4, 2) := by decide +kernel
theorem d9_14 : decode jdk_52_method_16_code 14 = .ok (.iload 4, 2) := by decide +kernel
theorem d9_16 : decode jdk_52_method_16_code 16 = .ok (.iload_n 2, 1) := by decide +kernel
theorem d9_17 : decode jdk_52_method_16_code 17 = .ok (.if_icmp .eq 40, 3) := by decide +kernel
theorem d9_57 : decode jdk_52_method_16_code 57 = .ok (.aload_n 3, 1) := by decide +kernel
theorem d9_58 : decode jdk_52_method_16_code 58 = .ok (.areturn, 1) := by decide +kernel
theorem ef_rmCmp3 (m : MethodId) (x0 : Nat) (x1 : Int32) (x2 : Int32)  : entryFrame m #[(.ref x0), (.int x1), (.int x2)] 6 = mkF m 0 #[.val (.ref x0), .val (.int x1), .val (.int x2), .unset, .unset, .unset] [] := by first | (simp [entryFrame, mkF, argsToLocals, Value.category, maxLocals]; done) | rfl
def Q_rmCmp3 (Z : State) (a n : Nat) (f : Nat → Int32) (h0 : Heap) (n0 : Nat) (vv : Option Value) (h : Heap) (L : List Loc) : Prop := ∃ d : Nat, vv = some (.ref d) ∧ Fr n0 L ∧ Keep h0 h [] ∧ h0.size ≤ d ∧ oAI Z h d .byte n (oLo f) ∧ Exa Z h d "[B"
set_option maxRecDepth 65536 in
set_option maxHeartbeats 40000000 in
theorem rmCmp3 (l : Launch) (Z : State) (a0 : Array Value) (hw : ∀ d ∈ tables_1, d.before a0 Z = true) (ws : List Jvm.Cond) (a n : Nat) (f : Nat → Int32) (h0 : Heap) (n0 : Nat) (Z0 : n0 ≤ h0.size) (PV : oAI Z h0 a .char n f) (hcap : n ≤ 2) (hl : ∀ j : Nat, j < n → ¬ (255 : Int32) < f j) :
    MetFree l (⟨"java/lang/StringUTF16", "compress", "([CII)[B"⟩ : MethodName) (head1 (Jvm.Cond.code (⟨"java/lang/StringUTF16", "compress", "([CII)[B"⟩ : MethodName) jdk_52_method_16_code 6 (some (.array .byte)) :: ws) ({ frames := 1, cells := 1, slots := 2, locals := 18 } : Room)) (fun aA uU => aA = #[(.ref a), (.int (0 : Int32)), (.int (Int32.ofNat n))] ∧ Z.Warmed39 uU.vm ∧ uU.heap = h0) (fun _ _ _ _ _ => True) (fun _ uU oO uU' => ∃ vV lL, oO = .returned vV ∧ Q_rmCmp3 Z a n f h0 n0 vV uU'.heap lL ∧ FrameEnd uU oO uU' lL ({ frames := 1, cells := 1, slots := 2, locals := 18 } : Room).cells ({ frames := 1, cells := 1, slots := 2, locals := 18 } : Room).slots) := by
  refine MetFree.of_bodySF (plainFor_of_name pn_StringUTF16) hisR ?_
  intro p e s m args below meth c s₁ Bd hml0 hP hK
  obtain ⟨rfl, hZ, hh⟩ := hP
  have hx := Bd.exec
  have hby := Bd.bytes
  have hml : c.maxLocals = 6 := hml0
  have hown : s.vm.findClass "java/lang/StringUTF16" = some m.cls := findClass_of_methodNamed Bd.named
  have hnm := (name_of_methodNamed Bd.named Bd.method).1
  have X0 : Stand p l e ({ frames := 1, cells := 1, slots := 2, locals := 18 } : Room) s m #[(.ref a), (.int (0 : Int32)), (.int (Int32.ofNat n))] below meth c s₁ [] 0 0 := Stand.of_body Bd
  have e0 : s₁.heap = h0 := by rw [← hh, Bd.state]; rfl
  have N0 := Fr.nil n0
  have lA : @LT.lt Nat _ a h0.size := PV.lt
  have hn9 := PV.small
  have hn8 := own_ofNat hn9
  refine oEnter (oCast (ef_rmCmp3 m a (0 : Int32) (Int32.ofNat n) ) ?_)
  show oGl p e below (s₁.setTop (mkF m 0 #[.val (.ref a), .val (.int (0 : Int32)), .val (.int (Int32.ofNat n)), .unset, .unset, .unset] [])) _
  refine siloadN X0 hx (hb hby d9_0) rfl rfl (pc' := 1) ?_
  obtain ⟨T1, h1, k1, X1, e1, E1, A1, EA1, st1⟩ := newPE X0 hx hZ (hw _ (List.mem_of_getElem? (i := 22) rfl)) e0 (g := (mkF m 1 #[.val (.ref a), .val (.int (0 : Int32)), .val (.int (Int32.ofNat n)), .unset, .unset, .unset] [(.int (Int32.ofNat n))])) rfl (hb hby d9_1) rfl (own_nn hn9) (cap := 2) (by show (Int32.ofNat n).toInt.toNat ≤ _; omega) (by decide) (by decide) (by decide) (ad := "[B") rfl
  obtain ⟨a1, g1⟩ : ∃ z, z = h0.size := ⟨_, rfl⟩
  rw [← g1] at A1 EA1 st1
  refine oOn st1 ?_
  have z2 : h0.size ≤ h1.size := E1.1
  have lt1 : a1 < h1.size := A1.lt
  have V1 : oAI Z h1 a1 .byte n (fun _ => 0) := oAI.new A1 (by omega)
  show oGl p e below (T1.setTop (mkF m 3 #[.val (.ref a), .val (.int (0 : Int32)), .val (.int (Int32.ofNat n)), .unset, .unset, .unset] [(.ref a1)])) _
  refine sastoreN X1 hx (hb hby d9_3) rfl rfl rfl (l' := #[.val (.ref a), .val (.int (0 : Int32)), .val (.int (Int32.ofNat n)), .val (.ref a1), .unset, .unset]) (pc' := 4) ?_
  refine saloadN X1 hx (hb hby d9_4) rfl rfl rfl (pc' := 5) ?_
  refine siloadN X1 hx (hb hby d9_5) rfl rfl (pc' := 6) ?_
  refine saloadN X1 hx (hb hby d9_6) rfl rfl rfl (pc' := 7) ?_
  refine siconst X1 hx (hb hby d9_7) rfl rfl (z := 0) (pc' := 8) ?_
  refine siloadN X1 hx (hb hby d9_8) rfl rfl (pc' := 9) ?_
  have f3 := (PV.ext E1)
  have hz4 : n0 ≤ h1.size := by omega
  obtain ⟨_, _, ⟨T4, L4, k4, n4⟩, -, X4, ⟨Lc4, hQ4, l4, y4, z4⟩, st4⟩ := Jvm.LawKit.callS X1 hx (y := (⟨"java/lang/StringUTF16", "compress", "([CI[BII)I"⟩ : MethodName)) hown (mvT hZ (hw _ (List.mem_of_getElem? (i := 45) rfl))) (mvT hZ (hw _ (List.mem_of_getElem? (i := 46) rfl))) (mvT hZ (hw _ (List.mem_of_getElem? (i := 43) rfl))) (mvT hZ (hw _ (List.mem_of_getElem? (i := 47) rfl))) (by decide) (backOf (W := 0) (rmCmp5 l Z a0 hw [] a a1 n f (fun _ => 0) h1 n0 hz4 f3 V1 (oNe (by omega)) (by omega) hl) hZ (hw _ (List.mem_of_getElem? (i := 47) rfl)) (hw _ (List.mem_of_getElem? (i := 43) rfl)) (by decide) (by decide)) (g := (mkF m 9 #[.val (.ref a), .val (.int (0 : Int32)), .val (.int (Int32.ofNat n)), .val (.ref a1), .unset, .unset] [(.int (Int32.ofNat n)), (.int (0 : Int32)), (.ref a1), (.int (0 : Int32)), (.ref a)])) rfl (by rw [hml]; rfl) (argsL := [(.ref a), (.int (0 : Int32)), (.ref a1), (.int (0 : Int32)), (.int (Int32.ofNat n))]) (rest := []) (lenOf pd_0 rfl) rfl (by show 2 * 0 + _ ≤ _; exact Nat.le_of_eq rfl) (hb hby d9_9) (fun _ _ => ⟨rfl, e1, (by decide : 1 + 0 ≤ _), (by decide : 2 + 0 ≤ _)⟩)
  dsimp only [Pt.U, Pt.locs, Pt.cells, Pt.slots] at X4 l4 y4 z4 st4 hQ4
  subst l4 y4 z4
  obtain ⟨rfl, N4q, K4, Vd4⟩ := hQ4
  have N4 := Fr.app N0 N4q
  have z5 : h1.size ≤ T4.heap.size := K4.1
  refine oOn st4 ?_
  show oGl p e below (T4.setTop (mkF m 12 #[.val (.ref a), .val (.int (0 : Int32)), .val (.int (Int32.ofNat n)), .val (.ref a1), .unset, .unset] [(.int (Int32.ofNat n))])) _
  refine sistore X4 hx (hb hby d9_12) rfl rfl (l' := #[.val (.ref a), .val (.int (0 : Int32)), .val (.int (Int32.ofNat n)), .val (.ref a1), .val (.int (Int32.ofNat n)), .unset]) (pc' := 14) ?_
  refine siload X4 hx (hb hby d9_14) rfl rfl (pc' := 16) ?_
  refine siloadN X4 hx (hb hby d9_16) rfl rfl (pc' := 17) ?_
  refine sicY X4 hx (hb hby d9_17) (by decide) (by decide) (teq (rfl : (Int32.ofNat n) = (Int32.ofNat n))).1 (pc' := 57) ?_
  refine saloadN X4 hx (hb hby d9_57) rfl rfl rfl (pc' := 58) ?_
  have kp6 : Keep h0 T4.heap [] := (((Keep.refl h0 []).ext E1).trans K4 (allS (Or.inr (by omega)) all0))
  have f7 := (EA1.keep K4)
  refine oRetR X4 hx Bd.notSynchronized Bd.returns rfl rfl (hb hby d9_58) (by decide) (by decide) ?_
  show Q_rmCmp3 Z a n f h0 n0 _ T4.heap _
  exact ⟨a1, rfl, N4, kp6, by omega, Vd4, f7⟩
theorem own_n0 {n : Nat} (h : n < 2147483648) (q : 0 < n) : ¬ Int32.ofNat n = (0 : Int32) := fun e => by
  have e1 : (Int32.ofNat n).toInt = (0 : Int32).toInt := by rw [e]
  rw [own_ofNat h] at e1; have e0 : (0 : Int32).toInt = 0 := rfl; omega
theorem d8_0 : decode jdk_42_method_149_code 0 = .ok (.aload_n 0, 1) := by decide +kernel
theorem d8_1 : decode jdk_42_method_149_code 1 = .ok (.invokespecial 1, 3) := by decide +kernel
theorem d8_4 : decode jdk_42_method_149_code 4 = .ok (.iload_n 3, 1) := by decide +kernel
theorem d8_5 : decode jdk_42_method_149_code 5 = .ok (.ifCond .ne 22, 3) := by decide +kernel
theorem d8_27 : decode jdk_42_method_149_code 27 = .ok (.getstatic 38, 3) := by decide +kernel
theorem d8_30 : decode jdk_42_method_149_code 30 = .ok (.ifCond .eq 28, 3) := by decide +kernel
theorem d8_33 : decode jdk_42_method_149_code 33 = .ok (.aload_n 1, 1) := by decide +kernel
theorem d8_34 : decode jdk_42_method_149_code 34 = .ok (.iload_n 2, 1) := by decide +kernel
theorem d8_35 : decode jdk_42_method_149_code 35 = .ok (.iload_n 3, 1) := by decide +kernel
theorem d8_36 : decode jdk_42_method_149_code 36 = .ok (.invokestatic 177, 3) := by decide +kernel
theorem pd_1 : parseMethodDescriptor "([CII)[B" = some ⟨[(.array .char), .int, .int], some (.array .byte)⟩ := by decide +kernel
theorem d8_39 : decode jdk_42_method_149_code 39 = .ok (.astore 5, 2) := by decide +kernel
theorem d8_41 : decode jdk_42_method_149_code 41 = .ok (.aload_n 0, 1) := by decide +kernel
theorem d8_42 : decode jdk_42_method_149_code 42 = .ok (.aload 5, 2) := by decide +kernel
theorem d8_44 : decode jdk_42_method_149_code 44 = .ok (.iload_n 3, 1) := by decide +kernel
theorem d8_45 : decode jdk_42_method_149_code 45 = .ok (.invokestatic 47, 3) := by decide +kernel
theorem pd_2 : parseMethodDescriptor "([BI)B" = some ⟨[(.array .byte), .int], some .byte⟩ := by decide +kernel
theorem d8_48 : decode jdk_42_method_149_code 48 = .ok (.putfield 15, 3) := by decide +kernel
theorem d8_51 : decode jdk_42_method_149_code 51 = .ok (.aload_n 0, 1) := by decide +kernel
theorem d8_52 : decode jdk_42_method_149_code 52 = .ok (.aload 5, 2) := by decide +kernel
theorem d8_54 : decode jdk_42_method_149_code 54 = .ok (.putfield 9, 3) := by decide +kernel
theorem d8_57 : decode jdk_42_method_149_code 57 = .ok (.return_, 1) := by decide +kernel
theorem pn_String : plainName "java/lang/String" = true := by first | (simp [plainName, overriddenIn]; done) | decide +kernel
theorem ef_rmStr4 (m : MethodId) (x0 : Nat) (x1 : Nat) (x2 : Int32) (x3 : Int32)  : entryFrame m #[(.ref x0), (.ref x1), (.int x2), (.int x3), .null] 6 = mkF m 0 #[.val (.ref x0), .val (.ref x1), .val (.int x2), .val (.int x3), .val .null, .unset] [] := by first | (simp [entryFrame, mkF, argsToLocals, Value.category, maxLocals]; done) | rfl
def Q_rmStr4 (Z : State) (x a n : Nat) (f : Nat → Int32) (cz : Int32) (h0 : Heap) (n0 : Nat) (vv : Option Value) (h : Heap) (L : List Loc) : Prop := ∃ b : Nat, vv = none ∧ Fr n0 L ∧ Keep h0 h [x] ∧ h0.size ≤ b ∧ Exa Z h x "java/lang/String" ∧ Fld Z h x "java/lang/String" "value" "[B" (.ref b) ∧ Fld Z h x "java/lang/String" "coder" "B" (.int 0) ∧ oAI Z h b .byte n (oLo f) ∧ Exa Z h b "[B"
set_option maxRecDepth 65536 in
set_option maxHeartbeats 40000000 in
theorem rmStr4 (l : Launch) (Z : State) (a0 : Array Value) (hw : ∀ d ∈ tables_1, d.before a0 Z = true) (ws : List Jvm.Cond) (x a n : Nat) (f : Nat → Int32) (cz : Int32) (h0 : Heap) (n0 : Nat) (Z0 : n0 ≤ h0.size) (PV : oAI Z h0 a .char n f) (hcap : n ≤ 2) (hpos : 0 < n) (hl : ∀ j : Nat, j < n → ¬ (255 : Int32) < f j) (hxa : x ≠ a) (E0 : Exa Z h0 x "java/lang/String") (F0 : Fld Z h0 x "java/lang/String" "value" "[B" .null) (F1 : Fld Z h0 x "java/lang/String" "coder" "B" (.int 0)) (gx : n0 ≤ x) (O0 : Old Z n0 h0) (SCS : Sta Z Z.heap "java/lang/String" "COMPACT_STRINGS" "Z" (.int cz)) (hcz : ¬ cz = (0 : Int32)) :
    MetFree l (⟨"java/lang/String", "<init>", "([CIILjava/lang/Void;)V"⟩ : MethodName) (head1 (Jvm.Cond.code (⟨"java/lang/String", "<init>", "([CIILjava/lang/Void;)V"⟩ : MethodName) jdk_42_method_149_code 6 (none : Option FieldType) :: ws) ({ frames := 2, cells := 1, slots := 2, locals := 35 } : Room)) (fun aA uU => aA = #[(.ref x), (.ref a), (.int (0 : Int32)), (.int (Int32.ofNat n)), .null] ∧ Z.Warmed39 uU.vm ∧ uU.heap = h0) (fun _ _ _ _ _ => True) (fun _ uU oO uU' => ∃ vV lL, oO = .returned vV ∧ Q_rmStr4 Z x a n f cz h0 n0 vV uU'.heap lL ∧ FrameEnd uU oO uU' lL ({ frames := 2, cells := 1, slots := 2, locals := 35 } : Room).cells ({ frames := 2, cells := 1, slots := 2, locals := 35 } : Room).slots) := by
  refine MetFree.of_bodySF (plainFor_of_name pn_String) hisR ?_
  intro p e s m args below meth c s₁ Bd hml0 hP hK
  obtain ⟨rfl, hZ, hh⟩ := hP
  have hx := Bd.exec
  have hby := Bd.bytes
  have hml : c.maxLocals = 6 := hml0
  have hown : s.vm.findClass "java/lang/String" = some m.cls := findClass_of_methodNamed Bd.named
  have hnm := (name_of_methodNamed Bd.named Bd.method).1
  have X0 : Stand p l e ({ frames := 2, cells := 1, slots := 2, locals := 35 } : Room) s m #[(.ref x), (.ref a), (.int (0 : Int32)), (.int (Int32.ofNat n)), .null] below meth c s₁ [] 0 0 := Stand.of_body Bd
  have e0 : s₁.heap = h0 := by rw [← hh, Bd.state]; rfl
  have N0 := Fr.nil n0
  have lX : @LT.lt Nat _ x h0.size := E0.lt
  have lA : @LT.lt Nat _ a h0.size := PV.lt
  have hn9 := PV.small
  refine oEnter (oCast (ef_rmStr4 m x a (0 : Int32) (Int32.ofNat n) ) ?_)
  show oGl p e below (s₁.setTop (mkF m 0 #[.val (.ref x), .val (.ref a), .val (.int (0 : Int32)), .val (.int (Int32.ofNat n)), .val .null, .unset] [])) _
  refine saloadN X0 hx (hb hby d8_0) rfl rfl rfl (pc' := 1) ?_
  obtain ⟨T1, X1, e1, st1⟩ := initO X0 hx hZ hown (hw _ (List.mem_of_getElem? (i := 27) rfl)) (hw _ (List.mem_of_getElem? (i := 28) rfl)) (hw _ (List.mem_of_getElem? (i := 29) rfl)) e0 (g := (mkF m 1 #[.val (.ref x), .val (.ref a), .val (.int (0 : Int32)), .val (.int (Int32.ofNat n)), .val .null, .unset] [(.ref x)])) rfl (by rw [hml]; rfl) rfl (hb hby d8_1) (by decide) (W := 0) (by show 2 * 0 + _ ≤ _; exact Nat.le_of_eq rfl) (by decide)
  refine oOn st1 ?_
  show oGl p e below (T1.setTop (mkF m 4 #[.val (.ref x), .val (.ref a), .val (.int (0 : Int32)), .val (.int (Int32.ofNat n)), .val .null, .unset] [])) _
  refine siloadN X1 hx (hb hby d8_4) rfl rfl (pc' := 5) ?_
  refine sifY X1 hx (hb hby d8_5) (by decide) (by decide) (feq (own_n0 hn9 hpos : ¬ ((Int32.ofNat n) = (0 : Int32)))).2 (pc' := 27) ?_
  obtain ⟨T2, X2, e2, st2⟩ := getS2 X1 hx hZ hown (host := "") (Or.inl (hw _ (List.mem_of_getElem? (i := 12) rfl))) Via.refl e1 (SCS.ext O0.2) (g := (mkF m 27 #[.val (.ref x), .val (.ref a), .val (.int (0 : Int32)), .val (.int (Int32.ofNat n)), .val .null, .unset] [])) rfl (hb hby d8_27)
  refine oOn st2 ?_
  show oGl p e below (T2.setTop (mkF m 30 #[.val (.ref x), .val (.ref a), .val (.int (0 : Int32)), .val (.int (Int32.ofNat n)), .val .null, .unset] [(.int cz)])) _
  refine sifN X2 hx (hb hby d8_30) rfl (feq (hcz : ¬ (cz = (0 : Int32)))).1 (pc' := 33) ?_
  refine saloadN X2 hx (hb hby d8_33) rfl rfl rfl (pc' := 34) ?_
  refine siloadN X2 hx (hb hby d8_34) rfl rfl (pc' := 35) ?_
  refine siloadN X2 hx (hb hby d8_35) rfl rfl (pc' := 36) ?_
  have hz3 : n0 ≤ h0.size := by omega
  obtain ⟨_, _, ⟨T3, L3, k3, n3⟩, -, X3, ⟨Lc3, hQ3, l3, y3, z3⟩, st3⟩ := Jvm.LawKit.callS X2 hx (y := (⟨"java/lang/StringUTF16", "compress", "([CII)[B"⟩ : MethodName)) hown (mvT hZ (hw _ (List.mem_of_getElem? (i := 41) rfl))) (mvT hZ (hw _ (List.mem_of_getElem? (i := 42) rfl))) (mvT hZ (hw _ (List.mem_of_getElem? (i := 43) rfl))) (mvT hZ (hw _ (List.mem_of_getElem? (i := 44) rfl))) (by decide) (backOf (W := 0) (rmCmp3 l Z a0 hw [] a n f h0 n0 hz3 PV hcap hl) hZ (hw _ (List.mem_of_getElem? (i := 44) rfl)) (hw _ (List.mem_of_getElem? (i := 43) rfl)) (by decide) (by decide)) (g := (mkF m 36 #[.val (.ref x), .val (.ref a), .val (.int (0 : Int32)), .val (.int (Int32.ofNat n)), .val .null, .unset] [(.int (Int32.ofNat n)), (.int (0 : Int32)), (.ref a)])) rfl (by rw [hml]; rfl) (argsL := [(.ref a), (.int (0 : Int32)), (.int (Int32.ofNat n))]) (rest := []) (lenOf pd_1 rfl) rfl (by show 2 * 0 + _ ≤ _; exact Nat.le_of_eq rfl) (hb hby d8_36) (fun _ _ => ⟨rfl, e2, (by decide : 0 + 1 ≤ _), (by decide : 0 + 2 ≤ _)⟩)
  dsimp only [Pt.U, Pt.locs, Pt.cells, Pt.slots] at X3 l3 y3 z3 st3 hQ3
  subst l3 y3 z3
  obtain ⟨d3, rfl, N3q, K3, zd3, Vd3, EA3⟩ := hQ3
  have N3 := Fr.app N0 N3q
  have z4 : h0.size ≤ T3.heap.size := K3.1
  refine oOn st3 ?_
  have ld3 : @LT.lt Nat _ d3 T3.heap.size := Vd3.lt
  show oGl p e below (T3.setTop (mkF m 39 #[.val (.ref x), .val (.ref a), .val (.int (0 : Int32)), .val (.int (Int32.ofNat n)), .val .null, .unset] [(.ref d3)])) _
  refine sastore X3 hx (hb hby d8_39) rfl rfl rfl (l' := #[.val (.ref x), .val (.ref a), .val (.int (0 : Int32)), .val (.int (Int32.ofNat n)), .val .null, .val (.ref d3)]) (pc' := 41) ?_
  refine saloadN X3 hx (hb hby d8_41) rfl rfl rfl (pc' := 42) ?_
  refine saload X3 hx (hb hby d8_42) rfl rfl rfl (pc' := 44) ?_
  refine siloadN X3 hx (hb hby d8_44) rfl rfl (pc' := 45) ?_
  have hz5 : n0 ≤ T3.heap.size := by omega
  obtain ⟨_, _, ⟨T5, L5, k5, n5⟩, -, X5, ⟨Lc5, hQ5, l5, y5, z5⟩, st5⟩ := Jvm.LawKit.callS X3 hx (y := (⟨"java/lang/StringUTF16", "coderFromArrayLen", "([BI)B"⟩ : MethodName)) hown (mvT hZ (hw _ (List.mem_of_getElem? (i := 48) rfl))) (mvT hZ (hw _ (List.mem_of_getElem? (i := 49) rfl))) (mvT hZ (hw _ (List.mem_of_getElem? (i := 43) rfl))) (mvT hZ (hw _ (List.mem_of_getElem? (i := 50) rfl))) (by decide) (backOf (W := 1) (rmCod l Z a0 hw [] d3 n (oLo f) T3.heap n0 hz5 Vd3) hZ (hw _ (List.mem_of_getElem? (i := 50) rfl)) (hw _ (List.mem_of_getElem? (i := 43) rfl)) (by decide) (by decide)) (g := (mkF m 45 #[.val (.ref x), .val (.ref a), .val (.int (0 : Int32)), .val (.int (Int32.ofNat n)), .val .null, .val (.ref d3)] [(.int (Int32.ofNat n)), (.ref d3), (.ref x)])) rfl (by rw [hml]; rfl) (argsL := [(.ref d3), (.int (Int32.ofNat n))]) (rest := [(.ref x)]) (lenOf pd_2 rfl) rfl (by show 2 * 0 + _ ≤ _; exact Nat.le_of_eq rfl) (hb hby d8_45) (fun _ _ => ⟨rfl, rfl, (by decide : 1 + 0 ≤ _), (by decide : 2 + 0 ≤ _)⟩)
  dsimp only [Pt.U, Pt.locs, Pt.cells, Pt.slots] at X5 l5 y5 z5 st5 hQ5
  subst l5 y5 z5
  obtain ⟨rfl, N5q, eh5⟩ := hQ5
  have N5 := Fr.app N3 N5q
  refine oOn st5 ?_
  show oGl p e below (T5.setTop (mkF m 48 #[.val (.ref x), .val (.ref a), .val (.int (0 : Int32)), .val (.int (Int32.ofNat n)), .val .null, .val (.ref d3)] [(.int (0 : Int32)), (.ref x)])) _
  have f7 := (F1.keep K3 nin0)
  have f8 := (E0.keep K3)
  obtain ⟨T6, h6, X6, e6, W6, st6⟩ := putFN X5 hx hZ hown (hw _ (List.mem_of_getElem? (i := 32) rfl)) Via.refl eh5 f7 f8 (Or.inr ⟨(hw _ (List.mem_of_getElem? (i := 33) rfl)), rfl, hnm⟩) (hw _ (List.mem_of_getElem? (i := 18) rfl)) (ty := .byte) (v' := (.int (0 : Int32))) (by decide) rfl rfl (g := (mkF m 48 #[.val (.ref x), .val (.ref a), .val (.int (0 : Int32)), .val (.int (Int32.ofNat n)), .val .null, .val (.ref d3)] [(.int (0 : Int32)), (.ref x)])) rfl rfl (hb hby d8_48)
  refine oOn st6 ?_
  have z9 : T3.heap.size ≤ h6.size := Nat.le_of_eq W6.size.symm
  have N6 := Fr.snoc X6 N5 (by omega)
  have f6 := Fld.same W6 f7
  show oGl p e below (T6.setTop (mkF m 51 #[.val (.ref x), .val (.ref a), .val (.int (0 : Int32)), .val (.int (Int32.ofNat n)), .val .null, .val (.ref d3)] [])) _
  refine saloadN X6 hx (hb hby d8_51) rfl rfl rfl (pc' := 52) ?_
  refine saload X6 hx (hb hby d8_52) rfl rfl rfl (pc' := 54) ?_
  have f11 := ((F0.keep K3 nin0).other W6 (Or.inr (slot_ne (Or.inr (hw _ (List.mem_of_getElem? (i := 31) rfl))) (Or.inr (hw _ (List.mem_of_getElem? (i := 33) rfl))) (by decide) (t := (.array .byte)) (t' := .byte) (by decide) (by decide))))
  have f12 := (f8.wr W6)
  obtain ⟨T10, h10, X10, e10, W10, st10⟩ := putF X6 hx hZ hown (host := "") (Or.inl (hw _ (List.mem_of_getElem? (i := 30) rfl))) Via.refl e6 f11 f12 (Or.inr ⟨(hw _ (List.mem_of_getElem? (i := 31) rfl)), rfl, hnm⟩) (hw _ (List.mem_of_getElem? (i := 18) rfl)) (ty := (.array .byte)) (by decide) rfl rfl (g := (mkF m 54 #[.val (.ref x), .val (.ref a), .val (.int (0 : Int32)), .val (.int (Int32.ofNat n)), .val .null, .val (.ref d3)] [(.ref d3), (.ref x)])) rfl rfl (hb hby d8_54)
  refine oOn st10 ?_
  have z13 : h6.size ≤ h10.size := Nat.le_of_eq W10.size.symm
  have N10 := Fr.snoc X10 N6 (by omega)
  have f10 := Fld.same W10 f11
  show oGl p e below (T10.setTop (mkF m 57 #[.val (.ref x), .val (.ref a), .val (.int (0 : Int32)), .val (.int (Int32.ofNat n)), .val .null, .val (.ref d3)] [])) _
  have kp14 : Keep h0 h10 [x] := ((((Keep.refl h0 [x]).trans K3 all0).wr W6 (Or.inl (List.mem_of_getElem? (i := 0) rfl))).wr W10 (Or.inl (List.mem_of_getElem? (i := 0) rfl)))
  have f15 := (f12.wr W10)
  have f16 := (f6.other W10 (Or.inr (slot_ne (Or.inr (hw _ (List.mem_of_getElem? (i := 33) rfl))) (Or.inr (hw _ (List.mem_of_getElem? (i := 31) rfl))) (by decide) (t := .byte) (t' := (.array .byte)) (by decide) (by decide))))
  have f17 := ((Vd3.other W6 (oNe (by omega))).other W10 (oNe (by omega)))
  have f18 := ((EA3.wr W6).wr W10)
  refine oRet0 X10 hx Bd.notSynchronized Bd.returns (hb hby d8_57) (by decide) (by decide) ?_
  show Q_rmStr4 Z x a n f cz h0 n0 _ T10.heap _
  rw [e10]
  exact ⟨d3, rfl, N10, kp14, by omega, f15, f10, f16, f17, f18⟩
theorem d7_0 : decode jdk_42_method_3_code 0 = .ok (.aload_n 0, 1) := by decide +kernel
theorem d7_1 : decode jdk_42_method_3_code 1 = .ok (.aload_n 1, 1) := by decide +kernel
theorem d7_2 : decode jdk_42_method_3_code 2 = .ok (.iconst 0, 1) := by decide +kernel
theorem d7_3 : decode jdk_42_method_3_code 3 = .ok (.aload_n 1, 1) := by decide +kernel
theorem d7_4 : decode jdk_42_method_3_code 4 = .ok (.arraylength, 1) := by decide +kernel
theorem d7_5 : decode jdk_42_method_3_code 5 = .ok (.aconst_null, 1) := by decide +kernel
theorem d7_6 : decode jdk_42_method_3_code 6 = .ok (.invokespecial 27, 3) := by decide +kernel
theorem pd_3 : parseMethodDescriptor "([CIILjava/lang/Void;)V" = some ⟨[(.array .char), .int, .int, (.object "java/lang/Void")], none⟩ := by decide +kernel
theorem d7_9 : decode jdk_42_method_3_code 9 = .ok (.return_, 1) := by decide +kernel
theorem ef_rmStr (m : MethodId) (x0 : Nat) (x1 : Nat)  : entryFrame m #[(.ref x0), (.ref x1)] 2 = mkF m 0 #[.val (.ref x0), .val (.ref x1)] [] := by first | (simp [entryFrame, mkF, argsToLocals, Value.category, maxLocals]; done) | rfl
def Q_rmStr (Z : State) (x a n : Nat) (f : Nat → Int32) (cz : Int32) (h0 : Heap) (n0 : Nat) (vv : Option Value) (h : Heap) (L : List Loc) : Prop := ∃ b : Nat, vv = none ∧ Fr n0 L ∧ Keep h0 h [x] ∧ h0.size ≤ b ∧ Exa Z h x "java/lang/String" ∧ Fld Z h x "java/lang/String" "value" "[B" (.ref b) ∧ Fld Z h x "java/lang/String" "coder" "B" (.int 0) ∧ oAI Z h b .byte n (oLo f) ∧ Exa Z h b "[B"
set_option maxRecDepth 65536 in
set_option maxHeartbeats 40000000 in
theorem rmStr (l : Launch) (Z : State) (a0 : Array Value) (hw : ∀ d ∈ tables_1, d.before a0 Z = true) (ws : List Jvm.Cond) (x a n : Nat) (f : Nat → Int32) (cz : Int32) (h0 : Heap) (n0 : Nat) (Z0 : n0 ≤ h0.size) (PV : oAI Z h0 a .char n f) (hcap : n ≤ 2) (hpos : 0 < n) (hl : ∀ j : Nat, j < n → ¬ (255 : Int32) < f j) (hxa : x ≠ a) (E0 : Exa Z h0 x "java/lang/String") (F0 : Fld Z h0 x "java/lang/String" "value" "[B" .null) (F1 : Fld Z h0 x "java/lang/String" "coder" "B" (.int 0)) (gx : n0 ≤ x) (O0 : Old Z n0 h0) (SCS : Sta Z Z.heap "java/lang/String" "COMPACT_STRINGS" "Z" (.int cz)) (hcz : ¬ cz = (0 : Int32)) :
    MetFree l (⟨"java/lang/String", "<init>", "([C)V"⟩ : MethodName) (head1 (Jvm.Cond.code (⟨"java/lang/String", "<init>", "([C)V"⟩ : MethodName) jdk_42_method_3_code 2 (none : Option FieldType) :: ws) ({ frames := 3, cells := 1, slots := 2, locals := 52 } : Room)) (fun aA uU => aA = #[(.ref x), (.ref a)] ∧ Z.Warmed39 uU.vm ∧ uU.heap = h0) (fun _ _ _ _ _ => True) (fun _ uU oO uU' => ∃ vV lL, oO = .returned vV ∧ Q_rmStr Z x a n f cz h0 n0 vV uU'.heap lL ∧ FrameEnd uU oO uU' lL ({ frames := 3, cells := 1, slots := 2, locals := 52 } : Room).cells ({ frames := 3, cells := 1, slots := 2, locals := 52 } : Room).slots) := by
  refine MetFree.of_bodySF (plainFor_of_name pn_String) hisR ?_
  intro p e s m args below meth c s₁ Bd hml0 hP hK
  obtain ⟨rfl, hZ, hh⟩ := hP
  have hx := Bd.exec
  have hby := Bd.bytes
  have hml : c.maxLocals = 2 := hml0
  have hown : s.vm.findClass "java/lang/String" = some m.cls := findClass_of_methodNamed Bd.named
  have hnm := (name_of_methodNamed Bd.named Bd.method).1
  have X0 : Stand p l e ({ frames := 3, cells := 1, slots := 2, locals := 52 } : Room) s m #[(.ref x), (.ref a)] below meth c s₁ [] 0 0 := Stand.of_body Bd
  have e0 : s₁.heap = h0 := by rw [← hh, Bd.state]; rfl
  have N0 := Fr.nil n0
  refine oEnter (oCast (ef_rmStr m x a ) ?_)
  show oGl p e below (s₁.setTop (mkF m 0 #[.val (.ref x), .val (.ref a)] [])) _
  refine saloadN X0 hx (hb hby d7_0) rfl rfl rfl (pc' := 1) ?_
  refine saloadN X0 hx (hb hby d7_1) rfl rfl rfl (pc' := 2) ?_
  refine siconst X0 hx (hb hby d7_2) rfl rfl (z := 0) (pc' := 3) ?_
  refine saloadN X0 hx (hb hby d7_3) rfl rfl rfl (pc' := 4) ?_
  refine oOn (PV.len X0 hx hZ e0 (g := (mkF m 4 #[.val (.ref x), .val (.ref a)] [(.ref a), (.int (0 : Int32)), (.ref a), (.ref x)])) rfl rfl (hb hby d7_4)) ?_
  show oGl p e below (s₁.setTop (mkF m 5 #[.val (.ref x), .val (.ref a)] [(.int (Int32.ofNat n)), (.int (0 : Int32)), (.ref a), (.ref x)])) _
  refine saconst_null X0 hx (hb hby d7_5) rfl  (pc' := 6) ?_
  have hz1 : n0 ≤ h0.size := by omega
  obtain ⟨_, _, ⟨T1, L1, k1, n1⟩, -, X1, ⟨Lc1, hQ1, l1, y1, z1⟩, st1⟩ := X0.specialBack hx (y := (⟨"java/lang/String", "<init>", "([CIILjava/lang/Void;)V"⟩ : MethodName)) rfl hown (mvT hZ (hw _ (List.mem_of_getElem? (i := 38) rfl))) (mvT hZ (hw _ (List.mem_of_getElem? (i := 39) rfl))) (mvT hZ (hw _ (List.mem_of_getElem? (i := 40) rfl))) (by decide) (backOf (W := 0) (rmStr4 l Z a0 hw [] x a n f cz h0 n0 hz1 PV hcap hpos hl hxa E0 F0 F1 gx O0 SCS hcz) hZ (hw _ (List.mem_of_getElem? (i := 40) rfl)) (hw _ (List.mem_of_getElem? (i := 10) rfl)) (by decide) (by decide)) (g := (mkF m 6 #[.val (.ref x), .val (.ref a)] [.null, (.int (Int32.ofNat n)), (.int (0 : Int32)), (.ref a), (.ref x)])) rfl (by rw [hml]; rfl) (Steps.refl _) (a := x) (argsL := [(.ref a), (.int (0 : Int32)), (.int (Int32.ofNat n)), .null]) (rest := []) (lenOf pd_3 rfl) rfl (by show 2 * 0 + _ ≤ _; exact Nat.le_of_eq rfl) (hb hby d7_6) (fun _ _ => ⟨rfl, e0, (by decide : 0 + 1 ≤ _), (by decide : 0 + 2 ≤ _)⟩)
  dsimp only [Pt.U, Pt.locs, Pt.cells, Pt.slots] at X1 l1 y1 z1 st1 hQ1
  subst l1 y1 z1
  obtain ⟨b1, rfl, N1q, K1, zb1, Ex1, Fv1, Fc1, Vb1, EA1⟩ := hQ1
  have N1 := Fr.app N0 N1q
  have z2 : h0.size ≤ T1.heap.size := K1.1
  refine oSt st1 ?_
  show oGl p e below (T1.setTop (mkF m 9 #[.val (.ref x), .val (.ref a)] [])) _
  have kp3 : Keep h0 T1.heap [x] := ((Keep.refl h0 [x]).trans K1 (allS (Or.inl (List.mem_of_getElem? (i := 0) rfl)) all0))
  refine oRet0 X1 hx Bd.notSynchronized Bd.returns (hb hby d7_9) (by decide) (by decide) ?_
  show Q_rmStr Z x a n f cz h0 n0 _ T1.heap _
  exact ⟨b1, rfl, N1, kp3, by omega, Ex1, Fv1, Fc1, Vb1, EA1⟩
theorem d3_0 : decode jdk_43_method_3_code 0 = .ok (.iload_n 0, 1) := by decide +kernel
theorem d3_1 : decode jdk_43_method_3_code 1 = .ok (.sipush 255, 3) := by decide +kernel
theorem d3_4 : decode jdk_43_method_3_code 4 = .ok (.if_icmp .gt 7, 3) := by decide +kernel
theorem d3_7 : decode jdk_43_method_3_code 7 = .ok (.iconst 1, 1) := by decide +kernel
theorem d3_8 : decode jdk_43_method_3_code 8 = .ok (.goto 4, 3) := by decide +kernel
theorem d3_12 : decode jdk_43_method_3_code 12 = .ok (.ireturn, 1) := by decide +kernel
theorem pn_StringLatin1 : plainName "java/lang/StringLatin1" = true := by first | (simp [plainName, overriddenIn]; done) | decide +kernel
theorem ef_rmEnc (m : MethodId) (x0 : Int32)  : entryFrame m #[(.int x0)] 1 = mkF m 0 #[.val (.int x0)] [] := by first | (simp [entryFrame, mkF, argsToLocals, Value.category, maxLocals]; done) | rfl
def Q_rmEnc (Z : State) (z : Int32) (h0 : Heap) (n0 : Nat) (vv : Option Value) (h : Heap) (L : List Loc) : Prop := vv = some (.int 1) ∧ Fr n0 L ∧ h = h0
set_option maxRecDepth 65536 in
set_option maxHeartbeats 40000000 in
theorem rmEnc (l : Launch) (Z : State) (a0 : Array Value) (hw : ∀ d ∈ tables_1, d.before a0 Z = true) (ws : List Jvm.Cond) (z : Int32) (h0 : Heap) (n0 : Nat) (Z0 : n0 ≤ h0.size) (hz : ¬ ((255 : Int32) < z)) :
    MetFree l (⟨"java/lang/StringLatin1", "canEncode", "(C)Z"⟩ : MethodName) (head1 (Jvm.Cond.code (⟨"java/lang/StringLatin1", "canEncode", "(C)Z"⟩ : MethodName) jdk_43_method_3_code 1 (some .boolean) :: ws) ({ frames := 0, cells := 0, slots := 0, locals := 0 } : Room)) (fun aA uU => aA = #[(.int z)] ∧ Z.Warmed39 uU.vm ∧ uU.heap = h0) (fun _ _ _ _ _ => True) (fun _ uU oO uU' => ∃ vV lL, oO = .returned vV ∧ Q_rmEnc Z z h0 n0 vV uU'.heap lL ∧ FrameEnd uU oO uU' lL ({ frames := 0, cells := 0, slots := 0, locals := 0 } : Room).cells ({ frames := 0, cells := 0, slots := 0, locals := 0 } : Room).slots) := by
  refine MetFree.of_bodySF (plainFor_of_name pn_StringLatin1) hisR ?_
  intro p e s m args below meth c s₁ Bd hml0 hP hK
  obtain ⟨rfl, hZ, hh⟩ := hP
  have hx := Bd.exec
  have hby := Bd.bytes
  have hml : c.maxLocals = 1 := hml0
  have hown : s.vm.findClass "java/lang/StringLatin1" = some m.cls := findClass_of_methodNamed Bd.named
  have hnm := (name_of_methodNamed Bd.named Bd.method).1
  have X0 : Stand p l e ({ frames := 0, cells := 0, slots := 0, locals := 0 } : Room) s m #[(.int z)] below meth c s₁ [] 0 0 := Stand.of_body Bd
  have e0 : s₁.heap = h0 := by rw [← hh, Bd.state]; rfl
  have N0 := Fr.nil n0
  refine oEnter (oCast (ef_rmEnc m z ) ?_)
  show oGl p e below (s₁.setTop (mkF m 0 #[.val (.int z)] [])) _
  refine siloadN X0 hx (hb hby d3_0) rfl rfl (pc' := 1) ?_
  refine ssipush X0 hx (hb hby d3_1) rfl rfl (z := 255) (pc' := 4) ?_
  refine sicN X0 hx (hb hby d3_4) rfl (flt (hz : ¬ ((255 : Int32) < z))).2.2.1 (pc' := 7) ?_
  refine siconst X0 hx (hb hby d3_7) rfl rfl (z := 1) (pc' := 8) ?_
  refine sgoto X0 hx (hb hby d3_8) (by decide) (by decide)  (pc' := 12) ?_
  refine oRetN (t := .boolean) X0 hx Bd.notSynchronized Bd.returns (by simp) (hb hby d3_12) (by decide) (by decide) ?_
  show Q_rmEnc Z z h0 n0 _ s₁.heap _
  rw [e0]
  exact ⟨rfl, N0, rfl⟩
theorem d4_0 : decode jdk_43_method_46_code 0 = .ok (.iconst 1, 1) := by decide +kernel
theorem d4_1 : decode jdk_43_method_46_code 1 = .ok (.newarray .byte, 2) := by decide +kernel
theorem d4_3 : decode jdk_43_method_46_code 3 = .ok (.dup, 1) := by decide +kernel
theorem d4_4 : decode jdk_43_method_46_code 4 = .ok (.iconst 0, 1) := by decide +kernel
theorem d4_5 : decode jdk_43_method_46_code 5 = .ok (.iload_n 0, 1) := by decide +kernel
theorem d4_6 : decode jdk_43_method_46_code 6 = .ok (.i2b, 1) := by decide +kernel
theorem d4_7 : decode jdk_43_method_46_code 7 = .ok (.bastore, 1) := by decide +kernel
theorem d4_8 : decode jdk_43_method_46_code 8 = .ok (.areturn, 1) := by decide +kernel
theorem ef_rmTob (m : MethodId) (x0 : Int32)  : entryFrame m #[(.int x0)] 1 = mkF m 0 #[.val (.int x0)] [] := by first | (simp [entryFrame, mkF, argsToLocals, Value.category, maxLocals]; done) | rfl
def Q_rmTob (Z : State) (z : Int32) (h0 : Heap) (n0 : Nat) (vv : Option Value) (h : Heap) (L : List Loc) : Prop := ∃ d : Nat, vv = some (.ref d) ∧ Fr n0 L ∧ Keep h0 h [] ∧ oAI Z h d .byte 1 (oLo (fun _ => z)) ∧ Exa Z h d "[B"
set_option maxRecDepth 65536 in
set_option maxHeartbeats 40000000 in
theorem rmTob (l : Launch) (Z : State) (a0 : Array Value) (hw : ∀ d ∈ tables_1, d.before a0 Z = true) (ws : List Jvm.Cond) (z : Int32) (h0 : Heap) (n0 : Nat) (Z0 : n0 ≤ h0.size)  :
    MetFree l (⟨"java/lang/StringLatin1", "toBytes", "(C)[B"⟩ : MethodName) (head1 (Jvm.Cond.code (⟨"java/lang/StringLatin1", "toBytes", "(C)[B"⟩ : MethodName) jdk_43_method_46_code 1 (some (.array .byte)) :: ws) ({ frames := 0, cells := 1, slots := 1, locals := 0 } : Room)) (fun aA uU => aA = #[(.int z)] ∧ Z.Warmed39 uU.vm ∧ uU.heap = h0) (fun _ _ _ _ _ => True) (fun _ uU oO uU' => ∃ vV lL, oO = .returned vV ∧ Q_rmTob Z z h0 n0 vV uU'.heap lL ∧ FrameEnd uU oO uU' lL ({ frames := 0, cells := 1, slots := 1, locals := 0 } : Room).cells ({ frames := 0, cells := 1, slots := 1, locals := 0 } : Room).slots) := by
  refine MetFree.of_bodySF (plainFor_of_name pn_StringLatin1) hisR ?_
  intro p e s m args below meth c s₁ Bd hml0 hP hK
  obtain ⟨rfl, hZ, hh⟩ := hP
  have hx := Bd.exec
  have hby := Bd.bytes
  have hml : c.maxLocals = 1 := hml0
  have hown : s.vm.findClass "java/lang/StringLatin1" = some m.cls := findClass_of_methodNamed Bd.named
  have hnm := (name_of_methodNamed Bd.named Bd.method).1
  have X0 : Stand p l e ({ frames := 0, cells := 1, slots := 1, locals := 0 } : Room) s m #[(.int z)] below meth c s₁ [] 0 0 := Stand.of_body Bd
  have e0 : s₁.heap = h0 := by rw [← hh, Bd.state]; rfl
  have N0 := Fr.nil n0
  refine oEnter (oCast (ef_rmTob m z ) ?_)
  show oGl p e below (s₁.setTop (mkF m 0 #[.val (.int z)] [])) _
  refine siconst X0 hx (hb hby d4_0) rfl rfl (z := 1) (pc' := 1) ?_
  obtain ⟨T1, h1, k1, X1, e1, E1, A1, EA1, st1⟩ := newPE X0 hx hZ (hw _ (List.mem_of_getElem? (i := 22) rfl)) e0 (g := (mkF m 1 #[.val (.int z)] [(.int (1 : Int32))])) rfl (hb hby d4_1) rfl (by decide) (cap := 1) (by decide) (by decide) (by decide) (by decide) (ad := "[B") rfl
  obtain ⟨a1, g1⟩ : ∃ z, z = h0.size := ⟨_, rfl⟩
  rw [← g1] at A1 EA1 st1
  refine oOn st1 ?_
  have z2 : h0.size ≤ h1.size := E1.1
  have lt1 : a1 < h1.size := A1.lt
  have V1 : oAI Z h1 a1 .byte 1 (fun _ => 0) := oAI.new A1 rfl
  show oGl p e below (T1.setTop (mkF m 3 #[.val (.int z)] [(.ref a1)])) _
  refine sdup X1 hx (hb hby d4_3) rfl rfl (pc' := 4) ?_
  refine siconst X1 hx (hb hby d4_4) rfl rfl (z := 0) (pc' := 5) ?_
  refine siloadN X1 hx (hb hby d4_5) rfl rfl (pc' := 6) ?_
  refine si2b X1 hx (hb hby d4_6) rfl rfl (pc' := 7) ?_
  obtain ⟨T3, h3, X3, e3, W3, V3, st3⟩ := V1.stB X1 hx hZ e1 (j := (0 : Int32)) (by decide) (g := (mkF m 7 #[.val (.int z)] [(.int ((z).toInt8.toInt32)), (.int (0 : Int32)), (.ref a1), (.ref a1)])) rfl rfl (hb hby d4_7)
  refine oOn st3 ?_
  have z4 : h1.size ≤ h3.size := Nat.le_of_eq W3.size.symm
  have N3 := Fr.snoc X3 N0 (by omega)
  show oGl p e below (T3.setTop (mkF m 8 #[.val (.int z)] [(.ref a1)])) _
  have kp5 : Keep h0 h3 [] := (((Keep.refl h0 []).ext E1).wr W3 (Or.inr (by omega)))
  have f6 := (EA1.wr W3)
  refine oRetR X3 hx Bd.notSynchronized Bd.returns rfl rfl (hb hby d4_8) (by decide) (by decide) ?_
  show Q_rmTob Z z h0 n0 _ T3.heap _
  rw [e3]
  exact ⟨a1, rfl, N3, kp5, V3.congr (fun j hj => by
    have q : j = 0 := by omega
    subst q; rfl), f6⟩
theorem d5_0 : decode jdk_42_method_151_code 0 = .ok (.aload_n 0, 1) := by decide +kernel
theorem d5_1 : decode jdk_42_method_151_code 1 = .ok (.invokespecial 1, 3) := by decide +kernel
theorem d5_4 : decode jdk_42_method_151_code 4 = .ok (.aload_n 0, 1) := by decide +kernel
theorem d5_5 : decode jdk_42_method_151_code 5 = .ok (.aload_n 1, 1) := by decide +kernel
theorem d5_6 : decode jdk_42_method_151_code 6 = .ok (.putfield 9, 3) := by decide +kernel
theorem d5_9 : decode jdk_42_method_151_code 9 = .ok (.aload_n 0, 1) := by decide +kernel
theorem d5_10 : decode jdk_42_method_151_code 10 = .ok (.iload_n 2, 1) := by decide +kernel
theorem d5_11 : decode jdk_42_method_151_code 11 = .ok (.putfield 15, 3) := by decide +kernel
theorem d5_14 : decode jdk_42_method_151_code 14 = .ok (.return_, 1) := by decide +kernel
theorem ef_rmInB (m : MethodId) (x0 : Nat) (x1 : Nat) (x2 : Int32)  : entryFrame m #[(.ref x0), (.ref x1), (.int x2)] 3 = mkF m 0 #[.val (.ref x0), .val (.ref x1), .val (.int x2)] [] := by first | (simp [entryFrame, mkF, argsToLocals, Value.category, maxLocals]; done) | rfl
def Q_rmInB (Z : State) (x d : Nat) (h0 : Heap) (n0 : Nat) (vv : Option Value) (h : Heap) (L : List Loc) : Prop := vv = none ∧ Fr n0 L ∧ Keep h0 h [x] ∧ Exa Z h x "java/lang/String" ∧ Fld Z h x "java/lang/String" "value" "[B" (.ref d) ∧ Fld Z h x "java/lang/String" "coder" "B" (.int 0)
set_option maxRecDepth 65536 in
set_option maxHeartbeats 40000000 in
theorem rmInB (l : Launch) (Z : State) (a0 : Array Value) (hw : ∀ d ∈ tables_1, d.before a0 Z = true) (ws : List Jvm.Cond) (x d : Nat) (h0 : Heap) (n0 : Nat) (Z0 : n0 ≤ h0.size) (E0 : Exa Z h0 x "java/lang/String") (F0 : Fld Z h0 x "java/lang/String" "value" "[B" .null) (F1 : Fld Z h0 x "java/lang/String" "coder" "B" (.int 0)) (gx : n0 ≤ x) :
    MetFree l (⟨"java/lang/String", "<init>", "([BB)V"⟩ : MethodName) (head1 (Jvm.Cond.code (⟨"java/lang/String", "<init>", "([BB)V"⟩ : MethodName) jdk_42_method_151_code 3 (none : Option FieldType) :: ws) ({ frames := 1, cells := 0, slots := 0, locals := 12 } : Room)) (fun aA uU => aA = #[(.ref x), (.ref d), (.int (0 : Int32))] ∧ Z.Warmed39 uU.vm ∧ uU.heap = h0) (fun _ _ _ _ _ => True) (fun _ uU oO uU' => ∃ vV lL, oO = .returned vV ∧ Q_rmInB Z x d h0 n0 vV uU'.heap lL ∧ FrameEnd uU oO uU' lL ({ frames := 1, cells := 0, slots := 0, locals := 12 } : Room).cells ({ frames := 1, cells := 0, slots := 0, locals := 12 } : Room).slots) := by
  refine MetFree.of_bodySF (plainFor_of_name pn_String) hisR ?_
  intro p e s m args below meth c s₁ Bd hml0 hP hK
  obtain ⟨rfl, hZ, hh⟩ := hP
  have hx := Bd.exec
  have hby := Bd.bytes
  have hml : c.maxLocals = 3 := hml0
  have hown : s.vm.findClass "java/lang/String" = some m.cls := findClass_of_methodNamed Bd.named
  have hnm := (name_of_methodNamed Bd.named Bd.method).1
  have X0 : Stand p l e ({ frames := 1, cells := 0, slots := 0, locals := 12 } : Room) s m #[(.ref x), (.ref d), (.int (0 : Int32))] below meth c s₁ [] 0 0 := Stand.of_body Bd
  have e0 : s₁.heap = h0 := by rw [← hh, Bd.state]; rfl
  have N0 := Fr.nil n0
  have lX : @LT.lt Nat _ x h0.size := E0.lt
  refine oEnter (oCast (ef_rmInB m x d (0 : Int32) ) ?_)
  show oGl p e below (s₁.setTop (mkF m 0 #[.val (.ref x), .val (.ref d), .val (.int (0 : Int32))] [])) _
  refine saloadN X0 hx (hb hby d5_0) rfl rfl rfl (pc' := 1) ?_
  obtain ⟨T1, X1, e1, st1⟩ := initO X0 hx hZ hown (hw _ (List.mem_of_getElem? (i := 27) rfl)) (hw _ (List.mem_of_getElem? (i := 28) rfl)) (hw _ (List.mem_of_getElem? (i := 29) rfl)) e0 (g := (mkF m 1 #[.val (.ref x), .val (.ref d), .val (.int (0 : Int32))] [(.ref x)])) rfl (by rw [hml]; rfl) rfl (hb hby d5_1) (by decide) (W := 0) (by show 2 * 0 + _ ≤ _; exact Nat.le_of_eq rfl) (by decide)
  refine oOn st1 ?_
  show oGl p e below (T1.setTop (mkF m 4 #[.val (.ref x), .val (.ref d), .val (.int (0 : Int32))] [])) _
  refine saloadN X1 hx (hb hby d5_4) rfl rfl rfl (pc' := 5) ?_
  refine saloadN X1 hx (hb hby d5_5) rfl rfl rfl (pc' := 6) ?_
  obtain ⟨T2, h2, X2, e2, W2, st2⟩ := putF X1 hx hZ hown (host := "") (Or.inl (hw _ (List.mem_of_getElem? (i := 30) rfl))) Via.refl e1 F0 E0 (Or.inr ⟨(hw _ (List.mem_of_getElem? (i := 31) rfl)), rfl, hnm⟩) (hw _ (List.mem_of_getElem? (i := 18) rfl)) (ty := (.array .byte)) (by decide) rfl rfl (g := (mkF m 6 #[.val (.ref x), .val (.ref d), .val (.int (0 : Int32))] [(.ref d), (.ref x)])) rfl rfl (hb hby d5_6)
  refine oOn st2 ?_
  have z3 : h0.size ≤ h2.size := Nat.le_of_eq W2.size.symm
  have N2 := Fr.snoc X2 N0 (by omega)
  have f2 := Fld.same W2 F0
  show oGl p e below (T2.setTop (mkF m 9 #[.val (.ref x), .val (.ref d), .val (.int (0 : Int32))] [])) _
  refine saloadN X2 hx (hb hby d5_9) rfl rfl rfl (pc' := 10) ?_
  refine siloadN X2 hx (hb hby d5_10) rfl rfl (pc' := 11) ?_
  have f5 := (F1.other W2 (Or.inr (slot_ne (Or.inr (hw _ (List.mem_of_getElem? (i := 33) rfl))) (Or.inr (hw _ (List.mem_of_getElem? (i := 31) rfl))) (by decide) (t := .byte) (t' := (.array .byte)) (by decide) (by decide))))
  have f6 := (E0.wr W2)
  obtain ⟨T4, h4, X4, e4, W4, st4⟩ := putFN X2 hx hZ hown (hw _ (List.mem_of_getElem? (i := 32) rfl)) Via.refl e2 f5 f6 (Or.inr ⟨(hw _ (List.mem_of_getElem? (i := 33) rfl)), rfl, hnm⟩) (hw _ (List.mem_of_getElem? (i := 18) rfl)) (ty := .byte) (v' := (.int (0 : Int32))) (by decide) rfl rfl (g := (mkF m 11 #[.val (.ref x), .val (.ref d), .val (.int (0 : Int32))] [(.int (0 : Int32)), (.ref x)])) rfl rfl (hb hby d5_11)
  refine oOn st4 ?_
  have z7 : h2.size ≤ h4.size := Nat.le_of_eq W4.size.symm
  have N4 := Fr.snoc X4 N2 (by omega)
  have f4 := Fld.same W4 f5
  show oGl p e below (T4.setTop (mkF m 14 #[.val (.ref x), .val (.ref d), .val (.int (0 : Int32))] [])) _
  have kp8 : Keep h0 h4 [x] := (((Keep.refl h0 [x]).wr W2 (Or.inl (List.mem_of_getElem? (i := 0) rfl))).wr W4 (Or.inl (List.mem_of_getElem? (i := 0) rfl)))
  have f9 := (f6.wr W4)
  have f10 := (f2.other W4 (Or.inr (slot_ne (Or.inr (hw _ (List.mem_of_getElem? (i := 31) rfl))) (Or.inr (hw _ (List.mem_of_getElem? (i := 33) rfl))) (by decide) (t := (.array .byte)) (t' := .byte) (by decide) (by decide))))
  refine oRet0 X4 hx Bd.notSynchronized Bd.returns (hb hby d5_14) (by decide) (by decide) ?_
  show Q_rmInB Z x d h0 n0 _ T4.heap _
  rw [e4]
  exact ⟨rfl, N4, kp8, f9, f10, f4⟩
theorem d2_0 : decode jdk_42_method_139_code 0 = .ok (.getstatic 38, 3) := by decide +kernel
theorem d2_3 : decode jdk_42_method_139_code 3 = .ok (.ifCond .eq 23, 3) := by decide +kernel
theorem d2_6 : decode jdk_42_method_139_code 6 = .ok (.iload_n 0, 1) := by decide +kernel
theorem d2_7 : decode jdk_42_method_139_code 7 = .ok (.invokestatic 1015, 3) := by decide +kernel
theorem pd_4 : parseMethodDescriptor "(C)Z" = some ⟨[.char], some .boolean⟩ := by decide +kernel
theorem d2_10 : decode jdk_42_method_139_code 10 = .ok (.ifCond .eq 16, 3) := by decide +kernel
theorem d2_13 : decode jdk_42_method_139_code 13 = .ok (.new 10, 3) := by decide +kernel
theorem d2_16 : decode jdk_42_method_139_code 16 = .ok (.dup, 1) := by decide +kernel
theorem d2_17 : decode jdk_42_method_139_code 17 = .ok (.iload_n 0, 1) := by decide +kernel
theorem d2_18 : decode jdk_42_method_139_code 18 = .ok (.invokestatic 1018, 3) := by decide +kernel
theorem pd_5 : parseMethodDescriptor "(C)[B" = some ⟨[.char], some (.array .byte)⟩ := by decide +kernel
theorem d2_21 : decode jdk_42_method_139_code 21 = .ok (.iconst 0, 1) := by decide +kernel
theorem d2_22 : decode jdk_42_method_139_code 22 = .ok (.invokespecial 209, 3) := by decide +kernel
theorem pd_6 : parseMethodDescriptor "([BB)V" = some ⟨[(.array .byte), .byte], none⟩ := by decide +kernel
theorem d2_25 : decode jdk_42_method_139_code 25 = .ok (.areturn, 1) := by decide +kernel
theorem ef_rmVal (m : MethodId) (x0 : Int32)  : entryFrame m #[(.int x0)] 1 = mkF m 0 #[.val (.int x0)] [] := by first | (simp [entryFrame, mkF, argsToLocals, Value.category, maxLocals]; done) | rfl
def Q_rmVal (Z : State) (z cz : Int32) (h0 : Heap) (n0 : Nat) (vv : Option Value) (h : Heap) (L : List Loc) : Prop := ∃ x b : Nat, vv = some (.ref x) ∧ Fr n0 L ∧ Keep h0 h [] ∧ Exa Z h x "java/lang/String" ∧ Fld Z h x "java/lang/String" "value" "[B" (.ref b) ∧ Fld Z h x "java/lang/String" "coder" "B" (.int 0) ∧ oAI Z h b .byte 1 (oLo (fun _ => z)) ∧ Exa Z h b "[B"
set_option maxRecDepth 65536 in
set_option maxHeartbeats 40000000 in
theorem rmVal (l : Launch) (Z : State) (a0 : Array Value) (hw : ∀ d ∈ tables_1, d.before a0 Z = true) (ws : List Jvm.Cond) (z cz : Int32) (h0 : Heap) (n0 : Nat) (Z0 : n0 ≤ h0.size) (O0 : Old Z n0 h0) (SCS : Sta Z Z.heap "java/lang/String" "COMPACT_STRINGS" "Z" (.int cz)) (hcz : ¬ cz = (0 : Int32)) (hz : ¬ ((255 : Int32) < z)) :
    MetFree l (⟨"java/lang/String", "valueOf", "(C)Ljava/lang/String;"⟩ : MethodName) (head1 (Jvm.Cond.code (⟨"java/lang/String", "valueOf", "(C)Ljava/lang/String;"⟩ : MethodName) jdk_42_method_139_code 1 (some (.object "java/lang/String")) :: ws) ({ frames := 2, cells := 2, slots := 5, locals := 27 } : Room)) (fun aA uU => aA = #[(.int z)] ∧ Z.Warmed39 uU.vm ∧ uU.heap = h0) (fun _ _ _ _ _ => True) (fun _ uU oO uU' => ∃ vV lL, oO = .returned vV ∧ Q_rmVal Z z cz h0 n0 vV uU'.heap lL ∧ FrameEnd uU oO uU' lL ({ frames := 2, cells := 2, slots := 5, locals := 27 } : Room).cells ({ frames := 2, cells := 2, slots := 5, locals := 27 } : Room).slots) := by
  refine MetFree.of_bodySF (plainFor_of_name pn_String) hisR ?_
  intro p e s m args below meth c s₁ Bd hml0 hP hK
  obtain ⟨rfl, hZ, hh⟩ := hP
  have hx := Bd.exec
  have hby := Bd.bytes
  have hml : c.maxLocals = 1 := hml0
  have hown : s.vm.findClass "java/lang/String" = some m.cls := findClass_of_methodNamed Bd.named
  have hnm := (name_of_methodNamed Bd.named Bd.method).1
  have X0 : Stand p l e ({ frames := 2, cells := 2, slots := 5, locals := 27 } : Room) s m #[(.int z)] below meth c s₁ [] 0 0 := Stand.of_body Bd
  have e0 : s₁.heap = h0 := by rw [← hh, Bd.state]; rfl
  have N0 := Fr.nil n0
  refine oEnter (oCast (ef_rmVal m z ) ?_)
  show oGl p e below (s₁.setTop (mkF m 0 #[.val (.int z)] [])) _
  obtain ⟨T1, X1, e1, st1⟩ := getS2 X0 hx hZ hown (host := "") (Or.inl (hw _ (List.mem_of_getElem? (i := 12) rfl))) Via.refl e0 (SCS.ext O0.2) (g := (mkF m 0 #[.val (.int z)] [])) rfl (hb hby d2_0)
  refine oOn st1 ?_
  show oGl p e below (T1.setTop (mkF m 3 #[.val (.int z)] [(.int cz)])) _
  refine sifN X1 hx (hb hby d2_3) rfl (feq (hcz : ¬ (cz = (0 : Int32)))).1 (pc' := 6) ?_
  refine siloadN X1 hx (hb hby d2_6) rfl rfl (pc' := 7) ?_
  have hz2 : n0 ≤ h0.size := by omega
  obtain ⟨_, _, ⟨T2, L2, k2, n2⟩, -, X2, ⟨Lc2, hQ2, l2, y2, z2⟩, st2⟩ := Jvm.LawKit.callS X1 hx (y := (⟨"java/lang/StringLatin1", "canEncode", "(C)Z"⟩ : MethodName)) hown (mvT hZ (hw _ (List.mem_of_getElem? (i := 13) rfl))) (mvT hZ (hw _ (List.mem_of_getElem? (i := 14) rfl))) (mvT hZ (hw _ (List.mem_of_getElem? (i := 15) rfl))) (mvT hZ (hw _ (List.mem_of_getElem? (i := 16) rfl))) (by decide) (backOf (W := 0) (rmEnc l Z a0 hw [] z h0 n0 hz2 hz) hZ (hw _ (List.mem_of_getElem? (i := 16) rfl)) (hw _ (List.mem_of_getElem? (i := 15) rfl)) (by decide) (by decide)) (g := (mkF m 7 #[.val (.int z)] [(.int z)])) rfl (by rw [hml]; rfl) (argsL := [(.int z)]) (rest := []) (lenOf pd_4 rfl) rfl (by show 2 * 0 + _ ≤ _; exact Nat.le_of_eq rfl) (hb hby d2_7) (fun _ _ => ⟨rfl, e1, (by decide : 0 + 0 ≤ _), (by decide : 0 + 0 ≤ _)⟩)
  dsimp only [Pt.U, Pt.locs, Pt.cells, Pt.slots] at X2 l2 y2 z2 st2 hQ2
  subst l2 y2 z2
  obtain ⟨rfl, N2q, eh2⟩ := hQ2
  have N2 := Fr.app N0 N2q
  refine oOn st2 ?_
  show oGl p e below (T2.setTop (mkF m 10 #[.val (.int z)] [(.int (1 : Int32))])) _
  refine sifN X2 hx (hb hby d2_10) rfl (feq ((by decide) : ¬ ((1 : Int32) = (0 : Int32)))).1 (pc' := 13) ?_
  obtain ⟨T3, h3, X3, e3, E3, A3, D3, -, st3⟩ := newO X2 hx hZ hown (hw _ (List.mem_of_getElem? (i := 17) rfl)) (hw _ (List.mem_of_getElem? (i := 18) rfl)) (hw _ (List.mem_of_getElem? (i := 10) rfl)) eh2 (g := (mkF m 13 #[.val (.int z)] [])) rfl (hb hby d2_13) (by decide) (by decide)
  obtain ⟨a3, g3⟩ : ∃ z, z = h0.size := ⟨_, rfl⟩
  rw [← g3] at A3 D3 st3
  refine oOn st3 ?_
  have z4 : h0.size ≤ h3.size := E3.1
  have lt3 : a3 < h3.size := A3.lt
  have f3_31 : Fld Z h3 a3 "java/lang/String" "value" "[B" .null := D3 (Or.inr (hw _ (List.mem_of_getElem? (i := 31) rfl))) (ty := (.array .byte)) (by decide)
  have f3_33 : Fld Z h3 a3 "java/lang/String" "coder" "B" (.int (0 : Int32)) := D3 (Or.inr (hw _ (List.mem_of_getElem? (i := 33) rfl))) (ty := .byte) (by decide)
  show oGl p e below (T3.setTop (mkF m 16 #[.val (.int z)] [(.ref a3)])) _
  refine sdup X3 hx (hb hby d2_16) rfl rfl (pc' := 17) ?_
  refine siloadN X3 hx (hb hby d2_17) rfl rfl (pc' := 18) ?_
  have hz5 : n0 ≤ h3.size := by omega
  obtain ⟨_, _, ⟨T5, L5, k5, n5⟩, -, X5, ⟨Lc5, hQ5, l5, y5, z5⟩, st5⟩ := Jvm.LawKit.callS X3 hx (y := (⟨"java/lang/StringLatin1", "toBytes", "(C)[B"⟩ : MethodName)) hown (mvT hZ (hw _ (List.mem_of_getElem? (i := 19) rfl))) (mvT hZ (hw _ (List.mem_of_getElem? (i := 20) rfl))) (mvT hZ (hw _ (List.mem_of_getElem? (i := 15) rfl))) (mvT hZ (hw _ (List.mem_of_getElem? (i := 21) rfl))) (by decide) (backOf (W := 2) (rmTob l Z a0 hw [] z h3 n0 hz5 ) hZ (hw _ (List.mem_of_getElem? (i := 21) rfl)) (hw _ (List.mem_of_getElem? (i := 15) rfl)) (by decide) (by decide)) (g := (mkF m 18 #[.val (.int z)] [(.int z), (.ref a3), (.ref a3)])) rfl (by rw [hml]; rfl) (argsL := [(.int z)]) (rest := [(.ref a3), (.ref a3)]) (lenOf pd_5 rfl) rfl (by show 2 * 0 + _ ≤ _; exact Nat.le_of_eq rfl) (hb hby d2_18) (fun _ _ => ⟨rfl, e3, (by decide : 1 + 1 ≤ _), (by decide : 4 + 1 ≤ _)⟩)
  dsimp only [Pt.U, Pt.locs, Pt.cells, Pt.slots] at X5 l5 y5 z5 st5 hQ5
  subst l5 y5 z5
  obtain ⟨d5, rfl, N5q, K5, Vd5, EA5⟩ := hQ5
  have N5 := Fr.app N2 N5q
  have z6 : h3.size ≤ T5.heap.size := K5.1
  refine oOn st5 ?_
  have ld5 : @LT.lt Nat _ d5 T5.heap.size := Vd5.lt
  show oGl p e below (T5.setTop (mkF m 21 #[.val (.int z)] [(.ref d5), (.ref a3), (.ref a3)])) _
  refine siconst X5 hx (hb hby d2_21) rfl rfl (z := 0) (pc' := 22) ?_
  have f7 := (A3.keep K5)
  have nxd : @Ne Nat a3 d5 := oNeO f7 (hw _ (List.mem_of_getElem? (i := 18) rfl)) Vd5
  have f8 := (f3_31.keep K5 nin0)
  have f9 := (f3_33.keep K5 nin0)
  have hz10 : n0 ≤ T5.heap.size := by omega
  obtain ⟨_, _, ⟨T10, L10, k10, n10⟩, -, X10, ⟨Lc10, hQ10, l10, y10, z10⟩, st10⟩ := X5.specialBack hx (y := (⟨"java/lang/String", "<init>", "([BB)V"⟩ : MethodName)) rfl hown (mvT hZ (hw _ (List.mem_of_getElem? (i := 23) rfl))) (mvT hZ (hw _ (List.mem_of_getElem? (i := 24) rfl))) (mvT hZ (hw _ (List.mem_of_getElem? (i := 26) rfl))) (by decide) (backOf (W := 1) (rmInB l Z a0 hw [] a3 d5 T5.heap n0 hz10 f7 f8 f9 (by omega)) hZ (hw _ (List.mem_of_getElem? (i := 26) rfl)) (hw _ (List.mem_of_getElem? (i := 10) rfl)) (by decide) (by decide)) (g := (mkF m 22 #[.val (.int z)] [(.int (0 : Int32)), (.ref d5), (.ref a3), (.ref a3)])) rfl (by rw [hml]; rfl) (Steps.refl _) (a := a3) (argsL := [(.ref d5), (.int (0 : Int32))]) (rest := [(.ref a3)]) (lenOf pd_6 rfl) rfl (by show 2 * 0 + _ ≤ _; exact Nat.le_of_eq rfl) (hb hby d2_22) (fun _ _ => ⟨rfl, rfl, (by decide : 2 + 0 ≤ _), (by decide : 5 + 0 ≤ _)⟩)
  dsimp only [Pt.U, Pt.locs, Pt.cells, Pt.slots] at X10 l10 y10 z10 st10 hQ10
  subst l10 y10 z10
  obtain ⟨rfl, N10q, K10, Ex10, Fv10, Fc10⟩ := hQ10
  have N10 := Fr.app N5 N10q
  have z11 : T5.heap.size ≤ T10.heap.size := K10.1
  refine oSt st10 ?_
  show oGl p e below (T10.setTop (mkF m 25 #[.val (.int z)] [(.ref a3)])) _
  have kp12 : Keep h0 T10.heap [] := ((((Keep.refl h0 []).ext E3).trans K5 all0).trans K10 (allS (Or.inr (by omega)) all0))
  have f13 := (Vd5.keep K10 (ninS (oNe (by omega)) nin0))
  have f14 := (EA5.keep K10)
  refine oRetR X10 hx Bd.notSynchronized Bd.returns rfl rfl (hb hby d2_25) (by decide) (by decide) ?_
  show Q_rmVal Z z cz h0 n0 _ T10.heap _
  exact ⟨a3, d5, rfl, N10, kp12, Ex10, Fv10, Fc10, f13, f14⟩
theorem oKeepN {h h' : Heap} {a : Nat} (K : Keep h h' [a]) (ge : h.size ≤ a) : Keep h h' [] :=
  ⟨K.1, fun x c hc _ => K.2.1 x c hc (fun hm => by
    have ly : @LT.lt Nat _ x h.size := (Array.getElem?_eq_some_iff.mp hc).1
    have e : x = a := by simpa using hm
    rw [e] at ly; omega), K.2.2⟩
theorem d16_0 : decode jdk_42_method_152_code 0 = .ok (.getstatic 38, 3) := by decide +kernel
theorem d16_3 : decode jdk_42_method_152_code 3 = .ok (.ifCond .eq 10, 3) := by decide +kernel
theorem d16_6 : decode jdk_42_method_152_code 6 = .ok (.aload_n 0, 1) := by decide +kernel
theorem d16_7 : decode jdk_42_method_152_code 7 = .ok (.getfield 15, 3) := by decide +kernel
theorem d16_10 : decode jdk_42_method_152_code 10 = .ok (.goto 4, 3) := by decide +kernel
theorem d16_14 : decode jdk_42_method_152_code 14 = .ok (.ireturn, 1) := by decide +kernel
theorem ef_rmCdr (m : MethodId) (x0 : Nat)  : entryFrame m #[(.ref x0)] 1 = mkF m 0 #[.val (.ref x0)] [] := by first | (simp [entryFrame, mkF, argsToLocals, Value.category, maxLocals]; done) | rfl
def Q_rmCdr (Z : State) (x : Nat) (cz : Int32) (h0 : Heap) (n0 : Nat) (vv : Option Value) (h : Heap) (L : List Loc) : Prop := vv = some (.int 0) ∧ Fr n0 L ∧ h = h0
set_option maxRecDepth 65536 in
set_option maxHeartbeats 40000000 in
theorem rmCdr (l : Launch) (Z : State) (a0 : Array Value) (hw : ∀ d ∈ tables_1, d.before a0 Z = true) (ws : List Jvm.Cond) (x : Nat) (cz : Int32) (h0 : Heap) (n0 : Nat) (Z0 : n0 ≤ h0.size) (O0 : Old Z n0 h0) (SCS : Sta Z Z.heap "java/lang/String" "COMPACT_STRINGS" "Z" (.int cz)) (hcz : ¬ cz = (0 : Int32)) (C1 : Fld Z h0 x "java/lang/String" "coder" "B" (.int 0)) :
    MetFree l (⟨"java/lang/String", "coder", "()B"⟩ : MethodName) (head1 (Jvm.Cond.code (⟨"java/lang/String", "coder", "()B"⟩ : MethodName) jdk_42_method_152_code 1 (some .byte) :: ws) ({ frames := 0, cells := 0, slots := 0, locals := 0 } : Room)) (fun aA uU => aA = #[(.ref x)] ∧ Z.Warmed39 uU.vm ∧ uU.heap = h0) (fun _ _ _ _ _ => True) (fun _ uU oO uU' => ∃ vV lL, oO = .returned vV ∧ Q_rmCdr Z x cz h0 n0 vV uU'.heap lL ∧ FrameEnd uU oO uU' lL ({ frames := 0, cells := 0, slots := 0, locals := 0 } : Room).cells ({ frames := 0, cells := 0, slots := 0, locals := 0 } : Room).slots) := by
  refine MetFree.of_bodySF (plainFor_of_name pn_String) hisR ?_
  intro p e s m args below meth c s₁ Bd hml0 hP hK
  obtain ⟨rfl, hZ, hh⟩ := hP
  have hx := Bd.exec
  have hby := Bd.bytes
  have hml : c.maxLocals = 1 := hml0
  have hown : s.vm.findClass "java/lang/String" = some m.cls := findClass_of_methodNamed Bd.named
  have hnm := (name_of_methodNamed Bd.named Bd.method).1
  have X0 : Stand p l e ({ frames := 0, cells := 0, slots := 0, locals := 0 } : Room) s m #[(.ref x)] below meth c s₁ [] 0 0 := Stand.of_body Bd
  have e0 : s₁.heap = h0 := by rw [← hh, Bd.state]; rfl
  have N0 := Fr.nil n0
  refine oEnter (oCast (ef_rmCdr m x ) ?_)
  show oGl p e below (s₁.setTop (mkF m 0 #[.val (.ref x)] [])) _
  obtain ⟨T1, X1, e1, st1⟩ := getS2 X0 hx hZ hown (host := "") (Or.inl (hw _ (List.mem_of_getElem? (i := 12) rfl))) Via.refl e0 (SCS.ext O0.2) (g := (mkF m 0 #[.val (.ref x)] [])) rfl (hb hby d16_0)
  refine oOn st1 ?_
  show oGl p e below (T1.setTop (mkF m 3 #[.val (.ref x)] [(.int cz)])) _
  refine sifN X1 hx (hb hby d16_3) rfl (feq (hcz : ¬ (cz = (0 : Int32)))).1 (pc' := 6) ?_
  refine saloadN X1 hx (hb hby d16_6) rfl rfl rfl (pc' := 7) ?_
  obtain ⟨T2, X2, e2, st2⟩ := getF X1 hx hZ hown (host := "") (Or.inl (hw _ (List.mem_of_getElem? (i := 32) rfl))) Via.refl e1 C1 (g := (mkF m 7 #[.val (.ref x)] [(.ref x)])) rfl rfl (hb hby d16_7)
  refine oOn st2 ?_
  show oGl p e below (T2.setTop (mkF m 10 #[.val (.ref x)] [(.int (0 : Int32))])) _
  refine sgoto X2 hx (hb hby d16_10) (by decide) (by decide)  (pc' := 14) ?_
  refine oRetN (t := .byte) X2 hx Bd.notSynchronized Bd.returns (by simp) (hb hby d16_14) (by decide) (by decide) ?_
  show Q_rmCdr Z x cz h0 n0 _ T2.heap _
  rw [e2]
  exact ⟨rfl, N0, rfl⟩
theorem d20_0 : decode jdk_123_method_3_code 0 = .ok (.iload_n 1, 1) := by decide +kernel
theorem d20_1 : decode jdk_123_method_3_code 1 = .ok (.iload_n 2, 1) := by decide +kernel
theorem d20_2 : decode jdk_123_method_3_code 2 = .ok (.iadd, 1) := by decide +kernel
theorem d20_3 : decode jdk_123_method_3_code 3 = .ok (.istore_n 3, 1) := by decide +kernel
theorem d20_4 : decode jdk_123_method_3_code 4 = .ok (.iload_n 1, 1) := by decide +kernel
theorem d20_5 : decode jdk_123_method_3_code 5 = .ok (.istore 4, 2) := by decide +kernel
theorem d20_7 : decode jdk_123_method_3_code 7 = .ok (.iload 4, 2) := by decide +kernel
theorem d20_9 : decode jdk_123_method_3_code 9 = .ok (.iload_n 3, 1) := by decide +kernel
theorem d20_10 : decode jdk_123_method_3_code 10 = .ok (.if_icmp .ge 21, 3) := by decide +kernel
theorem d20_13 : decode jdk_123_method_3_code 13 = .ok (.aload_n 0, 1) := by decide +kernel
theorem d20_14 : decode jdk_123_method_3_code 14 = .ok (.iload 4, 2) := by decide +kernel
theorem d20_16 : decode jdk_123_method_3_code 16 = .ok (.baload, 1) := by decide +kernel
theorem d20_17 : decode jdk_123_method_3_code 17 = .ok (.ifCond .ge 8, 3) := by decide +kernel
theorem d20_20 : decode jdk_123_method_3_code 20 = .ok (.iload 4, 2) := by decide +kernel
theorem d20_22 : decode jdk_123_method_3_code 22 = .ok (.iload_n 1, 1) := by decide +kernel
theorem d20_23 : decode jdk_123_method_3_code 23 = .ok (.isub, 1) := by decide +kernel
theorem d20_24 : decode jdk_123_method_3_code 24 = .ok (.ireturn, 1) := by decide +kernel
theorem d20_25 : decode jdk_123_method_3_code 25 = .ok (.iinc 4 1, 3) := by decide +kernel
theorem d20_28 : decode jdk_123_method_3_code 28 = .ok (.goto (-21), 3) := by decide +kernel
theorem d20_31 : decode jdk_123_method_3_code 31 = .ok (.iload_n 2, 1) := by decide +kernel
theorem d20_32 : decode jdk_123_method_3_code 32 = .ok (.ireturn, 1) := by decide +kernel
theorem pn_StringCoding : plainName "java/lang/StringCoding" = true := by first | (simp [plainName, overriddenIn]; done) | decide +kernel
theorem ef_rmCps1 (m : MethodId) (x0 : Nat) (x1 : Int32) (x2 : Int32)  : entryFrame m #[(.ref x0), (.int x1), (.int x2)] 5 = mkF m 0 #[.val (.ref x0), .val (.int x1), .val (.int x2), .unset, .unset] [] := by first | (simp [entryFrame, mkF, argsToLocals, Value.category, maxLocals]; done) | rfl
def Q_rmCps1 (Z : State) (b : Nat) (f : Nat → Int32) (h0 : Heap) (n0 : Nat) (vv : Option Value) (h : Heap) (L : List Loc) : Prop := ∃ r : Int32, vv = some (.int r) ∧ Fr n0 L ∧ h = h0 ∧ ((r = 1 ∧ ∀ j, j < 1 → ¬ f j < 0) ∨ (¬ r = 1 ∧ ∃ j, j < 1 ∧ f j < 0))
set_option maxRecDepth 65536 in
set_option maxHeartbeats 40000000 in
theorem rmCps1 (l : Launch) (Z : State) (a0 : Array Value) (hw : ∀ d ∈ tables_1, d.before a0 Z = true) (ws : List Jvm.Cond) (b : Nat) (f : Nat → Int32) (h0 : Heap) (n0 : Nat) (Z0 : n0 ≤ h0.size) (PB : oAI Z h0 b .byte 1 f) :
    MetFree l (⟨"java/lang/StringCoding", "countPositives", "([BII)I"⟩ : MethodName) (head1 (Jvm.Cond.code (⟨"java/lang/StringCoding", "countPositives", "([BII)I"⟩ : MethodName) jdk_123_method_3_code 5 (some .int) :: ws) ({ frames := 0, cells := 0, slots := 0, locals := 0 } : Room)) (fun aA uU => aA = #[(.ref b), (.int (0 : Int32)), (.int (1 : Int32))] ∧ Z.Warmed39 uU.vm ∧ uU.heap = h0) (fun _ _ _ _ _ => True) (fun _ uU oO uU' => ∃ vV lL, oO = .returned vV ∧ Q_rmCps1 Z b f h0 n0 vV uU'.heap lL ∧ FrameEnd uU oO uU' lL ({ frames := 0, cells := 0, slots := 0, locals := 0 } : Room).cells ({ frames := 0, cells := 0, slots := 0, locals := 0 } : Room).slots) := by
  refine MetFree.of_bodySF (plainFor_of_name pn_StringCoding) hisR ?_
  intro p e s m args below meth c s₁ Bd hml0 hP hK
  obtain ⟨rfl, hZ, hh⟩ := hP
  have hx := Bd.exec
  have hby := Bd.bytes
  have hml : c.maxLocals = 5 := hml0
  have hown : s.vm.findClass "java/lang/StringCoding" = some m.cls := findClass_of_methodNamed Bd.named
  have hnm := (name_of_methodNamed Bd.named Bd.method).1
  have X0 : Stand p l e ({ frames := 0, cells := 0, slots := 0, locals := 0 } : Room) s m #[(.ref b), (.int (0 : Int32)), (.int (1 : Int32))] below meth c s₁ [] 0 0 := Stand.of_body Bd
  have e0 : s₁.heap = h0 := by rw [← hh, Bd.state]; rfl
  have N0 := Fr.nil n0
  refine oEnter (oCast (ef_rmCps1 m b (0 : Int32) (1 : Int32) ) ?_)
  show oGl p e below (s₁.setTop (mkF m 0 #[.val (.ref b), .val (.int (0 : Int32)), .val (.int (1 : Int32)), .unset, .unset] [])) _
  refine siloadN X0 hx (hb hby d20_0) rfl rfl (pc' := 1) ?_
  refine siloadN X0 hx (hb hby d20_1) rfl rfl (pc' := 2) ?_
  refine siadd X0 hx (hb hby d20_2) rfl (by decide) (z := (1 : Int32)) (pc' := 3) ?_
  refine sistoreN X0 hx (hb hby d20_3) rfl rfl (l' := #[.val (.ref b), .val (.int (0 : Int32)), .val (.int (1 : Int32)), .val (.int (1 : Int32)), .unset]) (pc' := 4) ?_
  refine siloadN X0 hx (hb hby d20_4) rfl rfl (pc' := 5) ?_
  refine sistore X0 hx (hb hby d20_5) rfl rfl (l' := #[.val (.ref b), .val (.int (0 : Int32)), .val (.int (1 : Int32)), .val (.int (1 : Int32)), .val (.int (0 : Int32))]) (pc' := 7) ?_
  refine siload X0 hx (hb hby d20_7) rfl rfl (pc' := 9) ?_
  refine siloadN X0 hx (hb hby d20_9) rfl rfl (pc' := 10) ?_
  refine sicN X0 hx (hb hby d20_10) rfl (tlt (by decide : (0 : Int32) < (1 : Int32))).2.1 (pc' := 13) ?_
  refine saloadN X0 hx (hb hby d20_13) rfl rfl rfl (pc' := 14) ?_
  refine siload X0 hx (hb hby d20_14) rfl rfl (pc' := 16) ?_
  refine oOn (PB.ldB X0 hx hZ e0 (j := (0 : Int32)) (by decide) (g := (mkF m 16 #[.val (.ref b), .val (.int (0 : Int32)), .val (.int (1 : Int32)), .val (.int (1 : Int32)), .val (.int (0 : Int32))] [(.int (0 : Int32)), (.ref b)])) rfl rfl (hb hby d20_16)) ?_
  show oGl p e below (s₁.setTop (mkF m 17 #[.val (.ref b), .val (.int (0 : Int32)), .val (.int (1 : Int32)), .val (.int (1 : Int32)), .val (.int (0 : Int32))] [(.int (f 0))])) _
  by_cases hc17 : (f 0) < (0 : Int32)
  · skip
    refine sifN X0 hx (hb hby d20_17) rfl (tlt hc17).2.1 (pc' := 20) ?_
    refine siload X0 hx (hb hby d20_20) rfl rfl (pc' := 22) ?_
    refine siloadN X0 hx (hb hby d20_22) rfl rfl (pc' := 23) ?_
    refine sisub X0 hx (hb hby d20_23) rfl (by decide) (z := (0 : Int32)) (pc' := 24) ?_
    refine oRetI X0 hx Bd.notSynchronized Bd.returns (hb hby d20_24) (by decide) (by decide) ?_
    show Q_rmCps1 Z b f h0 n0 _ s₁.heap _
    rw [e0]
    exact ⟨0, rfl, N0, rfl, Or.inr ⟨by decide, 0, by decide, hc17⟩⟩
  · skip
    refine sifY X0 hx (hb hby d20_17) (by decide) (by decide) (flt hc17).2.1 (pc' := 25) ?_
    refine siinc X0 hx (hb hby d20_25) rfl rfl rfl (l' := #[.val (.ref b), .val (.int (0 : Int32)), .val (.int (1 : Int32)), .val (.int (1 : Int32)), .val (.int (1 : Int32))]) (pc' := 28) ?_
    refine sgoto X0 hx (hb hby d20_28) (by decide) (by decide)  (pc' := 7) ?_
    refine siload X0 hx (hb hby d20_7) rfl rfl (pc' := 9) ?_
    refine siloadN X0 hx (hb hby d20_9) rfl rfl (pc' := 10) ?_
    refine sicY X0 hx (hb hby d20_10) (by decide) (by decide) (flt (by decide : ¬ ((1 : Int32) < (1 : Int32)))).2.1 (pc' := 31) ?_
    refine siloadN X0 hx (hb hby d20_31) rfl rfl (pc' := 32) ?_
    refine oRetI X0 hx Bd.notSynchronized Bd.returns (hb hby d20_32) (by decide) (by decide) ?_
    show Q_rmCps1 Z b f h0 n0 _ s₁.heap _
    rw [e0]
    exact ⟨1, rfl, N0, rfl, Or.inl ⟨rfl, fun j hj => by
      rcases (by omega : j = 0) with rfl
      · exact hc17⟩⟩
theorem d19_0 : decode jdk_123_method_2_code 0 = .ok (.aload_n 0, 1) := by decide +kernel
theorem d19_1 : decode jdk_123_method_2_code 1 = .ok (.iload_n 1, 1) := by decide +kernel
theorem d19_2 : decode jdk_123_method_2_code 2 = .ok (.iload_n 2, 1) := by decide +kernel
theorem d19_3 : decode jdk_123_method_2_code 3 = .ok (.invokestatic 7, 3) := by decide +kernel
theorem pd_7 : parseMethodDescriptor "([BII)I" = some ⟨[(.array .byte), .int, .int], some .int⟩ := by decide +kernel
theorem d19_6 : decode jdk_123_method_2_code 6 = .ok (.iload_n 2, 1) := by decide +kernel
theorem d19_7 : decode jdk_123_method_2_code 7 = .ok (.if_icmp .eq 7, 3) := by decide +kernel
theorem d19_14 : decode jdk_123_method_2_code 14 = .ok (.iconst 0, 1) := by decide +kernel
theorem d19_15 : decode jdk_123_method_2_code 15 = .ok (.ireturn, 1) := by decide +kernel
theorem d19_10 : decode jdk_123_method_2_code 10 = .ok (.iconst 1, 1) := by decide +kernel
theorem d19_11 : decode jdk_123_method_2_code 11 = .ok (.goto 4, 3) := by decide +kernel
theorem ef_rmHng1 (m : MethodId) (x0 : Nat) (x1 : Int32) (x2 : Int32)  : entryFrame m #[(.ref x0), (.int x1), (.int x2)] 3 = mkF m 0 #[.val (.ref x0), .val (.int x1), .val (.int x2)] [] := by first | (simp [entryFrame, mkF, argsToLocals, Value.category, maxLocals]; done) | rfl
def Q_rmHng1 (Z : State) (b : Nat) (f : Nat → Int32) (h0 : Heap) (n0 : Nat) (vv : Option Value) (h : Heap) (L : List Loc) : Prop := ∃ r : Int32, vv = some (.int r) ∧ Fr n0 L ∧ h = h0 ∧ ((r = 0 ∧ ∀ j, j < 1 → ¬ f j < 0) ∨ (r = 1 ∧ ∃ j, j < 1 ∧ f j < 0))
set_option maxRecDepth 65536 in
set_option maxHeartbeats 40000000 in
theorem rmHng1 (l : Launch) (Z : State) (a0 : Array Value) (hw : ∀ d ∈ tables_1, d.before a0 Z = true) (ws : List Jvm.Cond) (b : Nat) (f : Nat → Int32) (h0 : Heap) (n0 : Nat) (Z0 : n0 ≤ h0.size) (PB : oAI Z h0 b .byte 1 f) :
    MetFree l (⟨"java/lang/StringCoding", "hasNegatives", "([BII)Z"⟩ : MethodName) (head1 (Jvm.Cond.code (⟨"java/lang/StringCoding", "hasNegatives", "([BII)Z"⟩ : MethodName) jdk_123_method_2_code 3 (some .boolean) :: ws) ({ frames := 1, cells := 0, slots := 0, locals := 16 } : Room)) (fun aA uU => aA = #[(.ref b), (.int (0 : Int32)), (.int (1 : Int32))] ∧ Z.Warmed39 uU.vm ∧ uU.heap = h0) (fun _ _ _ _ _ => True) (fun _ uU oO uU' => ∃ vV lL, oO = .returned vV ∧ Q_rmHng1 Z b f h0 n0 vV uU'.heap lL ∧ FrameEnd uU oO uU' lL ({ frames := 1, cells := 0, slots := 0, locals := 16 } : Room).cells ({ frames := 1, cells := 0, slots := 0, locals := 16 } : Room).slots) := by
  refine MetFree.of_bodySF (plainFor_of_name pn_StringCoding) hisR ?_
  intro p e s m args below meth c s₁ Bd hml0 hP hK
  obtain ⟨rfl, hZ, hh⟩ := hP
  have hx := Bd.exec
  have hby := Bd.bytes
  have hml : c.maxLocals = 3 := hml0
  have hown : s.vm.findClass "java/lang/StringCoding" = some m.cls := findClass_of_methodNamed Bd.named
  have hnm := (name_of_methodNamed Bd.named Bd.method).1
  have X0 : Stand p l e ({ frames := 1, cells := 0, slots := 0, locals := 16 } : Room) s m #[(.ref b), (.int (0 : Int32)), (.int (1 : Int32))] below meth c s₁ [] 0 0 := Stand.of_body Bd
  have e0 : s₁.heap = h0 := by rw [← hh, Bd.state]; rfl
  have N0 := Fr.nil n0
  refine oEnter (oCast (ef_rmHng1 m b (0 : Int32) (1 : Int32) ) ?_)
  show oGl p e below (s₁.setTop (mkF m 0 #[.val (.ref b), .val (.int (0 : Int32)), .val (.int (1 : Int32))] [])) _
  refine saloadN X0 hx (hb hby d19_0) rfl rfl rfl (pc' := 1) ?_
  refine siloadN X0 hx (hb hby d19_1) rfl rfl (pc' := 2) ?_
  refine siloadN X0 hx (hb hby d19_2) rfl rfl (pc' := 3) ?_
  have hz1 : n0 ≤ h0.size := by omega
  obtain ⟨_, _, ⟨T1, L1, k1, n1⟩, -, X1, ⟨Lc1, hQ1, l1, y1, z1⟩, st1⟩ := Jvm.LawKit.callS X0 hx (y := (⟨"java/lang/StringCoding", "countPositives", "([BII)I"⟩ : MethodName)) hown (mvT hZ (hw _ (List.mem_of_getElem? (i := 112) rfl))) (mvT hZ (hw _ (List.mem_of_getElem? (i := 113) rfl))) (mvT hZ (hw _ (List.mem_of_getElem? (i := 110) rfl))) (mvT hZ (hw _ (List.mem_of_getElem? (i := 114) rfl))) (by decide) (backOf (W := 0) (rmCps1 l Z a0 hw [] b f h0 n0 hz1 PB) hZ (hw _ (List.mem_of_getElem? (i := 114) rfl)) (hw _ (List.mem_of_getElem? (i := 110) rfl)) (by decide) (by decide)) (g := (mkF m 3 #[.val (.ref b), .val (.int (0 : Int32)), .val (.int (1 : Int32))] [(.int (1 : Int32)), (.int (0 : Int32)), (.ref b)])) rfl (by rw [hml]; rfl) (argsL := [(.ref b), (.int (0 : Int32)), (.int (1 : Int32))]) (rest := []) (lenOf pd_7 rfl) rfl (by show 2 * 0 + _ ≤ _; exact Nat.le_of_eq rfl) (hb hby d19_3) (fun _ _ => ⟨rfl, e0, (by decide : 0 + 0 ≤ _), (by decide : 0 + 0 ≤ _)⟩)
  dsimp only [Pt.U, Pt.locs, Pt.cells, Pt.slots] at X1 l1 y1 z1 st1 hQ1
  subst l1 y1 z1
  obtain ⟨r1, rfl, N1q, eh1, pq1⟩ := hQ1
  have N1 := Fr.app N0 N1q
  refine oOn st1 ?_
  show oGl p e below (T1.setTop (mkF m 6 #[.val (.ref b), .val (.int (0 : Int32)), .val (.int (1 : Int32))] [(.int r1)])) _
  refine siloadN X1 hx (hb hby d19_6) rfl rfl (pc' := 7) ?_
  by_cases hc7 : r1 = (1 : Int32)
  · skip
    refine sicY X1 hx (hb hby d19_7) (by decide) (by decide) (teq hc7).1 (pc' := 14) ?_
    refine siconst X1 hx (hb hby d19_14) rfl rfl (z := 0) (pc' := 15) ?_
    refine oRetN (t := .boolean) X1 hx Bd.notSynchronized Bd.returns (by simp) (hb hby d19_15) (by decide) (by decide) ?_
    show Q_rmHng1 Z b f h0 n0 _ T1.heap _
    rw [eh1]
    exact ⟨0, rfl, N1, rfl, Or.inl ⟨rfl, (pq1.resolve_right (fun q => q.1 hc7)).2⟩⟩
  · skip
    refine sicN X1 hx (hb hby d19_7) rfl (feq hc7).1 (pc' := 10) ?_
    refine siconst X1 hx (hb hby d19_10) rfl rfl (z := 1) (pc' := 11) ?_
    refine sgoto X1 hx (hb hby d19_11) (by decide) (by decide)  (pc' := 15) ?_
    refine oRetN (t := .boolean) X1 hx Bd.notSynchronized Bd.returns (by simp) (hb hby d19_15) (by decide) (by decide) ?_
    show Q_rmHng1 Z b f h0 n0 _ T1.heap _
    rw [eh1]
    exact ⟨1, rfl, N1, rfl, Or.inr ⟨rfl, (pq1.resolve_left (fun q => hc7 q.1)).2⟩⟩
theorem d30_0 : decode jdk_52_method_3_code 0 = .ok (.iload_n 0, 1) := by decide +kernel
theorem d30_1 : decode jdk_52_method_3_code 1 = .ok (.ifCond .ge 11, 3) := by decide +kernel
theorem d30_12 : decode jdk_52_method_3_code 12 = .ok (.iload_n 0, 1) := by decide +kernel
theorem d30_13 : decode jdk_52_method_3_code 13 = .ok (.ldc 20, 2) := by decide +kernel
theorem d30_15 : decode jdk_52_method_3_code 15 = .ok (.if_icmp .lt 40, 3) := by decide +kernel
theorem d30_55 : decode jdk_52_method_3_code 55 = .ok (.iload_n 0, 1) := by decide +kernel
theorem d30_56 : decode jdk_52_method_3_code 56 = .ok (.iconst 1, 1) := by decide +kernel
theorem d30_57 : decode jdk_52_method_3_code 57 = .ok (.ishl, 1) := by decide +kernel
theorem d30_58 : decode jdk_52_method_3_code 58 = .ok (.ireturn, 1) := by decide +kernel
theorem ef_rmNbl1 (m : MethodId) (x0 : Int32)  : entryFrame m #[(.int x0)] 1 = mkF m 0 #[.val (.int x0)] [] := by first | (simp [entryFrame, mkF, argsToLocals, Value.category, maxLocals]; done) | rfl
def Q_rmNbl1 (Z : State)  (h0 : Heap) (n0 : Nat) (vv : Option Value) (h : Heap) (L : List Loc) : Prop := vv = some (.int 2) ∧ Fr n0 L ∧ h = h0
set_option maxRecDepth 65536 in
set_option maxHeartbeats 40000000 in
theorem rmNbl1 (l : Launch) (Z : State) (a0 : Array Value) (hw : ∀ d ∈ tables_1, d.before a0 Z = true) (ws : List Jvm.Cond)  (h0 : Heap) (n0 : Nat) (Z0 : n0 ≤ h0.size)  :
    MetFree l (⟨"java/lang/StringUTF16", "newBytesLength", "(I)I"⟩ : MethodName) (head1 (Jvm.Cond.code (⟨"java/lang/StringUTF16", "newBytesLength", "(I)I"⟩ : MethodName) jdk_52_method_3_code 1 (some .int) :: ws) ({ frames := 0, cells := 0, slots := 0, locals := 0 } : Room)) (fun aA uU => aA = #[(.int (1 : Int32))] ∧ Z.Warmed39 uU.vm ∧ uU.heap = h0) (fun _ _ _ _ _ => True) (fun _ uU oO uU' => ∃ vV lL, oO = .returned vV ∧ Q_rmNbl1 Z  h0 n0 vV uU'.heap lL ∧ FrameEnd uU oO uU' lL ({ frames := 0, cells := 0, slots := 0, locals := 0 } : Room).cells ({ frames := 0, cells := 0, slots := 0, locals := 0 } : Room).slots) := by
  refine MetFree.of_bodySF (plainFor_of_name pn_StringUTF16) hisR ?_
  intro p e s m args below meth c s₁ Bd hml0 hP hK
  obtain ⟨rfl, hZ, hh⟩ := hP
  have hx := Bd.exec
  have hby := Bd.bytes
  have hml : c.maxLocals = 1 := hml0
  have hown : s.vm.findClass "java/lang/StringUTF16" = some m.cls := findClass_of_methodNamed Bd.named
  have hnm := (name_of_methodNamed Bd.named Bd.method).1
  have X0 : Stand p l e ({ frames := 0, cells := 0, slots := 0, locals := 0 } : Room) s m #[(.int (1 : Int32))] below meth c s₁ [] 0 0 := Stand.of_body Bd
  have e0 : s₁.heap = h0 := by rw [← hh, Bd.state]; rfl
  have N0 := Fr.nil n0
  refine oEnter (oCast (ef_rmNbl1 m (1 : Int32) ) ?_)
  show oGl p e below (s₁.setTop (mkF m 0 #[.val (.int (1 : Int32))] [])) _
  refine siloadN X0 hx (hb hby d30_0) rfl rfl (pc' := 1) ?_
  refine sifY X0 hx (hb hby d30_1) (by decide) (by decide) (flt (by decide : ¬ ((1 : Int32) < (0 : Int32)))).2.1 (pc' := 12) ?_
  refine siloadN X0 hx (hb hby d30_12) rfl rfl (pc' := 13) ?_
  refine oOn (X0.ldcInt hx hown (mvT hZ (hw _ (List.mem_of_getElem? (i := 191) rfl))) (g := (mkF m 13 #[.val (.int (1 : Int32))] [(.int (1 : Int32))])) rfl (hb hby d30_13)) ?_
  show oGl p e below (s₁.setTop (mkF m 15 #[.val (.int (1 : Int32))] [(.int (1073741823 : Int32)), (.int (1 : Int32))])) _
  refine sicY X0 hx (hb hby d30_15) (by decide) (by decide) (tlt (by decide : (1 : Int32) < (1073741823 : Int32))).1 (pc' := 55) ?_
  refine siloadN X0 hx (hb hby d30_55) rfl rfl (pc' := 56) ?_
  refine siconst X0 hx (hb hby d30_56) rfl rfl (z := 1) (pc' := 57) ?_
  refine sishl X0 hx (hb hby d30_57) rfl (by decide) (z := (2 : Int32)) (pc' := 58) ?_
  refine oRetI X0 hx Bd.notSynchronized Bd.returns (hb hby d30_58) (by decide) (by decide) ?_
  show Q_rmNbl1 Z  h0 n0 _ s₁.heap _
  rw [e0]
  exact ⟨rfl, N0, rfl⟩
theorem d29_0 : decode jdk_52_method_2_code 0 = .ok (.iload_n 0, 1) := by decide +kernel
theorem d29_1 : decode jdk_52_method_2_code 1 = .ok (.invokestatic 11, 3) := by decide +kernel
theorem pd_8 : parseMethodDescriptor "(I)I" = some ⟨[.int], some .int⟩ := by decide +kernel
theorem d29_4 : decode jdk_52_method_2_code 4 = .ok (.newarray .byte, 2) := by decide +kernel
theorem d29_6 : decode jdk_52_method_2_code 6 = .ok (.areturn, 1) := by decide +kernel
theorem ef_rmNbf1 (m : MethodId) (x0 : Int32)  : entryFrame m #[(.int x0)] 1 = mkF m 0 #[.val (.int x0)] [] := by first | (simp [entryFrame, mkF, argsToLocals, Value.category, maxLocals]; done) | rfl
def Q_rmNbf1 (Z : State)  (h0 : Heap) (n0 : Nat) (vv : Option Value) (h : Heap) (L : List Loc) : Prop := ∃ d : Nat, vv = some (.ref d) ∧ Fr n0 L ∧ Keep h0 h [] ∧ h0.size ≤ d ∧ oAI Z h d .byte 2 (fun _ => 0)
set_option maxRecDepth 65536 in
set_option maxHeartbeats 40000000 in
theorem rmNbf1 (l : Launch) (Z : State) (a0 : Array Value) (hw : ∀ d ∈ tables_1, d.before a0 Z = true) (ws : List Jvm.Cond)  (h0 : Heap) (n0 : Nat) (Z0 : n0 ≤ h0.size)  :
    MetFree l (⟨"java/lang/StringUTF16", "newBytesFor", "(I)[B"⟩ : MethodName) (head1 (Jvm.Cond.code (⟨"java/lang/StringUTF16", "newBytesFor", "(I)[B"⟩ : MethodName) jdk_52_method_2_code 1 (some (.array .byte)) :: ws) ({ frames := 1, cells := 1, slots := 2, locals := 12 } : Room)) (fun aA uU => aA = #[(.int (1 : Int32))] ∧ Z.Warmed39 uU.vm ∧ uU.heap = h0) (fun _ _ _ _ _ => True) (fun _ uU oO uU' => ∃ vV lL, oO = .returned vV ∧ Q_rmNbf1 Z  h0 n0 vV uU'.heap lL ∧ FrameEnd uU oO uU' lL ({ frames := 1, cells := 1, slots := 2, locals := 12 } : Room).cells ({ frames := 1, cells := 1, slots := 2, locals := 12 } : Room).slots) := by
  refine MetFree.of_bodySF (plainFor_of_name pn_StringUTF16) hisR ?_
  intro p e s m args below meth c s₁ Bd hml0 hP hK
  obtain ⟨rfl, hZ, hh⟩ := hP
  have hx := Bd.exec
  have hby := Bd.bytes
  have hml : c.maxLocals = 1 := hml0
  have hown : s.vm.findClass "java/lang/StringUTF16" = some m.cls := findClass_of_methodNamed Bd.named
  have hnm := (name_of_methodNamed Bd.named Bd.method).1
  have X0 : Stand p l e ({ frames := 1, cells := 1, slots := 2, locals := 12 } : Room) s m #[(.int (1 : Int32))] below meth c s₁ [] 0 0 := Stand.of_body Bd
  have e0 : s₁.heap = h0 := by rw [← hh, Bd.state]; rfl
  have N0 := Fr.nil n0
  refine oEnter (oCast (ef_rmNbf1 m (1 : Int32) ) ?_)
  show oGl p e below (s₁.setTop (mkF m 0 #[.val (.int (1 : Int32))] [])) _
  refine siloadN X0 hx (hb hby d29_0) rfl rfl (pc' := 1) ?_
  have hz1 : n0 ≤ h0.size := by omega
  obtain ⟨_, _, ⟨T1, L1, k1, n1⟩, -, X1, ⟨Lc1, hQ1, l1, y1, z1⟩, st1⟩ := Jvm.LawKit.callS X0 hx (y := (⟨"java/lang/StringUTF16", "newBytesLength", "(I)I"⟩ : MethodName)) hown (mvT hZ (hw _ (List.mem_of_getElem? (i := 188) rfl))) (mvT hZ (hw _ (List.mem_of_getElem? (i := 189) rfl))) (mvT hZ (hw _ (List.mem_of_getElem? (i := 43) rfl))) (mvT hZ (hw _ (List.mem_of_getElem? (i := 190) rfl))) (by decide) (backOf (W := 0) (rmNbl1 l Z a0 hw []  h0 n0 hz1 ) hZ (hw _ (List.mem_of_getElem? (i := 190) rfl)) (hw _ (List.mem_of_getElem? (i := 43) rfl)) (by decide) (by decide)) (g := (mkF m 1 #[.val (.int (1 : Int32))] [(.int (1 : Int32))])) rfl (by rw [hml]; rfl) (argsL := [(.int (1 : Int32))]) (rest := []) (lenOf pd_8 rfl) rfl (by show 2 * 0 + _ ≤ _; exact Nat.le_of_eq rfl) (hb hby d29_1) (fun _ _ => ⟨rfl, e0, (by decide : 0 + 0 ≤ _), (by decide : 0 + 0 ≤ _)⟩)
  dsimp only [Pt.U, Pt.locs, Pt.cells, Pt.slots] at X1 l1 y1 z1 st1 hQ1
  subst l1 y1 z1
  obtain ⟨rfl, N1q, eh1⟩ := hQ1
  have N1 := Fr.app N0 N1q
  refine oOn st1 ?_
  show oGl p e below (T1.setTop (mkF m 4 #[.val (.int (1 : Int32))] [(.int (2 : Int32))])) _
  obtain ⟨T2, h2, k2, X2, e2, E2, A2, EA2, st2⟩ := newPE X1 hx hZ (hw _ (List.mem_of_getElem? (i := 22) rfl)) eh1 (g := (mkF m 4 #[.val (.int (1 : Int32))] [(.int (2 : Int32))])) rfl (hb hby d29_4) rfl (by decide) (cap := 2) (by decide) (by decide) (by decide) (by decide) (ad := "[B") rfl
  obtain ⟨a2, g2⟩ : ∃ z, z = h0.size := ⟨_, rfl⟩
  rw [← g2] at A2 EA2 st2
  refine oOn st2 ?_
  have z3 : h0.size ≤ h2.size := E2.1
  have lt2 : a2 < h2.size := A2.lt
  have V2 : oAI Z h2 a2 .byte 2 (fun _ => 0) := oAI.new A2 rfl
  show oGl p e below (T2.setTop (mkF m 6 #[.val (.int (1 : Int32))] [(.ref a2)])) _
  have kp4 : Keep h0 h2 [] := ((Keep.refl h0 []).ext E2)
  refine oRetR X2 hx Bd.notSynchronized Bd.returns rfl rfl (hb hby d29_6) (by decide) (by decide) ?_
  show Q_rmNbf1 Z  h0 n0 _ T2.heap _
  rw [e2]
  exact ⟨a2, rfl, N1, kp4, by omega, V2⟩
theorem d18_0 : decode jdk_42_method_46_code 0 = .ok (.iload_n 0, 1) := by decide +kernel
theorem d18_1 : decode jdk_42_method_46_code 1 = .ok (.iconst 1, 1) := by decide +kernel
theorem d18_2 : decode jdk_42_method_46_code 2 = .ok (.if_icmp .ne 9, 3) := by decide +kernel
theorem d18_11 : decode jdk_42_method_46_code 11 = .ok (.aload_n 1, 1) := by decide +kernel
theorem d18_12 : decode jdk_42_method_46_code 12 = .ok (.iconst 0, 1) := by decide +kernel
theorem d18_13 : decode jdk_42_method_46_code 13 = .ok (.aload_n 1, 1) := by decide +kernel
theorem d18_14 : decode jdk_42_method_46_code 14 = .ok (.arraylength, 1) := by decide +kernel
theorem d18_15 : decode jdk_42_method_46_code 15 = .ok (.invokestatic 128, 3) := by decide +kernel
theorem pd_9 : parseMethodDescriptor "([BII)Z" = some ⟨[(.array .byte), .int, .int], some .boolean⟩ := by decide +kernel
theorem d18_18 : decode jdk_42_method_46_code 18 = .ok (.ifCond .ne 11, 3) := by decide +kernel
theorem d18_21 : decode jdk_42_method_46_code 21 = .ok (.aload_n 1, 1) := by decide +kernel
theorem d18_22 : decode jdk_42_method_46_code 22 = .ok (.invokevirtual 279, 3) := by decide +kernel
theorem d18_25 : decode jdk_42_method_46_code 25 = .ok (.checkcast 280, 3) := by decide +kernel
theorem d18_28 : decode jdk_42_method_46_code 28 = .ok (.areturn, 1) := by decide +kernel
theorem d18_29 : decode jdk_42_method_46_code 29 = .ok (.iconst 0, 1) := by decide +kernel
theorem d18_30 : decode jdk_42_method_46_code 30 = .ok (.istore_n 3, 1) := by decide +kernel
theorem d18_31 : decode jdk_42_method_46_code 31 = .ok (.aload_n 1, 1) := by decide +kernel
theorem d18_32 : decode jdk_42_method_46_code 32 = .ok (.arraylength, 1) := by decide +kernel
theorem d18_33 : decode jdk_42_method_46_code 33 = .ok (.invokestatic 60, 3) := by decide +kernel
theorem pd_10 : parseMethodDescriptor "(I)[B" = some ⟨[.int], some (.array .byte)⟩ := by decide +kernel
theorem d18_36 : decode jdk_42_method_46_code 36 = .ok (.astore 4, 2) := by decide +kernel
theorem d18_38 : decode jdk_42_method_46_code 38 = .ok (.aload_n 1, 1) := by decide +kernel
theorem d18_39 : decode jdk_42_method_46_code 39 = .ok (.astore 5, 2) := by decide +kernel
theorem d18_41 : decode jdk_42_method_46_code 41 = .ok (.aload 5, 2) := by decide +kernel
theorem d18_43 : decode jdk_42_method_46_code 43 = .ok (.arraylength, 1) := by decide +kernel
theorem d18_44 : decode jdk_42_method_46_code 44 = .ok (.istore 6, 2) := by decide +kernel
theorem d18_46 : decode jdk_42_method_46_code 46 = .ok (.iconst 0, 1) := by decide +kernel
theorem d18_47 : decode jdk_42_method_46_code 47 = .ok (.istore 7, 2) := by decide +kernel
theorem d18_49 : decode jdk_42_method_46_code 49 = .ok (.iload 7, 2) := by decide +kernel
theorem d18_51 : decode jdk_42_method_46_code 51 = .ok (.iload 6, 2) := by decide +kernel
theorem d18_53 : decode jdk_42_method_46_code 53 = .ok (.if_icmp .ge 71, 3) := by decide +kernel
theorem d18_56 : decode jdk_42_method_46_code 56 = .ok (.aload 5, 2) := by decide +kernel
theorem d18_58 : decode jdk_42_method_46_code 58 = .ok (.iload 7, 2) := by decide +kernel
theorem d18_60 : decode jdk_42_method_46_code 60 = .ok (.baload, 1) := by decide +kernel
theorem d18_61 : decode jdk_42_method_46_code 61 = .ok (.istore 8, 2) := by decide +kernel
theorem d18_63 : decode jdk_42_method_46_code 63 = .ok (.iload 8, 2) := by decide +kernel
theorem d18_65 : decode jdk_42_method_46_code 65 = .ok (.ifCond .ge 44, 3) := by decide +kernel
theorem d18_68 : decode jdk_42_method_46_code 68 = .ok (.aload 4, 2) := by decide +kernel
theorem d18_70 : decode jdk_42_method_46_code 70 = .ok (.iload_n 3, 1) := by decide +kernel
theorem d18_71 : decode jdk_42_method_46_code 71 = .ok (.iinc 3 1, 3) := by decide +kernel
theorem d18_74 : decode jdk_42_method_46_code 74 = .ok (.sipush 192, 3) := by decide +kernel
theorem d18_77 : decode jdk_42_method_46_code 77 = .ok (.iload 8, 2) := by decide +kernel
theorem d18_79 : decode jdk_42_method_46_code 79 = .ok (.sipush 255, 3) := by decide +kernel
theorem d18_82 : decode jdk_42_method_46_code 82 = .ok (.iand, 1) := by decide +kernel
theorem d18_83 : decode jdk_42_method_46_code 83 = .ok (.bipush 6, 2) := by decide +kernel
theorem d18_85 : decode jdk_42_method_46_code 85 = .ok (.ishr, 1) := by decide +kernel
theorem d18_86 : decode jdk_42_method_46_code 86 = .ok (.ior, 1) := by decide +kernel
theorem d18_87 : decode jdk_42_method_46_code 87 = .ok (.i2b, 1) := by decide +kernel
theorem d18_88 : decode jdk_42_method_46_code 88 = .ok (.bastore, 1) := by decide +kernel
theorem d18_89 : decode jdk_42_method_46_code 89 = .ok (.aload 4, 2) := by decide +kernel
theorem d18_91 : decode jdk_42_method_46_code 91 = .ok (.iload_n 3, 1) := by decide +kernel
theorem d18_92 : decode jdk_42_method_46_code 92 = .ok (.iinc 3 1, 3) := by decide +kernel
theorem d18_95 : decode jdk_42_method_46_code 95 = .ok (.sipush 128, 3) := by decide +kernel
theorem d18_98 : decode jdk_42_method_46_code 98 = .ok (.iload 8, 2) := by decide +kernel
theorem d18_100 : decode jdk_42_method_46_code 100 = .ok (.bipush 63, 2) := by decide +kernel
theorem d18_102 : decode jdk_42_method_46_code 102 = .ok (.iand, 1) := by decide +kernel
theorem d18_103 : decode jdk_42_method_46_code 103 = .ok (.ior, 1) := by decide +kernel
theorem d18_104 : decode jdk_42_method_46_code 104 = .ok (.i2b, 1) := by decide +kernel
theorem d18_105 : decode jdk_42_method_46_code 105 = .ok (.bastore, 1) := by decide +kernel
theorem d18_106 : decode jdk_42_method_46_code 106 = .ok (.goto 12, 3) := by decide +kernel
theorem d18_118 : decode jdk_42_method_46_code 118 = .ok (.iinc 7 1, 3) := by decide +kernel
theorem d18_121 : decode jdk_42_method_46_code 121 = .ok (.goto (-72), 3) := by decide +kernel
theorem d18_124 : decode jdk_42_method_46_code 124 = .ok (.iload_n 3, 1) := by decide +kernel
theorem d18_125 : decode jdk_42_method_46_code 125 = .ok (.aload 4, 2) := by decide +kernel
theorem d18_127 : decode jdk_42_method_46_code 127 = .ok (.arraylength, 1) := by decide +kernel
theorem d18_128 : decode jdk_42_method_46_code 128 = .ok (.if_icmp .ne 6, 3) := by decide +kernel
theorem d18_131 : decode jdk_42_method_46_code 131 = .ok (.aload 4, 2) := by decide +kernel
theorem d18_133 : decode jdk_42_method_46_code 133 = .ok (.areturn, 1) := by decide +kernel
theorem d18_109 : decode jdk_42_method_46_code 109 = .ok (.aload 4, 2) := by decide +kernel
theorem d18_111 : decode jdk_42_method_46_code 111 = .ok (.iload_n 3, 1) := by decide +kernel
theorem d18_112 : decode jdk_42_method_46_code 112 = .ok (.iinc 3 1, 3) := by decide +kernel
theorem d18_115 : decode jdk_42_method_46_code 115 = .ok (.iload 8, 2) := by decide +kernel
theorem d18_117 : decode jdk_42_method_46_code 117 = .ok (.bastore, 1) := by decide +kernel
theorem ef_rmEn81 (m : MethodId) (x0 : Int32) (x1 : Nat) (x2 : Int32)  : entryFrame m #[(.int x0), (.ref x1), (.int x2)] 9 = mkF m 0 #[.val (.int x0), .val (.ref x1), .val (.int x2), .unset, .unset, .unset, .unset, .unset, .unset] [] := by first | (simp [entryFrame, mkF, argsToLocals, Value.category, maxLocals]; done) | rfl
def Q_rmEn81 (Z : State) (b : Nat) (f : Nat → Int32) (h0 : Heap) (n0 : Nat) (vv : Option Value) (h : Heap) (L : List Loc) : Prop := ∃ (d : Nat) (g : Nat → Int32), vv = some (.ref d) ∧ Fr n0 L ∧ Keep h0 h [] ∧ h0.size ≤ d ∧ oAI Z h d .byte (oU1 f) g ∧ oFit (oU1 f) g
set_option maxRecDepth 65536 in
set_option maxHeartbeats 40000000 in
theorem rmEn81 (l : Launch) (Z : State) (a0 : Array Value) (hw : ∀ d ∈ tables_1, d.before a0 Z = true) (ws : List Jvm.Cond) (b : Nat) (f : Nat → Int32) (h0 : Heap) (n0 : Nat) (Z0 : n0 ≤ h0.size) (PB : oAI Z h0 b .byte 1 f) (EX : Exa Z h0 b "[B") (Ff : oFit 1 f) :
    MetFree l (⟨"java/lang/String", "encodeUTF8", "(B[BZ)[B"⟩ : MethodName) (head1 (Jvm.Cond.code (⟨"java/lang/String", "encodeUTF8", "(B[BZ)[B"⟩ : MethodName) jdk_42_method_46_code 9 (some (.array .byte)) :: ws) ({ frames := 2, cells := 1, slots := 2, locals := 30 } : Room)) (fun aA uU => aA = #[(.int (0 : Int32)), (.ref b), (.int (1 : Int32))] ∧ Z.Warmed39 uU.vm ∧ uU.heap = h0) (fun _ _ _ _ _ => True) (fun _ uU oO uU' => ∃ vV lL, oO = .returned vV ∧ Q_rmEn81 Z b f h0 n0 vV uU'.heap lL ∧ FrameEnd uU oO uU' lL ({ frames := 2, cells := 1, slots := 2, locals := 30 } : Room).cells ({ frames := 2, cells := 1, slots := 2, locals := 30 } : Room).slots) := by
  refine MetFree.of_bodySF (plainFor_of_name pn_String) hisR ?_
  intro p e s m args below meth c s₁ Bd hml0 hP hK
  obtain ⟨rfl, hZ, hh⟩ := hP
  have hx := Bd.exec
  have hby := Bd.bytes
  have hml : c.maxLocals = 9 := hml0
  have hown : s.vm.findClass "java/lang/String" = some m.cls := findClass_of_methodNamed Bd.named
  have hnm := (name_of_methodNamed Bd.named Bd.method).1
  have X0 : Stand p l e ({ frames := 2, cells := 1, slots := 2, locals := 30 } : Room) s m #[(.int (0 : Int32)), (.ref b), (.int (1 : Int32))] below meth c s₁ [] 0 0 := Stand.of_body Bd
  have e0 : s₁.heap = h0 := by rw [← hh, Bd.state]; rfl
  have N0 := Fr.nil n0
  have lB : @LT.lt Nat _ b h0.size := PB.lt
  refine oEnter (oCast (ef_rmEn81 m (0 : Int32) b (1 : Int32) ) ?_)
  show oGl p e below (s₁.setTop (mkF m 0 #[.val (.int (0 : Int32)), .val (.ref b), .val (.int (1 : Int32)), .unset, .unset, .unset, .unset, .unset, .unset] [])) _
  refine siloadN X0 hx (hb hby d18_0) rfl rfl (pc' := 1) ?_
  refine siconst X0 hx (hb hby d18_1) rfl rfl (z := 1) (pc' := 2) ?_
  refine sicY X0 hx (hb hby d18_2) (by decide) (by decide) (feq (by decide : ¬ ((0 : Int32) = (1 : Int32)))).2 (pc' := 11) ?_
  refine saloadN X0 hx (hb hby d18_11) rfl rfl rfl (pc' := 12) ?_
  refine siconst X0 hx (hb hby d18_12) rfl rfl (z := 0) (pc' := 13) ?_
  refine saloadN X0 hx (hb hby d18_13) rfl rfl rfl (pc' := 14) ?_
  refine oOn (PB.len X0 hx hZ e0 (g := (mkF m 14 #[.val (.int (0 : Int32)), .val (.ref b), .val (.int (1 : Int32)), .unset, .unset, .unset, .unset, .unset, .unset] [(.ref b), (.int (0 : Int32)), (.ref b)])) rfl rfl (hb hby d18_14)) ?_
  show oGl p e below (s₁.setTop (mkF m 15 #[.val (.int (0 : Int32)), .val (.ref b), .val (.int (1 : Int32)), .unset, .unset, .unset, .unset, .unset, .unset] [(.int (1 : Int32)), (.int (0 : Int32)), (.ref b)])) _
  have hz1 : n0 ≤ h0.size := by omega
  obtain ⟨_, _, ⟨T1, L1, k1, n1⟩, -, X1, ⟨Lc1, hQ1, l1, y1, z1⟩, st1⟩ := Jvm.LawKit.callS X0 hx (y := (⟨"java/lang/StringCoding", "hasNegatives", "([BII)Z"⟩ : MethodName)) hown (mvT hZ (hw _ (List.mem_of_getElem? (i := 108) rfl))) (mvT hZ (hw _ (List.mem_of_getElem? (i := 109) rfl))) (mvT hZ (hw _ (List.mem_of_getElem? (i := 110) rfl))) (mvT hZ (hw _ (List.mem_of_getElem? (i := 111) rfl))) (by decide) (backOf (W := 0) (rmHng1 l Z a0 hw [] b f h0 n0 hz1 PB) hZ (hw _ (List.mem_of_getElem? (i := 111) rfl)) (hw _ (List.mem_of_getElem? (i := 110) rfl)) (by decide) (by decide)) (g := (mkF m 15 #[.val (.int (0 : Int32)), .val (.ref b), .val (.int (1 : Int32)), .unset, .unset, .unset, .unset, .unset, .unset] [(.int (1 : Int32)), (.int (0 : Int32)), (.ref b)])) rfl (by rw [hml]; rfl) (argsL := [(.ref b), (.int (0 : Int32)), (.int (1 : Int32))]) (rest := []) (lenOf pd_9 rfl) rfl (by show 2 * 0 + _ ≤ _; exact Nat.le_of_eq rfl) (hb hby d18_15) (fun _ _ => ⟨rfl, e0, (by decide : 0 + 0 ≤ _), (by decide : 0 + 0 ≤ _)⟩)
  dsimp only [Pt.U, Pt.locs, Pt.cells, Pt.slots] at X1 l1 y1 z1 st1 hQ1
  subst l1 y1 z1
  obtain ⟨r1, rfl, N1q, eh1, pq1⟩ := hQ1
  have N1 := Fr.app N0 N1q
  refine oOn st1 ?_
  show oGl p e below (T1.setTop (mkF m 18 #[.val (.int (0 : Int32)), .val (.ref b), .val (.int (1 : Int32)), .unset, .unset, .unset, .unset, .unset, .unset] [(.int r1)])) _
  by_cases hc18 : r1 = (0 : Int32)
  · skip
    refine sifN X1 hx (hb hby d18_18) rfl (teq hc18).2 (pc' := 21) ?_
    refine saloadN X1 hx (hb hby d18_21) rfl rfl rfl (pc' := 22) ?_
    obtain ⟨T2, h2, X2, e2, E2, V2, EA2, st2⟩ := oCl X1 hx hZ hown (hw _ (List.mem_of_getElem? (i := 115) rfl)) (hw _ (List.mem_of_getElem? (i := 116) rfl)) (hw _ (List.mem_of_getElem? (i := 120) rfl)) (hw _ (List.mem_of_getElem? (i := 118) rfl)) (hw _ (List.mem_of_getElem? (i := 119) rfl)) (hw _ (List.mem_of_getElem? (i := 121) rfl)) eh1 PB EX Ff (g := (mkF m 22 #[.val (.int (0 : Int32)), .val (.ref b), .val (.int (1 : Int32)), .unset, .unset, .unset, .unset, .unset, .unset] [(.ref b)])) rfl (by rw [hml]; rfl) (rest := []) rfl (hb hby d18_22) (by decide) (W := 0) (by show 2 * 0 + _ ≤ _; exact Nat.le_of_eq rfl) (by decide) (by decide) (by decide)
    obtain ⟨a2, g2⟩ : ∃ z, z = h0.size := ⟨_, rfl⟩
    rw [← g2] at V2 EA2 st2
    refine oOn st2 ?_
    have z3 : h0.size ≤ h2.size := E2.1
    have lt2 : a2 < h2.size := V2.lt
    show oGl p e below (T2.setTop (mkF m 25 #[.val (.int (0 : Int32)), .val (.ref b), .val (.int (1 : Int32)), .unset, .unset, .unset, .unset, .unset, .unset] [(.ref a2)])) _
    obtain ⟨T4, X4, e4, st4⟩ := castY X2 hx hZ hown (hw _ (List.mem_of_getElem? (i := 122) rfl)) e2 (Ins.self EA2) (g := (mkF m 25 #[.val (.int (0 : Int32)), .val (.ref b), .val (.int (1 : Int32)), .unset, .unset, .unset, .unset, .unset, .unset] [(.ref a2)])) rfl rfl (hb hby d18_25)
    refine oOn st4 ?_
    show oGl p e below (T4.setTop (mkF m 28 #[.val (.int (0 : Int32)), .val (.ref b), .val (.int (1 : Int32)), .unset, .unset, .unset, .unset, .unset, .unset] [(.ref a2)])) _
    have hno := (pq1.resolve_right (fun q => absurd (hc18.symm.trans q.1) (by decide))).2
    have hu : (oU1 f) = 1 := by
      unfold oU1; rw [if_neg (hno 0 (by decide))]
    have kp5 : Keep h0 h2 [] := ((Keep.refl h0 []).ext E2)
    refine oRetR X4 hx Bd.notSynchronized Bd.returns rfl rfl (hb hby d18_28) (by decide) (by decide) ?_
    show Q_rmEn81 Z b f h0 n0 _ T4.heap _
    rw [e4]
    exact ⟨a2, _, rfl, N1, kp5, by omega, by rw [hu]; exact V2, by rw [hu]; exact Ff⟩
  · skip
    refine sifY X1 hx (hb hby d18_18) (by decide) (by decide) (feq hc18).2 (pc' := 29) ?_
    refine siconst X1 hx (hb hby d18_29) rfl rfl (z := 0) (pc' := 30) ?_
    refine sistoreN X1 hx (hb hby d18_30) rfl rfl (l' := #[.val (.int (0 : Int32)), .val (.ref b), .val (.int (1 : Int32)), .val (.int (0 : Int32)), .unset, .unset, .unset, .unset, .unset]) (pc' := 31) ?_
    refine saloadN X1 hx (hb hby d18_31) rfl rfl rfl (pc' := 32) ?_
    refine oOn (PB.len X1 hx hZ eh1 (g := (mkF m 32 #[.val (.int (0 : Int32)), .val (.ref b), .val (.int (1 : Int32)), .val (.int (0 : Int32)), .unset, .unset, .unset, .unset, .unset] [(.ref b)])) rfl rfl (hb hby d18_32)) ?_
    show oGl p e below (T1.setTop (mkF m 33 #[.val (.int (0 : Int32)), .val (.ref b), .val (.int (1 : Int32)), .val (.int (0 : Int32)), .unset, .unset, .unset, .unset, .unset] [(.int (1 : Int32))])) _
    have hz6 : n0 ≤ h0.size := by omega
    obtain ⟨_, _, ⟨T6, L6, k6, n6⟩, -, X6, ⟨Lc6, hQ6, l6, y6, z6⟩, st6⟩ := Jvm.LawKit.callS X1 hx (y := (⟨"java/lang/StringUTF16", "newBytesFor", "(I)[B"⟩ : MethodName)) hown (mvT hZ (hw _ (List.mem_of_getElem? (i := 185) rfl))) (mvT hZ (hw _ (List.mem_of_getElem? (i := 186) rfl))) (mvT hZ (hw _ (List.mem_of_getElem? (i := 43) rfl))) (mvT hZ (hw _ (List.mem_of_getElem? (i := 187) rfl))) (by decide) (backOf (W := 0) (rmNbf1 l Z a0 hw []  h0 n0 hz6 ) hZ (hw _ (List.mem_of_getElem? (i := 187) rfl)) (hw _ (List.mem_of_getElem? (i := 43) rfl)) (by decide) (by decide)) (g := (mkF m 33 #[.val (.int (0 : Int32)), .val (.ref b), .val (.int (1 : Int32)), .val (.int (0 : Int32)), .unset, .unset, .unset, .unset, .unset] [(.int (1 : Int32))])) rfl (by rw [hml]; rfl) (argsL := [(.int (1 : Int32))]) (rest := []) (lenOf pd_10 rfl) rfl (by show 2 * 0 + _ ≤ _; exact Nat.le_of_eq rfl) (hb hby d18_33) (fun _ _ => ⟨rfl, eh1, (by decide : 0 + 1 ≤ _), (by decide : 0 + 2 ≤ _)⟩)
    dsimp only [Pt.U, Pt.locs, Pt.cells, Pt.slots] at X6 l6 y6 z6 st6 hQ6
    subst l6 y6 z6
    obtain ⟨d6, rfl, N6q, K6, zd6, Vd6⟩ := hQ6
    have N6 := Fr.app N1 N6q
    have z7 : h0.size ≤ T6.heap.size := K6.1
    refine oOn st6 ?_
    have ld6 : @LT.lt Nat _ d6 T6.heap.size := Vd6.lt
    show oGl p e below (T6.setTop (mkF m 36 #[.val (.int (0 : Int32)), .val (.ref b), .val (.int (1 : Int32)), .val (.int (0 : Int32)), .unset, .unset, .unset, .unset, .unset] [(.ref d6)])) _
    refine sastore X6 hx (hb hby d18_36) rfl rfl rfl (l' := #[.val (.int (0 : Int32)), .val (.ref b), .val (.int (1 : Int32)), .val (.int (0 : Int32)), .val (.ref d6), .unset, .unset, .unset, .unset]) (pc' := 38) ?_
    refine saloadN X6 hx (hb hby d18_38) rfl rfl rfl (pc' := 39) ?_
    refine sastore X6 hx (hb hby d18_39) rfl rfl rfl (l' := #[.val (.int (0 : Int32)), .val (.ref b), .val (.int (1 : Int32)), .val (.int (0 : Int32)), .val (.ref d6), .val (.ref b), .unset, .unset, .unset]) (pc' := 41) ?_
    refine saload X6 hx (hb hby d18_41) rfl rfl rfl (pc' := 43) ?_
    have f8 := (PB.keep K6 nin0)
    refine oOn (f8.len X6 hx hZ rfl (g := (mkF m 43 #[.val (.int (0 : Int32)), .val (.ref b), .val (.int (1 : Int32)), .val (.int (0 : Int32)), .val (.ref d6), .val (.ref b), .unset, .unset, .unset] [(.ref b)])) rfl rfl (hb hby d18_43)) ?_
    show oGl p e below (T6.setTop (mkF m 44 #[.val (.int (0 : Int32)), .val (.ref b), .val (.int (1 : Int32)), .val (.int (0 : Int32)), .val (.ref d6), .val (.ref b), .unset, .unset, .unset] [(.int (1 : Int32))])) _
    refine sistore X6 hx (hb hby d18_44) rfl rfl (l' := #[.val (.int (0 : Int32)), .val (.ref b), .val (.int (1 : Int32)), .val (.int (0 : Int32)), .val (.ref d6), .val (.ref b), .val (.int (1 : Int32)), .unset, .unset]) (pc' := 46) ?_
    refine siconst X6 hx (hb hby d18_46) rfl rfl (z := 0) (pc' := 47) ?_
    refine sistore X6 hx (hb hby d18_47) rfl rfl (l' := #[.val (.int (0 : Int32)), .val (.ref b), .val (.int (1 : Int32)), .val (.int (0 : Int32)), .val (.ref d6), .val (.ref b), .val (.int (1 : Int32)), .val (.int (0 : Int32)), .unset]) (pc' := 49) ?_
    refine siload X6 hx (hb hby d18_49) rfl rfl (pc' := 51) ?_
    refine siload X6 hx (hb hby d18_51) rfl rfl (pc' := 53) ?_
    refine sicN X6 hx (hb hby d18_53) rfl (tlt (by decide : (0 : Int32) < (1 : Int32))).2.1 (pc' := 56) ?_
    refine saload X6 hx (hb hby d18_56) rfl rfl rfl (pc' := 58) ?_
    refine siload X6 hx (hb hby d18_58) rfl rfl (pc' := 60) ?_
    refine oOn (f8.ldB X6 hx hZ rfl (j := (0 : Int32)) (by decide) (g := (mkF m 60 #[.val (.int (0 : Int32)), .val (.ref b), .val (.int (1 : Int32)), .val (.int (0 : Int32)), .val (.ref d6), .val (.ref b), .val (.int (1 : Int32)), .val (.int (0 : Int32)), .unset] [(.int (0 : Int32)), (.ref b)])) rfl rfl (hb hby d18_60)) ?_
    show oGl p e below (T6.setTop (mkF m 61 #[.val (.int (0 : Int32)), .val (.ref b), .val (.int (1 : Int32)), .val (.int (0 : Int32)), .val (.ref d6), .val (.ref b), .val (.int (1 : Int32)), .val (.int (0 : Int32)), .unset] [(.int (f 0))])) _
    refine sistore X6 hx (hb hby d18_61) rfl rfl (l' := #[.val (.int (0 : Int32)), .val (.ref b), .val (.int (1 : Int32)), .val (.int (0 : Int32)), .val (.ref d6), .val (.ref b), .val (.int (1 : Int32)), .val (.int (0 : Int32)), .val (.int (f 0))]) (pc' := 63) ?_
    refine siload X6 hx (hb hby d18_63) rfl rfl (pc' := 65) ?_
    by_cases hc65 : (f 0) < (0 : Int32)
    · skip
      refine sifN X6 hx (hb hby d18_65) rfl (tlt hc65).2.1 (pc' := 68) ?_
      refine saload X6 hx (hb hby d18_68) rfl rfl rfl (pc' := 70) ?_
      refine siloadN X6 hx (hb hby d18_70) rfl rfl (pc' := 71) ?_
      refine siinc X6 hx (hb hby d18_71) rfl rfl rfl (l' := #[.val (.int (0 : Int32)), .val (.ref b), .val (.int (1 : Int32)), .val (.int (1 : Int32)), .val (.ref d6), .val (.ref b), .val (.int (1 : Int32)), .val (.int (0 : Int32)), .val (.int (f 0))]) (pc' := 74) ?_
      refine ssipush X6 hx (hb hby d18_74) rfl rfl (z := 192) (pc' := 77) ?_
      refine siload X6 hx (hb hby d18_77) rfl rfl (pc' := 79) ?_
      refine ssipush X6 hx (hb hby d18_79) rfl rfl (z := 255) (pc' := 82) ?_
      refine siand X6 hx (hb hby d18_82) rfl rfl (pc' := 83) ?_
      refine sbipush X6 hx (hb hby d18_83) rfl rfl (z := 6) (pc' := 85) ?_
      refine sishr X6 hx (hb hby d18_85) rfl rfl (pc' := 86) ?_
      refine sior X6 hx (hb hby d18_86) rfl rfl (pc' := 87) ?_
      refine si2b X6 hx (hb hby d18_87) rfl rfl (pc' := 88) ?_
      obtain ⟨T9, h9, X9, e9, W9, V9, st9⟩ := Vd6.stB X6 hx hZ rfl (j := (0 : Int32)) (by decide) (g := (mkF m 88 #[.val (.int (0 : Int32)), .val (.ref b), .val (.int (1 : Int32)), .val (.int (1 : Int32)), .val (.ref d6), .val (.ref b), .val (.int (1 : Int32)), .val (.int (0 : Int32)), .val (.int (f 0))] [(.int ((((192 : Int32) ||| (((f 0) &&& (255 : Int32)) >>> ((6 : Int32) &&& 31)))).toInt8.toInt32)), (.int (0 : Int32)), (.ref d6)])) rfl rfl (hb hby d18_88)
      refine oOn st9 ?_
      have z10 : T6.heap.size ≤ h9.size := Nat.le_of_eq W9.size.symm
      have N9 := Fr.snoc X9 N6 (by omega)
      show oGl p e below (T9.setTop (mkF m 89 #[.val (.int (0 : Int32)), .val (.ref b), .val (.int (1 : Int32)), .val (.int (1 : Int32)), .val (.ref d6), .val (.ref b), .val (.int (1 : Int32)), .val (.int (0 : Int32)), .val (.int (f 0))] [])) _
      refine saload X9 hx (hb hby d18_89) rfl rfl rfl (pc' := 91) ?_
      refine siloadN X9 hx (hb hby d18_91) rfl rfl (pc' := 92) ?_
      refine siinc X9 hx (hb hby d18_92) rfl rfl rfl (l' := #[.val (.int (0 : Int32)), .val (.ref b), .val (.int (1 : Int32)), .val (.int (2 : Int32)), .val (.ref d6), .val (.ref b), .val (.int (1 : Int32)), .val (.int (0 : Int32)), .val (.int (f 0))]) (pc' := 95) ?_
      refine ssipush X9 hx (hb hby d18_95) rfl rfl (z := 128) (pc' := 98) ?_
      refine siload X9 hx (hb hby d18_98) rfl rfl (pc' := 100) ?_
      refine sbipush X9 hx (hb hby d18_100) rfl rfl (z := 63) (pc' := 102) ?_
      refine siand X9 hx (hb hby d18_102) rfl rfl (pc' := 103) ?_
      refine sior X9 hx (hb hby d18_103) rfl rfl (pc' := 104) ?_
      refine si2b X9 hx (hb hby d18_104) rfl rfl (pc' := 105) ?_
      obtain ⟨T11, h11, X11, e11, W11, V11, st11⟩ := V9.stB X9 hx hZ e9 (j := (1 : Int32)) (by decide) (g := (mkF m 105 #[.val (.int (0 : Int32)), .val (.ref b), .val (.int (1 : Int32)), .val (.int (2 : Int32)), .val (.ref d6), .val (.ref b), .val (.int (1 : Int32)), .val (.int (0 : Int32)), .val (.int (f 0))] [(.int ((((128 : Int32) ||| ((f 0) &&& (63 : Int32)))).toInt8.toInt32)), (.int (1 : Int32)), (.ref d6)])) rfl rfl (hb hby d18_105)
      refine oOn st11 ?_
      have z12 : h9.size ≤ h11.size := Nat.le_of_eq W11.size.symm
      have N11 := Fr.snoc X11 N9 (by omega)
      show oGl p e below (T11.setTop (mkF m 106 #[.val (.int (0 : Int32)), .val (.ref b), .val (.int (1 : Int32)), .val (.int (2 : Int32)), .val (.ref d6), .val (.ref b), .val (.int (1 : Int32)), .val (.int (0 : Int32)), .val (.int (f 0))] [])) _
      refine sgoto X11 hx (hb hby d18_106) (by decide) (by decide)  (pc' := 118) ?_
      refine siinc X11 hx (hb hby d18_118) rfl rfl rfl (l' := #[.val (.int (0 : Int32)), .val (.ref b), .val (.int (1 : Int32)), .val (.int (2 : Int32)), .val (.ref d6), .val (.ref b), .val (.int (1 : Int32)), .val (.int (1 : Int32)), .val (.int (f 0))]) (pc' := 121) ?_
      refine sgoto X11 hx (hb hby d18_121) (by decide) (by decide)  (pc' := 49) ?_
      refine siload X11 hx (hb hby d18_49) rfl rfl (pc' := 51) ?_
      refine siload X11 hx (hb hby d18_51) rfl rfl (pc' := 53) ?_
      refine sicY X11 hx (hb hby d18_53) (by decide) (by decide) (flt (by decide : ¬ ((1 : Int32) < (1 : Int32)))).2.1 (pc' := 124) ?_
      refine siloadN X11 hx (hb hby d18_124) rfl rfl (pc' := 125) ?_
      refine saload X11 hx (hb hby d18_125) rfl rfl rfl (pc' := 127) ?_
      refine oOn (V11.len X11 hx hZ e11 (g := (mkF m 127 #[.val (.int (0 : Int32)), .val (.ref b), .val (.int (1 : Int32)), .val (.int (2 : Int32)), .val (.ref d6), .val (.ref b), .val (.int (1 : Int32)), .val (.int (1 : Int32)), .val (.int (f 0))] [(.ref d6), (.int (2 : Int32))])) rfl rfl (hb hby d18_127)) ?_
      show oGl p e below (T11.setTop (mkF m 128 #[.val (.int (0 : Int32)), .val (.ref b), .val (.int (1 : Int32)), .val (.int (2 : Int32)), .val (.ref d6), .val (.ref b), .val (.int (1 : Int32)), .val (.int (1 : Int32)), .val (.int (f 0))] [(.int (2 : Int32)), (.int (2 : Int32))])) _
      refine sicN X11 hx (hb hby d18_128) rfl (teq (by decide : (2 : Int32) = (2 : Int32))).2 (pc' := 131) ?_
      refine saload X11 hx (hb hby d18_131) rfl rfl rfl (pc' := 133) ?_
      have hu : (oU1 f) = 2 := by
        unfold oU1; rw [if_pos hc65]
      have kp13 : Keep h0 h11 [d6] := ((((Keep.refl h0 [d6]).trans K6 all0).wr W9 (Or.inl (List.mem_of_getElem? (i := 0) rfl))).wr W11 (Or.inl (List.mem_of_getElem? (i := 0) rfl)))
      refine oRetR X11 hx Bd.notSynchronized Bd.returns rfl rfl (hb hby d18_133) (by decide) (by decide) ?_
      show Q_rmEn81 Z b f h0 n0 _ T11.heap _
      rw [e11]
      exact ⟨d6, _, rfl, N11, (oKeepN kp13 (by omega)), by omega, by rw [hu]; exact V11, by rw [hu]; exact (oFit.up (oFit.up oFit0))⟩
    · skip
      refine sifY X6 hx (hb hby d18_65) (by decide) (by decide) (flt hc65).2.1 (pc' := 109) ?_
      refine saload X6 hx (hb hby d18_109) rfl rfl rfl (pc' := 111) ?_
      refine siloadN X6 hx (hb hby d18_111) rfl rfl (pc' := 112) ?_
      refine siinc X6 hx (hb hby d18_112) rfl rfl rfl (l' := #[.val (.int (0 : Int32)), .val (.ref b), .val (.int (1 : Int32)), .val (.int (1 : Int32)), .val (.ref d6), .val (.ref b), .val (.int (1 : Int32)), .val (.int (0 : Int32)), .val (.int (f 0))]) (pc' := 115) ?_
      refine siload X6 hx (hb hby d18_115) rfl rfl (pc' := 117) ?_
      obtain ⟨T14, h14, X14, e14, W14, V14, st14⟩ := Vd6.stB X6 hx hZ rfl (j := (0 : Int32)) (by decide) (g := (mkF m 117 #[.val (.int (0 : Int32)), .val (.ref b), .val (.int (1 : Int32)), .val (.int (1 : Int32)), .val (.ref d6), .val (.ref b), .val (.int (1 : Int32)), .val (.int (0 : Int32)), .val (.int (f 0))] [(.int (f 0)), (.int (0 : Int32)), (.ref d6)])) rfl rfl (hb hby d18_117)
      refine oOn st14 ?_
      have z15 : T6.heap.size ≤ h14.size := Nat.le_of_eq W14.size.symm
      have N14 := Fr.snoc X14 N6 (by omega)
      show oGl p e below (T14.setTop (mkF m 118 #[.val (.int (0 : Int32)), .val (.ref b), .val (.int (1 : Int32)), .val (.int (1 : Int32)), .val (.ref d6), .val (.ref b), .val (.int (1 : Int32)), .val (.int (0 : Int32)), .val (.int (f 0))] [])) _
      refine siinc X14 hx (hb hby d18_118) rfl rfl rfl (l' := #[.val (.int (0 : Int32)), .val (.ref b), .val (.int (1 : Int32)), .val (.int (1 : Int32)), .val (.ref d6), .val (.ref b), .val (.int (1 : Int32)), .val (.int (1 : Int32)), .val (.int (f 0))]) (pc' := 121) ?_
      refine sgoto X14 hx (hb hby d18_121) (by decide) (by decide)  (pc' := 49) ?_
      refine siload X14 hx (hb hby d18_49) rfl rfl (pc' := 51) ?_
      refine siload X14 hx (hb hby d18_51) rfl rfl (pc' := 53) ?_
      refine sicY X14 hx (hb hby d18_53) (by decide) (by decide) (flt (by decide : ¬ ((1 : Int32) < (1 : Int32)))).2.1 (pc' := 124) ?_
      exact absurd (pq1.resolve_left (fun q => hc18 q.1)).2 (fun ⟨j, hj, hq⟩ => by
        rcases (by omega : j = 0) with rfl
        · exact hc65 hq)
theorem d17_0 : decode jdk_42_method_18_code 0 = .ok (.aload_n 0, 1) := by decide +kernel
theorem d17_1 : decode jdk_42_method_18_code 1 = .ok (.getstatic 86, 3) := by decide +kernel
theorem d17_4 : decode jdk_42_method_18_code 4 = .ok (.if_acmp .ne 10, 3) := by decide +kernel
theorem d17_7 : decode jdk_42_method_18_code 7 = .ok (.iload_n 1, 1) := by decide +kernel
theorem d17_8 : decode jdk_42_method_18_code 8 = .ok (.aload_n 2, 1) := by decide +kernel
theorem d17_9 : decode jdk_42_method_18_code 9 = .ok (.iconst 1, 1) := by decide +kernel
theorem d17_10 : decode jdk_42_method_18_code 10 = .ok (.invokestatic 252, 3) := by decide +kernel
theorem pd_11 : parseMethodDescriptor "(B[BZ)[B" = some ⟨[.byte, (.array .byte), .boolean], some (.array .byte)⟩ := by decide +kernel
theorem d17_13 : decode jdk_42_method_18_code 13 = .ok (.areturn, 1) := by decide +kernel
theorem ef_rmEnc81 (m : MethodId) (x0 : Nat) (x1 : Int32) (x2 : Nat)  : entryFrame m #[(.ref x0), (.int x1), (.ref x2)] 3 = mkF m 0 #[.val (.ref x0), .val (.int x1), .val (.ref x2)] [] := by first | (simp [entryFrame, mkF, argsToLocals, Value.category, maxLocals]; done) | rfl
def Q_rmEnc81 (Z : State) (b : Nat) (f : Nat → Int32) (u : Nat) (cz : Int32) (h0 : Heap) (n0 : Nat) (vv : Option Value) (h : Heap) (L : List Loc) : Prop := ∃ (d : Nat) (g : Nat → Int32), vv = some (.ref d) ∧ Fr n0 L ∧ Keep h0 h [] ∧ h0.size ≤ d ∧ oAI Z h d .byte (oU1 f) g ∧ oFit (oU1 f) g
set_option maxRecDepth 65536 in
set_option maxHeartbeats 40000000 in
theorem rmEnc81 (l : Launch) (Z : State) (a0 : Array Value) (hw : ∀ d ∈ tables_1, d.before a0 Z = true) (ws : List Jvm.Cond) (b : Nat) (f : Nat → Int32) (u : Nat) (cz : Int32) (h0 : Heap) (n0 : Nat) (Z0 : n0 ≤ h0.size) (O0 : Old Z n0 h0) (SCS : Sta Z Z.heap "java/lang/String" "COMPACT_STRINGS" "Z" (.int cz)) (hcz : ¬ cz = (0 : Int32)) (SU : Sta Z Z.heap "java/nio/charset/StandardCharsets" "UTF_8" "Ljava/nio/charset/Charset;" (.ref u)) (SI : Sta Z Z.heap "sun/nio/cs/UTF_8" "INSTANCE" "Lsun/nio/cs/UTF_8;" (.ref u)) (PB : oAI Z h0 b .byte 1 f) (EX : Exa Z h0 b "[B") (Ff : oFit 1 f) :
    MetFree l (⟨"java/lang/String", "encode", "(Ljava/nio/charset/Charset;B[B)[B"⟩ : MethodName) (head1 (Jvm.Cond.code (⟨"java/lang/String", "encode", "(Ljava/nio/charset/Charset;B[B)[B"⟩ : MethodName) jdk_42_method_18_code 3 (some (.array .byte)) :: ws) ({ frames := 3, cells := 1, slots := 2, locals := 50 } : Room)) (fun aA uU => aA = #[(.ref u), (.int (0 : Int32)), (.ref b)] ∧ Z.Warmed39 uU.vm ∧ uU.heap = h0) (fun _ _ _ _ _ => True) (fun _ uU oO uU' => ∃ vV lL, oO = .returned vV ∧ Q_rmEnc81 Z b f u cz h0 n0 vV uU'.heap lL ∧ FrameEnd uU oO uU' lL ({ frames := 3, cells := 1, slots := 2, locals := 50 } : Room).cells ({ frames := 3, cells := 1, slots := 2, locals := 50 } : Room).slots) := by
  refine MetFree.of_bodySF (plainFor_of_name pn_String) hisR ?_
  intro p e s m args below meth c s₁ Bd hml0 hP hK
  obtain ⟨rfl, hZ, hh⟩ := hP
  have hx := Bd.exec
  have hby := Bd.bytes
  have hml : c.maxLocals = 3 := hml0
  have hown : s.vm.findClass "java/lang/String" = some m.cls := findClass_of_methodNamed Bd.named
  have hnm := (name_of_methodNamed Bd.named Bd.method).1
  have X0 : Stand p l e ({ frames := 3, cells := 1, slots := 2, locals := 50 } : Room) s m #[(.ref u), (.int (0 : Int32)), (.ref b)] below meth c s₁ [] 0 0 := Stand.of_body Bd
  have e0 : s₁.heap = h0 := by rw [← hh, Bd.state]; rfl
  have N0 := Fr.nil n0
  have lB : @LT.lt Nat _ b h0.size := PB.lt
  refine oEnter (oCast (ef_rmEnc81 m u (0 : Int32) b ) ?_)
  show oGl p e below (s₁.setTop (mkF m 0 #[.val (.ref u), .val (.int (0 : Int32)), .val (.ref b)] [])) _
  refine saloadN X0 hx (hb hby d17_0) rfl rfl rfl (pc' := 1) ?_
  obtain ⟨T1, X1, e1, st1⟩ := getS2 X0 hx hZ hown (host := "") (Or.inl (hw _ (List.mem_of_getElem? (i := 103) rfl))) Via.refl e0 (SI.ext O0.2) (g := (mkF m 1 #[.val (.ref u), .val (.int (0 : Int32)), .val (.ref b)] [(.ref u)])) rfl (hb hby d17_1)
  refine oOn st1 ?_
  show oGl p e below (T1.setTop (mkF m 4 #[.val (.ref u), .val (.int (0 : Int32)), .val (.ref b)] [(.ref u), (.ref u)])) _
  refine oOn (fun _ kK => Jvm.RoadKit.acmp (g := (mkF m 4 #[.val (.ref u), .val (.int (0 : Int32)), .val (.ref b)] [(.ref u), (.ref u)])) X1 hx rfl rfl rfl (pc0 := 4) (pc' := 7) (same := true) rfl (hb hby d17_4) rfl (decide_eq_true rfl) (by decide) (by decide) kK) ?_
  show oGl p e below (T1.setTop (mkF m 7 #[.val (.ref u), .val (.int (0 : Int32)), .val (.ref b)] [])) _
  refine siloadN X1 hx (hb hby d17_7) rfl rfl (pc' := 8) ?_
  refine saloadN X1 hx (hb hby d17_8) rfl rfl rfl (pc' := 9) ?_
  refine siconst X1 hx (hb hby d17_9) rfl rfl (z := 1) (pc' := 10) ?_
  have hz2 : n0 ≤ h0.size := by omega
  obtain ⟨_, _, ⟨T2, L2, k2, n2⟩, -, X2, ⟨Lc2, hQ2, l2, y2, z2⟩, st2⟩ := Jvm.LawKit.callS X1 hx (y := (⟨"java/lang/String", "encodeUTF8", "(B[BZ)[B"⟩ : MethodName)) hown (mvT hZ (hw _ (List.mem_of_getElem? (i := 105) rfl))) (mvT hZ (hw _ (List.mem_of_getElem? (i := 106) rfl))) (mvT hZ (hw _ (List.mem_of_getElem? (i := 10) rfl))) (mvT hZ (hw _ (List.mem_of_getElem? (i := 107) rfl))) (by decide) (backOf (W := 0) (rmEn81 l Z a0 hw [] b f h0 n0 hz2 PB EX Ff) hZ (hw _ (List.mem_of_getElem? (i := 107) rfl)) (hw _ (List.mem_of_getElem? (i := 10) rfl)) (by decide) (by decide)) (g := (mkF m 10 #[.val (.ref u), .val (.int (0 : Int32)), .val (.ref b)] [(.int (1 : Int32)), (.ref b), (.int (0 : Int32))])) rfl (by rw [hml]; rfl) (argsL := [(.int (0 : Int32)), (.ref b), (.int (1 : Int32))]) (rest := []) (lenOf pd_11 rfl) rfl (by show 2 * 0 + _ ≤ _; exact Nat.le_of_eq rfl) (hb hby d17_10) (fun _ _ => ⟨rfl, e1, (by decide : 0 + 1 ≤ _), (by decide : 0 + 2 ≤ _)⟩)
  dsimp only [Pt.U, Pt.locs, Pt.cells, Pt.slots] at X2 l2 y2 z2 st2 hQ2
  subst l2 y2 z2
  obtain ⟨d2, g2, rfl, N2q, K2, zd2, Vd2, Fd2⟩ := hQ2
  have N2 := Fr.app N0 N2q
  have z3 : h0.size ≤ T2.heap.size := K2.1
  refine oOn st2 ?_
  have ld2 : @LT.lt Nat _ d2 T2.heap.size := Vd2.lt
  show oGl p e below (T2.setTop (mkF m 13 #[.val (.ref u), .val (.int (0 : Int32)), .val (.ref b)] [(.ref d2)])) _
  have kp4 : Keep h0 T2.heap [] := ((Keep.refl h0 []).trans K2 all0)
  refine oRetR X2 hx Bd.notSynchronized Bd.returns rfl rfl (hb hby d17_13) (by decide) (by decide) ?_
  show Q_rmEnc81 Z b f u cz h0 n0 _ T2.heap _
  exact ⟨d2, g2, rfl, N2, kp4, by omega, Vd2, Fd2⟩
theorem d15_0 : decode jdk_42_method_64_code 0 = .ok (.aload_n 1, 1) := by decide +kernel
theorem d15_1 : decode jdk_42_method_64_code 1 = .ok (.ifnonnull 11, 3) := by decide +kernel
theorem d15_12 : decode jdk_42_method_64_code 12 = .ok (.aload_n 1, 1) := by decide +kernel
theorem d15_13 : decode jdk_42_method_64_code 13 = .ok (.aload_n 0, 1) := by decide +kernel
theorem d15_14 : decode jdk_42_method_64_code 14 = .ok (.invokevirtual 335, 3) := by decide +kernel
theorem pd_12 : parseMethodDescriptor "()B" = some ⟨[], some .byte⟩ := by decide +kernel
theorem d15_17 : decode jdk_42_method_64_code 17 = .ok (.aload_n 0, 1) := by decide +kernel
theorem d15_18 : decode jdk_42_method_64_code 18 = .ok (.getfield 9, 3) := by decide +kernel
theorem d15_21 : decode jdk_42_method_64_code 21 = .ok (.invokestatic 535, 3) := by decide +kernel
theorem pd_13 : parseMethodDescriptor "(Ljava/nio/charset/Charset;B[B)[B" = some ⟨[(.object "java/nio/charset/Charset"), .byte, (.array .byte)], some (.array .byte)⟩ := by decide +kernel
theorem d15_24 : decode jdk_42_method_64_code 24 = .ok (.areturn, 1) := by decide +kernel
theorem ef_rmGb81 (m : MethodId) (x0 : Nat) (x1 : Nat)  : entryFrame m #[(.ref x0), (.ref x1)] 2 = mkF m 0 #[.val (.ref x0), .val (.ref x1)] [] := by first | (simp [entryFrame, mkF, argsToLocals, Value.category, maxLocals]; done) | rfl
def Q_rmGb81 (Z : State) (x : Nat) (b : Nat) (f : Nat → Int32) (u : Nat) (cz : Int32) (h0 : Heap) (n0 : Nat) (vv : Option Value) (h : Heap) (L : List Loc) : Prop := ∃ (d : Nat) (g : Nat → Int32), vv = some (.ref d) ∧ Fr n0 L ∧ Keep h0 h [] ∧ h0.size ≤ d ∧ oAI Z h d .byte (oU1 f) g ∧ oFit (oU1 f) g
set_option maxRecDepth 65536 in
set_option maxHeartbeats 40000000 in
theorem rmGb81 (l : Launch) (Z : State) (a0 : Array Value) (hw : ∀ d ∈ tables_1, d.before a0 Z = true) (ws : List Jvm.Cond) (x : Nat) (b : Nat) (f : Nat → Int32) (u : Nat) (cz : Int32) (h0 : Heap) (n0 : Nat) (Z0 : n0 ≤ h0.size) (O0 : Old Z n0 h0) (SCS : Sta Z Z.heap "java/lang/String" "COMPACT_STRINGS" "Z" (.int cz)) (hcz : ¬ cz = (0 : Int32)) (SU : Sta Z Z.heap "java/nio/charset/StandardCharsets" "UTF_8" "Ljava/nio/charset/Charset;" (.ref u)) (SI : Sta Z Z.heap "sun/nio/cs/UTF_8" "INSTANCE" "Lsun/nio/cs/UTF_8;" (.ref u)) (E1 : Exa Z h0 x "java/lang/String") (F1 : Fld Z h0 x "java/lang/String" "value" "[B" (.ref b)) (C1 : Fld Z h0 x "java/lang/String" "coder" "B" (.int 0)) (PB : oAI Z h0 b .byte 1 f) (EX : Exa Z h0 b "[B") (Ff : oFit 1 f) :
    MetFree l (⟨"java/lang/String", "getBytes", "(Ljava/nio/charset/Charset;)[B"⟩ : MethodName) (head1 (Jvm.Cond.code (⟨"java/lang/String", "getBytes", "(Ljava/nio/charset/Charset;)[B"⟩ : MethodName) jdk_42_method_64_code 2 (some (.array .byte)) :: ws) ({ frames := 4, cells := 1, slots := 2, locals := 64 } : Room)) (fun aA uU => aA = #[(.ref x), (.ref u)] ∧ Z.Warmed39 uU.vm ∧ uU.heap = h0) (fun _ _ _ _ _ => True) (fun _ uU oO uU' => ∃ vV lL, oO = .returned vV ∧ Q_rmGb81 Z x b f u cz h0 n0 vV uU'.heap lL ∧ FrameEnd uU oO uU' lL ({ frames := 4, cells := 1, slots := 2, locals := 64 } : Room).cells ({ frames := 4, cells := 1, slots := 2, locals := 64 } : Room).slots) := by
  refine MetFree.of_bodySF (plainFor_of_name pn_String) hisR ?_
  intro p e s m args below meth c s₁ Bd hml0 hP hK
  obtain ⟨rfl, hZ, hh⟩ := hP
  have hx := Bd.exec
  have hby := Bd.bytes
  have hml : c.maxLocals = 2 := hml0
  have hown : s.vm.findClass "java/lang/String" = some m.cls := findClass_of_methodNamed Bd.named
  have hnm := (name_of_methodNamed Bd.named Bd.method).1
  have X0 : Stand p l e ({ frames := 4, cells := 1, slots := 2, locals := 64 } : Room) s m #[(.ref x), (.ref u)] below meth c s₁ [] 0 0 := Stand.of_body Bd
  have e0 : s₁.heap = h0 := by rw [← hh, Bd.state]; rfl
  have N0 := Fr.nil n0
  have lB : @LT.lt Nat _ b h0.size := PB.lt
  refine oEnter (oCast (ef_rmGb81 m x u ) ?_)
  show oGl p e below (s₁.setTop (mkF m 0 #[.val (.ref x), .val (.ref u)] [])) _
  refine saloadN X0 hx (hb hby d15_0) rfl rfl rfl (pc' := 1) ?_
  refine sifnonnullY X0 hx (hb hby d15_1) (by decide) (by decide)  (pc' := 12) ?_
  refine saloadN X0 hx (hb hby d15_12) rfl rfl rfl (pc' := 13) ?_
  refine saloadN X0 hx (hb hby d15_13) rfl rfl rfl (pc' := 14) ?_
  have hz1 : n0 ≤ h0.size := by omega
  obtain ⟨cq1, kq1, q1a, q1b, q1c⟩ := isOf hZ e0 E1
  obtain ⟨_, _, ⟨T1, L1, k1, n1⟩, -, X1, ⟨Lc1, hQ1, l1, y1, z1⟩, st1⟩ := X0.virtualBack hx (y := (⟨"java/lang/String", "coder", "()B"⟩ : MethodName)) (z := (⟨"java/lang/String", "coder", "()B"⟩ : MethodName)) hown (mvT hZ (hw _ (List.mem_of_getElem? (i := 95) rfl))) (mvT hZ (hw _ (List.mem_of_getElem? (i := 96) rfl))) (notFace_of_selects (args := #[]) (mvT hZ (hw _ (List.mem_of_getElem? (i := 98) rfl)))) (mvT hZ (hw _ (List.mem_of_getElem? (i := 98) rfl))) (mvT hZ (hw _ (List.mem_of_getElem? (i := 97) rfl))) (by decide) (backOf (W := 1) (rmCdr l Z a0 hw [] x cz h0 n0 hz1 O0 SCS hcz C1) hZ (hw _ (List.mem_of_getElem? (i := 99) rfl)) (hw _ (List.mem_of_getElem? (i := 10) rfl)) (by decide) (by decide)) q1a q1c (g := (mkF m 14 #[.val (.ref x), .val (.ref u)] [(.ref x), (.ref u)])) rfl (by rw [hml]; rfl) (Steps.refl _) (argsL := []) (rest := [(.ref u)]) (lenOf pd_12 rfl) rfl (by show 2 * 0 + _ ≤ _; exact Nat.le_of_eq rfl) (hb hby d15_14) (fun _ _ => ⟨rfl, e0, (by decide : 0 + 0 ≤ _), (by decide : 0 + 0 ≤ _)⟩)
  dsimp only [Pt.U, Pt.locs, Pt.cells, Pt.slots] at X1 l1 y1 z1 st1 hQ1
  subst l1 y1 z1
  obtain ⟨rfl, N1q, eh1⟩ := hQ1
  have N1 := Fr.app N0 N1q
  refine oSt st1 ?_
  show oGl p e below (T1.setTop (mkF m 17 #[.val (.ref x), .val (.ref u)] [(.int (0 : Int32)), (.ref u)])) _
  refine saloadN X1 hx (hb hby d15_17) rfl rfl rfl (pc' := 18) ?_
  obtain ⟨T2, X2, e2, st2⟩ := getF X1 hx hZ hown (host := "") (Or.inl (hw _ (List.mem_of_getElem? (i := 30) rfl))) Via.refl eh1 F1 (g := (mkF m 18 #[.val (.ref x), .val (.ref u)] [(.ref x), (.int (0 : Int32)), (.ref u)])) rfl rfl (hb hby d15_18)
  refine oOn st2 ?_
  show oGl p e below (T2.setTop (mkF m 21 #[.val (.ref x), .val (.ref u)] [(.ref b), (.int (0 : Int32)), (.ref u)])) _
  have hz3 : n0 ≤ h0.size := by omega
  obtain ⟨_, _, ⟨T3, L3, k3, n3⟩, -, X3, ⟨Lc3, hQ3, l3, y3, z3⟩, st3⟩ := Jvm.LawKit.callS X2 hx (y := (⟨"java/lang/String", "encode", "(Ljava/nio/charset/Charset;B[B)[B"⟩ : MethodName)) hown (mvT hZ (hw _ (List.mem_of_getElem? (i := 100) rfl))) (mvT hZ (hw _ (List.mem_of_getElem? (i := 101) rfl))) (mvT hZ (hw _ (List.mem_of_getElem? (i := 10) rfl))) (mvT hZ (hw _ (List.mem_of_getElem? (i := 102) rfl))) (by decide) (backOf (W := 0) (rmEnc81 l Z a0 hw [] b f u cz h0 n0 hz3 O0 SCS hcz SU SI PB EX Ff) hZ (hw _ (List.mem_of_getElem? (i := 102) rfl)) (hw _ (List.mem_of_getElem? (i := 10) rfl)) (by decide) (by decide)) (g := (mkF m 21 #[.val (.ref x), .val (.ref u)] [(.ref b), (.int (0 : Int32)), (.ref u)])) rfl (by rw [hml]; rfl) (argsL := [(.ref u), (.int (0 : Int32)), (.ref b)]) (rest := []) (lenOf pd_13 rfl) rfl (by show 2 * 0 + _ ≤ _; exact Nat.le_of_eq rfl) (hb hby d15_21) (fun _ _ => ⟨rfl, e2, (by decide : 0 + 1 ≤ _), (by decide : 0 + 2 ≤ _)⟩)
  dsimp only [Pt.U, Pt.locs, Pt.cells, Pt.slots] at X3 l3 y3 z3 st3 hQ3
  subst l3 y3 z3
  obtain ⟨d3, g3, rfl, N3q, K3, zd3, Vd3, Fd3⟩ := hQ3
  have N3 := Fr.app N1 N3q
  have z4 : h0.size ≤ T3.heap.size := K3.1
  refine oOn st3 ?_
  have ld3 : @LT.lt Nat _ d3 T3.heap.size := Vd3.lt
  show oGl p e below (T3.setTop (mkF m 24 #[.val (.ref x), .val (.ref u)] [(.ref d3)])) _
  have kp5 : Keep h0 T3.heap [] := ((Keep.refl h0 []).trans K3 all0)
  refine oRetR X3 hx Bd.notSynchronized Bd.returns rfl rfl (hb hby d15_24) (by decide) (by decide) ?_
  show Q_rmGb81 Z x b f u cz h0 n0 _ T3.heap _
  exact ⟨d3, g3, rfl, N3, kp5, by omega, Vd3, Fd3⟩
theorem ef_rmCps2 (m : MethodId) (x0 : Nat) (x1 : Int32) (x2 : Int32)  : entryFrame m #[(.ref x0), (.int x1), (.int x2)] 5 = mkF m 0 #[.val (.ref x0), .val (.int x1), .val (.int x2), .unset, .unset] [] := by first | (simp [entryFrame, mkF, argsToLocals, Value.category, maxLocals]; done) | rfl
def Q_rmCps2 (Z : State) (b : Nat) (f : Nat → Int32) (h0 : Heap) (n0 : Nat) (vv : Option Value) (h : Heap) (L : List Loc) : Prop := ∃ r : Int32, vv = some (.int r) ∧ Fr n0 L ∧ h = h0 ∧ ((r = 2 ∧ ∀ j, j < 2 → ¬ f j < 0) ∨ (¬ r = 2 ∧ ∃ j, j < 2 ∧ f j < 0))
set_option maxRecDepth 65536 in
set_option maxHeartbeats 40000000 in
theorem rmCps2 (l : Launch) (Z : State) (a0 : Array Value) (hw : ∀ d ∈ tables_1, d.before a0 Z = true) (ws : List Jvm.Cond) (b : Nat) (f : Nat → Int32) (h0 : Heap) (n0 : Nat) (Z0 : n0 ≤ h0.size) (PB : oAI Z h0 b .byte 2 f) :
    MetFree l (⟨"java/lang/StringCoding", "countPositives", "([BII)I"⟩ : MethodName) (head1 (Jvm.Cond.code (⟨"java/lang/StringCoding", "countPositives", "([BII)I"⟩ : MethodName) jdk_123_method_3_code 5 (some .int) :: ws) ({ frames := 0, cells := 0, slots := 0, locals := 0 } : Room)) (fun aA uU => aA = #[(.ref b), (.int (0 : Int32)), (.int (2 : Int32))] ∧ Z.Warmed39 uU.vm ∧ uU.heap = h0) (fun _ _ _ _ _ => True) (fun _ uU oO uU' => ∃ vV lL, oO = .returned vV ∧ Q_rmCps2 Z b f h0 n0 vV uU'.heap lL ∧ FrameEnd uU oO uU' lL ({ frames := 0, cells := 0, slots := 0, locals := 0 } : Room).cells ({ frames := 0, cells := 0, slots := 0, locals := 0 } : Room).slots) := by
  refine MetFree.of_bodySF (plainFor_of_name pn_StringCoding) hisR ?_
  intro p e s m args below meth c s₁ Bd hml0 hP hK
  obtain ⟨rfl, hZ, hh⟩ := hP
  have hx := Bd.exec
  have hby := Bd.bytes
  have hml : c.maxLocals = 5 := hml0
  have hown : s.vm.findClass "java/lang/StringCoding" = some m.cls := findClass_of_methodNamed Bd.named
  have hnm := (name_of_methodNamed Bd.named Bd.method).1
  have X0 : Stand p l e ({ frames := 0, cells := 0, slots := 0, locals := 0 } : Room) s m #[(.ref b), (.int (0 : Int32)), (.int (2 : Int32))] below meth c s₁ [] 0 0 := Stand.of_body Bd
  have e0 : s₁.heap = h0 := by rw [← hh, Bd.state]; rfl
  have N0 := Fr.nil n0
  refine oEnter (oCast (ef_rmCps2 m b (0 : Int32) (2 : Int32) ) ?_)
  show oGl p e below (s₁.setTop (mkF m 0 #[.val (.ref b), .val (.int (0 : Int32)), .val (.int (2 : Int32)), .unset, .unset] [])) _
  refine siloadN X0 hx (hb hby d20_0) rfl rfl (pc' := 1) ?_
  refine siloadN X0 hx (hb hby d20_1) rfl rfl (pc' := 2) ?_
  refine siadd X0 hx (hb hby d20_2) rfl (by decide) (z := (2 : Int32)) (pc' := 3) ?_
  refine sistoreN X0 hx (hb hby d20_3) rfl rfl (l' := #[.val (.ref b), .val (.int (0 : Int32)), .val (.int (2 : Int32)), .val (.int (2 : Int32)), .unset]) (pc' := 4) ?_
  refine siloadN X0 hx (hb hby d20_4) rfl rfl (pc' := 5) ?_
  refine sistore X0 hx (hb hby d20_5) rfl rfl (l' := #[.val (.ref b), .val (.int (0 : Int32)), .val (.int (2 : Int32)), .val (.int (2 : Int32)), .val (.int (0 : Int32))]) (pc' := 7) ?_
  refine siload X0 hx (hb hby d20_7) rfl rfl (pc' := 9) ?_
  refine siloadN X0 hx (hb hby d20_9) rfl rfl (pc' := 10) ?_
  refine sicN X0 hx (hb hby d20_10) rfl (tlt (by decide : (0 : Int32) < (2 : Int32))).2.1 (pc' := 13) ?_
  refine saloadN X0 hx (hb hby d20_13) rfl rfl rfl (pc' := 14) ?_
  refine siload X0 hx (hb hby d20_14) rfl rfl (pc' := 16) ?_
  refine oOn (PB.ldB X0 hx hZ e0 (j := (0 : Int32)) (by decide) (g := (mkF m 16 #[.val (.ref b), .val (.int (0 : Int32)), .val (.int (2 : Int32)), .val (.int (2 : Int32)), .val (.int (0 : Int32))] [(.int (0 : Int32)), (.ref b)])) rfl rfl (hb hby d20_16)) ?_
  show oGl p e below (s₁.setTop (mkF m 17 #[.val (.ref b), .val (.int (0 : Int32)), .val (.int (2 : Int32)), .val (.int (2 : Int32)), .val (.int (0 : Int32))] [(.int (f 0))])) _
  by_cases hc17 : (f 0) < (0 : Int32)
  · skip
    refine sifN X0 hx (hb hby d20_17) rfl (tlt hc17).2.1 (pc' := 20) ?_
    refine siload X0 hx (hb hby d20_20) rfl rfl (pc' := 22) ?_
    refine siloadN X0 hx (hb hby d20_22) rfl rfl (pc' := 23) ?_
    refine sisub X0 hx (hb hby d20_23) rfl (by decide) (z := (0 : Int32)) (pc' := 24) ?_
    refine oRetI X0 hx Bd.notSynchronized Bd.returns (hb hby d20_24) (by decide) (by decide) ?_
    show Q_rmCps2 Z b f h0 n0 _ s₁.heap _
    rw [e0]
    exact ⟨0, rfl, N0, rfl, Or.inr ⟨by decide, 0, by decide, hc17⟩⟩
  · skip
    refine sifY X0 hx (hb hby d20_17) (by decide) (by decide) (flt hc17).2.1 (pc' := 25) ?_
    refine siinc X0 hx (hb hby d20_25) rfl rfl rfl (l' := #[.val (.ref b), .val (.int (0 : Int32)), .val (.int (2 : Int32)), .val (.int (2 : Int32)), .val (.int (1 : Int32))]) (pc' := 28) ?_
    refine sgoto X0 hx (hb hby d20_28) (by decide) (by decide)  (pc' := 7) ?_
    refine siload X0 hx (hb hby d20_7) rfl rfl (pc' := 9) ?_
    refine siloadN X0 hx (hb hby d20_9) rfl rfl (pc' := 10) ?_
    refine sicN X0 hx (hb hby d20_10) rfl (tlt (by decide : (1 : Int32) < (2 : Int32))).2.1 (pc' := 13) ?_
    refine saloadN X0 hx (hb hby d20_13) rfl rfl rfl (pc' := 14) ?_
    refine siload X0 hx (hb hby d20_14) rfl rfl (pc' := 16) ?_
    refine oOn (PB.ldB X0 hx hZ e0 (j := (1 : Int32)) (by decide) (g := (mkF m 16 #[.val (.ref b), .val (.int (0 : Int32)), .val (.int (2 : Int32)), .val (.int (2 : Int32)), .val (.int (1 : Int32))] [(.int (1 : Int32)), (.ref b)])) rfl rfl (hb hby d20_16)) ?_
    show oGl p e below (s₁.setTop (mkF m 17 #[.val (.ref b), .val (.int (0 : Int32)), .val (.int (2 : Int32)), .val (.int (2 : Int32)), .val (.int (1 : Int32))] [(.int (f 1))])) _
    by_cases hc17_2 : (f 1) < (0 : Int32)
    · skip
      refine sifN X0 hx (hb hby d20_17) rfl (tlt hc17_2).2.1 (pc' := 20) ?_
      refine siload X0 hx (hb hby d20_20) rfl rfl (pc' := 22) ?_
      refine siloadN X0 hx (hb hby d20_22) rfl rfl (pc' := 23) ?_
      refine sisub X0 hx (hb hby d20_23) rfl (by decide) (z := (1 : Int32)) (pc' := 24) ?_
      refine oRetI X0 hx Bd.notSynchronized Bd.returns (hb hby d20_24) (by decide) (by decide) ?_
      show Q_rmCps2 Z b f h0 n0 _ s₁.heap _
      rw [e0]
      exact ⟨1, rfl, N0, rfl, Or.inr ⟨by decide, 1, by decide, hc17_2⟩⟩
    · skip
      refine sifY X0 hx (hb hby d20_17) (by decide) (by decide) (flt hc17_2).2.1 (pc' := 25) ?_
      refine siinc X0 hx (hb hby d20_25) rfl rfl rfl (l' := #[.val (.ref b), .val (.int (0 : Int32)), .val (.int (2 : Int32)), .val (.int (2 : Int32)), .val (.int (2 : Int32))]) (pc' := 28) ?_
      refine sgoto X0 hx (hb hby d20_28) (by decide) (by decide)  (pc' := 7) ?_
      refine siload X0 hx (hb hby d20_7) rfl rfl (pc' := 9) ?_
      refine siloadN X0 hx (hb hby d20_9) rfl rfl (pc' := 10) ?_
      refine sicY X0 hx (hb hby d20_10) (by decide) (by decide) (flt (by decide : ¬ ((2 : Int32) < (2 : Int32)))).2.1 (pc' := 31) ?_
      refine siloadN X0 hx (hb hby d20_31) rfl rfl (pc' := 32) ?_
      refine oRetI X0 hx Bd.notSynchronized Bd.returns (hb hby d20_32) (by decide) (by decide) ?_
      show Q_rmCps2 Z b f h0 n0 _ s₁.heap _
      rw [e0]
      exact ⟨2, rfl, N0, rfl, Or.inl ⟨rfl, fun j hj => by
        rcases (by omega : j = 0 ∨ j = 1) with rfl | rfl
        · exact hc17
        · exact hc17_2⟩⟩
theorem ef_rmHng2 (m : MethodId) (x0 : Nat) (x1 : Int32) (x2 : Int32)  : entryFrame m #[(.ref x0), (.int x1), (.int x2)] 3 = mkF m 0 #[.val (.ref x0), .val (.int x1), .val (.int x2)] [] := by first | (simp [entryFrame, mkF, argsToLocals, Value.category, maxLocals]; done) | rfl
def Q_rmHng2 (Z : State) (b : Nat) (f : Nat → Int32) (h0 : Heap) (n0 : Nat) (vv : Option Value) (h : Heap) (L : List Loc) : Prop := ∃ r : Int32, vv = some (.int r) ∧ Fr n0 L ∧ h = h0 ∧ ((r = 0 ∧ ∀ j, j < 2 → ¬ f j < 0) ∨ (r = 1 ∧ ∃ j, j < 2 ∧ f j < 0))
set_option maxRecDepth 65536 in
set_option maxHeartbeats 40000000 in
theorem rmHng2 (l : Launch) (Z : State) (a0 : Array Value) (hw : ∀ d ∈ tables_1, d.before a0 Z = true) (ws : List Jvm.Cond) (b : Nat) (f : Nat → Int32) (h0 : Heap) (n0 : Nat) (Z0 : n0 ≤ h0.size) (PB : oAI Z h0 b .byte 2 f) :
    MetFree l (⟨"java/lang/StringCoding", "hasNegatives", "([BII)Z"⟩ : MethodName) (head1 (Jvm.Cond.code (⟨"java/lang/StringCoding", "hasNegatives", "([BII)Z"⟩ : MethodName) jdk_123_method_2_code 3 (some .boolean) :: ws) ({ frames := 1, cells := 0, slots := 0, locals := 16 } : Room)) (fun aA uU => aA = #[(.ref b), (.int (0 : Int32)), (.int (2 : Int32))] ∧ Z.Warmed39 uU.vm ∧ uU.heap = h0) (fun _ _ _ _ _ => True) (fun _ uU oO uU' => ∃ vV lL, oO = .returned vV ∧ Q_rmHng2 Z b f h0 n0 vV uU'.heap lL ∧ FrameEnd uU oO uU' lL ({ frames := 1, cells := 0, slots := 0, locals := 16 } : Room).cells ({ frames := 1, cells := 0, slots := 0, locals := 16 } : Room).slots) := by
  refine MetFree.of_bodySF (plainFor_of_name pn_StringCoding) hisR ?_
  intro p e s m args below meth c s₁ Bd hml0 hP hK
  obtain ⟨rfl, hZ, hh⟩ := hP
  have hx := Bd.exec
  have hby := Bd.bytes
  have hml : c.maxLocals = 3 := hml0
  have hown : s.vm.findClass "java/lang/StringCoding" = some m.cls := findClass_of_methodNamed Bd.named
  have hnm := (name_of_methodNamed Bd.named Bd.method).1
  have X0 : Stand p l e ({ frames := 1, cells := 0, slots := 0, locals := 16 } : Room) s m #[(.ref b), (.int (0 : Int32)), (.int (2 : Int32))] below meth c s₁ [] 0 0 := Stand.of_body Bd
  have e0 : s₁.heap = h0 := by rw [← hh, Bd.state]; rfl
  have N0 := Fr.nil n0
  refine oEnter (oCast (ef_rmHng2 m b (0 : Int32) (2 : Int32) ) ?_)
  show oGl p e below (s₁.setTop (mkF m 0 #[.val (.ref b), .val (.int (0 : Int32)), .val (.int (2 : Int32))] [])) _
  refine saloadN X0 hx (hb hby d19_0) rfl rfl rfl (pc' := 1) ?_
  refine siloadN X0 hx (hb hby d19_1) rfl rfl (pc' := 2) ?_
  refine siloadN X0 hx (hb hby d19_2) rfl rfl (pc' := 3) ?_
  have hz1 : n0 ≤ h0.size := by omega
  obtain ⟨_, _, ⟨T1, L1, k1, n1⟩, -, X1, ⟨Lc1, hQ1, l1, y1, z1⟩, st1⟩ := Jvm.LawKit.callS X0 hx (y := (⟨"java/lang/StringCoding", "countPositives", "([BII)I"⟩ : MethodName)) hown (mvT hZ (hw _ (List.mem_of_getElem? (i := 112) rfl))) (mvT hZ (hw _ (List.mem_of_getElem? (i := 113) rfl))) (mvT hZ (hw _ (List.mem_of_getElem? (i := 110) rfl))) (mvT hZ (hw _ (List.mem_of_getElem? (i := 114) rfl))) (by decide) (backOf (W := 0) (rmCps2 l Z a0 hw [] b f h0 n0 hz1 PB) hZ (hw _ (List.mem_of_getElem? (i := 114) rfl)) (hw _ (List.mem_of_getElem? (i := 110) rfl)) (by decide) (by decide)) (g := (mkF m 3 #[.val (.ref b), .val (.int (0 : Int32)), .val (.int (2 : Int32))] [(.int (2 : Int32)), (.int (0 : Int32)), (.ref b)])) rfl (by rw [hml]; rfl) (argsL := [(.ref b), (.int (0 : Int32)), (.int (2 : Int32))]) (rest := []) (lenOf pd_7 rfl) rfl (by show 2 * 0 + _ ≤ _; exact Nat.le_of_eq rfl) (hb hby d19_3) (fun _ _ => ⟨rfl, e0, (by decide : 0 + 0 ≤ _), (by decide : 0 + 0 ≤ _)⟩)
  dsimp only [Pt.U, Pt.locs, Pt.cells, Pt.slots] at X1 l1 y1 z1 st1 hQ1
  subst l1 y1 z1
  obtain ⟨r1, rfl, N1q, eh1, pq1⟩ := hQ1
  have N1 := Fr.app N0 N1q
  refine oOn st1 ?_
  show oGl p e below (T1.setTop (mkF m 6 #[.val (.ref b), .val (.int (0 : Int32)), .val (.int (2 : Int32))] [(.int r1)])) _
  refine siloadN X1 hx (hb hby d19_6) rfl rfl (pc' := 7) ?_
  by_cases hc7 : r1 = (2 : Int32)
  · skip
    refine sicY X1 hx (hb hby d19_7) (by decide) (by decide) (teq hc7).1 (pc' := 14) ?_
    refine siconst X1 hx (hb hby d19_14) rfl rfl (z := 0) (pc' := 15) ?_
    refine oRetN (t := .boolean) X1 hx Bd.notSynchronized Bd.returns (by simp) (hb hby d19_15) (by decide) (by decide) ?_
    show Q_rmHng2 Z b f h0 n0 _ T1.heap _
    rw [eh1]
    exact ⟨0, rfl, N1, rfl, Or.inl ⟨rfl, (pq1.resolve_right (fun q => q.1 hc7)).2⟩⟩
  · skip
    refine sicN X1 hx (hb hby d19_7) rfl (feq hc7).1 (pc' := 10) ?_
    refine siconst X1 hx (hb hby d19_10) rfl rfl (z := 1) (pc' := 11) ?_
    refine sgoto X1 hx (hb hby d19_11) (by decide) (by decide)  (pc' := 15) ?_
    refine oRetN (t := .boolean) X1 hx Bd.notSynchronized Bd.returns (by simp) (hb hby d19_15) (by decide) (by decide) ?_
    show Q_rmHng2 Z b f h0 n0 _ T1.heap _
    rw [eh1]
    exact ⟨1, rfl, N1, rfl, Or.inr ⟨rfl, (pq1.resolve_left (fun q => hc7 q.1)).2⟩⟩
theorem ef_rmNbl2 (m : MethodId) (x0 : Int32)  : entryFrame m #[(.int x0)] 1 = mkF m 0 #[.val (.int x0)] [] := by first | (simp [entryFrame, mkF, argsToLocals, Value.category, maxLocals]; done) | rfl
def Q_rmNbl2 (Z : State)  (h0 : Heap) (n0 : Nat) (vv : Option Value) (h : Heap) (L : List Loc) : Prop := vv = some (.int 4) ∧ Fr n0 L ∧ h = h0
set_option maxRecDepth 65536 in
set_option maxHeartbeats 40000000 in
theorem rmNbl2 (l : Launch) (Z : State) (a0 : Array Value) (hw : ∀ d ∈ tables_1, d.before a0 Z = true) (ws : List Jvm.Cond)  (h0 : Heap) (n0 : Nat) (Z0 : n0 ≤ h0.size)  :
    MetFree l (⟨"java/lang/StringUTF16", "newBytesLength", "(I)I"⟩ : MethodName) (head1 (Jvm.Cond.code (⟨"java/lang/StringUTF16", "newBytesLength", "(I)I"⟩ : MethodName) jdk_52_method_3_code 1 (some .int) :: ws) ({ frames := 0, cells := 0, slots := 0, locals := 0 } : Room)) (fun aA uU => aA = #[(.int (2 : Int32))] ∧ Z.Warmed39 uU.vm ∧ uU.heap = h0) (fun _ _ _ _ _ => True) (fun _ uU oO uU' => ∃ vV lL, oO = .returned vV ∧ Q_rmNbl2 Z  h0 n0 vV uU'.heap lL ∧ FrameEnd uU oO uU' lL ({ frames := 0, cells := 0, slots := 0, locals := 0 } : Room).cells ({ frames := 0, cells := 0, slots := 0, locals := 0 } : Room).slots) := by
  refine MetFree.of_bodySF (plainFor_of_name pn_StringUTF16) hisR ?_
  intro p e s m args below meth c s₁ Bd hml0 hP hK
  obtain ⟨rfl, hZ, hh⟩ := hP
  have hx := Bd.exec
  have hby := Bd.bytes
  have hml : c.maxLocals = 1 := hml0
  have hown : s.vm.findClass "java/lang/StringUTF16" = some m.cls := findClass_of_methodNamed Bd.named
  have hnm := (name_of_methodNamed Bd.named Bd.method).1
  have X0 : Stand p l e ({ frames := 0, cells := 0, slots := 0, locals := 0 } : Room) s m #[(.int (2 : Int32))] below meth c s₁ [] 0 0 := Stand.of_body Bd
  have e0 : s₁.heap = h0 := by rw [← hh, Bd.state]; rfl
  have N0 := Fr.nil n0
  refine oEnter (oCast (ef_rmNbl2 m (2 : Int32) ) ?_)
  show oGl p e below (s₁.setTop (mkF m 0 #[.val (.int (2 : Int32))] [])) _
  refine siloadN X0 hx (hb hby d30_0) rfl rfl (pc' := 1) ?_
  refine sifY X0 hx (hb hby d30_1) (by decide) (by decide) (flt (by decide : ¬ ((2 : Int32) < (0 : Int32)))).2.1 (pc' := 12) ?_
  refine siloadN X0 hx (hb hby d30_12) rfl rfl (pc' := 13) ?_
  refine oOn (X0.ldcInt hx hown (mvT hZ (hw _ (List.mem_of_getElem? (i := 191) rfl))) (g := (mkF m 13 #[.val (.int (2 : Int32))] [(.int (2 : Int32))])) rfl (hb hby d30_13)) ?_
  show oGl p e below (s₁.setTop (mkF m 15 #[.val (.int (2 : Int32))] [(.int (1073741823 : Int32)), (.int (2 : Int32))])) _
  refine sicY X0 hx (hb hby d30_15) (by decide) (by decide) (tlt (by decide : (2 : Int32) < (1073741823 : Int32))).1 (pc' := 55) ?_
  refine siloadN X0 hx (hb hby d30_55) rfl rfl (pc' := 56) ?_
  refine siconst X0 hx (hb hby d30_56) rfl rfl (z := 1) (pc' := 57) ?_
  refine sishl X0 hx (hb hby d30_57) rfl (by decide) (z := (4 : Int32)) (pc' := 58) ?_
  refine oRetI X0 hx Bd.notSynchronized Bd.returns (hb hby d30_58) (by decide) (by decide) ?_
  show Q_rmNbl2 Z  h0 n0 _ s₁.heap _
  rw [e0]
  exact ⟨rfl, N0, rfl⟩
theorem ef_rmNbf2 (m : MethodId) (x0 : Int32)  : entryFrame m #[(.int x0)] 1 = mkF m 0 #[.val (.int x0)] [] := by first | (simp [entryFrame, mkF, argsToLocals, Value.category, maxLocals]; done) | rfl
def Q_rmNbf2 (Z : State)  (h0 : Heap) (n0 : Nat) (vv : Option Value) (h : Heap) (L : List Loc) : Prop := ∃ d : Nat, vv = some (.ref d) ∧ Fr n0 L ∧ Keep h0 h [] ∧ h0.size ≤ d ∧ oAI Z h d .byte 4 (fun _ => 0)
set_option maxRecDepth 65536 in
set_option maxHeartbeats 40000000 in
theorem rmNbf2 (l : Launch) (Z : State) (a0 : Array Value) (hw : ∀ d ∈ tables_1, d.before a0 Z = true) (ws : List Jvm.Cond)  (h0 : Heap) (n0 : Nat) (Z0 : n0 ≤ h0.size)  :
    MetFree l (⟨"java/lang/StringUTF16", "newBytesFor", "(I)[B"⟩ : MethodName) (head1 (Jvm.Cond.code (⟨"java/lang/StringUTF16", "newBytesFor", "(I)[B"⟩ : MethodName) jdk_52_method_2_code 1 (some (.array .byte)) :: ws) ({ frames := 1, cells := 1, slots := 4, locals := 12 } : Room)) (fun aA uU => aA = #[(.int (2 : Int32))] ∧ Z.Warmed39 uU.vm ∧ uU.heap = h0) (fun _ _ _ _ _ => True) (fun _ uU oO uU' => ∃ vV lL, oO = .returned vV ∧ Q_rmNbf2 Z  h0 n0 vV uU'.heap lL ∧ FrameEnd uU oO uU' lL ({ frames := 1, cells := 1, slots := 4, locals := 12 } : Room).cells ({ frames := 1, cells := 1, slots := 4, locals := 12 } : Room).slots) := by
  refine MetFree.of_bodySF (plainFor_of_name pn_StringUTF16) hisR ?_
  intro p e s m args below meth c s₁ Bd hml0 hP hK
  obtain ⟨rfl, hZ, hh⟩ := hP
  have hx := Bd.exec
  have hby := Bd.bytes
  have hml : c.maxLocals = 1 := hml0
  have hown : s.vm.findClass "java/lang/StringUTF16" = some m.cls := findClass_of_methodNamed Bd.named
  have hnm := (name_of_methodNamed Bd.named Bd.method).1
  have X0 : Stand p l e ({ frames := 1, cells := 1, slots := 4, locals := 12 } : Room) s m #[(.int (2 : Int32))] below meth c s₁ [] 0 0 := Stand.of_body Bd
  have e0 : s₁.heap = h0 := by rw [← hh, Bd.state]; rfl
  have N0 := Fr.nil n0
  refine oEnter (oCast (ef_rmNbf2 m (2 : Int32) ) ?_)
  show oGl p e below (s₁.setTop (mkF m 0 #[.val (.int (2 : Int32))] [])) _
  refine siloadN X0 hx (hb hby d29_0) rfl rfl (pc' := 1) ?_
  have hz1 : n0 ≤ h0.size := by omega
  obtain ⟨_, _, ⟨T1, L1, k1, n1⟩, -, X1, ⟨Lc1, hQ1, l1, y1, z1⟩, st1⟩ := Jvm.LawKit.callS X0 hx (y := (⟨"java/lang/StringUTF16", "newBytesLength", "(I)I"⟩ : MethodName)) hown (mvT hZ (hw _ (List.mem_of_getElem? (i := 188) rfl))) (mvT hZ (hw _ (List.mem_of_getElem? (i := 189) rfl))) (mvT hZ (hw _ (List.mem_of_getElem? (i := 43) rfl))) (mvT hZ (hw _ (List.mem_of_getElem? (i := 190) rfl))) (by decide) (backOf (W := 0) (rmNbl2 l Z a0 hw []  h0 n0 hz1 ) hZ (hw _ (List.mem_of_getElem? (i := 190) rfl)) (hw _ (List.mem_of_getElem? (i := 43) rfl)) (by decide) (by decide)) (g := (mkF m 1 #[.val (.int (2 : Int32))] [(.int (2 : Int32))])) rfl (by rw [hml]; rfl) (argsL := [(.int (2 : Int32))]) (rest := []) (lenOf pd_8 rfl) rfl (by show 2 * 0 + _ ≤ _; exact Nat.le_of_eq rfl) (hb hby d29_1) (fun _ _ => ⟨rfl, e0, (by decide : 0 + 0 ≤ _), (by decide : 0 + 0 ≤ _)⟩)
  dsimp only [Pt.U, Pt.locs, Pt.cells, Pt.slots] at X1 l1 y1 z1 st1 hQ1
  subst l1 y1 z1
  obtain ⟨rfl, N1q, eh1⟩ := hQ1
  have N1 := Fr.app N0 N1q
  refine oOn st1 ?_
  show oGl p e below (T1.setTop (mkF m 4 #[.val (.int (2 : Int32))] [(.int (4 : Int32))])) _
  obtain ⟨T2, h2, k2, X2, e2, E2, A2, EA2, st2⟩ := newPE X1 hx hZ (hw _ (List.mem_of_getElem? (i := 22) rfl)) eh1 (g := (mkF m 4 #[.val (.int (2 : Int32))] [(.int (4 : Int32))])) rfl (hb hby d29_4) rfl (by decide) (cap := 4) (by decide) (by decide) (by decide) (by decide) (ad := "[B") rfl
  obtain ⟨a2, g2⟩ : ∃ z, z = h0.size := ⟨_, rfl⟩
  rw [← g2] at A2 EA2 st2
  refine oOn st2 ?_
  have z3 : h0.size ≤ h2.size := E2.1
  have lt2 : a2 < h2.size := A2.lt
  have V2 : oAI Z h2 a2 .byte 4 (fun _ => 0) := oAI.new A2 rfl
  show oGl p e below (T2.setTop (mkF m 6 #[.val (.int (2 : Int32))] [(.ref a2)])) _
  have kp4 : Keep h0 h2 [] := ((Keep.refl h0 []).ext E2)
  refine oRetR X2 hx Bd.notSynchronized Bd.returns rfl rfl (hb hby d29_6) (by decide) (by decide) ?_
  show Q_rmNbf2 Z  h0 n0 _ T2.heap _
  rw [e2]
  exact ⟨a2, rfl, N1, kp4, by omega, V2⟩
theorem d23_0 : decode jdk_29_method_69_code 0 = .ok (.iload_n 0, 1) := by decide +kernel
theorem d23_1 : decode jdk_29_method_69_code 1 = .ok (.iload_n 1, 1) := by decide +kernel
theorem d23_2 : decode jdk_29_method_69_code 2 = .ok (.if_icmp .gt 7, 3) := by decide +kernel
theorem d23_9 : decode jdk_29_method_69_code 9 = .ok (.iload_n 1, 1) := by decide +kernel
theorem d23_10 : decode jdk_29_method_69_code 10 = .ok (.ireturn, 1) := by decide +kernel
theorem ef_rmMin43 (m : MethodId) (x0 : Int32) (x1 : Int32)  : entryFrame m #[(.int x0), (.int x1)] 2 = mkF m 0 #[.val (.int x0), .val (.int x1)] [] := by first | (simp [entryFrame, mkF, argsToLocals, Value.category, maxLocals]; done) | rfl
def Q_rmMin43 (Z : State)  (h0 : Heap) (n0 : Nat) (vv : Option Value) (h : Heap) (L : List Loc) : Prop := vv = some (.int 3) ∧ Fr n0 L ∧ h = h0
set_option maxRecDepth 65536 in
set_option maxHeartbeats 40000000 in
theorem rmMin43 (l : Launch) (Z : State) (a0 : Array Value) (hw : ∀ d ∈ tables_1, d.before a0 Z = true) (ws : List Jvm.Cond)  (h0 : Heap) (n0 : Nat) (Z0 : n0 ≤ h0.size)  :
    MetFree l (⟨"java/lang/Math", "min", "(II)I"⟩ : MethodName) (head1 (Jvm.Cond.code (⟨"java/lang/Math", "min", "(II)I"⟩ : MethodName) jdk_29_method_69_code 2 (some .int) :: ws) ({ frames := 0, cells := 0, slots := 0, locals := 0 } : Room)) (fun aA uU => aA = #[(.int (4 : Int32)), (.int (3 : Int32))] ∧ Z.Warmed39 uU.vm ∧ uU.heap = h0) (fun _ _ _ _ _ => True) (fun _ uU oO uU' => ∃ vV lL, oO = .returned vV ∧ Q_rmMin43 Z  h0 n0 vV uU'.heap lL ∧ FrameEnd uU oO uU' lL ({ frames := 0, cells := 0, slots := 0, locals := 0 } : Room).cells ({ frames := 0, cells := 0, slots := 0, locals := 0 } : Room).slots) := by
  refine MetFree.of_bodySF (by decide +kernel) hisR ?_
  intro p e s m args below meth c s₁ Bd hml0 hP hK
  obtain ⟨rfl, hZ, hh⟩ := hP
  have hx := Bd.exec
  have hby := Bd.bytes
  have hml : c.maxLocals = 2 := hml0
  have hown : s.vm.findClass "java/lang/Math" = some m.cls := findClass_of_methodNamed Bd.named
  have hnm := (name_of_methodNamed Bd.named Bd.method).1
  have X0 : Stand p l e ({ frames := 0, cells := 0, slots := 0, locals := 0 } : Room) s m #[(.int (4 : Int32)), (.int (3 : Int32))] below meth c s₁ [] 0 0 := Stand.of_body Bd
  have e0 : s₁.heap = h0 := by rw [← hh, Bd.state]; rfl
  have N0 := Fr.nil n0
  refine oEnter (oCast (ef_rmMin43 m (4 : Int32) (3 : Int32) ) ?_)
  show oGl p e below (s₁.setTop (mkF m 0 #[.val (.int (4 : Int32)), .val (.int (3 : Int32))] [])) _
  refine siloadN X0 hx (hb hby d23_0) rfl rfl (pc' := 1) ?_
  refine siloadN X0 hx (hb hby d23_1) rfl rfl (pc' := 2) ?_
  refine sicY X0 hx (hb hby d23_2) (by decide) (by decide) (tlt (by decide : (3 : Int32) < (4 : Int32))).2.2.1 (pc' := 9) ?_
  refine siloadN X0 hx (hb hby d23_9) rfl rfl (pc' := 10) ?_
  refine oRetI X0 hx Bd.notSynchronized Bd.returns (hb hby d23_10) (by decide) (by decide) ?_
  show Q_rmMin43 Z  h0 n0 _ s₁.heap _
  rw [e0]
  exact ⟨rfl, N0, rfl⟩
theorem d31_0 : decode jdk_65_method_121_code 0 = .ok (.iload_n 1, 1) := by decide +kernel
theorem d31_1 : decode jdk_65_method_121_code 1 = .ok (.aload_n 0, 1) := by decide +kernel
theorem d31_2 : decode jdk_65_method_121_code 2 = .ok (.arraylength, 1) := by decide +kernel
theorem d31_3 : decode jdk_65_method_121_code 3 = .ok (.if_icmp .ne 11, 3) := by decide +kernel
theorem d31_14 : decode jdk_65_method_121_code 14 = .ok (.iload_n 1, 1) := by decide +kernel
theorem d31_15 : decode jdk_65_method_121_code 15 = .ok (.newarray .byte, 2) := by decide +kernel
theorem d31_17 : decode jdk_65_method_121_code 17 = .ok (.astore_n 2, 1) := by decide +kernel
theorem d31_18 : decode jdk_65_method_121_code 18 = .ok (.aload_n 0, 1) := by decide +kernel
theorem d31_19 : decode jdk_65_method_121_code 19 = .ok (.iconst 0, 1) := by decide +kernel
theorem d31_20 : decode jdk_65_method_121_code 20 = .ok (.aload_n 2, 1) := by decide +kernel
theorem d31_21 : decode jdk_65_method_121_code 21 = .ok (.iconst 0, 1) := by decide +kernel
theorem d31_22 : decode jdk_65_method_121_code 22 = .ok (.aload_n 0, 1) := by decide +kernel
theorem d31_23 : decode jdk_65_method_121_code 23 = .ok (.arraylength, 1) := by decide +kernel
theorem d31_24 : decode jdk_65_method_121_code 24 = .ok (.iload_n 1, 1) := by decide +kernel
theorem d31_25 : decode jdk_65_method_121_code 25 = .ok (.invokestatic 304, 3) := by decide +kernel
theorem pd_14 : parseMethodDescriptor "(II)I" = some ⟨[.int, .int], some .int⟩ := by decide +kernel
theorem d31_28 : decode jdk_65_method_121_code 28 = .ok (.invokestatic 150, 3) := by decide +kernel
theorem d31_31 : decode jdk_65_method_121_code 31 = .ok (.aload_n 2, 1) := by decide +kernel
theorem d31_32 : decode jdk_65_method_121_code 32 = .ok (.areturn, 1) := by decide +kernel
theorem pn_Arrays : plainName "java/util/Arrays" = true := by first | (simp [plainName, overriddenIn]; done) | decide +kernel
theorem ef_rmCof (m : MethodId) (x0 : Nat) (x1 : Int32)  : entryFrame m #[(.ref x0), (.int x1)] 3 = mkF m 0 #[.val (.ref x0), .val (.int x1), .unset] [] := by first | (simp [entryFrame, mkF, argsToLocals, Value.category, maxLocals]; done) | rfl
def Q_rmCof (Z : State) (a : Nat) (g : Nat → Int32) (h0 : Heap) (n0 : Nat) (vv : Option Value) (h : Heap) (L : List Loc) : Prop := ∃ (d : Nat) (g' : Nat → Int32), vv = some (.ref d) ∧ Fr n0 L ∧ Keep h0 h [] ∧ h0.size ≤ d ∧ oAI Z h d .byte 3 g' ∧ oFit 3 g'
set_option maxRecDepth 65536 in
set_option maxHeartbeats 40000000 in
theorem rmCof (l : Launch) (Z : State) (a0 : Array Value) (hw : ∀ d ∈ tables_1, d.before a0 Z = true) (ws : List Jvm.Cond) (a : Nat) (g : Nat → Int32) (h0 : Heap) (n0 : Nat) (Z0 : n0 ≤ h0.size) (PA : oAI Z h0 a .byte 4 g) (Fg : oFit 4 g) :
    MetFree l (⟨"java/util/Arrays", "copyOf", "([BI)[B"⟩ : MethodName) (head1 (Jvm.Cond.code (⟨"java/util/Arrays", "copyOf", "([BI)[B"⟩ : MethodName) jdk_65_method_121_code 3 (some (.array .byte)) :: ws) ({ frames := 1, cells := 1, slots := 3, locals := 18 } : Room)) (fun aA uU => aA = #[(.ref a), (.int (3 : Int32))] ∧ Z.Warmed39 uU.vm ∧ uU.heap = h0) (fun _ _ _ _ _ => True) (fun _ uU oO uU' => ∃ vV lL, oO = .returned vV ∧ Q_rmCof Z a g h0 n0 vV uU'.heap lL ∧ FrameEnd uU oO uU' lL ({ frames := 1, cells := 1, slots := 3, locals := 18 } : Room).cells ({ frames := 1, cells := 1, slots := 3, locals := 18 } : Room).slots) := by
  refine MetFree.of_bodySF (plainFor_of_name pn_Arrays) hisR ?_
  intro p e s m args below meth c s₁ Bd hml0 hP hK
  obtain ⟨rfl, hZ, hh⟩ := hP
  have hx := Bd.exec
  have hby := Bd.bytes
  have hml : c.maxLocals = 3 := hml0
  have hown : s.vm.findClass "java/util/Arrays" = some m.cls := findClass_of_methodNamed Bd.named
  have hnm := (name_of_methodNamed Bd.named Bd.method).1
  have X0 : Stand p l e ({ frames := 1, cells := 1, slots := 3, locals := 18 } : Room) s m #[(.ref a), (.int (3 : Int32))] below meth c s₁ [] 0 0 := Stand.of_body Bd
  have e0 : s₁.heap = h0 := by rw [← hh, Bd.state]; rfl
  have N0 := Fr.nil n0
  have lA : @LT.lt Nat _ a h0.size := PA.lt
  have v0 : (0 : Int32).toInt = 0 := rfl
  refine oEnter (oCast (ef_rmCof m a (3 : Int32) ) ?_)
  show oGl p e below (s₁.setTop (mkF m 0 #[.val (.ref a), .val (.int (3 : Int32)), .unset] [])) _
  refine siloadN X0 hx (hb hby d31_0) rfl rfl (pc' := 1) ?_
  refine saloadN X0 hx (hb hby d31_1) rfl rfl rfl (pc' := 2) ?_
  refine oOn (PA.len X0 hx hZ e0 (g := (mkF m 2 #[.val (.ref a), .val (.int (3 : Int32)), .unset] [(.ref a), (.int (3 : Int32))])) rfl rfl (hb hby d31_2)) ?_
  show oGl p e below (s₁.setTop (mkF m 3 #[.val (.ref a), .val (.int (3 : Int32)), .unset] [(.int (4 : Int32)), (.int (3 : Int32))])) _
  refine sicY X0 hx (hb hby d31_3) (by decide) (by decide) (feq (by decide : ¬ ((3 : Int32) = (4 : Int32)))).2 (pc' := 14) ?_
  refine siloadN X0 hx (hb hby d31_14) rfl rfl (pc' := 15) ?_
  obtain ⟨T1, h1, k1, X1, e1, E1, A1, EA1, st1⟩ := newPE X0 hx hZ (hw _ (List.mem_of_getElem? (i := 22) rfl)) e0 (g := (mkF m 15 #[.val (.ref a), .val (.int (3 : Int32)), .unset] [(.int (3 : Int32))])) rfl (hb hby d31_15) rfl (by decide) (cap := 3) (by decide) (by decide) (by decide) (by decide) (ad := "[B") rfl
  obtain ⟨a1, g1⟩ : ∃ z, z = h0.size := ⟨_, rfl⟩
  rw [← g1] at A1 EA1 st1
  refine oOn st1 ?_
  have z2 : h0.size ≤ h1.size := E1.1
  have lt1 : a1 < h1.size := A1.lt
  have V1 : oAI Z h1 a1 .byte 3 (fun _ => 0) := oAI.new A1 rfl
  show oGl p e below (T1.setTop (mkF m 17 #[.val (.ref a), .val (.int (3 : Int32)), .unset] [(.ref a1)])) _
  refine sastoreN X1 hx (hb hby d31_17) rfl rfl rfl (l' := #[.val (.ref a), .val (.int (3 : Int32)), .val (.ref a1)]) (pc' := 18) ?_
  refine saloadN X1 hx (hb hby d31_18) rfl rfl rfl (pc' := 19) ?_
  refine siconst X1 hx (hb hby d31_19) rfl rfl (z := 0) (pc' := 20) ?_
  refine saloadN X1 hx (hb hby d31_20) rfl rfl rfl (pc' := 21) ?_
  refine siconst X1 hx (hb hby d31_21) rfl rfl (z := 0) (pc' := 22) ?_
  refine saloadN X1 hx (hb hby d31_22) rfl rfl rfl (pc' := 23) ?_
  have f3 := (PA.ext E1)
  refine oOn (f3.len X1 hx hZ e1 (g := (mkF m 23 #[.val (.ref a), .val (.int (3 : Int32)), .val (.ref a1)] [(.ref a), (.int (0 : Int32)), (.ref a1), (.int (0 : Int32)), (.ref a)])) rfl rfl (hb hby d31_23)) ?_
  show oGl p e below (T1.setTop (mkF m 24 #[.val (.ref a), .val (.int (3 : Int32)), .val (.ref a1)] [(.int (4 : Int32)), (.int (0 : Int32)), (.ref a1), (.int (0 : Int32)), (.ref a)])) _
  refine siloadN X1 hx (hb hby d31_24) rfl rfl (pc' := 25) ?_
  have hz4 : n0 ≤ h1.size := by omega
  obtain ⟨_, _, ⟨T4, L4, k4, n4⟩, -, X4, ⟨Lc4, hQ4, l4, y4, z4⟩, st4⟩ := Jvm.LawKit.callS X1 hx (y := (⟨"java/lang/Math", "min", "(II)I"⟩ : MethodName)) hown (mvT hZ (hw _ (List.mem_of_getElem? (i := 196) rfl))) (mvT hZ (hw _ (List.mem_of_getElem? (i := 143) rfl))) (mvT hZ (hw _ (List.mem_of_getElem? (i := 144) rfl))) (mvT hZ (hw _ (List.mem_of_getElem? (i := 145) rfl))) (by decide) (backOf (W := 4) (rmMin43 l Z a0 hw []  h1 n0 hz4 ) hZ (hw _ (List.mem_of_getElem? (i := 145) rfl)) (hw _ (List.mem_of_getElem? (i := 144) rfl)) (by decide) (by decide)) (g := (mkF m 25 #[.val (.ref a), .val (.int (3 : Int32)), .val (.ref a1)] [(.int (3 : Int32)), (.int (4 : Int32)), (.int (0 : Int32)), (.ref a1), (.int (0 : Int32)), (.ref a)])) rfl (by rw [hml]; rfl) (argsL := [(.int (4 : Int32)), (.int (3 : Int32))]) (rest := [(.int (0 : Int32)), (.ref a1), (.int (0 : Int32)), (.ref a)]) (lenOf pd_14 rfl) rfl (by show 2 * 0 + _ ≤ _; exact Nat.le_of_eq rfl) (hb hby d31_25) (fun _ _ => ⟨rfl, e1, (by decide : 1 + 0 ≤ _), (by decide : 3 + 0 ≤ _)⟩)
  dsimp only [Pt.U, Pt.locs, Pt.cells, Pt.slots] at X4 l4 y4 z4 st4 hQ4
  subst l4 y4 z4
  obtain ⟨rfl, N4q, eh4⟩ := hQ4
  have N4 := Fr.app N0 N4q
  refine oOn st4 ?_
  show oGl p e below (T4.setTop (mkF m 28 #[.val (.ref a), .val (.int (3 : Int32)), .val (.ref a1)] [(.int (3 : Int32)), (.int (0 : Int32)), (.ref a1), (.int (0 : Int32)), (.ref a)])) _
  obtain ⟨T5, h5, L5, X5, e5, N5, K5, V5, st5⟩ := oCp X4 hx hZ hown (hw _ (List.mem_of_getElem? (i := 197) rfl)) (hw _ (List.mem_of_getElem? (i := 162) rfl)) (hw _ (List.mem_of_getElem? (i := 160) rfl)) (hw _ (List.mem_of_getElem? (i := 161) rfl)) eh4 f3 V1 Fg oFit0 (by decide) (by decide) (by decide) (by decide) (by decide) N4 (by omega) (gf := (mkF m 28 #[.val (.ref a), .val (.int (3 : Int32)), .val (.ref a1)] [(.int (3 : Int32)), (.int (0 : Int32)), (.ref a1), (.int (0 : Int32)), (.ref a)])) rfl (by rw [hml]; rfl) (rest := []) rfl (hb hby d31_28) (by decide) (W := 0) (by show 2 * 0 + _ ≤ _; exact Nat.le_of_eq rfl) (by decide)
  refine oOn st5 ?_
  have z6 : h1.size ≤ h5.size := K5.1
  obtain ⟨g5, Vc5, Fc5⟩ : ∃ g, oAI Z h5 a1 .byte 3 g ∧ oFit 3 g := ⟨_, V5, oFit.cp (fun j hj => Fg _ (by have hj : j < 3 := hj; omega)) oFit0⟩
  show oGl p e below (T5.setTop (mkF m 31 #[.val (.ref a), .val (.int (3 : Int32)), .val (.ref a1)] [])) _
  refine saloadN X5 hx (hb hby d31_31) rfl rfl rfl (pc' := 32) ?_
  have kp7 : Keep h0 h5 [a1] := (((Keep.refl h0 [a1]).ext E1).trans K5 (allS (Or.inl (List.mem_of_getElem? (i := 0) rfl)) all0))
  refine oRetR X5 hx Bd.notSynchronized Bd.returns rfl rfl (hb hby d31_32) (by decide) (by decide) ?_
  show Q_rmCof Z a g h0 n0 _ T5.heap _
  rw [e5]
  exact ⟨a1, _, rfl, N5, oKeepN kp7 (by omega), by omega, Vc5, Fc5⟩
theorem d18_134 : decode jdk_42_method_46_code 134 = .ok (.aload 4, 2) := by decide +kernel
theorem d18_136 : decode jdk_42_method_46_code 136 = .ok (.iload_n 3, 1) := by decide +kernel
theorem d18_137 : decode jdk_42_method_46_code 137 = .ok (.invokestatic 102, 3) := by decide +kernel
theorem pd_15 : parseMethodDescriptor "([BI)[B" = some ⟨[(.array .byte), .int], some (.array .byte)⟩ := by decide +kernel
theorem d18_140 : decode jdk_42_method_46_code 140 = .ok (.areturn, 1) := by decide +kernel
theorem ef_rmEn82 (m : MethodId) (x0 : Int32) (x1 : Nat) (x2 : Int32)  : entryFrame m #[(.int x0), (.ref x1), (.int x2)] 9 = mkF m 0 #[.val (.int x0), .val (.ref x1), .val (.int x2), .unset, .unset, .unset, .unset, .unset, .unset] [] := by first | (simp [entryFrame, mkF, argsToLocals, Value.category, maxLocals]; done) | rfl
def Q_rmEn82 (Z : State) (b : Nat) (f : Nat → Int32) (h0 : Heap) (n0 : Nat) (vv : Option Value) (h : Heap) (L : List Loc) : Prop := ∃ (d : Nat) (g : Nat → Int32), vv = some (.ref d) ∧ Fr n0 L ∧ Keep h0 h [] ∧ h0.size ≤ d ∧ oAI Z h d .byte (oU2 f) g ∧ oFit (oU2 f) g
set_option maxRecDepth 65536 in
set_option maxHeartbeats 40000000 in
theorem rmEn82 (l : Launch) (Z : State) (a0 : Array Value) (hw : ∀ d ∈ tables_1, d.before a0 Z = true) (ws : List Jvm.Cond) (b : Nat) (f : Nat → Int32) (h0 : Heap) (n0 : Nat) (Z0 : n0 ≤ h0.size) (PB : oAI Z h0 b .byte 2 f) (EX : Exa Z h0 b "[B") (Ff : oFit 2 f) :
    MetFree l (⟨"java/lang/String", "encodeUTF8", "(B[BZ)[B"⟩ : MethodName) (head1 (Jvm.Cond.code (⟨"java/lang/String", "encodeUTF8", "(B[BZ)[B"⟩ : MethodName) jdk_42_method_46_code 9 (some (.array .byte)) :: ws) ({ frames := 2, cells := 2, slots := 7, locals := 32 } : Room)) (fun aA uU => aA = #[(.int (0 : Int32)), (.ref b), (.int (1 : Int32))] ∧ Z.Warmed39 uU.vm ∧ uU.heap = h0) (fun _ _ _ _ _ => True) (fun _ uU oO uU' => ∃ vV lL, oO = .returned vV ∧ Q_rmEn82 Z b f h0 n0 vV uU'.heap lL ∧ FrameEnd uU oO uU' lL ({ frames := 2, cells := 2, slots := 7, locals := 32 } : Room).cells ({ frames := 2, cells := 2, slots := 7, locals := 32 } : Room).slots) := by
  refine MetFree.of_bodySF (plainFor_of_name pn_String) hisR ?_
  intro p e s m args below meth c s₁ Bd hml0 hP hK
  obtain ⟨rfl, hZ, hh⟩ := hP
  have hx := Bd.exec
  have hby := Bd.bytes
  have hml : c.maxLocals = 9 := hml0
  have hown : s.vm.findClass "java/lang/String" = some m.cls := findClass_of_methodNamed Bd.named
  have hnm := (name_of_methodNamed Bd.named Bd.method).1
  have X0 : Stand p l e ({ frames := 2, cells := 2, slots := 7, locals := 32 } : Room) s m #[(.int (0 : Int32)), (.ref b), (.int (1 : Int32))] below meth c s₁ [] 0 0 := Stand.of_body Bd
  have e0 : s₁.heap = h0 := by rw [← hh, Bd.state]; rfl
  have N0 := Fr.nil n0
  have lB : @LT.lt Nat _ b h0.size := PB.lt
  refine oEnter (oCast (ef_rmEn82 m (0 : Int32) b (1 : Int32) ) ?_)
  show oGl p e below (s₁.setTop (mkF m 0 #[.val (.int (0 : Int32)), .val (.ref b), .val (.int (1 : Int32)), .unset, .unset, .unset, .unset, .unset, .unset] [])) _
  refine siloadN X0 hx (hb hby d18_0) rfl rfl (pc' := 1) ?_
  refine siconst X0 hx (hb hby d18_1) rfl rfl (z := 1) (pc' := 2) ?_
  refine sicY X0 hx (hb hby d18_2) (by decide) (by decide) (feq (by decide : ¬ ((0 : Int32) = (1 : Int32)))).2 (pc' := 11) ?_
  refine saloadN X0 hx (hb hby d18_11) rfl rfl rfl (pc' := 12) ?_
  refine siconst X0 hx (hb hby d18_12) rfl rfl (z := 0) (pc' := 13) ?_
  refine saloadN X0 hx (hb hby d18_13) rfl rfl rfl (pc' := 14) ?_
  refine oOn (PB.len X0 hx hZ e0 (g := (mkF m 14 #[.val (.int (0 : Int32)), .val (.ref b), .val (.int (1 : Int32)), .unset, .unset, .unset, .unset, .unset, .unset] [(.ref b), (.int (0 : Int32)), (.ref b)])) rfl rfl (hb hby d18_14)) ?_
  show oGl p e below (s₁.setTop (mkF m 15 #[.val (.int (0 : Int32)), .val (.ref b), .val (.int (1 : Int32)), .unset, .unset, .unset, .unset, .unset, .unset] [(.int (2 : Int32)), (.int (0 : Int32)), (.ref b)])) _
  have hz1 : n0 ≤ h0.size := by omega
  obtain ⟨_, _, ⟨T1, L1, k1, n1⟩, -, X1, ⟨Lc1, hQ1, l1, y1, z1⟩, st1⟩ := Jvm.LawKit.callS X0 hx (y := (⟨"java/lang/StringCoding", "hasNegatives", "([BII)Z"⟩ : MethodName)) hown (mvT hZ (hw _ (List.mem_of_getElem? (i := 108) rfl))) (mvT hZ (hw _ (List.mem_of_getElem? (i := 109) rfl))) (mvT hZ (hw _ (List.mem_of_getElem? (i := 110) rfl))) (mvT hZ (hw _ (List.mem_of_getElem? (i := 111) rfl))) (by decide) (backOf (W := 0) (rmHng2 l Z a0 hw [] b f h0 n0 hz1 PB) hZ (hw _ (List.mem_of_getElem? (i := 111) rfl)) (hw _ (List.mem_of_getElem? (i := 110) rfl)) (by decide) (by decide)) (g := (mkF m 15 #[.val (.int (0 : Int32)), .val (.ref b), .val (.int (1 : Int32)), .unset, .unset, .unset, .unset, .unset, .unset] [(.int (2 : Int32)), (.int (0 : Int32)), (.ref b)])) rfl (by rw [hml]; rfl) (argsL := [(.ref b), (.int (0 : Int32)), (.int (2 : Int32))]) (rest := []) (lenOf pd_9 rfl) rfl (by show 2 * 0 + _ ≤ _; exact Nat.le_of_eq rfl) (hb hby d18_15) (fun _ _ => ⟨rfl, e0, (by decide : 0 + 0 ≤ _), (by decide : 0 + 0 ≤ _)⟩)
  dsimp only [Pt.U, Pt.locs, Pt.cells, Pt.slots] at X1 l1 y1 z1 st1 hQ1
  subst l1 y1 z1
  obtain ⟨r1, rfl, N1q, eh1, pq1⟩ := hQ1
  have N1 := Fr.app N0 N1q
  refine oOn st1 ?_
  show oGl p e below (T1.setTop (mkF m 18 #[.val (.int (0 : Int32)), .val (.ref b), .val (.int (1 : Int32)), .unset, .unset, .unset, .unset, .unset, .unset] [(.int r1)])) _
  by_cases hc18 : r1 = (0 : Int32)
  · skip
    refine sifN X1 hx (hb hby d18_18) rfl (teq hc18).2 (pc' := 21) ?_
    refine saloadN X1 hx (hb hby d18_21) rfl rfl rfl (pc' := 22) ?_
    obtain ⟨T2, h2, X2, e2, E2, V2, EA2, st2⟩ := oCl X1 hx hZ hown (hw _ (List.mem_of_getElem? (i := 115) rfl)) (hw _ (List.mem_of_getElem? (i := 116) rfl)) (hw _ (List.mem_of_getElem? (i := 120) rfl)) (hw _ (List.mem_of_getElem? (i := 118) rfl)) (hw _ (List.mem_of_getElem? (i := 119) rfl)) (hw _ (List.mem_of_getElem? (i := 121) rfl)) eh1 PB EX Ff (g := (mkF m 22 #[.val (.int (0 : Int32)), .val (.ref b), .val (.int (1 : Int32)), .unset, .unset, .unset, .unset, .unset, .unset] [(.ref b)])) rfl (by rw [hml]; rfl) (rest := []) rfl (hb hby d18_22) (by decide) (W := 0) (by show 2 * 0 + _ ≤ _; exact Nat.le_of_eq rfl) (by decide) (by decide) (by decide)
    obtain ⟨a2, g2⟩ : ∃ z, z = h0.size := ⟨_, rfl⟩
    rw [← g2] at V2 EA2 st2
    refine oOn st2 ?_
    have z3 : h0.size ≤ h2.size := E2.1
    have lt2 : a2 < h2.size := V2.lt
    show oGl p e below (T2.setTop (mkF m 25 #[.val (.int (0 : Int32)), .val (.ref b), .val (.int (1 : Int32)), .unset, .unset, .unset, .unset, .unset, .unset] [(.ref a2)])) _
    obtain ⟨T4, X4, e4, st4⟩ := castY X2 hx hZ hown (hw _ (List.mem_of_getElem? (i := 122) rfl)) e2 (Ins.self EA2) (g := (mkF m 25 #[.val (.int (0 : Int32)), .val (.ref b), .val (.int (1 : Int32)), .unset, .unset, .unset, .unset, .unset, .unset] [(.ref a2)])) rfl rfl (hb hby d18_25)
    refine oOn st4 ?_
    show oGl p e below (T4.setTop (mkF m 28 #[.val (.int (0 : Int32)), .val (.ref b), .val (.int (1 : Int32)), .unset, .unset, .unset, .unset, .unset, .unset] [(.ref a2)])) _
    have hno := (pq1.resolve_right (fun q => absurd (hc18.symm.trans q.1) (by decide))).2
    have hu : (oU2 f) = 2 := by
      unfold oU2 oU1; rw [if_neg (hno 0 (by decide)), if_neg (hno 1 (by decide))]
    have kp5 : Keep h0 h2 [] := ((Keep.refl h0 []).ext E2)
    refine oRetR X4 hx Bd.notSynchronized Bd.returns rfl rfl (hb hby d18_28) (by decide) (by decide) ?_
    show Q_rmEn82 Z b f h0 n0 _ T4.heap _
    rw [e4]
    exact ⟨a2, _, rfl, N1, kp5, by omega, by rw [hu]; exact V2, by rw [hu]; exact Ff⟩
  · skip
    refine sifY X1 hx (hb hby d18_18) (by decide) (by decide) (feq hc18).2 (pc' := 29) ?_
    refine siconst X1 hx (hb hby d18_29) rfl rfl (z := 0) (pc' := 30) ?_
    refine sistoreN X1 hx (hb hby d18_30) rfl rfl (l' := #[.val (.int (0 : Int32)), .val (.ref b), .val (.int (1 : Int32)), .val (.int (0 : Int32)), .unset, .unset, .unset, .unset, .unset]) (pc' := 31) ?_
    refine saloadN X1 hx (hb hby d18_31) rfl rfl rfl (pc' := 32) ?_
    refine oOn (PB.len X1 hx hZ eh1 (g := (mkF m 32 #[.val (.int (0 : Int32)), .val (.ref b), .val (.int (1 : Int32)), .val (.int (0 : Int32)), .unset, .unset, .unset, .unset, .unset] [(.ref b)])) rfl rfl (hb hby d18_32)) ?_
    show oGl p e below (T1.setTop (mkF m 33 #[.val (.int (0 : Int32)), .val (.ref b), .val (.int (1 : Int32)), .val (.int (0 : Int32)), .unset, .unset, .unset, .unset, .unset] [(.int (2 : Int32))])) _
    have hz6 : n0 ≤ h0.size := by omega
    obtain ⟨_, _, ⟨T6, L6, k6, n6⟩, -, X6, ⟨Lc6, hQ6, l6, y6, z6⟩, st6⟩ := Jvm.LawKit.callS X1 hx (y := (⟨"java/lang/StringUTF16", "newBytesFor", "(I)[B"⟩ : MethodName)) hown (mvT hZ (hw _ (List.mem_of_getElem? (i := 185) rfl))) (mvT hZ (hw _ (List.mem_of_getElem? (i := 186) rfl))) (mvT hZ (hw _ (List.mem_of_getElem? (i := 43) rfl))) (mvT hZ (hw _ (List.mem_of_getElem? (i := 187) rfl))) (by decide) (backOf (W := 0) (rmNbf2 l Z a0 hw []  h0 n0 hz6 ) hZ (hw _ (List.mem_of_getElem? (i := 187) rfl)) (hw _ (List.mem_of_getElem? (i := 43) rfl)) (by decide) (by decide)) (g := (mkF m 33 #[.val (.int (0 : Int32)), .val (.ref b), .val (.int (1 : Int32)), .val (.int (0 : Int32)), .unset, .unset, .unset, .unset, .unset] [(.int (2 : Int32))])) rfl (by rw [hml]; rfl) (argsL := [(.int (2 : Int32))]) (rest := []) (lenOf pd_10 rfl) rfl (by show 2 * 0 + _ ≤ _; exact Nat.le_of_eq rfl) (hb hby d18_33) (fun _ _ => ⟨rfl, eh1, (by decide : 0 + 1 ≤ _), (by decide : 0 + 4 ≤ _)⟩)
    dsimp only [Pt.U, Pt.locs, Pt.cells, Pt.slots] at X6 l6 y6 z6 st6 hQ6
    subst l6 y6 z6
    obtain ⟨d6, rfl, N6q, K6, zd6, Vd6⟩ := hQ6
    have N6 := Fr.app N1 N6q
    have z7 : h0.size ≤ T6.heap.size := K6.1
    refine oOn st6 ?_
    have ld6 : @LT.lt Nat _ d6 T6.heap.size := Vd6.lt
    show oGl p e below (T6.setTop (mkF m 36 #[.val (.int (0 : Int32)), .val (.ref b), .val (.int (1 : Int32)), .val (.int (0 : Int32)), .unset, .unset, .unset, .unset, .unset] [(.ref d6)])) _
    refine sastore X6 hx (hb hby d18_36) rfl rfl rfl (l' := #[.val (.int (0 : Int32)), .val (.ref b), .val (.int (1 : Int32)), .val (.int (0 : Int32)), .val (.ref d6), .unset, .unset, .unset, .unset]) (pc' := 38) ?_
    refine saloadN X6 hx (hb hby d18_38) rfl rfl rfl (pc' := 39) ?_
    refine sastore X6 hx (hb hby d18_39) rfl rfl rfl (l' := #[.val (.int (0 : Int32)), .val (.ref b), .val (.int (1 : Int32)), .val (.int (0 : Int32)), .val (.ref d6), .val (.ref b), .unset, .unset, .unset]) (pc' := 41) ?_
    refine saload X6 hx (hb hby d18_41) rfl rfl rfl (pc' := 43) ?_
    have f8 := (PB.keep K6 nin0)
    refine oOn (f8.len X6 hx hZ rfl (g := (mkF m 43 #[.val (.int (0 : Int32)), .val (.ref b), .val (.int (1 : Int32)), .val (.int (0 : Int32)), .val (.ref d6), .val (.ref b), .unset, .unset, .unset] [(.ref b)])) rfl rfl (hb hby d18_43)) ?_
    show oGl p e below (T6.setTop (mkF m 44 #[.val (.int (0 : Int32)), .val (.ref b), .val (.int (1 : Int32)), .val (.int (0 : Int32)), .val (.ref d6), .val (.ref b), .unset, .unset, .unset] [(.int (2 : Int32))])) _
    refine sistore X6 hx (hb hby d18_44) rfl rfl (l' := #[.val (.int (0 : Int32)), .val (.ref b), .val (.int (1 : Int32)), .val (.int (0 : Int32)), .val (.ref d6), .val (.ref b), .val (.int (2 : Int32)), .unset, .unset]) (pc' := 46) ?_
    refine siconst X6 hx (hb hby d18_46) rfl rfl (z := 0) (pc' := 47) ?_
    refine sistore X6 hx (hb hby d18_47) rfl rfl (l' := #[.val (.int (0 : Int32)), .val (.ref b), .val (.int (1 : Int32)), .val (.int (0 : Int32)), .val (.ref d6), .val (.ref b), .val (.int (2 : Int32)), .val (.int (0 : Int32)), .unset]) (pc' := 49) ?_
    refine siload X6 hx (hb hby d18_49) rfl rfl (pc' := 51) ?_
    refine siload X6 hx (hb hby d18_51) rfl rfl (pc' := 53) ?_
    refine sicN X6 hx (hb hby d18_53) rfl (tlt (by decide : (0 : Int32) < (2 : Int32))).2.1 (pc' := 56) ?_
    refine saload X6 hx (hb hby d18_56) rfl rfl rfl (pc' := 58) ?_
    refine siload X6 hx (hb hby d18_58) rfl rfl (pc' := 60) ?_
    refine oOn (f8.ldB X6 hx hZ rfl (j := (0 : Int32)) (by decide) (g := (mkF m 60 #[.val (.int (0 : Int32)), .val (.ref b), .val (.int (1 : Int32)), .val (.int (0 : Int32)), .val (.ref d6), .val (.ref b), .val (.int (2 : Int32)), .val (.int (0 : Int32)), .unset] [(.int (0 : Int32)), (.ref b)])) rfl rfl (hb hby d18_60)) ?_
    show oGl p e below (T6.setTop (mkF m 61 #[.val (.int (0 : Int32)), .val (.ref b), .val (.int (1 : Int32)), .val (.int (0 : Int32)), .val (.ref d6), .val (.ref b), .val (.int (2 : Int32)), .val (.int (0 : Int32)), .unset] [(.int (f 0))])) _
    refine sistore X6 hx (hb hby d18_61) rfl rfl (l' := #[.val (.int (0 : Int32)), .val (.ref b), .val (.int (1 : Int32)), .val (.int (0 : Int32)), .val (.ref d6), .val (.ref b), .val (.int (2 : Int32)), .val (.int (0 : Int32)), .val (.int (f 0))]) (pc' := 63) ?_
    refine siload X6 hx (hb hby d18_63) rfl rfl (pc' := 65) ?_
    by_cases hc65 : (f 0) < (0 : Int32)
    · skip
      refine sifN X6 hx (hb hby d18_65) rfl (tlt hc65).2.1 (pc' := 68) ?_
      refine saload X6 hx (hb hby d18_68) rfl rfl rfl (pc' := 70) ?_
      refine siloadN X6 hx (hb hby d18_70) rfl rfl (pc' := 71) ?_
      refine siinc X6 hx (hb hby d18_71) rfl rfl rfl (l' := #[.val (.int (0 : Int32)), .val (.ref b), .val (.int (1 : Int32)), .val (.int (1 : Int32)), .val (.ref d6), .val (.ref b), .val (.int (2 : Int32)), .val (.int (0 : Int32)), .val (.int (f 0))]) (pc' := 74) ?_
      refine ssipush X6 hx (hb hby d18_74) rfl rfl (z := 192) (pc' := 77) ?_
      refine siload X6 hx (hb hby d18_77) rfl rfl (pc' := 79) ?_
      refine ssipush X6 hx (hb hby d18_79) rfl rfl (z := 255) (pc' := 82) ?_
      refine siand X6 hx (hb hby d18_82) rfl rfl (pc' := 83) ?_
      refine sbipush X6 hx (hb hby d18_83) rfl rfl (z := 6) (pc' := 85) ?_
      refine sishr X6 hx (hb hby d18_85) rfl rfl (pc' := 86) ?_
      refine sior X6 hx (hb hby d18_86) rfl rfl (pc' := 87) ?_
      refine si2b X6 hx (hb hby d18_87) rfl rfl (pc' := 88) ?_
      obtain ⟨T9, h9, X9, e9, W9, V9, st9⟩ := Vd6.stB X6 hx hZ rfl (j := (0 : Int32)) (by decide) (g := (mkF m 88 #[.val (.int (0 : Int32)), .val (.ref b), .val (.int (1 : Int32)), .val (.int (1 : Int32)), .val (.ref d6), .val (.ref b), .val (.int (2 : Int32)), .val (.int (0 : Int32)), .val (.int (f 0))] [(.int ((((192 : Int32) ||| (((f 0) &&& (255 : Int32)) >>> ((6 : Int32) &&& 31)))).toInt8.toInt32)), (.int (0 : Int32)), (.ref d6)])) rfl rfl (hb hby d18_88)
      refine oOn st9 ?_
      have z10 : T6.heap.size ≤ h9.size := Nat.le_of_eq W9.size.symm
      have N9 := Fr.snoc X9 N6 (by omega)
      show oGl p e below (T9.setTop (mkF m 89 #[.val (.int (0 : Int32)), .val (.ref b), .val (.int (1 : Int32)), .val (.int (1 : Int32)), .val (.ref d6), .val (.ref b), .val (.int (2 : Int32)), .val (.int (0 : Int32)), .val (.int (f 0))] [])) _
      refine saload X9 hx (hb hby d18_89) rfl rfl rfl (pc' := 91) ?_
      refine siloadN X9 hx (hb hby d18_91) rfl rfl (pc' := 92) ?_
      refine siinc X9 hx (hb hby d18_92) rfl rfl rfl (l' := #[.val (.int (0 : Int32)), .val (.ref b), .val (.int (1 : Int32)), .val (.int (2 : Int32)), .val (.ref d6), .val (.ref b), .val (.int (2 : Int32)), .val (.int (0 : Int32)), .val (.int (f 0))]) (pc' := 95) ?_
      refine ssipush X9 hx (hb hby d18_95) rfl rfl (z := 128) (pc' := 98) ?_
      refine siload X9 hx (hb hby d18_98) rfl rfl (pc' := 100) ?_
      refine sbipush X9 hx (hb hby d18_100) rfl rfl (z := 63) (pc' := 102) ?_
      refine siand X9 hx (hb hby d18_102) rfl rfl (pc' := 103) ?_
      refine sior X9 hx (hb hby d18_103) rfl rfl (pc' := 104) ?_
      refine si2b X9 hx (hb hby d18_104) rfl rfl (pc' := 105) ?_
      obtain ⟨T11, h11, X11, e11, W11, V11, st11⟩ := V9.stB X9 hx hZ e9 (j := (1 : Int32)) (by decide) (g := (mkF m 105 #[.val (.int (0 : Int32)), .val (.ref b), .val (.int (1 : Int32)), .val (.int (2 : Int32)), .val (.ref d6), .val (.ref b), .val (.int (2 : Int32)), .val (.int (0 : Int32)), .val (.int (f 0))] [(.int ((((128 : Int32) ||| ((f 0) &&& (63 : Int32)))).toInt8.toInt32)), (.int (1 : Int32)), (.ref d6)])) rfl rfl (hb hby d18_105)
      refine oOn st11 ?_
      have z12 : h9.size ≤ h11.size := Nat.le_of_eq W11.size.symm
      have N11 := Fr.snoc X11 N9 (by omega)
      show oGl p e below (T11.setTop (mkF m 106 #[.val (.int (0 : Int32)), .val (.ref b), .val (.int (1 : Int32)), .val (.int (2 : Int32)), .val (.ref d6), .val (.ref b), .val (.int (2 : Int32)), .val (.int (0 : Int32)), .val (.int (f 0))] [])) _
      refine sgoto X11 hx (hb hby d18_106) (by decide) (by decide)  (pc' := 118) ?_
      refine siinc X11 hx (hb hby d18_118) rfl rfl rfl (l' := #[.val (.int (0 : Int32)), .val (.ref b), .val (.int (1 : Int32)), .val (.int (2 : Int32)), .val (.ref d6), .val (.ref b), .val (.int (2 : Int32)), .val (.int (1 : Int32)), .val (.int (f 0))]) (pc' := 121) ?_
      refine sgoto X11 hx (hb hby d18_121) (by decide) (by decide)  (pc' := 49) ?_
      refine siload X11 hx (hb hby d18_49) rfl rfl (pc' := 51) ?_
      refine siload X11 hx (hb hby d18_51) rfl rfl (pc' := 53) ?_
      refine sicN X11 hx (hb hby d18_53) rfl (tlt (by decide : (1 : Int32) < (2 : Int32))).2.1 (pc' := 56) ?_
      refine saload X11 hx (hb hby d18_56) rfl rfl rfl (pc' := 58) ?_
      refine siload X11 hx (hb hby d18_58) rfl rfl (pc' := 60) ?_
      have f13 := ((f8.other W9 (oNe (by omega))).other W11 (oNe (by omega)))
      refine oOn (f13.ldB X11 hx hZ e11 (j := (1 : Int32)) (by decide) (g := (mkF m 60 #[.val (.int (0 : Int32)), .val (.ref b), .val (.int (1 : Int32)), .val (.int (2 : Int32)), .val (.ref d6), .val (.ref b), .val (.int (2 : Int32)), .val (.int (1 : Int32)), .val (.int (f 0))] [(.int (1 : Int32)), (.ref b)])) rfl rfl (hb hby d18_60)) ?_
      show oGl p e below (T11.setTop (mkF m 61 #[.val (.int (0 : Int32)), .val (.ref b), .val (.int (1 : Int32)), .val (.int (2 : Int32)), .val (.ref d6), .val (.ref b), .val (.int (2 : Int32)), .val (.int (1 : Int32)), .val (.int (f 0))] [(.int (f 1))])) _
      refine sistore X11 hx (hb hby d18_61) rfl rfl (l' := #[.val (.int (0 : Int32)), .val (.ref b), .val (.int (1 : Int32)), .val (.int (2 : Int32)), .val (.ref d6), .val (.ref b), .val (.int (2 : Int32)), .val (.int (1 : Int32)), .val (.int (f 1))]) (pc' := 63) ?_
      refine siload X11 hx (hb hby d18_63) rfl rfl (pc' := 65) ?_
      by_cases hc65_2 : (f 1) < (0 : Int32)
      · skip
        refine sifN X11 hx (hb hby d18_65) rfl (tlt hc65_2).2.1 (pc' := 68) ?_
        refine saload X11 hx (hb hby d18_68) rfl rfl rfl (pc' := 70) ?_
        refine siloadN X11 hx (hb hby d18_70) rfl rfl (pc' := 71) ?_
        refine siinc X11 hx (hb hby d18_71) rfl rfl rfl (l' := #[.val (.int (0 : Int32)), .val (.ref b), .val (.int (1 : Int32)), .val (.int (3 : Int32)), .val (.ref d6), .val (.ref b), .val (.int (2 : Int32)), .val (.int (1 : Int32)), .val (.int (f 1))]) (pc' := 74) ?_
        refine ssipush X11 hx (hb hby d18_74) rfl rfl (z := 192) (pc' := 77) ?_
        refine siload X11 hx (hb hby d18_77) rfl rfl (pc' := 79) ?_
        refine ssipush X11 hx (hb hby d18_79) rfl rfl (z := 255) (pc' := 82) ?_
        refine siand X11 hx (hb hby d18_82) rfl rfl (pc' := 83) ?_
        refine sbipush X11 hx (hb hby d18_83) rfl rfl (z := 6) (pc' := 85) ?_
        refine sishr X11 hx (hb hby d18_85) rfl rfl (pc' := 86) ?_
        refine sior X11 hx (hb hby d18_86) rfl rfl (pc' := 87) ?_
        refine si2b X11 hx (hb hby d18_87) rfl rfl (pc' := 88) ?_
        obtain ⟨T14, h14, X14, e14, W14, V14, st14⟩ := V11.stB X11 hx hZ e11 (j := (2 : Int32)) (by decide) (g := (mkF m 88 #[.val (.int (0 : Int32)), .val (.ref b), .val (.int (1 : Int32)), .val (.int (3 : Int32)), .val (.ref d6), .val (.ref b), .val (.int (2 : Int32)), .val (.int (1 : Int32)), .val (.int (f 1))] [(.int ((((192 : Int32) ||| (((f 1) &&& (255 : Int32)) >>> ((6 : Int32) &&& 31)))).toInt8.toInt32)), (.int (2 : Int32)), (.ref d6)])) rfl rfl (hb hby d18_88)
        refine oOn st14 ?_
        have z15 : h11.size ≤ h14.size := Nat.le_of_eq W14.size.symm
        have N14 := Fr.snoc X14 N11 (by omega)
        show oGl p e below (T14.setTop (mkF m 89 #[.val (.int (0 : Int32)), .val (.ref b), .val (.int (1 : Int32)), .val (.int (3 : Int32)), .val (.ref d6), .val (.ref b), .val (.int (2 : Int32)), .val (.int (1 : Int32)), .val (.int (f 1))] [])) _
        refine saload X14 hx (hb hby d18_89) rfl rfl rfl (pc' := 91) ?_
        refine siloadN X14 hx (hb hby d18_91) rfl rfl (pc' := 92) ?_
        refine siinc X14 hx (hb hby d18_92) rfl rfl rfl (l' := #[.val (.int (0 : Int32)), .val (.ref b), .val (.int (1 : Int32)), .val (.int (4 : Int32)), .val (.ref d6), .val (.ref b), .val (.int (2 : Int32)), .val (.int (1 : Int32)), .val (.int (f 1))]) (pc' := 95) ?_
        refine ssipush X14 hx (hb hby d18_95) rfl rfl (z := 128) (pc' := 98) ?_
        refine siload X14 hx (hb hby d18_98) rfl rfl (pc' := 100) ?_
        refine sbipush X14 hx (hb hby d18_100) rfl rfl (z := 63) (pc' := 102) ?_
        refine siand X14 hx (hb hby d18_102) rfl rfl (pc' := 103) ?_
        refine sior X14 hx (hb hby d18_103) rfl rfl (pc' := 104) ?_
        refine si2b X14 hx (hb hby d18_104) rfl rfl (pc' := 105) ?_
        obtain ⟨T16, h16, X16, e16, W16, V16, st16⟩ := V14.stB X14 hx hZ e14 (j := (3 : Int32)) (by decide) (g := (mkF m 105 #[.val (.int (0 : Int32)), .val (.ref b), .val (.int (1 : Int32)), .val (.int (4 : Int32)), .val (.ref d6), .val (.ref b), .val (.int (2 : Int32)), .val (.int (1 : Int32)), .val (.int (f 1))] [(.int ((((128 : Int32) ||| ((f 1) &&& (63 : Int32)))).toInt8.toInt32)), (.int (3 : Int32)), (.ref d6)])) rfl rfl (hb hby d18_105)
        refine oOn st16 ?_
        have z17 : h14.size ≤ h16.size := Nat.le_of_eq W16.size.symm
        have N16 := Fr.snoc X16 N14 (by omega)
        show oGl p e below (T16.setTop (mkF m 106 #[.val (.int (0 : Int32)), .val (.ref b), .val (.int (1 : Int32)), .val (.int (4 : Int32)), .val (.ref d6), .val (.ref b), .val (.int (2 : Int32)), .val (.int (1 : Int32)), .val (.int (f 1))] [])) _
        refine sgoto X16 hx (hb hby d18_106) (by decide) (by decide)  (pc' := 118) ?_
        refine siinc X16 hx (hb hby d18_118) rfl rfl rfl (l' := #[.val (.int (0 : Int32)), .val (.ref b), .val (.int (1 : Int32)), .val (.int (4 : Int32)), .val (.ref d6), .val (.ref b), .val (.int (2 : Int32)), .val (.int (2 : Int32)), .val (.int (f 1))]) (pc' := 121) ?_
        refine sgoto X16 hx (hb hby d18_121) (by decide) (by decide)  (pc' := 49) ?_
        refine siload X16 hx (hb hby d18_49) rfl rfl (pc' := 51) ?_
        refine siload X16 hx (hb hby d18_51) rfl rfl (pc' := 53) ?_
        refine sicY X16 hx (hb hby d18_53) (by decide) (by decide) (flt (by decide : ¬ ((2 : Int32) < (2 : Int32)))).2.1 (pc' := 124) ?_
        refine siloadN X16 hx (hb hby d18_124) rfl rfl (pc' := 125) ?_
        refine saload X16 hx (hb hby d18_125) rfl rfl rfl (pc' := 127) ?_
        refine oOn (V16.len X16 hx hZ e16 (g := (mkF m 127 #[.val (.int (0 : Int32)), .val (.ref b), .val (.int (1 : Int32)), .val (.int (4 : Int32)), .val (.ref d6), .val (.ref b), .val (.int (2 : Int32)), .val (.int (2 : Int32)), .val (.int (f 1))] [(.ref d6), (.int (4 : Int32))])) rfl rfl (hb hby d18_127)) ?_
        show oGl p e below (T16.setTop (mkF m 128 #[.val (.int (0 : Int32)), .val (.ref b), .val (.int (1 : Int32)), .val (.int (4 : Int32)), .val (.ref d6), .val (.ref b), .val (.int (2 : Int32)), .val (.int (2 : Int32)), .val (.int (f 1))] [(.int (4 : Int32)), (.int (4 : Int32))])) _
        refine sicN X16 hx (hb hby d18_128) rfl (teq (by decide : (4 : Int32) = (4 : Int32))).2 (pc' := 131) ?_
        refine saload X16 hx (hb hby d18_131) rfl rfl rfl (pc' := 133) ?_
        have hu : (oU2 f) = 4 := by
          unfold oU2 oU1; rw [if_pos hc65, if_pos hc65_2]
        have kp18 : Keep h0 h16 [d6] := ((((((Keep.refl h0 [d6]).trans K6 all0).wr W9 (Or.inl (List.mem_of_getElem? (i := 0) rfl))).wr W11 (Or.inl (List.mem_of_getElem? (i := 0) rfl))).wr W14 (Or.inl (List.mem_of_getElem? (i := 0) rfl))).wr W16 (Or.inl (List.mem_of_getElem? (i := 0) rfl)))
        refine oRetR X16 hx Bd.notSynchronized Bd.returns rfl rfl (hb hby d18_133) (by decide) (by decide) ?_
        show Q_rmEn82 Z b f h0 n0 _ T16.heap _
        rw [e16]
        exact ⟨d6, _, rfl, N16, (oKeepN kp18 (by omega)), by omega, by rw [hu]; exact V16, by rw [hu]; exact (oFit.up (oFit.up (oFit.up (oFit.up oFit0))))⟩
      · skip
        refine sifY X11 hx (hb hby d18_65) (by decide) (by decide) (flt hc65_2).2.1 (pc' := 109) ?_
        refine saload X11 hx (hb hby d18_109) rfl rfl rfl (pc' := 111) ?_
        refine siloadN X11 hx (hb hby d18_111) rfl rfl (pc' := 112) ?_
        refine siinc X11 hx (hb hby d18_112) rfl rfl rfl (l' := #[.val (.int (0 : Int32)), .val (.ref b), .val (.int (1 : Int32)), .val (.int (3 : Int32)), .val (.ref d6), .val (.ref b), .val (.int (2 : Int32)), .val (.int (1 : Int32)), .val (.int (f 1))]) (pc' := 115) ?_
        refine siload X11 hx (hb hby d18_115) rfl rfl (pc' := 117) ?_
        obtain ⟨T19, h19, X19, e19, W19, V19, st19⟩ := V11.stB X11 hx hZ e11 (j := (2 : Int32)) (by decide) (g := (mkF m 117 #[.val (.int (0 : Int32)), .val (.ref b), .val (.int (1 : Int32)), .val (.int (3 : Int32)), .val (.ref d6), .val (.ref b), .val (.int (2 : Int32)), .val (.int (1 : Int32)), .val (.int (f 1))] [(.int (f 1)), (.int (2 : Int32)), (.ref d6)])) rfl rfl (hb hby d18_117)
        refine oOn st19 ?_
        have z20 : h11.size ≤ h19.size := Nat.le_of_eq W19.size.symm
        have N19 := Fr.snoc X19 N11 (by omega)
        show oGl p e below (T19.setTop (mkF m 118 #[.val (.int (0 : Int32)), .val (.ref b), .val (.int (1 : Int32)), .val (.int (3 : Int32)), .val (.ref d6), .val (.ref b), .val (.int (2 : Int32)), .val (.int (1 : Int32)), .val (.int (f 1))] [])) _
        refine siinc X19 hx (hb hby d18_118) rfl rfl rfl (l' := #[.val (.int (0 : Int32)), .val (.ref b), .val (.int (1 : Int32)), .val (.int (3 : Int32)), .val (.ref d6), .val (.ref b), .val (.int (2 : Int32)), .val (.int (2 : Int32)), .val (.int (f 1))]) (pc' := 121) ?_
        refine sgoto X19 hx (hb hby d18_121) (by decide) (by decide)  (pc' := 49) ?_
        refine siload X19 hx (hb hby d18_49) rfl rfl (pc' := 51) ?_
        refine siload X19 hx (hb hby d18_51) rfl rfl (pc' := 53) ?_
        refine sicY X19 hx (hb hby d18_53) (by decide) (by decide) (flt (by decide : ¬ ((2 : Int32) < (2 : Int32)))).2.1 (pc' := 124) ?_
        refine siloadN X19 hx (hb hby d18_124) rfl rfl (pc' := 125) ?_
        refine saload X19 hx (hb hby d18_125) rfl rfl rfl (pc' := 127) ?_
        refine oOn (V19.len X19 hx hZ e19 (g := (mkF m 127 #[.val (.int (0 : Int32)), .val (.ref b), .val (.int (1 : Int32)), .val (.int (3 : Int32)), .val (.ref d6), .val (.ref b), .val (.int (2 : Int32)), .val (.int (2 : Int32)), .val (.int (f 1))] [(.ref d6), (.int (3 : Int32))])) rfl rfl (hb hby d18_127)) ?_
        show oGl p e below (T19.setTop (mkF m 128 #[.val (.int (0 : Int32)), .val (.ref b), .val (.int (1 : Int32)), .val (.int (3 : Int32)), .val (.ref d6), .val (.ref b), .val (.int (2 : Int32)), .val (.int (2 : Int32)), .val (.int (f 1))] [(.int (4 : Int32)), (.int (3 : Int32))])) _
        refine sicY X19 hx (hb hby d18_128) (by decide) (by decide) (feq (by decide : ¬ ((3 : Int32) = (4 : Int32)))).2 (pc' := 134) ?_
        refine saload X19 hx (hb hby d18_134) rfl rfl rfl (pc' := 136) ?_
        refine siloadN X19 hx (hb hby d18_136) rfl rfl (pc' := 137) ?_
        have hz21 : n0 ≤ h19.size := by omega
        obtain ⟨_, _, ⟨T21, L21, k21, n21⟩, -, X21, ⟨Lc21, hQ21, l21, y21, z21⟩, st21⟩ := Jvm.LawKit.callS X19 hx (y := (⟨"java/util/Arrays", "copyOf", "([BI)[B"⟩ : MethodName)) hown (mvT hZ (hw _ (List.mem_of_getElem? (i := 192) rfl))) (mvT hZ (hw _ (List.mem_of_getElem? (i := 193) rfl))) (mvT hZ (hw _ (List.mem_of_getElem? (i := 194) rfl))) (mvT hZ (hw _ (List.mem_of_getElem? (i := 195) rfl))) (by decide) (backOf (W := 0) (rmCof l Z a0 hw [] d6 (oUp (oUp (oUp (fun _ => 0) 0 (nar .byte ((((192 : Int32) ||| (((f 0) &&& (255 : Int32)) >>> ((6 : Int32) &&& 31)))).toInt8.toInt32))) 1 (nar .byte ((((128 : Int32) ||| ((f 0) &&& (63 : Int32)))).toInt8.toInt32))) 2 (nar .byte (f 1))) h19 n0 hz21 V19 (oFit.up (oFit.up (oFit.up oFit0)))) hZ (hw _ (List.mem_of_getElem? (i := 195) rfl)) (hw _ (List.mem_of_getElem? (i := 194) rfl)) (by decide) (by decide)) (g := (mkF m 137 #[.val (.int (0 : Int32)), .val (.ref b), .val (.int (1 : Int32)), .val (.int (3 : Int32)), .val (.ref d6), .val (.ref b), .val (.int (2 : Int32)), .val (.int (2 : Int32)), .val (.int (f 1))] [(.int (3 : Int32)), (.ref d6)])) rfl (by rw [hml]; rfl) (argsL := [(.ref d6), (.int (3 : Int32))]) (rest := []) (lenOf pd_15 rfl) rfl (by show 2 * 0 + _ ≤ _; exact Nat.le_of_eq rfl) (hb hby d18_137) (fun _ _ => ⟨rfl, e19, (by decide : 1 + 1 ≤ _), (by decide : 4 + 3 ≤ _)⟩)
        dsimp only [Pt.U, Pt.locs, Pt.cells, Pt.slots] at X21 l21 y21 z21 st21 hQ21
        subst l21 y21 z21
        obtain ⟨d21, gg21, rfl, N21q, K21, zd21, Vd21, Fd21⟩ := hQ21
        have N21 := Fr.app N19 N21q
        have z22 : h19.size ≤ T21.heap.size := K21.1
        refine oOn st21 ?_
        show oGl p e below (T21.setTop (mkF m 140 #[.val (.int (0 : Int32)), .val (.ref b), .val (.int (1 : Int32)), .val (.int (3 : Int32)), .val (.ref d6), .val (.ref b), .val (.int (2 : Int32)), .val (.int (2 : Int32)), .val (.int (f 1))] [(.ref d21)])) _
        have hu : (oU2 f) = 3 := by
          unfold oU2 oU1; rw [if_pos hc65, if_neg hc65_2]
        have kp23 : Keep h0 T21.heap [] := ((((((Keep.refl h0 []).trans K6 all0).wr W9 (Or.inr (by omega))).wr W11 (Or.inr (by omega))).wr W19 (Or.inr (by omega))).trans K21 all0)
        have kp24 : Keep h0 T21.heap [d6] := ((((((Keep.refl h0 [d6]).trans K6 all0).wr W9 (Or.inl (List.mem_of_getElem? (i := 0) rfl))).wr W11 (Or.inl (List.mem_of_getElem? (i := 0) rfl))).wr W19 (Or.inl (List.mem_of_getElem? (i := 0) rfl))).trans K21 all0)
        refine oRetR X21 hx Bd.notSynchronized Bd.returns rfl rfl (hb hby d18_140) (by decide) (by decide) ?_
        show Q_rmEn82 Z b f h0 n0 _ T21.heap _
        exact ⟨d21, _, rfl, N21, (oKeepN kp24 (by omega)), by omega, by rw [hu]; exact Vd21, by rw [hu]; exact Fd21⟩
    · skip
      refine sifY X6 hx (hb hby d18_65) (by decide) (by decide) (flt hc65).2.1 (pc' := 109) ?_
      refine saload X6 hx (hb hby d18_109) rfl rfl rfl (pc' := 111) ?_
      refine siloadN X6 hx (hb hby d18_111) rfl rfl (pc' := 112) ?_
      refine siinc X6 hx (hb hby d18_112) rfl rfl rfl (l' := #[.val (.int (0 : Int32)), .val (.ref b), .val (.int (1 : Int32)), .val (.int (1 : Int32)), .val (.ref d6), .val (.ref b), .val (.int (2 : Int32)), .val (.int (0 : Int32)), .val (.int (f 0))]) (pc' := 115) ?_
      refine siload X6 hx (hb hby d18_115) rfl rfl (pc' := 117) ?_
      obtain ⟨T25, h25, X25, e25, W25, V25, st25⟩ := Vd6.stB X6 hx hZ rfl (j := (0 : Int32)) (by decide) (g := (mkF m 117 #[.val (.int (0 : Int32)), .val (.ref b), .val (.int (1 : Int32)), .val (.int (1 : Int32)), .val (.ref d6), .val (.ref b), .val (.int (2 : Int32)), .val (.int (0 : Int32)), .val (.int (f 0))] [(.int (f 0)), (.int (0 : Int32)), (.ref d6)])) rfl rfl (hb hby d18_117)
      refine oOn st25 ?_
      have z26 : T6.heap.size ≤ h25.size := Nat.le_of_eq W25.size.symm
      have N25 := Fr.snoc X25 N6 (by omega)
      show oGl p e below (T25.setTop (mkF m 118 #[.val (.int (0 : Int32)), .val (.ref b), .val (.int (1 : Int32)), .val (.int (1 : Int32)), .val (.ref d6), .val (.ref b), .val (.int (2 : Int32)), .val (.int (0 : Int32)), .val (.int (f 0))] [])) _
      refine siinc X25 hx (hb hby d18_118) rfl rfl rfl (l' := #[.val (.int (0 : Int32)), .val (.ref b), .val (.int (1 : Int32)), .val (.int (1 : Int32)), .val (.ref d6), .val (.ref b), .val (.int (2 : Int32)), .val (.int (1 : Int32)), .val (.int (f 0))]) (pc' := 121) ?_
      refine sgoto X25 hx (hb hby d18_121) (by decide) (by decide)  (pc' := 49) ?_
      refine siload X25 hx (hb hby d18_49) rfl rfl (pc' := 51) ?_
      refine siload X25 hx (hb hby d18_51) rfl rfl (pc' := 53) ?_
      refine sicN X25 hx (hb hby d18_53) rfl (tlt (by decide : (1 : Int32) < (2 : Int32))).2.1 (pc' := 56) ?_
      refine saload X25 hx (hb hby d18_56) rfl rfl rfl (pc' := 58) ?_
      refine siload X25 hx (hb hby d18_58) rfl rfl (pc' := 60) ?_
      have f27 := (f8.other W25 (oNe (by omega)))
      refine oOn (f27.ldB X25 hx hZ e25 (j := (1 : Int32)) (by decide) (g := (mkF m 60 #[.val (.int (0 : Int32)), .val (.ref b), .val (.int (1 : Int32)), .val (.int (1 : Int32)), .val (.ref d6), .val (.ref b), .val (.int (2 : Int32)), .val (.int (1 : Int32)), .val (.int (f 0))] [(.int (1 : Int32)), (.ref b)])) rfl rfl (hb hby d18_60)) ?_
      show oGl p e below (T25.setTop (mkF m 61 #[.val (.int (0 : Int32)), .val (.ref b), .val (.int (1 : Int32)), .val (.int (1 : Int32)), .val (.ref d6), .val (.ref b), .val (.int (2 : Int32)), .val (.int (1 : Int32)), .val (.int (f 0))] [(.int (f 1))])) _
      refine sistore X25 hx (hb hby d18_61) rfl rfl (l' := #[.val (.int (0 : Int32)), .val (.ref b), .val (.int (1 : Int32)), .val (.int (1 : Int32)), .val (.ref d6), .val (.ref b), .val (.int (2 : Int32)), .val (.int (1 : Int32)), .val (.int (f 1))]) (pc' := 63) ?_
      refine siload X25 hx (hb hby d18_63) rfl rfl (pc' := 65) ?_
      by_cases hc65_2 : (f 1) < (0 : Int32)
      · skip
        refine sifN X25 hx (hb hby d18_65) rfl (tlt hc65_2).2.1 (pc' := 68) ?_
        refine saload X25 hx (hb hby d18_68) rfl rfl rfl (pc' := 70) ?_
        refine siloadN X25 hx (hb hby d18_70) rfl rfl (pc' := 71) ?_
        refine siinc X25 hx (hb hby d18_71) rfl rfl rfl (l' := #[.val (.int (0 : Int32)), .val (.ref b), .val (.int (1 : Int32)), .val (.int (2 : Int32)), .val (.ref d6), .val (.ref b), .val (.int (2 : Int32)), .val (.int (1 : Int32)), .val (.int (f 1))]) (pc' := 74) ?_
        refine ssipush X25 hx (hb hby d18_74) rfl rfl (z := 192) (pc' := 77) ?_
        refine siload X25 hx (hb hby d18_77) rfl rfl (pc' := 79) ?_
        refine ssipush X25 hx (hb hby d18_79) rfl rfl (z := 255) (pc' := 82) ?_
        refine siand X25 hx (hb hby d18_82) rfl rfl (pc' := 83) ?_
        refine sbipush X25 hx (hb hby d18_83) rfl rfl (z := 6) (pc' := 85) ?_
        refine sishr X25 hx (hb hby d18_85) rfl rfl (pc' := 86) ?_
        refine sior X25 hx (hb hby d18_86) rfl rfl (pc' := 87) ?_
        refine si2b X25 hx (hb hby d18_87) rfl rfl (pc' := 88) ?_
        obtain ⟨T28, h28, X28, e28, W28, V28, st28⟩ := V25.stB X25 hx hZ e25 (j := (1 : Int32)) (by decide) (g := (mkF m 88 #[.val (.int (0 : Int32)), .val (.ref b), .val (.int (1 : Int32)), .val (.int (2 : Int32)), .val (.ref d6), .val (.ref b), .val (.int (2 : Int32)), .val (.int (1 : Int32)), .val (.int (f 1))] [(.int ((((192 : Int32) ||| (((f 1) &&& (255 : Int32)) >>> ((6 : Int32) &&& 31)))).toInt8.toInt32)), (.int (1 : Int32)), (.ref d6)])) rfl rfl (hb hby d18_88)
        refine oOn st28 ?_
        have z29 : h25.size ≤ h28.size := Nat.le_of_eq W28.size.symm
        have N28 := Fr.snoc X28 N25 (by omega)
        show oGl p e below (T28.setTop (mkF m 89 #[.val (.int (0 : Int32)), .val (.ref b), .val (.int (1 : Int32)), .val (.int (2 : Int32)), .val (.ref d6), .val (.ref b), .val (.int (2 : Int32)), .val (.int (1 : Int32)), .val (.int (f 1))] [])) _
        refine saload X28 hx (hb hby d18_89) rfl rfl rfl (pc' := 91) ?_
        refine siloadN X28 hx (hb hby d18_91) rfl rfl (pc' := 92) ?_
        refine siinc X28 hx (hb hby d18_92) rfl rfl rfl (l' := #[.val (.int (0 : Int32)), .val (.ref b), .val (.int (1 : Int32)), .val (.int (3 : Int32)), .val (.ref d6), .val (.ref b), .val (.int (2 : Int32)), .val (.int (1 : Int32)), .val (.int (f 1))]) (pc' := 95) ?_
        refine ssipush X28 hx (hb hby d18_95) rfl rfl (z := 128) (pc' := 98) ?_
        refine siload X28 hx (hb hby d18_98) rfl rfl (pc' := 100) ?_
        refine sbipush X28 hx (hb hby d18_100) rfl rfl (z := 63) (pc' := 102) ?_
        refine siand X28 hx (hb hby d18_102) rfl rfl (pc' := 103) ?_
        refine sior X28 hx (hb hby d18_103) rfl rfl (pc' := 104) ?_
        refine si2b X28 hx (hb hby d18_104) rfl rfl (pc' := 105) ?_
        obtain ⟨T30, h30, X30, e30, W30, V30, st30⟩ := V28.stB X28 hx hZ e28 (j := (2 : Int32)) (by decide) (g := (mkF m 105 #[.val (.int (0 : Int32)), .val (.ref b), .val (.int (1 : Int32)), .val (.int (3 : Int32)), .val (.ref d6), .val (.ref b), .val (.int (2 : Int32)), .val (.int (1 : Int32)), .val (.int (f 1))] [(.int ((((128 : Int32) ||| ((f 1) &&& (63 : Int32)))).toInt8.toInt32)), (.int (2 : Int32)), (.ref d6)])) rfl rfl (hb hby d18_105)
        refine oOn st30 ?_
        have z31 : h28.size ≤ h30.size := Nat.le_of_eq W30.size.symm
        have N30 := Fr.snoc X30 N28 (by omega)
        show oGl p e below (T30.setTop (mkF m 106 #[.val (.int (0 : Int32)), .val (.ref b), .val (.int (1 : Int32)), .val (.int (3 : Int32)), .val (.ref d6), .val (.ref b), .val (.int (2 : Int32)), .val (.int (1 : Int32)), .val (.int (f 1))] [])) _
        refine sgoto X30 hx (hb hby d18_106) (by decide) (by decide)  (pc' := 118) ?_
        refine siinc X30 hx (hb hby d18_118) rfl rfl rfl (l' := #[.val (.int (0 : Int32)), .val (.ref b), .val (.int (1 : Int32)), .val (.int (3 : Int32)), .val (.ref d6), .val (.ref b), .val (.int (2 : Int32)), .val (.int (2 : Int32)), .val (.int (f 1))]) (pc' := 121) ?_
        refine sgoto X30 hx (hb hby d18_121) (by decide) (by decide)  (pc' := 49) ?_
        refine siload X30 hx (hb hby d18_49) rfl rfl (pc' := 51) ?_
        refine siload X30 hx (hb hby d18_51) rfl rfl (pc' := 53) ?_
        refine sicY X30 hx (hb hby d18_53) (by decide) (by decide) (flt (by decide : ¬ ((2 : Int32) < (2 : Int32)))).2.1 (pc' := 124) ?_
        refine siloadN X30 hx (hb hby d18_124) rfl rfl (pc' := 125) ?_
        refine saload X30 hx (hb hby d18_125) rfl rfl rfl (pc' := 127) ?_
        refine oOn (V30.len X30 hx hZ e30 (g := (mkF m 127 #[.val (.int (0 : Int32)), .val (.ref b), .val (.int (1 : Int32)), .val (.int (3 : Int32)), .val (.ref d6), .val (.ref b), .val (.int (2 : Int32)), .val (.int (2 : Int32)), .val (.int (f 1))] [(.ref d6), (.int (3 : Int32))])) rfl rfl (hb hby d18_127)) ?_
        show oGl p e below (T30.setTop (mkF m 128 #[.val (.int (0 : Int32)), .val (.ref b), .val (.int (1 : Int32)), .val (.int (3 : Int32)), .val (.ref d6), .val (.ref b), .val (.int (2 : Int32)), .val (.int (2 : Int32)), .val (.int (f 1))] [(.int (4 : Int32)), (.int (3 : Int32))])) _
        refine sicY X30 hx (hb hby d18_128) (by decide) (by decide) (feq (by decide : ¬ ((3 : Int32) = (4 : Int32)))).2 (pc' := 134) ?_
        refine saload X30 hx (hb hby d18_134) rfl rfl rfl (pc' := 136) ?_
        refine siloadN X30 hx (hb hby d18_136) rfl rfl (pc' := 137) ?_
        have hz32 : n0 ≤ h30.size := by omega
        obtain ⟨_, _, ⟨T32, L32, k32, n32⟩, -, X32, ⟨Lc32, hQ32, l32, y32, z32⟩, st32⟩ := Jvm.LawKit.callS X30 hx (y := (⟨"java/util/Arrays", "copyOf", "([BI)[B"⟩ : MethodName)) hown (mvT hZ (hw _ (List.mem_of_getElem? (i := 192) rfl))) (mvT hZ (hw _ (List.mem_of_getElem? (i := 193) rfl))) (mvT hZ (hw _ (List.mem_of_getElem? (i := 194) rfl))) (mvT hZ (hw _ (List.mem_of_getElem? (i := 195) rfl))) (by decide) (backOf (W := 0) (rmCof l Z a0 hw [] d6 (oUp (oUp (oUp (fun _ => 0) 0 (nar .byte (f 0))) 1 (nar .byte ((((192 : Int32) ||| (((f 1) &&& (255 : Int32)) >>> ((6 : Int32) &&& 31)))).toInt8.toInt32))) 2 (nar .byte ((((128 : Int32) ||| ((f 1) &&& (63 : Int32)))).toInt8.toInt32))) h30 n0 hz32 V30 (oFit.up (oFit.up (oFit.up oFit0)))) hZ (hw _ (List.mem_of_getElem? (i := 195) rfl)) (hw _ (List.mem_of_getElem? (i := 194) rfl)) (by decide) (by decide)) (g := (mkF m 137 #[.val (.int (0 : Int32)), .val (.ref b), .val (.int (1 : Int32)), .val (.int (3 : Int32)), .val (.ref d6), .val (.ref b), .val (.int (2 : Int32)), .val (.int (2 : Int32)), .val (.int (f 1))] [(.int (3 : Int32)), (.ref d6)])) rfl (by rw [hml]; rfl) (argsL := [(.ref d6), (.int (3 : Int32))]) (rest := []) (lenOf pd_15 rfl) rfl (by show 2 * 0 + _ ≤ _; exact Nat.le_of_eq rfl) (hb hby d18_137) (fun _ _ => ⟨rfl, e30, (by decide : 1 + 1 ≤ _), (by decide : 4 + 3 ≤ _)⟩)
        dsimp only [Pt.U, Pt.locs, Pt.cells, Pt.slots] at X32 l32 y32 z32 st32 hQ32
        subst l32 y32 z32
        obtain ⟨d32, gg32, rfl, N32q, K32, zd32, Vd32, Fd32⟩ := hQ32
        have N32 := Fr.app N30 N32q
        have z33 : h30.size ≤ T32.heap.size := K32.1
        refine oOn st32 ?_
        show oGl p e below (T32.setTop (mkF m 140 #[.val (.int (0 : Int32)), .val (.ref b), .val (.int (1 : Int32)), .val (.int (3 : Int32)), .val (.ref d6), .val (.ref b), .val (.int (2 : Int32)), .val (.int (2 : Int32)), .val (.int (f 1))] [(.ref d32)])) _
        have hu : (oU2 f) = 3 := by
          unfold oU2 oU1; rw [if_neg hc65, if_pos hc65_2]
        have kp34 : Keep h0 T32.heap [] := ((((((Keep.refl h0 []).trans K6 all0).wr W25 (Or.inr (by omega))).wr W28 (Or.inr (by omega))).wr W30 (Or.inr (by omega))).trans K32 all0)
        have kp35 : Keep h0 T32.heap [d6] := ((((((Keep.refl h0 [d6]).trans K6 all0).wr W25 (Or.inl (List.mem_of_getElem? (i := 0) rfl))).wr W28 (Or.inl (List.mem_of_getElem? (i := 0) rfl))).wr W30 (Or.inl (List.mem_of_getElem? (i := 0) rfl))).trans K32 all0)
        refine oRetR X32 hx Bd.notSynchronized Bd.returns rfl rfl (hb hby d18_140) (by decide) (by decide) ?_
        show Q_rmEn82 Z b f h0 n0 _ T32.heap _
        exact ⟨d32, _, rfl, N32, (oKeepN kp35 (by omega)), by omega, by rw [hu]; exact Vd32, by rw [hu]; exact Fd32⟩
      · skip
        refine sifY X25 hx (hb hby d18_65) (by decide) (by decide) (flt hc65_2).2.1 (pc' := 109) ?_
        refine saload X25 hx (hb hby d18_109) rfl rfl rfl (pc' := 111) ?_
        refine siloadN X25 hx (hb hby d18_111) rfl rfl (pc' := 112) ?_
        refine siinc X25 hx (hb hby d18_112) rfl rfl rfl (l' := #[.val (.int (0 : Int32)), .val (.ref b), .val (.int (1 : Int32)), .val (.int (2 : Int32)), .val (.ref d6), .val (.ref b), .val (.int (2 : Int32)), .val (.int (1 : Int32)), .val (.int (f 1))]) (pc' := 115) ?_
        refine siload X25 hx (hb hby d18_115) rfl rfl (pc' := 117) ?_
        obtain ⟨T36, h36, X36, e36, W36, V36, st36⟩ := V25.stB X25 hx hZ e25 (j := (1 : Int32)) (by decide) (g := (mkF m 117 #[.val (.int (0 : Int32)), .val (.ref b), .val (.int (1 : Int32)), .val (.int (2 : Int32)), .val (.ref d6), .val (.ref b), .val (.int (2 : Int32)), .val (.int (1 : Int32)), .val (.int (f 1))] [(.int (f 1)), (.int (1 : Int32)), (.ref d6)])) rfl rfl (hb hby d18_117)
        refine oOn st36 ?_
        have z37 : h25.size ≤ h36.size := Nat.le_of_eq W36.size.symm
        have N36 := Fr.snoc X36 N25 (by omega)
        show oGl p e below (T36.setTop (mkF m 118 #[.val (.int (0 : Int32)), .val (.ref b), .val (.int (1 : Int32)), .val (.int (2 : Int32)), .val (.ref d6), .val (.ref b), .val (.int (2 : Int32)), .val (.int (1 : Int32)), .val (.int (f 1))] [])) _
        refine siinc X36 hx (hb hby d18_118) rfl rfl rfl (l' := #[.val (.int (0 : Int32)), .val (.ref b), .val (.int (1 : Int32)), .val (.int (2 : Int32)), .val (.ref d6), .val (.ref b), .val (.int (2 : Int32)), .val (.int (2 : Int32)), .val (.int (f 1))]) (pc' := 121) ?_
        refine sgoto X36 hx (hb hby d18_121) (by decide) (by decide)  (pc' := 49) ?_
        refine siload X36 hx (hb hby d18_49) rfl rfl (pc' := 51) ?_
        refine siload X36 hx (hb hby d18_51) rfl rfl (pc' := 53) ?_
        refine sicY X36 hx (hb hby d18_53) (by decide) (by decide) (flt (by decide : ¬ ((2 : Int32) < (2 : Int32)))).2.1 (pc' := 124) ?_
        exact absurd (pq1.resolve_left (fun q => hc18 q.1)).2 (fun ⟨j, hj, hq⟩ => by
          rcases (by omega : j = 0 ∨ j = 1) with rfl | rfl
          · exact hc65 hq
          · exact hc65_2 hq)
theorem ef_rmEnc82 (m : MethodId) (x0 : Nat) (x1 : Int32) (x2 : Nat)  : entryFrame m #[(.ref x0), (.int x1), (.ref x2)] 3 = mkF m 0 #[.val (.ref x0), .val (.int x1), .val (.ref x2)] [] := by first | (simp [entryFrame, mkF, argsToLocals, Value.category, maxLocals]; done) | rfl
def Q_rmEnc82 (Z : State) (b : Nat) (f : Nat → Int32) (u : Nat) (cz : Int32) (h0 : Heap) (n0 : Nat) (vv : Option Value) (h : Heap) (L : List Loc) : Prop := ∃ (d : Nat) (g : Nat → Int32), vv = some (.ref d) ∧ Fr n0 L ∧ Keep h0 h [] ∧ h0.size ≤ d ∧ oAI Z h d .byte (oU2 f) g ∧ oFit (oU2 f) g
set_option maxRecDepth 65536 in
set_option maxHeartbeats 40000000 in
theorem rmEnc82 (l : Launch) (Z : State) (a0 : Array Value) (hw : ∀ d ∈ tables_1, d.before a0 Z = true) (ws : List Jvm.Cond) (b : Nat) (f : Nat → Int32) (u : Nat) (cz : Int32) (h0 : Heap) (n0 : Nat) (Z0 : n0 ≤ h0.size) (O0 : Old Z n0 h0) (SCS : Sta Z Z.heap "java/lang/String" "COMPACT_STRINGS" "Z" (.int cz)) (hcz : ¬ cz = (0 : Int32)) (SU : Sta Z Z.heap "java/nio/charset/StandardCharsets" "UTF_8" "Ljava/nio/charset/Charset;" (.ref u)) (SI : Sta Z Z.heap "sun/nio/cs/UTF_8" "INSTANCE" "Lsun/nio/cs/UTF_8;" (.ref u)) (PB : oAI Z h0 b .byte 2 f) (EX : Exa Z h0 b "[B") (Ff : oFit 2 f) :
    MetFree l (⟨"java/lang/String", "encode", "(Ljava/nio/charset/Charset;B[B)[B"⟩ : MethodName) (head1 (Jvm.Cond.code (⟨"java/lang/String", "encode", "(Ljava/nio/charset/Charset;B[B)[B"⟩ : MethodName) jdk_42_method_18_code 3 (some (.array .byte)) :: ws) ({ frames := 3, cells := 2, slots := 7, locals := 52 } : Room)) (fun aA uU => aA = #[(.ref u), (.int (0 : Int32)), (.ref b)] ∧ Z.Warmed39 uU.vm ∧ uU.heap = h0) (fun _ _ _ _ _ => True) (fun _ uU oO uU' => ∃ vV lL, oO = .returned vV ∧ Q_rmEnc82 Z b f u cz h0 n0 vV uU'.heap lL ∧ FrameEnd uU oO uU' lL ({ frames := 3, cells := 2, slots := 7, locals := 52 } : Room).cells ({ frames := 3, cells := 2, slots := 7, locals := 52 } : Room).slots) := by
  refine MetFree.of_bodySF (plainFor_of_name pn_String) hisR ?_
  intro p e s m args below meth c s₁ Bd hml0 hP hK
  obtain ⟨rfl, hZ, hh⟩ := hP
  have hx := Bd.exec
  have hby := Bd.bytes
  have hml : c.maxLocals = 3 := hml0
  have hown : s.vm.findClass "java/lang/String" = some m.cls := findClass_of_methodNamed Bd.named
  have hnm := (name_of_methodNamed Bd.named Bd.method).1
  have X0 : Stand p l e ({ frames := 3, cells := 2, slots := 7, locals := 52 } : Room) s m #[(.ref u), (.int (0 : Int32)), (.ref b)] below meth c s₁ [] 0 0 := Stand.of_body Bd
  have e0 : s₁.heap = h0 := by rw [← hh, Bd.state]; rfl
  have N0 := Fr.nil n0
  have lB : @LT.lt Nat _ b h0.size := PB.lt
  refine oEnter (oCast (ef_rmEnc82 m u (0 : Int32) b ) ?_)
  show oGl p e below (s₁.setTop (mkF m 0 #[.val (.ref u), .val (.int (0 : Int32)), .val (.ref b)] [])) _
  refine saloadN X0 hx (hb hby d17_0) rfl rfl rfl (pc' := 1) ?_
  obtain ⟨T1, X1, e1, st1⟩ := getS2 X0 hx hZ hown (host := "") (Or.inl (hw _ (List.mem_of_getElem? (i := 103) rfl))) Via.refl e0 (SI.ext O0.2) (g := (mkF m 1 #[.val (.ref u), .val (.int (0 : Int32)), .val (.ref b)] [(.ref u)])) rfl (hb hby d17_1)
  refine oOn st1 ?_
  show oGl p e below (T1.setTop (mkF m 4 #[.val (.ref u), .val (.int (0 : Int32)), .val (.ref b)] [(.ref u), (.ref u)])) _
  refine oOn (fun _ kK => Jvm.RoadKit.acmp (g := (mkF m 4 #[.val (.ref u), .val (.int (0 : Int32)), .val (.ref b)] [(.ref u), (.ref u)])) X1 hx rfl rfl rfl (pc0 := 4) (pc' := 7) (same := true) rfl (hb hby d17_4) rfl (decide_eq_true rfl) (by decide) (by decide) kK) ?_
  show oGl p e below (T1.setTop (mkF m 7 #[.val (.ref u), .val (.int (0 : Int32)), .val (.ref b)] [])) _
  refine siloadN X1 hx (hb hby d17_7) rfl rfl (pc' := 8) ?_
  refine saloadN X1 hx (hb hby d17_8) rfl rfl rfl (pc' := 9) ?_
  refine siconst X1 hx (hb hby d17_9) rfl rfl (z := 1) (pc' := 10) ?_
  have hz2 : n0 ≤ h0.size := by omega
  obtain ⟨_, _, ⟨T2, L2, k2, n2⟩, -, X2, ⟨Lc2, hQ2, l2, y2, z2⟩, st2⟩ := Jvm.LawKit.callS X1 hx (y := (⟨"java/lang/String", "encodeUTF8", "(B[BZ)[B"⟩ : MethodName)) hown (mvT hZ (hw _ (List.mem_of_getElem? (i := 105) rfl))) (mvT hZ (hw _ (List.mem_of_getElem? (i := 106) rfl))) (mvT hZ (hw _ (List.mem_of_getElem? (i := 10) rfl))) (mvT hZ (hw _ (List.mem_of_getElem? (i := 107) rfl))) (by decide) (backOf (W := 0) (rmEn82 l Z a0 hw [] b f h0 n0 hz2 PB EX Ff) hZ (hw _ (List.mem_of_getElem? (i := 107) rfl)) (hw _ (List.mem_of_getElem? (i := 10) rfl)) (by decide) (by decide)) (g := (mkF m 10 #[.val (.ref u), .val (.int (0 : Int32)), .val (.ref b)] [(.int (1 : Int32)), (.ref b), (.int (0 : Int32))])) rfl (by rw [hml]; rfl) (argsL := [(.int (0 : Int32)), (.ref b), (.int (1 : Int32))]) (rest := []) (lenOf pd_11 rfl) rfl (by show 2 * 0 + _ ≤ _; exact Nat.le_of_eq rfl) (hb hby d17_10) (fun _ _ => ⟨rfl, e1, (by decide : 0 + 2 ≤ _), (by decide : 0 + 7 ≤ _)⟩)
  dsimp only [Pt.U, Pt.locs, Pt.cells, Pt.slots] at X2 l2 y2 z2 st2 hQ2
  subst l2 y2 z2
  obtain ⟨d2, g2, rfl, N2q, K2, zd2, Vd2, Fd2⟩ := hQ2
  have N2 := Fr.app N0 N2q
  have z3 : h0.size ≤ T2.heap.size := K2.1
  refine oOn st2 ?_
  have ld2 : @LT.lt Nat _ d2 T2.heap.size := Vd2.lt
  show oGl p e below (T2.setTop (mkF m 13 #[.val (.ref u), .val (.int (0 : Int32)), .val (.ref b)] [(.ref d2)])) _
  have kp4 : Keep h0 T2.heap [] := ((Keep.refl h0 []).trans K2 all0)
  refine oRetR X2 hx Bd.notSynchronized Bd.returns rfl rfl (hb hby d17_13) (by decide) (by decide) ?_
  show Q_rmEnc82 Z b f u cz h0 n0 _ T2.heap _
  exact ⟨d2, g2, rfl, N2, kp4, by omega, Vd2, Fd2⟩
theorem ef_rmGb82 (m : MethodId) (x0 : Nat) (x1 : Nat)  : entryFrame m #[(.ref x0), (.ref x1)] 2 = mkF m 0 #[.val (.ref x0), .val (.ref x1)] [] := by first | (simp [entryFrame, mkF, argsToLocals, Value.category, maxLocals]; done) | rfl
def Q_rmGb82 (Z : State) (x : Nat) (b : Nat) (f : Nat → Int32) (u : Nat) (cz : Int32) (h0 : Heap) (n0 : Nat) (vv : Option Value) (h : Heap) (L : List Loc) : Prop := ∃ (d : Nat) (g : Nat → Int32), vv = some (.ref d) ∧ Fr n0 L ∧ Keep h0 h [] ∧ h0.size ≤ d ∧ oAI Z h d .byte (oU2 f) g ∧ oFit (oU2 f) g
set_option maxRecDepth 65536 in
set_option maxHeartbeats 40000000 in
theorem rmGb82 (l : Launch) (Z : State) (a0 : Array Value) (hw : ∀ d ∈ tables_1, d.before a0 Z = true) (ws : List Jvm.Cond) (x : Nat) (b : Nat) (f : Nat → Int32) (u : Nat) (cz : Int32) (h0 : Heap) (n0 : Nat) (Z0 : n0 ≤ h0.size) (O0 : Old Z n0 h0) (SCS : Sta Z Z.heap "java/lang/String" "COMPACT_STRINGS" "Z" (.int cz)) (hcz : ¬ cz = (0 : Int32)) (SU : Sta Z Z.heap "java/nio/charset/StandardCharsets" "UTF_8" "Ljava/nio/charset/Charset;" (.ref u)) (SI : Sta Z Z.heap "sun/nio/cs/UTF_8" "INSTANCE" "Lsun/nio/cs/UTF_8;" (.ref u)) (E1 : Exa Z h0 x "java/lang/String") (F1 : Fld Z h0 x "java/lang/String" "value" "[B" (.ref b)) (C1 : Fld Z h0 x "java/lang/String" "coder" "B" (.int 0)) (PB : oAI Z h0 b .byte 2 f) (EX : Exa Z h0 b "[B") (Ff : oFit 2 f) :
    MetFree l (⟨"java/lang/String", "getBytes", "(Ljava/nio/charset/Charset;)[B"⟩ : MethodName) (head1 (Jvm.Cond.code (⟨"java/lang/String", "getBytes", "(Ljava/nio/charset/Charset;)[B"⟩ : MethodName) jdk_42_method_64_code 2 (some (.array .byte)) :: ws) ({ frames := 4, cells := 2, slots := 7, locals := 66 } : Room)) (fun aA uU => aA = #[(.ref x), (.ref u)] ∧ Z.Warmed39 uU.vm ∧ uU.heap = h0) (fun _ _ _ _ _ => True) (fun _ uU oO uU' => ∃ vV lL, oO = .returned vV ∧ Q_rmGb82 Z x b f u cz h0 n0 vV uU'.heap lL ∧ FrameEnd uU oO uU' lL ({ frames := 4, cells := 2, slots := 7, locals := 66 } : Room).cells ({ frames := 4, cells := 2, slots := 7, locals := 66 } : Room).slots) := by
  refine MetFree.of_bodySF (plainFor_of_name pn_String) hisR ?_
  intro p e s m args below meth c s₁ Bd hml0 hP hK
  obtain ⟨rfl, hZ, hh⟩ := hP
  have hx := Bd.exec
  have hby := Bd.bytes
  have hml : c.maxLocals = 2 := hml0
  have hown : s.vm.findClass "java/lang/String" = some m.cls := findClass_of_methodNamed Bd.named
  have hnm := (name_of_methodNamed Bd.named Bd.method).1
  have X0 : Stand p l e ({ frames := 4, cells := 2, slots := 7, locals := 66 } : Room) s m #[(.ref x), (.ref u)] below meth c s₁ [] 0 0 := Stand.of_body Bd
  have e0 : s₁.heap = h0 := by rw [← hh, Bd.state]; rfl
  have N0 := Fr.nil n0
  have lB : @LT.lt Nat _ b h0.size := PB.lt
  refine oEnter (oCast (ef_rmGb82 m x u ) ?_)
  show oGl p e below (s₁.setTop (mkF m 0 #[.val (.ref x), .val (.ref u)] [])) _
  refine saloadN X0 hx (hb hby d15_0) rfl rfl rfl (pc' := 1) ?_
  refine sifnonnullY X0 hx (hb hby d15_1) (by decide) (by decide)  (pc' := 12) ?_
  refine saloadN X0 hx (hb hby d15_12) rfl rfl rfl (pc' := 13) ?_
  refine saloadN X0 hx (hb hby d15_13) rfl rfl rfl (pc' := 14) ?_
  have hz1 : n0 ≤ h0.size := by omega
  obtain ⟨cq1, kq1, q1a, q1b, q1c⟩ := isOf hZ e0 E1
  obtain ⟨_, _, ⟨T1, L1, k1, n1⟩, -, X1, ⟨Lc1, hQ1, l1, y1, z1⟩, st1⟩ := X0.virtualBack hx (y := (⟨"java/lang/String", "coder", "()B"⟩ : MethodName)) (z := (⟨"java/lang/String", "coder", "()B"⟩ : MethodName)) hown (mvT hZ (hw _ (List.mem_of_getElem? (i := 95) rfl))) (mvT hZ (hw _ (List.mem_of_getElem? (i := 96) rfl))) (notFace_of_selects (args := #[]) (mvT hZ (hw _ (List.mem_of_getElem? (i := 98) rfl)))) (mvT hZ (hw _ (List.mem_of_getElem? (i := 98) rfl))) (mvT hZ (hw _ (List.mem_of_getElem? (i := 97) rfl))) (by decide) (backOf (W := 1) (rmCdr l Z a0 hw [] x cz h0 n0 hz1 O0 SCS hcz C1) hZ (hw _ (List.mem_of_getElem? (i := 99) rfl)) (hw _ (List.mem_of_getElem? (i := 10) rfl)) (by decide) (by decide)) q1a q1c (g := (mkF m 14 #[.val (.ref x), .val (.ref u)] [(.ref x), (.ref u)])) rfl (by rw [hml]; rfl) (Steps.refl _) (argsL := []) (rest := [(.ref u)]) (lenOf pd_12 rfl) rfl (by show 2 * 0 + _ ≤ _; exact Nat.le_of_eq rfl) (hb hby d15_14) (fun _ _ => ⟨rfl, e0, (by decide : 0 + 0 ≤ _), (by decide : 0 + 0 ≤ _)⟩)
  dsimp only [Pt.U, Pt.locs, Pt.cells, Pt.slots] at X1 l1 y1 z1 st1 hQ1
  subst l1 y1 z1
  obtain ⟨rfl, N1q, eh1⟩ := hQ1
  have N1 := Fr.app N0 N1q
  refine oSt st1 ?_
  show oGl p e below (T1.setTop (mkF m 17 #[.val (.ref x), .val (.ref u)] [(.int (0 : Int32)), (.ref u)])) _
  refine saloadN X1 hx (hb hby d15_17) rfl rfl rfl (pc' := 18) ?_
  obtain ⟨T2, X2, e2, st2⟩ := getF X1 hx hZ hown (host := "") (Or.inl (hw _ (List.mem_of_getElem? (i := 30) rfl))) Via.refl eh1 F1 (g := (mkF m 18 #[.val (.ref x), .val (.ref u)] [(.ref x), (.int (0 : Int32)), (.ref u)])) rfl rfl (hb hby d15_18)
  refine oOn st2 ?_
  show oGl p e below (T2.setTop (mkF m 21 #[.val (.ref x), .val (.ref u)] [(.ref b), (.int (0 : Int32)), (.ref u)])) _
  have hz3 : n0 ≤ h0.size := by omega
  obtain ⟨_, _, ⟨T3, L3, k3, n3⟩, -, X3, ⟨Lc3, hQ3, l3, y3, z3⟩, st3⟩ := Jvm.LawKit.callS X2 hx (y := (⟨"java/lang/String", "encode", "(Ljava/nio/charset/Charset;B[B)[B"⟩ : MethodName)) hown (mvT hZ (hw _ (List.mem_of_getElem? (i := 100) rfl))) (mvT hZ (hw _ (List.mem_of_getElem? (i := 101) rfl))) (mvT hZ (hw _ (List.mem_of_getElem? (i := 10) rfl))) (mvT hZ (hw _ (List.mem_of_getElem? (i := 102) rfl))) (by decide) (backOf (W := 0) (rmEnc82 l Z a0 hw [] b f u cz h0 n0 hz3 O0 SCS hcz SU SI PB EX Ff) hZ (hw _ (List.mem_of_getElem? (i := 102) rfl)) (hw _ (List.mem_of_getElem? (i := 10) rfl)) (by decide) (by decide)) (g := (mkF m 21 #[.val (.ref x), .val (.ref u)] [(.ref b), (.int (0 : Int32)), (.ref u)])) rfl (by rw [hml]; rfl) (argsL := [(.ref u), (.int (0 : Int32)), (.ref b)]) (rest := []) (lenOf pd_13 rfl) rfl (by show 2 * 0 + _ ≤ _; exact Nat.le_of_eq rfl) (hb hby d15_21) (fun _ _ => ⟨rfl, e2, (by decide : 0 + 2 ≤ _), (by decide : 0 + 7 ≤ _)⟩)
  dsimp only [Pt.U, Pt.locs, Pt.cells, Pt.slots] at X3 l3 y3 z3 st3 hQ3
  subst l3 y3 z3
  obtain ⟨d3, g3, rfl, N3q, K3, zd3, Vd3, Fd3⟩ := hQ3
  have N3 := Fr.app N1 N3q
  have z4 : h0.size ≤ T3.heap.size := K3.1
  refine oOn st3 ?_
  have ld3 : @LT.lt Nat _ d3 T3.heap.size := Vd3.lt
  show oGl p e below (T3.setTop (mkF m 24 #[.val (.ref x), .val (.ref u)] [(.ref d3)])) _
  have kp5 : Keep h0 T3.heap [] := ((Keep.refl h0 []).trans K3 all0)
  refine oRetR X3 hx Bd.notSynchronized Bd.returns rfl rfl (hb hby d15_24) (by decide) (by decide) ?_
  show Q_rmGb82 Z x b f u cz h0 n0 _ T3.heap _
  exact ⟨d3, g3, rfl, N3, kp5, by omega, Vd3, Fd3⟩
theorem ef_rmMin8 (m : MethodId) (x0 : Int32) (x1 : Int32)  : entryFrame m #[(.int x0), (.int x1)] 2 = mkF m 0 #[.val (.int x0), .val (.int x1)] [] := by first | (simp [entryFrame, mkF, argsToLocals, Value.category, maxLocals]; done) | rfl
def Q_rmMin8 (Z : State) (k : Nat) (h0 : Heap) (n0 : Nat) (vv : Option Value) (h : Heap) (L : List Loc) : Prop := vv = some (.int (Int32.ofNat k)) ∧ Fr n0 L ∧ h = h0
set_option maxRecDepth 65536 in
set_option maxHeartbeats 40000000 in
theorem rmMin8 (l : Launch) (Z : State) (a0 : Array Value) (hw : ∀ d ∈ tables_1, d.before a0 Z = true) (ws : List Jvm.Cond) (k : Nat) (h0 : Heap) (n0 : Nat) (Z0 : n0 ≤ h0.size) (hk : 1 ≤ k ∧ k ≤ 4) :
    MetFree l (⟨"java/lang/Math", "min", "(II)I"⟩ : MethodName) (head1 (Jvm.Cond.code (⟨"java/lang/Math", "min", "(II)I"⟩ : MethodName) jdk_29_method_69_code 2 (some .int) :: ws) ({ frames := 0, cells := 0, slots := 0, locals := 0 } : Room)) (fun aA uU => aA = #[(.int (8 : Int32)), (.int (Int32.ofNat k))] ∧ Z.Warmed39 uU.vm ∧ uU.heap = h0) (fun _ _ _ _ _ => True) (fun _ uU oO uU' => ∃ vV lL, oO = .returned vV ∧ Q_rmMin8 Z k h0 n0 vV uU'.heap lL ∧ FrameEnd uU oO uU' lL ({ frames := 0, cells := 0, slots := 0, locals := 0 } : Room).cells ({ frames := 0, cells := 0, slots := 0, locals := 0 } : Room).slots) := by
  refine MetFree.of_bodySF (by decide +kernel) hisR ?_
  intro p e s m args below meth c s₁ Bd hml0 hP hK
  obtain ⟨rfl, hZ, hh⟩ := hP
  have hx := Bd.exec
  have hby := Bd.bytes
  have hml : c.maxLocals = 2 := hml0
  have hown : s.vm.findClass "java/lang/Math" = some m.cls := findClass_of_methodNamed Bd.named
  have hnm := (name_of_methodNamed Bd.named Bd.method).1
  have X0 : Stand p l e ({ frames := 0, cells := 0, slots := 0, locals := 0 } : Room) s m #[(.int (8 : Int32)), (.int (Int32.ofNat k))] below meth c s₁ [] 0 0 := Stand.of_body Bd
  have e0 : s₁.heap = h0 := by rw [← hh, Bd.state]; rfl
  have N0 := Fr.nil n0
  refine oEnter (oCast (ef_rmMin8 m (8 : Int32) (Int32.ofNat k) ) ?_)
  show oGl p e below (s₁.setTop (mkF m 0 #[.val (.int (8 : Int32)), .val (.int (Int32.ofNat k))] [])) _
  refine siloadN X0 hx (hb hby d23_0) rfl rfl (pc' := 1) ?_
  refine siloadN X0 hx (hb hby d23_1) rfl rfl (pc' := 2) ?_
  refine sicY X0 hx (hb hby d23_2) (by decide) (by decide) (tlt (own_lt8 hk : (Int32.ofNat k) < (8 : Int32))).2.2.1 (pc' := 9) ?_
  refine siloadN X0 hx (hb hby d23_9) rfl rfl (pc' := 10) ?_
  refine oRetI X0 hx Bd.notSynchronized Bd.returns (hb hby d23_10) (by decide) (by decide) ?_
  show Q_rmMin8 Z k h0 n0 _ s₁.heap _
  rw [e0]
  exact ⟨rfl, N0, rfl⟩
theorem d24_0 : decode jdk_35_method_51_code 0 = .ok (.lload_n 0, 1) := by decide +kernel
theorem d24_1 : decode jdk_35_method_51_code 1 = .ok (.iload_n 2, 1) := by decide +kernel
theorem d24_2 : decode jdk_35_method_51_code 2 = .ok (.lshl, 1) := by decide +kernel
theorem d24_3 : decode jdk_35_method_51_code 3 = .ok (.lload_n 0, 1) := by decide +kernel
theorem d24_4 : decode jdk_35_method_51_code 4 = .ok (.iload_n 2, 1) := by decide +kernel
theorem d24_5 : decode jdk_35_method_51_code 5 = .ok (.ineg, 1) := by decide +kernel
theorem d24_6 : decode jdk_35_method_51_code 6 = .ok (.lushr, 1) := by decide +kernel
theorem d24_7 : decode jdk_35_method_51_code 7 = .ok (.lor, 1) := by decide +kernel
theorem d24_8 : decode jdk_35_method_51_code 8 = .ok (.lreturn, 1) := by decide +kernel
theorem pn_Long : plainName "java/lang/Long" = true := by first | (simp [plainName, overriddenIn]; done) | decide +kernel
theorem ef_rmRot (m : MethodId) (x0 : Int64) (x1 : Int32)  : entryFrame m #[(.long x0), (.int x1)] 3 = mkF m 0 #[.val (.long x0), .second, .val (.int x1)] [] := by first | (simp [entryFrame, mkF, argsToLocals, Value.category, maxLocals]; done) | rfl
def Q_rmRot (Z : State) (x : Int64) (y : Int32) (h0 : Heap) (n0 : Nat) (vv : Option Value) (h : Heap) (L : List Loc) : Prop := ∃ r : Int64, vv = some (.long r) ∧ Fr n0 L ∧ h = h0
set_option maxRecDepth 65536 in
set_option maxHeartbeats 40000000 in
theorem rmRot (l : Launch) (Z : State) (a0 : Array Value) (hw : ∀ d ∈ tables_1, d.before a0 Z = true) (ws : List Jvm.Cond) (x : Int64) (y : Int32) (h0 : Heap) (n0 : Nat) (Z0 : n0 ≤ h0.size)  :
    MetFree l (⟨"java/lang/Long", "rotateLeft", "(JI)J"⟩ : MethodName) (head1 (Jvm.Cond.code (⟨"java/lang/Long", "rotateLeft", "(JI)J"⟩ : MethodName) jdk_35_method_51_code 3 (some .long) :: ws) ({ frames := 0, cells := 0, slots := 0, locals := 0 } : Room)) (fun aA uU => aA = #[(.long x), (.int y)] ∧ Z.Warmed39 uU.vm ∧ uU.heap = h0) (fun _ _ _ _ _ => True) (fun _ uU oO uU' => ∃ vV lL, oO = .returned vV ∧ Q_rmRot Z x y h0 n0 vV uU'.heap lL ∧ FrameEnd uU oO uU' lL ({ frames := 0, cells := 0, slots := 0, locals := 0 } : Room).cells ({ frames := 0, cells := 0, slots := 0, locals := 0 } : Room).slots) := by
  refine MetFree.of_bodySF (plainFor_of_name pn_Long) hisR ?_
  intro p e s m args below meth c s₁ Bd hml0 hP hK
  obtain ⟨rfl, hZ, hh⟩ := hP
  have hx := Bd.exec
  have hby := Bd.bytes
  have hml : c.maxLocals = 3 := hml0
  have hown : s.vm.findClass "java/lang/Long" = some m.cls := findClass_of_methodNamed Bd.named
  have hnm := (name_of_methodNamed Bd.named Bd.method).1
  have X0 : Stand p l e ({ frames := 0, cells := 0, slots := 0, locals := 0 } : Room) s m #[(.long x), (.int y)] below meth c s₁ [] 0 0 := Stand.of_body Bd
  have e0 : s₁.heap = h0 := by rw [← hh, Bd.state]; rfl
  have N0 := Fr.nil n0
  refine oEnter (oCast (ef_rmRot m x y ) ?_)
  show oGl p e below (s₁.setTop (mkF m 0 #[.val (.long x), .second, .val (.int y)] [])) _
  refine slloadN X0 hx (hb hby d24_0) rfl rfl (pc' := 1) ?_
  refine siloadN X0 hx (hb hby d24_1) rfl rfl (pc' := 2) ?_
  refine slshl X0 hx (hb hby d24_2) rfl rfl (pc' := 3) ?_
  refine slloadN X0 hx (hb hby d24_3) rfl rfl (pc' := 4) ?_
  refine siloadN X0 hx (hb hby d24_4) rfl rfl (pc' := 5) ?_
  refine sineg X0 hx (hb hby d24_5) rfl rfl (pc' := 6) ?_
  refine slushr X0 hx (hb hby d24_6) rfl rfl (pc' := 7) ?_
  refine slor X0 hx (hb hby d24_7) rfl rfl (pc' := 8) ?_
  refine oRetJ X0 hx Bd.notSynchronized Bd.returns (hb hby d24_8) (by decide) (by decide) ?_
  show Q_rmRot Z x y h0 n0 _ s₁.heap _
  rw [e0]
  exact ⟨_, rfl, N0, rfl⟩
theorem d22_0 : decode prog_52_method_5_code 0 = .ok (.aload_n 0, 1) := by decide +kernel
theorem d22_1 : decode prog_52_method_5_code 1 = .ok (.getfield 9, 3) := by decide +kernel
theorem d22_4 : decode prog_52_method_5_code 4 = .ok (.ldc2_w 28, 3) := by decide +kernel
theorem d22_7 : decode prog_52_method_5_code 7 = .ok (.lxor, 1) := by decide +kernel
theorem d22_8 : decode prog_52_method_5_code 8 = .ok (.lstore 4, 2) := by decide +kernel
theorem d22_10 : decode prog_52_method_5_code 10 = .ok (.aload_n 0, 1) := by decide +kernel
theorem d22_11 : decode prog_52_method_5_code 11 = .ok (.getfield 15, 3) := by decide +kernel
theorem d22_14 : decode prog_52_method_5_code 14 = .ok (.ldc2_w 30, 3) := by decide +kernel
theorem d22_17 : decode prog_52_method_5_code 17 = .ok (.lxor, 1) := by decide +kernel
theorem d22_18 : decode prog_52_method_5_code 18 = .ok (.lstore 6, 2) := by decide +kernel
theorem d22_20 : decode prog_52_method_5_code 20 = .ok (.aload_n 0, 1) := by decide +kernel
theorem d22_21 : decode prog_52_method_5_code 21 = .ok (.getfield 9, 3) := by decide +kernel
theorem d22_24 : decode prog_52_method_5_code 24 = .ok (.ldc2_w 32, 3) := by decide +kernel
theorem d22_27 : decode prog_52_method_5_code 27 = .ok (.lxor, 1) := by decide +kernel
theorem d22_28 : decode prog_52_method_5_code 28 = .ok (.lstore 8, 2) := by decide +kernel
theorem d22_30 : decode prog_52_method_5_code 30 = .ok (.aload_n 0, 1) := by decide +kernel
theorem d22_31 : decode prog_52_method_5_code 31 = .ok (.getfield 15, 3) := by decide +kernel
theorem d22_34 : decode prog_52_method_5_code 34 = .ok (.ldc2_w 34, 3) := by decide +kernel
theorem d22_37 : decode prog_52_method_5_code 37 = .ok (.lxor, 1) := by decide +kernel
theorem d22_38 : decode prog_52_method_5_code 38 = .ok (.lstore 10, 2) := by decide +kernel
theorem d22_40 : decode prog_52_method_5_code 40 = .ok (.iload_n 3, 1) := by decide +kernel
theorem d22_41 : decode prog_52_method_5_code 41 = .ok (.iload_n 2, 1) := by decide +kernel
theorem d22_42 : decode prog_52_method_5_code 42 = .ok (.isub, 1) := by decide +kernel
theorem d22_43 : decode prog_52_method_5_code 43 = .ok (.istore 12, 2) := by decide +kernel
theorem d22_45 : decode prog_52_method_5_code 45 = .ok (.iload 12, 2) := by decide +kernel
theorem d22_47 : decode prog_52_method_5_code 47 = .ok (.bipush 8, 2) := by decide +kernel
theorem d22_49 : decode prog_52_method_5_code 49 = .ok (.idiv, 1) := by decide +kernel
theorem d22_50 : decode prog_52_method_5_code 50 = .ok (.iconst 1, 1) := by decide +kernel
theorem d22_51 : decode prog_52_method_5_code 51 = .ok (.iadd, 1) := by decide +kernel
theorem d22_52 : decode prog_52_method_5_code 52 = .ok (.istore 13, 2) := by decide +kernel
theorem d22_54 : decode prog_52_method_5_code 54 = .ok (.iconst 0, 1) := by decide +kernel
theorem d22_55 : decode prog_52_method_5_code 55 = .ok (.istore 14, 2) := by decide +kernel
theorem d22_57 : decode prog_52_method_5_code 57 = .ok (.iload 14, 2) := by decide +kernel
theorem d22_59 : decode prog_52_method_5_code 59 = .ok (.iload 13, 2) := by decide +kernel
theorem d22_61 : decode prog_52_method_5_code 61 = .ok (.if_icmp .gt 252, 3) := by decide +kernel
theorem d22_64 : decode prog_52_method_5_code 64 = .ok (.lconst 0, 1) := by decide +kernel
theorem d22_65 : decode prog_52_method_5_code 65 = .ok (.lstore 15, 2) := by decide +kernel
theorem d22_67 : decode prog_52_method_5_code 67 = .ok (.iconst 4, 1) := by decide +kernel
theorem d22_68 : decode prog_52_method_5_code 68 = .ok (.istore 17, 2) := by decide +kernel
theorem d22_70 : decode prog_52_method_5_code 70 = .ok (.iload 14, 2) := by decide +kernel
theorem d22_72 : decode prog_52_method_5_code 72 = .ok (.iload 13, 2) := by decide +kernel
theorem d22_74 : decode prog_52_method_5_code 74 = .ok (.if_icmp .ge 92, 3) := by decide +kernel
theorem d22_166 : decode prog_52_method_5_code 166 = .ok (.lload 8, 2) := by decide +kernel
theorem d22_168 : decode prog_52_method_5_code 168 = .ok (.ldc2_w 42, 3) := by decide +kernel
theorem d22_171 : decode prog_52_method_5_code 171 = .ok (.lxor, 1) := by decide +kernel
theorem d22_172 : decode prog_52_method_5_code 172 = .ok (.lstore 8, 2) := by decide +kernel
theorem d22_174 : decode prog_52_method_5_code 174 = .ok (.iconst 0, 1) := by decide +kernel
theorem d22_175 : decode prog_52_method_5_code 175 = .ok (.istore 18, 2) := by decide +kernel
theorem d22_177 : decode prog_52_method_5_code 177 = .ok (.iload 18, 2) := by decide +kernel
theorem d22_179 : decode prog_52_method_5_code 179 = .ok (.iload 17, 2) := by decide +kernel
theorem d22_181 : decode prog_52_method_5_code 181 = .ok (.if_icmp .ge 119, 3) := by decide +kernel
theorem d22_184 : decode prog_52_method_5_code 184 = .ok (.lload 4, 2) := by decide +kernel
theorem d22_186 : decode prog_52_method_5_code 186 = .ok (.lload 6, 2) := by decide +kernel
theorem d22_188 : decode prog_52_method_5_code 188 = .ok (.ladd, 1) := by decide +kernel
theorem d22_189 : decode prog_52_method_5_code 189 = .ok (.lstore 4, 2) := by decide +kernel
theorem d22_191 : decode prog_52_method_5_code 191 = .ok (.lload 6, 2) := by decide +kernel
theorem d22_193 : decode prog_52_method_5_code 193 = .ok (.bipush 13, 2) := by decide +kernel
theorem d22_195 : decode prog_52_method_5_code 195 = .ok (.invokestatic 46, 3) := by decide +kernel
theorem pd_16 : parseMethodDescriptor "(JI)J" = some ⟨[.long, .int], some .long⟩ := by decide +kernel
theorem d22_198 : decode prog_52_method_5_code 198 = .ok (.lstore 6, 2) := by decide +kernel
theorem d22_200 : decode prog_52_method_5_code 200 = .ok (.lload 6, 2) := by decide +kernel
theorem d22_202 : decode prog_52_method_5_code 202 = .ok (.lload 4, 2) := by decide +kernel
theorem d22_204 : decode prog_52_method_5_code 204 = .ok (.lxor, 1) := by decide +kernel
theorem d22_205 : decode prog_52_method_5_code 205 = .ok (.lstore 6, 2) := by decide +kernel
theorem d22_207 : decode prog_52_method_5_code 207 = .ok (.lload 4, 2) := by decide +kernel
theorem d22_209 : decode prog_52_method_5_code 209 = .ok (.bipush 32, 2) := by decide +kernel
theorem d22_211 : decode prog_52_method_5_code 211 = .ok (.invokestatic 46, 3) := by decide +kernel
theorem d22_214 : decode prog_52_method_5_code 214 = .ok (.lstore 4, 2) := by decide +kernel
theorem d22_216 : decode prog_52_method_5_code 216 = .ok (.lload 8, 2) := by decide +kernel
theorem d22_218 : decode prog_52_method_5_code 218 = .ok (.lload 10, 2) := by decide +kernel
theorem d22_220 : decode prog_52_method_5_code 220 = .ok (.ladd, 1) := by decide +kernel
theorem d22_221 : decode prog_52_method_5_code 221 = .ok (.lstore 8, 2) := by decide +kernel
theorem d22_223 : decode prog_52_method_5_code 223 = .ok (.lload 10, 2) := by decide +kernel
theorem d22_225 : decode prog_52_method_5_code 225 = .ok (.bipush 16, 2) := by decide +kernel
theorem d22_227 : decode prog_52_method_5_code 227 = .ok (.invokestatic 46, 3) := by decide +kernel
theorem d22_230 : decode prog_52_method_5_code 230 = .ok (.lstore 10, 2) := by decide +kernel
theorem d22_232 : decode prog_52_method_5_code 232 = .ok (.lload 10, 2) := by decide +kernel
theorem d22_234 : decode prog_52_method_5_code 234 = .ok (.lload 8, 2) := by decide +kernel
theorem d22_236 : decode prog_52_method_5_code 236 = .ok (.lxor, 1) := by decide +kernel
theorem d22_237 : decode prog_52_method_5_code 237 = .ok (.lstore 10, 2) := by decide +kernel
theorem d22_239 : decode prog_52_method_5_code 239 = .ok (.lload 4, 2) := by decide +kernel
theorem d22_241 : decode prog_52_method_5_code 241 = .ok (.lload 10, 2) := by decide +kernel
theorem d22_243 : decode prog_52_method_5_code 243 = .ok (.ladd, 1) := by decide +kernel
theorem d22_244 : decode prog_52_method_5_code 244 = .ok (.lstore 4, 2) := by decide +kernel
theorem d22_246 : decode prog_52_method_5_code 246 = .ok (.lload 10, 2) := by decide +kernel
theorem d22_248 : decode prog_52_method_5_code 248 = .ok (.bipush 21, 2) := by decide +kernel
theorem d22_250 : decode prog_52_method_5_code 250 = .ok (.invokestatic 46, 3) := by decide +kernel
theorem d22_253 : decode prog_52_method_5_code 253 = .ok (.lstore 10, 2) := by decide +kernel
theorem d22_255 : decode prog_52_method_5_code 255 = .ok (.lload 10, 2) := by decide +kernel
theorem d22_257 : decode prog_52_method_5_code 257 = .ok (.lload 4, 2) := by decide +kernel
theorem d22_259 : decode prog_52_method_5_code 259 = .ok (.lxor, 1) := by decide +kernel
theorem d22_260 : decode prog_52_method_5_code 260 = .ok (.lstore 10, 2) := by decide +kernel
theorem d22_262 : decode prog_52_method_5_code 262 = .ok (.lload 8, 2) := by decide +kernel
theorem d22_264 : decode prog_52_method_5_code 264 = .ok (.lload 6, 2) := by decide +kernel
theorem d22_266 : decode prog_52_method_5_code 266 = .ok (.ladd, 1) := by decide +kernel
theorem d22_267 : decode prog_52_method_5_code 267 = .ok (.lstore 8, 2) := by decide +kernel
theorem d22_269 : decode prog_52_method_5_code 269 = .ok (.lload 6, 2) := by decide +kernel
theorem d22_271 : decode prog_52_method_5_code 271 = .ok (.bipush 17, 2) := by decide +kernel
theorem d22_273 : decode prog_52_method_5_code 273 = .ok (.invokestatic 46, 3) := by decide +kernel
theorem d22_276 : decode prog_52_method_5_code 276 = .ok (.lstore 6, 2) := by decide +kernel
theorem d22_278 : decode prog_52_method_5_code 278 = .ok (.lload 6, 2) := by decide +kernel
theorem d22_280 : decode prog_52_method_5_code 280 = .ok (.lload 8, 2) := by decide +kernel
theorem d22_282 : decode prog_52_method_5_code 282 = .ok (.lxor, 1) := by decide +kernel
theorem d22_283 : decode prog_52_method_5_code 283 = .ok (.lstore 6, 2) := by decide +kernel
theorem d22_285 : decode prog_52_method_5_code 285 = .ok (.lload 8, 2) := by decide +kernel
theorem d22_287 : decode prog_52_method_5_code 287 = .ok (.bipush 32, 2) := by decide +kernel
theorem d22_289 : decode prog_52_method_5_code 289 = .ok (.invokestatic 46, 3) := by decide +kernel
theorem d22_292 : decode prog_52_method_5_code 292 = .ok (.lstore 8, 2) := by decide +kernel
theorem d22_294 : decode prog_52_method_5_code 294 = .ok (.iinc 18 1, 3) := by decide +kernel
theorem d22_297 : decode prog_52_method_5_code 297 = .ok (.goto (-120), 3) := by decide +kernel
theorem d22_300 : decode prog_52_method_5_code 300 = .ok (.lload 4, 2) := by decide +kernel
theorem d22_302 : decode prog_52_method_5_code 302 = .ok (.lload 15, 2) := by decide +kernel
theorem d22_304 : decode prog_52_method_5_code 304 = .ok (.lxor, 1) := by decide +kernel
theorem d22_305 : decode prog_52_method_5_code 305 = .ok (.lstore 4, 2) := by decide +kernel
theorem d22_307 : decode prog_52_method_5_code 307 = .ok (.iinc 14 1, 3) := by decide +kernel
theorem d22_310 : decode prog_52_method_5_code 310 = .ok (.goto (-253), 3) := by decide +kernel
theorem d22_313 : decode prog_52_method_5_code 313 = .ok (.lload 4, 2) := by decide +kernel
theorem d22_315 : decode prog_52_method_5_code 315 = .ok (.lload 6, 2) := by decide +kernel
theorem d22_317 : decode prog_52_method_5_code 317 = .ok (.lxor, 1) := by decide +kernel
theorem d22_318 : decode prog_52_method_5_code 318 = .ok (.lload 8, 2) := by decide +kernel
theorem d22_320 : decode prog_52_method_5_code 320 = .ok (.lxor, 1) := by decide +kernel
theorem d22_321 : decode prog_52_method_5_code 321 = .ok (.lload 10, 2) := by decide +kernel
theorem d22_323 : decode prog_52_method_5_code 323 = .ok (.lxor, 1) := by decide +kernel
theorem d22_324 : decode prog_52_method_5_code 324 = .ok (.lreturn, 1) := by decide +kernel
theorem d22_77 : decode prog_52_method_5_code 77 = .ok (.iload_n 2, 1) := by decide +kernel
theorem d22_78 : decode prog_52_method_5_code 78 = .ok (.iload 14, 2) := by decide +kernel
theorem d22_80 : decode prog_52_method_5_code 80 = .ok (.bipush 8, 2) := by decide +kernel
theorem d22_82 : decode prog_52_method_5_code 82 = .ok (.imul, 1) := by decide +kernel
theorem d22_83 : decode prog_52_method_5_code 83 = .ok (.iadd, 1) := by decide +kernel
theorem d22_84 : decode prog_52_method_5_code 84 = .ok (.istore 18, 2) := by decide +kernel
theorem d22_86 : decode prog_52_method_5_code 86 = .ok (.iload 18, 2) := by decide +kernel
theorem d22_88 : decode prog_52_method_5_code 88 = .ok (.bipush 8, 2) := by decide +kernel
theorem d22_90 : decode prog_52_method_5_code 90 = .ok (.iadd, 1) := by decide +kernel
theorem d22_91 : decode prog_52_method_5_code 91 = .ok (.iload_n 3, 1) := by decide +kernel
theorem d22_92 : decode prog_52_method_5_code 92 = .ok (.invokestatic 36, 3) := by decide +kernel
theorem d22_95 : decode prog_52_method_5_code 95 = .ok (.istore 19, 2) := by decide +kernel
theorem d22_97 : decode prog_52_method_5_code 97 = .ok (.iconst 0, 1) := by decide +kernel
theorem d22_98 : decode prog_52_method_5_code 98 = .ok (.istore 20, 2) := by decide +kernel
theorem d22_100 : decode prog_52_method_5_code 100 = .ok (.iload 18, 2) := by decide +kernel
theorem d22_102 : decode prog_52_method_5_code 102 = .ok (.iload 19, 2) := by decide +kernel
theorem d22_104 : decode prog_52_method_5_code 104 = .ok (.if_icmp .ge 29, 3) := by decide +kernel
theorem d22_107 : decode prog_52_method_5_code 107 = .ok (.lload 15, 2) := by decide +kernel
theorem d22_109 : decode prog_52_method_5_code 109 = .ok (.aload_n 1, 1) := by decide +kernel
theorem d22_110 : decode prog_52_method_5_code 110 = .ok (.iload 18, 2) := by decide +kernel
theorem d22_112 : decode prog_52_method_5_code 112 = .ok (.baload, 1) := by decide +kernel
theorem d22_113 : decode prog_52_method_5_code 113 = .ok (.i2l, 1) := by decide +kernel
theorem d22_114 : decode prog_52_method_5_code 114 = .ok (.ldc2_w 42, 3) := by decide +kernel
theorem d22_117 : decode prog_52_method_5_code 117 = .ok (.land, 1) := by decide +kernel
theorem d22_118 : decode prog_52_method_5_code 118 = .ok (.iload 20, 2) := by decide +kernel
theorem d22_120 : decode prog_52_method_5_code 120 = .ok (.lshl, 1) := by decide +kernel
theorem d22_121 : decode prog_52_method_5_code 121 = .ok (.lor, 1) := by decide +kernel
theorem d22_122 : decode prog_52_method_5_code 122 = .ok (.lstore 15, 2) := by decide +kernel
theorem d22_124 : decode prog_52_method_5_code 124 = .ok (.iinc 18 1, 3) := by decide +kernel
theorem d22_127 : decode prog_52_method_5_code 127 = .ok (.iinc 20 8, 3) := by decide +kernel
theorem d22_130 : decode prog_52_method_5_code 130 = .ok (.goto (-30), 3) := by decide +kernel
theorem d22_133 : decode prog_52_method_5_code 133 = .ok (.iload 14, 2) := by decide +kernel
theorem d22_135 : decode prog_52_method_5_code 135 = .ok (.iload 13, 2) := by decide +kernel
theorem d22_137 : decode prog_52_method_5_code 137 = .ok (.iconst 1, 1) := by decide +kernel
theorem d22_138 : decode prog_52_method_5_code 138 = .ok (.isub, 1) := by decide +kernel
theorem d22_139 : decode prog_52_method_5_code 139 = .ok (.if_icmp .ne 14, 3) := by decide +kernel
theorem d22_142 : decode prog_52_method_5_code 142 = .ok (.lload 15, 2) := by decide +kernel
theorem d22_144 : decode prog_52_method_5_code 144 = .ok (.iload 12, 2) := by decide +kernel
theorem d22_146 : decode prog_52_method_5_code 146 = .ok (.i2l, 1) := by decide +kernel
theorem d22_147 : decode prog_52_method_5_code 147 = .ok (.bipush 56, 2) := by decide +kernel
theorem d22_149 : decode prog_52_method_5_code 149 = .ok (.lshl, 1) := by decide +kernel
theorem d22_150 : decode prog_52_method_5_code 150 = .ok (.lor, 1) := by decide +kernel
theorem d22_151 : decode prog_52_method_5_code 151 = .ok (.lstore 15, 2) := by decide +kernel
theorem d22_153 : decode prog_52_method_5_code 153 = .ok (.lload 10, 2) := by decide +kernel
theorem d22_155 : decode prog_52_method_5_code 155 = .ok (.lload 15, 2) := by decide +kernel
theorem d22_157 : decode prog_52_method_5_code 157 = .ok (.lxor, 1) := by decide +kernel
theorem d22_158 : decode prog_52_method_5_code 158 = .ok (.lstore 10, 2) := by decide +kernel
theorem d22_160 : decode prog_52_method_5_code 160 = .ok (.iconst 2, 1) := by decide +kernel
theorem d22_161 : decode prog_52_method_5_code 161 = .ok (.istore 17, 2) := by decide +kernel
theorem d22_163 : decode prog_52_method_5_code 163 = .ok (.goto 11, 3) := by decide +kernel
theorem pn_SipHash : plainName "com/example/yusen_ledger/yusenledger/SipHash" = true := by first | (simp [plainName, overriddenIn]; done) | decide +kernel
theorem ef_rmSip (m : MethodId) (x0 : Nat) (x1 : Nat) (x2 : Int32) (x3 : Int32)  : entryFrame m #[(.ref x0), (.ref x1), (.int x2), (.int x3)] 21 = mkF m 0 #[.val (.ref x0), .val (.ref x1), .val (.int x2), .val (.int x3), .unset, .unset, .unset, .unset, .unset, .unset, .unset, .unset, .unset, .unset, .unset, .unset, .unset, .unset, .unset, .unset, .unset] [] := by first | (simp [entryFrame, mkF, argsToLocals, Value.category, maxLocals]; done) | rfl
def Q_rmSip (Z : State) (ha d k : Nat) (g : Nat → Int32) (h0 : Heap) (n0 : Nat) (vv : Option Value) (h : Heap) (L : List Loc) : Prop := ∃ r : Int64, vv = some (.long r) ∧ Fr n0 L ∧ h = h0
set_option maxRecDepth 65536 in
set_option maxHeartbeats 40000000 in
theorem rmSip (l : Launch) (Z : State) (a0 : Array Value) (hw : ∀ d ∈ tables_1, d.before a0 Z = true) (ws : List Jvm.Cond) (ha d k : Nat) (g : Nat → Int32) (h0 : Heap) (n0 : Nat) (Z0 : n0 ≤ h0.size) (O0 : Old Z n0 h0) (FK0 : Fld Z Z.heap ha "com/example/yusen_ledger/yusenledger/SipHash" "key0" "J" (.long 0)) (FK1 : Fld Z Z.heap ha "com/example/yusen_ledger/yusenledger/SipHash" "key1" "J" (.long 0)) (PD : oAI Z h0 d .byte k g) (hk : 1 ≤ k ∧ k ≤ 4) :
    MetFree l (⟨"com/example/yusen_ledger/yusenledger/SipHash", "of", "([BII)J"⟩ : MethodName) (head1 (Jvm.Cond.code (⟨"com/example/yusen_ledger/yusenledger/SipHash", "of", "([BII)J"⟩ : MethodName) prog_52_method_5_code 21 (some .long) :: ws) ({ frames := 1, cells := 0, slots := 0, locals := 14 } : Room)) (fun aA uU => aA = #[(.ref ha), (.ref d), (.int (0 : Int32)), (.int (Int32.ofNat k))] ∧ Z.Warmed39 uU.vm ∧ uU.heap = h0) (fun _ _ _ _ _ => True) (fun _ uU oO uU' => ∃ vV lL, oO = .returned vV ∧ Q_rmSip Z ha d k g h0 n0 vV uU'.heap lL ∧ FrameEnd uU oO uU' lL ({ frames := 1, cells := 0, slots := 0, locals := 14 } : Room).cells ({ frames := 1, cells := 0, slots := 0, locals := 14 } : Room).slots) := by
  refine MetFree.of_bodySF (plainFor_of_name pn_SipHash) hisR ?_
  intro p e s m args below meth c s₁ Bd hml0 hP hK
  obtain ⟨rfl, hZ, hh⟩ := hP
  have hx := Bd.exec
  have hby := Bd.bytes
  have hml : c.maxLocals = 21 := hml0
  have hown : s.vm.findClass "com/example/yusen_ledger/yusenledger/SipHash" = some m.cls := findClass_of_methodNamed Bd.named
  have hnm := (name_of_methodNamed Bd.named Bd.method).1
  have X0 : Stand p l e ({ frames := 1, cells := 0, slots := 0, locals := 14 } : Room) s m #[(.ref ha), (.ref d), (.int (0 : Int32)), (.int (Int32.ofNat k))] below meth c s₁ [] 0 0 := Stand.of_body Bd
  have e0 : s₁.heap = h0 := by rw [← hh, Bd.state]; rfl
  have N0 := Fr.nil n0
  refine oEnter (oCast (ef_rmSip m ha d (0 : Int32) (Int32.ofNat k) ) ?_)
  show oGl p e below (s₁.setTop (mkF m 0 #[.val (.ref ha), .val (.ref d), .val (.int (0 : Int32)), .val (.int (Int32.ofNat k)), .unset, .unset, .unset, .unset, .unset, .unset, .unset, .unset, .unset, .unset, .unset, .unset, .unset, .unset, .unset, .unset, .unset] [])) _
  refine saloadN X0 hx (hb hby d22_0) rfl rfl rfl (pc' := 1) ?_
  obtain ⟨T1, X1, e1, st1⟩ := getF X0 hx hZ hown (host := "") (Or.inl (hw _ (List.mem_of_getElem? (i := 134) rfl))) Via.refl e0 (FK0.ext O0.2) (g := (mkF m 1 #[.val (.ref ha), .val (.ref d), .val (.int (0 : Int32)), .val (.int (Int32.ofNat k)), .unset, .unset, .unset, .unset, .unset, .unset, .unset, .unset, .unset, .unset, .unset, .unset, .unset, .unset, .unset, .unset, .unset] [(.ref ha)])) rfl rfl (hb hby d22_1)
  refine oOn st1 ?_
  show oGl p e below (T1.setTop (mkF m 4 #[.val (.ref ha), .val (.ref d), .val (.int (0 : Int32)), .val (.int (Int32.ofNat k)), .unset, .unset, .unset, .unset, .unset, .unset, .unset, .unset, .unset, .unset, .unset, .unset, .unset, .unset, .unset, .unset, .unset] [(.long (0 : Int64))])) _
  refine oOn (X1.ldc2Long hx hown (mvT hZ (hw _ (List.mem_of_getElem? (i := 136) rfl))) (g := (mkF m 4 #[.val (.ref ha), .val (.ref d), .val (.int (0 : Int32)), .val (.int (Int32.ofNat k)), .unset, .unset, .unset, .unset, .unset, .unset, .unset, .unset, .unset, .unset, .unset, .unset, .unset, .unset, .unset, .unset, .unset] [(.long (0 : Int64))])) rfl (hb hby d22_4)) ?_
  show oGl p e below (T1.setTop (mkF m 7 #[.val (.ref ha), .val (.ref d), .val (.int (0 : Int32)), .val (.int (Int32.ofNat k)), .unset, .unset, .unset, .unset, .unset, .unset, .unset, .unset, .unset, .unset, .unset, .unset, .unset, .unset, .unset, .unset, .unset] [(.long (8317987319222330741 : Int64)), (.long (0 : Int64))])) _
  refine slxor X1 hx (hb hby d22_7) rfl rfl (pc' := 8) ?_
  refine slstore X1 hx (hb hby d22_8) rfl rfl (l' := #[.val (.ref ha), .val (.ref d), .val (.int (0 : Int32)), .val (.int (Int32.ofNat k)), .val (.long ((0 : Int64) ^^^ (8317987319222330741 : Int64))), .second, .unset, .unset, .unset, .unset, .unset, .unset, .unset, .unset, .unset, .unset, .unset, .unset, .unset, .unset, .unset]) (pc' := 10) ?_
  refine saloadN X1 hx (hb hby d22_10) rfl rfl rfl (pc' := 11) ?_
  obtain ⟨T2, X2, e2, st2⟩ := getF X1 hx hZ hown (host := "") (Or.inl (hw _ (List.mem_of_getElem? (i := 137) rfl))) Via.refl e1 (FK1.ext O0.2) (g := (mkF m 11 #[.val (.ref ha), .val (.ref d), .val (.int (0 : Int32)), .val (.int (Int32.ofNat k)), .val (.long ((0 : Int64) ^^^ (8317987319222330741 : Int64))), .second, .unset, .unset, .unset, .unset, .unset, .unset, .unset, .unset, .unset, .unset, .unset, .unset, .unset, .unset, .unset] [(.ref ha)])) rfl rfl (hb hby d22_11)
  refine oOn st2 ?_
  show oGl p e below (T2.setTop (mkF m 14 #[.val (.ref ha), .val (.ref d), .val (.int (0 : Int32)), .val (.int (Int32.ofNat k)), .val (.long ((0 : Int64) ^^^ (8317987319222330741 : Int64))), .second, .unset, .unset, .unset, .unset, .unset, .unset, .unset, .unset, .unset, .unset, .unset, .unset, .unset, .unset, .unset] [(.long (0 : Int64))])) _
  refine oOn (X2.ldc2Long hx hown (mvT hZ (hw _ (List.mem_of_getElem? (i := 139) rfl))) (g := (mkF m 14 #[.val (.ref ha), .val (.ref d), .val (.int (0 : Int32)), .val (.int (Int32.ofNat k)), .val (.long ((0 : Int64) ^^^ (8317987319222330741 : Int64))), .second, .unset, .unset, .unset, .unset, .unset, .unset, .unset, .unset, .unset, .unset, .unset, .unset, .unset, .unset, .unset] [(.long (0 : Int64))])) rfl (hb hby d22_14)) ?_
  show oGl p e below (T2.setTop (mkF m 17 #[.val (.ref ha), .val (.ref d), .val (.int (0 : Int32)), .val (.int (Int32.ofNat k)), .val (.long ((0 : Int64) ^^^ (8317987319222330741 : Int64))), .second, .unset, .unset, .unset, .unset, .unset, .unset, .unset, .unset, .unset, .unset, .unset, .unset, .unset, .unset, .unset] [(.long (7237128888997146477 : Int64)), (.long (0 : Int64))])) _
  refine slxor X2 hx (hb hby d22_17) rfl rfl (pc' := 18) ?_
  refine slstore X2 hx (hb hby d22_18) rfl rfl (l' := #[.val (.ref ha), .val (.ref d), .val (.int (0 : Int32)), .val (.int (Int32.ofNat k)), .val (.long ((0 : Int64) ^^^ (8317987319222330741 : Int64))), .second, .val (.long ((0 : Int64) ^^^ (7237128888997146477 : Int64))), .second, .unset, .unset, .unset, .unset, .unset, .unset, .unset, .unset, .unset, .unset, .unset, .unset, .unset]) (pc' := 20) ?_
  refine saloadN X2 hx (hb hby d22_20) rfl rfl rfl (pc' := 21) ?_
  obtain ⟨T3, X3, e3, st3⟩ := getF X2 hx hZ hown (host := "") (Or.inl (hw _ (List.mem_of_getElem? (i := 134) rfl))) Via.refl e2 (FK0.ext O0.2) (g := (mkF m 21 #[.val (.ref ha), .val (.ref d), .val (.int (0 : Int32)), .val (.int (Int32.ofNat k)), .val (.long ((0 : Int64) ^^^ (8317987319222330741 : Int64))), .second, .val (.long ((0 : Int64) ^^^ (7237128888997146477 : Int64))), .second, .unset, .unset, .unset, .unset, .unset, .unset, .unset, .unset, .unset, .unset, .unset, .unset, .unset] [(.ref ha)])) rfl rfl (hb hby d22_21)
  refine oOn st3 ?_
  show oGl p e below (T3.setTop (mkF m 24 #[.val (.ref ha), .val (.ref d), .val (.int (0 : Int32)), .val (.int (Int32.ofNat k)), .val (.long ((0 : Int64) ^^^ (8317987319222330741 : Int64))), .second, .val (.long ((0 : Int64) ^^^ (7237128888997146477 : Int64))), .second, .unset, .unset, .unset, .unset, .unset, .unset, .unset, .unset, .unset, .unset, .unset, .unset, .unset] [(.long (0 : Int64))])) _
  refine oOn (X3.ldc2Long hx hown (mvT hZ (hw _ (List.mem_of_getElem? (i := 140) rfl))) (g := (mkF m 24 #[.val (.ref ha), .val (.ref d), .val (.int (0 : Int32)), .val (.int (Int32.ofNat k)), .val (.long ((0 : Int64) ^^^ (8317987319222330741 : Int64))), .second, .val (.long ((0 : Int64) ^^^ (7237128888997146477 : Int64))), .second, .unset, .unset, .unset, .unset, .unset, .unset, .unset, .unset, .unset, .unset, .unset, .unset, .unset] [(.long (0 : Int64))])) rfl (hb hby d22_24)) ?_
  show oGl p e below (T3.setTop (mkF m 27 #[.val (.ref ha), .val (.ref d), .val (.int (0 : Int32)), .val (.int (Int32.ofNat k)), .val (.long ((0 : Int64) ^^^ (8317987319222330741 : Int64))), .second, .val (.long ((0 : Int64) ^^^ (7237128888997146477 : Int64))), .second, .unset, .unset, .unset, .unset, .unset, .unset, .unset, .unset, .unset, .unset, .unset, .unset, .unset] [(.long (7816392313619706465 : Int64)), (.long (0 : Int64))])) _
  refine slxor X3 hx (hb hby d22_27) rfl rfl (pc' := 28) ?_
  refine slstore X3 hx (hb hby d22_28) rfl rfl (l' := #[.val (.ref ha), .val (.ref d), .val (.int (0 : Int32)), .val (.int (Int32.ofNat k)), .val (.long ((0 : Int64) ^^^ (8317987319222330741 : Int64))), .second, .val (.long ((0 : Int64) ^^^ (7237128888997146477 : Int64))), .second, .val (.long ((0 : Int64) ^^^ (7816392313619706465 : Int64))), .second, .unset, .unset, .unset, .unset, .unset, .unset, .unset, .unset, .unset, .unset, .unset]) (pc' := 30) ?_
  refine saloadN X3 hx (hb hby d22_30) rfl rfl rfl (pc' := 31) ?_
  obtain ⟨T4, X4, e4, st4⟩ := getF X3 hx hZ hown (host := "") (Or.inl (hw _ (List.mem_of_getElem? (i := 137) rfl))) Via.refl e3 (FK1.ext O0.2) (g := (mkF m 31 #[.val (.ref ha), .val (.ref d), .val (.int (0 : Int32)), .val (.int (Int32.ofNat k)), .val (.long ((0 : Int64) ^^^ (8317987319222330741 : Int64))), .second, .val (.long ((0 : Int64) ^^^ (7237128888997146477 : Int64))), .second, .val (.long ((0 : Int64) ^^^ (7816392313619706465 : Int64))), .second, .unset, .unset, .unset, .unset, .unset, .unset, .unset, .unset, .unset, .unset, .unset] [(.ref ha)])) rfl rfl (hb hby d22_31)
  refine oOn st4 ?_
  show oGl p e below (T4.setTop (mkF m 34 #[.val (.ref ha), .val (.ref d), .val (.int (0 : Int32)), .val (.int (Int32.ofNat k)), .val (.long ((0 : Int64) ^^^ (8317987319222330741 : Int64))), .second, .val (.long ((0 : Int64) ^^^ (7237128888997146477 : Int64))), .second, .val (.long ((0 : Int64) ^^^ (7816392313619706465 : Int64))), .second, .unset, .unset, .unset, .unset, .unset, .unset, .unset, .unset, .unset, .unset, .unset] [(.long (0 : Int64))])) _
  refine oOn (X4.ldc2Long hx hown (mvT hZ (hw _ (List.mem_of_getElem? (i := 141) rfl))) (g := (mkF m 34 #[.val (.ref ha), .val (.ref d), .val (.int (0 : Int32)), .val (.int (Int32.ofNat k)), .val (.long ((0 : Int64) ^^^ (8317987319222330741 : Int64))), .second, .val (.long ((0 : Int64) ^^^ (7237128888997146477 : Int64))), .second, .val (.long ((0 : Int64) ^^^ (7816392313619706465 : Int64))), .second, .unset, .unset, .unset, .unset, .unset, .unset, .unset, .unset, .unset, .unset, .unset] [(.long (0 : Int64))])) rfl (hb hby d22_34)) ?_
  show oGl p e below (T4.setTop (mkF m 37 #[.val (.ref ha), .val (.ref d), .val (.int (0 : Int32)), .val (.int (Int32.ofNat k)), .val (.long ((0 : Int64) ^^^ (8317987319222330741 : Int64))), .second, .val (.long ((0 : Int64) ^^^ (7237128888997146477 : Int64))), .second, .val (.long ((0 : Int64) ^^^ (7816392313619706465 : Int64))), .second, .unset, .unset, .unset, .unset, .unset, .unset, .unset, .unset, .unset, .unset, .unset] [(.long (8387220255154660723 : Int64)), (.long (0 : Int64))])) _
  refine slxor X4 hx (hb hby d22_37) rfl rfl (pc' := 38) ?_
  refine slstore X4 hx (hb hby d22_38) rfl rfl (l' := #[.val (.ref ha), .val (.ref d), .val (.int (0 : Int32)), .val (.int (Int32.ofNat k)), .val (.long ((0 : Int64) ^^^ (8317987319222330741 : Int64))), .second, .val (.long ((0 : Int64) ^^^ (7237128888997146477 : Int64))), .second, .val (.long ((0 : Int64) ^^^ (7816392313619706465 : Int64))), .second, .val (.long ((0 : Int64) ^^^ (8387220255154660723 : Int64))), .second, .unset, .unset, .unset, .unset, .unset, .unset, .unset, .unset, .unset]) (pc' := 40) ?_
  refine siloadN X4 hx (hb hby d22_40) rfl rfl (pc' := 41) ?_
  refine siloadN X4 hx (hb hby d22_41) rfl rfl (pc' := 42) ?_
  refine sisub X4 hx (hb hby d22_42) rfl rfl (pc' := 43) ?_
  refine sistore X4 hx (hb hby d22_43) rfl rfl (l' := #[.val (.ref ha), .val (.ref d), .val (.int (0 : Int32)), .val (.int (Int32.ofNat k)), .val (.long ((0 : Int64) ^^^ (8317987319222330741 : Int64))), .second, .val (.long ((0 : Int64) ^^^ (7237128888997146477 : Int64))), .second, .val (.long ((0 : Int64) ^^^ (7816392313619706465 : Int64))), .second, .val (.long ((0 : Int64) ^^^ (8387220255154660723 : Int64))), .second, .val (.int ((Int32.ofNat k) - (0 : Int32))), .unset, .unset, .unset, .unset, .unset, .unset, .unset, .unset]) (pc' := 45) ?_
  refine siload X4 hx (hb hby d22_45) rfl rfl (pc' := 47) ?_
  refine sbipush X4 hx (hb hby d22_47) rfl rfl (z := 8) (pc' := 49) ?_
  refine sidiv X4 hx (hb hby d22_49) rfl (by decide) rfl (pc' := 50) ?_
  refine siconst X4 hx (hb hby d22_50) rfl rfl (z := 1) (pc' := 51) ?_
  refine siadd X4 hx (hb hby d22_51) rfl rfl (pc' := 52) ?_
  have e52 : ((((Int32.ofNat k) - (0 : Int32)) / (8 : Int32)) + (1 : Int32)) = (1 : Int32) := own_sip hk
  rw [e52]
  show oGl p e below (T4.setTop (mkF m 52 #[.val (.ref ha), .val (.ref d), .val (.int (0 : Int32)), .val (.int (Int32.ofNat k)), .val (.long ((0 : Int64) ^^^ (8317987319222330741 : Int64))), .second, .val (.long ((0 : Int64) ^^^ (7237128888997146477 : Int64))), .second, .val (.long ((0 : Int64) ^^^ (7816392313619706465 : Int64))), .second, .val (.long ((0 : Int64) ^^^ (8387220255154660723 : Int64))), .second, .val (.int ((Int32.ofNat k) - (0 : Int32))), .unset, .unset, .unset, .unset, .unset, .unset, .unset, .unset] [(.int (1 : Int32))])) _
  refine sistore X4 hx (hb hby d22_52) rfl rfl (l' := #[.val (.ref ha), .val (.ref d), .val (.int (0 : Int32)), .val (.int (Int32.ofNat k)), .val (.long ((0 : Int64) ^^^ (8317987319222330741 : Int64))), .second, .val (.long ((0 : Int64) ^^^ (7237128888997146477 : Int64))), .second, .val (.long ((0 : Int64) ^^^ (7816392313619706465 : Int64))), .second, .val (.long ((0 : Int64) ^^^ (8387220255154660723 : Int64))), .second, .val (.int ((Int32.ofNat k) - (0 : Int32))), .val (.int (1 : Int32)), .unset, .unset, .unset, .unset, .unset, .unset, .unset]) (pc' := 54) ?_
  refine siconst X4 hx (hb hby d22_54) rfl rfl (z := 0) (pc' := 55) ?_
  refine sistore X4 hx (hb hby d22_55) rfl rfl (l' := #[.val (.ref ha), .val (.ref d), .val (.int (0 : Int32)), .val (.int (Int32.ofNat k)), .val (.long ((0 : Int64) ^^^ (8317987319222330741 : Int64))), .second, .val (.long ((0 : Int64) ^^^ (7237128888997146477 : Int64))), .second, .val (.long ((0 : Int64) ^^^ (7816392313619706465 : Int64))), .second, .val (.long ((0 : Int64) ^^^ (8387220255154660723 : Int64))), .second, .val (.int ((Int32.ofNat k) - (0 : Int32))), .val (.int (1 : Int32)), .val (.int (0 : Int32)), .unset, .unset, .unset, .unset, .unset, .unset]) (pc' := 57) ?_
  have j57 : ∀ (q0 q1 q2 q3 w15 : Int64) (q18 q19 q20 : Int32)  (T : State) (locs : List Loc) (X : Stand p l e ({ frames := 1, cells := 0, slots := 0, locals := 14 } : Room) s m #[(.ref ha), (.ref d), (.int (0 : Int32)), (.int (Int32.ofNat k))] below meth c T locs 0 0) (eT : T.heap = h0) (N : Fr n0 locs), oGl p e below (T.setTop (mkF m 57 #[.val (.ref ha), .val (.ref d), .val (.int (0 : Int32)), .val (.int (Int32.ofNat k)), .val (.long q0), .second, .val (.long q1), .second, .val (.long q2), .second, .val (.long q3), .second, .val (.int ((Int32.ofNat k) - (0 : Int32))), .val (.int (1 : Int32)), .val (.int (1 : Int32)), .val (.long w15), .second, .val (.int (2 : Int32)), .val (.int q18), .val (.int q19), .val (.int q20)] [])) (oFin s below (Q_rmSip Z ha d k g h0 n0) ({ frames := 1, cells := 0, slots := 0, locals := 14 } : Room).cells ({ frames := 1, cells := 0, slots := 0, locals := 14 } : Room).slots) := by
    intro q0 q1 q2 q3 w15 q18 q19 q20 T locs X eT N
    refine siload X hx (hb hby d22_57) rfl rfl (pc' := 59) ?_
    refine siload X hx (hb hby d22_59) rfl rfl (pc' := 61) ?_
    refine sicN X hx (hb hby d22_61) rfl (flt (by decide : ¬ ((1 : Int32) < (1 : Int32)))).2.2.1 (pc' := 64) ?_
    refine slconst X hx (hb hby d22_64) rfl rfl (z := 0) (pc' := 65) ?_
    refine slstore X hx (hb hby d22_65) rfl rfl (l' := #[.val (.ref ha), .val (.ref d), .val (.int (0 : Int32)), .val (.int (Int32.ofNat k)), .val (.long q0), .second, .val (.long q1), .second, .val (.long q2), .second, .val (.long q3), .second, .val (.int ((Int32.ofNat k) - (0 : Int32))), .val (.int (1 : Int32)), .val (.int (1 : Int32)), .val (.long (0 : Int64)), .second, .val (.int (2 : Int32)), .val (.int q18), .val (.int q19), .val (.int q20)]) (pc' := 67) ?_
    refine siconst X hx (hb hby d22_67) rfl rfl (z := 4) (pc' := 68) ?_
    refine sistore X hx (hb hby d22_68) rfl rfl (l' := #[.val (.ref ha), .val (.ref d), .val (.int (0 : Int32)), .val (.int (Int32.ofNat k)), .val (.long q0), .second, .val (.long q1), .second, .val (.long q2), .second, .val (.long q3), .second, .val (.int ((Int32.ofNat k) - (0 : Int32))), .val (.int (1 : Int32)), .val (.int (1 : Int32)), .val (.long (0 : Int64)), .second, .val (.int (4 : Int32)), .val (.int q18), .val (.int q19), .val (.int q20)]) (pc' := 70) ?_
    refine siload X hx (hb hby d22_70) rfl rfl (pc' := 72) ?_
    refine siload X hx (hb hby d22_72) rfl rfl (pc' := 74) ?_
    refine sicY X hx (hb hby d22_74) (by decide) (by decide) (flt (by decide : ¬ ((1 : Int32) < (1 : Int32)))).2.1 (pc' := 166) ?_
    refine slload X hx (hb hby d22_166) rfl rfl (pc' := 168) ?_
    refine oOn (X.ldc2Long hx hown (mvT hZ (hw _ (List.mem_of_getElem? (i := 146) rfl))) (g := (mkF m 168 #[.val (.ref ha), .val (.ref d), .val (.int (0 : Int32)), .val (.int (Int32.ofNat k)), .val (.long q0), .second, .val (.long q1), .second, .val (.long q2), .second, .val (.long q3), .second, .val (.int ((Int32.ofNat k) - (0 : Int32))), .val (.int (1 : Int32)), .val (.int (1 : Int32)), .val (.long (0 : Int64)), .second, .val (.int (4 : Int32)), .val (.int q18), .val (.int q19), .val (.int q20)] [(.long q2)])) rfl (hb hby d22_168)) ?_
    show oGl p e below (T.setTop (mkF m 171 #[.val (.ref ha), .val (.ref d), .val (.int (0 : Int32)), .val (.int (Int32.ofNat k)), .val (.long q0), .second, .val (.long q1), .second, .val (.long q2), .second, .val (.long q3), .second, .val (.int ((Int32.ofNat k) - (0 : Int32))), .val (.int (1 : Int32)), .val (.int (1 : Int32)), .val (.long (0 : Int64)), .second, .val (.int (4 : Int32)), .val (.int q18), .val (.int q19), .val (.int q20)] [(.long (255 : Int64)), (.long q2)])) _
    refine slxor X hx (hb hby d22_171) rfl rfl (pc' := 172) ?_
    refine slstore X hx (hb hby d22_172) rfl rfl (l' := #[.val (.ref ha), .val (.ref d), .val (.int (0 : Int32)), .val (.int (Int32.ofNat k)), .val (.long q0), .second, .val (.long q1), .second, .val (.long (q2 ^^^ (255 : Int64))), .second, .val (.long q3), .second, .val (.int ((Int32.ofNat k) - (0 : Int32))), .val (.int (1 : Int32)), .val (.int (1 : Int32)), .val (.long (0 : Int64)), .second, .val (.int (4 : Int32)), .val (.int q18), .val (.int q19), .val (.int q20)]) (pc' := 174) ?_
    refine siconst X hx (hb hby d22_174) rfl rfl (z := 0) (pc' := 175) ?_
    refine sistore X hx (hb hby d22_175) rfl rfl (l' := #[.val (.ref ha), .val (.ref d), .val (.int (0 : Int32)), .val (.int (Int32.ofNat k)), .val (.long q0), .second, .val (.long q1), .second, .val (.long (q2 ^^^ (255 : Int64))), .second, .val (.long q3), .second, .val (.int ((Int32.ofNat k) - (0 : Int32))), .val (.int (1 : Int32)), .val (.int (1 : Int32)), .val (.long (0 : Int64)), .second, .val (.int (4 : Int32)), .val (.int (0 : Int32)), .val (.int q19), .val (.int q20)]) (pc' := 177) ?_
    have l177 : ∀ (kF : Nat) (i : Int32) (q0 q1 q2 q3 w15 : Int64) (T : State) (locs : List Loc) (X : Stand p l e ({ frames := 1, cells := 0, slots := 0, locals := 14 } : Room) s m #[(.ref ha), (.ref d), (.int (0 : Int32)), (.int (Int32.ofNat k))] below meth c T locs 0 0) (eT : T.heap = h0) (N : Fr n0 locs) (hm : (4 - i.toInt.toNat) < kF) (hi : 0 ≤ i.toInt), oGl p e below (T.setTop (mkF m 177 #[.val (.ref ha), .val (.ref d), .val (.int (0 : Int32)), .val (.int (Int32.ofNat k)), .val (.long q0), .second, .val (.long q1), .second, .val (.long q2), .second, .val (.long q3), .second, .val (.int ((Int32.ofNat k) - (0 : Int32))), .val (.int (1 : Int32)), .val (.int (1 : Int32)), .val (.long w15), .second, .val (.int (4 : Int32)), .val (.int i), .val (.int q19), .val (.int q20)] [])) (oFin s below (Q_rmSip Z ha d k g h0 n0) ({ frames := 1, cells := 0, slots := 0, locals := 14 } : Room).cells ({ frames := 1, cells := 0, slots := 0, locals := 14 } : Room).slots) := by
      intro kF
      induction kF with
      | zero => intro i q0 q1 q2 q3 w15 T locs X eT N hm hi; exact absurd hm (Nat.not_lt_zero _)
      | succ kF ih =>
        intro i q0 q1 q2 q3 w15 T locs X eT N hm hi
        refine siload X hx (hb hby d22_177) rfl rfl (pc' := 179) ?_
        refine siload X hx (hb hby d22_179) rfl rfl (pc' := 181) ?_
        by_cases hc181 : i < (4 : Int32)
        · skip
          refine sicN X hx (hb hby d22_181) rfl (tlt hc181).2.1 (pc' := 184) ?_
          refine slload X hx (hb hby d22_184) rfl rfl (pc' := 186) ?_
          refine slload X hx (hb hby d22_186) rfl rfl (pc' := 188) ?_
          refine sladd X hx (hb hby d22_188) rfl rfl (pc' := 189) ?_
          refine slstore X hx (hb hby d22_189) rfl rfl (l' := #[.val (.ref ha), .val (.ref d), .val (.int (0 : Int32)), .val (.int (Int32.ofNat k)), .val (.long (q0 + q1)), .second, .val (.long q1), .second, .val (.long q2), .second, .val (.long q3), .second, .val (.int ((Int32.ofNat k) - (0 : Int32))), .val (.int (1 : Int32)), .val (.int (1 : Int32)), .val (.long w15), .second, .val (.int (4 : Int32)), .val (.int i), .val (.int q19), .val (.int q20)]) (pc' := 191) ?_
          refine slload X hx (hb hby d22_191) rfl rfl (pc' := 193) ?_
          refine sbipush X hx (hb hby d22_193) rfl rfl (z := 13) (pc' := 195) ?_
          have hz5 : n0 ≤ h0.size := by omega
          obtain ⟨_, _, ⟨T5, L5, k5, n5⟩, -, X5, ⟨Lc5, hQ5, l5, y5, z5⟩, st5⟩ := Jvm.LawKit.callS X hx (y := (⟨"java/lang/Long", "rotateLeft", "(JI)J"⟩ : MethodName)) hown (mvT hZ (hw _ (List.mem_of_getElem? (i := 147) rfl))) (mvT hZ (hw _ (List.mem_of_getElem? (i := 148) rfl))) (mvT hZ (hw _ (List.mem_of_getElem? (i := 149) rfl))) (mvT hZ (hw _ (List.mem_of_getElem? (i := 150) rfl))) (by decide) (backOf (W := 0) (rmRot l Z a0 hw [] q1 (13 : Int32) h0 n0 hz5 ) hZ (hw _ (List.mem_of_getElem? (i := 150) rfl)) (hw _ (List.mem_of_getElem? (i := 149) rfl)) (by decide) (by decide)) (g := (mkF m 195 #[.val (.ref ha), .val (.ref d), .val (.int (0 : Int32)), .val (.int (Int32.ofNat k)), .val (.long (q0 + q1)), .second, .val (.long q1), .second, .val (.long q2), .second, .val (.long q3), .second, .val (.int ((Int32.ofNat k) - (0 : Int32))), .val (.int (1 : Int32)), .val (.int (1 : Int32)), .val (.long w15), .second, .val (.int (4 : Int32)), .val (.int i), .val (.int q19), .val (.int q20)] [(.int (13 : Int32)), (.long q1)])) rfl (by rw [hml]; rfl) (argsL := [(.long q1), (.int (13 : Int32))]) (rest := []) (lenOf pd_16 rfl) rfl (by show 2 * 0 + _ ≤ _; exact Nat.le_of_eq rfl) (hb hby d22_195) (fun _ _ => ⟨rfl, eT, (by decide : 0 + 0 ≤ _), (by decide : 0 + 0 ≤ _)⟩)
          dsimp only [Pt.U, Pt.locs, Pt.cells, Pt.slots] at X5 l5 y5 z5 st5 hQ5
          subst l5 y5 z5
          obtain ⟨rt5, rfl, N5q, eh5⟩ := hQ5
          have N5 := Fr.app N N5q
          refine oOn st5 ?_
          show oGl p e below (T5.setTop (mkF m 198 #[.val (.ref ha), .val (.ref d), .val (.int (0 : Int32)), .val (.int (Int32.ofNat k)), .val (.long (q0 + q1)), .second, .val (.long q1), .second, .val (.long q2), .second, .val (.long q3), .second, .val (.int ((Int32.ofNat k) - (0 : Int32))), .val (.int (1 : Int32)), .val (.int (1 : Int32)), .val (.long w15), .second, .val (.int (4 : Int32)), .val (.int i), .val (.int q19), .val (.int q20)] [(.long rt5)])) _
          refine slstore X5 hx (hb hby d22_198) rfl rfl (l' := #[.val (.ref ha), .val (.ref d), .val (.int (0 : Int32)), .val (.int (Int32.ofNat k)), .val (.long (q0 + q1)), .second, .val (.long rt5), .second, .val (.long q2), .second, .val (.long q3), .second, .val (.int ((Int32.ofNat k) - (0 : Int32))), .val (.int (1 : Int32)), .val (.int (1 : Int32)), .val (.long w15), .second, .val (.int (4 : Int32)), .val (.int i), .val (.int q19), .val (.int q20)]) (pc' := 200) ?_
          refine slload X5 hx (hb hby d22_200) rfl rfl (pc' := 202) ?_
          refine slload X5 hx (hb hby d22_202) rfl rfl (pc' := 204) ?_
          refine slxor X5 hx (hb hby d22_204) rfl rfl (pc' := 205) ?_
          refine slstore X5 hx (hb hby d22_205) rfl rfl (l' := #[.val (.ref ha), .val (.ref d), .val (.int (0 : Int32)), .val (.int (Int32.ofNat k)), .val (.long (q0 + q1)), .second, .val (.long (rt5 ^^^ (q0 + q1))), .second, .val (.long q2), .second, .val (.long q3), .second, .val (.int ((Int32.ofNat k) - (0 : Int32))), .val (.int (1 : Int32)), .val (.int (1 : Int32)), .val (.long w15), .second, .val (.int (4 : Int32)), .val (.int i), .val (.int q19), .val (.int q20)]) (pc' := 207) ?_
          refine slload X5 hx (hb hby d22_207) rfl rfl (pc' := 209) ?_
          refine sbipush X5 hx (hb hby d22_209) rfl rfl (z := 32) (pc' := 211) ?_
          have hz6 : n0 ≤ h0.size := by omega
          obtain ⟨_, _, ⟨T6, L6, k6, n6⟩, -, X6, ⟨Lc6, hQ6, l6, y6, z6⟩, st6⟩ := Jvm.LawKit.callS X5 hx (y := (⟨"java/lang/Long", "rotateLeft", "(JI)J"⟩ : MethodName)) hown (mvT hZ (hw _ (List.mem_of_getElem? (i := 147) rfl))) (mvT hZ (hw _ (List.mem_of_getElem? (i := 148) rfl))) (mvT hZ (hw _ (List.mem_of_getElem? (i := 149) rfl))) (mvT hZ (hw _ (List.mem_of_getElem? (i := 150) rfl))) (by decide) (backOf (W := 0) (rmRot l Z a0 hw [] (q0 + q1) (32 : Int32) h0 n0 hz6 ) hZ (hw _ (List.mem_of_getElem? (i := 150) rfl)) (hw _ (List.mem_of_getElem? (i := 149) rfl)) (by decide) (by decide)) (g := (mkF m 211 #[.val (.ref ha), .val (.ref d), .val (.int (0 : Int32)), .val (.int (Int32.ofNat k)), .val (.long (q0 + q1)), .second, .val (.long (rt5 ^^^ (q0 + q1))), .second, .val (.long q2), .second, .val (.long q3), .second, .val (.int ((Int32.ofNat k) - (0 : Int32))), .val (.int (1 : Int32)), .val (.int (1 : Int32)), .val (.long w15), .second, .val (.int (4 : Int32)), .val (.int i), .val (.int q19), .val (.int q20)] [(.int (32 : Int32)), (.long (q0 + q1))])) rfl (by rw [hml]; rfl) (argsL := [(.long (q0 + q1)), (.int (32 : Int32))]) (rest := []) (lenOf pd_16 rfl) rfl (by show 2 * 0 + _ ≤ _; exact Nat.le_of_eq rfl) (hb hby d22_211) (fun _ _ => ⟨rfl, eh5, (by decide : 0 + 0 ≤ _), (by decide : 0 + 0 ≤ _)⟩)
          dsimp only [Pt.U, Pt.locs, Pt.cells, Pt.slots] at X6 l6 y6 z6 st6 hQ6
          subst l6 y6 z6
          obtain ⟨rt6, rfl, N6q, eh6⟩ := hQ6
          have N6 := Fr.app N5 N6q
          refine oOn st6 ?_
          show oGl p e below (T6.setTop (mkF m 214 #[.val (.ref ha), .val (.ref d), .val (.int (0 : Int32)), .val (.int (Int32.ofNat k)), .val (.long (q0 + q1)), .second, .val (.long (rt5 ^^^ (q0 + q1))), .second, .val (.long q2), .second, .val (.long q3), .second, .val (.int ((Int32.ofNat k) - (0 : Int32))), .val (.int (1 : Int32)), .val (.int (1 : Int32)), .val (.long w15), .second, .val (.int (4 : Int32)), .val (.int i), .val (.int q19), .val (.int q20)] [(.long rt6)])) _
          refine slstore X6 hx (hb hby d22_214) rfl rfl (l' := #[.val (.ref ha), .val (.ref d), .val (.int (0 : Int32)), .val (.int (Int32.ofNat k)), .val (.long rt6), .second, .val (.long (rt5 ^^^ (q0 + q1))), .second, .val (.long q2), .second, .val (.long q3), .second, .val (.int ((Int32.ofNat k) - (0 : Int32))), .val (.int (1 : Int32)), .val (.int (1 : Int32)), .val (.long w15), .second, .val (.int (4 : Int32)), .val (.int i), .val (.int q19), .val (.int q20)]) (pc' := 216) ?_
          refine slload X6 hx (hb hby d22_216) rfl rfl (pc' := 218) ?_
          refine slload X6 hx (hb hby d22_218) rfl rfl (pc' := 220) ?_
          refine sladd X6 hx (hb hby d22_220) rfl rfl (pc' := 221) ?_
          refine slstore X6 hx (hb hby d22_221) rfl rfl (l' := #[.val (.ref ha), .val (.ref d), .val (.int (0 : Int32)), .val (.int (Int32.ofNat k)), .val (.long rt6), .second, .val (.long (rt5 ^^^ (q0 + q1))), .second, .val (.long (q2 + q3)), .second, .val (.long q3), .second, .val (.int ((Int32.ofNat k) - (0 : Int32))), .val (.int (1 : Int32)), .val (.int (1 : Int32)), .val (.long w15), .second, .val (.int (4 : Int32)), .val (.int i), .val (.int q19), .val (.int q20)]) (pc' := 223) ?_
          refine slload X6 hx (hb hby d22_223) rfl rfl (pc' := 225) ?_
          refine sbipush X6 hx (hb hby d22_225) rfl rfl (z := 16) (pc' := 227) ?_
          have hz7 : n0 ≤ h0.size := by omega
          obtain ⟨_, _, ⟨T7, L7, k7, n7⟩, -, X7, ⟨Lc7, hQ7, l7, y7, z7⟩, st7⟩ := Jvm.LawKit.callS X6 hx (y := (⟨"java/lang/Long", "rotateLeft", "(JI)J"⟩ : MethodName)) hown (mvT hZ (hw _ (List.mem_of_getElem? (i := 147) rfl))) (mvT hZ (hw _ (List.mem_of_getElem? (i := 148) rfl))) (mvT hZ (hw _ (List.mem_of_getElem? (i := 149) rfl))) (mvT hZ (hw _ (List.mem_of_getElem? (i := 150) rfl))) (by decide) (backOf (W := 0) (rmRot l Z a0 hw [] q3 (16 : Int32) h0 n0 hz7 ) hZ (hw _ (List.mem_of_getElem? (i := 150) rfl)) (hw _ (List.mem_of_getElem? (i := 149) rfl)) (by decide) (by decide)) (g := (mkF m 227 #[.val (.ref ha), .val (.ref d), .val (.int (0 : Int32)), .val (.int (Int32.ofNat k)), .val (.long rt6), .second, .val (.long (rt5 ^^^ (q0 + q1))), .second, .val (.long (q2 + q3)), .second, .val (.long q3), .second, .val (.int ((Int32.ofNat k) - (0 : Int32))), .val (.int (1 : Int32)), .val (.int (1 : Int32)), .val (.long w15), .second, .val (.int (4 : Int32)), .val (.int i), .val (.int q19), .val (.int q20)] [(.int (16 : Int32)), (.long q3)])) rfl (by rw [hml]; rfl) (argsL := [(.long q3), (.int (16 : Int32))]) (rest := []) (lenOf pd_16 rfl) rfl (by show 2 * 0 + _ ≤ _; exact Nat.le_of_eq rfl) (hb hby d22_227) (fun _ _ => ⟨rfl, eh6, (by decide : 0 + 0 ≤ _), (by decide : 0 + 0 ≤ _)⟩)
          dsimp only [Pt.U, Pt.locs, Pt.cells, Pt.slots] at X7 l7 y7 z7 st7 hQ7
          subst l7 y7 z7
          obtain ⟨rt7, rfl, N7q, eh7⟩ := hQ7
          have N7 := Fr.app N6 N7q
          refine oOn st7 ?_
          show oGl p e below (T7.setTop (mkF m 230 #[.val (.ref ha), .val (.ref d), .val (.int (0 : Int32)), .val (.int (Int32.ofNat k)), .val (.long rt6), .second, .val (.long (rt5 ^^^ (q0 + q1))), .second, .val (.long (q2 + q3)), .second, .val (.long q3), .second, .val (.int ((Int32.ofNat k) - (0 : Int32))), .val (.int (1 : Int32)), .val (.int (1 : Int32)), .val (.long w15), .second, .val (.int (4 : Int32)), .val (.int i), .val (.int q19), .val (.int q20)] [(.long rt7)])) _
          refine slstore X7 hx (hb hby d22_230) rfl rfl (l' := #[.val (.ref ha), .val (.ref d), .val (.int (0 : Int32)), .val (.int (Int32.ofNat k)), .val (.long rt6), .second, .val (.long (rt5 ^^^ (q0 + q1))), .second, .val (.long (q2 + q3)), .second, .val (.long rt7), .second, .val (.int ((Int32.ofNat k) - (0 : Int32))), .val (.int (1 : Int32)), .val (.int (1 : Int32)), .val (.long w15), .second, .val (.int (4 : Int32)), .val (.int i), .val (.int q19), .val (.int q20)]) (pc' := 232) ?_
          refine slload X7 hx (hb hby d22_232) rfl rfl (pc' := 234) ?_
          refine slload X7 hx (hb hby d22_234) rfl rfl (pc' := 236) ?_
          refine slxor X7 hx (hb hby d22_236) rfl rfl (pc' := 237) ?_
          refine slstore X7 hx (hb hby d22_237) rfl rfl (l' := #[.val (.ref ha), .val (.ref d), .val (.int (0 : Int32)), .val (.int (Int32.ofNat k)), .val (.long rt6), .second, .val (.long (rt5 ^^^ (q0 + q1))), .second, .val (.long (q2 + q3)), .second, .val (.long (rt7 ^^^ (q2 + q3))), .second, .val (.int ((Int32.ofNat k) - (0 : Int32))), .val (.int (1 : Int32)), .val (.int (1 : Int32)), .val (.long w15), .second, .val (.int (4 : Int32)), .val (.int i), .val (.int q19), .val (.int q20)]) (pc' := 239) ?_
          refine slload X7 hx (hb hby d22_239) rfl rfl (pc' := 241) ?_
          refine slload X7 hx (hb hby d22_241) rfl rfl (pc' := 243) ?_
          refine sladd X7 hx (hb hby d22_243) rfl rfl (pc' := 244) ?_
          refine slstore X7 hx (hb hby d22_244) rfl rfl (l' := #[.val (.ref ha), .val (.ref d), .val (.int (0 : Int32)), .val (.int (Int32.ofNat k)), .val (.long (rt6 + (rt7 ^^^ (q2 + q3)))), .second, .val (.long (rt5 ^^^ (q0 + q1))), .second, .val (.long (q2 + q3)), .second, .val (.long (rt7 ^^^ (q2 + q3))), .second, .val (.int ((Int32.ofNat k) - (0 : Int32))), .val (.int (1 : Int32)), .val (.int (1 : Int32)), .val (.long w15), .second, .val (.int (4 : Int32)), .val (.int i), .val (.int q19), .val (.int q20)]) (pc' := 246) ?_
          refine slload X7 hx (hb hby d22_246) rfl rfl (pc' := 248) ?_
          refine sbipush X7 hx (hb hby d22_248) rfl rfl (z := 21) (pc' := 250) ?_
          have hz8 : n0 ≤ h0.size := by omega
          obtain ⟨_, _, ⟨T8, L8, k8, n8⟩, -, X8, ⟨Lc8, hQ8, l8, y8, z8⟩, st8⟩ := Jvm.LawKit.callS X7 hx (y := (⟨"java/lang/Long", "rotateLeft", "(JI)J"⟩ : MethodName)) hown (mvT hZ (hw _ (List.mem_of_getElem? (i := 147) rfl))) (mvT hZ (hw _ (List.mem_of_getElem? (i := 148) rfl))) (mvT hZ (hw _ (List.mem_of_getElem? (i := 149) rfl))) (mvT hZ (hw _ (List.mem_of_getElem? (i := 150) rfl))) (by decide) (backOf (W := 0) (rmRot l Z a0 hw [] (rt7 ^^^ (q2 + q3)) (21 : Int32) h0 n0 hz8 ) hZ (hw _ (List.mem_of_getElem? (i := 150) rfl)) (hw _ (List.mem_of_getElem? (i := 149) rfl)) (by decide) (by decide)) (g := (mkF m 250 #[.val (.ref ha), .val (.ref d), .val (.int (0 : Int32)), .val (.int (Int32.ofNat k)), .val (.long (rt6 + (rt7 ^^^ (q2 + q3)))), .second, .val (.long (rt5 ^^^ (q0 + q1))), .second, .val (.long (q2 + q3)), .second, .val (.long (rt7 ^^^ (q2 + q3))), .second, .val (.int ((Int32.ofNat k) - (0 : Int32))), .val (.int (1 : Int32)), .val (.int (1 : Int32)), .val (.long w15), .second, .val (.int (4 : Int32)), .val (.int i), .val (.int q19), .val (.int q20)] [(.int (21 : Int32)), (.long (rt7 ^^^ (q2 + q3)))])) rfl (by rw [hml]; rfl) (argsL := [(.long (rt7 ^^^ (q2 + q3))), (.int (21 : Int32))]) (rest := []) (lenOf pd_16 rfl) rfl (by show 2 * 0 + _ ≤ _; exact Nat.le_of_eq rfl) (hb hby d22_250) (fun _ _ => ⟨rfl, eh7, (by decide : 0 + 0 ≤ _), (by decide : 0 + 0 ≤ _)⟩)
          dsimp only [Pt.U, Pt.locs, Pt.cells, Pt.slots] at X8 l8 y8 z8 st8 hQ8
          subst l8 y8 z8
          obtain ⟨rt8, rfl, N8q, eh8⟩ := hQ8
          have N8 := Fr.app N7 N8q
          refine oOn st8 ?_
          show oGl p e below (T8.setTop (mkF m 253 #[.val (.ref ha), .val (.ref d), .val (.int (0 : Int32)), .val (.int (Int32.ofNat k)), .val (.long (rt6 + (rt7 ^^^ (q2 + q3)))), .second, .val (.long (rt5 ^^^ (q0 + q1))), .second, .val (.long (q2 + q3)), .second, .val (.long (rt7 ^^^ (q2 + q3))), .second, .val (.int ((Int32.ofNat k) - (0 : Int32))), .val (.int (1 : Int32)), .val (.int (1 : Int32)), .val (.long w15), .second, .val (.int (4 : Int32)), .val (.int i), .val (.int q19), .val (.int q20)] [(.long rt8)])) _
          refine slstore X8 hx (hb hby d22_253) rfl rfl (l' := #[.val (.ref ha), .val (.ref d), .val (.int (0 : Int32)), .val (.int (Int32.ofNat k)), .val (.long (rt6 + (rt7 ^^^ (q2 + q3)))), .second, .val (.long (rt5 ^^^ (q0 + q1))), .second, .val (.long (q2 + q3)), .second, .val (.long rt8), .second, .val (.int ((Int32.ofNat k) - (0 : Int32))), .val (.int (1 : Int32)), .val (.int (1 : Int32)), .val (.long w15), .second, .val (.int (4 : Int32)), .val (.int i), .val (.int q19), .val (.int q20)]) (pc' := 255) ?_
          refine slload X8 hx (hb hby d22_255) rfl rfl (pc' := 257) ?_
          refine slload X8 hx (hb hby d22_257) rfl rfl (pc' := 259) ?_
          refine slxor X8 hx (hb hby d22_259) rfl rfl (pc' := 260) ?_
          refine slstore X8 hx (hb hby d22_260) rfl rfl (l' := #[.val (.ref ha), .val (.ref d), .val (.int (0 : Int32)), .val (.int (Int32.ofNat k)), .val (.long (rt6 + (rt7 ^^^ (q2 + q3)))), .second, .val (.long (rt5 ^^^ (q0 + q1))), .second, .val (.long (q2 + q3)), .second, .val (.long (rt8 ^^^ (rt6 + (rt7 ^^^ (q2 + q3))))), .second, .val (.int ((Int32.ofNat k) - (0 : Int32))), .val (.int (1 : Int32)), .val (.int (1 : Int32)), .val (.long w15), .second, .val (.int (4 : Int32)), .val (.int i), .val (.int q19), .val (.int q20)]) (pc' := 262) ?_
          refine slload X8 hx (hb hby d22_262) rfl rfl (pc' := 264) ?_
          refine slload X8 hx (hb hby d22_264) rfl rfl (pc' := 266) ?_
          refine sladd X8 hx (hb hby d22_266) rfl rfl (pc' := 267) ?_
          refine slstore X8 hx (hb hby d22_267) rfl rfl (l' := #[.val (.ref ha), .val (.ref d), .val (.int (0 : Int32)), .val (.int (Int32.ofNat k)), .val (.long (rt6 + (rt7 ^^^ (q2 + q3)))), .second, .val (.long (rt5 ^^^ (q0 + q1))), .second, .val (.long ((q2 + q3) + (rt5 ^^^ (q0 + q1)))), .second, .val (.long (rt8 ^^^ (rt6 + (rt7 ^^^ (q2 + q3))))), .second, .val (.int ((Int32.ofNat k) - (0 : Int32))), .val (.int (1 : Int32)), .val (.int (1 : Int32)), .val (.long w15), .second, .val (.int (4 : Int32)), .val (.int i), .val (.int q19), .val (.int q20)]) (pc' := 269) ?_
          refine slload X8 hx (hb hby d22_269) rfl rfl (pc' := 271) ?_
          refine sbipush X8 hx (hb hby d22_271) rfl rfl (z := 17) (pc' := 273) ?_
          have hz9 : n0 ≤ h0.size := by omega
          obtain ⟨_, _, ⟨T9, L9, k9, n9⟩, -, X9, ⟨Lc9, hQ9, l9, y9, z9⟩, st9⟩ := Jvm.LawKit.callS X8 hx (y := (⟨"java/lang/Long", "rotateLeft", "(JI)J"⟩ : MethodName)) hown (mvT hZ (hw _ (List.mem_of_getElem? (i := 147) rfl))) (mvT hZ (hw _ (List.mem_of_getElem? (i := 148) rfl))) (mvT hZ (hw _ (List.mem_of_getElem? (i := 149) rfl))) (mvT hZ (hw _ (List.mem_of_getElem? (i := 150) rfl))) (by decide) (backOf (W := 0) (rmRot l Z a0 hw [] (rt5 ^^^ (q0 + q1)) (17 : Int32) h0 n0 hz9 ) hZ (hw _ (List.mem_of_getElem? (i := 150) rfl)) (hw _ (List.mem_of_getElem? (i := 149) rfl)) (by decide) (by decide)) (g := (mkF m 273 #[.val (.ref ha), .val (.ref d), .val (.int (0 : Int32)), .val (.int (Int32.ofNat k)), .val (.long (rt6 + (rt7 ^^^ (q2 + q3)))), .second, .val (.long (rt5 ^^^ (q0 + q1))), .second, .val (.long ((q2 + q3) + (rt5 ^^^ (q0 + q1)))), .second, .val (.long (rt8 ^^^ (rt6 + (rt7 ^^^ (q2 + q3))))), .second, .val (.int ((Int32.ofNat k) - (0 : Int32))), .val (.int (1 : Int32)), .val (.int (1 : Int32)), .val (.long w15), .second, .val (.int (4 : Int32)), .val (.int i), .val (.int q19), .val (.int q20)] [(.int (17 : Int32)), (.long (rt5 ^^^ (q0 + q1)))])) rfl (by rw [hml]; rfl) (argsL := [(.long (rt5 ^^^ (q0 + q1))), (.int (17 : Int32))]) (rest := []) (lenOf pd_16 rfl) rfl (by show 2 * 0 + _ ≤ _; exact Nat.le_of_eq rfl) (hb hby d22_273) (fun _ _ => ⟨rfl, eh8, (by decide : 0 + 0 ≤ _), (by decide : 0 + 0 ≤ _)⟩)
          dsimp only [Pt.U, Pt.locs, Pt.cells, Pt.slots] at X9 l9 y9 z9 st9 hQ9
          subst l9 y9 z9
          obtain ⟨rt9, rfl, N9q, eh9⟩ := hQ9
          have N9 := Fr.app N8 N9q
          refine oOn st9 ?_
          show oGl p e below (T9.setTop (mkF m 276 #[.val (.ref ha), .val (.ref d), .val (.int (0 : Int32)), .val (.int (Int32.ofNat k)), .val (.long (rt6 + (rt7 ^^^ (q2 + q3)))), .second, .val (.long (rt5 ^^^ (q0 + q1))), .second, .val (.long ((q2 + q3) + (rt5 ^^^ (q0 + q1)))), .second, .val (.long (rt8 ^^^ (rt6 + (rt7 ^^^ (q2 + q3))))), .second, .val (.int ((Int32.ofNat k) - (0 : Int32))), .val (.int (1 : Int32)), .val (.int (1 : Int32)), .val (.long w15), .second, .val (.int (4 : Int32)), .val (.int i), .val (.int q19), .val (.int q20)] [(.long rt9)])) _
          refine slstore X9 hx (hb hby d22_276) rfl rfl (l' := #[.val (.ref ha), .val (.ref d), .val (.int (0 : Int32)), .val (.int (Int32.ofNat k)), .val (.long (rt6 + (rt7 ^^^ (q2 + q3)))), .second, .val (.long rt9), .second, .val (.long ((q2 + q3) + (rt5 ^^^ (q0 + q1)))), .second, .val (.long (rt8 ^^^ (rt6 + (rt7 ^^^ (q2 + q3))))), .second, .val (.int ((Int32.ofNat k) - (0 : Int32))), .val (.int (1 : Int32)), .val (.int (1 : Int32)), .val (.long w15), .second, .val (.int (4 : Int32)), .val (.int i), .val (.int q19), .val (.int q20)]) (pc' := 278) ?_
          refine slload X9 hx (hb hby d22_278) rfl rfl (pc' := 280) ?_
          refine slload X9 hx (hb hby d22_280) rfl rfl (pc' := 282) ?_
          refine slxor X9 hx (hb hby d22_282) rfl rfl (pc' := 283) ?_
          refine slstore X9 hx (hb hby d22_283) rfl rfl (l' := #[.val (.ref ha), .val (.ref d), .val (.int (0 : Int32)), .val (.int (Int32.ofNat k)), .val (.long (rt6 + (rt7 ^^^ (q2 + q3)))), .second, .val (.long (rt9 ^^^ ((q2 + q3) + (rt5 ^^^ (q0 + q1))))), .second, .val (.long ((q2 + q3) + (rt5 ^^^ (q0 + q1)))), .second, .val (.long (rt8 ^^^ (rt6 + (rt7 ^^^ (q2 + q3))))), .second, .val (.int ((Int32.ofNat k) - (0 : Int32))), .val (.int (1 : Int32)), .val (.int (1 : Int32)), .val (.long w15), .second, .val (.int (4 : Int32)), .val (.int i), .val (.int q19), .val (.int q20)]) (pc' := 285) ?_
          refine slload X9 hx (hb hby d22_285) rfl rfl (pc' := 287) ?_
          refine sbipush X9 hx (hb hby d22_287) rfl rfl (z := 32) (pc' := 289) ?_
          have hz10 : n0 ≤ h0.size := by omega
          obtain ⟨_, _, ⟨T10, L10, k10, n10⟩, -, X10, ⟨Lc10, hQ10, l10, y10, z10⟩, st10⟩ := Jvm.LawKit.callS X9 hx (y := (⟨"java/lang/Long", "rotateLeft", "(JI)J"⟩ : MethodName)) hown (mvT hZ (hw _ (List.mem_of_getElem? (i := 147) rfl))) (mvT hZ (hw _ (List.mem_of_getElem? (i := 148) rfl))) (mvT hZ (hw _ (List.mem_of_getElem? (i := 149) rfl))) (mvT hZ (hw _ (List.mem_of_getElem? (i := 150) rfl))) (by decide) (backOf (W := 0) (rmRot l Z a0 hw [] ((q2 + q3) + (rt5 ^^^ (q0 + q1))) (32 : Int32) h0 n0 hz10 ) hZ (hw _ (List.mem_of_getElem? (i := 150) rfl)) (hw _ (List.mem_of_getElem? (i := 149) rfl)) (by decide) (by decide)) (g := (mkF m 289 #[.val (.ref ha), .val (.ref d), .val (.int (0 : Int32)), .val (.int (Int32.ofNat k)), .val (.long (rt6 + (rt7 ^^^ (q2 + q3)))), .second, .val (.long (rt9 ^^^ ((q2 + q3) + (rt5 ^^^ (q0 + q1))))), .second, .val (.long ((q2 + q3) + (rt5 ^^^ (q0 + q1)))), .second, .val (.long (rt8 ^^^ (rt6 + (rt7 ^^^ (q2 + q3))))), .second, .val (.int ((Int32.ofNat k) - (0 : Int32))), .val (.int (1 : Int32)), .val (.int (1 : Int32)), .val (.long w15), .second, .val (.int (4 : Int32)), .val (.int i), .val (.int q19), .val (.int q20)] [(.int (32 : Int32)), (.long ((q2 + q3) + (rt5 ^^^ (q0 + q1))))])) rfl (by rw [hml]; rfl) (argsL := [(.long ((q2 + q3) + (rt5 ^^^ (q0 + q1)))), (.int (32 : Int32))]) (rest := []) (lenOf pd_16 rfl) rfl (by show 2 * 0 + _ ≤ _; exact Nat.le_of_eq rfl) (hb hby d22_289) (fun _ _ => ⟨rfl, eh9, (by decide : 0 + 0 ≤ _), (by decide : 0 + 0 ≤ _)⟩)
          dsimp only [Pt.U, Pt.locs, Pt.cells, Pt.slots] at X10 l10 y10 z10 st10 hQ10
          subst l10 y10 z10
          obtain ⟨rt10, rfl, N10q, eh10⟩ := hQ10
          have N10 := Fr.app N9 N10q
          refine oOn st10 ?_
          show oGl p e below (T10.setTop (mkF m 292 #[.val (.ref ha), .val (.ref d), .val (.int (0 : Int32)), .val (.int (Int32.ofNat k)), .val (.long (rt6 + (rt7 ^^^ (q2 + q3)))), .second, .val (.long (rt9 ^^^ ((q2 + q3) + (rt5 ^^^ (q0 + q1))))), .second, .val (.long ((q2 + q3) + (rt5 ^^^ (q0 + q1)))), .second, .val (.long (rt8 ^^^ (rt6 + (rt7 ^^^ (q2 + q3))))), .second, .val (.int ((Int32.ofNat k) - (0 : Int32))), .val (.int (1 : Int32)), .val (.int (1 : Int32)), .val (.long w15), .second, .val (.int (4 : Int32)), .val (.int i), .val (.int q19), .val (.int q20)] [(.long rt10)])) _
          refine slstore X10 hx (hb hby d22_292) rfl rfl (l' := #[.val (.ref ha), .val (.ref d), .val (.int (0 : Int32)), .val (.int (Int32.ofNat k)), .val (.long (rt6 + (rt7 ^^^ (q2 + q3)))), .second, .val (.long (rt9 ^^^ ((q2 + q3) + (rt5 ^^^ (q0 + q1))))), .second, .val (.long rt10), .second, .val (.long (rt8 ^^^ (rt6 + (rt7 ^^^ (q2 + q3))))), .second, .val (.int ((Int32.ofNat k) - (0 : Int32))), .val (.int (1 : Int32)), .val (.int (1 : Int32)), .val (.long w15), .second, .val (.int (4 : Int32)), .val (.int i), .val (.int q19), .val (.int q20)]) (pc' := 294) ?_
          refine siinc X10 hx (hb hby d22_294) rfl rfl rfl (l' := #[.val (.ref ha), .val (.ref d), .val (.int (0 : Int32)), .val (.int (Int32.ofNat k)), .val (.long (rt6 + (rt7 ^^^ (q2 + q3)))), .second, .val (.long (rt9 ^^^ ((q2 + q3) + (rt5 ^^^ (q0 + q1))))), .second, .val (.long rt10), .second, .val (.long (rt8 ^^^ (rt6 + (rt7 ^^^ (q2 + q3))))), .second, .val (.int ((Int32.ofNat k) - (0 : Int32))), .val (.int (1 : Int32)), .val (.int (1 : Int32)), .val (.long w15), .second, .val (.int (4 : Int32)), .val (.int (i + (1 : Int32))), .val (.int q19), .val (.int q20)]) (pc' := 297) ?_
          refine sgoto X10 hx (hb hby d22_297) (by decide) (by decide)  (pc' := 177) ?_
          have hlt := Int32.lt_iff_toInt_lt.mp hc181
          have eR : (4 : Int32).toInt = 4 := rfl
          have hi1 := own_incS (x := i) (by omega)
          exact ih (i + (1 : Int32)) (rt6 + (rt7 ^^^ (q2 + q3))) (rt9 ^^^ ((q2 + q3) + (rt5 ^^^ (q0 + q1)))) rt10 (rt8 ^^^ (rt6 + (rt7 ^^^ (q2 + q3)))) w15 _ _ X10 eh10 N10 (by omega) (by omega)
        · skip
          refine sicY X hx (hb hby d22_181) (by decide) (by decide) (flt hc181).2.1 (pc' := 300) ?_
          refine slload X hx (hb hby d22_300) rfl rfl (pc' := 302) ?_
          refine slload X hx (hb hby d22_302) rfl rfl (pc' := 304) ?_
          refine slxor X hx (hb hby d22_304) rfl rfl (pc' := 305) ?_
          refine slstore X hx (hb hby d22_305) rfl rfl (l' := #[.val (.ref ha), .val (.ref d), .val (.int (0 : Int32)), .val (.int (Int32.ofNat k)), .val (.long (q0 ^^^ w15)), .second, .val (.long q1), .second, .val (.long q2), .second, .val (.long q3), .second, .val (.int ((Int32.ofNat k) - (0 : Int32))), .val (.int (1 : Int32)), .val (.int (1 : Int32)), .val (.long w15), .second, .val (.int (4 : Int32)), .val (.int i), .val (.int q19), .val (.int q20)]) (pc' := 307) ?_
          refine siinc X hx (hb hby d22_307) rfl rfl rfl (l' := #[.val (.ref ha), .val (.ref d), .val (.int (0 : Int32)), .val (.int (Int32.ofNat k)), .val (.long (q0 ^^^ w15)), .second, .val (.long q1), .second, .val (.long q2), .second, .val (.long q3), .second, .val (.int ((Int32.ofNat k) - (0 : Int32))), .val (.int (1 : Int32)), .val (.int (2 : Int32)), .val (.long w15), .second, .val (.int (4 : Int32)), .val (.int i), .val (.int q19), .val (.int q20)]) (pc' := 310) ?_
          refine sgoto X hx (hb hby d22_310) (by decide) (by decide)  (pc' := 57) ?_
          refine siload X hx (hb hby d22_57) rfl rfl (pc' := 59) ?_
          refine siload X hx (hb hby d22_59) rfl rfl (pc' := 61) ?_
          refine sicY X hx (hb hby d22_61) (by decide) (by decide) (tlt (by decide : (1 : Int32) < (2 : Int32))).2.2.1 (pc' := 313) ?_
          refine slload X hx (hb hby d22_313) rfl rfl (pc' := 315) ?_
          refine slload X hx (hb hby d22_315) rfl rfl (pc' := 317) ?_
          refine slxor X hx (hb hby d22_317) rfl rfl (pc' := 318) ?_
          refine slload X hx (hb hby d22_318) rfl rfl (pc' := 320) ?_
          refine slxor X hx (hb hby d22_320) rfl rfl (pc' := 321) ?_
          refine slload X hx (hb hby d22_321) rfl rfl (pc' := 323) ?_
          refine slxor X hx (hb hby d22_323) rfl rfl (pc' := 324) ?_
          refine oRetJ X hx Bd.notSynchronized Bd.returns (hb hby d22_324) (by decide) (by decide) ?_
          show Q_rmSip Z ha d k g h0 n0 _ T.heap _
          rw [eT]
          exact ⟨_, rfl, N, rfl⟩
    exact l177 _ 0 q0 q1 (q2 ^^^ (255 : Int64)) q3 (0 : Int64) _ _ X eT N (Nat.lt_succ_self _) (by decide)
  refine siload X4 hx (hb hby d22_57) rfl rfl (pc' := 59) ?_
  refine siload X4 hx (hb hby d22_59) rfl rfl (pc' := 61) ?_
  refine sicN X4 hx (hb hby d22_61) rfl (flt (by decide : ¬ ((1 : Int32) < (0 : Int32)))).2.2.1 (pc' := 64) ?_
  refine slconst X4 hx (hb hby d22_64) rfl rfl (z := 0) (pc' := 65) ?_
  refine slstore X4 hx (hb hby d22_65) rfl rfl (l' := #[.val (.ref ha), .val (.ref d), .val (.int (0 : Int32)), .val (.int (Int32.ofNat k)), .val (.long ((0 : Int64) ^^^ (8317987319222330741 : Int64))), .second, .val (.long ((0 : Int64) ^^^ (7237128888997146477 : Int64))), .second, .val (.long ((0 : Int64) ^^^ (7816392313619706465 : Int64))), .second, .val (.long ((0 : Int64) ^^^ (8387220255154660723 : Int64))), .second, .val (.int ((Int32.ofNat k) - (0 : Int32))), .val (.int (1 : Int32)), .val (.int (0 : Int32)), .val (.long (0 : Int64)), .second, .unset, .unset, .unset, .unset]) (pc' := 67) ?_
  refine siconst X4 hx (hb hby d22_67) rfl rfl (z := 4) (pc' := 68) ?_
  refine sistore X4 hx (hb hby d22_68) rfl rfl (l' := #[.val (.ref ha), .val (.ref d), .val (.int (0 : Int32)), .val (.int (Int32.ofNat k)), .val (.long ((0 : Int64) ^^^ (8317987319222330741 : Int64))), .second, .val (.long ((0 : Int64) ^^^ (7237128888997146477 : Int64))), .second, .val (.long ((0 : Int64) ^^^ (7816392313619706465 : Int64))), .second, .val (.long ((0 : Int64) ^^^ (8387220255154660723 : Int64))), .second, .val (.int ((Int32.ofNat k) - (0 : Int32))), .val (.int (1 : Int32)), .val (.int (0 : Int32)), .val (.long (0 : Int64)), .second, .val (.int (4 : Int32)), .unset, .unset, .unset]) (pc' := 70) ?_
  refine siload X4 hx (hb hby d22_70) rfl rfl (pc' := 72) ?_
  refine siload X4 hx (hb hby d22_72) rfl rfl (pc' := 74) ?_
  refine sicN X4 hx (hb hby d22_74) rfl (tlt (by decide : (0 : Int32) < (1 : Int32))).2.1 (pc' := 77) ?_
  refine siloadN X4 hx (hb hby d22_77) rfl rfl (pc' := 78) ?_
  refine siload X4 hx (hb hby d22_78) rfl rfl (pc' := 80) ?_
  refine sbipush X4 hx (hb hby d22_80) rfl rfl (z := 8) (pc' := 82) ?_
  refine simul X4 hx (hb hby d22_82) rfl (by decide) (z := (0 : Int32)) (pc' := 83) ?_
  refine siadd X4 hx (hb hby d22_83) rfl (by decide) (z := (0 : Int32)) (pc' := 84) ?_
  refine sistore X4 hx (hb hby d22_84) rfl rfl (l' := #[.val (.ref ha), .val (.ref d), .val (.int (0 : Int32)), .val (.int (Int32.ofNat k)), .val (.long ((0 : Int64) ^^^ (8317987319222330741 : Int64))), .second, .val (.long ((0 : Int64) ^^^ (7237128888997146477 : Int64))), .second, .val (.long ((0 : Int64) ^^^ (7816392313619706465 : Int64))), .second, .val (.long ((0 : Int64) ^^^ (8387220255154660723 : Int64))), .second, .val (.int ((Int32.ofNat k) - (0 : Int32))), .val (.int (1 : Int32)), .val (.int (0 : Int32)), .val (.long (0 : Int64)), .second, .val (.int (4 : Int32)), .val (.int (0 : Int32)), .unset, .unset]) (pc' := 86) ?_
  refine siload X4 hx (hb hby d22_86) rfl rfl (pc' := 88) ?_
  refine sbipush X4 hx (hb hby d22_88) rfl rfl (z := 8) (pc' := 90) ?_
  refine siadd X4 hx (hb hby d22_90) rfl (by decide) (z := (8 : Int32)) (pc' := 91) ?_
  refine siloadN X4 hx (hb hby d22_91) rfl rfl (pc' := 92) ?_
  have hz11 : n0 ≤ h0.size := by omega
  obtain ⟨_, _, ⟨T11, L11, k11, n11⟩, -, X11, ⟨Lc11, hQ11, l11, y11, z11⟩, st11⟩ := Jvm.LawKit.callS X4 hx (y := (⟨"java/lang/Math", "min", "(II)I"⟩ : MethodName)) hown (mvT hZ (hw _ (List.mem_of_getElem? (i := 142) rfl))) (mvT hZ (hw _ (List.mem_of_getElem? (i := 143) rfl))) (mvT hZ (hw _ (List.mem_of_getElem? (i := 144) rfl))) (mvT hZ (hw _ (List.mem_of_getElem? (i := 145) rfl))) (by decide) (backOf (W := 0) (rmMin8 l Z a0 hw [] k h0 n0 hz11 hk) hZ (hw _ (List.mem_of_getElem? (i := 145) rfl)) (hw _ (List.mem_of_getElem? (i := 144) rfl)) (by decide) (by decide)) (g := (mkF m 92 #[.val (.ref ha), .val (.ref d), .val (.int (0 : Int32)), .val (.int (Int32.ofNat k)), .val (.long ((0 : Int64) ^^^ (8317987319222330741 : Int64))), .second, .val (.long ((0 : Int64) ^^^ (7237128888997146477 : Int64))), .second, .val (.long ((0 : Int64) ^^^ (7816392313619706465 : Int64))), .second, .val (.long ((0 : Int64) ^^^ (8387220255154660723 : Int64))), .second, .val (.int ((Int32.ofNat k) - (0 : Int32))), .val (.int (1 : Int32)), .val (.int (0 : Int32)), .val (.long (0 : Int64)), .second, .val (.int (4 : Int32)), .val (.int (0 : Int32)), .unset, .unset] [(.int (Int32.ofNat k)), (.int (8 : Int32))])) rfl (by rw [hml]; rfl) (argsL := [(.int (8 : Int32)), (.int (Int32.ofNat k))]) (rest := []) (lenOf pd_14 rfl) rfl (by show 2 * 0 + _ ≤ _; exact Nat.le_of_eq rfl) (hb hby d22_92) (fun _ _ => ⟨rfl, e4, (by decide : 0 + 0 ≤ _), (by decide : 0 + 0 ≤ _)⟩)
  dsimp only [Pt.U, Pt.locs, Pt.cells, Pt.slots] at X11 l11 y11 z11 st11 hQ11
  subst l11 y11 z11
  obtain ⟨rfl, N11q, eh11⟩ := hQ11
  have N11 := Fr.app N0 N11q
  refine oOn st11 ?_
  show oGl p e below (T11.setTop (mkF m 95 #[.val (.ref ha), .val (.ref d), .val (.int (0 : Int32)), .val (.int (Int32.ofNat k)), .val (.long ((0 : Int64) ^^^ (8317987319222330741 : Int64))), .second, .val (.long ((0 : Int64) ^^^ (7237128888997146477 : Int64))), .second, .val (.long ((0 : Int64) ^^^ (7816392313619706465 : Int64))), .second, .val (.long ((0 : Int64) ^^^ (8387220255154660723 : Int64))), .second, .val (.int ((Int32.ofNat k) - (0 : Int32))), .val (.int (1 : Int32)), .val (.int (0 : Int32)), .val (.long (0 : Int64)), .second, .val (.int (4 : Int32)), .val (.int (0 : Int32)), .unset, .unset] [(.int (Int32.ofNat k))])) _
  refine sistore X11 hx (hb hby d22_95) rfl rfl (l' := #[.val (.ref ha), .val (.ref d), .val (.int (0 : Int32)), .val (.int (Int32.ofNat k)), .val (.long ((0 : Int64) ^^^ (8317987319222330741 : Int64))), .second, .val (.long ((0 : Int64) ^^^ (7237128888997146477 : Int64))), .second, .val (.long ((0 : Int64) ^^^ (7816392313619706465 : Int64))), .second, .val (.long ((0 : Int64) ^^^ (8387220255154660723 : Int64))), .second, .val (.int ((Int32.ofNat k) - (0 : Int32))), .val (.int (1 : Int32)), .val (.int (0 : Int32)), .val (.long (0 : Int64)), .second, .val (.int (4 : Int32)), .val (.int (0 : Int32)), .val (.int (Int32.ofNat k)), .unset]) (pc' := 97) ?_
  refine siconst X11 hx (hb hby d22_97) rfl rfl (z := 0) (pc' := 98) ?_
  refine sistore X11 hx (hb hby d22_98) rfl rfl (l' := #[.val (.ref ha), .val (.ref d), .val (.int (0 : Int32)), .val (.int (Int32.ofNat k)), .val (.long ((0 : Int64) ^^^ (8317987319222330741 : Int64))), .second, .val (.long ((0 : Int64) ^^^ (7237128888997146477 : Int64))), .second, .val (.long ((0 : Int64) ^^^ (7816392313619706465 : Int64))), .second, .val (.long ((0 : Int64) ^^^ (8387220255154660723 : Int64))), .second, .val (.int ((Int32.ofNat k) - (0 : Int32))), .val (.int (1 : Int32)), .val (.int (0 : Int32)), .val (.long (0 : Int64)), .second, .val (.int (4 : Int32)), .val (.int (0 : Int32)), .val (.int (Int32.ofNat k)), .val (.int (0 : Int32))]) (pc' := 100) ?_
  have l100 : ∀ (kF : Nat) (j sh : Int32) (wv : Int64) (T : State) (locs : List Loc) (X : Stand p l e ({ frames := 1, cells := 0, slots := 0, locals := 14 } : Room) s m #[(.ref ha), (.ref d), (.int (0 : Int32)), (.int (Int32.ofNat k))] below meth c T locs 0 0) (eT : T.heap = h0) (N : Fr n0 locs) (hm : (k - j.toInt.toNat) < kF) (hi : 0 ≤ j.toInt ∧ j.toInt ≤ k), oGl p e below (T.setTop (mkF m 100 #[.val (.ref ha), .val (.ref d), .val (.int (0 : Int32)), .val (.int (Int32.ofNat k)), .val (.long ((0 : Int64) ^^^ (8317987319222330741 : Int64))), .second, .val (.long ((0 : Int64) ^^^ (7237128888997146477 : Int64))), .second, .val (.long ((0 : Int64) ^^^ (7816392313619706465 : Int64))), .second, .val (.long ((0 : Int64) ^^^ (8387220255154660723 : Int64))), .second, .val (.int ((Int32.ofNat k) - (0 : Int32))), .val (.int (1 : Int32)), .val (.int (0 : Int32)), .val (.long wv), .second, .val (.int (4 : Int32)), .val (.int j), .val (.int (Int32.ofNat k)), .val (.int sh)] [])) (oFin s below (Q_rmSip Z ha d k g h0 n0) ({ frames := 1, cells := 0, slots := 0, locals := 14 } : Room).cells ({ frames := 1, cells := 0, slots := 0, locals := 14 } : Room).slots) := by
    intro kF
    induction kF with
    | zero => intro j sh wv T locs X eT N hm hi; exact absurd hm (Nat.not_lt_zero _)
    | succ kF ih =>
      intro j sh wv T locs X eT N hm hi
      refine siload X hx (hb hby d22_100) rfl rfl (pc' := 102) ?_
      refine siload X hx (hb hby d22_102) rfl rfl (pc' := 104) ?_
      by_cases hc104 : j < (Int32.ofNat k)
      · skip
        refine sicN X hx (hb hby d22_104) rfl (tlt hc104).2.1 (pc' := 107) ?_
        refine slload X hx (hb hby d22_107) rfl rfl (pc' := 109) ?_
        refine saloadN X hx (hb hby d22_109) rfl rfl rfl (pc' := 110) ?_
        refine siload X hx (hb hby d22_110) rfl rfl (pc' := 112) ?_
        refine oOn (PD.ldB X hx hZ eT (j := j) (by have hlt := Int32.lt_iff_toInt_lt.mp hc104; rw [own_ofNat (by omega)] at hlt; omega) (g := (mkF m 112 #[.val (.ref ha), .val (.ref d), .val (.int (0 : Int32)), .val (.int (Int32.ofNat k)), .val (.long ((0 : Int64) ^^^ (8317987319222330741 : Int64))), .second, .val (.long ((0 : Int64) ^^^ (7237128888997146477 : Int64))), .second, .val (.long ((0 : Int64) ^^^ (7816392313619706465 : Int64))), .second, .val (.long ((0 : Int64) ^^^ (8387220255154660723 : Int64))), .second, .val (.int ((Int32.ofNat k) - (0 : Int32))), .val (.int (1 : Int32)), .val (.int (0 : Int32)), .val (.long wv), .second, .val (.int (4 : Int32)), .val (.int j), .val (.int (Int32.ofNat k)), .val (.int sh)] [(.int j), (.ref d), (.long wv)])) rfl rfl (hb hby d22_112)) ?_
        show oGl p e below (T.setTop (mkF m 113 #[.val (.ref ha), .val (.ref d), .val (.int (0 : Int32)), .val (.int (Int32.ofNat k)), .val (.long ((0 : Int64) ^^^ (8317987319222330741 : Int64))), .second, .val (.long ((0 : Int64) ^^^ (7237128888997146477 : Int64))), .second, .val (.long ((0 : Int64) ^^^ (7816392313619706465 : Int64))), .second, .val (.long ((0 : Int64) ^^^ (8387220255154660723 : Int64))), .second, .val (.int ((Int32.ofNat k) - (0 : Int32))), .val (.int (1 : Int32)), .val (.int (0 : Int32)), .val (.long wv), .second, .val (.int (4 : Int32)), .val (.int j), .val (.int (Int32.ofNat k)), .val (.int sh)] [(.int (g j.toInt.toNat)), (.long wv)])) _
        refine si2l X hx (hb hby d22_113) rfl rfl (pc' := 114) ?_
        refine oOn (X.ldc2Long hx hown (mvT hZ (hw _ (List.mem_of_getElem? (i := 146) rfl))) (g := (mkF m 114 #[.val (.ref ha), .val (.ref d), .val (.int (0 : Int32)), .val (.int (Int32.ofNat k)), .val (.long ((0 : Int64) ^^^ (8317987319222330741 : Int64))), .second, .val (.long ((0 : Int64) ^^^ (7237128888997146477 : Int64))), .second, .val (.long ((0 : Int64) ^^^ (7816392313619706465 : Int64))), .second, .val (.long ((0 : Int64) ^^^ (8387220255154660723 : Int64))), .second, .val (.int ((Int32.ofNat k) - (0 : Int32))), .val (.int (1 : Int32)), .val (.int (0 : Int32)), .val (.long wv), .second, .val (.int (4 : Int32)), .val (.int j), .val (.int (Int32.ofNat k)), .val (.int sh)] [(.long (((g j.toInt.toNat)).toInt64)), (.long wv)])) rfl (hb hby d22_114)) ?_
        show oGl p e below (T.setTop (mkF m 117 #[.val (.ref ha), .val (.ref d), .val (.int (0 : Int32)), .val (.int (Int32.ofNat k)), .val (.long ((0 : Int64) ^^^ (8317987319222330741 : Int64))), .second, .val (.long ((0 : Int64) ^^^ (7237128888997146477 : Int64))), .second, .val (.long ((0 : Int64) ^^^ (7816392313619706465 : Int64))), .second, .val (.long ((0 : Int64) ^^^ (8387220255154660723 : Int64))), .second, .val (.int ((Int32.ofNat k) - (0 : Int32))), .val (.int (1 : Int32)), .val (.int (0 : Int32)), .val (.long wv), .second, .val (.int (4 : Int32)), .val (.int j), .val (.int (Int32.ofNat k)), .val (.int sh)] [(.long (255 : Int64)), (.long (((g j.toInt.toNat)).toInt64)), (.long wv)])) _
        refine sland X hx (hb hby d22_117) rfl rfl (pc' := 118) ?_
        refine siload X hx (hb hby d22_118) rfl rfl (pc' := 120) ?_
        refine slshl X hx (hb hby d22_120) rfl rfl (pc' := 121) ?_
        refine slor X hx (hb hby d22_121) rfl rfl (pc' := 122) ?_
        refine slstore X hx (hb hby d22_122) rfl rfl (l' := #[.val (.ref ha), .val (.ref d), .val (.int (0 : Int32)), .val (.int (Int32.ofNat k)), .val (.long ((0 : Int64) ^^^ (8317987319222330741 : Int64))), .second, .val (.long ((0 : Int64) ^^^ (7237128888997146477 : Int64))), .second, .val (.long ((0 : Int64) ^^^ (7816392313619706465 : Int64))), .second, .val (.long ((0 : Int64) ^^^ (8387220255154660723 : Int64))), .second, .val (.int ((Int32.ofNat k) - (0 : Int32))), .val (.int (1 : Int32)), .val (.int (0 : Int32)), .val (.long (wv ||| (((((g j.toInt.toNat)).toInt64) &&& (255 : Int64)) <<< (sh &&& 0x3f).toInt64))), .second, .val (.int (4 : Int32)), .val (.int j), .val (.int (Int32.ofNat k)), .val (.int sh)]) (pc' := 124) ?_
        refine siinc X hx (hb hby d22_124) rfl rfl rfl (l' := #[.val (.ref ha), .val (.ref d), .val (.int (0 : Int32)), .val (.int (Int32.ofNat k)), .val (.long ((0 : Int64) ^^^ (8317987319222330741 : Int64))), .second, .val (.long ((0 : Int64) ^^^ (7237128888997146477 : Int64))), .second, .val (.long ((0 : Int64) ^^^ (7816392313619706465 : Int64))), .second, .val (.long ((0 : Int64) ^^^ (8387220255154660723 : Int64))), .second, .val (.int ((Int32.ofNat k) - (0 : Int32))), .val (.int (1 : Int32)), .val (.int (0 : Int32)), .val (.long (wv ||| (((((g j.toInt.toNat)).toInt64) &&& (255 : Int64)) <<< (sh &&& 0x3f).toInt64))), .second, .val (.int (4 : Int32)), .val (.int (j + (1 : Int32))), .val (.int (Int32.ofNat k)), .val (.int sh)]) (pc' := 127) ?_
        refine siinc X hx (hb hby d22_127) rfl rfl rfl (l' := #[.val (.ref ha), .val (.ref d), .val (.int (0 : Int32)), .val (.int (Int32.ofNat k)), .val (.long ((0 : Int64) ^^^ (8317987319222330741 : Int64))), .second, .val (.long ((0 : Int64) ^^^ (7237128888997146477 : Int64))), .second, .val (.long ((0 : Int64) ^^^ (7816392313619706465 : Int64))), .second, .val (.long ((0 : Int64) ^^^ (8387220255154660723 : Int64))), .second, .val (.int ((Int32.ofNat k) - (0 : Int32))), .val (.int (1 : Int32)), .val (.int (0 : Int32)), .val (.long (wv ||| (((((g j.toInt.toNat)).toInt64) &&& (255 : Int64)) <<< (sh &&& 0x3f).toInt64))), .second, .val (.int (4 : Int32)), .val (.int (j + (1 : Int32))), .val (.int (Int32.ofNat k)), .val (.int (sh + (8 : Int32)))]) (pc' := 130) ?_
        refine sgoto X hx (hb hby d22_130) (by decide) (by decide)  (pc' := 100) ?_
        have hlt := Int32.lt_iff_toInt_lt.mp hc104
        rw [own_ofNat (by omega)] at hlt
        have hi1 := own_incS (x := j) (by omega)
        exact ih (j + (1 : Int32)) (sh + (8 : Int32)) (wv ||| (((((g j.toInt.toNat)).toInt64) &&& (255 : Int64)) <<< (sh &&& 0x3f).toInt64)) _ _ X eT N (by omega) ⟨by omega, by omega⟩
      · skip
        refine sicY X hx (hb hby d22_104) (by decide) (by decide) (flt hc104).2.1 (pc' := 133) ?_
        refine siload X hx (hb hby d22_133) rfl rfl (pc' := 135) ?_
        refine siload X hx (hb hby d22_135) rfl rfl (pc' := 137) ?_
        refine siconst X hx (hb hby d22_137) rfl rfl (z := 1) (pc' := 138) ?_
        refine sisub X hx (hb hby d22_138) rfl (by decide) (z := (0 : Int32)) (pc' := 139) ?_
        refine sicN X hx (hb hby d22_139) rfl (teq (by decide : (0 : Int32) = (0 : Int32))).2 (pc' := 142) ?_
        refine slload X hx (hb hby d22_142) rfl rfl (pc' := 144) ?_
        refine siload X hx (hb hby d22_144) rfl rfl (pc' := 146) ?_
        refine si2l X hx (hb hby d22_146) rfl rfl (pc' := 147) ?_
        refine sbipush X hx (hb hby d22_147) rfl rfl (z := 56) (pc' := 149) ?_
        refine slshl X hx (hb hby d22_149) rfl rfl (pc' := 150) ?_
        refine slor X hx (hb hby d22_150) rfl rfl (pc' := 151) ?_
        refine slstore X hx (hb hby d22_151) rfl rfl (l' := #[.val (.ref ha), .val (.ref d), .val (.int (0 : Int32)), .val (.int (Int32.ofNat k)), .val (.long ((0 : Int64) ^^^ (8317987319222330741 : Int64))), .second, .val (.long ((0 : Int64) ^^^ (7237128888997146477 : Int64))), .second, .val (.long ((0 : Int64) ^^^ (7816392313619706465 : Int64))), .second, .val (.long ((0 : Int64) ^^^ (8387220255154660723 : Int64))), .second, .val (.int ((Int32.ofNat k) - (0 : Int32))), .val (.int (1 : Int32)), .val (.int (0 : Int32)), .val (.long (wv ||| (((((Int32.ofNat k) - (0 : Int32))).toInt64) <<< ((56 : Int32) &&& 0x3f).toInt64))), .second, .val (.int (4 : Int32)), .val (.int j), .val (.int (Int32.ofNat k)), .val (.int sh)]) (pc' := 153) ?_
        refine slload X hx (hb hby d22_153) rfl rfl (pc' := 155) ?_
        refine slload X hx (hb hby d22_155) rfl rfl (pc' := 157) ?_
        refine slxor X hx (hb hby d22_157) rfl rfl (pc' := 158) ?_
        refine slstore X hx (hb hby d22_158) rfl rfl (l' := #[.val (.ref ha), .val (.ref d), .val (.int (0 : Int32)), .val (.int (Int32.ofNat k)), .val (.long ((0 : Int64) ^^^ (8317987319222330741 : Int64))), .second, .val (.long ((0 : Int64) ^^^ (7237128888997146477 : Int64))), .second, .val (.long ((0 : Int64) ^^^ (7816392313619706465 : Int64))), .second, .val (.long (((0 : Int64) ^^^ (8387220255154660723 : Int64)) ^^^ (wv ||| (((((Int32.ofNat k) - (0 : Int32))).toInt64) <<< ((56 : Int32) &&& 0x3f).toInt64)))), .second, .val (.int ((Int32.ofNat k) - (0 : Int32))), .val (.int (1 : Int32)), .val (.int (0 : Int32)), .val (.long (wv ||| (((((Int32.ofNat k) - (0 : Int32))).toInt64) <<< ((56 : Int32) &&& 0x3f).toInt64))), .second, .val (.int (4 : Int32)), .val (.int j), .val (.int (Int32.ofNat k)), .val (.int sh)]) (pc' := 160) ?_
        refine siconst X hx (hb hby d22_160) rfl rfl (z := 2) (pc' := 161) ?_
        refine sistore X hx (hb hby d22_161) rfl rfl (l' := #[.val (.ref ha), .val (.ref d), .val (.int (0 : Int32)), .val (.int (Int32.ofNat k)), .val (.long ((0 : Int64) ^^^ (8317987319222330741 : Int64))), .second, .val (.long ((0 : Int64) ^^^ (7237128888997146477 : Int64))), .second, .val (.long ((0 : Int64) ^^^ (7816392313619706465 : Int64))), .second, .val (.long (((0 : Int64) ^^^ (8387220255154660723 : Int64)) ^^^ (wv ||| (((((Int32.ofNat k) - (0 : Int32))).toInt64) <<< ((56 : Int32) &&& 0x3f).toInt64)))), .second, .val (.int ((Int32.ofNat k) - (0 : Int32))), .val (.int (1 : Int32)), .val (.int (0 : Int32)), .val (.long (wv ||| (((((Int32.ofNat k) - (0 : Int32))).toInt64) <<< ((56 : Int32) &&& 0x3f).toInt64))), .second, .val (.int (2 : Int32)), .val (.int j), .val (.int (Int32.ofNat k)), .val (.int sh)]) (pc' := 163) ?_
        refine sgoto X hx (hb hby d22_163) (by decide) (by decide)  (pc' := 174) ?_
        refine siconst X hx (hb hby d22_174) rfl rfl (z := 0) (pc' := 175) ?_
        refine sistore X hx (hb hby d22_175) rfl rfl (l' := #[.val (.ref ha), .val (.ref d), .val (.int (0 : Int32)), .val (.int (Int32.ofNat k)), .val (.long ((0 : Int64) ^^^ (8317987319222330741 : Int64))), .second, .val (.long ((0 : Int64) ^^^ (7237128888997146477 : Int64))), .second, .val (.long ((0 : Int64) ^^^ (7816392313619706465 : Int64))), .second, .val (.long (((0 : Int64) ^^^ (8387220255154660723 : Int64)) ^^^ (wv ||| (((((Int32.ofNat k) - (0 : Int32))).toInt64) <<< ((56 : Int32) &&& 0x3f).toInt64)))), .second, .val (.int ((Int32.ofNat k) - (0 : Int32))), .val (.int (1 : Int32)), .val (.int (0 : Int32)), .val (.long (wv ||| (((((Int32.ofNat k) - (0 : Int32))).toInt64) <<< ((56 : Int32) &&& 0x3f).toInt64))), .second, .val (.int (2 : Int32)), .val (.int (0 : Int32)), .val (.int (Int32.ofNat k)), .val (.int sh)]) (pc' := 177) ?_
        have l177 : ∀ (kF : Nat) (i : Int32) (q0 q1 q2 q3 w15 : Int64) (T : State) (locs : List Loc) (X : Stand p l e ({ frames := 1, cells := 0, slots := 0, locals := 14 } : Room) s m #[(.ref ha), (.ref d), (.int (0 : Int32)), (.int (Int32.ofNat k))] below meth c T locs 0 0) (eT : T.heap = h0) (N : Fr n0 locs) (hm : (2 - i.toInt.toNat) < kF) (hi : 0 ≤ i.toInt), oGl p e below (T.setTop (mkF m 177 #[.val (.ref ha), .val (.ref d), .val (.int (0 : Int32)), .val (.int (Int32.ofNat k)), .val (.long q0), .second, .val (.long q1), .second, .val (.long q2), .second, .val (.long q3), .second, .val (.int ((Int32.ofNat k) - (0 : Int32))), .val (.int (1 : Int32)), .val (.int (0 : Int32)), .val (.long w15), .second, .val (.int (2 : Int32)), .val (.int i), .val (.int (Int32.ofNat k)), .val (.int sh)] [])) (oFin s below (Q_rmSip Z ha d k g h0 n0) ({ frames := 1, cells := 0, slots := 0, locals := 14 } : Room).cells ({ frames := 1, cells := 0, slots := 0, locals := 14 } : Room).slots) := by
          intro kF
          induction kF with
          | zero => intro i q0 q1 q2 q3 w15 T locs X eT N hm hi; exact absurd hm (Nat.not_lt_zero _)
          | succ kF ih =>
            intro i q0 q1 q2 q3 w15 T locs X eT N hm hi
            refine siload X hx (hb hby d22_177) rfl rfl (pc' := 179) ?_
            refine siload X hx (hb hby d22_179) rfl rfl (pc' := 181) ?_
            by_cases hc181 : i < (2 : Int32)
            · skip
              refine sicN X hx (hb hby d22_181) rfl (tlt hc181).2.1 (pc' := 184) ?_
              refine slload X hx (hb hby d22_184) rfl rfl (pc' := 186) ?_
              refine slload X hx (hb hby d22_186) rfl rfl (pc' := 188) ?_
              refine sladd X hx (hb hby d22_188) rfl rfl (pc' := 189) ?_
              refine slstore X hx (hb hby d22_189) rfl rfl (l' := #[.val (.ref ha), .val (.ref d), .val (.int (0 : Int32)), .val (.int (Int32.ofNat k)), .val (.long (q0 + q1)), .second, .val (.long q1), .second, .val (.long q2), .second, .val (.long q3), .second, .val (.int ((Int32.ofNat k) - (0 : Int32))), .val (.int (1 : Int32)), .val (.int (0 : Int32)), .val (.long w15), .second, .val (.int (2 : Int32)), .val (.int i), .val (.int (Int32.ofNat k)), .val (.int sh)]) (pc' := 191) ?_
              refine slload X hx (hb hby d22_191) rfl rfl (pc' := 193) ?_
              refine sbipush X hx (hb hby d22_193) rfl rfl (z := 13) (pc' := 195) ?_
              have hz12 : n0 ≤ h0.size := by omega
              obtain ⟨_, _, ⟨T12, L12, k12, n12⟩, -, X12, ⟨Lc12, hQ12, l12, y12, z12⟩, st12⟩ := Jvm.LawKit.callS X hx (y := (⟨"java/lang/Long", "rotateLeft", "(JI)J"⟩ : MethodName)) hown (mvT hZ (hw _ (List.mem_of_getElem? (i := 147) rfl))) (mvT hZ (hw _ (List.mem_of_getElem? (i := 148) rfl))) (mvT hZ (hw _ (List.mem_of_getElem? (i := 149) rfl))) (mvT hZ (hw _ (List.mem_of_getElem? (i := 150) rfl))) (by decide) (backOf (W := 0) (rmRot l Z a0 hw [] q1 (13 : Int32) h0 n0 hz12 ) hZ (hw _ (List.mem_of_getElem? (i := 150) rfl)) (hw _ (List.mem_of_getElem? (i := 149) rfl)) (by decide) (by decide)) (g := (mkF m 195 #[.val (.ref ha), .val (.ref d), .val (.int (0 : Int32)), .val (.int (Int32.ofNat k)), .val (.long (q0 + q1)), .second, .val (.long q1), .second, .val (.long q2), .second, .val (.long q3), .second, .val (.int ((Int32.ofNat k) - (0 : Int32))), .val (.int (1 : Int32)), .val (.int (0 : Int32)), .val (.long w15), .second, .val (.int (2 : Int32)), .val (.int i), .val (.int (Int32.ofNat k)), .val (.int sh)] [(.int (13 : Int32)), (.long q1)])) rfl (by rw [hml]; rfl) (argsL := [(.long q1), (.int (13 : Int32))]) (rest := []) (lenOf pd_16 rfl) rfl (by show 2 * 0 + _ ≤ _; exact Nat.le_of_eq rfl) (hb hby d22_195) (fun _ _ => ⟨rfl, eT, (by decide : 0 + 0 ≤ _), (by decide : 0 + 0 ≤ _)⟩)
              dsimp only [Pt.U, Pt.locs, Pt.cells, Pt.slots] at X12 l12 y12 z12 st12 hQ12
              subst l12 y12 z12
              obtain ⟨rt12, rfl, N12q, eh12⟩ := hQ12
              have N12 := Fr.app N N12q
              refine oOn st12 ?_
              show oGl p e below (T12.setTop (mkF m 198 #[.val (.ref ha), .val (.ref d), .val (.int (0 : Int32)), .val (.int (Int32.ofNat k)), .val (.long (q0 + q1)), .second, .val (.long q1), .second, .val (.long q2), .second, .val (.long q3), .second, .val (.int ((Int32.ofNat k) - (0 : Int32))), .val (.int (1 : Int32)), .val (.int (0 : Int32)), .val (.long w15), .second, .val (.int (2 : Int32)), .val (.int i), .val (.int (Int32.ofNat k)), .val (.int sh)] [(.long rt12)])) _
              refine slstore X12 hx (hb hby d22_198) rfl rfl (l' := #[.val (.ref ha), .val (.ref d), .val (.int (0 : Int32)), .val (.int (Int32.ofNat k)), .val (.long (q0 + q1)), .second, .val (.long rt12), .second, .val (.long q2), .second, .val (.long q3), .second, .val (.int ((Int32.ofNat k) - (0 : Int32))), .val (.int (1 : Int32)), .val (.int (0 : Int32)), .val (.long w15), .second, .val (.int (2 : Int32)), .val (.int i), .val (.int (Int32.ofNat k)), .val (.int sh)]) (pc' := 200) ?_
              refine slload X12 hx (hb hby d22_200) rfl rfl (pc' := 202) ?_
              refine slload X12 hx (hb hby d22_202) rfl rfl (pc' := 204) ?_
              refine slxor X12 hx (hb hby d22_204) rfl rfl (pc' := 205) ?_
              refine slstore X12 hx (hb hby d22_205) rfl rfl (l' := #[.val (.ref ha), .val (.ref d), .val (.int (0 : Int32)), .val (.int (Int32.ofNat k)), .val (.long (q0 + q1)), .second, .val (.long (rt12 ^^^ (q0 + q1))), .second, .val (.long q2), .second, .val (.long q3), .second, .val (.int ((Int32.ofNat k) - (0 : Int32))), .val (.int (1 : Int32)), .val (.int (0 : Int32)), .val (.long w15), .second, .val (.int (2 : Int32)), .val (.int i), .val (.int (Int32.ofNat k)), .val (.int sh)]) (pc' := 207) ?_
              refine slload X12 hx (hb hby d22_207) rfl rfl (pc' := 209) ?_
              refine sbipush X12 hx (hb hby d22_209) rfl rfl (z := 32) (pc' := 211) ?_
              have hz13 : n0 ≤ h0.size := by omega
              obtain ⟨_, _, ⟨T13, L13, k13, n13⟩, -, X13, ⟨Lc13, hQ13, l13, y13, z13⟩, st13⟩ := Jvm.LawKit.callS X12 hx (y := (⟨"java/lang/Long", "rotateLeft", "(JI)J"⟩ : MethodName)) hown (mvT hZ (hw _ (List.mem_of_getElem? (i := 147) rfl))) (mvT hZ (hw _ (List.mem_of_getElem? (i := 148) rfl))) (mvT hZ (hw _ (List.mem_of_getElem? (i := 149) rfl))) (mvT hZ (hw _ (List.mem_of_getElem? (i := 150) rfl))) (by decide) (backOf (W := 0) (rmRot l Z a0 hw [] (q0 + q1) (32 : Int32) h0 n0 hz13 ) hZ (hw _ (List.mem_of_getElem? (i := 150) rfl)) (hw _ (List.mem_of_getElem? (i := 149) rfl)) (by decide) (by decide)) (g := (mkF m 211 #[.val (.ref ha), .val (.ref d), .val (.int (0 : Int32)), .val (.int (Int32.ofNat k)), .val (.long (q0 + q1)), .second, .val (.long (rt12 ^^^ (q0 + q1))), .second, .val (.long q2), .second, .val (.long q3), .second, .val (.int ((Int32.ofNat k) - (0 : Int32))), .val (.int (1 : Int32)), .val (.int (0 : Int32)), .val (.long w15), .second, .val (.int (2 : Int32)), .val (.int i), .val (.int (Int32.ofNat k)), .val (.int sh)] [(.int (32 : Int32)), (.long (q0 + q1))])) rfl (by rw [hml]; rfl) (argsL := [(.long (q0 + q1)), (.int (32 : Int32))]) (rest := []) (lenOf pd_16 rfl) rfl (by show 2 * 0 + _ ≤ _; exact Nat.le_of_eq rfl) (hb hby d22_211) (fun _ _ => ⟨rfl, eh12, (by decide : 0 + 0 ≤ _), (by decide : 0 + 0 ≤ _)⟩)
              dsimp only [Pt.U, Pt.locs, Pt.cells, Pt.slots] at X13 l13 y13 z13 st13 hQ13
              subst l13 y13 z13
              obtain ⟨rt13, rfl, N13q, eh13⟩ := hQ13
              have N13 := Fr.app N12 N13q
              refine oOn st13 ?_
              show oGl p e below (T13.setTop (mkF m 214 #[.val (.ref ha), .val (.ref d), .val (.int (0 : Int32)), .val (.int (Int32.ofNat k)), .val (.long (q0 + q1)), .second, .val (.long (rt12 ^^^ (q0 + q1))), .second, .val (.long q2), .second, .val (.long q3), .second, .val (.int ((Int32.ofNat k) - (0 : Int32))), .val (.int (1 : Int32)), .val (.int (0 : Int32)), .val (.long w15), .second, .val (.int (2 : Int32)), .val (.int i), .val (.int (Int32.ofNat k)), .val (.int sh)] [(.long rt13)])) _
              refine slstore X13 hx (hb hby d22_214) rfl rfl (l' := #[.val (.ref ha), .val (.ref d), .val (.int (0 : Int32)), .val (.int (Int32.ofNat k)), .val (.long rt13), .second, .val (.long (rt12 ^^^ (q0 + q1))), .second, .val (.long q2), .second, .val (.long q3), .second, .val (.int ((Int32.ofNat k) - (0 : Int32))), .val (.int (1 : Int32)), .val (.int (0 : Int32)), .val (.long w15), .second, .val (.int (2 : Int32)), .val (.int i), .val (.int (Int32.ofNat k)), .val (.int sh)]) (pc' := 216) ?_
              refine slload X13 hx (hb hby d22_216) rfl rfl (pc' := 218) ?_
              refine slload X13 hx (hb hby d22_218) rfl rfl (pc' := 220) ?_
              refine sladd X13 hx (hb hby d22_220) rfl rfl (pc' := 221) ?_
              refine slstore X13 hx (hb hby d22_221) rfl rfl (l' := #[.val (.ref ha), .val (.ref d), .val (.int (0 : Int32)), .val (.int (Int32.ofNat k)), .val (.long rt13), .second, .val (.long (rt12 ^^^ (q0 + q1))), .second, .val (.long (q2 + q3)), .second, .val (.long q3), .second, .val (.int ((Int32.ofNat k) - (0 : Int32))), .val (.int (1 : Int32)), .val (.int (0 : Int32)), .val (.long w15), .second, .val (.int (2 : Int32)), .val (.int i), .val (.int (Int32.ofNat k)), .val (.int sh)]) (pc' := 223) ?_
              refine slload X13 hx (hb hby d22_223) rfl rfl (pc' := 225) ?_
              refine sbipush X13 hx (hb hby d22_225) rfl rfl (z := 16) (pc' := 227) ?_
              have hz14 : n0 ≤ h0.size := by omega
              obtain ⟨_, _, ⟨T14, L14, k14, n14⟩, -, X14, ⟨Lc14, hQ14, l14, y14, z14⟩, st14⟩ := Jvm.LawKit.callS X13 hx (y := (⟨"java/lang/Long", "rotateLeft", "(JI)J"⟩ : MethodName)) hown (mvT hZ (hw _ (List.mem_of_getElem? (i := 147) rfl))) (mvT hZ (hw _ (List.mem_of_getElem? (i := 148) rfl))) (mvT hZ (hw _ (List.mem_of_getElem? (i := 149) rfl))) (mvT hZ (hw _ (List.mem_of_getElem? (i := 150) rfl))) (by decide) (backOf (W := 0) (rmRot l Z a0 hw [] q3 (16 : Int32) h0 n0 hz14 ) hZ (hw _ (List.mem_of_getElem? (i := 150) rfl)) (hw _ (List.mem_of_getElem? (i := 149) rfl)) (by decide) (by decide)) (g := (mkF m 227 #[.val (.ref ha), .val (.ref d), .val (.int (0 : Int32)), .val (.int (Int32.ofNat k)), .val (.long rt13), .second, .val (.long (rt12 ^^^ (q0 + q1))), .second, .val (.long (q2 + q3)), .second, .val (.long q3), .second, .val (.int ((Int32.ofNat k) - (0 : Int32))), .val (.int (1 : Int32)), .val (.int (0 : Int32)), .val (.long w15), .second, .val (.int (2 : Int32)), .val (.int i), .val (.int (Int32.ofNat k)), .val (.int sh)] [(.int (16 : Int32)), (.long q3)])) rfl (by rw [hml]; rfl) (argsL := [(.long q3), (.int (16 : Int32))]) (rest := []) (lenOf pd_16 rfl) rfl (by show 2 * 0 + _ ≤ _; exact Nat.le_of_eq rfl) (hb hby d22_227) (fun _ _ => ⟨rfl, eh13, (by decide : 0 + 0 ≤ _), (by decide : 0 + 0 ≤ _)⟩)
              dsimp only [Pt.U, Pt.locs, Pt.cells, Pt.slots] at X14 l14 y14 z14 st14 hQ14
              subst l14 y14 z14
              obtain ⟨rt14, rfl, N14q, eh14⟩ := hQ14
              have N14 := Fr.app N13 N14q
              refine oOn st14 ?_
              show oGl p e below (T14.setTop (mkF m 230 #[.val (.ref ha), .val (.ref d), .val (.int (0 : Int32)), .val (.int (Int32.ofNat k)), .val (.long rt13), .second, .val (.long (rt12 ^^^ (q0 + q1))), .second, .val (.long (q2 + q3)), .second, .val (.long q3), .second, .val (.int ((Int32.ofNat k) - (0 : Int32))), .val (.int (1 : Int32)), .val (.int (0 : Int32)), .val (.long w15), .second, .val (.int (2 : Int32)), .val (.int i), .val (.int (Int32.ofNat k)), .val (.int sh)] [(.long rt14)])) _
              refine slstore X14 hx (hb hby d22_230) rfl rfl (l' := #[.val (.ref ha), .val (.ref d), .val (.int (0 : Int32)), .val (.int (Int32.ofNat k)), .val (.long rt13), .second, .val (.long (rt12 ^^^ (q0 + q1))), .second, .val (.long (q2 + q3)), .second, .val (.long rt14), .second, .val (.int ((Int32.ofNat k) - (0 : Int32))), .val (.int (1 : Int32)), .val (.int (0 : Int32)), .val (.long w15), .second, .val (.int (2 : Int32)), .val (.int i), .val (.int (Int32.ofNat k)), .val (.int sh)]) (pc' := 232) ?_
              refine slload X14 hx (hb hby d22_232) rfl rfl (pc' := 234) ?_
              refine slload X14 hx (hb hby d22_234) rfl rfl (pc' := 236) ?_
              refine slxor X14 hx (hb hby d22_236) rfl rfl (pc' := 237) ?_
              refine slstore X14 hx (hb hby d22_237) rfl rfl (l' := #[.val (.ref ha), .val (.ref d), .val (.int (0 : Int32)), .val (.int (Int32.ofNat k)), .val (.long rt13), .second, .val (.long (rt12 ^^^ (q0 + q1))), .second, .val (.long (q2 + q3)), .second, .val (.long (rt14 ^^^ (q2 + q3))), .second, .val (.int ((Int32.ofNat k) - (0 : Int32))), .val (.int (1 : Int32)), .val (.int (0 : Int32)), .val (.long w15), .second, .val (.int (2 : Int32)), .val (.int i), .val (.int (Int32.ofNat k)), .val (.int sh)]) (pc' := 239) ?_
              refine slload X14 hx (hb hby d22_239) rfl rfl (pc' := 241) ?_
              refine slload X14 hx (hb hby d22_241) rfl rfl (pc' := 243) ?_
              refine sladd X14 hx (hb hby d22_243) rfl rfl (pc' := 244) ?_
              refine slstore X14 hx (hb hby d22_244) rfl rfl (l' := #[.val (.ref ha), .val (.ref d), .val (.int (0 : Int32)), .val (.int (Int32.ofNat k)), .val (.long (rt13 + (rt14 ^^^ (q2 + q3)))), .second, .val (.long (rt12 ^^^ (q0 + q1))), .second, .val (.long (q2 + q3)), .second, .val (.long (rt14 ^^^ (q2 + q3))), .second, .val (.int ((Int32.ofNat k) - (0 : Int32))), .val (.int (1 : Int32)), .val (.int (0 : Int32)), .val (.long w15), .second, .val (.int (2 : Int32)), .val (.int i), .val (.int (Int32.ofNat k)), .val (.int sh)]) (pc' := 246) ?_
              refine slload X14 hx (hb hby d22_246) rfl rfl (pc' := 248) ?_
              refine sbipush X14 hx (hb hby d22_248) rfl rfl (z := 21) (pc' := 250) ?_
              have hz15 : n0 ≤ h0.size := by omega
              obtain ⟨_, _, ⟨T15, L15, k15, n15⟩, -, X15, ⟨Lc15, hQ15, l15, y15, z15⟩, st15⟩ := Jvm.LawKit.callS X14 hx (y := (⟨"java/lang/Long", "rotateLeft", "(JI)J"⟩ : MethodName)) hown (mvT hZ (hw _ (List.mem_of_getElem? (i := 147) rfl))) (mvT hZ (hw _ (List.mem_of_getElem? (i := 148) rfl))) (mvT hZ (hw _ (List.mem_of_getElem? (i := 149) rfl))) (mvT hZ (hw _ (List.mem_of_getElem? (i := 150) rfl))) (by decide) (backOf (W := 0) (rmRot l Z a0 hw [] (rt14 ^^^ (q2 + q3)) (21 : Int32) h0 n0 hz15 ) hZ (hw _ (List.mem_of_getElem? (i := 150) rfl)) (hw _ (List.mem_of_getElem? (i := 149) rfl)) (by decide) (by decide)) (g := (mkF m 250 #[.val (.ref ha), .val (.ref d), .val (.int (0 : Int32)), .val (.int (Int32.ofNat k)), .val (.long (rt13 + (rt14 ^^^ (q2 + q3)))), .second, .val (.long (rt12 ^^^ (q0 + q1))), .second, .val (.long (q2 + q3)), .second, .val (.long (rt14 ^^^ (q2 + q3))), .second, .val (.int ((Int32.ofNat k) - (0 : Int32))), .val (.int (1 : Int32)), .val (.int (0 : Int32)), .val (.long w15), .second, .val (.int (2 : Int32)), .val (.int i), .val (.int (Int32.ofNat k)), .val (.int sh)] [(.int (21 : Int32)), (.long (rt14 ^^^ (q2 + q3)))])) rfl (by rw [hml]; rfl) (argsL := [(.long (rt14 ^^^ (q2 + q3))), (.int (21 : Int32))]) (rest := []) (lenOf pd_16 rfl) rfl (by show 2 * 0 + _ ≤ _; exact Nat.le_of_eq rfl) (hb hby d22_250) (fun _ _ => ⟨rfl, eh14, (by decide : 0 + 0 ≤ _), (by decide : 0 + 0 ≤ _)⟩)
              dsimp only [Pt.U, Pt.locs, Pt.cells, Pt.slots] at X15 l15 y15 z15 st15 hQ15
              subst l15 y15 z15
              obtain ⟨rt15, rfl, N15q, eh15⟩ := hQ15
              have N15 := Fr.app N14 N15q
              refine oOn st15 ?_
              show oGl p e below (T15.setTop (mkF m 253 #[.val (.ref ha), .val (.ref d), .val (.int (0 : Int32)), .val (.int (Int32.ofNat k)), .val (.long (rt13 + (rt14 ^^^ (q2 + q3)))), .second, .val (.long (rt12 ^^^ (q0 + q1))), .second, .val (.long (q2 + q3)), .second, .val (.long (rt14 ^^^ (q2 + q3))), .second, .val (.int ((Int32.ofNat k) - (0 : Int32))), .val (.int (1 : Int32)), .val (.int (0 : Int32)), .val (.long w15), .second, .val (.int (2 : Int32)), .val (.int i), .val (.int (Int32.ofNat k)), .val (.int sh)] [(.long rt15)])) _
              refine slstore X15 hx (hb hby d22_253) rfl rfl (l' := #[.val (.ref ha), .val (.ref d), .val (.int (0 : Int32)), .val (.int (Int32.ofNat k)), .val (.long (rt13 + (rt14 ^^^ (q2 + q3)))), .second, .val (.long (rt12 ^^^ (q0 + q1))), .second, .val (.long (q2 + q3)), .second, .val (.long rt15), .second, .val (.int ((Int32.ofNat k) - (0 : Int32))), .val (.int (1 : Int32)), .val (.int (0 : Int32)), .val (.long w15), .second, .val (.int (2 : Int32)), .val (.int i), .val (.int (Int32.ofNat k)), .val (.int sh)]) (pc' := 255) ?_
              refine slload X15 hx (hb hby d22_255) rfl rfl (pc' := 257) ?_
              refine slload X15 hx (hb hby d22_257) rfl rfl (pc' := 259) ?_
              refine slxor X15 hx (hb hby d22_259) rfl rfl (pc' := 260) ?_
              refine slstore X15 hx (hb hby d22_260) rfl rfl (l' := #[.val (.ref ha), .val (.ref d), .val (.int (0 : Int32)), .val (.int (Int32.ofNat k)), .val (.long (rt13 + (rt14 ^^^ (q2 + q3)))), .second, .val (.long (rt12 ^^^ (q0 + q1))), .second, .val (.long (q2 + q3)), .second, .val (.long (rt15 ^^^ (rt13 + (rt14 ^^^ (q2 + q3))))), .second, .val (.int ((Int32.ofNat k) - (0 : Int32))), .val (.int (1 : Int32)), .val (.int (0 : Int32)), .val (.long w15), .second, .val (.int (2 : Int32)), .val (.int i), .val (.int (Int32.ofNat k)), .val (.int sh)]) (pc' := 262) ?_
              refine slload X15 hx (hb hby d22_262) rfl rfl (pc' := 264) ?_
              refine slload X15 hx (hb hby d22_264) rfl rfl (pc' := 266) ?_
              refine sladd X15 hx (hb hby d22_266) rfl rfl (pc' := 267) ?_
              refine slstore X15 hx (hb hby d22_267) rfl rfl (l' := #[.val (.ref ha), .val (.ref d), .val (.int (0 : Int32)), .val (.int (Int32.ofNat k)), .val (.long (rt13 + (rt14 ^^^ (q2 + q3)))), .second, .val (.long (rt12 ^^^ (q0 + q1))), .second, .val (.long ((q2 + q3) + (rt12 ^^^ (q0 + q1)))), .second, .val (.long (rt15 ^^^ (rt13 + (rt14 ^^^ (q2 + q3))))), .second, .val (.int ((Int32.ofNat k) - (0 : Int32))), .val (.int (1 : Int32)), .val (.int (0 : Int32)), .val (.long w15), .second, .val (.int (2 : Int32)), .val (.int i), .val (.int (Int32.ofNat k)), .val (.int sh)]) (pc' := 269) ?_
              refine slload X15 hx (hb hby d22_269) rfl rfl (pc' := 271) ?_
              refine sbipush X15 hx (hb hby d22_271) rfl rfl (z := 17) (pc' := 273) ?_
              have hz16 : n0 ≤ h0.size := by omega
              obtain ⟨_, _, ⟨T16, L16, k16, n16⟩, -, X16, ⟨Lc16, hQ16, l16, y16, z16⟩, st16⟩ := Jvm.LawKit.callS X15 hx (y := (⟨"java/lang/Long", "rotateLeft", "(JI)J"⟩ : MethodName)) hown (mvT hZ (hw _ (List.mem_of_getElem? (i := 147) rfl))) (mvT hZ (hw _ (List.mem_of_getElem? (i := 148) rfl))) (mvT hZ (hw _ (List.mem_of_getElem? (i := 149) rfl))) (mvT hZ (hw _ (List.mem_of_getElem? (i := 150) rfl))) (by decide) (backOf (W := 0) (rmRot l Z a0 hw [] (rt12 ^^^ (q0 + q1)) (17 : Int32) h0 n0 hz16 ) hZ (hw _ (List.mem_of_getElem? (i := 150) rfl)) (hw _ (List.mem_of_getElem? (i := 149) rfl)) (by decide) (by decide)) (g := (mkF m 273 #[.val (.ref ha), .val (.ref d), .val (.int (0 : Int32)), .val (.int (Int32.ofNat k)), .val (.long (rt13 + (rt14 ^^^ (q2 + q3)))), .second, .val (.long (rt12 ^^^ (q0 + q1))), .second, .val (.long ((q2 + q3) + (rt12 ^^^ (q0 + q1)))), .second, .val (.long (rt15 ^^^ (rt13 + (rt14 ^^^ (q2 + q3))))), .second, .val (.int ((Int32.ofNat k) - (0 : Int32))), .val (.int (1 : Int32)), .val (.int (0 : Int32)), .val (.long w15), .second, .val (.int (2 : Int32)), .val (.int i), .val (.int (Int32.ofNat k)), .val (.int sh)] [(.int (17 : Int32)), (.long (rt12 ^^^ (q0 + q1)))])) rfl (by rw [hml]; rfl) (argsL := [(.long (rt12 ^^^ (q0 + q1))), (.int (17 : Int32))]) (rest := []) (lenOf pd_16 rfl) rfl (by show 2 * 0 + _ ≤ _; exact Nat.le_of_eq rfl) (hb hby d22_273) (fun _ _ => ⟨rfl, eh15, (by decide : 0 + 0 ≤ _), (by decide : 0 + 0 ≤ _)⟩)
              dsimp only [Pt.U, Pt.locs, Pt.cells, Pt.slots] at X16 l16 y16 z16 st16 hQ16
              subst l16 y16 z16
              obtain ⟨rt16, rfl, N16q, eh16⟩ := hQ16
              have N16 := Fr.app N15 N16q
              refine oOn st16 ?_
              show oGl p e below (T16.setTop (mkF m 276 #[.val (.ref ha), .val (.ref d), .val (.int (0 : Int32)), .val (.int (Int32.ofNat k)), .val (.long (rt13 + (rt14 ^^^ (q2 + q3)))), .second, .val (.long (rt12 ^^^ (q0 + q1))), .second, .val (.long ((q2 + q3) + (rt12 ^^^ (q0 + q1)))), .second, .val (.long (rt15 ^^^ (rt13 + (rt14 ^^^ (q2 + q3))))), .second, .val (.int ((Int32.ofNat k) - (0 : Int32))), .val (.int (1 : Int32)), .val (.int (0 : Int32)), .val (.long w15), .second, .val (.int (2 : Int32)), .val (.int i), .val (.int (Int32.ofNat k)), .val (.int sh)] [(.long rt16)])) _
              refine slstore X16 hx (hb hby d22_276) rfl rfl (l' := #[.val (.ref ha), .val (.ref d), .val (.int (0 : Int32)), .val (.int (Int32.ofNat k)), .val (.long (rt13 + (rt14 ^^^ (q2 + q3)))), .second, .val (.long rt16), .second, .val (.long ((q2 + q3) + (rt12 ^^^ (q0 + q1)))), .second, .val (.long (rt15 ^^^ (rt13 + (rt14 ^^^ (q2 + q3))))), .second, .val (.int ((Int32.ofNat k) - (0 : Int32))), .val (.int (1 : Int32)), .val (.int (0 : Int32)), .val (.long w15), .second, .val (.int (2 : Int32)), .val (.int i), .val (.int (Int32.ofNat k)), .val (.int sh)]) (pc' := 278) ?_
              refine slload X16 hx (hb hby d22_278) rfl rfl (pc' := 280) ?_
              refine slload X16 hx (hb hby d22_280) rfl rfl (pc' := 282) ?_
              refine slxor X16 hx (hb hby d22_282) rfl rfl (pc' := 283) ?_
              refine slstore X16 hx (hb hby d22_283) rfl rfl (l' := #[.val (.ref ha), .val (.ref d), .val (.int (0 : Int32)), .val (.int (Int32.ofNat k)), .val (.long (rt13 + (rt14 ^^^ (q2 + q3)))), .second, .val (.long (rt16 ^^^ ((q2 + q3) + (rt12 ^^^ (q0 + q1))))), .second, .val (.long ((q2 + q3) + (rt12 ^^^ (q0 + q1)))), .second, .val (.long (rt15 ^^^ (rt13 + (rt14 ^^^ (q2 + q3))))), .second, .val (.int ((Int32.ofNat k) - (0 : Int32))), .val (.int (1 : Int32)), .val (.int (0 : Int32)), .val (.long w15), .second, .val (.int (2 : Int32)), .val (.int i), .val (.int (Int32.ofNat k)), .val (.int sh)]) (pc' := 285) ?_
              refine slload X16 hx (hb hby d22_285) rfl rfl (pc' := 287) ?_
              refine sbipush X16 hx (hb hby d22_287) rfl rfl (z := 32) (pc' := 289) ?_
              have hz17 : n0 ≤ h0.size := by omega
              obtain ⟨_, _, ⟨T17, L17, k17, n17⟩, -, X17, ⟨Lc17, hQ17, l17, y17, z17⟩, st17⟩ := Jvm.LawKit.callS X16 hx (y := (⟨"java/lang/Long", "rotateLeft", "(JI)J"⟩ : MethodName)) hown (mvT hZ (hw _ (List.mem_of_getElem? (i := 147) rfl))) (mvT hZ (hw _ (List.mem_of_getElem? (i := 148) rfl))) (mvT hZ (hw _ (List.mem_of_getElem? (i := 149) rfl))) (mvT hZ (hw _ (List.mem_of_getElem? (i := 150) rfl))) (by decide) (backOf (W := 0) (rmRot l Z a0 hw [] ((q2 + q3) + (rt12 ^^^ (q0 + q1))) (32 : Int32) h0 n0 hz17 ) hZ (hw _ (List.mem_of_getElem? (i := 150) rfl)) (hw _ (List.mem_of_getElem? (i := 149) rfl)) (by decide) (by decide)) (g := (mkF m 289 #[.val (.ref ha), .val (.ref d), .val (.int (0 : Int32)), .val (.int (Int32.ofNat k)), .val (.long (rt13 + (rt14 ^^^ (q2 + q3)))), .second, .val (.long (rt16 ^^^ ((q2 + q3) + (rt12 ^^^ (q0 + q1))))), .second, .val (.long ((q2 + q3) + (rt12 ^^^ (q0 + q1)))), .second, .val (.long (rt15 ^^^ (rt13 + (rt14 ^^^ (q2 + q3))))), .second, .val (.int ((Int32.ofNat k) - (0 : Int32))), .val (.int (1 : Int32)), .val (.int (0 : Int32)), .val (.long w15), .second, .val (.int (2 : Int32)), .val (.int i), .val (.int (Int32.ofNat k)), .val (.int sh)] [(.int (32 : Int32)), (.long ((q2 + q3) + (rt12 ^^^ (q0 + q1))))])) rfl (by rw [hml]; rfl) (argsL := [(.long ((q2 + q3) + (rt12 ^^^ (q0 + q1)))), (.int (32 : Int32))]) (rest := []) (lenOf pd_16 rfl) rfl (by show 2 * 0 + _ ≤ _; exact Nat.le_of_eq rfl) (hb hby d22_289) (fun _ _ => ⟨rfl, eh16, (by decide : 0 + 0 ≤ _), (by decide : 0 + 0 ≤ _)⟩)
              dsimp only [Pt.U, Pt.locs, Pt.cells, Pt.slots] at X17 l17 y17 z17 st17 hQ17
              subst l17 y17 z17
              obtain ⟨rt17, rfl, N17q, eh17⟩ := hQ17
              have N17 := Fr.app N16 N17q
              refine oOn st17 ?_
              show oGl p e below (T17.setTop (mkF m 292 #[.val (.ref ha), .val (.ref d), .val (.int (0 : Int32)), .val (.int (Int32.ofNat k)), .val (.long (rt13 + (rt14 ^^^ (q2 + q3)))), .second, .val (.long (rt16 ^^^ ((q2 + q3) + (rt12 ^^^ (q0 + q1))))), .second, .val (.long ((q2 + q3) + (rt12 ^^^ (q0 + q1)))), .second, .val (.long (rt15 ^^^ (rt13 + (rt14 ^^^ (q2 + q3))))), .second, .val (.int ((Int32.ofNat k) - (0 : Int32))), .val (.int (1 : Int32)), .val (.int (0 : Int32)), .val (.long w15), .second, .val (.int (2 : Int32)), .val (.int i), .val (.int (Int32.ofNat k)), .val (.int sh)] [(.long rt17)])) _
              refine slstore X17 hx (hb hby d22_292) rfl rfl (l' := #[.val (.ref ha), .val (.ref d), .val (.int (0 : Int32)), .val (.int (Int32.ofNat k)), .val (.long (rt13 + (rt14 ^^^ (q2 + q3)))), .second, .val (.long (rt16 ^^^ ((q2 + q3) + (rt12 ^^^ (q0 + q1))))), .second, .val (.long rt17), .second, .val (.long (rt15 ^^^ (rt13 + (rt14 ^^^ (q2 + q3))))), .second, .val (.int ((Int32.ofNat k) - (0 : Int32))), .val (.int (1 : Int32)), .val (.int (0 : Int32)), .val (.long w15), .second, .val (.int (2 : Int32)), .val (.int i), .val (.int (Int32.ofNat k)), .val (.int sh)]) (pc' := 294) ?_
              refine siinc X17 hx (hb hby d22_294) rfl rfl rfl (l' := #[.val (.ref ha), .val (.ref d), .val (.int (0 : Int32)), .val (.int (Int32.ofNat k)), .val (.long (rt13 + (rt14 ^^^ (q2 + q3)))), .second, .val (.long (rt16 ^^^ ((q2 + q3) + (rt12 ^^^ (q0 + q1))))), .second, .val (.long rt17), .second, .val (.long (rt15 ^^^ (rt13 + (rt14 ^^^ (q2 + q3))))), .second, .val (.int ((Int32.ofNat k) - (0 : Int32))), .val (.int (1 : Int32)), .val (.int (0 : Int32)), .val (.long w15), .second, .val (.int (2 : Int32)), .val (.int (i + (1 : Int32))), .val (.int (Int32.ofNat k)), .val (.int sh)]) (pc' := 297) ?_
              refine sgoto X17 hx (hb hby d22_297) (by decide) (by decide)  (pc' := 177) ?_
              have hlt := Int32.lt_iff_toInt_lt.mp hc181
              have eR : (2 : Int32).toInt = 2 := rfl
              have hi1 := own_incS (x := i) (by omega)
              exact ih (i + (1 : Int32)) (rt13 + (rt14 ^^^ (q2 + q3))) (rt16 ^^^ ((q2 + q3) + (rt12 ^^^ (q0 + q1)))) rt17 (rt15 ^^^ (rt13 + (rt14 ^^^ (q2 + q3)))) w15 _ _ X17 eh17 N17 (by omega) (by omega)
            · skip
              refine sicY X hx (hb hby d22_181) (by decide) (by decide) (flt hc181).2.1 (pc' := 300) ?_
              refine slload X hx (hb hby d22_300) rfl rfl (pc' := 302) ?_
              refine slload X hx (hb hby d22_302) rfl rfl (pc' := 304) ?_
              refine slxor X hx (hb hby d22_304) rfl rfl (pc' := 305) ?_
              refine slstore X hx (hb hby d22_305) rfl rfl (l' := #[.val (.ref ha), .val (.ref d), .val (.int (0 : Int32)), .val (.int (Int32.ofNat k)), .val (.long (q0 ^^^ w15)), .second, .val (.long q1), .second, .val (.long q2), .second, .val (.long q3), .second, .val (.int ((Int32.ofNat k) - (0 : Int32))), .val (.int (1 : Int32)), .val (.int (0 : Int32)), .val (.long w15), .second, .val (.int (2 : Int32)), .val (.int i), .val (.int (Int32.ofNat k)), .val (.int sh)]) (pc' := 307) ?_
              refine siinc X hx (hb hby d22_307) rfl rfl rfl (l' := #[.val (.ref ha), .val (.ref d), .val (.int (0 : Int32)), .val (.int (Int32.ofNat k)), .val (.long (q0 ^^^ w15)), .second, .val (.long q1), .second, .val (.long q2), .second, .val (.long q3), .second, .val (.int ((Int32.ofNat k) - (0 : Int32))), .val (.int (1 : Int32)), .val (.int (1 : Int32)), .val (.long w15), .second, .val (.int (2 : Int32)), .val (.int i), .val (.int (Int32.ofNat k)), .val (.int sh)]) (pc' := 310) ?_
              refine sgoto X hx (hb hby d22_310) (by decide) (by decide)  (pc' := 57) ?_
              exact j57 (q0 ^^^ w15) q1 q2 q3 w15 i (Int32.ofNat k) sh _ _ X eT N
        exact l177 _ 0 ((0 : Int64) ^^^ (8317987319222330741 : Int64)) ((0 : Int64) ^^^ (7237128888997146477 : Int64)) ((0 : Int64) ^^^ (7816392313619706465 : Int64)) (((0 : Int64) ^^^ (8387220255154660723 : Int64)) ^^^ (wv ||| (((((Int32.ofNat k) - (0 : Int32))).toInt64) <<< ((56 : Int32) &&& 0x3f).toInt64))) (wv ||| (((((Int32.ofNat k) - (0 : Int32))).toInt64) <<< ((56 : Int32) &&& 0x3f).toInt64)) _ _ X eT N (Nat.lt_succ_self _) (by decide)
  exact l100 _ 0 0 (0 : Int64) _ _ X11 eh11 N11 (Nat.lt_succ_self _) ⟨by decide, by have e0 : (0 : Int32).toInt = 0 := rfl; omega⟩
theorem d21_0 : decode prog_21_method_24_code 0 = .ok (.aload_n 0, 1) := by decide +kernel
theorem d21_1 : decode prog_21_method_24_code 1 = .ok (.getfield 44, 3) := by decide +kernel
theorem d21_4 : decode prog_21_method_24_code 4 = .ok (.aload_n 1, 1) := by decide +kernel
theorem d21_5 : decode prog_21_method_24_code 5 = .ok (.iload_n 2, 1) := by decide +kernel
theorem d21_6 : decode prog_21_method_24_code 6 = .ok (.iload_n 3, 1) := by decide +kernel
theorem d21_7 : decode prog_21_method_24_code 7 = .ok (.invokevirtual 230, 3) := by decide +kernel
theorem pd_17 : parseMethodDescriptor "([BII)J" = some ⟨[(.array .byte), .int, .int], some .long⟩ := by decide +kernel
theorem d21_10 : decode prog_21_method_24_code 10 = .ok (.l2i, 1) := by decide +kernel
theorem d21_11 : decode prog_21_method_24_code 11 = .ok (.aload_n 0, 1) := by decide +kernel
theorem d21_12 : decode prog_21_method_24_code 12 = .ok (.getfield 41, 3) := by decide +kernel
theorem d21_15 : decode prog_21_method_24_code 15 = .ok (.arraylength, 1) := by decide +kernel
theorem d21_16 : decode prog_21_method_24_code 16 = .ok (.iconst 1, 1) := by decide +kernel
theorem d21_17 : decode prog_21_method_24_code 17 = .ok (.isub, 1) := by decide +kernel
theorem d21_18 : decode prog_21_method_24_code 18 = .ok (.iand, 1) := by decide +kernel
theorem d21_19 : decode prog_21_method_24_code 19 = .ok (.ireturn, 1) := by decide +kernel
theorem pn_HolderTable : plainName "com/example/yusen_ledger/yusenledger/HolderTable" = true := by first | (simp [plainName, overriddenIn]; done) | decide +kernel
theorem ef_rmHome (m : MethodId) (x0 : Nat) (x1 : Nat) (x2 : Int32) (x3 : Int32)  : entryFrame m #[(.ref x0), (.ref x1), (.int x2), (.int x3)] 4 = mkF m 0 #[.val (.ref x0), .val (.ref x1), .val (.int x2), .val (.int x3)] [] := by first | (simp [entryFrame, mkF, argsToLocals, Value.category, maxLocals]; done) | rfl
def Q_rmHome (Z : State) (t sl ha d k : Nat) (fs g : Nat → Int32) (h0 : Heap) (n0 : Nat) (vv : Option Value) (h : Heap) (L : List Loc) : Prop := ∃ z : Int32, vv = some (.int z) ∧ Fr n0 L ∧ h = h0 ∧ (0 ≤ z.toInt ∧ z.toInt < (16 : Nat))
set_option maxRecDepth 65536 in
set_option maxHeartbeats 40000000 in
theorem rmHome (l : Launch) (Z : State) (a0 : Array Value) (hw : ∀ d ∈ tables_1, d.before a0 Z = true) (ws : List Jvm.Cond) (t sl ha d k : Nat) (fs g : Nat → Int32) (h0 : Heap) (n0 : Nat) (Z0 : n0 ≤ h0.size) (O0 : Old Z n0 h0) (EH : Exa Z Z.heap ha "com/example/yusen_ledger/yusenledger/SipHash") (FK0 : Fld Z Z.heap ha "com/example/yusen_ledger/yusenledger/SipHash" "key0" "J" (.long 0)) (FK1 : Fld Z Z.heap ha "com/example/yusen_ledger/yusenledger/SipHash" "key1" "J" (.long 0)) (t0 : Exa Z h0 t "com/example/yusen_ledger/yusenledger/HolderTable") (t4 : Fld Z h0 t "com/example/yusen_ledger/yusenledger/HolderTable" "slots" "[I" (.ref sl)) (t5 : Fld Z h0 t "com/example/yusen_ledger/yusenledger/HolderTable" "hash" "Lcom/example/yusen_ledger/yusenledger/SipHash;" (.ref ha)) (PS : oAI Z h0 sl .int 16 fs) (PD : oAI Z h0 d .byte k g) (hk : 1 ≤ k ∧ k ≤ 4) :
    MetFree l (⟨"com/example/yusen_ledger/yusenledger/HolderTable", "home", "([BII)I"⟩ : MethodName) (head1 (Jvm.Cond.code (⟨"com/example/yusen_ledger/yusenledger/HolderTable", "home", "([BII)I"⟩ : MethodName) prog_21_method_24_code 4 (some .int) :: ws) ({ frames := 2, cells := 0, slots := 0, locals := 46 } : Room)) (fun aA uU => aA = #[(.ref t), (.ref d), (.int (0 : Int32)), (.int (Int32.ofNat k))] ∧ Z.Warmed39 uU.vm ∧ uU.heap = h0) (fun _ _ _ _ _ => True) (fun _ uU oO uU' => ∃ vV lL, oO = .returned vV ∧ Q_rmHome Z t sl ha d k fs g h0 n0 vV uU'.heap lL ∧ FrameEnd uU oO uU' lL ({ frames := 2, cells := 0, slots := 0, locals := 46 } : Room).cells ({ frames := 2, cells := 0, slots := 0, locals := 46 } : Room).slots) := by
  refine MetFree.of_bodySF (plainFor_of_name pn_HolderTable) hisR ?_
  intro p e s m args below meth c s₁ Bd hml0 hP hK
  obtain ⟨rfl, hZ, hh⟩ := hP
  have hx := Bd.exec
  have hby := Bd.bytes
  have hml : c.maxLocals = 4 := hml0
  have hown : s.vm.findClass "com/example/yusen_ledger/yusenledger/HolderTable" = some m.cls := findClass_of_methodNamed Bd.named
  have hnm := (name_of_methodNamed Bd.named Bd.method).1
  have X0 : Stand p l e ({ frames := 2, cells := 0, slots := 0, locals := 46 } : Room) s m #[(.ref t), (.ref d), (.int (0 : Int32)), (.int (Int32.ofNat k))] below meth c s₁ [] 0 0 := Stand.of_body Bd
  have e0 : s₁.heap = h0 := by rw [← hh, Bd.state]; rfl
  have N0 := Fr.nil n0
  refine oEnter (oCast (ef_rmHome m t d (0 : Int32) (Int32.ofNat k) ) ?_)
  show oGl p e below (s₁.setTop (mkF m 0 #[.val (.ref t), .val (.ref d), .val (.int (0 : Int32)), .val (.int (Int32.ofNat k))] [])) _
  refine saloadN X0 hx (hb hby d21_0) rfl rfl rfl (pc' := 1) ?_
  obtain ⟨T1, X1, e1, st1⟩ := getF X0 hx hZ hown (host := "") (Or.inl (hw _ (List.mem_of_getElem? (i := 81) rfl))) Via.refl e0 t5 (g := (mkF m 1 #[.val (.ref t), .val (.ref d), .val (.int (0 : Int32)), .val (.int (Int32.ofNat k))] [(.ref t)])) rfl rfl (hb hby d21_1)
  refine oOn st1 ?_
  show oGl p e below (T1.setTop (mkF m 4 #[.val (.ref t), .val (.ref d), .val (.int (0 : Int32)), .val (.int (Int32.ofNat k))] [(.ref ha)])) _
  refine saloadN X1 hx (hb hby d21_4) rfl rfl rfl (pc' := 5) ?_
  refine siloadN X1 hx (hb hby d21_5) rfl rfl (pc' := 6) ?_
  refine siloadN X1 hx (hb hby d21_6) rfl rfl (pc' := 7) ?_
  have hz2 : n0 ≤ h0.size := by omega
  obtain ⟨cq2, kq2, q2a, q2b, q2c⟩ := isOf hZ e1 (EH.ext O0.2)
  obtain ⟨_, _, ⟨T2, L2, k2, n2⟩, -, X2, ⟨Lc2, hQ2, l2, y2, z2⟩, st2⟩ := X1.virtualBack hx (y := (⟨"com/example/yusen_ledger/yusenledger/SipHash", "of", "([BII)J"⟩ : MethodName)) (z := (⟨"com/example/yusen_ledger/yusenledger/SipHash", "of", "([BII)J"⟩ : MethodName)) hown (mvT hZ (hw _ (List.mem_of_getElem? (i := 128) rfl))) (mvT hZ (hw _ (List.mem_of_getElem? (i := 129) rfl))) (notFace_of_selects (args := #[]) (mvT hZ (hw _ (List.mem_of_getElem? (i := 131) rfl)))) (mvT hZ (hw _ (List.mem_of_getElem? (i := 131) rfl))) (mvT hZ (hw _ (List.mem_of_getElem? (i := 130) rfl))) (by decide) (backOf (W := 0) (rmSip l Z a0 hw [] ha d k g h0 n0 hz2 O0 FK0 FK1 PD hk) hZ (hw _ (List.mem_of_getElem? (i := 133) rfl)) (hw _ (List.mem_of_getElem? (i := 132) rfl)) (by decide) (by decide)) q2a q2c (g := (mkF m 7 #[.val (.ref t), .val (.ref d), .val (.int (0 : Int32)), .val (.int (Int32.ofNat k))] [(.int (Int32.ofNat k)), (.int (0 : Int32)), (.ref d), (.ref ha)])) rfl (by rw [hml]; rfl) (Steps.refl _) (argsL := [(.ref d), (.int (0 : Int32)), (.int (Int32.ofNat k))]) (rest := []) (lenOf pd_17 rfl) rfl (by show 2 * 0 + _ ≤ _; exact Nat.le_of_eq rfl) (hb hby d21_7) (fun _ _ => ⟨rfl, e1, (by decide : 0 + 0 ≤ _), (by decide : 0 + 0 ≤ _)⟩)
  dsimp only [Pt.U, Pt.locs, Pt.cells, Pt.slots] at X2 l2 y2 z2 st2 hQ2
  subst l2 y2 z2
  obtain ⟨rs2, rfl, N2q, eh2⟩ := hQ2
  have N2 := Fr.app N0 N2q
  refine oSt st2 ?_
  show oGl p e below (T2.setTop (mkF m 10 #[.val (.ref t), .val (.ref d), .val (.int (0 : Int32)), .val (.int (Int32.ofNat k))] [(.long rs2)])) _
  refine sl2i X2 hx (hb hby d21_10) rfl rfl (pc' := 11) ?_
  refine saloadN X2 hx (hb hby d21_11) rfl rfl rfl (pc' := 12) ?_
  obtain ⟨T3, X3, e3, st3⟩ := getF X2 hx hZ hown (host := "") (Or.inl (hw _ (List.mem_of_getElem? (i := 79) rfl))) Via.refl eh2 t4 (g := (mkF m 12 #[.val (.ref t), .val (.ref d), .val (.int (0 : Int32)), .val (.int (Int32.ofNat k))] [(.ref t), (.int ((rs2).toInt32))])) rfl rfl (hb hby d21_12)
  refine oOn st3 ?_
  show oGl p e below (T3.setTop (mkF m 15 #[.val (.ref t), .val (.ref d), .val (.int (0 : Int32)), .val (.int (Int32.ofNat k))] [(.ref sl), (.int ((rs2).toInt32))])) _
  refine oOn (PS.len X3 hx hZ e3 (g := (mkF m 15 #[.val (.ref t), .val (.ref d), .val (.int (0 : Int32)), .val (.int (Int32.ofNat k))] [(.ref sl), (.int ((rs2).toInt32))])) rfl rfl (hb hby d21_15)) ?_
  show oGl p e below (T3.setTop (mkF m 16 #[.val (.ref t), .val (.ref d), .val (.int (0 : Int32)), .val (.int (Int32.ofNat k))] [(.int (16 : Int32)), (.int ((rs2).toInt32))])) _
  refine siconst X3 hx (hb hby d21_16) rfl rfl (z := 1) (pc' := 17) ?_
  refine sisub X3 hx (hb hby d21_17) rfl (by decide) (z := (15 : Int32)) (pc' := 18) ?_
  refine siand X3 hx (hb hby d21_18) rfl rfl (pc' := 19) ?_
  refine oRetI X3 hx Bd.notSynchronized Bd.returns (hb hby d21_19) (by decide) (by decide) ?_
  show Q_rmHome Z t sl ha d k fs g h0 n0 _ T3.heap _
  rw [e3]
  exact ⟨_, rfl, N2, rfl, own_a15 _⟩
theorem d34_0 : decode jdk_65_method_30_code 0 = .ok (.iload_n 1, 1) := by decide +kernel
theorem d34_1 : decode jdk_65_method_30_code 1 = .ok (.iload_n 2, 1) := by decide +kernel
theorem d34_2 : decode jdk_65_method_30_code 2 = .ok (.if_icmp .le 44, 3) := by decide +kernel
theorem d34_46 : decode jdk_65_method_30_code 46 = .ok (.iload_n 1, 1) := by decide +kernel
theorem d34_47 : decode jdk_65_method_30_code 47 = .ok (.ifCond .ge 12, 3) := by decide +kernel
theorem d34_59 : decode jdk_65_method_30_code 59 = .ok (.iload_n 2, 1) := by decide +kernel
theorem d34_60 : decode jdk_65_method_30_code 60 = .ok (.iload_n 0, 1) := by decide +kernel
theorem d34_61 : decode jdk_65_method_30_code 61 = .ok (.if_icmp .le 12, 3) := by decide +kernel
theorem d34_73 : decode jdk_65_method_30_code 73 = .ok (.return_, 1) := by decide +kernel
theorem ef_rmRck (m : MethodId) (x0 : Int32) (x1 : Int32) (x2 : Int32)  : entryFrame m #[(.int x0), (.int x1), (.int x2)] 3 = mkF m 0 #[.val (.int x0), .val (.int x1), .val (.int x2)] [] := by first | (simp [entryFrame, mkF, argsToLocals, Value.category, maxLocals]; done) | rfl
def Q_rmRck (Z : State) (x y : Int32) (h0 : Heap) (n0 : Nat) (vv : Option Value) (h : Heap) (L : List Loc) : Prop := vv = none ∧ Fr n0 L ∧ h = h0
set_option maxRecDepth 65536 in
set_option maxHeartbeats 40000000 in
theorem rmRck (l : Launch) (Z : State) (a0 : Array Value) (hw : ∀ d ∈ tables_1, d.before a0 Z = true) (ws : List Jvm.Cond) (x y : Int32) (h0 : Heap) (n0 : Nat) (Z0 : n0 ≤ h0.size) (h1 : ¬ (y < (0 : Int32))) (h2 : ¬ (x < y)) :
    MetFree l (⟨"java/util/Arrays", "rangeCheck", "(III)V"⟩ : MethodName) (head1 (Jvm.Cond.code (⟨"java/util/Arrays", "rangeCheck", "(III)V"⟩ : MethodName) jdk_65_method_30_code 3 (none : Option FieldType) :: ws) ({ frames := 0, cells := 0, slots := 0, locals := 0 } : Room)) (fun aA uU => aA = #[(.int x), (.int (0 : Int32)), (.int y)] ∧ Z.Warmed39 uU.vm ∧ uU.heap = h0) (fun _ _ _ _ _ => True) (fun _ uU oO uU' => ∃ vV lL, oO = .returned vV ∧ Q_rmRck Z x y h0 n0 vV uU'.heap lL ∧ FrameEnd uU oO uU' lL ({ frames := 0, cells := 0, slots := 0, locals := 0 } : Room).cells ({ frames := 0, cells := 0, slots := 0, locals := 0 } : Room).slots) := by
  refine MetFree.of_bodySF (plainFor_of_name pn_Arrays) hisR ?_
  intro p e s m args below meth c s₁ Bd hml0 hP hK
  obtain ⟨rfl, hZ, hh⟩ := hP
  have hx := Bd.exec
  have hby := Bd.bytes
  have hml : c.maxLocals = 3 := hml0
  have hown : s.vm.findClass "java/util/Arrays" = some m.cls := findClass_of_methodNamed Bd.named
  have hnm := (name_of_methodNamed Bd.named Bd.method).1
  have X0 : Stand p l e ({ frames := 0, cells := 0, slots := 0, locals := 0 } : Room) s m #[(.int x), (.int (0 : Int32)), (.int y)] below meth c s₁ [] 0 0 := Stand.of_body Bd
  have e0 : s₁.heap = h0 := by rw [← hh, Bd.state]; rfl
  have N0 := Fr.nil n0
  refine oEnter (oCast (ef_rmRck m x (0 : Int32) y ) ?_)
  show oGl p e below (s₁.setTop (mkF m 0 #[.val (.int x), .val (.int (0 : Int32)), .val (.int y)] [])) _
  refine siloadN X0 hx (hb hby d34_0) rfl rfl (pc' := 1) ?_
  refine siloadN X0 hx (hb hby d34_1) rfl rfl (pc' := 2) ?_
  refine sicY X0 hx (hb hby d34_2) (by decide) (by decide) (flt (h1 : ¬ (y < (0 : Int32)))).2.2.2 (pc' := 46) ?_
  refine siloadN X0 hx (hb hby d34_46) rfl rfl (pc' := 47) ?_
  refine sifY X0 hx (hb hby d34_47) (by decide) (by decide) (flt (by decide : ¬ ((0 : Int32) < (0 : Int32)))).2.1 (pc' := 59) ?_
  refine siloadN X0 hx (hb hby d34_59) rfl rfl (pc' := 60) ?_
  refine siloadN X0 hx (hb hby d34_60) rfl rfl (pc' := 61) ?_
  refine sicY X0 hx (hb hby d34_61) (by decide) (by decide) (flt (h2 : ¬ (x < y))).2.2.2 (pc' := 73) ?_
  refine oRet0 X0 hx Bd.notSynchronized Bd.returns (hb hby d34_73) (by decide) (by decide) ?_
  show Q_rmRck Z x y h0 n0 _ s₁.heap _
  rw [e0]
  exact ⟨rfl, N0, rfl⟩
theorem own_le128 {m : Nat} (h : m ≤ 128) : ¬ ((128 : Int32) < Int32.ofNat m) := by
  rw [Int32.lt_iff_toInt_lt, own_ofNat (by omega)]
  have e : (128 : Int32).toInt = 128 := by decide
  omega
theorem own_irr (x : Int32) : ¬ (x < x) := by rw [Int32.lt_iff_toInt_lt]; omega
theorem own_neq {m k : Nat} (h : m < k) (h2 : k ≤ 100) : ¬ (Int32.ofNat m - (0 : Int32) = Int32.ofNat k - (0 : Int32)) := fun e => by
  rw [Int32.sub_zero, Int32.sub_zero] at e
  have e1 : (Int32.ofNat m).toInt = (Int32.ofNat k).toInt := by rw [e]
  rw [own_ofNat (by omega), own_ofNat (by omega)] at e1
  omega
theorem own_up1 {i j : Nat} (h : ¬ (oUp (fun _ => (0 : Int32)) i 1 j = (0 : Int32))) : j = i := by
  by_cases q : j = i
  · exact q
  · exact absurd (oUp_miss q) h

theorem d33_0 : decode jdk_65_method_90_code 0 = .ok (.aload_n 0, 1) := by decide +kernel
theorem d33_1 : decode jdk_65_method_90_code 1 = .ok (.arraylength, 1) := by decide +kernel
theorem d33_2 : decode jdk_65_method_90_code 2 = .ok (.iload_n 1, 1) := by decide +kernel
theorem d33_3 : decode jdk_65_method_90_code 3 = .ok (.iload_n 2, 1) := by decide +kernel
theorem d33_4 : decode jdk_65_method_90_code 4 = .ok (.invokestatic 13, 3) := by decide +kernel
theorem pd_18 : parseMethodDescriptor "(III)V" = some ⟨[.int, .int, .int], none⟩ := by decide +kernel
theorem d33_7 : decode jdk_65_method_90_code 7 = .ok (.aload_n 3, 1) := by decide +kernel
theorem d33_8 : decode jdk_65_method_90_code 8 = .ok (.arraylength, 1) := by decide +kernel
theorem d33_9 : decode jdk_65_method_90_code 9 = .ok (.iload 4, 2) := by decide +kernel
theorem d33_11 : decode jdk_65_method_90_code 11 = .ok (.iload 5, 2) := by decide +kernel
theorem d33_13 : decode jdk_65_method_90_code 13 = .ok (.invokestatic 13, 3) := by decide +kernel
theorem d33_16 : decode jdk_65_method_90_code 16 = .ok (.iload_n 2, 1) := by decide +kernel
theorem d33_17 : decode jdk_65_method_90_code 17 = .ok (.iload_n 1, 1) := by decide +kernel
theorem d33_18 : decode jdk_65_method_90_code 18 = .ok (.isub, 1) := by decide +kernel
theorem d33_19 : decode jdk_65_method_90_code 19 = .ok (.istore 6, 2) := by decide +kernel
theorem d33_21 : decode jdk_65_method_90_code 21 = .ok (.iload 5, 2) := by decide +kernel
theorem d33_23 : decode jdk_65_method_90_code 23 = .ok (.iload 4, 2) := by decide +kernel
theorem d33_25 : decode jdk_65_method_90_code 25 = .ok (.isub, 1) := by decide +kernel
theorem d33_26 : decode jdk_65_method_90_code 26 = .ok (.istore 7, 2) := by decide +kernel
theorem d33_28 : decode jdk_65_method_90_code 28 = .ok (.iload 6, 2) := by decide +kernel
theorem d33_30 : decode jdk_65_method_90_code 30 = .ok (.iload 7, 2) := by decide +kernel
theorem d33_32 : decode jdk_65_method_90_code 32 = .ok (.if_icmp .eq 5, 3) := by decide +kernel
theorem d33_35 : decode jdk_65_method_90_code 35 = .ok (.iconst 0, 1) := by decide +kernel
theorem d33_36 : decode jdk_65_method_90_code 36 = .ok (.ireturn, 1) := by decide +kernel
theorem ef_rmAeq (m : MethodId) (x0 : Nat) (x1 : Int32) (x2 : Int32) (x3 : Nat) (x4 : Int32) (x5 : Int32)  : entryFrame m #[(.ref x0), (.int x1), (.int x2), (.ref x3), (.int x4), (.int x5)] 8 = mkF m 0 #[.val (.ref x0), .val (.int x1), .val (.int x2), .val (.ref x3), .val (.int x4), .val (.int x5), .unset, .unset] [] := by first | (simp [entryFrame, mkF, argsToLocals, Value.category, maxLocals]; done) | rfl
def Q_rmAeq (Z : State) (tx d mm k : Nat) (ft g : Nat → Int32) (h0 : Heap) (n0 : Nat) (vv : Option Value) (h : Heap) (L : List Loc) : Prop := vv = some (.int 0) ∧ Fr n0 L ∧ h = h0
set_option maxRecDepth 65536 in
set_option maxHeartbeats 40000000 in
theorem rmAeq (l : Launch) (Z : State) (a0 : Array Value) (hw : ∀ d ∈ tables_1, d.before a0 Z = true) (ws : List Jvm.Cond) (tx d mm k : Nat) (ft g : Nat → Int32) (h0 : Heap) (n0 : Nat) (Z0 : n0 ≤ h0.size) (PT : oAI Z h0 tx .byte 128 ft) (PD : oAI Z h0 d .byte k g) (hm : mm < k) (hk : k ≤ 4) :
    MetFree l (⟨"java/util/Arrays", "equals", "([BII[BII)Z"⟩ : MethodName) (head1 (Jvm.Cond.code (⟨"java/util/Arrays", "equals", "([BII[BII)Z"⟩ : MethodName) jdk_65_method_90_code 8 (some .boolean) :: ws) ({ frames := 1, cells := 0, slots := 0, locals := 14 } : Room)) (fun aA uU => aA = #[(.ref tx), (.int (0 : Int32)), (.int (Int32.ofNat mm)), (.ref d), (.int (0 : Int32)), (.int (Int32.ofNat k))] ∧ Z.Warmed39 uU.vm ∧ uU.heap = h0) (fun _ _ _ _ _ => True) (fun _ uU oO uU' => ∃ vV lL, oO = .returned vV ∧ Q_rmAeq Z tx d mm k ft g h0 n0 vV uU'.heap lL ∧ FrameEnd uU oO uU' lL ({ frames := 1, cells := 0, slots := 0, locals := 14 } : Room).cells ({ frames := 1, cells := 0, slots := 0, locals := 14 } : Room).slots) := by
  refine MetFree.of_bodySF (plainFor_of_name pn_Arrays) hisR ?_
  intro p e s m args below meth c s₁ Bd hml0 hP hK
  obtain ⟨rfl, hZ, hh⟩ := hP
  have hx := Bd.exec
  have hby := Bd.bytes
  have hml : c.maxLocals = 8 := hml0
  have hown : s.vm.findClass "java/util/Arrays" = some m.cls := findClass_of_methodNamed Bd.named
  have hnm := (name_of_methodNamed Bd.named Bd.method).1
  have X0 : Stand p l e ({ frames := 1, cells := 0, slots := 0, locals := 14 } : Room) s m #[(.ref tx), (.int (0 : Int32)), (.int (Int32.ofNat mm)), (.ref d), (.int (0 : Int32)), (.int (Int32.ofNat k))] below meth c s₁ [] 0 0 := Stand.of_body Bd
  have e0 : s₁.heap = h0 := by rw [← hh, Bd.state]; rfl
  have N0 := Fr.nil n0
  refine oEnter (oCast (ef_rmAeq m tx (0 : Int32) (Int32.ofNat mm) d (0 : Int32) (Int32.ofNat k) ) ?_)
  show oGl p e below (s₁.setTop (mkF m 0 #[.val (.ref tx), .val (.int (0 : Int32)), .val (.int (Int32.ofNat mm)), .val (.ref d), .val (.int (0 : Int32)), .val (.int (Int32.ofNat k)), .unset, .unset] [])) _
  refine saloadN X0 hx (hb hby d33_0) rfl rfl rfl (pc' := 1) ?_
  refine oOn (PT.len X0 hx hZ e0 (g := (mkF m 1 #[.val (.ref tx), .val (.int (0 : Int32)), .val (.int (Int32.ofNat mm)), .val (.ref d), .val (.int (0 : Int32)), .val (.int (Int32.ofNat k)), .unset, .unset] [(.ref tx)])) rfl rfl (hb hby d33_1)) ?_
  show oGl p e below (s₁.setTop (mkF m 2 #[.val (.ref tx), .val (.int (0 : Int32)), .val (.int (Int32.ofNat mm)), .val (.ref d), .val (.int (0 : Int32)), .val (.int (Int32.ofNat k)), .unset, .unset] [(.int (128 : Int32))])) _
  refine siloadN X0 hx (hb hby d33_2) rfl rfl (pc' := 3) ?_
  refine siloadN X0 hx (hb hby d33_3) rfl rfl (pc' := 4) ?_
  have hz1 : n0 ≤ h0.size := by omega
  obtain ⟨_, _, ⟨T1, L1, k1, n1⟩, -, X1, ⟨Lc1, hQ1, l1, y1, z1⟩, st1⟩ := Jvm.LawKit.callS X0 hx (y := (⟨"java/util/Arrays", "rangeCheck", "(III)V"⟩ : MethodName)) hown (mvT hZ (hw _ (List.mem_of_getElem? (i := 211) rfl))) (mvT hZ (hw _ (List.mem_of_getElem? (i := 212) rfl))) (mvT hZ (hw _ (List.mem_of_getElem? (i := 194) rfl))) (mvT hZ (hw _ (List.mem_of_getElem? (i := 213) rfl))) (by decide) (backOf (W := 0) (rmRck l Z a0 hw [] (128 : Int32) (Int32.ofNat mm) h0 n0 hz1 (own_nn (by omega)) (own_le128 (by omega))) hZ (hw _ (List.mem_of_getElem? (i := 213) rfl)) (hw _ (List.mem_of_getElem? (i := 194) rfl)) (by decide) (by decide)) (g := (mkF m 4 #[.val (.ref tx), .val (.int (0 : Int32)), .val (.int (Int32.ofNat mm)), .val (.ref d), .val (.int (0 : Int32)), .val (.int (Int32.ofNat k)), .unset, .unset] [(.int (Int32.ofNat mm)), (.int (0 : Int32)), (.int (128 : Int32))])) rfl (by rw [hml]; rfl) (argsL := [(.int (128 : Int32)), (.int (0 : Int32)), (.int (Int32.ofNat mm))]) (rest := []) (lenOf pd_18 rfl) rfl (by show 2 * 0 + _ ≤ _; exact Nat.le_of_eq rfl) (hb hby d33_4) (fun _ _ => ⟨rfl, e0, (by decide : 0 + 0 ≤ _), (by decide : 0 + 0 ≤ _)⟩)
  dsimp only [Pt.U, Pt.locs, Pt.cells, Pt.slots] at X1 l1 y1 z1 st1 hQ1
  subst l1 y1 z1
  obtain ⟨rfl, N1q, eh1⟩ := hQ1
  have N1 := Fr.app N0 N1q
  refine oOn st1 ?_
  show oGl p e below (T1.setTop (mkF m 7 #[.val (.ref tx), .val (.int (0 : Int32)), .val (.int (Int32.ofNat mm)), .val (.ref d), .val (.int (0 : Int32)), .val (.int (Int32.ofNat k)), .unset, .unset] [])) _
  refine saloadN X1 hx (hb hby d33_7) rfl rfl rfl (pc' := 8) ?_
  refine oOn (PD.len X1 hx hZ eh1 (g := (mkF m 8 #[.val (.ref tx), .val (.int (0 : Int32)), .val (.int (Int32.ofNat mm)), .val (.ref d), .val (.int (0 : Int32)), .val (.int (Int32.ofNat k)), .unset, .unset] [(.ref d)])) rfl rfl (hb hby d33_8)) ?_
  show oGl p e below (T1.setTop (mkF m 9 #[.val (.ref tx), .val (.int (0 : Int32)), .val (.int (Int32.ofNat mm)), .val (.ref d), .val (.int (0 : Int32)), .val (.int (Int32.ofNat k)), .unset, .unset] [(.int (Int32.ofNat k))])) _
  refine siload X1 hx (hb hby d33_9) rfl rfl (pc' := 11) ?_
  refine siload X1 hx (hb hby d33_11) rfl rfl (pc' := 13) ?_
  have hz2 : n0 ≤ h0.size := by omega
  obtain ⟨_, _, ⟨T2, L2, k2, n2⟩, -, X2, ⟨Lc2, hQ2, l2, y2, z2⟩, st2⟩ := Jvm.LawKit.callS X1 hx (y := (⟨"java/util/Arrays", "rangeCheck", "(III)V"⟩ : MethodName)) hown (mvT hZ (hw _ (List.mem_of_getElem? (i := 211) rfl))) (mvT hZ (hw _ (List.mem_of_getElem? (i := 212) rfl))) (mvT hZ (hw _ (List.mem_of_getElem? (i := 194) rfl))) (mvT hZ (hw _ (List.mem_of_getElem? (i := 213) rfl))) (by decide) (backOf (W := 0) (rmRck l Z a0 hw [] (Int32.ofNat k) (Int32.ofNat k) h0 n0 hz2 (own_nn (by omega)) (own_irr _)) hZ (hw _ (List.mem_of_getElem? (i := 213) rfl)) (hw _ (List.mem_of_getElem? (i := 194) rfl)) (by decide) (by decide)) (g := (mkF m 13 #[.val (.ref tx), .val (.int (0 : Int32)), .val (.int (Int32.ofNat mm)), .val (.ref d), .val (.int (0 : Int32)), .val (.int (Int32.ofNat k)), .unset, .unset] [(.int (Int32.ofNat k)), (.int (0 : Int32)), (.int (Int32.ofNat k))])) rfl (by rw [hml]; rfl) (argsL := [(.int (Int32.ofNat k)), (.int (0 : Int32)), (.int (Int32.ofNat k))]) (rest := []) (lenOf pd_18 rfl) rfl (by show 2 * 0 + _ ≤ _; exact Nat.le_of_eq rfl) (hb hby d33_13) (fun _ _ => ⟨rfl, eh1, (by decide : 0 + 0 ≤ _), (by decide : 0 + 0 ≤ _)⟩)
  dsimp only [Pt.U, Pt.locs, Pt.cells, Pt.slots] at X2 l2 y2 z2 st2 hQ2
  subst l2 y2 z2
  obtain ⟨rfl, N2q, eh2⟩ := hQ2
  have N2 := Fr.app N1 N2q
  refine oOn st2 ?_
  show oGl p e below (T2.setTop (mkF m 16 #[.val (.ref tx), .val (.int (0 : Int32)), .val (.int (Int32.ofNat mm)), .val (.ref d), .val (.int (0 : Int32)), .val (.int (Int32.ofNat k)), .unset, .unset] [])) _
  refine siloadN X2 hx (hb hby d33_16) rfl rfl (pc' := 17) ?_
  refine siloadN X2 hx (hb hby d33_17) rfl rfl (pc' := 18) ?_
  refine sisub X2 hx (hb hby d33_18) rfl rfl (pc' := 19) ?_
  refine sistore X2 hx (hb hby d33_19) rfl rfl (l' := #[.val (.ref tx), .val (.int (0 : Int32)), .val (.int (Int32.ofNat mm)), .val (.ref d), .val (.int (0 : Int32)), .val (.int (Int32.ofNat k)), .val (.int ((Int32.ofNat mm) - (0 : Int32))), .unset]) (pc' := 21) ?_
  refine siload X2 hx (hb hby d33_21) rfl rfl (pc' := 23) ?_
  refine siload X2 hx (hb hby d33_23) rfl rfl (pc' := 25) ?_
  refine sisub X2 hx (hb hby d33_25) rfl rfl (pc' := 26) ?_
  refine sistore X2 hx (hb hby d33_26) rfl rfl (l' := #[.val (.ref tx), .val (.int (0 : Int32)), .val (.int (Int32.ofNat mm)), .val (.ref d), .val (.int (0 : Int32)), .val (.int (Int32.ofNat k)), .val (.int ((Int32.ofNat mm) - (0 : Int32))), .val (.int ((Int32.ofNat k) - (0 : Int32)))]) (pc' := 28) ?_
  refine siload X2 hx (hb hby d33_28) rfl rfl (pc' := 30) ?_
  refine siload X2 hx (hb hby d33_30) rfl rfl (pc' := 32) ?_
  refine sicN X2 hx (hb hby d33_32) rfl (feq (own_neq hm (by omega) : ¬ (((Int32.ofNat mm) - (0 : Int32)) = ((Int32.ofNat k) - (0 : Int32))))).1 (pc' := 35) ?_
  refine siconst X2 hx (hb hby d33_35) rfl rfl (z := 0) (pc' := 36) ?_
  refine oRetN (t := .boolean) X2 hx Bd.notSynchronized Bd.returns (by simp) (hb hby d33_36) (by decide) (by decide) ?_
  show Q_rmAeq Z tx d mm k ft g h0 n0 _ T2.heap _
  rw [eh2]
  exact ⟨rfl, N2, rfl⟩
theorem d32_0 : decode prog_21_method_20_code 0 = .ok (.aload_n 0, 1) := by decide +kernel
theorem d32_1 : decode prog_21_method_20_code 1 = .ok (.getfield 26, 3) := by decide +kernel
theorem d32_4 : decode prog_21_method_20_code 4 = .ok (.aload_n 0, 1) := by decide +kernel
theorem d32_5 : decode prog_21_method_20_code 5 = .ok (.getfield 30, 3) := by decide +kernel
theorem d32_8 : decode prog_21_method_20_code 8 = .ok (.iconst 2, 1) := by decide +kernel
theorem d32_9 : decode prog_21_method_20_code 9 = .ok (.iload_n 1, 1) := by decide +kernel
theorem d32_10 : decode prog_21_method_20_code 10 = .ok (.imul, 1) := by decide +kernel
theorem d32_11 : decode prog_21_method_20_code 11 = .ok (.iaload, 1) := by decide +kernel
theorem d32_12 : decode prog_21_method_20_code 12 = .ok (.aload_n 0, 1) := by decide +kernel
theorem d32_13 : decode prog_21_method_20_code 13 = .ok (.getfield 30, 3) := by decide +kernel
theorem d32_16 : decode prog_21_method_20_code 16 = .ok (.iconst 2, 1) := by decide +kernel
theorem d32_17 : decode prog_21_method_20_code 17 = .ok (.iload_n 1, 1) := by decide +kernel
theorem d32_18 : decode prog_21_method_20_code 18 = .ok (.imul, 1) := by decide +kernel
theorem d32_19 : decode prog_21_method_20_code 19 = .ok (.iconst 1, 1) := by decide +kernel
theorem d32_20 : decode prog_21_method_20_code 20 = .ok (.iadd, 1) := by decide +kernel
theorem d32_21 : decode prog_21_method_20_code 21 = .ok (.iaload, 1) := by decide +kernel
theorem d32_22 : decode prog_21_method_20_code 22 = .ok (.aload_n 2, 1) := by decide +kernel
theorem d32_23 : decode prog_21_method_20_code 23 = .ok (.iconst 0, 1) := by decide +kernel
theorem d32_24 : decode prog_21_method_20_code 24 = .ok (.aload_n 2, 1) := by decide +kernel
theorem d32_25 : decode prog_21_method_20_code 25 = .ok (.arraylength, 1) := by decide +kernel
theorem d32_26 : decode prog_21_method_20_code 26 = .ok (.invokestatic 219, 3) := by decide +kernel
theorem pd_19 : parseMethodDescriptor "([BII[BII)Z" = some ⟨[(.array .byte), .int, .int, (.array .byte), .int, .int], some .boolean⟩ := by decide +kernel
theorem d32_29 : decode prog_21_method_20_code 29 = .ok (.ireturn, 1) := by decide +kernel
theorem ef_rmHas (m : MethodId) (x0 : Nat) (x1 : Int32) (x2 : Nat)  : entryFrame m #[(.ref x0), (.int x1), (.ref x2)] 3 = mkF m 0 #[.val (.ref x0), .val (.int x1), .val (.ref x2)] [] := by first | (simp [entryFrame, mkF, argsToLocals, Value.category, maxLocals]; done) | rfl
def Q_rmHas (Z : State) (t tx bo d mm k : Nat) (ft fb g : Nat → Int32) (h0 : Heap) (n0 : Nat) (vv : Option Value) (h : Heap) (L : List Loc) : Prop := vv = some (.int 0) ∧ Fr n0 L ∧ h = h0
set_option maxRecDepth 65536 in
set_option maxHeartbeats 40000000 in
theorem rmHas (l : Launch) (Z : State) (a0 : Array Value) (hw : ∀ d ∈ tables_1, d.before a0 Z = true) (ws : List Jvm.Cond) (t tx bo d mm k : Nat) (ft fb g : Nat → Int32) (h0 : Heap) (n0 : Nat) (Z0 : n0 ≤ h0.size) (t1 : Fld Z h0 t "com/example/yusen_ledger/yusenledger/HolderTable" "text" "[B" (.ref tx)) (t2 : Fld Z h0 t "com/example/yusen_ledger/yusenledger/HolderTable" "bounds" "[I" (.ref bo)) (PT : oAI Z h0 tx .byte 128 ft) (PO : oAI Z h0 bo .int 17 fb) (PD : oAI Z h0 d .byte k g) (hm : mm < k) (hk : k ≤ 4) (hb0 : fb 0 = (0 : Int32)) (hb1 : fb 1 = (Int32.ofNat mm)) :
    MetFree l (⟨"com/example/yusen_ledger/yusenledger/HolderTable", "hasId", "(I[B)Z"⟩ : MethodName) (head1 (Jvm.Cond.code (⟨"com/example/yusen_ledger/yusenledger/HolderTable", "hasId", "(I[B)Z"⟩ : MethodName) prog_21_method_20_code 3 (some .boolean) :: ws) ({ frames := 2, cells := 0, slots := 0, locals := 33 } : Room)) (fun aA uU => aA = #[(.ref t), (.int (0 : Int32)), (.ref d)] ∧ Z.Warmed39 uU.vm ∧ uU.heap = h0) (fun _ _ _ _ _ => True) (fun _ uU oO uU' => ∃ vV lL, oO = .returned vV ∧ Q_rmHas Z t tx bo d mm k ft fb g h0 n0 vV uU'.heap lL ∧ FrameEnd uU oO uU' lL ({ frames := 2, cells := 0, slots := 0, locals := 33 } : Room).cells ({ frames := 2, cells := 0, slots := 0, locals := 33 } : Room).slots) := by
  refine MetFree.of_bodySF (plainFor_of_name pn_HolderTable) hisR ?_
  intro p e s m args below meth c s₁ Bd hml0 hP hK
  obtain ⟨rfl, hZ, hh⟩ := hP
  have hx := Bd.exec
  have hby := Bd.bytes
  have hml : c.maxLocals = 3 := hml0
  have hown : s.vm.findClass "com/example/yusen_ledger/yusenledger/HolderTable" = some m.cls := findClass_of_methodNamed Bd.named
  have hnm := (name_of_methodNamed Bd.named Bd.method).1
  have X0 : Stand p l e ({ frames := 2, cells := 0, slots := 0, locals := 33 } : Room) s m #[(.ref t), (.int (0 : Int32)), (.ref d)] below meth c s₁ [] 0 0 := Stand.of_body Bd
  have e0 : s₁.heap = h0 := by rw [← hh, Bd.state]; rfl
  have N0 := Fr.nil n0
  refine oEnter (oCast (ef_rmHas m t (0 : Int32) d ) ?_)
  show oGl p e below (s₁.setTop (mkF m 0 #[.val (.ref t), .val (.int (0 : Int32)), .val (.ref d)] [])) _
  refine saloadN X0 hx (hb hby d32_0) rfl rfl rfl (pc' := 1) ?_
  obtain ⟨T1, X1, e1, st1⟩ := getF X0 hx hZ hown (host := "") (Or.inl (hw _ (List.mem_of_getElem? (i := 71) rfl))) Via.refl e0 t1 (g := (mkF m 1 #[.val (.ref t), .val (.int (0 : Int32)), .val (.ref d)] [(.ref t)])) rfl rfl (hb hby d32_1)
  refine oOn st1 ?_
  show oGl p e below (T1.setTop (mkF m 4 #[.val (.ref t), .val (.int (0 : Int32)), .val (.ref d)] [(.ref tx)])) _
  refine saloadN X1 hx (hb hby d32_4) rfl rfl rfl (pc' := 5) ?_
  obtain ⟨T2, X2, e2, st2⟩ := getF X1 hx hZ hown (host := "") (Or.inl (hw _ (List.mem_of_getElem? (i := 73) rfl))) Via.refl e1 t2 (g := (mkF m 5 #[.val (.ref t), .val (.int (0 : Int32)), .val (.ref d)] [(.ref t), (.ref tx)])) rfl rfl (hb hby d32_5)
  refine oOn st2 ?_
  show oGl p e below (T2.setTop (mkF m 8 #[.val (.ref t), .val (.int (0 : Int32)), .val (.ref d)] [(.ref bo), (.ref tx)])) _
  refine siconst X2 hx (hb hby d32_8) rfl rfl (z := 2) (pc' := 9) ?_
  refine siloadN X2 hx (hb hby d32_9) rfl rfl (pc' := 10) ?_
  refine simul X2 hx (hb hby d32_10) rfl (by decide) (z := (0 : Int32)) (pc' := 11) ?_
  refine oOn (PO.ldI X2 hx hZ e2 (j := (0 : Int32)) (by decide) (g := (mkF m 11 #[.val (.ref t), .val (.int (0 : Int32)), .val (.ref d)] [(.int (0 : Int32)), (.ref bo), (.ref tx)])) rfl rfl (hb hby d32_11)) ?_
  show oGl p e below (T2.setTop (mkF m 12 #[.val (.ref t), .val (.int (0 : Int32)), .val (.ref d)] [(.int (fb 0)), (.ref tx)])) _
  rw [hb0]
  show oGl p e below (T2.setTop (mkF m 12 #[.val (.ref t), .val (.int (0 : Int32)), .val (.ref d)] [(.int (0 : Int32)), (.ref tx)])) _
  refine saloadN X2 hx (hb hby d32_12) rfl rfl rfl (pc' := 13) ?_
  obtain ⟨T3, X3, e3, st3⟩ := getF X2 hx hZ hown (host := "") (Or.inl (hw _ (List.mem_of_getElem? (i := 73) rfl))) Via.refl e2 t2 (g := (mkF m 13 #[.val (.ref t), .val (.int (0 : Int32)), .val (.ref d)] [(.ref t), (.int (0 : Int32)), (.ref tx)])) rfl rfl (hb hby d32_13)
  refine oOn st3 ?_
  show oGl p e below (T3.setTop (mkF m 16 #[.val (.ref t), .val (.int (0 : Int32)), .val (.ref d)] [(.ref bo), (.int (0 : Int32)), (.ref tx)])) _
  refine siconst X3 hx (hb hby d32_16) rfl rfl (z := 2) (pc' := 17) ?_
  refine siloadN X3 hx (hb hby d32_17) rfl rfl (pc' := 18) ?_
  refine simul X3 hx (hb hby d32_18) rfl (by decide) (z := (0 : Int32)) (pc' := 19) ?_
  refine siconst X3 hx (hb hby d32_19) rfl rfl (z := 1) (pc' := 20) ?_
  refine siadd X3 hx (hb hby d32_20) rfl (by decide) (z := (1 : Int32)) (pc' := 21) ?_
  refine oOn (PO.ldI X3 hx hZ e3 (j := (1 : Int32)) (by decide) (g := (mkF m 21 #[.val (.ref t), .val (.int (0 : Int32)), .val (.ref d)] [(.int (1 : Int32)), (.ref bo), (.int (0 : Int32)), (.ref tx)])) rfl rfl (hb hby d32_21)) ?_
  show oGl p e below (T3.setTop (mkF m 22 #[.val (.ref t), .val (.int (0 : Int32)), .val (.ref d)] [(.int (fb 1)), (.int (0 : Int32)), (.ref tx)])) _
  rw [hb1]
  show oGl p e below (T3.setTop (mkF m 22 #[.val (.ref t), .val (.int (0 : Int32)), .val (.ref d)] [(.int (Int32.ofNat mm)), (.int (0 : Int32)), (.ref tx)])) _
  refine saloadN X3 hx (hb hby d32_22) rfl rfl rfl (pc' := 23) ?_
  refine siconst X3 hx (hb hby d32_23) rfl rfl (z := 0) (pc' := 24) ?_
  refine saloadN X3 hx (hb hby d32_24) rfl rfl rfl (pc' := 25) ?_
  refine oOn (PD.len X3 hx hZ e3 (g := (mkF m 25 #[.val (.ref t), .val (.int (0 : Int32)), .val (.ref d)] [(.ref d), (.int (0 : Int32)), (.ref d), (.int (Int32.ofNat mm)), (.int (0 : Int32)), (.ref tx)])) rfl rfl (hb hby d32_25)) ?_
  show oGl p e below (T3.setTop (mkF m 26 #[.val (.ref t), .val (.int (0 : Int32)), .val (.ref d)] [(.int (Int32.ofNat k)), (.int (0 : Int32)), (.ref d), (.int (Int32.ofNat mm)), (.int (0 : Int32)), (.ref tx)])) _
  have hz4 : n0 ≤ h0.size := by omega
  obtain ⟨_, _, ⟨T4, L4, k4, n4⟩, -, X4, ⟨Lc4, hQ4, l4, y4, z4⟩, st4⟩ := Jvm.LawKit.callS X3 hx (y := (⟨"java/util/Arrays", "equals", "([BII[BII)Z"⟩ : MethodName)) hown (mvT hZ (hw _ (List.mem_of_getElem? (i := 208) rfl))) (mvT hZ (hw _ (List.mem_of_getElem? (i := 209) rfl))) (mvT hZ (hw _ (List.mem_of_getElem? (i := 194) rfl))) (mvT hZ (hw _ (List.mem_of_getElem? (i := 210) rfl))) (by decide) (backOf (W := 0) (rmAeq l Z a0 hw [] tx d mm k ft g h0 n0 hz4 PT PD hm hk) hZ (hw _ (List.mem_of_getElem? (i := 210) rfl)) (hw _ (List.mem_of_getElem? (i := 194) rfl)) (by decide) (by decide)) (g := (mkF m 26 #[.val (.ref t), .val (.int (0 : Int32)), .val (.ref d)] [(.int (Int32.ofNat k)), (.int (0 : Int32)), (.ref d), (.int (Int32.ofNat mm)), (.int (0 : Int32)), (.ref tx)])) rfl (by rw [hml]; rfl) (argsL := [(.ref tx), (.int (0 : Int32)), (.int (Int32.ofNat mm)), (.ref d), (.int (0 : Int32)), (.int (Int32.ofNat k))]) (rest := []) (lenOf pd_19 rfl) rfl (by show 2 * 0 + _ ≤ _; exact Nat.le_of_eq rfl) (hb hby d32_26) (fun _ _ => ⟨rfl, e3, (by decide : 0 + 0 ≤ _), (by decide : 0 + 0 ≤ _)⟩)
  dsimp only [Pt.U, Pt.locs, Pt.cells, Pt.slots] at X4 l4 y4 z4 st4 hQ4
  subst l4 y4 z4
  obtain ⟨rfl, N4q, eh4⟩ := hQ4
  have N4 := Fr.app N0 N4q
  refine oOn st4 ?_
  show oGl p e below (T4.setTop (mkF m 29 #[.val (.ref t), .val (.int (0 : Int32)), .val (.ref d)] [(.int (0 : Int32))])) _
  refine oRetN (t := .boolean) X4 hx Bd.notSynchronized Bd.returns (by simp) (hb hby d32_29) (by decide) (by decide) ?_
  show Q_rmHas Z t tx bo d mm k ft fb g h0 n0 _ T4.heap _
  rw [eh4]
  exact ⟨rfl, N4, rfl⟩
theorem d25_0 : decode prog_21_method_19_code 0 = .ok (.aload_n 0, 1) := by decide +kernel
theorem d25_1 : decode prog_21_method_19_code 1 = .ok (.getfield 41, 3) := by decide +kernel
theorem d25_4 : decode prog_21_method_19_code 4 = .ok (.arraylength, 1) := by decide +kernel
theorem d25_5 : decode prog_21_method_19_code 5 = .ok (.iconst 1, 1) := by decide +kernel
theorem d25_6 : decode prog_21_method_19_code 6 = .ok (.isub, 1) := by decide +kernel
theorem d25_7 : decode prog_21_method_19_code 7 = .ok (.istore_n 3, 1) := by decide +kernel
theorem d25_8 : decode prog_21_method_19_code 8 = .ok (.iload_n 2, 1) := by decide +kernel
theorem d25_9 : decode prog_21_method_19_code 9 = .ok (.istore 4, 2) := by decide +kernel
theorem d25_11 : decode prog_21_method_19_code 11 = .ok (.aload_n 0, 1) := by decide +kernel
theorem d25_12 : decode prog_21_method_19_code 12 = .ok (.getfield 41, 3) := by decide +kernel
theorem d25_15 : decode prog_21_method_19_code 15 = .ok (.iload 4, 2) := by decide +kernel
theorem d25_17 : decode prog_21_method_19_code 17 = .ok (.iaload, 1) := by decide +kernel
theorem d25_18 : decode prog_21_method_19_code 18 = .ok (.ifCond .eq 31, 3) := by decide +kernel
theorem d25_49 : decode prog_21_method_19_code 49 = .ok (.iload 4, 2) := by decide +kernel
theorem d25_51 : decode prog_21_method_19_code 51 = .ok (.ireturn, 1) := by decide +kernel
theorem ef_rmSlt0 (m : MethodId) (x0 : Nat) (x1 : Nat) (x2 : Int32)  : entryFrame m #[(.ref x0), (.ref x1), (.int x2)] 5 = mkF m 0 #[.val (.ref x0), .val (.ref x1), .val (.int x2), .unset, .unset] [] := by first | (simp [entryFrame, mkF, argsToLocals, Value.category, maxLocals]; done) | rfl
def Q_rmSlt0 (Z : State) (t sl d : Nat) (z : Int32) (h0 : Heap) (n0 : Nat) (vv : Option Value) (h : Heap) (L : List Loc) : Prop := vv = some (.int z) ∧ Fr n0 L ∧ h = h0
set_option maxRecDepth 65536 in
set_option maxHeartbeats 40000000 in
theorem rmSlt0 (l : Launch) (Z : State) (a0 : Array Value) (hw : ∀ d ∈ tables_1, d.before a0 Z = true) (ws : List Jvm.Cond) (t sl d : Nat) (z : Int32) (h0 : Heap) (n0 : Nat) (Z0 : n0 ≤ h0.size) (t0 : Exa Z h0 t "com/example/yusen_ledger/yusenledger/HolderTable") (t4 : Fld Z h0 t "com/example/yusen_ledger/yusenledger/HolderTable" "slots" "[I" (.ref sl)) (PS : oAI Z h0 sl .int 16 (fun _ => 0)) (hz : 0 ≤ z.toInt ∧ z.toInt < (16 : Nat)) :
    MetFree l (⟨"com/example/yusen_ledger/yusenledger/HolderTable", "slotOf", "([BI)I"⟩ : MethodName) (head1 (Jvm.Cond.code (⟨"com/example/yusen_ledger/yusenledger/HolderTable", "slotOf", "([BI)I"⟩ : MethodName) prog_21_method_19_code 5 (some .int) :: ws) ({ frames := 0, cells := 0, slots := 0, locals := 0 } : Room)) (fun aA uU => aA = #[(.ref t), (.ref d), (.int z)] ∧ Z.Warmed39 uU.vm ∧ uU.heap = h0) (fun _ _ _ _ _ => True) (fun _ uU oO uU' => ∃ vV lL, oO = .returned vV ∧ Q_rmSlt0 Z t sl d z h0 n0 vV uU'.heap lL ∧ FrameEnd uU oO uU' lL ({ frames := 0, cells := 0, slots := 0, locals := 0 } : Room).cells ({ frames := 0, cells := 0, slots := 0, locals := 0 } : Room).slots) := by
  refine MetFree.of_bodySF (plainFor_of_name pn_HolderTable) hisR ?_
  intro p e s m args below meth c s₁ Bd hml0 hP hK
  obtain ⟨rfl, hZ, hh⟩ := hP
  have hx := Bd.exec
  have hby := Bd.bytes
  have hml : c.maxLocals = 5 := hml0
  have hown : s.vm.findClass "com/example/yusen_ledger/yusenledger/HolderTable" = some m.cls := findClass_of_methodNamed Bd.named
  have hnm := (name_of_methodNamed Bd.named Bd.method).1
  have X0 : Stand p l e ({ frames := 0, cells := 0, slots := 0, locals := 0 } : Room) s m #[(.ref t), (.ref d), (.int z)] below meth c s₁ [] 0 0 := Stand.of_body Bd
  have e0 : s₁.heap = h0 := by rw [← hh, Bd.state]; rfl
  have N0 := Fr.nil n0
  refine oEnter (oCast (ef_rmSlt0 m t d z ) ?_)
  show oGl p e below (s₁.setTop (mkF m 0 #[.val (.ref t), .val (.ref d), .val (.int z), .unset, .unset] [])) _
  refine saloadN X0 hx (hb hby d25_0) rfl rfl rfl (pc' := 1) ?_
  obtain ⟨T1, X1, e1, st1⟩ := getF X0 hx hZ hown (host := "") (Or.inl (hw _ (List.mem_of_getElem? (i := 79) rfl))) Via.refl e0 t4 (g := (mkF m 1 #[.val (.ref t), .val (.ref d), .val (.int z), .unset, .unset] [(.ref t)])) rfl rfl (hb hby d25_1)
  refine oOn st1 ?_
  show oGl p e below (T1.setTop (mkF m 4 #[.val (.ref t), .val (.ref d), .val (.int z), .unset, .unset] [(.ref sl)])) _
  refine oOn (PS.len X1 hx hZ e1 (g := (mkF m 4 #[.val (.ref t), .val (.ref d), .val (.int z), .unset, .unset] [(.ref sl)])) rfl rfl (hb hby d25_4)) ?_
  show oGl p e below (T1.setTop (mkF m 5 #[.val (.ref t), .val (.ref d), .val (.int z), .unset, .unset] [(.int (16 : Int32))])) _
  refine siconst X1 hx (hb hby d25_5) rfl rfl (z := 1) (pc' := 6) ?_
  refine sisub X1 hx (hb hby d25_6) rfl (by decide) (z := (15 : Int32)) (pc' := 7) ?_
  refine sistoreN X1 hx (hb hby d25_7) rfl rfl (l' := #[.val (.ref t), .val (.ref d), .val (.int z), .val (.int (15 : Int32)), .unset]) (pc' := 8) ?_
  refine siloadN X1 hx (hb hby d25_8) rfl rfl (pc' := 9) ?_
  refine sistore X1 hx (hb hby d25_9) rfl rfl (l' := #[.val (.ref t), .val (.ref d), .val (.int z), .val (.int (15 : Int32)), .val (.int z)]) (pc' := 11) ?_
  refine saloadN X1 hx (hb hby d25_11) rfl rfl rfl (pc' := 12) ?_
  obtain ⟨T2, X2, e2, st2⟩ := getF X1 hx hZ hown (host := "") (Or.inl (hw _ (List.mem_of_getElem? (i := 79) rfl))) Via.refl e1 t4 (g := (mkF m 12 #[.val (.ref t), .val (.ref d), .val (.int z), .val (.int (15 : Int32)), .val (.int z)] [(.ref t)])) rfl rfl (hb hby d25_12)
  refine oOn st2 ?_
  show oGl p e below (T2.setTop (mkF m 15 #[.val (.ref t), .val (.ref d), .val (.int z), .val (.int (15 : Int32)), .val (.int z)] [(.ref sl)])) _
  refine siload X2 hx (hb hby d25_15) rfl rfl (pc' := 17) ?_
  refine oOn (PS.ldI X2 hx hZ e2 (j := z) hz (g := (mkF m 17 #[.val (.ref t), .val (.ref d), .val (.int z), .val (.int (15 : Int32)), .val (.int z)] [(.int z), (.ref sl)])) rfl rfl (hb hby d25_17)) ?_
  show oGl p e below (T2.setTop (mkF m 18 #[.val (.ref t), .val (.ref d), .val (.int z), .val (.int (15 : Int32)), .val (.int z)] [(.int (0 : Int32))])) _
  refine sifY X2 hx (hb hby d25_18) (by decide) (by decide) (teq (by decide : (0 : Int32) = (0 : Int32))).1 (pc' := 49) ?_
  refine siload X2 hx (hb hby d25_49) rfl rfl (pc' := 51) ?_
  refine oRetI X2 hx Bd.notSynchronized Bd.returns (hb hby d25_51) (by decide) (by decide) ?_
  show Q_rmSlt0 Z t sl d z h0 n0 _ T2.heap _
  rw [e2]
  exact ⟨rfl, N0, rfl⟩
theorem d25_21 : decode prog_21_method_19_code 21 = .ok (.aload_n 0, 1) := by decide +kernel
theorem d25_22 : decode prog_21_method_19_code 22 = .ok (.aload_n 0, 1) := by decide +kernel
theorem d25_23 : decode prog_21_method_19_code 23 = .ok (.getfield 41, 3) := by decide +kernel
theorem d25_26 : decode prog_21_method_19_code 26 = .ok (.iload 4, 2) := by decide +kernel
theorem d25_28 : decode prog_21_method_19_code 28 = .ok (.iaload, 1) := by decide +kernel
theorem d25_29 : decode prog_21_method_19_code 29 = .ok (.iconst 1, 1) := by decide +kernel
theorem d25_30 : decode prog_21_method_19_code 30 = .ok (.isub, 1) := by decide +kernel
theorem d25_31 : decode prog_21_method_19_code 31 = .ok (.aload_n 1, 1) := by decide +kernel
theorem d25_32 : decode prog_21_method_19_code 32 = .ok (.invokevirtual 215, 3) := by decide +kernel
theorem pd_20 : parseMethodDescriptor "(I[B)Z" = some ⟨[.int, (.array .byte)], some .boolean⟩ := by decide +kernel
theorem d25_35 : decode prog_21_method_19_code 35 = .ok (.ifCond .ne 14, 3) := by decide +kernel
theorem d25_38 : decode prog_21_method_19_code 38 = .ok (.iload 4, 2) := by decide +kernel
theorem d25_40 : decode prog_21_method_19_code 40 = .ok (.iconst 1, 1) := by decide +kernel
theorem d25_41 : decode prog_21_method_19_code 41 = .ok (.iadd, 1) := by decide +kernel
theorem d25_42 : decode prog_21_method_19_code 42 = .ok (.iload_n 3, 1) := by decide +kernel
theorem d25_43 : decode prog_21_method_19_code 43 = .ok (.iand, 1) := by decide +kernel
theorem d25_44 : decode prog_21_method_19_code 44 = .ok (.istore 4, 2) := by decide +kernel
theorem d25_46 : decode prog_21_method_19_code 46 = .ok (.goto (-35), 3) := by decide +kernel
theorem ef_rmSlt1 (m : MethodId) (x0 : Nat) (x1 : Nat) (x2 : Int32)  : entryFrame m #[(.ref x0), (.ref x1), (.int x2)] 5 = mkF m 0 #[.val (.ref x0), .val (.ref x1), .val (.int x2), .unset, .unset] [] := by first | (simp [entryFrame, mkF, argsToLocals, Value.category, maxLocals]; done) | rfl
def Q_rmSlt1 (Z : State) (t tx bo sl d mm k : Nat) (z s0 : Int32) (ft fb g : Nat → Int32) (h0 : Heap) (n0 : Nat) (vv : Option Value) (h : Heap) (L : List Loc) : Prop := ∃ y : Int32, vv = some (.int y) ∧ Fr n0 L ∧ h = h0 ∧ (0 ≤ y.toInt ∧ y.toInt < (16 : Nat)) ∧ (oUp (fun _ => (0 : Int32)) s0.toInt.toNat (1 : Int32)) y.toInt.toNat = (0 : Int32)
set_option maxRecDepth 65536 in
set_option maxHeartbeats 40000000 in
theorem rmSlt1 (l : Launch) (Z : State) (a0 : Array Value) (hw : ∀ d ∈ tables_1, d.before a0 Z = true) (ws : List Jvm.Cond) (t tx bo sl d mm k : Nat) (z s0 : Int32) (ft fb g : Nat → Int32) (h0 : Heap) (n0 : Nat) (Z0 : n0 ≤ h0.size) (t0 : Exa Z h0 t "com/example/yusen_ledger/yusenledger/HolderTable") (t1 : Fld Z h0 t "com/example/yusen_ledger/yusenledger/HolderTable" "text" "[B" (.ref tx)) (t2 : Fld Z h0 t "com/example/yusen_ledger/yusenledger/HolderTable" "bounds" "[I" (.ref bo)) (t4 : Fld Z h0 t "com/example/yusen_ledger/yusenledger/HolderTable" "slots" "[I" (.ref sl)) (PT : oAI Z h0 tx .byte 128 ft) (PO : oAI Z h0 bo .int 17 fb) (PS : oAI Z h0 sl .int 16 (oUp (fun _ => (0 : Int32)) s0.toInt.toNat (1 : Int32))) (PD : oAI Z h0 d .byte k g) (hm : mm < k) (hk : k ≤ 4) (hb0 : fb 0 = (0 : Int32)) (hb1 : fb 1 = (Int32.ofNat mm)) (hz : 0 ≤ z.toInt ∧ z.toInt < (16 : Nat)) :
    MetFree l (⟨"com/example/yusen_ledger/yusenledger/HolderTable", "slotOf", "([BI)I"⟩ : MethodName) (head1 (Jvm.Cond.code (⟨"com/example/yusen_ledger/yusenledger/HolderTable", "slotOf", "([BI)I"⟩ : MethodName) prog_21_method_19_code 5 (some .int) :: ws) ({ frames := 3, cells := 0, slots := 0, locals := 47 } : Room)) (fun aA uU => aA = #[(.ref t), (.ref d), (.int z)] ∧ Z.Warmed39 uU.vm ∧ uU.heap = h0) (fun _ _ _ _ _ => True) (fun _ uU oO uU' => ∃ vV lL, oO = .returned vV ∧ Q_rmSlt1 Z t tx bo sl d mm k z s0 ft fb g h0 n0 vV uU'.heap lL ∧ FrameEnd uU oO uU' lL ({ frames := 3, cells := 0, slots := 0, locals := 47 } : Room).cells ({ frames := 3, cells := 0, slots := 0, locals := 47 } : Room).slots) := by
  refine MetFree.of_bodySF (plainFor_of_name pn_HolderTable) hisR ?_
  intro p e s m args below meth c s₁ Bd hml0 hP hK
  obtain ⟨rfl, hZ, hh⟩ := hP
  have hx := Bd.exec
  have hby := Bd.bytes
  have hml : c.maxLocals = 5 := hml0
  have hown : s.vm.findClass "com/example/yusen_ledger/yusenledger/HolderTable" = some m.cls := findClass_of_methodNamed Bd.named
  have hnm := (name_of_methodNamed Bd.named Bd.method).1
  have X0 : Stand p l e ({ frames := 3, cells := 0, slots := 0, locals := 47 } : Room) s m #[(.ref t), (.ref d), (.int z)] below meth c s₁ [] 0 0 := Stand.of_body Bd
  have e0 : s₁.heap = h0 := by rw [← hh, Bd.state]; rfl
  have N0 := Fr.nil n0
  refine oEnter (oCast (ef_rmSlt1 m t d z ) ?_)
  show oGl p e below (s₁.setTop (mkF m 0 #[.val (.ref t), .val (.ref d), .val (.int z), .unset, .unset] [])) _
  refine saloadN X0 hx (hb hby d25_0) rfl rfl rfl (pc' := 1) ?_
  obtain ⟨T1, X1, e1, st1⟩ := getF X0 hx hZ hown (host := "") (Or.inl (hw _ (List.mem_of_getElem? (i := 79) rfl))) Via.refl e0 t4 (g := (mkF m 1 #[.val (.ref t), .val (.ref d), .val (.int z), .unset, .unset] [(.ref t)])) rfl rfl (hb hby d25_1)
  refine oOn st1 ?_
  show oGl p e below (T1.setTop (mkF m 4 #[.val (.ref t), .val (.ref d), .val (.int z), .unset, .unset] [(.ref sl)])) _
  refine oOn (PS.len X1 hx hZ e1 (g := (mkF m 4 #[.val (.ref t), .val (.ref d), .val (.int z), .unset, .unset] [(.ref sl)])) rfl rfl (hb hby d25_4)) ?_
  show oGl p e below (T1.setTop (mkF m 5 #[.val (.ref t), .val (.ref d), .val (.int z), .unset, .unset] [(.int (16 : Int32))])) _
  refine siconst X1 hx (hb hby d25_5) rfl rfl (z := 1) (pc' := 6) ?_
  refine sisub X1 hx (hb hby d25_6) rfl (by decide) (z := (15 : Int32)) (pc' := 7) ?_
  refine sistoreN X1 hx (hb hby d25_7) rfl rfl (l' := #[.val (.ref t), .val (.ref d), .val (.int z), .val (.int (15 : Int32)), .unset]) (pc' := 8) ?_
  refine siloadN X1 hx (hb hby d25_8) rfl rfl (pc' := 9) ?_
  refine sistore X1 hx (hb hby d25_9) rfl rfl (l' := #[.val (.ref t), .val (.ref d), .val (.int z), .val (.int (15 : Int32)), .val (.int z)]) (pc' := 11) ?_
  refine saloadN X1 hx (hb hby d25_11) rfl rfl rfl (pc' := 12) ?_
  obtain ⟨T2, X2, e2, st2⟩ := getF X1 hx hZ hown (host := "") (Or.inl (hw _ (List.mem_of_getElem? (i := 79) rfl))) Via.refl e1 t4 (g := (mkF m 12 #[.val (.ref t), .val (.ref d), .val (.int z), .val (.int (15 : Int32)), .val (.int z)] [(.ref t)])) rfl rfl (hb hby d25_12)
  refine oOn st2 ?_
  show oGl p e below (T2.setTop (mkF m 15 #[.val (.ref t), .val (.ref d), .val (.int z), .val (.int (15 : Int32)), .val (.int z)] [(.ref sl)])) _
  refine siload X2 hx (hb hby d25_15) rfl rfl (pc' := 17) ?_
  refine oOn (PS.ldI X2 hx hZ e2 (j := z) hz (g := (mkF m 17 #[.val (.ref t), .val (.ref d), .val (.int z), .val (.int (15 : Int32)), .val (.int z)] [(.int z), (.ref sl)])) rfl rfl (hb hby d25_17)) ?_
  show oGl p e below (T2.setTop (mkF m 18 #[.val (.ref t), .val (.ref d), .val (.int z), .val (.int (15 : Int32)), .val (.int z)] [(.int ((oUp (fun _ => (0 : Int32)) s0.toInt.toNat (1 : Int32)) z.toInt.toNat))])) _
  by_cases hc18 : ((oUp (fun _ => (0 : Int32)) s0.toInt.toNat (1 : Int32)) z.toInt.toNat) = (0 : Int32)
  · skip
    refine sifY X2 hx (hb hby d25_18) (by decide) (by decide) (teq hc18).1 (pc' := 49) ?_
    refine siload X2 hx (hb hby d25_49) rfl rfl (pc' := 51) ?_
    refine oRetI X2 hx Bd.notSynchronized Bd.returns (hb hby d25_51) (by decide) (by decide) ?_
    show Q_rmSlt1 Z t tx bo sl d mm k z s0 ft fb g h0 n0 _ T2.heap _
    rw [e2]
    exact ⟨_, rfl, N0, rfl, hz, hc18⟩
  · skip
    refine sifN X2 hx (hb hby d25_18) rfl (feq hc18).1 (pc' := 21) ?_
    refine saloadN X2 hx (hb hby d25_21) rfl rfl rfl (pc' := 22) ?_
    refine saloadN X2 hx (hb hby d25_22) rfl rfl rfl (pc' := 23) ?_
    obtain ⟨T3, X3, e3, st3⟩ := getF X2 hx hZ hown (host := "") (Or.inl (hw _ (List.mem_of_getElem? (i := 79) rfl))) Via.refl e2 t4 (g := (mkF m 23 #[.val (.ref t), .val (.ref d), .val (.int z), .val (.int (15 : Int32)), .val (.int z)] [(.ref t), (.ref t)])) rfl rfl (hb hby d25_23)
    refine oOn st3 ?_
    show oGl p e below (T3.setTop (mkF m 26 #[.val (.ref t), .val (.ref d), .val (.int z), .val (.int (15 : Int32)), .val (.int z)] [(.ref sl), (.ref t)])) _
    refine siload X3 hx (hb hby d25_26) rfl rfl (pc' := 28) ?_
    refine oOn (PS.ldI X3 hx hZ e3 (j := z) hz (g := (mkF m 28 #[.val (.ref t), .val (.ref d), .val (.int z), .val (.int (15 : Int32)), .val (.int z)] [(.int z), (.ref sl), (.ref t)])) rfl rfl (hb hby d25_28)) ?_
    show oGl p e below (T3.setTop (mkF m 29 #[.val (.ref t), .val (.ref d), .val (.int z), .val (.int (15 : Int32)), .val (.int z)] [(.int ((oUp (fun _ => (0 : Int32)) s0.toInt.toNat (1 : Int32)) z.toInt.toNat)), (.ref t)])) _
    have ez : z.toInt.toNat = s0.toInt.toNat := own_up1 hc18
    have e29 : ((oUp (fun _ => (0 : Int32)) s0.toInt.toNat (1 : Int32)) z.toInt.toNat) = (1 : Int32) := by rw [ez]; exact oUp_hit
    rw [e29]
    show oGl p e below (T3.setTop (mkF m 29 #[.val (.ref t), .val (.ref d), .val (.int z), .val (.int (15 : Int32)), .val (.int z)] [(.int (1 : Int32)), (.ref t)])) _
    refine siconst X3 hx (hb hby d25_29) rfl rfl (z := 1) (pc' := 30) ?_
    refine sisub X3 hx (hb hby d25_30) rfl (by decide) (z := (0 : Int32)) (pc' := 31) ?_
    refine saloadN X3 hx (hb hby d25_31) rfl rfl rfl (pc' := 32) ?_
    have hz4 : n0 ≤ h0.size := by omega
    obtain ⟨cq4, q4, q4'⟩ := t0.cell
    obtain ⟨_, _, ⟨T4, L4, k4, n4⟩, -, X4, ⟨Lc4, hQ4, l4, y4, z4⟩, st4⟩ := X3.privateBack hx (y := (⟨"com/example/yusen_ledger/yusenledger/HolderTable", "hasId", "(I[B)Z"⟩ : MethodName)) hown (mvT hZ (hw _ (List.mem_of_getElem? (i := 204) rfl))) (mvT hZ (hw _ (List.mem_of_getElem? (i := 205) rfl))) (oPriv (mvT hZ (hw _ (List.mem_of_getElem? (i := 52) rfl))) (Cond.privateMethod_at (mvP hZ (hw _ (List.mem_of_getElem? (i := 206) rfl)) (args := #[]))) (mvT hZ (hw _ (List.mem_of_getElem? (i := 205) rfl))) (by decide)) (Cond.privateMethod_at (mvP hZ (hw _ (List.mem_of_getElem? (i := 206) rfl)) (args := #[]))) (mvT hZ (hw _ (List.mem_of_getElem? (i := 207) rfl))) (by decide) (backOf (W := 0) (rmHas l Z a0 hw [] t tx bo d mm k ft fb g h0 n0 hz4 t1 t2 PT PO PD hm hk hb0 hb1) hZ (hw _ (List.mem_of_getElem? (i := 207) rfl)) (hw _ (List.mem_of_getElem? (i := 53) rfl)) (by decide) (by decide)) (g := (mkF m 32 #[.val (.ref t), .val (.ref d), .val (.int z), .val (.int (15 : Int32)), .val (.int z)] [(.ref d), (.int (0 : Int32)), (.ref t)])) rfl (by rw [hml]; rfl) (Steps.refl _) (a := t) (by rw [e3]; exact q4) q4' (argsL := [(.int (0 : Int32)), (.ref d)]) (rest := []) (lenOf pd_20 rfl) rfl (by show 2 * 0 + _ ≤ _; exact Nat.le_of_eq rfl) (hb hby d25_32) (fun _ _ => ⟨rfl, e3, (by decide : 0 + 0 ≤ _), (by decide : 0 + 0 ≤ _)⟩)
    dsimp only [Pt.U, Pt.locs, Pt.cells, Pt.slots] at X4 l4 y4 z4 st4 hQ4
    subst l4 y4 z4
    obtain ⟨rfl, N4q, eh4⟩ := hQ4
    have N4 := Fr.app N0 N4q
    refine oSt st4 ?_
    show oGl p e below (T4.setTop (mkF m 35 #[.val (.ref t), .val (.ref d), .val (.int z), .val (.int (15 : Int32)), .val (.int z)] [(.int (0 : Int32))])) _
    refine sifN X4 hx (hb hby d25_35) rfl (teq (by decide : (0 : Int32) = (0 : Int32))).2 (pc' := 38) ?_
    refine siload X4 hx (hb hby d25_38) rfl rfl (pc' := 40) ?_
    refine siconst X4 hx (hb hby d25_40) rfl rfl (z := 1) (pc' := 41) ?_
    refine siadd X4 hx (hb hby d25_41) rfl rfl (pc' := 42) ?_
    refine siloadN X4 hx (hb hby d25_42) rfl rfl (pc' := 43) ?_
    refine siand X4 hx (hb hby d25_43) rfl rfl (pc' := 44) ?_
    refine sistore X4 hx (hb hby d25_44) rfl rfl (l' := #[.val (.ref t), .val (.ref d), .val (.int z), .val (.int (15 : Int32)), .val (.int ((z + (1 : Int32)) &&& (15 : Int32)))]) (pc' := 46) ?_
    refine sgoto X4 hx (hb hby d25_46) (by decide) (by decide)  (pc' := 11) ?_
    refine saloadN X4 hx (hb hby d25_11) rfl rfl rfl (pc' := 12) ?_
    obtain ⟨T5, X5, e5, st5⟩ := getF X4 hx hZ hown (host := "") (Or.inl (hw _ (List.mem_of_getElem? (i := 79) rfl))) Via.refl eh4 t4 (g := (mkF m 12 #[.val (.ref t), .val (.ref d), .val (.int z), .val (.int (15 : Int32)), .val (.int ((z + (1 : Int32)) &&& (15 : Int32)))] [(.ref t)])) rfl rfl (hb hby d25_12)
    refine oOn st5 ?_
    show oGl p e below (T5.setTop (mkF m 15 #[.val (.ref t), .val (.ref d), .val (.int z), .val (.int (15 : Int32)), .val (.int ((z + (1 : Int32)) &&& (15 : Int32)))] [(.ref sl)])) _
    refine siload X5 hx (hb hby d25_15) rfl rfl (pc' := 17) ?_
    refine oOn (PS.ldI X5 hx hZ e5 (j := ((z + (1 : Int32)) &&& (15 : Int32))) (own_a15 _) (g := (mkF m 17 #[.val (.ref t), .val (.ref d), .val (.int z), .val (.int (15 : Int32)), .val (.int ((z + (1 : Int32)) &&& (15 : Int32)))] [(.int ((z + (1 : Int32)) &&& (15 : Int32))), (.ref sl)])) rfl rfl (hb hby d25_17)) ?_
    show oGl p e below (T5.setTop (mkF m 18 #[.val (.ref t), .val (.ref d), .val (.int z), .val (.int (15 : Int32)), .val (.int ((z + (1 : Int32)) &&& (15 : Int32)))] [(.int ((oUp (fun _ => (0 : Int32)) s0.toInt.toNat (1 : Int32)) ((z + (1 : Int32)) &&& (15 : Int32)).toInt.toNat))])) _
    refine sifY X5 hx (hb hby d25_18) (by decide) (by decide) (teq ((oUp_miss (by rw [← ez]; exact own_stp hz)) : ((oUp (fun _ => (0 : Int32)) s0.toInt.toNat (1 : Int32)) ((z + (1 : Int32)) &&& (15 : Int32)).toInt.toNat) = (0 : Int32))).1 (pc' := 49) ?_
    refine siload X5 hx (hb hby d25_49) rfl rfl (pc' := 51) ?_
    refine oRetI X5 hx Bd.notSynchronized Bd.returns (hb hby d25_51) (by decide) (by decide) ?_
    show Q_rmSlt1 Z t tx bo sl d mm k z s0 ft fb g h0 n0 _ T5.heap _
    rw [e5]
    exact ⟨_, rfl, N4, rfl, own_a15 _, oUp_miss (by rw [← ez]; exact own_stp hz)⟩
theorem d27_0 : decode jdk_37_method_2_code 0 = .ok (.aload_n 0, 1) := by decide +kernel
theorem d27_1 : decode jdk_37_method_2_code 1 = .ok (.getfield 7, 3) := by decide +kernel
theorem d27_4 : decode jdk_37_method_2_code 4 = .ok (.ireturn, 1) := by decide +kernel
theorem pn_Enum : plainName "java/lang/Enum" = true := by first | (simp [plainName, overriddenIn]; done) | decide +kernel
theorem ef_rmOrd (m : MethodId) (x0 : Nat)  : entryFrame m #[(.ref x0)] 1 = mkF m 0 #[.val (.ref x0)] [] := by first | (simp [entryFrame, mkF, argsToLocals, Value.category, maxLocals]; done) | rfl
def Q_rmOrd (Z : State) (x : Nat) (oo : Int32) (h0 : Heap) (n0 : Nat) (vv : Option Value) (h : Heap) (L : List Loc) : Prop := vv = some (.int oo) ∧ Fr n0 L ∧ h = h0
set_option maxRecDepth 65536 in
set_option maxHeartbeats 40000000 in
theorem rmOrd (l : Launch) (Z : State) (a0 : Array Value) (hw : ∀ d ∈ tables_1, d.before a0 Z = true) (ws : List Jvm.Cond) (x : Nat) (oo : Int32) (h0 : Heap) (n0 : Nat) (Z0 : n0 ≤ h0.size) (F0 : Fld Z h0 x "java/lang/Enum" "ordinal" "I" (.int oo)) :
    MetFree l (⟨"java/lang/Enum", "ordinal", "()I"⟩ : MethodName) (head1 (Jvm.Cond.code (⟨"java/lang/Enum", "ordinal", "()I"⟩ : MethodName) jdk_37_method_2_code 1 (some .int) :: ws) ({ frames := 0, cells := 0, slots := 0, locals := 0 } : Room)) (fun aA uU => aA = #[(.ref x)] ∧ Z.Warmed39 uU.vm ∧ uU.heap = h0) (fun _ _ _ _ _ => True) (fun _ uU oO uU' => ∃ vV lL, oO = .returned vV ∧ Q_rmOrd Z x oo h0 n0 vV uU'.heap lL ∧ FrameEnd uU oO uU' lL ({ frames := 0, cells := 0, slots := 0, locals := 0 } : Room).cells ({ frames := 0, cells := 0, slots := 0, locals := 0 } : Room).slots) := by
  refine MetFree.of_bodySF (plainFor_of_name pn_Enum) hisR ?_
  intro p e s m args below meth c s₁ Bd hml0 hP hK
  obtain ⟨rfl, hZ, hh⟩ := hP
  have hx := Bd.exec
  have hby := Bd.bytes
  have hml : c.maxLocals = 1 := hml0
  have hown : s.vm.findClass "java/lang/Enum" = some m.cls := findClass_of_methodNamed Bd.named
  have hnm := (name_of_methodNamed Bd.named Bd.method).1
  have X0 : Stand p l e ({ frames := 0, cells := 0, slots := 0, locals := 0 } : Room) s m #[(.ref x)] below meth c s₁ [] 0 0 := Stand.of_body Bd
  have e0 : s₁.heap = h0 := by rw [← hh, Bd.state]; rfl
  have N0 := Fr.nil n0
  refine oEnter (oCast (ef_rmOrd m x ) ?_)
  show oGl p e below (s₁.setTop (mkF m 0 #[.val (.ref x)] [])) _
  refine saloadN X0 hx (hb hby d27_0) rfl rfl rfl (pc' := 1) ?_
  obtain ⟨T1, X1, e1, st1⟩ := getF X0 hx hZ hown (host := "") (Or.inl (hw _ (List.mem_of_getElem? (i := 170) rfl))) Via.refl e0 F0 (g := (mkF m 1 #[.val (.ref x)] [(.ref x)])) rfl rfl (hb hby d27_1)
  refine oOn st1 ?_
  show oGl p e below (T1.setTop (mkF m 4 #[.val (.ref x)] [(.int oo)])) _
  refine oRetI X1 hx Bd.notSynchronized Bd.returns (hb hby d27_4) (by decide) (by decide) ?_
  show Q_rmOrd Z x oo h0 n0 _ T1.heap _
  rw [e1]
  exact ⟨rfl, N0, rfl⟩
theorem d28_0 : decode prog_21_method_9_code 0 = .ok (.aconst_null, 1) := by decide +kernel
theorem d28_1 : decode prog_21_method_9_code 1 = .ok (.astore_n 2, 1) := by decide +kernel
theorem d28_2 : decode prog_21_method_9_code 2 = .ok (.aload_n 0, 1) := by decide +kernel
theorem d28_3 : decode prog_21_method_9_code 3 = .ok (.getfield 34, 3) := by decide +kernel
theorem d28_6 : decode prog_21_method_9_code 6 = .ok (.iload_n 1, 1) := by decide +kernel
theorem d28_7 : decode prog_21_method_9_code 7 = .ok (.baload, 1) := by decide +kernel
theorem d28_8 : decode prog_21_method_9_code 8 = .ok (.ifCond .le 16, 3) := by decide +kernel
theorem d28_24 : decode prog_21_method_9_code 24 = .ok (.aload_n 2, 1) := by decide +kernel
theorem d28_25 : decode prog_21_method_9_code 25 = .ok (.areturn, 1) := by decide +kernel
theorem d28_11 : decode prog_21_method_9_code 11 = .ok (.getstatic 101, 3) := by decide +kernel
theorem d28_14 : decode prog_21_method_9_code 14 = .ok (.aload_n 0, 1) := by decide +kernel
theorem d28_15 : decode prog_21_method_9_code 15 = .ok (.getfield 34, 3) := by decide +kernel
theorem d28_18 : decode prog_21_method_9_code 18 = .ok (.iload_n 1, 1) := by decide +kernel
theorem d28_19 : decode prog_21_method_9_code 19 = .ok (.baload, 1) := by decide +kernel
theorem d28_20 : decode prog_21_method_9_code 20 = .ok (.iconst 1, 1) := by decide +kernel
theorem d28_21 : decode prog_21_method_9_code 21 = .ok (.isub, 1) := by decide +kernel
theorem d28_22 : decode prog_21_method_9_code 22 = .ok (.aaload, 1) := by decide +kernel
theorem d28_23 : decode prog_21_method_9_code 23 = .ok (.astore_n 2, 1) := by decide +kernel
theorem ef_rmCat0 (m : MethodId) (x0 : Nat) (x1 : Int32)  : entryFrame m #[(.ref x0), (.int x1)] 3 = mkF m 0 #[.val (.ref x0), .val (.int x1), .unset] [] := by first | (simp [entryFrame, mkF, argsToLocals, Value.category, maxLocals]; done) | rfl
def Q_rmCat0 (Z : State) (t ca cg : Nat) (fc : Nat → Int32) (cl : Cell) (cw : Value) (k : Int32) (h0 : Heap) (n0 : Nat) (vv : Option Value) (h : Heap) (L : List Loc) : Prop := vv = some cw ∧ Fr n0 L ∧ h = h0
set_option maxRecDepth 65536 in
set_option maxHeartbeats 40000000 in
theorem rmCat0 (l : Launch) (Z : State) (a0 : Array Value) (hw : ∀ d ∈ tables_1, d.before a0 Z = true) (ws : List Jvm.Cond) (t ca cg : Nat) (fc : Nat → Int32) (cl : Cell) (cw : Value) (k : Int32) (h0 : Heap) (n0 : Nat) (Z0 : n0 ≤ h0.size) (O0 : Old Z n0 h0) (SCG : Sta Z Z.heap "com/example/yusen_ledger/yusenledger/HolderTable" "CATEGORIES" "[Lcom/example/yusen_ledger/yusenledger/HolderCategory;" (.ref cg)) (AC : Arr Z Z.heap cg cl (.object "com/example/yusen_ledger/yusenledger/HolderCategory")) (CN : cl.slots.size = 7) (t3 : Fld Z h0 t "com/example/yusen_ledger/yusenledger/HolderTable" "categories" "[B" (.ref ca)) (PC : oAI Z h0 ca .byte 8 fc) (hct : oCt Z cl cw k) (hfk : fc 0 = k) :
    MetFree l (⟨"com/example/yusen_ledger/yusenledger/HolderTable", "category", "(I)Lcom/example/yusen_ledger/yusenledger/HolderCategory;"⟩ : MethodName) (head1 (Jvm.Cond.code (⟨"com/example/yusen_ledger/yusenledger/HolderTable", "category", "(I)Lcom/example/yusen_ledger/yusenledger/HolderCategory;"⟩ : MethodName) prog_21_method_9_code 3 (some (.object "com/example/yusen_ledger/yusenledger/HolderCategory")) :: ws) ({ frames := 0, cells := 0, slots := 0, locals := 0 } : Room)) (fun aA uU => aA = #[(.ref t), (.int (0 : Int32))] ∧ Z.Warmed39 uU.vm ∧ uU.heap = h0) (fun _ _ _ _ _ => True) (fun _ uU oO uU' => ∃ vV lL, oO = .returned vV ∧ Q_rmCat0 Z t ca cg fc cl cw k h0 n0 vV uU'.heap lL ∧ FrameEnd uU oO uU' lL ({ frames := 0, cells := 0, slots := 0, locals := 0 } : Room).cells ({ frames := 0, cells := 0, slots := 0, locals := 0 } : Room).slots) := by
  refine MetFree.of_bodySF (plainFor_of_name pn_HolderTable) hisR ?_
  intro p e s m args below meth c s₁ Bd hml0 hP hK
  obtain ⟨rfl, hZ, hh⟩ := hP
  have hx := Bd.exec
  have hby := Bd.bytes
  have hml : c.maxLocals = 3 := hml0
  have hown : s.vm.findClass "com/example/yusen_ledger/yusenledger/HolderTable" = some m.cls := findClass_of_methodNamed Bd.named
  have hnm := (name_of_methodNamed Bd.named Bd.method).1
  have X0 : Stand p l e ({ frames := 0, cells := 0, slots := 0, locals := 0 } : Room) s m #[(.ref t), (.int (0 : Int32))] below meth c s₁ [] 0 0 := Stand.of_body Bd
  have e0 : s₁.heap = h0 := by rw [← hh, Bd.state]; rfl
  have N0 := Fr.nil n0
  refine oEnter (oCast (ef_rmCat0 m t (0 : Int32) ) ?_)
  show oGl p e below (s₁.setTop (mkF m 0 #[.val (.ref t), .val (.int (0 : Int32)), .unset] [])) _
  rcases hct with ⟨rfl, hk0⟩ | ⟨xc, oo, rfl, hoo, hk1, Exc, Fxc, hel⟩
  · skip
    refine saconst_null X0 hx (hb hby d28_0) rfl  (pc' := 1) ?_
    refine sastoreN X0 hx (hb hby d28_1) rfl rfl rfl (l' := #[.val (.ref t), .val (.int (0 : Int32)), .val .null]) (pc' := 2) ?_
    refine saloadN X0 hx (hb hby d28_2) rfl rfl rfl (pc' := 3) ?_
    obtain ⟨T1, X1, e1, st1⟩ := getF X0 hx hZ hown (host := "") (Or.inl (hw _ (List.mem_of_getElem? (i := 75) rfl))) Via.refl e0 t3 (g := (mkF m 3 #[.val (.ref t), .val (.int (0 : Int32)), .val .null] [(.ref t)])) rfl rfl (hb hby d28_3)
    refine oOn st1 ?_
    show oGl p e below (T1.setTop (mkF m 6 #[.val (.ref t), .val (.int (0 : Int32)), .val .null] [(.ref ca)])) _
    refine siloadN X1 hx (hb hby d28_6) rfl rfl (pc' := 7) ?_
    refine oOn (PC.ldB X1 hx hZ e1 (j := (0 : Int32)) (by decide) (g := (mkF m 7 #[.val (.ref t), .val (.int (0 : Int32)), .val .null] [(.int (0 : Int32)), (.ref ca)])) rfl rfl (hb hby d28_7)) ?_
    show oGl p e below (T1.setTop (mkF m 8 #[.val (.ref t), .val (.int (0 : Int32)), .val .null] [(.int (fc 0))])) _
    refine sifY X1 hx (hb hby d28_8) (by decide) (by decide) (flt ((by rw [hfk, hk0]; decide) : ¬ ((0 : Int32) < (fc 0)))).2.2.2 (pc' := 24) ?_
    refine saloadN X1 hx (hb hby d28_24) rfl rfl rfl (pc' := 25) ?_
    refine oRetR X1 hx Bd.notSynchronized Bd.returns rfl rfl (hb hby d28_25) (by decide) (by decide) ?_
    show Q_rmCat0 Z t ca cg fc cl .null k h0 n0 _ T1.heap _
    rw [e1]
    exact ⟨rfl, N0, rfl⟩
  · skip
    refine saconst_null X0 hx (hb hby d28_0) rfl  (pc' := 1) ?_
    refine sastoreN X0 hx (hb hby d28_1) rfl rfl rfl (l' := #[.val (.ref t), .val (.int (0 : Int32)), .val .null]) (pc' := 2) ?_
    refine saloadN X0 hx (hb hby d28_2) rfl rfl rfl (pc' := 3) ?_
    obtain ⟨T2, X2, e2, st2⟩ := getF X0 hx hZ hown (host := "") (Or.inl (hw _ (List.mem_of_getElem? (i := 75) rfl))) Via.refl e0 t3 (g := (mkF m 3 #[.val (.ref t), .val (.int (0 : Int32)), .val .null] [(.ref t)])) rfl rfl (hb hby d28_3)
    refine oOn st2 ?_
    show oGl p e below (T2.setTop (mkF m 6 #[.val (.ref t), .val (.int (0 : Int32)), .val .null] [(.ref ca)])) _
    refine siloadN X2 hx (hb hby d28_6) rfl rfl (pc' := 7) ?_
    refine oOn (PC.ldB X2 hx hZ e2 (j := (0 : Int32)) (by decide) (g := (mkF m 7 #[.val (.ref t), .val (.int (0 : Int32)), .val .null] [(.int (0 : Int32)), (.ref ca)])) rfl rfl (hb hby d28_7)) ?_
    show oGl p e below (T2.setTop (mkF m 8 #[.val (.ref t), .val (.int (0 : Int32)), .val .null] [(.int (fc 0))])) _
    refine sifN X2 hx (hb hby d28_8) rfl (tlt ((by rw [hfk, hk1]; exact own_op hoo) : (0 : Int32) < (fc 0))).2.2.2 (pc' := 11) ?_
    obtain ⟨T3, X3, e3, st3⟩ := getS2 X2 hx hZ hown (host := "") (Or.inl (hw _ (List.mem_of_getElem? (i := 177) rfl))) Via.refl e2 (SCG.ext O0.2) (g := (mkF m 11 #[.val (.ref t), .val (.int (0 : Int32)), .val .null] [])) rfl (hb hby d28_11)
    refine oOn st3 ?_
    show oGl p e below (T3.setTop (mkF m 14 #[.val (.ref t), .val (.int (0 : Int32)), .val .null] [(.ref cg)])) _
    refine saloadN X3 hx (hb hby d28_14) rfl rfl rfl (pc' := 15) ?_
    obtain ⟨T4, X4, e4, st4⟩ := getF X3 hx hZ hown (host := "") (Or.inl (hw _ (List.mem_of_getElem? (i := 75) rfl))) Via.refl e3 t3 (g := (mkF m 15 #[.val (.ref t), .val (.int (0 : Int32)), .val .null] [(.ref t), (.ref cg)])) rfl rfl (hb hby d28_15)
    refine oOn st4 ?_
    show oGl p e below (T4.setTop (mkF m 18 #[.val (.ref t), .val (.int (0 : Int32)), .val .null] [(.ref ca), (.ref cg)])) _
    refine siloadN X4 hx (hb hby d28_18) rfl rfl (pc' := 19) ?_
    refine oOn (PC.ldB X4 hx hZ e4 (j := (0 : Int32)) (by decide) (g := (mkF m 19 #[.val (.ref t), .val (.int (0 : Int32)), .val .null] [(.int (0 : Int32)), (.ref ca), (.ref cg)])) rfl rfl (hb hby d28_19)) ?_
    show oGl p e below (T4.setTop (mkF m 20 #[.val (.ref t), .val (.int (0 : Int32)), .val .null] [(.int (fc 0)), (.ref cg)])) _
    refine siconst X4 hx (hb hby d28_20) rfl rfl (z := 1) (pc' := 21) ?_
    refine sisub X4 hx (hb hby d28_21) rfl rfl (pc' := 22) ?_
    have e22 : ((fc 0) - (1 : Int32)) = oo := by rw [hfk, hk1]; exact own_om hoo
    rw [e22]
    show oGl p e below (T4.setTop (mkF m 22 #[.val (.ref t), .val (.int (0 : Int32)), .val .null] [(.int oo), (.ref cg)])) _
    refine oOn (X4.aaload hx (j := oo) (v := .ref xc) (by rw [e4]; exact (AC.ext O0.2).1) (State.isArrayOf_alike hZ.alike AC.2.1) rfl AC.2.2 (oNotIn CN hoo) hel (g := (mkF m 22 #[.val (.ref t), .val (.int (0 : Int32)), .val .null] [(.int oo), (.ref cg)])) rfl rfl (hb hby d28_22)) ?_
    show oGl p e below (T4.setTop (mkF m 23 #[.val (.ref t), .val (.int (0 : Int32)), .val .null] [(.ref xc)])) _
    refine sastoreN X4 hx (hb hby d28_23) rfl rfl rfl (l' := #[.val (.ref t), .val (.int (0 : Int32)), .val (.ref xc)]) (pc' := 24) ?_
    refine saloadN X4 hx (hb hby d28_24) rfl rfl rfl (pc' := 25) ?_
    refine oRetR X4 hx Bd.notSynchronized Bd.returns rfl rfl (hb hby d28_25) (by decide) (by decide) ?_
    show Q_rmCat0 Z t ca cg fc cl (.ref xc) k h0 n0 _ T4.heap _
    rw [e4]
    exact ⟨rfl, N0, rfl⟩
theorem ef_rmCat1 (m : MethodId) (x0 : Nat) (x1 : Int32)  : entryFrame m #[(.ref x0), (.int x1)] 3 = mkF m 0 #[.val (.ref x0), .val (.int x1), .unset] [] := by first | (simp [entryFrame, mkF, argsToLocals, Value.category, maxLocals]; done) | rfl
def Q_rmCat1 (Z : State) (t ca cg : Nat) (fc : Nat → Int32) (cl : Cell) (cw : Value) (k : Int32) (h0 : Heap) (n0 : Nat) (vv : Option Value) (h : Heap) (L : List Loc) : Prop := vv = some cw ∧ Fr n0 L ∧ h = h0
set_option maxRecDepth 65536 in
set_option maxHeartbeats 40000000 in
theorem rmCat1 (l : Launch) (Z : State) (a0 : Array Value) (hw : ∀ d ∈ tables_1, d.before a0 Z = true) (ws : List Jvm.Cond) (t ca cg : Nat) (fc : Nat → Int32) (cl : Cell) (cw : Value) (k : Int32) (h0 : Heap) (n0 : Nat) (Z0 : n0 ≤ h0.size) (O0 : Old Z n0 h0) (SCG : Sta Z Z.heap "com/example/yusen_ledger/yusenledger/HolderTable" "CATEGORIES" "[Lcom/example/yusen_ledger/yusenledger/HolderCategory;" (.ref cg)) (AC : Arr Z Z.heap cg cl (.object "com/example/yusen_ledger/yusenledger/HolderCategory")) (CN : cl.slots.size = 7) (t3 : Fld Z h0 t "com/example/yusen_ledger/yusenledger/HolderTable" "categories" "[B" (.ref ca)) (PC : oAI Z h0 ca .byte 8 fc) (hct : oCt Z cl cw k) (hfk : fc 1 = k) :
    MetFree l (⟨"com/example/yusen_ledger/yusenledger/HolderTable", "category", "(I)Lcom/example/yusen_ledger/yusenledger/HolderCategory;"⟩ : MethodName) (head1 (Jvm.Cond.code (⟨"com/example/yusen_ledger/yusenledger/HolderTable", "category", "(I)Lcom/example/yusen_ledger/yusenledger/HolderCategory;"⟩ : MethodName) prog_21_method_9_code 3 (some (.object "com/example/yusen_ledger/yusenledger/HolderCategory")) :: ws) ({ frames := 0, cells := 0, slots := 0, locals := 0 } : Room)) (fun aA uU => aA = #[(.ref t), (.int (1 : Int32))] ∧ Z.Warmed39 uU.vm ∧ uU.heap = h0) (fun _ _ _ _ _ => True) (fun _ uU oO uU' => ∃ vV lL, oO = .returned vV ∧ Q_rmCat1 Z t ca cg fc cl cw k h0 n0 vV uU'.heap lL ∧ FrameEnd uU oO uU' lL ({ frames := 0, cells := 0, slots := 0, locals := 0 } : Room).cells ({ frames := 0, cells := 0, slots := 0, locals := 0 } : Room).slots) := by
  refine MetFree.of_bodySF (plainFor_of_name pn_HolderTable) hisR ?_
  intro p e s m args below meth c s₁ Bd hml0 hP hK
  obtain ⟨rfl, hZ, hh⟩ := hP
  have hx := Bd.exec
  have hby := Bd.bytes
  have hml : c.maxLocals = 3 := hml0
  have hown : s.vm.findClass "com/example/yusen_ledger/yusenledger/HolderTable" = some m.cls := findClass_of_methodNamed Bd.named
  have hnm := (name_of_methodNamed Bd.named Bd.method).1
  have X0 : Stand p l e ({ frames := 0, cells := 0, slots := 0, locals := 0 } : Room) s m #[(.ref t), (.int (1 : Int32))] below meth c s₁ [] 0 0 := Stand.of_body Bd
  have e0 : s₁.heap = h0 := by rw [← hh, Bd.state]; rfl
  have N0 := Fr.nil n0
  refine oEnter (oCast (ef_rmCat1 m t (1 : Int32) ) ?_)
  show oGl p e below (s₁.setTop (mkF m 0 #[.val (.ref t), .val (.int (1 : Int32)), .unset] [])) _
  rcases hct with ⟨rfl, hk0⟩ | ⟨xc, oo, rfl, hoo, hk1, Exc, Fxc, hel⟩
  · skip
    refine saconst_null X0 hx (hb hby d28_0) rfl  (pc' := 1) ?_
    refine sastoreN X0 hx (hb hby d28_1) rfl rfl rfl (l' := #[.val (.ref t), .val (.int (1 : Int32)), .val .null]) (pc' := 2) ?_
    refine saloadN X0 hx (hb hby d28_2) rfl rfl rfl (pc' := 3) ?_
    obtain ⟨T1, X1, e1, st1⟩ := getF X0 hx hZ hown (host := "") (Or.inl (hw _ (List.mem_of_getElem? (i := 75) rfl))) Via.refl e0 t3 (g := (mkF m 3 #[.val (.ref t), .val (.int (1 : Int32)), .val .null] [(.ref t)])) rfl rfl (hb hby d28_3)
    refine oOn st1 ?_
    show oGl p e below (T1.setTop (mkF m 6 #[.val (.ref t), .val (.int (1 : Int32)), .val .null] [(.ref ca)])) _
    refine siloadN X1 hx (hb hby d28_6) rfl rfl (pc' := 7) ?_
    refine oOn (PC.ldB X1 hx hZ e1 (j := (1 : Int32)) (by decide) (g := (mkF m 7 #[.val (.ref t), .val (.int (1 : Int32)), .val .null] [(.int (1 : Int32)), (.ref ca)])) rfl rfl (hb hby d28_7)) ?_
    show oGl p e below (T1.setTop (mkF m 8 #[.val (.ref t), .val (.int (1 : Int32)), .val .null] [(.int (fc 1))])) _
    refine sifY X1 hx (hb hby d28_8) (by decide) (by decide) (flt ((by rw [hfk, hk0]; decide) : ¬ ((0 : Int32) < (fc 1)))).2.2.2 (pc' := 24) ?_
    refine saloadN X1 hx (hb hby d28_24) rfl rfl rfl (pc' := 25) ?_
    refine oRetR X1 hx Bd.notSynchronized Bd.returns rfl rfl (hb hby d28_25) (by decide) (by decide) ?_
    show Q_rmCat1 Z t ca cg fc cl .null k h0 n0 _ T1.heap _
    rw [e1]
    exact ⟨rfl, N0, rfl⟩
  · skip
    refine saconst_null X0 hx (hb hby d28_0) rfl  (pc' := 1) ?_
    refine sastoreN X0 hx (hb hby d28_1) rfl rfl rfl (l' := #[.val (.ref t), .val (.int (1 : Int32)), .val .null]) (pc' := 2) ?_
    refine saloadN X0 hx (hb hby d28_2) rfl rfl rfl (pc' := 3) ?_
    obtain ⟨T2, X2, e2, st2⟩ := getF X0 hx hZ hown (host := "") (Or.inl (hw _ (List.mem_of_getElem? (i := 75) rfl))) Via.refl e0 t3 (g := (mkF m 3 #[.val (.ref t), .val (.int (1 : Int32)), .val .null] [(.ref t)])) rfl rfl (hb hby d28_3)
    refine oOn st2 ?_
    show oGl p e below (T2.setTop (mkF m 6 #[.val (.ref t), .val (.int (1 : Int32)), .val .null] [(.ref ca)])) _
    refine siloadN X2 hx (hb hby d28_6) rfl rfl (pc' := 7) ?_
    refine oOn (PC.ldB X2 hx hZ e2 (j := (1 : Int32)) (by decide) (g := (mkF m 7 #[.val (.ref t), .val (.int (1 : Int32)), .val .null] [(.int (1 : Int32)), (.ref ca)])) rfl rfl (hb hby d28_7)) ?_
    show oGl p e below (T2.setTop (mkF m 8 #[.val (.ref t), .val (.int (1 : Int32)), .val .null] [(.int (fc 1))])) _
    refine sifN X2 hx (hb hby d28_8) rfl (tlt ((by rw [hfk, hk1]; exact own_op hoo) : (0 : Int32) < (fc 1))).2.2.2 (pc' := 11) ?_
    obtain ⟨T3, X3, e3, st3⟩ := getS2 X2 hx hZ hown (host := "") (Or.inl (hw _ (List.mem_of_getElem? (i := 177) rfl))) Via.refl e2 (SCG.ext O0.2) (g := (mkF m 11 #[.val (.ref t), .val (.int (1 : Int32)), .val .null] [])) rfl (hb hby d28_11)
    refine oOn st3 ?_
    show oGl p e below (T3.setTop (mkF m 14 #[.val (.ref t), .val (.int (1 : Int32)), .val .null] [(.ref cg)])) _
    refine saloadN X3 hx (hb hby d28_14) rfl rfl rfl (pc' := 15) ?_
    obtain ⟨T4, X4, e4, st4⟩ := getF X3 hx hZ hown (host := "") (Or.inl (hw _ (List.mem_of_getElem? (i := 75) rfl))) Via.refl e3 t3 (g := (mkF m 15 #[.val (.ref t), .val (.int (1 : Int32)), .val .null] [(.ref t), (.ref cg)])) rfl rfl (hb hby d28_15)
    refine oOn st4 ?_
    show oGl p e below (T4.setTop (mkF m 18 #[.val (.ref t), .val (.int (1 : Int32)), .val .null] [(.ref ca), (.ref cg)])) _
    refine siloadN X4 hx (hb hby d28_18) rfl rfl (pc' := 19) ?_
    refine oOn (PC.ldB X4 hx hZ e4 (j := (1 : Int32)) (by decide) (g := (mkF m 19 #[.val (.ref t), .val (.int (1 : Int32)), .val .null] [(.int (1 : Int32)), (.ref ca), (.ref cg)])) rfl rfl (hb hby d28_19)) ?_
    show oGl p e below (T4.setTop (mkF m 20 #[.val (.ref t), .val (.int (1 : Int32)), .val .null] [(.int (fc 1)), (.ref cg)])) _
    refine siconst X4 hx (hb hby d28_20) rfl rfl (z := 1) (pc' := 21) ?_
    refine sisub X4 hx (hb hby d28_21) rfl rfl (pc' := 22) ?_
    have e22 : ((fc 1) - (1 : Int32)) = oo := by rw [hfk, hk1]; exact own_om hoo
    rw [e22]
    show oGl p e below (T4.setTop (mkF m 22 #[.val (.ref t), .val (.int (1 : Int32)), .val .null] [(.int oo), (.ref cg)])) _
    refine oOn (X4.aaload hx (j := oo) (v := .ref xc) (by rw [e4]; exact (AC.ext O0.2).1) (State.isArrayOf_alike hZ.alike AC.2.1) rfl AC.2.2 (oNotIn CN hoo) hel (g := (mkF m 22 #[.val (.ref t), .val (.int (1 : Int32)), .val .null] [(.int oo), (.ref cg)])) rfl rfl (hb hby d28_22)) ?_
    show oGl p e below (T4.setTop (mkF m 23 #[.val (.ref t), .val (.int (1 : Int32)), .val .null] [(.ref xc)])) _
    refine sastoreN X4 hx (hb hby d28_23) rfl rfl rfl (l' := #[.val (.ref t), .val (.int (1 : Int32)), .val (.ref xc)]) (pc' := 24) ?_
    refine saloadN X4 hx (hb hby d28_24) rfl rfl rfl (pc' := 25) ?_
    refine oRetR X4 hx Bd.notSynchronized Bd.returns rfl rfl (hb hby d28_25) (by decide) (by decide) ?_
    show Q_rmCat1 Z t ca cg fc cl (.ref xc) k h0 n0 _ T4.heap _
    rw [e4]
    exact ⟨rfl, N0, rfl⟩
theorem d13_0 : decode prog_21_method_2_code 0 = .ok (.aload_n 0, 1) := by decide +kernel
theorem d13_1 : decode prog_21_method_2_code 1 = .ok (.invokespecial 11, 3) := by decide +kernel
theorem d13_4 : decode prog_21_method_2_code 4 = .ok (.aload_n 0, 1) := by decide +kernel
theorem d13_5 : decode prog_21_method_2_code 5 = .ok (.bipush 64, 2) := by decide +kernel
theorem d13_7 : decode prog_21_method_2_code 7 = .ok (.putfield 16, 3) := by decide +kernel
theorem d13_10 : decode prog_21_method_2_code 10 = .ok (.aload_n 0, 1) := by decide +kernel
theorem d13_11 : decode prog_21_method_2_code 11 = .ok (.iload_n 1, 1) := by decide +kernel
theorem d13_12 : decode prog_21_method_2_code 12 = .ok (.putfield 20, 3) := by decide +kernel
theorem d13_15 : decode prog_21_method_2_code 15 = .ok (.aload_n 0, 1) := by decide +kernel
theorem d13_16 : decode prog_21_method_2_code 16 = .ok (.iload_n 2, 1) := by decide +kernel
theorem d13_17 : decode prog_21_method_2_code 17 = .ok (.putfield 23, 3) := by decide +kernel
theorem d13_20 : decode prog_21_method_2_code 20 = .ok (.aload_n 0, 1) := by decide +kernel
theorem d13_21 : decode prog_21_method_2_code 21 = .ok (.aload_n 3, 1) := by decide +kernel
theorem d13_22 : decode prog_21_method_2_code 22 = .ok (.putfield 26, 3) := by decide +kernel
theorem d13_25 : decode prog_21_method_2_code 25 = .ok (.aload_n 0, 1) := by decide +kernel
theorem d13_26 : decode prog_21_method_2_code 26 = .ok (.aload 4, 2) := by decide +kernel
theorem d13_28 : decode prog_21_method_2_code 28 = .ok (.putfield 30, 3) := by decide +kernel
theorem d13_31 : decode prog_21_method_2_code 31 = .ok (.aload_n 0, 1) := by decide +kernel
theorem d13_32 : decode prog_21_method_2_code 32 = .ok (.aload 5, 2) := by decide +kernel
theorem d13_34 : decode prog_21_method_2_code 34 = .ok (.putfield 34, 3) := by decide +kernel
theorem d13_37 : decode prog_21_method_2_code 37 = .ok (.aload_n 0, 1) := by decide +kernel
theorem d13_38 : decode prog_21_method_2_code 38 = .ok (.aload 6, 2) := by decide +kernel
theorem d13_40 : decode prog_21_method_2_code 40 = .ok (.putfield 37, 3) := by decide +kernel
theorem d13_43 : decode prog_21_method_2_code 43 = .ok (.aload_n 0, 1) := by decide +kernel
theorem d13_44 : decode prog_21_method_2_code 44 = .ok (.aload 7, 2) := by decide +kernel
theorem d13_46 : decode prog_21_method_2_code 46 = .ok (.putfield 41, 3) := by decide +kernel
theorem d13_49 : decode prog_21_method_2_code 49 = .ok (.aload_n 0, 1) := by decide +kernel
theorem d13_50 : decode prog_21_method_2_code 50 = .ok (.aload 8, 2) := by decide +kernel
theorem d13_52 : decode prog_21_method_2_code 52 = .ok (.putfield 44, 3) := by decide +kernel
theorem d13_55 : decode prog_21_method_2_code 55 = .ok (.return_, 1) := by decide +kernel
theorem ef_rmTi9 (m : MethodId) (x0 : Nat) (x1 : Int32) (x2 : Int32) (x3 : Nat) (x4 : Nat) (x5 : Nat) (x6 : Nat) (x7 : Nat) (x8 : Nat)  : entryFrame m #[(.ref x0), (.int x1), (.int x2), (.ref x3), (.ref x4), (.ref x5), (.ref x6), (.ref x7), (.ref x8)] 9 = mkF m 0 #[.val (.ref x0), .val (.int x1), .val (.int x2), .val (.ref x3), .val (.ref x4), .val (.ref x5), .val (.ref x6), .val (.ref x7), .val (.ref x8)] [] := by first | (simp [entryFrame, mkF, argsToLocals, Value.category, maxLocals]; done) | rfl
def Q_rmTi9 (Z : State) (t tx bo ca sh sl ha : Nat) (q : Int32) (h0 : Heap) (n0 : Nat) (vv : Option Value) (h : Heap) (L : List Loc) : Prop := vv = none ∧ Fr n0 L ∧ Keep h0 h [t] ∧ Exa Z h t "com/example/yusen_ledger/yusenledger/HolderTable" ∧ Fld Z h t "com/example/yusen_ledger/yusenledger/HolderTable" "text" "[B" (.ref tx) ∧ Fld Z h t "com/example/yusen_ledger/yusenledger/HolderTable" "bounds" "[I" (.ref bo) ∧ Fld Z h t "com/example/yusen_ledger/yusenledger/HolderTable" "categories" "[B" (.ref ca) ∧ Fld Z h t "com/example/yusen_ledger/yusenledger/HolderTable" "slots" "[I" (.ref sl) ∧ Fld Z h t "com/example/yusen_ledger/yusenledger/HolderTable" "hash" "Lcom/example/yusen_ledger/yusenledger/SipHash;" (.ref ha) ∧ Fld Z h t "com/example/yusen_ledger/yusenledger/HolderTable" "size" "I" (.int 0) ∧ Fld Z h t "com/example/yusen_ledger/yusenledger/HolderTable" "reach" "I" (.int 64)
set_option maxRecDepth 65536 in
set_option maxHeartbeats 40000000 in
theorem rmTi9 (l : Launch) (Z : State) (a0 : Array Value) (hw : ∀ d ∈ tables_1, d.before a0 Z = true) (ws : List Jvm.Cond) (t tx bo ca sh sl ha : Nat) (q : Int32) (h0 : Heap) (n0 : Nat) (Z0 : n0 ≤ h0.size) (y9 : Exa Z h0 t "com/example/yusen_ledger/yusenledger/HolderTable") (y0 : Fld Z h0 t "com/example/yusen_ledger/yusenledger/HolderTable" "reach" "I" (.int 0)) (y1 : Fld Z h0 t "com/example/yusen_ledger/yusenledger/HolderTable" "classes" "I" (.int 0)) (y2 : Fld Z h0 t "com/example/yusen_ledger/yusenledger/HolderTable" "size" "I" (.int 0)) (y3 : Fld Z h0 t "com/example/yusen_ledger/yusenledger/HolderTable" "text" "[B" .null) (y4 : Fld Z h0 t "com/example/yusen_ledger/yusenledger/HolderTable" "bounds" "[I" .null) (y5 : Fld Z h0 t "com/example/yusen_ledger/yusenledger/HolderTable" "categories" "[B" .null) (y6 : Fld Z h0 t "com/example/yusen_ledger/yusenledger/HolderTable" "shares" "[J" .null) (y7 : Fld Z h0 t "com/example/yusen_ledger/yusenledger/HolderTable" "slots" "[I" .null) (y8 : Fld Z h0 t "com/example/yusen_ledger/yusenledger/HolderTable" "hash" "Lcom/example/yusen_ledger/yusenledger/SipHash;" .null) (gt : n0 ≤ t) :
    MetFree l (⟨"com/example/yusen_ledger/yusenledger/HolderTable", "<init>", "(II[B[I[B[J[ILcom/example/yusen_ledger/yusenledger/SipHash;)V"⟩ : MethodName) (head1 (Jvm.Cond.code (⟨"com/example/yusen_ledger/yusenledger/HolderTable", "<init>", "(II[B[I[B[J[ILcom/example/yusen_ledger/yusenledger/SipHash;)V"⟩ : MethodName) prog_21_method_2_code 9 (none : Option FieldType) :: ws) ({ frames := 1, cells := 0, slots := 0, locals := 12 } : Room)) (fun aA uU => aA = #[(.ref t), (.int q), (.int (0 : Int32)), (.ref tx), (.ref bo), (.ref ca), (.ref sh), (.ref sl), (.ref ha)] ∧ Z.Warmed39 uU.vm ∧ uU.heap = h0) (fun _ _ _ _ _ => True) (fun _ uU oO uU' => ∃ vV lL, oO = .returned vV ∧ Q_rmTi9 Z t tx bo ca sh sl ha q h0 n0 vV uU'.heap lL ∧ FrameEnd uU oO uU' lL ({ frames := 1, cells := 0, slots := 0, locals := 12 } : Room).cells ({ frames := 1, cells := 0, slots := 0, locals := 12 } : Room).slots) := by
  refine MetFree.of_bodySF (plainFor_of_name pn_HolderTable) hisR ?_
  intro p e s m args below meth c s₁ Bd hml0 hP hK
  obtain ⟨rfl, hZ, hh⟩ := hP
  have hx := Bd.exec
  have hby := Bd.bytes
  have hml : c.maxLocals = 9 := hml0
  have hown : s.vm.findClass "com/example/yusen_ledger/yusenledger/HolderTable" = some m.cls := findClass_of_methodNamed Bd.named
  have hnm := (name_of_methodNamed Bd.named Bd.method).1
  have X0 : Stand p l e ({ frames := 1, cells := 0, slots := 0, locals := 12 } : Room) s m #[(.ref t), (.int q), (.int (0 : Int32)), (.ref tx), (.ref bo), (.ref ca), (.ref sh), (.ref sl), (.ref ha)] below meth c s₁ [] 0 0 := Stand.of_body Bd
  have e0 : s₁.heap = h0 := by rw [← hh, Bd.state]; rfl
  have N0 := Fr.nil n0
  have lT : @LT.lt Nat _ t h0.size := y9.lt
  refine oEnter (oCast (ef_rmTi9 m t q (0 : Int32) tx bo ca sh sl ha ) ?_)
  show oGl p e below (s₁.setTop (mkF m 0 #[.val (.ref t), .val (.int q), .val (.int (0 : Int32)), .val (.ref tx), .val (.ref bo), .val (.ref ca), .val (.ref sh), .val (.ref sl), .val (.ref ha)] [])) _
  refine saloadN X0 hx (hb hby d13_0) rfl rfl rfl (pc' := 1) ?_
  obtain ⟨T1, X1, e1, st1⟩ := initO X0 hx hZ hown (hw _ (List.mem_of_getElem? (i := 64) rfl)) (hw _ (List.mem_of_getElem? (i := 28) rfl)) (hw _ (List.mem_of_getElem? (i := 29) rfl)) e0 (g := (mkF m 1 #[.val (.ref t), .val (.int q), .val (.int (0 : Int32)), .val (.ref tx), .val (.ref bo), .val (.ref ca), .val (.ref sh), .val (.ref sl), .val (.ref ha)] [(.ref t)])) rfl (by rw [hml]; rfl) rfl (hb hby d13_1) (by decide) (W := 0) (by show 2 * 0 + _ ≤ _; exact Nat.le_of_eq rfl) (by decide)
  refine oOn st1 ?_
  show oGl p e below (T1.setTop (mkF m 4 #[.val (.ref t), .val (.int q), .val (.int (0 : Int32)), .val (.ref tx), .val (.ref bo), .val (.ref ca), .val (.ref sh), .val (.ref sl), .val (.ref ha)] [])) _
  refine saloadN X1 hx (hb hby d13_4) rfl rfl rfl (pc' := 5) ?_
  refine sbipush X1 hx (hb hby d13_5) rfl rfl (z := 64) (pc' := 7) ?_
  obtain ⟨T2, h2, X2, e2, W2, st2⟩ := putF X1 hx hZ hown (host := "") (Or.inl (hw _ (List.mem_of_getElem? (i := 65) rfl))) Via.refl e1 y0 y9 (Or.inl (hw _ (List.mem_of_getElem? (i := 66) rfl))) (hw _ (List.mem_of_getElem? (i := 52) rfl)) (ty := .int) (by decide) rfl rfl (g := (mkF m 7 #[.val (.ref t), .val (.int q), .val (.int (0 : Int32)), .val (.ref tx), .val (.ref bo), .val (.ref ca), .val (.ref sh), .val (.ref sl), .val (.ref ha)] [(.int (64 : Int32)), (.ref t)])) rfl rfl (hb hby d13_7)
  refine oOn st2 ?_
  have z3 : h0.size ≤ h2.size := Nat.le_of_eq W2.size.symm
  have N2 := Fr.snoc X2 N0 (by omega)
  have f2 := Fld.same W2 y0
  show oGl p e below (T2.setTop (mkF m 10 #[.val (.ref t), .val (.int q), .val (.int (0 : Int32)), .val (.ref tx), .val (.ref bo), .val (.ref ca), .val (.ref sh), .val (.ref sl), .val (.ref ha)] [])) _
  refine saloadN X2 hx (hb hby d13_10) rfl rfl rfl (pc' := 11) ?_
  refine siloadN X2 hx (hb hby d13_11) rfl rfl (pc' := 12) ?_
  have f5 := (y1.other W2 (Or.inr (slot_ne (Or.inr (hw _ (List.mem_of_getElem? (i := 68) rfl))) (Or.inl (hw _ (List.mem_of_getElem? (i := 66) rfl))) (by decide) (t := .int) (t' := .int) (by decide) (by decide))))
  have f6 := (y9.wr W2)
  obtain ⟨T4, h4, X4, e4, W4, st4⟩ := putF X2 hx hZ hown (host := "") (Or.inl (hw _ (List.mem_of_getElem? (i := 67) rfl))) Via.refl e2 f5 f6 (Or.inr ⟨(hw _ (List.mem_of_getElem? (i := 68) rfl)), rfl, hnm⟩) (hw _ (List.mem_of_getElem? (i := 52) rfl)) (ty := .int) (by decide) rfl rfl (g := (mkF m 12 #[.val (.ref t), .val (.int q), .val (.int (0 : Int32)), .val (.ref tx), .val (.ref bo), .val (.ref ca), .val (.ref sh), .val (.ref sl), .val (.ref ha)] [(.int q), (.ref t)])) rfl rfl (hb hby d13_12)
  refine oOn st4 ?_
  have z7 : h2.size ≤ h4.size := Nat.le_of_eq W4.size.symm
  have N4 := Fr.snoc X4 N2 (by omega)
  have f4 := Fld.same W4 f5
  show oGl p e below (T4.setTop (mkF m 15 #[.val (.ref t), .val (.int q), .val (.int (0 : Int32)), .val (.ref tx), .val (.ref bo), .val (.ref ca), .val (.ref sh), .val (.ref sl), .val (.ref ha)] [])) _
  refine saloadN X4 hx (hb hby d13_15) rfl rfl rfl (pc' := 16) ?_
  refine siloadN X4 hx (hb hby d13_16) rfl rfl (pc' := 17) ?_
  have f9 := ((y2.other W2 (Or.inr (slot_ne (Or.inl (hw _ (List.mem_of_getElem? (i := 70) rfl))) (Or.inl (hw _ (List.mem_of_getElem? (i := 66) rfl))) (by decide) (t := .int) (t' := .int) (by decide) (by decide)))).other W4 (Or.inr (slot_ne (Or.inl (hw _ (List.mem_of_getElem? (i := 70) rfl))) (Or.inr (hw _ (List.mem_of_getElem? (i := 68) rfl))) (by decide) (t := .int) (t' := .int) (by decide) (by decide))))
  have f10 := (f6.wr W4)
  obtain ⟨T8, h8, X8, e8, W8, st8⟩ := putF X4 hx hZ hown (host := "") (Or.inl (hw _ (List.mem_of_getElem? (i := 69) rfl))) Via.refl e4 f9 f10 (Or.inl (hw _ (List.mem_of_getElem? (i := 70) rfl))) (hw _ (List.mem_of_getElem? (i := 52) rfl)) (ty := .int) (by decide) rfl rfl (g := (mkF m 17 #[.val (.ref t), .val (.int q), .val (.int (0 : Int32)), .val (.ref tx), .val (.ref bo), .val (.ref ca), .val (.ref sh), .val (.ref sl), .val (.ref ha)] [(.int (0 : Int32)), (.ref t)])) rfl rfl (hb hby d13_17)
  refine oOn st8 ?_
  have z11 : h4.size ≤ h8.size := Nat.le_of_eq W8.size.symm
  have N8 := Fr.snoc X8 N4 (by omega)
  have f8 := Fld.same W8 f9
  show oGl p e below (T8.setTop (mkF m 20 #[.val (.ref t), .val (.int q), .val (.int (0 : Int32)), .val (.ref tx), .val (.ref bo), .val (.ref ca), .val (.ref sh), .val (.ref sl), .val (.ref ha)] [])) _
  refine saloadN X8 hx (hb hby d13_20) rfl rfl rfl (pc' := 21) ?_
  refine saloadN X8 hx (hb hby d13_21) rfl rfl rfl (pc' := 22) ?_
  have f13 := (((y3.other W2 (Or.inr (slot_ne (Or.inl (hw _ (List.mem_of_getElem? (i := 72) rfl))) (Or.inl (hw _ (List.mem_of_getElem? (i := 66) rfl))) (by decide) (t := (.array .byte)) (t' := .int) (by decide) (by decide)))).other W4 (Or.inr (slot_ne (Or.inl (hw _ (List.mem_of_getElem? (i := 72) rfl))) (Or.inr (hw _ (List.mem_of_getElem? (i := 68) rfl))) (by decide) (t := (.array .byte)) (t' := .int) (by decide) (by decide)))).other W8 (Or.inr (slot_ne (Or.inl (hw _ (List.mem_of_getElem? (i := 72) rfl))) (Or.inl (hw _ (List.mem_of_getElem? (i := 70) rfl))) (by decide) (t := (.array .byte)) (t' := .int) (by decide) (by decide))))
  have f14 := (f10.wr W8)
  obtain ⟨T12, h12, X12, e12, W12, st12⟩ := putF X8 hx hZ hown (host := "") (Or.inl (hw _ (List.mem_of_getElem? (i := 71) rfl))) Via.refl e8 f13 f14 (Or.inl (hw _ (List.mem_of_getElem? (i := 72) rfl))) (hw _ (List.mem_of_getElem? (i := 52) rfl)) (ty := (.array .byte)) (by decide) rfl rfl (g := (mkF m 22 #[.val (.ref t), .val (.int q), .val (.int (0 : Int32)), .val (.ref tx), .val (.ref bo), .val (.ref ca), .val (.ref sh), .val (.ref sl), .val (.ref ha)] [(.ref tx), (.ref t)])) rfl rfl (hb hby d13_22)
  refine oOn st12 ?_
  have z15 : h8.size ≤ h12.size := Nat.le_of_eq W12.size.symm
  have N12 := Fr.snoc X12 N8 (by omega)
  have f12 := Fld.same W12 f13
  show oGl p e below (T12.setTop (mkF m 25 #[.val (.ref t), .val (.int q), .val (.int (0 : Int32)), .val (.ref tx), .val (.ref bo), .val (.ref ca), .val (.ref sh), .val (.ref sl), .val (.ref ha)] [])) _
  refine saloadN X12 hx (hb hby d13_25) rfl rfl rfl (pc' := 26) ?_
  refine saload X12 hx (hb hby d13_26) rfl rfl rfl (pc' := 28) ?_
  have f17 := ((((y4.other W2 (Or.inr (slot_ne (Or.inl (hw _ (List.mem_of_getElem? (i := 74) rfl))) (Or.inl (hw _ (List.mem_of_getElem? (i := 66) rfl))) (by decide) (t := (.array .int)) (t' := .int) (by decide) (by decide)))).other W4 (Or.inr (slot_ne (Or.inl (hw _ (List.mem_of_getElem? (i := 74) rfl))) (Or.inr (hw _ (List.mem_of_getElem? (i := 68) rfl))) (by decide) (t := (.array .int)) (t' := .int) (by decide) (by decide)))).other W8 (Or.inr (slot_ne (Or.inl (hw _ (List.mem_of_getElem? (i := 74) rfl))) (Or.inl (hw _ (List.mem_of_getElem? (i := 70) rfl))) (by decide) (t := (.array .int)) (t' := .int) (by decide) (by decide)))).other W12 (Or.inr (slot_ne (Or.inl (hw _ (List.mem_of_getElem? (i := 74) rfl))) (Or.inl (hw _ (List.mem_of_getElem? (i := 72) rfl))) (by decide) (t := (.array .int)) (t' := (.array .byte)) (by decide) (by decide))))
  have f18 := (f14.wr W12)
  obtain ⟨T16, h16, X16, e16, W16, st16⟩ := putF X12 hx hZ hown (host := "") (Or.inl (hw _ (List.mem_of_getElem? (i := 73) rfl))) Via.refl e12 f17 f18 (Or.inl (hw _ (List.mem_of_getElem? (i := 74) rfl))) (hw _ (List.mem_of_getElem? (i := 52) rfl)) (ty := (.array .int)) (by decide) rfl rfl (g := (mkF m 28 #[.val (.ref t), .val (.int q), .val (.int (0 : Int32)), .val (.ref tx), .val (.ref bo), .val (.ref ca), .val (.ref sh), .val (.ref sl), .val (.ref ha)] [(.ref bo), (.ref t)])) rfl rfl (hb hby d13_28)
  refine oOn st16 ?_
  have z19 : h12.size ≤ h16.size := Nat.le_of_eq W16.size.symm
  have N16 := Fr.snoc X16 N12 (by omega)
  have f16 := Fld.same W16 f17
  show oGl p e below (T16.setTop (mkF m 31 #[.val (.ref t), .val (.int q), .val (.int (0 : Int32)), .val (.ref tx), .val (.ref bo), .val (.ref ca), .val (.ref sh), .val (.ref sl), .val (.ref ha)] [])) _
  refine saloadN X16 hx (hb hby d13_31) rfl rfl rfl (pc' := 32) ?_
  refine saload X16 hx (hb hby d13_32) rfl rfl rfl (pc' := 34) ?_
  have f21 := (((((y5.other W2 (Or.inr (slot_ne (Or.inl (hw _ (List.mem_of_getElem? (i := 76) rfl))) (Or.inl (hw _ (List.mem_of_getElem? (i := 66) rfl))) (by decide) (t := (.array .byte)) (t' := .int) (by decide) (by decide)))).other W4 (Or.inr (slot_ne (Or.inl (hw _ (List.mem_of_getElem? (i := 76) rfl))) (Or.inr (hw _ (List.mem_of_getElem? (i := 68) rfl))) (by decide) (t := (.array .byte)) (t' := .int) (by decide) (by decide)))).other W8 (Or.inr (slot_ne (Or.inl (hw _ (List.mem_of_getElem? (i := 76) rfl))) (Or.inl (hw _ (List.mem_of_getElem? (i := 70) rfl))) (by decide) (t := (.array .byte)) (t' := .int) (by decide) (by decide)))).other W12 (Or.inr (slot_ne (Or.inl (hw _ (List.mem_of_getElem? (i := 76) rfl))) (Or.inl (hw _ (List.mem_of_getElem? (i := 72) rfl))) (by decide) (t := (.array .byte)) (t' := (.array .byte)) (by decide) (by decide)))).other W16 (Or.inr (slot_ne (Or.inl (hw _ (List.mem_of_getElem? (i := 76) rfl))) (Or.inl (hw _ (List.mem_of_getElem? (i := 74) rfl))) (by decide) (t := (.array .byte)) (t' := (.array .int)) (by decide) (by decide))))
  have f22 := (f18.wr W16)
  obtain ⟨T20, h20, X20, e20, W20, st20⟩ := putF X16 hx hZ hown (host := "") (Or.inl (hw _ (List.mem_of_getElem? (i := 75) rfl))) Via.refl e16 f21 f22 (Or.inl (hw _ (List.mem_of_getElem? (i := 76) rfl))) (hw _ (List.mem_of_getElem? (i := 52) rfl)) (ty := (.array .byte)) (by decide) rfl rfl (g := (mkF m 34 #[.val (.ref t), .val (.int q), .val (.int (0 : Int32)), .val (.ref tx), .val (.ref bo), .val (.ref ca), .val (.ref sh), .val (.ref sl), .val (.ref ha)] [(.ref ca), (.ref t)])) rfl rfl (hb hby d13_34)
  refine oOn st20 ?_
  have z23 : h16.size ≤ h20.size := Nat.le_of_eq W20.size.symm
  have N20 := Fr.snoc X20 N16 (by omega)
  have f20 := Fld.same W20 f21
  show oGl p e below (T20.setTop (mkF m 37 #[.val (.ref t), .val (.int q), .val (.int (0 : Int32)), .val (.ref tx), .val (.ref bo), .val (.ref ca), .val (.ref sh), .val (.ref sl), .val (.ref ha)] [])) _
  refine saloadN X20 hx (hb hby d13_37) rfl rfl rfl (pc' := 38) ?_
  refine saload X20 hx (hb hby d13_38) rfl rfl rfl (pc' := 40) ?_
  have f25 := ((((((y6.other W2 (Or.inr (slot_ne (Or.inl (hw _ (List.mem_of_getElem? (i := 78) rfl))) (Or.inl (hw _ (List.mem_of_getElem? (i := 66) rfl))) (by decide) (t := (.array .long)) (t' := .int) (by decide) (by decide)))).other W4 (Or.inr (slot_ne (Or.inl (hw _ (List.mem_of_getElem? (i := 78) rfl))) (Or.inr (hw _ (List.mem_of_getElem? (i := 68) rfl))) (by decide) (t := (.array .long)) (t' := .int) (by decide) (by decide)))).other W8 (Or.inr (slot_ne (Or.inl (hw _ (List.mem_of_getElem? (i := 78) rfl))) (Or.inl (hw _ (List.mem_of_getElem? (i := 70) rfl))) (by decide) (t := (.array .long)) (t' := .int) (by decide) (by decide)))).other W12 (Or.inr (slot_ne (Or.inl (hw _ (List.mem_of_getElem? (i := 78) rfl))) (Or.inl (hw _ (List.mem_of_getElem? (i := 72) rfl))) (by decide) (t := (.array .long)) (t' := (.array .byte)) (by decide) (by decide)))).other W16 (Or.inr (slot_ne (Or.inl (hw _ (List.mem_of_getElem? (i := 78) rfl))) (Or.inl (hw _ (List.mem_of_getElem? (i := 74) rfl))) (by decide) (t := (.array .long)) (t' := (.array .int)) (by decide) (by decide)))).other W20 (Or.inr (slot_ne (Or.inl (hw _ (List.mem_of_getElem? (i := 78) rfl))) (Or.inl (hw _ (List.mem_of_getElem? (i := 76) rfl))) (by decide) (t := (.array .long)) (t' := (.array .byte)) (by decide) (by decide))))
  have f26 := (f22.wr W20)
  obtain ⟨T24, h24, X24, e24, W24, st24⟩ := putF X20 hx hZ hown (host := "") (Or.inl (hw _ (List.mem_of_getElem? (i := 77) rfl))) Via.refl e20 f25 f26 (Or.inl (hw _ (List.mem_of_getElem? (i := 78) rfl))) (hw _ (List.mem_of_getElem? (i := 52) rfl)) (ty := (.array .long)) (by decide) rfl rfl (g := (mkF m 40 #[.val (.ref t), .val (.int q), .val (.int (0 : Int32)), .val (.ref tx), .val (.ref bo), .val (.ref ca), .val (.ref sh), .val (.ref sl), .val (.ref ha)] [(.ref sh), (.ref t)])) rfl rfl (hb hby d13_40)
  refine oOn st24 ?_
  have z27 : h20.size ≤ h24.size := Nat.le_of_eq W24.size.symm
  have N24 := Fr.snoc X24 N20 (by omega)
  have f24 := Fld.same W24 f25
  show oGl p e below (T24.setTop (mkF m 43 #[.val (.ref t), .val (.int q), .val (.int (0 : Int32)), .val (.ref tx), .val (.ref bo), .val (.ref ca), .val (.ref sh), .val (.ref sl), .val (.ref ha)] [])) _
  refine saloadN X24 hx (hb hby d13_43) rfl rfl rfl (pc' := 44) ?_
  refine saload X24 hx (hb hby d13_44) rfl rfl rfl (pc' := 46) ?_
  have f29 := (((((((y7.other W2 (Or.inr (slot_ne (Or.inl (hw _ (List.mem_of_getElem? (i := 80) rfl))) (Or.inl (hw _ (List.mem_of_getElem? (i := 66) rfl))) (by decide) (t := (.array .int)) (t' := .int) (by decide) (by decide)))).other W4 (Or.inr (slot_ne (Or.inl (hw _ (List.mem_of_getElem? (i := 80) rfl))) (Or.inr (hw _ (List.mem_of_getElem? (i := 68) rfl))) (by decide) (t := (.array .int)) (t' := .int) (by decide) (by decide)))).other W8 (Or.inr (slot_ne (Or.inl (hw _ (List.mem_of_getElem? (i := 80) rfl))) (Or.inl (hw _ (List.mem_of_getElem? (i := 70) rfl))) (by decide) (t := (.array .int)) (t' := .int) (by decide) (by decide)))).other W12 (Or.inr (slot_ne (Or.inl (hw _ (List.mem_of_getElem? (i := 80) rfl))) (Or.inl (hw _ (List.mem_of_getElem? (i := 72) rfl))) (by decide) (t := (.array .int)) (t' := (.array .byte)) (by decide) (by decide)))).other W16 (Or.inr (slot_ne (Or.inl (hw _ (List.mem_of_getElem? (i := 80) rfl))) (Or.inl (hw _ (List.mem_of_getElem? (i := 74) rfl))) (by decide) (t := (.array .int)) (t' := (.array .int)) (by decide) (by decide)))).other W20 (Or.inr (slot_ne (Or.inl (hw _ (List.mem_of_getElem? (i := 80) rfl))) (Or.inl (hw _ (List.mem_of_getElem? (i := 76) rfl))) (by decide) (t := (.array .int)) (t' := (.array .byte)) (by decide) (by decide)))).other W24 (Or.inr (slot_ne (Or.inl (hw _ (List.mem_of_getElem? (i := 80) rfl))) (Or.inl (hw _ (List.mem_of_getElem? (i := 78) rfl))) (by decide) (t := (.array .int)) (t' := (.array .long)) (by decide) (by decide))))
  have f30 := (f26.wr W24)
  obtain ⟨T28, h28, X28, e28, W28, st28⟩ := putF X24 hx hZ hown (host := "") (Or.inl (hw _ (List.mem_of_getElem? (i := 79) rfl))) Via.refl e24 f29 f30 (Or.inl (hw _ (List.mem_of_getElem? (i := 80) rfl))) (hw _ (List.mem_of_getElem? (i := 52) rfl)) (ty := (.array .int)) (by decide) rfl rfl (g := (mkF m 46 #[.val (.ref t), .val (.int q), .val (.int (0 : Int32)), .val (.ref tx), .val (.ref bo), .val (.ref ca), .val (.ref sh), .val (.ref sl), .val (.ref ha)] [(.ref sl), (.ref t)])) rfl rfl (hb hby d13_46)
  refine oOn st28 ?_
  have z31 : h24.size ≤ h28.size := Nat.le_of_eq W28.size.symm
  have N28 := Fr.snoc X28 N24 (by omega)
  have f28 := Fld.same W28 f29
  show oGl p e below (T28.setTop (mkF m 49 #[.val (.ref t), .val (.int q), .val (.int (0 : Int32)), .val (.ref tx), .val (.ref bo), .val (.ref ca), .val (.ref sh), .val (.ref sl), .val (.ref ha)] [])) _
  refine saloadN X28 hx (hb hby d13_49) rfl rfl rfl (pc' := 50) ?_
  refine saload X28 hx (hb hby d13_50) rfl rfl rfl (pc' := 52) ?_
  have f33 := ((((((((y8.other W2 (Or.inr (slot_ne (Or.inl (hw _ (List.mem_of_getElem? (i := 82) rfl))) (Or.inl (hw _ (List.mem_of_getElem? (i := 66) rfl))) (by decide) (t := (.object "com/example/yusen_ledger/yusenledger/SipHash")) (t' := .int) (by decide) (by decide)))).other W4 (Or.inr (slot_ne (Or.inl (hw _ (List.mem_of_getElem? (i := 82) rfl))) (Or.inr (hw _ (List.mem_of_getElem? (i := 68) rfl))) (by decide) (t := (.object "com/example/yusen_ledger/yusenledger/SipHash")) (t' := .int) (by decide) (by decide)))).other W8 (Or.inr (slot_ne (Or.inl (hw _ (List.mem_of_getElem? (i := 82) rfl))) (Or.inl (hw _ (List.mem_of_getElem? (i := 70) rfl))) (by decide) (t := (.object "com/example/yusen_ledger/yusenledger/SipHash")) (t' := .int) (by decide) (by decide)))).other W12 (Or.inr (slot_ne (Or.inl (hw _ (List.mem_of_getElem? (i := 82) rfl))) (Or.inl (hw _ (List.mem_of_getElem? (i := 72) rfl))) (by decide) (t := (.object "com/example/yusen_ledger/yusenledger/SipHash")) (t' := (.array .byte)) (by decide) (by decide)))).other W16 (Or.inr (slot_ne (Or.inl (hw _ (List.mem_of_getElem? (i := 82) rfl))) (Or.inl (hw _ (List.mem_of_getElem? (i := 74) rfl))) (by decide) (t := (.object "com/example/yusen_ledger/yusenledger/SipHash")) (t' := (.array .int)) (by decide) (by decide)))).other W20 (Or.inr (slot_ne (Or.inl (hw _ (List.mem_of_getElem? (i := 82) rfl))) (Or.inl (hw _ (List.mem_of_getElem? (i := 76) rfl))) (by decide) (t := (.object "com/example/yusen_ledger/yusenledger/SipHash")) (t' := (.array .byte)) (by decide) (by decide)))).other W24 (Or.inr (slot_ne (Or.inl (hw _ (List.mem_of_getElem? (i := 82) rfl))) (Or.inl (hw _ (List.mem_of_getElem? (i := 78) rfl))) (by decide) (t := (.object "com/example/yusen_ledger/yusenledger/SipHash")) (t' := (.array .long)) (by decide) (by decide)))).other W28 (Or.inr (slot_ne (Or.inl (hw _ (List.mem_of_getElem? (i := 82) rfl))) (Or.inl (hw _ (List.mem_of_getElem? (i := 80) rfl))) (by decide) (t := (.object "com/example/yusen_ledger/yusenledger/SipHash")) (t' := (.array .int)) (by decide) (by decide))))
  have f34 := (f30.wr W28)
  obtain ⟨T32, h32, X32, e32, W32, st32⟩ := putF X28 hx hZ hown (host := "") (Or.inl (hw _ (List.mem_of_getElem? (i := 81) rfl))) Via.refl e28 f33 f34 (Or.inl (hw _ (List.mem_of_getElem? (i := 82) rfl))) (hw _ (List.mem_of_getElem? (i := 52) rfl)) (ty := (.object "com/example/yusen_ledger/yusenledger/SipHash")) (by decide) rfl rfl (g := (mkF m 52 #[.val (.ref t), .val (.int q), .val (.int (0 : Int32)), .val (.ref tx), .val (.ref bo), .val (.ref ca), .val (.ref sh), .val (.ref sl), .val (.ref ha)] [(.ref ha), (.ref t)])) rfl rfl (hb hby d13_52)
  refine oOn st32 ?_
  have z35 : h28.size ≤ h32.size := Nat.le_of_eq W32.size.symm
  have N32 := Fr.snoc X32 N28 (by omega)
  have f32 := Fld.same W32 f33
  show oGl p e below (T32.setTop (mkF m 55 #[.val (.ref t), .val (.int q), .val (.int (0 : Int32)), .val (.ref tx), .val (.ref bo), .val (.ref ca), .val (.ref sh), .val (.ref sl), .val (.ref ha)] [])) _
  have kp36 : Keep h0 h32 [t] := ((((((((((Keep.refl h0 [t]).wr W2 (Or.inl (List.mem_of_getElem? (i := 0) rfl))).wr W4 (Or.inl (List.mem_of_getElem? (i := 0) rfl))).wr W8 (Or.inl (List.mem_of_getElem? (i := 0) rfl))).wr W12 (Or.inl (List.mem_of_getElem? (i := 0) rfl))).wr W16 (Or.inl (List.mem_of_getElem? (i := 0) rfl))).wr W20 (Or.inl (List.mem_of_getElem? (i := 0) rfl))).wr W24 (Or.inl (List.mem_of_getElem? (i := 0) rfl))).wr W28 (Or.inl (List.mem_of_getElem? (i := 0) rfl))).wr W32 (Or.inl (List.mem_of_getElem? (i := 0) rfl)))
  have f37 := (f34.wr W32)
  have f38 := (((((f12.other W16 (Or.inr (slot_ne (Or.inl (hw _ (List.mem_of_getElem? (i := 72) rfl))) (Or.inl (hw _ (List.mem_of_getElem? (i := 74) rfl))) (by decide) (t := (.array .byte)) (t' := (.array .int)) (by decide) (by decide)))).other W20 (Or.inr (slot_ne (Or.inl (hw _ (List.mem_of_getElem? (i := 72) rfl))) (Or.inl (hw _ (List.mem_of_getElem? (i := 76) rfl))) (by decide) (t := (.array .byte)) (t' := (.array .byte)) (by decide) (by decide)))).other W24 (Or.inr (slot_ne (Or.inl (hw _ (List.mem_of_getElem? (i := 72) rfl))) (Or.inl (hw _ (List.mem_of_getElem? (i := 78) rfl))) (by decide) (t := (.array .byte)) (t' := (.array .long)) (by decide) (by decide)))).other W28 (Or.inr (slot_ne (Or.inl (hw _ (List.mem_of_getElem? (i := 72) rfl))) (Or.inl (hw _ (List.mem_of_getElem? (i := 80) rfl))) (by decide) (t := (.array .byte)) (t' := (.array .int)) (by decide) (by decide)))).other W32 (Or.inr (slot_ne (Or.inl (hw _ (List.mem_of_getElem? (i := 72) rfl))) (Or.inl (hw _ (List.mem_of_getElem? (i := 82) rfl))) (by decide) (t := (.array .byte)) (t' := (.object "com/example/yusen_ledger/yusenledger/SipHash")) (by decide) (by decide))))
  have f39 := ((((f16.other W20 (Or.inr (slot_ne (Or.inl (hw _ (List.mem_of_getElem? (i := 74) rfl))) (Or.inl (hw _ (List.mem_of_getElem? (i := 76) rfl))) (by decide) (t := (.array .int)) (t' := (.array .byte)) (by decide) (by decide)))).other W24 (Or.inr (slot_ne (Or.inl (hw _ (List.mem_of_getElem? (i := 74) rfl))) (Or.inl (hw _ (List.mem_of_getElem? (i := 78) rfl))) (by decide) (t := (.array .int)) (t' := (.array .long)) (by decide) (by decide)))).other W28 (Or.inr (slot_ne (Or.inl (hw _ (List.mem_of_getElem? (i := 74) rfl))) (Or.inl (hw _ (List.mem_of_getElem? (i := 80) rfl))) (by decide) (t := (.array .int)) (t' := (.array .int)) (by decide) (by decide)))).other W32 (Or.inr (slot_ne (Or.inl (hw _ (List.mem_of_getElem? (i := 74) rfl))) (Or.inl (hw _ (List.mem_of_getElem? (i := 82) rfl))) (by decide) (t := (.array .int)) (t' := (.object "com/example/yusen_ledger/yusenledger/SipHash")) (by decide) (by decide))))
  have f40 := (((f20.other W24 (Or.inr (slot_ne (Or.inl (hw _ (List.mem_of_getElem? (i := 76) rfl))) (Or.inl (hw _ (List.mem_of_getElem? (i := 78) rfl))) (by decide) (t := (.array .byte)) (t' := (.array .long)) (by decide) (by decide)))).other W28 (Or.inr (slot_ne (Or.inl (hw _ (List.mem_of_getElem? (i := 76) rfl))) (Or.inl (hw _ (List.mem_of_getElem? (i := 80) rfl))) (by decide) (t := (.array .byte)) (t' := (.array .int)) (by decide) (by decide)))).other W32 (Or.inr (slot_ne (Or.inl (hw _ (List.mem_of_getElem? (i := 76) rfl))) (Or.inl (hw _ (List.mem_of_getElem? (i := 82) rfl))) (by decide) (t := (.array .byte)) (t' := (.object "com/example/yusen_ledger/yusenledger/SipHash")) (by decide) (by decide))))
  have f41 := (f28.other W32 (Or.inr (slot_ne (Or.inl (hw _ (List.mem_of_getElem? (i := 80) rfl))) (Or.inl (hw _ (List.mem_of_getElem? (i := 82) rfl))) (by decide) (t := (.array .int)) (t' := (.object "com/example/yusen_ledger/yusenledger/SipHash")) (by decide) (by decide))))
  have f42 := ((((((f8.other W12 (Or.inr (slot_ne (Or.inl (hw _ (List.mem_of_getElem? (i := 70) rfl))) (Or.inl (hw _ (List.mem_of_getElem? (i := 72) rfl))) (by decide) (t := .int) (t' := (.array .byte)) (by decide) (by decide)))).other W16 (Or.inr (slot_ne (Or.inl (hw _ (List.mem_of_getElem? (i := 70) rfl))) (Or.inl (hw _ (List.mem_of_getElem? (i := 74) rfl))) (by decide) (t := .int) (t' := (.array .int)) (by decide) (by decide)))).other W20 (Or.inr (slot_ne (Or.inl (hw _ (List.mem_of_getElem? (i := 70) rfl))) (Or.inl (hw _ (List.mem_of_getElem? (i := 76) rfl))) (by decide) (t := .int) (t' := (.array .byte)) (by decide) (by decide)))).other W24 (Or.inr (slot_ne (Or.inl (hw _ (List.mem_of_getElem? (i := 70) rfl))) (Or.inl (hw _ (List.mem_of_getElem? (i := 78) rfl))) (by decide) (t := .int) (t' := (.array .long)) (by decide) (by decide)))).other W28 (Or.inr (slot_ne (Or.inl (hw _ (List.mem_of_getElem? (i := 70) rfl))) (Or.inl (hw _ (List.mem_of_getElem? (i := 80) rfl))) (by decide) (t := .int) (t' := (.array .int)) (by decide) (by decide)))).other W32 (Or.inr (slot_ne (Or.inl (hw _ (List.mem_of_getElem? (i := 70) rfl))) (Or.inl (hw _ (List.mem_of_getElem? (i := 82) rfl))) (by decide) (t := .int) (t' := (.object "com/example/yusen_ledger/yusenledger/SipHash")) (by decide) (by decide))))
  have f43 := ((((((((f2.other W4 (Or.inr (slot_ne (Or.inl (hw _ (List.mem_of_getElem? (i := 66) rfl))) (Or.inr (hw _ (List.mem_of_getElem? (i := 68) rfl))) (by decide) (t := .int) (t' := .int) (by decide) (by decide)))).other W8 (Or.inr (slot_ne (Or.inl (hw _ (List.mem_of_getElem? (i := 66) rfl))) (Or.inl (hw _ (List.mem_of_getElem? (i := 70) rfl))) (by decide) (t := .int) (t' := .int) (by decide) (by decide)))).other W12 (Or.inr (slot_ne (Or.inl (hw _ (List.mem_of_getElem? (i := 66) rfl))) (Or.inl (hw _ (List.mem_of_getElem? (i := 72) rfl))) (by decide) (t := .int) (t' := (.array .byte)) (by decide) (by decide)))).other W16 (Or.inr (slot_ne (Or.inl (hw _ (List.mem_of_getElem? (i := 66) rfl))) (Or.inl (hw _ (List.mem_of_getElem? (i := 74) rfl))) (by decide) (t := .int) (t' := (.array .int)) (by decide) (by decide)))).other W20 (Or.inr (slot_ne (Or.inl (hw _ (List.mem_of_getElem? (i := 66) rfl))) (Or.inl (hw _ (List.mem_of_getElem? (i := 76) rfl))) (by decide) (t := .int) (t' := (.array .byte)) (by decide) (by decide)))).other W24 (Or.inr (slot_ne (Or.inl (hw _ (List.mem_of_getElem? (i := 66) rfl))) (Or.inl (hw _ (List.mem_of_getElem? (i := 78) rfl))) (by decide) (t := .int) (t' := (.array .long)) (by decide) (by decide)))).other W28 (Or.inr (slot_ne (Or.inl (hw _ (List.mem_of_getElem? (i := 66) rfl))) (Or.inl (hw _ (List.mem_of_getElem? (i := 80) rfl))) (by decide) (t := .int) (t' := (.array .int)) (by decide) (by decide)))).other W32 (Or.inr (slot_ne (Or.inl (hw _ (List.mem_of_getElem? (i := 66) rfl))) (Or.inl (hw _ (List.mem_of_getElem? (i := 82) rfl))) (by decide) (t := .int) (t' := (.object "com/example/yusen_ledger/yusenledger/SipHash")) (by decide) (by decide))))
  refine oRet0 X32 hx Bd.notSynchronized Bd.returns (hb hby d13_55) (by decide) (by decide) ?_
  show Q_rmTi9 Z t tx bo ca sh sl ha q h0 n0 _ T32.heap _
  rw [e32]
  exact ⟨rfl, N32, kp36, f37, f38, f39, f40, f41, f32, f42, f43⟩
theorem d12_0 : decode prog_21_method_1_code 0 = .ok (.aload_n 0, 1) := by decide +kernel
theorem d12_1 : decode prog_21_method_1_code 1 = .ok (.iload_n 1, 1) := by decide +kernel
theorem d12_2 : decode prog_21_method_1_code 2 = .ok (.iconst 0, 1) := by decide +kernel
theorem d12_3 : decode prog_21_method_1_code 3 = .ok (.sipush 128, 3) := by decide +kernel
theorem d12_6 : decode prog_21_method_1_code 6 = .ok (.newarray .byte, 2) := by decide +kernel
theorem d12_8 : decode prog_21_method_1_code 8 = .ok (.bipush 17, 2) := by decide +kernel
theorem d12_10 : decode prog_21_method_1_code 10 = .ok (.newarray .int, 2) := by decide +kernel
theorem d12_12 : decode prog_21_method_1_code 12 = .ok (.bipush 8, 2) := by decide +kernel
theorem d12_14 : decode prog_21_method_1_code 14 = .ok (.newarray .byte, 2) := by decide +kernel
theorem d12_16 : decode prog_21_method_1_code 16 = .ok (.bipush 8, 2) := by decide +kernel
theorem d12_18 : decode prog_21_method_1_code 18 = .ok (.iload_n 1, 1) := by decide +kernel
theorem d12_19 : decode prog_21_method_1_code 19 = .ok (.imul, 1) := by decide +kernel
theorem d12_20 : decode prog_21_method_1_code 20 = .ok (.newarray .long, 2) := by decide +kernel
theorem d12_22 : decode prog_21_method_1_code 22 = .ok (.bipush 16, 2) := by decide +kernel
theorem d12_24 : decode prog_21_method_1_code 24 = .ok (.newarray .int, 2) := by decide +kernel
theorem d12_26 : decode prog_21_method_1_code 26 = .ok (.getstatic 3, 3) := by decide +kernel
theorem d12_29 : decode prog_21_method_1_code 29 = .ok (.invokespecial 7, 3) := by decide +kernel
theorem pd_21 : parseMethodDescriptor "(II[B[I[B[J[ILcom/example/yusen_ledger/yusenledger/SipHash;)V" = some ⟨[.int, .int, (.array .byte), (.array .int), (.array .byte), (.array .long), (.array .int), (.object "com/example/yusen_ledger/yusenledger/SipHash")], none⟩ := by decide +kernel
theorem d12_32 : decode prog_21_method_1_code 32 = .ok (.return_, 1) := by decide +kernel
theorem ef_rmTi1 (m : MethodId) (x0 : Nat) (x1 : Int32)  : entryFrame m #[(.ref x0), (.int x1)] 2 = mkF m 0 #[.val (.ref x0), .val (.int x1)] [] := by first | (simp [entryFrame, mkF, argsToLocals, Value.category, maxLocals]; done) | rfl
def Q_rmTi1 (Z : State) (t ha : Nat) (q : Int32) (h0 : Heap) (n0 : Nat) (vv : Option Value) (h : Heap) (L : List Loc) : Prop := ∃ tx bo ca sl : Nat, vv = none ∧ Fr n0 L ∧ Keep h0 h [t] ∧ (h0.size ≤ tx ∧ tx < bo ∧ bo < ca ∧ ca < sl) ∧ Exa Z h t "com/example/yusen_ledger/yusenledger/HolderTable" ∧ Fld Z h t "com/example/yusen_ledger/yusenledger/HolderTable" "text" "[B" (.ref tx) ∧ Fld Z h t "com/example/yusen_ledger/yusenledger/HolderTable" "bounds" "[I" (.ref bo) ∧ Fld Z h t "com/example/yusen_ledger/yusenledger/HolderTable" "categories" "[B" (.ref ca) ∧ Fld Z h t "com/example/yusen_ledger/yusenledger/HolderTable" "slots" "[I" (.ref sl) ∧ Fld Z h t "com/example/yusen_ledger/yusenledger/HolderTable" "hash" "Lcom/example/yusen_ledger/yusenledger/SipHash;" (.ref ha) ∧ Fld Z h t "com/example/yusen_ledger/yusenledger/HolderTable" "size" "I" (.int 0) ∧ Fld Z h t "com/example/yusen_ledger/yusenledger/HolderTable" "reach" "I" (.int 64) ∧ oAI Z h tx .byte 128 (fun _ => 0) ∧ oAI Z h bo .int 17 (fun _ => 0) ∧ oAI Z h ca .byte 8 (fun _ => 0) ∧ oAI Z h sl .int 16 (fun _ => 0)
set_option maxRecDepth 65536 in
set_option maxHeartbeats 40000000 in
theorem rmTi1 (l : Launch) (Z : State) (a0 : Array Value) (hw : ∀ d ∈ tables_1, d.before a0 Z = true) (ws : List Jvm.Cond) (t ha : Nat) (q : Int32) (h0 : Heap) (n0 : Nat) (Z0 : n0 ≤ h0.size) (O0 : Old Z n0 h0) (SFH : Sta Z Z.heap "com/example/yusen_ledger/yusenledger/HolderTable" "FIRST_HASH" "Lcom/example/yusen_ledger/yusenledger/SipHash;" (.ref ha)) (y9 : Exa Z h0 t "com/example/yusen_ledger/yusenledger/HolderTable") (y0 : Fld Z h0 t "com/example/yusen_ledger/yusenledger/HolderTable" "reach" "I" (.int 0)) (y1 : Fld Z h0 t "com/example/yusen_ledger/yusenledger/HolderTable" "classes" "I" (.int 0)) (y2 : Fld Z h0 t "com/example/yusen_ledger/yusenledger/HolderTable" "size" "I" (.int 0)) (y3 : Fld Z h0 t "com/example/yusen_ledger/yusenledger/HolderTable" "text" "[B" .null) (y4 : Fld Z h0 t "com/example/yusen_ledger/yusenledger/HolderTable" "bounds" "[I" .null) (y5 : Fld Z h0 t "com/example/yusen_ledger/yusenledger/HolderTable" "categories" "[B" .null) (y6 : Fld Z h0 t "com/example/yusen_ledger/yusenledger/HolderTable" "shares" "[J" .null) (y7 : Fld Z h0 t "com/example/yusen_ledger/yusenledger/HolderTable" "slots" "[I" .null) (y8 : Fld Z h0 t "com/example/yusen_ledger/yusenledger/HolderTable" "hash" "Lcom/example/yusen_ledger/yusenledger/SipHash;" .null) (gt : n0 ≤ t) (hq : 0 ≤ q.toInt ∧ q.toInt ≤ 3) :
    MetFree l (⟨"com/example/yusen_ledger/yusenledger/HolderTable", "<init>", "(I)V"⟩ : MethodName) (head1 (Jvm.Cond.code (⟨"com/example/yusen_ledger/yusenledger/HolderTable", "<init>", "(I)V"⟩ : MethodName) prog_21_method_1_code 2 (none : Option FieldType) :: ws) ({ frames := 2, cells := 5, slots := 193, locals := 32 } : Room)) (fun aA uU => aA = #[(.ref t), (.int q)] ∧ Z.Warmed39 uU.vm ∧ uU.heap = h0) (fun _ _ _ _ _ => True) (fun _ uU oO uU' => ∃ vV lL, oO = .returned vV ∧ Q_rmTi1 Z t ha q h0 n0 vV uU'.heap lL ∧ FrameEnd uU oO uU' lL ({ frames := 2, cells := 5, slots := 193, locals := 32 } : Room).cells ({ frames := 2, cells := 5, slots := 193, locals := 32 } : Room).slots) := by
  refine MetFree.of_bodySF (plainFor_of_name pn_HolderTable) hisR ?_
  intro p e s m args below meth c s₁ Bd hml0 hP hK
  obtain ⟨rfl, hZ, hh⟩ := hP
  have hx := Bd.exec
  have hby := Bd.bytes
  have hml : c.maxLocals = 2 := hml0
  have hown : s.vm.findClass "com/example/yusen_ledger/yusenledger/HolderTable" = some m.cls := findClass_of_methodNamed Bd.named
  have hnm := (name_of_methodNamed Bd.named Bd.method).1
  have X0 : Stand p l e ({ frames := 2, cells := 5, slots := 193, locals := 32 } : Room) s m #[(.ref t), (.int q)] below meth c s₁ [] 0 0 := Stand.of_body Bd
  have e0 : s₁.heap = h0 := by rw [← hh, Bd.state]; rfl
  have N0 := Fr.nil n0
  have lT : @LT.lt Nat _ t h0.size := y9.lt
  refine oEnter (oCast (ef_rmTi1 m t q ) ?_)
  show oGl p e below (s₁.setTop (mkF m 0 #[.val (.ref t), .val (.int q)] [])) _
  refine saloadN X0 hx (hb hby d12_0) rfl rfl rfl (pc' := 1) ?_
  refine siloadN X0 hx (hb hby d12_1) rfl rfl (pc' := 2) ?_
  refine siconst X0 hx (hb hby d12_2) rfl rfl (z := 0) (pc' := 3) ?_
  refine ssipush X0 hx (hb hby d12_3) rfl rfl (z := 128) (pc' := 6) ?_
  obtain ⟨T1, h1, k1, X1, e1, E1, A1, EA1, st1⟩ := newPE X0 hx hZ (hw _ (List.mem_of_getElem? (i := 22) rfl)) e0 (g := (mkF m 6 #[.val (.ref t), .val (.int q)] [(.int (128 : Int32)), (.int (0 : Int32)), (.int q), (.ref t)])) rfl (hb hby d12_6) rfl (by decide) (cap := 128) (by decide) (by decide) (by decide) (by decide) (ad := "[B") rfl
  obtain ⟨a1, g1⟩ : ∃ z, z = h0.size := ⟨_, rfl⟩
  rw [← g1] at A1 EA1 st1
  refine oOn st1 ?_
  have z2 : h0.size ≤ h1.size := E1.1
  have lt1 : a1 < h1.size := A1.lt
  have V1 : oAI Z h1 a1 .byte 128 (fun _ => 0) := oAI.new A1 rfl
  show oGl p e below (T1.setTop (mkF m 8 #[.val (.ref t), .val (.int q)] [(.ref a1), (.int (0 : Int32)), (.int q), (.ref t)])) _
  refine sbipush X1 hx (hb hby d12_8) rfl rfl (z := 17) (pc' := 10) ?_
  obtain ⟨T3, h3, k3, X3, e3, E3, A3, st3⟩ := newP X1 hx hZ (hw _ (List.mem_of_getElem? (i := 57) rfl)) e1 (g := (mkF m 10 #[.val (.ref t), .val (.int q)] [(.int (17 : Int32)), (.ref a1), (.int (0 : Int32)), (.int q), (.ref t)])) rfl (hb hby d12_10) rfl (by decide) (cap := 17) (by decide) (by decide) (by decide) (by decide)
  obtain ⟨a3, g3⟩ : ∃ z, z = h1.size := ⟨_, rfl⟩
  rw [← g3] at A3 st3
  refine oOn st3 ?_
  have z4 : h1.size ≤ h3.size := E3.1
  have lt3 : a3 < h3.size := A3.lt
  have V3 : oAI Z h3 a3 .int 17 (fun _ => 0) := oAI.new A3 rfl
  show oGl p e below (T3.setTop (mkF m 12 #[.val (.ref t), .val (.int q)] [(.ref a3), (.ref a1), (.int (0 : Int32)), (.int q), (.ref t)])) _
  refine sbipush X3 hx (hb hby d12_12) rfl rfl (z := 8) (pc' := 14) ?_
  obtain ⟨T5, h5, k5, X5, e5, E5, A5, EA5, st5⟩ := newPE X3 hx hZ (hw _ (List.mem_of_getElem? (i := 22) rfl)) e3 (g := (mkF m 14 #[.val (.ref t), .val (.int q)] [(.int (8 : Int32)), (.ref a3), (.ref a1), (.int (0 : Int32)), (.int q), (.ref t)])) rfl (hb hby d12_14) rfl (by decide) (cap := 8) (by decide) (by decide) (by decide) (by decide) (ad := "[B") rfl
  obtain ⟨a5, g5⟩ : ∃ z, z = h3.size := ⟨_, rfl⟩
  rw [← g5] at A5 EA5 st5
  refine oOn st5 ?_
  have z6 : h3.size ≤ h5.size := E5.1
  have lt5 : a5 < h5.size := A5.lt
  have V5 : oAI Z h5 a5 .byte 8 (fun _ => 0) := oAI.new A5 rfl
  show oGl p e below (T5.setTop (mkF m 16 #[.val (.ref t), .val (.int q)] [(.ref a5), (.ref a3), (.ref a1), (.int (0 : Int32)), (.int q), (.ref t)])) _
  refine sbipush X5 hx (hb hby d12_16) rfl rfl (z := 8) (pc' := 18) ?_
  refine siloadN X5 hx (hb hby d12_18) rfl rfl (pc' := 19) ?_
  refine simul X5 hx (hb hby d12_19) rfl rfl (pc' := 20) ?_
  obtain ⟨T7, h7, k7, X7, e7, E7, A7, st7⟩ := newP X5 hx hZ (hw _ (List.mem_of_getElem? (i := 58) rfl)) e5 (g := (mkF m 20 #[.val (.ref t), .val (.int q)] [(.int ((8 : Int32) * q)), (.ref a5), (.ref a3), (.ref a1), (.int (0 : Int32)), (.int q), (.ref t)])) rfl (hb hby d12_20) rfl (own_8q hq).1 (cap := 24) (own_8q hq).2 (by decide) (by decide) (by decide)
  obtain ⟨a7, g7⟩ : ∃ z, z = h5.size := ⟨_, rfl⟩
  rw [← g7] at A7 st7
  refine oOn st7 ?_
  have z8 : h5.size ≤ h7.size := E7.1
  have lt7 : a7 < h7.size := A7.lt
  show oGl p e below (T7.setTop (mkF m 22 #[.val (.ref t), .val (.int q)] [(.ref a7), (.ref a5), (.ref a3), (.ref a1), (.int (0 : Int32)), (.int q), (.ref t)])) _
  refine sbipush X7 hx (hb hby d12_22) rfl rfl (z := 16) (pc' := 24) ?_
  obtain ⟨T9, h9, k9, X9, e9, E9, A9, st9⟩ := newP X7 hx hZ (hw _ (List.mem_of_getElem? (i := 57) rfl)) e7 (g := (mkF m 24 #[.val (.ref t), .val (.int q)] [(.int (16 : Int32)), (.ref a7), (.ref a5), (.ref a3), (.ref a1), (.int (0 : Int32)), (.int q), (.ref t)])) rfl (hb hby d12_24) rfl (by decide) (cap := 16) (by decide) (by decide) (by decide) (by decide)
  obtain ⟨a9, g9⟩ : ∃ z, z = h7.size := ⟨_, rfl⟩
  rw [← g9] at A9 st9
  refine oOn st9 ?_
  have z10 : h7.size ≤ h9.size := E9.1
  have lt9 : a9 < h9.size := A9.lt
  have V9 : oAI Z h9 a9 .int 16 (fun _ => 0) := oAI.new A9 rfl
  show oGl p e below (T9.setTop (mkF m 26 #[.val (.ref t), .val (.int q)] [(.ref a9), (.ref a7), (.ref a5), (.ref a3), (.ref a1), (.int (0 : Int32)), (.int q), (.ref t)])) _
  have f11 := (((((O0.ext E1).ext E3).ext E5).ext E7).ext E9)
  obtain ⟨T12, X12, e12, st12⟩ := getS2 X9 hx hZ hown (host := "") (Or.inl (hw _ (List.mem_of_getElem? (i := 59) rfl))) Via.refl e9 (SFH.ext f11.2) (g := (mkF m 26 #[.val (.ref t), .val (.int q)] [(.ref a9), (.ref a7), (.ref a5), (.ref a3), (.ref a1), (.int (0 : Int32)), (.int q), (.ref t)])) rfl (hb hby d12_26)
  refine oOn st12 ?_
  show oGl p e below (T12.setTop (mkF m 29 #[.val (.ref t), .val (.int q)] [(.ref ha), (.ref a9), (.ref a7), (.ref a5), (.ref a3), (.ref a1), (.int (0 : Int32)), (.int q), (.ref t)])) _
  have f13 := (((((y9.ext E1).ext E3).ext E5).ext E7).ext E9)
  have f14 := (((((y0.ext E1).ext E3).ext E5).ext E7).ext E9)
  have f15 := (((((y1.ext E1).ext E3).ext E5).ext E7).ext E9)
  have f16 := (((((y2.ext E1).ext E3).ext E5).ext E7).ext E9)
  have f17 := (((((y3.ext E1).ext E3).ext E5).ext E7).ext E9)
  have f18 := (((((y4.ext E1).ext E3).ext E5).ext E7).ext E9)
  have f19 := (((((y5.ext E1).ext E3).ext E5).ext E7).ext E9)
  have f20 := (((((y6.ext E1).ext E3).ext E5).ext E7).ext E9)
  have f21 := (((((y7.ext E1).ext E3).ext E5).ext E7).ext E9)
  have f22 := (((((y8.ext E1).ext E3).ext E5).ext E7).ext E9)
  have hz23 : n0 ≤ h9.size := by omega
  obtain ⟨_, _, ⟨T23, L23, k23, n23⟩, -, X23, ⟨Lc23, hQ23, l23, y23, z23⟩, st23⟩ := X12.specialBack hx (y := (⟨"com/example/yusen_ledger/yusenledger/HolderTable", "<init>", "(II[B[I[B[J[ILcom/example/yusen_ledger/yusenledger/SipHash;)V"⟩ : MethodName)) rfl hown (mvT hZ (hw _ (List.mem_of_getElem? (i := 61) rfl))) (mvT hZ (hw _ (List.mem_of_getElem? (i := 62) rfl))) (mvT hZ (hw _ (List.mem_of_getElem? (i := 63) rfl))) (by decide) (backOf (W := 0) (rmTi9 l Z a0 hw [] t a1 a3 a5 a7 a9 ha q h9 n0 hz23 f13 f14 f15 f16 f17 f18 f19 f20 f21 f22 (by omega)) hZ (hw _ (List.mem_of_getElem? (i := 63) rfl)) (hw _ (List.mem_of_getElem? (i := 53) rfl)) (by decide) (by decide)) (g := (mkF m 29 #[.val (.ref t), .val (.int q)] [(.ref ha), (.ref a9), (.ref a7), (.ref a5), (.ref a3), (.ref a1), (.int (0 : Int32)), (.int q), (.ref t)])) rfl (by rw [hml]; rfl) (Steps.refl _) (a := t) (argsL := [(.int q), (.int (0 : Int32)), (.ref a1), (.ref a3), (.ref a5), (.ref a7), (.ref a9), (.ref ha)]) (rest := []) (lenOf pd_21 rfl) rfl (by show 2 * 0 + _ ≤ _; exact Nat.le_of_eq rfl) (hb hby d12_29) (fun _ _ => ⟨rfl, e12, (by decide : 5 + 0 ≤ _), (by decide : 193 + 0 ≤ _)⟩)
  dsimp only [Pt.U, Pt.locs, Pt.cells, Pt.slots] at X23 l23 y23 z23 st23 hQ23
  subst l23 y23 z23
  obtain ⟨rfl, N23q, K23, u0_23, u1_23, u2_23, u3_23, u4_23, u5_23, u6_23, u7_23⟩ := hQ23
  have N23 := Fr.app N0 N23q
  have z24 : h9.size ≤ T23.heap.size := K23.1
  refine oSt st23 ?_
  show oGl p e below (T23.setTop (mkF m 32 #[.val (.ref t), .val (.int q)] [])) _
  have kp25 : Keep h0 T23.heap [t] := (((((((Keep.refl h0 [t]).ext E1).ext E3).ext E5).ext E7).ext E9).trans K23 (allS (Or.inl (List.mem_of_getElem? (i := 0) rfl)) all0))
  have f26 := (((((V1.ext E3).ext E5).ext E7).ext E9).keep K23 (ninS (oNe (by omega)) nin0))
  have f27 := ((((V3.ext E5).ext E7).ext E9).keep K23 (ninS (oNe (by omega)) nin0))
  have f28 := (((V5.ext E7).ext E9).keep K23 (ninS (oNe (by omega)) nin0))
  have f29 := (V9.keep K23 (ninS (oNe (by omega)) nin0))
  refine oRet0 X23 hx Bd.notSynchronized Bd.returns (hb hby d12_32) (by decide) (by decide) ?_
  show Q_rmTi1 Z t ha q h0 n0 _ T23.heap _
  exact ⟨a1, a3, a5, a9, rfl, N23, kp25, ⟨by omega, by omega, by omega, by omega⟩, u0_23, u1_23, u2_23, u3_23, u4_23, u5_23, u6_23, u7_23, f26, f27, f28, f29⟩
theorem own_bnd {a b e : Nat} {z : Int32} (hz : z = Int32.ofNat a) (ha : a ≤ 100) (hb : b ≤ 10) (he : e ≤ 10) : ¬ ((128 : Int32) < z + (Int32.ofNat b + Int32.ofNat e)) := by
  rw [hz, own_sm (by omega) (by omega), own_sm (by omega) (by omega)]
  exact own_le128 (by omega)
theorem d26_0 : decode prog_21_method_18_code 0 = .ok (.aload_n 0, 1) := by decide +kernel
theorem d26_1 : decode prog_21_method_18_code 1 = .ok (.getfield 30, 3) := by decide +kernel
theorem d26_4 : decode prog_21_method_18_code 4 = .ok (.iconst 2, 1) := by decide +kernel
theorem d26_5 : decode prog_21_method_18_code 5 = .ok (.aload_n 0, 1) := by decide +kernel
theorem d26_6 : decode prog_21_method_18_code 6 = .ok (.getfield 23, 3) := by decide +kernel
theorem d26_9 : decode prog_21_method_18_code 9 = .ok (.imul, 1) := by decide +kernel
theorem d26_10 : decode prog_21_method_18_code 10 = .ok (.iaload, 1) := by decide +kernel
theorem d26_11 : decode prog_21_method_18_code 11 = .ok (.istore_n 2, 1) := by decide +kernel
theorem d26_12 : decode prog_21_method_18_code 12 = .ok (.iload_n 2, 1) := by decide +kernel
theorem d26_13 : decode prog_21_method_18_code 13 = .ok (.iload_n 1, 1) := by decide +kernel
theorem d26_14 : decode prog_21_method_18_code 14 = .ok (.iadd, 1) := by decide +kernel
theorem d26_15 : decode prog_21_method_18_code 15 = .ok (.aload_n 0, 1) := by decide +kernel
theorem d26_16 : decode prog_21_method_18_code 16 = .ok (.getfield 26, 3) := by decide +kernel
theorem d26_19 : decode prog_21_method_18_code 19 = .ok (.arraylength, 1) := by decide +kernel
theorem d26_20 : decode prog_21_method_18_code 20 = .ok (.if_icmp .le 27, 3) := by decide +kernel
theorem d26_47 : decode prog_21_method_18_code 47 = .ok (.aload_n 0, 1) := by decide +kernel
theorem d26_48 : decode prog_21_method_18_code 48 = .ok (.getfield 23, 3) := by decide +kernel
theorem d26_51 : decode prog_21_method_18_code 51 = .ok (.aload_n 0, 1) := by decide +kernel
theorem d26_52 : decode prog_21_method_18_code 52 = .ok (.getfield 34, 3) := by decide +kernel
theorem d26_55 : decode prog_21_method_18_code 55 = .ok (.arraylength, 1) := by decide +kernel
theorem d26_56 : decode prog_21_method_18_code 56 = .ok (.if_icmp .ne 60, 3) := by decide +kernel
theorem d26_116 : decode prog_21_method_18_code 116 = .ok (.return_, 1) := by decide +kernel
theorem ef_rmMr0 (m : MethodId) (x0 : Nat) (x1 : Int32)  : entryFrame m #[(.ref x0), (.int x1)] 4 = mkF m 0 #[.val (.ref x0), .val (.int x1), .unset, .unset] [] := by first | (simp [entryFrame, mkF, argsToLocals, Value.category, maxLocals]; done) | rfl
def Q_rmMr0 (Z : State) (t tx bo ca : Nat) (ft fb fc : Nat → Int32) (sm : Int32) (h0 : Heap) (n0 : Nat) (vv : Option Value) (h : Heap) (L : List Loc) : Prop := vv = none ∧ Fr n0 L ∧ h = h0
set_option maxRecDepth 65536 in
set_option maxHeartbeats 40000000 in
theorem rmMr0 (l : Launch) (Z : State) (a0 : Array Value) (hw : ∀ d ∈ tables_1, d.before a0 Z = true) (ws : List Jvm.Cond) (t tx bo ca : Nat) (ft fb fc : Nat → Int32) (sm : Int32) (h0 : Heap) (n0 : Nat) (Z0 : n0 ≤ h0.size) (t1 : Fld Z h0 t "com/example/yusen_ledger/yusenledger/HolderTable" "text" "[B" (.ref tx)) (t2 : Fld Z h0 t "com/example/yusen_ledger/yusenledger/HolderTable" "bounds" "[I" (.ref bo)) (t3 : Fld Z h0 t "com/example/yusen_ledger/yusenledger/HolderTable" "categories" "[B" (.ref ca)) (t6 : Fld Z h0 t "com/example/yusen_ledger/yusenledger/HolderTable" "size" "I" (.int 0)) (PT : oAI Z h0 tx .byte 128 ft) (PO : oAI Z h0 bo .int 17 fb) (PC : oAI Z h0 ca .byte 8 fc) (hs : ¬ ((128 : Int32) < fb 0 + sm)) :
    MetFree l (⟨"com/example/yusen_ledger/yusenledger/HolderTable", "makeRoom", "(I)V"⟩ : MethodName) (head1 (Jvm.Cond.code (⟨"com/example/yusen_ledger/yusenledger/HolderTable", "makeRoom", "(I)V"⟩ : MethodName) prog_21_method_18_code 4 (none : Option FieldType) :: ws) ({ frames := 0, cells := 0, slots := 0, locals := 0 } : Room)) (fun aA uU => aA = #[(.ref t), (.int sm)] ∧ Z.Warmed39 uU.vm ∧ uU.heap = h0) (fun _ _ _ _ _ => True) (fun _ uU oO uU' => ∃ vV lL, oO = .returned vV ∧ Q_rmMr0 Z t tx bo ca ft fb fc sm h0 n0 vV uU'.heap lL ∧ FrameEnd uU oO uU' lL ({ frames := 0, cells := 0, slots := 0, locals := 0 } : Room).cells ({ frames := 0, cells := 0, slots := 0, locals := 0 } : Room).slots) := by
  refine MetFree.of_bodySF (plainFor_of_name pn_HolderTable) hisR ?_
  intro p e s m args below meth c s₁ Bd hml0 hP hK
  obtain ⟨rfl, hZ, hh⟩ := hP
  have hx := Bd.exec
  have hby := Bd.bytes
  have hml : c.maxLocals = 4 := hml0
  have hown : s.vm.findClass "com/example/yusen_ledger/yusenledger/HolderTable" = some m.cls := findClass_of_methodNamed Bd.named
  have hnm := (name_of_methodNamed Bd.named Bd.method).1
  have X0 : Stand p l e ({ frames := 0, cells := 0, slots := 0, locals := 0 } : Room) s m #[(.ref t), (.int sm)] below meth c s₁ [] 0 0 := Stand.of_body Bd
  have e0 : s₁.heap = h0 := by rw [← hh, Bd.state]; rfl
  have N0 := Fr.nil n0
  refine oEnter (oCast (ef_rmMr0 m t sm ) ?_)
  show oGl p e below (s₁.setTop (mkF m 0 #[.val (.ref t), .val (.int sm), .unset, .unset] [])) _
  refine saloadN X0 hx (hb hby d26_0) rfl rfl rfl (pc' := 1) ?_
  obtain ⟨T1, X1, e1, st1⟩ := getF X0 hx hZ hown (host := "") (Or.inl (hw _ (List.mem_of_getElem? (i := 73) rfl))) Via.refl e0 t2 (g := (mkF m 1 #[.val (.ref t), .val (.int sm), .unset, .unset] [(.ref t)])) rfl rfl (hb hby d26_1)
  refine oOn st1 ?_
  show oGl p e below (T1.setTop (mkF m 4 #[.val (.ref t), .val (.int sm), .unset, .unset] [(.ref bo)])) _
  refine siconst X1 hx (hb hby d26_4) rfl rfl (z := 2) (pc' := 5) ?_
  refine saloadN X1 hx (hb hby d26_5) rfl rfl rfl (pc' := 6) ?_
  obtain ⟨T2, X2, e2, st2⟩ := getF X1 hx hZ hown (host := "") (Or.inl (hw _ (List.mem_of_getElem? (i := 69) rfl))) Via.refl e1 t6 (g := (mkF m 6 #[.val (.ref t), .val (.int sm), .unset, .unset] [(.ref t), (.int (2 : Int32)), (.ref bo)])) rfl rfl (hb hby d26_6)
  refine oOn st2 ?_
  show oGl p e below (T2.setTop (mkF m 9 #[.val (.ref t), .val (.int sm), .unset, .unset] [(.int (0 : Int32)), (.int (2 : Int32)), (.ref bo)])) _
  refine simul X2 hx (hb hby d26_9) rfl (by decide) (z := (0 : Int32)) (pc' := 10) ?_
  refine oOn (PO.ldI X2 hx hZ e2 (j := (0 : Int32)) (by decide) (g := (mkF m 10 #[.val (.ref t), .val (.int sm), .unset, .unset] [(.int (0 : Int32)), (.ref bo)])) rfl rfl (hb hby d26_10)) ?_
  show oGl p e below (T2.setTop (mkF m 11 #[.val (.ref t), .val (.int sm), .unset, .unset] [(.int (fb 0))])) _
  refine sistoreN X2 hx (hb hby d26_11) rfl rfl (l' := #[.val (.ref t), .val (.int sm), .val (.int (fb 0)), .unset]) (pc' := 12) ?_
  refine siloadN X2 hx (hb hby d26_12) rfl rfl (pc' := 13) ?_
  refine siloadN X2 hx (hb hby d26_13) rfl rfl (pc' := 14) ?_
  refine siadd X2 hx (hb hby d26_14) rfl rfl (pc' := 15) ?_
  refine saloadN X2 hx (hb hby d26_15) rfl rfl rfl (pc' := 16) ?_
  obtain ⟨T3, X3, e3, st3⟩ := getF X2 hx hZ hown (host := "") (Or.inl (hw _ (List.mem_of_getElem? (i := 71) rfl))) Via.refl e2 t1 (g := (mkF m 16 #[.val (.ref t), .val (.int sm), .val (.int (fb 0)), .unset] [(.ref t), (.int ((fb 0) + sm))])) rfl rfl (hb hby d26_16)
  refine oOn st3 ?_
  show oGl p e below (T3.setTop (mkF m 19 #[.val (.ref t), .val (.int sm), .val (.int (fb 0)), .unset] [(.ref tx), (.int ((fb 0) + sm))])) _
  refine oOn (PT.len X3 hx hZ e3 (g := (mkF m 19 #[.val (.ref t), .val (.int sm), .val (.int (fb 0)), .unset] [(.ref tx), (.int ((fb 0) + sm))])) rfl rfl (hb hby d26_19)) ?_
  show oGl p e below (T3.setTop (mkF m 20 #[.val (.ref t), .val (.int sm), .val (.int (fb 0)), .unset] [(.int (128 : Int32)), (.int ((fb 0) + sm))])) _
  refine sicY X3 hx (hb hby d26_20) (by decide) (by decide) (flt (hs : ¬ ((128 : Int32) < ((fb 0) + sm)))).2.2.2 (pc' := 47) ?_
  refine saloadN X3 hx (hb hby d26_47) rfl rfl rfl (pc' := 48) ?_
  obtain ⟨T4, X4, e4, st4⟩ := getF X3 hx hZ hown (host := "") (Or.inl (hw _ (List.mem_of_getElem? (i := 69) rfl))) Via.refl e3 t6 (g := (mkF m 48 #[.val (.ref t), .val (.int sm), .val (.int (fb 0)), .unset] [(.ref t)])) rfl rfl (hb hby d26_48)
  refine oOn st4 ?_
  show oGl p e below (T4.setTop (mkF m 51 #[.val (.ref t), .val (.int sm), .val (.int (fb 0)), .unset] [(.int (0 : Int32))])) _
  refine saloadN X4 hx (hb hby d26_51) rfl rfl rfl (pc' := 52) ?_
  obtain ⟨T5, X5, e5, st5⟩ := getF X4 hx hZ hown (host := "") (Or.inl (hw _ (List.mem_of_getElem? (i := 75) rfl))) Via.refl e4 t3 (g := (mkF m 52 #[.val (.ref t), .val (.int sm), .val (.int (fb 0)), .unset] [(.ref t), (.int (0 : Int32))])) rfl rfl (hb hby d26_52)
  refine oOn st5 ?_
  show oGl p e below (T5.setTop (mkF m 55 #[.val (.ref t), .val (.int sm), .val (.int (fb 0)), .unset] [(.ref ca), (.int (0 : Int32))])) _
  refine oOn (PC.len X5 hx hZ e5 (g := (mkF m 55 #[.val (.ref t), .val (.int sm), .val (.int (fb 0)), .unset] [(.ref ca), (.int (0 : Int32))])) rfl rfl (hb hby d26_55)) ?_
  show oGl p e below (T5.setTop (mkF m 56 #[.val (.ref t), .val (.int sm), .val (.int (fb 0)), .unset] [(.int (8 : Int32)), (.int (0 : Int32))])) _
  refine sicY X5 hx (hb hby d26_56) (by decide) (by decide) (feq (by decide : ¬ ((0 : Int32) = (8 : Int32)))).2 (pc' := 116) ?_
  refine oRet0 X5 hx Bd.notSynchronized Bd.returns (hb hby d26_116) (by decide) (by decide) ?_
  show Q_rmMr0 Z t tx bo ca ft fb fc sm h0 n0 _ T5.heap _
  rw [e5]
  exact ⟨rfl, N0, rfl⟩
theorem d14_0 : decode prog_21_method_5_code 0 = .ok (.aload_n 1, 1) := by decide +kernel
theorem d14_1 : decode prog_21_method_5_code 1 = .ok (.getstatic 56, 3) := by decide +kernel
theorem d14_4 : decode prog_21_method_5_code 4 = .ok (.invokevirtual 62, 3) := by decide +kernel
theorem pd_22 : parseMethodDescriptor "(Ljava/nio/charset/Charset;)[B" = some ⟨[(.object "java/nio/charset/Charset")], some (.array .byte)⟩ := by decide +kernel
theorem d14_7 : decode prog_21_method_5_code 7 = .ok (.astore 4, 2) := by decide +kernel
theorem d14_9 : decode prog_21_method_5_code 9 = .ok (.aload_n 0, 1) := by decide +kernel
theorem d14_10 : decode prog_21_method_5_code 10 = .ok (.aload 4, 2) := by decide +kernel
theorem d14_12 : decode prog_21_method_5_code 12 = .ok (.iconst 0, 1) := by decide +kernel
theorem d14_13 : decode prog_21_method_5_code 13 = .ok (.aload 4, 2) := by decide +kernel
theorem d14_15 : decode prog_21_method_5_code 15 = .ok (.arraylength, 1) := by decide +kernel
theorem d14_16 : decode prog_21_method_5_code 16 = .ok (.invokevirtual 68, 3) := by decide +kernel
theorem d14_19 : decode prog_21_method_5_code 19 = .ok (.istore 5, 2) := by decide +kernel
theorem d14_21 : decode prog_21_method_5_code 21 = .ok (.aload_n 0, 1) := by decide +kernel
theorem d14_22 : decode prog_21_method_5_code 22 = .ok (.aload 4, 2) := by decide +kernel
theorem d14_24 : decode prog_21_method_5_code 24 = .ok (.iload 5, 2) := by decide +kernel
theorem d14_26 : decode prog_21_method_5_code 26 = .ok (.invokevirtual 72, 3) := by decide +kernel
theorem pd_23 : parseMethodDescriptor "([BI)I" = some ⟨[(.array .byte), .int], some .int⟩ := by decide +kernel
theorem d14_29 : decode prog_21_method_5_code 29 = .ok (.istore 6, 2) := by decide +kernel
theorem d14_31 : decode prog_21_method_5_code 31 = .ok (.iconst (-1), 1) := by decide +kernel
theorem d14_32 : decode prog_21_method_5_code 32 = .ok (.istore 7, 2) := by decide +kernel
theorem d14_34 : decode prog_21_method_5_code 34 = .ok (.aload_n 0, 1) := by decide +kernel
theorem d14_35 : decode prog_21_method_5_code 35 = .ok (.getfield 41, 3) := by decide +kernel
theorem d14_38 : decode prog_21_method_5_code 38 = .ok (.iload 6, 2) := by decide +kernel
theorem d14_40 : decode prog_21_method_5_code 40 = .ok (.iaload, 1) := by decide +kernel
theorem d14_41 : decode prog_21_method_5_code 41 = .ok (.ifCond .ne 203, 3) := by decide +kernel
theorem d14_44 : decode prog_21_method_5_code 44 = .ok (.aload_n 0, 1) := by decide +kernel
theorem d14_45 : decode prog_21_method_5_code 45 = .ok (.getfield 23, 3) := by decide +kernel
theorem d14_48 : decode prog_21_method_5_code 48 = .ok (.istore 7, 2) := by decide +kernel
theorem d14_50 : decode prog_21_method_5_code 50 = .ok (.aload_n 2, 1) := by decide +kernel
theorem d14_51 : decode prog_21_method_5_code 51 = .ok (.getstatic 56, 3) := by decide +kernel
theorem d14_54 : decode prog_21_method_5_code 54 = .ok (.invokevirtual 62, 3) := by decide +kernel
theorem d14_57 : decode prog_21_method_5_code 57 = .ok (.astore 8, 2) := by decide +kernel
theorem d14_59 : decode prog_21_method_5_code 59 = .ok (.aload_n 0, 1) := by decide +kernel
theorem d14_60 : decode prog_21_method_5_code 60 = .ok (.aload 4, 2) := by decide +kernel
theorem d14_62 : decode prog_21_method_5_code 62 = .ok (.arraylength, 1) := by decide +kernel
theorem d14_63 : decode prog_21_method_5_code 63 = .ok (.aload 8, 2) := by decide +kernel
theorem d14_65 : decode prog_21_method_5_code 65 = .ok (.arraylength, 1) := by decide +kernel
theorem d14_66 : decode prog_21_method_5_code 66 = .ok (.iadd, 1) := by decide +kernel
theorem d14_67 : decode prog_21_method_5_code 67 = .ok (.invokevirtual 76, 3) := by decide +kernel
theorem pd_24 : parseMethodDescriptor "(I)V" = some ⟨[.int], none⟩ := by decide +kernel
theorem d14_70 : decode prog_21_method_5_code 70 = .ok (.aload_n 0, 1) := by decide +kernel
theorem d14_71 : decode prog_21_method_5_code 71 = .ok (.getfield 30, 3) := by decide +kernel
theorem d14_74 : decode prog_21_method_5_code 74 = .ok (.iconst 2, 1) := by decide +kernel
theorem d14_75 : decode prog_21_method_5_code 75 = .ok (.iload 7, 2) := by decide +kernel
theorem d14_77 : decode prog_21_method_5_code 77 = .ok (.imul, 1) := by decide +kernel
theorem d14_78 : decode prog_21_method_5_code 78 = .ok (.iaload, 1) := by decide +kernel
theorem d14_79 : decode prog_21_method_5_code 79 = .ok (.istore 9, 2) := by decide +kernel
theorem d14_81 : decode prog_21_method_5_code 81 = .ok (.aload 4, 2) := by decide +kernel
theorem d14_83 : decode prog_21_method_5_code 83 = .ok (.iconst 0, 1) := by decide +kernel
theorem d14_84 : decode prog_21_method_5_code 84 = .ok (.aload_n 0, 1) := by decide +kernel
theorem d14_85 : decode prog_21_method_5_code 85 = .ok (.getfield 26, 3) := by decide +kernel
theorem d14_88 : decode prog_21_method_5_code 88 = .ok (.iload 9, 2) := by decide +kernel
theorem d14_90 : decode prog_21_method_5_code 90 = .ok (.aload 4, 2) := by decide +kernel
theorem d14_92 : decode prog_21_method_5_code 92 = .ok (.arraylength, 1) := by decide +kernel
theorem d14_93 : decode prog_21_method_5_code 93 = .ok (.invokestatic 80, 3) := by decide +kernel
theorem d14_96 : decode prog_21_method_5_code 96 = .ok (.aload 8, 2) := by decide +kernel
theorem d14_98 : decode prog_21_method_5_code 98 = .ok (.iconst 0, 1) := by decide +kernel
theorem d14_99 : decode prog_21_method_5_code 99 = .ok (.aload_n 0, 1) := by decide +kernel
theorem d14_100 : decode prog_21_method_5_code 100 = .ok (.getfield 26, 3) := by decide +kernel
theorem d14_103 : decode prog_21_method_5_code 103 = .ok (.iload 9, 2) := by decide +kernel
theorem d14_105 : decode prog_21_method_5_code 105 = .ok (.aload 4, 2) := by decide +kernel
theorem d14_107 : decode prog_21_method_5_code 107 = .ok (.arraylength, 1) := by decide +kernel
theorem d14_108 : decode prog_21_method_5_code 108 = .ok (.iadd, 1) := by decide +kernel
theorem d14_109 : decode prog_21_method_5_code 109 = .ok (.aload 8, 2) := by decide +kernel
theorem d14_111 : decode prog_21_method_5_code 111 = .ok (.arraylength, 1) := by decide +kernel
theorem d14_112 : decode prog_21_method_5_code 112 = .ok (.invokestatic 80, 3) := by decide +kernel
theorem d14_115 : decode prog_21_method_5_code 115 = .ok (.aload_n 0, 1) := by decide +kernel
theorem d14_116 : decode prog_21_method_5_code 116 = .ok (.getfield 30, 3) := by decide +kernel
theorem d14_119 : decode prog_21_method_5_code 119 = .ok (.iconst 2, 1) := by decide +kernel
theorem d14_120 : decode prog_21_method_5_code 120 = .ok (.iload 7, 2) := by decide +kernel
theorem d14_122 : decode prog_21_method_5_code 122 = .ok (.imul, 1) := by decide +kernel
theorem d14_123 : decode prog_21_method_5_code 123 = .ok (.iconst 1, 1) := by decide +kernel
theorem d14_124 : decode prog_21_method_5_code 124 = .ok (.iadd, 1) := by decide +kernel
theorem d14_125 : decode prog_21_method_5_code 125 = .ok (.iload 9, 2) := by decide +kernel
theorem d14_127 : decode prog_21_method_5_code 127 = .ok (.aload 4, 2) := by decide +kernel
theorem d14_129 : decode prog_21_method_5_code 129 = .ok (.arraylength, 1) := by decide +kernel
theorem d14_130 : decode prog_21_method_5_code 130 = .ok (.iadd, 1) := by decide +kernel
theorem d14_131 : decode prog_21_method_5_code 131 = .ok (.iastore, 1) := by decide +kernel
theorem d14_132 : decode prog_21_method_5_code 132 = .ok (.aload_n 0, 1) := by decide +kernel
theorem d14_133 : decode prog_21_method_5_code 133 = .ok (.getfield 30, 3) := by decide +kernel
theorem d14_136 : decode prog_21_method_5_code 136 = .ok (.iconst 2, 1) := by decide +kernel
theorem d14_137 : decode prog_21_method_5_code 137 = .ok (.iload 7, 2) := by decide +kernel
theorem d14_139 : decode prog_21_method_5_code 139 = .ok (.imul, 1) := by decide +kernel
theorem d14_140 : decode prog_21_method_5_code 140 = .ok (.iconst 2, 1) := by decide +kernel
theorem d14_141 : decode prog_21_method_5_code 141 = .ok (.iadd, 1) := by decide +kernel
theorem d14_142 : decode prog_21_method_5_code 142 = .ok (.iload 9, 2) := by decide +kernel
theorem d14_144 : decode prog_21_method_5_code 144 = .ok (.aload 4, 2) := by decide +kernel
theorem d14_146 : decode prog_21_method_5_code 146 = .ok (.arraylength, 1) := by decide +kernel
theorem d14_147 : decode prog_21_method_5_code 147 = .ok (.iadd, 1) := by decide +kernel
theorem d14_148 : decode prog_21_method_5_code 148 = .ok (.aload 8, 2) := by decide +kernel
theorem d14_150 : decode prog_21_method_5_code 150 = .ok (.arraylength, 1) := by decide +kernel
theorem d14_151 : decode prog_21_method_5_code 151 = .ok (.iadd, 1) := by decide +kernel
theorem d14_152 : decode prog_21_method_5_code 152 = .ok (.iastore, 1) := by decide +kernel
theorem d14_153 : decode prog_21_method_5_code 153 = .ok (.aload_n 3, 1) := by decide +kernel
theorem d14_154 : decode prog_21_method_5_code 154 = .ok (.ifnull 17, 3) := by decide +kernel
theorem d14_171 : decode prog_21_method_5_code 171 = .ok (.aload_n 0, 1) := by decide +kernel
theorem d14_172 : decode prog_21_method_5_code 172 = .ok (.getfield 41, 3) := by decide +kernel
theorem d14_175 : decode prog_21_method_5_code 175 = .ok (.iload 6, 2) := by decide +kernel
theorem d14_177 : decode prog_21_method_5_code 177 = .ok (.iload 7, 2) := by decide +kernel
theorem d14_179 : decode prog_21_method_5_code 179 = .ok (.iconst 1, 1) := by decide +kernel
theorem d14_180 : decode prog_21_method_5_code 180 = .ok (.iadd, 1) := by decide +kernel
theorem d14_181 : decode prog_21_method_5_code 181 = .ok (.iastore, 1) := by decide +kernel
theorem d14_182 : decode prog_21_method_5_code 182 = .ok (.aload_n 0, 1) := by decide +kernel
theorem d14_183 : decode prog_21_method_5_code 183 = .ok (.dup, 1) := by decide +kernel
theorem d14_184 : decode prog_21_method_5_code 184 = .ok (.getfield 23, 3) := by decide +kernel
theorem d14_187 : decode prog_21_method_5_code 187 = .ok (.iconst 1, 1) := by decide +kernel
theorem d14_188 : decode prog_21_method_5_code 188 = .ok (.iadd, 1) := by decide +kernel
theorem d14_189 : decode prog_21_method_5_code 189 = .ok (.putfield 23, 3) := by decide +kernel
theorem d14_192 : decode prog_21_method_5_code 192 = .ok (.iconst 2, 1) := by decide +kernel
theorem d14_193 : decode prog_21_method_5_code 193 = .ok (.aload_n 0, 1) := by decide +kernel
theorem d14_194 : decode prog_21_method_5_code 194 = .ok (.getfield 23, 3) := by decide +kernel
theorem d14_197 : decode prog_21_method_5_code 197 = .ok (.imul, 1) := by decide +kernel
theorem d14_198 : decode prog_21_method_5_code 198 = .ok (.aload_n 0, 1) := by decide +kernel
theorem d14_199 : decode prog_21_method_5_code 199 = .ok (.getfield 41, 3) := by decide +kernel
theorem d14_202 : decode prog_21_method_5_code 202 = .ok (.arraylength, 1) := by decide +kernel
theorem d14_203 : decode prog_21_method_5_code 203 = .ok (.if_icmp .le 17, 3) := by decide +kernel
theorem d14_220 : decode prog_21_method_5_code 220 = .ok (.iload 6, 2) := by decide +kernel
theorem d14_222 : decode prog_21_method_5_code 222 = .ok (.iload 5, 2) := by decide +kernel
theorem d14_224 : decode prog_21_method_5_code 224 = .ok (.isub, 1) := by decide +kernel
theorem d14_225 : decode prog_21_method_5_code 225 = .ok (.aload_n 0, 1) := by decide +kernel
theorem d14_226 : decode prog_21_method_5_code 226 = .ok (.getfield 41, 3) := by decide +kernel
theorem d14_229 : decode prog_21_method_5_code 229 = .ok (.arraylength, 1) := by decide +kernel
theorem d14_230 : decode prog_21_method_5_code 230 = .ok (.iconst 1, 1) := by decide +kernel
theorem d14_231 : decode prog_21_method_5_code 231 = .ok (.isub, 1) := by decide +kernel
theorem d14_232 : decode prog_21_method_5_code 232 = .ok (.iand, 1) := by decide +kernel
theorem d14_233 : decode prog_21_method_5_code 233 = .ok (.aload_n 0, 1) := by decide +kernel
theorem d14_234 : decode prog_21_method_5_code 234 = .ok (.getfield 16, 3) := by decide +kernel
theorem d14_237 : decode prog_21_method_5_code 237 = .ok (.if_icmp .le 7, 3) := by decide +kernel
theorem d14_244 : decode prog_21_method_5_code 244 = .ok (.iload 7, 2) := by decide +kernel
theorem d14_246 : decode prog_21_method_5_code 246 = .ok (.ireturn, 1) := by decide +kernel
theorem d14_157 : decode prog_21_method_5_code 157 = .ok (.aload_n 0, 1) := by decide +kernel
theorem d14_158 : decode prog_21_method_5_code 158 = .ok (.getfield 34, 3) := by decide +kernel
theorem d14_161 : decode prog_21_method_5_code 161 = .ok (.iload 7, 2) := by decide +kernel
theorem d14_163 : decode prog_21_method_5_code 163 = .ok (.aload_n 3, 1) := by decide +kernel
theorem d14_164 : decode prog_21_method_5_code 164 = .ok (.invokevirtual 86, 3) := by decide +kernel
theorem pd_25 : parseMethodDescriptor "()I" = some ⟨[], some .int⟩ := by decide +kernel
theorem d14_167 : decode prog_21_method_5_code 167 = .ok (.iconst 1, 1) := by decide +kernel
theorem d14_168 : decode prog_21_method_5_code 168 = .ok (.iadd, 1) := by decide +kernel
theorem d14_169 : decode prog_21_method_5_code 169 = .ok (.i2b, 1) := by decide +kernel
theorem d14_170 : decode prog_21_method_5_code 170 = .ok (.bastore, 1) := by decide +kernel
theorem ef_rmAdd0 (m : MethodId) (x0 : Nat) (x1 : Nat) (x2 : Nat) (x3 : Value) (hx3 : x3.isRef = true) : entryFrame m #[(.ref x0), (.ref x1), (.ref x2), x3] 10 = mkF m 0 #[.val (.ref x0), .val (.ref x1), .val (.ref x2), .val x3, .unset, .unset, .unset, .unset, .unset, .unset] [] := by rcases ref_cases hx3 with rfl | ⟨_, rfl⟩ <;> rfl
def Q_rmAdd0 (Z : State) (t tx bo ca sl ha x b y eb p0 : Nat) (f g ft fb fc : Nat → Int32) (cl : Cell) (cw : Value) (k : Int32) (u : Nat) (cz : Int32) (h0 : Heap) (n0 : Nat) (vv : Option Value) (h : Heap) (L : List Loc) : Prop := vv = some (.int 0) ∧ Fr n0 L ∧ Keep h0 h [t, tx, bo, ca, sl] ∧ Exa Z h t "com/example/yusen_ledger/yusenledger/HolderTable" ∧ Fld Z h t "com/example/yusen_ledger/yusenledger/HolderTable" "text" "[B" (.ref tx) ∧ Fld Z h t "com/example/yusen_ledger/yusenledger/HolderTable" "bounds" "[I" (.ref bo) ∧ Fld Z h t "com/example/yusen_ledger/yusenledger/HolderTable" "categories" "[B" (.ref ca) ∧ Fld Z h t "com/example/yusen_ledger/yusenledger/HolderTable" "slots" "[I" (.ref sl) ∧ Fld Z h t "com/example/yusen_ledger/yusenledger/HolderTable" "hash" "Lcom/example/yusen_ledger/yusenledger/SipHash;" (.ref ha) ∧ Fld Z h t "com/example/yusen_ledger/yusenledger/HolderTable" "size" "I" (.int 1) ∧ Fld Z h t "com/example/yusen_ledger/yusenledger/HolderTable" "reach" "I" (.int 64) ∧ (∃ q : Nat → Int32, oAI Z h ca .byte 8 q ∧ q 0 = k ∧ ∀ j, j ≠ 0 → q j = fc j) ∧ (∃ q : Nat → Int32, oAI Z h tx .byte 128 q ∧ oFit 128 q) ∧ oAI Z h bo .int 17 (oUp (oUp fb 1 (Int32.ofNat p0 + Int32.ofNat (oU1 f))) 2 ((Int32.ofNat p0 + Int32.ofNat (oU1 f)) + Int32.ofNat (oU1 g))) ∧ ∃ z : Int32, oAI Z h sl .int 16 (oUp (fun _ => (0 : Int32)) z.toInt.toNat (1 : Int32))
set_option maxRecDepth 65536 in
set_option maxHeartbeats 40000000 in
theorem rmAdd0 (l : Launch) (Z : State) (a0 : Array Value) (hw : ∀ d ∈ tables_1, d.before a0 Z = true) (ws : List Jvm.Cond) (t tx bo ca sl ha x b y eb p0 : Nat) (f g ft fb fc : Nat → Int32) (cl : Cell) (cw : Value) (k : Int32) (u : Nat) (cz : Int32) (h0 : Heap) (n0 : Nat) (Z0 : n0 ≤ h0.size) (O0 : Old Z n0 h0) (SCS : Sta Z Z.heap "java/lang/String" "COMPACT_STRINGS" "Z" (.int cz)) (hcz : ¬ cz = (0 : Int32)) (SU : Sta Z Z.heap "java/nio/charset/StandardCharsets" "UTF_8" "Ljava/nio/charset/Charset;" (.ref u)) (SI : Sta Z Z.heap "sun/nio/cs/UTF_8" "INSTANCE" "Lsun/nio/cs/UTF_8;" (.ref u)) (EH : Exa Z Z.heap ha "com/example/yusen_ledger/yusenledger/SipHash") (FK0 : Fld Z Z.heap ha "com/example/yusen_ledger/yusenledger/SipHash" "key0" "J" (.long 0)) (FK1 : Fld Z Z.heap ha "com/example/yusen_ledger/yusenledger/SipHash" "key1" "J" (.long 0)) (t0 : Exa Z h0 t "com/example/yusen_ledger/yusenledger/HolderTable") (t1 : Fld Z h0 t "com/example/yusen_ledger/yusenledger/HolderTable" "text" "[B" (.ref tx)) (t2 : Fld Z h0 t "com/example/yusen_ledger/yusenledger/HolderTable" "bounds" "[I" (.ref bo)) (t3 : Fld Z h0 t "com/example/yusen_ledger/yusenledger/HolderTable" "categories" "[B" (.ref ca)) (t4 : Fld Z h0 t "com/example/yusen_ledger/yusenledger/HolderTable" "slots" "[I" (.ref sl)) (t5 : Fld Z h0 t "com/example/yusen_ledger/yusenledger/HolderTable" "hash" "Lcom/example/yusen_ledger/yusenledger/SipHash;" (.ref ha)) (t6 : Fld Z h0 t "com/example/yusen_ledger/yusenledger/HolderTable" "size" "I" (.int 0)) (t7 : Fld Z h0 t "com/example/yusen_ledger/yusenledger/HolderTable" "reach" "I" (.int 64)) (Es1 : Exa Z h0 x "java/lang/String") (Fs1 : Fld Z h0 x "java/lang/String" "value" "[B" (.ref b)) (Cs1 : Fld Z h0 x "java/lang/String" "coder" "B" (.int 0)) (Ps1 : oAI Z h0 b .byte 1 f) (Ys1 : Exa Z h0 b "[B") (Gs1 : oFit 1 f) (Es2 : Exa Z h0 y "java/lang/String") (Fs2 : Fld Z h0 y "java/lang/String" "value" "[B" (.ref eb)) (Cs2 : Fld Z h0 y "java/lang/String" "coder" "B" (.int 0)) (Ps2 : oAI Z h0 eb .byte 1 g) (Ys2 : Exa Z h0 eb "[B") (Gs2 : oFit 1 g) (PT : oAI Z h0 tx .byte 128 ft) (HT9 : oFit 128 ft) (PO : oAI Z h0 bo .int 17 fb) (PC : oAI Z h0 ca .byte 8 fc) (PS : oAI Z h0 sl .int 16 (fun _ => 0)) (hct : oCt Z cl cw k) (hcw : cw.isRef = true) (hfc : fc 0 = (0 : Int32)) (hp : fb 0 = Int32.ofNat p0) (hp9 : p0 ≤ 10) (gt : n0 ≤ t) (o1 : t < tx) (o2 : tx < bo) (o3 : bo < ca) (o4 : ca < sl) :
    MetFree l (⟨"com/example/yusen_ledger/yusenledger/HolderTable", "add", "(Ljava/lang/String;Ljava/lang/String;Lcom/example/yusen_ledger/yusenledger/HolderCategory;)I"⟩ : MethodName) (head1 (Jvm.Cond.code (⟨"com/example/yusen_ledger/yusenledger/HolderTable", "add", "(Ljava/lang/String;Ljava/lang/String;Lcom/example/yusen_ledger/yusenledger/HolderCategory;)I"⟩ : MethodName) prog_21_method_5_code 10 (some .int) :: ws) ({ frames := 5, cells := 2, slots := 4, locals := 77 } : Room)) (fun aA uU => aA = #[(.ref t), (.ref x), (.ref y), cw] ∧ Z.Warmed39 uU.vm ∧ uU.heap = h0) (fun _ _ _ _ _ => True) (fun _ uU oO uU' => ∃ vV lL, oO = .returned vV ∧ Q_rmAdd0 Z t tx bo ca sl ha x b y eb p0 f g ft fb fc cl cw k u cz h0 n0 vV uU'.heap lL ∧ FrameEnd uU oO uU' lL ({ frames := 5, cells := 2, slots := 4, locals := 77 } : Room).cells ({ frames := 5, cells := 2, slots := 4, locals := 77 } : Room).slots) := by
  refine MetFree.of_bodySF (plainFor_of_name pn_HolderTable) hisR ?_
  intro p e s m args below meth c s₁ Bd hml0 hP hK
  obtain ⟨rfl, hZ, hh⟩ := hP
  have hx := Bd.exec
  have hby := Bd.bytes
  have hml : c.maxLocals = 10 := hml0
  have hown : s.vm.findClass "com/example/yusen_ledger/yusenledger/HolderTable" = some m.cls := findClass_of_methodNamed Bd.named
  have hnm := (name_of_methodNamed Bd.named Bd.method).1
  have X0 : Stand p l e ({ frames := 5, cells := 2, slots := 4, locals := 77 } : Room) s m #[(.ref t), (.ref x), (.ref y), cw] below meth c s₁ [] 0 0 := Stand.of_body Bd
  have e0 : s₁.heap = h0 := by rw [← hh, Bd.state]; rfl
  have N0 := Fr.nil n0
  have lT : @LT.lt Nat _ t h0.size := t0.lt
  have lX : @LT.lt Nat _ tx h0.size := PT.lt
  have lO : @LT.lt Nat _ bo h0.size := PO.lt
  have lC : @LT.lt Nat _ ca h0.size := PC.lt
  have lS : @LT.lt Nat _ sl h0.size := PS.lt
  have lb : @LT.lt Nat _ b h0.size := Ps1.lt
  have le : @LT.lt Nat _ eb h0.size := Ps2.lt
  have u1 := oU1_b f
  have u2 := oU1_b g
  have u3 := oU2_b f
  have v1 := own_ofNat (n := (oU1 f)) (by omega)
  have v2 := own_ofNat (n := (oU1 g)) (by omega)
  have v3 := own_ofNat (n := p0) (by omega)
  have v4 : ((Int32.ofNat p0 + Int32.ofNat (oU1 f))).toInt = p0 + (oU1 f) := by rw [own_sm (by omega) (by omega), own_ofNat (by omega)]; omega
  have v0 : (0 : Int32).toInt = 0 := rfl
  refine oEnter (oCast (ef_rmAdd0 m t x y cw hcw) ?_)
  show oGl p e below (s₁.setTop (mkF m 0 #[.val (.ref t), .val (.ref x), .val (.ref y), .val cw, .unset, .unset, .unset, .unset, .unset, .unset] [])) _
  refine saloadN X0 hx (hb hby d14_0) rfl rfl rfl (pc' := 1) ?_
  obtain ⟨T1, X1, e1, st1⟩ := getS2 X0 hx hZ hown (host := "") (Or.inl (hw _ (List.mem_of_getElem? (i := 88) rfl))) Via.refl e0 (SU.ext O0.2) (g := (mkF m 1 #[.val (.ref t), .val (.ref x), .val (.ref y), .val cw, .unset, .unset, .unset, .unset, .unset, .unset] [(.ref x)])) rfl (hb hby d14_1)
  refine oOn st1 ?_
  show oGl p e below (T1.setTop (mkF m 4 #[.val (.ref t), .val (.ref x), .val (.ref y), .val cw, .unset, .unset, .unset, .unset, .unset, .unset] [(.ref u), (.ref x)])) _
  have hz2 : n0 ≤ h0.size := by omega
  obtain ⟨cq2, kq2, q2a, q2b, q2c⟩ := isOf hZ e1 Es1
  obtain ⟨_, _, ⟨T2, L2, k2, n2⟩, -, X2, ⟨Lc2, hQ2, l2, y2, z2⟩, st2⟩ := X1.virtualBack hx (y := (⟨"java/lang/String", "getBytes", "(Ljava/nio/charset/Charset;)[B"⟩ : MethodName)) (z := (⟨"java/lang/String", "getBytes", "(Ljava/nio/charset/Charset;)[B"⟩ : MethodName)) hown (mvT hZ (hw _ (List.mem_of_getElem? (i := 90) rfl))) (mvT hZ (hw _ (List.mem_of_getElem? (i := 91) rfl))) (notFace_of_selects (args := #[]) (mvT hZ (hw _ (List.mem_of_getElem? (i := 93) rfl)))) (mvT hZ (hw _ (List.mem_of_getElem? (i := 93) rfl))) (mvT hZ (hw _ (List.mem_of_getElem? (i := 92) rfl))) (by decide) (backOf (W := 0) (rmGb81 l Z a0 hw [] x b f u cz h0 n0 hz2 O0 SCS hcz SU SI Es1 Fs1 Cs1 Ps1 Ys1 Gs1) hZ (hw _ (List.mem_of_getElem? (i := 94) rfl)) (hw _ (List.mem_of_getElem? (i := 10) rfl)) (by decide) (by decide)) q2a q2c (g := (mkF m 4 #[.val (.ref t), .val (.ref x), .val (.ref y), .val cw, .unset, .unset, .unset, .unset, .unset, .unset] [(.ref u), (.ref x)])) rfl (by rw [hml]; rfl) (Steps.refl _) (argsL := [(.ref u)]) (rest := []) (lenOf pd_22 rfl) rfl (by show 2 * 0 + _ ≤ _; exact Nat.le_of_eq rfl) (hb hby d14_4) (fun _ _ => ⟨rfl, e1, (by decide : 0 + 1 ≤ _), (by decide : 0 + 2 ≤ _)⟩)
  dsimp only [Pt.U, Pt.locs, Pt.cells, Pt.slots] at X2 l2 y2 z2 st2 hQ2
  subst l2 y2 z2
  obtain ⟨d2, gg2, rfl, N2q, K2, zd2, Vd2, Fd2⟩ := hQ2
  have N2 := Fr.app N0 N2q
  have z3 : h0.size ≤ T2.heap.size := K2.1
  refine oSt st2 ?_
  have ld2 : @LT.lt Nat _ d2 T2.heap.size := Vd2.lt
  show oGl p e below (T2.setTop (mkF m 7 #[.val (.ref t), .val (.ref x), .val (.ref y), .val cw, .unset, .unset, .unset, .unset, .unset, .unset] [(.ref d2)])) _
  refine sastore X2 hx (hb hby d14_7) rfl rfl rfl (l' := #[.val (.ref t), .val (.ref x), .val (.ref y), .val cw, .val (.ref d2), .unset, .unset, .unset, .unset, .unset]) (pc' := 9) ?_
  refine saloadN X2 hx (hb hby d14_9) rfl rfl rfl (pc' := 10) ?_
  refine saload X2 hx (hb hby d14_10) rfl rfl rfl (pc' := 12) ?_
  refine siconst X2 hx (hb hby d14_12) rfl rfl (z := 0) (pc' := 13) ?_
  refine saload X2 hx (hb hby d14_13) rfl rfl rfl (pc' := 15) ?_
  refine oOn (Vd2.len X2 hx hZ rfl (g := (mkF m 15 #[.val (.ref t), .val (.ref x), .val (.ref y), .val cw, .val (.ref d2), .unset, .unset, .unset, .unset, .unset] [(.ref d2), (.int (0 : Int32)), (.ref d2), (.ref t)])) rfl rfl (hb hby d14_15)) ?_
  show oGl p e below (T2.setTop (mkF m 16 #[.val (.ref t), .val (.ref x), .val (.ref y), .val cw, .val (.ref d2), .unset, .unset, .unset, .unset, .unset] [(.int (Int32.ofNat (oU1 f))), (.int (0 : Int32)), (.ref d2), (.ref t)])) _
  have f4 := (O0.keep K2 all0)
  have f5 := (t0.keep K2)
  have f6 := (t4.keep K2 nin0)
  have f7 := (t5.keep K2 nin0)
  have f8 := (PS.keep K2 nin0)
  have hz9 : n0 ≤ T2.heap.size := by omega
  obtain ⟨cq9, q9, q9'⟩ := f5.cell
  obtain ⟨_, _, ⟨T9, L9, k9, n9⟩, -, X9, ⟨Lc9, hQ9, l9, y9, z9⟩, st9⟩ := X2.privateBack hx (y := (⟨"com/example/yusen_ledger/yusenledger/HolderTable", "home", "([BII)I"⟩ : MethodName)) hown (mvT hZ (hw _ (List.mem_of_getElem? (i := 124) rfl))) (mvT hZ (hw _ (List.mem_of_getElem? (i := 125) rfl))) (oPriv (mvT hZ (hw _ (List.mem_of_getElem? (i := 52) rfl))) (Cond.privateMethod_at (mvP hZ (hw _ (List.mem_of_getElem? (i := 126) rfl)) (args := #[]))) (mvT hZ (hw _ (List.mem_of_getElem? (i := 125) rfl))) (by decide)) (Cond.privateMethod_at (mvP hZ (hw _ (List.mem_of_getElem? (i := 126) rfl)) (args := #[]))) (mvT hZ (hw _ (List.mem_of_getElem? (i := 127) rfl))) (by decide) (backOf (W := 0) (rmHome l Z a0 hw [] t sl ha d2 (oU1 f) (fun _ => 0) gg2 T2.heap n0 hz9 f4 EH FK0 FK1 f5 f6 f7 f8 Vd2 (by omega)) hZ (hw _ (List.mem_of_getElem? (i := 127) rfl)) (hw _ (List.mem_of_getElem? (i := 53) rfl)) (by decide) (by decide)) (g := (mkF m 16 #[.val (.ref t), .val (.ref x), .val (.ref y), .val cw, .val (.ref d2), .unset, .unset, .unset, .unset, .unset] [(.int (Int32.ofNat (oU1 f))), (.int (0 : Int32)), (.ref d2), (.ref t)])) rfl (by rw [hml]; rfl) (Steps.refl _) (a := t) (by exact q9) q9' (argsL := [(.ref d2), (.int (0 : Int32)), (.int (Int32.ofNat (oU1 f)))]) (rest := []) (lenOf pd_7 rfl) rfl (by show 2 * 0 + _ ≤ _; exact Nat.le_of_eq rfl) (hb hby d14_16) (fun _ _ => ⟨rfl, rfl, (by decide : 1 + 0 ≤ _), (by decide : 2 + 0 ≤ _)⟩)
  dsimp only [Pt.U, Pt.locs, Pt.cells, Pt.slots] at X9 l9 y9 z9 st9 hQ9
  subst l9 y9 z9
  obtain ⟨hm9, rfl, N9q, eh9, hz9_⟩ := hQ9
  have N9 := Fr.app N2 N9q
  refine oSt st9 ?_
  show oGl p e below (T9.setTop (mkF m 19 #[.val (.ref t), .val (.ref x), .val (.ref y), .val cw, .val (.ref d2), .unset, .unset, .unset, .unset, .unset] [(.int hm9)])) _
  refine sistore X9 hx (hb hby d14_19) rfl rfl (l' := #[.val (.ref t), .val (.ref x), .val (.ref y), .val cw, .val (.ref d2), .val (.int hm9), .unset, .unset, .unset, .unset]) (pc' := 21) ?_
  refine saloadN X9 hx (hb hby d14_21) rfl rfl rfl (pc' := 22) ?_
  refine saload X9 hx (hb hby d14_22) rfl rfl rfl (pc' := 24) ?_
  refine siload X9 hx (hb hby d14_24) rfl rfl (pc' := 26) ?_
  have hz10 : n0 ≤ T2.heap.size := by omega
  obtain ⟨cq10, q10, q10'⟩ := f5.cell
  obtain ⟨_, _, ⟨T10, L10, k10, n10⟩, -, X10, ⟨Lc10, hQ10, l10, y10, z10⟩, st10⟩ := X9.privateBack hx (y := (⟨"com/example/yusen_ledger/yusenledger/HolderTable", "slotOf", "([BI)I"⟩ : MethodName)) hown (mvT hZ (hw _ (List.mem_of_getElem? (i := 151) rfl))) (mvT hZ (hw _ (List.mem_of_getElem? (i := 152) rfl))) (oPriv (mvT hZ (hw _ (List.mem_of_getElem? (i := 52) rfl))) (Cond.privateMethod_at (mvP hZ (hw _ (List.mem_of_getElem? (i := 153) rfl)) (args := #[]))) (mvT hZ (hw _ (List.mem_of_getElem? (i := 152) rfl))) (by decide)) (Cond.privateMethod_at (mvP hZ (hw _ (List.mem_of_getElem? (i := 153) rfl)) (args := #[]))) (mvT hZ (hw _ (List.mem_of_getElem? (i := 154) rfl))) (by decide) (backOf (W := 0) (rmSlt0 l Z a0 hw [] t sl d2 hm9 T2.heap n0 hz10 f5 f6 f8 hz9_) hZ (hw _ (List.mem_of_getElem? (i := 154) rfl)) (hw _ (List.mem_of_getElem? (i := 53) rfl)) (by decide) (by decide)) (g := (mkF m 26 #[.val (.ref t), .val (.ref x), .val (.ref y), .val cw, .val (.ref d2), .val (.int hm9), .unset, .unset, .unset, .unset] [(.int hm9), (.ref d2), (.ref t)])) rfl (by rw [hml]; rfl) (Steps.refl _) (a := t) (by rw [eh9]; exact q10) q10' (argsL := [(.ref d2), (.int hm9)]) (rest := []) (lenOf pd_23 rfl) rfl (by show 2 * 0 + _ ≤ _; exact Nat.le_of_eq rfl) (hb hby d14_26) (fun _ _ => ⟨rfl, eh9, (by decide : 1 + 0 ≤ _), (by decide : 2 + 0 ≤ _)⟩)
  dsimp only [Pt.U, Pt.locs, Pt.cells, Pt.slots] at X10 l10 y10 z10 st10 hQ10
  subst l10 y10 z10
  obtain ⟨rfl, N10q, eh10⟩ := hQ10
  have N10 := Fr.app N9 N10q
  refine oSt st10 ?_
  show oGl p e below (T10.setTop (mkF m 29 #[.val (.ref t), .val (.ref x), .val (.ref y), .val cw, .val (.ref d2), .val (.int hm9), .unset, .unset, .unset, .unset] [(.int hm9)])) _
  refine sistore X10 hx (hb hby d14_29) rfl rfl (l' := #[.val (.ref t), .val (.ref x), .val (.ref y), .val cw, .val (.ref d2), .val (.int hm9), .val (.int hm9), .unset, .unset, .unset]) (pc' := 31) ?_
  refine siconst X10 hx (hb hby d14_31) rfl rfl (z := -1) (pc' := 32) ?_
  refine sistore X10 hx (hb hby d14_32) rfl rfl (l' := #[.val (.ref t), .val (.ref x), .val (.ref y), .val cw, .val (.ref d2), .val (.int hm9), .val (.int hm9), .val (.int (-1 : Int32)), .unset, .unset]) (pc' := 34) ?_
  refine saloadN X10 hx (hb hby d14_34) rfl rfl rfl (pc' := 35) ?_
  obtain ⟨T11, X11, e11, st11⟩ := getF X10 hx hZ hown (host := "") (Or.inl (hw _ (List.mem_of_getElem? (i := 79) rfl))) Via.refl eh10 f6 (g := (mkF m 35 #[.val (.ref t), .val (.ref x), .val (.ref y), .val cw, .val (.ref d2), .val (.int hm9), .val (.int hm9), .val (.int (-1 : Int32)), .unset, .unset] [(.ref t)])) rfl rfl (hb hby d14_35)
  refine oOn st11 ?_
  show oGl p e below (T11.setTop (mkF m 38 #[.val (.ref t), .val (.ref x), .val (.ref y), .val cw, .val (.ref d2), .val (.int hm9), .val (.int hm9), .val (.int (-1 : Int32)), .unset, .unset] [(.ref sl)])) _
  refine siload X11 hx (hb hby d14_38) rfl rfl (pc' := 40) ?_
  refine oOn (f8.ldI X11 hx hZ e11 (j := hm9) hz9_ (g := (mkF m 40 #[.val (.ref t), .val (.ref x), .val (.ref y), .val cw, .val (.ref d2), .val (.int hm9), .val (.int hm9), .val (.int (-1 : Int32)), .unset, .unset] [(.int hm9), (.ref sl)])) rfl rfl (hb hby d14_40)) ?_
  show oGl p e below (T11.setTop (mkF m 41 #[.val (.ref t), .val (.ref x), .val (.ref y), .val cw, .val (.ref d2), .val (.int hm9), .val (.int hm9), .val (.int (-1 : Int32)), .unset, .unset] [(.int ((fun _ => 0) hm9.toInt.toNat))])) _
  show oGl p e below (T11.setTop (mkF m 41 #[.val (.ref t), .val (.ref x), .val (.ref y), .val cw, .val (.ref d2), .val (.int hm9), .val (.int hm9), .val (.int (-1 : Int32)), .unset, .unset] [(.int (0 : Int32))])) _
  refine sifN X11 hx (hb hby d14_41) rfl (teq (by decide : (0 : Int32) = (0 : Int32))).2 (pc' := 44) ?_
  refine saloadN X11 hx (hb hby d14_44) rfl rfl rfl (pc' := 45) ?_
  have f13 := (t6.keep K2 nin0)
  obtain ⟨T12, X12, e12, st12⟩ := getF X11 hx hZ hown (host := "") (Or.inl (hw _ (List.mem_of_getElem? (i := 69) rfl))) Via.refl e11 f13 (g := (mkF m 45 #[.val (.ref t), .val (.ref x), .val (.ref y), .val cw, .val (.ref d2), .val (.int hm9), .val (.int hm9), .val (.int (-1 : Int32)), .unset, .unset] [(.ref t)])) rfl rfl (hb hby d14_45)
  refine oOn st12 ?_
  show oGl p e below (T12.setTop (mkF m 48 #[.val (.ref t), .val (.ref x), .val (.ref y), .val cw, .val (.ref d2), .val (.int hm9), .val (.int hm9), .val (.int (-1 : Int32)), .unset, .unset] [(.int (0 : Int32))])) _
  refine sistore X12 hx (hb hby d14_48) rfl rfl (l' := #[.val (.ref t), .val (.ref x), .val (.ref y), .val cw, .val (.ref d2), .val (.int hm9), .val (.int hm9), .val (.int (0 : Int32)), .unset, .unset]) (pc' := 50) ?_
  refine saloadN X12 hx (hb hby d14_50) rfl rfl rfl (pc' := 51) ?_
  obtain ⟨T14, X14, e14, st14⟩ := getS2 X12 hx hZ hown (host := "") (Or.inl (hw _ (List.mem_of_getElem? (i := 88) rfl))) Via.refl e12 (SU.ext f4.2) (g := (mkF m 51 #[.val (.ref t), .val (.ref x), .val (.ref y), .val cw, .val (.ref d2), .val (.int hm9), .val (.int hm9), .val (.int (0 : Int32)), .unset, .unset] [(.ref y)])) rfl (hb hby d14_51)
  refine oOn st14 ?_
  show oGl p e below (T14.setTop (mkF m 54 #[.val (.ref t), .val (.ref x), .val (.ref y), .val cw, .val (.ref d2), .val (.int hm9), .val (.int hm9), .val (.int (0 : Int32)), .unset, .unset] [(.ref u), (.ref y)])) _
  have f15 := (Es2.keep K2)
  have f16 := (Fs2.keep K2 nin0)
  have f17 := (Cs2.keep K2 nin0)
  have f18 := (Ps2.keep K2 nin0)
  have f19 := (Ys2.keep K2)
  have hz20 : n0 ≤ T2.heap.size := by omega
  obtain ⟨cq20, kq20, q20a, q20b, q20c⟩ := isOf hZ e14 f15
  obtain ⟨_, _, ⟨T20, L20, k20, n20⟩, -, X20, ⟨Lc20, hQ20, l20, y20, z20⟩, st20⟩ := X14.virtualBack hx (y := (⟨"java/lang/String", "getBytes", "(Ljava/nio/charset/Charset;)[B"⟩ : MethodName)) (z := (⟨"java/lang/String", "getBytes", "(Ljava/nio/charset/Charset;)[B"⟩ : MethodName)) hown (mvT hZ (hw _ (List.mem_of_getElem? (i := 90) rfl))) (mvT hZ (hw _ (List.mem_of_getElem? (i := 91) rfl))) (notFace_of_selects (args := #[]) (mvT hZ (hw _ (List.mem_of_getElem? (i := 93) rfl)))) (mvT hZ (hw _ (List.mem_of_getElem? (i := 93) rfl))) (mvT hZ (hw _ (List.mem_of_getElem? (i := 92) rfl))) (by decide) (backOf (W := 0) (rmGb81 l Z a0 hw [] y eb g u cz T2.heap n0 hz20 f4 SCS hcz SU SI f15 f16 f17 f18 f19 Gs2) hZ (hw _ (List.mem_of_getElem? (i := 94) rfl)) (hw _ (List.mem_of_getElem? (i := 10) rfl)) (by decide) (by decide)) q20a q20c (g := (mkF m 54 #[.val (.ref t), .val (.ref x), .val (.ref y), .val cw, .val (.ref d2), .val (.int hm9), .val (.int hm9), .val (.int (0 : Int32)), .unset, .unset] [(.ref u), (.ref y)])) rfl (by rw [hml]; rfl) (Steps.refl _) (argsL := [(.ref u)]) (rest := []) (lenOf pd_22 rfl) rfl (by show 2 * 0 + _ ≤ _; exact Nat.le_of_eq rfl) (hb hby d14_54) (fun _ _ => ⟨rfl, e14, (by decide : 1 + 1 ≤ _), (by decide : 2 + 2 ≤ _)⟩)
  dsimp only [Pt.U, Pt.locs, Pt.cells, Pt.slots] at X20 l20 y20 z20 st20 hQ20
  subst l20 y20 z20
  obtain ⟨d20, gg20, rfl, N20q, K20, zd20, Vd20, Fd20⟩ := hQ20
  have N20 := Fr.app N10 N20q
  have z21 : T2.heap.size ≤ T20.heap.size := K20.1
  refine oSt st20 ?_
  have ld20 : @LT.lt Nat _ d20 T20.heap.size := Vd20.lt
  show oGl p e below (T20.setTop (mkF m 57 #[.val (.ref t), .val (.ref x), .val (.ref y), .val cw, .val (.ref d2), .val (.int hm9), .val (.int hm9), .val (.int (0 : Int32)), .unset, .unset] [(.ref d20)])) _
  refine sastore X20 hx (hb hby d14_57) rfl rfl rfl (l' := #[.val (.ref t), .val (.ref x), .val (.ref y), .val cw, .val (.ref d2), .val (.int hm9), .val (.int hm9), .val (.int (0 : Int32)), .val (.ref d20), .unset]) (pc' := 59) ?_
  refine saloadN X20 hx (hb hby d14_59) rfl rfl rfl (pc' := 60) ?_
  refine saload X20 hx (hb hby d14_60) rfl rfl rfl (pc' := 62) ?_
  have f22 := (Vd2.keep K20 nin0)
  refine oOn (f22.len X20 hx hZ rfl (g := (mkF m 62 #[.val (.ref t), .val (.ref x), .val (.ref y), .val cw, .val (.ref d2), .val (.int hm9), .val (.int hm9), .val (.int (0 : Int32)), .val (.ref d20), .unset] [(.ref d2), (.ref t)])) rfl rfl (hb hby d14_62)) ?_
  show oGl p e below (T20.setTop (mkF m 63 #[.val (.ref t), .val (.ref x), .val (.ref y), .val cw, .val (.ref d2), .val (.int hm9), .val (.int hm9), .val (.int (0 : Int32)), .val (.ref d20), .unset] [(.int (Int32.ofNat (oU1 f))), (.ref t)])) _
  refine saload X20 hx (hb hby d14_63) rfl rfl rfl (pc' := 65) ?_
  refine oOn (Vd20.len X20 hx hZ rfl (g := (mkF m 65 #[.val (.ref t), .val (.ref x), .val (.ref y), .val cw, .val (.ref d2), .val (.int hm9), .val (.int hm9), .val (.int (0 : Int32)), .val (.ref d20), .unset] [(.ref d20), (.int (Int32.ofNat (oU1 f))), (.ref t)])) rfl rfl (hb hby d14_65)) ?_
  show oGl p e below (T20.setTop (mkF m 66 #[.val (.ref t), .val (.ref x), .val (.ref y), .val cw, .val (.ref d2), .val (.int hm9), .val (.int hm9), .val (.int (0 : Int32)), .val (.ref d20), .unset] [(.int (Int32.ofNat (oU1 g))), (.int (Int32.ofNat (oU1 f))), (.ref t)])) _
  refine siadd X20 hx (hb hby d14_66) rfl rfl (pc' := 67) ?_
  have f23 := ((t1.keep K2 nin0).keep K20 nin0)
  have f24 := ((t2.keep K2 nin0).keep K20 nin0)
  have f25 := ((t3.keep K2 nin0).keep K20 nin0)
  have f26 := (f13.keep K20 nin0)
  have f27 := ((PT.keep K2 nin0).keep K20 nin0)
  have f28 := ((PO.keep K2 nin0).keep K20 nin0)
  have f29 := ((PC.keep K2 nin0).keep K20 nin0)
  have hz30 : n0 ≤ T20.heap.size := by omega
  have f31 := (f5.keep K20)
  obtain ⟨cq30, q30, q30'⟩ := f31.cell
  obtain ⟨_, _, ⟨T30, L30, k30, n30⟩, -, X30, ⟨Lc30, hQ30, l30, y30, z30⟩, st30⟩ := X20.privateBack hx (y := (⟨"com/example/yusen_ledger/yusenledger/HolderTable", "makeRoom", "(I)V"⟩ : MethodName)) hown (mvT hZ (hw _ (List.mem_of_getElem? (i := 155) rfl))) (mvT hZ (hw _ (List.mem_of_getElem? (i := 156) rfl))) (oPriv (mvT hZ (hw _ (List.mem_of_getElem? (i := 52) rfl))) (Cond.privateMethod_at (mvP hZ (hw _ (List.mem_of_getElem? (i := 157) rfl)) (args := #[]))) (mvT hZ (hw _ (List.mem_of_getElem? (i := 156) rfl))) (by decide)) (Cond.privateMethod_at (mvP hZ (hw _ (List.mem_of_getElem? (i := 157) rfl)) (args := #[]))) (mvT hZ (hw _ (List.mem_of_getElem? (i := 158) rfl))) (by decide) (backOf (W := 0) (rmMr0 l Z a0 hw [] t tx bo ca ft fb fc ((Int32.ofNat (oU1 f)) + (Int32.ofNat (oU1 g))) T20.heap n0 hz30 f23 f24 f25 f26 f27 f28 f29 (own_bnd hp (by omega) (by omega) (by omega))) hZ (hw _ (List.mem_of_getElem? (i := 158) rfl)) (hw _ (List.mem_of_getElem? (i := 53) rfl)) (by decide) (by decide)) (g := (mkF m 67 #[.val (.ref t), .val (.ref x), .val (.ref y), .val cw, .val (.ref d2), .val (.int hm9), .val (.int hm9), .val (.int (0 : Int32)), .val (.ref d20), .unset] [(.int ((Int32.ofNat (oU1 f)) + (Int32.ofNat (oU1 g)))), (.ref t)])) rfl (by rw [hml]; rfl) (Steps.refl _) (a := t) (by exact q30) q30' (argsL := [(.int ((Int32.ofNat (oU1 f)) + (Int32.ofNat (oU1 g))))]) (rest := []) (lenOf pd_24 rfl) rfl (by show 2 * 0 + _ ≤ _; exact Nat.le_of_eq rfl) (hb hby d14_67) (fun _ _ => ⟨rfl, rfl, (by decide : 2 + 0 ≤ _), (by decide : 4 + 0 ≤ _)⟩)
  dsimp only [Pt.U, Pt.locs, Pt.cells, Pt.slots] at X30 l30 y30 z30 st30 hQ30
  subst l30 y30 z30
  obtain ⟨rfl, N30q, eh30⟩ := hQ30
  have N30 := Fr.app N20 N30q
  refine oSt st30 ?_
  show oGl p e below (T30.setTop (mkF m 70 #[.val (.ref t), .val (.ref x), .val (.ref y), .val cw, .val (.ref d2), .val (.int hm9), .val (.int hm9), .val (.int (0 : Int32)), .val (.ref d20), .unset] [])) _
  refine saloadN X30 hx (hb hby d14_70) rfl rfl rfl (pc' := 71) ?_
  obtain ⟨T32, X32, e32, st32⟩ := getF X30 hx hZ hown (host := "") (Or.inl (hw _ (List.mem_of_getElem? (i := 73) rfl))) Via.refl eh30 f24 (g := (mkF m 71 #[.val (.ref t), .val (.ref x), .val (.ref y), .val cw, .val (.ref d2), .val (.int hm9), .val (.int hm9), .val (.int (0 : Int32)), .val (.ref d20), .unset] [(.ref t)])) rfl rfl (hb hby d14_71)
  refine oOn st32 ?_
  show oGl p e below (T32.setTop (mkF m 74 #[.val (.ref t), .val (.ref x), .val (.ref y), .val cw, .val (.ref d2), .val (.int hm9), .val (.int hm9), .val (.int (0 : Int32)), .val (.ref d20), .unset] [(.ref bo)])) _
  refine siconst X32 hx (hb hby d14_74) rfl rfl (z := 2) (pc' := 75) ?_
  refine siload X32 hx (hb hby d14_75) rfl rfl (pc' := 77) ?_
  refine simul X32 hx (hb hby d14_77) rfl (by decide) (z := (0 : Int32)) (pc' := 78) ?_
  refine oOn (f28.ldI X32 hx hZ e32 (j := (0 : Int32)) (by decide) (g := (mkF m 78 #[.val (.ref t), .val (.ref x), .val (.ref y), .val cw, .val (.ref d2), .val (.int hm9), .val (.int hm9), .val (.int (0 : Int32)), .val (.ref d20), .unset] [(.int (0 : Int32)), (.ref bo)])) rfl rfl (hb hby d14_78)) ?_
  show oGl p e below (T32.setTop (mkF m 79 #[.val (.ref t), .val (.ref x), .val (.ref y), .val cw, .val (.ref d2), .val (.int hm9), .val (.int hm9), .val (.int (0 : Int32)), .val (.ref d20), .unset] [(.int (fb 0))])) _
  rw [hp]
  show oGl p e below (T32.setTop (mkF m 79 #[.val (.ref t), .val (.ref x), .val (.ref y), .val cw, .val (.ref d2), .val (.int hm9), .val (.int hm9), .val (.int (0 : Int32)), .val (.ref d20), .unset] [(.int (Int32.ofNat p0))])) _
  refine sistore X32 hx (hb hby d14_79) rfl rfl (l' := #[.val (.ref t), .val (.ref x), .val (.ref y), .val cw, .val (.ref d2), .val (.int hm9), .val (.int hm9), .val (.int (0 : Int32)), .val (.ref d20), .val (.int (Int32.ofNat p0))]) (pc' := 81) ?_
  refine saload X32 hx (hb hby d14_81) rfl rfl rfl (pc' := 83) ?_
  refine siconst X32 hx (hb hby d14_83) rfl rfl (z := 0) (pc' := 84) ?_
  refine saloadN X32 hx (hb hby d14_84) rfl rfl rfl (pc' := 85) ?_
  obtain ⟨T33, X33, e33, st33⟩ := getF X32 hx hZ hown (host := "") (Or.inl (hw _ (List.mem_of_getElem? (i := 71) rfl))) Via.refl e32 f23 (g := (mkF m 85 #[.val (.ref t), .val (.ref x), .val (.ref y), .val cw, .val (.ref d2), .val (.int hm9), .val (.int hm9), .val (.int (0 : Int32)), .val (.ref d20), .val (.int (Int32.ofNat p0))] [(.ref t), (.int (0 : Int32)), (.ref d2)])) rfl rfl (hb hby d14_85)
  refine oOn st33 ?_
  show oGl p e below (T33.setTop (mkF m 88 #[.val (.ref t), .val (.ref x), .val (.ref y), .val cw, .val (.ref d2), .val (.int hm9), .val (.int hm9), .val (.int (0 : Int32)), .val (.ref d20), .val (.int (Int32.ofNat p0))] [(.ref tx), (.int (0 : Int32)), (.ref d2)])) _
  refine siload X33 hx (hb hby d14_88) rfl rfl (pc' := 90) ?_
  refine saload X33 hx (hb hby d14_90) rfl rfl rfl (pc' := 92) ?_
  refine oOn (f22.len X33 hx hZ e33 (g := (mkF m 92 #[.val (.ref t), .val (.ref x), .val (.ref y), .val cw, .val (.ref d2), .val (.int hm9), .val (.int hm9), .val (.int (0 : Int32)), .val (.ref d20), .val (.int (Int32.ofNat p0))] [(.ref d2), (.int (Int32.ofNat p0)), (.ref tx), (.int (0 : Int32)), (.ref d2)])) rfl rfl (hb hby d14_92)) ?_
  show oGl p e below (T33.setTop (mkF m 93 #[.val (.ref t), .val (.ref x), .val (.ref y), .val cw, .val (.ref d2), .val (.int hm9), .val (.int hm9), .val (.int (0 : Int32)), .val (.ref d20), .val (.int (Int32.ofNat p0))] [(.int (Int32.ofNat (oU1 f))), (.int (Int32.ofNat p0)), (.ref tx), (.int (0 : Int32)), (.ref d2)])) _
  obtain ⟨T34, h34, L34, X34, e34, N34, K34, V34, st34⟩ := oCp X33 hx hZ hown (hw _ (List.mem_of_getElem? (i := 159) rfl)) (hw _ (List.mem_of_getElem? (i := 162) rfl)) (hw _ (List.mem_of_getElem? (i := 160) rfl)) (hw _ (List.mem_of_getElem? (i := 161) rfl)) e33 f22 f27 Fd2 HT9 (by omega) (by omega) (by omega) (by omega) (by omega) N30 (by omega) (gf := (mkF m 93 #[.val (.ref t), .val (.ref x), .val (.ref y), .val cw, .val (.ref d2), .val (.int hm9), .val (.int hm9), .val (.int (0 : Int32)), .val (.ref d20), .val (.int (Int32.ofNat p0))] [(.int (Int32.ofNat (oU1 f))), (.int (Int32.ofNat p0)), (.ref tx), (.int (0 : Int32)), (.ref d2)])) rfl (by rw [hml]; rfl) (rest := []) rfl (hb hby d14_93) (by decide) (W := 0) (by show 2 * 0 + _ ≤ _; exact Nat.le_of_eq rfl) (by decide)
  refine oOn st34 ?_
  have z35 : T20.heap.size ≤ h34.size := K34.1
  obtain ⟨g34, Vc34, Fc34⟩ : ∃ g, oAI Z h34 tx .byte 128 g ∧ oFit 128 g := ⟨_, V34, oFit.cp (fun j hj => Fd2 _ (by have hj : j < ((Int32.ofNat (oU1 f))).toInt.toNat := hj; omega)) HT9⟩
  show oGl p e below (T34.setTop (mkF m 96 #[.val (.ref t), .val (.ref x), .val (.ref y), .val cw, .val (.ref d2), .val (.int hm9), .val (.int hm9), .val (.int (0 : Int32)), .val (.ref d20), .val (.int (Int32.ofNat p0))] [])) _
  refine saload X34 hx (hb hby d14_96) rfl rfl rfl (pc' := 98) ?_
  refine siconst X34 hx (hb hby d14_98) rfl rfl (z := 0) (pc' := 99) ?_
  refine saloadN X34 hx (hb hby d14_99) rfl rfl rfl (pc' := 100) ?_
  have f37 := (f23.keep K34 (ninS (oNe (by omega)) nin0))
  obtain ⟨T36, X36, e36, st36⟩ := getF X34 hx hZ hown (host := "") (Or.inl (hw _ (List.mem_of_getElem? (i := 71) rfl))) Via.refl e34 f37 (g := (mkF m 100 #[.val (.ref t), .val (.ref x), .val (.ref y), .val cw, .val (.ref d2), .val (.int hm9), .val (.int hm9), .val (.int (0 : Int32)), .val (.ref d20), .val (.int (Int32.ofNat p0))] [(.ref t), (.int (0 : Int32)), (.ref d20)])) rfl rfl (hb hby d14_100)
  refine oOn st36 ?_
  show oGl p e below (T36.setTop (mkF m 103 #[.val (.ref t), .val (.ref x), .val (.ref y), .val cw, .val (.ref d2), .val (.int hm9), .val (.int hm9), .val (.int (0 : Int32)), .val (.ref d20), .val (.int (Int32.ofNat p0))] [(.ref tx), (.int (0 : Int32)), (.ref d20)])) _
  refine siload X36 hx (hb hby d14_103) rfl rfl (pc' := 105) ?_
  refine saload X36 hx (hb hby d14_105) rfl rfl rfl (pc' := 107) ?_
  have f38 := (f22.keep K34 (ninS (oNe (by omega)) nin0))
  refine oOn (f38.len X36 hx hZ e36 (g := (mkF m 107 #[.val (.ref t), .val (.ref x), .val (.ref y), .val cw, .val (.ref d2), .val (.int hm9), .val (.int hm9), .val (.int (0 : Int32)), .val (.ref d20), .val (.int (Int32.ofNat p0))] [(.ref d2), (.int (Int32.ofNat p0)), (.ref tx), (.int (0 : Int32)), (.ref d20)])) rfl rfl (hb hby d14_107)) ?_
  show oGl p e below (T36.setTop (mkF m 108 #[.val (.ref t), .val (.ref x), .val (.ref y), .val cw, .val (.ref d2), .val (.int hm9), .val (.int hm9), .val (.int (0 : Int32)), .val (.ref d20), .val (.int (Int32.ofNat p0))] [(.int (Int32.ofNat (oU1 f))), (.int (Int32.ofNat p0)), (.ref tx), (.int (0 : Int32)), (.ref d20)])) _
  refine siadd X36 hx (hb hby d14_108) rfl rfl (pc' := 109) ?_
  refine saload X36 hx (hb hby d14_109) rfl rfl rfl (pc' := 111) ?_
  have f39 := (Vd20.keep K34 (ninS (oNe (by omega)) nin0))
  refine oOn (f39.len X36 hx hZ e36 (g := (mkF m 111 #[.val (.ref t), .val (.ref x), .val (.ref y), .val cw, .val (.ref d2), .val (.int hm9), .val (.int hm9), .val (.int (0 : Int32)), .val (.ref d20), .val (.int (Int32.ofNat p0))] [(.ref d20), (.int ((Int32.ofNat p0) + (Int32.ofNat (oU1 f)))), (.ref tx), (.int (0 : Int32)), (.ref d20)])) rfl rfl (hb hby d14_111)) ?_
  show oGl p e below (T36.setTop (mkF m 112 #[.val (.ref t), .val (.ref x), .val (.ref y), .val cw, .val (.ref d2), .val (.int hm9), .val (.int hm9), .val (.int (0 : Int32)), .val (.ref d20), .val (.int (Int32.ofNat p0))] [(.int (Int32.ofNat (oU1 g))), (.int ((Int32.ofNat p0) + (Int32.ofNat (oU1 f)))), (.ref tx), (.int (0 : Int32)), (.ref d20)])) _
  obtain ⟨T40, h40, L40, X40, e40, N40, K40, V40, st40⟩ := oCp X36 hx hZ hown (hw _ (List.mem_of_getElem? (i := 159) rfl)) (hw _ (List.mem_of_getElem? (i := 162) rfl)) (hw _ (List.mem_of_getElem? (i := 160) rfl)) (hw _ (List.mem_of_getElem? (i := 161) rfl)) e36 f39 Vc34 Fd20 Fc34 (by omega) (by omega) (by omega) (by omega) (by omega) N34 (by omega) (gf := (mkF m 112 #[.val (.ref t), .val (.ref x), .val (.ref y), .val cw, .val (.ref d2), .val (.int hm9), .val (.int hm9), .val (.int (0 : Int32)), .val (.ref d20), .val (.int (Int32.ofNat p0))] [(.int (Int32.ofNat (oU1 g))), (.int ((Int32.ofNat p0) + (Int32.ofNat (oU1 f)))), (.ref tx), (.int (0 : Int32)), (.ref d20)])) rfl (by rw [hml]; rfl) (rest := []) rfl (hb hby d14_112) (by decide) (W := 0) (by show 2 * 0 + _ ≤ _; exact Nat.le_of_eq rfl) (by decide)
  refine oOn st40 ?_
  have z41 : h34.size ≤ h40.size := K40.1
  obtain ⟨g40, Vc40, Fc40⟩ : ∃ g, oAI Z h40 tx .byte 128 g ∧ oFit 128 g := ⟨_, V40, oFit.cp (fun j hj => Fd20 _ (by have hj : j < ((Int32.ofNat (oU1 g))).toInt.toNat := hj; omega)) Fc34⟩
  show oGl p e below (T40.setTop (mkF m 115 #[.val (.ref t), .val (.ref x), .val (.ref y), .val cw, .val (.ref d2), .val (.int hm9), .val (.int hm9), .val (.int (0 : Int32)), .val (.ref d20), .val (.int (Int32.ofNat p0))] [])) _
  refine saloadN X40 hx (hb hby d14_115) rfl rfl rfl (pc' := 116) ?_
  have f43 := ((f24.keep K34 (ninS (oNe (by omega)) nin0)).keep K40 (ninS (oNe (by omega)) nin0))
  obtain ⟨T42, X42, e42, st42⟩ := getF X40 hx hZ hown (host := "") (Or.inl (hw _ (List.mem_of_getElem? (i := 73) rfl))) Via.refl e40 f43 (g := (mkF m 116 #[.val (.ref t), .val (.ref x), .val (.ref y), .val cw, .val (.ref d2), .val (.int hm9), .val (.int hm9), .val (.int (0 : Int32)), .val (.ref d20), .val (.int (Int32.ofNat p0))] [(.ref t)])) rfl rfl (hb hby d14_116)
  refine oOn st42 ?_
  show oGl p e below (T42.setTop (mkF m 119 #[.val (.ref t), .val (.ref x), .val (.ref y), .val cw, .val (.ref d2), .val (.int hm9), .val (.int hm9), .val (.int (0 : Int32)), .val (.ref d20), .val (.int (Int32.ofNat p0))] [(.ref bo)])) _
  refine siconst X42 hx (hb hby d14_119) rfl rfl (z := 2) (pc' := 120) ?_
  refine siload X42 hx (hb hby d14_120) rfl rfl (pc' := 122) ?_
  refine simul X42 hx (hb hby d14_122) rfl (by decide) (z := (0 : Int32)) (pc' := 123) ?_
  refine siconst X42 hx (hb hby d14_123) rfl rfl (z := 1) (pc' := 124) ?_
  refine siadd X42 hx (hb hby d14_124) rfl (by decide) (z := (1 : Int32)) (pc' := 125) ?_
  refine siload X42 hx (hb hby d14_125) rfl rfl (pc' := 127) ?_
  refine saload X42 hx (hb hby d14_127) rfl rfl rfl (pc' := 129) ?_
  have f44 := (f38.keep K40 (ninS (oNe (by omega)) nin0))
  refine oOn (f44.len X42 hx hZ e42 (g := (mkF m 129 #[.val (.ref t), .val (.ref x), .val (.ref y), .val cw, .val (.ref d2), .val (.int hm9), .val (.int hm9), .val (.int (0 : Int32)), .val (.ref d20), .val (.int (Int32.ofNat p0))] [(.ref d2), (.int (Int32.ofNat p0)), (.int (1 : Int32)), (.ref bo)])) rfl rfl (hb hby d14_129)) ?_
  show oGl p e below (T42.setTop (mkF m 130 #[.val (.ref t), .val (.ref x), .val (.ref y), .val cw, .val (.ref d2), .val (.int hm9), .val (.int hm9), .val (.int (0 : Int32)), .val (.ref d20), .val (.int (Int32.ofNat p0))] [(.int (Int32.ofNat (oU1 f))), (.int (Int32.ofNat p0)), (.int (1 : Int32)), (.ref bo)])) _
  refine siadd X42 hx (hb hby d14_130) rfl rfl (pc' := 131) ?_
  have f45 := ((f28.keep K34 (ninS (oNe (by omega)) nin0)).keep K40 (ninS (oNe (by omega)) nin0))
  obtain ⟨T46, h46, X46, e46, W46, V46, st46⟩ := f45.stI X42 hx hZ e42 (j := (1 : Int32)) (by decide) (g := (mkF m 131 #[.val (.ref t), .val (.ref x), .val (.ref y), .val cw, .val (.ref d2), .val (.int hm9), .val (.int hm9), .val (.int (0 : Int32)), .val (.ref d20), .val (.int (Int32.ofNat p0))] [(.int ((Int32.ofNat p0) + (Int32.ofNat (oU1 f)))), (.int (1 : Int32)), (.ref bo)])) rfl rfl (hb hby d14_131)
  refine oOn st46 ?_
  have z47 : h40.size ≤ h46.size := Nat.le_of_eq W46.size.symm
  have N46 := Fr.snoc X46 N40 (by omega)
  show oGl p e below (T46.setTop (mkF m 132 #[.val (.ref t), .val (.ref x), .val (.ref y), .val cw, .val (.ref d2), .val (.int hm9), .val (.int hm9), .val (.int (0 : Int32)), .val (.ref d20), .val (.int (Int32.ofNat p0))] [])) _
  refine saloadN X46 hx (hb hby d14_132) rfl rfl rfl (pc' := 133) ?_
  have f49 := (f43.other W46 (Or.inl (oNe (by omega))))
  obtain ⟨T48, X48, e48, st48⟩ := getF X46 hx hZ hown (host := "") (Or.inl (hw _ (List.mem_of_getElem? (i := 73) rfl))) Via.refl e46 f49 (g := (mkF m 133 #[.val (.ref t), .val (.ref x), .val (.ref y), .val cw, .val (.ref d2), .val (.int hm9), .val (.int hm9), .val (.int (0 : Int32)), .val (.ref d20), .val (.int (Int32.ofNat p0))] [(.ref t)])) rfl rfl (hb hby d14_133)
  refine oOn st48 ?_
  show oGl p e below (T48.setTop (mkF m 136 #[.val (.ref t), .val (.ref x), .val (.ref y), .val cw, .val (.ref d2), .val (.int hm9), .val (.int hm9), .val (.int (0 : Int32)), .val (.ref d20), .val (.int (Int32.ofNat p0))] [(.ref bo)])) _
  refine siconst X48 hx (hb hby d14_136) rfl rfl (z := 2) (pc' := 137) ?_
  refine siload X48 hx (hb hby d14_137) rfl rfl (pc' := 139) ?_
  refine simul X48 hx (hb hby d14_139) rfl (by decide) (z := (0 : Int32)) (pc' := 140) ?_
  refine siconst X48 hx (hb hby d14_140) rfl rfl (z := 2) (pc' := 141) ?_
  refine siadd X48 hx (hb hby d14_141) rfl (by decide) (z := (2 : Int32)) (pc' := 142) ?_
  refine siload X48 hx (hb hby d14_142) rfl rfl (pc' := 144) ?_
  refine saload X48 hx (hb hby d14_144) rfl rfl rfl (pc' := 146) ?_
  have f50 := (f44.other W46 (oNe (by omega)))
  refine oOn (f50.len X48 hx hZ e48 (g := (mkF m 146 #[.val (.ref t), .val (.ref x), .val (.ref y), .val cw, .val (.ref d2), .val (.int hm9), .val (.int hm9), .val (.int (0 : Int32)), .val (.ref d20), .val (.int (Int32.ofNat p0))] [(.ref d2), (.int (Int32.ofNat p0)), (.int (2 : Int32)), (.ref bo)])) rfl rfl (hb hby d14_146)) ?_
  show oGl p e below (T48.setTop (mkF m 147 #[.val (.ref t), .val (.ref x), .val (.ref y), .val cw, .val (.ref d2), .val (.int hm9), .val (.int hm9), .val (.int (0 : Int32)), .val (.ref d20), .val (.int (Int32.ofNat p0))] [(.int (Int32.ofNat (oU1 f))), (.int (Int32.ofNat p0)), (.int (2 : Int32)), (.ref bo)])) _
  refine siadd X48 hx (hb hby d14_147) rfl rfl (pc' := 148) ?_
  refine saload X48 hx (hb hby d14_148) rfl rfl rfl (pc' := 150) ?_
  have f51 := ((f39.keep K40 (ninS (oNe (by omega)) nin0)).other W46 (oNe (by omega)))
  refine oOn (f51.len X48 hx hZ e48 (g := (mkF m 150 #[.val (.ref t), .val (.ref x), .val (.ref y), .val cw, .val (.ref d2), .val (.int hm9), .val (.int hm9), .val (.int (0 : Int32)), .val (.ref d20), .val (.int (Int32.ofNat p0))] [(.ref d20), (.int ((Int32.ofNat p0) + (Int32.ofNat (oU1 f)))), (.int (2 : Int32)), (.ref bo)])) rfl rfl (hb hby d14_150)) ?_
  show oGl p e below (T48.setTop (mkF m 151 #[.val (.ref t), .val (.ref x), .val (.ref y), .val cw, .val (.ref d2), .val (.int hm9), .val (.int hm9), .val (.int (0 : Int32)), .val (.ref d20), .val (.int (Int32.ofNat p0))] [(.int (Int32.ofNat (oU1 g))), (.int ((Int32.ofNat p0) + (Int32.ofNat (oU1 f)))), (.int (2 : Int32)), (.ref bo)])) _
  refine siadd X48 hx (hb hby d14_151) rfl rfl (pc' := 152) ?_
  obtain ⟨T52, h52, X52, e52, W52, V52, st52⟩ := V46.stI X48 hx hZ e48 (j := (2 : Int32)) (by decide) (g := (mkF m 152 #[.val (.ref t), .val (.ref x), .val (.ref y), .val cw, .val (.ref d2), .val (.int hm9), .val (.int hm9), .val (.int (0 : Int32)), .val (.ref d20), .val (.int (Int32.ofNat p0))] [(.int (((Int32.ofNat p0) + (Int32.ofNat (oU1 f))) + (Int32.ofNat (oU1 g)))), (.int (2 : Int32)), (.ref bo)])) rfl rfl (hb hby d14_152)
  refine oOn st52 ?_
  have z53 : h46.size ≤ h52.size := Nat.le_of_eq W52.size.symm
  have N52 := Fr.snoc X52 N46 (by omega)
  show oGl p e below (T52.setTop (mkF m 153 #[.val (.ref t), .val (.ref x), .val (.ref y), .val cw, .val (.ref d2), .val (.int hm9), .val (.int hm9), .val (.int (0 : Int32)), .val (.ref d20), .val (.int (Int32.ofNat p0))] [])) _
  refine saloadN X52 hx (hb hby d14_153) rfl rfl hcw (pc' := 154) ?_
  rcases hct with ⟨rfl, rfl⟩ | ⟨xc, oo, rfl, hoo, rfl, Exc, Fxc, hel⟩
  · skip
    refine sifnullY X52 hx (hb hby d14_154) (by decide) (by decide)  (pc' := 171) ?_
    refine saloadN X52 hx (hb hby d14_171) rfl rfl rfl (pc' := 172) ?_
    have f55 := (((((f6.keep K20 nin0).keep K34 (ninS (oNe (by omega)) nin0)).keep K40 (ninS (oNe (by omega)) nin0)).other W46 (Or.inl (oNe (by omega)))).other W52 (Or.inl (oNe (by omega))))
    obtain ⟨T54, X54, e54, st54⟩ := getF X52 hx hZ hown (host := "") (Or.inl (hw _ (List.mem_of_getElem? (i := 79) rfl))) Via.refl e52 f55 (g := (mkF m 172 #[.val (.ref t), .val (.ref x), .val (.ref y), .val .null, .val (.ref d2), .val (.int hm9), .val (.int hm9), .val (.int (0 : Int32)), .val (.ref d20), .val (.int (Int32.ofNat p0))] [(.ref t)])) rfl rfl (hb hby d14_172)
    refine oOn st54 ?_
    show oGl p e below (T54.setTop (mkF m 175 #[.val (.ref t), .val (.ref x), .val (.ref y), .val .null, .val (.ref d2), .val (.int hm9), .val (.int hm9), .val (.int (0 : Int32)), .val (.ref d20), .val (.int (Int32.ofNat p0))] [(.ref sl)])) _
    refine siload X54 hx (hb hby d14_175) rfl rfl (pc' := 177) ?_
    refine siload X54 hx (hb hby d14_177) rfl rfl (pc' := 179) ?_
    refine siconst X54 hx (hb hby d14_179) rfl rfl (z := 1) (pc' := 180) ?_
    refine siadd X54 hx (hb hby d14_180) rfl (by decide) (z := (1 : Int32)) (pc' := 181) ?_
    have f56 := (((((f8.keep K20 nin0).keep K34 (ninS (oNe (by omega)) nin0)).keep K40 (ninS (oNe (by omega)) nin0)).other W46 (oNe (by omega))).other W52 (oNe (by omega)))
    obtain ⟨T57, h57, X57, e57, W57, V57, st57⟩ := f56.stI X54 hx hZ e54 (j := hm9) hz9_ (g := (mkF m 181 #[.val (.ref t), .val (.ref x), .val (.ref y), .val .null, .val (.ref d2), .val (.int hm9), .val (.int hm9), .val (.int (0 : Int32)), .val (.ref d20), .val (.int (Int32.ofNat p0))] [(.int (1 : Int32)), (.int hm9), (.ref sl)])) rfl rfl (hb hby d14_181)
    refine oOn st57 ?_
    have z58 : h52.size ≤ h57.size := Nat.le_of_eq W57.size.symm
    have N57 := Fr.snoc X57 N52 (by omega)
    show oGl p e below (T57.setTop (mkF m 182 #[.val (.ref t), .val (.ref x), .val (.ref y), .val .null, .val (.ref d2), .val (.int hm9), .val (.int hm9), .val (.int (0 : Int32)), .val (.ref d20), .val (.int (Int32.ofNat p0))] [])) _
    refine saloadN X57 hx (hb hby d14_182) rfl rfl rfl (pc' := 183) ?_
    refine sdup X57 hx (hb hby d14_183) rfl rfl (pc' := 184) ?_
    have f60 := (((((f26.keep K34 (ninS (oNe (by omega)) nin0)).keep K40 (ninS (oNe (by omega)) nin0)).other W46 (Or.inl (oNe (by omega)))).other W52 (Or.inl (oNe (by omega)))).other W57 (Or.inl (oNe (by omega))))
    obtain ⟨T59, X59, e59, st59⟩ := getF X57 hx hZ hown (host := "") (Or.inl (hw _ (List.mem_of_getElem? (i := 69) rfl))) Via.refl e57 f60 (g := (mkF m 184 #[.val (.ref t), .val (.ref x), .val (.ref y), .val .null, .val (.ref d2), .val (.int hm9), .val (.int hm9), .val (.int (0 : Int32)), .val (.ref d20), .val (.int (Int32.ofNat p0))] [(.ref t), (.ref t)])) rfl rfl (hb hby d14_184)
    refine oOn st59 ?_
    show oGl p e below (T59.setTop (mkF m 187 #[.val (.ref t), .val (.ref x), .val (.ref y), .val .null, .val (.ref d2), .val (.int hm9), .val (.int hm9), .val (.int (0 : Int32)), .val (.ref d20), .val (.int (Int32.ofNat p0))] [(.int (0 : Int32)), (.ref t)])) _
    refine siconst X59 hx (hb hby d14_187) rfl rfl (z := 1) (pc' := 188) ?_
    refine siadd X59 hx (hb hby d14_188) rfl (by decide) (z := (1 : Int32)) (pc' := 189) ?_
    have f62 := (((((f31.keep K34).keep K40).wr W46).wr W52).wr W57)
    obtain ⟨T61, h61, X61, e61, W61, st61⟩ := putF X59 hx hZ hown (host := "") (Or.inl (hw _ (List.mem_of_getElem? (i := 69) rfl))) Via.refl e59 f60 f62 (Or.inl (hw _ (List.mem_of_getElem? (i := 70) rfl))) (hw _ (List.mem_of_getElem? (i := 52) rfl)) (ty := .int) (by decide) rfl rfl (g := (mkF m 189 #[.val (.ref t), .val (.ref x), .val (.ref y), .val .null, .val (.ref d2), .val (.int hm9), .val (.int hm9), .val (.int (0 : Int32)), .val (.ref d20), .val (.int (Int32.ofNat p0))] [(.int (1 : Int32)), (.ref t)])) rfl rfl (hb hby d14_189)
    refine oOn st61 ?_
    have z63 : h57.size ≤ h61.size := Nat.le_of_eq W61.size.symm
    have N61 := Fr.snoc X61 N57 (by omega)
    have f61 := Fld.same W61 f60
    show oGl p e below (T61.setTop (mkF m 192 #[.val (.ref t), .val (.ref x), .val (.ref y), .val .null, .val (.ref d2), .val (.int hm9), .val (.int hm9), .val (.int (0 : Int32)), .val (.ref d20), .val (.int (Int32.ofNat p0))] [])) _
    refine siconst X61 hx (hb hby d14_192) rfl rfl (z := 2) (pc' := 193) ?_
    refine saloadN X61 hx (hb hby d14_193) rfl rfl rfl (pc' := 194) ?_
    obtain ⟨T64, X64, e64, st64⟩ := getF X61 hx hZ hown (host := "") (Or.inl (hw _ (List.mem_of_getElem? (i := 69) rfl))) Via.refl e61 f61 (g := (mkF m 194 #[.val (.ref t), .val (.ref x), .val (.ref y), .val .null, .val (.ref d2), .val (.int hm9), .val (.int hm9), .val (.int (0 : Int32)), .val (.ref d20), .val (.int (Int32.ofNat p0))] [(.ref t), (.int (2 : Int32))])) rfl rfl (hb hby d14_194)
    refine oOn st64 ?_
    show oGl p e below (T64.setTop (mkF m 197 #[.val (.ref t), .val (.ref x), .val (.ref y), .val .null, .val (.ref d2), .val (.int hm9), .val (.int hm9), .val (.int (0 : Int32)), .val (.ref d20), .val (.int (Int32.ofNat p0))] [(.int (1 : Int32)), (.int (2 : Int32))])) _
    refine simul X64 hx (hb hby d14_197) rfl (by decide) (z := (2 : Int32)) (pc' := 198) ?_
    refine saloadN X64 hx (hb hby d14_198) rfl rfl rfl (pc' := 199) ?_
    have f66 := ((f55.other W57 (Or.inl (oNe (by omega)))).other W61 (Or.inr (slot_ne (Or.inl (hw _ (List.mem_of_getElem? (i := 80) rfl))) (Or.inl (hw _ (List.mem_of_getElem? (i := 70) rfl))) (by decide) (t := (.array .int)) (t' := .int) (by decide) (by decide))))
    obtain ⟨T65, X65, e65, st65⟩ := getF X64 hx hZ hown (host := "") (Or.inl (hw _ (List.mem_of_getElem? (i := 79) rfl))) Via.refl e64 f66 (g := (mkF m 199 #[.val (.ref t), .val (.ref x), .val (.ref y), .val .null, .val (.ref d2), .val (.int hm9), .val (.int hm9), .val (.int (0 : Int32)), .val (.ref d20), .val (.int (Int32.ofNat p0))] [(.ref t), (.int (2 : Int32))])) rfl rfl (hb hby d14_199)
    refine oOn st65 ?_
    show oGl p e below (T65.setTop (mkF m 202 #[.val (.ref t), .val (.ref x), .val (.ref y), .val .null, .val (.ref d2), .val (.int hm9), .val (.int hm9), .val (.int (0 : Int32)), .val (.ref d20), .val (.int (Int32.ofNat p0))] [(.ref sl), (.int (2 : Int32))])) _
    have f67 := (V57.other W61 (oNe (by omega)))
    refine oOn (f67.len X65 hx hZ e65 (g := (mkF m 202 #[.val (.ref t), .val (.ref x), .val (.ref y), .val .null, .val (.ref d2), .val (.int hm9), .val (.int hm9), .val (.int (0 : Int32)), .val (.ref d20), .val (.int (Int32.ofNat p0))] [(.ref sl), (.int (2 : Int32))])) rfl rfl (hb hby d14_202)) ?_
    show oGl p e below (T65.setTop (mkF m 203 #[.val (.ref t), .val (.ref x), .val (.ref y), .val .null, .val (.ref d2), .val (.int hm9), .val (.int hm9), .val (.int (0 : Int32)), .val (.ref d20), .val (.int (Int32.ofNat p0))] [(.int (16 : Int32)), (.int (2 : Int32))])) _
    refine sicY X65 hx (hb hby d14_203) (by decide) (by decide) (flt (by decide : ¬ ((16 : Int32) < (2 : Int32)))).2.2.2 (pc' := 220) ?_
    refine siload X65 hx (hb hby d14_220) rfl rfl (pc' := 222) ?_
    refine siload X65 hx (hb hby d14_222) rfl rfl (pc' := 224) ?_
    refine sisub X65 hx (hb hby d14_224) rfl rfl (pc' := 225) ?_
    refine saloadN X65 hx (hb hby d14_225) rfl rfl rfl (pc' := 226) ?_
    obtain ⟨T68, X68, e68, st68⟩ := getF X65 hx hZ hown (host := "") (Or.inl (hw _ (List.mem_of_getElem? (i := 79) rfl))) Via.refl e65 f66 (g := (mkF m 226 #[.val (.ref t), .val (.ref x), .val (.ref y), .val .null, .val (.ref d2), .val (.int hm9), .val (.int hm9), .val (.int (0 : Int32)), .val (.ref d20), .val (.int (Int32.ofNat p0))] [(.ref t), (.int (hm9 - hm9))])) rfl rfl (hb hby d14_226)
    refine oOn st68 ?_
    show oGl p e below (T68.setTop (mkF m 229 #[.val (.ref t), .val (.ref x), .val (.ref y), .val .null, .val (.ref d2), .val (.int hm9), .val (.int hm9), .val (.int (0 : Int32)), .val (.ref d20), .val (.int (Int32.ofNat p0))] [(.ref sl), (.int (hm9 - hm9))])) _
    refine oOn (f67.len X68 hx hZ e68 (g := (mkF m 229 #[.val (.ref t), .val (.ref x), .val (.ref y), .val .null, .val (.ref d2), .val (.int hm9), .val (.int hm9), .val (.int (0 : Int32)), .val (.ref d20), .val (.int (Int32.ofNat p0))] [(.ref sl), (.int (hm9 - hm9))])) rfl rfl (hb hby d14_229)) ?_
    show oGl p e below (T68.setTop (mkF m 230 #[.val (.ref t), .val (.ref x), .val (.ref y), .val .null, .val (.ref d2), .val (.int hm9), .val (.int hm9), .val (.int (0 : Int32)), .val (.ref d20), .val (.int (Int32.ofNat p0))] [(.int (16 : Int32)), (.int (hm9 - hm9))])) _
    refine siconst X68 hx (hb hby d14_230) rfl rfl (z := 1) (pc' := 231) ?_
    refine sisub X68 hx (hb hby d14_231) rfl (by decide) (z := (15 : Int32)) (pc' := 232) ?_
    refine siand X68 hx (hb hby d14_232) rfl rfl (pc' := 233) ?_
    refine saloadN X68 hx (hb hby d14_233) rfl rfl rfl (pc' := 234) ?_
    have f70 := ((((((((t7.keep K2 nin0).keep K20 nin0).keep K34 (ninS (oNe (by omega)) nin0)).keep K40 (ninS (oNe (by omega)) nin0)).other W46 (Or.inl (oNe (by omega)))).other W52 (Or.inl (oNe (by omega)))).other W57 (Or.inl (oNe (by omega)))).other W61 (Or.inr (slot_ne (Or.inl (hw _ (List.mem_of_getElem? (i := 66) rfl))) (Or.inl (hw _ (List.mem_of_getElem? (i := 70) rfl))) (by decide) (t := .int) (t' := .int) (by decide) (by decide))))
    obtain ⟨T69, X69, e69, st69⟩ := getF X68 hx hZ hown (host := "") (Or.inl (hw _ (List.mem_of_getElem? (i := 65) rfl))) Via.refl e68 f70 (g := (mkF m 234 #[.val (.ref t), .val (.ref x), .val (.ref y), .val .null, .val (.ref d2), .val (.int hm9), .val (.int hm9), .val (.int (0 : Int32)), .val (.ref d20), .val (.int (Int32.ofNat p0))] [(.ref t), (.int ((hm9 - hm9) &&& (15 : Int32)))])) rfl rfl (hb hby d14_234)
    refine oOn st69 ?_
    show oGl p e below (T69.setTop (mkF m 237 #[.val (.ref t), .val (.ref x), .val (.ref y), .val .null, .val (.ref d2), .val (.int hm9), .val (.int hm9), .val (.int (0 : Int32)), .val (.ref d20), .val (.int (Int32.ofNat p0))] [(.int (64 : Int32)), (.int ((hm9 - hm9) &&& (15 : Int32)))])) _
    refine sicY X69 hx (hb hby d14_237) (by decide) (by decide) (flt (own_a64 _ : ¬ ((64 : Int32) < ((hm9 - hm9) &&& (15 : Int32))))).2.2.2 (pc' := 244) ?_
    refine siload X69 hx (hb hby d14_244) rfl rfl (pc' := 246) ?_
    have f71 := ((((((f29.keep K34 (ninS (oNe (by omega)) nin0)).keep K40 (ninS (oNe (by omega)) nin0)).other W46 (oNe (by omega))).other W52 (oNe (by omega))).other W57 (oNe (by omega))).other W61 (oNe (by omega)))
    have kp72 : Keep h0 h61 [t, tx, bo, ca, sl] := (((((((((Keep.refl h0 [t, tx, bo, ca, sl]).trans K2 all0).trans K20 all0).trans K34 (allS (Or.inl (List.mem_of_getElem? (i := 1) rfl)) all0)).trans K40 (allS (Or.inl (List.mem_of_getElem? (i := 1) rfl)) all0)).wr W46 (Or.inl (List.mem_of_getElem? (i := 2) rfl))).wr W52 (Or.inl (List.mem_of_getElem? (i := 2) rfl))).wr W57 (Or.inl (List.mem_of_getElem? (i := 4) rfl))).wr W61 (Or.inl (List.mem_of_getElem? (i := 0) rfl)))
    have f73 := (f62.wr W61)
    have f74 := (((((f37.keep K40 (ninS (oNe (by omega)) nin0)).other W46 (Or.inl (oNe (by omega)))).other W52 (Or.inl (oNe (by omega)))).other W57 (Or.inl (oNe (by omega)))).other W61 (Or.inr (slot_ne (Or.inl (hw _ (List.mem_of_getElem? (i := 72) rfl))) (Or.inl (hw _ (List.mem_of_getElem? (i := 70) rfl))) (by decide) (t := (.array .byte)) (t' := .int) (by decide) (by decide))))
    have f75 := (((f49.other W52 (Or.inl (oNe (by omega)))).other W57 (Or.inl (oNe (by omega)))).other W61 (Or.inr (slot_ne (Or.inl (hw _ (List.mem_of_getElem? (i := 74) rfl))) (Or.inl (hw _ (List.mem_of_getElem? (i := 70) rfl))) (by decide) (t := (.array .int)) (t' := .int) (by decide) (by decide))))
    have f76 := ((((((f25.keep K34 (ninS (oNe (by omega)) nin0)).keep K40 (ninS (oNe (by omega)) nin0)).other W46 (Or.inl (oNe (by omega)))).other W52 (Or.inl (oNe (by omega)))).other W57 (Or.inl (oNe (by omega)))).other W61 (Or.inr (slot_ne (Or.inl (hw _ (List.mem_of_getElem? (i := 76) rfl))) (Or.inl (hw _ (List.mem_of_getElem? (i := 70) rfl))) (by decide) (t := (.array .byte)) (t' := .int) (by decide) (by decide))))
    have f77 := (((((((f7.keep K20 nin0).keep K34 (ninS (oNe (by omega)) nin0)).keep K40 (ninS (oNe (by omega)) nin0)).other W46 (Or.inl (oNe (by omega)))).other W52 (Or.inl (oNe (by omega)))).other W57 (Or.inl (oNe (by omega)))).other W61 (Or.inr (slot_ne (Or.inl (hw _ (List.mem_of_getElem? (i := 82) rfl))) (Or.inl (hw _ (List.mem_of_getElem? (i := 70) rfl))) (by decide) (t := (.object "com/example/yusen_ledger/yusenledger/SipHash")) (t' := .int) (by decide) (by decide))))
    have f78 := ((((Vc40.other W46 (oNe (by omega))).other W52 (oNe (by omega))).other W57 (oNe (by omega))).other W61 (oNe (by omega)))
    have f79 := ((V52.other W57 (oNe (by omega))).other W61 (oNe (by omega)))
    refine oRetI X69 hx Bd.notSynchronized Bd.returns (hb hby d14_246) (by decide) (by decide) ?_
    show Q_rmAdd0 Z t tx bo ca sl ha x b y eb p0 f g ft fb fc cl .null (0 : Int32) u cz h0 n0 _ T69.heap _
    rw [e69]
    exact ⟨rfl, N61, kp72, f73, f74, f75, f76, f66, f77, f61, f70, ⟨_, f71, hfc, fun j hj => rfl⟩, ⟨_, f78, Fc40⟩, f79, ⟨hm9, f67⟩⟩
  · skip
    refine sifnullN X52 hx (hb hby d14_154) rfl  (pc' := 157) ?_
    refine saloadN X52 hx (hb hby d14_157) rfl rfl rfl (pc' := 158) ?_
    have f81 := ((((f25.keep K34 (ninS (oNe (by omega)) nin0)).keep K40 (ninS (oNe (by omega)) nin0)).other W46 (Or.inl (oNe (by omega)))).other W52 (Or.inl (oNe (by omega))))
    obtain ⟨T80, X80, e80, st80⟩ := getF X52 hx hZ hown (host := "") (Or.inl (hw _ (List.mem_of_getElem? (i := 75) rfl))) Via.refl e52 f81 (g := (mkF m 158 #[.val (.ref t), .val (.ref x), .val (.ref y), .val (.ref xc), .val (.ref d2), .val (.int hm9), .val (.int hm9), .val (.int (0 : Int32)), .val (.ref d20), .val (.int (Int32.ofNat p0))] [(.ref t)])) rfl rfl (hb hby d14_158)
    refine oOn st80 ?_
    show oGl p e below (T80.setTop (mkF m 161 #[.val (.ref t), .val (.ref x), .val (.ref y), .val (.ref xc), .val (.ref d2), .val (.int hm9), .val (.int hm9), .val (.int (0 : Int32)), .val (.ref d20), .val (.int (Int32.ofNat p0))] [(.ref ca)])) _
    refine siload X80 hx (hb hby d14_161) rfl rfl (pc' := 163) ?_
    refine saloadN X80 hx (hb hby d14_163) rfl rfl rfl (pc' := 164) ?_
    have f82 := (((((f4.keep K20 all0).keep K34 (allS (by omega) all0)).keep K40 (allS (by omega) all0)).wr W46 (by omega)).wr W52 (by omega))
    have hz83 : n0 ≤ h52.size := by omega
    obtain ⟨cq83, kq83, q83a, q83b, q83c⟩ := isOf hZ e80 (Exc.ext f82.2)
    obtain ⟨_, _, ⟨T83, L83, k83, n83⟩, -, X83, ⟨Lc83, hQ83, l83, y83, z83⟩, st83⟩ := X80.virtualBackUp hx (x := (⟨"com/example/yusen_ledger/yusenledger/HolderCategory", "ordinal", "()I"⟩ : MethodName)) (y := (⟨"java/lang/Enum", "ordinal", "()I"⟩ : MethodName)) (owner := "java/lang/Enum") hown (mvT hZ (hw _ (List.mem_of_getElem? (i := 163) rfl))) (mvT hZ (hw _ (List.mem_of_getElem? (i := 164) rfl))) (mvT hZ (hw _ (List.mem_of_getElem? (i := 165) rfl))) (by decide) (mvT hZ (hw _ (List.mem_of_getElem? (i := 167) rfl))) (mvT hZ (hw _ (List.mem_of_getElem? (i := 166) rfl))) (backOf (W := 2) (rmOrd l Z a0 hw [] xc oo h52 n0 hz83 (Fxc.ext f82.2)) hZ (hw _ (List.mem_of_getElem? (i := 169) rfl)) (hw _ (List.mem_of_getElem? (i := 168) rfl)) (by decide) (by decide)) q83a q83c (g := (mkF m 164 #[.val (.ref t), .val (.ref x), .val (.ref y), .val (.ref xc), .val (.ref d2), .val (.int hm9), .val (.int hm9), .val (.int (0 : Int32)), .val (.ref d20), .val (.int (Int32.ofNat p0))] [(.ref xc), (.int (0 : Int32)), (.ref ca)])) rfl (by rw [hml]; rfl) (Steps.refl _) (argsL := []) (rest := [(.int (0 : Int32)), (.ref ca)]) (lenOf pd_25 rfl) rfl (by show 2 * 0 + _ ≤ _; exact Nat.le_of_eq rfl) (hb hby d14_164) (fun _ _ => ⟨rfl, e80, (by decide : 2 + 0 ≤ _), (by decide : 4 + 0 ≤ _)⟩)
    dsimp only [Pt.U, Pt.locs, Pt.cells, Pt.slots] at X83 l83 y83 z83 st83 hQ83
    subst l83 y83 z83
    obtain ⟨rfl, N83q, eh83⟩ := hQ83
    have N83 := Fr.app N52 N83q
    refine oSt st83 ?_
    show oGl p e below (T83.setTop (mkF m 167 #[.val (.ref t), .val (.ref x), .val (.ref y), .val (.ref xc), .val (.ref d2), .val (.int hm9), .val (.int hm9), .val (.int (0 : Int32)), .val (.ref d20), .val (.int (Int32.ofNat p0))] [(.int oo), (.int (0 : Int32)), (.ref ca)])) _
    refine siconst X83 hx (hb hby d14_167) rfl rfl (z := 1) (pc' := 168) ?_
    refine siadd X83 hx (hb hby d14_168) rfl rfl (pc' := 169) ?_
    refine si2b X83 hx (hb hby d14_169) rfl rfl (pc' := 170) ?_
    have f84 := ((((f29.keep K34 (ninS (oNe (by omega)) nin0)).keep K40 (ninS (oNe (by omega)) nin0)).other W46 (oNe (by omega))).other W52 (oNe (by omega)))
    obtain ⟨T85, h85, X85, e85, W85, V85, st85⟩ := f84.stB X83 hx hZ eh83 (j := (0 : Int32)) (by decide) (g := (mkF m 170 #[.val (.ref t), .val (.ref x), .val (.ref y), .val (.ref xc), .val (.ref d2), .val (.int hm9), .val (.int hm9), .val (.int (0 : Int32)), .val (.ref d20), .val (.int (Int32.ofNat p0))] [(.int (((oo + (1 : Int32))).toInt8.toInt32)), (.int (0 : Int32)), (.ref ca)])) rfl rfl (hb hby d14_170)
    refine oOn st85 ?_
    have z86 : h52.size ≤ h85.size := Nat.le_of_eq W85.size.symm
    have N85 := Fr.snoc X85 N83 (by omega)
    show oGl p e below (T85.setTop (mkF m 171 #[.val (.ref t), .val (.ref x), .val (.ref y), .val (.ref xc), .val (.ref d2), .val (.int hm9), .val (.int hm9), .val (.int (0 : Int32)), .val (.ref d20), .val (.int (Int32.ofNat p0))] [])) _
    refine saloadN X85 hx (hb hby d14_171) rfl rfl rfl (pc' := 172) ?_
    have f88 := ((((((f6.keep K20 nin0).keep K34 (ninS (oNe (by omega)) nin0)).keep K40 (ninS (oNe (by omega)) nin0)).other W46 (Or.inl (oNe (by omega)))).other W52 (Or.inl (oNe (by omega)))).other W85 (Or.inl (oNe (by omega))))
    obtain ⟨T87, X87, e87, st87⟩ := getF X85 hx hZ hown (host := "") (Or.inl (hw _ (List.mem_of_getElem? (i := 79) rfl))) Via.refl e85 f88 (g := (mkF m 172 #[.val (.ref t), .val (.ref x), .val (.ref y), .val (.ref xc), .val (.ref d2), .val (.int hm9), .val (.int hm9), .val (.int (0 : Int32)), .val (.ref d20), .val (.int (Int32.ofNat p0))] [(.ref t)])) rfl rfl (hb hby d14_172)
    refine oOn st87 ?_
    show oGl p e below (T87.setTop (mkF m 175 #[.val (.ref t), .val (.ref x), .val (.ref y), .val (.ref xc), .val (.ref d2), .val (.int hm9), .val (.int hm9), .val (.int (0 : Int32)), .val (.ref d20), .val (.int (Int32.ofNat p0))] [(.ref sl)])) _
    refine siload X87 hx (hb hby d14_175) rfl rfl (pc' := 177) ?_
    refine siload X87 hx (hb hby d14_177) rfl rfl (pc' := 179) ?_
    refine siconst X87 hx (hb hby d14_179) rfl rfl (z := 1) (pc' := 180) ?_
    refine siadd X87 hx (hb hby d14_180) rfl (by decide) (z := (1 : Int32)) (pc' := 181) ?_
    have f89 := ((((((f8.keep K20 nin0).keep K34 (ninS (oNe (by omega)) nin0)).keep K40 (ninS (oNe (by omega)) nin0)).other W46 (oNe (by omega))).other W52 (oNe (by omega))).other W85 (oNe (by omega)))
    obtain ⟨T90, h90, X90, e90, W90, V90, st90⟩ := f89.stI X87 hx hZ e87 (j := hm9) hz9_ (g := (mkF m 181 #[.val (.ref t), .val (.ref x), .val (.ref y), .val (.ref xc), .val (.ref d2), .val (.int hm9), .val (.int hm9), .val (.int (0 : Int32)), .val (.ref d20), .val (.int (Int32.ofNat p0))] [(.int (1 : Int32)), (.int hm9), (.ref sl)])) rfl rfl (hb hby d14_181)
    refine oOn st90 ?_
    have z91 : h85.size ≤ h90.size := Nat.le_of_eq W90.size.symm
    have N90 := Fr.snoc X90 N85 (by omega)
    show oGl p e below (T90.setTop (mkF m 182 #[.val (.ref t), .val (.ref x), .val (.ref y), .val (.ref xc), .val (.ref d2), .val (.int hm9), .val (.int hm9), .val (.int (0 : Int32)), .val (.ref d20), .val (.int (Int32.ofNat p0))] [])) _
    refine saloadN X90 hx (hb hby d14_182) rfl rfl rfl (pc' := 183) ?_
    refine sdup X90 hx (hb hby d14_183) rfl rfl (pc' := 184) ?_
    have f93 := ((((((f26.keep K34 (ninS (oNe (by omega)) nin0)).keep K40 (ninS (oNe (by omega)) nin0)).other W46 (Or.inl (oNe (by omega)))).other W52 (Or.inl (oNe (by omega)))).other W85 (Or.inl (oNe (by omega)))).other W90 (Or.inl (oNe (by omega))))
    obtain ⟨T92, X92, e92, st92⟩ := getF X90 hx hZ hown (host := "") (Or.inl (hw _ (List.mem_of_getElem? (i := 69) rfl))) Via.refl e90 f93 (g := (mkF m 184 #[.val (.ref t), .val (.ref x), .val (.ref y), .val (.ref xc), .val (.ref d2), .val (.int hm9), .val (.int hm9), .val (.int (0 : Int32)), .val (.ref d20), .val (.int (Int32.ofNat p0))] [(.ref t), (.ref t)])) rfl rfl (hb hby d14_184)
    refine oOn st92 ?_
    show oGl p e below (T92.setTop (mkF m 187 #[.val (.ref t), .val (.ref x), .val (.ref y), .val (.ref xc), .val (.ref d2), .val (.int hm9), .val (.int hm9), .val (.int (0 : Int32)), .val (.ref d20), .val (.int (Int32.ofNat p0))] [(.int (0 : Int32)), (.ref t)])) _
    refine siconst X92 hx (hb hby d14_187) rfl rfl (z := 1) (pc' := 188) ?_
    refine siadd X92 hx (hb hby d14_188) rfl (by decide) (z := (1 : Int32)) (pc' := 189) ?_
    have f95 := ((((((f31.keep K34).keep K40).wr W46).wr W52).wr W85).wr W90)
    obtain ⟨T94, h94, X94, e94, W94, st94⟩ := putF X92 hx hZ hown (host := "") (Or.inl (hw _ (List.mem_of_getElem? (i := 69) rfl))) Via.refl e92 f93 f95 (Or.inl (hw _ (List.mem_of_getElem? (i := 70) rfl))) (hw _ (List.mem_of_getElem? (i := 52) rfl)) (ty := .int) (by decide) rfl rfl (g := (mkF m 189 #[.val (.ref t), .val (.ref x), .val (.ref y), .val (.ref xc), .val (.ref d2), .val (.int hm9), .val (.int hm9), .val (.int (0 : Int32)), .val (.ref d20), .val (.int (Int32.ofNat p0))] [(.int (1 : Int32)), (.ref t)])) rfl rfl (hb hby d14_189)
    refine oOn st94 ?_
    have z96 : h90.size ≤ h94.size := Nat.le_of_eq W94.size.symm
    have N94 := Fr.snoc X94 N90 (by omega)
    have f94 := Fld.same W94 f93
    show oGl p e below (T94.setTop (mkF m 192 #[.val (.ref t), .val (.ref x), .val (.ref y), .val (.ref xc), .val (.ref d2), .val (.int hm9), .val (.int hm9), .val (.int (0 : Int32)), .val (.ref d20), .val (.int (Int32.ofNat p0))] [])) _
    refine siconst X94 hx (hb hby d14_192) rfl rfl (z := 2) (pc' := 193) ?_
    refine saloadN X94 hx (hb hby d14_193) rfl rfl rfl (pc' := 194) ?_
    obtain ⟨T97, X97, e97, st97⟩ := getF X94 hx hZ hown (host := "") (Or.inl (hw _ (List.mem_of_getElem? (i := 69) rfl))) Via.refl e94 f94 (g := (mkF m 194 #[.val (.ref t), .val (.ref x), .val (.ref y), .val (.ref xc), .val (.ref d2), .val (.int hm9), .val (.int hm9), .val (.int (0 : Int32)), .val (.ref d20), .val (.int (Int32.ofNat p0))] [(.ref t), (.int (2 : Int32))])) rfl rfl (hb hby d14_194)
    refine oOn st97 ?_
    show oGl p e below (T97.setTop (mkF m 197 #[.val (.ref t), .val (.ref x), .val (.ref y), .val (.ref xc), .val (.ref d2), .val (.int hm9), .val (.int hm9), .val (.int (0 : Int32)), .val (.ref d20), .val (.int (Int32.ofNat p0))] [(.int (1 : Int32)), (.int (2 : Int32))])) _
    refine simul X97 hx (hb hby d14_197) rfl (by decide) (z := (2 : Int32)) (pc' := 198) ?_
    refine saloadN X97 hx (hb hby d14_198) rfl rfl rfl (pc' := 199) ?_
    have f99 := ((f88.other W90 (Or.inl (oNe (by omega)))).other W94 (Or.inr (slot_ne (Or.inl (hw _ (List.mem_of_getElem? (i := 80) rfl))) (Or.inl (hw _ (List.mem_of_getElem? (i := 70) rfl))) (by decide) (t := (.array .int)) (t' := .int) (by decide) (by decide))))
    obtain ⟨T98, X98, e98, st98⟩ := getF X97 hx hZ hown (host := "") (Or.inl (hw _ (List.mem_of_getElem? (i := 79) rfl))) Via.refl e97 f99 (g := (mkF m 199 #[.val (.ref t), .val (.ref x), .val (.ref y), .val (.ref xc), .val (.ref d2), .val (.int hm9), .val (.int hm9), .val (.int (0 : Int32)), .val (.ref d20), .val (.int (Int32.ofNat p0))] [(.ref t), (.int (2 : Int32))])) rfl rfl (hb hby d14_199)
    refine oOn st98 ?_
    show oGl p e below (T98.setTop (mkF m 202 #[.val (.ref t), .val (.ref x), .val (.ref y), .val (.ref xc), .val (.ref d2), .val (.int hm9), .val (.int hm9), .val (.int (0 : Int32)), .val (.ref d20), .val (.int (Int32.ofNat p0))] [(.ref sl), (.int (2 : Int32))])) _
    have f100 := (V90.other W94 (oNe (by omega)))
    refine oOn (f100.len X98 hx hZ e98 (g := (mkF m 202 #[.val (.ref t), .val (.ref x), .val (.ref y), .val (.ref xc), .val (.ref d2), .val (.int hm9), .val (.int hm9), .val (.int (0 : Int32)), .val (.ref d20), .val (.int (Int32.ofNat p0))] [(.ref sl), (.int (2 : Int32))])) rfl rfl (hb hby d14_202)) ?_
    show oGl p e below (T98.setTop (mkF m 203 #[.val (.ref t), .val (.ref x), .val (.ref y), .val (.ref xc), .val (.ref d2), .val (.int hm9), .val (.int hm9), .val (.int (0 : Int32)), .val (.ref d20), .val (.int (Int32.ofNat p0))] [(.int (16 : Int32)), (.int (2 : Int32))])) _
    refine sicY X98 hx (hb hby d14_203) (by decide) (by decide) (flt (by decide : ¬ ((16 : Int32) < (2 : Int32)))).2.2.2 (pc' := 220) ?_
    refine siload X98 hx (hb hby d14_220) rfl rfl (pc' := 222) ?_
    refine siload X98 hx (hb hby d14_222) rfl rfl (pc' := 224) ?_
    refine sisub X98 hx (hb hby d14_224) rfl rfl (pc' := 225) ?_
    refine saloadN X98 hx (hb hby d14_225) rfl rfl rfl (pc' := 226) ?_
    obtain ⟨T101, X101, e101, st101⟩ := getF X98 hx hZ hown (host := "") (Or.inl (hw _ (List.mem_of_getElem? (i := 79) rfl))) Via.refl e98 f99 (g := (mkF m 226 #[.val (.ref t), .val (.ref x), .val (.ref y), .val (.ref xc), .val (.ref d2), .val (.int hm9), .val (.int hm9), .val (.int (0 : Int32)), .val (.ref d20), .val (.int (Int32.ofNat p0))] [(.ref t), (.int (hm9 - hm9))])) rfl rfl (hb hby d14_226)
    refine oOn st101 ?_
    show oGl p e below (T101.setTop (mkF m 229 #[.val (.ref t), .val (.ref x), .val (.ref y), .val (.ref xc), .val (.ref d2), .val (.int hm9), .val (.int hm9), .val (.int (0 : Int32)), .val (.ref d20), .val (.int (Int32.ofNat p0))] [(.ref sl), (.int (hm9 - hm9))])) _
    refine oOn (f100.len X101 hx hZ e101 (g := (mkF m 229 #[.val (.ref t), .val (.ref x), .val (.ref y), .val (.ref xc), .val (.ref d2), .val (.int hm9), .val (.int hm9), .val (.int (0 : Int32)), .val (.ref d20), .val (.int (Int32.ofNat p0))] [(.ref sl), (.int (hm9 - hm9))])) rfl rfl (hb hby d14_229)) ?_
    show oGl p e below (T101.setTop (mkF m 230 #[.val (.ref t), .val (.ref x), .val (.ref y), .val (.ref xc), .val (.ref d2), .val (.int hm9), .val (.int hm9), .val (.int (0 : Int32)), .val (.ref d20), .val (.int (Int32.ofNat p0))] [(.int (16 : Int32)), (.int (hm9 - hm9))])) _
    refine siconst X101 hx (hb hby d14_230) rfl rfl (z := 1) (pc' := 231) ?_
    refine sisub X101 hx (hb hby d14_231) rfl (by decide) (z := (15 : Int32)) (pc' := 232) ?_
    refine siand X101 hx (hb hby d14_232) rfl rfl (pc' := 233) ?_
    refine saloadN X101 hx (hb hby d14_233) rfl rfl rfl (pc' := 234) ?_
    have f103 := (((((((((t7.keep K2 nin0).keep K20 nin0).keep K34 (ninS (oNe (by omega)) nin0)).keep K40 (ninS (oNe (by omega)) nin0)).other W46 (Or.inl (oNe (by omega)))).other W52 (Or.inl (oNe (by omega)))).other W85 (Or.inl (oNe (by omega)))).other W90 (Or.inl (oNe (by omega)))).other W94 (Or.inr (slot_ne (Or.inl (hw _ (List.mem_of_getElem? (i := 66) rfl))) (Or.inl (hw _ (List.mem_of_getElem? (i := 70) rfl))) (by decide) (t := .int) (t' := .int) (by decide) (by decide))))
    obtain ⟨T102, X102, e102, st102⟩ := getF X101 hx hZ hown (host := "") (Or.inl (hw _ (List.mem_of_getElem? (i := 65) rfl))) Via.refl e101 f103 (g := (mkF m 234 #[.val (.ref t), .val (.ref x), .val (.ref y), .val (.ref xc), .val (.ref d2), .val (.int hm9), .val (.int hm9), .val (.int (0 : Int32)), .val (.ref d20), .val (.int (Int32.ofNat p0))] [(.ref t), (.int ((hm9 - hm9) &&& (15 : Int32)))])) rfl rfl (hb hby d14_234)
    refine oOn st102 ?_
    show oGl p e below (T102.setTop (mkF m 237 #[.val (.ref t), .val (.ref x), .val (.ref y), .val (.ref xc), .val (.ref d2), .val (.int hm9), .val (.int hm9), .val (.int (0 : Int32)), .val (.ref d20), .val (.int (Int32.ofNat p0))] [(.int (64 : Int32)), (.int ((hm9 - hm9) &&& (15 : Int32)))])) _
    refine sicY X102 hx (hb hby d14_237) (by decide) (by decide) (flt (own_a64 _ : ¬ ((64 : Int32) < ((hm9 - hm9) &&& (15 : Int32))))).2.2.2 (pc' := 244) ?_
    refine siload X102 hx (hb hby d14_244) rfl rfl (pc' := 246) ?_
    have f104 := ((V85.other W90 (oNe (by omega))).other W94 (oNe (by omega)))
    have kp105 : Keep h0 h94 [t, tx, bo, ca, sl] := ((((((((((Keep.refl h0 [t, tx, bo, ca, sl]).trans K2 all0).trans K20 all0).trans K34 (allS (Or.inl (List.mem_of_getElem? (i := 1) rfl)) all0)).trans K40 (allS (Or.inl (List.mem_of_getElem? (i := 1) rfl)) all0)).wr W46 (Or.inl (List.mem_of_getElem? (i := 2) rfl))).wr W52 (Or.inl (List.mem_of_getElem? (i := 2) rfl))).wr W85 (Or.inl (List.mem_of_getElem? (i := 3) rfl))).wr W90 (Or.inl (List.mem_of_getElem? (i := 4) rfl))).wr W94 (Or.inl (List.mem_of_getElem? (i := 0) rfl)))
    have f106 := (f95.wr W94)
    have f107 := ((((((f37.keep K40 (ninS (oNe (by omega)) nin0)).other W46 (Or.inl (oNe (by omega)))).other W52 (Or.inl (oNe (by omega)))).other W85 (Or.inl (oNe (by omega)))).other W90 (Or.inl (oNe (by omega)))).other W94 (Or.inr (slot_ne (Or.inl (hw _ (List.mem_of_getElem? (i := 72) rfl))) (Or.inl (hw _ (List.mem_of_getElem? (i := 70) rfl))) (by decide) (t := (.array .byte)) (t' := .int) (by decide) (by decide))))
    have f108 := ((((f49.other W52 (Or.inl (oNe (by omega)))).other W85 (Or.inl (oNe (by omega)))).other W90 (Or.inl (oNe (by omega)))).other W94 (Or.inr (slot_ne (Or.inl (hw _ (List.mem_of_getElem? (i := 74) rfl))) (Or.inl (hw _ (List.mem_of_getElem? (i := 70) rfl))) (by decide) (t := (.array .int)) (t' := .int) (by decide) (by decide))))
    have f109 := (((f81.other W85 (Or.inl (oNe (by omega)))).other W90 (Or.inl (oNe (by omega)))).other W94 (Or.inr (slot_ne (Or.inl (hw _ (List.mem_of_getElem? (i := 76) rfl))) (Or.inl (hw _ (List.mem_of_getElem? (i := 70) rfl))) (by decide) (t := (.array .byte)) (t' := .int) (by decide) (by decide))))
    have f110 := ((((((((f7.keep K20 nin0).keep K34 (ninS (oNe (by omega)) nin0)).keep K40 (ninS (oNe (by omega)) nin0)).other W46 (Or.inl (oNe (by omega)))).other W52 (Or.inl (oNe (by omega)))).other W85 (Or.inl (oNe (by omega)))).other W90 (Or.inl (oNe (by omega)))).other W94 (Or.inr (slot_ne (Or.inl (hw _ (List.mem_of_getElem? (i := 82) rfl))) (Or.inl (hw _ (List.mem_of_getElem? (i := 70) rfl))) (by decide) (t := (.object "com/example/yusen_ledger/yusenledger/SipHash")) (t' := .int) (by decide) (by decide))))
    have f111 := (((((Vc40.other W46 (oNe (by omega))).other W52 (oNe (by omega))).other W85 (oNe (by omega))).other W90 (oNe (by omega))).other W94 (oNe (by omega)))
    have f112 := (((V52.other W85 (oNe (by omega))).other W90 (oNe (by omega))).other W94 (oNe (by omega)))
    refine oRetI X102 hx Bd.notSynchronized Bd.returns (hb hby d14_246) (by decide) (by decide) ?_
    show Q_rmAdd0 Z t tx bo ca sl ha x b y eb p0 f g ft fb fc cl (.ref xc) (oo + 1) u cz h0 n0 _ T102.heap _
    rw [e102]
    exact ⟨rfl, N94, kp105, f106, f107, f108, f109, f99, f110, f94, f103, ⟨_, f104, oUp_hit.trans (own_ob hoo), fun j hj => oUp_miss hj⟩, ⟨_, f111, Fc40⟩, f112, ⟨hm9, f100⟩⟩
theorem ef_rmMr1 (m : MethodId) (x0 : Nat) (x1 : Int32)  : entryFrame m #[(.ref x0), (.int x1)] 4 = mkF m 0 #[.val (.ref x0), .val (.int x1), .unset, .unset] [] := by first | (simp [entryFrame, mkF, argsToLocals, Value.category, maxLocals]; done) | rfl
def Q_rmMr1 (Z : State) (t tx bo ca : Nat) (ft fb fc : Nat → Int32) (sm : Int32) (h0 : Heap) (n0 : Nat) (vv : Option Value) (h : Heap) (L : List Loc) : Prop := vv = none ∧ Fr n0 L ∧ h = h0
set_option maxRecDepth 65536 in
set_option maxHeartbeats 40000000 in
theorem rmMr1 (l : Launch) (Z : State) (a0 : Array Value) (hw : ∀ d ∈ tables_1, d.before a0 Z = true) (ws : List Jvm.Cond) (t tx bo ca : Nat) (ft fb fc : Nat → Int32) (sm : Int32) (h0 : Heap) (n0 : Nat) (Z0 : n0 ≤ h0.size) (t1 : Fld Z h0 t "com/example/yusen_ledger/yusenledger/HolderTable" "text" "[B" (.ref tx)) (t2 : Fld Z h0 t "com/example/yusen_ledger/yusenledger/HolderTable" "bounds" "[I" (.ref bo)) (t3 : Fld Z h0 t "com/example/yusen_ledger/yusenledger/HolderTable" "categories" "[B" (.ref ca)) (t6 : Fld Z h0 t "com/example/yusen_ledger/yusenledger/HolderTable" "size" "I" (.int 1)) (PT : oAI Z h0 tx .byte 128 ft) (PO : oAI Z h0 bo .int 17 fb) (PC : oAI Z h0 ca .byte 8 fc) (hs : ¬ ((128 : Int32) < fb 2 + sm)) :
    MetFree l (⟨"com/example/yusen_ledger/yusenledger/HolderTable", "makeRoom", "(I)V"⟩ : MethodName) (head1 (Jvm.Cond.code (⟨"com/example/yusen_ledger/yusenledger/HolderTable", "makeRoom", "(I)V"⟩ : MethodName) prog_21_method_18_code 4 (none : Option FieldType) :: ws) ({ frames := 0, cells := 0, slots := 0, locals := 0 } : Room)) (fun aA uU => aA = #[(.ref t), (.int sm)] ∧ Z.Warmed39 uU.vm ∧ uU.heap = h0) (fun _ _ _ _ _ => True) (fun _ uU oO uU' => ∃ vV lL, oO = .returned vV ∧ Q_rmMr1 Z t tx bo ca ft fb fc sm h0 n0 vV uU'.heap lL ∧ FrameEnd uU oO uU' lL ({ frames := 0, cells := 0, slots := 0, locals := 0 } : Room).cells ({ frames := 0, cells := 0, slots := 0, locals := 0 } : Room).slots) := by
  refine MetFree.of_bodySF (plainFor_of_name pn_HolderTable) hisR ?_
  intro p e s m args below meth c s₁ Bd hml0 hP hK
  obtain ⟨rfl, hZ, hh⟩ := hP
  have hx := Bd.exec
  have hby := Bd.bytes
  have hml : c.maxLocals = 4 := hml0
  have hown : s.vm.findClass "com/example/yusen_ledger/yusenledger/HolderTable" = some m.cls := findClass_of_methodNamed Bd.named
  have hnm := (name_of_methodNamed Bd.named Bd.method).1
  have X0 : Stand p l e ({ frames := 0, cells := 0, slots := 0, locals := 0 } : Room) s m #[(.ref t), (.int sm)] below meth c s₁ [] 0 0 := Stand.of_body Bd
  have e0 : s₁.heap = h0 := by rw [← hh, Bd.state]; rfl
  have N0 := Fr.nil n0
  refine oEnter (oCast (ef_rmMr1 m t sm ) ?_)
  show oGl p e below (s₁.setTop (mkF m 0 #[.val (.ref t), .val (.int sm), .unset, .unset] [])) _
  refine saloadN X0 hx (hb hby d26_0) rfl rfl rfl (pc' := 1) ?_
  obtain ⟨T1, X1, e1, st1⟩ := getF X0 hx hZ hown (host := "") (Or.inl (hw _ (List.mem_of_getElem? (i := 73) rfl))) Via.refl e0 t2 (g := (mkF m 1 #[.val (.ref t), .val (.int sm), .unset, .unset] [(.ref t)])) rfl rfl (hb hby d26_1)
  refine oOn st1 ?_
  show oGl p e below (T1.setTop (mkF m 4 #[.val (.ref t), .val (.int sm), .unset, .unset] [(.ref bo)])) _
  refine siconst X1 hx (hb hby d26_4) rfl rfl (z := 2) (pc' := 5) ?_
  refine saloadN X1 hx (hb hby d26_5) rfl rfl rfl (pc' := 6) ?_
  obtain ⟨T2, X2, e2, st2⟩ := getF X1 hx hZ hown (host := "") (Or.inl (hw _ (List.mem_of_getElem? (i := 69) rfl))) Via.refl e1 t6 (g := (mkF m 6 #[.val (.ref t), .val (.int sm), .unset, .unset] [(.ref t), (.int (2 : Int32)), (.ref bo)])) rfl rfl (hb hby d26_6)
  refine oOn st2 ?_
  show oGl p e below (T2.setTop (mkF m 9 #[.val (.ref t), .val (.int sm), .unset, .unset] [(.int (1 : Int32)), (.int (2 : Int32)), (.ref bo)])) _
  refine simul X2 hx (hb hby d26_9) rfl (by decide) (z := (2 : Int32)) (pc' := 10) ?_
  refine oOn (PO.ldI X2 hx hZ e2 (j := (2 : Int32)) (by decide) (g := (mkF m 10 #[.val (.ref t), .val (.int sm), .unset, .unset] [(.int (2 : Int32)), (.ref bo)])) rfl rfl (hb hby d26_10)) ?_
  show oGl p e below (T2.setTop (mkF m 11 #[.val (.ref t), .val (.int sm), .unset, .unset] [(.int (fb 2))])) _
  refine sistoreN X2 hx (hb hby d26_11) rfl rfl (l' := #[.val (.ref t), .val (.int sm), .val (.int (fb 2)), .unset]) (pc' := 12) ?_
  refine siloadN X2 hx (hb hby d26_12) rfl rfl (pc' := 13) ?_
  refine siloadN X2 hx (hb hby d26_13) rfl rfl (pc' := 14) ?_
  refine siadd X2 hx (hb hby d26_14) rfl rfl (pc' := 15) ?_
  refine saloadN X2 hx (hb hby d26_15) rfl rfl rfl (pc' := 16) ?_
  obtain ⟨T3, X3, e3, st3⟩ := getF X2 hx hZ hown (host := "") (Or.inl (hw _ (List.mem_of_getElem? (i := 71) rfl))) Via.refl e2 t1 (g := (mkF m 16 #[.val (.ref t), .val (.int sm), .val (.int (fb 2)), .unset] [(.ref t), (.int ((fb 2) + sm))])) rfl rfl (hb hby d26_16)
  refine oOn st3 ?_
  show oGl p e below (T3.setTop (mkF m 19 #[.val (.ref t), .val (.int sm), .val (.int (fb 2)), .unset] [(.ref tx), (.int ((fb 2) + sm))])) _
  refine oOn (PT.len X3 hx hZ e3 (g := (mkF m 19 #[.val (.ref t), .val (.int sm), .val (.int (fb 2)), .unset] [(.ref tx), (.int ((fb 2) + sm))])) rfl rfl (hb hby d26_19)) ?_
  show oGl p e below (T3.setTop (mkF m 20 #[.val (.ref t), .val (.int sm), .val (.int (fb 2)), .unset] [(.int (128 : Int32)), (.int ((fb 2) + sm))])) _
  refine sicY X3 hx (hb hby d26_20) (by decide) (by decide) (flt (hs : ¬ ((128 : Int32) < ((fb 2) + sm)))).2.2.2 (pc' := 47) ?_
  refine saloadN X3 hx (hb hby d26_47) rfl rfl rfl (pc' := 48) ?_
  obtain ⟨T4, X4, e4, st4⟩ := getF X3 hx hZ hown (host := "") (Or.inl (hw _ (List.mem_of_getElem? (i := 69) rfl))) Via.refl e3 t6 (g := (mkF m 48 #[.val (.ref t), .val (.int sm), .val (.int (fb 2)), .unset] [(.ref t)])) rfl rfl (hb hby d26_48)
  refine oOn st4 ?_
  show oGl p e below (T4.setTop (mkF m 51 #[.val (.ref t), .val (.int sm), .val (.int (fb 2)), .unset] [(.int (1 : Int32))])) _
  refine saloadN X4 hx (hb hby d26_51) rfl rfl rfl (pc' := 52) ?_
  obtain ⟨T5, X5, e5, st5⟩ := getF X4 hx hZ hown (host := "") (Or.inl (hw _ (List.mem_of_getElem? (i := 75) rfl))) Via.refl e4 t3 (g := (mkF m 52 #[.val (.ref t), .val (.int sm), .val (.int (fb 2)), .unset] [(.ref t), (.int (1 : Int32))])) rfl rfl (hb hby d26_52)
  refine oOn st5 ?_
  show oGl p e below (T5.setTop (mkF m 55 #[.val (.ref t), .val (.int sm), .val (.int (fb 2)), .unset] [(.ref ca), (.int (1 : Int32))])) _
  refine oOn (PC.len X5 hx hZ e5 (g := (mkF m 55 #[.val (.ref t), .val (.int sm), .val (.int (fb 2)), .unset] [(.ref ca), (.int (1 : Int32))])) rfl rfl (hb hby d26_55)) ?_
  show oGl p e below (T5.setTop (mkF m 56 #[.val (.ref t), .val (.int sm), .val (.int (fb 2)), .unset] [(.int (8 : Int32)), (.int (1 : Int32))])) _
  refine sicY X5 hx (hb hby d26_56) (by decide) (by decide) (feq (by decide : ¬ ((1 : Int32) = (8 : Int32)))).2 (pc' := 116) ?_
  refine oRet0 X5 hx Bd.notSynchronized Bd.returns (hb hby d26_116) (by decide) (by decide) ?_
  show Q_rmMr1 Z t tx bo ca ft fb fc sm h0 n0 _ T5.heap _
  rw [e5]
  exact ⟨rfl, N0, rfl⟩
theorem ef_rmAdd1 (m : MethodId) (x0 : Nat) (x1 : Nat) (x2 : Nat) (x3 : Value) (hx3 : x3.isRef = true) : entryFrame m #[(.ref x0), (.ref x1), (.ref x2), x3] 10 = mkF m 0 #[.val (.ref x0), .val (.ref x1), .val (.ref x2), .val x3, .unset, .unset, .unset, .unset, .unset, .unset] [] := by rcases ref_cases hx3 with rfl | ⟨_, rfl⟩ <;> rfl
def Q_rmAdd1 (Z : State) (t tx bo ca sl ha x b y eb p0 : Nat) (f g ft fb fc : Nat → Int32) (cl : Cell) (cw : Value) (k : Int32) (u : Nat) (cz : Int32) (s0 : Int32) (mm : Nat) (h0 : Heap) (n0 : Nat) (vv : Option Value) (h : Heap) (L : List Loc) : Prop := vv = some (.int 1) ∧ Fr n0 L ∧ Keep h0 h [t, tx, bo, ca, sl] ∧ Exa Z h t "com/example/yusen_ledger/yusenledger/HolderTable" ∧ Fld Z h t "com/example/yusen_ledger/yusenledger/HolderTable" "text" "[B" (.ref tx) ∧ Fld Z h t "com/example/yusen_ledger/yusenledger/HolderTable" "bounds" "[I" (.ref bo) ∧ Fld Z h t "com/example/yusen_ledger/yusenledger/HolderTable" "categories" "[B" (.ref ca) ∧ Fld Z h t "com/example/yusen_ledger/yusenledger/HolderTable" "slots" "[I" (.ref sl) ∧ Fld Z h t "com/example/yusen_ledger/yusenledger/HolderTable" "hash" "Lcom/example/yusen_ledger/yusenledger/SipHash;" (.ref ha) ∧ Fld Z h t "com/example/yusen_ledger/yusenledger/HolderTable" "size" "I" (.int 2) ∧ Fld Z h t "com/example/yusen_ledger/yusenledger/HolderTable" "reach" "I" (.int 64) ∧ (∃ q : Nat → Int32, oAI Z h ca .byte 8 q ∧ q 1 = k ∧ ∀ j, j ≠ 1 → q j = fc j)
set_option maxRecDepth 65536 in
set_option maxHeartbeats 40000000 in
theorem rmAdd1 (l : Launch) (Z : State) (a0 : Array Value) (hw : ∀ d ∈ tables_1, d.before a0 Z = true) (ws : List Jvm.Cond) (t tx bo ca sl ha x b y eb p0 : Nat) (f g ft fb fc : Nat → Int32) (cl : Cell) (cw : Value) (k : Int32) (u : Nat) (cz : Int32) (s0 : Int32) (mm : Nat) (h0 : Heap) (n0 : Nat) (Z0 : n0 ≤ h0.size) (O0 : Old Z n0 h0) (SCS : Sta Z Z.heap "java/lang/String" "COMPACT_STRINGS" "Z" (.int cz)) (hcz : ¬ cz = (0 : Int32)) (SU : Sta Z Z.heap "java/nio/charset/StandardCharsets" "UTF_8" "Ljava/nio/charset/Charset;" (.ref u)) (SI : Sta Z Z.heap "sun/nio/cs/UTF_8" "INSTANCE" "Lsun/nio/cs/UTF_8;" (.ref u)) (EH : Exa Z Z.heap ha "com/example/yusen_ledger/yusenledger/SipHash") (FK0 : Fld Z Z.heap ha "com/example/yusen_ledger/yusenledger/SipHash" "key0" "J" (.long 0)) (FK1 : Fld Z Z.heap ha "com/example/yusen_ledger/yusenledger/SipHash" "key1" "J" (.long 0)) (t0 : Exa Z h0 t "com/example/yusen_ledger/yusenledger/HolderTable") (t1 : Fld Z h0 t "com/example/yusen_ledger/yusenledger/HolderTable" "text" "[B" (.ref tx)) (t2 : Fld Z h0 t "com/example/yusen_ledger/yusenledger/HolderTable" "bounds" "[I" (.ref bo)) (t3 : Fld Z h0 t "com/example/yusen_ledger/yusenledger/HolderTable" "categories" "[B" (.ref ca)) (t4 : Fld Z h0 t "com/example/yusen_ledger/yusenledger/HolderTable" "slots" "[I" (.ref sl)) (t5 : Fld Z h0 t "com/example/yusen_ledger/yusenledger/HolderTable" "hash" "Lcom/example/yusen_ledger/yusenledger/SipHash;" (.ref ha)) (t6 : Fld Z h0 t "com/example/yusen_ledger/yusenledger/HolderTable" "size" "I" (.int 1)) (t7 : Fld Z h0 t "com/example/yusen_ledger/yusenledger/HolderTable" "reach" "I" (.int 64)) (Es1 : Exa Z h0 x "java/lang/String") (Fs1 : Fld Z h0 x "java/lang/String" "value" "[B" (.ref b)) (Cs1 : Fld Z h0 x "java/lang/String" "coder" "B" (.int 0)) (Ps1 : oAI Z h0 b .byte 2 f) (Ys1 : Exa Z h0 b "[B") (Gs1 : oFit 2 f) (Es2 : Exa Z h0 y "java/lang/String") (Fs2 : Fld Z h0 y "java/lang/String" "value" "[B" (.ref eb)) (Cs2 : Fld Z h0 y "java/lang/String" "coder" "B" (.int 0)) (Ps2 : oAI Z h0 eb .byte 1 g) (Ys2 : Exa Z h0 eb "[B") (Gs2 : oFit 1 g) (PT : oAI Z h0 tx .byte 128 ft) (HT9 : oFit 128 ft) (PO : oAI Z h0 bo .int 17 fb) (PC : oAI Z h0 ca .byte 8 fc) (PS : oAI Z h0 sl .int 16 (oUp (fun _ => (0 : Int32)) s0.toInt.toNat (1 : Int32))) (hct : oCt Z cl cw k) (hcw : cw.isRef = true) (hfc : fc 1 = (0 : Int32)) (hp : fb 2 = Int32.ofNat p0) (hp9 : p0 ≤ 10) (gt : n0 ≤ t) (o1 : t < tx) (o2 : tx < bo) (o3 : bo < ca) (o4 : ca < sl) (hm : mm < (oU2 f)) (hb0 : fb 0 = (0 : Int32)) (hb1 : fb 1 = Int32.ofNat mm) :
    MetFree l (⟨"com/example/yusen_ledger/yusenledger/HolderTable", "add", "(Ljava/lang/String;Ljava/lang/String;Lcom/example/yusen_ledger/yusenledger/HolderCategory;)I"⟩ : MethodName) (head1 (Jvm.Cond.code (⟨"com/example/yusen_ledger/yusenledger/HolderTable", "add", "(Ljava/lang/String;Ljava/lang/String;Lcom/example/yusen_ledger/yusenledger/HolderCategory;)I"⟩ : MethodName) prog_21_method_5_code 10 (some .int) :: ws) ({ frames := 5, cells := 3, slots := 9, locals := 79 } : Room)) (fun aA uU => aA = #[(.ref t), (.ref x), (.ref y), cw] ∧ Z.Warmed39 uU.vm ∧ uU.heap = h0) (fun _ _ _ _ _ => True) (fun _ uU oO uU' => ∃ vV lL, oO = .returned vV ∧ Q_rmAdd1 Z t tx bo ca sl ha x b y eb p0 f g ft fb fc cl cw k u cz s0 mm h0 n0 vV uU'.heap lL ∧ FrameEnd uU oO uU' lL ({ frames := 5, cells := 3, slots := 9, locals := 79 } : Room).cells ({ frames := 5, cells := 3, slots := 9, locals := 79 } : Room).slots) := by
  refine MetFree.of_bodySF (plainFor_of_name pn_HolderTable) hisR ?_
  intro p e s m args below meth c s₁ Bd hml0 hP hK
  obtain ⟨rfl, hZ, hh⟩ := hP
  have hx := Bd.exec
  have hby := Bd.bytes
  have hml : c.maxLocals = 10 := hml0
  have hown : s.vm.findClass "com/example/yusen_ledger/yusenledger/HolderTable" = some m.cls := findClass_of_methodNamed Bd.named
  have hnm := (name_of_methodNamed Bd.named Bd.method).1
  have X0 : Stand p l e ({ frames := 5, cells := 3, slots := 9, locals := 79 } : Room) s m #[(.ref t), (.ref x), (.ref y), cw] below meth c s₁ [] 0 0 := Stand.of_body Bd
  have e0 : s₁.heap = h0 := by rw [← hh, Bd.state]; rfl
  have N0 := Fr.nil n0
  have lT : @LT.lt Nat _ t h0.size := t0.lt
  have lX : @LT.lt Nat _ tx h0.size := PT.lt
  have lO : @LT.lt Nat _ bo h0.size := PO.lt
  have lC : @LT.lt Nat _ ca h0.size := PC.lt
  have lS : @LT.lt Nat _ sl h0.size := PS.lt
  have lb : @LT.lt Nat _ b h0.size := Ps1.lt
  have le : @LT.lt Nat _ eb h0.size := Ps2.lt
  have u1 := oU1_b f
  have u2 := oU1_b g
  have u3 := oU2_b f
  have v1 := own_ofNat (n := (oU2 f)) (by omega)
  have v2 := own_ofNat (n := (oU1 g)) (by omega)
  have v3 := own_ofNat (n := p0) (by omega)
  have v4 : ((Int32.ofNat p0 + Int32.ofNat (oU2 f))).toInt = p0 + (oU2 f) := by rw [own_sm (by omega) (by omega), own_ofNat (by omega)]; omega
  have v0 : (0 : Int32).toInt = 0 := rfl
  refine oEnter (oCast (ef_rmAdd1 m t x y cw hcw) ?_)
  show oGl p e below (s₁.setTop (mkF m 0 #[.val (.ref t), .val (.ref x), .val (.ref y), .val cw, .unset, .unset, .unset, .unset, .unset, .unset] [])) _
  refine saloadN X0 hx (hb hby d14_0) rfl rfl rfl (pc' := 1) ?_
  obtain ⟨T1, X1, e1, st1⟩ := getS2 X0 hx hZ hown (host := "") (Or.inl (hw _ (List.mem_of_getElem? (i := 88) rfl))) Via.refl e0 (SU.ext O0.2) (g := (mkF m 1 #[.val (.ref t), .val (.ref x), .val (.ref y), .val cw, .unset, .unset, .unset, .unset, .unset, .unset] [(.ref x)])) rfl (hb hby d14_1)
  refine oOn st1 ?_
  show oGl p e below (T1.setTop (mkF m 4 #[.val (.ref t), .val (.ref x), .val (.ref y), .val cw, .unset, .unset, .unset, .unset, .unset, .unset] [(.ref u), (.ref x)])) _
  have hz2 : n0 ≤ h0.size := by omega
  obtain ⟨cq2, kq2, q2a, q2b, q2c⟩ := isOf hZ e1 Es1
  obtain ⟨_, _, ⟨T2, L2, k2, n2⟩, -, X2, ⟨Lc2, hQ2, l2, y2, z2⟩, st2⟩ := X1.virtualBack hx (y := (⟨"java/lang/String", "getBytes", "(Ljava/nio/charset/Charset;)[B"⟩ : MethodName)) (z := (⟨"java/lang/String", "getBytes", "(Ljava/nio/charset/Charset;)[B"⟩ : MethodName)) hown (mvT hZ (hw _ (List.mem_of_getElem? (i := 90) rfl))) (mvT hZ (hw _ (List.mem_of_getElem? (i := 91) rfl))) (notFace_of_selects (args := #[]) (mvT hZ (hw _ (List.mem_of_getElem? (i := 93) rfl)))) (mvT hZ (hw _ (List.mem_of_getElem? (i := 93) rfl))) (mvT hZ (hw _ (List.mem_of_getElem? (i := 92) rfl))) (by decide) (backOf (W := 0) (rmGb82 l Z a0 hw [] x b f u cz h0 n0 hz2 O0 SCS hcz SU SI Es1 Fs1 Cs1 Ps1 Ys1 Gs1) hZ (hw _ (List.mem_of_getElem? (i := 94) rfl)) (hw _ (List.mem_of_getElem? (i := 10) rfl)) (by decide) (by decide)) q2a q2c (g := (mkF m 4 #[.val (.ref t), .val (.ref x), .val (.ref y), .val cw, .unset, .unset, .unset, .unset, .unset, .unset] [(.ref u), (.ref x)])) rfl (by rw [hml]; rfl) (Steps.refl _) (argsL := [(.ref u)]) (rest := []) (lenOf pd_22 rfl) rfl (by show 2 * 0 + _ ≤ _; exact Nat.le_of_eq rfl) (hb hby d14_4) (fun _ _ => ⟨rfl, e1, (by decide : 0 + 2 ≤ _), (by decide : 0 + 7 ≤ _)⟩)
  dsimp only [Pt.U, Pt.locs, Pt.cells, Pt.slots] at X2 l2 y2 z2 st2 hQ2
  subst l2 y2 z2
  obtain ⟨d2, gg2, rfl, N2q, K2, zd2, Vd2, Fd2⟩ := hQ2
  have N2 := Fr.app N0 N2q
  have z3 : h0.size ≤ T2.heap.size := K2.1
  refine oSt st2 ?_
  have ld2 : @LT.lt Nat _ d2 T2.heap.size := Vd2.lt
  show oGl p e below (T2.setTop (mkF m 7 #[.val (.ref t), .val (.ref x), .val (.ref y), .val cw, .unset, .unset, .unset, .unset, .unset, .unset] [(.ref d2)])) _
  refine sastore X2 hx (hb hby d14_7) rfl rfl rfl (l' := #[.val (.ref t), .val (.ref x), .val (.ref y), .val cw, .val (.ref d2), .unset, .unset, .unset, .unset, .unset]) (pc' := 9) ?_
  refine saloadN X2 hx (hb hby d14_9) rfl rfl rfl (pc' := 10) ?_
  refine saload X2 hx (hb hby d14_10) rfl rfl rfl (pc' := 12) ?_
  refine siconst X2 hx (hb hby d14_12) rfl rfl (z := 0) (pc' := 13) ?_
  refine saload X2 hx (hb hby d14_13) rfl rfl rfl (pc' := 15) ?_
  refine oOn (Vd2.len X2 hx hZ rfl (g := (mkF m 15 #[.val (.ref t), .val (.ref x), .val (.ref y), .val cw, .val (.ref d2), .unset, .unset, .unset, .unset, .unset] [(.ref d2), (.int (0 : Int32)), (.ref d2), (.ref t)])) rfl rfl (hb hby d14_15)) ?_
  show oGl p e below (T2.setTop (mkF m 16 #[.val (.ref t), .val (.ref x), .val (.ref y), .val cw, .val (.ref d2), .unset, .unset, .unset, .unset, .unset] [(.int (Int32.ofNat (oU2 f))), (.int (0 : Int32)), (.ref d2), (.ref t)])) _
  have f4 := (O0.keep K2 all0)
  have f5 := (t0.keep K2)
  have f6 := (t4.keep K2 nin0)
  have f7 := (t5.keep K2 nin0)
  have f8 := (PS.keep K2 nin0)
  have hz9 : n0 ≤ T2.heap.size := by omega
  obtain ⟨cq9, q9, q9'⟩ := f5.cell
  obtain ⟨_, _, ⟨T9, L9, k9, n9⟩, -, X9, ⟨Lc9, hQ9, l9, y9, z9⟩, st9⟩ := X2.privateBack hx (y := (⟨"com/example/yusen_ledger/yusenledger/HolderTable", "home", "([BII)I"⟩ : MethodName)) hown (mvT hZ (hw _ (List.mem_of_getElem? (i := 124) rfl))) (mvT hZ (hw _ (List.mem_of_getElem? (i := 125) rfl))) (oPriv (mvT hZ (hw _ (List.mem_of_getElem? (i := 52) rfl))) (Cond.privateMethod_at (mvP hZ (hw _ (List.mem_of_getElem? (i := 126) rfl)) (args := #[]))) (mvT hZ (hw _ (List.mem_of_getElem? (i := 125) rfl))) (by decide)) (Cond.privateMethod_at (mvP hZ (hw _ (List.mem_of_getElem? (i := 126) rfl)) (args := #[]))) (mvT hZ (hw _ (List.mem_of_getElem? (i := 127) rfl))) (by decide) (backOf (W := 0) (rmHome l Z a0 hw [] t sl ha d2 (oU2 f) (oUp (fun _ => (0 : Int32)) s0.toInt.toNat (1 : Int32)) gg2 T2.heap n0 hz9 f4 EH FK0 FK1 f5 f6 f7 f8 Vd2 (by omega)) hZ (hw _ (List.mem_of_getElem? (i := 127) rfl)) (hw _ (List.mem_of_getElem? (i := 53) rfl)) (by decide) (by decide)) (g := (mkF m 16 #[.val (.ref t), .val (.ref x), .val (.ref y), .val cw, .val (.ref d2), .unset, .unset, .unset, .unset, .unset] [(.int (Int32.ofNat (oU2 f))), (.int (0 : Int32)), (.ref d2), (.ref t)])) rfl (by rw [hml]; rfl) (Steps.refl _) (a := t) (by exact q9) q9' (argsL := [(.ref d2), (.int (0 : Int32)), (.int (Int32.ofNat (oU2 f)))]) (rest := []) (lenOf pd_7 rfl) rfl (by show 2 * 0 + _ ≤ _; exact Nat.le_of_eq rfl) (hb hby d14_16) (fun _ _ => ⟨rfl, rfl, (by decide : 2 + 0 ≤ _), (by decide : 7 + 0 ≤ _)⟩)
  dsimp only [Pt.U, Pt.locs, Pt.cells, Pt.slots] at X9 l9 y9 z9 st9 hQ9
  subst l9 y9 z9
  obtain ⟨hm9, rfl, N9q, eh9, hz9_⟩ := hQ9
  have N9 := Fr.app N2 N9q
  refine oSt st9 ?_
  show oGl p e below (T9.setTop (mkF m 19 #[.val (.ref t), .val (.ref x), .val (.ref y), .val cw, .val (.ref d2), .unset, .unset, .unset, .unset, .unset] [(.int hm9)])) _
  refine sistore X9 hx (hb hby d14_19) rfl rfl (l' := #[.val (.ref t), .val (.ref x), .val (.ref y), .val cw, .val (.ref d2), .val (.int hm9), .unset, .unset, .unset, .unset]) (pc' := 21) ?_
  refine saloadN X9 hx (hb hby d14_21) rfl rfl rfl (pc' := 22) ?_
  refine saload X9 hx (hb hby d14_22) rfl rfl rfl (pc' := 24) ?_
  refine siload X9 hx (hb hby d14_24) rfl rfl (pc' := 26) ?_
  have f10 := (t1.keep K2 nin0)
  have f11 := (t2.keep K2 nin0)
  have f12 := (PT.keep K2 nin0)
  have f13 := (PO.keep K2 nin0)
  have hz14 : n0 ≤ T2.heap.size := by omega
  obtain ⟨cq14, q14, q14'⟩ := f5.cell
  obtain ⟨_, _, ⟨T14, L14, k14, n14⟩, -, X14, ⟨Lc14, hQ14, l14, y14, z14⟩, st14⟩ := X9.privateBack hx (y := (⟨"com/example/yusen_ledger/yusenledger/HolderTable", "slotOf", "([BI)I"⟩ : MethodName)) hown (mvT hZ (hw _ (List.mem_of_getElem? (i := 151) rfl))) (mvT hZ (hw _ (List.mem_of_getElem? (i := 152) rfl))) (oPriv (mvT hZ (hw _ (List.mem_of_getElem? (i := 52) rfl))) (Cond.privateMethod_at (mvP hZ (hw _ (List.mem_of_getElem? (i := 153) rfl)) (args := #[]))) (mvT hZ (hw _ (List.mem_of_getElem? (i := 152) rfl))) (by decide)) (Cond.privateMethod_at (mvP hZ (hw _ (List.mem_of_getElem? (i := 153) rfl)) (args := #[]))) (mvT hZ (hw _ (List.mem_of_getElem? (i := 154) rfl))) (by decide) (backOf (W := 0) (rmSlt1 l Z a0 hw [] t tx bo sl d2 mm (oU2 f) hm9 s0 ft fb gg2 T2.heap n0 hz14 f5 f10 f11 f6 f12 f13 f8 Vd2 hm (by omega) hb0 hb1 hz9_) hZ (hw _ (List.mem_of_getElem? (i := 154) rfl)) (hw _ (List.mem_of_getElem? (i := 53) rfl)) (by decide) (by decide)) (g := (mkF m 26 #[.val (.ref t), .val (.ref x), .val (.ref y), .val cw, .val (.ref d2), .val (.int hm9), .unset, .unset, .unset, .unset] [(.int hm9), (.ref d2), (.ref t)])) rfl (by rw [hml]; rfl) (Steps.refl _) (a := t) (by rw [eh9]; exact q14) q14' (argsL := [(.ref d2), (.int hm9)]) (rest := []) (lenOf pd_23 rfl) rfl (by show 2 * 0 + _ ≤ _; exact Nat.le_of_eq rfl) (hb hby d14_26) (fun _ _ => ⟨rfl, eh9, (by decide : 2 + 0 ≤ _), (by decide : 7 + 0 ≤ _)⟩)
  dsimp only [Pt.U, Pt.locs, Pt.cells, Pt.slots] at X14 l14 y14 z14 st14 hQ14
  subst l14 y14 z14
  obtain ⟨sz14, rfl, N14q, eh14, hs14_, he14_⟩ := hQ14
  have N14 := Fr.app N9 N14q
  refine oSt st14 ?_
  show oGl p e below (T14.setTop (mkF m 29 #[.val (.ref t), .val (.ref x), .val (.ref y), .val cw, .val (.ref d2), .val (.int hm9), .unset, .unset, .unset, .unset] [(.int sz14)])) _
  refine sistore X14 hx (hb hby d14_29) rfl rfl (l' := #[.val (.ref t), .val (.ref x), .val (.ref y), .val cw, .val (.ref d2), .val (.int hm9), .val (.int sz14), .unset, .unset, .unset]) (pc' := 31) ?_
  refine siconst X14 hx (hb hby d14_31) rfl rfl (z := -1) (pc' := 32) ?_
  refine sistore X14 hx (hb hby d14_32) rfl rfl (l' := #[.val (.ref t), .val (.ref x), .val (.ref y), .val cw, .val (.ref d2), .val (.int hm9), .val (.int sz14), .val (.int (-1 : Int32)), .unset, .unset]) (pc' := 34) ?_
  refine saloadN X14 hx (hb hby d14_34) rfl rfl rfl (pc' := 35) ?_
  obtain ⟨T15, X15, e15, st15⟩ := getF X14 hx hZ hown (host := "") (Or.inl (hw _ (List.mem_of_getElem? (i := 79) rfl))) Via.refl eh14 f6 (g := (mkF m 35 #[.val (.ref t), .val (.ref x), .val (.ref y), .val cw, .val (.ref d2), .val (.int hm9), .val (.int sz14), .val (.int (-1 : Int32)), .unset, .unset] [(.ref t)])) rfl rfl (hb hby d14_35)
  refine oOn st15 ?_
  show oGl p e below (T15.setTop (mkF m 38 #[.val (.ref t), .val (.ref x), .val (.ref y), .val cw, .val (.ref d2), .val (.int hm9), .val (.int sz14), .val (.int (-1 : Int32)), .unset, .unset] [(.ref sl)])) _
  refine siload X15 hx (hb hby d14_38) rfl rfl (pc' := 40) ?_
  refine oOn (f8.ldI X15 hx hZ e15 (j := sz14) hs14_ (g := (mkF m 40 #[.val (.ref t), .val (.ref x), .val (.ref y), .val cw, .val (.ref d2), .val (.int hm9), .val (.int sz14), .val (.int (-1 : Int32)), .unset, .unset] [(.int sz14), (.ref sl)])) rfl rfl (hb hby d14_40)) ?_
  show oGl p e below (T15.setTop (mkF m 41 #[.val (.ref t), .val (.ref x), .val (.ref y), .val cw, .val (.ref d2), .val (.int hm9), .val (.int sz14), .val (.int (-1 : Int32)), .unset, .unset] [(.int ((oUp (fun _ => (0 : Int32)) s0.toInt.toNat (1 : Int32)) sz14.toInt.toNat))])) _
  rw [he14_]
  show oGl p e below (T15.setTop (mkF m 41 #[.val (.ref t), .val (.ref x), .val (.ref y), .val cw, .val (.ref d2), .val (.int hm9), .val (.int sz14), .val (.int (-1 : Int32)), .unset, .unset] [(.int (0 : Int32))])) _
  refine sifN X15 hx (hb hby d14_41) rfl (teq (by decide : (0 : Int32) = (0 : Int32))).2 (pc' := 44) ?_
  refine saloadN X15 hx (hb hby d14_44) rfl rfl rfl (pc' := 45) ?_
  have f17 := (t6.keep K2 nin0)
  obtain ⟨T16, X16, e16, st16⟩ := getF X15 hx hZ hown (host := "") (Or.inl (hw _ (List.mem_of_getElem? (i := 69) rfl))) Via.refl e15 f17 (g := (mkF m 45 #[.val (.ref t), .val (.ref x), .val (.ref y), .val cw, .val (.ref d2), .val (.int hm9), .val (.int sz14), .val (.int (-1 : Int32)), .unset, .unset] [(.ref t)])) rfl rfl (hb hby d14_45)
  refine oOn st16 ?_
  show oGl p e below (T16.setTop (mkF m 48 #[.val (.ref t), .val (.ref x), .val (.ref y), .val cw, .val (.ref d2), .val (.int hm9), .val (.int sz14), .val (.int (-1 : Int32)), .unset, .unset] [(.int (1 : Int32))])) _
  refine sistore X16 hx (hb hby d14_48) rfl rfl (l' := #[.val (.ref t), .val (.ref x), .val (.ref y), .val cw, .val (.ref d2), .val (.int hm9), .val (.int sz14), .val (.int (1 : Int32)), .unset, .unset]) (pc' := 50) ?_
  refine saloadN X16 hx (hb hby d14_50) rfl rfl rfl (pc' := 51) ?_
  obtain ⟨T18, X18, e18, st18⟩ := getS2 X16 hx hZ hown (host := "") (Or.inl (hw _ (List.mem_of_getElem? (i := 88) rfl))) Via.refl e16 (SU.ext f4.2) (g := (mkF m 51 #[.val (.ref t), .val (.ref x), .val (.ref y), .val cw, .val (.ref d2), .val (.int hm9), .val (.int sz14), .val (.int (1 : Int32)), .unset, .unset] [(.ref y)])) rfl (hb hby d14_51)
  refine oOn st18 ?_
  show oGl p e below (T18.setTop (mkF m 54 #[.val (.ref t), .val (.ref x), .val (.ref y), .val cw, .val (.ref d2), .val (.int hm9), .val (.int sz14), .val (.int (1 : Int32)), .unset, .unset] [(.ref u), (.ref y)])) _
  have f19 := (Es2.keep K2)
  have f20 := (Fs2.keep K2 nin0)
  have f21 := (Cs2.keep K2 nin0)
  have f22 := (Ps2.keep K2 nin0)
  have f23 := (Ys2.keep K2)
  have hz24 : n0 ≤ T2.heap.size := by omega
  obtain ⟨cq24, kq24, q24a, q24b, q24c⟩ := isOf hZ e18 f19
  obtain ⟨_, _, ⟨T24, L24, k24, n24⟩, -, X24, ⟨Lc24, hQ24, l24, y24, z24⟩, st24⟩ := X18.virtualBack hx (y := (⟨"java/lang/String", "getBytes", "(Ljava/nio/charset/Charset;)[B"⟩ : MethodName)) (z := (⟨"java/lang/String", "getBytes", "(Ljava/nio/charset/Charset;)[B"⟩ : MethodName)) hown (mvT hZ (hw _ (List.mem_of_getElem? (i := 90) rfl))) (mvT hZ (hw _ (List.mem_of_getElem? (i := 91) rfl))) (notFace_of_selects (args := #[]) (mvT hZ (hw _ (List.mem_of_getElem? (i := 93) rfl)))) (mvT hZ (hw _ (List.mem_of_getElem? (i := 93) rfl))) (mvT hZ (hw _ (List.mem_of_getElem? (i := 92) rfl))) (by decide) (backOf (W := 0) (rmGb81 l Z a0 hw [] y eb g u cz T2.heap n0 hz24 f4 SCS hcz SU SI f19 f20 f21 f22 f23 Gs2) hZ (hw _ (List.mem_of_getElem? (i := 94) rfl)) (hw _ (List.mem_of_getElem? (i := 10) rfl)) (by decide) (by decide)) q24a q24c (g := (mkF m 54 #[.val (.ref t), .val (.ref x), .val (.ref y), .val cw, .val (.ref d2), .val (.int hm9), .val (.int sz14), .val (.int (1 : Int32)), .unset, .unset] [(.ref u), (.ref y)])) rfl (by rw [hml]; rfl) (Steps.refl _) (argsL := [(.ref u)]) (rest := []) (lenOf pd_22 rfl) rfl (by show 2 * 0 + _ ≤ _; exact Nat.le_of_eq rfl) (hb hby d14_54) (fun _ _ => ⟨rfl, e18, (by decide : 2 + 1 ≤ _), (by decide : 7 + 2 ≤ _)⟩)
  dsimp only [Pt.U, Pt.locs, Pt.cells, Pt.slots] at X24 l24 y24 z24 st24 hQ24
  subst l24 y24 z24
  obtain ⟨d24, gg24, rfl, N24q, K24, zd24, Vd24, Fd24⟩ := hQ24
  have N24 := Fr.app N14 N24q
  have z25 : T2.heap.size ≤ T24.heap.size := K24.1
  refine oSt st24 ?_
  have ld24 : @LT.lt Nat _ d24 T24.heap.size := Vd24.lt
  show oGl p e below (T24.setTop (mkF m 57 #[.val (.ref t), .val (.ref x), .val (.ref y), .val cw, .val (.ref d2), .val (.int hm9), .val (.int sz14), .val (.int (1 : Int32)), .unset, .unset] [(.ref d24)])) _
  refine sastore X24 hx (hb hby d14_57) rfl rfl rfl (l' := #[.val (.ref t), .val (.ref x), .val (.ref y), .val cw, .val (.ref d2), .val (.int hm9), .val (.int sz14), .val (.int (1 : Int32)), .val (.ref d24), .unset]) (pc' := 59) ?_
  refine saloadN X24 hx (hb hby d14_59) rfl rfl rfl (pc' := 60) ?_
  refine saload X24 hx (hb hby d14_60) rfl rfl rfl (pc' := 62) ?_
  have f26 := (Vd2.keep K24 nin0)
  refine oOn (f26.len X24 hx hZ rfl (g := (mkF m 62 #[.val (.ref t), .val (.ref x), .val (.ref y), .val cw, .val (.ref d2), .val (.int hm9), .val (.int sz14), .val (.int (1 : Int32)), .val (.ref d24), .unset] [(.ref d2), (.ref t)])) rfl rfl (hb hby d14_62)) ?_
  show oGl p e below (T24.setTop (mkF m 63 #[.val (.ref t), .val (.ref x), .val (.ref y), .val cw, .val (.ref d2), .val (.int hm9), .val (.int sz14), .val (.int (1 : Int32)), .val (.ref d24), .unset] [(.int (Int32.ofNat (oU2 f))), (.ref t)])) _
  refine saload X24 hx (hb hby d14_63) rfl rfl rfl (pc' := 65) ?_
  refine oOn (Vd24.len X24 hx hZ rfl (g := (mkF m 65 #[.val (.ref t), .val (.ref x), .val (.ref y), .val cw, .val (.ref d2), .val (.int hm9), .val (.int sz14), .val (.int (1 : Int32)), .val (.ref d24), .unset] [(.ref d24), (.int (Int32.ofNat (oU2 f))), (.ref t)])) rfl rfl (hb hby d14_65)) ?_
  show oGl p e below (T24.setTop (mkF m 66 #[.val (.ref t), .val (.ref x), .val (.ref y), .val cw, .val (.ref d2), .val (.int hm9), .val (.int sz14), .val (.int (1 : Int32)), .val (.ref d24), .unset] [(.int (Int32.ofNat (oU1 g))), (.int (Int32.ofNat (oU2 f))), (.ref t)])) _
  refine siadd X24 hx (hb hby d14_66) rfl rfl (pc' := 67) ?_
  have f27 := (f10.keep K24 nin0)
  have f28 := (f11.keep K24 nin0)
  have f29 := ((t3.keep K2 nin0).keep K24 nin0)
  have f30 := (f17.keep K24 nin0)
  have f31 := (f12.keep K24 nin0)
  have f32 := (f13.keep K24 nin0)
  have f33 := ((PC.keep K2 nin0).keep K24 nin0)
  have hz34 : n0 ≤ T24.heap.size := by omega
  have f35 := (f5.keep K24)
  obtain ⟨cq34, q34, q34'⟩ := f35.cell
  obtain ⟨_, _, ⟨T34, L34, k34, n34⟩, -, X34, ⟨Lc34, hQ34, l34, y34, z34⟩, st34⟩ := X24.privateBack hx (y := (⟨"com/example/yusen_ledger/yusenledger/HolderTable", "makeRoom", "(I)V"⟩ : MethodName)) hown (mvT hZ (hw _ (List.mem_of_getElem? (i := 155) rfl))) (mvT hZ (hw _ (List.mem_of_getElem? (i := 156) rfl))) (oPriv (mvT hZ (hw _ (List.mem_of_getElem? (i := 52) rfl))) (Cond.privateMethod_at (mvP hZ (hw _ (List.mem_of_getElem? (i := 157) rfl)) (args := #[]))) (mvT hZ (hw _ (List.mem_of_getElem? (i := 156) rfl))) (by decide)) (Cond.privateMethod_at (mvP hZ (hw _ (List.mem_of_getElem? (i := 157) rfl)) (args := #[]))) (mvT hZ (hw _ (List.mem_of_getElem? (i := 158) rfl))) (by decide) (backOf (W := 0) (rmMr1 l Z a0 hw [] t tx bo ca ft fb fc ((Int32.ofNat (oU2 f)) + (Int32.ofNat (oU1 g))) T24.heap n0 hz34 f27 f28 f29 f30 f31 f32 f33 (own_bnd hp (by omega) (by omega) (by omega))) hZ (hw _ (List.mem_of_getElem? (i := 158) rfl)) (hw _ (List.mem_of_getElem? (i := 53) rfl)) (by decide) (by decide)) (g := (mkF m 67 #[.val (.ref t), .val (.ref x), .val (.ref y), .val cw, .val (.ref d2), .val (.int hm9), .val (.int sz14), .val (.int (1 : Int32)), .val (.ref d24), .unset] [(.int ((Int32.ofNat (oU2 f)) + (Int32.ofNat (oU1 g)))), (.ref t)])) rfl (by rw [hml]; rfl) (Steps.refl _) (a := t) (by exact q34) q34' (argsL := [(.int ((Int32.ofNat (oU2 f)) + (Int32.ofNat (oU1 g))))]) (rest := []) (lenOf pd_24 rfl) rfl (by show 2 * 0 + _ ≤ _; exact Nat.le_of_eq rfl) (hb hby d14_67) (fun _ _ => ⟨rfl, rfl, (by decide : 3 + 0 ≤ _), (by decide : 9 + 0 ≤ _)⟩)
  dsimp only [Pt.U, Pt.locs, Pt.cells, Pt.slots] at X34 l34 y34 z34 st34 hQ34
  subst l34 y34 z34
  obtain ⟨rfl, N34q, eh34⟩ := hQ34
  have N34 := Fr.app N24 N34q
  refine oSt st34 ?_
  show oGl p e below (T34.setTop (mkF m 70 #[.val (.ref t), .val (.ref x), .val (.ref y), .val cw, .val (.ref d2), .val (.int hm9), .val (.int sz14), .val (.int (1 : Int32)), .val (.ref d24), .unset] [])) _
  refine saloadN X34 hx (hb hby d14_70) rfl rfl rfl (pc' := 71) ?_
  obtain ⟨T36, X36, e36, st36⟩ := getF X34 hx hZ hown (host := "") (Or.inl (hw _ (List.mem_of_getElem? (i := 73) rfl))) Via.refl eh34 f28 (g := (mkF m 71 #[.val (.ref t), .val (.ref x), .val (.ref y), .val cw, .val (.ref d2), .val (.int hm9), .val (.int sz14), .val (.int (1 : Int32)), .val (.ref d24), .unset] [(.ref t)])) rfl rfl (hb hby d14_71)
  refine oOn st36 ?_
  show oGl p e below (T36.setTop (mkF m 74 #[.val (.ref t), .val (.ref x), .val (.ref y), .val cw, .val (.ref d2), .val (.int hm9), .val (.int sz14), .val (.int (1 : Int32)), .val (.ref d24), .unset] [(.ref bo)])) _
  refine siconst X36 hx (hb hby d14_74) rfl rfl (z := 2) (pc' := 75) ?_
  refine siload X36 hx (hb hby d14_75) rfl rfl (pc' := 77) ?_
  refine simul X36 hx (hb hby d14_77) rfl (by decide) (z := (2 : Int32)) (pc' := 78) ?_
  refine oOn (f32.ldI X36 hx hZ e36 (j := (2 : Int32)) (by decide) (g := (mkF m 78 #[.val (.ref t), .val (.ref x), .val (.ref y), .val cw, .val (.ref d2), .val (.int hm9), .val (.int sz14), .val (.int (1 : Int32)), .val (.ref d24), .unset] [(.int (2 : Int32)), (.ref bo)])) rfl rfl (hb hby d14_78)) ?_
  show oGl p e below (T36.setTop (mkF m 79 #[.val (.ref t), .val (.ref x), .val (.ref y), .val cw, .val (.ref d2), .val (.int hm9), .val (.int sz14), .val (.int (1 : Int32)), .val (.ref d24), .unset] [(.int (fb 2))])) _
  rw [hp]
  show oGl p e below (T36.setTop (mkF m 79 #[.val (.ref t), .val (.ref x), .val (.ref y), .val cw, .val (.ref d2), .val (.int hm9), .val (.int sz14), .val (.int (1 : Int32)), .val (.ref d24), .unset] [(.int (Int32.ofNat p0))])) _
  refine sistore X36 hx (hb hby d14_79) rfl rfl (l' := #[.val (.ref t), .val (.ref x), .val (.ref y), .val cw, .val (.ref d2), .val (.int hm9), .val (.int sz14), .val (.int (1 : Int32)), .val (.ref d24), .val (.int (Int32.ofNat p0))]) (pc' := 81) ?_
  refine saload X36 hx (hb hby d14_81) rfl rfl rfl (pc' := 83) ?_
  refine siconst X36 hx (hb hby d14_83) rfl rfl (z := 0) (pc' := 84) ?_
  refine saloadN X36 hx (hb hby d14_84) rfl rfl rfl (pc' := 85) ?_
  obtain ⟨T37, X37, e37, st37⟩ := getF X36 hx hZ hown (host := "") (Or.inl (hw _ (List.mem_of_getElem? (i := 71) rfl))) Via.refl e36 f27 (g := (mkF m 85 #[.val (.ref t), .val (.ref x), .val (.ref y), .val cw, .val (.ref d2), .val (.int hm9), .val (.int sz14), .val (.int (1 : Int32)), .val (.ref d24), .val (.int (Int32.ofNat p0))] [(.ref t), (.int (0 : Int32)), (.ref d2)])) rfl rfl (hb hby d14_85)
  refine oOn st37 ?_
  show oGl p e below (T37.setTop (mkF m 88 #[.val (.ref t), .val (.ref x), .val (.ref y), .val cw, .val (.ref d2), .val (.int hm9), .val (.int sz14), .val (.int (1 : Int32)), .val (.ref d24), .val (.int (Int32.ofNat p0))] [(.ref tx), (.int (0 : Int32)), (.ref d2)])) _
  refine siload X37 hx (hb hby d14_88) rfl rfl (pc' := 90) ?_
  refine saload X37 hx (hb hby d14_90) rfl rfl rfl (pc' := 92) ?_
  refine oOn (f26.len X37 hx hZ e37 (g := (mkF m 92 #[.val (.ref t), .val (.ref x), .val (.ref y), .val cw, .val (.ref d2), .val (.int hm9), .val (.int sz14), .val (.int (1 : Int32)), .val (.ref d24), .val (.int (Int32.ofNat p0))] [(.ref d2), (.int (Int32.ofNat p0)), (.ref tx), (.int (0 : Int32)), (.ref d2)])) rfl rfl (hb hby d14_92)) ?_
  show oGl p e below (T37.setTop (mkF m 93 #[.val (.ref t), .val (.ref x), .val (.ref y), .val cw, .val (.ref d2), .val (.int hm9), .val (.int sz14), .val (.int (1 : Int32)), .val (.ref d24), .val (.int (Int32.ofNat p0))] [(.int (Int32.ofNat (oU2 f))), (.int (Int32.ofNat p0)), (.ref tx), (.int (0 : Int32)), (.ref d2)])) _
  obtain ⟨T38, h38, L38, X38, e38, N38, K38, V38, st38⟩ := oCp X37 hx hZ hown (hw _ (List.mem_of_getElem? (i := 159) rfl)) (hw _ (List.mem_of_getElem? (i := 162) rfl)) (hw _ (List.mem_of_getElem? (i := 160) rfl)) (hw _ (List.mem_of_getElem? (i := 161) rfl)) e37 f26 f31 Fd2 HT9 (by omega) (by omega) (by omega) (by omega) (by omega) N34 (by omega) (gf := (mkF m 93 #[.val (.ref t), .val (.ref x), .val (.ref y), .val cw, .val (.ref d2), .val (.int hm9), .val (.int sz14), .val (.int (1 : Int32)), .val (.ref d24), .val (.int (Int32.ofNat p0))] [(.int (Int32.ofNat (oU2 f))), (.int (Int32.ofNat p0)), (.ref tx), (.int (0 : Int32)), (.ref d2)])) rfl (by rw [hml]; rfl) (rest := []) rfl (hb hby d14_93) (by decide) (W := 0) (by show 2 * 0 + _ ≤ _; exact Nat.le_of_eq rfl) (by decide)
  refine oOn st38 ?_
  have z39 : T24.heap.size ≤ h38.size := K38.1
  obtain ⟨g38, Vc38, Fc38⟩ : ∃ g, oAI Z h38 tx .byte 128 g ∧ oFit 128 g := ⟨_, V38, oFit.cp (fun j hj => Fd2 _ (by have hj : j < ((Int32.ofNat (oU2 f))).toInt.toNat := hj; omega)) HT9⟩
  show oGl p e below (T38.setTop (mkF m 96 #[.val (.ref t), .val (.ref x), .val (.ref y), .val cw, .val (.ref d2), .val (.int hm9), .val (.int sz14), .val (.int (1 : Int32)), .val (.ref d24), .val (.int (Int32.ofNat p0))] [])) _
  refine saload X38 hx (hb hby d14_96) rfl rfl rfl (pc' := 98) ?_
  refine siconst X38 hx (hb hby d14_98) rfl rfl (z := 0) (pc' := 99) ?_
  refine saloadN X38 hx (hb hby d14_99) rfl rfl rfl (pc' := 100) ?_
  have f41 := (f27.keep K38 (ninS (oNe (by omega)) nin0))
  obtain ⟨T40, X40, e40, st40⟩ := getF X38 hx hZ hown (host := "") (Or.inl (hw _ (List.mem_of_getElem? (i := 71) rfl))) Via.refl e38 f41 (g := (mkF m 100 #[.val (.ref t), .val (.ref x), .val (.ref y), .val cw, .val (.ref d2), .val (.int hm9), .val (.int sz14), .val (.int (1 : Int32)), .val (.ref d24), .val (.int (Int32.ofNat p0))] [(.ref t), (.int (0 : Int32)), (.ref d24)])) rfl rfl (hb hby d14_100)
  refine oOn st40 ?_
  show oGl p e below (T40.setTop (mkF m 103 #[.val (.ref t), .val (.ref x), .val (.ref y), .val cw, .val (.ref d2), .val (.int hm9), .val (.int sz14), .val (.int (1 : Int32)), .val (.ref d24), .val (.int (Int32.ofNat p0))] [(.ref tx), (.int (0 : Int32)), (.ref d24)])) _
  refine siload X40 hx (hb hby d14_103) rfl rfl (pc' := 105) ?_
  refine saload X40 hx (hb hby d14_105) rfl rfl rfl (pc' := 107) ?_
  have f42 := (f26.keep K38 (ninS (oNe (by omega)) nin0))
  refine oOn (f42.len X40 hx hZ e40 (g := (mkF m 107 #[.val (.ref t), .val (.ref x), .val (.ref y), .val cw, .val (.ref d2), .val (.int hm9), .val (.int sz14), .val (.int (1 : Int32)), .val (.ref d24), .val (.int (Int32.ofNat p0))] [(.ref d2), (.int (Int32.ofNat p0)), (.ref tx), (.int (0 : Int32)), (.ref d24)])) rfl rfl (hb hby d14_107)) ?_
  show oGl p e below (T40.setTop (mkF m 108 #[.val (.ref t), .val (.ref x), .val (.ref y), .val cw, .val (.ref d2), .val (.int hm9), .val (.int sz14), .val (.int (1 : Int32)), .val (.ref d24), .val (.int (Int32.ofNat p0))] [(.int (Int32.ofNat (oU2 f))), (.int (Int32.ofNat p0)), (.ref tx), (.int (0 : Int32)), (.ref d24)])) _
  refine siadd X40 hx (hb hby d14_108) rfl rfl (pc' := 109) ?_
  refine saload X40 hx (hb hby d14_109) rfl rfl rfl (pc' := 111) ?_
  have f43 := (Vd24.keep K38 (ninS (oNe (by omega)) nin0))
  refine oOn (f43.len X40 hx hZ e40 (g := (mkF m 111 #[.val (.ref t), .val (.ref x), .val (.ref y), .val cw, .val (.ref d2), .val (.int hm9), .val (.int sz14), .val (.int (1 : Int32)), .val (.ref d24), .val (.int (Int32.ofNat p0))] [(.ref d24), (.int ((Int32.ofNat p0) + (Int32.ofNat (oU2 f)))), (.ref tx), (.int (0 : Int32)), (.ref d24)])) rfl rfl (hb hby d14_111)) ?_
  show oGl p e below (T40.setTop (mkF m 112 #[.val (.ref t), .val (.ref x), .val (.ref y), .val cw, .val (.ref d2), .val (.int hm9), .val (.int sz14), .val (.int (1 : Int32)), .val (.ref d24), .val (.int (Int32.ofNat p0))] [(.int (Int32.ofNat (oU1 g))), (.int ((Int32.ofNat p0) + (Int32.ofNat (oU2 f)))), (.ref tx), (.int (0 : Int32)), (.ref d24)])) _
  obtain ⟨T44, h44, L44, X44, e44, N44, K44, V44, st44⟩ := oCp X40 hx hZ hown (hw _ (List.mem_of_getElem? (i := 159) rfl)) (hw _ (List.mem_of_getElem? (i := 162) rfl)) (hw _ (List.mem_of_getElem? (i := 160) rfl)) (hw _ (List.mem_of_getElem? (i := 161) rfl)) e40 f43 Vc38 Fd24 Fc38 (by omega) (by omega) (by omega) (by omega) (by omega) N38 (by omega) (gf := (mkF m 112 #[.val (.ref t), .val (.ref x), .val (.ref y), .val cw, .val (.ref d2), .val (.int hm9), .val (.int sz14), .val (.int (1 : Int32)), .val (.ref d24), .val (.int (Int32.ofNat p0))] [(.int (Int32.ofNat (oU1 g))), (.int ((Int32.ofNat p0) + (Int32.ofNat (oU2 f)))), (.ref tx), (.int (0 : Int32)), (.ref d24)])) rfl (by rw [hml]; rfl) (rest := []) rfl (hb hby d14_112) (by decide) (W := 0) (by show 2 * 0 + _ ≤ _; exact Nat.le_of_eq rfl) (by decide)
  refine oOn st44 ?_
  have z45 : h38.size ≤ h44.size := K44.1
  obtain ⟨g44, Vc44, Fc44⟩ : ∃ g, oAI Z h44 tx .byte 128 g ∧ oFit 128 g := ⟨_, V44, oFit.cp (fun j hj => Fd24 _ (by have hj : j < ((Int32.ofNat (oU1 g))).toInt.toNat := hj; omega)) Fc38⟩
  show oGl p e below (T44.setTop (mkF m 115 #[.val (.ref t), .val (.ref x), .val (.ref y), .val cw, .val (.ref d2), .val (.int hm9), .val (.int sz14), .val (.int (1 : Int32)), .val (.ref d24), .val (.int (Int32.ofNat p0))] [])) _
  refine saloadN X44 hx (hb hby d14_115) rfl rfl rfl (pc' := 116) ?_
  have f47 := ((f28.keep K38 (ninS (oNe (by omega)) nin0)).keep K44 (ninS (oNe (by omega)) nin0))
  obtain ⟨T46, X46, e46, st46⟩ := getF X44 hx hZ hown (host := "") (Or.inl (hw _ (List.mem_of_getElem? (i := 73) rfl))) Via.refl e44 f47 (g := (mkF m 116 #[.val (.ref t), .val (.ref x), .val (.ref y), .val cw, .val (.ref d2), .val (.int hm9), .val (.int sz14), .val (.int (1 : Int32)), .val (.ref d24), .val (.int (Int32.ofNat p0))] [(.ref t)])) rfl rfl (hb hby d14_116)
  refine oOn st46 ?_
  show oGl p e below (T46.setTop (mkF m 119 #[.val (.ref t), .val (.ref x), .val (.ref y), .val cw, .val (.ref d2), .val (.int hm9), .val (.int sz14), .val (.int (1 : Int32)), .val (.ref d24), .val (.int (Int32.ofNat p0))] [(.ref bo)])) _
  refine siconst X46 hx (hb hby d14_119) rfl rfl (z := 2) (pc' := 120) ?_
  refine siload X46 hx (hb hby d14_120) rfl rfl (pc' := 122) ?_
  refine simul X46 hx (hb hby d14_122) rfl (by decide) (z := (2 : Int32)) (pc' := 123) ?_
  refine siconst X46 hx (hb hby d14_123) rfl rfl (z := 1) (pc' := 124) ?_
  refine siadd X46 hx (hb hby d14_124) rfl (by decide) (z := (3 : Int32)) (pc' := 125) ?_
  refine siload X46 hx (hb hby d14_125) rfl rfl (pc' := 127) ?_
  refine saload X46 hx (hb hby d14_127) rfl rfl rfl (pc' := 129) ?_
  have f48 := (f42.keep K44 (ninS (oNe (by omega)) nin0))
  refine oOn (f48.len X46 hx hZ e46 (g := (mkF m 129 #[.val (.ref t), .val (.ref x), .val (.ref y), .val cw, .val (.ref d2), .val (.int hm9), .val (.int sz14), .val (.int (1 : Int32)), .val (.ref d24), .val (.int (Int32.ofNat p0))] [(.ref d2), (.int (Int32.ofNat p0)), (.int (3 : Int32)), (.ref bo)])) rfl rfl (hb hby d14_129)) ?_
  show oGl p e below (T46.setTop (mkF m 130 #[.val (.ref t), .val (.ref x), .val (.ref y), .val cw, .val (.ref d2), .val (.int hm9), .val (.int sz14), .val (.int (1 : Int32)), .val (.ref d24), .val (.int (Int32.ofNat p0))] [(.int (Int32.ofNat (oU2 f))), (.int (Int32.ofNat p0)), (.int (3 : Int32)), (.ref bo)])) _
  refine siadd X46 hx (hb hby d14_130) rfl rfl (pc' := 131) ?_
  have f49 := ((f32.keep K38 (ninS (oNe (by omega)) nin0)).keep K44 (ninS (oNe (by omega)) nin0))
  obtain ⟨T50, h50, X50, e50, W50, V50, st50⟩ := f49.stI X46 hx hZ e46 (j := (3 : Int32)) (by decide) (g := (mkF m 131 #[.val (.ref t), .val (.ref x), .val (.ref y), .val cw, .val (.ref d2), .val (.int hm9), .val (.int sz14), .val (.int (1 : Int32)), .val (.ref d24), .val (.int (Int32.ofNat p0))] [(.int ((Int32.ofNat p0) + (Int32.ofNat (oU2 f)))), (.int (3 : Int32)), (.ref bo)])) rfl rfl (hb hby d14_131)
  refine oOn st50 ?_
  have z51 : h44.size ≤ h50.size := Nat.le_of_eq W50.size.symm
  have N50 := Fr.snoc X50 N44 (by omega)
  show oGl p e below (T50.setTop (mkF m 132 #[.val (.ref t), .val (.ref x), .val (.ref y), .val cw, .val (.ref d2), .val (.int hm9), .val (.int sz14), .val (.int (1 : Int32)), .val (.ref d24), .val (.int (Int32.ofNat p0))] [])) _
  refine saloadN X50 hx (hb hby d14_132) rfl rfl rfl (pc' := 133) ?_
  have f53 := (f47.other W50 (Or.inl (oNe (by omega))))
  obtain ⟨T52, X52, e52, st52⟩ := getF X50 hx hZ hown (host := "") (Or.inl (hw _ (List.mem_of_getElem? (i := 73) rfl))) Via.refl e50 f53 (g := (mkF m 133 #[.val (.ref t), .val (.ref x), .val (.ref y), .val cw, .val (.ref d2), .val (.int hm9), .val (.int sz14), .val (.int (1 : Int32)), .val (.ref d24), .val (.int (Int32.ofNat p0))] [(.ref t)])) rfl rfl (hb hby d14_133)
  refine oOn st52 ?_
  show oGl p e below (T52.setTop (mkF m 136 #[.val (.ref t), .val (.ref x), .val (.ref y), .val cw, .val (.ref d2), .val (.int hm9), .val (.int sz14), .val (.int (1 : Int32)), .val (.ref d24), .val (.int (Int32.ofNat p0))] [(.ref bo)])) _
  refine siconst X52 hx (hb hby d14_136) rfl rfl (z := 2) (pc' := 137) ?_
  refine siload X52 hx (hb hby d14_137) rfl rfl (pc' := 139) ?_
  refine simul X52 hx (hb hby d14_139) rfl (by decide) (z := (2 : Int32)) (pc' := 140) ?_
  refine siconst X52 hx (hb hby d14_140) rfl rfl (z := 2) (pc' := 141) ?_
  refine siadd X52 hx (hb hby d14_141) rfl (by decide) (z := (4 : Int32)) (pc' := 142) ?_
  refine siload X52 hx (hb hby d14_142) rfl rfl (pc' := 144) ?_
  refine saload X52 hx (hb hby d14_144) rfl rfl rfl (pc' := 146) ?_
  have f54 := (f48.other W50 (oNe (by omega)))
  refine oOn (f54.len X52 hx hZ e52 (g := (mkF m 146 #[.val (.ref t), .val (.ref x), .val (.ref y), .val cw, .val (.ref d2), .val (.int hm9), .val (.int sz14), .val (.int (1 : Int32)), .val (.ref d24), .val (.int (Int32.ofNat p0))] [(.ref d2), (.int (Int32.ofNat p0)), (.int (4 : Int32)), (.ref bo)])) rfl rfl (hb hby d14_146)) ?_
  show oGl p e below (T52.setTop (mkF m 147 #[.val (.ref t), .val (.ref x), .val (.ref y), .val cw, .val (.ref d2), .val (.int hm9), .val (.int sz14), .val (.int (1 : Int32)), .val (.ref d24), .val (.int (Int32.ofNat p0))] [(.int (Int32.ofNat (oU2 f))), (.int (Int32.ofNat p0)), (.int (4 : Int32)), (.ref bo)])) _
  refine siadd X52 hx (hb hby d14_147) rfl rfl (pc' := 148) ?_
  refine saload X52 hx (hb hby d14_148) rfl rfl rfl (pc' := 150) ?_
  have f55 := ((f43.keep K44 (ninS (oNe (by omega)) nin0)).other W50 (oNe (by omega)))
  refine oOn (f55.len X52 hx hZ e52 (g := (mkF m 150 #[.val (.ref t), .val (.ref x), .val (.ref y), .val cw, .val (.ref d2), .val (.int hm9), .val (.int sz14), .val (.int (1 : Int32)), .val (.ref d24), .val (.int (Int32.ofNat p0))] [(.ref d24), (.int ((Int32.ofNat p0) + (Int32.ofNat (oU2 f)))), (.int (4 : Int32)), (.ref bo)])) rfl rfl (hb hby d14_150)) ?_
  show oGl p e below (T52.setTop (mkF m 151 #[.val (.ref t), .val (.ref x), .val (.ref y), .val cw, .val (.ref d2), .val (.int hm9), .val (.int sz14), .val (.int (1 : Int32)), .val (.ref d24), .val (.int (Int32.ofNat p0))] [(.int (Int32.ofNat (oU1 g))), (.int ((Int32.ofNat p0) + (Int32.ofNat (oU2 f)))), (.int (4 : Int32)), (.ref bo)])) _
  refine siadd X52 hx (hb hby d14_151) rfl rfl (pc' := 152) ?_
  obtain ⟨T56, h56, X56, e56, W56, V56, st56⟩ := V50.stI X52 hx hZ e52 (j := (4 : Int32)) (by decide) (g := (mkF m 152 #[.val (.ref t), .val (.ref x), .val (.ref y), .val cw, .val (.ref d2), .val (.int hm9), .val (.int sz14), .val (.int (1 : Int32)), .val (.ref d24), .val (.int (Int32.ofNat p0))] [(.int (((Int32.ofNat p0) + (Int32.ofNat (oU2 f))) + (Int32.ofNat (oU1 g)))), (.int (4 : Int32)), (.ref bo)])) rfl rfl (hb hby d14_152)
  refine oOn st56 ?_
  have z57 : h50.size ≤ h56.size := Nat.le_of_eq W56.size.symm
  have N56 := Fr.snoc X56 N50 (by omega)
  show oGl p e below (T56.setTop (mkF m 153 #[.val (.ref t), .val (.ref x), .val (.ref y), .val cw, .val (.ref d2), .val (.int hm9), .val (.int sz14), .val (.int (1 : Int32)), .val (.ref d24), .val (.int (Int32.ofNat p0))] [])) _
  refine saloadN X56 hx (hb hby d14_153) rfl rfl hcw (pc' := 154) ?_
  rcases hct with ⟨rfl, rfl⟩ | ⟨xc, oo, rfl, hoo, rfl, Exc, Fxc, hel⟩
  · skip
    refine sifnullY X56 hx (hb hby d14_154) (by decide) (by decide)  (pc' := 171) ?_
    refine saloadN X56 hx (hb hby d14_171) rfl rfl rfl (pc' := 172) ?_
    have f59 := (((((f6.keep K24 nin0).keep K38 (ninS (oNe (by omega)) nin0)).keep K44 (ninS (oNe (by omega)) nin0)).other W50 (Or.inl (oNe (by omega)))).other W56 (Or.inl (oNe (by omega))))
    obtain ⟨T58, X58, e58, st58⟩ := getF X56 hx hZ hown (host := "") (Or.inl (hw _ (List.mem_of_getElem? (i := 79) rfl))) Via.refl e56 f59 (g := (mkF m 172 #[.val (.ref t), .val (.ref x), .val (.ref y), .val .null, .val (.ref d2), .val (.int hm9), .val (.int sz14), .val (.int (1 : Int32)), .val (.ref d24), .val (.int (Int32.ofNat p0))] [(.ref t)])) rfl rfl (hb hby d14_172)
    refine oOn st58 ?_
    show oGl p e below (T58.setTop (mkF m 175 #[.val (.ref t), .val (.ref x), .val (.ref y), .val .null, .val (.ref d2), .val (.int hm9), .val (.int sz14), .val (.int (1 : Int32)), .val (.ref d24), .val (.int (Int32.ofNat p0))] [(.ref sl)])) _
    refine siload X58 hx (hb hby d14_175) rfl rfl (pc' := 177) ?_
    refine siload X58 hx (hb hby d14_177) rfl rfl (pc' := 179) ?_
    refine siconst X58 hx (hb hby d14_179) rfl rfl (z := 1) (pc' := 180) ?_
    refine siadd X58 hx (hb hby d14_180) rfl (by decide) (z := (2 : Int32)) (pc' := 181) ?_
    have f60 := (((((f8.keep K24 nin0).keep K38 (ninS (oNe (by omega)) nin0)).keep K44 (ninS (oNe (by omega)) nin0)).other W50 (oNe (by omega))).other W56 (oNe (by omega)))
    obtain ⟨T61, h61, X61, e61, W61, V61, st61⟩ := f60.stI X58 hx hZ e58 (j := sz14) hs14_ (g := (mkF m 181 #[.val (.ref t), .val (.ref x), .val (.ref y), .val .null, .val (.ref d2), .val (.int hm9), .val (.int sz14), .val (.int (1 : Int32)), .val (.ref d24), .val (.int (Int32.ofNat p0))] [(.int (2 : Int32)), (.int sz14), (.ref sl)])) rfl rfl (hb hby d14_181)
    refine oOn st61 ?_
    have z62 : h56.size ≤ h61.size := Nat.le_of_eq W61.size.symm
    have N61 := Fr.snoc X61 N56 (by omega)
    show oGl p e below (T61.setTop (mkF m 182 #[.val (.ref t), .val (.ref x), .val (.ref y), .val .null, .val (.ref d2), .val (.int hm9), .val (.int sz14), .val (.int (1 : Int32)), .val (.ref d24), .val (.int (Int32.ofNat p0))] [])) _
    refine saloadN X61 hx (hb hby d14_182) rfl rfl rfl (pc' := 183) ?_
    refine sdup X61 hx (hb hby d14_183) rfl rfl (pc' := 184) ?_
    have f64 := (((((f30.keep K38 (ninS (oNe (by omega)) nin0)).keep K44 (ninS (oNe (by omega)) nin0)).other W50 (Or.inl (oNe (by omega)))).other W56 (Or.inl (oNe (by omega)))).other W61 (Or.inl (oNe (by omega))))
    obtain ⟨T63, X63, e63, st63⟩ := getF X61 hx hZ hown (host := "") (Or.inl (hw _ (List.mem_of_getElem? (i := 69) rfl))) Via.refl e61 f64 (g := (mkF m 184 #[.val (.ref t), .val (.ref x), .val (.ref y), .val .null, .val (.ref d2), .val (.int hm9), .val (.int sz14), .val (.int (1 : Int32)), .val (.ref d24), .val (.int (Int32.ofNat p0))] [(.ref t), (.ref t)])) rfl rfl (hb hby d14_184)
    refine oOn st63 ?_
    show oGl p e below (T63.setTop (mkF m 187 #[.val (.ref t), .val (.ref x), .val (.ref y), .val .null, .val (.ref d2), .val (.int hm9), .val (.int sz14), .val (.int (1 : Int32)), .val (.ref d24), .val (.int (Int32.ofNat p0))] [(.int (1 : Int32)), (.ref t)])) _
    refine siconst X63 hx (hb hby d14_187) rfl rfl (z := 1) (pc' := 188) ?_
    refine siadd X63 hx (hb hby d14_188) rfl (by decide) (z := (2 : Int32)) (pc' := 189) ?_
    have f66 := (((((f35.keep K38).keep K44).wr W50).wr W56).wr W61)
    obtain ⟨T65, h65, X65, e65, W65, st65⟩ := putF X63 hx hZ hown (host := "") (Or.inl (hw _ (List.mem_of_getElem? (i := 69) rfl))) Via.refl e63 f64 f66 (Or.inl (hw _ (List.mem_of_getElem? (i := 70) rfl))) (hw _ (List.mem_of_getElem? (i := 52) rfl)) (ty := .int) (by decide) rfl rfl (g := (mkF m 189 #[.val (.ref t), .val (.ref x), .val (.ref y), .val .null, .val (.ref d2), .val (.int hm9), .val (.int sz14), .val (.int (1 : Int32)), .val (.ref d24), .val (.int (Int32.ofNat p0))] [(.int (2 : Int32)), (.ref t)])) rfl rfl (hb hby d14_189)
    refine oOn st65 ?_
    have z67 : h61.size ≤ h65.size := Nat.le_of_eq W65.size.symm
    have N65 := Fr.snoc X65 N61 (by omega)
    have f65 := Fld.same W65 f64
    show oGl p e below (T65.setTop (mkF m 192 #[.val (.ref t), .val (.ref x), .val (.ref y), .val .null, .val (.ref d2), .val (.int hm9), .val (.int sz14), .val (.int (1 : Int32)), .val (.ref d24), .val (.int (Int32.ofNat p0))] [])) _
    refine siconst X65 hx (hb hby d14_192) rfl rfl (z := 2) (pc' := 193) ?_
    refine saloadN X65 hx (hb hby d14_193) rfl rfl rfl (pc' := 194) ?_
    obtain ⟨T68, X68, e68, st68⟩ := getF X65 hx hZ hown (host := "") (Or.inl (hw _ (List.mem_of_getElem? (i := 69) rfl))) Via.refl e65 f65 (g := (mkF m 194 #[.val (.ref t), .val (.ref x), .val (.ref y), .val .null, .val (.ref d2), .val (.int hm9), .val (.int sz14), .val (.int (1 : Int32)), .val (.ref d24), .val (.int (Int32.ofNat p0))] [(.ref t), (.int (2 : Int32))])) rfl rfl (hb hby d14_194)
    refine oOn st68 ?_
    show oGl p e below (T68.setTop (mkF m 197 #[.val (.ref t), .val (.ref x), .val (.ref y), .val .null, .val (.ref d2), .val (.int hm9), .val (.int sz14), .val (.int (1 : Int32)), .val (.ref d24), .val (.int (Int32.ofNat p0))] [(.int (2 : Int32)), (.int (2 : Int32))])) _
    refine simul X68 hx (hb hby d14_197) rfl (by decide) (z := (4 : Int32)) (pc' := 198) ?_
    refine saloadN X68 hx (hb hby d14_198) rfl rfl rfl (pc' := 199) ?_
    have f70 := ((f59.other W61 (Or.inl (oNe (by omega)))).other W65 (Or.inr (slot_ne (Or.inl (hw _ (List.mem_of_getElem? (i := 80) rfl))) (Or.inl (hw _ (List.mem_of_getElem? (i := 70) rfl))) (by decide) (t := (.array .int)) (t' := .int) (by decide) (by decide))))
    obtain ⟨T69, X69, e69, st69⟩ := getF X68 hx hZ hown (host := "") (Or.inl (hw _ (List.mem_of_getElem? (i := 79) rfl))) Via.refl e68 f70 (g := (mkF m 199 #[.val (.ref t), .val (.ref x), .val (.ref y), .val .null, .val (.ref d2), .val (.int hm9), .val (.int sz14), .val (.int (1 : Int32)), .val (.ref d24), .val (.int (Int32.ofNat p0))] [(.ref t), (.int (4 : Int32))])) rfl rfl (hb hby d14_199)
    refine oOn st69 ?_
    show oGl p e below (T69.setTop (mkF m 202 #[.val (.ref t), .val (.ref x), .val (.ref y), .val .null, .val (.ref d2), .val (.int hm9), .val (.int sz14), .val (.int (1 : Int32)), .val (.ref d24), .val (.int (Int32.ofNat p0))] [(.ref sl), (.int (4 : Int32))])) _
    have f71 := (V61.other W65 (oNe (by omega)))
    refine oOn (f71.len X69 hx hZ e69 (g := (mkF m 202 #[.val (.ref t), .val (.ref x), .val (.ref y), .val .null, .val (.ref d2), .val (.int hm9), .val (.int sz14), .val (.int (1 : Int32)), .val (.ref d24), .val (.int (Int32.ofNat p0))] [(.ref sl), (.int (4 : Int32))])) rfl rfl (hb hby d14_202)) ?_
    show oGl p e below (T69.setTop (mkF m 203 #[.val (.ref t), .val (.ref x), .val (.ref y), .val .null, .val (.ref d2), .val (.int hm9), .val (.int sz14), .val (.int (1 : Int32)), .val (.ref d24), .val (.int (Int32.ofNat p0))] [(.int (16 : Int32)), (.int (4 : Int32))])) _
    refine sicY X69 hx (hb hby d14_203) (by decide) (by decide) (flt (by decide : ¬ ((16 : Int32) < (4 : Int32)))).2.2.2 (pc' := 220) ?_
    refine siload X69 hx (hb hby d14_220) rfl rfl (pc' := 222) ?_
    refine siload X69 hx (hb hby d14_222) rfl rfl (pc' := 224) ?_
    refine sisub X69 hx (hb hby d14_224) rfl rfl (pc' := 225) ?_
    refine saloadN X69 hx (hb hby d14_225) rfl rfl rfl (pc' := 226) ?_
    obtain ⟨T72, X72, e72, st72⟩ := getF X69 hx hZ hown (host := "") (Or.inl (hw _ (List.mem_of_getElem? (i := 79) rfl))) Via.refl e69 f70 (g := (mkF m 226 #[.val (.ref t), .val (.ref x), .val (.ref y), .val .null, .val (.ref d2), .val (.int hm9), .val (.int sz14), .val (.int (1 : Int32)), .val (.ref d24), .val (.int (Int32.ofNat p0))] [(.ref t), (.int (sz14 - hm9))])) rfl rfl (hb hby d14_226)
    refine oOn st72 ?_
    show oGl p e below (T72.setTop (mkF m 229 #[.val (.ref t), .val (.ref x), .val (.ref y), .val .null, .val (.ref d2), .val (.int hm9), .val (.int sz14), .val (.int (1 : Int32)), .val (.ref d24), .val (.int (Int32.ofNat p0))] [(.ref sl), (.int (sz14 - hm9))])) _
    refine oOn (f71.len X72 hx hZ e72 (g := (mkF m 229 #[.val (.ref t), .val (.ref x), .val (.ref y), .val .null, .val (.ref d2), .val (.int hm9), .val (.int sz14), .val (.int (1 : Int32)), .val (.ref d24), .val (.int (Int32.ofNat p0))] [(.ref sl), (.int (sz14 - hm9))])) rfl rfl (hb hby d14_229)) ?_
    show oGl p e below (T72.setTop (mkF m 230 #[.val (.ref t), .val (.ref x), .val (.ref y), .val .null, .val (.ref d2), .val (.int hm9), .val (.int sz14), .val (.int (1 : Int32)), .val (.ref d24), .val (.int (Int32.ofNat p0))] [(.int (16 : Int32)), (.int (sz14 - hm9))])) _
    refine siconst X72 hx (hb hby d14_230) rfl rfl (z := 1) (pc' := 231) ?_
    refine sisub X72 hx (hb hby d14_231) rfl (by decide) (z := (15 : Int32)) (pc' := 232) ?_
    refine siand X72 hx (hb hby d14_232) rfl rfl (pc' := 233) ?_
    refine saloadN X72 hx (hb hby d14_233) rfl rfl rfl (pc' := 234) ?_
    have f74 := ((((((((t7.keep K2 nin0).keep K24 nin0).keep K38 (ninS (oNe (by omega)) nin0)).keep K44 (ninS (oNe (by omega)) nin0)).other W50 (Or.inl (oNe (by omega)))).other W56 (Or.inl (oNe (by omega)))).other W61 (Or.inl (oNe (by omega)))).other W65 (Or.inr (slot_ne (Or.inl (hw _ (List.mem_of_getElem? (i := 66) rfl))) (Or.inl (hw _ (List.mem_of_getElem? (i := 70) rfl))) (by decide) (t := .int) (t' := .int) (by decide) (by decide))))
    obtain ⟨T73, X73, e73, st73⟩ := getF X72 hx hZ hown (host := "") (Or.inl (hw _ (List.mem_of_getElem? (i := 65) rfl))) Via.refl e72 f74 (g := (mkF m 234 #[.val (.ref t), .val (.ref x), .val (.ref y), .val .null, .val (.ref d2), .val (.int hm9), .val (.int sz14), .val (.int (1 : Int32)), .val (.ref d24), .val (.int (Int32.ofNat p0))] [(.ref t), (.int ((sz14 - hm9) &&& (15 : Int32)))])) rfl rfl (hb hby d14_234)
    refine oOn st73 ?_
    show oGl p e below (T73.setTop (mkF m 237 #[.val (.ref t), .val (.ref x), .val (.ref y), .val .null, .val (.ref d2), .val (.int hm9), .val (.int sz14), .val (.int (1 : Int32)), .val (.ref d24), .val (.int (Int32.ofNat p0))] [(.int (64 : Int32)), (.int ((sz14 - hm9) &&& (15 : Int32)))])) _
    refine sicY X73 hx (hb hby d14_237) (by decide) (by decide) (flt (own_a64 _ : ¬ ((64 : Int32) < ((sz14 - hm9) &&& (15 : Int32))))).2.2.2 (pc' := 244) ?_
    refine siload X73 hx (hb hby d14_244) rfl rfl (pc' := 246) ?_
    have f75 := ((((((f33.keep K38 (ninS (oNe (by omega)) nin0)).keep K44 (ninS (oNe (by omega)) nin0)).other W50 (oNe (by omega))).other W56 (oNe (by omega))).other W61 (oNe (by omega))).other W65 (oNe (by omega)))
    have kp76 : Keep h0 h65 [t, tx, bo, ca, sl] := (((((((((Keep.refl h0 [t, tx, bo, ca, sl]).trans K2 all0).trans K24 all0).trans K38 (allS (Or.inl (List.mem_of_getElem? (i := 1) rfl)) all0)).trans K44 (allS (Or.inl (List.mem_of_getElem? (i := 1) rfl)) all0)).wr W50 (Or.inl (List.mem_of_getElem? (i := 2) rfl))).wr W56 (Or.inl (List.mem_of_getElem? (i := 2) rfl))).wr W61 (Or.inl (List.mem_of_getElem? (i := 4) rfl))).wr W65 (Or.inl (List.mem_of_getElem? (i := 0) rfl)))
    have f77 := (f66.wr W65)
    have f78 := (((((f41.keep K44 (ninS (oNe (by omega)) nin0)).other W50 (Or.inl (oNe (by omega)))).other W56 (Or.inl (oNe (by omega)))).other W61 (Or.inl (oNe (by omega)))).other W65 (Or.inr (slot_ne (Or.inl (hw _ (List.mem_of_getElem? (i := 72) rfl))) (Or.inl (hw _ (List.mem_of_getElem? (i := 70) rfl))) (by decide) (t := (.array .byte)) (t' := .int) (by decide) (by decide))))
    have f79 := (((f53.other W56 (Or.inl (oNe (by omega)))).other W61 (Or.inl (oNe (by omega)))).other W65 (Or.inr (slot_ne (Or.inl (hw _ (List.mem_of_getElem? (i := 74) rfl))) (Or.inl (hw _ (List.mem_of_getElem? (i := 70) rfl))) (by decide) (t := (.array .int)) (t' := .int) (by decide) (by decide))))
    have f80 := ((((((f29.keep K38 (ninS (oNe (by omega)) nin0)).keep K44 (ninS (oNe (by omega)) nin0)).other W50 (Or.inl (oNe (by omega)))).other W56 (Or.inl (oNe (by omega)))).other W61 (Or.inl (oNe (by omega)))).other W65 (Or.inr (slot_ne (Or.inl (hw _ (List.mem_of_getElem? (i := 76) rfl))) (Or.inl (hw _ (List.mem_of_getElem? (i := 70) rfl))) (by decide) (t := (.array .byte)) (t' := .int) (by decide) (by decide))))
    have f81 := (((((((f7.keep K24 nin0).keep K38 (ninS (oNe (by omega)) nin0)).keep K44 (ninS (oNe (by omega)) nin0)).other W50 (Or.inl (oNe (by omega)))).other W56 (Or.inl (oNe (by omega)))).other W61 (Or.inl (oNe (by omega)))).other W65 (Or.inr (slot_ne (Or.inl (hw _ (List.mem_of_getElem? (i := 82) rfl))) (Or.inl (hw _ (List.mem_of_getElem? (i := 70) rfl))) (by decide) (t := (.object "com/example/yusen_ledger/yusenledger/SipHash")) (t' := .int) (by decide) (by decide))))
    refine oRetI X73 hx Bd.notSynchronized Bd.returns (hb hby d14_246) (by decide) (by decide) ?_
    show Q_rmAdd1 Z t tx bo ca sl ha x b y eb p0 f g ft fb fc cl .null (0 : Int32) u cz s0 mm h0 n0 _ T73.heap _
    rw [e73]
    exact ⟨rfl, N65, kp76, f77, f78, f79, f80, f70, f81, f65, f74, ⟨_, f75, hfc, fun j hj => rfl⟩⟩
  · skip
    refine sifnullN X56 hx (hb hby d14_154) rfl  (pc' := 157) ?_
    refine saloadN X56 hx (hb hby d14_157) rfl rfl rfl (pc' := 158) ?_
    have f83 := ((((f29.keep K38 (ninS (oNe (by omega)) nin0)).keep K44 (ninS (oNe (by omega)) nin0)).other W50 (Or.inl (oNe (by omega)))).other W56 (Or.inl (oNe (by omega))))
    obtain ⟨T82, X82, e82, st82⟩ := getF X56 hx hZ hown (host := "") (Or.inl (hw _ (List.mem_of_getElem? (i := 75) rfl))) Via.refl e56 f83 (g := (mkF m 158 #[.val (.ref t), .val (.ref x), .val (.ref y), .val (.ref xc), .val (.ref d2), .val (.int hm9), .val (.int sz14), .val (.int (1 : Int32)), .val (.ref d24), .val (.int (Int32.ofNat p0))] [(.ref t)])) rfl rfl (hb hby d14_158)
    refine oOn st82 ?_
    show oGl p e below (T82.setTop (mkF m 161 #[.val (.ref t), .val (.ref x), .val (.ref y), .val (.ref xc), .val (.ref d2), .val (.int hm9), .val (.int sz14), .val (.int (1 : Int32)), .val (.ref d24), .val (.int (Int32.ofNat p0))] [(.ref ca)])) _
    refine siload X82 hx (hb hby d14_161) rfl rfl (pc' := 163) ?_
    refine saloadN X82 hx (hb hby d14_163) rfl rfl rfl (pc' := 164) ?_
    have f84 := (((((f4.keep K24 all0).keep K38 (allS (by omega) all0)).keep K44 (allS (by omega) all0)).wr W50 (by omega)).wr W56 (by omega))
    have hz85 : n0 ≤ h56.size := by omega
    obtain ⟨cq85, kq85, q85a, q85b, q85c⟩ := isOf hZ e82 (Exc.ext f84.2)
    obtain ⟨_, _, ⟨T85, L85, k85, n85⟩, -, X85, ⟨Lc85, hQ85, l85, y85, z85⟩, st85⟩ := X82.virtualBackUp hx (x := (⟨"com/example/yusen_ledger/yusenledger/HolderCategory", "ordinal", "()I"⟩ : MethodName)) (y := (⟨"java/lang/Enum", "ordinal", "()I"⟩ : MethodName)) (owner := "java/lang/Enum") hown (mvT hZ (hw _ (List.mem_of_getElem? (i := 163) rfl))) (mvT hZ (hw _ (List.mem_of_getElem? (i := 164) rfl))) (mvT hZ (hw _ (List.mem_of_getElem? (i := 165) rfl))) (by decide) (mvT hZ (hw _ (List.mem_of_getElem? (i := 167) rfl))) (mvT hZ (hw _ (List.mem_of_getElem? (i := 166) rfl))) (backOf (W := 2) (rmOrd l Z a0 hw [] xc oo h56 n0 hz85 (Fxc.ext f84.2)) hZ (hw _ (List.mem_of_getElem? (i := 169) rfl)) (hw _ (List.mem_of_getElem? (i := 168) rfl)) (by decide) (by decide)) q85a q85c (g := (mkF m 164 #[.val (.ref t), .val (.ref x), .val (.ref y), .val (.ref xc), .val (.ref d2), .val (.int hm9), .val (.int sz14), .val (.int (1 : Int32)), .val (.ref d24), .val (.int (Int32.ofNat p0))] [(.ref xc), (.int (1 : Int32)), (.ref ca)])) rfl (by rw [hml]; rfl) (Steps.refl _) (argsL := []) (rest := [(.int (1 : Int32)), (.ref ca)]) (lenOf pd_25 rfl) rfl (by show 2 * 0 + _ ≤ _; exact Nat.le_of_eq rfl) (hb hby d14_164) (fun _ _ => ⟨rfl, e82, (by decide : 3 + 0 ≤ _), (by decide : 9 + 0 ≤ _)⟩)
    dsimp only [Pt.U, Pt.locs, Pt.cells, Pt.slots] at X85 l85 y85 z85 st85 hQ85
    subst l85 y85 z85
    obtain ⟨rfl, N85q, eh85⟩ := hQ85
    have N85 := Fr.app N56 N85q
    refine oSt st85 ?_
    show oGl p e below (T85.setTop (mkF m 167 #[.val (.ref t), .val (.ref x), .val (.ref y), .val (.ref xc), .val (.ref d2), .val (.int hm9), .val (.int sz14), .val (.int (1 : Int32)), .val (.ref d24), .val (.int (Int32.ofNat p0))] [(.int oo), (.int (1 : Int32)), (.ref ca)])) _
    refine siconst X85 hx (hb hby d14_167) rfl rfl (z := 1) (pc' := 168) ?_
    refine siadd X85 hx (hb hby d14_168) rfl rfl (pc' := 169) ?_
    refine si2b X85 hx (hb hby d14_169) rfl rfl (pc' := 170) ?_
    have f86 := ((((f33.keep K38 (ninS (oNe (by omega)) nin0)).keep K44 (ninS (oNe (by omega)) nin0)).other W50 (oNe (by omega))).other W56 (oNe (by omega)))
    obtain ⟨T87, h87, X87, e87, W87, V87, st87⟩ := f86.stB X85 hx hZ eh85 (j := (1 : Int32)) (by decide) (g := (mkF m 170 #[.val (.ref t), .val (.ref x), .val (.ref y), .val (.ref xc), .val (.ref d2), .val (.int hm9), .val (.int sz14), .val (.int (1 : Int32)), .val (.ref d24), .val (.int (Int32.ofNat p0))] [(.int (((oo + (1 : Int32))).toInt8.toInt32)), (.int (1 : Int32)), (.ref ca)])) rfl rfl (hb hby d14_170)
    refine oOn st87 ?_
    have z88 : h56.size ≤ h87.size := Nat.le_of_eq W87.size.symm
    have N87 := Fr.snoc X87 N85 (by omega)
    show oGl p e below (T87.setTop (mkF m 171 #[.val (.ref t), .val (.ref x), .val (.ref y), .val (.ref xc), .val (.ref d2), .val (.int hm9), .val (.int sz14), .val (.int (1 : Int32)), .val (.ref d24), .val (.int (Int32.ofNat p0))] [])) _
    refine saloadN X87 hx (hb hby d14_171) rfl rfl rfl (pc' := 172) ?_
    have f90 := ((((((f6.keep K24 nin0).keep K38 (ninS (oNe (by omega)) nin0)).keep K44 (ninS (oNe (by omega)) nin0)).other W50 (Or.inl (oNe (by omega)))).other W56 (Or.inl (oNe (by omega)))).other W87 (Or.inl (oNe (by omega))))
    obtain ⟨T89, X89, e89, st89⟩ := getF X87 hx hZ hown (host := "") (Or.inl (hw _ (List.mem_of_getElem? (i := 79) rfl))) Via.refl e87 f90 (g := (mkF m 172 #[.val (.ref t), .val (.ref x), .val (.ref y), .val (.ref xc), .val (.ref d2), .val (.int hm9), .val (.int sz14), .val (.int (1 : Int32)), .val (.ref d24), .val (.int (Int32.ofNat p0))] [(.ref t)])) rfl rfl (hb hby d14_172)
    refine oOn st89 ?_
    show oGl p e below (T89.setTop (mkF m 175 #[.val (.ref t), .val (.ref x), .val (.ref y), .val (.ref xc), .val (.ref d2), .val (.int hm9), .val (.int sz14), .val (.int (1 : Int32)), .val (.ref d24), .val (.int (Int32.ofNat p0))] [(.ref sl)])) _
    refine siload X89 hx (hb hby d14_175) rfl rfl (pc' := 177) ?_
    refine siload X89 hx (hb hby d14_177) rfl rfl (pc' := 179) ?_
    refine siconst X89 hx (hb hby d14_179) rfl rfl (z := 1) (pc' := 180) ?_
    refine siadd X89 hx (hb hby d14_180) rfl (by decide) (z := (2 : Int32)) (pc' := 181) ?_
    have f91 := ((((((f8.keep K24 nin0).keep K38 (ninS (oNe (by omega)) nin0)).keep K44 (ninS (oNe (by omega)) nin0)).other W50 (oNe (by omega))).other W56 (oNe (by omega))).other W87 (oNe (by omega)))
    obtain ⟨T92, h92, X92, e92, W92, V92, st92⟩ := f91.stI X89 hx hZ e89 (j := sz14) hs14_ (g := (mkF m 181 #[.val (.ref t), .val (.ref x), .val (.ref y), .val (.ref xc), .val (.ref d2), .val (.int hm9), .val (.int sz14), .val (.int (1 : Int32)), .val (.ref d24), .val (.int (Int32.ofNat p0))] [(.int (2 : Int32)), (.int sz14), (.ref sl)])) rfl rfl (hb hby d14_181)
    refine oOn st92 ?_
    have z93 : h87.size ≤ h92.size := Nat.le_of_eq W92.size.symm
    have N92 := Fr.snoc X92 N87 (by omega)
    show oGl p e below (T92.setTop (mkF m 182 #[.val (.ref t), .val (.ref x), .val (.ref y), .val (.ref xc), .val (.ref d2), .val (.int hm9), .val (.int sz14), .val (.int (1 : Int32)), .val (.ref d24), .val (.int (Int32.ofNat p0))] [])) _
    refine saloadN X92 hx (hb hby d14_182) rfl rfl rfl (pc' := 183) ?_
    refine sdup X92 hx (hb hby d14_183) rfl rfl (pc' := 184) ?_
    have f95 := ((((((f30.keep K38 (ninS (oNe (by omega)) nin0)).keep K44 (ninS (oNe (by omega)) nin0)).other W50 (Or.inl (oNe (by omega)))).other W56 (Or.inl (oNe (by omega)))).other W87 (Or.inl (oNe (by omega)))).other W92 (Or.inl (oNe (by omega))))
    obtain ⟨T94, X94, e94, st94⟩ := getF X92 hx hZ hown (host := "") (Or.inl (hw _ (List.mem_of_getElem? (i := 69) rfl))) Via.refl e92 f95 (g := (mkF m 184 #[.val (.ref t), .val (.ref x), .val (.ref y), .val (.ref xc), .val (.ref d2), .val (.int hm9), .val (.int sz14), .val (.int (1 : Int32)), .val (.ref d24), .val (.int (Int32.ofNat p0))] [(.ref t), (.ref t)])) rfl rfl (hb hby d14_184)
    refine oOn st94 ?_
    show oGl p e below (T94.setTop (mkF m 187 #[.val (.ref t), .val (.ref x), .val (.ref y), .val (.ref xc), .val (.ref d2), .val (.int hm9), .val (.int sz14), .val (.int (1 : Int32)), .val (.ref d24), .val (.int (Int32.ofNat p0))] [(.int (1 : Int32)), (.ref t)])) _
    refine siconst X94 hx (hb hby d14_187) rfl rfl (z := 1) (pc' := 188) ?_
    refine siadd X94 hx (hb hby d14_188) rfl (by decide) (z := (2 : Int32)) (pc' := 189) ?_
    have f97 := ((((((f35.keep K38).keep K44).wr W50).wr W56).wr W87).wr W92)
    obtain ⟨T96, h96, X96, e96, W96, st96⟩ := putF X94 hx hZ hown (host := "") (Or.inl (hw _ (List.mem_of_getElem? (i := 69) rfl))) Via.refl e94 f95 f97 (Or.inl (hw _ (List.mem_of_getElem? (i := 70) rfl))) (hw _ (List.mem_of_getElem? (i := 52) rfl)) (ty := .int) (by decide) rfl rfl (g := (mkF m 189 #[.val (.ref t), .val (.ref x), .val (.ref y), .val (.ref xc), .val (.ref d2), .val (.int hm9), .val (.int sz14), .val (.int (1 : Int32)), .val (.ref d24), .val (.int (Int32.ofNat p0))] [(.int (2 : Int32)), (.ref t)])) rfl rfl (hb hby d14_189)
    refine oOn st96 ?_
    have z98 : h92.size ≤ h96.size := Nat.le_of_eq W96.size.symm
    have N96 := Fr.snoc X96 N92 (by omega)
    have f96 := Fld.same W96 f95
    show oGl p e below (T96.setTop (mkF m 192 #[.val (.ref t), .val (.ref x), .val (.ref y), .val (.ref xc), .val (.ref d2), .val (.int hm9), .val (.int sz14), .val (.int (1 : Int32)), .val (.ref d24), .val (.int (Int32.ofNat p0))] [])) _
    refine siconst X96 hx (hb hby d14_192) rfl rfl (z := 2) (pc' := 193) ?_
    refine saloadN X96 hx (hb hby d14_193) rfl rfl rfl (pc' := 194) ?_
    obtain ⟨T99, X99, e99, st99⟩ := getF X96 hx hZ hown (host := "") (Or.inl (hw _ (List.mem_of_getElem? (i := 69) rfl))) Via.refl e96 f96 (g := (mkF m 194 #[.val (.ref t), .val (.ref x), .val (.ref y), .val (.ref xc), .val (.ref d2), .val (.int hm9), .val (.int sz14), .val (.int (1 : Int32)), .val (.ref d24), .val (.int (Int32.ofNat p0))] [(.ref t), (.int (2 : Int32))])) rfl rfl (hb hby d14_194)
    refine oOn st99 ?_
    show oGl p e below (T99.setTop (mkF m 197 #[.val (.ref t), .val (.ref x), .val (.ref y), .val (.ref xc), .val (.ref d2), .val (.int hm9), .val (.int sz14), .val (.int (1 : Int32)), .val (.ref d24), .val (.int (Int32.ofNat p0))] [(.int (2 : Int32)), (.int (2 : Int32))])) _
    refine simul X99 hx (hb hby d14_197) rfl (by decide) (z := (4 : Int32)) (pc' := 198) ?_
    refine saloadN X99 hx (hb hby d14_198) rfl rfl rfl (pc' := 199) ?_
    have f101 := ((f90.other W92 (Or.inl (oNe (by omega)))).other W96 (Or.inr (slot_ne (Or.inl (hw _ (List.mem_of_getElem? (i := 80) rfl))) (Or.inl (hw _ (List.mem_of_getElem? (i := 70) rfl))) (by decide) (t := (.array .int)) (t' := .int) (by decide) (by decide))))
    obtain ⟨T100, X100, e100, st100⟩ := getF X99 hx hZ hown (host := "") (Or.inl (hw _ (List.mem_of_getElem? (i := 79) rfl))) Via.refl e99 f101 (g := (mkF m 199 #[.val (.ref t), .val (.ref x), .val (.ref y), .val (.ref xc), .val (.ref d2), .val (.int hm9), .val (.int sz14), .val (.int (1 : Int32)), .val (.ref d24), .val (.int (Int32.ofNat p0))] [(.ref t), (.int (4 : Int32))])) rfl rfl (hb hby d14_199)
    refine oOn st100 ?_
    show oGl p e below (T100.setTop (mkF m 202 #[.val (.ref t), .val (.ref x), .val (.ref y), .val (.ref xc), .val (.ref d2), .val (.int hm9), .val (.int sz14), .val (.int (1 : Int32)), .val (.ref d24), .val (.int (Int32.ofNat p0))] [(.ref sl), (.int (4 : Int32))])) _
    have f102 := (V92.other W96 (oNe (by omega)))
    refine oOn (f102.len X100 hx hZ e100 (g := (mkF m 202 #[.val (.ref t), .val (.ref x), .val (.ref y), .val (.ref xc), .val (.ref d2), .val (.int hm9), .val (.int sz14), .val (.int (1 : Int32)), .val (.ref d24), .val (.int (Int32.ofNat p0))] [(.ref sl), (.int (4 : Int32))])) rfl rfl (hb hby d14_202)) ?_
    show oGl p e below (T100.setTop (mkF m 203 #[.val (.ref t), .val (.ref x), .val (.ref y), .val (.ref xc), .val (.ref d2), .val (.int hm9), .val (.int sz14), .val (.int (1 : Int32)), .val (.ref d24), .val (.int (Int32.ofNat p0))] [(.int (16 : Int32)), (.int (4 : Int32))])) _
    refine sicY X100 hx (hb hby d14_203) (by decide) (by decide) (flt (by decide : ¬ ((16 : Int32) < (4 : Int32)))).2.2.2 (pc' := 220) ?_
    refine siload X100 hx (hb hby d14_220) rfl rfl (pc' := 222) ?_
    refine siload X100 hx (hb hby d14_222) rfl rfl (pc' := 224) ?_
    refine sisub X100 hx (hb hby d14_224) rfl rfl (pc' := 225) ?_
    refine saloadN X100 hx (hb hby d14_225) rfl rfl rfl (pc' := 226) ?_
    obtain ⟨T103, X103, e103, st103⟩ := getF X100 hx hZ hown (host := "") (Or.inl (hw _ (List.mem_of_getElem? (i := 79) rfl))) Via.refl e100 f101 (g := (mkF m 226 #[.val (.ref t), .val (.ref x), .val (.ref y), .val (.ref xc), .val (.ref d2), .val (.int hm9), .val (.int sz14), .val (.int (1 : Int32)), .val (.ref d24), .val (.int (Int32.ofNat p0))] [(.ref t), (.int (sz14 - hm9))])) rfl rfl (hb hby d14_226)
    refine oOn st103 ?_
    show oGl p e below (T103.setTop (mkF m 229 #[.val (.ref t), .val (.ref x), .val (.ref y), .val (.ref xc), .val (.ref d2), .val (.int hm9), .val (.int sz14), .val (.int (1 : Int32)), .val (.ref d24), .val (.int (Int32.ofNat p0))] [(.ref sl), (.int (sz14 - hm9))])) _
    refine oOn (f102.len X103 hx hZ e103 (g := (mkF m 229 #[.val (.ref t), .val (.ref x), .val (.ref y), .val (.ref xc), .val (.ref d2), .val (.int hm9), .val (.int sz14), .val (.int (1 : Int32)), .val (.ref d24), .val (.int (Int32.ofNat p0))] [(.ref sl), (.int (sz14 - hm9))])) rfl rfl (hb hby d14_229)) ?_
    show oGl p e below (T103.setTop (mkF m 230 #[.val (.ref t), .val (.ref x), .val (.ref y), .val (.ref xc), .val (.ref d2), .val (.int hm9), .val (.int sz14), .val (.int (1 : Int32)), .val (.ref d24), .val (.int (Int32.ofNat p0))] [(.int (16 : Int32)), (.int (sz14 - hm9))])) _
    refine siconst X103 hx (hb hby d14_230) rfl rfl (z := 1) (pc' := 231) ?_
    refine sisub X103 hx (hb hby d14_231) rfl (by decide) (z := (15 : Int32)) (pc' := 232) ?_
    refine siand X103 hx (hb hby d14_232) rfl rfl (pc' := 233) ?_
    refine saloadN X103 hx (hb hby d14_233) rfl rfl rfl (pc' := 234) ?_
    have f105 := (((((((((t7.keep K2 nin0).keep K24 nin0).keep K38 (ninS (oNe (by omega)) nin0)).keep K44 (ninS (oNe (by omega)) nin0)).other W50 (Or.inl (oNe (by omega)))).other W56 (Or.inl (oNe (by omega)))).other W87 (Or.inl (oNe (by omega)))).other W92 (Or.inl (oNe (by omega)))).other W96 (Or.inr (slot_ne (Or.inl (hw _ (List.mem_of_getElem? (i := 66) rfl))) (Or.inl (hw _ (List.mem_of_getElem? (i := 70) rfl))) (by decide) (t := .int) (t' := .int) (by decide) (by decide))))
    obtain ⟨T104, X104, e104, st104⟩ := getF X103 hx hZ hown (host := "") (Or.inl (hw _ (List.mem_of_getElem? (i := 65) rfl))) Via.refl e103 f105 (g := (mkF m 234 #[.val (.ref t), .val (.ref x), .val (.ref y), .val (.ref xc), .val (.ref d2), .val (.int hm9), .val (.int sz14), .val (.int (1 : Int32)), .val (.ref d24), .val (.int (Int32.ofNat p0))] [(.ref t), (.int ((sz14 - hm9) &&& (15 : Int32)))])) rfl rfl (hb hby d14_234)
    refine oOn st104 ?_
    show oGl p e below (T104.setTop (mkF m 237 #[.val (.ref t), .val (.ref x), .val (.ref y), .val (.ref xc), .val (.ref d2), .val (.int hm9), .val (.int sz14), .val (.int (1 : Int32)), .val (.ref d24), .val (.int (Int32.ofNat p0))] [(.int (64 : Int32)), (.int ((sz14 - hm9) &&& (15 : Int32)))])) _
    refine sicY X104 hx (hb hby d14_237) (by decide) (by decide) (flt (own_a64 _ : ¬ ((64 : Int32) < ((sz14 - hm9) &&& (15 : Int32))))).2.2.2 (pc' := 244) ?_
    refine siload X104 hx (hb hby d14_244) rfl rfl (pc' := 246) ?_
    have f106 := ((V87.other W92 (oNe (by omega))).other W96 (oNe (by omega)))
    have kp107 : Keep h0 h96 [t, tx, bo, ca, sl] := ((((((((((Keep.refl h0 [t, tx, bo, ca, sl]).trans K2 all0).trans K24 all0).trans K38 (allS (Or.inl (List.mem_of_getElem? (i := 1) rfl)) all0)).trans K44 (allS (Or.inl (List.mem_of_getElem? (i := 1) rfl)) all0)).wr W50 (Or.inl (List.mem_of_getElem? (i := 2) rfl))).wr W56 (Or.inl (List.mem_of_getElem? (i := 2) rfl))).wr W87 (Or.inl (List.mem_of_getElem? (i := 3) rfl))).wr W92 (Or.inl (List.mem_of_getElem? (i := 4) rfl))).wr W96 (Or.inl (List.mem_of_getElem? (i := 0) rfl)))
    have f108 := (f97.wr W96)
    have f109 := ((((((f41.keep K44 (ninS (oNe (by omega)) nin0)).other W50 (Or.inl (oNe (by omega)))).other W56 (Or.inl (oNe (by omega)))).other W87 (Or.inl (oNe (by omega)))).other W92 (Or.inl (oNe (by omega)))).other W96 (Or.inr (slot_ne (Or.inl (hw _ (List.mem_of_getElem? (i := 72) rfl))) (Or.inl (hw _ (List.mem_of_getElem? (i := 70) rfl))) (by decide) (t := (.array .byte)) (t' := .int) (by decide) (by decide))))
    have f110 := ((((f53.other W56 (Or.inl (oNe (by omega)))).other W87 (Or.inl (oNe (by omega)))).other W92 (Or.inl (oNe (by omega)))).other W96 (Or.inr (slot_ne (Or.inl (hw _ (List.mem_of_getElem? (i := 74) rfl))) (Or.inl (hw _ (List.mem_of_getElem? (i := 70) rfl))) (by decide) (t := (.array .int)) (t' := .int) (by decide) (by decide))))
    have f111 := (((f83.other W87 (Or.inl (oNe (by omega)))).other W92 (Or.inl (oNe (by omega)))).other W96 (Or.inr (slot_ne (Or.inl (hw _ (List.mem_of_getElem? (i := 76) rfl))) (Or.inl (hw _ (List.mem_of_getElem? (i := 70) rfl))) (by decide) (t := (.array .byte)) (t' := .int) (by decide) (by decide))))
    have f112 := ((((((((f7.keep K24 nin0).keep K38 (ninS (oNe (by omega)) nin0)).keep K44 (ninS (oNe (by omega)) nin0)).other W50 (Or.inl (oNe (by omega)))).other W56 (Or.inl (oNe (by omega)))).other W87 (Or.inl (oNe (by omega)))).other W92 (Or.inl (oNe (by omega)))).other W96 (Or.inr (slot_ne (Or.inl (hw _ (List.mem_of_getElem? (i := 82) rfl))) (Or.inl (hw _ (List.mem_of_getElem? (i := 70) rfl))) (by decide) (t := (.object "com/example/yusen_ledger/yusenledger/SipHash")) (t' := .int) (by decide) (by decide))))
    refine oRetI X104 hx Bd.notSynchronized Bd.returns (hb hby d14_246) (by decide) (by decide) ?_
    show Q_rmAdd1 Z t tx bo ca sl ha x b y eb p0 f g ft fb fc cl (.ref xc) (oo + 1) u cz s0 mm h0 n0 _ T104.heap _
    rw [e104]
    exact ⟨rfl, N96, kp107, f108, f109, f110, f111, f101, f112, f96, f105, ⟨_, f106, oUp_hit.trans (own_ob hoo), fun j hj => oUp_miss hj⟩⟩
theorem oFitLo {n : Nat} {f : Nat → Int32} : oFit n (oLo f) := fun j _ => fits_nar_byte _
theorem pd_26 : parseMethodDescriptor "(I)Lcom/example/yusen_ledger/yusenledger/HolderCategory;" = some ⟨[.int], some (.object "com/example/yusen_ledger/yusenledger/HolderCategory")⟩ := by decide +kernel
theorem pd_27 : parseMethodDescriptor "(C)Ljava/lang/String;" = some ⟨[.char], some (.object "java/lang/String")⟩ := by decide +kernel
theorem pd_28 : parseMethodDescriptor "([C)V" = some ⟨[(.array .char)], none⟩ := by decide +kernel
theorem pd_29 : parseMethodDescriptor "(Ljava/lang/String;Ljava/lang/String;Lcom/example/yusen_ledger/yusenledger/HolderCategory;)I" = some ⟨[(.object "java/lang/String"), (.object "java/lang/String"), (.object "com/example/yusen_ledger/yusenledger/HolderCategory")], some .int⟩ := by decide +kernel
theorem ef_rmL (m : MethodId) (x0 : Int32) (x1 : Int32) (x2 : Int32) (x3 : Int32) (x4 : Int32) (x5 : Int32)  : entryFrame m #[(.int x0), (.int x1), (.int x2), (.int x3), (.int x4), (.int x5)] maxLocals = mkF m 0 #[.val (.int x0), .val (.int x1), .val (.int x2), .val (.int x3), .val (.int x4), .val (.int x5), .unset, .unset, .unset, .unset, .unset, .unset, .unset, .unset, .unset] [] := by first | (simp [entryFrame, mkF, argsToLocals, Value.category, maxLocals]; done) | rfl
def Q_rmL (Z : State) (i0 i1 i2 i3 i4 i5 : Int32) (sSECURITIES : Nat) (sFIRST_HASH : Nat) (sCORPORATE : Nat) (sFINANCIAL : Nat) (sFOREIGN_CORPORATE : Nat) (sINDIVIDUAL : Nat) (sFOREIGN_INDIVIDUAL : Nat) (sGOVERNMENT : Nat) (cg u : Nat) (cl : Cell) (cz : Int32) (h0 : Heap) (n0 : Nat) (vv : Option Value) (h : Heap) (L : List Loc) : Prop := vv = some (.int 1) ∧ Fr n0 L
set_option maxRecDepth 65536 in
set_option maxHeartbeats 40000000 in
theorem rmL (l : Launch) (Z : State) (a0 : Array Value) (hw : ∀ d ∈ tables_1, d.before a0 Z = true) (ws : List Jvm.Cond) (i0 i1 i2 i3 i4 i5 : Int32) (sSECURITIES : Nat) (sFIRST_HASH : Nat) (sCORPORATE : Nat) (sFINANCIAL : Nat) (sFOREIGN_CORPORATE : Nat) (sINDIVIDUAL : Nat) (sFOREIGN_INDIVIDUAL : Nat) (sGOVERNMENT : Nat) (cg u : Nat) (cl : Cell) (cz : Int32) (h0 : Heap) (n0 : Nat) (Z0 : n0 ≤ h0.size) (O0 : Old Z n0 h0) (SsSECURITIES : Sta Z Z.heap "com/example/yusen_ledger/yusenledger/HolderCategory" "SECURITIES" "Lcom/example/yusen_ledger/yusenledger/HolderCategory;" (.ref sSECURITIES)) (EsSECURITIES : Exa Z Z.heap sSECURITIES "com/example/yusen_ledger/yusenledger/HolderCategory") (FsSECURITIES : Fld Z Z.heap sSECURITIES "java/lang/Enum" "ordinal" "I" (.int 2)) (SsFIRST_HASH : Sta Z Z.heap "com/example/yusen_ledger/yusenledger/HolderTable" "FIRST_HASH" "Lcom/example/yusen_ledger/yusenledger/SipHash;" (.ref sFIRST_HASH)) (EsFIRST_HASH : Exa Z Z.heap sFIRST_HASH "com/example/yusen_ledger/yusenledger/SipHash") (SsCORPORATE : Sta Z Z.heap "com/example/yusen_ledger/yusenledger/HolderCategory" "CORPORATE" "Lcom/example/yusen_ledger/yusenledger/HolderCategory;" (.ref sCORPORATE)) (EsCORPORATE : Exa Z Z.heap sCORPORATE "com/example/yusen_ledger/yusenledger/HolderCategory") (FsCORPORATE : Fld Z Z.heap sCORPORATE "java/lang/Enum" "ordinal" "I" (.int 3)) (SsFINANCIAL : Sta Z Z.heap "com/example/yusen_ledger/yusenledger/HolderCategory" "FINANCIAL" "Lcom/example/yusen_ledger/yusenledger/HolderCategory;" (.ref sFINANCIAL)) (EsFINANCIAL : Exa Z Z.heap sFINANCIAL "com/example/yusen_ledger/yusenledger/HolderCategory") (FsFINANCIAL : Fld Z Z.heap sFINANCIAL "java/lang/Enum" "ordinal" "I" (.int 1)) (SsFOREIGN_CORPORATE : Sta Z Z.heap "com/example/yusen_ledger/yusenledger/HolderCategory" "FOREIGN_CORPORATE" "Lcom/example/yusen_ledger/yusenledger/HolderCategory;" (.ref sFOREIGN_CORPORATE)) (EsFOREIGN_CORPORATE : Exa Z Z.heap sFOREIGN_CORPORATE "com/example/yusen_ledger/yusenledger/HolderCategory") (FsFOREIGN_CORPORATE : Fld Z Z.heap sFOREIGN_CORPORATE "java/lang/Enum" "ordinal" "I" (.int 4)) (SsINDIVIDUAL : Sta Z Z.heap "com/example/yusen_ledger/yusenledger/HolderCategory" "INDIVIDUAL" "Lcom/example/yusen_ledger/yusenledger/HolderCategory;" (.ref sINDIVIDUAL)) (EsINDIVIDUAL : Exa Z Z.heap sINDIVIDUAL "com/example/yusen_ledger/yusenledger/HolderCategory") (FsINDIVIDUAL : Fld Z Z.heap sINDIVIDUAL "java/lang/Enum" "ordinal" "I" (.int 6)) (SsFOREIGN_INDIVIDUAL : Sta Z Z.heap "com/example/yusen_ledger/yusenledger/HolderCategory" "FOREIGN_INDIVIDUAL" "Lcom/example/yusen_ledger/yusenledger/HolderCategory;" (.ref sFOREIGN_INDIVIDUAL)) (EsFOREIGN_INDIVIDUAL : Exa Z Z.heap sFOREIGN_INDIVIDUAL "com/example/yusen_ledger/yusenledger/HolderCategory") (FsFOREIGN_INDIVIDUAL : Fld Z Z.heap sFOREIGN_INDIVIDUAL "java/lang/Enum" "ordinal" "I" (.int 5)) (SsGOVERNMENT : Sta Z Z.heap "com/example/yusen_ledger/yusenledger/HolderCategory" "GOVERNMENT" "Lcom/example/yusen_ledger/yusenledger/HolderCategory;" (.ref sGOVERNMENT)) (EsGOVERNMENT : Exa Z Z.heap sGOVERNMENT "com/example/yusen_ledger/yusenledger/HolderCategory") (FsGOVERNMENT : Fld Z Z.heap sGOVERNMENT "java/lang/Enum" "ordinal" "I" (.int 0)) (SCS : Sta Z Z.heap "java/lang/String" "COMPACT_STRINGS" "Z" (.int cz)) (hcz : ¬ cz = (0 : Int32)) (SU : Sta Z Z.heap "java/nio/charset/StandardCharsets" "UTF_8" "Ljava/nio/charset/Charset;" (.ref u)) (SI : Sta Z Z.heap "sun/nio/cs/UTF_8" "INSTANCE" "Lsun/nio/cs/UTF_8;" (.ref u)) (SCG : Sta Z Z.heap "com/example/yusen_ledger/yusenledger/HolderTable" "CATEGORIES" "[Lcom/example/yusen_ledger/yusenledger/HolderCategory;" (.ref cg)) (AC : Arr Z Z.heap cg cl (.object "com/example/yusen_ledger/yusenledger/HolderCategory")) (CN : cl.slots.size = 7) (elSECURITIES : cl.slots[(2 : Int32).toNatClampNeg]? = some (.ref sSECURITIES)) (elCORPORATE : cl.slots[(3 : Int32).toNatClampNeg]? = some (.ref sCORPORATE)) (elFINANCIAL : cl.slots[(1 : Int32).toNatClampNeg]? = some (.ref sFINANCIAL)) (elFOREIGN_CORPORATE : cl.slots[(4 : Int32).toNatClampNeg]? = some (.ref sFOREIGN_CORPORATE)) (elINDIVIDUAL : cl.slots[(6 : Int32).toNatClampNeg]? = some (.ref sINDIVIDUAL)) (elFOREIGN_INDIVIDUAL : cl.slots[(5 : Int32).toNatClampNeg]? = some (.ref sFOREIGN_INDIVIDUAL)) (elGOVERNMENT : cl.slots[(0 : Int32).toNatClampNeg]? = some (.ref sGOVERNMENT)) (FK0 : Fld Z Z.heap sFIRST_HASH "com/example/yusen_ledger/yusenledger/SipHash" "key0" "J" (.long 0)) (FK1 : Fld Z Z.heap sFIRST_HASH "com/example/yusen_ledger/yusenledger/SipHash" "key1" "J" (.long 0)) :
    MetFree l x (head1 (Jvm.Cond.code x code maxLocals ret :: ws) room_1) (fun aA uU => aA = #[(.int i0), (.int i1), (.int i2), (.int i3), (.int i4), (.int i5)] ∧ Z.Warmed39 uU.vm ∧ uU.heap = h0) (fun _ _ _ _ _ => True) (fun _ uU oO uU' => ∃ vV lL, oO = .returned vV ∧ Q_rmL Z i0 i1 i2 i3 i4 i5 sSECURITIES sFIRST_HASH sCORPORATE sFINANCIAL sFOREIGN_CORPORATE sINDIVIDUAL sFOREIGN_INDIVIDUAL sGOVERNMENT cg u cl cz h0 n0 vV uU'.heap lL ∧ FrameEnd uU oO uU' lL 48 576) := by
  refine MetFree.of_bodySF (plainFor_of_name pn_HolderTableCategoryPinLaw) hisR ?_
  intro p e s m args below meth c s₁ Bd hml0 hP hK
  obtain ⟨rfl, hZ, hh⟩ := hP
  have hx := Bd.exec
  have hby := Bd.bytes
  have hml : c.maxLocals = 15 := hml0
  have hown : s.vm.findClass "com/example/yusen_ledger/yusenledger/HolderTableCategoryPinLaw" = some m.cls := findClass_of_methodNamed Bd.named
  have hnm := (name_of_methodNamed Bd.named Bd.method).1
  have X0 : Stand p l e room_1 s m #[(.int i0), (.int i1), (.int i2), (.int i3), (.int i4), (.int i5)] below meth c s₁ [] 0 0 := Stand.of_body Bd
  have e0 : s₁.heap = h0 := by rw [← hh, Bd.state]; rfl
  have N0 := Fr.nil n0
  refine oEnter (oCast (ef_rmL m i0 i1 i2 i3 i4 i5 ) ?_)
  show oGl p e below (s₁.setTop (mkF m 0 #[.val (.int i0), .val (.int i1), .val (.int i2), .val (.int i3), .val (.int i4), .val (.int i5), .unset, .unset, .unset, .unset, .unset, .unset, .unset, .unset, .unset] [])) _
  refine siloadN X0 hx (hb hby at_0) rfl rfl (pc' := 1) ?_
  have hz1 : n0 ≤ h0.size := by omega
  obtain ⟨_, _, ⟨T1, L1, k1, n1⟩, -, X1, ⟨Lc1, hQ1, l1, y1, z1⟩, st1⟩ := Jvm.LawKit.callS X0 hx (y := (⟨"com/example/yusen_ledger/yusenledger/HolderTableCategoryPinLaw", "pick", "(I)Lcom/example/yusen_ledger/yusenledger/HolderCategory;"⟩ : MethodName)) hown (mvT hZ (hw _ (List.mem_of_getElem? (i := 0) rfl))) (mvT hZ (hw _ (List.mem_of_getElem? (i := 1) rfl))) (mvT hZ (hw _ (List.mem_of_getElem? (i := 2) rfl))) (mvT hZ (hw _ (List.mem_of_getElem? (i := 3) rfl))) (by decide) (backOf (W := 0) (rmPick l Z a0 hw [] i0 sSECURITIES sCORPORATE sFINANCIAL sFOREIGN_CORPORATE sINDIVIDUAL sFOREIGN_INDIVIDUAL sGOVERNMENT cl h0 n0 hz1 O0 SsSECURITIES EsSECURITIES FsSECURITIES SsCORPORATE EsCORPORATE FsCORPORATE SsFINANCIAL EsFINANCIAL FsFINANCIAL SsFOREIGN_CORPORATE EsFOREIGN_CORPORATE FsFOREIGN_CORPORATE SsINDIVIDUAL EsINDIVIDUAL FsINDIVIDUAL SsFOREIGN_INDIVIDUAL EsFOREIGN_INDIVIDUAL FsFOREIGN_INDIVIDUAL SsGOVERNMENT EsGOVERNMENT FsGOVERNMENT elSECURITIES elCORPORATE elFINANCIAL elFOREIGN_CORPORATE elINDIVIDUAL elFOREIGN_INDIVIDUAL elGOVERNMENT) hZ (hw _ (List.mem_of_getElem? (i := 3) rfl)) (hw _ (List.mem_of_getElem? (i := 2) rfl)) (by decide) (by decide)) (g := (mkF m 1 #[.val (.int i0), .val (.int i1), .val (.int i2), .val (.int i3), .val (.int i4), .val (.int i5), .unset, .unset, .unset, .unset, .unset, .unset, .unset, .unset, .unset] [(.int i0)])) rfl (by rw [hml]; rfl) (argsL := [(.int i0)]) (rest := []) (lenOf pd_26 rfl) rfl (by show 2 * 0 + _ ≤ _; exact Nat.le_of_eq rfl) (hb hby at_1) (fun _ _ => ⟨rfl, e0, (by decide : 0 + 0 ≤ _), (by decide : 0 + 0 ≤ _)⟩)
  dsimp only [Pt.U, Pt.locs, Pt.cells, Pt.slots] at X1 l1 y1 z1 st1 hQ1
  subst l1 y1 z1
  obtain ⟨cw1, kc1, rfl, N1q, eh1, ct1⟩ := hQ1
  have N1 := Fr.app N0 N1q
  refine oOn st1 ?_
  have hr1 := ct1.ref
  show oGl p e below (T1.setTop (mkF m 4 #[.val (.int i0), .val (.int i1), .val (.int i2), .val (.int i3), .val (.int i4), .val (.int i5), .unset, .unset, .unset, .unset, .unset, .unset, .unset, .unset, .unset] [cw1])) _
  refine sastore X1 hx (hb hby at_4) rfl hr1 (oSto rfl (Or.inl rfl) (oCat hr1)) (l' := #[.val (.int i0), .val (.int i1), .val (.int i2), .val (.int i3), .val (.int i4), .val (.int i5), .val cw1, .unset, .unset, .unset, .unset, .unset, .unset, .unset, .unset]) (pc' := 6) ?_
  refine siloadN X1 hx (hb hby at_6) rfl rfl (pc' := 7) ?_
  have hz2 : n0 ≤ h0.size := by omega
  obtain ⟨_, _, ⟨T2, L2, k2, n2⟩, -, X2, ⟨Lc2, hQ2, l2, y2, z2⟩, st2⟩ := Jvm.LawKit.callS X1 hx (y := (⟨"com/example/yusen_ledger/yusenledger/HolderTableCategoryPinLaw", "pick", "(I)Lcom/example/yusen_ledger/yusenledger/HolderCategory;"⟩ : MethodName)) hown (mvT hZ (hw _ (List.mem_of_getElem? (i := 0) rfl))) (mvT hZ (hw _ (List.mem_of_getElem? (i := 1) rfl))) (mvT hZ (hw _ (List.mem_of_getElem? (i := 2) rfl))) (mvT hZ (hw _ (List.mem_of_getElem? (i := 3) rfl))) (by decide) (backOf (W := 0) (rmPick l Z a0 hw [] i1 sSECURITIES sCORPORATE sFINANCIAL sFOREIGN_CORPORATE sINDIVIDUAL sFOREIGN_INDIVIDUAL sGOVERNMENT cl h0 n0 hz2 O0 SsSECURITIES EsSECURITIES FsSECURITIES SsCORPORATE EsCORPORATE FsCORPORATE SsFINANCIAL EsFINANCIAL FsFINANCIAL SsFOREIGN_CORPORATE EsFOREIGN_CORPORATE FsFOREIGN_CORPORATE SsINDIVIDUAL EsINDIVIDUAL FsINDIVIDUAL SsFOREIGN_INDIVIDUAL EsFOREIGN_INDIVIDUAL FsFOREIGN_INDIVIDUAL SsGOVERNMENT EsGOVERNMENT FsGOVERNMENT elSECURITIES elCORPORATE elFINANCIAL elFOREIGN_CORPORATE elINDIVIDUAL elFOREIGN_INDIVIDUAL elGOVERNMENT) hZ (hw _ (List.mem_of_getElem? (i := 3) rfl)) (hw _ (List.mem_of_getElem? (i := 2) rfl)) (by decide) (by decide)) (g := (mkF m 7 #[.val (.int i0), .val (.int i1), .val (.int i2), .val (.int i3), .val (.int i4), .val (.int i5), .val cw1, .unset, .unset, .unset, .unset, .unset, .unset, .unset, .unset] [(.int i1)])) rfl (by rw [hml]; rfl) (argsL := [(.int i1)]) (rest := []) (lenOf pd_26 rfl) rfl (by show 2 * 0 + _ ≤ _; exact Nat.le_of_eq rfl) (hb hby at_7) (fun _ _ => ⟨rfl, eh1, (by decide : 0 + 0 ≤ _), (by decide : 0 + 0 ≤ _)⟩)
  dsimp only [Pt.U, Pt.locs, Pt.cells, Pt.slots] at X2 l2 y2 z2 st2 hQ2
  subst l2 y2 z2
  obtain ⟨cw2, kc2, rfl, N2q, eh2, ct2⟩ := hQ2
  have N2 := Fr.app N1 N2q
  refine oOn st2 ?_
  have hr2 := ct2.ref
  show oGl p e below (T2.setTop (mkF m 10 #[.val (.int i0), .val (.int i1), .val (.int i2), .val (.int i3), .val (.int i4), .val (.int i5), .val cw1, .unset, .unset, .unset, .unset, .unset, .unset, .unset, .unset] [cw2])) _
  refine sastore X2 hx (hb hby at_10) rfl hr2 (oSto rfl (Or.inl rfl) (oCat hr2)) (l' := #[.val (.int i0), .val (.int i1), .val (.int i2), .val (.int i3), .val (.int i4), .val (.int i5), .val cw1, .val cw2, .unset, .unset, .unset, .unset, .unset, .unset, .unset]) (pc' := 12) ?_
  refine siconst X2 hx (hb hby at_12) rfl rfl (z := 2) (pc' := 13) ?_
  obtain ⟨T3, h3, k3, X3, e3, E3, A3, st3⟩ := newP X2 hx hZ (hw _ (List.mem_of_getElem? (i := 7) rfl)) eh2 (g := (mkF m 13 #[.val (.int i0), .val (.int i1), .val (.int i2), .val (.int i3), .val (.int i4), .val (.int i5), .val cw1, .val cw2, .unset, .unset, .unset, .unset, .unset, .unset, .unset] [(.int (2 : Int32))])) rfl (hb hby at_13) rfl (by decide) (cap := 2) (by decide) (by decide) (by decide) (by decide)
  obtain ⟨a3, g3⟩ : ∃ z, z = h0.size := ⟨_, rfl⟩
  rw [← g3] at A3 st3
  refine oOn st3 ?_
  have z4 : h0.size ≤ h3.size := E3.1
  have lt3 : a3 < h3.size := A3.lt
  have V3 : oAI Z h3 a3 .char 2 (fun _ => 0) := oAI.new A3 rfl
  show oGl p e below (T3.setTop (mkF m 15 #[.val (.int i0), .val (.int i1), .val (.int i2), .val (.int i3), .val (.int i4), .val (.int i5), .val cw1, .val cw2, .unset, .unset, .unset, .unset, .unset, .unset, .unset] [(.ref a3)])) _
  refine sastore X3 hx (hb hby at_15) rfl rfl rfl (l' := #[.val (.int i0), .val (.int i1), .val (.int i2), .val (.int i3), .val (.int i4), .val (.int i5), .val cw1, .val cw2, .val (.ref a3), .unset, .unset, .unset, .unset, .unset, .unset]) (pc' := 17) ?_
  refine saload X3 hx (hb hby at_17) rfl rfl rfl (pc' := 19) ?_
  refine siconst X3 hx (hb hby at_19) rfl rfl (z := 0) (pc' := 20) ?_
  refine siloadN X3 hx (hb hby at_20) rfl rfl (pc' := 21) ?_
  refine ssipush X3 hx (hb hby at_21) rfl rfl (z := 255) (pc' := 24) ?_
  refine siand X3 hx (hb hby at_24) rfl rfl (pc' := 25) ?_
  refine si2c X3 hx (hb hby at_25) rfl rfl (pc' := 26) ?_
  have hn_za := own_nc i2
  have hl_za := own_lc i2
  generalize g_za : (((i2 &&& (255 : Int32))).toUInt32.toUInt16.toUInt32.toInt32) = za
  show oGl p e below (T3.setTop (mkF m 26 #[.val (.int i0), .val (.int i1), .val (.int i2), .val (.int i3), .val (.int i4), .val (.int i5), .val cw1, .val cw2, .val (.ref a3), .unset, .unset, .unset, .unset, .unset, .unset] [(.int za), (.int (0 : Int32)), (.ref a3)])) _
  rw [g_za] at hn_za
  rw [g_za] at hl_za
  obtain ⟨T5, h5, X5, e5, W5, V5, st5⟩ := V3.stC X3 hx hZ e3 (j := (0 : Int32)) (by decide) (g := (mkF m 26 #[.val (.int i0), .val (.int i1), .val (.int i2), .val (.int i3), .val (.int i4), .val (.int i5), .val cw1, .val cw2, .val (.ref a3), .unset, .unset, .unset, .unset, .unset, .unset] [(.int za), (.int (0 : Int32)), (.ref a3)])) rfl rfl (hb hby at_26)
  refine oOn st5 ?_
  have z6 : h3.size ≤ h5.size := Nat.le_of_eq W5.size.symm
  have N5 := Fr.snoc X5 N2 (by omega)
  show oGl p e below (T5.setTop (mkF m 27 #[.val (.int i0), .val (.int i1), .val (.int i2), .val (.int i3), .val (.int i4), .val (.int i5), .val cw1, .val cw2, .val (.ref a3), .unset, .unset, .unset, .unset, .unset, .unset] [])) _
  refine saload X5 hx (hb hby at_27) rfl rfl rfl (pc' := 29) ?_
  refine siconst X5 hx (hb hby at_29) rfl rfl (z := 1) (pc' := 30) ?_
  refine siloadN X5 hx (hb hby at_30) rfl rfl (pc' := 31) ?_
  refine ssipush X5 hx (hb hby at_31) rfl rfl (z := 255) (pc' := 34) ?_
  refine siand X5 hx (hb hby at_34) rfl rfl (pc' := 35) ?_
  refine si2c X5 hx (hb hby at_35) rfl rfl (pc' := 36) ?_
  have hn_zb := own_nc i3
  have hl_zb := own_lc i3
  generalize g_zb : (((i3 &&& (255 : Int32))).toUInt32.toUInt16.toUInt32.toInt32) = zb
  show oGl p e below (T5.setTop (mkF m 36 #[.val (.int i0), .val (.int i1), .val (.int i2), .val (.int i3), .val (.int i4), .val (.int i5), .val cw1, .val cw2, .val (.ref a3), .unset, .unset, .unset, .unset, .unset, .unset] [(.int zb), (.int (1 : Int32)), (.ref a3)])) _
  rw [g_zb] at hn_zb
  rw [g_zb] at hl_zb
  obtain ⟨T7, h7, X7, e7, W7, V7, st7⟩ := V5.stC X5 hx hZ e5 (j := (1 : Int32)) (by decide) (g := (mkF m 36 #[.val (.int i0), .val (.int i1), .val (.int i2), .val (.int i3), .val (.int i4), .val (.int i5), .val cw1, .val cw2, .val (.ref a3), .unset, .unset, .unset, .unset, .unset, .unset] [(.int zb), (.int (1 : Int32)), (.ref a3)])) rfl rfl (hb hby at_36)
  refine oOn st7 ?_
  have z8 : h5.size ≤ h7.size := Nat.le_of_eq W7.size.symm
  have N7 := Fr.snoc X7 N5 (by omega)
  show oGl p e below (T7.setTop (mkF m 37 #[.val (.int i0), .val (.int i1), .val (.int i2), .val (.int i3), .val (.int i4), .val (.int i5), .val cw1, .val cw2, .val (.ref a3), .unset, .unset, .unset, .unset, .unset, .unset] [])) _
  refine siloadN X7 hx (hb hby at_37) rfl rfl (pc' := 38) ?_
  refine ssipush X7 hx (hb hby at_38) rfl rfl (z := 255) (pc' := 41) ?_
  refine siand X7 hx (hb hby at_41) rfl rfl (pc' := 42) ?_
  refine si2c X7 hx (hb hby at_42) rfl rfl (pc' := 43) ?_
  rw [g_za]
  show oGl p e below (T7.setTop (mkF m 43 #[.val (.int i0), .val (.int i1), .val (.int i2), .val (.int i3), .val (.int i4), .val (.int i5), .val cw1, .val cw2, .val (.ref a3), .unset, .unset, .unset, .unset, .unset, .unset] [(.int za)])) _
  have f9 := (((O0.ext E3).wr W5 (by omega)).wr W7 (by omega))
  have hz10 : n0 ≤ h7.size := by omega
  obtain ⟨_, _, ⟨T10, L10, k10, n10⟩, -, X10, ⟨Lc10, hQ10, l10, y10, z10⟩, st10⟩ := Jvm.LawKit.callS X7 hx (y := (⟨"java/lang/String", "valueOf", "(C)Ljava/lang/String;"⟩ : MethodName)) hown (mvT hZ (hw _ (List.mem_of_getElem? (i := 8) rfl))) (mvT hZ (hw _ (List.mem_of_getElem? (i := 9) rfl))) (mvT hZ (hw _ (List.mem_of_getElem? (i := 10) rfl))) (mvT hZ (hw _ (List.mem_of_getElem? (i := 11) rfl))) (by decide) (backOf (W := 0) (rmVal l Z a0 hw [] za cz h7 n0 hz10 f9 SCS hcz hl_za) hZ (hw _ (List.mem_of_getElem? (i := 11) rfl)) (hw _ (List.mem_of_getElem? (i := 10) rfl)) (by decide) (by decide)) (g := (mkF m 43 #[.val (.int i0), .val (.int i1), .val (.int i2), .val (.int i3), .val (.int i4), .val (.int i5), .val cw1, .val cw2, .val (.ref a3), .unset, .unset, .unset, .unset, .unset, .unset] [(.int za)])) rfl (by rw [hml]; rfl) (argsL := [(.int za)]) (rest := []) (lenOf pd_27 rfl) rfl (by show 2 * 0 + _ ≤ _; exact Nat.le_of_eq rfl) (hb hby at_43) (fun _ _ => ⟨rfl, e7, (by decide : 1 + 2 ≤ _), (by decide : 2 + 5 ≤ _)⟩)
  dsimp only [Pt.U, Pt.locs, Pt.cells, Pt.slots] at X10 l10 y10 z10 st10 hQ10
  subst l10 y10 z10
  obtain ⟨y10, d10, rfl, N10q, K10, Ex10, Fv10, Fc10, Vb10, EB10⟩ := hQ10
  have N10 := Fr.app N7 N10q
  have z11 : h7.size ≤ T10.heap.size := K10.1
  refine oOn st10 ?_
  have lx10 : @LT.lt Nat _ y10 T10.heap.size := Ex10.lt
  have lw10 : @LT.lt Nat _ d10 T10.heap.size := Vb10.lt
  show oGl p e below (T10.setTop (mkF m 46 #[.val (.int i0), .val (.int i1), .val (.int i2), .val (.int i3), .val (.int i4), .val (.int i5), .val cw1, .val cw2, .val (.ref a3), .unset, .unset, .unset, .unset, .unset, .unset] [(.ref y10)])) _
  refine sastore X10 hx (hb hby at_46) rfl rfl rfl (l' := #[.val (.int i0), .val (.int i1), .val (.int i2), .val (.int i3), .val (.int i4), .val (.int i5), .val cw1, .val cw2, .val (.ref a3), .val (.ref y10), .unset, .unset, .unset, .unset, .unset]) (pc' := 48) ?_
  obtain ⟨T12, h12, X12, e12, E12, A12, D12, -, st12⟩ := newO X10 hx hZ hown (hw _ (List.mem_of_getElem? (i := 34) rfl)) (hw _ (List.mem_of_getElem? (i := 18) rfl)) (hw _ (List.mem_of_getElem? (i := 10) rfl)) rfl (g := (mkF m 48 #[.val (.int i0), .val (.int i1), .val (.int i2), .val (.int i3), .val (.int i4), .val (.int i5), .val cw1, .val cw2, .val (.ref a3), .val (.ref y10), .unset, .unset, .unset, .unset, .unset] [])) rfl (hb hby at_48) (by decide) (by decide)
  obtain ⟨a12, g12⟩ : ∃ z, z = T10.heap.size := ⟨_, rfl⟩
  rw [← g12] at A12 D12 st12
  refine oOn st12 ?_
  have z13 : T10.heap.size ≤ h12.size := E12.1
  have lt12 : a12 < h12.size := A12.lt
  have f12_31 : Fld Z h12 a12 "java/lang/String" "value" "[B" .null := D12 (Or.inr (hw _ (List.mem_of_getElem? (i := 31) rfl))) (ty := (.array .byte)) (by decide)
  have f12_33 : Fld Z h12 a12 "java/lang/String" "coder" "B" (.int (0 : Int32)) := D12 (Or.inr (hw _ (List.mem_of_getElem? (i := 33) rfl))) (ty := .byte) (by decide)
  show oGl p e below (T12.setTop (mkF m 51 #[.val (.int i0), .val (.int i1), .val (.int i2), .val (.int i3), .val (.int i4), .val (.int i5), .val cw1, .val cw2, .val (.ref a3), .val (.ref y10), .unset, .unset, .unset, .unset, .unset] [(.ref a12)])) _
  refine sdup X12 hx (hb hby at_51) rfl rfl (pc' := 52) ?_
  refine saload X12 hx (hb hby at_52) rfl rfl rfl (pc' := 54) ?_
  have f14 := ((V7.keep K10 nin0).ext E12)
  have nxa : @Ne Nat a12 a3 := oNeO A12 (hw _ (List.mem_of_getElem? (i := 18) rfl)) f14
  have Vm : oAI Z h12 a3 .char 2 (mkC2 za zb) := f14.congr (fun j hj => by
    rcases (by omega : j = 0 ∨ j = 1) with rfl | rfl
    · exact hn_za
    · exact hn_zb)
  have f15 := ((f9.keep K10 all0).ext E12)
  have hz16 : n0 ≤ h12.size := by omega
  obtain ⟨_, _, ⟨T16, L16, k16, n16⟩, -, X16, ⟨Lc16, hQ16, l16, y16, z16⟩, st16⟩ := X12.specialBack hx (y := (⟨"java/lang/String", "<init>", "([C)V"⟩ : MethodName)) rfl hown (mvT hZ (hw _ (List.mem_of_getElem? (i := 35) rfl))) (mvT hZ (hw _ (List.mem_of_getElem? (i := 36) rfl))) (mvT hZ (hw _ (List.mem_of_getElem? (i := 37) rfl))) (by decide) (backOf (W := 1) (rmStr l Z a0 hw [] a12 a3 2 (mkC2 za zb) cz h12 n0 hz16 Vm (by decide) (by decide) (fun j hj => by
    rcases (by omega : j = 0 ∨ j = 1) with rfl | rfl
    · exact hl_za
    · exact hl_zb) nxa A12 f12_31 f12_33 (by omega) f15 SCS hcz) hZ (hw _ (List.mem_of_getElem? (i := 37) rfl)) (hw _ (List.mem_of_getElem? (i := 10) rfl)) (by decide) (by decide)) (g := (mkF m 54 #[.val (.int i0), .val (.int i1), .val (.int i2), .val (.int i3), .val (.int i4), .val (.int i5), .val cw1, .val cw2, .val (.ref a3), .val (.ref y10), .unset, .unset, .unset, .unset, .unset] [(.ref a3), (.ref a12), (.ref a12)])) rfl (by rw [hml]; rfl) (Steps.refl _) (a := a12) (argsL := [(.ref a3)]) (rest := [(.ref a12)]) (lenOf pd_28 rfl) rfl (by show 2 * 0 + _ ≤ _; exact Nat.le_of_eq rfl) (hb hby at_54) (fun _ _ => ⟨rfl, e12, (by decide : 4 + 1 ≤ _), (by decide : 11 + 2 ≤ _)⟩)
  dsimp only [Pt.U, Pt.locs, Pt.cells, Pt.slots] at X16 l16 y16 z16 st16 hQ16
  subst l16 y16 z16
  obtain ⟨d16, rfl, N16q, K16, zb16, Ex16, Fv16, Fc16, Vb16, EB16⟩ := hQ16
  have N16 := Fr.app N10 N16q
  have z17 : h12.size ≤ T16.heap.size := K16.1
  refine oSt st16 ?_
  have lw16 : @LT.lt Nat _ d16 T16.heap.size := Vb16.lt
  show oGl p e below (T16.setTop (mkF m 57 #[.val (.int i0), .val (.int i1), .val (.int i2), .val (.int i3), .val (.int i4), .val (.int i5), .val cw1, .val cw2, .val (.ref a3), .val (.ref y10), .unset, .unset, .unset, .unset, .unset] [(.ref a12)])) _
  refine sastore X16 hx (hb hby at_57) rfl rfl rfl (l' := #[.val (.int i0), .val (.int i1), .val (.int i2), .val (.int i3), .val (.int i4), .val (.int i5), .val cw1, .val cw2, .val (.ref a3), .val (.ref y10), .val (.ref a12), .unset, .unset, .unset, .unset]) (pc' := 59) ?_
  refine siload X16 hx (hb hby at_59) rfl rfl (pc' := 61) ?_
  refine ssipush X16 hx (hb hby at_61) rfl rfl (z := 255) (pc' := 64) ?_
  refine siand X16 hx (hb hby at_64) rfl rfl (pc' := 65) ?_
  refine si2c X16 hx (hb hby at_65) rfl rfl (pc' := 66) ?_
  have hn_zn := own_nc i4
  have hl_zn := own_lc i4
  generalize g_zn : (((i4 &&& (255 : Int32))).toUInt32.toUInt16.toUInt32.toInt32) = zn
  show oGl p e below (T16.setTop (mkF m 66 #[.val (.int i0), .val (.int i1), .val (.int i2), .val (.int i3), .val (.int i4), .val (.int i5), .val cw1, .val cw2, .val (.ref a3), .val (.ref y10), .val (.ref a12), .unset, .unset, .unset, .unset] [(.int zn)])) _
  rw [g_zn] at hn_zn
  rw [g_zn] at hl_zn
  have f18 := (f15.keep K16 (allS (by omega) all0))
  have hz19 : n0 ≤ T16.heap.size := by omega
  obtain ⟨_, _, ⟨T19, L19, k19, n19⟩, -, X19, ⟨Lc19, hQ19, l19, y19, z19⟩, st19⟩ := Jvm.LawKit.callS X16 hx (y := (⟨"java/lang/String", "valueOf", "(C)Ljava/lang/String;"⟩ : MethodName)) hown (mvT hZ (hw _ (List.mem_of_getElem? (i := 8) rfl))) (mvT hZ (hw _ (List.mem_of_getElem? (i := 9) rfl))) (mvT hZ (hw _ (List.mem_of_getElem? (i := 10) rfl))) (mvT hZ (hw _ (List.mem_of_getElem? (i := 11) rfl))) (by decide) (backOf (W := 0) (rmVal l Z a0 hw [] zn cz T16.heap n0 hz19 f18 SCS hcz hl_zn) hZ (hw _ (List.mem_of_getElem? (i := 11) rfl)) (hw _ (List.mem_of_getElem? (i := 10) rfl)) (by decide) (by decide)) (g := (mkF m 66 #[.val (.int i0), .val (.int i1), .val (.int i2), .val (.int i3), .val (.int i4), .val (.int i5), .val cw1, .val cw2, .val (.ref a3), .val (.ref y10), .val (.ref a12), .unset, .unset, .unset, .unset] [(.int zn)])) rfl (by rw [hml]; rfl) (argsL := [(.int zn)]) (rest := []) (lenOf pd_27 rfl) rfl (by show 2 * 0 + _ ≤ _; exact Nat.le_of_eq rfl) (hb hby at_66) (fun _ _ => ⟨rfl, rfl, (by decide : 5 + 2 ≤ _), (by decide : 13 + 5 ≤ _)⟩)
  dsimp only [Pt.U, Pt.locs, Pt.cells, Pt.slots] at X19 l19 y19 z19 st19 hQ19
  subst l19 y19 z19
  obtain ⟨y19, d19, rfl, N19q, K19, Ex19, Fv19, Fc19, Vb19, EB19⟩ := hQ19
  have N19 := Fr.app N16 N19q
  have z20 : T16.heap.size ≤ T19.heap.size := K19.1
  refine oOn st19 ?_
  have lx19 : @LT.lt Nat _ y19 T19.heap.size := Ex19.lt
  have lw19 : @LT.lt Nat _ d19 T19.heap.size := Vb19.lt
  show oGl p e below (T19.setTop (mkF m 69 #[.val (.int i0), .val (.int i1), .val (.int i2), .val (.int i3), .val (.int i4), .val (.int i5), .val cw1, .val cw2, .val (.ref a3), .val (.ref y10), .val (.ref a12), .unset, .unset, .unset, .unset] [(.ref y19)])) _
  refine sastore X19 hx (hb hby at_69) rfl rfl rfl (l' := #[.val (.int i0), .val (.int i1), .val (.int i2), .val (.int i3), .val (.int i4), .val (.int i5), .val cw1, .val cw2, .val (.ref a3), .val (.ref y10), .val (.ref a12), .val (.ref y19), .unset, .unset, .unset]) (pc' := 71) ?_
  obtain ⟨T21, h21, X21, e21, E21, A21, D21, -, st21⟩ := newO X19 hx hZ hown (hw _ (List.mem_of_getElem? (i := 51) rfl)) (hw _ (List.mem_of_getElem? (i := 52) rfl)) (hw _ (List.mem_of_getElem? (i := 53) rfl)) rfl (g := (mkF m 71 #[.val (.int i0), .val (.int i1), .val (.int i2), .val (.int i3), .val (.int i4), .val (.int i5), .val cw1, .val cw2, .val (.ref a3), .val (.ref y10), .val (.ref a12), .val (.ref y19), .unset, .unset, .unset] [])) rfl (hb hby at_71) (by decide) (by decide)
  obtain ⟨a21, g21⟩ : ∃ z, z = T19.heap.size := ⟨_, rfl⟩
  rw [← g21] at A21 D21 st21
  refine oOn st21 ?_
  have z22 : T19.heap.size ≤ h21.size := E21.1
  have lt21 : a21 < h21.size := A21.lt
  have f21_66 : Fld Z h21 a21 "com/example/yusen_ledger/yusenledger/HolderTable" "reach" "I" (.int (0 : Int32)) := D21 (Or.inl (hw _ (List.mem_of_getElem? (i := 66) rfl))) (ty := .int) (by decide)
  have f21_68 : Fld Z h21 a21 "com/example/yusen_ledger/yusenledger/HolderTable" "classes" "I" (.int (0 : Int32)) := D21 (Or.inr (hw _ (List.mem_of_getElem? (i := 68) rfl))) (ty := .int) (by decide)
  have f21_70 : Fld Z h21 a21 "com/example/yusen_ledger/yusenledger/HolderTable" "size" "I" (.int (0 : Int32)) := D21 (Or.inl (hw _ (List.mem_of_getElem? (i := 70) rfl))) (ty := .int) (by decide)
  have f21_72 : Fld Z h21 a21 "com/example/yusen_ledger/yusenledger/HolderTable" "text" "[B" .null := D21 (Or.inl (hw _ (List.mem_of_getElem? (i := 72) rfl))) (ty := (.array .byte)) (by decide)
  have f21_74 : Fld Z h21 a21 "com/example/yusen_ledger/yusenledger/HolderTable" "bounds" "[I" .null := D21 (Or.inl (hw _ (List.mem_of_getElem? (i := 74) rfl))) (ty := (.array .int)) (by decide)
  have f21_76 : Fld Z h21 a21 "com/example/yusen_ledger/yusenledger/HolderTable" "categories" "[B" .null := D21 (Or.inl (hw _ (List.mem_of_getElem? (i := 76) rfl))) (ty := (.array .byte)) (by decide)
  have f21_78 : Fld Z h21 a21 "com/example/yusen_ledger/yusenledger/HolderTable" "shares" "[J" .null := D21 (Or.inl (hw _ (List.mem_of_getElem? (i := 78) rfl))) (ty := (.array .long)) (by decide)
  have f21_80 : Fld Z h21 a21 "com/example/yusen_ledger/yusenledger/HolderTable" "slots" "[I" .null := D21 (Or.inl (hw _ (List.mem_of_getElem? (i := 80) rfl))) (ty := (.array .int)) (by decide)
  have f21_82 : Fld Z h21 a21 "com/example/yusen_ledger/yusenledger/HolderTable" "hash" "Lcom/example/yusen_ledger/yusenledger/SipHash;" .null := D21 (Or.inl (hw _ (List.mem_of_getElem? (i := 82) rfl))) (ty := (.object "com/example/yusen_ledger/yusenledger/SipHash")) (by decide)
  show oGl p e below (T21.setTop (mkF m 74 #[.val (.int i0), .val (.int i1), .val (.int i2), .val (.int i3), .val (.int i4), .val (.int i5), .val cw1, .val cw2, .val (.ref a3), .val (.ref y10), .val (.ref a12), .val (.ref y19), .unset, .unset, .unset] [(.ref a21)])) _
  refine sdup X21 hx (hb hby at_74) rfl rfl (pc' := 75) ?_
  refine siload X21 hx (hb hby at_75) rfl rfl (pc' := 77) ?_
  refine siconst X21 hx (hb hby at_77) rfl rfl (z := 3) (pc' := 78) ?_
  refine siand X21 hx (hb hby at_78) rfl rfl (pc' := 79) ?_
  have f23 := ((f18.keep K19 all0).ext E21)
  have hz24 : n0 ≤ h21.size := by omega
  obtain ⟨_, _, ⟨T24, L24, k24, n24⟩, -, X24, ⟨Lc24, hQ24, l24, y24, z24⟩, st24⟩ := X21.specialBack hx (y := (⟨"com/example/yusen_ledger/yusenledger/HolderTable", "<init>", "(I)V"⟩ : MethodName)) rfl hown (mvT hZ (hw _ (List.mem_of_getElem? (i := 54) rfl))) (mvT hZ (hw _ (List.mem_of_getElem? (i := 55) rfl))) (mvT hZ (hw _ (List.mem_of_getElem? (i := 56) rfl))) (by decide) (backOf (W := 1) (rmTi1 l Z a0 hw [] a21 sFIRST_HASH (i5 &&& (3 : Int32)) h21 n0 hz24 f23 SsFIRST_HASH A21 f21_66 f21_68 f21_70 f21_72 f21_74 f21_76 f21_78 f21_80 f21_82 (by omega) (own_a3 _)) hZ (hw _ (List.mem_of_getElem? (i := 56) rfl)) (hw _ (List.mem_of_getElem? (i := 53) rfl)) (by decide) (by decide)) (g := (mkF m 79 #[.val (.int i0), .val (.int i1), .val (.int i2), .val (.int i3), .val (.int i4), .val (.int i5), .val cw1, .val cw2, .val (.ref a3), .val (.ref y10), .val (.ref a12), .val (.ref y19), .unset, .unset, .unset] [(.int (i5 &&& (3 : Int32))), (.ref a21), (.ref a21)])) rfl (by rw [hml]; rfl) (Steps.refl _) (a := a21) (argsL := [(.int (i5 &&& (3 : Int32)))]) (rest := [(.ref a21)]) (lenOf pd_24 rfl) rfl (by show 2 * 0 + _ ≤ _; exact Nat.le_of_eq rfl) (hb hby at_79) (fun _ _ => ⟨rfl, e21, (by decide : 8 + 5 ≤ _), (by decide : 27 + 193 ≤ _)⟩)
  dsimp only [Pt.U, Pt.locs, Pt.cells, Pt.slots] at X24 l24 y24 z24 st24 hQ24
  subst l24 y24 z24
  obtain ⟨tx24, bo24, ca24, sl24, rfl, N24q, K24, ⟨p1_24, p2_24, p3_24, p4_24⟩, u0_24, u1_24, u2_24, u3_24, u4_24, u5_24, u6_24, u7_24, Wa24, Wb24, Wc24, Wd24⟩ := hQ24
  have N24 := Fr.app N19 N24q
  have z25 : h21.size ≤ T24.heap.size := K24.1
  refine oSt st24 ?_
  have lsl24 : @LT.lt Nat _ sl24 T24.heap.size := Wd24.lt
  show oGl p e below (T24.setTop (mkF m 82 #[.val (.int i0), .val (.int i1), .val (.int i2), .val (.int i3), .val (.int i4), .val (.int i5), .val cw1, .val cw2, .val (.ref a3), .val (.ref y10), .val (.ref a12), .val (.ref y19), .unset, .unset, .unset] [(.ref a21)])) _
  refine sastore X24 hx (hb hby at_82) rfl rfl rfl (l' := #[.val (.int i0), .val (.int i1), .val (.int i2), .val (.int i3), .val (.int i4), .val (.int i5), .val cw1, .val cw2, .val (.ref a3), .val (.ref y10), .val (.ref a12), .val (.ref y19), .val (.ref a21), .unset, .unset]) (pc' := 84) ?_
  refine saload X24 hx (hb hby at_84) rfl rfl rfl (pc' := 86) ?_
  refine saload X24 hx (hb hby at_86) rfl rfl rfl (pc' := 88) ?_
  refine saload X24 hx (hb hby at_88) rfl rfl rfl (pc' := 90) ?_
  refine saload X24 hx (hb hby at_90) rfl rfl hr1 (pc' := 92) ?_
  have f26 := (f23.keep K24 (allS (by omega) all0))
  have f27 := (((((Ex10.ext E12).keep K16).keep K19).ext E21).keep K24)
  have f28 := (((((Fv10.ext E12).keep K16 (ninS (oNe (by omega)) nin0)).keep K19 nin0).ext E21).keep K24 (ninS (oNe (by omega)) nin0))
  have f29 := (((((Fc10.ext E12).keep K16 (ninS (oNe (by omega)) nin0)).keep K19 nin0).ext E21).keep K24 (ninS (oNe (by omega)) nin0))
  have f30 := (((((Vb10.ext E12).keep K16 (ninS (oNe (by omega)) nin0)).keep K19 nin0).ext E21).keep K24 (ninS (oNe (by omega)) nin0))
  have f31 := (((((EB10.ext E12).keep K16).keep K19).ext E21).keep K24)
  have f32 := ((Ex19.ext E21).keep K24)
  have f33 := ((Fv19.ext E21).keep K24 (ninS (oNe (by omega)) nin0))
  have f34 := ((Fc19.ext E21).keep K24 (ninS (oNe (by omega)) nin0))
  have f35 := ((Vb19.ext E21).keep K24 (ninS (oNe (by omega)) nin0))
  have f36 := ((EB19.ext E21).keep K24)
  have hz37 : n0 ≤ T24.heap.size := by omega
  obtain ⟨cq37, kq37, q37a, q37b, q37c⟩ := isOf hZ rfl u0_24
  obtain ⟨_, _, ⟨T37, L37, k37, n37⟩, -, X37, ⟨Lc37, hQ37, l37, y37, z37⟩, st37⟩ := X24.virtualBack hx (y := (⟨"com/example/yusen_ledger/yusenledger/HolderTable", "add", "(Ljava/lang/String;Ljava/lang/String;Lcom/example/yusen_ledger/yusenledger/HolderCategory;)I"⟩ : MethodName)) (z := (⟨"com/example/yusen_ledger/yusenledger/HolderTable", "add", "(Ljava/lang/String;Ljava/lang/String;Lcom/example/yusen_ledger/yusenledger/HolderCategory;)I"⟩ : MethodName)) hown (mvT hZ (hw _ (List.mem_of_getElem? (i := 83) rfl))) (mvT hZ (hw _ (List.mem_of_getElem? (i := 84) rfl))) (notFace_of_selects (args := #[]) (mvT hZ (hw _ (List.mem_of_getElem? (i := 86) rfl)))) (mvT hZ (hw _ (List.mem_of_getElem? (i := 86) rfl))) (mvT hZ (hw _ (List.mem_of_getElem? (i := 85) rfl))) (by decide) (backOf (W := 0) (rmAdd0 l Z a0 hw [] a21 tx24 bo24 ca24 sl24 sFIRST_HASH y10 d10 y19 d19 0 (oLo (fun _ => za)) (oLo (fun _ => zn)) (fun _ => 0) (fun _ => 0) (fun _ => 0) cl cw1 kc1 u cz T24.heap n0 hz37 f26 SCS hcz SU SI EsFIRST_HASH FK0 FK1 u0_24 u1_24 u2_24 u3_24 u4_24 u5_24 u6_24 u7_24 f27 f28 f29 f30 f31 oFitLo f32 f33 f34 f35 f36 oFitLo Wa24 oFit0 Wb24 Wc24 Wd24 ct1 hr1 rfl rfl (by omega) (by omega) (by omega) (by omega) (by omega) (by omega)) hZ (hw _ (List.mem_of_getElem? (i := 87) rfl)) (hw _ (List.mem_of_getElem? (i := 53) rfl)) (by decide) (by decide)) q37a q37c (g := (mkF m 92 #[.val (.int i0), .val (.int i1), .val (.int i2), .val (.int i3), .val (.int i4), .val (.int i5), .val cw1, .val cw2, .val (.ref a3), .val (.ref y10), .val (.ref a12), .val (.ref y19), .val (.ref a21), .unset, .unset] [cw1, (.ref y19), (.ref y10), (.ref a21)])) rfl (by rw [hml]; rfl) (Steps.refl _) (argsL := [(.ref y10), (.ref y19), cw1]) (rest := []) (lenOf pd_29 rfl) rfl (by show 2 * 0 + _ ≤ _; exact Nat.le_of_eq rfl) (hb hby at_92) (fun _ _ => ⟨rfl, rfl, (by decide : 13 + 2 ≤ _), (by decide : 220 + 4 ≤ _)⟩)
  dsimp only [Pt.U, Pt.locs, Pt.cells, Pt.slots] at X37 l37 y37 z37 st37 hQ37
  subst l37 y37 z37
  obtain ⟨rfl, N37q, K37, u0_37, u1_37, u2_37, u3_37, u4_37, u5_37, u6_37, u7_37, ⟨qc37, Vc37, qk37, qo37⟩, ⟨qt37, Vt37, Ft37⟩, Vo37, sz37, Vs37⟩ := hQ37
  have N37 := Fr.app N24 N37q
  have z38 : T24.heap.size ≤ T37.heap.size := K37.1
  refine oSt st37 ?_
  show oGl p e below (T37.setTop (mkF m 95 #[.val (.int i0), .val (.int i1), .val (.int i2), .val (.int i3), .val (.int i4), .val (.int i5), .val cw1, .val cw2, .val (.ref a3), .val (.ref y10), .val (.ref a12), .val (.ref y19), .val (.ref a21), .unset, .unset] [(.int (0 : Int32))])) _
  refine sistore X37 hx (hb hby at_95) rfl rfl (l' := #[.val (.int i0), .val (.int i1), .val (.int i2), .val (.int i3), .val (.int i4), .val (.int i5), .val cw1, .val cw2, .val (.ref a3), .val (.ref y10), .val (.ref a12), .val (.ref y19), .val (.ref a21), .val (.int (0 : Int32)), .unset]) (pc' := 97) ?_
  refine saload X37 hx (hb hby at_97) rfl rfl rfl (pc' := 99) ?_
  refine saload X37 hx (hb hby at_99) rfl rfl rfl (pc' := 101) ?_
  refine saload X37 hx (hb hby at_101) rfl rfl rfl (pc' := 103) ?_
  refine saload X37 hx (hb hby at_103) rfl rfl hr2 (pc' := 105) ?_
  have uz1 := oU1_b (oLo (fun _ => za))
  have uz2 := oU1_b (oLo (fun _ => zn))
  have uz3 := oU2_b (oLo (mkC2 za zb))
  have uz4 : oU1 (oLo (mkC2 za zb)) = oU1 (oLo (fun _ => za)) := oU1_c rfl
  have hb0 : (oUp (oUp (fun _ => 0) 1 (Int32.ofNat 0 + Int32.ofNat (oU1 (oLo (fun _ => za))))) 2 ((Int32.ofNat 0 + Int32.ofNat (oU1 (oLo (fun _ => za)))) + Int32.ofNat (oU1 (oLo (fun _ => zn))))) 0 = (0 : Int32) := rfl
  have hb1 : (oUp (oUp (fun _ => 0) 1 (Int32.ofNat 0 + Int32.ofNat (oU1 (oLo (fun _ => za))))) 2 ((Int32.ofNat 0 + Int32.ofNat (oU1 (oLo (fun _ => za)))) + Int32.ofNat (oU1 (oLo (fun _ => zn))))) 1 = Int32.ofNat (oU1 (oLo (fun _ => za))) := by
    show Int32.ofNat 0 + Int32.ofNat (oU1 (oLo (fun _ => za))) = _
    rw [own_sm (by omega) (by omega), Nat.zero_add]
  have hb2 : (oUp (oUp (fun _ => 0) 1 (Int32.ofNat 0 + Int32.ofNat (oU1 (oLo (fun _ => za))))) 2 ((Int32.ofNat 0 + Int32.ofNat (oU1 (oLo (fun _ => za)))) + Int32.ofNat (oU1 (oLo (fun _ => zn))))) 2 = Int32.ofNat (oU1 (oLo (fun _ => za)) + (oU1 (oLo (fun _ => zn)))) := by
    show (Int32.ofNat 0 + Int32.ofNat (oU1 (oLo (fun _ => za)))) + Int32.ofNat (oU1 (oLo (fun _ => zn))) = _
    rw [own_sm (by omega) (by omega), own_sm (by omega) (by omega), Nat.zero_add]
  have f39 := (f26.keep K37 (allS (by omega) (allS (by omega) (allS (by omega) (allS (by omega) (allS (by omega) all0))))))
  have f40 := ((((Ex16.keep K19).ext E21).keep K24).keep K37)
  have f41 := ((((Fv16.keep K19 nin0).ext E21).keep K24 (ninS (oNe (by omega)) nin0)).keep K37 (ninS (oNe (by omega)) (ninS (oNe (by omega)) (ninS (oNe (by omega)) (ninS (oNe (by omega)) (ninS (oNe (by omega)) nin0))))))
  have f42 := ((((Fc16.keep K19 nin0).ext E21).keep K24 (ninS (oNe (by omega)) nin0)).keep K37 (ninS (oNe (by omega)) (ninS (oNe (by omega)) (ninS (oNe (by omega)) (ninS (oNe (by omega)) (ninS (oNe (by omega)) nin0))))))
  have f43 := ((((Vb16.keep K19 nin0).ext E21).keep K24 (ninS (oNe (by omega)) nin0)).keep K37 (ninS (oNe (by omega)) (ninS (oNe (by omega)) (ninS (oNe (by omega)) (ninS (oNe (by omega)) (ninS (oNe (by omega)) nin0))))))
  have f44 := ((((EB16.keep K19).ext E21).keep K24).keep K37)
  have f45 := (f32.keep K37)
  have f46 := (f33.keep K37 (ninS (oNe (by omega)) (ninS (oNe (by omega)) (ninS (oNe (by omega)) (ninS (oNe (by omega)) (ninS (oNe (by omega)) nin0))))))
  have f47 := (f34.keep K37 (ninS (oNe (by omega)) (ninS (oNe (by omega)) (ninS (oNe (by omega)) (ninS (oNe (by omega)) (ninS (oNe (by omega)) nin0))))))
  have f48 := (f35.keep K37 (ninS (oNe (by omega)) (ninS (oNe (by omega)) (ninS (oNe (by omega)) (ninS (oNe (by omega)) (ninS (oNe (by omega)) nin0))))))
  have f49 := (f36.keep K37)
  have hz50 : n0 ≤ T37.heap.size := by omega
  obtain ⟨cq50, kq50, q50a, q50b, q50c⟩ := isOf hZ rfl u0_37
  obtain ⟨_, _, ⟨T50, L50, k50, n50⟩, -, X50, ⟨Lc50, hQ50, l50, y50, z50⟩, st50⟩ := X37.virtualBack hx (y := (⟨"com/example/yusen_ledger/yusenledger/HolderTable", "add", "(Ljava/lang/String;Ljava/lang/String;Lcom/example/yusen_ledger/yusenledger/HolderCategory;)I"⟩ : MethodName)) (z := (⟨"com/example/yusen_ledger/yusenledger/HolderTable", "add", "(Ljava/lang/String;Ljava/lang/String;Lcom/example/yusen_ledger/yusenledger/HolderCategory;)I"⟩ : MethodName)) hown (mvT hZ (hw _ (List.mem_of_getElem? (i := 83) rfl))) (mvT hZ (hw _ (List.mem_of_getElem? (i := 84) rfl))) (notFace_of_selects (args := #[]) (mvT hZ (hw _ (List.mem_of_getElem? (i := 86) rfl)))) (mvT hZ (hw _ (List.mem_of_getElem? (i := 86) rfl))) (mvT hZ (hw _ (List.mem_of_getElem? (i := 85) rfl))) (by decide) (backOf (W := 0) (rmAdd1 l Z a0 hw [] a21 tx24 bo24 ca24 sl24 sFIRST_HASH a12 d16 y19 d19 (oU1 (oLo (fun _ => za)) + (oU1 (oLo (fun _ => zn)))) (oLo (mkC2 za zb)) (oLo (fun _ => zn)) qt37 (oUp (oUp (fun _ => 0) 1 (Int32.ofNat 0 + Int32.ofNat (oU1 (oLo (fun _ => za))))) 2 ((Int32.ofNat 0 + Int32.ofNat (oU1 (oLo (fun _ => za)))) + Int32.ofNat (oU1 (oLo (fun _ => zn))))) qc37 cl cw2 kc2 u cz sz37 (oU1 (oLo (fun _ => za))) T37.heap n0 hz50 f39 SCS hcz SU SI EsFIRST_HASH FK0 FK1 u0_37 u1_37 u2_37 u3_37 u4_37 u5_37 u6_37 u7_37 f40 f41 f42 f43 f44 oFitLo f45 f46 f47 f48 f49 oFitLo Vt37 Ft37 Vo37 Vc37 Vs37 ct2 hr2 (qo37 1 (by decide)) hb2 (by omega) (by omega) (by omega) (by omega) (by omega) (by omega) (by omega) hb0 hb1) hZ (hw _ (List.mem_of_getElem? (i := 87) rfl)) (hw _ (List.mem_of_getElem? (i := 53) rfl)) (by decide) (by decide)) q50a q50c (g := (mkF m 105 #[.val (.int i0), .val (.int i1), .val (.int i2), .val (.int i3), .val (.int i4), .val (.int i5), .val cw1, .val cw2, .val (.ref a3), .val (.ref y10), .val (.ref a12), .val (.ref y19), .val (.ref a21), .val (.int (0 : Int32)), .unset] [cw2, (.ref y19), (.ref a12), (.ref a21)])) rfl (by rw [hml]; rfl) (Steps.refl _) (argsL := [(.ref a12), (.ref y19), cw2]) (rest := []) (lenOf pd_29 rfl) rfl (by show 2 * 0 + _ ≤ _; exact Nat.le_of_eq rfl) (hb hby at_105) (fun _ _ => ⟨rfl, rfl, (by decide : 15 + 3 ≤ _), (by decide : 224 + 9 ≤ _)⟩)
  dsimp only [Pt.U, Pt.locs, Pt.cells, Pt.slots] at X50 l50 y50 z50 st50 hQ50
  subst l50 y50 z50
  obtain ⟨rfl, N50q, K50, u0_50, u1_50, u2_50, u3_50, u4_50, u5_50, u6_50, u7_50, ⟨qc50, Vc50, qk50, qo50⟩⟩ := hQ50
  have N50 := Fr.app N37 N50q
  have z51 : T37.heap.size ≤ T50.heap.size := K50.1
  refine oSt st50 ?_
  show oGl p e below (T50.setTop (mkF m 108 #[.val (.int i0), .val (.int i1), .val (.int i2), .val (.int i3), .val (.int i4), .val (.int i5), .val cw1, .val cw2, .val (.ref a3), .val (.ref y10), .val (.ref a12), .val (.ref y19), .val (.ref a21), .val (.int (0 : Int32)), .unset] [(.int (1 : Int32))])) _
  refine sistore X50 hx (hb hby at_108) rfl rfl (l' := #[.val (.int i0), .val (.int i1), .val (.int i2), .val (.int i3), .val (.int i4), .val (.int i5), .val cw1, .val cw2, .val (.ref a3), .val (.ref y10), .val (.ref a12), .val (.ref y19), .val (.ref a21), .val (.int (0 : Int32)), .val (.int (1 : Int32))]) (pc' := 110) ?_
  refine siload X50 hx (hb hby at_110) rfl rfl (pc' := 112) ?_
  refine sifN X50 hx (hb hby at_112) rfl (teq (by decide : (0 : Int32) = (0 : Int32))).2 (pc' := 115) ?_
  refine siload X50 hx (hb hby at_115) rfl rfl (pc' := 117) ?_
  refine siconst X50 hx (hb hby at_117) rfl rfl (z := 1) (pc' := 118) ?_
  refine sicN X50 hx (hb hby at_118) rfl (teq (by decide : (1 : Int32) = (1 : Int32))).2 (pc' := 121) ?_
  refine saload X50 hx (hb hby at_121) rfl rfl rfl (pc' := 123) ?_
  refine siconst X50 hx (hb hby at_123) rfl rfl (z := 0) (pc' := 124) ?_
  have f52 := (f39.keep K50 (allS (by omega) (allS (by omega) (allS (by omega) (allS (by omega) (allS (by omega) all0))))))
  have hz53 : n0 ≤ T50.heap.size := by omega
  obtain ⟨cq53, kq53, q53a, q53b, q53c⟩ := isOf hZ rfl u0_50
  obtain ⟨_, _, ⟨T53, L53, k53, n53⟩, -, X53, ⟨Lc53, hQ53, l53, y53, z53⟩, st53⟩ := X50.virtualBack hx (y := (⟨"com/example/yusen_ledger/yusenledger/HolderTable", "category", "(I)Lcom/example/yusen_ledger/yusenledger/HolderCategory;"⟩ : MethodName)) (z := (⟨"com/example/yusen_ledger/yusenledger/HolderTable", "category", "(I)Lcom/example/yusen_ledger/yusenledger/HolderCategory;"⟩ : MethodName)) hown (mvT hZ (hw _ (List.mem_of_getElem? (i := 172) rfl))) (mvT hZ (hw _ (List.mem_of_getElem? (i := 173) rfl))) (notFace_of_selects (args := #[]) (mvT hZ (hw _ (List.mem_of_getElem? (i := 175) rfl)))) (mvT hZ (hw _ (List.mem_of_getElem? (i := 175) rfl))) (mvT hZ (hw _ (List.mem_of_getElem? (i := 174) rfl))) (by decide) (backOf (W := 0) (rmCat0 l Z a0 hw [] a21 ca24 cg qc50 cl cw1 kc1 T50.heap n0 hz53 f52 SCG AC CN u3_50 Vc50 ct1 ((qo50 0 (by decide)).trans qk37)) hZ (hw _ (List.mem_of_getElem? (i := 176) rfl)) (hw _ (List.mem_of_getElem? (i := 53) rfl)) (by decide) (by decide)) q53a q53c (g := (mkF m 124 #[.val (.int i0), .val (.int i1), .val (.int i2), .val (.int i3), .val (.int i4), .val (.int i5), .val cw1, .val cw2, .val (.ref a3), .val (.ref y10), .val (.ref a12), .val (.ref y19), .val (.ref a21), .val (.int (0 : Int32)), .val (.int (1 : Int32))] [(.int (0 : Int32)), (.ref a21)])) rfl (by rw [hml]; rfl) (Steps.refl _) (argsL := [(.int (0 : Int32))]) (rest := []) (lenOf pd_26 rfl) rfl (by show 2 * 0 + _ ≤ _; exact Nat.le_of_eq rfl) (hb hby at_124) (fun _ _ => ⟨rfl, rfl, (by decide : 18 + 0 ≤ _), (by decide : 233 + 0 ≤ _)⟩)
  dsimp only [Pt.U, Pt.locs, Pt.cells, Pt.slots] at X53 l53 y53 z53 st53 hQ53
  subst l53 y53 z53
  obtain ⟨rfl, N53q, eh53⟩ := hQ53
  have N53 := Fr.app N50 N53q
  refine oSt st53 ?_
  show oGl p e below (T53.setTop (mkF m 127 #[.val (.int i0), .val (.int i1), .val (.int i2), .val (.int i3), .val (.int i4), .val (.int i5), .val cw1, .val cw2, .val (.ref a3), .val (.ref y10), .val (.ref a12), .val (.ref y19), .val (.ref a21), .val (.int (0 : Int32)), .val (.int (1 : Int32))] [cw1])) _
  refine saload X53 hx (hb hby at_127) rfl rfl hr1 (pc' := 129) ?_
  refine oOn (fun _ kK => Jvm.RoadKit.acmp (g := (mkF m 129 #[.val (.int i0), .val (.int i1), .val (.int i2), .val (.int i3), .val (.int i4), .val (.int i5), .val cw1, .val cw2, .val (.ref a3), .val (.ref y10), .val (.ref a12), .val (.ref y19), .val (.ref a21), .val (.int (0 : Int32)), .val (.int (1 : Int32))] [cw1, cw1])) X53 hx rfl hr1 hr1 (pc0 := 129) (pc' := 132) (same := true) rfl (hb hby at_129) rfl (decide_eq_true rfl) (by decide) (by decide) kK) ?_
  show oGl p e below (T53.setTop (mkF m 132 #[.val (.int i0), .val (.int i1), .val (.int i2), .val (.int i3), .val (.int i4), .val (.int i5), .val cw1, .val cw2, .val (.ref a3), .val (.ref y10), .val (.ref a12), .val (.ref y19), .val (.ref a21), .val (.int (0 : Int32)), .val (.int (1 : Int32))] [])) _
  refine saload X53 hx (hb hby at_132) rfl rfl rfl (pc' := 134) ?_
  refine siconst X53 hx (hb hby at_134) rfl rfl (z := 1) (pc' := 135) ?_
  have hz54 : n0 ≤ T50.heap.size := by omega
  obtain ⟨cq54, kq54, q54a, q54b, q54c⟩ := isOf hZ eh53 u0_50
  obtain ⟨_, _, ⟨T54, L54, k54, n54⟩, -, X54, ⟨Lc54, hQ54, l54, y54, z54⟩, st54⟩ := X53.virtualBack hx (y := (⟨"com/example/yusen_ledger/yusenledger/HolderTable", "category", "(I)Lcom/example/yusen_ledger/yusenledger/HolderCategory;"⟩ : MethodName)) (z := (⟨"com/example/yusen_ledger/yusenledger/HolderTable", "category", "(I)Lcom/example/yusen_ledger/yusenledger/HolderCategory;"⟩ : MethodName)) hown (mvT hZ (hw _ (List.mem_of_getElem? (i := 172) rfl))) (mvT hZ (hw _ (List.mem_of_getElem? (i := 173) rfl))) (notFace_of_selects (args := #[]) (mvT hZ (hw _ (List.mem_of_getElem? (i := 175) rfl)))) (mvT hZ (hw _ (List.mem_of_getElem? (i := 175) rfl))) (mvT hZ (hw _ (List.mem_of_getElem? (i := 174) rfl))) (by decide) (backOf (W := 0) (rmCat1 l Z a0 hw [] a21 ca24 cg qc50 cl cw2 kc2 T50.heap n0 hz54 f52 SCG AC CN u3_50 Vc50 ct2 qk50) hZ (hw _ (List.mem_of_getElem? (i := 176) rfl)) (hw _ (List.mem_of_getElem? (i := 53) rfl)) (by decide) (by decide)) q54a q54c (g := (mkF m 135 #[.val (.int i0), .val (.int i1), .val (.int i2), .val (.int i3), .val (.int i4), .val (.int i5), .val cw1, .val cw2, .val (.ref a3), .val (.ref y10), .val (.ref a12), .val (.ref y19), .val (.ref a21), .val (.int (0 : Int32)), .val (.int (1 : Int32))] [(.int (1 : Int32)), (.ref a21)])) rfl (by rw [hml]; rfl) (Steps.refl _) (argsL := [(.int (1 : Int32))]) (rest := []) (lenOf pd_26 rfl) rfl (by show 2 * 0 + _ ≤ _; exact Nat.le_of_eq rfl) (hb hby at_135) (fun _ _ => ⟨rfl, eh53, (by decide : 18 + 0 ≤ _), (by decide : 233 + 0 ≤ _)⟩)
  dsimp only [Pt.U, Pt.locs, Pt.cells, Pt.slots] at X54 l54 y54 z54 st54 hQ54
  subst l54 y54 z54
  obtain ⟨rfl, N54q, eh54⟩ := hQ54
  have N54 := Fr.app N53 N54q
  refine oSt st54 ?_
  show oGl p e below (T54.setTop (mkF m 138 #[.val (.int i0), .val (.int i1), .val (.int i2), .val (.int i3), .val (.int i4), .val (.int i5), .val cw1, .val cw2, .val (.ref a3), .val (.ref y10), .val (.ref a12), .val (.ref y19), .val (.ref a21), .val (.int (0 : Int32)), .val (.int (1 : Int32))] [cw2])) _
  refine saload X54 hx (hb hby at_138) rfl rfl hr2 (pc' := 140) ?_
  refine oOn (fun _ kK => Jvm.RoadKit.acmp (g := (mkF m 140 #[.val (.int i0), .val (.int i1), .val (.int i2), .val (.int i3), .val (.int i4), .val (.int i5), .val cw1, .val cw2, .val (.ref a3), .val (.ref y10), .val (.ref a12), .val (.ref y19), .val (.ref a21), .val (.int (0 : Int32)), .val (.int (1 : Int32))] [cw2, cw2])) X54 hx rfl hr2 hr2 (pc0 := 140) (pc' := 143) (same := true) rfl (hb hby at_140) rfl (decide_eq_true rfl) (by decide) (by decide) kK) ?_
  show oGl p e below (T54.setTop (mkF m 143 #[.val (.int i0), .val (.int i1), .val (.int i2), .val (.int i3), .val (.int i4), .val (.int i5), .val cw1, .val cw2, .val (.ref a3), .val (.ref y10), .val (.ref a12), .val (.ref y19), .val (.ref a21), .val (.int (0 : Int32)), .val (.int (1 : Int32))] [])) _
  refine siconst X54 hx (hb hby at_143) rfl rfl (z := 1) (pc' := 144) ?_
  refine sgoto X54 hx (hb hby at_144) (by decide) (by decide)  (pc' := 148) ?_
  refine oRetN (t := .boolean) X54 hx Bd.notSynchronized Bd.returns (by simp) (hb hby at_148) (by decide) (by decide) ?_
  show Q_rmL Z i0 i1 i2 i3 i4 i5 sSECURITIES sFIRST_HASH sCORPORATE sFINANCIAL sFOREIGN_CORPORATE sINDIVIDUAL sFOREIGN_INDIVIDUAL sGOVERNMENT cg u cl cz h0 n0 _ T54.heap _
  rw [eh54]
  exact ⟨rfl, N54⟩
theorem oFldJ {Z : State} {as : Array Value} {t : Term} {C n d : String} {k : Int64} {a : Addr} (q : (Jvm.Cond.eq (.field t C n d) (.long k)).before as Z = true) (ev : t.eval as Z none [] Z = some (.ref a)) : Fld Z Z.heap a C n d (.long k) := by
  have q' := Cond.before_iff.mp q
  have e1 : (Term.field t C n d).eval as Z none [] Z = Z.fieldOf? a C n d := by simp [Term.eval, ev]
  refine Fld.start ?_
  simp only [Cond.value, e1] at q'
  cases hf : Z.fieldOf? a C n d with
  | none => simp [hf] at q'
  | some v => cases v <;> simp [hf, Term.eval] at q' ⊢; exact q'
theorem oElemR {Z : State} {as : Array Value} {t u : Term} {ca x : Addr} {cl : Cell} {ty : FieldType} {j : Int32} (ev : t.eval as Z none [] Z = some (.ref ca)) (A : Arr Z Z.heap ca cl ty) (q : (Jvm.Cond.eq (.elem t (.int j)) u).before as Z = true) (eu : u.eval as Z none [] Z = some (.ref x)) (hj : ¬ j < 0) : cl.slots[j.toNatClampNeg]? = some (.ref x) := by
  have q' := Cond.eq_refs q eu rfl
  have e1 := own_arrAt A
  simp only [Term.eval] at q' ev
  rw [ev] at q'
  simpa [e1, hj] using q'

theorem oArrR {Z : State} {as : Array Value} {t : Term} {ty : FieldType} (q : (Jvm.Cond.arrayOf t ty).before as Z = true) : ∃ a : Nat, t.eval as Z none [] Z = some (.ref a) := by
  have q' := Cond.before_iff.mp q
  simp only [Cond.value] at q'
  cases hf : t.eval as Z none [] Z with
  | none => simp [hf] at q'
  | some v => cases v <;> simp [hf] at q' ⊢
set_option maxRecDepth 65536 in
set_option maxHeartbeats 40000000 in
theorem comes_1 {Post : Tables → Env → Array Value → State → Outcome → State → Prop} (hpost : ∀ tb e args s v u, (limb_1_1.after args s (.returned v) u = true ∧ limb_1_2.after args s (.returned v) u = true ∧ True) → FrameEnd s (.returned v) u (Jvm.fieldLocs frame_1_writes args s ++ Jvm.arrayLocs frame_1_arrays args s ++ Jvm.staticLocs frame_1_statics s) 48 576 → Post tb e args s (.returned v) u) :
    ArmFor flags0 classFile x code maxLocals ret World_1 tables_1 room_1 Calls_1 rest_1 Pre_1 Post := by
  intro l hfl _ _ p e ha hc hk s m args below hf hA hF happ hP
  obtain ⟨hcalls, hrest, hpre⟩ := hP
  obtain ⟨-, -, -, hnamed, -, -, -, hat⟩ := (Spec.applies_iff hf).mp happ
  obtain ⟨hg, hn⟩ := oAnd (show (Jvm.Cond.and given_1 narrow_1).before args s = true from hpre)
  obtain ⟨gc, hg0⟩ := oAnd hg
  obtain ⟨ga0, hg1⟩ := oAnd hg0
  obtain ⟨ga1, hg2⟩ := oAnd hg1
  obtain ⟨ga2, hg3⟩ := oAnd hg2
  obtain ⟨ga3, hg4⟩ := oAnd hg3
  obtain ⟨ga4, hg5⟩ := oAnd hg4
  have ga5 := hg5
  obtain ⟨w0, w1, w2, w3, w4, w5, rfl⟩ : ∃ w0 w1 w2 w3 w4 w5 : Value, args = #[w0, w1, w2, w3, w4, w5] := by
    have hs : args.size = 6 := by simpa [Cond.before, Cond.holds, Cond.value] using gc
    obtain ⟨L⟩ := args
    match L, hs with
    | [w0, w1, w2, w3, w4, w5], _ => exact ⟨w0, w1, w2, w3, w4, w5, rfl⟩
  obtain ⟨i0, rfl⟩ := oArgI ga0 rfl
  obtain ⟨i1, rfl⟩ := oArgI ga1 rfl
  obtain ⟨i2, rfl⟩ := oArgI ga2 rfl
  obtain ⟨i3, rfl⟩ := oArgI ga3 rfl
  obtain ⟨i4, rfl⟩ := oArgI ga4 rfl
  obtain ⟨i5, rfl⟩ := oArgI ga5 rfl
  have hw := fun d (hd : d ∈ tables_1) => atoms_spec (ws := Jvm.Cond.code x code maxLocals ret :: tables_1) hat d (List.mem_cons_of_mem _ hd)
  have hfit : Fit s := fun {y c} hc i hi => by
    obtain ⟨ha, rfl⟩ := Array.getElem?_eq_some_iff.mp hc
    have q := List.all_eq_true.mp ((Array.all_eq_true_iff_forall_mem.mp hF) _ (Array.getElem_mem ha)) i (List.mem_range.mpr hi)
    simpa [Array.getElem?_eq_getElem hi] using q
  obtain ⟨nr0, hn0⟩ := oAnd hn
  obtain ⟨nr1, hn1⟩ := oAnd hn0
  obtain ⟨nr2, hn2⟩ := oAnd hn1
  obtain ⟨nr3, hn3⟩ := oAnd hn2
  obtain ⟨nr4, hn4⟩ := oAnd hn3
  obtain ⟨nr5, hn5⟩ := oAnd hn4
  obtain ⟨nr6, hn6⟩ := oAnd hn5
  obtain ⟨nr7, hn7⟩ := oAnd hn6
  obtain ⟨nr8, hn8⟩ := oAnd hn7
  obtain ⟨nr9, hn9⟩ := oAnd hn8
  obtain ⟨nr10, hn10⟩ := oAnd hn9
  obtain ⟨nr11, hn11⟩ := oAnd hn10
  obtain ⟨nr12, hn12⟩ := oAnd hn11
  obtain ⟨nr13, hn13⟩ := oAnd hn12
  obtain ⟨nr14, hn14⟩ := oAnd hn13
  obtain ⟨nr15, hn15⟩ := oAnd hn14
  obtain ⟨nr16, hn16⟩ := oAnd hn15
  obtain ⟨nr17, hn17⟩ := oAnd hn16
  obtain ⟨nr18, hn18⟩ := oAnd hn17
  obtain ⟨nr19, hn19⟩ := oAnd hn18
  obtain ⟨nr20, hn20⟩ := oAnd hn19
  obtain ⟨nr21, hn21⟩ := oAnd hn20
  obtain ⟨nr22, hn22⟩ := oAnd hn21
  obtain ⟨nr23, hn23⟩ := oAnd hn22
  obtain ⟨nr24, hn24⟩ := oAnd hn23
  have nr25 := hn24
  obtain ⟨sSECURITIES, evsSECURITIES, SsSECURITIES, EsSECURITIES⟩ := oStaR nr0 (hw _ (List.mem_of_getElem? (i := 5) rfl)) (hw _ (List.mem_of_getElem? (i := 6) rfl))
  have FsSECURITIES := oFldI nr4 evsSECURITIES
  obtain ⟨sFIRST_HASH, evsFIRST_HASH, SsFIRST_HASH, EsFIRST_HASH⟩ := oStaR nr1 (hw _ (List.mem_of_getElem? (i := 53) rfl)) (hw _ (List.mem_of_getElem? (i := 60) rfl))
  obtain ⟨sCORPORATE, evsCORPORATE, SsCORPORATE, EsCORPORATE⟩ := oStaR nr8 (hw _ (List.mem_of_getElem? (i := 5) rfl)) (hw _ (List.mem_of_getElem? (i := 180) rfl))
  have FsCORPORATE := oFldI nr10 evsCORPORATE
  obtain ⟨sFINANCIAL, evsFINANCIAL, SsFINANCIAL, EsFINANCIAL⟩ := oStaR nr9 (hw _ (List.mem_of_getElem? (i := 5) rfl)) (hw _ (List.mem_of_getElem? (i := 182) rfl))
  have FsFINANCIAL := oFldI nr11 evsFINANCIAL
  obtain ⟨sFOREIGN_CORPORATE, evsFOREIGN_CORPORATE, SsFOREIGN_CORPORATE, EsFOREIGN_CORPORATE⟩ := oStaR nr14 (hw _ (List.mem_of_getElem? (i := 5) rfl)) (hw _ (List.mem_of_getElem? (i := 184) rfl))
  have FsFOREIGN_CORPORATE := oFldI nr15 evsFOREIGN_CORPORATE
  obtain ⟨sINDIVIDUAL, evsINDIVIDUAL, SsINDIVIDUAL, EsINDIVIDUAL⟩ := oStaR nr17 (hw _ (List.mem_of_getElem? (i := 5) rfl)) (hw _ (List.mem_of_getElem? (i := 199) rfl))
  have FsINDIVIDUAL := oFldI nr18 evsINDIVIDUAL
  obtain ⟨sFOREIGN_INDIVIDUAL, evsFOREIGN_INDIVIDUAL, SsFOREIGN_INDIVIDUAL, EsFOREIGN_INDIVIDUAL⟩ := oStaR nr20 (hw _ (List.mem_of_getElem? (i := 5) rfl)) (hw _ (List.mem_of_getElem? (i := 201) rfl))
  have FsFOREIGN_INDIVIDUAL := oFldI nr22 evsFOREIGN_INDIVIDUAL
  obtain ⟨sGOVERNMENT, evsGOVERNMENT, SsGOVERNMENT, EsGOVERNMENT⟩ := oStaR nr21 (hw _ (List.mem_of_getElem? (i := 5) rfl)) (hw _ (List.mem_of_getElem? (i := 203) rfl))
  have FsGOVERNMENT := oFldI nr23 evsGOVERNMENT
  obtain ⟨hsets, -⟩ := atoms_of _ (rest_1_c_eq ▸ (show rest_1_c.before _ s = true from hrest))
  obtain ⟨cz, ecz⟩ := is_v (Cond.before_iff.mp (hsets _ (List.mem_of_getElem? (i := 1) rfl)))
  have SCS : Sta s s.heap "java/lang/String" "COMPACT_STRINGS" "Z" (.int cz) := Sta.start ecz (Or.inl (hsets _ (List.mem_of_getElem? (i := 0) rfl)))
  have hcz : ¬ (cz = (0 : Int32)) := gotF (Cond.eq_ints ecz (Term.int_eval (0))) (not_v (Cond.before_iff.mp (hsets _ (List.mem_of_getElem? (i := 2) rfl))))
  obtain ⟨u, _, _, _, eI, -⟩ := Cond.exactly_spec (hsets _ (List.mem_of_getElem? (i := 17) rfl))
  have eU := Cond.eq_refs (hsets _ (List.mem_of_getElem? (i := 13) rfl)) eI rfl
  have SI := Sta.start eI (Or.inl (hsets _ (List.mem_of_getElem? (i := 12) rfl)))
  have SU := Sta.start eU (Or.inl (hsets _ (List.mem_of_getElem? (i := 10) rfl)))
  obtain ⟨cg, ecg⟩ := oArrR nr5
  have SCG := Sta.start ecg (Or.inr ⟨(hw _ (List.mem_of_getElem? (i := 53) rfl)), (hw _ (List.mem_of_getElem? (i := 178) rfl))⟩)
  obtain ⟨cl, AC⟩ := Arr.start ecg (Cond.before_iff.mp nr5)
  have CN := oLenK (N := 7) ecg AC nr6 rfl
  have elSECURITIES := oElemR ecg AC nr7 evsSECURITIES (by decide)
  have elCORPORATE := oElemR ecg AC nr12 evsCORPORATE (by decide)
  have elFINANCIAL := oElemR ecg AC nr13 evsFINANCIAL (by decide)
  have elFOREIGN_CORPORATE := oElemR ecg AC nr16 evsFOREIGN_CORPORATE (by decide)
  have elINDIVIDUAL := oElemR ecg AC nr19 evsINDIVIDUAL (by decide)
  have elFOREIGN_INDIVIDUAL := oElemR ecg AC nr24 evsFOREIGN_INDIVIDUAL (by decide)
  have elGOVERNMENT := oElemR ecg AC nr25 evsGOVERNMENT (by decide)
  have FK0 := oFldJ nr2 evsFIRST_HASH
  have FK1 := oFldJ nr3 evsFIRST_HASH
  obtain ⟨n, o, h1, h2, h3, _, L, rfl, ⟨rfl, N⟩, hq⟩ := rmL l s _ hw tables_1 i0 i1 i2 i3 i4 i5 sSECURITIES sFIRST_HASH sCORPORATE sFINANCIAL sFOREIGN_CORPORATE sINDIVIDUAL sFOREIGN_INDIVIDUAL sGOVERNMENT cg u cl cz s.heap s.heap.size (Nat.le_refl _) (Old.start s) SsSECURITIES EsSECURITIES FsSECURITIES SsFIRST_HASH EsFIRST_HASH SsCORPORATE EsCORPORATE FsCORPORATE SsFINANCIAL EsFINANCIAL FsFINANCIAL SsFOREIGN_CORPORATE EsFOREIGN_CORPORATE FsFOREIGN_CORPORATE SsINDIVIDUAL EsINDIVIDUAL FsINDIVIDUAL SsFOREIGN_INDIVIDUAL EsFOREIGN_INDIVIDUAL FsFOREIGN_INDIVIDUAL SsGOVERNMENT EsGOVERNMENT FsGOVERNMENT SCS hcz SU SI SCG AC CN elSECURITIES elCORPORATE elFINANCIAL elFOREIGN_CORPORATE elINDIVIDUAL elFOREIGN_INDIVIDUAL elGOVERNMENT FK0 FK1 p e ha hc hk s m _ below hf ((Spec.applies_iff_loose hf).mp happ).1 ⟨rfl, State.Warmed39.refl s, rfl⟩ trivial
  refine ⟨n, _, h1, h2, h3, hpost _ _ _ _ _ _ ⟨Cond.after_iff.mpr rfl, Cond.after_iff.mpr (eq_i res_at (Term.int_eval (1)) rfl), trivial⟩ ⟨hq.1, hq.2.1, (hq.2.2.sift fun y hy => Or.inr (N y hy)).mono (by decide) (by decide)⟩⟩
theorem main_1_1 : Claimed_1_1 := comes_1 fun _ _ _ _ _ _ h hF => ⟨h.1, hF⟩
theorem main_1_2 : Claimed_1_2 := comes_1 fun _ _ _ _ _ _ h hF => ⟨h.2.1, hF⟩
end Jvm.Pilot.@@N@@
namespace Jvm.Pilot.@@N@@
open Jvm Jvm.ClassFile Sem Op Lib Jvm.Free Jvm.Stand Jvm.Pilot.@@N@@.Jvm.D
/-! MADE BY PROGRAM (witnessworld.py) out of the Statement's table words and the real class files: 38 classes; the members and pool entries that the words name. The judged class is class 1, her method 2. -/
namespace start1
open Jvm.ClassFile
def u (s : String) : CpInfo := .utf8 (stringToUtf16 s)
/-- a pool by its gaps: so many unusable entries, then the entry; so many at the end -/
def gap : Nat → List CpInfo → List CpInfo
  | 0, r => r
  | n + 1, r => .unusable :: gap n r
def poolList (es : List (Nat × CpInfo)) (last : Nat) : List CpInfo := es.foldr (fun e r => gap e.1 (e.2 :: r)) (gap last [])
def pool (es : List (Nat × CpInfo)) (last : Nat) : Array CpInfo := ⟨poolList es last⟩
def fileOf (pool : Array CpInfo) (this : Nat) (attrs : Array Attribute := #[]) (ms : Array MethodInfo := #[]) (fl : Nat := 33) (sup : Nat := 0) (ifs : Array Nat := #[]) (fds : Array FieldInfo := #[]) : ClassFile where
  minorVersion := 0
  majorVersion := 65
  constantPool := pool
  accessFlags := fl
  thisClass := this
  superClass := sup
  interfaces := ifs
  fields := fds
  methods := ms
  attributes := attrs
def plain (name : String) (sup : Option ClassId) : Class where
  name := name
  kind := .ordinary
  loader := none
  accessFlags := 33
  super := sup
  interfaces := #[]
  cf := none
  fields := #[]
  methods := #[]
  instanceTypes := #[]
  staticTypes := #[]
  resolved := #[]
  callSites := []
  init := .initialized
  statics := none
  mirror := none

def pool0 : Array CpInfo := pool [(5, u "<init>"), (0, u "()V"), (1, .class_ 10), (1, u "java/lang/Object"), (85, u "clone"), (0, u "()Ljava/lang/Object;")] 26

def k0c0 : Code := { maxStack := 0, maxLocals := 1, code := object_method_1_code, exceptionTable := #[], attributes := #[] }
def k0m0 : Method := { name := "<init>", desc := "()V", sig := { parameters := [], returnType := none }, accessFlags := 1, code := some k0c0 }
def k0m1 : Method := { name := "clone", desc := "()Ljava/lang/Object;", sig := { parameters := [], returnType := some (.object "java/lang/Object") }, accessFlags := 260, code := none }
/-- java/lang/Object -/
def k0 : Class := { plain "java/lang/Object" none with
  accessFlags := 33
  interfaces := #[]
  cf := some (fileOf pool0 8 #[] #[{ accessFlags := 1, nameIndex := 5, descriptorIndex := 6, attributes := #[] }, { accessFlags := 260, nameIndex := 96, descriptorIndex := 97, attributes := #[] }] 33 0 #[] #[])
  fields := #[]
  methods := #[k0m0, k0m1]
  instanceTypes := #[]
  staticTypes := #[]
  resolved := Array.replicate 124 none
  statics := none }

def pool1 : Array CpInfo := pool [(2, .class_ 4), (1, u "java/lang/Object"), (0, u "<init>"), (0, u "()V"), (0, .fieldref 8 9), (0, .class_ 10), (0, .nameAndType 11 12), (0, u "com/example/yusen_ledger/yusenledger/HolderCategory"), (0, u "GOVERNMENT"), (0, u "Lcom/example/yusen_ledger/yusenledger/HolderCategory;"), (0, .fieldref 8 14), (0, .nameAndType 15 12), (0, u "FINANCIAL"), (0, .fieldref 8 17), (0, .nameAndType 18 12), (0, u "SECURITIES"), (0, .fieldref 8 20), (0, .nameAndType 21 12), (0, u "CORPORATE"), (0, .fieldref 8 23), (0, .nameAndType 24 12), (0, u "FOREIGN_CORPORATE"), (0, .fieldref 8 26), (0, .nameAndType 27 12), (0, u "FOREIGN_INDIVIDUAL"), (0, .fieldref 8 29), (0, .nameAndType 30 12), (0, u "INDIVIDUAL"), (0, .methodref 32 33), (0, .class_ 34), (0, .nameAndType 35 36), (0, u "com/example/yusen_ledger/yusenledger/HolderTableCategoryPinLaw"), (0, u "pick"), (0, u "(I)Lcom/example/yusen_ledger/yusenledger/HolderCategory;"), (0, .methodref 38 39), (0, .class_ 40), (0, .nameAndType 41 42), (0, u "java/lang/String"), (0, u "valueOf"), (0, u "(C)Ljava/lang/String;"), (0, .methodref 38 44), (0, .nameAndType 5 45), (0, u "([C)V"), (0, .class_ 47), (0, u "com/example/yusen_ledger/yusenledger/HolderTable"), (0, .methodref 46 49), (0, .nameAndType 5 50), (0, u "(I)V"), (0, .methodref 46 52), (0, .nameAndType 53 54), (0, u "add"), (0, u "(Ljava/lang/String;Ljava/lang/String;Lcom/example/yusen_ledger/yusenledger/HolderCategory;)I"), (0, .methodref 46 56), (0, .nameAndType 57 36), (0, u "category"), (3, u "law"), (0, u "(IIIIII)Z")] 4

def k1m0 : Method := { name := "<init>", desc := "()V", sig := { parameters := [], returnType := none }, accessFlags := 1, code := none }
def k1c1 : Code := { maxStack := 2, maxLocals := 2, code := method_2_code, exceptionTable := #[], attributes := #[] }
def k1m1 : Method := { name := "pick", desc := "(I)Lcom/example/yusen_ledger/yusenledger/HolderCategory;", sig := { parameters := [.int], returnType := some (.object "com/example/yusen_ledger/yusenledger/HolderCategory") }, accessFlags := 10, code := some k1c1 }
def k1c2 : Code := { maxStack := 4, maxLocals := 15, code := code, exceptionTable := #[], attributes := #[] }
def k1m2 : Method := { name := "law", desc := "(IIIIII)Z", sig := { parameters := [.int, .int, .int, .int, .int, .int], returnType := some .boolean }, accessFlags := 9, code := some k1c2 }
/-- com/example/yusen_ledger/yusenledger/HolderTableCategoryPinLaw -/
def k1 : Class := { plain "com/example/yusen_ledger/yusenledger/HolderTableCategoryPinLaw" (some 0) with
  accessFlags := 49
  interfaces := #[]
  cf := some (fileOf pool1 32 #[] #[{ accessFlags := 1, nameIndex := 5, descriptorIndex := 6, attributes := #[] }, { accessFlags := 10, nameIndex := 35, descriptorIndex := 36, attributes := #[] }, { accessFlags := 9, nameIndex := 61, descriptorIndex := 62, attributes := #[] }] 49 2 #[] #[])
  fields := #[]
  methods := #[k1m0, k1m1, k1m2]
  instanceTypes := #[]
  staticTypes := #[]
  resolved := Array.replicate 67 none
  statics := none }

def pool2 : Array CpInfo := pool [(1, .class_ 2), (0, u "java/lang/constant/Constable"), (0, .class_ 4), (0, u "java/lang/Object")] 6

/-- java/lang/constant/Constable -/
def k2 : Class := { plain "java/lang/constant/Constable" (some 0) with
  accessFlags := 1537
  interfaces := #[]
  cf := some (fileOf pool2 1 #[] #[] 1537 3 #[] #[])
  fields := #[]
  methods := #[]
  instanceTypes := #[]
  staticTypes := #[]
  resolved := Array.replicate 11 none
  statics := none }

def pool3 : Array CpInfo := pool [(1, .class_ 2), (0, u "java/lang/Comparable"), (0, .class_ 4), (0, u "java/lang/Object")] 7

/-- java/lang/Comparable -/
def k3 : Class := { plain "java/lang/Comparable" (some 0) with
  accessFlags := 1537
  interfaces := #[]
  cf := some (fileOf pool3 1 #[] #[] 1537 3 #[] #[])
  fields := #[]
  methods := #[]
  instanceTypes := #[]
  staticTypes := #[]
  resolved := Array.replicate 12 none
  statics := none }

def pool4 : Array CpInfo := pool [(1, .class_ 2), (0, u "java/io/Serializable"), (0, .class_ 4), (0, u "java/lang/Object")] 2

/-- java/io/Serializable -/
def k4 : Class := { plain "java/io/Serializable" (some 0) with
  accessFlags := 1537
  interfaces := #[]
  cf := some (fileOf pool4 1 #[] #[] 1537 3 #[] #[])
  fields := #[]
  methods := #[]
  instanceTypes := #[]
  staticTypes := #[]
  resolved := Array.replicate 7 none
  statics := none }

def pool5 : Array CpInfo := pool [(2, .class_ 4), (1, u "java/lang/Enum"), (0, u "name"), (0, u "Ljava/lang/String;"), (0, .fieldref 2 8), (0, .nameAndType 9 10), (0, u "ordinal"), (0, u "I"), (1, .class_ 14), (1, u "java/lang/Object"), (4, u "hash"), (86, .class_ 108), (1, u "java/lang/Enum$EnumDesc"), (2, .class_ 112), (0, u "java/lang/constant/Constable"), (0, .class_ 114), (0, u "java/lang/Comparable"), (0, .class_ 116), (0, u "java/io/Serializable"), (9, u "()I")] 77

def k5c0 : Code := { maxStack := 1, maxLocals := 1, code := jdk_37_method_2_code, exceptionTable := #[], attributes := #[] }
def k5m0 : Method := { name := "ordinal", desc := "()I", sig := { parameters := [], returnType := some .int }, accessFlags := 17, code := some k5c0 }
/-- java/lang/Enum -/
def k5 : Class := { plain "java/lang/Enum" (some 0) with
  accessFlags := 1057
  interfaces := #[2, 3, 4]
  cf := some (fileOf pool5 2 #[.nestMembers #[106]] #[{ accessFlags := 17, nameIndex := 9, descriptorIndex := 126, attributes := #[] }] 1057 12 #[111, 113, 115] #[{ accessFlags := 18, nameIndex := 5, descriptorIndex := 6, attributes := #[] }, { accessFlags := 18, nameIndex := 9, descriptorIndex := 10, attributes := #[] }, { accessFlags := 2, nameIndex := 19, descriptorIndex := 10, attributes := #[] }])
  fields := #[{ name := "name", type := (.object "java/lang/String"), accessFlags := 18, slot := 0, constantValue := 0 }, { name := "ordinal", type := .int, accessFlags := 18, slot := 1, constantValue := 0 }, { name := "hash", type := .int, accessFlags := 2, slot := 2, constantValue := 0 }]
  methods := #[k5m0]
  instanceTypes := #[(.object "java/lang/String"), .int, .int]
  staticTypes := #[]
  resolved := Array.replicate 204 none
  statics := none }

def pool6 : Array CpInfo := pool [(1, .class_ 2), (0, u "com/example/yusen_ledger/yusenledger/Keyword"), (0, .class_ 4), (0, u "java/lang/Object")] 4

/-- com/example/yusen_ledger/yusenledger/Keyword -/
def k6 : Class := { plain "com/example/yusen_ledger/yusenledger/Keyword" (some 0) with
  accessFlags := 1536
  interfaces := #[]
  cf := some (fileOf pool6 1 #[] #[] 1536 3 #[] #[])
  fields := #[]
  methods := #[]
  instanceTypes := #[]
  staticTypes := #[]
  resolved := Array.replicate 9 none
  statics := none }

def pool7 : Array CpInfo := pool [(1, .class_ 2), (0, u "com/example/yusen_ledger/yusenledger/HolderCategory"), (2, u "GOVERNMENT"), (0, u "Lcom/example/yusen_ledger/yusenledger/HolderCategory;"), (2, u "FINANCIAL"), (2, u "SECURITIES"), (2, u "CORPORATE"), (2, u "FOREIGN_CORPORATE"), (2, u "FOREIGN_INDIVIDUAL"), (2, u "INDIVIDUAL"), (2, u "$VALUES"), (0, u "[Lcom/example/yusen_ledger/yusenledger/HolderCategory;"), (6, .class_ 37), (1, u "java/lang/Enum"), (8, u "id"), (0, u "Ljava/lang/String;"), (2, u "word"), (57, .class_ 109), (0, u "com/example/yusen_ledger/yusenledger/Keyword")] 14

/-- com/example/yusen_ledger/yusenledger/HolderCategory -/
def k7 : Class := { plain "com/example/yusen_ledger/yusenledger/HolderCategory" (some 5) with
  accessFlags := 16433
  interfaces := #[6]
  cf := some (fileOf pool7 1 #[] #[] 16433 35 #[108] #[{ accessFlags := 16409, nameIndex := 5, descriptorIndex := 6, attributes := #[] }, { accessFlags := 16409, nameIndex := 9, descriptorIndex := 6, attributes := #[] }, { accessFlags := 16409, nameIndex := 12, descriptorIndex := 6, attributes := #[] }, { accessFlags := 16409, nameIndex := 15, descriptorIndex := 6, attributes := #[] }, { accessFlags := 16409, nameIndex := 18, descriptorIndex := 6, attributes := #[] }, { accessFlags := 16409, nameIndex := 21, descriptorIndex := 6, attributes := #[] }, { accessFlags := 16409, nameIndex := 24, descriptorIndex := 6, attributes := #[] }, { accessFlags := 18, nameIndex := 46, descriptorIndex := 47, attributes := #[] }, { accessFlags := 18, nameIndex := 50, descriptorIndex := 47, attributes := #[] }, { accessFlags := 4122, nameIndex := 27, descriptorIndex := 28, attributes := #[] }])
  fields := #[{ name := "GOVERNMENT", type := (.object "com/example/yusen_ledger/yusenledger/HolderCategory"), accessFlags := 16409, slot := 0, constantValue := 0 }, { name := "FINANCIAL", type := (.object "com/example/yusen_ledger/yusenledger/HolderCategory"), accessFlags := 16409, slot := 1, constantValue := 0 }, { name := "SECURITIES", type := (.object "com/example/yusen_ledger/yusenledger/HolderCategory"), accessFlags := 16409, slot := 2, constantValue := 0 }, { name := "CORPORATE", type := (.object "com/example/yusen_ledger/yusenledger/HolderCategory"), accessFlags := 16409, slot := 3, constantValue := 0 }, { name := "FOREIGN_CORPORATE", type := (.object "com/example/yusen_ledger/yusenledger/HolderCategory"), accessFlags := 16409, slot := 4, constantValue := 0 }, { name := "FOREIGN_INDIVIDUAL", type := (.object "com/example/yusen_ledger/yusenledger/HolderCategory"), accessFlags := 16409, slot := 5, constantValue := 0 }, { name := "INDIVIDUAL", type := (.object "com/example/yusen_ledger/yusenledger/HolderCategory"), accessFlags := 16409, slot := 6, constantValue := 0 }, { name := "id", type := (.object "java/lang/String"), accessFlags := 18, slot := 3, constantValue := 0 }, { name := "word", type := (.object "java/lang/String"), accessFlags := 18, slot := 4, constantValue := 0 }, { name := "$VALUES", type := (.array (.object "com/example/yusen_ledger/yusenledger/HolderCategory")), accessFlags := 4122, slot := 7, constantValue := 0 }]
  methods := #[]
  instanceTypes := #[(.object "java/lang/String"), .int, .int, (.object "java/lang/String"), (.object "java/lang/String")]
  staticTypes := #[(.object "com/example/yusen_ledger/yusenledger/HolderCategory"), (.object "com/example/yusen_ledger/yusenledger/HolderCategory"), (.object "com/example/yusen_ledger/yusenledger/HolderCategory"), (.object "com/example/yusen_ledger/yusenledger/HolderCategory"), (.object "com/example/yusen_ledger/yusenledger/HolderCategory"), (.object "com/example/yusen_ledger/yusenledger/HolderCategory"), (.object "com/example/yusen_ledger/yusenledger/HolderCategory"), (.array (.object "com/example/yusen_ledger/yusenledger/HolderCategory"))]
  resolved := Array.replicate 124 none
  statics := some 0 }

def pool8 : Array CpInfo := pool [(2, .class_ 4), (1, u "java/lang/CharSequence"), (42, .class_ 48), (0, u "java/lang/CharSequence$1CodePointIterator"), (10, .class_ 60), (0, u "java/lang/CharSequence$1CharIterator"), (5, .class_ 67), (0, u "java/lang/Object")] 63

/-- java/lang/CharSequence -/
def k8 : Class := { plain "java/lang/CharSequence" (some 0) with
  accessFlags := 1537
  interfaces := #[]
  cf := some (fileOf pool8 2 #[.nestMembers #[47, 59]] #[] 1537 66 #[] #[])
  fields := #[]
  methods := #[]
  instanceTypes := #[]
  staticTypes := #[]
  resolved := Array.replicate 131 none
  statics := none }

def pool9 : Array CpInfo := pool [(1, .class_ 2), (0, u "java/lang/constant/ConstantDesc"), (0, .class_ 4), (0, u "java/lang/Object")] 32

/-- java/lang/constant/ConstantDesc -/
def k9 : Class := { plain "java/lang/constant/ConstantDesc" (some 0) with
  accessFlags := 1537
  interfaces := #[]
  cf := some (fileOf pool9 1 #[] #[] 1537 3 #[] #[])
  fields := #[]
  methods := #[]
  instanceTypes := #[]
  staticTypes := #[]
  resolved := Array.replicate 37 none
  statics := none }

def pool10 : Array CpInfo := pool [(1, .methodref 2 3), (0, .class_ 4), (0, .nameAndType 5 6), (0, u "java/lang/Object"), (0, u "<init>"), (0, u "()V"), (2, .fieldref 10 11), (0, .class_ 12), (0, .nameAndType 13 14), (0, u "java/lang/String"), (0, u "value"), (0, u "[B"), (0, .fieldref 10 16), (0, .nameAndType 17 18), (0, u "coder"), (0, u "B"), (2, u "hash"), (0, u "I"), (2, u "hashIsZero"), (0, u "Z"), (0, .methodref 10 28), (0, .nameAndType 5 29), (0, u "([CIILjava/lang/Void;)V"), (8, .fieldref 10 39), (0, .nameAndType 40 26), (0, u "COMPACT_STRINGS"), (1, .class_ 44), (1, u "java/lang/StringUTF16"), (0, u "compress"), (1, .methodref 42 48), (0, .nameAndType 49 50), (0, u "coderFromArrayLen"), (0, u "([BI)B"), (2, u "toBytes"), (1, .class_ 57), (1, u "java/util/Arrays"), (2, .methodref 42 61), (0, .nameAndType 62 63), (0, u "newBytesFor"), (0, u "(I)[B"), (22, .fieldref 87 88), (0, .class_ 89), (0, .nameAndType 90 91), (0, u "sun/nio/cs/UTF_8"), (0, u "INSTANCE"), (0, u "Lsun/nio/cs/UTF_8;"), (1, .class_ 95), (1, u "java/lang/StringCoding"), (6, .methodref 55 103), (0, .nameAndType 104 105), (0, u "copyOf"), (0, u "([BI)[B"), (1, .class_ 109), (1, u "java/lang/StringLatin1"), (18, .methodref 93 129), (0, .nameAndType 130 131), (0, u "hasNegatives"), (0, u "([BII)Z"), (45, .methodref 42 178), (0, .nameAndType 45 179), (0, u "([CII)[B"), (29, .methodref 10 210), (0, .nameAndType 5 211), (0, u "([BB)V"), (40, .methodref 10 253), (0, .nameAndType 254 255), (0, u "encodeUTF8"), (0, u "(B[BZ)[B"), (23, .methodref 280 281), (0, .class_ 14), (0, .nameAndType 282 283), (0, u "clone"), (0, u "()Ljava/lang/Object;"), (33, u "encode"), (17, .methodref 10 336), (0, .nameAndType 17 337), (0, u "()B"), (31, u "(C)Z"), (162, u "getBytes"), (2, .methodref 10 536), (0, .nameAndType 317 537), (0, u "(Ljava/nio/charset/Charset;B[B)[B"), (37, .class_ 576), (0, u "java/lang/CharSequence"), (22, u "CASE_INSENSITIVE_ORDER"), (0, u "Ljava/util/Comparator;"), (181, u "valueOf"), (0, u "(C)Ljava/lang/String;"), (226, u "([C)V"), (4, .methodref 107 1016), (0, .nameAndType 1017 369), (0, u "canEncode"), (0, .methodref 107 1019), (0, .nameAndType 53 1020), (0, u "(C)[B"), (80, u "serialPersistentFields"), (0, u "[Ljava/io/ObjectStreamField;"), (0, .class_ 1104), (0, u "java/lang/String$CaseInsensitiveComparator"), (1, .class_ 1107), (0, u "java/io/Serializable"), (0, .class_ 1109), (0, u "java/lang/Comparable"), (0, .class_ 1111), (0, u "java/lang/constant/Constable"), (0, .class_ 1113), (0, u "java/lang/constant/ConstantDesc"), (2, u "serialVersionUID"), (0, u "J"), (3, u "REPL"), (0, u "C"), (2, u "LATIN1"), (1, u "UTF16"), (117, u "(Ljava/nio/charset/Charset;)[B")] 205

def k10m0 : Method := { name := "<init>", desc := "()V", sig := { parameters := [], returnType := none }, accessFlags := 1, code := none }
def k10c1 : Code := { maxStack := 5, maxLocals := 2, code := jdk_42_method_3_code, exceptionTable := #[], attributes := #[] }
def k10m1 : Method := { name := "<init>", desc := "([C)V", sig := { parameters := [(.array .char)], returnType := none }, accessFlags := 1, code := some k10c1 }
def k10c2 : Code := { maxStack := 4, maxLocals := 3, code := jdk_42_method_18_code, exceptionTable := #[], attributes := #[] }
def k10m2 : Method := { name := "encode", desc := "(Ljava/nio/charset/Charset;B[B)[B", sig := { parameters := [(.object "java/nio/charset/Charset"), .byte, (.array .byte)], returnType := some (.array .byte) }, accessFlags := 10, code := some k10c2 }
def k10c3 : Code := { maxStack := 5, maxLocals := 9, code := jdk_42_method_46_code, exceptionTable := #[], attributes := #[] }
def k10m3 : Method := { name := "encodeUTF8", desc := "(B[BZ)[B", sig := { parameters := [.byte, (.array .byte), .boolean], returnType := some (.array .byte) }, accessFlags := 10, code := some k10c3 }
def k10c4 : Code := { maxStack := 3, maxLocals := 2, code := jdk_42_method_64_code, exceptionTable := #[], attributes := #[] }
def k10m4 : Method := { name := "getBytes", desc := "(Ljava/nio/charset/Charset;)[B", sig := { parameters := [(.object "java/nio/charset/Charset")], returnType := some (.array .byte) }, accessFlags := 1, code := some k10c4 }
def k10c5 : Code := { maxStack := 4, maxLocals := 1, code := jdk_42_method_139_code, exceptionTable := #[], attributes := #[] }
def k10m5 : Method := { name := "valueOf", desc := "(C)Ljava/lang/String;", sig := { parameters := [.char], returnType := some (.object "java/lang/String") }, accessFlags := 9, code := some k10c5 }
def k10c6 : Code := { maxStack := 4, maxLocals := 6, code := jdk_42_method_149_code, exceptionTable := #[], attributes := #[] }
def k10m6 : Method := { name := "<init>", desc := "([CIILjava/lang/Void;)V", sig := { parameters := [(.array .char), .int, .int, (.object "java/lang/Void")], returnType := none }, accessFlags := 2, code := some k10c6 }
def k10c7 : Code := { maxStack := 2, maxLocals := 3, code := jdk_42_method_151_code, exceptionTable := #[], attributes := #[] }
def k10m7 : Method := { name := "<init>", desc := "([BB)V", sig := { parameters := [(.array .byte), .byte], returnType := none }, accessFlags := 0, code := some k10c7 }
def k10c8 : Code := { maxStack := 1, maxLocals := 1, code := jdk_42_method_152_code, exceptionTable := #[], attributes := #[] }
def k10m8 : Method := { name := "coder", desc := "()B", sig := { parameters := [], returnType := some .byte }, accessFlags := 0, code := some k10c8 }
/-- java/lang/String -/
def k10 : Class := { plain "java/lang/String" (some 0) with
  accessFlags := 49
  interfaces := #[4, 3, 8, 2, 9]
  cf := some (fileOf pool10 10 #[.nestMembers #[1103]] #[{ accessFlags := 1, nameIndex := 5, descriptorIndex := 6, attributes := #[] }, { accessFlags := 1, nameIndex := 5, descriptorIndex := 1010, attributes := #[] }, { accessFlags := 10, nameIndex := 317, descriptorIndex := 537, attributes := #[] }, { accessFlags := 10, nameIndex := 254, descriptorIndex := 255, attributes := #[] }, { accessFlags := 1, nameIndex := 532, descriptorIndex := 1245, attributes := #[] }, { accessFlags := 9, nameIndex := 782, descriptorIndex := 783, attributes := #[] }, { accessFlags := 2, nameIndex := 5, descriptorIndex := 29, attributes := #[] }, { accessFlags := 0, nameIndex := 5, descriptorIndex := 211, attributes := #[] }, { accessFlags := 0, nameIndex := 17, descriptorIndex := 337, attributes := #[] }] 49 2 #[1106, 1108, 575, 1110, 1112] #[{ accessFlags := 18, nameIndex := 13, descriptorIndex := 14, attributes := #[] }, { accessFlags := 18, nameIndex := 17, descriptorIndex := 18, attributes := #[] }, { accessFlags := 2, nameIndex := 21, descriptorIndex := 22, attributes := #[] }, { accessFlags := 2, nameIndex := 25, descriptorIndex := 26, attributes := #[] }, { accessFlags := 26, nameIndex := 1116, descriptorIndex := 1117, attributes := #[] }, { accessFlags := 24, nameIndex := 40, descriptorIndex := 26, attributes := #[] }, { accessFlags := 26, nameIndex := 1101, descriptorIndex := 1102, attributes := #[] }, { accessFlags := 26, nameIndex := 1121, descriptorIndex := 1122, attributes := #[] }, { accessFlags := 25, nameIndex := 599, descriptorIndex := 600, attributes := #[] }, { accessFlags := 24, nameIndex := 1125, descriptorIndex := 18, attributes := #[] }, { accessFlags := 24, nameIndex := 1127, descriptorIndex := 18, attributes := #[] }])
  fields := #[{ name := "value", type := (.array .byte), accessFlags := 18, slot := 0, constantValue := 0 }, { name := "coder", type := .byte, accessFlags := 18, slot := 1, constantValue := 0 }, { name := "hash", type := .int, accessFlags := 2, slot := 2, constantValue := 0 }, { name := "hashIsZero", type := .boolean, accessFlags := 2, slot := 3, constantValue := 0 }, { name := "serialVersionUID", type := .long, accessFlags := 26, slot := 0, constantValue := 0 }, { name := "COMPACT_STRINGS", type := .boolean, accessFlags := 24, slot := 1, constantValue := 0 }, { name := "serialPersistentFields", type := (.array (.object "java/io/ObjectStreamField")), accessFlags := 26, slot := 2, constantValue := 0 }, { name := "REPL", type := .char, accessFlags := 26, slot := 3, constantValue := 0 }, { name := "CASE_INSENSITIVE_ORDER", type := (.object "java/util/Comparator"), accessFlags := 25, slot := 4, constantValue := 0 }, { name := "LATIN1", type := .byte, accessFlags := 24, slot := 5, constantValue := 0 }, { name := "UTF16", type := .byte, accessFlags := 24, slot := 6, constantValue := 0 }]
  methods := #[k10m0, k10m1, k10m2, k10m3, k10m4, k10m5, k10m6, k10m7, k10m8]
  instanceTypes := #[(.array .byte), .byte, .int, .boolean]
  staticTypes := #[.long, .boolean, (.array (.object "java/io/ObjectStreamField")), .char, (.object "java/util/Comparator"), .byte, .byte]
  resolved := Array.replicate 1451 none
  statics := some 1 }

def pool11 : Array CpInfo := pool [(4, .class_ 6), (1, u "java/lang/Object"), (0, u "<init>"), (0, u "()V"), (5, .class_ 16), (1, u "java/lang/StringLatin1"), (73, u "canEncode"), (14, u "(C)Z"), (15, u "$assertionsDisabled"), (0, u "Z"), (98, .class_ 223), (1, u "java/lang/StringLatin1$LinesSpliterator"), (156, u "toBytes"), (1, u "(C)[B"), (7, .class_ 391), (0, u "java/lang/StringLatin1$CharsSpliterator")] 3

def k11m0 : Method := { name := "<init>", desc := "()V", sig := { parameters := [], returnType := none }, accessFlags := 0, code := none }
def k11c1 : Code := { maxStack := 2, maxLocals := 1, code := jdk_43_method_3_code, exceptionTable := #[], attributes := #[] }
def k11m1 : Method := { name := "canEncode", desc := "(C)Z", sig := { parameters := [.char], returnType := some .boolean }, accessFlags := 9, code := some k11c1 }
def k11c2 : Code := { maxStack := 4, maxLocals := 1, code := jdk_43_method_46_code, exceptionTable := #[], attributes := #[] }
def k11m2 : Method := { name := "toBytes", desc := "(C)[B", sig := { parameters := [.char], returnType := some (.array .byte) }, accessFlags := 9, code := some k11c2 }
/-- java/lang/StringLatin1 -/
def k11 : Class := { plain "java/lang/StringLatin1" (some 0) with
  accessFlags := 48
  interfaces := #[]
  cf := some (fileOf pool11 14 #[.nestMembers #[390, 221]] #[{ accessFlags := 0, nameIndex := 7, descriptorIndex := 8, attributes := #[] }, { accessFlags := 9, nameIndex := 90, descriptorIndex := 105, attributes := #[] }, { accessFlags := 9, nameIndex := 380, descriptorIndex := 382, attributes := #[] }] 48 4 #[] #[{ accessFlags := 4120, nameIndex := 121, descriptorIndex := 122, attributes := #[] }])
  fields := #[{ name := "$assertionsDisabled", type := .boolean, accessFlags := 4120, slot := 0, constantValue := 0 }]
  methods := #[k11m0, k11m1, k11m2]
  instanceTypes := #[]
  staticTypes := #[.boolean]
  resolved := Array.replicate 395 none
  statics := none }

def pool12 : Array CpInfo := pool [(6, .class_ 8), (1, u "java/lang/Object"), (0, u "<init>"), (0, u "()V"), (0, .methodref 12 13), (0, .class_ 14), (0, .nameAndType 15 16), (0, u "java/lang/StringUTF16"), (0, u "newBytesLength"), (0, u "(I)I"), (3, .integer 1073741823), (25, u "$assertionsDisabled"), (0, u "Z"), (13, u "HI_BYTE_SHIFT"), (0, u "I"), (2, u "LO_BYTE_SHIFT"), (43, u "newBytesFor"), (0, u "(I)[B"), (4, .methodref 12 116), (0, .nameAndType 117 118), (0, u "compress"), (0, u "([CI[BII)I"), (3, u "([CII)[B"), (138, u "coderFromArrayLen"), (0, u "([BI)B"), (106, .class_ 371), (1, u "java/lang/StringUTF16$LinesSpliterator"), (58, u "MAX_LENGTH"), (196, .class_ 628), (0, u "java/lang/StringUTF16$CodePointsSpliterator"), (0, .class_ 630), (0, u "java/lang/StringUTF16$CharsSpliterator")] 4

def k12m0 : Method := { name := "<init>", desc := "()V", sig := { parameters := [], returnType := none }, accessFlags := 0, code := none }
def k12c1 : Code := { maxStack := 1, maxLocals := 1, code := jdk_52_method_2_code, exceptionTable := #[], attributes := #[] }
def k12m1 : Method := { name := "newBytesFor", desc := "(I)[B", sig := { parameters := [.int], returnType := some (.array .byte) }, accessFlags := 9, code := some k12c1 }
def k12c2 : Code := { maxStack := 4, maxLocals := 1, code := jdk_52_method_3_code, exceptionTable := #[], attributes := #[] }
def k12m2 : Method := { name := "newBytesLength", desc := "(I)I", sig := { parameters := [.int], returnType := some .int }, accessFlags := 9, code := some k12c2 }
def k12c3 : Code := { maxStack := 2, maxLocals := 2, code := jdk_52_method_15_code, exceptionTable := #[], attributes := #[] }
def k12m3 : Method := { name := "coderFromArrayLen", desc := "([BI)B", sig := { parameters := [(.array .byte), .int], returnType := some .byte }, accessFlags := 8, code := some k12c3 }
def k12c4 : Code := { maxStack := 5, maxLocals := 6, code := jdk_52_method_16_code, exceptionTable := #[], attributes := #[] }
def k12m4 : Method := { name := "compress", desc := "([CII)[B", sig := { parameters := [(.array .char), .int, .int], returnType := some (.array .byte) }, accessFlags := 9, code := some k12c4 }
def k12c5 : Code := { maxStack := 3, maxLocals := 7, code := jdk_52_method_21_code, exceptionTable := #[], attributes := #[] }
def k12m5 : Method := { name := "compress", desc := "([CI[BII)I", sig := { parameters := [(.array .char), .int, (.array .byte), .int, .int], returnType := some .int }, accessFlags := 9, code := some k12c5 }
/-- java/lang/StringUTF16 -/
def k12 : Class := { plain "java/lang/StringUTF16" (some 0) with
  accessFlags := 48
  interfaces := #[]
  cf := some (fileOf pool12 12 #[.nestMembers #[627, 629, 369]] #[{ accessFlags := 0, nameIndex := 9, descriptorIndex := 10, attributes := #[] }, { accessFlags := 9, nameIndex := 109, descriptorIndex := 110, attributes := #[] }, { accessFlags := 9, nameIndex := 15, descriptorIndex := 16, attributes := #[] }, { accessFlags := 8, nameIndex := 261, descriptorIndex := 262, attributes := #[] }, { accessFlags := 9, nameIndex := 117, descriptorIndex := 122, attributes := #[] }, { accessFlags := 9, nameIndex := 117, descriptorIndex := 118, attributes := #[] }] 48 6 #[] #[{ accessFlags := 26, nameIndex := 61, descriptorIndex := 62, attributes := #[] }, { accessFlags := 26, nameIndex := 65, descriptorIndex := 62, attributes := #[] }, { accessFlags := 24, nameIndex := 430, descriptorIndex := 62, attributes := #[] }, { accessFlags := 4120, nameIndex := 46, descriptorIndex := 47, attributes := #[] }])
  fields := #[{ name := "HI_BYTE_SHIFT", type := .int, accessFlags := 26, slot := 0, constantValue := 0 }, { name := "LO_BYTE_SHIFT", type := .int, accessFlags := 26, slot := 1, constantValue := 0 }, { name := "MAX_LENGTH", type := .int, accessFlags := 24, slot := 2, constantValue := 0 }, { name := "$assertionsDisabled", type := .boolean, accessFlags := 4120, slot := 3, constantValue := 0 }]
  methods := #[k12m0, k12m1, k12m2, k12m3, k12m4, k12m5]
  instanceTypes := #[]
  staticTypes := #[.int, .int, .int, .boolean]
  resolved := Array.replicate 635 none
  statics := none }

def pool13 : Array CpInfo := pool [(1, .class_ 2), (0, u "com/example/yusen_ledger/yusenledger/HolderTable"), (0, .fieldref 1 4), (0, .nameAndType 5 6), (0, u "FIRST_HASH"), (0, u "Lcom/example/yusen_ledger/yusenledger/SipHash;"), (0, .methodref 1 8), (0, .nameAndType 9 10), (0, u "<init>"), (0, u "(II[B[I[B[J[ILcom/example/yusen_ledger/yusenledger/SipHash;)V"), (0, .methodref 12 13), (0, .class_ 14), (0, .nameAndType 9 15), (0, u "java/lang/Object"), (0, u "()V"), (0, .fieldref 1 17), (0, .nameAndType 18 19), (0, u "reach"), (0, u "I"), (0, .fieldref 1 21), (0, .nameAndType 22 19), (0, u "classes"), (0, .fieldref 1 24), (0, .nameAndType 25 19), (0, u "size"), (0, .fieldref 1 27), (0, .nameAndType 28 29), (0, u "text"), (0, u "[B"), (0, .fieldref 1 31), (0, .nameAndType 32 33), (0, u "bounds"), (0, u "[I"), (0, .fieldref 1 35), (0, .nameAndType 36 29), (0, u "categories"), (0, .fieldref 1 38), (0, .nameAndType 39 40), (0, u "shares"), (0, u "[J"), (0, .fieldref 1 42), (0, .nameAndType 43 33), (0, u "slots"), (0, .fieldref 1 45), (0, .nameAndType 46 6), (0, u "hash"), (9, .fieldref 57 58), (0, .class_ 59), (0, .nameAndType 60 61), (0, u "java/nio/charset/StandardCharsets"), (0, u "UTF_8"), (0, u "Ljava/nio/charset/Charset;"), (0, .methodref 63 64), (0, .class_ 65), (0, .nameAndType 66 67), (0, u "java/lang/String"), (0, u "getBytes"), (0, u "(Ljava/nio/charset/Charset;)[B"), (0, .methodref 1 69), (0, .nameAndType 70 71), (0, u "home"), (0, u "([BII)I"), (0, .methodref 1 73), (0, .nameAndType 74 75), (0, u "slotOf"), (0, u "([BI)I"), (0, .methodref 1 77), (0, .nameAndType 78 79), (0, u "makeRoom"), (0, u "(I)V"), (0, .methodref 81 82), (0, .class_ 83), (0, .nameAndType 84 85), (0, u "java/lang/System"), (0, u "arraycopy"), (0, u "(Ljava/lang/Object;ILjava/lang/Object;II)V"), (0, .methodref 87 88), (0, .class_ 89), (0, .nameAndType 90 91), (0, u "com/example/yusen_ledger/yusenledger/HolderCategory"), (0, u "ordinal"), (0, u "()I"), (9, .fieldref 1 102), (0, .nameAndType 103 104), (0, u "CATEGORIES"), (0, u "[Lcom/example/yusen_ledger/yusenledger/HolderCategory;"), (0, .class_ 106), (0, u "com/example/yusen_ledger/yusenledger/HolderTable$1"), (21, .class_ 130), (1, u "com/example/yusen_ledger/yusenledger/SipHash"), (72, .methodref 204 205), (0, .class_ 206), (0, .nameAndType 207 208), (0, u "java/util/Arrays"), (0, u "copyOf"), (0, u "([BI)[B"), (6, .methodref 1 216), (0, .nameAndType 217 218), (0, u "hasId"), (0, u "(I[B)Z"), (0, .methodref 204 220), (0, .nameAndType 221 222), (0, u "equals"), (0, u "([BII[BII)Z"), (7, .methodref 128 231), (0, .nameAndType 232 233), (0, u "of"), (0, u "([BII)J"), (4, u "FIRST_ROOM"), (2, u "TEXT_PER_ROW"), (1, u "REACH"), (5, u "add"), (0, u "(Ljava/lang/String;Ljava/lang/String;Lcom/example/yusen_ledger/yusenledger/HolderCategory;)I"), (5, u "category"), (0, u "(I)Lcom/example/yusen_ledger/yusenledger/HolderCategory;"), (16, .class_ 275), (0, u "com/example/yusen_ledger/yusenledger/HolderTable$1$1")] 21

def k13c0 : Code := { maxStack := 9, maxLocals := 2, code := prog_21_method_1_code, exceptionTable := #[], attributes := #[] }
def k13m0 : Method := { name := "<init>", desc := "(I)V", sig := { parameters := [.int], returnType := none }, accessFlags := 0, code := some k13c0 }
def k13c1 : Code := { maxStack := 2, maxLocals := 9, code := prog_21_method_2_code, exceptionTable := #[], attributes := #[] }
def k13m1 : Method := { name := "<init>", desc := "(II[B[I[B[J[ILcom/example/yusen_ledger/yusenledger/SipHash;)V", sig := { parameters := [.int, .int, (.array .byte), (.array .int), (.array .byte), (.array .long), (.array .int), (.object "com/example/yusen_ledger/yusenledger/SipHash")], returnType := none }, accessFlags := 2, code := some k13c1 }
def k13c2 : Code := { maxStack := 5, maxLocals := 10, code := prog_21_method_5_code, exceptionTable := #[], attributes := #[] }
def k13m2 : Method := { name := "add", desc := "(Ljava/lang/String;Ljava/lang/String;Lcom/example/yusen_ledger/yusenledger/HolderCategory;)I", sig := { parameters := [(.object "java/lang/String"), (.object "java/lang/String"), (.object "com/example/yusen_ledger/yusenledger/HolderCategory")], returnType := some .int }, accessFlags := 0, code := some k13c2 }
def k13c3 : Code := { maxStack := 3, maxLocals := 3, code := prog_21_method_9_code, exceptionTable := #[], attributes := #[] }
def k13m3 : Method := { name := "category", desc := "(I)Lcom/example/yusen_ledger/yusenledger/HolderCategory;", sig := { parameters := [.int], returnType := some (.object "com/example/yusen_ledger/yusenledger/HolderCategory") }, accessFlags := 0, code := some k13c3 }
def k13c4 : Code := { maxStack := 5, maxLocals := 4, code := prog_21_method_18_code, exceptionTable := #[], attributes := #[] }
def k13m4 : Method := { name := "makeRoom", desc := "(I)V", sig := { parameters := [.int], returnType := none }, accessFlags := 2, code := some k13c4 }
def k13c5 : Code := { maxStack := 3, maxLocals := 5, code := prog_21_method_19_code, exceptionTable := #[], attributes := #[] }
def k13m5 : Method := { name := "slotOf", desc := "([BI)I", sig := { parameters := [(.array .byte), .int], returnType := some .int }, accessFlags := 2, code := some k13c5 }
def k13c6 : Code := { maxStack := 6, maxLocals := 3, code := prog_21_method_20_code, exceptionTable := #[], attributes := #[] }
def k13m6 : Method := { name := "hasId", desc := "(I[B)Z", sig := { parameters := [.int, (.array .byte)], returnType := some .boolean }, accessFlags := 2, code := some k13c6 }
def k13c7 : Code := { maxStack := 4, maxLocals := 4, code := prog_21_method_24_code, exceptionTable := #[], attributes := #[] }
def k13m7 : Method := { name := "home", desc := "([BII)I", sig := { parameters := [(.array .byte), .int, .int], returnType := some .int }, accessFlags := 2, code := some k13c7 }
/-- com/example/yusen_ledger/yusenledger/HolderTable -/
def k13 : Class := { plain "com/example/yusen_ledger/yusenledger/HolderTable" (some 0) with
  accessFlags := 48
  interfaces := #[]
  cf := some (fileOf pool13 1 #[.nestMembers #[105, 274]] #[{ accessFlags := 0, nameIndex := 9, descriptorIndex := 79, attributes := #[] }, { accessFlags := 2, nameIndex := 9, descriptorIndex := 10, attributes := #[] }, { accessFlags := 0, nameIndex := 249, descriptorIndex := 250, attributes := #[] }, { accessFlags := 0, nameIndex := 256, descriptorIndex := 257, attributes := #[] }, { accessFlags := 2, nameIndex := 78, descriptorIndex := 79, attributes := #[] }, { accessFlags := 2, nameIndex := 74, descriptorIndex := 75, attributes := #[] }, { accessFlags := 2, nameIndex := 217, descriptorIndex := 218, attributes := #[] }, { accessFlags := 2, nameIndex := 70, descriptorIndex := 71, attributes := #[] }] 48 12 #[] #[{ accessFlags := 26, nameIndex := 238, descriptorIndex := 19, attributes := #[] }, { accessFlags := 26, nameIndex := 241, descriptorIndex := 19, attributes := #[] }, { accessFlags := 26, nameIndex := 103, descriptorIndex := 104, attributes := #[] }, { accessFlags := 24, nameIndex := 5, descriptorIndex := 6, attributes := #[] }, { accessFlags := 26, nameIndex := 243, descriptorIndex := 19, attributes := #[] }, { accessFlags := 18, nameIndex := 22, descriptorIndex := 19, attributes := #[] }, { accessFlags := 2, nameIndex := 25, descriptorIndex := 19, attributes := #[] }, { accessFlags := 2, nameIndex := 28, descriptorIndex := 29, attributes := #[] }, { accessFlags := 2, nameIndex := 32, descriptorIndex := 33, attributes := #[] }, { accessFlags := 2, nameIndex := 36, descriptorIndex := 29, attributes := #[] }, { accessFlags := 2, nameIndex := 39, descriptorIndex := 40, attributes := #[] }, { accessFlags := 2, nameIndex := 43, descriptorIndex := 33, attributes := #[] }, { accessFlags := 2, nameIndex := 46, descriptorIndex := 6, attributes := #[] }, { accessFlags := 2, nameIndex := 18, descriptorIndex := 19, attributes := #[] }])
  fields := #[{ name := "FIRST_ROOM", type := .int, accessFlags := 26, slot := 0, constantValue := 0 }, { name := "TEXT_PER_ROW", type := .int, accessFlags := 26, slot := 1, constantValue := 0 }, { name := "CATEGORIES", type := (.array (.object "com/example/yusen_ledger/yusenledger/HolderCategory")), accessFlags := 26, slot := 2, constantValue := 0 }, { name := "FIRST_HASH", type := (.object "com/example/yusen_ledger/yusenledger/SipHash"), accessFlags := 24, slot := 3, constantValue := 0 }, { name := "REACH", type := .int, accessFlags := 26, slot := 4, constantValue := 0 }, { name := "classes", type := .int, accessFlags := 18, slot := 0, constantValue := 0 }, { name := "size", type := .int, accessFlags := 2, slot := 1, constantValue := 0 }, { name := "text", type := (.array .byte), accessFlags := 2, slot := 2, constantValue := 0 }, { name := "bounds", type := (.array .int), accessFlags := 2, slot := 3, constantValue := 0 }, { name := "categories", type := (.array .byte), accessFlags := 2, slot := 4, constantValue := 0 }, { name := "shares", type := (.array .long), accessFlags := 2, slot := 5, constantValue := 0 }, { name := "slots", type := (.array .int), accessFlags := 2, slot := 6, constantValue := 0 }, { name := "hash", type := (.object "com/example/yusen_ledger/yusenledger/SipHash"), accessFlags := 2, slot := 7, constantValue := 0 }, { name := "reach", type := .int, accessFlags := 2, slot := 8, constantValue := 0 }]
  methods := #[k13m0, k13m1, k13m2, k13m3, k13m4, k13m5, k13m6, k13m7]
  instanceTypes := #[.int, .int, (.array .byte), (.array .int), (.array .byte), (.array .long), (.array .int), (.object "com/example/yusen_ledger/yusenledger/SipHash"), .int]
  staticTypes := #[.int, .int, (.array (.object "com/example/yusen_ledger/yusenledger/HolderCategory")), (.object "com/example/yusen_ledger/yusenledger/SipHash"), .int]
  resolved := Array.replicate 297 none
  statics := some 2 }

def pool14 : Array CpInfo := pool [(2, .class_ 4), (1, u "java/lang/Object"), (0, u "<init>"), (0, u "()V"), (14, .class_ 23), (1, u "java/nio/charset/StandardCharsets"), (0, u "US_ASCII"), (0, u "Ljava/nio/charset/Charset;"), (7, u "ISO_8859_1"), (7, u "UTF_8"), (5, u "UTF_16BE"), (5, u "UTF_16LE"), (5, u "UTF_16")] 8

def k14m0 : Method := { name := "<init>", desc := "()V", sig := { parameters := [], returnType := none }, accessFlags := 2, code := none }
/-- java/nio/charset/StandardCharsets -/
def k14 : Class := { plain "java/nio/charset/StandardCharsets" (some 0) with
  accessFlags := 49
  interfaces := #[]
  cf := some (fileOf pool14 21 #[] #[{ accessFlags := 2, nameIndex := 5, descriptorIndex := 6, attributes := #[] }] 49 2 #[] #[{ accessFlags := 25, nameIndex := 24, descriptorIndex := 25, attributes := #[] }, { accessFlags := 25, nameIndex := 33, descriptorIndex := 25, attributes := #[] }, { accessFlags := 25, nameIndex := 41, descriptorIndex := 25, attributes := #[] }, { accessFlags := 25, nameIndex := 47, descriptorIndex := 25, attributes := #[] }, { accessFlags := 25, nameIndex := 53, descriptorIndex := 25, attributes := #[] }, { accessFlags := 25, nameIndex := 59, descriptorIndex := 25, attributes := #[] }])
  fields := #[{ name := "US_ASCII", type := (.object "java/nio/charset/Charset"), accessFlags := 25, slot := 0, constantValue := 0 }, { name := "ISO_8859_1", type := (.object "java/nio/charset/Charset"), accessFlags := 25, slot := 1, constantValue := 0 }, { name := "UTF_8", type := (.object "java/nio/charset/Charset"), accessFlags := 25, slot := 2, constantValue := 0 }, { name := "UTF_16BE", type := (.object "java/nio/charset/Charset"), accessFlags := 25, slot := 3, constantValue := 0 }, { name := "UTF_16LE", type := (.object "java/nio/charset/Charset"), accessFlags := 25, slot := 4, constantValue := 0 }, { name := "UTF_16", type := (.object "java/nio/charset/Charset"), accessFlags := 25, slot := 5, constantValue := 0 }]
  methods := #[k14m0]
  instanceTypes := #[]
  staticTypes := #[(.object "java/nio/charset/Charset"), (.object "java/nio/charset/Charset"), (.object "java/nio/charset/Charset"), (.object "java/nio/charset/Charset"), (.object "java/nio/charset/Charset"), (.object "java/nio/charset/Charset")]
  resolved := Array.replicate 68 none
  statics := some 3 }

def pool15 : Array CpInfo := pool [(18, .class_ 20), (1, u "java/nio/charset/Charset"), (0, u "cache1"), (0, u "[Ljava/lang/Object;"), (2, u "cache2"), (0, .class_ 27), (0, u "java/lang/Object"), (0, .class_ 29), (0, u "java/nio/charset/Charset$1"), (4, .class_ 36), (1, u "java/nio/charset/Charset$ThreadTrackHolder"), (21, .class_ 59), (0, u "java/nio/charset/Charset$2"), (11, .class_ 73), (1, u "java/nio/charset/Charset$ExtendedProviderHolder"), (22, u "standardProvider"), (0, u "Ljava/nio/charset/spi/CharsetProvider;"), (29, u "name"), (7, .class_ 136), (0, u "java/nio/charset/Charset$3"), (5, u "defaultCharset"), (0, u "Ljava/nio/charset/Charset;"), (14, u "zeroAliases"), (0, u "[Ljava/lang/String;"), (29, u "Ljava/lang/String;"), (2, u "aliases"), (2, u "aliasSet"), (0, u "Ljava/util/Set;"), (82, .class_ 280), (0, u "java/lang/Comparable"), (84, .class_ 366), (0, u "java/nio/charset/Charset$ExtendedProviderHolder$1")] 3

/-- java/nio/charset/Charset -/
def k15 : Class := { plain "java/nio/charset/Charset" (some 0) with
  accessFlags := 1057
  interfaces := #[3]
  cf := some (fileOf pool15 18 #[.nestMembers #[71, 365, 34, 135, 58, 28]] #[] 1057 26 #[279] #[{ accessFlags := 26, nameIndex := 96, descriptorIndex := 97, attributes := #[] }, { accessFlags := 26, nameIndex := 158, descriptorIndex := 159, attributes := #[] }, { accessFlags := 74, nameIndex := 21, descriptorIndex := 22, attributes := #[] }, { accessFlags := 74, nameIndex := 25, descriptorIndex := 22, attributes := #[] }, { accessFlags := 10, nameIndex := 142, descriptorIndex := 143, attributes := #[] }, { accessFlags := 18, nameIndex := 127, descriptorIndex := 189, attributes := #[] }, { accessFlags := 18, nameIndex := 192, descriptorIndex := 159, attributes := #[] }, { accessFlags := 2, nameIndex := 195, descriptorIndex := 196, attributes := #[] }])
  fields := #[{ name := "standardProvider", type := (.object "java/nio/charset/spi/CharsetProvider"), accessFlags := 26, slot := 0, constantValue := 0 }, { name := "zeroAliases", type := (.array (.object "java/lang/String")), accessFlags := 26, slot := 1, constantValue := 0 }, { name := "cache1", type := (.array (.object "java/lang/Object")), accessFlags := 74, slot := 2, constantValue := 0 }, { name := "cache2", type := (.array (.object "java/lang/Object")), accessFlags := 74, slot := 3, constantValue := 0 }, { name := "defaultCharset", type := (.object "java/nio/charset/Charset"), accessFlags := 10, slot := 4, constantValue := 0 }, { name := "name", type := (.object "java/lang/String"), accessFlags := 18, slot := 0, constantValue := 0 }, { name := "aliases", type := (.array (.object "java/lang/String")), accessFlags := 18, slot := 1, constantValue := 0 }, { name := "aliasSet", type := (.object "java/util/Set"), accessFlags := 2, slot := 2, constantValue := 0 }]
  methods := #[]
  instanceTypes := #[(.object "java/lang/String"), (.array (.object "java/lang/String")), (.object "java/util/Set")]
  staticTypes := #[(.object "java/nio/charset/spi/CharsetProvider"), (.array (.object "java/lang/String")), (.array (.object "java/lang/Object")), (.array (.object "java/lang/Object")), (.object "java/nio/charset/Charset")]
  resolved := Array.replicate 370 none
  statics := none }

def pool16 : Array CpInfo := pool [(1, .class_ 2), (0, u "sun/nio/cs/HistoricallyNamedCharset"), (0, .class_ 4), (0, u "java/lang/Object")] 4

/-- sun/nio/cs/HistoricallyNamedCharset -/
def k16 : Class := { plain "sun/nio/cs/HistoricallyNamedCharset" (some 0) with
  accessFlags := 1537
  interfaces := #[]
  cf := some (fileOf pool16 1 #[] #[] 1537 3 #[] #[])
  fields := #[]
  methods := #[]
  instanceTypes := #[]
  staticTypes := #[]
  resolved := Array.replicate 9 none
  statics := none }

def pool17 : Array CpInfo := pool [(2, .class_ 4), (1, u "java/nio/charset/Charset"), (130, .class_ 136), (0, u "sun/nio/cs/Unicode"), (0, .class_ 138), (0, u "sun/nio/cs/HistoricallyNamedCharset")] 15

/-- sun/nio/cs/Unicode -/
def k17 : Class := { plain "sun/nio/cs/Unicode" (some 15) with
  accessFlags := 1056
  interfaces := #[16]
  cf := some (fileOf pool17 135 #[] #[] 1056 2 #[137] #[])
  fields := #[]
  methods := #[]
  instanceTypes := #[(.object "java/lang/String"), (.array (.object "java/lang/String")), (.object "java/util/Set")]
  staticTypes := #[]
  resolved := Array.replicate 154 none
  statics := none }

def pool18 : Array CpInfo := pool [(10, .class_ 12), (1, u "sun/nio/cs/Unicode"), (0, u "<init>"), (3, .class_ 18), (0, u "sun/nio/cs/UTF_8$Decoder"), (3, .class_ 23), (0, u "sun/nio/cs/UTF_8$Encoder"), (15, .class_ 40), (0, u "sun/nio/cs/UTF_8"), (2, u "()V"), (2, u "INSTANCE"), (0, u "Lsun/nio/cs/UTF_8;"), (8, u "JLA"), (0, u "Ljdk/internal/access/JavaLangAccess;")] 26

def k18m0 : Method := { name := "<init>", desc := "()V", sig := { parameters := [], returnType := none }, accessFlags := 1, code := none }
/-- sun/nio/cs/UTF_8 -/
def k18 : Class := { plain "sun/nio/cs/UTF_8" (some 17) with
  accessFlags := 49
  interfaces := #[]
  cf := some (fileOf pool18 39 #[.nestMembers #[22, 17]] #[{ accessFlags := 1, nameIndex := 13, descriptorIndex := 43, attributes := #[] }] 49 10 #[] #[{ accessFlags := 25, nameIndex := 46, descriptorIndex := 47, attributes := #[] }, { accessFlags := 26, nameIndex := 56, descriptorIndex := 57, attributes := #[] }])
  fields := #[{ name := "INSTANCE", type := (.object "sun/nio/cs/UTF_8"), accessFlags := 25, slot := 0, constantValue := 0 }, { name := "JLA", type := (.object "jdk/internal/access/JavaLangAccess"), accessFlags := 26, slot := 1, constantValue := 0 }]
  methods := #[k18m0]
  instanceTypes := #[(.object "java/lang/String"), (.array (.object "java/lang/String")), (.object "java/util/Set")]
  staticTypes := #[(.object "sun/nio/cs/UTF_8"), (.object "jdk/internal/access/JavaLangAccess")]
  resolved := Array.replicate 84 none
  statics := some 4 }

def pool19 : Array CpInfo := pool [(2, .class_ 4), (1, u "java/lang/Object"), (0, u "<init>"), (0, u "()V"), (0, .methodref 8 9), (0, .class_ 10), (0, .nameAndType 11 12), (0, u "java/lang/StringCoding"), (0, u "countPositives"), (0, u "([BII)I"), (11, u "hasNegatives"), (0, u "([BII)Z")] 23

def k19m0 : Method := { name := "<init>", desc := "()V", sig := { parameters := [], returnType := none }, accessFlags := 2, code := none }
def k19c1 : Code := { maxStack := 3, maxLocals := 3, code := jdk_123_method_2_code, exceptionTable := #[], attributes := #[] }
def k19m1 : Method := { name := "hasNegatives", desc := "([BII)Z", sig := { parameters := [(.array .byte), .int, .int], returnType := some .boolean }, accessFlags := 9, code := some k19c1 }
def k19c2 : Code := { maxStack := 2, maxLocals := 5, code := jdk_123_method_3_code, exceptionTable := #[], attributes := #[] }
def k19m2 : Method := { name := "countPositives", desc := "([BII)I", sig := { parameters := [(.array .byte), .int, .int], returnType := some .int }, accessFlags := 9, code := some k19c2 }
/-- java/lang/StringCoding -/
def k19 : Class := { plain "java/lang/StringCoding" (some 0) with
  accessFlags := 32
  interfaces := #[]
  cf := some (fileOf pool19 8 #[] #[{ accessFlags := 2, nameIndex := 5, descriptorIndex := 6, attributes := #[] }, { accessFlags := 9, nameIndex := 24, descriptorIndex := 25, attributes := #[] }, { accessFlags := 9, nameIndex := 11, descriptorIndex := 12, attributes := #[] }] 32 2 #[] #[])
  fields := #[]
  methods := #[k19m0, k19m1, k19m2]
  instanceTypes := #[]
  staticTypes := #[]
  resolved := Array.replicate 49 none
  statics := none }

def pool20 : Array CpInfo := pool [(1, .class_ 2), (0, u "java/lang/Cloneable"), (0, .class_ 4), (0, u "java/lang/Object")] 2

/-- java/lang/Cloneable -/
def k20 : Class := { plain "java/lang/Cloneable" (some 0) with
  accessFlags := 1537
  interfaces := #[]
  cf := some (fileOf pool20 1 #[] #[] 1537 3 #[] #[])
  fields := #[]
  methods := #[]
  instanceTypes := #[]
  staticTypes := #[]
  resolved := Array.replicate 7 none
  statics := none }

def pool21 : Array CpInfo := pool [(1, .class_ 2), (0, u "java/lang/Long"), (1, .class_ 6), (1, u "java/lang/Object"), (2, .fieldref 10 11), (0, .class_ 12), (0, .nameAndType 13 14), (0, u "com/example/yusen_ledger/yusenledger/SipHash"), (0, u "key0"), (0, u "J"), (0, .fieldref 10 16), (0, .nameAndType 17 14), (0, u "key1"), (10, .long 8317987319222330741), (1, .long 7237128888997146477), (1, .long 7816392313619706465), (1, .long 8387220255154660723), (1, .methodref 37 38), (0, .class_ 39), (0, .nameAndType 40 41), (0, u "java/lang/Math"), (0, u "min"), (0, u "(II)I"), (0, .long 255), (3, .methodref 1 47), (0, .nameAndType 48 49), (0, u "rotateLeft"), (0, u "(JI)J"), (0, u "WORD"), (0, u "I"), (2, u "WORD_ROUNDS"), (1, u "FINAL_ROUNDS"), (5, u "of"), (0, u "([BII)J")] 5

def k21c0 : Code := { maxStack := 6, maxLocals := 21, code := prog_52_method_5_code, exceptionTable := #[], attributes := #[] }
def k21m0 : Method := { name := "of", desc := "([BII)J", sig := { parameters := [(.array .byte), .int, .int], returnType := some .long }, accessFlags := 0, code := some k21c0 }
/-- com/example/yusen_ledger/yusenledger/SipHash -/
def k21 : Class := { plain "com/example/yusen_ledger/yusenledger/SipHash" (some 0) with
  accessFlags := 48
  interfaces := #[]
  cf := some (fileOf pool21 10 #[] #[{ accessFlags := 0, nameIndex := 62, descriptorIndex := 63, attributes := #[] }] 48 4 #[] #[{ accessFlags := 26, nameIndex := 50, descriptorIndex := 51, attributes := #[] }, { accessFlags := 26, nameIndex := 54, descriptorIndex := 51, attributes := #[] }, { accessFlags := 26, nameIndex := 56, descriptorIndex := 51, attributes := #[] }, { accessFlags := 18, nameIndex := 13, descriptorIndex := 14, attributes := #[] }, { accessFlags := 18, nameIndex := 17, descriptorIndex := 14, attributes := #[] }])
  fields := #[{ name := "WORD", type := .int, accessFlags := 26, slot := 0, constantValue := 0 }, { name := "WORD_ROUNDS", type := .int, accessFlags := 26, slot := 1, constantValue := 0 }, { name := "FINAL_ROUNDS", type := .int, accessFlags := 26, slot := 2, constantValue := 0 }, { name := "key0", type := .long, accessFlags := 18, slot := 0, constantValue := 0 }, { name := "key1", type := .long, accessFlags := 18, slot := 1, constantValue := 0 }]
  methods := #[k21m0]
  instanceTypes := #[.long, .long]
  staticTypes := #[.int, .int, .int]
  resolved := Array.replicate 69 none
  statics := none }

def pool22 : Array CpInfo := pool [(1, .class_ 2), (0, u "java/lang/Math"), (1, .class_ 6), (1, u "java/lang/Object"), (0, u "<init>"), (0, u "()V"), (89, .class_ 100), (1, u "java/lang/Math$RandomNumberGeneratorHolder"), (71, u "negativeZeroFloatBits"), (0, u "J"), (2, u "negativeZeroDoubleBits"), (24, u "min"), (43, u "$assertionsDisabled"), (0, u "Z"), (88, u "(II)I"), (2, u "twoToTheDoubleScaleDown"), (0, u "D"), (4, u "twoToTheDoubleScaleUp"), (9, u "E"), (3, u "PI"), (2, u "TAU"), (2, u "DEGREES_TO_RADIANS"), (0, u "RADIANS_TO_DEGREES")] 94

def k22m0 : Method := { name := "<init>", desc := "()V", sig := { parameters := [], returnType := none }, accessFlags := 2, code := none }
def k22c1 : Code := { maxStack := 2, maxLocals := 2, code := jdk_29_method_69_code, exceptionTable := #[], attributes := #[] }
def k22m1 : Method := { name := "min", desc := "(II)I", sig := { parameters := [.int, .int], returnType := some .int }, accessFlags := 9, code := some k22c1 }
/-- java/lang/Math -/
def k22 : Class := { plain "java/lang/Math" (some 0) with
  accessFlags := 49
  interfaces := #[]
  cf := some (fileOf pool22 1 #[.nestMembers #[98]] #[{ accessFlags := 2, nameIndex := 7, descriptorIndex := 8, attributes := #[] }, { accessFlags := 9, nameIndex := 201, descriptorIndex := 335, attributes := #[] }] 49 4 #[] #[{ accessFlags := 25, nameIndex := 354, descriptorIndex := 339, attributes := #[] }, { accessFlags := 25, nameIndex := 358, descriptorIndex := 339, attributes := #[] }, { accessFlags := 25, nameIndex := 361, descriptorIndex := 339, attributes := #[] }, { accessFlags := 26, nameIndex := 364, descriptorIndex := 339, attributes := #[] }, { accessFlags := 26, nameIndex := 365, descriptorIndex := 339, attributes := #[] }, { accessFlags := 26, nameIndex := 172, descriptorIndex := 173, attributes := #[] }, { accessFlags := 26, nameIndex := 176, descriptorIndex := 173, attributes := #[] }, { accessFlags := 8, nameIndex := 344, descriptorIndex := 339, attributes := #[] }, { accessFlags := 8, nameIndex := 338, descriptorIndex := 339, attributes := #[] }, { accessFlags := 4120, nameIndex := 245, descriptorIndex := 246, attributes := #[] }])
  fields := #[{ name := "E", type := .double, accessFlags := 25, slot := 0, constantValue := 0 }, { name := "PI", type := .double, accessFlags := 25, slot := 1, constantValue := 0 }, { name := "TAU", type := .double, accessFlags := 25, slot := 2, constantValue := 0 }, { name := "DEGREES_TO_RADIANS", type := .double, accessFlags := 26, slot := 3, constantValue := 0 }, { name := "RADIANS_TO_DEGREES", type := .double, accessFlags := 26, slot := 4, constantValue := 0 }, { name := "negativeZeroFloatBits", type := .long, accessFlags := 26, slot := 5, constantValue := 0 }, { name := "negativeZeroDoubleBits", type := .long, accessFlags := 26, slot := 6, constantValue := 0 }, { name := "twoToTheDoubleScaleUp", type := .double, accessFlags := 8, slot := 7, constantValue := 0 }, { name := "twoToTheDoubleScaleDown", type := .double, accessFlags := 8, slot := 8, constantValue := 0 }, { name := "$assertionsDisabled", type := .boolean, accessFlags := 4120, slot := 9, constantValue := 0 }]
  methods := #[k22m0, k22m1]
  instanceTypes := #[]
  staticTypes := #[.double, .double, .double, .double, .double, .long, .long, .double, .double, .boolean]
  resolved := Array.replicate 460 none
  statics := none }

def pool23 : Array CpInfo := pool [(2, .class_ 4), (1, u "java/lang/Object"), (0, u "<init>"), (0, u "()V"), (1, .class_ 10), (1, u "java/lang/Number"), (2, .class_ 14), (0, u "java/io/Serializable"), (0, u "serialVersionUID"), (0, u "J")] 20

def k23m0 : Method := { name := "<init>", desc := "()V", sig := { parameters := [], returnType := none }, accessFlags := 1, code := none }
/-- java/lang/Number -/
def k23 : Class := { plain "java/lang/Number" (some 0) with
  accessFlags := 1057
  interfaces := #[4]
  cf := some (fileOf pool23 8 #[] #[{ accessFlags := 1, nameIndex := 5, descriptorIndex := 6, attributes := #[] }] 1057 2 #[13] #[{ accessFlags := 26, nameIndex := 15, descriptorIndex := 16, attributes := #[] }])
  fields := #[{ name := "serialVersionUID", type := .long, accessFlags := 26, slot := 0, constantValue := 0 }]
  methods := #[k23m0]
  instanceTypes := #[]
  staticTypes := #[.long]
  resolved := Array.replicate 37 none
  statics := none }

def pool24 : Array CpInfo := pool [(1, .class_ 2), (0, u "java/lang/Long"), (232, .class_ 237), (1, u "java/lang/Long$LongCache"), (33, .class_ 272), (0, u "java/lang/Number"), (2, u "value"), (0, u "J"), (84, u "TYPE"), (0, u "Ljava/lang/Class;"), (0, .class_ 364), (0, u "java/lang/Comparable"), (0, .class_ 366), (0, u "java/lang/constant/Constable"), (0, .class_ 368), (0, u "java/lang/constant/ConstantDesc"), (0, u "MIN_VALUE"), (1, u "MAX_VALUE"), (4, u "SIZE"), (0, u "I"), (1, u "BYTES"), (1, u "serialVersionUID"), (95, u "rotateLeft"), (0, u "(JI)J")] 45

def k24c0 : Code := { maxStack := 5, maxLocals := 3, code := jdk_35_method_51_code, exceptionTable := #[], attributes := #[] }
def k24m0 : Method := { name := "rotateLeft", desc := "(JI)J", sig := { parameters := [.long, .int], returnType := some .long }, accessFlags := 9, code := some k24c0 }
/-- java/lang/Long -/
def k24 : Class := { plain "java/lang/Long" (some 23) with
  accessFlags := 49
  interfaces := #[3, 2, 9]
  cf := some (fileOf pool24 1 #[.nestMembers #[235]] #[{ accessFlags := 9, nameIndex := 477, descriptorIndex := 478, attributes := #[] }] 49 271 #[363, 365, 367] #[{ accessFlags := 25, nameIndex := 369, descriptorIndex := 276, attributes := #[] }, { accessFlags := 25, nameIndex := 371, descriptorIndex := 276, attributes := #[] }, { accessFlags := 25, nameIndex := 361, descriptorIndex := 362, attributes := #[] }, { accessFlags := 18, nameIndex := 275, descriptorIndex := 276, attributes := #[] }, { accessFlags := 25, nameIndex := 376, descriptorIndex := 377, attributes := #[] }, { accessFlags := 25, nameIndex := 379, descriptorIndex := 377, attributes := #[] }, { accessFlags := 26, nameIndex := 381, descriptorIndex := 276, attributes := #[] }])
  fields := #[{ name := "MIN_VALUE", type := .long, accessFlags := 25, slot := 0, constantValue := 0 }, { name := "MAX_VALUE", type := .long, accessFlags := 25, slot := 1, constantValue := 0 }, { name := "TYPE", type := (.object "java/lang/Class"), accessFlags := 25, slot := 2, constantValue := 0 }, { name := "value", type := .long, accessFlags := 18, slot := 0, constantValue := 0 }, { name := "SIZE", type := .int, accessFlags := 25, slot := 3, constantValue := 0 }, { name := "BYTES", type := .int, accessFlags := 25, slot := 4, constantValue := 0 }, { name := "serialVersionUID", type := .long, accessFlags := 26, slot := 5, constantValue := 0 }]
  methods := #[k24m0]
  instanceTypes := #[.long]
  staticTypes := #[.long, .long, (.object "java/lang/Class"), .int, .int, .long]
  resolved := Array.replicate 524 none
  statics := none }

def pool25 : Array CpInfo := pool [(2, .class_ 4), (1, u "java/lang/Object"), (0, u "<init>"), (0, u "()V"), (1, .class_ 10), (1, u "java/lang/System"), (0, u "allowSecurityManager"), (0, u "I"), (16, u "cons"), (0, u "Ljava/io/Console;"), (77, .class_ 110), (1, u "java/lang/System$CallersHolder"), (43, u "initialErrStream"), (0, u "Ljava/io/PrintStream;"), (19, u "security"), (0, u "Ljava/lang/SecurityManager;"), (31, .class_ 209), (0, u "java/lang/System$1"), (7, u "props"), (0, u "Ljava/util/Properties;"), (2, u "lineSeparator"), (0, u "Ljava/lang/String;"), (96, .class_ 321), (1, u "java/lang/System$LoggerFinder"), (5, .class_ 328), (0, u "java/lang/System$Logger"), (67, u "err"), (2, u "out"), (91, u "notSupportedJnuEncoding"), (15, u "in"), (17, u "initialIn"), (0, u "Ljava/io/InputStream;"), (35, u "bootLayer"), (0, u "Ljava/lang/ModuleLayer;"), (99, .class_ 664), (0, u "java/lang/System$2"), (9, u "NEVER"), (2, u "MAYBE"), (49, u "arraycopy"), (0, u "(Ljava/lang/Object;ILjava/lang/Object;II)V"), (72, .class_ 802), (0, u "java/lang/System$Logger$Level")] 31

def k25m0 : Method := { name := "<init>", desc := "()V", sig := { parameters := [], returnType := none }, accessFlags := 2, code := none }
def k25m1 : Method := { name := "arraycopy", desc := "(Ljava/lang/Object;ILjava/lang/Object;II)V", sig := { parameters := [(.object "java/lang/Object"), .int, (.object "java/lang/Object"), .int, .int], returnType := none }, accessFlags := 265, code := none }
/-- java/lang/System -/
def k25 : Class := { plain "java/lang/System" (some 0) with
  accessFlags := 49
  interfaces := #[]
  cf := some (fileOf pool25 8 #[.nestMembers #[319, 327, 801, 108, 663, 208]] #[{ accessFlags := 2, nameIndex := 5, descriptorIndex := 6, attributes := #[] }, { accessFlags := 265, nameIndex := 727, descriptorIndex := 728, attributes := #[] }] 49 2 #[] #[{ accessFlags := 25, nameIndex := 507, descriptorIndex := 526, attributes := #[] }, { accessFlags := 25, nameIndex := 399, descriptorIndex := 155, attributes := #[] }, { accessFlags := 25, nameIndex := 396, descriptorIndex := 155, attributes := #[] }, { accessFlags := 10, nameIndex := 525, descriptorIndex := 526, attributes := #[] }, { accessFlags := 26, nameIndex := 674, descriptorIndex := 12, attributes := #[] }, { accessFlags := 26, nameIndex := 677, descriptorIndex := 12, attributes := #[] }, { accessFlags := 10, nameIndex := 11, descriptorIndex := 12, attributes := #[] }, { accessFlags := 74, nameIndex := 175, descriptorIndex := 176, attributes := #[] }, { accessFlags := 10, nameIndex := 491, descriptorIndex := 222, attributes := #[] }, { accessFlags := 74, nameIndex := 29, descriptorIndex := 30, attributes := #[] }, { accessFlags := 74, nameIndex := 154, descriptorIndex := 155, attributes := #[] }, { accessFlags := 10, nameIndex := 217, descriptorIndex := 218, attributes := #[] }, { accessFlags := 10, nameIndex := 221, descriptorIndex := 222, attributes := #[] }, { accessFlags := 8, nameIndex := 562, descriptorIndex := 563, attributes := #[] }])
  fields := #[{ name := "in", type := (.object "java/io/InputStream"), accessFlags := 25, slot := 0, constantValue := 0 }, { name := "out", type := (.object "java/io/PrintStream"), accessFlags := 25, slot := 1, constantValue := 0 }, { name := "err", type := (.object "java/io/PrintStream"), accessFlags := 25, slot := 2, constantValue := 0 }, { name := "initialIn", type := (.object "java/io/InputStream"), accessFlags := 10, slot := 3, constantValue := 0 }, { name := "NEVER", type := .int, accessFlags := 26, slot := 4, constantValue := 0 }, { name := "MAYBE", type := .int, accessFlags := 26, slot := 5, constantValue := 0 }, { name := "allowSecurityManager", type := .int, accessFlags := 10, slot := 6, constantValue := 0 }, { name := "security", type := (.object "java/lang/SecurityManager"), accessFlags := 74, slot := 7, constantValue := 0 }, { name := "notSupportedJnuEncoding", type := (.object "java/lang/String"), accessFlags := 10, slot := 8, constantValue := 0 }, { name := "cons", type := (.object "java/io/Console"), accessFlags := 74, slot := 9, constantValue := 0 }, { name := "initialErrStream", type := (.object "java/io/PrintStream"), accessFlags := 74, slot := 10, constantValue := 0 }, { name := "props", type := (.object "java/util/Properties"), accessFlags := 10, slot := 11, constantValue := 0 }, { name := "lineSeparator", type := (.object "java/lang/String"), accessFlags := 10, slot := 12, constantValue := 0 }, { name := "bootLayer", type := (.object "java/lang/ModuleLayer"), accessFlags := 8, slot := 13, constantValue := 0 }]
  methods := #[k25m0, k25m1]
  instanceTypes := #[]
  staticTypes := #[(.object "java/io/InputStream"), (.object "java/io/PrintStream"), (.object "java/io/PrintStream"), (.object "java/io/InputStream"), .int, .int, .int, (.object "java/lang/SecurityManager"), (.object "java/lang/String"), (.object "java/io/Console"), (.object "java/io/PrintStream"), (.object "java/util/Properties"), (.object "java/lang/String"), (.object "java/lang/ModuleLayer")]
  resolved := Array.replicate 834 none
  statics := none }

def pool26 : Array CpInfo := pool [(2, .class_ 4), (1, u "java/lang/Object"), (0, u "<init>"), (0, u "()V"), (6, .methodref 14 15), (0, .class_ 16), (0, .nameAndType 17 18), (0, u "java/util/Arrays"), (0, u "rangeCheck"), (0, u "(III)V"), (55, .class_ 76), (1, u "java/util/Arrays$NaturalOrder"), (36, .class_ 115), (1, u "java/util/Arrays$LegacyMergeSort"), (1, u "Z"), (32, .methodref 151 152), (0, .class_ 153), (0, .nameAndType 154 155), (0, u "java/lang/System"), (0, u "arraycopy"), (0, u "(Ljava/lang/Object;ILjava/lang/Object;II)V"), (142, u "equals"), (3, u "copyOf"), (1, .methodref 305 306), (0, .class_ 307), (0, .nameAndType 308 309), (0, u "java/lang/Math"), (0, u "min"), (0, u "(II)I"), (65, .class_ 376), (0, u "java/util/Arrays$ArrayList"), (68, u "$assertionsDisabled"), (269, u "MIN_ARRAY_SORT_GRAN"), (0, u "I"), (2, u "INSERTIONSORT_THRESHOLD"), (111, u "([BII[BII)Z"), (37, u "([BI)[B"), (105, .class_ 976), (0, u "java/util/Arrays$ArrayItr")] 52

def k26m0 : Method := { name := "<init>", desc := "()V", sig := { parameters := [], returnType := none }, accessFlags := 2, code := none }
def k26c1 : Code := { maxStack := 4, maxLocals := 3, code := jdk_65_method_30_code, exceptionTable := #[], attributes := #[] }
def k26m1 : Method := { name := "rangeCheck", desc := "(III)V", sig := { parameters := [.int, .int, .int], returnType := none }, accessFlags := 8, code := some k26c1 }
def k26c2 : Code := { maxStack := 5, maxLocals := 8, code := jdk_65_method_90_code, exceptionTable := #[], attributes := #[] }
def k26m2 : Method := { name := "equals", desc := "([BII[BII)Z", sig := { parameters := [(.array .byte), .int, .int, (.array .byte), .int, .int], returnType := some .boolean }, accessFlags := 9, code := some k26c2 }
def k26c3 : Code := { maxStack := 6, maxLocals := 3, code := jdk_65_method_121_code, exceptionTable := #[], attributes := #[] }
def k26m3 : Method := { name := "copyOf", desc := "([BI)[B", sig := { parameters := [(.array .byte), .int], returnType := some (.array .byte) }, accessFlags := 9, code := some k26c3 }
/-- java/util/Arrays -/
def k26 : Class := { plain "java/util/Arrays" (some 0) with
  accessFlags := 49
  interfaces := #[]
  cf := some (fileOf pool26 14 #[.nestMembers #[975, 375, 113, 74]] #[{ accessFlags := 2, nameIndex := 5, descriptorIndex := 6, attributes := #[] }, { accessFlags := 8, nameIndex := 17, descriptorIndex := 18, attributes := #[] }, { accessFlags := 9, nameIndex := 298, descriptorIndex := 831, attributes := #[] }, { accessFlags := 9, nameIndex := 302, descriptorIndex := 869, attributes := #[] }] 49 2 #[] #[{ accessFlags := 26, nameIndex := 715, descriptorIndex := 716, attributes := #[] }, { accessFlags := 26, nameIndex := 719, descriptorIndex := 716, attributes := #[] }, { accessFlags := 4120, nameIndex := 445, descriptorIndex := 117, attributes := #[] }])
  fields := #[{ name := "MIN_ARRAY_SORT_GRAN", type := .int, accessFlags := 26, slot := 0, constantValue := 0 }, { name := "INSERTIONSORT_THRESHOLD", type := .int, accessFlags := 26, slot := 1, constantValue := 0 }, { name := "$assertionsDisabled", type := .boolean, accessFlags := 4120, slot := 2, constantValue := 0 }]
  methods := #[k26m0, k26m1, k26m2, k26m3]
  instanceTypes := #[]
  staticTypes := #[.int, .int, .boolean]
  resolved := Array.replicate 1029 none
  statics := none }

def pool27 : Array CpInfo := pool [(2, .class_ 4), (1, u "java/lang/Object"), (0, u "<init>"), (0, u "()V"), (17, .class_ 26), (1, u "jdk/internal/util/Preconditions"), (28, .class_ 56), (0, u "jdk/internal/util/Preconditions$4"), (57, .class_ 115), (0, u "jdk/internal/util/Preconditions$1"), (7, u "SIOOBE_FORMATTER"), (0, u "Ljava/util/function/BiFunction;"), (0, .class_ 126), (0, u "jdk/internal/util/Preconditions$2"), (3, u "AIOOBE_FORMATTER"), (0, .class_ 132), (0, u "jdk/internal/util/Preconditions$3"), (3, u "IOOBE_FORMATTER")] 57

def k27m0 : Method := { name := "<init>", desc := "()V", sig := { parameters := [], returnType := none }, accessFlags := 1, code := none }
/-- jdk/internal/util/Preconditions -/
def k27 : Class := { plain "jdk/internal/util/Preconditions" (some 0) with
  accessFlags := 33
  interfaces := #[]
  cf := some (fileOf pool27 24 #[.nestMembers #[55, 131, 125, 114]] #[{ accessFlags := 1, nameIndex := 5, descriptorIndex := 6, attributes := #[] }] 33 2 #[] #[{ accessFlags := 25, nameIndex := 123, descriptorIndex := 124, attributes := #[] }, { accessFlags := 25, nameIndex := 130, descriptorIndex := 124, attributes := #[] }, { accessFlags := 25, nameIndex := 136, descriptorIndex := 124, attributes := #[] }])
  fields := #[{ name := "SIOOBE_FORMATTER", type := (.object "java/util/function/BiFunction"), accessFlags := 25, slot := 0, constantValue := 0 }, { name := "AIOOBE_FORMATTER", type := (.object "java/util/function/BiFunction"), accessFlags := 25, slot := 1, constantValue := 0 }, { name := "IOOBE_FORMATTER", type := (.object "java/util/function/BiFunction"), accessFlags := 25, slot := 2, constantValue := 0 }]
  methods := #[k27m0]
  instanceTypes := #[]
  staticTypes := #[(.object "java/util/function/BiFunction"), (.object "java/util/function/BiFunction"), (.object "java/util/function/BiFunction")]
  resolved := Array.replicate 194 none
  statics := some 5 }

def pool28 : Array CpInfo := pool [(9, u "<init>"), (6, .class_ 18), (1, u "java/lang/Object"), (0, u "()V"), (1, .class_ 23), (1, u "jdk/internal/util/ArraysSupport"), (0, u "LOG2_ARRAY_LONG_INDEX_SCALE"), (0, u "I"), (2, u "U"), (0, u "Ljdk/internal/misc/Unsafe;"), (8, u "BIG_ENDIAN"), (0, u "Z"), (8, u "LOG2_BYTE_BIT_SIZE"), (4, u "LOG2_ARRAY_INT_INDEX_SCALE"), (54, u "JLA"), (0, u "Ljdk/internal/access/JavaLangAccess;"), (11, u "LOG2_ARRAY_BOOLEAN_INDEX_SCALE"), (9, u "LOG2_ARRAY_BYTE_INDEX_SCALE"), (5, u "LOG2_ARRAY_CHAR_INDEX_SCALE"), (5, u "LOG2_ARRAY_SHORT_INDEX_SCALE"), (18, u "LOG2_ARRAY_FLOAT_INDEX_SCALE"), (24, u "LOG2_ARRAY_DOUBLE_INDEX_SCALE"), (89, u "T_BOOLEAN"), (2, u "T_CHAR"), (1, u "T_FLOAT"), (1, u "T_DOUBLE"), (1, u "T_BYTE"), (1, u "T_SHORT"), (1, u "T_INT"), (1, u "T_LONG"), (1, u "SOFT_MAX_ARRAY_LENGTH")] 83

def k28m0 : Method := { name := "<init>", desc := "()V", sig := { parameters := [], returnType := none }, accessFlags := 2, code := none }
/-- jdk/internal/util/ArraysSupport -/
def k28 : Class := { plain "jdk/internal/util/ArraysSupport" (some 0) with
  accessFlags := 33
  interfaces := #[]
  cf := some (fileOf pool28 21 #[] #[{ accessFlags := 2, nameIndex := 9, descriptorIndex := 19, attributes := #[] }] 33 16 #[] #[{ accessFlags := 24, nameIndex := 28, descriptorIndex := 29, attributes := #[] }, { accessFlags := 26, nameIndex := 38, descriptorIndex := 39, attributes := #[] }, { accessFlags := 25, nameIndex := 121, descriptorIndex := 25, attributes := #[] }, { accessFlags := 25, nameIndex := 131, descriptorIndex := 25, attributes := #[] }, { accessFlags := 25, nameIndex := 137, descriptorIndex := 25, attributes := #[] }, { accessFlags := 25, nameIndex := 143, descriptorIndex := 25, attributes := #[] }, { accessFlags := 25, nameIndex := 53, descriptorIndex := 25, attributes := #[] }, { accessFlags := 25, nameIndex := 24, descriptorIndex := 25, attributes := #[] }, { accessFlags := 25, nameIndex := 162, descriptorIndex := 25, attributes := #[] }, { accessFlags := 25, nameIndex := 187, descriptorIndex := 25, attributes := #[] }, { accessFlags := 26, nameIndex := 48, descriptorIndex := 25, attributes := #[] }, { accessFlags := 25, nameIndex := 277, descriptorIndex := 25, attributes := #[] }, { accessFlags := 25, nameIndex := 280, descriptorIndex := 25, attributes := #[] }, { accessFlags := 25, nameIndex := 282, descriptorIndex := 25, attributes := #[] }, { accessFlags := 25, nameIndex := 284, descriptorIndex := 25, attributes := #[] }, { accessFlags := 25, nameIndex := 286, descriptorIndex := 25, attributes := #[] }, { accessFlags := 25, nameIndex := 288, descriptorIndex := 25, attributes := #[] }, { accessFlags := 25, nameIndex := 290, descriptorIndex := 25, attributes := #[] }, { accessFlags := 25, nameIndex := 292, descriptorIndex := 25, attributes := #[] }, { accessFlags := 26, nameIndex := 108, descriptorIndex := 109, attributes := #[] }, { accessFlags := 25, nameIndex := 294, descriptorIndex := 25, attributes := #[] }])
  fields := #[{ name := "U", type := (.object "jdk/internal/misc/Unsafe"), accessFlags := 24, slot := 0, constantValue := 0 }, { name := "BIG_ENDIAN", type := .boolean, accessFlags := 26, slot := 1, constantValue := 0 }, { name := "LOG2_ARRAY_BOOLEAN_INDEX_SCALE", type := .int, accessFlags := 25, slot := 2, constantValue := 0 }, { name := "LOG2_ARRAY_BYTE_INDEX_SCALE", type := .int, accessFlags := 25, slot := 3, constantValue := 0 }, { name := "LOG2_ARRAY_CHAR_INDEX_SCALE", type := .int, accessFlags := 25, slot := 4, constantValue := 0 }, { name := "LOG2_ARRAY_SHORT_INDEX_SCALE", type := .int, accessFlags := 25, slot := 5, constantValue := 0 }, { name := "LOG2_ARRAY_INT_INDEX_SCALE", type := .int, accessFlags := 25, slot := 6, constantValue := 0 }, { name := "LOG2_ARRAY_LONG_INDEX_SCALE", type := .int, accessFlags := 25, slot := 7, constantValue := 0 }, { name := "LOG2_ARRAY_FLOAT_INDEX_SCALE", type := .int, accessFlags := 25, slot := 8, constantValue := 0 }, { name := "LOG2_ARRAY_DOUBLE_INDEX_SCALE", type := .int, accessFlags := 25, slot := 9, constantValue := 0 }, { name := "LOG2_BYTE_BIT_SIZE", type := .int, accessFlags := 26, slot := 10, constantValue := 0 }, { name := "T_BOOLEAN", type := .int, accessFlags := 25, slot := 11, constantValue := 0 }, { name := "T_CHAR", type := .int, accessFlags := 25, slot := 12, constantValue := 0 }, { name := "T_FLOAT", type := .int, accessFlags := 25, slot := 13, constantValue := 0 }, { name := "T_DOUBLE", type := .int, accessFlags := 25, slot := 14, constantValue := 0 }, { name := "T_BYTE", type := .int, accessFlags := 25, slot := 15, constantValue := 0 }, { name := "T_SHORT", type := .int, accessFlags := 25, slot := 16, constantValue := 0 }, { name := "T_INT", type := .int, accessFlags := 25, slot := 17, constantValue := 0 }, { name := "T_LONG", type := .int, accessFlags := 25, slot := 18, constantValue := 0 }, { name := "JLA", type := (.object "jdk/internal/access/JavaLangAccess"), accessFlags := 26, slot := 19, constantValue := 0 }, { name := "SOFT_MAX_ARRAY_LENGTH", type := .int, accessFlags := 25, slot := 20, constantValue := 0 }]
  methods := #[k28m0]
  instanceTypes := #[]
  staticTypes := #[(.object "jdk/internal/misc/Unsafe"), .boolean, .int, .int, .int, .int, .int, .int, .int, .int, .int, .int, .int, .int, .int, .int, .int, .int, .int, (.object "jdk/internal/access/JavaLangAccess"), .int]
  resolved := Array.replicate 378 none
  statics := none }

/-- the primitive byte -/
def k29 : Class := { plain "byte" none with kind := .primitive 'B', accessFlags := 0x411 }
/-- [B -/
def k30 : Class := { plain "[B" (some 0) with kind := .array 29 .byte, interfaces := #[20, 4], accessFlags := 1041 }

/-- the primitive char -/
def k31 : Class := { plain "char" none with kind := .primitive 'C', accessFlags := 0x411 }
/-- [C -/
def k32 : Class := { plain "[C" (some 0) with kind := .array 31 .char, interfaces := #[20, 4], accessFlags := 1041 }

/-- the primitive int -/
def k33 : Class := { plain "int" none with kind := .primitive 'I', accessFlags := 0x411 }
/-- [I -/
def k34 : Class := { plain "[I" (some 0) with kind := .array 33 .int, interfaces := #[20, 4], accessFlags := 1041 }

/-- the primitive long -/
def k35 : Class := { plain "long" none with kind := .primitive 'J', accessFlags := 0x411 }
/-- [J -/
def k36 : Class := { plain "[J" (some 0) with kind := .array 35 .long, interfaces := #[20, 4], accessFlags := 1041 }

/-- [Lcom/example/yusen_ledger/yusenledger/HolderCategory; -/
def k37 : Class := { plain "[Lcom/example/yusen_ledger/yusenledger/HolderCategory;" (some 0) with kind := .array 7 (.object "com/example/yusen_ledger/yusenledger/HolderCategory"), interfaces := #[20, 4], accessFlags := 1041 }

def heap : Heap := #[{ cls := 7, slots := #[.ref 7, .ref 8, .ref 9, .ref 10, .ref 11, .ref 12, .ref 13, .null], vm := .statics 7 },
  { cls := 10, slots := #[.long 0, .int 1, .null, .int 0, .null, .int 0, .int 0], vm := .statics 10 },
  { cls := 13, slots := #[.int 0, .int 0, .ref 6, .ref 14, .int 0], vm := .statics 13 },
  { cls := 14, slots := #[.null, .null, .ref 15, .null, .null, .null], vm := .statics 14 },
  { cls := 18, slots := #[.ref 15, .null], vm := .statics 18 },
  { cls := 27, slots := #[.null, .null, .null], vm := .statics 27 },
  { cls := 37, slots := #[.ref 7, .ref 8, .ref 9, .ref 10, .ref 11, .ref 12, .ref 13], vm := .none },
  { cls := 7, slots := #[.null, .int 0, .int 0, .null, .null], vm := .none },
  { cls := 7, slots := #[.null, .int 1, .int 0, .null, .null], vm := .none },
  { cls := 7, slots := #[.null, .int 2, .int 0, .null, .null], vm := .none },
  { cls := 7, slots := #[.null, .int 3, .int 0, .null, .null], vm := .none },
  { cls := 7, slots := #[.null, .int 4, .int 0, .null, .null], vm := .none },
  { cls := 7, slots := #[.null, .int 5, .int 0, .null, .null], vm := .none },
  { cls := 7, slots := #[.null, .int 6, .int 0, .null, .null], vm := .none },
  { cls := 21, slots := #[.long 0, .long 0], vm := .none },
  { cls := 18, slots := #[.null, .null, .null], vm := .none }]
def classes : Array Class := #[k0, k1, k2, k3, k4, k5, k6, k7, k8, k9, k10, k11, k12, k13, k14, k15, k16, k17, k18, k19, k20, k21, k22, k23, k24, k25, k26, k27, k28, k29, k30, k31, k32, k33, k34, k35, k36, k37]
def interned : List (Array UInt16 × Addr) := []
def slotsUsed : Nat := 78
def theMethod : MethodId := ⟨1, 2⟩
def args0 : Array Value := #[.int 5, .int 5, .int 5, .int 5, .int 5, .int 5]
def aboutOver (below : List Frame) : State where
  vm := { classes := classes, interned := interned.toArray }
  heap := heap
  slotsUsed := slotsUsed
  threads := #[{ frames := .invoking theMethod args0 :: below }]
def below0 : List Frame := [.native { method := ⟨0, 0⟩, args := #[] }]
def about1 : State := aboutOver below0
def p0 : Program := .bare "" "" ""
def e0 : Env := launch0.env 0 0 0
theorem w_frames : about1.frames = Frame.invoking theMethod args0 :: below0 := rfl
set_option maxRecDepth 65536 in
theorem w_args : argsFit about1.vm theMethod args0 = true := by decide +kernel
set_option maxRecDepth 65536 in
theorem w_heap : heapFits about1 = true := by decide +kernel
set_option maxRecDepth 65536 in
theorem w_runnable : about1.curStatus? = some .runnable := by decide +kernel
set_option maxRecDepth 65536 in
theorem w_alone : about1.alone = true := by decide +kernel
set_option maxRecDepth 65536 in
theorem w_named : about1.methodNamed? x = some theMethod := by decide +kernel
set_option maxRecDepth 65536 in
theorem w_hears : about1.hears theMethod below0 = true := by decide +kernel
set_option maxRecDepth 65536 in
theorem w_ripe : about1.ripe theMethod args0 below0 = true := by decide +kernel
theorem w_running : about1.status = .running := rfl
set_option maxRecDepth 65536 in
theorem w_room : about1.hasRoom e0.platform room_1 = true :=
  launch0.hasRoom_least _ room_1 (by decide +kernel) (by decide +kernel) (by decide +kernel) (by decide +kernel) (by decide +kernel) (by decide +kernel)
theorem allAtoms_all (ts : List Jvm.Cond) (a : Array Jvm.Value) (st : Jvm.State) : (allAtoms ts).before a st = ts.all (fun c => c.before a st) := by
  induction ts with
  | nil => rfl
  | cons c t ih =>
    show (Jvm.Cond.and c (allAtoms t)).before a st = _
    rw [Jvm.Cond.before_and, ih, List.all_cons]
def words1 : List Jvm.Cond := Jvm.Cond.code x code maxLocals ret :: tables_1
/-- a 'code' word, met by the world's own term for the bytes: nothing is compared byte by byte -/
theorem code_word {y : MethodName} {bytes : ByteArray} {mx : Nat} {rt : Option FieldType} {a : Array Value} {s : State} {m : MethodId} {meth : Method} {c : Code} (h1 : s.methodNamed? y = some m) (h2 : s.vm.method? m = some meth) (h3 : meth.code = some c) (h4 : c.code = bytes)
    (h5 : (c.maxLocals == mx && c.exceptionTable.isEmpty && decide (c.maxStack ≤ mostOperands) && decide (meth.sig.returnType = rt) && !meth.locks && decide (parseMethodDescriptor y.desc = some meth.sig)) = true) : (Jvm.Cond.code y bytes mx rt).before a s = true := by
  simp only [Bool.and_eq_true, beq_iff_eq, Bool.not_eq_true', decide_eq_true_eq] at h5
  obtain ⟨⟨⟨⟨⟨g1, g2⟩, g3⟩, g4⟩, g5⟩, g6⟩ := h5
  simp [Cond.before, Cond.holds, Cond.value, h1, h2, h3, h4, g1, g2, g3, g4, g5, g6]
def isCode : Jvm.Cond → Bool
  | .code _ _ _ _ => true
  | _ => false
theorem all_split {L : List Jvm.Cond} {P : Jvm.Cond → Bool} (h1 : L.all (fun c => isCode c || P c) = true) (h2 : ∀ c ∈ L.filter isCode, P c = true) : L.all P = true := by
  refine List.all_eq_true.mpr fun c hc => ?_
  have h := List.all_eq_true.mp h1 c hc
  rcases Bool.eq_false_or_eq_true (isCode c) with hi | hi
  · exact h2 c (List.mem_filter.mpr ⟨hc, hi⟩)
  · simpa [hi] using h
set_option maxRecDepth 65536 in
theorem w_c0 : (Jvm.Cond.code x code maxLocals ret).before args0 about1 = true := code_word (m := ⟨1, 2⟩) (meth := k1m2) (c := k1c2) (by decide +kernel) rfl rfl rfl (by decide +kernel)
set_option maxRecDepth 65536 in
theorem w_c1 : (Jvm.Cond.code ({ cls := "com/example/yusen_ledger/yusenledger/HolderTableCategoryPinLaw", name := "pick", desc := "(I)Lcom/example/yusen_ledger/yusenledger/HolderCategory;" } : Jvm.MethodName) method_2_code (2 : Nat) (Option.some (Jvm.ClassFile.FieldType.object "com/example/yusen_ledger/yusenledger/HolderCategory"))).before args0 about1 = true := code_word (m := ⟨1, 1⟩) (meth := k1m1) (c := k1c1) (by decide +kernel) rfl rfl rfl (by decide +kernel)
set_option maxRecDepth 65536 in
theorem w_c2 : (Jvm.Cond.code ({ cls := "java/lang/String", name := "valueOf", desc := "(C)Ljava/lang/String;" } : Jvm.MethodName) jdk_42_method_139_code (1 : Nat) (Option.some (Jvm.ClassFile.FieldType.object "java/lang/String"))).before args0 about1 = true := code_word (m := ⟨10, 5⟩) (meth := k10m5) (c := k10c5) (by decide +kernel) rfl rfl rfl (by decide +kernel)
set_option maxRecDepth 65536 in
theorem w_c3 : (Jvm.Cond.code ({ cls := "java/lang/StringLatin1", name := "canEncode", desc := "(C)Z" } : Jvm.MethodName) jdk_43_method_3_code (1 : Nat) (Option.some Jvm.ClassFile.FieldType.boolean)).before args0 about1 = true := code_word (m := ⟨11, 1⟩) (meth := k11m1) (c := k11c1) (by decide +kernel) rfl rfl rfl (by decide +kernel)
set_option maxRecDepth 65536 in
theorem w_c4 : (Jvm.Cond.code ({ cls := "java/lang/StringLatin1", name := "toBytes", desc := "(C)[B" } : Jvm.MethodName) jdk_43_method_46_code (1 : Nat) (Option.some (Jvm.ClassFile.FieldType.array Jvm.ClassFile.FieldType.byte))).before args0 about1 = true := code_word (m := ⟨11, 2⟩) (meth := k11m2) (c := k11c2) (by decide +kernel) rfl rfl rfl (by decide +kernel)
set_option maxRecDepth 65536 in
theorem w_c5 : (Jvm.Cond.code ({ cls := "java/lang/String", name := "<init>", desc := "([BB)V" } : Jvm.MethodName) jdk_42_method_151_code (3 : Nat) (Option.none : Option Jvm.ClassFile.FieldType)).before args0 about1 = true := code_word (m := ⟨10, 7⟩) (meth := k10m7) (c := k10c7) (by decide +kernel) rfl rfl rfl (by decide +kernel)
set_option maxRecDepth 65536 in
theorem w_c6 : (Jvm.Cond.code ({ cls := "java/lang/Object", name := "<init>", desc := "()V" } : Jvm.MethodName) object_method_1_code (1 : Nat) (Option.none : Option Jvm.ClassFile.FieldType)).before args0 about1 = true := code_word (m := ⟨0, 0⟩) (meth := k0m0) (c := k0c0) (by decide +kernel) rfl rfl rfl (by decide +kernel)
set_option maxRecDepth 65536 in
theorem w_c7 : (Jvm.Cond.code ({ cls := "java/lang/String", name := "<init>", desc := "([C)V" } : Jvm.MethodName) jdk_42_method_3_code (2 : Nat) (Option.none : Option Jvm.ClassFile.FieldType)).before args0 about1 = true := code_word (m := ⟨10, 1⟩) (meth := k10m1) (c := k10c1) (by decide +kernel) rfl rfl rfl (by decide +kernel)
set_option maxRecDepth 65536 in
theorem w_c8 : (Jvm.Cond.code ({ cls := "java/lang/String", name := "<init>", desc := "([CIILjava/lang/Void;)V" } : Jvm.MethodName) jdk_42_method_149_code (6 : Nat) (Option.none : Option Jvm.ClassFile.FieldType)).before args0 about1 = true := code_word (m := ⟨10, 6⟩) (meth := k10m6) (c := k10c6) (by decide +kernel) rfl rfl rfl (by decide +kernel)
set_option maxRecDepth 65536 in
theorem w_c9 : (Jvm.Cond.code ({ cls := "java/lang/StringUTF16", name := "compress", desc := "([CII)[B" } : Jvm.MethodName) jdk_52_method_16_code (6 : Nat) (Option.some (Jvm.ClassFile.FieldType.array Jvm.ClassFile.FieldType.byte))).before args0 about1 = true := code_word (m := ⟨12, 4⟩) (meth := k12m4) (c := k12c4) (by decide +kernel) rfl rfl rfl (by decide +kernel)
set_option maxRecDepth 65536 in
theorem w_c10 : (Jvm.Cond.code ({ cls := "java/lang/StringUTF16", name := "compress", desc := "([CI[BII)I" } : Jvm.MethodName) jdk_52_method_21_code (7 : Nat) (Option.some Jvm.ClassFile.FieldType.int)).before args0 about1 = true := code_word (m := ⟨12, 5⟩) (meth := k12m5) (c := k12c5) (by decide +kernel) rfl rfl rfl (by decide +kernel)
set_option maxRecDepth 65536 in
theorem w_c11 : (Jvm.Cond.code ({ cls := "java/lang/StringUTF16", name := "coderFromArrayLen", desc := "([BI)B" } : Jvm.MethodName) jdk_52_method_15_code (2 : Nat) (Option.some Jvm.ClassFile.FieldType.byte)).before args0 about1 = true := code_word (m := ⟨12, 3⟩) (meth := k12m3) (c := k12c3) (by decide +kernel) rfl rfl rfl (by decide +kernel)
set_option maxRecDepth 65536 in
theorem w_c12 : (Jvm.Cond.code ({ cls := "com/example/yusen_ledger/yusenledger/HolderTable", name := "<init>", desc := "(I)V" } : Jvm.MethodName) prog_21_method_1_code (2 : Nat) (Option.none : Option Jvm.ClassFile.FieldType)).before args0 about1 = true := code_word (m := ⟨13, 0⟩) (meth := k13m0) (c := k13c0) (by decide +kernel) rfl rfl rfl (by decide +kernel)
set_option maxRecDepth 65536 in
theorem w_c13 : (Jvm.Cond.code ({ cls := "com/example/yusen_ledger/yusenledger/HolderTable", name := "<init>", desc := "(II[B[I[B[J[ILcom/example/yusen_ledger/yusenledger/SipHash;)V" } : Jvm.MethodName) prog_21_method_2_code (9 : Nat) (Option.none : Option Jvm.ClassFile.FieldType)).before args0 about1 = true := code_word (m := ⟨13, 1⟩) (meth := k13m1) (c := k13c1) (by decide +kernel) rfl rfl rfl (by decide +kernel)
set_option maxRecDepth 65536 in
theorem w_c14 : (Jvm.Cond.code ({ cls := "com/example/yusen_ledger/yusenledger/HolderTable", name := "add", desc := "(Ljava/lang/String;Ljava/lang/String;Lcom/example/yusen_ledger/yusenledger/HolderCategory;)I" } : Jvm.MethodName) prog_21_method_5_code (10 : Nat) (Option.some Jvm.ClassFile.FieldType.int)).before args0 about1 = true := code_word (m := ⟨13, 2⟩) (meth := k13m2) (c := k13c2) (by decide +kernel) rfl rfl rfl (by decide +kernel)
set_option maxRecDepth 65536 in
theorem w_c15 : (Jvm.Cond.code ({ cls := "java/lang/String", name := "getBytes", desc := "(Ljava/nio/charset/Charset;)[B" } : Jvm.MethodName) jdk_42_method_64_code (2 : Nat) (Option.some (Jvm.ClassFile.FieldType.array Jvm.ClassFile.FieldType.byte))).before args0 about1 = true := code_word (m := ⟨10, 4⟩) (meth := k10m4) (c := k10c4) (by decide +kernel) rfl rfl rfl (by decide +kernel)
set_option maxRecDepth 65536 in
theorem w_c16 : (Jvm.Cond.code ({ cls := "java/lang/String", name := "coder", desc := "()B" } : Jvm.MethodName) jdk_42_method_152_code (1 : Nat) (Option.some Jvm.ClassFile.FieldType.byte)).before args0 about1 = true := code_word (m := ⟨10, 8⟩) (meth := k10m8) (c := k10c8) (by decide +kernel) rfl rfl rfl (by decide +kernel)
set_option maxRecDepth 65536 in
theorem w_c17 : (Jvm.Cond.code ({ cls := "java/lang/String", name := "encode", desc := "(Ljava/nio/charset/Charset;B[B)[B" } : Jvm.MethodName) jdk_42_method_18_code (3 : Nat) (Option.some (Jvm.ClassFile.FieldType.array Jvm.ClassFile.FieldType.byte))).before args0 about1 = true := code_word (m := ⟨10, 2⟩) (meth := k10m2) (c := k10c2) (by decide +kernel) rfl rfl rfl (by decide +kernel)
set_option maxRecDepth 65536 in
theorem w_c18 : (Jvm.Cond.code ({ cls := "java/lang/String", name := "encodeUTF8", desc := "(B[BZ)[B" } : Jvm.MethodName) jdk_42_method_46_code (9 : Nat) (Option.some (Jvm.ClassFile.FieldType.array Jvm.ClassFile.FieldType.byte))).before args0 about1 = true := code_word (m := ⟨10, 3⟩) (meth := k10m3) (c := k10c3) (by decide +kernel) rfl rfl rfl (by decide +kernel)
set_option maxRecDepth 65536 in
theorem w_c19 : (Jvm.Cond.code ({ cls := "java/lang/StringCoding", name := "hasNegatives", desc := "([BII)Z" } : Jvm.MethodName) jdk_123_method_2_code (3 : Nat) (Option.some Jvm.ClassFile.FieldType.boolean)).before args0 about1 = true := code_word (m := ⟨19, 1⟩) (meth := k19m1) (c := k19c1) (by decide +kernel) rfl rfl rfl (by decide +kernel)
set_option maxRecDepth 65536 in
theorem w_c20 : (Jvm.Cond.code ({ cls := "java/lang/StringCoding", name := "countPositives", desc := "([BII)I" } : Jvm.MethodName) jdk_123_method_3_code (5 : Nat) (Option.some Jvm.ClassFile.FieldType.int)).before args0 about1 = true := code_word (m := ⟨19, 2⟩) (meth := k19m2) (c := k19c2) (by decide +kernel) rfl rfl rfl (by decide +kernel)
set_option maxRecDepth 65536 in
theorem w_c21 : (Jvm.Cond.code ({ cls := "com/example/yusen_ledger/yusenledger/HolderTable", name := "home", desc := "([BII)I" } : Jvm.MethodName) prog_21_method_24_code (4 : Nat) (Option.some Jvm.ClassFile.FieldType.int)).before args0 about1 = true := code_word (m := ⟨13, 7⟩) (meth := k13m7) (c := k13c7) (by decide +kernel) rfl rfl rfl (by decide +kernel)
set_option maxRecDepth 65536 in
theorem w_c22 : (Jvm.Cond.code ({ cls := "com/example/yusen_ledger/yusenledger/SipHash", name := "of", desc := "([BII)J" } : Jvm.MethodName) prog_52_method_5_code (21 : Nat) (Option.some Jvm.ClassFile.FieldType.long)).before args0 about1 = true := code_word (m := ⟨21, 0⟩) (meth := k21m0) (c := k21c0) (by decide +kernel) rfl rfl rfl (by decide +kernel)
set_option maxRecDepth 65536 in
theorem w_c23 : (Jvm.Cond.code ({ cls := "java/lang/Math", name := "min", desc := "(II)I" } : Jvm.MethodName) jdk_29_method_69_code (2 : Nat) (Option.some Jvm.ClassFile.FieldType.int)).before args0 about1 = true := code_word (m := ⟨22, 1⟩) (meth := k22m1) (c := k22c1) (by decide +kernel) rfl rfl rfl (by decide +kernel)
set_option maxRecDepth 65536 in
theorem w_c24 : (Jvm.Cond.code ({ cls := "java/lang/Long", name := "rotateLeft", desc := "(JI)J" } : Jvm.MethodName) jdk_35_method_51_code (3 : Nat) (Option.some Jvm.ClassFile.FieldType.long)).before args0 about1 = true := code_word (m := ⟨24, 0⟩) (meth := k24m0) (c := k24c0) (by decide +kernel) rfl rfl rfl (by decide +kernel)
set_option maxRecDepth 65536 in
theorem w_c25 : (Jvm.Cond.code ({ cls := "com/example/yusen_ledger/yusenledger/HolderTable", name := "slotOf", desc := "([BI)I" } : Jvm.MethodName) prog_21_method_19_code (5 : Nat) (Option.some Jvm.ClassFile.FieldType.int)).before args0 about1 = true := code_word (m := ⟨13, 5⟩) (meth := k13m5) (c := k13c5) (by decide +kernel) rfl rfl rfl (by decide +kernel)
set_option maxRecDepth 65536 in
theorem w_c26 : (Jvm.Cond.code ({ cls := "com/example/yusen_ledger/yusenledger/HolderTable", name := "makeRoom", desc := "(I)V" } : Jvm.MethodName) prog_21_method_18_code (4 : Nat) (Option.none : Option Jvm.ClassFile.FieldType)).before args0 about1 = true := code_word (m := ⟨13, 4⟩) (meth := k13m4) (c := k13c4) (by decide +kernel) rfl rfl rfl (by decide +kernel)
set_option maxRecDepth 65536 in
theorem w_c27 : (Jvm.Cond.code ({ cls := "java/lang/Enum", name := "ordinal", desc := "()I" } : Jvm.MethodName) jdk_37_method_2_code (1 : Nat) (Option.some Jvm.ClassFile.FieldType.int)).before args0 about1 = true := code_word (m := ⟨5, 0⟩) (meth := k5m0) (c := k5c0) (by decide +kernel) rfl rfl rfl (by decide +kernel)
set_option maxRecDepth 65536 in
theorem w_c28 : (Jvm.Cond.code ({ cls := "com/example/yusen_ledger/yusenledger/HolderTable", name := "category", desc := "(I)Lcom/example/yusen_ledger/yusenledger/HolderCategory;" } : Jvm.MethodName) prog_21_method_9_code (3 : Nat) (Option.some (Jvm.ClassFile.FieldType.object "com/example/yusen_ledger/yusenledger/HolderCategory"))).before args0 about1 = true := code_word (m := ⟨13, 3⟩) (meth := k13m3) (c := k13c3) (by decide +kernel) rfl rfl rfl (by decide +kernel)
set_option maxRecDepth 65536 in
theorem w_c29 : (Jvm.Cond.code ({ cls := "java/lang/StringUTF16", name := "newBytesFor", desc := "(I)[B" } : Jvm.MethodName) jdk_52_method_2_code (1 : Nat) (Option.some (Jvm.ClassFile.FieldType.array Jvm.ClassFile.FieldType.byte))).before args0 about1 = true := code_word (m := ⟨12, 1⟩) (meth := k12m1) (c := k12c1) (by decide +kernel) rfl rfl rfl (by decide +kernel)
set_option maxRecDepth 65536 in
theorem w_c30 : (Jvm.Cond.code ({ cls := "java/lang/StringUTF16", name := "newBytesLength", desc := "(I)I" } : Jvm.MethodName) jdk_52_method_3_code (1 : Nat) (Option.some Jvm.ClassFile.FieldType.int)).before args0 about1 = true := code_word (m := ⟨12, 2⟩) (meth := k12m2) (c := k12c2) (by decide +kernel) rfl rfl rfl (by decide +kernel)
set_option maxRecDepth 65536 in
theorem w_c31 : (Jvm.Cond.code ({ cls := "java/util/Arrays", name := "copyOf", desc := "([BI)[B" } : Jvm.MethodName) jdk_65_method_121_code (3 : Nat) (Option.some (Jvm.ClassFile.FieldType.array Jvm.ClassFile.FieldType.byte))).before args0 about1 = true := code_word (m := ⟨26, 3⟩) (meth := k26m3) (c := k26c3) (by decide +kernel) rfl rfl rfl (by decide +kernel)
set_option maxRecDepth 65536 in
theorem w_c32 : (Jvm.Cond.code ({ cls := "com/example/yusen_ledger/yusenledger/HolderTable", name := "hasId", desc := "(I[B)Z" } : Jvm.MethodName) prog_21_method_20_code (3 : Nat) (Option.some Jvm.ClassFile.FieldType.boolean)).before args0 about1 = true := code_word (m := ⟨13, 6⟩) (meth := k13m6) (c := k13c6) (by decide +kernel) rfl rfl rfl (by decide +kernel)
set_option maxRecDepth 65536 in
theorem w_c33 : (Jvm.Cond.code ({ cls := "java/util/Arrays", name := "equals", desc := "([BII[BII)Z" } : Jvm.MethodName) jdk_65_method_90_code (8 : Nat) (Option.some Jvm.ClassFile.FieldType.boolean)).before args0 about1 = true := code_word (m := ⟨26, 2⟩) (meth := k26m2) (c := k26c2) (by decide +kernel) rfl rfl rfl (by decide +kernel)
set_option maxRecDepth 65536 in
theorem w_c34 : (Jvm.Cond.code ({ cls := "java/util/Arrays", name := "rangeCheck", desc := "(III)V" } : Jvm.MethodName) jdk_65_method_30_code (3 : Nat) (Option.none : Option Jvm.ClassFile.FieldType)).before args0 about1 = true := code_word (m := ⟨26, 1⟩) (meth := k26m1) (c := k26c1) (by decide +kernel) rfl rfl rfl (by decide +kernel)
def codes1 : List Jvm.Cond := [Jvm.Cond.code x code maxLocals ret, Jvm.Cond.code ({ cls := "com/example/yusen_ledger/yusenledger/HolderTableCategoryPinLaw", name := "pick", desc := "(I)Lcom/example/yusen_ledger/yusenledger/HolderCategory;" } : Jvm.MethodName) method_2_code (2 : Nat) (Option.some (Jvm.ClassFile.FieldType.object "com/example/yusen_ledger/yusenledger/HolderCategory")), Jvm.Cond.code ({ cls := "java/lang/String", name := "valueOf", desc := "(C)Ljava/lang/String;" } : Jvm.MethodName) jdk_42_method_139_code (1 : Nat) (Option.some (Jvm.ClassFile.FieldType.object "java/lang/String")), Jvm.Cond.code ({ cls := "java/lang/StringLatin1", name := "canEncode", desc := "(C)Z" } : Jvm.MethodName) jdk_43_method_3_code (1 : Nat) (Option.some Jvm.ClassFile.FieldType.boolean), Jvm.Cond.code ({ cls := "java/lang/StringLatin1", name := "toBytes", desc := "(C)[B" } : Jvm.MethodName) jdk_43_method_46_code (1 : Nat) (Option.some (Jvm.ClassFile.FieldType.array Jvm.ClassFile.FieldType.byte)), Jvm.Cond.code ({ cls := "java/lang/String", name := "<init>", desc := "([BB)V" } : Jvm.MethodName) jdk_42_method_151_code (3 : Nat) (Option.none : Option Jvm.ClassFile.FieldType), Jvm.Cond.code ({ cls := "java/lang/Object", name := "<init>", desc := "()V" } : Jvm.MethodName) object_method_1_code (1 : Nat) (Option.none : Option Jvm.ClassFile.FieldType), Jvm.Cond.code ({ cls := "java/lang/String", name := "<init>", desc := "([C)V" } : Jvm.MethodName) jdk_42_method_3_code (2 : Nat) (Option.none : Option Jvm.ClassFile.FieldType), Jvm.Cond.code ({ cls := "java/lang/String", name := "<init>", desc := "([CIILjava/lang/Void;)V" } : Jvm.MethodName) jdk_42_method_149_code (6 : Nat) (Option.none : Option Jvm.ClassFile.FieldType), Jvm.Cond.code ({ cls := "java/lang/StringUTF16", name := "compress", desc := "([CII)[B" } : Jvm.MethodName) jdk_52_method_16_code (6 : Nat) (Option.some (Jvm.ClassFile.FieldType.array Jvm.ClassFile.FieldType.byte)), Jvm.Cond.code ({ cls := "java/lang/StringUTF16", name := "compress", desc := "([CI[BII)I" } : Jvm.MethodName) jdk_52_method_21_code (7 : Nat) (Option.some Jvm.ClassFile.FieldType.int), Jvm.Cond.code ({ cls := "java/lang/StringUTF16", name := "coderFromArrayLen", desc := "([BI)B" } : Jvm.MethodName) jdk_52_method_15_code (2 : Nat) (Option.some Jvm.ClassFile.FieldType.byte), Jvm.Cond.code ({ cls := "com/example/yusen_ledger/yusenledger/HolderTable", name := "<init>", desc := "(I)V" } : Jvm.MethodName) prog_21_method_1_code (2 : Nat) (Option.none : Option Jvm.ClassFile.FieldType), Jvm.Cond.code ({ cls := "com/example/yusen_ledger/yusenledger/HolderTable", name := "<init>", desc := "(II[B[I[B[J[ILcom/example/yusen_ledger/yusenledger/SipHash;)V" } : Jvm.MethodName) prog_21_method_2_code (9 : Nat) (Option.none : Option Jvm.ClassFile.FieldType), Jvm.Cond.code ({ cls := "com/example/yusen_ledger/yusenledger/HolderTable", name := "add", desc := "(Ljava/lang/String;Ljava/lang/String;Lcom/example/yusen_ledger/yusenledger/HolderCategory;)I" } : Jvm.MethodName) prog_21_method_5_code (10 : Nat) (Option.some Jvm.ClassFile.FieldType.int), Jvm.Cond.code ({ cls := "java/lang/String", name := "getBytes", desc := "(Ljava/nio/charset/Charset;)[B" } : Jvm.MethodName) jdk_42_method_64_code (2 : Nat) (Option.some (Jvm.ClassFile.FieldType.array Jvm.ClassFile.FieldType.byte)), Jvm.Cond.code ({ cls := "java/lang/String", name := "coder", desc := "()B" } : Jvm.MethodName) jdk_42_method_152_code (1 : Nat) (Option.some Jvm.ClassFile.FieldType.byte), Jvm.Cond.code ({ cls := "java/lang/String", name := "encode", desc := "(Ljava/nio/charset/Charset;B[B)[B" } : Jvm.MethodName) jdk_42_method_18_code (3 : Nat) (Option.some (Jvm.ClassFile.FieldType.array Jvm.ClassFile.FieldType.byte)), Jvm.Cond.code ({ cls := "java/lang/String", name := "encodeUTF8", desc := "(B[BZ)[B" } : Jvm.MethodName) jdk_42_method_46_code (9 : Nat) (Option.some (Jvm.ClassFile.FieldType.array Jvm.ClassFile.FieldType.byte)), Jvm.Cond.code ({ cls := "java/lang/StringCoding", name := "hasNegatives", desc := "([BII)Z" } : Jvm.MethodName) jdk_123_method_2_code (3 : Nat) (Option.some Jvm.ClassFile.FieldType.boolean), Jvm.Cond.code ({ cls := "java/lang/StringCoding", name := "countPositives", desc := "([BII)I" } : Jvm.MethodName) jdk_123_method_3_code (5 : Nat) (Option.some Jvm.ClassFile.FieldType.int), Jvm.Cond.code ({ cls := "com/example/yusen_ledger/yusenledger/HolderTable", name := "home", desc := "([BII)I" } : Jvm.MethodName) prog_21_method_24_code (4 : Nat) (Option.some Jvm.ClassFile.FieldType.int), Jvm.Cond.code ({ cls := "com/example/yusen_ledger/yusenledger/SipHash", name := "of", desc := "([BII)J" } : Jvm.MethodName) prog_52_method_5_code (21 : Nat) (Option.some Jvm.ClassFile.FieldType.long), Jvm.Cond.code ({ cls := "java/lang/Math", name := "min", desc := "(II)I" } : Jvm.MethodName) jdk_29_method_69_code (2 : Nat) (Option.some Jvm.ClassFile.FieldType.int), Jvm.Cond.code ({ cls := "java/lang/Long", name := "rotateLeft", desc := "(JI)J" } : Jvm.MethodName) jdk_35_method_51_code (3 : Nat) (Option.some Jvm.ClassFile.FieldType.long), Jvm.Cond.code ({ cls := "com/example/yusen_ledger/yusenledger/HolderTable", name := "slotOf", desc := "([BI)I" } : Jvm.MethodName) prog_21_method_19_code (5 : Nat) (Option.some Jvm.ClassFile.FieldType.int), Jvm.Cond.code ({ cls := "com/example/yusen_ledger/yusenledger/HolderTable", name := "makeRoom", desc := "(I)V" } : Jvm.MethodName) prog_21_method_18_code (4 : Nat) (Option.none : Option Jvm.ClassFile.FieldType), Jvm.Cond.code ({ cls := "java/lang/Enum", name := "ordinal", desc := "()I" } : Jvm.MethodName) jdk_37_method_2_code (1 : Nat) (Option.some Jvm.ClassFile.FieldType.int), Jvm.Cond.code ({ cls := "com/example/yusen_ledger/yusenledger/HolderTable", name := "category", desc := "(I)Lcom/example/yusen_ledger/yusenledger/HolderCategory;" } : Jvm.MethodName) prog_21_method_9_code (3 : Nat) (Option.some (Jvm.ClassFile.FieldType.object "com/example/yusen_ledger/yusenledger/HolderCategory")), Jvm.Cond.code ({ cls := "java/lang/StringUTF16", name := "newBytesFor", desc := "(I)[B" } : Jvm.MethodName) jdk_52_method_2_code (1 : Nat) (Option.some (Jvm.ClassFile.FieldType.array Jvm.ClassFile.FieldType.byte)), Jvm.Cond.code ({ cls := "java/lang/StringUTF16", name := "newBytesLength", desc := "(I)I" } : Jvm.MethodName) jdk_52_method_3_code (1 : Nat) (Option.some Jvm.ClassFile.FieldType.int), Jvm.Cond.code ({ cls := "java/util/Arrays", name := "copyOf", desc := "([BI)[B" } : Jvm.MethodName) jdk_65_method_121_code (3 : Nat) (Option.some (Jvm.ClassFile.FieldType.array Jvm.ClassFile.FieldType.byte)), Jvm.Cond.code ({ cls := "com/example/yusen_ledger/yusenledger/HolderTable", name := "hasId", desc := "(I[B)Z" } : Jvm.MethodName) prog_21_method_20_code (3 : Nat) (Option.some Jvm.ClassFile.FieldType.boolean), Jvm.Cond.code ({ cls := "java/util/Arrays", name := "equals", desc := "([BII[BII)Z" } : Jvm.MethodName) jdk_65_method_90_code (8 : Nat) (Option.some Jvm.ClassFile.FieldType.boolean), Jvm.Cond.code ({ cls := "java/util/Arrays", name := "rangeCheck", desc := "(III)V" } : Jvm.MethodName) jdk_65_method_30_code (3 : Nat) (Option.none : Option Jvm.ClassFile.FieldType)]
set_option maxRecDepth 65536 in
theorem codes_eq : words1.filter isCode = codes1 := rfl
theorem w_codes : ∀ c ∈ words1.filter isCode, c.before args0 about1 = true := by
  rw [codes_eq]
  intro c hc
  simp only [codes1, List.mem_cons, List.not_mem_nil, or_false] at hc
  rcases hc with rfl | rfl | rfl | rfl | rfl | rfl | rfl | rfl | rfl | rfl | rfl | rfl | rfl | rfl | rfl | rfl | rfl | rfl | rfl | rfl | rfl | rfl | rfl | rfl | rfl | rfl | rfl | rfl | rfl | rfl | rfl | rfl | rfl | rfl | rfl
  · exact w_c0
  · exact w_c1
  · exact w_c2
  · exact w_c3
  · exact w_c4
  · exact w_c5
  · exact w_c6
  · exact w_c7
  · exact w_c8
  · exact w_c9
  · exact w_c10
  · exact w_c11
  · exact w_c12
  · exact w_c13
  · exact w_c14
  · exact w_c15
  · exact w_c16
  · exact w_c17
  · exact w_c18
  · exact w_c19
  · exact w_c20
  · exact w_c21
  · exact w_c22
  · exact w_c23
  · exact w_c24
  · exact w_c25
  · exact w_c26
  · exact w_c27
  · exact w_c28
  · exact w_c29
  · exact w_c30
  · exact w_c31
  · exact w_c32
  · exact w_c33
  · exact w_c34
set_option maxRecDepth 65536 in
theorem w_t1 : (words1.take 24).all (fun c => isCode c || c.before args0 about1) = true := by decide +kernel
set_option maxRecDepth 65536 in
theorem w_t2 : ((words1.drop 24).take 24).all (fun c => isCode c || c.before args0 about1) = true := by decide +kernel
set_option maxRecDepth 65536 in
theorem w_t3 : (((words1.drop 24).drop 24).take 24).all (fun c => isCode c || c.before args0 about1) = true := by decide +kernel
set_option maxRecDepth 65536 in
theorem w_t4 : ((((words1.drop 24).drop 24).drop 24).take 24).all (fun c => isCode c || c.before args0 about1) = true := by decide +kernel
set_option maxRecDepth 65536 in
theorem w_t5 : (((((words1.drop 24).drop 24).drop 24).drop 24).take 24).all (fun c => isCode c || c.before args0 about1) = true := by decide +kernel
set_option maxRecDepth 65536 in
theorem w_t6 : ((((((words1.drop 24).drop 24).drop 24).drop 24).drop 24).take 24).all (fun c => isCode c || c.before args0 about1) = true := by decide +kernel
set_option maxRecDepth 65536 in
theorem w_t7 : (((((((words1.drop 24).drop 24).drop 24).drop 24).drop 24).drop 24).take 24).all (fun c => isCode c || c.before args0 about1) = true := by decide +kernel
set_option maxRecDepth 65536 in
theorem w_t8 : ((((((((words1.drop 24).drop 24).drop 24).drop 24).drop 24).drop 24).drop 24).take 24).all (fun c => isCode c || c.before args0 about1) = true := by decide +kernel
set_option maxRecDepth 65536 in
theorem w_t9 : ((((((((words1.drop 24).drop 24).drop 24).drop 24).drop 24).drop 24).drop 24).drop 24).all (fun c => isCode c || c.before args0 about1) = true := by decide +kernel
theorem w_tables : (allAtoms (Jvm.Cond.code x code maxLocals ret :: tables_1)).before args0 about1 = true := by
  rw [allAtoms_all]
  show words1.all (fun c => c.before args0 about1) = true
  refine all_split ?_ w_codes
  rw [← List.take_append_drop 24 words1, List.all_append, w_t1, ← List.take_append_drop 24 (words1.drop 24), List.all_append, w_t2, ← List.take_append_drop 24 ((words1.drop 24).drop 24), List.all_append, w_t3, ← List.take_append_drop 24 (((words1.drop 24).drop 24).drop 24), List.all_append, w_t4, ← List.take_append_drop 24 ((((words1.drop 24).drop 24).drop 24).drop 24), List.all_append, w_t5, ← List.take_append_drop 24 (((((words1.drop 24).drop 24).drop 24).drop 24).drop 24), List.all_append, w_t6, ← List.take_append_drop 24 ((((((words1.drop 24).drop 24).drop 24).drop 24).drop 24).drop 24), List.all_append, w_t7, ← List.take_append_drop 24 (((((((words1.drop 24).drop 24).drop 24).drop 24).drop 24).drop 24).drop 24), List.all_append, w_t8, w_t9]
  rfl
set_option maxRecDepth 65536 in
theorem w_rest : rest_1_c.before args0 about1 = true := by decide +kernel
set_option maxRecDepth 65536 in
theorem w_case : (Jvm.Cond.and given_1 narrow_1).before args0 about1 = true := by decide +kernel
theorem w_applies : (headSpec (Jvm.Cond.code x code maxLocals ret :: tables_1) room_1).applies x e0.platform about1 = true :=
  (Spec.applies_iff w_frames).mpr ⟨w_running, w_runnable, w_alone, w_named, w_hears, w_ripe, w_room, w_tables⟩
theorem atStart : AtStart classFile x code maxLocals ret World_1 tables_1 room_1 Calls_1 rest_1 Pre_1 launch0 p0 e0 about1 theMethod args0 below0 :=
  ⟨lists_1, trivial, launch0.admits_env _ _ _, launch0.least_env, fairChoices_fair.cas, fairChoices_fair.clock, w_frames, w_args, w_heap, w_applies, trivial, w_rest, w_case⟩
end start1
theorem witness_1 : WitnessClaimed_1 := ⟨start1.p0, start1.e0, start1.about1, start1.theMethod, start1.args0, start1.below0, start1.atStart⟩
end Jvm.Pilot.@@N@@
