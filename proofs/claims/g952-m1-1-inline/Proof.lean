import JvmDerived
import JvmDerived.Pilot.@@N@@Statement
import JvmDerived.Pilot.@@N@@Code
set_option linter.unusedVariables false
set_option linter.unusedSimpArgs false
namespace Jvm.Pilot.@@N@@
open Jvm Jvm.ClassFile Sem Op Lib Jvm.Free Jvm.Stand Jvm.LawKit Jvm.RoadKit Bundle Jvm.Pilot.@@N@@.Jvm.D
section OwnKit
variable {p : Program} {l : Launch} {e : Env} {R : Room} {s : State} {m : MethodId} {args : Array Value} {below : List Frame} {meth : Method} {c : Code} {T : State} {locs : List Loc} {cells slots : Nat} {Z : State} {h h' : Heap} {a b : Addr} {ty : FieldType}
/-- from S the run comes to a state of which F holds -/
def oGl (p : Program) (e : Env) (below : List Frame) (S : State) (F : State → Prop) : Prop := ∃ t, Steps p.tables e below S t ∧ F t
theorem oOn {S S' : State} {F : State → Prop} (st : ∀ t, Steps p.tables e below S' t → Steps p.tables e below S t) (k : oGl p e below S' F) : oGl p e below S F := by
  obtain ⟨t, k1, k2⟩ := k; exact ⟨t, st t k1, k2⟩
theorem oSt {S S' : State} {F : State → Prop} (st : Steps p.tables e below S S') (k : oGl p e below S' F) : oGl p e below S F := by
  obtain ⟨t, k1, k2⟩ := k; exact ⟨t, st.trans k1, k2⟩
theorem oCast {g g' : JFrame} {F : State → Prop} (q : g = g') (k : oGl p e below (T.setTop g') F) : oGl p e below (T.setTop g) F := q ▸ k
def oFin (s : State) (below : List Frame) (Q : Option Value → Heap → List Loc → Prop) (C S : Nat) (t : State) : Prop := ∃ o, t.status = .running ∧ Ended t below o ∧ ∃ v L, o = .returned v ∧ Q v t.heap L ∧ FrameEnd s o t L C S
theorem oEnter {S0 : State} {Q : Option Value → Heap → List Loc → Prop} {C S : Nat} (k : oGl p e below S0 (oFin s below Q C S)) : ∃ s₂ o, Steps p.tables e below S0 s₂ ∧ s₂.status = .running ∧ Ended s₂ below o ∧ ∃ v L, o = .returned v ∧ Q v s₂.heap L ∧ FrameEnd s o s₂ L C S := by
  obtain ⟨t, k1, o, k2, k3, k4⟩ := k; exact ⟨t, o, k1, k2, k3, k4⟩
theorem oRetI (X : Stand p l e R s m args below meth c T locs cells slots) (hx : p.tables.exec = Jvm.exec) (hl : meth.locks = false) {pc : Nat} {Ls : Array Slot} {z : Int32} {rest : List Value} (hret : meth.sig.returnType = some .int) (hd : decode c.code pc = .ok (.ireturn, 1))
    {Q : Option Value → Heap → List Loc → Prop} {C S : Nat} (hc : cells ≤ C) (hs : slots ≤ S) (hq : Q (some (.int z)) T.heap locs) : oGl p e below (T.setTop (mkF m pc Ls (.int z :: rest))) (oFin s below Q C S) := by
  obtain ⟨fs, hr, hrun, hended, hW, hsame⟩ := X.leave (v := some (.int z)) (fun q => by rw [hret] at q; cases q) hl
  exact ⟨_, retOut X hx hret rfl (Or.inl ⟨rfl, Or.inl rfl, _, rfl⟩) hd hr, _, hrun, hended, _, _, rfl, hq, ⟨_, rfl⟩, hW, hsame.mono hc hs⟩
theorem oRetN {t : FieldType} (X : Stand p l e R s m args below meth c T locs cells slots) (hx : p.tables.exec = Jvm.exec) (hl : meth.locks = false) {pc : Nat} {Ls : Array Slot} {z : Int32} {rest : List Value} (hret : meth.sig.returnType = some t) (ht : t = .boolean ∨ t = .byte ∨ t = .char ∨ t = .short) (hd : decode c.code pc = .ok (.ireturn, 1))
    {Q : Option Value → Heap → List Loc → Prop} {C S : Nat} (hc : cells ≤ C) (hs : slots ≤ S) (hq : Q (some (.int (nar t z))) T.heap locs) : oGl p e below (T.setTop (mkF m pc Ls (.int z :: rest))) (oFin s below Q C S) := by
  obtain ⟨fs, hr, hrun, hended, hW, hsame⟩ := X.leave (v := some (.int (nar t z))) (fun q => by rw [hret] at q; cases q) hl
  exact ⟨_, retN X hx hret ht hd hr, _, hrun, hended, _, _, rfl, hq, ⟨_, rfl⟩, hW, hsame.mono hc hs⟩
theorem oRetJ (X : Stand p l e R s m args below meth c T locs cells slots) (hx : p.tables.exec = Jvm.exec) (hl : meth.locks = false) {pc : Nat} {Ls : Array Slot} {z : Int64} {rest : List Value} (hret : meth.sig.returnType = some .long) (hd : decode c.code pc = .ok (.lreturn, 1))
    {Q : Option Value → Heap → List Loc → Prop} {C S : Nat} (hc : cells ≤ C) (hs : slots ≤ S) (hq : Q (some (.long z)) T.heap locs) : oGl p e below (T.setTop (mkF m pc Ls (.long z :: rest))) (oFin s below Q C S) := by
  obtain ⟨fs, hr, hrun, hended, hW, hsame⟩ := X.leave (v := some (.long z)) (fun q => by rw [hret] at q; cases q) hl
  exact ⟨_, retOut X hx hret rfl (Or.inr (Or.inl ⟨rfl, rfl, _, rfl⟩)) hd hr, _, hrun, hended, _, _, rfl, hq, ⟨_, rfl⟩, hW, hsame.mono hc hs⟩
theorem narrow_ref {t : FieldType} {w : Value} (ht : t.isReference = true) (hw : w.isRef = true) : narrow t w = w := by
  rcases ref_cases hw with rfl | ⟨a, rfl⟩ <;> cases t <;> first | rfl | (cases ht; done)
theorem oRetR {t : FieldType} (X : Stand p l e R s m args below meth c T locs cells slots) (hx : p.tables.exec = Jvm.exec) (hl : meth.locks = false) {pc : Nat} {Ls : Array Slot} {w : Value} {rest : List Value} (hret : meth.sig.returnType = some t) (ht : t.isReference = true) (hw : w.isRef = true) (hd : decode c.code pc = .ok (.areturn, 1))
    {Q : Option Value → Heap → List Loc → Prop} {C S : Nat} (hc : cells ≤ C) (hs : slots ≤ S) (hq : Q (some w) T.heap locs) : oGl p e below (T.setTop (mkF m pc Ls (w :: rest))) (oFin s below Q C S) := by
  obtain ⟨fs, hr, hrun, hended, hW, hsame⟩ := X.leave (v := some w) (fun q => by rw [hret] at q; cases q) hl
  exact ⟨_, retOut X hx hret (narrow_ref ht hw) (Or.inr (Or.inr (Or.inr (Or.inr ⟨rfl, ht, hw⟩)))) hd hr, _, hrun, hended, _, _, rfl, hq, ⟨_, rfl⟩, hW, hsame.mono hc hs⟩
theorem oRet0 (X : Stand p l e R s m args below meth c T locs cells slots) (hx : p.tables.exec = Jvm.exec) (hl : meth.locks = false) {pc : Nat} {Ls : Array Slot} (hret : meth.sig.returnType = none) (hd : decode c.code pc = .ok (.return_, 1))
    {Q : Option Value → Heap → List Loc → Prop} {C S : Nat} (hc : cells ≤ C) (hs : slots ≤ S) (hq : Q none T.heap locs) : oGl p e below (T.setTop (mkF m pc Ls [])) (oFin s below Q C S) := by
  obtain ⟨fs, hr, hrun, hended, hW, hsame⟩ := X.leave (v := none) (fun _ => rfl) hl
  exact ⟨_, X.returnOut hx hret hd hr, _, hrun, hended, _, _, rfl, hq, ⟨_, rfl⟩, hW, hsame.mono hc hs⟩
def oFinW (s : State) (below : List Frame) (Q : Option Value → Heap → List Loc → Prop) (C S : Nat) (t : State) : Prop := ∃ o, t.status = .running ∧ Ended t below o ∧ ∃ v L, o = .returned v ∧ Q v t.heap L ∧ ReturnedEndW s o t L C S
theorem oEnterW {S0 : State} {Q : Option Value → Heap → List Loc → Prop} {C S : Nat} (k : oGl p e below S0 (oFinW s below Q C S)) : ∃ s₂ o, Steps p.tables e below S0 s₂ ∧ s₂.status = .running ∧ Ended s₂ below o ∧ ∃ v L, o = .returned v ∧ Q v s₂.heap L ∧ ReturnedEndW s o s₂ L C S := by
  obtain ⟨t, k1, o, k2, k3, k4⟩ := k; exact ⟨t, o, k1, k2, k3, k4⟩
theorem oRetIW {vm₁ : Vm} {n : Nat} (X : Stand p l e R (s.setVm vm₁) m args below meth c T locs cells slots) (hS : s.Since vm₁ n) (hn : n ≤ T.heap.size) (hx : p.tables.exec = Jvm.exec) (hl : meth.locks = false) {pc : Nat} {Ls : Array Slot} {z : Int32} {rest : List Value} (hret : meth.sig.returnType = some .int) (hd : decode c.code pc = .ok (.ireturn, 1))
    {Q : Option Value → Heap → List Loc → Prop} {C S : Nat} (hc : cells ≤ C) (hs : slots ≤ S) (hq : Q (some (.int z)) T.heap locs) : oGl p e below (T.setTop (mkF m pc Ls (.int z :: rest))) (oFinW s below Q C S) := by
  obtain ⟨fs, hr, hrun, hended, h1, h2, h3, hsame⟩ := X.leaveW hS hn (v := some (.int z)) (fun q => by rw [hret] at q; cases q) hl
  exact ⟨_, retOut X hx hret rfl (Or.inl ⟨rfl, Or.inl rfl, _, rfl⟩) hd hr, _, hrun, hended, _, _, rfl, hq, h1, h2, h3, hsame.mono hc hs⟩
theorem oRetNW {t : FieldType} {vm₁ : Vm} {n : Nat} (X : Stand p l e R (s.setVm vm₁) m args below meth c T locs cells slots) (hS : s.Since vm₁ n) (hn : n ≤ T.heap.size) (hx : p.tables.exec = Jvm.exec) (hl : meth.locks = false) {pc : Nat} {Ls : Array Slot} {z : Int32} {rest : List Value} (hret : meth.sig.returnType = some t) (ht : t = .boolean ∨ t = .byte ∨ t = .char ∨ t = .short) (hd : decode c.code pc = .ok (.ireturn, 1))
    {Q : Option Value → Heap → List Loc → Prop} {C S : Nat} (hc : cells ≤ C) (hs : slots ≤ S) (hq : Q (some (.int (nar t z))) T.heap locs) : oGl p e below (T.setTop (mkF m pc Ls (.int z :: rest))) (oFinW s below Q C S) := by
  obtain ⟨fs, hr, hrun, hended, h1, h2, h3, hsame⟩ := X.leaveW hS hn (v := some (.int (nar t z))) (fun q => by rw [hret] at q; cases q) hl
  exact ⟨_, retN X hx hret ht hd hr, _, hrun, hended, _, _, rfl, hq, h1, h2, h3, hsame.mono hc hs⟩
theorem oRetRW {t : FieldType} {vm₁ : Vm} {n : Nat} (X : Stand p l e R (s.setVm vm₁) m args below meth c T locs cells slots) (hS : s.Since vm₁ n) (hn : n ≤ T.heap.size) (hx : p.tables.exec = Jvm.exec) (hl : meth.locks = false) {pc : Nat} {Ls : Array Slot} {w : Value} {rest : List Value} (hret : meth.sig.returnType = some t) (ht : t.isReference = true) (hw : w.isRef = true) (hd : decode c.code pc = .ok (.areturn, 1))
    {Q : Option Value → Heap → List Loc → Prop} {C S : Nat} (hc : cells ≤ C) (hs : slots ≤ S) (hq : Q (some w) T.heap locs) : oGl p e below (T.setTop (mkF m pc Ls (w :: rest))) (oFinW s below Q C S) := by
  obtain ⟨fs, hr, hrun, hended, h1, h2, h3, hsame⟩ := X.leaveW hS hn (v := some w) (fun q => by rw [hret] at q; cases q) hl
  exact ⟨_, retOut X hx hret (narrow_ref ht hw) (Or.inr (Or.inr (Or.inr (Or.inr ⟨rfl, ht, hw⟩)))) hd hr, _, hrun, hended, _, _, rfl, hq, h1, h2, h3, hsame.mono hc hs⟩
theorem oRet0W {vm₁ : Vm} {n : Nat} (X : Stand p l e R (s.setVm vm₁) m args below meth c T locs cells slots) (hS : s.Since vm₁ n) (hn : n ≤ T.heap.size) (hx : p.tables.exec = Jvm.exec) (hl : meth.locks = false) {pc : Nat} {Ls : Array Slot} (hret : meth.sig.returnType = none) (hd : decode c.code pc = .ok (.return_, 1))
    {Q : Option Value → Heap → List Loc → Prop} {C S : Nat} (hc : cells ≤ C) (hs : slots ≤ S) (hq : Q none T.heap locs) : oGl p e below (T.setTop (mkF m pc Ls [])) (oFinW s below Q C S) := by
  obtain ⟨fs, hr, hrun, hended, h1, h2, h3, hsame⟩ := X.leaveW hS hn (v := none) (fun _ => rfl) hl
  exact ⟨_, X.returnOut hx hret hd hr, _, hrun, hended, _, _, rfl, hq, h1, h2, h3, hsame.mono hc hs⟩
theorem oCat {w : Value} (hw : w.isRef = true) : w.category = 1 := by rcases ref_cases hw with rfl | ⟨a, rfl⟩ <;> rfl
theorem fits_refO {t : FieldType} {w : Value} (ht : t.isReference = true) (hw : w.isRef = true) : fits t w = true := by
  rcases ref_cases hw with rfl | ⟨a, rfl⟩ <;> cases t <;> first | rfl | (cases ht; done)
theorem oSto {ls : Array Slot} {i : Nat} {v : Value} {o : Slot} (hold : ls[i]? = some o) (ho : o = .unset ∨ ∃ w, o = .val w ∧ w.category = 1) (hv : v.category = 1) : storeLocals ls i v = some (ls.setIfInBounds i (.val v)) := XS.store1 hold ho hv
theorem oDup2 {tb : Tables} [Ours tb] {target : State} {g : JFrame} (hh : At T m c below) (hx : tb.exec = Jvm.exec) (hg : g.method = m) {x y : Value} {rest : List Value} (hd : decode c.code g.pc = .ok (.dup2, 1)) (hs : g.stack = x :: y :: rest) (hc : x.category = 1) (hc2 : y.category = 1)
    (hr : Steps tb e below (T.setTop { g with pc := g.pc + 1, stack := x :: y :: x :: y :: rest }) target) : Steps tb e below (T.setTop g) target := by
  subst hg
  jvm_step hh [hh.top, hx, hd, hs, hc, hc2]
  exact hr
theorem oDupX2 {tb : Tables} [Ours tb] {target : State} {g : JFrame} (hh : At T m c below) (hx : tb.exec = Jvm.exec) (hg : g.method = m) {x y z : Value} {rest : List Value} (hd : decode c.code g.pc = .ok (.dup_x2, 1)) (hs : g.stack = x :: y :: z :: rest) (hc : x.category = 1) (hc2 : y.category = 1) (hc3 : z.category = 1)
    (hr : Steps tb e below (T.setTop { g with pc := g.pc + 1, stack := x :: y :: z :: x :: rest }) target) : Steps tb e below (T.setTop g) target := by
  subst hg
  jvm_step hh [hh.top, hx, hd, hs, hc, hc2, hc3]
  exact hr
theorem oNe {x y : Nat} (q : x < y ∨ y < x) : x ≠ y := by omega
/-! single steps -/
theorem siload {pc pc' : Nat} {Ls : Array Slot} {F : State → Prop} {st : List Value} {k : Nat} {v : Int32} (X : Stand p l e R s m args below meth c T locs cells slots) (hx : p.tables.exec = Jvm.exec) (hd : decode c.code pc = .ok (.iload k, 2)) (hp : pc + 2 = pc') (hl : Ls[k]? = some (.val (.int v))) (kk : oGl p e below (T.setTop (mkF m pc' Ls (.int v :: st))) F) : oGl p e below (T.setTop (mkF m pc Ls (st))) F := by
  subst hp
  exact oOn (fun _ kK => XS.iload X.here hx rfl hd hl kK) kk
theorem siloadN {pc pc' : Nat} {Ls : Array Slot} {F : State → Prop} {st : List Value} {k : Fin 4} {v : Int32} (X : Stand p l e R s m args below meth c T locs cells slots) (hx : p.tables.exec = Jvm.exec) (hd : decode c.code pc = .ok (.iload_n k, 1)) (hp : pc + 1 = pc') (hl : Ls[k.val]? = some (.val (.int v))) (kk : oGl p e below (T.setTop (mkF m pc' Ls (.int v :: st))) F) : oGl p e below (T.setTop (mkF m pc Ls (st))) F := by
  subst hp
  exact oOn (fun _ kK => XS.iloadN X.here hx rfl hd hl kK) kk
theorem slload {pc pc' : Nat} {Ls : Array Slot} {F : State → Prop} {st : List Value} {k : Nat} {v : Int64} (X : Stand p l e R s m args below meth c T locs cells slots) (hx : p.tables.exec = Jvm.exec) (hd : decode c.code pc = .ok (.lload k, 2)) (hp : pc + 2 = pc') (hl : Ls[k]? = some (.val (.long v))) (kk : oGl p e below (T.setTop (mkF m pc' Ls (.long v :: st))) F) : oGl p e below (T.setTop (mkF m pc Ls (st))) F := by
  subst hp
  exact oOn (fun _ kK => XS.lload X.here hx rfl hd hl kK) kk
theorem slloadN {pc pc' : Nat} {Ls : Array Slot} {F : State → Prop} {st : List Value} {k : Fin 4} {v : Int64} (X : Stand p l e R s m args below meth c T locs cells slots) (hx : p.tables.exec = Jvm.exec) (hd : decode c.code pc = .ok (.lload_n k, 1)) (hp : pc + 1 = pc') (hl : Ls[k.val]? = some (.val (.long v))) (kk : oGl p e below (T.setTop (mkF m pc' Ls (.long v :: st))) F) : oGl p e below (T.setTop (mkF m pc Ls (st))) F := by
  subst hp
  exact oOn (fun _ kK => XS.lloadN X.here hx rfl hd hl kK) kk
theorem saload {pc pc' : Nat} {Ls : Array Slot} {F : State → Prop} {st : List Value} {k : Nat} {v : Value} (X : Stand p l e R s m args below meth c T locs cells slots) (hx : p.tables.exec = Jvm.exec) (hd : decode c.code pc = .ok (.aload k, 2)) (hp : pc + 2 = pc') (hl : Ls[k]? = some (.val v)) (hv : v.isRef = true) (kk : oGl p e below (T.setTop (mkF m pc' Ls (v :: st))) F) : oGl p e below (T.setTop (mkF m pc Ls (st))) F := by
  subst hp
  exact oOn (fun _ kK => XS.aload X.here hx rfl hd hl hv kK) kk
theorem saloadN {pc pc' : Nat} {Ls : Array Slot} {F : State → Prop} {st : List Value} {k : Fin 4} {v : Value} (X : Stand p l e R s m args below meth c T locs cells slots) (hx : p.tables.exec = Jvm.exec) (hd : decode c.code pc = .ok (.aload_n k, 1)) (hp : pc + 1 = pc') (hl : Ls[k.val]? = some (.val v)) (hv : v.isRef = true) (kk : oGl p e below (T.setTop (mkF m pc' Ls (v :: st))) F) : oGl p e below (T.setTop (mkF m pc Ls (st))) F := by
  subst hp
  exact oOn (fun _ kK => XS.aloadN X.here hx rfl hd hl hv kK) kk
theorem sistore {pc pc' : Nat} {Ls : Array Slot} {F : State → Prop} {st : List Value} {k : Nat} {x : Int32} {l' : Array Slot} (X : Stand p l e R s m args below meth c T locs cells slots) (hx : p.tables.exec = Jvm.exec) (hd : decode c.code pc = .ok (.istore k, 2)) (hp : pc + 2 = pc') (hl : storeLocals Ls k (.int x) = some l') (kk : oGl p e below (T.setTop (mkF m pc' l' (st))) F) : oGl p e below (T.setTop (mkF m pc Ls (.int x :: st))) F := by
  subst hp
  exact oOn (fun _ kK => XS.istore X.here hx rfl hd rfl hl kK) kk
theorem sistoreN {pc pc' : Nat} {Ls : Array Slot} {F : State → Prop} {st : List Value} {k : Fin 4} {x : Int32} {l' : Array Slot} (X : Stand p l e R s m args below meth c T locs cells slots) (hx : p.tables.exec = Jvm.exec) (hd : decode c.code pc = .ok (.istore_n k, 1)) (hp : pc + 1 = pc') (hl : storeLocals Ls k.val (.int x) = some l') (kk : oGl p e below (T.setTop (mkF m pc' l' (st))) F) : oGl p e below (T.setTop (mkF m pc Ls (.int x :: st))) F := by
  subst hp
  exact oOn (fun _ kK => XS.istoreN X.here hx rfl hd rfl hl kK) kk
theorem slstore {pc pc' : Nat} {Ls : Array Slot} {F : State → Prop} {st : List Value} {k : Nat} {x : Int64} {l' : Array Slot} (X : Stand p l e R s m args below meth c T locs cells slots) (hx : p.tables.exec = Jvm.exec) (hd : decode c.code pc = .ok (.lstore k, 2)) (hp : pc + 2 = pc') (hl : storeLocals Ls k (.long x) = some l') (kk : oGl p e below (T.setTop (mkF m pc' l' (st))) F) : oGl p e below (T.setTop (mkF m pc Ls (.long x :: st))) F := by
  subst hp
  exact oOn (fun _ kK => XS.lstore X.here hx rfl hd rfl hl kK) kk
theorem slstoreN {pc pc' : Nat} {Ls : Array Slot} {F : State → Prop} {st : List Value} {k : Fin 4} {x : Int64} {l' : Array Slot} (X : Stand p l e R s m args below meth c T locs cells slots) (hx : p.tables.exec = Jvm.exec) (hd : decode c.code pc = .ok (.lstore_n k, 1)) (hp : pc + 1 = pc') (hl : storeLocals Ls k.val (.long x) = some l') (kk : oGl p e below (T.setTop (mkF m pc' l' (st))) F) : oGl p e below (T.setTop (mkF m pc Ls (.long x :: st))) F := by
  subst hp
  exact oOn (fun _ kK => XS.lstoreN X.here hx rfl hd rfl hl kK) kk
theorem sastore {pc pc' : Nat} {Ls : Array Slot} {F : State → Prop} {st : List Value} {k : Nat} {x : Value} {l' : Array Slot} (X : Stand p l e R s m args below meth c T locs cells slots) (hx : p.tables.exec = Jvm.exec) (hd : decode c.code pc = .ok (.astore k, 2)) (hp : pc + 2 = pc') (hv : x.isRef = true) (hl : storeLocals Ls k x = some l') (kk : oGl p e below (T.setTop (mkF m pc' l' (st))) F) : oGl p e below (T.setTop (mkF m pc Ls (x :: st))) F := by
  subst hp
  exact oOn (fun _ kK => XS.astore X.here hx rfl hd rfl hv hl kK) kk
theorem sastoreN {pc pc' : Nat} {Ls : Array Slot} {F : State → Prop} {st : List Value} {k : Fin 4} {x : Value} {l' : Array Slot} (X : Stand p l e R s m args below meth c T locs cells slots) (hx : p.tables.exec = Jvm.exec) (hd : decode c.code pc = .ok (.astore_n k, 1)) (hp : pc + 1 = pc') (hv : x.isRef = true) (hl : storeLocals Ls k.val x = some l') (kk : oGl p e below (T.setTop (mkF m pc' l' (st))) F) : oGl p e below (T.setTop (mkF m pc Ls (x :: st))) F := by
  subst hp
  exact oOn (fun _ kK => XS.astoreN X.here hx rfl hd rfl hv hl kK) kk
theorem siconst {pc pc' : Nat} {Ls : Array Slot} {F : State → Prop} {st : List Value} {i : Int} {z : Int32} (X : Stand p l e R s m args below meth c T locs cells slots) (hx : p.tables.exec = Jvm.exec) (hd : decode c.code pc = .ok (.iconst i, 1)) (hp : pc + 1 = pc') (hz : Int32.ofInt i = z) (kk : oGl p e below (T.setTop (mkF m pc' Ls (.int z :: st))) F) : oGl p e below (T.setTop (mkF m pc Ls (st))) F := by
  subst hp hz
  exact oOn (fun _ kK => XS.iconst X.here hx rfl hd kK) kk
theorem sbipush {pc pc' : Nat} {Ls : Array Slot} {F : State → Prop} {st : List Value} {i : Int} {z : Int32} (X : Stand p l e R s m args below meth c T locs cells slots) (hx : p.tables.exec = Jvm.exec) (hd : decode c.code pc = .ok (.bipush i, 2)) (hp : pc + 2 = pc') (hz : (Int8.ofInt i).toInt32 = z) (kk : oGl p e below (T.setTop (mkF m pc' Ls (.int z :: st))) F) : oGl p e below (T.setTop (mkF m pc Ls (st))) F := by
  subst hp hz
  exact oOn (fun _ kK => XS.bipush X.here hx rfl hd kK) kk
theorem ssipush {pc pc' : Nat} {Ls : Array Slot} {F : State → Prop} {st : List Value} {i : Int} {z : Int32} (X : Stand p l e R s m args below meth c T locs cells slots) (hx : p.tables.exec = Jvm.exec) (hd : decode c.code pc = .ok (.sipush i, 3)) (hp : pc + 3 = pc') (hz : (Int16.ofInt i).toInt32 = z) (kk : oGl p e below (T.setTop (mkF m pc' Ls (.int z :: st))) F) : oGl p e below (T.setTop (mkF m pc Ls (st))) F := by
  subst hp hz
  exact oOn (fun _ kK => XS.sipush X.here hx rfl hd kK) kk
theorem slconst {pc pc' : Nat} {Ls : Array Slot} {F : State → Prop} {st : List Value} {k : Fin 2} {z : Int64} (X : Stand p l e R s m args below meth c T locs cells slots) (hx : p.tables.exec = Jvm.exec) (hd : decode c.code pc = .ok (.lconst k, 1)) (hp : pc + 1 = pc') (hz : Int64.ofNat k = z) (kk : oGl p e below (T.setTop (mkF m pc' Ls (.long z :: st))) F) : oGl p e below (T.setTop (mkF m pc Ls (st))) F := by
  subst hp hz
  exact oOn (fun _ kK => XS.lconst X.here hx rfl hd kK) kk
theorem saconst_null {pc pc' : Nat} {Ls : Array Slot} {F : State → Prop} {st : List Value} (X : Stand p l e R s m args below meth c T locs cells slots) (hx : p.tables.exec = Jvm.exec) (hd : decode c.code pc = .ok (.aconst_null, 1)) (hp : pc + 1 = pc')  (kk : oGl p e below (T.setTop (mkF m pc' Ls (.null :: st))) F) : oGl p e below (T.setTop (mkF m pc Ls (st))) F := by
  subst hp
  exact oOn (fun _ kK => XS.aconstNull X.here hx rfl hd kK) kk
theorem siadd {pc pc' : Nat} {Ls : Array Slot} {F : State → Prop} {st : List Value} {x y z : Int32} (X : Stand p l e R s m args below meth c T locs cells slots) (hx : p.tables.exec = Jvm.exec) (hd : decode c.code pc = .ok (.iadd, 1)) (hp : pc + 1 = pc') (hz : x + y = z) (kk : oGl p e below (T.setTop (mkF m pc' Ls (.int z :: st))) F) : oGl p e below (T.setTop (mkF m pc Ls (.int y :: .int x :: st))) F := by
  subst hp hz
  exact oOn (fun _ kK => XS.iadd X.here hx rfl hd rfl kK) kk
theorem sladd {pc pc' : Nat} {Ls : Array Slot} {F : State → Prop} {st : List Value} {x y z : Int64} (X : Stand p l e R s m args below meth c T locs cells slots) (hx : p.tables.exec = Jvm.exec) (hd : decode c.code pc = .ok (.ladd, 1)) (hp : pc + 1 = pc') (hz : x + y = z) (kk : oGl p e below (T.setTop (mkF m pc' Ls (.long z :: st))) F) : oGl p e below (T.setTop (mkF m pc Ls (.long y :: .long x :: st))) F := by
  subst hp hz
  exact oOn (fun _ kK => XS.ladd X.here hx rfl hd rfl kK) kk
theorem sisub {pc pc' : Nat} {Ls : Array Slot} {F : State → Prop} {st : List Value} {x y z : Int32} (X : Stand p l e R s m args below meth c T locs cells slots) (hx : p.tables.exec = Jvm.exec) (hd : decode c.code pc = .ok (.isub, 1)) (hp : pc + 1 = pc') (hz : x - y = z) (kk : oGl p e below (T.setTop (mkF m pc' Ls (.int z :: st))) F) : oGl p e below (T.setTop (mkF m pc Ls (.int y :: .int x :: st))) F := by
  subst hp hz
  exact oOn (fun _ kK => XS.isub X.here hx rfl hd rfl kK) kk
theorem slsub {pc pc' : Nat} {Ls : Array Slot} {F : State → Prop} {st : List Value} {x y z : Int64} (X : Stand p l e R s m args below meth c T locs cells slots) (hx : p.tables.exec = Jvm.exec) (hd : decode c.code pc = .ok (.lsub, 1)) (hp : pc + 1 = pc') (hz : x - y = z) (kk : oGl p e below (T.setTop (mkF m pc' Ls (.long z :: st))) F) : oGl p e below (T.setTop (mkF m pc Ls (.long y :: .long x :: st))) F := by
  subst hp hz
  exact oOn (fun _ kK => XS.lsub X.here hx rfl hd rfl kK) kk
theorem simul {pc pc' : Nat} {Ls : Array Slot} {F : State → Prop} {st : List Value} {x y z : Int32} (X : Stand p l e R s m args below meth c T locs cells slots) (hx : p.tables.exec = Jvm.exec) (hd : decode c.code pc = .ok (.imul, 1)) (hp : pc + 1 = pc') (hz : x * y = z) (kk : oGl p e below (T.setTop (mkF m pc' Ls (.int z :: st))) F) : oGl p e below (T.setTop (mkF m pc Ls (.int y :: .int x :: st))) F := by
  subst hp hz
  exact oOn (fun _ kK => XS.imul X.here hx rfl hd rfl kK) kk
theorem slmul {pc pc' : Nat} {Ls : Array Slot} {F : State → Prop} {st : List Value} {x y z : Int64} (X : Stand p l e R s m args below meth c T locs cells slots) (hx : p.tables.exec = Jvm.exec) (hd : decode c.code pc = .ok (.lmul, 1)) (hp : pc + 1 = pc') (hz : x * y = z) (kk : oGl p e below (T.setTop (mkF m pc' Ls (.long z :: st))) F) : oGl p e below (T.setTop (mkF m pc Ls (.long y :: .long x :: st))) F := by
  subst hp hz
  exact oOn (fun _ kK => XS.lmul X.here hx rfl hd rfl kK) kk
theorem siand {pc pc' : Nat} {Ls : Array Slot} {F : State → Prop} {st : List Value} {x y z : Int32} (X : Stand p l e R s m args below meth c T locs cells slots) (hx : p.tables.exec = Jvm.exec) (hd : decode c.code pc = .ok (.iand, 1)) (hp : pc + 1 = pc') (hz : x &&& y = z) (kk : oGl p e below (T.setTop (mkF m pc' Ls (.int z :: st))) F) : oGl p e below (T.setTop (mkF m pc Ls (.int y :: .int x :: st))) F := by
  subst hp hz
  exact oOn (fun _ kK => XS.iand X.here hx rfl hd rfl kK) kk
theorem sland {pc pc' : Nat} {Ls : Array Slot} {F : State → Prop} {st : List Value} {x y z : Int64} (X : Stand p l e R s m args below meth c T locs cells slots) (hx : p.tables.exec = Jvm.exec) (hd : decode c.code pc = .ok (.land, 1)) (hp : pc + 1 = pc') (hz : x &&& y = z) (kk : oGl p e below (T.setTop (mkF m pc' Ls (.long z :: st))) F) : oGl p e below (T.setTop (mkF m pc Ls (.long y :: .long x :: st))) F := by
  subst hp hz
  exact oOn (fun _ kK => XS.land X.here hx rfl hd rfl kK) kk
theorem sior {pc pc' : Nat} {Ls : Array Slot} {F : State → Prop} {st : List Value} {x y z : Int32} (X : Stand p l e R s m args below meth c T locs cells slots) (hx : p.tables.exec = Jvm.exec) (hd : decode c.code pc = .ok (.ior, 1)) (hp : pc + 1 = pc') (hz : x ||| y = z) (kk : oGl p e below (T.setTop (mkF m pc' Ls (.int z :: st))) F) : oGl p e below (T.setTop (mkF m pc Ls (.int y :: .int x :: st))) F := by
  subst hp hz
  exact oOn (fun _ kK => XS.ior X.here hx rfl hd rfl kK) kk
theorem slor {pc pc' : Nat} {Ls : Array Slot} {F : State → Prop} {st : List Value} {x y z : Int64} (X : Stand p l e R s m args below meth c T locs cells slots) (hx : p.tables.exec = Jvm.exec) (hd : decode c.code pc = .ok (.lor, 1)) (hp : pc + 1 = pc') (hz : x ||| y = z) (kk : oGl p e below (T.setTop (mkF m pc' Ls (.long z :: st))) F) : oGl p e below (T.setTop (mkF m pc Ls (.long y :: .long x :: st))) F := by
  subst hp hz
  exact oOn (fun _ kK => XS.lor X.here hx rfl hd rfl kK) kk
theorem sixor {pc pc' : Nat} {Ls : Array Slot} {F : State → Prop} {st : List Value} {x y z : Int32} (X : Stand p l e R s m args below meth c T locs cells slots) (hx : p.tables.exec = Jvm.exec) (hd : decode c.code pc = .ok (.ixor, 1)) (hp : pc + 1 = pc') (hz : x ^^^ y = z) (kk : oGl p e below (T.setTop (mkF m pc' Ls (.int z :: st))) F) : oGl p e below (T.setTop (mkF m pc Ls (.int y :: .int x :: st))) F := by
  subst hp hz
  exact oOn (fun _ kK => XS.ixor X.here hx rfl hd rfl kK) kk
theorem slxor {pc pc' : Nat} {Ls : Array Slot} {F : State → Prop} {st : List Value} {x y z : Int64} (X : Stand p l e R s m args below meth c T locs cells slots) (hx : p.tables.exec = Jvm.exec) (hd : decode c.code pc = .ok (.lxor, 1)) (hp : pc + 1 = pc') (hz : x ^^^ y = z) (kk : oGl p e below (T.setTop (mkF m pc' Ls (.long z :: st))) F) : oGl p e below (T.setTop (mkF m pc Ls (.long y :: .long x :: st))) F := by
  subst hp hz
  exact oOn (fun _ kK => XS.lxor X.here hx rfl hd rfl kK) kk
theorem sishl {pc pc' : Nat} {Ls : Array Slot} {F : State → Prop} {st : List Value} {x y z : Int32} (X : Stand p l e R s m args below meth c T locs cells slots) (hx : p.tables.exec = Jvm.exec) (hd : decode c.code pc = .ok (.ishl, 1)) (hp : pc + 1 = pc') (hz : x <<< (y &&& 31) = z) (kk : oGl p e below (T.setTop (mkF m pc' Ls (.int z :: st))) F) : oGl p e below (T.setTop (mkF m pc Ls (.int y :: .int x :: st))) F := by
  subst hp hz
  exact oOn (fun _ kK => XS.ishl X.here hx rfl hd rfl kK) kk
theorem sishr {pc pc' : Nat} {Ls : Array Slot} {F : State → Prop} {st : List Value} {x y z : Int32} (X : Stand p l e R s m args below meth c T locs cells slots) (hx : p.tables.exec = Jvm.exec) (hd : decode c.code pc = .ok (.ishr, 1)) (hp : pc + 1 = pc') (hz : x >>> (y &&& 31) = z) (kk : oGl p e below (T.setTop (mkF m pc' Ls (.int z :: st))) F) : oGl p e below (T.setTop (mkF m pc Ls (.int y :: .int x :: st))) F := by
  subst hp hz
  exact oOn (fun _ kK => XS.ishr X.here hx rfl hd rfl kK) kk
theorem siushr {pc pc' : Nat} {Ls : Array Slot} {F : State → Prop} {st : List Value} {x y z : Int32} (X : Stand p l e R s m args below meth c T locs cells slots) (hx : p.tables.exec = Jvm.exec) (hd : decode c.code pc = .ok (.iushr, 1)) (hp : pc + 1 = pc') (hz : (x.toUInt32 >>> (y &&& 31).toUInt32).toInt32 = z) (kk : oGl p e below (T.setTop (mkF m pc' Ls (.int z :: st))) F) : oGl p e below (T.setTop (mkF m pc Ls (.int y :: .int x :: st))) F := by
  subst hp hz
  exact oOn (fun _ kK => XS.iushr X.here hx rfl hd rfl kK) kk
theorem slshl {pc pc' : Nat} {Ls : Array Slot} {F : State → Prop} {st : List Value} {x z : Int64} {y : Int32} (X : Stand p l e R s m args below meth c T locs cells slots) (hx : p.tables.exec = Jvm.exec) (hd : decode c.code pc = .ok (.lshl, 1)) (hp : pc + 1 = pc') (hz : x <<< (y &&& 0x3f).toInt64 = z) (kk : oGl p e below (T.setTop (mkF m pc' Ls (.long z :: st))) F) : oGl p e below (T.setTop (mkF m pc Ls (.int y :: .long x :: st))) F := by
  subst hp hz
  exact oOn (fun _ kK => XS.lshl X.here hx rfl hd rfl kK) kk
theorem slshr {pc pc' : Nat} {Ls : Array Slot} {F : State → Prop} {st : List Value} {x z : Int64} {y : Int32} (X : Stand p l e R s m args below meth c T locs cells slots) (hx : p.tables.exec = Jvm.exec) (hd : decode c.code pc = .ok (.lshr, 1)) (hp : pc + 1 = pc') (hz : x >>> (y &&& 0x3f).toInt64 = z) (kk : oGl p e below (T.setTop (mkF m pc' Ls (.long z :: st))) F) : oGl p e below (T.setTop (mkF m pc Ls (.int y :: .long x :: st))) F := by
  subst hp hz
  exact oOn (fun _ kK => XS.lshr X.here hx rfl hd rfl kK) kk
theorem slushr {pc pc' : Nat} {Ls : Array Slot} {F : State → Prop} {st : List Value} {x z : Int64} {y : Int32} (X : Stand p l e R s m args below meth c T locs cells slots) (hx : p.tables.exec = Jvm.exec) (hd : decode c.code pc = .ok (.lushr, 1)) (hp : pc + 1 = pc') (hz : (x.toUInt64 >>> (y &&& 0x3f).toInt64.toUInt64).toInt64 = z) (kk : oGl p e below (T.setTop (mkF m pc' Ls (.long z :: st))) F) : oGl p e below (T.setTop (mkF m pc Ls (.int y :: .long x :: st))) F := by
  subst hp hz
  exact oOn (fun _ kK => XS.lushr X.here hx rfl hd rfl kK) kk
theorem sineg {pc pc' : Nat} {Ls : Array Slot} {F : State → Prop} {st : List Value} {x : Int32} {z : Int32} (X : Stand p l e R s m args below meth c T locs cells slots) (hx : p.tables.exec = Jvm.exec) (hd : decode c.code pc = .ok (.ineg, 1)) (hp : pc + 1 = pc') (hz : -x = z) (kk : oGl p e below (T.setTop (mkF m pc' Ls (.int z :: st))) F) : oGl p e below (T.setTop (mkF m pc Ls (.int x :: st))) F := by
  subst hp hz
  exact oOn (fun _ kK => XS.ineg X.here hx rfl hd rfl kK) kk
theorem slneg {pc pc' : Nat} {Ls : Array Slot} {F : State → Prop} {st : List Value} {x : Int64} {z : Int64} (X : Stand p l e R s m args below meth c T locs cells slots) (hx : p.tables.exec = Jvm.exec) (hd : decode c.code pc = .ok (.lneg, 1)) (hp : pc + 1 = pc') (hz : -x = z) (kk : oGl p e below (T.setTop (mkF m pc' Ls (.long z :: st))) F) : oGl p e below (T.setTop (mkF m pc Ls (.long x :: st))) F := by
  subst hp hz
  exact oOn (fun _ kK => XS.lneg X.here hx rfl hd rfl kK) kk
theorem si2l {pc pc' : Nat} {Ls : Array Slot} {F : State → Prop} {st : List Value} {x : Int32} {z : Int64} (X : Stand p l e R s m args below meth c T locs cells slots) (hx : p.tables.exec = Jvm.exec) (hd : decode c.code pc = .ok (.i2l, 1)) (hp : pc + 1 = pc') (hz : x.toInt64 = z) (kk : oGl p e below (T.setTop (mkF m pc' Ls (.long z :: st))) F) : oGl p e below (T.setTop (mkF m pc Ls (.int x :: st))) F := by
  subst hp hz
  exact oOn (fun _ kK => XS.i2l X.here hx rfl hd rfl kK) kk
theorem sl2i {pc pc' : Nat} {Ls : Array Slot} {F : State → Prop} {st : List Value} {x : Int64} {z : Int32} (X : Stand p l e R s m args below meth c T locs cells slots) (hx : p.tables.exec = Jvm.exec) (hd : decode c.code pc = .ok (.l2i, 1)) (hp : pc + 1 = pc') (hz : x.toInt32 = z) (kk : oGl p e below (T.setTop (mkF m pc' Ls (.int z :: st))) F) : oGl p e below (T.setTop (mkF m pc Ls (.long x :: st))) F := by
  subst hp hz
  exact oOn (fun _ kK => XS.l2i X.here hx rfl hd rfl kK) kk
theorem si2b {pc pc' : Nat} {Ls : Array Slot} {F : State → Prop} {st : List Value} {x : Int32} {z : Int32} (X : Stand p l e R s m args below meth c T locs cells slots) (hx : p.tables.exec = Jvm.exec) (hd : decode c.code pc = .ok (.i2b, 1)) (hp : pc + 1 = pc') (hz : x.toInt8.toInt32 = z) (kk : oGl p e below (T.setTop (mkF m pc' Ls (.int z :: st))) F) : oGl p e below (T.setTop (mkF m pc Ls (.int x :: st))) F := by
  subst hp hz
  exact oOn (fun _ kK => XS.i2b X.here hx rfl hd rfl kK) kk
theorem si2s {pc pc' : Nat} {Ls : Array Slot} {F : State → Prop} {st : List Value} {x : Int32} {z : Int32} (X : Stand p l e R s m args below meth c T locs cells slots) (hx : p.tables.exec = Jvm.exec) (hd : decode c.code pc = .ok (.i2s, 1)) (hp : pc + 1 = pc') (hz : x.toInt16.toInt32 = z) (kk : oGl p e below (T.setTop (mkF m pc' Ls (.int z :: st))) F) : oGl p e below (T.setTop (mkF m pc Ls (.int x :: st))) F := by
  subst hp hz
  exact oOn (fun _ kK => XS.i2s X.here hx rfl hd rfl kK) kk
theorem si2c {pc pc' : Nat} {Ls : Array Slot} {F : State → Prop} {st : List Value} {x : Int32} {z : Int32} (X : Stand p l e R s m args below meth c T locs cells slots) (hx : p.tables.exec = Jvm.exec) (hd : decode c.code pc = .ok (.i2c, 1)) (hp : pc + 1 = pc') (hz : x.toUInt32.toUInt16.toUInt32.toInt32 = z) (kk : oGl p e below (T.setTop (mkF m pc' Ls (.int z :: st))) F) : oGl p e below (T.setTop (mkF m pc Ls (.int x :: st))) F := by
  subst hp hz
  exact oOn (fun _ kK => XS.i2c X.here hx rfl hd rfl kK) kk
theorem slcmp {pc pc' : Nat} {Ls : Array Slot} {F : State → Prop} {st : List Value} {x y : Int64} (X : Stand p l e R s m args below meth c T locs cells slots) (hx : p.tables.exec = Jvm.exec) (hd : decode c.code pc = .ok (.lcmp, 1)) (hp : pc + 1 = pc')  (kk : oGl p e below (T.setTop (mkF m pc' Ls (.int (lcmpW x y) :: st))) F) : oGl p e below (T.setTop (mkF m pc Ls (.long y :: .long x :: st))) F := by
  subst hp
  exact oOn (fun _ kK => XS.lcmp X.here hx rfl hd rfl kK) kk
theorem sirem {pc pc' : Nat} {Ls : Array Slot} {F : State → Prop} {st : List Value} {x y z : Int32} (X : Stand p l e R s m args below meth c T locs cells slots) (hx : p.tables.exec = Jvm.exec) (hd : decode c.code pc = .ok (.irem, 1)) (hp : pc + 1 = pc') (hy : y ≠ 0) (hz : x % y = z) (kk : oGl p e below (T.setTop (mkF m pc' Ls (.int z :: st))) F) : oGl p e below (T.setTop (mkF m pc Ls (.int y :: .int x :: st))) F := by
  subst hp hz
  exact oOn (fun _ kK => iremM X hx rfl hd rfl hy kK) kk
theorem sidiv {pc pc' : Nat} {Ls : Array Slot} {F : State → Prop} {st : List Value} {x y z : Int32} (X : Stand p l e R s m args below meth c T locs cells slots) (hx : p.tables.exec = Jvm.exec) (hd : decode c.code pc = .ok (.idiv, 1)) (hp : pc + 1 = pc') (hy : y ≠ 0) (hz : x / y = z) (kk : oGl p e below (T.setTop (mkF m pc' Ls (.int z :: st))) F) : oGl p e below (T.setTop (mkF m pc Ls (.int y :: .int x :: st))) F := by
  subst hp hz
  exact oOn (fun _ kK => XS.idiv X.here hx rfl hd rfl hy kK) kk
theorem siinc {pc pc' : Nat} {Ls : Array Slot} {F : State → Prop} {st : List Value} {k : Nat} {cst : Int} {x : Int32} {l' : Array Slot} (X : Stand p l e R s m args below meth c T locs cells slots) (hx : p.tables.exec = Jvm.exec) (hd : decode c.code pc = .ok (.iinc k cst, 3)) (hp : pc + 3 = pc') (hl : Ls[k]? = some (.val (.int x))) (hl' : storeLocals Ls k (.int (x + Int32.ofInt cst)) = some l') (kk : oGl p e below (T.setTop (mkF m pc' l' (st))) F) : oGl p e below (T.setTop (mkF m pc Ls (st))) F := by
  subst hp
  exact oOn (fun _ kK => XS.iinc X.here hx rfl hd hl hl' kK) kk
theorem sdup {pc pc' : Nat} {Ls : Array Slot} {F : State → Prop} {st : List Value} {x : Value} (X : Stand p l e R s m args below meth c T locs cells slots) (hx : p.tables.exec = Jvm.exec) (hd : decode c.code pc = .ok (.dup, 1)) (hp : pc + 1 = pc') (hc : x.category = 1) (kk : oGl p e below (T.setTop (mkF m pc' Ls (x :: x :: st))) F) : oGl p e below (T.setTop (mkF m pc Ls (x :: st))) F := by
  subst hp
  exact oOn (fun _ kK => XS.dup X.here hx rfl hd rfl hc kK) kk
theorem spop {pc pc' : Nat} {Ls : Array Slot} {F : State → Prop} {st : List Value} {x : Value} (X : Stand p l e R s m args below meth c T locs cells slots) (hx : p.tables.exec = Jvm.exec) (hd : decode c.code pc = .ok (.pop, 1)) (hp : pc + 1 = pc') (hc : x.category = 1) (kk : oGl p e below (T.setTop (mkF m pc' Ls (st))) F) : oGl p e below (T.setTop (mkF m pc Ls (x :: st))) F := by
  subst hp
  exact oOn (fun _ kK => XS.pop X.here hx rfl hd rfl hc kK) kk
theorem sdup_x1 {pc pc' : Nat} {Ls : Array Slot} {F : State → Prop} {st : List Value} {x y : Value} (X : Stand p l e R s m args below meth c T locs cells slots) (hx : p.tables.exec = Jvm.exec) (hd : decode c.code pc = .ok (.dup_x1, 1)) (hp : pc + 1 = pc') (hc : x.category = 1) (hc2 : y.category = 1) (kk : oGl p e below (T.setTop (mkF m pc' Ls (x :: y :: x :: st))) F) : oGl p e below (T.setTop (mkF m pc Ls (x :: y :: st))) F := by
  subst hp
  exact oOn (fun _ kK => XS.dupX1 X.here hx rfl hd rfl hc hc2 kK) kk
theorem sdup2 {pc pc' : Nat} {Ls : Array Slot} {F : State → Prop} {st : List Value} {x y : Value} (X : Stand p l e R s m args below meth c T locs cells slots) (hx : p.tables.exec = Jvm.exec) (hd : decode c.code pc = .ok (.dup2, 1)) (hp : pc + 1 = pc') (hc : x.category = 1) (hc2 : y.category = 1) (kk : oGl p e below (T.setTop (mkF m pc' Ls (x :: y :: x :: y :: st))) F) : oGl p e below (T.setTop (mkF m pc Ls (x :: y :: st))) F := by
  subst hp
  exact oOn (fun _ kK => oDup2 X.here hx rfl hd rfl hc hc2 kK) kk
theorem sdup_x2 {pc pc' : Nat} {Ls : Array Slot} {F : State → Prop} {st : List Value} {x y z : Value} (X : Stand p l e R s m args below meth c T locs cells slots) (hx : p.tables.exec = Jvm.exec) (hd : decode c.code pc = .ok (.dup_x2, 1)) (hp : pc + 1 = pc') (hc : x.category = 1) (hc2 : y.category = 1) (hc3 : z.category = 1) (kk : oGl p e below (T.setTop (mkF m pc' Ls (x :: y :: z :: x :: st))) F) : oGl p e below (T.setTop (mkF m pc Ls (x :: y :: z :: st))) F := by
  subst hp
  exact oOn (fun _ kK => oDupX2 X.here hx rfl hd rfl hc hc2 hc3 kK) kk
theorem sgoto {pc pc' : Nat} {Ls : Array Slot} {st : List Value} {F : State → Prop} {o : Int}  (X : Stand p l e R s m args below meth c T locs cells slots) (hx : p.tables.exec = Jvm.exec) (hd : decode c.code pc = .ok (.goto o, 3)) (ho : 0 ≤ (pc : Int) + o) (hp : ((pc : Int) + o).toNat = pc')  (kk : oGl p e below (T.setTop (mkF m pc' Ls st)) F) : oGl p e below (T.setTop (mkF m pc Ls (st))) F :=
  oOn (fun _ kK => XS.goto X.here hx rfl rfl hd ho hp kK) kk
theorem sifY {pc pc' : Nat} {Ls : Array Slot} {st : List Value} {F : State → Prop} {o : Int} {cd : ClassFile.Cond} {x : Int32} (X : Stand p l e R s m args below meth c T locs cells slots) (hx : p.tables.exec = Jvm.exec) (hd : decode c.code pc = .ok (.ifCond cd o, 3)) (ho : 0 ≤ (pc : Int) + o) (hp : ((pc : Int) + o).toNat = pc') (hc : if_icmp.holds cd x 0 = true) (kk : oGl p e below (T.setTop (mkF m pc' Ls st)) F) : oGl p e below (T.setTop (mkF m pc Ls (.int x :: st))) F :=
  oOn (fun _ kK => XS.ifYes X.here hx rfl rfl hd rfl ((if0 _ _).trans hc) ho hp kK) kk
theorem sicY {pc pc' : Nat} {Ls : Array Slot} {st : List Value} {F : State → Prop} {o : Int} {cd : ClassFile.Cond} {x y : Int32} (X : Stand p l e R s m args below meth c T locs cells slots) (hx : p.tables.exec = Jvm.exec) (hd : decode c.code pc = .ok (.if_icmp cd o, 3)) (ho : 0 ≤ (pc : Int) + o) (hp : ((pc : Int) + o).toNat = pc') (hc : if_icmp.holds cd x y = true) (kk : oGl p e below (T.setTop (mkF m pc' Ls st)) F) : oGl p e below (T.setTop (mkF m pc Ls (.int y :: .int x :: st))) F :=
  oOn (fun _ kK => XS.icmpYes X.here hx rfl rfl hd rfl hc ho hp kK) kk
theorem sifnullY {pc pc' : Nat} {Ls : Array Slot} {st : List Value} {F : State → Prop} {o : Int}  (X : Stand p l e R s m args below meth c T locs cells slots) (hx : p.tables.exec = Jvm.exec) (hd : decode c.code pc = .ok (.ifnull o, 3)) (ho : 0 ≤ (pc : Int) + o) (hp : ((pc : Int) + o).toNat = pc')  (kk : oGl p e below (T.setTop (mkF m pc' Ls st)) F) : oGl p e below (T.setTop (mkF m pc Ls (.null :: st))) F :=
  oOn (fun _ kK => XS.ifnullYes X.here hx rfl rfl hd rfl ho hp kK) kk
theorem sifnonnullY {pc pc' : Nat} {Ls : Array Slot} {st : List Value} {F : State → Prop} {o : Int} {b : Addr} (X : Stand p l e R s m args below meth c T locs cells slots) (hx : p.tables.exec = Jvm.exec) (hd : decode c.code pc = .ok (.ifnonnull o, 3)) (ho : 0 ≤ (pc : Int) + o) (hp : ((pc : Int) + o).toNat = pc')  (kk : oGl p e below (T.setTop (mkF m pc' Ls st)) F) : oGl p e below (T.setTop (mkF m pc Ls (.ref b :: st))) F :=
  oOn (fun _ kK => XS.ifnonnullYes X.here hx rfl rfl hd rfl ho hp kK) kk
theorem sifN {pc pc' : Nat} {Ls : Array Slot} {F : State → Prop} {st : List Value} {cd : ClassFile.Cond} {o : Int} {x : Int32} (X : Stand p l e R s m args below meth c T locs cells slots) (hx : p.tables.exec = Jvm.exec) (hd : decode c.code pc = .ok (.ifCond cd o, 3)) (hp : pc + 3 = pc') (hc : if_icmp.holds cd x 0 = false) (kk : oGl p e below (T.setTop (mkF m pc' Ls (st))) F) : oGl p e below (T.setTop (mkF m pc Ls (.int x :: st))) F := by
  subst hp
  exact oOn (fun _ kK => XS.ifNo X.here hx rfl hd rfl ((if0 _ _).trans hc) kK) kk
theorem sicN {pc pc' : Nat} {Ls : Array Slot} {F : State → Prop} {st : List Value} {cd : ClassFile.Cond} {o : Int} {x y : Int32} (X : Stand p l e R s m args below meth c T locs cells slots) (hx : p.tables.exec = Jvm.exec) (hd : decode c.code pc = .ok (.if_icmp cd o, 3)) (hp : pc + 3 = pc') (hc : if_icmp.holds cd x y = false) (kk : oGl p e below (T.setTop (mkF m pc' Ls (st))) F) : oGl p e below (T.setTop (mkF m pc Ls (.int y :: .int x :: st))) F := by
  subst hp
  exact oOn (fun _ kK => XS.icmpNo X.here hx rfl hd rfl hc kK) kk
theorem sifnullN {pc pc' : Nat} {Ls : Array Slot} {F : State → Prop} {st : List Value} {o : Int} {b : Addr} (X : Stand p l e R s m args below meth c T locs cells slots) (hx : p.tables.exec = Jvm.exec) (hd : decode c.code pc = .ok (.ifnull o, 3)) (hp : pc + 3 = pc')  (kk : oGl p e below (T.setTop (mkF m pc' Ls (st))) F) : oGl p e below (T.setTop (mkF m pc Ls (.ref b :: st))) F := by
  subst hp
  exact oOn (fun _ kK => XS.ifnullNo X.here hx rfl hd rfl kK) kk
theorem sifnonnullN {pc pc' : Nat} {Ls : Array Slot} {F : State → Prop} {st : List Value} {o : Int} (X : Stand p l e R s m args below meth c T locs cells slots) (hx : p.tables.exec = Jvm.exec) (hd : decode c.code pc = .ok (.ifnonnull o, 3)) (hp : pc + 3 = pc')  (kk : oGl p e below (T.setTop (mkF m pc' Ls (st))) F) : oGl p e below (T.setTop (mkF m pc Ls (.null :: st))) F := by
  subst hp
  exact oOn (fun _ kK => XS.ifnonnullNo X.here hx rfl hd rfl kK) kk
/-! arrays of ints, bytes, chars, shorts, booleans: place j holds f j -/
def oAI (Z : State) (h : Heap) (a : Addr) (ty : FieldType) (n : Nat) (f : Nat → Int32) : Prop := ∃ c : Cell, Arr Z h a c ty ∧ c.slots.size = n ∧ n < 2147483648 ∧ ∀ j, j < n → c.slots[j]? = some (.int (f j))
def oUp {α : Type} (f : Nat → α) (i : Nat) (x : α) : Nat → α := fun k => if k = i then x else f k
theorem oUp_hit {α : Type} {f : Nat → α} {i : Nat} {x : α} : oUp f i x i = x := if_pos rfl
theorem oUp_miss {α : Type} {f : Nat → α} {i k : Nat} {x : α} (q : k ≠ i) : oUp f i x k = f k := if_neg q
variable {n : Nat} {f f' : Nat → Int32} {sl : Nat} {v : Value} {ws : List Addr}
theorem oAI.lt (F : oAI Z h a ty n f) : @LT.lt Nat _ a h.size := by obtain ⟨c, A, -⟩ := F; exact A.lt
theorem oAI.small (F : oAI Z h a ty n f) : n < 2147483648 := by obtain ⟨c, -, -, q, -⟩ := F; exact q
theorem oAI.ext (F : oAI Z h a ty n f) (E : Ext h h') : oAI Z h' a ty n f := by obtain ⟨c, A, r⟩ := F; exact ⟨c, A.ext E, r⟩
theorem oAI.other (F : oAI Z h b ty n f) (W : Wr h h' a sl v) (q : b ≠ a) : oAI Z h' b ty n f := by obtain ⟨c, A, r⟩ := F; exact ⟨c, A.other W q, r⟩
theorem oAI.keep (F : oAI Z h a ty n f) (K : Keep h h' ws) (q : a ∉ ws) : oAI Z h' a ty n f := by obtain ⟨c, A, r⟩ := F; exact ⟨c, ⟨K.2.1 a c A.1 q, A.2⟩, r⟩
theorem oAI.congr (F : oAI Z h a ty n f) (q : ∀ j, j < n → f j = f' j) : oAI Z h a ty n f' := by obtain ⟨c, A, r1, r2, r3⟩ := F; exact ⟨c, A, r1, r2, fun j hj => by rw [← q j hj]; exact r3 j hj⟩
theorem oAI.new {k : ClassId} {z : Int32} (A : Arr Z h a (newA k ty z) ty) (hn : z.toInt.toNat = n) (hd : defaultValue ty = .int 0 := by rfl) : oAI Z h a ty n (fun _ => 0) := by
  refine ⟨_, A, ?_, ?_, fun j hj => ?_⟩
  · rw [sz_new]; exact hn
  · have := z.toInt_lt; omega
  · have hs : (newA k ty z).slots.size = n := by rw [sz_new]; exact hn
    simp only [newA] at hs ⊢
    rw [Array.getElem?_replicate, if_pos (by simpa using (by simpa using hs : z.toNatClampNeg = n) ▸ hj), hd]
theorem oNotIn {j : Int32} {cl : Cell} (hs : cl.slots.size = n) (hj : 0 ≤ j.toInt ∧ j.toInt < n) : ¬ (j < 0 ∨ cl.slots.size ≤ j.toNatClampNeg) := by
  have h1 : j.toNatClampNeg = j.toInt.toNat := rfl
  rw [hs, h1, Int32.lt_iff_toInt_lt]
  have h2 : (0 : Int32).toInt = 0 := rfl
  rw [h2]; omega
theorem oAI.at (F : oAI Z h a ty n f) {j : Int32} (hj : 0 ≤ j.toInt ∧ j.toInt < n) : ∃ c : Cell, Arr Z h a c ty ∧ ¬ (j < 0 ∨ c.slots.size ≤ j.toNatClampNeg) ∧ c.slots[j.toNatClampNeg]? = some (.int (f j.toInt.toNat)) := by
  obtain ⟨c, A, S, q, G⟩ := F
  exact ⟨c, A, oNotIn S hj, G j.toInt.toNat (by omega)⟩
theorem oAI.set {j : Int32} {x : Int32} (F : oAI Z h a ty n f) (W : Wr h h' a j.toNatClampNeg (.int x)) (hj : 0 ≤ j.toInt ∧ j.toInt < n) : oAI Z h' a ty n (oUp f j.toInt.toNat x) := by
  obtain ⟨c, A, S, q, G⟩ := F
  refine ⟨_, A.same W, by rw [sz_set]; exact S, q, fun k hk => ?_⟩
  have h1 : j.toNatClampNeg = j.toInt.toNat := rfl
  show (c.slots.setIfInBounds j.toNatClampNeg (.int x))[k]? = _
  by_cases e : k = j.toInt.toNat
  · subst e; rw [oUp_hit, h1, Array.getElem?_setIfInBounds_self_of_lt (by rw [S]; exact hk)]
  · rw [oUp_miss e, h1, Array.getElem?_setIfInBounds_ne (Ne.symm e)]; exact G k hk
theorem oAI.len (F : oAI Z h a ty n f) (X : Stand p l e R s m args below meth c T locs cells slots) (hx : p.tables.exec = Jvm.exec) (hZ : Z.Warmed39 s.vm) (eT : T.heap = h) {g : JFrame} (hg : g.method = m) {rest : List Value} (hs : g.stack = .ref a :: rest) (hd : decode c.code g.pc = .ok (.arraylength, 1)) :
    ∀ t, Steps p.tables e below (T.setTop { g with pc := g.pc + 1, stack := .int (Int32.ofNat n) :: rest }) t → Steps p.tables e below (T.setTop g) t := by
  obtain ⟨cl, A, S, -, -⟩ := F
  intro t k
  refine X.arraylength hx (by rw [eT]; exact A.1) (State.isArrayOf_alike hZ.alike A.2.1) hg hs hd _ ?_
  rw [S]; exact k
theorem oAI.ldI (F : oAI Z h a .int n f) (X : Stand p l e R s m args below meth c T locs cells slots) (hx : p.tables.exec = Jvm.exec) (hZ : Z.Warmed39 s.vm) (eT : T.heap = h) {j : Int32} (hj : 0 ≤ j.toInt ∧ j.toInt < n) {g : JFrame} (hg : g.method = m) {rest : List Value} (hs : g.stack = .int j :: .ref a :: rest) (hd : decode c.code g.pc = .ok (.iaload, 1)) :
    ∀ t, Steps p.tables e below (T.setTop { g with pc := g.pc + 1, stack := .int (f j.toInt.toNat) :: rest }) t → Steps p.tables e below (T.setTop g) t := by
  obtain ⟨cl, A, q1, q2⟩ := F.at hj
  exact X.iaload hx (by rw [eT]; exact A.1) (State.isArrayOf_alike hZ.alike A.2.1) A.2.2 q1 q2 hg hs hd
theorem oAI.ldB (F : oAI Z h a .byte n f) (X : Stand p l e R s m args below meth c T locs cells slots) (hx : p.tables.exec = Jvm.exec) (hZ : Z.Warmed39 s.vm) (eT : T.heap = h) {j : Int32} (hj : 0 ≤ j.toInt ∧ j.toInt < n) {g : JFrame} (hg : g.method = m) {rest : List Value} (hs : g.stack = .int j :: .ref a :: rest) (hd : decode c.code g.pc = .ok (.baload, 1)) :
    ∀ t, Steps p.tables e below (T.setTop { g with pc := g.pc + 1, stack := .int (f j.toInt.toNat) :: rest }) t → Steps p.tables e below (T.setTop g) t := by
  obtain ⟨cl, A, q1, q2⟩ := F.at hj
  exact X.baloadBytes hx (by rw [eT]; exact A.1) (State.isArrayOf_alike hZ.alike A.2.1) A.2.2 q1 q2 hg hs hd
theorem oAI.ldZ (F : oAI Z h a .boolean n f) (X : Stand p l e R s m args below meth c T locs cells slots) (hx : p.tables.exec = Jvm.exec) (hZ : Z.Warmed39 s.vm) (eT : T.heap = h) {j : Int32} (hj : 0 ≤ j.toInt ∧ j.toInt < n) {g : JFrame} (hg : g.method = m) {rest : List Value} (hs : g.stack = .int j :: .ref a :: rest) (hd : decode c.code g.pc = .ok (.baload, 1)) :
    ∀ t, Steps p.tables e below (T.setTop { g with pc := g.pc + 1, stack := .int (f j.toInt.toNat) :: rest }) t → Steps p.tables e below (T.setTop g) t := by
  obtain ⟨cl, A, q1, q2⟩ := F.at hj
  exact X.baloadBooleans hx (by rw [eT]; exact A.1) (State.isArrayOf_alike hZ.alike A.2.1) A.2.2 q1 q2 hg hs hd
theorem oAI.ldC (F : oAI Z h a .char n f) (X : Stand p l e R s m args below meth c T locs cells slots) (hx : p.tables.exec = Jvm.exec) (hZ : Z.Warmed39 s.vm) (eT : T.heap = h) {j : Int32} (hj : 0 ≤ j.toInt ∧ j.toInt < n) {g : JFrame} (hg : g.method = m) {rest : List Value} (hs : g.stack = .int j :: .ref a :: rest) (hd : decode c.code g.pc = .ok (.caload, 1)) :
    ∀ t, Steps p.tables e below (T.setTop { g with pc := g.pc + 1, stack := .int (f j.toInt.toNat) :: rest }) t → Steps p.tables e below (T.setTop g) t := by
  obtain ⟨cl, A, q1, q2⟩ := F.at hj
  exact X.caload hx (by rw [eT]; exact A.1) (State.isArrayOf_alike hZ.alike A.2.1) A.2.2 q1 q2 hg hs hd
theorem oAI.ldS (F : oAI Z h a .short n f) (X : Stand p l e R s m args below meth c T locs cells slots) (hx : p.tables.exec = Jvm.exec) (hZ : Z.Warmed39 s.vm) (eT : T.heap = h) {j : Int32} (hj : 0 ≤ j.toInt ∧ j.toInt < n) {g : JFrame} (hg : g.method = m) {rest : List Value} (hs : g.stack = .int j :: .ref a :: rest) (hd : decode c.code g.pc = .ok (.saload, 1)) :
    ∀ t, Steps p.tables e below (T.setTop { g with pc := g.pc + 1, stack := .int (f j.toInt.toNat) :: rest }) t → Steps p.tables e below (T.setTop g) t := by
  obtain ⟨cl, A, q1, q2⟩ := F.at hj
  exact X.saload hx (by rw [eT]; exact A.1) (State.isArrayOf_alike hZ.alike A.2.1) A.2.2 q1 q2 hg hs hd
theorem oAI.stI (F : oAI Z h a .int n f) (X : Stand p l e R s m args below meth c T locs cells slots) (hx : p.tables.exec = Jvm.exec) (hZ : Z.Warmed39 s.vm) (eT : T.heap = h) {j x : Int32} (hj : 0 ≤ j.toInt ∧ j.toInt < n) {g : JFrame} (hg : g.method = m) {rest : List Value} (hs : g.stack = .int x :: .int j :: .ref a :: rest) (hd : decode c.code g.pc = .ok (.iastore, 1)) :
    ∃ T' h', Stand p l e R s m args below meth c T' (locs ++ [⟨a, j.toNatClampNeg⟩]) cells slots ∧ T'.heap = h' ∧ Wr h h' a j.toNatClampNeg (.int x) ∧ oAI Z h' a .int n (oUp f j.toInt.toNat x) ∧ ∀ t, Steps p.tables e below (T'.setTop { g with pc := g.pc + 1, stack := rest }) t → Steps p.tables e below (T.setTop g) t := by
  have F' := F
  obtain ⟨cl, A, S, q, G⟩ := F'
  obtain ⟨T', h', X', e', W, st⟩ := Jvm.RoadKit.stI X hx hZ eT A (x := x) (oNotIn S hj) hg hs hd
  exact ⟨T', h', X', e', W, F.set W hj, st⟩
theorem oAI.stB (F : oAI Z h a .byte n f) (X : Stand p l e R s m args below meth c T locs cells slots) (hx : p.tables.exec = Jvm.exec) (hZ : Z.Warmed39 s.vm) (eT : T.heap = h) {j x : Int32} (hj : 0 ≤ j.toInt ∧ j.toInt < n) {g : JFrame} (hg : g.method = m) {rest : List Value} (hs : g.stack = .int x :: .int j :: .ref a :: rest) (hd : decode c.code g.pc = .ok (.bastore, 1)) :
    ∃ T' h', Stand p l e R s m args below meth c T' (locs ++ [⟨a, j.toNatClampNeg⟩]) cells slots ∧ T'.heap = h' ∧ Wr h h' a j.toNatClampNeg (.int (nar .byte x)) ∧ oAI Z h' a .byte n (oUp f j.toInt.toNat (nar .byte x)) ∧ ∀ t, Steps p.tables e below (T'.setTop { g with pc := g.pc + 1, stack := rest }) t → Steps p.tables e below (T.setTop g) t := by
  have F' := F
  obtain ⟨cl, A, S, q, G⟩ := F'
  obtain ⟨T', h', X', e', W, st⟩ := Jvm.RoadKit.stB X hx hZ eT A (x := x) (oNotIn S hj) hg hs hd
  exact ⟨T', h', X', e', W, F.set W hj, st⟩
theorem oAI.stZ (F : oAI Z h a .boolean n f) (X : Stand p l e R s m args below meth c T locs cells slots) (hx : p.tables.exec = Jvm.exec) (hZ : Z.Warmed39 s.vm) (eT : T.heap = h) {j x : Int32} (hj : 0 ≤ j.toInt ∧ j.toInt < n) {g : JFrame} (hg : g.method = m) {rest : List Value} (hs : g.stack = .int x :: .int j :: .ref a :: rest) (hd : decode c.code g.pc = .ok (.bastore, 1)) :
    ∃ T' h', Stand p l e R s m args below meth c T' (locs ++ [⟨a, j.toNatClampNeg⟩]) cells slots ∧ T'.heap = h' ∧ Wr h h' a j.toNatClampNeg (.int (nar .boolean x)) ∧ oAI Z h' a .boolean n (oUp f j.toInt.toNat (nar .boolean x)) ∧ ∀ t, Steps p.tables e below (T'.setTop { g with pc := g.pc + 1, stack := rest }) t → Steps p.tables e below (T.setTop g) t := by
  have F' := F
  obtain ⟨cl, A, S, q, G⟩ := F'
  obtain ⟨T', h', X', e', W, st⟩ := Jvm.RoadKit.stZ X hx hZ eT A (x := x) (oNotIn S hj) hg hs hd
  exact ⟨T', h', X', e', W, F.set W hj, st⟩
theorem oAI.stC (F : oAI Z h a .char n f) (X : Stand p l e R s m args below meth c T locs cells slots) (hx : p.tables.exec = Jvm.exec) (hZ : Z.Warmed39 s.vm) (eT : T.heap = h) {j x : Int32} (hj : 0 ≤ j.toInt ∧ j.toInt < n) {g : JFrame} (hg : g.method = m) {rest : List Value} (hs : g.stack = .int x :: .int j :: .ref a :: rest) (hd : decode c.code g.pc = .ok (.castore, 1)) :
    ∃ T' h', Stand p l e R s m args below meth c T' (locs ++ [⟨a, j.toNatClampNeg⟩]) cells slots ∧ T'.heap = h' ∧ Wr h h' a j.toNatClampNeg (.int (nar .char x)) ∧ oAI Z h' a .char n (oUp f j.toInt.toNat (nar .char x)) ∧ ∀ t, Steps p.tables e below (T'.setTop { g with pc := g.pc + 1, stack := rest }) t → Steps p.tables e below (T.setTop g) t := by
  have F' := F
  obtain ⟨cl, A, S, q, G⟩ := F'
  obtain ⟨T', h', X', e', W, st⟩ := Jvm.RoadKit.stC X hx hZ eT A (x := x) (oNotIn S hj) hg hs hd
  exact ⟨T', h', X', e', W, F.set W hj, st⟩
theorem oAI.stS (F : oAI Z h a .short n f) (X : Stand p l e R s m args below meth c T locs cells slots) (hx : p.tables.exec = Jvm.exec) (hZ : Z.Warmed39 s.vm) (eT : T.heap = h) {j x : Int32} (hj : 0 ≤ j.toInt ∧ j.toInt < n) {g : JFrame} (hg : g.method = m) {rest : List Value} (hs : g.stack = .int x :: .int j :: .ref a :: rest) (hd : decode c.code g.pc = .ok (.sastore, 1)) :
    ∃ T' h', Stand p l e R s m args below meth c T' (locs ++ [⟨a, j.toNatClampNeg⟩]) cells slots ∧ T'.heap = h' ∧ Wr h h' a j.toNatClampNeg (.int (nar .short x)) ∧ oAI Z h' a .short n (oUp f j.toInt.toNat (nar .short x)) ∧ ∀ t, Steps p.tables e below (T'.setTop { g with pc := g.pc + 1, stack := rest }) t → Steps p.tables e below (T.setTop g) t := by
  have F' := F
  obtain ⟨cl, A, S, q, G⟩ := F'
  obtain ⟨T', h', X', e', W, st⟩ := Jvm.RoadKit.stS X hx hZ eT A (x := x) (oNotIn S hj) hg hs hd
  exact ⟨T', h', X', e', W, F.set W hj, st⟩
/-! words out of words -/
theorem oSame {as : Array Value} {C : String} {x y z : MethodName} (wd : (Jvm.Cond.declares y).before as Z = true) (ws : (Jvm.Cond.selects C x z).before as Z = true) (hc : z.cls = y.cls) (hy : y.cls ≠ "java/lang/invoke/MethodHandle" ∧ y.cls ≠ "java/lang/invoke/VarHandle") : (Jvm.Cond.sameMethod y.cls y.cls y.name y.desc).before as Z = true := by
  obtain ⟨c2, r2, m2, -, -, q3, -, kP, hkP, hkPi⟩ := Cond.selects_spec ws
  have h1 := findClass_of_methodNamed q3
  rw [hc] at h1
  cases hm : Z.methodNamed? y with
  | none => simp [Cond.before, Cond.holds, Cond.value, hm] at wd
  | some mk =>
    have h2 := State.methodFound?_of_named hm hy
    have h3 := findClass_of_methodNamed hm
    simp only [Cond.before, Cond.holds, Cond.value, h1, h2, hm, hkP, Option.any_some, hkPi]
    rfl
theorem oPriv {as : Array Value} {y : MethodName} {kk : Nat} (wi : (Jvm.Cond.instantiable y.cls kk).before as s = true) (hpriv : s.PrivateAt y) (hinst : (Jvm.Cond.instanceMethod y).before as s = true) (hy : y.cls ≠ "java/lang/invoke/MethodHandle" ∧ y.cls ≠ "java/lang/invoke/VarHandle") : (Jvm.Cond.selects y.cls y y).before as s = true := by
  obtain ⟨c, k, h1, h2, h3, h4, -⟩ := Cond.instantiable_spec wi
  have i5 : k.isInterface = false := by cases hq : k.isInterface <;> simp [hq] at h4 ⊢
  exact selects_self_of_private h1 h2 i5 hpriv hinst hy
theorem oPriv2 {as : Array Value} {C : String} {y : MethodName} (ws : (Jvm.Cond.selects C y y).before as s = true) (hpriv : s.PrivateAt y) (hinst : (Jvm.Cond.instanceMethod y).before as s = true) (hy : y.cls ≠ "java/lang/invoke/MethodHandle" ∧ y.cls ≠ "java/lang/invoke/VarHandle") : (Jvm.Cond.selects y.cls y y).before as s = true := by
  obtain ⟨c, r, m, -, -, q3, -, k, hk, hki⟩ := Cond.selects_spec ws
  exact selects_self_of_private (findClass_of_methodNamed q3) hk hki hpriv hinst hy
/-! the start's statics -/
theorem oAnd {A B : Jvm.Cond} {as : Array Value} {st : State} (q : (Jvm.Cond.and A B).before as st = true) : A.before as st = true ∧ B.before as st = true := by
  rw [Cond.before_and, Bool.and_eq_true] at q; exact q
/-- a static that holds exactly an object of the class K -/
theorem oStaR {as : Array Value} {C n d K : String} (q : (Jvm.Cond.exactly (.static C n d) K).before as Z = true) (w1 : (Jvm.Cond.initialized C).before as Z = true) (w2 : (Jvm.Cond.laysStatic C n d).before as Z = true) : ∃ a, (Term.static C n d).eval as Z none [] Z = some (.ref a) ∧ Sta Z Z.heap C n d (.ref a) ∧ Exa Z Z.heap a K := by
  obtain ⟨a, c', cell, k, e1, -⟩ := Cond.exactly_spec q
  exact ⟨a, e1, Sta.start e1 (Or.inr ⟨w1, w2⟩), Exa.start e1 (Cond.before_iff.mp q)⟩
theorem oFldI {as : Array Value} {t : Term} {C n d : String} {k : Int32} {a : Addr} (q : (Jvm.Cond.eq (.field t C n d) (.int k)).before as Z = true) (ev : t.eval as Z none [] Z = some (.ref a)) : Fld Z Z.heap a C n d (.int k) := by
  have q' := Cond.before_iff.mp q
  have e1 : (Term.field t C n d).eval as Z none [] Z = Z.fieldOf? a C n d := by simp [Term.eval, ev]
  refine Fld.start ?_
  simp only [Cond.value, e1] at q'
  cases hf : Z.fieldOf? a C n d with
  | none => simp [hf] at q'
  | some v => cases v <;> simp [hf, Term.eval] at q' ⊢; exact q'
theorem oArgI {as : Array Value} {i : Nat} {w : Value} (q : (Jvm.Cond.isInt (.arg i)).before as s = true) (e : as[i]? = some w) : ∃ z, w = .int z := by
  have q' := Cond.before_iff.mp q
  simp only [Cond.value, Term.eval, e] at q'
  cases w <;> first | exact ⟨_, rfl⟩ | simp at q'
theorem oArgJ {as : Array Value} {i : Nat} {w : Value} (q : (Jvm.Cond.isLong (.arg i)).before as s = true) (e : as[i]? = some w) : ∃ z, w = .long z := by
  have q' := Cond.before_iff.mp q
  simp only [Cond.value, Term.eval, e] at q'
  cases w <;> first | exact ⟨_, rfl⟩ | simp at q'
theorem own_arrAt {Z : State} {ca : Addr} {cl : Cell} {ty : FieldType} (A : Arr Z Z.heap ca cl ty) : Z.arrayAt? ca = some cl := by
  have hp := A.plain
  obtain ⟨h1, ⟨hp', k, hk, comp, hkind⟩, h3⟩ := A
  simp [State.arrayAt?, h1, hk, hkind, h3, hp]
theorem own_len {as : Array Value} {Z : State} {t : Term} {ca : Addr} {cl : Cell} {ty : FieldType} (ev : t.eval as Z none [] Z = some (.ref ca)) (A : Arr Z Z.heap ca cl ty) (q : (Jvm.Cond.eq (.length t) (.int 256)).before as Z = true) : cl.slots.size = 256 := by
  have q' := Cond.before_iff.mp q
  have e1 := own_arrAt A
  by_cases hs : cl.slots.size < 2 ^ 31
  · have e2 : (Term.length t).eval as Z none [] Z = some (.int cl.slots.size.toInt32) := by simp [Term.eval, ev, e1, hs]
    have e3 := Cond.eq_ints e2 (Term.int_eval 256)
    rw [e3] at q'
    have e4 : cl.slots.size.toInt32 = 256 := by simpa using q'
    have e5 : (cl.slots.size.toInt32).toInt = (256 : Int32).toInt := by rw [e4]
    have e6 : (Int32.ofNat cl.slots.size).toInt = cl.slots.size := Int32.toInt_ofNat_of_lt (by omega)
    have e7 : (256 : Int32).toInt = 256 := by decide
    have e8 : cl.slots.size.toInt32 = Int32.ofNat cl.slots.size := rfl
    rw [e8, e6, e7] at e5
    omega
  · have e2 : (Term.length t).eval as Z none [] Z = none := by
      simp [Term.eval, ev]
      intro a ha
      rw [e1] at ha
      cases ha
      omega
    simp [Cond.value, e2] at q'
theorem own_all {as : Array Value} {Z : State} {C n d K : String} {ca : Addr} {cl : Cell} {ty : FieldType} {X : Jvm.Cond} (ev : (Term.static C n d).eval as Z none [] Z = some (.ref ca)) (A : Arr Z Z.heap ca cl ty) (hn : cl.slots.size = 256) (q : (Jvm.Cond.all (.static C n d) (.and (.exactly (.elem (.static C n d) (.index 0)) K) X)).before as Z = true) :
    ∀ j : Int32, 0 ≤ j.toInt ∧ j.toInt < (256 : Nat) → ∃ o, cl.slots[j.toNatClampNeg]? = some (.ref o) ∧ Exa Z Z.heap o K ∧ (Term.elem (.static C n d) (.index 0)).eval as Z none [j.toNatClampNeg] Z = some (.ref o) ∧ X.value as Z none Z [j.toNatClampNeg] = some true := by
  intro j hj
  have e1 := own_arrAt A
  have hj0 : ¬ j < 0 := by rw [Int32.lt_iff_toInt_lt]; have : (0 : Int32).toInt = 0 := rfl; omega
  have h1 : j.toNatClampNeg = j.toInt.toNat := rfl
  have h := Cond.all_elim ev e1 (Cond.before_iff.mp q) j.toNatClampNeg (by rw [hn, h1]; omega)
  obtain ⟨h2, h3⟩ := and_e h
  have ev' : (Term.static C n d).eval as Z none [j.toNatClampNeg] Z = some (.ref ca) := ev
  have e2 : (Term.elem (.static C n d) (.index 0)).eval as Z none [j.toNatClampNeg] Z = cl.slots[j.toNatClampNeg]? := by
    have e3 := idx_at (args := as) (s := Z) (first := Z) (o := none) hj0
    simp only [Term.eval] at ev' e3 ⊢
    rw [ev', e3]
    simp [e1, hj0]
  obtain ⟨o, c', cell, k, f1, -⟩ := Cond.exactly_spec (show (Cond.exactly (.elem (.static C n d) (.index 0)) K).holds as Z none Z [j.toNatClampNeg] = true by simp [Cond.holds, h2])
  exact ⟨o, by rw [← e2]; exact f1, exa_at f1 h2, f1, h3⟩
theorem own_fld {as : Array Value} {Z : State} {t u : Term} {idx : List Nat} {O f D : String} {o : Addr} {k : Int32} (f1 : t.eval as Z none idx Z = some (.ref o)) (hx : (Jvm.Cond.eq (.field t O f D) u).value as Z none Z idx = some true) (hu : u.eval as Z none idx Z = some (.int k)) : Fld Z Z.heap o O f D (.int k) := by
  have e1 : (Term.field t O f D).eval as Z none idx Z = Z.fieldOf? o O f D := by simp [Term.eval, f1]
  refine Fld.start ?_
  simp only [Cond.value, e1, hu] at hx
  cases hf : Z.fieldOf? o O f D with
  | none => simp [hf] at hx
  | some v => cases v <;> simp [hf] at hx ⊢; exact hx
theorem own_ix {as : Array Value} {Z : State} {j : Int32} (hj : 0 ≤ j.toInt) : (Term.sub (.index 0) (.int 128)).eval as Z none [j.toNatClampNeg] Z = some (.int (j - 128)) := by
  have hj0 : ¬ j < 0 := by rw [Int32.lt_iff_toInt_lt]; have : (0 : Int32).toInt = 0 := rfl; omega
  have e3 := idx_at (args := as) (s := Z) (first := Z) (o := none) hj0
  simp only [Term.eval] at e3 ⊢
  rw [e3]; rfl
theorem oEqI {as : Array Value} {t : Term} {k : Int32} (q : (Jvm.Cond.eq t (.int k)).before as Z = true) : t.eval as Z none [] Z = some (.int k) := by
  have q' := Cond.before_iff.mp q
  simp only [Cond.value] at q'
  cases hf : t.eval as Z none [] Z with
  | none => simp [hf] at q'
  | some v => cases v <;> simp [hf, Term.eval] at q' ⊢; exact q'
end OwnKit
section OwnVm
variable {p : Program} {l : Launch} {e : Env} {R : Room} {s : State} {m : MethodId} {args : Array Value} {below : List Frame} {meth : Method} {c : Code} {T : State} {locs : List Loc} {cells slots : Nat} {Z : State} {h h' : Heap} {a0 : Array Value}
/-! bodies whose contract speaks of the tables (which constants have been loaded) -/
def oFinV (s : State) (below : List Frame) (Q : Option Value → Heap → Vm → List Loc → Prop) (C S : Nat) (t : State) : Prop := ∃ o, t.status = .running ∧ Ended t below o ∧ ∃ v L, o = .returned v ∧ Q v t.heap t.vm L ∧ ReturnedEndW s o t L C S
theorem oEnterV {S0 : State} {Q : Option Value → Heap → Vm → List Loc → Prop} {C S : Nat} (k : oGl p e below S0 (oFinV s below Q C S)) : ∃ s₂ o, Steps p.tables e below S0 s₂ ∧ s₂.status = .running ∧ Ended s₂ below o ∧ ∃ v L, o = .returned v ∧ Q v s₂.heap s₂.vm L ∧ ReturnedEndW s o s₂ L C S := by
  obtain ⟨t, k1, o, k2, k3, k4⟩ := k; exact ⟨t, o, k1, k2, k3, k4⟩
theorem oRetIV {vm₁ : Vm} {n : Nat} (X : Stand p l e R (s.setVm vm₁) m args below meth c T locs cells slots) (hS : s.Since vm₁ n) (hn : n ≤ T.heap.size) (hx : p.tables.exec = Jvm.exec) (hl : meth.locks = false) {pc : Nat} {Ls : Array Slot} {z : Int32} {rest : List Value} (hret : meth.sig.returnType = some .int) (hd : decode c.code pc = .ok (.ireturn, 1))
    {Q : Option Value → Heap → Vm → List Loc → Prop} {C S : Nat} (hc : cells ≤ C) (hs : slots ≤ S) (hq : Q (some (.int z)) T.heap T.vm locs) : oGl p e below (T.setTop (mkF m pc Ls (.int z :: rest))) (oFinV s below Q C S) := by
  obtain ⟨fs, hr, hrun, hended, h1, h2, h3, hsame⟩ := X.leaveW hS hn (v := some (.int z)) (fun q => by rw [hret] at q; cases q) hl
  exact ⟨_, retOut X hx hret rfl (Or.inl ⟨rfl, Or.inl rfl, _, rfl⟩) hd hr, _, hrun, hended, _, _, rfl, hq, h1, h2, h3, hsame.mono hc hs⟩
theorem oRetNV {t : FieldType} {vm₁ : Vm} {n : Nat} (X : Stand p l e R (s.setVm vm₁) m args below meth c T locs cells slots) (hS : s.Since vm₁ n) (hn : n ≤ T.heap.size) (hx : p.tables.exec = Jvm.exec) (hl : meth.locks = false) {pc : Nat} {Ls : Array Slot} {z : Int32} {rest : List Value} (hret : meth.sig.returnType = some t) (ht : t = .boolean ∨ t = .byte ∨ t = .char ∨ t = .short) (hd : decode c.code pc = .ok (.ireturn, 1))
    {Q : Option Value → Heap → Vm → List Loc → Prop} {C S : Nat} (hc : cells ≤ C) (hs : slots ≤ S) (hq : Q (some (.int (nar t z))) T.heap T.vm locs) : oGl p e below (T.setTop (mkF m pc Ls (.int z :: rest))) (oFinV s below Q C S) := by
  obtain ⟨fs, hr, hrun, hended, h1, h2, h3, hsame⟩ := X.leaveW hS hn (v := some (.int (nar t z))) (fun q => by rw [hret] at q; cases q) hl
  exact ⟨_, retN X hx hret ht hd hr, _, hrun, hended, _, _, rfl, hq, h1, h2, h3, hsame.mono hc hs⟩
theorem oRetRV {t : FieldType} {vm₁ : Vm} {n : Nat} (X : Stand p l e R (s.setVm vm₁) m args below meth c T locs cells slots) (hS : s.Since vm₁ n) (hn : n ≤ T.heap.size) (hx : p.tables.exec = Jvm.exec) (hl : meth.locks = false) {pc : Nat} {Ls : Array Slot} {w : Value} {rest : List Value} (hret : meth.sig.returnType = some t) (ht : t.isReference = true) (hw : w.isRef = true) (hd : decode c.code pc = .ok (.areturn, 1))
    {Q : Option Value → Heap → Vm → List Loc → Prop} {C S : Nat} (hc : cells ≤ C) (hs : slots ≤ S) (hq : Q (some w) T.heap T.vm locs) : oGl p e below (T.setTop (mkF m pc Ls (w :: rest))) (oFinV s below Q C S) := by
  obtain ⟨fs, hr, hrun, hended, h1, h2, h3, hsame⟩ := X.leaveW hS hn (v := some w) (fun q => by rw [hret] at q; cases q) hl
  exact ⟨_, retOut X hx hret (narrow_ref ht hw) (Or.inr (Or.inr (Or.inr (Or.inr ⟨rfl, ht, hw⟩)))) hd hr, _, hrun, hended, _, _, rfl, hq, h1, h2, h3, hsame.mono hc hs⟩
theorem oRet0V {vm₁ : Vm} {n : Nat} (X : Stand p l e R (s.setVm vm₁) m args below meth c T locs cells slots) (hS : s.Since vm₁ n) (hn : n ≤ T.heap.size) (hx : p.tables.exec = Jvm.exec) (hl : meth.locks = false) {pc : Nat} {Ls : Array Slot} (hret : meth.sig.returnType = none) (hd : decode c.code pc = .ok (.return_, 1))
    {Q : Option Value → Heap → Vm → List Loc → Prop} {C S : Nat} (hc : cells ≤ C) (hs : slots ≤ S) (hq : Q none T.heap T.vm locs) : oGl p e below (T.setTop (mkF m pc Ls [])) (oFinV s below Q C S) := by
  obtain ⟨fs, hr, hrun, hended, h1, h2, h3, hsame⟩ := X.leaveW hS hn (v := none) (fun _ => rfl) hl
  exact ⟨_, X.returnOut hx hret hd hr, _, hrun, hended, _, _, rfl, hq, h1, h2, h3, hsame.mono hc hs⟩
theorem backOfV {J : Vm → Prop} {y : MethodName} {bytes : ByteArray} {maxL : Nat} {ret : Option FieldType} {rm : Room} {len W : Nat} {as' : Array Value} {Q : Option Value → Heap → Vm → List Loc → Prop}
    (hM : MetFree l y (head1 [Cond.code y bytes maxL ret] rm) (fun a U => a = as' ∧ Z.Warmed39 U.vm ∧ U.heap = h ∧ J U.vm) (fun _ _ _ _ _ => True) (fun _ U o U' => ∃ v L, o = .returned v ∧ Q v U'.heap U'.vm L ∧ ReturnedEndW U o U' L rm.cells rm.slots))
    (hZ : Z.Warmed39 s.vm) (wc : (Cond.code y bytes maxL ret).before a0 Z = true) (wz : (Cond.initialized y.cls).before a0 Z = true) (hf : rm.frames + 1 ≤ R.frames) (hl : W + (maxL + 11) + rm.locals ≤ R.locals) :
    BackS l R p e below s args y len W (fun A a => a = as' ∧ A.U.heap = h ∧ A.cells + rm.cells ≤ R.cells ∧ A.slots + rm.slots ≤ R.slots ∧ J A.U.vm)
      (fun A _ v B => ∃ L, Q v B.U.heap B.U.vm L ∧ B.locs = A.locs ++ L ∧ B.cells = A.cells + rm.cells ∧ B.slots = A.slots + rm.slots) :=
  BackS.of_freeW (bytes := bytes) (maxL := maxL) (ret := ret) (E := fun _ _ o t L k n => k = rm.cells ∧ n = rm.slots ∧ ∃ v, o = .returned v ∧ Q v t.heap t.vm L) hM hf hl
    (fun m meth c A a Y hp => by
      have hU : Z.Warmed39 A.U.vm := wtrans hZ Y.warmed
      refine ⟨?_, mv hU wc, mv hU wz, hp.2.2.1, hp.2.2.2.1⟩
      show (Cond.and _ .tt).before a A.U = true
      rw [Cond.before_and, mv hU wc]; rfl)
    (fun m meth c A a g mk Y hp => ⟨hp.1, wtrans hZ Y.warmed, hp.2.1, hp.2.2.2.2⟩) (fun _ _ _ _ _ _ _ _ _ => trivial)
    (fun _ _ _ _ ⟨v, L, h1, h2, h3⟩ => ⟨L, _, _, h3, rfl, rfl, v, h1, h2⟩)
    (fun m meth c A a g mk v t L k n Y hp _ _ ⟨e1, e2, v', e3, e4⟩ => by cases e3; subst e1 e2; exact ⟨L, e4, rfl, rfl, rfl⟩)
/-- the constant "" of java/lang/String (entry 7): nothing has been loaded yet, or it has, and what it is -/
def oEm (Z : State) (vm : Vm) (h : Heap) : Prop := vm.interned = Z.vm.interned ∨ ∃ a b : Nat, Lit (Z.setVm vm) "java/lang/String" 7 a ∧ Exa Z h a "java/lang/String" ∧ Fld Z h a "java/lang/String" "coder" "B" (.int 0) ∧ Fld Z h a "java/lang/String" "value" "[B" (.ref b) ∧ oAI Z h b .byte 0 (fun _ => 0)
theorem oEm.ext {vm : Vm} (F : oEm Z vm h) (E : Ext h h') : oEm Z vm h' := by
  rcases F with q | ⟨a, b, f1, f2, f3, f4, f5⟩
  · exact Or.inl q
  · exact Or.inr ⟨a, b, f1, f2.ext E, f3.ext E, f4.ext E, f5.ext E⟩
theorem oEm.keep0 {vm : Vm} (F : oEm Z vm h) (K : Keep h h' []) : oEm Z vm h' := by
  rcases F with q | ⟨a, b, f1, f2, f3, f4, f5⟩
  · exact Or.inl q
  · exact Or.inr ⟨a, b, f1, f2.keep K, f3.keep K nin0, f4.keep K nin0, f5.keep K nin0⟩
theorem oNeT {a b : Addr} {ty ty' : FieldType} {n n' : Nat} {f f' : Nat → Int32} (F : oAI Z h a ty n f) (G : oAI Z h b ty' n' f') (q : ty ≠ ty') : a ≠ b := fun e => by
  subst e
  obtain ⟨c1, A1, -⟩ := F
  obtain ⟨c2, A2, -⟩ := G
  cases A1.1.symm.trans A2.1
  obtain ⟨-, k1, h1, cp1, h2⟩ := A1.2.1
  obtain ⟨-, k2, g1, cp2, g2⟩ := A2.2.1
  cases h1.symm.trans g1
  rw [h2] at g2
  injection g2 with q1 q2
  exact q q2
theorem oNeO {a b : Addr} {C : String} {k n : Nat} {ty : FieldType} {f : Nat → Int32} (F : Exa Z h a C) (wi : (Jvm.Cond.instantiable C k).before a0 Z = true) (G : oAI Z h b ty n f) : a ≠ b := by
  obtain ⟨c2, A2, -⟩ := G
  exact ne_arr F wi A2
theorem oEm.wrA {vm : Vm} {x : Addr} {sl : Nat} {v : Value} {ty : FieldType} {n k : Nat} {f : Nat → Int32} (F : oEm Z vm h) (W : Wr h h' x sl v) (G : oAI Z h x ty n f) (wi : (Jvm.Cond.instantiable "java/lang/String" k).before a0 Z = true) (q : FieldType.byte ≠ ty) : oEm Z vm h' := by
  rcases F with r | ⟨a, b, f1, f2, f3, f4, f5⟩
  · exact Or.inl r
  · exact Or.inr ⟨a, b, f1, f2.wr W, f3.other W (Or.inl (oNeO f2 wi G)), f4.other W (Or.inl (oNeO f2 wi G)), f5.other W (oNeT f5 G q)⟩
theorem fld_fun {a : Addr} {C n d : String} {v w : Value} (F : Fld Z h a C n d v) (G : Fld Z h a C n d w) : v = w := by
  by_cases q : v = w
  · exact q
  · exact absurd rfl (F.ne G q)
theorem oEm.wrF {vm : Vm} {x : Addr} {sl : Nat} {v : Value} (F : oEm Z vm h) (W : Wr h h' x sl v) (G : Fld Z h x "java/lang/String" "value" "[B" .null) {k : Nat} (Ex : Exa Z h x "java/lang/String") (wi : (Jvm.Cond.instantiable "java/lang/String" k).before a0 Z = true) : oEm Z vm h' := by
  rcases F with r | ⟨a, b, f1, f2, f3, f4, f5⟩
  · exact Or.inl r
  · have q : a ≠ x := fun e => by subst e; exact absurd (fld_fun f4 G) nofun
    refine Or.inr ⟨a, b, f1, f2.wr W, f3.other W (Or.inl q), f4.other W (Or.inl q), f5.other W (fun e => oNeO Ex wi f5 e.symm)⟩
theorem warm_interned {vm0 vm1 : Vm} (W : (s.setVm vm0).WarmedH vm1) : vm1.interned = vm0.interned := by
  rw [W.1]; rfl
theorem oEm.warm {vm0 vm1 : Vm} (F : oEm Z vm0 h) (W : (s.setVm vm0).WarmedH vm1) : oEm Z vm1 h := by
  rcases F with r | ⟨a, b, f1, f2⟩
  · exact Or.inl ((warm_interned W).trans r)
  · exact Or.inr ⟨a, b, Lit.stays (s := s) f1 W.wide, f2⟩
theorem oAI.ofArv0 {b : Addr} {k : ClassId} {ty : FieldType} {d : Value} (V : Arv Z h b k ty (0 : Int32) [] d) : oAI Z h b ty 0 (fun _ => 0) := by
  obtain ⟨c, A, -, S, -⟩ := V
  exact ⟨c, A, S, by decide, fun j hj => absurd hj (Nat.not_lt_zero _)⟩
theorem oAI_fun {a : Addr} {ty : FieldType} {n n' : Nat} {f f' : Nat → Int32} (F : oAI Z h a ty n f) (G : oAI Z h a ty n' f') : n = n' ∧ ∀ j, j < n → f j = f' j := by
  obtain ⟨c1, A1, S1, -, G1⟩ := F
  obtain ⟨c2, A2, S2, -, G2⟩ := G
  cases A1.1.symm.trans A2.1
  have e : n = n' := S1.symm.trans S2
  refine ⟨e, fun j hj => ?_⟩
  have h1 := G1 j hj
  rw [G2 j (e ▸ hj)] at h1
  injection h1 with h1; injection h1 with h1; exact h1.symm
end OwnVm
section OwnCp
variable {p : Program} {l : Launch} {e : Env} {R : Room} {s : State} {m : MethodId} {args : Array Value} {below : List Frame} {meth : Method} {c : Code} {T : State} {locs : List Loc} {cells slots : Nat} {Z : State} {h h' : Heap} {a b : Addr}
theorem oNF {as : Array Value} {C : String} {z y : MethodName} (hs : (Jvm.Cond.selects C z z).before as s = true) (e : z.cls = y.cls) : NotFace s y := fun r0 h0 => by
  obtain ⟨c, r, m, -, -, q3, -, k, hk, hki⟩ := Cond.selects_spec hs
  have h1 := findClass_of_methodNamed q3
  have h2 := findClass_of_methodNamed h0
  rw [e] at h1
  have e2 : m.cls = r0.cls := Option.some.inj (h1.symm.trans h2)
  exact ⟨k, e2 ▸ hk, hki⟩
/-! System.arraycopy between byte arrays (as functions) -/
def oFit (n : Nat) (f : Nat → Int32) : Prop := ∀ j : Nat, j < n → fits .byte (.int (f j)) = true
def oCpF (d n : Nat) (f g : Nat → Int32) : Nat → Int32 := fun j => if d ≤ j ∧ j < d + n then f (j - d) else g j
theorem oFit.cp {d n k : Nat} {f g : Nat → Int32} (F : oFit n f) (G : oFit k g) : oFit k (oCpF d n f g) := fun j hj => by
  unfold oCpF; split
  · exact F _ (by omega)
  · exact G j hj
theorem oFit0 {n : Nat} : oFit n (fun _ => 0) := fun _ _ => (by decide : fits .byte (.int 0) = true)
theorem oFit.z {n : Nat} {f : Nat → Int32} (F : oFit n f) : oFit n (fun i => f (0 + i)) := fun j hj => by
  show fits .byte (.int (f (0 + j))) = true
  rw [Nat.zero_add]; exact F j hj
def oLs (n : Nat) (f : Nat → Int32) : List Value := (List.range n).map fun j => .int (f j)
theorem oLs_at {n j : Nat} {f : Nat → Int32} (h : j < n) : (oLs n f)[j]? = some (.int (f j)) := by simp [oLs, h]
theorem oLs_getD {n j : Nat} {f : Nat → Int32} {d : Value} (h : j < n) : (oLs n f).getD j d = .int (f j) := by simp [List.getD, oLs_at h]
theorem oAI.arv {n : Nat} {f : Nat → Int32} (F : oAI Z h a .byte n f) (G : oFit n f) : ∃ k, Arv Z h a k .byte (Int32.ofNat n) (oLs n f) (.int 0) := by
  obtain ⟨cl, A, S, q, H⟩ := F
  have e1 : (Int32.ofNat n).toInt = n := Int32.toInt_ofNat_of_lt (by omega)
  have e2 : (Int32.ofNat n).toNatClampNeg = n := by show (Int32.ofNat n).toInt.toNat = n; omega
  refine ⟨_, cl, A, rfl, by rw [S, e2], ?_, fun j hj => ?_, fun j hj => ?_⟩
  · rw [Int32.lt_iff_toInt_lt, e1]; have e0 : (0 : Int32).toInt = 0 := rfl; omega
  · rw [S] at hj; rw [oLs_getD hj]; exact H j hj
  · rw [S] at hj; rw [oLs_getD hj]; exact G j hj
theorem oCp_list {m' n k dp sp : Nat} {f g : Nat → Int32} {d d' : Value} (h1 : dp + k ≤ m') (h2 : sp + k ≤ n) {j : Nat} (hj : j < m') :
    ((oLs m' g).take dp ++ ((List.range k).map fun i => (oLs n f).getD (sp + i) d') ++ (oLs m' g).drop (dp + k)).getD j d = .int (oCpF dp k (fun i => f (sp + i)) g j) := by
  have hl : (oLs m' g).length = m' := by simp [oLs]
  have ht : ((oLs m' g).take dp).length = dp := by rw [List.length_take, hl]; omega
  have hu : (((List.range k).map fun i => (oLs n f).getD (sp + i) d')).length = k := by simp
  unfold oCpF
  by_cases q1 : j < dp
  · rw [if_neg (by omega), List.getD_eq_getElem?_getD, List.append_assoc, List.getElem?_append_left (by omega), List.getElem?_take, if_pos q1, oLs_at hj]; rfl
  · by_cases q2 : j < dp + k
    · rw [if_pos ⟨by omega, q2⟩, List.getD_eq_getElem?_getD, List.getElem?_append_left (by rw [List.length_append]; omega), List.getElem?_append_right (by omega), ht, List.getElem?_map, List.getElem?_range (by omega)]
      show (oLs n f).getD (sp + (j - dp)) d' = _
      rw [oLs_getD (by omega)]
    · rw [if_neg (by omega), List.getD_eq_getElem?_getD, List.getElem?_append_right (by rw [List.length_append]; omega), List.length_append, ht, hu, List.getElem?_drop, oLs_at (by omega), show dp + k + (j - (dp + k)) = j by omega]; rfl
theorem oCp (X : Stand p l e R s m args below meth c T locs cells slots) (hx : p.tables.exec = Jvm.exec) (hZ : Z.Warmed39 s.vm) {a0 : Array Value} {own : String} {index : Nat} (hown : s.vm.findClass own = some m.cls)
    (w1 : (Cond.methodLink own index Jvm.Stand.acN).before a0 Z = true) (w2 : (Cond.native Jvm.Stand.acN).before a0 Z = true) (w3 : (Cond.static Jvm.Stand.acN).before a0 Z = true) (w4 : (Cond.initialized "java/lang/System").before a0 Z = true) (eT : T.heap = h)
    {sp dp nn : Int32} {n m' : Nat} {f g : Nat → Int32} (A : oAI Z h a .byte n f) (B : oAI Z h b .byte m' g) (Fa : oFit n f) (Fb : oFit m' g)
    (h1 : 0 ≤ sp.toInt) (h2 : 0 ≤ dp.toInt) (h3 : 0 ≤ nn.toInt) (h4 : sp.toInt + nn.toInt ≤ n) (h5 : dp.toInt + nn.toInt ≤ m') {n0 : Nat} (N : Fr n0 locs) (ge : @LE.le Nat _ n0 b)
    {gf : JFrame} (hg : gf.method = m) (hsize : gf.locals.size = c.maxLocals) {rest : List Value} (hs : gf.stack = .int nn :: .int dp :: .ref b :: .int sp :: .ref a :: rest) (hd : decode c.code gf.pc = .ok (.invokestatic index, 3))
    (hf : 1 ≤ R.frames) {W : Nat} (hW : 2 * gf.monitorRoom + (rest.map fun v => v.category).sum ≤ W) (hlo : W + (nativeFrameWords "java/lang/System" "arraycopy" 5 + 11) ≤ R.locals) :
    ∃ T' h' L, Stand p l e R s m args below meth c T' L cells slots ∧ T'.heap = h' ∧ Fr n0 L ∧ Keep h h' [b] ∧ oAI Z h' b .byte m' (oCpF dp.toInt.toNat nn.toInt.toNat (fun i => f (sp.toInt.toNat + i)) g) ∧
      ∀ target, Steps p.tables e below (T'.setTop { gf with pc := gf.pc + 3, stack := rest }) target → Steps p.tables e below (T.setTop gf) target := by
  obtain ⟨ka, A'⟩ := A.arv Fa
  obtain ⟨kb, B'⟩ := B.arv Fb
  have hn9 := A.small
  have hm9 := B.small
  have e1 : (Int32.ofNat n).toNatClampNeg = n := by show (Int32.ofNat n).toInt.toNat = n; rw [Int32.toInt_ofNat_of_lt (by omega)]; omega
  have e2 : (Int32.ofNat m').toNatClampNeg = m' := by show (Int32.ofNat m').toInt.toNat = m'; rw [Int32.toInt_ofNat_of_lt (by omega)]; omega
  have s1 : sp.toNatClampNeg = sp.toInt.toNat := rfl
  have s2 : dp.toNatClampNeg = dp.toInt.toNat := rfl
  have s3 : nn.toNatClampNeg = nn.toInt.toNat := rfl
  have z0 : (0 : Int32).toInt = 0 := rfl
  obtain ⟨T', h2', L, r1, r2, r3, r4, r5, r6⟩ := cpA X hx hZ hown w1 w2 w3 w4 eT A' B' (Or.inl ⟨rfl, rfl⟩) (by rw [Int32.lt_iff_toInt_lt]; omega) (by rw [Int32.lt_iff_toInt_lt]; omega) (by rw [Int32.lt_iff_toInt_lt]; omega) (by rw [e1, s1, s3]; omega) (by rw [e2, s2, s3]; omega) rfl (by rw [s2, s3]; simp [oLs]; omega) N ge hg hsize hs hd hf hW hlo
  refine ⟨T', h2', L, r1, r2, r3, r4, ?_, r6⟩
  obtain ⟨cl, A2, -, S2, -, H2, -⟩ := r5
  rw [e2] at S2
  refine ⟨cl, A2, S2, hm9, fun j hj => ?_⟩
  rw [H2 j (by rw [S2]; exact hj), s1, s2, s3, oCp_list (by omega) (by omega) hj]
def oLst (l : List Int32) : Nat → Int32 := fun j => l.getD j 0
theorem oAI.ofArvL {k : ClassId} {z : Int32} {d : Value} {l : List Int32} (V : Arv Z h b k .byte z (l.map Value.int) d) (hl : z.toNatClampNeg = l.length) : oAI Z h b .byte l.length (oLst l) := by
  obtain ⟨cl, A, -, S, -, H, -⟩ := V
  rw [hl] at S
  refine ⟨cl, A, S, ?_, fun j hj => ?_⟩
  · rw [← hl]; show z.toInt.toNat < _; have := z.toInt_lt; omega
  · rw [H j (by rw [S]; exact hj)]; simp [oLst, List.getD, List.getElem?_map, hj]
theorem oFldX {Z : State} {as : Array Value} {t : Term} {C n d K : String} {a : Addr} (q : (Jvm.Cond.exactly (.field t C n d) K).before as Z = true) (ev : t.eval as Z none [] Z = some (.ref a)) : ∃ w : Nat, (Term.field t C n d).eval as Z none [] Z = some (.ref w) ∧ Fld Z Z.heap a C n d (.ref w) ∧ Exa Z Z.heap w K := by
  obtain ⟨w, c', cell, k, e1, -⟩ := Cond.exactly_spec q
  have e2 : (Term.field t C n d).eval as Z none [] Z = Z.fieldOf? a C n d := by simp [Term.eval, ev]
  exact ⟨w, e1, Fld.start (e2.symm.trans e1), Exa.start e1 (Cond.before_iff.mp q)⟩
theorem oFldN {Z : State} {as : Array Value} {t : Term} {C n d : String} {a : Addr} (q : (Jvm.Cond.eq (.field t C n d) .null).before as Z = true) (ev : t.eval as Z none [] Z = some (.ref a)) : Fld Z Z.heap a C n d .null := by
  have q' := Cond.before_iff.mp q
  have e1 : (Term.field t C n d).eval as Z none [] Z = Z.fieldOf? a C n d := by simp [Term.eval, ev]
  refine Fld.start ?_
  simp only [Cond.value, e1] at q'
  cases hf : Z.fieldOf? a C n d with
  | none => simp [hf] at q'
  | some v => cases v <;> simp [hf, Term.eval] at q' ⊢
theorem oLenK {Z : State} {as : Array Value} {t : Term} {ca : Addr} {cl : Cell} {ty : FieldType} {k : Int32} {N : Nat} (ev : t.eval as Z none [] Z = some (.ref ca)) (A : Arr Z Z.heap ca cl ty) (q : (Jvm.Cond.eq (.length t) (.int k)).before as Z = true) (hk : k.toInt = N) : cl.slots.size = N := by
  have q' := oEqI q
  have e1 := own_arrAt A
  by_cases hs : cl.slots.size < 2 ^ 31
  · have e2 : (Term.length t).eval as Z none [] Z = some (.int cl.slots.size.toInt32) := by simp [Term.eval, ev, e1, hs]
    rw [e2] at q'
    injection q' with q'; injection q' with q'
    have e6 : (Int32.ofNat cl.slots.size).toInt = cl.slots.size := Int32.toInt_ofNat_of_lt (by omega)
    have e8 : cl.slots.size.toInt32 = Int32.ofNat cl.slots.size := rfl
    rw [e8] at q'
    rw [q', hk] at e6
    omega
  · have e2 : (Term.length t).eval as Z none [] Z = none := by
      simp [Term.eval, ev]
      intro a ha
      rw [e1] at ha
      cases ha
      omega
    rw [e2] at q'; cases q'
theorem oElem {Z : State} {as : Array Value} {t : Term} {ca : Addr} {cl : Cell} {ty : FieldType} {j k : Int32} (ev : t.eval as Z none [] Z = some (.ref ca)) (A : Arr Z Z.heap ca cl ty) (q : (Jvm.Cond.eq (.elem t (.int j)) (.int k)).before as Z = true) (hj : ¬ j < 0) : cl.slots[j.toNatClampNeg]? = some (.int k) := by
  have q' := oEqI q
  have e1 := own_arrAt A
  simp only [Term.eval] at q' ev
  rw [ev] at q'
  simpa [e1, hj] using q'
/-! the case's start lies below q -/
def oOld (Z : State) (q : Nat) (h : Heap) : Prop := @LE.le Nat _ Z.heap.size q ∧ Ext Z.heap h
theorem oOld.start (s : State) : oOld s s.heap.size s.heap := ⟨Nat.le_refl _, Nat.le_refl _, fun _ _ h => h⟩
theorem oOld.ext {q : Nat} (O : oOld Z q h) (E : Ext h h') : oOld Z q h' := ⟨O.1, Nat.le_trans O.2.1 E.1, fun x cl hx => E.2 x cl (O.2.2 x cl hx)⟩
theorem oOld.up {q q' : Nat} (O : oOld Z q h) (le : q ≤ q') : oOld Z q' h := ⟨Nat.le_trans O.1 le, O.2⟩
theorem oOld.wr {q : Nat} {x : Addr} {sl : Nat} {v : Value} (O : oOld Z q h) (W : Wr h h' x sl v) (ge : @LE.le Nat _ q x) : oOld Z q h' := by
  obtain ⟨cell, h1, h2, h3, h4⟩ := W
  refine ⟨O.1, by rw [h4, Array.size_setIfInBounds]; exact O.2.1, fun y cl hy => ?_⟩
  have hy2 := O.2.2 y cl hy
  have ly : @LT.lt Nat _ y Z.heap.size := (Array.getElem?_eq_some_iff.mp hy).1
  have hne : x ≠ y := fun e => by subst e; exact absurd (Nat.lt_of_lt_of_le ly O.1) (Nat.not_lt.mpr ge)
  rw [h4, Array.getElem?_setIfInBounds_ne hne]; exact hy2
theorem oOld.keep {q : Nat} {ws : List Addr} (O : oOld Z q h) (K : Keep h h' ws) (al : ∀ x ∈ ws, @LE.le Nat _ q x) : oOld Z q h' :=
  ⟨O.1, Nat.le_trans O.2.1 K.1, fun y cl hy => K.2.1 y cl (O.2.2 y cl hy) (fun hm => by
    have ly : @LT.lt Nat _ y Z.heap.size := (Array.getElem?_eq_some_iff.mp hy).1
    exact absurd (Nat.lt_of_lt_of_le ly O.1) (Nat.not_lt.mpr (al y hm)))⟩
theorem IBwarm {vm0 vm1 : Vm} {Ts : List String} (F : IB Z vm0 Ts) (W : (s.setVm vm0).WarmedH vm1) : IB Z vm1 Ts := by
  obtain ⟨more, q, r⟩ := F; exact ⟨more, (warm_interned W).trans q, r⟩
end OwnCp
set_option maxHeartbeats 4000000 in
theorem own_sa {Z : State} {a0 : Array Value} (hw : ∀ d ∈ tables_1, d.before a0 Z = true) : ∀ d ∈ Bundle.stringAtoms, d.before a0 Z = true := by
  intro d hd
  simp only [Bundle.stringAtoms, List.mem_cons, List.not_mem_nil, or_false] at hd
  rcases hd with rfl | rfl | rfl | rfl | rfl | rfl | rfl
  · exact (hw _ (List.mem_of_getElem? (i := 5) rfl))
  · exact (hw _ (List.mem_of_getElem? (i := 6) rfl))
  · exact (hw _ (List.mem_of_getElem? (i := 7) rfl))
  · exact (hw _ (List.mem_of_getElem? (i := 8) rfl))
  · exact (hw _ (List.mem_of_getElem? (i := 9) rfl))
  · exact (hw _ (List.mem_of_getElem? (i := 10) rfl))
  · exact (hw _ (List.mem_of_getElem? (i := 11) rfl))
def oLo (f : Nat → Int32) : Nat → Int32 := fun j => nar .byte ((f j).toInt8.toInt32)
theorem own_ofNat {n : Nat} (h : n < 2147483648) : (Int32.ofNat n).toInt = n := Int32.toInt_ofNat_of_lt (by omega)
theorem own_incS {x : Int32} (h : x.toInt < 2147483647) : (x + (1 : Int32)).toInt = x.toInt + 1 := by
  have h1 := c_iadd x 1; have h2 := rng32 (x + 1); have h3 := rng32 x; have e1 : (1 : Int32).toInt = 1 := rfl
  omega
theorem d9_0 : decode jdk_68_method_2_code 0 = .ok (.aload_n 0, 1) := by decide +kernel
theorem d9_1 : decode jdk_68_method_2_code 1 = .ok (.invokespecial 3, 3) := by decide +kernel
theorem d9_4 : decode jdk_68_method_2_code 4 = .ok (.getstatic 18, 3) := by decide +kernel
theorem d9_7 : decode jdk_68_method_2_code 7 = .ok (.ifCond .eq 18, 3) := by decide +kernel
theorem d9_10 : decode jdk_68_method_2_code 10 = .ok (.aload_n 0, 1) := by decide +kernel
theorem d9_11 : decode jdk_68_method_2_code 11 = .ok (.iload_n 1, 1) := by decide +kernel
theorem d9_12 : decode jdk_68_method_2_code 12 = .ok (.newarray .byte, 2) := by decide +kernel
theorem d9_14 : decode jdk_68_method_2_code 14 = .ok (.putfield 15, 3) := by decide +kernel
theorem d9_17 : decode jdk_68_method_2_code 17 = .ok (.aload_n 0, 1) := by decide +kernel
theorem d9_18 : decode jdk_68_method_2_code 18 = .ok (.iconst 0, 1) := by decide +kernel
theorem d9_19 : decode jdk_68_method_2_code 19 = .ok (.putfield 22, 3) := by decide +kernel
theorem d9_22 : decode jdk_68_method_2_code 22 = .ok (.goto 16, 3) := by decide +kernel
theorem d9_38 : decode jdk_68_method_2_code 38 = .ok (.return_, 1) := by decide +kernel
theorem pn_AbstractStringBuilder : plainName "java/lang/AbstractStringBuilder" = true := by first | (simp [plainName, overriddenIn]; done) | decide +kernel
theorem ef_rmAin (m : MethodId) (x0 : Nat) (x1 : Int32)  : entryFrame m #[(.ref x0), (.int x1)] 2 = mkF m 0 #[.val (.ref x0), .val (.int x1)] [] := by first | (simp [entryFrame, mkF, argsToLocals, Value.category, maxLocals]; done) | rfl
def Q_rmAin (Z : State) (sb : Nat) (cz : Int32) (h0 : Heap) (n0 : Nat) (vv : Option Value) (h : Heap) (L : List Loc) : Prop := ∃ vb : Nat, vv = none ∧ Fr n0 L ∧ Keep h0 h [sb] ∧ h0.size ≤ vb ∧ Exa Z h sb "java/lang/StringBuilder" ∧ Fld Z h sb "java/lang/AbstractStringBuilder" "value" "[B" (.ref vb) ∧ Fld Z h sb "java/lang/AbstractStringBuilder" "coder" "B" (.int 0) ∧ Fld Z h sb "java/lang/AbstractStringBuilder" "count" "I" (.int 0) ∧ oAI Z h vb .byte 16 (fun _ => 0)
set_option maxRecDepth 65536 in
set_option maxHeartbeats 40000000 in
theorem rmAin (l : Launch) (Z : State) (a0 : Array Value) (hw : ∀ d ∈ tables_1, d.before a0 Z = true) (ws : List Jvm.Cond) (sb : Nat) (cz : Int32) (h0 : Heap) (n0 : Nat) (Z0 : n0 ≤ h0.size) (O0 : oOld Z n0 h0) (SCS : Sta Z Z.heap "java/lang/String" "COMPACT_STRINGS" "Z" (.int cz)) (hcz : ¬ cz = (0 : Int32)) (E0 : Exa Z h0 sb "java/lang/StringBuilder") (B0 : Fld Z h0 sb "java/lang/AbstractStringBuilder" "value" "[B" .null) (B1 : Fld Z h0 sb "java/lang/AbstractStringBuilder" "coder" "B" (.int 0)) (B2 : Fld Z h0 sb "java/lang/AbstractStringBuilder" "count" "I" (.int 0)) (gs : n0 ≤ sb) :
    MetFree l (⟨"java/lang/AbstractStringBuilder", "<init>", "(I)V"⟩ : MethodName) (head1 (Jvm.Cond.code (⟨"java/lang/AbstractStringBuilder", "<init>", "(I)V"⟩ : MethodName) jdk_68_method_2_code 2 (none : Option FieldType) :: ws) ({ frames := 1, cells := 1, slots := 16, locals := 12 } : Room)) (fun aA uU => aA = #[(.ref sb), (.int (16 : Int32))] ∧ Z.Warmed39 uU.vm ∧ uU.heap = h0) (fun _ _ _ _ _ => True) (fun _ uU oO uU' => ∃ vV lL, oO = .returned vV ∧ Q_rmAin Z sb cz h0 n0 vV uU'.heap lL ∧ FrameEnd uU oO uU' lL ({ frames := 1, cells := 1, slots := 16, locals := 12 } : Room).cells ({ frames := 1, cells := 1, slots := 16, locals := 12 } : Room).slots) := by
  refine MetFree.of_bodySF (plainFor_of_name pn_AbstractStringBuilder) hisR ?_
  intro p e s m args below meth c s₁ Bd hml0 hP hK
  obtain ⟨rfl, hZ, hh⟩ := hP
  have hx := Bd.exec
  have hby := Bd.bytes
  have hml : c.maxLocals = 2 := hml0
  have hown : s.vm.findClass "java/lang/AbstractStringBuilder" = some m.cls := findClass_of_methodNamed Bd.named
  have hnm := (name_of_methodNamed Bd.named Bd.method).1
  have X0 : Stand p l e ({ frames := 1, cells := 1, slots := 16, locals := 12 } : Room) s m #[(.ref sb), (.int (16 : Int32))] below meth c s₁ [] 0 0 := Stand.of_body Bd
  have e0 : s₁.heap = h0 := by rw [← hh, Bd.state]; rfl
  have N0 := Fr.nil n0
  have lS : @LT.lt Nat _ sb h0.size := E0.lt
  refine oEnter (oCast (ef_rmAin m sb (16 : Int32) ) ?_)
  show oGl p e below (s₁.setTop (mkF m 0 #[.val (.ref sb), .val (.int (16 : Int32))] [])) _
  refine saloadN X0 hx (hb hby d9_0) rfl rfl rfl (pc' := 1) ?_
  obtain ⟨T1, X1, e1, st1⟩ := initO X0 hx hZ hown (hw _ (List.mem_of_getElem? (i := 62) rfl)) (hw _ (List.mem_of_getElem? (i := 29) rfl)) (hw _ (List.mem_of_getElem? (i := 30) rfl)) e0 (g := (mkF m 1 #[.val (.ref sb), .val (.int (16 : Int32))] [(.ref sb)])) rfl (by rw [hml]; rfl) rfl (hb hby d9_1) (by decide) (W := 0) (by show 2 * 0 + _ ≤ _; exact Nat.le_of_eq rfl) (by decide)
  refine oOn st1 ?_
  show oGl p e below (T1.setTop (mkF m 4 #[.val (.ref sb), .val (.int (16 : Int32))] [])) _
  obtain ⟨T2, X2, e2, st2⟩ := getS2 X1 hx hZ hown (host := "") (Or.inl (hw _ (List.mem_of_getElem? (i := 63) rfl))) Via.refl e1 (SCS.ext O0.2) (g := (mkF m 4 #[.val (.ref sb), .val (.int (16 : Int32))] [])) rfl (hb hby d9_4)
  refine oOn st2 ?_
  show oGl p e below (T2.setTop (mkF m 7 #[.val (.ref sb), .val (.int (16 : Int32))] [(.int cz)])) _
  refine sifN X2 hx (hb hby d9_7) rfl (feq (hcz : ¬ (cz = (0 : Int32)))).1 (pc' := 10) ?_
  refine saloadN X2 hx (hb hby d9_10) rfl rfl rfl (pc' := 11) ?_
  refine siloadN X2 hx (hb hby d9_11) rfl rfl (pc' := 12) ?_
  obtain ⟨T3, h3, k3, X3, e3, E3, A3, st3⟩ := newP X2 hx hZ (hw _ (List.mem_of_getElem? (i := 7) rfl)) e2 (g := (mkF m 12 #[.val (.ref sb), .val (.int (16 : Int32))] [(.int (16 : Int32)), (.ref sb)])) rfl (hb hby d9_12) rfl (by decide) (cap := 16) (by decide) (by decide) (by decide) (by decide)
  obtain ⟨a3, g3⟩ : ∃ z, z = h0.size := ⟨_, rfl⟩
  rw [← g3] at A3 st3
  refine oOn st3 ?_
  have z4 : h0.size ≤ h3.size := E3.1
  have lt3 : a3 < h3.size := A3.lt
  have V3 : oAI Z h3 a3 .byte 16 (fun _ => 0) := oAI.new A3 rfl
  show oGl p e below (T3.setTop (mkF m 14 #[.val (.ref sb), .val (.int (16 : Int32))] [(.ref a3), (.ref sb)])) _
  have f6 := (B0.ext E3)
  have f7 := (E0.ext E3)
  obtain ⟨T5, h5, X5, e5, W5, st5⟩ := putF X3 hx hZ hown (host := "") (Or.inl (hw _ (List.mem_of_getElem? (i := 64) rfl))) Via.refl e3 f6 f7 (Or.inl (hw _ (List.mem_of_getElem? (i := 65) rfl))) (hw _ (List.mem_of_getElem? (i := 51) rfl)) (ty := (.array .byte)) (by decide) rfl rfl (g := (mkF m 14 #[.val (.ref sb), .val (.int (16 : Int32))] [(.ref a3), (.ref sb)])) rfl rfl (hb hby d9_14)
  refine oOn st5 ?_
  have z8 : h3.size ≤ h5.size := Nat.le_of_eq W5.size.symm
  have N5 := Fr.snoc X5 N0 (by omega)
  have f5 := Fld.same W5 f6
  show oGl p e below (T5.setTop (mkF m 17 #[.val (.ref sb), .val (.int (16 : Int32))] [])) _
  refine saloadN X5 hx (hb hby d9_17) rfl rfl rfl (pc' := 18) ?_
  refine siconst X5 hx (hb hby d9_18) rfl rfl (z := 0) (pc' := 19) ?_
  have f10 := ((B1.ext E3).other W5 (Or.inr (slot_ne (Or.inl (hw _ (List.mem_of_getElem? (i := 67) rfl))) (Or.inl (hw _ (List.mem_of_getElem? (i := 65) rfl))) (by decide) (t := .byte) (t' := (.array .byte)) (by decide) (by decide))))
  have f11 := (f7.wr W5)
  obtain ⟨T9, h9, X9, e9, W9, st9⟩ := putFN X5 hx hZ hown (hw _ (List.mem_of_getElem? (i := 66) rfl)) Via.refl e5 f10 f11 (Or.inl (hw _ (List.mem_of_getElem? (i := 67) rfl))) (hw _ (List.mem_of_getElem? (i := 51) rfl)) (ty := .byte) (v' := (.int (0 : Int32))) (by decide) rfl rfl (g := (mkF m 19 #[.val (.ref sb), .val (.int (16 : Int32))] [(.int (0 : Int32)), (.ref sb)])) rfl rfl (hb hby d9_19)
  refine oOn st9 ?_
  have z12 : h5.size ≤ h9.size := Nat.le_of_eq W9.size.symm
  have N9 := Fr.snoc X9 N5 (by omega)
  have f9 := Fld.same W9 f10
  show oGl p e below (T9.setTop (mkF m 22 #[.val (.ref sb), .val (.int (16 : Int32))] [])) _
  refine sgoto X9 hx (hb hby d9_22) (by decide) (by decide)  (pc' := 38) ?_
  have kp13 : Keep h0 h9 [sb] := ((((Keep.refl h0 [sb]).ext E3).wr W5 (Or.inl (List.mem_of_getElem? (i := 0) rfl))).wr W9 (Or.inl (List.mem_of_getElem? (i := 0) rfl)))
  have f14 := (f11.wr W9)
  have f15 := (f5.other W9 (Or.inr (slot_ne (Or.inl (hw _ (List.mem_of_getElem? (i := 65) rfl))) (Or.inl (hw _ (List.mem_of_getElem? (i := 67) rfl))) (by decide) (t := (.array .byte)) (t' := .byte) (by decide) (by decide))))
  have f16 := (((B2.ext E3).other W5 (Or.inr (slot_ne (Or.inl (hw _ (List.mem_of_getElem? (i := 93) rfl))) (Or.inl (hw _ (List.mem_of_getElem? (i := 65) rfl))) (by decide) (t := .int) (t' := (.array .byte)) (by decide) (by decide)))).other W9 (Or.inr (slot_ne (Or.inl (hw _ (List.mem_of_getElem? (i := 93) rfl))) (Or.inl (hw _ (List.mem_of_getElem? (i := 67) rfl))) (by decide) (t := .int) (t' := .byte) (by decide) (by decide))))
  have f17 := ((V3.other W5 (oNe (by omega))).other W9 (oNe (by omega)))
  refine oRet0 X9 hx Bd.notSynchronized Bd.returns (hb hby d9_38) (by decide) (by decide) ?_
  show Q_rmAin Z sb cz h0 n0 _ T9.heap _
  rw [e9]
  exact ⟨a3, rfl, N9, kp13, by omega, f14, f15, f9, f16, f17⟩
theorem d8_0 : decode jdk_67_method_1_code 0 = .ok (.aload_n 0, 1) := by decide +kernel
theorem d8_1 : decode jdk_67_method_1_code 1 = .ok (.bipush 16, 2) := by decide +kernel
theorem d8_3 : decode jdk_67_method_1_code 3 = .ok (.invokespecial 1, 3) := by decide +kernel
theorem pd_0 : parseMethodDescriptor "(I)V" = some ⟨[.int], none⟩ := by decide +kernel
theorem d8_6 : decode jdk_67_method_1_code 6 = .ok (.return_, 1) := by decide +kernel
theorem pn_StringBuilder : plainName "java/lang/StringBuilder" = true := by first | (simp [plainName, overriddenIn]; done) | decide +kernel
theorem ef_rmBin (m : MethodId) (x0 : Nat)  : entryFrame m #[(.ref x0)] 1 = mkF m 0 #[.val (.ref x0)] [] := by first | (simp [entryFrame, mkF, argsToLocals, Value.category, maxLocals]; done) | rfl
def Q_rmBin (Z : State) (sb : Nat) (cz : Int32) (h0 : Heap) (n0 : Nat) (vv : Option Value) (h : Heap) (L : List Loc) : Prop := ∃ vb : Nat, vv = none ∧ Fr n0 L ∧ Keep h0 h [sb] ∧ h0.size ≤ vb ∧ Exa Z h sb "java/lang/StringBuilder" ∧ Fld Z h sb "java/lang/AbstractStringBuilder" "value" "[B" (.ref vb) ∧ Fld Z h sb "java/lang/AbstractStringBuilder" "coder" "B" (.int 0) ∧ Fld Z h sb "java/lang/AbstractStringBuilder" "count" "I" (.int 0) ∧ oAI Z h vb .byte 16 (fun _ => 0)
set_option maxRecDepth 65536 in
set_option maxHeartbeats 40000000 in
theorem rmBin (l : Launch) (Z : State) (a0 : Array Value) (hw : ∀ d ∈ tables_1, d.before a0 Z = true) (ws : List Jvm.Cond) (sb : Nat) (cz : Int32) (h0 : Heap) (n0 : Nat) (Z0 : n0 ≤ h0.size) (O0 : oOld Z n0 h0) (SCS : Sta Z Z.heap "java/lang/String" "COMPACT_STRINGS" "Z" (.int cz)) (hcz : ¬ cz = (0 : Int32)) (E0 : Exa Z h0 sb "java/lang/StringBuilder") (B0 : Fld Z h0 sb "java/lang/AbstractStringBuilder" "value" "[B" .null) (B1 : Fld Z h0 sb "java/lang/AbstractStringBuilder" "coder" "B" (.int 0)) (B2 : Fld Z h0 sb "java/lang/AbstractStringBuilder" "count" "I" (.int 0)) (gs : n0 ≤ sb) :
    MetFree l (⟨"java/lang/StringBuilder", "<init>", "()V"⟩ : MethodName) (head1 (Jvm.Cond.code (⟨"java/lang/StringBuilder", "<init>", "()V"⟩ : MethodName) jdk_67_method_1_code 1 (none : Option FieldType) :: ws) ({ frames := 2, cells := 1, slots := 16, locals := 25 } : Room)) (fun aA uU => aA = #[(.ref sb)] ∧ Z.Warmed39 uU.vm ∧ uU.heap = h0) (fun _ _ _ _ _ => True) (fun _ uU oO uU' => ∃ vV lL, oO = .returned vV ∧ Q_rmBin Z sb cz h0 n0 vV uU'.heap lL ∧ FrameEnd uU oO uU' lL ({ frames := 2, cells := 1, slots := 16, locals := 25 } : Room).cells ({ frames := 2, cells := 1, slots := 16, locals := 25 } : Room).slots) := by
  refine MetFree.of_bodySF (plainFor_of_name pn_StringBuilder) hisR ?_
  intro p e s m args below meth c s₁ Bd hml0 hP hK
  obtain ⟨rfl, hZ, hh⟩ := hP
  have hx := Bd.exec
  have hby := Bd.bytes
  have hml : c.maxLocals = 1 := hml0
  have hown : s.vm.findClass "java/lang/StringBuilder" = some m.cls := findClass_of_methodNamed Bd.named
  have hnm := (name_of_methodNamed Bd.named Bd.method).1
  have X0 : Stand p l e ({ frames := 2, cells := 1, slots := 16, locals := 25 } : Room) s m #[(.ref sb)] below meth c s₁ [] 0 0 := Stand.of_body Bd
  have e0 : s₁.heap = h0 := by rw [← hh, Bd.state]; rfl
  have N0 := Fr.nil n0
  have lS : @LT.lt Nat _ sb h0.size := E0.lt
  refine oEnter (oCast (ef_rmBin m sb ) ?_)
  show oGl p e below (s₁.setTop (mkF m 0 #[.val (.ref sb)] [])) _
  refine saloadN X0 hx (hb hby d8_0) rfl rfl rfl (pc' := 1) ?_
  refine sbipush X0 hx (hb hby d8_1) rfl rfl (z := 16) (pc' := 3) ?_
  have hz1 : n0 ≤ h0.size := by omega
  obtain ⟨_, _, ⟨T1, L1, k1, n1⟩, -, X1, ⟨Lc1, hQ1, l1, y1, z1⟩, st1⟩ := X0.specialBack hx (y := (⟨"java/lang/AbstractStringBuilder", "<init>", "(I)V"⟩ : MethodName)) rfl hown (mvT hZ (hw _ (List.mem_of_getElem? (i := 56) rfl))) (mvT hZ (hw _ (List.mem_of_getElem? (i := 57) rfl))) (mvT hZ (hw _ (List.mem_of_getElem? (i := 61) rfl))) (by decide) (backOf (W := 0) (rmAin l Z a0 hw [] sb cz h0 n0 hz1 O0 SCS hcz E0 B0 B1 B2 gs) hZ (hw _ (List.mem_of_getElem? (i := 61) rfl)) (hw _ (List.mem_of_getElem? (i := 60) rfl)) (by decide) (by decide)) (g := (mkF m 3 #[.val (.ref sb)] [(.int (16 : Int32)), (.ref sb)])) rfl (by rw [hml]; rfl) (Steps.refl _) (a := sb) (argsL := [(.int (16 : Int32))]) (rest := []) (lenOf pd_0 rfl) rfl (by show 2 * 0 + _ ≤ _; exact Nat.le_of_eq rfl) (hb hby d8_3) (fun _ _ => ⟨rfl, e0, (by decide : 0 + 1 ≤ _), (by decide : 0 + 16 ≤ _)⟩)
  dsimp only [Pt.U, Pt.locs, Pt.cells, Pt.slots] at X1 l1 y1 z1 st1 hQ1
  subst l1 y1 z1
  obtain ⟨vb1, rfl, N1q, K1, zv1, Eb1, Ba1, Bb1, Bc1, Vb1⟩ := hQ1
  have N1 := Fr.app N0 N1q
  have z2 : h0.size ≤ T1.heap.size := K1.1
  refine oSt st1 ?_
  show oGl p e below (T1.setTop (mkF m 6 #[.val (.ref sb)] [])) _
  have kp3 : Keep h0 T1.heap [sb] := ((Keep.refl h0 [sb]).trans K1 (allS (Or.inl (List.mem_of_getElem? (i := 0) rfl)) all0))
  refine oRet0 X1 hx Bd.notSynchronized Bd.returns (hb hby d8_6) (by decide) (by decide) ?_
  show Q_rmBin Z sb cz h0 n0 _ T1.heap _
  exact ⟨vb1, rfl, N1, kp3, by omega, Eb1, Ba1, Bb1, Bc1, Vb1⟩
theorem d13_0 : decode jdk_42_method_152_code 0 = .ok (.getstatic 38, 3) := by decide +kernel
theorem d13_3 : decode jdk_42_method_152_code 3 = .ok (.ifCond .eq 10, 3) := by decide +kernel
theorem d13_6 : decode jdk_42_method_152_code 6 = .ok (.aload_n 0, 1) := by decide +kernel
theorem d13_7 : decode jdk_42_method_152_code 7 = .ok (.getfield 15, 3) := by decide +kernel
theorem d13_10 : decode jdk_42_method_152_code 10 = .ok (.goto 4, 3) := by decide +kernel
theorem d13_14 : decode jdk_42_method_152_code 14 = .ok (.ireturn, 1) := by decide +kernel
theorem pn_String : plainName "java/lang/String" = true := by first | (simp [plainName, overriddenIn]; done) | decide +kernel
theorem ef_rmCdr (m : MethodId) (x0 : Nat)  : entryFrame m #[(.ref x0)] 1 = mkF m 0 #[.val (.ref x0)] [] := by first | (simp [entryFrame, mkF, argsToLocals, Value.category, maxLocals]; done) | rfl
def Q_rmCdr (Z : State) (x : Nat) (cz : Int32) (h0 : Heap) (n0 : Nat) (vv : Option Value) (h : Heap) (L : List Loc) : Prop := vv = some (.int 0) ∧ Fr n0 L ∧ h = h0
set_option maxRecDepth 65536 in
set_option maxHeartbeats 40000000 in
theorem rmCdr (l : Launch) (Z : State) (a0 : Array Value) (hw : ∀ d ∈ tables_1, d.before a0 Z = true) (ws : List Jvm.Cond) (x : Nat) (cz : Int32) (h0 : Heap) (n0 : Nat) (Z0 : n0 ≤ h0.size) (O0 : oOld Z n0 h0) (SCS : Sta Z Z.heap "java/lang/String" "COMPACT_STRINGS" "Z" (.int cz)) (hcz : ¬ cz = (0 : Int32)) (C1 : Fld Z h0 x "java/lang/String" "coder" "B" (.int 0)) :
    MetFree l (⟨"java/lang/String", "coder", "()B"⟩ : MethodName) (head1 (Jvm.Cond.code (⟨"java/lang/String", "coder", "()B"⟩ : MethodName) jdk_42_method_152_code 1 (some .byte) :: ws) ({ frames := 0, cells := 0, slots := 0, locals := 0 } : Room)) (fun aA uU => aA = #[(.ref x)] ∧ Z.Warmed39 uU.vm ∧ uU.heap = h0) (fun _ _ _ _ _ => True) (fun _ uU oO uU' => ∃ vV lL, oO = .returned vV ∧ Q_rmCdr Z x cz h0 n0 vV uU'.heap lL ∧ FrameEnd uU oO uU' lL ({ frames := 0, cells := 0, slots := 0, locals := 0 } : Room).cells ({ frames := 0, cells := 0, slots := 0, locals := 0 } : Room).slots) := by
  refine MetFree.of_bodySF (plainFor_of_name pn_String) hisR ?_
  intro p e s m args below meth c s₁ Bd hml0 hP hK
  obtain ⟨rfl, hZ, hh⟩ := hP
  have hx := Bd.exec
  have hby := Bd.bytes
  have hml : c.maxLocals = 1 := hml0
  have hown : s.vm.findClass "java/lang/String" = some m.cls := findClass_of_methodNamed Bd.named
  have hnm := (name_of_methodNamed Bd.named Bd.method).1
  have X0 : Stand p l e ({ frames := 0, cells := 0, slots := 0, locals := 0 } : Room) s m #[(.ref x)] below meth c s₁ [] 0 0 := Stand.of_body Bd
  have e0 : s₁.heap = h0 := by rw [← hh, Bd.state]; rfl
  have N0 := Fr.nil n0
  refine oEnter (oCast (ef_rmCdr m x ) ?_)
  show oGl p e below (s₁.setTop (mkF m 0 #[.val (.ref x)] [])) _
  obtain ⟨T1, X1, e1, st1⟩ := getS2 X0 hx hZ hown (host := "") (Or.inl (hw _ (List.mem_of_getElem? (i := 90) rfl))) Via.refl e0 (SCS.ext O0.2) (g := (mkF m 0 #[.val (.ref x)] [])) rfl (hb hby d13_0)
  refine oOn st1 ?_
  show oGl p e below (T1.setTop (mkF m 3 #[.val (.ref x)] [(.int cz)])) _
  refine sifN X1 hx (hb hby d13_3) rfl (feq (hcz : ¬ (cz = (0 : Int32)))).1 (pc' := 6) ?_
  refine saloadN X1 hx (hb hby d13_6) rfl rfl rfl (pc' := 7) ?_
  obtain ⟨T2, X2, e2, st2⟩ := getF X1 hx hZ hown (host := "") (Or.inl (hw _ (List.mem_of_getElem? (i := 91) rfl))) Via.refl e1 C1 (g := (mkF m 7 #[.val (.ref x)] [(.ref x)])) rfl rfl (hb hby d13_7)
  refine oOn st2 ?_
  show oGl p e below (T2.setTop (mkF m 10 #[.val (.ref x)] [(.int (0 : Int32))])) _
  refine sgoto X2 hx (hb hby d13_10) (by decide) (by decide)  (pc' := 14) ?_
  refine oRetN (t := .byte) X2 hx Bd.notSynchronized Bd.returns (by simp) (hb hby d13_14) (by decide) (by decide) ?_
  show Q_rmCdr Z x cz h0 n0 _ T2.heap _
  rw [e2]
  exact ⟨rfl, N0, rfl⟩
theorem d12_0 : decode jdk_42_method_54_code 0 = .ok (.aload_n 0, 1) := by decide +kernel
theorem d12_1 : decode jdk_42_method_54_code 1 = .ok (.getfield 9, 3) := by decide +kernel
theorem d12_4 : decode jdk_42_method_54_code 4 = .ok (.arraylength, 1) := by decide +kernel
theorem d12_5 : decode jdk_42_method_54_code 5 = .ok (.aload_n 0, 1) := by decide +kernel
theorem d12_6 : decode jdk_42_method_54_code 6 = .ok (.invokevirtual 335, 3) := by decide +kernel
theorem pd_1 : parseMethodDescriptor "()B" = some ⟨[], some .byte⟩ := by decide +kernel
theorem d12_9 : decode jdk_42_method_54_code 9 = .ok (.ishr, 1) := by decide +kernel
theorem d12_10 : decode jdk_42_method_54_code 10 = .ok (.ireturn, 1) := by decide +kernel
theorem ef_rmLen0_3 (m : MethodId) (x0 : Nat)  : entryFrame m #[(.ref x0)] 1 = mkF m 0 #[.val (.ref x0)] [] := by first | (simp [entryFrame, mkF, argsToLocals, Value.category, maxLocals]; done) | rfl
def Q_rmLen0_3 (Z : State) (x b : Nat) (f : Nat → Int32) (cz : Int32) (h0 : Heap) (n0 : Nat) (vv : Option Value) (h : Heap) (L : List Loc) : Prop := vv = some (.int 3) ∧ Fr n0 L ∧ h = h0
set_option maxRecDepth 65536 in
set_option maxHeartbeats 40000000 in
theorem rmLen0_3 (l : Launch) (Z : State) (a0 : Array Value) (hw : ∀ d ∈ tables_1, d.before a0 Z = true) (ws : List Jvm.Cond) (x b : Nat) (f : Nat → Int32) (cz : Int32) (h0 : Heap) (n0 : Nat) (Z0 : n0 ≤ h0.size) (O0 : oOld Z n0 h0) (SCS : Sta Z Z.heap "java/lang/String" "COMPACT_STRINGS" "Z" (.int cz)) (hcz : ¬ cz = (0 : Int32)) (E1 : Exa Z h0 x "java/lang/String") (F1 : Fld Z h0 x "java/lang/String" "value" "[B" (.ref b)) (C1 : Fld Z h0 x "java/lang/String" "coder" "B" (.int 0)) (PB : oAI Z h0 b .byte 3 f) :
    MetFree l (⟨"java/lang/String", "length", "()I"⟩ : MethodName) (head1 (Jvm.Cond.code (⟨"java/lang/String", "length", "()I"⟩ : MethodName) jdk_42_method_54_code 1 (some .int) :: ws) ({ frames := 1, cells := 0, slots := 0, locals := 13 } : Room)) (fun aA uU => aA = #[(.ref x)] ∧ Z.Warmed39 uU.vm ∧ uU.heap = h0) (fun _ _ _ _ _ => True) (fun _ uU oO uU' => ∃ vV lL, oO = .returned vV ∧ Q_rmLen0_3 Z x b f cz h0 n0 vV uU'.heap lL ∧ FrameEnd uU oO uU' lL ({ frames := 1, cells := 0, slots := 0, locals := 13 } : Room).cells ({ frames := 1, cells := 0, slots := 0, locals := 13 } : Room).slots) := by
  refine MetFree.of_bodySF (plainFor_of_name pn_String) hisR ?_
  intro p e s m args below meth c s₁ Bd hml0 hP hK
  obtain ⟨rfl, hZ, hh⟩ := hP
  have hx := Bd.exec
  have hby := Bd.bytes
  have hml : c.maxLocals = 1 := hml0
  have hown : s.vm.findClass "java/lang/String" = some m.cls := findClass_of_methodNamed Bd.named
  have hnm := (name_of_methodNamed Bd.named Bd.method).1
  have X0 : Stand p l e ({ frames := 1, cells := 0, slots := 0, locals := 13 } : Room) s m #[(.ref x)] below meth c s₁ [] 0 0 := Stand.of_body Bd
  have e0 : s₁.heap = h0 := by rw [← hh, Bd.state]; rfl
  have N0 := Fr.nil n0
  refine oEnter (oCast (ef_rmLen0_3 m x ) ?_)
  show oGl p e below (s₁.setTop (mkF m 0 #[.val (.ref x)] [])) _
  refine saloadN X0 hx (hb hby d12_0) rfl rfl rfl (pc' := 1) ?_
  obtain ⟨T1, X1, e1, st1⟩ := getF X0 hx hZ hown (host := "") (Or.inl (hw _ (List.mem_of_getElem? (i := 84) rfl))) Via.refl e0 F1 (g := (mkF m 1 #[.val (.ref x)] [(.ref x)])) rfl rfl (hb hby d12_1)
  refine oOn st1 ?_
  show oGl p e below (T1.setTop (mkF m 4 #[.val (.ref x)] [(.ref b)])) _
  refine oOn (PB.len X1 hx hZ e1 (g := (mkF m 4 #[.val (.ref x)] [(.ref b)])) rfl rfl (hb hby d12_4)) ?_
  show oGl p e below (T1.setTop (mkF m 5 #[.val (.ref x)] [(.int (3 : Int32))])) _
  refine saloadN X1 hx (hb hby d12_5) rfl rfl rfl (pc' := 6) ?_
  have hz2 : n0 ≤ h0.size := by omega
  obtain ⟨cq2, kq2, q2a, q2b, q2c⟩ := isOf hZ e1 E1
  obtain ⟨_, _, ⟨T2, L2, k2, n2⟩, -, X2, ⟨Lc2, hQ2, l2, y2, z2⟩, st2⟩ := X1.virtualBack hx (y := (⟨"java/lang/String", "coder", "()B"⟩ : MethodName)) (z := (⟨"java/lang/String", "coder", "()B"⟩ : MethodName)) hown (mvT hZ (hw _ (List.mem_of_getElem? (i := 85) rfl))) (mvT hZ (hw _ (List.mem_of_getElem? (i := 86) rfl))) (notFace_of_selects (args := #[]) (mvT hZ (hw _ (List.mem_of_getElem? (i := 88) rfl)))) (mvT hZ (hw _ (List.mem_of_getElem? (i := 88) rfl))) (mvT hZ (hw _ (List.mem_of_getElem? (i := 87) rfl))) (by decide) (backOf (W := 1) (rmCdr l Z a0 hw [] x cz h0 n0 hz2 O0 SCS hcz C1) hZ (hw _ (List.mem_of_getElem? (i := 89) rfl)) (hw _ (List.mem_of_getElem? (i := 5) rfl)) (by decide) (by decide)) q2a q2c (g := (mkF m 6 #[.val (.ref x)] [(.ref x), (.int (3 : Int32))])) rfl (by rw [hml]; rfl) (Steps.refl _) (argsL := []) (rest := [(.int (3 : Int32))]) (lenOf pd_1 rfl) rfl (by show 2 * 0 + _ ≤ _; exact Nat.le_of_eq rfl) (hb hby d12_6) (fun _ _ => ⟨rfl, e1, (by decide : 0 + 0 ≤ _), (by decide : 0 + 0 ≤ _)⟩)
  dsimp only [Pt.U, Pt.locs, Pt.cells, Pt.slots] at X2 l2 y2 z2 st2 hQ2
  subst l2 y2 z2
  obtain ⟨rfl, N2q, eh2⟩ := hQ2
  have N2 := Fr.app N0 N2q
  refine oSt st2 ?_
  show oGl p e below (T2.setTop (mkF m 9 #[.val (.ref x)] [(.int (0 : Int32)), (.int (3 : Int32))])) _
  refine sishr X2 hx (hb hby d12_9) rfl (by decide) (z := (3 : Int32)) (pc' := 10) ?_
  refine oRetI X2 hx Bd.notSynchronized Bd.returns (hb hby d12_10) (by decide) (by decide) ?_
  show Q_rmLen0_3 Z x b f cz h0 n0 _ T2.heap _
  rw [eh2]
  exact ⟨rfl, N2, rfl⟩
theorem d14_0 : decode jdk_68_method_9_code 0 = .ok (.aload_n 0, 1) := by decide +kernel
theorem d14_1 : decode jdk_68_method_9_code 1 = .ok (.getfield 15, 3) := by decide +kernel
theorem d14_4 : decode jdk_68_method_9_code 4 = .ok (.arraylength, 1) := by decide +kernel
theorem d14_5 : decode jdk_68_method_9_code 5 = .ok (.aload_n 0, 1) := by decide +kernel
theorem d14_6 : decode jdk_68_method_9_code 6 = .ok (.getfield 22, 3) := by decide +kernel
theorem d14_9 : decode jdk_68_method_9_code 9 = .ok (.ishr, 1) := by decide +kernel
theorem d14_10 : decode jdk_68_method_9_code 10 = .ok (.istore_n 2, 1) := by decide +kernel
theorem d14_11 : decode jdk_68_method_9_code 11 = .ok (.iload_n 1, 1) := by decide +kernel
theorem d14_12 : decode jdk_68_method_9_code 12 = .ok (.iload_n 2, 1) := by decide +kernel
theorem d14_13 : decode jdk_68_method_9_code 13 = .ok (.isub, 1) := by decide +kernel
theorem d14_14 : decode jdk_68_method_9_code 14 = .ok (.ifCond .le 24, 3) := by decide +kernel
theorem d14_38 : decode jdk_68_method_9_code 38 = .ok (.return_, 1) := by decide +kernel
theorem ef_rmEns0_3 (m : MethodId) (x0 : Nat) (x1 : Int32)  : entryFrame m #[(.ref x0), (.int x1)] 3 = mkF m 0 #[.val (.ref x0), .val (.int x1), .unset] [] := by first | (simp [entryFrame, mkF, argsToLocals, Value.category, maxLocals]; done) | rfl
def Q_rmEns0_3 (Z : State) (sb vb : Nat) (g : Nat → Int32) (h0 : Heap) (n0 : Nat) (vv : Option Value) (h : Heap) (L : List Loc) : Prop := vv = none ∧ Fr n0 L ∧ h = h0
set_option maxRecDepth 65536 in
set_option maxHeartbeats 40000000 in
theorem rmEns0_3 (l : Launch) (Z : State) (a0 : Array Value) (hw : ∀ d ∈ tables_1, d.before a0 Z = true) (ws : List Jvm.Cond) (sb vb : Nat) (g : Nat → Int32) (h0 : Heap) (n0 : Nat) (Z0 : n0 ≤ h0.size) (E0 : Exa Z h0 sb "java/lang/StringBuilder") (B0 : Fld Z h0 sb "java/lang/AbstractStringBuilder" "value" "[B" (.ref vb)) (B1 : Fld Z h0 sb "java/lang/AbstractStringBuilder" "coder" "B" (.int 0)) (B2 : Fld Z h0 sb "java/lang/AbstractStringBuilder" "count" "I" (.int 0)) (PV : oAI Z h0 vb .byte 16 g) :
    MetFree l (⟨"java/lang/AbstractStringBuilder", "ensureCapacityInternal", "(I)V"⟩ : MethodName) (head1 (Jvm.Cond.code (⟨"java/lang/AbstractStringBuilder", "ensureCapacityInternal", "(I)V"⟩ : MethodName) jdk_68_method_9_code 3 (none : Option FieldType) :: ws) ({ frames := 0, cells := 0, slots := 0, locals := 0 } : Room)) (fun aA uU => aA = #[(.ref sb), (.int (3 : Int32))] ∧ Z.Warmed39 uU.vm ∧ uU.heap = h0) (fun _ _ _ _ _ => True) (fun _ uU oO uU' => ∃ vV lL, oO = .returned vV ∧ Q_rmEns0_3 Z sb vb g h0 n0 vV uU'.heap lL ∧ FrameEnd uU oO uU' lL ({ frames := 0, cells := 0, slots := 0, locals := 0 } : Room).cells ({ frames := 0, cells := 0, slots := 0, locals := 0 } : Room).slots) := by
  refine MetFree.of_bodySF (plainFor_of_name pn_AbstractStringBuilder) hisR ?_
  intro p e s m args below meth c s₁ Bd hml0 hP hK
  obtain ⟨rfl, hZ, hh⟩ := hP
  have hx := Bd.exec
  have hby := Bd.bytes
  have hml : c.maxLocals = 3 := hml0
  have hown : s.vm.findClass "java/lang/AbstractStringBuilder" = some m.cls := findClass_of_methodNamed Bd.named
  have hnm := (name_of_methodNamed Bd.named Bd.method).1
  have X0 : Stand p l e ({ frames := 0, cells := 0, slots := 0, locals := 0 } : Room) s m #[(.ref sb), (.int (3 : Int32))] below meth c s₁ [] 0 0 := Stand.of_body Bd
  have e0 : s₁.heap = h0 := by rw [← hh, Bd.state]; rfl
  have N0 := Fr.nil n0
  refine oEnter (oCast (ef_rmEns0_3 m sb (3 : Int32) ) ?_)
  show oGl p e below (s₁.setTop (mkF m 0 #[.val (.ref sb), .val (.int (3 : Int32)), .unset] [])) _
  refine saloadN X0 hx (hb hby d14_0) rfl rfl rfl (pc' := 1) ?_
  obtain ⟨T1, X1, e1, st1⟩ := getF X0 hx hZ hown (host := "") (Or.inl (hw _ (List.mem_of_getElem? (i := 64) rfl))) Via.refl e0 B0 (g := (mkF m 1 #[.val (.ref sb), .val (.int (3 : Int32)), .unset] [(.ref sb)])) rfl rfl (hb hby d14_1)
  refine oOn st1 ?_
  show oGl p e below (T1.setTop (mkF m 4 #[.val (.ref sb), .val (.int (3 : Int32)), .unset] [(.ref vb)])) _
  refine oOn (PV.len X1 hx hZ e1 (g := (mkF m 4 #[.val (.ref sb), .val (.int (3 : Int32)), .unset] [(.ref vb)])) rfl rfl (hb hby d14_4)) ?_
  show oGl p e below (T1.setTop (mkF m 5 #[.val (.ref sb), .val (.int (3 : Int32)), .unset] [(.int (16 : Int32))])) _
  refine saloadN X1 hx (hb hby d14_5) rfl rfl rfl (pc' := 6) ?_
  obtain ⟨T2, X2, e2, st2⟩ := getF X1 hx hZ hown (host := "") (Or.inl (hw _ (List.mem_of_getElem? (i := 66) rfl))) Via.refl e1 B1 (g := (mkF m 6 #[.val (.ref sb), .val (.int (3 : Int32)), .unset] [(.ref sb), (.int (16 : Int32))])) rfl rfl (hb hby d14_6)
  refine oOn st2 ?_
  show oGl p e below (T2.setTop (mkF m 9 #[.val (.ref sb), .val (.int (3 : Int32)), .unset] [(.int (0 : Int32)), (.int (16 : Int32))])) _
  refine sishr X2 hx (hb hby d14_9) rfl (by decide) (z := (16 : Int32)) (pc' := 10) ?_
  refine sistoreN X2 hx (hb hby d14_10) rfl rfl (l' := #[.val (.ref sb), .val (.int (3 : Int32)), .val (.int (16 : Int32))]) (pc' := 11) ?_
  refine siloadN X2 hx (hb hby d14_11) rfl rfl (pc' := 12) ?_
  refine siloadN X2 hx (hb hby d14_12) rfl rfl (pc' := 13) ?_
  refine sisub X2 hx (hb hby d14_13) rfl (by decide) (z := (-13 : Int32)) (pc' := 14) ?_
  refine sifY X2 hx (hb hby d14_14) (by decide) (by decide) (flt (by decide : ¬ ((0 : Int32) < (-13 : Int32)))).2.2.2 (pc' := 38) ?_
  refine oRet0 X2 hx Bd.notSynchronized Bd.returns (hb hby d14_38) (by decide) (by decide) ?_
  show Q_rmEns0_3 Z sb vb g h0 n0 _ T2.heap _
  rw [e2]
  exact ⟨rfl, N0, rfl⟩
theorem d16_0 : decode jdk_68_method_71_code 0 = .ok (.getstatic 18, 3) := by decide +kernel
theorem d16_3 : decode jdk_68_method_71_code 3 = .ok (.ifCond .eq 18, 3) := by decide +kernel
theorem d16_6 : decode jdk_68_method_71_code 6 = .ok (.aload_n 0, 1) := by decide +kernel
theorem d16_7 : decode jdk_68_method_71_code 7 = .ok (.getfield 22, 3) := by decide +kernel
theorem d16_10 : decode jdk_68_method_71_code 10 = .ok (.aload_n 1, 1) := by decide +kernel
theorem d16_11 : decode jdk_68_method_71_code 11 = .ok (.invokevirtual 40, 3) := by decide +kernel
theorem d16_14 : decode jdk_68_method_71_code 14 = .ok (.if_icmp .eq 7, 3) := by decide +kernel
theorem d16_21 : decode jdk_68_method_71_code 21 = .ok (.return_, 1) := by decide +kernel
theorem ef_rmInf0_3 (m : MethodId) (x0 : Nat) (x1 : Nat)  : entryFrame m #[(.ref x0), (.ref x1)] 2 = mkF m 0 #[.val (.ref x0), .val (.ref x1)] [] := by first | (simp [entryFrame, mkF, argsToLocals, Value.category, maxLocals]; done) | rfl
def Q_rmInf0_3 (Z : State) (sb vb x : Nat) (cz : Int32) (h0 : Heap) (n0 : Nat) (vv : Option Value) (h : Heap) (L : List Loc) : Prop := vv = none ∧ Fr n0 L ∧ h = h0
set_option maxRecDepth 65536 in
set_option maxHeartbeats 40000000 in
theorem rmInf0_3 (l : Launch) (Z : State) (a0 : Array Value) (hw : ∀ d ∈ tables_1, d.before a0 Z = true) (ws : List Jvm.Cond) (sb vb x : Nat) (cz : Int32) (h0 : Heap) (n0 : Nat) (Z0 : n0 ≤ h0.size) (O0 : oOld Z n0 h0) (SCS : Sta Z Z.heap "java/lang/String" "COMPACT_STRINGS" "Z" (.int cz)) (hcz : ¬ cz = (0 : Int32)) (E0 : Exa Z h0 sb "java/lang/StringBuilder") (B0 : Fld Z h0 sb "java/lang/AbstractStringBuilder" "value" "[B" (.ref vb)) (B1 : Fld Z h0 sb "java/lang/AbstractStringBuilder" "coder" "B" (.int 0)) (B2 : Fld Z h0 sb "java/lang/AbstractStringBuilder" "count" "I" (.int 0)) (E1 : Exa Z h0 x "java/lang/String") (C1 : Fld Z h0 x "java/lang/String" "coder" "B" (.int 0)) :
    MetFree l (⟨"java/lang/AbstractStringBuilder", "inflateIfNeededFor", "(Ljava/lang/String;)V"⟩ : MethodName) (head1 (Jvm.Cond.code (⟨"java/lang/AbstractStringBuilder", "inflateIfNeededFor", "(Ljava/lang/String;)V"⟩ : MethodName) jdk_68_method_71_code 2 (none : Option FieldType) :: ws) ({ frames := 1, cells := 0, slots := 0, locals := 13 } : Room)) (fun aA uU => aA = #[(.ref sb), (.ref x)] ∧ Z.Warmed39 uU.vm ∧ uU.heap = h0) (fun _ _ _ _ _ => True) (fun _ uU oO uU' => ∃ vV lL, oO = .returned vV ∧ Q_rmInf0_3 Z sb vb x cz h0 n0 vV uU'.heap lL ∧ FrameEnd uU oO uU' lL ({ frames := 1, cells := 0, slots := 0, locals := 13 } : Room).cells ({ frames := 1, cells := 0, slots := 0, locals := 13 } : Room).slots) := by
  refine MetFree.of_bodySF (plainFor_of_name pn_AbstractStringBuilder) hisR ?_
  intro p e s m args below meth c s₁ Bd hml0 hP hK
  obtain ⟨rfl, hZ, hh⟩ := hP
  have hx := Bd.exec
  have hby := Bd.bytes
  have hml : c.maxLocals = 2 := hml0
  have hown : s.vm.findClass "java/lang/AbstractStringBuilder" = some m.cls := findClass_of_methodNamed Bd.named
  have hnm := (name_of_methodNamed Bd.named Bd.method).1
  have X0 : Stand p l e ({ frames := 1, cells := 0, slots := 0, locals := 13 } : Room) s m #[(.ref sb), (.ref x)] below meth c s₁ [] 0 0 := Stand.of_body Bd
  have e0 : s₁.heap = h0 := by rw [← hh, Bd.state]; rfl
  have N0 := Fr.nil n0
  refine oEnter (oCast (ef_rmInf0_3 m sb x ) ?_)
  show oGl p e below (s₁.setTop (mkF m 0 #[.val (.ref sb), .val (.ref x)] [])) _
  obtain ⟨T1, X1, e1, st1⟩ := getS2 X0 hx hZ hown (host := "") (Or.inl (hw _ (List.mem_of_getElem? (i := 63) rfl))) Via.refl e0 (SCS.ext O0.2) (g := (mkF m 0 #[.val (.ref sb), .val (.ref x)] [])) rfl (hb hby d16_0)
  refine oOn st1 ?_
  show oGl p e below (T1.setTop (mkF m 3 #[.val (.ref sb), .val (.ref x)] [(.int cz)])) _
  refine sifN X1 hx (hb hby d16_3) rfl (feq (hcz : ¬ (cz = (0 : Int32)))).1 (pc' := 6) ?_
  refine saloadN X1 hx (hb hby d16_6) rfl rfl rfl (pc' := 7) ?_
  obtain ⟨T2, X2, e2, st2⟩ := getF X1 hx hZ hown (host := "") (Or.inl (hw _ (List.mem_of_getElem? (i := 66) rfl))) Via.refl e1 B1 (g := (mkF m 7 #[.val (.ref sb), .val (.ref x)] [(.ref sb)])) rfl rfl (hb hby d16_7)
  refine oOn st2 ?_
  show oGl p e below (T2.setTop (mkF m 10 #[.val (.ref sb), .val (.ref x)] [(.int (0 : Int32))])) _
  refine saloadN X2 hx (hb hby d16_10) rfl rfl rfl (pc' := 11) ?_
  have hz3 : n0 ≤ h0.size := by omega
  obtain ⟨cq3, kq3, q3a, q3b, q3c⟩ := isOf hZ e2 E1
  obtain ⟨_, _, ⟨T3, L3, k3, n3⟩, -, X3, ⟨Lc3, hQ3, l3, y3, z3⟩, st3⟩ := X2.virtualBack hx (y := (⟨"java/lang/String", "coder", "()B"⟩ : MethodName)) (z := (⟨"java/lang/String", "coder", "()B"⟩ : MethodName)) hown (mvT hZ (hw _ (List.mem_of_getElem? (i := 109) rfl))) (mvT hZ (hw _ (List.mem_of_getElem? (i := 86) rfl))) (notFace_of_selects (args := #[]) (mvT hZ (hw _ (List.mem_of_getElem? (i := 88) rfl)))) (mvT hZ (hw _ (List.mem_of_getElem? (i := 88) rfl))) (mvT hZ (hw _ (List.mem_of_getElem? (i := 87) rfl))) (by decide) (backOf (W := 1) (rmCdr l Z a0 hw [] x cz h0 n0 hz3 O0 SCS hcz C1) hZ (hw _ (List.mem_of_getElem? (i := 89) rfl)) (hw _ (List.mem_of_getElem? (i := 5) rfl)) (by decide) (by decide)) q3a q3c (g := (mkF m 11 #[.val (.ref sb), .val (.ref x)] [(.ref x), (.int (0 : Int32))])) rfl (by rw [hml]; rfl) (Steps.refl _) (argsL := []) (rest := [(.int (0 : Int32))]) (lenOf pd_1 rfl) rfl (by show 2 * 0 + _ ≤ _; exact Nat.le_of_eq rfl) (hb hby d16_11) (fun _ _ => ⟨rfl, e2, (by decide : 0 + 0 ≤ _), (by decide : 0 + 0 ≤ _)⟩)
  dsimp only [Pt.U, Pt.locs, Pt.cells, Pt.slots] at X3 l3 y3 z3 st3 hQ3
  subst l3 y3 z3
  obtain ⟨rfl, N3q, eh3⟩ := hQ3
  have N3 := Fr.app N0 N3q
  refine oSt st3 ?_
  show oGl p e below (T3.setTop (mkF m 14 #[.val (.ref sb), .val (.ref x)] [(.int (0 : Int32)), (.int (0 : Int32))])) _
  refine sicY X3 hx (hb hby d16_14) (by decide) (by decide) (teq (by decide : (0 : Int32) = (0 : Int32))).1 (pc' := 21) ?_
  refine oRet0 X3 hx Bd.notSynchronized Bd.returns (hb hby d16_21) (by decide) (by decide) ?_
  show Q_rmInf0_3 Z sb vb x cz h0 n0 _ T3.heap _
  rw [eh3]
  exact ⟨rfl, N3, rfl⟩
theorem d17_0 : decode jdk_42_method_147_code 0 = .ok (.aload_n 0, 1) := by decide +kernel
theorem d17_1 : decode jdk_42_method_147_code 1 = .ok (.invokevirtual 335, 3) := by decide +kernel
theorem d17_4 : decode jdk_42_method_147_code 4 = .ok (.iload_n 3, 1) := by decide +kernel
theorem d17_5 : decode jdk_42_method_147_code 5 = .ok (.if_icmp .ne 23, 3) := by decide +kernel
theorem d17_8 : decode jdk_42_method_147_code 8 = .ok (.aload_n 0, 1) := by decide +kernel
theorem d17_9 : decode jdk_42_method_147_code 9 = .ok (.getfield 9, 3) := by decide +kernel
theorem d17_12 : decode jdk_42_method_147_code 12 = .ok (.iconst 0, 1) := by decide +kernel
theorem d17_13 : decode jdk_42_method_147_code 13 = .ok (.aload_n 1, 1) := by decide +kernel
theorem d17_14 : decode jdk_42_method_147_code 14 = .ok (.iload_n 2, 1) := by decide +kernel
theorem d17_15 : decode jdk_42_method_147_code 15 = .ok (.iload_n 3, 1) := by decide +kernel
theorem d17_16 : decode jdk_42_method_147_code 16 = .ok (.ishl, 1) := by decide +kernel
theorem d17_17 : decode jdk_42_method_147_code 17 = .ok (.aload_n 0, 1) := by decide +kernel
theorem d17_18 : decode jdk_42_method_147_code 18 = .ok (.getfield 9, 3) := by decide +kernel
theorem d17_21 : decode jdk_42_method_147_code 21 = .ok (.arraylength, 1) := by decide +kernel
theorem d17_22 : decode jdk_42_method_147_code 22 = .ok (.invokestatic 212, 3) := by decide +kernel
theorem d17_25 : decode jdk_42_method_147_code 25 = .ok (.goto 18, 3) := by decide +kernel
theorem d17_43 : decode jdk_42_method_147_code 43 = .ok (.return_, 1) := by decide +kernel
theorem ef_rmGby0_3 (m : MethodId) (x0 : Nat) (x1 : Nat) (x2 : Int32) (x3 : Int32)  : entryFrame m #[(.ref x0), (.ref x1), (.int x2), (.int x3)] 4 = mkF m 0 #[.val (.ref x0), .val (.ref x1), .val (.int x2), .val (.int x3)] [] := by first | (simp [entryFrame, mkF, argsToLocals, Value.category, maxLocals]; done) | rfl
def Q_rmGby0_3 (Z : State) (vb x b : Nat) (f g : Nat → Int32) (cz : Int32) (h0 : Heap) (n0 : Nat) (vv : Option Value) (h : Heap) (L : List Loc) : Prop := vv = none ∧ Fr n0 L ∧ Keep h0 h [vb] ∧ oAI Z h vb .byte 16 (oCpF 0 3 (fun i => f (0 + i)) g)
set_option maxRecDepth 65536 in
set_option maxHeartbeats 40000000 in
theorem rmGby0_3 (l : Launch) (Z : State) (a0 : Array Value) (hw : ∀ d ∈ tables_1, d.before a0 Z = true) (ws : List Jvm.Cond) (vb x b : Nat) (f g : Nat → Int32) (cz : Int32) (h0 : Heap) (n0 : Nat) (Z0 : n0 ≤ h0.size) (O0 : oOld Z n0 h0) (SCS : Sta Z Z.heap "java/lang/String" "COMPACT_STRINGS" "Z" (.int cz)) (hcz : ¬ cz = (0 : Int32)) (E1 : Exa Z h0 x "java/lang/String") (F1 : Fld Z h0 x "java/lang/String" "value" "[B" (.ref b)) (C1 : Fld Z h0 x "java/lang/String" "coder" "B" (.int 0)) (PB : oAI Z h0 b .byte 3 f) (PV : oAI Z h0 vb .byte 16 g) (Ff : oFit 3 f) (Fg : oFit 16 g) (gv : n0 ≤ vb) (nbv : b ≠ vb) :
    MetFree l (⟨"java/lang/String", "getBytes", "([BIB)V"⟩ : MethodName) (head1 (Jvm.Cond.code (⟨"java/lang/String", "getBytes", "([BIB)V"⟩ : MethodName) jdk_42_method_147_code 4 (none : Option FieldType) :: ws) ({ frames := 1, cells := 0, slots := 0, locals := 18 } : Room)) (fun aA uU => aA = #[(.ref x), (.ref vb), (.int (0 : Int32)), (.int (0 : Int32))] ∧ Z.Warmed39 uU.vm ∧ uU.heap = h0) (fun _ _ _ _ _ => True) (fun _ uU oO uU' => ∃ vV lL, oO = .returned vV ∧ Q_rmGby0_3 Z vb x b f g cz h0 n0 vV uU'.heap lL ∧ FrameEnd uU oO uU' lL ({ frames := 1, cells := 0, slots := 0, locals := 18 } : Room).cells ({ frames := 1, cells := 0, slots := 0, locals := 18 } : Room).slots) := by
  refine MetFree.of_bodySF (plainFor_of_name pn_String) hisR ?_
  intro p e s m args below meth c s₁ Bd hml0 hP hK
  obtain ⟨rfl, hZ, hh⟩ := hP
  have hx := Bd.exec
  have hby := Bd.bytes
  have hml : c.maxLocals = 4 := hml0
  have hown : s.vm.findClass "java/lang/String" = some m.cls := findClass_of_methodNamed Bd.named
  have hnm := (name_of_methodNamed Bd.named Bd.method).1
  have X0 : Stand p l e ({ frames := 1, cells := 0, slots := 0, locals := 18 } : Room) s m #[(.ref x), (.ref vb), (.int (0 : Int32)), (.int (0 : Int32))] below meth c s₁ [] 0 0 := Stand.of_body Bd
  have e0 : s₁.heap = h0 := by rw [← hh, Bd.state]; rfl
  have N0 := Fr.nil n0
  have lB : @LT.lt Nat _ b h0.size := PB.lt
  have lV : @LT.lt Nat _ vb h0.size := PV.lt
  have nb9 : @Ne Nat b vb := nbv
  refine oEnter (oCast (ef_rmGby0_3 m x vb (0 : Int32) (0 : Int32) ) ?_)
  show oGl p e below (s₁.setTop (mkF m 0 #[.val (.ref x), .val (.ref vb), .val (.int (0 : Int32)), .val (.int (0 : Int32))] [])) _
  refine saloadN X0 hx (hb hby d17_0) rfl rfl rfl (pc' := 1) ?_
  have hz1 : n0 ≤ h0.size := by omega
  obtain ⟨cq1, kq1, q1a, q1b, q1c⟩ := isOf hZ e0 E1
  obtain ⟨_, _, ⟨T1, L1, k1, n1⟩, -, X1, ⟨Lc1, hQ1, l1, y1, z1⟩, st1⟩ := X0.virtualBack hx (y := (⟨"java/lang/String", "coder", "()B"⟩ : MethodName)) (z := (⟨"java/lang/String", "coder", "()B"⟩ : MethodName)) hown (mvT hZ (hw _ (List.mem_of_getElem? (i := 85) rfl))) (mvT hZ (hw _ (List.mem_of_getElem? (i := 86) rfl))) (notFace_of_selects (args := #[]) (mvT hZ (hw _ (List.mem_of_getElem? (i := 88) rfl)))) (mvT hZ (hw _ (List.mem_of_getElem? (i := 88) rfl))) (mvT hZ (hw _ (List.mem_of_getElem? (i := 87) rfl))) (by decide) (backOf (W := 0) (rmCdr l Z a0 hw [] x cz h0 n0 hz1 O0 SCS hcz C1) hZ (hw _ (List.mem_of_getElem? (i := 89) rfl)) (hw _ (List.mem_of_getElem? (i := 5) rfl)) (by decide) (by decide)) q1a q1c (g := (mkF m 1 #[.val (.ref x), .val (.ref vb), .val (.int (0 : Int32)), .val (.int (0 : Int32))] [(.ref x)])) rfl (by rw [hml]; rfl) (Steps.refl _) (argsL := []) (rest := []) (lenOf pd_1 rfl) rfl (by show 2 * 0 + _ ≤ _; exact Nat.le_of_eq rfl) (hb hby d17_1) (fun _ _ => ⟨rfl, e0, (by decide : 0 + 0 ≤ _), (by decide : 0 + 0 ≤ _)⟩)
  dsimp only [Pt.U, Pt.locs, Pt.cells, Pt.slots] at X1 l1 y1 z1 st1 hQ1
  subst l1 y1 z1
  obtain ⟨rfl, N1q, eh1⟩ := hQ1
  have N1 := Fr.app N0 N1q
  refine oSt st1 ?_
  show oGl p e below (T1.setTop (mkF m 4 #[.val (.ref x), .val (.ref vb), .val (.int (0 : Int32)), .val (.int (0 : Int32))] [(.int (0 : Int32))])) _
  refine siloadN X1 hx (hb hby d17_4) rfl rfl (pc' := 5) ?_
  refine sicN X1 hx (hb hby d17_5) rfl (teq (by decide : (0 : Int32) = (0 : Int32))).2 (pc' := 8) ?_
  refine saloadN X1 hx (hb hby d17_8) rfl rfl rfl (pc' := 9) ?_
  obtain ⟨T2, X2, e2, st2⟩ := getF X1 hx hZ hown (host := "") (Or.inl (hw _ (List.mem_of_getElem? (i := 84) rfl))) Via.refl eh1 F1 (g := (mkF m 9 #[.val (.ref x), .val (.ref vb), .val (.int (0 : Int32)), .val (.int (0 : Int32))] [(.ref x)])) rfl rfl (hb hby d17_9)
  refine oOn st2 ?_
  show oGl p e below (T2.setTop (mkF m 12 #[.val (.ref x), .val (.ref vb), .val (.int (0 : Int32)), .val (.int (0 : Int32))] [(.ref b)])) _
  refine siconst X2 hx (hb hby d17_12) rfl rfl (z := 0) (pc' := 13) ?_
  refine saloadN X2 hx (hb hby d17_13) rfl rfl rfl (pc' := 14) ?_
  refine siloadN X2 hx (hb hby d17_14) rfl rfl (pc' := 15) ?_
  refine siloadN X2 hx (hb hby d17_15) rfl rfl (pc' := 16) ?_
  refine sishl X2 hx (hb hby d17_16) rfl (by decide) (z := (0 : Int32)) (pc' := 17) ?_
  refine saloadN X2 hx (hb hby d17_17) rfl rfl rfl (pc' := 18) ?_
  obtain ⟨T3, X3, e3, st3⟩ := getF X2 hx hZ hown (host := "") (Or.inl (hw _ (List.mem_of_getElem? (i := 84) rfl))) Via.refl e2 F1 (g := (mkF m 18 #[.val (.ref x), .val (.ref vb), .val (.int (0 : Int32)), .val (.int (0 : Int32))] [(.ref x), (.int (0 : Int32)), (.ref vb), (.int (0 : Int32)), (.ref b)])) rfl rfl (hb hby d17_18)
  refine oOn st3 ?_
  show oGl p e below (T3.setTop (mkF m 21 #[.val (.ref x), .val (.ref vb), .val (.int (0 : Int32)), .val (.int (0 : Int32))] [(.ref b), (.int (0 : Int32)), (.ref vb), (.int (0 : Int32)), (.ref b)])) _
  refine oOn (PB.len X3 hx hZ e3 (g := (mkF m 21 #[.val (.ref x), .val (.ref vb), .val (.int (0 : Int32)), .val (.int (0 : Int32))] [(.ref b), (.int (0 : Int32)), (.ref vb), (.int (0 : Int32)), (.ref b)])) rfl rfl (hb hby d17_21)) ?_
  show oGl p e below (T3.setTop (mkF m 22 #[.val (.ref x), .val (.ref vb), .val (.int (0 : Int32)), .val (.int (0 : Int32))] [(.int (3 : Int32)), (.int (0 : Int32)), (.ref vb), (.int (0 : Int32)), (.ref b)])) _
  obtain ⟨T4, h4, L4, X4, e4, N4, K4, V4, st4⟩ := oCp X3 hx hZ hown (hw _ (List.mem_of_getElem? (i := 115) rfl)) (hw _ (List.mem_of_getElem? (i := 118) rfl)) (hw _ (List.mem_of_getElem? (i := 116) rfl)) (hw _ (List.mem_of_getElem? (i := 117) rfl)) e3 PB PV Ff Fg (by decide) (by decide) (by decide) (by decide) (by decide) N1 (by omega) (gf := (mkF m 22 #[.val (.ref x), .val (.ref vb), .val (.int (0 : Int32)), .val (.int (0 : Int32))] [(.int (3 : Int32)), (.int (0 : Int32)), (.ref vb), (.int (0 : Int32)), (.ref b)])) rfl (by rw [hml]; rfl) (rest := []) rfl (hb hby d17_22) (by decide) (W := 0) (by show 2 * 0 + _ ≤ _; exact Nat.le_of_eq rfl) (by decide)
  refine oOn st4 ?_
  have z5 : h0.size ≤ h4.size := K4.1
  have Vc4 : oAI Z h4 vb .byte 16 (oCpF 0 3 (fun i => f (0 + i)) g) := V4
  show oGl p e below (T4.setTop (mkF m 25 #[.val (.ref x), .val (.ref vb), .val (.int (0 : Int32)), .val (.int (0 : Int32))] [])) _
  refine sgoto X4 hx (hb hby d17_25) (by decide) (by decide)  (pc' := 43) ?_
  have kp6 : Keep h0 h4 [vb] := ((Keep.refl h0 [vb]).trans K4 (allS (Or.inl (List.mem_of_getElem? (i := 0) rfl)) all0))
  refine oRet0 X4 hx Bd.notSynchronized Bd.returns (hb hby d17_43) (by decide) (by decide) ?_
  show Q_rmGby0_3 Z vb x b f g cz h0 n0 _ T4.heap _
  rw [e4]
  exact ⟨rfl, N4, kp6, Vc4⟩
theorem d15_0 : decode jdk_68_method_73_code 0 = .ok (.aload_n 0, 1) := by decide +kernel
theorem d15_1 : decode jdk_68_method_73_code 1 = .ok (.aload_n 2, 1) := by decide +kernel
theorem d15_2 : decode jdk_68_method_73_code 2 = .ok (.invokevirtual 397, 3) := by decide +kernel
theorem pd_2 : parseMethodDescriptor "(Ljava/lang/String;)V" = some ⟨[(.object "java/lang/String")], none⟩ := by decide +kernel
theorem d15_5 : decode jdk_68_method_73_code 5 = .ok (.aload_n 2, 1) := by decide +kernel
theorem d15_6 : decode jdk_68_method_73_code 6 = .ok (.aload_n 0, 1) := by decide +kernel
theorem d15_7 : decode jdk_68_method_73_code 7 = .ok (.getfield 15, 3) := by decide +kernel
theorem d15_10 : decode jdk_68_method_73_code 10 = .ok (.iload_n 1, 1) := by decide +kernel
theorem d15_11 : decode jdk_68_method_73_code 11 = .ok (.aload_n 0, 1) := by decide +kernel
theorem d15_12 : decode jdk_68_method_73_code 12 = .ok (.getfield 22, 3) := by decide +kernel
theorem d15_15 : decode jdk_68_method_73_code 15 = .ok (.invokevirtual 399, 3) := by decide +kernel
theorem pd_3 : parseMethodDescriptor "([BIB)V" = some ⟨[(.array .byte), .int, .byte], none⟩ := by decide +kernel
theorem d15_18 : decode jdk_68_method_73_code 18 = .ok (.return_, 1) := by decide +kernel
theorem ef_rmPut0_3 (m : MethodId) (x0 : Nat) (x1 : Int32) (x2 : Nat)  : entryFrame m #[(.ref x0), (.int x1), (.ref x2)] 3 = mkF m 0 #[.val (.ref x0), .val (.int x1), .val (.ref x2)] [] := by first | (simp [entryFrame, mkF, argsToLocals, Value.category, maxLocals]; done) | rfl
def Q_rmPut0_3 (Z : State) (sb vb x b : Nat) (f g : Nat → Int32) (cz : Int32) (h0 : Heap) (n0 : Nat) (vv : Option Value) (h : Heap) (L : List Loc) : Prop := vv = none ∧ Fr n0 L ∧ Keep h0 h [vb] ∧ oAI Z h vb .byte 16 (oCpF 0 3 (fun i => f (0 + i)) g)
set_option maxRecDepth 65536 in
set_option maxHeartbeats 40000000 in
theorem rmPut0_3 (l : Launch) (Z : State) (a0 : Array Value) (hw : ∀ d ∈ tables_1, d.before a0 Z = true) (ws : List Jvm.Cond) (sb vb x b : Nat) (f g : Nat → Int32) (cz : Int32) (h0 : Heap) (n0 : Nat) (Z0 : n0 ≤ h0.size) (O0 : oOld Z n0 h0) (SCS : Sta Z Z.heap "java/lang/String" "COMPACT_STRINGS" "Z" (.int cz)) (hcz : ¬ cz = (0 : Int32)) (E0 : Exa Z h0 sb "java/lang/StringBuilder") (B0 : Fld Z h0 sb "java/lang/AbstractStringBuilder" "value" "[B" (.ref vb)) (B1 : Fld Z h0 sb "java/lang/AbstractStringBuilder" "coder" "B" (.int 0)) (B2 : Fld Z h0 sb "java/lang/AbstractStringBuilder" "count" "I" (.int 0)) (E1 : Exa Z h0 x "java/lang/String") (F1 : Fld Z h0 x "java/lang/String" "value" "[B" (.ref b)) (C1 : Fld Z h0 x "java/lang/String" "coder" "B" (.int 0)) (PB : oAI Z h0 b .byte 3 f) (PV : oAI Z h0 vb .byte 16 g) (Ff : oFit 3 f) (Fg : oFit 16 g) (gs : n0 ≤ sb) (gv : n0 ≤ vb) (nbv : b ≠ vb) :
    MetFree l (⟨"java/lang/AbstractStringBuilder", "putStringAt", "(ILjava/lang/String;)V"⟩ : MethodName) (head1 (Jvm.Cond.code (⟨"java/lang/AbstractStringBuilder", "putStringAt", "(ILjava/lang/String;)V"⟩ : MethodName) jdk_68_method_73_code 3 (none : Option FieldType) :: ws) ({ frames := 2, cells := 0, slots := 0, locals := 33 } : Room)) (fun aA uU => aA = #[(.ref sb), (.int (0 : Int32)), (.ref x)] ∧ Z.Warmed39 uU.vm ∧ uU.heap = h0) (fun _ _ _ _ _ => True) (fun _ uU oO uU' => ∃ vV lL, oO = .returned vV ∧ Q_rmPut0_3 Z sb vb x b f g cz h0 n0 vV uU'.heap lL ∧ FrameEnd uU oO uU' lL ({ frames := 2, cells := 0, slots := 0, locals := 33 } : Room).cells ({ frames := 2, cells := 0, slots := 0, locals := 33 } : Room).slots) := by
  refine MetFree.of_bodySF (plainFor_of_name pn_AbstractStringBuilder) hisR ?_
  intro p e s m args below meth c s₁ Bd hml0 hP hK
  obtain ⟨rfl, hZ, hh⟩ := hP
  have hx := Bd.exec
  have hby := Bd.bytes
  have hml : c.maxLocals = 3 := hml0
  have hown : s.vm.findClass "java/lang/AbstractStringBuilder" = some m.cls := findClass_of_methodNamed Bd.named
  have hnm := (name_of_methodNamed Bd.named Bd.method).1
  have X0 : Stand p l e ({ frames := 2, cells := 0, slots := 0, locals := 33 } : Room) s m #[(.ref sb), (.int (0 : Int32)), (.ref x)] below meth c s₁ [] 0 0 := Stand.of_body Bd
  have e0 : s₁.heap = h0 := by rw [← hh, Bd.state]; rfl
  have N0 := Fr.nil n0
  have lB : @LT.lt Nat _ b h0.size := PB.lt
  have lV : @LT.lt Nat _ vb h0.size := PV.lt
  have nb9 : @Ne Nat b vb := nbv
  have lS : @LT.lt Nat _ sb h0.size := E0.lt
  have nsv : @Ne Nat sb vb := oNeO E0 (hw _ (List.mem_of_getElem? (i := 51) rfl)) PV
  have nxv : @Ne Nat x vb := oNeO E1 (hw _ (List.mem_of_getElem? (i := 6) rfl)) PV
  have nsb : @Ne Nat sb b := oNeO E0 (hw _ (List.mem_of_getElem? (i := 51) rfl)) PB
  refine oEnter (oCast (ef_rmPut0_3 m sb (0 : Int32) x ) ?_)
  show oGl p e below (s₁.setTop (mkF m 0 #[.val (.ref sb), .val (.int (0 : Int32)), .val (.ref x)] [])) _
  refine saloadN X0 hx (hb hby d15_0) rfl rfl rfl (pc' := 1) ?_
  refine saloadN X0 hx (hb hby d15_1) rfl rfl rfl (pc' := 2) ?_
  have hz1 : n0 ≤ h0.size := by omega
  obtain ⟨cq1, q1, q1'⟩ := E0.cell
  obtain ⟨_, _, ⟨T1, L1, k1, n1⟩, -, X1, ⟨Lc1, hQ1, l1, y1, z1⟩, st1⟩ := X0.privateBack hx (y := (⟨"java/lang/AbstractStringBuilder", "inflateIfNeededFor", "(Ljava/lang/String;)V"⟩ : MethodName)) hown (mvT hZ (hw _ (List.mem_of_getElem? (i := 104) rfl))) (mvT hZ (hw _ (List.mem_of_getElem? (i := 105) rfl))) (oPriv2 (mvT hZ (hw _ (List.mem_of_getElem? (i := 107) rfl))) (Cond.privateMethod_at (mvP hZ (hw _ (List.mem_of_getElem? (i := 106) rfl)) (args := #[]))) (mvT hZ (hw _ (List.mem_of_getElem? (i := 105) rfl))) (by decide)) (Cond.privateMethod_at (mvP hZ (hw _ (List.mem_of_getElem? (i := 106) rfl)) (args := #[]))) (mvT hZ (hw _ (List.mem_of_getElem? (i := 108) rfl))) (by decide) (backOf (W := 0) (rmInf0_3 l Z a0 hw [] sb vb x cz h0 n0 hz1 O0 SCS hcz E0 B0 B1 B2 E1 C1) hZ (hw _ (List.mem_of_getElem? (i := 108) rfl)) (hw _ (List.mem_of_getElem? (i := 60) rfl)) (by decide) (by decide)) (g := (mkF m 2 #[.val (.ref sb), .val (.int (0 : Int32)), .val (.ref x)] [(.ref x), (.ref sb)])) rfl (by rw [hml]; rfl) (Steps.refl _) (a := sb) (by rw [e0]; exact q1) q1' (argsL := [(.ref x)]) (rest := []) (lenOf pd_2 rfl) rfl (by show 2 * 0 + _ ≤ _; exact Nat.le_of_eq rfl) (hb hby d15_2) (fun _ _ => ⟨rfl, e0, (by decide : 0 + 0 ≤ _), (by decide : 0 + 0 ≤ _)⟩)
  dsimp only [Pt.U, Pt.locs, Pt.cells, Pt.slots] at X1 l1 y1 z1 st1 hQ1
  subst l1 y1 z1
  obtain ⟨rfl, N1q, eh1⟩ := hQ1
  have N1 := Fr.app N0 N1q
  refine oSt st1 ?_
  show oGl p e below (T1.setTop (mkF m 5 #[.val (.ref sb), .val (.int (0 : Int32)), .val (.ref x)] [])) _
  refine saloadN X1 hx (hb hby d15_5) rfl rfl rfl (pc' := 6) ?_
  refine saloadN X1 hx (hb hby d15_6) rfl rfl rfl (pc' := 7) ?_
  obtain ⟨T2, X2, e2, st2⟩ := getF X1 hx hZ hown (host := "") (Or.inl (hw _ (List.mem_of_getElem? (i := 64) rfl))) Via.refl eh1 B0 (g := (mkF m 7 #[.val (.ref sb), .val (.int (0 : Int32)), .val (.ref x)] [(.ref sb), (.ref x)])) rfl rfl (hb hby d15_7)
  refine oOn st2 ?_
  show oGl p e below (T2.setTop (mkF m 10 #[.val (.ref sb), .val (.int (0 : Int32)), .val (.ref x)] [(.ref vb), (.ref x)])) _
  refine siloadN X2 hx (hb hby d15_10) rfl rfl (pc' := 11) ?_
  refine saloadN X2 hx (hb hby d15_11) rfl rfl rfl (pc' := 12) ?_
  obtain ⟨T3, X3, e3, st3⟩ := getF X2 hx hZ hown (host := "") (Or.inl (hw _ (List.mem_of_getElem? (i := 66) rfl))) Via.refl e2 B1 (g := (mkF m 12 #[.val (.ref sb), .val (.int (0 : Int32)), .val (.ref x)] [(.ref sb), (.int (0 : Int32)), (.ref vb), (.ref x)])) rfl rfl (hb hby d15_12)
  refine oOn st3 ?_
  show oGl p e below (T3.setTop (mkF m 15 #[.val (.ref sb), .val (.int (0 : Int32)), .val (.ref x)] [(.int (0 : Int32)), (.int (0 : Int32)), (.ref vb), (.ref x)])) _
  have hz4 : n0 ≤ h0.size := by omega
  obtain ⟨cq4, kq4, q4a, q4b, q4c⟩ := isOf hZ e3 E1
  obtain ⟨_, _, ⟨T4, L4, k4, n4⟩, -, X4, ⟨Lc4, hQ4, l4, y4, z4⟩, st4⟩ := X3.virtualBack hx (y := (⟨"java/lang/String", "getBytes", "([BIB)V"⟩ : MethodName)) (z := (⟨"java/lang/String", "getBytes", "([BIB)V"⟩ : MethodName)) hown (mvT hZ (hw _ (List.mem_of_getElem? (i := 110) rfl))) (mvT hZ (hw _ (List.mem_of_getElem? (i := 111) rfl))) (notFace_of_selects (args := #[]) (mvT hZ (hw _ (List.mem_of_getElem? (i := 113) rfl)))) (mvT hZ (hw _ (List.mem_of_getElem? (i := 113) rfl))) (mvT hZ (hw _ (List.mem_of_getElem? (i := 112) rfl))) (by decide) (backOf (W := 0) (rmGby0_3 l Z a0 hw [] vb x b f g cz h0 n0 hz4 O0 SCS hcz E1 F1 C1 PB PV Ff Fg gv nbv) hZ (hw _ (List.mem_of_getElem? (i := 114) rfl)) (hw _ (List.mem_of_getElem? (i := 5) rfl)) (by decide) (by decide)) q4a q4c (g := (mkF m 15 #[.val (.ref sb), .val (.int (0 : Int32)), .val (.ref x)] [(.int (0 : Int32)), (.int (0 : Int32)), (.ref vb), (.ref x)])) rfl (by rw [hml]; rfl) (Steps.refl _) (argsL := [(.ref vb), (.int (0 : Int32)), (.int (0 : Int32))]) (rest := []) (lenOf pd_3 rfl) rfl (by show 2 * 0 + _ ≤ _; exact Nat.le_of_eq rfl) (hb hby d15_15) (fun _ _ => ⟨rfl, e3, (by decide : 0 + 0 ≤ _), (by decide : 0 + 0 ≤ _)⟩)
  dsimp only [Pt.U, Pt.locs, Pt.cells, Pt.slots] at X4 l4 y4 z4 st4 hQ4
  subst l4 y4 z4
  obtain ⟨rfl, N4q, K4, Vg4⟩ := hQ4
  have N4 := Fr.app N1 N4q
  have z5 : h0.size ≤ T4.heap.size := K4.1
  refine oSt st4 ?_
  show oGl p e below (T4.setTop (mkF m 18 #[.val (.ref sb), .val (.int (0 : Int32)), .val (.ref x)] [])) _
  have kp6 : Keep h0 T4.heap [vb] := ((Keep.refl h0 [vb]).trans K4 (allS (Or.inl (List.mem_of_getElem? (i := 0) rfl)) all0))
  refine oRet0 X4 hx Bd.notSynchronized Bd.returns (hb hby d15_18) (by decide) (by decide) ?_
  show Q_rmPut0_3 Z sb vb x b f g cz h0 n0 _ T4.heap _
  exact ⟨rfl, N4, kp6, Vg4⟩
theorem d11_0 : decode jdk_68_method_22_code 0 = .ok (.aload_n 1, 1) := by decide +kernel
theorem d11_1 : decode jdk_68_method_22_code 1 = .ok (.ifnonnull 8, 3) := by decide +kernel
theorem d11_9 : decode jdk_68_method_22_code 9 = .ok (.aload_n 1, 1) := by decide +kernel
theorem d11_10 : decode jdk_68_method_22_code 10 = .ok (.invokevirtual 32, 3) := by decide +kernel
theorem pd_4 : parseMethodDescriptor "()I" = some ⟨[], some .int⟩ := by decide +kernel
theorem d11_13 : decode jdk_68_method_22_code 13 = .ok (.istore_n 2, 1) := by decide +kernel
theorem d11_14 : decode jdk_68_method_22_code 14 = .ok (.aload_n 0, 1) := by decide +kernel
theorem d11_15 : decode jdk_68_method_22_code 15 = .ok (.aload_n 0, 1) := by decide +kernel
theorem d11_16 : decode jdk_68_method_22_code 16 = .ok (.getfield 79, 3) := by decide +kernel
theorem d11_19 : decode jdk_68_method_22_code 19 = .ok (.iload_n 2, 1) := by decide +kernel
theorem d11_20 : decode jdk_68_method_22_code 20 = .ok (.iadd, 1) := by decide +kernel
theorem d11_21 : decode jdk_68_method_22_code 21 = .ok (.invokevirtual 100, 3) := by decide +kernel
theorem d11_24 : decode jdk_68_method_22_code 24 = .ok (.aload_n 0, 1) := by decide +kernel
theorem d11_25 : decode jdk_68_method_22_code 25 = .ok (.aload_n 0, 1) := by decide +kernel
theorem d11_26 : decode jdk_68_method_22_code 26 = .ok (.getfield 79, 3) := by decide +kernel
theorem d11_29 : decode jdk_68_method_22_code 29 = .ok (.aload_n 1, 1) := by decide +kernel
theorem d11_30 : decode jdk_68_method_22_code 30 = .ok (.invokevirtual 208, 3) := by decide +kernel
theorem pd_5 : parseMethodDescriptor "(ILjava/lang/String;)V" = some ⟨[.int, (.object "java/lang/String")], none⟩ := by decide +kernel
theorem d11_33 : decode jdk_68_method_22_code 33 = .ok (.aload_n 0, 1) := by decide +kernel
theorem d11_34 : decode jdk_68_method_22_code 34 = .ok (.dup, 1) := by decide +kernel
theorem d11_35 : decode jdk_68_method_22_code 35 = .ok (.getfield 79, 3) := by decide +kernel
theorem d11_38 : decode jdk_68_method_22_code 38 = .ok (.iload_n 2, 1) := by decide +kernel
theorem d11_39 : decode jdk_68_method_22_code 39 = .ok (.iadd, 1) := by decide +kernel
theorem d11_40 : decode jdk_68_method_22_code 40 = .ok (.putfield 79, 3) := by decide +kernel
theorem d11_43 : decode jdk_68_method_22_code 43 = .ok (.aload_n 0, 1) := by decide +kernel
theorem d11_44 : decode jdk_68_method_22_code 44 = .ok (.areturn, 1) := by decide +kernel
theorem ef_rmAap0_3 (m : MethodId) (x0 : Nat) (x1 : Nat)  : entryFrame m #[(.ref x0), (.ref x1)] 3 = mkF m 0 #[.val (.ref x0), .val (.ref x1), .unset] [] := by first | (simp [entryFrame, mkF, argsToLocals, Value.category, maxLocals]; done) | rfl
def Q_rmAap0_3 (Z : State) (sb vb x b : Nat) (f g : Nat → Int32) (cz : Int32) (h0 : Heap) (n0 : Nat) (vv : Option Value) (h : Heap) (L : List Loc) : Prop := vv = some (.ref sb) ∧ Fr n0 L ∧ Keep h0 h [sb, vb] ∧ Exa Z h sb "java/lang/StringBuilder" ∧ Fld Z h sb "java/lang/AbstractStringBuilder" "value" "[B" (.ref vb) ∧ Fld Z h sb "java/lang/AbstractStringBuilder" "coder" "B" (.int 0) ∧ Fld Z h sb "java/lang/AbstractStringBuilder" "count" "I" (.int 3) ∧ oAI Z h vb .byte 16 (oCpF 0 3 (fun i => f (0 + i)) g)
set_option maxRecDepth 65536 in
set_option maxHeartbeats 40000000 in
theorem rmAap0_3 (l : Launch) (Z : State) (a0 : Array Value) (hw : ∀ d ∈ tables_1, d.before a0 Z = true) (ws : List Jvm.Cond) (sb vb x b : Nat) (f g : Nat → Int32) (cz : Int32) (h0 : Heap) (n0 : Nat) (Z0 : n0 ≤ h0.size) (O0 : oOld Z n0 h0) (SCS : Sta Z Z.heap "java/lang/String" "COMPACT_STRINGS" "Z" (.int cz)) (hcz : ¬ cz = (0 : Int32)) (E0 : Exa Z h0 sb "java/lang/StringBuilder") (B0 : Fld Z h0 sb "java/lang/AbstractStringBuilder" "value" "[B" (.ref vb)) (B1 : Fld Z h0 sb "java/lang/AbstractStringBuilder" "coder" "B" (.int 0)) (B2 : Fld Z h0 sb "java/lang/AbstractStringBuilder" "count" "I" (.int 0)) (E1 : Exa Z h0 x "java/lang/String") (F1 : Fld Z h0 x "java/lang/String" "value" "[B" (.ref b)) (C1 : Fld Z h0 x "java/lang/String" "coder" "B" (.int 0)) (PB : oAI Z h0 b .byte 3 f) (PV : oAI Z h0 vb .byte 16 g) (Ff : oFit 3 f) (Fg : oFit 16 g) (gs : n0 ≤ sb) (gv : n0 ≤ vb) (nbv : b ≠ vb) :
    MetFree l (⟨"java/lang/AbstractStringBuilder", "append", "(Ljava/lang/String;)Ljava/lang/AbstractStringBuilder;"⟩ : MethodName) (head1 (Jvm.Cond.code (⟨"java/lang/AbstractStringBuilder", "append", "(Ljava/lang/String;)Ljava/lang/AbstractStringBuilder;"⟩ : MethodName) jdk_68_method_22_code 3 (some (.object "java/lang/AbstractStringBuilder")) :: ws) ({ frames := 3, cells := 0, slots := 0, locals := 47 } : Room)) (fun aA uU => aA = #[(.ref sb), (.ref x)] ∧ Z.Warmed39 uU.vm ∧ uU.heap = h0) (fun _ _ _ _ _ => True) (fun _ uU oO uU' => ∃ vV lL, oO = .returned vV ∧ Q_rmAap0_3 Z sb vb x b f g cz h0 n0 vV uU'.heap lL ∧ FrameEnd uU oO uU' lL ({ frames := 3, cells := 0, slots := 0, locals := 47 } : Room).cells ({ frames := 3, cells := 0, slots := 0, locals := 47 } : Room).slots) := by
  refine MetFree.of_bodySF (plainFor_of_name pn_AbstractStringBuilder) hisR ?_
  intro p e s m args below meth c s₁ Bd hml0 hP hK
  obtain ⟨rfl, hZ, hh⟩ := hP
  have hx := Bd.exec
  have hby := Bd.bytes
  have hml : c.maxLocals = 3 := hml0
  have hown : s.vm.findClass "java/lang/AbstractStringBuilder" = some m.cls := findClass_of_methodNamed Bd.named
  have hnm := (name_of_methodNamed Bd.named Bd.method).1
  have X0 : Stand p l e ({ frames := 3, cells := 0, slots := 0, locals := 47 } : Room) s m #[(.ref sb), (.ref x)] below meth c s₁ [] 0 0 := Stand.of_body Bd
  have e0 : s₁.heap = h0 := by rw [← hh, Bd.state]; rfl
  have N0 := Fr.nil n0
  have lB : @LT.lt Nat _ b h0.size := PB.lt
  have lV : @LT.lt Nat _ vb h0.size := PV.lt
  have nb9 : @Ne Nat b vb := nbv
  have lS : @LT.lt Nat _ sb h0.size := E0.lt
  have nsv : @Ne Nat sb vb := oNeO E0 (hw _ (List.mem_of_getElem? (i := 51) rfl)) PV
  have nxv : @Ne Nat x vb := oNeO E1 (hw _ (List.mem_of_getElem? (i := 6) rfl)) PV
  have nsb : @Ne Nat sb b := oNeO E0 (hw _ (List.mem_of_getElem? (i := 51) rfl)) PB
  refine oEnter (oCast (ef_rmAap0_3 m sb x ) ?_)
  show oGl p e below (s₁.setTop (mkF m 0 #[.val (.ref sb), .val (.ref x), .unset] [])) _
  refine saloadN X0 hx (hb hby d11_0) rfl rfl rfl (pc' := 1) ?_
  refine sifnonnullY X0 hx (hb hby d11_1) (by decide) (by decide)  (pc' := 9) ?_
  refine saloadN X0 hx (hb hby d11_9) rfl rfl rfl (pc' := 10) ?_
  have hz1 : n0 ≤ h0.size := by omega
  obtain ⟨cq1, kq1, q1a, q1b, q1c⟩ := isOf hZ e0 E1
  obtain ⟨_, _, ⟨T1, L1, k1, n1⟩, -, X1, ⟨Lc1, hQ1, l1, y1, z1⟩, st1⟩ := X0.virtualBack hx (y := (⟨"java/lang/String", "length", "()I"⟩ : MethodName)) (z := (⟨"java/lang/String", "length", "()I"⟩ : MethodName)) hown (mvT hZ (hw _ (List.mem_of_getElem? (i := 79) rfl))) (mvT hZ (hw _ (List.mem_of_getElem? (i := 80) rfl))) (notFace_of_selects (args := #[]) (mvT hZ (hw _ (List.mem_of_getElem? (i := 82) rfl)))) (mvT hZ (hw _ (List.mem_of_getElem? (i := 82) rfl))) (mvT hZ (hw _ (List.mem_of_getElem? (i := 81) rfl))) (by decide) (backOf (W := 0) (rmLen0_3 l Z a0 hw [] x b f cz h0 n0 hz1 O0 SCS hcz E1 F1 C1 PB) hZ (hw _ (List.mem_of_getElem? (i := 83) rfl)) (hw _ (List.mem_of_getElem? (i := 5) rfl)) (by decide) (by decide)) q1a q1c (g := (mkF m 10 #[.val (.ref sb), .val (.ref x), .unset] [(.ref x)])) rfl (by rw [hml]; rfl) (Steps.refl _) (argsL := []) (rest := []) (lenOf pd_4 rfl) rfl (by show 2 * 0 + _ ≤ _; exact Nat.le_of_eq rfl) (hb hby d11_10) (fun _ _ => ⟨rfl, e0, (by decide : 0 + 0 ≤ _), (by decide : 0 + 0 ≤ _)⟩)
  dsimp only [Pt.U, Pt.locs, Pt.cells, Pt.slots] at X1 l1 y1 z1 st1 hQ1
  subst l1 y1 z1
  obtain ⟨rfl, N1q, eh1⟩ := hQ1
  have N1 := Fr.app N0 N1q
  refine oSt st1 ?_
  show oGl p e below (T1.setTop (mkF m 13 #[.val (.ref sb), .val (.ref x), .unset] [(.int (3 : Int32))])) _
  refine sistoreN X1 hx (hb hby d11_13) rfl rfl (l' := #[.val (.ref sb), .val (.ref x), .val (.int (3 : Int32))]) (pc' := 14) ?_
  refine saloadN X1 hx (hb hby d11_14) rfl rfl rfl (pc' := 15) ?_
  refine saloadN X1 hx (hb hby d11_15) rfl rfl rfl (pc' := 16) ?_
  obtain ⟨T2, X2, e2, st2⟩ := getF X1 hx hZ hown (host := "") (Or.inl (hw _ (List.mem_of_getElem? (i := 92) rfl))) Via.refl eh1 B2 (g := (mkF m 16 #[.val (.ref sb), .val (.ref x), .val (.int (3 : Int32))] [(.ref sb), (.ref sb)])) rfl rfl (hb hby d11_16)
  refine oOn st2 ?_
  show oGl p e below (T2.setTop (mkF m 19 #[.val (.ref sb), .val (.ref x), .val (.int (3 : Int32))] [(.int (0 : Int32)), (.ref sb)])) _
  refine siloadN X2 hx (hb hby d11_19) rfl rfl (pc' := 20) ?_
  refine siadd X2 hx (hb hby d11_20) rfl (by decide) (z := (3 : Int32)) (pc' := 21) ?_
  have hz3 : n0 ≤ h0.size := by omega
  obtain ⟨cq3, q3, q3'⟩ := E0.cell
  obtain ⟨_, _, ⟨T3, L3, k3, n3⟩, -, X3, ⟨Lc3, hQ3, l3, y3, z3⟩, st3⟩ := X2.privateBack hx (y := (⟨"java/lang/AbstractStringBuilder", "ensureCapacityInternal", "(I)V"⟩ : MethodName)) hown (mvT hZ (hw _ (List.mem_of_getElem? (i := 94) rfl))) (mvT hZ (hw _ (List.mem_of_getElem? (i := 95) rfl))) (oPriv2 (mvT hZ (hw _ (List.mem_of_getElem? (i := 97) rfl))) (Cond.privateMethod_at (mvP hZ (hw _ (List.mem_of_getElem? (i := 96) rfl)) (args := #[]))) (mvT hZ (hw _ (List.mem_of_getElem? (i := 95) rfl))) (by decide)) (Cond.privateMethod_at (mvP hZ (hw _ (List.mem_of_getElem? (i := 96) rfl)) (args := #[]))) (mvT hZ (hw _ (List.mem_of_getElem? (i := 98) rfl))) (by decide) (backOf (W := 0) (rmEns0_3 l Z a0 hw [] sb vb g h0 n0 hz3 E0 B0 B1 B2 PV) hZ (hw _ (List.mem_of_getElem? (i := 98) rfl)) (hw _ (List.mem_of_getElem? (i := 60) rfl)) (by decide) (by decide)) (g := (mkF m 21 #[.val (.ref sb), .val (.ref x), .val (.int (3 : Int32))] [(.int (3 : Int32)), (.ref sb)])) rfl (by rw [hml]; rfl) (Steps.refl _) (a := sb) (by rw [e2]; exact q3) q3' (argsL := [(.int (3 : Int32))]) (rest := []) (lenOf pd_0 rfl) rfl (by show 2 * 0 + _ ≤ _; exact Nat.le_of_eq rfl) (hb hby d11_21) (fun _ _ => ⟨rfl, e2, (by decide : 0 + 0 ≤ _), (by decide : 0 + 0 ≤ _)⟩)
  dsimp only [Pt.U, Pt.locs, Pt.cells, Pt.slots] at X3 l3 y3 z3 st3 hQ3
  subst l3 y3 z3
  obtain ⟨rfl, N3q, eh3⟩ := hQ3
  have N3 := Fr.app N1 N3q
  refine oSt st3 ?_
  show oGl p e below (T3.setTop (mkF m 24 #[.val (.ref sb), .val (.ref x), .val (.int (3 : Int32))] [])) _
  refine saloadN X3 hx (hb hby d11_24) rfl rfl rfl (pc' := 25) ?_
  refine saloadN X3 hx (hb hby d11_25) rfl rfl rfl (pc' := 26) ?_
  obtain ⟨T4, X4, e4, st4⟩ := getF X3 hx hZ hown (host := "") (Or.inl (hw _ (List.mem_of_getElem? (i := 92) rfl))) Via.refl eh3 B2 (g := (mkF m 26 #[.val (.ref sb), .val (.ref x), .val (.int (3 : Int32))] [(.ref sb), (.ref sb)])) rfl rfl (hb hby d11_26)
  refine oOn st4 ?_
  show oGl p e below (T4.setTop (mkF m 29 #[.val (.ref sb), .val (.ref x), .val (.int (3 : Int32))] [(.int (0 : Int32)), (.ref sb)])) _
  refine saloadN X4 hx (hb hby d11_29) rfl rfl rfl (pc' := 30) ?_
  have hz5 : n0 ≤ h0.size := by omega
  obtain ⟨cq5, q5, q5'⟩ := E0.cell
  obtain ⟨_, _, ⟨T5, L5, k5, n5⟩, -, X5, ⟨Lc5, hQ5, l5, y5, z5⟩, st5⟩ := X4.privateBack hx (y := (⟨"java/lang/AbstractStringBuilder", "putStringAt", "(ILjava/lang/String;)V"⟩ : MethodName)) hown (mvT hZ (hw _ (List.mem_of_getElem? (i := 99) rfl))) (mvT hZ (hw _ (List.mem_of_getElem? (i := 100) rfl))) (oPriv2 (mvT hZ (hw _ (List.mem_of_getElem? (i := 102) rfl))) (Cond.privateMethod_at (mvP hZ (hw _ (List.mem_of_getElem? (i := 101) rfl)) (args := #[]))) (mvT hZ (hw _ (List.mem_of_getElem? (i := 100) rfl))) (by decide)) (Cond.privateMethod_at (mvP hZ (hw _ (List.mem_of_getElem? (i := 101) rfl)) (args := #[]))) (mvT hZ (hw _ (List.mem_of_getElem? (i := 103) rfl))) (by decide) (backOf (W := 0) (rmPut0_3 l Z a0 hw [] sb vb x b f g cz h0 n0 hz5 O0 SCS hcz E0 B0 B1 B2 E1 F1 C1 PB PV Ff Fg gs gv nbv) hZ (hw _ (List.mem_of_getElem? (i := 103) rfl)) (hw _ (List.mem_of_getElem? (i := 60) rfl)) (by decide) (by decide)) (g := (mkF m 30 #[.val (.ref sb), .val (.ref x), .val (.int (3 : Int32))] [(.ref x), (.int (0 : Int32)), (.ref sb)])) rfl (by rw [hml]; rfl) (Steps.refl _) (a := sb) (by rw [e4]; exact q5) q5' (argsL := [(.int (0 : Int32)), (.ref x)]) (rest := []) (lenOf pd_5 rfl) rfl (by show 2 * 0 + _ ≤ _; exact Nat.le_of_eq rfl) (hb hby d11_30) (fun _ _ => ⟨rfl, e4, (by decide : 0 + 0 ≤ _), (by decide : 0 + 0 ≤ _)⟩)
  dsimp only [Pt.U, Pt.locs, Pt.cells, Pt.slots] at X5 l5 y5 z5 st5 hQ5
  subst l5 y5 z5
  obtain ⟨rfl, N5q, K5, Vg5⟩ := hQ5
  have N5 := Fr.app N3 N5q
  have z6 : h0.size ≤ T5.heap.size := K5.1
  refine oSt st5 ?_
  show oGl p e below (T5.setTop (mkF m 33 #[.val (.ref sb), .val (.ref x), .val (.int (3 : Int32))] [])) _
  refine saloadN X5 hx (hb hby d11_33) rfl rfl rfl (pc' := 34) ?_
  refine sdup X5 hx (hb hby d11_34) rfl rfl (pc' := 35) ?_
  have f8 := (B2.keep K5 (ninS (oNe (by omega)) nin0))
  obtain ⟨T7, X7, e7, st7⟩ := getF X5 hx hZ hown (host := "") (Or.inl (hw _ (List.mem_of_getElem? (i := 92) rfl))) Via.refl rfl f8 (g := (mkF m 35 #[.val (.ref sb), .val (.ref x), .val (.int (3 : Int32))] [(.ref sb), (.ref sb)])) rfl rfl (hb hby d11_35)
  refine oOn st7 ?_
  show oGl p e below (T7.setTop (mkF m 38 #[.val (.ref sb), .val (.ref x), .val (.int (3 : Int32))] [(.int (0 : Int32)), (.ref sb)])) _
  refine siloadN X7 hx (hb hby d11_38) rfl rfl (pc' := 39) ?_
  refine siadd X7 hx (hb hby d11_39) rfl (by decide) (z := (3 : Int32)) (pc' := 40) ?_
  have f10 := (E0.keep K5)
  obtain ⟨T9, h9, X9, e9, W9, st9⟩ := putF X7 hx hZ hown (host := "") (Or.inl (hw _ (List.mem_of_getElem? (i := 92) rfl))) Via.refl e7 f8 f10 (Or.inl (hw _ (List.mem_of_getElem? (i := 93) rfl))) (hw _ (List.mem_of_getElem? (i := 51) rfl)) (ty := .int) (by decide) rfl rfl (g := (mkF m 40 #[.val (.ref sb), .val (.ref x), .val (.int (3 : Int32))] [(.int (3 : Int32)), (.ref sb)])) rfl rfl (hb hby d11_40)
  refine oOn st9 ?_
  have z11 : T5.heap.size ≤ h9.size := Nat.le_of_eq W9.size.symm
  have N9 := Fr.snoc X9 N5 (by omega)
  have f9 := Fld.same W9 f8
  show oGl p e below (T9.setTop (mkF m 43 #[.val (.ref sb), .val (.ref x), .val (.int (3 : Int32))] [])) _
  refine saloadN X9 hx (hb hby d11_43) rfl rfl rfl (pc' := 44) ?_
  have kp12 : Keep h0 h9 [sb, vb] := (((Keep.refl h0 [sb, vb]).trans K5 (allS (Or.inl (List.mem_of_getElem? (i := 1) rfl)) all0)).wr W9 (Or.inl (List.mem_of_getElem? (i := 0) rfl)))
  have f13 := (f10.wr W9)
  have f14 := ((B0.keep K5 (ninS (oNe (by omega)) nin0)).other W9 (Or.inr (slot_ne (Or.inl (hw _ (List.mem_of_getElem? (i := 65) rfl))) (Or.inl (hw _ (List.mem_of_getElem? (i := 93) rfl))) (by decide) (t := (.array .byte)) (t' := .int) (by decide) (by decide))))
  have f15 := ((B1.keep K5 (ninS (oNe (by omega)) nin0)).other W9 (Or.inr (slot_ne (Or.inl (hw _ (List.mem_of_getElem? (i := 67) rfl))) (Or.inl (hw _ (List.mem_of_getElem? (i := 93) rfl))) (by decide) (t := .byte) (t' := .int) (by decide) (by decide))))
  have f16 := (Vg5.other W9 (oNe (by omega)))
  refine oRetR X9 hx Bd.notSynchronized Bd.returns rfl rfl (hb hby d11_44) (by decide) (by decide) ?_
  show Q_rmAap0_3 Z sb vb x b f g cz h0 n0 _ T9.heap _
  rw [e9]
  exact ⟨rfl, N9, kp12, f13, f14, f15, f9, f16⟩
theorem d10_0 : decode jdk_67_method_7_code 0 = .ok (.aload_n 0, 1) := by decide +kernel
theorem d10_1 : decode jdk_67_method_7_code 1 = .ok (.aload_n 1, 1) := by decide +kernel
theorem d10_2 : decode jdk_67_method_7_code 2 = .ok (.invokespecial 29, 3) := by decide +kernel
theorem pd_6 : parseMethodDescriptor "(Ljava/lang/String;)Ljava/lang/AbstractStringBuilder;" = some ⟨[(.object "java/lang/String")], some (.object "java/lang/AbstractStringBuilder")⟩ := by decide +kernel
theorem d10_5 : decode jdk_67_method_7_code 5 = .ok (.pop, 1) := by decide +kernel
theorem d10_6 : decode jdk_67_method_7_code 6 = .ok (.aload_n 0, 1) := by decide +kernel
theorem d10_7 : decode jdk_67_method_7_code 7 = .ok (.areturn, 1) := by decide +kernel
theorem ef_rmApp0_3 (m : MethodId) (x0 : Nat) (x1 : Nat)  : entryFrame m #[(.ref x0), (.ref x1)] 2 = mkF m 0 #[.val (.ref x0), .val (.ref x1)] [] := by first | (simp [entryFrame, mkF, argsToLocals, Value.category, maxLocals]; done) | rfl
def Q_rmApp0_3 (Z : State) (sb vb x b : Nat) (f g : Nat → Int32) (cz : Int32) (h0 : Heap) (n0 : Nat) (vv : Option Value) (h : Heap) (L : List Loc) : Prop := vv = some (.ref sb) ∧ Fr n0 L ∧ Keep h0 h [sb, vb] ∧ Exa Z h sb "java/lang/StringBuilder" ∧ Fld Z h sb "java/lang/AbstractStringBuilder" "value" "[B" (.ref vb) ∧ Fld Z h sb "java/lang/AbstractStringBuilder" "coder" "B" (.int 0) ∧ Fld Z h sb "java/lang/AbstractStringBuilder" "count" "I" (.int 3) ∧ oAI Z h vb .byte 16 (oCpF 0 3 (fun i => f (0 + i)) g)
set_option maxRecDepth 65536 in
set_option maxHeartbeats 40000000 in
theorem rmApp0_3 (l : Launch) (Z : State) (a0 : Array Value) (hw : ∀ d ∈ tables_1, d.before a0 Z = true) (ws : List Jvm.Cond) (sb vb x b : Nat) (f g : Nat → Int32) (cz : Int32) (h0 : Heap) (n0 : Nat) (Z0 : n0 ≤ h0.size) (O0 : oOld Z n0 h0) (SCS : Sta Z Z.heap "java/lang/String" "COMPACT_STRINGS" "Z" (.int cz)) (hcz : ¬ cz = (0 : Int32)) (E0 : Exa Z h0 sb "java/lang/StringBuilder") (B0 : Fld Z h0 sb "java/lang/AbstractStringBuilder" "value" "[B" (.ref vb)) (B1 : Fld Z h0 sb "java/lang/AbstractStringBuilder" "coder" "B" (.int 0)) (B2 : Fld Z h0 sb "java/lang/AbstractStringBuilder" "count" "I" (.int 0)) (E1 : Exa Z h0 x "java/lang/String") (F1 : Fld Z h0 x "java/lang/String" "value" "[B" (.ref b)) (C1 : Fld Z h0 x "java/lang/String" "coder" "B" (.int 0)) (PB : oAI Z h0 b .byte 3 f) (PV : oAI Z h0 vb .byte 16 g) (Ff : oFit 3 f) (Fg : oFit 16 g) (gs : n0 ≤ sb) (gv : n0 ≤ vb) (nbv : b ≠ vb) :
    MetFree l (⟨"java/lang/StringBuilder", "append", "(Ljava/lang/String;)Ljava/lang/StringBuilder;"⟩ : MethodName) (head1 (Jvm.Cond.code (⟨"java/lang/StringBuilder", "append", "(Ljava/lang/String;)Ljava/lang/StringBuilder;"⟩ : MethodName) jdk_67_method_7_code 2 (some (.object "java/lang/StringBuilder")) :: ws) ({ frames := 4, cells := 0, slots := 0, locals := 61 } : Room)) (fun aA uU => aA = #[(.ref sb), (.ref x)] ∧ Z.Warmed39 uU.vm ∧ uU.heap = h0) (fun _ _ _ _ _ => True) (fun _ uU oO uU' => ∃ vV lL, oO = .returned vV ∧ Q_rmApp0_3 Z sb vb x b f g cz h0 n0 vV uU'.heap lL ∧ FrameEnd uU oO uU' lL ({ frames := 4, cells := 0, slots := 0, locals := 61 } : Room).cells ({ frames := 4, cells := 0, slots := 0, locals := 61 } : Room).slots) := by
  refine MetFree.of_bodySF (plainFor_of_name pn_StringBuilder) hisR ?_
  intro p e s m args below meth c s₁ Bd hml0 hP hK
  obtain ⟨rfl, hZ, hh⟩ := hP
  have hx := Bd.exec
  have hby := Bd.bytes
  have hml : c.maxLocals = 2 := hml0
  have hown : s.vm.findClass "java/lang/StringBuilder" = some m.cls := findClass_of_methodNamed Bd.named
  have hnm := (name_of_methodNamed Bd.named Bd.method).1
  have X0 : Stand p l e ({ frames := 4, cells := 0, slots := 0, locals := 61 } : Room) s m #[(.ref sb), (.ref x)] below meth c s₁ [] 0 0 := Stand.of_body Bd
  have e0 : s₁.heap = h0 := by rw [← hh, Bd.state]; rfl
  have N0 := Fr.nil n0
  have lB : @LT.lt Nat _ b h0.size := PB.lt
  have lV : @LT.lt Nat _ vb h0.size := PV.lt
  have nb9 : @Ne Nat b vb := nbv
  have lS : @LT.lt Nat _ sb h0.size := E0.lt
  have nsv : @Ne Nat sb vb := oNeO E0 (hw _ (List.mem_of_getElem? (i := 51) rfl)) PV
  have nxv : @Ne Nat x vb := oNeO E1 (hw _ (List.mem_of_getElem? (i := 6) rfl)) PV
  have nsb : @Ne Nat sb b := oNeO E0 (hw _ (List.mem_of_getElem? (i := 51) rfl)) PB
  refine oEnter (oCast (ef_rmApp0_3 m sb x ) ?_)
  show oGl p e below (s₁.setTop (mkF m 0 #[.val (.ref sb), .val (.ref x)] [])) _
  refine saloadN X0 hx (hb hby d10_0) rfl rfl rfl (pc' := 1) ?_
  refine saloadN X0 hx (hb hby d10_1) rfl rfl rfl (pc' := 2) ?_
  have hz1 : n0 ≤ h0.size := by omega
  obtain ⟨_, _, ⟨T1, L1, k1, n1⟩, -, X1, ⟨Lc1, hQ1, l1, y1, z1⟩, st1⟩ := superBack X0 hx hZ (y := (⟨"java/lang/AbstractStringBuilder", "append", "(Ljava/lang/String;)Ljava/lang/AbstractStringBuilder;"⟩ : MethodName)) hown (hw _ (List.mem_of_getElem? (i := 74) rfl)) (oSame (hw _ (List.mem_of_getElem? (i := 77) rfl)) (hw _ (List.mem_of_getElem? (i := 97) rfl)) rfl (by decide)) (hw _ (List.mem_of_getElem? (i := 75) rfl)) (hw _ (List.mem_of_getElem? (i := 76) rfl)) (by decide) (backOf (W := 0) (rmAap0_3 l Z a0 hw [] sb vb x b f g cz h0 n0 hz1 O0 SCS hcz E0 B0 B1 B2 E1 F1 C1 PB PV Ff Fg gs gv nbv) hZ (hw _ (List.mem_of_getElem? (i := 78) rfl)) (hw _ (List.mem_of_getElem? (i := 60) rfl)) (by decide) (by decide)) e0 (Ins.self E0) (g := (mkF m 2 #[.val (.ref sb), .val (.ref x)] [(.ref x), (.ref sb)])) rfl (by rw [hml]; rfl) (hw _ (List.mem_of_getElem? (i := 78) rfl)) (argsL := [(.ref x)]) (rest := []) (lenOf pd_6 rfl) rfl (by show 2 * 0 + _ ≤ _; exact Nat.le_of_eq rfl) (hb hby d10_2) (fun _ _ => ⟨rfl, e0, (by decide : 0 + 0 ≤ _), (by decide : 0 + 0 ≤ _)⟩)
  dsimp only [Pt.U, Pt.locs, Pt.cells, Pt.slots] at X1 l1 y1 z1 st1 hQ1
  subst l1 y1 z1
  obtain ⟨rfl, N1q, K1, Eg1, Ba1, Bb1, Bc1, Vg1⟩ := hQ1
  have N1 := Fr.app N0 N1q
  have z2 : h0.size ≤ T1.heap.size := K1.1
  refine oSt st1 ?_
  show oGl p e below (T1.setTop (mkF m 5 #[.val (.ref sb), .val (.ref x)] [(.ref sb)])) _
  refine spop X1 hx (hb hby d10_5) rfl rfl (pc' := 6) ?_
  refine saloadN X1 hx (hb hby d10_6) rfl rfl rfl (pc' := 7) ?_
  have kp3 : Keep h0 T1.heap [sb, vb] := ((Keep.refl h0 [sb, vb]).trans K1 (allS (Or.inl (List.mem_of_getElem? (i := 0) rfl)) (allS (Or.inl (List.mem_of_getElem? (i := 1) rfl)) all0)))
  refine oRetR X1 hx Bd.notSynchronized Bd.returns rfl rfl (hb hby d10_7) (by decide) (by decide) ?_
  show Q_rmApp0_3 Z sb vb x b f g cz h0 n0 _ T1.heap _
  exact ⟨rfl, N1, kp3, Eg1, Ba1, Bb1, Bc1, Vg1⟩
theorem ef_rmLen3_8 (m : MethodId) (x0 : Nat)  : entryFrame m #[(.ref x0)] 1 = mkF m 0 #[.val (.ref x0)] [] := by first | (simp [entryFrame, mkF, argsToLocals, Value.category, maxLocals]; done) | rfl
def Q_rmLen3_8 (Z : State) (x b : Nat) (f : Nat → Int32) (cz : Int32) (h0 : Heap) (n0 : Nat) (vv : Option Value) (h : Heap) (L : List Loc) : Prop := vv = some (.int 8) ∧ Fr n0 L ∧ h = h0
set_option maxRecDepth 65536 in
set_option maxHeartbeats 40000000 in
theorem rmLen3_8 (l : Launch) (Z : State) (a0 : Array Value) (hw : ∀ d ∈ tables_1, d.before a0 Z = true) (ws : List Jvm.Cond) (x b : Nat) (f : Nat → Int32) (cz : Int32) (h0 : Heap) (n0 : Nat) (Z0 : n0 ≤ h0.size) (O0 : oOld Z n0 h0) (SCS : Sta Z Z.heap "java/lang/String" "COMPACT_STRINGS" "Z" (.int cz)) (hcz : ¬ cz = (0 : Int32)) (E1 : Exa Z h0 x "java/lang/String") (F1 : Fld Z h0 x "java/lang/String" "value" "[B" (.ref b)) (C1 : Fld Z h0 x "java/lang/String" "coder" "B" (.int 0)) (PB : oAI Z h0 b .byte 8 f) :
    MetFree l (⟨"java/lang/String", "length", "()I"⟩ : MethodName) (head1 (Jvm.Cond.code (⟨"java/lang/String", "length", "()I"⟩ : MethodName) jdk_42_method_54_code 1 (some .int) :: ws) ({ frames := 1, cells := 0, slots := 0, locals := 13 } : Room)) (fun aA uU => aA = #[(.ref x)] ∧ Z.Warmed39 uU.vm ∧ uU.heap = h0) (fun _ _ _ _ _ => True) (fun _ uU oO uU' => ∃ vV lL, oO = .returned vV ∧ Q_rmLen3_8 Z x b f cz h0 n0 vV uU'.heap lL ∧ FrameEnd uU oO uU' lL ({ frames := 1, cells := 0, slots := 0, locals := 13 } : Room).cells ({ frames := 1, cells := 0, slots := 0, locals := 13 } : Room).slots) := by
  refine MetFree.of_bodySF (plainFor_of_name pn_String) hisR ?_
  intro p e s m args below meth c s₁ Bd hml0 hP hK
  obtain ⟨rfl, hZ, hh⟩ := hP
  have hx := Bd.exec
  have hby := Bd.bytes
  have hml : c.maxLocals = 1 := hml0
  have hown : s.vm.findClass "java/lang/String" = some m.cls := findClass_of_methodNamed Bd.named
  have hnm := (name_of_methodNamed Bd.named Bd.method).1
  have X0 : Stand p l e ({ frames := 1, cells := 0, slots := 0, locals := 13 } : Room) s m #[(.ref x)] below meth c s₁ [] 0 0 := Stand.of_body Bd
  have e0 : s₁.heap = h0 := by rw [← hh, Bd.state]; rfl
  have N0 := Fr.nil n0
  refine oEnter (oCast (ef_rmLen3_8 m x ) ?_)
  show oGl p e below (s₁.setTop (mkF m 0 #[.val (.ref x)] [])) _
  refine saloadN X0 hx (hb hby d12_0) rfl rfl rfl (pc' := 1) ?_
  obtain ⟨T1, X1, e1, st1⟩ := getF X0 hx hZ hown (host := "") (Or.inl (hw _ (List.mem_of_getElem? (i := 84) rfl))) Via.refl e0 F1 (g := (mkF m 1 #[.val (.ref x)] [(.ref x)])) rfl rfl (hb hby d12_1)
  refine oOn st1 ?_
  show oGl p e below (T1.setTop (mkF m 4 #[.val (.ref x)] [(.ref b)])) _
  refine oOn (PB.len X1 hx hZ e1 (g := (mkF m 4 #[.val (.ref x)] [(.ref b)])) rfl rfl (hb hby d12_4)) ?_
  show oGl p e below (T1.setTop (mkF m 5 #[.val (.ref x)] [(.int (8 : Int32))])) _
  refine saloadN X1 hx (hb hby d12_5) rfl rfl rfl (pc' := 6) ?_
  have hz2 : n0 ≤ h0.size := by omega
  obtain ⟨cq2, kq2, q2a, q2b, q2c⟩ := isOf hZ e1 E1
  obtain ⟨_, _, ⟨T2, L2, k2, n2⟩, -, X2, ⟨Lc2, hQ2, l2, y2, z2⟩, st2⟩ := X1.virtualBack hx (y := (⟨"java/lang/String", "coder", "()B"⟩ : MethodName)) (z := (⟨"java/lang/String", "coder", "()B"⟩ : MethodName)) hown (mvT hZ (hw _ (List.mem_of_getElem? (i := 85) rfl))) (mvT hZ (hw _ (List.mem_of_getElem? (i := 86) rfl))) (notFace_of_selects (args := #[]) (mvT hZ (hw _ (List.mem_of_getElem? (i := 88) rfl)))) (mvT hZ (hw _ (List.mem_of_getElem? (i := 88) rfl))) (mvT hZ (hw _ (List.mem_of_getElem? (i := 87) rfl))) (by decide) (backOf (W := 1) (rmCdr l Z a0 hw [] x cz h0 n0 hz2 O0 SCS hcz C1) hZ (hw _ (List.mem_of_getElem? (i := 89) rfl)) (hw _ (List.mem_of_getElem? (i := 5) rfl)) (by decide) (by decide)) q2a q2c (g := (mkF m 6 #[.val (.ref x)] [(.ref x), (.int (8 : Int32))])) rfl (by rw [hml]; rfl) (Steps.refl _) (argsL := []) (rest := [(.int (8 : Int32))]) (lenOf pd_1 rfl) rfl (by show 2 * 0 + _ ≤ _; exact Nat.le_of_eq rfl) (hb hby d12_6) (fun _ _ => ⟨rfl, e1, (by decide : 0 + 0 ≤ _), (by decide : 0 + 0 ≤ _)⟩)
  dsimp only [Pt.U, Pt.locs, Pt.cells, Pt.slots] at X2 l2 y2 z2 st2 hQ2
  subst l2 y2 z2
  obtain ⟨rfl, N2q, eh2⟩ := hQ2
  have N2 := Fr.app N0 N2q
  refine oSt st2 ?_
  show oGl p e below (T2.setTop (mkF m 9 #[.val (.ref x)] [(.int (0 : Int32)), (.int (8 : Int32))])) _
  refine sishr X2 hx (hb hby d12_9) rfl (by decide) (z := (8 : Int32)) (pc' := 10) ?_
  refine oRetI X2 hx Bd.notSynchronized Bd.returns (hb hby d12_10) (by decide) (by decide) ?_
  show Q_rmLen3_8 Z x b f cz h0 n0 _ T2.heap _
  rw [eh2]
  exact ⟨rfl, N2, rfl⟩
theorem ef_rmEns3_8 (m : MethodId) (x0 : Nat) (x1 : Int32)  : entryFrame m #[(.ref x0), (.int x1)] 3 = mkF m 0 #[.val (.ref x0), .val (.int x1), .unset] [] := by first | (simp [entryFrame, mkF, argsToLocals, Value.category, maxLocals]; done) | rfl
def Q_rmEns3_8 (Z : State) (sb vb : Nat) (g : Nat → Int32) (h0 : Heap) (n0 : Nat) (vv : Option Value) (h : Heap) (L : List Loc) : Prop := vv = none ∧ Fr n0 L ∧ h = h0
set_option maxRecDepth 65536 in
set_option maxHeartbeats 40000000 in
theorem rmEns3_8 (l : Launch) (Z : State) (a0 : Array Value) (hw : ∀ d ∈ tables_1, d.before a0 Z = true) (ws : List Jvm.Cond) (sb vb : Nat) (g : Nat → Int32) (h0 : Heap) (n0 : Nat) (Z0 : n0 ≤ h0.size) (E0 : Exa Z h0 sb "java/lang/StringBuilder") (B0 : Fld Z h0 sb "java/lang/AbstractStringBuilder" "value" "[B" (.ref vb)) (B1 : Fld Z h0 sb "java/lang/AbstractStringBuilder" "coder" "B" (.int 0)) (B2 : Fld Z h0 sb "java/lang/AbstractStringBuilder" "count" "I" (.int 3)) (PV : oAI Z h0 vb .byte 16 g) :
    MetFree l (⟨"java/lang/AbstractStringBuilder", "ensureCapacityInternal", "(I)V"⟩ : MethodName) (head1 (Jvm.Cond.code (⟨"java/lang/AbstractStringBuilder", "ensureCapacityInternal", "(I)V"⟩ : MethodName) jdk_68_method_9_code 3 (none : Option FieldType) :: ws) ({ frames := 0, cells := 0, slots := 0, locals := 0 } : Room)) (fun aA uU => aA = #[(.ref sb), (.int (11 : Int32))] ∧ Z.Warmed39 uU.vm ∧ uU.heap = h0) (fun _ _ _ _ _ => True) (fun _ uU oO uU' => ∃ vV lL, oO = .returned vV ∧ Q_rmEns3_8 Z sb vb g h0 n0 vV uU'.heap lL ∧ FrameEnd uU oO uU' lL ({ frames := 0, cells := 0, slots := 0, locals := 0 } : Room).cells ({ frames := 0, cells := 0, slots := 0, locals := 0 } : Room).slots) := by
  refine MetFree.of_bodySF (plainFor_of_name pn_AbstractStringBuilder) hisR ?_
  intro p e s m args below meth c s₁ Bd hml0 hP hK
  obtain ⟨rfl, hZ, hh⟩ := hP
  have hx := Bd.exec
  have hby := Bd.bytes
  have hml : c.maxLocals = 3 := hml0
  have hown : s.vm.findClass "java/lang/AbstractStringBuilder" = some m.cls := findClass_of_methodNamed Bd.named
  have hnm := (name_of_methodNamed Bd.named Bd.method).1
  have X0 : Stand p l e ({ frames := 0, cells := 0, slots := 0, locals := 0 } : Room) s m #[(.ref sb), (.int (11 : Int32))] below meth c s₁ [] 0 0 := Stand.of_body Bd
  have e0 : s₁.heap = h0 := by rw [← hh, Bd.state]; rfl
  have N0 := Fr.nil n0
  refine oEnter (oCast (ef_rmEns3_8 m sb (11 : Int32) ) ?_)
  show oGl p e below (s₁.setTop (mkF m 0 #[.val (.ref sb), .val (.int (11 : Int32)), .unset] [])) _
  refine saloadN X0 hx (hb hby d14_0) rfl rfl rfl (pc' := 1) ?_
  obtain ⟨T1, X1, e1, st1⟩ := getF X0 hx hZ hown (host := "") (Or.inl (hw _ (List.mem_of_getElem? (i := 64) rfl))) Via.refl e0 B0 (g := (mkF m 1 #[.val (.ref sb), .val (.int (11 : Int32)), .unset] [(.ref sb)])) rfl rfl (hb hby d14_1)
  refine oOn st1 ?_
  show oGl p e below (T1.setTop (mkF m 4 #[.val (.ref sb), .val (.int (11 : Int32)), .unset] [(.ref vb)])) _
  refine oOn (PV.len X1 hx hZ e1 (g := (mkF m 4 #[.val (.ref sb), .val (.int (11 : Int32)), .unset] [(.ref vb)])) rfl rfl (hb hby d14_4)) ?_
  show oGl p e below (T1.setTop (mkF m 5 #[.val (.ref sb), .val (.int (11 : Int32)), .unset] [(.int (16 : Int32))])) _
  refine saloadN X1 hx (hb hby d14_5) rfl rfl rfl (pc' := 6) ?_
  obtain ⟨T2, X2, e2, st2⟩ := getF X1 hx hZ hown (host := "") (Or.inl (hw _ (List.mem_of_getElem? (i := 66) rfl))) Via.refl e1 B1 (g := (mkF m 6 #[.val (.ref sb), .val (.int (11 : Int32)), .unset] [(.ref sb), (.int (16 : Int32))])) rfl rfl (hb hby d14_6)
  refine oOn st2 ?_
  show oGl p e below (T2.setTop (mkF m 9 #[.val (.ref sb), .val (.int (11 : Int32)), .unset] [(.int (0 : Int32)), (.int (16 : Int32))])) _
  refine sishr X2 hx (hb hby d14_9) rfl (by decide) (z := (16 : Int32)) (pc' := 10) ?_
  refine sistoreN X2 hx (hb hby d14_10) rfl rfl (l' := #[.val (.ref sb), .val (.int (11 : Int32)), .val (.int (16 : Int32))]) (pc' := 11) ?_
  refine siloadN X2 hx (hb hby d14_11) rfl rfl (pc' := 12) ?_
  refine siloadN X2 hx (hb hby d14_12) rfl rfl (pc' := 13) ?_
  refine sisub X2 hx (hb hby d14_13) rfl (by decide) (z := (-5 : Int32)) (pc' := 14) ?_
  refine sifY X2 hx (hb hby d14_14) (by decide) (by decide) (flt (by decide : ¬ ((0 : Int32) < (-5 : Int32)))).2.2.2 (pc' := 38) ?_
  refine oRet0 X2 hx Bd.notSynchronized Bd.returns (hb hby d14_38) (by decide) (by decide) ?_
  show Q_rmEns3_8 Z sb vb g h0 n0 _ T2.heap _
  rw [e2]
  exact ⟨rfl, N0, rfl⟩
theorem ef_rmInf3_8 (m : MethodId) (x0 : Nat) (x1 : Nat)  : entryFrame m #[(.ref x0), (.ref x1)] 2 = mkF m 0 #[.val (.ref x0), .val (.ref x1)] [] := by first | (simp [entryFrame, mkF, argsToLocals, Value.category, maxLocals]; done) | rfl
def Q_rmInf3_8 (Z : State) (sb vb x : Nat) (cz : Int32) (h0 : Heap) (n0 : Nat) (vv : Option Value) (h : Heap) (L : List Loc) : Prop := vv = none ∧ Fr n0 L ∧ h = h0
set_option maxRecDepth 65536 in
set_option maxHeartbeats 40000000 in
theorem rmInf3_8 (l : Launch) (Z : State) (a0 : Array Value) (hw : ∀ d ∈ tables_1, d.before a0 Z = true) (ws : List Jvm.Cond) (sb vb x : Nat) (cz : Int32) (h0 : Heap) (n0 : Nat) (Z0 : n0 ≤ h0.size) (O0 : oOld Z n0 h0) (SCS : Sta Z Z.heap "java/lang/String" "COMPACT_STRINGS" "Z" (.int cz)) (hcz : ¬ cz = (0 : Int32)) (E0 : Exa Z h0 sb "java/lang/StringBuilder") (B0 : Fld Z h0 sb "java/lang/AbstractStringBuilder" "value" "[B" (.ref vb)) (B1 : Fld Z h0 sb "java/lang/AbstractStringBuilder" "coder" "B" (.int 0)) (B2 : Fld Z h0 sb "java/lang/AbstractStringBuilder" "count" "I" (.int 3)) (E1 : Exa Z h0 x "java/lang/String") (C1 : Fld Z h0 x "java/lang/String" "coder" "B" (.int 0)) :
    MetFree l (⟨"java/lang/AbstractStringBuilder", "inflateIfNeededFor", "(Ljava/lang/String;)V"⟩ : MethodName) (head1 (Jvm.Cond.code (⟨"java/lang/AbstractStringBuilder", "inflateIfNeededFor", "(Ljava/lang/String;)V"⟩ : MethodName) jdk_68_method_71_code 2 (none : Option FieldType) :: ws) ({ frames := 1, cells := 0, slots := 0, locals := 13 } : Room)) (fun aA uU => aA = #[(.ref sb), (.ref x)] ∧ Z.Warmed39 uU.vm ∧ uU.heap = h0) (fun _ _ _ _ _ => True) (fun _ uU oO uU' => ∃ vV lL, oO = .returned vV ∧ Q_rmInf3_8 Z sb vb x cz h0 n0 vV uU'.heap lL ∧ FrameEnd uU oO uU' lL ({ frames := 1, cells := 0, slots := 0, locals := 13 } : Room).cells ({ frames := 1, cells := 0, slots := 0, locals := 13 } : Room).slots) := by
  refine MetFree.of_bodySF (plainFor_of_name pn_AbstractStringBuilder) hisR ?_
  intro p e s m args below meth c s₁ Bd hml0 hP hK
  obtain ⟨rfl, hZ, hh⟩ := hP
  have hx := Bd.exec
  have hby := Bd.bytes
  have hml : c.maxLocals = 2 := hml0
  have hown : s.vm.findClass "java/lang/AbstractStringBuilder" = some m.cls := findClass_of_methodNamed Bd.named
  have hnm := (name_of_methodNamed Bd.named Bd.method).1
  have X0 : Stand p l e ({ frames := 1, cells := 0, slots := 0, locals := 13 } : Room) s m #[(.ref sb), (.ref x)] below meth c s₁ [] 0 0 := Stand.of_body Bd
  have e0 : s₁.heap = h0 := by rw [← hh, Bd.state]; rfl
  have N0 := Fr.nil n0
  refine oEnter (oCast (ef_rmInf3_8 m sb x ) ?_)
  show oGl p e below (s₁.setTop (mkF m 0 #[.val (.ref sb), .val (.ref x)] [])) _
  obtain ⟨T1, X1, e1, st1⟩ := getS2 X0 hx hZ hown (host := "") (Or.inl (hw _ (List.mem_of_getElem? (i := 63) rfl))) Via.refl e0 (SCS.ext O0.2) (g := (mkF m 0 #[.val (.ref sb), .val (.ref x)] [])) rfl (hb hby d16_0)
  refine oOn st1 ?_
  show oGl p e below (T1.setTop (mkF m 3 #[.val (.ref sb), .val (.ref x)] [(.int cz)])) _
  refine sifN X1 hx (hb hby d16_3) rfl (feq (hcz : ¬ (cz = (0 : Int32)))).1 (pc' := 6) ?_
  refine saloadN X1 hx (hb hby d16_6) rfl rfl rfl (pc' := 7) ?_
  obtain ⟨T2, X2, e2, st2⟩ := getF X1 hx hZ hown (host := "") (Or.inl (hw _ (List.mem_of_getElem? (i := 66) rfl))) Via.refl e1 B1 (g := (mkF m 7 #[.val (.ref sb), .val (.ref x)] [(.ref sb)])) rfl rfl (hb hby d16_7)
  refine oOn st2 ?_
  show oGl p e below (T2.setTop (mkF m 10 #[.val (.ref sb), .val (.ref x)] [(.int (0 : Int32))])) _
  refine saloadN X2 hx (hb hby d16_10) rfl rfl rfl (pc' := 11) ?_
  have hz3 : n0 ≤ h0.size := by omega
  obtain ⟨cq3, kq3, q3a, q3b, q3c⟩ := isOf hZ e2 E1
  obtain ⟨_, _, ⟨T3, L3, k3, n3⟩, -, X3, ⟨Lc3, hQ3, l3, y3, z3⟩, st3⟩ := X2.virtualBack hx (y := (⟨"java/lang/String", "coder", "()B"⟩ : MethodName)) (z := (⟨"java/lang/String", "coder", "()B"⟩ : MethodName)) hown (mvT hZ (hw _ (List.mem_of_getElem? (i := 109) rfl))) (mvT hZ (hw _ (List.mem_of_getElem? (i := 86) rfl))) (notFace_of_selects (args := #[]) (mvT hZ (hw _ (List.mem_of_getElem? (i := 88) rfl)))) (mvT hZ (hw _ (List.mem_of_getElem? (i := 88) rfl))) (mvT hZ (hw _ (List.mem_of_getElem? (i := 87) rfl))) (by decide) (backOf (W := 1) (rmCdr l Z a0 hw [] x cz h0 n0 hz3 O0 SCS hcz C1) hZ (hw _ (List.mem_of_getElem? (i := 89) rfl)) (hw _ (List.mem_of_getElem? (i := 5) rfl)) (by decide) (by decide)) q3a q3c (g := (mkF m 11 #[.val (.ref sb), .val (.ref x)] [(.ref x), (.int (0 : Int32))])) rfl (by rw [hml]; rfl) (Steps.refl _) (argsL := []) (rest := [(.int (0 : Int32))]) (lenOf pd_1 rfl) rfl (by show 2 * 0 + _ ≤ _; exact Nat.le_of_eq rfl) (hb hby d16_11) (fun _ _ => ⟨rfl, e2, (by decide : 0 + 0 ≤ _), (by decide : 0 + 0 ≤ _)⟩)
  dsimp only [Pt.U, Pt.locs, Pt.cells, Pt.slots] at X3 l3 y3 z3 st3 hQ3
  subst l3 y3 z3
  obtain ⟨rfl, N3q, eh3⟩ := hQ3
  have N3 := Fr.app N0 N3q
  refine oSt st3 ?_
  show oGl p e below (T3.setTop (mkF m 14 #[.val (.ref sb), .val (.ref x)] [(.int (0 : Int32)), (.int (0 : Int32))])) _
  refine sicY X3 hx (hb hby d16_14) (by decide) (by decide) (teq (by decide : (0 : Int32) = (0 : Int32))).1 (pc' := 21) ?_
  refine oRet0 X3 hx Bd.notSynchronized Bd.returns (hb hby d16_21) (by decide) (by decide) ?_
  show Q_rmInf3_8 Z sb vb x cz h0 n0 _ T3.heap _
  rw [eh3]
  exact ⟨rfl, N3, rfl⟩
theorem ef_rmGby3_8 (m : MethodId) (x0 : Nat) (x1 : Nat) (x2 : Int32) (x3 : Int32)  : entryFrame m #[(.ref x0), (.ref x1), (.int x2), (.int x3)] 4 = mkF m 0 #[.val (.ref x0), .val (.ref x1), .val (.int x2), .val (.int x3)] [] := by first | (simp [entryFrame, mkF, argsToLocals, Value.category, maxLocals]; done) | rfl
def Q_rmGby3_8 (Z : State) (vb x b : Nat) (f g : Nat → Int32) (cz : Int32) (h0 : Heap) (n0 : Nat) (vv : Option Value) (h : Heap) (L : List Loc) : Prop := vv = none ∧ Fr n0 L ∧ Keep h0 h [vb] ∧ oAI Z h vb .byte 16 (oCpF 3 8 (fun i => f (0 + i)) g)
set_option maxRecDepth 65536 in
set_option maxHeartbeats 40000000 in
theorem rmGby3_8 (l : Launch) (Z : State) (a0 : Array Value) (hw : ∀ d ∈ tables_1, d.before a0 Z = true) (ws : List Jvm.Cond) (vb x b : Nat) (f g : Nat → Int32) (cz : Int32) (h0 : Heap) (n0 : Nat) (Z0 : n0 ≤ h0.size) (O0 : oOld Z n0 h0) (SCS : Sta Z Z.heap "java/lang/String" "COMPACT_STRINGS" "Z" (.int cz)) (hcz : ¬ cz = (0 : Int32)) (E1 : Exa Z h0 x "java/lang/String") (F1 : Fld Z h0 x "java/lang/String" "value" "[B" (.ref b)) (C1 : Fld Z h0 x "java/lang/String" "coder" "B" (.int 0)) (PB : oAI Z h0 b .byte 8 f) (PV : oAI Z h0 vb .byte 16 g) (Ff : oFit 8 f) (Fg : oFit 16 g) (gv : n0 ≤ vb) (nbv : b ≠ vb) :
    MetFree l (⟨"java/lang/String", "getBytes", "([BIB)V"⟩ : MethodName) (head1 (Jvm.Cond.code (⟨"java/lang/String", "getBytes", "([BIB)V"⟩ : MethodName) jdk_42_method_147_code 4 (none : Option FieldType) :: ws) ({ frames := 1, cells := 0, slots := 0, locals := 18 } : Room)) (fun aA uU => aA = #[(.ref x), (.ref vb), (.int (3 : Int32)), (.int (0 : Int32))] ∧ Z.Warmed39 uU.vm ∧ uU.heap = h0) (fun _ _ _ _ _ => True) (fun _ uU oO uU' => ∃ vV lL, oO = .returned vV ∧ Q_rmGby3_8 Z vb x b f g cz h0 n0 vV uU'.heap lL ∧ FrameEnd uU oO uU' lL ({ frames := 1, cells := 0, slots := 0, locals := 18 } : Room).cells ({ frames := 1, cells := 0, slots := 0, locals := 18 } : Room).slots) := by
  refine MetFree.of_bodySF (plainFor_of_name pn_String) hisR ?_
  intro p e s m args below meth c s₁ Bd hml0 hP hK
  obtain ⟨rfl, hZ, hh⟩ := hP
  have hx := Bd.exec
  have hby := Bd.bytes
  have hml : c.maxLocals = 4 := hml0
  have hown : s.vm.findClass "java/lang/String" = some m.cls := findClass_of_methodNamed Bd.named
  have hnm := (name_of_methodNamed Bd.named Bd.method).1
  have X0 : Stand p l e ({ frames := 1, cells := 0, slots := 0, locals := 18 } : Room) s m #[(.ref x), (.ref vb), (.int (3 : Int32)), (.int (0 : Int32))] below meth c s₁ [] 0 0 := Stand.of_body Bd
  have e0 : s₁.heap = h0 := by rw [← hh, Bd.state]; rfl
  have N0 := Fr.nil n0
  have lB : @LT.lt Nat _ b h0.size := PB.lt
  have lV : @LT.lt Nat _ vb h0.size := PV.lt
  have nb9 : @Ne Nat b vb := nbv
  refine oEnter (oCast (ef_rmGby3_8 m x vb (3 : Int32) (0 : Int32) ) ?_)
  show oGl p e below (s₁.setTop (mkF m 0 #[.val (.ref x), .val (.ref vb), .val (.int (3 : Int32)), .val (.int (0 : Int32))] [])) _
  refine saloadN X0 hx (hb hby d17_0) rfl rfl rfl (pc' := 1) ?_
  have hz1 : n0 ≤ h0.size := by omega
  obtain ⟨cq1, kq1, q1a, q1b, q1c⟩ := isOf hZ e0 E1
  obtain ⟨_, _, ⟨T1, L1, k1, n1⟩, -, X1, ⟨Lc1, hQ1, l1, y1, z1⟩, st1⟩ := X0.virtualBack hx (y := (⟨"java/lang/String", "coder", "()B"⟩ : MethodName)) (z := (⟨"java/lang/String", "coder", "()B"⟩ : MethodName)) hown (mvT hZ (hw _ (List.mem_of_getElem? (i := 85) rfl))) (mvT hZ (hw _ (List.mem_of_getElem? (i := 86) rfl))) (notFace_of_selects (args := #[]) (mvT hZ (hw _ (List.mem_of_getElem? (i := 88) rfl)))) (mvT hZ (hw _ (List.mem_of_getElem? (i := 88) rfl))) (mvT hZ (hw _ (List.mem_of_getElem? (i := 87) rfl))) (by decide) (backOf (W := 0) (rmCdr l Z a0 hw [] x cz h0 n0 hz1 O0 SCS hcz C1) hZ (hw _ (List.mem_of_getElem? (i := 89) rfl)) (hw _ (List.mem_of_getElem? (i := 5) rfl)) (by decide) (by decide)) q1a q1c (g := (mkF m 1 #[.val (.ref x), .val (.ref vb), .val (.int (3 : Int32)), .val (.int (0 : Int32))] [(.ref x)])) rfl (by rw [hml]; rfl) (Steps.refl _) (argsL := []) (rest := []) (lenOf pd_1 rfl) rfl (by show 2 * 0 + _ ≤ _; exact Nat.le_of_eq rfl) (hb hby d17_1) (fun _ _ => ⟨rfl, e0, (by decide : 0 + 0 ≤ _), (by decide : 0 + 0 ≤ _)⟩)
  dsimp only [Pt.U, Pt.locs, Pt.cells, Pt.slots] at X1 l1 y1 z1 st1 hQ1
  subst l1 y1 z1
  obtain ⟨rfl, N1q, eh1⟩ := hQ1
  have N1 := Fr.app N0 N1q
  refine oSt st1 ?_
  show oGl p e below (T1.setTop (mkF m 4 #[.val (.ref x), .val (.ref vb), .val (.int (3 : Int32)), .val (.int (0 : Int32))] [(.int (0 : Int32))])) _
  refine siloadN X1 hx (hb hby d17_4) rfl rfl (pc' := 5) ?_
  refine sicN X1 hx (hb hby d17_5) rfl (teq (by decide : (0 : Int32) = (0 : Int32))).2 (pc' := 8) ?_
  refine saloadN X1 hx (hb hby d17_8) rfl rfl rfl (pc' := 9) ?_
  obtain ⟨T2, X2, e2, st2⟩ := getF X1 hx hZ hown (host := "") (Or.inl (hw _ (List.mem_of_getElem? (i := 84) rfl))) Via.refl eh1 F1 (g := (mkF m 9 #[.val (.ref x), .val (.ref vb), .val (.int (3 : Int32)), .val (.int (0 : Int32))] [(.ref x)])) rfl rfl (hb hby d17_9)
  refine oOn st2 ?_
  show oGl p e below (T2.setTop (mkF m 12 #[.val (.ref x), .val (.ref vb), .val (.int (3 : Int32)), .val (.int (0 : Int32))] [(.ref b)])) _
  refine siconst X2 hx (hb hby d17_12) rfl rfl (z := 0) (pc' := 13) ?_
  refine saloadN X2 hx (hb hby d17_13) rfl rfl rfl (pc' := 14) ?_
  refine siloadN X2 hx (hb hby d17_14) rfl rfl (pc' := 15) ?_
  refine siloadN X2 hx (hb hby d17_15) rfl rfl (pc' := 16) ?_
  refine sishl X2 hx (hb hby d17_16) rfl (by decide) (z := (3 : Int32)) (pc' := 17) ?_
  refine saloadN X2 hx (hb hby d17_17) rfl rfl rfl (pc' := 18) ?_
  obtain ⟨T3, X3, e3, st3⟩ := getF X2 hx hZ hown (host := "") (Or.inl (hw _ (List.mem_of_getElem? (i := 84) rfl))) Via.refl e2 F1 (g := (mkF m 18 #[.val (.ref x), .val (.ref vb), .val (.int (3 : Int32)), .val (.int (0 : Int32))] [(.ref x), (.int (3 : Int32)), (.ref vb), (.int (0 : Int32)), (.ref b)])) rfl rfl (hb hby d17_18)
  refine oOn st3 ?_
  show oGl p e below (T3.setTop (mkF m 21 #[.val (.ref x), .val (.ref vb), .val (.int (3 : Int32)), .val (.int (0 : Int32))] [(.ref b), (.int (3 : Int32)), (.ref vb), (.int (0 : Int32)), (.ref b)])) _
  refine oOn (PB.len X3 hx hZ e3 (g := (mkF m 21 #[.val (.ref x), .val (.ref vb), .val (.int (3 : Int32)), .val (.int (0 : Int32))] [(.ref b), (.int (3 : Int32)), (.ref vb), (.int (0 : Int32)), (.ref b)])) rfl rfl (hb hby d17_21)) ?_
  show oGl p e below (T3.setTop (mkF m 22 #[.val (.ref x), .val (.ref vb), .val (.int (3 : Int32)), .val (.int (0 : Int32))] [(.int (8 : Int32)), (.int (3 : Int32)), (.ref vb), (.int (0 : Int32)), (.ref b)])) _
  obtain ⟨T4, h4, L4, X4, e4, N4, K4, V4, st4⟩ := oCp X3 hx hZ hown (hw _ (List.mem_of_getElem? (i := 115) rfl)) (hw _ (List.mem_of_getElem? (i := 118) rfl)) (hw _ (List.mem_of_getElem? (i := 116) rfl)) (hw _ (List.mem_of_getElem? (i := 117) rfl)) e3 PB PV Ff Fg (by decide) (by decide) (by decide) (by decide) (by decide) N1 (by omega) (gf := (mkF m 22 #[.val (.ref x), .val (.ref vb), .val (.int (3 : Int32)), .val (.int (0 : Int32))] [(.int (8 : Int32)), (.int (3 : Int32)), (.ref vb), (.int (0 : Int32)), (.ref b)])) rfl (by rw [hml]; rfl) (rest := []) rfl (hb hby d17_22) (by decide) (W := 0) (by show 2 * 0 + _ ≤ _; exact Nat.le_of_eq rfl) (by decide)
  refine oOn st4 ?_
  have z5 : h0.size ≤ h4.size := K4.1
  have Vc4 : oAI Z h4 vb .byte 16 (oCpF 3 8 (fun i => f (0 + i)) g) := V4
  show oGl p e below (T4.setTop (mkF m 25 #[.val (.ref x), .val (.ref vb), .val (.int (3 : Int32)), .val (.int (0 : Int32))] [])) _
  refine sgoto X4 hx (hb hby d17_25) (by decide) (by decide)  (pc' := 43) ?_
  have kp6 : Keep h0 h4 [vb] := ((Keep.refl h0 [vb]).trans K4 (allS (Or.inl (List.mem_of_getElem? (i := 0) rfl)) all0))
  refine oRet0 X4 hx Bd.notSynchronized Bd.returns (hb hby d17_43) (by decide) (by decide) ?_
  show Q_rmGby3_8 Z vb x b f g cz h0 n0 _ T4.heap _
  rw [e4]
  exact ⟨rfl, N4, kp6, Vc4⟩
theorem ef_rmPut3_8 (m : MethodId) (x0 : Nat) (x1 : Int32) (x2 : Nat)  : entryFrame m #[(.ref x0), (.int x1), (.ref x2)] 3 = mkF m 0 #[.val (.ref x0), .val (.int x1), .val (.ref x2)] [] := by first | (simp [entryFrame, mkF, argsToLocals, Value.category, maxLocals]; done) | rfl
def Q_rmPut3_8 (Z : State) (sb vb x b : Nat) (f g : Nat → Int32) (cz : Int32) (h0 : Heap) (n0 : Nat) (vv : Option Value) (h : Heap) (L : List Loc) : Prop := vv = none ∧ Fr n0 L ∧ Keep h0 h [vb] ∧ oAI Z h vb .byte 16 (oCpF 3 8 (fun i => f (0 + i)) g)
set_option maxRecDepth 65536 in
set_option maxHeartbeats 40000000 in
theorem rmPut3_8 (l : Launch) (Z : State) (a0 : Array Value) (hw : ∀ d ∈ tables_1, d.before a0 Z = true) (ws : List Jvm.Cond) (sb vb x b : Nat) (f g : Nat → Int32) (cz : Int32) (h0 : Heap) (n0 : Nat) (Z0 : n0 ≤ h0.size) (O0 : oOld Z n0 h0) (SCS : Sta Z Z.heap "java/lang/String" "COMPACT_STRINGS" "Z" (.int cz)) (hcz : ¬ cz = (0 : Int32)) (E0 : Exa Z h0 sb "java/lang/StringBuilder") (B0 : Fld Z h0 sb "java/lang/AbstractStringBuilder" "value" "[B" (.ref vb)) (B1 : Fld Z h0 sb "java/lang/AbstractStringBuilder" "coder" "B" (.int 0)) (B2 : Fld Z h0 sb "java/lang/AbstractStringBuilder" "count" "I" (.int 3)) (E1 : Exa Z h0 x "java/lang/String") (F1 : Fld Z h0 x "java/lang/String" "value" "[B" (.ref b)) (C1 : Fld Z h0 x "java/lang/String" "coder" "B" (.int 0)) (PB : oAI Z h0 b .byte 8 f) (PV : oAI Z h0 vb .byte 16 g) (Ff : oFit 8 f) (Fg : oFit 16 g) (gs : n0 ≤ sb) (gv : n0 ≤ vb) (nbv : b ≠ vb) :
    MetFree l (⟨"java/lang/AbstractStringBuilder", "putStringAt", "(ILjava/lang/String;)V"⟩ : MethodName) (head1 (Jvm.Cond.code (⟨"java/lang/AbstractStringBuilder", "putStringAt", "(ILjava/lang/String;)V"⟩ : MethodName) jdk_68_method_73_code 3 (none : Option FieldType) :: ws) ({ frames := 2, cells := 0, slots := 0, locals := 33 } : Room)) (fun aA uU => aA = #[(.ref sb), (.int (3 : Int32)), (.ref x)] ∧ Z.Warmed39 uU.vm ∧ uU.heap = h0) (fun _ _ _ _ _ => True) (fun _ uU oO uU' => ∃ vV lL, oO = .returned vV ∧ Q_rmPut3_8 Z sb vb x b f g cz h0 n0 vV uU'.heap lL ∧ FrameEnd uU oO uU' lL ({ frames := 2, cells := 0, slots := 0, locals := 33 } : Room).cells ({ frames := 2, cells := 0, slots := 0, locals := 33 } : Room).slots) := by
  refine MetFree.of_bodySF (plainFor_of_name pn_AbstractStringBuilder) hisR ?_
  intro p e s m args below meth c s₁ Bd hml0 hP hK
  obtain ⟨rfl, hZ, hh⟩ := hP
  have hx := Bd.exec
  have hby := Bd.bytes
  have hml : c.maxLocals = 3 := hml0
  have hown : s.vm.findClass "java/lang/AbstractStringBuilder" = some m.cls := findClass_of_methodNamed Bd.named
  have hnm := (name_of_methodNamed Bd.named Bd.method).1
  have X0 : Stand p l e ({ frames := 2, cells := 0, slots := 0, locals := 33 } : Room) s m #[(.ref sb), (.int (3 : Int32)), (.ref x)] below meth c s₁ [] 0 0 := Stand.of_body Bd
  have e0 : s₁.heap = h0 := by rw [← hh, Bd.state]; rfl
  have N0 := Fr.nil n0
  have lB : @LT.lt Nat _ b h0.size := PB.lt
  have lV : @LT.lt Nat _ vb h0.size := PV.lt
  have nb9 : @Ne Nat b vb := nbv
  have lS : @LT.lt Nat _ sb h0.size := E0.lt
  have nsv : @Ne Nat sb vb := oNeO E0 (hw _ (List.mem_of_getElem? (i := 51) rfl)) PV
  have nxv : @Ne Nat x vb := oNeO E1 (hw _ (List.mem_of_getElem? (i := 6) rfl)) PV
  have nsb : @Ne Nat sb b := oNeO E0 (hw _ (List.mem_of_getElem? (i := 51) rfl)) PB
  refine oEnter (oCast (ef_rmPut3_8 m sb (3 : Int32) x ) ?_)
  show oGl p e below (s₁.setTop (mkF m 0 #[.val (.ref sb), .val (.int (3 : Int32)), .val (.ref x)] [])) _
  refine saloadN X0 hx (hb hby d15_0) rfl rfl rfl (pc' := 1) ?_
  refine saloadN X0 hx (hb hby d15_1) rfl rfl rfl (pc' := 2) ?_
  have hz1 : n0 ≤ h0.size := by omega
  obtain ⟨cq1, q1, q1'⟩ := E0.cell
  obtain ⟨_, _, ⟨T1, L1, k1, n1⟩, -, X1, ⟨Lc1, hQ1, l1, y1, z1⟩, st1⟩ := X0.privateBack hx (y := (⟨"java/lang/AbstractStringBuilder", "inflateIfNeededFor", "(Ljava/lang/String;)V"⟩ : MethodName)) hown (mvT hZ (hw _ (List.mem_of_getElem? (i := 104) rfl))) (mvT hZ (hw _ (List.mem_of_getElem? (i := 105) rfl))) (oPriv2 (mvT hZ (hw _ (List.mem_of_getElem? (i := 107) rfl))) (Cond.privateMethod_at (mvP hZ (hw _ (List.mem_of_getElem? (i := 106) rfl)) (args := #[]))) (mvT hZ (hw _ (List.mem_of_getElem? (i := 105) rfl))) (by decide)) (Cond.privateMethod_at (mvP hZ (hw _ (List.mem_of_getElem? (i := 106) rfl)) (args := #[]))) (mvT hZ (hw _ (List.mem_of_getElem? (i := 108) rfl))) (by decide) (backOf (W := 0) (rmInf3_8 l Z a0 hw [] sb vb x cz h0 n0 hz1 O0 SCS hcz E0 B0 B1 B2 E1 C1) hZ (hw _ (List.mem_of_getElem? (i := 108) rfl)) (hw _ (List.mem_of_getElem? (i := 60) rfl)) (by decide) (by decide)) (g := (mkF m 2 #[.val (.ref sb), .val (.int (3 : Int32)), .val (.ref x)] [(.ref x), (.ref sb)])) rfl (by rw [hml]; rfl) (Steps.refl _) (a := sb) (by rw [e0]; exact q1) q1' (argsL := [(.ref x)]) (rest := []) (lenOf pd_2 rfl) rfl (by show 2 * 0 + _ ≤ _; exact Nat.le_of_eq rfl) (hb hby d15_2) (fun _ _ => ⟨rfl, e0, (by decide : 0 + 0 ≤ _), (by decide : 0 + 0 ≤ _)⟩)
  dsimp only [Pt.U, Pt.locs, Pt.cells, Pt.slots] at X1 l1 y1 z1 st1 hQ1
  subst l1 y1 z1
  obtain ⟨rfl, N1q, eh1⟩ := hQ1
  have N1 := Fr.app N0 N1q
  refine oSt st1 ?_
  show oGl p e below (T1.setTop (mkF m 5 #[.val (.ref sb), .val (.int (3 : Int32)), .val (.ref x)] [])) _
  refine saloadN X1 hx (hb hby d15_5) rfl rfl rfl (pc' := 6) ?_
  refine saloadN X1 hx (hb hby d15_6) rfl rfl rfl (pc' := 7) ?_
  obtain ⟨T2, X2, e2, st2⟩ := getF X1 hx hZ hown (host := "") (Or.inl (hw _ (List.mem_of_getElem? (i := 64) rfl))) Via.refl eh1 B0 (g := (mkF m 7 #[.val (.ref sb), .val (.int (3 : Int32)), .val (.ref x)] [(.ref sb), (.ref x)])) rfl rfl (hb hby d15_7)
  refine oOn st2 ?_
  show oGl p e below (T2.setTop (mkF m 10 #[.val (.ref sb), .val (.int (3 : Int32)), .val (.ref x)] [(.ref vb), (.ref x)])) _
  refine siloadN X2 hx (hb hby d15_10) rfl rfl (pc' := 11) ?_
  refine saloadN X2 hx (hb hby d15_11) rfl rfl rfl (pc' := 12) ?_
  obtain ⟨T3, X3, e3, st3⟩ := getF X2 hx hZ hown (host := "") (Or.inl (hw _ (List.mem_of_getElem? (i := 66) rfl))) Via.refl e2 B1 (g := (mkF m 12 #[.val (.ref sb), .val (.int (3 : Int32)), .val (.ref x)] [(.ref sb), (.int (3 : Int32)), (.ref vb), (.ref x)])) rfl rfl (hb hby d15_12)
  refine oOn st3 ?_
  show oGl p e below (T3.setTop (mkF m 15 #[.val (.ref sb), .val (.int (3 : Int32)), .val (.ref x)] [(.int (0 : Int32)), (.int (3 : Int32)), (.ref vb), (.ref x)])) _
  have hz4 : n0 ≤ h0.size := by omega
  obtain ⟨cq4, kq4, q4a, q4b, q4c⟩ := isOf hZ e3 E1
  obtain ⟨_, _, ⟨T4, L4, k4, n4⟩, -, X4, ⟨Lc4, hQ4, l4, y4, z4⟩, st4⟩ := X3.virtualBack hx (y := (⟨"java/lang/String", "getBytes", "([BIB)V"⟩ : MethodName)) (z := (⟨"java/lang/String", "getBytes", "([BIB)V"⟩ : MethodName)) hown (mvT hZ (hw _ (List.mem_of_getElem? (i := 110) rfl))) (mvT hZ (hw _ (List.mem_of_getElem? (i := 111) rfl))) (notFace_of_selects (args := #[]) (mvT hZ (hw _ (List.mem_of_getElem? (i := 113) rfl)))) (mvT hZ (hw _ (List.mem_of_getElem? (i := 113) rfl))) (mvT hZ (hw _ (List.mem_of_getElem? (i := 112) rfl))) (by decide) (backOf (W := 0) (rmGby3_8 l Z a0 hw [] vb x b f g cz h0 n0 hz4 O0 SCS hcz E1 F1 C1 PB PV Ff Fg gv nbv) hZ (hw _ (List.mem_of_getElem? (i := 114) rfl)) (hw _ (List.mem_of_getElem? (i := 5) rfl)) (by decide) (by decide)) q4a q4c (g := (mkF m 15 #[.val (.ref sb), .val (.int (3 : Int32)), .val (.ref x)] [(.int (0 : Int32)), (.int (3 : Int32)), (.ref vb), (.ref x)])) rfl (by rw [hml]; rfl) (Steps.refl _) (argsL := [(.ref vb), (.int (3 : Int32)), (.int (0 : Int32))]) (rest := []) (lenOf pd_3 rfl) rfl (by show 2 * 0 + _ ≤ _; exact Nat.le_of_eq rfl) (hb hby d15_15) (fun _ _ => ⟨rfl, e3, (by decide : 0 + 0 ≤ _), (by decide : 0 + 0 ≤ _)⟩)
  dsimp only [Pt.U, Pt.locs, Pt.cells, Pt.slots] at X4 l4 y4 z4 st4 hQ4
  subst l4 y4 z4
  obtain ⟨rfl, N4q, K4, Vg4⟩ := hQ4
  have N4 := Fr.app N1 N4q
  have z5 : h0.size ≤ T4.heap.size := K4.1
  refine oSt st4 ?_
  show oGl p e below (T4.setTop (mkF m 18 #[.val (.ref sb), .val (.int (3 : Int32)), .val (.ref x)] [])) _
  have kp6 : Keep h0 T4.heap [vb] := ((Keep.refl h0 [vb]).trans K4 (allS (Or.inl (List.mem_of_getElem? (i := 0) rfl)) all0))
  refine oRet0 X4 hx Bd.notSynchronized Bd.returns (hb hby d15_18) (by decide) (by decide) ?_
  show Q_rmPut3_8 Z sb vb x b f g cz h0 n0 _ T4.heap _
  exact ⟨rfl, N4, kp6, Vg4⟩
theorem ef_rmAap3_8 (m : MethodId) (x0 : Nat) (x1 : Nat)  : entryFrame m #[(.ref x0), (.ref x1)] 3 = mkF m 0 #[.val (.ref x0), .val (.ref x1), .unset] [] := by first | (simp [entryFrame, mkF, argsToLocals, Value.category, maxLocals]; done) | rfl
def Q_rmAap3_8 (Z : State) (sb vb x b : Nat) (f g : Nat → Int32) (cz : Int32) (h0 : Heap) (n0 : Nat) (vv : Option Value) (h : Heap) (L : List Loc) : Prop := vv = some (.ref sb) ∧ Fr n0 L ∧ Keep h0 h [sb, vb] ∧ Exa Z h sb "java/lang/StringBuilder" ∧ Fld Z h sb "java/lang/AbstractStringBuilder" "value" "[B" (.ref vb) ∧ Fld Z h sb "java/lang/AbstractStringBuilder" "coder" "B" (.int 0) ∧ Fld Z h sb "java/lang/AbstractStringBuilder" "count" "I" (.int 11) ∧ oAI Z h vb .byte 16 (oCpF 3 8 (fun i => f (0 + i)) g)
set_option maxRecDepth 65536 in
set_option maxHeartbeats 40000000 in
theorem rmAap3_8 (l : Launch) (Z : State) (a0 : Array Value) (hw : ∀ d ∈ tables_1, d.before a0 Z = true) (ws : List Jvm.Cond) (sb vb x b : Nat) (f g : Nat → Int32) (cz : Int32) (h0 : Heap) (n0 : Nat) (Z0 : n0 ≤ h0.size) (O0 : oOld Z n0 h0) (SCS : Sta Z Z.heap "java/lang/String" "COMPACT_STRINGS" "Z" (.int cz)) (hcz : ¬ cz = (0 : Int32)) (E0 : Exa Z h0 sb "java/lang/StringBuilder") (B0 : Fld Z h0 sb "java/lang/AbstractStringBuilder" "value" "[B" (.ref vb)) (B1 : Fld Z h0 sb "java/lang/AbstractStringBuilder" "coder" "B" (.int 0)) (B2 : Fld Z h0 sb "java/lang/AbstractStringBuilder" "count" "I" (.int 3)) (E1 : Exa Z h0 x "java/lang/String") (F1 : Fld Z h0 x "java/lang/String" "value" "[B" (.ref b)) (C1 : Fld Z h0 x "java/lang/String" "coder" "B" (.int 0)) (PB : oAI Z h0 b .byte 8 f) (PV : oAI Z h0 vb .byte 16 g) (Ff : oFit 8 f) (Fg : oFit 16 g) (gs : n0 ≤ sb) (gv : n0 ≤ vb) (nbv : b ≠ vb) :
    MetFree l (⟨"java/lang/AbstractStringBuilder", "append", "(Ljava/lang/String;)Ljava/lang/AbstractStringBuilder;"⟩ : MethodName) (head1 (Jvm.Cond.code (⟨"java/lang/AbstractStringBuilder", "append", "(Ljava/lang/String;)Ljava/lang/AbstractStringBuilder;"⟩ : MethodName) jdk_68_method_22_code 3 (some (.object "java/lang/AbstractStringBuilder")) :: ws) ({ frames := 3, cells := 0, slots := 0, locals := 47 } : Room)) (fun aA uU => aA = #[(.ref sb), (.ref x)] ∧ Z.Warmed39 uU.vm ∧ uU.heap = h0) (fun _ _ _ _ _ => True) (fun _ uU oO uU' => ∃ vV lL, oO = .returned vV ∧ Q_rmAap3_8 Z sb vb x b f g cz h0 n0 vV uU'.heap lL ∧ FrameEnd uU oO uU' lL ({ frames := 3, cells := 0, slots := 0, locals := 47 } : Room).cells ({ frames := 3, cells := 0, slots := 0, locals := 47 } : Room).slots) := by
  refine MetFree.of_bodySF (plainFor_of_name pn_AbstractStringBuilder) hisR ?_
  intro p e s m args below meth c s₁ Bd hml0 hP hK
  obtain ⟨rfl, hZ, hh⟩ := hP
  have hx := Bd.exec
  have hby := Bd.bytes
  have hml : c.maxLocals = 3 := hml0
  have hown : s.vm.findClass "java/lang/AbstractStringBuilder" = some m.cls := findClass_of_methodNamed Bd.named
  have hnm := (name_of_methodNamed Bd.named Bd.method).1
  have X0 : Stand p l e ({ frames := 3, cells := 0, slots := 0, locals := 47 } : Room) s m #[(.ref sb), (.ref x)] below meth c s₁ [] 0 0 := Stand.of_body Bd
  have e0 : s₁.heap = h0 := by rw [← hh, Bd.state]; rfl
  have N0 := Fr.nil n0
  have lB : @LT.lt Nat _ b h0.size := PB.lt
  have lV : @LT.lt Nat _ vb h0.size := PV.lt
  have nb9 : @Ne Nat b vb := nbv
  have lS : @LT.lt Nat _ sb h0.size := E0.lt
  have nsv : @Ne Nat sb vb := oNeO E0 (hw _ (List.mem_of_getElem? (i := 51) rfl)) PV
  have nxv : @Ne Nat x vb := oNeO E1 (hw _ (List.mem_of_getElem? (i := 6) rfl)) PV
  have nsb : @Ne Nat sb b := oNeO E0 (hw _ (List.mem_of_getElem? (i := 51) rfl)) PB
  refine oEnter (oCast (ef_rmAap3_8 m sb x ) ?_)
  show oGl p e below (s₁.setTop (mkF m 0 #[.val (.ref sb), .val (.ref x), .unset] [])) _
  refine saloadN X0 hx (hb hby d11_0) rfl rfl rfl (pc' := 1) ?_
  refine sifnonnullY X0 hx (hb hby d11_1) (by decide) (by decide)  (pc' := 9) ?_
  refine saloadN X0 hx (hb hby d11_9) rfl rfl rfl (pc' := 10) ?_
  have hz1 : n0 ≤ h0.size := by omega
  obtain ⟨cq1, kq1, q1a, q1b, q1c⟩ := isOf hZ e0 E1
  obtain ⟨_, _, ⟨T1, L1, k1, n1⟩, -, X1, ⟨Lc1, hQ1, l1, y1, z1⟩, st1⟩ := X0.virtualBack hx (y := (⟨"java/lang/String", "length", "()I"⟩ : MethodName)) (z := (⟨"java/lang/String", "length", "()I"⟩ : MethodName)) hown (mvT hZ (hw _ (List.mem_of_getElem? (i := 79) rfl))) (mvT hZ (hw _ (List.mem_of_getElem? (i := 80) rfl))) (notFace_of_selects (args := #[]) (mvT hZ (hw _ (List.mem_of_getElem? (i := 82) rfl)))) (mvT hZ (hw _ (List.mem_of_getElem? (i := 82) rfl))) (mvT hZ (hw _ (List.mem_of_getElem? (i := 81) rfl))) (by decide) (backOf (W := 0) (rmLen3_8 l Z a0 hw [] x b f cz h0 n0 hz1 O0 SCS hcz E1 F1 C1 PB) hZ (hw _ (List.mem_of_getElem? (i := 83) rfl)) (hw _ (List.mem_of_getElem? (i := 5) rfl)) (by decide) (by decide)) q1a q1c (g := (mkF m 10 #[.val (.ref sb), .val (.ref x), .unset] [(.ref x)])) rfl (by rw [hml]; rfl) (Steps.refl _) (argsL := []) (rest := []) (lenOf pd_4 rfl) rfl (by show 2 * 0 + _ ≤ _; exact Nat.le_of_eq rfl) (hb hby d11_10) (fun _ _ => ⟨rfl, e0, (by decide : 0 + 0 ≤ _), (by decide : 0 + 0 ≤ _)⟩)
  dsimp only [Pt.U, Pt.locs, Pt.cells, Pt.slots] at X1 l1 y1 z1 st1 hQ1
  subst l1 y1 z1
  obtain ⟨rfl, N1q, eh1⟩ := hQ1
  have N1 := Fr.app N0 N1q
  refine oSt st1 ?_
  show oGl p e below (T1.setTop (mkF m 13 #[.val (.ref sb), .val (.ref x), .unset] [(.int (8 : Int32))])) _
  refine sistoreN X1 hx (hb hby d11_13) rfl rfl (l' := #[.val (.ref sb), .val (.ref x), .val (.int (8 : Int32))]) (pc' := 14) ?_
  refine saloadN X1 hx (hb hby d11_14) rfl rfl rfl (pc' := 15) ?_
  refine saloadN X1 hx (hb hby d11_15) rfl rfl rfl (pc' := 16) ?_
  obtain ⟨T2, X2, e2, st2⟩ := getF X1 hx hZ hown (host := "") (Or.inl (hw _ (List.mem_of_getElem? (i := 92) rfl))) Via.refl eh1 B2 (g := (mkF m 16 #[.val (.ref sb), .val (.ref x), .val (.int (8 : Int32))] [(.ref sb), (.ref sb)])) rfl rfl (hb hby d11_16)
  refine oOn st2 ?_
  show oGl p e below (T2.setTop (mkF m 19 #[.val (.ref sb), .val (.ref x), .val (.int (8 : Int32))] [(.int (3 : Int32)), (.ref sb)])) _
  refine siloadN X2 hx (hb hby d11_19) rfl rfl (pc' := 20) ?_
  refine siadd X2 hx (hb hby d11_20) rfl (by decide) (z := (11 : Int32)) (pc' := 21) ?_
  have hz3 : n0 ≤ h0.size := by omega
  obtain ⟨cq3, q3, q3'⟩ := E0.cell
  obtain ⟨_, _, ⟨T3, L3, k3, n3⟩, -, X3, ⟨Lc3, hQ3, l3, y3, z3⟩, st3⟩ := X2.privateBack hx (y := (⟨"java/lang/AbstractStringBuilder", "ensureCapacityInternal", "(I)V"⟩ : MethodName)) hown (mvT hZ (hw _ (List.mem_of_getElem? (i := 94) rfl))) (mvT hZ (hw _ (List.mem_of_getElem? (i := 95) rfl))) (oPriv2 (mvT hZ (hw _ (List.mem_of_getElem? (i := 97) rfl))) (Cond.privateMethod_at (mvP hZ (hw _ (List.mem_of_getElem? (i := 96) rfl)) (args := #[]))) (mvT hZ (hw _ (List.mem_of_getElem? (i := 95) rfl))) (by decide)) (Cond.privateMethod_at (mvP hZ (hw _ (List.mem_of_getElem? (i := 96) rfl)) (args := #[]))) (mvT hZ (hw _ (List.mem_of_getElem? (i := 98) rfl))) (by decide) (backOf (W := 0) (rmEns3_8 l Z a0 hw [] sb vb g h0 n0 hz3 E0 B0 B1 B2 PV) hZ (hw _ (List.mem_of_getElem? (i := 98) rfl)) (hw _ (List.mem_of_getElem? (i := 60) rfl)) (by decide) (by decide)) (g := (mkF m 21 #[.val (.ref sb), .val (.ref x), .val (.int (8 : Int32))] [(.int (11 : Int32)), (.ref sb)])) rfl (by rw [hml]; rfl) (Steps.refl _) (a := sb) (by rw [e2]; exact q3) q3' (argsL := [(.int (11 : Int32))]) (rest := []) (lenOf pd_0 rfl) rfl (by show 2 * 0 + _ ≤ _; exact Nat.le_of_eq rfl) (hb hby d11_21) (fun _ _ => ⟨rfl, e2, (by decide : 0 + 0 ≤ _), (by decide : 0 + 0 ≤ _)⟩)
  dsimp only [Pt.U, Pt.locs, Pt.cells, Pt.slots] at X3 l3 y3 z3 st3 hQ3
  subst l3 y3 z3
  obtain ⟨rfl, N3q, eh3⟩ := hQ3
  have N3 := Fr.app N1 N3q
  refine oSt st3 ?_
  show oGl p e below (T3.setTop (mkF m 24 #[.val (.ref sb), .val (.ref x), .val (.int (8 : Int32))] [])) _
  refine saloadN X3 hx (hb hby d11_24) rfl rfl rfl (pc' := 25) ?_
  refine saloadN X3 hx (hb hby d11_25) rfl rfl rfl (pc' := 26) ?_
  obtain ⟨T4, X4, e4, st4⟩ := getF X3 hx hZ hown (host := "") (Or.inl (hw _ (List.mem_of_getElem? (i := 92) rfl))) Via.refl eh3 B2 (g := (mkF m 26 #[.val (.ref sb), .val (.ref x), .val (.int (8 : Int32))] [(.ref sb), (.ref sb)])) rfl rfl (hb hby d11_26)
  refine oOn st4 ?_
  show oGl p e below (T4.setTop (mkF m 29 #[.val (.ref sb), .val (.ref x), .val (.int (8 : Int32))] [(.int (3 : Int32)), (.ref sb)])) _
  refine saloadN X4 hx (hb hby d11_29) rfl rfl rfl (pc' := 30) ?_
  have hz5 : n0 ≤ h0.size := by omega
  obtain ⟨cq5, q5, q5'⟩ := E0.cell
  obtain ⟨_, _, ⟨T5, L5, k5, n5⟩, -, X5, ⟨Lc5, hQ5, l5, y5, z5⟩, st5⟩ := X4.privateBack hx (y := (⟨"java/lang/AbstractStringBuilder", "putStringAt", "(ILjava/lang/String;)V"⟩ : MethodName)) hown (mvT hZ (hw _ (List.mem_of_getElem? (i := 99) rfl))) (mvT hZ (hw _ (List.mem_of_getElem? (i := 100) rfl))) (oPriv2 (mvT hZ (hw _ (List.mem_of_getElem? (i := 102) rfl))) (Cond.privateMethod_at (mvP hZ (hw _ (List.mem_of_getElem? (i := 101) rfl)) (args := #[]))) (mvT hZ (hw _ (List.mem_of_getElem? (i := 100) rfl))) (by decide)) (Cond.privateMethod_at (mvP hZ (hw _ (List.mem_of_getElem? (i := 101) rfl)) (args := #[]))) (mvT hZ (hw _ (List.mem_of_getElem? (i := 103) rfl))) (by decide) (backOf (W := 0) (rmPut3_8 l Z a0 hw [] sb vb x b f g cz h0 n0 hz5 O0 SCS hcz E0 B0 B1 B2 E1 F1 C1 PB PV Ff Fg gs gv nbv) hZ (hw _ (List.mem_of_getElem? (i := 103) rfl)) (hw _ (List.mem_of_getElem? (i := 60) rfl)) (by decide) (by decide)) (g := (mkF m 30 #[.val (.ref sb), .val (.ref x), .val (.int (8 : Int32))] [(.ref x), (.int (3 : Int32)), (.ref sb)])) rfl (by rw [hml]; rfl) (Steps.refl _) (a := sb) (by rw [e4]; exact q5) q5' (argsL := [(.int (3 : Int32)), (.ref x)]) (rest := []) (lenOf pd_5 rfl) rfl (by show 2 * 0 + _ ≤ _; exact Nat.le_of_eq rfl) (hb hby d11_30) (fun _ _ => ⟨rfl, e4, (by decide : 0 + 0 ≤ _), (by decide : 0 + 0 ≤ _)⟩)
  dsimp only [Pt.U, Pt.locs, Pt.cells, Pt.slots] at X5 l5 y5 z5 st5 hQ5
  subst l5 y5 z5
  obtain ⟨rfl, N5q, K5, Vg5⟩ := hQ5
  have N5 := Fr.app N3 N5q
  have z6 : h0.size ≤ T5.heap.size := K5.1
  refine oSt st5 ?_
  show oGl p e below (T5.setTop (mkF m 33 #[.val (.ref sb), .val (.ref x), .val (.int (8 : Int32))] [])) _
  refine saloadN X5 hx (hb hby d11_33) rfl rfl rfl (pc' := 34) ?_
  refine sdup X5 hx (hb hby d11_34) rfl rfl (pc' := 35) ?_
  have f8 := (B2.keep K5 (ninS (oNe (by omega)) nin0))
  obtain ⟨T7, X7, e7, st7⟩ := getF X5 hx hZ hown (host := "") (Or.inl (hw _ (List.mem_of_getElem? (i := 92) rfl))) Via.refl rfl f8 (g := (mkF m 35 #[.val (.ref sb), .val (.ref x), .val (.int (8 : Int32))] [(.ref sb), (.ref sb)])) rfl rfl (hb hby d11_35)
  refine oOn st7 ?_
  show oGl p e below (T7.setTop (mkF m 38 #[.val (.ref sb), .val (.ref x), .val (.int (8 : Int32))] [(.int (3 : Int32)), (.ref sb)])) _
  refine siloadN X7 hx (hb hby d11_38) rfl rfl (pc' := 39) ?_
  refine siadd X7 hx (hb hby d11_39) rfl (by decide) (z := (11 : Int32)) (pc' := 40) ?_
  have f10 := (E0.keep K5)
  obtain ⟨T9, h9, X9, e9, W9, st9⟩ := putF X7 hx hZ hown (host := "") (Or.inl (hw _ (List.mem_of_getElem? (i := 92) rfl))) Via.refl e7 f8 f10 (Or.inl (hw _ (List.mem_of_getElem? (i := 93) rfl))) (hw _ (List.mem_of_getElem? (i := 51) rfl)) (ty := .int) (by decide) rfl rfl (g := (mkF m 40 #[.val (.ref sb), .val (.ref x), .val (.int (8 : Int32))] [(.int (11 : Int32)), (.ref sb)])) rfl rfl (hb hby d11_40)
  refine oOn st9 ?_
  have z11 : T5.heap.size ≤ h9.size := Nat.le_of_eq W9.size.symm
  have N9 := Fr.snoc X9 N5 (by omega)
  have f9 := Fld.same W9 f8
  show oGl p e below (T9.setTop (mkF m 43 #[.val (.ref sb), .val (.ref x), .val (.int (8 : Int32))] [])) _
  refine saloadN X9 hx (hb hby d11_43) rfl rfl rfl (pc' := 44) ?_
  have kp12 : Keep h0 h9 [sb, vb] := (((Keep.refl h0 [sb, vb]).trans K5 (allS (Or.inl (List.mem_of_getElem? (i := 1) rfl)) all0)).wr W9 (Or.inl (List.mem_of_getElem? (i := 0) rfl)))
  have f13 := (f10.wr W9)
  have f14 := ((B0.keep K5 (ninS (oNe (by omega)) nin0)).other W9 (Or.inr (slot_ne (Or.inl (hw _ (List.mem_of_getElem? (i := 65) rfl))) (Or.inl (hw _ (List.mem_of_getElem? (i := 93) rfl))) (by decide) (t := (.array .byte)) (t' := .int) (by decide) (by decide))))
  have f15 := ((B1.keep K5 (ninS (oNe (by omega)) nin0)).other W9 (Or.inr (slot_ne (Or.inl (hw _ (List.mem_of_getElem? (i := 67) rfl))) (Or.inl (hw _ (List.mem_of_getElem? (i := 93) rfl))) (by decide) (t := .byte) (t' := .int) (by decide) (by decide))))
  have f16 := (Vg5.other W9 (oNe (by omega)))
  refine oRetR X9 hx Bd.notSynchronized Bd.returns rfl rfl (hb hby d11_44) (by decide) (by decide) ?_
  show Q_rmAap3_8 Z sb vb x b f g cz h0 n0 _ T9.heap _
  rw [e9]
  exact ⟨rfl, N9, kp12, f13, f14, f15, f9, f16⟩
theorem ef_rmApp3_8 (m : MethodId) (x0 : Nat) (x1 : Nat)  : entryFrame m #[(.ref x0), (.ref x1)] 2 = mkF m 0 #[.val (.ref x0), .val (.ref x1)] [] := by first | (simp [entryFrame, mkF, argsToLocals, Value.category, maxLocals]; done) | rfl
def Q_rmApp3_8 (Z : State) (sb vb x b : Nat) (f g : Nat → Int32) (cz : Int32) (h0 : Heap) (n0 : Nat) (vv : Option Value) (h : Heap) (L : List Loc) : Prop := vv = some (.ref sb) ∧ Fr n0 L ∧ Keep h0 h [sb, vb] ∧ Exa Z h sb "java/lang/StringBuilder" ∧ Fld Z h sb "java/lang/AbstractStringBuilder" "value" "[B" (.ref vb) ∧ Fld Z h sb "java/lang/AbstractStringBuilder" "coder" "B" (.int 0) ∧ Fld Z h sb "java/lang/AbstractStringBuilder" "count" "I" (.int 11) ∧ oAI Z h vb .byte 16 (oCpF 3 8 (fun i => f (0 + i)) g)
set_option maxRecDepth 65536 in
set_option maxHeartbeats 40000000 in
theorem rmApp3_8 (l : Launch) (Z : State) (a0 : Array Value) (hw : ∀ d ∈ tables_1, d.before a0 Z = true) (ws : List Jvm.Cond) (sb vb x b : Nat) (f g : Nat → Int32) (cz : Int32) (h0 : Heap) (n0 : Nat) (Z0 : n0 ≤ h0.size) (O0 : oOld Z n0 h0) (SCS : Sta Z Z.heap "java/lang/String" "COMPACT_STRINGS" "Z" (.int cz)) (hcz : ¬ cz = (0 : Int32)) (E0 : Exa Z h0 sb "java/lang/StringBuilder") (B0 : Fld Z h0 sb "java/lang/AbstractStringBuilder" "value" "[B" (.ref vb)) (B1 : Fld Z h0 sb "java/lang/AbstractStringBuilder" "coder" "B" (.int 0)) (B2 : Fld Z h0 sb "java/lang/AbstractStringBuilder" "count" "I" (.int 3)) (E1 : Exa Z h0 x "java/lang/String") (F1 : Fld Z h0 x "java/lang/String" "value" "[B" (.ref b)) (C1 : Fld Z h0 x "java/lang/String" "coder" "B" (.int 0)) (PB : oAI Z h0 b .byte 8 f) (PV : oAI Z h0 vb .byte 16 g) (Ff : oFit 8 f) (Fg : oFit 16 g) (gs : n0 ≤ sb) (gv : n0 ≤ vb) (nbv : b ≠ vb) :
    MetFree l (⟨"java/lang/StringBuilder", "append", "(Ljava/lang/String;)Ljava/lang/StringBuilder;"⟩ : MethodName) (head1 (Jvm.Cond.code (⟨"java/lang/StringBuilder", "append", "(Ljava/lang/String;)Ljava/lang/StringBuilder;"⟩ : MethodName) jdk_67_method_7_code 2 (some (.object "java/lang/StringBuilder")) :: ws) ({ frames := 4, cells := 0, slots := 0, locals := 61 } : Room)) (fun aA uU => aA = #[(.ref sb), (.ref x)] ∧ Z.Warmed39 uU.vm ∧ uU.heap = h0) (fun _ _ _ _ _ => True) (fun _ uU oO uU' => ∃ vV lL, oO = .returned vV ∧ Q_rmApp3_8 Z sb vb x b f g cz h0 n0 vV uU'.heap lL ∧ FrameEnd uU oO uU' lL ({ frames := 4, cells := 0, slots := 0, locals := 61 } : Room).cells ({ frames := 4, cells := 0, slots := 0, locals := 61 } : Room).slots) := by
  refine MetFree.of_bodySF (plainFor_of_name pn_StringBuilder) hisR ?_
  intro p e s m args below meth c s₁ Bd hml0 hP hK
  obtain ⟨rfl, hZ, hh⟩ := hP
  have hx := Bd.exec
  have hby := Bd.bytes
  have hml : c.maxLocals = 2 := hml0
  have hown : s.vm.findClass "java/lang/StringBuilder" = some m.cls := findClass_of_methodNamed Bd.named
  have hnm := (name_of_methodNamed Bd.named Bd.method).1
  have X0 : Stand p l e ({ frames := 4, cells := 0, slots := 0, locals := 61 } : Room) s m #[(.ref sb), (.ref x)] below meth c s₁ [] 0 0 := Stand.of_body Bd
  have e0 : s₁.heap = h0 := by rw [← hh, Bd.state]; rfl
  have N0 := Fr.nil n0
  have lB : @LT.lt Nat _ b h0.size := PB.lt
  have lV : @LT.lt Nat _ vb h0.size := PV.lt
  have nb9 : @Ne Nat b vb := nbv
  have lS : @LT.lt Nat _ sb h0.size := E0.lt
  have nsv : @Ne Nat sb vb := oNeO E0 (hw _ (List.mem_of_getElem? (i := 51) rfl)) PV
  have nxv : @Ne Nat x vb := oNeO E1 (hw _ (List.mem_of_getElem? (i := 6) rfl)) PV
  have nsb : @Ne Nat sb b := oNeO E0 (hw _ (List.mem_of_getElem? (i := 51) rfl)) PB
  refine oEnter (oCast (ef_rmApp3_8 m sb x ) ?_)
  show oGl p e below (s₁.setTop (mkF m 0 #[.val (.ref sb), .val (.ref x)] [])) _
  refine saloadN X0 hx (hb hby d10_0) rfl rfl rfl (pc' := 1) ?_
  refine saloadN X0 hx (hb hby d10_1) rfl rfl rfl (pc' := 2) ?_
  have hz1 : n0 ≤ h0.size := by omega
  obtain ⟨_, _, ⟨T1, L1, k1, n1⟩, -, X1, ⟨Lc1, hQ1, l1, y1, z1⟩, st1⟩ := superBack X0 hx hZ (y := (⟨"java/lang/AbstractStringBuilder", "append", "(Ljava/lang/String;)Ljava/lang/AbstractStringBuilder;"⟩ : MethodName)) hown (hw _ (List.mem_of_getElem? (i := 74) rfl)) (oSame (hw _ (List.mem_of_getElem? (i := 77) rfl)) (hw _ (List.mem_of_getElem? (i := 97) rfl)) rfl (by decide)) (hw _ (List.mem_of_getElem? (i := 75) rfl)) (hw _ (List.mem_of_getElem? (i := 76) rfl)) (by decide) (backOf (W := 0) (rmAap3_8 l Z a0 hw [] sb vb x b f g cz h0 n0 hz1 O0 SCS hcz E0 B0 B1 B2 E1 F1 C1 PB PV Ff Fg gs gv nbv) hZ (hw _ (List.mem_of_getElem? (i := 78) rfl)) (hw _ (List.mem_of_getElem? (i := 60) rfl)) (by decide) (by decide)) e0 (Ins.self E0) (g := (mkF m 2 #[.val (.ref sb), .val (.ref x)] [(.ref x), (.ref sb)])) rfl (by rw [hml]; rfl) (hw _ (List.mem_of_getElem? (i := 78) rfl)) (argsL := [(.ref x)]) (rest := []) (lenOf pd_6 rfl) rfl (by show 2 * 0 + _ ≤ _; exact Nat.le_of_eq rfl) (hb hby d10_2) (fun _ _ => ⟨rfl, e0, (by decide : 0 + 0 ≤ _), (by decide : 0 + 0 ≤ _)⟩)
  dsimp only [Pt.U, Pt.locs, Pt.cells, Pt.slots] at X1 l1 y1 z1 st1 hQ1
  subst l1 y1 z1
  obtain ⟨rfl, N1q, K1, Eg1, Ba1, Bb1, Bc1, Vg1⟩ := hQ1
  have N1 := Fr.app N0 N1q
  have z2 : h0.size ≤ T1.heap.size := K1.1
  refine oSt st1 ?_
  show oGl p e below (T1.setTop (mkF m 5 #[.val (.ref sb), .val (.ref x)] [(.ref sb)])) _
  refine spop X1 hx (hb hby d10_5) rfl rfl (pc' := 6) ?_
  refine saloadN X1 hx (hb hby d10_6) rfl rfl rfl (pc' := 7) ?_
  have kp3 : Keep h0 T1.heap [sb, vb] := ((Keep.refl h0 [sb, vb]).trans K1 (allS (Or.inl (List.mem_of_getElem? (i := 0) rfl)) (allS (Or.inl (List.mem_of_getElem? (i := 1) rfl)) all0)))
  refine oRetR X1 hx Bd.notSynchronized Bd.returns rfl rfl (hb hby d10_7) (by decide) (by decide) ?_
  show Q_rmApp3_8 Z sb vb x b f g cz h0 n0 _ T1.heap _
  exact ⟨rfl, N1, kp3, Eg1, Ba1, Bb1, Bc1, Vg1⟩
theorem ef_rmLen3_12 (m : MethodId) (x0 : Nat)  : entryFrame m #[(.ref x0)] 1 = mkF m 0 #[.val (.ref x0)] [] := by first | (simp [entryFrame, mkF, argsToLocals, Value.category, maxLocals]; done) | rfl
def Q_rmLen3_12 (Z : State) (x b : Nat) (f : Nat → Int32) (cz : Int32) (h0 : Heap) (n0 : Nat) (vv : Option Value) (h : Heap) (L : List Loc) : Prop := vv = some (.int 12) ∧ Fr n0 L ∧ h = h0
set_option maxRecDepth 65536 in
set_option maxHeartbeats 40000000 in
theorem rmLen3_12 (l : Launch) (Z : State) (a0 : Array Value) (hw : ∀ d ∈ tables_1, d.before a0 Z = true) (ws : List Jvm.Cond) (x b : Nat) (f : Nat → Int32) (cz : Int32) (h0 : Heap) (n0 : Nat) (Z0 : n0 ≤ h0.size) (O0 : oOld Z n0 h0) (SCS : Sta Z Z.heap "java/lang/String" "COMPACT_STRINGS" "Z" (.int cz)) (hcz : ¬ cz = (0 : Int32)) (E1 : Exa Z h0 x "java/lang/String") (F1 : Fld Z h0 x "java/lang/String" "value" "[B" (.ref b)) (C1 : Fld Z h0 x "java/lang/String" "coder" "B" (.int 0)) (PB : oAI Z h0 b .byte 12 f) :
    MetFree l (⟨"java/lang/String", "length", "()I"⟩ : MethodName) (head1 (Jvm.Cond.code (⟨"java/lang/String", "length", "()I"⟩ : MethodName) jdk_42_method_54_code 1 (some .int) :: ws) ({ frames := 1, cells := 0, slots := 0, locals := 13 } : Room)) (fun aA uU => aA = #[(.ref x)] ∧ Z.Warmed39 uU.vm ∧ uU.heap = h0) (fun _ _ _ _ _ => True) (fun _ uU oO uU' => ∃ vV lL, oO = .returned vV ∧ Q_rmLen3_12 Z x b f cz h0 n0 vV uU'.heap lL ∧ FrameEnd uU oO uU' lL ({ frames := 1, cells := 0, slots := 0, locals := 13 } : Room).cells ({ frames := 1, cells := 0, slots := 0, locals := 13 } : Room).slots) := by
  refine MetFree.of_bodySF (plainFor_of_name pn_String) hisR ?_
  intro p e s m args below meth c s₁ Bd hml0 hP hK
  obtain ⟨rfl, hZ, hh⟩ := hP
  have hx := Bd.exec
  have hby := Bd.bytes
  have hml : c.maxLocals = 1 := hml0
  have hown : s.vm.findClass "java/lang/String" = some m.cls := findClass_of_methodNamed Bd.named
  have hnm := (name_of_methodNamed Bd.named Bd.method).1
  have X0 : Stand p l e ({ frames := 1, cells := 0, slots := 0, locals := 13 } : Room) s m #[(.ref x)] below meth c s₁ [] 0 0 := Stand.of_body Bd
  have e0 : s₁.heap = h0 := by rw [← hh, Bd.state]; rfl
  have N0 := Fr.nil n0
  refine oEnter (oCast (ef_rmLen3_12 m x ) ?_)
  show oGl p e below (s₁.setTop (mkF m 0 #[.val (.ref x)] [])) _
  refine saloadN X0 hx (hb hby d12_0) rfl rfl rfl (pc' := 1) ?_
  obtain ⟨T1, X1, e1, st1⟩ := getF X0 hx hZ hown (host := "") (Or.inl (hw _ (List.mem_of_getElem? (i := 84) rfl))) Via.refl e0 F1 (g := (mkF m 1 #[.val (.ref x)] [(.ref x)])) rfl rfl (hb hby d12_1)
  refine oOn st1 ?_
  show oGl p e below (T1.setTop (mkF m 4 #[.val (.ref x)] [(.ref b)])) _
  refine oOn (PB.len X1 hx hZ e1 (g := (mkF m 4 #[.val (.ref x)] [(.ref b)])) rfl rfl (hb hby d12_4)) ?_
  show oGl p e below (T1.setTop (mkF m 5 #[.val (.ref x)] [(.int (12 : Int32))])) _
  refine saloadN X1 hx (hb hby d12_5) rfl rfl rfl (pc' := 6) ?_
  have hz2 : n0 ≤ h0.size := by omega
  obtain ⟨cq2, kq2, q2a, q2b, q2c⟩ := isOf hZ e1 E1
  obtain ⟨_, _, ⟨T2, L2, k2, n2⟩, -, X2, ⟨Lc2, hQ2, l2, y2, z2⟩, st2⟩ := X1.virtualBack hx (y := (⟨"java/lang/String", "coder", "()B"⟩ : MethodName)) (z := (⟨"java/lang/String", "coder", "()B"⟩ : MethodName)) hown (mvT hZ (hw _ (List.mem_of_getElem? (i := 85) rfl))) (mvT hZ (hw _ (List.mem_of_getElem? (i := 86) rfl))) (notFace_of_selects (args := #[]) (mvT hZ (hw _ (List.mem_of_getElem? (i := 88) rfl)))) (mvT hZ (hw _ (List.mem_of_getElem? (i := 88) rfl))) (mvT hZ (hw _ (List.mem_of_getElem? (i := 87) rfl))) (by decide) (backOf (W := 1) (rmCdr l Z a0 hw [] x cz h0 n0 hz2 O0 SCS hcz C1) hZ (hw _ (List.mem_of_getElem? (i := 89) rfl)) (hw _ (List.mem_of_getElem? (i := 5) rfl)) (by decide) (by decide)) q2a q2c (g := (mkF m 6 #[.val (.ref x)] [(.ref x), (.int (12 : Int32))])) rfl (by rw [hml]; rfl) (Steps.refl _) (argsL := []) (rest := [(.int (12 : Int32))]) (lenOf pd_1 rfl) rfl (by show 2 * 0 + _ ≤ _; exact Nat.le_of_eq rfl) (hb hby d12_6) (fun _ _ => ⟨rfl, e1, (by decide : 0 + 0 ≤ _), (by decide : 0 + 0 ≤ _)⟩)
  dsimp only [Pt.U, Pt.locs, Pt.cells, Pt.slots] at X2 l2 y2 z2 st2 hQ2
  subst l2 y2 z2
  obtain ⟨rfl, N2q, eh2⟩ := hQ2
  have N2 := Fr.app N0 N2q
  refine oSt st2 ?_
  show oGl p e below (T2.setTop (mkF m 9 #[.val (.ref x)] [(.int (0 : Int32)), (.int (12 : Int32))])) _
  refine sishr X2 hx (hb hby d12_9) rfl (by decide) (z := (12 : Int32)) (pc' := 10) ?_
  refine oRetI X2 hx Bd.notSynchronized Bd.returns (hb hby d12_10) (by decide) (by decide) ?_
  show Q_rmLen3_12 Z x b f cz h0 n0 _ T2.heap _
  rw [eh2]
  exact ⟨rfl, N2, rfl⟩
theorem ef_rmEns3_12 (m : MethodId) (x0 : Nat) (x1 : Int32)  : entryFrame m #[(.ref x0), (.int x1)] 3 = mkF m 0 #[.val (.ref x0), .val (.int x1), .unset] [] := by first | (simp [entryFrame, mkF, argsToLocals, Value.category, maxLocals]; done) | rfl
def Q_rmEns3_12 (Z : State) (sb vb : Nat) (g : Nat → Int32) (h0 : Heap) (n0 : Nat) (vv : Option Value) (h : Heap) (L : List Loc) : Prop := vv = none ∧ Fr n0 L ∧ h = h0
set_option maxRecDepth 65536 in
set_option maxHeartbeats 40000000 in
theorem rmEns3_12 (l : Launch) (Z : State) (a0 : Array Value) (hw : ∀ d ∈ tables_1, d.before a0 Z = true) (ws : List Jvm.Cond) (sb vb : Nat) (g : Nat → Int32) (h0 : Heap) (n0 : Nat) (Z0 : n0 ≤ h0.size) (E0 : Exa Z h0 sb "java/lang/StringBuilder") (B0 : Fld Z h0 sb "java/lang/AbstractStringBuilder" "value" "[B" (.ref vb)) (B1 : Fld Z h0 sb "java/lang/AbstractStringBuilder" "coder" "B" (.int 0)) (B2 : Fld Z h0 sb "java/lang/AbstractStringBuilder" "count" "I" (.int 3)) (PV : oAI Z h0 vb .byte 16 g) :
    MetFree l (⟨"java/lang/AbstractStringBuilder", "ensureCapacityInternal", "(I)V"⟩ : MethodName) (head1 (Jvm.Cond.code (⟨"java/lang/AbstractStringBuilder", "ensureCapacityInternal", "(I)V"⟩ : MethodName) jdk_68_method_9_code 3 (none : Option FieldType) :: ws) ({ frames := 0, cells := 0, slots := 0, locals := 0 } : Room)) (fun aA uU => aA = #[(.ref sb), (.int (15 : Int32))] ∧ Z.Warmed39 uU.vm ∧ uU.heap = h0) (fun _ _ _ _ _ => True) (fun _ uU oO uU' => ∃ vV lL, oO = .returned vV ∧ Q_rmEns3_12 Z sb vb g h0 n0 vV uU'.heap lL ∧ FrameEnd uU oO uU' lL ({ frames := 0, cells := 0, slots := 0, locals := 0 } : Room).cells ({ frames := 0, cells := 0, slots := 0, locals := 0 } : Room).slots) := by
  refine MetFree.of_bodySF (plainFor_of_name pn_AbstractStringBuilder) hisR ?_
  intro p e s m args below meth c s₁ Bd hml0 hP hK
  obtain ⟨rfl, hZ, hh⟩ := hP
  have hx := Bd.exec
  have hby := Bd.bytes
  have hml : c.maxLocals = 3 := hml0
  have hown : s.vm.findClass "java/lang/AbstractStringBuilder" = some m.cls := findClass_of_methodNamed Bd.named
  have hnm := (name_of_methodNamed Bd.named Bd.method).1
  have X0 : Stand p l e ({ frames := 0, cells := 0, slots := 0, locals := 0 } : Room) s m #[(.ref sb), (.int (15 : Int32))] below meth c s₁ [] 0 0 := Stand.of_body Bd
  have e0 : s₁.heap = h0 := by rw [← hh, Bd.state]; rfl
  have N0 := Fr.nil n0
  refine oEnter (oCast (ef_rmEns3_12 m sb (15 : Int32) ) ?_)
  show oGl p e below (s₁.setTop (mkF m 0 #[.val (.ref sb), .val (.int (15 : Int32)), .unset] [])) _
  refine saloadN X0 hx (hb hby d14_0) rfl rfl rfl (pc' := 1) ?_
  obtain ⟨T1, X1, e1, st1⟩ := getF X0 hx hZ hown (host := "") (Or.inl (hw _ (List.mem_of_getElem? (i := 64) rfl))) Via.refl e0 B0 (g := (mkF m 1 #[.val (.ref sb), .val (.int (15 : Int32)), .unset] [(.ref sb)])) rfl rfl (hb hby d14_1)
  refine oOn st1 ?_
  show oGl p e below (T1.setTop (mkF m 4 #[.val (.ref sb), .val (.int (15 : Int32)), .unset] [(.ref vb)])) _
  refine oOn (PV.len X1 hx hZ e1 (g := (mkF m 4 #[.val (.ref sb), .val (.int (15 : Int32)), .unset] [(.ref vb)])) rfl rfl (hb hby d14_4)) ?_
  show oGl p e below (T1.setTop (mkF m 5 #[.val (.ref sb), .val (.int (15 : Int32)), .unset] [(.int (16 : Int32))])) _
  refine saloadN X1 hx (hb hby d14_5) rfl rfl rfl (pc' := 6) ?_
  obtain ⟨T2, X2, e2, st2⟩ := getF X1 hx hZ hown (host := "") (Or.inl (hw _ (List.mem_of_getElem? (i := 66) rfl))) Via.refl e1 B1 (g := (mkF m 6 #[.val (.ref sb), .val (.int (15 : Int32)), .unset] [(.ref sb), (.int (16 : Int32))])) rfl rfl (hb hby d14_6)
  refine oOn st2 ?_
  show oGl p e below (T2.setTop (mkF m 9 #[.val (.ref sb), .val (.int (15 : Int32)), .unset] [(.int (0 : Int32)), (.int (16 : Int32))])) _
  refine sishr X2 hx (hb hby d14_9) rfl (by decide) (z := (16 : Int32)) (pc' := 10) ?_
  refine sistoreN X2 hx (hb hby d14_10) rfl rfl (l' := #[.val (.ref sb), .val (.int (15 : Int32)), .val (.int (16 : Int32))]) (pc' := 11) ?_
  refine siloadN X2 hx (hb hby d14_11) rfl rfl (pc' := 12) ?_
  refine siloadN X2 hx (hb hby d14_12) rfl rfl (pc' := 13) ?_
  refine sisub X2 hx (hb hby d14_13) rfl (by decide) (z := (-1 : Int32)) (pc' := 14) ?_
  refine sifY X2 hx (hb hby d14_14) (by decide) (by decide) (flt (by decide : ¬ ((0 : Int32) < (-1 : Int32)))).2.2.2 (pc' := 38) ?_
  refine oRet0 X2 hx Bd.notSynchronized Bd.returns (hb hby d14_38) (by decide) (by decide) ?_
  show Q_rmEns3_12 Z sb vb g h0 n0 _ T2.heap _
  rw [e2]
  exact ⟨rfl, N0, rfl⟩
theorem ef_rmInf3_12 (m : MethodId) (x0 : Nat) (x1 : Nat)  : entryFrame m #[(.ref x0), (.ref x1)] 2 = mkF m 0 #[.val (.ref x0), .val (.ref x1)] [] := by first | (simp [entryFrame, mkF, argsToLocals, Value.category, maxLocals]; done) | rfl
def Q_rmInf3_12 (Z : State) (sb vb x : Nat) (cz : Int32) (h0 : Heap) (n0 : Nat) (vv : Option Value) (h : Heap) (L : List Loc) : Prop := vv = none ∧ Fr n0 L ∧ h = h0
set_option maxRecDepth 65536 in
set_option maxHeartbeats 40000000 in
theorem rmInf3_12 (l : Launch) (Z : State) (a0 : Array Value) (hw : ∀ d ∈ tables_1, d.before a0 Z = true) (ws : List Jvm.Cond) (sb vb x : Nat) (cz : Int32) (h0 : Heap) (n0 : Nat) (Z0 : n0 ≤ h0.size) (O0 : oOld Z n0 h0) (SCS : Sta Z Z.heap "java/lang/String" "COMPACT_STRINGS" "Z" (.int cz)) (hcz : ¬ cz = (0 : Int32)) (E0 : Exa Z h0 sb "java/lang/StringBuilder") (B0 : Fld Z h0 sb "java/lang/AbstractStringBuilder" "value" "[B" (.ref vb)) (B1 : Fld Z h0 sb "java/lang/AbstractStringBuilder" "coder" "B" (.int 0)) (B2 : Fld Z h0 sb "java/lang/AbstractStringBuilder" "count" "I" (.int 3)) (E1 : Exa Z h0 x "java/lang/String") (C1 : Fld Z h0 x "java/lang/String" "coder" "B" (.int 0)) :
    MetFree l (⟨"java/lang/AbstractStringBuilder", "inflateIfNeededFor", "(Ljava/lang/String;)V"⟩ : MethodName) (head1 (Jvm.Cond.code (⟨"java/lang/AbstractStringBuilder", "inflateIfNeededFor", "(Ljava/lang/String;)V"⟩ : MethodName) jdk_68_method_71_code 2 (none : Option FieldType) :: ws) ({ frames := 1, cells := 0, slots := 0, locals := 13 } : Room)) (fun aA uU => aA = #[(.ref sb), (.ref x)] ∧ Z.Warmed39 uU.vm ∧ uU.heap = h0) (fun _ _ _ _ _ => True) (fun _ uU oO uU' => ∃ vV lL, oO = .returned vV ∧ Q_rmInf3_12 Z sb vb x cz h0 n0 vV uU'.heap lL ∧ FrameEnd uU oO uU' lL ({ frames := 1, cells := 0, slots := 0, locals := 13 } : Room).cells ({ frames := 1, cells := 0, slots := 0, locals := 13 } : Room).slots) := by
  refine MetFree.of_bodySF (plainFor_of_name pn_AbstractStringBuilder) hisR ?_
  intro p e s m args below meth c s₁ Bd hml0 hP hK
  obtain ⟨rfl, hZ, hh⟩ := hP
  have hx := Bd.exec
  have hby := Bd.bytes
  have hml : c.maxLocals = 2 := hml0
  have hown : s.vm.findClass "java/lang/AbstractStringBuilder" = some m.cls := findClass_of_methodNamed Bd.named
  have hnm := (name_of_methodNamed Bd.named Bd.method).1
  have X0 : Stand p l e ({ frames := 1, cells := 0, slots := 0, locals := 13 } : Room) s m #[(.ref sb), (.ref x)] below meth c s₁ [] 0 0 := Stand.of_body Bd
  have e0 : s₁.heap = h0 := by rw [← hh, Bd.state]; rfl
  have N0 := Fr.nil n0
  refine oEnter (oCast (ef_rmInf3_12 m sb x ) ?_)
  show oGl p e below (s₁.setTop (mkF m 0 #[.val (.ref sb), .val (.ref x)] [])) _
  obtain ⟨T1, X1, e1, st1⟩ := getS2 X0 hx hZ hown (host := "") (Or.inl (hw _ (List.mem_of_getElem? (i := 63) rfl))) Via.refl e0 (SCS.ext O0.2) (g := (mkF m 0 #[.val (.ref sb), .val (.ref x)] [])) rfl (hb hby d16_0)
  refine oOn st1 ?_
  show oGl p e below (T1.setTop (mkF m 3 #[.val (.ref sb), .val (.ref x)] [(.int cz)])) _
  refine sifN X1 hx (hb hby d16_3) rfl (feq (hcz : ¬ (cz = (0 : Int32)))).1 (pc' := 6) ?_
  refine saloadN X1 hx (hb hby d16_6) rfl rfl rfl (pc' := 7) ?_
  obtain ⟨T2, X2, e2, st2⟩ := getF X1 hx hZ hown (host := "") (Or.inl (hw _ (List.mem_of_getElem? (i := 66) rfl))) Via.refl e1 B1 (g := (mkF m 7 #[.val (.ref sb), .val (.ref x)] [(.ref sb)])) rfl rfl (hb hby d16_7)
  refine oOn st2 ?_
  show oGl p e below (T2.setTop (mkF m 10 #[.val (.ref sb), .val (.ref x)] [(.int (0 : Int32))])) _
  refine saloadN X2 hx (hb hby d16_10) rfl rfl rfl (pc' := 11) ?_
  have hz3 : n0 ≤ h0.size := by omega
  obtain ⟨cq3, kq3, q3a, q3b, q3c⟩ := isOf hZ e2 E1
  obtain ⟨_, _, ⟨T3, L3, k3, n3⟩, -, X3, ⟨Lc3, hQ3, l3, y3, z3⟩, st3⟩ := X2.virtualBack hx (y := (⟨"java/lang/String", "coder", "()B"⟩ : MethodName)) (z := (⟨"java/lang/String", "coder", "()B"⟩ : MethodName)) hown (mvT hZ (hw _ (List.mem_of_getElem? (i := 109) rfl))) (mvT hZ (hw _ (List.mem_of_getElem? (i := 86) rfl))) (notFace_of_selects (args := #[]) (mvT hZ (hw _ (List.mem_of_getElem? (i := 88) rfl)))) (mvT hZ (hw _ (List.mem_of_getElem? (i := 88) rfl))) (mvT hZ (hw _ (List.mem_of_getElem? (i := 87) rfl))) (by decide) (backOf (W := 1) (rmCdr l Z a0 hw [] x cz h0 n0 hz3 O0 SCS hcz C1) hZ (hw _ (List.mem_of_getElem? (i := 89) rfl)) (hw _ (List.mem_of_getElem? (i := 5) rfl)) (by decide) (by decide)) q3a q3c (g := (mkF m 11 #[.val (.ref sb), .val (.ref x)] [(.ref x), (.int (0 : Int32))])) rfl (by rw [hml]; rfl) (Steps.refl _) (argsL := []) (rest := [(.int (0 : Int32))]) (lenOf pd_1 rfl) rfl (by show 2 * 0 + _ ≤ _; exact Nat.le_of_eq rfl) (hb hby d16_11) (fun _ _ => ⟨rfl, e2, (by decide : 0 + 0 ≤ _), (by decide : 0 + 0 ≤ _)⟩)
  dsimp only [Pt.U, Pt.locs, Pt.cells, Pt.slots] at X3 l3 y3 z3 st3 hQ3
  subst l3 y3 z3
  obtain ⟨rfl, N3q, eh3⟩ := hQ3
  have N3 := Fr.app N0 N3q
  refine oSt st3 ?_
  show oGl p e below (T3.setTop (mkF m 14 #[.val (.ref sb), .val (.ref x)] [(.int (0 : Int32)), (.int (0 : Int32))])) _
  refine sicY X3 hx (hb hby d16_14) (by decide) (by decide) (teq (by decide : (0 : Int32) = (0 : Int32))).1 (pc' := 21) ?_
  refine oRet0 X3 hx Bd.notSynchronized Bd.returns (hb hby d16_21) (by decide) (by decide) ?_
  show Q_rmInf3_12 Z sb vb x cz h0 n0 _ T3.heap _
  rw [eh3]
  exact ⟨rfl, N3, rfl⟩
theorem ef_rmGby3_12 (m : MethodId) (x0 : Nat) (x1 : Nat) (x2 : Int32) (x3 : Int32)  : entryFrame m #[(.ref x0), (.ref x1), (.int x2), (.int x3)] 4 = mkF m 0 #[.val (.ref x0), .val (.ref x1), .val (.int x2), .val (.int x3)] [] := by first | (simp [entryFrame, mkF, argsToLocals, Value.category, maxLocals]; done) | rfl
def Q_rmGby3_12 (Z : State) (vb x b : Nat) (f g : Nat → Int32) (cz : Int32) (h0 : Heap) (n0 : Nat) (vv : Option Value) (h : Heap) (L : List Loc) : Prop := vv = none ∧ Fr n0 L ∧ Keep h0 h [vb] ∧ oAI Z h vb .byte 16 (oCpF 3 12 (fun i => f (0 + i)) g)
set_option maxRecDepth 65536 in
set_option maxHeartbeats 40000000 in
theorem rmGby3_12 (l : Launch) (Z : State) (a0 : Array Value) (hw : ∀ d ∈ tables_1, d.before a0 Z = true) (ws : List Jvm.Cond) (vb x b : Nat) (f g : Nat → Int32) (cz : Int32) (h0 : Heap) (n0 : Nat) (Z0 : n0 ≤ h0.size) (O0 : oOld Z n0 h0) (SCS : Sta Z Z.heap "java/lang/String" "COMPACT_STRINGS" "Z" (.int cz)) (hcz : ¬ cz = (0 : Int32)) (E1 : Exa Z h0 x "java/lang/String") (F1 : Fld Z h0 x "java/lang/String" "value" "[B" (.ref b)) (C1 : Fld Z h0 x "java/lang/String" "coder" "B" (.int 0)) (PB : oAI Z h0 b .byte 12 f) (PV : oAI Z h0 vb .byte 16 g) (Ff : oFit 12 f) (Fg : oFit 16 g) (gv : n0 ≤ vb) (nbv : b ≠ vb) :
    MetFree l (⟨"java/lang/String", "getBytes", "([BIB)V"⟩ : MethodName) (head1 (Jvm.Cond.code (⟨"java/lang/String", "getBytes", "([BIB)V"⟩ : MethodName) jdk_42_method_147_code 4 (none : Option FieldType) :: ws) ({ frames := 1, cells := 0, slots := 0, locals := 18 } : Room)) (fun aA uU => aA = #[(.ref x), (.ref vb), (.int (3 : Int32)), (.int (0 : Int32))] ∧ Z.Warmed39 uU.vm ∧ uU.heap = h0) (fun _ _ _ _ _ => True) (fun _ uU oO uU' => ∃ vV lL, oO = .returned vV ∧ Q_rmGby3_12 Z vb x b f g cz h0 n0 vV uU'.heap lL ∧ FrameEnd uU oO uU' lL ({ frames := 1, cells := 0, slots := 0, locals := 18 } : Room).cells ({ frames := 1, cells := 0, slots := 0, locals := 18 } : Room).slots) := by
  refine MetFree.of_bodySF (plainFor_of_name pn_String) hisR ?_
  intro p e s m args below meth c s₁ Bd hml0 hP hK
  obtain ⟨rfl, hZ, hh⟩ := hP
  have hx := Bd.exec
  have hby := Bd.bytes
  have hml : c.maxLocals = 4 := hml0
  have hown : s.vm.findClass "java/lang/String" = some m.cls := findClass_of_methodNamed Bd.named
  have hnm := (name_of_methodNamed Bd.named Bd.method).1
  have X0 : Stand p l e ({ frames := 1, cells := 0, slots := 0, locals := 18 } : Room) s m #[(.ref x), (.ref vb), (.int (3 : Int32)), (.int (0 : Int32))] below meth c s₁ [] 0 0 := Stand.of_body Bd
  have e0 : s₁.heap = h0 := by rw [← hh, Bd.state]; rfl
  have N0 := Fr.nil n0
  have lB : @LT.lt Nat _ b h0.size := PB.lt
  have lV : @LT.lt Nat _ vb h0.size := PV.lt
  have nb9 : @Ne Nat b vb := nbv
  refine oEnter (oCast (ef_rmGby3_12 m x vb (3 : Int32) (0 : Int32) ) ?_)
  show oGl p e below (s₁.setTop (mkF m 0 #[.val (.ref x), .val (.ref vb), .val (.int (3 : Int32)), .val (.int (0 : Int32))] [])) _
  refine saloadN X0 hx (hb hby d17_0) rfl rfl rfl (pc' := 1) ?_
  have hz1 : n0 ≤ h0.size := by omega
  obtain ⟨cq1, kq1, q1a, q1b, q1c⟩ := isOf hZ e0 E1
  obtain ⟨_, _, ⟨T1, L1, k1, n1⟩, -, X1, ⟨Lc1, hQ1, l1, y1, z1⟩, st1⟩ := X0.virtualBack hx (y := (⟨"java/lang/String", "coder", "()B"⟩ : MethodName)) (z := (⟨"java/lang/String", "coder", "()B"⟩ : MethodName)) hown (mvT hZ (hw _ (List.mem_of_getElem? (i := 85) rfl))) (mvT hZ (hw _ (List.mem_of_getElem? (i := 86) rfl))) (notFace_of_selects (args := #[]) (mvT hZ (hw _ (List.mem_of_getElem? (i := 88) rfl)))) (mvT hZ (hw _ (List.mem_of_getElem? (i := 88) rfl))) (mvT hZ (hw _ (List.mem_of_getElem? (i := 87) rfl))) (by decide) (backOf (W := 0) (rmCdr l Z a0 hw [] x cz h0 n0 hz1 O0 SCS hcz C1) hZ (hw _ (List.mem_of_getElem? (i := 89) rfl)) (hw _ (List.mem_of_getElem? (i := 5) rfl)) (by decide) (by decide)) q1a q1c (g := (mkF m 1 #[.val (.ref x), .val (.ref vb), .val (.int (3 : Int32)), .val (.int (0 : Int32))] [(.ref x)])) rfl (by rw [hml]; rfl) (Steps.refl _) (argsL := []) (rest := []) (lenOf pd_1 rfl) rfl (by show 2 * 0 + _ ≤ _; exact Nat.le_of_eq rfl) (hb hby d17_1) (fun _ _ => ⟨rfl, e0, (by decide : 0 + 0 ≤ _), (by decide : 0 + 0 ≤ _)⟩)
  dsimp only [Pt.U, Pt.locs, Pt.cells, Pt.slots] at X1 l1 y1 z1 st1 hQ1
  subst l1 y1 z1
  obtain ⟨rfl, N1q, eh1⟩ := hQ1
  have N1 := Fr.app N0 N1q
  refine oSt st1 ?_
  show oGl p e below (T1.setTop (mkF m 4 #[.val (.ref x), .val (.ref vb), .val (.int (3 : Int32)), .val (.int (0 : Int32))] [(.int (0 : Int32))])) _
  refine siloadN X1 hx (hb hby d17_4) rfl rfl (pc' := 5) ?_
  refine sicN X1 hx (hb hby d17_5) rfl (teq (by decide : (0 : Int32) = (0 : Int32))).2 (pc' := 8) ?_
  refine saloadN X1 hx (hb hby d17_8) rfl rfl rfl (pc' := 9) ?_
  obtain ⟨T2, X2, e2, st2⟩ := getF X1 hx hZ hown (host := "") (Or.inl (hw _ (List.mem_of_getElem? (i := 84) rfl))) Via.refl eh1 F1 (g := (mkF m 9 #[.val (.ref x), .val (.ref vb), .val (.int (3 : Int32)), .val (.int (0 : Int32))] [(.ref x)])) rfl rfl (hb hby d17_9)
  refine oOn st2 ?_
  show oGl p e below (T2.setTop (mkF m 12 #[.val (.ref x), .val (.ref vb), .val (.int (3 : Int32)), .val (.int (0 : Int32))] [(.ref b)])) _
  refine siconst X2 hx (hb hby d17_12) rfl rfl (z := 0) (pc' := 13) ?_
  refine saloadN X2 hx (hb hby d17_13) rfl rfl rfl (pc' := 14) ?_
  refine siloadN X2 hx (hb hby d17_14) rfl rfl (pc' := 15) ?_
  refine siloadN X2 hx (hb hby d17_15) rfl rfl (pc' := 16) ?_
  refine sishl X2 hx (hb hby d17_16) rfl (by decide) (z := (3 : Int32)) (pc' := 17) ?_
  refine saloadN X2 hx (hb hby d17_17) rfl rfl rfl (pc' := 18) ?_
  obtain ⟨T3, X3, e3, st3⟩ := getF X2 hx hZ hown (host := "") (Or.inl (hw _ (List.mem_of_getElem? (i := 84) rfl))) Via.refl e2 F1 (g := (mkF m 18 #[.val (.ref x), .val (.ref vb), .val (.int (3 : Int32)), .val (.int (0 : Int32))] [(.ref x), (.int (3 : Int32)), (.ref vb), (.int (0 : Int32)), (.ref b)])) rfl rfl (hb hby d17_18)
  refine oOn st3 ?_
  show oGl p e below (T3.setTop (mkF m 21 #[.val (.ref x), .val (.ref vb), .val (.int (3 : Int32)), .val (.int (0 : Int32))] [(.ref b), (.int (3 : Int32)), (.ref vb), (.int (0 : Int32)), (.ref b)])) _
  refine oOn (PB.len X3 hx hZ e3 (g := (mkF m 21 #[.val (.ref x), .val (.ref vb), .val (.int (3 : Int32)), .val (.int (0 : Int32))] [(.ref b), (.int (3 : Int32)), (.ref vb), (.int (0 : Int32)), (.ref b)])) rfl rfl (hb hby d17_21)) ?_
  show oGl p e below (T3.setTop (mkF m 22 #[.val (.ref x), .val (.ref vb), .val (.int (3 : Int32)), .val (.int (0 : Int32))] [(.int (12 : Int32)), (.int (3 : Int32)), (.ref vb), (.int (0 : Int32)), (.ref b)])) _
  obtain ⟨T4, h4, L4, X4, e4, N4, K4, V4, st4⟩ := oCp X3 hx hZ hown (hw _ (List.mem_of_getElem? (i := 115) rfl)) (hw _ (List.mem_of_getElem? (i := 118) rfl)) (hw _ (List.mem_of_getElem? (i := 116) rfl)) (hw _ (List.mem_of_getElem? (i := 117) rfl)) e3 PB PV Ff Fg (by decide) (by decide) (by decide) (by decide) (by decide) N1 (by omega) (gf := (mkF m 22 #[.val (.ref x), .val (.ref vb), .val (.int (3 : Int32)), .val (.int (0 : Int32))] [(.int (12 : Int32)), (.int (3 : Int32)), (.ref vb), (.int (0 : Int32)), (.ref b)])) rfl (by rw [hml]; rfl) (rest := []) rfl (hb hby d17_22) (by decide) (W := 0) (by show 2 * 0 + _ ≤ _; exact Nat.le_of_eq rfl) (by decide)
  refine oOn st4 ?_
  have z5 : h0.size ≤ h4.size := K4.1
  have Vc4 : oAI Z h4 vb .byte 16 (oCpF 3 12 (fun i => f (0 + i)) g) := V4
  show oGl p e below (T4.setTop (mkF m 25 #[.val (.ref x), .val (.ref vb), .val (.int (3 : Int32)), .val (.int (0 : Int32))] [])) _
  refine sgoto X4 hx (hb hby d17_25) (by decide) (by decide)  (pc' := 43) ?_
  have kp6 : Keep h0 h4 [vb] := ((Keep.refl h0 [vb]).trans K4 (allS (Or.inl (List.mem_of_getElem? (i := 0) rfl)) all0))
  refine oRet0 X4 hx Bd.notSynchronized Bd.returns (hb hby d17_43) (by decide) (by decide) ?_
  show Q_rmGby3_12 Z vb x b f g cz h0 n0 _ T4.heap _
  rw [e4]
  exact ⟨rfl, N4, kp6, Vc4⟩
theorem ef_rmPut3_12 (m : MethodId) (x0 : Nat) (x1 : Int32) (x2 : Nat)  : entryFrame m #[(.ref x0), (.int x1), (.ref x2)] 3 = mkF m 0 #[.val (.ref x0), .val (.int x1), .val (.ref x2)] [] := by first | (simp [entryFrame, mkF, argsToLocals, Value.category, maxLocals]; done) | rfl
def Q_rmPut3_12 (Z : State) (sb vb x b : Nat) (f g : Nat → Int32) (cz : Int32) (h0 : Heap) (n0 : Nat) (vv : Option Value) (h : Heap) (L : List Loc) : Prop := vv = none ∧ Fr n0 L ∧ Keep h0 h [vb] ∧ oAI Z h vb .byte 16 (oCpF 3 12 (fun i => f (0 + i)) g)
set_option maxRecDepth 65536 in
set_option maxHeartbeats 40000000 in
theorem rmPut3_12 (l : Launch) (Z : State) (a0 : Array Value) (hw : ∀ d ∈ tables_1, d.before a0 Z = true) (ws : List Jvm.Cond) (sb vb x b : Nat) (f g : Nat → Int32) (cz : Int32) (h0 : Heap) (n0 : Nat) (Z0 : n0 ≤ h0.size) (O0 : oOld Z n0 h0) (SCS : Sta Z Z.heap "java/lang/String" "COMPACT_STRINGS" "Z" (.int cz)) (hcz : ¬ cz = (0 : Int32)) (E0 : Exa Z h0 sb "java/lang/StringBuilder") (B0 : Fld Z h0 sb "java/lang/AbstractStringBuilder" "value" "[B" (.ref vb)) (B1 : Fld Z h0 sb "java/lang/AbstractStringBuilder" "coder" "B" (.int 0)) (B2 : Fld Z h0 sb "java/lang/AbstractStringBuilder" "count" "I" (.int 3)) (E1 : Exa Z h0 x "java/lang/String") (F1 : Fld Z h0 x "java/lang/String" "value" "[B" (.ref b)) (C1 : Fld Z h0 x "java/lang/String" "coder" "B" (.int 0)) (PB : oAI Z h0 b .byte 12 f) (PV : oAI Z h0 vb .byte 16 g) (Ff : oFit 12 f) (Fg : oFit 16 g) (gs : n0 ≤ sb) (gv : n0 ≤ vb) (nbv : b ≠ vb) :
    MetFree l (⟨"java/lang/AbstractStringBuilder", "putStringAt", "(ILjava/lang/String;)V"⟩ : MethodName) (head1 (Jvm.Cond.code (⟨"java/lang/AbstractStringBuilder", "putStringAt", "(ILjava/lang/String;)V"⟩ : MethodName) jdk_68_method_73_code 3 (none : Option FieldType) :: ws) ({ frames := 2, cells := 0, slots := 0, locals := 33 } : Room)) (fun aA uU => aA = #[(.ref sb), (.int (3 : Int32)), (.ref x)] ∧ Z.Warmed39 uU.vm ∧ uU.heap = h0) (fun _ _ _ _ _ => True) (fun _ uU oO uU' => ∃ vV lL, oO = .returned vV ∧ Q_rmPut3_12 Z sb vb x b f g cz h0 n0 vV uU'.heap lL ∧ FrameEnd uU oO uU' lL ({ frames := 2, cells := 0, slots := 0, locals := 33 } : Room).cells ({ frames := 2, cells := 0, slots := 0, locals := 33 } : Room).slots) := by
  refine MetFree.of_bodySF (plainFor_of_name pn_AbstractStringBuilder) hisR ?_
  intro p e s m args below meth c s₁ Bd hml0 hP hK
  obtain ⟨rfl, hZ, hh⟩ := hP
  have hx := Bd.exec
  have hby := Bd.bytes
  have hml : c.maxLocals = 3 := hml0
  have hown : s.vm.findClass "java/lang/AbstractStringBuilder" = some m.cls := findClass_of_methodNamed Bd.named
  have hnm := (name_of_methodNamed Bd.named Bd.method).1
  have X0 : Stand p l e ({ frames := 2, cells := 0, slots := 0, locals := 33 } : Room) s m #[(.ref sb), (.int (3 : Int32)), (.ref x)] below meth c s₁ [] 0 0 := Stand.of_body Bd
  have e0 : s₁.heap = h0 := by rw [← hh, Bd.state]; rfl
  have N0 := Fr.nil n0
  have lB : @LT.lt Nat _ b h0.size := PB.lt
  have lV : @LT.lt Nat _ vb h0.size := PV.lt
  have nb9 : @Ne Nat b vb := nbv
  have lS : @LT.lt Nat _ sb h0.size := E0.lt
  have nsv : @Ne Nat sb vb := oNeO E0 (hw _ (List.mem_of_getElem? (i := 51) rfl)) PV
  have nxv : @Ne Nat x vb := oNeO E1 (hw _ (List.mem_of_getElem? (i := 6) rfl)) PV
  have nsb : @Ne Nat sb b := oNeO E0 (hw _ (List.mem_of_getElem? (i := 51) rfl)) PB
  refine oEnter (oCast (ef_rmPut3_12 m sb (3 : Int32) x ) ?_)
  show oGl p e below (s₁.setTop (mkF m 0 #[.val (.ref sb), .val (.int (3 : Int32)), .val (.ref x)] [])) _
  refine saloadN X0 hx (hb hby d15_0) rfl rfl rfl (pc' := 1) ?_
  refine saloadN X0 hx (hb hby d15_1) rfl rfl rfl (pc' := 2) ?_
  have hz1 : n0 ≤ h0.size := by omega
  obtain ⟨cq1, q1, q1'⟩ := E0.cell
  obtain ⟨_, _, ⟨T1, L1, k1, n1⟩, -, X1, ⟨Lc1, hQ1, l1, y1, z1⟩, st1⟩ := X0.privateBack hx (y := (⟨"java/lang/AbstractStringBuilder", "inflateIfNeededFor", "(Ljava/lang/String;)V"⟩ : MethodName)) hown (mvT hZ (hw _ (List.mem_of_getElem? (i := 104) rfl))) (mvT hZ (hw _ (List.mem_of_getElem? (i := 105) rfl))) (oPriv2 (mvT hZ (hw _ (List.mem_of_getElem? (i := 107) rfl))) (Cond.privateMethod_at (mvP hZ (hw _ (List.mem_of_getElem? (i := 106) rfl)) (args := #[]))) (mvT hZ (hw _ (List.mem_of_getElem? (i := 105) rfl))) (by decide)) (Cond.privateMethod_at (mvP hZ (hw _ (List.mem_of_getElem? (i := 106) rfl)) (args := #[]))) (mvT hZ (hw _ (List.mem_of_getElem? (i := 108) rfl))) (by decide) (backOf (W := 0) (rmInf3_12 l Z a0 hw [] sb vb x cz h0 n0 hz1 O0 SCS hcz E0 B0 B1 B2 E1 C1) hZ (hw _ (List.mem_of_getElem? (i := 108) rfl)) (hw _ (List.mem_of_getElem? (i := 60) rfl)) (by decide) (by decide)) (g := (mkF m 2 #[.val (.ref sb), .val (.int (3 : Int32)), .val (.ref x)] [(.ref x), (.ref sb)])) rfl (by rw [hml]; rfl) (Steps.refl _) (a := sb) (by rw [e0]; exact q1) q1' (argsL := [(.ref x)]) (rest := []) (lenOf pd_2 rfl) rfl (by show 2 * 0 + _ ≤ _; exact Nat.le_of_eq rfl) (hb hby d15_2) (fun _ _ => ⟨rfl, e0, (by decide : 0 + 0 ≤ _), (by decide : 0 + 0 ≤ _)⟩)
  dsimp only [Pt.U, Pt.locs, Pt.cells, Pt.slots] at X1 l1 y1 z1 st1 hQ1
  subst l1 y1 z1
  obtain ⟨rfl, N1q, eh1⟩ := hQ1
  have N1 := Fr.app N0 N1q
  refine oSt st1 ?_
  show oGl p e below (T1.setTop (mkF m 5 #[.val (.ref sb), .val (.int (3 : Int32)), .val (.ref x)] [])) _
  refine saloadN X1 hx (hb hby d15_5) rfl rfl rfl (pc' := 6) ?_
  refine saloadN X1 hx (hb hby d15_6) rfl rfl rfl (pc' := 7) ?_
  obtain ⟨T2, X2, e2, st2⟩ := getF X1 hx hZ hown (host := "") (Or.inl (hw _ (List.mem_of_getElem? (i := 64) rfl))) Via.refl eh1 B0 (g := (mkF m 7 #[.val (.ref sb), .val (.int (3 : Int32)), .val (.ref x)] [(.ref sb), (.ref x)])) rfl rfl (hb hby d15_7)
  refine oOn st2 ?_
  show oGl p e below (T2.setTop (mkF m 10 #[.val (.ref sb), .val (.int (3 : Int32)), .val (.ref x)] [(.ref vb), (.ref x)])) _
  refine siloadN X2 hx (hb hby d15_10) rfl rfl (pc' := 11) ?_
  refine saloadN X2 hx (hb hby d15_11) rfl rfl rfl (pc' := 12) ?_
  obtain ⟨T3, X3, e3, st3⟩ := getF X2 hx hZ hown (host := "") (Or.inl (hw _ (List.mem_of_getElem? (i := 66) rfl))) Via.refl e2 B1 (g := (mkF m 12 #[.val (.ref sb), .val (.int (3 : Int32)), .val (.ref x)] [(.ref sb), (.int (3 : Int32)), (.ref vb), (.ref x)])) rfl rfl (hb hby d15_12)
  refine oOn st3 ?_
  show oGl p e below (T3.setTop (mkF m 15 #[.val (.ref sb), .val (.int (3 : Int32)), .val (.ref x)] [(.int (0 : Int32)), (.int (3 : Int32)), (.ref vb), (.ref x)])) _
  have hz4 : n0 ≤ h0.size := by omega
  obtain ⟨cq4, kq4, q4a, q4b, q4c⟩ := isOf hZ e3 E1
  obtain ⟨_, _, ⟨T4, L4, k4, n4⟩, -, X4, ⟨Lc4, hQ4, l4, y4, z4⟩, st4⟩ := X3.virtualBack hx (y := (⟨"java/lang/String", "getBytes", "([BIB)V"⟩ : MethodName)) (z := (⟨"java/lang/String", "getBytes", "([BIB)V"⟩ : MethodName)) hown (mvT hZ (hw _ (List.mem_of_getElem? (i := 110) rfl))) (mvT hZ (hw _ (List.mem_of_getElem? (i := 111) rfl))) (notFace_of_selects (args := #[]) (mvT hZ (hw _ (List.mem_of_getElem? (i := 113) rfl)))) (mvT hZ (hw _ (List.mem_of_getElem? (i := 113) rfl))) (mvT hZ (hw _ (List.mem_of_getElem? (i := 112) rfl))) (by decide) (backOf (W := 0) (rmGby3_12 l Z a0 hw [] vb x b f g cz h0 n0 hz4 O0 SCS hcz E1 F1 C1 PB PV Ff Fg gv nbv) hZ (hw _ (List.mem_of_getElem? (i := 114) rfl)) (hw _ (List.mem_of_getElem? (i := 5) rfl)) (by decide) (by decide)) q4a q4c (g := (mkF m 15 #[.val (.ref sb), .val (.int (3 : Int32)), .val (.ref x)] [(.int (0 : Int32)), (.int (3 : Int32)), (.ref vb), (.ref x)])) rfl (by rw [hml]; rfl) (Steps.refl _) (argsL := [(.ref vb), (.int (3 : Int32)), (.int (0 : Int32))]) (rest := []) (lenOf pd_3 rfl) rfl (by show 2 * 0 + _ ≤ _; exact Nat.le_of_eq rfl) (hb hby d15_15) (fun _ _ => ⟨rfl, e3, (by decide : 0 + 0 ≤ _), (by decide : 0 + 0 ≤ _)⟩)
  dsimp only [Pt.U, Pt.locs, Pt.cells, Pt.slots] at X4 l4 y4 z4 st4 hQ4
  subst l4 y4 z4
  obtain ⟨rfl, N4q, K4, Vg4⟩ := hQ4
  have N4 := Fr.app N1 N4q
  have z5 : h0.size ≤ T4.heap.size := K4.1
  refine oSt st4 ?_
  show oGl p e below (T4.setTop (mkF m 18 #[.val (.ref sb), .val (.int (3 : Int32)), .val (.ref x)] [])) _
  have kp6 : Keep h0 T4.heap [vb] := ((Keep.refl h0 [vb]).trans K4 (allS (Or.inl (List.mem_of_getElem? (i := 0) rfl)) all0))
  refine oRet0 X4 hx Bd.notSynchronized Bd.returns (hb hby d15_18) (by decide) (by decide) ?_
  show Q_rmPut3_12 Z sb vb x b f g cz h0 n0 _ T4.heap _
  exact ⟨rfl, N4, kp6, Vg4⟩
theorem ef_rmAap3_12 (m : MethodId) (x0 : Nat) (x1 : Nat)  : entryFrame m #[(.ref x0), (.ref x1)] 3 = mkF m 0 #[.val (.ref x0), .val (.ref x1), .unset] [] := by first | (simp [entryFrame, mkF, argsToLocals, Value.category, maxLocals]; done) | rfl
def Q_rmAap3_12 (Z : State) (sb vb x b : Nat) (f g : Nat → Int32) (cz : Int32) (h0 : Heap) (n0 : Nat) (vv : Option Value) (h : Heap) (L : List Loc) : Prop := vv = some (.ref sb) ∧ Fr n0 L ∧ Keep h0 h [sb, vb] ∧ Exa Z h sb "java/lang/StringBuilder" ∧ Fld Z h sb "java/lang/AbstractStringBuilder" "value" "[B" (.ref vb) ∧ Fld Z h sb "java/lang/AbstractStringBuilder" "coder" "B" (.int 0) ∧ Fld Z h sb "java/lang/AbstractStringBuilder" "count" "I" (.int 15) ∧ oAI Z h vb .byte 16 (oCpF 3 12 (fun i => f (0 + i)) g)
set_option maxRecDepth 65536 in
set_option maxHeartbeats 40000000 in
theorem rmAap3_12 (l : Launch) (Z : State) (a0 : Array Value) (hw : ∀ d ∈ tables_1, d.before a0 Z = true) (ws : List Jvm.Cond) (sb vb x b : Nat) (f g : Nat → Int32) (cz : Int32) (h0 : Heap) (n0 : Nat) (Z0 : n0 ≤ h0.size) (O0 : oOld Z n0 h0) (SCS : Sta Z Z.heap "java/lang/String" "COMPACT_STRINGS" "Z" (.int cz)) (hcz : ¬ cz = (0 : Int32)) (E0 : Exa Z h0 sb "java/lang/StringBuilder") (B0 : Fld Z h0 sb "java/lang/AbstractStringBuilder" "value" "[B" (.ref vb)) (B1 : Fld Z h0 sb "java/lang/AbstractStringBuilder" "coder" "B" (.int 0)) (B2 : Fld Z h0 sb "java/lang/AbstractStringBuilder" "count" "I" (.int 3)) (E1 : Exa Z h0 x "java/lang/String") (F1 : Fld Z h0 x "java/lang/String" "value" "[B" (.ref b)) (C1 : Fld Z h0 x "java/lang/String" "coder" "B" (.int 0)) (PB : oAI Z h0 b .byte 12 f) (PV : oAI Z h0 vb .byte 16 g) (Ff : oFit 12 f) (Fg : oFit 16 g) (gs : n0 ≤ sb) (gv : n0 ≤ vb) (nbv : b ≠ vb) :
    MetFree l (⟨"java/lang/AbstractStringBuilder", "append", "(Ljava/lang/String;)Ljava/lang/AbstractStringBuilder;"⟩ : MethodName) (head1 (Jvm.Cond.code (⟨"java/lang/AbstractStringBuilder", "append", "(Ljava/lang/String;)Ljava/lang/AbstractStringBuilder;"⟩ : MethodName) jdk_68_method_22_code 3 (some (.object "java/lang/AbstractStringBuilder")) :: ws) ({ frames := 3, cells := 0, slots := 0, locals := 47 } : Room)) (fun aA uU => aA = #[(.ref sb), (.ref x)] ∧ Z.Warmed39 uU.vm ∧ uU.heap = h0) (fun _ _ _ _ _ => True) (fun _ uU oO uU' => ∃ vV lL, oO = .returned vV ∧ Q_rmAap3_12 Z sb vb x b f g cz h0 n0 vV uU'.heap lL ∧ FrameEnd uU oO uU' lL ({ frames := 3, cells := 0, slots := 0, locals := 47 } : Room).cells ({ frames := 3, cells := 0, slots := 0, locals := 47 } : Room).slots) := by
  refine MetFree.of_bodySF (plainFor_of_name pn_AbstractStringBuilder) hisR ?_
  intro p e s m args below meth c s₁ Bd hml0 hP hK
  obtain ⟨rfl, hZ, hh⟩ := hP
  have hx := Bd.exec
  have hby := Bd.bytes
  have hml : c.maxLocals = 3 := hml0
  have hown : s.vm.findClass "java/lang/AbstractStringBuilder" = some m.cls := findClass_of_methodNamed Bd.named
  have hnm := (name_of_methodNamed Bd.named Bd.method).1
  have X0 : Stand p l e ({ frames := 3, cells := 0, slots := 0, locals := 47 } : Room) s m #[(.ref sb), (.ref x)] below meth c s₁ [] 0 0 := Stand.of_body Bd
  have e0 : s₁.heap = h0 := by rw [← hh, Bd.state]; rfl
  have N0 := Fr.nil n0
  have lB : @LT.lt Nat _ b h0.size := PB.lt
  have lV : @LT.lt Nat _ vb h0.size := PV.lt
  have nb9 : @Ne Nat b vb := nbv
  have lS : @LT.lt Nat _ sb h0.size := E0.lt
  have nsv : @Ne Nat sb vb := oNeO E0 (hw _ (List.mem_of_getElem? (i := 51) rfl)) PV
  have nxv : @Ne Nat x vb := oNeO E1 (hw _ (List.mem_of_getElem? (i := 6) rfl)) PV
  have nsb : @Ne Nat sb b := oNeO E0 (hw _ (List.mem_of_getElem? (i := 51) rfl)) PB
  refine oEnter (oCast (ef_rmAap3_12 m sb x ) ?_)
  show oGl p e below (s₁.setTop (mkF m 0 #[.val (.ref sb), .val (.ref x), .unset] [])) _
  refine saloadN X0 hx (hb hby d11_0) rfl rfl rfl (pc' := 1) ?_
  refine sifnonnullY X0 hx (hb hby d11_1) (by decide) (by decide)  (pc' := 9) ?_
  refine saloadN X0 hx (hb hby d11_9) rfl rfl rfl (pc' := 10) ?_
  have hz1 : n0 ≤ h0.size := by omega
  obtain ⟨cq1, kq1, q1a, q1b, q1c⟩ := isOf hZ e0 E1
  obtain ⟨_, _, ⟨T1, L1, k1, n1⟩, -, X1, ⟨Lc1, hQ1, l1, y1, z1⟩, st1⟩ := X0.virtualBack hx (y := (⟨"java/lang/String", "length", "()I"⟩ : MethodName)) (z := (⟨"java/lang/String", "length", "()I"⟩ : MethodName)) hown (mvT hZ (hw _ (List.mem_of_getElem? (i := 79) rfl))) (mvT hZ (hw _ (List.mem_of_getElem? (i := 80) rfl))) (notFace_of_selects (args := #[]) (mvT hZ (hw _ (List.mem_of_getElem? (i := 82) rfl)))) (mvT hZ (hw _ (List.mem_of_getElem? (i := 82) rfl))) (mvT hZ (hw _ (List.mem_of_getElem? (i := 81) rfl))) (by decide) (backOf (W := 0) (rmLen3_12 l Z a0 hw [] x b f cz h0 n0 hz1 O0 SCS hcz E1 F1 C1 PB) hZ (hw _ (List.mem_of_getElem? (i := 83) rfl)) (hw _ (List.mem_of_getElem? (i := 5) rfl)) (by decide) (by decide)) q1a q1c (g := (mkF m 10 #[.val (.ref sb), .val (.ref x), .unset] [(.ref x)])) rfl (by rw [hml]; rfl) (Steps.refl _) (argsL := []) (rest := []) (lenOf pd_4 rfl) rfl (by show 2 * 0 + _ ≤ _; exact Nat.le_of_eq rfl) (hb hby d11_10) (fun _ _ => ⟨rfl, e0, (by decide : 0 + 0 ≤ _), (by decide : 0 + 0 ≤ _)⟩)
  dsimp only [Pt.U, Pt.locs, Pt.cells, Pt.slots] at X1 l1 y1 z1 st1 hQ1
  subst l1 y1 z1
  obtain ⟨rfl, N1q, eh1⟩ := hQ1
  have N1 := Fr.app N0 N1q
  refine oSt st1 ?_
  show oGl p e below (T1.setTop (mkF m 13 #[.val (.ref sb), .val (.ref x), .unset] [(.int (12 : Int32))])) _
  refine sistoreN X1 hx (hb hby d11_13) rfl rfl (l' := #[.val (.ref sb), .val (.ref x), .val (.int (12 : Int32))]) (pc' := 14) ?_
  refine saloadN X1 hx (hb hby d11_14) rfl rfl rfl (pc' := 15) ?_
  refine saloadN X1 hx (hb hby d11_15) rfl rfl rfl (pc' := 16) ?_
  obtain ⟨T2, X2, e2, st2⟩ := getF X1 hx hZ hown (host := "") (Or.inl (hw _ (List.mem_of_getElem? (i := 92) rfl))) Via.refl eh1 B2 (g := (mkF m 16 #[.val (.ref sb), .val (.ref x), .val (.int (12 : Int32))] [(.ref sb), (.ref sb)])) rfl rfl (hb hby d11_16)
  refine oOn st2 ?_
  show oGl p e below (T2.setTop (mkF m 19 #[.val (.ref sb), .val (.ref x), .val (.int (12 : Int32))] [(.int (3 : Int32)), (.ref sb)])) _
  refine siloadN X2 hx (hb hby d11_19) rfl rfl (pc' := 20) ?_
  refine siadd X2 hx (hb hby d11_20) rfl (by decide) (z := (15 : Int32)) (pc' := 21) ?_
  have hz3 : n0 ≤ h0.size := by omega
  obtain ⟨cq3, q3, q3'⟩ := E0.cell
  obtain ⟨_, _, ⟨T3, L3, k3, n3⟩, -, X3, ⟨Lc3, hQ3, l3, y3, z3⟩, st3⟩ := X2.privateBack hx (y := (⟨"java/lang/AbstractStringBuilder", "ensureCapacityInternal", "(I)V"⟩ : MethodName)) hown (mvT hZ (hw _ (List.mem_of_getElem? (i := 94) rfl))) (mvT hZ (hw _ (List.mem_of_getElem? (i := 95) rfl))) (oPriv2 (mvT hZ (hw _ (List.mem_of_getElem? (i := 97) rfl))) (Cond.privateMethod_at (mvP hZ (hw _ (List.mem_of_getElem? (i := 96) rfl)) (args := #[]))) (mvT hZ (hw _ (List.mem_of_getElem? (i := 95) rfl))) (by decide)) (Cond.privateMethod_at (mvP hZ (hw _ (List.mem_of_getElem? (i := 96) rfl)) (args := #[]))) (mvT hZ (hw _ (List.mem_of_getElem? (i := 98) rfl))) (by decide) (backOf (W := 0) (rmEns3_12 l Z a0 hw [] sb vb g h0 n0 hz3 E0 B0 B1 B2 PV) hZ (hw _ (List.mem_of_getElem? (i := 98) rfl)) (hw _ (List.mem_of_getElem? (i := 60) rfl)) (by decide) (by decide)) (g := (mkF m 21 #[.val (.ref sb), .val (.ref x), .val (.int (12 : Int32))] [(.int (15 : Int32)), (.ref sb)])) rfl (by rw [hml]; rfl) (Steps.refl _) (a := sb) (by rw [e2]; exact q3) q3' (argsL := [(.int (15 : Int32))]) (rest := []) (lenOf pd_0 rfl) rfl (by show 2 * 0 + _ ≤ _; exact Nat.le_of_eq rfl) (hb hby d11_21) (fun _ _ => ⟨rfl, e2, (by decide : 0 + 0 ≤ _), (by decide : 0 + 0 ≤ _)⟩)
  dsimp only [Pt.U, Pt.locs, Pt.cells, Pt.slots] at X3 l3 y3 z3 st3 hQ3
  subst l3 y3 z3
  obtain ⟨rfl, N3q, eh3⟩ := hQ3
  have N3 := Fr.app N1 N3q
  refine oSt st3 ?_
  show oGl p e below (T3.setTop (mkF m 24 #[.val (.ref sb), .val (.ref x), .val (.int (12 : Int32))] [])) _
  refine saloadN X3 hx (hb hby d11_24) rfl rfl rfl (pc' := 25) ?_
  refine saloadN X3 hx (hb hby d11_25) rfl rfl rfl (pc' := 26) ?_
  obtain ⟨T4, X4, e4, st4⟩ := getF X3 hx hZ hown (host := "") (Or.inl (hw _ (List.mem_of_getElem? (i := 92) rfl))) Via.refl eh3 B2 (g := (mkF m 26 #[.val (.ref sb), .val (.ref x), .val (.int (12 : Int32))] [(.ref sb), (.ref sb)])) rfl rfl (hb hby d11_26)
  refine oOn st4 ?_
  show oGl p e below (T4.setTop (mkF m 29 #[.val (.ref sb), .val (.ref x), .val (.int (12 : Int32))] [(.int (3 : Int32)), (.ref sb)])) _
  refine saloadN X4 hx (hb hby d11_29) rfl rfl rfl (pc' := 30) ?_
  have hz5 : n0 ≤ h0.size := by omega
  obtain ⟨cq5, q5, q5'⟩ := E0.cell
  obtain ⟨_, _, ⟨T5, L5, k5, n5⟩, -, X5, ⟨Lc5, hQ5, l5, y5, z5⟩, st5⟩ := X4.privateBack hx (y := (⟨"java/lang/AbstractStringBuilder", "putStringAt", "(ILjava/lang/String;)V"⟩ : MethodName)) hown (mvT hZ (hw _ (List.mem_of_getElem? (i := 99) rfl))) (mvT hZ (hw _ (List.mem_of_getElem? (i := 100) rfl))) (oPriv2 (mvT hZ (hw _ (List.mem_of_getElem? (i := 102) rfl))) (Cond.privateMethod_at (mvP hZ (hw _ (List.mem_of_getElem? (i := 101) rfl)) (args := #[]))) (mvT hZ (hw _ (List.mem_of_getElem? (i := 100) rfl))) (by decide)) (Cond.privateMethod_at (mvP hZ (hw _ (List.mem_of_getElem? (i := 101) rfl)) (args := #[]))) (mvT hZ (hw _ (List.mem_of_getElem? (i := 103) rfl))) (by decide) (backOf (W := 0) (rmPut3_12 l Z a0 hw [] sb vb x b f g cz h0 n0 hz5 O0 SCS hcz E0 B0 B1 B2 E1 F1 C1 PB PV Ff Fg gs gv nbv) hZ (hw _ (List.mem_of_getElem? (i := 103) rfl)) (hw _ (List.mem_of_getElem? (i := 60) rfl)) (by decide) (by decide)) (g := (mkF m 30 #[.val (.ref sb), .val (.ref x), .val (.int (12 : Int32))] [(.ref x), (.int (3 : Int32)), (.ref sb)])) rfl (by rw [hml]; rfl) (Steps.refl _) (a := sb) (by rw [e4]; exact q5) q5' (argsL := [(.int (3 : Int32)), (.ref x)]) (rest := []) (lenOf pd_5 rfl) rfl (by show 2 * 0 + _ ≤ _; exact Nat.le_of_eq rfl) (hb hby d11_30) (fun _ _ => ⟨rfl, e4, (by decide : 0 + 0 ≤ _), (by decide : 0 + 0 ≤ _)⟩)
  dsimp only [Pt.U, Pt.locs, Pt.cells, Pt.slots] at X5 l5 y5 z5 st5 hQ5
  subst l5 y5 z5
  obtain ⟨rfl, N5q, K5, Vg5⟩ := hQ5
  have N5 := Fr.app N3 N5q
  have z6 : h0.size ≤ T5.heap.size := K5.1
  refine oSt st5 ?_
  show oGl p e below (T5.setTop (mkF m 33 #[.val (.ref sb), .val (.ref x), .val (.int (12 : Int32))] [])) _
  refine saloadN X5 hx (hb hby d11_33) rfl rfl rfl (pc' := 34) ?_
  refine sdup X5 hx (hb hby d11_34) rfl rfl (pc' := 35) ?_
  have f8 := (B2.keep K5 (ninS (oNe (by omega)) nin0))
  obtain ⟨T7, X7, e7, st7⟩ := getF X5 hx hZ hown (host := "") (Or.inl (hw _ (List.mem_of_getElem? (i := 92) rfl))) Via.refl rfl f8 (g := (mkF m 35 #[.val (.ref sb), .val (.ref x), .val (.int (12 : Int32))] [(.ref sb), (.ref sb)])) rfl rfl (hb hby d11_35)
  refine oOn st7 ?_
  show oGl p e below (T7.setTop (mkF m 38 #[.val (.ref sb), .val (.ref x), .val (.int (12 : Int32))] [(.int (3 : Int32)), (.ref sb)])) _
  refine siloadN X7 hx (hb hby d11_38) rfl rfl (pc' := 39) ?_
  refine siadd X7 hx (hb hby d11_39) rfl (by decide) (z := (15 : Int32)) (pc' := 40) ?_
  have f10 := (E0.keep K5)
  obtain ⟨T9, h9, X9, e9, W9, st9⟩ := putF X7 hx hZ hown (host := "") (Or.inl (hw _ (List.mem_of_getElem? (i := 92) rfl))) Via.refl e7 f8 f10 (Or.inl (hw _ (List.mem_of_getElem? (i := 93) rfl))) (hw _ (List.mem_of_getElem? (i := 51) rfl)) (ty := .int) (by decide) rfl rfl (g := (mkF m 40 #[.val (.ref sb), .val (.ref x), .val (.int (12 : Int32))] [(.int (15 : Int32)), (.ref sb)])) rfl rfl (hb hby d11_40)
  refine oOn st9 ?_
  have z11 : T5.heap.size ≤ h9.size := Nat.le_of_eq W9.size.symm
  have N9 := Fr.snoc X9 N5 (by omega)
  have f9 := Fld.same W9 f8
  show oGl p e below (T9.setTop (mkF m 43 #[.val (.ref sb), .val (.ref x), .val (.int (12 : Int32))] [])) _
  refine saloadN X9 hx (hb hby d11_43) rfl rfl rfl (pc' := 44) ?_
  have kp12 : Keep h0 h9 [sb, vb] := (((Keep.refl h0 [sb, vb]).trans K5 (allS (Or.inl (List.mem_of_getElem? (i := 1) rfl)) all0)).wr W9 (Or.inl (List.mem_of_getElem? (i := 0) rfl)))
  have f13 := (f10.wr W9)
  have f14 := ((B0.keep K5 (ninS (oNe (by omega)) nin0)).other W9 (Or.inr (slot_ne (Or.inl (hw _ (List.mem_of_getElem? (i := 65) rfl))) (Or.inl (hw _ (List.mem_of_getElem? (i := 93) rfl))) (by decide) (t := (.array .byte)) (t' := .int) (by decide) (by decide))))
  have f15 := ((B1.keep K5 (ninS (oNe (by omega)) nin0)).other W9 (Or.inr (slot_ne (Or.inl (hw _ (List.mem_of_getElem? (i := 67) rfl))) (Or.inl (hw _ (List.mem_of_getElem? (i := 93) rfl))) (by decide) (t := .byte) (t' := .int) (by decide) (by decide))))
  have f16 := (Vg5.other W9 (oNe (by omega)))
  refine oRetR X9 hx Bd.notSynchronized Bd.returns rfl rfl (hb hby d11_44) (by decide) (by decide) ?_
  show Q_rmAap3_12 Z sb vb x b f g cz h0 n0 _ T9.heap _
  rw [e9]
  exact ⟨rfl, N9, kp12, f13, f14, f15, f9, f16⟩
theorem ef_rmApp3_12 (m : MethodId) (x0 : Nat) (x1 : Nat)  : entryFrame m #[(.ref x0), (.ref x1)] 2 = mkF m 0 #[.val (.ref x0), .val (.ref x1)] [] := by first | (simp [entryFrame, mkF, argsToLocals, Value.category, maxLocals]; done) | rfl
def Q_rmApp3_12 (Z : State) (sb vb x b : Nat) (f g : Nat → Int32) (cz : Int32) (h0 : Heap) (n0 : Nat) (vv : Option Value) (h : Heap) (L : List Loc) : Prop := vv = some (.ref sb) ∧ Fr n0 L ∧ Keep h0 h [sb, vb] ∧ Exa Z h sb "java/lang/StringBuilder" ∧ Fld Z h sb "java/lang/AbstractStringBuilder" "value" "[B" (.ref vb) ∧ Fld Z h sb "java/lang/AbstractStringBuilder" "coder" "B" (.int 0) ∧ Fld Z h sb "java/lang/AbstractStringBuilder" "count" "I" (.int 15) ∧ oAI Z h vb .byte 16 (oCpF 3 12 (fun i => f (0 + i)) g)
set_option maxRecDepth 65536 in
set_option maxHeartbeats 40000000 in
theorem rmApp3_12 (l : Launch) (Z : State) (a0 : Array Value) (hw : ∀ d ∈ tables_1, d.before a0 Z = true) (ws : List Jvm.Cond) (sb vb x b : Nat) (f g : Nat → Int32) (cz : Int32) (h0 : Heap) (n0 : Nat) (Z0 : n0 ≤ h0.size) (O0 : oOld Z n0 h0) (SCS : Sta Z Z.heap "java/lang/String" "COMPACT_STRINGS" "Z" (.int cz)) (hcz : ¬ cz = (0 : Int32)) (E0 : Exa Z h0 sb "java/lang/StringBuilder") (B0 : Fld Z h0 sb "java/lang/AbstractStringBuilder" "value" "[B" (.ref vb)) (B1 : Fld Z h0 sb "java/lang/AbstractStringBuilder" "coder" "B" (.int 0)) (B2 : Fld Z h0 sb "java/lang/AbstractStringBuilder" "count" "I" (.int 3)) (E1 : Exa Z h0 x "java/lang/String") (F1 : Fld Z h0 x "java/lang/String" "value" "[B" (.ref b)) (C1 : Fld Z h0 x "java/lang/String" "coder" "B" (.int 0)) (PB : oAI Z h0 b .byte 12 f) (PV : oAI Z h0 vb .byte 16 g) (Ff : oFit 12 f) (Fg : oFit 16 g) (gs : n0 ≤ sb) (gv : n0 ≤ vb) (nbv : b ≠ vb) :
    MetFree l (⟨"java/lang/StringBuilder", "append", "(Ljava/lang/String;)Ljava/lang/StringBuilder;"⟩ : MethodName) (head1 (Jvm.Cond.code (⟨"java/lang/StringBuilder", "append", "(Ljava/lang/String;)Ljava/lang/StringBuilder;"⟩ : MethodName) jdk_67_method_7_code 2 (some (.object "java/lang/StringBuilder")) :: ws) ({ frames := 4, cells := 0, slots := 0, locals := 61 } : Room)) (fun aA uU => aA = #[(.ref sb), (.ref x)] ∧ Z.Warmed39 uU.vm ∧ uU.heap = h0) (fun _ _ _ _ _ => True) (fun _ uU oO uU' => ∃ vV lL, oO = .returned vV ∧ Q_rmApp3_12 Z sb vb x b f g cz h0 n0 vV uU'.heap lL ∧ FrameEnd uU oO uU' lL ({ frames := 4, cells := 0, slots := 0, locals := 61 } : Room).cells ({ frames := 4, cells := 0, slots := 0, locals := 61 } : Room).slots) := by
  refine MetFree.of_bodySF (plainFor_of_name pn_StringBuilder) hisR ?_
  intro p e s m args below meth c s₁ Bd hml0 hP hK
  obtain ⟨rfl, hZ, hh⟩ := hP
  have hx := Bd.exec
  have hby := Bd.bytes
  have hml : c.maxLocals = 2 := hml0
  have hown : s.vm.findClass "java/lang/StringBuilder" = some m.cls := findClass_of_methodNamed Bd.named
  have hnm := (name_of_methodNamed Bd.named Bd.method).1
  have X0 : Stand p l e ({ frames := 4, cells := 0, slots := 0, locals := 61 } : Room) s m #[(.ref sb), (.ref x)] below meth c s₁ [] 0 0 := Stand.of_body Bd
  have e0 : s₁.heap = h0 := by rw [← hh, Bd.state]; rfl
  have N0 := Fr.nil n0
  have lB : @LT.lt Nat _ b h0.size := PB.lt
  have lV : @LT.lt Nat _ vb h0.size := PV.lt
  have nb9 : @Ne Nat b vb := nbv
  have lS : @LT.lt Nat _ sb h0.size := E0.lt
  have nsv : @Ne Nat sb vb := oNeO E0 (hw _ (List.mem_of_getElem? (i := 51) rfl)) PV
  have nxv : @Ne Nat x vb := oNeO E1 (hw _ (List.mem_of_getElem? (i := 6) rfl)) PV
  have nsb : @Ne Nat sb b := oNeO E0 (hw _ (List.mem_of_getElem? (i := 51) rfl)) PB
  refine oEnter (oCast (ef_rmApp3_12 m sb x ) ?_)
  show oGl p e below (s₁.setTop (mkF m 0 #[.val (.ref sb), .val (.ref x)] [])) _
  refine saloadN X0 hx (hb hby d10_0) rfl rfl rfl (pc' := 1) ?_
  refine saloadN X0 hx (hb hby d10_1) rfl rfl rfl (pc' := 2) ?_
  have hz1 : n0 ≤ h0.size := by omega
  obtain ⟨_, _, ⟨T1, L1, k1, n1⟩, -, X1, ⟨Lc1, hQ1, l1, y1, z1⟩, st1⟩ := superBack X0 hx hZ (y := (⟨"java/lang/AbstractStringBuilder", "append", "(Ljava/lang/String;)Ljava/lang/AbstractStringBuilder;"⟩ : MethodName)) hown (hw _ (List.mem_of_getElem? (i := 74) rfl)) (oSame (hw _ (List.mem_of_getElem? (i := 77) rfl)) (hw _ (List.mem_of_getElem? (i := 97) rfl)) rfl (by decide)) (hw _ (List.mem_of_getElem? (i := 75) rfl)) (hw _ (List.mem_of_getElem? (i := 76) rfl)) (by decide) (backOf (W := 0) (rmAap3_12 l Z a0 hw [] sb vb x b f g cz h0 n0 hz1 O0 SCS hcz E0 B0 B1 B2 E1 F1 C1 PB PV Ff Fg gs gv nbv) hZ (hw _ (List.mem_of_getElem? (i := 78) rfl)) (hw _ (List.mem_of_getElem? (i := 60) rfl)) (by decide) (by decide)) e0 (Ins.self E0) (g := (mkF m 2 #[.val (.ref sb), .val (.ref x)] [(.ref x), (.ref sb)])) rfl (by rw [hml]; rfl) (hw _ (List.mem_of_getElem? (i := 78) rfl)) (argsL := [(.ref x)]) (rest := []) (lenOf pd_6 rfl) rfl (by show 2 * 0 + _ ≤ _; exact Nat.le_of_eq rfl) (hb hby d10_2) (fun _ _ => ⟨rfl, e0, (by decide : 0 + 0 ≤ _), (by decide : 0 + 0 ≤ _)⟩)
  dsimp only [Pt.U, Pt.locs, Pt.cells, Pt.slots] at X1 l1 y1 z1 st1 hQ1
  subst l1 y1 z1
  obtain ⟨rfl, N1q, K1, Eg1, Ba1, Bb1, Bc1, Vg1⟩ := hQ1
  have N1 := Fr.app N0 N1q
  have z2 : h0.size ≤ T1.heap.size := K1.1
  refine oSt st1 ?_
  show oGl p e below (T1.setTop (mkF m 5 #[.val (.ref sb), .val (.ref x)] [(.ref sb)])) _
  refine spop X1 hx (hb hby d10_5) rfl rfl (pc' := 6) ?_
  refine saloadN X1 hx (hb hby d10_6) rfl rfl rfl (pc' := 7) ?_
  have kp3 : Keep h0 T1.heap [sb, vb] := ((Keep.refl h0 [sb, vb]).trans K1 (allS (Or.inl (List.mem_of_getElem? (i := 0) rfl)) (allS (Or.inl (List.mem_of_getElem? (i := 1) rfl)) all0)))
  refine oRetR X1 hx Bd.notSynchronized Bd.returns rfl rfl (hb hby d10_7) (by decide) (by decide) ?_
  show Q_rmApp3_12 Z sb vb x b f g cz h0 n0 _ T1.heap _
  exact ⟨rfl, N1, kp3, Eg1, Ba1, Bb1, Bc1, Vg1⟩
theorem ef_rmLen3_11 (m : MethodId) (x0 : Nat)  : entryFrame m #[(.ref x0)] 1 = mkF m 0 #[.val (.ref x0)] [] := by first | (simp [entryFrame, mkF, argsToLocals, Value.category, maxLocals]; done) | rfl
def Q_rmLen3_11 (Z : State) (x b : Nat) (f : Nat → Int32) (cz : Int32) (h0 : Heap) (n0 : Nat) (vv : Option Value) (h : Heap) (L : List Loc) : Prop := vv = some (.int 11) ∧ Fr n0 L ∧ h = h0
set_option maxRecDepth 65536 in
set_option maxHeartbeats 40000000 in
theorem rmLen3_11 (l : Launch) (Z : State) (a0 : Array Value) (hw : ∀ d ∈ tables_1, d.before a0 Z = true) (ws : List Jvm.Cond) (x b : Nat) (f : Nat → Int32) (cz : Int32) (h0 : Heap) (n0 : Nat) (Z0 : n0 ≤ h0.size) (O0 : oOld Z n0 h0) (SCS : Sta Z Z.heap "java/lang/String" "COMPACT_STRINGS" "Z" (.int cz)) (hcz : ¬ cz = (0 : Int32)) (E1 : Exa Z h0 x "java/lang/String") (F1 : Fld Z h0 x "java/lang/String" "value" "[B" (.ref b)) (C1 : Fld Z h0 x "java/lang/String" "coder" "B" (.int 0)) (PB : oAI Z h0 b .byte 11 f) :
    MetFree l (⟨"java/lang/String", "length", "()I"⟩ : MethodName) (head1 (Jvm.Cond.code (⟨"java/lang/String", "length", "()I"⟩ : MethodName) jdk_42_method_54_code 1 (some .int) :: ws) ({ frames := 1, cells := 0, slots := 0, locals := 13 } : Room)) (fun aA uU => aA = #[(.ref x)] ∧ Z.Warmed39 uU.vm ∧ uU.heap = h0) (fun _ _ _ _ _ => True) (fun _ uU oO uU' => ∃ vV lL, oO = .returned vV ∧ Q_rmLen3_11 Z x b f cz h0 n0 vV uU'.heap lL ∧ FrameEnd uU oO uU' lL ({ frames := 1, cells := 0, slots := 0, locals := 13 } : Room).cells ({ frames := 1, cells := 0, slots := 0, locals := 13 } : Room).slots) := by
  refine MetFree.of_bodySF (plainFor_of_name pn_String) hisR ?_
  intro p e s m args below meth c s₁ Bd hml0 hP hK
  obtain ⟨rfl, hZ, hh⟩ := hP
  have hx := Bd.exec
  have hby := Bd.bytes
  have hml : c.maxLocals = 1 := hml0
  have hown : s.vm.findClass "java/lang/String" = some m.cls := findClass_of_methodNamed Bd.named
  have hnm := (name_of_methodNamed Bd.named Bd.method).1
  have X0 : Stand p l e ({ frames := 1, cells := 0, slots := 0, locals := 13 } : Room) s m #[(.ref x)] below meth c s₁ [] 0 0 := Stand.of_body Bd
  have e0 : s₁.heap = h0 := by rw [← hh, Bd.state]; rfl
  have N0 := Fr.nil n0
  refine oEnter (oCast (ef_rmLen3_11 m x ) ?_)
  show oGl p e below (s₁.setTop (mkF m 0 #[.val (.ref x)] [])) _
  refine saloadN X0 hx (hb hby d12_0) rfl rfl rfl (pc' := 1) ?_
  obtain ⟨T1, X1, e1, st1⟩ := getF X0 hx hZ hown (host := "") (Or.inl (hw _ (List.mem_of_getElem? (i := 84) rfl))) Via.refl e0 F1 (g := (mkF m 1 #[.val (.ref x)] [(.ref x)])) rfl rfl (hb hby d12_1)
  refine oOn st1 ?_
  show oGl p e below (T1.setTop (mkF m 4 #[.val (.ref x)] [(.ref b)])) _
  refine oOn (PB.len X1 hx hZ e1 (g := (mkF m 4 #[.val (.ref x)] [(.ref b)])) rfl rfl (hb hby d12_4)) ?_
  show oGl p e below (T1.setTop (mkF m 5 #[.val (.ref x)] [(.int (11 : Int32))])) _
  refine saloadN X1 hx (hb hby d12_5) rfl rfl rfl (pc' := 6) ?_
  have hz2 : n0 ≤ h0.size := by omega
  obtain ⟨cq2, kq2, q2a, q2b, q2c⟩ := isOf hZ e1 E1
  obtain ⟨_, _, ⟨T2, L2, k2, n2⟩, -, X2, ⟨Lc2, hQ2, l2, y2, z2⟩, st2⟩ := X1.virtualBack hx (y := (⟨"java/lang/String", "coder", "()B"⟩ : MethodName)) (z := (⟨"java/lang/String", "coder", "()B"⟩ : MethodName)) hown (mvT hZ (hw _ (List.mem_of_getElem? (i := 85) rfl))) (mvT hZ (hw _ (List.mem_of_getElem? (i := 86) rfl))) (notFace_of_selects (args := #[]) (mvT hZ (hw _ (List.mem_of_getElem? (i := 88) rfl)))) (mvT hZ (hw _ (List.mem_of_getElem? (i := 88) rfl))) (mvT hZ (hw _ (List.mem_of_getElem? (i := 87) rfl))) (by decide) (backOf (W := 1) (rmCdr l Z a0 hw [] x cz h0 n0 hz2 O0 SCS hcz C1) hZ (hw _ (List.mem_of_getElem? (i := 89) rfl)) (hw _ (List.mem_of_getElem? (i := 5) rfl)) (by decide) (by decide)) q2a q2c (g := (mkF m 6 #[.val (.ref x)] [(.ref x), (.int (11 : Int32))])) rfl (by rw [hml]; rfl) (Steps.refl _) (argsL := []) (rest := [(.int (11 : Int32))]) (lenOf pd_1 rfl) rfl (by show 2 * 0 + _ ≤ _; exact Nat.le_of_eq rfl) (hb hby d12_6) (fun _ _ => ⟨rfl, e1, (by decide : 0 + 0 ≤ _), (by decide : 0 + 0 ≤ _)⟩)
  dsimp only [Pt.U, Pt.locs, Pt.cells, Pt.slots] at X2 l2 y2 z2 st2 hQ2
  subst l2 y2 z2
  obtain ⟨rfl, N2q, eh2⟩ := hQ2
  have N2 := Fr.app N0 N2q
  refine oSt st2 ?_
  show oGl p e below (T2.setTop (mkF m 9 #[.val (.ref x)] [(.int (0 : Int32)), (.int (11 : Int32))])) _
  refine sishr X2 hx (hb hby d12_9) rfl (by decide) (z := (11 : Int32)) (pc' := 10) ?_
  refine oRetI X2 hx Bd.notSynchronized Bd.returns (hb hby d12_10) (by decide) (by decide) ?_
  show Q_rmLen3_11 Z x b f cz h0 n0 _ T2.heap _
  rw [eh2]
  exact ⟨rfl, N2, rfl⟩
theorem ef_rmEns3_11 (m : MethodId) (x0 : Nat) (x1 : Int32)  : entryFrame m #[(.ref x0), (.int x1)] 3 = mkF m 0 #[.val (.ref x0), .val (.int x1), .unset] [] := by first | (simp [entryFrame, mkF, argsToLocals, Value.category, maxLocals]; done) | rfl
def Q_rmEns3_11 (Z : State) (sb vb : Nat) (g : Nat → Int32) (h0 : Heap) (n0 : Nat) (vv : Option Value) (h : Heap) (L : List Loc) : Prop := vv = none ∧ Fr n0 L ∧ h = h0
set_option maxRecDepth 65536 in
set_option maxHeartbeats 40000000 in
theorem rmEns3_11 (l : Launch) (Z : State) (a0 : Array Value) (hw : ∀ d ∈ tables_1, d.before a0 Z = true) (ws : List Jvm.Cond) (sb vb : Nat) (g : Nat → Int32) (h0 : Heap) (n0 : Nat) (Z0 : n0 ≤ h0.size) (E0 : Exa Z h0 sb "java/lang/StringBuilder") (B0 : Fld Z h0 sb "java/lang/AbstractStringBuilder" "value" "[B" (.ref vb)) (B1 : Fld Z h0 sb "java/lang/AbstractStringBuilder" "coder" "B" (.int 0)) (B2 : Fld Z h0 sb "java/lang/AbstractStringBuilder" "count" "I" (.int 3)) (PV : oAI Z h0 vb .byte 16 g) :
    MetFree l (⟨"java/lang/AbstractStringBuilder", "ensureCapacityInternal", "(I)V"⟩ : MethodName) (head1 (Jvm.Cond.code (⟨"java/lang/AbstractStringBuilder", "ensureCapacityInternal", "(I)V"⟩ : MethodName) jdk_68_method_9_code 3 (none : Option FieldType) :: ws) ({ frames := 0, cells := 0, slots := 0, locals := 0 } : Room)) (fun aA uU => aA = #[(.ref sb), (.int (14 : Int32))] ∧ Z.Warmed39 uU.vm ∧ uU.heap = h0) (fun _ _ _ _ _ => True) (fun _ uU oO uU' => ∃ vV lL, oO = .returned vV ∧ Q_rmEns3_11 Z sb vb g h0 n0 vV uU'.heap lL ∧ FrameEnd uU oO uU' lL ({ frames := 0, cells := 0, slots := 0, locals := 0 } : Room).cells ({ frames := 0, cells := 0, slots := 0, locals := 0 } : Room).slots) := by
  refine MetFree.of_bodySF (plainFor_of_name pn_AbstractStringBuilder) hisR ?_
  intro p e s m args below meth c s₁ Bd hml0 hP hK
  obtain ⟨rfl, hZ, hh⟩ := hP
  have hx := Bd.exec
  have hby := Bd.bytes
  have hml : c.maxLocals = 3 := hml0
  have hown : s.vm.findClass "java/lang/AbstractStringBuilder" = some m.cls := findClass_of_methodNamed Bd.named
  have hnm := (name_of_methodNamed Bd.named Bd.method).1
  have X0 : Stand p l e ({ frames := 0, cells := 0, slots := 0, locals := 0 } : Room) s m #[(.ref sb), (.int (14 : Int32))] below meth c s₁ [] 0 0 := Stand.of_body Bd
  have e0 : s₁.heap = h0 := by rw [← hh, Bd.state]; rfl
  have N0 := Fr.nil n0
  refine oEnter (oCast (ef_rmEns3_11 m sb (14 : Int32) ) ?_)
  show oGl p e below (s₁.setTop (mkF m 0 #[.val (.ref sb), .val (.int (14 : Int32)), .unset] [])) _
  refine saloadN X0 hx (hb hby d14_0) rfl rfl rfl (pc' := 1) ?_
  obtain ⟨T1, X1, e1, st1⟩ := getF X0 hx hZ hown (host := "") (Or.inl (hw _ (List.mem_of_getElem? (i := 64) rfl))) Via.refl e0 B0 (g := (mkF m 1 #[.val (.ref sb), .val (.int (14 : Int32)), .unset] [(.ref sb)])) rfl rfl (hb hby d14_1)
  refine oOn st1 ?_
  show oGl p e below (T1.setTop (mkF m 4 #[.val (.ref sb), .val (.int (14 : Int32)), .unset] [(.ref vb)])) _
  refine oOn (PV.len X1 hx hZ e1 (g := (mkF m 4 #[.val (.ref sb), .val (.int (14 : Int32)), .unset] [(.ref vb)])) rfl rfl (hb hby d14_4)) ?_
  show oGl p e below (T1.setTop (mkF m 5 #[.val (.ref sb), .val (.int (14 : Int32)), .unset] [(.int (16 : Int32))])) _
  refine saloadN X1 hx (hb hby d14_5) rfl rfl rfl (pc' := 6) ?_
  obtain ⟨T2, X2, e2, st2⟩ := getF X1 hx hZ hown (host := "") (Or.inl (hw _ (List.mem_of_getElem? (i := 66) rfl))) Via.refl e1 B1 (g := (mkF m 6 #[.val (.ref sb), .val (.int (14 : Int32)), .unset] [(.ref sb), (.int (16 : Int32))])) rfl rfl (hb hby d14_6)
  refine oOn st2 ?_
  show oGl p e below (T2.setTop (mkF m 9 #[.val (.ref sb), .val (.int (14 : Int32)), .unset] [(.int (0 : Int32)), (.int (16 : Int32))])) _
  refine sishr X2 hx (hb hby d14_9) rfl (by decide) (z := (16 : Int32)) (pc' := 10) ?_
  refine sistoreN X2 hx (hb hby d14_10) rfl rfl (l' := #[.val (.ref sb), .val (.int (14 : Int32)), .val (.int (16 : Int32))]) (pc' := 11) ?_
  refine siloadN X2 hx (hb hby d14_11) rfl rfl (pc' := 12) ?_
  refine siloadN X2 hx (hb hby d14_12) rfl rfl (pc' := 13) ?_
  refine sisub X2 hx (hb hby d14_13) rfl (by decide) (z := (-2 : Int32)) (pc' := 14) ?_
  refine sifY X2 hx (hb hby d14_14) (by decide) (by decide) (flt (by decide : ¬ ((0 : Int32) < (-2 : Int32)))).2.2.2 (pc' := 38) ?_
  refine oRet0 X2 hx Bd.notSynchronized Bd.returns (hb hby d14_38) (by decide) (by decide) ?_
  show Q_rmEns3_11 Z sb vb g h0 n0 _ T2.heap _
  rw [e2]
  exact ⟨rfl, N0, rfl⟩
theorem ef_rmInf3_11 (m : MethodId) (x0 : Nat) (x1 : Nat)  : entryFrame m #[(.ref x0), (.ref x1)] 2 = mkF m 0 #[.val (.ref x0), .val (.ref x1)] [] := by first | (simp [entryFrame, mkF, argsToLocals, Value.category, maxLocals]; done) | rfl
def Q_rmInf3_11 (Z : State) (sb vb x : Nat) (cz : Int32) (h0 : Heap) (n0 : Nat) (vv : Option Value) (h : Heap) (L : List Loc) : Prop := vv = none ∧ Fr n0 L ∧ h = h0
set_option maxRecDepth 65536 in
set_option maxHeartbeats 40000000 in
theorem rmInf3_11 (l : Launch) (Z : State) (a0 : Array Value) (hw : ∀ d ∈ tables_1, d.before a0 Z = true) (ws : List Jvm.Cond) (sb vb x : Nat) (cz : Int32) (h0 : Heap) (n0 : Nat) (Z0 : n0 ≤ h0.size) (O0 : oOld Z n0 h0) (SCS : Sta Z Z.heap "java/lang/String" "COMPACT_STRINGS" "Z" (.int cz)) (hcz : ¬ cz = (0 : Int32)) (E0 : Exa Z h0 sb "java/lang/StringBuilder") (B0 : Fld Z h0 sb "java/lang/AbstractStringBuilder" "value" "[B" (.ref vb)) (B1 : Fld Z h0 sb "java/lang/AbstractStringBuilder" "coder" "B" (.int 0)) (B2 : Fld Z h0 sb "java/lang/AbstractStringBuilder" "count" "I" (.int 3)) (E1 : Exa Z h0 x "java/lang/String") (C1 : Fld Z h0 x "java/lang/String" "coder" "B" (.int 0)) :
    MetFree l (⟨"java/lang/AbstractStringBuilder", "inflateIfNeededFor", "(Ljava/lang/String;)V"⟩ : MethodName) (head1 (Jvm.Cond.code (⟨"java/lang/AbstractStringBuilder", "inflateIfNeededFor", "(Ljava/lang/String;)V"⟩ : MethodName) jdk_68_method_71_code 2 (none : Option FieldType) :: ws) ({ frames := 1, cells := 0, slots := 0, locals := 13 } : Room)) (fun aA uU => aA = #[(.ref sb), (.ref x)] ∧ Z.Warmed39 uU.vm ∧ uU.heap = h0) (fun _ _ _ _ _ => True) (fun _ uU oO uU' => ∃ vV lL, oO = .returned vV ∧ Q_rmInf3_11 Z sb vb x cz h0 n0 vV uU'.heap lL ∧ FrameEnd uU oO uU' lL ({ frames := 1, cells := 0, slots := 0, locals := 13 } : Room).cells ({ frames := 1, cells := 0, slots := 0, locals := 13 } : Room).slots) := by
  refine MetFree.of_bodySF (plainFor_of_name pn_AbstractStringBuilder) hisR ?_
  intro p e s m args below meth c s₁ Bd hml0 hP hK
  obtain ⟨rfl, hZ, hh⟩ := hP
  have hx := Bd.exec
  have hby := Bd.bytes
  have hml : c.maxLocals = 2 := hml0
  have hown : s.vm.findClass "java/lang/AbstractStringBuilder" = some m.cls := findClass_of_methodNamed Bd.named
  have hnm := (name_of_methodNamed Bd.named Bd.method).1
  have X0 : Stand p l e ({ frames := 1, cells := 0, slots := 0, locals := 13 } : Room) s m #[(.ref sb), (.ref x)] below meth c s₁ [] 0 0 := Stand.of_body Bd
  have e0 : s₁.heap = h0 := by rw [← hh, Bd.state]; rfl
  have N0 := Fr.nil n0
  refine oEnter (oCast (ef_rmInf3_11 m sb x ) ?_)
  show oGl p e below (s₁.setTop (mkF m 0 #[.val (.ref sb), .val (.ref x)] [])) _
  obtain ⟨T1, X1, e1, st1⟩ := getS2 X0 hx hZ hown (host := "") (Or.inl (hw _ (List.mem_of_getElem? (i := 63) rfl))) Via.refl e0 (SCS.ext O0.2) (g := (mkF m 0 #[.val (.ref sb), .val (.ref x)] [])) rfl (hb hby d16_0)
  refine oOn st1 ?_
  show oGl p e below (T1.setTop (mkF m 3 #[.val (.ref sb), .val (.ref x)] [(.int cz)])) _
  refine sifN X1 hx (hb hby d16_3) rfl (feq (hcz : ¬ (cz = (0 : Int32)))).1 (pc' := 6) ?_
  refine saloadN X1 hx (hb hby d16_6) rfl rfl rfl (pc' := 7) ?_
  obtain ⟨T2, X2, e2, st2⟩ := getF X1 hx hZ hown (host := "") (Or.inl (hw _ (List.mem_of_getElem? (i := 66) rfl))) Via.refl e1 B1 (g := (mkF m 7 #[.val (.ref sb), .val (.ref x)] [(.ref sb)])) rfl rfl (hb hby d16_7)
  refine oOn st2 ?_
  show oGl p e below (T2.setTop (mkF m 10 #[.val (.ref sb), .val (.ref x)] [(.int (0 : Int32))])) _
  refine saloadN X2 hx (hb hby d16_10) rfl rfl rfl (pc' := 11) ?_
  have hz3 : n0 ≤ h0.size := by omega
  obtain ⟨cq3, kq3, q3a, q3b, q3c⟩ := isOf hZ e2 E1
  obtain ⟨_, _, ⟨T3, L3, k3, n3⟩, -, X3, ⟨Lc3, hQ3, l3, y3, z3⟩, st3⟩ := X2.virtualBack hx (y := (⟨"java/lang/String", "coder", "()B"⟩ : MethodName)) (z := (⟨"java/lang/String", "coder", "()B"⟩ : MethodName)) hown (mvT hZ (hw _ (List.mem_of_getElem? (i := 109) rfl))) (mvT hZ (hw _ (List.mem_of_getElem? (i := 86) rfl))) (notFace_of_selects (args := #[]) (mvT hZ (hw _ (List.mem_of_getElem? (i := 88) rfl)))) (mvT hZ (hw _ (List.mem_of_getElem? (i := 88) rfl))) (mvT hZ (hw _ (List.mem_of_getElem? (i := 87) rfl))) (by decide) (backOf (W := 1) (rmCdr l Z a0 hw [] x cz h0 n0 hz3 O0 SCS hcz C1) hZ (hw _ (List.mem_of_getElem? (i := 89) rfl)) (hw _ (List.mem_of_getElem? (i := 5) rfl)) (by decide) (by decide)) q3a q3c (g := (mkF m 11 #[.val (.ref sb), .val (.ref x)] [(.ref x), (.int (0 : Int32))])) rfl (by rw [hml]; rfl) (Steps.refl _) (argsL := []) (rest := [(.int (0 : Int32))]) (lenOf pd_1 rfl) rfl (by show 2 * 0 + _ ≤ _; exact Nat.le_of_eq rfl) (hb hby d16_11) (fun _ _ => ⟨rfl, e2, (by decide : 0 + 0 ≤ _), (by decide : 0 + 0 ≤ _)⟩)
  dsimp only [Pt.U, Pt.locs, Pt.cells, Pt.slots] at X3 l3 y3 z3 st3 hQ3
  subst l3 y3 z3
  obtain ⟨rfl, N3q, eh3⟩ := hQ3
  have N3 := Fr.app N0 N3q
  refine oSt st3 ?_
  show oGl p e below (T3.setTop (mkF m 14 #[.val (.ref sb), .val (.ref x)] [(.int (0 : Int32)), (.int (0 : Int32))])) _
  refine sicY X3 hx (hb hby d16_14) (by decide) (by decide) (teq (by decide : (0 : Int32) = (0 : Int32))).1 (pc' := 21) ?_
  refine oRet0 X3 hx Bd.notSynchronized Bd.returns (hb hby d16_21) (by decide) (by decide) ?_
  show Q_rmInf3_11 Z sb vb x cz h0 n0 _ T3.heap _
  rw [eh3]
  exact ⟨rfl, N3, rfl⟩
theorem ef_rmGby3_11 (m : MethodId) (x0 : Nat) (x1 : Nat) (x2 : Int32) (x3 : Int32)  : entryFrame m #[(.ref x0), (.ref x1), (.int x2), (.int x3)] 4 = mkF m 0 #[.val (.ref x0), .val (.ref x1), .val (.int x2), .val (.int x3)] [] := by first | (simp [entryFrame, mkF, argsToLocals, Value.category, maxLocals]; done) | rfl
def Q_rmGby3_11 (Z : State) (vb x b : Nat) (f g : Nat → Int32) (cz : Int32) (h0 : Heap) (n0 : Nat) (vv : Option Value) (h : Heap) (L : List Loc) : Prop := vv = none ∧ Fr n0 L ∧ Keep h0 h [vb] ∧ oAI Z h vb .byte 16 (oCpF 3 11 (fun i => f (0 + i)) g)
set_option maxRecDepth 65536 in
set_option maxHeartbeats 40000000 in
theorem rmGby3_11 (l : Launch) (Z : State) (a0 : Array Value) (hw : ∀ d ∈ tables_1, d.before a0 Z = true) (ws : List Jvm.Cond) (vb x b : Nat) (f g : Nat → Int32) (cz : Int32) (h0 : Heap) (n0 : Nat) (Z0 : n0 ≤ h0.size) (O0 : oOld Z n0 h0) (SCS : Sta Z Z.heap "java/lang/String" "COMPACT_STRINGS" "Z" (.int cz)) (hcz : ¬ cz = (0 : Int32)) (E1 : Exa Z h0 x "java/lang/String") (F1 : Fld Z h0 x "java/lang/String" "value" "[B" (.ref b)) (C1 : Fld Z h0 x "java/lang/String" "coder" "B" (.int 0)) (PB : oAI Z h0 b .byte 11 f) (PV : oAI Z h0 vb .byte 16 g) (Ff : oFit 11 f) (Fg : oFit 16 g) (gv : n0 ≤ vb) (nbv : b ≠ vb) :
    MetFree l (⟨"java/lang/String", "getBytes", "([BIB)V"⟩ : MethodName) (head1 (Jvm.Cond.code (⟨"java/lang/String", "getBytes", "([BIB)V"⟩ : MethodName) jdk_42_method_147_code 4 (none : Option FieldType) :: ws) ({ frames := 1, cells := 0, slots := 0, locals := 18 } : Room)) (fun aA uU => aA = #[(.ref x), (.ref vb), (.int (3 : Int32)), (.int (0 : Int32))] ∧ Z.Warmed39 uU.vm ∧ uU.heap = h0) (fun _ _ _ _ _ => True) (fun _ uU oO uU' => ∃ vV lL, oO = .returned vV ∧ Q_rmGby3_11 Z vb x b f g cz h0 n0 vV uU'.heap lL ∧ FrameEnd uU oO uU' lL ({ frames := 1, cells := 0, slots := 0, locals := 18 } : Room).cells ({ frames := 1, cells := 0, slots := 0, locals := 18 } : Room).slots) := by
  refine MetFree.of_bodySF (plainFor_of_name pn_String) hisR ?_
  intro p e s m args below meth c s₁ Bd hml0 hP hK
  obtain ⟨rfl, hZ, hh⟩ := hP
  have hx := Bd.exec
  have hby := Bd.bytes
  have hml : c.maxLocals = 4 := hml0
  have hown : s.vm.findClass "java/lang/String" = some m.cls := findClass_of_methodNamed Bd.named
  have hnm := (name_of_methodNamed Bd.named Bd.method).1
  have X0 : Stand p l e ({ frames := 1, cells := 0, slots := 0, locals := 18 } : Room) s m #[(.ref x), (.ref vb), (.int (3 : Int32)), (.int (0 : Int32))] below meth c s₁ [] 0 0 := Stand.of_body Bd
  have e0 : s₁.heap = h0 := by rw [← hh, Bd.state]; rfl
  have N0 := Fr.nil n0
  have lB : @LT.lt Nat _ b h0.size := PB.lt
  have lV : @LT.lt Nat _ vb h0.size := PV.lt
  have nb9 : @Ne Nat b vb := nbv
  refine oEnter (oCast (ef_rmGby3_11 m x vb (3 : Int32) (0 : Int32) ) ?_)
  show oGl p e below (s₁.setTop (mkF m 0 #[.val (.ref x), .val (.ref vb), .val (.int (3 : Int32)), .val (.int (0 : Int32))] [])) _
  refine saloadN X0 hx (hb hby d17_0) rfl rfl rfl (pc' := 1) ?_
  have hz1 : n0 ≤ h0.size := by omega
  obtain ⟨cq1, kq1, q1a, q1b, q1c⟩ := isOf hZ e0 E1
  obtain ⟨_, _, ⟨T1, L1, k1, n1⟩, -, X1, ⟨Lc1, hQ1, l1, y1, z1⟩, st1⟩ := X0.virtualBack hx (y := (⟨"java/lang/String", "coder", "()B"⟩ : MethodName)) (z := (⟨"java/lang/String", "coder", "()B"⟩ : MethodName)) hown (mvT hZ (hw _ (List.mem_of_getElem? (i := 85) rfl))) (mvT hZ (hw _ (List.mem_of_getElem? (i := 86) rfl))) (notFace_of_selects (args := #[]) (mvT hZ (hw _ (List.mem_of_getElem? (i := 88) rfl)))) (mvT hZ (hw _ (List.mem_of_getElem? (i := 88) rfl))) (mvT hZ (hw _ (List.mem_of_getElem? (i := 87) rfl))) (by decide) (backOf (W := 0) (rmCdr l Z a0 hw [] x cz h0 n0 hz1 O0 SCS hcz C1) hZ (hw _ (List.mem_of_getElem? (i := 89) rfl)) (hw _ (List.mem_of_getElem? (i := 5) rfl)) (by decide) (by decide)) q1a q1c (g := (mkF m 1 #[.val (.ref x), .val (.ref vb), .val (.int (3 : Int32)), .val (.int (0 : Int32))] [(.ref x)])) rfl (by rw [hml]; rfl) (Steps.refl _) (argsL := []) (rest := []) (lenOf pd_1 rfl) rfl (by show 2 * 0 + _ ≤ _; exact Nat.le_of_eq rfl) (hb hby d17_1) (fun _ _ => ⟨rfl, e0, (by decide : 0 + 0 ≤ _), (by decide : 0 + 0 ≤ _)⟩)
  dsimp only [Pt.U, Pt.locs, Pt.cells, Pt.slots] at X1 l1 y1 z1 st1 hQ1
  subst l1 y1 z1
  obtain ⟨rfl, N1q, eh1⟩ := hQ1
  have N1 := Fr.app N0 N1q
  refine oSt st1 ?_
  show oGl p e below (T1.setTop (mkF m 4 #[.val (.ref x), .val (.ref vb), .val (.int (3 : Int32)), .val (.int (0 : Int32))] [(.int (0 : Int32))])) _
  refine siloadN X1 hx (hb hby d17_4) rfl rfl (pc' := 5) ?_
  refine sicN X1 hx (hb hby d17_5) rfl (teq (by decide : (0 : Int32) = (0 : Int32))).2 (pc' := 8) ?_
  refine saloadN X1 hx (hb hby d17_8) rfl rfl rfl (pc' := 9) ?_
  obtain ⟨T2, X2, e2, st2⟩ := getF X1 hx hZ hown (host := "") (Or.inl (hw _ (List.mem_of_getElem? (i := 84) rfl))) Via.refl eh1 F1 (g := (mkF m 9 #[.val (.ref x), .val (.ref vb), .val (.int (3 : Int32)), .val (.int (0 : Int32))] [(.ref x)])) rfl rfl (hb hby d17_9)
  refine oOn st2 ?_
  show oGl p e below (T2.setTop (mkF m 12 #[.val (.ref x), .val (.ref vb), .val (.int (3 : Int32)), .val (.int (0 : Int32))] [(.ref b)])) _
  refine siconst X2 hx (hb hby d17_12) rfl rfl (z := 0) (pc' := 13) ?_
  refine saloadN X2 hx (hb hby d17_13) rfl rfl rfl (pc' := 14) ?_
  refine siloadN X2 hx (hb hby d17_14) rfl rfl (pc' := 15) ?_
  refine siloadN X2 hx (hb hby d17_15) rfl rfl (pc' := 16) ?_
  refine sishl X2 hx (hb hby d17_16) rfl (by decide) (z := (3 : Int32)) (pc' := 17) ?_
  refine saloadN X2 hx (hb hby d17_17) rfl rfl rfl (pc' := 18) ?_
  obtain ⟨T3, X3, e3, st3⟩ := getF X2 hx hZ hown (host := "") (Or.inl (hw _ (List.mem_of_getElem? (i := 84) rfl))) Via.refl e2 F1 (g := (mkF m 18 #[.val (.ref x), .val (.ref vb), .val (.int (3 : Int32)), .val (.int (0 : Int32))] [(.ref x), (.int (3 : Int32)), (.ref vb), (.int (0 : Int32)), (.ref b)])) rfl rfl (hb hby d17_18)
  refine oOn st3 ?_
  show oGl p e below (T3.setTop (mkF m 21 #[.val (.ref x), .val (.ref vb), .val (.int (3 : Int32)), .val (.int (0 : Int32))] [(.ref b), (.int (3 : Int32)), (.ref vb), (.int (0 : Int32)), (.ref b)])) _
  refine oOn (PB.len X3 hx hZ e3 (g := (mkF m 21 #[.val (.ref x), .val (.ref vb), .val (.int (3 : Int32)), .val (.int (0 : Int32))] [(.ref b), (.int (3 : Int32)), (.ref vb), (.int (0 : Int32)), (.ref b)])) rfl rfl (hb hby d17_21)) ?_
  show oGl p e below (T3.setTop (mkF m 22 #[.val (.ref x), .val (.ref vb), .val (.int (3 : Int32)), .val (.int (0 : Int32))] [(.int (11 : Int32)), (.int (3 : Int32)), (.ref vb), (.int (0 : Int32)), (.ref b)])) _
  obtain ⟨T4, h4, L4, X4, e4, N4, K4, V4, st4⟩ := oCp X3 hx hZ hown (hw _ (List.mem_of_getElem? (i := 115) rfl)) (hw _ (List.mem_of_getElem? (i := 118) rfl)) (hw _ (List.mem_of_getElem? (i := 116) rfl)) (hw _ (List.mem_of_getElem? (i := 117) rfl)) e3 PB PV Ff Fg (by decide) (by decide) (by decide) (by decide) (by decide) N1 (by omega) (gf := (mkF m 22 #[.val (.ref x), .val (.ref vb), .val (.int (3 : Int32)), .val (.int (0 : Int32))] [(.int (11 : Int32)), (.int (3 : Int32)), (.ref vb), (.int (0 : Int32)), (.ref b)])) rfl (by rw [hml]; rfl) (rest := []) rfl (hb hby d17_22) (by decide) (W := 0) (by show 2 * 0 + _ ≤ _; exact Nat.le_of_eq rfl) (by decide)
  refine oOn st4 ?_
  have z5 : h0.size ≤ h4.size := K4.1
  have Vc4 : oAI Z h4 vb .byte 16 (oCpF 3 11 (fun i => f (0 + i)) g) := V4
  show oGl p e below (T4.setTop (mkF m 25 #[.val (.ref x), .val (.ref vb), .val (.int (3 : Int32)), .val (.int (0 : Int32))] [])) _
  refine sgoto X4 hx (hb hby d17_25) (by decide) (by decide)  (pc' := 43) ?_
  have kp6 : Keep h0 h4 [vb] := ((Keep.refl h0 [vb]).trans K4 (allS (Or.inl (List.mem_of_getElem? (i := 0) rfl)) all0))
  refine oRet0 X4 hx Bd.notSynchronized Bd.returns (hb hby d17_43) (by decide) (by decide) ?_
  show Q_rmGby3_11 Z vb x b f g cz h0 n0 _ T4.heap _
  rw [e4]
  exact ⟨rfl, N4, kp6, Vc4⟩
theorem ef_rmPut3_11 (m : MethodId) (x0 : Nat) (x1 : Int32) (x2 : Nat)  : entryFrame m #[(.ref x0), (.int x1), (.ref x2)] 3 = mkF m 0 #[.val (.ref x0), .val (.int x1), .val (.ref x2)] [] := by first | (simp [entryFrame, mkF, argsToLocals, Value.category, maxLocals]; done) | rfl
def Q_rmPut3_11 (Z : State) (sb vb x b : Nat) (f g : Nat → Int32) (cz : Int32) (h0 : Heap) (n0 : Nat) (vv : Option Value) (h : Heap) (L : List Loc) : Prop := vv = none ∧ Fr n0 L ∧ Keep h0 h [vb] ∧ oAI Z h vb .byte 16 (oCpF 3 11 (fun i => f (0 + i)) g)
set_option maxRecDepth 65536 in
set_option maxHeartbeats 40000000 in
theorem rmPut3_11 (l : Launch) (Z : State) (a0 : Array Value) (hw : ∀ d ∈ tables_1, d.before a0 Z = true) (ws : List Jvm.Cond) (sb vb x b : Nat) (f g : Nat → Int32) (cz : Int32) (h0 : Heap) (n0 : Nat) (Z0 : n0 ≤ h0.size) (O0 : oOld Z n0 h0) (SCS : Sta Z Z.heap "java/lang/String" "COMPACT_STRINGS" "Z" (.int cz)) (hcz : ¬ cz = (0 : Int32)) (E0 : Exa Z h0 sb "java/lang/StringBuilder") (B0 : Fld Z h0 sb "java/lang/AbstractStringBuilder" "value" "[B" (.ref vb)) (B1 : Fld Z h0 sb "java/lang/AbstractStringBuilder" "coder" "B" (.int 0)) (B2 : Fld Z h0 sb "java/lang/AbstractStringBuilder" "count" "I" (.int 3)) (E1 : Exa Z h0 x "java/lang/String") (F1 : Fld Z h0 x "java/lang/String" "value" "[B" (.ref b)) (C1 : Fld Z h0 x "java/lang/String" "coder" "B" (.int 0)) (PB : oAI Z h0 b .byte 11 f) (PV : oAI Z h0 vb .byte 16 g) (Ff : oFit 11 f) (Fg : oFit 16 g) (gs : n0 ≤ sb) (gv : n0 ≤ vb) (nbv : b ≠ vb) :
    MetFree l (⟨"java/lang/AbstractStringBuilder", "putStringAt", "(ILjava/lang/String;)V"⟩ : MethodName) (head1 (Jvm.Cond.code (⟨"java/lang/AbstractStringBuilder", "putStringAt", "(ILjava/lang/String;)V"⟩ : MethodName) jdk_68_method_73_code 3 (none : Option FieldType) :: ws) ({ frames := 2, cells := 0, slots := 0, locals := 33 } : Room)) (fun aA uU => aA = #[(.ref sb), (.int (3 : Int32)), (.ref x)] ∧ Z.Warmed39 uU.vm ∧ uU.heap = h0) (fun _ _ _ _ _ => True) (fun _ uU oO uU' => ∃ vV lL, oO = .returned vV ∧ Q_rmPut3_11 Z sb vb x b f g cz h0 n0 vV uU'.heap lL ∧ FrameEnd uU oO uU' lL ({ frames := 2, cells := 0, slots := 0, locals := 33 } : Room).cells ({ frames := 2, cells := 0, slots := 0, locals := 33 } : Room).slots) := by
  refine MetFree.of_bodySF (plainFor_of_name pn_AbstractStringBuilder) hisR ?_
  intro p e s m args below meth c s₁ Bd hml0 hP hK
  obtain ⟨rfl, hZ, hh⟩ := hP
  have hx := Bd.exec
  have hby := Bd.bytes
  have hml : c.maxLocals = 3 := hml0
  have hown : s.vm.findClass "java/lang/AbstractStringBuilder" = some m.cls := findClass_of_methodNamed Bd.named
  have hnm := (name_of_methodNamed Bd.named Bd.method).1
  have X0 : Stand p l e ({ frames := 2, cells := 0, slots := 0, locals := 33 } : Room) s m #[(.ref sb), (.int (3 : Int32)), (.ref x)] below meth c s₁ [] 0 0 := Stand.of_body Bd
  have e0 : s₁.heap = h0 := by rw [← hh, Bd.state]; rfl
  have N0 := Fr.nil n0
  have lB : @LT.lt Nat _ b h0.size := PB.lt
  have lV : @LT.lt Nat _ vb h0.size := PV.lt
  have nb9 : @Ne Nat b vb := nbv
  have lS : @LT.lt Nat _ sb h0.size := E0.lt
  have nsv : @Ne Nat sb vb := oNeO E0 (hw _ (List.mem_of_getElem? (i := 51) rfl)) PV
  have nxv : @Ne Nat x vb := oNeO E1 (hw _ (List.mem_of_getElem? (i := 6) rfl)) PV
  have nsb : @Ne Nat sb b := oNeO E0 (hw _ (List.mem_of_getElem? (i := 51) rfl)) PB
  refine oEnter (oCast (ef_rmPut3_11 m sb (3 : Int32) x ) ?_)
  show oGl p e below (s₁.setTop (mkF m 0 #[.val (.ref sb), .val (.int (3 : Int32)), .val (.ref x)] [])) _
  refine saloadN X0 hx (hb hby d15_0) rfl rfl rfl (pc' := 1) ?_
  refine saloadN X0 hx (hb hby d15_1) rfl rfl rfl (pc' := 2) ?_
  have hz1 : n0 ≤ h0.size := by omega
  obtain ⟨cq1, q1, q1'⟩ := E0.cell
  obtain ⟨_, _, ⟨T1, L1, k1, n1⟩, -, X1, ⟨Lc1, hQ1, l1, y1, z1⟩, st1⟩ := X0.privateBack hx (y := (⟨"java/lang/AbstractStringBuilder", "inflateIfNeededFor", "(Ljava/lang/String;)V"⟩ : MethodName)) hown (mvT hZ (hw _ (List.mem_of_getElem? (i := 104) rfl))) (mvT hZ (hw _ (List.mem_of_getElem? (i := 105) rfl))) (oPriv2 (mvT hZ (hw _ (List.mem_of_getElem? (i := 107) rfl))) (Cond.privateMethod_at (mvP hZ (hw _ (List.mem_of_getElem? (i := 106) rfl)) (args := #[]))) (mvT hZ (hw _ (List.mem_of_getElem? (i := 105) rfl))) (by decide)) (Cond.privateMethod_at (mvP hZ (hw _ (List.mem_of_getElem? (i := 106) rfl)) (args := #[]))) (mvT hZ (hw _ (List.mem_of_getElem? (i := 108) rfl))) (by decide) (backOf (W := 0) (rmInf3_11 l Z a0 hw [] sb vb x cz h0 n0 hz1 O0 SCS hcz E0 B0 B1 B2 E1 C1) hZ (hw _ (List.mem_of_getElem? (i := 108) rfl)) (hw _ (List.mem_of_getElem? (i := 60) rfl)) (by decide) (by decide)) (g := (mkF m 2 #[.val (.ref sb), .val (.int (3 : Int32)), .val (.ref x)] [(.ref x), (.ref sb)])) rfl (by rw [hml]; rfl) (Steps.refl _) (a := sb) (by rw [e0]; exact q1) q1' (argsL := [(.ref x)]) (rest := []) (lenOf pd_2 rfl) rfl (by show 2 * 0 + _ ≤ _; exact Nat.le_of_eq rfl) (hb hby d15_2) (fun _ _ => ⟨rfl, e0, (by decide : 0 + 0 ≤ _), (by decide : 0 + 0 ≤ _)⟩)
  dsimp only [Pt.U, Pt.locs, Pt.cells, Pt.slots] at X1 l1 y1 z1 st1 hQ1
  subst l1 y1 z1
  obtain ⟨rfl, N1q, eh1⟩ := hQ1
  have N1 := Fr.app N0 N1q
  refine oSt st1 ?_
  show oGl p e below (T1.setTop (mkF m 5 #[.val (.ref sb), .val (.int (3 : Int32)), .val (.ref x)] [])) _
  refine saloadN X1 hx (hb hby d15_5) rfl rfl rfl (pc' := 6) ?_
  refine saloadN X1 hx (hb hby d15_6) rfl rfl rfl (pc' := 7) ?_
  obtain ⟨T2, X2, e2, st2⟩ := getF X1 hx hZ hown (host := "") (Or.inl (hw _ (List.mem_of_getElem? (i := 64) rfl))) Via.refl eh1 B0 (g := (mkF m 7 #[.val (.ref sb), .val (.int (3 : Int32)), .val (.ref x)] [(.ref sb), (.ref x)])) rfl rfl (hb hby d15_7)
  refine oOn st2 ?_
  show oGl p e below (T2.setTop (mkF m 10 #[.val (.ref sb), .val (.int (3 : Int32)), .val (.ref x)] [(.ref vb), (.ref x)])) _
  refine siloadN X2 hx (hb hby d15_10) rfl rfl (pc' := 11) ?_
  refine saloadN X2 hx (hb hby d15_11) rfl rfl rfl (pc' := 12) ?_
  obtain ⟨T3, X3, e3, st3⟩ := getF X2 hx hZ hown (host := "") (Or.inl (hw _ (List.mem_of_getElem? (i := 66) rfl))) Via.refl e2 B1 (g := (mkF m 12 #[.val (.ref sb), .val (.int (3 : Int32)), .val (.ref x)] [(.ref sb), (.int (3 : Int32)), (.ref vb), (.ref x)])) rfl rfl (hb hby d15_12)
  refine oOn st3 ?_
  show oGl p e below (T3.setTop (mkF m 15 #[.val (.ref sb), .val (.int (3 : Int32)), .val (.ref x)] [(.int (0 : Int32)), (.int (3 : Int32)), (.ref vb), (.ref x)])) _
  have hz4 : n0 ≤ h0.size := by omega
  obtain ⟨cq4, kq4, q4a, q4b, q4c⟩ := isOf hZ e3 E1
  obtain ⟨_, _, ⟨T4, L4, k4, n4⟩, -, X4, ⟨Lc4, hQ4, l4, y4, z4⟩, st4⟩ := X3.virtualBack hx (y := (⟨"java/lang/String", "getBytes", "([BIB)V"⟩ : MethodName)) (z := (⟨"java/lang/String", "getBytes", "([BIB)V"⟩ : MethodName)) hown (mvT hZ (hw _ (List.mem_of_getElem? (i := 110) rfl))) (mvT hZ (hw _ (List.mem_of_getElem? (i := 111) rfl))) (notFace_of_selects (args := #[]) (mvT hZ (hw _ (List.mem_of_getElem? (i := 113) rfl)))) (mvT hZ (hw _ (List.mem_of_getElem? (i := 113) rfl))) (mvT hZ (hw _ (List.mem_of_getElem? (i := 112) rfl))) (by decide) (backOf (W := 0) (rmGby3_11 l Z a0 hw [] vb x b f g cz h0 n0 hz4 O0 SCS hcz E1 F1 C1 PB PV Ff Fg gv nbv) hZ (hw _ (List.mem_of_getElem? (i := 114) rfl)) (hw _ (List.mem_of_getElem? (i := 5) rfl)) (by decide) (by decide)) q4a q4c (g := (mkF m 15 #[.val (.ref sb), .val (.int (3 : Int32)), .val (.ref x)] [(.int (0 : Int32)), (.int (3 : Int32)), (.ref vb), (.ref x)])) rfl (by rw [hml]; rfl) (Steps.refl _) (argsL := [(.ref vb), (.int (3 : Int32)), (.int (0 : Int32))]) (rest := []) (lenOf pd_3 rfl) rfl (by show 2 * 0 + _ ≤ _; exact Nat.le_of_eq rfl) (hb hby d15_15) (fun _ _ => ⟨rfl, e3, (by decide : 0 + 0 ≤ _), (by decide : 0 + 0 ≤ _)⟩)
  dsimp only [Pt.U, Pt.locs, Pt.cells, Pt.slots] at X4 l4 y4 z4 st4 hQ4
  subst l4 y4 z4
  obtain ⟨rfl, N4q, K4, Vg4⟩ := hQ4
  have N4 := Fr.app N1 N4q
  have z5 : h0.size ≤ T4.heap.size := K4.1
  refine oSt st4 ?_
  show oGl p e below (T4.setTop (mkF m 18 #[.val (.ref sb), .val (.int (3 : Int32)), .val (.ref x)] [])) _
  have kp6 : Keep h0 T4.heap [vb] := ((Keep.refl h0 [vb]).trans K4 (allS (Or.inl (List.mem_of_getElem? (i := 0) rfl)) all0))
  refine oRet0 X4 hx Bd.notSynchronized Bd.returns (hb hby d15_18) (by decide) (by decide) ?_
  show Q_rmPut3_11 Z sb vb x b f g cz h0 n0 _ T4.heap _
  exact ⟨rfl, N4, kp6, Vg4⟩
theorem ef_rmAap3_11 (m : MethodId) (x0 : Nat) (x1 : Nat)  : entryFrame m #[(.ref x0), (.ref x1)] 3 = mkF m 0 #[.val (.ref x0), .val (.ref x1), .unset] [] := by first | (simp [entryFrame, mkF, argsToLocals, Value.category, maxLocals]; done) | rfl
def Q_rmAap3_11 (Z : State) (sb vb x b : Nat) (f g : Nat → Int32) (cz : Int32) (h0 : Heap) (n0 : Nat) (vv : Option Value) (h : Heap) (L : List Loc) : Prop := vv = some (.ref sb) ∧ Fr n0 L ∧ Keep h0 h [sb, vb] ∧ Exa Z h sb "java/lang/StringBuilder" ∧ Fld Z h sb "java/lang/AbstractStringBuilder" "value" "[B" (.ref vb) ∧ Fld Z h sb "java/lang/AbstractStringBuilder" "coder" "B" (.int 0) ∧ Fld Z h sb "java/lang/AbstractStringBuilder" "count" "I" (.int 14) ∧ oAI Z h vb .byte 16 (oCpF 3 11 (fun i => f (0 + i)) g)
set_option maxRecDepth 65536 in
set_option maxHeartbeats 40000000 in
theorem rmAap3_11 (l : Launch) (Z : State) (a0 : Array Value) (hw : ∀ d ∈ tables_1, d.before a0 Z = true) (ws : List Jvm.Cond) (sb vb x b : Nat) (f g : Nat → Int32) (cz : Int32) (h0 : Heap) (n0 : Nat) (Z0 : n0 ≤ h0.size) (O0 : oOld Z n0 h0) (SCS : Sta Z Z.heap "java/lang/String" "COMPACT_STRINGS" "Z" (.int cz)) (hcz : ¬ cz = (0 : Int32)) (E0 : Exa Z h0 sb "java/lang/StringBuilder") (B0 : Fld Z h0 sb "java/lang/AbstractStringBuilder" "value" "[B" (.ref vb)) (B1 : Fld Z h0 sb "java/lang/AbstractStringBuilder" "coder" "B" (.int 0)) (B2 : Fld Z h0 sb "java/lang/AbstractStringBuilder" "count" "I" (.int 3)) (E1 : Exa Z h0 x "java/lang/String") (F1 : Fld Z h0 x "java/lang/String" "value" "[B" (.ref b)) (C1 : Fld Z h0 x "java/lang/String" "coder" "B" (.int 0)) (PB : oAI Z h0 b .byte 11 f) (PV : oAI Z h0 vb .byte 16 g) (Ff : oFit 11 f) (Fg : oFit 16 g) (gs : n0 ≤ sb) (gv : n0 ≤ vb) (nbv : b ≠ vb) :
    MetFree l (⟨"java/lang/AbstractStringBuilder", "append", "(Ljava/lang/String;)Ljava/lang/AbstractStringBuilder;"⟩ : MethodName) (head1 (Jvm.Cond.code (⟨"java/lang/AbstractStringBuilder", "append", "(Ljava/lang/String;)Ljava/lang/AbstractStringBuilder;"⟩ : MethodName) jdk_68_method_22_code 3 (some (.object "java/lang/AbstractStringBuilder")) :: ws) ({ frames := 3, cells := 0, slots := 0, locals := 47 } : Room)) (fun aA uU => aA = #[(.ref sb), (.ref x)] ∧ Z.Warmed39 uU.vm ∧ uU.heap = h0) (fun _ _ _ _ _ => True) (fun _ uU oO uU' => ∃ vV lL, oO = .returned vV ∧ Q_rmAap3_11 Z sb vb x b f g cz h0 n0 vV uU'.heap lL ∧ FrameEnd uU oO uU' lL ({ frames := 3, cells := 0, slots := 0, locals := 47 } : Room).cells ({ frames := 3, cells := 0, slots := 0, locals := 47 } : Room).slots) := by
  refine MetFree.of_bodySF (plainFor_of_name pn_AbstractStringBuilder) hisR ?_
  intro p e s m args below meth c s₁ Bd hml0 hP hK
  obtain ⟨rfl, hZ, hh⟩ := hP
  have hx := Bd.exec
  have hby := Bd.bytes
  have hml : c.maxLocals = 3 := hml0
  have hown : s.vm.findClass "java/lang/AbstractStringBuilder" = some m.cls := findClass_of_methodNamed Bd.named
  have hnm := (name_of_methodNamed Bd.named Bd.method).1
  have X0 : Stand p l e ({ frames := 3, cells := 0, slots := 0, locals := 47 } : Room) s m #[(.ref sb), (.ref x)] below meth c s₁ [] 0 0 := Stand.of_body Bd
  have e0 : s₁.heap = h0 := by rw [← hh, Bd.state]; rfl
  have N0 := Fr.nil n0
  have lB : @LT.lt Nat _ b h0.size := PB.lt
  have lV : @LT.lt Nat _ vb h0.size := PV.lt
  have nb9 : @Ne Nat b vb := nbv
  have lS : @LT.lt Nat _ sb h0.size := E0.lt
  have nsv : @Ne Nat sb vb := oNeO E0 (hw _ (List.mem_of_getElem? (i := 51) rfl)) PV
  have nxv : @Ne Nat x vb := oNeO E1 (hw _ (List.mem_of_getElem? (i := 6) rfl)) PV
  have nsb : @Ne Nat sb b := oNeO E0 (hw _ (List.mem_of_getElem? (i := 51) rfl)) PB
  refine oEnter (oCast (ef_rmAap3_11 m sb x ) ?_)
  show oGl p e below (s₁.setTop (mkF m 0 #[.val (.ref sb), .val (.ref x), .unset] [])) _
  refine saloadN X0 hx (hb hby d11_0) rfl rfl rfl (pc' := 1) ?_
  refine sifnonnullY X0 hx (hb hby d11_1) (by decide) (by decide)  (pc' := 9) ?_
  refine saloadN X0 hx (hb hby d11_9) rfl rfl rfl (pc' := 10) ?_
  have hz1 : n0 ≤ h0.size := by omega
  obtain ⟨cq1, kq1, q1a, q1b, q1c⟩ := isOf hZ e0 E1
  obtain ⟨_, _, ⟨T1, L1, k1, n1⟩, -, X1, ⟨Lc1, hQ1, l1, y1, z1⟩, st1⟩ := X0.virtualBack hx (y := (⟨"java/lang/String", "length", "()I"⟩ : MethodName)) (z := (⟨"java/lang/String", "length", "()I"⟩ : MethodName)) hown (mvT hZ (hw _ (List.mem_of_getElem? (i := 79) rfl))) (mvT hZ (hw _ (List.mem_of_getElem? (i := 80) rfl))) (notFace_of_selects (args := #[]) (mvT hZ (hw _ (List.mem_of_getElem? (i := 82) rfl)))) (mvT hZ (hw _ (List.mem_of_getElem? (i := 82) rfl))) (mvT hZ (hw _ (List.mem_of_getElem? (i := 81) rfl))) (by decide) (backOf (W := 0) (rmLen3_11 l Z a0 hw [] x b f cz h0 n0 hz1 O0 SCS hcz E1 F1 C1 PB) hZ (hw _ (List.mem_of_getElem? (i := 83) rfl)) (hw _ (List.mem_of_getElem? (i := 5) rfl)) (by decide) (by decide)) q1a q1c (g := (mkF m 10 #[.val (.ref sb), .val (.ref x), .unset] [(.ref x)])) rfl (by rw [hml]; rfl) (Steps.refl _) (argsL := []) (rest := []) (lenOf pd_4 rfl) rfl (by show 2 * 0 + _ ≤ _; exact Nat.le_of_eq rfl) (hb hby d11_10) (fun _ _ => ⟨rfl, e0, (by decide : 0 + 0 ≤ _), (by decide : 0 + 0 ≤ _)⟩)
  dsimp only [Pt.U, Pt.locs, Pt.cells, Pt.slots] at X1 l1 y1 z1 st1 hQ1
  subst l1 y1 z1
  obtain ⟨rfl, N1q, eh1⟩ := hQ1
  have N1 := Fr.app N0 N1q
  refine oSt st1 ?_
  show oGl p e below (T1.setTop (mkF m 13 #[.val (.ref sb), .val (.ref x), .unset] [(.int (11 : Int32))])) _
  refine sistoreN X1 hx (hb hby d11_13) rfl rfl (l' := #[.val (.ref sb), .val (.ref x), .val (.int (11 : Int32))]) (pc' := 14) ?_
  refine saloadN X1 hx (hb hby d11_14) rfl rfl rfl (pc' := 15) ?_
  refine saloadN X1 hx (hb hby d11_15) rfl rfl rfl (pc' := 16) ?_
  obtain ⟨T2, X2, e2, st2⟩ := getF X1 hx hZ hown (host := "") (Or.inl (hw _ (List.mem_of_getElem? (i := 92) rfl))) Via.refl eh1 B2 (g := (mkF m 16 #[.val (.ref sb), .val (.ref x), .val (.int (11 : Int32))] [(.ref sb), (.ref sb)])) rfl rfl (hb hby d11_16)
  refine oOn st2 ?_
  show oGl p e below (T2.setTop (mkF m 19 #[.val (.ref sb), .val (.ref x), .val (.int (11 : Int32))] [(.int (3 : Int32)), (.ref sb)])) _
  refine siloadN X2 hx (hb hby d11_19) rfl rfl (pc' := 20) ?_
  refine siadd X2 hx (hb hby d11_20) rfl (by decide) (z := (14 : Int32)) (pc' := 21) ?_
  have hz3 : n0 ≤ h0.size := by omega
  obtain ⟨cq3, q3, q3'⟩ := E0.cell
  obtain ⟨_, _, ⟨T3, L3, k3, n3⟩, -, X3, ⟨Lc3, hQ3, l3, y3, z3⟩, st3⟩ := X2.privateBack hx (y := (⟨"java/lang/AbstractStringBuilder", "ensureCapacityInternal", "(I)V"⟩ : MethodName)) hown (mvT hZ (hw _ (List.mem_of_getElem? (i := 94) rfl))) (mvT hZ (hw _ (List.mem_of_getElem? (i := 95) rfl))) (oPriv2 (mvT hZ (hw _ (List.mem_of_getElem? (i := 97) rfl))) (Cond.privateMethod_at (mvP hZ (hw _ (List.mem_of_getElem? (i := 96) rfl)) (args := #[]))) (mvT hZ (hw _ (List.mem_of_getElem? (i := 95) rfl))) (by decide)) (Cond.privateMethod_at (mvP hZ (hw _ (List.mem_of_getElem? (i := 96) rfl)) (args := #[]))) (mvT hZ (hw _ (List.mem_of_getElem? (i := 98) rfl))) (by decide) (backOf (W := 0) (rmEns3_11 l Z a0 hw [] sb vb g h0 n0 hz3 E0 B0 B1 B2 PV) hZ (hw _ (List.mem_of_getElem? (i := 98) rfl)) (hw _ (List.mem_of_getElem? (i := 60) rfl)) (by decide) (by decide)) (g := (mkF m 21 #[.val (.ref sb), .val (.ref x), .val (.int (11 : Int32))] [(.int (14 : Int32)), (.ref sb)])) rfl (by rw [hml]; rfl) (Steps.refl _) (a := sb) (by rw [e2]; exact q3) q3' (argsL := [(.int (14 : Int32))]) (rest := []) (lenOf pd_0 rfl) rfl (by show 2 * 0 + _ ≤ _; exact Nat.le_of_eq rfl) (hb hby d11_21) (fun _ _ => ⟨rfl, e2, (by decide : 0 + 0 ≤ _), (by decide : 0 + 0 ≤ _)⟩)
  dsimp only [Pt.U, Pt.locs, Pt.cells, Pt.slots] at X3 l3 y3 z3 st3 hQ3
  subst l3 y3 z3
  obtain ⟨rfl, N3q, eh3⟩ := hQ3
  have N3 := Fr.app N1 N3q
  refine oSt st3 ?_
  show oGl p e below (T3.setTop (mkF m 24 #[.val (.ref sb), .val (.ref x), .val (.int (11 : Int32))] [])) _
  refine saloadN X3 hx (hb hby d11_24) rfl rfl rfl (pc' := 25) ?_
  refine saloadN X3 hx (hb hby d11_25) rfl rfl rfl (pc' := 26) ?_
  obtain ⟨T4, X4, e4, st4⟩ := getF X3 hx hZ hown (host := "") (Or.inl (hw _ (List.mem_of_getElem? (i := 92) rfl))) Via.refl eh3 B2 (g := (mkF m 26 #[.val (.ref sb), .val (.ref x), .val (.int (11 : Int32))] [(.ref sb), (.ref sb)])) rfl rfl (hb hby d11_26)
  refine oOn st4 ?_
  show oGl p e below (T4.setTop (mkF m 29 #[.val (.ref sb), .val (.ref x), .val (.int (11 : Int32))] [(.int (3 : Int32)), (.ref sb)])) _
  refine saloadN X4 hx (hb hby d11_29) rfl rfl rfl (pc' := 30) ?_
  have hz5 : n0 ≤ h0.size := by omega
  obtain ⟨cq5, q5, q5'⟩ := E0.cell
  obtain ⟨_, _, ⟨T5, L5, k5, n5⟩, -, X5, ⟨Lc5, hQ5, l5, y5, z5⟩, st5⟩ := X4.privateBack hx (y := (⟨"java/lang/AbstractStringBuilder", "putStringAt", "(ILjava/lang/String;)V"⟩ : MethodName)) hown (mvT hZ (hw _ (List.mem_of_getElem? (i := 99) rfl))) (mvT hZ (hw _ (List.mem_of_getElem? (i := 100) rfl))) (oPriv2 (mvT hZ (hw _ (List.mem_of_getElem? (i := 102) rfl))) (Cond.privateMethod_at (mvP hZ (hw _ (List.mem_of_getElem? (i := 101) rfl)) (args := #[]))) (mvT hZ (hw _ (List.mem_of_getElem? (i := 100) rfl))) (by decide)) (Cond.privateMethod_at (mvP hZ (hw _ (List.mem_of_getElem? (i := 101) rfl)) (args := #[]))) (mvT hZ (hw _ (List.mem_of_getElem? (i := 103) rfl))) (by decide) (backOf (W := 0) (rmPut3_11 l Z a0 hw [] sb vb x b f g cz h0 n0 hz5 O0 SCS hcz E0 B0 B1 B2 E1 F1 C1 PB PV Ff Fg gs gv nbv) hZ (hw _ (List.mem_of_getElem? (i := 103) rfl)) (hw _ (List.mem_of_getElem? (i := 60) rfl)) (by decide) (by decide)) (g := (mkF m 30 #[.val (.ref sb), .val (.ref x), .val (.int (11 : Int32))] [(.ref x), (.int (3 : Int32)), (.ref sb)])) rfl (by rw [hml]; rfl) (Steps.refl _) (a := sb) (by rw [e4]; exact q5) q5' (argsL := [(.int (3 : Int32)), (.ref x)]) (rest := []) (lenOf pd_5 rfl) rfl (by show 2 * 0 + _ ≤ _; exact Nat.le_of_eq rfl) (hb hby d11_30) (fun _ _ => ⟨rfl, e4, (by decide : 0 + 0 ≤ _), (by decide : 0 + 0 ≤ _)⟩)
  dsimp only [Pt.U, Pt.locs, Pt.cells, Pt.slots] at X5 l5 y5 z5 st5 hQ5
  subst l5 y5 z5
  obtain ⟨rfl, N5q, K5, Vg5⟩ := hQ5
  have N5 := Fr.app N3 N5q
  have z6 : h0.size ≤ T5.heap.size := K5.1
  refine oSt st5 ?_
  show oGl p e below (T5.setTop (mkF m 33 #[.val (.ref sb), .val (.ref x), .val (.int (11 : Int32))] [])) _
  refine saloadN X5 hx (hb hby d11_33) rfl rfl rfl (pc' := 34) ?_
  refine sdup X5 hx (hb hby d11_34) rfl rfl (pc' := 35) ?_
  have f8 := (B2.keep K5 (ninS (oNe (by omega)) nin0))
  obtain ⟨T7, X7, e7, st7⟩ := getF X5 hx hZ hown (host := "") (Or.inl (hw _ (List.mem_of_getElem? (i := 92) rfl))) Via.refl rfl f8 (g := (mkF m 35 #[.val (.ref sb), .val (.ref x), .val (.int (11 : Int32))] [(.ref sb), (.ref sb)])) rfl rfl (hb hby d11_35)
  refine oOn st7 ?_
  show oGl p e below (T7.setTop (mkF m 38 #[.val (.ref sb), .val (.ref x), .val (.int (11 : Int32))] [(.int (3 : Int32)), (.ref sb)])) _
  refine siloadN X7 hx (hb hby d11_38) rfl rfl (pc' := 39) ?_
  refine siadd X7 hx (hb hby d11_39) rfl (by decide) (z := (14 : Int32)) (pc' := 40) ?_
  have f10 := (E0.keep K5)
  obtain ⟨T9, h9, X9, e9, W9, st9⟩ := putF X7 hx hZ hown (host := "") (Or.inl (hw _ (List.mem_of_getElem? (i := 92) rfl))) Via.refl e7 f8 f10 (Or.inl (hw _ (List.mem_of_getElem? (i := 93) rfl))) (hw _ (List.mem_of_getElem? (i := 51) rfl)) (ty := .int) (by decide) rfl rfl (g := (mkF m 40 #[.val (.ref sb), .val (.ref x), .val (.int (11 : Int32))] [(.int (14 : Int32)), (.ref sb)])) rfl rfl (hb hby d11_40)
  refine oOn st9 ?_
  have z11 : T5.heap.size ≤ h9.size := Nat.le_of_eq W9.size.symm
  have N9 := Fr.snoc X9 N5 (by omega)
  have f9 := Fld.same W9 f8
  show oGl p e below (T9.setTop (mkF m 43 #[.val (.ref sb), .val (.ref x), .val (.int (11 : Int32))] [])) _
  refine saloadN X9 hx (hb hby d11_43) rfl rfl rfl (pc' := 44) ?_
  have kp12 : Keep h0 h9 [sb, vb] := (((Keep.refl h0 [sb, vb]).trans K5 (allS (Or.inl (List.mem_of_getElem? (i := 1) rfl)) all0)).wr W9 (Or.inl (List.mem_of_getElem? (i := 0) rfl)))
  have f13 := (f10.wr W9)
  have f14 := ((B0.keep K5 (ninS (oNe (by omega)) nin0)).other W9 (Or.inr (slot_ne (Or.inl (hw _ (List.mem_of_getElem? (i := 65) rfl))) (Or.inl (hw _ (List.mem_of_getElem? (i := 93) rfl))) (by decide) (t := (.array .byte)) (t' := .int) (by decide) (by decide))))
  have f15 := ((B1.keep K5 (ninS (oNe (by omega)) nin0)).other W9 (Or.inr (slot_ne (Or.inl (hw _ (List.mem_of_getElem? (i := 67) rfl))) (Or.inl (hw _ (List.mem_of_getElem? (i := 93) rfl))) (by decide) (t := .byte) (t' := .int) (by decide) (by decide))))
  have f16 := (Vg5.other W9 (oNe (by omega)))
  refine oRetR X9 hx Bd.notSynchronized Bd.returns rfl rfl (hb hby d11_44) (by decide) (by decide) ?_
  show Q_rmAap3_11 Z sb vb x b f g cz h0 n0 _ T9.heap _
  rw [e9]
  exact ⟨rfl, N9, kp12, f13, f14, f15, f9, f16⟩
theorem ef_rmApp3_11 (m : MethodId) (x0 : Nat) (x1 : Nat)  : entryFrame m #[(.ref x0), (.ref x1)] 2 = mkF m 0 #[.val (.ref x0), .val (.ref x1)] [] := by first | (simp [entryFrame, mkF, argsToLocals, Value.category, maxLocals]; done) | rfl
def Q_rmApp3_11 (Z : State) (sb vb x b : Nat) (f g : Nat → Int32) (cz : Int32) (h0 : Heap) (n0 : Nat) (vv : Option Value) (h : Heap) (L : List Loc) : Prop := vv = some (.ref sb) ∧ Fr n0 L ∧ Keep h0 h [sb, vb] ∧ Exa Z h sb "java/lang/StringBuilder" ∧ Fld Z h sb "java/lang/AbstractStringBuilder" "value" "[B" (.ref vb) ∧ Fld Z h sb "java/lang/AbstractStringBuilder" "coder" "B" (.int 0) ∧ Fld Z h sb "java/lang/AbstractStringBuilder" "count" "I" (.int 14) ∧ oAI Z h vb .byte 16 (oCpF 3 11 (fun i => f (0 + i)) g)
set_option maxRecDepth 65536 in
set_option maxHeartbeats 40000000 in
theorem rmApp3_11 (l : Launch) (Z : State) (a0 : Array Value) (hw : ∀ d ∈ tables_1, d.before a0 Z = true) (ws : List Jvm.Cond) (sb vb x b : Nat) (f g : Nat → Int32) (cz : Int32) (h0 : Heap) (n0 : Nat) (Z0 : n0 ≤ h0.size) (O0 : oOld Z n0 h0) (SCS : Sta Z Z.heap "java/lang/String" "COMPACT_STRINGS" "Z" (.int cz)) (hcz : ¬ cz = (0 : Int32)) (E0 : Exa Z h0 sb "java/lang/StringBuilder") (B0 : Fld Z h0 sb "java/lang/AbstractStringBuilder" "value" "[B" (.ref vb)) (B1 : Fld Z h0 sb "java/lang/AbstractStringBuilder" "coder" "B" (.int 0)) (B2 : Fld Z h0 sb "java/lang/AbstractStringBuilder" "count" "I" (.int 3)) (E1 : Exa Z h0 x "java/lang/String") (F1 : Fld Z h0 x "java/lang/String" "value" "[B" (.ref b)) (C1 : Fld Z h0 x "java/lang/String" "coder" "B" (.int 0)) (PB : oAI Z h0 b .byte 11 f) (PV : oAI Z h0 vb .byte 16 g) (Ff : oFit 11 f) (Fg : oFit 16 g) (gs : n0 ≤ sb) (gv : n0 ≤ vb) (nbv : b ≠ vb) :
    MetFree l (⟨"java/lang/StringBuilder", "append", "(Ljava/lang/String;)Ljava/lang/StringBuilder;"⟩ : MethodName) (head1 (Jvm.Cond.code (⟨"java/lang/StringBuilder", "append", "(Ljava/lang/String;)Ljava/lang/StringBuilder;"⟩ : MethodName) jdk_67_method_7_code 2 (some (.object "java/lang/StringBuilder")) :: ws) ({ frames := 4, cells := 0, slots := 0, locals := 61 } : Room)) (fun aA uU => aA = #[(.ref sb), (.ref x)] ∧ Z.Warmed39 uU.vm ∧ uU.heap = h0) (fun _ _ _ _ _ => True) (fun _ uU oO uU' => ∃ vV lL, oO = .returned vV ∧ Q_rmApp3_11 Z sb vb x b f g cz h0 n0 vV uU'.heap lL ∧ FrameEnd uU oO uU' lL ({ frames := 4, cells := 0, slots := 0, locals := 61 } : Room).cells ({ frames := 4, cells := 0, slots := 0, locals := 61 } : Room).slots) := by
  refine MetFree.of_bodySF (plainFor_of_name pn_StringBuilder) hisR ?_
  intro p e s m args below meth c s₁ Bd hml0 hP hK
  obtain ⟨rfl, hZ, hh⟩ := hP
  have hx := Bd.exec
  have hby := Bd.bytes
  have hml : c.maxLocals = 2 := hml0
  have hown : s.vm.findClass "java/lang/StringBuilder" = some m.cls := findClass_of_methodNamed Bd.named
  have hnm := (name_of_methodNamed Bd.named Bd.method).1
  have X0 : Stand p l e ({ frames := 4, cells := 0, slots := 0, locals := 61 } : Room) s m #[(.ref sb), (.ref x)] below meth c s₁ [] 0 0 := Stand.of_body Bd
  have e0 : s₁.heap = h0 := by rw [← hh, Bd.state]; rfl
  have N0 := Fr.nil n0
  have lB : @LT.lt Nat _ b h0.size := PB.lt
  have lV : @LT.lt Nat _ vb h0.size := PV.lt
  have nb9 : @Ne Nat b vb := nbv
  have lS : @LT.lt Nat _ sb h0.size := E0.lt
  have nsv : @Ne Nat sb vb := oNeO E0 (hw _ (List.mem_of_getElem? (i := 51) rfl)) PV
  have nxv : @Ne Nat x vb := oNeO E1 (hw _ (List.mem_of_getElem? (i := 6) rfl)) PV
  have nsb : @Ne Nat sb b := oNeO E0 (hw _ (List.mem_of_getElem? (i := 51) rfl)) PB
  refine oEnter (oCast (ef_rmApp3_11 m sb x ) ?_)
  show oGl p e below (s₁.setTop (mkF m 0 #[.val (.ref sb), .val (.ref x)] [])) _
  refine saloadN X0 hx (hb hby d10_0) rfl rfl rfl (pc' := 1) ?_
  refine saloadN X0 hx (hb hby d10_1) rfl rfl rfl (pc' := 2) ?_
  have hz1 : n0 ≤ h0.size := by omega
  obtain ⟨_, _, ⟨T1, L1, k1, n1⟩, -, X1, ⟨Lc1, hQ1, l1, y1, z1⟩, st1⟩ := superBack X0 hx hZ (y := (⟨"java/lang/AbstractStringBuilder", "append", "(Ljava/lang/String;)Ljava/lang/AbstractStringBuilder;"⟩ : MethodName)) hown (hw _ (List.mem_of_getElem? (i := 74) rfl)) (oSame (hw _ (List.mem_of_getElem? (i := 77) rfl)) (hw _ (List.mem_of_getElem? (i := 97) rfl)) rfl (by decide)) (hw _ (List.mem_of_getElem? (i := 75) rfl)) (hw _ (List.mem_of_getElem? (i := 76) rfl)) (by decide) (backOf (W := 0) (rmAap3_11 l Z a0 hw [] sb vb x b f g cz h0 n0 hz1 O0 SCS hcz E0 B0 B1 B2 E1 F1 C1 PB PV Ff Fg gs gv nbv) hZ (hw _ (List.mem_of_getElem? (i := 78) rfl)) (hw _ (List.mem_of_getElem? (i := 60) rfl)) (by decide) (by decide)) e0 (Ins.self E0) (g := (mkF m 2 #[.val (.ref sb), .val (.ref x)] [(.ref x), (.ref sb)])) rfl (by rw [hml]; rfl) (hw _ (List.mem_of_getElem? (i := 78) rfl)) (argsL := [(.ref x)]) (rest := []) (lenOf pd_6 rfl) rfl (by show 2 * 0 + _ ≤ _; exact Nat.le_of_eq rfl) (hb hby d10_2) (fun _ _ => ⟨rfl, e0, (by decide : 0 + 0 ≤ _), (by decide : 0 + 0 ≤ _)⟩)
  dsimp only [Pt.U, Pt.locs, Pt.cells, Pt.slots] at X1 l1 y1 z1 st1 hQ1
  subst l1 y1 z1
  obtain ⟨rfl, N1q, K1, Eg1, Ba1, Bb1, Bc1, Vg1⟩ := hQ1
  have N1 := Fr.app N0 N1q
  have z2 : h0.size ≤ T1.heap.size := K1.1
  refine oSt st1 ?_
  show oGl p e below (T1.setTop (mkF m 5 #[.val (.ref sb), .val (.ref x)] [(.ref sb)])) _
  refine spop X1 hx (hb hby d10_5) rfl rfl (pc' := 6) ?_
  refine saloadN X1 hx (hb hby d10_6) rfl rfl rfl (pc' := 7) ?_
  have kp3 : Keep h0 T1.heap [sb, vb] := ((Keep.refl h0 [sb, vb]).trans K1 (allS (Or.inl (List.mem_of_getElem? (i := 0) rfl)) (allS (Or.inl (List.mem_of_getElem? (i := 1) rfl)) all0)))
  refine oRetR X1 hx Bd.notSynchronized Bd.returns rfl rfl (hb hby d10_7) (by decide) (by decide) ?_
  show Q_rmApp3_11 Z sb vb x b f g cz h0 n0 _ T1.heap _
  exact ⟨rfl, N1, kp3, Eg1, Ba1, Bb1, Bc1, Vg1⟩
theorem oKeepN {h0 h : Heap} {d : Nat} (K : Keep h0 h [d]) (q : h0.size ≤ d) : Keep h0 h [] :=
  ⟨K.1, fun x c hx _ => K.2.1 x c hx (fun hm => by
    have h1 : @LT.lt Nat _ x h0.size := (Array.getElem?_eq_some_iff.mp hx).1
    have h2 : x = d := by simpa using hm
    subst h2; exact absurd h1 (Nat.not_lt.mpr q)), K.2.2⟩
theorem d29_0 : decode jdk_29_method_69_code 0 = .ok (.iload_n 0, 1) := by decide +kernel
theorem d29_1 : decode jdk_29_method_69_code 1 = .ok (.iload_n 1, 1) := by decide +kernel
theorem d29_2 : decode jdk_29_method_69_code 2 = .ok (.if_icmp .gt 7, 3) := by decide +kernel
theorem d29_9 : decode jdk_29_method_69_code 9 = .ok (.iload_n 1, 1) := by decide +kernel
theorem d29_10 : decode jdk_29_method_69_code 10 = .ok (.ireturn, 1) := by decide +kernel
theorem ef_rmMint11 (m : MethodId) (x0 : Int32) (x1 : Int32)  : entryFrame m #[(.int x0), (.int x1)] 2 = mkF m 0 #[.val (.int x0), .val (.int x1)] [] := by first | (simp [entryFrame, mkF, argsToLocals, Value.category, maxLocals]; done) | rfl
def Q_rmMint11 (Z : State)  (h0 : Heap) (n0 : Nat) (vv : Option Value) (h : Heap) (L : List Loc) : Prop := vv = some (.int 11) ∧ Fr n0 L ∧ h = h0
set_option maxRecDepth 65536 in
set_option maxHeartbeats 40000000 in
theorem rmMint11 (l : Launch) (Z : State) (a0 : Array Value) (hw : ∀ d ∈ tables_1, d.before a0 Z = true) (ws : List Jvm.Cond)  (h0 : Heap) (n0 : Nat) (Z0 : n0 ≤ h0.size)  :
    MetFree l (⟨"java/lang/Math", "min", "(II)I"⟩ : MethodName) (head1 (Jvm.Cond.code (⟨"java/lang/Math", "min", "(II)I"⟩ : MethodName) jdk_29_method_69_code 2 (some .int) :: ws) ({ frames := 0, cells := 0, slots := 0, locals := 0 } : Room)) (fun aA uU => aA = #[(.int (16 : Int32)), (.int (11 : Int32))] ∧ Z.Warmed39 uU.vm ∧ uU.heap = h0) (fun _ _ _ _ _ => True) (fun _ uU oO uU' => ∃ vV lL, oO = .returned vV ∧ Q_rmMint11 Z  h0 n0 vV uU'.heap lL ∧ FrameEnd uU oO uU' lL ({ frames := 0, cells := 0, slots := 0, locals := 0 } : Room).cells ({ frames := 0, cells := 0, slots := 0, locals := 0 } : Room).slots) := by
  refine MetFree.of_bodySF (by decide +kernel) hisR ?_
  intro p e s m args below meth c s₁ Bd hml0 hP hK
  obtain ⟨rfl, hZ, hh⟩ := hP
  have hx := Bd.exec
  have hby := Bd.bytes
  have hml : c.maxLocals = 2 := hml0
  have hown : s.vm.findClass "java/lang/Math" = some m.cls := findClass_of_methodNamed Bd.named
  have hnm := (name_of_methodNamed Bd.named Bd.method).1
  have X0 : Stand p l e ({ frames := 0, cells := 0, slots := 0, locals := 0 } : Room) s m #[(.int (16 : Int32)), (.int (11 : Int32))] below meth c s₁ [] 0 0 := Stand.of_body Bd
  have e0 : s₁.heap = h0 := by rw [← hh, Bd.state]; rfl
  have N0 := Fr.nil n0
  refine oEnter (oCast (ef_rmMint11 m (16 : Int32) (11 : Int32) ) ?_)
  show oGl p e below (s₁.setTop (mkF m 0 #[.val (.int (16 : Int32)), .val (.int (11 : Int32))] [])) _
  refine siloadN X0 hx (hb hby d29_0) rfl rfl (pc' := 1) ?_
  refine siloadN X0 hx (hb hby d29_1) rfl rfl (pc' := 2) ?_
  refine sicY X0 hx (hb hby d29_2) (by decide) (by decide) (tlt (by decide : (11 : Int32) < (16 : Int32))).2.2.1 (pc' := 9) ?_
  refine siloadN X0 hx (hb hby d29_9) rfl rfl (pc' := 10) ?_
  refine oRetI X0 hx Bd.notSynchronized Bd.returns (hb hby d29_10) (by decide) (by decide) ?_
  show Q_rmMint11 Z  h0 n0 _ s₁.heap _
  rw [e0]
  exact ⟨rfl, N0, rfl⟩
theorem d28_0 : decode jdk_65_method_131_code 0 = .ok (.iload_n 1, 1) := by decide +kernel
theorem d28_1 : decode jdk_65_method_131_code 1 = .ok (.iload_n 0, 1) := by decide +kernel
theorem d28_2 : decode jdk_65_method_131_code 2 = .ok (.if_icmp .ge 35, 3) := by decide +kernel
theorem d28_37 : decode jdk_65_method_131_code 37 = .ok (.return_, 1) := by decide +kernel
theorem pn_Arrays : plainName "java/util/Arrays" = true := by first | (simp [plainName, overriddenIn]; done) | decide +kernel
theorem ef_rmChkt11 (m : MethodId) (x0 : Int32) (x1 : Int32)  : entryFrame m #[(.int x0), (.int x1)] 2 = mkF m 0 #[.val (.int x0), .val (.int x1)] [] := by first | (simp [entryFrame, mkF, argsToLocals, Value.category, maxLocals]; done) | rfl
def Q_rmChkt11 (Z : State)  (h0 : Heap) (n0 : Nat) (vv : Option Value) (h : Heap) (L : List Loc) : Prop := vv = none ∧ Fr n0 L ∧ h = h0
set_option maxRecDepth 65536 in
set_option maxHeartbeats 40000000 in
theorem rmChkt11 (l : Launch) (Z : State) (a0 : Array Value) (hw : ∀ d ∈ tables_1, d.before a0 Z = true) (ws : List Jvm.Cond)  (h0 : Heap) (n0 : Nat) (Z0 : n0 ≤ h0.size)  :
    MetFree l (⟨"java/util/Arrays", "checkLength", "(II)V"⟩ : MethodName) (head1 (Jvm.Cond.code (⟨"java/util/Arrays", "checkLength", "(II)V"⟩ : MethodName) jdk_65_method_131_code 2 (none : Option FieldType) :: ws) ({ frames := 0, cells := 0, slots := 0, locals := 0 } : Room)) (fun aA uU => aA = #[(.int (0 : Int32)), (.int (11 : Int32))] ∧ Z.Warmed39 uU.vm ∧ uU.heap = h0) (fun _ _ _ _ _ => True) (fun _ uU oO uU' => ∃ vV lL, oO = .returned vV ∧ Q_rmChkt11 Z  h0 n0 vV uU'.heap lL ∧ FrameEnd uU oO uU' lL ({ frames := 0, cells := 0, slots := 0, locals := 0 } : Room).cells ({ frames := 0, cells := 0, slots := 0, locals := 0 } : Room).slots) := by
  refine MetFree.of_bodySF (plainFor_of_name pn_Arrays) hisR ?_
  intro p e s m args below meth c s₁ Bd hml0 hP hK
  obtain ⟨rfl, hZ, hh⟩ := hP
  have hx := Bd.exec
  have hby := Bd.bytes
  have hml : c.maxLocals = 2 := hml0
  have hown : s.vm.findClass "java/util/Arrays" = some m.cls := findClass_of_methodNamed Bd.named
  have hnm := (name_of_methodNamed Bd.named Bd.method).1
  have X0 : Stand p l e ({ frames := 0, cells := 0, slots := 0, locals := 0 } : Room) s m #[(.int (0 : Int32)), (.int (11 : Int32))] below meth c s₁ [] 0 0 := Stand.of_body Bd
  have e0 : s₁.heap = h0 := by rw [← hh, Bd.state]; rfl
  have N0 := Fr.nil n0
  refine oEnter (oCast (ef_rmChkt11 m (0 : Int32) (11 : Int32) ) ?_)
  show oGl p e below (s₁.setTop (mkF m 0 #[.val (.int (0 : Int32)), .val (.int (11 : Int32))] [])) _
  refine siloadN X0 hx (hb hby d28_0) rfl rfl (pc' := 1) ?_
  refine siloadN X0 hx (hb hby d28_1) rfl rfl (pc' := 2) ?_
  refine sicY X0 hx (hb hby d28_2) (by decide) (by decide) (flt (by decide : ¬ ((11 : Int32) < (0 : Int32)))).2.1 (pc' := 37) ?_
  refine oRet0 X0 hx Bd.notSynchronized Bd.returns (hb hby d28_37) (by decide) (by decide) ?_
  show Q_rmChkt11 Z  h0 n0 _ s₁.heap _
  rw [e0]
  exact ⟨rfl, N0, rfl⟩
theorem d27_0 : decode jdk_65_method_133_code 0 = .ok (.iload_n 1, 1) := by decide +kernel
theorem d27_1 : decode jdk_65_method_133_code 1 = .ok (.iload_n 2, 1) := by decide +kernel
theorem d27_2 : decode jdk_65_method_133_code 2 = .ok (.invokestatic 343, 3) := by decide +kernel
theorem pd_7 : parseMethodDescriptor "(II)V" = some ⟨[.int, .int], none⟩ := by decide +kernel
theorem d27_5 : decode jdk_65_method_133_code 5 = .ok (.iload_n 2, 1) := by decide +kernel
theorem d27_6 : decode jdk_65_method_133_code 6 = .ok (.iload_n 1, 1) := by decide +kernel
theorem d27_7 : decode jdk_65_method_133_code 7 = .ok (.isub, 1) := by decide +kernel
theorem d27_8 : decode jdk_65_method_133_code 8 = .ok (.istore_n 3, 1) := by decide +kernel
theorem d27_9 : decode jdk_65_method_133_code 9 = .ok (.iload_n 3, 1) := by decide +kernel
theorem d27_10 : decode jdk_65_method_133_code 10 = .ok (.newarray .byte, 2) := by decide +kernel
theorem d27_12 : decode jdk_65_method_133_code 12 = .ok (.astore 4, 2) := by decide +kernel
theorem d27_14 : decode jdk_65_method_133_code 14 = .ok (.aload_n 0, 1) := by decide +kernel
theorem d27_15 : decode jdk_65_method_133_code 15 = .ok (.iload_n 1, 1) := by decide +kernel
theorem d27_16 : decode jdk_65_method_133_code 16 = .ok (.aload 4, 2) := by decide +kernel
theorem d27_18 : decode jdk_65_method_133_code 18 = .ok (.iconst 0, 1) := by decide +kernel
theorem d27_19 : decode jdk_65_method_133_code 19 = .ok (.aload_n 0, 1) := by decide +kernel
theorem d27_20 : decode jdk_65_method_133_code 20 = .ok (.arraylength, 1) := by decide +kernel
theorem d27_21 : decode jdk_65_method_133_code 21 = .ok (.iload_n 1, 1) := by decide +kernel
theorem d27_22 : decode jdk_65_method_133_code 22 = .ok (.isub, 1) := by decide +kernel
theorem d27_23 : decode jdk_65_method_133_code 23 = .ok (.iload_n 3, 1) := by decide +kernel
theorem d27_24 : decode jdk_65_method_133_code 24 = .ok (.invokestatic 304, 3) := by decide +kernel
theorem pd_8 : parseMethodDescriptor "(II)I" = some ⟨[.int, .int], some .int⟩ := by decide +kernel
theorem d27_27 : decode jdk_65_method_133_code 27 = .ok (.invokestatic 150, 3) := by decide +kernel
theorem d27_30 : decode jdk_65_method_133_code 30 = .ok (.aload 4, 2) := by decide +kernel
theorem d27_32 : decode jdk_65_method_133_code 32 = .ok (.areturn, 1) := by decide +kernel
theorem ef_rmCrbt11 (m : MethodId) (x0 : Nat) (x1 : Int32) (x2 : Int32)  : entryFrame m #[(.ref x0), (.int x1), (.int x2)] 5 = mkF m 0 #[.val (.ref x0), .val (.int x1), .val (.int x2), .unset, .unset] [] := by first | (simp [entryFrame, mkF, argsToLocals, Value.category, maxLocals]; done) | rfl
def Q_rmCrbt11 (Z : State) (vb : Nat) (g : Nat → Int32) (h0 : Heap) (n0 : Nat) (vv : Option Value) (h : Heap) (L : List Loc) : Prop := ∃ d : Nat, vv = some (.ref d) ∧ Fr n0 L ∧ Keep h0 h [] ∧ h0.size ≤ d ∧ oAI Z h d .byte 11 (oCpF 0 11 (fun i => g (0 + i)) (fun _ => 0))
set_option maxRecDepth 65536 in
set_option maxHeartbeats 40000000 in
theorem rmCrbt11 (l : Launch) (Z : State) (a0 : Array Value) (hw : ∀ d ∈ tables_1, d.before a0 Z = true) (ws : List Jvm.Cond) (vb : Nat) (g : Nat → Int32) (h0 : Heap) (n0 : Nat) (Z0 : n0 ≤ h0.size) (PV : oAI Z h0 vb .byte 16 g) (Fg : oFit 16 g) :
    MetFree l (⟨"java/util/Arrays", "copyOfRangeByte", "([BII)[B"⟩ : MethodName) (head1 (Jvm.Cond.code (⟨"java/util/Arrays", "copyOfRangeByte", "([BII)[B"⟩ : MethodName) jdk_65_method_133_code 5 (some (.array .byte)) :: ws) ({ frames := 1, cells := 1, slots := 11, locals := 18 } : Room)) (fun aA uU => aA = #[(.ref vb), (.int (0 : Int32)), (.int (11 : Int32))] ∧ Z.Warmed39 uU.vm ∧ uU.heap = h0) (fun _ _ _ _ _ => True) (fun _ uU oO uU' => ∃ vV lL, oO = .returned vV ∧ Q_rmCrbt11 Z vb g h0 n0 vV uU'.heap lL ∧ FrameEnd uU oO uU' lL ({ frames := 1, cells := 1, slots := 11, locals := 18 } : Room).cells ({ frames := 1, cells := 1, slots := 11, locals := 18 } : Room).slots) := by
  refine MetFree.of_bodySF (plainFor_of_name pn_Arrays) hisR ?_
  intro p e s m args below meth c s₁ Bd hml0 hP hK
  obtain ⟨rfl, hZ, hh⟩ := hP
  have hx := Bd.exec
  have hby := Bd.bytes
  have hml : c.maxLocals = 5 := hml0
  have hown : s.vm.findClass "java/util/Arrays" = some m.cls := findClass_of_methodNamed Bd.named
  have hnm := (name_of_methodNamed Bd.named Bd.method).1
  have X0 : Stand p l e ({ frames := 1, cells := 1, slots := 11, locals := 18 } : Room) s m #[(.ref vb), (.int (0 : Int32)), (.int (11 : Int32))] below meth c s₁ [] 0 0 := Stand.of_body Bd
  have e0 : s₁.heap = h0 := by rw [← hh, Bd.state]; rfl
  have N0 := Fr.nil n0
  have lV : @LT.lt Nat _ vb h0.size := PV.lt
  refine oEnter (oCast (ef_rmCrbt11 m vb (0 : Int32) (11 : Int32) ) ?_)
  show oGl p e below (s₁.setTop (mkF m 0 #[.val (.ref vb), .val (.int (0 : Int32)), .val (.int (11 : Int32)), .unset, .unset] [])) _
  refine siloadN X0 hx (hb hby d27_0) rfl rfl (pc' := 1) ?_
  refine siloadN X0 hx (hb hby d27_1) rfl rfl (pc' := 2) ?_
  have hz1 : n0 ≤ h0.size := by omega
  obtain ⟨_, _, ⟨T1, L1, k1, n1⟩, -, X1, ⟨Lc1, hQ1, l1, y1, z1⟩, st1⟩ := Jvm.LawKit.callS X0 hx (y := (⟨"java/util/Arrays", "checkLength", "(II)V"⟩ : MethodName)) hown (mvT hZ (hw _ (List.mem_of_getElem? (i := 165) rfl))) (mvT hZ (hw _ (List.mem_of_getElem? (i := 166) rfl))) (mvT hZ (hw _ (List.mem_of_getElem? (i := 160) rfl))) (mvT hZ (hw _ (List.mem_of_getElem? (i := 167) rfl))) (by decide) (backOf (W := 0) (rmChkt11 l Z a0 hw []  h0 n0 hz1 ) hZ (hw _ (List.mem_of_getElem? (i := 167) rfl)) (hw _ (List.mem_of_getElem? (i := 160) rfl)) (by decide) (by decide)) (g := (mkF m 2 #[.val (.ref vb), .val (.int (0 : Int32)), .val (.int (11 : Int32)), .unset, .unset] [(.int (11 : Int32)), (.int (0 : Int32))])) rfl (by rw [hml]; rfl) (argsL := [(.int (0 : Int32)), (.int (11 : Int32))]) (rest := []) (lenOf pd_7 rfl) rfl (by show 2 * 0 + _ ≤ _; exact Nat.le_of_eq rfl) (hb hby d27_2) (fun _ _ => ⟨rfl, e0, (by decide : 0 + 0 ≤ _), (by decide : 0 + 0 ≤ _)⟩)
  dsimp only [Pt.U, Pt.locs, Pt.cells, Pt.slots] at X1 l1 y1 z1 st1 hQ1
  subst l1 y1 z1
  obtain ⟨rfl, N1q, eh1⟩ := hQ1
  have N1 := Fr.app N0 N1q
  refine oOn st1 ?_
  show oGl p e below (T1.setTop (mkF m 5 #[.val (.ref vb), .val (.int (0 : Int32)), .val (.int (11 : Int32)), .unset, .unset] [])) _
  refine siloadN X1 hx (hb hby d27_5) rfl rfl (pc' := 6) ?_
  refine siloadN X1 hx (hb hby d27_6) rfl rfl (pc' := 7) ?_
  refine sisub X1 hx (hb hby d27_7) rfl (by decide) (z := (11 : Int32)) (pc' := 8) ?_
  refine sistoreN X1 hx (hb hby d27_8) rfl rfl (l' := #[.val (.ref vb), .val (.int (0 : Int32)), .val (.int (11 : Int32)), .val (.int (11 : Int32)), .unset]) (pc' := 9) ?_
  refine siloadN X1 hx (hb hby d27_9) rfl rfl (pc' := 10) ?_
  obtain ⟨T2, h2, k2, X2, e2, E2, A2, st2⟩ := newP X1 hx hZ (hw _ (List.mem_of_getElem? (i := 7) rfl)) eh1 (g := (mkF m 10 #[.val (.ref vb), .val (.int (0 : Int32)), .val (.int (11 : Int32)), .val (.int (11 : Int32)), .unset] [(.int (11 : Int32))])) rfl (hb hby d27_10) rfl (by decide) (cap := 11) (by decide) (by decide) (by decide) (by decide)
  obtain ⟨a2, g2⟩ : ∃ z, z = h0.size := ⟨_, rfl⟩
  rw [← g2] at A2 st2
  refine oOn st2 ?_
  have z3 : h0.size ≤ h2.size := E2.1
  have lt2 : a2 < h2.size := A2.lt
  have V2 : oAI Z h2 a2 .byte 11 (fun _ => 0) := oAI.new A2 rfl
  show oGl p e below (T2.setTop (mkF m 12 #[.val (.ref vb), .val (.int (0 : Int32)), .val (.int (11 : Int32)), .val (.int (11 : Int32)), .unset] [(.ref a2)])) _
  refine sastore X2 hx (hb hby d27_12) rfl rfl rfl (l' := #[.val (.ref vb), .val (.int (0 : Int32)), .val (.int (11 : Int32)), .val (.int (11 : Int32)), .val (.ref a2)]) (pc' := 14) ?_
  refine saloadN X2 hx (hb hby d27_14) rfl rfl rfl (pc' := 15) ?_
  refine siloadN X2 hx (hb hby d27_15) rfl rfl (pc' := 16) ?_
  refine saload X2 hx (hb hby d27_16) rfl rfl rfl (pc' := 18) ?_
  refine siconst X2 hx (hb hby d27_18) rfl rfl (z := 0) (pc' := 19) ?_
  refine saloadN X2 hx (hb hby d27_19) rfl rfl rfl (pc' := 20) ?_
  have f4 := (PV.ext E2)
  refine oOn (f4.len X2 hx hZ e2 (g := (mkF m 20 #[.val (.ref vb), .val (.int (0 : Int32)), .val (.int (11 : Int32)), .val (.int (11 : Int32)), .val (.ref a2)] [(.ref vb), (.int (0 : Int32)), (.ref a2), (.int (0 : Int32)), (.ref vb)])) rfl rfl (hb hby d27_20)) ?_
  show oGl p e below (T2.setTop (mkF m 21 #[.val (.ref vb), .val (.int (0 : Int32)), .val (.int (11 : Int32)), .val (.int (11 : Int32)), .val (.ref a2)] [(.int (16 : Int32)), (.int (0 : Int32)), (.ref a2), (.int (0 : Int32)), (.ref vb)])) _
  refine siloadN X2 hx (hb hby d27_21) rfl rfl (pc' := 22) ?_
  refine sisub X2 hx (hb hby d27_22) rfl (by decide) (z := (16 : Int32)) (pc' := 23) ?_
  refine siloadN X2 hx (hb hby d27_23) rfl rfl (pc' := 24) ?_
  have hz5 : n0 ≤ h2.size := by omega
  obtain ⟨_, _, ⟨T5, L5, k5, n5⟩, -, X5, ⟨Lc5, hQ5, l5, y5, z5⟩, st5⟩ := Jvm.LawKit.callS X2 hx (y := (⟨"java/lang/Math", "min", "(II)I"⟩ : MethodName)) hown (mvT hZ (hw _ (List.mem_of_getElem? (i := 168) rfl))) (mvT hZ (hw _ (List.mem_of_getElem? (i := 169) rfl))) (mvT hZ (hw _ (List.mem_of_getElem? (i := 170) rfl))) (mvT hZ (hw _ (List.mem_of_getElem? (i := 171) rfl))) (by decide) (backOf (W := 4) (rmMint11 l Z a0 hw []  h2 n0 hz5 ) hZ (hw _ (List.mem_of_getElem? (i := 171) rfl)) (hw _ (List.mem_of_getElem? (i := 170) rfl)) (by decide) (by decide)) (g := (mkF m 24 #[.val (.ref vb), .val (.int (0 : Int32)), .val (.int (11 : Int32)), .val (.int (11 : Int32)), .val (.ref a2)] [(.int (11 : Int32)), (.int (16 : Int32)), (.int (0 : Int32)), (.ref a2), (.int (0 : Int32)), (.ref vb)])) rfl (by rw [hml]; rfl) (argsL := [(.int (16 : Int32)), (.int (11 : Int32))]) (rest := [(.int (0 : Int32)), (.ref a2), (.int (0 : Int32)), (.ref vb)]) (lenOf pd_8 rfl) rfl (by show 2 * 0 + _ ≤ _; exact Nat.le_of_eq rfl) (hb hby d27_24) (fun _ _ => ⟨rfl, e2, (by decide : 1 + 0 ≤ _), (by decide : 11 + 0 ≤ _)⟩)
  dsimp only [Pt.U, Pt.locs, Pt.cells, Pt.slots] at X5 l5 y5 z5 st5 hQ5
  subst l5 y5 z5
  obtain ⟨rfl, N5q, eh5⟩ := hQ5
  have N5 := Fr.app N1 N5q
  refine oOn st5 ?_
  show oGl p e below (T5.setTop (mkF m 27 #[.val (.ref vb), .val (.int (0 : Int32)), .val (.int (11 : Int32)), .val (.int (11 : Int32)), .val (.ref a2)] [(.int (11 : Int32)), (.int (0 : Int32)), (.ref a2), (.int (0 : Int32)), (.ref vb)])) _
  obtain ⟨T6, h6, L6, X6, e6, N6, K6, V6, st6⟩ := oCp X5 hx hZ hown (hw _ (List.mem_of_getElem? (i := 172) rfl)) (hw _ (List.mem_of_getElem? (i := 118) rfl)) (hw _ (List.mem_of_getElem? (i := 116) rfl)) (hw _ (List.mem_of_getElem? (i := 117) rfl)) eh5 f4 V2 Fg oFit0 (by decide) (by decide) (by decide) (by decide) (by decide) N5 (by omega) (gf := (mkF m 27 #[.val (.ref vb), .val (.int (0 : Int32)), .val (.int (11 : Int32)), .val (.int (11 : Int32)), .val (.ref a2)] [(.int (11 : Int32)), (.int (0 : Int32)), (.ref a2), (.int (0 : Int32)), (.ref vb)])) rfl (by rw [hml]; rfl) (rest := []) rfl (hb hby d27_27) (by decide) (W := 0) (by show 2 * 0 + _ ≤ _; exact Nat.le_of_eq rfl) (by decide)
  refine oOn st6 ?_
  have z7 : h2.size ≤ h6.size := K6.1
  have Vc6 : oAI Z h6 a2 .byte 11 (oCpF 0 11 (fun i => g (0 + i)) (fun _ => 0)) := V6
  show oGl p e below (T6.setTop (mkF m 30 #[.val (.ref vb), .val (.int (0 : Int32)), .val (.int (11 : Int32)), .val (.int (11 : Int32)), .val (.ref a2)] [])) _
  refine saload X6 hx (hb hby d27_30) rfl rfl rfl (pc' := 32) ?_
  have kp8 : Keep h0 h6 [a2] := (((Keep.refl h0 [a2]).ext E2).trans K6 (allS (Or.inl (List.mem_of_getElem? (i := 0) rfl)) all0))
  refine oRetR X6 hx Bd.notSynchronized Bd.returns rfl rfl (hb hby d27_32) (by decide) (by decide) ?_
  show Q_rmCrbt11 Z vb g h0 n0 _ T6.heap _
  rw [e6]
  exact ⟨a2, rfl, N6, oKeepN kp8 (by omega), by omega, Vc6⟩
theorem d26_0 : decode jdk_65_method_132_code 0 = .ok (.iload_n 1, 1) := by decide +kernel
theorem d26_1 : decode jdk_65_method_132_code 1 = .ok (.ifCond .ne 9, 3) := by decide +kernel
theorem d26_4 : decode jdk_65_method_132_code 4 = .ok (.iload_n 2, 1) := by decide +kernel
theorem d26_5 : decode jdk_65_method_132_code 5 = .ok (.aload_n 0, 1) := by decide +kernel
theorem d26_6 : decode jdk_65_method_132_code 6 = .ok (.arraylength, 1) := by decide +kernel
theorem d26_7 : decode jdk_65_method_132_code 7 = .ok (.if_icmp .eq 10, 3) := by decide +kernel
theorem d26_10 : decode jdk_65_method_132_code 10 = .ok (.aload_n 0, 1) := by decide +kernel
theorem d26_11 : decode jdk_65_method_132_code 11 = .ok (.iload_n 1, 1) := by decide +kernel
theorem d26_12 : decode jdk_65_method_132_code 12 = .ok (.iload_n 2, 1) := by decide +kernel
theorem d26_13 : decode jdk_65_method_132_code 13 = .ok (.invokestatic 339, 3) := by decide +kernel
theorem pd_9 : parseMethodDescriptor "([BII)[B" = some ⟨[(.array .byte), .int, .int], some (.array .byte)⟩ := by decide +kernel
theorem d26_16 : decode jdk_65_method_132_code 16 = .ok (.areturn, 1) := by decide +kernel
theorem ef_rmCort11 (m : MethodId) (x0 : Nat) (x1 : Int32) (x2 : Int32)  : entryFrame m #[(.ref x0), (.int x1), (.int x2)] 3 = mkF m 0 #[.val (.ref x0), .val (.int x1), .val (.int x2)] [] := by first | (simp [entryFrame, mkF, argsToLocals, Value.category, maxLocals]; done) | rfl
def Q_rmCort11 (Z : State) (vb : Nat) (g : Nat → Int32) (h0 : Heap) (n0 : Nat) (vv : Option Value) (h : Heap) (L : List Loc) : Prop := ∃ d : Nat, vv = some (.ref d) ∧ Fr n0 L ∧ Keep h0 h [] ∧ h0.size ≤ d ∧ oAI Z h d .byte 11 (oCpF 0 11 (fun i => g (0 + i)) (fun _ => 0))
set_option maxRecDepth 65536 in
set_option maxHeartbeats 40000000 in
theorem rmCort11 (l : Launch) (Z : State) (a0 : Array Value) (hw : ∀ d ∈ tables_1, d.before a0 Z = true) (ws : List Jvm.Cond) (vb : Nat) (g : Nat → Int32) (h0 : Heap) (n0 : Nat) (Z0 : n0 ≤ h0.size) (PV : oAI Z h0 vb .byte 16 g) (Fg : oFit 16 g) :
    MetFree l (⟨"java/util/Arrays", "copyOfRange", "([BII)[B"⟩ : MethodName) (head1 (Jvm.Cond.code (⟨"java/util/Arrays", "copyOfRange", "([BII)[B"⟩ : MethodName) jdk_65_method_132_code 3 (some (.array .byte)) :: ws) ({ frames := 2, cells := 1, slots := 11, locals := 34 } : Room)) (fun aA uU => aA = #[(.ref vb), (.int (0 : Int32)), (.int (11 : Int32))] ∧ Z.Warmed39 uU.vm ∧ uU.heap = h0) (fun _ _ _ _ _ => True) (fun _ uU oO uU' => ∃ vV lL, oO = .returned vV ∧ Q_rmCort11 Z vb g h0 n0 vV uU'.heap lL ∧ FrameEnd uU oO uU' lL ({ frames := 2, cells := 1, slots := 11, locals := 34 } : Room).cells ({ frames := 2, cells := 1, slots := 11, locals := 34 } : Room).slots) := by
  refine MetFree.of_bodySF (plainFor_of_name pn_Arrays) hisR ?_
  intro p e s m args below meth c s₁ Bd hml0 hP hK
  obtain ⟨rfl, hZ, hh⟩ := hP
  have hx := Bd.exec
  have hby := Bd.bytes
  have hml : c.maxLocals = 3 := hml0
  have hown : s.vm.findClass "java/util/Arrays" = some m.cls := findClass_of_methodNamed Bd.named
  have hnm := (name_of_methodNamed Bd.named Bd.method).1
  have X0 : Stand p l e ({ frames := 2, cells := 1, slots := 11, locals := 34 } : Room) s m #[(.ref vb), (.int (0 : Int32)), (.int (11 : Int32))] below meth c s₁ [] 0 0 := Stand.of_body Bd
  have e0 : s₁.heap = h0 := by rw [← hh, Bd.state]; rfl
  have N0 := Fr.nil n0
  have lV : @LT.lt Nat _ vb h0.size := PV.lt
  refine oEnter (oCast (ef_rmCort11 m vb (0 : Int32) (11 : Int32) ) ?_)
  show oGl p e below (s₁.setTop (mkF m 0 #[.val (.ref vb), .val (.int (0 : Int32)), .val (.int (11 : Int32))] [])) _
  refine siloadN X0 hx (hb hby d26_0) rfl rfl (pc' := 1) ?_
  refine sifN X0 hx (hb hby d26_1) rfl (teq (by decide : (0 : Int32) = (0 : Int32))).2 (pc' := 4) ?_
  refine siloadN X0 hx (hb hby d26_4) rfl rfl (pc' := 5) ?_
  refine saloadN X0 hx (hb hby d26_5) rfl rfl rfl (pc' := 6) ?_
  refine oOn (PV.len X0 hx hZ e0 (g := (mkF m 6 #[.val (.ref vb), .val (.int (0 : Int32)), .val (.int (11 : Int32))] [(.ref vb), (.int (11 : Int32))])) rfl rfl (hb hby d26_6)) ?_
  show oGl p e below (s₁.setTop (mkF m 7 #[.val (.ref vb), .val (.int (0 : Int32)), .val (.int (11 : Int32))] [(.int (16 : Int32)), (.int (11 : Int32))])) _
  refine sicN X0 hx (hb hby d26_7) rfl (feq (by decide : ¬ ((11 : Int32) = (16 : Int32)))).1 (pc' := 10) ?_
  refine saloadN X0 hx (hb hby d26_10) rfl rfl rfl (pc' := 11) ?_
  refine siloadN X0 hx (hb hby d26_11) rfl rfl (pc' := 12) ?_
  refine siloadN X0 hx (hb hby d26_12) rfl rfl (pc' := 13) ?_
  have hz1 : n0 ≤ h0.size := by omega
  obtain ⟨_, _, ⟨T1, L1, k1, n1⟩, -, X1, ⟨Lc1, hQ1, l1, y1, z1⟩, st1⟩ := Jvm.LawKit.callS X0 hx (y := (⟨"java/util/Arrays", "copyOfRangeByte", "([BII)[B"⟩ : MethodName)) hown (mvT hZ (hw _ (List.mem_of_getElem? (i := 162) rfl))) (mvT hZ (hw _ (List.mem_of_getElem? (i := 163) rfl))) (mvT hZ (hw _ (List.mem_of_getElem? (i := 160) rfl))) (mvT hZ (hw _ (List.mem_of_getElem? (i := 164) rfl))) (by decide) (backOf (W := 0) (rmCrbt11 l Z a0 hw [] vb g h0 n0 hz1 PV Fg) hZ (hw _ (List.mem_of_getElem? (i := 164) rfl)) (hw _ (List.mem_of_getElem? (i := 160) rfl)) (by decide) (by decide)) (g := (mkF m 13 #[.val (.ref vb), .val (.int (0 : Int32)), .val (.int (11 : Int32))] [(.int (11 : Int32)), (.int (0 : Int32)), (.ref vb)])) rfl (by rw [hml]; rfl) (argsL := [(.ref vb), (.int (0 : Int32)), (.int (11 : Int32))]) (rest := []) (lenOf pd_9 rfl) rfl (by show 2 * 0 + _ ≤ _; exact Nat.le_of_eq rfl) (hb hby d26_13) (fun _ _ => ⟨rfl, e0, (by decide : 0 + 1 ≤ _), (by decide : 0 + 11 ≤ _)⟩)
  dsimp only [Pt.U, Pt.locs, Pt.cells, Pt.slots] at X1 l1 y1 z1 st1 hQ1
  subst l1 y1 z1
  obtain ⟨d1, rfl, N1q, K1, zd1, Vd1⟩ := hQ1
  have N1 := Fr.app N0 N1q
  have z2 : h0.size ≤ T1.heap.size := K1.1
  refine oOn st1 ?_
  have ld1 : @LT.lt Nat _ d1 T1.heap.size := Vd1.lt
  show oGl p e below (T1.setTop (mkF m 16 #[.val (.ref vb), .val (.int (0 : Int32)), .val (.int (11 : Int32))] [(.ref d1)])) _
  have kp3 : Keep h0 T1.heap [] := ((Keep.refl h0 []).trans K1 all0)
  refine oRetR X1 hx Bd.notSynchronized Bd.returns rfl rfl (hb hby d26_16) (by decide) (by decide) ?_
  show Q_rmCort11 Z vb g h0 n0 _ T1.heap _
  exact ⟨d1, rfl, N1, kp3, by omega, Vd1⟩
theorem d22_0 : decode jdk_68_method_64_code 0 = .ok (.aload_n 0, 1) := by decide +kernel
theorem d22_1 : decode jdk_68_method_64_code 1 = .ok (.getfield 15, 3) := by decide +kernel
theorem d22_4 : decode jdk_68_method_64_code 4 = .ok (.areturn, 1) := by decide +kernel
theorem ef_rmGvt11 (m : MethodId) (x0 : Nat)  : entryFrame m #[(.ref x0)] 1 = mkF m 0 #[.val (.ref x0)] [] := by first | (simp [entryFrame, mkF, argsToLocals, Value.category, maxLocals]; done) | rfl
def Q_rmGvt11 (Z : State) (sb vb : Nat) (h0 : Heap) (n0 : Nat) (vv : Option Value) (h : Heap) (L : List Loc) : Prop := vv = some (.ref vb) ∧ Fr n0 L ∧ h = h0
set_option maxRecDepth 65536 in
set_option maxHeartbeats 40000000 in
theorem rmGvt11 (l : Launch) (Z : State) (a0 : Array Value) (hw : ∀ d ∈ tables_1, d.before a0 Z = true) (ws : List Jvm.Cond) (sb vb : Nat) (h0 : Heap) (n0 : Nat) (Z0 : n0 ≤ h0.size) (E0 : Exa Z h0 sb "java/lang/StringBuilder") (B0 : Fld Z h0 sb "java/lang/AbstractStringBuilder" "value" "[B" (.ref vb)) (B1 : Fld Z h0 sb "java/lang/AbstractStringBuilder" "coder" "B" (.int 0)) (B2 : Fld Z h0 sb "java/lang/AbstractStringBuilder" "count" "I" (.int 11)) :
    MetFree l (⟨"java/lang/AbstractStringBuilder", "getValue", "()[B"⟩ : MethodName) (head1 (Jvm.Cond.code (⟨"java/lang/AbstractStringBuilder", "getValue", "()[B"⟩ : MethodName) jdk_68_method_64_code 1 (some (.array .byte)) :: ws) ({ frames := 0, cells := 0, slots := 0, locals := 0 } : Room)) (fun aA uU => aA = #[(.ref sb)] ∧ Z.Warmed39 uU.vm ∧ uU.heap = h0) (fun _ _ _ _ _ => True) (fun _ uU oO uU' => ∃ vV lL, oO = .returned vV ∧ Q_rmGvt11 Z sb vb h0 n0 vV uU'.heap lL ∧ FrameEnd uU oO uU' lL ({ frames := 0, cells := 0, slots := 0, locals := 0 } : Room).cells ({ frames := 0, cells := 0, slots := 0, locals := 0 } : Room).slots) := by
  refine MetFree.of_bodySF (plainFor_of_name pn_AbstractStringBuilder) hisR ?_
  intro p e s m args below meth c s₁ Bd hml0 hP hK
  obtain ⟨rfl, hZ, hh⟩ := hP
  have hx := Bd.exec
  have hby := Bd.bytes
  have hml : c.maxLocals = 1 := hml0
  have hown : s.vm.findClass "java/lang/AbstractStringBuilder" = some m.cls := findClass_of_methodNamed Bd.named
  have hnm := (name_of_methodNamed Bd.named Bd.method).1
  have X0 : Stand p l e ({ frames := 0, cells := 0, slots := 0, locals := 0 } : Room) s m #[(.ref sb)] below meth c s₁ [] 0 0 := Stand.of_body Bd
  have e0 : s₁.heap = h0 := by rw [← hh, Bd.state]; rfl
  have N0 := Fr.nil n0
  refine oEnter (oCast (ef_rmGvt11 m sb ) ?_)
  show oGl p e below (s₁.setTop (mkF m 0 #[.val (.ref sb)] [])) _
  refine saloadN X0 hx (hb hby d22_0) rfl rfl rfl (pc' := 1) ?_
  obtain ⟨T1, X1, e1, st1⟩ := getF X0 hx hZ hown (host := "") (Or.inl (hw _ (List.mem_of_getElem? (i := 64) rfl))) Via.refl e0 B0 (g := (mkF m 1 #[.val (.ref sb)] [(.ref sb)])) rfl rfl (hb hby d22_1)
  refine oOn st1 ?_
  show oGl p e below (T1.setTop (mkF m 4 #[.val (.ref sb)] [(.ref vb)])) _
  refine oRetR X1 hx Bd.notSynchronized Bd.returns rfl rfl (hb hby d22_4) (by decide) (by decide) ?_
  show Q_rmGvt11 Z sb vb h0 n0 _ T1.heap _
  rw [e1]
  exact ⟨rfl, N0, rfl⟩
theorem d24_0 : decode jdk_68_method_6_code 0 = .ok (.aload_n 0, 1) := by decide +kernel
theorem d24_1 : decode jdk_68_method_6_code 1 = .ok (.getfield 79, 3) := by decide +kernel
theorem d24_4 : decode jdk_68_method_6_code 4 = .ok (.ireturn, 1) := by decide +kernel
theorem ef_rmAlt11 (m : MethodId) (x0 : Nat)  : entryFrame m #[(.ref x0)] 1 = mkF m 0 #[.val (.ref x0)] [] := by first | (simp [entryFrame, mkF, argsToLocals, Value.category, maxLocals]; done) | rfl
def Q_rmAlt11 (Z : State) (sb vb : Nat) (h0 : Heap) (n0 : Nat) (vv : Option Value) (h : Heap) (L : List Loc) : Prop := vv = some (.int 11) ∧ Fr n0 L ∧ h = h0
set_option maxRecDepth 65536 in
set_option maxHeartbeats 40000000 in
theorem rmAlt11 (l : Launch) (Z : State) (a0 : Array Value) (hw : ∀ d ∈ tables_1, d.before a0 Z = true) (ws : List Jvm.Cond) (sb vb : Nat) (h0 : Heap) (n0 : Nat) (Z0 : n0 ≤ h0.size) (E0 : Exa Z h0 sb "java/lang/StringBuilder") (B0 : Fld Z h0 sb "java/lang/AbstractStringBuilder" "value" "[B" (.ref vb)) (B1 : Fld Z h0 sb "java/lang/AbstractStringBuilder" "coder" "B" (.int 0)) (B2 : Fld Z h0 sb "java/lang/AbstractStringBuilder" "count" "I" (.int 11)) :
    MetFree l (⟨"java/lang/AbstractStringBuilder", "length", "()I"⟩ : MethodName) (head1 (Jvm.Cond.code (⟨"java/lang/AbstractStringBuilder", "length", "()I"⟩ : MethodName) jdk_68_method_6_code 1 (some .int) :: ws) ({ frames := 0, cells := 0, slots := 0, locals := 0 } : Room)) (fun aA uU => aA = #[(.ref sb)] ∧ Z.Warmed39 uU.vm ∧ uU.heap = h0) (fun _ _ _ _ _ => True) (fun _ uU oO uU' => ∃ vV lL, oO = .returned vV ∧ Q_rmAlt11 Z sb vb h0 n0 vV uU'.heap lL ∧ FrameEnd uU oO uU' lL ({ frames := 0, cells := 0, slots := 0, locals := 0 } : Room).cells ({ frames := 0, cells := 0, slots := 0, locals := 0 } : Room).slots) := by
  refine MetFree.of_bodySF (plainFor_of_name pn_AbstractStringBuilder) hisR ?_
  intro p e s m args below meth c s₁ Bd hml0 hP hK
  obtain ⟨rfl, hZ, hh⟩ := hP
  have hx := Bd.exec
  have hby := Bd.bytes
  have hml : c.maxLocals = 1 := hml0
  have hown : s.vm.findClass "java/lang/AbstractStringBuilder" = some m.cls := findClass_of_methodNamed Bd.named
  have hnm := (name_of_methodNamed Bd.named Bd.method).1
  have X0 : Stand p l e ({ frames := 0, cells := 0, slots := 0, locals := 0 } : Room) s m #[(.ref sb)] below meth c s₁ [] 0 0 := Stand.of_body Bd
  have e0 : s₁.heap = h0 := by rw [← hh, Bd.state]; rfl
  have N0 := Fr.nil n0
  refine oEnter (oCast (ef_rmAlt11 m sb ) ?_)
  show oGl p e below (s₁.setTop (mkF m 0 #[.val (.ref sb)] [])) _
  refine saloadN X0 hx (hb hby d24_0) rfl rfl rfl (pc' := 1) ?_
  obtain ⟨T1, X1, e1, st1⟩ := getF X0 hx hZ hown (host := "") (Or.inl (hw _ (List.mem_of_getElem? (i := 92) rfl))) Via.refl e0 B2 (g := (mkF m 1 #[.val (.ref sb)] [(.ref sb)])) rfl rfl (hb hby d24_1)
  refine oOn st1 ?_
  show oGl p e below (T1.setTop (mkF m 4 #[.val (.ref sb)] [(.int (11 : Int32))])) _
  refine oRetI X1 hx Bd.notSynchronized Bd.returns (hb hby d24_4) (by decide) (by decide) ?_
  show Q_rmAlt11 Z sb vb h0 n0 _ T1.heap _
  rw [e1]
  exact ⟨rfl, N0, rfl⟩
theorem d25_0 : decode jdk_68_method_68_code 0 = .ok (.getstatic 18, 3) := by decide +kernel
theorem d25_3 : decode jdk_68_method_68_code 3 = .ok (.ifCond .eq 14, 3) := by decide +kernel
theorem d25_6 : decode jdk_68_method_68_code 6 = .ok (.aload_n 0, 1) := by decide +kernel
theorem d25_7 : decode jdk_68_method_68_code 7 = .ok (.getfield 22, 3) := by decide +kernel
theorem d25_10 : decode jdk_68_method_68_code 10 = .ok (.ifCond .ne 7, 3) := by decide +kernel
theorem d25_13 : decode jdk_68_method_68_code 13 = .ok (.iconst 1, 1) := by decide +kernel
theorem d25_14 : decode jdk_68_method_68_code 14 = .ok (.goto 4, 3) := by decide +kernel
theorem d25_18 : decode jdk_68_method_68_code 18 = .ok (.ireturn, 1) := by decide +kernel
theorem ef_rmIlt11 (m : MethodId) (x0 : Nat)  : entryFrame m #[(.ref x0)] 1 = mkF m 0 #[.val (.ref x0)] [] := by first | (simp [entryFrame, mkF, argsToLocals, Value.category, maxLocals]; done) | rfl
def Q_rmIlt11 (Z : State) (sb vb : Nat) (cz : Int32) (h0 : Heap) (n0 : Nat) (vv : Option Value) (h : Heap) (L : List Loc) : Prop := vv = some (.int 1) ∧ Fr n0 L ∧ h = h0
set_option maxRecDepth 65536 in
set_option maxHeartbeats 40000000 in
theorem rmIlt11 (l : Launch) (Z : State) (a0 : Array Value) (hw : ∀ d ∈ tables_1, d.before a0 Z = true) (ws : List Jvm.Cond) (sb vb : Nat) (cz : Int32) (h0 : Heap) (n0 : Nat) (Z0 : n0 ≤ h0.size) (O0 : oOld Z n0 h0) (SCS : Sta Z Z.heap "java/lang/String" "COMPACT_STRINGS" "Z" (.int cz)) (hcz : ¬ cz = (0 : Int32)) (E0 : Exa Z h0 sb "java/lang/StringBuilder") (B0 : Fld Z h0 sb "java/lang/AbstractStringBuilder" "value" "[B" (.ref vb)) (B1 : Fld Z h0 sb "java/lang/AbstractStringBuilder" "coder" "B" (.int 0)) (B2 : Fld Z h0 sb "java/lang/AbstractStringBuilder" "count" "I" (.int 11)) :
    MetFree l (⟨"java/lang/AbstractStringBuilder", "isLatin1", "()Z"⟩ : MethodName) (head1 (Jvm.Cond.code (⟨"java/lang/AbstractStringBuilder", "isLatin1", "()Z"⟩ : MethodName) jdk_68_method_68_code 1 (some .boolean) :: ws) ({ frames := 0, cells := 0, slots := 0, locals := 0 } : Room)) (fun aA uU => aA = #[(.ref sb)] ∧ Z.Warmed39 uU.vm ∧ uU.heap = h0) (fun _ _ _ _ _ => True) (fun _ uU oO uU' => ∃ vV lL, oO = .returned vV ∧ Q_rmIlt11 Z sb vb cz h0 n0 vV uU'.heap lL ∧ FrameEnd uU oO uU' lL ({ frames := 0, cells := 0, slots := 0, locals := 0 } : Room).cells ({ frames := 0, cells := 0, slots := 0, locals := 0 } : Room).slots) := by
  refine MetFree.of_bodySF (plainFor_of_name pn_AbstractStringBuilder) hisR ?_
  intro p e s m args below meth c s₁ Bd hml0 hP hK
  obtain ⟨rfl, hZ, hh⟩ := hP
  have hx := Bd.exec
  have hby := Bd.bytes
  have hml : c.maxLocals = 1 := hml0
  have hown : s.vm.findClass "java/lang/AbstractStringBuilder" = some m.cls := findClass_of_methodNamed Bd.named
  have hnm := (name_of_methodNamed Bd.named Bd.method).1
  have X0 : Stand p l e ({ frames := 0, cells := 0, slots := 0, locals := 0 } : Room) s m #[(.ref sb)] below meth c s₁ [] 0 0 := Stand.of_body Bd
  have e0 : s₁.heap = h0 := by rw [← hh, Bd.state]; rfl
  have N0 := Fr.nil n0
  refine oEnter (oCast (ef_rmIlt11 m sb ) ?_)
  show oGl p e below (s₁.setTop (mkF m 0 #[.val (.ref sb)] [])) _
  obtain ⟨T1, X1, e1, st1⟩ := getS2 X0 hx hZ hown (host := "") (Or.inl (hw _ (List.mem_of_getElem? (i := 63) rfl))) Via.refl e0 (SCS.ext O0.2) (g := (mkF m 0 #[.val (.ref sb)] [])) rfl (hb hby d25_0)
  refine oOn st1 ?_
  show oGl p e below (T1.setTop (mkF m 3 #[.val (.ref sb)] [(.int cz)])) _
  refine sifN X1 hx (hb hby d25_3) rfl (feq (hcz : ¬ (cz = (0 : Int32)))).1 (pc' := 6) ?_
  refine saloadN X1 hx (hb hby d25_6) rfl rfl rfl (pc' := 7) ?_
  obtain ⟨T2, X2, e2, st2⟩ := getF X1 hx hZ hown (host := "") (Or.inl (hw _ (List.mem_of_getElem? (i := 66) rfl))) Via.refl e1 B1 (g := (mkF m 7 #[.val (.ref sb)] [(.ref sb)])) rfl rfl (hb hby d25_7)
  refine oOn st2 ?_
  show oGl p e below (T2.setTop (mkF m 10 #[.val (.ref sb)] [(.int (0 : Int32))])) _
  refine sifN X2 hx (hb hby d25_10) rfl (teq (by decide : (0 : Int32) = (0 : Int32))).2 (pc' := 13) ?_
  refine siconst X2 hx (hb hby d25_13) rfl rfl (z := 1) (pc' := 14) ?_
  refine sgoto X2 hx (hb hby d25_14) (by decide) (by decide)  (pc' := 18) ?_
  refine oRetN (t := .boolean) X2 hx Bd.notSynchronized Bd.returns (by simp) (hb hby d25_18) (by decide) (by decide) ?_
  show Q_rmIlt11 Z sb vb cz h0 n0 _ T2.heap _
  rw [e2]
  exact ⟨rfl, N0, rfl⟩
theorem d23_0 : decode jdk_67_method_93_code 0 = .ok (.aload_n 0, 1) := by decide +kernel
theorem d23_1 : decode jdk_67_method_93_code 1 = .ok (.invokespecial 343, 3) := by decide +kernel
theorem d23_4 : decode jdk_67_method_93_code 4 = .ok (.ireturn, 1) := by decide +kernel
theorem ef_rmBlt11 (m : MethodId) (x0 : Nat)  : entryFrame m #[(.ref x0)] 1 = mkF m 0 #[.val (.ref x0)] [] := by first | (simp [entryFrame, mkF, argsToLocals, Value.category, maxLocals]; done) | rfl
def Q_rmBlt11 (Z : State) (sb vb : Nat) (h0 : Heap) (n0 : Nat) (vv : Option Value) (h : Heap) (L : List Loc) : Prop := vv = some (.int 11) ∧ Fr n0 L ∧ h = h0
set_option maxRecDepth 65536 in
set_option maxHeartbeats 40000000 in
theorem rmBlt11 (l : Launch) (Z : State) (a0 : Array Value) (hw : ∀ d ∈ tables_1, d.before a0 Z = true) (ws : List Jvm.Cond) (sb vb : Nat) (h0 : Heap) (n0 : Nat) (Z0 : n0 ≤ h0.size) (E0 : Exa Z h0 sb "java/lang/StringBuilder") (B0 : Fld Z h0 sb "java/lang/AbstractStringBuilder" "value" "[B" (.ref vb)) (B1 : Fld Z h0 sb "java/lang/AbstractStringBuilder" "coder" "B" (.int 0)) (B2 : Fld Z h0 sb "java/lang/AbstractStringBuilder" "count" "I" (.int 11)) :
    MetFree l (⟨"java/lang/StringBuilder", "length", "()I"⟩ : MethodName) (head1 (Jvm.Cond.code (⟨"java/lang/StringBuilder", "length", "()I"⟩ : MethodName) jdk_67_method_93_code 1 (some .int) :: ws) ({ frames := 1, cells := 0, slots := 0, locals := 12 } : Room)) (fun aA uU => aA = #[(.ref sb)] ∧ Z.Warmed39 uU.vm ∧ uU.heap = h0) (fun _ _ _ _ _ => True) (fun _ uU oO uU' => ∃ vV lL, oO = .returned vV ∧ Q_rmBlt11 Z sb vb h0 n0 vV uU'.heap lL ∧ FrameEnd uU oO uU' lL ({ frames := 1, cells := 0, slots := 0, locals := 12 } : Room).cells ({ frames := 1, cells := 0, slots := 0, locals := 12 } : Room).slots) := by
  refine MetFree.of_bodySF (plainFor_of_name pn_StringBuilder) hisR ?_
  intro p e s m args below meth c s₁ Bd hml0 hP hK
  obtain ⟨rfl, hZ, hh⟩ := hP
  have hx := Bd.exec
  have hby := Bd.bytes
  have hml : c.maxLocals = 1 := hml0
  have hown : s.vm.findClass "java/lang/StringBuilder" = some m.cls := findClass_of_methodNamed Bd.named
  have hnm := (name_of_methodNamed Bd.named Bd.method).1
  have X0 : Stand p l e ({ frames := 1, cells := 0, slots := 0, locals := 12 } : Room) s m #[(.ref sb)] below meth c s₁ [] 0 0 := Stand.of_body Bd
  have e0 : s₁.heap = h0 := by rw [← hh, Bd.state]; rfl
  have N0 := Fr.nil n0
  refine oEnter (oCast (ef_rmBlt11 m sb ) ?_)
  show oGl p e below (s₁.setTop (mkF m 0 #[.val (.ref sb)] [])) _
  refine saloadN X0 hx (hb hby d23_0) rfl rfl rfl (pc' := 1) ?_
  have hz1 : n0 ≤ h0.size := by omega
  obtain ⟨_, _, ⟨T1, L1, k1, n1⟩, -, X1, ⟨Lc1, hQ1, l1, y1, z1⟩, st1⟩ := superBack X0 hx hZ (y := (⟨"java/lang/AbstractStringBuilder", "length", "()I"⟩ : MethodName)) hown (hw _ (List.mem_of_getElem? (i := 151) rfl)) (oSame (hw _ (List.mem_of_getElem? (i := 146) rfl)) (hw _ (List.mem_of_getElem? (i := 97) rfl)) rfl (by decide)) (hw _ (List.mem_of_getElem? (i := 147) rfl)) (hw _ (List.mem_of_getElem? (i := 76) rfl)) (by decide) (backOf (W := 0) (rmAlt11 l Z a0 hw [] sb vb h0 n0 hz1 E0 B0 B1 B2) hZ (hw _ (List.mem_of_getElem? (i := 152) rfl)) (hw _ (List.mem_of_getElem? (i := 60) rfl)) (by decide) (by decide)) e0 (Ins.self E0) (g := (mkF m 1 #[.val (.ref sb)] [(.ref sb)])) rfl (by rw [hml]; rfl) (hw _ (List.mem_of_getElem? (i := 152) rfl)) (argsL := []) (rest := []) (lenOf pd_4 rfl) rfl (by show 2 * 0 + _ ≤ _; exact Nat.le_of_eq rfl) (hb hby d23_1) (fun _ _ => ⟨rfl, e0, (by decide : 0 + 0 ≤ _), (by decide : 0 + 0 ≤ _)⟩)
  dsimp only [Pt.U, Pt.locs, Pt.cells, Pt.slots] at X1 l1 y1 z1 st1 hQ1
  subst l1 y1 z1
  obtain ⟨rfl, N1q, eh1⟩ := hQ1
  have N1 := Fr.app N0 N1q
  refine oSt st1 ?_
  show oGl p e below (T1.setTop (mkF m 4 #[.val (.ref sb)] [(.int (11 : Int32))])) _
  refine oRetI X1 hx Bd.notSynchronized Bd.returns (hb hby d23_4) (by decide) (by decide) ?_
  show Q_rmBlt11 Z sb vb h0 n0 _ T1.heap _
  rw [eh1]
  exact ⟨rfl, N1, rfl⟩
theorem d21_0 : decode jdk_42_method_150_code 0 = .ok (.aload_n 0, 1) := by decide +kernel
theorem d21_1 : decode jdk_42_method_150_code 1 = .ok (.invokespecial 1, 3) := by decide +kernel
theorem d21_4 : decode jdk_42_method_150_code 4 = .ok (.aload_n 1, 1) := by decide +kernel
theorem d21_5 : decode jdk_42_method_150_code 5 = .ok (.invokevirtual 552, 3) := by decide +kernel
theorem pd_10 : parseMethodDescriptor "()[B" = some ⟨[], some (.array .byte)⟩ := by decide +kernel
theorem d21_8 : decode jdk_42_method_150_code 8 = .ok (.astore_n 3, 1) := by decide +kernel
theorem d21_9 : decode jdk_42_method_150_code 9 = .ok (.aload_n 1, 1) := by decide +kernel
theorem d21_10 : decode jdk_42_method_150_code 10 = .ok (.invokevirtual 549, 3) := by decide +kernel
theorem d21_13 : decode jdk_42_method_150_code 13 = .ok (.istore 4, 2) := by decide +kernel
theorem d21_15 : decode jdk_42_method_150_code 15 = .ok (.aload_n 1, 1) := by decide +kernel
theorem d21_16 : decode jdk_42_method_150_code 16 = .ok (.invokevirtual 1047, 3) := by decide +kernel
theorem pd_11 : parseMethodDescriptor "()Z" = some ⟨[], some .boolean⟩ := by decide +kernel
theorem d21_19 : decode jdk_42_method_150_code 19 = .ok (.ifCond .eq 22, 3) := by decide +kernel
theorem d21_22 : decode jdk_42_method_150_code 22 = .ok (.aload_n 0, 1) := by decide +kernel
theorem d21_23 : decode jdk_42_method_150_code 23 = .ok (.iconst 0, 1) := by decide +kernel
theorem d21_24 : decode jdk_42_method_150_code 24 = .ok (.putfield 15, 3) := by decide +kernel
theorem d21_27 : decode jdk_42_method_150_code 27 = .ok (.aload_n 0, 1) := by decide +kernel
theorem d21_28 : decode jdk_42_method_150_code 28 = .ok (.aload_n 3, 1) := by decide +kernel
theorem d21_29 : decode jdk_42_method_150_code 29 = .ok (.iconst 0, 1) := by decide +kernel
theorem d21_30 : decode jdk_42_method_150_code 30 = .ok (.iload 4, 2) := by decide +kernel
theorem d21_32 : decode jdk_42_method_150_code 32 = .ok (.invokestatic 54, 3) := by decide +kernel
theorem d21_35 : decode jdk_42_method_150_code 35 = .ok (.putfield 9, 3) := by decide +kernel
theorem d21_38 : decode jdk_42_method_150_code 38 = .ok (.goto 59, 3) := by decide +kernel
theorem d21_97 : decode jdk_42_method_150_code 97 = .ok (.return_, 1) := by decide +kernel
theorem ef_rmSit11 (m : MethodId) (x0 : Nat) (x1 : Nat)  : entryFrame m #[(.ref x0), (.ref x1), .null] 5 = mkF m 0 #[.val (.ref x0), .val (.ref x1), .val .null, .unset, .unset] [] := by first | (simp [entryFrame, mkF, argsToLocals, Value.category, maxLocals]; done) | rfl
def Q_rmSit11 (Z : State) (x sb vb : Nat) (g : Nat → Int32) (cz : Int32) (h0 : Heap) (n0 : Nat) (vv : Option Value) (h : Heap) (L : List Loc) : Prop := ∃ d : Nat, vv = none ∧ Fr n0 L ∧ Keep h0 h [x] ∧ h0.size ≤ d ∧ Exa Z h x "java/lang/String" ∧ Fld Z h x "java/lang/String" "value" "[B" (.ref d) ∧ Fld Z h x "java/lang/String" "coder" "B" (.int 0) ∧ oAI Z h d .byte 11 (oCpF 0 11 (fun i => g (0 + i)) (fun _ => 0))
set_option maxRecDepth 65536 in
set_option maxHeartbeats 40000000 in
theorem rmSit11 (l : Launch) (Z : State) (a0 : Array Value) (hw : ∀ d ∈ tables_1, d.before a0 Z = true) (ws : List Jvm.Cond) (x sb vb : Nat) (g : Nat → Int32) (cz : Int32) (h0 : Heap) (n0 : Nat) (Z0 : n0 ≤ h0.size) (O0 : oOld Z n0 h0) (SCS : Sta Z Z.heap "java/lang/String" "COMPACT_STRINGS" "Z" (.int cz)) (hcz : ¬ cz = (0 : Int32)) (Q0 : Exa Z h0 x "java/lang/String") (Q1 : Fld Z h0 x "java/lang/String" "value" "[B" .null) (Q2 : Fld Z h0 x "java/lang/String" "coder" "B" (.int 0)) (gx : n0 ≤ x) (nxs : x ≠ sb) (E0 : Exa Z h0 sb "java/lang/StringBuilder") (B0 : Fld Z h0 sb "java/lang/AbstractStringBuilder" "value" "[B" (.ref vb)) (B1 : Fld Z h0 sb "java/lang/AbstractStringBuilder" "coder" "B" (.int 0)) (B2 : Fld Z h0 sb "java/lang/AbstractStringBuilder" "count" "I" (.int 11)) (PV : oAI Z h0 vb .byte 16 g) (Fg : oFit 16 g) :
    MetFree l (⟨"java/lang/String", "<init>", "(Ljava/lang/AbstractStringBuilder;Ljava/lang/Void;)V"⟩ : MethodName) (head1 (Jvm.Cond.code (⟨"java/lang/String", "<init>", "(Ljava/lang/AbstractStringBuilder;Ljava/lang/Void;)V"⟩ : MethodName) jdk_42_method_150_code 5 (none : Option FieldType) :: ws) ({ frames := 3, cells := 1, slots := 11, locals := 49 } : Room)) (fun aA uU => aA = #[(.ref x), (.ref sb), .null] ∧ Z.Warmed39 uU.vm ∧ uU.heap = h0) (fun _ _ _ _ _ => True) (fun _ uU oO uU' => ∃ vV lL, oO = .returned vV ∧ Q_rmSit11 Z x sb vb g cz h0 n0 vV uU'.heap lL ∧ FrameEnd uU oO uU' lL ({ frames := 3, cells := 1, slots := 11, locals := 49 } : Room).cells ({ frames := 3, cells := 1, slots := 11, locals := 49 } : Room).slots) := by
  refine MetFree.of_bodySF (plainFor_of_name pn_String) hisR ?_
  intro p e s m args below meth c s₁ Bd hml0 hP hK
  obtain ⟨rfl, hZ, hh⟩ := hP
  have hx := Bd.exec
  have hby := Bd.bytes
  have hml : c.maxLocals = 5 := hml0
  have hown : s.vm.findClass "java/lang/String" = some m.cls := findClass_of_methodNamed Bd.named
  have hnm := (name_of_methodNamed Bd.named Bd.method).1
  have X0 : Stand p l e ({ frames := 3, cells := 1, slots := 11, locals := 49 } : Room) s m #[(.ref x), (.ref sb), .null] below meth c s₁ [] 0 0 := Stand.of_body Bd
  have e0 : s₁.heap = h0 := by rw [← hh, Bd.state]; rfl
  have N0 := Fr.nil n0
  have lX : @LT.lt Nat _ x h0.size := Q0.lt
  have lS : @LT.lt Nat _ sb h0.size := E0.lt
  have lV : @LT.lt Nat _ vb h0.size := PV.lt
  have nx9 : @Ne Nat x sb := nxs
  have nxv : @Ne Nat x vb := oNeO Q0 (hw _ (List.mem_of_getElem? (i := 6) rfl)) PV
  refine oEnter (oCast (ef_rmSit11 m x sb ) ?_)
  show oGl p e below (s₁.setTop (mkF m 0 #[.val (.ref x), .val (.ref sb), .val .null, .unset, .unset] [])) _
  refine saloadN X0 hx (hb hby d21_0) rfl rfl rfl (pc' := 1) ?_
  obtain ⟨T1, X1, e1, st1⟩ := initO X0 hx hZ hown (hw _ (List.mem_of_getElem? (i := 139) rfl)) (hw _ (List.mem_of_getElem? (i := 29) rfl)) (hw _ (List.mem_of_getElem? (i := 30) rfl)) e0 (g := (mkF m 1 #[.val (.ref x), .val (.ref sb), .val .null, .unset, .unset] [(.ref x)])) rfl (by rw [hml]; rfl) rfl (hb hby d21_1) (by decide) (W := 0) (by show 2 * 0 + _ ≤ _; exact Nat.le_of_eq rfl) (by decide)
  refine oOn st1 ?_
  show oGl p e below (T1.setTop (mkF m 4 #[.val (.ref x), .val (.ref sb), .val .null, .unset, .unset] [])) _
  refine saloadN X1 hx (hb hby d21_4) rfl rfl rfl (pc' := 5) ?_
  have hz2 : n0 ≤ h0.size := by omega
  obtain ⟨cq2, kq2, q2a, q2b, q2c⟩ := isOf hZ e1 E0
  obtain ⟨_, _, ⟨T2, L2, k2, n2⟩, -, X2, ⟨Lc2, hQ2, l2, y2, z2⟩, st2⟩ := X1.virtualBack hx (y := (⟨"java/lang/AbstractStringBuilder", "getValue", "()[B"⟩ : MethodName)) (z := (⟨"java/lang/AbstractStringBuilder", "getValue", "()[B"⟩ : MethodName)) hown (mvT hZ (hw _ (List.mem_of_getElem? (i := 140) rfl))) (mvT hZ (hw _ (List.mem_of_getElem? (i := 141) rfl))) (notFace_of_selects (args := #[]) (mvT hZ (hw _ (List.mem_of_getElem? (i := 143) rfl)))) (mvT hZ (hw _ (List.mem_of_getElem? (i := 143) rfl))) (mvT hZ (hw _ (List.mem_of_getElem? (i := 142) rfl))) (by decide) (backOf (W := 0) (rmGvt11 l Z a0 hw [] sb vb h0 n0 hz2 E0 B0 B1 B2) hZ (hw _ (List.mem_of_getElem? (i := 144) rfl)) (hw _ (List.mem_of_getElem? (i := 60) rfl)) (by decide) (by decide)) q2a q2c (g := (mkF m 5 #[.val (.ref x), .val (.ref sb), .val .null, .unset, .unset] [(.ref sb)])) rfl (by rw [hml]; rfl) (Steps.refl _) (argsL := []) (rest := []) (lenOf pd_10 rfl) rfl (by show 2 * 0 + _ ≤ _; exact Nat.le_of_eq rfl) (hb hby d21_5) (fun _ _ => ⟨rfl, e1, (by decide : 0 + 0 ≤ _), (by decide : 0 + 0 ≤ _)⟩)
  dsimp only [Pt.U, Pt.locs, Pt.cells, Pt.slots] at X2 l2 y2 z2 st2 hQ2
  subst l2 y2 z2
  obtain ⟨rfl, N2q, eh2⟩ := hQ2
  have N2 := Fr.app N0 N2q
  refine oSt st2 ?_
  show oGl p e below (T2.setTop (mkF m 8 #[.val (.ref x), .val (.ref sb), .val .null, .unset, .unset] [(.ref vb)])) _
  refine sastoreN X2 hx (hb hby d21_8) rfl rfl rfl (l' := #[.val (.ref x), .val (.ref sb), .val .null, .val (.ref vb), .unset]) (pc' := 9) ?_
  refine saloadN X2 hx (hb hby d21_9) rfl rfl rfl (pc' := 10) ?_
  have hz3 : n0 ≤ h0.size := by omega
  obtain ⟨cq3, kq3, q3a, q3b, q3c⟩ := isOf hZ eh2 E0
  obtain ⟨_, _, ⟨T3, L3, k3, n3⟩, -, X3, ⟨Lc3, hQ3, l3, y3, z3⟩, st3⟩ := X2.virtualBack hx (y := (⟨"java/lang/AbstractStringBuilder", "length", "()I"⟩ : MethodName)) (z := (⟨"java/lang/StringBuilder", "length", "()I"⟩ : MethodName)) hown (mvT hZ (hw _ (List.mem_of_getElem? (i := 145) rfl))) (mvT hZ (hw _ (List.mem_of_getElem? (i := 146) rfl))) (oNF (as := #[]) (mvT hZ (hw _ (List.mem_of_getElem? (i := 97) rfl))) (y := (⟨"java/lang/AbstractStringBuilder", "length", "()I"⟩ : MethodName)) rfl) (mvT hZ (hw _ (List.mem_of_getElem? (i := 148) rfl))) (mvT hZ (hw _ (List.mem_of_getElem? (i := 149) rfl))) (by decide) (backOf (W := 0) (rmBlt11 l Z a0 hw [] sb vb h0 n0 hz3 E0 B0 B1 B2) hZ (hw _ (List.mem_of_getElem? (i := 150) rfl)) (hw _ (List.mem_of_getElem? (i := 52) rfl)) (by decide) (by decide)) q3a q3c (g := (mkF m 10 #[.val (.ref x), .val (.ref sb), .val .null, .val (.ref vb), .unset] [(.ref sb)])) rfl (by rw [hml]; rfl) (Steps.refl _) (argsL := []) (rest := []) (lenOf pd_4 rfl) rfl (by show 2 * 0 + _ ≤ _; exact Nat.le_of_eq rfl) (hb hby d21_10) (fun _ _ => ⟨rfl, eh2, (by decide : 0 + 0 ≤ _), (by decide : 0 + 0 ≤ _)⟩)
  dsimp only [Pt.U, Pt.locs, Pt.cells, Pt.slots] at X3 l3 y3 z3 st3 hQ3
  subst l3 y3 z3
  obtain ⟨rfl, N3q, eh3⟩ := hQ3
  have N3 := Fr.app N2 N3q
  refine oSt st3 ?_
  show oGl p e below (T3.setTop (mkF m 13 #[.val (.ref x), .val (.ref sb), .val .null, .val (.ref vb), .unset] [(.int (11 : Int32))])) _
  refine sistore X3 hx (hb hby d21_13) rfl rfl (l' := #[.val (.ref x), .val (.ref sb), .val .null, .val (.ref vb), .val (.int (11 : Int32))]) (pc' := 15) ?_
  refine saloadN X3 hx (hb hby d21_15) rfl rfl rfl (pc' := 16) ?_
  have hz4 : n0 ≤ h0.size := by omega
  obtain ⟨cq4, kq4, q4a, q4b, q4c⟩ := isOf hZ eh3 E0
  obtain ⟨_, _, ⟨T4, L4, k4, n4⟩, -, X4, ⟨Lc4, hQ4, l4, y4, z4⟩, st4⟩ := X3.virtualBack hx (y := (⟨"java/lang/AbstractStringBuilder", "isLatin1", "()Z"⟩ : MethodName)) (z := (⟨"java/lang/AbstractStringBuilder", "isLatin1", "()Z"⟩ : MethodName)) hown (mvT hZ (hw _ (List.mem_of_getElem? (i := 153) rfl))) (mvT hZ (hw _ (List.mem_of_getElem? (i := 154) rfl))) (notFace_of_selects (args := #[]) (mvT hZ (hw _ (List.mem_of_getElem? (i := 156) rfl)))) (mvT hZ (hw _ (List.mem_of_getElem? (i := 156) rfl))) (mvT hZ (hw _ (List.mem_of_getElem? (i := 155) rfl))) (by decide) (backOf (W := 0) (rmIlt11 l Z a0 hw [] sb vb cz h0 n0 hz4 O0 SCS hcz E0 B0 B1 B2) hZ (hw _ (List.mem_of_getElem? (i := 157) rfl)) (hw _ (List.mem_of_getElem? (i := 60) rfl)) (by decide) (by decide)) q4a q4c (g := (mkF m 16 #[.val (.ref x), .val (.ref sb), .val .null, .val (.ref vb), .val (.int (11 : Int32))] [(.ref sb)])) rfl (by rw [hml]; rfl) (Steps.refl _) (argsL := []) (rest := []) (lenOf pd_11 rfl) rfl (by show 2 * 0 + _ ≤ _; exact Nat.le_of_eq rfl) (hb hby d21_16) (fun _ _ => ⟨rfl, eh3, (by decide : 0 + 0 ≤ _), (by decide : 0 + 0 ≤ _)⟩)
  dsimp only [Pt.U, Pt.locs, Pt.cells, Pt.slots] at X4 l4 y4 z4 st4 hQ4
  subst l4 y4 z4
  obtain ⟨rfl, N4q, eh4⟩ := hQ4
  have N4 := Fr.app N3 N4q
  refine oSt st4 ?_
  show oGl p e below (T4.setTop (mkF m 19 #[.val (.ref x), .val (.ref sb), .val .null, .val (.ref vb), .val (.int (11 : Int32))] [(.int (1 : Int32))])) _
  refine sifN X4 hx (hb hby d21_19) rfl (feq (by decide : ¬ ((1 : Int32) = (0 : Int32)))).1 (pc' := 22) ?_
  refine saloadN X4 hx (hb hby d21_22) rfl rfl rfl (pc' := 23) ?_
  refine siconst X4 hx (hb hby d21_23) rfl rfl (z := 0) (pc' := 24) ?_
  obtain ⟨T5, h5, X5, e5, W5, st5⟩ := putFN X4 hx hZ hown (hw _ (List.mem_of_getElem? (i := 91) rfl)) Via.refl eh4 Q2 Q0 (Or.inr ⟨(hw _ (List.mem_of_getElem? (i := 9) rfl)), rfl, hnm⟩) (hw _ (List.mem_of_getElem? (i := 6) rfl)) (ty := .byte) (v' := (.int (0 : Int32))) (by decide) rfl rfl (g := (mkF m 24 #[.val (.ref x), .val (.ref sb), .val .null, .val (.ref vb), .val (.int (11 : Int32))] [(.int (0 : Int32)), (.ref x)])) rfl rfl (hb hby d21_24)
  refine oOn st5 ?_
  have z6 : h0.size ≤ h5.size := Nat.le_of_eq W5.size.symm
  have N5 := Fr.snoc X5 N4 (by omega)
  have f5 := Fld.same W5 Q2
  show oGl p e below (T5.setTop (mkF m 27 #[.val (.ref x), .val (.ref sb), .val .null, .val (.ref vb), .val (.int (11 : Int32))] [])) _
  refine saloadN X5 hx (hb hby d21_27) rfl rfl rfl (pc' := 28) ?_
  refine saloadN X5 hx (hb hby d21_28) rfl rfl rfl (pc' := 29) ?_
  refine siconst X5 hx (hb hby d21_29) rfl rfl (z := 0) (pc' := 30) ?_
  refine siload X5 hx (hb hby d21_30) rfl rfl (pc' := 32) ?_
  have f7 := (PV.other W5 (oNe (by omega)))
  have hz8 : n0 ≤ h5.size := by omega
  obtain ⟨_, _, ⟨T8, L8, k8, n8⟩, -, X8, ⟨Lc8, hQ8, l8, y8, z8⟩, st8⟩ := Jvm.LawKit.callS X5 hx (y := (⟨"java/util/Arrays", "copyOfRange", "([BII)[B"⟩ : MethodName)) hown (mvT hZ (hw _ (List.mem_of_getElem? (i := 158) rfl))) (mvT hZ (hw _ (List.mem_of_getElem? (i := 159) rfl))) (mvT hZ (hw _ (List.mem_of_getElem? (i := 160) rfl))) (mvT hZ (hw _ (List.mem_of_getElem? (i := 161) rfl))) (by decide) (backOf (W := 1) (rmCort11 l Z a0 hw [] vb g h5 n0 hz8 f7 Fg) hZ (hw _ (List.mem_of_getElem? (i := 161) rfl)) (hw _ (List.mem_of_getElem? (i := 160) rfl)) (by decide) (by decide)) (g := (mkF m 32 #[.val (.ref x), .val (.ref sb), .val .null, .val (.ref vb), .val (.int (11 : Int32))] [(.int (11 : Int32)), (.int (0 : Int32)), (.ref vb), (.ref x)])) rfl (by rw [hml]; rfl) (argsL := [(.ref vb), (.int (0 : Int32)), (.int (11 : Int32))]) (rest := [(.ref x)]) (lenOf pd_9 rfl) rfl (by show 2 * 0 + _ ≤ _; exact Nat.le_of_eq rfl) (hb hby d21_32) (fun _ _ => ⟨rfl, e5, (by decide : 0 + 1 ≤ _), (by decide : 0 + 11 ≤ _)⟩)
  dsimp only [Pt.U, Pt.locs, Pt.cells, Pt.slots] at X8 l8 y8 z8 st8 hQ8
  subst l8 y8 z8
  obtain ⟨d8, rfl, N8q, K8, zd8, Vd8⟩ := hQ8
  have N8 := Fr.app N5 N8q
  have z9 : h5.size ≤ T8.heap.size := K8.1
  refine oOn st8 ?_
  have ld8 : @LT.lt Nat _ d8 T8.heap.size := Vd8.lt
  show oGl p e below (T8.setTop (mkF m 35 #[.val (.ref x), .val (.ref sb), .val .null, .val (.ref vb), .val (.int (11 : Int32))] [(.ref d8), (.ref x)])) _
  have f11 := ((Q1.other W5 (Or.inr (slot_ne (Or.inr (hw _ (List.mem_of_getElem? (i := 8) rfl))) (Or.inr (hw _ (List.mem_of_getElem? (i := 9) rfl))) (by decide) (t := (.array .byte)) (t' := .byte) (by decide) (by decide)))).keep K8 nin0)
  have f12 := ((Q0.wr W5).keep K8)
  obtain ⟨T10, h10, X10, e10, W10, st10⟩ := putF X8 hx hZ hown (host := "") (Or.inl (hw _ (List.mem_of_getElem? (i := 84) rfl))) Via.refl rfl f11 f12 (Or.inr ⟨(hw _ (List.mem_of_getElem? (i := 8) rfl)), rfl, hnm⟩) (hw _ (List.mem_of_getElem? (i := 6) rfl)) (ty := (.array .byte)) (by decide) rfl rfl (g := (mkF m 35 #[.val (.ref x), .val (.ref sb), .val .null, .val (.ref vb), .val (.int (11 : Int32))] [(.ref d8), (.ref x)])) rfl rfl (hb hby d21_35)
  refine oOn st10 ?_
  have z13 : T8.heap.size ≤ h10.size := Nat.le_of_eq W10.size.symm
  have N10 := Fr.snoc X10 N8 (by omega)
  have f10 := Fld.same W10 f11
  show oGl p e below (T10.setTop (mkF m 38 #[.val (.ref x), .val (.ref sb), .val .null, .val (.ref vb), .val (.int (11 : Int32))] [])) _
  refine sgoto X10 hx (hb hby d21_38) (by decide) (by decide)  (pc' := 97) ?_
  have kp14 : Keep h0 h10 [x] := ((((Keep.refl h0 [x]).wr W5 (Or.inl (List.mem_of_getElem? (i := 0) rfl))).trans K8 all0).wr W10 (Or.inl (List.mem_of_getElem? (i := 0) rfl)))
  have f15 := (f12.wr W10)
  have f16 := ((f5.keep K8 nin0).other W10 (Or.inr (slot_ne (Or.inr (hw _ (List.mem_of_getElem? (i := 9) rfl))) (Or.inr (hw _ (List.mem_of_getElem? (i := 8) rfl))) (by decide) (t := .byte) (t' := (.array .byte)) (by decide) (by decide))))
  have f17 := (Vd8.other W10 (oNe (by omega)))
  refine oRet0 X10 hx Bd.notSynchronized Bd.returns (hb hby d21_97) (by decide) (by decide) ?_
  show Q_rmSit11 Z x sb vb g cz h0 n0 _ T10.heap _
  rw [e10]
  exact ⟨d8, rfl, N10, kp14, by omega, f15, f10, f16, f17⟩
theorem d20_0 : decode jdk_42_method_53_code 0 = .ok (.aload_n 0, 1) := by decide +kernel
theorem d20_1 : decode jdk_42_method_53_code 1 = .ok (.aload_n 1, 1) := by decide +kernel
theorem d20_2 : decode jdk_42_method_53_code 2 = .ok (.aconst_null, 1) := by decide +kernel
theorem d20_3 : decode jdk_42_method_53_code 3 = .ok (.invokespecial 489, 3) := by decide +kernel
theorem pd_12 : parseMethodDescriptor "(Ljava/lang/AbstractStringBuilder;Ljava/lang/Void;)V" = some ⟨[(.object "java/lang/AbstractStringBuilder"), (.object "java/lang/Void")], none⟩ := by decide +kernel
theorem d20_6 : decode jdk_42_method_53_code 6 = .ok (.return_, 1) := by decide +kernel
theorem ef_rmS1t11 (m : MethodId) (x0 : Nat) (x1 : Nat)  : entryFrame m #[(.ref x0), (.ref x1)] 2 = mkF m 0 #[.val (.ref x0), .val (.ref x1)] [] := by first | (simp [entryFrame, mkF, argsToLocals, Value.category, maxLocals]; done) | rfl
def Q_rmS1t11 (Z : State) (x sb vb : Nat) (g : Nat → Int32) (cz : Int32) (h0 : Heap) (n0 : Nat) (vv : Option Value) (h : Heap) (L : List Loc) : Prop := ∃ d : Nat, vv = none ∧ Fr n0 L ∧ Keep h0 h [x] ∧ h0.size ≤ d ∧ Exa Z h x "java/lang/String" ∧ Fld Z h x "java/lang/String" "value" "[B" (.ref d) ∧ Fld Z h x "java/lang/String" "coder" "B" (.int 0) ∧ oAI Z h d .byte 11 (oCpF 0 11 (fun i => g (0 + i)) (fun _ => 0))
set_option maxRecDepth 65536 in
set_option maxHeartbeats 40000000 in
theorem rmS1t11 (l : Launch) (Z : State) (a0 : Array Value) (hw : ∀ d ∈ tables_1, d.before a0 Z = true) (ws : List Jvm.Cond) (x sb vb : Nat) (g : Nat → Int32) (cz : Int32) (h0 : Heap) (n0 : Nat) (Z0 : n0 ≤ h0.size) (O0 : oOld Z n0 h0) (SCS : Sta Z Z.heap "java/lang/String" "COMPACT_STRINGS" "Z" (.int cz)) (hcz : ¬ cz = (0 : Int32)) (Q0 : Exa Z h0 x "java/lang/String") (Q1 : Fld Z h0 x "java/lang/String" "value" "[B" .null) (Q2 : Fld Z h0 x "java/lang/String" "coder" "B" (.int 0)) (gx : n0 ≤ x) (nxs : x ≠ sb) (E0 : Exa Z h0 sb "java/lang/StringBuilder") (B0 : Fld Z h0 sb "java/lang/AbstractStringBuilder" "value" "[B" (.ref vb)) (B1 : Fld Z h0 sb "java/lang/AbstractStringBuilder" "coder" "B" (.int 0)) (B2 : Fld Z h0 sb "java/lang/AbstractStringBuilder" "count" "I" (.int 11)) (PV : oAI Z h0 vb .byte 16 g) (Fg : oFit 16 g) :
    MetFree l (⟨"java/lang/String", "<init>", "(Ljava/lang/StringBuilder;)V"⟩ : MethodName) (head1 (Jvm.Cond.code (⟨"java/lang/String", "<init>", "(Ljava/lang/StringBuilder;)V"⟩ : MethodName) jdk_42_method_53_code 2 (none : Option FieldType) :: ws) ({ frames := 4, cells := 1, slots := 11, locals := 65 } : Room)) (fun aA uU => aA = #[(.ref x), (.ref sb)] ∧ Z.Warmed39 uU.vm ∧ uU.heap = h0) (fun _ _ _ _ _ => True) (fun _ uU oO uU' => ∃ vV lL, oO = .returned vV ∧ Q_rmS1t11 Z x sb vb g cz h0 n0 vV uU'.heap lL ∧ FrameEnd uU oO uU' lL ({ frames := 4, cells := 1, slots := 11, locals := 65 } : Room).cells ({ frames := 4, cells := 1, slots := 11, locals := 65 } : Room).slots) := by
  refine MetFree.of_bodySF (plainFor_of_name pn_String) hisR ?_
  intro p e s m args below meth c s₁ Bd hml0 hP hK
  obtain ⟨rfl, hZ, hh⟩ := hP
  have hx := Bd.exec
  have hby := Bd.bytes
  have hml : c.maxLocals = 2 := hml0
  have hown : s.vm.findClass "java/lang/String" = some m.cls := findClass_of_methodNamed Bd.named
  have hnm := (name_of_methodNamed Bd.named Bd.method).1
  have X0 : Stand p l e ({ frames := 4, cells := 1, slots := 11, locals := 65 } : Room) s m #[(.ref x), (.ref sb)] below meth c s₁ [] 0 0 := Stand.of_body Bd
  have e0 : s₁.heap = h0 := by rw [← hh, Bd.state]; rfl
  have N0 := Fr.nil n0
  have lX : @LT.lt Nat _ x h0.size := Q0.lt
  have lS : @LT.lt Nat _ sb h0.size := E0.lt
  have lV : @LT.lt Nat _ vb h0.size := PV.lt
  have nx9 : @Ne Nat x sb := nxs
  have nxv : @Ne Nat x vb := oNeO Q0 (hw _ (List.mem_of_getElem? (i := 6) rfl)) PV
  refine oEnter (oCast (ef_rmS1t11 m x sb ) ?_)
  show oGl p e below (s₁.setTop (mkF m 0 #[.val (.ref x), .val (.ref sb)] [])) _
  refine saloadN X0 hx (hb hby d20_0) rfl rfl rfl (pc' := 1) ?_
  refine saloadN X0 hx (hb hby d20_1) rfl rfl rfl (pc' := 2) ?_
  refine saconst_null X0 hx (hb hby d20_2) rfl  (pc' := 3) ?_
  have hz1 : n0 ≤ h0.size := by omega
  obtain ⟨_, _, ⟨T1, L1, k1, n1⟩, -, X1, ⟨Lc1, hQ1, l1, y1, z1⟩, st1⟩ := X0.specialBack hx (y := (⟨"java/lang/String", "<init>", "(Ljava/lang/AbstractStringBuilder;Ljava/lang/Void;)V"⟩ : MethodName)) rfl hown (mvT hZ (hw _ (List.mem_of_getElem? (i := 136) rfl))) (mvT hZ (hw _ (List.mem_of_getElem? (i := 137) rfl))) (mvT hZ (hw _ (List.mem_of_getElem? (i := 138) rfl))) (by decide) (backOf (W := 0) (rmSit11 l Z a0 hw [] x sb vb g cz h0 n0 hz1 O0 SCS hcz Q0 Q1 Q2 (by omega) nxs E0 B0 B1 B2 PV Fg) hZ (hw _ (List.mem_of_getElem? (i := 138) rfl)) (hw _ (List.mem_of_getElem? (i := 5) rfl)) (by decide) (by decide)) (g := (mkF m 3 #[.val (.ref x), .val (.ref sb)] [.null, (.ref sb), (.ref x)])) rfl (by rw [hml]; rfl) (Steps.refl _) (a := x) (argsL := [(.ref sb), .null]) (rest := []) (lenOf pd_12 rfl) rfl (by show 2 * 0 + _ ≤ _; exact Nat.le_of_eq rfl) (hb hby d20_3) (fun _ _ => ⟨rfl, e0, (by decide : 0 + 1 ≤ _), (by decide : 0 + 11 ≤ _)⟩)
  dsimp only [Pt.U, Pt.locs, Pt.cells, Pt.slots] at X1 l1 y1 z1 st1 hQ1
  subst l1 y1 z1
  obtain ⟨d1, rfl, N1q, K1, zd1, Ex1, Fv1, Fc1, Vd1⟩ := hQ1
  have N1 := Fr.app N0 N1q
  have z2 : h0.size ≤ T1.heap.size := K1.1
  refine oSt st1 ?_
  show oGl p e below (T1.setTop (mkF m 6 #[.val (.ref x), .val (.ref sb)] [])) _
  have kp3 : Keep h0 T1.heap [x] := ((Keep.refl h0 [x]).trans K1 (allS (Or.inl (List.mem_of_getElem? (i := 0) rfl)) all0))
  refine oRet0 X1 hx Bd.notSynchronized Bd.returns (hb hby d20_6) (by decide) (by decide) ?_
  show Q_rmS1t11 Z x sb vb g cz h0 n0 _ T1.heap _
  exact ⟨d1, rfl, N1, kp3, by omega, Ex1, Fv1, Fc1, Vd1⟩
theorem d19_0 : decode jdk_67_method_42_code 0 = .ok (.new 18, 3) := by decide +kernel
theorem d19_3 : decode jdk_67_method_42_code 3 = .ok (.dup, 1) := by decide +kernel
theorem d19_4 : decode jdk_67_method_42_code 4 = .ok (.aload_n 0, 1) := by decide +kernel
theorem d19_5 : decode jdk_67_method_42_code 5 = .ok (.invokespecial 137, 3) := by decide +kernel
theorem pd_13 : parseMethodDescriptor "(Ljava/lang/StringBuilder;)V" = some ⟨[(.object "java/lang/StringBuilder")], none⟩ := by decide +kernel
theorem d19_8 : decode jdk_67_method_42_code 8 = .ok (.areturn, 1) := by decide +kernel
theorem ef_rmTst11 (m : MethodId) (x0 : Nat)  : entryFrame m #[(.ref x0)] 1 = mkF m 0 #[.val (.ref x0)] [] := by first | (simp [entryFrame, mkF, argsToLocals, Value.category, maxLocals]; done) | rfl
def Q_rmTst11 (Z : State) (sb vb : Nat) (g : Nat → Int32) (cz : Int32) (h0 : Heap) (n0 : Nat) (vv : Option Value) (h : Heap) (L : List Loc) : Prop := ∃ x d : Nat, vv = some (.ref x) ∧ Fr n0 L ∧ Keep h0 h [] ∧ h0.size ≤ x ∧ Exa Z h x "java/lang/String" ∧ Fld Z h x "java/lang/String" "value" "[B" (.ref d) ∧ Fld Z h x "java/lang/String" "coder" "B" (.int 0) ∧ oAI Z h d .byte 11 (oCpF 0 11 (fun i => g (0 + i)) (fun _ => 0))
set_option maxRecDepth 65536 in
set_option maxHeartbeats 40000000 in
theorem rmTst11 (l : Launch) (Z : State) (a0 : Array Value) (hw : ∀ d ∈ tables_1, d.before a0 Z = true) (ws : List Jvm.Cond) (sb vb : Nat) (g : Nat → Int32) (cz : Int32) (h0 : Heap) (n0 : Nat) (Z0 : n0 ≤ h0.size) (O0 : oOld Z n0 h0) (SCS : Sta Z Z.heap "java/lang/String" "COMPACT_STRINGS" "Z" (.int cz)) (hcz : ¬ cz = (0 : Int32)) (E0 : Exa Z h0 sb "java/lang/StringBuilder") (B0 : Fld Z h0 sb "java/lang/AbstractStringBuilder" "value" "[B" (.ref vb)) (B1 : Fld Z h0 sb "java/lang/AbstractStringBuilder" "coder" "B" (.int 0)) (B2 : Fld Z h0 sb "java/lang/AbstractStringBuilder" "count" "I" (.int 11)) (PV : oAI Z h0 vb .byte 16 g) (Fg : oFit 16 g) :
    MetFree l (⟨"java/lang/StringBuilder", "toString", "()Ljava/lang/String;"⟩ : MethodName) (head1 (Jvm.Cond.code (⟨"java/lang/StringBuilder", "toString", "()Ljava/lang/String;"⟩ : MethodName) jdk_67_method_42_code 1 (some (.object "java/lang/String")) :: ws) ({ frames := 5, cells := 2, slots := 15, locals := 79 } : Room)) (fun aA uU => aA = #[(.ref sb)] ∧ Z.Warmed39 uU.vm ∧ uU.heap = h0) (fun _ _ _ _ _ => True) (fun _ uU oO uU' => ∃ vV lL, oO = .returned vV ∧ Q_rmTst11 Z sb vb g cz h0 n0 vV uU'.heap lL ∧ FrameEnd uU oO uU' lL ({ frames := 5, cells := 2, slots := 15, locals := 79 } : Room).cells ({ frames := 5, cells := 2, slots := 15, locals := 79 } : Room).slots) := by
  refine MetFree.of_bodySF (plainFor_of_name pn_StringBuilder) hisR ?_
  intro p e s m args below meth c s₁ Bd hml0 hP hK
  obtain ⟨rfl, hZ, hh⟩ := hP
  have hx := Bd.exec
  have hby := Bd.bytes
  have hml : c.maxLocals = 1 := hml0
  have hown : s.vm.findClass "java/lang/StringBuilder" = some m.cls := findClass_of_methodNamed Bd.named
  have hnm := (name_of_methodNamed Bd.named Bd.method).1
  have X0 : Stand p l e ({ frames := 5, cells := 2, slots := 15, locals := 79 } : Room) s m #[(.ref sb)] below meth c s₁ [] 0 0 := Stand.of_body Bd
  have e0 : s₁.heap = h0 := by rw [← hh, Bd.state]; rfl
  have N0 := Fr.nil n0
  have lS : @LT.lt Nat _ sb h0.size := E0.lt
  have lV : @LT.lt Nat _ vb h0.size := PV.lt
  refine oEnter (oCast (ef_rmTst11 m sb ) ?_)
  show oGl p e below (s₁.setTop (mkF m 0 #[.val (.ref sb)] [])) _
  obtain ⟨T1, h1, X1, e1, E1, A1, D1, -, st1⟩ := newO X0 hx hZ hown (hw _ (List.mem_of_getElem? (i := 131) rfl)) (hw _ (List.mem_of_getElem? (i := 6) rfl)) (hw _ (List.mem_of_getElem? (i := 5) rfl)) e0 (g := (mkF m 0 #[.val (.ref sb)] [])) rfl (hb hby d19_0) (by decide) (by decide)
  obtain ⟨a1, g1⟩ : ∃ z, z = h0.size := ⟨_, rfl⟩
  rw [← g1] at A1 D1 st1
  refine oOn st1 ?_
  have z2 : h0.size ≤ h1.size := E1.1
  have lt1 : a1 < h1.size := A1.lt
  have f1_8 : Fld Z h1 a1 "java/lang/String" "value" "[B" .null := D1 (Or.inr (hw _ (List.mem_of_getElem? (i := 8) rfl))) (ty := (.array .byte)) (by decide)
  have f1_9 : Fld Z h1 a1 "java/lang/String" "coder" "B" (.int (0 : Int32)) := D1 (Or.inr (hw _ (List.mem_of_getElem? (i := 9) rfl))) (ty := .byte) (by decide)
  show oGl p e below (T1.setTop (mkF m 3 #[.val (.ref sb)] [(.ref a1)])) _
  refine sdup X1 hx (hb hby d19_3) rfl rfl (pc' := 4) ?_
  refine saloadN X1 hx (hb hby d19_4) rfl rfl rfl (pc' := 5) ?_
  have f3 := (O0.ext E1)
  have f4 := (E0.ext E1)
  have f5 := (B0.ext E1)
  have f6 := (B1.ext E1)
  have f7 := (B2.ext E1)
  have f8 := (PV.ext E1)
  have hz9 : n0 ≤ h1.size := by omega
  obtain ⟨_, _, ⟨T9, L9, k9, n9⟩, -, X9, ⟨Lc9, hQ9, l9, y9, z9⟩, st9⟩ := X1.specialBack hx (y := (⟨"java/lang/String", "<init>", "(Ljava/lang/StringBuilder;)V"⟩ : MethodName)) rfl hown (mvT hZ (hw _ (List.mem_of_getElem? (i := 132) rfl))) (mvT hZ (hw _ (List.mem_of_getElem? (i := 133) rfl))) (mvT hZ (hw _ (List.mem_of_getElem? (i := 135) rfl))) (by decide) (backOf (W := 1) (rmS1t11 l Z a0 hw [] a1 sb vb g cz h1 n0 hz9 f3 SCS hcz A1 f1_8 f1_9 (by omega) (oNe (by omega)) f4 f5 f6 f7 f8 Fg) hZ (hw _ (List.mem_of_getElem? (i := 135) rfl)) (hw _ (List.mem_of_getElem? (i := 5) rfl)) (by decide) (by decide)) (g := (mkF m 5 #[.val (.ref sb)] [(.ref sb), (.ref a1), (.ref a1)])) rfl (by rw [hml]; rfl) (Steps.refl _) (a := a1) (argsL := [(.ref sb)]) (rest := [(.ref a1)]) (lenOf pd_13 rfl) rfl (by show 2 * 0 + _ ≤ _; exact Nat.le_of_eq rfl) (hb hby d19_5) (fun _ _ => ⟨rfl, e1, (by decide : 1 + 1 ≤ _), (by decide : 4 + 11 ≤ _)⟩)
  dsimp only [Pt.U, Pt.locs, Pt.cells, Pt.slots] at X9 l9 y9 z9 st9 hQ9
  subst l9 y9 z9
  obtain ⟨d9, rfl, N9q, K9, zd9, Ex9, Fv9, Fc9, Vd9⟩ := hQ9
  have N9 := Fr.app N0 N9q
  have z10 : h1.size ≤ T9.heap.size := K9.1
  refine oSt st9 ?_
  show oGl p e below (T9.setTop (mkF m 8 #[.val (.ref sb)] [(.ref a1)])) _
  have kp11 : Keep h0 T9.heap [] := (((Keep.refl h0 []).ext E1).trans K9 (allS (Or.inr (by omega)) all0))
  refine oRetR X9 hx Bd.notSynchronized Bd.returns rfl rfl (hb hby d19_8) (by decide) (by decide) ?_
  show Q_rmTst11 Z sb vb g cz h0 n0 _ T9.heap _
  exact ⟨a1, d9, rfl, N9, kp11, by omega, Ex9, Fv9, Fc9, Vd9⟩
theorem ef_rmMint15 (m : MethodId) (x0 : Int32) (x1 : Int32)  : entryFrame m #[(.int x0), (.int x1)] 2 = mkF m 0 #[.val (.int x0), .val (.int x1)] [] := by first | (simp [entryFrame, mkF, argsToLocals, Value.category, maxLocals]; done) | rfl
def Q_rmMint15 (Z : State)  (h0 : Heap) (n0 : Nat) (vv : Option Value) (h : Heap) (L : List Loc) : Prop := vv = some (.int 15) ∧ Fr n0 L ∧ h = h0
set_option maxRecDepth 65536 in
set_option maxHeartbeats 40000000 in
theorem rmMint15 (l : Launch) (Z : State) (a0 : Array Value) (hw : ∀ d ∈ tables_1, d.before a0 Z = true) (ws : List Jvm.Cond)  (h0 : Heap) (n0 : Nat) (Z0 : n0 ≤ h0.size)  :
    MetFree l (⟨"java/lang/Math", "min", "(II)I"⟩ : MethodName) (head1 (Jvm.Cond.code (⟨"java/lang/Math", "min", "(II)I"⟩ : MethodName) jdk_29_method_69_code 2 (some .int) :: ws) ({ frames := 0, cells := 0, slots := 0, locals := 0 } : Room)) (fun aA uU => aA = #[(.int (16 : Int32)), (.int (15 : Int32))] ∧ Z.Warmed39 uU.vm ∧ uU.heap = h0) (fun _ _ _ _ _ => True) (fun _ uU oO uU' => ∃ vV lL, oO = .returned vV ∧ Q_rmMint15 Z  h0 n0 vV uU'.heap lL ∧ FrameEnd uU oO uU' lL ({ frames := 0, cells := 0, slots := 0, locals := 0 } : Room).cells ({ frames := 0, cells := 0, slots := 0, locals := 0 } : Room).slots) := by
  refine MetFree.of_bodySF (by decide +kernel) hisR ?_
  intro p e s m args below meth c s₁ Bd hml0 hP hK
  obtain ⟨rfl, hZ, hh⟩ := hP
  have hx := Bd.exec
  have hby := Bd.bytes
  have hml : c.maxLocals = 2 := hml0
  have hown : s.vm.findClass "java/lang/Math" = some m.cls := findClass_of_methodNamed Bd.named
  have hnm := (name_of_methodNamed Bd.named Bd.method).1
  have X0 : Stand p l e ({ frames := 0, cells := 0, slots := 0, locals := 0 } : Room) s m #[(.int (16 : Int32)), (.int (15 : Int32))] below meth c s₁ [] 0 0 := Stand.of_body Bd
  have e0 : s₁.heap = h0 := by rw [← hh, Bd.state]; rfl
  have N0 := Fr.nil n0
  refine oEnter (oCast (ef_rmMint15 m (16 : Int32) (15 : Int32) ) ?_)
  show oGl p e below (s₁.setTop (mkF m 0 #[.val (.int (16 : Int32)), .val (.int (15 : Int32))] [])) _
  refine siloadN X0 hx (hb hby d29_0) rfl rfl (pc' := 1) ?_
  refine siloadN X0 hx (hb hby d29_1) rfl rfl (pc' := 2) ?_
  refine sicY X0 hx (hb hby d29_2) (by decide) (by decide) (tlt (by decide : (15 : Int32) < (16 : Int32))).2.2.1 (pc' := 9) ?_
  refine siloadN X0 hx (hb hby d29_9) rfl rfl (pc' := 10) ?_
  refine oRetI X0 hx Bd.notSynchronized Bd.returns (hb hby d29_10) (by decide) (by decide) ?_
  show Q_rmMint15 Z  h0 n0 _ s₁.heap _
  rw [e0]
  exact ⟨rfl, N0, rfl⟩
theorem ef_rmChkt15 (m : MethodId) (x0 : Int32) (x1 : Int32)  : entryFrame m #[(.int x0), (.int x1)] 2 = mkF m 0 #[.val (.int x0), .val (.int x1)] [] := by first | (simp [entryFrame, mkF, argsToLocals, Value.category, maxLocals]; done) | rfl
def Q_rmChkt15 (Z : State)  (h0 : Heap) (n0 : Nat) (vv : Option Value) (h : Heap) (L : List Loc) : Prop := vv = none ∧ Fr n0 L ∧ h = h0
set_option maxRecDepth 65536 in
set_option maxHeartbeats 40000000 in
theorem rmChkt15 (l : Launch) (Z : State) (a0 : Array Value) (hw : ∀ d ∈ tables_1, d.before a0 Z = true) (ws : List Jvm.Cond)  (h0 : Heap) (n0 : Nat) (Z0 : n0 ≤ h0.size)  :
    MetFree l (⟨"java/util/Arrays", "checkLength", "(II)V"⟩ : MethodName) (head1 (Jvm.Cond.code (⟨"java/util/Arrays", "checkLength", "(II)V"⟩ : MethodName) jdk_65_method_131_code 2 (none : Option FieldType) :: ws) ({ frames := 0, cells := 0, slots := 0, locals := 0 } : Room)) (fun aA uU => aA = #[(.int (0 : Int32)), (.int (15 : Int32))] ∧ Z.Warmed39 uU.vm ∧ uU.heap = h0) (fun _ _ _ _ _ => True) (fun _ uU oO uU' => ∃ vV lL, oO = .returned vV ∧ Q_rmChkt15 Z  h0 n0 vV uU'.heap lL ∧ FrameEnd uU oO uU' lL ({ frames := 0, cells := 0, slots := 0, locals := 0 } : Room).cells ({ frames := 0, cells := 0, slots := 0, locals := 0 } : Room).slots) := by
  refine MetFree.of_bodySF (plainFor_of_name pn_Arrays) hisR ?_
  intro p e s m args below meth c s₁ Bd hml0 hP hK
  obtain ⟨rfl, hZ, hh⟩ := hP
  have hx := Bd.exec
  have hby := Bd.bytes
  have hml : c.maxLocals = 2 := hml0
  have hown : s.vm.findClass "java/util/Arrays" = some m.cls := findClass_of_methodNamed Bd.named
  have hnm := (name_of_methodNamed Bd.named Bd.method).1
  have X0 : Stand p l e ({ frames := 0, cells := 0, slots := 0, locals := 0 } : Room) s m #[(.int (0 : Int32)), (.int (15 : Int32))] below meth c s₁ [] 0 0 := Stand.of_body Bd
  have e0 : s₁.heap = h0 := by rw [← hh, Bd.state]; rfl
  have N0 := Fr.nil n0
  refine oEnter (oCast (ef_rmChkt15 m (0 : Int32) (15 : Int32) ) ?_)
  show oGl p e below (s₁.setTop (mkF m 0 #[.val (.int (0 : Int32)), .val (.int (15 : Int32))] [])) _
  refine siloadN X0 hx (hb hby d28_0) rfl rfl (pc' := 1) ?_
  refine siloadN X0 hx (hb hby d28_1) rfl rfl (pc' := 2) ?_
  refine sicY X0 hx (hb hby d28_2) (by decide) (by decide) (flt (by decide : ¬ ((15 : Int32) < (0 : Int32)))).2.1 (pc' := 37) ?_
  refine oRet0 X0 hx Bd.notSynchronized Bd.returns (hb hby d28_37) (by decide) (by decide) ?_
  show Q_rmChkt15 Z  h0 n0 _ s₁.heap _
  rw [e0]
  exact ⟨rfl, N0, rfl⟩
theorem ef_rmCrbt15 (m : MethodId) (x0 : Nat) (x1 : Int32) (x2 : Int32)  : entryFrame m #[(.ref x0), (.int x1), (.int x2)] 5 = mkF m 0 #[.val (.ref x0), .val (.int x1), .val (.int x2), .unset, .unset] [] := by first | (simp [entryFrame, mkF, argsToLocals, Value.category, maxLocals]; done) | rfl
def Q_rmCrbt15 (Z : State) (vb : Nat) (g : Nat → Int32) (h0 : Heap) (n0 : Nat) (vv : Option Value) (h : Heap) (L : List Loc) : Prop := ∃ d : Nat, vv = some (.ref d) ∧ Fr n0 L ∧ Keep h0 h [] ∧ h0.size ≤ d ∧ oAI Z h d .byte 15 (oCpF 0 15 (fun i => g (0 + i)) (fun _ => 0))
set_option maxRecDepth 65536 in
set_option maxHeartbeats 40000000 in
theorem rmCrbt15 (l : Launch) (Z : State) (a0 : Array Value) (hw : ∀ d ∈ tables_1, d.before a0 Z = true) (ws : List Jvm.Cond) (vb : Nat) (g : Nat → Int32) (h0 : Heap) (n0 : Nat) (Z0 : n0 ≤ h0.size) (PV : oAI Z h0 vb .byte 16 g) (Fg : oFit 16 g) :
    MetFree l (⟨"java/util/Arrays", "copyOfRangeByte", "([BII)[B"⟩ : MethodName) (head1 (Jvm.Cond.code (⟨"java/util/Arrays", "copyOfRangeByte", "([BII)[B"⟩ : MethodName) jdk_65_method_133_code 5 (some (.array .byte)) :: ws) ({ frames := 1, cells := 1, slots := 15, locals := 18 } : Room)) (fun aA uU => aA = #[(.ref vb), (.int (0 : Int32)), (.int (15 : Int32))] ∧ Z.Warmed39 uU.vm ∧ uU.heap = h0) (fun _ _ _ _ _ => True) (fun _ uU oO uU' => ∃ vV lL, oO = .returned vV ∧ Q_rmCrbt15 Z vb g h0 n0 vV uU'.heap lL ∧ FrameEnd uU oO uU' lL ({ frames := 1, cells := 1, slots := 15, locals := 18 } : Room).cells ({ frames := 1, cells := 1, slots := 15, locals := 18 } : Room).slots) := by
  refine MetFree.of_bodySF (plainFor_of_name pn_Arrays) hisR ?_
  intro p e s m args below meth c s₁ Bd hml0 hP hK
  obtain ⟨rfl, hZ, hh⟩ := hP
  have hx := Bd.exec
  have hby := Bd.bytes
  have hml : c.maxLocals = 5 := hml0
  have hown : s.vm.findClass "java/util/Arrays" = some m.cls := findClass_of_methodNamed Bd.named
  have hnm := (name_of_methodNamed Bd.named Bd.method).1
  have X0 : Stand p l e ({ frames := 1, cells := 1, slots := 15, locals := 18 } : Room) s m #[(.ref vb), (.int (0 : Int32)), (.int (15 : Int32))] below meth c s₁ [] 0 0 := Stand.of_body Bd
  have e0 : s₁.heap = h0 := by rw [← hh, Bd.state]; rfl
  have N0 := Fr.nil n0
  have lV : @LT.lt Nat _ vb h0.size := PV.lt
  refine oEnter (oCast (ef_rmCrbt15 m vb (0 : Int32) (15 : Int32) ) ?_)
  show oGl p e below (s₁.setTop (mkF m 0 #[.val (.ref vb), .val (.int (0 : Int32)), .val (.int (15 : Int32)), .unset, .unset] [])) _
  refine siloadN X0 hx (hb hby d27_0) rfl rfl (pc' := 1) ?_
  refine siloadN X0 hx (hb hby d27_1) rfl rfl (pc' := 2) ?_
  have hz1 : n0 ≤ h0.size := by omega
  obtain ⟨_, _, ⟨T1, L1, k1, n1⟩, -, X1, ⟨Lc1, hQ1, l1, y1, z1⟩, st1⟩ := Jvm.LawKit.callS X0 hx (y := (⟨"java/util/Arrays", "checkLength", "(II)V"⟩ : MethodName)) hown (mvT hZ (hw _ (List.mem_of_getElem? (i := 165) rfl))) (mvT hZ (hw _ (List.mem_of_getElem? (i := 166) rfl))) (mvT hZ (hw _ (List.mem_of_getElem? (i := 160) rfl))) (mvT hZ (hw _ (List.mem_of_getElem? (i := 167) rfl))) (by decide) (backOf (W := 0) (rmChkt15 l Z a0 hw []  h0 n0 hz1 ) hZ (hw _ (List.mem_of_getElem? (i := 167) rfl)) (hw _ (List.mem_of_getElem? (i := 160) rfl)) (by decide) (by decide)) (g := (mkF m 2 #[.val (.ref vb), .val (.int (0 : Int32)), .val (.int (15 : Int32)), .unset, .unset] [(.int (15 : Int32)), (.int (0 : Int32))])) rfl (by rw [hml]; rfl) (argsL := [(.int (0 : Int32)), (.int (15 : Int32))]) (rest := []) (lenOf pd_7 rfl) rfl (by show 2 * 0 + _ ≤ _; exact Nat.le_of_eq rfl) (hb hby d27_2) (fun _ _ => ⟨rfl, e0, (by decide : 0 + 0 ≤ _), (by decide : 0 + 0 ≤ _)⟩)
  dsimp only [Pt.U, Pt.locs, Pt.cells, Pt.slots] at X1 l1 y1 z1 st1 hQ1
  subst l1 y1 z1
  obtain ⟨rfl, N1q, eh1⟩ := hQ1
  have N1 := Fr.app N0 N1q
  refine oOn st1 ?_
  show oGl p e below (T1.setTop (mkF m 5 #[.val (.ref vb), .val (.int (0 : Int32)), .val (.int (15 : Int32)), .unset, .unset] [])) _
  refine siloadN X1 hx (hb hby d27_5) rfl rfl (pc' := 6) ?_
  refine siloadN X1 hx (hb hby d27_6) rfl rfl (pc' := 7) ?_
  refine sisub X1 hx (hb hby d27_7) rfl (by decide) (z := (15 : Int32)) (pc' := 8) ?_
  refine sistoreN X1 hx (hb hby d27_8) rfl rfl (l' := #[.val (.ref vb), .val (.int (0 : Int32)), .val (.int (15 : Int32)), .val (.int (15 : Int32)), .unset]) (pc' := 9) ?_
  refine siloadN X1 hx (hb hby d27_9) rfl rfl (pc' := 10) ?_
  obtain ⟨T2, h2, k2, X2, e2, E2, A2, st2⟩ := newP X1 hx hZ (hw _ (List.mem_of_getElem? (i := 7) rfl)) eh1 (g := (mkF m 10 #[.val (.ref vb), .val (.int (0 : Int32)), .val (.int (15 : Int32)), .val (.int (15 : Int32)), .unset] [(.int (15 : Int32))])) rfl (hb hby d27_10) rfl (by decide) (cap := 15) (by decide) (by decide) (by decide) (by decide)
  obtain ⟨a2, g2⟩ : ∃ z, z = h0.size := ⟨_, rfl⟩
  rw [← g2] at A2 st2
  refine oOn st2 ?_
  have z3 : h0.size ≤ h2.size := E2.1
  have lt2 : a2 < h2.size := A2.lt
  have V2 : oAI Z h2 a2 .byte 15 (fun _ => 0) := oAI.new A2 rfl
  show oGl p e below (T2.setTop (mkF m 12 #[.val (.ref vb), .val (.int (0 : Int32)), .val (.int (15 : Int32)), .val (.int (15 : Int32)), .unset] [(.ref a2)])) _
  refine sastore X2 hx (hb hby d27_12) rfl rfl rfl (l' := #[.val (.ref vb), .val (.int (0 : Int32)), .val (.int (15 : Int32)), .val (.int (15 : Int32)), .val (.ref a2)]) (pc' := 14) ?_
  refine saloadN X2 hx (hb hby d27_14) rfl rfl rfl (pc' := 15) ?_
  refine siloadN X2 hx (hb hby d27_15) rfl rfl (pc' := 16) ?_
  refine saload X2 hx (hb hby d27_16) rfl rfl rfl (pc' := 18) ?_
  refine siconst X2 hx (hb hby d27_18) rfl rfl (z := 0) (pc' := 19) ?_
  refine saloadN X2 hx (hb hby d27_19) rfl rfl rfl (pc' := 20) ?_
  have f4 := (PV.ext E2)
  refine oOn (f4.len X2 hx hZ e2 (g := (mkF m 20 #[.val (.ref vb), .val (.int (0 : Int32)), .val (.int (15 : Int32)), .val (.int (15 : Int32)), .val (.ref a2)] [(.ref vb), (.int (0 : Int32)), (.ref a2), (.int (0 : Int32)), (.ref vb)])) rfl rfl (hb hby d27_20)) ?_
  show oGl p e below (T2.setTop (mkF m 21 #[.val (.ref vb), .val (.int (0 : Int32)), .val (.int (15 : Int32)), .val (.int (15 : Int32)), .val (.ref a2)] [(.int (16 : Int32)), (.int (0 : Int32)), (.ref a2), (.int (0 : Int32)), (.ref vb)])) _
  refine siloadN X2 hx (hb hby d27_21) rfl rfl (pc' := 22) ?_
  refine sisub X2 hx (hb hby d27_22) rfl (by decide) (z := (16 : Int32)) (pc' := 23) ?_
  refine siloadN X2 hx (hb hby d27_23) rfl rfl (pc' := 24) ?_
  have hz5 : n0 ≤ h2.size := by omega
  obtain ⟨_, _, ⟨T5, L5, k5, n5⟩, -, X5, ⟨Lc5, hQ5, l5, y5, z5⟩, st5⟩ := Jvm.LawKit.callS X2 hx (y := (⟨"java/lang/Math", "min", "(II)I"⟩ : MethodName)) hown (mvT hZ (hw _ (List.mem_of_getElem? (i := 168) rfl))) (mvT hZ (hw _ (List.mem_of_getElem? (i := 169) rfl))) (mvT hZ (hw _ (List.mem_of_getElem? (i := 170) rfl))) (mvT hZ (hw _ (List.mem_of_getElem? (i := 171) rfl))) (by decide) (backOf (W := 4) (rmMint15 l Z a0 hw []  h2 n0 hz5 ) hZ (hw _ (List.mem_of_getElem? (i := 171) rfl)) (hw _ (List.mem_of_getElem? (i := 170) rfl)) (by decide) (by decide)) (g := (mkF m 24 #[.val (.ref vb), .val (.int (0 : Int32)), .val (.int (15 : Int32)), .val (.int (15 : Int32)), .val (.ref a2)] [(.int (15 : Int32)), (.int (16 : Int32)), (.int (0 : Int32)), (.ref a2), (.int (0 : Int32)), (.ref vb)])) rfl (by rw [hml]; rfl) (argsL := [(.int (16 : Int32)), (.int (15 : Int32))]) (rest := [(.int (0 : Int32)), (.ref a2), (.int (0 : Int32)), (.ref vb)]) (lenOf pd_8 rfl) rfl (by show 2 * 0 + _ ≤ _; exact Nat.le_of_eq rfl) (hb hby d27_24) (fun _ _ => ⟨rfl, e2, (by decide : 1 + 0 ≤ _), (by decide : 15 + 0 ≤ _)⟩)
  dsimp only [Pt.U, Pt.locs, Pt.cells, Pt.slots] at X5 l5 y5 z5 st5 hQ5
  subst l5 y5 z5
  obtain ⟨rfl, N5q, eh5⟩ := hQ5
  have N5 := Fr.app N1 N5q
  refine oOn st5 ?_
  show oGl p e below (T5.setTop (mkF m 27 #[.val (.ref vb), .val (.int (0 : Int32)), .val (.int (15 : Int32)), .val (.int (15 : Int32)), .val (.ref a2)] [(.int (15 : Int32)), (.int (0 : Int32)), (.ref a2), (.int (0 : Int32)), (.ref vb)])) _
  obtain ⟨T6, h6, L6, X6, e6, N6, K6, V6, st6⟩ := oCp X5 hx hZ hown (hw _ (List.mem_of_getElem? (i := 172) rfl)) (hw _ (List.mem_of_getElem? (i := 118) rfl)) (hw _ (List.mem_of_getElem? (i := 116) rfl)) (hw _ (List.mem_of_getElem? (i := 117) rfl)) eh5 f4 V2 Fg oFit0 (by decide) (by decide) (by decide) (by decide) (by decide) N5 (by omega) (gf := (mkF m 27 #[.val (.ref vb), .val (.int (0 : Int32)), .val (.int (15 : Int32)), .val (.int (15 : Int32)), .val (.ref a2)] [(.int (15 : Int32)), (.int (0 : Int32)), (.ref a2), (.int (0 : Int32)), (.ref vb)])) rfl (by rw [hml]; rfl) (rest := []) rfl (hb hby d27_27) (by decide) (W := 0) (by show 2 * 0 + _ ≤ _; exact Nat.le_of_eq rfl) (by decide)
  refine oOn st6 ?_
  have z7 : h2.size ≤ h6.size := K6.1
  have Vc6 : oAI Z h6 a2 .byte 15 (oCpF 0 15 (fun i => g (0 + i)) (fun _ => 0)) := V6
  show oGl p e below (T6.setTop (mkF m 30 #[.val (.ref vb), .val (.int (0 : Int32)), .val (.int (15 : Int32)), .val (.int (15 : Int32)), .val (.ref a2)] [])) _
  refine saload X6 hx (hb hby d27_30) rfl rfl rfl (pc' := 32) ?_
  have kp8 : Keep h0 h6 [a2] := (((Keep.refl h0 [a2]).ext E2).trans K6 (allS (Or.inl (List.mem_of_getElem? (i := 0) rfl)) all0))
  refine oRetR X6 hx Bd.notSynchronized Bd.returns rfl rfl (hb hby d27_32) (by decide) (by decide) ?_
  show Q_rmCrbt15 Z vb g h0 n0 _ T6.heap _
  rw [e6]
  exact ⟨a2, rfl, N6, oKeepN kp8 (by omega), by omega, Vc6⟩
theorem ef_rmCort15 (m : MethodId) (x0 : Nat) (x1 : Int32) (x2 : Int32)  : entryFrame m #[(.ref x0), (.int x1), (.int x2)] 3 = mkF m 0 #[.val (.ref x0), .val (.int x1), .val (.int x2)] [] := by first | (simp [entryFrame, mkF, argsToLocals, Value.category, maxLocals]; done) | rfl
def Q_rmCort15 (Z : State) (vb : Nat) (g : Nat → Int32) (h0 : Heap) (n0 : Nat) (vv : Option Value) (h : Heap) (L : List Loc) : Prop := ∃ d : Nat, vv = some (.ref d) ∧ Fr n0 L ∧ Keep h0 h [] ∧ h0.size ≤ d ∧ oAI Z h d .byte 15 (oCpF 0 15 (fun i => g (0 + i)) (fun _ => 0))
set_option maxRecDepth 65536 in
set_option maxHeartbeats 40000000 in
theorem rmCort15 (l : Launch) (Z : State) (a0 : Array Value) (hw : ∀ d ∈ tables_1, d.before a0 Z = true) (ws : List Jvm.Cond) (vb : Nat) (g : Nat → Int32) (h0 : Heap) (n0 : Nat) (Z0 : n0 ≤ h0.size) (PV : oAI Z h0 vb .byte 16 g) (Fg : oFit 16 g) :
    MetFree l (⟨"java/util/Arrays", "copyOfRange", "([BII)[B"⟩ : MethodName) (head1 (Jvm.Cond.code (⟨"java/util/Arrays", "copyOfRange", "([BII)[B"⟩ : MethodName) jdk_65_method_132_code 3 (some (.array .byte)) :: ws) ({ frames := 2, cells := 1, slots := 15, locals := 34 } : Room)) (fun aA uU => aA = #[(.ref vb), (.int (0 : Int32)), (.int (15 : Int32))] ∧ Z.Warmed39 uU.vm ∧ uU.heap = h0) (fun _ _ _ _ _ => True) (fun _ uU oO uU' => ∃ vV lL, oO = .returned vV ∧ Q_rmCort15 Z vb g h0 n0 vV uU'.heap lL ∧ FrameEnd uU oO uU' lL ({ frames := 2, cells := 1, slots := 15, locals := 34 } : Room).cells ({ frames := 2, cells := 1, slots := 15, locals := 34 } : Room).slots) := by
  refine MetFree.of_bodySF (plainFor_of_name pn_Arrays) hisR ?_
  intro p e s m args below meth c s₁ Bd hml0 hP hK
  obtain ⟨rfl, hZ, hh⟩ := hP
  have hx := Bd.exec
  have hby := Bd.bytes
  have hml : c.maxLocals = 3 := hml0
  have hown : s.vm.findClass "java/util/Arrays" = some m.cls := findClass_of_methodNamed Bd.named
  have hnm := (name_of_methodNamed Bd.named Bd.method).1
  have X0 : Stand p l e ({ frames := 2, cells := 1, slots := 15, locals := 34 } : Room) s m #[(.ref vb), (.int (0 : Int32)), (.int (15 : Int32))] below meth c s₁ [] 0 0 := Stand.of_body Bd
  have e0 : s₁.heap = h0 := by rw [← hh, Bd.state]; rfl
  have N0 := Fr.nil n0
  have lV : @LT.lt Nat _ vb h0.size := PV.lt
  refine oEnter (oCast (ef_rmCort15 m vb (0 : Int32) (15 : Int32) ) ?_)
  show oGl p e below (s₁.setTop (mkF m 0 #[.val (.ref vb), .val (.int (0 : Int32)), .val (.int (15 : Int32))] [])) _
  refine siloadN X0 hx (hb hby d26_0) rfl rfl (pc' := 1) ?_
  refine sifN X0 hx (hb hby d26_1) rfl (teq (by decide : (0 : Int32) = (0 : Int32))).2 (pc' := 4) ?_
  refine siloadN X0 hx (hb hby d26_4) rfl rfl (pc' := 5) ?_
  refine saloadN X0 hx (hb hby d26_5) rfl rfl rfl (pc' := 6) ?_
  refine oOn (PV.len X0 hx hZ e0 (g := (mkF m 6 #[.val (.ref vb), .val (.int (0 : Int32)), .val (.int (15 : Int32))] [(.ref vb), (.int (15 : Int32))])) rfl rfl (hb hby d26_6)) ?_
  show oGl p e below (s₁.setTop (mkF m 7 #[.val (.ref vb), .val (.int (0 : Int32)), .val (.int (15 : Int32))] [(.int (16 : Int32)), (.int (15 : Int32))])) _
  refine sicN X0 hx (hb hby d26_7) rfl (feq (by decide : ¬ ((15 : Int32) = (16 : Int32)))).1 (pc' := 10) ?_
  refine saloadN X0 hx (hb hby d26_10) rfl rfl rfl (pc' := 11) ?_
  refine siloadN X0 hx (hb hby d26_11) rfl rfl (pc' := 12) ?_
  refine siloadN X0 hx (hb hby d26_12) rfl rfl (pc' := 13) ?_
  have hz1 : n0 ≤ h0.size := by omega
  obtain ⟨_, _, ⟨T1, L1, k1, n1⟩, -, X1, ⟨Lc1, hQ1, l1, y1, z1⟩, st1⟩ := Jvm.LawKit.callS X0 hx (y := (⟨"java/util/Arrays", "copyOfRangeByte", "([BII)[B"⟩ : MethodName)) hown (mvT hZ (hw _ (List.mem_of_getElem? (i := 162) rfl))) (mvT hZ (hw _ (List.mem_of_getElem? (i := 163) rfl))) (mvT hZ (hw _ (List.mem_of_getElem? (i := 160) rfl))) (mvT hZ (hw _ (List.mem_of_getElem? (i := 164) rfl))) (by decide) (backOf (W := 0) (rmCrbt15 l Z a0 hw [] vb g h0 n0 hz1 PV Fg) hZ (hw _ (List.mem_of_getElem? (i := 164) rfl)) (hw _ (List.mem_of_getElem? (i := 160) rfl)) (by decide) (by decide)) (g := (mkF m 13 #[.val (.ref vb), .val (.int (0 : Int32)), .val (.int (15 : Int32))] [(.int (15 : Int32)), (.int (0 : Int32)), (.ref vb)])) rfl (by rw [hml]; rfl) (argsL := [(.ref vb), (.int (0 : Int32)), (.int (15 : Int32))]) (rest := []) (lenOf pd_9 rfl) rfl (by show 2 * 0 + _ ≤ _; exact Nat.le_of_eq rfl) (hb hby d26_13) (fun _ _ => ⟨rfl, e0, (by decide : 0 + 1 ≤ _), (by decide : 0 + 15 ≤ _)⟩)
  dsimp only [Pt.U, Pt.locs, Pt.cells, Pt.slots] at X1 l1 y1 z1 st1 hQ1
  subst l1 y1 z1
  obtain ⟨d1, rfl, N1q, K1, zd1, Vd1⟩ := hQ1
  have N1 := Fr.app N0 N1q
  have z2 : h0.size ≤ T1.heap.size := K1.1
  refine oOn st1 ?_
  have ld1 : @LT.lt Nat _ d1 T1.heap.size := Vd1.lt
  show oGl p e below (T1.setTop (mkF m 16 #[.val (.ref vb), .val (.int (0 : Int32)), .val (.int (15 : Int32))] [(.ref d1)])) _
  have kp3 : Keep h0 T1.heap [] := ((Keep.refl h0 []).trans K1 all0)
  refine oRetR X1 hx Bd.notSynchronized Bd.returns rfl rfl (hb hby d26_16) (by decide) (by decide) ?_
  show Q_rmCort15 Z vb g h0 n0 _ T1.heap _
  exact ⟨d1, rfl, N1, kp3, by omega, Vd1⟩
theorem ef_rmGvt15 (m : MethodId) (x0 : Nat)  : entryFrame m #[(.ref x0)] 1 = mkF m 0 #[.val (.ref x0)] [] := by first | (simp [entryFrame, mkF, argsToLocals, Value.category, maxLocals]; done) | rfl
def Q_rmGvt15 (Z : State) (sb vb : Nat) (h0 : Heap) (n0 : Nat) (vv : Option Value) (h : Heap) (L : List Loc) : Prop := vv = some (.ref vb) ∧ Fr n0 L ∧ h = h0
set_option maxRecDepth 65536 in
set_option maxHeartbeats 40000000 in
theorem rmGvt15 (l : Launch) (Z : State) (a0 : Array Value) (hw : ∀ d ∈ tables_1, d.before a0 Z = true) (ws : List Jvm.Cond) (sb vb : Nat) (h0 : Heap) (n0 : Nat) (Z0 : n0 ≤ h0.size) (E0 : Exa Z h0 sb "java/lang/StringBuilder") (B0 : Fld Z h0 sb "java/lang/AbstractStringBuilder" "value" "[B" (.ref vb)) (B1 : Fld Z h0 sb "java/lang/AbstractStringBuilder" "coder" "B" (.int 0)) (B2 : Fld Z h0 sb "java/lang/AbstractStringBuilder" "count" "I" (.int 15)) :
    MetFree l (⟨"java/lang/AbstractStringBuilder", "getValue", "()[B"⟩ : MethodName) (head1 (Jvm.Cond.code (⟨"java/lang/AbstractStringBuilder", "getValue", "()[B"⟩ : MethodName) jdk_68_method_64_code 1 (some (.array .byte)) :: ws) ({ frames := 0, cells := 0, slots := 0, locals := 0 } : Room)) (fun aA uU => aA = #[(.ref sb)] ∧ Z.Warmed39 uU.vm ∧ uU.heap = h0) (fun _ _ _ _ _ => True) (fun _ uU oO uU' => ∃ vV lL, oO = .returned vV ∧ Q_rmGvt15 Z sb vb h0 n0 vV uU'.heap lL ∧ FrameEnd uU oO uU' lL ({ frames := 0, cells := 0, slots := 0, locals := 0 } : Room).cells ({ frames := 0, cells := 0, slots := 0, locals := 0 } : Room).slots) := by
  refine MetFree.of_bodySF (plainFor_of_name pn_AbstractStringBuilder) hisR ?_
  intro p e s m args below meth c s₁ Bd hml0 hP hK
  obtain ⟨rfl, hZ, hh⟩ := hP
  have hx := Bd.exec
  have hby := Bd.bytes
  have hml : c.maxLocals = 1 := hml0
  have hown : s.vm.findClass "java/lang/AbstractStringBuilder" = some m.cls := findClass_of_methodNamed Bd.named
  have hnm := (name_of_methodNamed Bd.named Bd.method).1
  have X0 : Stand p l e ({ frames := 0, cells := 0, slots := 0, locals := 0 } : Room) s m #[(.ref sb)] below meth c s₁ [] 0 0 := Stand.of_body Bd
  have e0 : s₁.heap = h0 := by rw [← hh, Bd.state]; rfl
  have N0 := Fr.nil n0
  refine oEnter (oCast (ef_rmGvt15 m sb ) ?_)
  show oGl p e below (s₁.setTop (mkF m 0 #[.val (.ref sb)] [])) _
  refine saloadN X0 hx (hb hby d22_0) rfl rfl rfl (pc' := 1) ?_
  obtain ⟨T1, X1, e1, st1⟩ := getF X0 hx hZ hown (host := "") (Or.inl (hw _ (List.mem_of_getElem? (i := 64) rfl))) Via.refl e0 B0 (g := (mkF m 1 #[.val (.ref sb)] [(.ref sb)])) rfl rfl (hb hby d22_1)
  refine oOn st1 ?_
  show oGl p e below (T1.setTop (mkF m 4 #[.val (.ref sb)] [(.ref vb)])) _
  refine oRetR X1 hx Bd.notSynchronized Bd.returns rfl rfl (hb hby d22_4) (by decide) (by decide) ?_
  show Q_rmGvt15 Z sb vb h0 n0 _ T1.heap _
  rw [e1]
  exact ⟨rfl, N0, rfl⟩
theorem ef_rmAlt15 (m : MethodId) (x0 : Nat)  : entryFrame m #[(.ref x0)] 1 = mkF m 0 #[.val (.ref x0)] [] := by first | (simp [entryFrame, mkF, argsToLocals, Value.category, maxLocals]; done) | rfl
def Q_rmAlt15 (Z : State) (sb vb : Nat) (h0 : Heap) (n0 : Nat) (vv : Option Value) (h : Heap) (L : List Loc) : Prop := vv = some (.int 15) ∧ Fr n0 L ∧ h = h0
set_option maxRecDepth 65536 in
set_option maxHeartbeats 40000000 in
theorem rmAlt15 (l : Launch) (Z : State) (a0 : Array Value) (hw : ∀ d ∈ tables_1, d.before a0 Z = true) (ws : List Jvm.Cond) (sb vb : Nat) (h0 : Heap) (n0 : Nat) (Z0 : n0 ≤ h0.size) (E0 : Exa Z h0 sb "java/lang/StringBuilder") (B0 : Fld Z h0 sb "java/lang/AbstractStringBuilder" "value" "[B" (.ref vb)) (B1 : Fld Z h0 sb "java/lang/AbstractStringBuilder" "coder" "B" (.int 0)) (B2 : Fld Z h0 sb "java/lang/AbstractStringBuilder" "count" "I" (.int 15)) :
    MetFree l (⟨"java/lang/AbstractStringBuilder", "length", "()I"⟩ : MethodName) (head1 (Jvm.Cond.code (⟨"java/lang/AbstractStringBuilder", "length", "()I"⟩ : MethodName) jdk_68_method_6_code 1 (some .int) :: ws) ({ frames := 0, cells := 0, slots := 0, locals := 0 } : Room)) (fun aA uU => aA = #[(.ref sb)] ∧ Z.Warmed39 uU.vm ∧ uU.heap = h0) (fun _ _ _ _ _ => True) (fun _ uU oO uU' => ∃ vV lL, oO = .returned vV ∧ Q_rmAlt15 Z sb vb h0 n0 vV uU'.heap lL ∧ FrameEnd uU oO uU' lL ({ frames := 0, cells := 0, slots := 0, locals := 0 } : Room).cells ({ frames := 0, cells := 0, slots := 0, locals := 0 } : Room).slots) := by
  refine MetFree.of_bodySF (plainFor_of_name pn_AbstractStringBuilder) hisR ?_
  intro p e s m args below meth c s₁ Bd hml0 hP hK
  obtain ⟨rfl, hZ, hh⟩ := hP
  have hx := Bd.exec
  have hby := Bd.bytes
  have hml : c.maxLocals = 1 := hml0
  have hown : s.vm.findClass "java/lang/AbstractStringBuilder" = some m.cls := findClass_of_methodNamed Bd.named
  have hnm := (name_of_methodNamed Bd.named Bd.method).1
  have X0 : Stand p l e ({ frames := 0, cells := 0, slots := 0, locals := 0 } : Room) s m #[(.ref sb)] below meth c s₁ [] 0 0 := Stand.of_body Bd
  have e0 : s₁.heap = h0 := by rw [← hh, Bd.state]; rfl
  have N0 := Fr.nil n0
  refine oEnter (oCast (ef_rmAlt15 m sb ) ?_)
  show oGl p e below (s₁.setTop (mkF m 0 #[.val (.ref sb)] [])) _
  refine saloadN X0 hx (hb hby d24_0) rfl rfl rfl (pc' := 1) ?_
  obtain ⟨T1, X1, e1, st1⟩ := getF X0 hx hZ hown (host := "") (Or.inl (hw _ (List.mem_of_getElem? (i := 92) rfl))) Via.refl e0 B2 (g := (mkF m 1 #[.val (.ref sb)] [(.ref sb)])) rfl rfl (hb hby d24_1)
  refine oOn st1 ?_
  show oGl p e below (T1.setTop (mkF m 4 #[.val (.ref sb)] [(.int (15 : Int32))])) _
  refine oRetI X1 hx Bd.notSynchronized Bd.returns (hb hby d24_4) (by decide) (by decide) ?_
  show Q_rmAlt15 Z sb vb h0 n0 _ T1.heap _
  rw [e1]
  exact ⟨rfl, N0, rfl⟩
theorem ef_rmIlt15 (m : MethodId) (x0 : Nat)  : entryFrame m #[(.ref x0)] 1 = mkF m 0 #[.val (.ref x0)] [] := by first | (simp [entryFrame, mkF, argsToLocals, Value.category, maxLocals]; done) | rfl
def Q_rmIlt15 (Z : State) (sb vb : Nat) (cz : Int32) (h0 : Heap) (n0 : Nat) (vv : Option Value) (h : Heap) (L : List Loc) : Prop := vv = some (.int 1) ∧ Fr n0 L ∧ h = h0
set_option maxRecDepth 65536 in
set_option maxHeartbeats 40000000 in
theorem rmIlt15 (l : Launch) (Z : State) (a0 : Array Value) (hw : ∀ d ∈ tables_1, d.before a0 Z = true) (ws : List Jvm.Cond) (sb vb : Nat) (cz : Int32) (h0 : Heap) (n0 : Nat) (Z0 : n0 ≤ h0.size) (O0 : oOld Z n0 h0) (SCS : Sta Z Z.heap "java/lang/String" "COMPACT_STRINGS" "Z" (.int cz)) (hcz : ¬ cz = (0 : Int32)) (E0 : Exa Z h0 sb "java/lang/StringBuilder") (B0 : Fld Z h0 sb "java/lang/AbstractStringBuilder" "value" "[B" (.ref vb)) (B1 : Fld Z h0 sb "java/lang/AbstractStringBuilder" "coder" "B" (.int 0)) (B2 : Fld Z h0 sb "java/lang/AbstractStringBuilder" "count" "I" (.int 15)) :
    MetFree l (⟨"java/lang/AbstractStringBuilder", "isLatin1", "()Z"⟩ : MethodName) (head1 (Jvm.Cond.code (⟨"java/lang/AbstractStringBuilder", "isLatin1", "()Z"⟩ : MethodName) jdk_68_method_68_code 1 (some .boolean) :: ws) ({ frames := 0, cells := 0, slots := 0, locals := 0 } : Room)) (fun aA uU => aA = #[(.ref sb)] ∧ Z.Warmed39 uU.vm ∧ uU.heap = h0) (fun _ _ _ _ _ => True) (fun _ uU oO uU' => ∃ vV lL, oO = .returned vV ∧ Q_rmIlt15 Z sb vb cz h0 n0 vV uU'.heap lL ∧ FrameEnd uU oO uU' lL ({ frames := 0, cells := 0, slots := 0, locals := 0 } : Room).cells ({ frames := 0, cells := 0, slots := 0, locals := 0 } : Room).slots) := by
  refine MetFree.of_bodySF (plainFor_of_name pn_AbstractStringBuilder) hisR ?_
  intro p e s m args below meth c s₁ Bd hml0 hP hK
  obtain ⟨rfl, hZ, hh⟩ := hP
  have hx := Bd.exec
  have hby := Bd.bytes
  have hml : c.maxLocals = 1 := hml0
  have hown : s.vm.findClass "java/lang/AbstractStringBuilder" = some m.cls := findClass_of_methodNamed Bd.named
  have hnm := (name_of_methodNamed Bd.named Bd.method).1
  have X0 : Stand p l e ({ frames := 0, cells := 0, slots := 0, locals := 0 } : Room) s m #[(.ref sb)] below meth c s₁ [] 0 0 := Stand.of_body Bd
  have e0 : s₁.heap = h0 := by rw [← hh, Bd.state]; rfl
  have N0 := Fr.nil n0
  refine oEnter (oCast (ef_rmIlt15 m sb ) ?_)
  show oGl p e below (s₁.setTop (mkF m 0 #[.val (.ref sb)] [])) _
  obtain ⟨T1, X1, e1, st1⟩ := getS2 X0 hx hZ hown (host := "") (Or.inl (hw _ (List.mem_of_getElem? (i := 63) rfl))) Via.refl e0 (SCS.ext O0.2) (g := (mkF m 0 #[.val (.ref sb)] [])) rfl (hb hby d25_0)
  refine oOn st1 ?_
  show oGl p e below (T1.setTop (mkF m 3 #[.val (.ref sb)] [(.int cz)])) _
  refine sifN X1 hx (hb hby d25_3) rfl (feq (hcz : ¬ (cz = (0 : Int32)))).1 (pc' := 6) ?_
  refine saloadN X1 hx (hb hby d25_6) rfl rfl rfl (pc' := 7) ?_
  obtain ⟨T2, X2, e2, st2⟩ := getF X1 hx hZ hown (host := "") (Or.inl (hw _ (List.mem_of_getElem? (i := 66) rfl))) Via.refl e1 B1 (g := (mkF m 7 #[.val (.ref sb)] [(.ref sb)])) rfl rfl (hb hby d25_7)
  refine oOn st2 ?_
  show oGl p e below (T2.setTop (mkF m 10 #[.val (.ref sb)] [(.int (0 : Int32))])) _
  refine sifN X2 hx (hb hby d25_10) rfl (teq (by decide : (0 : Int32) = (0 : Int32))).2 (pc' := 13) ?_
  refine siconst X2 hx (hb hby d25_13) rfl rfl (z := 1) (pc' := 14) ?_
  refine sgoto X2 hx (hb hby d25_14) (by decide) (by decide)  (pc' := 18) ?_
  refine oRetN (t := .boolean) X2 hx Bd.notSynchronized Bd.returns (by simp) (hb hby d25_18) (by decide) (by decide) ?_
  show Q_rmIlt15 Z sb vb cz h0 n0 _ T2.heap _
  rw [e2]
  exact ⟨rfl, N0, rfl⟩
theorem ef_rmBlt15 (m : MethodId) (x0 : Nat)  : entryFrame m #[(.ref x0)] 1 = mkF m 0 #[.val (.ref x0)] [] := by first | (simp [entryFrame, mkF, argsToLocals, Value.category, maxLocals]; done) | rfl
def Q_rmBlt15 (Z : State) (sb vb : Nat) (h0 : Heap) (n0 : Nat) (vv : Option Value) (h : Heap) (L : List Loc) : Prop := vv = some (.int 15) ∧ Fr n0 L ∧ h = h0
set_option maxRecDepth 65536 in
set_option maxHeartbeats 40000000 in
theorem rmBlt15 (l : Launch) (Z : State) (a0 : Array Value) (hw : ∀ d ∈ tables_1, d.before a0 Z = true) (ws : List Jvm.Cond) (sb vb : Nat) (h0 : Heap) (n0 : Nat) (Z0 : n0 ≤ h0.size) (E0 : Exa Z h0 sb "java/lang/StringBuilder") (B0 : Fld Z h0 sb "java/lang/AbstractStringBuilder" "value" "[B" (.ref vb)) (B1 : Fld Z h0 sb "java/lang/AbstractStringBuilder" "coder" "B" (.int 0)) (B2 : Fld Z h0 sb "java/lang/AbstractStringBuilder" "count" "I" (.int 15)) :
    MetFree l (⟨"java/lang/StringBuilder", "length", "()I"⟩ : MethodName) (head1 (Jvm.Cond.code (⟨"java/lang/StringBuilder", "length", "()I"⟩ : MethodName) jdk_67_method_93_code 1 (some .int) :: ws) ({ frames := 1, cells := 0, slots := 0, locals := 12 } : Room)) (fun aA uU => aA = #[(.ref sb)] ∧ Z.Warmed39 uU.vm ∧ uU.heap = h0) (fun _ _ _ _ _ => True) (fun _ uU oO uU' => ∃ vV lL, oO = .returned vV ∧ Q_rmBlt15 Z sb vb h0 n0 vV uU'.heap lL ∧ FrameEnd uU oO uU' lL ({ frames := 1, cells := 0, slots := 0, locals := 12 } : Room).cells ({ frames := 1, cells := 0, slots := 0, locals := 12 } : Room).slots) := by
  refine MetFree.of_bodySF (plainFor_of_name pn_StringBuilder) hisR ?_
  intro p e s m args below meth c s₁ Bd hml0 hP hK
  obtain ⟨rfl, hZ, hh⟩ := hP
  have hx := Bd.exec
  have hby := Bd.bytes
  have hml : c.maxLocals = 1 := hml0
  have hown : s.vm.findClass "java/lang/StringBuilder" = some m.cls := findClass_of_methodNamed Bd.named
  have hnm := (name_of_methodNamed Bd.named Bd.method).1
  have X0 : Stand p l e ({ frames := 1, cells := 0, slots := 0, locals := 12 } : Room) s m #[(.ref sb)] below meth c s₁ [] 0 0 := Stand.of_body Bd
  have e0 : s₁.heap = h0 := by rw [← hh, Bd.state]; rfl
  have N0 := Fr.nil n0
  refine oEnter (oCast (ef_rmBlt15 m sb ) ?_)
  show oGl p e below (s₁.setTop (mkF m 0 #[.val (.ref sb)] [])) _
  refine saloadN X0 hx (hb hby d23_0) rfl rfl rfl (pc' := 1) ?_
  have hz1 : n0 ≤ h0.size := by omega
  obtain ⟨_, _, ⟨T1, L1, k1, n1⟩, -, X1, ⟨Lc1, hQ1, l1, y1, z1⟩, st1⟩ := superBack X0 hx hZ (y := (⟨"java/lang/AbstractStringBuilder", "length", "()I"⟩ : MethodName)) hown (hw _ (List.mem_of_getElem? (i := 151) rfl)) (oSame (hw _ (List.mem_of_getElem? (i := 146) rfl)) (hw _ (List.mem_of_getElem? (i := 97) rfl)) rfl (by decide)) (hw _ (List.mem_of_getElem? (i := 147) rfl)) (hw _ (List.mem_of_getElem? (i := 76) rfl)) (by decide) (backOf (W := 0) (rmAlt15 l Z a0 hw [] sb vb h0 n0 hz1 E0 B0 B1 B2) hZ (hw _ (List.mem_of_getElem? (i := 152) rfl)) (hw _ (List.mem_of_getElem? (i := 60) rfl)) (by decide) (by decide)) e0 (Ins.self E0) (g := (mkF m 1 #[.val (.ref sb)] [(.ref sb)])) rfl (by rw [hml]; rfl) (hw _ (List.mem_of_getElem? (i := 152) rfl)) (argsL := []) (rest := []) (lenOf pd_4 rfl) rfl (by show 2 * 0 + _ ≤ _; exact Nat.le_of_eq rfl) (hb hby d23_1) (fun _ _ => ⟨rfl, e0, (by decide : 0 + 0 ≤ _), (by decide : 0 + 0 ≤ _)⟩)
  dsimp only [Pt.U, Pt.locs, Pt.cells, Pt.slots] at X1 l1 y1 z1 st1 hQ1
  subst l1 y1 z1
  obtain ⟨rfl, N1q, eh1⟩ := hQ1
  have N1 := Fr.app N0 N1q
  refine oSt st1 ?_
  show oGl p e below (T1.setTop (mkF m 4 #[.val (.ref sb)] [(.int (15 : Int32))])) _
  refine oRetI X1 hx Bd.notSynchronized Bd.returns (hb hby d23_4) (by decide) (by decide) ?_
  show Q_rmBlt15 Z sb vb h0 n0 _ T1.heap _
  rw [eh1]
  exact ⟨rfl, N1, rfl⟩
theorem ef_rmSit15 (m : MethodId) (x0 : Nat) (x1 : Nat)  : entryFrame m #[(.ref x0), (.ref x1), .null] 5 = mkF m 0 #[.val (.ref x0), .val (.ref x1), .val .null, .unset, .unset] [] := by first | (simp [entryFrame, mkF, argsToLocals, Value.category, maxLocals]; done) | rfl
def Q_rmSit15 (Z : State) (x sb vb : Nat) (g : Nat → Int32) (cz : Int32) (h0 : Heap) (n0 : Nat) (vv : Option Value) (h : Heap) (L : List Loc) : Prop := ∃ d : Nat, vv = none ∧ Fr n0 L ∧ Keep h0 h [x] ∧ h0.size ≤ d ∧ Exa Z h x "java/lang/String" ∧ Fld Z h x "java/lang/String" "value" "[B" (.ref d) ∧ Fld Z h x "java/lang/String" "coder" "B" (.int 0) ∧ oAI Z h d .byte 15 (oCpF 0 15 (fun i => g (0 + i)) (fun _ => 0))
set_option maxRecDepth 65536 in
set_option maxHeartbeats 40000000 in
theorem rmSit15 (l : Launch) (Z : State) (a0 : Array Value) (hw : ∀ d ∈ tables_1, d.before a0 Z = true) (ws : List Jvm.Cond) (x sb vb : Nat) (g : Nat → Int32) (cz : Int32) (h0 : Heap) (n0 : Nat) (Z0 : n0 ≤ h0.size) (O0 : oOld Z n0 h0) (SCS : Sta Z Z.heap "java/lang/String" "COMPACT_STRINGS" "Z" (.int cz)) (hcz : ¬ cz = (0 : Int32)) (Q0 : Exa Z h0 x "java/lang/String") (Q1 : Fld Z h0 x "java/lang/String" "value" "[B" .null) (Q2 : Fld Z h0 x "java/lang/String" "coder" "B" (.int 0)) (gx : n0 ≤ x) (nxs : x ≠ sb) (E0 : Exa Z h0 sb "java/lang/StringBuilder") (B0 : Fld Z h0 sb "java/lang/AbstractStringBuilder" "value" "[B" (.ref vb)) (B1 : Fld Z h0 sb "java/lang/AbstractStringBuilder" "coder" "B" (.int 0)) (B2 : Fld Z h0 sb "java/lang/AbstractStringBuilder" "count" "I" (.int 15)) (PV : oAI Z h0 vb .byte 16 g) (Fg : oFit 16 g) :
    MetFree l (⟨"java/lang/String", "<init>", "(Ljava/lang/AbstractStringBuilder;Ljava/lang/Void;)V"⟩ : MethodName) (head1 (Jvm.Cond.code (⟨"java/lang/String", "<init>", "(Ljava/lang/AbstractStringBuilder;Ljava/lang/Void;)V"⟩ : MethodName) jdk_42_method_150_code 5 (none : Option FieldType) :: ws) ({ frames := 3, cells := 1, slots := 15, locals := 49 } : Room)) (fun aA uU => aA = #[(.ref x), (.ref sb), .null] ∧ Z.Warmed39 uU.vm ∧ uU.heap = h0) (fun _ _ _ _ _ => True) (fun _ uU oO uU' => ∃ vV lL, oO = .returned vV ∧ Q_rmSit15 Z x sb vb g cz h0 n0 vV uU'.heap lL ∧ FrameEnd uU oO uU' lL ({ frames := 3, cells := 1, slots := 15, locals := 49 } : Room).cells ({ frames := 3, cells := 1, slots := 15, locals := 49 } : Room).slots) := by
  refine MetFree.of_bodySF (plainFor_of_name pn_String) hisR ?_
  intro p e s m args below meth c s₁ Bd hml0 hP hK
  obtain ⟨rfl, hZ, hh⟩ := hP
  have hx := Bd.exec
  have hby := Bd.bytes
  have hml : c.maxLocals = 5 := hml0
  have hown : s.vm.findClass "java/lang/String" = some m.cls := findClass_of_methodNamed Bd.named
  have hnm := (name_of_methodNamed Bd.named Bd.method).1
  have X0 : Stand p l e ({ frames := 3, cells := 1, slots := 15, locals := 49 } : Room) s m #[(.ref x), (.ref sb), .null] below meth c s₁ [] 0 0 := Stand.of_body Bd
  have e0 : s₁.heap = h0 := by rw [← hh, Bd.state]; rfl
  have N0 := Fr.nil n0
  have lX : @LT.lt Nat _ x h0.size := Q0.lt
  have lS : @LT.lt Nat _ sb h0.size := E0.lt
  have lV : @LT.lt Nat _ vb h0.size := PV.lt
  have nx9 : @Ne Nat x sb := nxs
  have nxv : @Ne Nat x vb := oNeO Q0 (hw _ (List.mem_of_getElem? (i := 6) rfl)) PV
  refine oEnter (oCast (ef_rmSit15 m x sb ) ?_)
  show oGl p e below (s₁.setTop (mkF m 0 #[.val (.ref x), .val (.ref sb), .val .null, .unset, .unset] [])) _
  refine saloadN X0 hx (hb hby d21_0) rfl rfl rfl (pc' := 1) ?_
  obtain ⟨T1, X1, e1, st1⟩ := initO X0 hx hZ hown (hw _ (List.mem_of_getElem? (i := 139) rfl)) (hw _ (List.mem_of_getElem? (i := 29) rfl)) (hw _ (List.mem_of_getElem? (i := 30) rfl)) e0 (g := (mkF m 1 #[.val (.ref x), .val (.ref sb), .val .null, .unset, .unset] [(.ref x)])) rfl (by rw [hml]; rfl) rfl (hb hby d21_1) (by decide) (W := 0) (by show 2 * 0 + _ ≤ _; exact Nat.le_of_eq rfl) (by decide)
  refine oOn st1 ?_
  show oGl p e below (T1.setTop (mkF m 4 #[.val (.ref x), .val (.ref sb), .val .null, .unset, .unset] [])) _
  refine saloadN X1 hx (hb hby d21_4) rfl rfl rfl (pc' := 5) ?_
  have hz2 : n0 ≤ h0.size := by omega
  obtain ⟨cq2, kq2, q2a, q2b, q2c⟩ := isOf hZ e1 E0
  obtain ⟨_, _, ⟨T2, L2, k2, n2⟩, -, X2, ⟨Lc2, hQ2, l2, y2, z2⟩, st2⟩ := X1.virtualBack hx (y := (⟨"java/lang/AbstractStringBuilder", "getValue", "()[B"⟩ : MethodName)) (z := (⟨"java/lang/AbstractStringBuilder", "getValue", "()[B"⟩ : MethodName)) hown (mvT hZ (hw _ (List.mem_of_getElem? (i := 140) rfl))) (mvT hZ (hw _ (List.mem_of_getElem? (i := 141) rfl))) (notFace_of_selects (args := #[]) (mvT hZ (hw _ (List.mem_of_getElem? (i := 143) rfl)))) (mvT hZ (hw _ (List.mem_of_getElem? (i := 143) rfl))) (mvT hZ (hw _ (List.mem_of_getElem? (i := 142) rfl))) (by decide) (backOf (W := 0) (rmGvt15 l Z a0 hw [] sb vb h0 n0 hz2 E0 B0 B1 B2) hZ (hw _ (List.mem_of_getElem? (i := 144) rfl)) (hw _ (List.mem_of_getElem? (i := 60) rfl)) (by decide) (by decide)) q2a q2c (g := (mkF m 5 #[.val (.ref x), .val (.ref sb), .val .null, .unset, .unset] [(.ref sb)])) rfl (by rw [hml]; rfl) (Steps.refl _) (argsL := []) (rest := []) (lenOf pd_10 rfl) rfl (by show 2 * 0 + _ ≤ _; exact Nat.le_of_eq rfl) (hb hby d21_5) (fun _ _ => ⟨rfl, e1, (by decide : 0 + 0 ≤ _), (by decide : 0 + 0 ≤ _)⟩)
  dsimp only [Pt.U, Pt.locs, Pt.cells, Pt.slots] at X2 l2 y2 z2 st2 hQ2
  subst l2 y2 z2
  obtain ⟨rfl, N2q, eh2⟩ := hQ2
  have N2 := Fr.app N0 N2q
  refine oSt st2 ?_
  show oGl p e below (T2.setTop (mkF m 8 #[.val (.ref x), .val (.ref sb), .val .null, .unset, .unset] [(.ref vb)])) _
  refine sastoreN X2 hx (hb hby d21_8) rfl rfl rfl (l' := #[.val (.ref x), .val (.ref sb), .val .null, .val (.ref vb), .unset]) (pc' := 9) ?_
  refine saloadN X2 hx (hb hby d21_9) rfl rfl rfl (pc' := 10) ?_
  have hz3 : n0 ≤ h0.size := by omega
  obtain ⟨cq3, kq3, q3a, q3b, q3c⟩ := isOf hZ eh2 E0
  obtain ⟨_, _, ⟨T3, L3, k3, n3⟩, -, X3, ⟨Lc3, hQ3, l3, y3, z3⟩, st3⟩ := X2.virtualBack hx (y := (⟨"java/lang/AbstractStringBuilder", "length", "()I"⟩ : MethodName)) (z := (⟨"java/lang/StringBuilder", "length", "()I"⟩ : MethodName)) hown (mvT hZ (hw _ (List.mem_of_getElem? (i := 145) rfl))) (mvT hZ (hw _ (List.mem_of_getElem? (i := 146) rfl))) (oNF (as := #[]) (mvT hZ (hw _ (List.mem_of_getElem? (i := 97) rfl))) (y := (⟨"java/lang/AbstractStringBuilder", "length", "()I"⟩ : MethodName)) rfl) (mvT hZ (hw _ (List.mem_of_getElem? (i := 148) rfl))) (mvT hZ (hw _ (List.mem_of_getElem? (i := 149) rfl))) (by decide) (backOf (W := 0) (rmBlt15 l Z a0 hw [] sb vb h0 n0 hz3 E0 B0 B1 B2) hZ (hw _ (List.mem_of_getElem? (i := 150) rfl)) (hw _ (List.mem_of_getElem? (i := 52) rfl)) (by decide) (by decide)) q3a q3c (g := (mkF m 10 #[.val (.ref x), .val (.ref sb), .val .null, .val (.ref vb), .unset] [(.ref sb)])) rfl (by rw [hml]; rfl) (Steps.refl _) (argsL := []) (rest := []) (lenOf pd_4 rfl) rfl (by show 2 * 0 + _ ≤ _; exact Nat.le_of_eq rfl) (hb hby d21_10) (fun _ _ => ⟨rfl, eh2, (by decide : 0 + 0 ≤ _), (by decide : 0 + 0 ≤ _)⟩)
  dsimp only [Pt.U, Pt.locs, Pt.cells, Pt.slots] at X3 l3 y3 z3 st3 hQ3
  subst l3 y3 z3
  obtain ⟨rfl, N3q, eh3⟩ := hQ3
  have N3 := Fr.app N2 N3q
  refine oSt st3 ?_
  show oGl p e below (T3.setTop (mkF m 13 #[.val (.ref x), .val (.ref sb), .val .null, .val (.ref vb), .unset] [(.int (15 : Int32))])) _
  refine sistore X3 hx (hb hby d21_13) rfl rfl (l' := #[.val (.ref x), .val (.ref sb), .val .null, .val (.ref vb), .val (.int (15 : Int32))]) (pc' := 15) ?_
  refine saloadN X3 hx (hb hby d21_15) rfl rfl rfl (pc' := 16) ?_
  have hz4 : n0 ≤ h0.size := by omega
  obtain ⟨cq4, kq4, q4a, q4b, q4c⟩ := isOf hZ eh3 E0
  obtain ⟨_, _, ⟨T4, L4, k4, n4⟩, -, X4, ⟨Lc4, hQ4, l4, y4, z4⟩, st4⟩ := X3.virtualBack hx (y := (⟨"java/lang/AbstractStringBuilder", "isLatin1", "()Z"⟩ : MethodName)) (z := (⟨"java/lang/AbstractStringBuilder", "isLatin1", "()Z"⟩ : MethodName)) hown (mvT hZ (hw _ (List.mem_of_getElem? (i := 153) rfl))) (mvT hZ (hw _ (List.mem_of_getElem? (i := 154) rfl))) (notFace_of_selects (args := #[]) (mvT hZ (hw _ (List.mem_of_getElem? (i := 156) rfl)))) (mvT hZ (hw _ (List.mem_of_getElem? (i := 156) rfl))) (mvT hZ (hw _ (List.mem_of_getElem? (i := 155) rfl))) (by decide) (backOf (W := 0) (rmIlt15 l Z a0 hw [] sb vb cz h0 n0 hz4 O0 SCS hcz E0 B0 B1 B2) hZ (hw _ (List.mem_of_getElem? (i := 157) rfl)) (hw _ (List.mem_of_getElem? (i := 60) rfl)) (by decide) (by decide)) q4a q4c (g := (mkF m 16 #[.val (.ref x), .val (.ref sb), .val .null, .val (.ref vb), .val (.int (15 : Int32))] [(.ref sb)])) rfl (by rw [hml]; rfl) (Steps.refl _) (argsL := []) (rest := []) (lenOf pd_11 rfl) rfl (by show 2 * 0 + _ ≤ _; exact Nat.le_of_eq rfl) (hb hby d21_16) (fun _ _ => ⟨rfl, eh3, (by decide : 0 + 0 ≤ _), (by decide : 0 + 0 ≤ _)⟩)
  dsimp only [Pt.U, Pt.locs, Pt.cells, Pt.slots] at X4 l4 y4 z4 st4 hQ4
  subst l4 y4 z4
  obtain ⟨rfl, N4q, eh4⟩ := hQ4
  have N4 := Fr.app N3 N4q
  refine oSt st4 ?_
  show oGl p e below (T4.setTop (mkF m 19 #[.val (.ref x), .val (.ref sb), .val .null, .val (.ref vb), .val (.int (15 : Int32))] [(.int (1 : Int32))])) _
  refine sifN X4 hx (hb hby d21_19) rfl (feq (by decide : ¬ ((1 : Int32) = (0 : Int32)))).1 (pc' := 22) ?_
  refine saloadN X4 hx (hb hby d21_22) rfl rfl rfl (pc' := 23) ?_
  refine siconst X4 hx (hb hby d21_23) rfl rfl (z := 0) (pc' := 24) ?_
  obtain ⟨T5, h5, X5, e5, W5, st5⟩ := putFN X4 hx hZ hown (hw _ (List.mem_of_getElem? (i := 91) rfl)) Via.refl eh4 Q2 Q0 (Or.inr ⟨(hw _ (List.mem_of_getElem? (i := 9) rfl)), rfl, hnm⟩) (hw _ (List.mem_of_getElem? (i := 6) rfl)) (ty := .byte) (v' := (.int (0 : Int32))) (by decide) rfl rfl (g := (mkF m 24 #[.val (.ref x), .val (.ref sb), .val .null, .val (.ref vb), .val (.int (15 : Int32))] [(.int (0 : Int32)), (.ref x)])) rfl rfl (hb hby d21_24)
  refine oOn st5 ?_
  have z6 : h0.size ≤ h5.size := Nat.le_of_eq W5.size.symm
  have N5 := Fr.snoc X5 N4 (by omega)
  have f5 := Fld.same W5 Q2
  show oGl p e below (T5.setTop (mkF m 27 #[.val (.ref x), .val (.ref sb), .val .null, .val (.ref vb), .val (.int (15 : Int32))] [])) _
  refine saloadN X5 hx (hb hby d21_27) rfl rfl rfl (pc' := 28) ?_
  refine saloadN X5 hx (hb hby d21_28) rfl rfl rfl (pc' := 29) ?_
  refine siconst X5 hx (hb hby d21_29) rfl rfl (z := 0) (pc' := 30) ?_
  refine siload X5 hx (hb hby d21_30) rfl rfl (pc' := 32) ?_
  have f7 := (PV.other W5 (oNe (by omega)))
  have hz8 : n0 ≤ h5.size := by omega
  obtain ⟨_, _, ⟨T8, L8, k8, n8⟩, -, X8, ⟨Lc8, hQ8, l8, y8, z8⟩, st8⟩ := Jvm.LawKit.callS X5 hx (y := (⟨"java/util/Arrays", "copyOfRange", "([BII)[B"⟩ : MethodName)) hown (mvT hZ (hw _ (List.mem_of_getElem? (i := 158) rfl))) (mvT hZ (hw _ (List.mem_of_getElem? (i := 159) rfl))) (mvT hZ (hw _ (List.mem_of_getElem? (i := 160) rfl))) (mvT hZ (hw _ (List.mem_of_getElem? (i := 161) rfl))) (by decide) (backOf (W := 1) (rmCort15 l Z a0 hw [] vb g h5 n0 hz8 f7 Fg) hZ (hw _ (List.mem_of_getElem? (i := 161) rfl)) (hw _ (List.mem_of_getElem? (i := 160) rfl)) (by decide) (by decide)) (g := (mkF m 32 #[.val (.ref x), .val (.ref sb), .val .null, .val (.ref vb), .val (.int (15 : Int32))] [(.int (15 : Int32)), (.int (0 : Int32)), (.ref vb), (.ref x)])) rfl (by rw [hml]; rfl) (argsL := [(.ref vb), (.int (0 : Int32)), (.int (15 : Int32))]) (rest := [(.ref x)]) (lenOf pd_9 rfl) rfl (by show 2 * 0 + _ ≤ _; exact Nat.le_of_eq rfl) (hb hby d21_32) (fun _ _ => ⟨rfl, e5, (by decide : 0 + 1 ≤ _), (by decide : 0 + 15 ≤ _)⟩)
  dsimp only [Pt.U, Pt.locs, Pt.cells, Pt.slots] at X8 l8 y8 z8 st8 hQ8
  subst l8 y8 z8
  obtain ⟨d8, rfl, N8q, K8, zd8, Vd8⟩ := hQ8
  have N8 := Fr.app N5 N8q
  have z9 : h5.size ≤ T8.heap.size := K8.1
  refine oOn st8 ?_
  have ld8 : @LT.lt Nat _ d8 T8.heap.size := Vd8.lt
  show oGl p e below (T8.setTop (mkF m 35 #[.val (.ref x), .val (.ref sb), .val .null, .val (.ref vb), .val (.int (15 : Int32))] [(.ref d8), (.ref x)])) _
  have f11 := ((Q1.other W5 (Or.inr (slot_ne (Or.inr (hw _ (List.mem_of_getElem? (i := 8) rfl))) (Or.inr (hw _ (List.mem_of_getElem? (i := 9) rfl))) (by decide) (t := (.array .byte)) (t' := .byte) (by decide) (by decide)))).keep K8 nin0)
  have f12 := ((Q0.wr W5).keep K8)
  obtain ⟨T10, h10, X10, e10, W10, st10⟩ := putF X8 hx hZ hown (host := "") (Or.inl (hw _ (List.mem_of_getElem? (i := 84) rfl))) Via.refl rfl f11 f12 (Or.inr ⟨(hw _ (List.mem_of_getElem? (i := 8) rfl)), rfl, hnm⟩) (hw _ (List.mem_of_getElem? (i := 6) rfl)) (ty := (.array .byte)) (by decide) rfl rfl (g := (mkF m 35 #[.val (.ref x), .val (.ref sb), .val .null, .val (.ref vb), .val (.int (15 : Int32))] [(.ref d8), (.ref x)])) rfl rfl (hb hby d21_35)
  refine oOn st10 ?_
  have z13 : T8.heap.size ≤ h10.size := Nat.le_of_eq W10.size.symm
  have N10 := Fr.snoc X10 N8 (by omega)
  have f10 := Fld.same W10 f11
  show oGl p e below (T10.setTop (mkF m 38 #[.val (.ref x), .val (.ref sb), .val .null, .val (.ref vb), .val (.int (15 : Int32))] [])) _
  refine sgoto X10 hx (hb hby d21_38) (by decide) (by decide)  (pc' := 97) ?_
  have kp14 : Keep h0 h10 [x] := ((((Keep.refl h0 [x]).wr W5 (Or.inl (List.mem_of_getElem? (i := 0) rfl))).trans K8 all0).wr W10 (Or.inl (List.mem_of_getElem? (i := 0) rfl)))
  have f15 := (f12.wr W10)
  have f16 := ((f5.keep K8 nin0).other W10 (Or.inr (slot_ne (Or.inr (hw _ (List.mem_of_getElem? (i := 9) rfl))) (Or.inr (hw _ (List.mem_of_getElem? (i := 8) rfl))) (by decide) (t := .byte) (t' := (.array .byte)) (by decide) (by decide))))
  have f17 := (Vd8.other W10 (oNe (by omega)))
  refine oRet0 X10 hx Bd.notSynchronized Bd.returns (hb hby d21_97) (by decide) (by decide) ?_
  show Q_rmSit15 Z x sb vb g cz h0 n0 _ T10.heap _
  rw [e10]
  exact ⟨d8, rfl, N10, kp14, by omega, f15, f10, f16, f17⟩
theorem ef_rmS1t15 (m : MethodId) (x0 : Nat) (x1 : Nat)  : entryFrame m #[(.ref x0), (.ref x1)] 2 = mkF m 0 #[.val (.ref x0), .val (.ref x1)] [] := by first | (simp [entryFrame, mkF, argsToLocals, Value.category, maxLocals]; done) | rfl
def Q_rmS1t15 (Z : State) (x sb vb : Nat) (g : Nat → Int32) (cz : Int32) (h0 : Heap) (n0 : Nat) (vv : Option Value) (h : Heap) (L : List Loc) : Prop := ∃ d : Nat, vv = none ∧ Fr n0 L ∧ Keep h0 h [x] ∧ h0.size ≤ d ∧ Exa Z h x "java/lang/String" ∧ Fld Z h x "java/lang/String" "value" "[B" (.ref d) ∧ Fld Z h x "java/lang/String" "coder" "B" (.int 0) ∧ oAI Z h d .byte 15 (oCpF 0 15 (fun i => g (0 + i)) (fun _ => 0))
set_option maxRecDepth 65536 in
set_option maxHeartbeats 40000000 in
theorem rmS1t15 (l : Launch) (Z : State) (a0 : Array Value) (hw : ∀ d ∈ tables_1, d.before a0 Z = true) (ws : List Jvm.Cond) (x sb vb : Nat) (g : Nat → Int32) (cz : Int32) (h0 : Heap) (n0 : Nat) (Z0 : n0 ≤ h0.size) (O0 : oOld Z n0 h0) (SCS : Sta Z Z.heap "java/lang/String" "COMPACT_STRINGS" "Z" (.int cz)) (hcz : ¬ cz = (0 : Int32)) (Q0 : Exa Z h0 x "java/lang/String") (Q1 : Fld Z h0 x "java/lang/String" "value" "[B" .null) (Q2 : Fld Z h0 x "java/lang/String" "coder" "B" (.int 0)) (gx : n0 ≤ x) (nxs : x ≠ sb) (E0 : Exa Z h0 sb "java/lang/StringBuilder") (B0 : Fld Z h0 sb "java/lang/AbstractStringBuilder" "value" "[B" (.ref vb)) (B1 : Fld Z h0 sb "java/lang/AbstractStringBuilder" "coder" "B" (.int 0)) (B2 : Fld Z h0 sb "java/lang/AbstractStringBuilder" "count" "I" (.int 15)) (PV : oAI Z h0 vb .byte 16 g) (Fg : oFit 16 g) :
    MetFree l (⟨"java/lang/String", "<init>", "(Ljava/lang/StringBuilder;)V"⟩ : MethodName) (head1 (Jvm.Cond.code (⟨"java/lang/String", "<init>", "(Ljava/lang/StringBuilder;)V"⟩ : MethodName) jdk_42_method_53_code 2 (none : Option FieldType) :: ws) ({ frames := 4, cells := 1, slots := 15, locals := 65 } : Room)) (fun aA uU => aA = #[(.ref x), (.ref sb)] ∧ Z.Warmed39 uU.vm ∧ uU.heap = h0) (fun _ _ _ _ _ => True) (fun _ uU oO uU' => ∃ vV lL, oO = .returned vV ∧ Q_rmS1t15 Z x sb vb g cz h0 n0 vV uU'.heap lL ∧ FrameEnd uU oO uU' lL ({ frames := 4, cells := 1, slots := 15, locals := 65 } : Room).cells ({ frames := 4, cells := 1, slots := 15, locals := 65 } : Room).slots) := by
  refine MetFree.of_bodySF (plainFor_of_name pn_String) hisR ?_
  intro p e s m args below meth c s₁ Bd hml0 hP hK
  obtain ⟨rfl, hZ, hh⟩ := hP
  have hx := Bd.exec
  have hby := Bd.bytes
  have hml : c.maxLocals = 2 := hml0
  have hown : s.vm.findClass "java/lang/String" = some m.cls := findClass_of_methodNamed Bd.named
  have hnm := (name_of_methodNamed Bd.named Bd.method).1
  have X0 : Stand p l e ({ frames := 4, cells := 1, slots := 15, locals := 65 } : Room) s m #[(.ref x), (.ref sb)] below meth c s₁ [] 0 0 := Stand.of_body Bd
  have e0 : s₁.heap = h0 := by rw [← hh, Bd.state]; rfl
  have N0 := Fr.nil n0
  have lX : @LT.lt Nat _ x h0.size := Q0.lt
  have lS : @LT.lt Nat _ sb h0.size := E0.lt
  have lV : @LT.lt Nat _ vb h0.size := PV.lt
  have nx9 : @Ne Nat x sb := nxs
  have nxv : @Ne Nat x vb := oNeO Q0 (hw _ (List.mem_of_getElem? (i := 6) rfl)) PV
  refine oEnter (oCast (ef_rmS1t15 m x sb ) ?_)
  show oGl p e below (s₁.setTop (mkF m 0 #[.val (.ref x), .val (.ref sb)] [])) _
  refine saloadN X0 hx (hb hby d20_0) rfl rfl rfl (pc' := 1) ?_
  refine saloadN X0 hx (hb hby d20_1) rfl rfl rfl (pc' := 2) ?_
  refine saconst_null X0 hx (hb hby d20_2) rfl  (pc' := 3) ?_
  have hz1 : n0 ≤ h0.size := by omega
  obtain ⟨_, _, ⟨T1, L1, k1, n1⟩, -, X1, ⟨Lc1, hQ1, l1, y1, z1⟩, st1⟩ := X0.specialBack hx (y := (⟨"java/lang/String", "<init>", "(Ljava/lang/AbstractStringBuilder;Ljava/lang/Void;)V"⟩ : MethodName)) rfl hown (mvT hZ (hw _ (List.mem_of_getElem? (i := 136) rfl))) (mvT hZ (hw _ (List.mem_of_getElem? (i := 137) rfl))) (mvT hZ (hw _ (List.mem_of_getElem? (i := 138) rfl))) (by decide) (backOf (W := 0) (rmSit15 l Z a0 hw [] x sb vb g cz h0 n0 hz1 O0 SCS hcz Q0 Q1 Q2 (by omega) nxs E0 B0 B1 B2 PV Fg) hZ (hw _ (List.mem_of_getElem? (i := 138) rfl)) (hw _ (List.mem_of_getElem? (i := 5) rfl)) (by decide) (by decide)) (g := (mkF m 3 #[.val (.ref x), .val (.ref sb)] [.null, (.ref sb), (.ref x)])) rfl (by rw [hml]; rfl) (Steps.refl _) (a := x) (argsL := [(.ref sb), .null]) (rest := []) (lenOf pd_12 rfl) rfl (by show 2 * 0 + _ ≤ _; exact Nat.le_of_eq rfl) (hb hby d20_3) (fun _ _ => ⟨rfl, e0, (by decide : 0 + 1 ≤ _), (by decide : 0 + 15 ≤ _)⟩)
  dsimp only [Pt.U, Pt.locs, Pt.cells, Pt.slots] at X1 l1 y1 z1 st1 hQ1
  subst l1 y1 z1
  obtain ⟨d1, rfl, N1q, K1, zd1, Ex1, Fv1, Fc1, Vd1⟩ := hQ1
  have N1 := Fr.app N0 N1q
  have z2 : h0.size ≤ T1.heap.size := K1.1
  refine oSt st1 ?_
  show oGl p e below (T1.setTop (mkF m 6 #[.val (.ref x), .val (.ref sb)] [])) _
  have kp3 : Keep h0 T1.heap [x] := ((Keep.refl h0 [x]).trans K1 (allS (Or.inl (List.mem_of_getElem? (i := 0) rfl)) all0))
  refine oRet0 X1 hx Bd.notSynchronized Bd.returns (hb hby d20_6) (by decide) (by decide) ?_
  show Q_rmS1t15 Z x sb vb g cz h0 n0 _ T1.heap _
  exact ⟨d1, rfl, N1, kp3, by omega, Ex1, Fv1, Fc1, Vd1⟩
theorem ef_rmTst15 (m : MethodId) (x0 : Nat)  : entryFrame m #[(.ref x0)] 1 = mkF m 0 #[.val (.ref x0)] [] := by first | (simp [entryFrame, mkF, argsToLocals, Value.category, maxLocals]; done) | rfl
def Q_rmTst15 (Z : State) (sb vb : Nat) (g : Nat → Int32) (cz : Int32) (h0 : Heap) (n0 : Nat) (vv : Option Value) (h : Heap) (L : List Loc) : Prop := ∃ x d : Nat, vv = some (.ref x) ∧ Fr n0 L ∧ Keep h0 h [] ∧ h0.size ≤ x ∧ Exa Z h x "java/lang/String" ∧ Fld Z h x "java/lang/String" "value" "[B" (.ref d) ∧ Fld Z h x "java/lang/String" "coder" "B" (.int 0) ∧ oAI Z h d .byte 15 (oCpF 0 15 (fun i => g (0 + i)) (fun _ => 0))
set_option maxRecDepth 65536 in
set_option maxHeartbeats 40000000 in
theorem rmTst15 (l : Launch) (Z : State) (a0 : Array Value) (hw : ∀ d ∈ tables_1, d.before a0 Z = true) (ws : List Jvm.Cond) (sb vb : Nat) (g : Nat → Int32) (cz : Int32) (h0 : Heap) (n0 : Nat) (Z0 : n0 ≤ h0.size) (O0 : oOld Z n0 h0) (SCS : Sta Z Z.heap "java/lang/String" "COMPACT_STRINGS" "Z" (.int cz)) (hcz : ¬ cz = (0 : Int32)) (E0 : Exa Z h0 sb "java/lang/StringBuilder") (B0 : Fld Z h0 sb "java/lang/AbstractStringBuilder" "value" "[B" (.ref vb)) (B1 : Fld Z h0 sb "java/lang/AbstractStringBuilder" "coder" "B" (.int 0)) (B2 : Fld Z h0 sb "java/lang/AbstractStringBuilder" "count" "I" (.int 15)) (PV : oAI Z h0 vb .byte 16 g) (Fg : oFit 16 g) :
    MetFree l (⟨"java/lang/StringBuilder", "toString", "()Ljava/lang/String;"⟩ : MethodName) (head1 (Jvm.Cond.code (⟨"java/lang/StringBuilder", "toString", "()Ljava/lang/String;"⟩ : MethodName) jdk_67_method_42_code 1 (some (.object "java/lang/String")) :: ws) ({ frames := 5, cells := 2, slots := 19, locals := 79 } : Room)) (fun aA uU => aA = #[(.ref sb)] ∧ Z.Warmed39 uU.vm ∧ uU.heap = h0) (fun _ _ _ _ _ => True) (fun _ uU oO uU' => ∃ vV lL, oO = .returned vV ∧ Q_rmTst15 Z sb vb g cz h0 n0 vV uU'.heap lL ∧ FrameEnd uU oO uU' lL ({ frames := 5, cells := 2, slots := 19, locals := 79 } : Room).cells ({ frames := 5, cells := 2, slots := 19, locals := 79 } : Room).slots) := by
  refine MetFree.of_bodySF (plainFor_of_name pn_StringBuilder) hisR ?_
  intro p e s m args below meth c s₁ Bd hml0 hP hK
  obtain ⟨rfl, hZ, hh⟩ := hP
  have hx := Bd.exec
  have hby := Bd.bytes
  have hml : c.maxLocals = 1 := hml0
  have hown : s.vm.findClass "java/lang/StringBuilder" = some m.cls := findClass_of_methodNamed Bd.named
  have hnm := (name_of_methodNamed Bd.named Bd.method).1
  have X0 : Stand p l e ({ frames := 5, cells := 2, slots := 19, locals := 79 } : Room) s m #[(.ref sb)] below meth c s₁ [] 0 0 := Stand.of_body Bd
  have e0 : s₁.heap = h0 := by rw [← hh, Bd.state]; rfl
  have N0 := Fr.nil n0
  have lS : @LT.lt Nat _ sb h0.size := E0.lt
  have lV : @LT.lt Nat _ vb h0.size := PV.lt
  refine oEnter (oCast (ef_rmTst15 m sb ) ?_)
  show oGl p e below (s₁.setTop (mkF m 0 #[.val (.ref sb)] [])) _
  obtain ⟨T1, h1, X1, e1, E1, A1, D1, -, st1⟩ := newO X0 hx hZ hown (hw _ (List.mem_of_getElem? (i := 131) rfl)) (hw _ (List.mem_of_getElem? (i := 6) rfl)) (hw _ (List.mem_of_getElem? (i := 5) rfl)) e0 (g := (mkF m 0 #[.val (.ref sb)] [])) rfl (hb hby d19_0) (by decide) (by decide)
  obtain ⟨a1, g1⟩ : ∃ z, z = h0.size := ⟨_, rfl⟩
  rw [← g1] at A1 D1 st1
  refine oOn st1 ?_
  have z2 : h0.size ≤ h1.size := E1.1
  have lt1 : a1 < h1.size := A1.lt
  have f1_8 : Fld Z h1 a1 "java/lang/String" "value" "[B" .null := D1 (Or.inr (hw _ (List.mem_of_getElem? (i := 8) rfl))) (ty := (.array .byte)) (by decide)
  have f1_9 : Fld Z h1 a1 "java/lang/String" "coder" "B" (.int (0 : Int32)) := D1 (Or.inr (hw _ (List.mem_of_getElem? (i := 9) rfl))) (ty := .byte) (by decide)
  show oGl p e below (T1.setTop (mkF m 3 #[.val (.ref sb)] [(.ref a1)])) _
  refine sdup X1 hx (hb hby d19_3) rfl rfl (pc' := 4) ?_
  refine saloadN X1 hx (hb hby d19_4) rfl rfl rfl (pc' := 5) ?_
  have f3 := (O0.ext E1)
  have f4 := (E0.ext E1)
  have f5 := (B0.ext E1)
  have f6 := (B1.ext E1)
  have f7 := (B2.ext E1)
  have f8 := (PV.ext E1)
  have hz9 : n0 ≤ h1.size := by omega
  obtain ⟨_, _, ⟨T9, L9, k9, n9⟩, -, X9, ⟨Lc9, hQ9, l9, y9, z9⟩, st9⟩ := X1.specialBack hx (y := (⟨"java/lang/String", "<init>", "(Ljava/lang/StringBuilder;)V"⟩ : MethodName)) rfl hown (mvT hZ (hw _ (List.mem_of_getElem? (i := 132) rfl))) (mvT hZ (hw _ (List.mem_of_getElem? (i := 133) rfl))) (mvT hZ (hw _ (List.mem_of_getElem? (i := 135) rfl))) (by decide) (backOf (W := 1) (rmS1t15 l Z a0 hw [] a1 sb vb g cz h1 n0 hz9 f3 SCS hcz A1 f1_8 f1_9 (by omega) (oNe (by omega)) f4 f5 f6 f7 f8 Fg) hZ (hw _ (List.mem_of_getElem? (i := 135) rfl)) (hw _ (List.mem_of_getElem? (i := 5) rfl)) (by decide) (by decide)) (g := (mkF m 5 #[.val (.ref sb)] [(.ref sb), (.ref a1), (.ref a1)])) rfl (by rw [hml]; rfl) (Steps.refl _) (a := a1) (argsL := [(.ref sb)]) (rest := [(.ref a1)]) (lenOf pd_13 rfl) rfl (by show 2 * 0 + _ ≤ _; exact Nat.le_of_eq rfl) (hb hby d19_5) (fun _ _ => ⟨rfl, e1, (by decide : 1 + 1 ≤ _), (by decide : 4 + 15 ≤ _)⟩)
  dsimp only [Pt.U, Pt.locs, Pt.cells, Pt.slots] at X9 l9 y9 z9 st9 hQ9
  subst l9 y9 z9
  obtain ⟨d9, rfl, N9q, K9, zd9, Ex9, Fv9, Fc9, Vd9⟩ := hQ9
  have N9 := Fr.app N0 N9q
  have z10 : h1.size ≤ T9.heap.size := K9.1
  refine oSt st9 ?_
  show oGl p e below (T9.setTop (mkF m 8 #[.val (.ref sb)] [(.ref a1)])) _
  have kp11 : Keep h0 T9.heap [] := (((Keep.refl h0 []).ext E1).trans K9 (allS (Or.inr (by omega)) all0))
  refine oRetR X9 hx Bd.notSynchronized Bd.returns rfl rfl (hb hby d19_8) (by decide) (by decide) ?_
  show Q_rmTst15 Z sb vb g cz h0 n0 _ T9.heap _
  exact ⟨a1, d9, rfl, N9, kp11, by omega, Ex9, Fv9, Fc9, Vd9⟩
theorem ef_rmMint14 (m : MethodId) (x0 : Int32) (x1 : Int32)  : entryFrame m #[(.int x0), (.int x1)] 2 = mkF m 0 #[.val (.int x0), .val (.int x1)] [] := by first | (simp [entryFrame, mkF, argsToLocals, Value.category, maxLocals]; done) | rfl
def Q_rmMint14 (Z : State)  (h0 : Heap) (n0 : Nat) (vv : Option Value) (h : Heap) (L : List Loc) : Prop := vv = some (.int 14) ∧ Fr n0 L ∧ h = h0
set_option maxRecDepth 65536 in
set_option maxHeartbeats 40000000 in
theorem rmMint14 (l : Launch) (Z : State) (a0 : Array Value) (hw : ∀ d ∈ tables_1, d.before a0 Z = true) (ws : List Jvm.Cond)  (h0 : Heap) (n0 : Nat) (Z0 : n0 ≤ h0.size)  :
    MetFree l (⟨"java/lang/Math", "min", "(II)I"⟩ : MethodName) (head1 (Jvm.Cond.code (⟨"java/lang/Math", "min", "(II)I"⟩ : MethodName) jdk_29_method_69_code 2 (some .int) :: ws) ({ frames := 0, cells := 0, slots := 0, locals := 0 } : Room)) (fun aA uU => aA = #[(.int (16 : Int32)), (.int (14 : Int32))] ∧ Z.Warmed39 uU.vm ∧ uU.heap = h0) (fun _ _ _ _ _ => True) (fun _ uU oO uU' => ∃ vV lL, oO = .returned vV ∧ Q_rmMint14 Z  h0 n0 vV uU'.heap lL ∧ FrameEnd uU oO uU' lL ({ frames := 0, cells := 0, slots := 0, locals := 0 } : Room).cells ({ frames := 0, cells := 0, slots := 0, locals := 0 } : Room).slots) := by
  refine MetFree.of_bodySF (by decide +kernel) hisR ?_
  intro p e s m args below meth c s₁ Bd hml0 hP hK
  obtain ⟨rfl, hZ, hh⟩ := hP
  have hx := Bd.exec
  have hby := Bd.bytes
  have hml : c.maxLocals = 2 := hml0
  have hown : s.vm.findClass "java/lang/Math" = some m.cls := findClass_of_methodNamed Bd.named
  have hnm := (name_of_methodNamed Bd.named Bd.method).1
  have X0 : Stand p l e ({ frames := 0, cells := 0, slots := 0, locals := 0 } : Room) s m #[(.int (16 : Int32)), (.int (14 : Int32))] below meth c s₁ [] 0 0 := Stand.of_body Bd
  have e0 : s₁.heap = h0 := by rw [← hh, Bd.state]; rfl
  have N0 := Fr.nil n0
  refine oEnter (oCast (ef_rmMint14 m (16 : Int32) (14 : Int32) ) ?_)
  show oGl p e below (s₁.setTop (mkF m 0 #[.val (.int (16 : Int32)), .val (.int (14 : Int32))] [])) _
  refine siloadN X0 hx (hb hby d29_0) rfl rfl (pc' := 1) ?_
  refine siloadN X0 hx (hb hby d29_1) rfl rfl (pc' := 2) ?_
  refine sicY X0 hx (hb hby d29_2) (by decide) (by decide) (tlt (by decide : (14 : Int32) < (16 : Int32))).2.2.1 (pc' := 9) ?_
  refine siloadN X0 hx (hb hby d29_9) rfl rfl (pc' := 10) ?_
  refine oRetI X0 hx Bd.notSynchronized Bd.returns (hb hby d29_10) (by decide) (by decide) ?_
  show Q_rmMint14 Z  h0 n0 _ s₁.heap _
  rw [e0]
  exact ⟨rfl, N0, rfl⟩
theorem ef_rmChkt14 (m : MethodId) (x0 : Int32) (x1 : Int32)  : entryFrame m #[(.int x0), (.int x1)] 2 = mkF m 0 #[.val (.int x0), .val (.int x1)] [] := by first | (simp [entryFrame, mkF, argsToLocals, Value.category, maxLocals]; done) | rfl
def Q_rmChkt14 (Z : State)  (h0 : Heap) (n0 : Nat) (vv : Option Value) (h : Heap) (L : List Loc) : Prop := vv = none ∧ Fr n0 L ∧ h = h0
set_option maxRecDepth 65536 in
set_option maxHeartbeats 40000000 in
theorem rmChkt14 (l : Launch) (Z : State) (a0 : Array Value) (hw : ∀ d ∈ tables_1, d.before a0 Z = true) (ws : List Jvm.Cond)  (h0 : Heap) (n0 : Nat) (Z0 : n0 ≤ h0.size)  :
    MetFree l (⟨"java/util/Arrays", "checkLength", "(II)V"⟩ : MethodName) (head1 (Jvm.Cond.code (⟨"java/util/Arrays", "checkLength", "(II)V"⟩ : MethodName) jdk_65_method_131_code 2 (none : Option FieldType) :: ws) ({ frames := 0, cells := 0, slots := 0, locals := 0 } : Room)) (fun aA uU => aA = #[(.int (0 : Int32)), (.int (14 : Int32))] ∧ Z.Warmed39 uU.vm ∧ uU.heap = h0) (fun _ _ _ _ _ => True) (fun _ uU oO uU' => ∃ vV lL, oO = .returned vV ∧ Q_rmChkt14 Z  h0 n0 vV uU'.heap lL ∧ FrameEnd uU oO uU' lL ({ frames := 0, cells := 0, slots := 0, locals := 0 } : Room).cells ({ frames := 0, cells := 0, slots := 0, locals := 0 } : Room).slots) := by
  refine MetFree.of_bodySF (plainFor_of_name pn_Arrays) hisR ?_
  intro p e s m args below meth c s₁ Bd hml0 hP hK
  obtain ⟨rfl, hZ, hh⟩ := hP
  have hx := Bd.exec
  have hby := Bd.bytes
  have hml : c.maxLocals = 2 := hml0
  have hown : s.vm.findClass "java/util/Arrays" = some m.cls := findClass_of_methodNamed Bd.named
  have hnm := (name_of_methodNamed Bd.named Bd.method).1
  have X0 : Stand p l e ({ frames := 0, cells := 0, slots := 0, locals := 0 } : Room) s m #[(.int (0 : Int32)), (.int (14 : Int32))] below meth c s₁ [] 0 0 := Stand.of_body Bd
  have e0 : s₁.heap = h0 := by rw [← hh, Bd.state]; rfl
  have N0 := Fr.nil n0
  refine oEnter (oCast (ef_rmChkt14 m (0 : Int32) (14 : Int32) ) ?_)
  show oGl p e below (s₁.setTop (mkF m 0 #[.val (.int (0 : Int32)), .val (.int (14 : Int32))] [])) _
  refine siloadN X0 hx (hb hby d28_0) rfl rfl (pc' := 1) ?_
  refine siloadN X0 hx (hb hby d28_1) rfl rfl (pc' := 2) ?_
  refine sicY X0 hx (hb hby d28_2) (by decide) (by decide) (flt (by decide : ¬ ((14 : Int32) < (0 : Int32)))).2.1 (pc' := 37) ?_
  refine oRet0 X0 hx Bd.notSynchronized Bd.returns (hb hby d28_37) (by decide) (by decide) ?_
  show Q_rmChkt14 Z  h0 n0 _ s₁.heap _
  rw [e0]
  exact ⟨rfl, N0, rfl⟩
theorem ef_rmCrbt14 (m : MethodId) (x0 : Nat) (x1 : Int32) (x2 : Int32)  : entryFrame m #[(.ref x0), (.int x1), (.int x2)] 5 = mkF m 0 #[.val (.ref x0), .val (.int x1), .val (.int x2), .unset, .unset] [] := by first | (simp [entryFrame, mkF, argsToLocals, Value.category, maxLocals]; done) | rfl
def Q_rmCrbt14 (Z : State) (vb : Nat) (g : Nat → Int32) (h0 : Heap) (n0 : Nat) (vv : Option Value) (h : Heap) (L : List Loc) : Prop := ∃ d : Nat, vv = some (.ref d) ∧ Fr n0 L ∧ Keep h0 h [] ∧ h0.size ≤ d ∧ oAI Z h d .byte 14 (oCpF 0 14 (fun i => g (0 + i)) (fun _ => 0))
set_option maxRecDepth 65536 in
set_option maxHeartbeats 40000000 in
theorem rmCrbt14 (l : Launch) (Z : State) (a0 : Array Value) (hw : ∀ d ∈ tables_1, d.before a0 Z = true) (ws : List Jvm.Cond) (vb : Nat) (g : Nat → Int32) (h0 : Heap) (n0 : Nat) (Z0 : n0 ≤ h0.size) (PV : oAI Z h0 vb .byte 16 g) (Fg : oFit 16 g) :
    MetFree l (⟨"java/util/Arrays", "copyOfRangeByte", "([BII)[B"⟩ : MethodName) (head1 (Jvm.Cond.code (⟨"java/util/Arrays", "copyOfRangeByte", "([BII)[B"⟩ : MethodName) jdk_65_method_133_code 5 (some (.array .byte)) :: ws) ({ frames := 1, cells := 1, slots := 14, locals := 18 } : Room)) (fun aA uU => aA = #[(.ref vb), (.int (0 : Int32)), (.int (14 : Int32))] ∧ Z.Warmed39 uU.vm ∧ uU.heap = h0) (fun _ _ _ _ _ => True) (fun _ uU oO uU' => ∃ vV lL, oO = .returned vV ∧ Q_rmCrbt14 Z vb g h0 n0 vV uU'.heap lL ∧ FrameEnd uU oO uU' lL ({ frames := 1, cells := 1, slots := 14, locals := 18 } : Room).cells ({ frames := 1, cells := 1, slots := 14, locals := 18 } : Room).slots) := by
  refine MetFree.of_bodySF (plainFor_of_name pn_Arrays) hisR ?_
  intro p e s m args below meth c s₁ Bd hml0 hP hK
  obtain ⟨rfl, hZ, hh⟩ := hP
  have hx := Bd.exec
  have hby := Bd.bytes
  have hml : c.maxLocals = 5 := hml0
  have hown : s.vm.findClass "java/util/Arrays" = some m.cls := findClass_of_methodNamed Bd.named
  have hnm := (name_of_methodNamed Bd.named Bd.method).1
  have X0 : Stand p l e ({ frames := 1, cells := 1, slots := 14, locals := 18 } : Room) s m #[(.ref vb), (.int (0 : Int32)), (.int (14 : Int32))] below meth c s₁ [] 0 0 := Stand.of_body Bd
  have e0 : s₁.heap = h0 := by rw [← hh, Bd.state]; rfl
  have N0 := Fr.nil n0
  have lV : @LT.lt Nat _ vb h0.size := PV.lt
  refine oEnter (oCast (ef_rmCrbt14 m vb (0 : Int32) (14 : Int32) ) ?_)
  show oGl p e below (s₁.setTop (mkF m 0 #[.val (.ref vb), .val (.int (0 : Int32)), .val (.int (14 : Int32)), .unset, .unset] [])) _
  refine siloadN X0 hx (hb hby d27_0) rfl rfl (pc' := 1) ?_
  refine siloadN X0 hx (hb hby d27_1) rfl rfl (pc' := 2) ?_
  have hz1 : n0 ≤ h0.size := by omega
  obtain ⟨_, _, ⟨T1, L1, k1, n1⟩, -, X1, ⟨Lc1, hQ1, l1, y1, z1⟩, st1⟩ := Jvm.LawKit.callS X0 hx (y := (⟨"java/util/Arrays", "checkLength", "(II)V"⟩ : MethodName)) hown (mvT hZ (hw _ (List.mem_of_getElem? (i := 165) rfl))) (mvT hZ (hw _ (List.mem_of_getElem? (i := 166) rfl))) (mvT hZ (hw _ (List.mem_of_getElem? (i := 160) rfl))) (mvT hZ (hw _ (List.mem_of_getElem? (i := 167) rfl))) (by decide) (backOf (W := 0) (rmChkt14 l Z a0 hw []  h0 n0 hz1 ) hZ (hw _ (List.mem_of_getElem? (i := 167) rfl)) (hw _ (List.mem_of_getElem? (i := 160) rfl)) (by decide) (by decide)) (g := (mkF m 2 #[.val (.ref vb), .val (.int (0 : Int32)), .val (.int (14 : Int32)), .unset, .unset] [(.int (14 : Int32)), (.int (0 : Int32))])) rfl (by rw [hml]; rfl) (argsL := [(.int (0 : Int32)), (.int (14 : Int32))]) (rest := []) (lenOf pd_7 rfl) rfl (by show 2 * 0 + _ ≤ _; exact Nat.le_of_eq rfl) (hb hby d27_2) (fun _ _ => ⟨rfl, e0, (by decide : 0 + 0 ≤ _), (by decide : 0 + 0 ≤ _)⟩)
  dsimp only [Pt.U, Pt.locs, Pt.cells, Pt.slots] at X1 l1 y1 z1 st1 hQ1
  subst l1 y1 z1
  obtain ⟨rfl, N1q, eh1⟩ := hQ1
  have N1 := Fr.app N0 N1q
  refine oOn st1 ?_
  show oGl p e below (T1.setTop (mkF m 5 #[.val (.ref vb), .val (.int (0 : Int32)), .val (.int (14 : Int32)), .unset, .unset] [])) _
  refine siloadN X1 hx (hb hby d27_5) rfl rfl (pc' := 6) ?_
  refine siloadN X1 hx (hb hby d27_6) rfl rfl (pc' := 7) ?_
  refine sisub X1 hx (hb hby d27_7) rfl (by decide) (z := (14 : Int32)) (pc' := 8) ?_
  refine sistoreN X1 hx (hb hby d27_8) rfl rfl (l' := #[.val (.ref vb), .val (.int (0 : Int32)), .val (.int (14 : Int32)), .val (.int (14 : Int32)), .unset]) (pc' := 9) ?_
  refine siloadN X1 hx (hb hby d27_9) rfl rfl (pc' := 10) ?_
  obtain ⟨T2, h2, k2, X2, e2, E2, A2, st2⟩ := newP X1 hx hZ (hw _ (List.mem_of_getElem? (i := 7) rfl)) eh1 (g := (mkF m 10 #[.val (.ref vb), .val (.int (0 : Int32)), .val (.int (14 : Int32)), .val (.int (14 : Int32)), .unset] [(.int (14 : Int32))])) rfl (hb hby d27_10) rfl (by decide) (cap := 14) (by decide) (by decide) (by decide) (by decide)
  obtain ⟨a2, g2⟩ : ∃ z, z = h0.size := ⟨_, rfl⟩
  rw [← g2] at A2 st2
  refine oOn st2 ?_
  have z3 : h0.size ≤ h2.size := E2.1
  have lt2 : a2 < h2.size := A2.lt
  have V2 : oAI Z h2 a2 .byte 14 (fun _ => 0) := oAI.new A2 rfl
  show oGl p e below (T2.setTop (mkF m 12 #[.val (.ref vb), .val (.int (0 : Int32)), .val (.int (14 : Int32)), .val (.int (14 : Int32)), .unset] [(.ref a2)])) _
  refine sastore X2 hx (hb hby d27_12) rfl rfl rfl (l' := #[.val (.ref vb), .val (.int (0 : Int32)), .val (.int (14 : Int32)), .val (.int (14 : Int32)), .val (.ref a2)]) (pc' := 14) ?_
  refine saloadN X2 hx (hb hby d27_14) rfl rfl rfl (pc' := 15) ?_
  refine siloadN X2 hx (hb hby d27_15) rfl rfl (pc' := 16) ?_
  refine saload X2 hx (hb hby d27_16) rfl rfl rfl (pc' := 18) ?_
  refine siconst X2 hx (hb hby d27_18) rfl rfl (z := 0) (pc' := 19) ?_
  refine saloadN X2 hx (hb hby d27_19) rfl rfl rfl (pc' := 20) ?_
  have f4 := (PV.ext E2)
  refine oOn (f4.len X2 hx hZ e2 (g := (mkF m 20 #[.val (.ref vb), .val (.int (0 : Int32)), .val (.int (14 : Int32)), .val (.int (14 : Int32)), .val (.ref a2)] [(.ref vb), (.int (0 : Int32)), (.ref a2), (.int (0 : Int32)), (.ref vb)])) rfl rfl (hb hby d27_20)) ?_
  show oGl p e below (T2.setTop (mkF m 21 #[.val (.ref vb), .val (.int (0 : Int32)), .val (.int (14 : Int32)), .val (.int (14 : Int32)), .val (.ref a2)] [(.int (16 : Int32)), (.int (0 : Int32)), (.ref a2), (.int (0 : Int32)), (.ref vb)])) _
  refine siloadN X2 hx (hb hby d27_21) rfl rfl (pc' := 22) ?_
  refine sisub X2 hx (hb hby d27_22) rfl (by decide) (z := (16 : Int32)) (pc' := 23) ?_
  refine siloadN X2 hx (hb hby d27_23) rfl rfl (pc' := 24) ?_
  have hz5 : n0 ≤ h2.size := by omega
  obtain ⟨_, _, ⟨T5, L5, k5, n5⟩, -, X5, ⟨Lc5, hQ5, l5, y5, z5⟩, st5⟩ := Jvm.LawKit.callS X2 hx (y := (⟨"java/lang/Math", "min", "(II)I"⟩ : MethodName)) hown (mvT hZ (hw _ (List.mem_of_getElem? (i := 168) rfl))) (mvT hZ (hw _ (List.mem_of_getElem? (i := 169) rfl))) (mvT hZ (hw _ (List.mem_of_getElem? (i := 170) rfl))) (mvT hZ (hw _ (List.mem_of_getElem? (i := 171) rfl))) (by decide) (backOf (W := 4) (rmMint14 l Z a0 hw []  h2 n0 hz5 ) hZ (hw _ (List.mem_of_getElem? (i := 171) rfl)) (hw _ (List.mem_of_getElem? (i := 170) rfl)) (by decide) (by decide)) (g := (mkF m 24 #[.val (.ref vb), .val (.int (0 : Int32)), .val (.int (14 : Int32)), .val (.int (14 : Int32)), .val (.ref a2)] [(.int (14 : Int32)), (.int (16 : Int32)), (.int (0 : Int32)), (.ref a2), (.int (0 : Int32)), (.ref vb)])) rfl (by rw [hml]; rfl) (argsL := [(.int (16 : Int32)), (.int (14 : Int32))]) (rest := [(.int (0 : Int32)), (.ref a2), (.int (0 : Int32)), (.ref vb)]) (lenOf pd_8 rfl) rfl (by show 2 * 0 + _ ≤ _; exact Nat.le_of_eq rfl) (hb hby d27_24) (fun _ _ => ⟨rfl, e2, (by decide : 1 + 0 ≤ _), (by decide : 14 + 0 ≤ _)⟩)
  dsimp only [Pt.U, Pt.locs, Pt.cells, Pt.slots] at X5 l5 y5 z5 st5 hQ5
  subst l5 y5 z5
  obtain ⟨rfl, N5q, eh5⟩ := hQ5
  have N5 := Fr.app N1 N5q
  refine oOn st5 ?_
  show oGl p e below (T5.setTop (mkF m 27 #[.val (.ref vb), .val (.int (0 : Int32)), .val (.int (14 : Int32)), .val (.int (14 : Int32)), .val (.ref a2)] [(.int (14 : Int32)), (.int (0 : Int32)), (.ref a2), (.int (0 : Int32)), (.ref vb)])) _
  obtain ⟨T6, h6, L6, X6, e6, N6, K6, V6, st6⟩ := oCp X5 hx hZ hown (hw _ (List.mem_of_getElem? (i := 172) rfl)) (hw _ (List.mem_of_getElem? (i := 118) rfl)) (hw _ (List.mem_of_getElem? (i := 116) rfl)) (hw _ (List.mem_of_getElem? (i := 117) rfl)) eh5 f4 V2 Fg oFit0 (by decide) (by decide) (by decide) (by decide) (by decide) N5 (by omega) (gf := (mkF m 27 #[.val (.ref vb), .val (.int (0 : Int32)), .val (.int (14 : Int32)), .val (.int (14 : Int32)), .val (.ref a2)] [(.int (14 : Int32)), (.int (0 : Int32)), (.ref a2), (.int (0 : Int32)), (.ref vb)])) rfl (by rw [hml]; rfl) (rest := []) rfl (hb hby d27_27) (by decide) (W := 0) (by show 2 * 0 + _ ≤ _; exact Nat.le_of_eq rfl) (by decide)
  refine oOn st6 ?_
  have z7 : h2.size ≤ h6.size := K6.1
  have Vc6 : oAI Z h6 a2 .byte 14 (oCpF 0 14 (fun i => g (0 + i)) (fun _ => 0)) := V6
  show oGl p e below (T6.setTop (mkF m 30 #[.val (.ref vb), .val (.int (0 : Int32)), .val (.int (14 : Int32)), .val (.int (14 : Int32)), .val (.ref a2)] [])) _
  refine saload X6 hx (hb hby d27_30) rfl rfl rfl (pc' := 32) ?_
  have kp8 : Keep h0 h6 [a2] := (((Keep.refl h0 [a2]).ext E2).trans K6 (allS (Or.inl (List.mem_of_getElem? (i := 0) rfl)) all0))
  refine oRetR X6 hx Bd.notSynchronized Bd.returns rfl rfl (hb hby d27_32) (by decide) (by decide) ?_
  show Q_rmCrbt14 Z vb g h0 n0 _ T6.heap _
  rw [e6]
  exact ⟨a2, rfl, N6, oKeepN kp8 (by omega), by omega, Vc6⟩
theorem ef_rmCort14 (m : MethodId) (x0 : Nat) (x1 : Int32) (x2 : Int32)  : entryFrame m #[(.ref x0), (.int x1), (.int x2)] 3 = mkF m 0 #[.val (.ref x0), .val (.int x1), .val (.int x2)] [] := by first | (simp [entryFrame, mkF, argsToLocals, Value.category, maxLocals]; done) | rfl
def Q_rmCort14 (Z : State) (vb : Nat) (g : Nat → Int32) (h0 : Heap) (n0 : Nat) (vv : Option Value) (h : Heap) (L : List Loc) : Prop := ∃ d : Nat, vv = some (.ref d) ∧ Fr n0 L ∧ Keep h0 h [] ∧ h0.size ≤ d ∧ oAI Z h d .byte 14 (oCpF 0 14 (fun i => g (0 + i)) (fun _ => 0))
set_option maxRecDepth 65536 in
set_option maxHeartbeats 40000000 in
theorem rmCort14 (l : Launch) (Z : State) (a0 : Array Value) (hw : ∀ d ∈ tables_1, d.before a0 Z = true) (ws : List Jvm.Cond) (vb : Nat) (g : Nat → Int32) (h0 : Heap) (n0 : Nat) (Z0 : n0 ≤ h0.size) (PV : oAI Z h0 vb .byte 16 g) (Fg : oFit 16 g) :
    MetFree l (⟨"java/util/Arrays", "copyOfRange", "([BII)[B"⟩ : MethodName) (head1 (Jvm.Cond.code (⟨"java/util/Arrays", "copyOfRange", "([BII)[B"⟩ : MethodName) jdk_65_method_132_code 3 (some (.array .byte)) :: ws) ({ frames := 2, cells := 1, slots := 14, locals := 34 } : Room)) (fun aA uU => aA = #[(.ref vb), (.int (0 : Int32)), (.int (14 : Int32))] ∧ Z.Warmed39 uU.vm ∧ uU.heap = h0) (fun _ _ _ _ _ => True) (fun _ uU oO uU' => ∃ vV lL, oO = .returned vV ∧ Q_rmCort14 Z vb g h0 n0 vV uU'.heap lL ∧ FrameEnd uU oO uU' lL ({ frames := 2, cells := 1, slots := 14, locals := 34 } : Room).cells ({ frames := 2, cells := 1, slots := 14, locals := 34 } : Room).slots) := by
  refine MetFree.of_bodySF (plainFor_of_name pn_Arrays) hisR ?_
  intro p e s m args below meth c s₁ Bd hml0 hP hK
  obtain ⟨rfl, hZ, hh⟩ := hP
  have hx := Bd.exec
  have hby := Bd.bytes
  have hml : c.maxLocals = 3 := hml0
  have hown : s.vm.findClass "java/util/Arrays" = some m.cls := findClass_of_methodNamed Bd.named
  have hnm := (name_of_methodNamed Bd.named Bd.method).1
  have X0 : Stand p l e ({ frames := 2, cells := 1, slots := 14, locals := 34 } : Room) s m #[(.ref vb), (.int (0 : Int32)), (.int (14 : Int32))] below meth c s₁ [] 0 0 := Stand.of_body Bd
  have e0 : s₁.heap = h0 := by rw [← hh, Bd.state]; rfl
  have N0 := Fr.nil n0
  have lV : @LT.lt Nat _ vb h0.size := PV.lt
  refine oEnter (oCast (ef_rmCort14 m vb (0 : Int32) (14 : Int32) ) ?_)
  show oGl p e below (s₁.setTop (mkF m 0 #[.val (.ref vb), .val (.int (0 : Int32)), .val (.int (14 : Int32))] [])) _
  refine siloadN X0 hx (hb hby d26_0) rfl rfl (pc' := 1) ?_
  refine sifN X0 hx (hb hby d26_1) rfl (teq (by decide : (0 : Int32) = (0 : Int32))).2 (pc' := 4) ?_
  refine siloadN X0 hx (hb hby d26_4) rfl rfl (pc' := 5) ?_
  refine saloadN X0 hx (hb hby d26_5) rfl rfl rfl (pc' := 6) ?_
  refine oOn (PV.len X0 hx hZ e0 (g := (mkF m 6 #[.val (.ref vb), .val (.int (0 : Int32)), .val (.int (14 : Int32))] [(.ref vb), (.int (14 : Int32))])) rfl rfl (hb hby d26_6)) ?_
  show oGl p e below (s₁.setTop (mkF m 7 #[.val (.ref vb), .val (.int (0 : Int32)), .val (.int (14 : Int32))] [(.int (16 : Int32)), (.int (14 : Int32))])) _
  refine sicN X0 hx (hb hby d26_7) rfl (feq (by decide : ¬ ((14 : Int32) = (16 : Int32)))).1 (pc' := 10) ?_
  refine saloadN X0 hx (hb hby d26_10) rfl rfl rfl (pc' := 11) ?_
  refine siloadN X0 hx (hb hby d26_11) rfl rfl (pc' := 12) ?_
  refine siloadN X0 hx (hb hby d26_12) rfl rfl (pc' := 13) ?_
  have hz1 : n0 ≤ h0.size := by omega
  obtain ⟨_, _, ⟨T1, L1, k1, n1⟩, -, X1, ⟨Lc1, hQ1, l1, y1, z1⟩, st1⟩ := Jvm.LawKit.callS X0 hx (y := (⟨"java/util/Arrays", "copyOfRangeByte", "([BII)[B"⟩ : MethodName)) hown (mvT hZ (hw _ (List.mem_of_getElem? (i := 162) rfl))) (mvT hZ (hw _ (List.mem_of_getElem? (i := 163) rfl))) (mvT hZ (hw _ (List.mem_of_getElem? (i := 160) rfl))) (mvT hZ (hw _ (List.mem_of_getElem? (i := 164) rfl))) (by decide) (backOf (W := 0) (rmCrbt14 l Z a0 hw [] vb g h0 n0 hz1 PV Fg) hZ (hw _ (List.mem_of_getElem? (i := 164) rfl)) (hw _ (List.mem_of_getElem? (i := 160) rfl)) (by decide) (by decide)) (g := (mkF m 13 #[.val (.ref vb), .val (.int (0 : Int32)), .val (.int (14 : Int32))] [(.int (14 : Int32)), (.int (0 : Int32)), (.ref vb)])) rfl (by rw [hml]; rfl) (argsL := [(.ref vb), (.int (0 : Int32)), (.int (14 : Int32))]) (rest := []) (lenOf pd_9 rfl) rfl (by show 2 * 0 + _ ≤ _; exact Nat.le_of_eq rfl) (hb hby d26_13) (fun _ _ => ⟨rfl, e0, (by decide : 0 + 1 ≤ _), (by decide : 0 + 14 ≤ _)⟩)
  dsimp only [Pt.U, Pt.locs, Pt.cells, Pt.slots] at X1 l1 y1 z1 st1 hQ1
  subst l1 y1 z1
  obtain ⟨d1, rfl, N1q, K1, zd1, Vd1⟩ := hQ1
  have N1 := Fr.app N0 N1q
  have z2 : h0.size ≤ T1.heap.size := K1.1
  refine oOn st1 ?_
  have ld1 : @LT.lt Nat _ d1 T1.heap.size := Vd1.lt
  show oGl p e below (T1.setTop (mkF m 16 #[.val (.ref vb), .val (.int (0 : Int32)), .val (.int (14 : Int32))] [(.ref d1)])) _
  have kp3 : Keep h0 T1.heap [] := ((Keep.refl h0 []).trans K1 all0)
  refine oRetR X1 hx Bd.notSynchronized Bd.returns rfl rfl (hb hby d26_16) (by decide) (by decide) ?_
  show Q_rmCort14 Z vb g h0 n0 _ T1.heap _
  exact ⟨d1, rfl, N1, kp3, by omega, Vd1⟩
theorem ef_rmGvt14 (m : MethodId) (x0 : Nat)  : entryFrame m #[(.ref x0)] 1 = mkF m 0 #[.val (.ref x0)] [] := by first | (simp [entryFrame, mkF, argsToLocals, Value.category, maxLocals]; done) | rfl
def Q_rmGvt14 (Z : State) (sb vb : Nat) (h0 : Heap) (n0 : Nat) (vv : Option Value) (h : Heap) (L : List Loc) : Prop := vv = some (.ref vb) ∧ Fr n0 L ∧ h = h0
set_option maxRecDepth 65536 in
set_option maxHeartbeats 40000000 in
theorem rmGvt14 (l : Launch) (Z : State) (a0 : Array Value) (hw : ∀ d ∈ tables_1, d.before a0 Z = true) (ws : List Jvm.Cond) (sb vb : Nat) (h0 : Heap) (n0 : Nat) (Z0 : n0 ≤ h0.size) (E0 : Exa Z h0 sb "java/lang/StringBuilder") (B0 : Fld Z h0 sb "java/lang/AbstractStringBuilder" "value" "[B" (.ref vb)) (B1 : Fld Z h0 sb "java/lang/AbstractStringBuilder" "coder" "B" (.int 0)) (B2 : Fld Z h0 sb "java/lang/AbstractStringBuilder" "count" "I" (.int 14)) :
    MetFree l (⟨"java/lang/AbstractStringBuilder", "getValue", "()[B"⟩ : MethodName) (head1 (Jvm.Cond.code (⟨"java/lang/AbstractStringBuilder", "getValue", "()[B"⟩ : MethodName) jdk_68_method_64_code 1 (some (.array .byte)) :: ws) ({ frames := 0, cells := 0, slots := 0, locals := 0 } : Room)) (fun aA uU => aA = #[(.ref sb)] ∧ Z.Warmed39 uU.vm ∧ uU.heap = h0) (fun _ _ _ _ _ => True) (fun _ uU oO uU' => ∃ vV lL, oO = .returned vV ∧ Q_rmGvt14 Z sb vb h0 n0 vV uU'.heap lL ∧ FrameEnd uU oO uU' lL ({ frames := 0, cells := 0, slots := 0, locals := 0 } : Room).cells ({ frames := 0, cells := 0, slots := 0, locals := 0 } : Room).slots) := by
  refine MetFree.of_bodySF (plainFor_of_name pn_AbstractStringBuilder) hisR ?_
  intro p e s m args below meth c s₁ Bd hml0 hP hK
  obtain ⟨rfl, hZ, hh⟩ := hP
  have hx := Bd.exec
  have hby := Bd.bytes
  have hml : c.maxLocals = 1 := hml0
  have hown : s.vm.findClass "java/lang/AbstractStringBuilder" = some m.cls := findClass_of_methodNamed Bd.named
  have hnm := (name_of_methodNamed Bd.named Bd.method).1
  have X0 : Stand p l e ({ frames := 0, cells := 0, slots := 0, locals := 0 } : Room) s m #[(.ref sb)] below meth c s₁ [] 0 0 := Stand.of_body Bd
  have e0 : s₁.heap = h0 := by rw [← hh, Bd.state]; rfl
  have N0 := Fr.nil n0
  refine oEnter (oCast (ef_rmGvt14 m sb ) ?_)
  show oGl p e below (s₁.setTop (mkF m 0 #[.val (.ref sb)] [])) _
  refine saloadN X0 hx (hb hby d22_0) rfl rfl rfl (pc' := 1) ?_
  obtain ⟨T1, X1, e1, st1⟩ := getF X0 hx hZ hown (host := "") (Or.inl (hw _ (List.mem_of_getElem? (i := 64) rfl))) Via.refl e0 B0 (g := (mkF m 1 #[.val (.ref sb)] [(.ref sb)])) rfl rfl (hb hby d22_1)
  refine oOn st1 ?_
  show oGl p e below (T1.setTop (mkF m 4 #[.val (.ref sb)] [(.ref vb)])) _
  refine oRetR X1 hx Bd.notSynchronized Bd.returns rfl rfl (hb hby d22_4) (by decide) (by decide) ?_
  show Q_rmGvt14 Z sb vb h0 n0 _ T1.heap _
  rw [e1]
  exact ⟨rfl, N0, rfl⟩
theorem ef_rmAlt14 (m : MethodId) (x0 : Nat)  : entryFrame m #[(.ref x0)] 1 = mkF m 0 #[.val (.ref x0)] [] := by first | (simp [entryFrame, mkF, argsToLocals, Value.category, maxLocals]; done) | rfl
def Q_rmAlt14 (Z : State) (sb vb : Nat) (h0 : Heap) (n0 : Nat) (vv : Option Value) (h : Heap) (L : List Loc) : Prop := vv = some (.int 14) ∧ Fr n0 L ∧ h = h0
set_option maxRecDepth 65536 in
set_option maxHeartbeats 40000000 in
theorem rmAlt14 (l : Launch) (Z : State) (a0 : Array Value) (hw : ∀ d ∈ tables_1, d.before a0 Z = true) (ws : List Jvm.Cond) (sb vb : Nat) (h0 : Heap) (n0 : Nat) (Z0 : n0 ≤ h0.size) (E0 : Exa Z h0 sb "java/lang/StringBuilder") (B0 : Fld Z h0 sb "java/lang/AbstractStringBuilder" "value" "[B" (.ref vb)) (B1 : Fld Z h0 sb "java/lang/AbstractStringBuilder" "coder" "B" (.int 0)) (B2 : Fld Z h0 sb "java/lang/AbstractStringBuilder" "count" "I" (.int 14)) :
    MetFree l (⟨"java/lang/AbstractStringBuilder", "length", "()I"⟩ : MethodName) (head1 (Jvm.Cond.code (⟨"java/lang/AbstractStringBuilder", "length", "()I"⟩ : MethodName) jdk_68_method_6_code 1 (some .int) :: ws) ({ frames := 0, cells := 0, slots := 0, locals := 0 } : Room)) (fun aA uU => aA = #[(.ref sb)] ∧ Z.Warmed39 uU.vm ∧ uU.heap = h0) (fun _ _ _ _ _ => True) (fun _ uU oO uU' => ∃ vV lL, oO = .returned vV ∧ Q_rmAlt14 Z sb vb h0 n0 vV uU'.heap lL ∧ FrameEnd uU oO uU' lL ({ frames := 0, cells := 0, slots := 0, locals := 0 } : Room).cells ({ frames := 0, cells := 0, slots := 0, locals := 0 } : Room).slots) := by
  refine MetFree.of_bodySF (plainFor_of_name pn_AbstractStringBuilder) hisR ?_
  intro p e s m args below meth c s₁ Bd hml0 hP hK
  obtain ⟨rfl, hZ, hh⟩ := hP
  have hx := Bd.exec
  have hby := Bd.bytes
  have hml : c.maxLocals = 1 := hml0
  have hown : s.vm.findClass "java/lang/AbstractStringBuilder" = some m.cls := findClass_of_methodNamed Bd.named
  have hnm := (name_of_methodNamed Bd.named Bd.method).1
  have X0 : Stand p l e ({ frames := 0, cells := 0, slots := 0, locals := 0 } : Room) s m #[(.ref sb)] below meth c s₁ [] 0 0 := Stand.of_body Bd
  have e0 : s₁.heap = h0 := by rw [← hh, Bd.state]; rfl
  have N0 := Fr.nil n0
  refine oEnter (oCast (ef_rmAlt14 m sb ) ?_)
  show oGl p e below (s₁.setTop (mkF m 0 #[.val (.ref sb)] [])) _
  refine saloadN X0 hx (hb hby d24_0) rfl rfl rfl (pc' := 1) ?_
  obtain ⟨T1, X1, e1, st1⟩ := getF X0 hx hZ hown (host := "") (Or.inl (hw _ (List.mem_of_getElem? (i := 92) rfl))) Via.refl e0 B2 (g := (mkF m 1 #[.val (.ref sb)] [(.ref sb)])) rfl rfl (hb hby d24_1)
  refine oOn st1 ?_
  show oGl p e below (T1.setTop (mkF m 4 #[.val (.ref sb)] [(.int (14 : Int32))])) _
  refine oRetI X1 hx Bd.notSynchronized Bd.returns (hb hby d24_4) (by decide) (by decide) ?_
  show Q_rmAlt14 Z sb vb h0 n0 _ T1.heap _
  rw [e1]
  exact ⟨rfl, N0, rfl⟩
theorem ef_rmIlt14 (m : MethodId) (x0 : Nat)  : entryFrame m #[(.ref x0)] 1 = mkF m 0 #[.val (.ref x0)] [] := by first | (simp [entryFrame, mkF, argsToLocals, Value.category, maxLocals]; done) | rfl
def Q_rmIlt14 (Z : State) (sb vb : Nat) (cz : Int32) (h0 : Heap) (n0 : Nat) (vv : Option Value) (h : Heap) (L : List Loc) : Prop := vv = some (.int 1) ∧ Fr n0 L ∧ h = h0
set_option maxRecDepth 65536 in
set_option maxHeartbeats 40000000 in
theorem rmIlt14 (l : Launch) (Z : State) (a0 : Array Value) (hw : ∀ d ∈ tables_1, d.before a0 Z = true) (ws : List Jvm.Cond) (sb vb : Nat) (cz : Int32) (h0 : Heap) (n0 : Nat) (Z0 : n0 ≤ h0.size) (O0 : oOld Z n0 h0) (SCS : Sta Z Z.heap "java/lang/String" "COMPACT_STRINGS" "Z" (.int cz)) (hcz : ¬ cz = (0 : Int32)) (E0 : Exa Z h0 sb "java/lang/StringBuilder") (B0 : Fld Z h0 sb "java/lang/AbstractStringBuilder" "value" "[B" (.ref vb)) (B1 : Fld Z h0 sb "java/lang/AbstractStringBuilder" "coder" "B" (.int 0)) (B2 : Fld Z h0 sb "java/lang/AbstractStringBuilder" "count" "I" (.int 14)) :
    MetFree l (⟨"java/lang/AbstractStringBuilder", "isLatin1", "()Z"⟩ : MethodName) (head1 (Jvm.Cond.code (⟨"java/lang/AbstractStringBuilder", "isLatin1", "()Z"⟩ : MethodName) jdk_68_method_68_code 1 (some .boolean) :: ws) ({ frames := 0, cells := 0, slots := 0, locals := 0 } : Room)) (fun aA uU => aA = #[(.ref sb)] ∧ Z.Warmed39 uU.vm ∧ uU.heap = h0) (fun _ _ _ _ _ => True) (fun _ uU oO uU' => ∃ vV lL, oO = .returned vV ∧ Q_rmIlt14 Z sb vb cz h0 n0 vV uU'.heap lL ∧ FrameEnd uU oO uU' lL ({ frames := 0, cells := 0, slots := 0, locals := 0 } : Room).cells ({ frames := 0, cells := 0, slots := 0, locals := 0 } : Room).slots) := by
  refine MetFree.of_bodySF (plainFor_of_name pn_AbstractStringBuilder) hisR ?_
  intro p e s m args below meth c s₁ Bd hml0 hP hK
  obtain ⟨rfl, hZ, hh⟩ := hP
  have hx := Bd.exec
  have hby := Bd.bytes
  have hml : c.maxLocals = 1 := hml0
  have hown : s.vm.findClass "java/lang/AbstractStringBuilder" = some m.cls := findClass_of_methodNamed Bd.named
  have hnm := (name_of_methodNamed Bd.named Bd.method).1
  have X0 : Stand p l e ({ frames := 0, cells := 0, slots := 0, locals := 0 } : Room) s m #[(.ref sb)] below meth c s₁ [] 0 0 := Stand.of_body Bd
  have e0 : s₁.heap = h0 := by rw [← hh, Bd.state]; rfl
  have N0 := Fr.nil n0
  refine oEnter (oCast (ef_rmIlt14 m sb ) ?_)
  show oGl p e below (s₁.setTop (mkF m 0 #[.val (.ref sb)] [])) _
  obtain ⟨T1, X1, e1, st1⟩ := getS2 X0 hx hZ hown (host := "") (Or.inl (hw _ (List.mem_of_getElem? (i := 63) rfl))) Via.refl e0 (SCS.ext O0.2) (g := (mkF m 0 #[.val (.ref sb)] [])) rfl (hb hby d25_0)
  refine oOn st1 ?_
  show oGl p e below (T1.setTop (mkF m 3 #[.val (.ref sb)] [(.int cz)])) _
  refine sifN X1 hx (hb hby d25_3) rfl (feq (hcz : ¬ (cz = (0 : Int32)))).1 (pc' := 6) ?_
  refine saloadN X1 hx (hb hby d25_6) rfl rfl rfl (pc' := 7) ?_
  obtain ⟨T2, X2, e2, st2⟩ := getF X1 hx hZ hown (host := "") (Or.inl (hw _ (List.mem_of_getElem? (i := 66) rfl))) Via.refl e1 B1 (g := (mkF m 7 #[.val (.ref sb)] [(.ref sb)])) rfl rfl (hb hby d25_7)
  refine oOn st2 ?_
  show oGl p e below (T2.setTop (mkF m 10 #[.val (.ref sb)] [(.int (0 : Int32))])) _
  refine sifN X2 hx (hb hby d25_10) rfl (teq (by decide : (0 : Int32) = (0 : Int32))).2 (pc' := 13) ?_
  refine siconst X2 hx (hb hby d25_13) rfl rfl (z := 1) (pc' := 14) ?_
  refine sgoto X2 hx (hb hby d25_14) (by decide) (by decide)  (pc' := 18) ?_
  refine oRetN (t := .boolean) X2 hx Bd.notSynchronized Bd.returns (by simp) (hb hby d25_18) (by decide) (by decide) ?_
  show Q_rmIlt14 Z sb vb cz h0 n0 _ T2.heap _
  rw [e2]
  exact ⟨rfl, N0, rfl⟩
theorem ef_rmBlt14 (m : MethodId) (x0 : Nat)  : entryFrame m #[(.ref x0)] 1 = mkF m 0 #[.val (.ref x0)] [] := by first | (simp [entryFrame, mkF, argsToLocals, Value.category, maxLocals]; done) | rfl
def Q_rmBlt14 (Z : State) (sb vb : Nat) (h0 : Heap) (n0 : Nat) (vv : Option Value) (h : Heap) (L : List Loc) : Prop := vv = some (.int 14) ∧ Fr n0 L ∧ h = h0
set_option maxRecDepth 65536 in
set_option maxHeartbeats 40000000 in
theorem rmBlt14 (l : Launch) (Z : State) (a0 : Array Value) (hw : ∀ d ∈ tables_1, d.before a0 Z = true) (ws : List Jvm.Cond) (sb vb : Nat) (h0 : Heap) (n0 : Nat) (Z0 : n0 ≤ h0.size) (E0 : Exa Z h0 sb "java/lang/StringBuilder") (B0 : Fld Z h0 sb "java/lang/AbstractStringBuilder" "value" "[B" (.ref vb)) (B1 : Fld Z h0 sb "java/lang/AbstractStringBuilder" "coder" "B" (.int 0)) (B2 : Fld Z h0 sb "java/lang/AbstractStringBuilder" "count" "I" (.int 14)) :
    MetFree l (⟨"java/lang/StringBuilder", "length", "()I"⟩ : MethodName) (head1 (Jvm.Cond.code (⟨"java/lang/StringBuilder", "length", "()I"⟩ : MethodName) jdk_67_method_93_code 1 (some .int) :: ws) ({ frames := 1, cells := 0, slots := 0, locals := 12 } : Room)) (fun aA uU => aA = #[(.ref sb)] ∧ Z.Warmed39 uU.vm ∧ uU.heap = h0) (fun _ _ _ _ _ => True) (fun _ uU oO uU' => ∃ vV lL, oO = .returned vV ∧ Q_rmBlt14 Z sb vb h0 n0 vV uU'.heap lL ∧ FrameEnd uU oO uU' lL ({ frames := 1, cells := 0, slots := 0, locals := 12 } : Room).cells ({ frames := 1, cells := 0, slots := 0, locals := 12 } : Room).slots) := by
  refine MetFree.of_bodySF (plainFor_of_name pn_StringBuilder) hisR ?_
  intro p e s m args below meth c s₁ Bd hml0 hP hK
  obtain ⟨rfl, hZ, hh⟩ := hP
  have hx := Bd.exec
  have hby := Bd.bytes
  have hml : c.maxLocals = 1 := hml0
  have hown : s.vm.findClass "java/lang/StringBuilder" = some m.cls := findClass_of_methodNamed Bd.named
  have hnm := (name_of_methodNamed Bd.named Bd.method).1
  have X0 : Stand p l e ({ frames := 1, cells := 0, slots := 0, locals := 12 } : Room) s m #[(.ref sb)] below meth c s₁ [] 0 0 := Stand.of_body Bd
  have e0 : s₁.heap = h0 := by rw [← hh, Bd.state]; rfl
  have N0 := Fr.nil n0
  refine oEnter (oCast (ef_rmBlt14 m sb ) ?_)
  show oGl p e below (s₁.setTop (mkF m 0 #[.val (.ref sb)] [])) _
  refine saloadN X0 hx (hb hby d23_0) rfl rfl rfl (pc' := 1) ?_
  have hz1 : n0 ≤ h0.size := by omega
  obtain ⟨_, _, ⟨T1, L1, k1, n1⟩, -, X1, ⟨Lc1, hQ1, l1, y1, z1⟩, st1⟩ := superBack X0 hx hZ (y := (⟨"java/lang/AbstractStringBuilder", "length", "()I"⟩ : MethodName)) hown (hw _ (List.mem_of_getElem? (i := 151) rfl)) (oSame (hw _ (List.mem_of_getElem? (i := 146) rfl)) (hw _ (List.mem_of_getElem? (i := 97) rfl)) rfl (by decide)) (hw _ (List.mem_of_getElem? (i := 147) rfl)) (hw _ (List.mem_of_getElem? (i := 76) rfl)) (by decide) (backOf (W := 0) (rmAlt14 l Z a0 hw [] sb vb h0 n0 hz1 E0 B0 B1 B2) hZ (hw _ (List.mem_of_getElem? (i := 152) rfl)) (hw _ (List.mem_of_getElem? (i := 60) rfl)) (by decide) (by decide)) e0 (Ins.self E0) (g := (mkF m 1 #[.val (.ref sb)] [(.ref sb)])) rfl (by rw [hml]; rfl) (hw _ (List.mem_of_getElem? (i := 152) rfl)) (argsL := []) (rest := []) (lenOf pd_4 rfl) rfl (by show 2 * 0 + _ ≤ _; exact Nat.le_of_eq rfl) (hb hby d23_1) (fun _ _ => ⟨rfl, e0, (by decide : 0 + 0 ≤ _), (by decide : 0 + 0 ≤ _)⟩)
  dsimp only [Pt.U, Pt.locs, Pt.cells, Pt.slots] at X1 l1 y1 z1 st1 hQ1
  subst l1 y1 z1
  obtain ⟨rfl, N1q, eh1⟩ := hQ1
  have N1 := Fr.app N0 N1q
  refine oSt st1 ?_
  show oGl p e below (T1.setTop (mkF m 4 #[.val (.ref sb)] [(.int (14 : Int32))])) _
  refine oRetI X1 hx Bd.notSynchronized Bd.returns (hb hby d23_4) (by decide) (by decide) ?_
  show Q_rmBlt14 Z sb vb h0 n0 _ T1.heap _
  rw [eh1]
  exact ⟨rfl, N1, rfl⟩
theorem ef_rmSit14 (m : MethodId) (x0 : Nat) (x1 : Nat)  : entryFrame m #[(.ref x0), (.ref x1), .null] 5 = mkF m 0 #[.val (.ref x0), .val (.ref x1), .val .null, .unset, .unset] [] := by first | (simp [entryFrame, mkF, argsToLocals, Value.category, maxLocals]; done) | rfl
def Q_rmSit14 (Z : State) (x sb vb : Nat) (g : Nat → Int32) (cz : Int32) (h0 : Heap) (n0 : Nat) (vv : Option Value) (h : Heap) (L : List Loc) : Prop := ∃ d : Nat, vv = none ∧ Fr n0 L ∧ Keep h0 h [x] ∧ h0.size ≤ d ∧ Exa Z h x "java/lang/String" ∧ Fld Z h x "java/lang/String" "value" "[B" (.ref d) ∧ Fld Z h x "java/lang/String" "coder" "B" (.int 0) ∧ oAI Z h d .byte 14 (oCpF 0 14 (fun i => g (0 + i)) (fun _ => 0))
set_option maxRecDepth 65536 in
set_option maxHeartbeats 40000000 in
theorem rmSit14 (l : Launch) (Z : State) (a0 : Array Value) (hw : ∀ d ∈ tables_1, d.before a0 Z = true) (ws : List Jvm.Cond) (x sb vb : Nat) (g : Nat → Int32) (cz : Int32) (h0 : Heap) (n0 : Nat) (Z0 : n0 ≤ h0.size) (O0 : oOld Z n0 h0) (SCS : Sta Z Z.heap "java/lang/String" "COMPACT_STRINGS" "Z" (.int cz)) (hcz : ¬ cz = (0 : Int32)) (Q0 : Exa Z h0 x "java/lang/String") (Q1 : Fld Z h0 x "java/lang/String" "value" "[B" .null) (Q2 : Fld Z h0 x "java/lang/String" "coder" "B" (.int 0)) (gx : n0 ≤ x) (nxs : x ≠ sb) (E0 : Exa Z h0 sb "java/lang/StringBuilder") (B0 : Fld Z h0 sb "java/lang/AbstractStringBuilder" "value" "[B" (.ref vb)) (B1 : Fld Z h0 sb "java/lang/AbstractStringBuilder" "coder" "B" (.int 0)) (B2 : Fld Z h0 sb "java/lang/AbstractStringBuilder" "count" "I" (.int 14)) (PV : oAI Z h0 vb .byte 16 g) (Fg : oFit 16 g) :
    MetFree l (⟨"java/lang/String", "<init>", "(Ljava/lang/AbstractStringBuilder;Ljava/lang/Void;)V"⟩ : MethodName) (head1 (Jvm.Cond.code (⟨"java/lang/String", "<init>", "(Ljava/lang/AbstractStringBuilder;Ljava/lang/Void;)V"⟩ : MethodName) jdk_42_method_150_code 5 (none : Option FieldType) :: ws) ({ frames := 3, cells := 1, slots := 14, locals := 49 } : Room)) (fun aA uU => aA = #[(.ref x), (.ref sb), .null] ∧ Z.Warmed39 uU.vm ∧ uU.heap = h0) (fun _ _ _ _ _ => True) (fun _ uU oO uU' => ∃ vV lL, oO = .returned vV ∧ Q_rmSit14 Z x sb vb g cz h0 n0 vV uU'.heap lL ∧ FrameEnd uU oO uU' lL ({ frames := 3, cells := 1, slots := 14, locals := 49 } : Room).cells ({ frames := 3, cells := 1, slots := 14, locals := 49 } : Room).slots) := by
  refine MetFree.of_bodySF (plainFor_of_name pn_String) hisR ?_
  intro p e s m args below meth c s₁ Bd hml0 hP hK
  obtain ⟨rfl, hZ, hh⟩ := hP
  have hx := Bd.exec
  have hby := Bd.bytes
  have hml : c.maxLocals = 5 := hml0
  have hown : s.vm.findClass "java/lang/String" = some m.cls := findClass_of_methodNamed Bd.named
  have hnm := (name_of_methodNamed Bd.named Bd.method).1
  have X0 : Stand p l e ({ frames := 3, cells := 1, slots := 14, locals := 49 } : Room) s m #[(.ref x), (.ref sb), .null] below meth c s₁ [] 0 0 := Stand.of_body Bd
  have e0 : s₁.heap = h0 := by rw [← hh, Bd.state]; rfl
  have N0 := Fr.nil n0
  have lX : @LT.lt Nat _ x h0.size := Q0.lt
  have lS : @LT.lt Nat _ sb h0.size := E0.lt
  have lV : @LT.lt Nat _ vb h0.size := PV.lt
  have nx9 : @Ne Nat x sb := nxs
  have nxv : @Ne Nat x vb := oNeO Q0 (hw _ (List.mem_of_getElem? (i := 6) rfl)) PV
  refine oEnter (oCast (ef_rmSit14 m x sb ) ?_)
  show oGl p e below (s₁.setTop (mkF m 0 #[.val (.ref x), .val (.ref sb), .val .null, .unset, .unset] [])) _
  refine saloadN X0 hx (hb hby d21_0) rfl rfl rfl (pc' := 1) ?_
  obtain ⟨T1, X1, e1, st1⟩ := initO X0 hx hZ hown (hw _ (List.mem_of_getElem? (i := 139) rfl)) (hw _ (List.mem_of_getElem? (i := 29) rfl)) (hw _ (List.mem_of_getElem? (i := 30) rfl)) e0 (g := (mkF m 1 #[.val (.ref x), .val (.ref sb), .val .null, .unset, .unset] [(.ref x)])) rfl (by rw [hml]; rfl) rfl (hb hby d21_1) (by decide) (W := 0) (by show 2 * 0 + _ ≤ _; exact Nat.le_of_eq rfl) (by decide)
  refine oOn st1 ?_
  show oGl p e below (T1.setTop (mkF m 4 #[.val (.ref x), .val (.ref sb), .val .null, .unset, .unset] [])) _
  refine saloadN X1 hx (hb hby d21_4) rfl rfl rfl (pc' := 5) ?_
  have hz2 : n0 ≤ h0.size := by omega
  obtain ⟨cq2, kq2, q2a, q2b, q2c⟩ := isOf hZ e1 E0
  obtain ⟨_, _, ⟨T2, L2, k2, n2⟩, -, X2, ⟨Lc2, hQ2, l2, y2, z2⟩, st2⟩ := X1.virtualBack hx (y := (⟨"java/lang/AbstractStringBuilder", "getValue", "()[B"⟩ : MethodName)) (z := (⟨"java/lang/AbstractStringBuilder", "getValue", "()[B"⟩ : MethodName)) hown (mvT hZ (hw _ (List.mem_of_getElem? (i := 140) rfl))) (mvT hZ (hw _ (List.mem_of_getElem? (i := 141) rfl))) (notFace_of_selects (args := #[]) (mvT hZ (hw _ (List.mem_of_getElem? (i := 143) rfl)))) (mvT hZ (hw _ (List.mem_of_getElem? (i := 143) rfl))) (mvT hZ (hw _ (List.mem_of_getElem? (i := 142) rfl))) (by decide) (backOf (W := 0) (rmGvt14 l Z a0 hw [] sb vb h0 n0 hz2 E0 B0 B1 B2) hZ (hw _ (List.mem_of_getElem? (i := 144) rfl)) (hw _ (List.mem_of_getElem? (i := 60) rfl)) (by decide) (by decide)) q2a q2c (g := (mkF m 5 #[.val (.ref x), .val (.ref sb), .val .null, .unset, .unset] [(.ref sb)])) rfl (by rw [hml]; rfl) (Steps.refl _) (argsL := []) (rest := []) (lenOf pd_10 rfl) rfl (by show 2 * 0 + _ ≤ _; exact Nat.le_of_eq rfl) (hb hby d21_5) (fun _ _ => ⟨rfl, e1, (by decide : 0 + 0 ≤ _), (by decide : 0 + 0 ≤ _)⟩)
  dsimp only [Pt.U, Pt.locs, Pt.cells, Pt.slots] at X2 l2 y2 z2 st2 hQ2
  subst l2 y2 z2
  obtain ⟨rfl, N2q, eh2⟩ := hQ2
  have N2 := Fr.app N0 N2q
  refine oSt st2 ?_
  show oGl p e below (T2.setTop (mkF m 8 #[.val (.ref x), .val (.ref sb), .val .null, .unset, .unset] [(.ref vb)])) _
  refine sastoreN X2 hx (hb hby d21_8) rfl rfl rfl (l' := #[.val (.ref x), .val (.ref sb), .val .null, .val (.ref vb), .unset]) (pc' := 9) ?_
  refine saloadN X2 hx (hb hby d21_9) rfl rfl rfl (pc' := 10) ?_
  have hz3 : n0 ≤ h0.size := by omega
  obtain ⟨cq3, kq3, q3a, q3b, q3c⟩ := isOf hZ eh2 E0
  obtain ⟨_, _, ⟨T3, L3, k3, n3⟩, -, X3, ⟨Lc3, hQ3, l3, y3, z3⟩, st3⟩ := X2.virtualBack hx (y := (⟨"java/lang/AbstractStringBuilder", "length", "()I"⟩ : MethodName)) (z := (⟨"java/lang/StringBuilder", "length", "()I"⟩ : MethodName)) hown (mvT hZ (hw _ (List.mem_of_getElem? (i := 145) rfl))) (mvT hZ (hw _ (List.mem_of_getElem? (i := 146) rfl))) (oNF (as := #[]) (mvT hZ (hw _ (List.mem_of_getElem? (i := 97) rfl))) (y := (⟨"java/lang/AbstractStringBuilder", "length", "()I"⟩ : MethodName)) rfl) (mvT hZ (hw _ (List.mem_of_getElem? (i := 148) rfl))) (mvT hZ (hw _ (List.mem_of_getElem? (i := 149) rfl))) (by decide) (backOf (W := 0) (rmBlt14 l Z a0 hw [] sb vb h0 n0 hz3 E0 B0 B1 B2) hZ (hw _ (List.mem_of_getElem? (i := 150) rfl)) (hw _ (List.mem_of_getElem? (i := 52) rfl)) (by decide) (by decide)) q3a q3c (g := (mkF m 10 #[.val (.ref x), .val (.ref sb), .val .null, .val (.ref vb), .unset] [(.ref sb)])) rfl (by rw [hml]; rfl) (Steps.refl _) (argsL := []) (rest := []) (lenOf pd_4 rfl) rfl (by show 2 * 0 + _ ≤ _; exact Nat.le_of_eq rfl) (hb hby d21_10) (fun _ _ => ⟨rfl, eh2, (by decide : 0 + 0 ≤ _), (by decide : 0 + 0 ≤ _)⟩)
  dsimp only [Pt.U, Pt.locs, Pt.cells, Pt.slots] at X3 l3 y3 z3 st3 hQ3
  subst l3 y3 z3
  obtain ⟨rfl, N3q, eh3⟩ := hQ3
  have N3 := Fr.app N2 N3q
  refine oSt st3 ?_
  show oGl p e below (T3.setTop (mkF m 13 #[.val (.ref x), .val (.ref sb), .val .null, .val (.ref vb), .unset] [(.int (14 : Int32))])) _
  refine sistore X3 hx (hb hby d21_13) rfl rfl (l' := #[.val (.ref x), .val (.ref sb), .val .null, .val (.ref vb), .val (.int (14 : Int32))]) (pc' := 15) ?_
  refine saloadN X3 hx (hb hby d21_15) rfl rfl rfl (pc' := 16) ?_
  have hz4 : n0 ≤ h0.size := by omega
  obtain ⟨cq4, kq4, q4a, q4b, q4c⟩ := isOf hZ eh3 E0
  obtain ⟨_, _, ⟨T4, L4, k4, n4⟩, -, X4, ⟨Lc4, hQ4, l4, y4, z4⟩, st4⟩ := X3.virtualBack hx (y := (⟨"java/lang/AbstractStringBuilder", "isLatin1", "()Z"⟩ : MethodName)) (z := (⟨"java/lang/AbstractStringBuilder", "isLatin1", "()Z"⟩ : MethodName)) hown (mvT hZ (hw _ (List.mem_of_getElem? (i := 153) rfl))) (mvT hZ (hw _ (List.mem_of_getElem? (i := 154) rfl))) (notFace_of_selects (args := #[]) (mvT hZ (hw _ (List.mem_of_getElem? (i := 156) rfl)))) (mvT hZ (hw _ (List.mem_of_getElem? (i := 156) rfl))) (mvT hZ (hw _ (List.mem_of_getElem? (i := 155) rfl))) (by decide) (backOf (W := 0) (rmIlt14 l Z a0 hw [] sb vb cz h0 n0 hz4 O0 SCS hcz E0 B0 B1 B2) hZ (hw _ (List.mem_of_getElem? (i := 157) rfl)) (hw _ (List.mem_of_getElem? (i := 60) rfl)) (by decide) (by decide)) q4a q4c (g := (mkF m 16 #[.val (.ref x), .val (.ref sb), .val .null, .val (.ref vb), .val (.int (14 : Int32))] [(.ref sb)])) rfl (by rw [hml]; rfl) (Steps.refl _) (argsL := []) (rest := []) (lenOf pd_11 rfl) rfl (by show 2 * 0 + _ ≤ _; exact Nat.le_of_eq rfl) (hb hby d21_16) (fun _ _ => ⟨rfl, eh3, (by decide : 0 + 0 ≤ _), (by decide : 0 + 0 ≤ _)⟩)
  dsimp only [Pt.U, Pt.locs, Pt.cells, Pt.slots] at X4 l4 y4 z4 st4 hQ4
  subst l4 y4 z4
  obtain ⟨rfl, N4q, eh4⟩ := hQ4
  have N4 := Fr.app N3 N4q
  refine oSt st4 ?_
  show oGl p e below (T4.setTop (mkF m 19 #[.val (.ref x), .val (.ref sb), .val .null, .val (.ref vb), .val (.int (14 : Int32))] [(.int (1 : Int32))])) _
  refine sifN X4 hx (hb hby d21_19) rfl (feq (by decide : ¬ ((1 : Int32) = (0 : Int32)))).1 (pc' := 22) ?_
  refine saloadN X4 hx (hb hby d21_22) rfl rfl rfl (pc' := 23) ?_
  refine siconst X4 hx (hb hby d21_23) rfl rfl (z := 0) (pc' := 24) ?_
  obtain ⟨T5, h5, X5, e5, W5, st5⟩ := putFN X4 hx hZ hown (hw _ (List.mem_of_getElem? (i := 91) rfl)) Via.refl eh4 Q2 Q0 (Or.inr ⟨(hw _ (List.mem_of_getElem? (i := 9) rfl)), rfl, hnm⟩) (hw _ (List.mem_of_getElem? (i := 6) rfl)) (ty := .byte) (v' := (.int (0 : Int32))) (by decide) rfl rfl (g := (mkF m 24 #[.val (.ref x), .val (.ref sb), .val .null, .val (.ref vb), .val (.int (14 : Int32))] [(.int (0 : Int32)), (.ref x)])) rfl rfl (hb hby d21_24)
  refine oOn st5 ?_
  have z6 : h0.size ≤ h5.size := Nat.le_of_eq W5.size.symm
  have N5 := Fr.snoc X5 N4 (by omega)
  have f5 := Fld.same W5 Q2
  show oGl p e below (T5.setTop (mkF m 27 #[.val (.ref x), .val (.ref sb), .val .null, .val (.ref vb), .val (.int (14 : Int32))] [])) _
  refine saloadN X5 hx (hb hby d21_27) rfl rfl rfl (pc' := 28) ?_
  refine saloadN X5 hx (hb hby d21_28) rfl rfl rfl (pc' := 29) ?_
  refine siconst X5 hx (hb hby d21_29) rfl rfl (z := 0) (pc' := 30) ?_
  refine siload X5 hx (hb hby d21_30) rfl rfl (pc' := 32) ?_
  have f7 := (PV.other W5 (oNe (by omega)))
  have hz8 : n0 ≤ h5.size := by omega
  obtain ⟨_, _, ⟨T8, L8, k8, n8⟩, -, X8, ⟨Lc8, hQ8, l8, y8, z8⟩, st8⟩ := Jvm.LawKit.callS X5 hx (y := (⟨"java/util/Arrays", "copyOfRange", "([BII)[B"⟩ : MethodName)) hown (mvT hZ (hw _ (List.mem_of_getElem? (i := 158) rfl))) (mvT hZ (hw _ (List.mem_of_getElem? (i := 159) rfl))) (mvT hZ (hw _ (List.mem_of_getElem? (i := 160) rfl))) (mvT hZ (hw _ (List.mem_of_getElem? (i := 161) rfl))) (by decide) (backOf (W := 1) (rmCort14 l Z a0 hw [] vb g h5 n0 hz8 f7 Fg) hZ (hw _ (List.mem_of_getElem? (i := 161) rfl)) (hw _ (List.mem_of_getElem? (i := 160) rfl)) (by decide) (by decide)) (g := (mkF m 32 #[.val (.ref x), .val (.ref sb), .val .null, .val (.ref vb), .val (.int (14 : Int32))] [(.int (14 : Int32)), (.int (0 : Int32)), (.ref vb), (.ref x)])) rfl (by rw [hml]; rfl) (argsL := [(.ref vb), (.int (0 : Int32)), (.int (14 : Int32))]) (rest := [(.ref x)]) (lenOf pd_9 rfl) rfl (by show 2 * 0 + _ ≤ _; exact Nat.le_of_eq rfl) (hb hby d21_32) (fun _ _ => ⟨rfl, e5, (by decide : 0 + 1 ≤ _), (by decide : 0 + 14 ≤ _)⟩)
  dsimp only [Pt.U, Pt.locs, Pt.cells, Pt.slots] at X8 l8 y8 z8 st8 hQ8
  subst l8 y8 z8
  obtain ⟨d8, rfl, N8q, K8, zd8, Vd8⟩ := hQ8
  have N8 := Fr.app N5 N8q
  have z9 : h5.size ≤ T8.heap.size := K8.1
  refine oOn st8 ?_
  have ld8 : @LT.lt Nat _ d8 T8.heap.size := Vd8.lt
  show oGl p e below (T8.setTop (mkF m 35 #[.val (.ref x), .val (.ref sb), .val .null, .val (.ref vb), .val (.int (14 : Int32))] [(.ref d8), (.ref x)])) _
  have f11 := ((Q1.other W5 (Or.inr (slot_ne (Or.inr (hw _ (List.mem_of_getElem? (i := 8) rfl))) (Or.inr (hw _ (List.mem_of_getElem? (i := 9) rfl))) (by decide) (t := (.array .byte)) (t' := .byte) (by decide) (by decide)))).keep K8 nin0)
  have f12 := ((Q0.wr W5).keep K8)
  obtain ⟨T10, h10, X10, e10, W10, st10⟩ := putF X8 hx hZ hown (host := "") (Or.inl (hw _ (List.mem_of_getElem? (i := 84) rfl))) Via.refl rfl f11 f12 (Or.inr ⟨(hw _ (List.mem_of_getElem? (i := 8) rfl)), rfl, hnm⟩) (hw _ (List.mem_of_getElem? (i := 6) rfl)) (ty := (.array .byte)) (by decide) rfl rfl (g := (mkF m 35 #[.val (.ref x), .val (.ref sb), .val .null, .val (.ref vb), .val (.int (14 : Int32))] [(.ref d8), (.ref x)])) rfl rfl (hb hby d21_35)
  refine oOn st10 ?_
  have z13 : T8.heap.size ≤ h10.size := Nat.le_of_eq W10.size.symm
  have N10 := Fr.snoc X10 N8 (by omega)
  have f10 := Fld.same W10 f11
  show oGl p e below (T10.setTop (mkF m 38 #[.val (.ref x), .val (.ref sb), .val .null, .val (.ref vb), .val (.int (14 : Int32))] [])) _
  refine sgoto X10 hx (hb hby d21_38) (by decide) (by decide)  (pc' := 97) ?_
  have kp14 : Keep h0 h10 [x] := ((((Keep.refl h0 [x]).wr W5 (Or.inl (List.mem_of_getElem? (i := 0) rfl))).trans K8 all0).wr W10 (Or.inl (List.mem_of_getElem? (i := 0) rfl)))
  have f15 := (f12.wr W10)
  have f16 := ((f5.keep K8 nin0).other W10 (Or.inr (slot_ne (Or.inr (hw _ (List.mem_of_getElem? (i := 9) rfl))) (Or.inr (hw _ (List.mem_of_getElem? (i := 8) rfl))) (by decide) (t := .byte) (t' := (.array .byte)) (by decide) (by decide))))
  have f17 := (Vd8.other W10 (oNe (by omega)))
  refine oRet0 X10 hx Bd.notSynchronized Bd.returns (hb hby d21_97) (by decide) (by decide) ?_
  show Q_rmSit14 Z x sb vb g cz h0 n0 _ T10.heap _
  rw [e10]
  exact ⟨d8, rfl, N10, kp14, by omega, f15, f10, f16, f17⟩
theorem ef_rmS1t14 (m : MethodId) (x0 : Nat) (x1 : Nat)  : entryFrame m #[(.ref x0), (.ref x1)] 2 = mkF m 0 #[.val (.ref x0), .val (.ref x1)] [] := by first | (simp [entryFrame, mkF, argsToLocals, Value.category, maxLocals]; done) | rfl
def Q_rmS1t14 (Z : State) (x sb vb : Nat) (g : Nat → Int32) (cz : Int32) (h0 : Heap) (n0 : Nat) (vv : Option Value) (h : Heap) (L : List Loc) : Prop := ∃ d : Nat, vv = none ∧ Fr n0 L ∧ Keep h0 h [x] ∧ h0.size ≤ d ∧ Exa Z h x "java/lang/String" ∧ Fld Z h x "java/lang/String" "value" "[B" (.ref d) ∧ Fld Z h x "java/lang/String" "coder" "B" (.int 0) ∧ oAI Z h d .byte 14 (oCpF 0 14 (fun i => g (0 + i)) (fun _ => 0))
set_option maxRecDepth 65536 in
set_option maxHeartbeats 40000000 in
theorem rmS1t14 (l : Launch) (Z : State) (a0 : Array Value) (hw : ∀ d ∈ tables_1, d.before a0 Z = true) (ws : List Jvm.Cond) (x sb vb : Nat) (g : Nat → Int32) (cz : Int32) (h0 : Heap) (n0 : Nat) (Z0 : n0 ≤ h0.size) (O0 : oOld Z n0 h0) (SCS : Sta Z Z.heap "java/lang/String" "COMPACT_STRINGS" "Z" (.int cz)) (hcz : ¬ cz = (0 : Int32)) (Q0 : Exa Z h0 x "java/lang/String") (Q1 : Fld Z h0 x "java/lang/String" "value" "[B" .null) (Q2 : Fld Z h0 x "java/lang/String" "coder" "B" (.int 0)) (gx : n0 ≤ x) (nxs : x ≠ sb) (E0 : Exa Z h0 sb "java/lang/StringBuilder") (B0 : Fld Z h0 sb "java/lang/AbstractStringBuilder" "value" "[B" (.ref vb)) (B1 : Fld Z h0 sb "java/lang/AbstractStringBuilder" "coder" "B" (.int 0)) (B2 : Fld Z h0 sb "java/lang/AbstractStringBuilder" "count" "I" (.int 14)) (PV : oAI Z h0 vb .byte 16 g) (Fg : oFit 16 g) :
    MetFree l (⟨"java/lang/String", "<init>", "(Ljava/lang/StringBuilder;)V"⟩ : MethodName) (head1 (Jvm.Cond.code (⟨"java/lang/String", "<init>", "(Ljava/lang/StringBuilder;)V"⟩ : MethodName) jdk_42_method_53_code 2 (none : Option FieldType) :: ws) ({ frames := 4, cells := 1, slots := 14, locals := 65 } : Room)) (fun aA uU => aA = #[(.ref x), (.ref sb)] ∧ Z.Warmed39 uU.vm ∧ uU.heap = h0) (fun _ _ _ _ _ => True) (fun _ uU oO uU' => ∃ vV lL, oO = .returned vV ∧ Q_rmS1t14 Z x sb vb g cz h0 n0 vV uU'.heap lL ∧ FrameEnd uU oO uU' lL ({ frames := 4, cells := 1, slots := 14, locals := 65 } : Room).cells ({ frames := 4, cells := 1, slots := 14, locals := 65 } : Room).slots) := by
  refine MetFree.of_bodySF (plainFor_of_name pn_String) hisR ?_
  intro p e s m args below meth c s₁ Bd hml0 hP hK
  obtain ⟨rfl, hZ, hh⟩ := hP
  have hx := Bd.exec
  have hby := Bd.bytes
  have hml : c.maxLocals = 2 := hml0
  have hown : s.vm.findClass "java/lang/String" = some m.cls := findClass_of_methodNamed Bd.named
  have hnm := (name_of_methodNamed Bd.named Bd.method).1
  have X0 : Stand p l e ({ frames := 4, cells := 1, slots := 14, locals := 65 } : Room) s m #[(.ref x), (.ref sb)] below meth c s₁ [] 0 0 := Stand.of_body Bd
  have e0 : s₁.heap = h0 := by rw [← hh, Bd.state]; rfl
  have N0 := Fr.nil n0
  have lX : @LT.lt Nat _ x h0.size := Q0.lt
  have lS : @LT.lt Nat _ sb h0.size := E0.lt
  have lV : @LT.lt Nat _ vb h0.size := PV.lt
  have nx9 : @Ne Nat x sb := nxs
  have nxv : @Ne Nat x vb := oNeO Q0 (hw _ (List.mem_of_getElem? (i := 6) rfl)) PV
  refine oEnter (oCast (ef_rmS1t14 m x sb ) ?_)
  show oGl p e below (s₁.setTop (mkF m 0 #[.val (.ref x), .val (.ref sb)] [])) _
  refine saloadN X0 hx (hb hby d20_0) rfl rfl rfl (pc' := 1) ?_
  refine saloadN X0 hx (hb hby d20_1) rfl rfl rfl (pc' := 2) ?_
  refine saconst_null X0 hx (hb hby d20_2) rfl  (pc' := 3) ?_
  have hz1 : n0 ≤ h0.size := by omega
  obtain ⟨_, _, ⟨T1, L1, k1, n1⟩, -, X1, ⟨Lc1, hQ1, l1, y1, z1⟩, st1⟩ := X0.specialBack hx (y := (⟨"java/lang/String", "<init>", "(Ljava/lang/AbstractStringBuilder;Ljava/lang/Void;)V"⟩ : MethodName)) rfl hown (mvT hZ (hw _ (List.mem_of_getElem? (i := 136) rfl))) (mvT hZ (hw _ (List.mem_of_getElem? (i := 137) rfl))) (mvT hZ (hw _ (List.mem_of_getElem? (i := 138) rfl))) (by decide) (backOf (W := 0) (rmSit14 l Z a0 hw [] x sb vb g cz h0 n0 hz1 O0 SCS hcz Q0 Q1 Q2 (by omega) nxs E0 B0 B1 B2 PV Fg) hZ (hw _ (List.mem_of_getElem? (i := 138) rfl)) (hw _ (List.mem_of_getElem? (i := 5) rfl)) (by decide) (by decide)) (g := (mkF m 3 #[.val (.ref x), .val (.ref sb)] [.null, (.ref sb), (.ref x)])) rfl (by rw [hml]; rfl) (Steps.refl _) (a := x) (argsL := [(.ref sb), .null]) (rest := []) (lenOf pd_12 rfl) rfl (by show 2 * 0 + _ ≤ _; exact Nat.le_of_eq rfl) (hb hby d20_3) (fun _ _ => ⟨rfl, e0, (by decide : 0 + 1 ≤ _), (by decide : 0 + 14 ≤ _)⟩)
  dsimp only [Pt.U, Pt.locs, Pt.cells, Pt.slots] at X1 l1 y1 z1 st1 hQ1
  subst l1 y1 z1
  obtain ⟨d1, rfl, N1q, K1, zd1, Ex1, Fv1, Fc1, Vd1⟩ := hQ1
  have N1 := Fr.app N0 N1q
  have z2 : h0.size ≤ T1.heap.size := K1.1
  refine oSt st1 ?_
  show oGl p e below (T1.setTop (mkF m 6 #[.val (.ref x), .val (.ref sb)] [])) _
  have kp3 : Keep h0 T1.heap [x] := ((Keep.refl h0 [x]).trans K1 (allS (Or.inl (List.mem_of_getElem? (i := 0) rfl)) all0))
  refine oRet0 X1 hx Bd.notSynchronized Bd.returns (hb hby d20_6) (by decide) (by decide) ?_
  show Q_rmS1t14 Z x sb vb g cz h0 n0 _ T1.heap _
  exact ⟨d1, rfl, N1, kp3, by omega, Ex1, Fv1, Fc1, Vd1⟩
theorem ef_rmTst14 (m : MethodId) (x0 : Nat)  : entryFrame m #[(.ref x0)] 1 = mkF m 0 #[.val (.ref x0)] [] := by first | (simp [entryFrame, mkF, argsToLocals, Value.category, maxLocals]; done) | rfl
def Q_rmTst14 (Z : State) (sb vb : Nat) (g : Nat → Int32) (cz : Int32) (h0 : Heap) (n0 : Nat) (vv : Option Value) (h : Heap) (L : List Loc) : Prop := ∃ x d : Nat, vv = some (.ref x) ∧ Fr n0 L ∧ Keep h0 h [] ∧ h0.size ≤ x ∧ Exa Z h x "java/lang/String" ∧ Fld Z h x "java/lang/String" "value" "[B" (.ref d) ∧ Fld Z h x "java/lang/String" "coder" "B" (.int 0) ∧ oAI Z h d .byte 14 (oCpF 0 14 (fun i => g (0 + i)) (fun _ => 0))
set_option maxRecDepth 65536 in
set_option maxHeartbeats 40000000 in
theorem rmTst14 (l : Launch) (Z : State) (a0 : Array Value) (hw : ∀ d ∈ tables_1, d.before a0 Z = true) (ws : List Jvm.Cond) (sb vb : Nat) (g : Nat → Int32) (cz : Int32) (h0 : Heap) (n0 : Nat) (Z0 : n0 ≤ h0.size) (O0 : oOld Z n0 h0) (SCS : Sta Z Z.heap "java/lang/String" "COMPACT_STRINGS" "Z" (.int cz)) (hcz : ¬ cz = (0 : Int32)) (E0 : Exa Z h0 sb "java/lang/StringBuilder") (B0 : Fld Z h0 sb "java/lang/AbstractStringBuilder" "value" "[B" (.ref vb)) (B1 : Fld Z h0 sb "java/lang/AbstractStringBuilder" "coder" "B" (.int 0)) (B2 : Fld Z h0 sb "java/lang/AbstractStringBuilder" "count" "I" (.int 14)) (PV : oAI Z h0 vb .byte 16 g) (Fg : oFit 16 g) :
    MetFree l (⟨"java/lang/StringBuilder", "toString", "()Ljava/lang/String;"⟩ : MethodName) (head1 (Jvm.Cond.code (⟨"java/lang/StringBuilder", "toString", "()Ljava/lang/String;"⟩ : MethodName) jdk_67_method_42_code 1 (some (.object "java/lang/String")) :: ws) ({ frames := 5, cells := 2, slots := 18, locals := 79 } : Room)) (fun aA uU => aA = #[(.ref sb)] ∧ Z.Warmed39 uU.vm ∧ uU.heap = h0) (fun _ _ _ _ _ => True) (fun _ uU oO uU' => ∃ vV lL, oO = .returned vV ∧ Q_rmTst14 Z sb vb g cz h0 n0 vV uU'.heap lL ∧ FrameEnd uU oO uU' lL ({ frames := 5, cells := 2, slots := 18, locals := 79 } : Room).cells ({ frames := 5, cells := 2, slots := 18, locals := 79 } : Room).slots) := by
  refine MetFree.of_bodySF (plainFor_of_name pn_StringBuilder) hisR ?_
  intro p e s m args below meth c s₁ Bd hml0 hP hK
  obtain ⟨rfl, hZ, hh⟩ := hP
  have hx := Bd.exec
  have hby := Bd.bytes
  have hml : c.maxLocals = 1 := hml0
  have hown : s.vm.findClass "java/lang/StringBuilder" = some m.cls := findClass_of_methodNamed Bd.named
  have hnm := (name_of_methodNamed Bd.named Bd.method).1
  have X0 : Stand p l e ({ frames := 5, cells := 2, slots := 18, locals := 79 } : Room) s m #[(.ref sb)] below meth c s₁ [] 0 0 := Stand.of_body Bd
  have e0 : s₁.heap = h0 := by rw [← hh, Bd.state]; rfl
  have N0 := Fr.nil n0
  have lS : @LT.lt Nat _ sb h0.size := E0.lt
  have lV : @LT.lt Nat _ vb h0.size := PV.lt
  refine oEnter (oCast (ef_rmTst14 m sb ) ?_)
  show oGl p e below (s₁.setTop (mkF m 0 #[.val (.ref sb)] [])) _
  obtain ⟨T1, h1, X1, e1, E1, A1, D1, -, st1⟩ := newO X0 hx hZ hown (hw _ (List.mem_of_getElem? (i := 131) rfl)) (hw _ (List.mem_of_getElem? (i := 6) rfl)) (hw _ (List.mem_of_getElem? (i := 5) rfl)) e0 (g := (mkF m 0 #[.val (.ref sb)] [])) rfl (hb hby d19_0) (by decide) (by decide)
  obtain ⟨a1, g1⟩ : ∃ z, z = h0.size := ⟨_, rfl⟩
  rw [← g1] at A1 D1 st1
  refine oOn st1 ?_
  have z2 : h0.size ≤ h1.size := E1.1
  have lt1 : a1 < h1.size := A1.lt
  have f1_8 : Fld Z h1 a1 "java/lang/String" "value" "[B" .null := D1 (Or.inr (hw _ (List.mem_of_getElem? (i := 8) rfl))) (ty := (.array .byte)) (by decide)
  have f1_9 : Fld Z h1 a1 "java/lang/String" "coder" "B" (.int (0 : Int32)) := D1 (Or.inr (hw _ (List.mem_of_getElem? (i := 9) rfl))) (ty := .byte) (by decide)
  show oGl p e below (T1.setTop (mkF m 3 #[.val (.ref sb)] [(.ref a1)])) _
  refine sdup X1 hx (hb hby d19_3) rfl rfl (pc' := 4) ?_
  refine saloadN X1 hx (hb hby d19_4) rfl rfl rfl (pc' := 5) ?_
  have f3 := (O0.ext E1)
  have f4 := (E0.ext E1)
  have f5 := (B0.ext E1)
  have f6 := (B1.ext E1)
  have f7 := (B2.ext E1)
  have f8 := (PV.ext E1)
  have hz9 : n0 ≤ h1.size := by omega
  obtain ⟨_, _, ⟨T9, L9, k9, n9⟩, -, X9, ⟨Lc9, hQ9, l9, y9, z9⟩, st9⟩ := X1.specialBack hx (y := (⟨"java/lang/String", "<init>", "(Ljava/lang/StringBuilder;)V"⟩ : MethodName)) rfl hown (mvT hZ (hw _ (List.mem_of_getElem? (i := 132) rfl))) (mvT hZ (hw _ (List.mem_of_getElem? (i := 133) rfl))) (mvT hZ (hw _ (List.mem_of_getElem? (i := 135) rfl))) (by decide) (backOf (W := 1) (rmS1t14 l Z a0 hw [] a1 sb vb g cz h1 n0 hz9 f3 SCS hcz A1 f1_8 f1_9 (by omega) (oNe (by omega)) f4 f5 f6 f7 f8 Fg) hZ (hw _ (List.mem_of_getElem? (i := 135) rfl)) (hw _ (List.mem_of_getElem? (i := 5) rfl)) (by decide) (by decide)) (g := (mkF m 5 #[.val (.ref sb)] [(.ref sb), (.ref a1), (.ref a1)])) rfl (by rw [hml]; rfl) (Steps.refl _) (a := a1) (argsL := [(.ref sb)]) (rest := [(.ref a1)]) (lenOf pd_13 rfl) rfl (by show 2 * 0 + _ ≤ _; exact Nat.le_of_eq rfl) (hb hby d19_5) (fun _ _ => ⟨rfl, e1, (by decide : 1 + 1 ≤ _), (by decide : 4 + 14 ≤ _)⟩)
  dsimp only [Pt.U, Pt.locs, Pt.cells, Pt.slots] at X9 l9 y9 z9 st9 hQ9
  subst l9 y9 z9
  obtain ⟨d9, rfl, N9q, K9, zd9, Ex9, Fv9, Fc9, Vd9⟩ := hQ9
  have N9 := Fr.app N0 N9q
  have z10 : h1.size ≤ T9.heap.size := K9.1
  refine oSt st9 ?_
  show oGl p e below (T9.setTop (mkF m 8 #[.val (.ref sb)] [(.ref a1)])) _
  have kp11 : Keep h0 T9.heap [] := (((Keep.refl h0 []).ext E1).trans K9 (allS (Or.inr (by omega)) all0))
  refine oRetR X9 hx Bd.notSynchronized Bd.returns rfl rfl (hb hby d19_8) (by decide) (by decide) ?_
  show Q_rmTst14 Z sb vb g cz h0 n0 _ T9.heap _
  exact ⟨a1, d9, rfl, N9, kp11, by omega, Ex9, Fv9, Fc9, Vd9⟩
theorem own_ofInj {n m : Nat} (h : n < 2147483648) (h' : m < 2147483648) (e : Int32.ofNat n = Int32.ofNat m) : n = m := by
  have e1 : (Int32.ofNat n).toInt = (Int32.ofNat m).toInt := by rw [e]
  rw [own_ofNat h, own_ofNat h'] at e1; omega
theorem d31_0 : decode jdk_43_method_13_code 0 = .ok (.aload_n 0, 1) := by decide +kernel
theorem d31_1 : decode jdk_43_method_13_code 1 = .ok (.arraylength, 1) := by decide +kernel
theorem d31_2 : decode jdk_43_method_13_code 2 = .ok (.aload_n 1, 1) := by decide +kernel
theorem d31_3 : decode jdk_43_method_13_code 3 = .ok (.arraylength, 1) := by decide +kernel
theorem d31_4 : decode jdk_43_method_13_code 4 = .ok (.if_icmp .ne 30, 3) := by decide +kernel
theorem d31_7 : decode jdk_43_method_13_code 7 = .ok (.iconst 0, 1) := by decide +kernel
theorem d31_8 : decode jdk_43_method_13_code 8 = .ok (.istore_n 2, 1) := by decide +kernel
theorem d31_9 : decode jdk_43_method_13_code 9 = .ok (.iload_n 2, 1) := by decide +kernel
theorem d31_10 : decode jdk_43_method_13_code 10 = .ok (.aload_n 0, 1) := by decide +kernel
theorem d31_11 : decode jdk_43_method_13_code 11 = .ok (.arraylength, 1) := by decide +kernel
theorem d31_12 : decode jdk_43_method_13_code 12 = .ok (.if_icmp .ge 20, 3) := by decide +kernel
theorem d31_15 : decode jdk_43_method_13_code 15 = .ok (.aload_n 0, 1) := by decide +kernel
theorem d31_16 : decode jdk_43_method_13_code 16 = .ok (.iload_n 2, 1) := by decide +kernel
theorem d31_17 : decode jdk_43_method_13_code 17 = .ok (.baload, 1) := by decide +kernel
theorem d31_18 : decode jdk_43_method_13_code 18 = .ok (.aload_n 1, 1) := by decide +kernel
theorem d31_19 : decode jdk_43_method_13_code 19 = .ok (.iload_n 2, 1) := by decide +kernel
theorem d31_20 : decode jdk_43_method_13_code 20 = .ok (.baload, 1) := by decide +kernel
theorem d31_21 : decode jdk_43_method_13_code 21 = .ok (.if_icmp .eq 5, 3) := by decide +kernel
theorem d31_26 : decode jdk_43_method_13_code 26 = .ok (.iinc 2 1, 3) := by decide +kernel
theorem d31_29 : decode jdk_43_method_13_code 29 = .ok (.goto (-20), 3) := by decide +kernel
theorem d31_24 : decode jdk_43_method_13_code 24 = .ok (.iconst 0, 1) := by decide +kernel
theorem d31_25 : decode jdk_43_method_13_code 25 = .ok (.ireturn, 1) := by decide +kernel
theorem d31_32 : decode jdk_43_method_13_code 32 = .ok (.iconst 1, 1) := by decide +kernel
theorem d31_33 : decode jdk_43_method_13_code 33 = .ok (.ireturn, 1) := by decide +kernel
theorem d31_34 : decode jdk_43_method_13_code 34 = .ok (.iconst 0, 1) := by decide +kernel
theorem d31_35 : decode jdk_43_method_13_code 35 = .ok (.ireturn, 1) := by decide +kernel
theorem pn_StringLatin1 : plainName "java/lang/StringLatin1" = true := by first | (simp [plainName, overriddenIn]; done) | decide +kernel
theorem ef_rmLEq (m : MethodId) (x0 : Nat) (x1 : Nat)  : entryFrame m #[(.ref x0), (.ref x1)] 3 = mkF m 0 #[.val (.ref x0), .val (.ref x1), .unset] [] := by first | (simp [entryFrame, mkF, argsToLocals, Value.category, maxLocals]; done) | rfl
def Q_rmLEq (Z : State) (b d n o : Nat) (f g : Nat → Int32) (h0 : Heap) (n0 : Nat) (vv : Option Value) (h : Heap) (L : List Loc) : Prop := ∃ r : Int32, vv = some (.int r) ∧ Fr n0 L ∧ h = h0 ∧ ((r = 1 ∧ (n = o ∧ ∀ j : Nat, j < n → f j = g j)) ∨ (r = 0 ∧ ¬ (n = o ∧ ∀ j : Nat, j < n → f j = g j)))
set_option maxRecDepth 65536 in
set_option maxHeartbeats 40000000 in
theorem rmLEq (l : Launch) (Z : State) (a0 : Array Value) (hw : ∀ d ∈ tables_1, d.before a0 Z = true) (ws : List Jvm.Cond) (b d n o : Nat) (f g : Nat → Int32) (h0 : Heap) (n0 : Nat) (Z0 : n0 ≤ h0.size) (PB : oAI Z h0 b .byte n f) (PD : oAI Z h0 d .byte o g) :
    MetFree l (⟨"java/lang/StringLatin1", "equals", "([B[B)Z"⟩ : MethodName) (head1 (Jvm.Cond.code (⟨"java/lang/StringLatin1", "equals", "([B[B)Z"⟩ : MethodName) jdk_43_method_13_code 3 (some .boolean) :: ws) ({ frames := 0, cells := 0, slots := 0, locals := 0 } : Room)) (fun aA uU => aA = #[(.ref b), (.ref d)] ∧ Z.Warmed39 uU.vm ∧ uU.heap = h0) (fun _ _ _ _ _ => True) (fun _ uU oO uU' => ∃ vV lL, oO = .returned vV ∧ Q_rmLEq Z b d n o f g h0 n0 vV uU'.heap lL ∧ FrameEnd uU oO uU' lL ({ frames := 0, cells := 0, slots := 0, locals := 0 } : Room).cells ({ frames := 0, cells := 0, slots := 0, locals := 0 } : Room).slots) := by
  refine MetFree.of_bodySF (plainFor_of_name pn_StringLatin1) hisR ?_
  intro p e s m args below meth c s₁ Bd hml0 hP hK
  obtain ⟨rfl, hZ, hh⟩ := hP
  have hx := Bd.exec
  have hby := Bd.bytes
  have hml : c.maxLocals = 3 := hml0
  have hown : s.vm.findClass "java/lang/StringLatin1" = some m.cls := findClass_of_methodNamed Bd.named
  have hnm := (name_of_methodNamed Bd.named Bd.method).1
  have X0 : Stand p l e ({ frames := 0, cells := 0, slots := 0, locals := 0 } : Room) s m #[(.ref b), (.ref d)] below meth c s₁ [] 0 0 := Stand.of_body Bd
  have e0 : s₁.heap = h0 := by rw [← hh, Bd.state]; rfl
  have N0 := Fr.nil n0
  refine oEnter (oCast (ef_rmLEq m b d ) ?_)
  show oGl p e below (s₁.setTop (mkF m 0 #[.val (.ref b), .val (.ref d), .unset] [])) _
  refine saloadN X0 hx (hb hby d31_0) rfl rfl rfl (pc' := 1) ?_
  refine oOn (PB.len X0 hx hZ e0 (g := (mkF m 1 #[.val (.ref b), .val (.ref d), .unset] [(.ref b)])) rfl rfl (hb hby d31_1)) ?_
  show oGl p e below (s₁.setTop (mkF m 2 #[.val (.ref b), .val (.ref d), .unset] [(.int (Int32.ofNat n))])) _
  refine saloadN X0 hx (hb hby d31_2) rfl rfl rfl (pc' := 3) ?_
  refine oOn (PD.len X0 hx hZ e0 (g := (mkF m 3 #[.val (.ref b), .val (.ref d), .unset] [(.ref d), (.int (Int32.ofNat n))])) rfl rfl (hb hby d31_3)) ?_
  show oGl p e below (s₁.setTop (mkF m 4 #[.val (.ref b), .val (.ref d), .unset] [(.int (Int32.ofNat o)), (.int (Int32.ofNat n))])) _
  by_cases hc4 : (Int32.ofNat n) = (Int32.ofNat o)
  · skip
    refine sicN X0 hx (hb hby d31_4) rfl (teq hc4).2 (pc' := 7) ?_
    refine siconst X0 hx (hb hby d31_7) rfl rfl (z := 0) (pc' := 8) ?_
    refine sistoreN X0 hx (hb hby d31_8) rfl rfl (l' := #[.val (.ref b), .val (.ref d), .val (.int (0 : Int32))]) (pc' := 9) ?_
    have hnm9 : n = o := own_ofInj PB.small PD.small hc4
    have lp9 : ∀ (kF : Nat) (i : Int32) (T : State) (locs : List Loc) (X : Stand p l e ({ frames := 0, cells := 0, slots := 0, locals := 0 } : Room) s m #[(.ref b), (.ref d)] below meth c T locs 0 0) (eT : T.heap = h0) (N : Fr n0 locs) (hm : (n - i.toInt.toNat) < kF) (hi : 0 ≤ i.toInt ∧ i.toInt ≤ n ∧ ∀ j : Nat, (j : Int) < i.toInt → f j = g j), oGl p e below (T.setTop (mkF m 9 #[.val (.ref b), .val (.ref d), .val (.int i)] [])) (oFin s below (Q_rmLEq Z b d n o f g h0 n0) ({ frames := 0, cells := 0, slots := 0, locals := 0 } : Room).cells ({ frames := 0, cells := 0, slots := 0, locals := 0 } : Room).slots) := by
      intro kF
      induction kF with
      | zero => intro i T locs X eT N hm hi; exact absurd hm (Nat.not_lt_zero _)
      | succ kF ih =>
        intro i T locs X eT N hm hi
        refine siloadN X hx (hb hby d31_9) rfl rfl (pc' := 10) ?_
        refine saloadN X hx (hb hby d31_10) rfl rfl rfl (pc' := 11) ?_
        refine oOn (PB.len X hx hZ eT (g := (mkF m 11 #[.val (.ref b), .val (.ref d), .val (.int i)] [(.ref b), (.int i)])) rfl rfl (hb hby d31_11)) ?_
        show oGl p e below (T.setTop (mkF m 12 #[.val (.ref b), .val (.ref d), .val (.int i)] [(.int (Int32.ofNat n)), (.int i)])) _
        by_cases hc12 : i < (Int32.ofNat n)
        · skip
          refine sicN X hx (hb hby d31_12) rfl (tlt hc12).2.1 (pc' := 15) ?_
          refine saloadN X hx (hb hby d31_15) rfl rfl rfl (pc' := 16) ?_
          refine siloadN X hx (hb hby d31_16) rfl rfl (pc' := 17) ?_
          refine oOn (PB.ldB X hx hZ eT (j := i) (by have hlt := Int32.lt_iff_toInt_lt.mp hc12; rw [own_ofNat PB.small] at hlt; omega) (g := (mkF m 17 #[.val (.ref b), .val (.ref d), .val (.int i)] [(.int i), (.ref b)])) rfl rfl (hb hby d31_17)) ?_
          show oGl p e below (T.setTop (mkF m 18 #[.val (.ref b), .val (.ref d), .val (.int i)] [(.int (f i.toInt.toNat))])) _
          refine saloadN X hx (hb hby d31_18) rfl rfl rfl (pc' := 19) ?_
          refine siloadN X hx (hb hby d31_19) rfl rfl (pc' := 20) ?_
          refine oOn (PD.ldB X hx hZ eT (j := i) (by have hlt := Int32.lt_iff_toInt_lt.mp hc12; rw [own_ofNat PB.small] at hlt; omega) (g := (mkF m 20 #[.val (.ref b), .val (.ref d), .val (.int i)] [(.int i), (.ref d), (.int (f i.toInt.toNat))])) rfl rfl (hb hby d31_20)) ?_
          show oGl p e below (T.setTop (mkF m 21 #[.val (.ref b), .val (.ref d), .val (.int i)] [(.int (g i.toInt.toNat)), (.int (f i.toInt.toNat))])) _
          by_cases hc21 : (f i.toInt.toNat) = (g i.toInt.toNat)
          · skip
            refine sicY X hx (hb hby d31_21) (by decide) (by decide) (teq hc21).1 (pc' := 26) ?_
            refine siinc X hx (hb hby d31_26) rfl rfl rfl (l' := #[.val (.ref b), .val (.ref d), .val (.int (i + (1 : Int32)))]) (pc' := 29) ?_
            refine sgoto X hx (hb hby d31_29) (by decide) (by decide)  (pc' := 9) ?_
            have hlt := Int32.lt_iff_toInt_lt.mp hc12
            rw [own_ofNat PB.small] at hlt
            have hsm := PB.small
            have hi1 := own_incS (x := i) (by omega)
            exact ih (i + (1 : Int32)) _ _ X eT N (by omega) ⟨by omega, by omega, fun j hj => by
              by_cases q : j = i.toInt.toNat
              · subst q; exact hc21
              · exact hi.2.2 j (by omega)⟩
          · skip
            refine sicN X hx (hb hby d31_21) rfl (feq hc21).1 (pc' := 24) ?_
            refine siconst X hx (hb hby d31_24) rfl rfl (z := 0) (pc' := 25) ?_
            have hlt := Int32.lt_iff_toInt_lt.mp hc12
            rw [own_ofNat PB.small] at hlt
            refine oRetN (t := .boolean) X hx Bd.notSynchronized Bd.returns (by simp) (hb hby d31_25) (by decide) (by decide) ?_
            show Q_rmLEq Z b d n o f g h0 n0 _ T.heap _
            rw [eT]
            exact ⟨0, rfl, N, rfl, Or.inr ⟨rfl, fun q => hc21 (q.2 _ (by omega))⟩⟩
        · skip
          refine sicY X hx (hb hby d31_12) (by decide) (by decide) (flt hc12).2.1 (pc' := 32) ?_
          refine siconst X hx (hb hby d31_32) rfl rfl (z := 1) (pc' := 33) ?_
          have hge : ¬ i.toInt < (Int32.ofNat n).toInt := fun q => hc12 (Int32.lt_iff_toInt_lt.mpr q)
          rw [own_ofNat PB.small] at hge
          refine oRetN (t := .boolean) X hx Bd.notSynchronized Bd.returns (by simp) (hb hby d31_33) (by decide) (by decide) ?_
          show Q_rmLEq Z b d n o f g h0 n0 _ T.heap _
          rw [eT]
          exact ⟨1, rfl, N, rfl, Or.inl ⟨rfl, hnm9, fun j hj => hi.2.2 j (by omega)⟩⟩
    exact lp9 _ 0 _ _ X0 e0 N0 (Nat.lt_succ_self _) ⟨by decide, by have e0 : (0 : Int32).toInt = 0 := rfl; omega, fun j hj => by have e0 : (0 : Int32).toInt = 0 := rfl; omega⟩
  · skip
    refine sicY X0 hx (hb hby d31_4) (by decide) (by decide) (feq hc4).2 (pc' := 34) ?_
    refine siconst X0 hx (hb hby d31_34) rfl rfl (z := 0) (pc' := 35) ?_
    refine oRetN (t := .boolean) X0 hx Bd.notSynchronized Bd.returns (by simp) (hb hby d31_35) (by decide) (by decide) ?_
    show Q_rmLEq Z b d n o f g h0 n0 _ s₁.heap _
    rw [e0]
    exact ⟨0, rfl, N0, rfl, Or.inr ⟨rfl, fun q => hc4 (by rw [q.1])⟩⟩
theorem d30_0 : decode jdk_42_method_66_code 0 = .ok (.aload_n 0, 1) := by decide +kernel
theorem d30_1 : decode jdk_42_method_66_code 1 = .ok (.aload_n 1, 1) := by decide +kernel
theorem d30_2 : decode jdk_42_method_66_code 2 = .ok (.if_acmp .ne 5, 3) := by decide +kernel
theorem d30_5 : decode jdk_42_method_66_code 5 = .ok (.iconst 1, 1) := by decide +kernel
theorem d30_6 : decode jdk_42_method_66_code 6 = .ok (.ireturn, 1) := by decide +kernel
theorem d30_7 : decode jdk_42_method_66_code 7 = .ok (.aload_n 1, 1) := by decide +kernel
theorem d30_8 : decode jdk_42_method_66_code 8 = .ok (.instanceof 10, 3) := by decide +kernel
theorem d30_11 : decode jdk_42_method_66_code 11 = .ok (.ifCond .eq 43, 3) := by decide +kernel
theorem d30_14 : decode jdk_42_method_66_code 14 = .ok (.aload_n 1, 1) := by decide +kernel
theorem d30_15 : decode jdk_42_method_66_code 15 = .ok (.checkcast 10, 3) := by decide +kernel
theorem d30_18 : decode jdk_42_method_66_code 18 = .ok (.astore_n 2, 1) := by decide +kernel
theorem d30_19 : decode jdk_42_method_66_code 19 = .ok (.getstatic 38, 3) := by decide +kernel
theorem d30_22 : decode jdk_42_method_66_code 22 = .ok (.ifCond .eq 14, 3) := by decide +kernel
theorem d30_25 : decode jdk_42_method_66_code 25 = .ok (.aload_n 0, 1) := by decide +kernel
theorem d30_26 : decode jdk_42_method_66_code 26 = .ok (.getfield 15, 3) := by decide +kernel
theorem d30_29 : decode jdk_42_method_66_code 29 = .ok (.aload_n 2, 1) := by decide +kernel
theorem d30_30 : decode jdk_42_method_66_code 30 = .ok (.getfield 15, 3) := by decide +kernel
theorem d30_33 : decode jdk_42_method_66_code 33 = .ok (.if_icmp .ne 21, 3) := by decide +kernel
theorem d30_36 : decode jdk_42_method_66_code 36 = .ok (.aload_n 0, 1) := by decide +kernel
theorem d30_37 : decode jdk_42_method_66_code 37 = .ok (.getfield 9, 3) := by decide +kernel
theorem d30_40 : decode jdk_42_method_66_code 40 = .ok (.aload_n 2, 1) := by decide +kernel
theorem d30_41 : decode jdk_42_method_66_code 41 = .ok (.getfield 9, 3) := by decide +kernel
theorem d30_44 : decode jdk_42_method_66_code 44 = .ok (.invokestatic 541, 3) := by decide +kernel
theorem pd_14 : parseMethodDescriptor "([B[B)Z" = some ⟨[(.array .byte), (.array .byte)], some .boolean⟩ := by decide +kernel
theorem d30_47 : decode jdk_42_method_66_code 47 = .ok (.ifCond .eq 7, 3) := by decide +kernel
theorem d30_54 : decode jdk_42_method_66_code 54 = .ok (.iconst 0, 1) := by decide +kernel
theorem d30_55 : decode jdk_42_method_66_code 55 = .ok (.ireturn, 1) := by decide +kernel
theorem d30_50 : decode jdk_42_method_66_code 50 = .ok (.iconst 1, 1) := by decide +kernel
theorem d30_51 : decode jdk_42_method_66_code 51 = .ok (.goto 4, 3) := by decide +kernel
theorem ef_rmSEq (m : MethodId) (x0 : Nat) (x1 : Nat)  : entryFrame m #[(.ref x0), (.ref x1)] 3 = mkF m 0 #[.val (.ref x0), .val (.ref x1), .unset] [] := by first | (simp [entryFrame, mkF, argsToLocals, Value.category, maxLocals]; done) | rfl
def Q_rmSEq (Z : State) (x y b d n o : Nat) (f g : Nat → Int32) (cz : Int32) (h0 : Heap) (n0 : Nat) (vv : Option Value) (h : Heap) (L : List Loc) : Prop := ∃ r : Int32, vv = some (.int r) ∧ Fr n0 L ∧ h = h0 ∧ ((r = 1 ∧ (n = o ∧ ∀ j : Nat, j < n → f j = g j)) ∨ (r = 0 ∧ ¬ (n = o ∧ ∀ j : Nat, j < n → f j = g j)))
set_option maxRecDepth 65536 in
set_option maxHeartbeats 40000000 in
theorem rmSEq (l : Launch) (Z : State) (a0 : Array Value) (hw : ∀ d ∈ tables_1, d.before a0 Z = true) (ws : List Jvm.Cond) (x y b d n o : Nat) (f g : Nat → Int32) (cz : Int32) (h0 : Heap) (n0 : Nat) (Z0 : n0 ≤ h0.size) (O0 : oOld Z n0 h0) (SCS : Sta Z Z.heap "java/lang/String" "COMPACT_STRINGS" "Z" (.int cz)) (hcz : ¬ cz = (0 : Int32)) (E1 : Exa Z h0 x "java/lang/String") (F1 : Fld Z h0 x "java/lang/String" "value" "[B" (.ref b)) (C1 : Fld Z h0 x "java/lang/String" "coder" "B" (.int 0)) (PB : oAI Z h0 b .byte n f) (G0 : Exa Z h0 y "java/lang/String") (G1 : Fld Z h0 y "java/lang/String" "value" "[B" (.ref d)) (K1 : Fld Z h0 y "java/lang/String" "coder" "B" (.int 0)) (PD : oAI Z h0 d .byte o g) :
    MetFree l (⟨"java/lang/String", "equals", "(Ljava/lang/Object;)Z"⟩ : MethodName) (head1 (Jvm.Cond.code (⟨"java/lang/String", "equals", "(Ljava/lang/Object;)Z"⟩ : MethodName) jdk_42_method_66_code 3 (some .boolean) :: ws) ({ frames := 1, cells := 0, slots := 0, locals := 14 } : Room)) (fun aA uU => aA = #[(.ref x), (.ref y)] ∧ Z.Warmed39 uU.vm ∧ uU.heap = h0) (fun _ _ _ _ _ => True) (fun _ uU oO uU' => ∃ vV lL, oO = .returned vV ∧ Q_rmSEq Z x y b d n o f g cz h0 n0 vV uU'.heap lL ∧ FrameEnd uU oO uU' lL ({ frames := 1, cells := 0, slots := 0, locals := 14 } : Room).cells ({ frames := 1, cells := 0, slots := 0, locals := 14 } : Room).slots) := by
  refine MetFree.of_bodySF (plainFor_of_name pn_String) hisR ?_
  intro p e s m args below meth c s₁ Bd hml0 hP hK
  obtain ⟨rfl, hZ, hh⟩ := hP
  have hx := Bd.exec
  have hby := Bd.bytes
  have hml : c.maxLocals = 3 := hml0
  have hown : s.vm.findClass "java/lang/String" = some m.cls := findClass_of_methodNamed Bd.named
  have hnm := (name_of_methodNamed Bd.named Bd.method).1
  have X0 : Stand p l e ({ frames := 1, cells := 0, slots := 0, locals := 14 } : Room) s m #[(.ref x), (.ref y)] below meth c s₁ [] 0 0 := Stand.of_body Bd
  have e0 : s₁.heap = h0 := by rw [← hh, Bd.state]; rfl
  have N0 := Fr.nil n0
  refine oEnter (oCast (ef_rmSEq m x y ) ?_)
  show oGl p e below (s₁.setTop (mkF m 0 #[.val (.ref x), .val (.ref y), .unset] [])) _
  refine saloadN X0 hx (hb hby d30_0) rfl rfl rfl (pc' := 1) ?_
  refine saloadN X0 hx (hb hby d30_1) rfl rfl rfl (pc' := 2) ?_
  by_cases hc2 : x = y
  · skip
    refine oOn (fun _ kK => Jvm.RoadKit.acmp (g := (mkF m 2 #[.val (.ref x), .val (.ref y), .unset] [(.ref y), (.ref x)])) X0 hx rfl rfl rfl (pc0 := 2) (pc' := 5) (same := true) rfl (hb hby d30_2) rfl (decide_eq_true (congrArg Value.ref hc2)) (by decide) (by decide) kK) ?_
    show oGl p e below (s₁.setTop (mkF m 5 #[.val (.ref x), .val (.ref y), .unset] [])) _
    refine siconst X0 hx (hb hby d30_5) rfl rfl (z := 1) (pc' := 6) ?_
    have hv2 : b = d := Value.ref.inj (fld_fun F1 (by rw [hc2]; exact G1))
    have hv3 := oAI_fun PB (by rw [hv2]; exact PD)
    refine oRetN (t := .boolean) X0 hx Bd.notSynchronized Bd.returns (by simp) (hb hby d30_6) (by decide) (by decide) ?_
    show Q_rmSEq Z x y b d n o f g cz h0 n0 _ s₁.heap _
    rw [e0]
    exact ⟨1, rfl, N0, rfl, Or.inl ⟨rfl, hv3⟩⟩
  · skip
    refine oOn (fun _ kK => Jvm.RoadKit.acmp (g := (mkF m 2 #[.val (.ref x), .val (.ref y), .unset] [(.ref y), (.ref x)])) X0 hx rfl rfl rfl (pc0 := 2) (pc' := 7) (same := false) rfl (hb hby d30_2) rfl (decide_eq_false fun q => hc2 (Value.ref.inj q)) (by decide) (by decide) kK) ?_
    show oGl p e below (s₁.setTop (mkF m 7 #[.val (.ref x), .val (.ref y), .unset] [])) _
    refine saloadN X0 hx (hb hby d30_7) rfl rfl rfl (pc' := 8) ?_
    obtain ⟨T1, X1, e1, st1⟩ := instY X0 hx hZ hown (hw _ (List.mem_of_getElem? (i := 178) rfl)) e0 (Ins.self G0) (g := (mkF m 8 #[.val (.ref x), .val (.ref y), .unset] [(.ref y)])) rfl rfl (hb hby d30_8)
    refine oOn st1 ?_
    show oGl p e below (T1.setTop (mkF m 11 #[.val (.ref x), .val (.ref y), .unset] [(.int (1 : Int32))])) _
    refine sifN X1 hx (hb hby d30_11) rfl (feq (by decide : ¬ ((1 : Int32) = (0 : Int32)))).1 (pc' := 14) ?_
    refine saloadN X1 hx (hb hby d30_14) rfl rfl rfl (pc' := 15) ?_
    obtain ⟨T2, X2, e2, st2⟩ := castY X1 hx hZ hown (hw _ (List.mem_of_getElem? (i := 178) rfl)) e1 (Ins.self G0) (g := (mkF m 15 #[.val (.ref x), .val (.ref y), .unset] [(.ref y)])) rfl rfl (hb hby d30_15)
    refine oOn st2 ?_
    show oGl p e below (T2.setTop (mkF m 18 #[.val (.ref x), .val (.ref y), .unset] [(.ref y)])) _
    refine sastoreN X2 hx (hb hby d30_18) rfl rfl rfl (l' := #[.val (.ref x), .val (.ref y), .val (.ref y)]) (pc' := 19) ?_
    obtain ⟨T3, X3, e3, st3⟩ := getS2 X2 hx hZ hown (host := "") (Or.inl (hw _ (List.mem_of_getElem? (i := 90) rfl))) Via.refl e2 (SCS.ext O0.2) (g := (mkF m 19 #[.val (.ref x), .val (.ref y), .val (.ref y)] [])) rfl (hb hby d30_19)
    refine oOn st3 ?_
    show oGl p e below (T3.setTop (mkF m 22 #[.val (.ref x), .val (.ref y), .val (.ref y)] [(.int cz)])) _
    refine sifN X3 hx (hb hby d30_22) rfl (feq (hcz : ¬ (cz = (0 : Int32)))).1 (pc' := 25) ?_
    refine saloadN X3 hx (hb hby d30_25) rfl rfl rfl (pc' := 26) ?_
    obtain ⟨T4, X4, e4, st4⟩ := getF X3 hx hZ hown (host := "") (Or.inl (hw _ (List.mem_of_getElem? (i := 91) rfl))) Via.refl e3 C1 (g := (mkF m 26 #[.val (.ref x), .val (.ref y), .val (.ref y)] [(.ref x)])) rfl rfl (hb hby d30_26)
    refine oOn st4 ?_
    show oGl p e below (T4.setTop (mkF m 29 #[.val (.ref x), .val (.ref y), .val (.ref y)] [(.int (0 : Int32))])) _
    refine saloadN X4 hx (hb hby d30_29) rfl rfl rfl (pc' := 30) ?_
    obtain ⟨T5, X5, e5, st5⟩ := getF X4 hx hZ hown (host := "") (Or.inl (hw _ (List.mem_of_getElem? (i := 91) rfl))) Via.refl e4 K1 (g := (mkF m 30 #[.val (.ref x), .val (.ref y), .val (.ref y)] [(.ref y), (.int (0 : Int32))])) rfl rfl (hb hby d30_30)
    refine oOn st5 ?_
    show oGl p e below (T5.setTop (mkF m 33 #[.val (.ref x), .val (.ref y), .val (.ref y)] [(.int (0 : Int32)), (.int (0 : Int32))])) _
    refine sicN X5 hx (hb hby d30_33) rfl (teq (by decide : (0 : Int32) = (0 : Int32))).2 (pc' := 36) ?_
    refine saloadN X5 hx (hb hby d30_36) rfl rfl rfl (pc' := 37) ?_
    obtain ⟨T6, X6, e6, st6⟩ := getF X5 hx hZ hown (host := "") (Or.inl (hw _ (List.mem_of_getElem? (i := 84) rfl))) Via.refl e5 F1 (g := (mkF m 37 #[.val (.ref x), .val (.ref y), .val (.ref y)] [(.ref x)])) rfl rfl (hb hby d30_37)
    refine oOn st6 ?_
    show oGl p e below (T6.setTop (mkF m 40 #[.val (.ref x), .val (.ref y), .val (.ref y)] [(.ref b)])) _
    refine saloadN X6 hx (hb hby d30_40) rfl rfl rfl (pc' := 41) ?_
    obtain ⟨T7, X7, e7, st7⟩ := getF X6 hx hZ hown (host := "") (Or.inl (hw _ (List.mem_of_getElem? (i := 84) rfl))) Via.refl e6 G1 (g := (mkF m 41 #[.val (.ref x), .val (.ref y), .val (.ref y)] [(.ref y), (.ref b)])) rfl rfl (hb hby d30_41)
    refine oOn st7 ?_
    show oGl p e below (T7.setTop (mkF m 44 #[.val (.ref x), .val (.ref y), .val (.ref y)] [(.ref d), (.ref b)])) _
    have hz8 : n0 ≤ h0.size := by omega
    obtain ⟨_, _, ⟨T8, L8, k8, n8⟩, -, X8, ⟨Lc8, hQ8, l8, y8, z8⟩, st8⟩ := Jvm.LawKit.callS X7 hx (y := (⟨"java/lang/StringLatin1", "equals", "([B[B)Z"⟩ : MethodName)) hown (mvT hZ (hw _ (List.mem_of_getElem? (i := 179) rfl))) (mvT hZ (hw _ (List.mem_of_getElem? (i := 180) rfl))) (mvT hZ (hw _ (List.mem_of_getElem? (i := 181) rfl))) (mvT hZ (hw _ (List.mem_of_getElem? (i := 182) rfl))) (by decide) (backOf (W := 0) (rmLEq l Z a0 hw [] b d n o f g h0 n0 hz8 PB PD) hZ (hw _ (List.mem_of_getElem? (i := 182) rfl)) (hw _ (List.mem_of_getElem? (i := 181) rfl)) (by decide) (by decide)) (g := (mkF m 44 #[.val (.ref x), .val (.ref y), .val (.ref y)] [(.ref d), (.ref b)])) rfl (by rw [hml]; rfl) (argsL := [(.ref b), (.ref d)]) (rest := []) (lenOf pd_14 rfl) rfl (by show 2 * 0 + _ ≤ _; exact Nat.le_of_eq rfl) (hb hby d30_44) (fun _ _ => ⟨rfl, e7, (by decide : 0 + 0 ≤ _), (by decide : 0 + 0 ≤ _)⟩)
    dsimp only [Pt.U, Pt.locs, Pt.cells, Pt.slots] at X8 l8 y8 z8 st8 hQ8
    subst l8 y8 z8
    obtain ⟨r8, rfl, N8q, eh8, pq8⟩ := hQ8
    have N8 := Fr.app N0 N8q
    refine oOn st8 ?_
    show oGl p e below (T8.setTop (mkF m 47 #[.val (.ref x), .val (.ref y), .val (.ref y)] [(.int r8)])) _
    by_cases hc47 : r8 = (0 : Int32)
    · skip
      refine sifY X8 hx (hb hby d30_47) (by decide) (by decide) (teq hc47).1 (pc' := 54) ?_
      refine siconst X8 hx (hb hby d30_54) rfl rfl (z := 0) (pc' := 55) ?_
      refine oRetN (t := .boolean) X8 hx Bd.notSynchronized Bd.returns (by simp) (hb hby d30_55) (by decide) (by decide) ?_
      show Q_rmSEq Z x y b d n o f g cz h0 n0 _ T8.heap _
      rw [eh8]
      exact ⟨0, rfl, N8, rfl, Or.inr ⟨rfl, (pq8.resolve_left (fun q => absurd (hc47.symm.trans q.1) (by decide))).2⟩⟩
    · skip
      refine sifN X8 hx (hb hby d30_47) rfl (feq hc47).1 (pc' := 50) ?_
      refine siconst X8 hx (hb hby d30_50) rfl rfl (z := 1) (pc' := 51) ?_
      refine sgoto X8 hx (hb hby d30_51) (by decide) (by decide)  (pc' := 55) ?_
      refine oRetN (t := .boolean) X8 hx Bd.notSynchronized Bd.returns (by simp) (hb hby d30_55) (by decide) (by decide) ?_
      show Q_rmSEq Z x y b d n o f g cz h0 n0 _ T8.heap _
      rw [eh8]
      exact ⟨1, rfl, N8, rfl, Or.inl ⟨rfl, (pq8.resolve_right (fun q => hc47 q.1)).2⟩⟩
theorem d2_0 : decode jdk_31_method_11_code 0 = .ok (.aload_n 0, 1) := by decide +kernel
theorem d2_1 : decode jdk_31_method_11_code 1 = .ok (.ifnonnull 12, 3) := by decide +kernel
theorem d2_13 : decode jdk_31_method_11_code 13 = .ok (.aload_n 0, 1) := by decide +kernel
theorem d2_14 : decode jdk_31_method_11_code 14 = .ok (.areturn, 1) := by decide +kernel
theorem pn_Objects : plainName "java/util/Objects" = true := by first | (simp [plainName, overriddenIn]; done) | decide +kernel
theorem ef_rmRq2 (m : MethodId) (x0 : Nat) (x1 : Nat)  : entryFrame m #[(.ref x0), (.ref x1)] 2 = mkF m 0 #[.val (.ref x0), .val (.ref x1)] [] := by first | (simp [entryFrame, mkF, argsToLocals, Value.category, maxLocals]; done) | rfl
def Q_rmRq2 (Z : State) (a b : Nat) (h0 : Heap) (n0 : Nat) (vv : Option Value) (h : Heap) (L : List Loc) : Prop := vv = some (.ref a) ∧ Fr n0 L ∧ h = h0
set_option maxRecDepth 65536 in
set_option maxHeartbeats 40000000 in
theorem rmRq2 (l : Launch) (Z : State) (a0 : Array Value) (hw : ∀ d ∈ tables_1, d.before a0 Z = true) (ws : List Jvm.Cond) (a b : Nat) (h0 : Heap) (n0 : Nat) (Z0 : n0 ≤ h0.size)  :
    MetFree l (⟨"java/util/Objects", "requireNonNull", "(Ljava/lang/Object;Ljava/lang/String;)Ljava/lang/Object;"⟩ : MethodName) (head1 (Jvm.Cond.code (⟨"java/util/Objects", "requireNonNull", "(Ljava/lang/Object;Ljava/lang/String;)Ljava/lang/Object;"⟩ : MethodName) jdk_31_method_11_code 2 (some (.object "java/lang/Object")) :: ws) ({ frames := 0, cells := 0, slots := 0, locals := 0 } : Room)) (fun aA uU => aA = #[(.ref a), (.ref b)] ∧ Z.Warmed39 uU.vm ∧ uU.heap = h0) (fun _ _ _ _ _ => True) (fun _ uU oO uU' => ∃ vV lL, oO = .returned vV ∧ Q_rmRq2 Z a b h0 n0 vV uU'.heap lL ∧ FrameEnd uU oO uU' lL ({ frames := 0, cells := 0, slots := 0, locals := 0 } : Room).cells ({ frames := 0, cells := 0, slots := 0, locals := 0 } : Room).slots) := by
  refine MetFree.of_bodySF (plainFor_of_name pn_Objects) hisR ?_
  intro p e s m args below meth c s₁ Bd hml0 hP hK
  obtain ⟨rfl, hZ, hh⟩ := hP
  have hx := Bd.exec
  have hby := Bd.bytes
  have hml : c.maxLocals = 2 := hml0
  have hown : s.vm.findClass "java/util/Objects" = some m.cls := findClass_of_methodNamed Bd.named
  have hnm := (name_of_methodNamed Bd.named Bd.method).1
  have X0 : Stand p l e ({ frames := 0, cells := 0, slots := 0, locals := 0 } : Room) s m #[(.ref a), (.ref b)] below meth c s₁ [] 0 0 := Stand.of_body Bd
  have e0 : s₁.heap = h0 := by rw [← hh, Bd.state]; rfl
  have N0 := Fr.nil n0
  refine oEnter (oCast (ef_rmRq2 m a b ) ?_)
  show oGl p e below (s₁.setTop (mkF m 0 #[.val (.ref a), .val (.ref b)] [])) _
  refine saloadN X0 hx (hb hby d2_0) rfl rfl rfl (pc' := 1) ?_
  refine sifnonnullY X0 hx (hb hby d2_1) (by decide) (by decide)  (pc' := 13) ?_
  refine saloadN X0 hx (hb hby d2_13) rfl rfl rfl (pc' := 14) ?_
  refine oRetR X0 hx Bd.notSynchronized Bd.returns rfl rfl (hb hby d2_14) (by decide) (by decide) ?_
  show Q_rmRq2 Z a b h0 n0 _ s₁.heap _
  rw [e0]
  exact ⟨rfl, N0, rfl⟩
theorem d3_0 : decode prog_36_method_1_code 0 = .ok (.aload_n 0, 1) := by decide +kernel
theorem d3_1 : decode prog_36_method_1_code 1 = .ok (.invokespecial 1, 3) := by decide +kernel
theorem d3_4 : decode prog_36_method_1_code 4 = .ok (.aload_n 0, 1) := by decide +kernel
theorem d3_5 : decode prog_36_method_1_code 5 = .ok (.aload_n 1, 1) := by decide +kernel
theorem d3_6 : decode prog_36_method_1_code 6 = .ok (.putfield 7, 3) := by decide +kernel
theorem d3_9 : decode prog_36_method_1_code 9 = .ok (.return_, 1) := by decide +kernel
theorem pn_Vote : plainName "com/example/concordat/concordat/core/Vote" = true := by first | (simp [plainName, overriddenIn]; done) | decide +kernel
theorem ef_rmVin (m : MethodId) (x0 : Nat) (x1 : Nat)  : entryFrame m #[(.ref x0), (.ref x1)] 2 = mkF m 0 #[.val (.ref x0), .val (.ref x1)] [] := by first | (simp [entryFrame, mkF, argsToLocals, Value.category, maxLocals]; done) | rfl
def Q_rmVin (Z : State) (t r : Nat) (h0 : Heap) (n0 : Nat) (vv : Option Value) (h : Heap) (L : List Loc) : Prop := vv = none ∧ Fr n0 L ∧ Keep h0 h [t] ∧ Exa Z h t "com/example/concordat/concordat/core/Vote" ∧ Fld Z h t "com/example/concordat/concordat/core/Vote" "reason" "Lcom/example/concordat/concordat/core/AbortReason;" (.ref r)
set_option maxRecDepth 65536 in
set_option maxHeartbeats 40000000 in
theorem rmVin (l : Launch) (Z : State) (a0 : Array Value) (hw : ∀ d ∈ tables_1, d.before a0 Z = true) (ws : List Jvm.Cond) (t r : Nat) (h0 : Heap) (n0 : Nat) (Z0 : n0 ≤ h0.size) (E0 : Exa Z h0 t "com/example/concordat/concordat/core/Vote") (F0 : Fld Z h0 t "com/example/concordat/concordat/core/Vote" "reason" "Lcom/example/concordat/concordat/core/AbortReason;" .null) (gt : n0 ≤ t) :
    MetFree l (⟨"com/example/concordat/concordat/core/Vote", "<init>", "(Lcom/example/concordat/concordat/core/AbortReason;)V"⟩ : MethodName) (head1 (Jvm.Cond.code (⟨"com/example/concordat/concordat/core/Vote", "<init>", "(Lcom/example/concordat/concordat/core/AbortReason;)V"⟩ : MethodName) prog_36_method_1_code 2 (none : Option FieldType) :: ws) ({ frames := 1, cells := 0, slots := 0, locals := 12 } : Room)) (fun aA uU => aA = #[(.ref t), (.ref r)] ∧ Z.Warmed39 uU.vm ∧ uU.heap = h0) (fun _ _ _ _ _ => True) (fun _ uU oO uU' => ∃ vV lL, oO = .returned vV ∧ Q_rmVin Z t r h0 n0 vV uU'.heap lL ∧ FrameEnd uU oO uU' lL ({ frames := 1, cells := 0, slots := 0, locals := 12 } : Room).cells ({ frames := 1, cells := 0, slots := 0, locals := 12 } : Room).slots) := by
  refine MetFree.of_bodySF (plainFor_of_name pn_Vote) hisR ?_
  intro p e s m args below meth c s₁ Bd hml0 hP hK
  obtain ⟨rfl, hZ, hh⟩ := hP
  have hx := Bd.exec
  have hby := Bd.bytes
  have hml : c.maxLocals = 2 := hml0
  have hown : s.vm.findClass "com/example/concordat/concordat/core/Vote" = some m.cls := findClass_of_methodNamed Bd.named
  have hnm := (name_of_methodNamed Bd.named Bd.method).1
  have X0 : Stand p l e ({ frames := 1, cells := 0, slots := 0, locals := 12 } : Room) s m #[(.ref t), (.ref r)] below meth c s₁ [] 0 0 := Stand.of_body Bd
  have e0 : s₁.heap = h0 := by rw [← hh, Bd.state]; rfl
  have N0 := Fr.nil n0
  have lT : @LT.lt Nat _ t h0.size := E0.lt
  refine oEnter (oCast (ef_rmVin m t r ) ?_)
  show oGl p e below (s₁.setTop (mkF m 0 #[.val (.ref t), .val (.ref r)] [])) _
  refine saloadN X0 hx (hb hby d3_0) rfl rfl rfl (pc' := 1) ?_
  obtain ⟨T1, X1, e1, st1⟩ := initO X0 hx hZ hown (hw _ (List.mem_of_getElem? (i := 28) rfl)) (hw _ (List.mem_of_getElem? (i := 29) rfl)) (hw _ (List.mem_of_getElem? (i := 30) rfl)) e0 (g := (mkF m 1 #[.val (.ref t), .val (.ref r)] [(.ref t)])) rfl (by rw [hml]; rfl) rfl (hb hby d3_1) (by decide) (W := 0) (by show 2 * 0 + _ ≤ _; exact Nat.le_of_eq rfl) (by decide)
  refine oOn st1 ?_
  show oGl p e below (T1.setTop (mkF m 4 #[.val (.ref t), .val (.ref r)] [])) _
  refine saloadN X1 hx (hb hby d3_4) rfl rfl rfl (pc' := 5) ?_
  refine saloadN X1 hx (hb hby d3_5) rfl rfl rfl (pc' := 6) ?_
  obtain ⟨T2, h2, X2, e2, W2, st2⟩ := putF X1 hx hZ hown (host := "") (Or.inl (hw _ (List.mem_of_getElem? (i := 31) rfl))) Via.refl e1 F0 E0 (Or.inr ⟨(hw _ (List.mem_of_getElem? (i := 32) rfl)), rfl, hnm⟩) (hw _ (List.mem_of_getElem? (i := 17) rfl)) (ty := (.object "com/example/concordat/concordat/core/AbortReason")) (by decide) rfl rfl (g := (mkF m 6 #[.val (.ref t), .val (.ref r)] [(.ref r), (.ref t)])) rfl rfl (hb hby d3_6)
  refine oOn st2 ?_
  have z3 : h0.size ≤ h2.size := Nat.le_of_eq W2.size.symm
  have N2 := Fr.snoc X2 N0 (by omega)
  have f2 := Fld.same W2 F0
  show oGl p e below (T2.setTop (mkF m 9 #[.val (.ref t), .val (.ref r)] [])) _
  have kp4 : Keep h0 h2 [t] := ((Keep.refl h0 [t]).wr W2 (Or.inl (List.mem_of_getElem? (i := 0) rfl)))
  have f5 := (E0.wr W2)
  refine oRet0 X2 hx Bd.notSynchronized Bd.returns (hb hby d3_9) (by decide) (by decide) ?_
  show Q_rmVin Z t r h0 n0 _ T2.heap _
  rw [e2]
  exact ⟨rfl, N2, kp4, f5, f2⟩
theorem d1_0 : decode prog_36_method_2_code 0 = .ok (.new 8, 3) := by decide +kernel
theorem d1_3 : decode prog_36_method_2_code 3 = .ok (.dup, 1) := by decide +kernel
theorem d1_4 : decode prog_36_method_2_code 4 = .ok (.aload_n 0, 1) := by decide +kernel
theorem d1_5 : decode prog_36_method_2_code 5 = .ok (.ldc 13, 2) := by decide +kernel
theorem d1_7 : decode prog_36_method_2_code 7 = .ok (.invokestatic 14, 3) := by decide +kernel
theorem pd_15 : parseMethodDescriptor "(Ljava/lang/Object;Ljava/lang/String;)Ljava/lang/Object;" = some ⟨[(.object "java/lang/Object"), (.object "java/lang/String")], some (.object "java/lang/Object")⟩ := by decide +kernel
theorem d1_10 : decode prog_36_method_2_code 10 = .ok (.checkcast 20, 3) := by decide +kernel
theorem d1_13 : decode prog_36_method_2_code 13 = .ok (.invokespecial 22, 3) := by decide +kernel
theorem pd_16 : parseMethodDescriptor "(Lcom/example/concordat/concordat/core/AbortReason;)V" = some ⟨[(.object "com/example/concordat/concordat/core/AbortReason")], none⟩ := by decide +kernel
theorem d1_16 : decode prog_36_method_2_code 16 = .ok (.areturn, 1) := by decide +kernel
theorem ef_rmNo (m : MethodId) (x0 : Nat)  : entryFrame m #[(.ref x0)] 1 = mkF m 0 #[.val (.ref x0)] [] := by first | (simp [entryFrame, mkF, argsToLocals, Value.category, maxLocals]; done) | rfl
def Q_rmNo (Z : State) (r : Nat) (Ts : List String) (h0 : Heap) (n0 : Nat) (vv : Option Value) (h : Heap) (vm : Vm) (L : List Loc) : Prop := ∃ t : Nat, vv = some (.ref t) ∧ Fr n0 L ∧ Keep h0 h [] ∧ h0.size ≤ t ∧ oOld Z n0 h ∧ Exa Z h t "com/example/concordat/concordat/core/Vote" ∧ Fld Z h t "com/example/concordat/concordat/core/Vote" "reason" "Lcom/example/concordat/concordat/core/AbortReason;" (.ref r) ∧ IB Z vm ("reason" :: Ts)
set_option maxRecDepth 65536 in
set_option maxHeartbeats 40000000 in
theorem rmNo (l : Launch) (Z : State) (a0 : Array Value) (hw : ∀ d ∈ tables_1, d.before a0 Z = true) (ws : List Jvm.Cond) (r : Nat) (Ts : List String) (h0 : Heap) (n0 : Nat) (Z0 : n0 ≤ h0.size) (O0 : oOld Z n0 h0) (Er : Exa Z h0 r "com/example/concordat/concordat/core/AbortReason") (hnt : "reason" ∉ Ts) (kh13 : Jvm.Lit.constHeld Z "com/example/concordat/concordat/core/Vote" 13) (hcw : Jvm.Lit.compactW.before a0 Z = true) :
    MetFree l (⟨"com/example/concordat/concordat/core/Vote", "no", "(Lcom/example/concordat/concordat/core/AbortReason;)Lcom/example/concordat/concordat/core/Vote;"⟩ : MethodName) (head1 (Jvm.Cond.code (⟨"com/example/concordat/concordat/core/Vote", "no", "(Lcom/example/concordat/concordat/core/AbortReason;)Lcom/example/concordat/concordat/core/Vote;"⟩ : MethodName) prog_36_method_2_code 1 (some (.object "com/example/concordat/concordat/core/Vote")) :: ws) ({ frames := 2, cells := 3, slots := 29, locals := 26 } : Room)) (fun aA uU => aA = #[(.ref r)] ∧ Z.Warmed39 uU.vm ∧ uU.heap = h0 ∧ IB Z uU.vm Ts) (fun _ _ _ _ _ => True) (fun _ uU oO uU' => ∃ vV lL, oO = .returned vV ∧ Q_rmNo Z r Ts h0 n0 vV uU'.heap uU'.vm lL ∧ ReturnedEndW uU oO uU' lL ({ frames := 2, cells := 3, slots := 29, locals := 26 } : Room).cells ({ frames := 2, cells := 3, slots := 29, locals := 26 } : Room).slots) := by
  refine MetFree.of_bodySF (plainFor_of_name pn_Vote) hisR ?_
  intro p e s m args below meth c s₁ Bd hml0 hP hK
  obtain ⟨rfl, hZ, hh, hJ⟩ := hP
  have hx := Bd.exec
  have hby := Bd.bytes
  have hml : c.maxLocals = 1 := hml0
  have hown : s.vm.findClass "com/example/concordat/concordat/core/Vote" = some m.cls := findClass_of_methodNamed Bd.named
  have hnm := (name_of_methodNamed Bd.named Bd.method).1
  have X0 : Stand p l e ({ frames := 2, cells := 3, slots := 29, locals := 26 } : Room) (s.setVm s.vm) m #[(.ref r)] below meth c s₁ [] 0 0 := Stand.of_body Bd
  have e0 : s₁.heap = h0 := by rw [← hh, Bd.state]; rfl
  have N0 := Fr.nil n0
  have hS : s.Since s.vm 0 := (State.WarmedH.refl s).since 0
  have hk : 0 ≤ h0.size := Nat.zero_le _
  have hZ : Z.Warmed39 (s.setVm s.vm).vm := hZ
  have hown : (s.setVm s.vm).vm.findClass "com/example/concordat/concordat/core/Vote" = some m.cls := hown
  refine oEnterV (oCast (ef_rmNo m r ) ?_)
  show oGl p e below (s₁.setTop (mkF m 0 #[.val (.ref r)] [])) _
  obtain ⟨T1, h1, X1, e1, E1, A1, D1, -, st1⟩ := newO X0 hx hZ hown (hw _ (List.mem_of_getElem? (i := 16) rfl)) (hw _ (List.mem_of_getElem? (i := 17) rfl)) (hw _ (List.mem_of_getElem? (i := 14) rfl)) e0 (g := (mkF m 0 #[.val (.ref r)] [])) rfl (hb hby d1_0) (by decide) (by decide)
  obtain ⟨a1, g1⟩ : ∃ z, z = h0.size := ⟨_, rfl⟩
  rw [← g1] at A1 D1 st1
  refine oOn st1 ?_
  have z2 : h0.size ≤ h1.size := E1.1
  have lt1 : a1 < h1.size := A1.lt
  have f1_32 : Fld Z h1 a1 "com/example/concordat/concordat/core/Vote" "reason" "Lcom/example/concordat/concordat/core/AbortReason;" .null := D1 (Or.inr (hw _ (List.mem_of_getElem? (i := 32) rfl))) (ty := (.object "com/example/concordat/concordat/core/AbortReason")) (by decide)
  show oGl p e below (T1.setTop (mkF m 3 #[.val (.ref r)] [(.ref a1)])) _
  refine sdup X1 hx (hb hby d1_3) rfl rfl (pc' := 4) ?_
  refine saloadN X1 hx (hb hby d1_4) rfl rfl rfl (pc' := 5) ?_
  have f4 := hJ
  obtain ⟨a3, T3, h3, k3, b3, kk3, X3, e3, E3, hS, hk, hZ, hown, ga3, gb3, gc3, gd3, -, -, Ib3, st3⟩ := ldcSV X1 hx hZ hown (hw _ (List.mem_of_getElem? (i := 18) rfl)) (own_sa hw) e1 hS (by omega) (Fr.nil _) (fun b cl hcl => by rw [hh]; exact O0.2.2 b cl hcl) f4 hnt kh13 hcw (vs := [(114 : Int32), (101 : Int32), (97 : Int32), (115 : Int32), (111 : Int32), (110 : Int32)].map Value.int) (z := 6) ⟨by decide, rfl⟩ (by decide) rfl (g := (mkF m 5 #[.val (.ref r)] [(.ref r), (.ref a1), (.ref a1)])) rfl (hb hby d1_5) (n := 24) (by decide) (by decide) (by decide) (by decide)
  refine oOn st3 ?_
  have z5 : h1.size ≤ h3.size := E3.1
  have ge3 := oAI.ofArvL (l := [(114 : Int32), (101 : Int32), (97 : Int32), (115 : Int32), (111 : Int32), (110 : Int32)]) gd3 rfl
  have lt3 : @LT.lt Nat _ a3 h3.size := ga3.lt
  have lu3 : @LT.lt Nat _ b3 h3.size := ge3.lt
  show oGl p e below (T3.setTop (mkF m 7 #[.val (.ref r)] [(.ref a3), (.ref r), (.ref a1), (.ref a1)])) _
  have hz6 : n0 ≤ h3.size := by omega
  obtain ⟨_, _, ⟨T6, L6, k6, n6⟩, -, X6, ⟨Lc6, hQ6, l6, y6, z6⟩, st6⟩ := Jvm.LawKit.callS X3 hx (y := (⟨"java/util/Objects", "requireNonNull", "(Ljava/lang/Object;Ljava/lang/String;)Ljava/lang/Object;"⟩ : MethodName)) hown (mvT hZ (hw _ (List.mem_of_getElem? (i := 19) rfl))) (mvT hZ (hw _ (List.mem_of_getElem? (i := 20) rfl))) (mvT hZ (hw _ (List.mem_of_getElem? (i := 21) rfl))) (mvT hZ (hw _ (List.mem_of_getElem? (i := 22) rfl))) (by decide) (backOf (W := 2) (rmRq2 l Z a0 hw [] r a3 h3 n0 hz6 ) hZ (hw _ (List.mem_of_getElem? (i := 22) rfl)) (hw _ (List.mem_of_getElem? (i := 21) rfl)) (by decide) (by decide)) (g := (mkF m 7 #[.val (.ref r)] [(.ref a3), (.ref r), (.ref a1), (.ref a1)])) rfl (by rw [hml]; rfl) (argsL := [(.ref r), (.ref a3)]) (rest := [(.ref a1), (.ref a1)]) (lenOf pd_15 rfl) rfl (by show 2 * 0 + _ ≤ _; exact Nat.le_of_eq rfl) (hb hby d1_7) (fun _ _ => ⟨rfl, e3, (by decide : 3 + 0 ≤ _), (by decide : 29 + 0 ≤ _)⟩)
  dsimp only [Pt.U, Pt.locs, Pt.cells, Pt.slots] at X6 l6 y6 z6 st6 hQ6
  subst l6 y6 z6
  obtain ⟨rfl, N6q, eh6⟩ := hQ6
  have N6 := Fr.app N0 N6q
  refine oOn st6 ?_
  show oGl p e below (T6.setTop (mkF m 10 #[.val (.ref r)] [(.ref r), (.ref a1), (.ref a1)])) _
  have f8 := ((Er.ext E1).ext E3)
  obtain ⟨T7, X7, e7, st7⟩ := castY X6 hx hZ hown (hw _ (List.mem_of_getElem? (i := 23) rfl)) eh6 (Ins.self f8) (g := (mkF m 10 #[.val (.ref r)] [(.ref r), (.ref a1), (.ref a1)])) rfl rfl (hb hby d1_10)
  refine oOn st7 ?_
  show oGl p e below (T7.setTop (mkF m 13 #[.val (.ref r)] [(.ref r), (.ref a1), (.ref a1)])) _
  have f9 := (A1.ext E3)
  have f10 := (f1_32.ext E3)
  have hz11 : n0 ≤ h3.size := by omega
  obtain ⟨_, _, ⟨T11, L11, k11, n11⟩, -, X11, ⟨Lc11, hQ11, l11, y11, z11⟩, st11⟩ := X7.specialBack hx (y := (⟨"com/example/concordat/concordat/core/Vote", "<init>", "(Lcom/example/concordat/concordat/core/AbortReason;)V"⟩ : MethodName)) rfl hown (mvT hZ (hw _ (List.mem_of_getElem? (i := 25) rfl))) (mvT hZ (hw _ (List.mem_of_getElem? (i := 26) rfl))) (mvT hZ (hw _ (List.mem_of_getElem? (i := 27) rfl))) (by decide) (backOf (W := 1) (rmVin l Z a0 hw [] a1 r h3 n0 hz11 f9 f10 (by omega)) hZ (hw _ (List.mem_of_getElem? (i := 27) rfl)) (hw _ (List.mem_of_getElem? (i := 14) rfl)) (by decide) (by decide)) (g := (mkF m 13 #[.val (.ref r)] [(.ref r), (.ref a1), (.ref a1)])) rfl (by rw [hml]; rfl) (Steps.refl _) (a := a1) (argsL := [(.ref r)]) (rest := [(.ref a1)]) (lenOf pd_16 rfl) rfl (by show 2 * 0 + _ ≤ _; exact Nat.le_of_eq rfl) (hb hby d1_13) (fun _ _ => ⟨rfl, e7, (by decide : 3 + 0 ≤ _), (by decide : 29 + 0 ≤ _)⟩)
  dsimp only [Pt.U, Pt.locs, Pt.cells, Pt.slots] at X11 l11 y11 z11 st11 hQ11
  subst l11 y11 z11
  obtain ⟨rfl, N11q, K11, Ei11, Fi11⟩ := hQ11
  have N11 := Fr.app N6 N11q
  have z12 : h3.size ≤ T11.heap.size := K11.1
  refine oSt st11 ?_
  show oGl p e below (T11.setTop (mkF m 16 #[.val (.ref r)] [(.ref a1)])) _
  have kp13 : Keep h0 T11.heap [] := ((((Keep.refl h0 []).ext E1).ext E3).trans K11 (allS (Or.inr (by omega)) all0))
  have f14 := (((O0.ext E1).ext E3).keep K11 (allS (by omega) all0))
  have f15 := Ib3
  refine oRetRV X11 hS (by omega) hx Bd.notSynchronized Bd.returns rfl rfl (hb hby d1_16) (by decide) (by decide) ?_
  show Q_rmNo Z r Ts h0 n0 _ T11.heap _ _
  exact ⟨a1, rfl, N11, kp13, by omega, f14, Ei11, Fi11, IBwarm f15 X11.warmed⟩
theorem d18_0 : decode prog_5_method_4_code 0 = .ok (.aload_n 0, 1) := by decide +kernel
theorem d18_1 : decode prog_5_method_4_code 1 = .ok (.getfield 32, 3) := by decide +kernel
theorem d18_4 : decode prog_5_method_4_code 4 = .ok (.areturn, 1) := by decide +kernel
theorem pn_AbortReason : plainName "com/example/concordat/concordat/core/AbortReason" = true := by first | (simp [plainName, overriddenIn]; done) | decide +kernel
theorem ef_rmGw (m : MethodId) (x0 : Nat)  : entryFrame m #[(.ref x0)] 1 = mkF m 0 #[.val (.ref x0)] [] := by first | (simp [entryFrame, mkF, argsToLocals, Value.category, maxLocals]; done) | rfl
def Q_rmGw (Z : State) (r wd : Nat) (h0 : Heap) (n0 : Nat) (vv : Option Value) (h : Heap) (L : List Loc) : Prop := vv = some (.ref wd) ∧ Fr n0 L ∧ h = h0
set_option maxRecDepth 65536 in
set_option maxHeartbeats 40000000 in
theorem rmGw (l : Launch) (Z : State) (a0 : Array Value) (hw : ∀ d ∈ tables_1, d.before a0 Z = true) (ws : List Jvm.Cond) (r wd : Nat) (h0 : Heap) (n0 : Nat) (Z0 : n0 ≤ h0.size) (F0 : Fld Z h0 r "com/example/concordat/concordat/core/AbortReason" "word" "Ljava/lang/String;" (.ref wd)) :
    MetFree l (⟨"com/example/concordat/concordat/core/AbortReason", "getWord", "()Ljava/lang/String;"⟩ : MethodName) (head1 (Jvm.Cond.code (⟨"com/example/concordat/concordat/core/AbortReason", "getWord", "()Ljava/lang/String;"⟩ : MethodName) prog_5_method_4_code 1 (some (.object "java/lang/String")) :: ws) ({ frames := 0, cells := 0, slots := 0, locals := 0 } : Room)) (fun aA uU => aA = #[(.ref r)] ∧ Z.Warmed39 uU.vm ∧ uU.heap = h0) (fun _ _ _ _ _ => True) (fun _ uU oO uU' => ∃ vV lL, oO = .returned vV ∧ Q_rmGw Z r wd h0 n0 vV uU'.heap lL ∧ FrameEnd uU oO uU' lL ({ frames := 0, cells := 0, slots := 0, locals := 0 } : Room).cells ({ frames := 0, cells := 0, slots := 0, locals := 0 } : Room).slots) := by
  refine MetFree.of_bodySF (plainFor_of_name pn_AbortReason) hisR ?_
  intro p e s m args below meth c s₁ Bd hml0 hP hK
  obtain ⟨rfl, hZ, hh⟩ := hP
  have hx := Bd.exec
  have hby := Bd.bytes
  have hml : c.maxLocals = 1 := hml0
  have hown : s.vm.findClass "com/example/concordat/concordat/core/AbortReason" = some m.cls := findClass_of_methodNamed Bd.named
  have hnm := (name_of_methodNamed Bd.named Bd.method).1
  have X0 : Stand p l e ({ frames := 0, cells := 0, slots := 0, locals := 0 } : Room) s m #[(.ref r)] below meth c s₁ [] 0 0 := Stand.of_body Bd
  have e0 : s₁.heap = h0 := by rw [← hh, Bd.state]; rfl
  have N0 := Fr.nil n0
  refine oEnter (oCast (ef_rmGw m r ) ?_)
  show oGl p e below (s₁.setTop (mkF m 0 #[.val (.ref r)] [])) _
  refine saloadN X0 hx (hb hby d18_0) rfl rfl rfl (pc' := 1) ?_
  obtain ⟨T1, X1, e1, st1⟩ := getF X0 hx hZ hown (host := "") (Or.inl (hw _ (List.mem_of_getElem? (i := 124) rfl))) Via.refl e0 F0 (g := (mkF m 1 #[.val (.ref r)] [(.ref r)])) rfl rfl (hb hby d18_1)
  refine oOn st1 ?_
  show oGl p e below (T1.setTop (mkF m 4 #[.val (.ref r)] [(.ref wd)])) _
  refine oRetR X1 hx Bd.notSynchronized Bd.returns rfl rfl (hb hby d18_4) (by decide) (by decide) ?_
  show Q_rmGw Z r wd h0 n0 _ T1.heap _
  rw [e1]
  exact ⟨rfl, N0, rfl⟩
theorem d5_0 : decode prog_36_method_3_code 0 = .ok (.aload_n 0, 1) := by decide +kernel
theorem d5_1 : decode prog_36_method_3_code 1 = .ok (.getfield 7, 3) := by decide +kernel
theorem d5_4 : decode prog_36_method_3_code 4 = .ok (.ifnonnull 7, 3) := by decide +kernel
theorem d5_11 : decode prog_36_method_3_code 11 = .ok (.iconst 0, 1) := by decide +kernel
theorem d5_12 : decode prog_36_method_3_code 12 = .ok (.ireturn, 1) := by decide +kernel
theorem ef_rmIy0 (m : MethodId) (x0 : Nat)  : entryFrame m #[(.ref x0)] 1 = mkF m 0 #[.val (.ref x0)] [] := by first | (simp [entryFrame, mkF, argsToLocals, Value.category, maxLocals]; done) | rfl
def Q_rmIy0 (Z : State) (t r : Nat) (h0 : Heap) (n0 : Nat) (vv : Option Value) (h : Heap) (L : List Loc) : Prop := vv = some (.int 0) ∧ Fr n0 L ∧ h = h0
set_option maxRecDepth 65536 in
set_option maxHeartbeats 40000000 in
theorem rmIy0 (l : Launch) (Z : State) (a0 : Array Value) (hw : ∀ d ∈ tables_1, d.before a0 Z = true) (ws : List Jvm.Cond) (t r : Nat) (h0 : Heap) (n0 : Nat) (Z0 : n0 ≤ h0.size) (F0 : Fld Z h0 t "com/example/concordat/concordat/core/Vote" "reason" "Lcom/example/concordat/concordat/core/AbortReason;" (.ref r)) :
    MetFree l (⟨"com/example/concordat/concordat/core/Vote", "isYes", "()Z"⟩ : MethodName) (head1 (Jvm.Cond.code (⟨"com/example/concordat/concordat/core/Vote", "isYes", "()Z"⟩ : MethodName) prog_36_method_3_code 1 (some .boolean) :: ws) ({ frames := 0, cells := 0, slots := 0, locals := 0 } : Room)) (fun aA uU => aA = #[(.ref t)] ∧ Z.Warmed39 uU.vm ∧ uU.heap = h0) (fun _ _ _ _ _ => True) (fun _ uU oO uU' => ∃ vV lL, oO = .returned vV ∧ Q_rmIy0 Z t r h0 n0 vV uU'.heap lL ∧ FrameEnd uU oO uU' lL ({ frames := 0, cells := 0, slots := 0, locals := 0 } : Room).cells ({ frames := 0, cells := 0, slots := 0, locals := 0 } : Room).slots) := by
  refine MetFree.of_bodySF (plainFor_of_name pn_Vote) hisR ?_
  intro p e s m args below meth c s₁ Bd hml0 hP hK
  obtain ⟨rfl, hZ, hh⟩ := hP
  have hx := Bd.exec
  have hby := Bd.bytes
  have hml : c.maxLocals = 1 := hml0
  have hown : s.vm.findClass "com/example/concordat/concordat/core/Vote" = some m.cls := findClass_of_methodNamed Bd.named
  have hnm := (name_of_methodNamed Bd.named Bd.method).1
  have X0 : Stand p l e ({ frames := 0, cells := 0, slots := 0, locals := 0 } : Room) s m #[(.ref t)] below meth c s₁ [] 0 0 := Stand.of_body Bd
  have e0 : s₁.heap = h0 := by rw [← hh, Bd.state]; rfl
  have N0 := Fr.nil n0
  refine oEnter (oCast (ef_rmIy0 m t ) ?_)
  show oGl p e below (s₁.setTop (mkF m 0 #[.val (.ref t)] [])) _
  refine saloadN X0 hx (hb hby d5_0) rfl rfl rfl (pc' := 1) ?_
  obtain ⟨T1, X1, e1, st1⟩ := getF X0 hx hZ hown (host := "") (Or.inl (hw _ (List.mem_of_getElem? (i := 31) rfl))) Via.refl e0 F0 (g := (mkF m 1 #[.val (.ref t)] [(.ref t)])) rfl rfl (hb hby d5_1)
  refine oOn st1 ?_
  show oGl p e below (T1.setTop (mkF m 4 #[.val (.ref t)] [(.ref r)])) _
  refine sifnonnullY X1 hx (hb hby d5_4) (by decide) (by decide)  (pc' := 11) ?_
  refine siconst X1 hx (hb hby d5_11) rfl rfl (z := 0) (pc' := 12) ?_
  refine oRetN (t := .boolean) X1 hx Bd.notSynchronized Bd.returns (by simp) (hb hby d5_12) (by decide) (by decide) ?_
  show Q_rmIy0 Z t r h0 n0 _ T1.heap _
  rw [e1]
  exact ⟨rfl, N0, rfl⟩
theorem d5_7 : decode prog_36_method_3_code 7 = .ok (.iconst 1, 1) := by decide +kernel
theorem d5_8 : decode prog_36_method_3_code 8 = .ok (.goto 4, 3) := by decide +kernel
theorem ef_rmIy1 (m : MethodId) (x0 : Nat)  : entryFrame m #[(.ref x0)] 1 = mkF m 0 #[.val (.ref x0)] [] := by first | (simp [entryFrame, mkF, argsToLocals, Value.category, maxLocals]; done) | rfl
def Q_rmIy1 (Z : State) (t : Nat) (h0 : Heap) (n0 : Nat) (vv : Option Value) (h : Heap) (L : List Loc) : Prop := vv = some (.int 1) ∧ Fr n0 L ∧ h = h0
set_option maxRecDepth 65536 in
set_option maxHeartbeats 40000000 in
theorem rmIy1 (l : Launch) (Z : State) (a0 : Array Value) (hw : ∀ d ∈ tables_1, d.before a0 Z = true) (ws : List Jvm.Cond) (t : Nat) (h0 : Heap) (n0 : Nat) (Z0 : n0 ≤ h0.size) (F0 : Fld Z h0 t "com/example/concordat/concordat/core/Vote" "reason" "Lcom/example/concordat/concordat/core/AbortReason;" .null) :
    MetFree l (⟨"com/example/concordat/concordat/core/Vote", "isYes", "()Z"⟩ : MethodName) (head1 (Jvm.Cond.code (⟨"com/example/concordat/concordat/core/Vote", "isYes", "()Z"⟩ : MethodName) prog_36_method_3_code 1 (some .boolean) :: ws) ({ frames := 0, cells := 0, slots := 0, locals := 0 } : Room)) (fun aA uU => aA = #[(.ref t)] ∧ Z.Warmed39 uU.vm ∧ uU.heap = h0) (fun _ _ _ _ _ => True) (fun _ uU oO uU' => ∃ vV lL, oO = .returned vV ∧ Q_rmIy1 Z t h0 n0 vV uU'.heap lL ∧ FrameEnd uU oO uU' lL ({ frames := 0, cells := 0, slots := 0, locals := 0 } : Room).cells ({ frames := 0, cells := 0, slots := 0, locals := 0 } : Room).slots) := by
  refine MetFree.of_bodySF (plainFor_of_name pn_Vote) hisR ?_
  intro p e s m args below meth c s₁ Bd hml0 hP hK
  obtain ⟨rfl, hZ, hh⟩ := hP
  have hx := Bd.exec
  have hby := Bd.bytes
  have hml : c.maxLocals = 1 := hml0
  have hown : s.vm.findClass "com/example/concordat/concordat/core/Vote" = some m.cls := findClass_of_methodNamed Bd.named
  have hnm := (name_of_methodNamed Bd.named Bd.method).1
  have X0 : Stand p l e ({ frames := 0, cells := 0, slots := 0, locals := 0 } : Room) s m #[(.ref t)] below meth c s₁ [] 0 0 := Stand.of_body Bd
  have e0 : s₁.heap = h0 := by rw [← hh, Bd.state]; rfl
  have N0 := Fr.nil n0
  refine oEnter (oCast (ef_rmIy1 m t ) ?_)
  show oGl p e below (s₁.setTop (mkF m 0 #[.val (.ref t)] [])) _
  refine saloadN X0 hx (hb hby d5_0) rfl rfl rfl (pc' := 1) ?_
  obtain ⟨T1, X1, e1, st1⟩ := getF X0 hx hZ hown (host := "") (Or.inl (hw _ (List.mem_of_getElem? (i := 31) rfl))) Via.refl e0 F0 (g := (mkF m 1 #[.val (.ref t)] [(.ref t)])) rfl rfl (hb hby d5_1)
  refine oOn st1 ?_
  show oGl p e below (T1.setTop (mkF m 4 #[.val (.ref t)] [.null])) _
  refine sifnonnullN X1 hx (hb hby d5_4) rfl  (pc' := 7) ?_
  refine siconst X1 hx (hb hby d5_7) rfl rfl (z := 1) (pc' := 8) ?_
  refine sgoto X1 hx (hb hby d5_8) (by decide) (by decide)  (pc' := 12) ?_
  refine oRetN (t := .boolean) X1 hx Bd.notSynchronized Bd.returns (by simp) (hb hby d5_12) (by decide) (by decide) ?_
  show Q_rmIy1 Z t h0 n0 _ T1.heap _
  rw [e1]
  exact ⟨rfl, N0, rfl⟩
theorem d6_0 : decode prog_36_method_4_code 0 = .ok (.aload_n 0, 1) := by decide +kernel
theorem d6_1 : decode prog_36_method_4_code 1 = .ok (.getfield 7, 3) := by decide +kernel
theorem d6_4 : decode prog_36_method_4_code 4 = .ok (.areturn, 1) := by decide +kernel
theorem ef_rmGr0 (m : MethodId) (x0 : Nat)  : entryFrame m #[(.ref x0)] 1 = mkF m 0 #[.val (.ref x0)] [] := by first | (simp [entryFrame, mkF, argsToLocals, Value.category, maxLocals]; done) | rfl
def Q_rmGr0 (Z : State) (t r : Nat) (h0 : Heap) (n0 : Nat) (vv : Option Value) (h : Heap) (L : List Loc) : Prop := vv = some (.ref r) ∧ Fr n0 L ∧ h = h0
set_option maxRecDepth 65536 in
set_option maxHeartbeats 40000000 in
theorem rmGr0 (l : Launch) (Z : State) (a0 : Array Value) (hw : ∀ d ∈ tables_1, d.before a0 Z = true) (ws : List Jvm.Cond) (t r : Nat) (h0 : Heap) (n0 : Nat) (Z0 : n0 ≤ h0.size) (F0 : Fld Z h0 t "com/example/concordat/concordat/core/Vote" "reason" "Lcom/example/concordat/concordat/core/AbortReason;" (.ref r)) :
    MetFree l (⟨"com/example/concordat/concordat/core/Vote", "getReason", "()Lcom/example/concordat/concordat/core/AbortReason;"⟩ : MethodName) (head1 (Jvm.Cond.code (⟨"com/example/concordat/concordat/core/Vote", "getReason", "()Lcom/example/concordat/concordat/core/AbortReason;"⟩ : MethodName) prog_36_method_4_code 1 (some (.object "com/example/concordat/concordat/core/AbortReason")) :: ws) ({ frames := 0, cells := 0, slots := 0, locals := 0 } : Room)) (fun aA uU => aA = #[(.ref t)] ∧ Z.Warmed39 uU.vm ∧ uU.heap = h0) (fun _ _ _ _ _ => True) (fun _ uU oO uU' => ∃ vV lL, oO = .returned vV ∧ Q_rmGr0 Z t r h0 n0 vV uU'.heap lL ∧ FrameEnd uU oO uU' lL ({ frames := 0, cells := 0, slots := 0, locals := 0 } : Room).cells ({ frames := 0, cells := 0, slots := 0, locals := 0 } : Room).slots) := by
  refine MetFree.of_bodySF (plainFor_of_name pn_Vote) hisR ?_
  intro p e s m args below meth c s₁ Bd hml0 hP hK
  obtain ⟨rfl, hZ, hh⟩ := hP
  have hx := Bd.exec
  have hby := Bd.bytes
  have hml : c.maxLocals = 1 := hml0
  have hown : s.vm.findClass "com/example/concordat/concordat/core/Vote" = some m.cls := findClass_of_methodNamed Bd.named
  have hnm := (name_of_methodNamed Bd.named Bd.method).1
  have X0 : Stand p l e ({ frames := 0, cells := 0, slots := 0, locals := 0 } : Room) s m #[(.ref t)] below meth c s₁ [] 0 0 := Stand.of_body Bd
  have e0 : s₁.heap = h0 := by rw [← hh, Bd.state]; rfl
  have N0 := Fr.nil n0
  refine oEnter (oCast (ef_rmGr0 m t ) ?_)
  show oGl p e below (s₁.setTop (mkF m 0 #[.val (.ref t)] [])) _
  refine saloadN X0 hx (hb hby d6_0) rfl rfl rfl (pc' := 1) ?_
  obtain ⟨T1, X1, e1, st1⟩ := getF X0 hx hZ hown (host := "") (Or.inl (hw _ (List.mem_of_getElem? (i := 31) rfl))) Via.refl e0 F0 (g := (mkF m 1 #[.val (.ref t)] [(.ref t)])) rfl rfl (hb hby d6_1)
  refine oOn st1 ?_
  show oGl p e below (T1.setTop (mkF m 4 #[.val (.ref t)] [(.ref r)])) _
  refine oRetR X1 hx Bd.notSynchronized Bd.returns rfl rfl (hb hby d6_4) (by decide) (by decide) ?_
  show Q_rmGr0 Z t r h0 n0 _ T1.heap _
  rw [e1]
  exact ⟨rfl, N0, rfl⟩
theorem ef_rmGr1 (m : MethodId) (x0 : Nat)  : entryFrame m #[(.ref x0)] 1 = mkF m 0 #[.val (.ref x0)] [] := by first | (simp [entryFrame, mkF, argsToLocals, Value.category, maxLocals]; done) | rfl
def Q_rmGr1 (Z : State) (t : Nat) (h0 : Heap) (n0 : Nat) (vv : Option Value) (h : Heap) (L : List Loc) : Prop := vv = some .null ∧ Fr n0 L ∧ h = h0
set_option maxRecDepth 65536 in
set_option maxHeartbeats 40000000 in
theorem rmGr1 (l : Launch) (Z : State) (a0 : Array Value) (hw : ∀ d ∈ tables_1, d.before a0 Z = true) (ws : List Jvm.Cond) (t : Nat) (h0 : Heap) (n0 : Nat) (Z0 : n0 ≤ h0.size) (F0 : Fld Z h0 t "com/example/concordat/concordat/core/Vote" "reason" "Lcom/example/concordat/concordat/core/AbortReason;" .null) :
    MetFree l (⟨"com/example/concordat/concordat/core/Vote", "getReason", "()Lcom/example/concordat/concordat/core/AbortReason;"⟩ : MethodName) (head1 (Jvm.Cond.code (⟨"com/example/concordat/concordat/core/Vote", "getReason", "()Lcom/example/concordat/concordat/core/AbortReason;"⟩ : MethodName) prog_36_method_4_code 1 (some (.object "com/example/concordat/concordat/core/AbortReason")) :: ws) ({ frames := 0, cells := 0, slots := 0, locals := 0 } : Room)) (fun aA uU => aA = #[(.ref t)] ∧ Z.Warmed39 uU.vm ∧ uU.heap = h0) (fun _ _ _ _ _ => True) (fun _ uU oO uU' => ∃ vV lL, oO = .returned vV ∧ Q_rmGr1 Z t h0 n0 vV uU'.heap lL ∧ FrameEnd uU oO uU' lL ({ frames := 0, cells := 0, slots := 0, locals := 0 } : Room).cells ({ frames := 0, cells := 0, slots := 0, locals := 0 } : Room).slots) := by
  refine MetFree.of_bodySF (plainFor_of_name pn_Vote) hisR ?_
  intro p e s m args below meth c s₁ Bd hml0 hP hK
  obtain ⟨rfl, hZ, hh⟩ := hP
  have hx := Bd.exec
  have hby := Bd.bytes
  have hml : c.maxLocals = 1 := hml0
  have hown : s.vm.findClass "com/example/concordat/concordat/core/Vote" = some m.cls := findClass_of_methodNamed Bd.named
  have hnm := (name_of_methodNamed Bd.named Bd.method).1
  have X0 : Stand p l e ({ frames := 0, cells := 0, slots := 0, locals := 0 } : Room) s m #[(.ref t)] below meth c s₁ [] 0 0 := Stand.of_body Bd
  have e0 : s₁.heap = h0 := by rw [← hh, Bd.state]; rfl
  have N0 := Fr.nil n0
  refine oEnter (oCast (ef_rmGr1 m t ) ?_)
  show oGl p e below (s₁.setTop (mkF m 0 #[.val (.ref t)] [])) _
  refine saloadN X0 hx (hb hby d6_0) rfl rfl rfl (pc' := 1) ?_
  obtain ⟨T1, X1, e1, st1⟩ := getF X0 hx hZ hown (host := "") (Or.inl (hw _ (List.mem_of_getElem? (i := 31) rfl))) Via.refl e0 F0 (g := (mkF m 1 #[.val (.ref t)] [(.ref t)])) rfl rfl (hb hby d6_1)
  refine oOn st1 ?_
  show oGl p e below (T1.setTop (mkF m 4 #[.val (.ref t)] [.null])) _
  refine oRetR X1 hx Bd.notSynchronized Bd.returns rfl rfl (hb hby d6_4) (by decide) (by decide) ?_
  show Q_rmGr1 Z t h0 n0 _ T1.heap _
  rw [e1]
  exact ⟨rfl, N0, rfl⟩
theorem d7_0 : decode prog_36_method_5_code 0 = .ok (.aload_n 0, 1) := by decide +kernel
theorem d7_1 : decode prog_36_method_5_code 1 = .ok (.getfield 7, 3) := by decide +kernel
theorem d7_4 : decode prog_36_method_5_code 4 = .ok (.ifnonnull 8, 3) := by decide +kernel
theorem d7_12 : decode prog_36_method_5_code 12 = .ok (.new 27, 3) := by decide +kernel
theorem d7_15 : decode prog_36_method_5_code 15 = .ok (.dup, 1) := by decide +kernel
theorem d7_16 : decode prog_36_method_5_code 16 = .ok (.invokespecial 29, 3) := by decide +kernel
theorem pd_17 : parseMethodDescriptor "()V" = some ⟨[], none⟩ := by decide +kernel
theorem d7_19 : decode prog_36_method_5_code 19 = .ok (.ldc 30, 2) := by decide +kernel
theorem d7_21 : decode prog_36_method_5_code 21 = .ok (.invokevirtual 32, 3) := by decide +kernel
theorem pd_18 : parseMethodDescriptor "(Ljava/lang/String;)Ljava/lang/StringBuilder;" = some ⟨[(.object "java/lang/String")], some (.object "java/lang/StringBuilder")⟩ := by decide +kernel
theorem d7_24 : decode prog_36_method_5_code 24 = .ok (.aload_n 0, 1) := by decide +kernel
theorem d7_25 : decode prog_36_method_5_code 25 = .ok (.getfield 7, 3) := by decide +kernel
theorem d7_28 : decode prog_36_method_5_code 28 = .ok (.invokevirtual 36, 3) := by decide +kernel
theorem pd_19 : parseMethodDescriptor "()Ljava/lang/String;" = some ⟨[], some (.object "java/lang/String")⟩ := by decide +kernel
theorem d7_31 : decode prog_36_method_5_code 31 = .ok (.invokevirtual 32, 3) := by decide +kernel
theorem d7_34 : decode prog_36_method_5_code 34 = .ok (.invokevirtual 40, 3) := by decide +kernel
theorem d7_37 : decode prog_36_method_5_code 37 = .ok (.areturn, 1) := by decide +kernel
theorem ef_rmVts8 (m : MethodId) (x0 : Nat)  : entryFrame m #[(.ref x0)] 1 = mkF m 0 #[.val (.ref x0)] [] := by first | (simp [entryFrame, mkF, argsToLocals, Value.category, maxLocals]; done) | rfl
def Q_rmVts8 (Z : State) (t r wd bw : Nat) (f : Nat → Int32) (cz : Int32) (Ts : List String) (h0 : Heap) (n0 : Nat) (vv : Option Value) (h : Heap) (vm : Vm) (L : List Loc) : Prop := ∃ y d : Nat, vv = some (.ref y) ∧ Fr n0 L ∧ Keep h0 h [] ∧ Exa Z h y "java/lang/String" ∧ Fld Z h y "java/lang/String" "value" "[B" (.ref d) ∧ Fld Z h y "java/lang/String" "coder" "B" (.int 0) ∧ oAI Z h d .byte 11 (oCpF 0 11 (fun i => (oCpF 3 8 (fun i => f (0 + i)) (oCpF 0 3 (fun i => (oLst [(110 : Int32), (111 : Int32), (32 : Int32)]) (0 + i)) (fun _ => 0))) (0 + i)) (fun _ => 0))
set_option maxRecDepth 65536 in
set_option maxHeartbeats 40000000 in
theorem rmVts8 (l : Launch) (Z : State) (a0 : Array Value) (hw : ∀ d ∈ tables_1, d.before a0 Z = true) (ws : List Jvm.Cond) (t r wd bw : Nat) (f : Nat → Int32) (cz : Int32) (Ts : List String) (h0 : Heap) (n0 : Nat) (Z0 : n0 ≤ h0.size) (O0 : oOld Z n0 h0) (SCS : Sta Z Z.heap "java/lang/String" "COMPACT_STRINGS" "Z" (.int cz)) (hcz : ¬ cz = (0 : Int32)) (hq0 : n0 = h0.size) (Et : Exa Z h0 t "com/example/concordat/concordat/core/Vote") (Ft : Fld Z h0 t "com/example/concordat/concordat/core/Vote" "reason" "Lcom/example/concordat/concordat/core/AbortReason;" (.ref r)) (Er : Exa Z h0 r "com/example/concordat/concordat/core/AbortReason") (Fr0 : Fld Z h0 r "com/example/concordat/concordat/core/AbortReason" "word" "Ljava/lang/String;" (.ref wd)) (Wa : Exa Z h0 wd "java/lang/String") (Wb : Fld Z h0 wd "java/lang/String" "value" "[B" (.ref bw)) (Wc : Fld Z h0 wd "java/lang/String" "coder" "B" (.int 0)) (Wd : oAI Z h0 bw .byte 8 f) (Fw : oFit 8 f) (hnt : "no " ∉ Ts) (kh30 : Jvm.Lit.constHeld Z "com/example/concordat/concordat/core/Vote" 30) (hcw : Jvm.Lit.compactW.before a0 Z = true) :
    MetFree l (⟨"com/example/concordat/concordat/core/Vote", "toString", "()Ljava/lang/String;"⟩ : MethodName) (head1 (Jvm.Cond.code (⟨"com/example/concordat/concordat/core/Vote", "toString", "()Ljava/lang/String;"⟩ : MethodName) prog_36_method_5_code 1 (some (.object "java/lang/String")) :: ws) ({ frames := 6, cells := 6, slots := 51, locals := 91 } : Room)) (fun aA uU => aA = #[(.ref t)] ∧ Z.Warmed39 uU.vm ∧ uU.heap = h0 ∧ IB Z uU.vm Ts) (fun _ _ _ _ _ => True) (fun _ uU oO uU' => ∃ vV lL, oO = .returned vV ∧ Q_rmVts8 Z t r wd bw f cz Ts h0 n0 vV uU'.heap uU'.vm lL ∧ ReturnedEndW uU oO uU' lL ({ frames := 6, cells := 6, slots := 51, locals := 91 } : Room).cells ({ frames := 6, cells := 6, slots := 51, locals := 91 } : Room).slots) := by
  refine MetFree.of_bodySF (plainFor_of_name pn_Vote) hisR ?_
  intro p e s m args below meth c s₁ Bd hml0 hP hK
  obtain ⟨rfl, hZ, hh, hJ⟩ := hP
  have hx := Bd.exec
  have hby := Bd.bytes
  have hml : c.maxLocals = 1 := hml0
  have hown : s.vm.findClass "com/example/concordat/concordat/core/Vote" = some m.cls := findClass_of_methodNamed Bd.named
  have hnm := (name_of_methodNamed Bd.named Bd.method).1
  have X0 : Stand p l e ({ frames := 6, cells := 6, slots := 51, locals := 91 } : Room) (s.setVm s.vm) m #[(.ref t)] below meth c s₁ [] 0 0 := Stand.of_body Bd
  have e0 : s₁.heap = h0 := by rw [← hh, Bd.state]; rfl
  have N0 := Fr.nil n0
  have hS : s.Since s.vm 0 := (State.WarmedH.refl s).since 0
  have hk : 0 ≤ h0.size := Nat.zero_le _
  have hZ : Z.Warmed39 (s.setVm s.vm).vm := hZ
  have hown : (s.setVm s.vm).vm.findClass "com/example/concordat/concordat/core/Vote" = some m.cls := hown
  have lT : @LT.lt Nat _ t h0.size := Et.lt
  have lR : @LT.lt Nat _ r h0.size := Er.lt
  have lW : @LT.lt Nat _ wd h0.size := Wa.lt
  have lBw : @LT.lt Nat _ bw h0.size := Wd.lt
  refine oEnterV (oCast (ef_rmVts8 m t ) ?_)
  show oGl p e below (s₁.setTop (mkF m 0 #[.val (.ref t)] [])) _
  refine saloadN X0 hx (hb hby d7_0) rfl rfl rfl (pc' := 1) ?_
  obtain ⟨T1, X1, e1, st1⟩ := getF X0 hx hZ hown (host := "") (Or.inl (hw _ (List.mem_of_getElem? (i := 31) rfl))) Via.refl e0 Ft (g := (mkF m 1 #[.val (.ref t)] [(.ref t)])) rfl rfl (hb hby d7_1)
  refine oOn st1 ?_
  show oGl p e below (T1.setTop (mkF m 4 #[.val (.ref t)] [(.ref r)])) _
  refine sifnonnullY X1 hx (hb hby d7_4) (by decide) (by decide)  (pc' := 12) ?_
  obtain ⟨T2, h2, X2, e2, E2, A2, D2, -, st2⟩ := newO X1 hx hZ hown (hw _ (List.mem_of_getElem? (i := 50) rfl)) (hw _ (List.mem_of_getElem? (i := 51) rfl)) (hw _ (List.mem_of_getElem? (i := 52) rfl)) e1 (g := (mkF m 12 #[.val (.ref t)] [])) rfl (hb hby d7_12) (by decide) (by decide)
  obtain ⟨a2, g2⟩ : ∃ z, z = h0.size := ⟨_, rfl⟩
  rw [← g2] at A2 D2 st2
  refine oOn st2 ?_
  have z3 : h0.size ≤ h2.size := E2.1
  have lt2 : a2 < h2.size := A2.lt
  have f2_65 : Fld Z h2 a2 "java/lang/AbstractStringBuilder" "value" "[B" .null := D2 (Or.inl (hw _ (List.mem_of_getElem? (i := 65) rfl))) (ty := (.array .byte)) (by decide)
  have f2_67 : Fld Z h2 a2 "java/lang/AbstractStringBuilder" "coder" "B" (.int (0 : Int32)) := D2 (Or.inl (hw _ (List.mem_of_getElem? (i := 67) rfl))) (ty := .byte) (by decide)
  have f2_93 : Fld Z h2 a2 "java/lang/AbstractStringBuilder" "count" "I" (.int (0 : Int32)) := D2 (Or.inl (hw _ (List.mem_of_getElem? (i := 93) rfl))) (ty := .int) (by decide)
  show oGl p e below (T2.setTop (mkF m 15 #[.val (.ref t)] [(.ref a2)])) _
  refine sdup X2 hx (hb hby d7_15) rfl rfl (pc' := 16) ?_
  have f4 := (O0.ext E2)
  have hz5 : n0 ≤ h2.size := by omega
  obtain ⟨_, _, ⟨T5, L5, k5, n5⟩, -, X5, ⟨Lc5, hQ5, l5, y5, z5⟩, st5⟩ := X2.specialBack hx (y := (⟨"java/lang/StringBuilder", "<init>", "()V"⟩ : MethodName)) rfl hown (mvT hZ (hw _ (List.mem_of_getElem? (i := 53) rfl))) (mvT hZ (hw _ (List.mem_of_getElem? (i := 54) rfl))) (mvT hZ (hw _ (List.mem_of_getElem? (i := 55) rfl))) (by decide) (backOf (W := 1) (rmBin l Z a0 hw [] a2 cz h2 n0 hz5 f4 SCS hcz A2 f2_65 f2_67 f2_93 (by omega)) hZ (hw _ (List.mem_of_getElem? (i := 55) rfl)) (hw _ (List.mem_of_getElem? (i := 52) rfl)) (by decide) (by decide)) (g := (mkF m 16 #[.val (.ref t)] [(.ref a2), (.ref a2)])) rfl (by rw [hml]; rfl) (Steps.refl _) (a := a2) (argsL := []) (rest := [(.ref a2)]) (lenOf pd_17 rfl) rfl (by show 2 * 0 + _ ≤ _; exact Nat.le_of_eq rfl) (hb hby d7_16) (fun _ _ => ⟨rfl, e2, (by decide : 1 + 1 ≤ _), (by decide : 4 + 16 ≤ _)⟩)
  dsimp only [Pt.U, Pt.locs, Pt.cells, Pt.slots] at X5 l5 y5 z5 st5 hQ5
  subst l5 y5 z5
  obtain ⟨vb5, rfl, N5q, K5, zv5, Eb5, Ba5, Bb5, Bc5, Vb5⟩ := hQ5
  have N5 := Fr.app N0 N5q
  have z6 : h2.size ≤ T5.heap.size := K5.1
  refine oSt st5 ?_
  have lvb : @LT.lt Nat _ vb5 T5.heap.size := Vb5.lt
  show oGl p e below (T5.setTop (mkF m 19 #[.val (.ref t)] [(.ref a2)])) _
  have f8 := hJ
  obtain ⟨a7, T7, h7, k7, b7, kk7, X7, e7, E7, hS, hk, hZ, hown, ga7, gb7, gc7, gd7, -, -, Ib7, st7⟩ := ldcSV X5 hx hZ hown (hw _ (List.mem_of_getElem? (i := 68) rfl)) (own_sa hw) rfl hS (by omega) (by rw [hh, ← hq0]; exact N5) (fun b cl hcl => by rw [hh]; exact O0.2.2 b cl hcl) f8 hnt kh30 hcw (vs := [(110 : Int32), (111 : Int32), (32 : Int32)].map Value.int) (z := 3) ⟨by decide, rfl⟩ (by decide) rfl (g := (mkF m 19 #[.val (.ref t)] [(.ref a2)])) rfl (hb hby d7_19) (n := 12) (by decide) (by decide) (by decide) (by decide)
  refine oOn st7 ?_
  have z9 : T5.heap.size ≤ h7.size := E7.1
  have ge7 := oAI.ofArvL (l := [(110 : Int32), (111 : Int32), (32 : Int32)]) gd7 rfl
  have lt7 : @LT.lt Nat _ a7 h7.size := ga7.lt
  have lu7 : @LT.lt Nat _ b7 h7.size := ge7.lt
  show oGl p e below (T7.setTop (mkF m 21 #[.val (.ref t)] [(.ref a7), (.ref a2)])) _
  have f11 := (Vb5.ext E7)
  have nb10 : @Ne Nat b7 vb5 := fun q => absurd (oAI_fun ge7 (q ▸ f11)).1 (by decide)
  have f12 := ((f4.keep K5 (allS (by omega) all0)).ext E7)
  have f13 := (Eb5.ext E7)
  have f14 := (Ba5.ext E7)
  have f15 := (Bb5.ext E7)
  have f16 := (Bc5.ext E7)
  have hz17 : n0 ≤ h7.size := by omega
  obtain ⟨cq17, kq17, q17a, q17b, q17c⟩ := isOf hZ e7 f13
  obtain ⟨_, _, ⟨T17, L17, k17, n17⟩, -, X17, ⟨Lc17, hQ17, l17, y17, z17⟩, st17⟩ := X7.virtualBack hx (y := (⟨"java/lang/StringBuilder", "append", "(Ljava/lang/String;)Ljava/lang/StringBuilder;"⟩ : MethodName)) (z := (⟨"java/lang/StringBuilder", "append", "(Ljava/lang/String;)Ljava/lang/StringBuilder;"⟩ : MethodName)) hown (mvT hZ (hw _ (List.mem_of_getElem? (i := 69) rfl))) (mvT hZ (hw _ (List.mem_of_getElem? (i := 70) rfl))) (notFace_of_selects (args := #[]) (mvT hZ (hw _ (List.mem_of_getElem? (i := 72) rfl)))) (mvT hZ (hw _ (List.mem_of_getElem? (i := 72) rfl))) (mvT hZ (hw _ (List.mem_of_getElem? (i := 71) rfl))) (by decide) (backOf (W := 0) (rmApp0_3 l Z a0 hw [] a2 vb5 a7 b7 (oLst [(110 : Int32), (111 : Int32), (32 : Int32)]) (fun _ => 0) cz h7 n0 hz17 f12 SCS hcz f13 f14 f15 f16 ga7 gc7 gb7 ge7 f11 (by unfold oFit; decide) oFit0 (by omega) (by omega) nb10) hZ (hw _ (List.mem_of_getElem? (i := 73) rfl)) (hw _ (List.mem_of_getElem? (i := 52) rfl)) (by decide) (by decide)) q17a q17c (g := (mkF m 21 #[.val (.ref t)] [(.ref a7), (.ref a2)])) rfl (by rw [hml]; rfl) (Steps.refl _) (argsL := [(.ref a7)]) (rest := []) (lenOf pd_18 rfl) rfl (by show 2 * 0 + _ ≤ _; exact Nat.le_of_eq rfl) (hb hby d7_21) (fun _ _ => ⟨rfl, e7, (by decide : 4 + 0 ≤ _), (by decide : 36 + 0 ≤ _)⟩)
  dsimp only [Pt.U, Pt.locs, Pt.cells, Pt.slots] at X17 l17 y17 z17 st17 hQ17
  subst l17 y17 z17
  obtain ⟨rfl, N17q, K17, Eg17, Ba17, Bb17, Bc17, Vg17⟩ := hQ17
  have N17 := Fr.app N5 N17q
  have z18 : h7.size ≤ T17.heap.size := K17.1
  refine oSt st17 ?_
  show oGl p e below (T17.setTop (mkF m 24 #[.val (.ref t)] [(.ref a2)])) _
  refine saloadN X17 hx (hb hby d7_24) rfl rfl rfl (pc' := 25) ?_
  have f20 := ((((Ft.ext E2).keep K5 (ninS (oNe (by omega)) nin0)).ext E7).keep K17 (ninS (oNe (by omega)) (ninS (oNe (by omega)) nin0)))
  obtain ⟨T19, X19, e19, st19⟩ := getF X17 hx hZ hown (host := "") (Or.inl (hw _ (List.mem_of_getElem? (i := 31) rfl))) Via.refl rfl f20 (g := (mkF m 25 #[.val (.ref t)] [(.ref t), (.ref a2)])) rfl rfl (hb hby d7_25)
  refine oOn st19 ?_
  show oGl p e below (T19.setTop (mkF m 28 #[.val (.ref t)] [(.ref r), (.ref a2)])) _
  have f21 := ((((Fr0.ext E2).keep K5 (ninS (oNe (by omega)) nin0)).ext E7).keep K17 (ninS (oNe (by omega)) (ninS (oNe (by omega)) nin0)))
  have hz22 : n0 ≤ T17.heap.size := by omega
  have f23 := ((((Er.ext E2).keep K5).ext E7).keep K17)
  obtain ⟨cq22, kq22, q22a, q22b, q22c⟩ := isOf hZ e19 f23
  obtain ⟨_, _, ⟨T22, L22, k22, n22⟩, -, X22, ⟨Lc22, hQ22, l22, y22, z22⟩, st22⟩ := X19.virtualBack hx (y := (⟨"com/example/concordat/concordat/core/AbortReason", "getWord", "()Ljava/lang/String;"⟩ : MethodName)) (z := (⟨"com/example/concordat/concordat/core/AbortReason", "getWord", "()Ljava/lang/String;"⟩ : MethodName)) hown (mvT hZ (hw _ (List.mem_of_getElem? (i := 119) rfl))) (mvT hZ (hw _ (List.mem_of_getElem? (i := 120) rfl))) (notFace_of_selects (args := #[]) (mvT hZ (hw _ (List.mem_of_getElem? (i := 122) rfl)))) (mvT hZ (hw _ (List.mem_of_getElem? (i := 122) rfl))) (mvT hZ (hw _ (List.mem_of_getElem? (i := 121) rfl))) (by decide) (backOf (W := 1) (rmGw l Z a0 hw [] r wd T17.heap n0 hz22 f21) hZ (hw _ (List.mem_of_getElem? (i := 123) rfl)) (hw _ (List.mem_of_getElem? (i := 2) rfl)) (by decide) (by decide)) q22a q22c (g := (mkF m 28 #[.val (.ref t)] [(.ref r), (.ref a2)])) rfl (by rw [hml]; rfl) (Steps.refl _) (argsL := []) (rest := [(.ref a2)]) (lenOf pd_19 rfl) rfl (by show 2 * 0 + _ ≤ _; exact Nat.le_of_eq rfl) (hb hby d7_28) (fun _ _ => ⟨rfl, e19, (by decide : 4 + 0 ≤ _), (by decide : 36 + 0 ≤ _)⟩)
  dsimp only [Pt.U, Pt.locs, Pt.cells, Pt.slots] at X22 l22 y22 z22 st22 hQ22
  subst l22 y22 z22
  obtain ⟨rfl, N22q, eh22⟩ := hQ22
  have N22 := Fr.app N17 N22q
  refine oSt st22 ?_
  show oGl p e below (T22.setTop (mkF m 31 #[.val (.ref t)] [(.ref wd), (.ref a2)])) _
  have f25 := ((((Wd.ext E2).keep K5 (ninS (oNe (by omega)) nin0)).ext E7).keep K17 (ninS (oNe (by omega)) (ninS (oNe (by omega)) nin0)))
  have nb24 : @Ne Nat bw vb5 := fun q => absurd (oAI_fun f25 (q ▸ Vg17)).1 (by decide)
  have f26 := (f12.keep K17 (allS (by omega) (allS (by omega) all0)))
  have f27 := ((((Wa.ext E2).keep K5).ext E7).keep K17)
  have f28 := ((((Wb.ext E2).keep K5 (ninS (oNe (by omega)) nin0)).ext E7).keep K17 (ninS (oNe (by omega)) (ninS (oNe (by omega)) nin0)))
  have f29 := ((((Wc.ext E2).keep K5 (ninS (oNe (by omega)) nin0)).ext E7).keep K17 (ninS (oNe (by omega)) (ninS (oNe (by omega)) nin0)))
  have hz30 : n0 ≤ T17.heap.size := by omega
  obtain ⟨cq30, kq30, q30a, q30b, q30c⟩ := isOf hZ eh22 Eg17
  obtain ⟨_, _, ⟨T30, L30, k30, n30⟩, -, X30, ⟨Lc30, hQ30, l30, y30, z30⟩, st30⟩ := X22.virtualBack hx (y := (⟨"java/lang/StringBuilder", "append", "(Ljava/lang/String;)Ljava/lang/StringBuilder;"⟩ : MethodName)) (z := (⟨"java/lang/StringBuilder", "append", "(Ljava/lang/String;)Ljava/lang/StringBuilder;"⟩ : MethodName)) hown (mvT hZ (hw _ (List.mem_of_getElem? (i := 69) rfl))) (mvT hZ (hw _ (List.mem_of_getElem? (i := 70) rfl))) (notFace_of_selects (args := #[]) (mvT hZ (hw _ (List.mem_of_getElem? (i := 72) rfl)))) (mvT hZ (hw _ (List.mem_of_getElem? (i := 72) rfl))) (mvT hZ (hw _ (List.mem_of_getElem? (i := 71) rfl))) (by decide) (backOf (W := 0) (rmApp3_8 l Z a0 hw [] a2 vb5 wd bw f (oCpF 0 3 (fun i => (oLst [(110 : Int32), (111 : Int32), (32 : Int32)]) (0 + i)) (fun _ => 0)) cz T17.heap n0 hz30 f26 SCS hcz Eg17 Ba17 Bb17 Bc17 f27 f28 f29 f25 Vg17 Fw (oFit.cp (oFit.z ((by unfold oFit; decide) : oFit 3 (oLst [(110 : Int32), (111 : Int32), (32 : Int32)]))) oFit0) (by omega) (by omega) nb24) hZ (hw _ (List.mem_of_getElem? (i := 73) rfl)) (hw _ (List.mem_of_getElem? (i := 52) rfl)) (by decide) (by decide)) q30a q30c (g := (mkF m 31 #[.val (.ref t)] [(.ref wd), (.ref a2)])) rfl (by rw [hml]; rfl) (Steps.refl _) (argsL := [(.ref wd)]) (rest := []) (lenOf pd_18 rfl) rfl (by show 2 * 0 + _ ≤ _; exact Nat.le_of_eq rfl) (hb hby d7_31) (fun _ _ => ⟨rfl, eh22, (by decide : 4 + 0 ≤ _), (by decide : 36 + 0 ≤ _)⟩)
  dsimp only [Pt.U, Pt.locs, Pt.cells, Pt.slots] at X30 l30 y30 z30 st30 hQ30
  subst l30 y30 z30
  obtain ⟨rfl, N30q, K30, Eg30, Ba30, Bb30, Bc30, Vg30⟩ := hQ30
  have N30 := Fr.app N22 N30q
  have z31 : T17.heap.size ≤ T30.heap.size := K30.1
  refine oSt st30 ?_
  show oGl p e below (T30.setTop (mkF m 34 #[.val (.ref t)] [(.ref a2)])) _
  have f32 := (f26.keep K30 (allS (by omega) (allS (by omega) all0)))
  have hz33 : n0 ≤ T30.heap.size := by omega
  obtain ⟨cq33, kq33, q33a, q33b, q33c⟩ := isOf hZ rfl Eg30
  obtain ⟨_, _, ⟨T33, L33, k33, n33⟩, -, X33, ⟨Lc33, hQ33, l33, y33, z33⟩, st33⟩ := X30.virtualBack hx (y := (⟨"java/lang/StringBuilder", "toString", "()Ljava/lang/String;"⟩ : MethodName)) (z := (⟨"java/lang/StringBuilder", "toString", "()Ljava/lang/String;"⟩ : MethodName)) hown (mvT hZ (hw _ (List.mem_of_getElem? (i := 126) rfl))) (mvT hZ (hw _ (List.mem_of_getElem? (i := 127) rfl))) (notFace_of_selects (args := #[]) (mvT hZ (hw _ (List.mem_of_getElem? (i := 129) rfl)))) (mvT hZ (hw _ (List.mem_of_getElem? (i := 129) rfl))) (mvT hZ (hw _ (List.mem_of_getElem? (i := 128) rfl))) (by decide) (backOf (W := 0) (rmTst11 l Z a0 hw [] a2 vb5 (oCpF 3 8 (fun i => f (0 + i)) (oCpF 0 3 (fun i => (oLst [(110 : Int32), (111 : Int32), (32 : Int32)]) (0 + i)) (fun _ => 0))) cz T30.heap n0 hz33 f32 SCS hcz Eg30 Ba30 Bb30 Bc30 Vg30 (oFit.cp (oFit.z (Fw : oFit 8 f)) (oFit.cp (oFit.z ((by unfold oFit; decide) : oFit 3 (oLst [(110 : Int32), (111 : Int32), (32 : Int32)]))) oFit0))) hZ (hw _ (List.mem_of_getElem? (i := 130) rfl)) (hw _ (List.mem_of_getElem? (i := 52) rfl)) (by decide) (by decide)) q33a q33c (g := (mkF m 34 #[.val (.ref t)] [(.ref a2)])) rfl (by rw [hml]; rfl) (Steps.refl _) (argsL := []) (rest := []) (lenOf pd_19 rfl) rfl (by show 2 * 0 + _ ≤ _; exact Nat.le_of_eq rfl) (hb hby d7_34) (fun _ _ => ⟨rfl, rfl, (by decide : 4 + 2 ≤ _), (by decide : 36 + 15 ≤ _)⟩)
  dsimp only [Pt.U, Pt.locs, Pt.cells, Pt.slots] at X33 l33 y33 z33 st33 hQ33
  subst l33 y33 z33
  obtain ⟨y33, d33, rfl, N33q, K33, zy33, Ey33, Fy33, Fz33, Vy33⟩ := hQ33
  have N33 := Fr.app N30 N33q
  have z34 : T30.heap.size ≤ T33.heap.size := K33.1
  refine oSt st33 ?_
  show oGl p e below (T33.setTop (mkF m 37 #[.val (.ref t)] [(.ref y33)])) _
  have kp35 : Keep h0 T33.heap [] := (((((((Keep.refl h0 []).ext E2).trans K5 (allS (Or.inr (by omega)) all0)).ext E7).trans K17 (allS (Or.inr (by omega)) (allS (Or.inr (by omega)) all0))).trans K30 (allS (Or.inr (by omega)) (allS (Or.inr (by omega)) all0))).trans K33 all0)
  refine oRetRV X33 hS (by omega) hx Bd.notSynchronized Bd.returns rfl rfl (hb hby d7_37) (by decide) (by decide) ?_
  show Q_rmVts8 Z t r wd bw f cz Ts h0 n0 _ T33.heap _ _
  exact ⟨y33, d33, rfl, N33, kp35, Ey33, Fy33, Fz33, Vy33⟩
theorem ef_rmVts12 (m : MethodId) (x0 : Nat)  : entryFrame m #[(.ref x0)] 1 = mkF m 0 #[.val (.ref x0)] [] := by first | (simp [entryFrame, mkF, argsToLocals, Value.category, maxLocals]; done) | rfl
def Q_rmVts12 (Z : State) (t r wd bw : Nat) (f : Nat → Int32) (cz : Int32) (Ts : List String) (h0 : Heap) (n0 : Nat) (vv : Option Value) (h : Heap) (vm : Vm) (L : List Loc) : Prop := ∃ y d : Nat, vv = some (.ref y) ∧ Fr n0 L ∧ Keep h0 h [] ∧ Exa Z h y "java/lang/String" ∧ Fld Z h y "java/lang/String" "value" "[B" (.ref d) ∧ Fld Z h y "java/lang/String" "coder" "B" (.int 0) ∧ oAI Z h d .byte 15 (oCpF 0 15 (fun i => (oCpF 3 12 (fun i => f (0 + i)) (oCpF 0 3 (fun i => (oLst [(110 : Int32), (111 : Int32), (32 : Int32)]) (0 + i)) (fun _ => 0))) (0 + i)) (fun _ => 0))
set_option maxRecDepth 65536 in
set_option maxHeartbeats 40000000 in
theorem rmVts12 (l : Launch) (Z : State) (a0 : Array Value) (hw : ∀ d ∈ tables_1, d.before a0 Z = true) (ws : List Jvm.Cond) (t r wd bw : Nat) (f : Nat → Int32) (cz : Int32) (Ts : List String) (h0 : Heap) (n0 : Nat) (Z0 : n0 ≤ h0.size) (O0 : oOld Z n0 h0) (SCS : Sta Z Z.heap "java/lang/String" "COMPACT_STRINGS" "Z" (.int cz)) (hcz : ¬ cz = (0 : Int32)) (hq0 : n0 = h0.size) (Et : Exa Z h0 t "com/example/concordat/concordat/core/Vote") (Ft : Fld Z h0 t "com/example/concordat/concordat/core/Vote" "reason" "Lcom/example/concordat/concordat/core/AbortReason;" (.ref r)) (Er : Exa Z h0 r "com/example/concordat/concordat/core/AbortReason") (Fr0 : Fld Z h0 r "com/example/concordat/concordat/core/AbortReason" "word" "Ljava/lang/String;" (.ref wd)) (Wa : Exa Z h0 wd "java/lang/String") (Wb : Fld Z h0 wd "java/lang/String" "value" "[B" (.ref bw)) (Wc : Fld Z h0 wd "java/lang/String" "coder" "B" (.int 0)) (Wd : oAI Z h0 bw .byte 12 f) (Fw : oFit 12 f) (hnt : "no " ∉ Ts) (kh30 : Jvm.Lit.constHeld Z "com/example/concordat/concordat/core/Vote" 30) (hcw : Jvm.Lit.compactW.before a0 Z = true) :
    MetFree l (⟨"com/example/concordat/concordat/core/Vote", "toString", "()Ljava/lang/String;"⟩ : MethodName) (head1 (Jvm.Cond.code (⟨"com/example/concordat/concordat/core/Vote", "toString", "()Ljava/lang/String;"⟩ : MethodName) prog_36_method_5_code 1 (some (.object "java/lang/String")) :: ws) ({ frames := 6, cells := 6, slots := 55, locals := 91 } : Room)) (fun aA uU => aA = #[(.ref t)] ∧ Z.Warmed39 uU.vm ∧ uU.heap = h0 ∧ IB Z uU.vm Ts) (fun _ _ _ _ _ => True) (fun _ uU oO uU' => ∃ vV lL, oO = .returned vV ∧ Q_rmVts12 Z t r wd bw f cz Ts h0 n0 vV uU'.heap uU'.vm lL ∧ ReturnedEndW uU oO uU' lL ({ frames := 6, cells := 6, slots := 55, locals := 91 } : Room).cells ({ frames := 6, cells := 6, slots := 55, locals := 91 } : Room).slots) := by
  refine MetFree.of_bodySF (plainFor_of_name pn_Vote) hisR ?_
  intro p e s m args below meth c s₁ Bd hml0 hP hK
  obtain ⟨rfl, hZ, hh, hJ⟩ := hP
  have hx := Bd.exec
  have hby := Bd.bytes
  have hml : c.maxLocals = 1 := hml0
  have hown : s.vm.findClass "com/example/concordat/concordat/core/Vote" = some m.cls := findClass_of_methodNamed Bd.named
  have hnm := (name_of_methodNamed Bd.named Bd.method).1
  have X0 : Stand p l e ({ frames := 6, cells := 6, slots := 55, locals := 91 } : Room) (s.setVm s.vm) m #[(.ref t)] below meth c s₁ [] 0 0 := Stand.of_body Bd
  have e0 : s₁.heap = h0 := by rw [← hh, Bd.state]; rfl
  have N0 := Fr.nil n0
  have hS : s.Since s.vm 0 := (State.WarmedH.refl s).since 0
  have hk : 0 ≤ h0.size := Nat.zero_le _
  have hZ : Z.Warmed39 (s.setVm s.vm).vm := hZ
  have hown : (s.setVm s.vm).vm.findClass "com/example/concordat/concordat/core/Vote" = some m.cls := hown
  have lT : @LT.lt Nat _ t h0.size := Et.lt
  have lR : @LT.lt Nat _ r h0.size := Er.lt
  have lW : @LT.lt Nat _ wd h0.size := Wa.lt
  have lBw : @LT.lt Nat _ bw h0.size := Wd.lt
  refine oEnterV (oCast (ef_rmVts12 m t ) ?_)
  show oGl p e below (s₁.setTop (mkF m 0 #[.val (.ref t)] [])) _
  refine saloadN X0 hx (hb hby d7_0) rfl rfl rfl (pc' := 1) ?_
  obtain ⟨T1, X1, e1, st1⟩ := getF X0 hx hZ hown (host := "") (Or.inl (hw _ (List.mem_of_getElem? (i := 31) rfl))) Via.refl e0 Ft (g := (mkF m 1 #[.val (.ref t)] [(.ref t)])) rfl rfl (hb hby d7_1)
  refine oOn st1 ?_
  show oGl p e below (T1.setTop (mkF m 4 #[.val (.ref t)] [(.ref r)])) _
  refine sifnonnullY X1 hx (hb hby d7_4) (by decide) (by decide)  (pc' := 12) ?_
  obtain ⟨T2, h2, X2, e2, E2, A2, D2, -, st2⟩ := newO X1 hx hZ hown (hw _ (List.mem_of_getElem? (i := 50) rfl)) (hw _ (List.mem_of_getElem? (i := 51) rfl)) (hw _ (List.mem_of_getElem? (i := 52) rfl)) e1 (g := (mkF m 12 #[.val (.ref t)] [])) rfl (hb hby d7_12) (by decide) (by decide)
  obtain ⟨a2, g2⟩ : ∃ z, z = h0.size := ⟨_, rfl⟩
  rw [← g2] at A2 D2 st2
  refine oOn st2 ?_
  have z3 : h0.size ≤ h2.size := E2.1
  have lt2 : a2 < h2.size := A2.lt
  have f2_65 : Fld Z h2 a2 "java/lang/AbstractStringBuilder" "value" "[B" .null := D2 (Or.inl (hw _ (List.mem_of_getElem? (i := 65) rfl))) (ty := (.array .byte)) (by decide)
  have f2_67 : Fld Z h2 a2 "java/lang/AbstractStringBuilder" "coder" "B" (.int (0 : Int32)) := D2 (Or.inl (hw _ (List.mem_of_getElem? (i := 67) rfl))) (ty := .byte) (by decide)
  have f2_93 : Fld Z h2 a2 "java/lang/AbstractStringBuilder" "count" "I" (.int (0 : Int32)) := D2 (Or.inl (hw _ (List.mem_of_getElem? (i := 93) rfl))) (ty := .int) (by decide)
  show oGl p e below (T2.setTop (mkF m 15 #[.val (.ref t)] [(.ref a2)])) _
  refine sdup X2 hx (hb hby d7_15) rfl rfl (pc' := 16) ?_
  have f4 := (O0.ext E2)
  have hz5 : n0 ≤ h2.size := by omega
  obtain ⟨_, _, ⟨T5, L5, k5, n5⟩, -, X5, ⟨Lc5, hQ5, l5, y5, z5⟩, st5⟩ := X2.specialBack hx (y := (⟨"java/lang/StringBuilder", "<init>", "()V"⟩ : MethodName)) rfl hown (mvT hZ (hw _ (List.mem_of_getElem? (i := 53) rfl))) (mvT hZ (hw _ (List.mem_of_getElem? (i := 54) rfl))) (mvT hZ (hw _ (List.mem_of_getElem? (i := 55) rfl))) (by decide) (backOf (W := 1) (rmBin l Z a0 hw [] a2 cz h2 n0 hz5 f4 SCS hcz A2 f2_65 f2_67 f2_93 (by omega)) hZ (hw _ (List.mem_of_getElem? (i := 55) rfl)) (hw _ (List.mem_of_getElem? (i := 52) rfl)) (by decide) (by decide)) (g := (mkF m 16 #[.val (.ref t)] [(.ref a2), (.ref a2)])) rfl (by rw [hml]; rfl) (Steps.refl _) (a := a2) (argsL := []) (rest := [(.ref a2)]) (lenOf pd_17 rfl) rfl (by show 2 * 0 + _ ≤ _; exact Nat.le_of_eq rfl) (hb hby d7_16) (fun _ _ => ⟨rfl, e2, (by decide : 1 + 1 ≤ _), (by decide : 4 + 16 ≤ _)⟩)
  dsimp only [Pt.U, Pt.locs, Pt.cells, Pt.slots] at X5 l5 y5 z5 st5 hQ5
  subst l5 y5 z5
  obtain ⟨vb5, rfl, N5q, K5, zv5, Eb5, Ba5, Bb5, Bc5, Vb5⟩ := hQ5
  have N5 := Fr.app N0 N5q
  have z6 : h2.size ≤ T5.heap.size := K5.1
  refine oSt st5 ?_
  have lvb : @LT.lt Nat _ vb5 T5.heap.size := Vb5.lt
  show oGl p e below (T5.setTop (mkF m 19 #[.val (.ref t)] [(.ref a2)])) _
  have f8 := hJ
  obtain ⟨a7, T7, h7, k7, b7, kk7, X7, e7, E7, hS, hk, hZ, hown, ga7, gb7, gc7, gd7, -, -, Ib7, st7⟩ := ldcSV X5 hx hZ hown (hw _ (List.mem_of_getElem? (i := 68) rfl)) (own_sa hw) rfl hS (by omega) (by rw [hh, ← hq0]; exact N5) (fun b cl hcl => by rw [hh]; exact O0.2.2 b cl hcl) f8 hnt kh30 hcw (vs := [(110 : Int32), (111 : Int32), (32 : Int32)].map Value.int) (z := 3) ⟨by decide, rfl⟩ (by decide) rfl (g := (mkF m 19 #[.val (.ref t)] [(.ref a2)])) rfl (hb hby d7_19) (n := 12) (by decide) (by decide) (by decide) (by decide)
  refine oOn st7 ?_
  have z9 : T5.heap.size ≤ h7.size := E7.1
  have ge7 := oAI.ofArvL (l := [(110 : Int32), (111 : Int32), (32 : Int32)]) gd7 rfl
  have lt7 : @LT.lt Nat _ a7 h7.size := ga7.lt
  have lu7 : @LT.lt Nat _ b7 h7.size := ge7.lt
  show oGl p e below (T7.setTop (mkF m 21 #[.val (.ref t)] [(.ref a7), (.ref a2)])) _
  have f11 := (Vb5.ext E7)
  have nb10 : @Ne Nat b7 vb5 := fun q => absurd (oAI_fun ge7 (q ▸ f11)).1 (by decide)
  have f12 := ((f4.keep K5 (allS (by omega) all0)).ext E7)
  have f13 := (Eb5.ext E7)
  have f14 := (Ba5.ext E7)
  have f15 := (Bb5.ext E7)
  have f16 := (Bc5.ext E7)
  have hz17 : n0 ≤ h7.size := by omega
  obtain ⟨cq17, kq17, q17a, q17b, q17c⟩ := isOf hZ e7 f13
  obtain ⟨_, _, ⟨T17, L17, k17, n17⟩, -, X17, ⟨Lc17, hQ17, l17, y17, z17⟩, st17⟩ := X7.virtualBack hx (y := (⟨"java/lang/StringBuilder", "append", "(Ljava/lang/String;)Ljava/lang/StringBuilder;"⟩ : MethodName)) (z := (⟨"java/lang/StringBuilder", "append", "(Ljava/lang/String;)Ljava/lang/StringBuilder;"⟩ : MethodName)) hown (mvT hZ (hw _ (List.mem_of_getElem? (i := 69) rfl))) (mvT hZ (hw _ (List.mem_of_getElem? (i := 70) rfl))) (notFace_of_selects (args := #[]) (mvT hZ (hw _ (List.mem_of_getElem? (i := 72) rfl)))) (mvT hZ (hw _ (List.mem_of_getElem? (i := 72) rfl))) (mvT hZ (hw _ (List.mem_of_getElem? (i := 71) rfl))) (by decide) (backOf (W := 0) (rmApp0_3 l Z a0 hw [] a2 vb5 a7 b7 (oLst [(110 : Int32), (111 : Int32), (32 : Int32)]) (fun _ => 0) cz h7 n0 hz17 f12 SCS hcz f13 f14 f15 f16 ga7 gc7 gb7 ge7 f11 (by unfold oFit; decide) oFit0 (by omega) (by omega) nb10) hZ (hw _ (List.mem_of_getElem? (i := 73) rfl)) (hw _ (List.mem_of_getElem? (i := 52) rfl)) (by decide) (by decide)) q17a q17c (g := (mkF m 21 #[.val (.ref t)] [(.ref a7), (.ref a2)])) rfl (by rw [hml]; rfl) (Steps.refl _) (argsL := [(.ref a7)]) (rest := []) (lenOf pd_18 rfl) rfl (by show 2 * 0 + _ ≤ _; exact Nat.le_of_eq rfl) (hb hby d7_21) (fun _ _ => ⟨rfl, e7, (by decide : 4 + 0 ≤ _), (by decide : 36 + 0 ≤ _)⟩)
  dsimp only [Pt.U, Pt.locs, Pt.cells, Pt.slots] at X17 l17 y17 z17 st17 hQ17
  subst l17 y17 z17
  obtain ⟨rfl, N17q, K17, Eg17, Ba17, Bb17, Bc17, Vg17⟩ := hQ17
  have N17 := Fr.app N5 N17q
  have z18 : h7.size ≤ T17.heap.size := K17.1
  refine oSt st17 ?_
  show oGl p e below (T17.setTop (mkF m 24 #[.val (.ref t)] [(.ref a2)])) _
  refine saloadN X17 hx (hb hby d7_24) rfl rfl rfl (pc' := 25) ?_
  have f20 := ((((Ft.ext E2).keep K5 (ninS (oNe (by omega)) nin0)).ext E7).keep K17 (ninS (oNe (by omega)) (ninS (oNe (by omega)) nin0)))
  obtain ⟨T19, X19, e19, st19⟩ := getF X17 hx hZ hown (host := "") (Or.inl (hw _ (List.mem_of_getElem? (i := 31) rfl))) Via.refl rfl f20 (g := (mkF m 25 #[.val (.ref t)] [(.ref t), (.ref a2)])) rfl rfl (hb hby d7_25)
  refine oOn st19 ?_
  show oGl p e below (T19.setTop (mkF m 28 #[.val (.ref t)] [(.ref r), (.ref a2)])) _
  have f21 := ((((Fr0.ext E2).keep K5 (ninS (oNe (by omega)) nin0)).ext E7).keep K17 (ninS (oNe (by omega)) (ninS (oNe (by omega)) nin0)))
  have hz22 : n0 ≤ T17.heap.size := by omega
  have f23 := ((((Er.ext E2).keep K5).ext E7).keep K17)
  obtain ⟨cq22, kq22, q22a, q22b, q22c⟩ := isOf hZ e19 f23
  obtain ⟨_, _, ⟨T22, L22, k22, n22⟩, -, X22, ⟨Lc22, hQ22, l22, y22, z22⟩, st22⟩ := X19.virtualBack hx (y := (⟨"com/example/concordat/concordat/core/AbortReason", "getWord", "()Ljava/lang/String;"⟩ : MethodName)) (z := (⟨"com/example/concordat/concordat/core/AbortReason", "getWord", "()Ljava/lang/String;"⟩ : MethodName)) hown (mvT hZ (hw _ (List.mem_of_getElem? (i := 119) rfl))) (mvT hZ (hw _ (List.mem_of_getElem? (i := 120) rfl))) (notFace_of_selects (args := #[]) (mvT hZ (hw _ (List.mem_of_getElem? (i := 122) rfl)))) (mvT hZ (hw _ (List.mem_of_getElem? (i := 122) rfl))) (mvT hZ (hw _ (List.mem_of_getElem? (i := 121) rfl))) (by decide) (backOf (W := 1) (rmGw l Z a0 hw [] r wd T17.heap n0 hz22 f21) hZ (hw _ (List.mem_of_getElem? (i := 123) rfl)) (hw _ (List.mem_of_getElem? (i := 2) rfl)) (by decide) (by decide)) q22a q22c (g := (mkF m 28 #[.val (.ref t)] [(.ref r), (.ref a2)])) rfl (by rw [hml]; rfl) (Steps.refl _) (argsL := []) (rest := [(.ref a2)]) (lenOf pd_19 rfl) rfl (by show 2 * 0 + _ ≤ _; exact Nat.le_of_eq rfl) (hb hby d7_28) (fun _ _ => ⟨rfl, e19, (by decide : 4 + 0 ≤ _), (by decide : 36 + 0 ≤ _)⟩)
  dsimp only [Pt.U, Pt.locs, Pt.cells, Pt.slots] at X22 l22 y22 z22 st22 hQ22
  subst l22 y22 z22
  obtain ⟨rfl, N22q, eh22⟩ := hQ22
  have N22 := Fr.app N17 N22q
  refine oSt st22 ?_
  show oGl p e below (T22.setTop (mkF m 31 #[.val (.ref t)] [(.ref wd), (.ref a2)])) _
  have f25 := ((((Wd.ext E2).keep K5 (ninS (oNe (by omega)) nin0)).ext E7).keep K17 (ninS (oNe (by omega)) (ninS (oNe (by omega)) nin0)))
  have nb24 : @Ne Nat bw vb5 := fun q => absurd (oAI_fun f25 (q ▸ Vg17)).1 (by decide)
  have f26 := (f12.keep K17 (allS (by omega) (allS (by omega) all0)))
  have f27 := ((((Wa.ext E2).keep K5).ext E7).keep K17)
  have f28 := ((((Wb.ext E2).keep K5 (ninS (oNe (by omega)) nin0)).ext E7).keep K17 (ninS (oNe (by omega)) (ninS (oNe (by omega)) nin0)))
  have f29 := ((((Wc.ext E2).keep K5 (ninS (oNe (by omega)) nin0)).ext E7).keep K17 (ninS (oNe (by omega)) (ninS (oNe (by omega)) nin0)))
  have hz30 : n0 ≤ T17.heap.size := by omega
  obtain ⟨cq30, kq30, q30a, q30b, q30c⟩ := isOf hZ eh22 Eg17
  obtain ⟨_, _, ⟨T30, L30, k30, n30⟩, -, X30, ⟨Lc30, hQ30, l30, y30, z30⟩, st30⟩ := X22.virtualBack hx (y := (⟨"java/lang/StringBuilder", "append", "(Ljava/lang/String;)Ljava/lang/StringBuilder;"⟩ : MethodName)) (z := (⟨"java/lang/StringBuilder", "append", "(Ljava/lang/String;)Ljava/lang/StringBuilder;"⟩ : MethodName)) hown (mvT hZ (hw _ (List.mem_of_getElem? (i := 69) rfl))) (mvT hZ (hw _ (List.mem_of_getElem? (i := 70) rfl))) (notFace_of_selects (args := #[]) (mvT hZ (hw _ (List.mem_of_getElem? (i := 72) rfl)))) (mvT hZ (hw _ (List.mem_of_getElem? (i := 72) rfl))) (mvT hZ (hw _ (List.mem_of_getElem? (i := 71) rfl))) (by decide) (backOf (W := 0) (rmApp3_12 l Z a0 hw [] a2 vb5 wd bw f (oCpF 0 3 (fun i => (oLst [(110 : Int32), (111 : Int32), (32 : Int32)]) (0 + i)) (fun _ => 0)) cz T17.heap n0 hz30 f26 SCS hcz Eg17 Ba17 Bb17 Bc17 f27 f28 f29 f25 Vg17 Fw (oFit.cp (oFit.z ((by unfold oFit; decide) : oFit 3 (oLst [(110 : Int32), (111 : Int32), (32 : Int32)]))) oFit0) (by omega) (by omega) nb24) hZ (hw _ (List.mem_of_getElem? (i := 73) rfl)) (hw _ (List.mem_of_getElem? (i := 52) rfl)) (by decide) (by decide)) q30a q30c (g := (mkF m 31 #[.val (.ref t)] [(.ref wd), (.ref a2)])) rfl (by rw [hml]; rfl) (Steps.refl _) (argsL := [(.ref wd)]) (rest := []) (lenOf pd_18 rfl) rfl (by show 2 * 0 + _ ≤ _; exact Nat.le_of_eq rfl) (hb hby d7_31) (fun _ _ => ⟨rfl, eh22, (by decide : 4 + 0 ≤ _), (by decide : 36 + 0 ≤ _)⟩)
  dsimp only [Pt.U, Pt.locs, Pt.cells, Pt.slots] at X30 l30 y30 z30 st30 hQ30
  subst l30 y30 z30
  obtain ⟨rfl, N30q, K30, Eg30, Ba30, Bb30, Bc30, Vg30⟩ := hQ30
  have N30 := Fr.app N22 N30q
  have z31 : T17.heap.size ≤ T30.heap.size := K30.1
  refine oSt st30 ?_
  show oGl p e below (T30.setTop (mkF m 34 #[.val (.ref t)] [(.ref a2)])) _
  have f32 := (f26.keep K30 (allS (by omega) (allS (by omega) all0)))
  have hz33 : n0 ≤ T30.heap.size := by omega
  obtain ⟨cq33, kq33, q33a, q33b, q33c⟩ := isOf hZ rfl Eg30
  obtain ⟨_, _, ⟨T33, L33, k33, n33⟩, -, X33, ⟨Lc33, hQ33, l33, y33, z33⟩, st33⟩ := X30.virtualBack hx (y := (⟨"java/lang/StringBuilder", "toString", "()Ljava/lang/String;"⟩ : MethodName)) (z := (⟨"java/lang/StringBuilder", "toString", "()Ljava/lang/String;"⟩ : MethodName)) hown (mvT hZ (hw _ (List.mem_of_getElem? (i := 126) rfl))) (mvT hZ (hw _ (List.mem_of_getElem? (i := 127) rfl))) (notFace_of_selects (args := #[]) (mvT hZ (hw _ (List.mem_of_getElem? (i := 129) rfl)))) (mvT hZ (hw _ (List.mem_of_getElem? (i := 129) rfl))) (mvT hZ (hw _ (List.mem_of_getElem? (i := 128) rfl))) (by decide) (backOf (W := 0) (rmTst15 l Z a0 hw [] a2 vb5 (oCpF 3 12 (fun i => f (0 + i)) (oCpF 0 3 (fun i => (oLst [(110 : Int32), (111 : Int32), (32 : Int32)]) (0 + i)) (fun _ => 0))) cz T30.heap n0 hz33 f32 SCS hcz Eg30 Ba30 Bb30 Bc30 Vg30 (oFit.cp (oFit.z (Fw : oFit 12 f)) (oFit.cp (oFit.z ((by unfold oFit; decide) : oFit 3 (oLst [(110 : Int32), (111 : Int32), (32 : Int32)]))) oFit0))) hZ (hw _ (List.mem_of_getElem? (i := 130) rfl)) (hw _ (List.mem_of_getElem? (i := 52) rfl)) (by decide) (by decide)) q33a q33c (g := (mkF m 34 #[.val (.ref t)] [(.ref a2)])) rfl (by rw [hml]; rfl) (Steps.refl _) (argsL := []) (rest := []) (lenOf pd_19 rfl) rfl (by show 2 * 0 + _ ≤ _; exact Nat.le_of_eq rfl) (hb hby d7_34) (fun _ _ => ⟨rfl, rfl, (by decide : 4 + 2 ≤ _), (by decide : 36 + 19 ≤ _)⟩)
  dsimp only [Pt.U, Pt.locs, Pt.cells, Pt.slots] at X33 l33 y33 z33 st33 hQ33
  subst l33 y33 z33
  obtain ⟨y33, d33, rfl, N33q, K33, zy33, Ey33, Fy33, Fz33, Vy33⟩ := hQ33
  have N33 := Fr.app N30 N33q
  have z34 : T30.heap.size ≤ T33.heap.size := K33.1
  refine oSt st33 ?_
  show oGl p e below (T33.setTop (mkF m 37 #[.val (.ref t)] [(.ref y33)])) _
  have kp35 : Keep h0 T33.heap [] := (((((((Keep.refl h0 []).ext E2).trans K5 (allS (Or.inr (by omega)) all0)).ext E7).trans K17 (allS (Or.inr (by omega)) (allS (Or.inr (by omega)) all0))).trans K30 (allS (Or.inr (by omega)) (allS (Or.inr (by omega)) all0))).trans K33 all0)
  refine oRetRV X33 hS (by omega) hx Bd.notSynchronized Bd.returns rfl rfl (hb hby d7_37) (by decide) (by decide) ?_
  show Q_rmVts12 Z t r wd bw f cz Ts h0 n0 _ T33.heap _ _
  exact ⟨y33, d33, rfl, N33, kp35, Ey33, Fy33, Fz33, Vy33⟩
theorem ef_rmVts11 (m : MethodId) (x0 : Nat)  : entryFrame m #[(.ref x0)] 1 = mkF m 0 #[.val (.ref x0)] [] := by first | (simp [entryFrame, mkF, argsToLocals, Value.category, maxLocals]; done) | rfl
def Q_rmVts11 (Z : State) (t r wd bw : Nat) (f : Nat → Int32) (cz : Int32) (Ts : List String) (h0 : Heap) (n0 : Nat) (vv : Option Value) (h : Heap) (vm : Vm) (L : List Loc) : Prop := ∃ y d : Nat, vv = some (.ref y) ∧ Fr n0 L ∧ Keep h0 h [] ∧ Exa Z h y "java/lang/String" ∧ Fld Z h y "java/lang/String" "value" "[B" (.ref d) ∧ Fld Z h y "java/lang/String" "coder" "B" (.int 0) ∧ oAI Z h d .byte 14 (oCpF 0 14 (fun i => (oCpF 3 11 (fun i => f (0 + i)) (oCpF 0 3 (fun i => (oLst [(110 : Int32), (111 : Int32), (32 : Int32)]) (0 + i)) (fun _ => 0))) (0 + i)) (fun _ => 0))
set_option maxRecDepth 65536 in
set_option maxHeartbeats 40000000 in
theorem rmVts11 (l : Launch) (Z : State) (a0 : Array Value) (hw : ∀ d ∈ tables_1, d.before a0 Z = true) (ws : List Jvm.Cond) (t r wd bw : Nat) (f : Nat → Int32) (cz : Int32) (Ts : List String) (h0 : Heap) (n0 : Nat) (Z0 : n0 ≤ h0.size) (O0 : oOld Z n0 h0) (SCS : Sta Z Z.heap "java/lang/String" "COMPACT_STRINGS" "Z" (.int cz)) (hcz : ¬ cz = (0 : Int32)) (hq0 : n0 = h0.size) (Et : Exa Z h0 t "com/example/concordat/concordat/core/Vote") (Ft : Fld Z h0 t "com/example/concordat/concordat/core/Vote" "reason" "Lcom/example/concordat/concordat/core/AbortReason;" (.ref r)) (Er : Exa Z h0 r "com/example/concordat/concordat/core/AbortReason") (Fr0 : Fld Z h0 r "com/example/concordat/concordat/core/AbortReason" "word" "Ljava/lang/String;" (.ref wd)) (Wa : Exa Z h0 wd "java/lang/String") (Wb : Fld Z h0 wd "java/lang/String" "value" "[B" (.ref bw)) (Wc : Fld Z h0 wd "java/lang/String" "coder" "B" (.int 0)) (Wd : oAI Z h0 bw .byte 11 f) (Fw : oFit 11 f) (hnt : "no " ∉ Ts) (kh30 : Jvm.Lit.constHeld Z "com/example/concordat/concordat/core/Vote" 30) (hcw : Jvm.Lit.compactW.before a0 Z = true) :
    MetFree l (⟨"com/example/concordat/concordat/core/Vote", "toString", "()Ljava/lang/String;"⟩ : MethodName) (head1 (Jvm.Cond.code (⟨"com/example/concordat/concordat/core/Vote", "toString", "()Ljava/lang/String;"⟩ : MethodName) prog_36_method_5_code 1 (some (.object "java/lang/String")) :: ws) ({ frames := 6, cells := 6, slots := 54, locals := 91 } : Room)) (fun aA uU => aA = #[(.ref t)] ∧ Z.Warmed39 uU.vm ∧ uU.heap = h0 ∧ IB Z uU.vm Ts) (fun _ _ _ _ _ => True) (fun _ uU oO uU' => ∃ vV lL, oO = .returned vV ∧ Q_rmVts11 Z t r wd bw f cz Ts h0 n0 vV uU'.heap uU'.vm lL ∧ ReturnedEndW uU oO uU' lL ({ frames := 6, cells := 6, slots := 54, locals := 91 } : Room).cells ({ frames := 6, cells := 6, slots := 54, locals := 91 } : Room).slots) := by
  refine MetFree.of_bodySF (plainFor_of_name pn_Vote) hisR ?_
  intro p e s m args below meth c s₁ Bd hml0 hP hK
  obtain ⟨rfl, hZ, hh, hJ⟩ := hP
  have hx := Bd.exec
  have hby := Bd.bytes
  have hml : c.maxLocals = 1 := hml0
  have hown : s.vm.findClass "com/example/concordat/concordat/core/Vote" = some m.cls := findClass_of_methodNamed Bd.named
  have hnm := (name_of_methodNamed Bd.named Bd.method).1
  have X0 : Stand p l e ({ frames := 6, cells := 6, slots := 54, locals := 91 } : Room) (s.setVm s.vm) m #[(.ref t)] below meth c s₁ [] 0 0 := Stand.of_body Bd
  have e0 : s₁.heap = h0 := by rw [← hh, Bd.state]; rfl
  have N0 := Fr.nil n0
  have hS : s.Since s.vm 0 := (State.WarmedH.refl s).since 0
  have hk : 0 ≤ h0.size := Nat.zero_le _
  have hZ : Z.Warmed39 (s.setVm s.vm).vm := hZ
  have hown : (s.setVm s.vm).vm.findClass "com/example/concordat/concordat/core/Vote" = some m.cls := hown
  have lT : @LT.lt Nat _ t h0.size := Et.lt
  have lR : @LT.lt Nat _ r h0.size := Er.lt
  have lW : @LT.lt Nat _ wd h0.size := Wa.lt
  have lBw : @LT.lt Nat _ bw h0.size := Wd.lt
  refine oEnterV (oCast (ef_rmVts11 m t ) ?_)
  show oGl p e below (s₁.setTop (mkF m 0 #[.val (.ref t)] [])) _
  refine saloadN X0 hx (hb hby d7_0) rfl rfl rfl (pc' := 1) ?_
  obtain ⟨T1, X1, e1, st1⟩ := getF X0 hx hZ hown (host := "") (Or.inl (hw _ (List.mem_of_getElem? (i := 31) rfl))) Via.refl e0 Ft (g := (mkF m 1 #[.val (.ref t)] [(.ref t)])) rfl rfl (hb hby d7_1)
  refine oOn st1 ?_
  show oGl p e below (T1.setTop (mkF m 4 #[.val (.ref t)] [(.ref r)])) _
  refine sifnonnullY X1 hx (hb hby d7_4) (by decide) (by decide)  (pc' := 12) ?_
  obtain ⟨T2, h2, X2, e2, E2, A2, D2, -, st2⟩ := newO X1 hx hZ hown (hw _ (List.mem_of_getElem? (i := 50) rfl)) (hw _ (List.mem_of_getElem? (i := 51) rfl)) (hw _ (List.mem_of_getElem? (i := 52) rfl)) e1 (g := (mkF m 12 #[.val (.ref t)] [])) rfl (hb hby d7_12) (by decide) (by decide)
  obtain ⟨a2, g2⟩ : ∃ z, z = h0.size := ⟨_, rfl⟩
  rw [← g2] at A2 D2 st2
  refine oOn st2 ?_
  have z3 : h0.size ≤ h2.size := E2.1
  have lt2 : a2 < h2.size := A2.lt
  have f2_65 : Fld Z h2 a2 "java/lang/AbstractStringBuilder" "value" "[B" .null := D2 (Or.inl (hw _ (List.mem_of_getElem? (i := 65) rfl))) (ty := (.array .byte)) (by decide)
  have f2_67 : Fld Z h2 a2 "java/lang/AbstractStringBuilder" "coder" "B" (.int (0 : Int32)) := D2 (Or.inl (hw _ (List.mem_of_getElem? (i := 67) rfl))) (ty := .byte) (by decide)
  have f2_93 : Fld Z h2 a2 "java/lang/AbstractStringBuilder" "count" "I" (.int (0 : Int32)) := D2 (Or.inl (hw _ (List.mem_of_getElem? (i := 93) rfl))) (ty := .int) (by decide)
  show oGl p e below (T2.setTop (mkF m 15 #[.val (.ref t)] [(.ref a2)])) _
  refine sdup X2 hx (hb hby d7_15) rfl rfl (pc' := 16) ?_
  have f4 := (O0.ext E2)
  have hz5 : n0 ≤ h2.size := by omega
  obtain ⟨_, _, ⟨T5, L5, k5, n5⟩, -, X5, ⟨Lc5, hQ5, l5, y5, z5⟩, st5⟩ := X2.specialBack hx (y := (⟨"java/lang/StringBuilder", "<init>", "()V"⟩ : MethodName)) rfl hown (mvT hZ (hw _ (List.mem_of_getElem? (i := 53) rfl))) (mvT hZ (hw _ (List.mem_of_getElem? (i := 54) rfl))) (mvT hZ (hw _ (List.mem_of_getElem? (i := 55) rfl))) (by decide) (backOf (W := 1) (rmBin l Z a0 hw [] a2 cz h2 n0 hz5 f4 SCS hcz A2 f2_65 f2_67 f2_93 (by omega)) hZ (hw _ (List.mem_of_getElem? (i := 55) rfl)) (hw _ (List.mem_of_getElem? (i := 52) rfl)) (by decide) (by decide)) (g := (mkF m 16 #[.val (.ref t)] [(.ref a2), (.ref a2)])) rfl (by rw [hml]; rfl) (Steps.refl _) (a := a2) (argsL := []) (rest := [(.ref a2)]) (lenOf pd_17 rfl) rfl (by show 2 * 0 + _ ≤ _; exact Nat.le_of_eq rfl) (hb hby d7_16) (fun _ _ => ⟨rfl, e2, (by decide : 1 + 1 ≤ _), (by decide : 4 + 16 ≤ _)⟩)
  dsimp only [Pt.U, Pt.locs, Pt.cells, Pt.slots] at X5 l5 y5 z5 st5 hQ5
  subst l5 y5 z5
  obtain ⟨vb5, rfl, N5q, K5, zv5, Eb5, Ba5, Bb5, Bc5, Vb5⟩ := hQ5
  have N5 := Fr.app N0 N5q
  have z6 : h2.size ≤ T5.heap.size := K5.1
  refine oSt st5 ?_
  have lvb : @LT.lt Nat _ vb5 T5.heap.size := Vb5.lt
  show oGl p e below (T5.setTop (mkF m 19 #[.val (.ref t)] [(.ref a2)])) _
  have f8 := hJ
  obtain ⟨a7, T7, h7, k7, b7, kk7, X7, e7, E7, hS, hk, hZ, hown, ga7, gb7, gc7, gd7, -, -, Ib7, st7⟩ := ldcSV X5 hx hZ hown (hw _ (List.mem_of_getElem? (i := 68) rfl)) (own_sa hw) rfl hS (by omega) (by rw [hh, ← hq0]; exact N5) (fun b cl hcl => by rw [hh]; exact O0.2.2 b cl hcl) f8 hnt kh30 hcw (vs := [(110 : Int32), (111 : Int32), (32 : Int32)].map Value.int) (z := 3) ⟨by decide, rfl⟩ (by decide) rfl (g := (mkF m 19 #[.val (.ref t)] [(.ref a2)])) rfl (hb hby d7_19) (n := 12) (by decide) (by decide) (by decide) (by decide)
  refine oOn st7 ?_
  have z9 : T5.heap.size ≤ h7.size := E7.1
  have ge7 := oAI.ofArvL (l := [(110 : Int32), (111 : Int32), (32 : Int32)]) gd7 rfl
  have lt7 : @LT.lt Nat _ a7 h7.size := ga7.lt
  have lu7 : @LT.lt Nat _ b7 h7.size := ge7.lt
  show oGl p e below (T7.setTop (mkF m 21 #[.val (.ref t)] [(.ref a7), (.ref a2)])) _
  have f11 := (Vb5.ext E7)
  have nb10 : @Ne Nat b7 vb5 := fun q => absurd (oAI_fun ge7 (q ▸ f11)).1 (by decide)
  have f12 := ((f4.keep K5 (allS (by omega) all0)).ext E7)
  have f13 := (Eb5.ext E7)
  have f14 := (Ba5.ext E7)
  have f15 := (Bb5.ext E7)
  have f16 := (Bc5.ext E7)
  have hz17 : n0 ≤ h7.size := by omega
  obtain ⟨cq17, kq17, q17a, q17b, q17c⟩ := isOf hZ e7 f13
  obtain ⟨_, _, ⟨T17, L17, k17, n17⟩, -, X17, ⟨Lc17, hQ17, l17, y17, z17⟩, st17⟩ := X7.virtualBack hx (y := (⟨"java/lang/StringBuilder", "append", "(Ljava/lang/String;)Ljava/lang/StringBuilder;"⟩ : MethodName)) (z := (⟨"java/lang/StringBuilder", "append", "(Ljava/lang/String;)Ljava/lang/StringBuilder;"⟩ : MethodName)) hown (mvT hZ (hw _ (List.mem_of_getElem? (i := 69) rfl))) (mvT hZ (hw _ (List.mem_of_getElem? (i := 70) rfl))) (notFace_of_selects (args := #[]) (mvT hZ (hw _ (List.mem_of_getElem? (i := 72) rfl)))) (mvT hZ (hw _ (List.mem_of_getElem? (i := 72) rfl))) (mvT hZ (hw _ (List.mem_of_getElem? (i := 71) rfl))) (by decide) (backOf (W := 0) (rmApp0_3 l Z a0 hw [] a2 vb5 a7 b7 (oLst [(110 : Int32), (111 : Int32), (32 : Int32)]) (fun _ => 0) cz h7 n0 hz17 f12 SCS hcz f13 f14 f15 f16 ga7 gc7 gb7 ge7 f11 (by unfold oFit; decide) oFit0 (by omega) (by omega) nb10) hZ (hw _ (List.mem_of_getElem? (i := 73) rfl)) (hw _ (List.mem_of_getElem? (i := 52) rfl)) (by decide) (by decide)) q17a q17c (g := (mkF m 21 #[.val (.ref t)] [(.ref a7), (.ref a2)])) rfl (by rw [hml]; rfl) (Steps.refl _) (argsL := [(.ref a7)]) (rest := []) (lenOf pd_18 rfl) rfl (by show 2 * 0 + _ ≤ _; exact Nat.le_of_eq rfl) (hb hby d7_21) (fun _ _ => ⟨rfl, e7, (by decide : 4 + 0 ≤ _), (by decide : 36 + 0 ≤ _)⟩)
  dsimp only [Pt.U, Pt.locs, Pt.cells, Pt.slots] at X17 l17 y17 z17 st17 hQ17
  subst l17 y17 z17
  obtain ⟨rfl, N17q, K17, Eg17, Ba17, Bb17, Bc17, Vg17⟩ := hQ17
  have N17 := Fr.app N5 N17q
  have z18 : h7.size ≤ T17.heap.size := K17.1
  refine oSt st17 ?_
  show oGl p e below (T17.setTop (mkF m 24 #[.val (.ref t)] [(.ref a2)])) _
  refine saloadN X17 hx (hb hby d7_24) rfl rfl rfl (pc' := 25) ?_
  have f20 := ((((Ft.ext E2).keep K5 (ninS (oNe (by omega)) nin0)).ext E7).keep K17 (ninS (oNe (by omega)) (ninS (oNe (by omega)) nin0)))
  obtain ⟨T19, X19, e19, st19⟩ := getF X17 hx hZ hown (host := "") (Or.inl (hw _ (List.mem_of_getElem? (i := 31) rfl))) Via.refl rfl f20 (g := (mkF m 25 #[.val (.ref t)] [(.ref t), (.ref a2)])) rfl rfl (hb hby d7_25)
  refine oOn st19 ?_
  show oGl p e below (T19.setTop (mkF m 28 #[.val (.ref t)] [(.ref r), (.ref a2)])) _
  have f21 := ((((Fr0.ext E2).keep K5 (ninS (oNe (by omega)) nin0)).ext E7).keep K17 (ninS (oNe (by omega)) (ninS (oNe (by omega)) nin0)))
  have hz22 : n0 ≤ T17.heap.size := by omega
  have f23 := ((((Er.ext E2).keep K5).ext E7).keep K17)
  obtain ⟨cq22, kq22, q22a, q22b, q22c⟩ := isOf hZ e19 f23
  obtain ⟨_, _, ⟨T22, L22, k22, n22⟩, -, X22, ⟨Lc22, hQ22, l22, y22, z22⟩, st22⟩ := X19.virtualBack hx (y := (⟨"com/example/concordat/concordat/core/AbortReason", "getWord", "()Ljava/lang/String;"⟩ : MethodName)) (z := (⟨"com/example/concordat/concordat/core/AbortReason", "getWord", "()Ljava/lang/String;"⟩ : MethodName)) hown (mvT hZ (hw _ (List.mem_of_getElem? (i := 119) rfl))) (mvT hZ (hw _ (List.mem_of_getElem? (i := 120) rfl))) (notFace_of_selects (args := #[]) (mvT hZ (hw _ (List.mem_of_getElem? (i := 122) rfl)))) (mvT hZ (hw _ (List.mem_of_getElem? (i := 122) rfl))) (mvT hZ (hw _ (List.mem_of_getElem? (i := 121) rfl))) (by decide) (backOf (W := 1) (rmGw l Z a0 hw [] r wd T17.heap n0 hz22 f21) hZ (hw _ (List.mem_of_getElem? (i := 123) rfl)) (hw _ (List.mem_of_getElem? (i := 2) rfl)) (by decide) (by decide)) q22a q22c (g := (mkF m 28 #[.val (.ref t)] [(.ref r), (.ref a2)])) rfl (by rw [hml]; rfl) (Steps.refl _) (argsL := []) (rest := [(.ref a2)]) (lenOf pd_19 rfl) rfl (by show 2 * 0 + _ ≤ _; exact Nat.le_of_eq rfl) (hb hby d7_28) (fun _ _ => ⟨rfl, e19, (by decide : 4 + 0 ≤ _), (by decide : 36 + 0 ≤ _)⟩)
  dsimp only [Pt.U, Pt.locs, Pt.cells, Pt.slots] at X22 l22 y22 z22 st22 hQ22
  subst l22 y22 z22
  obtain ⟨rfl, N22q, eh22⟩ := hQ22
  have N22 := Fr.app N17 N22q
  refine oSt st22 ?_
  show oGl p e below (T22.setTop (mkF m 31 #[.val (.ref t)] [(.ref wd), (.ref a2)])) _
  have f25 := ((((Wd.ext E2).keep K5 (ninS (oNe (by omega)) nin0)).ext E7).keep K17 (ninS (oNe (by omega)) (ninS (oNe (by omega)) nin0)))
  have nb24 : @Ne Nat bw vb5 := fun q => absurd (oAI_fun f25 (q ▸ Vg17)).1 (by decide)
  have f26 := (f12.keep K17 (allS (by omega) (allS (by omega) all0)))
  have f27 := ((((Wa.ext E2).keep K5).ext E7).keep K17)
  have f28 := ((((Wb.ext E2).keep K5 (ninS (oNe (by omega)) nin0)).ext E7).keep K17 (ninS (oNe (by omega)) (ninS (oNe (by omega)) nin0)))
  have f29 := ((((Wc.ext E2).keep K5 (ninS (oNe (by omega)) nin0)).ext E7).keep K17 (ninS (oNe (by omega)) (ninS (oNe (by omega)) nin0)))
  have hz30 : n0 ≤ T17.heap.size := by omega
  obtain ⟨cq30, kq30, q30a, q30b, q30c⟩ := isOf hZ eh22 Eg17
  obtain ⟨_, _, ⟨T30, L30, k30, n30⟩, -, X30, ⟨Lc30, hQ30, l30, y30, z30⟩, st30⟩ := X22.virtualBack hx (y := (⟨"java/lang/StringBuilder", "append", "(Ljava/lang/String;)Ljava/lang/StringBuilder;"⟩ : MethodName)) (z := (⟨"java/lang/StringBuilder", "append", "(Ljava/lang/String;)Ljava/lang/StringBuilder;"⟩ : MethodName)) hown (mvT hZ (hw _ (List.mem_of_getElem? (i := 69) rfl))) (mvT hZ (hw _ (List.mem_of_getElem? (i := 70) rfl))) (notFace_of_selects (args := #[]) (mvT hZ (hw _ (List.mem_of_getElem? (i := 72) rfl)))) (mvT hZ (hw _ (List.mem_of_getElem? (i := 72) rfl))) (mvT hZ (hw _ (List.mem_of_getElem? (i := 71) rfl))) (by decide) (backOf (W := 0) (rmApp3_11 l Z a0 hw [] a2 vb5 wd bw f (oCpF 0 3 (fun i => (oLst [(110 : Int32), (111 : Int32), (32 : Int32)]) (0 + i)) (fun _ => 0)) cz T17.heap n0 hz30 f26 SCS hcz Eg17 Ba17 Bb17 Bc17 f27 f28 f29 f25 Vg17 Fw (oFit.cp (oFit.z ((by unfold oFit; decide) : oFit 3 (oLst [(110 : Int32), (111 : Int32), (32 : Int32)]))) oFit0) (by omega) (by omega) nb24) hZ (hw _ (List.mem_of_getElem? (i := 73) rfl)) (hw _ (List.mem_of_getElem? (i := 52) rfl)) (by decide) (by decide)) q30a q30c (g := (mkF m 31 #[.val (.ref t)] [(.ref wd), (.ref a2)])) rfl (by rw [hml]; rfl) (Steps.refl _) (argsL := [(.ref wd)]) (rest := []) (lenOf pd_18 rfl) rfl (by show 2 * 0 + _ ≤ _; exact Nat.le_of_eq rfl) (hb hby d7_31) (fun _ _ => ⟨rfl, eh22, (by decide : 4 + 0 ≤ _), (by decide : 36 + 0 ≤ _)⟩)
  dsimp only [Pt.U, Pt.locs, Pt.cells, Pt.slots] at X30 l30 y30 z30 st30 hQ30
  subst l30 y30 z30
  obtain ⟨rfl, N30q, K30, Eg30, Ba30, Bb30, Bc30, Vg30⟩ := hQ30
  have N30 := Fr.app N22 N30q
  have z31 : T17.heap.size ≤ T30.heap.size := K30.1
  refine oSt st30 ?_
  show oGl p e below (T30.setTop (mkF m 34 #[.val (.ref t)] [(.ref a2)])) _
  have f32 := (f26.keep K30 (allS (by omega) (allS (by omega) all0)))
  have hz33 : n0 ≤ T30.heap.size := by omega
  obtain ⟨cq33, kq33, q33a, q33b, q33c⟩ := isOf hZ rfl Eg30
  obtain ⟨_, _, ⟨T33, L33, k33, n33⟩, -, X33, ⟨Lc33, hQ33, l33, y33, z33⟩, st33⟩ := X30.virtualBack hx (y := (⟨"java/lang/StringBuilder", "toString", "()Ljava/lang/String;"⟩ : MethodName)) (z := (⟨"java/lang/StringBuilder", "toString", "()Ljava/lang/String;"⟩ : MethodName)) hown (mvT hZ (hw _ (List.mem_of_getElem? (i := 126) rfl))) (mvT hZ (hw _ (List.mem_of_getElem? (i := 127) rfl))) (notFace_of_selects (args := #[]) (mvT hZ (hw _ (List.mem_of_getElem? (i := 129) rfl)))) (mvT hZ (hw _ (List.mem_of_getElem? (i := 129) rfl))) (mvT hZ (hw _ (List.mem_of_getElem? (i := 128) rfl))) (by decide) (backOf (W := 0) (rmTst14 l Z a0 hw [] a2 vb5 (oCpF 3 11 (fun i => f (0 + i)) (oCpF 0 3 (fun i => (oLst [(110 : Int32), (111 : Int32), (32 : Int32)]) (0 + i)) (fun _ => 0))) cz T30.heap n0 hz33 f32 SCS hcz Eg30 Ba30 Bb30 Bc30 Vg30 (oFit.cp (oFit.z (Fw : oFit 11 f)) (oFit.cp (oFit.z ((by unfold oFit; decide) : oFit 3 (oLst [(110 : Int32), (111 : Int32), (32 : Int32)]))) oFit0))) hZ (hw _ (List.mem_of_getElem? (i := 130) rfl)) (hw _ (List.mem_of_getElem? (i := 52) rfl)) (by decide) (by decide)) q33a q33c (g := (mkF m 34 #[.val (.ref t)] [(.ref a2)])) rfl (by rw [hml]; rfl) (Steps.refl _) (argsL := []) (rest := []) (lenOf pd_19 rfl) rfl (by show 2 * 0 + _ ≤ _; exact Nat.le_of_eq rfl) (hb hby d7_34) (fun _ _ => ⟨rfl, rfl, (by decide : 4 + 2 ≤ _), (by decide : 36 + 18 ≤ _)⟩)
  dsimp only [Pt.U, Pt.locs, Pt.cells, Pt.slots] at X33 l33 y33 z33 st33 hQ33
  subst l33 y33 z33
  obtain ⟨y33, d33, rfl, N33q, K33, zy33, Ey33, Fy33, Fz33, Vy33⟩ := hQ33
  have N33 := Fr.app N30 N33q
  have z34 : T30.heap.size ≤ T33.heap.size := K33.1
  refine oSt st33 ?_
  show oGl p e below (T33.setTop (mkF m 37 #[.val (.ref t)] [(.ref y33)])) _
  have kp35 : Keep h0 T33.heap [] := (((((((Keep.refl h0 []).ext E2).trans K5 (allS (Or.inr (by omega)) all0)).ext E7).trans K17 (allS (Or.inr (by omega)) (allS (Or.inr (by omega)) all0))).trans K30 (allS (Or.inr (by omega)) (allS (Or.inr (by omega)) all0))).trans K33 all0)
  refine oRetRV X33 hS (by omega) hx Bd.notSynchronized Bd.returns rfl rfl (hb hby d7_37) (by decide) (by decide) ?_
  show Q_rmVts11 Z t r wd bw f cz Ts h0 n0 _ T33.heap _ _
  exact ⟨y33, d33, rfl, N33, kp35, Ey33, Fy33, Fz33, Vy33⟩
theorem pd_20 : parseMethodDescriptor "(Lcom/example/concordat/concordat/core/AbortReason;)Lcom/example/concordat/concordat/core/Vote;" = some ⟨[(.object "com/example/concordat/concordat/core/AbortReason")], some (.object "com/example/concordat/concordat/core/Vote")⟩ := by decide +kernel
theorem pd_21 : parseMethodDescriptor "()Lcom/example/concordat/concordat/core/AbortReason;" = some ⟨[], some (.object "com/example/concordat/concordat/core/AbortReason")⟩ := by decide +kernel
theorem pd_22 : parseMethodDescriptor "(Ljava/lang/Object;)Z" = some ⟨[(.object "java/lang/Object")], some .boolean⟩ := by decide +kernel
theorem pn_VoteNoPinLaw : plainName "com/example/concordat/concordat/core/VoteNoPinLaw" = true := by first | (simp [plainName, overriddenIn]; done) | decide +kernel
theorem ef_rmL (m : MethodId) (x0 : Int32)  : entryFrame m #[(.int x0)] maxLocals = mkF m 0 #[.val (.int x0), .unset, .unset, .unset, .unset, .unset, .unset, .unset, .unset, .unset] [] := by first | (simp [entryFrame, mkF, argsToLocals, Value.category, maxLocals]; done) | rfl
def Q_rmL (Z : State) (i0 : Int32) (sCONFLICT : Nat) (sYES : Nat) (sUNAVAILABLE : Nat) (sCHECK_FAILED : Nat) (wCONFLICT bCONFLICT : Nat) (wCHECK_FAILED bCHECK_FAILED : Nat) (wUNAVAILABLE bUNAVAILABLE : Nat) (cz : Int32) (h0 : Heap) (n0 : Nat) (vv : Option Value) (h : Heap) (vm : Vm) (L : List Loc) : Prop := vv = some (.int 1) ∧ Fr n0 L
set_option maxRecDepth 65536 in
set_option maxHeartbeats 40000000 in
theorem rmL (l : Launch) (Z : State) (a0 : Array Value) (hw : ∀ d ∈ tables_1, d.before a0 Z = true) (ws : List Jvm.Cond) (i0 : Int32) (sCONFLICT : Nat) (sYES : Nat) (sUNAVAILABLE : Nat) (sCHECK_FAILED : Nat) (wCONFLICT bCONFLICT : Nat) (wCHECK_FAILED bCHECK_FAILED : Nat) (wUNAVAILABLE bUNAVAILABLE : Nat) (cz : Int32) (h0 : Heap) (n0 : Nat) (Z0 : n0 ≤ h0.size) (O0 : oOld Z n0 h0) (SsCONFLICT : Sta Z Z.heap "com/example/concordat/concordat/core/AbortReason" "CONFLICT" "Lcom/example/concordat/concordat/core/AbortReason;" (.ref sCONFLICT)) (EsCONFLICT : Exa Z Z.heap sCONFLICT "com/example/concordat/concordat/core/AbortReason") (SsYES : Sta Z Z.heap "com/example/concordat/concordat/core/Vote" "YES" "Lcom/example/concordat/concordat/core/Vote;" (.ref sYES)) (EsYES : Exa Z Z.heap sYES "com/example/concordat/concordat/core/Vote") (SsUNAVAILABLE : Sta Z Z.heap "com/example/concordat/concordat/core/AbortReason" "UNAVAILABLE" "Lcom/example/concordat/concordat/core/AbortReason;" (.ref sUNAVAILABLE)) (EsUNAVAILABLE : Exa Z Z.heap sUNAVAILABLE "com/example/concordat/concordat/core/AbortReason") (SsCHECK_FAILED : Sta Z Z.heap "com/example/concordat/concordat/core/AbortReason" "CHECK_FAILED" "Lcom/example/concordat/concordat/core/AbortReason;" (.ref sCHECK_FAILED)) (EsCHECK_FAILED : Exa Z Z.heap sCHECK_FAILED "com/example/concordat/concordat/core/AbortReason") (SCS : Sta Z Z.heap "java/lang/String" "COMPACT_STRINGS" "Z" (.int cz)) (hcz : ¬ cz = (0 : Int32)) (WaCONFLICT : Fld Z Z.heap sCONFLICT "com/example/concordat/concordat/core/AbortReason" "word" "Ljava/lang/String;" (.ref wCONFLICT)) (WbCONFLICT : Exa Z Z.heap wCONFLICT "java/lang/String") (WcCONFLICT : Fld Z Z.heap wCONFLICT "java/lang/String" "value" "[B" (.ref bCONFLICT)) (WdCONFLICT : Fld Z Z.heap wCONFLICT "java/lang/String" "coder" "B" (.int 0)) (WeCONFLICT : oAI Z Z.heap bCONFLICT .byte 8 (oLst [(99 : Int32), (111 : Int32), (110 : Int32), (102 : Int32), (108 : Int32), (105 : Int32), (99 : Int32), (116 : Int32)])) (WaCHECK_FAILED : Fld Z Z.heap sCHECK_FAILED "com/example/concordat/concordat/core/AbortReason" "word" "Ljava/lang/String;" (.ref wCHECK_FAILED)) (WbCHECK_FAILED : Exa Z Z.heap wCHECK_FAILED "java/lang/String") (WcCHECK_FAILED : Fld Z Z.heap wCHECK_FAILED "java/lang/String" "value" "[B" (.ref bCHECK_FAILED)) (WdCHECK_FAILED : Fld Z Z.heap wCHECK_FAILED "java/lang/String" "coder" "B" (.int 0)) (WeCHECK_FAILED : oAI Z Z.heap bCHECK_FAILED .byte 12 (oLst [(99 : Int32), (104 : Int32), (101 : Int32), (99 : Int32), (107 : Int32), (45 : Int32), (102 : Int32), (97 : Int32), (105 : Int32), (108 : Int32), (101 : Int32), (100 : Int32)])) (WaUNAVAILABLE : Fld Z Z.heap sUNAVAILABLE "com/example/concordat/concordat/core/AbortReason" "word" "Ljava/lang/String;" (.ref wUNAVAILABLE)) (WbUNAVAILABLE : Exa Z Z.heap wUNAVAILABLE "java/lang/String") (WcUNAVAILABLE : Fld Z Z.heap wUNAVAILABLE "java/lang/String" "value" "[B" (.ref bUNAVAILABLE)) (WdUNAVAILABLE : Fld Z Z.heap wUNAVAILABLE "java/lang/String" "coder" "B" (.int 0)) (WeUNAVAILABLE : oAI Z Z.heap bUNAVAILABLE .byte 11 (oLst [(117 : Int32), (110 : Int32), (97 : Int32), (118 : Int32), (97 : Int32), (105 : Int32), (108 : Int32), (97 : Int32), (98 : Int32), (108 : Int32), (101 : Int32)])) (WY : Fld Z Z.heap sYES "com/example/concordat/concordat/core/Vote" "reason" "Lcom/example/concordat/concordat/core/AbortReason;" .null) (kh14 : Jvm.Lit.constHeld Z "com/example/concordat/concordat/core/VoteNoPinLaw" 14) (kh19 : Jvm.Lit.constHeld Z "com/example/concordat/concordat/core/VoteNoPinLaw" 19) (kh24 : Jvm.Lit.constHeld Z "com/example/concordat/concordat/core/VoteNoPinLaw" 24) (kh13 : Jvm.Lit.constHeld Z "com/example/concordat/concordat/core/Vote" 13) (kh30 : Jvm.Lit.constHeld Z "com/example/concordat/concordat/core/Vote" 30) (hcw : Jvm.Lit.compactW.before a0 Z = true) (hq0 : n0 = h0.size) :
    MetFree l x (head1 (Jvm.Cond.code x code maxLocals ret :: ws) room_1) (fun aA uU => aA = #[(.int i0)] ∧ Z.Warmed39 uU.vm ∧ uU.heap = h0 ∧ IB Z uU.vm []) (fun _ _ _ _ _ => True) (fun _ uU oO uU' => ∃ vV lL, oO = .returned vV ∧ Q_rmL Z i0 sCONFLICT sYES sUNAVAILABLE sCHECK_FAILED wCONFLICT bCONFLICT wCHECK_FAILED bCHECK_FAILED wUNAVAILABLE bUNAVAILABLE cz h0 n0 vV uU'.heap uU'.vm lL ∧ ReturnedEndW uU oO uU' lL 32 5312) := by
  refine MetFree.of_bodySF (plainFor_of_name pn_VoteNoPinLaw) hisR ?_
  intro p e s m args below meth c s₁ Bd hml0 hP hK
  obtain ⟨rfl, hZ, hh, hJ⟩ := hP
  have hx := Bd.exec
  have hby := Bd.bytes
  have hml : c.maxLocals = 10 := hml0
  have hown : s.vm.findClass "com/example/concordat/concordat/core/VoteNoPinLaw" = some m.cls := findClass_of_methodNamed Bd.named
  have hnm := (name_of_methodNamed Bd.named Bd.method).1
  have X0 : Stand p l e room_1 (s.setVm s.vm) m #[(.int i0)] below meth c s₁ [] 0 0 := Stand.of_body Bd
  have e0 : s₁.heap = h0 := by rw [← hh, Bd.state]; rfl
  have N0 := Fr.nil n0
  have hS : s.Since s.vm 0 := (State.WarmedH.refl s).since 0
  have hk : 0 ≤ h0.size := Nat.zero_le _
  have hZ : Z.Warmed39 (s.setVm s.vm).vm := hZ
  have hown : (s.setVm s.vm).vm.findClass "com/example/concordat/concordat/core/VoteNoPinLaw" = some m.cls := hown
  refine oEnterV (oCast (ef_rmL m i0 ) ?_)
  show oGl p e below (s₁.setTop (mkF m 0 #[.val (.int i0), .unset, .unset, .unset, .unset, .unset, .unset, .unset, .unset, .unset] [])) _
  refine siloadN X0 hx (hb hby at_0) rfl rfl (pc' := 1) ?_
  refine oOn (X0.ldcInt hx hown (mvT hZ (hw _ (List.mem_of_getElem? (i := 0) rfl))) (g := (mkF m 1 #[.val (.int i0), .unset, .unset, .unset, .unset, .unset, .unset, .unset, .unset, .unset] [(.int i0)])) rfl (hb hby at_1)) ?_
  show oGl p e below (s₁.setTop (mkF m 3 #[.val (.int i0), .unset, .unset, .unset, .unset, .unset, .unset, .unset, .unset, .unset] [(.int (2147483647 : Int32)), (.int i0)])) _
  refine siand X0 hx (hb hby at_3) rfl rfl (pc' := 4) ?_
  refine siconst X0 hx (hb hby at_4) rfl rfl (z := 3) (pc' := 5) ?_
  refine sirem X0 hx (hb hby at_5) rfl (by decide) rfl (pc' := 6) ?_
  refine sistoreN X0 hx (hb hby at_6) rfl rfl (l' := #[.val (.int i0), .val (.int ((i0 &&& (2147483647 : Int32)) % (3 : Int32))), .unset, .unset, .unset, .unset, .unset, .unset, .unset, .unset]) (pc' := 7) ?_
  refine siloadN X0 hx (hb hby at_7) rfl rfl (pc' := 8) ?_
  by_cases hc8 : ((i0 &&& (2147483647 : Int32)) % (3 : Int32)) = (0 : Int32)
  · skip
    refine sifN X0 hx (hb hby at_8) rfl (teq hc8).2 (pc' := 11) ?_
    obtain ⟨T1, X1, e1, st1⟩ := getS2 X0 hx hZ hown (host := "") (Or.inl (hw _ (List.mem_of_getElem? (i := 1) rfl))) Via.refl e0 (SsCONFLICT.ext O0.2) (g := (mkF m 11 #[.val (.int i0), .val (.int ((i0 &&& (2147483647 : Int32)) % (3 : Int32))), .unset, .unset, .unset, .unset, .unset, .unset, .unset, .unset] [])) rfl (hb hby at_11)
    refine oOn st1 ?_
    show oGl p e below (T1.setTop (mkF m 14 #[.val (.int i0), .val (.int ((i0 &&& (2147483647 : Int32)) % (3 : Int32))), .unset, .unset, .unset, .unset, .unset, .unset, .unset, .unset] [(.ref sCONFLICT)])) _
    refine sastoreN X1 hx (hb hby at_14) rfl rfl rfl (l' := #[.val (.int i0), .val (.int ((i0 &&& (2147483647 : Int32)) % (3 : Int32))), .val (.ref sCONFLICT), .unset, .unset, .unset, .unset, .unset, .unset, .unset]) (pc' := 15) ?_
    obtain ⟨a2, T2, h2, k2, b2, kk2, X2, e2, E2, hS, hk, hZ, hown, ga2, gb2, gc2, gd2, -, -, Ib2, st2⟩ := ldcSV X1 hx hZ hown (hw _ (List.mem_of_getElem? (i := 4) rfl)) (own_sa hw) e1 hS (by omega) (Fr.nil _) (fun b cl hcl => by rw [hh]; exact O0.2.2 b cl hcl) hJ (by decide) kh14 hcw (vs := [(110 : Int32), (111 : Int32), (32 : Int32), (99 : Int32), (111 : Int32), (110 : Int32), (102 : Int32), (108 : Int32), (105 : Int32), (99 : Int32), (116 : Int32)].map Value.int) (z := 11) ⟨by decide, rfl⟩ (by decide) rfl (g := (mkF m 15 #[.val (.int i0), .val (.int ((i0 &&& (2147483647 : Int32)) % (3 : Int32))), .val (.ref sCONFLICT), .unset, .unset, .unset, .unset, .unset, .unset, .unset] [])) rfl (hb hby at_15) (n := 44) (by decide) (by decide) (by decide) (by decide)
    refine oOn st2 ?_
    have z3 : h0.size ≤ h2.size := E2.1
    have ge2 := oAI.ofArvL (l := [(110 : Int32), (111 : Int32), (32 : Int32), (99 : Int32), (111 : Int32), (110 : Int32), (102 : Int32), (108 : Int32), (105 : Int32), (99 : Int32), (116 : Int32)]) gd2 rfl
    have lt2 : @LT.lt Nat _ a2 h2.size := ga2.lt
    have lu2 : @LT.lt Nat _ b2 h2.size := ge2.lt
    show oGl p e below (T2.setTop (mkF m 17 #[.val (.int i0), .val (.int ((i0 &&& (2147483647 : Int32)) % (3 : Int32))), .val (.ref sCONFLICT), .unset, .unset, .unset, .unset, .unset, .unset, .unset] [(.ref a2)])) _
    refine sastoreN X2 hx (hb hby at_17) rfl rfl rfl (l' := #[.val (.int i0), .val (.int ((i0 &&& (2147483647 : Int32)) % (3 : Int32))), .val (.ref sCONFLICT), .val (.ref a2), .unset, .unset, .unset, .unset, .unset, .unset]) (pc' := 18) ?_
    refine sgoto X2 hx (hb hby at_18) (by decide) (by decide)  (pc' := 43) ?_
    refine saloadN X2 hx (hb hby at_43) rfl rfl rfl (pc' := 44) ?_
    have f4 := (O0.ext E2)
    have hz5 : n0 ≤ h2.size := by omega
    obtain ⟨_, _, ⟨T5, L5, k5, n5⟩, -, X5, hS2, hg2, ⟨Lc5, hQ5, l5, y5, z5⟩, st5⟩ := callSS X2 hx (y := (⟨"com/example/concordat/concordat/core/Vote", "no", "(Lcom/example/concordat/concordat/core/AbortReason;)Lcom/example/concordat/concordat/core/Vote;"⟩ : MethodName)) hown (mvT hZ (hw _ (List.mem_of_getElem? (i := 12) rfl))) (mvT hZ (hw _ (List.mem_of_getElem? (i := 13) rfl))) (mvT hZ (hw _ (List.mem_of_getElem? (i := 14) rfl))) (mvT hZ (hw _ (List.mem_of_getElem? (i := 15) rfl))) (by decide) (backOfV (J := fun vm => IB Z vm ("no conflict" :: [])) (W := 0) (rmNo l Z a0 hw [] sCONFLICT ("no conflict" :: []) h2 n0 hz5 f4 (EsCONFLICT.ext f4.2) (by decide) kh13 hcw) hZ (hw _ (List.mem_of_getElem? (i := 15) rfl)) (hw _ (List.mem_of_getElem? (i := 14) rfl)) (by decide) (by decide)) (g := (mkF m 44 #[.val (.int i0), .val (.int ((i0 &&& (2147483647 : Int32)) % (3 : Int32))), .val (.ref sCONFLICT), .val (.ref a2), .unset, .unset, .unset, .unset, .unset, .unset] [(.ref sCONFLICT)])) rfl (by rw [hml]; rfl) (argsL := [(.ref sCONFLICT)]) (rest := []) (lenOf pd_20 rfl) rfl (by show 2 * 0 + _ ≤ _; exact Nat.le_of_eq rfl) (hb hby at_44) (fun _ hWw => ⟨rfl, e2, (by decide : 2 + 3 ≤ _), (by decide : 48 + 29 ≤ _), IBwarm Ib2 hWw⟩)
    dsimp only [Pt.U, Pt.locs, Pt.cells, Pt.slots] at X5 l5 y5 z5 st5 hQ5 hS2 hg2
    subst l5 y5 z5
    obtain ⟨X5, hS, hZ, hown⟩ := rebS hS (n1 := T2.heap.size) (by rw [e2]; omega) X5 hS2 hg2 hZ hown
    have hk : T5.heap.size ≤ T5.heap.size := Nat.le_refl _
    obtain ⟨t5, rfl, N5q, K5, zt5, Oo5, Et5, Ft5, Ib5⟩ := hQ5
    have N5 := Fr.app N0 N5q
    have z6 : h2.size ≤ T5.heap.size := K5.1
    refine oSt st5 ?_
    show oGl p e below (T5.setTop (mkF m 47 #[.val (.int i0), .val (.int ((i0 &&& (2147483647 : Int32)) % (3 : Int32))), .val (.ref sCONFLICT), .val (.ref a2), .unset, .unset, .unset, .unset, .unset, .unset] [(.ref t5)])) _
    refine sastore X5 hx (hb hby at_47) rfl rfl rfl (l' := #[.val (.int i0), .val (.int ((i0 &&& (2147483647 : Int32)) % (3 : Int32))), .val (.ref sCONFLICT), .val (.ref a2), .val (.ref t5), .unset, .unset, .unset, .unset, .unset]) (pc' := 49) ?_
    refine saload X5 hx (hb hby at_49) rfl rfl rfl (pc' := 51) ?_
    have hz7 : n0 ≤ T5.heap.size := by omega
    obtain ⟨cq7, kq7, q7a, q7b, q7c⟩ := isOf hZ rfl Et5
    obtain ⟨_, _, ⟨T7, L7, k7, n7⟩, -, X7, ⟨Lc7, hQ7, l7, y7, z7⟩, st7⟩ := X5.virtualBack hx (y := (⟨"com/example/concordat/concordat/core/Vote", "isYes", "()Z"⟩ : MethodName)) (z := (⟨"com/example/concordat/concordat/core/Vote", "isYes", "()Z"⟩ : MethodName)) hown (mvT hZ (hw _ (List.mem_of_getElem? (i := 33) rfl))) (mvT hZ (hw _ (List.mem_of_getElem? (i := 34) rfl))) (notFace_of_selects (args := #[]) (mvT hZ (hw _ (List.mem_of_getElem? (i := 36) rfl)))) (mvT hZ (hw _ (List.mem_of_getElem? (i := 36) rfl))) (mvT hZ (hw _ (List.mem_of_getElem? (i := 35) rfl))) (by decide) (backOf (W := 0) (rmIy0 l Z a0 hw [] t5 sCONFLICT T5.heap n0 hz7 Ft5) hZ (hw _ (List.mem_of_getElem? (i := 37) rfl)) (hw _ (List.mem_of_getElem? (i := 14) rfl)) (by decide) (by decide)) q7a q7c (g := (mkF m 51 #[.val (.int i0), .val (.int ((i0 &&& (2147483647 : Int32)) % (3 : Int32))), .val (.ref sCONFLICT), .val (.ref a2), .val (.ref t5), .unset, .unset, .unset, .unset, .unset] [(.ref t5)])) rfl (by rw [hml]; rfl) (Steps.refl _) (argsL := []) (rest := []) (lenOf pd_11 rfl) rfl (by show 2 * 0 + _ ≤ _; exact Nat.le_of_eq rfl) (hb hby at_51) (fun _ _ => ⟨rfl, rfl, (by decide : 5 + 0 ≤ _), (by decide : 77 + 0 ≤ _)⟩)
    dsimp only [Pt.U, Pt.locs, Pt.cells, Pt.slots] at X7 l7 y7 z7 st7 hQ7
    subst l7 y7 z7
    obtain ⟨rfl, N7q, eh7⟩ := hQ7
    have N7 := Fr.app N5 N7q
    refine oSt st7 ?_
    show oGl p e below (T7.setTop (mkF m 54 #[.val (.int i0), .val (.int ((i0 &&& (2147483647 : Int32)) % (3 : Int32))), .val (.ref sCONFLICT), .val (.ref a2), .val (.ref t5), .unset, .unset, .unset, .unset, .unset] [(.int (0 : Int32))])) _
    refine sifN X7 hx (hb hby at_54) rfl (teq (by decide : (0 : Int32) = (0 : Int32))).2 (pc' := 57) ?_
    refine siconst X7 hx (hb hby at_57) rfl rfl (z := 1) (pc' := 58) ?_
    refine sgoto X7 hx (hb hby at_58) (by decide) (by decide)  (pc' := 62) ?_
    refine sistore X7 hx (hb hby at_62) rfl rfl (l' := #[.val (.int i0), .val (.int ((i0 &&& (2147483647 : Int32)) % (3 : Int32))), .val (.ref sCONFLICT), .val (.ref a2), .val (.ref t5), .val (.int (1 : Int32)), .unset, .unset, .unset, .unset]) (pc' := 64) ?_
    refine saload X7 hx (hb hby at_64) rfl rfl rfl (pc' := 66) ?_
    have hz8 : n0 ≤ T5.heap.size := by omega
    obtain ⟨cq8, kq8, q8a, q8b, q8c⟩ := isOf hZ eh7 Et5
    obtain ⟨_, _, ⟨T8, L8, k8, n8⟩, -, X8, ⟨Lc8, hQ8, l8, y8, z8⟩, st8⟩ := X7.virtualBack hx (y := (⟨"com/example/concordat/concordat/core/Vote", "getReason", "()Lcom/example/concordat/concordat/core/AbortReason;"⟩ : MethodName)) (z := (⟨"com/example/concordat/concordat/core/Vote", "getReason", "()Lcom/example/concordat/concordat/core/AbortReason;"⟩ : MethodName)) hown (mvT hZ (hw _ (List.mem_of_getElem? (i := 38) rfl))) (mvT hZ (hw _ (List.mem_of_getElem? (i := 39) rfl))) (notFace_of_selects (args := #[]) (mvT hZ (hw _ (List.mem_of_getElem? (i := 41) rfl)))) (mvT hZ (hw _ (List.mem_of_getElem? (i := 41) rfl))) (mvT hZ (hw _ (List.mem_of_getElem? (i := 40) rfl))) (by decide) (backOf (W := 0) (rmGr0 l Z a0 hw [] t5 sCONFLICT T5.heap n0 hz8 Ft5) hZ (hw _ (List.mem_of_getElem? (i := 42) rfl)) (hw _ (List.mem_of_getElem? (i := 14) rfl)) (by decide) (by decide)) q8a q8c (g := (mkF m 66 #[.val (.int i0), .val (.int ((i0 &&& (2147483647 : Int32)) % (3 : Int32))), .val (.ref sCONFLICT), .val (.ref a2), .val (.ref t5), .val (.int (1 : Int32)), .unset, .unset, .unset, .unset] [(.ref t5)])) rfl (by rw [hml]; rfl) (Steps.refl _) (argsL := []) (rest := []) (lenOf pd_21 rfl) rfl (by show 2 * 0 + _ ≤ _; exact Nat.le_of_eq rfl) (hb hby at_66) (fun _ _ => ⟨rfl, eh7, (by decide : 5 + 0 ≤ _), (by decide : 77 + 0 ≤ _)⟩)
    dsimp only [Pt.U, Pt.locs, Pt.cells, Pt.slots] at X8 l8 y8 z8 st8 hQ8
    subst l8 y8 z8
    obtain ⟨rfl, N8q, eh8⟩ := hQ8
    have N8 := Fr.app N7 N8q
    refine oSt st8 ?_
    show oGl p e below (T8.setTop (mkF m 69 #[.val (.int i0), .val (.int ((i0 &&& (2147483647 : Int32)) % (3 : Int32))), .val (.ref sCONFLICT), .val (.ref a2), .val (.ref t5), .val (.int (1 : Int32)), .unset, .unset, .unset, .unset] [(.ref sCONFLICT)])) _
    refine saloadN X8 hx (hb hby at_69) rfl rfl rfl (pc' := 70) ?_
    refine oOn (fun _ kK => Jvm.RoadKit.acmp (g := (mkF m 70 #[.val (.int i0), .val (.int ((i0 &&& (2147483647 : Int32)) % (3 : Int32))), .val (.ref sCONFLICT), .val (.ref a2), .val (.ref t5), .val (.int (1 : Int32)), .unset, .unset, .unset, .unset] [(.ref sCONFLICT), (.ref sCONFLICT)])) X8 hx rfl rfl rfl (pc0 := 70) (pc' := 73) (same := true) rfl (hb hby at_70) rfl (decide_eq_true rfl) (by decide) (by decide) kK) ?_
    show oGl p e below (T8.setTop (mkF m 73 #[.val (.int i0), .val (.int ((i0 &&& (2147483647 : Int32)) % (3 : Int32))), .val (.ref sCONFLICT), .val (.ref a2), .val (.ref t5), .val (.int (1 : Int32)), .unset, .unset, .unset, .unset] [])) _
    refine siconst X8 hx (hb hby at_73) rfl rfl (z := 1) (pc' := 74) ?_
    refine sgoto X8 hx (hb hby at_74) (by decide) (by decide)  (pc' := 78) ?_
    refine sistore X8 hx (hb hby at_78) rfl rfl (l' := #[.val (.int i0), .val (.int ((i0 &&& (2147483647 : Int32)) % (3 : Int32))), .val (.ref sCONFLICT), .val (.ref a2), .val (.ref t5), .val (.int (1 : Int32)), .val (.int (1 : Int32)), .unset, .unset, .unset]) (pc' := 80) ?_
    refine saload X8 hx (hb hby at_80) rfl rfl rfl (pc' := 82) ?_
    obtain ⟨T9, X9, e9, st9⟩ := getS2 X8 hx hZ hown (host := "") (Or.inl (hw _ (List.mem_of_getElem? (i := 43) rfl))) Via.refl eh8 (SsYES.ext Oo5.2) (g := (mkF m 82 #[.val (.int i0), .val (.int ((i0 &&& (2147483647 : Int32)) % (3 : Int32))), .val (.ref sCONFLICT), .val (.ref a2), .val (.ref t5), .val (.int (1 : Int32)), .val (.int (1 : Int32)), .unset, .unset, .unset] [(.ref t5)])) rfl (hb hby at_82)
    refine oOn st9 ?_
    show oGl p e below (T9.setTop (mkF m 85 #[.val (.int i0), .val (.int ((i0 &&& (2147483647 : Int32)) % (3 : Int32))), .val (.ref sCONFLICT), .val (.ref a2), .val (.ref t5), .val (.int (1 : Int32)), .val (.int (1 : Int32)), .unset, .unset, .unset] [(.ref sYES), (.ref t5)])) _
    refine oOn (fun _ kK => Jvm.RoadKit.acmp (g := (mkF m 85 #[.val (.int i0), .val (.int ((i0 &&& (2147483647 : Int32)) % (3 : Int32))), .val (.ref sCONFLICT), .val (.ref a2), .val (.ref t5), .val (.int (1 : Int32)), .val (.int (1 : Int32)), .unset, .unset, .unset] [(.ref sYES), (.ref t5)])) X9 hx rfl rfl rfl (pc0 := 85) (pc' := 88) (same := false) rfl (hb hby at_85) rfl (decide_eq_false fun q => (Ft5.ne (WY.ext Oo5.2) nofun) (Value.ref.inj q)) (by decide) (by decide) kK) ?_
    show oGl p e below (T9.setTop (mkF m 88 #[.val (.int i0), .val (.int ((i0 &&& (2147483647 : Int32)) % (3 : Int32))), .val (.ref sCONFLICT), .val (.ref a2), .val (.ref t5), .val (.int (1 : Int32)), .val (.int (1 : Int32)), .unset, .unset, .unset] [])) _
    refine siconst X9 hx (hb hby at_88) rfl rfl (z := 1) (pc' := 89) ?_
    refine sgoto X9 hx (hb hby at_89) (by decide) (by decide)  (pc' := 93) ?_
    refine sistore X9 hx (hb hby at_93) rfl rfl (l' := #[.val (.int i0), .val (.int ((i0 &&& (2147483647 : Int32)) % (3 : Int32))), .val (.ref sCONFLICT), .val (.ref a2), .val (.ref t5), .val (.int (1 : Int32)), .val (.int (1 : Int32)), .val (.int (1 : Int32)), .unset, .unset]) (pc' := 95) ?_
    refine saloadN X9 hx (hb hby at_95) rfl rfl rfl (pc' := 96) ?_
    refine saload X9 hx (hb hby at_96) rfl rfl rfl (pc' := 98) ?_
    have gq10 : n0 ≤ T5.heap.size := by omega
    have hz11 : T5.heap.size ≤ T5.heap.size := by omega
    obtain ⟨cq11, kq11, q11a, q11b, q11c⟩ := isOf hZ e9 Et5
    obtain ⟨_, _, ⟨T11, L11, k11, n11⟩, -, X11, hS2, hg2, ⟨Lc11, hQ11, l11, y11, z11⟩, st11⟩ := X9.virtualBackS hx (y := (⟨"com/example/concordat/concordat/core/Vote", "toString", "()Ljava/lang/String;"⟩ : MethodName)) (z := (⟨"com/example/concordat/concordat/core/Vote", "toString", "()Ljava/lang/String;"⟩ : MethodName)) hown (mvT hZ (hw _ (List.mem_of_getElem? (i := 45) rfl))) (mvT hZ (hw _ (List.mem_of_getElem? (i := 46) rfl))) (notFace_of_selects (args := #[]) (mvT hZ (hw _ (List.mem_of_getElem? (i := 48) rfl)))) (mvT hZ (hw _ (List.mem_of_getElem? (i := 48) rfl))) (mvT hZ (hw _ (List.mem_of_getElem? (i := 47) rfl))) (by decide) (backOfV (J := fun vm => IB Z vm ("reason" :: ("no conflict" :: []))) (W := 1) (rmVts8 l Z a0 hw [] t5 sCONFLICT wCONFLICT bCONFLICT (oLst [(99 : Int32), (111 : Int32), (110 : Int32), (102 : Int32), (108 : Int32), (105 : Int32), (99 : Int32), (116 : Int32)]) cz ("reason" :: ("no conflict" :: [])) T5.heap T5.heap.size hz11 (Oo5.up (by omega)) SCS hcz rfl Et5 Ft5 (EsCONFLICT.ext Oo5.2) (WaCONFLICT.ext Oo5.2) (WbCONFLICT.ext Oo5.2) (WcCONFLICT.ext Oo5.2) (WdCONFLICT.ext Oo5.2) (WeCONFLICT.ext Oo5.2) (by unfold oFit; decide) (by decide) kh30 hcw) hZ (hw _ (List.mem_of_getElem? (i := 49) rfl)) (hw _ (List.mem_of_getElem? (i := 14) rfl)) (by decide) (by decide)) q11a q11c (g := (mkF m 98 #[.val (.int i0), .val (.int ((i0 &&& (2147483647 : Int32)) % (3 : Int32))), .val (.ref sCONFLICT), .val (.ref a2), .val (.ref t5), .val (.int (1 : Int32)), .val (.int (1 : Int32)), .val (.int (1 : Int32)), .unset, .unset] [(.ref t5), (.ref a2)])) rfl (by rw [hml]; rfl) (Steps.refl _) (argsL := []) (rest := [(.ref a2)]) (lenOf pd_19 rfl) rfl (by show 2 * 0 + _ ≤ _; exact Nat.le_of_eq rfl) (hb hby at_98) (fun _ hWw => ⟨rfl, e9, (by decide : 5 + 6 ≤ _), (by decide : 77 + 51 ≤ _), IBwarm Ib5 hWw⟩)
    dsimp only [Pt.U, Pt.locs, Pt.cells, Pt.slots] at X11 l11 y11 z11 st11 hQ11 hS2 hg2
    subst l11 y11 z11
    obtain ⟨X11, hS, hZ, hown⟩ := rebS hS (n1 := T9.heap.size) (by rw [e9]; omega) X11 hS2 hg2 hZ hown
    have hk : T11.heap.size ≤ T11.heap.size := Nat.le_refl _
    obtain ⟨y11, d11, rfl, N11q, K11, Ey11, Fy11, Fz11, Vy11⟩ := hQ11
    have N11q : Fr n0 Lc11 := fun y hy => Nat.le_trans (by omega) (N11q y hy)
    have N11 := Fr.app N8 N11q
    have z12 : T5.heap.size ≤ T11.heap.size := K11.1
    refine oSt st11 ?_
    show oGl p e below (T11.setTop (mkF m 101 #[.val (.int i0), .val (.int ((i0 &&& (2147483647 : Int32)) % (3 : Int32))), .val (.ref sCONFLICT), .val (.ref a2), .val (.ref t5), .val (.int (1 : Int32)), .val (.int (1 : Int32)), .val (.int (1 : Int32)), .unset, .unset] [(.ref y11), (.ref a2)])) _
    have f13 := (Oo5.keep K11 all0)
    have f14 := ((ga2.keep K5).keep K11)
    have f15 := ((gc2.keep K5 nin0).keep K11 nin0)
    have f16 := ((gb2.keep K5 nin0).keep K11 nin0)
    have f17 := ((ge2.keep K5 nin0).keep K11 nin0)
    have hz18 : n0 ≤ T11.heap.size := by omega
    obtain ⟨cq18, kq18, q18a, q18b, q18c⟩ := isOf hZ rfl f14
    obtain ⟨_, _, ⟨T18, L18, k18, n18⟩, -, X18, ⟨Lc18, hQ18, l18, y18, z18⟩, st18⟩ := X11.virtualBack hx (y := (⟨"java/lang/String", "equals", "(Ljava/lang/Object;)Z"⟩ : MethodName)) (z := (⟨"java/lang/String", "equals", "(Ljava/lang/Object;)Z"⟩ : MethodName)) hown (mvT hZ (hw _ (List.mem_of_getElem? (i := 173) rfl))) (mvT hZ (hw _ (List.mem_of_getElem? (i := 174) rfl))) (notFace_of_selects (args := #[]) (mvT hZ (hw _ (List.mem_of_getElem? (i := 176) rfl)))) (mvT hZ (hw _ (List.mem_of_getElem? (i := 176) rfl))) (mvT hZ (hw _ (List.mem_of_getElem? (i := 175) rfl))) (by decide) (backOf (W := 0) (rmSEq l Z a0 hw [] a2 y11 b2 d11 11 11 (oLst [(110 : Int32), (111 : Int32), (32 : Int32), (99 : Int32), (111 : Int32), (110 : Int32), (102 : Int32), (108 : Int32), (105 : Int32), (99 : Int32), (116 : Int32)]) (oCpF 0 11 (fun i => (oCpF 3 8 (fun i => (oLst [(99 : Int32), (111 : Int32), (110 : Int32), (102 : Int32), (108 : Int32), (105 : Int32), (99 : Int32), (116 : Int32)]) (0 + i)) (oCpF 0 3 (fun i => (oLst [(110 : Int32), (111 : Int32), (32 : Int32)]) (0 + i)) (fun _ => 0))) (0 + i)) (fun _ => 0)) cz T11.heap n0 hz18 f13 SCS hcz f14 f15 f16 f17 Ey11 Fy11 Fz11 Vy11) hZ (hw _ (List.mem_of_getElem? (i := 177) rfl)) (hw _ (List.mem_of_getElem? (i := 5) rfl)) (by decide) (by decide)) q18a q18c (g := (mkF m 101 #[.val (.int i0), .val (.int ((i0 &&& (2147483647 : Int32)) % (3 : Int32))), .val (.ref sCONFLICT), .val (.ref a2), .val (.ref t5), .val (.int (1 : Int32)), .val (.int (1 : Int32)), .val (.int (1 : Int32)), .unset, .unset] [(.ref y11), (.ref a2)])) rfl (by rw [hml]; rfl) (Steps.refl _) (argsL := [(.ref y11)]) (rest := []) (lenOf pd_22 rfl) rfl (by show 2 * 0 + _ ≤ _; exact Nat.le_of_eq rfl) (hb hby at_101) (fun _ _ => ⟨rfl, rfl, (by decide : 11 + 0 ≤ _), (by decide : 128 + 0 ≤ _)⟩)
    dsimp only [Pt.U, Pt.locs, Pt.cells, Pt.slots] at X18 l18 y18 z18 st18 hQ18
    subst l18 y18 z18
    obtain ⟨r18, rfl, N18q, eh18, pq18⟩ := hQ18
    have N18 := Fr.app N11 N18q
    refine oSt st18 ?_
    show oGl p e below (T18.setTop (mkF m 104 #[.val (.int i0), .val (.int ((i0 &&& (2147483647 : Int32)) % (3 : Int32))), .val (.ref sCONFLICT), .val (.ref a2), .val (.ref t5), .val (.int (1 : Int32)), .val (.int (1 : Int32)), .val (.int (1 : Int32)), .unset, .unset] [(.int r18)])) _
    obtain rfl : r18 = (1 : Int32) := by
      rcases pq18 with q | q
      · exact q.1
      · exact absurd (by decide) q.2
    show oGl p e below (T18.setTop (mkF m 104 #[.val (.int i0), .val (.int ((i0 &&& (2147483647 : Int32)) % (3 : Int32))), .val (.ref sCONFLICT), .val (.ref a2), .val (.ref t5), .val (.int (1 : Int32)), .val (.int (1 : Int32)), .val (.int (1 : Int32)), .unset, .unset] [(.int (1 : Int32))])) _
    refine sistore X18 hx (hb hby at_104) rfl rfl (l' := #[.val (.int i0), .val (.int ((i0 &&& (2147483647 : Int32)) % (3 : Int32))), .val (.ref sCONFLICT), .val (.ref a2), .val (.ref t5), .val (.int (1 : Int32)), .val (.int (1 : Int32)), .val (.int (1 : Int32)), .val (.int (1 : Int32)), .unset]) (pc' := 106) ?_
    obtain ⟨T19, X19, e19, st19⟩ := getS2 X18 hx hZ hown (host := "") (Or.inl (hw _ (List.mem_of_getElem? (i := 43) rfl))) Via.refl eh18 (SsYES.ext f13.2) (g := (mkF m 106 #[.val (.int i0), .val (.int ((i0 &&& (2147483647 : Int32)) % (3 : Int32))), .val (.ref sCONFLICT), .val (.ref a2), .val (.ref t5), .val (.int (1 : Int32)), .val (.int (1 : Int32)), .val (.int (1 : Int32)), .val (.int (1 : Int32)), .unset] [])) rfl (hb hby at_106)
    refine oOn st19 ?_
    show oGl p e below (T19.setTop (mkF m 109 #[.val (.int i0), .val (.int ((i0 &&& (2147483647 : Int32)) % (3 : Int32))), .val (.ref sCONFLICT), .val (.ref a2), .val (.ref t5), .val (.int (1 : Int32)), .val (.int (1 : Int32)), .val (.int (1 : Int32)), .val (.int (1 : Int32)), .unset] [(.ref sYES)])) _
    have hz20 : n0 ≤ T11.heap.size := by omega
    obtain ⟨cq20, kq20, q20a, q20b, q20c⟩ := isOf hZ e19 (EsYES.ext f13.2)
    obtain ⟨_, _, ⟨T20, L20, k20, n20⟩, -, X20, ⟨Lc20, hQ20, l20, y20, z20⟩, st20⟩ := X19.virtualBack hx (y := (⟨"com/example/concordat/concordat/core/Vote", "isYes", "()Z"⟩ : MethodName)) (z := (⟨"com/example/concordat/concordat/core/Vote", "isYes", "()Z"⟩ : MethodName)) hown (mvT hZ (hw _ (List.mem_of_getElem? (i := 33) rfl))) (mvT hZ (hw _ (List.mem_of_getElem? (i := 34) rfl))) (notFace_of_selects (args := #[]) (mvT hZ (hw _ (List.mem_of_getElem? (i := 36) rfl)))) (mvT hZ (hw _ (List.mem_of_getElem? (i := 36) rfl))) (mvT hZ (hw _ (List.mem_of_getElem? (i := 35) rfl))) (by decide) (backOf (W := 0) (rmIy1 l Z a0 hw [] sYES T11.heap n0 hz20 (WY.ext f13.2)) hZ (hw _ (List.mem_of_getElem? (i := 37) rfl)) (hw _ (List.mem_of_getElem? (i := 14) rfl)) (by decide) (by decide)) q20a q20c (g := (mkF m 109 #[.val (.int i0), .val (.int ((i0 &&& (2147483647 : Int32)) % (3 : Int32))), .val (.ref sCONFLICT), .val (.ref a2), .val (.ref t5), .val (.int (1 : Int32)), .val (.int (1 : Int32)), .val (.int (1 : Int32)), .val (.int (1 : Int32)), .unset] [(.ref sYES)])) rfl (by rw [hml]; rfl) (Steps.refl _) (argsL := []) (rest := []) (lenOf pd_11 rfl) rfl (by show 2 * 0 + _ ≤ _; exact Nat.le_of_eq rfl) (hb hby at_109) (fun _ _ => ⟨rfl, e19, (by decide : 11 + 0 ≤ _), (by decide : 128 + 0 ≤ _)⟩)
    dsimp only [Pt.U, Pt.locs, Pt.cells, Pt.slots] at X20 l20 y20 z20 st20 hQ20
    subst l20 y20 z20
    obtain ⟨rfl, N20q, eh20⟩ := hQ20
    have N20 := Fr.app N18 N20q
    refine oSt st20 ?_
    show oGl p e below (T20.setTop (mkF m 112 #[.val (.int i0), .val (.int ((i0 &&& (2147483647 : Int32)) % (3 : Int32))), .val (.ref sCONFLICT), .val (.ref a2), .val (.ref t5), .val (.int (1 : Int32)), .val (.int (1 : Int32)), .val (.int (1 : Int32)), .val (.int (1 : Int32)), .unset] [(.int (1 : Int32))])) _
    refine sifN X20 hx (hb hby at_112) rfl (feq (by decide : ¬ ((1 : Int32) = (0 : Int32)))).1 (pc' := 115) ?_
    obtain ⟨T21, X21, e21, st21⟩ := getS2 X20 hx hZ hown (host := "") (Or.inl (hw _ (List.mem_of_getElem? (i := 43) rfl))) Via.refl eh20 (SsYES.ext f13.2) (g := (mkF m 115 #[.val (.int i0), .val (.int ((i0 &&& (2147483647 : Int32)) % (3 : Int32))), .val (.ref sCONFLICT), .val (.ref a2), .val (.ref t5), .val (.int (1 : Int32)), .val (.int (1 : Int32)), .val (.int (1 : Int32)), .val (.int (1 : Int32)), .unset] [])) rfl (hb hby at_115)
    refine oOn st21 ?_
    show oGl p e below (T21.setTop (mkF m 118 #[.val (.int i0), .val (.int ((i0 &&& (2147483647 : Int32)) % (3 : Int32))), .val (.ref sCONFLICT), .val (.ref a2), .val (.ref t5), .val (.int (1 : Int32)), .val (.int (1 : Int32)), .val (.int (1 : Int32)), .val (.int (1 : Int32)), .unset] [(.ref sYES)])) _
    have hz22 : n0 ≤ T11.heap.size := by omega
    obtain ⟨cq22, kq22, q22a, q22b, q22c⟩ := isOf hZ e21 (EsYES.ext f13.2)
    obtain ⟨_, _, ⟨T22, L22, k22, n22⟩, -, X22, ⟨Lc22, hQ22, l22, y22, z22⟩, st22⟩ := X21.virtualBack hx (y := (⟨"com/example/concordat/concordat/core/Vote", "getReason", "()Lcom/example/concordat/concordat/core/AbortReason;"⟩ : MethodName)) (z := (⟨"com/example/concordat/concordat/core/Vote", "getReason", "()Lcom/example/concordat/concordat/core/AbortReason;"⟩ : MethodName)) hown (mvT hZ (hw _ (List.mem_of_getElem? (i := 38) rfl))) (mvT hZ (hw _ (List.mem_of_getElem? (i := 39) rfl))) (notFace_of_selects (args := #[]) (mvT hZ (hw _ (List.mem_of_getElem? (i := 41) rfl)))) (mvT hZ (hw _ (List.mem_of_getElem? (i := 41) rfl))) (mvT hZ (hw _ (List.mem_of_getElem? (i := 40) rfl))) (by decide) (backOf (W := 0) (rmGr1 l Z a0 hw [] sYES T11.heap n0 hz22 (WY.ext f13.2)) hZ (hw _ (List.mem_of_getElem? (i := 42) rfl)) (hw _ (List.mem_of_getElem? (i := 14) rfl)) (by decide) (by decide)) q22a q22c (g := (mkF m 118 #[.val (.int i0), .val (.int ((i0 &&& (2147483647 : Int32)) % (3 : Int32))), .val (.ref sCONFLICT), .val (.ref a2), .val (.ref t5), .val (.int (1 : Int32)), .val (.int (1 : Int32)), .val (.int (1 : Int32)), .val (.int (1 : Int32)), .unset] [(.ref sYES)])) rfl (by rw [hml]; rfl) (Steps.refl _) (argsL := []) (rest := []) (lenOf pd_21 rfl) rfl (by show 2 * 0 + _ ≤ _; exact Nat.le_of_eq rfl) (hb hby at_118) (fun _ _ => ⟨rfl, e21, (by decide : 11 + 0 ≤ _), (by decide : 128 + 0 ≤ _)⟩)
    dsimp only [Pt.U, Pt.locs, Pt.cells, Pt.slots] at X22 l22 y22 z22 st22 hQ22
    subst l22 y22 z22
    obtain ⟨rfl, N22q, eh22⟩ := hQ22
    have N22 := Fr.app N20 N22q
    refine oSt st22 ?_
    show oGl p e below (T22.setTop (mkF m 121 #[.val (.int i0), .val (.int ((i0 &&& (2147483647 : Int32)) % (3 : Int32))), .val (.ref sCONFLICT), .val (.ref a2), .val (.ref t5), .val (.int (1 : Int32)), .val (.int (1 : Int32)), .val (.int (1 : Int32)), .val (.int (1 : Int32)), .unset] [.null])) _
    refine sifnonnullN X22 hx (hb hby at_121) rfl  (pc' := 124) ?_
    refine siconst X22 hx (hb hby at_124) rfl rfl (z := 1) (pc' := 125) ?_
    refine sgoto X22 hx (hb hby at_125) (by decide) (by decide)  (pc' := 129) ?_
    refine sistore X22 hx (hb hby at_129) rfl rfl (l' := #[.val (.int i0), .val (.int ((i0 &&& (2147483647 : Int32)) % (3 : Int32))), .val (.ref sCONFLICT), .val (.ref a2), .val (.ref t5), .val (.int (1 : Int32)), .val (.int (1 : Int32)), .val (.int (1 : Int32)), .val (.int (1 : Int32)), .val (.int (1 : Int32))]) (pc' := 131) ?_
    refine siload X22 hx (hb hby at_131) rfl rfl (pc' := 133) ?_
    refine sifN X22 hx (hb hby at_133) rfl (feq (by decide : ¬ ((1 : Int32) = (0 : Int32)))).1 (pc' := 136) ?_
    refine siload X22 hx (hb hby at_136) rfl rfl (pc' := 138) ?_
    refine sifN X22 hx (hb hby at_138) rfl (feq (by decide : ¬ ((1 : Int32) = (0 : Int32)))).1 (pc' := 141) ?_
    refine siload X22 hx (hb hby at_141) rfl rfl (pc' := 143) ?_
    refine sifN X22 hx (hb hby at_143) rfl (feq (by decide : ¬ ((1 : Int32) = (0 : Int32)))).1 (pc' := 146) ?_
    refine siload X22 hx (hb hby at_146) rfl rfl (pc' := 148) ?_
    refine sifN X22 hx (hb hby at_148) rfl (feq (by decide : ¬ ((1 : Int32) = (0 : Int32)))).1 (pc' := 151) ?_
    refine siload X22 hx (hb hby at_151) rfl rfl (pc' := 153) ?_
    refine sifN X22 hx (hb hby at_153) rfl (feq (by decide : ¬ ((1 : Int32) = (0 : Int32)))).1 (pc' := 156) ?_
    refine siconst X22 hx (hb hby at_156) rfl rfl (z := 1) (pc' := 157) ?_
    refine sgoto X22 hx (hb hby at_157) (by decide) (by decide)  (pc' := 161) ?_
    refine oRetNV (t := .boolean) X22 hS (by rw [eh22]; omega) hx Bd.notSynchronized Bd.returns (by simp) (hb hby at_161) (by decide) (by decide) ?_
    show Q_rmL Z i0 sCONFLICT sYES sUNAVAILABLE sCHECK_FAILED wCONFLICT bCONFLICT wCHECK_FAILED bCHECK_FAILED wUNAVAILABLE bUNAVAILABLE cz h0 n0 _ T22.heap _ _
    rw [eh22]
    exact ⟨rfl, N22⟩
  · skip
    refine sifY X0 hx (hb hby at_8) (by decide) (by decide) (feq hc8).2 (pc' := 21) ?_
    refine siloadN X0 hx (hb hby at_21) rfl rfl (pc' := 22) ?_
    refine siconst X0 hx (hb hby at_22) rfl rfl (z := 1) (pc' := 23) ?_
    by_cases hc23 : ((i0 &&& (2147483647 : Int32)) % (3 : Int32)) = (1 : Int32)
    · skip
      refine sicN X0 hx (hb hby at_23) rfl (teq hc23).2 (pc' := 26) ?_
      obtain ⟨T23, X23, e23, st23⟩ := getS2 X0 hx hZ hown (host := "") (Or.inl (hw _ (List.mem_of_getElem? (i := 186) rfl))) Via.refl e0 (SsCHECK_FAILED.ext O0.2) (g := (mkF m 26 #[.val (.int i0), .val (.int ((i0 &&& (2147483647 : Int32)) % (3 : Int32))), .unset, .unset, .unset, .unset, .unset, .unset, .unset, .unset] [])) rfl (hb hby at_26)
      refine oOn st23 ?_
      show oGl p e below (T23.setTop (mkF m 29 #[.val (.int i0), .val (.int ((i0 &&& (2147483647 : Int32)) % (3 : Int32))), .unset, .unset, .unset, .unset, .unset, .unset, .unset, .unset] [(.ref sCHECK_FAILED)])) _
      refine sastoreN X23 hx (hb hby at_29) rfl rfl rfl (l' := #[.val (.int i0), .val (.int ((i0 &&& (2147483647 : Int32)) % (3 : Int32))), .val (.ref sCHECK_FAILED), .unset, .unset, .unset, .unset, .unset, .unset, .unset]) (pc' := 30) ?_
      obtain ⟨a24, T24, h24, k24, b24, kk24, X24, e24, E24, hS, hk, hZ, hown, ga24, gb24, gc24, gd24, -, -, Ib24, st24⟩ := ldcSV X23 hx hZ hown (hw _ (List.mem_of_getElem? (i := 188) rfl)) (own_sa hw) e23 hS (by omega) (Fr.nil _) (fun b cl hcl => by rw [hh]; exact O0.2.2 b cl hcl) hJ (by decide) kh19 hcw (vs := [(110 : Int32), (111 : Int32), (32 : Int32), (99 : Int32), (104 : Int32), (101 : Int32), (99 : Int32), (107 : Int32), (45 : Int32), (102 : Int32), (97 : Int32), (105 : Int32), (108 : Int32), (101 : Int32), (100 : Int32)].map Value.int) (z := 15) ⟨by decide, rfl⟩ (by decide) rfl (g := (mkF m 30 #[.val (.int i0), .val (.int ((i0 &&& (2147483647 : Int32)) % (3 : Int32))), .val (.ref sCHECK_FAILED), .unset, .unset, .unset, .unset, .unset, .unset, .unset] [])) rfl (hb hby at_30) (n := 60) (by decide) (by decide) (by decide) (by decide)
      refine oOn st24 ?_
      have z25 : h0.size ≤ h24.size := E24.1
      have ge24 := oAI.ofArvL (l := [(110 : Int32), (111 : Int32), (32 : Int32), (99 : Int32), (104 : Int32), (101 : Int32), (99 : Int32), (107 : Int32), (45 : Int32), (102 : Int32), (97 : Int32), (105 : Int32), (108 : Int32), (101 : Int32), (100 : Int32)]) gd24 rfl
      have lt24 : @LT.lt Nat _ a24 h24.size := ga24.lt
      have lu24 : @LT.lt Nat _ b24 h24.size := ge24.lt
      show oGl p e below (T24.setTop (mkF m 32 #[.val (.int i0), .val (.int ((i0 &&& (2147483647 : Int32)) % (3 : Int32))), .val (.ref sCHECK_FAILED), .unset, .unset, .unset, .unset, .unset, .unset, .unset] [(.ref a24)])) _
      refine sastoreN X24 hx (hb hby at_32) rfl rfl rfl (l' := #[.val (.int i0), .val (.int ((i0 &&& (2147483647 : Int32)) % (3 : Int32))), .val (.ref sCHECK_FAILED), .val (.ref a24), .unset, .unset, .unset, .unset, .unset, .unset]) (pc' := 33) ?_
      refine sgoto X24 hx (hb hby at_33) (by decide) (by decide)  (pc' := 43) ?_
      refine saloadN X24 hx (hb hby at_43) rfl rfl rfl (pc' := 44) ?_
      have f26 := (O0.ext E24)
      have hz27 : n0 ≤ h24.size := by omega
      obtain ⟨_, _, ⟨T27, L27, k27, n27⟩, -, X27, hS2, hg2, ⟨Lc27, hQ27, l27, y27, z27⟩, st27⟩ := callSS X24 hx (y := (⟨"com/example/concordat/concordat/core/Vote", "no", "(Lcom/example/concordat/concordat/core/AbortReason;)Lcom/example/concordat/concordat/core/Vote;"⟩ : MethodName)) hown (mvT hZ (hw _ (List.mem_of_getElem? (i := 12) rfl))) (mvT hZ (hw _ (List.mem_of_getElem? (i := 13) rfl))) (mvT hZ (hw _ (List.mem_of_getElem? (i := 14) rfl))) (mvT hZ (hw _ (List.mem_of_getElem? (i := 15) rfl))) (by decide) (backOfV (J := fun vm => IB Z vm ("no check-failed" :: [])) (W := 0) (rmNo l Z a0 hw [] sCHECK_FAILED ("no check-failed" :: []) h24 n0 hz27 f26 (EsCHECK_FAILED.ext f26.2) (by decide) kh13 hcw) hZ (hw _ (List.mem_of_getElem? (i := 15) rfl)) (hw _ (List.mem_of_getElem? (i := 14) rfl)) (by decide) (by decide)) (g := (mkF m 44 #[.val (.int i0), .val (.int ((i0 &&& (2147483647 : Int32)) % (3 : Int32))), .val (.ref sCHECK_FAILED), .val (.ref a24), .unset, .unset, .unset, .unset, .unset, .unset] [(.ref sCHECK_FAILED)])) rfl (by rw [hml]; rfl) (argsL := [(.ref sCHECK_FAILED)]) (rest := []) (lenOf pd_20 rfl) rfl (by show 2 * 0 + _ ≤ _; exact Nat.le_of_eq rfl) (hb hby at_44) (fun _ hWw => ⟨rfl, e24, (by decide : 2 + 3 ≤ _), (by decide : 64 + 29 ≤ _), IBwarm Ib24 hWw⟩)
      dsimp only [Pt.U, Pt.locs, Pt.cells, Pt.slots] at X27 l27 y27 z27 st27 hQ27 hS2 hg2
      subst l27 y27 z27
      obtain ⟨X27, hS, hZ, hown⟩ := rebS hS (n1 := T24.heap.size) (by rw [e24]; omega) X27 hS2 hg2 hZ hown
      have hk : T27.heap.size ≤ T27.heap.size := Nat.le_refl _
      obtain ⟨t27, rfl, N27q, K27, zt27, Oo27, Et27, Ft27, Ib27⟩ := hQ27
      have N27 := Fr.app N0 N27q
      have z28 : h24.size ≤ T27.heap.size := K27.1
      refine oSt st27 ?_
      show oGl p e below (T27.setTop (mkF m 47 #[.val (.int i0), .val (.int ((i0 &&& (2147483647 : Int32)) % (3 : Int32))), .val (.ref sCHECK_FAILED), .val (.ref a24), .unset, .unset, .unset, .unset, .unset, .unset] [(.ref t27)])) _
      refine sastore X27 hx (hb hby at_47) rfl rfl rfl (l' := #[.val (.int i0), .val (.int ((i0 &&& (2147483647 : Int32)) % (3 : Int32))), .val (.ref sCHECK_FAILED), .val (.ref a24), .val (.ref t27), .unset, .unset, .unset, .unset, .unset]) (pc' := 49) ?_
      refine saload X27 hx (hb hby at_49) rfl rfl rfl (pc' := 51) ?_
      have hz29 : n0 ≤ T27.heap.size := by omega
      obtain ⟨cq29, kq29, q29a, q29b, q29c⟩ := isOf hZ rfl Et27
      obtain ⟨_, _, ⟨T29, L29, k29, n29⟩, -, X29, ⟨Lc29, hQ29, l29, y29, z29⟩, st29⟩ := X27.virtualBack hx (y := (⟨"com/example/concordat/concordat/core/Vote", "isYes", "()Z"⟩ : MethodName)) (z := (⟨"com/example/concordat/concordat/core/Vote", "isYes", "()Z"⟩ : MethodName)) hown (mvT hZ (hw _ (List.mem_of_getElem? (i := 33) rfl))) (mvT hZ (hw _ (List.mem_of_getElem? (i := 34) rfl))) (notFace_of_selects (args := #[]) (mvT hZ (hw _ (List.mem_of_getElem? (i := 36) rfl)))) (mvT hZ (hw _ (List.mem_of_getElem? (i := 36) rfl))) (mvT hZ (hw _ (List.mem_of_getElem? (i := 35) rfl))) (by decide) (backOf (W := 0) (rmIy0 l Z a0 hw [] t27 sCHECK_FAILED T27.heap n0 hz29 Ft27) hZ (hw _ (List.mem_of_getElem? (i := 37) rfl)) (hw _ (List.mem_of_getElem? (i := 14) rfl)) (by decide) (by decide)) q29a q29c (g := (mkF m 51 #[.val (.int i0), .val (.int ((i0 &&& (2147483647 : Int32)) % (3 : Int32))), .val (.ref sCHECK_FAILED), .val (.ref a24), .val (.ref t27), .unset, .unset, .unset, .unset, .unset] [(.ref t27)])) rfl (by rw [hml]; rfl) (Steps.refl _) (argsL := []) (rest := []) (lenOf pd_11 rfl) rfl (by show 2 * 0 + _ ≤ _; exact Nat.le_of_eq rfl) (hb hby at_51) (fun _ _ => ⟨rfl, rfl, (by decide : 5 + 0 ≤ _), (by decide : 93 + 0 ≤ _)⟩)
      dsimp only [Pt.U, Pt.locs, Pt.cells, Pt.slots] at X29 l29 y29 z29 st29 hQ29
      subst l29 y29 z29
      obtain ⟨rfl, N29q, eh29⟩ := hQ29
      have N29 := Fr.app N27 N29q
      refine oSt st29 ?_
      show oGl p e below (T29.setTop (mkF m 54 #[.val (.int i0), .val (.int ((i0 &&& (2147483647 : Int32)) % (3 : Int32))), .val (.ref sCHECK_FAILED), .val (.ref a24), .val (.ref t27), .unset, .unset, .unset, .unset, .unset] [(.int (0 : Int32))])) _
      refine sifN X29 hx (hb hby at_54) rfl (teq (by decide : (0 : Int32) = (0 : Int32))).2 (pc' := 57) ?_
      refine siconst X29 hx (hb hby at_57) rfl rfl (z := 1) (pc' := 58) ?_
      refine sgoto X29 hx (hb hby at_58) (by decide) (by decide)  (pc' := 62) ?_
      refine sistore X29 hx (hb hby at_62) rfl rfl (l' := #[.val (.int i0), .val (.int ((i0 &&& (2147483647 : Int32)) % (3 : Int32))), .val (.ref sCHECK_FAILED), .val (.ref a24), .val (.ref t27), .val (.int (1 : Int32)), .unset, .unset, .unset, .unset]) (pc' := 64) ?_
      refine saload X29 hx (hb hby at_64) rfl rfl rfl (pc' := 66) ?_
      have hz30 : n0 ≤ T27.heap.size := by omega
      obtain ⟨cq30, kq30, q30a, q30b, q30c⟩ := isOf hZ eh29 Et27
      obtain ⟨_, _, ⟨T30, L30, k30, n30⟩, -, X30, ⟨Lc30, hQ30, l30, y30, z30⟩, st30⟩ := X29.virtualBack hx (y := (⟨"com/example/concordat/concordat/core/Vote", "getReason", "()Lcom/example/concordat/concordat/core/AbortReason;"⟩ : MethodName)) (z := (⟨"com/example/concordat/concordat/core/Vote", "getReason", "()Lcom/example/concordat/concordat/core/AbortReason;"⟩ : MethodName)) hown (mvT hZ (hw _ (List.mem_of_getElem? (i := 38) rfl))) (mvT hZ (hw _ (List.mem_of_getElem? (i := 39) rfl))) (notFace_of_selects (args := #[]) (mvT hZ (hw _ (List.mem_of_getElem? (i := 41) rfl)))) (mvT hZ (hw _ (List.mem_of_getElem? (i := 41) rfl))) (mvT hZ (hw _ (List.mem_of_getElem? (i := 40) rfl))) (by decide) (backOf (W := 0) (rmGr0 l Z a0 hw [] t27 sCHECK_FAILED T27.heap n0 hz30 Ft27) hZ (hw _ (List.mem_of_getElem? (i := 42) rfl)) (hw _ (List.mem_of_getElem? (i := 14) rfl)) (by decide) (by decide)) q30a q30c (g := (mkF m 66 #[.val (.int i0), .val (.int ((i0 &&& (2147483647 : Int32)) % (3 : Int32))), .val (.ref sCHECK_FAILED), .val (.ref a24), .val (.ref t27), .val (.int (1 : Int32)), .unset, .unset, .unset, .unset] [(.ref t27)])) rfl (by rw [hml]; rfl) (Steps.refl _) (argsL := []) (rest := []) (lenOf pd_21 rfl) rfl (by show 2 * 0 + _ ≤ _; exact Nat.le_of_eq rfl) (hb hby at_66) (fun _ _ => ⟨rfl, eh29, (by decide : 5 + 0 ≤ _), (by decide : 93 + 0 ≤ _)⟩)
      dsimp only [Pt.U, Pt.locs, Pt.cells, Pt.slots] at X30 l30 y30 z30 st30 hQ30
      subst l30 y30 z30
      obtain ⟨rfl, N30q, eh30⟩ := hQ30
      have N30 := Fr.app N29 N30q
      refine oSt st30 ?_
      show oGl p e below (T30.setTop (mkF m 69 #[.val (.int i0), .val (.int ((i0 &&& (2147483647 : Int32)) % (3 : Int32))), .val (.ref sCHECK_FAILED), .val (.ref a24), .val (.ref t27), .val (.int (1 : Int32)), .unset, .unset, .unset, .unset] [(.ref sCHECK_FAILED)])) _
      refine saloadN X30 hx (hb hby at_69) rfl rfl rfl (pc' := 70) ?_
      refine oOn (fun _ kK => Jvm.RoadKit.acmp (g := (mkF m 70 #[.val (.int i0), .val (.int ((i0 &&& (2147483647 : Int32)) % (3 : Int32))), .val (.ref sCHECK_FAILED), .val (.ref a24), .val (.ref t27), .val (.int (1 : Int32)), .unset, .unset, .unset, .unset] [(.ref sCHECK_FAILED), (.ref sCHECK_FAILED)])) X30 hx rfl rfl rfl (pc0 := 70) (pc' := 73) (same := true) rfl (hb hby at_70) rfl (decide_eq_true rfl) (by decide) (by decide) kK) ?_
      show oGl p e below (T30.setTop (mkF m 73 #[.val (.int i0), .val (.int ((i0 &&& (2147483647 : Int32)) % (3 : Int32))), .val (.ref sCHECK_FAILED), .val (.ref a24), .val (.ref t27), .val (.int (1 : Int32)), .unset, .unset, .unset, .unset] [])) _
      refine siconst X30 hx (hb hby at_73) rfl rfl (z := 1) (pc' := 74) ?_
      refine sgoto X30 hx (hb hby at_74) (by decide) (by decide)  (pc' := 78) ?_
      refine sistore X30 hx (hb hby at_78) rfl rfl (l' := #[.val (.int i0), .val (.int ((i0 &&& (2147483647 : Int32)) % (3 : Int32))), .val (.ref sCHECK_FAILED), .val (.ref a24), .val (.ref t27), .val (.int (1 : Int32)), .val (.int (1 : Int32)), .unset, .unset, .unset]) (pc' := 80) ?_
      refine saload X30 hx (hb hby at_80) rfl rfl rfl (pc' := 82) ?_
      obtain ⟨T31, X31, e31, st31⟩ := getS2 X30 hx hZ hown (host := "") (Or.inl (hw _ (List.mem_of_getElem? (i := 43) rfl))) Via.refl eh30 (SsYES.ext Oo27.2) (g := (mkF m 82 #[.val (.int i0), .val (.int ((i0 &&& (2147483647 : Int32)) % (3 : Int32))), .val (.ref sCHECK_FAILED), .val (.ref a24), .val (.ref t27), .val (.int (1 : Int32)), .val (.int (1 : Int32)), .unset, .unset, .unset] [(.ref t27)])) rfl (hb hby at_82)
      refine oOn st31 ?_
      show oGl p e below (T31.setTop (mkF m 85 #[.val (.int i0), .val (.int ((i0 &&& (2147483647 : Int32)) % (3 : Int32))), .val (.ref sCHECK_FAILED), .val (.ref a24), .val (.ref t27), .val (.int (1 : Int32)), .val (.int (1 : Int32)), .unset, .unset, .unset] [(.ref sYES), (.ref t27)])) _
      refine oOn (fun _ kK => Jvm.RoadKit.acmp (g := (mkF m 85 #[.val (.int i0), .val (.int ((i0 &&& (2147483647 : Int32)) % (3 : Int32))), .val (.ref sCHECK_FAILED), .val (.ref a24), .val (.ref t27), .val (.int (1 : Int32)), .val (.int (1 : Int32)), .unset, .unset, .unset] [(.ref sYES), (.ref t27)])) X31 hx rfl rfl rfl (pc0 := 85) (pc' := 88) (same := false) rfl (hb hby at_85) rfl (decide_eq_false fun q => (Ft27.ne (WY.ext Oo27.2) nofun) (Value.ref.inj q)) (by decide) (by decide) kK) ?_
      show oGl p e below (T31.setTop (mkF m 88 #[.val (.int i0), .val (.int ((i0 &&& (2147483647 : Int32)) % (3 : Int32))), .val (.ref sCHECK_FAILED), .val (.ref a24), .val (.ref t27), .val (.int (1 : Int32)), .val (.int (1 : Int32)), .unset, .unset, .unset] [])) _
      refine siconst X31 hx (hb hby at_88) rfl rfl (z := 1) (pc' := 89) ?_
      refine sgoto X31 hx (hb hby at_89) (by decide) (by decide)  (pc' := 93) ?_
      refine sistore X31 hx (hb hby at_93) rfl rfl (l' := #[.val (.int i0), .val (.int ((i0 &&& (2147483647 : Int32)) % (3 : Int32))), .val (.ref sCHECK_FAILED), .val (.ref a24), .val (.ref t27), .val (.int (1 : Int32)), .val (.int (1 : Int32)), .val (.int (1 : Int32)), .unset, .unset]) (pc' := 95) ?_
      refine saloadN X31 hx (hb hby at_95) rfl rfl rfl (pc' := 96) ?_
      refine saload X31 hx (hb hby at_96) rfl rfl rfl (pc' := 98) ?_
      have gq32 : n0 ≤ T27.heap.size := by omega
      have hz33 : T27.heap.size ≤ T27.heap.size := by omega
      obtain ⟨cq33, kq33, q33a, q33b, q33c⟩ := isOf hZ e31 Et27
      obtain ⟨_, _, ⟨T33, L33, k33, n33⟩, -, X33, hS2, hg2, ⟨Lc33, hQ33, l33, y33, z33⟩, st33⟩ := X31.virtualBackS hx (y := (⟨"com/example/concordat/concordat/core/Vote", "toString", "()Ljava/lang/String;"⟩ : MethodName)) (z := (⟨"com/example/concordat/concordat/core/Vote", "toString", "()Ljava/lang/String;"⟩ : MethodName)) hown (mvT hZ (hw _ (List.mem_of_getElem? (i := 45) rfl))) (mvT hZ (hw _ (List.mem_of_getElem? (i := 46) rfl))) (notFace_of_selects (args := #[]) (mvT hZ (hw _ (List.mem_of_getElem? (i := 48) rfl)))) (mvT hZ (hw _ (List.mem_of_getElem? (i := 48) rfl))) (mvT hZ (hw _ (List.mem_of_getElem? (i := 47) rfl))) (by decide) (backOfV (J := fun vm => IB Z vm ("reason" :: ("no check-failed" :: []))) (W := 1) (rmVts12 l Z a0 hw [] t27 sCHECK_FAILED wCHECK_FAILED bCHECK_FAILED (oLst [(99 : Int32), (104 : Int32), (101 : Int32), (99 : Int32), (107 : Int32), (45 : Int32), (102 : Int32), (97 : Int32), (105 : Int32), (108 : Int32), (101 : Int32), (100 : Int32)]) cz ("reason" :: ("no check-failed" :: [])) T27.heap T27.heap.size hz33 (Oo27.up (by omega)) SCS hcz rfl Et27 Ft27 (EsCHECK_FAILED.ext Oo27.2) (WaCHECK_FAILED.ext Oo27.2) (WbCHECK_FAILED.ext Oo27.2) (WcCHECK_FAILED.ext Oo27.2) (WdCHECK_FAILED.ext Oo27.2) (WeCHECK_FAILED.ext Oo27.2) (by unfold oFit; decide) (by decide) kh30 hcw) hZ (hw _ (List.mem_of_getElem? (i := 49) rfl)) (hw _ (List.mem_of_getElem? (i := 14) rfl)) (by decide) (by decide)) q33a q33c (g := (mkF m 98 #[.val (.int i0), .val (.int ((i0 &&& (2147483647 : Int32)) % (3 : Int32))), .val (.ref sCHECK_FAILED), .val (.ref a24), .val (.ref t27), .val (.int (1 : Int32)), .val (.int (1 : Int32)), .val (.int (1 : Int32)), .unset, .unset] [(.ref t27), (.ref a24)])) rfl (by rw [hml]; rfl) (Steps.refl _) (argsL := []) (rest := [(.ref a24)]) (lenOf pd_19 rfl) rfl (by show 2 * 0 + _ ≤ _; exact Nat.le_of_eq rfl) (hb hby at_98) (fun _ hWw => ⟨rfl, e31, (by decide : 5 + 6 ≤ _), (by decide : 93 + 55 ≤ _), IBwarm Ib27 hWw⟩)
      dsimp only [Pt.U, Pt.locs, Pt.cells, Pt.slots] at X33 l33 y33 z33 st33 hQ33 hS2 hg2
      subst l33 y33 z33
      obtain ⟨X33, hS, hZ, hown⟩ := rebS hS (n1 := T31.heap.size) (by rw [e31]; omega) X33 hS2 hg2 hZ hown
      have hk : T33.heap.size ≤ T33.heap.size := Nat.le_refl _
      obtain ⟨y33, d33, rfl, N33q, K33, Ey33, Fy33, Fz33, Vy33⟩ := hQ33
      have N33q : Fr n0 Lc33 := fun y hy => Nat.le_trans (by omega) (N33q y hy)
      have N33 := Fr.app N30 N33q
      have z34 : T27.heap.size ≤ T33.heap.size := K33.1
      refine oSt st33 ?_
      show oGl p e below (T33.setTop (mkF m 101 #[.val (.int i0), .val (.int ((i0 &&& (2147483647 : Int32)) % (3 : Int32))), .val (.ref sCHECK_FAILED), .val (.ref a24), .val (.ref t27), .val (.int (1 : Int32)), .val (.int (1 : Int32)), .val (.int (1 : Int32)), .unset, .unset] [(.ref y33), (.ref a24)])) _
      have f35 := (Oo27.keep K33 all0)
      have f36 := ((ga24.keep K27).keep K33)
      have f37 := ((gc24.keep K27 nin0).keep K33 nin0)
      have f38 := ((gb24.keep K27 nin0).keep K33 nin0)
      have f39 := ((ge24.keep K27 nin0).keep K33 nin0)
      have hz40 : n0 ≤ T33.heap.size := by omega
      obtain ⟨cq40, kq40, q40a, q40b, q40c⟩ := isOf hZ rfl f36
      obtain ⟨_, _, ⟨T40, L40, k40, n40⟩, -, X40, ⟨Lc40, hQ40, l40, y40, z40⟩, st40⟩ := X33.virtualBack hx (y := (⟨"java/lang/String", "equals", "(Ljava/lang/Object;)Z"⟩ : MethodName)) (z := (⟨"java/lang/String", "equals", "(Ljava/lang/Object;)Z"⟩ : MethodName)) hown (mvT hZ (hw _ (List.mem_of_getElem? (i := 173) rfl))) (mvT hZ (hw _ (List.mem_of_getElem? (i := 174) rfl))) (notFace_of_selects (args := #[]) (mvT hZ (hw _ (List.mem_of_getElem? (i := 176) rfl)))) (mvT hZ (hw _ (List.mem_of_getElem? (i := 176) rfl))) (mvT hZ (hw _ (List.mem_of_getElem? (i := 175) rfl))) (by decide) (backOf (W := 0) (rmSEq l Z a0 hw [] a24 y33 b24 d33 15 15 (oLst [(110 : Int32), (111 : Int32), (32 : Int32), (99 : Int32), (104 : Int32), (101 : Int32), (99 : Int32), (107 : Int32), (45 : Int32), (102 : Int32), (97 : Int32), (105 : Int32), (108 : Int32), (101 : Int32), (100 : Int32)]) (oCpF 0 15 (fun i => (oCpF 3 12 (fun i => (oLst [(99 : Int32), (104 : Int32), (101 : Int32), (99 : Int32), (107 : Int32), (45 : Int32), (102 : Int32), (97 : Int32), (105 : Int32), (108 : Int32), (101 : Int32), (100 : Int32)]) (0 + i)) (oCpF 0 3 (fun i => (oLst [(110 : Int32), (111 : Int32), (32 : Int32)]) (0 + i)) (fun _ => 0))) (0 + i)) (fun _ => 0)) cz T33.heap n0 hz40 f35 SCS hcz f36 f37 f38 f39 Ey33 Fy33 Fz33 Vy33) hZ (hw _ (List.mem_of_getElem? (i := 177) rfl)) (hw _ (List.mem_of_getElem? (i := 5) rfl)) (by decide) (by decide)) q40a q40c (g := (mkF m 101 #[.val (.int i0), .val (.int ((i0 &&& (2147483647 : Int32)) % (3 : Int32))), .val (.ref sCHECK_FAILED), .val (.ref a24), .val (.ref t27), .val (.int (1 : Int32)), .val (.int (1 : Int32)), .val (.int (1 : Int32)), .unset, .unset] [(.ref y33), (.ref a24)])) rfl (by rw [hml]; rfl) (Steps.refl _) (argsL := [(.ref y33)]) (rest := []) (lenOf pd_22 rfl) rfl (by show 2 * 0 + _ ≤ _; exact Nat.le_of_eq rfl) (hb hby at_101) (fun _ _ => ⟨rfl, rfl, (by decide : 11 + 0 ≤ _), (by decide : 148 + 0 ≤ _)⟩)
      dsimp only [Pt.U, Pt.locs, Pt.cells, Pt.slots] at X40 l40 y40 z40 st40 hQ40
      subst l40 y40 z40
      obtain ⟨r40, rfl, N40q, eh40, pq40⟩ := hQ40
      have N40 := Fr.app N33 N40q
      refine oSt st40 ?_
      show oGl p e below (T40.setTop (mkF m 104 #[.val (.int i0), .val (.int ((i0 &&& (2147483647 : Int32)) % (3 : Int32))), .val (.ref sCHECK_FAILED), .val (.ref a24), .val (.ref t27), .val (.int (1 : Int32)), .val (.int (1 : Int32)), .val (.int (1 : Int32)), .unset, .unset] [(.int r40)])) _
      obtain rfl : r40 = (1 : Int32) := by
        rcases pq40 with q | q
        · exact q.1
        · exact absurd (by decide) q.2
      show oGl p e below (T40.setTop (mkF m 104 #[.val (.int i0), .val (.int ((i0 &&& (2147483647 : Int32)) % (3 : Int32))), .val (.ref sCHECK_FAILED), .val (.ref a24), .val (.ref t27), .val (.int (1 : Int32)), .val (.int (1 : Int32)), .val (.int (1 : Int32)), .unset, .unset] [(.int (1 : Int32))])) _
      refine sistore X40 hx (hb hby at_104) rfl rfl (l' := #[.val (.int i0), .val (.int ((i0 &&& (2147483647 : Int32)) % (3 : Int32))), .val (.ref sCHECK_FAILED), .val (.ref a24), .val (.ref t27), .val (.int (1 : Int32)), .val (.int (1 : Int32)), .val (.int (1 : Int32)), .val (.int (1 : Int32)), .unset]) (pc' := 106) ?_
      obtain ⟨T41, X41, e41, st41⟩ := getS2 X40 hx hZ hown (host := "") (Or.inl (hw _ (List.mem_of_getElem? (i := 43) rfl))) Via.refl eh40 (SsYES.ext f35.2) (g := (mkF m 106 #[.val (.int i0), .val (.int ((i0 &&& (2147483647 : Int32)) % (3 : Int32))), .val (.ref sCHECK_FAILED), .val (.ref a24), .val (.ref t27), .val (.int (1 : Int32)), .val (.int (1 : Int32)), .val (.int (1 : Int32)), .val (.int (1 : Int32)), .unset] [])) rfl (hb hby at_106)
      refine oOn st41 ?_
      show oGl p e below (T41.setTop (mkF m 109 #[.val (.int i0), .val (.int ((i0 &&& (2147483647 : Int32)) % (3 : Int32))), .val (.ref sCHECK_FAILED), .val (.ref a24), .val (.ref t27), .val (.int (1 : Int32)), .val (.int (1 : Int32)), .val (.int (1 : Int32)), .val (.int (1 : Int32)), .unset] [(.ref sYES)])) _
      have hz42 : n0 ≤ T33.heap.size := by omega
      obtain ⟨cq42, kq42, q42a, q42b, q42c⟩ := isOf hZ e41 (EsYES.ext f35.2)
      obtain ⟨_, _, ⟨T42, L42, k42, n42⟩, -, X42, ⟨Lc42, hQ42, l42, y42, z42⟩, st42⟩ := X41.virtualBack hx (y := (⟨"com/example/concordat/concordat/core/Vote", "isYes", "()Z"⟩ : MethodName)) (z := (⟨"com/example/concordat/concordat/core/Vote", "isYes", "()Z"⟩ : MethodName)) hown (mvT hZ (hw _ (List.mem_of_getElem? (i := 33) rfl))) (mvT hZ (hw _ (List.mem_of_getElem? (i := 34) rfl))) (notFace_of_selects (args := #[]) (mvT hZ (hw _ (List.mem_of_getElem? (i := 36) rfl)))) (mvT hZ (hw _ (List.mem_of_getElem? (i := 36) rfl))) (mvT hZ (hw _ (List.mem_of_getElem? (i := 35) rfl))) (by decide) (backOf (W := 0) (rmIy1 l Z a0 hw [] sYES T33.heap n0 hz42 (WY.ext f35.2)) hZ (hw _ (List.mem_of_getElem? (i := 37) rfl)) (hw _ (List.mem_of_getElem? (i := 14) rfl)) (by decide) (by decide)) q42a q42c (g := (mkF m 109 #[.val (.int i0), .val (.int ((i0 &&& (2147483647 : Int32)) % (3 : Int32))), .val (.ref sCHECK_FAILED), .val (.ref a24), .val (.ref t27), .val (.int (1 : Int32)), .val (.int (1 : Int32)), .val (.int (1 : Int32)), .val (.int (1 : Int32)), .unset] [(.ref sYES)])) rfl (by rw [hml]; rfl) (Steps.refl _) (argsL := []) (rest := []) (lenOf pd_11 rfl) rfl (by show 2 * 0 + _ ≤ _; exact Nat.le_of_eq rfl) (hb hby at_109) (fun _ _ => ⟨rfl, e41, (by decide : 11 + 0 ≤ _), (by decide : 148 + 0 ≤ _)⟩)
      dsimp only [Pt.U, Pt.locs, Pt.cells, Pt.slots] at X42 l42 y42 z42 st42 hQ42
      subst l42 y42 z42
      obtain ⟨rfl, N42q, eh42⟩ := hQ42
      have N42 := Fr.app N40 N42q
      refine oSt st42 ?_
      show oGl p e below (T42.setTop (mkF m 112 #[.val (.int i0), .val (.int ((i0 &&& (2147483647 : Int32)) % (3 : Int32))), .val (.ref sCHECK_FAILED), .val (.ref a24), .val (.ref t27), .val (.int (1 : Int32)), .val (.int (1 : Int32)), .val (.int (1 : Int32)), .val (.int (1 : Int32)), .unset] [(.int (1 : Int32))])) _
      refine sifN X42 hx (hb hby at_112) rfl (feq (by decide : ¬ ((1 : Int32) = (0 : Int32)))).1 (pc' := 115) ?_
      obtain ⟨T43, X43, e43, st43⟩ := getS2 X42 hx hZ hown (host := "") (Or.inl (hw _ (List.mem_of_getElem? (i := 43) rfl))) Via.refl eh42 (SsYES.ext f35.2) (g := (mkF m 115 #[.val (.int i0), .val (.int ((i0 &&& (2147483647 : Int32)) % (3 : Int32))), .val (.ref sCHECK_FAILED), .val (.ref a24), .val (.ref t27), .val (.int (1 : Int32)), .val (.int (1 : Int32)), .val (.int (1 : Int32)), .val (.int (1 : Int32)), .unset] [])) rfl (hb hby at_115)
      refine oOn st43 ?_
      show oGl p e below (T43.setTop (mkF m 118 #[.val (.int i0), .val (.int ((i0 &&& (2147483647 : Int32)) % (3 : Int32))), .val (.ref sCHECK_FAILED), .val (.ref a24), .val (.ref t27), .val (.int (1 : Int32)), .val (.int (1 : Int32)), .val (.int (1 : Int32)), .val (.int (1 : Int32)), .unset] [(.ref sYES)])) _
      have hz44 : n0 ≤ T33.heap.size := by omega
      obtain ⟨cq44, kq44, q44a, q44b, q44c⟩ := isOf hZ e43 (EsYES.ext f35.2)
      obtain ⟨_, _, ⟨T44, L44, k44, n44⟩, -, X44, ⟨Lc44, hQ44, l44, y44, z44⟩, st44⟩ := X43.virtualBack hx (y := (⟨"com/example/concordat/concordat/core/Vote", "getReason", "()Lcom/example/concordat/concordat/core/AbortReason;"⟩ : MethodName)) (z := (⟨"com/example/concordat/concordat/core/Vote", "getReason", "()Lcom/example/concordat/concordat/core/AbortReason;"⟩ : MethodName)) hown (mvT hZ (hw _ (List.mem_of_getElem? (i := 38) rfl))) (mvT hZ (hw _ (List.mem_of_getElem? (i := 39) rfl))) (notFace_of_selects (args := #[]) (mvT hZ (hw _ (List.mem_of_getElem? (i := 41) rfl)))) (mvT hZ (hw _ (List.mem_of_getElem? (i := 41) rfl))) (mvT hZ (hw _ (List.mem_of_getElem? (i := 40) rfl))) (by decide) (backOf (W := 0) (rmGr1 l Z a0 hw [] sYES T33.heap n0 hz44 (WY.ext f35.2)) hZ (hw _ (List.mem_of_getElem? (i := 42) rfl)) (hw _ (List.mem_of_getElem? (i := 14) rfl)) (by decide) (by decide)) q44a q44c (g := (mkF m 118 #[.val (.int i0), .val (.int ((i0 &&& (2147483647 : Int32)) % (3 : Int32))), .val (.ref sCHECK_FAILED), .val (.ref a24), .val (.ref t27), .val (.int (1 : Int32)), .val (.int (1 : Int32)), .val (.int (1 : Int32)), .val (.int (1 : Int32)), .unset] [(.ref sYES)])) rfl (by rw [hml]; rfl) (Steps.refl _) (argsL := []) (rest := []) (lenOf pd_21 rfl) rfl (by show 2 * 0 + _ ≤ _; exact Nat.le_of_eq rfl) (hb hby at_118) (fun _ _ => ⟨rfl, e43, (by decide : 11 + 0 ≤ _), (by decide : 148 + 0 ≤ _)⟩)
      dsimp only [Pt.U, Pt.locs, Pt.cells, Pt.slots] at X44 l44 y44 z44 st44 hQ44
      subst l44 y44 z44
      obtain ⟨rfl, N44q, eh44⟩ := hQ44
      have N44 := Fr.app N42 N44q
      refine oSt st44 ?_
      show oGl p e below (T44.setTop (mkF m 121 #[.val (.int i0), .val (.int ((i0 &&& (2147483647 : Int32)) % (3 : Int32))), .val (.ref sCHECK_FAILED), .val (.ref a24), .val (.ref t27), .val (.int (1 : Int32)), .val (.int (1 : Int32)), .val (.int (1 : Int32)), .val (.int (1 : Int32)), .unset] [.null])) _
      refine sifnonnullN X44 hx (hb hby at_121) rfl  (pc' := 124) ?_
      refine siconst X44 hx (hb hby at_124) rfl rfl (z := 1) (pc' := 125) ?_
      refine sgoto X44 hx (hb hby at_125) (by decide) (by decide)  (pc' := 129) ?_
      refine sistore X44 hx (hb hby at_129) rfl rfl (l' := #[.val (.int i0), .val (.int ((i0 &&& (2147483647 : Int32)) % (3 : Int32))), .val (.ref sCHECK_FAILED), .val (.ref a24), .val (.ref t27), .val (.int (1 : Int32)), .val (.int (1 : Int32)), .val (.int (1 : Int32)), .val (.int (1 : Int32)), .val (.int (1 : Int32))]) (pc' := 131) ?_
      refine siload X44 hx (hb hby at_131) rfl rfl (pc' := 133) ?_
      refine sifN X44 hx (hb hby at_133) rfl (feq (by decide : ¬ ((1 : Int32) = (0 : Int32)))).1 (pc' := 136) ?_
      refine siload X44 hx (hb hby at_136) rfl rfl (pc' := 138) ?_
      refine sifN X44 hx (hb hby at_138) rfl (feq (by decide : ¬ ((1 : Int32) = (0 : Int32)))).1 (pc' := 141) ?_
      refine siload X44 hx (hb hby at_141) rfl rfl (pc' := 143) ?_
      refine sifN X44 hx (hb hby at_143) rfl (feq (by decide : ¬ ((1 : Int32) = (0 : Int32)))).1 (pc' := 146) ?_
      refine siload X44 hx (hb hby at_146) rfl rfl (pc' := 148) ?_
      refine sifN X44 hx (hb hby at_148) rfl (feq (by decide : ¬ ((1 : Int32) = (0 : Int32)))).1 (pc' := 151) ?_
      refine siload X44 hx (hb hby at_151) rfl rfl (pc' := 153) ?_
      refine sifN X44 hx (hb hby at_153) rfl (feq (by decide : ¬ ((1 : Int32) = (0 : Int32)))).1 (pc' := 156) ?_
      refine siconst X44 hx (hb hby at_156) rfl rfl (z := 1) (pc' := 157) ?_
      refine sgoto X44 hx (hb hby at_157) (by decide) (by decide)  (pc' := 161) ?_
      refine oRetNV (t := .boolean) X44 hS (by rw [eh44]; omega) hx Bd.notSynchronized Bd.returns (by simp) (hb hby at_161) (by decide) (by decide) ?_
      show Q_rmL Z i0 sCONFLICT sYES sUNAVAILABLE sCHECK_FAILED wCONFLICT bCONFLICT wCHECK_FAILED bCHECK_FAILED wUNAVAILABLE bUNAVAILABLE cz h0 n0 _ T44.heap _ _
      rw [eh44]
      exact ⟨rfl, N44⟩
    · skip
      refine sicY X0 hx (hb hby at_23) (by decide) (by decide) (feq hc23).2 (pc' := 36) ?_
      obtain ⟨T45, X45, e45, st45⟩ := getS2 X0 hx hZ hown (host := "") (Or.inl (hw _ (List.mem_of_getElem? (i := 183) rfl))) Via.refl e0 (SsUNAVAILABLE.ext O0.2) (g := (mkF m 36 #[.val (.int i0), .val (.int ((i0 &&& (2147483647 : Int32)) % (3 : Int32))), .unset, .unset, .unset, .unset, .unset, .unset, .unset, .unset] [])) rfl (hb hby at_36)
      refine oOn st45 ?_
      show oGl p e below (T45.setTop (mkF m 39 #[.val (.int i0), .val (.int ((i0 &&& (2147483647 : Int32)) % (3 : Int32))), .unset, .unset, .unset, .unset, .unset, .unset, .unset, .unset] [(.ref sUNAVAILABLE)])) _
      refine sastoreN X45 hx (hb hby at_39) rfl rfl rfl (l' := #[.val (.int i0), .val (.int ((i0 &&& (2147483647 : Int32)) % (3 : Int32))), .val (.ref sUNAVAILABLE), .unset, .unset, .unset, .unset, .unset, .unset, .unset]) (pc' := 40) ?_
      obtain ⟨a46, T46, h46, k46, b46, kk46, X46, e46, E46, hS, hk, hZ, hown, ga46, gb46, gc46, gd46, -, -, Ib46, st46⟩ := ldcSV X45 hx hZ hown (hw _ (List.mem_of_getElem? (i := 185) rfl)) (own_sa hw) e45 hS (by omega) (Fr.nil _) (fun b cl hcl => by rw [hh]; exact O0.2.2 b cl hcl) hJ (by decide) kh24 hcw (vs := [(110 : Int32), (111 : Int32), (32 : Int32), (117 : Int32), (110 : Int32), (97 : Int32), (118 : Int32), (97 : Int32), (105 : Int32), (108 : Int32), (97 : Int32), (98 : Int32), (108 : Int32), (101 : Int32)].map Value.int) (z := 14) ⟨by decide, rfl⟩ (by decide) rfl (g := (mkF m 40 #[.val (.int i0), .val (.int ((i0 &&& (2147483647 : Int32)) % (3 : Int32))), .val (.ref sUNAVAILABLE), .unset, .unset, .unset, .unset, .unset, .unset, .unset] [])) rfl (hb hby at_40) (n := 56) (by decide) (by decide) (by decide) (by decide)
      refine oOn st46 ?_
      have z47 : h0.size ≤ h46.size := E46.1
      have ge46 := oAI.ofArvL (l := [(110 : Int32), (111 : Int32), (32 : Int32), (117 : Int32), (110 : Int32), (97 : Int32), (118 : Int32), (97 : Int32), (105 : Int32), (108 : Int32), (97 : Int32), (98 : Int32), (108 : Int32), (101 : Int32)]) gd46 rfl
      have lt46 : @LT.lt Nat _ a46 h46.size := ga46.lt
      have lu46 : @LT.lt Nat _ b46 h46.size := ge46.lt
      show oGl p e below (T46.setTop (mkF m 42 #[.val (.int i0), .val (.int ((i0 &&& (2147483647 : Int32)) % (3 : Int32))), .val (.ref sUNAVAILABLE), .unset, .unset, .unset, .unset, .unset, .unset, .unset] [(.ref a46)])) _
      refine sastoreN X46 hx (hb hby at_42) rfl rfl rfl (l' := #[.val (.int i0), .val (.int ((i0 &&& (2147483647 : Int32)) % (3 : Int32))), .val (.ref sUNAVAILABLE), .val (.ref a46), .unset, .unset, .unset, .unset, .unset, .unset]) (pc' := 43) ?_
      refine saloadN X46 hx (hb hby at_43) rfl rfl rfl (pc' := 44) ?_
      have f48 := (O0.ext E46)
      have hz49 : n0 ≤ h46.size := by omega
      obtain ⟨_, _, ⟨T49, L49, k49, n49⟩, -, X49, hS2, hg2, ⟨Lc49, hQ49, l49, y49, z49⟩, st49⟩ := callSS X46 hx (y := (⟨"com/example/concordat/concordat/core/Vote", "no", "(Lcom/example/concordat/concordat/core/AbortReason;)Lcom/example/concordat/concordat/core/Vote;"⟩ : MethodName)) hown (mvT hZ (hw _ (List.mem_of_getElem? (i := 12) rfl))) (mvT hZ (hw _ (List.mem_of_getElem? (i := 13) rfl))) (mvT hZ (hw _ (List.mem_of_getElem? (i := 14) rfl))) (mvT hZ (hw _ (List.mem_of_getElem? (i := 15) rfl))) (by decide) (backOfV (J := fun vm => IB Z vm ("no unavailable" :: [])) (W := 0) (rmNo l Z a0 hw [] sUNAVAILABLE ("no unavailable" :: []) h46 n0 hz49 f48 (EsUNAVAILABLE.ext f48.2) (by decide) kh13 hcw) hZ (hw _ (List.mem_of_getElem? (i := 15) rfl)) (hw _ (List.mem_of_getElem? (i := 14) rfl)) (by decide) (by decide)) (g := (mkF m 44 #[.val (.int i0), .val (.int ((i0 &&& (2147483647 : Int32)) % (3 : Int32))), .val (.ref sUNAVAILABLE), .val (.ref a46), .unset, .unset, .unset, .unset, .unset, .unset] [(.ref sUNAVAILABLE)])) rfl (by rw [hml]; rfl) (argsL := [(.ref sUNAVAILABLE)]) (rest := []) (lenOf pd_20 rfl) rfl (by show 2 * 0 + _ ≤ _; exact Nat.le_of_eq rfl) (hb hby at_44) (fun _ hWw => ⟨rfl, e46, (by decide : 2 + 3 ≤ _), (by decide : 60 + 29 ≤ _), IBwarm Ib46 hWw⟩)
      dsimp only [Pt.U, Pt.locs, Pt.cells, Pt.slots] at X49 l49 y49 z49 st49 hQ49 hS2 hg2
      subst l49 y49 z49
      obtain ⟨X49, hS, hZ, hown⟩ := rebS hS (n1 := T46.heap.size) (by rw [e46]; omega) X49 hS2 hg2 hZ hown
      have hk : T49.heap.size ≤ T49.heap.size := Nat.le_refl _
      obtain ⟨t49, rfl, N49q, K49, zt49, Oo49, Et49, Ft49, Ib49⟩ := hQ49
      have N49 := Fr.app N0 N49q
      have z50 : h46.size ≤ T49.heap.size := K49.1
      refine oSt st49 ?_
      show oGl p e below (T49.setTop (mkF m 47 #[.val (.int i0), .val (.int ((i0 &&& (2147483647 : Int32)) % (3 : Int32))), .val (.ref sUNAVAILABLE), .val (.ref a46), .unset, .unset, .unset, .unset, .unset, .unset] [(.ref t49)])) _
      refine sastore X49 hx (hb hby at_47) rfl rfl rfl (l' := #[.val (.int i0), .val (.int ((i0 &&& (2147483647 : Int32)) % (3 : Int32))), .val (.ref sUNAVAILABLE), .val (.ref a46), .val (.ref t49), .unset, .unset, .unset, .unset, .unset]) (pc' := 49) ?_
      refine saload X49 hx (hb hby at_49) rfl rfl rfl (pc' := 51) ?_
      have hz51 : n0 ≤ T49.heap.size := by omega
      obtain ⟨cq51, kq51, q51a, q51b, q51c⟩ := isOf hZ rfl Et49
      obtain ⟨_, _, ⟨T51, L51, k51, n51⟩, -, X51, ⟨Lc51, hQ51, l51, y51, z51⟩, st51⟩ := X49.virtualBack hx (y := (⟨"com/example/concordat/concordat/core/Vote", "isYes", "()Z"⟩ : MethodName)) (z := (⟨"com/example/concordat/concordat/core/Vote", "isYes", "()Z"⟩ : MethodName)) hown (mvT hZ (hw _ (List.mem_of_getElem? (i := 33) rfl))) (mvT hZ (hw _ (List.mem_of_getElem? (i := 34) rfl))) (notFace_of_selects (args := #[]) (mvT hZ (hw _ (List.mem_of_getElem? (i := 36) rfl)))) (mvT hZ (hw _ (List.mem_of_getElem? (i := 36) rfl))) (mvT hZ (hw _ (List.mem_of_getElem? (i := 35) rfl))) (by decide) (backOf (W := 0) (rmIy0 l Z a0 hw [] t49 sUNAVAILABLE T49.heap n0 hz51 Ft49) hZ (hw _ (List.mem_of_getElem? (i := 37) rfl)) (hw _ (List.mem_of_getElem? (i := 14) rfl)) (by decide) (by decide)) q51a q51c (g := (mkF m 51 #[.val (.int i0), .val (.int ((i0 &&& (2147483647 : Int32)) % (3 : Int32))), .val (.ref sUNAVAILABLE), .val (.ref a46), .val (.ref t49), .unset, .unset, .unset, .unset, .unset] [(.ref t49)])) rfl (by rw [hml]; rfl) (Steps.refl _) (argsL := []) (rest := []) (lenOf pd_11 rfl) rfl (by show 2 * 0 + _ ≤ _; exact Nat.le_of_eq rfl) (hb hby at_51) (fun _ _ => ⟨rfl, rfl, (by decide : 5 + 0 ≤ _), (by decide : 89 + 0 ≤ _)⟩)
      dsimp only [Pt.U, Pt.locs, Pt.cells, Pt.slots] at X51 l51 y51 z51 st51 hQ51
      subst l51 y51 z51
      obtain ⟨rfl, N51q, eh51⟩ := hQ51
      have N51 := Fr.app N49 N51q
      refine oSt st51 ?_
      show oGl p e below (T51.setTop (mkF m 54 #[.val (.int i0), .val (.int ((i0 &&& (2147483647 : Int32)) % (3 : Int32))), .val (.ref sUNAVAILABLE), .val (.ref a46), .val (.ref t49), .unset, .unset, .unset, .unset, .unset] [(.int (0 : Int32))])) _
      refine sifN X51 hx (hb hby at_54) rfl (teq (by decide : (0 : Int32) = (0 : Int32))).2 (pc' := 57) ?_
      refine siconst X51 hx (hb hby at_57) rfl rfl (z := 1) (pc' := 58) ?_
      refine sgoto X51 hx (hb hby at_58) (by decide) (by decide)  (pc' := 62) ?_
      refine sistore X51 hx (hb hby at_62) rfl rfl (l' := #[.val (.int i0), .val (.int ((i0 &&& (2147483647 : Int32)) % (3 : Int32))), .val (.ref sUNAVAILABLE), .val (.ref a46), .val (.ref t49), .val (.int (1 : Int32)), .unset, .unset, .unset, .unset]) (pc' := 64) ?_
      refine saload X51 hx (hb hby at_64) rfl rfl rfl (pc' := 66) ?_
      have hz52 : n0 ≤ T49.heap.size := by omega
      obtain ⟨cq52, kq52, q52a, q52b, q52c⟩ := isOf hZ eh51 Et49
      obtain ⟨_, _, ⟨T52, L52, k52, n52⟩, -, X52, ⟨Lc52, hQ52, l52, y52, z52⟩, st52⟩ := X51.virtualBack hx (y := (⟨"com/example/concordat/concordat/core/Vote", "getReason", "()Lcom/example/concordat/concordat/core/AbortReason;"⟩ : MethodName)) (z := (⟨"com/example/concordat/concordat/core/Vote", "getReason", "()Lcom/example/concordat/concordat/core/AbortReason;"⟩ : MethodName)) hown (mvT hZ (hw _ (List.mem_of_getElem? (i := 38) rfl))) (mvT hZ (hw _ (List.mem_of_getElem? (i := 39) rfl))) (notFace_of_selects (args := #[]) (mvT hZ (hw _ (List.mem_of_getElem? (i := 41) rfl)))) (mvT hZ (hw _ (List.mem_of_getElem? (i := 41) rfl))) (mvT hZ (hw _ (List.mem_of_getElem? (i := 40) rfl))) (by decide) (backOf (W := 0) (rmGr0 l Z a0 hw [] t49 sUNAVAILABLE T49.heap n0 hz52 Ft49) hZ (hw _ (List.mem_of_getElem? (i := 42) rfl)) (hw _ (List.mem_of_getElem? (i := 14) rfl)) (by decide) (by decide)) q52a q52c (g := (mkF m 66 #[.val (.int i0), .val (.int ((i0 &&& (2147483647 : Int32)) % (3 : Int32))), .val (.ref sUNAVAILABLE), .val (.ref a46), .val (.ref t49), .val (.int (1 : Int32)), .unset, .unset, .unset, .unset] [(.ref t49)])) rfl (by rw [hml]; rfl) (Steps.refl _) (argsL := []) (rest := []) (lenOf pd_21 rfl) rfl (by show 2 * 0 + _ ≤ _; exact Nat.le_of_eq rfl) (hb hby at_66) (fun _ _ => ⟨rfl, eh51, (by decide : 5 + 0 ≤ _), (by decide : 89 + 0 ≤ _)⟩)
      dsimp only [Pt.U, Pt.locs, Pt.cells, Pt.slots] at X52 l52 y52 z52 st52 hQ52
      subst l52 y52 z52
      obtain ⟨rfl, N52q, eh52⟩ := hQ52
      have N52 := Fr.app N51 N52q
      refine oSt st52 ?_
      show oGl p e below (T52.setTop (mkF m 69 #[.val (.int i0), .val (.int ((i0 &&& (2147483647 : Int32)) % (3 : Int32))), .val (.ref sUNAVAILABLE), .val (.ref a46), .val (.ref t49), .val (.int (1 : Int32)), .unset, .unset, .unset, .unset] [(.ref sUNAVAILABLE)])) _
      refine saloadN X52 hx (hb hby at_69) rfl rfl rfl (pc' := 70) ?_
      refine oOn (fun _ kK => Jvm.RoadKit.acmp (g := (mkF m 70 #[.val (.int i0), .val (.int ((i0 &&& (2147483647 : Int32)) % (3 : Int32))), .val (.ref sUNAVAILABLE), .val (.ref a46), .val (.ref t49), .val (.int (1 : Int32)), .unset, .unset, .unset, .unset] [(.ref sUNAVAILABLE), (.ref sUNAVAILABLE)])) X52 hx rfl rfl rfl (pc0 := 70) (pc' := 73) (same := true) rfl (hb hby at_70) rfl (decide_eq_true rfl) (by decide) (by decide) kK) ?_
      show oGl p e below (T52.setTop (mkF m 73 #[.val (.int i0), .val (.int ((i0 &&& (2147483647 : Int32)) % (3 : Int32))), .val (.ref sUNAVAILABLE), .val (.ref a46), .val (.ref t49), .val (.int (1 : Int32)), .unset, .unset, .unset, .unset] [])) _
      refine siconst X52 hx (hb hby at_73) rfl rfl (z := 1) (pc' := 74) ?_
      refine sgoto X52 hx (hb hby at_74) (by decide) (by decide)  (pc' := 78) ?_
      refine sistore X52 hx (hb hby at_78) rfl rfl (l' := #[.val (.int i0), .val (.int ((i0 &&& (2147483647 : Int32)) % (3 : Int32))), .val (.ref sUNAVAILABLE), .val (.ref a46), .val (.ref t49), .val (.int (1 : Int32)), .val (.int (1 : Int32)), .unset, .unset, .unset]) (pc' := 80) ?_
      refine saload X52 hx (hb hby at_80) rfl rfl rfl (pc' := 82) ?_
      obtain ⟨T53, X53, e53, st53⟩ := getS2 X52 hx hZ hown (host := "") (Or.inl (hw _ (List.mem_of_getElem? (i := 43) rfl))) Via.refl eh52 (SsYES.ext Oo49.2) (g := (mkF m 82 #[.val (.int i0), .val (.int ((i0 &&& (2147483647 : Int32)) % (3 : Int32))), .val (.ref sUNAVAILABLE), .val (.ref a46), .val (.ref t49), .val (.int (1 : Int32)), .val (.int (1 : Int32)), .unset, .unset, .unset] [(.ref t49)])) rfl (hb hby at_82)
      refine oOn st53 ?_
      show oGl p e below (T53.setTop (mkF m 85 #[.val (.int i0), .val (.int ((i0 &&& (2147483647 : Int32)) % (3 : Int32))), .val (.ref sUNAVAILABLE), .val (.ref a46), .val (.ref t49), .val (.int (1 : Int32)), .val (.int (1 : Int32)), .unset, .unset, .unset] [(.ref sYES), (.ref t49)])) _
      refine oOn (fun _ kK => Jvm.RoadKit.acmp (g := (mkF m 85 #[.val (.int i0), .val (.int ((i0 &&& (2147483647 : Int32)) % (3 : Int32))), .val (.ref sUNAVAILABLE), .val (.ref a46), .val (.ref t49), .val (.int (1 : Int32)), .val (.int (1 : Int32)), .unset, .unset, .unset] [(.ref sYES), (.ref t49)])) X53 hx rfl rfl rfl (pc0 := 85) (pc' := 88) (same := false) rfl (hb hby at_85) rfl (decide_eq_false fun q => (Ft49.ne (WY.ext Oo49.2) nofun) (Value.ref.inj q)) (by decide) (by decide) kK) ?_
      show oGl p e below (T53.setTop (mkF m 88 #[.val (.int i0), .val (.int ((i0 &&& (2147483647 : Int32)) % (3 : Int32))), .val (.ref sUNAVAILABLE), .val (.ref a46), .val (.ref t49), .val (.int (1 : Int32)), .val (.int (1 : Int32)), .unset, .unset, .unset] [])) _
      refine siconst X53 hx (hb hby at_88) rfl rfl (z := 1) (pc' := 89) ?_
      refine sgoto X53 hx (hb hby at_89) (by decide) (by decide)  (pc' := 93) ?_
      refine sistore X53 hx (hb hby at_93) rfl rfl (l' := #[.val (.int i0), .val (.int ((i0 &&& (2147483647 : Int32)) % (3 : Int32))), .val (.ref sUNAVAILABLE), .val (.ref a46), .val (.ref t49), .val (.int (1 : Int32)), .val (.int (1 : Int32)), .val (.int (1 : Int32)), .unset, .unset]) (pc' := 95) ?_
      refine saloadN X53 hx (hb hby at_95) rfl rfl rfl (pc' := 96) ?_
      refine saload X53 hx (hb hby at_96) rfl rfl rfl (pc' := 98) ?_
      have gq54 : n0 ≤ T49.heap.size := by omega
      have hz55 : T49.heap.size ≤ T49.heap.size := by omega
      obtain ⟨cq55, kq55, q55a, q55b, q55c⟩ := isOf hZ e53 Et49
      obtain ⟨_, _, ⟨T55, L55, k55, n55⟩, -, X55, hS2, hg2, ⟨Lc55, hQ55, l55, y55, z55⟩, st55⟩ := X53.virtualBackS hx (y := (⟨"com/example/concordat/concordat/core/Vote", "toString", "()Ljava/lang/String;"⟩ : MethodName)) (z := (⟨"com/example/concordat/concordat/core/Vote", "toString", "()Ljava/lang/String;"⟩ : MethodName)) hown (mvT hZ (hw _ (List.mem_of_getElem? (i := 45) rfl))) (mvT hZ (hw _ (List.mem_of_getElem? (i := 46) rfl))) (notFace_of_selects (args := #[]) (mvT hZ (hw _ (List.mem_of_getElem? (i := 48) rfl)))) (mvT hZ (hw _ (List.mem_of_getElem? (i := 48) rfl))) (mvT hZ (hw _ (List.mem_of_getElem? (i := 47) rfl))) (by decide) (backOfV (J := fun vm => IB Z vm ("reason" :: ("no unavailable" :: []))) (W := 1) (rmVts11 l Z a0 hw [] t49 sUNAVAILABLE wUNAVAILABLE bUNAVAILABLE (oLst [(117 : Int32), (110 : Int32), (97 : Int32), (118 : Int32), (97 : Int32), (105 : Int32), (108 : Int32), (97 : Int32), (98 : Int32), (108 : Int32), (101 : Int32)]) cz ("reason" :: ("no unavailable" :: [])) T49.heap T49.heap.size hz55 (Oo49.up (by omega)) SCS hcz rfl Et49 Ft49 (EsUNAVAILABLE.ext Oo49.2) (WaUNAVAILABLE.ext Oo49.2) (WbUNAVAILABLE.ext Oo49.2) (WcUNAVAILABLE.ext Oo49.2) (WdUNAVAILABLE.ext Oo49.2) (WeUNAVAILABLE.ext Oo49.2) (by unfold oFit; decide) (by decide) kh30 hcw) hZ (hw _ (List.mem_of_getElem? (i := 49) rfl)) (hw _ (List.mem_of_getElem? (i := 14) rfl)) (by decide) (by decide)) q55a q55c (g := (mkF m 98 #[.val (.int i0), .val (.int ((i0 &&& (2147483647 : Int32)) % (3 : Int32))), .val (.ref sUNAVAILABLE), .val (.ref a46), .val (.ref t49), .val (.int (1 : Int32)), .val (.int (1 : Int32)), .val (.int (1 : Int32)), .unset, .unset] [(.ref t49), (.ref a46)])) rfl (by rw [hml]; rfl) (Steps.refl _) (argsL := []) (rest := [(.ref a46)]) (lenOf pd_19 rfl) rfl (by show 2 * 0 + _ ≤ _; exact Nat.le_of_eq rfl) (hb hby at_98) (fun _ hWw => ⟨rfl, e53, (by decide : 5 + 6 ≤ _), (by decide : 89 + 54 ≤ _), IBwarm Ib49 hWw⟩)
      dsimp only [Pt.U, Pt.locs, Pt.cells, Pt.slots] at X55 l55 y55 z55 st55 hQ55 hS2 hg2
      subst l55 y55 z55
      obtain ⟨X55, hS, hZ, hown⟩ := rebS hS (n1 := T53.heap.size) (by rw [e53]; omega) X55 hS2 hg2 hZ hown
      have hk : T55.heap.size ≤ T55.heap.size := Nat.le_refl _
      obtain ⟨y55, d55, rfl, N55q, K55, Ey55, Fy55, Fz55, Vy55⟩ := hQ55
      have N55q : Fr n0 Lc55 := fun y hy => Nat.le_trans (by omega) (N55q y hy)
      have N55 := Fr.app N52 N55q
      have z56 : T49.heap.size ≤ T55.heap.size := K55.1
      refine oSt st55 ?_
      show oGl p e below (T55.setTop (mkF m 101 #[.val (.int i0), .val (.int ((i0 &&& (2147483647 : Int32)) % (3 : Int32))), .val (.ref sUNAVAILABLE), .val (.ref a46), .val (.ref t49), .val (.int (1 : Int32)), .val (.int (1 : Int32)), .val (.int (1 : Int32)), .unset, .unset] [(.ref y55), (.ref a46)])) _
      have f57 := (Oo49.keep K55 all0)
      have f58 := ((ga46.keep K49).keep K55)
      have f59 := ((gc46.keep K49 nin0).keep K55 nin0)
      have f60 := ((gb46.keep K49 nin0).keep K55 nin0)
      have f61 := ((ge46.keep K49 nin0).keep K55 nin0)
      have hz62 : n0 ≤ T55.heap.size := by omega
      obtain ⟨cq62, kq62, q62a, q62b, q62c⟩ := isOf hZ rfl f58
      obtain ⟨_, _, ⟨T62, L62, k62, n62⟩, -, X62, ⟨Lc62, hQ62, l62, y62, z62⟩, st62⟩ := X55.virtualBack hx (y := (⟨"java/lang/String", "equals", "(Ljava/lang/Object;)Z"⟩ : MethodName)) (z := (⟨"java/lang/String", "equals", "(Ljava/lang/Object;)Z"⟩ : MethodName)) hown (mvT hZ (hw _ (List.mem_of_getElem? (i := 173) rfl))) (mvT hZ (hw _ (List.mem_of_getElem? (i := 174) rfl))) (notFace_of_selects (args := #[]) (mvT hZ (hw _ (List.mem_of_getElem? (i := 176) rfl)))) (mvT hZ (hw _ (List.mem_of_getElem? (i := 176) rfl))) (mvT hZ (hw _ (List.mem_of_getElem? (i := 175) rfl))) (by decide) (backOf (W := 0) (rmSEq l Z a0 hw [] a46 y55 b46 d55 14 14 (oLst [(110 : Int32), (111 : Int32), (32 : Int32), (117 : Int32), (110 : Int32), (97 : Int32), (118 : Int32), (97 : Int32), (105 : Int32), (108 : Int32), (97 : Int32), (98 : Int32), (108 : Int32), (101 : Int32)]) (oCpF 0 14 (fun i => (oCpF 3 11 (fun i => (oLst [(117 : Int32), (110 : Int32), (97 : Int32), (118 : Int32), (97 : Int32), (105 : Int32), (108 : Int32), (97 : Int32), (98 : Int32), (108 : Int32), (101 : Int32)]) (0 + i)) (oCpF 0 3 (fun i => (oLst [(110 : Int32), (111 : Int32), (32 : Int32)]) (0 + i)) (fun _ => 0))) (0 + i)) (fun _ => 0)) cz T55.heap n0 hz62 f57 SCS hcz f58 f59 f60 f61 Ey55 Fy55 Fz55 Vy55) hZ (hw _ (List.mem_of_getElem? (i := 177) rfl)) (hw _ (List.mem_of_getElem? (i := 5) rfl)) (by decide) (by decide)) q62a q62c (g := (mkF m 101 #[.val (.int i0), .val (.int ((i0 &&& (2147483647 : Int32)) % (3 : Int32))), .val (.ref sUNAVAILABLE), .val (.ref a46), .val (.ref t49), .val (.int (1 : Int32)), .val (.int (1 : Int32)), .val (.int (1 : Int32)), .unset, .unset] [(.ref y55), (.ref a46)])) rfl (by rw [hml]; rfl) (Steps.refl _) (argsL := [(.ref y55)]) (rest := []) (lenOf pd_22 rfl) rfl (by show 2 * 0 + _ ≤ _; exact Nat.le_of_eq rfl) (hb hby at_101) (fun _ _ => ⟨rfl, rfl, (by decide : 11 + 0 ≤ _), (by decide : 143 + 0 ≤ _)⟩)
      dsimp only [Pt.U, Pt.locs, Pt.cells, Pt.slots] at X62 l62 y62 z62 st62 hQ62
      subst l62 y62 z62
      obtain ⟨r62, rfl, N62q, eh62, pq62⟩ := hQ62
      have N62 := Fr.app N55 N62q
      refine oSt st62 ?_
      show oGl p e below (T62.setTop (mkF m 104 #[.val (.int i0), .val (.int ((i0 &&& (2147483647 : Int32)) % (3 : Int32))), .val (.ref sUNAVAILABLE), .val (.ref a46), .val (.ref t49), .val (.int (1 : Int32)), .val (.int (1 : Int32)), .val (.int (1 : Int32)), .unset, .unset] [(.int r62)])) _
      obtain rfl : r62 = (1 : Int32) := by
        rcases pq62 with q | q
        · exact q.1
        · exact absurd (by decide) q.2
      show oGl p e below (T62.setTop (mkF m 104 #[.val (.int i0), .val (.int ((i0 &&& (2147483647 : Int32)) % (3 : Int32))), .val (.ref sUNAVAILABLE), .val (.ref a46), .val (.ref t49), .val (.int (1 : Int32)), .val (.int (1 : Int32)), .val (.int (1 : Int32)), .unset, .unset] [(.int (1 : Int32))])) _
      refine sistore X62 hx (hb hby at_104) rfl rfl (l' := #[.val (.int i0), .val (.int ((i0 &&& (2147483647 : Int32)) % (3 : Int32))), .val (.ref sUNAVAILABLE), .val (.ref a46), .val (.ref t49), .val (.int (1 : Int32)), .val (.int (1 : Int32)), .val (.int (1 : Int32)), .val (.int (1 : Int32)), .unset]) (pc' := 106) ?_
      obtain ⟨T63, X63, e63, st63⟩ := getS2 X62 hx hZ hown (host := "") (Or.inl (hw _ (List.mem_of_getElem? (i := 43) rfl))) Via.refl eh62 (SsYES.ext f57.2) (g := (mkF m 106 #[.val (.int i0), .val (.int ((i0 &&& (2147483647 : Int32)) % (3 : Int32))), .val (.ref sUNAVAILABLE), .val (.ref a46), .val (.ref t49), .val (.int (1 : Int32)), .val (.int (1 : Int32)), .val (.int (1 : Int32)), .val (.int (1 : Int32)), .unset] [])) rfl (hb hby at_106)
      refine oOn st63 ?_
      show oGl p e below (T63.setTop (mkF m 109 #[.val (.int i0), .val (.int ((i0 &&& (2147483647 : Int32)) % (3 : Int32))), .val (.ref sUNAVAILABLE), .val (.ref a46), .val (.ref t49), .val (.int (1 : Int32)), .val (.int (1 : Int32)), .val (.int (1 : Int32)), .val (.int (1 : Int32)), .unset] [(.ref sYES)])) _
      have hz64 : n0 ≤ T55.heap.size := by omega
      obtain ⟨cq64, kq64, q64a, q64b, q64c⟩ := isOf hZ e63 (EsYES.ext f57.2)
      obtain ⟨_, _, ⟨T64, L64, k64, n64⟩, -, X64, ⟨Lc64, hQ64, l64, y64, z64⟩, st64⟩ := X63.virtualBack hx (y := (⟨"com/example/concordat/concordat/core/Vote", "isYes", "()Z"⟩ : MethodName)) (z := (⟨"com/example/concordat/concordat/core/Vote", "isYes", "()Z"⟩ : MethodName)) hown (mvT hZ (hw _ (List.mem_of_getElem? (i := 33) rfl))) (mvT hZ (hw _ (List.mem_of_getElem? (i := 34) rfl))) (notFace_of_selects (args := #[]) (mvT hZ (hw _ (List.mem_of_getElem? (i := 36) rfl)))) (mvT hZ (hw _ (List.mem_of_getElem? (i := 36) rfl))) (mvT hZ (hw _ (List.mem_of_getElem? (i := 35) rfl))) (by decide) (backOf (W := 0) (rmIy1 l Z a0 hw [] sYES T55.heap n0 hz64 (WY.ext f57.2)) hZ (hw _ (List.mem_of_getElem? (i := 37) rfl)) (hw _ (List.mem_of_getElem? (i := 14) rfl)) (by decide) (by decide)) q64a q64c (g := (mkF m 109 #[.val (.int i0), .val (.int ((i0 &&& (2147483647 : Int32)) % (3 : Int32))), .val (.ref sUNAVAILABLE), .val (.ref a46), .val (.ref t49), .val (.int (1 : Int32)), .val (.int (1 : Int32)), .val (.int (1 : Int32)), .val (.int (1 : Int32)), .unset] [(.ref sYES)])) rfl (by rw [hml]; rfl) (Steps.refl _) (argsL := []) (rest := []) (lenOf pd_11 rfl) rfl (by show 2 * 0 + _ ≤ _; exact Nat.le_of_eq rfl) (hb hby at_109) (fun _ _ => ⟨rfl, e63, (by decide : 11 + 0 ≤ _), (by decide : 143 + 0 ≤ _)⟩)
      dsimp only [Pt.U, Pt.locs, Pt.cells, Pt.slots] at X64 l64 y64 z64 st64 hQ64
      subst l64 y64 z64
      obtain ⟨rfl, N64q, eh64⟩ := hQ64
      have N64 := Fr.app N62 N64q
      refine oSt st64 ?_
      show oGl p e below (T64.setTop (mkF m 112 #[.val (.int i0), .val (.int ((i0 &&& (2147483647 : Int32)) % (3 : Int32))), .val (.ref sUNAVAILABLE), .val (.ref a46), .val (.ref t49), .val (.int (1 : Int32)), .val (.int (1 : Int32)), .val (.int (1 : Int32)), .val (.int (1 : Int32)), .unset] [(.int (1 : Int32))])) _
      refine sifN X64 hx (hb hby at_112) rfl (feq (by decide : ¬ ((1 : Int32) = (0 : Int32)))).1 (pc' := 115) ?_
      obtain ⟨T65, X65, e65, st65⟩ := getS2 X64 hx hZ hown (host := "") (Or.inl (hw _ (List.mem_of_getElem? (i := 43) rfl))) Via.refl eh64 (SsYES.ext f57.2) (g := (mkF m 115 #[.val (.int i0), .val (.int ((i0 &&& (2147483647 : Int32)) % (3 : Int32))), .val (.ref sUNAVAILABLE), .val (.ref a46), .val (.ref t49), .val (.int (1 : Int32)), .val (.int (1 : Int32)), .val (.int (1 : Int32)), .val (.int (1 : Int32)), .unset] [])) rfl (hb hby at_115)
      refine oOn st65 ?_
      show oGl p e below (T65.setTop (mkF m 118 #[.val (.int i0), .val (.int ((i0 &&& (2147483647 : Int32)) % (3 : Int32))), .val (.ref sUNAVAILABLE), .val (.ref a46), .val (.ref t49), .val (.int (1 : Int32)), .val (.int (1 : Int32)), .val (.int (1 : Int32)), .val (.int (1 : Int32)), .unset] [(.ref sYES)])) _
      have hz66 : n0 ≤ T55.heap.size := by omega
      obtain ⟨cq66, kq66, q66a, q66b, q66c⟩ := isOf hZ e65 (EsYES.ext f57.2)
      obtain ⟨_, _, ⟨T66, L66, k66, n66⟩, -, X66, ⟨Lc66, hQ66, l66, y66, z66⟩, st66⟩ := X65.virtualBack hx (y := (⟨"com/example/concordat/concordat/core/Vote", "getReason", "()Lcom/example/concordat/concordat/core/AbortReason;"⟩ : MethodName)) (z := (⟨"com/example/concordat/concordat/core/Vote", "getReason", "()Lcom/example/concordat/concordat/core/AbortReason;"⟩ : MethodName)) hown (mvT hZ (hw _ (List.mem_of_getElem? (i := 38) rfl))) (mvT hZ (hw _ (List.mem_of_getElem? (i := 39) rfl))) (notFace_of_selects (args := #[]) (mvT hZ (hw _ (List.mem_of_getElem? (i := 41) rfl)))) (mvT hZ (hw _ (List.mem_of_getElem? (i := 41) rfl))) (mvT hZ (hw _ (List.mem_of_getElem? (i := 40) rfl))) (by decide) (backOf (W := 0) (rmGr1 l Z a0 hw [] sYES T55.heap n0 hz66 (WY.ext f57.2)) hZ (hw _ (List.mem_of_getElem? (i := 42) rfl)) (hw _ (List.mem_of_getElem? (i := 14) rfl)) (by decide) (by decide)) q66a q66c (g := (mkF m 118 #[.val (.int i0), .val (.int ((i0 &&& (2147483647 : Int32)) % (3 : Int32))), .val (.ref sUNAVAILABLE), .val (.ref a46), .val (.ref t49), .val (.int (1 : Int32)), .val (.int (1 : Int32)), .val (.int (1 : Int32)), .val (.int (1 : Int32)), .unset] [(.ref sYES)])) rfl (by rw [hml]; rfl) (Steps.refl _) (argsL := []) (rest := []) (lenOf pd_21 rfl) rfl (by show 2 * 0 + _ ≤ _; exact Nat.le_of_eq rfl) (hb hby at_118) (fun _ _ => ⟨rfl, e65, (by decide : 11 + 0 ≤ _), (by decide : 143 + 0 ≤ _)⟩)
      dsimp only [Pt.U, Pt.locs, Pt.cells, Pt.slots] at X66 l66 y66 z66 st66 hQ66
      subst l66 y66 z66
      obtain ⟨rfl, N66q, eh66⟩ := hQ66
      have N66 := Fr.app N64 N66q
      refine oSt st66 ?_
      show oGl p e below (T66.setTop (mkF m 121 #[.val (.int i0), .val (.int ((i0 &&& (2147483647 : Int32)) % (3 : Int32))), .val (.ref sUNAVAILABLE), .val (.ref a46), .val (.ref t49), .val (.int (1 : Int32)), .val (.int (1 : Int32)), .val (.int (1 : Int32)), .val (.int (1 : Int32)), .unset] [.null])) _
      refine sifnonnullN X66 hx (hb hby at_121) rfl  (pc' := 124) ?_
      refine siconst X66 hx (hb hby at_124) rfl rfl (z := 1) (pc' := 125) ?_
      refine sgoto X66 hx (hb hby at_125) (by decide) (by decide)  (pc' := 129) ?_
      refine sistore X66 hx (hb hby at_129) rfl rfl (l' := #[.val (.int i0), .val (.int ((i0 &&& (2147483647 : Int32)) % (3 : Int32))), .val (.ref sUNAVAILABLE), .val (.ref a46), .val (.ref t49), .val (.int (1 : Int32)), .val (.int (1 : Int32)), .val (.int (1 : Int32)), .val (.int (1 : Int32)), .val (.int (1 : Int32))]) (pc' := 131) ?_
      refine siload X66 hx (hb hby at_131) rfl rfl (pc' := 133) ?_
      refine sifN X66 hx (hb hby at_133) rfl (feq (by decide : ¬ ((1 : Int32) = (0 : Int32)))).1 (pc' := 136) ?_
      refine siload X66 hx (hb hby at_136) rfl rfl (pc' := 138) ?_
      refine sifN X66 hx (hb hby at_138) rfl (feq (by decide : ¬ ((1 : Int32) = (0 : Int32)))).1 (pc' := 141) ?_
      refine siload X66 hx (hb hby at_141) rfl rfl (pc' := 143) ?_
      refine sifN X66 hx (hb hby at_143) rfl (feq (by decide : ¬ ((1 : Int32) = (0 : Int32)))).1 (pc' := 146) ?_
      refine siload X66 hx (hb hby at_146) rfl rfl (pc' := 148) ?_
      refine sifN X66 hx (hb hby at_148) rfl (feq (by decide : ¬ ((1 : Int32) = (0 : Int32)))).1 (pc' := 151) ?_
      refine siload X66 hx (hb hby at_151) rfl rfl (pc' := 153) ?_
      refine sifN X66 hx (hb hby at_153) rfl (feq (by decide : ¬ ((1 : Int32) = (0 : Int32)))).1 (pc' := 156) ?_
      refine siconst X66 hx (hb hby at_156) rfl rfl (z := 1) (pc' := 157) ?_
      refine sgoto X66 hx (hb hby at_157) (by decide) (by decide)  (pc' := 161) ?_
      refine oRetNV (t := .boolean) X66 hS (by rw [eh66]; omega) hx Bd.notSynchronized Bd.returns (by simp) (hb hby at_161) (by decide) (by decide) ?_
      show Q_rmL Z i0 sCONFLICT sYES sUNAVAILABLE sCHECK_FAILED wCONFLICT bCONFLICT wCHECK_FAILED bCHECK_FAILED wUNAVAILABLE bUNAVAILABLE cz h0 n0 _ T66.heap _ _
      rw [eh66]
      exact ⟨rfl, N66⟩
set_option maxRecDepth 65536 in
set_option maxHeartbeats 40000000 in
theorem comes_1 {Post : Tables → Env → Array Value → State → Outcome → State → Prop} (hpost : ∀ tb e args s v u, (limb_1_1.after args s (.returned v) u = true ∧ limb_1_2.after args s (.returned v) u = true ∧ True) → ReturnedEndW s (.returned v) u (Jvm.fieldLocs frame_1_writes args s ++ Jvm.arrayLocs frame_1_arrays args s ++ Jvm.staticLocs frame_1_statics s) 32 5312 → Post tb e args s (.returned v) u) :
    ArmFor flags0 classFile x code maxLocals ret World_1 tables_1 room_1 Calls_1 rest_1 Pre_1 Post := by
  intro l hfl _ _ p e ha hc hk s m args below hf hA hF happ hP
  obtain ⟨hcalls, hrest, hpre⟩ := hP
  obtain ⟨-, -, -, hnamed, -, -, -, hat⟩ := (Spec.applies_iff hf).mp happ
  obtain ⟨hg, hn⟩ := oAnd (show (Jvm.Cond.and given_1 narrow_1).before args s = true from hpre)
  obtain ⟨gc, hg0⟩ := oAnd hg
  have ga0 := hg0
  obtain ⟨w0, rfl⟩ : ∃ w0 : Value, args = #[w0] := by
    have hs : args.size = 1 := by simpa [Cond.before, Cond.holds, Cond.value] using gc
    obtain ⟨L⟩ := args
    match L, hs with
    | [w0], _ => exact ⟨w0, rfl⟩
  obtain ⟨i0, rfl⟩ := oArgI ga0 rfl
  have hw := fun d (hd : d ∈ tables_1) => atoms_spec (ws := Jvm.Cond.code x code maxLocals ret :: tables_1) hat d (List.mem_cons_of_mem _ hd)
  have hfit : Fit s := fun {y c} hc i hi => by
    obtain ⟨ha, rfl⟩ := Array.getElem?_eq_some_iff.mp hc
    have q := List.all_eq_true.mp ((Array.all_eq_true_iff_forall_mem.mp hF) _ (Array.getElem_mem ha)) i (List.mem_range.mpr hi)
    simpa [Array.getElem?_eq_getElem hi] using q
  obtain ⟨nr0, hn0⟩ := oAnd hn
  obtain ⟨nr1, hn1⟩ := oAnd hn0
  obtain ⟨nr2, hn2⟩ := oAnd hn1
  obtain ⟨nr3, hn3⟩ := oAnd hn2
  obtain ⟨nr4, hn4⟩ := oAnd hn3
  obtain ⟨nr5, hn5⟩ := oAnd hn4
  obtain ⟨nr6, hn6⟩ := oAnd hn5
  obtain ⟨nr7, hn7⟩ := oAnd hn6
  obtain ⟨nr8, hn8⟩ := oAnd hn7
  obtain ⟨nr9, hn9⟩ := oAnd hn8
  obtain ⟨nr10, hn10⟩ := oAnd hn9
  obtain ⟨nr11, hn11⟩ := oAnd hn10
  obtain ⟨nr12, hn12⟩ := oAnd hn11
  obtain ⟨nr13, hn13⟩ := oAnd hn12
  obtain ⟨nr14, hn14⟩ := oAnd hn13
  obtain ⟨nr15, hn15⟩ := oAnd hn14
  obtain ⟨nr16, hn16⟩ := oAnd hn15
  obtain ⟨nr17, hn17⟩ := oAnd hn16
  obtain ⟨nr18, hn18⟩ := oAnd hn17
  obtain ⟨nr19, hn19⟩ := oAnd hn18
  obtain ⟨nr20, hn20⟩ := oAnd hn19
  obtain ⟨nr21, hn21⟩ := oAnd hn20
  obtain ⟨nr22, hn22⟩ := oAnd hn21
  obtain ⟨nr23, hn23⟩ := oAnd hn22
  obtain ⟨nr24, hn24⟩ := oAnd hn23
  obtain ⟨nr25, hn25⟩ := oAnd hn24
  obtain ⟨nr26, hn26⟩ := oAnd hn25
  obtain ⟨nr27, hn27⟩ := oAnd hn26
  obtain ⟨nr28, hn28⟩ := oAnd hn27
  obtain ⟨nr29, hn29⟩ := oAnd hn28
  obtain ⟨nr30, hn30⟩ := oAnd hn29
  obtain ⟨nr31, hn31⟩ := oAnd hn30
  obtain ⟨nr32, hn32⟩ := oAnd hn31
  obtain ⟨nr33, hn33⟩ := oAnd hn32
  obtain ⟨nr34, hn34⟩ := oAnd hn33
  obtain ⟨nr35, hn35⟩ := oAnd hn34
  obtain ⟨nr36, hn36⟩ := oAnd hn35
  obtain ⟨nr37, hn37⟩ := oAnd hn36
  obtain ⟨nr38, hn38⟩ := oAnd hn37
  obtain ⟨nr39, hn39⟩ := oAnd hn38
  obtain ⟨nr40, hn40⟩ := oAnd hn39
  obtain ⟨nr41, hn41⟩ := oAnd hn40
  obtain ⟨nr42, hn42⟩ := oAnd hn41
  obtain ⟨nr43, hn43⟩ := oAnd hn42
  obtain ⟨nr44, hn44⟩ := oAnd hn43
  obtain ⟨nr45, hn45⟩ := oAnd hn44
  obtain ⟨nr46, hn46⟩ := oAnd hn45
  obtain ⟨nr47, hn47⟩ := oAnd hn46
  obtain ⟨nr48, hn48⟩ := oAnd hn47
  obtain ⟨nr49, hn49⟩ := oAnd hn48
  have nr50 := hn49
  obtain ⟨sCONFLICT, evsCONFLICT, SsCONFLICT, EsCONFLICT⟩ := oStaR nr0 (hw _ (List.mem_of_getElem? (i := 2) rfl)) (hw _ (List.mem_of_getElem? (i := 3) rfl))
  obtain ⟨sYES, evsYES, SsYES, EsYES⟩ := oStaR nr1 (hw _ (List.mem_of_getElem? (i := 14) rfl)) (hw _ (List.mem_of_getElem? (i := 44) rfl))
  obtain ⟨sUNAVAILABLE, evsUNAVAILABLE, SsUNAVAILABLE, EsUNAVAILABLE⟩ := oStaR nr8 (hw _ (List.mem_of_getElem? (i := 2) rfl)) (hw _ (List.mem_of_getElem? (i := 184) rfl))
  obtain ⟨sCHECK_FAILED, evsCHECK_FAILED, SsCHECK_FAILED, EsCHECK_FAILED⟩ := oStaR nr14 (hw _ (List.mem_of_getElem? (i := 2) rfl)) (hw _ (List.mem_of_getElem? (i := 187) rfl))
  obtain ⟨hsets, -⟩ := atoms_of _ (rest_1_c_eq ▸ (show rest_1_c.before _ s = true from hrest))
  obtain ⟨cz, ecz⟩ := is_v (Cond.before_iff.mp (hsets _ (List.mem_of_getElem? (i := 1) rfl)))
  have SCS : Sta s s.heap "java/lang/String" "COMPACT_STRINGS" "Z" (.int cz) := Sta.start ecz (Or.inl (hsets _ (List.mem_of_getElem? (i := 0) rfl)))
  have hcz : ¬ (cz = (0 : Int32)) := gotF (Cond.eq_ints ecz (Term.int_eval (0))) (not_v (Cond.before_iff.mp (hsets _ (List.mem_of_getElem? (i := 2) rfl))))
  obtain ⟨wCONFLICT, evwCONFLICT, WaCONFLICT, WbCONFLICT⟩ := oFldX nr2 evsCONFLICT
  obtain ⟨bCONFLICT, evbCONFLICT, WcCONFLICT, -⟩ := oFldX nr4 evwCONFLICT
  have WdCONFLICT := oFldI nr6 evwCONFLICT
  obtain ⟨clCONFLICT, ArCONFLICT⟩ := Arr.start evbCONFLICT (Cond.before_iff.mp nr3)
  have LnCONFLICT := oLenK (N := 8) evbCONFLICT ArCONFLICT nr5 rfl
  have elCONFLICT0 := oElem evbCONFLICT ArCONFLICT nr20 (by decide)
  have elCONFLICT1 := oElem evbCONFLICT ArCONFLICT nr21 (by decide)
  have elCONFLICT2 := oElem evbCONFLICT ArCONFLICT nr22 (by decide)
  have elCONFLICT3 := oElem evbCONFLICT ArCONFLICT nr23 (by decide)
  have elCONFLICT4 := oElem evbCONFLICT ArCONFLICT nr24 (by decide)
  have elCONFLICT5 := oElem evbCONFLICT ArCONFLICT nr25 (by decide)
  have elCONFLICT6 := oElem evbCONFLICT ArCONFLICT nr26 (by decide)
  have elCONFLICT7 := oElem evbCONFLICT ArCONFLICT nr27 (by decide)
  have WeCONFLICT : oAI s s.heap bCONFLICT .byte 8 (oLst [(99 : Int32), (111 : Int32), (110 : Int32), (102 : Int32), (108 : Int32), (105 : Int32), (99 : Int32), (116 : Int32)]) := ⟨clCONFLICT, ArCONFLICT, LnCONFLICT, by decide, fun j hj => by
    rcases (by omega : j = 0 ∨ j = 1 ∨ j = 2 ∨ j = 3 ∨ j = 4 ∨ j = 5 ∨ j = 6 ∨ j = 7) with rfl | rfl | rfl | rfl | rfl | rfl | rfl | rfl
    · exact elCONFLICT0
    · exact elCONFLICT1
    · exact elCONFLICT2
    · exact elCONFLICT3
    · exact elCONFLICT4
    · exact elCONFLICT5
    · exact elCONFLICT6
    · exact elCONFLICT7⟩
  obtain ⟨wCHECK_FAILED, evwCHECK_FAILED, WaCHECK_FAILED, WbCHECK_FAILED⟩ := oFldX nr15 evsCHECK_FAILED
  obtain ⟨bCHECK_FAILED, evbCHECK_FAILED, WcCHECK_FAILED, -⟩ := oFldX nr17 evwCHECK_FAILED
  have WdCHECK_FAILED := oFldI nr19 evwCHECK_FAILED
  obtain ⟨clCHECK_FAILED, ArCHECK_FAILED⟩ := Arr.start evbCHECK_FAILED (Cond.before_iff.mp nr16)
  have LnCHECK_FAILED := oLenK (N := 12) evbCHECK_FAILED ArCHECK_FAILED nr18 rfl
  have elCHECK_FAILED0 := oElem evbCHECK_FAILED ArCHECK_FAILED nr39 (by decide)
  have elCHECK_FAILED1 := oElem evbCHECK_FAILED ArCHECK_FAILED nr40 (by decide)
  have elCHECK_FAILED2 := oElem evbCHECK_FAILED ArCHECK_FAILED nr41 (by decide)
  have elCHECK_FAILED3 := oElem evbCHECK_FAILED ArCHECK_FAILED nr42 (by decide)
  have elCHECK_FAILED4 := oElem evbCHECK_FAILED ArCHECK_FAILED nr43 (by decide)
  have elCHECK_FAILED5 := oElem evbCHECK_FAILED ArCHECK_FAILED nr44 (by decide)
  have elCHECK_FAILED6 := oElem evbCHECK_FAILED ArCHECK_FAILED nr45 (by decide)
  have elCHECK_FAILED7 := oElem evbCHECK_FAILED ArCHECK_FAILED nr46 (by decide)
  have elCHECK_FAILED8 := oElem evbCHECK_FAILED ArCHECK_FAILED nr47 (by decide)
  have elCHECK_FAILED9 := oElem evbCHECK_FAILED ArCHECK_FAILED nr48 (by decide)
  have elCHECK_FAILED10 := oElem evbCHECK_FAILED ArCHECK_FAILED nr49 (by decide)
  have elCHECK_FAILED11 := oElem evbCHECK_FAILED ArCHECK_FAILED nr50 (by decide)
  have WeCHECK_FAILED : oAI s s.heap bCHECK_FAILED .byte 12 (oLst [(99 : Int32), (104 : Int32), (101 : Int32), (99 : Int32), (107 : Int32), (45 : Int32), (102 : Int32), (97 : Int32), (105 : Int32), (108 : Int32), (101 : Int32), (100 : Int32)]) := ⟨clCHECK_FAILED, ArCHECK_FAILED, LnCHECK_FAILED, by decide, fun j hj => by
    rcases (by omega : j = 0 ∨ j = 1 ∨ j = 2 ∨ j = 3 ∨ j = 4 ∨ j = 5 ∨ j = 6 ∨ j = 7 ∨ j = 8 ∨ j = 9 ∨ j = 10 ∨ j = 11) with rfl | rfl | rfl | rfl | rfl | rfl | rfl | rfl | rfl | rfl | rfl | rfl
    · exact elCHECK_FAILED0
    · exact elCHECK_FAILED1
    · exact elCHECK_FAILED2
    · exact elCHECK_FAILED3
    · exact elCHECK_FAILED4
    · exact elCHECK_FAILED5
    · exact elCHECK_FAILED6
    · exact elCHECK_FAILED7
    · exact elCHECK_FAILED8
    · exact elCHECK_FAILED9
    · exact elCHECK_FAILED10
    · exact elCHECK_FAILED11⟩
  obtain ⟨wUNAVAILABLE, evwUNAVAILABLE, WaUNAVAILABLE, WbUNAVAILABLE⟩ := oFldX nr9 evsUNAVAILABLE
  obtain ⟨bUNAVAILABLE, evbUNAVAILABLE, WcUNAVAILABLE, -⟩ := oFldX nr11 evwUNAVAILABLE
  have WdUNAVAILABLE := oFldI nr13 evwUNAVAILABLE
  obtain ⟨clUNAVAILABLE, ArUNAVAILABLE⟩ := Arr.start evbUNAVAILABLE (Cond.before_iff.mp nr10)
  have LnUNAVAILABLE := oLenK (N := 11) evbUNAVAILABLE ArUNAVAILABLE nr12 rfl
  have elUNAVAILABLE0 := oElem evbUNAVAILABLE ArUNAVAILABLE nr28 (by decide)
  have elUNAVAILABLE1 := oElem evbUNAVAILABLE ArUNAVAILABLE nr29 (by decide)
  have elUNAVAILABLE2 := oElem evbUNAVAILABLE ArUNAVAILABLE nr30 (by decide)
  have elUNAVAILABLE3 := oElem evbUNAVAILABLE ArUNAVAILABLE nr31 (by decide)
  have elUNAVAILABLE4 := oElem evbUNAVAILABLE ArUNAVAILABLE nr32 (by decide)
  have elUNAVAILABLE5 := oElem evbUNAVAILABLE ArUNAVAILABLE nr33 (by decide)
  have elUNAVAILABLE6 := oElem evbUNAVAILABLE ArUNAVAILABLE nr34 (by decide)
  have elUNAVAILABLE7 := oElem evbUNAVAILABLE ArUNAVAILABLE nr35 (by decide)
  have elUNAVAILABLE8 := oElem evbUNAVAILABLE ArUNAVAILABLE nr36 (by decide)
  have elUNAVAILABLE9 := oElem evbUNAVAILABLE ArUNAVAILABLE nr37 (by decide)
  have elUNAVAILABLE10 := oElem evbUNAVAILABLE ArUNAVAILABLE nr38 (by decide)
  have WeUNAVAILABLE : oAI s s.heap bUNAVAILABLE .byte 11 (oLst [(117 : Int32), (110 : Int32), (97 : Int32), (118 : Int32), (97 : Int32), (105 : Int32), (108 : Int32), (97 : Int32), (98 : Int32), (108 : Int32), (101 : Int32)]) := ⟨clUNAVAILABLE, ArUNAVAILABLE, LnUNAVAILABLE, by decide, fun j hj => by
    rcases (by omega : j = 0 ∨ j = 1 ∨ j = 2 ∨ j = 3 ∨ j = 4 ∨ j = 5 ∨ j = 6 ∨ j = 7 ∨ j = 8 ∨ j = 9 ∨ j = 10) with rfl | rfl | rfl | rfl | rfl | rfl | rfl | rfl | rfl | rfl | rfl
    · exact elUNAVAILABLE0
    · exact elUNAVAILABLE1
    · exact elUNAVAILABLE2
    · exact elUNAVAILABLE3
    · exact elUNAVAILABLE4
    · exact elUNAVAILABLE5
    · exact elUNAVAILABLE6
    · exact elUNAVAILABLE7
    · exact elUNAVAILABLE8
    · exact elUNAVAILABLE9
    · exact elUNAVAILABLE10⟩
  have WY := oFldN nr7 evsYES
  have kh14 : Jvm.Lit.constHeld s "com/example/concordat/concordat/core/VoteNoPinLaw" 14 := hcalls.1 ("com/example/concordat/concordat/core/VoteNoPinLaw", 14) (by simp [consts_1])
  have kh19 : Jvm.Lit.constHeld s "com/example/concordat/concordat/core/VoteNoPinLaw" 19 := hcalls.1 ("com/example/concordat/concordat/core/VoteNoPinLaw", 19) (by simp [consts_1])
  have kh24 : Jvm.Lit.constHeld s "com/example/concordat/concordat/core/VoteNoPinLaw" 24 := hcalls.1 ("com/example/concordat/concordat/core/VoteNoPinLaw", 24) (by simp [consts_1])
  have kh13 : Jvm.Lit.constHeld s "com/example/concordat/concordat/core/Vote" 13 := hcalls.1 ("com/example/concordat/concordat/core/Vote", 13) (by simp [consts_1])
  have kh30 : Jvm.Lit.constHeld s "com/example/concordat/concordat/core/Vote" 30 := hcalls.1 ("com/example/concordat/concordat/core/Vote", 30) (by simp [consts_1])
  have hcw := hsets _ (List.mem_of_getElem? (i := 2) rfl)
  obtain ⟨n, o, h1, h2, h3, _, L, rfl, ⟨rfl, N⟩, hq⟩ := rmL l s _ hw tables_1 i0 sCONFLICT sYES sUNAVAILABLE sCHECK_FAILED wCONFLICT bCONFLICT wCHECK_FAILED bCHECK_FAILED wUNAVAILABLE bUNAVAILABLE cz s.heap s.heap.size (Nat.le_refl _) (oOld.start s) SsCONFLICT EsCONFLICT SsYES EsYES SsUNAVAILABLE EsUNAVAILABLE SsCHECK_FAILED EsCHECK_FAILED SCS hcz WaCONFLICT WbCONFLICT WcCONFLICT WdCONFLICT WeCONFLICT WaCHECK_FAILED WbCHECK_FAILED WcCHECK_FAILED WdCHECK_FAILED WeCHECK_FAILED WaUNAVAILABLE WbUNAVAILABLE WcUNAVAILABLE WdUNAVAILABLE WeUNAVAILABLE WY kh14 kh19 kh24 kh13 kh30 hcw rfl p e ha hc hk s m _ below hf ((Spec.applies_iff_loose hf).mp happ).1 ⟨rfl, State.Warmed39.refl s, rfl, IB.start⟩ trivial
  refine ⟨n, _, h1, h2, h3, hpost _ _ _ _ _ _ ⟨Cond.after_iff.mpr rfl, Cond.after_iff.mpr (eq_i res_at (Term.int_eval (1)) rfl), trivial⟩ ⟨hq.1, hq.2.1, hq.2.2.1, (hq.2.2.2.sift fun y hy => Or.inr (N y hy)).mono (by decide) (by decide)⟩⟩
theorem main_1_1 : Claimed_1_1 := comes_1 fun _ _ _ _ _ _ h hF => ⟨h.1, hF⟩
theorem main_1_2 : Claimed_1_2 := comes_1 fun _ _ _ _ _ _ h hF => ⟨h.2.1, hF⟩
end Jvm.Pilot.@@N@@
namespace Jvm.Pilot.@@N@@
open Jvm Jvm.ClassFile Sem Op Lib Jvm.Free Jvm.Stand Jvm.Pilot.@@N@@.Jvm.D
/-! MADE BY PROGRAM (witnessworld.py) out of the Statement's table words and the real class files: 26 classes; the members and pool entries that the words name. The judged class is class 1, her method 1. -/
namespace start1
open Jvm.ClassFile
def u (s : String) : CpInfo := .utf8 (stringToUtf16 s)
/-- a pool by its gaps: so many unusable entries, then the entry; so many at the end -/
def gap : Nat → List CpInfo → List CpInfo
  | 0, r => r
  | n + 1, r => .unusable :: gap n r
def poolList (es : List (Nat × CpInfo)) (last : Nat) : List CpInfo := es.foldr (fun e r => gap e.1 (e.2 :: r)) (gap last [])
def pool (es : List (Nat × CpInfo)) (last : Nat) : Array CpInfo := ⟨poolList es last⟩
def fileOf (pool : Array CpInfo) (this : Nat) (attrs : Array Attribute := #[]) (ms : Array MethodInfo := #[]) (fl : Nat := 33) (sup : Nat := 0) (ifs : Array Nat := #[]) (fds : Array FieldInfo := #[]) : ClassFile where
  minorVersion := 0
  majorVersion := 65
  constantPool := pool
  accessFlags := fl
  thisClass := this
  superClass := sup
  interfaces := ifs
  fields := fds
  methods := ms
  attributes := attrs
def plain (name : String) (sup : Option ClassId) : Class where
  name := name
  kind := .ordinary
  loader := none
  accessFlags := 33
  super := sup
  interfaces := #[]
  cf := none
  fields := #[]
  methods := #[]
  instanceTypes := #[]
  staticTypes := #[]
  resolved := #[]
  callSites := []
  init := .initialized
  statics := none
  mirror := none

def pool0 : Array CpInfo := pool [(5, u "<init>"), (0, u "()V"), (1, .class_ 10), (1, u "java/lang/Object")] 113

def k0c0 : Code := { maxStack := 0, maxLocals := 1, code := object_method_1_code, exceptionTable := #[], attributes := #[] }
def k0m0 : Method := { name := "<init>", desc := "()V", sig := { parameters := [], returnType := none }, accessFlags := 1, code := some k0c0 }
/-- java/lang/Object -/
def k0 : Class := { plain "java/lang/Object" none with
  accessFlags := 33
  interfaces := #[]
  cf := some (fileOf pool0 8 #[] #[{ accessFlags := 1, nameIndex := 5, descriptorIndex := 6, attributes := #[] }] 33 0 #[] #[])
  fields := #[]
  methods := #[k0m0]
  instanceTypes := #[]
  staticTypes := #[]
  resolved := Array.replicate 124 none
  statics := none }

def pool1 : Array CpInfo := pool [(2, .class_ 4), (1, u "java/lang/Object"), (0, u "<init>"), (0, u "()V"), (0, .integer 2147483647), (0, .fieldref 9 10), (0, .class_ 11), (0, .nameAndType 12 13), (0, u "com/example/concordat/concordat/core/AbortReason"), (0, u "CONFLICT"), (0, u "Lcom/example/concordat/concordat/core/AbortReason;"), (0, .string 15), (0, u "no conflict"), (0, .fieldref 9 17), (0, .nameAndType 18 13), (0, u "CHECK_FAILED"), (0, .string 20), (0, u "no check-failed"), (0, .fieldref 9 22), (0, .nameAndType 23 13), (0, u "UNAVAILABLE"), (0, .string 25), (0, u "no unavailable"), (0, .methodref 27 28), (0, .class_ 29), (0, .nameAndType 30 31), (0, u "com/example/concordat/concordat/core/Vote"), (0, u "no"), (0, u "(Lcom/example/concordat/concordat/core/AbortReason;)Lcom/example/concordat/concordat/core/Vote;"), (0, .methodref 27 33), (0, .nameAndType 34 35), (0, u "isYes"), (0, u "()Z"), (0, .methodref 27 37), (0, .nameAndType 38 39), (0, u "getReason"), (0, u "()Lcom/example/concordat/concordat/core/AbortReason;"), (0, .fieldref 27 41), (0, .nameAndType 42 43), (0, u "YES"), (0, u "Lcom/example/concordat/concordat/core/Vote;"), (0, .methodref 27 45), (0, .nameAndType 46 47), (0, u "toString"), (0, u "()Ljava/lang/String;"), (0, .methodref 49 50), (0, .class_ 51), (0, .nameAndType 52 53), (0, u "java/lang/String"), (0, u "equals"), (0, u "(Ljava/lang/Object;)Z"), (0, .class_ 55), (0, u "com/example/concordat/concordat/core/VoteNoPinLaw"), (2, u "law"), (0, u "(I)Z")] 3

def k1m0 : Method := { name := "<init>", desc := "()V", sig := { parameters := [], returnType := none }, accessFlags := 1, code := none }
def k1c1 : Code := { maxStack := 2, maxLocals := 10, code := code, exceptionTable := #[], attributes := #[] }
def k1m1 : Method := { name := "law", desc := "(I)Z", sig := { parameters := [.int], returnType := some .boolean }, accessFlags := 9, code := some k1c1 }
/-- com/example/concordat/concordat/core/VoteNoPinLaw -/
def k1 : Class := { plain "com/example/concordat/concordat/core/VoteNoPinLaw" (some 0) with
  accessFlags := 49
  interfaces := #[]
  cf := some (fileOf pool1 54 #[] #[{ accessFlags := 1, nameIndex := 5, descriptorIndex := 6, attributes := #[] }, { accessFlags := 9, nameIndex := 58, descriptorIndex := 59, attributes := #[] }] 49 2 #[] #[])
  fields := #[]
  methods := #[k1m0, k1m1]
  instanceTypes := #[]
  staticTypes := #[]
  resolved := Array.replicate 63 none
  statics := none }

def pool2 : Array CpInfo := pool [(1, .class_ 2), (0, u "java/lang/constant/Constable"), (0, .class_ 4), (0, u "java/lang/Object")] 6

/-- java/lang/constant/Constable -/
def k2 : Class := { plain "java/lang/constant/Constable" (some 0) with
  accessFlags := 1537
  interfaces := #[]
  cf := some (fileOf pool2 1 #[] #[] 1537 3 #[] #[])
  fields := #[]
  methods := #[]
  instanceTypes := #[]
  staticTypes := #[]
  resolved := Array.replicate 11 none
  statics := none }

def pool3 : Array CpInfo := pool [(1, .class_ 2), (0, u "java/lang/Comparable"), (0, .class_ 4), (0, u "java/lang/Object")] 7

/-- java/lang/Comparable -/
def k3 : Class := { plain "java/lang/Comparable" (some 0) with
  accessFlags := 1537
  interfaces := #[]
  cf := some (fileOf pool3 1 #[] #[] 1537 3 #[] #[])
  fields := #[]
  methods := #[]
  instanceTypes := #[]
  staticTypes := #[]
  resolved := Array.replicate 12 none
  statics := none }

def pool4 : Array CpInfo := pool [(1, .class_ 2), (0, u "java/io/Serializable"), (0, .class_ 4), (0, u "java/lang/Object")] 2

/-- java/io/Serializable -/
def k4 : Class := { plain "java/io/Serializable" (some 0) with
  accessFlags := 1537
  interfaces := #[]
  cf := some (fileOf pool4 1 #[] #[] 1537 3 #[] #[])
  fields := #[]
  methods := #[]
  instanceTypes := #[]
  staticTypes := #[]
  resolved := Array.replicate 7 none
  statics := none }

def pool5 : Array CpInfo := pool [(2, .class_ 4), (1, u "java/lang/Enum"), (0, u "name"), (0, u "Ljava/lang/String;"), (2, u "ordinal"), (0, u "I"), (1, .class_ 14), (1, u "java/lang/Object"), (4, u "hash"), (86, .class_ 108), (1, u "java/lang/Enum$EnumDesc"), (2, .class_ 112), (0, u "java/lang/constant/Constable"), (0, .class_ 114), (0, u "java/lang/Comparable"), (0, .class_ 116), (0, u "java/io/Serializable")] 87

/-- java/lang/Enum -/
def k5 : Class := { plain "java/lang/Enum" (some 0) with
  accessFlags := 1057
  interfaces := #[2, 3, 4]
  cf := some (fileOf pool5 2 #[.nestMembers #[106]] #[] 1057 12 #[111, 113, 115] #[{ accessFlags := 18, nameIndex := 5, descriptorIndex := 6, attributes := #[] }, { accessFlags := 18, nameIndex := 9, descriptorIndex := 10, attributes := #[] }, { accessFlags := 2, nameIndex := 19, descriptorIndex := 10, attributes := #[] }])
  fields := #[{ name := "name", type := (.object "java/lang/String"), accessFlags := 18, slot := 0, constantValue := 0 }, { name := "ordinal", type := .int, accessFlags := 18, slot := 1, constantValue := 0 }, { name := "hash", type := .int, accessFlags := 2, slot := 2, constantValue := 0 }]
  methods := #[]
  instanceTypes := #[(.object "java/lang/String"), .int, .int]
  staticTypes := #[]
  resolved := Array.replicate 204 none
  statics := none }

def pool6 : Array CpInfo := pool [(1, .class_ 2), (0, u "com/example/concordat/concordat/core/AbortReason"), (2, u "CONFLICT"), (0, u "Lcom/example/concordat/concordat/core/AbortReason;"), (2, u "CHECK_FAILED"), (2, u "UNAVAILABLE"), (2, u "$VALUES"), (0, u "[Lcom/example/concordat/concordat/core/AbortReason;"), (6, .class_ 25), (1, u "java/lang/Enum"), (6, .fieldref 1 33), (0, .nameAndType 34 35), (0, u "word"), (0, u "Ljava/lang/String;"), (23, u "getWord"), (0, u "()Ljava/lang/String;")] 5

def k6c0 : Code := { maxStack := 1, maxLocals := 1, code := prog_5_method_4_code, exceptionTable := #[], attributes := #[] }
def k6m0 : Method := { name := "getWord", desc := "()Ljava/lang/String;", sig := { parameters := [], returnType := some (.object "java/lang/String") }, accessFlags := 1, code := some k6c0 }
/-- com/example/concordat/concordat/core/AbortReason -/
def k6 : Class := { plain "com/example/concordat/concordat/core/AbortReason" (some 5) with
  accessFlags := 16433
  interfaces := #[]
  cf := some (fileOf pool6 1 #[] #[{ accessFlags := 1, nameIndex := 59, descriptorIndex := 60, attributes := #[] }] 16433 23 #[] #[{ accessFlags := 16409, nameIndex := 5, descriptorIndex := 6, attributes := #[] }, { accessFlags := 16409, nameIndex := 9, descriptorIndex := 6, attributes := #[] }, { accessFlags := 16409, nameIndex := 12, descriptorIndex := 6, attributes := #[] }, { accessFlags := 18, nameIndex := 34, descriptorIndex := 35, attributes := #[] }, { accessFlags := 4122, nameIndex := 15, descriptorIndex := 16, attributes := #[] }])
  fields := #[{ name := "CONFLICT", type := (.object "com/example/concordat/concordat/core/AbortReason"), accessFlags := 16409, slot := 0, constantValue := 0 }, { name := "CHECK_FAILED", type := (.object "com/example/concordat/concordat/core/AbortReason"), accessFlags := 16409, slot := 1, constantValue := 0 }, { name := "UNAVAILABLE", type := (.object "com/example/concordat/concordat/core/AbortReason"), accessFlags := 16409, slot := 2, constantValue := 0 }, { name := "word", type := (.object "java/lang/String"), accessFlags := 18, slot := 3, constantValue := 0 }, { name := "$VALUES", type := (.array (.object "com/example/concordat/concordat/core/AbortReason")), accessFlags := 4122, slot := 3, constantValue := 0 }]
  methods := #[k6m0]
  instanceTypes := #[(.object "java/lang/String"), .int, .int, (.object "java/lang/String")]
  staticTypes := #[(.object "com/example/concordat/concordat/core/AbortReason"), (.object "com/example/concordat/concordat/core/AbortReason"), (.object "com/example/concordat/concordat/core/AbortReason"), (.array (.object "com/example/concordat/concordat/core/AbortReason"))]
  resolved := Array.replicate 66 none
  statics := some 0 }

def pool7 : Array CpInfo := pool [(2, .class_ 4), (1, u "java/lang/CharSequence"), (42, .class_ 48), (0, u "java/lang/CharSequence$1CodePointIterator"), (10, .class_ 60), (0, u "java/lang/CharSequence$1CharIterator"), (5, .class_ 67), (0, u "java/lang/Object")] 63

/-- java/lang/CharSequence -/
def k7 : Class := { plain "java/lang/CharSequence" (some 0) with
  accessFlags := 1537
  interfaces := #[]
  cf := some (fileOf pool7 2 #[.nestMembers #[47, 59]] #[] 1537 66 #[] #[])
  fields := #[]
  methods := #[]
  instanceTypes := #[]
  staticTypes := #[]
  resolved := Array.replicate 131 none
  statics := none }

def pool8 : Array CpInfo := pool [(1, .class_ 2), (0, u "java/lang/constant/ConstantDesc"), (0, .class_ 4), (0, u "java/lang/Object")] 32

/-- java/lang/constant/ConstantDesc -/
def k8 : Class := { plain "java/lang/constant/ConstantDesc" (some 0) with
  accessFlags := 1537
  interfaces := #[]
  cf := some (fileOf pool8 1 #[] #[] 1537 3 #[] #[])
  fields := #[]
  methods := #[]
  instanceTypes := #[]
  staticTypes := #[]
  resolved := Array.replicate 37 none
  statics := none }

def pool9 : Array CpInfo := pool [(1, .methodref 2 3), (0, .class_ 4), (0, .nameAndType 5 6), (0, u "java/lang/Object"), (0, u "<init>"), (0, u "()V"), (2, .fieldref 10 11), (0, .class_ 12), (0, .nameAndType 13 14), (0, u "java/lang/String"), (0, u "value"), (0, u "[B"), (0, .fieldref 10 16), (0, .nameAndType 17 18), (0, u "coder"), (0, u "B"), (2, u "hash"), (0, u "I"), (2, u "hashIsZero"), (0, u "Z"), (11, .fieldref 10 39), (0, .nameAndType 40 26), (0, u "COMPACT_STRINGS"), (13, .methodref 55 56), (0, .class_ 57), (0, .nameAndType 58 59), (0, u "java/util/Arrays"), (0, u "copyOfRange"), (0, u "([BII)[B"), (47, .class_ 109), (1, u "java/lang/StringLatin1"), (32, u "()Z"), (50, .class_ 195), (1, u "java/lang/System"), (16, .methodref 193 213), (0, .nameAndType 214 215), (0, u "arraycopy"), (0, u "(Ljava/lang/Object;ILjava/lang/Object;II)V"), (118, u "()I"), (0, .methodref 10 336), (0, .nameAndType 17 337), (0, u "()B"), (2, u "()[B"), (148, .methodref 10 490), (0, .nameAndType 5 491), (0, u "(Ljava/lang/AbstractStringBuilder;Ljava/lang/Void;)V"), (1, .nameAndType 494 142), (0, u "isLatin1"), (11, .nameAndType 507 334), (0, u "length"), (24, u "getBytes"), (8, .methodref 107 542), (0, .nameAndType 543 544), (0, u "equals"), (0, u "([B[B)Z"), (4, .methodref 550 506), (0, .class_ 551), (0, u "java/lang/AbstractStringBuilder"), (0, .methodref 550 553), (0, .nameAndType 554 340), (0, u "getValue"), (18, u "(Ljava/lang/Object;)Z"), (1, .class_ 576), (0, u "java/lang/CharSequence"), (22, u "CASE_INSENSITIVE_ORDER"), (0, u "Ljava/util/Comparator;"), (220, u "([BIB)V"), (225, .methodref 550 493), (53, u "serialPersistentFields"), (0, u "[Ljava/io/ObjectStreamField;"), (0, .class_ 1104), (0, u "java/lang/String$CaseInsensitiveComparator"), (1, .class_ 1107), (0, u "java/io/Serializable"), (0, .class_ 1109), (0, u "java/lang/Comparable"), (0, .class_ 1111), (0, u "java/lang/constant/Constable"), (0, .class_ 1113), (0, u "java/lang/constant/ConstantDesc"), (2, u "serialVersionUID"), (0, u "J"), (3, u "REPL"), (0, u "C"), (2, u "LATIN1"), (1, u "UTF16"), (105, u "(Ljava/lang/StringBuilder;)V")] 217

def k9m0 : Method := { name := "<init>", desc := "()V", sig := { parameters := [], returnType := none }, accessFlags := 1, code := none }
def k9c1 : Code := { maxStack := 3, maxLocals := 2, code := jdk_42_method_53_code, exceptionTable := #[], attributes := #[] }
def k9m1 : Method := { name := "<init>", desc := "(Ljava/lang/StringBuilder;)V", sig := { parameters := [(.object "java/lang/StringBuilder")], returnType := none }, accessFlags := 1, code := some k9c1 }
def k9c2 : Code := { maxStack := 2, maxLocals := 1, code := jdk_42_method_54_code, exceptionTable := #[], attributes := #[] }
def k9m2 : Method := { name := "length", desc := "()I", sig := { parameters := [], returnType := some .int }, accessFlags := 1, code := some k9c2 }
def k9c3 : Code := { maxStack := 2, maxLocals := 3, code := jdk_42_method_66_code, exceptionTable := #[], attributes := #[] }
def k9m3 : Method := { name := "equals", desc := "(Ljava/lang/Object;)Z", sig := { parameters := [(.object "java/lang/Object")], returnType := some .boolean }, accessFlags := 1, code := some k9c3 }
def k9c4 : Code := { maxStack := 5, maxLocals := 4, code := jdk_42_method_147_code, exceptionTable := #[], attributes := #[] }
def k9m4 : Method := { name := "getBytes", desc := "([BIB)V", sig := { parameters := [(.array .byte), .int, .byte], returnType := none }, accessFlags := 0, code := some k9c4 }
def k9c5 : Code := { maxStack := 5, maxLocals := 5, code := jdk_42_method_150_code, exceptionTable := #[], attributes := #[] }
def k9m5 : Method := { name := "<init>", desc := "(Ljava/lang/AbstractStringBuilder;Ljava/lang/Void;)V", sig := { parameters := [(.object "java/lang/AbstractStringBuilder"), (.object "java/lang/Void")], returnType := none }, accessFlags := 0, code := some k9c5 }
def k9c6 : Code := { maxStack := 1, maxLocals := 1, code := jdk_42_method_152_code, exceptionTable := #[], attributes := #[] }
def k9m6 : Method := { name := "coder", desc := "()B", sig := { parameters := [], returnType := some .byte }, accessFlags := 0, code := some k9c6 }
/-- java/lang/String -/
def k9 : Class := { plain "java/lang/String" (some 0) with
  accessFlags := 49
  interfaces := #[4, 3, 7, 2, 8]
  cf := some (fileOf pool9 10 #[.nestMembers #[1103]] #[{ accessFlags := 1, nameIndex := 5, descriptorIndex := 6, attributes := #[] }, { accessFlags := 1, nameIndex := 5, descriptorIndex := 1233, attributes := #[] }, { accessFlags := 1, nameIndex := 507, descriptorIndex := 334, attributes := #[] }, { accessFlags := 1, nameIndex := 543, descriptorIndex := 573, attributes := #[] }, { accessFlags := 0, nameIndex := 532, descriptorIndex := 821, attributes := #[] }, { accessFlags := 0, nameIndex := 5, descriptorIndex := 491, attributes := #[] }, { accessFlags := 0, nameIndex := 17, descriptorIndex := 337, attributes := #[] }] 49 2 #[1106, 1108, 575, 1110, 1112] #[{ accessFlags := 18, nameIndex := 13, descriptorIndex := 14, attributes := #[] }, { accessFlags := 18, nameIndex := 17, descriptorIndex := 18, attributes := #[] }, { accessFlags := 2, nameIndex := 21, descriptorIndex := 22, attributes := #[] }, { accessFlags := 2, nameIndex := 25, descriptorIndex := 26, attributes := #[] }, { accessFlags := 26, nameIndex := 1116, descriptorIndex := 1117, attributes := #[] }, { accessFlags := 24, nameIndex := 40, descriptorIndex := 26, attributes := #[] }, { accessFlags := 26, nameIndex := 1101, descriptorIndex := 1102, attributes := #[] }, { accessFlags := 26, nameIndex := 1121, descriptorIndex := 1122, attributes := #[] }, { accessFlags := 25, nameIndex := 599, descriptorIndex := 600, attributes := #[] }, { accessFlags := 24, nameIndex := 1125, descriptorIndex := 18, attributes := #[] }, { accessFlags := 24, nameIndex := 1127, descriptorIndex := 18, attributes := #[] }])
  fields := #[{ name := "value", type := (.array .byte), accessFlags := 18, slot := 0, constantValue := 0 }, { name := "coder", type := .byte, accessFlags := 18, slot := 1, constantValue := 0 }, { name := "hash", type := .int, accessFlags := 2, slot := 2, constantValue := 0 }, { name := "hashIsZero", type := .boolean, accessFlags := 2, slot := 3, constantValue := 0 }, { name := "serialVersionUID", type := .long, accessFlags := 26, slot := 0, constantValue := 0 }, { name := "COMPACT_STRINGS", type := .boolean, accessFlags := 24, slot := 1, constantValue := 0 }, { name := "serialPersistentFields", type := (.array (.object "java/io/ObjectStreamField")), accessFlags := 26, slot := 2, constantValue := 0 }, { name := "REPL", type := .char, accessFlags := 26, slot := 3, constantValue := 0 }, { name := "CASE_INSENSITIVE_ORDER", type := (.object "java/util/Comparator"), accessFlags := 25, slot := 4, constantValue := 0 }, { name := "LATIN1", type := .byte, accessFlags := 24, slot := 5, constantValue := 0 }, { name := "UTF16", type := .byte, accessFlags := 24, slot := 6, constantValue := 0 }]
  methods := #[k9m0, k9m1, k9m2, k9m3, k9m4, k9m5, k9m6]
  instanceTypes := #[(.array .byte), .byte, .int, .boolean]
  staticTypes := #[.long, .boolean, (.array (.object "java/io/ObjectStreamField")), .char, (.object "java/util/Comparator"), .byte, .byte]
  resolved := Array.replicate 1451 none
  statics := some 1 }

def pool10 : Array CpInfo := pool [(1, .methodref 2 3), (0, .class_ 4), (0, .nameAndType 5 6), (0, u "java/lang/Object"), (0, u "<init>"), (0, u "()V"), (0, .fieldref 8 9), (0, .class_ 10), (0, .nameAndType 11 12), (0, u "com/example/concordat/concordat/core/Vote"), (0, u "reason"), (0, u "Lcom/example/concordat/concordat/core/AbortReason;"), (0, .string 11), (0, .methodref 15 16), (0, .class_ 17), (0, .nameAndType 18 19), (0, u "java/util/Objects"), (0, u "requireNonNull"), (0, u "(Ljava/lang/Object;Ljava/lang/String;)Ljava/lang/Object;"), (0, .class_ 21), (0, u "com/example/concordat/concordat/core/AbortReason"), (0, .methodref 8 23), (0, .nameAndType 5 24), (0, u "(Lcom/example/concordat/concordat/core/AbortReason;)V"), (2, .class_ 28), (0, u "java/lang/StringBuilder"), (0, .methodref 27 3), (0, .string 31), (0, u "no "), (0, .methodref 27 33), (0, .nameAndType 34 35), (0, u "append"), (0, u "(Ljava/lang/String;)Ljava/lang/StringBuilder;"), (0, .methodref 20 37), (0, .nameAndType 38 39), (0, u "getWord"), (0, u "()Ljava/lang/String;"), (0, .methodref 27 41), (0, .nameAndType 42 39), (0, u "toString"), (2, u "YES"), (0, u "Lcom/example/concordat/concordat/core/Vote;"), (2, u "no"), (0, u "(Lcom/example/concordat/concordat/core/AbortReason;)Lcom/example/concordat/concordat/core/Vote;"), (0, u "isYes"), (0, u "()Z"), (1, u "getReason"), (0, u "()Lcom/example/concordat/concordat/core/AbortReason;")] 5

def k10c0 : Code := { maxStack := 2, maxLocals := 2, code := prog_36_method_1_code, exceptionTable := #[], attributes := #[] }
def k10m0 : Method := { name := "<init>", desc := "(Lcom/example/concordat/concordat/core/AbortReason;)V", sig := { parameters := [(.object "com/example/concordat/concordat/core/AbortReason")], returnType := none }, accessFlags := 2, code := some k10c0 }
def k10c1 : Code := { maxStack := 4, maxLocals := 1, code := prog_36_method_2_code, exceptionTable := #[], attributes := #[] }
def k10m1 : Method := { name := "no", desc := "(Lcom/example/concordat/concordat/core/AbortReason;)Lcom/example/concordat/concordat/core/Vote;", sig := { parameters := [(.object "com/example/concordat/concordat/core/AbortReason")], returnType := some (.object "com/example/concordat/concordat/core/Vote") }, accessFlags := 9, code := some k10c1 }
def k10c2 : Code := { maxStack := 1, maxLocals := 1, code := prog_36_method_3_code, exceptionTable := #[], attributes := #[] }
def k10m2 : Method := { name := "isYes", desc := "()Z", sig := { parameters := [], returnType := some .boolean }, accessFlags := 1, code := some k10c2 }
def k10c3 : Code := { maxStack := 1, maxLocals := 1, code := prog_36_method_4_code, exceptionTable := #[], attributes := #[] }
def k10m3 : Method := { name := "getReason", desc := "()Lcom/example/concordat/concordat/core/AbortReason;", sig := { parameters := [], returnType := some (.object "com/example/concordat/concordat/core/AbortReason") }, accessFlags := 1, code := some k10c3 }
def k10c4 : Code := { maxStack := 2, maxLocals := 1, code := prog_36_method_5_code, exceptionTable := #[], attributes := #[] }
def k10m4 : Method := { name := "toString", desc := "()Ljava/lang/String;", sig := { parameters := [], returnType := some (.object "java/lang/String") }, accessFlags := 1, code := some k10c4 }
/-- com/example/concordat/concordat/core/Vote -/
def k10 : Class := { plain "com/example/concordat/concordat/core/Vote" (some 0) with
  accessFlags := 49
  interfaces := #[]
  cf := some (fileOf pool10 8 #[] #[{ accessFlags := 2, nameIndex := 5, descriptorIndex := 24, attributes := #[] }, { accessFlags := 9, nameIndex := 49, descriptorIndex := 50, attributes := #[] }, { accessFlags := 1, nameIndex := 51, descriptorIndex := 52, attributes := #[] }, { accessFlags := 1, nameIndex := 54, descriptorIndex := 55, attributes := #[] }, { accessFlags := 1, nameIndex := 42, descriptorIndex := 39, attributes := #[] }] 49 2 #[] #[{ accessFlags := 25, nameIndex := 45, descriptorIndex := 46, attributes := #[] }, { accessFlags := 18, nameIndex := 11, descriptorIndex := 12, attributes := #[] }])
  fields := #[{ name := "YES", type := (.object "com/example/concordat/concordat/core/Vote"), accessFlags := 25, slot := 0, constantValue := 0 }, { name := "reason", type := (.object "com/example/concordat/concordat/core/AbortReason"), accessFlags := 18, slot := 0, constantValue := 0 }]
  methods := #[k10m0, k10m1, k10m2, k10m3, k10m4]
  instanceTypes := #[(.object "com/example/concordat/concordat/core/AbortReason")]
  staticTypes := #[(.object "com/example/concordat/concordat/core/Vote")]
  resolved := Array.replicate 61 none
  statics := some 2 }

def pool11 : Array CpInfo := pool [(2, .class_ 4), (1, u "java/lang/Object"), (0, u "<init>"), (0, u "()V"), (35, .class_ 44), (1, u "java/util/Objects"), (0, u "requireNonNull"), (48, u "(Ljava/lang/Object;Ljava/lang/String;)Ljava/lang/Object;")] 89

def k11m0 : Method := { name := "<init>", desc := "()V", sig := { parameters := [], returnType := none }, accessFlags := 2, code := none }
def k11c1 : Code := { maxStack := 3, maxLocals := 2, code := jdk_31_method_11_code, exceptionTable := #[], attributes := #[] }
def k11m1 : Method := { name := "requireNonNull", desc := "(Ljava/lang/Object;Ljava/lang/String;)Ljava/lang/Object;", sig := { parameters := [(.object "java/lang/Object"), (.object "java/lang/String")], returnType := some (.object "java/lang/Object") }, accessFlags := 9, code := some k11c1 }
/-- java/util/Objects -/
def k11 : Class := { plain "java/util/Objects" (some 0) with
  accessFlags := 49
  interfaces := #[]
  cf := some (fileOf pool11 42 #[] #[{ accessFlags := 2, nameIndex := 5, descriptorIndex := 6, attributes := #[] }, { accessFlags := 9, nameIndex := 45, descriptorIndex := 94, attributes := #[] }] 49 2 #[] #[])
  fields := #[]
  methods := #[k11m0, k11m1]
  instanceTypes := #[]
  staticTypes := #[]
  resolved := Array.replicate 184 none
  statics := none }

def pool12 : Array CpInfo := pool [(1, .class_ 2), (0, u "java/lang/Appendable"), (0, .class_ 4), (0, u "java/lang/Object")] 9

/-- java/lang/Appendable -/
def k12 : Class := { plain "java/lang/Appendable" (some 0) with
  accessFlags := 1537
  interfaces := #[]
  cf := some (fileOf pool12 1 #[] #[] 1537 3 #[] #[])
  fields := #[]
  methods := #[]
  instanceTypes := #[]
  staticTypes := #[]
  resolved := Array.replicate 14 none
  statics := none }

def pool13 : Array CpInfo := pool [(1, .class_ 2), (0, u "java/lang/String"), (0, .methodref 4 5), (0, .class_ 6), (0, .nameAndType 7 8), (0, u "java/lang/Object"), (0, u "<init>"), (0, u "()V"), (1, .class_ 12), (1, u "java/lang/AbstractStringBuilder"), (0, u "EMPTYVALUE"), (0, u "[B"), (0, .fieldref 10 16), (0, .nameAndType 17 14), (0, u "value"), (0, .fieldref 1 19), (0, .nameAndType 20 21), (0, u "COMPACT_STRINGS"), (0, u "Z"), (0, .fieldref 10 23), (0, .nameAndType 24 25), (0, u "coder"), (0, u "B"), (6, .methodref 1 33), (0, .nameAndType 34 35), (0, u "length"), (0, u "()I"), (4, .methodref 1 41), (0, .nameAndType 24 42), (0, u "()B"), (2, u "append"), (0, u "(Ljava/lang/String;)Ljava/lang/AbstractStringBuilder;"), (1, .class_ 49), (0, u "java/lang/CharSequence"), (19, u "(Ljava/lang/String;)V"), (5, u "maybeLatin1"), (3, .fieldref 10 80), (0, .nameAndType 81 82), (0, u "count"), (0, u "I"), (2, u "isLatin1"), (0, u "()Z"), (13, .methodref 10 101), (0, .nameAndType 102 103), (0, u "ensureCapacityInternal"), (0, u "(I)V"), (104, .methodref 10 209), (0, .nameAndType 210 211), (0, u "putStringAt"), (0, u "(ILjava/lang/String;)V"), (5, u "inflateIfNeededFor"), (2, .nameAndType 221 222), (0, u "getBytes"), (0, u "([BIB)V"), (174, .methodref 10 398), (0, .nameAndType 217 69), (0, .methodref 1 220), (3, u "()[B"), (40, .class_ 445), (0, u "java/lang/Appendable"), (106, u "getValue")] 56

def k13m0 : Method := { name := "<init>", desc := "()V", sig := { parameters := [], returnType := none }, accessFlags := 0, code := none }
def k13c1 : Code := { maxStack := 2, maxLocals := 2, code := jdk_68_method_2_code, exceptionTable := #[], attributes := #[] }
def k13m1 : Method := { name := "<init>", desc := "(I)V", sig := { parameters := [.int], returnType := none }, accessFlags := 0, code := some k13c1 }
def k13c2 : Code := { maxStack := 1, maxLocals := 1, code := jdk_68_method_6_code, exceptionTable := #[], attributes := #[] }
def k13m2 : Method := { name := "length", desc := "()I", sig := { parameters := [], returnType := some .int }, accessFlags := 1, code := some k13c2 }
def k13c3 : Code := { maxStack := 4, maxLocals := 3, code := jdk_68_method_9_code, exceptionTable := #[], attributes := #[] }
def k13m3 : Method := { name := "ensureCapacityInternal", desc := "(I)V", sig := { parameters := [.int], returnType := none }, accessFlags := 2, code := some k13c3 }
def k13c4 : Code := { maxStack := 3, maxLocals := 3, code := jdk_68_method_22_code, exceptionTable := #[], attributes := #[] }
def k13m4 : Method := { name := "append", desc := "(Ljava/lang/String;)Ljava/lang/AbstractStringBuilder;", sig := { parameters := [(.object "java/lang/String")], returnType := some (.object "java/lang/AbstractStringBuilder") }, accessFlags := 1, code := some k13c4 }
def k13c5 : Code := { maxStack := 1, maxLocals := 1, code := jdk_68_method_64_code, exceptionTable := #[], attributes := #[] }
def k13m5 : Method := { name := "getValue", desc := "()[B", sig := { parameters := [], returnType := some (.array .byte) }, accessFlags := 16, code := some k13c5 }
def k13c6 : Code := { maxStack := 1, maxLocals := 1, code := jdk_68_method_68_code, exceptionTable := #[], attributes := #[] }
def k13m6 : Method := { name := "isLatin1", desc := "()Z", sig := { parameters := [], returnType := some .boolean }, accessFlags := 16, code := some k13c6 }
def k13c7 : Code := { maxStack := 2, maxLocals := 2, code := jdk_68_method_71_code, exceptionTable := #[], attributes := #[] }
def k13m7 : Method := { name := "inflateIfNeededFor", desc := "(Ljava/lang/String;)V", sig := { parameters := [(.object "java/lang/String")], returnType := none }, accessFlags := 2, code := some k13c7 }
def k13c8 : Code := { maxStack := 4, maxLocals := 3, code := jdk_68_method_73_code, exceptionTable := #[], attributes := #[] }
def k13m8 : Method := { name := "putStringAt", desc := "(ILjava/lang/String;)V", sig := { parameters := [.int, (.object "java/lang/String")], returnType := none }, accessFlags := 2, code := some k13c8 }
/-- java/lang/AbstractStringBuilder -/
def k13 : Class := { plain "java/lang/AbstractStringBuilder" (some 0) with
  accessFlags := 1056
  interfaces := #[12, 7]
  cf := some (fileOf pool13 10 #[] #[{ accessFlags := 0, nameIndex := 7, descriptorIndex := 8, attributes := #[] }, { accessFlags := 0, nameIndex := 7, descriptorIndex := 103, attributes := #[] }, { accessFlags := 1, nameIndex := 34, descriptorIndex := 35, attributes := #[] }, { accessFlags := 2, nameIndex := 102, descriptorIndex := 103, attributes := #[] }, { accessFlags := 1, nameIndex := 45, descriptorIndex := 46, attributes := #[] }, { accessFlags := 16, nameIndex := 552, descriptorIndex := 403, attributes := #[] }, { accessFlags := 16, nameIndex := 85, descriptorIndex := 86, attributes := #[] }, { accessFlags := 2, nameIndex := 217, descriptorIndex := 69, attributes := #[] }, { accessFlags := 2, nameIndex := 210, descriptorIndex := 211, attributes := #[] }] 1056 4 #[444, 48] #[{ accessFlags := 0, nameIndex := 17, descriptorIndex := 14, attributes := #[] }, { accessFlags := 0, nameIndex := 24, descriptorIndex := 25, attributes := #[] }, { accessFlags := 0, nameIndex := 75, descriptorIndex := 21, attributes := #[] }, { accessFlags := 0, nameIndex := 81, descriptorIndex := 82, attributes := #[] }, { accessFlags := 26, nameIndex := 13, descriptorIndex := 14, attributes := #[] }])
  fields := #[{ name := "value", type := (.array .byte), accessFlags := 0, slot := 0, constantValue := 0 }, { name := "coder", type := .byte, accessFlags := 0, slot := 1, constantValue := 0 }, { name := "maybeLatin1", type := .boolean, accessFlags := 0, slot := 2, constantValue := 0 }, { name := "count", type := .int, accessFlags := 0, slot := 3, constantValue := 0 }, { name := "EMPTYVALUE", type := (.array .byte), accessFlags := 26, slot := 0, constantValue := 0 }]
  methods := #[k13m0, k13m1, k13m2, k13m3, k13m4, k13m5, k13m6, k13m7, k13m8]
  instanceTypes := #[(.array .byte), .byte, .boolean, .int]
  staticTypes := #[(.array .byte)]
  resolved := Array.replicate 609 none
  statics := none }

def pool14 : Array CpInfo := pool [(1, .methodref 2 3), (0, .class_ 4), (0, .nameAndType 5 6), (0, u "java/lang/AbstractStringBuilder"), (0, u "<init>"), (0, u "(I)V"), (11, .class_ 20), (1, u "java/lang/String"), (3, .class_ 26), (1, u "java/lang/StringBuilder"), (0, u "append"), (0, u "(Ljava/lang/String;)Ljava/lang/StringBuilder;"), (0, .methodref 2 30), (0, .nameAndType 27 31), (0, u "(Ljava/lang/String;)Ljava/lang/AbstractStringBuilder;"), (105, .methodref 18 138), (0, .nameAndType 5 139), (0, u "(Ljava/lang/StringBuilder;)V"), (5, u "()V"), (10, u "()I"), (186, .methodref 2 344), (0, .nameAndType 345 156), (0, u "length"), (3, .class_ 350), (0, u "java/lang/Appendable"), (0, .class_ 352), (0, u "java/io/Serializable"), (0, .class_ 354), (0, u "java/lang/Comparable"), (0, .class_ 356), (0, u "java/lang/CharSequence"), (0, u "serialVersionUID"), (0, u "J"), (40, u "toString"), (0, u "()Ljava/lang/String;")] 21

def k14c0 : Code := { maxStack := 2, maxLocals := 1, code := jdk_67_method_1_code, exceptionTable := #[], attributes := #[] }
def k14m0 : Method := { name := "<init>", desc := "()V", sig := { parameters := [], returnType := none }, accessFlags := 1, code := some k14c0 }
def k14c1 : Code := { maxStack := 2, maxLocals := 2, code := jdk_67_method_7_code, exceptionTable := #[], attributes := #[] }
def k14m1 : Method := { name := "append", desc := "(Ljava/lang/String;)Ljava/lang/StringBuilder;", sig := { parameters := [(.object "java/lang/String")], returnType := some (.object "java/lang/StringBuilder") }, accessFlags := 1, code := some k14c1 }
def k14c2 : Code := { maxStack := 3, maxLocals := 1, code := jdk_67_method_42_code, exceptionTable := #[], attributes := #[] }
def k14m2 : Method := { name := "toString", desc := "()Ljava/lang/String;", sig := { parameters := [], returnType := some (.object "java/lang/String") }, accessFlags := 1, code := some k14c2 }
def k14c3 : Code := { maxStack := 1, maxLocals := 1, code := jdk_67_method_93_code, exceptionTable := #[], attributes := #[] }
def k14m3 : Method := { name := "length", desc := "()I", sig := { parameters := [], returnType := some .int }, accessFlags := 4161, code := some k14c3 }
/-- java/lang/StringBuilder -/
def k14 : Class := { plain "java/lang/StringBuilder" (some 13) with
  accessFlags := 49
  interfaces := #[12, 4, 3, 7]
  cf := some (fileOf pool14 24 #[] #[{ accessFlags := 1, nameIndex := 5, descriptorIndex := 145, attributes := #[] }, { accessFlags := 1, nameIndex := 27, descriptorIndex := 28, attributes := #[] }, { accessFlags := 1, nameIndex := 399, descriptorIndex := 400, attributes := #[] }, { accessFlags := 4161, nameIndex := 345, descriptorIndex := 156, attributes := #[] }] 49 2 #[349, 351, 353, 355] #[{ accessFlags := 24, nameIndex := 357, descriptorIndex := 358, attributes := #[] }])
  fields := #[{ name := "serialVersionUID", type := .long, accessFlags := 24, slot := 0, constantValue := 0 }]
  methods := #[k14m0, k14m1, k14m2, k14m3]
  instanceTypes := #[(.array .byte), .byte, .boolean, .int]
  staticTypes := #[.long]
  resolved := Array.replicate 422 none
  statics := none }

def pool15 : Array CpInfo := pool [(2, .class_ 4), (1, u "java/lang/Object"), (0, u "<init>"), (0, u "()V"), (1, .class_ 10), (1, u "java/lang/System"), (0, u "allowSecurityManager"), (0, u "I"), (16, u "cons"), (0, u "Ljava/io/Console;"), (77, .class_ 110), (1, u "java/lang/System$CallersHolder"), (43, u "initialErrStream"), (0, u "Ljava/io/PrintStream;"), (19, u "security"), (0, u "Ljava/lang/SecurityManager;"), (31, .class_ 209), (0, u "java/lang/System$1"), (7, u "props"), (0, u "Ljava/util/Properties;"), (2, u "lineSeparator"), (0, u "Ljava/lang/String;"), (96, .class_ 321), (1, u "java/lang/System$LoggerFinder"), (5, .class_ 328), (0, u "java/lang/System$Logger"), (67, u "err"), (2, u "out"), (91, u "notSupportedJnuEncoding"), (15, u "in"), (17, u "initialIn"), (0, u "Ljava/io/InputStream;"), (35, u "bootLayer"), (0, u "Ljava/lang/ModuleLayer;"), (99, .class_ 664), (0, u "java/lang/System$2"), (9, u "NEVER"), (2, u "MAYBE"), (49, u "arraycopy"), (0, u "(Ljava/lang/Object;ILjava/lang/Object;II)V"), (72, .class_ 802), (0, u "java/lang/System$Logger$Level")] 31

def k15m0 : Method := { name := "<init>", desc := "()V", sig := { parameters := [], returnType := none }, accessFlags := 2, code := none }
def k15m1 : Method := { name := "arraycopy", desc := "(Ljava/lang/Object;ILjava/lang/Object;II)V", sig := { parameters := [(.object "java/lang/Object"), .int, (.object "java/lang/Object"), .int, .int], returnType := none }, accessFlags := 265, code := none }
/-- java/lang/System -/
def k15 : Class := { plain "java/lang/System" (some 0) with
  accessFlags := 49
  interfaces := #[]
  cf := some (fileOf pool15 8 #[.nestMembers #[319, 327, 801, 108, 663, 208]] #[{ accessFlags := 2, nameIndex := 5, descriptorIndex := 6, attributes := #[] }, { accessFlags := 265, nameIndex := 727, descriptorIndex := 728, attributes := #[] }] 49 2 #[] #[{ accessFlags := 25, nameIndex := 507, descriptorIndex := 526, attributes := #[] }, { accessFlags := 25, nameIndex := 399, descriptorIndex := 155, attributes := #[] }, { accessFlags := 25, nameIndex := 396, descriptorIndex := 155, attributes := #[] }, { accessFlags := 10, nameIndex := 525, descriptorIndex := 526, attributes := #[] }, { accessFlags := 26, nameIndex := 674, descriptorIndex := 12, attributes := #[] }, { accessFlags := 26, nameIndex := 677, descriptorIndex := 12, attributes := #[] }, { accessFlags := 10, nameIndex := 11, descriptorIndex := 12, attributes := #[] }, { accessFlags := 74, nameIndex := 175, descriptorIndex := 176, attributes := #[] }, { accessFlags := 10, nameIndex := 491, descriptorIndex := 222, attributes := #[] }, { accessFlags := 74, nameIndex := 29, descriptorIndex := 30, attributes := #[] }, { accessFlags := 74, nameIndex := 154, descriptorIndex := 155, attributes := #[] }, { accessFlags := 10, nameIndex := 217, descriptorIndex := 218, attributes := #[] }, { accessFlags := 10, nameIndex := 221, descriptorIndex := 222, attributes := #[] }, { accessFlags := 8, nameIndex := 562, descriptorIndex := 563, attributes := #[] }])
  fields := #[{ name := "in", type := (.object "java/io/InputStream"), accessFlags := 25, slot := 0, constantValue := 0 }, { name := "out", type := (.object "java/io/PrintStream"), accessFlags := 25, slot := 1, constantValue := 0 }, { name := "err", type := (.object "java/io/PrintStream"), accessFlags := 25, slot := 2, constantValue := 0 }, { name := "initialIn", type := (.object "java/io/InputStream"), accessFlags := 10, slot := 3, constantValue := 0 }, { name := "NEVER", type := .int, accessFlags := 26, slot := 4, constantValue := 0 }, { name := "MAYBE", type := .int, accessFlags := 26, slot := 5, constantValue := 0 }, { name := "allowSecurityManager", type := .int, accessFlags := 10, slot := 6, constantValue := 0 }, { name := "security", type := (.object "java/lang/SecurityManager"), accessFlags := 74, slot := 7, constantValue := 0 }, { name := "notSupportedJnuEncoding", type := (.object "java/lang/String"), accessFlags := 10, slot := 8, constantValue := 0 }, { name := "cons", type := (.object "java/io/Console"), accessFlags := 74, slot := 9, constantValue := 0 }, { name := "initialErrStream", type := (.object "java/io/PrintStream"), accessFlags := 74, slot := 10, constantValue := 0 }, { name := "props", type := (.object "java/util/Properties"), accessFlags := 10, slot := 11, constantValue := 0 }, { name := "lineSeparator", type := (.object "java/lang/String"), accessFlags := 10, slot := 12, constantValue := 0 }, { name := "bootLayer", type := (.object "java/lang/ModuleLayer"), accessFlags := 8, slot := 13, constantValue := 0 }]
  methods := #[k15m0, k15m1]
  instanceTypes := #[]
  staticTypes := #[(.object "java/io/InputStream"), (.object "java/io/PrintStream"), (.object "java/io/PrintStream"), (.object "java/io/InputStream"), .int, .int, .int, (.object "java/lang/SecurityManager"), (.object "java/lang/String"), (.object "java/io/Console"), (.object "java/io/PrintStream"), (.object "java/util/Properties"), (.object "java/lang/String"), (.object "java/lang/ModuleLayer")]
  resolved := Array.replicate 834 none
  statics := none }

def pool16 : Array CpInfo := pool [(2, .class_ 4), (1, u "java/lang/Object"), (0, u "<init>"), (0, u "()V"), (7, .class_ 16), (1, u "java/util/Arrays"), (57, .class_ 76), (1, u "java/util/Arrays$NaturalOrder"), (36, .class_ 115), (1, u "java/util/Arrays$LegacyMergeSort"), (1, u "Z"), (21, u "copyOfRange"), (10, .methodref 151 152), (0, .class_ 153), (0, .nameAndType 154 155), (0, u "java/lang/System"), (0, u "arraycopy"), (0, u "(Ljava/lang/Object;ILjava/lang/Object;II)V"), (148, .methodref 305 306), (0, .class_ 307), (0, .nameAndType 308 309), (0, u "java/lang/Math"), (0, u "min"), (0, u "(II)I"), (29, .methodref 14 340), (0, .nameAndType 341 342), (0, u "copyOfRangeByte"), (0, u "([BII)[B"), (0, .methodref 14 344), (0, .nameAndType 345 346), (0, u "checkLength"), (0, u "(II)V"), (28, .class_ 376), (0, u "java/util/Arrays$ArrayList"), (68, u "$assertionsDisabled"), (269, u "MIN_ARRAY_SORT_GRAN"), (0, u "I"), (2, u "INSERTIONSORT_THRESHOLD"), (255, .class_ 976), (0, u "java/util/Arrays$ArrayItr")] 52

def k16m0 : Method := { name := "<init>", desc := "()V", sig := { parameters := [], returnType := none }, accessFlags := 2, code := none }
def k16c1 : Code := { maxStack := 4, maxLocals := 2, code := jdk_65_method_131_code, exceptionTable := #[], attributes := #[] }
def k16m1 : Method := { name := "checkLength", desc := "(II)V", sig := { parameters := [.int, .int], returnType := none }, accessFlags := 10, code := some k16c1 }
def k16c2 : Code := { maxStack := 3, maxLocals := 3, code := jdk_65_method_132_code, exceptionTable := #[], attributes := #[] }
def k16m2 : Method := { name := "copyOfRange", desc := "([BII)[B", sig := { parameters := [(.array .byte), .int, .int], returnType := some (.array .byte) }, accessFlags := 9, code := some k16c2 }
def k16c3 : Code := { maxStack := 6, maxLocals := 5, code := jdk_65_method_133_code, exceptionTable := #[], attributes := #[] }
def k16m3 : Method := { name := "copyOfRangeByte", desc := "([BII)[B", sig := { parameters := [(.array .byte), .int, .int], returnType := some (.array .byte) }, accessFlags := 10, code := some k16c3 }
/-- java/util/Arrays -/
def k16 : Class := { plain "java/util/Arrays" (some 0) with
  accessFlags := 49
  interfaces := #[]
  cf := some (fileOf pool16 14 #[.nestMembers #[975, 375, 113, 74]] #[{ accessFlags := 2, nameIndex := 5, descriptorIndex := 6, attributes := #[] }, { accessFlags := 10, nameIndex := 345, descriptorIndex := 346, attributes := #[] }, { accessFlags := 9, nameIndex := 139, descriptorIndex := 342, attributes := #[] }, { accessFlags := 10, nameIndex := 341, descriptorIndex := 342, attributes := #[] }] 49 2 #[] #[{ accessFlags := 26, nameIndex := 715, descriptorIndex := 716, attributes := #[] }, { accessFlags := 26, nameIndex := 719, descriptorIndex := 716, attributes := #[] }, { accessFlags := 4120, nameIndex := 445, descriptorIndex := 117, attributes := #[] }])
  fields := #[{ name := "MIN_ARRAY_SORT_GRAN", type := .int, accessFlags := 26, slot := 0, constantValue := 0 }, { name := "INSERTIONSORT_THRESHOLD", type := .int, accessFlags := 26, slot := 1, constantValue := 0 }, { name := "$assertionsDisabled", type := .boolean, accessFlags := 4120, slot := 2, constantValue := 0 }]
  methods := #[k16m0, k16m1, k16m2, k16m3]
  instanceTypes := #[]
  staticTypes := #[.int, .int, .boolean]
  resolved := Array.replicate 1029 none
  statics := none }

def pool17 : Array CpInfo := pool [(1, .class_ 2), (0, u "java/lang/Math"), (1, .class_ 6), (1, u "java/lang/Object"), (0, u "<init>"), (0, u "()V"), (89, .class_ 100), (1, u "java/lang/Math$RandomNumberGeneratorHolder"), (71, u "negativeZeroFloatBits"), (0, u "J"), (2, u "negativeZeroDoubleBits"), (24, u "min"), (43, u "$assertionsDisabled"), (0, u "Z"), (88, u "(II)I"), (2, u "twoToTheDoubleScaleDown"), (0, u "D"), (4, u "twoToTheDoubleScaleUp"), (9, u "E"), (3, u "PI"), (2, u "TAU"), (2, u "DEGREES_TO_RADIANS"), (0, u "RADIANS_TO_DEGREES")] 94

def k17m0 : Method := { name := "<init>", desc := "()V", sig := { parameters := [], returnType := none }, accessFlags := 2, code := none }
def k17c1 : Code := { maxStack := 2, maxLocals := 2, code := jdk_29_method_69_code, exceptionTable := #[], attributes := #[] }
def k17m1 : Method := { name := "min", desc := "(II)I", sig := { parameters := [.int, .int], returnType := some .int }, accessFlags := 9, code := some k17c1 }
/-- java/lang/Math -/
def k17 : Class := { plain "java/lang/Math" (some 0) with
  accessFlags := 49
  interfaces := #[]
  cf := some (fileOf pool17 1 #[.nestMembers #[98]] #[{ accessFlags := 2, nameIndex := 7, descriptorIndex := 8, attributes := #[] }, { accessFlags := 9, nameIndex := 201, descriptorIndex := 335, attributes := #[] }] 49 4 #[] #[{ accessFlags := 25, nameIndex := 354, descriptorIndex := 339, attributes := #[] }, { accessFlags := 25, nameIndex := 358, descriptorIndex := 339, attributes := #[] }, { accessFlags := 25, nameIndex := 361, descriptorIndex := 339, attributes := #[] }, { accessFlags := 26, nameIndex := 364, descriptorIndex := 339, attributes := #[] }, { accessFlags := 26, nameIndex := 365, descriptorIndex := 339, attributes := #[] }, { accessFlags := 26, nameIndex := 172, descriptorIndex := 173, attributes := #[] }, { accessFlags := 26, nameIndex := 176, descriptorIndex := 173, attributes := #[] }, { accessFlags := 8, nameIndex := 344, descriptorIndex := 339, attributes := #[] }, { accessFlags := 8, nameIndex := 338, descriptorIndex := 339, attributes := #[] }, { accessFlags := 4120, nameIndex := 245, descriptorIndex := 246, attributes := #[] }])
  fields := #[{ name := "E", type := .double, accessFlags := 25, slot := 0, constantValue := 0 }, { name := "PI", type := .double, accessFlags := 25, slot := 1, constantValue := 0 }, { name := "TAU", type := .double, accessFlags := 25, slot := 2, constantValue := 0 }, { name := "DEGREES_TO_RADIANS", type := .double, accessFlags := 26, slot := 3, constantValue := 0 }, { name := "RADIANS_TO_DEGREES", type := .double, accessFlags := 26, slot := 4, constantValue := 0 }, { name := "negativeZeroFloatBits", type := .long, accessFlags := 26, slot := 5, constantValue := 0 }, { name := "negativeZeroDoubleBits", type := .long, accessFlags := 26, slot := 6, constantValue := 0 }, { name := "twoToTheDoubleScaleUp", type := .double, accessFlags := 8, slot := 7, constantValue := 0 }, { name := "twoToTheDoubleScaleDown", type := .double, accessFlags := 8, slot := 8, constantValue := 0 }, { name := "$assertionsDisabled", type := .boolean, accessFlags := 4120, slot := 9, constantValue := 0 }]
  methods := #[k17m0, k17m1]
  instanceTypes := #[]
  staticTypes := #[.double, .double, .double, .double, .double, .long, .long, .double, .double, .boolean]
  resolved := Array.replicate 460 none
  statics := none }

def pool18 : Array CpInfo := pool [(4, .class_ 6), (1, u "java/lang/Object"), (0, u "<init>"), (0, u "()V"), (5, .class_ 16), (1, u "java/lang/StringLatin1"), (104, u "$assertionsDisabled"), (0, u "Z"), (98, .class_ 223), (1, u "java/lang/StringLatin1$LinesSpliterator"), (57, u "equals"), (0, u "([B[B)Z"), (107, .class_ 391), (0, u "java/lang/StringLatin1$CharsSpliterator")] 3

def k18m0 : Method := { name := "<init>", desc := "()V", sig := { parameters := [], returnType := none }, accessFlags := 0, code := none }
def k18c1 : Code := { maxStack := 3, maxLocals := 3, code := jdk_43_method_13_code, exceptionTable := #[], attributes := #[] }
def k18m1 : Method := { name := "equals", desc := "([B[B)Z", sig := { parameters := [(.array .byte), (.array .byte)], returnType := some .boolean }, accessFlags := 9, code := some k18c1 }
/-- java/lang/StringLatin1 -/
def k18 : Class := { plain "java/lang/StringLatin1" (some 0) with
  accessFlags := 48
  interfaces := #[]
  cf := some (fileOf pool18 14 #[.nestMembers #[390, 221]] #[{ accessFlags := 0, nameIndex := 7, descriptorIndex := 8, attributes := #[] }, { accessFlags := 9, nameIndex := 281, descriptorIndex := 282, attributes := #[] }] 48 4 #[] #[{ accessFlags := 4120, nameIndex := 121, descriptorIndex := 122, attributes := #[] }])
  fields := #[{ name := "$assertionsDisabled", type := .boolean, accessFlags := 4120, slot := 0, constantValue := 0 }]
  methods := #[k18m0, k18m1]
  instanceTypes := #[]
  staticTypes := #[.boolean]
  resolved := Array.replicate 395 none
  statics := none }

def pool19 : Array CpInfo := pool [(2, .class_ 4), (1, u "java/lang/Object"), (0, u "<init>"), (0, u "()V"), (17, .class_ 26), (1, u "jdk/internal/util/Preconditions"), (28, .class_ 56), (0, u "jdk/internal/util/Preconditions$4"), (57, .class_ 115), (0, u "jdk/internal/util/Preconditions$1"), (7, u "SIOOBE_FORMATTER"), (0, u "Ljava/util/function/BiFunction;"), (0, .class_ 126), (0, u "jdk/internal/util/Preconditions$2"), (3, u "AIOOBE_FORMATTER"), (0, .class_ 132), (0, u "jdk/internal/util/Preconditions$3"), (3, u "IOOBE_FORMATTER")] 57

def k19m0 : Method := { name := "<init>", desc := "()V", sig := { parameters := [], returnType := none }, accessFlags := 1, code := none }
/-- jdk/internal/util/Preconditions -/
def k19 : Class := { plain "jdk/internal/util/Preconditions" (some 0) with
  accessFlags := 33
  interfaces := #[]
  cf := some (fileOf pool19 24 #[.nestMembers #[55, 131, 125, 114]] #[{ accessFlags := 1, nameIndex := 5, descriptorIndex := 6, attributes := #[] }] 33 2 #[] #[{ accessFlags := 25, nameIndex := 123, descriptorIndex := 124, attributes := #[] }, { accessFlags := 25, nameIndex := 130, descriptorIndex := 124, attributes := #[] }, { accessFlags := 25, nameIndex := 136, descriptorIndex := 124, attributes := #[] }])
  fields := #[{ name := "SIOOBE_FORMATTER", type := (.object "java/util/function/BiFunction"), accessFlags := 25, slot := 0, constantValue := 0 }, { name := "AIOOBE_FORMATTER", type := (.object "java/util/function/BiFunction"), accessFlags := 25, slot := 1, constantValue := 0 }, { name := "IOOBE_FORMATTER", type := (.object "java/util/function/BiFunction"), accessFlags := 25, slot := 2, constantValue := 0 }]
  methods := #[k19m0]
  instanceTypes := #[]
  staticTypes := #[(.object "java/util/function/BiFunction"), (.object "java/util/function/BiFunction"), (.object "java/util/function/BiFunction")]
  resolved := Array.replicate 194 none
  statics := some 3 }

def pool20 : Array CpInfo := pool [(9, u "<init>"), (6, .class_ 18), (1, u "java/lang/Object"), (0, u "()V"), (1, .class_ 23), (1, u "jdk/internal/util/ArraysSupport"), (0, u "LOG2_ARRAY_LONG_INDEX_SCALE"), (0, u "I"), (2, u "U"), (0, u "Ljdk/internal/misc/Unsafe;"), (8, u "BIG_ENDIAN"), (0, u "Z"), (8, u "LOG2_BYTE_BIT_SIZE"), (4, u "LOG2_ARRAY_INT_INDEX_SCALE"), (54, u "JLA"), (0, u "Ljdk/internal/access/JavaLangAccess;"), (11, u "LOG2_ARRAY_BOOLEAN_INDEX_SCALE"), (9, u "LOG2_ARRAY_BYTE_INDEX_SCALE"), (5, u "LOG2_ARRAY_CHAR_INDEX_SCALE"), (5, u "LOG2_ARRAY_SHORT_INDEX_SCALE"), (18, u "LOG2_ARRAY_FLOAT_INDEX_SCALE"), (24, u "LOG2_ARRAY_DOUBLE_INDEX_SCALE"), (89, u "T_BOOLEAN"), (2, u "T_CHAR"), (1, u "T_FLOAT"), (1, u "T_DOUBLE"), (1, u "T_BYTE"), (1, u "T_SHORT"), (1, u "T_INT"), (1, u "T_LONG"), (1, u "SOFT_MAX_ARRAY_LENGTH")] 83

def k20m0 : Method := { name := "<init>", desc := "()V", sig := { parameters := [], returnType := none }, accessFlags := 2, code := none }
/-- jdk/internal/util/ArraysSupport -/
def k20 : Class := { plain "jdk/internal/util/ArraysSupport" (some 0) with
  accessFlags := 33
  interfaces := #[]
  cf := some (fileOf pool20 21 #[] #[{ accessFlags := 2, nameIndex := 9, descriptorIndex := 19, attributes := #[] }] 33 16 #[] #[{ accessFlags := 24, nameIndex := 28, descriptorIndex := 29, attributes := #[] }, { accessFlags := 26, nameIndex := 38, descriptorIndex := 39, attributes := #[] }, { accessFlags := 25, nameIndex := 121, descriptorIndex := 25, attributes := #[] }, { accessFlags := 25, nameIndex := 131, descriptorIndex := 25, attributes := #[] }, { accessFlags := 25, nameIndex := 137, descriptorIndex := 25, attributes := #[] }, { accessFlags := 25, nameIndex := 143, descriptorIndex := 25, attributes := #[] }, { accessFlags := 25, nameIndex := 53, descriptorIndex := 25, attributes := #[] }, { accessFlags := 25, nameIndex := 24, descriptorIndex := 25, attributes := #[] }, { accessFlags := 25, nameIndex := 162, descriptorIndex := 25, attributes := #[] }, { accessFlags := 25, nameIndex := 187, descriptorIndex := 25, attributes := #[] }, { accessFlags := 26, nameIndex := 48, descriptorIndex := 25, attributes := #[] }, { accessFlags := 25, nameIndex := 277, descriptorIndex := 25, attributes := #[] }, { accessFlags := 25, nameIndex := 280, descriptorIndex := 25, attributes := #[] }, { accessFlags := 25, nameIndex := 282, descriptorIndex := 25, attributes := #[] }, { accessFlags := 25, nameIndex := 284, descriptorIndex := 25, attributes := #[] }, { accessFlags := 25, nameIndex := 286, descriptorIndex := 25, attributes := #[] }, { accessFlags := 25, nameIndex := 288, descriptorIndex := 25, attributes := #[] }, { accessFlags := 25, nameIndex := 290, descriptorIndex := 25, attributes := #[] }, { accessFlags := 25, nameIndex := 292, descriptorIndex := 25, attributes := #[] }, { accessFlags := 26, nameIndex := 108, descriptorIndex := 109, attributes := #[] }, { accessFlags := 25, nameIndex := 294, descriptorIndex := 25, attributes := #[] }])
  fields := #[{ name := "U", type := (.object "jdk/internal/misc/Unsafe"), accessFlags := 24, slot := 0, constantValue := 0 }, { name := "BIG_ENDIAN", type := .boolean, accessFlags := 26, slot := 1, constantValue := 0 }, { name := "LOG2_ARRAY_BOOLEAN_INDEX_SCALE", type := .int, accessFlags := 25, slot := 2, constantValue := 0 }, { name := "LOG2_ARRAY_BYTE_INDEX_SCALE", type := .int, accessFlags := 25, slot := 3, constantValue := 0 }, { name := "LOG2_ARRAY_CHAR_INDEX_SCALE", type := .int, accessFlags := 25, slot := 4, constantValue := 0 }, { name := "LOG2_ARRAY_SHORT_INDEX_SCALE", type := .int, accessFlags := 25, slot := 5, constantValue := 0 }, { name := "LOG2_ARRAY_INT_INDEX_SCALE", type := .int, accessFlags := 25, slot := 6, constantValue := 0 }, { name := "LOG2_ARRAY_LONG_INDEX_SCALE", type := .int, accessFlags := 25, slot := 7, constantValue := 0 }, { name := "LOG2_ARRAY_FLOAT_INDEX_SCALE", type := .int, accessFlags := 25, slot := 8, constantValue := 0 }, { name := "LOG2_ARRAY_DOUBLE_INDEX_SCALE", type := .int, accessFlags := 25, slot := 9, constantValue := 0 }, { name := "LOG2_BYTE_BIT_SIZE", type := .int, accessFlags := 26, slot := 10, constantValue := 0 }, { name := "T_BOOLEAN", type := .int, accessFlags := 25, slot := 11, constantValue := 0 }, { name := "T_CHAR", type := .int, accessFlags := 25, slot := 12, constantValue := 0 }, { name := "T_FLOAT", type := .int, accessFlags := 25, slot := 13, constantValue := 0 }, { name := "T_DOUBLE", type := .int, accessFlags := 25, slot := 14, constantValue := 0 }, { name := "T_BYTE", type := .int, accessFlags := 25, slot := 15, constantValue := 0 }, { name := "T_SHORT", type := .int, accessFlags := 25, slot := 16, constantValue := 0 }, { name := "T_INT", type := .int, accessFlags := 25, slot := 17, constantValue := 0 }, { name := "T_LONG", type := .int, accessFlags := 25, slot := 18, constantValue := 0 }, { name := "JLA", type := (.object "jdk/internal/access/JavaLangAccess"), accessFlags := 26, slot := 19, constantValue := 0 }, { name := "SOFT_MAX_ARRAY_LENGTH", type := .int, accessFlags := 25, slot := 20, constantValue := 0 }]
  methods := #[k20m0]
  instanceTypes := #[]
  staticTypes := #[(.object "jdk/internal/misc/Unsafe"), .boolean, .int, .int, .int, .int, .int, .int, .int, .int, .int, .int, .int, .int, .int, .int, .int, .int, .int, (.object "jdk/internal/access/JavaLangAccess"), .int]
  resolved := Array.replicate 378 none
  statics := none }

def pool21 : Array CpInfo := pool [(1, u "java/lang/Cloneable"), (0, .class_ 1), (0, u "java/lang/Object"), (0, .class_ 3)] 3

/-- java/lang/Cloneable -/
def k21 : Class := { plain "java/lang/Cloneable" (some 0) with
  accessFlags := 1537
  interfaces := #[]
  cf := some (fileOf pool21 2 #[] #[] 1537 4 #[] #[])
  fields := #[]
  methods := #[]
  instanceTypes := #[]
  staticTypes := #[]
  resolved := Array.replicate 8 none
  statics := none }

/-- the primitive byte -/
def k22 : Class := { plain "byte" none with kind := .primitive 'B', accessFlags := 0x411 }
/-- [B -/
def k23 : Class := { plain "[B" (some 0) with kind := .array 22 .byte, interfaces := #[21, 4], accessFlags := 1041 }

/-- the primitive int -/
def k24 : Class := { plain "int" none with kind := .primitive 'I', accessFlags := 0x411 }
/-- [I -/
def k25 : Class := { plain "[I" (some 0) with kind := .array 24 .int, interfaces := #[21, 4], accessFlags := 1041 }

def heap : Heap := #[{ cls := 6, slots := #[.ref 6, .ref 9, .ref 12, .null], vm := .statics 6 },
  { cls := 9, slots := #[.long 0, .int 1, .null, .int 0, .null, .int 0, .int 0], vm := .statics 9 },
  { cls := 10, slots := #[.ref 13], vm := .statics 10 },
  { cls := 19, slots := #[.null, .null, .null], vm := .statics 19 },
  { cls := 23, slots := #[.int 99, .int 111, .int 110, .int 102, .int 108, .int 105, .int 99, .int 116], vm := .none },
  { cls := 9, slots := #[.ref 4, .int 0, .int 0, .int 0], vm := .none },
  { cls := 6, slots := #[.null, .int 0, .int 0, .ref 5], vm := .none },
  { cls := 23, slots := #[.int 99, .int 104, .int 101, .int 99, .int 107, .int 45, .int 102, .int 97, .int 105, .int 108, .int 101, .int 100], vm := .none },
  { cls := 9, slots := #[.ref 7, .int 0, .int 0, .int 0], vm := .none },
  { cls := 6, slots := #[.null, .int 1, .int 0, .ref 8], vm := .none },
  { cls := 23, slots := #[.int 117, .int 110, .int 97, .int 118, .int 97, .int 105, .int 108, .int 97, .int 98, .int 108, .int 101], vm := .none },
  { cls := 9, slots := #[.ref 10, .int 0, .int 0, .int 0], vm := .none },
  { cls := 6, slots := #[.null, .int 2, .int 0, .ref 11], vm := .none },
  { cls := 10, slots := #[.null], vm := .none }]
def classes : Array Class := #[k0, k1, k2, k3, k4, k5, k6, k7, k8, k9, k10, k11, k12, k13, k14, k15, k16, k17, k18, k19, k20, k21, k22, k23, k24, k25]
def interned : List (Array UInt16 × Addr) := []
def slotsUsed : Nat := 71
def theMethod : MethodId := ⟨1, 1⟩
def args0 : Array Value := #[.int 5]
def aboutOver (below : List Frame) : State where
  vm := { classes := classes, interned := interned.toArray }
  heap := heap
  slotsUsed := slotsUsed
  threads := #[{ frames := .invoking theMethod args0 :: below }]
def below0 : List Frame := [.native { method := ⟨0, 0⟩, args := #[] }]
def about1 : State := aboutOver below0
def p0 : Program := .bare "" "" ""
def e0 : Env := launch0.env 0 0 0
theorem w_frames : about1.frames = Frame.invoking theMethod args0 :: below0 := rfl
set_option maxRecDepth 65536 in
theorem w_args : argsFit about1.vm theMethod args0 = true := by decide +kernel
set_option maxRecDepth 65536 in
theorem w_heap : heapFits about1 = true := by decide +kernel
set_option maxRecDepth 65536 in
theorem w_runnable : about1.curStatus? = some .runnable := by decide +kernel
set_option maxRecDepth 65536 in
theorem w_alone : about1.alone = true := by decide +kernel
set_option maxRecDepth 65536 in
theorem w_named : about1.methodNamed? x = some theMethod := by decide +kernel
set_option maxRecDepth 65536 in
theorem w_hears : about1.hears theMethod below0 = true := by decide +kernel
set_option maxRecDepth 65536 in
theorem w_ripe : about1.ripe theMethod args0 below0 = true := by decide +kernel
theorem w_running : about1.status = .running := rfl
set_option maxRecDepth 65536 in
theorem w_room : about1.hasRoom e0.platform room_1 = true :=
  launch0.hasRoom_least _ room_1 (by decide +kernel) (by decide +kernel) (by decide +kernel) (by decide +kernel) (by decide +kernel) (by decide +kernel)
theorem allAtoms_all (ts : List Jvm.Cond) (a : Array Jvm.Value) (st : Jvm.State) : (allAtoms ts).before a st = ts.all (fun c => c.before a st) := by
  induction ts with
  | nil => rfl
  | cons c t ih =>
    show (Jvm.Cond.and c (allAtoms t)).before a st = _
    rw [Jvm.Cond.before_and, ih, List.all_cons]
def words1 : List Jvm.Cond := Jvm.Cond.code x code maxLocals ret :: tables_1
/-- a 'code' word, met by the world's own term for the bytes: nothing is compared byte by byte -/
theorem code_word {y : MethodName} {bytes : ByteArray} {mx : Nat} {rt : Option FieldType} {a : Array Value} {s : State} {m : MethodId} {meth : Method} {c : Code} (h1 : s.methodNamed? y = some m) (h2 : s.vm.method? m = some meth) (h3 : meth.code = some c) (h4 : c.code = bytes)
    (h5 : (c.maxLocals == mx && c.exceptionTable.isEmpty && decide (c.maxStack ≤ mostOperands) && decide (meth.sig.returnType = rt) && !meth.locks && decide (parseMethodDescriptor y.desc = some meth.sig)) = true) : (Jvm.Cond.code y bytes mx rt).before a s = true := by
  simp only [Bool.and_eq_true, beq_iff_eq, Bool.not_eq_true', decide_eq_true_eq] at h5
  obtain ⟨⟨⟨⟨⟨g1, g2⟩, g3⟩, g4⟩, g5⟩, g6⟩ := h5
  simp [Cond.before, Cond.holds, Cond.value, h1, h2, h3, h4, g1, g2, g3, g4, g5, g6]
def isCode : Jvm.Cond → Bool
  | .code _ _ _ _ => true
  | _ => false
theorem all_split {L : List Jvm.Cond} {P : Jvm.Cond → Bool} (h1 : L.all (fun c => isCode c || P c) = true) (h2 : ∀ c ∈ L.filter isCode, P c = true) : L.all P = true := by
  refine List.all_eq_true.mpr fun c hc => ?_
  have h := List.all_eq_true.mp h1 c hc
  rcases Bool.eq_false_or_eq_true (isCode c) with hi | hi
  · exact h2 c (List.mem_filter.mpr ⟨hc, hi⟩)
  · simpa [hi] using h
set_option maxRecDepth 65536 in
theorem w_c0 : (Jvm.Cond.code x code maxLocals ret).before args0 about1 = true := code_word (m := ⟨1, 1⟩) (meth := k1m1) (c := k1c1) (by decide +kernel) rfl rfl rfl (by decide +kernel)
set_option maxRecDepth 65536 in
theorem w_c1 : (Jvm.Cond.code ({ cls := "com/example/concordat/concordat/core/Vote", name := "no", desc := "(Lcom/example/concordat/concordat/core/AbortReason;)Lcom/example/concordat/concordat/core/Vote;" } : Jvm.MethodName) prog_36_method_2_code (1 : Nat) (Option.some (Jvm.ClassFile.FieldType.object "com/example/concordat/concordat/core/Vote"))).before args0 about1 = true := code_word (m := ⟨10, 1⟩) (meth := k10m1) (c := k10c1) (by decide +kernel) rfl rfl rfl (by decide +kernel)
set_option maxRecDepth 65536 in
theorem w_c2 : (Jvm.Cond.code ({ cls := "java/util/Objects", name := "requireNonNull", desc := "(Ljava/lang/Object;Ljava/lang/String;)Ljava/lang/Object;" } : Jvm.MethodName) jdk_31_method_11_code (2 : Nat) (Option.some (Jvm.ClassFile.FieldType.object "java/lang/Object"))).before args0 about1 = true := code_word (m := ⟨11, 1⟩) (meth := k11m1) (c := k11c1) (by decide +kernel) rfl rfl rfl (by decide +kernel)
set_option maxRecDepth 65536 in
theorem w_c3 : (Jvm.Cond.code ({ cls := "com/example/concordat/concordat/core/Vote", name := "<init>", desc := "(Lcom/example/concordat/concordat/core/AbortReason;)V" } : Jvm.MethodName) prog_36_method_1_code (2 : Nat) (Option.none : Option Jvm.ClassFile.FieldType)).before args0 about1 = true := code_word (m := ⟨10, 0⟩) (meth := k10m0) (c := k10c0) (by decide +kernel) rfl rfl rfl (by decide +kernel)
set_option maxRecDepth 65536 in
theorem w_c4 : (Jvm.Cond.code ({ cls := "java/lang/Object", name := "<init>", desc := "()V" } : Jvm.MethodName) object_method_1_code (1 : Nat) (Option.none : Option Jvm.ClassFile.FieldType)).before args0 about1 = true := code_word (m := ⟨0, 0⟩) (meth := k0m0) (c := k0c0) (by decide +kernel) rfl rfl rfl (by decide +kernel)
set_option maxRecDepth 65536 in
theorem w_c5 : (Jvm.Cond.code ({ cls := "com/example/concordat/concordat/core/Vote", name := "isYes", desc := "()Z" } : Jvm.MethodName) prog_36_method_3_code (1 : Nat) (Option.some Jvm.ClassFile.FieldType.boolean)).before args0 about1 = true := code_word (m := ⟨10, 2⟩) (meth := k10m2) (c := k10c2) (by decide +kernel) rfl rfl rfl (by decide +kernel)
set_option maxRecDepth 65536 in
theorem w_c6 : (Jvm.Cond.code ({ cls := "com/example/concordat/concordat/core/Vote", name := "getReason", desc := "()Lcom/example/concordat/concordat/core/AbortReason;" } : Jvm.MethodName) prog_36_method_4_code (1 : Nat) (Option.some (Jvm.ClassFile.FieldType.object "com/example/concordat/concordat/core/AbortReason"))).before args0 about1 = true := code_word (m := ⟨10, 3⟩) (meth := k10m3) (c := k10c3) (by decide +kernel) rfl rfl rfl (by decide +kernel)
set_option maxRecDepth 65536 in
theorem w_c7 : (Jvm.Cond.code ({ cls := "com/example/concordat/concordat/core/Vote", name := "toString", desc := "()Ljava/lang/String;" } : Jvm.MethodName) prog_36_method_5_code (1 : Nat) (Option.some (Jvm.ClassFile.FieldType.object "java/lang/String"))).before args0 about1 = true := code_word (m := ⟨10, 4⟩) (meth := k10m4) (c := k10c4) (by decide +kernel) rfl rfl rfl (by decide +kernel)
set_option maxRecDepth 65536 in
theorem w_c8 : (Jvm.Cond.code ({ cls := "java/lang/StringBuilder", name := "<init>", desc := "()V" } : Jvm.MethodName) jdk_67_method_1_code (1 : Nat) (Option.none : Option Jvm.ClassFile.FieldType)).before args0 about1 = true := code_word (m := ⟨14, 0⟩) (meth := k14m0) (c := k14c0) (by decide +kernel) rfl rfl rfl (by decide +kernel)
set_option maxRecDepth 65536 in
theorem w_c9 : (Jvm.Cond.code ({ cls := "java/lang/AbstractStringBuilder", name := "<init>", desc := "(I)V" } : Jvm.MethodName) jdk_68_method_2_code (2 : Nat) (Option.none : Option Jvm.ClassFile.FieldType)).before args0 about1 = true := code_word (m := ⟨13, 1⟩) (meth := k13m1) (c := k13c1) (by decide +kernel) rfl rfl rfl (by decide +kernel)
set_option maxRecDepth 65536 in
theorem w_c10 : (Jvm.Cond.code ({ cls := "java/lang/StringBuilder", name := "append", desc := "(Ljava/lang/String;)Ljava/lang/StringBuilder;" } : Jvm.MethodName) jdk_67_method_7_code (2 : Nat) (Option.some (Jvm.ClassFile.FieldType.object "java/lang/StringBuilder"))).before args0 about1 = true := code_word (m := ⟨14, 1⟩) (meth := k14m1) (c := k14c1) (by decide +kernel) rfl rfl rfl (by decide +kernel)
set_option maxRecDepth 65536 in
theorem w_c11 : (Jvm.Cond.code ({ cls := "java/lang/AbstractStringBuilder", name := "append", desc := "(Ljava/lang/String;)Ljava/lang/AbstractStringBuilder;" } : Jvm.MethodName) jdk_68_method_22_code (3 : Nat) (Option.some (Jvm.ClassFile.FieldType.object "java/lang/AbstractStringBuilder"))).before args0 about1 = true := code_word (m := ⟨13, 4⟩) (meth := k13m4) (c := k13c4) (by decide +kernel) rfl rfl rfl (by decide +kernel)
set_option maxRecDepth 65536 in
theorem w_c12 : (Jvm.Cond.code ({ cls := "java/lang/String", name := "length", desc := "()I" } : Jvm.MethodName) jdk_42_method_54_code (1 : Nat) (Option.some Jvm.ClassFile.FieldType.int)).before args0 about1 = true := code_word (m := ⟨9, 2⟩) (meth := k9m2) (c := k9c2) (by decide +kernel) rfl rfl rfl (by decide +kernel)
set_option maxRecDepth 65536 in
theorem w_c13 : (Jvm.Cond.code ({ cls := "java/lang/String", name := "coder", desc := "()B" } : Jvm.MethodName) jdk_42_method_152_code (1 : Nat) (Option.some Jvm.ClassFile.FieldType.byte)).before args0 about1 = true := code_word (m := ⟨9, 6⟩) (meth := k9m6) (c := k9c6) (by decide +kernel) rfl rfl rfl (by decide +kernel)
set_option maxRecDepth 65536 in
theorem w_c14 : (Jvm.Cond.code ({ cls := "java/lang/AbstractStringBuilder", name := "ensureCapacityInternal", desc := "(I)V" } : Jvm.MethodName) jdk_68_method_9_code (3 : Nat) (Option.none : Option Jvm.ClassFile.FieldType)).before args0 about1 = true := code_word (m := ⟨13, 3⟩) (meth := k13m3) (c := k13c3) (by decide +kernel) rfl rfl rfl (by decide +kernel)
set_option maxRecDepth 65536 in
theorem w_c15 : (Jvm.Cond.code ({ cls := "java/lang/AbstractStringBuilder", name := "putStringAt", desc := "(ILjava/lang/String;)V" } : Jvm.MethodName) jdk_68_method_73_code (3 : Nat) (Option.none : Option Jvm.ClassFile.FieldType)).before args0 about1 = true := code_word (m := ⟨13, 8⟩) (meth := k13m8) (c := k13c8) (by decide +kernel) rfl rfl rfl (by decide +kernel)
set_option maxRecDepth 65536 in
theorem w_c16 : (Jvm.Cond.code ({ cls := "java/lang/AbstractStringBuilder", name := "inflateIfNeededFor", desc := "(Ljava/lang/String;)V" } : Jvm.MethodName) jdk_68_method_71_code (2 : Nat) (Option.none : Option Jvm.ClassFile.FieldType)).before args0 about1 = true := code_word (m := ⟨13, 7⟩) (meth := k13m7) (c := k13c7) (by decide +kernel) rfl rfl rfl (by decide +kernel)
set_option maxRecDepth 65536 in
theorem w_c17 : (Jvm.Cond.code ({ cls := "java/lang/String", name := "getBytes", desc := "([BIB)V" } : Jvm.MethodName) jdk_42_method_147_code (4 : Nat) (Option.none : Option Jvm.ClassFile.FieldType)).before args0 about1 = true := code_word (m := ⟨9, 4⟩) (meth := k9m4) (c := k9c4) (by decide +kernel) rfl rfl rfl (by decide +kernel)
set_option maxRecDepth 65536 in
theorem w_c18 : (Jvm.Cond.code ({ cls := "com/example/concordat/concordat/core/AbortReason", name := "getWord", desc := "()Ljava/lang/String;" } : Jvm.MethodName) prog_5_method_4_code (1 : Nat) (Option.some (Jvm.ClassFile.FieldType.object "java/lang/String"))).before args0 about1 = true := code_word (m := ⟨6, 0⟩) (meth := k6m0) (c := k6c0) (by decide +kernel) rfl rfl rfl (by decide +kernel)
set_option maxRecDepth 65536 in
theorem w_c19 : (Jvm.Cond.code ({ cls := "java/lang/StringBuilder", name := "toString", desc := "()Ljava/lang/String;" } : Jvm.MethodName) jdk_67_method_42_code (1 : Nat) (Option.some (Jvm.ClassFile.FieldType.object "java/lang/String"))).before args0 about1 = true := code_word (m := ⟨14, 2⟩) (meth := k14m2) (c := k14c2) (by decide +kernel) rfl rfl rfl (by decide +kernel)
set_option maxRecDepth 65536 in
theorem w_c20 : (Jvm.Cond.code ({ cls := "java/lang/String", name := "<init>", desc := "(Ljava/lang/StringBuilder;)V" } : Jvm.MethodName) jdk_42_method_53_code (2 : Nat) (Option.none : Option Jvm.ClassFile.FieldType)).before args0 about1 = true := code_word (m := ⟨9, 1⟩) (meth := k9m1) (c := k9c1) (by decide +kernel) rfl rfl rfl (by decide +kernel)
set_option maxRecDepth 65536 in
theorem w_c21 : (Jvm.Cond.code ({ cls := "java/lang/String", name := "<init>", desc := "(Ljava/lang/AbstractStringBuilder;Ljava/lang/Void;)V" } : Jvm.MethodName) jdk_42_method_150_code (5 : Nat) (Option.none : Option Jvm.ClassFile.FieldType)).before args0 about1 = true := code_word (m := ⟨9, 5⟩) (meth := k9m5) (c := k9c5) (by decide +kernel) rfl rfl rfl (by decide +kernel)
set_option maxRecDepth 65536 in
theorem w_c22 : (Jvm.Cond.code ({ cls := "java/lang/AbstractStringBuilder", name := "getValue", desc := "()[B" } : Jvm.MethodName) jdk_68_method_64_code (1 : Nat) (Option.some (Jvm.ClassFile.FieldType.array Jvm.ClassFile.FieldType.byte))).before args0 about1 = true := code_word (m := ⟨13, 5⟩) (meth := k13m5) (c := k13c5) (by decide +kernel) rfl rfl rfl (by decide +kernel)
set_option maxRecDepth 65536 in
theorem w_c23 : (Jvm.Cond.code ({ cls := "java/lang/StringBuilder", name := "length", desc := "()I" } : Jvm.MethodName) jdk_67_method_93_code (1 : Nat) (Option.some Jvm.ClassFile.FieldType.int)).before args0 about1 = true := code_word (m := ⟨14, 3⟩) (meth := k14m3) (c := k14c3) (by decide +kernel) rfl rfl rfl (by decide +kernel)
set_option maxRecDepth 65536 in
theorem w_c24 : (Jvm.Cond.code ({ cls := "java/lang/AbstractStringBuilder", name := "length", desc := "()I" } : Jvm.MethodName) jdk_68_method_6_code (1 : Nat) (Option.some Jvm.ClassFile.FieldType.int)).before args0 about1 = true := code_word (m := ⟨13, 2⟩) (meth := k13m2) (c := k13c2) (by decide +kernel) rfl rfl rfl (by decide +kernel)
set_option maxRecDepth 65536 in
theorem w_c25 : (Jvm.Cond.code ({ cls := "java/lang/AbstractStringBuilder", name := "isLatin1", desc := "()Z" } : Jvm.MethodName) jdk_68_method_68_code (1 : Nat) (Option.some Jvm.ClassFile.FieldType.boolean)).before args0 about1 = true := code_word (m := ⟨13, 6⟩) (meth := k13m6) (c := k13c6) (by decide +kernel) rfl rfl rfl (by decide +kernel)
set_option maxRecDepth 65536 in
theorem w_c26 : (Jvm.Cond.code ({ cls := "java/util/Arrays", name := "copyOfRange", desc := "([BII)[B" } : Jvm.MethodName) jdk_65_method_132_code (3 : Nat) (Option.some (Jvm.ClassFile.FieldType.array Jvm.ClassFile.FieldType.byte))).before args0 about1 = true := code_word (m := ⟨16, 2⟩) (meth := k16m2) (c := k16c2) (by decide +kernel) rfl rfl rfl (by decide +kernel)
set_option maxRecDepth 65536 in
theorem w_c27 : (Jvm.Cond.code ({ cls := "java/util/Arrays", name := "copyOfRangeByte", desc := "([BII)[B" } : Jvm.MethodName) jdk_65_method_133_code (5 : Nat) (Option.some (Jvm.ClassFile.FieldType.array Jvm.ClassFile.FieldType.byte))).before args0 about1 = true := code_word (m := ⟨16, 3⟩) (meth := k16m3) (c := k16c3) (by decide +kernel) rfl rfl rfl (by decide +kernel)
set_option maxRecDepth 65536 in
theorem w_c28 : (Jvm.Cond.code ({ cls := "java/util/Arrays", name := "checkLength", desc := "(II)V" } : Jvm.MethodName) jdk_65_method_131_code (2 : Nat) (Option.none : Option Jvm.ClassFile.FieldType)).before args0 about1 = true := code_word (m := ⟨16, 1⟩) (meth := k16m1) (c := k16c1) (by decide +kernel) rfl rfl rfl (by decide +kernel)
set_option maxRecDepth 65536 in
theorem w_c29 : (Jvm.Cond.code ({ cls := "java/lang/Math", name := "min", desc := "(II)I" } : Jvm.MethodName) jdk_29_method_69_code (2 : Nat) (Option.some Jvm.ClassFile.FieldType.int)).before args0 about1 = true := code_word (m := ⟨17, 1⟩) (meth := k17m1) (c := k17c1) (by decide +kernel) rfl rfl rfl (by decide +kernel)
set_option maxRecDepth 65536 in
theorem w_c30 : (Jvm.Cond.code ({ cls := "java/lang/String", name := "equals", desc := "(Ljava/lang/Object;)Z" } : Jvm.MethodName) jdk_42_method_66_code (3 : Nat) (Option.some Jvm.ClassFile.FieldType.boolean)).before args0 about1 = true := code_word (m := ⟨9, 3⟩) (meth := k9m3) (c := k9c3) (by decide +kernel) rfl rfl rfl (by decide +kernel)
set_option maxRecDepth 65536 in
theorem w_c31 : (Jvm.Cond.code ({ cls := "java/lang/StringLatin1", name := "equals", desc := "([B[B)Z" } : Jvm.MethodName) jdk_43_method_13_code (3 : Nat) (Option.some Jvm.ClassFile.FieldType.boolean)).before args0 about1 = true := code_word (m := ⟨18, 1⟩) (meth := k18m1) (c := k18c1) (by decide +kernel) rfl rfl rfl (by decide +kernel)
def codes1 : List Jvm.Cond := [Jvm.Cond.code x code maxLocals ret, Jvm.Cond.code ({ cls := "com/example/concordat/concordat/core/Vote", name := "no", desc := "(Lcom/example/concordat/concordat/core/AbortReason;)Lcom/example/concordat/concordat/core/Vote;" } : Jvm.MethodName) prog_36_method_2_code (1 : Nat) (Option.some (Jvm.ClassFile.FieldType.object "com/example/concordat/concordat/core/Vote")), Jvm.Cond.code ({ cls := "java/util/Objects", name := "requireNonNull", desc := "(Ljava/lang/Object;Ljava/lang/String;)Ljava/lang/Object;" } : Jvm.MethodName) jdk_31_method_11_code (2 : Nat) (Option.some (Jvm.ClassFile.FieldType.object "java/lang/Object")), Jvm.Cond.code ({ cls := "com/example/concordat/concordat/core/Vote", name := "<init>", desc := "(Lcom/example/concordat/concordat/core/AbortReason;)V" } : Jvm.MethodName) prog_36_method_1_code (2 : Nat) (Option.none : Option Jvm.ClassFile.FieldType), Jvm.Cond.code ({ cls := "java/lang/Object", name := "<init>", desc := "()V" } : Jvm.MethodName) object_method_1_code (1 : Nat) (Option.none : Option Jvm.ClassFile.FieldType), Jvm.Cond.code ({ cls := "com/example/concordat/concordat/core/Vote", name := "isYes", desc := "()Z" } : Jvm.MethodName) prog_36_method_3_code (1 : Nat) (Option.some Jvm.ClassFile.FieldType.boolean), Jvm.Cond.code ({ cls := "com/example/concordat/concordat/core/Vote", name := "getReason", desc := "()Lcom/example/concordat/concordat/core/AbortReason;" } : Jvm.MethodName) prog_36_method_4_code (1 : Nat) (Option.some (Jvm.ClassFile.FieldType.object "com/example/concordat/concordat/core/AbortReason")), Jvm.Cond.code ({ cls := "com/example/concordat/concordat/core/Vote", name := "toString", desc := "()Ljava/lang/String;" } : Jvm.MethodName) prog_36_method_5_code (1 : Nat) (Option.some (Jvm.ClassFile.FieldType.object "java/lang/String")), Jvm.Cond.code ({ cls := "java/lang/StringBuilder", name := "<init>", desc := "()V" } : Jvm.MethodName) jdk_67_method_1_code (1 : Nat) (Option.none : Option Jvm.ClassFile.FieldType), Jvm.Cond.code ({ cls := "java/lang/AbstractStringBuilder", name := "<init>", desc := "(I)V" } : Jvm.MethodName) jdk_68_method_2_code (2 : Nat) (Option.none : Option Jvm.ClassFile.FieldType), Jvm.Cond.code ({ cls := "java/lang/StringBuilder", name := "append", desc := "(Ljava/lang/String;)Ljava/lang/StringBuilder;" } : Jvm.MethodName) jdk_67_method_7_code (2 : Nat) (Option.some (Jvm.ClassFile.FieldType.object "java/lang/StringBuilder")), Jvm.Cond.code ({ cls := "java/lang/AbstractStringBuilder", name := "append", desc := "(Ljava/lang/String;)Ljava/lang/AbstractStringBuilder;" } : Jvm.MethodName) jdk_68_method_22_code (3 : Nat) (Option.some (Jvm.ClassFile.FieldType.object "java/lang/AbstractStringBuilder")), Jvm.Cond.code ({ cls := "java/lang/String", name := "length", desc := "()I" } : Jvm.MethodName) jdk_42_method_54_code (1 : Nat) (Option.some Jvm.ClassFile.FieldType.int), Jvm.Cond.code ({ cls := "java/lang/String", name := "coder", desc := "()B" } : Jvm.MethodName) jdk_42_method_152_code (1 : Nat) (Option.some Jvm.ClassFile.FieldType.byte), Jvm.Cond.code ({ cls := "java/lang/AbstractStringBuilder", name := "ensureCapacityInternal", desc := "(I)V" } : Jvm.MethodName) jdk_68_method_9_code (3 : Nat) (Option.none : Option Jvm.ClassFile.FieldType), Jvm.Cond.code ({ cls := "java/lang/AbstractStringBuilder", name := "putStringAt", desc := "(ILjava/lang/String;)V" } : Jvm.MethodName) jdk_68_method_73_code (3 : Nat) (Option.none : Option Jvm.ClassFile.FieldType), Jvm.Cond.code ({ cls := "java/lang/AbstractStringBuilder", name := "inflateIfNeededFor", desc := "(Ljava/lang/String;)V" } : Jvm.MethodName) jdk_68_method_71_code (2 : Nat) (Option.none : Option Jvm.ClassFile.FieldType), Jvm.Cond.code ({ cls := "java/lang/String", name := "getBytes", desc := "([BIB)V" } : Jvm.MethodName) jdk_42_method_147_code (4 : Nat) (Option.none : Option Jvm.ClassFile.FieldType), Jvm.Cond.code ({ cls := "com/example/concordat/concordat/core/AbortReason", name := "getWord", desc := "()Ljava/lang/String;" } : Jvm.MethodName) prog_5_method_4_code (1 : Nat) (Option.some (Jvm.ClassFile.FieldType.object "java/lang/String")), Jvm.Cond.code ({ cls := "java/lang/StringBuilder", name := "toString", desc := "()Ljava/lang/String;" } : Jvm.MethodName) jdk_67_method_42_code (1 : Nat) (Option.some (Jvm.ClassFile.FieldType.object "java/lang/String")), Jvm.Cond.code ({ cls := "java/lang/String", name := "<init>", desc := "(Ljava/lang/StringBuilder;)V" } : Jvm.MethodName) jdk_42_method_53_code (2 : Nat) (Option.none : Option Jvm.ClassFile.FieldType), Jvm.Cond.code ({ cls := "java/lang/String", name := "<init>", desc := "(Ljava/lang/AbstractStringBuilder;Ljava/lang/Void;)V" } : Jvm.MethodName) jdk_42_method_150_code (5 : Nat) (Option.none : Option Jvm.ClassFile.FieldType), Jvm.Cond.code ({ cls := "java/lang/AbstractStringBuilder", name := "getValue", desc := "()[B" } : Jvm.MethodName) jdk_68_method_64_code (1 : Nat) (Option.some (Jvm.ClassFile.FieldType.array Jvm.ClassFile.FieldType.byte)), Jvm.Cond.code ({ cls := "java/lang/StringBuilder", name := "length", desc := "()I" } : Jvm.MethodName) jdk_67_method_93_code (1 : Nat) (Option.some Jvm.ClassFile.FieldType.int), Jvm.Cond.code ({ cls := "java/lang/AbstractStringBuilder", name := "length", desc := "()I" } : Jvm.MethodName) jdk_68_method_6_code (1 : Nat) (Option.some Jvm.ClassFile.FieldType.int), Jvm.Cond.code ({ cls := "java/lang/AbstractStringBuilder", name := "isLatin1", desc := "()Z" } : Jvm.MethodName) jdk_68_method_68_code (1 : Nat) (Option.some Jvm.ClassFile.FieldType.boolean), Jvm.Cond.code ({ cls := "java/util/Arrays", name := "copyOfRange", desc := "([BII)[B" } : Jvm.MethodName) jdk_65_method_132_code (3 : Nat) (Option.some (Jvm.ClassFile.FieldType.array Jvm.ClassFile.FieldType.byte)), Jvm.Cond.code ({ cls := "java/util/Arrays", name := "copyOfRangeByte", desc := "([BII)[B" } : Jvm.MethodName) jdk_65_method_133_code (5 : Nat) (Option.some (Jvm.ClassFile.FieldType.array Jvm.ClassFile.FieldType.byte)), Jvm.Cond.code ({ cls := "java/util/Arrays", name := "checkLength", desc := "(II)V" } : Jvm.MethodName) jdk_65_method_131_code (2 : Nat) (Option.none : Option Jvm.ClassFile.FieldType), Jvm.Cond.code ({ cls := "java/lang/Math", name := "min", desc := "(II)I" } : Jvm.MethodName) jdk_29_method_69_code (2 : Nat) (Option.some Jvm.ClassFile.FieldType.int), Jvm.Cond.code ({ cls := "java/lang/String", name := "equals", desc := "(Ljava/lang/Object;)Z" } : Jvm.MethodName) jdk_42_method_66_code (3 : Nat) (Option.some Jvm.ClassFile.FieldType.boolean), Jvm.Cond.code ({ cls := "java/lang/StringLatin1", name := "equals", desc := "([B[B)Z" } : Jvm.MethodName) jdk_43_method_13_code (3 : Nat) (Option.some Jvm.ClassFile.FieldType.boolean)]
set_option maxRecDepth 65536 in
theorem codes_eq : words1.filter isCode = codes1 := rfl
theorem w_codes : ∀ c ∈ words1.filter isCode, c.before args0 about1 = true := by
  rw [codes_eq]
  intro c hc
  simp only [codes1, List.mem_cons, List.not_mem_nil, or_false] at hc
  rcases hc with rfl | rfl | rfl | rfl | rfl | rfl | rfl | rfl | rfl | rfl | rfl | rfl | rfl | rfl | rfl | rfl | rfl | rfl | rfl | rfl | rfl | rfl | rfl | rfl | rfl | rfl | rfl | rfl | rfl | rfl | rfl | rfl
  · exact w_c0
  · exact w_c1
  · exact w_c2
  · exact w_c3
  · exact w_c4
  · exact w_c5
  · exact w_c6
  · exact w_c7
  · exact w_c8
  · exact w_c9
  · exact w_c10
  · exact w_c11
  · exact w_c12
  · exact w_c13
  · exact w_c14
  · exact w_c15
  · exact w_c16
  · exact w_c17
  · exact w_c18
  · exact w_c19
  · exact w_c20
  · exact w_c21
  · exact w_c22
  · exact w_c23
  · exact w_c24
  · exact w_c25
  · exact w_c26
  · exact w_c27
  · exact w_c28
  · exact w_c29
  · exact w_c30
  · exact w_c31
set_option maxRecDepth 65536 in
theorem w_t1 : (words1.take 24).all (fun c => isCode c || c.before args0 about1) = true := by decide +kernel
set_option maxRecDepth 65536 in
theorem w_t2 : ((words1.drop 24).take 24).all (fun c => isCode c || c.before args0 about1) = true := by decide +kernel
set_option maxRecDepth 65536 in
theorem w_t3 : (((words1.drop 24).drop 24).take 24).all (fun c => isCode c || c.before args0 about1) = true := by decide +kernel
set_option maxRecDepth 65536 in
theorem w_t4 : ((((words1.drop 24).drop 24).drop 24).take 24).all (fun c => isCode c || c.before args0 about1) = true := by decide +kernel
set_option maxRecDepth 65536 in
theorem w_t5 : (((((words1.drop 24).drop 24).drop 24).drop 24).take 24).all (fun c => isCode c || c.before args0 about1) = true := by decide +kernel
set_option maxRecDepth 65536 in
theorem w_t6 : ((((((words1.drop 24).drop 24).drop 24).drop 24).drop 24).take 24).all (fun c => isCode c || c.before args0 about1) = true := by decide +kernel
set_option maxRecDepth 65536 in
theorem w_t7 : (((((((words1.drop 24).drop 24).drop 24).drop 24).drop 24).drop 24).take 24).all (fun c => isCode c || c.before args0 about1) = true := by decide +kernel
set_option maxRecDepth 65536 in
theorem w_t8 : (((((((words1.drop 24).drop 24).drop 24).drop 24).drop 24).drop 24).drop 24).all (fun c => isCode c || c.before args0 about1) = true := by decide +kernel
theorem w_tables : (allAtoms (Jvm.Cond.code x code maxLocals ret :: tables_1)).before args0 about1 = true := by
  rw [allAtoms_all]
  show words1.all (fun c => c.before args0 about1) = true
  refine all_split ?_ w_codes
  rw [← List.take_append_drop 24 words1, List.all_append, w_t1, ← List.take_append_drop 24 (words1.drop 24), List.all_append, w_t2, ← List.take_append_drop 24 ((words1.drop 24).drop 24), List.all_append, w_t3, ← List.take_append_drop 24 (((words1.drop 24).drop 24).drop 24), List.all_append, w_t4, ← List.take_append_drop 24 ((((words1.drop 24).drop 24).drop 24).drop 24), List.all_append, w_t5, ← List.take_append_drop 24 (((((words1.drop 24).drop 24).drop 24).drop 24).drop 24), List.all_append, w_t6, ← List.take_append_drop 24 ((((((words1.drop 24).drop 24).drop 24).drop 24).drop 24).drop 24), List.all_append, w_t7, w_t8]
  rfl
set_option maxRecDepth 65536 in
theorem w_rest : rest_1_c.before args0 about1 = true := by decide +kernel
set_option maxRecDepth 65536 in
theorem w_case : (Jvm.Cond.and given_1 narrow_1).before args0 about1 = true := by decide +kernel
set_option maxRecDepth 65536 in
theorem w_consts : constsHeld consts_1 about1 := Jvm.Lit.constsHeldB_iff.mp (by decide +kernel)
theorem w_applies : (headSpec (Jvm.Cond.code x code maxLocals ret :: tables_1) room_1).applies x e0.platform about1 = true :=
  (Spec.applies_iff w_frames).mpr ⟨w_running, w_runnable, w_alone, w_named, w_hears, w_ripe, w_room, w_tables⟩
theorem atStart : AtStart classFile x code maxLocals ret World_1 tables_1 room_1 Calls_1 rest_1 Pre_1 launch0 p0 e0 about1 theMethod args0 below0 :=
  ⟨lists_1, trivial, launch0.admits_env _ _ _, launch0.least_env, fairChoices_fair.cas, fairChoices_fair.clock, w_frames, w_args, w_heap, w_applies, ⟨w_consts, trivial⟩, w_rest, w_case⟩
end start1
theorem witness_1 : WitnessClaimed_1 := ⟨start1.p0, start1.e0, start1.about1, start1.theMethod, start1.args0, start1.below0, start1.atStart⟩
end Jvm.Pilot.@@N@@
