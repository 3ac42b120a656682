import JvmDerived
import JvmDerived.Pilot.@@N@@Statement
import JvmDerived.Pilot.@@N@@Code
set_option linter.unusedVariables false
set_option linter.unusedSimpArgs false
namespace Jvm.Pilot.@@N@@
open Jvm Jvm.ClassFile Sem Op Lib Jvm.Free Jvm.Stand Jvm.LawKit Jvm.RoadKit Bundle Jvm.Pilot.@@N@@.Jvm.D
section OwnKit
variable {p : Program} {l : Launch} {e : Env} {R : Room} {s : State} {m : MethodId} {args : Array Value} {below : List Frame} {meth : Method} {c : Code} {T : State} {locs : List Loc} {cells slots : Nat} {Z : State} {h h' : Heap} {a b : Addr} {ty : FieldType}
/-- from S the run comes to a state of which F holds -/
def oGl (p : Program) (e : Env) (below : List Frame) (S : State) (F : State → Prop) : Prop := ∃ t, Steps p.tables e below S t ∧ F t
theorem oOn {S S' : State} {F : State → Prop} (st : ∀ t, Steps p.tables e below S' t → Steps p.tables e below S t) (k : oGl p e below S' F) : oGl p e below S F := by
  obtain ⟨t, k1, k2⟩ := k; exact ⟨t, st t k1, k2⟩
theorem oSt {S S' : State} {F : State → Prop} (st : Steps p.tables e below S S') (k : oGl p e below S' F) : oGl p e below S F := by
  obtain ⟨t, k1, k2⟩ := k; exact ⟨t, st.trans k1, k2⟩
theorem oCast {g g' : JFrame} {F : State → Prop} (q : g = g') (k : oGl p e below (T.setTop g') F) : oGl p e below (T.setTop g) F := q ▸ k
def oFin (s : State) (below : List Frame) (Q : Option Value → Heap → List Loc → Prop) (C S : Nat) (t : State) : Prop := ∃ o, t.status = .running ∧ Ended t below o ∧ ∃ v L, o = .returned v ∧ Q v t.heap L ∧ FrameEnd s o t L C S
theorem oEnter {S0 : State} {Q : Option Value → Heap → List Loc → Prop} {C S : Nat} (k : oGl p e below S0 (oFin s below Q C S)) : ∃ s₂ o, Steps p.tables e below S0 s₂ ∧ s₂.status = .running ∧ Ended s₂ below o ∧ ∃ v L, o = .returned v ∧ Q v s₂.heap L ∧ FrameEnd s o s₂ L C S := by
  obtain ⟨t, k1, o, k2, k3, k4⟩ := k; exact ⟨t, o, k1, k2, k3, k4⟩
theorem oRetI (X : Stand p l e R s m args below meth c T locs cells slots) (hx : p.tables.exec = Jvm.exec) (hl : meth.locks = false) {pc : Nat} {Ls : Array Slot} {z : Int32} {rest : List Value} (hret : meth.sig.returnType = some .int) (hd : decode c.code pc = .ok (.ireturn, 1))
    {Q : Option Value → Heap → List Loc → Prop} {C S : Nat} (hc : cells ≤ C) (hs : slots ≤ S) (hq : Q (some (.int z)) T.heap locs) : oGl p e below (T.setTop (mkF m pc Ls (.int z :: rest))) (oFin s below Q C S) := by
  obtain ⟨fs, hr, hrun, hended, hW, hsame⟩ := X.leave (v := some (.int z)) (fun q => by rw [hret] at q; cases q) hl
  exact ⟨_, retOut X hx hret rfl (Or.inl ⟨rfl, Or.inl rfl, _, rfl⟩) hd hr, _, hrun, hended, _, _, rfl, hq, ⟨_, rfl⟩, hW, hsame.mono hc hs⟩
theorem oRetN {t : FieldType} (X : Stand p l e R s m args below meth c T locs cells slots) (hx : p.tables.exec = Jvm.exec) (hl : meth.locks = false) {pc : Nat} {Ls : Array Slot} {z : Int32} {rest : List Value} (hret : meth.sig.returnType = some t) (ht : t = .boolean ∨ t = .byte ∨ t = .char ∨ t = .short) (hd : decode c.code pc = .ok (.ireturn, 1))
    {Q : Option Value → Heap → List Loc → Prop} {C S : Nat} (hc : cells ≤ C) (hs : slots ≤ S) (hq : Q (some (.int (nar t z))) T.heap locs) : oGl p e below (T.setTop (mkF m pc Ls (.int z :: rest))) (oFin s below Q C S) := by
  obtain ⟨fs, hr, hrun, hended, hW, hsame⟩ := X.leave (v := some (.int (nar t z))) (fun q => by rw [hret] at q; cases q) hl
  exact ⟨_, retN X hx hret ht hd hr, _, hrun, hended, _, _, rfl, hq, ⟨_, rfl⟩, hW, hsame.mono hc hs⟩
theorem oRetJ (X : Stand p l e R s m args below meth c T locs cells slots) (hx : p.tables.exec = Jvm.exec) (hl : meth.locks = false) {pc : Nat} {Ls : Array Slot} {z : Int64} {rest : List Value} (hret : meth.sig.returnType = some .long) (hd : decode c.code pc = .ok (.lreturn, 1))
    {Q : Option Value → Heap → List Loc → Prop} {C S : Nat} (hc : cells ≤ C) (hs : slots ≤ S) (hq : Q (some (.long z)) T.heap locs) : oGl p e below (T.setTop (mkF m pc Ls (.long z :: rest))) (oFin s below Q C S) := by
  obtain ⟨fs, hr, hrun, hended, hW, hsame⟩ := X.leave (v := some (.long z)) (fun q => by rw [hret] at q; cases q) hl
  exact ⟨_, retOut X hx hret rfl (Or.inr (Or.inl ⟨rfl, rfl, _, rfl⟩)) hd hr, _, hrun, hended, _, _, rfl, hq, ⟨_, rfl⟩, hW, hsame.mono hc hs⟩
theorem narrow_ref {t : FieldType} {w : Value} (ht : t.isReference = true) (hw : w.isRef = true) : narrow t w = w := by
  rcases ref_cases hw with rfl | ⟨a, rfl⟩ <;> cases t <;> first | rfl | (cases ht; done)
theorem oRetR {t : FieldType} (X : Stand p l e R s m args below meth c T locs cells slots) (hx : p.tables.exec = Jvm.exec) (hl : meth.locks = false) {pc : Nat} {Ls : Array Slot} {w : Value} {rest : List Value} (hret : meth.sig.returnType = some t) (ht : t.isReference = true) (hw : w.isRef = true) (hd : decode c.code pc = .ok (.areturn, 1))
    {Q : Option Value → Heap → List Loc → Prop} {C S : Nat} (hc : cells ≤ C) (hs : slots ≤ S) (hq : Q (some w) T.heap locs) : oGl p e below (T.setTop (mkF m pc Ls (w :: rest))) (oFin s below Q C S) := by
  obtain ⟨fs, hr, hrun, hended, hW, hsame⟩ := X.leave (v := some w) (fun q => by rw [hret] at q; cases q) hl
  exact ⟨_, retOut X hx hret (narrow_ref ht hw) (Or.inr (Or.inr (Or.inr (Or.inr ⟨rfl, ht, hw⟩)))) hd hr, _, hrun, hended, _, _, rfl, hq, ⟨_, rfl⟩, hW, hsame.mono hc hs⟩
theorem oRet0 (X : Stand p l e R s m args below meth c T locs cells slots) (hx : p.tables.exec = Jvm.exec) (hl : meth.locks = false) {pc : Nat} {Ls : Array Slot} (hret : meth.sig.returnType = none) (hd : decode c.code pc = .ok (.return_, 1))
    {Q : Option Value → Heap → List Loc → Prop} {C S : Nat} (hc : cells ≤ C) (hs : slots ≤ S) (hq : Q none T.heap locs) : oGl p e below (T.setTop (mkF m pc Ls [])) (oFin s below Q C S) := by
  obtain ⟨fs, hr, hrun, hended, hW, hsame⟩ := X.leave (v := none) (fun _ => rfl) hl
  exact ⟨_, X.returnOut hx hret hd hr, _, hrun, hended, _, _, rfl, hq, ⟨_, rfl⟩, hW, hsame.mono hc hs⟩
def oFinW (s : State) (below : List Frame) (Q : Option Value → Heap → List Loc → Prop) (C S : Nat) (t : State) : Prop := ∃ o, t.status = .running ∧ Ended t below o ∧ ∃ v L, o = .returned v ∧ Q v t.heap L ∧ ReturnedEndW s o t L C S
theorem oEnterW {S0 : State} {Q : Option Value → Heap → List Loc → Prop} {C S : Nat} (k : oGl p e below S0 (oFinW s below Q C S)) : ∃ s₂ o, Steps p.tables e below S0 s₂ ∧ s₂.status = .running ∧ Ended s₂ below o ∧ ∃ v L, o = .returned v ∧ Q v s₂.heap L ∧ ReturnedEndW s o s₂ L C S := by
  obtain ⟨t, k1, o, k2, k3, k4⟩ := k; exact ⟨t, o, k1, k2, k3, k4⟩
theorem oRetIW {vm₁ : Vm} {n : Nat} (X : Stand p l e R (s.setVm vm₁) m args below meth c T locs cells slots) (hS : s.Since vm₁ n) (hn : n ≤ T.heap.size) (hx : p.tables.exec = Jvm.exec) (hl : meth.locks = false) {pc : Nat} {Ls : Array Slot} {z : Int32} {rest : List Value} (hret : meth.sig.returnType = some .int) (hd : decode c.code pc = .ok (.ireturn, 1))
    {Q : Option Value → Heap → List Loc → Prop} {C S : Nat} (hc : cells ≤ C) (hs : slots ≤ S) (hq : Q (some (.int z)) T.heap locs) : oGl p e below (T.setTop (mkF m pc Ls (.int z :: rest))) (oFinW s below Q C S) := by
  obtain ⟨fs, hr, hrun, hended, h1, h2, h3, hsame⟩ := X.leaveW hS hn (v := some (.int z)) (fun q => by rw [hret] at q; cases q) hl
  exact ⟨_, retOut X hx hret rfl (Or.inl ⟨rfl, Or.inl rfl, _, rfl⟩) hd hr, _, hrun, hended, _, _, rfl, hq, h1, h2, h3, hsame.mono hc hs⟩
theorem oRetNW {t : FieldType} {vm₁ : Vm} {n : Nat} (X : Stand p l e R (s.setVm vm₁) m args below meth c T locs cells slots) (hS : s.Since vm₁ n) (hn : n ≤ T.heap.size) (hx : p.tables.exec = Jvm.exec) (hl : meth.locks = false) {pc : Nat} {Ls : Array Slot} {z : Int32} {rest : List Value} (hret : meth.sig.returnType = some t) (ht : t = .boolean ∨ t = .byte ∨ t = .char ∨ t = .short) (hd : decode c.code pc = .ok (.ireturn, 1))
    {Q : Option Value → Heap → List Loc → Prop} {C S : Nat} (hc : cells ≤ C) (hs : slots ≤ S) (hq : Q (some (.int (nar t z))) T.heap locs) : oGl p e below (T.setTop (mkF m pc Ls (.int z :: rest))) (oFinW s below Q C S) := by
  obtain ⟨fs, hr, hrun, hended, h1, h2, h3, hsame⟩ := X.leaveW hS hn (v := some (.int (nar t z))) (fun q => by rw [hret] at q; cases q) hl
  exact ⟨_, retN X hx hret ht hd hr, _, hrun, hended, _, _, rfl, hq, h1, h2, h3, hsame.mono hc hs⟩
theorem oRetRW {t : FieldType} {vm₁ : Vm} {n : Nat} (X : Stand p l e R (s.setVm vm₁) m args below meth c T locs cells slots) (hS : s.Since vm₁ n) (hn : n ≤ T.heap.size) (hx : p.tables.exec = Jvm.exec) (hl : meth.locks = false) {pc : Nat} {Ls : Array Slot} {w : Value} {rest : List Value} (hret : meth.sig.returnType = some t) (ht : t.isReference = true) (hw : w.isRef = true) (hd : decode c.code pc = .ok (.areturn, 1))
    {Q : Option Value → Heap → List Loc → Prop} {C S : Nat} (hc : cells ≤ C) (hs : slots ≤ S) (hq : Q (some w) T.heap locs) : oGl p e below (T.setTop (mkF m pc Ls (w :: rest))) (oFinW s below Q C S) := by
  obtain ⟨fs, hr, hrun, hended, h1, h2, h3, hsame⟩ := X.leaveW hS hn (v := some w) (fun q => by rw [hret] at q; cases q) hl
  exact ⟨_, retOut X hx hret (narrow_ref ht hw) (Or.inr (Or.inr (Or.inr (Or.inr ⟨rfl, ht, hw⟩)))) hd hr, _, hrun, hended, _, _, rfl, hq, h1, h2, h3, hsame.mono hc hs⟩
theorem oRet0W {vm₁ : Vm} {n : Nat} (X : Stand p l e R (s.setVm vm₁) m args below meth c T locs cells slots) (hS : s.Since vm₁ n) (hn : n ≤ T.heap.size) (hx : p.tables.exec = Jvm.exec) (hl : meth.locks = false) {pc : Nat} {Ls : Array Slot} (hret : meth.sig.returnType = none) (hd : decode c.code pc = .ok (.return_, 1))
    {Q : Option Value → Heap → List Loc → Prop} {C S : Nat} (hc : cells ≤ C) (hs : slots ≤ S) (hq : Q none T.heap locs) : oGl p e below (T.setTop (mkF m pc Ls [])) (oFinW s below Q C S) := by
  obtain ⟨fs, hr, hrun, hended, h1, h2, h3, hsame⟩ := X.leaveW hS hn (v := none) (fun _ => rfl) hl
  exact ⟨_, X.returnOut hx hret hd hr, _, hrun, hended, _, _, rfl, hq, h1, h2, h3, hsame.mono hc hs⟩
theorem oCat {w : Value} (hw : w.isRef = true) : w.category = 1 := by rcases ref_cases hw with rfl | ⟨a, rfl⟩ <;> rfl
theorem fits_refO {t : FieldType} {w : Value} (ht : t.isReference = true) (hw : w.isRef = true) : fits t w = true := by
  rcases ref_cases hw with rfl | ⟨a, rfl⟩ <;> cases t <;> first | rfl | (cases ht; done)
theorem oSto {ls : Array Slot} {i : Nat} {v : Value} {o : Slot} (hold : ls[i]? = some o) (ho : o = .unset ∨ ∃ w, o = .val w ∧ w.category = 1) (hv : v.category = 1) : storeLocals ls i v = some (ls.setIfInBounds i (.val v)) := XS.store1 hold ho hv
theorem oDup2 {tb : Tables} [Ours tb] {target : State} {g : JFrame} (hh : At T m c below) (hx : tb.exec = Jvm.exec) (hg : g.method = m) {x y : Value} {rest : List Value} (hd : decode c.code g.pc = .ok (.dup2, 1)) (hs : g.stack = x :: y :: rest) (hc : x.category = 1) (hc2 : y.category = 1)
    (hr : Steps tb e below (T.setTop { g with pc := g.pc + 1, stack := x :: y :: x :: y :: rest }) target) : Steps tb e below (T.setTop g) target := by
  subst hg
  jvm_step hh [hh.top, hx, hd, hs, hc, hc2]
  exact hr
theorem oDupX2 {tb : Tables} [Ours tb] {target : State} {g : JFrame} (hh : At T m c below) (hx : tb.exec = Jvm.exec) (hg : g.method = m) {x y z : Value} {rest : List Value} (hd : decode c.code g.pc = .ok (.dup_x2, 1)) (hs : g.stack = x :: y :: z :: rest) (hc : x.category = 1) (hc2 : y.category = 1) (hc3 : z.category = 1)
    (hr : Steps tb e below (T.setTop { g with pc := g.pc + 1, stack := x :: y :: z :: x :: rest }) target) : Steps tb e below (T.setTop g) target := by
  subst hg
  jvm_step hh [hh.top, hx, hd, hs, hc, hc2, hc3]
  exact hr
theorem oNe {x y : Nat} (q : x < y ∨ y < x) : x ≠ y := by omega
/-! single steps -/
theorem siload {pc pc' : Nat} {Ls : Array Slot} {F : State → Prop} {st : List Value} {k : Nat} {v : Int32} (X : Stand p l e R s m args below meth c T locs cells slots) (hx : p.tables.exec = Jvm.exec) (hd : decode c.code pc = .ok (.iload k, 2)) (hp : pc + 2 = pc') (hl : Ls[k]? = some (.val (.int v))) (kk : oGl p e below (T.setTop (mkF m pc' Ls (.int v :: st))) F) : oGl p e below (T.setTop (mkF m pc Ls (st))) F := by
  subst hp
  exact oOn (fun _ kK => XS.iload X.here hx rfl hd hl kK) kk
theorem siloadN {pc pc' : Nat} {Ls : Array Slot} {F : State → Prop} {st : List Value} {k : Fin 4} {v : Int32} (X : Stand p l e R s m args below meth c T locs cells slots) (hx : p.tables.exec = Jvm.exec) (hd : decode c.code pc = .ok (.iload_n k, 1)) (hp : pc + 1 = pc') (hl : Ls[k.val]? = some (.val (.int v))) (kk : oGl p e below (T.setTop (mkF m pc' Ls (.int v :: st))) F) : oGl p e below (T.setTop (mkF m pc Ls (st))) F := by
  subst hp
  exact oOn (fun _ kK => XS.iloadN X.here hx rfl hd hl kK) kk
theorem slload {pc pc' : Nat} {Ls : Array Slot} {F : State → Prop} {st : List Value} {k : Nat} {v : Int64} (X : Stand p l e R s m args below meth c T locs cells slots) (hx : p.tables.exec = Jvm.exec) (hd : decode c.code pc = .ok (.lload k, 2)) (hp : pc + 2 = pc') (hl : Ls[k]? = some (.val (.long v))) (kk : oGl p e below (T.setTop (mkF m pc' Ls (.long v :: st))) F) : oGl p e below (T.setTop (mkF m pc Ls (st))) F := by
  subst hp
  exact oOn (fun _ kK => XS.lload X.here hx rfl hd hl kK) kk
theorem slloadN {pc pc' : Nat} {Ls : Array Slot} {F : State → Prop} {st : List Value} {k : Fin 4} {v : Int64} (X : Stand p l e R s m args below meth c T locs cells slots) (hx : p.tables.exec = Jvm.exec) (hd : decode c.code pc = .ok (.lload_n k, 1)) (hp : pc + 1 = pc') (hl : Ls[k.val]? = some (.val (.long v))) (kk : oGl p e below (T.setTop (mkF m pc' Ls (.long v :: st))) F) : oGl p e below (T.setTop (mkF m pc Ls (st))) F := by
  subst hp
  exact oOn (fun _ kK => XS.lloadN X.here hx rfl hd hl kK) kk
theorem saload {pc pc' : Nat} {Ls : Array Slot} {F : State → Prop} {st : List Value} {k : Nat} {v : Value} (X : Stand p l e R s m args below meth c T locs cells slots) (hx : p.tables.exec = Jvm.exec) (hd : decode c.code pc = .ok (.aload k, 2)) (hp : pc + 2 = pc') (hl : Ls[k]? = some (.val v)) (hv : v.isRef = true) (kk : oGl p e below (T.setTop (mkF m pc' Ls (v :: st))) F) : oGl p e below (T.setTop (mkF m pc Ls (st))) F := by
  subst hp
  exact oOn (fun _ kK => XS.aload X.here hx rfl hd hl hv kK) kk
theorem saloadN {pc pc' : Nat} {Ls : Array Slot} {F : State → Prop} {st : List Value} {k : Fin 4} {v : Value} (X : Stand p l e R s m args below meth c T locs cells slots) (hx : p.tables.exec = Jvm.exec) (hd : decode c.code pc = .ok (.aload_n k, 1)) (hp : pc + 1 = pc') (hl : Ls[k.val]? = some (.val v)) (hv : v.isRef = true) (kk : oGl p e below (T.setTop (mkF m pc' Ls (v :: st))) F) : oGl p e below (T.setTop (mkF m pc Ls (st))) F := by
  subst hp
  exact oOn (fun _ kK => XS.aloadN X.here hx rfl hd hl hv kK) kk
theorem sistore {pc pc' : Nat} {Ls : Array Slot} {F : State → Prop} {st : List Value} {k : Nat} {x : Int32} {l' : Array Slot} (X : Stand p l e R s m args below meth c T locs cells slots) (hx : p.tables.exec = Jvm.exec) (hd : decode c.code pc = .ok (.istore k, 2)) (hp : pc + 2 = pc') (hl : storeLocals Ls k (.int x) = some l') (kk : oGl p e below (T.setTop (mkF m pc' l' (st))) F) : oGl p e below (T.setTop (mkF m pc Ls (.int x :: st))) F := by
  subst hp
  exact oOn (fun _ kK => XS.istore X.here hx rfl hd rfl hl kK) kk
theorem sistoreN {pc pc' : Nat} {Ls : Array Slot} {F : State → Prop} {st : List Value} {k : Fin 4} {x : Int32} {l' : Array Slot} (X : Stand p l e R s m args below meth c T locs cells slots) (hx : p.tables.exec = Jvm.exec) (hd : decode c.code pc = .ok (.istore_n k, 1)) (hp : pc + 1 = pc') (hl : storeLocals Ls k.val (.int x) = some l') (kk : oGl p e below (T.setTop (mkF m pc' l' (st))) F) : oGl p e below (T.setTop (mkF m pc Ls (.int x :: st))) F := by
  subst hp
  exact oOn (fun _ kK => XS.istoreN X.here hx rfl hd rfl hl kK) kk
theorem slstore {pc pc' : Nat} {Ls : Array Slot} {F : State → Prop} {st : List Value} {k : Nat} {x : Int64} {l' : Array Slot} (X : Stand p l e R s m args below meth c T locs cells slots) (hx : p.tables.exec = Jvm.exec) (hd : decode c.code pc = .ok (.lstore k, 2)) (hp : pc + 2 = pc') (hl : storeLocals Ls k (.long x) = some l') (kk : oGl p e below (T.setTop (mkF m pc' l' (st))) F) : oGl p e below (T.setTop (mkF m pc Ls (.long x :: st))) F := by
  subst hp
  exact oOn (fun _ kK => XS.lstore X.here hx rfl hd rfl hl kK) kk
theorem slstoreN {pc pc' : Nat} {Ls : Array Slot} {F : State → Prop} {st : List Value} {k : Fin 4} {x : Int64} {l' : Array Slot} (X : Stand p l e R s m args below meth c T locs cells slots) (hx : p.tables.exec = Jvm.exec) (hd : decode c.code pc = .ok (.lstore_n k, 1)) (hp : pc + 1 = pc') (hl : storeLocals Ls k.val (.long x) = some l') (kk : oGl p e below (T.setTop (mkF m pc' l' (st))) F) : oGl p e below (T.setTop (mkF m pc Ls (.long x :: st))) F := by
  subst hp
  exact oOn (fun _ kK => XS.lstoreN X.here hx rfl hd rfl hl kK) kk
theorem sastore {pc pc' : Nat} {Ls : Array Slot} {F : State → Prop} {st : List Value} {k : Nat} {x : Value} {l' : Array Slot} (X : Stand p l e R s m args below meth c T locs cells slots) (hx : p.tables.exec = Jvm.exec) (hd : decode c.code pc = .ok (.astore k, 2)) (hp : pc + 2 = pc') (hv : x.isRef = true) (hl : storeLocals Ls k x = some l') (kk : oGl p e below (T.setTop (mkF m pc' l' (st))) F) : oGl p e below (T.setTop (mkF m pc Ls (x :: st))) F := by
  subst hp
  exact oOn (fun _ kK => XS.astore X.here hx rfl hd rfl hv hl kK) kk
theorem sastoreN {pc pc' : Nat} {Ls : Array Slot} {F : State → Prop} {st : List Value} {k : Fin 4} {x : Value} {l' : Array Slot} (X : Stand p l e R s m args below meth c T locs cells slots) (hx : p.tables.exec = Jvm.exec) (hd : decode c.code pc = .ok (.astore_n k, 1)) (hp : pc + 1 = pc') (hv : x.isRef = true) (hl : storeLocals Ls k.val x = some l') (kk : oGl p e below (T.setTop (mkF m pc' l' (st))) F) : oGl p e below (T.setTop (mkF m pc Ls (x :: st))) F := by
  subst hp
  exact oOn (fun _ kK => XS.astoreN X.here hx rfl hd rfl hv hl kK) kk
theorem siconst {pc pc' : Nat} {Ls : Array Slot} {F : State → Prop} {st : List Value} {i : Int} {z : Int32} (X : Stand p l e R s m args below meth c T locs cells slots) (hx : p.tables.exec = Jvm.exec) (hd : decode c.code pc = .ok (.iconst i, 1)) (hp : pc + 1 = pc') (hz : Int32.ofInt i = z) (kk : oGl p e below (T.setTop (mkF m pc' Ls (.int z :: st))) F) : oGl p e below (T.setTop (mkF m pc Ls (st))) F := by
  subst hp hz
  exact oOn (fun _ kK => XS.iconst X.here hx rfl hd kK) kk
theorem sbipush {pc pc' : Nat} {Ls : Array Slot} {F : State → Prop} {st : List Value} {i : Int} {z : Int32} (X : Stand p l e R s m args below meth c T locs cells slots) (hx : p.tables.exec = Jvm.exec) (hd : decode c.code pc = .ok (.bipush i, 2)) (hp : pc + 2 = pc') (hz : (Int8.ofInt i).toInt32 = z) (kk : oGl p e below (T.setTop (mkF m pc' Ls (.int z :: st))) F) : oGl p e below (T.setTop (mkF m pc Ls (st))) F := by
  subst hp hz
  exact oOn (fun _ kK => XS.bipush X.here hx rfl hd kK) kk
theorem ssipush {pc pc' : Nat} {Ls : Array Slot} {F : State → Prop} {st : List Value} {i : Int} {z : Int32} (X : Stand p l e R s m args below meth c T locs cells slots) (hx : p.tables.exec = Jvm.exec) (hd : decode c.code pc = .ok (.sipush i, 3)) (hp : pc + 3 = pc') (hz : (Int16.ofInt i).toInt32 = z) (kk : oGl p e below (T.setTop (mkF m pc' Ls (.int z :: st))) F) : oGl p e below (T.setTop (mkF m pc Ls (st))) F := by
  subst hp hz
  exact oOn (fun _ kK => XS.sipush X.here hx rfl hd kK) kk
theorem slconst {pc pc' : Nat} {Ls : Array Slot} {F : State → Prop} {st : List Value} {k : Fin 2} {z : Int64} (X : Stand p l e R s m args below meth c T locs cells slots) (hx : p.tables.exec = Jvm.exec) (hd : decode c.code pc = .ok (.lconst k, 1)) (hp : pc + 1 = pc') (hz : Int64.ofNat k = z) (kk : oGl p e below (T.setTop (mkF m pc' Ls (.long z :: st))) F) : oGl p e below (T.setTop (mkF m pc Ls (st))) F := by
  subst hp hz
  exact oOn (fun _ kK => XS.lconst X.here hx rfl hd kK) kk
theorem saconst_null {pc pc' : Nat} {Ls : Array Slot} {F : State → Prop} {st : List Value} (X : Stand p l e R s m args below meth c T locs cells slots) (hx : p.tables.exec = Jvm.exec) (hd : decode c.code pc = .ok (.aconst_null, 1)) (hp : pc + 1 = pc')  (kk : oGl p e below (T.setTop (mkF m pc' Ls (.null :: st))) F) : oGl p e below (T.setTop (mkF m pc Ls (st))) F := by
  subst hp
  exact oOn (fun _ kK => XS.aconstNull X.here hx rfl hd kK) kk
theorem siadd {pc pc' : Nat} {Ls : Array Slot} {F : State → Prop} {st : List Value} {x y z : Int32} (X : Stand p l e R s m args below meth c T locs cells slots) (hx : p.tables.exec = Jvm.exec) (hd : decode c.code pc = .ok (.iadd, 1)) (hp : pc + 1 = pc') (hz : x + y = z) (kk : oGl p e below (T.setTop (mkF m pc' Ls (.int z :: st))) F) : oGl p e below (T.setTop (mkF m pc Ls (.int y :: .int x :: st))) F := by
  subst hp hz
  exact oOn (fun _ kK => XS.iadd X.here hx rfl hd rfl kK) kk
theorem sladd {pc pc' : Nat} {Ls : Array Slot} {F : State → Prop} {st : List Value} {x y z : Int64} (X : Stand p l e R s m args below meth c T locs cells slots) (hx : p.tables.exec = Jvm.exec) (hd : decode c.code pc = .ok (.ladd, 1)) (hp : pc + 1 = pc') (hz : x + y = z) (kk : oGl p e below (T.setTop (mkF m pc' Ls (.long z :: st))) F) : oGl p e below (T.setTop (mkF m pc Ls (.long y :: .long x :: st))) F := by
  subst hp hz
  exact oOn (fun _ kK => XS.ladd X.here hx rfl hd rfl kK) kk
theorem sisub {pc pc' : Nat} {Ls : Array Slot} {F : State → Prop} {st : List Value} {x y z : Int32} (X : Stand p l e R s m args below meth c T locs cells slots) (hx : p.tables.exec = Jvm.exec) (hd : decode c.code pc = .ok (.isub, 1)) (hp : pc + 1 = pc') (hz : x - y = z) (kk : oGl p e below (T.setTop (mkF m pc' Ls (.int z :: st))) F) : oGl p e below (T.setTop (mkF m pc Ls (.int y :: .int x :: st))) F := by
  subst hp hz
  exact oOn (fun _ kK => XS.isub X.here hx rfl hd rfl kK) kk
theorem slsub {pc pc' : Nat} {Ls : Array Slot} {F : State → Prop} {st : List Value} {x y z : Int64} (X : Stand p l e R s m args below meth c T locs cells slots) (hx : p.tables.exec = Jvm.exec) (hd : decode c.code pc = .ok (.lsub, 1)) (hp : pc + 1 = pc') (hz : x - y = z) (kk : oGl p e below (T.setTop (mkF m pc' Ls (.long z :: st))) F) : oGl p e below (T.setTop (mkF m pc Ls (.long y :: .long x :: st))) F := by
  subst hp hz
  exact oOn (fun _ kK => XS.lsub X.here hx rfl hd rfl kK) kk
theorem simul {pc pc' : Nat} {Ls : Array Slot} {F : State → Prop} {st : List Value} {x y z : Int32} (X : Stand p l e R s m args below meth c T locs cells slots) (hx : p.tables.exec = Jvm.exec) (hd : decode c.code pc = .ok (.imul, 1)) (hp : pc + 1 = pc') (hz : x * y = z) (kk : oGl p e below (T.setTop (mkF m pc' Ls (.int z :: st))) F) : oGl p e below (T.setTop (mkF m pc Ls (.int y :: .int x :: st))) F := by
  subst hp hz
  exact oOn (fun _ kK => XS.imul X.here hx rfl hd rfl kK) kk
theorem slmul {pc pc' : Nat} {Ls : Array Slot} {F : State → Prop} {st : List Value} {x y z : Int64} (X : Stand p l e R s m args below meth c T locs cells slots) (hx : p.tables.exec = Jvm.exec) (hd : decode c.code pc = .ok (.lmul, 1)) (hp : pc + 1 = pc') (hz : x * y = z) (kk : oGl p e below (T.setTop (mkF m pc' Ls (.long z :: st))) F) : oGl p e below (T.setTop (mkF m pc Ls (.long y :: .long x :: st))) F := by
  subst hp hz
  exact oOn (fun _ kK => XS.lmul X.here hx rfl hd rfl kK) kk
theorem siand {pc pc' : Nat} {Ls : Array Slot} {F : State → Prop} {st : List Value} {x y z : Int32} (X : Stand p l e R s m args below meth c T locs cells slots) (hx : p.tables.exec = Jvm.exec) (hd : decode c.code pc = .ok (.iand, 1)) (hp : pc + 1 = pc') (hz : x &&& y = z) (kk : oGl p e below (T.setTop (mkF m pc' Ls (.int z :: st))) F) : oGl p e below (T.setTop (mkF m pc Ls (.int y :: .int x :: st))) F := by
  subst hp hz
  exact oOn (fun _ kK => XS.iand X.here hx rfl hd rfl kK) kk
theorem sland {pc pc' : Nat} {Ls : Array Slot} {F : State → Prop} {st : List Value} {x y z : Int64} (X : Stand p l e R s m args below meth c T locs cells slots) (hx : p.tables.exec = Jvm.exec) (hd : decode c.code pc = .ok (.land, 1)) (hp : pc + 1 = pc') (hz : x &&& y = z) (kk : oGl p e below (T.setTop (mkF m pc' Ls (.long z :: st))) F) : oGl p e below (T.setTop (mkF m pc Ls (.long y :: .long x :: st))) F := by
  subst hp hz
  exact oOn (fun _ kK => XS.land X.here hx rfl hd rfl kK) kk
theorem sior {pc pc' : Nat} {Ls : Array Slot} {F : State → Prop} {st : List Value} {x y z : Int32} (X : Stand p l e R s m args below meth c T locs cells slots) (hx : p.tables.exec = Jvm.exec) (hd : decode c.code pc = .ok (.ior, 1)) (hp : pc + 1 = pc') (hz : x ||| y = z) (kk : oGl p e below (T.setTop (mkF m pc' Ls (.int z :: st))) F) : oGl p e below (T.setTop (mkF m pc Ls (.int y :: .int x :: st))) F := by
  subst hp hz
  exact oOn (fun _ kK => XS.ior X.here hx rfl hd rfl kK) kk
theorem slor {pc pc' : Nat} {Ls : Array Slot} {F : State → Prop} {st : List Value} {x y z : Int64} (X : Stand p l e R s m args below meth c T locs cells slots) (hx : p.tables.exec = Jvm.exec) (hd : decode c.code pc = .ok (.lor, 1)) (hp : pc + 1 = pc') (hz : x ||| y = z) (kk : oGl p e below (T.setTop (mkF m pc' Ls (.long z :: st))) F) : oGl p e below (T.setTop (mkF m pc Ls (.long y :: .long x :: st))) F := by
  subst hp hz
  exact oOn (fun _ kK => XS.lor X.here hx rfl hd rfl kK) kk
theorem sixor {pc pc' : Nat} {Ls : Array Slot} {F : State → Prop} {st : List Value} {x y z : Int32} (X : Stand p l e R s m args below meth c T locs cells slots) (hx : p.tables.exec = Jvm.exec) (hd : decode c.code pc = .ok (.ixor, 1)) (hp : pc + 1 = pc') (hz : x ^^^ y = z) (kk : oGl p e below (T.setTop (mkF m pc' Ls (.int z :: st))) F) : oGl p e below (T.setTop (mkF m pc Ls (.int y :: .int x :: st))) F := by
  subst hp hz
  exact oOn (fun _ kK => XS.ixor X.here hx rfl hd rfl kK) kk
theorem slxor {pc pc' : Nat} {Ls : Array Slot} {F : State → Prop} {st : List Value} {x y z : Int64} (X : Stand p l e R s m args below meth c T locs cells slots) (hx : p.tables.exec = Jvm.exec) (hd : decode c.code pc = .ok (.lxor, 1)) (hp : pc + 1 = pc') (hz : x ^^^ y = z) (kk : oGl p e below (T.setTop (mkF m pc' Ls (.long z :: st))) F) : oGl p e below (T.setTop (mkF m pc Ls (.long y :: .long x :: st))) F := by
  subst hp hz
  exact oOn (fun _ kK => XS.lxor X.here hx rfl hd rfl kK) kk
theorem sishl {pc pc' : Nat} {Ls : Array Slot} {F : State → Prop} {st : List Value} {x y z : Int32} (X : Stand p l e R s m args below meth c T locs cells slots) (hx : p.tables.exec = Jvm.exec) (hd : decode c.code pc = .ok (.ishl, 1)) (hp : pc + 1 = pc') (hz : x <<< (y &&& 31) = z) (kk : oGl p e below (T.setTop (mkF m pc' Ls (.int z :: st))) F) : oGl p e below (T.setTop (mkF m pc Ls (.int y :: .int x :: st))) F := by
  subst hp hz
  exact oOn (fun _ kK => XS.ishl X.here hx rfl hd rfl kK) kk
theorem sishr {pc pc' : Nat} {Ls : Array Slot} {F : State → Prop} {st : List Value} {x y z : Int32} (X : Stand p l e R s m args below meth c T locs cells slots) (hx : p.tables.exec = Jvm.exec) (hd : decode c.code pc = .ok (.ishr, 1)) (hp : pc + 1 = pc') (hz : x >>> (y &&& 31) = z) (kk : oGl p e below (T.setTop (mkF m pc' Ls (.int z :: st))) F) : oGl p e below (T.setTop (mkF m pc Ls (.int y :: .int x :: st))) F := by
  subst hp hz
  exact oOn (fun _ kK => XS.ishr X.here hx rfl hd rfl kK) kk
theorem siushr {pc pc' : Nat} {Ls : Array Slot} {F : State → Prop} {st : List Value} {x y z : Int32} (X : Stand p l e R s m args below meth c T locs cells slots) (hx : p.tables.exec = Jvm.exec) (hd : decode c.code pc = .ok (.iushr, 1)) (hp : pc + 1 = pc') (hz : (x.toUInt32 >>> (y &&& 31).toUInt32).toInt32 = z) (kk : oGl p e below (T.setTop (mkF m pc' Ls (.int z :: st))) F) : oGl p e below (T.setTop (mkF m pc Ls (.int y :: .int x :: st))) F := by
  subst hp hz
  exact oOn (fun _ kK => XS.iushr X.here hx rfl hd rfl kK) kk
theorem slshl {pc pc' : Nat} {Ls : Array Slot} {F : State → Prop} {st : List Value} {x z : Int64} {y : Int32} (X : Stand p l e R s m args below meth c T locs cells slots) (hx : p.tables.exec = Jvm.exec) (hd : decode c.code pc = .ok (.lshl, 1)) (hp : pc + 1 = pc') (hz : x <<< (y &&& 0x3f).toInt64 = z) (kk : oGl p e below (T.setTop (mkF m pc' Ls (.long z :: st))) F) : oGl p e below (T.setTop (mkF m pc Ls (.int y :: .long x :: st))) F := by
  subst hp hz
  exact oOn (fun _ kK => XS.lshl X.here hx rfl hd rfl kK) kk
theorem slshr {pc pc' : Nat} {Ls : Array Slot} {F : State → Prop} {st : List Value} {x z : Int64} {y : Int32} (X : Stand p l e R s m args below meth c T locs cells slots) (hx : p.tables.exec = Jvm.exec) (hd : decode c.code pc = .ok (.lshr, 1)) (hp : pc + 1 = pc') (hz : x >>> (y &&& 0x3f).toInt64 = z) (kk : oGl p e below (T.setTop (mkF m pc' Ls (.long z :: st))) F) : oGl p e below (T.setTop (mkF m pc Ls (.int y :: .long x :: st))) F := by
  subst hp hz
  exact oOn (fun _ kK => XS.lshr X.here hx rfl hd rfl kK) kk
theorem slushr {pc pc' : Nat} {Ls : Array Slot} {F : State → Prop} {st : List Value} {x z : Int64} {y : Int32} (X : Stand p l e R s m args below meth c T locs cells slots) (hx : p.tables.exec = Jvm.exec) (hd : decode c.code pc = .ok (.lushr, 1)) (hp : pc + 1 = pc') (hz : (x.toUInt64 >>> (y &&& 0x3f).toInt64.toUInt64).toInt64 = z) (kk : oGl p e below (T.setTop (mkF m pc' Ls (.long z :: st))) F) : oGl p e below (T.setTop (mkF m pc Ls (.int y :: .long x :: st))) F := by
  subst hp hz
  exact oOn (fun _ kK => XS.lushr X.here hx rfl hd rfl kK) kk
theorem sineg {pc pc' : Nat} {Ls : Array Slot} {F : State → Prop} {st : List Value} {x : Int32} {z : Int32} (X : Stand p l e R s m args below meth c T locs cells slots) (hx : p.tables.exec = Jvm.exec) (hd : decode c.code pc = .ok (.ineg, 1)) (hp : pc + 1 = pc') (hz : -x = z) (kk : oGl p e below (T.setTop (mkF m pc' Ls (.int z :: st))) F) : oGl p e below (T.setTop (mkF m pc Ls (.int x :: st))) F := by
  subst hp hz
  exact oOn (fun _ kK => XS.ineg X.here hx rfl hd rfl kK) kk
theorem slneg {pc pc' : Nat} {Ls : Array Slot} {F : State → Prop} {st : List Value} {x : Int64} {z : Int64} (X : Stand p l e R s m args below meth c T locs cells slots) (hx : p.tables.exec = Jvm.exec) (hd : decode c.code pc = .ok (.lneg, 1)) (hp : pc + 1 = pc') (hz : -x = z) (kk : oGl p e below (T.setTop (mkF m pc' Ls (.long z :: st))) F) : oGl p e below (T.setTop (mkF m pc Ls (.long x :: st))) F := by
  subst hp hz
  exact oOn (fun _ kK => XS.lneg X.here hx rfl hd rfl kK) kk
theorem si2l {pc pc' : Nat} {Ls : Array Slot} {F : State → Prop} {st : List Value} {x : Int32} {z : Int64} (X : Stand p l e R s m args below meth c T locs cells slots) (hx : p.tables.exec = Jvm.exec) (hd : decode c.code pc = .ok (.i2l, 1)) (hp : pc + 1 = pc') (hz : x.toInt64 = z) (kk : oGl p e below (T.setTop (mkF m pc' Ls (.long z :: st))) F) : oGl p e below (T.setTop (mkF m pc Ls (.int x :: st))) F := by
  subst hp hz
  exact oOn (fun _ kK => XS.i2l X.here hx rfl hd rfl kK) kk
theorem sl2i {pc pc' : Nat} {Ls : Array Slot} {F : State → Prop} {st : List Value} {x : Int64} {z : Int32} (X : Stand p l e R s m args below meth c T locs cells slots) (hx : p.tables.exec = Jvm.exec) (hd : decode c.code pc = .ok (.l2i, 1)) (hp : pc + 1 = pc') (hz : x.toInt32 = z) (kk : oGl p e below (T.setTop (mkF m pc' Ls (.int z :: st))) F) : oGl p e below (T.setTop (mkF m pc Ls (.long x :: st))) F := by
  subst hp hz
  exact oOn (fun _ kK => XS.l2i X.here hx rfl hd rfl kK) kk
theorem si2b {pc pc' : Nat} {Ls : Array Slot} {F : State → Prop} {st : List Value} {x : Int32} {z : Int32} (X : Stand p l e R s m args below meth c T locs cells slots) (hx : p.tables.exec = Jvm.exec) (hd : decode c.code pc = .ok (.i2b, 1)) (hp : pc + 1 = pc') (hz : x.toInt8.toInt32 = z) (kk : oGl p e below (T.setTop (mkF m pc' Ls (.int z :: st))) F) : oGl p e below (T.setTop (mkF m pc Ls (.int x :: st))) F := by
  subst hp hz
  exact oOn (fun _ kK => XS.i2b X.here hx rfl hd rfl kK) kk
theorem si2s {pc pc' : Nat} {Ls : Array Slot} {F : State → Prop} {st : List Value} {x : Int32} {z : Int32} (X : Stand p l e R s m args below meth c T locs cells slots) (hx : p.tables.exec = Jvm.exec) (hd : decode c.code pc = .ok (.i2s, 1)) (hp : pc + 1 = pc') (hz : x.toInt16.toInt32 = z) (kk : oGl p e below (T.setTop (mkF m pc' Ls (.int z :: st))) F) : oGl p e below (T.setTop (mkF m pc Ls (.int x :: st))) F := by
  subst hp hz
  exact oOn (fun _ kK => XS.i2s X.here hx rfl hd rfl kK) kk
theorem si2c {pc pc' : Nat} {Ls : Array Slot} {F : State → Prop} {st : List Value} {x : Int32} {z : Int32} (X : Stand p l e R s m args below meth c T locs cells slots) (hx : p.tables.exec = Jvm.exec) (hd : decode c.code pc = .ok (.i2c, 1)) (hp : pc + 1 = pc') (hz : x.toUInt32.toUInt16.toUInt32.toInt32 = z) (kk : oGl p e below (T.setTop (mkF m pc' Ls (.int z :: st))) F) : oGl p e below (T.setTop (mkF m pc Ls (.int x :: st))) F := by
  subst hp hz
  exact oOn (fun _ kK => XS.i2c X.here hx rfl hd rfl kK) kk
theorem slcmp {pc pc' : Nat} {Ls : Array Slot} {F : State → Prop} {st : List Value} {x y : Int64} (X : Stand p l e R s m args below meth c T locs cells slots) (hx : p.tables.exec = Jvm.exec) (hd : decode c.code pc = .ok (.lcmp, 1)) (hp : pc + 1 = pc')  (kk : oGl p e below (T.setTop (mkF m pc' Ls (.int (lcmpW x y) :: st))) F) : oGl p e below (T.setTop (mkF m pc Ls (.long y :: .long x :: st))) F := by
  subst hp
  exact oOn (fun _ kK => XS.lcmp X.here hx rfl hd rfl kK) kk
theorem sirem {pc pc' : Nat} {Ls : Array Slot} {F : State → Prop} {st : List Value} {x y z : Int32} (X : Stand p l e R s m args below meth c T locs cells slots) (hx : p.tables.exec = Jvm.exec) (hd : decode c.code pc = .ok (.irem, 1)) (hp : pc + 1 = pc') (hy : y ≠ 0) (hz : x % y = z) (kk : oGl p e below (T.setTop (mkF m pc' Ls (.int z :: st))) F) : oGl p e below (T.setTop (mkF m pc Ls (.int y :: .int x :: st))) F := by
  subst hp hz
  exact oOn (fun _ kK => iremM X hx rfl hd rfl hy kK) kk
theorem sidiv {pc pc' : Nat} {Ls : Array Slot} {F : State → Prop} {st : List Value} {x y z : Int32} (X : Stand p l e R s m args below meth c T locs cells slots) (hx : p.tables.exec = Jvm.exec) (hd : decode c.code pc = .ok (.idiv, 1)) (hp : pc + 1 = pc') (hy : y ≠ 0) (hz : x / y = z) (kk : oGl p e below (T.setTop (mkF m pc' Ls (.int z :: st))) F) : oGl p e below (T.setTop (mkF m pc Ls (.int y :: .int x :: st))) F := by
  subst hp hz
  exact oOn (fun _ kK => XS.idiv X.here hx rfl hd rfl hy kK) kk
theorem siinc {pc pc' : Nat} {Ls : Array Slot} {F : State → Prop} {st : List Value} {k : Nat} {cst : Int} {x : Int32} {l' : Array Slot} (X : Stand p l e R s m args below meth c T locs cells slots) (hx : p.tables.exec = Jvm.exec) (hd : decode c.code pc = .ok (.iinc k cst, 3)) (hp : pc + 3 = pc') (hl : Ls[k]? = some (.val (.int x))) (hl' : storeLocals Ls k (.int (x + Int32.ofInt cst)) = some l') (kk : oGl p e below (T.setTop (mkF m pc' l' (st))) F) : oGl p e below (T.setTop (mkF m pc Ls (st))) F := by
  subst hp
  exact oOn (fun _ kK => XS.iinc X.here hx rfl hd hl hl' kK) kk
theorem sdup {pc pc' : Nat} {Ls : Array Slot} {F : State → Prop} {st : List Value} {x : Value} (X : Stand p l e R s m args below meth c T locs cells slots) (hx : p.tables.exec = Jvm.exec) (hd : decode c.code pc = .ok (.dup, 1)) (hp : pc + 1 = pc') (hc : x.category = 1) (kk : oGl p e below (T.setTop (mkF m pc' Ls (x :: x :: st))) F) : oGl p e below (T.setTop (mkF m pc Ls (x :: st))) F := by
  subst hp
  exact oOn (fun _ kK => XS.dup X.here hx rfl hd rfl hc kK) kk
theorem spop {pc pc' : Nat} {Ls : Array Slot} {F : State → Prop} {st : List Value} {x : Value} (X : Stand p l e R s m args below meth c T locs cells slots) (hx : p.tables.exec = Jvm.exec) (hd : decode c.code pc = .ok (.pop, 1)) (hp : pc + 1 = pc') (hc : x.category = 1) (kk : oGl p e below (T.setTop (mkF m pc' Ls (st))) F) : oGl p e below (T.setTop (mkF m pc Ls (x :: st))) F := by
  subst hp
  exact oOn (fun _ kK => XS.pop X.here hx rfl hd rfl hc kK) kk
theorem sdup_x1 {pc pc' : Nat} {Ls : Array Slot} {F : State → Prop} {st : List Value} {x y : Value} (X : Stand p l e R s m args below meth c T locs cells slots) (hx : p.tables.exec = Jvm.exec) (hd : decode c.code pc = .ok (.dup_x1, 1)) (hp : pc + 1 = pc') (hc : x.category = 1) (hc2 : y.category = 1) (kk : oGl p e below (T.setTop (mkF m pc' Ls (x :: y :: x :: st))) F) : oGl p e below (T.setTop (mkF m pc Ls (x :: y :: st))) F := by
  subst hp
  exact oOn (fun _ kK => XS.dupX1 X.here hx rfl hd rfl hc hc2 kK) kk
theorem sdup2 {pc pc' : Nat} {Ls : Array Slot} {F : State → Prop} {st : List Value} {x y : Value} (X : Stand p l e R s m args below meth c T locs cells slots) (hx : p.tables.exec = Jvm.exec) (hd : decode c.code pc = .ok (.dup2, 1)) (hp : pc + 1 = pc') (hc : x.category = 1) (hc2 : y.category = 1) (kk : oGl p e below (T.setTop (mkF m pc' Ls (x :: y :: x :: y :: st))) F) : oGl p e below (T.setTop (mkF m pc Ls (x :: y :: st))) F := by
  subst hp
  exact oOn (fun _ kK => oDup2 X.here hx rfl hd rfl hc hc2 kK) kk
theorem sdup_x2 {pc pc' : Nat} {Ls : Array Slot} {F : State → Prop} {st : List Value} {x y z : Value} (X : Stand p l e R s m args below meth c T locs cells slots) (hx : p.tables.exec = Jvm.exec) (hd : decode c.code pc = .ok (.dup_x2, 1)) (hp : pc + 1 = pc') (hc : x.category = 1) (hc2 : y.category = 1) (hc3 : z.category = 1) (kk : oGl p e below (T.setTop (mkF m pc' Ls (x :: y :: z :: x :: st))) F) : oGl p e below (T.setTop (mkF m pc Ls (x :: y :: z :: st))) F := by
  subst hp
  exact oOn (fun _ kK => oDupX2 X.here hx rfl hd rfl hc hc2 hc3 kK) kk
theorem sgoto {pc pc' : Nat} {Ls : Array Slot} {st : List Value} {F : State → Prop} {o : Int}  (X : Stand p l e R s m args below meth c T locs cells slots) (hx : p.tables.exec = Jvm.exec) (hd : decode c.code pc = .ok (.goto o, 3)) (ho : 0 ≤ (pc : Int) + o) (hp : ((pc : Int) + o).toNat = pc')  (kk : oGl p e below (T.setTop (mkF m pc' Ls st)) F) : oGl p e below (T.setTop (mkF m pc Ls (st))) F :=
  oOn (fun _ kK => XS.goto X.here hx rfl rfl hd ho hp kK) kk
theorem sifY {pc pc' : Nat} {Ls : Array Slot} {st : List Value} {F : State → Prop} {o : Int} {cd : ClassFile.Cond} {x : Int32} (X : Stand p l e R s m args below meth c T locs cells slots) (hx : p.tables.exec = Jvm.exec) (hd : decode c.code pc = .ok (.ifCond cd o, 3)) (ho : 0 ≤ (pc : Int) + o) (hp : ((pc : Int) + o).toNat = pc') (hc : if_icmp.holds cd x 0 = true) (kk : oGl p e below (T.setTop (mkF m pc' Ls st)) F) : oGl p e below (T.setTop (mkF m pc Ls (.int x :: st))) F :=
  oOn (fun _ kK => XS.ifYes X.here hx rfl rfl hd rfl ((if0 _ _).trans hc) ho hp kK) kk
theorem sicY {pc pc' : Nat} {Ls : Array Slot} {st : List Value} {F : State → Prop} {o : Int} {cd : ClassFile.Cond} {x y : Int32} (X : Stand p l e R s m args below meth c T locs cells slots) (hx : p.tables.exec = Jvm.exec) (hd : decode c.code pc = .ok (.if_icmp cd o, 3)) (ho : 0 ≤ (pc : Int) + o) (hp : ((pc : Int) + o).toNat = pc') (hc : if_icmp.holds cd x y = true) (kk : oGl p e below (T.setTop (mkF m pc' Ls st)) F) : oGl p e below (T.setTop (mkF m pc Ls (.int y :: .int x :: st))) F :=
  oOn (fun _ kK => XS.icmpYes X.here hx rfl rfl hd rfl hc ho hp kK) kk
theorem sifnullY {pc pc' : Nat} {Ls : Array Slot} {st : List Value} {F : State → Prop} {o : Int}  (X : Stand p l e R s m args below meth c T locs cells slots) (hx : p.tables.exec = Jvm.exec) (hd : decode c.code pc = .ok (.ifnull o, 3)) (ho : 0 ≤ (pc : Int) + o) (hp : ((pc : Int) + o).toNat = pc')  (kk : oGl p e below (T.setTop (mkF m pc' Ls st)) F) : oGl p e below (T.setTop (mkF m pc Ls (.null :: st))) F :=
  oOn (fun _ kK => XS.ifnullYes X.here hx rfl rfl hd rfl ho hp kK) kk
theorem sifnonnullY {pc pc' : Nat} {Ls : Array Slot} {st : List Value} {F : State → Prop} {o : Int} {b : Addr} (X : Stand p l e R s m args below meth c T locs cells slots) (hx : p.tables.exec = Jvm.exec) (hd : decode c.code pc = .ok (.ifnonnull o, 3)) (ho : 0 ≤ (pc : Int) + o) (hp : ((pc : Int) + o).toNat = pc')  (kk : oGl p e below (T.setTop (mkF m pc' Ls st)) F) : oGl p e below (T.setTop (mkF m pc Ls (.ref b :: st))) F :=
  oOn (fun _ kK => XS.ifnonnullYes X.here hx rfl rfl hd rfl ho hp kK) kk
theorem sifN {pc pc' : Nat} {Ls : Array Slot} {F : State → Prop} {st : List Value} {cd : ClassFile.Cond} {o : Int} {x : Int32} (X : Stand p l e R s m args below meth c T locs cells slots) (hx : p.tables.exec = Jvm.exec) (hd : decode c.code pc = .ok (.ifCond cd o, 3)) (hp : pc + 3 = pc') (hc : if_icmp.holds cd x 0 = false) (kk : oGl p e below (T.setTop (mkF m pc' Ls (st))) F) : oGl p e below (T.setTop (mkF m pc Ls (.int x :: st))) F := by
  subst hp
  exact oOn (fun _ kK => XS.ifNo X.here hx rfl hd rfl ((if0 _ _).trans hc) kK) kk
theorem sicN {pc pc' : Nat} {Ls : Array Slot} {F : State → Prop} {st : List Value} {cd : ClassFile.Cond} {o : Int} {x y : Int32} (X : Stand p l e R s m args below meth c T locs cells slots) (hx : p.tables.exec = Jvm.exec) (hd : decode c.code pc = .ok (.if_icmp cd o, 3)) (hp : pc + 3 = pc') (hc : if_icmp.holds cd x y = false) (kk : oGl p e below (T.setTop (mkF m pc' Ls (st))) F) : oGl p e below (T.setTop (mkF m pc Ls (.int y :: .int x :: st))) F := by
  subst hp
  exact oOn (fun _ kK => XS.icmpNo X.here hx rfl hd rfl hc kK) kk
theorem sifnullN {pc pc' : Nat} {Ls : Array Slot} {F : State → Prop} {st : List Value} {o : Int} {b : Addr} (X : Stand p l e R s m args below meth c T locs cells slots) (hx : p.tables.exec = Jvm.exec) (hd : decode c.code pc = .ok (.ifnull o, 3)) (hp : pc + 3 = pc')  (kk : oGl p e below (T.setTop (mkF m pc' Ls (st))) F) : oGl p e below (T.setTop (mkF m pc Ls (.ref b :: st))) F := by
  subst hp
  exact oOn (fun _ kK => XS.ifnullNo X.here hx rfl hd rfl kK) kk
theorem sifnonnullN {pc pc' : Nat} {Ls : Array Slot} {F : State → Prop} {st : List Value} {o : Int} (X : Stand p l e R s m args below meth c T locs cells slots) (hx : p.tables.exec = Jvm.exec) (hd : decode c.code pc = .ok (.ifnonnull o, 3)) (hp : pc + 3 = pc')  (kk : oGl p e below (T.setTop (mkF m pc' Ls (st))) F) : oGl p e below (T.setTop (mkF m pc Ls (.null :: st))) F := by
  subst hp
  exact oOn (fun _ kK => XS.ifnonnullNo X.here hx rfl hd rfl kK) kk
/-! arrays of ints, bytes, chars, shorts, booleans: place j holds f j -/
def oAI (Z : State) (h : Heap) (a : Addr) (ty : FieldType) (n : Nat) (f : Nat → Int32) : Prop := ∃ c : Cell, Arr Z h a c ty ∧ c.slots.size = n ∧ n < 2147483648 ∧ ∀ j, j < n → c.slots[j]? = some (.int (f j))
def oUp {α : Type} (f : Nat → α) (i : Nat) (x : α) : Nat → α := fun k => if k = i then x else f k
theorem oUp_hit {α : Type} {f : Nat → α} {i : Nat} {x : α} : oUp f i x i = x := if_pos rfl
theorem oUp_miss {α : Type} {f : Nat → α} {i k : Nat} {x : α} (q : k ≠ i) : oUp f i x k = f k := if_neg q
variable {n : Nat} {f f' : Nat → Int32} {sl : Nat} {v : Value} {ws : List Addr}
theorem oAI.lt (F : oAI Z h a ty n f) : @LT.lt Nat _ a h.size := by obtain ⟨c, A, -⟩ := F; exact A.lt
theorem oAI.small (F : oAI Z h a ty n f) : n < 2147483648 := by obtain ⟨c, -, -, q, -⟩ := F; exact q
theorem oAI.ext (F : oAI Z h a ty n f) (E : Ext h h') : oAI Z h' a ty n f := by obtain ⟨c, A, r⟩ := F; exact ⟨c, A.ext E, r⟩
theorem oAI.other (F : oAI Z h b ty n f) (W : Wr h h' a sl v) (q : b ≠ a) : oAI Z h' b ty n f := by obtain ⟨c, A, r⟩ := F; exact ⟨c, A.other W q, r⟩
theorem oAI.keep (F : oAI Z h a ty n f) (K : Keep h h' ws) (q : a ∉ ws) : oAI Z h' a ty n f := by obtain ⟨c, A, r⟩ := F; exact ⟨c, ⟨K.2.1 a c A.1 q, A.2⟩, r⟩
theorem oAI.congr (F : oAI Z h a ty n f) (q : ∀ j, j < n → f j = f' j) : oAI Z h a ty n f' := by obtain ⟨c, A, r1, r2, r3⟩ := F; exact ⟨c, A, r1, r2, fun j hj => by rw [← q j hj]; exact r3 j hj⟩
theorem oAI.new {k : ClassId} {z : Int32} (A : Arr Z h a (newA k ty z) ty) (hn : z.toInt.toNat = n) (hd : defaultValue ty = .int 0 := by rfl) : oAI Z h a ty n (fun _ => 0) := by
  refine ⟨_, A, ?_, ?_, fun j hj => ?_⟩
  · rw [sz_new]; exact hn
  · have := z.toInt_lt; omega
  · have hs : (newA k ty z).slots.size = n := by rw [sz_new]; exact hn
    simp only [newA] at hs ⊢
    rw [Array.getElem?_replicate, if_pos (by simpa using (by simpa using hs : z.toNatClampNeg = n) ▸ hj), hd]
theorem oNotIn {j : Int32} {cl : Cell} (hs : cl.slots.size = n) (hj : 0 ≤ j.toInt ∧ j.toInt < n) : ¬ (j < 0 ∨ cl.slots.size ≤ j.toNatClampNeg) := by
  have h1 : j.toNatClampNeg = j.toInt.toNat := rfl
  rw [hs, h1, Int32.lt_iff_toInt_lt]
  have h2 : (0 : Int32).toInt = 0 := rfl
  rw [h2]; omega
theorem oAI.at (F : oAI Z h a ty n f) {j : Int32} (hj : 0 ≤ j.toInt ∧ j.toInt < n) : ∃ c : Cell, Arr Z h a c ty ∧ ¬ (j < 0 ∨ c.slots.size ≤ j.toNatClampNeg) ∧ c.slots[j.toNatClampNeg]? = some (.int (f j.toInt.toNat)) := by
  obtain ⟨c, A, S, q, G⟩ := F
  exact ⟨c, A, oNotIn S hj, G j.toInt.toNat (by omega)⟩
theorem oAI.set {j : Int32} {x : Int32} (F : oAI Z h a ty n f) (W : Wr h h' a j.toNatClampNeg (.int x)) (hj : 0 ≤ j.toInt ∧ j.toInt < n) : oAI Z h' a ty n (oUp f j.toInt.toNat x) := by
  obtain ⟨c, A, S, q, G⟩ := F
  refine ⟨_, A.same W, by rw [sz_set]; exact S, q, fun k hk => ?_⟩
  have h1 : j.toNatClampNeg = j.toInt.toNat := rfl
  show (c.slots.setIfInBounds j.toNatClampNeg (.int x))[k]? = _
  by_cases e : k = j.toInt.toNat
  · subst e; rw [oUp_hit, h1, Array.getElem?_setIfInBounds_self_of_lt (by rw [S]; exact hk)]
  · rw [oUp_miss e, h1, Array.getElem?_setIfInBounds_ne (Ne.symm e)]; exact G k hk
theorem oAI.len (F : oAI Z h a ty n f) (X : Stand p l e R s m args below meth c T locs cells slots) (hx : p.tables.exec = Jvm.exec) (hZ : Z.Warmed39 s.vm) (eT : T.heap = h) {g : JFrame} (hg : g.method = m) {rest : List Value} (hs : g.stack = .ref a :: rest) (hd : decode c.code g.pc = .ok (.arraylength, 1)) :
    ∀ t, Steps p.tables e below (T.setTop { g with pc := g.pc + 1, stack := .int (Int32.ofNat n) :: rest }) t → Steps p.tables e below (T.setTop g) t := by
  obtain ⟨cl, A, S, -, -⟩ := F
  intro t k
  refine X.arraylength hx (by rw [eT]; exact A.1) (State.isArrayOf_alike hZ.alike A.2.1) hg hs hd _ ?_
  rw [S]; exact k
theorem oAI.ldI (F : oAI Z h a .int n f) (X : Stand p l e R s m args below meth c T locs cells slots) (hx : p.tables.exec = Jvm.exec) (hZ : Z.Warmed39 s.vm) (eT : T.heap = h) {j : Int32} (hj : 0 ≤ j.toInt ∧ j.toInt < n) {g : JFrame} (hg : g.method = m) {rest : List Value} (hs : g.stack = .int j :: .ref a :: rest) (hd : decode c.code g.pc = .ok (.iaload, 1)) :
    ∀ t, Steps p.tables e below (T.setTop { g with pc := g.pc + 1, stack := .int (f j.toInt.toNat) :: rest }) t → Steps p.tables e below (T.setTop g) t := by
  obtain ⟨cl, A, q1, q2⟩ := F.at hj
  exact X.iaload hx (by rw [eT]; exact A.1) (State.isArrayOf_alike hZ.alike A.2.1) A.2.2 q1 q2 hg hs hd
theorem oAI.ldB (F : oAI Z h a .byte n f) (X : Stand p l e R s m args below meth c T locs cells slots) (hx : p.tables.exec = Jvm.exec) (hZ : Z.Warmed39 s.vm) (eT : T.heap = h) {j : Int32} (hj : 0 ≤ j.toInt ∧ j.toInt < n) {g : JFrame} (hg : g.method = m) {rest : List Value} (hs : g.stack = .int j :: .ref a :: rest) (hd : decode c.code g.pc = .ok (.baload, 1)) :
    ∀ t, Steps p.tables e below (T.setTop { g with pc := g.pc + 1, stack := .int (f j.toInt.toNat) :: rest }) t → Steps p.tables e below (T.setTop g) t := by
  obtain ⟨cl, A, q1, q2⟩ := F.at hj
  exact X.baloadBytes hx (by rw [eT]; exact A.1) (State.isArrayOf_alike hZ.alike A.2.1) A.2.2 q1 q2 hg hs hd
theorem oAI.ldZ (F : oAI Z h a .boolean n f) (X : Stand p l e R s m args below meth c T locs cells slots) (hx : p.tables.exec = Jvm.exec) (hZ : Z.Warmed39 s.vm) (eT : T.heap = h) {j : Int32} (hj : 0 ≤ j.toInt ∧ j.toInt < n) {g : JFrame} (hg : g.method = m) {rest : List Value} (hs : g.stack = .int j :: .ref a :: rest) (hd : decode c.code g.pc = .ok (.baload, 1)) :
    ∀ t, Steps p.tables e below (T.setTop { g with pc := g.pc + 1, stack := .int (f j.toInt.toNat) :: rest }) t → Steps p.tables e below (T.setTop g) t := by
  obtain ⟨cl, A, q1, q2⟩ := F.at hj
  exact X.baloadBooleans hx (by rw [eT]; exact A.1) (State.isArrayOf_alike hZ.alike A.2.1) A.2.2 q1 q2 hg hs hd
theorem oAI.ldC (F : oAI Z h a .char n f) (X : Stand p l e R s m args below meth c T locs cells slots) (hx : p.tables.exec = Jvm.exec) (hZ : Z.Warmed39 s.vm) (eT : T.heap = h) {j : Int32} (hj : 0 ≤ j.toInt ∧ j.toInt < n) {g : JFrame} (hg : g.method = m) {rest : List Value} (hs : g.stack = .int j :: .ref a :: rest) (hd : decode c.code g.pc = .ok (.caload, 1)) :
    ∀ t, Steps p.tables e below (T.setTop { g with pc := g.pc + 1, stack := .int (f j.toInt.toNat) :: rest }) t → Steps p.tables e below (T.setTop g) t := by
  obtain ⟨cl, A, q1, q2⟩ := F.at hj
  exact X.caload hx (by rw [eT]; exact A.1) (State.isArrayOf_alike hZ.alike A.2.1) A.2.2 q1 q2 hg hs hd
theorem oAI.ldS (F : oAI Z h a .short n f) (X : Stand p l e R s m args below meth c T locs cells slots) (hx : p.tables.exec = Jvm.exec) (hZ : Z.Warmed39 s.vm) (eT : T.heap = h) {j : Int32} (hj : 0 ≤ j.toInt ∧ j.toInt < n) {g : JFrame} (hg : g.method = m) {rest : List Value} (hs : g.stack = .int j :: .ref a :: rest) (hd : decode c.code g.pc = .ok (.saload, 1)) :
    ∀ t, Steps p.tables e below (T.setTop { g with pc := g.pc + 1, stack := .int (f j.toInt.toNat) :: rest }) t → Steps p.tables e below (T.setTop g) t := by
  obtain ⟨cl, A, q1, q2⟩ := F.at hj
  exact X.saload hx (by rw [eT]; exact A.1) (State.isArrayOf_alike hZ.alike A.2.1) A.2.2 q1 q2 hg hs hd
theorem oAI.stI (F : oAI Z h a .int n f) (X : Stand p l e R s m args below meth c T locs cells slots) (hx : p.tables.exec = Jvm.exec) (hZ : Z.Warmed39 s.vm) (eT : T.heap = h) {j x : Int32} (hj : 0 ≤ j.toInt ∧ j.toInt < n) {g : JFrame} (hg : g.method = m) {rest : List Value} (hs : g.stack = .int x :: .int j :: .ref a :: rest) (hd : decode c.code g.pc = .ok (.iastore, 1)) :
    ∃ T' h', Stand p l e R s m args below meth c T' (locs ++ [⟨a, j.toNatClampNeg⟩]) cells slots ∧ T'.heap = h' ∧ Wr h h' a j.toNatClampNeg (.int x) ∧ oAI Z h' a .int n (oUp f j.toInt.toNat x) ∧ ∀ t, Steps p.tables e below (T'.setTop { g with pc := g.pc + 1, stack := rest }) t → Steps p.tables e below (T.setTop g) t := by
  have F' := F
  obtain ⟨cl, A, S, q, G⟩ := F'
  obtain ⟨T', h', X', e', W, st⟩ := Jvm.RoadKit.stI X hx hZ eT A (x := x) (oNotIn S hj) hg hs hd
  exact ⟨T', h', X', e', W, F.set W hj, st⟩
theorem oAI.stB (F : oAI Z h a .byte n f) (X : Stand p l e R s m args below meth c T locs cells slots) (hx : p.tables.exec = Jvm.exec) (hZ : Z.Warmed39 s.vm) (eT : T.heap = h) {j x : Int32} (hj : 0 ≤ j.toInt ∧ j.toInt < n) {g : JFrame} (hg : g.method = m) {rest : List Value} (hs : g.stack = .int x :: .int j :: .ref a :: rest) (hd : decode c.code g.pc = .ok (.bastore, 1)) :
    ∃ T' h', Stand p l e R s m args below meth c T' (locs ++ [⟨a, j.toNatClampNeg⟩]) cells slots ∧ T'.heap = h' ∧ Wr h h' a j.toNatClampNeg (.int (nar .byte x)) ∧ oAI Z h' a .byte n (oUp f j.toInt.toNat (nar .byte x)) ∧ ∀ t, Steps p.tables e below (T'.setTop { g with pc := g.pc + 1, stack := rest }) t → Steps p.tables e below (T.setTop g) t := by
  have F' := F
  obtain ⟨cl, A, S, q, G⟩ := F'
  obtain ⟨T', h', X', e', W, st⟩ := Jvm.RoadKit.stB X hx hZ eT A (x := x) (oNotIn S hj) hg hs hd
  exact ⟨T', h', X', e', W, F.set W hj, st⟩
theorem oAI.stZ (F : oAI Z h a .boolean n f) (X : Stand p l e R s m args below meth c T locs cells slots) (hx : p.tables.exec = Jvm.exec) (hZ : Z.Warmed39 s.vm) (eT : T.heap = h) {j x : Int32} (hj : 0 ≤ j.toInt ∧ j.toInt < n) {g : JFrame} (hg : g.method = m) {rest : List Value} (hs : g.stack = .int x :: .int j :: .ref a :: rest) (hd : decode c.code g.pc = .ok (.bastore, 1)) :
    ∃ T' h', Stand p l e R s m args below meth c T' (locs ++ [⟨a, j.toNatClampNeg⟩]) cells slots ∧ T'.heap = h' ∧ Wr h h' a j.toNatClampNeg (.int (nar .boolean x)) ∧ oAI Z h' a .boolean n (oUp f j.toInt.toNat (nar .boolean x)) ∧ ∀ t, Steps p.tables e below (T'.setTop { g with pc := g.pc + 1, stack := rest }) t → Steps p.tables e below (T.setTop g) t := by
  have F' := F
  obtain ⟨cl, A, S, q, G⟩ := F'
  obtain ⟨T', h', X', e', W, st⟩ := Jvm.RoadKit.stZ X hx hZ eT A (x := x) (oNotIn S hj) hg hs hd
  exact ⟨T', h', X', e', W, F.set W hj, st⟩
theorem oAI.stC (F : oAI Z h a .char n f) (X : Stand p l e R s m args below meth c T locs cells slots) (hx : p.tables.exec = Jvm.exec) (hZ : Z.Warmed39 s.vm) (eT : T.heap = h) {j x : Int32} (hj : 0 ≤ j.toInt ∧ j.toInt < n) {g : JFrame} (hg : g.method = m) {rest : List Value} (hs : g.stack = .int x :: .int j :: .ref a :: rest) (hd : decode c.code g.pc = .ok (.castore, 1)) :
    ∃ T' h', Stand p l e R s m args below meth c T' (locs ++ [⟨a, j.toNatClampNeg⟩]) cells slots ∧ T'.heap = h' ∧ Wr h h' a j.toNatClampNeg (.int (nar .char x)) ∧ oAI Z h' a .char n (oUp f j.toInt.toNat (nar .char x)) ∧ ∀ t, Steps p.tables e below (T'.setTop { g with pc := g.pc + 1, stack := rest }) t → Steps p.tables e below (T.setTop g) t := by
  have F' := F
  obtain ⟨cl, A, S, q, G⟩ := F'
  obtain ⟨T', h', X', e', W, st⟩ := Jvm.RoadKit.stC X hx hZ eT A (x := x) (oNotIn S hj) hg hs hd
  exact ⟨T', h', X', e', W, F.set W hj, st⟩
theorem oAI.stS (F : oAI Z h a .short n f) (X : Stand p l e R s m args below meth c T locs cells slots) (hx : p.tables.exec = Jvm.exec) (hZ : Z.Warmed39 s.vm) (eT : T.heap = h) {j x : Int32} (hj : 0 ≤ j.toInt ∧ j.toInt < n) {g : JFrame} (hg : g.method = m) {rest : List Value} (hs : g.stack = .int x :: .int j :: .ref a :: rest) (hd : decode c.code g.pc = .ok (.sastore, 1)) :
    ∃ T' h', Stand p l e R s m args below meth c T' (locs ++ [⟨a, j.toNatClampNeg⟩]) cells slots ∧ T'.heap = h' ∧ Wr h h' a j.toNatClampNeg (.int (nar .short x)) ∧ oAI Z h' a .short n (oUp f j.toInt.toNat (nar .short x)) ∧ ∀ t, Steps p.tables e below (T'.setTop { g with pc := g.pc + 1, stack := rest }) t → Steps p.tables e below (T.setTop g) t := by
  have F' := F
  obtain ⟨cl, A, S, q, G⟩ := F'
  obtain ⟨T', h', X', e', W, st⟩ := Jvm.RoadKit.stS X hx hZ eT A (x := x) (oNotIn S hj) hg hs hd
  exact ⟨T', h', X', e', W, F.set W hj, st⟩
/-! words out of words -/
theorem oSame {as : Array Value} {C : String} {x y z : MethodName} (wd : (Jvm.Cond.declares y).before as Z = true) (ws : (Jvm.Cond.selects C x z).before as Z = true) (hc : z.cls = y.cls) (hy : y.cls ≠ "java/lang/invoke/MethodHandle" ∧ y.cls ≠ "java/lang/invoke/VarHandle") : (Jvm.Cond.sameMethod y.cls y.cls y.name y.desc).before as Z = true := by
  obtain ⟨c2, r2, m2, -, -, q3, -, kP, hkP, hkPi⟩ := Cond.selects_spec ws
  have h1 := findClass_of_methodNamed q3
  rw [hc] at h1
  cases hm : Z.methodNamed? y with
  | none => simp [Cond.before, Cond.holds, Cond.value, hm] at wd
  | some mk =>
    have h2 := State.methodFound?_of_named hm hy
    have h3 := findClass_of_methodNamed hm
    simp only [Cond.before, Cond.holds, Cond.value, h1, h2, hm, hkP, Option.any_some, hkPi]
    rfl
theorem oPriv {as : Array Value} {y : MethodName} {kk : Nat} (wi : (Jvm.Cond.instantiable y.cls kk).before as s = true) (hpriv : s.PrivateAt y) (hinst : (Jvm.Cond.instanceMethod y).before as s = true) (hy : y.cls ≠ "java/lang/invoke/MethodHandle" ∧ y.cls ≠ "java/lang/invoke/VarHandle") : (Jvm.Cond.selects y.cls y y).before as s = true := by
  obtain ⟨c, k, h1, h2, h3, h4, -⟩ := Cond.instantiable_spec wi
  have i5 : k.isInterface = false := by cases hq : k.isInterface <;> simp [hq] at h4 ⊢
  exact selects_self_of_private h1 h2 i5 hpriv hinst hy
/-! the start's statics -/
theorem oAnd {A B : Jvm.Cond} {as : Array Value} {st : State} (q : (Jvm.Cond.and A B).before as st = true) : A.before as st = true ∧ B.before as st = true := by
  rw [Cond.before_and, Bool.and_eq_true] at q; exact q
/-- a static that holds exactly an object of the class K -/
theorem oStaR {as : Array Value} {C n d K : String} (q : (Jvm.Cond.exactly (.static C n d) K).before as Z = true) (w1 : (Jvm.Cond.initialized C).before as Z = true) (w2 : (Jvm.Cond.laysStatic C n d).before as Z = true) : ∃ a, (Term.static C n d).eval as Z none [] Z = some (.ref a) ∧ Sta Z Z.heap C n d (.ref a) ∧ Exa Z Z.heap a K := by
  obtain ⟨a, c', cell, k, e1, -⟩ := Cond.exactly_spec q
  exact ⟨a, e1, Sta.start e1 (Or.inr ⟨w1, w2⟩), Exa.start e1 (Cond.before_iff.mp q)⟩
theorem oFldI {as : Array Value} {t : Term} {C n d : String} {k : Int32} {a : Addr} (q : (Jvm.Cond.eq (.field t C n d) (.int k)).before as Z = true) (ev : t.eval as Z none [] Z = some (.ref a)) : Fld Z Z.heap a C n d (.int k) := by
  have q' := Cond.before_iff.mp q
  have e1 : (Term.field t C n d).eval as Z none [] Z = Z.fieldOf? a C n d := by simp [Term.eval, ev]
  refine Fld.start ?_
  simp only [Cond.value, e1] at q'
  cases hf : Z.fieldOf? a C n d with
  | none => simp [hf] at q'
  | some v => cases v <;> simp [hf, Term.eval] at q' ⊢; exact q'
theorem oArgI {as : Array Value} {i : Nat} {w : Value} (q : (Jvm.Cond.isInt (.arg i)).before as s = true) (e : as[i]? = some w) : ∃ z, w = .int z := by
  have q' := Cond.before_iff.mp q
  simp only [Cond.value, Term.eval, e] at q'
  cases w <;> first | exact ⟨_, rfl⟩ | simp at q'
theorem oArgJ {as : Array Value} {i : Nat} {w : Value} (q : (Jvm.Cond.isLong (.arg i)).before as s = true) (e : as[i]? = some w) : ∃ z, w = .long z := by
  have q' := Cond.before_iff.mp q
  simp only [Cond.value, Term.eval, e] at q'
  cases w <;> first | exact ⟨_, rfl⟩ | simp at q'
theorem own_arrAt {Z : State} {ca : Addr} {cl : Cell} {ty : FieldType} (A : Arr Z Z.heap ca cl ty) : Z.arrayAt? ca = some cl := by
  have hp := A.plain
  obtain ⟨h1, ⟨hp', k, hk, comp, hkind⟩, h3⟩ := A
  simp [State.arrayAt?, h1, hk, hkind, h3, hp]
theorem own_len {as : Array Value} {Z : State} {t : Term} {ca : Addr} {cl : Cell} {ty : FieldType} (ev : t.eval as Z none [] Z = some (.ref ca)) (A : Arr Z Z.heap ca cl ty) (q : (Jvm.Cond.eq (.length t) (.int 256)).before as Z = true) : cl.slots.size = 256 := by
  have q' := Cond.before_iff.mp q
  have e1 := own_arrAt A
  by_cases hs : cl.slots.size < 2 ^ 31
  · have e2 : (Term.length t).eval as Z none [] Z = some (.int cl.slots.size.toInt32) := by simp [Term.eval, ev, e1, hs]
    have e3 := Cond.eq_ints e2 (Term.int_eval 256)
    rw [e3] at q'
    have e4 : cl.slots.size.toInt32 = 256 := by simpa using q'
    have e5 : (cl.slots.size.toInt32).toInt = (256 : Int32).toInt := by rw [e4]
    have e6 : (Int32.ofNat cl.slots.size).toInt = cl.slots.size := Int32.toInt_ofNat_of_lt (by omega)
    have e7 : (256 : Int32).toInt = 256 := by decide
    have e8 : cl.slots.size.toInt32 = Int32.ofNat cl.slots.size := rfl
    rw [e8, e6, e7] at e5
    omega
  · have e2 : (Term.length t).eval as Z none [] Z = none := by
      simp [Term.eval, ev]
      intro a ha
      rw [e1] at ha
      cases ha
      omega
    simp [Cond.value, e2] at q'
theorem own_all {as : Array Value} {Z : State} {C n d K : String} {ca : Addr} {cl : Cell} {ty : FieldType} {X : Jvm.Cond} (ev : (Term.static C n d).eval as Z none [] Z = some (.ref ca)) (A : Arr Z Z.heap ca cl ty) (hn : cl.slots.size = 256) (q : (Jvm.Cond.all (.static C n d) (.and (.exactly (.elem (.static C n d) (.index 0)) K) X)).before as Z = true) :
    ∀ j : Int32, 0 ≤ j.toInt ∧ j.toInt < (256 : Nat) → ∃ o, cl.slots[j.toNatClampNeg]? = some (.ref o) ∧ Exa Z Z.heap o K ∧ (Term.elem (.static C n d) (.index 0)).eval as Z none [j.toNatClampNeg] Z = some (.ref o) ∧ X.value as Z none Z [j.toNatClampNeg] = some true := by
  intro j hj
  have e1 := own_arrAt A
  have hj0 : ¬ j < 0 := by rw [Int32.lt_iff_toInt_lt]; have : (0 : Int32).toInt = 0 := rfl; omega
  have h1 : j.toNatClampNeg = j.toInt.toNat := rfl
  have h := Cond.all_elim ev e1 (Cond.before_iff.mp q) j.toNatClampNeg (by rw [hn, h1]; omega)
  obtain ⟨h2, h3⟩ := and_e h
  have ev' : (Term.static C n d).eval as Z none [j.toNatClampNeg] Z = some (.ref ca) := ev
  have e2 : (Term.elem (.static C n d) (.index 0)).eval as Z none [j.toNatClampNeg] Z = cl.slots[j.toNatClampNeg]? := by
    have e3 := idx_at (args := as) (s := Z) (first := Z) (o := none) hj0
    simp only [Term.eval] at ev' e3 ⊢
    rw [ev', e3]
    simp [e1, hj0]
  obtain ⟨o, c', cell, k, f1, -⟩ := Cond.exactly_spec (show (Cond.exactly (.elem (.static C n d) (.index 0)) K).holds as Z none Z [j.toNatClampNeg] = true by simp [Cond.holds, h2])
  exact ⟨o, by rw [← e2]; exact f1, exa_at f1 h2, f1, h3⟩
theorem own_fld {as : Array Value} {Z : State} {t u : Term} {idx : List Nat} {O f D : String} {o : Addr} {k : Int32} (f1 : t.eval as Z none idx Z = some (.ref o)) (hx : (Jvm.Cond.eq (.field t O f D) u).value as Z none Z idx = some true) (hu : u.eval as Z none idx Z = some (.int k)) : Fld Z Z.heap o O f D (.int k) := by
  have e1 : (Term.field t O f D).eval as Z none idx Z = Z.fieldOf? o O f D := by simp [Term.eval, f1]
  refine Fld.start ?_
  simp only [Cond.value, e1, hu] at hx
  cases hf : Z.fieldOf? o O f D with
  | none => simp [hf] at hx
  | some v => cases v <;> simp [hf] at hx ⊢; exact hx
theorem own_ix {as : Array Value} {Z : State} {j : Int32} (hj : 0 ≤ j.toInt) : (Term.sub (.index 0) (.int 128)).eval as Z none [j.toNatClampNeg] Z = some (.int (j - 128)) := by
  have hj0 : ¬ j < 0 := by rw [Int32.lt_iff_toInt_lt]; have : (0 : Int32).toInt = 0 := rfl; omega
  have e3 := idx_at (args := as) (s := Z) (first := Z) (o := none) hj0
  simp only [Term.eval] at e3 ⊢
  rw [e3]; rfl
theorem oEqI {as : Array Value} {t : Term} {k : Int32} (q : (Jvm.Cond.eq t (.int k)).before as Z = true) : t.eval as Z none [] Z = some (.int k) := by
  have q' := Cond.before_iff.mp q
  simp only [Cond.value] at q'
  cases hf : t.eval as Z none [] Z with
  | none => simp [hf] at q'
  | some v => cases v <;> simp [hf, Term.eval] at q' ⊢; exact q'
end OwnKit
section OwnVm
variable {p : Program} {l : Launch} {e : Env} {R : Room} {s : State} {m : MethodId} {args : Array Value} {below : List Frame} {meth : Method} {c : Code} {T : State} {locs : List Loc} {cells slots : Nat} {Z : State} {h h' : Heap} {a0 : Array Value}
/-! bodies whose contract speaks of the tables (which constants have been loaded) -/
def oFinV (s : State) (below : List Frame) (Q : Option Value → Heap → Vm → List Loc → Prop) (C S : Nat) (t : State) : Prop := ∃ o, t.status = .running ∧ Ended t below o ∧ ∃ v L, o = .returned v ∧ Q v t.heap t.vm L ∧ ReturnedEndW s o t L C S
theorem oEnterV {S0 : State} {Q : Option Value → Heap → Vm → List Loc → Prop} {C S : Nat} (k : oGl p e below S0 (oFinV s below Q C S)) : ∃ s₂ o, Steps p.tables e below S0 s₂ ∧ s₂.status = .running ∧ Ended s₂ below o ∧ ∃ v L, o = .returned v ∧ Q v s₂.heap s₂.vm L ∧ ReturnedEndW s o s₂ L C S := by
  obtain ⟨t, k1, o, k2, k3, k4⟩ := k; exact ⟨t, o, k1, k2, k3, k4⟩
theorem oRetIV {vm₁ : Vm} {n : Nat} (X : Stand p l e R (s.setVm vm₁) m args below meth c T locs cells slots) (hS : s.Since vm₁ n) (hn : n ≤ T.heap.size) (hx : p.tables.exec = Jvm.exec) (hl : meth.locks = false) {pc : Nat} {Ls : Array Slot} {z : Int32} {rest : List Value} (hret : meth.sig.returnType = some .int) (hd : decode c.code pc = .ok (.ireturn, 1))
    {Q : Option Value → Heap → Vm → List Loc → Prop} {C S : Nat} (hc : cells ≤ C) (hs : slots ≤ S) (hq : Q (some (.int z)) T.heap T.vm locs) : oGl p e below (T.setTop (mkF m pc Ls (.int z :: rest))) (oFinV s below Q C S) := by
  obtain ⟨fs, hr, hrun, hended, h1, h2, h3, hsame⟩ := X.leaveW hS hn (v := some (.int z)) (fun q => by rw [hret] at q; cases q) hl
  exact ⟨_, retOut X hx hret rfl (Or.inl ⟨rfl, Or.inl rfl, _, rfl⟩) hd hr, _, hrun, hended, _, _, rfl, hq, h1, h2, h3, hsame.mono hc hs⟩
theorem oRetNV {t : FieldType} {vm₁ : Vm} {n : Nat} (X : Stand p l e R (s.setVm vm₁) m args below meth c T locs cells slots) (hS : s.Since vm₁ n) (hn : n ≤ T.heap.size) (hx : p.tables.exec = Jvm.exec) (hl : meth.locks = false) {pc : Nat} {Ls : Array Slot} {z : Int32} {rest : List Value} (hret : meth.sig.returnType = some t) (ht : t = .boolean ∨ t = .byte ∨ t = .char ∨ t = .short) (hd : decode c.code pc = .ok (.ireturn, 1))
    {Q : Option Value → Heap → Vm → List Loc → Prop} {C S : Nat} (hc : cells ≤ C) (hs : slots ≤ S) (hq : Q (some (.int (nar t z))) T.heap T.vm locs) : oGl p e below (T.setTop (mkF m pc Ls (.int z :: rest))) (oFinV s below Q C S) := by
  obtain ⟨fs, hr, hrun, hended, h1, h2, h3, hsame⟩ := X.leaveW hS hn (v := some (.int (nar t z))) (fun q => by rw [hret] at q; cases q) hl
  exact ⟨_, retN X hx hret ht hd hr, _, hrun, hended, _, _, rfl, hq, h1, h2, h3, hsame.mono hc hs⟩
theorem oRetRV {t : FieldType} {vm₁ : Vm} {n : Nat} (X : Stand p l e R (s.setVm vm₁) m args below meth c T locs cells slots) (hS : s.Since vm₁ n) (hn : n ≤ T.heap.size) (hx : p.tables.exec = Jvm.exec) (hl : meth.locks = false) {pc : Nat} {Ls : Array Slot} {w : Value} {rest : List Value} (hret : meth.sig.returnType = some t) (ht : t.isReference = true) (hw : w.isRef = true) (hd : decode c.code pc = .ok (.areturn, 1))
    {Q : Option Value → Heap → Vm → List Loc → Prop} {C S : Nat} (hc : cells ≤ C) (hs : slots ≤ S) (hq : Q (some w) T.heap T.vm locs) : oGl p e below (T.setTop (mkF m pc Ls (w :: rest))) (oFinV s below Q C S) := by
  obtain ⟨fs, hr, hrun, hended, h1, h2, h3, hsame⟩ := X.leaveW hS hn (v := some w) (fun q => by rw [hret] at q; cases q) hl
  exact ⟨_, retOut X hx hret (narrow_ref ht hw) (Or.inr (Or.inr (Or.inr (Or.inr ⟨rfl, ht, hw⟩)))) hd hr, _, hrun, hended, _, _, rfl, hq, h1, h2, h3, hsame.mono hc hs⟩
theorem oRet0V {vm₁ : Vm} {n : Nat} (X : Stand p l e R (s.setVm vm₁) m args below meth c T locs cells slots) (hS : s.Since vm₁ n) (hn : n ≤ T.heap.size) (hx : p.tables.exec = Jvm.exec) (hl : meth.locks = false) {pc : Nat} {Ls : Array Slot} (hret : meth.sig.returnType = none) (hd : decode c.code pc = .ok (.return_, 1))
    {Q : Option Value → Heap → Vm → List Loc → Prop} {C S : Nat} (hc : cells ≤ C) (hs : slots ≤ S) (hq : Q none T.heap T.vm locs) : oGl p e below (T.setTop (mkF m pc Ls [])) (oFinV s below Q C S) := by
  obtain ⟨fs, hr, hrun, hended, h1, h2, h3, hsame⟩ := X.leaveW hS hn (v := none) (fun _ => rfl) hl
  exact ⟨_, X.returnOut hx hret hd hr, _, hrun, hended, _, _, rfl, hq, h1, h2, h3, hsame.mono hc hs⟩
theorem backOfV {J : Vm → Prop} {y : MethodName} {bytes : ByteArray} {maxL : Nat} {ret : Option FieldType} {rm : Room} {len W : Nat} {as' : Array Value} {Q : Option Value → Heap → Vm → List Loc → Prop}
    (hM : MetFree l y (head1 [Cond.code y bytes maxL ret] rm) (fun a U => a = as' ∧ Z.Warmed39 U.vm ∧ U.heap = h ∧ J U.vm) (fun _ _ _ _ _ => True) (fun _ U o U' => ∃ v L, o = .returned v ∧ Q v U'.heap U'.vm L ∧ ReturnedEndW U o U' L rm.cells rm.slots))
    (hZ : Z.Warmed39 s.vm) (wc : (Cond.code y bytes maxL ret).before a0 Z = true) (wz : (Cond.initialized y.cls).before a0 Z = true) (hf : rm.frames + 1 ≤ R.frames) (hl : W + (maxL + 11) + rm.locals ≤ R.locals) :
    BackS l R p e below s args y len W (fun A a => a = as' ∧ A.U.heap = h ∧ A.cells + rm.cells ≤ R.cells ∧ A.slots + rm.slots ≤ R.slots ∧ J A.U.vm)
      (fun A _ v B => ∃ L, Q v B.U.heap B.U.vm L ∧ B.locs = A.locs ++ L ∧ B.cells = A.cells + rm.cells ∧ B.slots = A.slots + rm.slots) :=
  BackS.of_freeW (bytes := bytes) (maxL := maxL) (ret := ret) (E := fun _ _ o t L k n => k = rm.cells ∧ n = rm.slots ∧ ∃ v, o = .returned v ∧ Q v t.heap t.vm L) hM hf hl
    (fun m meth c A a Y hp => by
      have hU : Z.Warmed39 A.U.vm := wtrans hZ Y.warmed
      refine ⟨?_, mv hU wc, mv hU wz, hp.2.2.1, hp.2.2.2.1⟩
      show (Cond.and _ .tt).before a A.U = true
      rw [Cond.before_and, mv hU wc]; rfl)
    (fun m meth c A a g mk Y hp => ⟨hp.1, wtrans hZ Y.warmed, hp.2.1, hp.2.2.2.2⟩) (fun _ _ _ _ _ _ _ _ _ => trivial)
    (fun _ _ _ _ ⟨v, L, h1, h2, h3⟩ => ⟨L, _, _, h3, rfl, rfl, v, h1, h2⟩)
    (fun m meth c A a g mk v t L k n Y hp _ _ ⟨e1, e2, v', e3, e4⟩ => by cases e3; subst e1 e2; exact ⟨L, e4, rfl, rfl, rfl⟩)
/-- the constant "" of java/lang/String (entry 7): nothing has been loaded yet, or it has, and what it is -/
def oEm (Z : State) (vm : Vm) (h : Heap) : Prop := vm.interned = Z.vm.interned ∨ ∃ a b : Nat, Lit (Z.setVm vm) "java/lang/String" 7 a ∧ Exa Z h a "java/lang/String" ∧ Fld Z h a "java/lang/String" "coder" "B" (.int 0) ∧ Fld Z h a "java/lang/String" "value" "[B" (.ref b) ∧ oAI Z h b .byte 0 (fun _ => 0)
theorem oEm.ext {vm : Vm} (F : oEm Z vm h) (E : Ext h h') : oEm Z vm h' := by
  rcases F with q | ⟨a, b, f1, f2, f3, f4, f5⟩
  · exact Or.inl q
  · exact Or.inr ⟨a, b, f1, f2.ext E, f3.ext E, f4.ext E, f5.ext E⟩
theorem oEm.keep0 {vm : Vm} (F : oEm Z vm h) (K : Keep h h' []) : oEm Z vm h' := by
  rcases F with q | ⟨a, b, f1, f2, f3, f4, f5⟩
  · exact Or.inl q
  · exact Or.inr ⟨a, b, f1, f2.keep K, f3.keep K nin0, f4.keep K nin0, f5.keep K nin0⟩
theorem oNeT {a b : Addr} {ty ty' : FieldType} {n n' : Nat} {f f' : Nat → Int32} (F : oAI Z h a ty n f) (G : oAI Z h b ty' n' f') (q : ty ≠ ty') : a ≠ b := fun e => by
  subst e
  obtain ⟨c1, A1, -⟩ := F
  obtain ⟨c2, A2, -⟩ := G
  cases A1.1.symm.trans A2.1
  obtain ⟨-, k1, h1, cp1, h2⟩ := A1.2.1
  obtain ⟨-, k2, g1, cp2, g2⟩ := A2.2.1
  cases h1.symm.trans g1
  rw [h2] at g2
  injection g2 with q1 q2
  exact q q2
theorem oNeO {a b : Addr} {C : String} {k n : Nat} {ty : FieldType} {f : Nat → Int32} (F : Exa Z h a C) (wi : (Jvm.Cond.instantiable C k).before a0 Z = true) (G : oAI Z h b ty n f) : a ≠ b := by
  obtain ⟨c2, A2, -⟩ := G
  exact ne_arr F wi A2
theorem oEm.wrA {vm : Vm} {x : Addr} {sl : Nat} {v : Value} {ty : FieldType} {n k : Nat} {f : Nat → Int32} (F : oEm Z vm h) (W : Wr h h' x sl v) (G : oAI Z h x ty n f) (wi : (Jvm.Cond.instantiable "java/lang/String" k).before a0 Z = true) (q : FieldType.byte ≠ ty) : oEm Z vm h' := by
  rcases F with r | ⟨a, b, f1, f2, f3, f4, f5⟩
  · exact Or.inl r
  · exact Or.inr ⟨a, b, f1, f2.wr W, f3.other W (Or.inl (oNeO f2 wi G)), f4.other W (Or.inl (oNeO f2 wi G)), f5.other W (oNeT f5 G q)⟩
theorem fld_fun {a : Addr} {C n d : String} {v w : Value} (F : Fld Z h a C n d v) (G : Fld Z h a C n d w) : v = w := by
  by_cases q : v = w
  · exact q
  · exact absurd rfl (F.ne G q)
theorem oEm.wrF {vm : Vm} {x : Addr} {sl : Nat} {v : Value} (F : oEm Z vm h) (W : Wr h h' x sl v) (G : Fld Z h x "java/lang/String" "value" "[B" .null) {k : Nat} (Ex : Exa Z h x "java/lang/String") (wi : (Jvm.Cond.instantiable "java/lang/String" k).before a0 Z = true) : oEm Z vm h' := by
  rcases F with r | ⟨a, b, f1, f2, f3, f4, f5⟩
  · exact Or.inl r
  · have q : a ≠ x := fun e => by subst e; exact absurd (fld_fun f4 G) nofun
    refine Or.inr ⟨a, b, f1, f2.wr W, f3.other W (Or.inl q), f4.other W (Or.inl q), f5.other W (fun e => oNeO Ex wi f5 e.symm)⟩
theorem warm_interned {vm0 vm1 : Vm} (W : (s.setVm vm0).WarmedH vm1) : vm1.interned = vm0.interned := by
  rw [W.1]; rfl
theorem oEm.warm {vm0 vm1 : Vm} (F : oEm Z vm0 h) (W : (s.setVm vm0).WarmedH vm1) : oEm Z vm1 h := by
  rcases F with r | ⟨a, b, f1, f2⟩
  · exact Or.inl ((warm_interned W).trans r)
  · exact Or.inr ⟨a, b, Lit.stays (s := s) f1 W.wide, f2⟩
theorem oAI.ofArv0 {b : Addr} {k : ClassId} {ty : FieldType} {d : Value} (V : Arv Z h b k ty (0 : Int32) [] d) : oAI Z h b ty 0 (fun _ => 0) := by
  obtain ⟨c, A, -, S, -⟩ := V
  exact ⟨c, A, S, by decide, fun j hj => absurd hj (Nat.not_lt_zero _)⟩
theorem oAI_fun {a : Addr} {ty : FieldType} {n n' : Nat} {f f' : Nat → Int32} (F : oAI Z h a ty n f) (G : oAI Z h a ty n' f') : n = n' ∧ ∀ j, j < n → f j = f' j := by
  obtain ⟨c1, A1, S1, -, G1⟩ := F
  obtain ⟨c2, A2, S2, -, G2⟩ := G
  cases A1.1.symm.trans A2.1
  have e : n = n' := S1.symm.trans S2
  refine ⟨e, fun j hj => ?_⟩
  have h1 := G1 j hj
  rw [G2 j (e ▸ hj)] at h1
  injection h1 with h1; injection h1 with h1; exact h1.symm
end OwnVm
set_option maxHeartbeats 4000000 in
theorem own_sa {Z : State} {a0 : Array Value} (hw : ∀ d ∈ tables_1, d.before a0 Z = true) : ∀ d ∈ Bundle.stringAtoms, d.before a0 Z = true := by
  intro d hd
  simp only [Bundle.stringAtoms, List.mem_cons, List.not_mem_nil, or_false] at hd
  rcases hd with rfl | rfl | rfl | rfl | rfl | rfl | rfl
  · exact (hw _ (List.mem_of_getElem? (i := 6) rfl))
  · exact (hw _ (List.mem_of_getElem? (i := 5) rfl))
  · exact (hw _ (List.mem_of_getElem? (i := 19) rfl))
  · exact (hw _ (List.mem_of_getElem? (i := 20) rfl))
  · exact (hw _ (List.mem_of_getElem? (i := 21) rfl))
  · exact (hw _ (List.mem_of_getElem? (i := 22) rfl))
  · exact (hw _ (List.mem_of_getElem? (i := 23) rfl))
def oLo (f : Nat → Int32) : Nat → Int32 := fun j => nar .byte ((f j).toInt8.toInt32)
theorem own_ofNat {n : Nat} (h : n < 2147483648) : (Int32.ofNat n).toInt = n := Int32.toInt_ofNat_of_lt (by omega)
theorem own_incS {x : Int32} (h : x.toInt < 2147483647) : (x + (1 : Int32)).toInt = x.toInt + 1 := by
  have h1 := c_iadd x 1; have h2 := rng32 (x + 1); have h3 := rng32 x; have e1 : (1 : Int32).toInt = 1 := rfl
  omega
theorem d22_0 : decode jdk_52_method_21_code 0 = .ok (.iconst 0, 1) := by decide +kernel
theorem d22_1 : decode jdk_52_method_21_code 1 = .ok (.istore 5, 2) := by decide +kernel
theorem d22_3 : decode jdk_52_method_21_code 3 = .ok (.iload 5, 2) := by decide +kernel
theorem d22_5 : decode jdk_52_method_21_code 5 = .ok (.iload 4, 2) := by decide +kernel
theorem d22_7 : decode jdk_52_method_21_code 7 = .ok (.if_icmp .ge 37, 3) := by decide +kernel
theorem d22_10 : decode jdk_52_method_21_code 10 = .ok (.aload_n 0, 1) := by decide +kernel
theorem d22_11 : decode jdk_52_method_21_code 11 = .ok (.iload_n 1, 1) := by decide +kernel
theorem d22_12 : decode jdk_52_method_21_code 12 = .ok (.caload, 1) := by decide +kernel
theorem d22_13 : decode jdk_52_method_21_code 13 = .ok (.istore 6, 2) := by decide +kernel
theorem d22_15 : decode jdk_52_method_21_code 15 = .ok (.iload 6, 2) := by decide +kernel
theorem d22_17 : decode jdk_52_method_21_code 17 = .ok (.sipush 255, 3) := by decide +kernel
theorem d22_20 : decode jdk_52_method_21_code 20 = .ok (.if_icmp .le 6, 3) := by decide +kernel
theorem d22_26 : decode jdk_52_method_21_code 26 = .ok (.aload_n 2, 1) := by decide +kernel
theorem d22_27 : decode jdk_52_method_21_code 27 = .ok (.iload_n 3, 1) := by decide +kernel
theorem d22_28 : decode jdk_52_method_21_code 28 = .ok (.iload 6, 2) := by decide +kernel
theorem d22_30 : decode jdk_52_method_21_code 30 = .ok (.i2b, 1) := by decide +kernel
theorem d22_31 : decode jdk_52_method_21_code 31 = .ok (.bastore, 1) := by decide +kernel
theorem d22_32 : decode jdk_52_method_21_code 32 = .ok (.iinc 1 1, 3) := by decide +kernel
theorem d22_35 : decode jdk_52_method_21_code 35 = .ok (.iinc 3 1, 3) := by decide +kernel
theorem d22_38 : decode jdk_52_method_21_code 38 = .ok (.iinc 5 1, 3) := by decide +kernel
theorem d22_41 : decode jdk_52_method_21_code 41 = .ok (.goto (-38), 3) := by decide +kernel
theorem d22_44 : decode jdk_52_method_21_code 44 = .ok (.iload 4, 2) := by decide +kernel
theorem d22_46 : decode jdk_52_method_21_code 46 = .ok (.ireturn, 1) := by decide +kernel
theorem pn_StringUTF16 : plainName "java/lang/StringUTF16" = true := by first | (simp [plainName, overriddenIn]; done) | decide +kernel
theorem ef_rmCmp5 (m : MethodId) (x0 : Nat) (x1 : Int32) (x2 : Nat) (x3 : Int32) (x4 : Int32)  : entryFrame m #[(.ref x0), (.int x1), (.ref x2), (.int x3), (.int x4)] 7 = mkF m 0 #[.val (.ref x0), .val (.int x1), .val (.ref x2), .val (.int x3), .val (.int x4), .unset, .unset] [] := by first | (simp [entryFrame, mkF, argsToLocals, Value.category, maxLocals]; done) | rfl
def Q_rmCmp5 (Z : State) (a d n : Nat) (f g0 : Nat → Int32) (h0 : Heap) (n0 : Nat) (vv : Option Value) (h : Heap) (L : List Loc) : Prop := vv = some (.int (Int32.ofNat n)) ∧ Fr n0 L ∧ Keep h0 h [d] ∧ oAI Z h d .byte n (oLo f)
set_option maxRecDepth 65536 in
set_option maxHeartbeats 40000000 in
theorem rmCmp5 (l : Launch) (Z : State) (a0 : Array Value) (hw : ∀ d ∈ tables_1, d.before a0 Z = true) (ws : List Jvm.Cond) (a d n : Nat) (f g0 : Nat → Int32) (h0 : Heap) (n0 : Nat) (Z0 : n0 ≤ h0.size) (PV : oAI Z h0 a .char n f) (PD : oAI Z h0 d .byte n g0) (hne : a ≠ d) (gd : n0 ≤ d) (hl : ∀ j : Nat, j < n → ¬ (255 : Int32) < f j) :
    MetFree l (⟨"java/lang/StringUTF16", "compress", "([CI[BII)I"⟩ : MethodName) (head1 (Jvm.Cond.code (⟨"java/lang/StringUTF16", "compress", "([CI[BII)I"⟩ : MethodName) jdk_52_method_21_code 7 (some .int) :: ws) ({ frames := 0, cells := 0, slots := 0, locals := 0 } : Room)) (fun aA uU => aA = #[(.ref a), (.int (0 : Int32)), (.ref d), (.int (0 : Int32)), (.int (Int32.ofNat n))] ∧ Z.Warmed39 uU.vm ∧ uU.heap = h0) (fun _ _ _ _ _ => True) (fun _ uU oO uU' => ∃ vV lL, oO = .returned vV ∧ Q_rmCmp5 Z a d n f g0 h0 n0 vV uU'.heap lL ∧ FrameEnd uU oO uU' lL ({ frames := 0, cells := 0, slots := 0, locals := 0 } : Room).cells ({ frames := 0, cells := 0, slots := 0, locals := 0 } : Room).slots) := by
  refine MetFree.of_bodySF (plainFor_of_name pn_StringUTF16) hisR ?_
  intro p e s m args below meth c s₁ Bd hml0 hP hK
  obtain ⟨rfl, hZ, hh⟩ := hP
  have hx := Bd.exec
  have hby := Bd.bytes
  have hml : c.maxLocals = 7 := hml0
  have hown : s.vm.findClass "java/lang/StringUTF16" = some m.cls := findClass_of_methodNamed Bd.named
  have hnm := (name_of_methodNamed Bd.named Bd.method).1
  have X0 : Stand p l e ({ frames := 0, cells := 0, slots := 0, locals := 0 } : Room) s m #[(.ref a), (.int (0 : Int32)), (.ref d), (.int (0 : Int32)), (.int (Int32.ofNat n))] below meth c s₁ [] 0 0 := Stand.of_body Bd
  have e0 : s₁.heap = h0 := by rw [← hh, Bd.state]; rfl
  have N0 := Fr.nil n0
  refine oEnter (oCast (ef_rmCmp5 m a (0 : Int32) d (0 : Int32) (Int32.ofNat n) ) ?_)
  show oGl p e below (s₁.setTop (mkF m 0 #[.val (.ref a), .val (.int (0 : Int32)), .val (.ref d), .val (.int (0 : Int32)), .val (.int (Int32.ofNat n)), .unset, .unset] [])) _
  refine siconst X0 hx (hb hby d22_0) rfl rfl (z := 0) (pc' := 1) ?_
  refine sistore X0 hx (hb hby d22_1) rfl rfl (l' := #[.val (.ref a), .val (.int (0 : Int32)), .val (.ref d), .val (.int (0 : Int32)), .val (.int (Int32.ofNat n)), .val (.int (0 : Int32)), .unset]) (pc' := 3) ?_
  have hn9 := PV.small
  have lA : @LT.lt Nat _ a h0.size := PV.lt
  have lD : @LT.lt Nat _ d h0.size := PD.lt
  have nad : @Ne Nat a d := hne
  have lp3 : ∀ (kF : Nat) (i : Int32) (o6 : Slot) (g : Nat → Int32) (T : State) (locs : List Loc) (X : Stand p l e ({ frames := 0, cells := 0, slots := 0, locals := 0 } : Room) s m #[(.ref a), (.int (0 : Int32)), (.ref d), (.int (0 : Int32)), (.int (Int32.ofNat n))] below meth c T locs 0 0) (hh : Heap) (eT : T.heap = hh) (N : Fr n0 locs) (hzh : n0 ≤ hh.size) (Kp : Keep h0 hh [d]) (fa0 : oAI Z hh a .char n f) (fa1 : oAI Z hh d .byte n g) (hm : (n - i.toInt.toNat) < kF) (hi : 0 ≤ i.toInt ∧ i.toInt ≤ n ∧ One o6 ∧ ∀ j : Nat, (j : Int) < i.toInt → g j = oLo f j), oGl p e below (T.setTop (mkF m 3 #[.val (.ref a), .val (.int i), .val (.ref d), .val (.int i), .val (.int (Int32.ofNat n)), .val (.int i), o6] [])) (oFin s below (Q_rmCmp5 Z a d n f g0 h0 n0) ({ frames := 0, cells := 0, slots := 0, locals := 0 } : Room).cells ({ frames := 0, cells := 0, slots := 0, locals := 0 } : Room).slots) := by
    intro kF
    induction kF with
    | zero => intro i o6 g T locs X hh eT N hzh Kp fa0 fa1 hm hi; exact absurd hm (Nat.not_lt_zero _)
    | succ kF ih =>
      intro i o6 g T locs X hh eT N hzh Kp fa0 fa1 hm hi
      have lfa0 : @LT.lt Nat _ a hh.size := fa0.lt
      have lfa1 : @LT.lt Nat _ d hh.size := fa1.lt
      refine siload X hx (hb hby d22_3) rfl rfl (pc' := 5) ?_
      refine siload X hx (hb hby d22_5) rfl rfl (pc' := 7) ?_
      by_cases hc7 : i < (Int32.ofNat n)
      · skip
        refine sicN X hx (hb hby d22_7) rfl (tlt hc7).2.1 (pc' := 10) ?_
        refine saloadN X hx (hb hby d22_10) rfl rfl rfl (pc' := 11) ?_
        refine siloadN X hx (hb hby d22_11) rfl rfl (pc' := 12) ?_
        refine oOn (fa0.ldC X hx hZ eT (j := i) (by have hlt := Int32.lt_iff_toInt_lt.mp hc7; rw [own_ofNat hn9] at hlt; omega) (g := (mkF m 12 #[.val (.ref a), .val (.int i), .val (.ref d), .val (.int i), .val (.int (Int32.ofNat n)), .val (.int i), o6] [(.int i), (.ref a)])) rfl rfl (hb hby d22_12)) ?_
        show oGl p e below (T.setTop (mkF m 13 #[.val (.ref a), .val (.int i), .val (.ref d), .val (.int i), .val (.int (Int32.ofNat n)), .val (.int i), o6] [(.int (f i.toInt.toNat))])) _
        refine sistore X hx (hb hby d22_13) rfl (oSto rfl hi.2.2.1 rfl) (l' := #[.val (.ref a), .val (.int i), .val (.ref d), .val (.int i), .val (.int (Int32.ofNat n)), .val (.int i), .val (.int (f i.toInt.toNat))]) (pc' := 15) ?_
        refine siload X hx (hb hby d22_15) rfl rfl (pc' := 17) ?_
        refine ssipush X hx (hb hby d22_17) rfl rfl (z := 255) (pc' := 20) ?_
        refine sicY X hx (hb hby d22_20) (by decide) (by decide) (flt (hl _ (by have hlt := Int32.lt_iff_toInt_lt.mp hc7; rw [own_ofNat hn9] at hlt; omega) : ¬ ((255 : Int32) < (f i.toInt.toNat)))).2.2.2 (pc' := 26) ?_
        refine saloadN X hx (hb hby d22_26) rfl rfl rfl (pc' := 27) ?_
        refine siloadN X hx (hb hby d22_27) rfl rfl (pc' := 28) ?_
        refine siload X hx (hb hby d22_28) rfl rfl (pc' := 30) ?_
        refine si2b X hx (hb hby d22_30) rfl rfl (pc' := 31) ?_
        obtain ⟨T1, h1, X1, e1, W1, V1, st1⟩ := fa1.stB X hx hZ eT (j := i) (by have hlt := Int32.lt_iff_toInt_lt.mp hc7; rw [own_ofNat hn9] at hlt; omega) (g := (mkF m 31 #[.val (.ref a), .val (.int i), .val (.ref d), .val (.int i), .val (.int (Int32.ofNat n)), .val (.int i), .val (.int (f i.toInt.toNat))] [(.int (((f i.toInt.toNat)).toInt8.toInt32)), (.int i), (.ref d)])) rfl rfl (hb hby d22_31)
        refine oOn st1 ?_
        have z2 : hh.size ≤ h1.size := Nat.le_of_eq W1.size.symm
        have N1 := Fr.snoc X1 N (by omega)
        show oGl p e below (T1.setTop (mkF m 32 #[.val (.ref a), .val (.int i), .val (.ref d), .val (.int i), .val (.int (Int32.ofNat n)), .val (.int i), .val (.int (f i.toInt.toNat))] [])) _
        refine siinc X1 hx (hb hby d22_32) rfl rfl rfl (l' := #[.val (.ref a), .val (.int (i + (1 : Int32))), .val (.ref d), .val (.int i), .val (.int (Int32.ofNat n)), .val (.int i), .val (.int (f i.toInt.toNat))]) (pc' := 35) ?_
        refine siinc X1 hx (hb hby d22_35) rfl rfl rfl (l' := #[.val (.ref a), .val (.int (i + (1 : Int32))), .val (.ref d), .val (.int (i + (1 : Int32))), .val (.int (Int32.ofNat n)), .val (.int i), .val (.int (f i.toInt.toNat))]) (pc' := 38) ?_
        refine siinc X1 hx (hb hby d22_38) rfl rfl rfl (l' := #[.val (.ref a), .val (.int (i + (1 : Int32))), .val (.ref d), .val (.int (i + (1 : Int32))), .val (.int (Int32.ofNat n)), .val (.int (i + (1 : Int32))), .val (.int (f i.toInt.toNat))]) (pc' := 41) ?_
        refine sgoto X1 hx (hb hby d22_41) (by decide) (by decide)  (pc' := 3) ?_
        have hlt := Int32.lt_iff_toInt_lt.mp hc7
        rw [own_ofNat hn9] at hlt
        have hi1 := own_incS (x := i) (by omega)
        have hzb : n0 ≤ h1.size := by omega
        have kp3 : Keep h0 h1 [d] := (Kp.wr W1 (Or.inl (List.mem_of_getElem? (i := 0) rfl)))
        have f4 := (fa0.other W1 (oNe (by omega)))
        exact ih (i + (1 : Int32)) (.val (.int (f i.toInt.toNat))) (oUp g i.toInt.toNat (nar .byte (((f i.toInt.toNat)).toInt8.toInt32))) _ _ X1 _ e1 N1 hzb kp3 f4 V1 (by omega) ⟨by omega, by omega, One.val rfl, fun j hj => by
          by_cases q : j = i.toInt.toNat
          · subst q; exact oUp_hit
          · rw [oUp_miss q]; exact hi.2.2.2 j (by omega)⟩
      · skip
        refine sicY X hx (hb hby d22_7) (by decide) (by decide) (flt hc7).2.1 (pc' := 44) ?_
        refine siload X hx (hb hby d22_44) rfl rfl (pc' := 46) ?_
        have hge : ¬ i.toInt < (Int32.ofNat n).toInt := fun q => hc7 (Int32.lt_iff_toInt_lt.mpr q)
        rw [own_ofNat hn9] at hge
        have kp5 : Keep h0 hh [d] := Kp
        refine oRetI X hx Bd.notSynchronized Bd.returns (hb hby d22_46) (by decide) (by decide) ?_
        show Q_rmCmp5 Z a d n f g0 h0 n0 _ T.heap _
        rw [eT]
        exact ⟨rfl, N, kp5, fa1.congr (fun j hj => hi.2.2.2 j (by omega))⟩
  have hzb : n0 ≤ h0.size := by omega
  have kp6 : Keep h0 h0 [d] := (Keep.refl h0 [d])
  exact lp3 _ 0 .unset g0 _ _ X0 _ e0 N0 hzb kp6 PV PD (Nat.lt_succ_self _) ⟨by decide, by have e0 : (0 : Int32).toInt = 0 := rfl; omega, One.u, fun j hj => by have e0 : (0 : Int32).toInt = 0 := rfl; omega⟩
theorem own_nn {n : Nat} (h : n < 2147483648) : ¬ Int32.ofNat n < 0 := by
  rw [Int32.lt_iff_toInt_lt, own_ofNat h]; have e0 : (0 : Int32).toInt = 0 := rfl; omega
theorem own_cod (x : Int32) : nar .byte ((((x - x).toUInt32 >>> ((31 : Int32) &&& 31).toUInt32).toInt32).toInt8.toInt32) = 0 := by
  rw [Int32.sub_self]; decide
theorem d23_0 : decode jdk_52_method_15_code 0 = .ok (.iload_n 1, 1) := by decide +kernel
theorem d23_1 : decode jdk_52_method_15_code 1 = .ok (.aload_n 0, 1) := by decide +kernel
theorem d23_2 : decode jdk_52_method_15_code 2 = .ok (.arraylength, 1) := by decide +kernel
theorem d23_3 : decode jdk_52_method_15_code 3 = .ok (.isub, 1) := by decide +kernel
theorem d23_4 : decode jdk_52_method_15_code 4 = .ok (.bipush 31, 2) := by decide +kernel
theorem d23_6 : decode jdk_52_method_15_code 6 = .ok (.iushr, 1) := by decide +kernel
theorem d23_7 : decode jdk_52_method_15_code 7 = .ok (.i2b, 1) := by decide +kernel
theorem d23_8 : decode jdk_52_method_15_code 8 = .ok (.ireturn, 1) := by decide +kernel
theorem ef_rmCod (m : MethodId) (x0 : Nat) (x1 : Int32)  : entryFrame m #[(.ref x0), (.int x1)] 2 = mkF m 0 #[.val (.ref x0), .val (.int x1)] [] := by first | (simp [entryFrame, mkF, argsToLocals, Value.category, maxLocals]; done) | rfl
def Q_rmCod (Z : State) (d n : Nat) (g : Nat → Int32) (h0 : Heap) (n0 : Nat) (vv : Option Value) (h : Heap) (L : List Loc) : Prop := vv = some (.int 0) ∧ Fr n0 L ∧ h = h0
set_option maxRecDepth 65536 in
set_option maxHeartbeats 40000000 in
theorem rmCod (l : Launch) (Z : State) (a0 : Array Value) (hw : ∀ d ∈ tables_1, d.before a0 Z = true) (ws : List Jvm.Cond) (d n : Nat) (g : Nat → Int32) (h0 : Heap) (n0 : Nat) (Z0 : n0 ≤ h0.size) (PD : oAI Z h0 d .byte n g) :
    MetFree l (⟨"java/lang/StringUTF16", "coderFromArrayLen", "([BI)B"⟩ : MethodName) (head1 (Jvm.Cond.code (⟨"java/lang/StringUTF16", "coderFromArrayLen", "([BI)B"⟩ : MethodName) jdk_52_method_15_code 2 (some .byte) :: ws) ({ frames := 0, cells := 0, slots := 0, locals := 0 } : Room)) (fun aA uU => aA = #[(.ref d), (.int (Int32.ofNat n))] ∧ Z.Warmed39 uU.vm ∧ uU.heap = h0) (fun _ _ _ _ _ => True) (fun _ uU oO uU' => ∃ vV lL, oO = .returned vV ∧ Q_rmCod Z d n g h0 n0 vV uU'.heap lL ∧ FrameEnd uU oO uU' lL ({ frames := 0, cells := 0, slots := 0, locals := 0 } : Room).cells ({ frames := 0, cells := 0, slots := 0, locals := 0 } : Room).slots) := by
  refine MetFree.of_bodySF (plainFor_of_name pn_StringUTF16) hisR ?_
  intro p e s m args below meth c s₁ Bd hml0 hP hK
  obtain ⟨rfl, hZ, hh⟩ := hP
  have hx := Bd.exec
  have hby := Bd.bytes
  have hml : c.maxLocals = 2 := hml0
  have hown : s.vm.findClass "java/lang/StringUTF16" = some m.cls := findClass_of_methodNamed Bd.named
  have hnm := (name_of_methodNamed Bd.named Bd.method).1
  have X0 : Stand p l e ({ frames := 0, cells := 0, slots := 0, locals := 0 } : Room) s m #[(.ref d), (.int (Int32.ofNat n))] below meth c s₁ [] 0 0 := Stand.of_body Bd
  have e0 : s₁.heap = h0 := by rw [← hh, Bd.state]; rfl
  have N0 := Fr.nil n0
  refine oEnter (oCast (ef_rmCod m d (Int32.ofNat n) ) ?_)
  show oGl p e below (s₁.setTop (mkF m 0 #[.val (.ref d), .val (.int (Int32.ofNat n))] [])) _
  refine siloadN X0 hx (hb hby d23_0) rfl rfl (pc' := 1) ?_
  refine saloadN X0 hx (hb hby d23_1) rfl rfl rfl (pc' := 2) ?_
  refine oOn (PD.len X0 hx hZ e0 (g := (mkF m 2 #[.val (.ref d), .val (.int (Int32.ofNat n))] [(.ref d), (.int (Int32.ofNat n))])) rfl rfl (hb hby d23_2)) ?_
  show oGl p e below (s₁.setTop (mkF m 3 #[.val (.ref d), .val (.int (Int32.ofNat n))] [(.int (Int32.ofNat n)), (.int (Int32.ofNat n))])) _
  refine sisub X0 hx (hb hby d23_3) rfl rfl (pc' := 4) ?_
  refine sbipush X0 hx (hb hby d23_4) rfl rfl (z := 31) (pc' := 6) ?_
  refine siushr X0 hx (hb hby d23_6) rfl rfl (pc' := 7) ?_
  refine si2b X0 hx (hb hby d23_7) rfl rfl (pc' := 8) ?_
  refine oRetN (t := .byte) X0 hx Bd.notSynchronized Bd.returns (by simp) (hb hby d23_8) (by decide) (by decide) ?_
  show Q_rmCod Z d n g h0 n0 _ s₁.heap _
  rw [e0]
  exact ⟨congrArg (fun z => some (Value.int z)) (own_cod (Int32.ofNat n)), N0, rfl⟩
theorem d21_0 : decode jdk_52_method_16_code 0 = .ok (.iload_n 2, 1) := by decide +kernel
theorem d21_1 : decode jdk_52_method_16_code 1 = .ok (.newarray .byte, 2) := by decide +kernel
theorem d21_3 : decode jdk_52_method_16_code 3 = .ok (.astore_n 3, 1) := by decide +kernel
theorem d21_4 : decode jdk_52_method_16_code 4 = .ok (.aload_n 0, 1) := by decide +kernel
theorem d21_5 : decode jdk_52_method_16_code 5 = .ok (.iload_n 1, 1) := by decide +kernel
theorem d21_6 : decode jdk_52_method_16_code 6 = .ok (.aload_n 3, 1) := by decide +kernel
theorem d21_7 : decode jdk_52_method_16_code 7 = .ok (.iconst 0, 1) := by decide +kernel
theorem d21_8 : decode jdk_52_method_16_code 8 = .ok (.iload_n 2, 1) := by decide +kernel
theorem d21_9 : decode jdk_52_method_16_code 9 = .ok (.invokestatic 115, 3) := by decide +kernel
theorem pd_0 : parseMethodDescriptor "([CI[BII)I" = some ⟨[(.array .char), .int, (.array .byte), .int, .int], some .int⟩ := by decide +kernel
theorem d21_12 : decode jdk_52_method_16_code 12 = .ok (.istore 4, 2) := by decide +kernel
theorem d21_14 : decode jdk_52_method_16_code 14 = .ok (.iload 4, 2) := by decide +kernel
theorem d21_16 : decode jdk_52_method_16_code 16 = .ok (.iload_n 2, 1) := by decide +kernel
theorem d21_17 : decode jdk_52_method_16_code 17 = .ok (.if_icmp .eq 40, 3) := by decide +kernel
theorem d21_57 : decode jdk_52_method_16_code 57 = .ok (.aload_n 3, 1) := by decide +kernel
theorem d21_58 : decode jdk_52_method_16_code 58 = .ok (.areturn, 1) := by decide +kernel
theorem ef_rmCmp3 (m : MethodId) (x0 : Nat) (x1 : Int32) (x2 : Int32)  : entryFrame m #[(.ref x0), (.int x1), (.int x2)] 6 = mkF m 0 #[.val (.ref x0), .val (.int x1), .val (.int x2), .unset, .unset, .unset] [] := by first | (simp [entryFrame, mkF, argsToLocals, Value.category, maxLocals]; done) | rfl
def Q_rmCmp3 (Z : State) (a n : Nat) (f : Nat → Int32) (h0 : Heap) (n0 : Nat) (vv : Option Value) (h : Heap) (L : List Loc) : Prop := ∃ d : Nat, vv = some (.ref d) ∧ Fr n0 L ∧ Keep h0 h [] ∧ h0.size ≤ d ∧ oAI Z h d .byte n (oLo f)
set_option maxRecDepth 65536 in
set_option maxHeartbeats 40000000 in
theorem rmCmp3 (l : Launch) (Z : State) (a0 : Array Value) (hw : ∀ d ∈ tables_1, d.before a0 Z = true) (ws : List Jvm.Cond) (a n : Nat) (f : Nat → Int32) (h0 : Heap) (n0 : Nat) (Z0 : n0 ≤ h0.size) (PV : oAI Z h0 a .char n f) (hcap : n ≤ 3) (hl : ∀ j : Nat, j < n → ¬ (255 : Int32) < f j) :
    MetFree l (⟨"java/lang/StringUTF16", "compress", "([CII)[B"⟩ : MethodName) (head1 (Jvm.Cond.code (⟨"java/lang/StringUTF16", "compress", "([CII)[B"⟩ : MethodName) jdk_52_method_16_code 6 (some (.array .byte)) :: ws) ({ frames := 1, cells := 1, slots := 3, locals := 18 } : Room)) (fun aA uU => aA = #[(.ref a), (.int (0 : Int32)), (.int (Int32.ofNat n))] ∧ Z.Warmed39 uU.vm ∧ uU.heap = h0) (fun _ _ _ _ _ => True) (fun _ uU oO uU' => ∃ vV lL, oO = .returned vV ∧ Q_rmCmp3 Z a n f h0 n0 vV uU'.heap lL ∧ FrameEnd uU oO uU' lL ({ frames := 1, cells := 1, slots := 3, locals := 18 } : Room).cells ({ frames := 1, cells := 1, slots := 3, locals := 18 } : Room).slots) := by
  refine MetFree.of_bodySF (plainFor_of_name pn_StringUTF16) hisR ?_
  intro p e s m args below meth c s₁ Bd hml0 hP hK
  obtain ⟨rfl, hZ, hh⟩ := hP
  have hx := Bd.exec
  have hby := Bd.bytes
  have hml : c.maxLocals = 6 := hml0
  have hown : s.vm.findClass "java/lang/StringUTF16" = some m.cls := findClass_of_methodNamed Bd.named
  have hnm := (name_of_methodNamed Bd.named Bd.method).1
  have X0 : Stand p l e ({ frames := 1, cells := 1, slots := 3, locals := 18 } : Room) s m #[(.ref a), (.int (0 : Int32)), (.int (Int32.ofNat n))] below meth c s₁ [] 0 0 := Stand.of_body Bd
  have e0 : s₁.heap = h0 := by rw [← hh, Bd.state]; rfl
  have N0 := Fr.nil n0
  have lA : @LT.lt Nat _ a h0.size := PV.lt
  have hn9 := PV.small
  have hn8 := own_ofNat hn9
  refine oEnter (oCast (ef_rmCmp3 m a (0 : Int32) (Int32.ofNat n) ) ?_)
  show oGl p e below (s₁.setTop (mkF m 0 #[.val (.ref a), .val (.int (0 : Int32)), .val (.int (Int32.ofNat n)), .unset, .unset, .unset] [])) _
  refine siloadN X0 hx (hb hby d21_0) rfl rfl (pc' := 1) ?_
  obtain ⟨T1, h1, k1, X1, e1, E1, A1, st1⟩ := newP X0 hx hZ (hw _ (List.mem_of_getElem? (i := 19) rfl)) e0 (g := (mkF m 1 #[.val (.ref a), .val (.int (0 : Int32)), .val (.int (Int32.ofNat n)), .unset, .unset, .unset] [(.int (Int32.ofNat n))])) rfl (hb hby d21_1) rfl (own_nn hn9) (cap := 3) (by show (Int32.ofNat n).toInt.toNat ≤ _; omega) (by decide) (by decide) (by decide)
  obtain ⟨a1, g1⟩ : ∃ z, z = h0.size := ⟨_, rfl⟩
  rw [← g1] at A1 st1
  refine oOn st1 ?_
  have z2 : h0.size ≤ h1.size := E1.1
  have lt1 : a1 < h1.size := A1.lt
  have V1 : oAI Z h1 a1 .byte n (fun _ => 0) := oAI.new A1 (by omega)
  show oGl p e below (T1.setTop (mkF m 3 #[.val (.ref a), .val (.int (0 : Int32)), .val (.int (Int32.ofNat n)), .unset, .unset, .unset] [(.ref a1)])) _
  refine sastoreN X1 hx (hb hby d21_3) rfl rfl rfl (l' := #[.val (.ref a), .val (.int (0 : Int32)), .val (.int (Int32.ofNat n)), .val (.ref a1), .unset, .unset]) (pc' := 4) ?_
  refine saloadN X1 hx (hb hby d21_4) rfl rfl rfl (pc' := 5) ?_
  refine siloadN X1 hx (hb hby d21_5) rfl rfl (pc' := 6) ?_
  refine saloadN X1 hx (hb hby d21_6) rfl rfl rfl (pc' := 7) ?_
  refine siconst X1 hx (hb hby d21_7) rfl rfl (z := 0) (pc' := 8) ?_
  refine siloadN X1 hx (hb hby d21_8) rfl rfl (pc' := 9) ?_
  have f3 := (PV.ext E1)
  have hz4 : n0 ≤ h1.size := by omega
  obtain ⟨_, _, ⟨T4, L4, k4, n4⟩, -, X4, ⟨Lc4, hQ4, l4, y4, z4⟩, st4⟩ := Jvm.LawKit.callS X1 hx (y := (⟨"java/lang/StringUTF16", "compress", "([CI[BII)I"⟩ : MethodName)) hown (mvT hZ (hw _ (List.mem_of_getElem? (i := 118) rfl))) (mvT hZ (hw _ (List.mem_of_getElem? (i := 119) rfl))) (mvT hZ (hw _ (List.mem_of_getElem? (i := 116) rfl))) (mvT hZ (hw _ (List.mem_of_getElem? (i := 120) rfl))) (by decide) (backOf (W := 0) (rmCmp5 l Z a0 hw [] a a1 n f (fun _ => 0) h1 n0 hz4 f3 V1 (oNe (by omega)) (by omega) hl) hZ (hw _ (List.mem_of_getElem? (i := 120) rfl)) (hw _ (List.mem_of_getElem? (i := 116) rfl)) (by decide) (by decide)) (g := (mkF m 9 #[.val (.ref a), .val (.int (0 : Int32)), .val (.int (Int32.ofNat n)), .val (.ref a1), .unset, .unset] [(.int (Int32.ofNat n)), (.int (0 : Int32)), (.ref a1), (.int (0 : Int32)), (.ref a)])) rfl (by rw [hml]; rfl) (argsL := [(.ref a), (.int (0 : Int32)), (.ref a1), (.int (0 : Int32)), (.int (Int32.ofNat n))]) (rest := []) (lenOf pd_0 rfl) rfl (by show 2 * 0 + _ ≤ _; exact Nat.le_of_eq rfl) (hb hby d21_9) (fun _ _ => ⟨rfl, e1, (by decide : 1 + 0 ≤ _), (by decide : 3 + 0 ≤ _)⟩)
  dsimp only [Pt.U, Pt.locs, Pt.cells, Pt.slots] at X4 l4 y4 z4 st4 hQ4
  subst l4 y4 z4
  obtain ⟨rfl, N4q, K4, Vd4⟩ := hQ4
  have N4 := Fr.app N0 N4q
  have z5 : h1.size ≤ T4.heap.size := K4.1
  refine oOn st4 ?_
  show oGl p e below (T4.setTop (mkF m 12 #[.val (.ref a), .val (.int (0 : Int32)), .val (.int (Int32.ofNat n)), .val (.ref a1), .unset, .unset] [(.int (Int32.ofNat n))])) _
  refine sistore X4 hx (hb hby d21_12) rfl rfl (l' := #[.val (.ref a), .val (.int (0 : Int32)), .val (.int (Int32.ofNat n)), .val (.ref a1), .val (.int (Int32.ofNat n)), .unset]) (pc' := 14) ?_
  refine siload X4 hx (hb hby d21_14) rfl rfl (pc' := 16) ?_
  refine siloadN X4 hx (hb hby d21_16) rfl rfl (pc' := 17) ?_
  refine sicY X4 hx (hb hby d21_17) (by decide) (by decide) (teq (rfl : (Int32.ofNat n) = (Int32.ofNat n))).1 (pc' := 57) ?_
  refine saloadN X4 hx (hb hby d21_57) rfl rfl rfl (pc' := 58) ?_
  have kp6 : Keep h0 T4.heap [] := (((Keep.refl h0 []).ext E1).trans K4 (allS (Or.inr (by omega)) all0))
  refine oRetR X4 hx Bd.notSynchronized Bd.returns rfl rfl (hb hby d21_58) (by decide) (by decide) ?_
  show Q_rmCmp3 Z a n f h0 n0 _ T4.heap _
  exact ⟨a1, rfl, N4, kp6, by omega, Vd4⟩
theorem own_n00 {n : Nat} (h : n < 2147483648) (e : Int32.ofNat n = (0 : Int32)) : n = 0 := by
  have e1 : (Int32.ofNat n).toInt = (0 : Int32).toInt := by rw [e]
  rw [own_ofNat h] at e1; have e0 : (0 : Int32).toInt = 0 := rfl; omega
theorem d3_0 : decode jdk_42_method_149_code 0 = .ok (.aload_n 0, 1) := by decide +kernel
theorem d3_1 : decode jdk_42_method_149_code 1 = .ok (.invokespecial 1, 3) := by decide +kernel
theorem d3_4 : decode jdk_42_method_149_code 4 = .ok (.iload_n 3, 1) := by decide +kernel
theorem d3_5 : decode jdk_42_method_149_code 5 = .ok (.ifCond .ne 22, 3) := by decide +kernel
theorem d3_8 : decode jdk_42_method_149_code 8 = .ok (.aload_n 0, 1) := by decide +kernel
theorem d3_9 : decode jdk_42_method_149_code 9 = .ok (.ldc 7, 2) := by decide +kernel
theorem d3_11 : decode jdk_42_method_149_code 11 = .ok (.getfield 9, 3) := by decide +kernel
theorem d3_14 : decode jdk_42_method_149_code 14 = .ok (.putfield 9, 3) := by decide +kernel
theorem d3_17 : decode jdk_42_method_149_code 17 = .ok (.aload_n 0, 1) := by decide +kernel
theorem d3_18 : decode jdk_42_method_149_code 18 = .ok (.ldc 7, 2) := by decide +kernel
theorem d3_20 : decode jdk_42_method_149_code 20 = .ok (.getfield 15, 3) := by decide +kernel
theorem d3_23 : decode jdk_42_method_149_code 23 = .ok (.putfield 15, 3) := by decide +kernel
theorem d3_26 : decode jdk_42_method_149_code 26 = .ok (.return_, 1) := by decide +kernel
theorem d3_27 : decode jdk_42_method_149_code 27 = .ok (.getstatic 38, 3) := by decide +kernel
theorem d3_30 : decode jdk_42_method_149_code 30 = .ok (.ifCond .eq 28, 3) := by decide +kernel
theorem d3_33 : decode jdk_42_method_149_code 33 = .ok (.aload_n 1, 1) := by decide +kernel
theorem d3_34 : decode jdk_42_method_149_code 34 = .ok (.iload_n 2, 1) := by decide +kernel
theorem d3_35 : decode jdk_42_method_149_code 35 = .ok (.iload_n 3, 1) := by decide +kernel
theorem d3_36 : decode jdk_42_method_149_code 36 = .ok (.invokestatic 177, 3) := by decide +kernel
theorem pd_1 : parseMethodDescriptor "([CII)[B" = some ⟨[(.array .char), .int, .int], some (.array .byte)⟩ := by decide +kernel
theorem d3_39 : decode jdk_42_method_149_code 39 = .ok (.astore 5, 2) := by decide +kernel
theorem d3_41 : decode jdk_42_method_149_code 41 = .ok (.aload_n 0, 1) := by decide +kernel
theorem d3_42 : decode jdk_42_method_149_code 42 = .ok (.aload 5, 2) := by decide +kernel
theorem d3_44 : decode jdk_42_method_149_code 44 = .ok (.iload_n 3, 1) := by decide +kernel
theorem d3_45 : decode jdk_42_method_149_code 45 = .ok (.invokestatic 47, 3) := by decide +kernel
theorem pd_2 : parseMethodDescriptor "([BI)B" = some ⟨[(.array .byte), .int], some .byte⟩ := by decide +kernel
theorem d3_48 : decode jdk_42_method_149_code 48 = .ok (.putfield 15, 3) := by decide +kernel
theorem d3_51 : decode jdk_42_method_149_code 51 = .ok (.aload_n 0, 1) := by decide +kernel
theorem d3_52 : decode jdk_42_method_149_code 52 = .ok (.aload 5, 2) := by decide +kernel
theorem d3_54 : decode jdk_42_method_149_code 54 = .ok (.putfield 9, 3) := by decide +kernel
theorem d3_57 : decode jdk_42_method_149_code 57 = .ok (.return_, 1) := by decide +kernel
theorem pn_String : plainName "java/lang/String" = true := by first | (simp [plainName, overriddenIn]; done) | decide +kernel
theorem ef_rmStr4 (m : MethodId) (x0 : Nat) (x1 : Nat) (x2 : Int32) (x3 : Int32)  : entryFrame m #[(.ref x0), (.ref x1), (.int x2), (.int x3), .null] 6 = mkF m 0 #[.val (.ref x0), .val (.ref x1), .val (.int x2), .val (.int x3), .val .null, .unset] [] := by first | (simp [entryFrame, mkF, argsToLocals, Value.category, maxLocals]; done) | rfl
def Q_rmStr4 (Z : State) (x a n : Nat) (f : Nat → Int32) (cz : Int32) (h0 : Heap) (n0 : Nat) (vv : Option Value) (h : Heap) (vm : Vm) (L : List Loc) : Prop := ∃ b : Nat, vv = none ∧ Fr n0 L ∧ Keep h0 h [x] ∧ Exa Z h x "java/lang/String" ∧ Fld Z h x "java/lang/String" "value" "[B" (.ref b) ∧ Fld Z h x "java/lang/String" "coder" "B" (.int 0) ∧ oAI Z h b .byte n (oLo f) ∧ oEm Z vm h
set_option maxRecDepth 65536 in
set_option maxHeartbeats 40000000 in
theorem rmStr4 (l : Launch) (Z : State) (a0 : Array Value) (hw : ∀ d ∈ tables_1, d.before a0 Z = true) (ws : List Jvm.Cond) (x a n : Nat) (f : Nat → Int32) (cz : Int32) (h0 : Heap) (n0 : Nat) (Z0 : n0 ≤ h0.size) (PV : oAI Z h0 a .char n f) (hcap : n ≤ 3) (hl : ∀ j : Nat, j < n → ¬ (255 : Int32) < f j) (hxa : x ≠ a) (E0 : Exa Z h0 x "java/lang/String") (F0 : Fld Z h0 x "java/lang/String" "value" "[B" .null) (F1 : Fld Z h0 x "java/lang/String" "coder" "B" (.int 0)) (gx : n0 ≤ x) (O0 : Old Z n0 h0) (SCS : Sta Z Z.heap "java/lang/String" "COMPACT_STRINGS" "Z" (.int cz)) (hcz : ¬ cz = (0 : Int32)) (hcH : Jvm.Lit.constHeld Z "java/lang/String" 7) (hcw : Jvm.Lit.compactW.before a0 Z = true) :
    MetFree l (⟨"java/lang/String", "<init>", "([CIILjava/lang/Void;)V"⟩ : MethodName) (head1 (Jvm.Cond.code (⟨"java/lang/String", "<init>", "([CIILjava/lang/Void;)V"⟩ : MethodName) jdk_42_method_149_code 6 (none : Option FieldType) :: ws) ({ frames := 2, cells := 2, slots := 4, locals := 35 } : Room)) (fun aA uU => aA = #[(.ref x), (.ref a), (.int (0 : Int32)), (.int (Int32.ofNat n)), .null] ∧ Z.Warmed39 uU.vm ∧ uU.heap = h0 ∧ oEm Z uU.vm h0) (fun _ _ _ _ _ => True) (fun _ uU oO uU' => ∃ vV lL, oO = .returned vV ∧ Q_rmStr4 Z x a n f cz h0 n0 vV uU'.heap uU'.vm lL ∧ ReturnedEndW uU oO uU' lL ({ frames := 2, cells := 2, slots := 4, locals := 35 } : Room).cells ({ frames := 2, cells := 2, slots := 4, locals := 35 } : Room).slots) := by
  refine MetFree.of_bodySF (plainFor_of_name pn_String) hisR ?_
  intro p e s m args below meth c s₁ Bd hml0 hP hK
  obtain ⟨rfl, hZ, hh, hJ⟩ := hP
  have hx := Bd.exec
  have hby := Bd.bytes
  have hml : c.maxLocals = 6 := hml0
  have hown : s.vm.findClass "java/lang/String" = some m.cls := findClass_of_methodNamed Bd.named
  have hnm := (name_of_methodNamed Bd.named Bd.method).1
  have X0 : Stand p l e ({ frames := 2, cells := 2, slots := 4, locals := 35 } : Room) (s.setVm s.vm) m #[(.ref x), (.ref a), (.int (0 : Int32)), (.int (Int32.ofNat n)), .null] below meth c s₁ [] 0 0 := Stand.of_body Bd
  have e0 : s₁.heap = h0 := by rw [← hh, Bd.state]; rfl
  have N0 := Fr.nil n0
  have hS : s.Since s.vm 0 := (State.WarmedH.refl s).since 0
  have hk : 0 ≤ h0.size := Nat.zero_le _
  have hZ : Z.Warmed39 (s.setVm s.vm).vm := hZ
  have hown : (s.setVm s.vm).vm.findClass "java/lang/String" = some m.cls := hown
  have lX : @LT.lt Nat _ x h0.size := E0.lt
  have lA : @LT.lt Nat _ a h0.size := PV.lt
  have hn9 := PV.small
  refine oEnterV (oCast (ef_rmStr4 m x a (0 : Int32) (Int32.ofNat n) ) ?_)
  show oGl p e below (s₁.setTop (mkF m 0 #[.val (.ref x), .val (.ref a), .val (.int (0 : Int32)), .val (.int (Int32.ofNat n)), .val .null, .unset] [])) _
  refine saloadN X0 hx (hb hby d3_0) rfl rfl rfl (pc' := 1) ?_
  obtain ⟨T1, X1, e1, st1⟩ := initO X0 hx hZ hown (hw _ (List.mem_of_getElem? (i := 15) rfl)) (hw _ (List.mem_of_getElem? (i := 16) rfl)) (hw _ (List.mem_of_getElem? (i := 17) rfl)) e0 (g := (mkF m 1 #[.val (.ref x), .val (.ref a), .val (.int (0 : Int32)), .val (.int (Int32.ofNat n)), .val .null, .unset] [(.ref x)])) rfl (by rw [hml]; rfl) rfl (hb hby d3_1) (by decide) (W := 0) (by show 2 * 0 + _ ≤ _; exact Nat.le_of_eq rfl) (by decide)
  refine oOn st1 ?_
  show oGl p e below (T1.setTop (mkF m 4 #[.val (.ref x), .val (.ref a), .val (.int (0 : Int32)), .val (.int (Int32.ofNat n)), .val .null, .unset] [])) _
  refine siloadN X1 hx (hb hby d3_4) rfl rfl (pc' := 5) ?_
  by_cases hc5 : (Int32.ofNat n) = (0 : Int32)
  · skip
    refine sifN X1 hx (hb hby d3_5) rfl (teq hc5).2 (pc' := 8) ?_
    refine saloadN X1 hx (hb hby d3_8) rfl rfl rfl (pc' := 9) ?_
    have hn0 : n = 0 := own_n00 hn9 hc5
    rcases hJ with hI | ⟨aS, bS, Ls, g1, g2, g3, g4⟩
    · skip
      obtain ⟨aS, T2, h2, k2, bS, kk2, X2, e2, E2, hS, hk, hZ, hown, g1, g2, g3, g4', -, -, -, Ls, st2⟩ := ldcSVL X1 hx hZ hown (hw _ (List.mem_of_getElem? (i := 18) rfl)) (own_sa hw) e1 hS (by omega) (Fr.nil _) (fun b cl hcl => by rw [hh]; exact O0.2.2 b cl hcl) (Ts := []) ⟨#[], by rw [hI]; simp, fun q hq => by simp at hq⟩ (by simp) hcH hcw (vs := []) (z := 0) ⟨by simp, rfl⟩ (by decide) rfl (g := (mkF m 9 #[.val (.ref x), .val (.ref a), .val (.int (0 : Int32)), .val (.int (Int32.ofNat n)), .val .null, .unset] [(.ref x)])) rfl (hb hby d3_9) (n := 0) (by decide) (by decide) (by decide) (by decide)
      have g4 := oAI.ofArv0 g4'
      refine oOn st2 ?_
      have z3 : h0.size ≤ h2.size := E2.1
      have lsA : @LT.lt Nat _ aS h2.size := g1.lt
      have lsB : @LT.lt Nat _ bS h2.size := g4.lt
      have f4 := (F0.ext E2)
      have f5 := (E0.ext E2)
      have nax : @Ne Nat aS x := g3.ne f4 nofun
      have nbx : @Ne Nat bS x := fun q => oNeO f5 (hw _ (List.mem_of_getElem? (i := 5) rfl)) g4 q.symm
      show oGl p e below (T2.setTop (mkF m 11 #[.val (.ref x), .val (.ref a), .val (.int (0 : Int32)), .val (.int (Int32.ofNat n)), .val .null, .unset] [(.ref aS), (.ref x)])) _
      obtain ⟨T6, X6, e6, st6⟩ := getF X2 hx hZ hown (host := "") (Or.inl (hw _ (List.mem_of_getElem? (i := 24) rfl))) Via.refl e2 g3 (g := (mkF m 11 #[.val (.ref x), .val (.ref a), .val (.int (0 : Int32)), .val (.int (Int32.ofNat n)), .val .null, .unset] [(.ref aS), (.ref x)])) rfl rfl (hb hby d3_11)
      refine oOn st6 ?_
      show oGl p e below (T6.setTop (mkF m 14 #[.val (.ref x), .val (.ref a), .val (.int (0 : Int32)), .val (.int (Int32.ofNat n)), .val .null, .unset] [(.ref bS), (.ref x)])) _
      obtain ⟨T7, h7, X7, e7, W7, st7⟩ := putF X6 hx hZ hown (host := "") (Or.inl (hw _ (List.mem_of_getElem? (i := 24) rfl))) Via.refl e6 f4 f5 (Or.inr ⟨(hw _ (List.mem_of_getElem? (i := 20) rfl)), rfl, hnm⟩) (hw _ (List.mem_of_getElem? (i := 5) rfl)) (ty := (.array .byte)) (by decide) rfl rfl (g := (mkF m 14 #[.val (.ref x), .val (.ref a), .val (.int (0 : Int32)), .val (.int (Int32.ofNat n)), .val .null, .unset] [(.ref bS), (.ref x)])) rfl rfl (hb hby d3_14)
      refine oOn st7 ?_
      have z8 : h2.size ≤ h7.size := Nat.le_of_eq W7.size.symm
      have N7 := Fr.snoc X7 N0 (by omega)
      have f7 := Fld.same W7 f4
      show oGl p e below (T7.setTop (mkF m 17 #[.val (.ref x), .val (.ref a), .val (.int (0 : Int32)), .val (.int (Int32.ofNat n)), .val .null, .unset] [])) _
      refine saloadN X7 hx (hb hby d3_17) rfl rfl rfl (pc' := 18) ?_
      refine oOn (ldcAgain X7 hx hZ hown (hw _ (List.mem_of_getElem? (i := 18) rfl)) Ls (g := (mkF m 18 #[.val (.ref x), .val (.ref a), .val (.int (0 : Int32)), .val (.int (Int32.ofNat n)), .val .null, .unset] [(.ref x)])) rfl (hb hby d3_18)) ?_
      show oGl p e below (T7.setTop (mkF m 20 #[.val (.ref x), .val (.ref a), .val (.int (0 : Int32)), .val (.int (Int32.ofNat n)), .val .null, .unset] [(.ref aS), (.ref x)])) _
      have f10 := (g2.other W7 (Or.inl (oNe (by omega))))
      obtain ⟨T9, X9, e9, st9⟩ := getF X7 hx hZ hown (host := "") (Or.inl (hw _ (List.mem_of_getElem? (i := 25) rfl))) Via.refl e7 f10 (g := (mkF m 20 #[.val (.ref x), .val (.ref a), .val (.int (0 : Int32)), .val (.int (Int32.ofNat n)), .val .null, .unset] [(.ref aS), (.ref x)])) rfl rfl (hb hby d3_20)
      refine oOn st9 ?_
      show oGl p e below (T9.setTop (mkF m 23 #[.val (.ref x), .val (.ref a), .val (.int (0 : Int32)), .val (.int (Int32.ofNat n)), .val .null, .unset] [(.int (0 : Int32)), (.ref x)])) _
      have f12 := ((F1.ext E2).other W7 (Or.inr (slot_ne (Or.inr (hw _ (List.mem_of_getElem? (i := 21) rfl))) (Or.inr (hw _ (List.mem_of_getElem? (i := 20) rfl))) (by decide) (t := .byte) (t' := (.array .byte)) (by decide) (by decide))))
      have f13 := (f5.wr W7)
      obtain ⟨T11, h11, X11, e11, W11, st11⟩ := putFN X9 hx hZ hown (hw _ (List.mem_of_getElem? (i := 25) rfl)) Via.refl e9 f12 f13 (Or.inr ⟨(hw _ (List.mem_of_getElem? (i := 21) rfl)), rfl, hnm⟩) (hw _ (List.mem_of_getElem? (i := 5) rfl)) (ty := .byte) (v' := (.int (0 : Int32))) (by decide) rfl rfl (g := (mkF m 23 #[.val (.ref x), .val (.ref a), .val (.int (0 : Int32)), .val (.int (Int32.ofNat n)), .val .null, .unset] [(.int (0 : Int32)), (.ref x)])) rfl rfl (hb hby d3_23)
      refine oOn st11 ?_
      have z14 : h7.size ≤ h11.size := Nat.le_of_eq W11.size.symm
      have N11 := Fr.snoc X11 N7 (by omega)
      have f11 := Fld.same W11 f12
      show oGl p e below (T11.setTop (mkF m 26 #[.val (.ref x), .val (.ref a), .val (.int (0 : Int32)), .val (.int (Int32.ofNat n)), .val .null, .unset] [])) _
      have kp15 : Keep h0 h11 [x] := ((((Keep.refl h0 [x]).ext E2).wr W7 (Or.inl (List.mem_of_getElem? (i := 0) rfl))).wr W11 (Or.inl (List.mem_of_getElem? (i := 0) rfl)))
      have f16 := ((g1.wr W7).wr W11)
      have f17 := (f10.other W11 (Or.inl (oNe (by omega))))
      have f18 := ((g3.other W7 (Or.inl (oNe (by omega)))).other W11 (Or.inl (oNe (by omega))))
      have f19 := ((g4.other W7 (oNe (by omega))).other W11 (oNe (by omega)))
      have hJ2 : oEm Z T2.vm h11 := Or.inr ⟨aS, bS, Ls, f16, f17, f18, f19⟩
      have f20 := (f13.wr W11)
      have f21 := (f7.other W11 (Or.inr (slot_ne (Or.inr (hw _ (List.mem_of_getElem? (i := 20) rfl))) (Or.inr (hw _ (List.mem_of_getElem? (i := 21) rfl))) (by decide) (t := (.array .byte)) (t' := .byte) (by decide) (by decide))))
      refine oRet0V X11 hS (by rw [e11]; omega) hx Bd.notSynchronized Bd.returns (hb hby d3_26) (by decide) (by decide) ?_
      show Q_rmStr4 Z x a n f cz h0 n0 _ T11.heap _ _
      rw [e11]
      exact ⟨bS, rfl, N11, kp15, f20, f21, f11, by rw [hn0]; exact f19.congr (fun j hj => absurd hj (Nat.not_lt_zero _)), hJ2.warm X11.warmed⟩
    · skip
      have Ls : Lit (s.setVm s.vm) "java/lang/String" 7 aS := Ls
      refine oOn (ldcAgain X1 hx hZ hown (hw _ (List.mem_of_getElem? (i := 18) rfl)) Ls (g := (mkF m 9 #[.val (.ref x), .val (.ref a), .val (.int (0 : Int32)), .val (.int (Int32.ofNat n)), .val .null, .unset] [(.ref x)])) rfl (hb hby d3_9)) ?_
      have lsA : @LT.lt Nat _ aS h0.size := g1.lt
      have lsB : @LT.lt Nat _ bS h0.size := g4.lt
      have nax : @Ne Nat aS x := g3.ne F0 nofun
      have nbx : @Ne Nat bS x := fun q => oNeO E0 (hw _ (List.mem_of_getElem? (i := 5) rfl)) g4 q.symm
      show oGl p e below (T1.setTop (mkF m 11 #[.val (.ref x), .val (.ref a), .val (.int (0 : Int32)), .val (.int (Int32.ofNat n)), .val .null, .unset] [(.ref aS), (.ref x)])) _
      obtain ⟨T22, X22, e22, st22⟩ := getF X1 hx hZ hown (host := "") (Or.inl (hw _ (List.mem_of_getElem? (i := 24) rfl))) Via.refl e1 g3 (g := (mkF m 11 #[.val (.ref x), .val (.ref a), .val (.int (0 : Int32)), .val (.int (Int32.ofNat n)), .val .null, .unset] [(.ref aS), (.ref x)])) rfl rfl (hb hby d3_11)
      refine oOn st22 ?_
      show oGl p e below (T22.setTop (mkF m 14 #[.val (.ref x), .val (.ref a), .val (.int (0 : Int32)), .val (.int (Int32.ofNat n)), .val .null, .unset] [(.ref bS), (.ref x)])) _
      obtain ⟨T23, h23, X23, e23, W23, st23⟩ := putF X22 hx hZ hown (host := "") (Or.inl (hw _ (List.mem_of_getElem? (i := 24) rfl))) Via.refl e22 F0 E0 (Or.inr ⟨(hw _ (List.mem_of_getElem? (i := 20) rfl)), rfl, hnm⟩) (hw _ (List.mem_of_getElem? (i := 5) rfl)) (ty := (.array .byte)) (by decide) rfl rfl (g := (mkF m 14 #[.val (.ref x), .val (.ref a), .val (.int (0 : Int32)), .val (.int (Int32.ofNat n)), .val .null, .unset] [(.ref bS), (.ref x)])) rfl rfl (hb hby d3_14)
      refine oOn st23 ?_
      have z24 : h0.size ≤ h23.size := Nat.le_of_eq W23.size.symm
      have N23 := Fr.snoc X23 N0 (by omega)
      have f23 := Fld.same W23 F0
      show oGl p e below (T23.setTop (mkF m 17 #[.val (.ref x), .val (.ref a), .val (.int (0 : Int32)), .val (.int (Int32.ofNat n)), .val .null, .unset] [])) _
      refine saloadN X23 hx (hb hby d3_17) rfl rfl rfl (pc' := 18) ?_
      refine oOn (ldcAgain X23 hx hZ hown (hw _ (List.mem_of_getElem? (i := 18) rfl)) Ls (g := (mkF m 18 #[.val (.ref x), .val (.ref a), .val (.int (0 : Int32)), .val (.int (Int32.ofNat n)), .val .null, .unset] [(.ref x)])) rfl (hb hby d3_18)) ?_
      show oGl p e below (T23.setTop (mkF m 20 #[.val (.ref x), .val (.ref a), .val (.int (0 : Int32)), .val (.int (Int32.ofNat n)), .val .null, .unset] [(.ref aS), (.ref x)])) _
      have f26 := (g2.other W23 (Or.inl (oNe (by omega))))
      obtain ⟨T25, X25, e25, st25⟩ := getF X23 hx hZ hown (host := "") (Or.inl (hw _ (List.mem_of_getElem? (i := 25) rfl))) Via.refl e23 f26 (g := (mkF m 20 #[.val (.ref x), .val (.ref a), .val (.int (0 : Int32)), .val (.int (Int32.ofNat n)), .val .null, .unset] [(.ref aS), (.ref x)])) rfl rfl (hb hby d3_20)
      refine oOn st25 ?_
      show oGl p e below (T25.setTop (mkF m 23 #[.val (.ref x), .val (.ref a), .val (.int (0 : Int32)), .val (.int (Int32.ofNat n)), .val .null, .unset] [(.int (0 : Int32)), (.ref x)])) _
      have f28 := (F1.other W23 (Or.inr (slot_ne (Or.inr (hw _ (List.mem_of_getElem? (i := 21) rfl))) (Or.inr (hw _ (List.mem_of_getElem? (i := 20) rfl))) (by decide) (t := .byte) (t' := (.array .byte)) (by decide) (by decide))))
      have f29 := (E0.wr W23)
      obtain ⟨T27, h27, X27, e27, W27, st27⟩ := putFN X25 hx hZ hown (hw _ (List.mem_of_getElem? (i := 25) rfl)) Via.refl e25 f28 f29 (Or.inr ⟨(hw _ (List.mem_of_getElem? (i := 21) rfl)), rfl, hnm⟩) (hw _ (List.mem_of_getElem? (i := 5) rfl)) (ty := .byte) (v' := (.int (0 : Int32))) (by decide) rfl rfl (g := (mkF m 23 #[.val (.ref x), .val (.ref a), .val (.int (0 : Int32)), .val (.int (Int32.ofNat n)), .val .null, .unset] [(.int (0 : Int32)), (.ref x)])) rfl rfl (hb hby d3_23)
      refine oOn st27 ?_
      have z30 : h23.size ≤ h27.size := Nat.le_of_eq W27.size.symm
      have N27 := Fr.snoc X27 N23 (by omega)
      have f27 := Fld.same W27 f28
      show oGl p e below (T27.setTop (mkF m 26 #[.val (.ref x), .val (.ref a), .val (.int (0 : Int32)), .val (.int (Int32.ofNat n)), .val .null, .unset] [])) _
      have kp31 : Keep h0 h27 [x] := (((Keep.refl h0 [x]).wr W23 (Or.inl (List.mem_of_getElem? (i := 0) rfl))).wr W27 (Or.inl (List.mem_of_getElem? (i := 0) rfl)))
      have f32 := ((g1.wr W23).wr W27)
      have f33 := (f26.other W27 (Or.inl (oNe (by omega))))
      have f34 := ((g3.other W23 (Or.inl (oNe (by omega)))).other W27 (Or.inl (oNe (by omega))))
      have f35 := ((g4.other W23 (oNe (by omega))).other W27 (oNe (by omega)))
      have hJ2 : oEm Z s.vm h27 := Or.inr ⟨aS, bS, Ls, f32, f33, f34, f35⟩
      have f36 := (f29.wr W27)
      have f37 := (f23.other W27 (Or.inr (slot_ne (Or.inr (hw _ (List.mem_of_getElem? (i := 20) rfl))) (Or.inr (hw _ (List.mem_of_getElem? (i := 21) rfl))) (by decide) (t := (.array .byte)) (t' := .byte) (by decide) (by decide))))
      refine oRet0V X27 hS (by rw [e27]; omega) hx Bd.notSynchronized Bd.returns (hb hby d3_26) (by decide) (by decide) ?_
      show Q_rmStr4 Z x a n f cz h0 n0 _ T27.heap _ _
      rw [e27]
      exact ⟨bS, rfl, N27, kp31, f36, f37, f27, by rw [hn0]; exact f35.congr (fun j hj => absurd hj (Nat.not_lt_zero _)), hJ2.warm X27.warmed⟩
  · skip
    refine sifY X1 hx (hb hby d3_5) (by decide) (by decide) (feq hc5).2 (pc' := 27) ?_
    obtain ⟨T38, X38, e38, st38⟩ := getS2 X1 hx hZ hown (host := "") (Or.inl (hw _ (List.mem_of_getElem? (i := 97) rfl))) Via.refl e1 (SCS.ext O0.2) (g := (mkF m 27 #[.val (.ref x), .val (.ref a), .val (.int (0 : Int32)), .val (.int (Int32.ofNat n)), .val .null, .unset] [])) rfl (hb hby d3_27)
    refine oOn st38 ?_
    show oGl p e below (T38.setTop (mkF m 30 #[.val (.ref x), .val (.ref a), .val (.int (0 : Int32)), .val (.int (Int32.ofNat n)), .val .null, .unset] [(.int cz)])) _
    refine sifN X38 hx (hb hby d3_30) rfl (feq (hcz : ¬ (cz = (0 : Int32)))).1 (pc' := 33) ?_
    refine saloadN X38 hx (hb hby d3_33) rfl rfl rfl (pc' := 34) ?_
    refine siloadN X38 hx (hb hby d3_34) rfl rfl (pc' := 35) ?_
    refine siloadN X38 hx (hb hby d3_35) rfl rfl (pc' := 36) ?_
    have hz39 : n0 ≤ h0.size := by omega
    obtain ⟨_, _, ⟨T39, L39, k39, n39⟩, -, X39, ⟨Lc39, hQ39, l39, y39, z39⟩, st39⟩ := Jvm.LawKit.callS X38 hx (y := (⟨"java/lang/StringUTF16", "compress", "([CII)[B"⟩ : MethodName)) hown (mvT hZ (hw _ (List.mem_of_getElem? (i := 114) rfl))) (mvT hZ (hw _ (List.mem_of_getElem? (i := 115) rfl))) (mvT hZ (hw _ (List.mem_of_getElem? (i := 116) rfl))) (mvT hZ (hw _ (List.mem_of_getElem? (i := 117) rfl))) (by decide) (backOf (W := 0) (rmCmp3 l Z a0 hw [] a n f h0 n0 hz39 PV hcap hl) hZ (hw _ (List.mem_of_getElem? (i := 117) rfl)) (hw _ (List.mem_of_getElem? (i := 116) rfl)) (by decide) (by decide)) (g := (mkF m 36 #[.val (.ref x), .val (.ref a), .val (.int (0 : Int32)), .val (.int (Int32.ofNat n)), .val .null, .unset] [(.int (Int32.ofNat n)), (.int (0 : Int32)), (.ref a)])) rfl (by rw [hml]; rfl) (argsL := [(.ref a), (.int (0 : Int32)), (.int (Int32.ofNat n))]) (rest := []) (lenOf pd_1 rfl) rfl (by show 2 * 0 + _ ≤ _; exact Nat.le_of_eq rfl) (hb hby d3_36) (fun _ _ => ⟨rfl, e38, (by decide : 0 + 1 ≤ _), (by decide : 0 + 3 ≤ _)⟩)
    dsimp only [Pt.U, Pt.locs, Pt.cells, Pt.slots] at X39 l39 y39 z39 st39 hQ39
    subst l39 y39 z39
    obtain ⟨d39, rfl, N39q, K39, zd39, Vd39⟩ := hQ39
    have N39 := Fr.app N0 N39q
    have z40 : h0.size ≤ T39.heap.size := K39.1
    refine oOn st39 ?_
    have ld39 : @LT.lt Nat _ d39 T39.heap.size := Vd39.lt
    show oGl p e below (T39.setTop (mkF m 39 #[.val (.ref x), .val (.ref a), .val (.int (0 : Int32)), .val (.int (Int32.ofNat n)), .val .null, .unset] [(.ref d39)])) _
    refine sastore X39 hx (hb hby d3_39) rfl rfl rfl (l' := #[.val (.ref x), .val (.ref a), .val (.int (0 : Int32)), .val (.int (Int32.ofNat n)), .val .null, .val (.ref d39)]) (pc' := 41) ?_
    refine saloadN X39 hx (hb hby d3_41) rfl rfl rfl (pc' := 42) ?_
    refine saload X39 hx (hb hby d3_42) rfl rfl rfl (pc' := 44) ?_
    refine siloadN X39 hx (hb hby d3_44) rfl rfl (pc' := 45) ?_
    have hz41 : n0 ≤ T39.heap.size := by omega
    obtain ⟨_, _, ⟨T41, L41, k41, n41⟩, -, X41, ⟨Lc41, hQ41, l41, y41, z41⟩, st41⟩ := Jvm.LawKit.callS X39 hx (y := (⟨"java/lang/StringUTF16", "coderFromArrayLen", "([BI)B"⟩ : MethodName)) hown (mvT hZ (hw _ (List.mem_of_getElem? (i := 121) rfl))) (mvT hZ (hw _ (List.mem_of_getElem? (i := 122) rfl))) (mvT hZ (hw _ (List.mem_of_getElem? (i := 116) rfl))) (mvT hZ (hw _ (List.mem_of_getElem? (i := 123) rfl))) (by decide) (backOf (W := 1) (rmCod l Z a0 hw [] d39 n (oLo f) T39.heap n0 hz41 Vd39) hZ (hw _ (List.mem_of_getElem? (i := 123) rfl)) (hw _ (List.mem_of_getElem? (i := 116) rfl)) (by decide) (by decide)) (g := (mkF m 45 #[.val (.ref x), .val (.ref a), .val (.int (0 : Int32)), .val (.int (Int32.ofNat n)), .val .null, .val (.ref d39)] [(.int (Int32.ofNat n)), (.ref d39), (.ref x)])) rfl (by rw [hml]; rfl) (argsL := [(.ref d39), (.int (Int32.ofNat n))]) (rest := [(.ref x)]) (lenOf pd_2 rfl) rfl (by show 2 * 0 + _ ≤ _; exact Nat.le_of_eq rfl) (hb hby d3_45) (fun _ _ => ⟨rfl, rfl, (by decide : 1 + 0 ≤ _), (by decide : 3 + 0 ≤ _)⟩)
    dsimp only [Pt.U, Pt.locs, Pt.cells, Pt.slots] at X41 l41 y41 z41 st41 hQ41
    subst l41 y41 z41
    obtain ⟨rfl, N41q, eh41⟩ := hQ41
    have N41 := Fr.app N39 N41q
    refine oOn st41 ?_
    show oGl p e below (T41.setTop (mkF m 48 #[.val (.ref x), .val (.ref a), .val (.int (0 : Int32)), .val (.int (Int32.ofNat n)), .val .null, .val (.ref d39)] [(.int (0 : Int32)), (.ref x)])) _
    have f43 := (F1.keep K39 nin0)
    have f44 := (E0.keep K39)
    have f45 := (F0.keep K39 nin0)
    obtain ⟨T42, h42, X42, e42, W42, st42⟩ := putFN X41 hx hZ hown (hw _ (List.mem_of_getElem? (i := 25) rfl)) Via.refl eh41 f43 f44 (Or.inr ⟨(hw _ (List.mem_of_getElem? (i := 21) rfl)), rfl, hnm⟩) (hw _ (List.mem_of_getElem? (i := 5) rfl)) (ty := .byte) (v' := (.int (0 : Int32))) (by decide) rfl rfl (g := (mkF m 48 #[.val (.ref x), .val (.ref a), .val (.int (0 : Int32)), .val (.int (Int32.ofNat n)), .val .null, .val (.ref d39)] [(.int (0 : Int32)), (.ref x)])) rfl rfl (hb hby d3_48)
    refine oOn st42 ?_
    have z46 : T39.heap.size ≤ h42.size := Nat.le_of_eq W42.size.symm
    have N42 := Fr.snoc X42 N41 (by omega)
    have f42 := Fld.same W42 f43
    show oGl p e below (T42.setTop (mkF m 51 #[.val (.ref x), .val (.ref a), .val (.int (0 : Int32)), .val (.int (Int32.ofNat n)), .val .null, .val (.ref d39)] [])) _
    refine saloadN X42 hx (hb hby d3_51) rfl rfl rfl (pc' := 52) ?_
    refine saload X42 hx (hb hby d3_52) rfl rfl rfl (pc' := 54) ?_
    have f48 := (f45.other W42 (Or.inr (slot_ne (Or.inr (hw _ (List.mem_of_getElem? (i := 20) rfl))) (Or.inr (hw _ (List.mem_of_getElem? (i := 21) rfl))) (by decide) (t := (.array .byte)) (t' := .byte) (by decide) (by decide))))
    have f49 := (f44.wr W42)
    obtain ⟨T47, h47, X47, e47, W47, st47⟩ := putF X42 hx hZ hown (host := "") (Or.inl (hw _ (List.mem_of_getElem? (i := 24) rfl))) Via.refl e42 f48 f49 (Or.inr ⟨(hw _ (List.mem_of_getElem? (i := 20) rfl)), rfl, hnm⟩) (hw _ (List.mem_of_getElem? (i := 5) rfl)) (ty := (.array .byte)) (by decide) rfl rfl (g := (mkF m 54 #[.val (.ref x), .val (.ref a), .val (.int (0 : Int32)), .val (.int (Int32.ofNat n)), .val .null, .val (.ref d39)] [(.ref d39), (.ref x)])) rfl rfl (hb hby d3_54)
    refine oOn st47 ?_
    have z50 : h42.size ≤ h47.size := Nat.le_of_eq W47.size.symm
    have N47 := Fr.snoc X47 N42 (by omega)
    have f47 := Fld.same W47 f48
    show oGl p e below (T47.setTop (mkF m 57 #[.val (.ref x), .val (.ref a), .val (.int (0 : Int32)), .val (.int (Int32.ofNat n)), .val .null, .val (.ref d39)] [])) _
    have kp51 : Keep h0 h47 [x] := ((((Keep.refl h0 [x]).trans K39 all0).wr W42 (Or.inl (List.mem_of_getElem? (i := 0) rfl))).wr W47 (Or.inl (List.mem_of_getElem? (i := 0) rfl)))
    have f52 := (f49.wr W47)
    have f53 := (f42.other W47 (Or.inr (slot_ne (Or.inr (hw _ (List.mem_of_getElem? (i := 21) rfl))) (Or.inr (hw _ (List.mem_of_getElem? (i := 20) rfl))) (by decide) (t := .byte) (t' := (.array .byte)) (by decide) (by decide))))
    have f54 := ((Vd39.other W42 (oNe (by omega))).other W47 (oNe (by omega)))
    have f55 := (((hJ.keep0 K39).wrF W42 f45 f44 (hw _ (List.mem_of_getElem? (i := 5) rfl))).wrF W47 f48 f49 (hw _ (List.mem_of_getElem? (i := 5) rfl)))
    refine oRet0V X47 hS (by rw [e47]; omega) hx Bd.notSynchronized Bd.returns (hb hby d3_57) (by decide) (by decide) ?_
    show Q_rmStr4 Z x a n f cz h0 n0 _ T47.heap _ _
    rw [e47]
    exact ⟨d39, rfl, N47, kp51, f52, f47, f53, f54, f55.warm X47.warmed⟩
theorem d2_0 : decode jdk_42_method_3_code 0 = .ok (.aload_n 0, 1) := by decide +kernel
theorem d2_1 : decode jdk_42_method_3_code 1 = .ok (.aload_n 1, 1) := by decide +kernel
theorem d2_2 : decode jdk_42_method_3_code 2 = .ok (.iconst 0, 1) := by decide +kernel
theorem d2_3 : decode jdk_42_method_3_code 3 = .ok (.aload_n 1, 1) := by decide +kernel
theorem d2_4 : decode jdk_42_method_3_code 4 = .ok (.arraylength, 1) := by decide +kernel
theorem d2_5 : decode jdk_42_method_3_code 5 = .ok (.aconst_null, 1) := by decide +kernel
theorem d2_6 : decode jdk_42_method_3_code 6 = .ok (.invokespecial 27, 3) := by decide +kernel
theorem pd_3 : parseMethodDescriptor "([CIILjava/lang/Void;)V" = some ⟨[(.array .char), .int, .int, (.object "java/lang/Void")], none⟩ := by decide +kernel
theorem d2_9 : decode jdk_42_method_3_code 9 = .ok (.return_, 1) := by decide +kernel
theorem ef_rmStr (m : MethodId) (x0 : Nat) (x1 : Nat)  : entryFrame m #[(.ref x0), (.ref x1)] 2 = mkF m 0 #[.val (.ref x0), .val (.ref x1)] [] := by first | (simp [entryFrame, mkF, argsToLocals, Value.category, maxLocals]; done) | rfl
def Q_rmStr (Z : State) (x a n : Nat) (f : Nat → Int32) (cz : Int32) (h0 : Heap) (n0 : Nat) (vv : Option Value) (h : Heap) (vm : Vm) (L : List Loc) : Prop := ∃ b : Nat, vv = none ∧ Fr n0 L ∧ Keep h0 h [x] ∧ Exa Z h x "java/lang/String" ∧ Fld Z h x "java/lang/String" "value" "[B" (.ref b) ∧ Fld Z h x "java/lang/String" "coder" "B" (.int 0) ∧ oAI Z h b .byte n (oLo f) ∧ oEm Z vm h
set_option maxRecDepth 65536 in
set_option maxHeartbeats 40000000 in
theorem rmStr (l : Launch) (Z : State) (a0 : Array Value) (hw : ∀ d ∈ tables_1, d.before a0 Z = true) (ws : List Jvm.Cond) (x a n : Nat) (f : Nat → Int32) (cz : Int32) (h0 : Heap) (n0 : Nat) (Z0 : n0 ≤ h0.size) (PV : oAI Z h0 a .char n f) (hcap : n ≤ 3) (hl : ∀ j : Nat, j < n → ¬ (255 : Int32) < f j) (hxa : x ≠ a) (E0 : Exa Z h0 x "java/lang/String") (F0 : Fld Z h0 x "java/lang/String" "value" "[B" .null) (F1 : Fld Z h0 x "java/lang/String" "coder" "B" (.int 0)) (gx : n0 ≤ x) (O0 : Old Z n0 h0) (SCS : Sta Z Z.heap "java/lang/String" "COMPACT_STRINGS" "Z" (.int cz)) (hcz : ¬ cz = (0 : Int32)) (hcH : Jvm.Lit.constHeld Z "java/lang/String" 7) (hcw : Jvm.Lit.compactW.before a0 Z = true) :
    MetFree l (⟨"java/lang/String", "<init>", "([C)V"⟩ : MethodName) (head1 (Jvm.Cond.code (⟨"java/lang/String", "<init>", "([C)V"⟩ : MethodName) jdk_42_method_3_code 2 (none : Option FieldType) :: ws) ({ frames := 3, cells := 2, slots := 4, locals := 52 } : Room)) (fun aA uU => aA = #[(.ref x), (.ref a)] ∧ Z.Warmed39 uU.vm ∧ uU.heap = h0 ∧ oEm Z uU.vm h0) (fun _ _ _ _ _ => True) (fun _ uU oO uU' => ∃ vV lL, oO = .returned vV ∧ Q_rmStr Z x a n f cz h0 n0 vV uU'.heap uU'.vm lL ∧ ReturnedEndW uU oO uU' lL ({ frames := 3, cells := 2, slots := 4, locals := 52 } : Room).cells ({ frames := 3, cells := 2, slots := 4, locals := 52 } : Room).slots) := by
  refine MetFree.of_bodySF (plainFor_of_name pn_String) hisR ?_
  intro p e s m args below meth c s₁ Bd hml0 hP hK
  obtain ⟨rfl, hZ, hh, hJ⟩ := hP
  have hx := Bd.exec
  have hby := Bd.bytes
  have hml : c.maxLocals = 2 := hml0
  have hown : s.vm.findClass "java/lang/String" = some m.cls := findClass_of_methodNamed Bd.named
  have hnm := (name_of_methodNamed Bd.named Bd.method).1
  have X0 : Stand p l e ({ frames := 3, cells := 2, slots := 4, locals := 52 } : Room) (s.setVm s.vm) m #[(.ref x), (.ref a)] below meth c s₁ [] 0 0 := Stand.of_body Bd
  have e0 : s₁.heap = h0 := by rw [← hh, Bd.state]; rfl
  have N0 := Fr.nil n0
  have hS : s.Since s.vm 0 := (State.WarmedH.refl s).since 0
  have hk : 0 ≤ h0.size := Nat.zero_le _
  have hZ : Z.Warmed39 (s.setVm s.vm).vm := hZ
  have hown : (s.setVm s.vm).vm.findClass "java/lang/String" = some m.cls := hown
  refine oEnterV (oCast (ef_rmStr m x a ) ?_)
  show oGl p e below (s₁.setTop (mkF m 0 #[.val (.ref x), .val (.ref a)] [])) _
  refine saloadN X0 hx (hb hby d2_0) rfl rfl rfl (pc' := 1) ?_
  refine saloadN X0 hx (hb hby d2_1) rfl rfl rfl (pc' := 2) ?_
  refine siconst X0 hx (hb hby d2_2) rfl rfl (z := 0) (pc' := 3) ?_
  refine saloadN X0 hx (hb hby d2_3) rfl rfl rfl (pc' := 4) ?_
  refine oOn (PV.len X0 hx hZ e0 (g := (mkF m 4 #[.val (.ref x), .val (.ref a)] [(.ref a), (.int (0 : Int32)), (.ref a), (.ref x)])) rfl rfl (hb hby d2_4)) ?_
  show oGl p e below (s₁.setTop (mkF m 5 #[.val (.ref x), .val (.ref a)] [(.int (Int32.ofNat n)), (.int (0 : Int32)), (.ref a), (.ref x)])) _
  refine saconst_null X0 hx (hb hby d2_5) rfl  (pc' := 6) ?_
  have hz1 : n0 ≤ h0.size := by omega
  obtain ⟨_, _, ⟨T1, L1, k1, n1⟩, -, X1, hS2, hg2, ⟨Lc1, hQ1, l1, y1, z1⟩, st1⟩ := X0.specialBackS hx (y := (⟨"java/lang/String", "<init>", "([CIILjava/lang/Void;)V"⟩ : MethodName)) rfl hown (mvT hZ (hw _ (List.mem_of_getElem? (i := 11) rfl))) (mvT hZ (hw _ (List.mem_of_getElem? (i := 12) rfl))) (mvT hZ (hw _ (List.mem_of_getElem? (i := 14) rfl))) (by decide) (backOfV (J := fun vm => oEm Z vm h0) (W := 0) (rmStr4 l Z a0 hw [] x a n f cz h0 n0 hz1 PV hcap hl hxa E0 F0 F1 gx O0 SCS hcz hcH hcw) hZ (hw _ (List.mem_of_getElem? (i := 14) rfl)) (hw _ (List.mem_of_getElem? (i := 6) rfl)) (by decide) (by decide)) (g := (mkF m 6 #[.val (.ref x), .val (.ref a)] [.null, (.int (Int32.ofNat n)), (.int (0 : Int32)), (.ref a), (.ref x)])) rfl (by rw [hml]; rfl) (Steps.refl _) (a := x) (argsL := [(.ref a), (.int (0 : Int32)), (.int (Int32.ofNat n)), .null]) (rest := []) (lenOf pd_3 rfl) rfl (by show 2 * 0 + _ ≤ _; exact Nat.le_of_eq rfl) (hb hby d2_6) (fun _ hWw => ⟨rfl, e0, (by decide : 0 + 2 ≤ _), (by decide : 0 + 4 ≤ _), hJ.warm hWw⟩)
  dsimp only [Pt.U, Pt.locs, Pt.cells, Pt.slots] at X1 l1 y1 z1 st1 hQ1 hS2 hg2
  subst l1 y1 z1
  obtain ⟨X1, hS, hZ, hown⟩ := rebS hS (n1 := s₁.heap.size) (by rw [e0]; omega) X1 hS2 hg2 hZ hown
  have hk : T1.heap.size ≤ T1.heap.size := Nat.le_refl _
  obtain ⟨b1, rfl, N1q, K1, Ex1, Fv1, Fc1, Vb1, Jj1⟩ := hQ1
  have N1 := Fr.app N0 N1q
  have z2 : h0.size ≤ T1.heap.size := K1.1
  refine oSt st1 ?_
  show oGl p e below (T1.setTop (mkF m 9 #[.val (.ref x), .val (.ref a)] [])) _
  have kp3 : Keep h0 T1.heap [x] := ((Keep.refl h0 [x]).trans K1 (allS (Or.inl (List.mem_of_getElem? (i := 0) rfl)) all0))
  refine oRet0V X1 hS (by omega) hx Bd.notSynchronized Bd.returns (hb hby d2_9) (by decide) (by decide) ?_
  show Q_rmStr Z x a n f cz h0 n0 _ T1.heap _ _
  exact ⟨b1, rfl, N1, kp3, Ex1, Fv1, Fc1, Vb1, Jj1.warm X1.warmed⟩
def mkC (a b c : Int32) : Nat → Int32 := fun j => if j = 0 then a else if j = 1 then b else c
theorem d18_0 : decode jdk_43_method_3_code 0 = .ok (.iload_n 0, 1) := by decide +kernel
theorem d18_1 : decode jdk_43_method_3_code 1 = .ok (.sipush 255, 3) := by decide +kernel
theorem d18_4 : decode jdk_43_method_3_code 4 = .ok (.if_icmp .gt 7, 3) := by decide +kernel
theorem d18_7 : decode jdk_43_method_3_code 7 = .ok (.iconst 1, 1) := by decide +kernel
theorem d18_8 : decode jdk_43_method_3_code 8 = .ok (.goto 4, 3) := by decide +kernel
theorem d18_12 : decode jdk_43_method_3_code 12 = .ok (.ireturn, 1) := by decide +kernel
theorem pn_StringLatin1 : plainName "java/lang/StringLatin1" = true := by first | (simp [plainName, overriddenIn]; done) | decide +kernel
theorem ef_rmEnc (m : MethodId) (x0 : Int32)  : entryFrame m #[(.int x0)] 1 = mkF m 0 #[.val (.int x0)] [] := by first | (simp [entryFrame, mkF, argsToLocals, Value.category, maxLocals]; done) | rfl
def Q_rmEnc (Z : State) (z : Int32) (h0 : Heap) (n0 : Nat) (vv : Option Value) (h : Heap) (L : List Loc) : Prop := vv = some (.int 1) ∧ Fr n0 L ∧ h = h0
set_option maxRecDepth 65536 in
set_option maxHeartbeats 40000000 in
theorem rmEnc (l : Launch) (Z : State) (a0 : Array Value) (hw : ∀ d ∈ tables_1, d.before a0 Z = true) (ws : List Jvm.Cond) (z : Int32) (h0 : Heap) (n0 : Nat) (Z0 : n0 ≤ h0.size) (hz : ¬ ((255 : Int32) < z)) :
    MetFree l (⟨"java/lang/StringLatin1", "canEncode", "(C)Z"⟩ : MethodName) (head1 (Jvm.Cond.code (⟨"java/lang/StringLatin1", "canEncode", "(C)Z"⟩ : MethodName) jdk_43_method_3_code 1 (some .boolean) :: ws) ({ frames := 0, cells := 0, slots := 0, locals := 0 } : Room)) (fun aA uU => aA = #[(.int z)] ∧ Z.Warmed39 uU.vm ∧ uU.heap = h0) (fun _ _ _ _ _ => True) (fun _ uU oO uU' => ∃ vV lL, oO = .returned vV ∧ Q_rmEnc Z z h0 n0 vV uU'.heap lL ∧ FrameEnd uU oO uU' lL ({ frames := 0, cells := 0, slots := 0, locals := 0 } : Room).cells ({ frames := 0, cells := 0, slots := 0, locals := 0 } : Room).slots) := by
  refine MetFree.of_bodySF (plainFor_of_name pn_StringLatin1) hisR ?_
  intro p e s m args below meth c s₁ Bd hml0 hP hK
  obtain ⟨rfl, hZ, hh⟩ := hP
  have hx := Bd.exec
  have hby := Bd.bytes
  have hml : c.maxLocals = 1 := hml0
  have hown : s.vm.findClass "java/lang/StringLatin1" = some m.cls := findClass_of_methodNamed Bd.named
  have hnm := (name_of_methodNamed Bd.named Bd.method).1
  have X0 : Stand p l e ({ frames := 0, cells := 0, slots := 0, locals := 0 } : Room) s m #[(.int z)] below meth c s₁ [] 0 0 := Stand.of_body Bd
  have e0 : s₁.heap = h0 := by rw [← hh, Bd.state]; rfl
  have N0 := Fr.nil n0
  refine oEnter (oCast (ef_rmEnc m z ) ?_)
  show oGl p e below (s₁.setTop (mkF m 0 #[.val (.int z)] [])) _
  refine siloadN X0 hx (hb hby d18_0) rfl rfl (pc' := 1) ?_
  refine ssipush X0 hx (hb hby d18_1) rfl rfl (z := 255) (pc' := 4) ?_
  refine sicN X0 hx (hb hby d18_4) rfl (flt (hz : ¬ ((255 : Int32) < z))).2.2.1 (pc' := 7) ?_
  refine siconst X0 hx (hb hby d18_7) rfl rfl (z := 1) (pc' := 8) ?_
  refine sgoto X0 hx (hb hby d18_8) (by decide) (by decide)  (pc' := 12) ?_
  refine oRetN (t := .boolean) X0 hx Bd.notSynchronized Bd.returns (by simp) (hb hby d18_12) (by decide) (by decide) ?_
  show Q_rmEnc Z z h0 n0 _ s₁.heap _
  rw [e0]
  exact ⟨rfl, N0, rfl⟩
theorem d19_0 : decode jdk_43_method_46_code 0 = .ok (.iconst 1, 1) := by decide +kernel
theorem d19_1 : decode jdk_43_method_46_code 1 = .ok (.newarray .byte, 2) := by decide +kernel
theorem d19_3 : decode jdk_43_method_46_code 3 = .ok (.dup, 1) := by decide +kernel
theorem d19_4 : decode jdk_43_method_46_code 4 = .ok (.iconst 0, 1) := by decide +kernel
theorem d19_5 : decode jdk_43_method_46_code 5 = .ok (.iload_n 0, 1) := by decide +kernel
theorem d19_6 : decode jdk_43_method_46_code 6 = .ok (.i2b, 1) := by decide +kernel
theorem d19_7 : decode jdk_43_method_46_code 7 = .ok (.bastore, 1) := by decide +kernel
theorem d19_8 : decode jdk_43_method_46_code 8 = .ok (.areturn, 1) := by decide +kernel
theorem ef_rmTob (m : MethodId) (x0 : Int32)  : entryFrame m #[(.int x0)] 1 = mkF m 0 #[.val (.int x0)] [] := by first | (simp [entryFrame, mkF, argsToLocals, Value.category, maxLocals]; done) | rfl
def Q_rmTob (Z : State) (z : Int32) (h0 : Heap) (n0 : Nat) (vv : Option Value) (h : Heap) (L : List Loc) : Prop := ∃ d : Nat, vv = some (.ref d) ∧ Fr n0 L ∧ Keep h0 h [] ∧ oAI Z h d .byte 1 (oLo (fun _ => z))
set_option maxRecDepth 65536 in
set_option maxHeartbeats 40000000 in
theorem rmTob (l : Launch) (Z : State) (a0 : Array Value) (hw : ∀ d ∈ tables_1, d.before a0 Z = true) (ws : List Jvm.Cond) (z : Int32) (h0 : Heap) (n0 : Nat) (Z0 : n0 ≤ h0.size)  :
    MetFree l (⟨"java/lang/StringLatin1", "toBytes", "(C)[B"⟩ : MethodName) (head1 (Jvm.Cond.code (⟨"java/lang/StringLatin1", "toBytes", "(C)[B"⟩ : MethodName) jdk_43_method_46_code 1 (some (.array .byte)) :: ws) ({ frames := 0, cells := 1, slots := 1, locals := 0 } : Room)) (fun aA uU => aA = #[(.int z)] ∧ Z.Warmed39 uU.vm ∧ uU.heap = h0) (fun _ _ _ _ _ => True) (fun _ uU oO uU' => ∃ vV lL, oO = .returned vV ∧ Q_rmTob Z z h0 n0 vV uU'.heap lL ∧ FrameEnd uU oO uU' lL ({ frames := 0, cells := 1, slots := 1, locals := 0 } : Room).cells ({ frames := 0, cells := 1, slots := 1, locals := 0 } : Room).slots) := by
  refine MetFree.of_bodySF (plainFor_of_name pn_StringLatin1) hisR ?_
  intro p e s m args below meth c s₁ Bd hml0 hP hK
  obtain ⟨rfl, hZ, hh⟩ := hP
  have hx := Bd.exec
  have hby := Bd.bytes
  have hml : c.maxLocals = 1 := hml0
  have hown : s.vm.findClass "java/lang/StringLatin1" = some m.cls := findClass_of_methodNamed Bd.named
  have hnm := (name_of_methodNamed Bd.named Bd.method).1
  have X0 : Stand p l e ({ frames := 0, cells := 1, slots := 1, locals := 0 } : Room) s m #[(.int z)] below meth c s₁ [] 0 0 := Stand.of_body Bd
  have e0 : s₁.heap = h0 := by rw [← hh, Bd.state]; rfl
  have N0 := Fr.nil n0
  refine oEnter (oCast (ef_rmTob m z ) ?_)
  show oGl p e below (s₁.setTop (mkF m 0 #[.val (.int z)] [])) _
  refine siconst X0 hx (hb hby d19_0) rfl rfl (z := 1) (pc' := 1) ?_
  obtain ⟨T1, h1, k1, X1, e1, E1, A1, st1⟩ := newP X0 hx hZ (hw _ (List.mem_of_getElem? (i := 19) rfl)) e0 (g := (mkF m 1 #[.val (.int z)] [(.int (1 : Int32))])) rfl (hb hby d19_1) rfl (by decide) (cap := 1) (by decide) (by decide) (by decide) (by decide)
  obtain ⟨a1, g1⟩ : ∃ z, z = h0.size := ⟨_, rfl⟩
  rw [← g1] at A1 st1
  refine oOn st1 ?_
  have z2 : h0.size ≤ h1.size := E1.1
  have lt1 : a1 < h1.size := A1.lt
  have V1 : oAI Z h1 a1 .byte 1 (fun _ => 0) := oAI.new A1 rfl
  show oGl p e below (T1.setTop (mkF m 3 #[.val (.int z)] [(.ref a1)])) _
  refine sdup X1 hx (hb hby d19_3) rfl rfl (pc' := 4) ?_
  refine siconst X1 hx (hb hby d19_4) rfl rfl (z := 0) (pc' := 5) ?_
  refine siloadN X1 hx (hb hby d19_5) rfl rfl (pc' := 6) ?_
  refine si2b X1 hx (hb hby d19_6) rfl rfl (pc' := 7) ?_
  obtain ⟨T3, h3, X3, e3, W3, V3, st3⟩ := V1.stB X1 hx hZ e1 (j := (0 : Int32)) (by decide) (g := (mkF m 7 #[.val (.int z)] [(.int ((z).toInt8.toInt32)), (.int (0 : Int32)), (.ref a1), (.ref a1)])) rfl rfl (hb hby d19_7)
  refine oOn st3 ?_
  have z4 : h1.size ≤ h3.size := Nat.le_of_eq W3.size.symm
  have N3 := Fr.snoc X3 N0 (by omega)
  show oGl p e below (T3.setTop (mkF m 8 #[.val (.int z)] [(.ref a1)])) _
  have kp5 : Keep h0 h3 [] := (((Keep.refl h0 []).ext E1).wr W3 (Or.inr (by omega)))
  refine oRetR X3 hx Bd.notSynchronized Bd.returns rfl rfl (hb hby d19_8) (by decide) (by decide) ?_
  show Q_rmTob Z z h0 n0 _ T3.heap _
  rw [e3]
  exact ⟨a1, rfl, N3, kp5, V3.congr (fun j hj => by
    have q : j = 0 := by omega
    subst q; rfl)⟩
theorem d20_0 : decode jdk_42_method_151_code 0 = .ok (.aload_n 0, 1) := by decide +kernel
theorem d20_1 : decode jdk_42_method_151_code 1 = .ok (.invokespecial 1, 3) := by decide +kernel
theorem d20_4 : decode jdk_42_method_151_code 4 = .ok (.aload_n 0, 1) := by decide +kernel
theorem d20_5 : decode jdk_42_method_151_code 5 = .ok (.aload_n 1, 1) := by decide +kernel
theorem d20_6 : decode jdk_42_method_151_code 6 = .ok (.putfield 9, 3) := by decide +kernel
theorem d20_9 : decode jdk_42_method_151_code 9 = .ok (.aload_n 0, 1) := by decide +kernel
theorem d20_10 : decode jdk_42_method_151_code 10 = .ok (.iload_n 2, 1) := by decide +kernel
theorem d20_11 : decode jdk_42_method_151_code 11 = .ok (.putfield 15, 3) := by decide +kernel
theorem d20_14 : decode jdk_42_method_151_code 14 = .ok (.return_, 1) := by decide +kernel
theorem ef_rmInB (m : MethodId) (x0 : Nat) (x1 : Nat) (x2 : Int32)  : entryFrame m #[(.ref x0), (.ref x1), (.int x2)] 3 = mkF m 0 #[.val (.ref x0), .val (.ref x1), .val (.int x2)] [] := by first | (simp [entryFrame, mkF, argsToLocals, Value.category, maxLocals]; done) | rfl
def Q_rmInB (Z : State) (x d : Nat) (h0 : Heap) (n0 : Nat) (vv : Option Value) (h : Heap) (L : List Loc) : Prop := vv = none ∧ Fr n0 L ∧ Keep h0 h [x] ∧ Exa Z h x "java/lang/String" ∧ Fld Z h x "java/lang/String" "value" "[B" (.ref d) ∧ Fld Z h x "java/lang/String" "coder" "B" (.int 0)
set_option maxRecDepth 65536 in
set_option maxHeartbeats 40000000 in
theorem rmInB (l : Launch) (Z : State) (a0 : Array Value) (hw : ∀ d ∈ tables_1, d.before a0 Z = true) (ws : List Jvm.Cond) (x d : Nat) (h0 : Heap) (n0 : Nat) (Z0 : n0 ≤ h0.size) (E0 : Exa Z h0 x "java/lang/String") (F0 : Fld Z h0 x "java/lang/String" "value" "[B" .null) (F1 : Fld Z h0 x "java/lang/String" "coder" "B" (.int 0)) (gx : n0 ≤ x) :
    MetFree l (⟨"java/lang/String", "<init>", "([BB)V"⟩ : MethodName) (head1 (Jvm.Cond.code (⟨"java/lang/String", "<init>", "([BB)V"⟩ : MethodName) jdk_42_method_151_code 3 (none : Option FieldType) :: ws) ({ frames := 1, cells := 0, slots := 0, locals := 12 } : Room)) (fun aA uU => aA = #[(.ref x), (.ref d), (.int (0 : Int32))] ∧ Z.Warmed39 uU.vm ∧ uU.heap = h0) (fun _ _ _ _ _ => True) (fun _ uU oO uU' => ∃ vV lL, oO = .returned vV ∧ Q_rmInB Z x d h0 n0 vV uU'.heap lL ∧ FrameEnd uU oO uU' lL ({ frames := 1, cells := 0, slots := 0, locals := 12 } : Room).cells ({ frames := 1, cells := 0, slots := 0, locals := 12 } : Room).slots) := by
  refine MetFree.of_bodySF (plainFor_of_name pn_String) hisR ?_
  intro p e s m args below meth c s₁ Bd hml0 hP hK
  obtain ⟨rfl, hZ, hh⟩ := hP
  have hx := Bd.exec
  have hby := Bd.bytes
  have hml : c.maxLocals = 3 := hml0
  have hown : s.vm.findClass "java/lang/String" = some m.cls := findClass_of_methodNamed Bd.named
  have hnm := (name_of_methodNamed Bd.named Bd.method).1
  have X0 : Stand p l e ({ frames := 1, cells := 0, slots := 0, locals := 12 } : Room) s m #[(.ref x), (.ref d), (.int (0 : Int32))] below meth c s₁ [] 0 0 := Stand.of_body Bd
  have e0 : s₁.heap = h0 := by rw [← hh, Bd.state]; rfl
  have N0 := Fr.nil n0
  have lX : @LT.lt Nat _ x h0.size := E0.lt
  refine oEnter (oCast (ef_rmInB m x d (0 : Int32) ) ?_)
  show oGl p e below (s₁.setTop (mkF m 0 #[.val (.ref x), .val (.ref d), .val (.int (0 : Int32))] [])) _
  refine saloadN X0 hx (hb hby d20_0) rfl rfl rfl (pc' := 1) ?_
  obtain ⟨T1, X1, e1, st1⟩ := initO X0 hx hZ hown (hw _ (List.mem_of_getElem? (i := 15) rfl)) (hw _ (List.mem_of_getElem? (i := 16) rfl)) (hw _ (List.mem_of_getElem? (i := 17) rfl)) e0 (g := (mkF m 1 #[.val (.ref x), .val (.ref d), .val (.int (0 : Int32))] [(.ref x)])) rfl (by rw [hml]; rfl) rfl (hb hby d20_1) (by decide) (W := 0) (by show 2 * 0 + _ ≤ _; exact Nat.le_of_eq rfl) (by decide)
  refine oOn st1 ?_
  show oGl p e below (T1.setTop (mkF m 4 #[.val (.ref x), .val (.ref d), .val (.int (0 : Int32))] [])) _
  refine saloadN X1 hx (hb hby d20_4) rfl rfl rfl (pc' := 5) ?_
  refine saloadN X1 hx (hb hby d20_5) rfl rfl rfl (pc' := 6) ?_
  obtain ⟨T2, h2, X2, e2, W2, st2⟩ := putF X1 hx hZ hown (host := "") (Or.inl (hw _ (List.mem_of_getElem? (i := 24) rfl))) Via.refl e1 F0 E0 (Or.inr ⟨(hw _ (List.mem_of_getElem? (i := 20) rfl)), rfl, hnm⟩) (hw _ (List.mem_of_getElem? (i := 5) rfl)) (ty := (.array .byte)) (by decide) rfl rfl (g := (mkF m 6 #[.val (.ref x), .val (.ref d), .val (.int (0 : Int32))] [(.ref d), (.ref x)])) rfl rfl (hb hby d20_6)
  refine oOn st2 ?_
  have z3 : h0.size ≤ h2.size := Nat.le_of_eq W2.size.symm
  have N2 := Fr.snoc X2 N0 (by omega)
  have f2 := Fld.same W2 F0
  show oGl p e below (T2.setTop (mkF m 9 #[.val (.ref x), .val (.ref d), .val (.int (0 : Int32))] [])) _
  refine saloadN X2 hx (hb hby d20_9) rfl rfl rfl (pc' := 10) ?_
  refine siloadN X2 hx (hb hby d20_10) rfl rfl (pc' := 11) ?_
  have f5 := (F1.other W2 (Or.inr (slot_ne (Or.inr (hw _ (List.mem_of_getElem? (i := 21) rfl))) (Or.inr (hw _ (List.mem_of_getElem? (i := 20) rfl))) (by decide) (t := .byte) (t' := (.array .byte)) (by decide) (by decide))))
  have f6 := (E0.wr W2)
  obtain ⟨T4, h4, X4, e4, W4, st4⟩ := putFN X2 hx hZ hown (hw _ (List.mem_of_getElem? (i := 25) rfl)) Via.refl e2 f5 f6 (Or.inr ⟨(hw _ (List.mem_of_getElem? (i := 21) rfl)), rfl, hnm⟩) (hw _ (List.mem_of_getElem? (i := 5) rfl)) (ty := .byte) (v' := (.int (0 : Int32))) (by decide) rfl rfl (g := (mkF m 11 #[.val (.ref x), .val (.ref d), .val (.int (0 : Int32))] [(.int (0 : Int32)), (.ref x)])) rfl rfl (hb hby d20_11)
  refine oOn st4 ?_
  have z7 : h2.size ≤ h4.size := Nat.le_of_eq W4.size.symm
  have N4 := Fr.snoc X4 N2 (by omega)
  have f4 := Fld.same W4 f5
  show oGl p e below (T4.setTop (mkF m 14 #[.val (.ref x), .val (.ref d), .val (.int (0 : Int32))] [])) _
  have kp8 : Keep h0 h4 [x] := (((Keep.refl h0 [x]).wr W2 (Or.inl (List.mem_of_getElem? (i := 0) rfl))).wr W4 (Or.inl (List.mem_of_getElem? (i := 0) rfl)))
  have f9 := (f6.wr W4)
  have f10 := (f2.other W4 (Or.inr (slot_ne (Or.inr (hw _ (List.mem_of_getElem? (i := 20) rfl))) (Or.inr (hw _ (List.mem_of_getElem? (i := 21) rfl))) (by decide) (t := (.array .byte)) (t' := .byte) (by decide) (by decide))))
  refine oRet0 X4 hx Bd.notSynchronized Bd.returns (hb hby d20_14) (by decide) (by decide) ?_
  show Q_rmInB Z x d h0 n0 _ T4.heap _
  rw [e4]
  exact ⟨rfl, N4, kp8, f9, f10, f4⟩
theorem d17_0 : decode jdk_42_method_139_code 0 = .ok (.getstatic 38, 3) := by decide +kernel
theorem d17_3 : decode jdk_42_method_139_code 3 = .ok (.ifCond .eq 23, 3) := by decide +kernel
theorem d17_6 : decode jdk_42_method_139_code 6 = .ok (.iload_n 0, 1) := by decide +kernel
theorem d17_7 : decode jdk_42_method_139_code 7 = .ok (.invokestatic 1015, 3) := by decide +kernel
theorem pd_4 : parseMethodDescriptor "(C)Z" = some ⟨[.char], some .boolean⟩ := by decide +kernel
theorem d17_10 : decode jdk_42_method_139_code 10 = .ok (.ifCond .eq 16, 3) := by decide +kernel
theorem d17_13 : decode jdk_42_method_139_code 13 = .ok (.new 10, 3) := by decide +kernel
theorem d17_16 : decode jdk_42_method_139_code 16 = .ok (.dup, 1) := by decide +kernel
theorem d17_17 : decode jdk_42_method_139_code 17 = .ok (.iload_n 0, 1) := by decide +kernel
theorem d17_18 : decode jdk_42_method_139_code 18 = .ok (.invokestatic 1018, 3) := by decide +kernel
theorem pd_5 : parseMethodDescriptor "(C)[B" = some ⟨[.char], some (.array .byte)⟩ := by decide +kernel
theorem d17_21 : decode jdk_42_method_139_code 21 = .ok (.iconst 0, 1) := by decide +kernel
theorem d17_22 : decode jdk_42_method_139_code 22 = .ok (.invokespecial 209, 3) := by decide +kernel
theorem pd_6 : parseMethodDescriptor "([BB)V" = some ⟨[(.array .byte), .byte], none⟩ := by decide +kernel
theorem d17_25 : decode jdk_42_method_139_code 25 = .ok (.areturn, 1) := by decide +kernel
theorem ef_rmVal (m : MethodId) (x0 : Int32)  : entryFrame m #[(.int x0)] 1 = mkF m 0 #[.val (.int x0)] [] := by first | (simp [entryFrame, mkF, argsToLocals, Value.category, maxLocals]; done) | rfl
def Q_rmVal (Z : State) (z cz : Int32) (h0 : Heap) (n0 : Nat) (vv : Option Value) (h : Heap) (L : List Loc) : Prop := ∃ x b : Nat, vv = some (.ref x) ∧ Fr n0 L ∧ Keep h0 h [] ∧ Exa Z h x "java/lang/String" ∧ Fld Z h x "java/lang/String" "value" "[B" (.ref b) ∧ Fld Z h x "java/lang/String" "coder" "B" (.int 0) ∧ oAI Z h b .byte 1 (oLo (fun _ => z))
set_option maxRecDepth 65536 in
set_option maxHeartbeats 40000000 in
theorem rmVal (l : Launch) (Z : State) (a0 : Array Value) (hw : ∀ d ∈ tables_1, d.before a0 Z = true) (ws : List Jvm.Cond) (z cz : Int32) (h0 : Heap) (n0 : Nat) (Z0 : n0 ≤ h0.size) (O0 : Old Z n0 h0) (SCS : Sta Z Z.heap "java/lang/String" "COMPACT_STRINGS" "Z" (.int cz)) (hcz : ¬ cz = (0 : Int32)) (hz : ¬ ((255 : Int32) < z)) :
    MetFree l (⟨"java/lang/String", "valueOf", "(C)Ljava/lang/String;"⟩ : MethodName) (head1 (Jvm.Cond.code (⟨"java/lang/String", "valueOf", "(C)Ljava/lang/String;"⟩ : MethodName) jdk_42_method_139_code 1 (some (.object "java/lang/String")) :: ws) ({ frames := 2, cells := 2, slots := 5, locals := 27 } : Room)) (fun aA uU => aA = #[(.int z)] ∧ Z.Warmed39 uU.vm ∧ uU.heap = h0) (fun _ _ _ _ _ => True) (fun _ uU oO uU' => ∃ vV lL, oO = .returned vV ∧ Q_rmVal Z z cz h0 n0 vV uU'.heap lL ∧ FrameEnd uU oO uU' lL ({ frames := 2, cells := 2, slots := 5, locals := 27 } : Room).cells ({ frames := 2, cells := 2, slots := 5, locals := 27 } : Room).slots) := by
  refine MetFree.of_bodySF (plainFor_of_name pn_String) hisR ?_
  intro p e s m args below meth c s₁ Bd hml0 hP hK
  obtain ⟨rfl, hZ, hh⟩ := hP
  have hx := Bd.exec
  have hby := Bd.bytes
  have hml : c.maxLocals = 1 := hml0
  have hown : s.vm.findClass "java/lang/String" = some m.cls := findClass_of_methodNamed Bd.named
  have hnm := (name_of_methodNamed Bd.named Bd.method).1
  have X0 : Stand p l e ({ frames := 2, cells := 2, slots := 5, locals := 27 } : Room) s m #[(.int z)] below meth c s₁ [] 0 0 := Stand.of_body Bd
  have e0 : s₁.heap = h0 := by rw [← hh, Bd.state]; rfl
  have N0 := Fr.nil n0
  refine oEnter (oCast (ef_rmVal m z ) ?_)
  show oGl p e below (s₁.setTop (mkF m 0 #[.val (.int z)] [])) _
  obtain ⟨T1, X1, e1, st1⟩ := getS2 X0 hx hZ hown (host := "") (Or.inl (hw _ (List.mem_of_getElem? (i := 97) rfl))) Via.refl e0 (SCS.ext O0.2) (g := (mkF m 0 #[.val (.int z)] [])) rfl (hb hby d17_0)
  refine oOn st1 ?_
  show oGl p e below (T1.setTop (mkF m 3 #[.val (.int z)] [(.int cz)])) _
  refine sifN X1 hx (hb hby d17_3) rfl (feq (hcz : ¬ (cz = (0 : Int32)))).1 (pc' := 6) ?_
  refine siloadN X1 hx (hb hby d17_6) rfl rfl (pc' := 7) ?_
  have hz2 : n0 ≤ h0.size := by omega
  obtain ⟨_, _, ⟨T2, L2, k2, n2⟩, -, X2, ⟨Lc2, hQ2, l2, y2, z2⟩, st2⟩ := Jvm.LawKit.callS X1 hx (y := (⟨"java/lang/StringLatin1", "canEncode", "(C)Z"⟩ : MethodName)) hown (mvT hZ (hw _ (List.mem_of_getElem? (i := 105) rfl))) (mvT hZ (hw _ (List.mem_of_getElem? (i := 106) rfl))) (mvT hZ (hw _ (List.mem_of_getElem? (i := 100) rfl))) (mvT hZ (hw _ (List.mem_of_getElem? (i := 107) rfl))) (by decide) (backOf (W := 0) (rmEnc l Z a0 hw [] z h0 n0 hz2 hz) hZ (hw _ (List.mem_of_getElem? (i := 107) rfl)) (hw _ (List.mem_of_getElem? (i := 100) rfl)) (by decide) (by decide)) (g := (mkF m 7 #[.val (.int z)] [(.int z)])) rfl (by rw [hml]; rfl) (argsL := [(.int z)]) (rest := []) (lenOf pd_4 rfl) rfl (by show 2 * 0 + _ ≤ _; exact Nat.le_of_eq rfl) (hb hby d17_7) (fun _ _ => ⟨rfl, e1, (by decide : 0 + 0 ≤ _), (by decide : 0 + 0 ≤ _)⟩)
  dsimp only [Pt.U, Pt.locs, Pt.cells, Pt.slots] at X2 l2 y2 z2 st2 hQ2
  subst l2 y2 z2
  obtain ⟨rfl, N2q, eh2⟩ := hQ2
  have N2 := Fr.app N0 N2q
  refine oOn st2 ?_
  show oGl p e below (T2.setTop (mkF m 10 #[.val (.int z)] [(.int (1 : Int32))])) _
  refine sifN X2 hx (hb hby d17_10) rfl (feq ((by decide) : ¬ ((1 : Int32) = (0 : Int32)))).1 (pc' := 13) ?_
  obtain ⟨T3, h3, X3, e3, E3, A3, D3, -, st3⟩ := newO X2 hx hZ hown (hw _ (List.mem_of_getElem? (i := 96) rfl)) (hw _ (List.mem_of_getElem? (i := 5) rfl)) (hw _ (List.mem_of_getElem? (i := 6) rfl)) eh2 (g := (mkF m 13 #[.val (.int z)] [])) rfl (hb hby d17_13) (by decide) (by decide)
  obtain ⟨a3, g3⟩ : ∃ z, z = h0.size := ⟨_, rfl⟩
  rw [← g3] at A3 D3 st3
  refine oOn st3 ?_
  have z4 : h0.size ≤ h3.size := E3.1
  have lt3 : a3 < h3.size := A3.lt
  have f3_20 : Fld Z h3 a3 "java/lang/String" "value" "[B" .null := D3 (Or.inr (hw _ (List.mem_of_getElem? (i := 20) rfl))) (ty := (.array .byte)) (by decide)
  have f3_21 : Fld Z h3 a3 "java/lang/String" "coder" "B" (.int (0 : Int32)) := D3 (Or.inr (hw _ (List.mem_of_getElem? (i := 21) rfl))) (ty := .byte) (by decide)
  show oGl p e below (T3.setTop (mkF m 16 #[.val (.int z)] [(.ref a3)])) _
  refine sdup X3 hx (hb hby d17_16) rfl rfl (pc' := 17) ?_
  refine siloadN X3 hx (hb hby d17_17) rfl rfl (pc' := 18) ?_
  have hz5 : n0 ≤ h3.size := by omega
  obtain ⟨_, _, ⟨T5, L5, k5, n5⟩, -, X5, ⟨Lc5, hQ5, l5, y5, z5⟩, st5⟩ := Jvm.LawKit.callS X3 hx (y := (⟨"java/lang/StringLatin1", "toBytes", "(C)[B"⟩ : MethodName)) hown (mvT hZ (hw _ (List.mem_of_getElem? (i := 108) rfl))) (mvT hZ (hw _ (List.mem_of_getElem? (i := 109) rfl))) (mvT hZ (hw _ (List.mem_of_getElem? (i := 100) rfl))) (mvT hZ (hw _ (List.mem_of_getElem? (i := 110) rfl))) (by decide) (backOf (W := 2) (rmTob l Z a0 hw [] z h3 n0 hz5 ) hZ (hw _ (List.mem_of_getElem? (i := 110) rfl)) (hw _ (List.mem_of_getElem? (i := 100) rfl)) (by decide) (by decide)) (g := (mkF m 18 #[.val (.int z)] [(.int z), (.ref a3), (.ref a3)])) rfl (by rw [hml]; rfl) (argsL := [(.int z)]) (rest := [(.ref a3), (.ref a3)]) (lenOf pd_5 rfl) rfl (by show 2 * 0 + _ ≤ _; exact Nat.le_of_eq rfl) (hb hby d17_18) (fun _ _ => ⟨rfl, e3, (by decide : 1 + 1 ≤ _), (by decide : 4 + 1 ≤ _)⟩)
  dsimp only [Pt.U, Pt.locs, Pt.cells, Pt.slots] at X5 l5 y5 z5 st5 hQ5
  subst l5 y5 z5
  obtain ⟨d5, rfl, N5q, K5, Vd5⟩ := hQ5
  have N5 := Fr.app N2 N5q
  have z6 : h3.size ≤ T5.heap.size := K5.1
  refine oOn st5 ?_
  have ld5 : @LT.lt Nat _ d5 T5.heap.size := Vd5.lt
  show oGl p e below (T5.setTop (mkF m 21 #[.val (.int z)] [(.ref d5), (.ref a3), (.ref a3)])) _
  refine siconst X5 hx (hb hby d17_21) rfl rfl (z := 0) (pc' := 22) ?_
  have f7 := (A3.keep K5)
  have nxd : @Ne Nat a3 d5 := oNeO f7 (hw _ (List.mem_of_getElem? (i := 5) rfl)) Vd5
  have f8 := (f3_20.keep K5 nin0)
  have f9 := (f3_21.keep K5 nin0)
  have hz10 : n0 ≤ T5.heap.size := by omega
  obtain ⟨_, _, ⟨T10, L10, k10, n10⟩, -, X10, ⟨Lc10, hQ10, l10, y10, z10⟩, st10⟩ := X5.specialBack hx (y := (⟨"java/lang/String", "<init>", "([BB)V"⟩ : MethodName)) rfl hown (mvT hZ (hw _ (List.mem_of_getElem? (i := 111) rfl))) (mvT hZ (hw _ (List.mem_of_getElem? (i := 112) rfl))) (mvT hZ (hw _ (List.mem_of_getElem? (i := 113) rfl))) (by decide) (backOf (W := 1) (rmInB l Z a0 hw [] a3 d5 T5.heap n0 hz10 f7 f8 f9 (by omega)) hZ (hw _ (List.mem_of_getElem? (i := 113) rfl)) (hw _ (List.mem_of_getElem? (i := 6) rfl)) (by decide) (by decide)) (g := (mkF m 22 #[.val (.int z)] [(.int (0 : Int32)), (.ref d5), (.ref a3), (.ref a3)])) rfl (by rw [hml]; rfl) (Steps.refl _) (a := a3) (argsL := [(.ref d5), (.int (0 : Int32))]) (rest := [(.ref a3)]) (lenOf pd_6 rfl) rfl (by show 2 * 0 + _ ≤ _; exact Nat.le_of_eq rfl) (hb hby d17_22) (fun _ _ => ⟨rfl, rfl, (by decide : 2 + 0 ≤ _), (by decide : 5 + 0 ≤ _)⟩)
  dsimp only [Pt.U, Pt.locs, Pt.cells, Pt.slots] at X10 l10 y10 z10 st10 hQ10
  subst l10 y10 z10
  obtain ⟨rfl, N10q, K10, Ex10, Fv10, Fc10⟩ := hQ10
  have N10 := Fr.app N5 N10q
  have z11 : T5.heap.size ≤ T10.heap.size := K10.1
  refine oSt st10 ?_
  show oGl p e below (T10.setTop (mkF m 25 #[.val (.int z)] [(.ref a3)])) _
  have kp12 : Keep h0 T10.heap [] := ((((Keep.refl h0 []).ext E3).trans K5 all0).trans K10 (allS (Or.inr (by omega)) all0))
  have f13 := (Vd5.keep K10 (ninS (oNe (by omega)) nin0))
  refine oRetR X10 hx Bd.notSynchronized Bd.returns rfl rfl (hb hby d17_25) (by decide) (by decide) ?_
  show Q_rmVal Z z cz h0 n0 _ T10.heap _
  exact ⟨a3, d5, rfl, N10, kp12, Ex10, Fv10, Fc10, f13⟩
theorem own_k3 {k : Int32} (h : 0 ≤ k.toInt ∧ k.toInt ≤ 3) (h0 : ¬ k = (0 : Int32)) (h1 : ¬ k = (1 : Int32)) (h2 : ¬ k = (2 : Int32)) : k = (3 : Int32) := by
  have e0 : ¬ k.toInt = 0 := fun q => h0 (Int32.toInt_inj.mp q)
  have e1 : ¬ k.toInt = 1 := fun q => h1 (Int32.toInt_inj.mp q)
  have e2 : ¬ k.toInt = 2 := fun q => h2 (Int32.toInt_inj.mp q)
  exact Int32.toInt_inj.mp (show k.toInt = 3 by omega)
theorem d1_0 : decode method_2_code 0 = .ok (.iload_n 0, 1) := by decide +kernel
theorem d1_1 : decode method_2_code 1 = .ok (.ifCond .ne 14, 3) := by decide +kernel
theorem d1_4 : decode method_2_code 4 = .ok (.new 7, 3) := by decide +kernel
theorem d1_7 : decode method_2_code 7 = .ok (.dup, 1) := by decide +kernel
theorem d1_8 : decode method_2_code 8 = .ok (.iconst 0, 1) := by decide +kernel
theorem d1_9 : decode method_2_code 9 = .ok (.newarray .char, 2) := by decide +kernel
theorem d1_11 : decode method_2_code 11 = .ok (.invokespecial 9, 3) := by decide +kernel
theorem pd_7 : parseMethodDescriptor "([C)V" = some ⟨[(.array .char)], none⟩ := by decide +kernel
theorem d1_14 : decode method_2_code 14 = .ok (.areturn, 1) := by decide +kernel
theorem d1_15 : decode method_2_code 15 = .ok (.iload_n 0, 1) := by decide +kernel
theorem d1_16 : decode method_2_code 16 = .ok (.iconst 1, 1) := by decide +kernel
theorem d1_17 : decode method_2_code 17 = .ok (.if_icmp .ne 8, 3) := by decide +kernel
theorem d1_20 : decode method_2_code 20 = .ok (.iload_n 1, 1) := by decide +kernel
theorem d1_21 : decode method_2_code 21 = .ok (.invokestatic 12, 3) := by decide +kernel
theorem pd_8 : parseMethodDescriptor "(C)Ljava/lang/String;" = some ⟨[.char], some (.object "java/lang/String")⟩ := by decide +kernel
theorem d1_24 : decode method_2_code 24 = .ok (.areturn, 1) := by decide +kernel
theorem d1_25 : decode method_2_code 25 = .ok (.iload_n 0, 1) := by decide +kernel
theorem d1_26 : decode method_2_code 26 = .ok (.iconst 2, 1) := by decide +kernel
theorem d1_27 : decode method_2_code 27 = .ok (.if_icmp .ne 22, 3) := by decide +kernel
theorem d1_30 : decode method_2_code 30 = .ok (.new 7, 3) := by decide +kernel
theorem d1_33 : decode method_2_code 33 = .ok (.dup, 1) := by decide +kernel
theorem d1_34 : decode method_2_code 34 = .ok (.iconst 2, 1) := by decide +kernel
theorem d1_35 : decode method_2_code 35 = .ok (.newarray .char, 2) := by decide +kernel
theorem d1_37 : decode method_2_code 37 = .ok (.dup, 1) := by decide +kernel
theorem d1_38 : decode method_2_code 38 = .ok (.iconst 0, 1) := by decide +kernel
theorem d1_39 : decode method_2_code 39 = .ok (.iload_n 1, 1) := by decide +kernel
theorem d1_40 : decode method_2_code 40 = .ok (.castore, 1) := by decide +kernel
theorem d1_41 : decode method_2_code 41 = .ok (.dup, 1) := by decide +kernel
theorem d1_42 : decode method_2_code 42 = .ok (.iconst 1, 1) := by decide +kernel
theorem d1_43 : decode method_2_code 43 = .ok (.iload_n 2, 1) := by decide +kernel
theorem d1_44 : decode method_2_code 44 = .ok (.castore, 1) := by decide +kernel
theorem d1_45 : decode method_2_code 45 = .ok (.invokespecial 9, 3) := by decide +kernel
theorem d1_48 : decode method_2_code 48 = .ok (.areturn, 1) := by decide +kernel
theorem d1_49 : decode method_2_code 49 = .ok (.new 7, 3) := by decide +kernel
theorem d1_52 : decode method_2_code 52 = .ok (.dup, 1) := by decide +kernel
theorem d1_53 : decode method_2_code 53 = .ok (.iconst 3, 1) := by decide +kernel
theorem d1_54 : decode method_2_code 54 = .ok (.newarray .char, 2) := by decide +kernel
theorem d1_56 : decode method_2_code 56 = .ok (.dup, 1) := by decide +kernel
theorem d1_57 : decode method_2_code 57 = .ok (.iconst 0, 1) := by decide +kernel
theorem d1_58 : decode method_2_code 58 = .ok (.iload_n 1, 1) := by decide +kernel
theorem d1_59 : decode method_2_code 59 = .ok (.castore, 1) := by decide +kernel
theorem d1_60 : decode method_2_code 60 = .ok (.dup, 1) := by decide +kernel
theorem d1_61 : decode method_2_code 61 = .ok (.iconst 1, 1) := by decide +kernel
theorem d1_62 : decode method_2_code 62 = .ok (.iload_n 2, 1) := by decide +kernel
theorem d1_63 : decode method_2_code 63 = .ok (.castore, 1) := by decide +kernel
theorem d1_64 : decode method_2_code 64 = .ok (.dup, 1) := by decide +kernel
theorem d1_65 : decode method_2_code 65 = .ok (.iconst 2, 1) := by decide +kernel
theorem d1_66 : decode method_2_code 66 = .ok (.iload_n 3, 1) := by decide +kernel
theorem d1_67 : decode method_2_code 67 = .ok (.castore, 1) := by decide +kernel
theorem d1_68 : decode method_2_code 68 = .ok (.invokespecial 9, 3) := by decide +kernel
theorem d1_71 : decode method_2_code 71 = .ok (.areturn, 1) := by decide +kernel
theorem pn_DecisionCommittedPinLaw : plainName "com/example/concordat/concordat/core/DecisionCommittedPinLaw" = true := by first | (simp [plainName, overriddenIn]; done) | decide +kernel
theorem ef_rmMk (m : MethodId) (x0 : Int32) (x1 : Int32) (x2 : Int32) (x3 : Int32)  : entryFrame m #[(.int x0), (.int x1), (.int x2), (.int x3)] 4 = mkF m 0 #[.val (.int x0), .val (.int x1), .val (.int x2), .val (.int x3)] [] := by first | (simp [entryFrame, mkF, argsToLocals, Value.category, maxLocals]; done) | rfl
def Q_rmMk (Z : State) (k ca cb cc cz : Int32) (h0 : Heap) (n0 : Nat) (vv : Option Value) (h : Heap) (vm : Vm) (L : List Loc) : Prop := ∃ x b : Nat, vv = some (.ref x) ∧ Fr n0 L ∧ Keep h0 h [] ∧ Exa Z h x "java/lang/String" ∧ Fld Z h x "java/lang/String" "value" "[B" (.ref b) ∧ Fld Z h x "java/lang/String" "coder" "B" (.int 0) ∧ oAI Z h b .byte k.toInt.toNat (oLo (mkC ca cb cc)) ∧ oEm Z vm h
set_option maxRecDepth 65536 in
set_option maxHeartbeats 40000000 in
theorem rmMk (l : Launch) (Z : State) (a0 : Array Value) (hw : ∀ d ∈ tables_1, d.before a0 Z = true) (ws : List Jvm.Cond) (k ca cb cc cz : Int32) (h0 : Heap) (n0 : Nat) (Z0 : n0 ≤ h0.size) (O0 : Old Z n0 h0) (SCS : Sta Z Z.heap "java/lang/String" "COMPACT_STRINGS" "Z" (.int cz)) (hcz : ¬ cz = (0 : Int32)) (hcH : Jvm.Lit.constHeld Z "java/lang/String" 7) (hcw : Jvm.Lit.compactW.before a0 Z = true) (ha : nar .char ca = ca) (hb' : nar .char cb = cb) (hc' : nar .char cc = cc) (ha2 : ¬ ((255 : Int32) < ca)) (hb2 : ¬ ((255 : Int32) < cb)) (hc2 : ¬ ((255 : Int32) < cc)) (hk3 : 0 ≤ k.toInt ∧ k.toInt ≤ 3) :
    MetFree l (⟨"com/example/concordat/concordat/core/DecisionCommittedPinLaw", "mk", "(ICCC)Ljava/lang/String;"⟩ : MethodName) (head1 (Jvm.Cond.code (⟨"com/example/concordat/concordat/core/DecisionCommittedPinLaw", "mk", "(ICCC)Ljava/lang/String;"⟩ : MethodName) method_2_code 4 (some (.object "java/lang/String")) :: ws) ({ frames := 4, cells := 4, slots := 11, locals := 66 } : Room)) (fun aA uU => aA = #[(.int k), (.int ca), (.int cb), (.int cc)] ∧ Z.Warmed39 uU.vm ∧ uU.heap = h0 ∧ oEm Z uU.vm h0) (fun _ _ _ _ _ => True) (fun _ uU oO uU' => ∃ vV lL, oO = .returned vV ∧ Q_rmMk Z k ca cb cc cz h0 n0 vV uU'.heap uU'.vm lL ∧ ReturnedEndW uU oO uU' lL ({ frames := 4, cells := 4, slots := 11, locals := 66 } : Room).cells ({ frames := 4, cells := 4, slots := 11, locals := 66 } : Room).slots) := by
  refine MetFree.of_bodySF (plainFor_of_name pn_DecisionCommittedPinLaw) hisR ?_
  intro p e s m args below meth c s₁ Bd hml0 hP hK
  obtain ⟨rfl, hZ, hh, hJ⟩ := hP
  have hx := Bd.exec
  have hby := Bd.bytes
  have hml : c.maxLocals = 4 := hml0
  have hown : s.vm.findClass "com/example/concordat/concordat/core/DecisionCommittedPinLaw" = some m.cls := findClass_of_methodNamed Bd.named
  have hnm := (name_of_methodNamed Bd.named Bd.method).1
  have X0 : Stand p l e ({ frames := 4, cells := 4, slots := 11, locals := 66 } : Room) (s.setVm s.vm) m #[(.int k), (.int ca), (.int cb), (.int cc)] below meth c s₁ [] 0 0 := Stand.of_body Bd
  have e0 : s₁.heap = h0 := by rw [← hh, Bd.state]; rfl
  have N0 := Fr.nil n0
  have hS : s.Since s.vm 0 := (State.WarmedH.refl s).since 0
  have hk : 0 ≤ h0.size := Nat.zero_le _
  have hZ : Z.Warmed39 (s.setVm s.vm).vm := hZ
  have hown : (s.setVm s.vm).vm.findClass "com/example/concordat/concordat/core/DecisionCommittedPinLaw" = some m.cls := hown
  refine oEnterV (oCast (ef_rmMk m k ca cb cc ) ?_)
  show oGl p e below (s₁.setTop (mkF m 0 #[.val (.int k), .val (.int ca), .val (.int cb), .val (.int cc)] [])) _
  refine siloadN X0 hx (hb hby d1_0) rfl rfl (pc' := 1) ?_
  by_cases hc1 : k = (0 : Int32)
  · skip
    refine sifN X0 hx (hb hby d1_1) rfl (teq hc1).2 (pc' := 4) ?_
    obtain ⟨T1, h1, X1, e1, E1, A1, D1, -, st1⟩ := newO X0 hx hZ hown (hw _ (List.mem_of_getElem? (i := 4) rfl)) (hw _ (List.mem_of_getElem? (i := 5) rfl)) (hw _ (List.mem_of_getElem? (i := 6) rfl)) e0 (g := (mkF m 4 #[.val (.int k), .val (.int ca), .val (.int cb), .val (.int cc)] [])) rfl (hb hby d1_4) (by decide) (by decide)
    obtain ⟨a1, g1⟩ : ∃ z, z = h0.size := ⟨_, rfl⟩
    rw [← g1] at A1 D1 st1
    refine oOn st1 ?_
    have z2 : h0.size ≤ h1.size := E1.1
    have lt1 : a1 < h1.size := A1.lt
    have f1_20 : Fld Z h1 a1 "java/lang/String" "value" "[B" .null := D1 (Or.inr (hw _ (List.mem_of_getElem? (i := 20) rfl))) (ty := (.array .byte)) (by decide)
    have f1_21 : Fld Z h1 a1 "java/lang/String" "coder" "B" (.int (0 : Int32)) := D1 (Or.inr (hw _ (List.mem_of_getElem? (i := 21) rfl))) (ty := .byte) (by decide)
    show oGl p e below (T1.setTop (mkF m 7 #[.val (.int k), .val (.int ca), .val (.int cb), .val (.int cc)] [(.ref a1)])) _
    refine sdup X1 hx (hb hby d1_7) rfl rfl (pc' := 8) ?_
    refine siconst X1 hx (hb hby d1_8) rfl rfl (z := 0) (pc' := 9) ?_
    obtain ⟨T3, h3, k3, X3, e3, E3, A3, st3⟩ := newP X1 hx hZ (hw _ (List.mem_of_getElem? (i := 7) rfl)) e1 (g := (mkF m 9 #[.val (.int k), .val (.int ca), .val (.int cb), .val (.int cc)] [(.int (0 : Int32)), (.ref a1), (.ref a1)])) rfl (hb hby d1_9) rfl (by decide) (cap := 0) (by decide) (by decide) (by decide) (by decide)
    obtain ⟨a3, g3⟩ : ∃ z, z = h1.size := ⟨_, rfl⟩
    rw [← g3] at A3 st3
    refine oOn st3 ?_
    have z4 : h1.size ≤ h3.size := E3.1
    have lt3 : a3 < h3.size := A3.lt
    have V3 : oAI Z h3 a3 .char 0 (fun _ => 0) := oAI.new A3 rfl
    show oGl p e below (T3.setTop (mkF m 11 #[.val (.int k), .val (.int ca), .val (.int cb), .val (.int cc)] [(.ref a3), (.ref a1), (.ref a1)])) _
    have f5 := (A1.ext E3)
    have nxa : @Ne Nat a1 a3 := oNeO f5 (hw _ (List.mem_of_getElem? (i := 5) rfl)) V3
    have f6 := (f1_20.ext E3)
    have f7 := (f1_21.ext E3)
    have f8 := ((O0.ext E1).ext E3)
    have hz9 : n0 ≤ h3.size := by omega
    have f10 := ((hJ.ext E1).ext E3)
    obtain ⟨_, _, ⟨T9, L9, k9, n9⟩, -, X9, hS2, hg2, ⟨Lc9, hQ9, l9, y9, z9⟩, st9⟩ := X3.specialBackS hx (y := (⟨"java/lang/String", "<init>", "([C)V"⟩ : MethodName)) rfl hown (mvT hZ (hw _ (List.mem_of_getElem? (i := 8) rfl))) (mvT hZ (hw _ (List.mem_of_getElem? (i := 9) rfl))) (mvT hZ (hw _ (List.mem_of_getElem? (i := 10) rfl))) (by decide) (backOfV (J := fun vm => oEm Z vm h3) (W := 1) (rmStr l Z a0 hw [] a1 a3 0 (fun _ => 0) cz h3 n0 hz9 V3 (by decide) (fun j hj => absurd hj (Nat.not_lt_zero _)) nxa f5 f6 f7 (by omega) f8 SCS hcz hcH hcw) hZ (hw _ (List.mem_of_getElem? (i := 10) rfl)) (hw _ (List.mem_of_getElem? (i := 6) rfl)) (by decide) (by decide)) (g := (mkF m 11 #[.val (.int k), .val (.int ca), .val (.int cb), .val (.int cc)] [(.ref a3), (.ref a1), (.ref a1)])) rfl (by rw [hml]; rfl) (Steps.refl _) (a := a1) (argsL := [(.ref a3)]) (rest := [(.ref a1)]) (lenOf pd_7 rfl) rfl (by show 2 * 0 + _ ≤ _; exact Nat.le_of_eq rfl) (hb hby d1_11) (fun _ hWw => ⟨rfl, e3, (by decide : 2 + 2 ≤ _), (by decide : 4 + 4 ≤ _), f10.warm hWw⟩)
    dsimp only [Pt.U, Pt.locs, Pt.cells, Pt.slots] at X9 l9 y9 z9 st9 hQ9 hS2 hg2
    subst l9 y9 z9
    obtain ⟨X9, hS, hZ, hown⟩ := rebS hS (n1 := T3.heap.size) (by rw [e3]; omega) X9 hS2 hg2 hZ hown
    have hk : T9.heap.size ≤ T9.heap.size := Nat.le_refl _
    obtain ⟨d9, rfl, N9q, K9, Ex9, Fv9, Fc9, Vb9, Jj9⟩ := hQ9
    have N9 := Fr.app N0 N9q
    have z11 : h3.size ≤ T9.heap.size := K9.1
    refine oSt st9 ?_
    show oGl p e below (T9.setTop (mkF m 14 #[.val (.int k), .val (.int ca), .val (.int cb), .val (.int cc)] [(.ref a1)])) _
    have kp12 : Keep h0 T9.heap [] := ((((Keep.refl h0 []).ext E1).ext E3).trans K9 (allS (Or.inr (by omega)) all0))
    have Vz : oAI Z T9.heap d9 .byte k.toInt.toNat (oLo (mkC ca cb cc)) := by
      rw [hc1]; exact Vb9.congr (fun j hj => absurd hj (Nat.not_lt_zero _))
    refine oRetRV X9 hS (by omega) hx Bd.notSynchronized Bd.returns rfl rfl (hb hby d1_14) (by decide) (by decide) ?_
    show Q_rmMk Z k ca cb cc cz h0 n0 _ T9.heap _ _
    exact ⟨a1, d9, rfl, N9, kp12, Ex9, Fv9, Fc9, Vz, Jj9.warm X9.warmed⟩
  · skip
    refine sifY X0 hx (hb hby d1_1) (by decide) (by decide) (feq hc1).2 (pc' := 15) ?_
    refine siloadN X0 hx (hb hby d1_15) rfl rfl (pc' := 16) ?_
    refine siconst X0 hx (hb hby d1_16) rfl rfl (z := 1) (pc' := 17) ?_
    by_cases hc17 : k = (1 : Int32)
    · skip
      refine sicN X0 hx (hb hby d1_17) rfl (teq hc17).2 (pc' := 20) ?_
      refine siloadN X0 hx (hb hby d1_20) rfl rfl (pc' := 21) ?_
      have hz13 : n0 ≤ h0.size := by omega
      obtain ⟨_, _, ⟨T13, L13, k13, n13⟩, -, X13, ⟨Lc13, hQ13, l13, y13, z13⟩, st13⟩ := Jvm.LawKit.callS X0 hx (y := (⟨"java/lang/String", "valueOf", "(C)Ljava/lang/String;"⟩ : MethodName)) hown (mvT hZ (hw _ (List.mem_of_getElem? (i := 102) rfl))) (mvT hZ (hw _ (List.mem_of_getElem? (i := 103) rfl))) (mvT hZ (hw _ (List.mem_of_getElem? (i := 6) rfl))) (mvT hZ (hw _ (List.mem_of_getElem? (i := 104) rfl))) (by decide) (backOf (W := 0) (rmVal l Z a0 hw [] ca cz h0 n0 hz13 O0 SCS hcz ha2) hZ (hw _ (List.mem_of_getElem? (i := 104) rfl)) (hw _ (List.mem_of_getElem? (i := 6) rfl)) (by decide) (by decide)) (g := (mkF m 21 #[.val (.int k), .val (.int ca), .val (.int cb), .val (.int cc)] [(.int ca)])) rfl (by rw [hml]; rfl) (argsL := [(.int ca)]) (rest := []) (lenOf pd_8 rfl) rfl (by show 2 * 0 + _ ≤ _; exact Nat.le_of_eq rfl) (hb hby d1_21) (fun _ _ => ⟨rfl, e0, (by decide : 0 + 2 ≤ _), (by decide : 0 + 5 ≤ _)⟩)
      dsimp only [Pt.U, Pt.locs, Pt.cells, Pt.slots] at X13 l13 y13 z13 st13 hQ13
      subst l13 y13 z13
      obtain ⟨y13, d13, rfl, N13q, K13, Ex13, Fv13, Fc13, Vb13⟩ := hQ13
      have N13 := Fr.app N0 N13q
      have z14 : h0.size ≤ T13.heap.size := K13.1
      refine oOn st13 ?_
      show oGl p e below (T13.setTop (mkF m 24 #[.val (.int k), .val (.int ca), .val (.int cb), .val (.int cc)] [(.ref y13)])) _
      have kp15 : Keep h0 T13.heap [] := ((Keep.refl h0 []).trans K13 all0)
      have Vz : oAI Z T13.heap d13 .byte k.toInt.toNat (oLo (mkC ca cb cc)) := by
        rw [hc17]; exact Vb13.congr (fun j hj => by
          have q : j = 0 := by omega
          subst q; rfl)
      have f16 := (hJ.keep0 K13)
      refine oRetRV X13 hS (by omega) hx Bd.notSynchronized Bd.returns rfl rfl (hb hby d1_24) (by decide) (by decide) ?_
      show Q_rmMk Z k ca cb cc cz h0 n0 _ T13.heap _ _
      exact ⟨y13, d13, rfl, N13, kp15, Ex13, Fv13, Fc13, Vz, f16.warm X13.warmed⟩
    · skip
      refine sicY X0 hx (hb hby d1_17) (by decide) (by decide) (feq hc17).2 (pc' := 25) ?_
      refine siloadN X0 hx (hb hby d1_25) rfl rfl (pc' := 26) ?_
      refine siconst X0 hx (hb hby d1_26) rfl rfl (z := 2) (pc' := 27) ?_
      by_cases hc27 : k = (2 : Int32)
      · skip
        refine sicN X0 hx (hb hby d1_27) rfl (teq hc27).2 (pc' := 30) ?_
        obtain ⟨T17, h17, X17, e17, E17, A17, D17, -, st17⟩ := newO X0 hx hZ hown (hw _ (List.mem_of_getElem? (i := 4) rfl)) (hw _ (List.mem_of_getElem? (i := 5) rfl)) (hw _ (List.mem_of_getElem? (i := 6) rfl)) e0 (g := (mkF m 30 #[.val (.int k), .val (.int ca), .val (.int cb), .val (.int cc)] [])) rfl (hb hby d1_30) (by decide) (by decide)
        obtain ⟨a17, g17⟩ : ∃ z, z = h0.size := ⟨_, rfl⟩
        rw [← g17] at A17 D17 st17
        refine oOn st17 ?_
        have z18 : h0.size ≤ h17.size := E17.1
        have lt17 : a17 < h17.size := A17.lt
        have f17_20 : Fld Z h17 a17 "java/lang/String" "value" "[B" .null := D17 (Or.inr (hw _ (List.mem_of_getElem? (i := 20) rfl))) (ty := (.array .byte)) (by decide)
        have f17_21 : Fld Z h17 a17 "java/lang/String" "coder" "B" (.int (0 : Int32)) := D17 (Or.inr (hw _ (List.mem_of_getElem? (i := 21) rfl))) (ty := .byte) (by decide)
        show oGl p e below (T17.setTop (mkF m 33 #[.val (.int k), .val (.int ca), .val (.int cb), .val (.int cc)] [(.ref a17)])) _
        refine sdup X17 hx (hb hby d1_33) rfl rfl (pc' := 34) ?_
        refine siconst X17 hx (hb hby d1_34) rfl rfl (z := 2) (pc' := 35) ?_
        obtain ⟨T19, h19, k19, X19, e19, E19, A19, st19⟩ := newP X17 hx hZ (hw _ (List.mem_of_getElem? (i := 7) rfl)) e17 (g := (mkF m 35 #[.val (.int k), .val (.int ca), .val (.int cb), .val (.int cc)] [(.int (2 : Int32)), (.ref a17), (.ref a17)])) rfl (hb hby d1_35) rfl (by decide) (cap := 2) (by decide) (by decide) (by decide) (by decide)
        obtain ⟨a19, g19⟩ : ∃ z, z = h17.size := ⟨_, rfl⟩
        rw [← g19] at A19 st19
        refine oOn st19 ?_
        have z20 : h17.size ≤ h19.size := E19.1
        have lt19 : a19 < h19.size := A19.lt
        have V19 : oAI Z h19 a19 .char 2 (fun _ => 0) := oAI.new A19 rfl
        show oGl p e below (T19.setTop (mkF m 37 #[.val (.int k), .val (.int ca), .val (.int cb), .val (.int cc)] [(.ref a19), (.ref a17), (.ref a17)])) _
        refine sdup X19 hx (hb hby d1_37) rfl rfl (pc' := 38) ?_
        refine siconst X19 hx (hb hby d1_38) rfl rfl (z := 0) (pc' := 39) ?_
        refine siloadN X19 hx (hb hby d1_39) rfl rfl (pc' := 40) ?_
        obtain ⟨T21, h21, X21, e21, W21, V21, st21⟩ := V19.stC X19 hx hZ e19 (j := (0 : Int32)) (by decide) (g := (mkF m 40 #[.val (.int k), .val (.int ca), .val (.int cb), .val (.int cc)] [(.int ca), (.int (0 : Int32)), (.ref a19), (.ref a19), (.ref a17), (.ref a17)])) rfl rfl (hb hby d1_40)
        refine oOn st21 ?_
        have z22 : h19.size ≤ h21.size := Nat.le_of_eq W21.size.symm
        have N21 := Fr.snoc X21 N0 (by omega)
        show oGl p e below (T21.setTop (mkF m 41 #[.val (.int k), .val (.int ca), .val (.int cb), .val (.int cc)] [(.ref a19), (.ref a17), (.ref a17)])) _
        refine sdup X21 hx (hb hby d1_41) rfl rfl (pc' := 42) ?_
        refine siconst X21 hx (hb hby d1_42) rfl rfl (z := 1) (pc' := 43) ?_
        refine siloadN X21 hx (hb hby d1_43) rfl rfl (pc' := 44) ?_
        obtain ⟨T23, h23, X23, e23, W23, V23, st23⟩ := V21.stC X21 hx hZ e21 (j := (1 : Int32)) (by decide) (g := (mkF m 44 #[.val (.int k), .val (.int ca), .val (.int cb), .val (.int cc)] [(.int cb), (.int (1 : Int32)), (.ref a19), (.ref a19), (.ref a17), (.ref a17)])) rfl rfl (hb hby d1_44)
        refine oOn st23 ?_
        have z24 : h21.size ≤ h23.size := Nat.le_of_eq W23.size.symm
        have N23 := Fr.snoc X23 N21 (by omega)
        show oGl p e below (T23.setTop (mkF m 45 #[.val (.int k), .val (.int ca), .val (.int cb), .val (.int cc)] [(.ref a19), (.ref a17), (.ref a17)])) _
        have f25 := (((A17.ext E19).wr W21).wr W23)
        have nxa : @Ne Nat a17 a19 := oNeO f25 (hw _ (List.mem_of_getElem? (i := 5) rfl)) V23
        have Vm : oAI Z h23 a19 .char 2 (mkC ca cb cc) := V23.congr (fun j hj => by
          rcases (by omega : j = 0 ∨ j = 1) with rfl | rfl
          · exact ha
          · exact hb')
        have f26 := (((f17_20.ext E19).other W21 (Or.inl (oNe (by omega)))).other W23 (Or.inl (oNe (by omega))))
        have f27 := (((f17_21.ext E19).other W21 (Or.inl (oNe (by omega)))).other W23 (Or.inl (oNe (by omega))))
        have f28 := ((((O0.ext E17).ext E19).wr W21 (by omega)).wr W23 (by omega))
        have hz29 : n0 ≤ h23.size := by omega
        have f30 := ((((hJ.ext E17).ext E19).wrA W21 V19 (hw _ (List.mem_of_getElem? (i := 5) rfl)) (by decide)).wrA W23 V21 (hw _ (List.mem_of_getElem? (i := 5) rfl)) (by decide))
        obtain ⟨_, _, ⟨T29, L29, k29, n29⟩, -, X29, hS2, hg2, ⟨Lc29, hQ29, l29, y29, z29⟩, st29⟩ := X23.specialBackS hx (y := (⟨"java/lang/String", "<init>", "([C)V"⟩ : MethodName)) rfl hown (mvT hZ (hw _ (List.mem_of_getElem? (i := 8) rfl))) (mvT hZ (hw _ (List.mem_of_getElem? (i := 9) rfl))) (mvT hZ (hw _ (List.mem_of_getElem? (i := 10) rfl))) (by decide) (backOfV (J := fun vm => oEm Z vm h23) (W := 1) (rmStr l Z a0 hw [] a17 a19 2 (mkC ca cb cc) cz h23 n0 hz29 Vm (by decide) (fun j hj => by
          rcases (by omega : j = 0 ∨ j = 1) with rfl | rfl
          · exact ha2
          · exact hb2) nxa f25 f26 f27 (by omega) f28 SCS hcz hcH hcw) hZ (hw _ (List.mem_of_getElem? (i := 10) rfl)) (hw _ (List.mem_of_getElem? (i := 6) rfl)) (by decide) (by decide)) (g := (mkF m 45 #[.val (.int k), .val (.int ca), .val (.int cb), .val (.int cc)] [(.ref a19), (.ref a17), (.ref a17)])) rfl (by rw [hml]; rfl) (Steps.refl _) (a := a17) (argsL := [(.ref a19)]) (rest := [(.ref a17)]) (lenOf pd_7 rfl) rfl (by show 2 * 0 + _ ≤ _; exact Nat.le_of_eq rfl) (hb hby d1_45) (fun _ hWw => ⟨rfl, e23, (by decide : 2 + 2 ≤ _), (by decide : 6 + 4 ≤ _), f30.warm hWw⟩)
        dsimp only [Pt.U, Pt.locs, Pt.cells, Pt.slots] at X29 l29 y29 z29 st29 hQ29 hS2 hg2
        subst l29 y29 z29
        obtain ⟨X29, hS, hZ, hown⟩ := rebS hS (n1 := T23.heap.size) (by rw [e23]; omega) X29 hS2 hg2 hZ hown
        have hk : T29.heap.size ≤ T29.heap.size := Nat.le_refl _
        obtain ⟨d29, rfl, N29q, K29, Ex29, Fv29, Fc29, Vb29, Jj29⟩ := hQ29
        have N29 := Fr.app N23 N29q
        have z31 : h23.size ≤ T29.heap.size := K29.1
        refine oSt st29 ?_
        show oGl p e below (T29.setTop (mkF m 48 #[.val (.int k), .val (.int ca), .val (.int cb), .val (.int cc)] [(.ref a17)])) _
        have kp32 : Keep h0 T29.heap [] := ((((((Keep.refl h0 []).ext E17).ext E19).wr W21 (Or.inr (by omega))).wr W23 (Or.inr (by omega))).trans K29 (allS (Or.inr (by omega)) all0))
        have Vz : oAI Z T29.heap d29 .byte k.toInt.toNat (oLo (mkC ca cb cc)) := by
          rw [hc27]; exact Vb29
        refine oRetRV X29 hS (by omega) hx Bd.notSynchronized Bd.returns rfl rfl (hb hby d1_48) (by decide) (by decide) ?_
        show Q_rmMk Z k ca cb cc cz h0 n0 _ T29.heap _ _
        exact ⟨a17, d29, rfl, N29, kp32, Ex29, Fv29, Fc29, Vz, Jj29.warm X29.warmed⟩
      · skip
        refine sicY X0 hx (hb hby d1_27) (by decide) (by decide) (feq hc27).2 (pc' := 49) ?_
        obtain ⟨T33, h33, X33, e33, E33, A33, D33, -, st33⟩ := newO X0 hx hZ hown (hw _ (List.mem_of_getElem? (i := 4) rfl)) (hw _ (List.mem_of_getElem? (i := 5) rfl)) (hw _ (List.mem_of_getElem? (i := 6) rfl)) e0 (g := (mkF m 49 #[.val (.int k), .val (.int ca), .val (.int cb), .val (.int cc)] [])) rfl (hb hby d1_49) (by decide) (by decide)
        obtain ⟨a33, g33⟩ : ∃ z, z = h0.size := ⟨_, rfl⟩
        rw [← g33] at A33 D33 st33
        refine oOn st33 ?_
        have z34 : h0.size ≤ h33.size := E33.1
        have lt33 : a33 < h33.size := A33.lt
        have f33_20 : Fld Z h33 a33 "java/lang/String" "value" "[B" .null := D33 (Or.inr (hw _ (List.mem_of_getElem? (i := 20) rfl))) (ty := (.array .byte)) (by decide)
        have f33_21 : Fld Z h33 a33 "java/lang/String" "coder" "B" (.int (0 : Int32)) := D33 (Or.inr (hw _ (List.mem_of_getElem? (i := 21) rfl))) (ty := .byte) (by decide)
        show oGl p e below (T33.setTop (mkF m 52 #[.val (.int k), .val (.int ca), .val (.int cb), .val (.int cc)] [(.ref a33)])) _
        refine sdup X33 hx (hb hby d1_52) rfl rfl (pc' := 53) ?_
        refine siconst X33 hx (hb hby d1_53) rfl rfl (z := 3) (pc' := 54) ?_
        obtain ⟨T35, h35, k35, X35, e35, E35, A35, st35⟩ := newP X33 hx hZ (hw _ (List.mem_of_getElem? (i := 7) rfl)) e33 (g := (mkF m 54 #[.val (.int k), .val (.int ca), .val (.int cb), .val (.int cc)] [(.int (3 : Int32)), (.ref a33), (.ref a33)])) rfl (hb hby d1_54) rfl (by decide) (cap := 3) (by decide) (by decide) (by decide) (by decide)
        obtain ⟨a35, g35⟩ : ∃ z, z = h33.size := ⟨_, rfl⟩
        rw [← g35] at A35 st35
        refine oOn st35 ?_
        have z36 : h33.size ≤ h35.size := E35.1
        have lt35 : a35 < h35.size := A35.lt
        have V35 : oAI Z h35 a35 .char 3 (fun _ => 0) := oAI.new A35 rfl
        show oGl p e below (T35.setTop (mkF m 56 #[.val (.int k), .val (.int ca), .val (.int cb), .val (.int cc)] [(.ref a35), (.ref a33), (.ref a33)])) _
        refine sdup X35 hx (hb hby d1_56) rfl rfl (pc' := 57) ?_
        refine siconst X35 hx (hb hby d1_57) rfl rfl (z := 0) (pc' := 58) ?_
        refine siloadN X35 hx (hb hby d1_58) rfl rfl (pc' := 59) ?_
        obtain ⟨T37, h37, X37, e37, W37, V37, st37⟩ := V35.stC X35 hx hZ e35 (j := (0 : Int32)) (by decide) (g := (mkF m 59 #[.val (.int k), .val (.int ca), .val (.int cb), .val (.int cc)] [(.int ca), (.int (0 : Int32)), (.ref a35), (.ref a35), (.ref a33), (.ref a33)])) rfl rfl (hb hby d1_59)
        refine oOn st37 ?_
        have z38 : h35.size ≤ h37.size := Nat.le_of_eq W37.size.symm
        have N37 := Fr.snoc X37 N0 (by omega)
        show oGl p e below (T37.setTop (mkF m 60 #[.val (.int k), .val (.int ca), .val (.int cb), .val (.int cc)] [(.ref a35), (.ref a33), (.ref a33)])) _
        refine sdup X37 hx (hb hby d1_60) rfl rfl (pc' := 61) ?_
        refine siconst X37 hx (hb hby d1_61) rfl rfl (z := 1) (pc' := 62) ?_
        refine siloadN X37 hx (hb hby d1_62) rfl rfl (pc' := 63) ?_
        obtain ⟨T39, h39, X39, e39, W39, V39, st39⟩ := V37.stC X37 hx hZ e37 (j := (1 : Int32)) (by decide) (g := (mkF m 63 #[.val (.int k), .val (.int ca), .val (.int cb), .val (.int cc)] [(.int cb), (.int (1 : Int32)), (.ref a35), (.ref a35), (.ref a33), (.ref a33)])) rfl rfl (hb hby d1_63)
        refine oOn st39 ?_
        have z40 : h37.size ≤ h39.size := Nat.le_of_eq W39.size.symm
        have N39 := Fr.snoc X39 N37 (by omega)
        show oGl p e below (T39.setTop (mkF m 64 #[.val (.int k), .val (.int ca), .val (.int cb), .val (.int cc)] [(.ref a35), (.ref a33), (.ref a33)])) _
        refine sdup X39 hx (hb hby d1_64) rfl rfl (pc' := 65) ?_
        refine siconst X39 hx (hb hby d1_65) rfl rfl (z := 2) (pc' := 66) ?_
        refine siloadN X39 hx (hb hby d1_66) rfl rfl (pc' := 67) ?_
        obtain ⟨T41, h41, X41, e41, W41, V41, st41⟩ := V39.stC X39 hx hZ e39 (j := (2 : Int32)) (by decide) (g := (mkF m 67 #[.val (.int k), .val (.int ca), .val (.int cb), .val (.int cc)] [(.int cc), (.int (2 : Int32)), (.ref a35), (.ref a35), (.ref a33), (.ref a33)])) rfl rfl (hb hby d1_67)
        refine oOn st41 ?_
        have z42 : h39.size ≤ h41.size := Nat.le_of_eq W41.size.symm
        have N41 := Fr.snoc X41 N39 (by omega)
        show oGl p e below (T41.setTop (mkF m 68 #[.val (.int k), .val (.int ca), .val (.int cb), .val (.int cc)] [(.ref a35), (.ref a33), (.ref a33)])) _
        have f43 := ((((A33.ext E35).wr W37).wr W39).wr W41)
        have nxa : @Ne Nat a33 a35 := oNeO f43 (hw _ (List.mem_of_getElem? (i := 5) rfl)) V41
        have Vm : oAI Z h41 a35 .char 3 (mkC ca cb cc) := V41.congr (fun j hj => by
          rcases (by omega : j = 0 ∨ j = 1 ∨ j = 2) with rfl | rfl | rfl
          · exact ha
          · exact hb'
          · exact hc')
        have f44 := ((((f33_20.ext E35).other W37 (Or.inl (oNe (by omega)))).other W39 (Or.inl (oNe (by omega)))).other W41 (Or.inl (oNe (by omega))))
        have f45 := ((((f33_21.ext E35).other W37 (Or.inl (oNe (by omega)))).other W39 (Or.inl (oNe (by omega)))).other W41 (Or.inl (oNe (by omega))))
        have f46 := (((((O0.ext E33).ext E35).wr W37 (by omega)).wr W39 (by omega)).wr W41 (by omega))
        have hz47 : n0 ≤ h41.size := by omega
        have f48 := (((((hJ.ext E33).ext E35).wrA W37 V35 (hw _ (List.mem_of_getElem? (i := 5) rfl)) (by decide)).wrA W39 V37 (hw _ (List.mem_of_getElem? (i := 5) rfl)) (by decide)).wrA W41 V39 (hw _ (List.mem_of_getElem? (i := 5) rfl)) (by decide))
        obtain ⟨_, _, ⟨T47, L47, k47, n47⟩, -, X47, hS2, hg2, ⟨Lc47, hQ47, l47, y47, z47⟩, st47⟩ := X41.specialBackS hx (y := (⟨"java/lang/String", "<init>", "([C)V"⟩ : MethodName)) rfl hown (mvT hZ (hw _ (List.mem_of_getElem? (i := 8) rfl))) (mvT hZ (hw _ (List.mem_of_getElem? (i := 9) rfl))) (mvT hZ (hw _ (List.mem_of_getElem? (i := 10) rfl))) (by decide) (backOfV (J := fun vm => oEm Z vm h41) (W := 1) (rmStr l Z a0 hw [] a33 a35 3 (mkC ca cb cc) cz h41 n0 hz47 Vm (by decide) (fun j hj => by
          rcases (by omega : j = 0 ∨ j = 1 ∨ j = 2) with rfl | rfl | rfl
          · exact ha2
          · exact hb2
          · exact hc2) nxa f43 f44 f45 (by omega) f46 SCS hcz hcH hcw) hZ (hw _ (List.mem_of_getElem? (i := 10) rfl)) (hw _ (List.mem_of_getElem? (i := 6) rfl)) (by decide) (by decide)) (g := (mkF m 68 #[.val (.int k), .val (.int ca), .val (.int cb), .val (.int cc)] [(.ref a35), (.ref a33), (.ref a33)])) rfl (by rw [hml]; rfl) (Steps.refl _) (a := a33) (argsL := [(.ref a35)]) (rest := [(.ref a33)]) (lenOf pd_7 rfl) rfl (by show 2 * 0 + _ ≤ _; exact Nat.le_of_eq rfl) (hb hby d1_68) (fun _ hWw => ⟨rfl, e41, (by decide : 2 + 2 ≤ _), (by decide : 7 + 4 ≤ _), f48.warm hWw⟩)
        dsimp only [Pt.U, Pt.locs, Pt.cells, Pt.slots] at X47 l47 y47 z47 st47 hQ47 hS2 hg2
        subst l47 y47 z47
        obtain ⟨X47, hS, hZ, hown⟩ := rebS hS (n1 := T41.heap.size) (by rw [e41]; omega) X47 hS2 hg2 hZ hown
        have hk : T47.heap.size ≤ T47.heap.size := Nat.le_refl _
        obtain ⟨d47, rfl, N47q, K47, Ex47, Fv47, Fc47, Vb47, Jj47⟩ := hQ47
        have N47 := Fr.app N41 N47q
        have z49 : h41.size ≤ T47.heap.size := K47.1
        refine oSt st47 ?_
        show oGl p e below (T47.setTop (mkF m 71 #[.val (.int k), .val (.int ca), .val (.int cb), .val (.int cc)] [(.ref a33)])) _
        have kp50 : Keep h0 T47.heap [] := (((((((Keep.refl h0 []).ext E33).ext E35).wr W37 (Or.inr (by omega))).wr W39 (Or.inr (by omega))).wr W41 (Or.inr (by omega))).trans K47 (allS (Or.inr (by omega)) all0))
        have hk9 : k = (3 : Int32) := own_k3 hk3 hc1 hc17 hc27
        have Vz : oAI Z T47.heap d47 .byte k.toInt.toNat (oLo (mkC ca cb cc)) := by
          rw [hk9]; exact Vb47
        refine oRetRV X47 hS (by omega) hx Bd.notSynchronized Bd.returns rfl rfl (hb hby d1_71) (by decide) (by decide) ?_
        show Q_rmMk Z k ca cb cc cz h0 n0 _ T47.heap _ _
        exact ⟨a33, d47, rfl, N47, kp50, Ex47, Fv47, Fc47, Vz, Jj47.warm X47.warmed⟩
theorem own_ofInj {n m : Nat} (h : n < 2147483648) (h' : m < 2147483648) (e : Int32.ofNat n = Int32.ofNat m) : n = m := by
  have e1 : (Int32.ofNat n).toInt = (Int32.ofNat m).toInt := by rw [e]
  rw [own_ofNat h, own_ofNat h'] at e1; omega
theorem d16_0 : decode jdk_43_method_13_code 0 = .ok (.aload_n 0, 1) := by decide +kernel
theorem d16_1 : decode jdk_43_method_13_code 1 = .ok (.arraylength, 1) := by decide +kernel
theorem d16_2 : decode jdk_43_method_13_code 2 = .ok (.aload_n 1, 1) := by decide +kernel
theorem d16_3 : decode jdk_43_method_13_code 3 = .ok (.arraylength, 1) := by decide +kernel
theorem d16_4 : decode jdk_43_method_13_code 4 = .ok (.if_icmp .ne 30, 3) := by decide +kernel
theorem d16_7 : decode jdk_43_method_13_code 7 = .ok (.iconst 0, 1) := by decide +kernel
theorem d16_8 : decode jdk_43_method_13_code 8 = .ok (.istore_n 2, 1) := by decide +kernel
theorem d16_9 : decode jdk_43_method_13_code 9 = .ok (.iload_n 2, 1) := by decide +kernel
theorem d16_10 : decode jdk_43_method_13_code 10 = .ok (.aload_n 0, 1) := by decide +kernel
theorem d16_11 : decode jdk_43_method_13_code 11 = .ok (.arraylength, 1) := by decide +kernel
theorem d16_12 : decode jdk_43_method_13_code 12 = .ok (.if_icmp .ge 20, 3) := by decide +kernel
theorem d16_15 : decode jdk_43_method_13_code 15 = .ok (.aload_n 0, 1) := by decide +kernel
theorem d16_16 : decode jdk_43_method_13_code 16 = .ok (.iload_n 2, 1) := by decide +kernel
theorem d16_17 : decode jdk_43_method_13_code 17 = .ok (.baload, 1) := by decide +kernel
theorem d16_18 : decode jdk_43_method_13_code 18 = .ok (.aload_n 1, 1) := by decide +kernel
theorem d16_19 : decode jdk_43_method_13_code 19 = .ok (.iload_n 2, 1) := by decide +kernel
theorem d16_20 : decode jdk_43_method_13_code 20 = .ok (.baload, 1) := by decide +kernel
theorem d16_21 : decode jdk_43_method_13_code 21 = .ok (.if_icmp .eq 5, 3) := by decide +kernel
theorem d16_26 : decode jdk_43_method_13_code 26 = .ok (.iinc 2 1, 3) := by decide +kernel
theorem d16_29 : decode jdk_43_method_13_code 29 = .ok (.goto (-20), 3) := by decide +kernel
theorem d16_24 : decode jdk_43_method_13_code 24 = .ok (.iconst 0, 1) := by decide +kernel
theorem d16_25 : decode jdk_43_method_13_code 25 = .ok (.ireturn, 1) := by decide +kernel
theorem d16_32 : decode jdk_43_method_13_code 32 = .ok (.iconst 1, 1) := by decide +kernel
theorem d16_33 : decode jdk_43_method_13_code 33 = .ok (.ireturn, 1) := by decide +kernel
theorem d16_34 : decode jdk_43_method_13_code 34 = .ok (.iconst 0, 1) := by decide +kernel
theorem d16_35 : decode jdk_43_method_13_code 35 = .ok (.ireturn, 1) := by decide +kernel
theorem ef_rmLEq (m : MethodId) (x0 : Nat) (x1 : Nat)  : entryFrame m #[(.ref x0), (.ref x1)] 3 = mkF m 0 #[.val (.ref x0), .val (.ref x1), .unset] [] := by first | (simp [entryFrame, mkF, argsToLocals, Value.category, maxLocals]; done) | rfl
def Q_rmLEq (Z : State) (b d n o : Nat) (f g : Nat → Int32) (h0 : Heap) (n0 : Nat) (vv : Option Value) (h : Heap) (L : List Loc) : Prop := ∃ r : Int32, vv = some (.int r) ∧ Fr n0 L ∧ h = h0 ∧ ((r = 1 ∧ (n = o ∧ ∀ j : Nat, j < n → f j = g j)) ∨ (r = 0 ∧ ¬ (n = o ∧ ∀ j : Nat, j < n → f j = g j)))
set_option maxRecDepth 65536 in
set_option maxHeartbeats 40000000 in
theorem rmLEq (l : Launch) (Z : State) (a0 : Array Value) (hw : ∀ d ∈ tables_1, d.before a0 Z = true) (ws : List Jvm.Cond) (b d n o : Nat) (f g : Nat → Int32) (h0 : Heap) (n0 : Nat) (Z0 : n0 ≤ h0.size) (PB : oAI Z h0 b .byte n f) (PD : oAI Z h0 d .byte o g) :
    MetFree l (⟨"java/lang/StringLatin1", "equals", "([B[B)Z"⟩ : MethodName) (head1 (Jvm.Cond.code (⟨"java/lang/StringLatin1", "equals", "([B[B)Z"⟩ : MethodName) jdk_43_method_13_code 3 (some .boolean) :: ws) ({ frames := 0, cells := 0, slots := 0, locals := 0 } : Room)) (fun aA uU => aA = #[(.ref b), (.ref d)] ∧ Z.Warmed39 uU.vm ∧ uU.heap = h0) (fun _ _ _ _ _ => True) (fun _ uU oO uU' => ∃ vV lL, oO = .returned vV ∧ Q_rmLEq Z b d n o f g h0 n0 vV uU'.heap lL ∧ FrameEnd uU oO uU' lL ({ frames := 0, cells := 0, slots := 0, locals := 0 } : Room).cells ({ frames := 0, cells := 0, slots := 0, locals := 0 } : Room).slots) := by
  refine MetFree.of_bodySF (plainFor_of_name pn_StringLatin1) hisR ?_
  intro p e s m args below meth c s₁ Bd hml0 hP hK
  obtain ⟨rfl, hZ, hh⟩ := hP
  have hx := Bd.exec
  have hby := Bd.bytes
  have hml : c.maxLocals = 3 := hml0
  have hown : s.vm.findClass "java/lang/StringLatin1" = some m.cls := findClass_of_methodNamed Bd.named
  have hnm := (name_of_methodNamed Bd.named Bd.method).1
  have X0 : Stand p l e ({ frames := 0, cells := 0, slots := 0, locals := 0 } : Room) s m #[(.ref b), (.ref d)] below meth c s₁ [] 0 0 := Stand.of_body Bd
  have e0 : s₁.heap = h0 := by rw [← hh, Bd.state]; rfl
  have N0 := Fr.nil n0
  refine oEnter (oCast (ef_rmLEq m b d ) ?_)
  show oGl p e below (s₁.setTop (mkF m 0 #[.val (.ref b), .val (.ref d), .unset] [])) _
  refine saloadN X0 hx (hb hby d16_0) rfl rfl rfl (pc' := 1) ?_
  refine oOn (PB.len X0 hx hZ e0 (g := (mkF m 1 #[.val (.ref b), .val (.ref d), .unset] [(.ref b)])) rfl rfl (hb hby d16_1)) ?_
  show oGl p e below (s₁.setTop (mkF m 2 #[.val (.ref b), .val (.ref d), .unset] [(.int (Int32.ofNat n))])) _
  refine saloadN X0 hx (hb hby d16_2) rfl rfl rfl (pc' := 3) ?_
  refine oOn (PD.len X0 hx hZ e0 (g := (mkF m 3 #[.val (.ref b), .val (.ref d), .unset] [(.ref d), (.int (Int32.ofNat n))])) rfl rfl (hb hby d16_3)) ?_
  show oGl p e below (s₁.setTop (mkF m 4 #[.val (.ref b), .val (.ref d), .unset] [(.int (Int32.ofNat o)), (.int (Int32.ofNat n))])) _
  by_cases hc4 : (Int32.ofNat n) = (Int32.ofNat o)
  · skip
    refine sicN X0 hx (hb hby d16_4) rfl (teq hc4).2 (pc' := 7) ?_
    refine siconst X0 hx (hb hby d16_7) rfl rfl (z := 0) (pc' := 8) ?_
    refine sistoreN X0 hx (hb hby d16_8) rfl rfl (l' := #[.val (.ref b), .val (.ref d), .val (.int (0 : Int32))]) (pc' := 9) ?_
    have hnm9 : n = o := own_ofInj PB.small PD.small hc4
    have lp9 : ∀ (kF : Nat) (i : Int32) (T : State) (locs : List Loc) (X : Stand p l e ({ frames := 0, cells := 0, slots := 0, locals := 0 } : Room) s m #[(.ref b), (.ref d)] below meth c T locs 0 0) (eT : T.heap = h0) (N : Fr n0 locs) (hm : (n - i.toInt.toNat) < kF) (hi : 0 ≤ i.toInt ∧ i.toInt ≤ n ∧ ∀ j : Nat, (j : Int) < i.toInt → f j = g j), oGl p e below (T.setTop (mkF m 9 #[.val (.ref b), .val (.ref d), .val (.int i)] [])) (oFin s below (Q_rmLEq Z b d n o f g h0 n0) ({ frames := 0, cells := 0, slots := 0, locals := 0 } : Room).cells ({ frames := 0, cells := 0, slots := 0, locals := 0 } : Room).slots) := by
      intro kF
      induction kF with
      | zero => intro i T locs X eT N hm hi; exact absurd hm (Nat.not_lt_zero _)
      | succ kF ih =>
        intro i T locs X eT N hm hi
        refine siloadN X hx (hb hby d16_9) rfl rfl (pc' := 10) ?_
        refine saloadN X hx (hb hby d16_10) rfl rfl rfl (pc' := 11) ?_
        refine oOn (PB.len X hx hZ eT (g := (mkF m 11 #[.val (.ref b), .val (.ref d), .val (.int i)] [(.ref b), (.int i)])) rfl rfl (hb hby d16_11)) ?_
        show oGl p e below (T.setTop (mkF m 12 #[.val (.ref b), .val (.ref d), .val (.int i)] [(.int (Int32.ofNat n)), (.int i)])) _
        by_cases hc12 : i < (Int32.ofNat n)
        · skip
          refine sicN X hx (hb hby d16_12) rfl (tlt hc12).2.1 (pc' := 15) ?_
          refine saloadN X hx (hb hby d16_15) rfl rfl rfl (pc' := 16) ?_
          refine siloadN X hx (hb hby d16_16) rfl rfl (pc' := 17) ?_
          refine oOn (PB.ldB X hx hZ eT (j := i) (by have hlt := Int32.lt_iff_toInt_lt.mp hc12; rw [own_ofNat PB.small] at hlt; omega) (g := (mkF m 17 #[.val (.ref b), .val (.ref d), .val (.int i)] [(.int i), (.ref b)])) rfl rfl (hb hby d16_17)) ?_
          show oGl p e below (T.setTop (mkF m 18 #[.val (.ref b), .val (.ref d), .val (.int i)] [(.int (f i.toInt.toNat))])) _
          refine saloadN X hx (hb hby d16_18) rfl rfl rfl (pc' := 19) ?_
          refine siloadN X hx (hb hby d16_19) rfl rfl (pc' := 20) ?_
          refine oOn (PD.ldB X hx hZ eT (j := i) (by have hlt := Int32.lt_iff_toInt_lt.mp hc12; rw [own_ofNat PB.small] at hlt; omega) (g := (mkF m 20 #[.val (.ref b), .val (.ref d), .val (.int i)] [(.int i), (.ref d), (.int (f i.toInt.toNat))])) rfl rfl (hb hby d16_20)) ?_
          show oGl p e below (T.setTop (mkF m 21 #[.val (.ref b), .val (.ref d), .val (.int i)] [(.int (g i.toInt.toNat)), (.int (f i.toInt.toNat))])) _
          by_cases hc21 : (f i.toInt.toNat) = (g i.toInt.toNat)
          · skip
            refine sicY X hx (hb hby d16_21) (by decide) (by decide) (teq hc21).1 (pc' := 26) ?_
            refine siinc X hx (hb hby d16_26) rfl rfl rfl (l' := #[.val (.ref b), .val (.ref d), .val (.int (i + (1 : Int32)))]) (pc' := 29) ?_
            refine sgoto X hx (hb hby d16_29) (by decide) (by decide)  (pc' := 9) ?_
            have hlt := Int32.lt_iff_toInt_lt.mp hc12
            rw [own_ofNat PB.small] at hlt
            have hsm := PB.small
            have hi1 := own_incS (x := i) (by omega)
            exact ih (i + (1 : Int32)) _ _ X eT N (by omega) ⟨by omega, by omega, fun j hj => by
              by_cases q : j = i.toInt.toNat
              · subst q; exact hc21
              · exact hi.2.2 j (by omega)⟩
          · skip
            refine sicN X hx (hb hby d16_21) rfl (feq hc21).1 (pc' := 24) ?_
            refine siconst X hx (hb hby d16_24) rfl rfl (z := 0) (pc' := 25) ?_
            have hlt := Int32.lt_iff_toInt_lt.mp hc12
            rw [own_ofNat PB.small] at hlt
            refine oRetN (t := .boolean) X hx Bd.notSynchronized Bd.returns (by simp) (hb hby d16_25) (by decide) (by decide) ?_
            show Q_rmLEq Z b d n o f g h0 n0 _ T.heap _
            rw [eT]
            exact ⟨0, rfl, N, rfl, Or.inr ⟨rfl, fun q => hc21 (q.2 _ (by omega))⟩⟩
        · skip
          refine sicY X hx (hb hby d16_12) (by decide) (by decide) (flt hc12).2.1 (pc' := 32) ?_
          refine siconst X hx (hb hby d16_32) rfl rfl (z := 1) (pc' := 33) ?_
          have hge : ¬ i.toInt < (Int32.ofNat n).toInt := fun q => hc12 (Int32.lt_iff_toInt_lt.mpr q)
          rw [own_ofNat PB.small] at hge
          refine oRetN (t := .boolean) X hx Bd.notSynchronized Bd.returns (by simp) (hb hby d16_33) (by decide) (by decide) ?_
          show Q_rmLEq Z b d n o f g h0 n0 _ T.heap _
          rw [eT]
          exact ⟨1, rfl, N, rfl, Or.inl ⟨rfl, hnm9, fun j hj => hi.2.2 j (by omega)⟩⟩
    exact lp9 _ 0 _ _ X0 e0 N0 (Nat.lt_succ_self _) ⟨by decide, by have e0 : (0 : Int32).toInt = 0 := rfl; omega, fun j hj => by have e0 : (0 : Int32).toInt = 0 := rfl; omega⟩
  · skip
    refine sicY X0 hx (hb hby d16_4) (by decide) (by decide) (feq hc4).2 (pc' := 34) ?_
    refine siconst X0 hx (hb hby d16_34) rfl rfl (z := 0) (pc' := 35) ?_
    refine oRetN (t := .boolean) X0 hx Bd.notSynchronized Bd.returns (by simp) (hb hby d16_35) (by decide) (by decide) ?_
    show Q_rmLEq Z b d n o f g h0 n0 _ s₁.heap _
    rw [e0]
    exact ⟨0, rfl, N0, rfl, Or.inr ⟨rfl, fun q => hc4 (by rw [q.1])⟩⟩
theorem d12_0 : decode jdk_42_method_66_code 0 = .ok (.aload_n 0, 1) := by decide +kernel
theorem d12_1 : decode jdk_42_method_66_code 1 = .ok (.aload_n 1, 1) := by decide +kernel
theorem d12_2 : decode jdk_42_method_66_code 2 = .ok (.if_acmp .ne 5, 3) := by decide +kernel
theorem d12_5 : decode jdk_42_method_66_code 5 = .ok (.iconst 1, 1) := by decide +kernel
theorem d12_6 : decode jdk_42_method_66_code 6 = .ok (.ireturn, 1) := by decide +kernel
theorem d12_7 : decode jdk_42_method_66_code 7 = .ok (.aload_n 1, 1) := by decide +kernel
theorem d12_8 : decode jdk_42_method_66_code 8 = .ok (.instanceof 10, 3) := by decide +kernel
theorem d12_11 : decode jdk_42_method_66_code 11 = .ok (.ifCond .eq 43, 3) := by decide +kernel
theorem d12_14 : decode jdk_42_method_66_code 14 = .ok (.aload_n 1, 1) := by decide +kernel
theorem d12_15 : decode jdk_42_method_66_code 15 = .ok (.checkcast 10, 3) := by decide +kernel
theorem d12_18 : decode jdk_42_method_66_code 18 = .ok (.astore_n 2, 1) := by decide +kernel
theorem d12_19 : decode jdk_42_method_66_code 19 = .ok (.getstatic 38, 3) := by decide +kernel
theorem d12_22 : decode jdk_42_method_66_code 22 = .ok (.ifCond .eq 14, 3) := by decide +kernel
theorem d12_25 : decode jdk_42_method_66_code 25 = .ok (.aload_n 0, 1) := by decide +kernel
theorem d12_26 : decode jdk_42_method_66_code 26 = .ok (.getfield 15, 3) := by decide +kernel
theorem d12_29 : decode jdk_42_method_66_code 29 = .ok (.aload_n 2, 1) := by decide +kernel
theorem d12_30 : decode jdk_42_method_66_code 30 = .ok (.getfield 15, 3) := by decide +kernel
theorem d12_33 : decode jdk_42_method_66_code 33 = .ok (.if_icmp .ne 21, 3) := by decide +kernel
theorem d12_36 : decode jdk_42_method_66_code 36 = .ok (.aload_n 0, 1) := by decide +kernel
theorem d12_37 : decode jdk_42_method_66_code 37 = .ok (.getfield 9, 3) := by decide +kernel
theorem d12_40 : decode jdk_42_method_66_code 40 = .ok (.aload_n 2, 1) := by decide +kernel
theorem d12_41 : decode jdk_42_method_66_code 41 = .ok (.getfield 9, 3) := by decide +kernel
theorem d12_44 : decode jdk_42_method_66_code 44 = .ok (.invokestatic 541, 3) := by decide +kernel
theorem pd_9 : parseMethodDescriptor "([B[B)Z" = some ⟨[(.array .byte), (.array .byte)], some .boolean⟩ := by decide +kernel
theorem d12_47 : decode jdk_42_method_66_code 47 = .ok (.ifCond .eq 7, 3) := by decide +kernel
theorem d12_54 : decode jdk_42_method_66_code 54 = .ok (.iconst 0, 1) := by decide +kernel
theorem d12_55 : decode jdk_42_method_66_code 55 = .ok (.ireturn, 1) := by decide +kernel
theorem d12_50 : decode jdk_42_method_66_code 50 = .ok (.iconst 1, 1) := by decide +kernel
theorem d12_51 : decode jdk_42_method_66_code 51 = .ok (.goto 4, 3) := by decide +kernel
theorem ef_rmSEq (m : MethodId) (x0 : Nat) (x1 : Nat)  : entryFrame m #[(.ref x0), (.ref x1)] 3 = mkF m 0 #[.val (.ref x0), .val (.ref x1), .unset] [] := by first | (simp [entryFrame, mkF, argsToLocals, Value.category, maxLocals]; done) | rfl
def Q_rmSEq (Z : State) (x y b d n o : Nat) (f g : Nat → Int32) (cz : Int32) (h0 : Heap) (n0 : Nat) (vv : Option Value) (h : Heap) (L : List Loc) : Prop := ∃ r : Int32, vv = some (.int r) ∧ Fr n0 L ∧ h = h0 ∧ ((r = 1 ∧ (n = o ∧ ∀ j : Nat, j < n → f j = g j)) ∨ (r = 0 ∧ ¬ (n = o ∧ ∀ j : Nat, j < n → f j = g j)))
set_option maxRecDepth 65536 in
set_option maxHeartbeats 40000000 in
theorem rmSEq (l : Launch) (Z : State) (a0 : Array Value) (hw : ∀ d ∈ tables_1, d.before a0 Z = true) (ws : List Jvm.Cond) (x y b d n o : Nat) (f g : Nat → Int32) (cz : Int32) (h0 : Heap) (n0 : Nat) (Z0 : n0 ≤ h0.size) (O0 : Old Z n0 h0) (SCS : Sta Z Z.heap "java/lang/String" "COMPACT_STRINGS" "Z" (.int cz)) (hcz : ¬ cz = (0 : Int32)) (E1 : Exa Z h0 x "java/lang/String") (F1 : Fld Z h0 x "java/lang/String" "value" "[B" (.ref b)) (C1 : Fld Z h0 x "java/lang/String" "coder" "B" (.int 0)) (PB : oAI Z h0 b .byte n f) (G0 : Exa Z h0 y "java/lang/String") (G1 : Fld Z h0 y "java/lang/String" "value" "[B" (.ref d)) (K1 : Fld Z h0 y "java/lang/String" "coder" "B" (.int 0)) (PD : oAI Z h0 d .byte o g) :
    MetFree l (⟨"java/lang/String", "equals", "(Ljava/lang/Object;)Z"⟩ : MethodName) (head1 (Jvm.Cond.code (⟨"java/lang/String", "equals", "(Ljava/lang/Object;)Z"⟩ : MethodName) jdk_42_method_66_code 3 (some .boolean) :: ws) ({ frames := 1, cells := 0, slots := 0, locals := 14 } : Room)) (fun aA uU => aA = #[(.ref x), (.ref y)] ∧ Z.Warmed39 uU.vm ∧ uU.heap = h0) (fun _ _ _ _ _ => True) (fun _ uU oO uU' => ∃ vV lL, oO = .returned vV ∧ Q_rmSEq Z x y b d n o f g cz h0 n0 vV uU'.heap lL ∧ FrameEnd uU oO uU' lL ({ frames := 1, cells := 0, slots := 0, locals := 14 } : Room).cells ({ frames := 1, cells := 0, slots := 0, locals := 14 } : Room).slots) := by
  refine MetFree.of_bodySF (plainFor_of_name pn_String) hisR ?_
  intro p e s m args below meth c s₁ Bd hml0 hP hK
  obtain ⟨rfl, hZ, hh⟩ := hP
  have hx := Bd.exec
  have hby := Bd.bytes
  have hml : c.maxLocals = 3 := hml0
  have hown : s.vm.findClass "java/lang/String" = some m.cls := findClass_of_methodNamed Bd.named
  have hnm := (name_of_methodNamed Bd.named Bd.method).1
  have X0 : Stand p l e ({ frames := 1, cells := 0, slots := 0, locals := 14 } : Room) s m #[(.ref x), (.ref y)] below meth c s₁ [] 0 0 := Stand.of_body Bd
  have e0 : s₁.heap = h0 := by rw [← hh, Bd.state]; rfl
  have N0 := Fr.nil n0
  refine oEnter (oCast (ef_rmSEq m x y ) ?_)
  show oGl p e below (s₁.setTop (mkF m 0 #[.val (.ref x), .val (.ref y), .unset] [])) _
  refine saloadN X0 hx (hb hby d12_0) rfl rfl rfl (pc' := 1) ?_
  refine saloadN X0 hx (hb hby d12_1) rfl rfl rfl (pc' := 2) ?_
  by_cases hc2 : x = y
  · skip
    refine oOn (fun _ kK => Jvm.RoadKit.acmp (g := (mkF m 2 #[.val (.ref x), .val (.ref y), .unset] [(.ref y), (.ref x)])) X0 hx rfl rfl rfl (pc0 := 2) (pc' := 5) (same := true) rfl (hb hby d12_2) rfl (decide_eq_true (congrArg Value.ref hc2)) (by decide) (by decide) kK) ?_
    show oGl p e below (s₁.setTop (mkF m 5 #[.val (.ref x), .val (.ref y), .unset] [])) _
    refine siconst X0 hx (hb hby d12_5) rfl rfl (z := 1) (pc' := 6) ?_
    have hv2 : b = d := Value.ref.inj (fld_fun F1 (by rw [hc2]; exact G1))
    have hv3 := oAI_fun PB (by rw [hv2]; exact PD)
    refine oRetN (t := .boolean) X0 hx Bd.notSynchronized Bd.returns (by simp) (hb hby d12_6) (by decide) (by decide) ?_
    show Q_rmSEq Z x y b d n o f g cz h0 n0 _ s₁.heap _
    rw [e0]
    exact ⟨1, rfl, N0, rfl, Or.inl ⟨rfl, hv3⟩⟩
  · skip
    refine oOn (fun _ kK => Jvm.RoadKit.acmp (g := (mkF m 2 #[.val (.ref x), .val (.ref y), .unset] [(.ref y), (.ref x)])) X0 hx rfl rfl rfl (pc0 := 2) (pc' := 7) (same := false) rfl (hb hby d12_2) rfl (decide_eq_false fun q => hc2 (Value.ref.inj q)) (by decide) (by decide) kK) ?_
    show oGl p e below (s₁.setTop (mkF m 7 #[.val (.ref x), .val (.ref y), .unset] [])) _
    refine saloadN X0 hx (hb hby d12_7) rfl rfl rfl (pc' := 8) ?_
    obtain ⟨T1, X1, e1, st1⟩ := instY X0 hx hZ hown (hw _ (List.mem_of_getElem? (i := 96) rfl)) e0 (Ins.self G0) (g := (mkF m 8 #[.val (.ref x), .val (.ref y), .unset] [(.ref y)])) rfl rfl (hb hby d12_8)
    refine oOn st1 ?_
    show oGl p e below (T1.setTop (mkF m 11 #[.val (.ref x), .val (.ref y), .unset] [(.int (1 : Int32))])) _
    refine sifN X1 hx (hb hby d12_11) rfl (feq (by decide : ¬ ((1 : Int32) = (0 : Int32)))).1 (pc' := 14) ?_
    refine saloadN X1 hx (hb hby d12_14) rfl rfl rfl (pc' := 15) ?_
    obtain ⟨T2, X2, e2, st2⟩ := castY X1 hx hZ hown (hw _ (List.mem_of_getElem? (i := 96) rfl)) e1 (Ins.self G0) (g := (mkF m 15 #[.val (.ref x), .val (.ref y), .unset] [(.ref y)])) rfl rfl (hb hby d12_15)
    refine oOn st2 ?_
    show oGl p e below (T2.setTop (mkF m 18 #[.val (.ref x), .val (.ref y), .unset] [(.ref y)])) _
    refine sastoreN X2 hx (hb hby d12_18) rfl rfl rfl (l' := #[.val (.ref x), .val (.ref y), .val (.ref y)]) (pc' := 19) ?_
    obtain ⟨T3, X3, e3, st3⟩ := getS2 X2 hx hZ hown (host := "") (Or.inl (hw _ (List.mem_of_getElem? (i := 97) rfl))) Via.refl e2 (SCS.ext O0.2) (g := (mkF m 19 #[.val (.ref x), .val (.ref y), .val (.ref y)] [])) rfl (hb hby d12_19)
    refine oOn st3 ?_
    show oGl p e below (T3.setTop (mkF m 22 #[.val (.ref x), .val (.ref y), .val (.ref y)] [(.int cz)])) _
    refine sifN X3 hx (hb hby d12_22) rfl (feq (hcz : ¬ (cz = (0 : Int32)))).1 (pc' := 25) ?_
    refine saloadN X3 hx (hb hby d12_25) rfl rfl rfl (pc' := 26) ?_
    obtain ⟨T4, X4, e4, st4⟩ := getF X3 hx hZ hown (host := "") (Or.inl (hw _ (List.mem_of_getElem? (i := 25) rfl))) Via.refl e3 C1 (g := (mkF m 26 #[.val (.ref x), .val (.ref y), .val (.ref y)] [(.ref x)])) rfl rfl (hb hby d12_26)
    refine oOn st4 ?_
    show oGl p e below (T4.setTop (mkF m 29 #[.val (.ref x), .val (.ref y), .val (.ref y)] [(.int (0 : Int32))])) _
    refine saloadN X4 hx (hb hby d12_29) rfl rfl rfl (pc' := 30) ?_
    obtain ⟨T5, X5, e5, st5⟩ := getF X4 hx hZ hown (host := "") (Or.inl (hw _ (List.mem_of_getElem? (i := 25) rfl))) Via.refl e4 K1 (g := (mkF m 30 #[.val (.ref x), .val (.ref y), .val (.ref y)] [(.ref y), (.int (0 : Int32))])) rfl rfl (hb hby d12_30)
    refine oOn st5 ?_
    show oGl p e below (T5.setTop (mkF m 33 #[.val (.ref x), .val (.ref y), .val (.ref y)] [(.int (0 : Int32)), (.int (0 : Int32))])) _
    refine sicN X5 hx (hb hby d12_33) rfl (teq (by decide : (0 : Int32) = (0 : Int32))).2 (pc' := 36) ?_
    refine saloadN X5 hx (hb hby d12_36) rfl rfl rfl (pc' := 37) ?_
    obtain ⟨T6, X6, e6, st6⟩ := getF X5 hx hZ hown (host := "") (Or.inl (hw _ (List.mem_of_getElem? (i := 24) rfl))) Via.refl e5 F1 (g := (mkF m 37 #[.val (.ref x), .val (.ref y), .val (.ref y)] [(.ref x)])) rfl rfl (hb hby d12_37)
    refine oOn st6 ?_
    show oGl p e below (T6.setTop (mkF m 40 #[.val (.ref x), .val (.ref y), .val (.ref y)] [(.ref b)])) _
    refine saloadN X6 hx (hb hby d12_40) rfl rfl rfl (pc' := 41) ?_
    obtain ⟨T7, X7, e7, st7⟩ := getF X6 hx hZ hown (host := "") (Or.inl (hw _ (List.mem_of_getElem? (i := 24) rfl))) Via.refl e6 G1 (g := (mkF m 41 #[.val (.ref x), .val (.ref y), .val (.ref y)] [(.ref y), (.ref b)])) rfl rfl (hb hby d12_41)
    refine oOn st7 ?_
    show oGl p e below (T7.setTop (mkF m 44 #[.val (.ref x), .val (.ref y), .val (.ref y)] [(.ref d), (.ref b)])) _
    have hz8 : n0 ≤ h0.size := by omega
    obtain ⟨_, _, ⟨T8, L8, k8, n8⟩, -, X8, ⟨Lc8, hQ8, l8, y8, z8⟩, st8⟩ := Jvm.LawKit.callS X7 hx (y := (⟨"java/lang/StringLatin1", "equals", "([B[B)Z"⟩ : MethodName)) hown (mvT hZ (hw _ (List.mem_of_getElem? (i := 98) rfl))) (mvT hZ (hw _ (List.mem_of_getElem? (i := 99) rfl))) (mvT hZ (hw _ (List.mem_of_getElem? (i := 100) rfl))) (mvT hZ (hw _ (List.mem_of_getElem? (i := 101) rfl))) (by decide) (backOf (W := 0) (rmLEq l Z a0 hw [] b d n o f g h0 n0 hz8 PB PD) hZ (hw _ (List.mem_of_getElem? (i := 101) rfl)) (hw _ (List.mem_of_getElem? (i := 100) rfl)) (by decide) (by decide)) (g := (mkF m 44 #[.val (.ref x), .val (.ref y), .val (.ref y)] [(.ref d), (.ref b)])) rfl (by rw [hml]; rfl) (argsL := [(.ref b), (.ref d)]) (rest := []) (lenOf pd_9 rfl) rfl (by show 2 * 0 + _ ≤ _; exact Nat.le_of_eq rfl) (hb hby d12_44) (fun _ _ => ⟨rfl, e7, (by decide : 0 + 0 ≤ _), (by decide : 0 + 0 ≤ _)⟩)
    dsimp only [Pt.U, Pt.locs, Pt.cells, Pt.slots] at X8 l8 y8 z8 st8 hQ8
    subst l8 y8 z8
    obtain ⟨r8, rfl, N8q, eh8, pq8⟩ := hQ8
    have N8 := Fr.app N0 N8q
    refine oOn st8 ?_
    show oGl p e below (T8.setTop (mkF m 47 #[.val (.ref x), .val (.ref y), .val (.ref y)] [(.int r8)])) _
    by_cases hc47 : r8 = (0 : Int32)
    · skip
      refine sifY X8 hx (hb hby d12_47) (by decide) (by decide) (teq hc47).1 (pc' := 54) ?_
      refine siconst X8 hx (hb hby d12_54) rfl rfl (z := 0) (pc' := 55) ?_
      refine oRetN (t := .boolean) X8 hx Bd.notSynchronized Bd.returns (by simp) (hb hby d12_55) (by decide) (by decide) ?_
      show Q_rmSEq Z x y b d n o f g cz h0 n0 _ T8.heap _
      rw [eh8]
      exact ⟨0, rfl, N8, rfl, Or.inr ⟨rfl, (pq8.resolve_left (fun q => absurd (hc47.symm.trans q.1) (by decide))).2⟩⟩
    · skip
      refine sifN X8 hx (hb hby d12_47) rfl (feq hc47).1 (pc' := 50) ?_
      refine siconst X8 hx (hb hby d12_50) rfl rfl (z := 1) (pc' := 51) ?_
      refine sgoto X8 hx (hb hby d12_51) (by decide) (by decide)  (pc' := 55) ?_
      refine oRetN (t := .boolean) X8 hx Bd.notSynchronized Bd.returns (by simp) (hb hby d12_55) (by decide) (by decide) ?_
      show Q_rmSEq Z x y b d n o f g cz h0 n0 _ T8.heap _
      rw [eh8]
      exact ⟨1, rfl, N8, rfl, Or.inl ⟨rfl, (pq8.resolve_right (fun q => hc47 q.1)).2⟩⟩
theorem d8_0 : decode jdk_31_method_11_code 0 = .ok (.aload_n 0, 1) := by decide +kernel
theorem d8_1 : decode jdk_31_method_11_code 1 = .ok (.ifnonnull 12, 3) := by decide +kernel
theorem d8_13 : decode jdk_31_method_11_code 13 = .ok (.aload_n 0, 1) := by decide +kernel
theorem d8_14 : decode jdk_31_method_11_code 14 = .ok (.areturn, 1) := by decide +kernel
theorem pn_Objects : plainName "java/util/Objects" = true := by first | (simp [plainName, overriddenIn]; done) | decide +kernel
theorem ef_rmRq2 (m : MethodId) (x0 : Nat) (x1 : Nat)  : entryFrame m #[(.ref x0), (.ref x1)] 2 = mkF m 0 #[.val (.ref x0), .val (.ref x1)] [] := by first | (simp [entryFrame, mkF, argsToLocals, Value.category, maxLocals]; done) | rfl
def Q_rmRq2 (Z : State) (a b : Nat) (h0 : Heap) (n0 : Nat) (vv : Option Value) (h : Heap) (L : List Loc) : Prop := vv = some (.ref a) ∧ Fr n0 L ∧ h = h0
set_option maxRecDepth 65536 in
set_option maxHeartbeats 40000000 in
theorem rmRq2 (l : Launch) (Z : State) (a0 : Array Value) (hw : ∀ d ∈ tables_1, d.before a0 Z = true) (ws : List Jvm.Cond) (a b : Nat) (h0 : Heap) (n0 : Nat) (Z0 : n0 ≤ h0.size)  :
    MetFree l (⟨"java/util/Objects", "requireNonNull", "(Ljava/lang/Object;Ljava/lang/String;)Ljava/lang/Object;"⟩ : MethodName) (head1 (Jvm.Cond.code (⟨"java/util/Objects", "requireNonNull", "(Ljava/lang/Object;Ljava/lang/String;)Ljava/lang/Object;"⟩ : MethodName) jdk_31_method_11_code 2 (some (.object "java/lang/Object")) :: ws) ({ frames := 0, cells := 0, slots := 0, locals := 0 } : Room)) (fun aA uU => aA = #[(.ref a), (.ref b)] ∧ Z.Warmed39 uU.vm ∧ uU.heap = h0) (fun _ _ _ _ _ => True) (fun _ uU oO uU' => ∃ vV lL, oO = .returned vV ∧ Q_rmRq2 Z a b h0 n0 vV uU'.heap lL ∧ FrameEnd uU oO uU' lL ({ frames := 0, cells := 0, slots := 0, locals := 0 } : Room).cells ({ frames := 0, cells := 0, slots := 0, locals := 0 } : Room).slots) := by
  refine MetFree.of_bodySF (plainFor_of_name pn_Objects) hisR ?_
  intro p e s m args below meth c s₁ Bd hml0 hP hK
  obtain ⟨rfl, hZ, hh⟩ := hP
  have hx := Bd.exec
  have hby := Bd.bytes
  have hml : c.maxLocals = 2 := hml0
  have hown : s.vm.findClass "java/util/Objects" = some m.cls := findClass_of_methodNamed Bd.named
  have hnm := (name_of_methodNamed Bd.named Bd.method).1
  have X0 : Stand p l e ({ frames := 0, cells := 0, slots := 0, locals := 0 } : Room) s m #[(.ref a), (.ref b)] below meth c s₁ [] 0 0 := Stand.of_body Bd
  have e0 : s₁.heap = h0 := by rw [← hh, Bd.state]; rfl
  have N0 := Fr.nil n0
  refine oEnter (oCast (ef_rmRq2 m a b ) ?_)
  show oGl p e below (s₁.setTop (mkF m 0 #[.val (.ref a), .val (.ref b)] [])) _
  refine saloadN X0 hx (hb hby d8_0) rfl rfl rfl (pc' := 1) ?_
  refine sifnonnullY X0 hx (hb hby d8_1) (by decide) (by decide)  (pc' := 13) ?_
  refine saloadN X0 hx (hb hby d8_13) rfl rfl rfl (pc' := 14) ?_
  refine oRetR X0 hx Bd.notSynchronized Bd.returns rfl rfl (hb hby d8_14) (by decide) (by decide) ?_
  show Q_rmRq2 Z a b h0 n0 _ s₁.heap _
  rw [e0]
  exact ⟨rfl, N0, rfl⟩
theorem d10_0 : decode jdk_31_method_10_code 0 = .ok (.aload_n 0, 1) := by decide +kernel
theorem d10_1 : decode jdk_31_method_10_code 1 = .ok (.ifnonnull 11, 3) := by decide +kernel
theorem d10_12 : decode jdk_31_method_10_code 12 = .ok (.aload_n 0, 1) := by decide +kernel
theorem d10_13 : decode jdk_31_method_10_code 13 = .ok (.areturn, 1) := by decide +kernel
theorem ef_rmRq1 (m : MethodId) (x0 : Nat)  : entryFrame m #[(.ref x0)] 1 = mkF m 0 #[.val (.ref x0)] [] := by first | (simp [entryFrame, mkF, argsToLocals, Value.category, maxLocals]; done) | rfl
def Q_rmRq1 (Z : State) (a : Nat) (h0 : Heap) (n0 : Nat) (vv : Option Value) (h : Heap) (L : List Loc) : Prop := vv = some (.ref a) ∧ Fr n0 L ∧ h = h0
set_option maxRecDepth 65536 in
set_option maxHeartbeats 40000000 in
theorem rmRq1 (l : Launch) (Z : State) (a0 : Array Value) (hw : ∀ d ∈ tables_1, d.before a0 Z = true) (ws : List Jvm.Cond) (a : Nat) (h0 : Heap) (n0 : Nat) (Z0 : n0 ≤ h0.size)  :
    MetFree l (⟨"java/util/Objects", "requireNonNull", "(Ljava/lang/Object;)Ljava/lang/Object;"⟩ : MethodName) (head1 (Jvm.Cond.code (⟨"java/util/Objects", "requireNonNull", "(Ljava/lang/Object;)Ljava/lang/Object;"⟩ : MethodName) jdk_31_method_10_code 1 (some (.object "java/lang/Object")) :: ws) ({ frames := 0, cells := 0, slots := 0, locals := 0 } : Room)) (fun aA uU => aA = #[(.ref a)] ∧ Z.Warmed39 uU.vm ∧ uU.heap = h0) (fun _ _ _ _ _ => True) (fun _ uU oO uU' => ∃ vV lL, oO = .returned vV ∧ Q_rmRq1 Z a h0 n0 vV uU'.heap lL ∧ FrameEnd uU oO uU' lL ({ frames := 0, cells := 0, slots := 0, locals := 0 } : Room).cells ({ frames := 0, cells := 0, slots := 0, locals := 0 } : Room).slots) := by
  refine MetFree.of_bodySF (plainFor_of_name pn_Objects) hisR ?_
  intro p e s m args below meth c s₁ Bd hml0 hP hK
  obtain ⟨rfl, hZ, hh⟩ := hP
  have hx := Bd.exec
  have hby := Bd.bytes
  have hml : c.maxLocals = 1 := hml0
  have hown : s.vm.findClass "java/util/Objects" = some m.cls := findClass_of_methodNamed Bd.named
  have hnm := (name_of_methodNamed Bd.named Bd.method).1
  have X0 : Stand p l e ({ frames := 0, cells := 0, slots := 0, locals := 0 } : Room) s m #[(.ref a)] below meth c s₁ [] 0 0 := Stand.of_body Bd
  have e0 : s₁.heap = h0 := by rw [← hh, Bd.state]; rfl
  have N0 := Fr.nil n0
  refine oEnter (oCast (ef_rmRq1 m a ) ?_)
  show oGl p e below (s₁.setTop (mkF m 0 #[.val (.ref a)] [])) _
  refine saloadN X0 hx (hb hby d10_0) rfl rfl rfl (pc' := 1) ?_
  refine sifnonnullY X0 hx (hb hby d10_1) (by decide) (by decide)  (pc' := 12) ?_
  refine saloadN X0 hx (hb hby d10_12) rfl rfl rfl (pc' := 13) ?_
  refine oRetR X0 hx Bd.notSynchronized Bd.returns rfl rfl (hb hby d10_13) (by decide) (by decide) ?_
  show Q_rmRq1 Z a h0 n0 _ s₁.heap _
  rw [e0]
  exact ⟨rfl, N0, rfl⟩
theorem d7_0 : decode prog_11_method_1_code 0 = .ok (.aload_n 0, 1) := by decide +kernel
theorem d7_1 : decode prog_11_method_1_code 1 = .ok (.invokespecial 1, 3) := by decide +kernel
theorem d7_4 : decode prog_11_method_1_code 4 = .ok (.aload_n 0, 1) := by decide +kernel
theorem d7_5 : decode prog_11_method_1_code 5 = .ok (.aload_n 1, 1) := by decide +kernel
theorem d7_6 : decode prog_11_method_1_code 6 = .ok (.ldc 7, 2) := by decide +kernel
theorem d7_8 : decode prog_11_method_1_code 8 = .ok (.invokestatic 9, 3) := by decide +kernel
theorem pd_10 : parseMethodDescriptor "(Ljava/lang/Object;Ljava/lang/String;)Ljava/lang/Object;" = some ⟨[(.object "java/lang/Object"), (.object "java/lang/String")], some (.object "java/lang/Object")⟩ := by decide +kernel
theorem d7_11 : decode prog_11_method_1_code 11 = .ok (.checkcast 15, 3) := by decide +kernel
theorem d7_14 : decode prog_11_method_1_code 14 = .ok (.putfield 17, 3) := by decide +kernel
theorem d7_17 : decode prog_11_method_1_code 17 = .ok (.aload_n 0, 1) := by decide +kernel
theorem d7_18 : decode prog_11_method_1_code 18 = .ok (.aload_n 2, 1) := by decide +kernel
theorem d7_19 : decode prog_11_method_1_code 19 = .ok (.putfield 22, 3) := by decide +kernel
theorem d7_22 : decode prog_11_method_1_code 22 = .ok (.aload_n 0, 1) := by decide +kernel
theorem d7_23 : decode prog_11_method_1_code 23 = .ok (.aload_n 3, 1) := by decide +kernel
theorem d7_24 : decode prog_11_method_1_code 24 = .ok (.putfield 26, 3) := by decide +kernel
theorem d7_27 : decode prog_11_method_1_code 27 = .ok (.return_, 1) := by decide +kernel
theorem pn_Decision : plainName "com/example/concordat/concordat/core/Decision" = true := by first | (simp [plainName, overriddenIn]; done) | decide +kernel
theorem ef_rmDin (m : MethodId) (x0 : Nat) (x1 : Nat) (x2 : Nat) (x3 : Value) (hx3 : x3.isRef = true) : entryFrame m #[(.ref x0), (.ref x1), (.ref x2), x3] 4 = mkF m 0 #[.val (.ref x0), .val (.ref x1), .val (.ref x2), .val x3] [] := by rcases ref_cases hx3 with rfl | ⟨_, rfl⟩ <;> rfl
def Q_rmDin (Z : State) (v t oo : Nat) (rs : Value) (h0 : Heap) (n0 : Nat) (vv : Option Value) (h : Heap) (L : List Loc) : Prop := vv = none ∧ Fr n0 L ∧ Keep h0 h [v] ∧ Old Z n0 h ∧ Exa Z h v "com/example/concordat/concordat/core/Decision" ∧ Fld Z h v "com/example/concordat/concordat/core/Decision" "transactionId" "Ljava/lang/String;" (.ref t) ∧ Fld Z h v "com/example/concordat/concordat/core/Decision" "outcome" "Lcom/example/concordat/concordat/core/Outcome;" (.ref oo) ∧ Fld Z h v "com/example/concordat/concordat/core/Decision" "reason" "Lcom/example/concordat/concordat/core/AbortReason;" rs
set_option maxRecDepth 65536 in
set_option maxHeartbeats 40000000 in
theorem rmDin (l : Launch) (Z : State) (a0 : Array Value) (hw : ∀ d ∈ tables_1, d.before a0 Z = true) (ws : List Jvm.Cond) (v t oo : Nat) (rs : Value) (h0 : Heap) (n0 : Nat) (Z0 : n0 ≤ h0.size) (O0 : Old Z n0 h0) (hRs : rs.isRef = true) (E1 : Exa Z h0 t "java/lang/String") (E0 : Exa Z h0 v "com/example/concordat/concordat/core/Decision") (F0 : Fld Z h0 v "com/example/concordat/concordat/core/Decision" "transactionId" "Ljava/lang/String;" .null) (F1 : Fld Z h0 v "com/example/concordat/concordat/core/Decision" "outcome" "Lcom/example/concordat/concordat/core/Outcome;" .null) (F2 : Fld Z h0 v "com/example/concordat/concordat/core/Decision" "reason" "Lcom/example/concordat/concordat/core/AbortReason;" .null) (gv : n0 ≤ v) :
    MetFree l (⟨"com/example/concordat/concordat/core/Decision", "<init>", "(Ljava/lang/String;Lcom/example/concordat/concordat/core/Outcome;Lcom/example/concordat/concordat/core/AbortReason;)V"⟩ : MethodName) (head1 (Jvm.Cond.code (⟨"com/example/concordat/concordat/core/Decision", "<init>", "(Ljava/lang/String;Lcom/example/concordat/concordat/core/Outcome;Lcom/example/concordat/concordat/core/AbortReason;)V"⟩ : MethodName) prog_11_method_1_code 4 (none : Option FieldType) :: ws) ({ frames := 1, cells := 2, slots := 56, locals := 14 } : Room)) (fun aA uU => aA = #[(.ref v), (.ref t), (.ref oo), rs] ∧ Z.Warmed39 uU.vm ∧ uU.heap = h0) (fun _ _ _ _ _ => True) (fun _ uU oO uU' => ∃ vV lL, oO = .returned vV ∧ Q_rmDin Z v t oo rs h0 n0 vV uU'.heap lL ∧ ReturnedEndW uU oO uU' lL ({ frames := 1, cells := 2, slots := 56, locals := 14 } : Room).cells ({ frames := 1, cells := 2, slots := 56, locals := 14 } : Room).slots) := by
  refine MetFree.of_bodySF (plainFor_of_name pn_Decision) hisR ?_
  intro p e s m args below meth c s₁ Bd hml0 hP hK
  obtain ⟨rfl, hZ, hh⟩ := hP
  have hx := Bd.exec
  have hby := Bd.bytes
  have hml : c.maxLocals = 4 := hml0
  have hown : s.vm.findClass "com/example/concordat/concordat/core/Decision" = some m.cls := findClass_of_methodNamed Bd.named
  have hnm := (name_of_methodNamed Bd.named Bd.method).1
  have X0 : Stand p l e ({ frames := 1, cells := 2, slots := 56, locals := 14 } : Room) (s.setVm s.vm) m #[(.ref v), (.ref t), (.ref oo), rs] below meth c s₁ [] 0 0 := Stand.of_body Bd
  have e0 : s₁.heap = h0 := by rw [← hh, Bd.state]; rfl
  have N0 := Fr.nil n0
  have hS : s.Since s.vm 0 := (State.WarmedH.refl s).since 0
  have hk : 0 ≤ h0.size := Nat.zero_le _
  have hZ : Z.Warmed39 (s.setVm s.vm).vm := hZ
  have hown : (s.setVm s.vm).vm.findClass "com/example/concordat/concordat/core/Decision" = some m.cls := hown
  have lV : @LT.lt Nat _ v h0.size := E0.lt
  refine oEnterW (oCast (ef_rmDin m v t oo rs hRs) ?_)
  show oGl p e below (s₁.setTop (mkF m 0 #[.val (.ref v), .val (.ref t), .val (.ref oo), .val rs] [])) _
  refine saloadN X0 hx (hb hby d7_0) rfl rfl rfl (pc' := 1) ?_
  obtain ⟨T1, X1, e1, st1⟩ := initO X0 hx hZ hown (hw _ (List.mem_of_getElem? (i := 45) rfl)) (hw _ (List.mem_of_getElem? (i := 16) rfl)) (hw _ (List.mem_of_getElem? (i := 17) rfl)) e0 (g := (mkF m 1 #[.val (.ref v), .val (.ref t), .val (.ref oo), .val rs] [(.ref v)])) rfl (by rw [hml]; rfl) rfl (hb hby d7_1) (by decide) (W := 0) (by show 2 * 0 + _ ≤ _; exact Nat.le_of_eq rfl) (by decide)
  refine oOn st1 ?_
  show oGl p e below (T1.setTop (mkF m 4 #[.val (.ref v), .val (.ref t), .val (.ref oo), .val rs] [])) _
  refine saloadN X1 hx (hb hby d7_4) rfl rfl rfl (pc' := 5) ?_
  refine saloadN X1 hx (hb hby d7_5) rfl rfl rfl (pc' := 6) ?_
  obtain ⟨a2, T2, h2, k2, X2, e2, E2, hS, hk, hZ, hown, st2⟩ := ldcS X1 hx hZ hown (hw _ (List.mem_of_getElem? (i := 46) rfl)) (own_sa hw) e1 hS (by omega) (g := (mkF m 6 #[.val (.ref v), .val (.ref t), .val (.ref oo), .val rs] [(.ref t), (.ref v)])) rfl (hb hby d7_6) (n := 52) (by decide) (by decide) (by decide) (by decide)
  refine oOn st2 ?_
  have z3 : h0.size ≤ h2.size := E2.1
  show oGl p e below (T2.setTop (mkF m 8 #[.val (.ref v), .val (.ref t), .val (.ref oo), .val rs] [(.ref a2), (.ref t), (.ref v)])) _
  have hz4 : n0 ≤ h2.size := by omega
  obtain ⟨_, _, ⟨T4, L4, k4, n4⟩, -, X4, ⟨Lc4, hQ4, l4, y4, z4⟩, st4⟩ := Jvm.LawKit.callS X2 hx (y := (⟨"java/util/Objects", "requireNonNull", "(Ljava/lang/Object;Ljava/lang/String;)Ljava/lang/Object;"⟩ : MethodName)) hown (mvT hZ (hw _ (List.mem_of_getElem? (i := 47) rfl))) (mvT hZ (hw _ (List.mem_of_getElem? (i := 48) rfl))) (mvT hZ (hw _ (List.mem_of_getElem? (i := 49) rfl))) (mvT hZ (hw _ (List.mem_of_getElem? (i := 50) rfl))) (by decide) (backOf (W := 1) (rmRq2 l Z a0 hw [] t a2 h2 n0 hz4 ) hZ (hw _ (List.mem_of_getElem? (i := 50) rfl)) (hw _ (List.mem_of_getElem? (i := 49) rfl)) (by decide) (by decide)) (g := (mkF m 8 #[.val (.ref v), .val (.ref t), .val (.ref oo), .val rs] [(.ref a2), (.ref t), (.ref v)])) rfl (by rw [hml]; rfl) (argsL := [(.ref t), (.ref a2)]) (rest := [(.ref v)]) (lenOf pd_10 rfl) rfl (by show 2 * 0 + _ ≤ _; exact Nat.le_of_eq rfl) (hb hby d7_8) (fun _ _ => ⟨rfl, e2, (by decide : 2 + 0 ≤ _), (by decide : 56 + 0 ≤ _)⟩)
  dsimp only [Pt.U, Pt.locs, Pt.cells, Pt.slots] at X4 l4 y4 z4 st4 hQ4
  subst l4 y4 z4
  obtain ⟨rfl, N4q, eh4⟩ := hQ4
  have N4 := Fr.app N0 N4q
  refine oOn st4 ?_
  show oGl p e below (T4.setTop (mkF m 11 #[.val (.ref v), .val (.ref t), .val (.ref oo), .val rs] [(.ref t), (.ref v)])) _
  have f6 := (E1.ext E2)
  obtain ⟨T5, X5, e5, st5⟩ := castY X4 hx hZ hown (hw _ (List.mem_of_getElem? (i := 51) rfl)) eh4 (Ins.self f6) (g := (mkF m 11 #[.val (.ref v), .val (.ref t), .val (.ref oo), .val rs] [(.ref t), (.ref v)])) rfl rfl (hb hby d7_11)
  refine oOn st5 ?_
  show oGl p e below (T5.setTop (mkF m 14 #[.val (.ref v), .val (.ref t), .val (.ref oo), .val rs] [(.ref t), (.ref v)])) _
  have f8 := (F0.ext E2)
  have f9 := (E0.ext E2)
  obtain ⟨T7, h7, X7, e7, W7, st7⟩ := putF X5 hx hZ hown (host := "") (Or.inl (hw _ (List.mem_of_getElem? (i := 52) rfl))) Via.refl e5 f8 f9 (Or.inr ⟨(hw _ (List.mem_of_getElem? (i := 53) rfl)), rfl, hnm⟩) (hw _ (List.mem_of_getElem? (i := 38) rfl)) (ty := (.object "java/lang/String")) (by decide) rfl rfl (g := (mkF m 14 #[.val (.ref v), .val (.ref t), .val (.ref oo), .val rs] [(.ref t), (.ref v)])) rfl rfl (hb hby d7_14)
  refine oOn st7 ?_
  have z10 : h2.size ≤ h7.size := Nat.le_of_eq W7.size.symm
  have N7 := Fr.snoc X7 N4 (by omega)
  have f7 := Fld.same W7 f8
  show oGl p e below (T7.setTop (mkF m 17 #[.val (.ref v), .val (.ref t), .val (.ref oo), .val rs] [])) _
  refine saloadN X7 hx (hb hby d7_17) rfl rfl rfl (pc' := 18) ?_
  refine saloadN X7 hx (hb hby d7_18) rfl rfl rfl (pc' := 19) ?_
  have f12 := ((F1.ext E2).other W7 (Or.inr (slot_ne (Or.inr (hw _ (List.mem_of_getElem? (i := 55) rfl))) (Or.inr (hw _ (List.mem_of_getElem? (i := 53) rfl))) (by decide) (t := (.object "com/example/concordat/concordat/core/Outcome")) (t' := (.object "java/lang/String")) (by decide) (by decide))))
  have f13 := (f9.wr W7)
  obtain ⟨T11, h11, X11, e11, W11, st11⟩ := putF X7 hx hZ hown (host := "") (Or.inl (hw _ (List.mem_of_getElem? (i := 54) rfl))) Via.refl e7 f12 f13 (Or.inr ⟨(hw _ (List.mem_of_getElem? (i := 55) rfl)), rfl, hnm⟩) (hw _ (List.mem_of_getElem? (i := 38) rfl)) (ty := (.object "com/example/concordat/concordat/core/Outcome")) (by decide) rfl rfl (g := (mkF m 19 #[.val (.ref v), .val (.ref t), .val (.ref oo), .val rs] [(.ref oo), (.ref v)])) rfl rfl (hb hby d7_19)
  refine oOn st11 ?_
  have z14 : h7.size ≤ h11.size := Nat.le_of_eq W11.size.symm
  have N11 := Fr.snoc X11 N7 (by omega)
  have f11 := Fld.same W11 f12
  show oGl p e below (T11.setTop (mkF m 22 #[.val (.ref v), .val (.ref t), .val (.ref oo), .val rs] [])) _
  refine saloadN X11 hx (hb hby d7_22) rfl rfl rfl (pc' := 23) ?_
  refine saloadN X11 hx (hb hby d7_23) rfl rfl hRs (pc' := 24) ?_
  have f16 := (((F2.ext E2).other W7 (Or.inr (slot_ne (Or.inr (hw _ (List.mem_of_getElem? (i := 57) rfl))) (Or.inr (hw _ (List.mem_of_getElem? (i := 53) rfl))) (by decide) (t := (.object "com/example/concordat/concordat/core/AbortReason")) (t' := (.object "java/lang/String")) (by decide) (by decide)))).other W11 (Or.inr (slot_ne (Or.inr (hw _ (List.mem_of_getElem? (i := 57) rfl))) (Or.inr (hw _ (List.mem_of_getElem? (i := 55) rfl))) (by decide) (t := (.object "com/example/concordat/concordat/core/AbortReason")) (t' := (.object "com/example/concordat/concordat/core/Outcome")) (by decide) (by decide))))
  have f17 := (f13.wr W11)
  obtain ⟨T15, h15, X15, e15, W15, st15⟩ := putF X11 hx hZ hown (host := "") (Or.inl (hw _ (List.mem_of_getElem? (i := 56) rfl))) Via.refl e11 f16 f17 (Or.inr ⟨(hw _ (List.mem_of_getElem? (i := 57) rfl)), rfl, hnm⟩) (hw _ (List.mem_of_getElem? (i := 38) rfl)) (ty := (.object "com/example/concordat/concordat/core/AbortReason")) (by decide) (narrow_ref rfl hRs) (fits_refO rfl hRs) (g := (mkF m 24 #[.val (.ref v), .val (.ref t), .val (.ref oo), .val rs] [rs, (.ref v)])) rfl rfl (hb hby d7_24)
  refine oOn st15 ?_
  have z18 : h11.size ≤ h15.size := Nat.le_of_eq W15.size.symm
  have N15 := Fr.snoc X15 N11 (by omega)
  have f15 := Fld.same W15 f16
  show oGl p e below (T15.setTop (mkF m 27 #[.val (.ref v), .val (.ref t), .val (.ref oo), .val rs] [])) _
  have kp19 : Keep h0 h15 [v] := (((((Keep.refl h0 [v]).ext E2).wr W7 (Or.inl (List.mem_of_getElem? (i := 0) rfl))).wr W11 (Or.inl (List.mem_of_getElem? (i := 0) rfl))).wr W15 (Or.inl (List.mem_of_getElem? (i := 0) rfl)))
  have f20 := ((((O0.ext E2).wr W7 (by omega)).wr W11 (by omega)).wr W15 (by omega))
  have f21 := (f17.wr W15)
  have f22 := ((f7.other W11 (Or.inr (slot_ne (Or.inr (hw _ (List.mem_of_getElem? (i := 53) rfl))) (Or.inr (hw _ (List.mem_of_getElem? (i := 55) rfl))) (by decide) (t := (.object "java/lang/String")) (t' := (.object "com/example/concordat/concordat/core/Outcome")) (by decide) (by decide)))).other W15 (Or.inr (slot_ne (Or.inr (hw _ (List.mem_of_getElem? (i := 53) rfl))) (Or.inr (hw _ (List.mem_of_getElem? (i := 57) rfl))) (by decide) (t := (.object "java/lang/String")) (t' := (.object "com/example/concordat/concordat/core/AbortReason")) (by decide) (by decide))))
  have f23 := (f11.other W15 (Or.inr (slot_ne (Or.inr (hw _ (List.mem_of_getElem? (i := 55) rfl))) (Or.inr (hw _ (List.mem_of_getElem? (i := 57) rfl))) (by decide) (t := (.object "com/example/concordat/concordat/core/Outcome")) (t' := (.object "com/example/concordat/concordat/core/AbortReason")) (by decide) (by decide))))
  refine oRet0W X15 hS (by rw [e15]; omega) hx Bd.notSynchronized Bd.returns (hb hby d7_27) (by decide) (by decide) ?_
  show Q_rmDin Z v t oo rs h0 n0 _ T15.heap _
  rw [e15]
  exact ⟨rfl, N15, kp19, f20, f21, f22, f23, f15⟩
theorem d6_0 : decode prog_11_method_2_code 0 = .ok (.new 18, 3) := by decide +kernel
theorem d6_3 : decode prog_11_method_2_code 3 = .ok (.dup, 1) := by decide +kernel
theorem d6_4 : decode prog_11_method_2_code 4 = .ok (.aload_n 0, 1) := by decide +kernel
theorem d6_5 : decode prog_11_method_2_code 5 = .ok (.getstatic 30, 3) := by decide +kernel
theorem d6_8 : decode prog_11_method_2_code 8 = .ok (.aconst_null, 1) := by decide +kernel
theorem d6_9 : decode prog_11_method_2_code 9 = .ok (.invokespecial 35, 3) := by decide +kernel
theorem pd_11 : parseMethodDescriptor "(Ljava/lang/String;Lcom/example/concordat/concordat/core/Outcome;Lcom/example/concordat/concordat/core/AbortReason;)V" = some ⟨[(.object "java/lang/String"), (.object "com/example/concordat/concordat/core/Outcome"), (.object "com/example/concordat/concordat/core/AbortReason")], none⟩ := by decide +kernel
theorem d6_12 : decode prog_11_method_2_code 12 = .ok (.areturn, 1) := by decide +kernel
theorem ef_rmDco (m : MethodId) (x0 : Nat)  : entryFrame m #[(.ref x0)] 1 = mkF m 0 #[.val (.ref x0)] [] := by first | (simp [entryFrame, mkF, argsToLocals, Value.category, maxLocals]; done) | rfl
def Q_rmDco (Z : State) (t : Nat) (sCONFLICT : Nat) (sCOMMITTED : Nat) (sABORTED : Nat) (sCHECK_FAILED : Nat) (sUNAVAILABLE : Nat) (h0 : Heap) (n0 : Nat) (vv : Option Value) (h : Heap) (L : List Loc) : Prop := ∃ r : Nat, vv = some (.ref r) ∧ Fr n0 L ∧ Keep h0 h [] ∧ Old Z n0 h ∧ Exa Z h r "com/example/concordat/concordat/core/Decision" ∧ Fld Z h r "com/example/concordat/concordat/core/Decision" "transactionId" "Ljava/lang/String;" (.ref t) ∧ Fld Z h r "com/example/concordat/concordat/core/Decision" "outcome" "Lcom/example/concordat/concordat/core/Outcome;" (.ref sCOMMITTED) ∧ Fld Z h r "com/example/concordat/concordat/core/Decision" "reason" "Lcom/example/concordat/concordat/core/AbortReason;" .null
set_option maxRecDepth 65536 in
set_option maxHeartbeats 40000000 in
theorem rmDco (l : Launch) (Z : State) (a0 : Array Value) (hw : ∀ d ∈ tables_1, d.before a0 Z = true) (ws : List Jvm.Cond) (t : Nat) (sCONFLICT : Nat) (sCOMMITTED : Nat) (sABORTED : Nat) (sCHECK_FAILED : Nat) (sUNAVAILABLE : Nat) (h0 : Heap) (n0 : Nat) (Z0 : n0 ≤ h0.size) (O0 : Old Z n0 h0) (SsCONFLICT : Sta Z Z.heap "com/example/concordat/concordat/core/AbortReason" "CONFLICT" "Lcom/example/concordat/concordat/core/AbortReason;" (.ref sCONFLICT)) (EsCONFLICT : Exa Z Z.heap sCONFLICT "com/example/concordat/concordat/core/AbortReason") (SsCOMMITTED : Sta Z Z.heap "com/example/concordat/concordat/core/Outcome" "COMMITTED" "Lcom/example/concordat/concordat/core/Outcome;" (.ref sCOMMITTED)) (EsCOMMITTED : Exa Z Z.heap sCOMMITTED "com/example/concordat/concordat/core/Outcome") (FsCOMMITTED : Fld Z Z.heap sCOMMITTED "java/lang/Enum" "ordinal" "I" (.int 0)) (SsABORTED : Sta Z Z.heap "com/example/concordat/concordat/core/Outcome" "ABORTED" "Lcom/example/concordat/concordat/core/Outcome;" (.ref sABORTED)) (EsABORTED : Exa Z Z.heap sABORTED "com/example/concordat/concordat/core/Outcome") (FsABORTED : Fld Z Z.heap sABORTED "java/lang/Enum" "ordinal" "I" (.int 1)) (SsCHECK_FAILED : Sta Z Z.heap "com/example/concordat/concordat/core/AbortReason" "CHECK_FAILED" "Lcom/example/concordat/concordat/core/AbortReason;" (.ref sCHECK_FAILED)) (EsCHECK_FAILED : Exa Z Z.heap sCHECK_FAILED "com/example/concordat/concordat/core/AbortReason") (SsUNAVAILABLE : Sta Z Z.heap "com/example/concordat/concordat/core/AbortReason" "UNAVAILABLE" "Lcom/example/concordat/concordat/core/AbortReason;" (.ref sUNAVAILABLE)) (EsUNAVAILABLE : Exa Z Z.heap sUNAVAILABLE "com/example/concordat/concordat/core/AbortReason") (Et : Exa Z h0 t "java/lang/String") :
    MetFree l (⟨"com/example/concordat/concordat/core/Decision", "committed", "(Ljava/lang/String;)Lcom/example/concordat/concordat/core/Decision;"⟩ : MethodName) (head1 (Jvm.Cond.code (⟨"com/example/concordat/concordat/core/Decision", "committed", "(Ljava/lang/String;)Lcom/example/concordat/concordat/core/Decision;"⟩ : MethodName) prog_11_method_2_code 1 (some (.object "com/example/concordat/concordat/core/Decision")) :: ws) ({ frames := 2, cells := 3, slots := 59, locals := 30 } : Room)) (fun aA uU => aA = #[(.ref t)] ∧ Z.Warmed39 uU.vm ∧ uU.heap = h0) (fun _ _ _ _ _ => True) (fun _ uU oO uU' => ∃ vV lL, oO = .returned vV ∧ Q_rmDco Z t sCONFLICT sCOMMITTED sABORTED sCHECK_FAILED sUNAVAILABLE h0 n0 vV uU'.heap lL ∧ ReturnedEndW uU oO uU' lL ({ frames := 2, cells := 3, slots := 59, locals := 30 } : Room).cells ({ frames := 2, cells := 3, slots := 59, locals := 30 } : Room).slots) := by
  refine MetFree.of_bodySF (plainFor_of_name pn_Decision) hisR ?_
  intro p e s m args below meth c s₁ Bd hml0 hP hK
  obtain ⟨rfl, hZ, hh⟩ := hP
  have hx := Bd.exec
  have hby := Bd.bytes
  have hml : c.maxLocals = 1 := hml0
  have hown : s.vm.findClass "com/example/concordat/concordat/core/Decision" = some m.cls := findClass_of_methodNamed Bd.named
  have hnm := (name_of_methodNamed Bd.named Bd.method).1
  have X0 : Stand p l e ({ frames := 2, cells := 3, slots := 59, locals := 30 } : Room) (s.setVm s.vm) m #[(.ref t)] below meth c s₁ [] 0 0 := Stand.of_body Bd
  have e0 : s₁.heap = h0 := by rw [← hh, Bd.state]; rfl
  have N0 := Fr.nil n0
  have hS : s.Since s.vm 0 := (State.WarmedH.refl s).since 0
  have hk : 0 ≤ h0.size := Nat.zero_le _
  have hZ : Z.Warmed39 (s.setVm s.vm).vm := hZ
  have hown : (s.setVm s.vm).vm.findClass "com/example/concordat/concordat/core/Decision" = some m.cls := hown
  refine oEnterW (oCast (ef_rmDco m t ) ?_)
  show oGl p e below (s₁.setTop (mkF m 0 #[.val (.ref t)] [])) _
  obtain ⟨T1, h1, X1, e1, E1, A1, D1, -, st1⟩ := newO X0 hx hZ hown (hw _ (List.mem_of_getElem? (i := 37) rfl)) (hw _ (List.mem_of_getElem? (i := 38) rfl)) (hw _ (List.mem_of_getElem? (i := 35) rfl)) e0 (g := (mkF m 0 #[.val (.ref t)] [])) rfl (hb hby d6_0) (by decide) (by decide)
  obtain ⟨a1, g1⟩ : ∃ z, z = h0.size := ⟨_, rfl⟩
  rw [← g1] at A1 D1 st1
  refine oOn st1 ?_
  have z2 : h0.size ≤ h1.size := E1.1
  have lt1 : a1 < h1.size := A1.lt
  have f1_53 : Fld Z h1 a1 "com/example/concordat/concordat/core/Decision" "transactionId" "Ljava/lang/String;" .null := D1 (Or.inr (hw _ (List.mem_of_getElem? (i := 53) rfl))) (ty := (.object "java/lang/String")) (by decide)
  have f1_55 : Fld Z h1 a1 "com/example/concordat/concordat/core/Decision" "outcome" "Lcom/example/concordat/concordat/core/Outcome;" .null := D1 (Or.inr (hw _ (List.mem_of_getElem? (i := 55) rfl))) (ty := (.object "com/example/concordat/concordat/core/Outcome")) (by decide)
  have f1_57 : Fld Z h1 a1 "com/example/concordat/concordat/core/Decision" "reason" "Lcom/example/concordat/concordat/core/AbortReason;" .null := D1 (Or.inr (hw _ (List.mem_of_getElem? (i := 57) rfl))) (ty := (.object "com/example/concordat/concordat/core/AbortReason")) (by decide)
  show oGl p e below (T1.setTop (mkF m 3 #[.val (.ref t)] [(.ref a1)])) _
  refine sdup X1 hx (hb hby d6_3) rfl rfl (pc' := 4) ?_
  refine saloadN X1 hx (hb hby d6_4) rfl rfl rfl (pc' := 5) ?_
  have f3 := (O0.ext E1)
  obtain ⟨T4, X4, e4, st4⟩ := getS2 X1 hx hZ hown (host := "") (Or.inl (hw _ (List.mem_of_getElem? (i := 39) rfl))) Via.refl e1 (SsCOMMITTED.ext f3.2) (g := (mkF m 5 #[.val (.ref t)] [(.ref t), (.ref a1), (.ref a1)])) rfl (hb hby d6_5)
  refine oOn st4 ?_
  show oGl p e below (T4.setTop (mkF m 8 #[.val (.ref t)] [(.ref sCOMMITTED), (.ref t), (.ref a1), (.ref a1)])) _
  refine saconst_null X4 hx (hb hby d6_8) rfl  (pc' := 9) ?_
  have f5 := (Et.ext E1)
  have hz6 : n0 ≤ h1.size := by omega
  obtain ⟨_, _, ⟨T6, L6, k6, n6⟩, -, X6, hS2, hg2, ⟨Lc6, hQ6, l6, y6, z6⟩, st6⟩ := X4.specialBackS hx (y := (⟨"com/example/concordat/concordat/core/Decision", "<init>", "(Ljava/lang/String;Lcom/example/concordat/concordat/core/Outcome;Lcom/example/concordat/concordat/core/AbortReason;)V"⟩ : MethodName)) rfl hown (mvT hZ (hw _ (List.mem_of_getElem? (i := 42) rfl))) (mvT hZ (hw _ (List.mem_of_getElem? (i := 43) rfl))) (mvT hZ (hw _ (List.mem_of_getElem? (i := 44) rfl))) (by decide) (backOfS (W := 1) (rmDin l Z a0 hw [] a1 t sCOMMITTED .null h1 n0 hz6 f3 rfl f5 A1 f1_53 f1_55 f1_57 (by omega)) hZ (hw _ (List.mem_of_getElem? (i := 44) rfl)) (hw _ (List.mem_of_getElem? (i := 35) rfl)) (by decide) (by decide)) (g := (mkF m 9 #[.val (.ref t)] [.null, (.ref sCOMMITTED), (.ref t), (.ref a1), (.ref a1)])) rfl (by rw [hml]; rfl) (Steps.refl _) (a := a1) (argsL := [(.ref t), (.ref sCOMMITTED), .null]) (rest := [(.ref a1)]) (lenOf pd_11 rfl) rfl (by show 2 * 0 + _ ≤ _; exact Nat.le_of_eq rfl) (hb hby d6_9) (fun _ _ => ⟨rfl, e4, (by decide : 1 + 2 ≤ _), (by decide : 3 + 56 ≤ _)⟩)
  dsimp only [Pt.U, Pt.locs, Pt.cells, Pt.slots] at X6 l6 y6 z6 st6 hQ6 hS2 hg2
  subst l6 y6 z6
  obtain ⟨X6, hS, hZ, hown⟩ := rebS hS (n1 := T4.heap.size) (by rw [e4]; omega) X6 hS2 hg2 hZ hown
  have hk : T6.heap.size ≤ T6.heap.size := Nat.le_refl _
  obtain ⟨rfl, N6q, K6, Oo6, Ei6, Fa6, Fb6, Fc6⟩ := hQ6
  have N6 := Fr.app N0 N6q
  have z7 : h1.size ≤ T6.heap.size := K6.1
  refine oSt st6 ?_
  show oGl p e below (T6.setTop (mkF m 12 #[.val (.ref t)] [(.ref a1)])) _
  have kp8 : Keep h0 T6.heap [] := (((Keep.refl h0 []).ext E1).trans K6 (allS (Or.inr (by omega)) all0))
  refine oRetRW X6 hS (by omega) hx Bd.notSynchronized Bd.returns rfl rfl (hb hby d6_12) (by decide) (by decide) ?_
  show Q_rmDco Z t sCONFLICT sCOMMITTED sABORTED sCHECK_FAILED sUNAVAILABLE h0 n0 _ T6.heap _
  exact ⟨a1, rfl, N6, kp8, Oo6, Ei6, Fa6, Fb6, Fc6⟩
theorem d9_0 : decode prog_11_method_3_code 0 = .ok (.new 18, 3) := by decide +kernel
theorem d9_3 : decode prog_11_method_3_code 3 = .ok (.dup, 1) := by decide +kernel
theorem d9_4 : decode prog_11_method_3_code 4 = .ok (.aload_n 0, 1) := by decide +kernel
theorem d9_5 : decode prog_11_method_3_code 5 = .ok (.getstatic 38, 3) := by decide +kernel
theorem d9_8 : decode prog_11_method_3_code 8 = .ok (.aload_n 1, 1) := by decide +kernel
theorem d9_9 : decode prog_11_method_3_code 9 = .ok (.invokestatic 41, 3) := by decide +kernel
theorem pd_12 : parseMethodDescriptor "(Ljava/lang/Object;)Ljava/lang/Object;" = some ⟨[(.object "java/lang/Object")], some (.object "java/lang/Object")⟩ := by decide +kernel
theorem d9_12 : decode prog_11_method_3_code 12 = .ok (.checkcast 44, 3) := by decide +kernel
theorem d9_15 : decode prog_11_method_3_code 15 = .ok (.invokespecial 35, 3) := by decide +kernel
theorem d9_18 : decode prog_11_method_3_code 18 = .ok (.areturn, 1) := by decide +kernel
theorem ef_rmDab (m : MethodId) (x0 : Nat) (x1 : Nat)  : entryFrame m #[(.ref x0), (.ref x1)] 2 = mkF m 0 #[.val (.ref x0), .val (.ref x1)] [] := by first | (simp [entryFrame, mkF, argsToLocals, Value.category, maxLocals]; done) | rfl
def Q_rmDab (Z : State) (t ar : Nat) (sCONFLICT : Nat) (sCOMMITTED : Nat) (sABORTED : Nat) (sCHECK_FAILED : Nat) (sUNAVAILABLE : Nat) (h0 : Heap) (n0 : Nat) (vv : Option Value) (h : Heap) (L : List Loc) : Prop := ∃ r : Nat, vv = some (.ref r) ∧ Fr n0 L ∧ Keep h0 h [] ∧ Old Z n0 h ∧ Exa Z h r "com/example/concordat/concordat/core/Decision" ∧ Fld Z h r "com/example/concordat/concordat/core/Decision" "transactionId" "Ljava/lang/String;" (.ref t) ∧ Fld Z h r "com/example/concordat/concordat/core/Decision" "outcome" "Lcom/example/concordat/concordat/core/Outcome;" (.ref sABORTED) ∧ Fld Z h r "com/example/concordat/concordat/core/Decision" "reason" "Lcom/example/concordat/concordat/core/AbortReason;" (.ref ar)
set_option maxRecDepth 65536 in
set_option maxHeartbeats 40000000 in
theorem rmDab (l : Launch) (Z : State) (a0 : Array Value) (hw : ∀ d ∈ tables_1, d.before a0 Z = true) (ws : List Jvm.Cond) (t ar : Nat) (sCONFLICT : Nat) (sCOMMITTED : Nat) (sABORTED : Nat) (sCHECK_FAILED : Nat) (sUNAVAILABLE : Nat) (h0 : Heap) (n0 : Nat) (Z0 : n0 ≤ h0.size) (O0 : Old Z n0 h0) (SsCONFLICT : Sta Z Z.heap "com/example/concordat/concordat/core/AbortReason" "CONFLICT" "Lcom/example/concordat/concordat/core/AbortReason;" (.ref sCONFLICT)) (EsCONFLICT : Exa Z Z.heap sCONFLICT "com/example/concordat/concordat/core/AbortReason") (SsCOMMITTED : Sta Z Z.heap "com/example/concordat/concordat/core/Outcome" "COMMITTED" "Lcom/example/concordat/concordat/core/Outcome;" (.ref sCOMMITTED)) (EsCOMMITTED : Exa Z Z.heap sCOMMITTED "com/example/concordat/concordat/core/Outcome") (FsCOMMITTED : Fld Z Z.heap sCOMMITTED "java/lang/Enum" "ordinal" "I" (.int 0)) (SsABORTED : Sta Z Z.heap "com/example/concordat/concordat/core/Outcome" "ABORTED" "Lcom/example/concordat/concordat/core/Outcome;" (.ref sABORTED)) (EsABORTED : Exa Z Z.heap sABORTED "com/example/concordat/concordat/core/Outcome") (FsABORTED : Fld Z Z.heap sABORTED "java/lang/Enum" "ordinal" "I" (.int 1)) (SsCHECK_FAILED : Sta Z Z.heap "com/example/concordat/concordat/core/AbortReason" "CHECK_FAILED" "Lcom/example/concordat/concordat/core/AbortReason;" (.ref sCHECK_FAILED)) (EsCHECK_FAILED : Exa Z Z.heap sCHECK_FAILED "com/example/concordat/concordat/core/AbortReason") (SsUNAVAILABLE : Sta Z Z.heap "com/example/concordat/concordat/core/AbortReason" "UNAVAILABLE" "Lcom/example/concordat/concordat/core/AbortReason;" (.ref sUNAVAILABLE)) (EsUNAVAILABLE : Exa Z Z.heap sUNAVAILABLE "com/example/concordat/concordat/core/AbortReason") (Et : Exa Z h0 t "java/lang/String") (Ear : Exa Z h0 ar "com/example/concordat/concordat/core/AbortReason") :
    MetFree l (⟨"com/example/concordat/concordat/core/Decision", "aborted", "(Ljava/lang/String;Lcom/example/concordat/concordat/core/AbortReason;)Lcom/example/concordat/concordat/core/Decision;"⟩ : MethodName) (head1 (Jvm.Cond.code (⟨"com/example/concordat/concordat/core/Decision", "aborted", "(Ljava/lang/String;Lcom/example/concordat/concordat/core/AbortReason;)Lcom/example/concordat/concordat/core/Decision;"⟩ : MethodName) prog_11_method_3_code 2 (some (.object "com/example/concordat/concordat/core/Decision")) :: ws) ({ frames := 2, cells := 3, slots := 59, locals := 30 } : Room)) (fun aA uU => aA = #[(.ref t), (.ref ar)] ∧ Z.Warmed39 uU.vm ∧ uU.heap = h0) (fun _ _ _ _ _ => True) (fun _ uU oO uU' => ∃ vV lL, oO = .returned vV ∧ Q_rmDab Z t ar sCONFLICT sCOMMITTED sABORTED sCHECK_FAILED sUNAVAILABLE h0 n0 vV uU'.heap lL ∧ ReturnedEndW uU oO uU' lL ({ frames := 2, cells := 3, slots := 59, locals := 30 } : Room).cells ({ frames := 2, cells := 3, slots := 59, locals := 30 } : Room).slots) := by
  refine MetFree.of_bodySF (plainFor_of_name pn_Decision) hisR ?_
  intro p e s m args below meth c s₁ Bd hml0 hP hK
  obtain ⟨rfl, hZ, hh⟩ := hP
  have hx := Bd.exec
  have hby := Bd.bytes
  have hml : c.maxLocals = 2 := hml0
  have hown : s.vm.findClass "com/example/concordat/concordat/core/Decision" = some m.cls := findClass_of_methodNamed Bd.named
  have hnm := (name_of_methodNamed Bd.named Bd.method).1
  have X0 : Stand p l e ({ frames := 2, cells := 3, slots := 59, locals := 30 } : Room) (s.setVm s.vm) m #[(.ref t), (.ref ar)] below meth c s₁ [] 0 0 := Stand.of_body Bd
  have e0 : s₁.heap = h0 := by rw [← hh, Bd.state]; rfl
  have N0 := Fr.nil n0
  have hS : s.Since s.vm 0 := (State.WarmedH.refl s).since 0
  have hk : 0 ≤ h0.size := Nat.zero_le _
  have hZ : Z.Warmed39 (s.setVm s.vm).vm := hZ
  have hown : (s.setVm s.vm).vm.findClass "com/example/concordat/concordat/core/Decision" = some m.cls := hown
  refine oEnterW (oCast (ef_rmDab m t ar ) ?_)
  show oGl p e below (s₁.setTop (mkF m 0 #[.val (.ref t), .val (.ref ar)] [])) _
  obtain ⟨T1, h1, X1, e1, E1, A1, D1, -, st1⟩ := newO X0 hx hZ hown (hw _ (List.mem_of_getElem? (i := 37) rfl)) (hw _ (List.mem_of_getElem? (i := 38) rfl)) (hw _ (List.mem_of_getElem? (i := 35) rfl)) e0 (g := (mkF m 0 #[.val (.ref t), .val (.ref ar)] [])) rfl (hb hby d9_0) (by decide) (by decide)
  obtain ⟨a1, g1⟩ : ∃ z, z = h0.size := ⟨_, rfl⟩
  rw [← g1] at A1 D1 st1
  refine oOn st1 ?_
  have z2 : h0.size ≤ h1.size := E1.1
  have lt1 : a1 < h1.size := A1.lt
  have f1_53 : Fld Z h1 a1 "com/example/concordat/concordat/core/Decision" "transactionId" "Ljava/lang/String;" .null := D1 (Or.inr (hw _ (List.mem_of_getElem? (i := 53) rfl))) (ty := (.object "java/lang/String")) (by decide)
  have f1_55 : Fld Z h1 a1 "com/example/concordat/concordat/core/Decision" "outcome" "Lcom/example/concordat/concordat/core/Outcome;" .null := D1 (Or.inr (hw _ (List.mem_of_getElem? (i := 55) rfl))) (ty := (.object "com/example/concordat/concordat/core/Outcome")) (by decide)
  have f1_57 : Fld Z h1 a1 "com/example/concordat/concordat/core/Decision" "reason" "Lcom/example/concordat/concordat/core/AbortReason;" .null := D1 (Or.inr (hw _ (List.mem_of_getElem? (i := 57) rfl))) (ty := (.object "com/example/concordat/concordat/core/AbortReason")) (by decide)
  show oGl p e below (T1.setTop (mkF m 3 #[.val (.ref t), .val (.ref ar)] [(.ref a1)])) _
  refine sdup X1 hx (hb hby d9_3) rfl rfl (pc' := 4) ?_
  refine saloadN X1 hx (hb hby d9_4) rfl rfl rfl (pc' := 5) ?_
  have f3 := (O0.ext E1)
  obtain ⟨T4, X4, e4, st4⟩ := getS2 X1 hx hZ hown (host := "") (Or.inl (hw _ (List.mem_of_getElem? (i := 61) rfl))) Via.refl e1 (SsABORTED.ext f3.2) (g := (mkF m 5 #[.val (.ref t), .val (.ref ar)] [(.ref t), (.ref a1), (.ref a1)])) rfl (hb hby d9_5)
  refine oOn st4 ?_
  show oGl p e below (T4.setTop (mkF m 8 #[.val (.ref t), .val (.ref ar)] [(.ref sABORTED), (.ref t), (.ref a1), (.ref a1)])) _
  refine saloadN X4 hx (hb hby d9_8) rfl rfl rfl (pc' := 9) ?_
  have hz5 : n0 ≤ h1.size := by omega
  obtain ⟨_, _, ⟨T5, L5, k5, n5⟩, -, X5, ⟨Lc5, hQ5, l5, y5, z5⟩, st5⟩ := Jvm.LawKit.callS X4 hx (y := (⟨"java/util/Objects", "requireNonNull", "(Ljava/lang/Object;)Ljava/lang/Object;"⟩ : MethodName)) hown (mvT hZ (hw _ (List.mem_of_getElem? (i := 63) rfl))) (mvT hZ (hw _ (List.mem_of_getElem? (i := 64) rfl))) (mvT hZ (hw _ (List.mem_of_getElem? (i := 49) rfl))) (mvT hZ (hw _ (List.mem_of_getElem? (i := 65) rfl))) (by decide) (backOf (W := 4) (rmRq1 l Z a0 hw [] ar h1 n0 hz5 ) hZ (hw _ (List.mem_of_getElem? (i := 65) rfl)) (hw _ (List.mem_of_getElem? (i := 49) rfl)) (by decide) (by decide)) (g := (mkF m 9 #[.val (.ref t), .val (.ref ar)] [(.ref ar), (.ref sABORTED), (.ref t), (.ref a1), (.ref a1)])) rfl (by rw [hml]; rfl) (argsL := [(.ref ar)]) (rest := [(.ref sABORTED), (.ref t), (.ref a1), (.ref a1)]) (lenOf pd_12 rfl) rfl (by show 2 * 0 + _ ≤ _; exact Nat.le_of_eq rfl) (hb hby d9_9) (fun _ _ => ⟨rfl, e4, (by decide : 1 + 0 ≤ _), (by decide : 3 + 0 ≤ _)⟩)
  dsimp only [Pt.U, Pt.locs, Pt.cells, Pt.slots] at X5 l5 y5 z5 st5 hQ5
  subst l5 y5 z5
  obtain ⟨rfl, N5q, eh5⟩ := hQ5
  have N5 := Fr.app N0 N5q
  refine oOn st5 ?_
  show oGl p e below (T5.setTop (mkF m 12 #[.val (.ref t), .val (.ref ar)] [(.ref ar), (.ref sABORTED), (.ref t), (.ref a1), (.ref a1)])) _
  have f7 := (Ear.ext E1)
  obtain ⟨T6, X6, e6, st6⟩ := castY X5 hx hZ hown (hw _ (List.mem_of_getElem? (i := 66) rfl)) eh5 (Ins.self f7) (g := (mkF m 12 #[.val (.ref t), .val (.ref ar)] [(.ref ar), (.ref sABORTED), (.ref t), (.ref a1), (.ref a1)])) rfl rfl (hb hby d9_12)
  refine oOn st6 ?_
  show oGl p e below (T6.setTop (mkF m 15 #[.val (.ref t), .val (.ref ar)] [(.ref ar), (.ref sABORTED), (.ref t), (.ref a1), (.ref a1)])) _
  have f8 := (Et.ext E1)
  have hz9 : n0 ≤ h1.size := by omega
  obtain ⟨_, _, ⟨T9, L9, k9, n9⟩, -, X9, hS2, hg2, ⟨Lc9, hQ9, l9, y9, z9⟩, st9⟩ := X6.specialBackS hx (y := (⟨"com/example/concordat/concordat/core/Decision", "<init>", "(Ljava/lang/String;Lcom/example/concordat/concordat/core/Outcome;Lcom/example/concordat/concordat/core/AbortReason;)V"⟩ : MethodName)) rfl hown (mvT hZ (hw _ (List.mem_of_getElem? (i := 42) rfl))) (mvT hZ (hw _ (List.mem_of_getElem? (i := 43) rfl))) (mvT hZ (hw _ (List.mem_of_getElem? (i := 44) rfl))) (by decide) (backOfS (W := 1) (rmDin l Z a0 hw [] a1 t sABORTED (.ref ar) h1 n0 hz9 f3 rfl f8 A1 f1_53 f1_55 f1_57 (by omega)) hZ (hw _ (List.mem_of_getElem? (i := 44) rfl)) (hw _ (List.mem_of_getElem? (i := 35) rfl)) (by decide) (by decide)) (g := (mkF m 15 #[.val (.ref t), .val (.ref ar)] [(.ref ar), (.ref sABORTED), (.ref t), (.ref a1), (.ref a1)])) rfl (by rw [hml]; rfl) (Steps.refl _) (a := a1) (argsL := [(.ref t), (.ref sABORTED), (.ref ar)]) (rest := [(.ref a1)]) (lenOf pd_11 rfl) rfl (by show 2 * 0 + _ ≤ _; exact Nat.le_of_eq rfl) (hb hby d9_15) (fun _ _ => ⟨rfl, e6, (by decide : 1 + 2 ≤ _), (by decide : 3 + 56 ≤ _)⟩)
  dsimp only [Pt.U, Pt.locs, Pt.cells, Pt.slots] at X9 l9 y9 z9 st9 hQ9 hS2 hg2
  subst l9 y9 z9
  obtain ⟨X9, hS, hZ, hown⟩ := rebS hS (n1 := T6.heap.size) (by rw [e6]; omega) X9 hS2 hg2 hZ hown
  have hk : T9.heap.size ≤ T9.heap.size := Nat.le_refl _
  obtain ⟨rfl, N9q, K9, Oo9, Ei9, Fa9, Fb9, Fc9⟩ := hQ9
  have N9 := Fr.app N5 N9q
  have z10 : h1.size ≤ T9.heap.size := K9.1
  refine oSt st9 ?_
  show oGl p e below (T9.setTop (mkF m 18 #[.val (.ref t), .val (.ref ar)] [(.ref a1)])) _
  have kp11 : Keep h0 T9.heap [] := (((Keep.refl h0 []).ext E1).trans K9 (allS (Or.inr (by omega)) all0))
  refine oRetRW X9 hS (by omega) hx Bd.notSynchronized Bd.returns rfl rfl (hb hby d9_18) (by decide) (by decide) ?_
  show Q_rmDab Z t ar sCONFLICT sCOMMITTED sABORTED sCHECK_FAILED sUNAVAILABLE h0 n0 _ T9.heap _
  exact ⟨a1, rfl, N9, kp11, Oo9, Ei9, Fa9, Fb9, Fc9⟩
theorem d5_0 : decode method_3_code 0 = .ok (.iload_n 0, 1) := by decide +kernel
theorem d5_1 : decode method_3_code 1 = .ok (.ifCond .ne 7, 3) := by decide +kernel
theorem d5_4 : decode method_3_code 4 = .ok (.getstatic 16, 3) := by decide +kernel
theorem d5_7 : decode method_3_code 7 = .ok (.areturn, 1) := by decide +kernel
theorem d5_8 : decode method_3_code 8 = .ok (.iload_n 0, 1) := by decide +kernel
theorem d5_9 : decode method_3_code 9 = .ok (.iconst 1, 1) := by decide +kernel
theorem d5_10 : decode method_3_code 10 = .ok (.if_icmp .ne 7, 3) := by decide +kernel
theorem d5_13 : decode method_3_code 13 = .ok (.getstatic 22, 3) := by decide +kernel
theorem d5_16 : decode method_3_code 16 = .ok (.areturn, 1) := by decide +kernel
theorem d5_17 : decode method_3_code 17 = .ok (.getstatic 25, 3) := by decide +kernel
theorem d5_20 : decode method_3_code 20 = .ok (.areturn, 1) := by decide +kernel
theorem ef_rmPick (m : MethodId) (x0 : Int32)  : entryFrame m #[(.int x0)] 1 = mkF m 0 #[.val (.int x0)] [] := by first | (simp [entryFrame, mkF, argsToLocals, Value.category, maxLocals]; done) | rfl
def Q_rmPick (Z : State) (i : Int32) (sCONFLICT : Nat) (sCOMMITTED : Nat) (sABORTED : Nat) (sCHECK_FAILED : Nat) (sUNAVAILABLE : Nat) (h0 : Heap) (n0 : Nat) (vv : Option Value) (h : Heap) (L : List Loc) : Prop := ∃ r : Nat, vv = some (.ref r) ∧ Fr n0 L ∧ h = h0 ∧ Exa Z h0 r "com/example/concordat/concordat/core/AbortReason"
set_option maxRecDepth 65536 in
set_option maxHeartbeats 40000000 in
theorem rmPick (l : Launch) (Z : State) (a0 : Array Value) (hw : ∀ d ∈ tables_1, d.before a0 Z = true) (ws : List Jvm.Cond) (i : Int32) (sCONFLICT : Nat) (sCOMMITTED : Nat) (sABORTED : Nat) (sCHECK_FAILED : Nat) (sUNAVAILABLE : Nat) (h0 : Heap) (n0 : Nat) (Z0 : n0 ≤ h0.size) (O0 : Old Z n0 h0) (SsCONFLICT : Sta Z Z.heap "com/example/concordat/concordat/core/AbortReason" "CONFLICT" "Lcom/example/concordat/concordat/core/AbortReason;" (.ref sCONFLICT)) (EsCONFLICT : Exa Z Z.heap sCONFLICT "com/example/concordat/concordat/core/AbortReason") (SsCOMMITTED : Sta Z Z.heap "com/example/concordat/concordat/core/Outcome" "COMMITTED" "Lcom/example/concordat/concordat/core/Outcome;" (.ref sCOMMITTED)) (EsCOMMITTED : Exa Z Z.heap sCOMMITTED "com/example/concordat/concordat/core/Outcome") (FsCOMMITTED : Fld Z Z.heap sCOMMITTED "java/lang/Enum" "ordinal" "I" (.int 0)) (SsABORTED : Sta Z Z.heap "com/example/concordat/concordat/core/Outcome" "ABORTED" "Lcom/example/concordat/concordat/core/Outcome;" (.ref sABORTED)) (EsABORTED : Exa Z Z.heap sABORTED "com/example/concordat/concordat/core/Outcome") (FsABORTED : Fld Z Z.heap sABORTED "java/lang/Enum" "ordinal" "I" (.int 1)) (SsCHECK_FAILED : Sta Z Z.heap "com/example/concordat/concordat/core/AbortReason" "CHECK_FAILED" "Lcom/example/concordat/concordat/core/AbortReason;" (.ref sCHECK_FAILED)) (EsCHECK_FAILED : Exa Z Z.heap sCHECK_FAILED "com/example/concordat/concordat/core/AbortReason") (SsUNAVAILABLE : Sta Z Z.heap "com/example/concordat/concordat/core/AbortReason" "UNAVAILABLE" "Lcom/example/concordat/concordat/core/AbortReason;" (.ref sUNAVAILABLE)) (EsUNAVAILABLE : Exa Z Z.heap sUNAVAILABLE "com/example/concordat/concordat/core/AbortReason") :
    MetFree l (⟨"com/example/concordat/concordat/core/DecisionCommittedPinLaw", "pick", "(I)Lcom/example/concordat/concordat/core/AbortReason;"⟩ : MethodName) (head1 (Jvm.Cond.code (⟨"com/example/concordat/concordat/core/DecisionCommittedPinLaw", "pick", "(I)Lcom/example/concordat/concordat/core/AbortReason;"⟩ : MethodName) method_3_code 1 (some (.object "com/example/concordat/concordat/core/AbortReason")) :: ws) ({ frames := 0, cells := 0, slots := 0, locals := 0 } : Room)) (fun aA uU => aA = #[(.int i)] ∧ Z.Warmed39 uU.vm ∧ uU.heap = h0) (fun _ _ _ _ _ => True) (fun _ uU oO uU' => ∃ vV lL, oO = .returned vV ∧ Q_rmPick Z i sCONFLICT sCOMMITTED sABORTED sCHECK_FAILED sUNAVAILABLE h0 n0 vV uU'.heap lL ∧ FrameEnd uU oO uU' lL ({ frames := 0, cells := 0, slots := 0, locals := 0 } : Room).cells ({ frames := 0, cells := 0, slots := 0, locals := 0 } : Room).slots) := by
  refine MetFree.of_bodySF (plainFor_of_name pn_DecisionCommittedPinLaw) hisR ?_
  intro p e s m args below meth c s₁ Bd hml0 hP hK
  obtain ⟨rfl, hZ, hh⟩ := hP
  have hx := Bd.exec
  have hby := Bd.bytes
  have hml : c.maxLocals = 1 := hml0
  have hown : s.vm.findClass "com/example/concordat/concordat/core/DecisionCommittedPinLaw" = some m.cls := findClass_of_methodNamed Bd.named
  have hnm := (name_of_methodNamed Bd.named Bd.method).1
  have X0 : Stand p l e ({ frames := 0, cells := 0, slots := 0, locals := 0 } : Room) s m #[(.int i)] below meth c s₁ [] 0 0 := Stand.of_body Bd
  have e0 : s₁.heap = h0 := by rw [← hh, Bd.state]; rfl
  have N0 := Fr.nil n0
  refine oEnter (oCast (ef_rmPick m i ) ?_)
  show oGl p e below (s₁.setTop (mkF m 0 #[.val (.int i)] [])) _
  refine siloadN X0 hx (hb hby d5_0) rfl rfl (pc' := 1) ?_
  by_cases hc1 : i = (0 : Int32)
  · skip
    refine sifN X0 hx (hb hby d5_1) rfl (teq hc1).2 (pc' := 4) ?_
    obtain ⟨T1, X1, e1, st1⟩ := getS2 X0 hx hZ hown (host := "") (Or.inl (hw _ (List.mem_of_getElem? (i := 30) rfl))) Via.refl e0 (SsCONFLICT.ext O0.2) (g := (mkF m 4 #[.val (.int i)] [])) rfl (hb hby d5_4)
    refine oOn st1 ?_
    show oGl p e below (T1.setTop (mkF m 7 #[.val (.int i)] [(.ref sCONFLICT)])) _
    refine oRetR X1 hx Bd.notSynchronized Bd.returns rfl rfl (hb hby d5_7) (by decide) (by decide) ?_
    show Q_rmPick Z i sCONFLICT sCOMMITTED sABORTED sCHECK_FAILED sUNAVAILABLE h0 n0 _ T1.heap _
    rw [e1]
    exact ⟨_, rfl, N0, rfl, (EsCONFLICT.ext O0.2)⟩
  · skip
    refine sifY X0 hx (hb hby d5_1) (by decide) (by decide) (feq hc1).2 (pc' := 8) ?_
    refine siloadN X0 hx (hb hby d5_8) rfl rfl (pc' := 9) ?_
    refine siconst X0 hx (hb hby d5_9) rfl rfl (z := 1) (pc' := 10) ?_
    by_cases hc10 : i = (1 : Int32)
    · skip
      refine sicN X0 hx (hb hby d5_10) rfl (teq hc10).2 (pc' := 13) ?_
      obtain ⟨T2, X2, e2, st2⟩ := getS2 X0 hx hZ hown (host := "") (Or.inl (hw _ (List.mem_of_getElem? (i := 124) rfl))) Via.refl e0 (SsCHECK_FAILED.ext O0.2) (g := (mkF m 13 #[.val (.int i)] [])) rfl (hb hby d5_13)
      refine oOn st2 ?_
      show oGl p e below (T2.setTop (mkF m 16 #[.val (.int i)] [(.ref sCHECK_FAILED)])) _
      refine oRetR X2 hx Bd.notSynchronized Bd.returns rfl rfl (hb hby d5_16) (by decide) (by decide) ?_
      show Q_rmPick Z i sCONFLICT sCOMMITTED sABORTED sCHECK_FAILED sUNAVAILABLE h0 n0 _ T2.heap _
      rw [e2]
      exact ⟨_, rfl, N0, rfl, (EsCHECK_FAILED.ext O0.2)⟩
    · skip
      refine sicY X0 hx (hb hby d5_10) (by decide) (by decide) (feq hc10).2 (pc' := 17) ?_
      obtain ⟨T3, X3, e3, st3⟩ := getS2 X0 hx hZ hown (host := "") (Or.inl (hw _ (List.mem_of_getElem? (i := 126) rfl))) Via.refl e0 (SsUNAVAILABLE.ext O0.2) (g := (mkF m 17 #[.val (.int i)] [])) rfl (hb hby d5_17)
      refine oOn st3 ?_
      show oGl p e below (T3.setTop (mkF m 20 #[.val (.int i)] [(.ref sUNAVAILABLE)])) _
      refine oRetR X3 hx Bd.notSynchronized Bd.returns rfl rfl (hb hby d5_20) (by decide) (by decide) ?_
      show Q_rmPick Z i sCONFLICT sCOMMITTED sABORTED sCHECK_FAILED sUNAVAILABLE h0 n0 _ T3.heap _
      rw [e3]
      exact ⟨_, rfl, N0, rfl, (EsUNAVAILABLE.ext O0.2)⟩
theorem d11_0 : decode prog_11_method_4_code 0 = .ok (.aload_n 0, 1) := by decide +kernel
theorem d11_1 : decode prog_11_method_4_code 1 = .ok (.getfield 17, 3) := by decide +kernel
theorem d11_4 : decode prog_11_method_4_code 4 = .ok (.areturn, 1) := by decide +kernel
theorem ef_rm_getTransactionId (m : MethodId) (x0 : Nat)  : entryFrame m #[(.ref x0)] 1 = mkF m 0 #[.val (.ref x0)] [] := by first | (simp [entryFrame, mkF, argsToLocals, Value.category, maxLocals]; done) | rfl
def Q_rm_getTransactionId (Z : State) (v : Nat) (z : Nat) (h0 : Heap) (n0 : Nat) (vv : Option Value) (h : Heap) (L : List Loc) : Prop := vv = some (.ref z) ∧ Fr n0 L ∧ h = h0
set_option maxRecDepth 65536 in
set_option maxHeartbeats 40000000 in
theorem rm_getTransactionId (l : Launch) (Z : State) (a0 : Array Value) (hw : ∀ d ∈ tables_1, d.before a0 Z = true) (ws : List Jvm.Cond) (v : Nat) (z : Nat) (h0 : Heap) (n0 : Nat) (Z0 : n0 ≤ h0.size) (F0 : Fld Z h0 v "com/example/concordat/concordat/core/Decision" "transactionId" "Ljava/lang/String;" (.ref z)) :
    MetFree l (⟨"com/example/concordat/concordat/core/Decision", "getTransactionId", "()Ljava/lang/String;"⟩ : MethodName) (head1 (Jvm.Cond.code (⟨"com/example/concordat/concordat/core/Decision", "getTransactionId", "()Ljava/lang/String;"⟩ : MethodName) prog_11_method_4_code 1 (some (.object "java/lang/String")) :: ws) ({ frames := 0, cells := 0, slots := 0, locals := 0 } : Room)) (fun aA uU => aA = #[(.ref v)] ∧ Z.Warmed39 uU.vm ∧ uU.heap = h0) (fun _ _ _ _ _ => True) (fun _ uU oO uU' => ∃ vV lL, oO = .returned vV ∧ Q_rm_getTransactionId Z v z h0 n0 vV uU'.heap lL ∧ FrameEnd uU oO uU' lL ({ frames := 0, cells := 0, slots := 0, locals := 0 } : Room).cells ({ frames := 0, cells := 0, slots := 0, locals := 0 } : Room).slots) := by
  refine MetFree.of_bodySF (plainFor_of_name pn_Decision) hisR ?_
  intro p e s m args below meth c s₁ Bd hml0 hP hK
  obtain ⟨rfl, hZ, hh⟩ := hP
  have hx := Bd.exec
  have hby := Bd.bytes
  have hml : c.maxLocals = 1 := hml0
  have hown : s.vm.findClass "com/example/concordat/concordat/core/Decision" = some m.cls := findClass_of_methodNamed Bd.named
  have hnm := (name_of_methodNamed Bd.named Bd.method).1
  have X0 : Stand p l e ({ frames := 0, cells := 0, slots := 0, locals := 0 } : Room) s m #[(.ref v)] below meth c s₁ [] 0 0 := Stand.of_body Bd
  have e0 : s₁.heap = h0 := by rw [← hh, Bd.state]; rfl
  have N0 := Fr.nil n0
  refine oEnter (oCast (ef_rm_getTransactionId m v ) ?_)
  show oGl p e below (s₁.setTop (mkF m 0 #[.val (.ref v)] [])) _
  refine saloadN X0 hx (hb hby d11_0) rfl rfl rfl (pc' := 1) ?_
  obtain ⟨T1, X1, e1, st1⟩ := getF X0 hx hZ hown (host := "") (Or.inl (hw _ (List.mem_of_getElem? (i := 52) rfl))) Via.refl e0 F0 (g := (mkF m 1 #[.val (.ref v)] [(.ref v)])) rfl rfl (hb hby d11_1)
  refine oOn st1 ?_
  show oGl p e below (T1.setTop (mkF m 4 #[.val (.ref v)] [(.ref z)])) _
  refine oRetR X1 hx Bd.notSynchronized Bd.returns rfl rfl (hb hby d11_4) (by decide) (by decide) ?_
  show Q_rm_getTransactionId Z v z h0 n0 _ T1.heap _
  rw [e1]
  exact ⟨rfl, N0, rfl⟩
theorem d13_0 : decode prog_11_method_5_code 0 = .ok (.aload_n 0, 1) := by decide +kernel
theorem d13_1 : decode prog_11_method_5_code 1 = .ok (.getfield 22, 3) := by decide +kernel
theorem d13_4 : decode prog_11_method_5_code 4 = .ok (.areturn, 1) := by decide +kernel
theorem ef_rm_getOutcome (m : MethodId) (x0 : Nat)  : entryFrame m #[(.ref x0)] 1 = mkF m 0 #[.val (.ref x0)] [] := by first | (simp [entryFrame, mkF, argsToLocals, Value.category, maxLocals]; done) | rfl
def Q_rm_getOutcome (Z : State) (v : Nat) (z : Nat) (h0 : Heap) (n0 : Nat) (vv : Option Value) (h : Heap) (L : List Loc) : Prop := vv = some (.ref z) ∧ Fr n0 L ∧ h = h0
set_option maxRecDepth 65536 in
set_option maxHeartbeats 40000000 in
theorem rm_getOutcome (l : Launch) (Z : State) (a0 : Array Value) (hw : ∀ d ∈ tables_1, d.before a0 Z = true) (ws : List Jvm.Cond) (v : Nat) (z : Nat) (h0 : Heap) (n0 : Nat) (Z0 : n0 ≤ h0.size) (F0 : Fld Z h0 v "com/example/concordat/concordat/core/Decision" "outcome" "Lcom/example/concordat/concordat/core/Outcome;" (.ref z)) :
    MetFree l (⟨"com/example/concordat/concordat/core/Decision", "getOutcome", "()Lcom/example/concordat/concordat/core/Outcome;"⟩ : MethodName) (head1 (Jvm.Cond.code (⟨"com/example/concordat/concordat/core/Decision", "getOutcome", "()Lcom/example/concordat/concordat/core/Outcome;"⟩ : MethodName) prog_11_method_5_code 1 (some (.object "com/example/concordat/concordat/core/Outcome")) :: ws) ({ frames := 0, cells := 0, slots := 0, locals := 0 } : Room)) (fun aA uU => aA = #[(.ref v)] ∧ Z.Warmed39 uU.vm ∧ uU.heap = h0) (fun _ _ _ _ _ => True) (fun _ uU oO uU' => ∃ vV lL, oO = .returned vV ∧ Q_rm_getOutcome Z v z h0 n0 vV uU'.heap lL ∧ FrameEnd uU oO uU' lL ({ frames := 0, cells := 0, slots := 0, locals := 0 } : Room).cells ({ frames := 0, cells := 0, slots := 0, locals := 0 } : Room).slots) := by
  refine MetFree.of_bodySF (plainFor_of_name pn_Decision) hisR ?_
  intro p e s m args below meth c s₁ Bd hml0 hP hK
  obtain ⟨rfl, hZ, hh⟩ := hP
  have hx := Bd.exec
  have hby := Bd.bytes
  have hml : c.maxLocals = 1 := hml0
  have hown : s.vm.findClass "com/example/concordat/concordat/core/Decision" = some m.cls := findClass_of_methodNamed Bd.named
  have hnm := (name_of_methodNamed Bd.named Bd.method).1
  have X0 : Stand p l e ({ frames := 0, cells := 0, slots := 0, locals := 0 } : Room) s m #[(.ref v)] below meth c s₁ [] 0 0 := Stand.of_body Bd
  have e0 : s₁.heap = h0 := by rw [← hh, Bd.state]; rfl
  have N0 := Fr.nil n0
  refine oEnter (oCast (ef_rm_getOutcome m v ) ?_)
  show oGl p e below (s₁.setTop (mkF m 0 #[.val (.ref v)] [])) _
  refine saloadN X0 hx (hb hby d13_0) rfl rfl rfl (pc' := 1) ?_
  obtain ⟨T1, X1, e1, st1⟩ := getF X0 hx hZ hown (host := "") (Or.inl (hw _ (List.mem_of_getElem? (i := 54) rfl))) Via.refl e0 F0 (g := (mkF m 1 #[.val (.ref v)] [(.ref v)])) rfl rfl (hb hby d13_1)
  refine oOn st1 ?_
  show oGl p e below (T1.setTop (mkF m 4 #[.val (.ref v)] [(.ref z)])) _
  refine oRetR X1 hx Bd.notSynchronized Bd.returns rfl rfl (hb hby d13_4) (by decide) (by decide) ?_
  show Q_rm_getOutcome Z v z h0 n0 _ T1.heap _
  rw [e1]
  exact ⟨rfl, N0, rfl⟩
theorem d14_0 : decode prog_11_method_6_code 0 = .ok (.aload_n 0, 1) := by decide +kernel
theorem d14_1 : decode prog_11_method_6_code 1 = .ok (.getfield 26, 3) := by decide +kernel
theorem d14_4 : decode prog_11_method_6_code 4 = .ok (.areturn, 1) := by decide +kernel
theorem ef_rm_getReason (m : MethodId) (x0 : Nat)  : entryFrame m #[(.ref x0)] 1 = mkF m 0 #[.val (.ref x0)] [] := by first | (simp [entryFrame, mkF, argsToLocals, Value.category, maxLocals]; done) | rfl
def Q_rm_getReason (Z : State) (v : Nat)  (h0 : Heap) (n0 : Nat) (vv : Option Value) (h : Heap) (L : List Loc) : Prop := vv = some .null ∧ Fr n0 L ∧ h = h0
set_option maxRecDepth 65536 in
set_option maxHeartbeats 40000000 in
theorem rm_getReason (l : Launch) (Z : State) (a0 : Array Value) (hw : ∀ d ∈ tables_1, d.before a0 Z = true) (ws : List Jvm.Cond) (v : Nat)  (h0 : Heap) (n0 : Nat) (Z0 : n0 ≤ h0.size) (F0 : Fld Z h0 v "com/example/concordat/concordat/core/Decision" "reason" "Lcom/example/concordat/concordat/core/AbortReason;" .null) :
    MetFree l (⟨"com/example/concordat/concordat/core/Decision", "getReason", "()Lcom/example/concordat/concordat/core/AbortReason;"⟩ : MethodName) (head1 (Jvm.Cond.code (⟨"com/example/concordat/concordat/core/Decision", "getReason", "()Lcom/example/concordat/concordat/core/AbortReason;"⟩ : MethodName) prog_11_method_6_code 1 (some (.object "com/example/concordat/concordat/core/AbortReason")) :: ws) ({ frames := 0, cells := 0, slots := 0, locals := 0 } : Room)) (fun aA uU => aA = #[(.ref v)] ∧ Z.Warmed39 uU.vm ∧ uU.heap = h0) (fun _ _ _ _ _ => True) (fun _ uU oO uU' => ∃ vV lL, oO = .returned vV ∧ Q_rm_getReason Z v h0 n0 vV uU'.heap lL ∧ FrameEnd uU oO uU' lL ({ frames := 0, cells := 0, slots := 0, locals := 0 } : Room).cells ({ frames := 0, cells := 0, slots := 0, locals := 0 } : Room).slots) := by
  refine MetFree.of_bodySF (plainFor_of_name pn_Decision) hisR ?_
  intro p e s m args below meth c s₁ Bd hml0 hP hK
  obtain ⟨rfl, hZ, hh⟩ := hP
  have hx := Bd.exec
  have hby := Bd.bytes
  have hml : c.maxLocals = 1 := hml0
  have hown : s.vm.findClass "com/example/concordat/concordat/core/Decision" = some m.cls := findClass_of_methodNamed Bd.named
  have hnm := (name_of_methodNamed Bd.named Bd.method).1
  have X0 : Stand p l e ({ frames := 0, cells := 0, slots := 0, locals := 0 } : Room) s m #[(.ref v)] below meth c s₁ [] 0 0 := Stand.of_body Bd
  have e0 : s₁.heap = h0 := by rw [← hh, Bd.state]; rfl
  have N0 := Fr.nil n0
  refine oEnter (oCast (ef_rm_getReason m v ) ?_)
  show oGl p e below (s₁.setTop (mkF m 0 #[.val (.ref v)] [])) _
  refine saloadN X0 hx (hb hby d14_0) rfl rfl rfl (pc' := 1) ?_
  obtain ⟨T1, X1, e1, st1⟩ := getF X0 hx hZ hown (host := "") (Or.inl (hw _ (List.mem_of_getElem? (i := 56) rfl))) Via.refl e0 F0 (g := (mkF m 1 #[.val (.ref v)] [(.ref v)])) rfl rfl (hb hby d14_1)
  refine oOn st1 ?_
  show oGl p e below (T1.setTop (mkF m 4 #[.val (.ref v)] [.null])) _
  refine oRetR X1 hx Bd.notSynchronized Bd.returns rfl rfl (hb hby d14_4) (by decide) (by decide) ?_
  show Q_rm_getReason Z v h0 n0 _ T1.heap _
  rw [e1]
  exact ⟨rfl, N0, rfl⟩
theorem d15_0 : decode prog_11_method_7_code 0 = .ok (.aload_n 1, 1) := by decide +kernel
theorem d15_1 : decode prog_11_method_7_code 1 = .ok (.instanceof 18, 3) := by decide +kernel
theorem d15_4 : decode prog_11_method_7_code 4 = .ok (.ifCond .eq 52, 3) := by decide +kernel
theorem d15_7 : decode prog_11_method_7_code 7 = .ok (.aload_n 0, 1) := by decide +kernel
theorem d15_8 : decode prog_11_method_7_code 8 = .ok (.getfield 17, 3) := by decide +kernel
theorem d15_11 : decode prog_11_method_7_code 11 = .ok (.aload_n 1, 1) := by decide +kernel
theorem d15_12 : decode prog_11_method_7_code 12 = .ok (.checkcast 18, 3) := by decide +kernel
theorem d15_15 : decode prog_11_method_7_code 15 = .ok (.getfield 17, 3) := by decide +kernel
theorem d15_18 : decode prog_11_method_7_code 18 = .ok (.invokevirtual 46, 3) := by decide +kernel
theorem pd_13 : parseMethodDescriptor "(Ljava/lang/Object;)Z" = some ⟨[(.object "java/lang/Object")], some .boolean⟩ := by decide +kernel
theorem d15_21 : decode prog_11_method_7_code 21 = .ok (.ifCond .eq 35, 3) := by decide +kernel
theorem d15_56 : decode prog_11_method_7_code 56 = .ok (.iconst 0, 1) := by decide +kernel
theorem d15_57 : decode prog_11_method_7_code 57 = .ok (.ireturn, 1) := by decide +kernel
theorem d15_24 : decode prog_11_method_7_code 24 = .ok (.aload_n 0, 1) := by decide +kernel
theorem d15_25 : decode prog_11_method_7_code 25 = .ok (.getfield 22, 3) := by decide +kernel
theorem d15_28 : decode prog_11_method_7_code 28 = .ok (.aload_n 1, 1) := by decide +kernel
theorem d15_29 : decode prog_11_method_7_code 29 = .ok (.checkcast 18, 3) := by decide +kernel
theorem d15_32 : decode prog_11_method_7_code 32 = .ok (.getfield 22, 3) := by decide +kernel
theorem d15_35 : decode prog_11_method_7_code 35 = .ok (.if_acmp .ne 21, 3) := by decide +kernel
theorem d15_38 : decode prog_11_method_7_code 38 = .ok (.aload_n 0, 1) := by decide +kernel
theorem d15_39 : decode prog_11_method_7_code 39 = .ok (.getfield 26, 3) := by decide +kernel
theorem d15_42 : decode prog_11_method_7_code 42 = .ok (.aload_n 1, 1) := by decide +kernel
theorem d15_43 : decode prog_11_method_7_code 43 = .ok (.checkcast 18, 3) := by decide +kernel
theorem d15_46 : decode prog_11_method_7_code 46 = .ok (.getfield 26, 3) := by decide +kernel
theorem d15_49 : decode prog_11_method_7_code 49 = .ok (.if_acmp .ne 7, 3) := by decide +kernel
theorem d15_52 : decode prog_11_method_7_code 52 = .ok (.iconst 1, 1) := by decide +kernel
theorem d15_53 : decode prog_11_method_7_code 53 = .ok (.goto 4, 3) := by decide +kernel
theorem ef_rmDeq (m : MethodId) (x0 : Nat) (x1 : Nat)  : entryFrame m #[(.ref x0), (.ref x1)] 2 = mkF m 0 #[.val (.ref x0), .val (.ref x1)] [] := by first | (simp [entryFrame, mkF, argsToLocals, Value.category, maxLocals]; done) | rfl
def Q_rmDeq (Z : State) (dd de oo : Nat) (x y b d n o : Nat) (f g : Nat → Int32) (cz : Int32) (h0 : Heap) (n0 : Nat) (vv : Option Value) (h : Heap) (L : List Loc) : Prop := ∃ r : Int32, vv = some (.int r) ∧ Fr n0 L ∧ h = h0 ∧ ((r = 1 ∧ (n = o ∧ ∀ j : Nat, j < n → f j = g j)) ∨ (r = 0 ∧ ¬ (n = o ∧ ∀ j : Nat, j < n → f j = g j)))
set_option maxRecDepth 65536 in
set_option maxHeartbeats 40000000 in
theorem rmDeq (l : Launch) (Z : State) (a0 : Array Value) (hw : ∀ d ∈ tables_1, d.before a0 Z = true) (ws : List Jvm.Cond) (dd de oo : Nat) (x y b d n o : Nat) (f g : Nat → Int32) (cz : Int32) (h0 : Heap) (n0 : Nat) (Z0 : n0 ≤ h0.size) (O0 : Old Z n0 h0) (SCS : Sta Z Z.heap "java/lang/String" "COMPACT_STRINGS" "Z" (.int cz)) (hcz : ¬ cz = (0 : Int32)) (E1 : Exa Z h0 x "java/lang/String") (F1 : Fld Z h0 x "java/lang/String" "value" "[B" (.ref b)) (C1 : Fld Z h0 x "java/lang/String" "coder" "B" (.int 0)) (PB : oAI Z h0 b .byte n f) (G0 : Exa Z h0 y "java/lang/String") (G1 : Fld Z h0 y "java/lang/String" "value" "[B" (.ref d)) (K1 : Fld Z h0 y "java/lang/String" "coder" "B" (.int 0)) (PD : oAI Z h0 d .byte o g) (A0 : Exa Z h0 dd "com/example/concordat/concordat/core/Decision") (A1 : Exa Z h0 de "com/example/concordat/concordat/core/Decision") (P0 : Fld Z h0 dd "com/example/concordat/concordat/core/Decision" "transactionId" "Ljava/lang/String;" (.ref x)) (P1 : Fld Z h0 dd "com/example/concordat/concordat/core/Decision" "outcome" "Lcom/example/concordat/concordat/core/Outcome;" (.ref oo)) (P2 : Fld Z h0 dd "com/example/concordat/concordat/core/Decision" "reason" "Lcom/example/concordat/concordat/core/AbortReason;" .null) (R0 : Fld Z h0 de "com/example/concordat/concordat/core/Decision" "transactionId" "Ljava/lang/String;" (.ref y)) (R1 : Fld Z h0 de "com/example/concordat/concordat/core/Decision" "outcome" "Lcom/example/concordat/concordat/core/Outcome;" (.ref oo)) (R2 : Fld Z h0 de "com/example/concordat/concordat/core/Decision" "reason" "Lcom/example/concordat/concordat/core/AbortReason;" .null) :
    MetFree l (⟨"com/example/concordat/concordat/core/Decision", "equals", "(Ljava/lang/Object;)Z"⟩ : MethodName) (head1 (Jvm.Cond.code (⟨"com/example/concordat/concordat/core/Decision", "equals", "(Ljava/lang/Object;)Z"⟩ : MethodName) prog_11_method_7_code 2 (some .boolean) :: ws) ({ frames := 2, cells := 0, slots := 0, locals := 28 } : Room)) (fun aA uU => aA = #[(.ref dd), (.ref de)] ∧ Z.Warmed39 uU.vm ∧ uU.heap = h0) (fun _ _ _ _ _ => True) (fun _ uU oO uU' => ∃ vV lL, oO = .returned vV ∧ Q_rmDeq Z dd de oo x y b d n o f g cz h0 n0 vV uU'.heap lL ∧ FrameEnd uU oO uU' lL ({ frames := 2, cells := 0, slots := 0, locals := 28 } : Room).cells ({ frames := 2, cells := 0, slots := 0, locals := 28 } : Room).slots) := by
  refine MetFree.of_bodySF (plainFor_of_name pn_Decision) hisR ?_
  intro p e s m args below meth c s₁ Bd hml0 hP hK
  obtain ⟨rfl, hZ, hh⟩ := hP
  have hx := Bd.exec
  have hby := Bd.bytes
  have hml : c.maxLocals = 2 := hml0
  have hown : s.vm.findClass "com/example/concordat/concordat/core/Decision" = some m.cls := findClass_of_methodNamed Bd.named
  have hnm := (name_of_methodNamed Bd.named Bd.method).1
  have X0 : Stand p l e ({ frames := 2, cells := 0, slots := 0, locals := 28 } : Room) s m #[(.ref dd), (.ref de)] below meth c s₁ [] 0 0 := Stand.of_body Bd
  have e0 : s₁.heap = h0 := by rw [← hh, Bd.state]; rfl
  have N0 := Fr.nil n0
  refine oEnter (oCast (ef_rmDeq m dd de ) ?_)
  show oGl p e below (s₁.setTop (mkF m 0 #[.val (.ref dd), .val (.ref de)] [])) _
  refine saloadN X0 hx (hb hby d15_0) rfl rfl rfl (pc' := 1) ?_
  obtain ⟨T1, X1, e1, st1⟩ := instY X0 hx hZ hown (hw _ (List.mem_of_getElem? (i := 37) rfl)) e0 (Ins.self A1) (g := (mkF m 1 #[.val (.ref dd), .val (.ref de)] [(.ref de)])) rfl rfl (hb hby d15_1)
  refine oOn st1 ?_
  show oGl p e below (T1.setTop (mkF m 4 #[.val (.ref dd), .val (.ref de)] [(.int (1 : Int32))])) _
  refine sifN X1 hx (hb hby d15_4) rfl (feq (by decide : ¬ ((1 : Int32) = (0 : Int32)))).1 (pc' := 7) ?_
  refine saloadN X1 hx (hb hby d15_7) rfl rfl rfl (pc' := 8) ?_
  obtain ⟨T2, X2, e2, st2⟩ := getF X1 hx hZ hown (host := "") (Or.inl (hw _ (List.mem_of_getElem? (i := 52) rfl))) Via.refl e1 P0 (g := (mkF m 8 #[.val (.ref dd), .val (.ref de)] [(.ref dd)])) rfl rfl (hb hby d15_8)
  refine oOn st2 ?_
  show oGl p e below (T2.setTop (mkF m 11 #[.val (.ref dd), .val (.ref de)] [(.ref x)])) _
  refine saloadN X2 hx (hb hby d15_11) rfl rfl rfl (pc' := 12) ?_
  obtain ⟨T3, X3, e3, st3⟩ := castY X2 hx hZ hown (hw _ (List.mem_of_getElem? (i := 37) rfl)) e2 (Ins.self A1) (g := (mkF m 12 #[.val (.ref dd), .val (.ref de)] [(.ref de), (.ref x)])) rfl rfl (hb hby d15_12)
  refine oOn st3 ?_
  show oGl p e below (T3.setTop (mkF m 15 #[.val (.ref dd), .val (.ref de)] [(.ref de), (.ref x)])) _
  obtain ⟨T4, X4, e4, st4⟩ := getF X3 hx hZ hown (host := "") (Or.inl (hw _ (List.mem_of_getElem? (i := 52) rfl))) Via.refl e3 R0 (g := (mkF m 15 #[.val (.ref dd), .val (.ref de)] [(.ref de), (.ref x)])) rfl rfl (hb hby d15_15)
  refine oOn st4 ?_
  show oGl p e below (T4.setTop (mkF m 18 #[.val (.ref dd), .val (.ref de)] [(.ref y), (.ref x)])) _
  have hz5 : n0 ≤ h0.size := by omega
  obtain ⟨cq5, kq5, q5a, q5b, q5c⟩ := isOf hZ e4 E1
  obtain ⟨_, _, ⟨T5, L5, k5, n5⟩, -, X5, ⟨Lc5, hQ5, l5, y5, z5⟩, st5⟩ := X4.virtualBack hx (y := (⟨"java/lang/String", "equals", "(Ljava/lang/Object;)Z"⟩ : MethodName)) (z := (⟨"java/lang/String", "equals", "(Ljava/lang/Object;)Z"⟩ : MethodName)) hown (mvT hZ (hw _ (List.mem_of_getElem? (i := 95) rfl))) (mvT hZ (hw _ (List.mem_of_getElem? (i := 74) rfl))) (notFace_of_selects (args := #[]) (mvT hZ (hw _ (List.mem_of_getElem? (i := 76) rfl)))) (mvT hZ (hw _ (List.mem_of_getElem? (i := 76) rfl))) (mvT hZ (hw _ (List.mem_of_getElem? (i := 75) rfl))) (by decide) (backOf (W := 0) (rmSEq l Z a0 hw [] x y b d n o f g cz h0 n0 hz5 O0 SCS hcz E1 F1 C1 PB G0 G1 K1 PD) hZ (hw _ (List.mem_of_getElem? (i := 77) rfl)) (hw _ (List.mem_of_getElem? (i := 6) rfl)) (by decide) (by decide)) q5a q5c (g := (mkF m 18 #[.val (.ref dd), .val (.ref de)] [(.ref y), (.ref x)])) rfl (by rw [hml]; rfl) (Steps.refl _) (argsL := [(.ref y)]) (rest := []) (lenOf pd_13 rfl) rfl (by show 2 * 0 + _ ≤ _; exact Nat.le_of_eq rfl) (hb hby d15_18) (fun _ _ => ⟨rfl, e4, (by decide : 0 + 0 ≤ _), (by decide : 0 + 0 ≤ _)⟩)
  dsimp only [Pt.U, Pt.locs, Pt.cells, Pt.slots] at X5 l5 y5 z5 st5 hQ5
  subst l5 y5 z5
  obtain ⟨r5, rfl, N5q, eh5, pq5⟩ := hQ5
  have N5 := Fr.app N0 N5q
  refine oSt st5 ?_
  show oGl p e below (T5.setTop (mkF m 21 #[.val (.ref dd), .val (.ref de)] [(.int r5)])) _
  by_cases hc21 : r5 = (0 : Int32)
  · skip
    refine sifY X5 hx (hb hby d15_21) (by decide) (by decide) (teq hc21).1 (pc' := 56) ?_
    refine siconst X5 hx (hb hby d15_56) rfl rfl (z := 0) (pc' := 57) ?_
    refine oRetN (t := .boolean) X5 hx Bd.notSynchronized Bd.returns (by simp) (hb hby d15_57) (by decide) (by decide) ?_
    show Q_rmDeq Z dd de oo x y b d n o f g cz h0 n0 _ T5.heap _
    rw [eh5]
    exact ⟨0, rfl, N5, rfl, Or.inr ⟨rfl, (pq5.resolve_left (fun q => absurd (hc21.symm.trans q.1) (by decide))).2⟩⟩
  · skip
    refine sifN X5 hx (hb hby d15_21) rfl (feq hc21).1 (pc' := 24) ?_
    refine saloadN X5 hx (hb hby d15_24) rfl rfl rfl (pc' := 25) ?_
    obtain ⟨T6, X6, e6, st6⟩ := getF X5 hx hZ hown (host := "") (Or.inl (hw _ (List.mem_of_getElem? (i := 54) rfl))) Via.refl eh5 P1 (g := (mkF m 25 #[.val (.ref dd), .val (.ref de)] [(.ref dd)])) rfl rfl (hb hby d15_25)
    refine oOn st6 ?_
    show oGl p e below (T6.setTop (mkF m 28 #[.val (.ref dd), .val (.ref de)] [(.ref oo)])) _
    refine saloadN X6 hx (hb hby d15_28) rfl rfl rfl (pc' := 29) ?_
    obtain ⟨T7, X7, e7, st7⟩ := castY X6 hx hZ hown (hw _ (List.mem_of_getElem? (i := 37) rfl)) e6 (Ins.self A1) (g := (mkF m 29 #[.val (.ref dd), .val (.ref de)] [(.ref de), (.ref oo)])) rfl rfl (hb hby d15_29)
    refine oOn st7 ?_
    show oGl p e below (T7.setTop (mkF m 32 #[.val (.ref dd), .val (.ref de)] [(.ref de), (.ref oo)])) _
    obtain ⟨T8, X8, e8, st8⟩ := getF X7 hx hZ hown (host := "") (Or.inl (hw _ (List.mem_of_getElem? (i := 54) rfl))) Via.refl e7 R1 (g := (mkF m 32 #[.val (.ref dd), .val (.ref de)] [(.ref de), (.ref oo)])) rfl rfl (hb hby d15_32)
    refine oOn st8 ?_
    show oGl p e below (T8.setTop (mkF m 35 #[.val (.ref dd), .val (.ref de)] [(.ref oo), (.ref oo)])) _
    refine oOn (fun _ kK => Jvm.RoadKit.acmp (g := (mkF m 35 #[.val (.ref dd), .val (.ref de)] [(.ref oo), (.ref oo)])) X8 hx rfl rfl rfl (pc0 := 35) (pc' := 38) (same := true) rfl (hb hby d15_35) rfl (decide_eq_true rfl) (by decide) (by decide) kK) ?_
    show oGl p e below (T8.setTop (mkF m 38 #[.val (.ref dd), .val (.ref de)] [])) _
    refine saloadN X8 hx (hb hby d15_38) rfl rfl rfl (pc' := 39) ?_
    obtain ⟨T9, X9, e9, st9⟩ := getF X8 hx hZ hown (host := "") (Or.inl (hw _ (List.mem_of_getElem? (i := 56) rfl))) Via.refl e8 P2 (g := (mkF m 39 #[.val (.ref dd), .val (.ref de)] [(.ref dd)])) rfl rfl (hb hby d15_39)
    refine oOn st9 ?_
    show oGl p e below (T9.setTop (mkF m 42 #[.val (.ref dd), .val (.ref de)] [.null])) _
    refine saloadN X9 hx (hb hby d15_42) rfl rfl rfl (pc' := 43) ?_
    obtain ⟨T10, X10, e10, st10⟩ := castY X9 hx hZ hown (hw _ (List.mem_of_getElem? (i := 37) rfl)) e9 (Ins.self A1) (g := (mkF m 43 #[.val (.ref dd), .val (.ref de)] [(.ref de), .null])) rfl rfl (hb hby d15_43)
    refine oOn st10 ?_
    show oGl p e below (T10.setTop (mkF m 46 #[.val (.ref dd), .val (.ref de)] [(.ref de), .null])) _
    obtain ⟨T11, X11, e11, st11⟩ := getF X10 hx hZ hown (host := "") (Or.inl (hw _ (List.mem_of_getElem? (i := 56) rfl))) Via.refl e10 R2 (g := (mkF m 46 #[.val (.ref dd), .val (.ref de)] [(.ref de), .null])) rfl rfl (hb hby d15_46)
    refine oOn st11 ?_
    show oGl p e below (T11.setTop (mkF m 49 #[.val (.ref dd), .val (.ref de)] [.null, .null])) _
    refine oOn (fun _ kK => Jvm.RoadKit.acmp (g := (mkF m 49 #[.val (.ref dd), .val (.ref de)] [.null, .null])) X11 hx rfl rfl rfl (pc0 := 49) (pc' := 52) (same := true) rfl (hb hby d15_49) rfl (decide_eq_true rfl) (by decide) (by decide) kK) ?_
    show oGl p e below (T11.setTop (mkF m 52 #[.val (.ref dd), .val (.ref de)] [])) _
    refine siconst X11 hx (hb hby d15_52) rfl rfl (z := 1) (pc' := 53) ?_
    refine sgoto X11 hx (hb hby d15_53) (by decide) (by decide)  (pc' := 57) ?_
    refine oRetN (t := .boolean) X11 hx Bd.notSynchronized Bd.returns (by simp) (hb hby d15_57) (by decide) (by decide) ?_
    show Q_rmDeq Z dd de oo x y b d n o f g cz h0 n0 _ T11.heap _
    rw [e11]
    exact ⟨1, rfl, N5, rfl, Or.inl ⟨rfl, (pq5.resolve_right (fun q => hc21 q.1)).2⟩⟩
theorem ef_rmDne (m : MethodId) (x0 : Nat) (x1 : Nat)  : entryFrame m #[(.ref x0), (.ref x1)] 2 = mkF m 0 #[.val (.ref x0), .val (.ref x1)] [] := by first | (simp [entryFrame, mkF, argsToLocals, Value.category, maxLocals]; done) | rfl
def Q_rmDne (Z : State) (dd de oo pp ar : Nat) (x b n : Nat) (f : Nat → Int32) (cz : Int32) (h0 : Heap) (n0 : Nat) (vv : Option Value) (h : Heap) (L : List Loc) : Prop := vv = some (.int 0) ∧ Fr n0 L ∧ h = h0
set_option maxRecDepth 65536 in
set_option maxHeartbeats 40000000 in
theorem rmDne (l : Launch) (Z : State) (a0 : Array Value) (hw : ∀ d ∈ tables_1, d.before a0 Z = true) (ws : List Jvm.Cond) (dd de oo pp ar : Nat) (x b n : Nat) (f : Nat → Int32) (cz : Int32) (h0 : Heap) (n0 : Nat) (Z0 : n0 ≤ h0.size) (O0 : Old Z n0 h0) (SCS : Sta Z Z.heap "java/lang/String" "COMPACT_STRINGS" "Z" (.int cz)) (hcz : ¬ cz = (0 : Int32)) (E1 : Exa Z h0 x "java/lang/String") (F1 : Fld Z h0 x "java/lang/String" "value" "[B" (.ref b)) (C1 : Fld Z h0 x "java/lang/String" "coder" "B" (.int 0)) (PB : oAI Z h0 b .byte n f) (A0 : Exa Z h0 dd "com/example/concordat/concordat/core/Decision") (A1 : Exa Z h0 de "com/example/concordat/concordat/core/Decision") (P0 : Fld Z h0 dd "com/example/concordat/concordat/core/Decision" "transactionId" "Ljava/lang/String;" (.ref x)) (P1 : Fld Z h0 dd "com/example/concordat/concordat/core/Decision" "outcome" "Lcom/example/concordat/concordat/core/Outcome;" (.ref oo)) (P2 : Fld Z h0 dd "com/example/concordat/concordat/core/Decision" "reason" "Lcom/example/concordat/concordat/core/AbortReason;" .null) (R0 : Fld Z h0 de "com/example/concordat/concordat/core/Decision" "transactionId" "Ljava/lang/String;" (.ref x)) (R1 : Fld Z h0 de "com/example/concordat/concordat/core/Decision" "outcome" "Lcom/example/concordat/concordat/core/Outcome;" (.ref pp)) (R2 : Fld Z h0 de "com/example/concordat/concordat/core/Decision" "reason" "Lcom/example/concordat/concordat/core/AbortReason;" (.ref ar)) (hne : oo ≠ pp) :
    MetFree l (⟨"com/example/concordat/concordat/core/Decision", "equals", "(Ljava/lang/Object;)Z"⟩ : MethodName) (head1 (Jvm.Cond.code (⟨"com/example/concordat/concordat/core/Decision", "equals", "(Ljava/lang/Object;)Z"⟩ : MethodName) prog_11_method_7_code 2 (some .boolean) :: ws) ({ frames := 2, cells := 0, slots := 0, locals := 28 } : Room)) (fun aA uU => aA = #[(.ref dd), (.ref de)] ∧ Z.Warmed39 uU.vm ∧ uU.heap = h0) (fun _ _ _ _ _ => True) (fun _ uU oO uU' => ∃ vV lL, oO = .returned vV ∧ Q_rmDne Z dd de oo pp ar x b n f cz h0 n0 vV uU'.heap lL ∧ FrameEnd uU oO uU' lL ({ frames := 2, cells := 0, slots := 0, locals := 28 } : Room).cells ({ frames := 2, cells := 0, slots := 0, locals := 28 } : Room).slots) := by
  refine MetFree.of_bodySF (plainFor_of_name pn_Decision) hisR ?_
  intro p e s m args below meth c s₁ Bd hml0 hP hK
  obtain ⟨rfl, hZ, hh⟩ := hP
  have hx := Bd.exec
  have hby := Bd.bytes
  have hml : c.maxLocals = 2 := hml0
  have hown : s.vm.findClass "com/example/concordat/concordat/core/Decision" = some m.cls := findClass_of_methodNamed Bd.named
  have hnm := (name_of_methodNamed Bd.named Bd.method).1
  have X0 : Stand p l e ({ frames := 2, cells := 0, slots := 0, locals := 28 } : Room) s m #[(.ref dd), (.ref de)] below meth c s₁ [] 0 0 := Stand.of_body Bd
  have e0 : s₁.heap = h0 := by rw [← hh, Bd.state]; rfl
  have N0 := Fr.nil n0
  refine oEnter (oCast (ef_rmDne m dd de ) ?_)
  show oGl p e below (s₁.setTop (mkF m 0 #[.val (.ref dd), .val (.ref de)] [])) _
  refine saloadN X0 hx (hb hby d15_0) rfl rfl rfl (pc' := 1) ?_
  obtain ⟨T1, X1, e1, st1⟩ := instY X0 hx hZ hown (hw _ (List.mem_of_getElem? (i := 37) rfl)) e0 (Ins.self A1) (g := (mkF m 1 #[.val (.ref dd), .val (.ref de)] [(.ref de)])) rfl rfl (hb hby d15_1)
  refine oOn st1 ?_
  show oGl p e below (T1.setTop (mkF m 4 #[.val (.ref dd), .val (.ref de)] [(.int (1 : Int32))])) _
  refine sifN X1 hx (hb hby d15_4) rfl (feq (by decide : ¬ ((1 : Int32) = (0 : Int32)))).1 (pc' := 7) ?_
  refine saloadN X1 hx (hb hby d15_7) rfl rfl rfl (pc' := 8) ?_
  obtain ⟨T2, X2, e2, st2⟩ := getF X1 hx hZ hown (host := "") (Or.inl (hw _ (List.mem_of_getElem? (i := 52) rfl))) Via.refl e1 P0 (g := (mkF m 8 #[.val (.ref dd), .val (.ref de)] [(.ref dd)])) rfl rfl (hb hby d15_8)
  refine oOn st2 ?_
  show oGl p e below (T2.setTop (mkF m 11 #[.val (.ref dd), .val (.ref de)] [(.ref x)])) _
  refine saloadN X2 hx (hb hby d15_11) rfl rfl rfl (pc' := 12) ?_
  obtain ⟨T3, X3, e3, st3⟩ := castY X2 hx hZ hown (hw _ (List.mem_of_getElem? (i := 37) rfl)) e2 (Ins.self A1) (g := (mkF m 12 #[.val (.ref dd), .val (.ref de)] [(.ref de), (.ref x)])) rfl rfl (hb hby d15_12)
  refine oOn st3 ?_
  show oGl p e below (T3.setTop (mkF m 15 #[.val (.ref dd), .val (.ref de)] [(.ref de), (.ref x)])) _
  obtain ⟨T4, X4, e4, st4⟩ := getF X3 hx hZ hown (host := "") (Or.inl (hw _ (List.mem_of_getElem? (i := 52) rfl))) Via.refl e3 R0 (g := (mkF m 15 #[.val (.ref dd), .val (.ref de)] [(.ref de), (.ref x)])) rfl rfl (hb hby d15_15)
  refine oOn st4 ?_
  show oGl p e below (T4.setTop (mkF m 18 #[.val (.ref dd), .val (.ref de)] [(.ref x), (.ref x)])) _
  have hz5 : n0 ≤ h0.size := by omega
  obtain ⟨cq5, kq5, q5a, q5b, q5c⟩ := isOf hZ e4 E1
  obtain ⟨_, _, ⟨T5, L5, k5, n5⟩, -, X5, ⟨Lc5, hQ5, l5, y5, z5⟩, st5⟩ := X4.virtualBack hx (y := (⟨"java/lang/String", "equals", "(Ljava/lang/Object;)Z"⟩ : MethodName)) (z := (⟨"java/lang/String", "equals", "(Ljava/lang/Object;)Z"⟩ : MethodName)) hown (mvT hZ (hw _ (List.mem_of_getElem? (i := 95) rfl))) (mvT hZ (hw _ (List.mem_of_getElem? (i := 74) rfl))) (notFace_of_selects (args := #[]) (mvT hZ (hw _ (List.mem_of_getElem? (i := 76) rfl)))) (mvT hZ (hw _ (List.mem_of_getElem? (i := 76) rfl))) (mvT hZ (hw _ (List.mem_of_getElem? (i := 75) rfl))) (by decide) (backOf (W := 0) (rmSEq l Z a0 hw [] x x b b n n f f cz h0 n0 hz5 O0 SCS hcz E1 F1 C1 PB E1 F1 C1 PB) hZ (hw _ (List.mem_of_getElem? (i := 77) rfl)) (hw _ (List.mem_of_getElem? (i := 6) rfl)) (by decide) (by decide)) q5a q5c (g := (mkF m 18 #[.val (.ref dd), .val (.ref de)] [(.ref x), (.ref x)])) rfl (by rw [hml]; rfl) (Steps.refl _) (argsL := [(.ref x)]) (rest := []) (lenOf pd_13 rfl) rfl (by show 2 * 0 + _ ≤ _; exact Nat.le_of_eq rfl) (hb hby d15_18) (fun _ _ => ⟨rfl, e4, (by decide : 0 + 0 ≤ _), (by decide : 0 + 0 ≤ _)⟩)
  dsimp only [Pt.U, Pt.locs, Pt.cells, Pt.slots] at X5 l5 y5 z5 st5 hQ5
  subst l5 y5 z5
  obtain ⟨r5, rfl, N5q, eh5, pq5⟩ := hQ5
  have N5 := Fr.app N0 N5q
  refine oSt st5 ?_
  show oGl p e below (T5.setTop (mkF m 21 #[.val (.ref dd), .val (.ref de)] [(.int r5)])) _
  by_cases hc21 : r5 = (0 : Int32)
  · skip
    refine sifY X5 hx (hb hby d15_21) (by decide) (by decide) (teq hc21).1 (pc' := 56) ?_
    refine siconst X5 hx (hb hby d15_56) rfl rfl (z := 0) (pc' := 57) ?_
    refine oRetN (t := .boolean) X5 hx Bd.notSynchronized Bd.returns (by simp) (hb hby d15_57) (by decide) (by decide) ?_
    show Q_rmDne Z dd de oo pp ar x b n f cz h0 n0 _ T5.heap _
    rw [eh5]
    exact ⟨rfl, N5, rfl⟩
  · skip
    refine sifN X5 hx (hb hby d15_21) rfl (feq hc21).1 (pc' := 24) ?_
    refine saloadN X5 hx (hb hby d15_24) rfl rfl rfl (pc' := 25) ?_
    obtain ⟨T6, X6, e6, st6⟩ := getF X5 hx hZ hown (host := "") (Or.inl (hw _ (List.mem_of_getElem? (i := 54) rfl))) Via.refl eh5 P1 (g := (mkF m 25 #[.val (.ref dd), .val (.ref de)] [(.ref dd)])) rfl rfl (hb hby d15_25)
    refine oOn st6 ?_
    show oGl p e below (T6.setTop (mkF m 28 #[.val (.ref dd), .val (.ref de)] [(.ref oo)])) _
    refine saloadN X6 hx (hb hby d15_28) rfl rfl rfl (pc' := 29) ?_
    obtain ⟨T7, X7, e7, st7⟩ := castY X6 hx hZ hown (hw _ (List.mem_of_getElem? (i := 37) rfl)) e6 (Ins.self A1) (g := (mkF m 29 #[.val (.ref dd), .val (.ref de)] [(.ref de), (.ref oo)])) rfl rfl (hb hby d15_29)
    refine oOn st7 ?_
    show oGl p e below (T7.setTop (mkF m 32 #[.val (.ref dd), .val (.ref de)] [(.ref de), (.ref oo)])) _
    obtain ⟨T8, X8, e8, st8⟩ := getF X7 hx hZ hown (host := "") (Or.inl (hw _ (List.mem_of_getElem? (i := 54) rfl))) Via.refl e7 R1 (g := (mkF m 32 #[.val (.ref dd), .val (.ref de)] [(.ref de), (.ref oo)])) rfl rfl (hb hby d15_32)
    refine oOn st8 ?_
    show oGl p e below (T8.setTop (mkF m 35 #[.val (.ref dd), .val (.ref de)] [(.ref pp), (.ref oo)])) _
    refine oOn (fun _ kK => Jvm.RoadKit.acmp (g := (mkF m 35 #[.val (.ref dd), .val (.ref de)] [(.ref pp), (.ref oo)])) X8 hx rfl rfl rfl (pc0 := 35) (pc' := 56) (same := false) rfl (hb hby d15_35) rfl (decide_eq_false fun q => hne (Value.ref.inj q)) (by decide) (by decide) kK) ?_
    show oGl p e below (T8.setTop (mkF m 56 #[.val (.ref dd), .val (.ref de)] [])) _
    refine siconst X8 hx (hb hby d15_56) rfl rfl (z := 0) (pc' := 57) ?_
    refine oRetN (t := .boolean) X8 hx Bd.notSynchronized Bd.returns (by simp) (hb hby d15_57) (by decide) (by decide) ?_
    show Q_rmDne Z dd de oo pp ar x b n f cz h0 n0 _ T8.heap _
    rw [e8]
    exact ⟨rfl, N5, rfl⟩
theorem own_lc (x : Int32) : ¬ (255 : Int32) < ((x &&& (255 : Int32)).toUInt32.toUInt16.toUInt32.toInt32) := by
  have h := c_and x 255 (by decide)
  have e : (255 : Int32).toInt = 255 := by decide
  have h1 := c_i2c (x &&& 255)
  rw [Int32.lt_iff_toInt_lt]; omega
theorem own_nc (x : Int32) : nar .char ((x &&& (255 : Int32)).toUInt32.toUInt16.toUInt32.toInt32) = ((x &&& (255 : Int32)).toUInt32.toUInt16.toUInt32.toInt32) := by
  have h := c_and x 255 (by decide)
  have e : (255 : Int32).toInt = 255 := by decide
  have h1 := c_i2c (x &&& 255)
  have h2 := c_i2c ((x &&& (255 : Int32)).toUInt32.toUInt16.toUInt32.toInt32)
  have h3 : nar .char ((x &&& (255 : Int32)).toUInt32.toUInt16.toUInt32.toInt32) = ((x &&& (255 : Int32)).toUInt32.toUInt16.toUInt32.toInt32).toUInt32.toUInt16.toUInt32.toInt32 := rfl
  rw [h3]; apply Int32.toInt_inj.mp; omega
theorem own_a3 (x : Int32) : 0 ≤ (x &&& (3 : Int32)).toInt ∧ (x &&& (3 : Int32)).toInt ≤ 3 := by
  have h := c_and x 3 (by decide)
  have e : (3 : Int32).toInt = 3 := by decide
  omega
theorem own_sm {r r' : Int32} {P : Prop} (h : (r = 1 ∧ P) ∨ (r = 0 ∧ ¬ P)) (h' : (r' = 1 ∧ P) ∨ (r' = 0 ∧ ¬ P)) : r = r' := by
  rcases h with ⟨rfl, q⟩ | ⟨rfl, q⟩ <;> rcases h' with ⟨rfl, q'⟩ | ⟨rfl, q'⟩ <;> first | rfl | exact absurd q q' | exact absurd q' q
theorem pd_14 : parseMethodDescriptor "(ICCC)Ljava/lang/String;" = some ⟨[.int, .char, .char, .char], some (.object "java/lang/String")⟩ := by decide +kernel
theorem pd_15 : parseMethodDescriptor "(I)Lcom/example/concordat/concordat/core/AbortReason;" = some ⟨[.int], some (.object "com/example/concordat/concordat/core/AbortReason")⟩ := by decide +kernel
theorem pd_16 : parseMethodDescriptor "(Ljava/lang/String;)Lcom/example/concordat/concordat/core/Decision;" = some ⟨[(.object "java/lang/String")], some (.object "com/example/concordat/concordat/core/Decision")⟩ := by decide +kernel
theorem pd_17 : parseMethodDescriptor "(Ljava/lang/String;Lcom/example/concordat/concordat/core/AbortReason;)Lcom/example/concordat/concordat/core/Decision;" = some ⟨[(.object "java/lang/String"), (.object "com/example/concordat/concordat/core/AbortReason")], some (.object "com/example/concordat/concordat/core/Decision")⟩ := by decide +kernel
theorem pd_18 : parseMethodDescriptor "()Ljava/lang/String;" = some ⟨[], some (.object "java/lang/String")⟩ := by decide +kernel
theorem pd_19 : parseMethodDescriptor "()Lcom/example/concordat/concordat/core/Outcome;" = some ⟨[], some (.object "com/example/concordat/concordat/core/Outcome")⟩ := by decide +kernel
theorem pd_20 : parseMethodDescriptor "()Lcom/example/concordat/concordat/core/AbortReason;" = some ⟨[], some (.object "com/example/concordat/concordat/core/AbortReason")⟩ := by decide +kernel
theorem ef_rmL (m : MethodId) (x0 : Int32) (x1 : Int32) (x2 : Int32) (x3 : Int32) (x4 : Int32) (x5 : Int32)  : entryFrame m #[(.int x0), (.int x1), (.int x2), (.int x3), (.int x4), (.int x5)] maxLocals = mkF m 0 #[.val (.int x0), .val (.int x1), .val (.int x2), .val (.int x3), .val (.int x4), .val (.int x5), .unset, .unset, .unset, .unset, .unset, .unset, .unset, .unset, .unset, .unset, .unset, .unset, .unset, .unset, .unset, .unset] [] := by first | (simp [entryFrame, mkF, argsToLocals, Value.category, maxLocals]; done) | rfl
def Q_rmL (Z : State) (i0 i1 i2 i3 i4 i5 : Int32) (sCONFLICT : Nat) (sCOMMITTED : Nat) (sABORTED : Nat) (sCHECK_FAILED : Nat) (sUNAVAILABLE : Nat) (cz : Int32) (h0 : Heap) (n0 : Nat) (vv : Option Value) (h : Heap) (vm : Vm) (L : List Loc) : Prop := vv = some (.int 1) ∧ Fr n0 L
set_option maxRecDepth 65536 in
set_option maxHeartbeats 40000000 in
theorem rmL (l : Launch) (Z : State) (a0 : Array Value) (hw : ∀ d ∈ tables_1, d.before a0 Z = true) (ws : List Jvm.Cond) (i0 i1 i2 i3 i4 i5 : Int32) (sCONFLICT : Nat) (sCOMMITTED : Nat) (sABORTED : Nat) (sCHECK_FAILED : Nat) (sUNAVAILABLE : Nat) (cz : Int32) (h0 : Heap) (n0 : Nat) (Z0 : n0 ≤ h0.size) (O0 : Old Z n0 h0) (SsCONFLICT : Sta Z Z.heap "com/example/concordat/concordat/core/AbortReason" "CONFLICT" "Lcom/example/concordat/concordat/core/AbortReason;" (.ref sCONFLICT)) (EsCONFLICT : Exa Z Z.heap sCONFLICT "com/example/concordat/concordat/core/AbortReason") (SsCOMMITTED : Sta Z Z.heap "com/example/concordat/concordat/core/Outcome" "COMMITTED" "Lcom/example/concordat/concordat/core/Outcome;" (.ref sCOMMITTED)) (EsCOMMITTED : Exa Z Z.heap sCOMMITTED "com/example/concordat/concordat/core/Outcome") (FsCOMMITTED : Fld Z Z.heap sCOMMITTED "java/lang/Enum" "ordinal" "I" (.int 0)) (SsABORTED : Sta Z Z.heap "com/example/concordat/concordat/core/Outcome" "ABORTED" "Lcom/example/concordat/concordat/core/Outcome;" (.ref sABORTED)) (EsABORTED : Exa Z Z.heap sABORTED "com/example/concordat/concordat/core/Outcome") (FsABORTED : Fld Z Z.heap sABORTED "java/lang/Enum" "ordinal" "I" (.int 1)) (SsCHECK_FAILED : Sta Z Z.heap "com/example/concordat/concordat/core/AbortReason" "CHECK_FAILED" "Lcom/example/concordat/concordat/core/AbortReason;" (.ref sCHECK_FAILED)) (EsCHECK_FAILED : Exa Z Z.heap sCHECK_FAILED "com/example/concordat/concordat/core/AbortReason") (SsUNAVAILABLE : Sta Z Z.heap "com/example/concordat/concordat/core/AbortReason" "UNAVAILABLE" "Lcom/example/concordat/concordat/core/AbortReason;" (.ref sUNAVAILABLE)) (EsUNAVAILABLE : Exa Z Z.heap sUNAVAILABLE "com/example/concordat/concordat/core/AbortReason") (SCS : Sta Z Z.heap "java/lang/String" "COMPACT_STRINGS" "Z" (.int cz)) (hcz : ¬ cz = (0 : Int32)) (hcH : Jvm.Lit.constHeld Z "java/lang/String" 7) (hcw : Jvm.Lit.compactW.before a0 Z = true) :
    MetFree l x (head1 (Jvm.Cond.code x code maxLocals ret :: ws) room_1) (fun aA uU => aA = #[(.int i0), (.int i1), (.int i2), (.int i3), (.int i4), (.int i5)] ∧ Z.Warmed39 uU.vm ∧ uU.heap = h0 ∧ oEm Z uU.vm h0) (fun _ _ _ _ _ => True) (fun _ uU oO uU' => ∃ vV lL, oO = .returned vV ∧ Q_rmL Z i0 i1 i2 i3 i4 i5 sCONFLICT sCOMMITTED sABORTED sCHECK_FAILED sUNAVAILABLE cz h0 n0 vV uU'.heap uU'.vm lL ∧ ReturnedEndW uU oO uU' lL 40 2240) := by
  refine MetFree.of_bodySF (plainFor_of_name pn_DecisionCommittedPinLaw) hisR ?_
  intro p e s m args below meth c s₁ Bd hml0 hP hK
  obtain ⟨rfl, hZ, hh, hJ⟩ := hP
  have hx := Bd.exec
  have hby := Bd.bytes
  have hml : c.maxLocals = 22 := hml0
  have hown : s.vm.findClass "com/example/concordat/concordat/core/DecisionCommittedPinLaw" = some m.cls := findClass_of_methodNamed Bd.named
  have hnm := (name_of_methodNamed Bd.named Bd.method).1
  have X0 : Stand p l e room_1 (s.setVm s.vm) m #[(.int i0), (.int i1), (.int i2), (.int i3), (.int i4), (.int i5)] below meth c s₁ [] 0 0 := Stand.of_body Bd
  have e0 : s₁.heap = h0 := by rw [← hh, Bd.state]; rfl
  have N0 := Fr.nil n0
  have hS : s.Since s.vm 0 := (State.WarmedH.refl s).since 0
  have hk : 0 ≤ h0.size := Nat.zero_le _
  have hZ : Z.Warmed39 (s.setVm s.vm).vm := hZ
  have hown : (s.setVm s.vm).vm.findClass "com/example/concordat/concordat/core/DecisionCommittedPinLaw" = some m.cls := hown
  refine oEnterV (oCast (ef_rmL m i0 i1 i2 i3 i4 i5 ) ?_)
  show oGl p e below (s₁.setTop (mkF m 0 #[.val (.int i0), .val (.int i1), .val (.int i2), .val (.int i3), .val (.int i4), .val (.int i5), .unset, .unset, .unset, .unset, .unset, .unset, .unset, .unset, .unset, .unset, .unset, .unset, .unset, .unset, .unset, .unset] [])) _
  refine siloadN X0 hx (hb hby at_0) rfl rfl (pc' := 1) ?_
  refine ssipush X0 hx (hb hby at_1) rfl rfl (z := 255) (pc' := 4) ?_
  refine siand X0 hx (hb hby at_4) rfl rfl (pc' := 5) ?_
  refine si2c X0 hx (hb hby at_5) rfl rfl (pc' := 6) ?_
  refine sistore X0 hx (hb hby at_6) rfl rfl (l' := #[.val (.int i0), .val (.int i1), .val (.int i2), .val (.int i3), .val (.int i4), .val (.int i5), .val (.int (((i1 &&& (255 : Int32))).toUInt32.toUInt16.toUInt32.toInt32)), .unset, .unset, .unset, .unset, .unset, .unset, .unset, .unset, .unset, .unset, .unset, .unset, .unset, .unset, .unset]) (pc' := 8) ?_
  refine siloadN X0 hx (hb hby at_8) rfl rfl (pc' := 9) ?_
  refine ssipush X0 hx (hb hby at_9) rfl rfl (z := 255) (pc' := 12) ?_
  refine siand X0 hx (hb hby at_12) rfl rfl (pc' := 13) ?_
  refine si2c X0 hx (hb hby at_13) rfl rfl (pc' := 14) ?_
  refine sistore X0 hx (hb hby at_14) rfl rfl (l' := #[.val (.int i0), .val (.int i1), .val (.int i2), .val (.int i3), .val (.int i4), .val (.int i5), .val (.int (((i1 &&& (255 : Int32))).toUInt32.toUInt16.toUInt32.toInt32)), .val (.int (((i2 &&& (255 : Int32))).toUInt32.toUInt16.toUInt32.toInt32)), .unset, .unset, .unset, .unset, .unset, .unset, .unset, .unset, .unset, .unset, .unset, .unset, .unset, .unset]) (pc' := 16) ?_
  refine siloadN X0 hx (hb hby at_16) rfl rfl (pc' := 17) ?_
  refine ssipush X0 hx (hb hby at_17) rfl rfl (z := 255) (pc' := 20) ?_
  refine siand X0 hx (hb hby at_20) rfl rfl (pc' := 21) ?_
  refine si2c X0 hx (hb hby at_21) rfl rfl (pc' := 22) ?_
  refine sistore X0 hx (hb hby at_22) rfl rfl (l' := #[.val (.int i0), .val (.int i1), .val (.int i2), .val (.int i3), .val (.int i4), .val (.int i5), .val (.int (((i1 &&& (255 : Int32))).toUInt32.toUInt16.toUInt32.toInt32)), .val (.int (((i2 &&& (255 : Int32))).toUInt32.toUInt16.toUInt32.toInt32)), .val (.int (((i3 &&& (255 : Int32))).toUInt32.toUInt16.toUInt32.toInt32)), .unset, .unset, .unset, .unset, .unset, .unset, .unset, .unset, .unset, .unset, .unset, .unset, .unset]) (pc' := 24) ?_
  refine siload X0 hx (hb hby at_24) rfl rfl (pc' := 26) ?_
  refine ssipush X0 hx (hb hby at_26) rfl rfl (z := 255) (pc' := 29) ?_
  refine siand X0 hx (hb hby at_29) rfl rfl (pc' := 30) ?_
  refine si2c X0 hx (hb hby at_30) rfl rfl (pc' := 31) ?_
  refine sistore X0 hx (hb hby at_31) rfl rfl (l' := #[.val (.int i0), .val (.int i1), .val (.int i2), .val (.int i3), .val (.int i4), .val (.int i5), .val (.int (((i1 &&& (255 : Int32))).toUInt32.toUInt16.toUInt32.toInt32)), .val (.int (((i2 &&& (255 : Int32))).toUInt32.toUInt16.toUInt32.toInt32)), .val (.int (((i3 &&& (255 : Int32))).toUInt32.toUInt16.toUInt32.toInt32)), .val (.int (((i5 &&& (255 : Int32))).toUInt32.toUInt16.toUInt32.toInt32)), .unset, .unset, .unset, .unset, .unset, .unset, .unset, .unset, .unset, .unset, .unset, .unset]) (pc' := 33) ?_
  have hn_ca := own_nc i1
  have hl_ca := own_lc i1
  generalize gca : (((i1 &&& (255 : Int32))).toUInt32.toUInt16.toUInt32.toInt32) = ca
  show oGl p e below (s₁.setTop (mkF m 33 #[.val (.int i0), .val (.int i1), .val (.int i2), .val (.int i3), .val (.int i4), .val (.int i5), .val (.int ca), .val (.int (((i2 &&& (255 : Int32))).toUInt32.toUInt16.toUInt32.toInt32)), .val (.int (((i3 &&& (255 : Int32))).toUInt32.toUInt16.toUInt32.toInt32)), .val (.int (((i5 &&& (255 : Int32))).toUInt32.toUInt16.toUInt32.toInt32)), .unset, .unset, .unset, .unset, .unset, .unset, .unset, .unset, .unset, .unset, .unset, .unset] [])) _
  rw [gca] at hn_ca
  rw [gca] at hl_ca
  have hn_cb := own_nc i2
  have hl_cb := own_lc i2
  generalize gcb : (((i2 &&& (255 : Int32))).toUInt32.toUInt16.toUInt32.toInt32) = cb
  show oGl p e below (s₁.setTop (mkF m 33 #[.val (.int i0), .val (.int i1), .val (.int i2), .val (.int i3), .val (.int i4), .val (.int i5), .val (.int ca), .val (.int cb), .val (.int (((i3 &&& (255 : Int32))).toUInt32.toUInt16.toUInt32.toInt32)), .val (.int (((i5 &&& (255 : Int32))).toUInt32.toUInt16.toUInt32.toInt32)), .unset, .unset, .unset, .unset, .unset, .unset, .unset, .unset, .unset, .unset, .unset, .unset] [])) _
  rw [gcb] at hn_cb
  rw [gcb] at hl_cb
  have hn_cc := own_nc i3
  have hl_cc := own_lc i3
  generalize gcc : (((i3 &&& (255 : Int32))).toUInt32.toUInt16.toUInt32.toInt32) = cc
  show oGl p e below (s₁.setTop (mkF m 33 #[.val (.int i0), .val (.int i1), .val (.int i2), .val (.int i3), .val (.int i4), .val (.int i5), .val (.int ca), .val (.int cb), .val (.int cc), .val (.int (((i5 &&& (255 : Int32))).toUInt32.toUInt16.toUInt32.toInt32)), .unset, .unset, .unset, .unset, .unset, .unset, .unset, .unset, .unset, .unset, .unset, .unset] [])) _
  rw [gcc] at hn_cc
  rw [gcc] at hl_cc
  have hn_cr := own_nc i5
  have hl_cr := own_lc i5
  generalize gcr : (((i5 &&& (255 : Int32))).toUInt32.toUInt16.toUInt32.toInt32) = cr
  show oGl p e below (s₁.setTop (mkF m 33 #[.val (.int i0), .val (.int i1), .val (.int i2), .val (.int i3), .val (.int i4), .val (.int i5), .val (.int ca), .val (.int cb), .val (.int cc), .val (.int cr), .unset, .unset, .unset, .unset, .unset, .unset, .unset, .unset, .unset, .unset, .unset, .unset] [])) _
  rw [gcr] at hn_cr
  rw [gcr] at hl_cr
  refine siloadN X0 hx (hb hby at_33) rfl rfl (pc' := 34) ?_
  refine siconst X0 hx (hb hby at_34) rfl rfl (z := 3) (pc' := 35) ?_
  refine siand X0 hx (hb hby at_35) rfl rfl (pc' := 36) ?_
  refine siload X0 hx (hb hby at_36) rfl rfl (pc' := 38) ?_
  refine siload X0 hx (hb hby at_38) rfl rfl (pc' := 40) ?_
  refine siload X0 hx (hb hby at_40) rfl rfl (pc' := 42) ?_
  have hz1 : n0 ≤ h0.size := by omega
  obtain ⟨_, _, ⟨T1, L1, k1, n1⟩, -, X1, hS2, hg2, ⟨Lc1, hQ1, l1, y1, z1⟩, st1⟩ := callSS X0 hx (y := (⟨"com/example/concordat/concordat/core/DecisionCommittedPinLaw", "mk", "(ICCC)Ljava/lang/String;"⟩ : MethodName)) hown (mvT hZ (hw _ (List.mem_of_getElem? (i := 0) rfl))) (mvT hZ (hw _ (List.mem_of_getElem? (i := 1) rfl))) (mvT hZ (hw _ (List.mem_of_getElem? (i := 2) rfl))) (mvT hZ (hw _ (List.mem_of_getElem? (i := 3) rfl))) (by decide) (backOfV (J := fun vm => oEm Z vm h0) (W := 0) (rmMk l Z a0 hw [] (i0 &&& (3 : Int32)) ca cb cc cz h0 n0 hz1 O0 SCS hcz hcH hcw hn_ca hn_cb hn_cc hl_ca hl_cb hl_cc (own_a3 i0)) hZ (hw _ (List.mem_of_getElem? (i := 3) rfl)) (hw _ (List.mem_of_getElem? (i := 2) rfl)) (by decide) (by decide)) (g := (mkF m 42 #[.val (.int i0), .val (.int i1), .val (.int i2), .val (.int i3), .val (.int i4), .val (.int i5), .val (.int ca), .val (.int cb), .val (.int cc), .val (.int cr), .unset, .unset, .unset, .unset, .unset, .unset, .unset, .unset, .unset, .unset, .unset, .unset] [(.int cc), (.int cb), (.int ca), (.int (i0 &&& (3 : Int32)))])) rfl (by rw [hml]; rfl) (argsL := [(.int (i0 &&& (3 : Int32))), (.int ca), (.int cb), (.int cc)]) (rest := []) (lenOf pd_14 rfl) rfl (by show 2 * 0 + _ ≤ _; exact Nat.le_of_eq rfl) (hb hby at_42) (fun _ hWw => ⟨rfl, e0, (by decide : 0 + 4 ≤ _), (by decide : 0 + 11 ≤ _), hJ.warm hWw⟩)
  dsimp only [Pt.U, Pt.locs, Pt.cells, Pt.slots] at X1 l1 y1 z1 st1 hQ1 hS2 hg2
  subst l1 y1 z1
  obtain ⟨X1, hS, hZ, hown⟩ := rebS hS (n1 := s₁.heap.size) (by rw [e0]; omega) X1 hS2 hg2 hZ hown
  have hk : T1.heap.size ≤ T1.heap.size := Nat.le_refl _
  obtain ⟨y1, d1, rfl, N1q, K1, Ex1, Fv1, Fc1, Vb1, Jj1⟩ := hQ1
  have N1 := Fr.app N0 N1q
  have z2 : h0.size ≤ T1.heap.size := K1.1
  refine oSt st1 ?_
  show oGl p e below (T1.setTop (mkF m 45 #[.val (.int i0), .val (.int i1), .val (.int i2), .val (.int i3), .val (.int i4), .val (.int i5), .val (.int ca), .val (.int cb), .val (.int cc), .val (.int cr), .unset, .unset, .unset, .unset, .unset, .unset, .unset, .unset, .unset, .unset, .unset, .unset] [(.ref y1)])) _
  refine sastore X1 hx (hb hby at_45) rfl rfl rfl (l' := #[.val (.int i0), .val (.int i1), .val (.int i2), .val (.int i3), .val (.int i4), .val (.int i5), .val (.int ca), .val (.int cb), .val (.int cc), .val (.int cr), .val (.ref y1), .unset, .unset, .unset, .unset, .unset, .unset, .unset, .unset, .unset, .unset, .unset]) (pc' := 47) ?_
  refine siloadN X1 hx (hb hby at_47) rfl rfl (pc' := 48) ?_
  refine siconst X1 hx (hb hby at_48) rfl rfl (z := 3) (pc' := 49) ?_
  refine siand X1 hx (hb hby at_49) rfl rfl (pc' := 50) ?_
  refine siload X1 hx (hb hby at_50) rfl rfl (pc' := 52) ?_
  refine siload X1 hx (hb hby at_52) rfl rfl (pc' := 54) ?_
  refine siload X1 hx (hb hby at_54) rfl rfl (pc' := 56) ?_
  have f3 := (O0.keep K1 all0)
  have hz4 : n0 ≤ T1.heap.size := by omega
  obtain ⟨_, _, ⟨T4, L4, k4, n4⟩, -, X4, hS2, hg2, ⟨Lc4, hQ4, l4, y4, z4⟩, st4⟩ := callSS X1 hx (y := (⟨"com/example/concordat/concordat/core/DecisionCommittedPinLaw", "mk", "(ICCC)Ljava/lang/String;"⟩ : MethodName)) hown (mvT hZ (hw _ (List.mem_of_getElem? (i := 0) rfl))) (mvT hZ (hw _ (List.mem_of_getElem? (i := 1) rfl))) (mvT hZ (hw _ (List.mem_of_getElem? (i := 2) rfl))) (mvT hZ (hw _ (List.mem_of_getElem? (i := 3) rfl))) (by decide) (backOfV (J := fun vm => oEm Z vm T1.heap) (W := 0) (rmMk l Z a0 hw [] (i0 &&& (3 : Int32)) ca cb cc cz T1.heap n0 hz4 f3 SCS hcz hcH hcw hn_ca hn_cb hn_cc hl_ca hl_cb hl_cc (own_a3 i0)) hZ (hw _ (List.mem_of_getElem? (i := 3) rfl)) (hw _ (List.mem_of_getElem? (i := 2) rfl)) (by decide) (by decide)) (g := (mkF m 56 #[.val (.int i0), .val (.int i1), .val (.int i2), .val (.int i3), .val (.int i4), .val (.int i5), .val (.int ca), .val (.int cb), .val (.int cc), .val (.int cr), .val (.ref y1), .unset, .unset, .unset, .unset, .unset, .unset, .unset, .unset, .unset, .unset, .unset] [(.int cc), (.int cb), (.int ca), (.int (i0 &&& (3 : Int32)))])) rfl (by rw [hml]; rfl) (argsL := [(.int (i0 &&& (3 : Int32))), (.int ca), (.int cb), (.int cc)]) (rest := []) (lenOf pd_14 rfl) rfl (by show 2 * 0 + _ ≤ _; exact Nat.le_of_eq rfl) (hb hby at_56) (fun _ hWw => ⟨rfl, rfl, (by decide : 4 + 4 ≤ _), (by decide : 11 + 11 ≤ _), Jj1.warm hWw⟩)
  dsimp only [Pt.U, Pt.locs, Pt.cells, Pt.slots] at X4 l4 y4 z4 st4 hQ4 hS2 hg2
  subst l4 y4 z4
  obtain ⟨X4, hS, hZ, hown⟩ := rebS hS (n1 := T1.heap.size) (by omega) X4 hS2 hg2 hZ hown
  have hk : T4.heap.size ≤ T4.heap.size := Nat.le_refl _
  obtain ⟨y4, d4, rfl, N4q, K4, Ex4, Fv4, Fc4, Vb4, Jj4⟩ := hQ4
  have N4 := Fr.app N1 N4q
  have z5 : T1.heap.size ≤ T4.heap.size := K4.1
  refine oSt st4 ?_
  show oGl p e below (T4.setTop (mkF m 59 #[.val (.int i0), .val (.int i1), .val (.int i2), .val (.int i3), .val (.int i4), .val (.int i5), .val (.int ca), .val (.int cb), .val (.int cc), .val (.int cr), .val (.ref y1), .unset, .unset, .unset, .unset, .unset, .unset, .unset, .unset, .unset, .unset, .unset] [(.ref y4)])) _
  refine sastore X4 hx (hb hby at_59) rfl rfl rfl (l' := #[.val (.int i0), .val (.int i1), .val (.int i2), .val (.int i3), .val (.int i4), .val (.int i5), .val (.int ca), .val (.int cb), .val (.int cc), .val (.int cr), .val (.ref y1), .val (.ref y4), .unset, .unset, .unset, .unset, .unset, .unset, .unset, .unset, .unset, .unset]) (pc' := 61) ?_
  refine siload X4 hx (hb hby at_61) rfl rfl (pc' := 63) ?_
  refine siconst X4 hx (hb hby at_63) rfl rfl (z := 3) (pc' := 64) ?_
  refine siand X4 hx (hb hby at_64) rfl rfl (pc' := 65) ?_
  refine siload X4 hx (hb hby at_65) rfl rfl (pc' := 67) ?_
  refine siload X4 hx (hb hby at_67) rfl rfl (pc' := 69) ?_
  refine siload X4 hx (hb hby at_69) rfl rfl (pc' := 71) ?_
  have f6 := (f3.keep K4 all0)
  have hz7 : n0 ≤ T4.heap.size := by omega
  obtain ⟨_, _, ⟨T7, L7, k7, n7⟩, -, X7, hS2, hg2, ⟨Lc7, hQ7, l7, y7, z7⟩, st7⟩ := callSS X4 hx (y := (⟨"com/example/concordat/concordat/core/DecisionCommittedPinLaw", "mk", "(ICCC)Ljava/lang/String;"⟩ : MethodName)) hown (mvT hZ (hw _ (List.mem_of_getElem? (i := 0) rfl))) (mvT hZ (hw _ (List.mem_of_getElem? (i := 1) rfl))) (mvT hZ (hw _ (List.mem_of_getElem? (i := 2) rfl))) (mvT hZ (hw _ (List.mem_of_getElem? (i := 3) rfl))) (by decide) (backOfV (J := fun vm => oEm Z vm T4.heap) (W := 0) (rmMk l Z a0 hw [] (i4 &&& (3 : Int32)) ca cb cr cz T4.heap n0 hz7 f6 SCS hcz hcH hcw hn_ca hn_cb hn_cr hl_ca hl_cb hl_cr (own_a3 i4)) hZ (hw _ (List.mem_of_getElem? (i := 3) rfl)) (hw _ (List.mem_of_getElem? (i := 2) rfl)) (by decide) (by decide)) (g := (mkF m 71 #[.val (.int i0), .val (.int i1), .val (.int i2), .val (.int i3), .val (.int i4), .val (.int i5), .val (.int ca), .val (.int cb), .val (.int cc), .val (.int cr), .val (.ref y1), .val (.ref y4), .unset, .unset, .unset, .unset, .unset, .unset, .unset, .unset, .unset, .unset] [(.int cr), (.int cb), (.int ca), (.int (i4 &&& (3 : Int32)))])) rfl (by rw [hml]; rfl) (argsL := [(.int (i4 &&& (3 : Int32))), (.int ca), (.int cb), (.int cr)]) (rest := []) (lenOf pd_14 rfl) rfl (by show 2 * 0 + _ ≤ _; exact Nat.le_of_eq rfl) (hb hby at_71) (fun _ hWw => ⟨rfl, rfl, (by decide : 8 + 4 ≤ _), (by decide : 22 + 11 ≤ _), Jj4.warm hWw⟩)
  dsimp only [Pt.U, Pt.locs, Pt.cells, Pt.slots] at X7 l7 y7 z7 st7 hQ7 hS2 hg2
  subst l7 y7 z7
  obtain ⟨X7, hS, hZ, hown⟩ := rebS hS (n1 := T4.heap.size) (by omega) X7 hS2 hg2 hZ hown
  have hk : T7.heap.size ≤ T7.heap.size := Nat.le_refl _
  obtain ⟨y7, d7, rfl, N7q, K7, Ex7, Fv7, Fc7, Vb7, Jj7⟩ := hQ7
  have N7 := Fr.app N4 N7q
  have z8 : T4.heap.size ≤ T7.heap.size := K7.1
  refine oSt st7 ?_
  show oGl p e below (T7.setTop (mkF m 74 #[.val (.int i0), .val (.int i1), .val (.int i2), .val (.int i3), .val (.int i4), .val (.int i5), .val (.int ca), .val (.int cb), .val (.int cc), .val (.int cr), .val (.ref y1), .val (.ref y4), .unset, .unset, .unset, .unset, .unset, .unset, .unset, .unset, .unset, .unset] [(.ref y7)])) _
  refine sastore X7 hx (hb hby at_74) rfl rfl rfl (l' := #[.val (.int i0), .val (.int i1), .val (.int i2), .val (.int i3), .val (.int i4), .val (.int i5), .val (.int ca), .val (.int cb), .val (.int cc), .val (.int cr), .val (.ref y1), .val (.ref y4), .val (.ref y7), .unset, .unset, .unset, .unset, .unset, .unset, .unset, .unset, .unset]) (pc' := 76) ?_
  refine siload X7 hx (hb hby at_76) rfl rfl (pc' := 78) ?_
  refine sbipush X7 hx (hb hby at_78) rfl rfl (z := 8) (pc' := 80) ?_
  refine siushr X7 hx (hb hby at_80) rfl rfl (pc' := 81) ?_
  refine oOn (X7.ldcInt hx hown (mvT hZ (hw _ (List.mem_of_getElem? (i := 26) rfl))) (g := (mkF m 81 #[.val (.int i0), .val (.int i1), .val (.int i2), .val (.int i3), .val (.int i4), .val (.int i5), .val (.int ca), .val (.int cb), .val (.int cc), .val (.int cr), .val (.ref y1), .val (.ref y4), .val (.ref y7), .unset, .unset, .unset, .unset, .unset, .unset, .unset, .unset, .unset] [(.int ((i5.toUInt32 >>> ((8 : Int32) &&& 31).toUInt32).toInt32))])) rfl (hb hby at_81)) ?_
  show oGl p e below (T7.setTop (mkF m 83 #[.val (.int i0), .val (.int i1), .val (.int i2), .val (.int i3), .val (.int i4), .val (.int i5), .val (.int ca), .val (.int cb), .val (.int cc), .val (.int cr), .val (.ref y1), .val (.ref y4), .val (.ref y7), .unset, .unset, .unset, .unset, .unset, .unset, .unset, .unset, .unset] [(.int (65535 : Int32)), (.int ((i5.toUInt32 >>> ((8 : Int32) &&& 31).toUInt32).toInt32))])) _
  refine siand X7 hx (hb hby at_83) rfl rfl (pc' := 84) ?_
  refine siconst X7 hx (hb hby at_84) rfl rfl (z := 3) (pc' := 85) ?_
  refine sirem X7 hx (hb hby at_85) rfl (by decide) rfl (pc' := 86) ?_
  have f9 := (f6.keep K7 all0)
  have hz10 : n0 ≤ T7.heap.size := by omega
  obtain ⟨_, _, ⟨T10, L10, k10, n10⟩, -, X10, ⟨Lc10, hQ10, l10, y10, z10⟩, st10⟩ := Jvm.LawKit.callS X7 hx (y := (⟨"com/example/concordat/concordat/core/DecisionCommittedPinLaw", "pick", "(I)Lcom/example/concordat/concordat/core/AbortReason;"⟩ : MethodName)) hown (mvT hZ (hw _ (List.mem_of_getElem? (i := 27) rfl))) (mvT hZ (hw _ (List.mem_of_getElem? (i := 28) rfl))) (mvT hZ (hw _ (List.mem_of_getElem? (i := 2) rfl))) (mvT hZ (hw _ (List.mem_of_getElem? (i := 29) rfl))) (by decide) (backOf (W := 0) (rmPick l Z a0 hw [] ((((i5.toUInt32 >>> ((8 : Int32) &&& 31).toUInt32).toInt32) &&& (65535 : Int32)) % (3 : Int32)) sCONFLICT sCOMMITTED sABORTED sCHECK_FAILED sUNAVAILABLE T7.heap n0 hz10 f9 SsCONFLICT EsCONFLICT SsCOMMITTED EsCOMMITTED FsCOMMITTED SsABORTED EsABORTED FsABORTED SsCHECK_FAILED EsCHECK_FAILED SsUNAVAILABLE EsUNAVAILABLE) hZ (hw _ (List.mem_of_getElem? (i := 29) rfl)) (hw _ (List.mem_of_getElem? (i := 2) rfl)) (by decide) (by decide)) (g := (mkF m 86 #[.val (.int i0), .val (.int i1), .val (.int i2), .val (.int i3), .val (.int i4), .val (.int i5), .val (.int ca), .val (.int cb), .val (.int cc), .val (.int cr), .val (.ref y1), .val (.ref y4), .val (.ref y7), .unset, .unset, .unset, .unset, .unset, .unset, .unset, .unset, .unset] [(.int ((((i5.toUInt32 >>> ((8 : Int32) &&& 31).toUInt32).toInt32) &&& (65535 : Int32)) % (3 : Int32)))])) rfl (by rw [hml]; rfl) (argsL := [(.int ((((i5.toUInt32 >>> ((8 : Int32) &&& 31).toUInt32).toInt32) &&& (65535 : Int32)) % (3 : Int32)))]) (rest := []) (lenOf pd_15 rfl) rfl (by show 2 * 0 + _ ≤ _; exact Nat.le_of_eq rfl) (hb hby at_86) (fun _ _ => ⟨rfl, rfl, (by decide : 12 + 0 ≤ _), (by decide : 33 + 0 ≤ _)⟩)
  dsimp only [Pt.U, Pt.locs, Pt.cells, Pt.slots] at X10 l10 y10 z10 st10 hQ10
  subst l10 y10 z10
  obtain ⟨r10, rfl, N10q, eh10, Er10⟩ := hQ10
  have N10 := Fr.app N7 N10q
  refine oOn st10 ?_
  show oGl p e below (T10.setTop (mkF m 89 #[.val (.int i0), .val (.int i1), .val (.int i2), .val (.int i3), .val (.int i4), .val (.int i5), .val (.int ca), .val (.int cb), .val (.int cc), .val (.int cr), .val (.ref y1), .val (.ref y4), .val (.ref y7), .unset, .unset, .unset, .unset, .unset, .unset, .unset, .unset, .unset] [(.ref r10)])) _
  refine sastore X10 hx (hb hby at_89) rfl rfl rfl (l' := #[.val (.int i0), .val (.int i1), .val (.int i2), .val (.int i3), .val (.int i4), .val (.int i5), .val (.int ca), .val (.int cb), .val (.int cc), .val (.int cr), .val (.ref y1), .val (.ref y4), .val (.ref y7), .val (.ref r10), .unset, .unset, .unset, .unset, .unset, .unset, .unset, .unset]) (pc' := 91) ?_
  refine saload X10 hx (hb hby at_91) rfl rfl rfl (pc' := 93) ?_
  have f11 := ((Ex1.keep K4).keep K7)
  have hz12 : n0 ≤ T7.heap.size := by omega
  obtain ⟨_, _, ⟨T12, L12, k12, n12⟩, -, X12, hS2, hg2, ⟨Lc12, hQ12, l12, y12, z12⟩, st12⟩ := callSS X10 hx (y := (⟨"com/example/concordat/concordat/core/Decision", "committed", "(Ljava/lang/String;)Lcom/example/concordat/concordat/core/Decision;"⟩ : MethodName)) hown (mvT hZ (hw _ (List.mem_of_getElem? (i := 33) rfl))) (mvT hZ (hw _ (List.mem_of_getElem? (i := 34) rfl))) (mvT hZ (hw _ (List.mem_of_getElem? (i := 35) rfl))) (mvT hZ (hw _ (List.mem_of_getElem? (i := 36) rfl))) (by decide) (backOfS (W := 0) (rmDco l Z a0 hw [] y1 sCONFLICT sCOMMITTED sABORTED sCHECK_FAILED sUNAVAILABLE T7.heap n0 hz12 f9 SsCONFLICT EsCONFLICT SsCOMMITTED EsCOMMITTED FsCOMMITTED SsABORTED EsABORTED FsABORTED SsCHECK_FAILED EsCHECK_FAILED SsUNAVAILABLE EsUNAVAILABLE f11) hZ (hw _ (List.mem_of_getElem? (i := 36) rfl)) (hw _ (List.mem_of_getElem? (i := 35) rfl)) (by decide) (by decide)) (g := (mkF m 93 #[.val (.int i0), .val (.int i1), .val (.int i2), .val (.int i3), .val (.int i4), .val (.int i5), .val (.int ca), .val (.int cb), .val (.int cc), .val (.int cr), .val (.ref y1), .val (.ref y4), .val (.ref y7), .val (.ref r10), .unset, .unset, .unset, .unset, .unset, .unset, .unset, .unset] [(.ref y1)])) rfl (by rw [hml]; rfl) (argsL := [(.ref y1)]) (rest := []) (lenOf pd_16 rfl) rfl (by show 2 * 0 + _ ≤ _; exact Nat.le_of_eq rfl) (hb hby at_93) (fun _ _ => ⟨rfl, eh10, (by decide : 12 + 3 ≤ _), (by decide : 33 + 59 ≤ _)⟩)
  dsimp only [Pt.U, Pt.locs, Pt.cells, Pt.slots] at X12 l12 y12 z12 st12 hQ12 hS2 hg2
  subst l12 y12 z12
  obtain ⟨X12, hS, hZ, hown⟩ := rebS hS (n1 := T10.heap.size) (by rw [eh10]; omega) X12 hS2 hg2 hZ hown
  have hk : T12.heap.size ≤ T12.heap.size := Nat.le_refl _
  obtain ⟨r12, rfl, N12q, K12, Oo12, Ei12, Fa12, Fb12, Fc12⟩ := hQ12
  have N12 := Fr.app N10 N12q
  have z13 : T7.heap.size ≤ T12.heap.size := K12.1
  refine oSt st12 ?_
  show oGl p e below (T12.setTop (mkF m 96 #[.val (.int i0), .val (.int i1), .val (.int i2), .val (.int i3), .val (.int i4), .val (.int i5), .val (.int ca), .val (.int cb), .val (.int cc), .val (.int cr), .val (.ref y1), .val (.ref y4), .val (.ref y7), .val (.ref r10), .unset, .unset, .unset, .unset, .unset, .unset, .unset, .unset] [(.ref r12)])) _
  refine sastore X12 hx (hb hby at_96) rfl rfl rfl (l' := #[.val (.int i0), .val (.int i1), .val (.int i2), .val (.int i3), .val (.int i4), .val (.int i5), .val (.int ca), .val (.int cb), .val (.int cc), .val (.int cr), .val (.ref y1), .val (.ref y4), .val (.ref y7), .val (.ref r10), .val (.ref r12), .unset, .unset, .unset, .unset, .unset, .unset, .unset]) (pc' := 98) ?_
  refine saload X12 hx (hb hby at_98) rfl rfl rfl (pc' := 100) ?_
  have f14 := ((Ex4.keep K7).keep K12)
  have hz15 : n0 ≤ T12.heap.size := by omega
  obtain ⟨_, _, ⟨T15, L15, k15, n15⟩, -, X15, hS2, hg2, ⟨Lc15, hQ15, l15, y15, z15⟩, st15⟩ := callSS X12 hx (y := (⟨"com/example/concordat/concordat/core/Decision", "committed", "(Ljava/lang/String;)Lcom/example/concordat/concordat/core/Decision;"⟩ : MethodName)) hown (mvT hZ (hw _ (List.mem_of_getElem? (i := 33) rfl))) (mvT hZ (hw _ (List.mem_of_getElem? (i := 34) rfl))) (mvT hZ (hw _ (List.mem_of_getElem? (i := 35) rfl))) (mvT hZ (hw _ (List.mem_of_getElem? (i := 36) rfl))) (by decide) (backOfS (W := 0) (rmDco l Z a0 hw [] y4 sCONFLICT sCOMMITTED sABORTED sCHECK_FAILED sUNAVAILABLE T12.heap n0 hz15 Oo12 SsCONFLICT EsCONFLICT SsCOMMITTED EsCOMMITTED FsCOMMITTED SsABORTED EsABORTED FsABORTED SsCHECK_FAILED EsCHECK_FAILED SsUNAVAILABLE EsUNAVAILABLE f14) hZ (hw _ (List.mem_of_getElem? (i := 36) rfl)) (hw _ (List.mem_of_getElem? (i := 35) rfl)) (by decide) (by decide)) (g := (mkF m 100 #[.val (.int i0), .val (.int i1), .val (.int i2), .val (.int i3), .val (.int i4), .val (.int i5), .val (.int ca), .val (.int cb), .val (.int cc), .val (.int cr), .val (.ref y1), .val (.ref y4), .val (.ref y7), .val (.ref r10), .val (.ref r12), .unset, .unset, .unset, .unset, .unset, .unset, .unset] [(.ref y4)])) rfl (by rw [hml]; rfl) (argsL := [(.ref y4)]) (rest := []) (lenOf pd_16 rfl) rfl (by show 2 * 0 + _ ≤ _; exact Nat.le_of_eq rfl) (hb hby at_100) (fun _ _ => ⟨rfl, rfl, (by decide : 15 + 3 ≤ _), (by decide : 92 + 59 ≤ _)⟩)
  dsimp only [Pt.U, Pt.locs, Pt.cells, Pt.slots] at X15 l15 y15 z15 st15 hQ15 hS2 hg2
  subst l15 y15 z15
  obtain ⟨X15, hS, hZ, hown⟩ := rebS hS (n1 := T12.heap.size) (by omega) X15 hS2 hg2 hZ hown
  have hk : T15.heap.size ≤ T15.heap.size := Nat.le_refl _
  obtain ⟨r15, rfl, N15q, K15, Oo15, Ei15, Fa15, Fb15, Fc15⟩ := hQ15
  have N15 := Fr.app N12 N15q
  have z16 : T12.heap.size ≤ T15.heap.size := K15.1
  refine oSt st15 ?_
  show oGl p e below (T15.setTop (mkF m 103 #[.val (.int i0), .val (.int i1), .val (.int i2), .val (.int i3), .val (.int i4), .val (.int i5), .val (.int ca), .val (.int cb), .val (.int cc), .val (.int cr), .val (.ref y1), .val (.ref y4), .val (.ref y7), .val (.ref r10), .val (.ref r12), .unset, .unset, .unset, .unset, .unset, .unset, .unset] [(.ref r15)])) _
  refine sastore X15 hx (hb hby at_103) rfl rfl rfl (l' := #[.val (.int i0), .val (.int i1), .val (.int i2), .val (.int i3), .val (.int i4), .val (.int i5), .val (.int ca), .val (.int cb), .val (.int cc), .val (.int cr), .val (.ref y1), .val (.ref y4), .val (.ref y7), .val (.ref r10), .val (.ref r12), .val (.ref r15), .unset, .unset, .unset, .unset, .unset, .unset]) (pc' := 105) ?_
  refine saload X15 hx (hb hby at_105) rfl rfl rfl (pc' := 107) ?_
  have f17 := ((Ex7.keep K12).keep K15)
  have hz18 : n0 ≤ T15.heap.size := by omega
  obtain ⟨_, _, ⟨T18, L18, k18, n18⟩, -, X18, hS2, hg2, ⟨Lc18, hQ18, l18, y18, z18⟩, st18⟩ := callSS X15 hx (y := (⟨"com/example/concordat/concordat/core/Decision", "committed", "(Ljava/lang/String;)Lcom/example/concordat/concordat/core/Decision;"⟩ : MethodName)) hown (mvT hZ (hw _ (List.mem_of_getElem? (i := 33) rfl))) (mvT hZ (hw _ (List.mem_of_getElem? (i := 34) rfl))) (mvT hZ (hw _ (List.mem_of_getElem? (i := 35) rfl))) (mvT hZ (hw _ (List.mem_of_getElem? (i := 36) rfl))) (by decide) (backOfS (W := 0) (rmDco l Z a0 hw [] y7 sCONFLICT sCOMMITTED sABORTED sCHECK_FAILED sUNAVAILABLE T15.heap n0 hz18 Oo15 SsCONFLICT EsCONFLICT SsCOMMITTED EsCOMMITTED FsCOMMITTED SsABORTED EsABORTED FsABORTED SsCHECK_FAILED EsCHECK_FAILED SsUNAVAILABLE EsUNAVAILABLE f17) hZ (hw _ (List.mem_of_getElem? (i := 36) rfl)) (hw _ (List.mem_of_getElem? (i := 35) rfl)) (by decide) (by decide)) (g := (mkF m 107 #[.val (.int i0), .val (.int i1), .val (.int i2), .val (.int i3), .val (.int i4), .val (.int i5), .val (.int ca), .val (.int cb), .val (.int cc), .val (.int cr), .val (.ref y1), .val (.ref y4), .val (.ref y7), .val (.ref r10), .val (.ref r12), .val (.ref r15), .unset, .unset, .unset, .unset, .unset, .unset] [(.ref y7)])) rfl (by rw [hml]; rfl) (argsL := [(.ref y7)]) (rest := []) (lenOf pd_16 rfl) rfl (by show 2 * 0 + _ ≤ _; exact Nat.le_of_eq rfl) (hb hby at_107) (fun _ _ => ⟨rfl, rfl, (by decide : 18 + 3 ≤ _), (by decide : 151 + 59 ≤ _)⟩)
  dsimp only [Pt.U, Pt.locs, Pt.cells, Pt.slots] at X18 l18 y18 z18 st18 hQ18 hS2 hg2
  subst l18 y18 z18
  obtain ⟨X18, hS, hZ, hown⟩ := rebS hS (n1 := T15.heap.size) (by omega) X18 hS2 hg2 hZ hown
  have hk : T18.heap.size ≤ T18.heap.size := Nat.le_refl _
  obtain ⟨r18, rfl, N18q, K18, Oo18, Ei18, Fa18, Fb18, Fc18⟩ := hQ18
  have N18 := Fr.app N15 N18q
  have z19 : T15.heap.size ≤ T18.heap.size := K18.1
  refine oSt st18 ?_
  show oGl p e below (T18.setTop (mkF m 110 #[.val (.int i0), .val (.int i1), .val (.int i2), .val (.int i3), .val (.int i4), .val (.int i5), .val (.int ca), .val (.int cb), .val (.int cc), .val (.int cr), .val (.ref y1), .val (.ref y4), .val (.ref y7), .val (.ref r10), .val (.ref r12), .val (.ref r15), .unset, .unset, .unset, .unset, .unset, .unset] [(.ref r18)])) _
  refine sastore X18 hx (hb hby at_110) rfl rfl rfl (l' := #[.val (.int i0), .val (.int i1), .val (.int i2), .val (.int i3), .val (.int i4), .val (.int i5), .val (.int ca), .val (.int cb), .val (.int cc), .val (.int cr), .val (.ref y1), .val (.ref y4), .val (.ref y7), .val (.ref r10), .val (.ref r12), .val (.ref r15), .val (.ref r18), .unset, .unset, .unset, .unset, .unset]) (pc' := 112) ?_
  refine saload X18 hx (hb hby at_112) rfl rfl rfl (pc' := 114) ?_
  refine saload X18 hx (hb hby at_114) rfl rfl rfl (pc' := 116) ?_
  have f20 := (((f11.keep K12).keep K15).keep K18)
  have f21 := (((Er10.keep K12).keep K15).keep K18)
  have hz22 : n0 ≤ T18.heap.size := by omega
  obtain ⟨_, _, ⟨T22, L22, k22, n22⟩, -, X22, hS2, hg2, ⟨Lc22, hQ22, l22, y22, z22⟩, st22⟩ := callSS X18 hx (y := (⟨"com/example/concordat/concordat/core/Decision", "aborted", "(Ljava/lang/String;Lcom/example/concordat/concordat/core/AbortReason;)Lcom/example/concordat/concordat/core/Decision;"⟩ : MethodName)) hown (mvT hZ (hw _ (List.mem_of_getElem? (i := 58) rfl))) (mvT hZ (hw _ (List.mem_of_getElem? (i := 59) rfl))) (mvT hZ (hw _ (List.mem_of_getElem? (i := 35) rfl))) (mvT hZ (hw _ (List.mem_of_getElem? (i := 60) rfl))) (by decide) (backOfS (W := 0) (rmDab l Z a0 hw [] y1 r10 sCONFLICT sCOMMITTED sABORTED sCHECK_FAILED sUNAVAILABLE T18.heap n0 hz22 Oo18 SsCONFLICT EsCONFLICT SsCOMMITTED EsCOMMITTED FsCOMMITTED SsABORTED EsABORTED FsABORTED SsCHECK_FAILED EsCHECK_FAILED SsUNAVAILABLE EsUNAVAILABLE f20 f21) hZ (hw _ (List.mem_of_getElem? (i := 60) rfl)) (hw _ (List.mem_of_getElem? (i := 35) rfl)) (by decide) (by decide)) (g := (mkF m 116 #[.val (.int i0), .val (.int i1), .val (.int i2), .val (.int i3), .val (.int i4), .val (.int i5), .val (.int ca), .val (.int cb), .val (.int cc), .val (.int cr), .val (.ref y1), .val (.ref y4), .val (.ref y7), .val (.ref r10), .val (.ref r12), .val (.ref r15), .val (.ref r18), .unset, .unset, .unset, .unset, .unset] [(.ref r10), (.ref y1)])) rfl (by rw [hml]; rfl) (argsL := [(.ref y1), (.ref r10)]) (rest := []) (lenOf pd_17 rfl) rfl (by show 2 * 0 + _ ≤ _; exact Nat.le_of_eq rfl) (hb hby at_116) (fun _ _ => ⟨rfl, rfl, (by decide : 21 + 3 ≤ _), (by decide : 210 + 59 ≤ _)⟩)
  dsimp only [Pt.U, Pt.locs, Pt.cells, Pt.slots] at X22 l22 y22 z22 st22 hQ22 hS2 hg2
  subst l22 y22 z22
  obtain ⟨X22, hS, hZ, hown⟩ := rebS hS (n1 := T18.heap.size) (by omega) X22 hS2 hg2 hZ hown
  have hk : T22.heap.size ≤ T22.heap.size := Nat.le_refl _
  obtain ⟨r22, rfl, N22q, K22, Oo22, Ei22, Fa22, Fb22, Fc22⟩ := hQ22
  have N22 := Fr.app N18 N22q
  have z23 : T18.heap.size ≤ T22.heap.size := K22.1
  refine oSt st22 ?_
  show oGl p e below (T22.setTop (mkF m 119 #[.val (.int i0), .val (.int i1), .val (.int i2), .val (.int i3), .val (.int i4), .val (.int i5), .val (.int ca), .val (.int cb), .val (.int cc), .val (.int cr), .val (.ref y1), .val (.ref y4), .val (.ref y7), .val (.ref r10), .val (.ref r12), .val (.ref r15), .val (.ref r18), .unset, .unset, .unset, .unset, .unset] [(.ref r22)])) _
  refine sastore X22 hx (hb hby at_119) rfl rfl rfl (l' := #[.val (.int i0), .val (.int i1), .val (.int i2), .val (.int i3), .val (.int i4), .val (.int i5), .val (.int ca), .val (.int cb), .val (.int cc), .val (.int cr), .val (.ref y1), .val (.ref y4), .val (.ref y7), .val (.ref r10), .val (.ref r12), .val (.ref r15), .val (.ref r18), .val (.ref r22), .unset, .unset, .unset, .unset]) (pc' := 121) ?_
  refine saload X22 hx (hb hby at_121) rfl rfl rfl (pc' := 123) ?_
  have f24 := (((Fa12.keep K15 nin0).keep K18 nin0).keep K22 nin0)
  have hz25 : n0 ≤ T22.heap.size := by omega
  have f26 := (((Ei12.keep K15).keep K18).keep K22)
  obtain ⟨cq25, kq25, q25a, q25b, q25c⟩ := isOf hZ rfl f26
  obtain ⟨_, _, ⟨T25, L25, k25, n25⟩, -, X25, ⟨Lc25, hQ25, l25, y25, z25⟩, st25⟩ := X22.virtualBack hx (y := (⟨"com/example/concordat/concordat/core/Decision", "getTransactionId", "()Ljava/lang/String;"⟩ : MethodName)) (z := (⟨"com/example/concordat/concordat/core/Decision", "getTransactionId", "()Ljava/lang/String;"⟩ : MethodName)) hown (mvT hZ (hw _ (List.mem_of_getElem? (i := 68) rfl))) (mvT hZ (hw _ (List.mem_of_getElem? (i := 69) rfl))) (notFace_of_selects (args := #[]) (mvT hZ (hw _ (List.mem_of_getElem? (i := 71) rfl)))) (mvT hZ (hw _ (List.mem_of_getElem? (i := 71) rfl))) (mvT hZ (hw _ (List.mem_of_getElem? (i := 70) rfl))) (by decide) (backOf (W := 0) (rm_getTransactionId l Z a0 hw [] r12 y1 T22.heap n0 hz25 f24) hZ (hw _ (List.mem_of_getElem? (i := 72) rfl)) (hw _ (List.mem_of_getElem? (i := 35) rfl)) (by decide) (by decide)) q25a q25c (g := (mkF m 123 #[.val (.int i0), .val (.int i1), .val (.int i2), .val (.int i3), .val (.int i4), .val (.int i5), .val (.int ca), .val (.int cb), .val (.int cc), .val (.int cr), .val (.ref y1), .val (.ref y4), .val (.ref y7), .val (.ref r10), .val (.ref r12), .val (.ref r15), .val (.ref r18), .val (.ref r22), .unset, .unset, .unset, .unset] [(.ref r12)])) rfl (by rw [hml]; rfl) (Steps.refl _) (argsL := []) (rest := []) (lenOf pd_18 rfl) rfl (by show 2 * 0 + _ ≤ _; exact Nat.le_of_eq rfl) (hb hby at_123) (fun _ _ => ⟨rfl, rfl, (by decide : 24 + 0 ≤ _), (by decide : 269 + 0 ≤ _)⟩)
  dsimp only [Pt.U, Pt.locs, Pt.cells, Pt.slots] at X25 l25 y25 z25 st25 hQ25
  subst l25 y25 z25
  obtain ⟨rfl, N25q, eh25⟩ := hQ25
  have N25 := Fr.app N22 N25q
  refine oSt st25 ?_
  show oGl p e below (T25.setTop (mkF m 126 #[.val (.int i0), .val (.int i1), .val (.int i2), .val (.int i3), .val (.int i4), .val (.int i5), .val (.int ca), .val (.int cb), .val (.int cc), .val (.int cr), .val (.ref y1), .val (.ref y4), .val (.ref y7), .val (.ref r10), .val (.ref r12), .val (.ref r15), .val (.ref r18), .val (.ref r22), .unset, .unset, .unset, .unset] [(.ref y1)])) _
  refine saload X25 hx (hb hby at_126) rfl rfl rfl (pc' := 128) ?_
  have f27 := (f20.keep K22)
  have f28 := ((((((Fv1.keep K4 nin0).keep K7 nin0).keep K12 nin0).keep K15 nin0).keep K18 nin0).keep K22 nin0)
  have f29 := ((((((Fc1.keep K4 nin0).keep K7 nin0).keep K12 nin0).keep K15 nin0).keep K18 nin0).keep K22 nin0)
  have f30 := ((((((Vb1.keep K4 nin0).keep K7 nin0).keep K12 nin0).keep K15 nin0).keep K18 nin0).keep K22 nin0)
  have hz31 : n0 ≤ T22.heap.size := by omega
  obtain ⟨cq31, kq31, q31a, q31b, q31c⟩ := isOf hZ eh25 f27
  obtain ⟨_, _, ⟨T31, L31, k31, n31⟩, -, X31, ⟨Lc31, hQ31, l31, y31, z31⟩, st31⟩ := X25.virtualBack hx (y := (⟨"java/lang/String", "equals", "(Ljava/lang/Object;)Z"⟩ : MethodName)) (z := (⟨"java/lang/String", "equals", "(Ljava/lang/Object;)Z"⟩ : MethodName)) hown (mvT hZ (hw _ (List.mem_of_getElem? (i := 73) rfl))) (mvT hZ (hw _ (List.mem_of_getElem? (i := 74) rfl))) (notFace_of_selects (args := #[]) (mvT hZ (hw _ (List.mem_of_getElem? (i := 76) rfl)))) (mvT hZ (hw _ (List.mem_of_getElem? (i := 76) rfl))) (mvT hZ (hw _ (List.mem_of_getElem? (i := 75) rfl))) (by decide) (backOf (W := 0) (rmSEq l Z a0 hw [] y1 y1 d1 d1 (i0 &&& (3 : Int32)).toInt.toNat (i0 &&& (3 : Int32)).toInt.toNat (oLo (mkC ca cb cc)) (oLo (mkC ca cb cc)) cz T22.heap n0 hz31 Oo22 SCS hcz f27 f28 f29 f30 f27 f28 f29 f30) hZ (hw _ (List.mem_of_getElem? (i := 77) rfl)) (hw _ (List.mem_of_getElem? (i := 6) rfl)) (by decide) (by decide)) q31a q31c (g := (mkF m 128 #[.val (.int i0), .val (.int i1), .val (.int i2), .val (.int i3), .val (.int i4), .val (.int i5), .val (.int ca), .val (.int cb), .val (.int cc), .val (.int cr), .val (.ref y1), .val (.ref y4), .val (.ref y7), .val (.ref r10), .val (.ref r12), .val (.ref r15), .val (.ref r18), .val (.ref r22), .unset, .unset, .unset, .unset] [(.ref y1), (.ref y1)])) rfl (by rw [hml]; rfl) (Steps.refl _) (argsL := [(.ref y1)]) (rest := []) (lenOf pd_13 rfl) rfl (by show 2 * 0 + _ ≤ _; exact Nat.le_of_eq rfl) (hb hby at_128) (fun _ _ => ⟨rfl, eh25, (by decide : 24 + 0 ≤ _), (by decide : 269 + 0 ≤ _)⟩)
  dsimp only [Pt.U, Pt.locs, Pt.cells, Pt.slots] at X31 l31 y31 z31 st31 hQ31
  subst l31 y31 z31
  obtain ⟨r31, rfl, N31q, eh31, pq31⟩ := hQ31
  have N31 := Fr.app N25 N31q
  refine oSt st31 ?_
  show oGl p e below (T31.setTop (mkF m 131 #[.val (.int i0), .val (.int i1), .val (.int i2), .val (.int i3), .val (.int i4), .val (.int i5), .val (.int ca), .val (.int cb), .val (.int cc), .val (.int cr), .val (.ref y1), .val (.ref y4), .val (.ref y7), .val (.ref r10), .val (.ref r12), .val (.ref r15), .val (.ref r18), .val (.ref r22), .unset, .unset, .unset, .unset] [(.int r31)])) _
  obtain rfl : r31 = (1 : Int32) := by
    rcases pq31 with q | q
    · exact q.1
    · exact absurd ⟨rfl, fun _ _ => rfl⟩ q.2
  show oGl p e below (T31.setTop (mkF m 131 #[.val (.int i0), .val (.int i1), .val (.int i2), .val (.int i3), .val (.int i4), .val (.int i5), .val (.int ca), .val (.int cb), .val (.int cc), .val (.int cr), .val (.ref y1), .val (.ref y4), .val (.ref y7), .val (.ref r10), .val (.ref r12), .val (.ref r15), .val (.ref r18), .val (.ref r22), .unset, .unset, .unset, .unset] [(.int (1 : Int32))])) _
  refine sifN X31 hx (hb hby at_131) rfl (feq (by decide : ¬ ((1 : Int32) = (0 : Int32)))).1 (pc' := 134) ?_
  refine saload X31 hx (hb hby at_134) rfl rfl rfl (pc' := 136) ?_
  have f32 := (((Fb12.keep K15 nin0).keep K18 nin0).keep K22 nin0)
  have hz33 : n0 ≤ T22.heap.size := by omega
  obtain ⟨cq33, kq33, q33a, q33b, q33c⟩ := isOf hZ eh31 f26
  obtain ⟨_, _, ⟨T33, L33, k33, n33⟩, -, X33, ⟨Lc33, hQ33, l33, y33, z33⟩, st33⟩ := X31.virtualBack hx (y := (⟨"com/example/concordat/concordat/core/Decision", "getOutcome", "()Lcom/example/concordat/concordat/core/Outcome;"⟩ : MethodName)) (z := (⟨"com/example/concordat/concordat/core/Decision", "getOutcome", "()Lcom/example/concordat/concordat/core/Outcome;"⟩ : MethodName)) hown (mvT hZ (hw _ (List.mem_of_getElem? (i := 78) rfl))) (mvT hZ (hw _ (List.mem_of_getElem? (i := 79) rfl))) (notFace_of_selects (args := #[]) (mvT hZ (hw _ (List.mem_of_getElem? (i := 81) rfl)))) (mvT hZ (hw _ (List.mem_of_getElem? (i := 81) rfl))) (mvT hZ (hw _ (List.mem_of_getElem? (i := 80) rfl))) (by decide) (backOf (W := 0) (rm_getOutcome l Z a0 hw [] r12 sCOMMITTED T22.heap n0 hz33 f32) hZ (hw _ (List.mem_of_getElem? (i := 82) rfl)) (hw _ (List.mem_of_getElem? (i := 35) rfl)) (by decide) (by decide)) q33a q33c (g := (mkF m 136 #[.val (.int i0), .val (.int i1), .val (.int i2), .val (.int i3), .val (.int i4), .val (.int i5), .val (.int ca), .val (.int cb), .val (.int cc), .val (.int cr), .val (.ref y1), .val (.ref y4), .val (.ref y7), .val (.ref r10), .val (.ref r12), .val (.ref r15), .val (.ref r18), .val (.ref r22), .unset, .unset, .unset, .unset] [(.ref r12)])) rfl (by rw [hml]; rfl) (Steps.refl _) (argsL := []) (rest := []) (lenOf pd_19 rfl) rfl (by show 2 * 0 + _ ≤ _; exact Nat.le_of_eq rfl) (hb hby at_136) (fun _ _ => ⟨rfl, eh31, (by decide : 24 + 0 ≤ _), (by decide : 269 + 0 ≤ _)⟩)
  dsimp only [Pt.U, Pt.locs, Pt.cells, Pt.slots] at X33 l33 y33 z33 st33 hQ33
  subst l33 y33 z33
  obtain ⟨rfl, N33q, eh33⟩ := hQ33
  have N33 := Fr.app N31 N33q
  refine oSt st33 ?_
  show oGl p e below (T33.setTop (mkF m 139 #[.val (.int i0), .val (.int i1), .val (.int i2), .val (.int i3), .val (.int i4), .val (.int i5), .val (.int ca), .val (.int cb), .val (.int cc), .val (.int cr), .val (.ref y1), .val (.ref y4), .val (.ref y7), .val (.ref r10), .val (.ref r12), .val (.ref r15), .val (.ref r18), .val (.ref r22), .unset, .unset, .unset, .unset] [(.ref sCOMMITTED)])) _
  obtain ⟨T34, X34, e34, st34⟩ := getS2 X33 hx hZ hown (host := "") (Or.inl (hw _ (List.mem_of_getElem? (i := 83) rfl))) Via.refl eh33 (SsCOMMITTED.ext Oo22.2) (g := (mkF m 139 #[.val (.int i0), .val (.int i1), .val (.int i2), .val (.int i3), .val (.int i4), .val (.int i5), .val (.int ca), .val (.int cb), .val (.int cc), .val (.int cr), .val (.ref y1), .val (.ref y4), .val (.ref y7), .val (.ref r10), .val (.ref r12), .val (.ref r15), .val (.ref r18), .val (.ref r22), .unset, .unset, .unset, .unset] [(.ref sCOMMITTED)])) rfl (hb hby at_139)
  refine oOn st34 ?_
  show oGl p e below (T34.setTop (mkF m 142 #[.val (.int i0), .val (.int i1), .val (.int i2), .val (.int i3), .val (.int i4), .val (.int i5), .val (.int ca), .val (.int cb), .val (.int cc), .val (.int cr), .val (.ref y1), .val (.ref y4), .val (.ref y7), .val (.ref r10), .val (.ref r12), .val (.ref r15), .val (.ref r18), .val (.ref r22), .unset, .unset, .unset, .unset] [(.ref sCOMMITTED), (.ref sCOMMITTED)])) _
  refine oOn (fun _ kK => Jvm.RoadKit.acmp (g := (mkF m 142 #[.val (.int i0), .val (.int i1), .val (.int i2), .val (.int i3), .val (.int i4), .val (.int i5), .val (.int ca), .val (.int cb), .val (.int cc), .val (.int cr), .val (.ref y1), .val (.ref y4), .val (.ref y7), .val (.ref r10), .val (.ref r12), .val (.ref r15), .val (.ref r18), .val (.ref r22), .unset, .unset, .unset, .unset] [(.ref sCOMMITTED), (.ref sCOMMITTED)])) X34 hx rfl rfl rfl (pc0 := 142) (pc' := 145) (same := true) rfl (hb hby at_142) rfl (decide_eq_true rfl) (by decide) (by decide) kK) ?_
  show oGl p e below (T34.setTop (mkF m 145 #[.val (.int i0), .val (.int i1), .val (.int i2), .val (.int i3), .val (.int i4), .val (.int i5), .val (.int ca), .val (.int cb), .val (.int cc), .val (.int cr), .val (.ref y1), .val (.ref y4), .val (.ref y7), .val (.ref r10), .val (.ref r12), .val (.ref r15), .val (.ref r18), .val (.ref r22), .unset, .unset, .unset, .unset] [])) _
  refine saload X34 hx (hb hby at_145) rfl rfl rfl (pc' := 147) ?_
  have f35 := (((Fc12.keep K15 nin0).keep K18 nin0).keep K22 nin0)
  have hz36 : n0 ≤ T22.heap.size := by omega
  obtain ⟨cq36, kq36, q36a, q36b, q36c⟩ := isOf hZ e34 f26
  obtain ⟨_, _, ⟨T36, L36, k36, n36⟩, -, X36, ⟨Lc36, hQ36, l36, y36, z36⟩, st36⟩ := X34.virtualBack hx (y := (⟨"com/example/concordat/concordat/core/Decision", "getReason", "()Lcom/example/concordat/concordat/core/AbortReason;"⟩ : MethodName)) (z := (⟨"com/example/concordat/concordat/core/Decision", "getReason", "()Lcom/example/concordat/concordat/core/AbortReason;"⟩ : MethodName)) hown (mvT hZ (hw _ (List.mem_of_getElem? (i := 84) rfl))) (mvT hZ (hw _ (List.mem_of_getElem? (i := 85) rfl))) (notFace_of_selects (args := #[]) (mvT hZ (hw _ (List.mem_of_getElem? (i := 87) rfl)))) (mvT hZ (hw _ (List.mem_of_getElem? (i := 87) rfl))) (mvT hZ (hw _ (List.mem_of_getElem? (i := 86) rfl))) (by decide) (backOf (W := 0) (rm_getReason l Z a0 hw [] r12  T22.heap n0 hz36 f35) hZ (hw _ (List.mem_of_getElem? (i := 88) rfl)) (hw _ (List.mem_of_getElem? (i := 35) rfl)) (by decide) (by decide)) q36a q36c (g := (mkF m 147 #[.val (.int i0), .val (.int i1), .val (.int i2), .val (.int i3), .val (.int i4), .val (.int i5), .val (.int ca), .val (.int cb), .val (.int cc), .val (.int cr), .val (.ref y1), .val (.ref y4), .val (.ref y7), .val (.ref r10), .val (.ref r12), .val (.ref r15), .val (.ref r18), .val (.ref r22), .unset, .unset, .unset, .unset] [(.ref r12)])) rfl (by rw [hml]; rfl) (Steps.refl _) (argsL := []) (rest := []) (lenOf pd_20 rfl) rfl (by show 2 * 0 + _ ≤ _; exact Nat.le_of_eq rfl) (hb hby at_147) (fun _ _ => ⟨rfl, e34, (by decide : 24 + 0 ≤ _), (by decide : 269 + 0 ≤ _)⟩)
  dsimp only [Pt.U, Pt.locs, Pt.cells, Pt.slots] at X36 l36 y36 z36 st36 hQ36
  subst l36 y36 z36
  obtain ⟨rfl, N36q, eh36⟩ := hQ36
  have N36 := Fr.app N33 N36q
  refine oSt st36 ?_
  show oGl p e below (T36.setTop (mkF m 150 #[.val (.int i0), .val (.int i1), .val (.int i2), .val (.int i3), .val (.int i4), .val (.int i5), .val (.int ca), .val (.int cb), .val (.int cc), .val (.int cr), .val (.ref y1), .val (.ref y4), .val (.ref y7), .val (.ref r10), .val (.ref r12), .val (.ref r15), .val (.ref r18), .val (.ref r22), .unset, .unset, .unset, .unset] [.null])) _
  refine sifnonnullN X36 hx (hb hby at_150) rfl  (pc' := 153) ?_
  refine siconst X36 hx (hb hby at_153) rfl rfl (z := 1) (pc' := 154) ?_
  refine sgoto X36 hx (hb hby at_154) (by decide) (by decide)  (pc' := 158) ?_
  refine sistore X36 hx (hb hby at_158) rfl rfl (l' := #[.val (.int i0), .val (.int i1), .val (.int i2), .val (.int i3), .val (.int i4), .val (.int i5), .val (.int ca), .val (.int cb), .val (.int cc), .val (.int cr), .val (.ref y1), .val (.ref y4), .val (.ref y7), .val (.ref r10), .val (.ref r12), .val (.ref r15), .val (.ref r18), .val (.ref r22), .val (.int (1 : Int32)), .unset, .unset, .unset]) (pc' := 160) ?_
  refine saload X36 hx (hb hby at_160) rfl rfl rfl (pc' := 162) ?_
  refine saload X36 hx (hb hby at_162) rfl rfl rfl (pc' := 164) ?_
  have f37 := (((f14.keep K15).keep K18).keep K22)
  have f38 := (((((Fv4.keep K7 nin0).keep K12 nin0).keep K15 nin0).keep K18 nin0).keep K22 nin0)
  have f39 := (((((Fc4.keep K7 nin0).keep K12 nin0).keep K15 nin0).keep K18 nin0).keep K22 nin0)
  have f40 := (((((Vb4.keep K7 nin0).keep K12 nin0).keep K15 nin0).keep K18 nin0).keep K22 nin0)
  have f41 := ((Ei15.keep K18).keep K22)
  have f42 := ((Fa15.keep K18 nin0).keep K22 nin0)
  have f43 := ((Fb15.keep K18 nin0).keep K22 nin0)
  have f44 := ((Fc15.keep K18 nin0).keep K22 nin0)
  have hz45 : n0 ≤ T22.heap.size := by omega
  obtain ⟨cq45, kq45, q45a, q45b, q45c⟩ := isOf hZ eh36 f26
  obtain ⟨_, _, ⟨T45, L45, k45, n45⟩, -, X45, ⟨Lc45, hQ45, l45, y45, z45⟩, st45⟩ := X36.virtualBack hx (y := (⟨"com/example/concordat/concordat/core/Decision", "equals", "(Ljava/lang/Object;)Z"⟩ : MethodName)) (z := (⟨"com/example/concordat/concordat/core/Decision", "equals", "(Ljava/lang/Object;)Z"⟩ : MethodName)) hown (mvT hZ (hw _ (List.mem_of_getElem? (i := 89) rfl))) (mvT hZ (hw _ (List.mem_of_getElem? (i := 90) rfl))) (notFace_of_selects (args := #[]) (mvT hZ (hw _ (List.mem_of_getElem? (i := 92) rfl)))) (mvT hZ (hw _ (List.mem_of_getElem? (i := 92) rfl))) (mvT hZ (hw _ (List.mem_of_getElem? (i := 91) rfl))) (by decide) (backOf (W := 0) (rmDeq l Z a0 hw [] r12 r15 sCOMMITTED y1 y4 d1 d4 (i0 &&& (3 : Int32)).toInt.toNat (i0 &&& (3 : Int32)).toInt.toNat (oLo (mkC ca cb cc)) (oLo (mkC ca cb cc)) cz T22.heap n0 hz45 Oo22 SCS hcz f27 f28 f29 f30 f37 f38 f39 f40 f26 f41 f24 f32 f35 f42 f43 f44) hZ (hw _ (List.mem_of_getElem? (i := 93) rfl)) (hw _ (List.mem_of_getElem? (i := 35) rfl)) (by decide) (by decide)) q45a q45c (g := (mkF m 164 #[.val (.int i0), .val (.int i1), .val (.int i2), .val (.int i3), .val (.int i4), .val (.int i5), .val (.int ca), .val (.int cb), .val (.int cc), .val (.int cr), .val (.ref y1), .val (.ref y4), .val (.ref y7), .val (.ref r10), .val (.ref r12), .val (.ref r15), .val (.ref r18), .val (.ref r22), .val (.int (1 : Int32)), .unset, .unset, .unset] [(.ref r15), (.ref r12)])) rfl (by rw [hml]; rfl) (Steps.refl _) (argsL := [(.ref r15)]) (rest := []) (lenOf pd_13 rfl) rfl (by show 2 * 0 + _ ≤ _; exact Nat.le_of_eq rfl) (hb hby at_164) (fun _ _ => ⟨rfl, eh36, (by decide : 24 + 0 ≤ _), (by decide : 269 + 0 ≤ _)⟩)
  dsimp only [Pt.U, Pt.locs, Pt.cells, Pt.slots] at X45 l45 y45 z45 st45 hQ45
  subst l45 y45 z45
  obtain ⟨r45, rfl, N45q, eh45, pq45⟩ := hQ45
  have N45 := Fr.app N36 N45q
  refine oSt st45 ?_
  show oGl p e below (T45.setTop (mkF m 167 #[.val (.int i0), .val (.int i1), .val (.int i2), .val (.int i3), .val (.int i4), .val (.int i5), .val (.int ca), .val (.int cb), .val (.int cc), .val (.int cr), .val (.ref y1), .val (.ref y4), .val (.ref y7), .val (.ref r10), .val (.ref r12), .val (.ref r15), .val (.ref r18), .val (.ref r22), .val (.int (1 : Int32)), .unset, .unset, .unset] [(.int r45)])) _
  obtain rfl : r45 = (1 : Int32) := by
    rcases pq45 with q | q
    · exact q.1
    · exact absurd ⟨rfl, fun _ _ => rfl⟩ q.2
  show oGl p e below (T45.setTop (mkF m 167 #[.val (.int i0), .val (.int i1), .val (.int i2), .val (.int i3), .val (.int i4), .val (.int i5), .val (.int ca), .val (.int cb), .val (.int cc), .val (.int cr), .val (.ref y1), .val (.ref y4), .val (.ref y7), .val (.ref r10), .val (.ref r12), .val (.ref r15), .val (.ref r18), .val (.ref r22), .val (.int (1 : Int32)), .unset, .unset, .unset] [(.int (1 : Int32))])) _
  refine sistore X45 hx (hb hby at_167) rfl rfl (l' := #[.val (.int i0), .val (.int i1), .val (.int i2), .val (.int i3), .val (.int i4), .val (.int i5), .val (.int ca), .val (.int cb), .val (.int cc), .val (.int cr), .val (.ref y1), .val (.ref y4), .val (.ref y7), .val (.ref r10), .val (.ref r12), .val (.ref r15), .val (.ref r18), .val (.ref r22), .val (.int (1 : Int32)), .val (.int (1 : Int32)), .unset, .unset]) (pc' := 169) ?_
  refine saload X45 hx (hb hby at_169) rfl rfl rfl (pc' := 171) ?_
  refine saload X45 hx (hb hby at_171) rfl rfl rfl (pc' := 173) ?_
  have f46 := ((f17.keep K18).keep K22)
  have f47 := ((((Fv7.keep K12 nin0).keep K15 nin0).keep K18 nin0).keep K22 nin0)
  have f48 := ((((Fc7.keep K12 nin0).keep K15 nin0).keep K18 nin0).keep K22 nin0)
  have f49 := ((((Vb7.keep K12 nin0).keep K15 nin0).keep K18 nin0).keep K22 nin0)
  have f50 := (Ei18.keep K22)
  have f51 := (Fa18.keep K22 nin0)
  have f52 := (Fb18.keep K22 nin0)
  have f53 := (Fc18.keep K22 nin0)
  have hz54 : n0 ≤ T22.heap.size := by omega
  obtain ⟨cq54, kq54, q54a, q54b, q54c⟩ := isOf hZ eh45 f26
  obtain ⟨_, _, ⟨T54, L54, k54, n54⟩, -, X54, ⟨Lc54, hQ54, l54, y54, z54⟩, st54⟩ := X45.virtualBack hx (y := (⟨"com/example/concordat/concordat/core/Decision", "equals", "(Ljava/lang/Object;)Z"⟩ : MethodName)) (z := (⟨"com/example/concordat/concordat/core/Decision", "equals", "(Ljava/lang/Object;)Z"⟩ : MethodName)) hown (mvT hZ (hw _ (List.mem_of_getElem? (i := 89) rfl))) (mvT hZ (hw _ (List.mem_of_getElem? (i := 90) rfl))) (notFace_of_selects (args := #[]) (mvT hZ (hw _ (List.mem_of_getElem? (i := 92) rfl)))) (mvT hZ (hw _ (List.mem_of_getElem? (i := 92) rfl))) (mvT hZ (hw _ (List.mem_of_getElem? (i := 91) rfl))) (by decide) (backOf (W := 0) (rmDeq l Z a0 hw [] r12 r18 sCOMMITTED y1 y7 d1 d7 (i0 &&& (3 : Int32)).toInt.toNat (i4 &&& (3 : Int32)).toInt.toNat (oLo (mkC ca cb cc)) (oLo (mkC ca cb cr)) cz T22.heap n0 hz54 Oo22 SCS hcz f27 f28 f29 f30 f46 f47 f48 f49 f26 f50 f24 f32 f35 f51 f52 f53) hZ (hw _ (List.mem_of_getElem? (i := 93) rfl)) (hw _ (List.mem_of_getElem? (i := 35) rfl)) (by decide) (by decide)) q54a q54c (g := (mkF m 173 #[.val (.int i0), .val (.int i1), .val (.int i2), .val (.int i3), .val (.int i4), .val (.int i5), .val (.int ca), .val (.int cb), .val (.int cc), .val (.int cr), .val (.ref y1), .val (.ref y4), .val (.ref y7), .val (.ref r10), .val (.ref r12), .val (.ref r15), .val (.ref r18), .val (.ref r22), .val (.int (1 : Int32)), .val (.int (1 : Int32)), .unset, .unset] [(.ref r18), (.ref r12)])) rfl (by rw [hml]; rfl) (Steps.refl _) (argsL := [(.ref r18)]) (rest := []) (lenOf pd_13 rfl) rfl (by show 2 * 0 + _ ≤ _; exact Nat.le_of_eq rfl) (hb hby at_173) (fun _ _ => ⟨rfl, eh45, (by decide : 24 + 0 ≤ _), (by decide : 269 + 0 ≤ _)⟩)
  dsimp only [Pt.U, Pt.locs, Pt.cells, Pt.slots] at X54 l54 y54 z54 st54 hQ54
  subst l54 y54 z54
  obtain ⟨r54, rfl, N54q, eh54, pq54⟩ := hQ54
  have N54 := Fr.app N45 N54q
  refine oSt st54 ?_
  show oGl p e below (T54.setTop (mkF m 176 #[.val (.int i0), .val (.int i1), .val (.int i2), .val (.int i3), .val (.int i4), .val (.int i5), .val (.int ca), .val (.int cb), .val (.int cc), .val (.int cr), .val (.ref y1), .val (.ref y4), .val (.ref y7), .val (.ref r10), .val (.ref r12), .val (.ref r15), .val (.ref r18), .val (.ref r22), .val (.int (1 : Int32)), .val (.int (1 : Int32)), .unset, .unset] [(.int r54)])) _
  refine saload X54 hx (hb hby at_176) rfl rfl rfl (pc' := 178) ?_
  refine saload X54 hx (hb hby at_178) rfl rfl rfl (pc' := 180) ?_
  have hz55 : n0 ≤ T22.heap.size := by omega
  obtain ⟨cq55, kq55, q55a, q55b, q55c⟩ := isOf hZ eh54 f27
  obtain ⟨_, _, ⟨T55, L55, k55, n55⟩, -, X55, ⟨Lc55, hQ55, l55, y55, z55⟩, st55⟩ := X54.virtualBack hx (y := (⟨"java/lang/String", "equals", "(Ljava/lang/Object;)Z"⟩ : MethodName)) (z := (⟨"java/lang/String", "equals", "(Ljava/lang/Object;)Z"⟩ : MethodName)) hown (mvT hZ (hw _ (List.mem_of_getElem? (i := 73) rfl))) (mvT hZ (hw _ (List.mem_of_getElem? (i := 74) rfl))) (notFace_of_selects (args := #[]) (mvT hZ (hw _ (List.mem_of_getElem? (i := 76) rfl)))) (mvT hZ (hw _ (List.mem_of_getElem? (i := 76) rfl))) (mvT hZ (hw _ (List.mem_of_getElem? (i := 75) rfl))) (by decide) (backOf (W := 1) (rmSEq l Z a0 hw [] y1 y7 d1 d7 (i0 &&& (3 : Int32)).toInt.toNat (i4 &&& (3 : Int32)).toInt.toNat (oLo (mkC ca cb cc)) (oLo (mkC ca cb cr)) cz T22.heap n0 hz55 Oo22 SCS hcz f27 f28 f29 f30 f46 f47 f48 f49) hZ (hw _ (List.mem_of_getElem? (i := 77) rfl)) (hw _ (List.mem_of_getElem? (i := 6) rfl)) (by decide) (by decide)) q55a q55c (g := (mkF m 180 #[.val (.int i0), .val (.int i1), .val (.int i2), .val (.int i3), .val (.int i4), .val (.int i5), .val (.int ca), .val (.int cb), .val (.int cc), .val (.int cr), .val (.ref y1), .val (.ref y4), .val (.ref y7), .val (.ref r10), .val (.ref r12), .val (.ref r15), .val (.ref r18), .val (.ref r22), .val (.int (1 : Int32)), .val (.int (1 : Int32)), .unset, .unset] [(.ref y7), (.ref y1), (.int r54)])) rfl (by rw [hml]; rfl) (Steps.refl _) (argsL := [(.ref y7)]) (rest := [(.int r54)]) (lenOf pd_13 rfl) rfl (by show 2 * 0 + _ ≤ _; exact Nat.le_of_eq rfl) (hb hby at_180) (fun _ _ => ⟨rfl, eh54, (by decide : 24 + 0 ≤ _), (by decide : 269 + 0 ≤ _)⟩)
  dsimp only [Pt.U, Pt.locs, Pt.cells, Pt.slots] at X55 l55 y55 z55 st55 hQ55
  subst l55 y55 z55
  obtain ⟨r55, rfl, N55q, eh55, pq55⟩ := hQ55
  have N55 := Fr.app N54 N55q
  refine oSt st55 ?_
  show oGl p e below (T55.setTop (mkF m 183 #[.val (.int i0), .val (.int i1), .val (.int i2), .val (.int i3), .val (.int i4), .val (.int i5), .val (.int ca), .val (.int cb), .val (.int cc), .val (.int cr), .val (.ref y1), .val (.ref y4), .val (.ref y7), .val (.ref r10), .val (.ref r12), .val (.ref r15), .val (.ref r18), .val (.ref r22), .val (.int (1 : Int32)), .val (.int (1 : Int32)), .unset, .unset] [(.int r55), (.int r54)])) _
  refine sicN X55 hx (hb hby at_183) rfl (teq (own_sm pq54 pq55 : r54 = r55)).2 (pc' := 186) ?_
  refine siconst X55 hx (hb hby at_186) rfl rfl (z := 1) (pc' := 187) ?_
  refine sgoto X55 hx (hb hby at_187) (by decide) (by decide)  (pc' := 191) ?_
  refine sistore X55 hx (hb hby at_191) rfl rfl (l' := #[.val (.int i0), .val (.int i1), .val (.int i2), .val (.int i3), .val (.int i4), .val (.int i5), .val (.int ca), .val (.int cb), .val (.int cc), .val (.int cr), .val (.ref y1), .val (.ref y4), .val (.ref y7), .val (.ref r10), .val (.ref r12), .val (.ref r15), .val (.ref r18), .val (.ref r22), .val (.int (1 : Int32)), .val (.int (1 : Int32)), .val (.int (1 : Int32)), .unset]) (pc' := 193) ?_
  refine saload X55 hx (hb hby at_193) rfl rfl rfl (pc' := 195) ?_
  refine saload X55 hx (hb hby at_195) rfl rfl rfl (pc' := 197) ?_
  have hz56 : n0 ≤ T22.heap.size := by omega
  obtain ⟨cq56, kq56, q56a, q56b, q56c⟩ := isOf hZ eh55 f26
  obtain ⟨_, _, ⟨T56, L56, k56, n56⟩, -, X56, ⟨Lc56, hQ56, l56, y56, z56⟩, st56⟩ := X55.virtualBack hx (y := (⟨"com/example/concordat/concordat/core/Decision", "equals", "(Ljava/lang/Object;)Z"⟩ : MethodName)) (z := (⟨"com/example/concordat/concordat/core/Decision", "equals", "(Ljava/lang/Object;)Z"⟩ : MethodName)) hown (mvT hZ (hw _ (List.mem_of_getElem? (i := 89) rfl))) (mvT hZ (hw _ (List.mem_of_getElem? (i := 90) rfl))) (notFace_of_selects (args := #[]) (mvT hZ (hw _ (List.mem_of_getElem? (i := 92) rfl)))) (mvT hZ (hw _ (List.mem_of_getElem? (i := 92) rfl))) (mvT hZ (hw _ (List.mem_of_getElem? (i := 91) rfl))) (by decide) (backOf (W := 0) (rmDne l Z a0 hw [] r12 r22 sCOMMITTED sABORTED r10 y1 d1 (i0 &&& (3 : Int32)).toInt.toNat (oLo (mkC ca cb cc)) cz T22.heap n0 hz56 Oo22 SCS hcz f27 f28 f29 f30 f26 Ei22 f24 f32 f35 Fa22 Fb22 Fc22 (FsCOMMITTED.ne FsABORTED (by decide))) hZ (hw _ (List.mem_of_getElem? (i := 93) rfl)) (hw _ (List.mem_of_getElem? (i := 35) rfl)) (by decide) (by decide)) q56a q56c (g := (mkF m 197 #[.val (.int i0), .val (.int i1), .val (.int i2), .val (.int i3), .val (.int i4), .val (.int i5), .val (.int ca), .val (.int cb), .val (.int cc), .val (.int cr), .val (.ref y1), .val (.ref y4), .val (.ref y7), .val (.ref r10), .val (.ref r12), .val (.ref r15), .val (.ref r18), .val (.ref r22), .val (.int (1 : Int32)), .val (.int (1 : Int32)), .val (.int (1 : Int32)), .unset] [(.ref r22), (.ref r12)])) rfl (by rw [hml]; rfl) (Steps.refl _) (argsL := [(.ref r22)]) (rest := []) (lenOf pd_13 rfl) rfl (by show 2 * 0 + _ ≤ _; exact Nat.le_of_eq rfl) (hb hby at_197) (fun _ _ => ⟨rfl, eh55, (by decide : 24 + 0 ≤ _), (by decide : 269 + 0 ≤ _)⟩)
  dsimp only [Pt.U, Pt.locs, Pt.cells, Pt.slots] at X56 l56 y56 z56 st56 hQ56
  subst l56 y56 z56
  obtain ⟨rfl, N56q, eh56⟩ := hQ56
  have N56 := Fr.app N55 N56q
  refine oSt st56 ?_
  show oGl p e below (T56.setTop (mkF m 200 #[.val (.int i0), .val (.int i1), .val (.int i2), .val (.int i3), .val (.int i4), .val (.int i5), .val (.int ca), .val (.int cb), .val (.int cc), .val (.int cr), .val (.ref y1), .val (.ref y4), .val (.ref y7), .val (.ref r10), .val (.ref r12), .val (.ref r15), .val (.ref r18), .val (.ref r22), .val (.int (1 : Int32)), .val (.int (1 : Int32)), .val (.int (1 : Int32)), .unset] [(.int (0 : Int32))])) _
  refine sifN X56 hx (hb hby at_200) rfl (teq (by decide : (0 : Int32) = (0 : Int32))).2 (pc' := 203) ?_
  refine siconst X56 hx (hb hby at_203) rfl rfl (z := 1) (pc' := 204) ?_
  refine sgoto X56 hx (hb hby at_204) (by decide) (by decide)  (pc' := 208) ?_
  refine sistore X56 hx (hb hby at_208) rfl rfl (l' := #[.val (.int i0), .val (.int i1), .val (.int i2), .val (.int i3), .val (.int i4), .val (.int i5), .val (.int ca), .val (.int cb), .val (.int cc), .val (.int cr), .val (.ref y1), .val (.ref y4), .val (.ref y7), .val (.ref r10), .val (.ref r12), .val (.ref r15), .val (.ref r18), .val (.ref r22), .val (.int (1 : Int32)), .val (.int (1 : Int32)), .val (.int (1 : Int32)), .val (.int (1 : Int32))]) (pc' := 210) ?_
  refine siload X56 hx (hb hby at_210) rfl rfl (pc' := 212) ?_
  refine sifN X56 hx (hb hby at_212) rfl (feq (by decide : ¬ ((1 : Int32) = (0 : Int32)))).1 (pc' := 215) ?_
  refine siload X56 hx (hb hby at_215) rfl rfl (pc' := 217) ?_
  refine sifN X56 hx (hb hby at_217) rfl (feq (by decide : ¬ ((1 : Int32) = (0 : Int32)))).1 (pc' := 220) ?_
  refine siload X56 hx (hb hby at_220) rfl rfl (pc' := 222) ?_
  refine sifN X56 hx (hb hby at_222) rfl (feq (by decide : ¬ ((1 : Int32) = (0 : Int32)))).1 (pc' := 225) ?_
  refine siload X56 hx (hb hby at_225) rfl rfl (pc' := 227) ?_
  refine sifN X56 hx (hb hby at_227) rfl (feq (by decide : ¬ ((1 : Int32) = (0 : Int32)))).1 (pc' := 230) ?_
  refine siconst X56 hx (hb hby at_230) rfl rfl (z := 1) (pc' := 231) ?_
  refine sgoto X56 hx (hb hby at_231) (by decide) (by decide)  (pc' := 235) ?_
  refine oRetNV (t := .boolean) X56 hS (by rw [eh56]; omega) hx Bd.notSynchronized Bd.returns (by simp) (hb hby at_235) (by decide) (by decide) ?_
  show Q_rmL Z i0 i1 i2 i3 i4 i5 sCONFLICT sCOMMITTED sABORTED sCHECK_FAILED sUNAVAILABLE cz h0 n0 _ T56.heap _ _
  rw [eh56]
  exact ⟨rfl, N56⟩
set_option maxRecDepth 65536 in
set_option maxHeartbeats 40000000 in
theorem comes_1 {Post : Tables → Env → Array Value → State → Outcome → State → Prop} (hpost : ∀ tb e args s v u, (limb_1_1.after args s (.returned v) u = true ∧ limb_1_2.after args s (.returned v) u = true ∧ True) → ReturnedEndW s (.returned v) u (Jvm.fieldLocs frame_1_writes args s ++ Jvm.arrayLocs frame_1_arrays args s ++ Jvm.staticLocs frame_1_statics s) 40 2240 → Post tb e args s (.returned v) u) :
    ArmFor flags0 classFile x code maxLocals ret World_1 tables_1 room_1 Calls_1 rest_1 Pre_1 Post := by
  intro l hfl _ _ p e ha hc hk s m args below hf hA hF happ hP
  obtain ⟨hcalls, hrest, hpre⟩ := hP
  obtain ⟨-, -, -, hnamed, -, -, -, hat⟩ := (Spec.applies_iff hf).mp happ
  obtain ⟨hg, hn⟩ := oAnd (show (Jvm.Cond.and given_1 narrow_1).before args s = true from hpre)
  obtain ⟨gc, hg0⟩ := oAnd hg
  obtain ⟨ga0, hg1⟩ := oAnd hg0
  obtain ⟨ga1, hg2⟩ := oAnd hg1
  obtain ⟨ga2, hg3⟩ := oAnd hg2
  obtain ⟨ga3, hg4⟩ := oAnd hg3
  obtain ⟨ga4, hg5⟩ := oAnd hg4
  have ga5 := hg5
  obtain ⟨w0, w1, w2, w3, w4, w5, rfl⟩ : ∃ w0 w1 w2 w3 w4 w5 : Value, args = #[w0, w1, w2, w3, w4, w5] := by
    have hs : args.size = 6 := by simpa [Cond.before, Cond.holds, Cond.value] using gc
    obtain ⟨L⟩ := args
    match L, hs with
    | [w0, w1, w2, w3, w4, w5], _ => exact ⟨w0, w1, w2, w3, w4, w5, rfl⟩
  obtain ⟨i0, rfl⟩ := oArgI ga0 rfl
  obtain ⟨i1, rfl⟩ := oArgI ga1 rfl
  obtain ⟨i2, rfl⟩ := oArgI ga2 rfl
  obtain ⟨i3, rfl⟩ := oArgI ga3 rfl
  obtain ⟨i4, rfl⟩ := oArgI ga4 rfl
  obtain ⟨i5, rfl⟩ := oArgI ga5 rfl
  have hw := fun d (hd : d ∈ tables_1) => atoms_spec (ws := Jvm.Cond.code x code maxLocals ret :: tables_1) hat d (List.mem_cons_of_mem _ hd)
  have hfit : Fit s := fun {y c} hc i hi => by
    obtain ⟨ha, rfl⟩ := Array.getElem?_eq_some_iff.mp hc
    have q := List.all_eq_true.mp ((Array.all_eq_true_iff_forall_mem.mp hF) _ (Array.getElem_mem ha)) i (List.mem_range.mpr hi)
    simpa [Array.getElem?_eq_getElem hi] using q
  obtain ⟨nr0, hn0⟩ := oAnd hn
  obtain ⟨nr1, hn1⟩ := oAnd hn0
  obtain ⟨nr2, hn2⟩ := oAnd hn1
  obtain ⟨nr3, hn3⟩ := oAnd hn2
  obtain ⟨nr4, hn4⟩ := oAnd hn3
  obtain ⟨nr5, hn5⟩ := oAnd hn4
  have nr6 := hn5
  obtain ⟨sCONFLICT, evsCONFLICT, SsCONFLICT, EsCONFLICT⟩ := oStaR nr0 (hw _ (List.mem_of_getElem? (i := 31) rfl)) (hw _ (List.mem_of_getElem? (i := 32) rfl))
  obtain ⟨sCOMMITTED, evsCOMMITTED, SsCOMMITTED, EsCOMMITTED⟩ := oStaR nr1 (hw _ (List.mem_of_getElem? (i := 40) rfl)) (hw _ (List.mem_of_getElem? (i := 41) rfl))
  have FsCOMMITTED := oFldI nr3 evsCOMMITTED
  obtain ⟨sABORTED, evsABORTED, SsABORTED, EsABORTED⟩ := oStaR nr2 (hw _ (List.mem_of_getElem? (i := 40) rfl)) (hw _ (List.mem_of_getElem? (i := 62) rfl))
  have FsABORTED := oFldI nr4 evsABORTED
  obtain ⟨sCHECK_FAILED, evsCHECK_FAILED, SsCHECK_FAILED, EsCHECK_FAILED⟩ := oStaR nr5 (hw _ (List.mem_of_getElem? (i := 31) rfl)) (hw _ (List.mem_of_getElem? (i := 125) rfl))
  obtain ⟨sUNAVAILABLE, evsUNAVAILABLE, SsUNAVAILABLE, EsUNAVAILABLE⟩ := oStaR nr6 (hw _ (List.mem_of_getElem? (i := 31) rfl)) (hw _ (List.mem_of_getElem? (i := 127) rfl))
  obtain ⟨hsets, -⟩ := atoms_of _ (rest_1_c_eq ▸ (show rest_1_c.before _ s = true from hrest))
  obtain ⟨cz, ecz⟩ := is_v (Cond.before_iff.mp (hsets _ (List.mem_of_getElem? (i := 1) rfl)))
  have SCS : Sta s s.heap "java/lang/String" "COMPACT_STRINGS" "Z" (.int cz) := Sta.start ecz (Or.inl (hsets _ (List.mem_of_getElem? (i := 0) rfl)))
  have hcz : ¬ (cz = (0 : Int32)) := gotF (Cond.eq_ints ecz (Term.int_eval (0))) (not_v (Cond.before_iff.mp (hsets _ (List.mem_of_getElem? (i := 2) rfl))))
  have hcH : Jvm.Lit.constHeld s "java/lang/String" 7 := hcalls.1 ("java/lang/String", 7) (by simp [consts_1])
  have hcw := hsets _ (List.mem_of_getElem? (i := 2) rfl)
  obtain ⟨n, o, h1, h2, h3, _, L, rfl, ⟨rfl, N⟩, hq⟩ := rmL l s _ hw tables_1 i0 i1 i2 i3 i4 i5 sCONFLICT sCOMMITTED sABORTED sCHECK_FAILED sUNAVAILABLE cz s.heap s.heap.size (Nat.le_refl _) (Old.start s) SsCONFLICT EsCONFLICT SsCOMMITTED EsCOMMITTED FsCOMMITTED SsABORTED EsABORTED FsABORTED SsCHECK_FAILED EsCHECK_FAILED SsUNAVAILABLE EsUNAVAILABLE SCS hcz hcH hcw p e ha hc hk s m _ below hf ((Spec.applies_iff_loose hf).mp happ).1 ⟨rfl, State.Warmed39.refl s, rfl, Or.inl rfl⟩ trivial
  refine ⟨n, _, h1, h2, h3, hpost _ _ _ _ _ _ ⟨Cond.after_iff.mpr rfl, Cond.after_iff.mpr (eq_i res_at (Term.int_eval (1)) rfl), trivial⟩ ⟨hq.1, hq.2.1, hq.2.2.1, (hq.2.2.2.sift fun y hy => Or.inr (N y hy)).mono (by decide) (by decide)⟩⟩
theorem main_1_1 : Claimed_1_1 := comes_1 fun _ _ _ _ _ _ h hF => ⟨h.1, hF⟩
theorem main_1_2 : Claimed_1_2 := comes_1 fun _ _ _ _ _ _ h hF => ⟨h.2.1, hF⟩
end Jvm.Pilot.@@N@@
namespace Jvm.Pilot.@@N@@
open Jvm Jvm.ClassFile Sem Op Lib Jvm.Free Jvm.Stand Jvm.Pilot.@@N@@.Jvm.D
/-! MADE BY PROGRAM (witnessworld.py) out of the Statement's table words and the real class files: 24 classes; the members and pool entries that the words name. The judged class is class 1, her method 3. -/
namespace start1
open Jvm.ClassFile
def u (s : String) : CpInfo := .utf8 (stringToUtf16 s)
/-- a pool by its gaps: so many unusable entries, then the entry; so many at the end -/
def gap : Nat → List CpInfo → List CpInfo
  | 0, r => r
  | n + 1, r => .unusable :: gap n r
def poolList (es : List (Nat × CpInfo)) (last : Nat) : List CpInfo := es.foldr (fun e r => gap e.1 (e.2 :: r)) (gap last [])
def pool (es : List (Nat × CpInfo)) (last : Nat) : Array CpInfo := ⟨poolList es last⟩
def fileOf (pool : Array CpInfo) (this : Nat) (attrs : Array Attribute := #[]) (ms : Array MethodInfo := #[]) (fl : Nat := 33) (sup : Nat := 0) (ifs : Array Nat := #[]) (fds : Array FieldInfo := #[]) : ClassFile where
  minorVersion := 0
  majorVersion := 65
  constantPool := pool
  accessFlags := fl
  thisClass := this
  superClass := sup
  interfaces := ifs
  fields := fds
  methods := ms
  attributes := attrs
def plain (name : String) (sup : Option ClassId) : Class where
  name := name
  kind := .ordinary
  loader := none
  accessFlags := 33
  super := sup
  interfaces := #[]
  cf := none
  fields := #[]
  methods := #[]
  instanceTypes := #[]
  staticTypes := #[]
  resolved := #[]
  callSites := []
  init := .initialized
  statics := none
  mirror := none

def pool0 : Array CpInfo := pool [(5, u "<init>"), (0, u "()V"), (1, .class_ 10), (1, u "java/lang/Object")] 113

def k0c0 : Code := { maxStack := 0, maxLocals := 1, code := object_method_1_code, exceptionTable := #[], attributes := #[] }
def k0m0 : Method := { name := "<init>", desc := "()V", sig := { parameters := [], returnType := none }, accessFlags := 1, code := some k0c0 }
/-- java/lang/Object -/
def k0 : Class := { plain "java/lang/Object" none with
  accessFlags := 33
  interfaces := #[]
  cf := some (fileOf pool0 8 #[] #[{ accessFlags := 1, nameIndex := 5, descriptorIndex := 6, attributes := #[] }] 33 0 #[] #[])
  fields := #[]
  methods := #[k0m0]
  instanceTypes := #[]
  staticTypes := #[]
  resolved := Array.replicate 124 none
  statics := none }

def pool1 : Array CpInfo := pool [(2, .class_ 4), (1, u "java/lang/Object"), (0, u "<init>"), (0, u "()V"), (0, .class_ 8), (0, u "java/lang/String"), (0, .methodref 7 10), (0, .nameAndType 5 11), (0, u "([C)V"), (0, .methodref 7 13), (0, .nameAndType 14 15), (0, u "valueOf"), (0, u "(C)Ljava/lang/String;"), (0, .fieldref 17 18), (0, .class_ 19), (0, .nameAndType 20 21), (0, u "com/example/concordat/concordat/core/AbortReason"), (0, u "CONFLICT"), (0, u "Lcom/example/concordat/concordat/core/AbortReason;"), (0, .fieldref 17 23), (0, .nameAndType 24 21), (0, u "CHECK_FAILED"), (0, .fieldref 17 26), (0, .nameAndType 27 21), (0, u "UNAVAILABLE"), (0, .methodref 29 30), (0, .class_ 31), (0, .nameAndType 32 33), (0, u "com/example/concordat/concordat/core/DecisionCommittedPinLaw"), (0, u "mk"), (0, u "(ICCC)Ljava/lang/String;"), (0, .integer 65535), (0, .methodref 29 36), (0, .nameAndType 37 38), (0, u "pick"), (0, u "(I)Lcom/example/concordat/concordat/core/AbortReason;"), (0, .methodref 40 41), (0, .class_ 42), (0, .nameAndType 43 44), (0, u "com/example/concordat/concordat/core/Decision"), (0, u "committed"), (0, u "(Ljava/lang/String;)Lcom/example/concordat/concordat/core/Decision;"), (0, .methodref 40 46), (0, .nameAndType 47 48), (0, u "aborted"), (0, u "(Ljava/lang/String;Lcom/example/concordat/concordat/core/AbortReason;)Lcom/example/concordat/concordat/core/Decision;"), (0, .methodref 40 50), (0, .nameAndType 51 52), (0, u "getTransactionId"), (0, u "()Ljava/lang/String;"), (0, .methodref 7 54), (0, .nameAndType 55 56), (0, u "equals"), (0, u "(Ljava/lang/Object;)Z"), (0, .methodref 40 58), (0, .nameAndType 59 60), (0, u "getOutcome"), (0, u "()Lcom/example/concordat/concordat/core/Outcome;"), (0, .fieldref 62 63), (0, .class_ 64), (0, .nameAndType 65 66), (0, u "com/example/concordat/concordat/core/Outcome"), (0, u "COMMITTED"), (0, u "Lcom/example/concordat/concordat/core/Outcome;"), (0, .methodref 40 68), (0, .nameAndType 69 70), (0, u "getReason"), (0, u "()Lcom/example/concordat/concordat/core/AbortReason;"), (0, .methodref 40 54), (3, u "law"), (0, u "(IIIIII)Z")] 2

def k1m0 : Method := { name := "<init>", desc := "()V", sig := { parameters := [], returnType := none }, accessFlags := 2, code := none }
def k1c1 : Code := { maxStack := 6, maxLocals := 4, code := method_2_code, exceptionTable := #[], attributes := #[] }
def k1m1 : Method := { name := "mk", desc := "(ICCC)Ljava/lang/String;", sig := { parameters := [.int, .char, .char, .char], returnType := some (.object "java/lang/String") }, accessFlags := 10, code := some k1c1 }
def k1c2 : Code := { maxStack := 2, maxLocals := 1, code := method_3_code, exceptionTable := #[], attributes := #[] }
def k1m2 : Method := { name := "pick", desc := "(I)Lcom/example/concordat/concordat/core/AbortReason;", sig := { parameters := [.int], returnType := some (.object "com/example/concordat/concordat/core/AbortReason") }, accessFlags := 10, code := some k1c2 }
def k1c3 : Code := { maxStack := 4, maxLocals := 22, code := code, exceptionTable := #[], attributes := #[] }
def k1m3 : Method := { name := "law", desc := "(IIIIII)Z", sig := { parameters := [.int, .int, .int, .int, .int, .int], returnType := some .boolean }, accessFlags := 9, code := some k1c3 }
/-- com/example/concordat/concordat/core/DecisionCommittedPinLaw -/
def k1 : Class := { plain "com/example/concordat/concordat/core/DecisionCommittedPinLaw" (some 0) with
  accessFlags := 49
  interfaces := #[]
  cf := some (fileOf pool1 29 #[] #[{ accessFlags := 2, nameIndex := 5, descriptorIndex := 6, attributes := #[] }, { accessFlags := 10, nameIndex := 32, descriptorIndex := 33, attributes := #[] }, { accessFlags := 10, nameIndex := 37, descriptorIndex := 38, attributes := #[] }, { accessFlags := 9, nameIndex := 75, descriptorIndex := 76, attributes := #[] }] 49 2 #[] #[])
  fields := #[]
  methods := #[k1m0, k1m1, k1m2, k1m3]
  instanceTypes := #[]
  staticTypes := #[]
  resolved := Array.replicate 79 none
  statics := none }

def pool2 : Array CpInfo := pool [(1, .class_ 2), (0, u "java/io/Serializable"), (0, .class_ 4), (0, u "java/lang/Object")] 2

/-- java/io/Serializable -/
def k2 : Class := { plain "java/io/Serializable" (some 0) with
  accessFlags := 1537
  interfaces := #[]
  cf := some (fileOf pool2 1 #[] #[] 1537 3 #[] #[])
  fields := #[]
  methods := #[]
  instanceTypes := #[]
  staticTypes := #[]
  resolved := Array.replicate 7 none
  statics := none }

def pool3 : Array CpInfo := pool [(1, .class_ 2), (0, u "java/lang/Comparable"), (0, .class_ 4), (0, u "java/lang/Object")] 7

/-- java/lang/Comparable -/
def k3 : Class := { plain "java/lang/Comparable" (some 0) with
  accessFlags := 1537
  interfaces := #[]
  cf := some (fileOf pool3 1 #[] #[] 1537 3 #[] #[])
  fields := #[]
  methods := #[]
  instanceTypes := #[]
  staticTypes := #[]
  resolved := Array.replicate 12 none
  statics := none }

def pool4 : Array CpInfo := pool [(2, .class_ 4), (1, u "java/lang/CharSequence"), (42, .class_ 48), (0, u "java/lang/CharSequence$1CodePointIterator"), (10, .class_ 60), (0, u "java/lang/CharSequence$1CharIterator"), (5, .class_ 67), (0, u "java/lang/Object")] 63

/-- java/lang/CharSequence -/
def k4 : Class := { plain "java/lang/CharSequence" (some 0) with
  accessFlags := 1537
  interfaces := #[]
  cf := some (fileOf pool4 2 #[.nestMembers #[47, 59]] #[] 1537 66 #[] #[])
  fields := #[]
  methods := #[]
  instanceTypes := #[]
  staticTypes := #[]
  resolved := Array.replicate 131 none
  statics := none }

def pool5 : Array CpInfo := pool [(1, .class_ 2), (0, u "java/lang/constant/Constable"), (0, .class_ 4), (0, u "java/lang/Object")] 6

/-- java/lang/constant/Constable -/
def k5 : Class := { plain "java/lang/constant/Constable" (some 0) with
  accessFlags := 1537
  interfaces := #[]
  cf := some (fileOf pool5 1 #[] #[] 1537 3 #[] #[])
  fields := #[]
  methods := #[]
  instanceTypes := #[]
  staticTypes := #[]
  resolved := Array.replicate 11 none
  statics := none }

def pool6 : Array CpInfo := pool [(1, .class_ 2), (0, u "java/lang/constant/ConstantDesc"), (0, .class_ 4), (0, u "java/lang/Object")] 32

/-- java/lang/constant/ConstantDesc -/
def k6 : Class := { plain "java/lang/constant/ConstantDesc" (some 0) with
  accessFlags := 1537
  interfaces := #[]
  cf := some (fileOf pool6 1 #[] #[] 1537 3 #[] #[])
  fields := #[]
  methods := #[]
  instanceTypes := #[]
  staticTypes := #[]
  resolved := Array.replicate 37 none
  statics := none }

def pool7 : Array CpInfo := pool [(1, .methodref 2 3), (0, .class_ 4), (0, .nameAndType 5 6), (0, u "java/lang/Object"), (0, u "<init>"), (0, u "()V"), (0, .string 8), (0, u ""), (0, .fieldref 10 11), (0, .class_ 12), (0, .nameAndType 13 14), (0, u "java/lang/String"), (0, u "value"), (0, u "[B"), (0, .fieldref 10 16), (0, .nameAndType 17 18), (0, u "coder"), (0, u "B"), (2, u "hash"), (0, u "I"), (2, u "hashIsZero"), (0, u "Z"), (0, .methodref 10 28), (0, .nameAndType 5 29), (0, u "([CIILjava/lang/Void;)V"), (8, .fieldref 10 39), (0, .nameAndType 40 26), (0, u "COMPACT_STRINGS"), (1, .class_ 44), (1, u "java/lang/StringUTF16"), (0, u "compress"), (1, .methodref 42 48), (0, .nameAndType 49 50), (0, u "coderFromArrayLen"), (0, u "([BI)B"), (2, u "toBytes"), (53, .class_ 109), (1, u "java/lang/StringLatin1"), (67, .methodref 42 178), (0, .nameAndType 45 179), (0, u "([CII)[B"), (29, .methodref 10 210), (0, .nameAndType 5 211), (0, u "([BB)V"), (157, u "(C)Z"), (171, .methodref 107 542), (0, .nameAndType 543 544), (0, u "equals"), (0, u "([B[B)Z"), (28, u "(Ljava/lang/Object;)Z"), (1, .class_ 576), (0, u "java/lang/CharSequence"), (22, u "CASE_INSENSITIVE_ORDER"), (0, u "Ljava/util/Comparator;"), (181, u "valueOf"), (0, u "(C)Ljava/lang/String;"), (226, u "([C)V"), (4, .methodref 107 1016), (0, .nameAndType 1017 369), (0, u "canEncode"), (0, .methodref 107 1019), (0, .nameAndType 53 1020), (0, u "(C)[B"), (80, u "serialPersistentFields"), (0, u "[Ljava/io/ObjectStreamField;"), (0, .class_ 1104), (0, u "java/lang/String$CaseInsensitiveComparator"), (1, .class_ 1107), (0, u "java/io/Serializable"), (0, .class_ 1109), (0, u "java/lang/Comparable"), (0, .class_ 1111), (0, u "java/lang/constant/Constable"), (0, .class_ 1113), (0, u "java/lang/constant/ConstantDesc"), (2, u "serialVersionUID"), (0, u "J"), (3, u "REPL"), (0, u "C"), (2, u "LATIN1"), (1, u "UTF16")] 323

def k7m0 : Method := { name := "<init>", desc := "()V", sig := { parameters := [], returnType := none }, accessFlags := 1, code := none }
def k7c1 : Code := { maxStack := 5, maxLocals := 2, code := jdk_42_method_3_code, exceptionTable := #[], attributes := #[] }
def k7m1 : Method := { name := "<init>", desc := "([C)V", sig := { parameters := [(.array .char)], returnType := none }, accessFlags := 1, code := some k7c1 }
def k7c2 : Code := { maxStack := 2, maxLocals := 3, code := jdk_42_method_66_code, exceptionTable := #[], attributes := #[] }
def k7m2 : Method := { name := "equals", desc := "(Ljava/lang/Object;)Z", sig := { parameters := [(.object "java/lang/Object")], returnType := some .boolean }, accessFlags := 1, code := some k7c2 }
def k7c3 : Code := { maxStack := 4, maxLocals := 1, code := jdk_42_method_139_code, exceptionTable := #[], attributes := #[] }
def k7m3 : Method := { name := "valueOf", desc := "(C)Ljava/lang/String;", sig := { parameters := [.char], returnType := some (.object "java/lang/String") }, accessFlags := 9, code := some k7c3 }
def k7c4 : Code := { maxStack := 4, maxLocals := 6, code := jdk_42_method_149_code, exceptionTable := #[], attributes := #[] }
def k7m4 : Method := { name := "<init>", desc := "([CIILjava/lang/Void;)V", sig := { parameters := [(.array .char), .int, .int, (.object "java/lang/Void")], returnType := none }, accessFlags := 2, code := some k7c4 }
def k7c5 : Code := { maxStack := 2, maxLocals := 3, code := jdk_42_method_151_code, exceptionTable := #[], attributes := #[] }
def k7m5 : Method := { name := "<init>", desc := "([BB)V", sig := { parameters := [(.array .byte), .byte], returnType := none }, accessFlags := 0, code := some k7c5 }
/-- java/lang/String -/
def k7 : Class := { plain "java/lang/String" (some 0) with
  accessFlags := 49
  interfaces := #[2, 3, 4, 5, 6]
  cf := some (fileOf pool7 10 #[.nestMembers #[1103]] #[{ accessFlags := 1, nameIndex := 5, descriptorIndex := 6, attributes := #[] }, { accessFlags := 1, nameIndex := 5, descriptorIndex := 1010, attributes := #[] }, { accessFlags := 1, nameIndex := 543, descriptorIndex := 573, attributes := #[] }, { accessFlags := 9, nameIndex := 782, descriptorIndex := 783, attributes := #[] }, { accessFlags := 2, nameIndex := 5, descriptorIndex := 29, attributes := #[] }, { accessFlags := 0, nameIndex := 5, descriptorIndex := 211, attributes := #[] }] 49 2 #[1106, 1108, 575, 1110, 1112] #[{ accessFlags := 18, nameIndex := 13, descriptorIndex := 14, attributes := #[] }, { accessFlags := 18, nameIndex := 17, descriptorIndex := 18, attributes := #[] }, { accessFlags := 2, nameIndex := 21, descriptorIndex := 22, attributes := #[] }, { accessFlags := 2, nameIndex := 25, descriptorIndex := 26, attributes := #[] }, { accessFlags := 26, nameIndex := 1116, descriptorIndex := 1117, attributes := #[] }, { accessFlags := 24, nameIndex := 40, descriptorIndex := 26, attributes := #[] }, { accessFlags := 26, nameIndex := 1101, descriptorIndex := 1102, attributes := #[] }, { accessFlags := 26, nameIndex := 1121, descriptorIndex := 1122, attributes := #[] }, { accessFlags := 25, nameIndex := 599, descriptorIndex := 600, attributes := #[] }, { accessFlags := 24, nameIndex := 1125, descriptorIndex := 18, attributes := #[] }, { accessFlags := 24, nameIndex := 1127, descriptorIndex := 18, attributes := #[] }])
  fields := #[{ name := "value", type := (.array .byte), accessFlags := 18, slot := 0, constantValue := 0 }, { name := "coder", type := .byte, accessFlags := 18, slot := 1, constantValue := 0 }, { name := "hash", type := .int, accessFlags := 2, slot := 2, constantValue := 0 }, { name := "hashIsZero", type := .boolean, accessFlags := 2, slot := 3, constantValue := 0 }, { name := "serialVersionUID", type := .long, accessFlags := 26, slot := 0, constantValue := 0 }, { name := "COMPACT_STRINGS", type := .boolean, accessFlags := 24, slot := 1, constantValue := 0 }, { name := "serialPersistentFields", type := (.array (.object "java/io/ObjectStreamField")), accessFlags := 26, slot := 2, constantValue := 0 }, { name := "REPL", type := .char, accessFlags := 26, slot := 3, constantValue := 0 }, { name := "CASE_INSENSITIVE_ORDER", type := (.object "java/util/Comparator"), accessFlags := 25, slot := 4, constantValue := 0 }, { name := "LATIN1", type := .byte, accessFlags := 24, slot := 5, constantValue := 0 }, { name := "UTF16", type := .byte, accessFlags := 24, slot := 6, constantValue := 0 }]
  methods := #[k7m0, k7m1, k7m2, k7m3, k7m4, k7m5]
  instanceTypes := #[(.array .byte), .byte, .int, .boolean]
  staticTypes := #[.long, .boolean, (.array (.object "java/io/ObjectStreamField")), .char, (.object "java/util/Comparator"), .byte, .byte]
  resolved := Array.replicate 1451 none
  statics := some 0 }

def pool8 : Array CpInfo := pool [(2, .class_ 4), (1, u "java/lang/Enum"), (0, u "name"), (0, u "Ljava/lang/String;"), (2, u "ordinal"), (0, u "I"), (1, .class_ 14), (1, u "java/lang/Object"), (4, u "hash"), (86, .class_ 108), (1, u "java/lang/Enum$EnumDesc"), (2, .class_ 112), (0, u "java/lang/constant/Constable"), (0, .class_ 114), (0, u "java/lang/Comparable"), (0, .class_ 116), (0, u "java/io/Serializable")] 87

/-- java/lang/Enum -/
def k8 : Class := { plain "java/lang/Enum" (some 0) with
  accessFlags := 1057
  interfaces := #[5, 3, 2]
  cf := some (fileOf pool8 2 #[.nestMembers #[106]] #[] 1057 12 #[111, 113, 115] #[{ accessFlags := 18, nameIndex := 5, descriptorIndex := 6, attributes := #[] }, { accessFlags := 18, nameIndex := 9, descriptorIndex := 10, attributes := #[] }, { accessFlags := 2, nameIndex := 19, descriptorIndex := 10, attributes := #[] }])
  fields := #[{ name := "name", type := (.object "java/lang/String"), accessFlags := 18, slot := 0, constantValue := 0 }, { name := "ordinal", type := .int, accessFlags := 18, slot := 1, constantValue := 0 }, { name := "hash", type := .int, accessFlags := 2, slot := 2, constantValue := 0 }]
  methods := #[]
  instanceTypes := #[(.object "java/lang/String"), .int, .int]
  staticTypes := #[]
  resolved := Array.replicate 204 none
  statics := none }

def pool9 : Array CpInfo := pool [(1, .class_ 2), (0, u "com/example/concordat/concordat/core/AbortReason"), (2, u "CONFLICT"), (0, u "Lcom/example/concordat/concordat/core/AbortReason;"), (2, u "CHECK_FAILED"), (2, u "UNAVAILABLE"), (2, u "$VALUES"), (0, u "[Lcom/example/concordat/concordat/core/AbortReason;"), (6, .class_ 25), (1, u "java/lang/Enum"), (8, u "word"), (0, u "Ljava/lang/String;")] 30

/-- com/example/concordat/concordat/core/AbortReason -/
def k9 : Class := { plain "com/example/concordat/concordat/core/AbortReason" (some 8) with
  accessFlags := 16433
  interfaces := #[]
  cf := some (fileOf pool9 1 #[] #[] 16433 23 #[] #[{ accessFlags := 16409, nameIndex := 5, descriptorIndex := 6, attributes := #[] }, { accessFlags := 16409, nameIndex := 9, descriptorIndex := 6, attributes := #[] }, { accessFlags := 16409, nameIndex := 12, descriptorIndex := 6, attributes := #[] }, { accessFlags := 18, nameIndex := 34, descriptorIndex := 35, attributes := #[] }, { accessFlags := 4122, nameIndex := 15, descriptorIndex := 16, attributes := #[] }])
  fields := #[{ name := "CONFLICT", type := (.object "com/example/concordat/concordat/core/AbortReason"), accessFlags := 16409, slot := 0, constantValue := 0 }, { name := "CHECK_FAILED", type := (.object "com/example/concordat/concordat/core/AbortReason"), accessFlags := 16409, slot := 1, constantValue := 0 }, { name := "UNAVAILABLE", type := (.object "com/example/concordat/concordat/core/AbortReason"), accessFlags := 16409, slot := 2, constantValue := 0 }, { name := "word", type := (.object "java/lang/String"), accessFlags := 18, slot := 3, constantValue := 0 }, { name := "$VALUES", type := (.array (.object "com/example/concordat/concordat/core/AbortReason")), accessFlags := 4122, slot := 3, constantValue := 0 }]
  methods := #[]
  instanceTypes := #[(.object "java/lang/String"), .int, .int, (.object "java/lang/String")]
  staticTypes := #[(.object "com/example/concordat/concordat/core/AbortReason"), (.object "com/example/concordat/concordat/core/AbortReason"), (.object "com/example/concordat/concordat/core/AbortReason"), (.array (.object "com/example/concordat/concordat/core/AbortReason"))]
  resolved := Array.replicate 66 none
  statics := some 1 }

def pool10 : Array CpInfo := pool [(1, .methodref 2 3), (0, .class_ 4), (0, .nameAndType 5 6), (0, u "java/lang/Object"), (0, u "<init>"), (0, u "()V"), (0, .string 8), (0, u "transactionId"), (0, .methodref 10 11), (0, .class_ 12), (0, .nameAndType 13 14), (0, u "java/util/Objects"), (0, u "requireNonNull"), (0, u "(Ljava/lang/Object;Ljava/lang/String;)Ljava/lang/Object;"), (0, .class_ 16), (0, u "java/lang/String"), (0, .fieldref 18 19), (0, .class_ 20), (0, .nameAndType 8 21), (0, u "com/example/concordat/concordat/core/Decision"), (0, u "Ljava/lang/String;"), (0, .fieldref 18 23), (0, .nameAndType 24 25), (0, u "outcome"), (0, u "Lcom/example/concordat/concordat/core/Outcome;"), (0, .fieldref 18 27), (0, .nameAndType 28 29), (0, u "reason"), (0, u "Lcom/example/concordat/concordat/core/AbortReason;"), (0, .fieldref 31 32), (0, .class_ 33), (0, .nameAndType 34 25), (0, u "com/example/concordat/concordat/core/Outcome"), (0, u "COMMITTED"), (0, .methodref 18 36), (0, .nameAndType 5 37), (0, u "(Ljava/lang/String;Lcom/example/concordat/concordat/core/Outcome;Lcom/example/concordat/concordat/core/AbortReason;)V"), (0, .fieldref 31 39), (0, .nameAndType 40 25), (0, u "ABORTED"), (0, .methodref 10 42), (0, .nameAndType 13 43), (0, u "(Ljava/lang/Object;)Ljava/lang/Object;"), (0, .class_ 45), (0, u "com/example/concordat/concordat/core/AbortReason"), (0, .methodref 15 47), (0, .nameAndType 48 49), (0, u "equals"), (0, u "(Ljava/lang/Object;)Z"), (7, u "()Ljava/lang/String;"), (7, u "committed"), (0, u "(Ljava/lang/String;)Lcom/example/concordat/concordat/core/Decision;"), (0, u "aborted"), (0, u "(Ljava/lang/String;Lcom/example/concordat/concordat/core/AbortReason;)Lcom/example/concordat/concordat/core/Decision;"), (0, u "getTransactionId"), (0, u "getOutcome"), (0, u "()Lcom/example/concordat/concordat/core/Outcome;"), (0, u "getReason"), (0, u "()Lcom/example/concordat/concordat/core/AbortReason;")] 21

def k10c0 : Code := { maxStack := 3, maxLocals := 4, code := prog_11_method_1_code, exceptionTable := #[], attributes := #[] }
def k10m0 : Method := { name := "<init>", desc := "(Ljava/lang/String;Lcom/example/concordat/concordat/core/Outcome;Lcom/example/concordat/concordat/core/AbortReason;)V", sig := { parameters := [(.object "java/lang/String"), (.object "com/example/concordat/concordat/core/Outcome"), (.object "com/example/concordat/concordat/core/AbortReason")], returnType := none }, accessFlags := 2, code := some k10c0 }
def k10c1 : Code := { maxStack := 5, maxLocals := 1, code := prog_11_method_2_code, exceptionTable := #[], attributes := #[] }
def k10m1 : Method := { name := "committed", desc := "(Ljava/lang/String;)Lcom/example/concordat/concordat/core/Decision;", sig := { parameters := [(.object "java/lang/String")], returnType := some (.object "com/example/concordat/concordat/core/Decision") }, accessFlags := 9, code := some k10c1 }
def k10c2 : Code := { maxStack := 5, maxLocals := 2, code := prog_11_method_3_code, exceptionTable := #[], attributes := #[] }
def k10m2 : Method := { name := "aborted", desc := "(Ljava/lang/String;Lcom/example/concordat/concordat/core/AbortReason;)Lcom/example/concordat/concordat/core/Decision;", sig := { parameters := [(.object "java/lang/String"), (.object "com/example/concordat/concordat/core/AbortReason")], returnType := some (.object "com/example/concordat/concordat/core/Decision") }, accessFlags := 9, code := some k10c2 }
def k10c3 : Code := { maxStack := 1, maxLocals := 1, code := prog_11_method_4_code, exceptionTable := #[], attributes := #[] }
def k10m3 : Method := { name := "getTransactionId", desc := "()Ljava/lang/String;", sig := { parameters := [], returnType := some (.object "java/lang/String") }, accessFlags := 1, code := some k10c3 }
def k10c4 : Code := { maxStack := 1, maxLocals := 1, code := prog_11_method_5_code, exceptionTable := #[], attributes := #[] }
def k10m4 : Method := { name := "getOutcome", desc := "()Lcom/example/concordat/concordat/core/Outcome;", sig := { parameters := [], returnType := some (.object "com/example/concordat/concordat/core/Outcome") }, accessFlags := 1, code := some k10c4 }
def k10c5 : Code := { maxStack := 1, maxLocals := 1, code := prog_11_method_6_code, exceptionTable := #[], attributes := #[] }
def k10m5 : Method := { name := "getReason", desc := "()Lcom/example/concordat/concordat/core/AbortReason;", sig := { parameters := [], returnType := some (.object "com/example/concordat/concordat/core/AbortReason") }, accessFlags := 1, code := some k10c5 }
def k10c6 : Code := { maxStack := 2, maxLocals := 2, code := prog_11_method_7_code, exceptionTable := #[], attributes := #[] }
def k10m6 : Method := { name := "equals", desc := "(Ljava/lang/Object;)Z", sig := { parameters := [(.object "java/lang/Object")], returnType := some .boolean }, accessFlags := 1, code := some k10c6 }
/-- com/example/concordat/concordat/core/Decision -/
def k10 : Class := { plain "com/example/concordat/concordat/core/Decision" (some 0) with
  accessFlags := 49
  interfaces := #[]
  cf := some (fileOf pool10 18 #[] #[{ accessFlags := 2, nameIndex := 5, descriptorIndex := 37, attributes := #[] }, { accessFlags := 9, nameIndex := 65, descriptorIndex := 66, attributes := #[] }, { accessFlags := 9, nameIndex := 67, descriptorIndex := 68, attributes := #[] }, { accessFlags := 1, nameIndex := 69, descriptorIndex := 57, attributes := #[] }, { accessFlags := 1, nameIndex := 70, descriptorIndex := 71, attributes := #[] }, { accessFlags := 1, nameIndex := 72, descriptorIndex := 73, attributes := #[] }, { accessFlags := 1, nameIndex := 48, descriptorIndex := 49, attributes := #[] }] 49 2 #[] #[{ accessFlags := 18, nameIndex := 8, descriptorIndex := 21, attributes := #[] }, { accessFlags := 18, nameIndex := 24, descriptorIndex := 25, attributes := #[] }, { accessFlags := 18, nameIndex := 28, descriptorIndex := 29, attributes := #[] }])
  fields := #[{ name := "transactionId", type := (.object "java/lang/String"), accessFlags := 18, slot := 0, constantValue := 0 }, { name := "outcome", type := (.object "com/example/concordat/concordat/core/Outcome"), accessFlags := 18, slot := 1, constantValue := 0 }, { name := "reason", type := (.object "com/example/concordat/concordat/core/AbortReason"), accessFlags := 18, slot := 2, constantValue := 0 }]
  methods := #[k10m0, k10m1, k10m2, k10m3, k10m4, k10m5, k10m6]
  instanceTypes := #[(.object "java/lang/String"), (.object "com/example/concordat/concordat/core/Outcome"), (.object "com/example/concordat/concordat/core/AbortReason")]
  staticTypes := #[]
  resolved := Array.replicate 95 none
  statics := none }

def pool11 : Array CpInfo := pool [(1, .class_ 2), (0, u "com/example/concordat/concordat/core/Outcome"), (2, u "COMMITTED"), (0, u "Lcom/example/concordat/concordat/core/Outcome;"), (2, u "ABORTED"), (2, u "IN_DOUBT"), (2, u "$VALUES"), (0, u "[Lcom/example/concordat/concordat/core/Outcome;"), (6, .class_ 25), (1, u "java/lang/Enum"), (8, u "word"), (0, u "Ljava/lang/String;")] 30

/-- com/example/concordat/concordat/core/Outcome -/
def k11 : Class := { plain "com/example/concordat/concordat/core/Outcome" (some 8) with
  accessFlags := 16433
  interfaces := #[]
  cf := some (fileOf pool11 1 #[] #[] 16433 23 #[] #[{ accessFlags := 16409, nameIndex := 5, descriptorIndex := 6, attributes := #[] }, { accessFlags := 16409, nameIndex := 9, descriptorIndex := 6, attributes := #[] }, { accessFlags := 16409, nameIndex := 12, descriptorIndex := 6, attributes := #[] }, { accessFlags := 18, nameIndex := 34, descriptorIndex := 35, attributes := #[] }, { accessFlags := 4122, nameIndex := 15, descriptorIndex := 16, attributes := #[] }])
  fields := #[{ name := "COMMITTED", type := (.object "com/example/concordat/concordat/core/Outcome"), accessFlags := 16409, slot := 0, constantValue := 0 }, { name := "ABORTED", type := (.object "com/example/concordat/concordat/core/Outcome"), accessFlags := 16409, slot := 1, constantValue := 0 }, { name := "IN_DOUBT", type := (.object "com/example/concordat/concordat/core/Outcome"), accessFlags := 16409, slot := 2, constantValue := 0 }, { name := "word", type := (.object "java/lang/String"), accessFlags := 18, slot := 3, constantValue := 0 }, { name := "$VALUES", type := (.array (.object "com/example/concordat/concordat/core/Outcome")), accessFlags := 4122, slot := 3, constantValue := 0 }]
  methods := #[]
  instanceTypes := #[(.object "java/lang/String"), .int, .int, (.object "java/lang/String")]
  staticTypes := #[(.object "com/example/concordat/concordat/core/Outcome"), (.object "com/example/concordat/concordat/core/Outcome"), (.object "com/example/concordat/concordat/core/Outcome"), (.array (.object "com/example/concordat/concordat/core/Outcome"))]
  resolved := Array.replicate 66 none
  statics := some 2 }

def pool12 : Array CpInfo := pool [(2, .class_ 4), (1, u "java/lang/Object"), (0, u "<init>"), (0, u "()V"), (35, .class_ 44), (1, u "java/util/Objects"), (0, u "requireNonNull"), (0, u "(Ljava/lang/Object;)Ljava/lang/Object;"), (47, u "(Ljava/lang/Object;Ljava/lang/String;)Ljava/lang/Object;")] 89

def k12m0 : Method := { name := "<init>", desc := "()V", sig := { parameters := [], returnType := none }, accessFlags := 2, code := none }
def k12c1 : Code := { maxStack := 2, maxLocals := 1, code := jdk_31_method_10_code, exceptionTable := #[], attributes := #[] }
def k12m1 : Method := { name := "requireNonNull", desc := "(Ljava/lang/Object;)Ljava/lang/Object;", sig := { parameters := [(.object "java/lang/Object")], returnType := some (.object "java/lang/Object") }, accessFlags := 9, code := some k12c1 }
def k12c2 : Code := { maxStack := 3, maxLocals := 2, code := jdk_31_method_11_code, exceptionTable := #[], attributes := #[] }
def k12m2 : Method := { name := "requireNonNull", desc := "(Ljava/lang/Object;Ljava/lang/String;)Ljava/lang/Object;", sig := { parameters := [(.object "java/lang/Object"), (.object "java/lang/String")], returnType := some (.object "java/lang/Object") }, accessFlags := 9, code := some k12c2 }
/-- java/util/Objects -/
def k12 : Class := { plain "java/util/Objects" (some 0) with
  accessFlags := 49
  interfaces := #[]
  cf := some (fileOf pool12 42 #[] #[{ accessFlags := 2, nameIndex := 5, descriptorIndex := 6, attributes := #[] }, { accessFlags := 9, nameIndex := 45, descriptorIndex := 46, attributes := #[] }, { accessFlags := 9, nameIndex := 45, descriptorIndex := 94, attributes := #[] }] 49 2 #[] #[])
  fields := #[]
  methods := #[k12m0, k12m1, k12m2]
  instanceTypes := #[]
  staticTypes := #[]
  resolved := Array.replicate 184 none
  statics := none }

def pool13 : Array CpInfo := pool [(4, .class_ 6), (1, u "java/lang/Object"), (0, u "<init>"), (0, u "()V"), (5, .class_ 16), (1, u "java/lang/StringLatin1"), (73, u "canEncode"), (14, u "(C)Z"), (15, u "$assertionsDisabled"), (0, u "Z"), (98, .class_ 223), (1, u "java/lang/StringLatin1$LinesSpliterator"), (57, u "equals"), (0, u "([B[B)Z"), (97, u "toBytes"), (1, u "(C)[B"), (7, .class_ 391), (0, u "java/lang/StringLatin1$CharsSpliterator")] 3

def k13m0 : Method := { name := "<init>", desc := "()V", sig := { parameters := [], returnType := none }, accessFlags := 0, code := none }
def k13c1 : Code := { maxStack := 2, maxLocals := 1, code := jdk_43_method_3_code, exceptionTable := #[], attributes := #[] }
def k13m1 : Method := { name := "canEncode", desc := "(C)Z", sig := { parameters := [.char], returnType := some .boolean }, accessFlags := 9, code := some k13c1 }
def k13c2 : Code := { maxStack := 3, maxLocals := 3, code := jdk_43_method_13_code, exceptionTable := #[], attributes := #[] }
def k13m2 : Method := { name := "equals", desc := "([B[B)Z", sig := { parameters := [(.array .byte), (.array .byte)], returnType := some .boolean }, accessFlags := 9, code := some k13c2 }
def k13c3 : Code := { maxStack := 4, maxLocals := 1, code := jdk_43_method_46_code, exceptionTable := #[], attributes := #[] }
def k13m3 : Method := { name := "toBytes", desc := "(C)[B", sig := { parameters := [.char], returnType := some (.array .byte) }, accessFlags := 9, code := some k13c3 }
/-- java/lang/StringLatin1 -/
def k13 : Class := { plain "java/lang/StringLatin1" (some 0) with
  accessFlags := 48
  interfaces := #[]
  cf := some (fileOf pool13 14 #[.nestMembers #[390, 221]] #[{ accessFlags := 0, nameIndex := 7, descriptorIndex := 8, attributes := #[] }, { accessFlags := 9, nameIndex := 90, descriptorIndex := 105, attributes := #[] }, { accessFlags := 9, nameIndex := 281, descriptorIndex := 282, attributes := #[] }, { accessFlags := 9, nameIndex := 380, descriptorIndex := 382, attributes := #[] }] 48 4 #[] #[{ accessFlags := 4120, nameIndex := 121, descriptorIndex := 122, attributes := #[] }])
  fields := #[{ name := "$assertionsDisabled", type := .boolean, accessFlags := 4120, slot := 0, constantValue := 0 }]
  methods := #[k13m0, k13m1, k13m2, k13m3]
  instanceTypes := #[]
  staticTypes := #[.boolean]
  resolved := Array.replicate 395 none
  statics := none }

def pool14 : Array CpInfo := pool [(6, .class_ 8), (1, u "java/lang/Object"), (0, u "<init>"), (0, u "()V"), (1, .class_ 14), (1, u "java/lang/StringUTF16"), (31, u "$assertionsDisabled"), (0, u "Z"), (13, u "HI_BYTE_SHIFT"), (0, u "I"), (2, u "LO_BYTE_SHIFT"), (49, .methodref 12 116), (0, .nameAndType 117 118), (0, u "compress"), (0, u "([CI[BII)I"), (3, u "([CII)[B"), (138, u "coderFromArrayLen"), (0, u "([BI)B"), (106, .class_ 371), (1, u "java/lang/StringUTF16$LinesSpliterator"), (58, u "MAX_LENGTH"), (196, .class_ 628), (0, u "java/lang/StringUTF16$CodePointsSpliterator"), (0, .class_ 630), (0, u "java/lang/StringUTF16$CharsSpliterator")] 4

def k14m0 : Method := { name := "<init>", desc := "()V", sig := { parameters := [], returnType := none }, accessFlags := 0, code := none }
def k14c1 : Code := { maxStack := 2, maxLocals := 2, code := jdk_52_method_15_code, exceptionTable := #[], attributes := #[] }
def k14m1 : Method := { name := "coderFromArrayLen", desc := "([BI)B", sig := { parameters := [(.array .byte), .int], returnType := some .byte }, accessFlags := 8, code := some k14c1 }
def k14c2 : Code := { maxStack := 5, maxLocals := 6, code := jdk_52_method_16_code, exceptionTable := #[], attributes := #[] }
def k14m2 : Method := { name := "compress", desc := "([CII)[B", sig := { parameters := [(.array .char), .int, .int], returnType := some (.array .byte) }, accessFlags := 9, code := some k14c2 }
def k14c3 : Code := { maxStack := 3, maxLocals := 7, code := jdk_52_method_21_code, exceptionTable := #[], attributes := #[] }
def k14m3 : Method := { name := "compress", desc := "([CI[BII)I", sig := { parameters := [(.array .char), .int, (.array .byte), .int, .int], returnType := some .int }, accessFlags := 9, code := some k14c3 }
/-- java/lang/StringUTF16 -/
def k14 : Class := { plain "java/lang/StringUTF16" (some 0) with
  accessFlags := 48
  interfaces := #[]
  cf := some (fileOf pool14 12 #[.nestMembers #[627, 629, 369]] #[{ accessFlags := 0, nameIndex := 9, descriptorIndex := 10, attributes := #[] }, { accessFlags := 8, nameIndex := 261, descriptorIndex := 262, attributes := #[] }, { accessFlags := 9, nameIndex := 117, descriptorIndex := 122, attributes := #[] }, { accessFlags := 9, nameIndex := 117, descriptorIndex := 118, attributes := #[] }] 48 6 #[] #[{ accessFlags := 26, nameIndex := 61, descriptorIndex := 62, attributes := #[] }, { accessFlags := 26, nameIndex := 65, descriptorIndex := 62, attributes := #[] }, { accessFlags := 24, nameIndex := 430, descriptorIndex := 62, attributes := #[] }, { accessFlags := 4120, nameIndex := 46, descriptorIndex := 47, attributes := #[] }])
  fields := #[{ name := "HI_BYTE_SHIFT", type := .int, accessFlags := 26, slot := 0, constantValue := 0 }, { name := "LO_BYTE_SHIFT", type := .int, accessFlags := 26, slot := 1, constantValue := 0 }, { name := "MAX_LENGTH", type := .int, accessFlags := 24, slot := 2, constantValue := 0 }, { name := "$assertionsDisabled", type := .boolean, accessFlags := 4120, slot := 3, constantValue := 0 }]
  methods := #[k14m0, k14m1, k14m2, k14m3]
  instanceTypes := #[]
  staticTypes := #[.int, .int, .int, .boolean]
  resolved := Array.replicate 635 none
  statics := none }

def pool15 : Array CpInfo := pool [(2, .class_ 4), (1, u "java/lang/Object"), (0, u "<init>"), (0, u "()V"), (17, .class_ 26), (1, u "jdk/internal/util/Preconditions"), (28, .class_ 56), (0, u "jdk/internal/util/Preconditions$4"), (57, .class_ 115), (0, u "jdk/internal/util/Preconditions$1"), (7, u "SIOOBE_FORMATTER"), (0, u "Ljava/util/function/BiFunction;"), (0, .class_ 126), (0, u "jdk/internal/util/Preconditions$2"), (3, u "AIOOBE_FORMATTER"), (0, .class_ 132), (0, u "jdk/internal/util/Preconditions$3"), (3, u "IOOBE_FORMATTER")] 57

def k15m0 : Method := { name := "<init>", desc := "()V", sig := { parameters := [], returnType := none }, accessFlags := 1, code := none }
/-- jdk/internal/util/Preconditions -/
def k15 : Class := { plain "jdk/internal/util/Preconditions" (some 0) with
  accessFlags := 33
  interfaces := #[]
  cf := some (fileOf pool15 24 #[.nestMembers #[55, 131, 125, 114]] #[{ accessFlags := 1, nameIndex := 5, descriptorIndex := 6, attributes := #[] }] 33 2 #[] #[{ accessFlags := 25, nameIndex := 123, descriptorIndex := 124, attributes := #[] }, { accessFlags := 25, nameIndex := 130, descriptorIndex := 124, attributes := #[] }, { accessFlags := 25, nameIndex := 136, descriptorIndex := 124, attributes := #[] }])
  fields := #[{ name := "SIOOBE_FORMATTER", type := (.object "java/util/function/BiFunction"), accessFlags := 25, slot := 0, constantValue := 0 }, { name := "AIOOBE_FORMATTER", type := (.object "java/util/function/BiFunction"), accessFlags := 25, slot := 1, constantValue := 0 }, { name := "IOOBE_FORMATTER", type := (.object "java/util/function/BiFunction"), accessFlags := 25, slot := 2, constantValue := 0 }]
  methods := #[k15m0]
  instanceTypes := #[]
  staticTypes := #[(.object "java/util/function/BiFunction"), (.object "java/util/function/BiFunction"), (.object "java/util/function/BiFunction")]
  resolved := Array.replicate 194 none
  statics := some 3 }

def pool16 : Array CpInfo := pool [(9, u "<init>"), (6, .class_ 18), (1, u "java/lang/Object"), (0, u "()V"), (1, .class_ 23), (1, u "jdk/internal/util/ArraysSupport"), (0, u "LOG2_ARRAY_LONG_INDEX_SCALE"), (0, u "I"), (2, u "U"), (0, u "Ljdk/internal/misc/Unsafe;"), (8, u "BIG_ENDIAN"), (0, u "Z"), (8, u "LOG2_BYTE_BIT_SIZE"), (4, u "LOG2_ARRAY_INT_INDEX_SCALE"), (54, u "JLA"), (0, u "Ljdk/internal/access/JavaLangAccess;"), (11, u "LOG2_ARRAY_BOOLEAN_INDEX_SCALE"), (9, u "LOG2_ARRAY_BYTE_INDEX_SCALE"), (5, u "LOG2_ARRAY_CHAR_INDEX_SCALE"), (5, u "LOG2_ARRAY_SHORT_INDEX_SCALE"), (18, u "LOG2_ARRAY_FLOAT_INDEX_SCALE"), (24, u "LOG2_ARRAY_DOUBLE_INDEX_SCALE"), (89, u "T_BOOLEAN"), (2, u "T_CHAR"), (1, u "T_FLOAT"), (1, u "T_DOUBLE"), (1, u "T_BYTE"), (1, u "T_SHORT"), (1, u "T_INT"), (1, u "T_LONG"), (1, u "SOFT_MAX_ARRAY_LENGTH")] 83

def k16m0 : Method := { name := "<init>", desc := "()V", sig := { parameters := [], returnType := none }, accessFlags := 2, code := none }
/-- jdk/internal/util/ArraysSupport -/
def k16 : Class := { plain "jdk/internal/util/ArraysSupport" (some 0) with
  accessFlags := 33
  interfaces := #[]
  cf := some (fileOf pool16 21 #[] #[{ accessFlags := 2, nameIndex := 9, descriptorIndex := 19, attributes := #[] }] 33 16 #[] #[{ accessFlags := 24, nameIndex := 28, descriptorIndex := 29, attributes := #[] }, { accessFlags := 26, nameIndex := 38, descriptorIndex := 39, attributes := #[] }, { accessFlags := 25, nameIndex := 121, descriptorIndex := 25, attributes := #[] }, { accessFlags := 25, nameIndex := 131, descriptorIndex := 25, attributes := #[] }, { accessFlags := 25, nameIndex := 137, descriptorIndex := 25, attributes := #[] }, { accessFlags := 25, nameIndex := 143, descriptorIndex := 25, attributes := #[] }, { accessFlags := 25, nameIndex := 53, descriptorIndex := 25, attributes := #[] }, { accessFlags := 25, nameIndex := 24, descriptorIndex := 25, attributes := #[] }, { accessFlags := 25, nameIndex := 162, descriptorIndex := 25, attributes := #[] }, { accessFlags := 25, nameIndex := 187, descriptorIndex := 25, attributes := #[] }, { accessFlags := 26, nameIndex := 48, descriptorIndex := 25, attributes := #[] }, { accessFlags := 25, nameIndex := 277, descriptorIndex := 25, attributes := #[] }, { accessFlags := 25, nameIndex := 280, descriptorIndex := 25, attributes := #[] }, { accessFlags := 25, nameIndex := 282, descriptorIndex := 25, attributes := #[] }, { accessFlags := 25, nameIndex := 284, descriptorIndex := 25, attributes := #[] }, { accessFlags := 25, nameIndex := 286, descriptorIndex := 25, attributes := #[] }, { accessFlags := 25, nameIndex := 288, descriptorIndex := 25, attributes := #[] }, { accessFlags := 25, nameIndex := 290, descriptorIndex := 25, attributes := #[] }, { accessFlags := 25, nameIndex := 292, descriptorIndex := 25, attributes := #[] }, { accessFlags := 26, nameIndex := 108, descriptorIndex := 109, attributes := #[] }, { accessFlags := 25, nameIndex := 294, descriptorIndex := 25, attributes := #[] }])
  fields := #[{ name := "U", type := (.object "jdk/internal/misc/Unsafe"), accessFlags := 24, slot := 0, constantValue := 0 }, { name := "BIG_ENDIAN", type := .boolean, accessFlags := 26, slot := 1, constantValue := 0 }, { name := "LOG2_ARRAY_BOOLEAN_INDEX_SCALE", type := .int, accessFlags := 25, slot := 2, constantValue := 0 }, { name := "LOG2_ARRAY_BYTE_INDEX_SCALE", type := .int, accessFlags := 25, slot := 3, constantValue := 0 }, { name := "LOG2_ARRAY_CHAR_INDEX_SCALE", type := .int, accessFlags := 25, slot := 4, constantValue := 0 }, { name := "LOG2_ARRAY_SHORT_INDEX_SCALE", type := .int, accessFlags := 25, slot := 5, constantValue := 0 }, { name := "LOG2_ARRAY_INT_INDEX_SCALE", type := .int, accessFlags := 25, slot := 6, constantValue := 0 }, { name := "LOG2_ARRAY_LONG_INDEX_SCALE", type := .int, accessFlags := 25, slot := 7, constantValue := 0 }, { name := "LOG2_ARRAY_FLOAT_INDEX_SCALE", type := .int, accessFlags := 25, slot := 8, constantValue := 0 }, { name := "LOG2_ARRAY_DOUBLE_INDEX_SCALE", type := .int, accessFlags := 25, slot := 9, constantValue := 0 }, { name := "LOG2_BYTE_BIT_SIZE", type := .int, accessFlags := 26, slot := 10, constantValue := 0 }, { name := "T_BOOLEAN", type := .int, accessFlags := 25, slot := 11, constantValue := 0 }, { name := "T_CHAR", type := .int, accessFlags := 25, slot := 12, constantValue := 0 }, { name := "T_FLOAT", type := .int, accessFlags := 25, slot := 13, constantValue := 0 }, { name := "T_DOUBLE", type := .int, accessFlags := 25, slot := 14, constantValue := 0 }, { name := "T_BYTE", type := .int, accessFlags := 25, slot := 15, constantValue := 0 }, { name := "T_SHORT", type := .int, accessFlags := 25, slot := 16, constantValue := 0 }, { name := "T_INT", type := .int, accessFlags := 25, slot := 17, constantValue := 0 }, { name := "T_LONG", type := .int, accessFlags := 25, slot := 18, constantValue := 0 }, { name := "JLA", type := (.object "jdk/internal/access/JavaLangAccess"), accessFlags := 26, slot := 19, constantValue := 0 }, { name := "SOFT_MAX_ARRAY_LENGTH", type := .int, accessFlags := 25, slot := 20, constantValue := 0 }]
  methods := #[k16m0]
  instanceTypes := #[]
  staticTypes := #[(.object "jdk/internal/misc/Unsafe"), .boolean, .int, .int, .int, .int, .int, .int, .int, .int, .int, .int, .int, .int, .int, .int, .int, .int, .int, (.object "jdk/internal/access/JavaLangAccess"), .int]
  resolved := Array.replicate 378 none
  statics := none }

def pool17 : Array CpInfo := pool [(1, u "java/lang/Cloneable"), (0, .class_ 1), (0, u "java/lang/Object"), (0, .class_ 3)] 3

/-- java/lang/Cloneable -/
def k17 : Class := { plain "java/lang/Cloneable" (some 0) with
  accessFlags := 1537
  interfaces := #[]
  cf := some (fileOf pool17 2 #[] #[] 1537 4 #[] #[])
  fields := #[]
  methods := #[]
  instanceTypes := #[]
  staticTypes := #[]
  resolved := Array.replicate 8 none
  statics := none }

/-- the primitive byte -/
def k18 : Class := { plain "byte" none with kind := .primitive 'B', accessFlags := 0x411 }
/-- [B -/
def k19 : Class := { plain "[B" (some 0) with kind := .array 18 .byte, interfaces := #[17, 2], accessFlags := 1041 }

/-- the primitive char -/
def k20 : Class := { plain "char" none with kind := .primitive 'C', accessFlags := 0x411 }
/-- [C -/
def k21 : Class := { plain "[C" (some 0) with kind := .array 20 .char, interfaces := #[17, 2], accessFlags := 1041 }

/-- the primitive int -/
def k22 : Class := { plain "int" none with kind := .primitive 'I', accessFlags := 0x411 }
/-- [I -/
def k23 : Class := { plain "[I" (some 0) with kind := .array 22 .int, interfaces := #[17, 2], accessFlags := 1041 }

def heap : Heap := #[{ cls := 7, slots := #[.long 0, .int 1, .null, .int 0, .null, .int 0, .int 0], vm := .statics 7 },
  { cls := 9, slots := #[.ref 4, .ref 7, .ref 8, .null], vm := .statics 9 },
  { cls := 11, slots := #[.ref 5, .ref 6, .null, .null], vm := .statics 11 },
  { cls := 15, slots := #[.null, .null, .null], vm := .statics 15 },
  { cls := 9, slots := #[.null, .int 0, .int 0, .null], vm := .none },
  { cls := 11, slots := #[.null, .int 0, .int 0, .null], vm := .none },
  { cls := 11, slots := #[.null, .int 1, .int 0, .null], vm := .none },
  { cls := 9, slots := #[.null, .int 0, .int 0, .null], vm := .none },
  { cls := 9, slots := #[.null, .int 0, .int 0, .null], vm := .none }]
def classes : Array Class := #[k0, k1, k2, k3, k4, k5, k6, k7, k8, k9, k10, k11, k12, k13, k14, k15, k16, k17, k18, k19, k20, k21, k22, k23]
def interned : List (Array UInt16 × Addr) := []
def slotsUsed : Nat := 38
def theMethod : MethodId := ⟨1, 3⟩
def args0 : Array Value := #[.int 5, .int 5, .int 5, .int 5, .int 5, .int 5]
def aboutOver (below : List Frame) : State where
  vm := { classes := classes, interned := interned.toArray }
  heap := heap
  slotsUsed := slotsUsed
  threads := #[{ frames := .invoking theMethod args0 :: below }]
def below0 : List Frame := [.native { method := ⟨0, 0⟩, args := #[] }]
def about1 : State := aboutOver below0
def p0 : Program := .bare "" "" ""
def e0 : Env := launch0.env 0 0 0
theorem w_frames : about1.frames = Frame.invoking theMethod args0 :: below0 := rfl
set_option maxRecDepth 65536 in
theorem w_args : argsFit about1.vm theMethod args0 = true := by decide +kernel
set_option maxRecDepth 65536 in
theorem w_heap : heapFits about1 = true := by decide +kernel
set_option maxRecDepth 65536 in
theorem w_runnable : about1.curStatus? = some .runnable := by decide +kernel
set_option maxRecDepth 65536 in
theorem w_alone : about1.alone = true := by decide +kernel
set_option maxRecDepth 65536 in
theorem w_named : about1.methodNamed? x = some theMethod := by decide +kernel
set_option maxRecDepth 65536 in
theorem w_hears : about1.hears theMethod below0 = true := by decide +kernel
set_option maxRecDepth 65536 in
theorem w_ripe : about1.ripe theMethod args0 below0 = true := by decide +kernel
theorem w_running : about1.status = .running := rfl
set_option maxRecDepth 65536 in
theorem w_room : about1.hasRoom e0.platform room_1 = true :=
  launch0.hasRoom_least _ room_1 (by decide +kernel) (by decide +kernel) (by decide +kernel) (by decide +kernel) (by decide +kernel) (by decide +kernel)
theorem allAtoms_all (ts : List Jvm.Cond) (a : Array Jvm.Value) (st : Jvm.State) : (allAtoms ts).before a st = ts.all (fun c => c.before a st) := by
  induction ts with
  | nil => rfl
  | cons c t ih =>
    show (Jvm.Cond.and c (allAtoms t)).before a st = _
    rw [Jvm.Cond.before_and, ih, List.all_cons]
def words1 : List Jvm.Cond := Jvm.Cond.code x code maxLocals ret :: tables_1
/-- a 'code' word, met by the world's own term for the bytes: nothing is compared byte by byte -/
theorem code_word {y : MethodName} {bytes : ByteArray} {mx : Nat} {rt : Option FieldType} {a : Array Value} {s : State} {m : MethodId} {meth : Method} {c : Code} (h1 : s.methodNamed? y = some m) (h2 : s.vm.method? m = some meth) (h3 : meth.code = some c) (h4 : c.code = bytes)
    (h5 : (c.maxLocals == mx && c.exceptionTable.isEmpty && decide (c.maxStack ≤ mostOperands) && decide (meth.sig.returnType = rt) && !meth.locks && decide (parseMethodDescriptor y.desc = some meth.sig)) = true) : (Jvm.Cond.code y bytes mx rt).before a s = true := by
  simp only [Bool.and_eq_true, beq_iff_eq, Bool.not_eq_true', decide_eq_true_eq] at h5
  obtain ⟨⟨⟨⟨⟨g1, g2⟩, g3⟩, g4⟩, g5⟩, g6⟩ := h5
  simp [Cond.before, Cond.holds, Cond.value, h1, h2, h3, h4, g1, g2, g3, g4, g5, g6]
def isCode : Jvm.Cond → Bool
  | .code _ _ _ _ => true
  | _ => false
theorem all_split {L : List Jvm.Cond} {P : Jvm.Cond → Bool} (h1 : L.all (fun c => isCode c || P c) = true) (h2 : ∀ c ∈ L.filter isCode, P c = true) : L.all P = true := by
  refine List.all_eq_true.mpr fun c hc => ?_
  have h := List.all_eq_true.mp h1 c hc
  rcases Bool.eq_false_or_eq_true (isCode c) with hi | hi
  · exact h2 c (List.mem_filter.mpr ⟨hc, hi⟩)
  · simpa [hi] using h
set_option maxRecDepth 65536 in
theorem w_c0 : (Jvm.Cond.code x code maxLocals ret).before args0 about1 = true := code_word (m := ⟨1, 3⟩) (meth := k1m3) (c := k1c3) (by decide +kernel) rfl rfl rfl (by decide +kernel)
set_option maxRecDepth 65536 in
theorem w_c1 : (Jvm.Cond.code ({ cls := "com/example/concordat/concordat/core/DecisionCommittedPinLaw", name := "mk", desc := "(ICCC)Ljava/lang/String;" } : Jvm.MethodName) method_2_code (4 : Nat) (Option.some (Jvm.ClassFile.FieldType.object "java/lang/String"))).before args0 about1 = true := code_word (m := ⟨1, 1⟩) (meth := k1m1) (c := k1c1) (by decide +kernel) rfl rfl rfl (by decide +kernel)
set_option maxRecDepth 65536 in
theorem w_c2 : (Jvm.Cond.code ({ cls := "java/lang/String", name := "<init>", desc := "([C)V" } : Jvm.MethodName) jdk_42_method_3_code (2 : Nat) (Option.none : Option Jvm.ClassFile.FieldType)).before args0 about1 = true := code_word (m := ⟨7, 1⟩) (meth := k7m1) (c := k7c1) (by decide +kernel) rfl rfl rfl (by decide +kernel)
set_option maxRecDepth 65536 in
theorem w_c3 : (Jvm.Cond.code ({ cls := "java/lang/String", name := "<init>", desc := "([CIILjava/lang/Void;)V" } : Jvm.MethodName) jdk_42_method_149_code (6 : Nat) (Option.none : Option Jvm.ClassFile.FieldType)).before args0 about1 = true := code_word (m := ⟨7, 4⟩) (meth := k7m4) (c := k7c4) (by decide +kernel) rfl rfl rfl (by decide +kernel)
set_option maxRecDepth 65536 in
theorem w_c4 : (Jvm.Cond.code ({ cls := "java/lang/Object", name := "<init>", desc := "()V" } : Jvm.MethodName) object_method_1_code (1 : Nat) (Option.none : Option Jvm.ClassFile.FieldType)).before args0 about1 = true := code_word (m := ⟨0, 0⟩) (meth := k0m0) (c := k0c0) (by decide +kernel) rfl rfl rfl (by decide +kernel)
set_option maxRecDepth 65536 in
theorem w_c5 : (Jvm.Cond.code ({ cls := "com/example/concordat/concordat/core/DecisionCommittedPinLaw", name := "pick", desc := "(I)Lcom/example/concordat/concordat/core/AbortReason;" } : Jvm.MethodName) method_3_code (1 : Nat) (Option.some (Jvm.ClassFile.FieldType.object "com/example/concordat/concordat/core/AbortReason"))).before args0 about1 = true := code_word (m := ⟨1, 2⟩) (meth := k1m2) (c := k1c2) (by decide +kernel) rfl rfl rfl (by decide +kernel)
set_option maxRecDepth 65536 in
theorem w_c6 : (Jvm.Cond.code ({ cls := "com/example/concordat/concordat/core/Decision", name := "committed", desc := "(Ljava/lang/String;)Lcom/example/concordat/concordat/core/Decision;" } : Jvm.MethodName) prog_11_method_2_code (1 : Nat) (Option.some (Jvm.ClassFile.FieldType.object "com/example/concordat/concordat/core/Decision"))).before args0 about1 = true := code_word (m := ⟨10, 1⟩) (meth := k10m1) (c := k10c1) (by decide +kernel) rfl rfl rfl (by decide +kernel)
set_option maxRecDepth 65536 in
theorem w_c7 : (Jvm.Cond.code ({ cls := "com/example/concordat/concordat/core/Decision", name := "<init>", desc := "(Ljava/lang/String;Lcom/example/concordat/concordat/core/Outcome;Lcom/example/concordat/concordat/core/AbortReason;)V" } : Jvm.MethodName) prog_11_method_1_code (4 : Nat) (Option.none : Option Jvm.ClassFile.FieldType)).before args0 about1 = true := code_word (m := ⟨10, 0⟩) (meth := k10m0) (c := k10c0) (by decide +kernel) rfl rfl rfl (by decide +kernel)
set_option maxRecDepth 65536 in
theorem w_c8 : (Jvm.Cond.code ({ cls := "java/util/Objects", name := "requireNonNull", desc := "(Ljava/lang/Object;Ljava/lang/String;)Ljava/lang/Object;" } : Jvm.MethodName) jdk_31_method_11_code (2 : Nat) (Option.some (Jvm.ClassFile.FieldType.object "java/lang/Object"))).before args0 about1 = true := code_word (m := ⟨12, 2⟩) (meth := k12m2) (c := k12c2) (by decide +kernel) rfl rfl rfl (by decide +kernel)
set_option maxRecDepth 65536 in
theorem w_c9 : (Jvm.Cond.code ({ cls := "com/example/concordat/concordat/core/Decision", name := "aborted", desc := "(Ljava/lang/String;Lcom/example/concordat/concordat/core/AbortReason;)Lcom/example/concordat/concordat/core/Decision;" } : Jvm.MethodName) prog_11_method_3_code (2 : Nat) (Option.some (Jvm.ClassFile.FieldType.object "com/example/concordat/concordat/core/Decision"))).before args0 about1 = true := code_word (m := ⟨10, 2⟩) (meth := k10m2) (c := k10c2) (by decide +kernel) rfl rfl rfl (by decide +kernel)
set_option maxRecDepth 65536 in
theorem w_c10 : (Jvm.Cond.code ({ cls := "java/util/Objects", name := "requireNonNull", desc := "(Ljava/lang/Object;)Ljava/lang/Object;" } : Jvm.MethodName) jdk_31_method_10_code (1 : Nat) (Option.some (Jvm.ClassFile.FieldType.object "java/lang/Object"))).before args0 about1 = true := code_word (m := ⟨12, 1⟩) (meth := k12m1) (c := k12c1) (by decide +kernel) rfl rfl rfl (by decide +kernel)
set_option maxRecDepth 65536 in
theorem w_c11 : (Jvm.Cond.code ({ cls := "com/example/concordat/concordat/core/Decision", name := "getTransactionId", desc := "()Ljava/lang/String;" } : Jvm.MethodName) prog_11_method_4_code (1 : Nat) (Option.some (Jvm.ClassFile.FieldType.object "java/lang/String"))).before args0 about1 = true := code_word (m := ⟨10, 3⟩) (meth := k10m3) (c := k10c3) (by decide +kernel) rfl rfl rfl (by decide +kernel)
set_option maxRecDepth 65536 in
theorem w_c12 : (Jvm.Cond.code ({ cls := "java/lang/String", name := "equals", desc := "(Ljava/lang/Object;)Z" } : Jvm.MethodName) jdk_42_method_66_code (3 : Nat) (Option.some Jvm.ClassFile.FieldType.boolean)).before args0 about1 = true := code_word (m := ⟨7, 2⟩) (meth := k7m2) (c := k7c2) (by decide +kernel) rfl rfl rfl (by decide +kernel)
set_option maxRecDepth 65536 in
theorem w_c13 : (Jvm.Cond.code ({ cls := "com/example/concordat/concordat/core/Decision", name := "getOutcome", desc := "()Lcom/example/concordat/concordat/core/Outcome;" } : Jvm.MethodName) prog_11_method_5_code (1 : Nat) (Option.some (Jvm.ClassFile.FieldType.object "com/example/concordat/concordat/core/Outcome"))).before args0 about1 = true := code_word (m := ⟨10, 4⟩) (meth := k10m4) (c := k10c4) (by decide +kernel) rfl rfl rfl (by decide +kernel)
set_option maxRecDepth 65536 in
theorem w_c14 : (Jvm.Cond.code ({ cls := "com/example/concordat/concordat/core/Decision", name := "getReason", desc := "()Lcom/example/concordat/concordat/core/AbortReason;" } : Jvm.MethodName) prog_11_method_6_code (1 : Nat) (Option.some (Jvm.ClassFile.FieldType.object "com/example/concordat/concordat/core/AbortReason"))).before args0 about1 = true := code_word (m := ⟨10, 5⟩) (meth := k10m5) (c := k10c5) (by decide +kernel) rfl rfl rfl (by decide +kernel)
set_option maxRecDepth 65536 in
theorem w_c15 : (Jvm.Cond.code ({ cls := "com/example/concordat/concordat/core/Decision", name := "equals", desc := "(Ljava/lang/Object;)Z" } : Jvm.MethodName) prog_11_method_7_code (2 : Nat) (Option.some Jvm.ClassFile.FieldType.boolean)).before args0 about1 = true := code_word (m := ⟨10, 6⟩) (meth := k10m6) (c := k10c6) (by decide +kernel) rfl rfl rfl (by decide +kernel)
set_option maxRecDepth 65536 in
theorem w_c16 : (Jvm.Cond.code ({ cls := "java/lang/StringLatin1", name := "equals", desc := "([B[B)Z" } : Jvm.MethodName) jdk_43_method_13_code (3 : Nat) (Option.some Jvm.ClassFile.FieldType.boolean)).before args0 about1 = true := code_word (m := ⟨13, 2⟩) (meth := k13m2) (c := k13c2) (by decide +kernel) rfl rfl rfl (by decide +kernel)
set_option maxRecDepth 65536 in
theorem w_c17 : (Jvm.Cond.code ({ cls := "java/lang/String", name := "valueOf", desc := "(C)Ljava/lang/String;" } : Jvm.MethodName) jdk_42_method_139_code (1 : Nat) (Option.some (Jvm.ClassFile.FieldType.object "java/lang/String"))).before args0 about1 = true := code_word (m := ⟨7, 3⟩) (meth := k7m3) (c := k7c3) (by decide +kernel) rfl rfl rfl (by decide +kernel)
set_option maxRecDepth 65536 in
theorem w_c18 : (Jvm.Cond.code ({ cls := "java/lang/StringLatin1", name := "canEncode", desc := "(C)Z" } : Jvm.MethodName) jdk_43_method_3_code (1 : Nat) (Option.some Jvm.ClassFile.FieldType.boolean)).before args0 about1 = true := code_word (m := ⟨13, 1⟩) (meth := k13m1) (c := k13c1) (by decide +kernel) rfl rfl rfl (by decide +kernel)
set_option maxRecDepth 65536 in
theorem w_c19 : (Jvm.Cond.code ({ cls := "java/lang/StringLatin1", name := "toBytes", desc := "(C)[B" } : Jvm.MethodName) jdk_43_method_46_code (1 : Nat) (Option.some (Jvm.ClassFile.FieldType.array Jvm.ClassFile.FieldType.byte))).before args0 about1 = true := code_word (m := ⟨13, 3⟩) (meth := k13m3) (c := k13c3) (by decide +kernel) rfl rfl rfl (by decide +kernel)
set_option maxRecDepth 65536 in
theorem w_c20 : (Jvm.Cond.code ({ cls := "java/lang/String", name := "<init>", desc := "([BB)V" } : Jvm.MethodName) jdk_42_method_151_code (3 : Nat) (Option.none : Option Jvm.ClassFile.FieldType)).before args0 about1 = true := code_word (m := ⟨7, 5⟩) (meth := k7m5) (c := k7c5) (by decide +kernel) rfl rfl rfl (by decide +kernel)
set_option maxRecDepth 65536 in
theorem w_c21 : (Jvm.Cond.code ({ cls := "java/lang/StringUTF16", name := "compress", desc := "([CII)[B" } : Jvm.MethodName) jdk_52_method_16_code (6 : Nat) (Option.some (Jvm.ClassFile.FieldType.array Jvm.ClassFile.FieldType.byte))).before args0 about1 = true := code_word (m := ⟨14, 2⟩) (meth := k14m2) (c := k14c2) (by decide +kernel) rfl rfl rfl (by decide +kernel)
set_option maxRecDepth 65536 in
theorem w_c22 : (Jvm.Cond.code ({ cls := "java/lang/StringUTF16", name := "compress", desc := "([CI[BII)I" } : Jvm.MethodName) jdk_52_method_21_code (7 : Nat) (Option.some Jvm.ClassFile.FieldType.int)).before args0 about1 = true := code_word (m := ⟨14, 3⟩) (meth := k14m3) (c := k14c3) (by decide +kernel) rfl rfl rfl (by decide +kernel)
set_option maxRecDepth 65536 in
theorem w_c23 : (Jvm.Cond.code ({ cls := "java/lang/StringUTF16", name := "coderFromArrayLen", desc := "([BI)B" } : Jvm.MethodName) jdk_52_method_15_code (2 : Nat) (Option.some Jvm.ClassFile.FieldType.byte)).before args0 about1 = true := code_word (m := ⟨14, 1⟩) (meth := k14m1) (c := k14c1) (by decide +kernel) rfl rfl rfl (by decide +kernel)
def codes1 : List Jvm.Cond := [Jvm.Cond.code x code maxLocals ret, Jvm.Cond.code ({ cls := "com/example/concordat/concordat/core/DecisionCommittedPinLaw", name := "mk", desc := "(ICCC)Ljava/lang/String;" } : Jvm.MethodName) method_2_code (4 : Nat) (Option.some (Jvm.ClassFile.FieldType.object "java/lang/String")), Jvm.Cond.code ({ cls := "java/lang/String", name := "<init>", desc := "([C)V" } : Jvm.MethodName) jdk_42_method_3_code (2 : Nat) (Option.none : Option Jvm.ClassFile.FieldType), Jvm.Cond.code ({ cls := "java/lang/String", name := "<init>", desc := "([CIILjava/lang/Void;)V" } : Jvm.MethodName) jdk_42_method_149_code (6 : Nat) (Option.none : Option Jvm.ClassFile.FieldType), Jvm.Cond.code ({ cls := "java/lang/Object", name := "<init>", desc := "()V" } : Jvm.MethodName) object_method_1_code (1 : Nat) (Option.none : Option Jvm.ClassFile.FieldType), Jvm.Cond.code ({ cls := "com/example/concordat/concordat/core/DecisionCommittedPinLaw", name := "pick", desc := "(I)Lcom/example/concordat/concordat/core/AbortReason;" } : Jvm.MethodName) method_3_code (1 : Nat) (Option.some (Jvm.ClassFile.FieldType.object "com/example/concordat/concordat/core/AbortReason")), Jvm.Cond.code ({ cls := "com/example/concordat/concordat/core/Decision", name := "committed", desc := "(Ljava/lang/String;)Lcom/example/concordat/concordat/core/Decision;" } : Jvm.MethodName) prog_11_method_2_code (1 : Nat) (Option.some (Jvm.ClassFile.FieldType.object "com/example/concordat/concordat/core/Decision")), Jvm.Cond.code ({ cls := "com/example/concordat/concordat/core/Decision", name := "<init>", desc := "(Ljava/lang/String;Lcom/example/concordat/concordat/core/Outcome;Lcom/example/concordat/concordat/core/AbortReason;)V" } : Jvm.MethodName) prog_11_method_1_code (4 : Nat) (Option.none : Option Jvm.ClassFile.FieldType), Jvm.Cond.code ({ cls := "java/util/Objects", name := "requireNonNull", desc := "(Ljava/lang/Object;Ljava/lang/String;)Ljava/lang/Object;" } : Jvm.MethodName) jdk_31_method_11_code (2 : Nat) (Option.some (Jvm.ClassFile.FieldType.object "java/lang/Object")), Jvm.Cond.code ({ cls := "com/example/concordat/concordat/core/Decision", name := "aborted", desc := "(Ljava/lang/String;Lcom/example/concordat/concordat/core/AbortReason;)Lcom/example/concordat/concordat/core/Decision;" } : Jvm.MethodName) prog_11_method_3_code (2 : Nat) (Option.some (Jvm.ClassFile.FieldType.object "com/example/concordat/concordat/core/Decision")), Jvm.Cond.code ({ cls := "java/util/Objects", name := "requireNonNull", desc := "(Ljava/lang/Object;)Ljava/lang/Object;" } : Jvm.MethodName) jdk_31_method_10_code (1 : Nat) (Option.some (Jvm.ClassFile.FieldType.object "java/lang/Object")), Jvm.Cond.code ({ cls := "com/example/concordat/concordat/core/Decision", name := "getTransactionId", desc := "()Ljava/lang/String;" } : Jvm.MethodName) prog_11_method_4_code (1 : Nat) (Option.some (Jvm.ClassFile.FieldType.object "java/lang/String")), Jvm.Cond.code ({ cls := "java/lang/String", name := "equals", desc := "(Ljava/lang/Object;)Z" } : Jvm.MethodName) jdk_42_method_66_code (3 : Nat) (Option.some Jvm.ClassFile.FieldType.boolean), Jvm.Cond.code ({ cls := "com/example/concordat/concordat/core/Decision", name := "getOutcome", desc := "()Lcom/example/concordat/concordat/core/Outcome;" } : Jvm.MethodName) prog_11_method_5_code (1 : Nat) (Option.some (Jvm.ClassFile.FieldType.object "com/example/concordat/concordat/core/Outcome")), Jvm.Cond.code ({ cls := "com/example/concordat/concordat/core/Decision", name := "getReason", desc := "()Lcom/example/concordat/concordat/core/AbortReason;" } : Jvm.MethodName) prog_11_method_6_code (1 : Nat) (Option.some (Jvm.ClassFile.FieldType.object "com/example/concordat/concordat/core/AbortReason")), Jvm.Cond.code ({ cls := "com/example/concordat/concordat/core/Decision", name := "equals", desc := "(Ljava/lang/Object;)Z" } : Jvm.MethodName) prog_11_method_7_code (2 : Nat) (Option.some Jvm.ClassFile.FieldType.boolean), Jvm.Cond.code ({ cls := "java/lang/StringLatin1", name := "equals", desc := "([B[B)Z" } : Jvm.MethodName) jdk_43_method_13_code (3 : Nat) (Option.some Jvm.ClassFile.FieldType.boolean), Jvm.Cond.code ({ cls := "java/lang/String", name := "valueOf", desc := "(C)Ljava/lang/String;" } : Jvm.MethodName) jdk_42_method_139_code (1 : Nat) (Option.some (Jvm.ClassFile.FieldType.object "java/lang/String")), Jvm.Cond.code ({ cls := "java/lang/StringLatin1", name := "canEncode", desc := "(C)Z" } : Jvm.MethodName) jdk_43_method_3_code (1 : Nat) (Option.some Jvm.ClassFile.FieldType.boolean), Jvm.Cond.code ({ cls := "java/lang/StringLatin1", name := "toBytes", desc := "(C)[B" } : Jvm.MethodName) jdk_43_method_46_code (1 : Nat) (Option.some (Jvm.ClassFile.FieldType.array Jvm.ClassFile.FieldType.byte)), Jvm.Cond.code ({ cls := "java/lang/String", name := "<init>", desc := "([BB)V" } : Jvm.MethodName) jdk_42_method_151_code (3 : Nat) (Option.none : Option Jvm.ClassFile.FieldType), Jvm.Cond.code ({ cls := "java/lang/StringUTF16", name := "compress", desc := "([CII)[B" } : Jvm.MethodName) jdk_52_method_16_code (6 : Nat) (Option.some (Jvm.ClassFile.FieldType.array Jvm.ClassFile.FieldType.byte)), Jvm.Cond.code ({ cls := "java/lang/StringUTF16", name := "compress", desc := "([CI[BII)I" } : Jvm.MethodName) jdk_52_method_21_code (7 : Nat) (Option.some Jvm.ClassFile.FieldType.int), Jvm.Cond.code ({ cls := "java/lang/StringUTF16", name := "coderFromArrayLen", desc := "([BI)B" } : Jvm.MethodName) jdk_52_method_15_code (2 : Nat) (Option.some Jvm.ClassFile.FieldType.byte)]
set_option maxRecDepth 65536 in
theorem codes_eq : words1.filter isCode = codes1 := rfl
theorem w_codes : ∀ c ∈ words1.filter isCode, c.before args0 about1 = true := by
  rw [codes_eq]
  intro c hc
  simp only [codes1, List.mem_cons, List.not_mem_nil, or_false] at hc
  rcases hc with rfl | rfl | rfl | rfl | rfl | rfl | rfl | rfl | rfl | rfl | rfl | rfl | rfl | rfl | rfl | rfl | rfl | rfl | rfl | rfl | rfl | rfl | rfl | rfl
  · exact w_c0
  · exact w_c1
  · exact w_c2
  · exact w_c3
  · exact w_c4
  · exact w_c5
  · exact w_c6
  · exact w_c7
  · exact w_c8
  · exact w_c9
  · exact w_c10
  · exact w_c11
  · exact w_c12
  · exact w_c13
  · exact w_c14
  · exact w_c15
  · exact w_c16
  · exact w_c17
  · exact w_c18
  · exact w_c19
  · exact w_c20
  · exact w_c21
  · exact w_c22
  · exact w_c23
set_option maxRecDepth 65536 in
theorem w_t1 : (words1.take 24).all (fun c => isCode c || c.before args0 about1) = true := by decide +kernel
set_option maxRecDepth 65536 in
theorem w_t2 : ((words1.drop 24).take 24).all (fun c => isCode c || c.before args0 about1) = true := by decide +kernel
set_option maxRecDepth 65536 in
theorem w_t3 : (((words1.drop 24).drop 24).take 24).all (fun c => isCode c || c.before args0 about1) = true := by decide +kernel
set_option maxRecDepth 65536 in
theorem w_t4 : ((((words1.drop 24).drop 24).drop 24).take 24).all (fun c => isCode c || c.before args0 about1) = true := by decide +kernel
set_option maxRecDepth 65536 in
theorem w_t5 : (((((words1.drop 24).drop 24).drop 24).drop 24).take 24).all (fun c => isCode c || c.before args0 about1) = true := by decide +kernel
set_option maxRecDepth 65536 in
theorem w_t6 : (((((words1.drop 24).drop 24).drop 24).drop 24).drop 24).all (fun c => isCode c || c.before args0 about1) = true := by decide +kernel
theorem w_tables : (allAtoms (Jvm.Cond.code x code maxLocals ret :: tables_1)).before args0 about1 = true := by
  rw [allAtoms_all]
  show words1.all (fun c => c.before args0 about1) = true
  refine all_split ?_ w_codes
  rw [← List.take_append_drop 24 words1, List.all_append, w_t1, ← List.take_append_drop 24 (words1.drop 24), List.all_append, w_t2, ← List.take_append_drop 24 ((words1.drop 24).drop 24), List.all_append, w_t3, ← List.take_append_drop 24 (((words1.drop 24).drop 24).drop 24), List.all_append, w_t4, ← List.take_append_drop 24 ((((words1.drop 24).drop 24).drop 24).drop 24), List.all_append, w_t5, w_t6]
  rfl
set_option maxRecDepth 65536 in
theorem w_rest : rest_1_c.before args0 about1 = true := by decide +kernel
set_option maxRecDepth 65536 in
theorem w_case : (Jvm.Cond.and given_1 narrow_1).before args0 about1 = true := by decide +kernel
set_option maxRecDepth 65536 in
theorem w_consts : constsHeld consts_1 about1 := Jvm.Lit.constsHeldB_iff.mp (by decide +kernel)
theorem w_applies : (headSpec (Jvm.Cond.code x code maxLocals ret :: tables_1) room_1).applies x e0.platform about1 = true :=
  (Spec.applies_iff w_frames).mpr ⟨w_running, w_runnable, w_alone, w_named, w_hears, w_ripe, w_room, w_tables⟩
theorem atStart : AtStart classFile x code maxLocals ret World_1 tables_1 room_1 Calls_1 rest_1 Pre_1 launch0 p0 e0 about1 theMethod args0 below0 :=
  ⟨lists_1, trivial, launch0.admits_env _ _ _, launch0.least_env, fairChoices_fair.cas, fairChoices_fair.clock, w_frames, w_args, w_heap, w_applies, ⟨w_consts, trivial⟩, w_rest, w_case⟩
end start1
theorem witness_1 : WitnessClaimed_1 := ⟨start1.p0, start1.e0, start1.about1, start1.theMethod, start1.args0, start1.below0, start1.atStart⟩
end Jvm.Pilot.@@N@@
