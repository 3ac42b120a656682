import JvmDerived
import JvmDerived.Pilot.@@N@@Statement
import JvmDerived.Pilot.@@N@@Code
set_option linter.unusedVariables false
set_option linter.unusedSimpArgs false
namespace Jvm.Pilot.@@N@@
open Jvm Jvm.ClassFile Sem Op Lib Jvm.Free Jvm.Stand Jvm.LawKit Jvm.RoadKit Bundle Jvm.Pilot.@@N@@.Jvm.D
section OwnKit
variable {p : Program} {l : Launch} {e : Env} {R : Room} {s : State} {m : MethodId} {args : Array Value} {below : List Frame} {meth : Method} {c : Code} {T : State} {locs : List Loc} {cells slots : Nat} {Z : State} {h h' : Heap} {a b : Addr} {ty : FieldType}
/-- from S the run comes to a state of which F holds -/
def oGl (p : Program) (e : Env) (below : List Frame) (S : State) (F : State → Prop) : Prop := ∃ t, Steps p.tables e below S t ∧ F t
theorem oOn {S S' : State} {F : State → Prop} (st : ∀ t, Steps p.tables e below S' t → Steps p.tables e below S t) (k : oGl p e below S' F) : oGl p e below S F := by
  obtain ⟨t, k1, k2⟩ := k; exact ⟨t, st t k1, k2⟩
theorem oSt {S S' : State} {F : State → Prop} (st : Steps p.tables e below S S') (k : oGl p e below S' F) : oGl p e below S F := by
  obtain ⟨t, k1, k2⟩ := k; exact ⟨t, st.trans k1, k2⟩
theorem oCast {g g' : JFrame} {F : State → Prop} (q : g = g') (k : oGl p e below (T.setTop g') F) : oGl p e below (T.setTop g) F := q ▸ k
def oFin (s : State) (below : List Frame) (Q : Option Value → Heap → List Loc → Prop) (C S : Nat) (t : State) : Prop := ∃ o, t.status = .running ∧ Ended t below o ∧ ∃ v L, o = .returned v ∧ Q v t.heap L ∧ FrameEnd s o t L C S
theorem oEnter {S0 : State} {Q : Option Value → Heap → List Loc → Prop} {C S : Nat} (k : oGl p e below S0 (oFin s below Q C S)) : ∃ s₂ o, Steps p.tables e below S0 s₂ ∧ s₂.status = .running ∧ Ended s₂ below o ∧ ∃ v L, o = .returned v ∧ Q v s₂.heap L ∧ FrameEnd s o s₂ L C S := by
  obtain ⟨t, k1, o, k2, k3, k4⟩ := k; exact ⟨t, o, k1, k2, k3, k4⟩
theorem oRetI (X : Stand p l e R s m args below meth c T locs cells slots) (hx : p.tables.exec = Jvm.exec) (hl : meth.locks = false) {pc : Nat} {Ls : Array Slot} {z : Int32} {rest : List Value} (hret : meth.sig.returnType = some .int) (hd : decode c.code pc = .ok (.ireturn, 1))
    {Q : Option Value → Heap → List Loc → Prop} {C S : Nat} (hc : cells ≤ C) (hs : slots ≤ S) (hq : Q (some (.int z)) T.heap locs) : oGl p e below (T.setTop (mkF m pc Ls (.int z :: rest))) (oFin s below Q C S) := by
  obtain ⟨fs, hr, hrun, hended, hW, hsame⟩ := X.leave (v := some (.int z)) (fun q => by rw [hret] at q; cases q) hl
  exact ⟨_, retOut X hx hret rfl (Or.inl ⟨rfl, Or.inl rfl, _, rfl⟩) hd hr, _, hrun, hended, _, _, rfl, hq, ⟨_, rfl⟩, hW, hsame.mono hc hs⟩
theorem oRetN {t : FieldType} (X : Stand p l e R s m args below meth c T locs cells slots) (hx : p.tables.exec = Jvm.exec) (hl : meth.locks = false) {pc : Nat} {Ls : Array Slot} {z : Int32} {rest : List Value} (hret : meth.sig.returnType = some t) (ht : t = .boolean ∨ t = .byte ∨ t = .char ∨ t = .short) (hd : decode c.code pc = .ok (.ireturn, 1))
    {Q : Option Value → Heap → List Loc → Prop} {C S : Nat} (hc : cells ≤ C) (hs : slots ≤ S) (hq : Q (some (.int (nar t z))) T.heap locs) : oGl p e below (T.setTop (mkF m pc Ls (.int z :: rest))) (oFin s below Q C S) := by
  obtain ⟨fs, hr, hrun, hended, hW, hsame⟩ := X.leave (v := some (.int (nar t z))) (fun q => by rw [hret] at q; cases q) hl
  exact ⟨_, retN X hx hret ht hd hr, _, hrun, hended, _, _, rfl, hq, ⟨_, rfl⟩, hW, hsame.mono hc hs⟩
theorem oRetJ (X : Stand p l e R s m args below meth c T locs cells slots) (hx : p.tables.exec = Jvm.exec) (hl : meth.locks = false) {pc : Nat} {Ls : Array Slot} {z : Int64} {rest : List Value} (hret : meth.sig.returnType = some .long) (hd : decode c.code pc = .ok (.lreturn, 1))
    {Q : Option Value → Heap → List Loc → Prop} {C S : Nat} (hc : cells ≤ C) (hs : slots ≤ S) (hq : Q (some (.long z)) T.heap locs) : oGl p e below (T.setTop (mkF m pc Ls (.long z :: rest))) (oFin s below Q C S) := by
  obtain ⟨fs, hr, hrun, hended, hW, hsame⟩ := X.leave (v := some (.long z)) (fun q => by rw [hret] at q; cases q) hl
  exact ⟨_, retOut X hx hret rfl (Or.inr (Or.inl ⟨rfl, rfl, _, rfl⟩)) hd hr, _, hrun, hended, _, _, rfl, hq, ⟨_, rfl⟩, hW, hsame.mono hc hs⟩
theorem narrow_ref {t : FieldType} {w : Value} (ht : t.isReference = true) (hw : w.isRef = true) : narrow t w = w := by
  rcases ref_cases hw with rfl | ⟨a, rfl⟩ <;> cases t <;> first | rfl | (cases ht; done)
theorem oRetR {t : FieldType} (X : Stand p l e R s m args below meth c T locs cells slots) (hx : p.tables.exec = Jvm.exec) (hl : meth.locks = false) {pc : Nat} {Ls : Array Slot} {w : Value} {rest : List Value} (hret : meth.sig.returnType = some t) (ht : t.isReference = true) (hw : w.isRef = true) (hd : decode c.code pc = .ok (.areturn, 1))
    {Q : Option Value → Heap → List Loc → Prop} {C S : Nat} (hc : cells ≤ C) (hs : slots ≤ S) (hq : Q (some w) T.heap locs) : oGl p e below (T.setTop (mkF m pc Ls (w :: rest))) (oFin s below Q C S) := by
  obtain ⟨fs, hr, hrun, hended, hW, hsame⟩ := X.leave (v := some w) (fun q => by rw [hret] at q; cases q) hl
  exact ⟨_, retOut X hx hret (narrow_ref ht hw) (Or.inr (Or.inr (Or.inr (Or.inr ⟨rfl, ht, hw⟩)))) hd hr, _, hrun, hended, _, _, rfl, hq, ⟨_, rfl⟩, hW, hsame.mono hc hs⟩
theorem oRet0 (X : Stand p l e R s m args below meth c T locs cells slots) (hx : p.tables.exec = Jvm.exec) (hl : meth.locks = false) {pc : Nat} {Ls : Array Slot} (hret : meth.sig.returnType = none) (hd : decode c.code pc = .ok (.return_, 1))
    {Q : Option Value → Heap → List Loc → Prop} {C S : Nat} (hc : cells ≤ C) (hs : slots ≤ S) (hq : Q none T.heap locs) : oGl p e below (T.setTop (mkF m pc Ls [])) (oFin s below Q C S) := by
  obtain ⟨fs, hr, hrun, hended, hW, hsame⟩ := X.leave (v := none) (fun _ => rfl) hl
  exact ⟨_, X.returnOut hx hret hd hr, _, hrun, hended, _, _, rfl, hq, ⟨_, rfl⟩, hW, hsame.mono hc hs⟩
def oFinW (s : State) (below : List Frame) (Q : Option Value → Heap → List Loc → Prop) (C S : Nat) (t : State) : Prop := ∃ o, t.status = .running ∧ Ended t below o ∧ ∃ v L, o = .returned v ∧ Q v t.heap L ∧ ReturnedEndW s o t L C S
theorem oEnterW {S0 : State} {Q : Option Value → Heap → List Loc → Prop} {C S : Nat} (k : oGl p e below S0 (oFinW s below Q C S)) : ∃ s₂ o, Steps p.tables e below S0 s₂ ∧ s₂.status = .running ∧ Ended s₂ below o ∧ ∃ v L, o = .returned v ∧ Q v s₂.heap L ∧ ReturnedEndW s o s₂ L C S := by
  obtain ⟨t, k1, o, k2, k3, k4⟩ := k; exact ⟨t, o, k1, k2, k3, k4⟩
theorem oRetIW {vm₁ : Vm} {n : Nat} (X : Stand p l e R (s.setVm vm₁) m args below meth c T locs cells slots) (hS : s.Since vm₁ n) (hn : n ≤ T.heap.size) (hx : p.tables.exec = Jvm.exec) (hl : meth.locks = false) {pc : Nat} {Ls : Array Slot} {z : Int32} {rest : List Value} (hret : meth.sig.returnType = some .int) (hd : decode c.code pc = .ok (.ireturn, 1))
    {Q : Option Value → Heap → List Loc → Prop} {C S : Nat} (hc : cells ≤ C) (hs : slots ≤ S) (hq : Q (some (.int z)) T.heap locs) : oGl p e below (T.setTop (mkF m pc Ls (.int z :: rest))) (oFinW s below Q C S) := by
  obtain ⟨fs, hr, hrun, hended, h1, h2, h3, hsame⟩ := X.leaveW hS hn (v := some (.int z)) (fun q => by rw [hret] at q; cases q) hl
  exact ⟨_, retOut X hx hret rfl (Or.inl ⟨rfl, Or.inl rfl, _, rfl⟩) hd hr, _, hrun, hended, _, _, rfl, hq, h1, h2, h3, hsame.mono hc hs⟩
theorem oRetNW {t : FieldType} {vm₁ : Vm} {n : Nat} (X : Stand p l e R (s.setVm vm₁) m args below meth c T locs cells slots) (hS : s.Since vm₁ n) (hn : n ≤ T.heap.size) (hx : p.tables.exec = Jvm.exec) (hl : meth.locks = false) {pc : Nat} {Ls : Array Slot} {z : Int32} {rest : List Value} (hret : meth.sig.returnType = some t) (ht : t = .boolean ∨ t = .byte ∨ t = .char ∨ t = .short) (hd : decode c.code pc = .ok (.ireturn, 1))
    {Q : Option Value → Heap → List Loc → Prop} {C S : Nat} (hc : cells ≤ C) (hs : slots ≤ S) (hq : Q (some (.int (nar t z))) T.heap locs) : oGl p e below (T.setTop (mkF m pc Ls (.int z :: rest))) (oFinW s below Q C S) := by
  obtain ⟨fs, hr, hrun, hended, h1, h2, h3, hsame⟩ := X.leaveW hS hn (v := some (.int (nar t z))) (fun q => by rw [hret] at q; cases q) hl
  exact ⟨_, retN X hx hret ht hd hr, _, hrun, hended, _, _, rfl, hq, h1, h2, h3, hsame.mono hc hs⟩
theorem oRetRW {t : FieldType} {vm₁ : Vm} {n : Nat} (X : Stand p l e R (s.setVm vm₁) m args below meth c T locs cells slots) (hS : s.Since vm₁ n) (hn : n ≤ T.heap.size) (hx : p.tables.exec = Jvm.exec) (hl : meth.locks = false) {pc : Nat} {Ls : Array Slot} {w : Value} {rest : List Value} (hret : meth.sig.returnType = some t) (ht : t.isReference = true) (hw : w.isRef = true) (hd : decode c.code pc = .ok (.areturn, 1))
    {Q : Option Value → Heap → List Loc → Prop} {C S : Nat} (hc : cells ≤ C) (hs : slots ≤ S) (hq : Q (some w) T.heap locs) : oGl p e below (T.setTop (mkF m pc Ls (w :: rest))) (oFinW s below Q C S) := by
  obtain ⟨fs, hr, hrun, hended, h1, h2, h3, hsame⟩ := X.leaveW hS hn (v := some w) (fun q => by rw [hret] at q; cases q) hl
  exact ⟨_, retOut X hx hret (narrow_ref ht hw) (Or.inr (Or.inr (Or.inr (Or.inr ⟨rfl, ht, hw⟩)))) hd hr, _, hrun, hended, _, _, rfl, hq, h1, h2, h3, hsame.mono hc hs⟩
theorem oRet0W {vm₁ : Vm} {n : Nat} (X : Stand p l e R (s.setVm vm₁) m args below meth c T locs cells slots) (hS : s.Since vm₁ n) (hn : n ≤ T.heap.size) (hx : p.tables.exec = Jvm.exec) (hl : meth.locks = false) {pc : Nat} {Ls : Array Slot} (hret : meth.sig.returnType = none) (hd : decode c.code pc = .ok (.return_, 1))
    {Q : Option Value → Heap → List Loc → Prop} {C S : Nat} (hc : cells ≤ C) (hs : slots ≤ S) (hq : Q none T.heap locs) : oGl p e below (T.setTop (mkF m pc Ls [])) (oFinW s below Q C S) := by
  obtain ⟨fs, hr, hrun, hended, h1, h2, h3, hsame⟩ := X.leaveW hS hn (v := none) (fun _ => rfl) hl
  exact ⟨_, X.returnOut hx hret hd hr, _, hrun, hended, _, _, rfl, hq, h1, h2, h3, hsame.mono hc hs⟩
theorem oCat {w : Value} (hw : w.isRef = true) : w.category = 1 := by rcases ref_cases hw with rfl | ⟨a, rfl⟩ <;> rfl
theorem fits_refO {t : FieldType} {w : Value} (ht : t.isReference = true) (hw : w.isRef = true) : fits t w = true := by
  rcases ref_cases hw with rfl | ⟨a, rfl⟩ <;> cases t <;> first | rfl | (cases ht; done)
theorem oSto {ls : Array Slot} {i : Nat} {v : Value} {o : Slot} (hold : ls[i]? = some o) (ho : o = .unset ∨ ∃ w, o = .val w ∧ w.category = 1) (hv : v.category = 1) : storeLocals ls i v = some (ls.setIfInBounds i (.val v)) := XS.store1 hold ho hv
theorem oDup2 {tb : Tables} [Ours tb] {target : State} {g : JFrame} (hh : At T m c below) (hx : tb.exec = Jvm.exec) (hg : g.method = m) {x y : Value} {rest : List Value} (hd : decode c.code g.pc = .ok (.dup2, 1)) (hs : g.stack = x :: y :: rest) (hc : x.category = 1) (hc2 : y.category = 1)
    (hr : Steps tb e below (T.setTop { g with pc := g.pc + 1, stack := x :: y :: x :: y :: rest }) target) : Steps tb e below (T.setTop g) target := by
  subst hg
  jvm_step hh [hh.top, hx, hd, hs, hc, hc2]
  exact hr
theorem oDupX2 {tb : Tables} [Ours tb] {target : State} {g : JFrame} (hh : At T m c below) (hx : tb.exec = Jvm.exec) (hg : g.method = m) {x y z : Value} {rest : List Value} (hd : decode c.code g.pc = .ok (.dup_x2, 1)) (hs : g.stack = x :: y :: z :: rest) (hc : x.category = 1) (hc2 : y.category = 1) (hc3 : z.category = 1)
    (hr : Steps tb e below (T.setTop { g with pc := g.pc + 1, stack := x :: y :: z :: x :: rest }) target) : Steps tb e below (T.setTop g) target := by
  subst hg
  jvm_step hh [hh.top, hx, hd, hs, hc, hc2, hc3]
  exact hr
theorem oNe {x y : Nat} (q : x < y ∨ y < x) : x ≠ y := by omega
/-! single steps -/
theorem siload {pc pc' : Nat} {Ls : Array Slot} {F : State → Prop} {st : List Value} {k : Nat} {v : Int32} (X : Stand p l e R s m args below meth c T locs cells slots) (hx : p.tables.exec = Jvm.exec) (hd : decode c.code pc = .ok (.iload k, 2)) (hp : pc + 2 = pc') (hl : Ls[k]? = some (.val (.int v))) (kk : oGl p e below (T.setTop (mkF m pc' Ls (.int v :: st))) F) : oGl p e below (T.setTop (mkF m pc Ls (st))) F := by
  subst hp
  exact oOn (fun _ kK => XS.iload X.here hx rfl hd hl kK) kk
theorem siloadN {pc pc' : Nat} {Ls : Array Slot} {F : State → Prop} {st : List Value} {k : Fin 4} {v : Int32} (X : Stand p l e R s m args below meth c T locs cells slots) (hx : p.tables.exec = Jvm.exec) (hd : decode c.code pc = .ok (.iload_n k, 1)) (hp : pc + 1 = pc') (hl : Ls[k.val]? = some (.val (.int v))) (kk : oGl p e below (T.setTop (mkF m pc' Ls (.int v :: st))) F) : oGl p e below (T.setTop (mkF m pc Ls (st))) F := by
  subst hp
  exact oOn (fun _ kK => XS.iloadN X.here hx rfl hd hl kK) kk
theorem slload {pc pc' : Nat} {Ls : Array Slot} {F : State → Prop} {st : List Value} {k : Nat} {v : Int64} (X : Stand p l e R s m args below meth c T locs cells slots) (hx : p.tables.exec = Jvm.exec) (hd : decode c.code pc = .ok (.lload k, 2)) (hp : pc + 2 = pc') (hl : Ls[k]? = some (.val (.long v))) (kk : oGl p e below (T.setTop (mkF m pc' Ls (.long v :: st))) F) : oGl p e below (T.setTop (mkF m pc Ls (st))) F := by
  subst hp
  exact oOn (fun _ kK => XS.lload X.here hx rfl hd hl kK) kk
theorem slloadN {pc pc' : Nat} {Ls : Array Slot} {F : State → Prop} {st : List Value} {k : Fin 4} {v : Int64} (X : Stand p l e R s m args below meth c T locs cells slots) (hx : p.tables.exec = Jvm.exec) (hd : decode c.code pc = .ok (.lload_n k, 1)) (hp : pc + 1 = pc') (hl : Ls[k.val]? = some (.val (.long v))) (kk : oGl p e below (T.setTop (mkF m pc' Ls (.long v :: st))) F) : oGl p e below (T.setTop (mkF m pc Ls (st))) F := by
  subst hp
  exact oOn (fun _ kK => XS.lloadN X.here hx rfl hd hl kK) kk
theorem saload {pc pc' : Nat} {Ls : Array Slot} {F : State → Prop} {st : List Value} {k : Nat} {v : Value} (X : Stand p l e R s m args below meth c T locs cells slots) (hx : p.tables.exec = Jvm.exec) (hd : decode c.code pc = .ok (.aload k, 2)) (hp : pc + 2 = pc') (hl : Ls[k]? = some (.val v)) (hv : v.isRef = true) (kk : oGl p e below (T.setTop (mkF m pc' Ls (v :: st))) F) : oGl p e below (T.setTop (mkF m pc Ls (st))) F := by
  subst hp
  exact oOn (fun _ kK => XS.aload X.here hx rfl hd hl hv kK) kk
theorem saloadN {pc pc' : Nat} {Ls : Array Slot} {F : State → Prop} {st : List Value} {k : Fin 4} {v : Value} (X : Stand p l e R s m args below meth c T locs cells slots) (hx : p.tables.exec = Jvm.exec) (hd : decode c.code pc = .ok (.aload_n k, 1)) (hp : pc + 1 = pc') (hl : Ls[k.val]? = some (.val v)) (hv : v.isRef = true) (kk : oGl p e below (T.setTop (mkF m pc' Ls (v :: st))) F) : oGl p e below (T.setTop (mkF m pc Ls (st))) F := by
  subst hp
  exact oOn (fun _ kK => XS.aloadN X.here hx rfl hd hl hv kK) kk
theorem sistore {pc pc' : Nat} {Ls : Array Slot} {F : State → Prop} {st : List Value} {k : Nat} {x : Int32} {l' : Array Slot} (X : Stand p l e R s m args below meth c T locs cells slots) (hx : p.tables.exec = Jvm.exec) (hd : decode c.code pc = .ok (.istore k, 2)) (hp : pc + 2 = pc') (hl : storeLocals Ls k (.int x) = some l') (kk : oGl p e below (T.setTop (mkF m pc' l' (st))) F) : oGl p e below (T.setTop (mkF m pc Ls (.int x :: st))) F := by
  subst hp
  exact oOn (fun _ kK => XS.istore X.here hx rfl hd rfl hl kK) kk
theorem sistoreN {pc pc' : Nat} {Ls : Array Slot} {F : State → Prop} {st : List Value} {k : Fin 4} {x : Int32} {l' : Array Slot} (X : Stand p l e R s m args below meth c T locs cells slots) (hx : p.tables.exec = Jvm.exec) (hd : decode c.code pc = .ok (.istore_n k, 1)) (hp : pc + 1 = pc') (hl : storeLocals Ls k.val (.int x) = some l') (kk : oGl p e below (T.setTop (mkF m pc' l' (st))) F) : oGl p e below (T.setTop (mkF m pc Ls (.int x :: st))) F := by
  subst hp
  exact oOn (fun _ kK => XS.istoreN X.here hx rfl hd rfl hl kK) kk
theorem slstore {pc pc' : Nat} {Ls : Array Slot} {F : State → Prop} {st : List Value} {k : Nat} {x : Int64} {l' : Array Slot} (X : Stand p l e R s m args below meth c T locs cells slots) (hx : p.tables.exec = Jvm.exec) (hd : decode c.code pc = .ok (.lstore k, 2)) (hp : pc + 2 = pc') (hl : storeLocals Ls k (.long x) = some l') (kk : oGl p e below (T.setTop (mkF m pc' l' (st))) F) : oGl p e below (T.setTop (mkF m pc Ls (.long x :: st))) F := by
  subst hp
  exact oOn (fun _ kK => XS.lstore X.here hx rfl hd rfl hl kK) kk
theorem slstoreN {pc pc' : Nat} {Ls : Array Slot} {F : State → Prop} {st : List Value} {k : Fin 4} {x : Int64} {l' : Array Slot} (X : Stand p l e R s m args below meth c T locs cells slots) (hx : p.tables.exec = Jvm.exec) (hd : decode c.code pc = .ok (.lstore_n k, 1)) (hp : pc + 1 = pc') (hl : storeLocals Ls k.val (.long x) = some l') (kk : oGl p e below (T.setTop (mkF m pc' l' (st))) F) : oGl p e below (T.setTop (mkF m pc Ls (.long x :: st))) F := by
  subst hp
  exact oOn (fun _ kK => XS.lstoreN X.here hx rfl hd rfl hl kK) kk
theorem sastore {pc pc' : Nat} {Ls : Array Slot} {F : State → Prop} {st : List Value} {k : Nat} {x : Value} {l' : Array Slot} (X : Stand p l e R s m args below meth c T locs cells slots) (hx : p.tables.exec = Jvm.exec) (hd : decode c.code pc = .ok (.astore k, 2)) (hp : pc + 2 = pc') (hv : x.isRef = true) (hl : storeLocals Ls k x = some l') (kk : oGl p e below (T.setTop (mkF m pc' l' (st))) F) : oGl p e below (T.setTop (mkF m pc Ls (x :: st))) F := by
  subst hp
  exact oOn (fun _ kK => XS.astore X.here hx rfl hd rfl hv hl kK) kk
theorem sastoreN {pc pc' : Nat} {Ls : Array Slot} {F : State → Prop} {st : List Value} {k : Fin 4} {x : Value} {l' : Array Slot} (X : Stand p l e R s m args below meth c T locs cells slots) (hx : p.tables.exec = Jvm.exec) (hd : decode c.code pc = .ok (.astore_n k, 1)) (hp : pc + 1 = pc') (hv : x.isRef = true) (hl : storeLocals Ls k.val x = some l') (kk : oGl p e below (T.setTop (mkF m pc' l' (st))) F) : oGl p e below (T.setTop (mkF m pc Ls (x :: st))) F := by
  subst hp
  exact oOn (fun _ kK => XS.astoreN X.here hx rfl hd rfl hv hl kK) kk
theorem siconst {pc pc' : Nat} {Ls : Array Slot} {F : State → Prop} {st : List Value} {i : Int} {z : Int32} (X : Stand p l e R s m args below meth c T locs cells slots) (hx : p.tables.exec = Jvm.exec) (hd : decode c.code pc = .ok (.iconst i, 1)) (hp : pc + 1 = pc') (hz : Int32.ofInt i = z) (kk : oGl p e below (T.setTop (mkF m pc' Ls (.int z :: st))) F) : oGl p e below (T.setTop (mkF m pc Ls (st))) F := by
  subst hp hz
  exact oOn (fun _ kK => XS.iconst X.here hx rfl hd kK) kk
theorem sbipush {pc pc' : Nat} {Ls : Array Slot} {F : State → Prop} {st : List Value} {i : Int} {z : Int32} (X : Stand p l e R s m args below meth c T locs cells slots) (hx : p.tables.exec = Jvm.exec) (hd : decode c.code pc = .ok (.bipush i, 2)) (hp : pc + 2 = pc') (hz : (Int8.ofInt i).toInt32 = z) (kk : oGl p e below (T.setTop (mkF m pc' Ls (.int z :: st))) F) : oGl p e below (T.setTop (mkF m pc Ls (st))) F := by
  subst hp hz
  exact oOn (fun _ kK => XS.bipush X.here hx rfl hd kK) kk
theorem ssipush {pc pc' : Nat} {Ls : Array Slot} {F : State → Prop} {st : List Value} {i : Int} {z : Int32} (X : Stand p l e R s m args below meth c T locs cells slots) (hx : p.tables.exec = Jvm.exec) (hd : decode c.code pc = .ok (.sipush i, 3)) (hp : pc + 3 = pc') (hz : (Int16.ofInt i).toInt32 = z) (kk : oGl p e below (T.setTop (mkF m pc' Ls (.int z :: st))) F) : oGl p e below (T.setTop (mkF m pc Ls (st))) F := by
  subst hp hz
  exact oOn (fun _ kK => XS.sipush X.here hx rfl hd kK) kk
theorem slconst {pc pc' : Nat} {Ls : Array Slot} {F : State → Prop} {st : List Value} {k : Fin 2} {z : Int64} (X : Stand p l e R s m args below meth c T locs cells slots) (hx : p.tables.exec = Jvm.exec) (hd : decode c.code pc = .ok (.lconst k, 1)) (hp : pc + 1 = pc') (hz : Int64.ofNat k = z) (kk : oGl p e below (T.setTop (mkF m pc' Ls (.long z :: st))) F) : oGl p e below (T.setTop (mkF m pc Ls (st))) F := by
  subst hp hz
  exact oOn (fun _ kK => XS.lconst X.here hx rfl hd kK) kk
theorem saconst_null {pc pc' : Nat} {Ls : Array Slot} {F : State → Prop} {st : List Value} (X : Stand p l e R s m args below meth c T locs cells slots) (hx : p.tables.exec = Jvm.exec) (hd : decode c.code pc = .ok (.aconst_null, 1)) (hp : pc + 1 = pc')  (kk : oGl p e below (T.setTop (mkF m pc' Ls (.null :: st))) F) : oGl p e below (T.setTop (mkF m pc Ls (st))) F := by
  subst hp
  exact oOn (fun _ kK => XS.aconstNull X.here hx rfl hd kK) kk
theorem siadd {pc pc' : Nat} {Ls : Array Slot} {F : State → Prop} {st : List Value} {x y z : Int32} (X : Stand p l e R s m args below meth c T locs cells slots) (hx : p.tables.exec = Jvm.exec) (hd : decode c.code pc = .ok (.iadd, 1)) (hp : pc + 1 = pc') (hz : x + y = z) (kk : oGl p e below (T.setTop (mkF m pc' Ls (.int z :: st))) F) : oGl p e below (T.setTop (mkF m pc Ls (.int y :: .int x :: st))) F := by
  subst hp hz
  exact oOn (fun _ kK => XS.iadd X.here hx rfl hd rfl kK) kk
theorem sladd {pc pc' : Nat} {Ls : Array Slot} {F : State → Prop} {st : List Value} {x y z : Int64} (X : Stand p l e R s m args below meth c T locs cells slots) (hx : p.tables.exec = Jvm.exec) (hd : decode c.code pc = .ok (.ladd, 1)) (hp : pc + 1 = pc') (hz : x + y = z) (kk : oGl p e below (T.setTop (mkF m pc' Ls (.long z :: st))) F) : oGl p e below (T.setTop (mkF m pc Ls (.long y :: .long x :: st))) F := by
  subst hp hz
  exact oOn (fun _ kK => XS.ladd X.here hx rfl hd rfl kK) kk
theorem sisub {pc pc' : Nat} {Ls : Array Slot} {F : State → Prop} {st : List Value} {x y z : Int32} (X : Stand p l e R s m args below meth c T locs cells slots) (hx : p.tables.exec = Jvm.exec) (hd : decode c.code pc = .ok (.isub, 1)) (hp : pc + 1 = pc') (hz : x - y = z) (kk : oGl p e below (T.setTop (mkF m pc' Ls (.int z :: st))) F) : oGl p e below (T.setTop (mkF m pc Ls (.int y :: .int x :: st))) F := by
  subst hp hz
  exact oOn (fun _ kK => XS.isub X.here hx rfl hd rfl kK) kk
theorem slsub {pc pc' : Nat} {Ls : Array Slot} {F : State → Prop} {st : List Value} {x y z : Int64} (X : Stand p l e R s m args below meth c T locs cells slots) (hx : p.tables.exec = Jvm.exec) (hd : decode c.code pc = .ok (.lsub, 1)) (hp : pc + 1 = pc') (hz : x - y = z) (kk : oGl p e below (T.setTop (mkF m pc' Ls (.long z :: st))) F) : oGl p e below (T.setTop (mkF m pc Ls (.long y :: .long x :: st))) F := by
  subst hp hz
  exact oOn (fun _ kK => XS.lsub X.here hx rfl hd rfl kK) kk
theorem simul {pc pc' : Nat} {Ls : Array Slot} {F : State → Prop} {st : List Value} {x y z : Int32} (X : Stand p l e R s m args below meth c T locs cells slots) (hx : p.tables.exec = Jvm.exec) (hd : decode c.code pc = .ok (.imul, 1)) (hp : pc + 1 = pc') (hz : x * y = z) (kk : oGl p e below (T.setTop (mkF m pc' Ls (.int z :: st))) F) : oGl p e below (T.setTop (mkF m pc Ls (.int y :: .int x :: st))) F := by
  subst hp hz
  exact oOn (fun _ kK => XS.imul X.here hx rfl hd rfl kK) kk
theorem slmul {pc pc' : Nat} {Ls : Array Slot} {F : State → Prop} {st : List Value} {x y z : Int64} (X : Stand p l e R s m args below meth c T locs cells slots) (hx : p.tables.exec = Jvm.exec) (hd : decode c.code pc = .ok (.lmul, 1)) (hp : pc + 1 = pc') (hz : x * y = z) (kk : oGl p e below (T.setTop (mkF m pc' Ls (.long z :: st))) F) : oGl p e below (T.setTop (mkF m pc Ls (.long y :: .long x :: st))) F := by
  subst hp hz
  exact oOn (fun _ kK => XS.lmul X.here hx rfl hd rfl kK) kk
theorem siand {pc pc' : Nat} {Ls : Array Slot} {F : State → Prop} {st : List Value} {x y z : Int32} (X : Stand p l e R s m args below meth c T locs cells slots) (hx : p.tables.exec = Jvm.exec) (hd : decode c.code pc = .ok (.iand, 1)) (hp : pc + 1 = pc') (hz : x &&& y = z) (kk : oGl p e below (T.setTop (mkF m pc' Ls (.int z :: st))) F) : oGl p e below (T.setTop (mkF m pc Ls (.int y :: .int x :: st))) F := by
  subst hp hz
  exact oOn (fun _ kK => XS.iand X.here hx rfl hd rfl kK) kk
theorem sland {pc pc' : Nat} {Ls : Array Slot} {F : State → Prop} {st : List Value} {x y z : Int64} (X : Stand p l e R s m args below meth c T locs cells slots) (hx : p.tables.exec = Jvm.exec) (hd : decode c.code pc = .ok (.land, 1)) (hp : pc + 1 = pc') (hz : x &&& y = z) (kk : oGl p e below (T.setTop (mkF m pc' Ls (.long z :: st))) F) : oGl p e below (T.setTop (mkF m pc Ls (.long y :: .long x :: st))) F := by
  subst hp hz
  exact oOn (fun _ kK => XS.land X.here hx rfl hd rfl kK) kk
theorem sior {pc pc' : Nat} {Ls : Array Slot} {F : State → Prop} {st : List Value} {x y z : Int32} (X : Stand p l e R s m args below meth c T locs cells slots) (hx : p.tables.exec = Jvm.exec) (hd : decode c.code pc = .ok (.ior, 1)) (hp : pc + 1 = pc') (hz : x ||| y = z) (kk : oGl p e below (T.setTop (mkF m pc' Ls (.int z :: st))) F) : oGl p e below (T.setTop (mkF m pc Ls (.int y :: .int x :: st))) F := by
  subst hp hz
  exact oOn (fun _ kK => XS.ior X.here hx rfl hd rfl kK) kk
theorem slor {pc pc' : Nat} {Ls : Array Slot} {F : State → Prop} {st : List Value} {x y z : Int64} (X : Stand p l e R s m args below meth c T locs cells slots) (hx : p.tables.exec = Jvm.exec) (hd : decode c.code pc = .ok (.lor, 1)) (hp : pc + 1 = pc') (hz : x ||| y = z) (kk : oGl p e below (T.setTop (mkF m pc' Ls (.long z :: st))) F) : oGl p e below (T.setTop (mkF m pc Ls (.long y :: .long x :: st))) F := by
  subst hp hz
  exact oOn (fun _ kK => XS.lor X.here hx rfl hd rfl kK) kk
theorem sixor {pc pc' : Nat} {Ls : Array Slot} {F : State → Prop} {st : List Value} {x y z : Int32} (X : Stand p l e R s m args below meth c T locs cells slots) (hx : p.tables.exec = Jvm.exec) (hd : decode c.code pc = .ok (.ixor, 1)) (hp : pc + 1 = pc') (hz : x ^^^ y = z) (kk : oGl p e below (T.setTop (mkF m pc' Ls (.int z :: st))) F) : oGl p e below (T.setTop (mkF m pc Ls (.int y :: .int x :: st))) F := by
  subst hp hz
  exact oOn (fun _ kK => XS.ixor X.here hx rfl hd rfl kK) kk
theorem slxor {pc pc' : Nat} {Ls : Array Slot} {F : State → Prop} {st : List Value} {x y z : Int64} (X : Stand p l e R s m args below meth c T locs cells slots) (hx : p.tables.exec = Jvm.exec) (hd : decode c.code pc = .ok (.lxor, 1)) (hp : pc + 1 = pc') (hz : x ^^^ y = z) (kk : oGl p e below (T.setTop (mkF m pc' Ls (.long z :: st))) F) : oGl p e below (T.setTop (mkF m pc Ls (.long y :: .long x :: st))) F := by
  subst hp hz
  exact oOn (fun _ kK => XS.lxor X.here hx rfl hd rfl kK) kk
theorem sishl {pc pc' : Nat} {Ls : Array Slot} {F : State → Prop} {st : List Value} {x y z : Int32} (X : Stand p l e R s m args below meth c T locs cells slots) (hx : p.tables.exec = Jvm.exec) (hd : decode c.code pc = .ok (.ishl, 1)) (hp : pc + 1 = pc') (hz : x <<< (y &&& 31) = z) (kk : oGl p e below (T.setTop (mkF m pc' Ls (.int z :: st))) F) : oGl p e below (T.setTop (mkF m pc Ls (.int y :: .int x :: st))) F := by
  subst hp hz
  exact oOn (fun _ kK => XS.ishl X.here hx rfl hd rfl kK) kk
theorem sishr {pc pc' : Nat} {Ls : Array Slot} {F : State → Prop} {st : List Value} {x y z : Int32} (X : Stand p l e R s m args below meth c T locs cells slots) (hx : p.tables.exec = Jvm.exec) (hd : decode c.code pc = .ok (.ishr, 1)) (hp : pc + 1 = pc') (hz : x >>> (y &&& 31) = z) (kk : oGl p e below (T.setTop (mkF m pc' Ls (.int z :: st))) F) : oGl p e below (T.setTop (mkF m pc Ls (.int y :: .int x :: st))) F := by
  subst hp hz
  exact oOn (fun _ kK => XS.ishr X.here hx rfl hd rfl kK) kk
theorem siushr {pc pc' : Nat} {Ls : Array Slot} {F : State → Prop} {st : List Value} {x y z : Int32} (X : Stand p l e R s m args below meth c T locs cells slots) (hx : p.tables.exec = Jvm.exec) (hd : decode c.code pc = .ok (.iushr, 1)) (hp : pc + 1 = pc') (hz : (x.toUInt32 >>> (y &&& 31).toUInt32).toInt32 = z) (kk : oGl p e below (T.setTop (mkF m pc' Ls (.int z :: st))) F) : oGl p e below (T.setTop (mkF m pc Ls (.int y :: .int x :: st))) F := by
  subst hp hz
  exact oOn (fun _ kK => XS.iushr X.here hx rfl hd rfl kK) kk
theorem slshl {pc pc' : Nat} {Ls : Array Slot} {F : State → Prop} {st : List Value} {x z : Int64} {y : Int32} (X : Stand p l e R s m args below meth c T locs cells slots) (hx : p.tables.exec = Jvm.exec) (hd : decode c.code pc = .ok (.lshl, 1)) (hp : pc + 1 = pc') (hz : x <<< (y &&& 0x3f).toInt64 = z) (kk : oGl p e below (T.setTop (mkF m pc' Ls (.long z :: st))) F) : oGl p e below (T.setTop (mkF m pc Ls (.int y :: .long x :: st))) F := by
  subst hp hz
  exact oOn (fun _ kK => XS.lshl X.here hx rfl hd rfl kK) kk
theorem slshr {pc pc' : Nat} {Ls : Array Slot} {F : State → Prop} {st : List Value} {x z : Int64} {y : Int32} (X : Stand p l e R s m args below meth c T locs cells slots) (hx : p.tables.exec = Jvm.exec) (hd : decode c.code pc = .ok (.lshr, 1)) (hp : pc + 1 = pc') (hz : x >>> (y &&& 0x3f).toInt64 = z) (kk : oGl p e below (T.setTop (mkF m pc' Ls (.long z :: st))) F) : oGl p e below (T.setTop (mkF m pc Ls (.int y :: .long x :: st))) F := by
  subst hp hz
  exact oOn (fun _ kK => XS.lshr X.here hx rfl hd rfl kK) kk
theorem slushr {pc pc' : Nat} {Ls : Array Slot} {F : State → Prop} {st : List Value} {x z : Int64} {y : Int32} (X : Stand p l e R s m args below meth c T locs cells slots) (hx : p.tables.exec = Jvm.exec) (hd : decode c.code pc = .ok (.lushr, 1)) (hp : pc + 1 = pc') (hz : (x.toUInt64 >>> (y &&& 0x3f).toInt64.toUInt64).toInt64 = z) (kk : oGl p e below (T.setTop (mkF m pc' Ls (.long z :: st))) F) : oGl p e below (T.setTop (mkF m pc Ls (.int y :: .long x :: st))) F := by
  subst hp hz
  exact oOn (fun _ kK => XS.lushr X.here hx rfl hd rfl kK) kk
theorem sineg {pc pc' : Nat} {Ls : Array Slot} {F : State → Prop} {st : List Value} {x : Int32} {z : Int32} (X : Stand p l e R s m args below meth c T locs cells slots) (hx : p.tables.exec = Jvm.exec) (hd : decode c.code pc = .ok (.ineg, 1)) (hp : pc + 1 = pc') (hz : -x = z) (kk : oGl p e below (T.setTop (mkF m pc' Ls (.int z :: st))) F) : oGl p e below (T.setTop (mkF m pc Ls (.int x :: st))) F := by
  subst hp hz
  exact oOn (fun _ kK => XS.ineg X.here hx rfl hd rfl kK) kk
theorem slneg {pc pc' : Nat} {Ls : Array Slot} {F : State → Prop} {st : List Value} {x : Int64} {z : Int64} (X : Stand p l e R s m args below meth c T locs cells slots) (hx : p.tables.exec = Jvm.exec) (hd : decode c.code pc = .ok (.lneg, 1)) (hp : pc + 1 = pc') (hz : -x = z) (kk : oGl p e below (T.setTop (mkF m pc' Ls (.long z :: st))) F) : oGl p e below (T.setTop (mkF m pc Ls (.long x :: st))) F := by
  subst hp hz
  exact oOn (fun _ kK => XS.lneg X.here hx rfl hd rfl kK) kk
theorem si2l {pc pc' : Nat} {Ls : Array Slot} {F : State → Prop} {st : List Value} {x : Int32} {z : Int64} (X : Stand p l e R s m args below meth c T locs cells slots) (hx : p.tables.exec = Jvm.exec) (hd : decode c.code pc = .ok (.i2l, 1)) (hp : pc + 1 = pc') (hz : x.toInt64 = z) (kk : oGl p e below (T.setTop (mkF m pc' Ls (.long z :: st))) F) : oGl p e below (T.setTop (mkF m pc Ls (.int x :: st))) F := by
  subst hp hz
  exact oOn (fun _ kK => XS.i2l X.here hx rfl hd rfl kK) kk
theorem sl2i {pc pc' : Nat} {Ls : Array Slot} {F : State → Prop} {st : List Value} {x : Int64} {z : Int32} (X : Stand p l e R s m args below meth c T locs cells slots) (hx : p.tables.exec = Jvm.exec) (hd : decode c.code pc = .ok (.l2i, 1)) (hp : pc + 1 = pc') (hz : x.toInt32 = z) (kk : oGl p e below (T.setTop (mkF m pc' Ls (.int z :: st))) F) : oGl p e below (T.setTop (mkF m pc Ls (.long x :: st))) F := by
  subst hp hz
  exact oOn (fun _ kK => XS.l2i X.here hx rfl hd rfl kK) kk
theorem si2b {pc pc' : Nat} {Ls : Array Slot} {F : State → Prop} {st : List Value} {x : Int32} {z : Int32} (X : Stand p l e R s m args below meth c T locs cells slots) (hx : p.tables.exec = Jvm.exec) (hd : decode c.code pc = .ok (.i2b, 1)) (hp : pc + 1 = pc') (hz : x.toInt8.toInt32 = z) (kk : oGl p e below (T.setTop (mkF m pc' Ls (.int z :: st))) F) : oGl p e below (T.setTop (mkF m pc Ls (.int x :: st))) F := by
  subst hp hz
  exact oOn (fun _ kK => XS.i2b X.here hx rfl hd rfl kK) kk
theorem si2s {pc pc' : Nat} {Ls : Array Slot} {F : State → Prop} {st : List Value} {x : Int32} {z : Int32} (X : Stand p l e R s m args below meth c T locs cells slots) (hx : p.tables.exec = Jvm.exec) (hd : decode c.code pc = .ok (.i2s, 1)) (hp : pc + 1 = pc') (hz : x.toInt16.toInt32 = z) (kk : oGl p e below (T.setTop (mkF m pc' Ls (.int z :: st))) F) : oGl p e below (T.setTop (mkF m pc Ls (.int x :: st))) F := by
  subst hp hz
  exact oOn (fun _ kK => XS.i2s X.here hx rfl hd rfl kK) kk
theorem si2c {pc pc' : Nat} {Ls : Array Slot} {F : State → Prop} {st : List Value} {x : Int32} {z : Int32} (X : Stand p l e R s m args below meth c T locs cells slots) (hx : p.tables.exec = Jvm.exec) (hd : decode c.code pc = .ok (.i2c, 1)) (hp : pc + 1 = pc') (hz : x.toUInt32.toUInt16.toUInt32.toInt32 = z) (kk : oGl p e below (T.setTop (mkF m pc' Ls (.int z :: st))) F) : oGl p e below (T.setTop (mkF m pc Ls (.int x :: st))) F := by
  subst hp hz
  exact oOn (fun _ kK => XS.i2c X.here hx rfl hd rfl kK) kk
theorem slcmp {pc pc' : Nat} {Ls : Array Slot} {F : State → Prop} {st : List Value} {x y : Int64} (X : Stand p l e R s m args below meth c T locs cells slots) (hx : p.tables.exec = Jvm.exec) (hd : decode c.code pc = .ok (.lcmp, 1)) (hp : pc + 1 = pc')  (kk : oGl p e below (T.setTop (mkF m pc' Ls (.int (lcmpW x y) :: st))) F) : oGl p e below (T.setTop (mkF m pc Ls (.long y :: .long x :: st))) F := by
  subst hp
  exact oOn (fun _ kK => XS.lcmp X.here hx rfl hd rfl kK) kk
theorem sirem {pc pc' : Nat} {Ls : Array Slot} {F : State → Prop} {st : List Value} {x y z : Int32} (X : Stand p l e R s m args below meth c T locs cells slots) (hx : p.tables.exec = Jvm.exec) (hd : decode c.code pc = .ok (.irem, 1)) (hp : pc + 1 = pc') (hy : y ≠ 0) (hz : x % y = z) (kk : oGl p e below (T.setTop (mkF m pc' Ls (.int z :: st))) F) : oGl p e below (T.setTop (mkF m pc Ls (.int y :: .int x :: st))) F := by
  subst hp hz
  exact oOn (fun _ kK => iremM X hx rfl hd rfl hy kK) kk
theorem sidiv {pc pc' : Nat} {Ls : Array Slot} {F : State → Prop} {st : List Value} {x y z : Int32} (X : Stand p l e R s m args below meth c T locs cells slots) (hx : p.tables.exec = Jvm.exec) (hd : decode c.code pc = .ok (.idiv, 1)) (hp : pc + 1 = pc') (hy : y ≠ 0) (hz : x / y = z) (kk : oGl p e below (T.setTop (mkF m pc' Ls (.int z :: st))) F) : oGl p e below (T.setTop (mkF m pc Ls (.int y :: .int x :: st))) F := by
  subst hp hz
  exact oOn (fun _ kK => XS.idiv X.here hx rfl hd rfl hy kK) kk
theorem siinc {pc pc' : Nat} {Ls : Array Slot} {F : State → Prop} {st : List Value} {k : Nat} {cst : Int} {x : Int32} {l' : Array Slot} (X : Stand p l e R s m args below meth c T locs cells slots) (hx : p.tables.exec = Jvm.exec) (hd : decode c.code pc = .ok (.iinc k cst, 3)) (hp : pc + 3 = pc') (hl : Ls[k]? = some (.val (.int x))) (hl' : storeLocals Ls k (.int (x + Int32.ofInt cst)) = some l') (kk : oGl p e below (T.setTop (mkF m pc' l' (st))) F) : oGl p e below (T.setTop (mkF m pc Ls (st))) F := by
  subst hp
  exact oOn (fun _ kK => XS.iinc X.here hx rfl hd hl hl' kK) kk
theorem sdup {pc pc' : Nat} {Ls : Array Slot} {F : State → Prop} {st : List Value} {x : Value} (X : Stand p l e R s m args below meth c T locs cells slots) (hx : p.tables.exec = Jvm.exec) (hd : decode c.code pc = .ok (.dup, 1)) (hp : pc + 1 = pc') (hc : x.category = 1) (kk : oGl p e below (T.setTop (mkF m pc' Ls (x :: x :: st))) F) : oGl p e below (T.setTop (mkF m pc Ls (x :: st))) F := by
  subst hp
  exact oOn (fun _ kK => XS.dup X.here hx rfl hd rfl hc kK) kk
theorem spop {pc pc' : Nat} {Ls : Array Slot} {F : State → Prop} {st : List Value} {x : Value} (X : Stand p l e R s m args below meth c T locs cells slots) (hx : p.tables.exec = Jvm.exec) (hd : decode c.code pc = .ok (.pop, 1)) (hp : pc + 1 = pc') (hc : x.category = 1) (kk : oGl p e below (T.setTop (mkF m pc' Ls (st))) F) : oGl p e below (T.setTop (mkF m pc Ls (x :: st))) F := by
  subst hp
  exact oOn (fun _ kK => XS.pop X.here hx rfl hd rfl hc kK) kk
theorem sdup_x1 {pc pc' : Nat} {Ls : Array Slot} {F : State → Prop} {st : List Value} {x y : Value} (X : Stand p l e R s m args below meth c T locs cells slots) (hx : p.tables.exec = Jvm.exec) (hd : decode c.code pc = .ok (.dup_x1, 1)) (hp : pc + 1 = pc') (hc : x.category = 1) (hc2 : y.category = 1) (kk : oGl p e below (T.setTop (mkF m pc' Ls (x :: y :: x :: st))) F) : oGl p e below (T.setTop (mkF m pc Ls (x :: y :: st))) F := by
  subst hp
  exact oOn (fun _ kK => XS.dupX1 X.here hx rfl hd rfl hc hc2 kK) kk
theorem sdup2 {pc pc' : Nat} {Ls : Array Slot} {F : State → Prop} {st : List Value} {x y : Value} (X : Stand p l e R s m args below meth c T locs cells slots) (hx : p.tables.exec = Jvm.exec) (hd : decode c.code pc = .ok (.dup2, 1)) (hp : pc + 1 = pc') (hc : x.category = 1) (hc2 : y.category = 1) (kk : oGl p e below (T.setTop (mkF m pc' Ls (x :: y :: x :: y :: st))) F) : oGl p e below (T.setTop (mkF m pc Ls (x :: y :: st))) F := by
  subst hp
  exact oOn (fun _ kK => oDup2 X.here hx rfl hd rfl hc hc2 kK) kk
theorem sdup_x2 {pc pc' : Nat} {Ls : Array Slot} {F : State → Prop} {st : List Value} {x y z : Value} (X : Stand p l e R s m args below meth c T locs cells slots) (hx : p.tables.exec = Jvm.exec) (hd : decode c.code pc = .ok (.dup_x2, 1)) (hp : pc + 1 = pc') (hc : x.category = 1) (hc2 : y.category = 1) (hc3 : z.category = 1) (kk : oGl p e below (T.setTop (mkF m pc' Ls (x :: y :: z :: x :: st))) F) : oGl p e below (T.setTop (mkF m pc Ls (x :: y :: z :: st))) F := by
  subst hp
  exact oOn (fun _ kK => oDupX2 X.here hx rfl hd rfl hc hc2 hc3 kK) kk
theorem sgoto {pc pc' : Nat} {Ls : Array Slot} {st : List Value} {F : State → Prop} {o : Int}  (X : Stand p l e R s m args below meth c T locs cells slots) (hx : p.tables.exec = Jvm.exec) (hd : decode c.code pc = .ok (.goto o, 3)) (ho : 0 ≤ (pc : Int) + o) (hp : ((pc : Int) + o).toNat = pc')  (kk : oGl p e below (T.setTop (mkF m pc' Ls st)) F) : oGl p e below (T.setTop (mkF m pc Ls (st))) F :=
  oOn (fun _ kK => XS.goto X.here hx rfl rfl hd ho hp kK) kk
theorem sifY {pc pc' : Nat} {Ls : Array Slot} {st : List Value} {F : State → Prop} {o : Int} {cd : ClassFile.Cond} {x : Int32} (X : Stand p l e R s m args below meth c T locs cells slots) (hx : p.tables.exec = Jvm.exec) (hd : decode c.code pc = .ok (.ifCond cd o, 3)) (ho : 0 ≤ (pc : Int) + o) (hp : ((pc : Int) + o).toNat = pc') (hc : if_icmp.holds cd x 0 = true) (kk : oGl p e below (T.setTop (mkF m pc' Ls st)) F) : oGl p e below (T.setTop (mkF m pc Ls (.int x :: st))) F :=
  oOn (fun _ kK => XS.ifYes X.here hx rfl rfl hd rfl ((if0 _ _).trans hc) ho hp kK) kk
theorem sicY {pc pc' : Nat} {Ls : Array Slot} {st : List Value} {F : State → Prop} {o : Int} {cd : ClassFile.Cond} {x y : Int32} (X : Stand p l e R s m args below meth c T locs cells slots) (hx : p.tables.exec = Jvm.exec) (hd : decode c.code pc = .ok (.if_icmp cd o, 3)) (ho : 0 ≤ (pc : Int) + o) (hp : ((pc : Int) + o).toNat = pc') (hc : if_icmp.holds cd x y = true) (kk : oGl p e below (T.setTop (mkF m pc' Ls st)) F) : oGl p e below (T.setTop (mkF m pc Ls (.int y :: .int x :: st))) F :=
  oOn (fun _ kK => XS.icmpYes X.here hx rfl rfl hd rfl hc ho hp kK) kk
theorem sifnullY {pc pc' : Nat} {Ls : Array Slot} {st : List Value} {F : State → Prop} {o : Int}  (X : Stand p l e R s m args below meth c T locs cells slots) (hx : p.tables.exec = Jvm.exec) (hd : decode c.code pc = .ok (.ifnull o, 3)) (ho : 0 ≤ (pc : Int) + o) (hp : ((pc : Int) + o).toNat = pc')  (kk : oGl p e below (T.setTop (mkF m pc' Ls st)) F) : oGl p e below (T.setTop (mkF m pc Ls (.null :: st))) F :=
  oOn (fun _ kK => XS.ifnullYes X.here hx rfl rfl hd rfl ho hp kK) kk
theorem sifnonnullY {pc pc' : Nat} {Ls : Array Slot} {st : List Value} {F : State → Prop} {o : Int} {b : Addr} (X : Stand p l e R s m args below meth c T locs cells slots) (hx : p.tables.exec = Jvm.exec) (hd : decode c.code pc = .ok (.ifnonnull o, 3)) (ho : 0 ≤ (pc : Int) + o) (hp : ((pc : Int) + o).toNat = pc')  (kk : oGl p e below (T.setTop (mkF m pc' Ls st)) F) : oGl p e below (T.setTop (mkF m pc Ls (.ref b :: st))) F :=
  oOn (fun _ kK => XS.ifnonnullYes X.here hx rfl rfl hd rfl ho hp kK) kk
theorem sifN {pc pc' : Nat} {Ls : Array Slot} {F : State → Prop} {st : List Value} {cd : ClassFile.Cond} {o : Int} {x : Int32} (X : Stand p l e R s m args below meth c T locs cells slots) (hx : p.tables.exec = Jvm.exec) (hd : decode c.code pc = .ok (.ifCond cd o, 3)) (hp : pc + 3 = pc') (hc : if_icmp.holds cd x 0 = false) (kk : oGl p e below (T.setTop (mkF m pc' Ls (st))) F) : oGl p e below (T.setTop (mkF m pc Ls (.int x :: st))) F := by
  subst hp
  exact oOn (fun _ kK => XS.ifNo X.here hx rfl hd rfl ((if0 _ _).trans hc) kK) kk
theorem sicN {pc pc' : Nat} {Ls : Array Slot} {F : State → Prop} {st : List Value} {cd : ClassFile.Cond} {o : Int} {x y : Int32} (X : Stand p l e R s m args below meth c T locs cells slots) (hx : p.tables.exec = Jvm.exec) (hd : decode c.code pc = .ok (.if_icmp cd o, 3)) (hp : pc + 3 = pc') (hc : if_icmp.holds cd x y = false) (kk : oGl p e below (T.setTop (mkF m pc' Ls (st))) F) : oGl p e below (T.setTop (mkF m pc Ls (.int y :: .int x :: st))) F := by
  subst hp
  exact oOn (fun _ kK => XS.icmpNo X.here hx rfl hd rfl hc kK) kk
theorem sifnullN {pc pc' : Nat} {Ls : Array Slot} {F : State → Prop} {st : List Value} {o : Int} {b : Addr} (X : Stand p l e R s m args below meth c T locs cells slots) (hx : p.tables.exec = Jvm.exec) (hd : decode c.code pc = .ok (.ifnull o, 3)) (hp : pc + 3 = pc')  (kk : oGl p e below (T.setTop (mkF m pc' Ls (st))) F) : oGl p e below (T.setTop (mkF m pc Ls (.ref b :: st))) F := by
  subst hp
  exact oOn (fun _ kK => XS.ifnullNo X.here hx rfl hd rfl kK) kk
theorem sifnonnullN {pc pc' : Nat} {Ls : Array Slot} {F : State → Prop} {st : List Value} {o : Int} (X : Stand p l e R s m args below meth c T locs cells slots) (hx : p.tables.exec = Jvm.exec) (hd : decode c.code pc = .ok (.ifnonnull o, 3)) (hp : pc + 3 = pc')  (kk : oGl p e below (T.setTop (mkF m pc' Ls (st))) F) : oGl p e below (T.setTop (mkF m pc Ls (.null :: st))) F := by
  subst hp
  exact oOn (fun _ kK => XS.ifnonnullNo X.here hx rfl hd rfl kK) kk
/-! arrays of ints, bytes, chars, shorts, booleans: place j holds f j -/
def oAI (Z : State) (h : Heap) (a : Addr) (ty : FieldType) (n : Nat) (f : Nat → Int32) : Prop := ∃ c : Cell, Arr Z h a c ty ∧ c.slots.size = n ∧ n < 2147483648 ∧ ∀ j, j < n → c.slots[j]? = some (.int (f j))
def oUp {α : Type} (f : Nat → α) (i : Nat) (x : α) : Nat → α := fun k => if k = i then x else f k
theorem oUp_hit {α : Type} {f : Nat → α} {i : Nat} {x : α} : oUp f i x i = x := if_pos rfl
theorem oUp_miss {α : Type} {f : Nat → α} {i k : Nat} {x : α} (q : k ≠ i) : oUp f i x k = f k := if_neg q
variable {n : Nat} {f f' : Nat → Int32} {sl : Nat} {v : Value} {ws : List Addr}
theorem oAI.lt (F : oAI Z h a ty n f) : @LT.lt Nat _ a h.size := by obtain ⟨c, A, -⟩ := F; exact A.lt
theorem oAI.small (F : oAI Z h a ty n f) : n < 2147483648 := by obtain ⟨c, -, -, q, -⟩ := F; exact q
theorem oAI.ext (F : oAI Z h a ty n f) (E : Ext h h') : oAI Z h' a ty n f := by obtain ⟨c, A, r⟩ := F; exact ⟨c, A.ext E, r⟩
theorem oAI.other (F : oAI Z h b ty n f) (W : Wr h h' a sl v) (q : b ≠ a) : oAI Z h' b ty n f := by obtain ⟨c, A, r⟩ := F; exact ⟨c, A.other W q, r⟩
theorem oAI.keep (F : oAI Z h a ty n f) (K : Keep h h' ws) (q : a ∉ ws) : oAI Z h' a ty n f := by obtain ⟨c, A, r⟩ := F; exact ⟨c, ⟨K.2.1 a c A.1 q, A.2⟩, r⟩
theorem oAI.congr (F : oAI Z h a ty n f) (q : ∀ j, j < n → f j = f' j) : oAI Z h a ty n f' := by obtain ⟨c, A, r1, r2, r3⟩ := F; exact ⟨c, A, r1, r2, fun j hj => by rw [← q j hj]; exact r3 j hj⟩
theorem oAI.new {k : ClassId} {z : Int32} (A : Arr Z h a (newA k ty z) ty) (hn : z.toInt.toNat = n) (hd : defaultValue ty = .int 0 := by rfl) : oAI Z h a ty n (fun _ => 0) := by
  refine ⟨_, A, ?_, ?_, fun j hj => ?_⟩
  · rw [sz_new]; exact hn
  · have := z.toInt_lt; omega
  · have hs : (newA k ty z).slots.size = n := by rw [sz_new]; exact hn
    simp only [newA] at hs ⊢
    rw [Array.getElem?_replicate, if_pos (by simpa using (by simpa using hs : z.toNatClampNeg = n) ▸ hj), hd]
theorem oNotIn {j : Int32} {cl : Cell} (hs : cl.slots.size = n) (hj : 0 ≤ j.toInt ∧ j.toInt < n) : ¬ (j < 0 ∨ cl.slots.size ≤ j.toNatClampNeg) := by
  have h1 : j.toNatClampNeg = j.toInt.toNat := rfl
  rw [hs, h1, Int32.lt_iff_toInt_lt]
  have h2 : (0 : Int32).toInt = 0 := rfl
  rw [h2]; omega
theorem oAI.at (F : oAI Z h a ty n f) {j : Int32} (hj : 0 ≤ j.toInt ∧ j.toInt < n) : ∃ c : Cell, Arr Z h a c ty ∧ ¬ (j < 0 ∨ c.slots.size ≤ j.toNatClampNeg) ∧ c.slots[j.toNatClampNeg]? = some (.int (f j.toInt.toNat)) := by
  obtain ⟨c, A, S, q, G⟩ := F
  exact ⟨c, A, oNotIn S hj, G j.toInt.toNat (by omega)⟩
theorem oAI.set {j : Int32} {x : Int32} (F : oAI Z h a ty n f) (W : Wr h h' a j.toNatClampNeg (.int x)) (hj : 0 ≤ j.toInt ∧ j.toInt < n) : oAI Z h' a ty n (oUp f j.toInt.toNat x) := by
  obtain ⟨c, A, S, q, G⟩ := F
  refine ⟨_, A.same W, by rw [sz_set]; exact S, q, fun k hk => ?_⟩
  have h1 : j.toNatClampNeg = j.toInt.toNat := rfl
  show (c.slots.setIfInBounds j.toNatClampNeg (.int x))[k]? = _
  by_cases e : k = j.toInt.toNat
  · subst e; rw [oUp_hit, h1, Array.getElem?_setIfInBounds_self_of_lt (by rw [S]; exact hk)]
  · rw [oUp_miss e, h1, Array.getElem?_setIfInBounds_ne (Ne.symm e)]; exact G k hk
theorem oAI.len (F : oAI Z h a ty n f) (X : Stand p l e R s m args below meth c T locs cells slots) (hx : p.tables.exec = Jvm.exec) (hZ : Z.Warmed39 s.vm) (eT : T.heap = h) {g : JFrame} (hg : g.method = m) {rest : List Value} (hs : g.stack = .ref a :: rest) (hd : decode c.code g.pc = .ok (.arraylength, 1)) :
    ∀ t, Steps p.tables e below (T.setTop { g with pc := g.pc + 1, stack := .int (Int32.ofNat n) :: rest }) t → Steps p.tables e below (T.setTop g) t := by
  obtain ⟨cl, A, S, -, -⟩ := F
  intro t k
  refine X.arraylength hx (by rw [eT]; exact A.1) (State.isArrayOf_alike hZ.alike A.2.1) hg hs hd _ ?_
  rw [S]; exact k
theorem oAI.ldI (F : oAI Z h a .int n f) (X : Stand p l e R s m args below meth c T locs cells slots) (hx : p.tables.exec = Jvm.exec) (hZ : Z.Warmed39 s.vm) (eT : T.heap = h) {j : Int32} (hj : 0 ≤ j.toInt ∧ j.toInt < n) {g : JFrame} (hg : g.method = m) {rest : List Value} (hs : g.stack = .int j :: .ref a :: rest) (hd : decode c.code g.pc = .ok (.iaload, 1)) :
    ∀ t, Steps p.tables e below (T.setTop { g with pc := g.pc + 1, stack := .int (f j.toInt.toNat) :: rest }) t → Steps p.tables e below (T.setTop g) t := by
  obtain ⟨cl, A, q1, q2⟩ := F.at hj
  exact X.iaload hx (by rw [eT]; exact A.1) (State.isArrayOf_alike hZ.alike A.2.1) A.2.2 q1 q2 hg hs hd
theorem oAI.ldB (F : oAI Z h a .byte n f) (X : Stand p l e R s m args below meth c T locs cells slots) (hx : p.tables.exec = Jvm.exec) (hZ : Z.Warmed39 s.vm) (eT : T.heap = h) {j : Int32} (hj : 0 ≤ j.toInt ∧ j.toInt < n) {g : JFrame} (hg : g.method = m) {rest : List Value} (hs : g.stack = .int j :: .ref a :: rest) (hd : decode c.code g.pc = .ok (.baload, 1)) :
    ∀ t, Steps p.tables e below (T.setTop { g with pc := g.pc + 1, stack := .int (f j.toInt.toNat) :: rest }) t → Steps p.tables e below (T.setTop g) t := by
  obtain ⟨cl, A, q1, q2⟩ := F.at hj
  exact X.baloadBytes hx (by rw [eT]; exact A.1) (State.isArrayOf_alike hZ.alike A.2.1) A.2.2 q1 q2 hg hs hd
theorem oAI.ldZ (F : oAI Z h a .boolean n f) (X : Stand p l e R s m args below meth c T locs cells slots) (hx : p.tables.exec = Jvm.exec) (hZ : Z.Warmed39 s.vm) (eT : T.heap = h) {j : Int32} (hj : 0 ≤ j.toInt ∧ j.toInt < n) {g : JFrame} (hg : g.method = m) {rest : List Value} (hs : g.stack = .int j :: .ref a :: rest) (hd : decode c.code g.pc = .ok (.baload, 1)) :
    ∀ t, Steps p.tables e below (T.setTop { g with pc := g.pc + 1, stack := .int (f j.toInt.toNat) :: rest }) t → Steps p.tables e below (T.setTop g) t := by
  obtain ⟨cl, A, q1, q2⟩ := F.at hj
  exact X.baloadBooleans hx (by rw [eT]; exact A.1) (State.isArrayOf_alike hZ.alike A.2.1) A.2.2 q1 q2 hg hs hd
theorem oAI.ldC (F : oAI Z h a .char n f) (X : Stand p l e R s m args below meth c T locs cells slots) (hx : p.tables.exec = Jvm.exec) (hZ : Z.Warmed39 s.vm) (eT : T.heap = h) {j : Int32} (hj : 0 ≤ j.toInt ∧ j.toInt < n) {g : JFrame} (hg : g.method = m) {rest : List Value} (hs : g.stack = .int j :: .ref a :: rest) (hd : decode c.code g.pc = .ok (.caload, 1)) :
    ∀ t, Steps p.tables e below (T.setTop { g with pc := g.pc + 1, stack := .int (f j.toInt.toNat) :: rest }) t → Steps p.tables e below (T.setTop g) t := by
  obtain ⟨cl, A, q1, q2⟩ := F.at hj
  exact X.caload hx (by rw [eT]; exact A.1) (State.isArrayOf_alike hZ.alike A.2.1) A.2.2 q1 q2 hg hs hd
theorem oAI.ldS (F : oAI Z h a .short n f) (X : Stand p l e R s m args below meth c T locs cells slots) (hx : p.tables.exec = Jvm.exec) (hZ : Z.Warmed39 s.vm) (eT : T.heap = h) {j : Int32} (hj : 0 ≤ j.toInt ∧ j.toInt < n) {g : JFrame} (hg : g.method = m) {rest : List Value} (hs : g.stack = .int j :: .ref a :: rest) (hd : decode c.code g.pc = .ok (.saload, 1)) :
    ∀ t, Steps p.tables e below (T.setTop { g with pc := g.pc + 1, stack := .int (f j.toInt.toNat) :: rest }) t → Steps p.tables e below (T.setTop g) t := by
  obtain ⟨cl, A, q1, q2⟩ := F.at hj
  exact X.saload hx (by rw [eT]; exact A.1) (State.isArrayOf_alike hZ.alike A.2.1) A.2.2 q1 q2 hg hs hd
theorem oAI.stI (F : oAI Z h a .int n f) (X : Stand p l e R s m args below meth c T locs cells slots) (hx : p.tables.exec = Jvm.exec) (hZ : Z.Warmed39 s.vm) (eT : T.heap = h) {j x : Int32} (hj : 0 ≤ j.toInt ∧ j.toInt < n) {g : JFrame} (hg : g.method = m) {rest : List Value} (hs : g.stack = .int x :: .int j :: .ref a :: rest) (hd : decode c.code g.pc = .ok (.iastore, 1)) :
    ∃ T' h', Stand p l e R s m args below meth c T' (locs ++ [⟨a, j.toNatClampNeg⟩]) cells slots ∧ T'.heap = h' ∧ Wr h h' a j.toNatClampNeg (.int x) ∧ oAI Z h' a .int n (oUp f j.toInt.toNat x) ∧ ∀ t, Steps p.tables e below (T'.setTop { g with pc := g.pc + 1, stack := rest }) t → Steps p.tables e below (T.setTop g) t := by
  have F' := F
  obtain ⟨cl, A, S, q, G⟩ := F'
  obtain ⟨T', h', X', e', W, st⟩ := Jvm.RoadKit.stI X hx hZ eT A (x := x) (oNotIn S hj) hg hs hd
  exact ⟨T', h', X', e', W, F.set W hj, st⟩
theorem oAI.stB (F : oAI Z h a .byte n f) (X : Stand p l e R s m args below meth c T locs cells slots) (hx : p.tables.exec = Jvm.exec) (hZ : Z.Warmed39 s.vm) (eT : T.heap = h) {j x : Int32} (hj : 0 ≤ j.toInt ∧ j.toInt < n) {g : JFrame} (hg : g.method = m) {rest : List Value} (hs : g.stack = .int x :: .int j :: .ref a :: rest) (hd : decode c.code g.pc = .ok (.bastore, 1)) :
    ∃ T' h', Stand p l e R s m args below meth c T' (locs ++ [⟨a, j.toNatClampNeg⟩]) cells slots ∧ T'.heap = h' ∧ Wr h h' a j.toNatClampNeg (.int (nar .byte x)) ∧ oAI Z h' a .byte n (oUp f j.toInt.toNat (nar .byte x)) ∧ ∀ t, Steps p.tables e below (T'.setTop { g with pc := g.pc + 1, stack := rest }) t → Steps p.tables e below (T.setTop g) t := by
  have F' := F
  obtain ⟨cl, A, S, q, G⟩ := F'
  obtain ⟨T', h', X', e', W, st⟩ := Jvm.RoadKit.stB X hx hZ eT A (x := x) (oNotIn S hj) hg hs hd
  exact ⟨T', h', X', e', W, F.set W hj, st⟩
theorem oAI.stZ (F : oAI Z h a .boolean n f) (X : Stand p l e R s m args below meth c T locs cells slots) (hx : p.tables.exec = Jvm.exec) (hZ : Z.Warmed39 s.vm) (eT : T.heap = h) {j x : Int32} (hj : 0 ≤ j.toInt ∧ j.toInt < n) {g : JFrame} (hg : g.method = m) {rest : List Value} (hs : g.stack = .int x :: .int j :: .ref a :: rest) (hd : decode c.code g.pc = .ok (.bastore, 1)) :
    ∃ T' h', Stand p l e R s m args below meth c T' (locs ++ [⟨a, j.toNatClampNeg⟩]) cells slots ∧ T'.heap = h' ∧ Wr h h' a j.toNatClampNeg (.int (nar .boolean x)) ∧ oAI Z h' a .boolean n (oUp f j.toInt.toNat (nar .boolean x)) ∧ ∀ t, Steps p.tables e below (T'.setTop { g with pc := g.pc + 1, stack := rest }) t → Steps p.tables e below (T.setTop g) t := by
  have F' := F
  obtain ⟨cl, A, S, q, G⟩ := F'
  obtain ⟨T', h', X', e', W, st⟩ := Jvm.RoadKit.stZ X hx hZ eT A (x := x) (oNotIn S hj) hg hs hd
  exact ⟨T', h', X', e', W, F.set W hj, st⟩
theorem oAI.stC (F : oAI Z h a .char n f) (X : Stand p l e R s m args below meth c T locs cells slots) (hx : p.tables.exec = Jvm.exec) (hZ : Z.Warmed39 s.vm) (eT : T.heap = h) {j x : Int32} (hj : 0 ≤ j.toInt ∧ j.toInt < n) {g : JFrame} (hg : g.method = m) {rest : List Value} (hs : g.stack = .int x :: .int j :: .ref a :: rest) (hd : decode c.code g.pc = .ok (.castore, 1)) :
    ∃ T' h', Stand p l e R s m args below meth c T' (locs ++ [⟨a, j.toNatClampNeg⟩]) cells slots ∧ T'.heap = h' ∧ Wr h h' a j.toNatClampNeg (.int (nar .char x)) ∧ oAI Z h' a .char n (oUp f j.toInt.toNat (nar .char x)) ∧ ∀ t, Steps p.tables e below (T'.setTop { g with pc := g.pc + 1, stack := rest }) t → Steps p.tables e below (T.setTop g) t := by
  have F' := F
  obtain ⟨cl, A, S, q, G⟩ := F'
  obtain ⟨T', h', X', e', W, st⟩ := Jvm.RoadKit.stC X hx hZ eT A (x := x) (oNotIn S hj) hg hs hd
  exact ⟨T', h', X', e', W, F.set W hj, st⟩
theorem oAI.stS (F : oAI Z h a .short n f) (X : Stand p l e R s m args below meth c T locs cells slots) (hx : p.tables.exec = Jvm.exec) (hZ : Z.Warmed39 s.vm) (eT : T.heap = h) {j x : Int32} (hj : 0 ≤ j.toInt ∧ j.toInt < n) {g : JFrame} (hg : g.method = m) {rest : List Value} (hs : g.stack = .int x :: .int j :: .ref a :: rest) (hd : decode c.code g.pc = .ok (.sastore, 1)) :
    ∃ T' h', Stand p l e R s m args below meth c T' (locs ++ [⟨a, j.toNatClampNeg⟩]) cells slots ∧ T'.heap = h' ∧ Wr h h' a j.toNatClampNeg (.int (nar .short x)) ∧ oAI Z h' a .short n (oUp f j.toInt.toNat (nar .short x)) ∧ ∀ t, Steps p.tables e below (T'.setTop { g with pc := g.pc + 1, stack := rest }) t → Steps p.tables e below (T.setTop g) t := by
  have F' := F
  obtain ⟨cl, A, S, q, G⟩ := F'
  obtain ⟨T', h', X', e', W, st⟩ := Jvm.RoadKit.stS X hx hZ eT A (x := x) (oNotIn S hj) hg hs hd
  exact ⟨T', h', X', e', W, F.set W hj, st⟩
/-! words out of words -/
theorem oSame {as : Array Value} {C : String} {x y z : MethodName} (wd : (Jvm.Cond.declares y).before as Z = true) (ws : (Jvm.Cond.selects C x z).before as Z = true) (hc : z.cls = y.cls) (hy : y.cls ≠ "java/lang/invoke/MethodHandle" ∧ y.cls ≠ "java/lang/invoke/VarHandle") : (Jvm.Cond.sameMethod y.cls y.cls y.name y.desc).before as Z = true := by
  obtain ⟨c2, r2, m2, -, -, q3, -, kP, hkP, hkPi⟩ := Cond.selects_spec ws
  have h1 := findClass_of_methodNamed q3
  rw [hc] at h1
  cases hm : Z.methodNamed? y with
  | none => simp [Cond.before, Cond.holds, Cond.value, hm] at wd
  | some mk =>
    have h2 := State.methodFound?_of_named hm hy
    have h3 := findClass_of_methodNamed hm
    simp only [Cond.before, Cond.holds, Cond.value, h1, h2, hm, hkP, Option.any_some, hkPi]
    rfl
theorem oPriv {as : Array Value} {y : MethodName} {kk : Nat} (wi : (Jvm.Cond.instantiable y.cls kk).before as s = true) (hpriv : s.PrivateAt y) (hinst : (Jvm.Cond.instanceMethod y).before as s = true) (hy : y.cls ≠ "java/lang/invoke/MethodHandle" ∧ y.cls ≠ "java/lang/invoke/VarHandle") : (Jvm.Cond.selects y.cls y y).before as s = true := by
  obtain ⟨c, k, h1, h2, h3, h4, -⟩ := Cond.instantiable_spec wi
  have i5 : k.isInterface = false := by cases hq : k.isInterface <;> simp [hq] at h4 ⊢
  exact selects_self_of_private h1 h2 i5 hpriv hinst hy
/-! the start's statics -/
theorem oAnd {A B : Jvm.Cond} {as : Array Value} {st : State} (q : (Jvm.Cond.and A B).before as st = true) : A.before as st = true ∧ B.before as st = true := by
  rw [Cond.before_and, Bool.and_eq_true] at q; exact q
/-- a static that holds exactly an object of the class K -/
theorem oStaR {as : Array Value} {C n d K : String} (q : (Jvm.Cond.exactly (.static C n d) K).before as Z = true) (w1 : (Jvm.Cond.initialized C).before as Z = true) (w2 : (Jvm.Cond.laysStatic C n d).before as Z = true) : ∃ a, (Term.static C n d).eval as Z none [] Z = some (.ref a) ∧ Sta Z Z.heap C n d (.ref a) ∧ Exa Z Z.heap a K := by
  obtain ⟨a, c', cell, k, e1, -⟩ := Cond.exactly_spec q
  exact ⟨a, e1, Sta.start e1 (Or.inr ⟨w1, w2⟩), Exa.start e1 (Cond.before_iff.mp q)⟩
theorem oFldI {as : Array Value} {t : Term} {C n d : String} {k : Int32} {a : Addr} (q : (Jvm.Cond.eq (.field t C n d) (.int k)).before as Z = true) (ev : t.eval as Z none [] Z = some (.ref a)) : Fld Z Z.heap a C n d (.int k) := by
  have q' := Cond.before_iff.mp q
  have e1 : (Term.field t C n d).eval as Z none [] Z = Z.fieldOf? a C n d := by simp [Term.eval, ev]
  refine Fld.start ?_
  simp only [Cond.value, e1] at q'
  cases hf : Z.fieldOf? a C n d with
  | none => simp [hf] at q'
  | some v => cases v <;> simp [hf, Term.eval] at q' ⊢; exact q'
theorem oArgI {as : Array Value} {i : Nat} {w : Value} (q : (Jvm.Cond.isInt (.arg i)).before as s = true) (e : as[i]? = some w) : ∃ z, w = .int z := by
  have q' := Cond.before_iff.mp q
  simp only [Cond.value, Term.eval, e] at q'
  cases w <;> first | exact ⟨_, rfl⟩ | simp at q'
theorem oArgJ {as : Array Value} {i : Nat} {w : Value} (q : (Jvm.Cond.isLong (.arg i)).before as s = true) (e : as[i]? = some w) : ∃ z, w = .long z := by
  have q' := Cond.before_iff.mp q
  simp only [Cond.value, Term.eval, e] at q'
  cases w <;> first | exact ⟨_, rfl⟩ | simp at q'
theorem own_arrAt {Z : State} {ca : Addr} {cl : Cell} {ty : FieldType} (A : Arr Z Z.heap ca cl ty) : Z.arrayAt? ca = some cl := by
  have hp := A.plain
  obtain ⟨h1, ⟨hp', k, hk, comp, hkind⟩, h3⟩ := A
  simp [State.arrayAt?, h1, hk, hkind, h3, hp]
theorem own_len {as : Array Value} {Z : State} {t : Term} {ca : Addr} {cl : Cell} {ty : FieldType} (ev : t.eval as Z none [] Z = some (.ref ca)) (A : Arr Z Z.heap ca cl ty) (q : (Jvm.Cond.eq (.length t) (.int 256)).before as Z = true) : cl.slots.size = 256 := by
  have q' := Cond.before_iff.mp q
  have e1 := own_arrAt A
  by_cases hs : cl.slots.size < 2 ^ 31
  · have e2 : (Term.length t).eval as Z none [] Z = some (.int cl.slots.size.toInt32) := by simp [Term.eval, ev, e1, hs]
    have e3 := Cond.eq_ints e2 (Term.int_eval 256)
    rw [e3] at q'
    have e4 : cl.slots.size.toInt32 = 256 := by simpa using q'
    have e5 : (cl.slots.size.toInt32).toInt = (256 : Int32).toInt := by rw [e4]
    have e6 : (Int32.ofNat cl.slots.size).toInt = cl.slots.size := Int32.toInt_ofNat_of_lt (by omega)
    have e7 : (256 : Int32).toInt = 256 := by decide
    have e8 : cl.slots.size.toInt32 = Int32.ofNat cl.slots.size := rfl
    rw [e8, e6, e7] at e5
    omega
  · have e2 : (Term.length t).eval as Z none [] Z = none := by
      simp [Term.eval, ev]
      intro a ha
      rw [e1] at ha
      cases ha
      omega
    simp [Cond.value, e2] at q'
theorem own_all {as : Array Value} {Z : State} {C n d K : String} {ca : Addr} {cl : Cell} {ty : FieldType} {X : Jvm.Cond} (ev : (Term.static C n d).eval as Z none [] Z = some (.ref ca)) (A : Arr Z Z.heap ca cl ty) (hn : cl.slots.size = 256) (q : (Jvm.Cond.all (.static C n d) (.and (.exactly (.elem (.static C n d) (.index 0)) K) X)).before as Z = true) :
    ∀ j : Int32, 0 ≤ j.toInt ∧ j.toInt < (256 : Nat) → ∃ o, cl.slots[j.toNatClampNeg]? = some (.ref o) ∧ Exa Z Z.heap o K ∧ (Term.elem (.static C n d) (.index 0)).eval as Z none [j.toNatClampNeg] Z = some (.ref o) ∧ X.value as Z none Z [j.toNatClampNeg] = some true := by
  intro j hj
  have e1 := own_arrAt A
  have hj0 : ¬ j < 0 := by rw [Int32.lt_iff_toInt_lt]; have : (0 : Int32).toInt = 0 := rfl; omega
  have h1 : j.toNatClampNeg = j.toInt.toNat := rfl
  have h := Cond.all_elim ev e1 (Cond.before_iff.mp q) j.toNatClampNeg (by rw [hn, h1]; omega)
  obtain ⟨h2, h3⟩ := and_e h
  have ev' : (Term.static C n d).eval as Z none [j.toNatClampNeg] Z = some (.ref ca) := ev
  have e2 : (Term.elem (.static C n d) (.index 0)).eval as Z none [j.toNatClampNeg] Z = cl.slots[j.toNatClampNeg]? := by
    have e3 := idx_at (args := as) (s := Z) (first := Z) (o := none) hj0
    simp only [Term.eval] at ev' e3 ⊢
    rw [ev', e3]
    simp [e1, hj0]
  obtain ⟨o, c', cell, k, f1, -⟩ := Cond.exactly_spec (show (Cond.exactly (.elem (.static C n d) (.index 0)) K).holds as Z none Z [j.toNatClampNeg] = true by simp [Cond.holds, h2])
  exact ⟨o, by rw [← e2]; exact f1, exa_at f1 h2, f1, h3⟩
theorem own_fld {as : Array Value} {Z : State} {t u : Term} {idx : List Nat} {O f D : String} {o : Addr} {k : Int32} (f1 : t.eval as Z none idx Z = some (.ref o)) (hx : (Jvm.Cond.eq (.field t O f D) u).value as Z none Z idx = some true) (hu : u.eval as Z none idx Z = some (.int k)) : Fld Z Z.heap o O f D (.int k) := by
  have e1 : (Term.field t O f D).eval as Z none idx Z = Z.fieldOf? o O f D := by simp [Term.eval, f1]
  refine Fld.start ?_
  simp only [Cond.value, e1, hu] at hx
  cases hf : Z.fieldOf? o O f D with
  | none => simp [hf] at hx
  | some v => cases v <;> simp [hf] at hx ⊢; exact hx
theorem own_ix {as : Array Value} {Z : State} {j : Int32} (hj : 0 ≤ j.toInt) : (Term.sub (.index 0) (.int 128)).eval as Z none [j.toNatClampNeg] Z = some (.int (j - 128)) := by
  have hj0 : ¬ j < 0 := by rw [Int32.lt_iff_toInt_lt]; have : (0 : Int32).toInt = 0 := rfl; omega
  have e3 := idx_at (args := as) (s := Z) (first := Z) (o := none) hj0
  simp only [Term.eval] at e3 ⊢
  rw [e3]; rfl
theorem oEqI {as : Array Value} {t : Term} {k : Int32} (q : (Jvm.Cond.eq t (.int k)).before as Z = true) : t.eval as Z none [] Z = some (.int k) := by
  have q' := Cond.before_iff.mp q
  simp only [Cond.value] at q'
  cases hf : t.eval as Z none [] Z with
  | none => simp [hf] at q'
  | some v => cases v <;> simp [hf, Term.eval] at q' ⊢; exact q'
end OwnKit
section OwnVm
variable {p : Program} {l : Launch} {e : Env} {R : Room} {s : State} {m : MethodId} {args : Array Value} {below : List Frame} {meth : Method} {c : Code} {T : State} {locs : List Loc} {cells slots : Nat} {Z : State} {h h' : Heap} {a0 : Array Value}
/-! bodies whose contract speaks of the tables (which constants have been loaded) -/
def oFinV (s : State) (below : List Frame) (Q : Option Value → Heap → Vm → List Loc → Prop) (C S : Nat) (t : State) : Prop := ∃ o, t.status = .running ∧ Ended t below o ∧ ∃ v L, o = .returned v ∧ Q v t.heap t.vm L ∧ ReturnedEndW s o t L C S
theorem oEnterV {S0 : State} {Q : Option Value → Heap → Vm → List Loc → Prop} {C S : Nat} (k : oGl p e below S0 (oFinV s below Q C S)) : ∃ s₂ o, Steps p.tables e below S0 s₂ ∧ s₂.status = .running ∧ Ended s₂ below o ∧ ∃ v L, o = .returned v ∧ Q v s₂.heap s₂.vm L ∧ ReturnedEndW s o s₂ L C S := by
  obtain ⟨t, k1, o, k2, k3, k4⟩ := k; exact ⟨t, o, k1, k2, k3, k4⟩
theorem oRetIV {vm₁ : Vm} {n : Nat} (X : Stand p l e R (s.setVm vm₁) m args below meth c T locs cells slots) (hS : s.Since vm₁ n) (hn : n ≤ T.heap.size) (hx : p.tables.exec = Jvm.exec) (hl : meth.locks = false) {pc : Nat} {Ls : Array Slot} {z : Int32} {rest : List Value} (hret : meth.sig.returnType = some .int) (hd : decode c.code pc = .ok (.ireturn, 1))
    {Q : Option Value → Heap → Vm → List Loc → Prop} {C S : Nat} (hc : cells ≤ C) (hs : slots ≤ S) (hq : Q (some (.int z)) T.heap T.vm locs) : oGl p e below (T.setTop (mkF m pc Ls (.int z :: rest))) (oFinV s below Q C S) := by
  obtain ⟨fs, hr, hrun, hended, h1, h2, h3, hsame⟩ := X.leaveW hS hn (v := some (.int z)) (fun q => by rw [hret] at q; cases q) hl
  exact ⟨_, retOut X hx hret rfl (Or.inl ⟨rfl, Or.inl rfl, _, rfl⟩) hd hr, _, hrun, hended, _, _, rfl, hq, h1, h2, h3, hsame.mono hc hs⟩
theorem oRetNV {t : FieldType} {vm₁ : Vm} {n : Nat} (X : Stand p l e R (s.setVm vm₁) m args below meth c T locs cells slots) (hS : s.Since vm₁ n) (hn : n ≤ T.heap.size) (hx : p.tables.exec = Jvm.exec) (hl : meth.locks = false) {pc : Nat} {Ls : Array Slot} {z : Int32} {rest : List Value} (hret : meth.sig.returnType = some t) (ht : t = .boolean ∨ t = .byte ∨ t = .char ∨ t = .short) (hd : decode c.code pc = .ok (.ireturn, 1))
    {Q : Option Value → Heap → Vm → List Loc → Prop} {C S : Nat} (hc : cells ≤ C) (hs : slots ≤ S) (hq : Q (some (.int (nar t z))) T.heap T.vm locs) : oGl p e below (T.setTop (mkF m pc Ls (.int z :: rest))) (oFinV s below Q C S) := by
  obtain ⟨fs, hr, hrun, hended, h1, h2, h3, hsame⟩ := X.leaveW hS hn (v := some (.int (nar t z))) (fun q => by rw [hret] at q; cases q) hl
  exact ⟨_, retN X hx hret ht hd hr, _, hrun, hended, _, _, rfl, hq, h1, h2, h3, hsame.mono hc hs⟩
theorem oRetRV {t : FieldType} {vm₁ : Vm} {n : Nat} (X : Stand p l e R (s.setVm vm₁) m args below meth c T locs cells slots) (hS : s.Since vm₁ n) (hn : n ≤ T.heap.size) (hx : p.tables.exec = Jvm.exec) (hl : meth.locks = false) {pc : Nat} {Ls : Array Slot} {w : Value} {rest : List Value} (hret : meth.sig.returnType = some t) (ht : t.isReference = true) (hw : w.isRef = true) (hd : decode c.code pc = .ok (.areturn, 1))
    {Q : Option Value → Heap → Vm → List Loc → Prop} {C S : Nat} (hc : cells ≤ C) (hs : slots ≤ S) (hq : Q (some w) T.heap T.vm locs) : oGl p e below (T.setTop (mkF m pc Ls (w :: rest))) (oFinV s below Q C S) := by
  obtain ⟨fs, hr, hrun, hended, h1, h2, h3, hsame⟩ := X.leaveW hS hn (v := some w) (fun q => by rw [hret] at q; cases q) hl
  exact ⟨_, retOut X hx hret (narrow_ref ht hw) (Or.inr (Or.inr (Or.inr (Or.inr ⟨rfl, ht, hw⟩)))) hd hr, _, hrun, hended, _, _, rfl, hq, h1, h2, h3, hsame.mono hc hs⟩
theorem oRet0V {vm₁ : Vm} {n : Nat} (X : Stand p l e R (s.setVm vm₁) m args below meth c T locs cells slots) (hS : s.Since vm₁ n) (hn : n ≤ T.heap.size) (hx : p.tables.exec = Jvm.exec) (hl : meth.locks = false) {pc : Nat} {Ls : Array Slot} (hret : meth.sig.returnType = none) (hd : decode c.code pc = .ok (.return_, 1))
    {Q : Option Value → Heap → Vm → List Loc → Prop} {C S : Nat} (hc : cells ≤ C) (hs : slots ≤ S) (hq : Q none T.heap T.vm locs) : oGl p e below (T.setTop (mkF m pc Ls [])) (oFinV s below Q C S) := by
  obtain ⟨fs, hr, hrun, hended, h1, h2, h3, hsame⟩ := X.leaveW hS hn (v := none) (fun _ => rfl) hl
  exact ⟨_, X.returnOut hx hret hd hr, _, hrun, hended, _, _, rfl, hq, h1, h2, h3, hsame.mono hc hs⟩
theorem backOfV {J : Vm → Prop} {y : MethodName} {bytes : ByteArray} {maxL : Nat} {ret : Option FieldType} {rm : Room} {len W : Nat} {as' : Array Value} {Q : Option Value → Heap → Vm → List Loc → Prop}
    (hM : MetFree l y (head1 [Cond.code y bytes maxL ret] rm) (fun a U => a = as' ∧ Z.Warmed39 U.vm ∧ U.heap = h ∧ J U.vm) (fun _ _ _ _ _ => True) (fun _ U o U' => ∃ v L, o = .returned v ∧ Q v U'.heap U'.vm L ∧ ReturnedEndW U o U' L rm.cells rm.slots))
    (hZ : Z.Warmed39 s.vm) (wc : (Cond.code y bytes maxL ret).before a0 Z = true) (wz : (Cond.initialized y.cls).before a0 Z = true) (hf : rm.frames + 1 ≤ R.frames) (hl : W + (maxL + 11) + rm.locals ≤ R.locals) :
    BackS l R p e below s args y len W (fun A a => a = as' ∧ A.U.heap = h ∧ A.cells + rm.cells ≤ R.cells ∧ A.slots + rm.slots ≤ R.slots ∧ J A.U.vm)
      (fun A _ v B => ∃ L, Q v B.U.heap B.U.vm L ∧ B.locs = A.locs ++ L ∧ B.cells = A.cells + rm.cells ∧ B.slots = A.slots + rm.slots) :=
  BackS.of_freeW (bytes := bytes) (maxL := maxL) (ret := ret) (E := fun _ _ o t L k n => k = rm.cells ∧ n = rm.slots ∧ ∃ v, o = .returned v ∧ Q v t.heap t.vm L) hM hf hl
    (fun m meth c A a Y hp => by
      have hU : Z.Warmed39 A.U.vm := wtrans hZ Y.warmed
      refine ⟨?_, mv hU wc, mv hU wz, hp.2.2.1, hp.2.2.2.1⟩
      show (Cond.and _ .tt).before a A.U = true
      rw [Cond.before_and, mv hU wc]; rfl)
    (fun m meth c A a g mk Y hp => ⟨hp.1, wtrans hZ Y.warmed, hp.2.1, hp.2.2.2.2⟩) (fun _ _ _ _ _ _ _ _ _ => trivial)
    (fun _ _ _ _ ⟨v, L, h1, h2, h3⟩ => ⟨L, _, _, h3, rfl, rfl, v, h1, h2⟩)
    (fun m meth c A a g mk v t L k n Y hp _ _ ⟨e1, e2, v', e3, e4⟩ => by cases e3; subst e1 e2; exact ⟨L, e4, rfl, rfl, rfl⟩)
/-- the constant "" of java/lang/String (entry 7): nothing has been loaded yet, or it has, and what it is -/
def oEm (Z : State) (vm : Vm) (h : Heap) : Prop := vm.interned = Z.vm.interned ∨ ∃ a b : Nat, Lit (Z.setVm vm) "java/lang/String" 7 a ∧ Exa Z h a "java/lang/String" ∧ Fld Z h a "java/lang/String" "coder" "B" (.int 0) ∧ Fld Z h a "java/lang/String" "value" "[B" (.ref b) ∧ oAI Z h b .byte 0 (fun _ => 0)
theorem oEm.ext {vm : Vm} (F : oEm Z vm h) (E : Ext h h') : oEm Z vm h' := by
  rcases F with q | ⟨a, b, f1, f2, f3, f4, f5⟩
  · exact Or.inl q
  · exact Or.inr ⟨a, b, f1, f2.ext E, f3.ext E, f4.ext E, f5.ext E⟩
theorem oEm.keep0 {vm : Vm} (F : oEm Z vm h) (K : Keep h h' []) : oEm Z vm h' := by
  rcases F with q | ⟨a, b, f1, f2, f3, f4, f5⟩
  · exact Or.inl q
  · exact Or.inr ⟨a, b, f1, f2.keep K, f3.keep K nin0, f4.keep K nin0, f5.keep K nin0⟩
theorem oNeT {a b : Addr} {ty ty' : FieldType} {n n' : Nat} {f f' : Nat → Int32} (F : oAI Z h a ty n f) (G : oAI Z h b ty' n' f') (q : ty ≠ ty') : a ≠ b := fun e => by
  subst e
  obtain ⟨c1, A1, -⟩ := F
  obtain ⟨c2, A2, -⟩ := G
  cases A1.1.symm.trans A2.1
  obtain ⟨-, k1, h1, cp1, h2⟩ := A1.2.1
  obtain ⟨-, k2, g1, cp2, g2⟩ := A2.2.1
  cases h1.symm.trans g1
  rw [h2] at g2
  injection g2 with q1 q2
  exact q q2
theorem oNeO {a b : Addr} {C : String} {k n : Nat} {ty : FieldType} {f : Nat → Int32} (F : Exa Z h a C) (wi : (Jvm.Cond.instantiable C k).before a0 Z = true) (G : oAI Z h b ty n f) : a ≠ b := by
  obtain ⟨c2, A2, -⟩ := G
  exact ne_arr F wi A2
theorem oEm.wrA {vm : Vm} {x : Addr} {sl : Nat} {v : Value} {ty : FieldType} {n k : Nat} {f : Nat → Int32} (F : oEm Z vm h) (W : Wr h h' x sl v) (G : oAI Z h x ty n f) (wi : (Jvm.Cond.instantiable "java/lang/String" k).before a0 Z = true) (q : FieldType.byte ≠ ty) : oEm Z vm h' := by
  rcases F with r | ⟨a, b, f1, f2, f3, f4, f5⟩
  · exact Or.inl r
  · exact Or.inr ⟨a, b, f1, f2.wr W, f3.other W (Or.inl (oNeO f2 wi G)), f4.other W (Or.inl (oNeO f2 wi G)), f5.other W (oNeT f5 G q)⟩
theorem fld_fun {a : Addr} {C n d : String} {v w : Value} (F : Fld Z h a C n d v) (G : Fld Z h a C n d w) : v = w := by
  by_cases q : v = w
  · exact q
  · exact absurd rfl (F.ne G q)
theorem oEm.wrF {vm : Vm} {x : Addr} {sl : Nat} {v : Value} (F : oEm Z vm h) (W : Wr h h' x sl v) (G : Fld Z h x "java/lang/String" "value" "[B" .null) {k : Nat} (Ex : Exa Z h x "java/lang/String") (wi : (Jvm.Cond.instantiable "java/lang/String" k).before a0 Z = true) : oEm Z vm h' := by
  rcases F with r | ⟨a, b, f1, f2, f3, f4, f5⟩
  · exact Or.inl r
  · have q : a ≠ x := fun e => by subst e; exact absurd (fld_fun f4 G) nofun
    refine Or.inr ⟨a, b, f1, f2.wr W, f3.other W (Or.inl q), f4.other W (Or.inl q), f5.other W (fun e => oNeO Ex wi f5 e.symm)⟩
theorem warm_interned {vm0 vm1 : Vm} (W : (s.setVm vm0).WarmedH vm1) : vm1.interned = vm0.interned := by
  rw [W.1]; rfl
theorem oEm.warm {vm0 vm1 : Vm} (F : oEm Z vm0 h) (W : (s.setVm vm0).WarmedH vm1) : oEm Z vm1 h := by
  rcases F with r | ⟨a, b, f1, f2⟩
  · exact Or.inl ((warm_interned W).trans r)
  · exact Or.inr ⟨a, b, Lit.stays (s := s) f1 W.wide, f2⟩
theorem oAI.ofArv0 {b : Addr} {k : ClassId} {ty : FieldType} {d : Value} (V : Arv Z h b k ty (0 : Int32) [] d) : oAI Z h b ty 0 (fun _ => 0) := by
  obtain ⟨c, A, -, S, -⟩ := V
  exact ⟨c, A, S, by decide, fun j hj => absurd hj (Nat.not_lt_zero _)⟩
theorem oAI_fun {a : Addr} {ty : FieldType} {n n' : Nat} {f f' : Nat → Int32} (F : oAI Z h a ty n f) (G : oAI Z h a ty n' f') : n = n' ∧ ∀ j, j < n → f j = f' j := by
  obtain ⟨c1, A1, S1, -, G1⟩ := F
  obtain ⟨c2, A2, S2, -, G2⟩ := G
  cases A1.1.symm.trans A2.1
  have e : n = n' := S1.symm.trans S2
  refine ⟨e, fun j hj => ?_⟩
  have h1 := G1 j hj
  rw [G2 j (e ▸ hj)] at h1
  injection h1 with h1; injection h1 with h1; exact h1.symm
end OwnVm
set_option maxHeartbeats 4000000 in
theorem own_sa {Z : State} {a0 : Array Value} (hw : ∀ d ∈ tables_1, d.before a0 Z = true) : ∀ d ∈ Bundle.stringAtoms, d.before a0 Z = true := by
  intro d hd
  simp only [Bundle.stringAtoms, List.mem_cons, List.not_mem_nil, or_false] at hd
  rcases hd with rfl | rfl | rfl | rfl | rfl | rfl | rfl
  · exact (hw _ (List.mem_of_getElem? (i := 3) rfl))
  · exact (hw _ (List.mem_of_getElem? (i := 2) rfl))
  · exact (hw _ (List.mem_of_getElem? (i := 15) rfl))
  · exact (hw _ (List.mem_of_getElem? (i := 16) rfl))
  · exact (hw _ (List.mem_of_getElem? (i := 17) rfl))
  · exact (hw _ (List.mem_of_getElem? (i := 18) rfl))
  · exact (hw _ (List.mem_of_getElem? (i := 19) rfl))
def oLo (f : Nat → Int32) : Nat → Int32 := fun j => nar .byte ((f j).toInt8.toInt32)
theorem own_ofNat {n : Nat} (h : n < 2147483648) : (Int32.ofNat n).toInt = n := Int32.toInt_ofNat_of_lt (by omega)
theorem own_incS {x : Int32} (h : x.toInt < 2147483647) : (x + (1 : Int32)).toInt = x.toInt + 1 := by
  have h1 := c_iadd x 1; have h2 := rng32 (x + 1); have h3 := rng32 x; have e1 : (1 : Int32).toInt = 1 := rfl
  omega
theorem own_nn {n : Nat} (h : n < 2147483648) : ¬ Int32.ofNat n < 0 := by
  rw [Int32.lt_iff_toInt_lt, own_ofNat h]; have e0 : (0 : Int32).toInt = 0 := rfl; omega
theorem own_n00 {n : Nat} (h : n < 2147483648) (e : Int32.ofNat n = (0 : Int32)) : n = 0 := by
  have e1 : (Int32.ofNat n).toInt = (0 : Int32).toInt := by rw [e]
  rw [own_ofNat h] at e1; have e0 : (0 : Int32).toInt = 0 := rfl; omega
theorem own_cod (x : Int32) : nar .byte ((((x - x).toUInt32 >>> ((31 : Int32) &&& 31).toUInt32).toInt32).toInt8.toInt32) = 0 := by
  rw [Int32.sub_self]; decide
theorem own_cod1 {n : Nat} (h : 0 < n) (h2 : n < 1073741823) : nar .byte ((((Int32.ofNat n - Int32.ofNat (2 * n)).toUInt32 >>> ((31 : Int32) &&& 31).toUInt32).toInt32).toInt8.toInt32) = 1 := by
  have e1 := own_ofNat (n := n) (by omega)
  have e2 := own_ofNat (n := 2 * n) (by omega)
  have e3 := c_isub (Int32.ofNat n) (Int32.ofNat (2 * n))
  have e4 := rng32 (Int32.ofNat n - Int32.ofNat (2 * n))
  have e5 := c_iushr (Int32.ofNat n - Int32.ofNat (2 * n)) 31 31 (by decide) (by decide)
  have e6 : ((Int32.ofNat n - Int32.ofNat (2 * n)).toUInt32 >>> ((31 : Int32) &&& 31).toUInt32).toInt32 = 1 := by
    apply Int32.toInt_inj.mp; rw [e5]; have e7 : (1 : Int32).toInt = 1 := rfl
    rw [e7]; omega
  rw [e6]; decide
def oB0 (x : Int32) : Int32 := nar .byte ((x >>> ((0 : Int32) &&& 31)).toInt8.toInt32)
def oB1 (x : Int32) : Int32 := nar .byte ((x >>> ((8 : Int32) &&& 31)).toInt8.toInt32)
def oU (f : Nat → Int32) : Nat → Int32 := fun k => if k % 2 = 0 then oB0 (f (k / 2)) else oB1 (f (k / 2))
theorem oU_e {f : Nat → Int32} {i : Nat} : oU f (2 * i) = oB0 (f i) := by
  have h1 : (2 * i) % 2 = 0 := by omega
  have h2 : (2 * i) / 2 = i := by omega
  simp [oU, h1, h2]
theorem oU_o {f : Nat → Int32} {i : Nat} : oU f (2 * i + 1) = oB1 (f i) := by
  have h1 : (2 * i + 1) % 2 = 1 := by omega
  have h2 : (2 * i + 1) / 2 = i := by omega
  simp [oU, h1, h2]
theorem own_shl1 {i : Int32} (h : 0 ≤ i.toInt ∧ i.toInt < 1000000000) : (i <<< ((1 : Int32) &&& 31)).toInt = 2 * i.toInt := by
  have h1 := c_ishl i 1 1 (by decide)
  have h2 := rng32 (i <<< ((1 : Int32) &&& 31))
  omega
theorem own_rt (x : Int32) (h : 0 ≤ x.toInt ∧ x.toInt < 65536) : nar .char ((((oB0 x &&& (255 : Int32)) <<< ((0 : Int32) &&& 31)) ||| ((oB1 x &&& (255 : Int32)) <<< ((8 : Int32) &&& 31))).toUInt32.toUInt16.toUInt32.toInt32) = x := by
  have a1 := c_ishr x 0 0 (by decide)
  have a2 := c_ishr x 8 8 (by decide)
  have b1 := c_i2b (x >>> ((0 : Int32) &&& 31))
  have b2 := c_i2b (x >>> ((8 : Int32) &&& 31))
  have b1' : (oB0 x).toInt = (x >>> ((0 : Int32) &&& 31)).toInt8.toInt32.toInt := by
    have q := c_i2b ((x >>> ((0 : Int32) &&& 31)).toInt8.toInt32)
    show ((x >>> ((0 : Int32) &&& 31)).toInt8.toInt32).toInt8.toInt32.toInt = _
    omega
  have b2' : (oB1 x).toInt = (x >>> ((8 : Int32) &&& 31)).toInt8.toInt32.toInt := by
    have q := c_i2b ((x >>> ((8 : Int32) &&& 31)).toInt8.toInt32)
    show ((x >>> ((8 : Int32) &&& 31)).toInt8.toInt32).toInt8.toInt32.toInt = _
    omega
  have m1 := c_mask (oB0 x) 255 8 (by decide) (by decide)
  have m2 := c_mask (oB1 x) 255 8 (by decide) (by decide)
  have s1 := c_ishl (oB0 x &&& (255 : Int32)) 0 0 (by decide)
  have s2 := c_ishl (oB1 x &&& (255 : Int32)) 8 8 (by decide)
  have r1 := rng32 ((oB0 x &&& (255 : Int32)) <<< ((0 : Int32) &&& 31))
  have r2 := rng32 ((oB1 x &&& (255 : Int32)) <<< ((8 : Int32) &&& 31))
  have o1 := c_or' ((oB0 x &&& (255 : Int32)) <<< ((0 : Int32) &&& 31)) ((oB1 x &&& (255 : Int32)) <<< ((8 : Int32) &&& 31)) 8 (by decide) 256 (by decide) (by omega) (by omega) (by omega)
  have r3 := rng32 (((oB0 x &&& (255 : Int32)) <<< ((0 : Int32) &&& 31)) ||| ((oB1 x &&& (255 : Int32)) <<< ((8 : Int32) &&& 31)))
  have c1 := c_i2c (((oB0 x &&& (255 : Int32)) <<< ((0 : Int32) &&& 31)) ||| ((oB1 x &&& (255 : Int32)) <<< ((8 : Int32) &&& 31)))
  have c2 := c_i2c ((((oB0 x &&& (255 : Int32)) <<< ((0 : Int32) &&& 31)) ||| ((oB1 x &&& (255 : Int32)) <<< ((8 : Int32) &&& 31))).toUInt32.toUInt16.toUInt32.toInt32)
  apply Int32.toInt_inj.mp
  show ((((oB0 x &&& (255 : Int32)) <<< ((0 : Int32) &&& 31)) ||| ((oB1 x &&& (255 : Int32)) <<< ((8 : Int32) &&& 31))).toUInt32.toUInt16.toUInt32.toInt32).toUInt32.toUInt16.toUInt32.toInt32.toInt = _
  omega
theorem own_lt8 (x : Int32) (h : 0 ≤ x.toInt ∧ x.toInt < 256) : nar .char ((nar .byte (x.toInt8.toInt32) &&& (255 : Int32)).toUInt32.toUInt16.toUInt32.toInt32) = x := by
  have b1 := c_i2b x
  have b2 := c_i2b (x.toInt8.toInt32)
  have b3 : (nar .byte (x.toInt8.toInt32)).toInt = (x.toInt8.toInt32).toInt8.toInt32.toInt := rfl
  have m1 := c_mask (nar .byte (x.toInt8.toInt32)) 255 8 (by decide) (by decide)
  have c1 := c_i2c (nar .byte (x.toInt8.toInt32) &&& (255 : Int32))
  have c2 := c_i2c ((nar .byte (x.toInt8.toInt32) &&& (255 : Int32)).toUInt32.toUInt16.toUInt32.toInt32)
  apply Int32.toInt_inj.mp
  show ((nar .byte (x.toInt8.toInt32) &&& (255 : Int32)).toUInt32.toUInt16.toUInt32.toInt32).toUInt32.toUInt16.toUInt32.toInt32.toInt = _
  omega
theorem oKeepNil {h0 h : Heap} {d : Nat} (K : Keep h0 h [d]) (q : h0.size ≤ d) : Keep h0 h [] :=
  ⟨K.1, fun x c hx _ => K.2.1 x c hx (fun hm => by
    have h1 : @LT.lt Nat _ x h0.size := (Array.getElem?_eq_some_iff.mp hx).1
    have h2 : x = d := by simpa using hm
    subst h2; exact absurd h1 (Nat.not_lt.mpr q)), K.2.2⟩
theorem d20_0 : decode jdk_52_method_3_code 0 = .ok (.iload_n 0, 1) := by decide +kernel
theorem d20_1 : decode jdk_52_method_3_code 1 = .ok (.ifCond .ge 11, 3) := by decide +kernel
theorem d20_12 : decode jdk_52_method_3_code 12 = .ok (.iload_n 0, 1) := by decide +kernel
theorem d20_13 : decode jdk_52_method_3_code 13 = .ok (.ldc 20, 2) := by decide +kernel
theorem d20_15 : decode jdk_52_method_3_code 15 = .ok (.if_icmp .lt 40, 3) := by decide +kernel
theorem d20_55 : decode jdk_52_method_3_code 55 = .ok (.iload_n 0, 1) := by decide +kernel
theorem d20_56 : decode jdk_52_method_3_code 56 = .ok (.iconst 1, 1) := by decide +kernel
theorem d20_57 : decode jdk_52_method_3_code 57 = .ok (.ishl, 1) := by decide +kernel
theorem d20_58 : decode jdk_52_method_3_code 58 = .ok (.ireturn, 1) := by decide +kernel
theorem pn_StringUTF16 : plainName "java/lang/StringUTF16" = true := by first | (simp [plainName, overriddenIn]; done) | decide +kernel
theorem ef_rmNbl (m : MethodId) (x0 : Int32)  : entryFrame m #[(.int x0)] 1 = mkF m 0 #[.val (.int x0)] [] := by first | (simp [entryFrame, mkF, argsToLocals, Value.category, maxLocals]; done) | rfl
def Q_rmNbl (Z : State) (n : Nat) (h0 : Heap) (n0 : Nat) (vv : Option Value) (h : Heap) (L : List Loc) : Prop := vv = some (.int (Int32.ofNat (2 * n))) ∧ Fr n0 L ∧ h = h0
set_option maxRecDepth 65536 in
set_option maxHeartbeats 40000000 in
theorem rmNbl (l : Launch) (Z : State) (a0 : Array Value) (hw : ∀ d ∈ tables_1, d.before a0 Z = true) (ws : List Jvm.Cond) (n : Nat) (h0 : Heap) (n0 : Nat) (Z0 : n0 ≤ h0.size) (hn : n < 1000000) :
    MetFree l (⟨"java/lang/StringUTF16", "newBytesLength", "(I)I"⟩ : MethodName) (head1 (Jvm.Cond.code (⟨"java/lang/StringUTF16", "newBytesLength", "(I)I"⟩ : MethodName) jdk_52_method_3_code 1 (some .int) :: ws) ({ frames := 0, cells := 0, slots := 0, locals := 0 } : Room)) (fun aA uU => aA = #[(.int (Int32.ofNat n))] ∧ Z.Warmed39 uU.vm ∧ uU.heap = h0) (fun _ _ _ _ _ => True) (fun _ uU oO uU' => ∃ vV lL, oO = .returned vV ∧ Q_rmNbl Z n h0 n0 vV uU'.heap lL ∧ FrameEnd uU oO uU' lL ({ frames := 0, cells := 0, slots := 0, locals := 0 } : Room).cells ({ frames := 0, cells := 0, slots := 0, locals := 0 } : Room).slots) := by
  refine MetFree.of_bodySF (plainFor_of_name pn_StringUTF16) hisR ?_
  intro p e s m args below meth c s₁ Bd hml0 hP hK
  obtain ⟨rfl, hZ, hh⟩ := hP
  have hx := Bd.exec
  have hby := Bd.bytes
  have hml : c.maxLocals = 1 := hml0
  have hown : s.vm.findClass "java/lang/StringUTF16" = some m.cls := findClass_of_methodNamed Bd.named
  have hnm := (name_of_methodNamed Bd.named Bd.method).1
  have X0 : Stand p l e ({ frames := 0, cells := 0, slots := 0, locals := 0 } : Room) s m #[(.int (Int32.ofNat n))] below meth c s₁ [] 0 0 := Stand.of_body Bd
  have e0 : s₁.heap = h0 := by rw [← hh, Bd.state]; rfl
  have N0 := Fr.nil n0
  refine oEnter (oCast (ef_rmNbl m (Int32.ofNat n) ) ?_)
  show oGl p e below (s₁.setTop (mkF m 0 #[.val (.int (Int32.ofNat n))] [])) _
  refine siloadN X0 hx (hb hby d20_0) rfl rfl (pc' := 1) ?_
  refine sifY X0 hx (hb hby d20_1) (by decide) (by decide) (flt (own_nn (by omega) : ¬ ((Int32.ofNat n) < (0 : Int32)))).2.1 (pc' := 12) ?_
  refine siloadN X0 hx (hb hby d20_12) rfl rfl (pc' := 13) ?_
  refine oOn (X0.ldcInt hx hown (mvT hZ (hw _ (List.mem_of_getElem? (i := 92) rfl))) (g := (mkF m 13 #[.val (.int (Int32.ofNat n))] [(.int (Int32.ofNat n))])) rfl (hb hby d20_13)) ?_
  show oGl p e below (s₁.setTop (mkF m 15 #[.val (.int (Int32.ofNat n))] [(.int (1073741823 : Int32)), (.int (Int32.ofNat n))])) _
  refine sicY X0 hx (hb hby d20_15) (by decide) (by decide) (tlt (by rw [Int32.lt_iff_toInt_lt, own_ofNat (by omega)]; have e0 : (1073741823 : Int32).toInt = 1073741823 := rfl; omega : (Int32.ofNat n) < (1073741823 : Int32))).1 (pc' := 55) ?_
  refine siloadN X0 hx (hb hby d20_55) rfl rfl (pc' := 56) ?_
  refine siconst X0 hx (hb hby d20_56) rfl rfl (z := 1) (pc' := 57) ?_
  refine sishl X0 hx (hb hby d20_57) rfl rfl (pc' := 58) ?_
  refine oRetI X0 hx Bd.notSynchronized Bd.returns (hb hby d20_58) (by decide) (by decide) ?_
  show Q_rmNbl Z n h0 n0 _ s₁.heap _
  rw [e0]
  exact ⟨congrArg (fun z => some (Value.int z)) (Int32.toInt_inj.mp (by rw [own_shl1 (by rw [own_ofNat (by omega)]; omega), own_ofNat (by omega), own_ofNat (by omega)]; omega)), N0, rfl⟩
theorem d19_0 : decode jdk_52_method_2_code 0 = .ok (.iload_n 0, 1) := by decide +kernel
theorem d19_1 : decode jdk_52_method_2_code 1 = .ok (.invokestatic 11, 3) := by decide +kernel
theorem pd_0 : parseMethodDescriptor "(I)I" = some ⟨[.int], some .int⟩ := by decide +kernel
theorem d19_4 : decode jdk_52_method_2_code 4 = .ok (.newarray .byte, 2) := by decide +kernel
theorem d19_6 : decode jdk_52_method_2_code 6 = .ok (.areturn, 1) := by decide +kernel
theorem ef_rmNbf (m : MethodId) (x0 : Int32)  : entryFrame m #[(.int x0)] 1 = mkF m 0 #[.val (.int x0)] [] := by first | (simp [entryFrame, mkF, argsToLocals, Value.category, maxLocals]; done) | rfl
def Q_rmNbf (Z : State) (n : Nat) (h0 : Heap) (n0 : Nat) (vv : Option Value) (h : Heap) (L : List Loc) : Prop := ∃ d : Nat, vv = some (.ref d) ∧ Fr n0 L ∧ Keep h0 h [] ∧ h0.size ≤ d ∧ oAI Z h d .byte (2 * n) (fun _ => 0)
set_option maxRecDepth 65536 in
set_option maxHeartbeats 40000000 in
theorem rmNbf (l : Launch) (Z : State) (a0 : Array Value) (hw : ∀ d ∈ tables_1, d.before a0 Z = true) (ws : List Jvm.Cond) (n : Nat) (h0 : Heap) (n0 : Nat) (Z0 : n0 ≤ h0.size) (hn : n < 1000000) (hcap : n ≤ 65) :
    MetFree l (⟨"java/lang/StringUTF16", "newBytesFor", "(I)[B"⟩ : MethodName) (head1 (Jvm.Cond.code (⟨"java/lang/StringUTF16", "newBytesFor", "(I)[B"⟩ : MethodName) jdk_52_method_2_code 1 (some (.array .byte)) :: ws) ({ frames := 1, cells := 1, slots := 130, locals := 12 } : Room)) (fun aA uU => aA = #[(.int (Int32.ofNat n))] ∧ Z.Warmed39 uU.vm ∧ uU.heap = h0) (fun _ _ _ _ _ => True) (fun _ uU oO uU' => ∃ vV lL, oO = .returned vV ∧ Q_rmNbf Z n h0 n0 vV uU'.heap lL ∧ FrameEnd uU oO uU' lL ({ frames := 1, cells := 1, slots := 130, locals := 12 } : Room).cells ({ frames := 1, cells := 1, slots := 130, locals := 12 } : Room).slots) := by
  refine MetFree.of_bodySF (plainFor_of_name pn_StringUTF16) hisR ?_
  intro p e s m args below meth c s₁ Bd hml0 hP hK
  obtain ⟨rfl, hZ, hh⟩ := hP
  have hx := Bd.exec
  have hby := Bd.bytes
  have hml : c.maxLocals = 1 := hml0
  have hown : s.vm.findClass "java/lang/StringUTF16" = some m.cls := findClass_of_methodNamed Bd.named
  have hnm := (name_of_methodNamed Bd.named Bd.method).1
  have X0 : Stand p l e ({ frames := 1, cells := 1, slots := 130, locals := 12 } : Room) s m #[(.int (Int32.ofNat n))] below meth c s₁ [] 0 0 := Stand.of_body Bd
  have e0 : s₁.heap = h0 := by rw [← hh, Bd.state]; rfl
  have N0 := Fr.nil n0
  have hn8 := own_ofNat (n := 2 * n) (by omega)
  refine oEnter (oCast (ef_rmNbf m (Int32.ofNat n) ) ?_)
  show oGl p e below (s₁.setTop (mkF m 0 #[.val (.int (Int32.ofNat n))] [])) _
  refine siloadN X0 hx (hb hby d19_0) rfl rfl (pc' := 1) ?_
  have hz1 : n0 ≤ h0.size := by omega
  obtain ⟨_, _, ⟨T1, L1, k1, n1⟩, -, X1, ⟨Lc1, hQ1, l1, y1, z1⟩, st1⟩ := Jvm.LawKit.callS X0 hx (y := (⟨"java/lang/StringUTF16", "newBytesLength", "(I)I"⟩ : MethodName)) hown (mvT hZ (hw _ (List.mem_of_getElem? (i := 89) rfl))) (mvT hZ (hw _ (List.mem_of_getElem? (i := 90) rfl))) (mvT hZ (hw _ (List.mem_of_getElem? (i := 39) rfl))) (mvT hZ (hw _ (List.mem_of_getElem? (i := 91) rfl))) (by decide) (backOf (W := 0) (rmNbl l Z a0 hw [] n h0 n0 hz1 hn) hZ (hw _ (List.mem_of_getElem? (i := 91) rfl)) (hw _ (List.mem_of_getElem? (i := 39) rfl)) (by decide) (by decide)) (g := (mkF m 1 #[.val (.int (Int32.ofNat n))] [(.int (Int32.ofNat n))])) rfl (by rw [hml]; rfl) (argsL := [(.int (Int32.ofNat n))]) (rest := []) (lenOf pd_0 rfl) rfl (by show 2 * 0 + _ ≤ _; exact Nat.le_of_eq rfl) (hb hby d19_1) (fun _ _ => ⟨rfl, e0, (by decide : 0 + 0 ≤ _), (by decide : 0 + 0 ≤ _)⟩)
  dsimp only [Pt.U, Pt.locs, Pt.cells, Pt.slots] at X1 l1 y1 z1 st1 hQ1
  subst l1 y1 z1
  obtain ⟨rfl, N1q, eh1⟩ := hQ1
  have N1 := Fr.app N0 N1q
  refine oOn st1 ?_
  show oGl p e below (T1.setTop (mkF m 4 #[.val (.int (Int32.ofNat n))] [(.int (Int32.ofNat (2 * n)))])) _
  obtain ⟨T2, h2, k2, X2, e2, E2, A2, st2⟩ := newP X1 hx hZ (hw _ (List.mem_of_getElem? (i := 15) rfl)) eh1 (g := (mkF m 4 #[.val (.int (Int32.ofNat n))] [(.int (Int32.ofNat (2 * n)))])) rfl (hb hby d19_4) rfl (own_nn (by omega)) (cap := 130) (by show (Int32.ofNat (2 * n)).toInt.toNat ≤ _; omega) (by decide) (by decide) (by decide)
  obtain ⟨a2, g2⟩ : ∃ z, z = h0.size := ⟨_, rfl⟩
  rw [← g2] at A2 st2
  refine oOn st2 ?_
  have z3 : h0.size ≤ h2.size := E2.1
  have lt2 : a2 < h2.size := A2.lt
  have V2 : oAI Z h2 a2 .byte (2 * n) (fun _ => 0) := oAI.new A2 (by omega)
  show oGl p e below (T2.setTop (mkF m 6 #[.val (.int (Int32.ofNat n))] [(.ref a2)])) _
  have kp4 : Keep h0 h2 [] := ((Keep.refl h0 []).ext E2)
  refine oRetR X2 hx Bd.notSynchronized Bd.returns rfl rfl (hb hby d19_6) (by decide) (by decide) ?_
  show Q_rmNbf Z n h0 n0 _ T2.heap _
  rw [e2]
  exact ⟨a2, rfl, N1, kp4, by omega, V2⟩
theorem d21_0 : decode jdk_52_method_4_code 0 = .ok (.getstatic 44, 3) := by decide +kernel
theorem d21_3 : decode jdk_52_method_4_code 3 = .ok (.ifCond .ne 25, 3) := by decide +kernel
theorem d21_28 : decode jdk_52_method_4_code 28 = .ok (.iload_n 1, 1) := by decide +kernel
theorem d21_29 : decode jdk_52_method_4_code 29 = .ok (.iconst 1, 1) := by decide +kernel
theorem d21_30 : decode jdk_52_method_4_code 30 = .ok (.ishl, 1) := by decide +kernel
theorem d21_31 : decode jdk_52_method_4_code 31 = .ok (.istore_n 1, 1) := by decide +kernel
theorem d21_32 : decode jdk_52_method_4_code 32 = .ok (.aload_n 0, 1) := by decide +kernel
theorem d21_33 : decode jdk_52_method_4_code 33 = .ok (.iload_n 1, 1) := by decide +kernel
theorem d21_34 : decode jdk_52_method_4_code 34 = .ok (.iinc 1 1, 3) := by decide +kernel
theorem d21_37 : decode jdk_52_method_4_code 37 = .ok (.iload_n 2, 1) := by decide +kernel
theorem d21_38 : decode jdk_52_method_4_code 38 = .ok (.getstatic 59, 3) := by decide +kernel
theorem d21_41 : decode jdk_52_method_4_code 41 = .ok (.ishr, 1) := by decide +kernel
theorem d21_42 : decode jdk_52_method_4_code 42 = .ok (.i2b, 1) := by decide +kernel
theorem d21_43 : decode jdk_52_method_4_code 43 = .ok (.bastore, 1) := by decide +kernel
theorem d21_44 : decode jdk_52_method_4_code 44 = .ok (.aload_n 0, 1) := by decide +kernel
theorem d21_45 : decode jdk_52_method_4_code 45 = .ok (.iload_n 1, 1) := by decide +kernel
theorem d21_46 : decode jdk_52_method_4_code 46 = .ok (.iload_n 2, 1) := by decide +kernel
theorem d21_47 : decode jdk_52_method_4_code 47 = .ok (.getstatic 63, 3) := by decide +kernel
theorem d21_50 : decode jdk_52_method_4_code 50 = .ok (.ishr, 1) := by decide +kernel
theorem d21_51 : decode jdk_52_method_4_code 51 = .ok (.i2b, 1) := by decide +kernel
theorem d21_52 : decode jdk_52_method_4_code 52 = .ok (.bastore, 1) := by decide +kernel
theorem d21_53 : decode jdk_52_method_4_code 53 = .ok (.return_, 1) := by decide +kernel
theorem ef_rmPut (m : MethodId) (x0 : Nat) (x1 : Int32) (x2 : Int32)  : entryFrame m #[(.ref x0), (.int x1), (.int x2)] 3 = mkF m 0 #[.val (.ref x0), .val (.int x1), .val (.int x2)] [] := by first | (simp [entryFrame, mkF, argsToLocals, Value.category, maxLocals]; done) | rfl
def Q_rmPut (Z : State) (d n : Nat) (i ch : Int32) (g : Nat → Int32) (cz : Int32) (sf : Value) (h0 : Heap) (n0 : Nat) (vv : Option Value) (h : Heap) (L : List Loc) : Prop := vv = none ∧ Fr n0 L ∧ Keep h0 h [d] ∧ oAI Z h d .byte (2 * n) (oUp (oUp g (2 * i.toInt.toNat) (oB0 ch)) (2 * i.toInt.toNat + 1) (oB1 ch))
set_option maxRecDepth 65536 in
set_option maxHeartbeats 40000000 in
theorem rmPut (l : Launch) (Z : State) (a0 : Array Value) (hw : ∀ d ∈ tables_1, d.before a0 Z = true) (ws : List Jvm.Cond) (d n : Nat) (i ch : Int32) (g : Nat → Int32) (cz : Int32) (sf : Value) (h0 : Heap) (n0 : Nat) (Z0 : n0 ≤ h0.size) (O0 : Old Z n0 h0) (SCS : Sta Z Z.heap "java/lang/String" "COMPACT_STRINGS" "Z" (.int cz)) (hcz : ¬ cz = (0 : Int32)) (SSF : Sta Z Z.heap "jdk/internal/util/Preconditions" "SIOOBE_FORMATTER" "Ljava/util/function/BiFunction;" sf) (hsf : sf.isRef = true) (SAD : Sta Z Z.heap "java/lang/StringUTF16" "$assertionsDisabled" "Z" (.int 1)) (SHI : Sta Z Z.heap "java/lang/StringUTF16" "HI_BYTE_SHIFT" "I" (.int 0)) (SLO : Sta Z Z.heap "java/lang/StringUTF16" "LO_BYTE_SHIFT" "I" (.int 8)) (hn : n < 1000000) (PD : oAI Z h0 d .byte (2 * n) g) (gd : n0 ≤ d) (hi : 0 ≤ i.toInt ∧ i.toInt < n) :
    MetFree l (⟨"java/lang/StringUTF16", "putChar", "([BII)V"⟩ : MethodName) (head1 (Jvm.Cond.code (⟨"java/lang/StringUTF16", "putChar", "([BII)V"⟩ : MethodName) jdk_52_method_4_code 3 (none : Option FieldType) :: ws) ({ frames := 0, cells := 0, slots := 0, locals := 0 } : Room)) (fun aA uU => aA = #[(.ref d), (.int i), (.int ch)] ∧ Z.Warmed39 uU.vm ∧ uU.heap = h0) (fun _ _ _ _ _ => True) (fun _ uU oO uU' => ∃ vV lL, oO = .returned vV ∧ Q_rmPut Z d n i ch g cz sf h0 n0 vV uU'.heap lL ∧ FrameEnd uU oO uU' lL ({ frames := 0, cells := 0, slots := 0, locals := 0 } : Room).cells ({ frames := 0, cells := 0, slots := 0, locals := 0 } : Room).slots) := by
  refine MetFree.of_bodySF (plainFor_of_name pn_StringUTF16) hisR ?_
  intro p e s m args below meth c s₁ Bd hml0 hP hK
  obtain ⟨rfl, hZ, hh⟩ := hP
  have hx := Bd.exec
  have hby := Bd.bytes
  have hml : c.maxLocals = 3 := hml0
  have hown : s.vm.findClass "java/lang/StringUTF16" = some m.cls := findClass_of_methodNamed Bd.named
  have hnm := (name_of_methodNamed Bd.named Bd.method).1
  have X0 : Stand p l e ({ frames := 0, cells := 0, slots := 0, locals := 0 } : Room) s m #[(.ref d), (.int i), (.int ch)] below meth c s₁ [] 0 0 := Stand.of_body Bd
  have e0 : s₁.heap = h0 := by rw [← hh, Bd.state]; rfl
  have N0 := Fr.nil n0
  have hs1 := own_shl1 (i := i) (by omega)
  have hs2 := own_incS (x := (i <<< ((1 : Int32) &&& 31))) (by omega)
  have eA : (i <<< ((1 : Int32) &&& 31)).toInt.toNat = 2 * i.toInt.toNat := by omega
  have eB : ((i <<< ((1 : Int32) &&& 31)) + (1 : Int32)).toInt.toNat = 2 * i.toInt.toNat + 1 := by omega
  have lD : @LT.lt Nat _ d h0.size := PD.lt
  refine oEnter (oCast (ef_rmPut m d i ch ) ?_)
  show oGl p e below (s₁.setTop (mkF m 0 #[.val (.ref d), .val (.int i), .val (.int ch)] [])) _
  obtain ⟨T1, X1, e1, st1⟩ := getS2 X0 hx hZ hown (host := "") (Or.inl (hw _ (List.mem_of_getElem? (i := 96) rfl))) Via.refl e0 (SAD.ext O0.2) (g := (mkF m 0 #[.val (.ref d), .val (.int i), .val (.int ch)] [])) rfl (hb hby d21_0)
  refine oOn st1 ?_
  show oGl p e below (T1.setTop (mkF m 3 #[.val (.ref d), .val (.int i), .val (.int ch)] [(.int (1 : Int32))])) _
  refine sifY X1 hx (hb hby d21_3) (by decide) (by decide) (feq (by decide : ¬ ((1 : Int32) = (0 : Int32)))).2 (pc' := 28) ?_
  refine siloadN X1 hx (hb hby d21_28) rfl rfl (pc' := 29) ?_
  refine siconst X1 hx (hb hby d21_29) rfl rfl (z := 1) (pc' := 30) ?_
  refine sishl X1 hx (hb hby d21_30) rfl rfl (pc' := 31) ?_
  refine sistoreN X1 hx (hb hby d21_31) rfl rfl (l' := #[.val (.ref d), .val (.int (i <<< ((1 : Int32) &&& 31))), .val (.int ch)]) (pc' := 32) ?_
  refine saloadN X1 hx (hb hby d21_32) rfl rfl rfl (pc' := 33) ?_
  refine siloadN X1 hx (hb hby d21_33) rfl rfl (pc' := 34) ?_
  refine siinc X1 hx (hb hby d21_34) rfl rfl rfl (l' := #[.val (.ref d), .val (.int ((i <<< ((1 : Int32) &&& 31)) + (1 : Int32))), .val (.int ch)]) (pc' := 37) ?_
  refine siloadN X1 hx (hb hby d21_37) rfl rfl (pc' := 38) ?_
  obtain ⟨T2, X2, e2, st2⟩ := getS2 X1 hx hZ hown (host := "") (Or.inl (hw _ (List.mem_of_getElem? (i := 97) rfl))) Via.refl e1 (SHI.ext O0.2) (g := (mkF m 38 #[.val (.ref d), .val (.int ((i <<< ((1 : Int32) &&& 31)) + (1 : Int32))), .val (.int ch)] [(.int ch), (.int (i <<< ((1 : Int32) &&& 31))), (.ref d)])) rfl (hb hby d21_38)
  refine oOn st2 ?_
  show oGl p e below (T2.setTop (mkF m 41 #[.val (.ref d), .val (.int ((i <<< ((1 : Int32) &&& 31)) + (1 : Int32))), .val (.int ch)] [(.int (0 : Int32)), (.int ch), (.int (i <<< ((1 : Int32) &&& 31))), (.ref d)])) _
  refine sishr X2 hx (hb hby d21_41) rfl rfl (pc' := 42) ?_
  refine si2b X2 hx (hb hby d21_42) rfl rfl (pc' := 43) ?_
  obtain ⟨T3, h3, X3, e3, W3, V3, st3⟩ := PD.stB X2 hx hZ e2 (j := (i <<< ((1 : Int32) &&& 31))) (by omega) (g := (mkF m 43 #[.val (.ref d), .val (.int ((i <<< ((1 : Int32) &&& 31)) + (1 : Int32))), .val (.int ch)] [(.int (((ch >>> ((0 : Int32) &&& 31))).toInt8.toInt32)), (.int (i <<< ((1 : Int32) &&& 31))), (.ref d)])) rfl rfl (hb hby d21_43)
  refine oOn st3 ?_
  have z4 : h0.size ≤ h3.size := Nat.le_of_eq W3.size.symm
  have N3 := Fr.snoc X3 N0 (by omega)
  show oGl p e below (T3.setTop (mkF m 44 #[.val (.ref d), .val (.int ((i <<< ((1 : Int32) &&& 31)) + (1 : Int32))), .val (.int ch)] [])) _
  refine saloadN X3 hx (hb hby d21_44) rfl rfl rfl (pc' := 45) ?_
  refine siloadN X3 hx (hb hby d21_45) rfl rfl (pc' := 46) ?_
  refine siloadN X3 hx (hb hby d21_46) rfl rfl (pc' := 47) ?_
  have f5 := (O0.wr W3 (by omega))
  obtain ⟨T6, X6, e6, st6⟩ := getS2 X3 hx hZ hown (host := "") (Or.inl (hw _ (List.mem_of_getElem? (i := 98) rfl))) Via.refl e3 (SLO.ext f5.2) (g := (mkF m 47 #[.val (.ref d), .val (.int ((i <<< ((1 : Int32) &&& 31)) + (1 : Int32))), .val (.int ch)] [(.int ch), (.int ((i <<< ((1 : Int32) &&& 31)) + (1 : Int32))), (.ref d)])) rfl (hb hby d21_47)
  refine oOn st6 ?_
  show oGl p e below (T6.setTop (mkF m 50 #[.val (.ref d), .val (.int ((i <<< ((1 : Int32) &&& 31)) + (1 : Int32))), .val (.int ch)] [(.int (8 : Int32)), (.int ch), (.int ((i <<< ((1 : Int32) &&& 31)) + (1 : Int32))), (.ref d)])) _
  refine sishr X6 hx (hb hby d21_50) rfl rfl (pc' := 51) ?_
  refine si2b X6 hx (hb hby d21_51) rfl rfl (pc' := 52) ?_
  obtain ⟨T7, h7, X7, e7, W7, V7, st7⟩ := V3.stB X6 hx hZ e6 (j := ((i <<< ((1 : Int32) &&& 31)) + (1 : Int32))) (by omega) (g := (mkF m 52 #[.val (.ref d), .val (.int ((i <<< ((1 : Int32) &&& 31)) + (1 : Int32))), .val (.int ch)] [(.int (((ch >>> ((8 : Int32) &&& 31))).toInt8.toInt32)), (.int ((i <<< ((1 : Int32) &&& 31)) + (1 : Int32))), (.ref d)])) rfl rfl (hb hby d21_52)
  refine oOn st7 ?_
  have z8 : h3.size ≤ h7.size := Nat.le_of_eq W7.size.symm
  have N7 := Fr.snoc X7 N3 (by omega)
  show oGl p e below (T7.setTop (mkF m 53 #[.val (.ref d), .val (.int ((i <<< ((1 : Int32) &&& 31)) + (1 : Int32))), .val (.int ch)] [])) _
  have kp9 : Keep h0 h7 [d] := (((Keep.refl h0 [d]).wr W3 (Or.inl (List.mem_of_getElem? (i := 0) rfl))).wr W7 (Or.inl (List.mem_of_getElem? (i := 0) rfl)))
  have hfin := V7
  rw [eA, eB] at hfin
  refine oRet0 X7 hx Bd.notSynchronized Bd.returns (hb hby d21_53) (by decide) (by decide) ?_
  show Q_rmPut Z d n i ch g cz sf h0 n0 _ T7.heap _
  rw [e7]
  exact ⟨rfl, N7, kp9, hfin⟩
theorem d18_0 : decode jdk_52_method_14_code 0 = .ok (.iload_n 2, 1) := by decide +kernel
theorem d18_1 : decode jdk_52_method_14_code 1 = .ok (.invokestatic 107, 3) := by decide +kernel
theorem pd_1 : parseMethodDescriptor "(I)[B" = some ⟨[.int], some (.array .byte)⟩ := by decide +kernel
theorem d18_4 : decode jdk_52_method_14_code 4 = .ok (.astore_n 3, 1) := by decide +kernel
theorem d18_5 : decode jdk_52_method_14_code 5 = .ok (.iconst 0, 1) := by decide +kernel
theorem d18_6 : decode jdk_52_method_14_code 6 = .ok (.istore 4, 2) := by decide +kernel
theorem d18_8 : decode jdk_52_method_14_code 8 = .ok (.iload 4, 2) := by decide +kernel
theorem d18_10 : decode jdk_52_method_14_code 10 = .ok (.iload_n 2, 1) := by decide +kernel
theorem d18_11 : decode jdk_52_method_14_code 11 = .ok (.if_icmp .ge 21, 3) := by decide +kernel
theorem d18_14 : decode jdk_52_method_14_code 14 = .ok (.aload_n 3, 1) := by decide +kernel
theorem d18_15 : decode jdk_52_method_14_code 15 = .ok (.iload 4, 2) := by decide +kernel
theorem d18_17 : decode jdk_52_method_14_code 17 = .ok (.aload_n 0, 1) := by decide +kernel
theorem d18_18 : decode jdk_52_method_14_code 18 = .ok (.iload_n 1, 1) := by decide +kernel
theorem d18_19 : decode jdk_52_method_14_code 19 = .ok (.caload, 1) := by decide +kernel
theorem d18_20 : decode jdk_52_method_14_code 20 = .ok (.invokestatic 111, 3) := by decide +kernel
theorem pd_2 : parseMethodDescriptor "([BII)V" = some ⟨[(.array .byte), .int, .int], none⟩ := by decide +kernel
theorem d18_23 : decode jdk_52_method_14_code 23 = .ok (.iinc 1 1, 3) := by decide +kernel
theorem d18_26 : decode jdk_52_method_14_code 26 = .ok (.iinc 4 1, 3) := by decide +kernel
theorem d18_29 : decode jdk_52_method_14_code 29 = .ok (.goto (-21), 3) := by decide +kernel
theorem d18_32 : decode jdk_52_method_14_code 32 = .ok (.aload_n 3, 1) := by decide +kernel
theorem d18_33 : decode jdk_52_method_14_code 33 = .ok (.areturn, 1) := by decide +kernel
theorem ef_rmTob (m : MethodId) (x0 : Nat) (x1 : Int32) (x2 : Int32)  : entryFrame m #[(.ref x0), (.int x1), (.int x2)] 5 = mkF m 0 #[.val (.ref x0), .val (.int x1), .val (.int x2), .unset, .unset] [] := by first | (simp [entryFrame, mkF, argsToLocals, Value.category, maxLocals]; done) | rfl
def Q_rmTob (Z : State) (a n : Nat) (f : Nat → Int32) (cz : Int32) (sf : Value) (h0 : Heap) (n0 : Nat) (vv : Option Value) (h : Heap) (L : List Loc) : Prop := ∃ d : Nat, vv = some (.ref d) ∧ Fr n0 L ∧ Keep h0 h [] ∧ h0.size ≤ d ∧ oAI Z h d .byte (2 * n) (oU f)
set_option maxRecDepth 65536 in
set_option maxHeartbeats 40000000 in
theorem rmTob (l : Launch) (Z : State) (a0 : Array Value) (hw : ∀ d ∈ tables_1, d.before a0 Z = true) (ws : List Jvm.Cond) (a n : Nat) (f : Nat → Int32) (cz : Int32) (sf : Value) (h0 : Heap) (n0 : Nat) (Z0 : n0 ≤ h0.size) (O0 : Old Z n0 h0) (SCS : Sta Z Z.heap "java/lang/String" "COMPACT_STRINGS" "Z" (.int cz)) (hcz : ¬ cz = (0 : Int32)) (SSF : Sta Z Z.heap "jdk/internal/util/Preconditions" "SIOOBE_FORMATTER" "Ljava/util/function/BiFunction;" sf) (hsf : sf.isRef = true) (SAD : Sta Z Z.heap "java/lang/StringUTF16" "$assertionsDisabled" "Z" (.int 1)) (SHI : Sta Z Z.heap "java/lang/StringUTF16" "HI_BYTE_SHIFT" "I" (.int 0)) (SLO : Sta Z Z.heap "java/lang/StringUTF16" "LO_BYTE_SHIFT" "I" (.int 8)) (hn : n < 1000000) (hcap : n ≤ 65) (PV : oAI Z h0 a .char n f) :
    MetFree l (⟨"java/lang/StringUTF16", "toBytes", "([CII)[B"⟩ : MethodName) (head1 (Jvm.Cond.code (⟨"java/lang/StringUTF16", "toBytes", "([CII)[B"⟩ : MethodName) jdk_52_method_14_code 5 (some (.array .byte)) :: ws) ({ frames := 2, cells := 1, slots := 130, locals := 24 } : Room)) (fun aA uU => aA = #[(.ref a), (.int (0 : Int32)), (.int (Int32.ofNat n))] ∧ Z.Warmed39 uU.vm ∧ uU.heap = h0) (fun _ _ _ _ _ => True) (fun _ uU oO uU' => ∃ vV lL, oO = .returned vV ∧ Q_rmTob Z a n f cz sf h0 n0 vV uU'.heap lL ∧ FrameEnd uU oO uU' lL ({ frames := 2, cells := 1, slots := 130, locals := 24 } : Room).cells ({ frames := 2, cells := 1, slots := 130, locals := 24 } : Room).slots) := by
  refine MetFree.of_bodySF (plainFor_of_name pn_StringUTF16) hisR ?_
  intro p e s m args below meth c s₁ Bd hml0 hP hK
  obtain ⟨rfl, hZ, hh⟩ := hP
  have hx := Bd.exec
  have hby := Bd.bytes
  have hml : c.maxLocals = 5 := hml0
  have hown : s.vm.findClass "java/lang/StringUTF16" = some m.cls := findClass_of_methodNamed Bd.named
  have hnm := (name_of_methodNamed Bd.named Bd.method).1
  have X0 : Stand p l e ({ frames := 2, cells := 1, slots := 130, locals := 24 } : Room) s m #[(.ref a), (.int (0 : Int32)), (.int (Int32.ofNat n))] below meth c s₁ [] 0 0 := Stand.of_body Bd
  have e0 : s₁.heap = h0 := by rw [← hh, Bd.state]; rfl
  have N0 := Fr.nil n0
  have lA : @LT.lt Nat _ a h0.size := PV.lt
  refine oEnter (oCast (ef_rmTob m a (0 : Int32) (Int32.ofNat n) ) ?_)
  show oGl p e below (s₁.setTop (mkF m 0 #[.val (.ref a), .val (.int (0 : Int32)), .val (.int (Int32.ofNat n)), .unset, .unset] [])) _
  refine siloadN X0 hx (hb hby d18_0) rfl rfl (pc' := 1) ?_
  have hz1 : n0 ≤ h0.size := by omega
  obtain ⟨_, _, ⟨T1, L1, k1, n1⟩, -, X1, ⟨Lc1, hQ1, l1, y1, z1⟩, st1⟩ := Jvm.LawKit.callS X0 hx (y := (⟨"java/lang/StringUTF16", "newBytesFor", "(I)[B"⟩ : MethodName)) hown (mvT hZ (hw _ (List.mem_of_getElem? (i := 86) rfl))) (mvT hZ (hw _ (List.mem_of_getElem? (i := 87) rfl))) (mvT hZ (hw _ (List.mem_of_getElem? (i := 39) rfl))) (mvT hZ (hw _ (List.mem_of_getElem? (i := 88) rfl))) (by decide) (backOf (W := 0) (rmNbf l Z a0 hw [] n h0 n0 hz1 hn hcap) hZ (hw _ (List.mem_of_getElem? (i := 88) rfl)) (hw _ (List.mem_of_getElem? (i := 39) rfl)) (by decide) (by decide)) (g := (mkF m 1 #[.val (.ref a), .val (.int (0 : Int32)), .val (.int (Int32.ofNat n)), .unset, .unset] [(.int (Int32.ofNat n))])) rfl (by rw [hml]; rfl) (argsL := [(.int (Int32.ofNat n))]) (rest := []) (lenOf pd_1 rfl) rfl (by show 2 * 0 + _ ≤ _; exact Nat.le_of_eq rfl) (hb hby d18_1) (fun _ _ => ⟨rfl, e0, (by decide : 0 + 1 ≤ _), (by decide : 0 + 130 ≤ _)⟩)
  dsimp only [Pt.U, Pt.locs, Pt.cells, Pt.slots] at X1 l1 y1 z1 st1 hQ1
  subst l1 y1 z1
  obtain ⟨d1, rfl, N1q, K1, zd1, Vd1⟩ := hQ1
  have N1 := Fr.app N0 N1q
  have z2 : h0.size ≤ T1.heap.size := K1.1
  refine oOn st1 ?_
  have ld1 : @LT.lt Nat _ d1 T1.heap.size := Vd1.lt
  show oGl p e below (T1.setTop (mkF m 4 #[.val (.ref a), .val (.int (0 : Int32)), .val (.int (Int32.ofNat n)), .unset, .unset] [(.ref d1)])) _
  refine sastoreN X1 hx (hb hby d18_4) rfl rfl rfl (l' := #[.val (.ref a), .val (.int (0 : Int32)), .val (.int (Int32.ofNat n)), .val (.ref d1), .unset]) (pc' := 5) ?_
  refine siconst X1 hx (hb hby d18_5) rfl rfl (z := 0) (pc' := 6) ?_
  refine sistore X1 hx (hb hby d18_6) rfl rfl (l' := #[.val (.ref a), .val (.int (0 : Int32)), .val (.int (Int32.ofNat n)), .val (.ref d1), .val (.int (0 : Int32))]) (pc' := 8) ?_
  have lp8 : ∀ (kF : Nat) (i : Int32) (g : Nat → Int32) (T : State) (locs : List Loc) (X : Stand p l e ({ frames := 2, cells := 1, slots := 130, locals := 24 } : Room) s m #[(.ref a), (.int (0 : Int32)), (.int (Int32.ofNat n))] below meth c T locs 1 130) (hh : Heap) (eT : T.heap = hh) (N : Fr n0 locs) (hzh : n0 ≤ hh.size) (Kp : Keep h0 hh [d1]) (Oo : Old Z n0 hh) (fa0 : oAI Z hh a .char n f) (fa1 : oAI Z hh d1 .byte (2 * n) g) (hm : (n - i.toInt.toNat) < kF) (hi : 0 ≤ i.toInt ∧ i.toInt ≤ n ∧ ∀ j : Nat, (j : Int) < 2 * i.toInt → g j = oU f j), oGl p e below (T.setTop (mkF m 8 #[.val (.ref a), .val (.int i), .val (.int (Int32.ofNat n)), .val (.ref d1), .val (.int i)] [])) (oFin s below (Q_rmTob Z a n f cz sf h0 n0) ({ frames := 2, cells := 1, slots := 130, locals := 24 } : Room).cells ({ frames := 2, cells := 1, slots := 130, locals := 24 } : Room).slots) := by
    intro kF
    induction kF with
    | zero => intro i g T locs X hh eT N hzh Kp Oo fa0 fa1 hm hi; exact absurd hm (Nat.not_lt_zero _)
    | succ kF ih =>
      intro i g T locs X hh eT N hzh Kp Oo fa0 fa1 hm hi
      have lfa0 : @LT.lt Nat _ a hh.size := fa0.lt
      have lfa1 : @LT.lt Nat _ d1 hh.size := fa1.lt
      refine siload X hx (hb hby d18_8) rfl rfl (pc' := 10) ?_
      refine siloadN X hx (hb hby d18_10) rfl rfl (pc' := 11) ?_
      by_cases hc11 : i < (Int32.ofNat n)
      · skip
        refine sicN X hx (hb hby d18_11) rfl (tlt hc11).2.1 (pc' := 14) ?_
        have hlt := Int32.lt_iff_toInt_lt.mp hc11
        rw [own_ofNat (by omega)] at hlt
        refine saloadN X hx (hb hby d18_14) rfl rfl rfl (pc' := 15) ?_
        refine siload X hx (hb hby d18_15) rfl rfl (pc' := 17) ?_
        refine saloadN X hx (hb hby d18_17) rfl rfl rfl (pc' := 18) ?_
        refine siloadN X hx (hb hby d18_18) rfl rfl (pc' := 19) ?_
        refine oOn (fa0.ldC X hx hZ eT (j := i) ⟨by omega, by omega⟩ (g := (mkF m 19 #[.val (.ref a), .val (.int i), .val (.int (Int32.ofNat n)), .val (.ref d1), .val (.int i)] [(.int i), (.ref a), (.int i), (.ref d1)])) rfl rfl (hb hby d18_19)) ?_
        show oGl p e below (T.setTop (mkF m 20 #[.val (.ref a), .val (.int i), .val (.int (Int32.ofNat n)), .val (.ref d1), .val (.int i)] [(.int (f i.toInt.toNat)), (.int i), (.ref d1)])) _
        have hz3 : n0 ≤ hh.size := by omega
        obtain ⟨_, _, ⟨T3, L3, k3, n3⟩, -, X3, ⟨Lc3, hQ3, l3, y3, z3⟩, st3⟩ := Jvm.LawKit.callS X hx (y := (⟨"java/lang/StringUTF16", "putChar", "([BII)V"⟩ : MethodName)) hown (mvT hZ (hw _ (List.mem_of_getElem? (i := 93) rfl))) (mvT hZ (hw _ (List.mem_of_getElem? (i := 94) rfl))) (mvT hZ (hw _ (List.mem_of_getElem? (i := 39) rfl))) (mvT hZ (hw _ (List.mem_of_getElem? (i := 95) rfl))) (by decide) (backOf (W := 0) (rmPut l Z a0 hw [] d1 n i (f i.toInt.toNat) g cz sf hh n0 hz3 Oo SCS hcz SSF hsf SAD SHI SLO hn fa1 (by omega) ⟨by omega, by omega⟩) hZ (hw _ (List.mem_of_getElem? (i := 95) rfl)) (hw _ (List.mem_of_getElem? (i := 39) rfl)) (by decide) (by decide)) (g := (mkF m 20 #[.val (.ref a), .val (.int i), .val (.int (Int32.ofNat n)), .val (.ref d1), .val (.int i)] [(.int (f i.toInt.toNat)), (.int i), (.ref d1)])) rfl (by rw [hml]; rfl) (argsL := [(.ref d1), (.int i), (.int (f i.toInt.toNat))]) (rest := []) (lenOf pd_2 rfl) rfl (by show 2 * 0 + _ ≤ _; exact Nat.le_of_eq rfl) (hb hby d18_20) (fun _ _ => ⟨rfl, eT, (by decide : 1 + 0 ≤ _), (by decide : 130 + 0 ≤ _)⟩)
        dsimp only [Pt.U, Pt.locs, Pt.cells, Pt.slots] at X3 l3 y3 z3 st3 hQ3
        subst l3 y3 z3
        obtain ⟨rfl, N3q, K3, Vp3⟩ := hQ3
        have N3 := Fr.app N N3q
        have z4 : hh.size ≤ T3.heap.size := K3.1
        refine oOn st3 ?_
        show oGl p e below (T3.setTop (mkF m 23 #[.val (.ref a), .val (.int i), .val (.int (Int32.ofNat n)), .val (.ref d1), .val (.int i)] [])) _
        refine siinc X3 hx (hb hby d18_23) rfl rfl rfl (l' := #[.val (.ref a), .val (.int (i + (1 : Int32))), .val (.int (Int32.ofNat n)), .val (.ref d1), .val (.int i)]) (pc' := 26) ?_
        refine siinc X3 hx (hb hby d18_26) rfl rfl rfl (l' := #[.val (.ref a), .val (.int (i + (1 : Int32))), .val (.int (Int32.ofNat n)), .val (.ref d1), .val (.int (i + (1 : Int32)))]) (pc' := 29) ?_
        refine sgoto X3 hx (hb hby d18_29) (by decide) (by decide)  (pc' := 8) ?_
        have hi1 := own_incS (x := i) (by omega)
        have hzb : n0 ≤ T3.heap.size := by omega
        have kp5 : Keep h0 T3.heap [d1] := (Kp.trans K3 (allS (Or.inl (List.mem_of_getElem? (i := 0) rfl)) all0))
        have f6 := (Oo.keep K3 (allS (by omega) all0))
        have f7 := (fa0.keep K3 (ninS (oNe (by omega)) nin0))
        exact ih (i + (1 : Int32)) (oUp (oUp g (2 * i.toInt.toNat) (oB0 (f i.toInt.toNat))) (2 * i.toInt.toNat + 1) (oB1 (f i.toInt.toNat))) _ _ X3 _ rfl N3 hzb kp5 f6 f7 Vp3 (by omega) ⟨by omega, by omega, fun j hj => by
          by_cases q : j = 2 * i.toInt.toNat + 1
          · subst q; rw [oUp_hit, oU_o]
          · rw [oUp_miss q]
            by_cases q2 : j = 2 * i.toInt.toNat
            · subst q2; rw [oUp_hit, oU_e]
            · rw [oUp_miss q2]; exact hi.2.2 j (by omega)⟩
      · skip
        refine sicY X hx (hb hby d18_11) (by decide) (by decide) (flt hc11).2.1 (pc' := 32) ?_
        refine saloadN X hx (hb hby d18_32) rfl rfl rfl (pc' := 33) ?_
        have hge : ¬ i.toInt < (Int32.ofNat n).toInt := fun q => hc11 (Int32.lt_iff_toInt_lt.mpr q)
        rw [own_ofNat (by omega)] at hge
        have kp8 : Keep h0 hh [d1] := Kp
        refine oRetR X hx Bd.notSynchronized Bd.returns rfl rfl (hb hby d18_33) (by decide) (by decide) ?_
        show Q_rmTob Z a n f cz sf h0 n0 _ T.heap _
        rw [eT]
        exact ⟨d1, rfl, N, oKeepNil kp8 (by omega), by omega, fa1.congr (fun j hj => hi.2.2 j (by omega))⟩
  have hzb : n0 ≤ T1.heap.size := by omega
  have kp9 : Keep h0 T1.heap [d1] := ((Keep.refl h0 [d1]).trans K1 all0)
  have f10 := (O0.keep K1 all0)
  have f11 := (PV.keep K1 nin0)
  exact lp8 _ 0 (fun _ => 0) _ _ X1 _ rfl N1 hzb kp9 f10 f11 Vd1 (Nat.lt_succ_self _) ⟨by decide, by have e0 : (0 : Int32).toInt = 0 := rfl; omega, fun j hj => by have e0 : (0 : Int32).toInt = 0 := rfl; omega⟩
theorem d22_0 : decode jdk_52_method_5_code 0 = .ok (.getstatic 44, 3) := by decide +kernel
theorem d22_3 : decode jdk_52_method_5_code 3 = .ok (.ifCond .ne 25, 3) := by decide +kernel
theorem d22_28 : decode jdk_52_method_5_code 28 = .ok (.iload_n 1, 1) := by decide +kernel
theorem d22_29 : decode jdk_52_method_5_code 29 = .ok (.iconst 1, 1) := by decide +kernel
theorem d22_30 : decode jdk_52_method_5_code 30 = .ok (.ishl, 1) := by decide +kernel
theorem d22_31 : decode jdk_52_method_5_code 31 = .ok (.istore_n 1, 1) := by decide +kernel
theorem d22_32 : decode jdk_52_method_5_code 32 = .ok (.aload_n 0, 1) := by decide +kernel
theorem d22_33 : decode jdk_52_method_5_code 33 = .ok (.iload_n 1, 1) := by decide +kernel
theorem d22_34 : decode jdk_52_method_5_code 34 = .ok (.iinc 1 1, 3) := by decide +kernel
theorem d22_37 : decode jdk_52_method_5_code 37 = .ok (.baload, 1) := by decide +kernel
theorem d22_38 : decode jdk_52_method_5_code 38 = .ok (.sipush 255, 3) := by decide +kernel
theorem d22_41 : decode jdk_52_method_5_code 41 = .ok (.iand, 1) := by decide +kernel
theorem d22_42 : decode jdk_52_method_5_code 42 = .ok (.getstatic 59, 3) := by decide +kernel
theorem d22_45 : decode jdk_52_method_5_code 45 = .ok (.ishl, 1) := by decide +kernel
theorem d22_46 : decode jdk_52_method_5_code 46 = .ok (.aload_n 0, 1) := by decide +kernel
theorem d22_47 : decode jdk_52_method_5_code 47 = .ok (.iload_n 1, 1) := by decide +kernel
theorem d22_48 : decode jdk_52_method_5_code 48 = .ok (.baload, 1) := by decide +kernel
theorem d22_49 : decode jdk_52_method_5_code 49 = .ok (.sipush 255, 3) := by decide +kernel
theorem d22_52 : decode jdk_52_method_5_code 52 = .ok (.iand, 1) := by decide +kernel
theorem d22_53 : decode jdk_52_method_5_code 53 = .ok (.getstatic 63, 3) := by decide +kernel
theorem d22_56 : decode jdk_52_method_5_code 56 = .ok (.ishl, 1) := by decide +kernel
theorem d22_57 : decode jdk_52_method_5_code 57 = .ok (.ior, 1) := by decide +kernel
theorem d22_58 : decode jdk_52_method_5_code 58 = .ok (.i2c, 1) := by decide +kernel
theorem d22_59 : decode jdk_52_method_5_code 59 = .ok (.ireturn, 1) := by decide +kernel
theorem ef_rmGet (m : MethodId) (x0 : Nat) (x1 : Int32)  : entryFrame m #[(.ref x0), (.int x1)] 2 = mkF m 0 #[.val (.ref x0), .val (.int x1)] [] := by first | (simp [entryFrame, mkF, argsToLocals, Value.category, maxLocals]; done) | rfl
def Q_rmGet (Z : State) (d n : Nat) (i : Int32) (f : Nat → Int32) (cz : Int32) (sf : Value) (h0 : Heap) (n0 : Nat) (vv : Option Value) (h : Heap) (L : List Loc) : Prop := vv = some (.int (f i.toInt.toNat)) ∧ Fr n0 L ∧ h = h0
set_option maxRecDepth 65536 in
set_option maxHeartbeats 40000000 in
theorem rmGet (l : Launch) (Z : State) (a0 : Array Value) (hw : ∀ d ∈ tables_1, d.before a0 Z = true) (ws : List Jvm.Cond) (d n : Nat) (i : Int32) (f : Nat → Int32) (cz : Int32) (sf : Value) (h0 : Heap) (n0 : Nat) (Z0 : n0 ≤ h0.size) (O0 : Old Z n0 h0) (SCS : Sta Z Z.heap "java/lang/String" "COMPACT_STRINGS" "Z" (.int cz)) (hcz : ¬ cz = (0 : Int32)) (SSF : Sta Z Z.heap "jdk/internal/util/Preconditions" "SIOOBE_FORMATTER" "Ljava/util/function/BiFunction;" sf) (hsf : sf.isRef = true) (SAD : Sta Z Z.heap "java/lang/StringUTF16" "$assertionsDisabled" "Z" (.int 1)) (SHI : Sta Z Z.heap "java/lang/StringUTF16" "HI_BYTE_SHIFT" "I" (.int 0)) (SLO : Sta Z Z.heap "java/lang/StringUTF16" "LO_BYTE_SHIFT" "I" (.int 8)) (hn : n < 1000000) (PD : oAI Z h0 d .byte (2 * n) (oU f)) (hi : 0 ≤ i.toInt ∧ i.toInt < n) (hr : 0 ≤ (f i.toInt.toNat).toInt ∧ (f i.toInt.toNat).toInt < 65536) :
    MetFree l (⟨"java/lang/StringUTF16", "getChar", "([BI)C"⟩ : MethodName) (head1 (Jvm.Cond.code (⟨"java/lang/StringUTF16", "getChar", "([BI)C"⟩ : MethodName) jdk_52_method_5_code 2 (some .char) :: ws) ({ frames := 0, cells := 0, slots := 0, locals := 0 } : Room)) (fun aA uU => aA = #[(.ref d), (.int i)] ∧ Z.Warmed39 uU.vm ∧ uU.heap = h0) (fun _ _ _ _ _ => True) (fun _ uU oO uU' => ∃ vV lL, oO = .returned vV ∧ Q_rmGet Z d n i f cz sf h0 n0 vV uU'.heap lL ∧ FrameEnd uU oO uU' lL ({ frames := 0, cells := 0, slots := 0, locals := 0 } : Room).cells ({ frames := 0, cells := 0, slots := 0, locals := 0 } : Room).slots) := by
  refine MetFree.of_bodySF (plainFor_of_name pn_StringUTF16) hisR ?_
  intro p e s m args below meth c s₁ Bd hml0 hP hK
  obtain ⟨rfl, hZ, hh⟩ := hP
  have hx := Bd.exec
  have hby := Bd.bytes
  have hml : c.maxLocals = 2 := hml0
  have hown : s.vm.findClass "java/lang/StringUTF16" = some m.cls := findClass_of_methodNamed Bd.named
  have hnm := (name_of_methodNamed Bd.named Bd.method).1
  have X0 : Stand p l e ({ frames := 0, cells := 0, slots := 0, locals := 0 } : Room) s m #[(.ref d), (.int i)] below meth c s₁ [] 0 0 := Stand.of_body Bd
  have e0 : s₁.heap = h0 := by rw [← hh, Bd.state]; rfl
  have N0 := Fr.nil n0
  have hs1 := own_shl1 (i := i) (by omega)
  have hs2 := own_incS (x := (i <<< ((1 : Int32) &&& 31))) (by omega)
  have eA : (i <<< ((1 : Int32) &&& 31)).toInt.toNat = 2 * i.toInt.toNat := by omega
  have eB : ((i <<< ((1 : Int32) &&& 31)) + (1 : Int32)).toInt.toNat = 2 * i.toInt.toNat + 1 := by omega
  have lD : @LT.lt Nat _ d h0.size := PD.lt
  refine oEnter (oCast (ef_rmGet m d i ) ?_)
  show oGl p e below (s₁.setTop (mkF m 0 #[.val (.ref d), .val (.int i)] [])) _
  obtain ⟨T1, X1, e1, st1⟩ := getS2 X0 hx hZ hown (host := "") (Or.inl (hw _ (List.mem_of_getElem? (i := 96) rfl))) Via.refl e0 (SAD.ext O0.2) (g := (mkF m 0 #[.val (.ref d), .val (.int i)] [])) rfl (hb hby d22_0)
  refine oOn st1 ?_
  show oGl p e below (T1.setTop (mkF m 3 #[.val (.ref d), .val (.int i)] [(.int (1 : Int32))])) _
  refine sifY X1 hx (hb hby d22_3) (by decide) (by decide) (feq (by decide : ¬ ((1 : Int32) = (0 : Int32)))).2 (pc' := 28) ?_
  refine siloadN X1 hx (hb hby d22_28) rfl rfl (pc' := 29) ?_
  refine siconst X1 hx (hb hby d22_29) rfl rfl (z := 1) (pc' := 30) ?_
  refine sishl X1 hx (hb hby d22_30) rfl rfl (pc' := 31) ?_
  refine sistoreN X1 hx (hb hby d22_31) rfl rfl (l' := #[.val (.ref d), .val (.int (i <<< ((1 : Int32) &&& 31)))]) (pc' := 32) ?_
  refine saloadN X1 hx (hb hby d22_32) rfl rfl rfl (pc' := 33) ?_
  refine siloadN X1 hx (hb hby d22_33) rfl rfl (pc' := 34) ?_
  refine siinc X1 hx (hb hby d22_34) rfl rfl rfl (l' := #[.val (.ref d), .val (.int ((i <<< ((1 : Int32) &&& 31)) + (1 : Int32)))]) (pc' := 37) ?_
  refine oOn (PD.ldB X1 hx hZ e1 (j := (i <<< ((1 : Int32) &&& 31))) (by omega) (g := (mkF m 37 #[.val (.ref d), .val (.int ((i <<< ((1 : Int32) &&& 31)) + (1 : Int32)))] [(.int (i <<< ((1 : Int32) &&& 31))), (.ref d)])) rfl rfl (hb hby d22_37)) ?_
  show oGl p e below (T1.setTop (mkF m 38 #[.val (.ref d), .val (.int ((i <<< ((1 : Int32) &&& 31)) + (1 : Int32)))] [(.int ((oU f) (i <<< ((1 : Int32) &&& 31)).toInt.toNat))])) _
  refine ssipush X1 hx (hb hby d22_38) rfl rfl (z := 255) (pc' := 41) ?_
  refine siand X1 hx (hb hby d22_41) rfl rfl (pc' := 42) ?_
  obtain ⟨T2, X2, e2, st2⟩ := getS2 X1 hx hZ hown (host := "") (Or.inl (hw _ (List.mem_of_getElem? (i := 97) rfl))) Via.refl e1 (SHI.ext O0.2) (g := (mkF m 42 #[.val (.ref d), .val (.int ((i <<< ((1 : Int32) &&& 31)) + (1 : Int32)))] [(.int (((oU f) (i <<< ((1 : Int32) &&& 31)).toInt.toNat) &&& (255 : Int32)))])) rfl (hb hby d22_42)
  refine oOn st2 ?_
  show oGl p e below (T2.setTop (mkF m 45 #[.val (.ref d), .val (.int ((i <<< ((1 : Int32) &&& 31)) + (1 : Int32)))] [(.int (0 : Int32)), (.int (((oU f) (i <<< ((1 : Int32) &&& 31)).toInt.toNat) &&& (255 : Int32)))])) _
  refine sishl X2 hx (hb hby d22_45) rfl rfl (pc' := 46) ?_
  refine saloadN X2 hx (hb hby d22_46) rfl rfl rfl (pc' := 47) ?_
  refine siloadN X2 hx (hb hby d22_47) rfl rfl (pc' := 48) ?_
  refine oOn (PD.ldB X2 hx hZ e2 (j := ((i <<< ((1 : Int32) &&& 31)) + (1 : Int32))) (by omega) (g := (mkF m 48 #[.val (.ref d), .val (.int ((i <<< ((1 : Int32) &&& 31)) + (1 : Int32)))] [(.int ((i <<< ((1 : Int32) &&& 31)) + (1 : Int32))), (.ref d), (.int ((((oU f) (i <<< ((1 : Int32) &&& 31)).toInt.toNat) &&& (255 : Int32)) <<< ((0 : Int32) &&& 31)))])) rfl rfl (hb hby d22_48)) ?_
  show oGl p e below (T2.setTop (mkF m 49 #[.val (.ref d), .val (.int ((i <<< ((1 : Int32) &&& 31)) + (1 : Int32)))] [(.int ((oU f) ((i <<< ((1 : Int32) &&& 31)) + (1 : Int32)).toInt.toNat)), (.int ((((oU f) (i <<< ((1 : Int32) &&& 31)).toInt.toNat) &&& (255 : Int32)) <<< ((0 : Int32) &&& 31)))])) _
  refine ssipush X2 hx (hb hby d22_49) rfl rfl (z := 255) (pc' := 52) ?_
  refine siand X2 hx (hb hby d22_52) rfl rfl (pc' := 53) ?_
  obtain ⟨T3, X3, e3, st3⟩ := getS2 X2 hx hZ hown (host := "") (Or.inl (hw _ (List.mem_of_getElem? (i := 98) rfl))) Via.refl e2 (SLO.ext O0.2) (g := (mkF m 53 #[.val (.ref d), .val (.int ((i <<< ((1 : Int32) &&& 31)) + (1 : Int32)))] [(.int (((oU f) ((i <<< ((1 : Int32) &&& 31)) + (1 : Int32)).toInt.toNat) &&& (255 : Int32))), (.int ((((oU f) (i <<< ((1 : Int32) &&& 31)).toInt.toNat) &&& (255 : Int32)) <<< ((0 : Int32) &&& 31)))])) rfl (hb hby d22_53)
  refine oOn st3 ?_
  show oGl p e below (T3.setTop (mkF m 56 #[.val (.ref d), .val (.int ((i <<< ((1 : Int32) &&& 31)) + (1 : Int32)))] [(.int (8 : Int32)), (.int (((oU f) ((i <<< ((1 : Int32) &&& 31)) + (1 : Int32)).toInt.toNat) &&& (255 : Int32))), (.int ((((oU f) (i <<< ((1 : Int32) &&& 31)).toInt.toNat) &&& (255 : Int32)) <<< ((0 : Int32) &&& 31)))])) _
  refine sishl X3 hx (hb hby d22_56) rfl rfl (pc' := 57) ?_
  refine sior X3 hx (hb hby d22_57) rfl rfl (pc' := 58) ?_
  refine si2c X3 hx (hb hby d22_58) rfl rfl (pc' := 59) ?_
  have g1 : oU f (i <<< ((1 : Int32) &&& 31)).toInt.toNat = oB0 (f i.toInt.toNat) := by rw [eA]; exact oU_e
  have g2 : oU f ((i <<< ((1 : Int32) &&& 31)) + (1 : Int32)).toInt.toNat = oB1 (f i.toInt.toNat) := by rw [eB]; exact oU_o
  rw [g1, g2]
  refine oRetN (t := .char) X3 hx Bd.notSynchronized Bd.returns (by simp) (hb hby d22_59) (by decide) (by decide) ?_
  show Q_rmGet Z d n i f cz sf h0 n0 _ T3.heap _
  rw [e3]
  exact ⟨congrArg (fun z => some (Value.int z)) (own_rt _ hr), N0, rfl⟩
def oLat (f : Nat → Int32) (n : Nat) : Prop := ∀ j : Nat, j < n → ¬ (255 : Int32) < f j
def oChr (f : Nat → Int32) (n : Nat) : Prop := ∀ j : Nat, j < n → 0 ≤ (f j).toInt ∧ (f j).toInt < 65536
/-- x is a String of n chars f, in either coding -/
def oStr (Z : State) (h : Heap) (x n : Nat) (f : Nat → Int32) : Prop := ∃ b : Nat, Fld Z h x "java/lang/String" "value" "[B" (.ref b) ∧ ((Fld Z h x "java/lang/String" "coder" "B" (.int 0) ∧ oAI Z h b .byte n (oLo f) ∧ oLat f n) ∨ (Fld Z h x "java/lang/String" "coder" "B" (.int 1) ∧ oAI Z h b .byte (2 * n) (oU f)))
theorem oStr.ext {Z : State} {h h' : Heap} {x n : Nat} {f : Nat → Int32} (F : oStr Z h x n f) (E : Ext h h') : oStr Z h' x n f := by
  obtain ⟨b, q, ⟨r1, r2, r3⟩ | ⟨r1, r2⟩⟩ := F
  · exact ⟨b, q.ext E, Or.inl ⟨r1.ext E, r2.ext E, r3⟩⟩
  · exact ⟨b, q.ext E, Or.inr ⟨r1.ext E, r2.ext E⟩⟩
theorem d8_0 : decode jdk_52_method_21_code 0 = .ok (.iconst 0, 1) := by decide +kernel
theorem d8_1 : decode jdk_52_method_21_code 1 = .ok (.istore 5, 2) := by decide +kernel
theorem d8_3 : decode jdk_52_method_21_code 3 = .ok (.iload 5, 2) := by decide +kernel
theorem d8_5 : decode jdk_52_method_21_code 5 = .ok (.iload 4, 2) := by decide +kernel
theorem d8_7 : decode jdk_52_method_21_code 7 = .ok (.if_icmp .ge 37, 3) := by decide +kernel
theorem d8_10 : decode jdk_52_method_21_code 10 = .ok (.aload_n 0, 1) := by decide +kernel
theorem d8_11 : decode jdk_52_method_21_code 11 = .ok (.iload_n 1, 1) := by decide +kernel
theorem d8_12 : decode jdk_52_method_21_code 12 = .ok (.caload, 1) := by decide +kernel
theorem d8_13 : decode jdk_52_method_21_code 13 = .ok (.istore 6, 2) := by decide +kernel
theorem d8_15 : decode jdk_52_method_21_code 15 = .ok (.iload 6, 2) := by decide +kernel
theorem d8_17 : decode jdk_52_method_21_code 17 = .ok (.sipush 255, 3) := by decide +kernel
theorem d8_20 : decode jdk_52_method_21_code 20 = .ok (.if_icmp .le 6, 3) := by decide +kernel
theorem d8_23 : decode jdk_52_method_21_code 23 = .ok (.iload 5, 2) := by decide +kernel
theorem d8_25 : decode jdk_52_method_21_code 25 = .ok (.ireturn, 1) := by decide +kernel
theorem d8_26 : decode jdk_52_method_21_code 26 = .ok (.aload_n 2, 1) := by decide +kernel
theorem d8_27 : decode jdk_52_method_21_code 27 = .ok (.iload_n 3, 1) := by decide +kernel
theorem d8_28 : decode jdk_52_method_21_code 28 = .ok (.iload 6, 2) := by decide +kernel
theorem d8_30 : decode jdk_52_method_21_code 30 = .ok (.i2b, 1) := by decide +kernel
theorem d8_31 : decode jdk_52_method_21_code 31 = .ok (.bastore, 1) := by decide +kernel
theorem d8_32 : decode jdk_52_method_21_code 32 = .ok (.iinc 1 1, 3) := by decide +kernel
theorem d8_35 : decode jdk_52_method_21_code 35 = .ok (.iinc 3 1, 3) := by decide +kernel
theorem d8_38 : decode jdk_52_method_21_code 38 = .ok (.iinc 5 1, 3) := by decide +kernel
theorem d8_41 : decode jdk_52_method_21_code 41 = .ok (.goto (-38), 3) := by decide +kernel
theorem d8_44 : decode jdk_52_method_21_code 44 = .ok (.iload 4, 2) := by decide +kernel
theorem d8_46 : decode jdk_52_method_21_code 46 = .ok (.ireturn, 1) := by decide +kernel
theorem ef_rmCmp5 (m : MethodId) (x0 : Nat) (x1 : Int32) (x2 : Nat) (x3 : Int32) (x4 : Int32)  : entryFrame m #[(.ref x0), (.int x1), (.ref x2), (.int x3), (.int x4)] 7 = mkF m 0 #[.val (.ref x0), .val (.int x1), .val (.ref x2), .val (.int x3), .val (.int x4), .unset, .unset] [] := by first | (simp [entryFrame, mkF, argsToLocals, Value.category, maxLocals]; done) | rfl
def Q_rmCmp5 (Z : State) (a d n : Nat) (f g0 : Nat → Int32) (h0 : Heap) (n0 : Nat) (vv : Option Value) (h : Heap) (L : List Loc) : Prop := ∃ i : Int32, vv = some (.int i) ∧ Fr n0 L ∧ Keep h0 h [d] ∧ ((i = Int32.ofNat n ∧ oLat f n ∧ oAI Z h d .byte n (oLo f)) ∨ (¬ i = Int32.ofNat n ∧ 0 ≤ i.toInt ∧ i.toInt < n ∧ (255 : Int32) < f i.toInt.toNat))
set_option maxRecDepth 65536 in
set_option maxHeartbeats 40000000 in
theorem rmCmp5 (l : Launch) (Z : State) (a0 : Array Value) (hw : ∀ d ∈ tables_1, d.before a0 Z = true) (ws : List Jvm.Cond) (a d n : Nat) (f g0 : Nat → Int32) (h0 : Heap) (n0 : Nat) (Z0 : n0 ≤ h0.size) (PV : oAI Z h0 a .char n f) (PD : oAI Z h0 d .byte n g0) (hne : a ≠ d) (gd : n0 ≤ d) :
    MetFree l (⟨"java/lang/StringUTF16", "compress", "([CI[BII)I"⟩ : MethodName) (head1 (Jvm.Cond.code (⟨"java/lang/StringUTF16", "compress", "([CI[BII)I"⟩ : MethodName) jdk_52_method_21_code 7 (some .int) :: ws) ({ frames := 0, cells := 0, slots := 0, locals := 0 } : Room)) (fun aA uU => aA = #[(.ref a), (.int (0 : Int32)), (.ref d), (.int (0 : Int32)), (.int (Int32.ofNat n))] ∧ Z.Warmed39 uU.vm ∧ uU.heap = h0) (fun _ _ _ _ _ => True) (fun _ uU oO uU' => ∃ vV lL, oO = .returned vV ∧ Q_rmCmp5 Z a d n f g0 h0 n0 vV uU'.heap lL ∧ FrameEnd uU oO uU' lL ({ frames := 0, cells := 0, slots := 0, locals := 0 } : Room).cells ({ frames := 0, cells := 0, slots := 0, locals := 0 } : Room).slots) := by
  refine MetFree.of_bodySF (plainFor_of_name pn_StringUTF16) hisR ?_
  intro p e s m args below meth c s₁ Bd hml0 hP hK
  obtain ⟨rfl, hZ, hh⟩ := hP
  have hx := Bd.exec
  have hby := Bd.bytes
  have hml : c.maxLocals = 7 := hml0
  have hown : s.vm.findClass "java/lang/StringUTF16" = some m.cls := findClass_of_methodNamed Bd.named
  have hnm := (name_of_methodNamed Bd.named Bd.method).1
  have X0 : Stand p l e ({ frames := 0, cells := 0, slots := 0, locals := 0 } : Room) s m #[(.ref a), (.int (0 : Int32)), (.ref d), (.int (0 : Int32)), (.int (Int32.ofNat n))] below meth c s₁ [] 0 0 := Stand.of_body Bd
  have e0 : s₁.heap = h0 := by rw [← hh, Bd.state]; rfl
  have N0 := Fr.nil n0
  refine oEnter (oCast (ef_rmCmp5 m a (0 : Int32) d (0 : Int32) (Int32.ofNat n) ) ?_)
  show oGl p e below (s₁.setTop (mkF m 0 #[.val (.ref a), .val (.int (0 : Int32)), .val (.ref d), .val (.int (0 : Int32)), .val (.int (Int32.ofNat n)), .unset, .unset] [])) _
  refine siconst X0 hx (hb hby d8_0) rfl rfl (z := 0) (pc' := 1) ?_
  refine sistore X0 hx (hb hby d8_1) rfl rfl (l' := #[.val (.ref a), .val (.int (0 : Int32)), .val (.ref d), .val (.int (0 : Int32)), .val (.int (Int32.ofNat n)), .val (.int (0 : Int32)), .unset]) (pc' := 3) ?_
  have hn9 := PV.small
  have lA : @LT.lt Nat _ a h0.size := PV.lt
  have lD : @LT.lt Nat _ d h0.size := PD.lt
  have nad : @Ne Nat a d := hne
  have lp3 : ∀ (kF : Nat) (i : Int32) (o6 : Slot) (g : Nat → Int32) (T : State) (locs : List Loc) (X : Stand p l e ({ frames := 0, cells := 0, slots := 0, locals := 0 } : Room) s m #[(.ref a), (.int (0 : Int32)), (.ref d), (.int (0 : Int32)), (.int (Int32.ofNat n))] below meth c T locs 0 0) (hh : Heap) (eT : T.heap = hh) (N : Fr n0 locs) (hzh : n0 ≤ hh.size) (Kp : Keep h0 hh [d]) (fa0 : oAI Z hh a .char n f) (fa1 : oAI Z hh d .byte n g) (hm : (n - i.toInt.toNat) < kF) (hi : 0 ≤ i.toInt ∧ i.toInt ≤ n ∧ One o6 ∧ ∀ j : Nat, (j : Int) < i.toInt → g j = oLo f j ∧ ¬ (255 : Int32) < f j), oGl p e below (T.setTop (mkF m 3 #[.val (.ref a), .val (.int i), .val (.ref d), .val (.int i), .val (.int (Int32.ofNat n)), .val (.int i), o6] [])) (oFin s below (Q_rmCmp5 Z a d n f g0 h0 n0) ({ frames := 0, cells := 0, slots := 0, locals := 0 } : Room).cells ({ frames := 0, cells := 0, slots := 0, locals := 0 } : Room).slots) := by
    intro kF
    induction kF with
    | zero => intro i o6 g T locs X hh eT N hzh Kp fa0 fa1 hm hi; exact absurd hm (Nat.not_lt_zero _)
    | succ kF ih =>
      intro i o6 g T locs X hh eT N hzh Kp fa0 fa1 hm hi
      have lfa0 : @LT.lt Nat _ a hh.size := fa0.lt
      have lfa1 : @LT.lt Nat _ d hh.size := fa1.lt
      refine siload X hx (hb hby d8_3) rfl rfl (pc' := 5) ?_
      refine siload X hx (hb hby d8_5) rfl rfl (pc' := 7) ?_
      by_cases hc7 : i < (Int32.ofNat n)
      · skip
        refine sicN X hx (hb hby d8_7) rfl (tlt hc7).2.1 (pc' := 10) ?_
        have hlt := Int32.lt_iff_toInt_lt.mp hc7
        rw [own_ofNat hn9] at hlt
        refine saloadN X hx (hb hby d8_10) rfl rfl rfl (pc' := 11) ?_
        refine siloadN X hx (hb hby d8_11) rfl rfl (pc' := 12) ?_
        refine oOn (fa0.ldC X hx hZ eT (j := i) ⟨by omega, by omega⟩ (g := (mkF m 12 #[.val (.ref a), .val (.int i), .val (.ref d), .val (.int i), .val (.int (Int32.ofNat n)), .val (.int i), o6] [(.int i), (.ref a)])) rfl rfl (hb hby d8_12)) ?_
        show oGl p e below (T.setTop (mkF m 13 #[.val (.ref a), .val (.int i), .val (.ref d), .val (.int i), .val (.int (Int32.ofNat n)), .val (.int i), o6] [(.int (f i.toInt.toNat))])) _
        refine sistore X hx (hb hby d8_13) rfl (oSto rfl hi.2.2.1 rfl) (l' := #[.val (.ref a), .val (.int i), .val (.ref d), .val (.int i), .val (.int (Int32.ofNat n)), .val (.int i), .val (.int (f i.toInt.toNat))]) (pc' := 15) ?_
        refine siload X hx (hb hby d8_15) rfl rfl (pc' := 17) ?_
        refine ssipush X hx (hb hby d8_17) rfl rfl (z := 255) (pc' := 20) ?_
        by_cases hc20 : (255 : Int32) < (f i.toInt.toNat)
        · skip
          refine sicN X hx (hb hby d8_20) rfl (tlt hc20).2.2.2 (pc' := 23) ?_
          refine siload X hx (hb hby d8_23) rfl rfl (pc' := 25) ?_
          have kp1 : Keep h0 hh [d] := Kp
          refine oRetI X hx Bd.notSynchronized Bd.returns (hb hby d8_25) (by decide) (by decide) ?_
          show Q_rmCmp5 Z a d n f g0 h0 n0 _ T.heap _
          rw [eT]
          exact ⟨i, rfl, N, kp1, Or.inr ⟨fun q => by rw [q, own_ofNat hn9] at hlt; omega, hi.1, by omega, hc20⟩⟩
        · skip
          refine sicY X hx (hb hby d8_20) (by decide) (by decide) (flt hc20).2.2.2 (pc' := 26) ?_
          refine saloadN X hx (hb hby d8_26) rfl rfl rfl (pc' := 27) ?_
          refine siloadN X hx (hb hby d8_27) rfl rfl (pc' := 28) ?_
          refine siload X hx (hb hby d8_28) rfl rfl (pc' := 30) ?_
          refine si2b X hx (hb hby d8_30) rfl rfl (pc' := 31) ?_
          obtain ⟨T2, h2, X2, e2, W2, V2, st2⟩ := fa1.stB X hx hZ eT (j := i) ⟨by omega, by omega⟩ (g := (mkF m 31 #[.val (.ref a), .val (.int i), .val (.ref d), .val (.int i), .val (.int (Int32.ofNat n)), .val (.int i), .val (.int (f i.toInt.toNat))] [(.int (((f i.toInt.toNat)).toInt8.toInt32)), (.int i), (.ref d)])) rfl rfl (hb hby d8_31)
          refine oOn st2 ?_
          have z3 : hh.size ≤ h2.size := Nat.le_of_eq W2.size.symm
          have N2 := Fr.snoc X2 N (by omega)
          show oGl p e below (T2.setTop (mkF m 32 #[.val (.ref a), .val (.int i), .val (.ref d), .val (.int i), .val (.int (Int32.ofNat n)), .val (.int i), .val (.int (f i.toInt.toNat))] [])) _
          refine siinc X2 hx (hb hby d8_32) rfl rfl rfl (l' := #[.val (.ref a), .val (.int (i + (1 : Int32))), .val (.ref d), .val (.int i), .val (.int (Int32.ofNat n)), .val (.int i), .val (.int (f i.toInt.toNat))]) (pc' := 35) ?_
          refine siinc X2 hx (hb hby d8_35) rfl rfl rfl (l' := #[.val (.ref a), .val (.int (i + (1 : Int32))), .val (.ref d), .val (.int (i + (1 : Int32))), .val (.int (Int32.ofNat n)), .val (.int i), .val (.int (f i.toInt.toNat))]) (pc' := 38) ?_
          refine siinc X2 hx (hb hby d8_38) rfl rfl rfl (l' := #[.val (.ref a), .val (.int (i + (1 : Int32))), .val (.ref d), .val (.int (i + (1 : Int32))), .val (.int (Int32.ofNat n)), .val (.int (i + (1 : Int32))), .val (.int (f i.toInt.toNat))]) (pc' := 41) ?_
          refine sgoto X2 hx (hb hby d8_41) (by decide) (by decide)  (pc' := 3) ?_
          have hi1 := own_incS (x := i) (by omega)
          have hzb : n0 ≤ h2.size := by omega
          have kp4 : Keep h0 h2 [d] := (Kp.wr W2 (Or.inl (List.mem_of_getElem? (i := 0) rfl)))
          have f5 := (fa0.other W2 (oNe (by omega)))
          exact ih (i + (1 : Int32)) (.val (.int (f i.toInt.toNat))) (oUp g i.toInt.toNat (nar .byte (((f i.toInt.toNat)).toInt8.toInt32))) _ _ X2 _ e2 N2 hzb kp4 f5 V2 (by omega) ⟨by omega, by omega, One.val rfl, fun j hj => by
            by_cases q : j = i.toInt.toNat
            · subst q; exact ⟨oUp_hit, hc20⟩
            · rw [oUp_miss q]; exact hi.2.2.2 j (by omega)⟩
      · skip
        refine sicY X hx (hb hby d8_7) (by decide) (by decide) (flt hc7).2.1 (pc' := 44) ?_
        refine siload X hx (hb hby d8_44) rfl rfl (pc' := 46) ?_
        have kp6 : Keep h0 hh [d] := Kp
        have hge : ¬ i.toInt < (Int32.ofNat n).toInt := fun q => hc7 (Int32.lt_iff_toInt_lt.mpr q)
        rw [own_ofNat hn9] at hge
        refine oRetI X hx Bd.notSynchronized Bd.returns (hb hby d8_46) (by decide) (by decide) ?_
        show Q_rmCmp5 Z a d n f g0 h0 n0 _ T.heap _
        rw [eT]
        exact ⟨_, rfl, N, kp6, Or.inl ⟨rfl, fun j hj => (hi.2.2.2 j (by omega)).2, fa1.congr (fun j hj => (hi.2.2.2 j (by omega)).1)⟩⟩
  have hzb : n0 ≤ h0.size := by omega
  have kp7 : Keep h0 h0 [d] := (Keep.refl h0 [d])
  exact lp3 _ 0 .unset g0 _ _ X0 _ e0 N0 hzb kp7 PV PD (Nat.lt_succ_self _) ⟨by decide, by have e0 : (0 : Int32).toInt = 0 := rfl; omega, One.u, fun j hj => by have e0 : (0 : Int32).toInt = 0 := rfl; omega⟩
theorem d7_0 : decode jdk_52_method_16_code 0 = .ok (.iload_n 2, 1) := by decide +kernel
theorem d7_1 : decode jdk_52_method_16_code 1 = .ok (.newarray .byte, 2) := by decide +kernel
theorem d7_3 : decode jdk_52_method_16_code 3 = .ok (.astore_n 3, 1) := by decide +kernel
theorem d7_4 : decode jdk_52_method_16_code 4 = .ok (.aload_n 0, 1) := by decide +kernel
theorem d7_5 : decode jdk_52_method_16_code 5 = .ok (.iload_n 1, 1) := by decide +kernel
theorem d7_6 : decode jdk_52_method_16_code 6 = .ok (.aload_n 3, 1) := by decide +kernel
theorem d7_7 : decode jdk_52_method_16_code 7 = .ok (.iconst 0, 1) := by decide +kernel
theorem d7_8 : decode jdk_52_method_16_code 8 = .ok (.iload_n 2, 1) := by decide +kernel
theorem d7_9 : decode jdk_52_method_16_code 9 = .ok (.invokestatic 115, 3) := by decide +kernel
theorem pd_3 : parseMethodDescriptor "([CI[BII)I" = some ⟨[(.array .char), .int, (.array .byte), .int, .int], some .int⟩ := by decide +kernel
theorem d7_12 : decode jdk_52_method_16_code 12 = .ok (.istore 4, 2) := by decide +kernel
theorem d7_14 : decode jdk_52_method_16_code 14 = .ok (.iload 4, 2) := by decide +kernel
theorem d7_16 : decode jdk_52_method_16_code 16 = .ok (.iload_n 2, 1) := by decide +kernel
theorem d7_17 : decode jdk_52_method_16_code 17 = .ok (.if_icmp .eq 40, 3) := by decide +kernel
theorem d7_57 : decode jdk_52_method_16_code 57 = .ok (.aload_n 3, 1) := by decide +kernel
theorem d7_58 : decode jdk_52_method_16_code 58 = .ok (.areturn, 1) := by decide +kernel
theorem d7_20 : decode jdk_52_method_16_code 20 = .ok (.aload_n 0, 1) := by decide +kernel
theorem d7_21 : decode jdk_52_method_16_code 21 = .ok (.iload_n 1, 1) := by decide +kernel
theorem d7_22 : decode jdk_52_method_16_code 22 = .ok (.iload_n 2, 1) := by decide +kernel
theorem d7_23 : decode jdk_52_method_16_code 23 = .ok (.invokestatic 119, 3) := by decide +kernel
theorem pd_4 : parseMethodDescriptor "([CII)[B" = some ⟨[(.array .char), .int, .int], some (.array .byte)⟩ := by decide +kernel
theorem d7_26 : decode jdk_52_method_16_code 26 = .ok (.astore 5, 2) := by decide +kernel
theorem d7_28 : decode jdk_52_method_16_code 28 = .ok (.aload 5, 2) := by decide +kernel
theorem d7_30 : decode jdk_52_method_16_code 30 = .ok (.iload 4, 2) := by decide +kernel
theorem d7_32 : decode jdk_52_method_16_code 32 = .ok (.invokestatic 71, 3) := by decide +kernel
theorem pd_5 : parseMethodDescriptor "([BI)C" = some ⟨[(.array .byte), .int], some .char⟩ := by decide +kernel
theorem d7_35 : decode jdk_52_method_16_code 35 = .ok (.sipush 255, 3) := by decide +kernel
theorem d7_38 : decode jdk_52_method_16_code 38 = .ok (.if_icmp .gt 16, 3) := by decide +kernel
theorem d7_54 : decode jdk_52_method_16_code 54 = .ok (.aload 5, 2) := by decide +kernel
theorem d7_56 : decode jdk_52_method_16_code 56 = .ok (.areturn, 1) := by decide +kernel
theorem ef_rmCmp3 (m : MethodId) (x0 : Nat) (x1 : Int32) (x2 : Int32)  : entryFrame m #[(.ref x0), (.int x1), (.int x2)] 6 = mkF m 0 #[.val (.ref x0), .val (.int x1), .val (.int x2), .unset, .unset, .unset] [] := by first | (simp [entryFrame, mkF, argsToLocals, Value.category, maxLocals]; done) | rfl
def Q_rmCmp3 (Z : State) (a n : Nat) (f : Nat → Int32) (cz : Int32) (sf : Value) (h0 : Heap) (n0 : Nat) (vv : Option Value) (h : Heap) (L : List Loc) : Prop := ∃ d : Nat, vv = some (.ref d) ∧ Fr n0 L ∧ Keep h0 h [] ∧ h0.size ≤ d ∧ ((oLat f n ∧ oAI Z h d .byte n (oLo f)) ∨ (0 < n ∧ oAI Z h d .byte (2 * n) (oU f)))
set_option maxRecDepth 65536 in
set_option maxHeartbeats 40000000 in
theorem rmCmp3 (l : Launch) (Z : State) (a0 : Array Value) (hw : ∀ d ∈ tables_1, d.before a0 Z = true) (ws : List Jvm.Cond) (a n : Nat) (f : Nat → Int32) (cz : Int32) (sf : Value) (h0 : Heap) (n0 : Nat) (Z0 : n0 ≤ h0.size) (O0 : Old Z n0 h0) (SCS : Sta Z Z.heap "java/lang/String" "COMPACT_STRINGS" "Z" (.int cz)) (hcz : ¬ cz = (0 : Int32)) (SSF : Sta Z Z.heap "jdk/internal/util/Preconditions" "SIOOBE_FORMATTER" "Ljava/util/function/BiFunction;" sf) (hsf : sf.isRef = true) (SAD : Sta Z Z.heap "java/lang/StringUTF16" "$assertionsDisabled" "Z" (.int 1)) (SHI : Sta Z Z.heap "java/lang/StringUTF16" "HI_BYTE_SHIFT" "I" (.int 0)) (SLO : Sta Z Z.heap "java/lang/StringUTF16" "LO_BYTE_SHIFT" "I" (.int 8)) (PV : oAI Z h0 a .char n f) (hcap : n ≤ 65) (hch : oChr f n) :
    MetFree l (⟨"java/lang/StringUTF16", "compress", "([CII)[B"⟩ : MethodName) (head1 (Jvm.Cond.code (⟨"java/lang/StringUTF16", "compress", "([CII)[B"⟩ : MethodName) jdk_52_method_16_code 6 (some (.array .byte)) :: ws) ({ frames := 3, cells := 2, slots := 195, locals := 40 } : Room)) (fun aA uU => aA = #[(.ref a), (.int (0 : Int32)), (.int (Int32.ofNat n))] ∧ Z.Warmed39 uU.vm ∧ uU.heap = h0) (fun _ _ _ _ _ => True) (fun _ uU oO uU' => ∃ vV lL, oO = .returned vV ∧ Q_rmCmp3 Z a n f cz sf h0 n0 vV uU'.heap lL ∧ FrameEnd uU oO uU' lL ({ frames := 3, cells := 2, slots := 195, locals := 40 } : Room).cells ({ frames := 3, cells := 2, slots := 195, locals := 40 } : Room).slots) := by
  refine MetFree.of_bodySF (plainFor_of_name pn_StringUTF16) hisR ?_
  intro p e s m args below meth c s₁ Bd hml0 hP hK
  obtain ⟨rfl, hZ, hh⟩ := hP
  have hx := Bd.exec
  have hby := Bd.bytes
  have hml : c.maxLocals = 6 := hml0
  have hown : s.vm.findClass "java/lang/StringUTF16" = some m.cls := findClass_of_methodNamed Bd.named
  have hnm := (name_of_methodNamed Bd.named Bd.method).1
  have X0 : Stand p l e ({ frames := 3, cells := 2, slots := 195, locals := 40 } : Room) s m #[(.ref a), (.int (0 : Int32)), (.int (Int32.ofNat n))] below meth c s₁ [] 0 0 := Stand.of_body Bd
  have e0 : s₁.heap = h0 := by rw [← hh, Bd.state]; rfl
  have N0 := Fr.nil n0
  have lA : @LT.lt Nat _ a h0.size := PV.lt
  have hn9 := PV.small
  have hn8 := own_ofNat hn9
  refine oEnter (oCast (ef_rmCmp3 m a (0 : Int32) (Int32.ofNat n) ) ?_)
  show oGl p e below (s₁.setTop (mkF m 0 #[.val (.ref a), .val (.int (0 : Int32)), .val (.int (Int32.ofNat n)), .unset, .unset, .unset] [])) _
  refine siloadN X0 hx (hb hby d7_0) rfl rfl (pc' := 1) ?_
  obtain ⟨T1, h1, k1, X1, e1, E1, A1, st1⟩ := newP X0 hx hZ (hw _ (List.mem_of_getElem? (i := 15) rfl)) e0 (g := (mkF m 1 #[.val (.ref a), .val (.int (0 : Int32)), .val (.int (Int32.ofNat n)), .unset, .unset, .unset] [(.int (Int32.ofNat n))])) rfl (hb hby d7_1) rfl (own_nn hn9) (cap := 65) (by show (Int32.ofNat n).toInt.toNat ≤ _; omega) (by decide) (by decide) (by decide)
  obtain ⟨a1, g1⟩ : ∃ z, z = h0.size := ⟨_, rfl⟩
  rw [← g1] at A1 st1
  refine oOn st1 ?_
  have z2 : h0.size ≤ h1.size := E1.1
  have lt1 : a1 < h1.size := A1.lt
  have V1 : oAI Z h1 a1 .byte n (fun _ => 0) := oAI.new A1 (by omega)
  show oGl p e below (T1.setTop (mkF m 3 #[.val (.ref a), .val (.int (0 : Int32)), .val (.int (Int32.ofNat n)), .unset, .unset, .unset] [(.ref a1)])) _
  refine sastoreN X1 hx (hb hby d7_3) rfl rfl rfl (l' := #[.val (.ref a), .val (.int (0 : Int32)), .val (.int (Int32.ofNat n)), .val (.ref a1), .unset, .unset]) (pc' := 4) ?_
  refine saloadN X1 hx (hb hby d7_4) rfl rfl rfl (pc' := 5) ?_
  refine siloadN X1 hx (hb hby d7_5) rfl rfl (pc' := 6) ?_
  refine saloadN X1 hx (hb hby d7_6) rfl rfl rfl (pc' := 7) ?_
  refine siconst X1 hx (hb hby d7_7) rfl rfl (z := 0) (pc' := 8) ?_
  refine siloadN X1 hx (hb hby d7_8) rfl rfl (pc' := 9) ?_
  have f3 := (PV.ext E1)
  have hz4 : n0 ≤ h1.size := by omega
  obtain ⟨_, _, ⟨T4, L4, k4, n4⟩, -, X4, ⟨Lc4, hQ4, l4, y4, z4⟩, st4⟩ := Jvm.LawKit.callS X1 hx (y := (⟨"java/lang/StringUTF16", "compress", "([CI[BII)I"⟩ : MethodName)) hown (mvT hZ (hw _ (List.mem_of_getElem? (i := 41) rfl))) (mvT hZ (hw _ (List.mem_of_getElem? (i := 42) rfl))) (mvT hZ (hw _ (List.mem_of_getElem? (i := 39) rfl))) (mvT hZ (hw _ (List.mem_of_getElem? (i := 43) rfl))) (by decide) (backOf (W := 0) (rmCmp5 l Z a0 hw [] a a1 n f (fun _ => 0) h1 n0 hz4 f3 V1 (oNe (by omega)) (by omega)) hZ (hw _ (List.mem_of_getElem? (i := 43) rfl)) (hw _ (List.mem_of_getElem? (i := 39) rfl)) (by decide) (by decide)) (g := (mkF m 9 #[.val (.ref a), .val (.int (0 : Int32)), .val (.int (Int32.ofNat n)), .val (.ref a1), .unset, .unset] [(.int (Int32.ofNat n)), (.int (0 : Int32)), (.ref a1), (.int (0 : Int32)), (.ref a)])) rfl (by rw [hml]; rfl) (argsL := [(.ref a), (.int (0 : Int32)), (.ref a1), (.int (0 : Int32)), (.int (Int32.ofNat n))]) (rest := []) (lenOf pd_3 rfl) rfl (by show 2 * 0 + _ ≤ _; exact Nat.le_of_eq rfl) (hb hby d7_9) (fun _ _ => ⟨rfl, e1, (by decide : 1 + 0 ≤ _), (by decide : 65 + 0 ≤ _)⟩)
  dsimp only [Pt.U, Pt.locs, Pt.cells, Pt.slots] at X4 l4 y4 z4 st4 hQ4
  subst l4 y4 z4
  obtain ⟨i4, rfl, N4q, K4, pq4⟩ := hQ4
  have N4 := Fr.app N0 N4q
  have z5 : h1.size ≤ T4.heap.size := K4.1
  refine oOn st4 ?_
  show oGl p e below (T4.setTop (mkF m 12 #[.val (.ref a), .val (.int (0 : Int32)), .val (.int (Int32.ofNat n)), .val (.ref a1), .unset, .unset] [(.int i4)])) _
  refine sistore X4 hx (hb hby d7_12) rfl rfl (l' := #[.val (.ref a), .val (.int (0 : Int32)), .val (.int (Int32.ofNat n)), .val (.ref a1), .val (.int i4), .unset]) (pc' := 14) ?_
  refine siload X4 hx (hb hby d7_14) rfl rfl (pc' := 16) ?_
  refine siloadN X4 hx (hb hby d7_16) rfl rfl (pc' := 17) ?_
  by_cases hc17 : i4 = (Int32.ofNat n)
  · skip
    refine sicY X4 hx (hb hby d7_17) (by decide) (by decide) (teq hc17).1 (pc' := 57) ?_
    refine saloadN X4 hx (hb hby d7_57) rfl rfl rfl (pc' := 58) ?_
    have kp6 : Keep h0 T4.heap [] := (((Keep.refl h0 []).ext E1).trans K4 (allS (Or.inr (by omega)) all0))
    have ql := pq4.resolve_right (fun q => q.1 hc17)
    refine oRetR X4 hx Bd.notSynchronized Bd.returns rfl rfl (hb hby d7_58) (by decide) (by decide) ?_
    show Q_rmCmp3 Z a n f cz sf h0 n0 _ T4.heap _
    exact ⟨a1, rfl, N4, kp6, by omega, Or.inl ⟨ql.2.1, ql.2.2⟩⟩
  · skip
    refine sicN X4 hx (hb hby d7_17) rfl (feq hc17).1 (pc' := 20) ?_
    refine saloadN X4 hx (hb hby d7_20) rfl rfl rfl (pc' := 21) ?_
    refine siloadN X4 hx (hb hby d7_21) rfl rfl (pc' := 22) ?_
    refine siloadN X4 hx (hb hby d7_22) rfl rfl (pc' := 23) ?_
    have qr := pq4.resolve_left (fun q => hc17 q.1)
    have f7 := ((O0.ext E1).keep K4 (allS (by omega) all0))
    have f8 := (f3.keep K4 (ninS (oNe (by omega)) nin0))
    have hz9 : n0 ≤ T4.heap.size := by omega
    obtain ⟨_, _, ⟨T9, L9, k9, n9⟩, -, X9, ⟨Lc9, hQ9, l9, y9, z9⟩, st9⟩ := Jvm.LawKit.callS X4 hx (y := (⟨"java/lang/StringUTF16", "toBytes", "([CII)[B"⟩ : MethodName)) hown (mvT hZ (hw _ (List.mem_of_getElem? (i := 83) rfl))) (mvT hZ (hw _ (List.mem_of_getElem? (i := 84) rfl))) (mvT hZ (hw _ (List.mem_of_getElem? (i := 39) rfl))) (mvT hZ (hw _ (List.mem_of_getElem? (i := 85) rfl))) (by decide) (backOf (W := 0) (rmTob l Z a0 hw [] a n f cz sf T4.heap n0 hz9 f7 SCS hcz SSF hsf SAD SHI SLO (by omega) hcap f8) hZ (hw _ (List.mem_of_getElem? (i := 85) rfl)) (hw _ (List.mem_of_getElem? (i := 39) rfl)) (by decide) (by decide)) (g := (mkF m 23 #[.val (.ref a), .val (.int (0 : Int32)), .val (.int (Int32.ofNat n)), .val (.ref a1), .val (.int i4), .unset] [(.int (Int32.ofNat n)), (.int (0 : Int32)), (.ref a)])) rfl (by rw [hml]; rfl) (argsL := [(.ref a), (.int (0 : Int32)), (.int (Int32.ofNat n))]) (rest := []) (lenOf pd_4 rfl) rfl (by show 2 * 0 + _ ≤ _; exact Nat.le_of_eq rfl) (hb hby d7_23) (fun _ _ => ⟨rfl, rfl, (by decide : 1 + 1 ≤ _), (by decide : 65 + 130 ≤ _)⟩)
    dsimp only [Pt.U, Pt.locs, Pt.cells, Pt.slots] at X9 l9 y9 z9 st9 hQ9
    subst l9 y9 z9
    obtain ⟨d9, rfl, N9q, K9, zd9, Vd9⟩ := hQ9
    have N9 := Fr.app N4 N9q
    have z10 : T4.heap.size ≤ T9.heap.size := K9.1
    refine oOn st9 ?_
    show oGl p e below (T9.setTop (mkF m 26 #[.val (.ref a), .val (.int (0 : Int32)), .val (.int (Int32.ofNat n)), .val (.ref a1), .val (.int i4), .unset] [(.ref d9)])) _
    refine sastore X9 hx (hb hby d7_26) rfl rfl rfl (l' := #[.val (.ref a), .val (.int (0 : Int32)), .val (.int (Int32.ofNat n)), .val (.ref a1), .val (.int i4), .val (.ref d9)]) (pc' := 28) ?_
    refine saload X9 hx (hb hby d7_28) rfl rfl rfl (pc' := 30) ?_
    refine siload X9 hx (hb hby d7_30) rfl rfl (pc' := 32) ?_
    have f11 := (f7.keep K9 all0)
    have hz12 : n0 ≤ T9.heap.size := by omega
    obtain ⟨_, _, ⟨T12, L12, k12, n12⟩, -, X12, ⟨Lc12, hQ12, l12, y12, z12⟩, st12⟩ := Jvm.LawKit.callS X9 hx (y := (⟨"java/lang/StringUTF16", "getChar", "([BI)C"⟩ : MethodName)) hown (mvT hZ (hw _ (List.mem_of_getElem? (i := 99) rfl))) (mvT hZ (hw _ (List.mem_of_getElem? (i := 100) rfl))) (mvT hZ (hw _ (List.mem_of_getElem? (i := 39) rfl))) (mvT hZ (hw _ (List.mem_of_getElem? (i := 101) rfl))) (by decide) (backOf (W := 0) (rmGet l Z a0 hw [] d9 n i4 f cz sf T9.heap n0 hz12 f11 SCS hcz SSF hsf SAD SHI SLO (by omega) Vd9 ⟨qr.2.1, qr.2.2.1⟩ (hch _ (by have := qr.2.2.1; have := qr.2.1; omega))) hZ (hw _ (List.mem_of_getElem? (i := 101) rfl)) (hw _ (List.mem_of_getElem? (i := 39) rfl)) (by decide) (by decide)) (g := (mkF m 32 #[.val (.ref a), .val (.int (0 : Int32)), .val (.int (Int32.ofNat n)), .val (.ref a1), .val (.int i4), .val (.ref d9)] [(.int i4), (.ref d9)])) rfl (by rw [hml]; rfl) (argsL := [(.ref d9), (.int i4)]) (rest := []) (lenOf pd_5 rfl) rfl (by show 2 * 0 + _ ≤ _; exact Nat.le_of_eq rfl) (hb hby d7_32) (fun _ _ => ⟨rfl, rfl, (by decide : 2 + 0 ≤ _), (by decide : 195 + 0 ≤ _)⟩)
    dsimp only [Pt.U, Pt.locs, Pt.cells, Pt.slots] at X12 l12 y12 z12 st12 hQ12
    subst l12 y12 z12
    obtain ⟨rfl, N12q, eh12⟩ := hQ12
    have N12 := Fr.app N9 N12q
    refine oOn st12 ?_
    show oGl p e below (T12.setTop (mkF m 35 #[.val (.ref a), .val (.int (0 : Int32)), .val (.int (Int32.ofNat n)), .val (.ref a1), .val (.int i4), .val (.ref d9)] [(.int (f i4.toInt.toNat))])) _
    refine ssipush X12 hx (hb hby d7_35) rfl rfl (z := 255) (pc' := 38) ?_
    refine sicY X12 hx (hb hby d7_38) (by decide) (by decide) (tlt (qr.2.2.2 : (255 : Int32) < (f i4.toInt.toNat))).2.2.1 (pc' := 54) ?_
    refine saload X12 hx (hb hby d7_54) rfl rfl rfl (pc' := 56) ?_
    have kp13 : Keep h0 T9.heap [] := ((((Keep.refl h0 []).ext E1).trans K4 (allS (Or.inr (by omega)) all0)).trans K9 all0)
    refine oRetR X12 hx Bd.notSynchronized Bd.returns rfl rfl (hb hby d7_56) (by decide) (by decide) ?_
    show Q_rmCmp3 Z a n f cz sf h0 n0 _ T12.heap _
    rw [eh12]
    exact ⟨d9, rfl, N12, kp13, by omega, Or.inr ⟨by have := qr.2.2.1; have := qr.2.1; omega, Vd9⟩⟩
theorem d9_0 : decode jdk_52_method_15_code 0 = .ok (.iload_n 1, 1) := by decide +kernel
theorem d9_1 : decode jdk_52_method_15_code 1 = .ok (.aload_n 0, 1) := by decide +kernel
theorem d9_2 : decode jdk_52_method_15_code 2 = .ok (.arraylength, 1) := by decide +kernel
theorem d9_3 : decode jdk_52_method_15_code 3 = .ok (.isub, 1) := by decide +kernel
theorem d9_4 : decode jdk_52_method_15_code 4 = .ok (.bipush 31, 2) := by decide +kernel
theorem d9_6 : decode jdk_52_method_15_code 6 = .ok (.iushr, 1) := by decide +kernel
theorem d9_7 : decode jdk_52_method_15_code 7 = .ok (.i2b, 1) := by decide +kernel
theorem d9_8 : decode jdk_52_method_15_code 8 = .ok (.ireturn, 1) := by decide +kernel
theorem ef_rmCod0 (m : MethodId) (x0 : Nat) (x1 : Int32)  : entryFrame m #[(.ref x0), (.int x1)] 2 = mkF m 0 #[.val (.ref x0), .val (.int x1)] [] := by first | (simp [entryFrame, mkF, argsToLocals, Value.category, maxLocals]; done) | rfl
def Q_rmCod0 (Z : State) (d n : Nat) (g : Nat → Int32) (h0 : Heap) (n0 : Nat) (vv : Option Value) (h : Heap) (L : List Loc) : Prop := vv = some (.int 0) ∧ Fr n0 L ∧ h = h0
set_option maxRecDepth 65536 in
set_option maxHeartbeats 40000000 in
theorem rmCod0 (l : Launch) (Z : State) (a0 : Array Value) (hw : ∀ d ∈ tables_1, d.before a0 Z = true) (ws : List Jvm.Cond) (d n : Nat) (g : Nat → Int32) (h0 : Heap) (n0 : Nat) (Z0 : n0 ≤ h0.size) (PD : oAI Z h0 d .byte n g) :
    MetFree l (⟨"java/lang/StringUTF16", "coderFromArrayLen", "([BI)B"⟩ : MethodName) (head1 (Jvm.Cond.code (⟨"java/lang/StringUTF16", "coderFromArrayLen", "([BI)B"⟩ : MethodName) jdk_52_method_15_code 2 (some .byte) :: ws) ({ frames := 0, cells := 0, slots := 0, locals := 0 } : Room)) (fun aA uU => aA = #[(.ref d), (.int (Int32.ofNat n))] ∧ Z.Warmed39 uU.vm ∧ uU.heap = h0) (fun _ _ _ _ _ => True) (fun _ uU oO uU' => ∃ vV lL, oO = .returned vV ∧ Q_rmCod0 Z d n g h0 n0 vV uU'.heap lL ∧ FrameEnd uU oO uU' lL ({ frames := 0, cells := 0, slots := 0, locals := 0 } : Room).cells ({ frames := 0, cells := 0, slots := 0, locals := 0 } : Room).slots) := by
  refine MetFree.of_bodySF (plainFor_of_name pn_StringUTF16) hisR ?_
  intro p e s m args below meth c s₁ Bd hml0 hP hK
  obtain ⟨rfl, hZ, hh⟩ := hP
  have hx := Bd.exec
  have hby := Bd.bytes
  have hml : c.maxLocals = 2 := hml0
  have hown : s.vm.findClass "java/lang/StringUTF16" = some m.cls := findClass_of_methodNamed Bd.named
  have hnm := (name_of_methodNamed Bd.named Bd.method).1
  have X0 : Stand p l e ({ frames := 0, cells := 0, slots := 0, locals := 0 } : Room) s m #[(.ref d), (.int (Int32.ofNat n))] below meth c s₁ [] 0 0 := Stand.of_body Bd
  have e0 : s₁.heap = h0 := by rw [← hh, Bd.state]; rfl
  have N0 := Fr.nil n0
  refine oEnter (oCast (ef_rmCod0 m d (Int32.ofNat n) ) ?_)
  show oGl p e below (s₁.setTop (mkF m 0 #[.val (.ref d), .val (.int (Int32.ofNat n))] [])) _
  refine siloadN X0 hx (hb hby d9_0) rfl rfl (pc' := 1) ?_
  refine saloadN X0 hx (hb hby d9_1) rfl rfl rfl (pc' := 2) ?_
  refine oOn (PD.len X0 hx hZ e0 (g := (mkF m 2 #[.val (.ref d), .val (.int (Int32.ofNat n))] [(.ref d), (.int (Int32.ofNat n))])) rfl rfl (hb hby d9_2)) ?_
  show oGl p e below (s₁.setTop (mkF m 3 #[.val (.ref d), .val (.int (Int32.ofNat n))] [(.int (Int32.ofNat n)), (.int (Int32.ofNat n))])) _
  refine sisub X0 hx (hb hby d9_3) rfl rfl (pc' := 4) ?_
  refine sbipush X0 hx (hb hby d9_4) rfl rfl (z := 31) (pc' := 6) ?_
  refine siushr X0 hx (hb hby d9_6) rfl rfl (pc' := 7) ?_
  refine si2b X0 hx (hb hby d9_7) rfl rfl (pc' := 8) ?_
  refine oRetN (t := .byte) X0 hx Bd.notSynchronized Bd.returns (by simp) (hb hby d9_8) (by decide) (by decide) ?_
  show Q_rmCod0 Z d n g h0 n0 _ s₁.heap _
  rw [e0]
  exact ⟨congrArg (fun z => some (Value.int z)) (own_cod (Int32.ofNat n)), N0, rfl⟩
theorem ef_rmCod1 (m : MethodId) (x0 : Nat) (x1 : Int32)  : entryFrame m #[(.ref x0), (.int x1)] 2 = mkF m 0 #[.val (.ref x0), .val (.int x1)] [] := by first | (simp [entryFrame, mkF, argsToLocals, Value.category, maxLocals]; done) | rfl
def Q_rmCod1 (Z : State) (d n : Nat) (g : Nat → Int32) (h0 : Heap) (n0 : Nat) (vv : Option Value) (h : Heap) (L : List Loc) : Prop := vv = some (.int 1) ∧ Fr n0 L ∧ h = h0
set_option maxRecDepth 65536 in
set_option maxHeartbeats 40000000 in
theorem rmCod1 (l : Launch) (Z : State) (a0 : Array Value) (hw : ∀ d ∈ tables_1, d.before a0 Z = true) (ws : List Jvm.Cond) (d n : Nat) (g : Nat → Int32) (h0 : Heap) (n0 : Nat) (Z0 : n0 ≤ h0.size) (PD : oAI Z h0 d .byte (2 * n) g) (hp : 0 < n) (hq : n < 1073741823) :
    MetFree l (⟨"java/lang/StringUTF16", "coderFromArrayLen", "([BI)B"⟩ : MethodName) (head1 (Jvm.Cond.code (⟨"java/lang/StringUTF16", "coderFromArrayLen", "([BI)B"⟩ : MethodName) jdk_52_method_15_code 2 (some .byte) :: ws) ({ frames := 0, cells := 0, slots := 0, locals := 0 } : Room)) (fun aA uU => aA = #[(.ref d), (.int (Int32.ofNat n))] ∧ Z.Warmed39 uU.vm ∧ uU.heap = h0) (fun _ _ _ _ _ => True) (fun _ uU oO uU' => ∃ vV lL, oO = .returned vV ∧ Q_rmCod1 Z d n g h0 n0 vV uU'.heap lL ∧ FrameEnd uU oO uU' lL ({ frames := 0, cells := 0, slots := 0, locals := 0 } : Room).cells ({ frames := 0, cells := 0, slots := 0, locals := 0 } : Room).slots) := by
  refine MetFree.of_bodySF (plainFor_of_name pn_StringUTF16) hisR ?_
  intro p e s m args below meth c s₁ Bd hml0 hP hK
  obtain ⟨rfl, hZ, hh⟩ := hP
  have hx := Bd.exec
  have hby := Bd.bytes
  have hml : c.maxLocals = 2 := hml0
  have hown : s.vm.findClass "java/lang/StringUTF16" = some m.cls := findClass_of_methodNamed Bd.named
  have hnm := (name_of_methodNamed Bd.named Bd.method).1
  have X0 : Stand p l e ({ frames := 0, cells := 0, slots := 0, locals := 0 } : Room) s m #[(.ref d), (.int (Int32.ofNat n))] below meth c s₁ [] 0 0 := Stand.of_body Bd
  have e0 : s₁.heap = h0 := by rw [← hh, Bd.state]; rfl
  have N0 := Fr.nil n0
  refine oEnter (oCast (ef_rmCod1 m d (Int32.ofNat n) ) ?_)
  show oGl p e below (s₁.setTop (mkF m 0 #[.val (.ref d), .val (.int (Int32.ofNat n))] [])) _
  refine siloadN X0 hx (hb hby d9_0) rfl rfl (pc' := 1) ?_
  refine saloadN X0 hx (hb hby d9_1) rfl rfl rfl (pc' := 2) ?_
  refine oOn (PD.len X0 hx hZ e0 (g := (mkF m 2 #[.val (.ref d), .val (.int (Int32.ofNat n))] [(.ref d), (.int (Int32.ofNat n))])) rfl rfl (hb hby d9_2)) ?_
  show oGl p e below (s₁.setTop (mkF m 3 #[.val (.ref d), .val (.int (Int32.ofNat n))] [(.int (Int32.ofNat (2 * n))), (.int (Int32.ofNat n))])) _
  refine sisub X0 hx (hb hby d9_3) rfl rfl (pc' := 4) ?_
  refine sbipush X0 hx (hb hby d9_4) rfl rfl (z := 31) (pc' := 6) ?_
  refine siushr X0 hx (hb hby d9_6) rfl rfl (pc' := 7) ?_
  refine si2b X0 hx (hb hby d9_7) rfl rfl (pc' := 8) ?_
  refine oRetN (t := .byte) X0 hx Bd.notSynchronized Bd.returns (by simp) (hb hby d9_8) (by decide) (by decide) ?_
  show Q_rmCod1 Z d n g h0 n0 _ s₁.heap _
  rw [e0]
  exact ⟨congrArg (fun z => some (Value.int z)) (own_cod1 hp hq), N0, rfl⟩
theorem d2_0 : decode jdk_42_method_149_code 0 = .ok (.aload_n 0, 1) := by decide +kernel
theorem d2_1 : decode jdk_42_method_149_code 1 = .ok (.invokespecial 1, 3) := by decide +kernel
theorem d2_4 : decode jdk_42_method_149_code 4 = .ok (.iload_n 3, 1) := by decide +kernel
theorem d2_5 : decode jdk_42_method_149_code 5 = .ok (.ifCond .ne 22, 3) := by decide +kernel
theorem d2_8 : decode jdk_42_method_149_code 8 = .ok (.aload_n 0, 1) := by decide +kernel
theorem d2_9 : decode jdk_42_method_149_code 9 = .ok (.ldc 7, 2) := by decide +kernel
theorem d2_11 : decode jdk_42_method_149_code 11 = .ok (.getfield 9, 3) := by decide +kernel
theorem d2_14 : decode jdk_42_method_149_code 14 = .ok (.putfield 9, 3) := by decide +kernel
theorem d2_17 : decode jdk_42_method_149_code 17 = .ok (.aload_n 0, 1) := by decide +kernel
theorem d2_18 : decode jdk_42_method_149_code 18 = .ok (.ldc 7, 2) := by decide +kernel
theorem d2_20 : decode jdk_42_method_149_code 20 = .ok (.getfield 15, 3) := by decide +kernel
theorem d2_23 : decode jdk_42_method_149_code 23 = .ok (.putfield 15, 3) := by decide +kernel
theorem d2_26 : decode jdk_42_method_149_code 26 = .ok (.return_, 1) := by decide +kernel
theorem d2_27 : decode jdk_42_method_149_code 27 = .ok (.getstatic 38, 3) := by decide +kernel
theorem d2_30 : decode jdk_42_method_149_code 30 = .ok (.ifCond .eq 28, 3) := by decide +kernel
theorem d2_33 : decode jdk_42_method_149_code 33 = .ok (.aload_n 1, 1) := by decide +kernel
theorem d2_34 : decode jdk_42_method_149_code 34 = .ok (.iload_n 2, 1) := by decide +kernel
theorem d2_35 : decode jdk_42_method_149_code 35 = .ok (.iload_n 3, 1) := by decide +kernel
theorem d2_36 : decode jdk_42_method_149_code 36 = .ok (.invokestatic 177, 3) := by decide +kernel
theorem d2_39 : decode jdk_42_method_149_code 39 = .ok (.astore 5, 2) := by decide +kernel
theorem d2_41 : decode jdk_42_method_149_code 41 = .ok (.aload_n 0, 1) := by decide +kernel
theorem d2_42 : decode jdk_42_method_149_code 42 = .ok (.aload 5, 2) := by decide +kernel
theorem d2_44 : decode jdk_42_method_149_code 44 = .ok (.iload_n 3, 1) := by decide +kernel
theorem d2_45 : decode jdk_42_method_149_code 45 = .ok (.invokestatic 47, 3) := by decide +kernel
theorem pd_6 : parseMethodDescriptor "([BI)B" = some ⟨[(.array .byte), .int], some .byte⟩ := by decide +kernel
theorem d2_48 : decode jdk_42_method_149_code 48 = .ok (.putfield 15, 3) := by decide +kernel
theorem d2_51 : decode jdk_42_method_149_code 51 = .ok (.aload_n 0, 1) := by decide +kernel
theorem d2_52 : decode jdk_42_method_149_code 52 = .ok (.aload 5, 2) := by decide +kernel
theorem d2_54 : decode jdk_42_method_149_code 54 = .ok (.putfield 9, 3) := by decide +kernel
theorem d2_57 : decode jdk_42_method_149_code 57 = .ok (.return_, 1) := by decide +kernel
theorem pn_String : plainName "java/lang/String" = true := by first | (simp [plainName, overriddenIn]; done) | decide +kernel
theorem ef_rmStr4 (m : MethodId) (x0 : Nat) (x1 : Nat) (x2 : Int32) (x3 : Int32)  : entryFrame m #[(.ref x0), (.ref x1), (.int x2), (.int x3), .null] 6 = mkF m 0 #[.val (.ref x0), .val (.ref x1), .val (.int x2), .val (.int x3), .val .null, .unset] [] := by first | (simp [entryFrame, mkF, argsToLocals, Value.category, maxLocals]; done) | rfl
def Q_rmStr4 (Z : State) (x a n : Nat) (f : Nat → Int32) (cz : Int32) (sf : Value) (h0 : Heap) (n0 : Nat) (vv : Option Value) (h : Heap) (vm : Vm) (L : List Loc) : Prop := vv = none ∧ Fr n0 L ∧ Keep h0 h [x] ∧ Exa Z h x "java/lang/String" ∧ oStr Z h x n f ∧ True
set_option maxRecDepth 65536 in
set_option maxHeartbeats 40000000 in
theorem rmStr4 (l : Launch) (Z : State) (a0 : Array Value) (hw : ∀ d ∈ tables_1, d.before a0 Z = true) (ws : List Jvm.Cond) (x a n : Nat) (f : Nat → Int32) (cz : Int32) (sf : Value) (h0 : Heap) (n0 : Nat) (Z0 : n0 ≤ h0.size) (PV : oAI Z h0 a .char n f) (hcap : n ≤ 65) (hch : oChr f n) (hxa : x ≠ a) (E0 : Exa Z h0 x "java/lang/String") (F0 : Fld Z h0 x "java/lang/String" "value" "[B" .null) (F1 : Fld Z h0 x "java/lang/String" "coder" "B" (.int 0)) (gx : n0 ≤ x) (O0 : Old Z n0 h0) (SCS : Sta Z Z.heap "java/lang/String" "COMPACT_STRINGS" "Z" (.int cz)) (hcz : ¬ cz = (0 : Int32)) (SSF : Sta Z Z.heap "jdk/internal/util/Preconditions" "SIOOBE_FORMATTER" "Ljava/util/function/BiFunction;" sf) (hsf : sf.isRef = true) (SAD : Sta Z Z.heap "java/lang/StringUTF16" "$assertionsDisabled" "Z" (.int 1)) (SHI : Sta Z Z.heap "java/lang/StringUTF16" "HI_BYTE_SHIFT" "I" (.int 0)) (SLO : Sta Z Z.heap "java/lang/StringUTF16" "LO_BYTE_SHIFT" "I" (.int 8)) (hcH : Jvm.Lit.constHeld Z "java/lang/String" 7) (hcw : Jvm.Lit.compactW.before a0 Z = true) :
    MetFree l (⟨"java/lang/String", "<init>", "([CIILjava/lang/Void;)V"⟩ : MethodName) (head1 (Jvm.Cond.code (⟨"java/lang/String", "<init>", "([CIILjava/lang/Void;)V"⟩ : MethodName) jdk_42_method_149_code 6 (none : Option FieldType) :: ws) ({ frames := 4, cells := 2, slots := 195, locals := 57 } : Room)) (fun aA uU => aA = #[(.ref x), (.ref a), (.int (0 : Int32)), (.int (Int32.ofNat n)), .null] ∧ Z.Warmed39 uU.vm ∧ uU.heap = h0 ∧ oEm Z uU.vm h0) (fun _ _ _ _ _ => True) (fun _ uU oO uU' => ∃ vV lL, oO = .returned vV ∧ Q_rmStr4 Z x a n f cz sf h0 n0 vV uU'.heap uU'.vm lL ∧ ReturnedEndW uU oO uU' lL ({ frames := 4, cells := 2, slots := 195, locals := 57 } : Room).cells ({ frames := 4, cells := 2, slots := 195, locals := 57 } : Room).slots) := by
  refine MetFree.of_bodySF (plainFor_of_name pn_String) hisR ?_
  intro p e s m args below meth c s₁ Bd hml0 hP hK
  obtain ⟨rfl, hZ, hh, hJ⟩ := hP
  have hx := Bd.exec
  have hby := Bd.bytes
  have hml : c.maxLocals = 6 := hml0
  have hown : s.vm.findClass "java/lang/String" = some m.cls := findClass_of_methodNamed Bd.named
  have hnm := (name_of_methodNamed Bd.named Bd.method).1
  have X0 : Stand p l e ({ frames := 4, cells := 2, slots := 195, locals := 57 } : Room) (s.setVm s.vm) m #[(.ref x), (.ref a), (.int (0 : Int32)), (.int (Int32.ofNat n)), .null] below meth c s₁ [] 0 0 := Stand.of_body Bd
  have e0 : s₁.heap = h0 := by rw [← hh, Bd.state]; rfl
  have N0 := Fr.nil n0
  have hS : s.Since s.vm 0 := (State.WarmedH.refl s).since 0
  have hk : 0 ≤ h0.size := Nat.zero_le _
  have hZ : Z.Warmed39 (s.setVm s.vm).vm := hZ
  have hown : (s.setVm s.vm).vm.findClass "java/lang/String" = some m.cls := hown
  have lX : @LT.lt Nat _ x h0.size := E0.lt
  have lA : @LT.lt Nat _ a h0.size := PV.lt
  have hn9 := PV.small
  refine oEnterV (oCast (ef_rmStr4 m x a (0 : Int32) (Int32.ofNat n) ) ?_)
  show oGl p e below (s₁.setTop (mkF m 0 #[.val (.ref x), .val (.ref a), .val (.int (0 : Int32)), .val (.int (Int32.ofNat n)), .val .null, .unset] [])) _
  refine saloadN X0 hx (hb hby d2_0) rfl rfl rfl (pc' := 1) ?_
  obtain ⟨T1, X1, e1, st1⟩ := initO X0 hx hZ hown (hw _ (List.mem_of_getElem? (i := 11) rfl)) (hw _ (List.mem_of_getElem? (i := 12) rfl)) (hw _ (List.mem_of_getElem? (i := 13) rfl)) e0 (g := (mkF m 1 #[.val (.ref x), .val (.ref a), .val (.int (0 : Int32)), .val (.int (Int32.ofNat n)), .val .null, .unset] [(.ref x)])) rfl (by rw [hml]; rfl) rfl (hb hby d2_1) (by decide) (W := 0) (by show 2 * 0 + _ ≤ _; exact Nat.le_of_eq rfl) (by decide)
  refine oOn st1 ?_
  show oGl p e below (T1.setTop (mkF m 4 #[.val (.ref x), .val (.ref a), .val (.int (0 : Int32)), .val (.int (Int32.ofNat n)), .val .null, .unset] [])) _
  refine siloadN X1 hx (hb hby d2_4) rfl rfl (pc' := 5) ?_
  by_cases hc5 : (Int32.ofNat n) = (0 : Int32)
  · skip
    refine sifN X1 hx (hb hby d2_5) rfl (teq hc5).2 (pc' := 8) ?_
    refine saloadN X1 hx (hb hby d2_8) rfl rfl rfl (pc' := 9) ?_
    have hn0 : n = 0 := own_n00 hn9 hc5
    rcases hJ with hI | ⟨aS, bS, Ls, g1, g2, g3, g4⟩
    · skip
      obtain ⟨aS, T2, h2, k2, bS, kk2, X2, e2, E2, hS, hk, hZ, hown, g1, g2, g3, g4', -, -, -, Ls, st2⟩ := ldcSVL X1 hx hZ hown (hw _ (List.mem_of_getElem? (i := 14) rfl)) (own_sa hw) e1 hS (by omega) (Fr.nil _) (fun b cl hcl => by rw [hh]; exact O0.2.2 b cl hcl) (Ts := []) ⟨#[], by rw [hI]; simp, fun q hq => by simp at hq⟩ (by simp) hcH hcw (vs := []) (z := 0) ⟨by simp, rfl⟩ (by decide) rfl (g := (mkF m 9 #[.val (.ref x), .val (.ref a), .val (.int (0 : Int32)), .val (.int (Int32.ofNat n)), .val .null, .unset] [(.ref x)])) rfl (hb hby d2_9) (n := 0) (by decide) (by decide) (by decide) (by decide)
      have g4 := oAI.ofArv0 g4'
      refine oOn st2 ?_
      have z3 : h0.size ≤ h2.size := E2.1
      have lsA : @LT.lt Nat _ aS h2.size := g1.lt
      have lsB : @LT.lt Nat _ bS h2.size := g4.lt
      have f4 := (F0.ext E2)
      have f5 := (E0.ext E2)
      have nax : @Ne Nat aS x := g3.ne f4 nofun
      have nbx : @Ne Nat bS x := fun q => oNeO f5 (hw _ (List.mem_of_getElem? (i := 2) rfl)) g4 q.symm
      show oGl p e below (T2.setTop (mkF m 11 #[.val (.ref x), .val (.ref a), .val (.int (0 : Int32)), .val (.int (Int32.ofNat n)), .val .null, .unset] [(.ref aS), (.ref x)])) _
      obtain ⟨T6, X6, e6, st6⟩ := getF X2 hx hZ hown (host := "") (Or.inl (hw _ (List.mem_of_getElem? (i := 20) rfl))) Via.refl e2 g3 (g := (mkF m 11 #[.val (.ref x), .val (.ref a), .val (.int (0 : Int32)), .val (.int (Int32.ofNat n)), .val .null, .unset] [(.ref aS), (.ref x)])) rfl rfl (hb hby d2_11)
      refine oOn st6 ?_
      show oGl p e below (T6.setTop (mkF m 14 #[.val (.ref x), .val (.ref a), .val (.int (0 : Int32)), .val (.int (Int32.ofNat n)), .val .null, .unset] [(.ref bS), (.ref x)])) _
      obtain ⟨T7, h7, X7, e7, W7, st7⟩ := putF X6 hx hZ hown (host := "") (Or.inl (hw _ (List.mem_of_getElem? (i := 20) rfl))) Via.refl e6 f4 f5 (Or.inr ⟨(hw _ (List.mem_of_getElem? (i := 16) rfl)), rfl, hnm⟩) (hw _ (List.mem_of_getElem? (i := 2) rfl)) (ty := (.array .byte)) (by decide) rfl rfl (g := (mkF m 14 #[.val (.ref x), .val (.ref a), .val (.int (0 : Int32)), .val (.int (Int32.ofNat n)), .val .null, .unset] [(.ref bS), (.ref x)])) rfl rfl (hb hby d2_14)
      refine oOn st7 ?_
      have z8 : h2.size ≤ h7.size := Nat.le_of_eq W7.size.symm
      have N7 := Fr.snoc X7 N0 (by omega)
      have f7 := Fld.same W7 f4
      show oGl p e below (T7.setTop (mkF m 17 #[.val (.ref x), .val (.ref a), .val (.int (0 : Int32)), .val (.int (Int32.ofNat n)), .val .null, .unset] [])) _
      refine saloadN X7 hx (hb hby d2_17) rfl rfl rfl (pc' := 18) ?_
      refine oOn (ldcAgain X7 hx hZ hown (hw _ (List.mem_of_getElem? (i := 14) rfl)) Ls (g := (mkF m 18 #[.val (.ref x), .val (.ref a), .val (.int (0 : Int32)), .val (.int (Int32.ofNat n)), .val .null, .unset] [(.ref x)])) rfl (hb hby d2_18)) ?_
      show oGl p e below (T7.setTop (mkF m 20 #[.val (.ref x), .val (.ref a), .val (.int (0 : Int32)), .val (.int (Int32.ofNat n)), .val .null, .unset] [(.ref aS), (.ref x)])) _
      have f10 := (g2.other W7 (Or.inl (oNe (by omega))))
      obtain ⟨T9, X9, e9, st9⟩ := getF X7 hx hZ hown (host := "") (Or.inl (hw _ (List.mem_of_getElem? (i := 21) rfl))) Via.refl e7 f10 (g := (mkF m 20 #[.val (.ref x), .val (.ref a), .val (.int (0 : Int32)), .val (.int (Int32.ofNat n)), .val .null, .unset] [(.ref aS), (.ref x)])) rfl rfl (hb hby d2_20)
      refine oOn st9 ?_
      show oGl p e below (T9.setTop (mkF m 23 #[.val (.ref x), .val (.ref a), .val (.int (0 : Int32)), .val (.int (Int32.ofNat n)), .val .null, .unset] [(.int (0 : Int32)), (.ref x)])) _
      have f12 := ((F1.ext E2).other W7 (Or.inr (slot_ne (Or.inr (hw _ (List.mem_of_getElem? (i := 17) rfl))) (Or.inr (hw _ (List.mem_of_getElem? (i := 16) rfl))) (by decide) (t := .byte) (t' := (.array .byte)) (by decide) (by decide))))
      have f13 := (f5.wr W7)
      obtain ⟨T11, h11, X11, e11, W11, st11⟩ := putFN X9 hx hZ hown (hw _ (List.mem_of_getElem? (i := 21) rfl)) Via.refl e9 f12 f13 (Or.inr ⟨(hw _ (List.mem_of_getElem? (i := 17) rfl)), rfl, hnm⟩) (hw _ (List.mem_of_getElem? (i := 2) rfl)) (ty := .byte) (v' := (.int (0 : Int32))) (by decide) rfl rfl (g := (mkF m 23 #[.val (.ref x), .val (.ref a), .val (.int (0 : Int32)), .val (.int (Int32.ofNat n)), .val .null, .unset] [(.int (0 : Int32)), (.ref x)])) rfl rfl (hb hby d2_23)
      refine oOn st11 ?_
      have z14 : h7.size ≤ h11.size := Nat.le_of_eq W11.size.symm
      have N11 := Fr.snoc X11 N7 (by omega)
      have f11 := Fld.same W11 f12
      show oGl p e below (T11.setTop (mkF m 26 #[.val (.ref x), .val (.ref a), .val (.int (0 : Int32)), .val (.int (Int32.ofNat n)), .val .null, .unset] [])) _
      have kp15 : Keep h0 h11 [x] := ((((Keep.refl h0 [x]).ext E2).wr W7 (Or.inl (List.mem_of_getElem? (i := 0) rfl))).wr W11 (Or.inl (List.mem_of_getElem? (i := 0) rfl)))
      have f16 := (f7.other W11 (Or.inr (slot_ne (Or.inr (hw _ (List.mem_of_getElem? (i := 16) rfl))) (Or.inr (hw _ (List.mem_of_getElem? (i := 17) rfl))) (by decide) (t := (.array .byte)) (t' := .byte) (by decide) (by decide))))
      have f17 := ((g4.other W7 (oNe (by omega))).other W11 (oNe (by omega)))
      have f18 := (f13.wr W11)
      refine oRet0V X11 hS (by rw [e11]; omega) hx Bd.notSynchronized Bd.returns (hb hby d2_26) (by decide) (by decide) ?_
      show Q_rmStr4 Z x a n f cz sf h0 n0 _ T11.heap _ _
      rw [e11]
      exact ⟨rfl, N11, kp15, f18, ⟨bS, f16, Or.inl ⟨f11, by rw [hn0]; exact f17.congr (fun j hj => absurd hj (Nat.not_lt_zero _)), fun j hj => absurd hj (by rw [hn0]; exact Nat.not_lt_zero _)⟩⟩, trivial⟩
    · skip
      have Ls : Lit (s.setVm s.vm) "java/lang/String" 7 aS := Ls
      refine oOn (ldcAgain X1 hx hZ hown (hw _ (List.mem_of_getElem? (i := 14) rfl)) Ls (g := (mkF m 9 #[.val (.ref x), .val (.ref a), .val (.int (0 : Int32)), .val (.int (Int32.ofNat n)), .val .null, .unset] [(.ref x)])) rfl (hb hby d2_9)) ?_
      have lsA : @LT.lt Nat _ aS h0.size := g1.lt
      have lsB : @LT.lt Nat _ bS h0.size := g4.lt
      have nax : @Ne Nat aS x := g3.ne F0 nofun
      have nbx : @Ne Nat bS x := fun q => oNeO E0 (hw _ (List.mem_of_getElem? (i := 2) rfl)) g4 q.symm
      show oGl p e below (T1.setTop (mkF m 11 #[.val (.ref x), .val (.ref a), .val (.int (0 : Int32)), .val (.int (Int32.ofNat n)), .val .null, .unset] [(.ref aS), (.ref x)])) _
      obtain ⟨T19, X19, e19, st19⟩ := getF X1 hx hZ hown (host := "") (Or.inl (hw _ (List.mem_of_getElem? (i := 20) rfl))) Via.refl e1 g3 (g := (mkF m 11 #[.val (.ref x), .val (.ref a), .val (.int (0 : Int32)), .val (.int (Int32.ofNat n)), .val .null, .unset] [(.ref aS), (.ref x)])) rfl rfl (hb hby d2_11)
      refine oOn st19 ?_
      show oGl p e below (T19.setTop (mkF m 14 #[.val (.ref x), .val (.ref a), .val (.int (0 : Int32)), .val (.int (Int32.ofNat n)), .val .null, .unset] [(.ref bS), (.ref x)])) _
      obtain ⟨T20, h20, X20, e20, W20, st20⟩ := putF X19 hx hZ hown (host := "") (Or.inl (hw _ (List.mem_of_getElem? (i := 20) rfl))) Via.refl e19 F0 E0 (Or.inr ⟨(hw _ (List.mem_of_getElem? (i := 16) rfl)), rfl, hnm⟩) (hw _ (List.mem_of_getElem? (i := 2) rfl)) (ty := (.array .byte)) (by decide) rfl rfl (g := (mkF m 14 #[.val (.ref x), .val (.ref a), .val (.int (0 : Int32)), .val (.int (Int32.ofNat n)), .val .null, .unset] [(.ref bS), (.ref x)])) rfl rfl (hb hby d2_14)
      refine oOn st20 ?_
      have z21 : h0.size ≤ h20.size := Nat.le_of_eq W20.size.symm
      have N20 := Fr.snoc X20 N0 (by omega)
      have f20 := Fld.same W20 F0
      show oGl p e below (T20.setTop (mkF m 17 #[.val (.ref x), .val (.ref a), .val (.int (0 : Int32)), .val (.int (Int32.ofNat n)), .val .null, .unset] [])) _
      refine saloadN X20 hx (hb hby d2_17) rfl rfl rfl (pc' := 18) ?_
      refine oOn (ldcAgain X20 hx hZ hown (hw _ (List.mem_of_getElem? (i := 14) rfl)) Ls (g := (mkF m 18 #[.val (.ref x), .val (.ref a), .val (.int (0 : Int32)), .val (.int (Int32.ofNat n)), .val .null, .unset] [(.ref x)])) rfl (hb hby d2_18)) ?_
      show oGl p e below (T20.setTop (mkF m 20 #[.val (.ref x), .val (.ref a), .val (.int (0 : Int32)), .val (.int (Int32.ofNat n)), .val .null, .unset] [(.ref aS), (.ref x)])) _
      have f23 := (g2.other W20 (Or.inl (oNe (by omega))))
      obtain ⟨T22, X22, e22, st22⟩ := getF X20 hx hZ hown (host := "") (Or.inl (hw _ (List.mem_of_getElem? (i := 21) rfl))) Via.refl e20 f23 (g := (mkF m 20 #[.val (.ref x), .val (.ref a), .val (.int (0 : Int32)), .val (.int (Int32.ofNat n)), .val .null, .unset] [(.ref aS), (.ref x)])) rfl rfl (hb hby d2_20)
      refine oOn st22 ?_
      show oGl p e below (T22.setTop (mkF m 23 #[.val (.ref x), .val (.ref a), .val (.int (0 : Int32)), .val (.int (Int32.ofNat n)), .val .null, .unset] [(.int (0 : Int32)), (.ref x)])) _
      have f25 := (F1.other W20 (Or.inr (slot_ne (Or.inr (hw _ (List.mem_of_getElem? (i := 17) rfl))) (Or.inr (hw _ (List.mem_of_getElem? (i := 16) rfl))) (by decide) (t := .byte) (t' := (.array .byte)) (by decide) (by decide))))
      have f26 := (E0.wr W20)
      obtain ⟨T24, h24, X24, e24, W24, st24⟩ := putFN X22 hx hZ hown (hw _ (List.mem_of_getElem? (i := 21) rfl)) Via.refl e22 f25 f26 (Or.inr ⟨(hw _ (List.mem_of_getElem? (i := 17) rfl)), rfl, hnm⟩) (hw _ (List.mem_of_getElem? (i := 2) rfl)) (ty := .byte) (v' := (.int (0 : Int32))) (by decide) rfl rfl (g := (mkF m 23 #[.val (.ref x), .val (.ref a), .val (.int (0 : Int32)), .val (.int (Int32.ofNat n)), .val .null, .unset] [(.int (0 : Int32)), (.ref x)])) rfl rfl (hb hby d2_23)
      refine oOn st24 ?_
      have z27 : h20.size ≤ h24.size := Nat.le_of_eq W24.size.symm
      have N24 := Fr.snoc X24 N20 (by omega)
      have f24 := Fld.same W24 f25
      show oGl p e below (T24.setTop (mkF m 26 #[.val (.ref x), .val (.ref a), .val (.int (0 : Int32)), .val (.int (Int32.ofNat n)), .val .null, .unset] [])) _
      have kp28 : Keep h0 h24 [x] := (((Keep.refl h0 [x]).wr W20 (Or.inl (List.mem_of_getElem? (i := 0) rfl))).wr W24 (Or.inl (List.mem_of_getElem? (i := 0) rfl)))
      have f29 := (f20.other W24 (Or.inr (slot_ne (Or.inr (hw _ (List.mem_of_getElem? (i := 16) rfl))) (Or.inr (hw _ (List.mem_of_getElem? (i := 17) rfl))) (by decide) (t := (.array .byte)) (t' := .byte) (by decide) (by decide))))
      have f30 := ((g4.other W20 (oNe (by omega))).other W24 (oNe (by omega)))
      have f31 := (f26.wr W24)
      refine oRet0V X24 hS (by rw [e24]; omega) hx Bd.notSynchronized Bd.returns (hb hby d2_26) (by decide) (by decide) ?_
      show Q_rmStr4 Z x a n f cz sf h0 n0 _ T24.heap _ _
      rw [e24]
      exact ⟨rfl, N24, kp28, f31, ⟨bS, f29, Or.inl ⟨f24, by rw [hn0]; exact f30.congr (fun j hj => absurd hj (Nat.not_lt_zero _)), fun j hj => absurd hj (by rw [hn0]; exact Nat.not_lt_zero _)⟩⟩, trivial⟩
  · skip
    refine sifY X1 hx (hb hby d2_5) (by decide) (by decide) (feq hc5).2 (pc' := 27) ?_
    obtain ⟨T32, X32, e32, st32⟩ := getS2 X1 hx hZ hown (host := "") (Or.inl (hw _ (List.mem_of_getElem? (i := 36) rfl))) Via.refl e1 (SCS.ext O0.2) (g := (mkF m 27 #[.val (.ref x), .val (.ref a), .val (.int (0 : Int32)), .val (.int (Int32.ofNat n)), .val .null, .unset] [])) rfl (hb hby d2_27)
    refine oOn st32 ?_
    show oGl p e below (T32.setTop (mkF m 30 #[.val (.ref x), .val (.ref a), .val (.int (0 : Int32)), .val (.int (Int32.ofNat n)), .val .null, .unset] [(.int cz)])) _
    refine sifN X32 hx (hb hby d2_30) rfl (feq (hcz : ¬ (cz = (0 : Int32)))).1 (pc' := 33) ?_
    refine saloadN X32 hx (hb hby d2_33) rfl rfl rfl (pc' := 34) ?_
    refine siloadN X32 hx (hb hby d2_34) rfl rfl (pc' := 35) ?_
    refine siloadN X32 hx (hb hby d2_35) rfl rfl (pc' := 36) ?_
    have hz33 : n0 ≤ h0.size := by omega
    obtain ⟨_, _, ⟨T33, L33, k33, n33⟩, -, X33, ⟨Lc33, hQ33, l33, y33, z33⟩, st33⟩ := Jvm.LawKit.callS X32 hx (y := (⟨"java/lang/StringUTF16", "compress", "([CII)[B"⟩ : MethodName)) hown (mvT hZ (hw _ (List.mem_of_getElem? (i := 37) rfl))) (mvT hZ (hw _ (List.mem_of_getElem? (i := 38) rfl))) (mvT hZ (hw _ (List.mem_of_getElem? (i := 39) rfl))) (mvT hZ (hw _ (List.mem_of_getElem? (i := 40) rfl))) (by decide) (backOf (W := 0) (rmCmp3 l Z a0 hw [] a n f cz sf h0 n0 hz33 O0 SCS hcz SSF hsf SAD SHI SLO PV hcap hch) hZ (hw _ (List.mem_of_getElem? (i := 40) rfl)) (hw _ (List.mem_of_getElem? (i := 39) rfl)) (by decide) (by decide)) (g := (mkF m 36 #[.val (.ref x), .val (.ref a), .val (.int (0 : Int32)), .val (.int (Int32.ofNat n)), .val .null, .unset] [(.int (Int32.ofNat n)), (.int (0 : Int32)), (.ref a)])) rfl (by rw [hml]; rfl) (argsL := [(.ref a), (.int (0 : Int32)), (.int (Int32.ofNat n))]) (rest := []) (lenOf pd_4 rfl) rfl (by show 2 * 0 + _ ≤ _; exact Nat.le_of_eq rfl) (hb hby d2_36) (fun _ _ => ⟨rfl, e32, (by decide : 0 + 2 ≤ _), (by decide : 0 + 195 ≤ _)⟩)
    dsimp only [Pt.U, Pt.locs, Pt.cells, Pt.slots] at X33 l33 y33 z33 st33 hQ33
    subst l33 y33 z33
    obtain ⟨d33, rfl, N33q, K33, zd33, pq33⟩ := hQ33
    have N33 := Fr.app N0 N33q
    have z34 : h0.size ≤ T33.heap.size := K33.1
    refine oOn st33 ?_
    show oGl p e below (T33.setTop (mkF m 39 #[.val (.ref x), .val (.ref a), .val (.int (0 : Int32)), .val (.int (Int32.ofNat n)), .val .null, .unset] [(.ref d33)])) _
    rcases pq33 with ⟨hlat, Vd33⟩ | ⟨hpos, Vd33⟩
    · skip
      have ld33 : @LT.lt Nat _ d33 T33.heap.size := Vd33.lt
      refine sastore X33 hx (hb hby d2_39) rfl rfl rfl (l' := #[.val (.ref x), .val (.ref a), .val (.int (0 : Int32)), .val (.int (Int32.ofNat n)), .val .null, .val (.ref d33)]) (pc' := 41) ?_
      refine saloadN X33 hx (hb hby d2_41) rfl rfl rfl (pc' := 42) ?_
      refine saload X33 hx (hb hby d2_42) rfl rfl rfl (pc' := 44) ?_
      refine siloadN X33 hx (hb hby d2_44) rfl rfl (pc' := 45) ?_
      have hz35 : n0 ≤ T33.heap.size := by omega
      obtain ⟨_, _, ⟨T35, L35, k35, n35⟩, -, X35, ⟨Lc35, hQ35, l35, y35, z35⟩, st35⟩ := Jvm.LawKit.callS X33 hx (y := (⟨"java/lang/StringUTF16", "coderFromArrayLen", "([BI)B"⟩ : MethodName)) hown (mvT hZ (hw _ (List.mem_of_getElem? (i := 44) rfl))) (mvT hZ (hw _ (List.mem_of_getElem? (i := 45) rfl))) (mvT hZ (hw _ (List.mem_of_getElem? (i := 39) rfl))) (mvT hZ (hw _ (List.mem_of_getElem? (i := 46) rfl))) (by decide) (backOf (W := 1) (rmCod0 l Z a0 hw [] d33 n (oLo f) T33.heap n0 hz35 Vd33) hZ (hw _ (List.mem_of_getElem? (i := 46) rfl)) (hw _ (List.mem_of_getElem? (i := 39) rfl)) (by decide) (by decide)) (g := (mkF m 45 #[.val (.ref x), .val (.ref a), .val (.int (0 : Int32)), .val (.int (Int32.ofNat n)), .val .null, .val (.ref d33)] [(.int (Int32.ofNat n)), (.ref d33), (.ref x)])) rfl (by rw [hml]; rfl) (argsL := [(.ref d33), (.int (Int32.ofNat n))]) (rest := [(.ref x)]) (lenOf pd_6 rfl) rfl (by show 2 * 0 + _ ≤ _; exact Nat.le_of_eq rfl) (hb hby d2_45) (fun _ _ => ⟨rfl, rfl, (by decide : 2 + 0 ≤ _), (by decide : 195 + 0 ≤ _)⟩)
      dsimp only [Pt.U, Pt.locs, Pt.cells, Pt.slots] at X35 l35 y35 z35 st35 hQ35
      subst l35 y35 z35
      obtain ⟨rfl, N35q, eh35⟩ := hQ35
      have N35 := Fr.app N33 N35q
      refine oOn st35 ?_
      show oGl p e below (T35.setTop (mkF m 48 #[.val (.ref x), .val (.ref a), .val (.int (0 : Int32)), .val (.int (Int32.ofNat n)), .val .null, .val (.ref d33)] [(.int (0 : Int32)), (.ref x)])) _
      have f37 := (F1.keep K33 nin0)
      have f38 := (E0.keep K33)
      have f39 := (F0.keep K33 nin0)
      obtain ⟨T36, h36, X36, e36, W36, st36⟩ := putFN X35 hx hZ hown (hw _ (List.mem_of_getElem? (i := 21) rfl)) Via.refl eh35 f37 f38 (Or.inr ⟨(hw _ (List.mem_of_getElem? (i := 17) rfl)), rfl, hnm⟩) (hw _ (List.mem_of_getElem? (i := 2) rfl)) (ty := .byte) (v' := (.int (0 : Int32))) (by decide) rfl rfl (g := (mkF m 48 #[.val (.ref x), .val (.ref a), .val (.int (0 : Int32)), .val (.int (Int32.ofNat n)), .val .null, .val (.ref d33)] [(.int (0 : Int32)), (.ref x)])) rfl rfl (hb hby d2_48)
      refine oOn st36 ?_
      have z40 : T33.heap.size ≤ h36.size := Nat.le_of_eq W36.size.symm
      have N36 := Fr.snoc X36 N35 (by omega)
      have f36 := Fld.same W36 f37
      show oGl p e below (T36.setTop (mkF m 51 #[.val (.ref x), .val (.ref a), .val (.int (0 : Int32)), .val (.int (Int32.ofNat n)), .val .null, .val (.ref d33)] [])) _
      refine saloadN X36 hx (hb hby d2_51) rfl rfl rfl (pc' := 52) ?_
      refine saload X36 hx (hb hby d2_52) rfl rfl rfl (pc' := 54) ?_
      have f42 := (f39.other W36 (Or.inr (slot_ne (Or.inr (hw _ (List.mem_of_getElem? (i := 16) rfl))) (Or.inr (hw _ (List.mem_of_getElem? (i := 17) rfl))) (by decide) (t := (.array .byte)) (t' := .byte) (by decide) (by decide))))
      have f43 := (f38.wr W36)
      obtain ⟨T41, h41, X41, e41, W41, st41⟩ := putF X36 hx hZ hown (host := "") (Or.inl (hw _ (List.mem_of_getElem? (i := 20) rfl))) Via.refl e36 f42 f43 (Or.inr ⟨(hw _ (List.mem_of_getElem? (i := 16) rfl)), rfl, hnm⟩) (hw _ (List.mem_of_getElem? (i := 2) rfl)) (ty := (.array .byte)) (by decide) rfl rfl (g := (mkF m 54 #[.val (.ref x), .val (.ref a), .val (.int (0 : Int32)), .val (.int (Int32.ofNat n)), .val .null, .val (.ref d33)] [(.ref d33), (.ref x)])) rfl rfl (hb hby d2_54)
      refine oOn st41 ?_
      have z44 : h36.size ≤ h41.size := Nat.le_of_eq W41.size.symm
      have N41 := Fr.snoc X41 N36 (by omega)
      have f41 := Fld.same W41 f42
      show oGl p e below (T41.setTop (mkF m 57 #[.val (.ref x), .val (.ref a), .val (.int (0 : Int32)), .val (.int (Int32.ofNat n)), .val .null, .val (.ref d33)] [])) _
      have kp45 : Keep h0 h41 [x] := ((((Keep.refl h0 [x]).trans K33 all0).wr W36 (Or.inl (List.mem_of_getElem? (i := 0) rfl))).wr W41 (Or.inl (List.mem_of_getElem? (i := 0) rfl)))
      have f46 := (f36.other W41 (Or.inr (slot_ne (Or.inr (hw _ (List.mem_of_getElem? (i := 17) rfl))) (Or.inr (hw _ (List.mem_of_getElem? (i := 16) rfl))) (by decide) (t := .byte) (t' := (.array .byte)) (by decide) (by decide))))
      have f47 := ((Vd33.other W36 (oNe (by omega))).other W41 (oNe (by omega)))
      have f48 := (f43.wr W41)
      refine oRet0V X41 hS (by rw [e41]; omega) hx Bd.notSynchronized Bd.returns (hb hby d2_57) (by decide) (by decide) ?_
      show Q_rmStr4 Z x a n f cz sf h0 n0 _ T41.heap _ _
      rw [e41]
      exact ⟨rfl, N41, kp45, f48, ⟨d33, f41, Or.inl ⟨f46, f47, hlat⟩⟩, trivial⟩
    · skip
      have ld33 : @LT.lt Nat _ d33 T33.heap.size := Vd33.lt
      refine sastore X33 hx (hb hby d2_39) rfl rfl rfl (l' := #[.val (.ref x), .val (.ref a), .val (.int (0 : Int32)), .val (.int (Int32.ofNat n)), .val .null, .val (.ref d33)]) (pc' := 41) ?_
      refine saloadN X33 hx (hb hby d2_41) rfl rfl rfl (pc' := 42) ?_
      refine saload X33 hx (hb hby d2_42) rfl rfl rfl (pc' := 44) ?_
      refine siloadN X33 hx (hb hby d2_44) rfl rfl (pc' := 45) ?_
      have hz49 : n0 ≤ T33.heap.size := by omega
      obtain ⟨_, _, ⟨T49, L49, k49, n49⟩, -, X49, ⟨Lc49, hQ49, l49, y49, z49⟩, st49⟩ := Jvm.LawKit.callS X33 hx (y := (⟨"java/lang/StringUTF16", "coderFromArrayLen", "([BI)B"⟩ : MethodName)) hown (mvT hZ (hw _ (List.mem_of_getElem? (i := 44) rfl))) (mvT hZ (hw _ (List.mem_of_getElem? (i := 45) rfl))) (mvT hZ (hw _ (List.mem_of_getElem? (i := 39) rfl))) (mvT hZ (hw _ (List.mem_of_getElem? (i := 46) rfl))) (by decide) (backOf (W := 1) (rmCod1 l Z a0 hw [] d33 n (oU f) T33.heap n0 hz49 Vd33 hpos (by omega)) hZ (hw _ (List.mem_of_getElem? (i := 46) rfl)) (hw _ (List.mem_of_getElem? (i := 39) rfl)) (by decide) (by decide)) (g := (mkF m 45 #[.val (.ref x), .val (.ref a), .val (.int (0 : Int32)), .val (.int (Int32.ofNat n)), .val .null, .val (.ref d33)] [(.int (Int32.ofNat n)), (.ref d33), (.ref x)])) rfl (by rw [hml]; rfl) (argsL := [(.ref d33), (.int (Int32.ofNat n))]) (rest := [(.ref x)]) (lenOf pd_6 rfl) rfl (by show 2 * 0 + _ ≤ _; exact Nat.le_of_eq rfl) (hb hby d2_45) (fun _ _ => ⟨rfl, rfl, (by decide : 2 + 0 ≤ _), (by decide : 195 + 0 ≤ _)⟩)
      dsimp only [Pt.U, Pt.locs, Pt.cells, Pt.slots] at X49 l49 y49 z49 st49 hQ49
      subst l49 y49 z49
      obtain ⟨rfl, N49q, eh49⟩ := hQ49
      have N49 := Fr.app N33 N49q
      refine oOn st49 ?_
      show oGl p e below (T49.setTop (mkF m 48 #[.val (.ref x), .val (.ref a), .val (.int (0 : Int32)), .val (.int (Int32.ofNat n)), .val .null, .val (.ref d33)] [(.int (1 : Int32)), (.ref x)])) _
      have f51 := (F1.keep K33 nin0)
      have f52 := (E0.keep K33)
      have f53 := (F0.keep K33 nin0)
      obtain ⟨T50, h50, X50, e50, W50, st50⟩ := putFN X49 hx hZ hown (hw _ (List.mem_of_getElem? (i := 21) rfl)) Via.refl eh49 f51 f52 (Or.inr ⟨(hw _ (List.mem_of_getElem? (i := 17) rfl)), rfl, hnm⟩) (hw _ (List.mem_of_getElem? (i := 2) rfl)) (ty := .byte) (v' := (.int (1 : Int32))) (by decide) rfl rfl (g := (mkF m 48 #[.val (.ref x), .val (.ref a), .val (.int (0 : Int32)), .val (.int (Int32.ofNat n)), .val .null, .val (.ref d33)] [(.int (1 : Int32)), (.ref x)])) rfl rfl (hb hby d2_48)
      refine oOn st50 ?_
      have z54 : T33.heap.size ≤ h50.size := Nat.le_of_eq W50.size.symm
      have N50 := Fr.snoc X50 N49 (by omega)
      have f50 := Fld.same W50 f51
      show oGl p e below (T50.setTop (mkF m 51 #[.val (.ref x), .val (.ref a), .val (.int (0 : Int32)), .val (.int (Int32.ofNat n)), .val .null, .val (.ref d33)] [])) _
      refine saloadN X50 hx (hb hby d2_51) rfl rfl rfl (pc' := 52) ?_
      refine saload X50 hx (hb hby d2_52) rfl rfl rfl (pc' := 54) ?_
      have f56 := (f53.other W50 (Or.inr (slot_ne (Or.inr (hw _ (List.mem_of_getElem? (i := 16) rfl))) (Or.inr (hw _ (List.mem_of_getElem? (i := 17) rfl))) (by decide) (t := (.array .byte)) (t' := .byte) (by decide) (by decide))))
      have f57 := (f52.wr W50)
      obtain ⟨T55, h55, X55, e55, W55, st55⟩ := putF X50 hx hZ hown (host := "") (Or.inl (hw _ (List.mem_of_getElem? (i := 20) rfl))) Via.refl e50 f56 f57 (Or.inr ⟨(hw _ (List.mem_of_getElem? (i := 16) rfl)), rfl, hnm⟩) (hw _ (List.mem_of_getElem? (i := 2) rfl)) (ty := (.array .byte)) (by decide) rfl rfl (g := (mkF m 54 #[.val (.ref x), .val (.ref a), .val (.int (0 : Int32)), .val (.int (Int32.ofNat n)), .val .null, .val (.ref d33)] [(.ref d33), (.ref x)])) rfl rfl (hb hby d2_54)
      refine oOn st55 ?_
      have z58 : h50.size ≤ h55.size := Nat.le_of_eq W55.size.symm
      have N55 := Fr.snoc X55 N50 (by omega)
      have f55 := Fld.same W55 f56
      show oGl p e below (T55.setTop (mkF m 57 #[.val (.ref x), .val (.ref a), .val (.int (0 : Int32)), .val (.int (Int32.ofNat n)), .val .null, .val (.ref d33)] [])) _
      have kp59 : Keep h0 h55 [x] := ((((Keep.refl h0 [x]).trans K33 all0).wr W50 (Or.inl (List.mem_of_getElem? (i := 0) rfl))).wr W55 (Or.inl (List.mem_of_getElem? (i := 0) rfl)))
      have f60 := (f50.other W55 (Or.inr (slot_ne (Or.inr (hw _ (List.mem_of_getElem? (i := 17) rfl))) (Or.inr (hw _ (List.mem_of_getElem? (i := 16) rfl))) (by decide) (t := .byte) (t' := (.array .byte)) (by decide) (by decide))))
      have f61 := ((Vd33.other W50 (oNe (by omega))).other W55 (oNe (by omega)))
      have f62 := (f57.wr W55)
      refine oRet0V X55 hS (by rw [e55]; omega) hx Bd.notSynchronized Bd.returns (hb hby d2_57) (by decide) (by decide) ?_
      show Q_rmStr4 Z x a n f cz sf h0 n0 _ T55.heap _ _
      rw [e55]
      exact ⟨rfl, N55, kp59, f62, ⟨d33, f55, Or.inr ⟨f60, f61⟩⟩, trivial⟩
theorem d1_0 : decode jdk_42_method_3_code 0 = .ok (.aload_n 0, 1) := by decide +kernel
theorem d1_1 : decode jdk_42_method_3_code 1 = .ok (.aload_n 1, 1) := by decide +kernel
theorem d1_2 : decode jdk_42_method_3_code 2 = .ok (.iconst 0, 1) := by decide +kernel
theorem d1_3 : decode jdk_42_method_3_code 3 = .ok (.aload_n 1, 1) := by decide +kernel
theorem d1_4 : decode jdk_42_method_3_code 4 = .ok (.arraylength, 1) := by decide +kernel
theorem d1_5 : decode jdk_42_method_3_code 5 = .ok (.aconst_null, 1) := by decide +kernel
theorem d1_6 : decode jdk_42_method_3_code 6 = .ok (.invokespecial 27, 3) := by decide +kernel
theorem pd_7 : parseMethodDescriptor "([CIILjava/lang/Void;)V" = some ⟨[(.array .char), .int, .int, (.object "java/lang/Void")], none⟩ := by decide +kernel
theorem d1_9 : decode jdk_42_method_3_code 9 = .ok (.return_, 1) := by decide +kernel
theorem ef_rmStr (m : MethodId) (x0 : Nat) (x1 : Nat)  : entryFrame m #[(.ref x0), (.ref x1)] 2 = mkF m 0 #[.val (.ref x0), .val (.ref x1)] [] := by first | (simp [entryFrame, mkF, argsToLocals, Value.category, maxLocals]; done) | rfl
def Q_rmStr (Z : State) (x a n : Nat) (f : Nat → Int32) (cz : Int32) (sf : Value) (h0 : Heap) (n0 : Nat) (vv : Option Value) (h : Heap) (vm : Vm) (L : List Loc) : Prop := vv = none ∧ Fr n0 L ∧ Keep h0 h [x] ∧ Exa Z h x "java/lang/String" ∧ oStr Z h x n f ∧ True
set_option maxRecDepth 65536 in
set_option maxHeartbeats 40000000 in
theorem rmStr (l : Launch) (Z : State) (a0 : Array Value) (hw : ∀ d ∈ tables_1, d.before a0 Z = true) (ws : List Jvm.Cond) (x a n : Nat) (f : Nat → Int32) (cz : Int32) (sf : Value) (h0 : Heap) (n0 : Nat) (Z0 : n0 ≤ h0.size) (PV : oAI Z h0 a .char n f) (hcap : n ≤ 65) (hch : oChr f n) (hxa : x ≠ a) (E0 : Exa Z h0 x "java/lang/String") (F0 : Fld Z h0 x "java/lang/String" "value" "[B" .null) (F1 : Fld Z h0 x "java/lang/String" "coder" "B" (.int 0)) (gx : n0 ≤ x) (O0 : Old Z n0 h0) (SCS : Sta Z Z.heap "java/lang/String" "COMPACT_STRINGS" "Z" (.int cz)) (hcz : ¬ cz = (0 : Int32)) (SSF : Sta Z Z.heap "jdk/internal/util/Preconditions" "SIOOBE_FORMATTER" "Ljava/util/function/BiFunction;" sf) (hsf : sf.isRef = true) (SAD : Sta Z Z.heap "java/lang/StringUTF16" "$assertionsDisabled" "Z" (.int 1)) (SHI : Sta Z Z.heap "java/lang/StringUTF16" "HI_BYTE_SHIFT" "I" (.int 0)) (SLO : Sta Z Z.heap "java/lang/StringUTF16" "LO_BYTE_SHIFT" "I" (.int 8)) (hcH : Jvm.Lit.constHeld Z "java/lang/String" 7) (hcw : Jvm.Lit.compactW.before a0 Z = true) :
    MetFree l (⟨"java/lang/String", "<init>", "([C)V"⟩ : MethodName) (head1 (Jvm.Cond.code (⟨"java/lang/String", "<init>", "([C)V"⟩ : MethodName) jdk_42_method_3_code 2 (none : Option FieldType) :: ws) ({ frames := 5, cells := 2, slots := 195, locals := 74 } : Room)) (fun aA uU => aA = #[(.ref x), (.ref a)] ∧ Z.Warmed39 uU.vm ∧ uU.heap = h0 ∧ oEm Z uU.vm h0) (fun _ _ _ _ _ => True) (fun _ uU oO uU' => ∃ vV lL, oO = .returned vV ∧ Q_rmStr Z x a n f cz sf h0 n0 vV uU'.heap uU'.vm lL ∧ ReturnedEndW uU oO uU' lL ({ frames := 5, cells := 2, slots := 195, locals := 74 } : Room).cells ({ frames := 5, cells := 2, slots := 195, locals := 74 } : Room).slots) := by
  refine MetFree.of_bodySF (plainFor_of_name pn_String) hisR ?_
  intro p e s m args below meth c s₁ Bd hml0 hP hK
  obtain ⟨rfl, hZ, hh, hJ⟩ := hP
  have hx := Bd.exec
  have hby := Bd.bytes
  have hml : c.maxLocals = 2 := hml0
  have hown : s.vm.findClass "java/lang/String" = some m.cls := findClass_of_methodNamed Bd.named
  have hnm := (name_of_methodNamed Bd.named Bd.method).1
  have X0 : Stand p l e ({ frames := 5, cells := 2, slots := 195, locals := 74 } : Room) (s.setVm s.vm) m #[(.ref x), (.ref a)] below meth c s₁ [] 0 0 := Stand.of_body Bd
  have e0 : s₁.heap = h0 := by rw [← hh, Bd.state]; rfl
  have N0 := Fr.nil n0
  have hS : s.Since s.vm 0 := (State.WarmedH.refl s).since 0
  have hk : 0 ≤ h0.size := Nat.zero_le _
  have hZ : Z.Warmed39 (s.setVm s.vm).vm := hZ
  have hown : (s.setVm s.vm).vm.findClass "java/lang/String" = some m.cls := hown
  refine oEnterV (oCast (ef_rmStr m x a ) ?_)
  show oGl p e below (s₁.setTop (mkF m 0 #[.val (.ref x), .val (.ref a)] [])) _
  refine saloadN X0 hx (hb hby d1_0) rfl rfl rfl (pc' := 1) ?_
  refine saloadN X0 hx (hb hby d1_1) rfl rfl rfl (pc' := 2) ?_
  refine siconst X0 hx (hb hby d1_2) rfl rfl (z := 0) (pc' := 3) ?_
  refine saloadN X0 hx (hb hby d1_3) rfl rfl rfl (pc' := 4) ?_
  refine oOn (PV.len X0 hx hZ e0 (g := (mkF m 4 #[.val (.ref x), .val (.ref a)] [(.ref a), (.int (0 : Int32)), (.ref a), (.ref x)])) rfl rfl (hb hby d1_4)) ?_
  show oGl p e below (s₁.setTop (mkF m 5 #[.val (.ref x), .val (.ref a)] [(.int (Int32.ofNat n)), (.int (0 : Int32)), (.ref a), (.ref x)])) _
  refine saconst_null X0 hx (hb hby d1_5) rfl  (pc' := 6) ?_
  have hz1 : n0 ≤ h0.size := by omega
  obtain ⟨_, _, ⟨T1, L1, k1, n1⟩, -, X1, hS2, hg2, ⟨Lc1, hQ1, l1, y1, z1⟩, st1⟩ := X0.specialBackS hx (y := (⟨"java/lang/String", "<init>", "([CIILjava/lang/Void;)V"⟩ : MethodName)) rfl hown (mvT hZ (hw _ (List.mem_of_getElem? (i := 7) rfl))) (mvT hZ (hw _ (List.mem_of_getElem? (i := 8) rfl))) (mvT hZ (hw _ (List.mem_of_getElem? (i := 10) rfl))) (by decide) (backOfV (J := fun vm => oEm Z vm h0) (W := 0) (rmStr4 l Z a0 hw [] x a n f cz sf h0 n0 hz1 PV hcap hch hxa E0 F0 F1 gx O0 SCS hcz SSF hsf SAD SHI SLO hcH hcw) hZ (hw _ (List.mem_of_getElem? (i := 10) rfl)) (hw _ (List.mem_of_getElem? (i := 3) rfl)) (by decide) (by decide)) (g := (mkF m 6 #[.val (.ref x), .val (.ref a)] [.null, (.int (Int32.ofNat n)), (.int (0 : Int32)), (.ref a), (.ref x)])) rfl (by rw [hml]; rfl) (Steps.refl _) (a := x) (argsL := [(.ref a), (.int (0 : Int32)), (.int (Int32.ofNat n)), .null]) (rest := []) (lenOf pd_7 rfl) rfl (by show 2 * 0 + _ ≤ _; exact Nat.le_of_eq rfl) (hb hby d1_6) (fun _ hWw => ⟨rfl, e0, (by decide : 0 + 2 ≤ _), (by decide : 0 + 195 ≤ _), hJ.warm hWw⟩)
  dsimp only [Pt.U, Pt.locs, Pt.cells, Pt.slots] at X1 l1 y1 z1 st1 hQ1 hS2 hg2
  subst l1 y1 z1
  obtain ⟨X1, hS, hZ, hown⟩ := rebS hS (n1 := s₁.heap.size) (by rw [e0]; omega) X1 hS2 hg2 hZ hown
  have hk : T1.heap.size ≤ T1.heap.size := Nat.le_refl _
  obtain ⟨rfl, N1q, K1, Ex1, Os1, -⟩ := hQ1
  have N1 := Fr.app N0 N1q
  have z2 : h0.size ≤ T1.heap.size := K1.1
  refine oSt st1 ?_
  show oGl p e below (T1.setTop (mkF m 9 #[.val (.ref x), .val (.ref a)] [])) _
  have kp3 : Keep h0 T1.heap [x] := ((Keep.refl h0 [x]).trans K1 (allS (Or.inl (List.mem_of_getElem? (i := 0) rfl)) all0))
  refine oRet0V X1 hS (by omega) hx Bd.notSynchronized Bd.returns (hb hby d1_9) (by decide) (by decide) ?_
  show Q_rmStr Z x a n f cz sf h0 n0 _ T1.heap _ _
  exact ⟨rfl, N1, kp3, Ex1, Os1, trivial⟩
theorem d11_0 : decode jdk_42_method_152_code 0 = .ok (.getstatic 38, 3) := by decide +kernel
theorem d11_3 : decode jdk_42_method_152_code 3 = .ok (.ifCond .eq 10, 3) := by decide +kernel
theorem d11_6 : decode jdk_42_method_152_code 6 = .ok (.aload_n 0, 1) := by decide +kernel
theorem d11_7 : decode jdk_42_method_152_code 7 = .ok (.getfield 15, 3) := by decide +kernel
theorem d11_10 : decode jdk_42_method_152_code 10 = .ok (.goto 4, 3) := by decide +kernel
theorem d11_14 : decode jdk_42_method_152_code 14 = .ok (.ireturn, 1) := by decide +kernel
theorem ef_rmCdr (m : MethodId) (x0 : Nat)  : entryFrame m #[(.ref x0)] 1 = mkF m 0 #[.val (.ref x0)] [] := by first | (simp [entryFrame, mkF, argsToLocals, Value.category, maxLocals]; done) | rfl
def Q_rmCdr (Z : State) (x : Nat) (k cz : Int32) (h0 : Heap) (n0 : Nat) (vv : Option Value) (h : Heap) (L : List Loc) : Prop := vv = some (.int k) ∧ Fr n0 L ∧ h = h0
set_option maxRecDepth 65536 in
set_option maxHeartbeats 40000000 in
theorem rmCdr (l : Launch) (Z : State) (a0 : Array Value) (hw : ∀ d ∈ tables_1, d.before a0 Z = true) (ws : List Jvm.Cond) (x : Nat) (k cz : Int32) (h0 : Heap) (n0 : Nat) (Z0 : n0 ≤ h0.size) (O0 : Old Z n0 h0) (SCS : Sta Z Z.heap "java/lang/String" "COMPACT_STRINGS" "Z" (.int cz)) (hcz : ¬ cz = (0 : Int32)) (C1 : Fld Z h0 x "java/lang/String" "coder" "B" (.int k)) (hk8 : nar .byte k = k) :
    MetFree l (⟨"java/lang/String", "coder", "()B"⟩ : MethodName) (head1 (Jvm.Cond.code (⟨"java/lang/String", "coder", "()B"⟩ : MethodName) jdk_42_method_152_code 1 (some .byte) :: ws) ({ frames := 0, cells := 0, slots := 0, locals := 0 } : Room)) (fun aA uU => aA = #[(.ref x)] ∧ Z.Warmed39 uU.vm ∧ uU.heap = h0) (fun _ _ _ _ _ => True) (fun _ uU oO uU' => ∃ vV lL, oO = .returned vV ∧ Q_rmCdr Z x k cz h0 n0 vV uU'.heap lL ∧ FrameEnd uU oO uU' lL ({ frames := 0, cells := 0, slots := 0, locals := 0 } : Room).cells ({ frames := 0, cells := 0, slots := 0, locals := 0 } : Room).slots) := by
  refine MetFree.of_bodySF (plainFor_of_name pn_String) hisR ?_
  intro p e s m args below meth c s₁ Bd hml0 hP hK
  obtain ⟨rfl, hZ, hh⟩ := hP
  have hx := Bd.exec
  have hby := Bd.bytes
  have hml : c.maxLocals = 1 := hml0
  have hown : s.vm.findClass "java/lang/String" = some m.cls := findClass_of_methodNamed Bd.named
  have hnm := (name_of_methodNamed Bd.named Bd.method).1
  have X0 : Stand p l e ({ frames := 0, cells := 0, slots := 0, locals := 0 } : Room) s m #[(.ref x)] below meth c s₁ [] 0 0 := Stand.of_body Bd
  have e0 : s₁.heap = h0 := by rw [← hh, Bd.state]; rfl
  have N0 := Fr.nil n0
  refine oEnter (oCast (ef_rmCdr m x ) ?_)
  show oGl p e below (s₁.setTop (mkF m 0 #[.val (.ref x)] [])) _
  obtain ⟨T1, X1, e1, st1⟩ := getS2 X0 hx hZ hown (host := "") (Or.inl (hw _ (List.mem_of_getElem? (i := 36) rfl))) Via.refl e0 (SCS.ext O0.2) (g := (mkF m 0 #[.val (.ref x)] [])) rfl (hb hby d11_0)
  refine oOn st1 ?_
  show oGl p e below (T1.setTop (mkF m 3 #[.val (.ref x)] [(.int cz)])) _
  refine sifN X1 hx (hb hby d11_3) rfl (feq (hcz : ¬ (cz = (0 : Int32)))).1 (pc' := 6) ?_
  refine saloadN X1 hx (hb hby d11_6) rfl rfl rfl (pc' := 7) ?_
  obtain ⟨T2, X2, e2, st2⟩ := getF X1 hx hZ hown (host := "") (Or.inl (hw _ (List.mem_of_getElem? (i := 21) rfl))) Via.refl e1 C1 (g := (mkF m 7 #[.val (.ref x)] [(.ref x)])) rfl rfl (hb hby d11_7)
  refine oOn st2 ?_
  show oGl p e below (T2.setTop (mkF m 10 #[.val (.ref x)] [(.int k)])) _
  refine sgoto X2 hx (hb hby d11_10) (by decide) (by decide)  (pc' := 14) ?_
  refine oRetN (t := .byte) X2 hx Bd.notSynchronized Bd.returns (by simp) (hb hby d11_14) (by decide) (by decide) ?_
  show Q_rmCdr Z x k cz h0 n0 _ T2.heap _
  rw [e2]
  exact ⟨congrArg (fun z => some (Value.int z)) hk8, N0, rfl⟩
theorem d14_0 : decode jdk_42_method_154_code 0 = .ok (.getstatic 38, 3) := by decide +kernel
theorem d14_3 : decode jdk_42_method_154_code 3 = .ok (.ifCond .eq 14, 3) := by decide +kernel
theorem d14_6 : decode jdk_42_method_154_code 6 = .ok (.aload_n 0, 1) := by decide +kernel
theorem d14_7 : decode jdk_42_method_154_code 7 = .ok (.getfield 15, 3) := by decide +kernel
theorem d14_10 : decode jdk_42_method_154_code 10 = .ok (.ifCond .ne 7, 3) := by decide +kernel
theorem d14_13 : decode jdk_42_method_154_code 13 = .ok (.iconst 1, 1) := by decide +kernel
theorem d14_14 : decode jdk_42_method_154_code 14 = .ok (.goto 4, 3) := by decide +kernel
theorem d14_18 : decode jdk_42_method_154_code 18 = .ok (.ireturn, 1) := by decide +kernel
theorem ef_rmIsL0 (m : MethodId) (x0 : Nat)  : entryFrame m #[(.ref x0)] 1 = mkF m 0 #[.val (.ref x0)] [] := by first | (simp [entryFrame, mkF, argsToLocals, Value.category, maxLocals]; done) | rfl
def Q_rmIsL0 (Z : State) (x : Nat) (cz : Int32) (h0 : Heap) (n0 : Nat) (vv : Option Value) (h : Heap) (L : List Loc) : Prop := vv = some (.int 1) ∧ Fr n0 L ∧ h = h0
set_option maxRecDepth 65536 in
set_option maxHeartbeats 40000000 in
theorem rmIsL0 (l : Launch) (Z : State) (a0 : Array Value) (hw : ∀ d ∈ tables_1, d.before a0 Z = true) (ws : List Jvm.Cond) (x : Nat) (cz : Int32) (h0 : Heap) (n0 : Nat) (Z0 : n0 ≤ h0.size) (O0 : Old Z n0 h0) (SCS : Sta Z Z.heap "java/lang/String" "COMPACT_STRINGS" "Z" (.int cz)) (hcz : ¬ cz = (0 : Int32)) (C1 : Fld Z h0 x "java/lang/String" "coder" "B" (.int 0)) :
    MetFree l (⟨"java/lang/String", "isLatin1", "()Z"⟩ : MethodName) (head1 (Jvm.Cond.code (⟨"java/lang/String", "isLatin1", "()Z"⟩ : MethodName) jdk_42_method_154_code 1 (some .boolean) :: ws) ({ frames := 0, cells := 0, slots := 0, locals := 0 } : Room)) (fun aA uU => aA = #[(.ref x)] ∧ Z.Warmed39 uU.vm ∧ uU.heap = h0) (fun _ _ _ _ _ => True) (fun _ uU oO uU' => ∃ vV lL, oO = .returned vV ∧ Q_rmIsL0 Z x cz h0 n0 vV uU'.heap lL ∧ FrameEnd uU oO uU' lL ({ frames := 0, cells := 0, slots := 0, locals := 0 } : Room).cells ({ frames := 0, cells := 0, slots := 0, locals := 0 } : Room).slots) := by
  refine MetFree.of_bodySF (plainFor_of_name pn_String) hisR ?_
  intro p e s m args below meth c s₁ Bd hml0 hP hK
  obtain ⟨rfl, hZ, hh⟩ := hP
  have hx := Bd.exec
  have hby := Bd.bytes
  have hml : c.maxLocals = 1 := hml0
  have hown : s.vm.findClass "java/lang/String" = some m.cls := findClass_of_methodNamed Bd.named
  have hnm := (name_of_methodNamed Bd.named Bd.method).1
  have X0 : Stand p l e ({ frames := 0, cells := 0, slots := 0, locals := 0 } : Room) s m #[(.ref x)] below meth c s₁ [] 0 0 := Stand.of_body Bd
  have e0 : s₁.heap = h0 := by rw [← hh, Bd.state]; rfl
  have N0 := Fr.nil n0
  refine oEnter (oCast (ef_rmIsL0 m x ) ?_)
  show oGl p e below (s₁.setTop (mkF m 0 #[.val (.ref x)] [])) _
  obtain ⟨T1, X1, e1, st1⟩ := getS2 X0 hx hZ hown (host := "") (Or.inl (hw _ (List.mem_of_getElem? (i := 36) rfl))) Via.refl e0 (SCS.ext O0.2) (g := (mkF m 0 #[.val (.ref x)] [])) rfl (hb hby d14_0)
  refine oOn st1 ?_
  show oGl p e below (T1.setTop (mkF m 3 #[.val (.ref x)] [(.int cz)])) _
  refine sifN X1 hx (hb hby d14_3) rfl (feq (hcz : ¬ (cz = (0 : Int32)))).1 (pc' := 6) ?_
  refine saloadN X1 hx (hb hby d14_6) rfl rfl rfl (pc' := 7) ?_
  obtain ⟨T2, X2, e2, st2⟩ := getF X1 hx hZ hown (host := "") (Or.inl (hw _ (List.mem_of_getElem? (i := 21) rfl))) Via.refl e1 C1 (g := (mkF m 7 #[.val (.ref x)] [(.ref x)])) rfl rfl (hb hby d14_7)
  refine oOn st2 ?_
  show oGl p e below (T2.setTop (mkF m 10 #[.val (.ref x)] [(.int (0 : Int32))])) _
  refine sifN X2 hx (hb hby d14_10) rfl (teq (by decide : (0 : Int32) = (0 : Int32))).2 (pc' := 13) ?_
  refine siconst X2 hx (hb hby d14_13) rfl rfl (z := 1) (pc' := 14) ?_
  refine sgoto X2 hx (hb hby d14_14) (by decide) (by decide)  (pc' := 18) ?_
  refine oRetN (t := .boolean) X2 hx Bd.notSynchronized Bd.returns (by simp) (hb hby d14_18) (by decide) (by decide) ?_
  show Q_rmIsL0 Z x cz h0 n0 _ T2.heap _
  rw [e2]
  exact ⟨rfl, N0, rfl⟩
theorem d14_17 : decode jdk_42_method_154_code 17 = .ok (.iconst 0, 1) := by decide +kernel
theorem ef_rmIsL1 (m : MethodId) (x0 : Nat)  : entryFrame m #[(.ref x0)] 1 = mkF m 0 #[.val (.ref x0)] [] := by first | (simp [entryFrame, mkF, argsToLocals, Value.category, maxLocals]; done) | rfl
def Q_rmIsL1 (Z : State) (x : Nat) (cz : Int32) (h0 : Heap) (n0 : Nat) (vv : Option Value) (h : Heap) (L : List Loc) : Prop := vv = some (.int 0) ∧ Fr n0 L ∧ h = h0
set_option maxRecDepth 65536 in
set_option maxHeartbeats 40000000 in
theorem rmIsL1 (l : Launch) (Z : State) (a0 : Array Value) (hw : ∀ d ∈ tables_1, d.before a0 Z = true) (ws : List Jvm.Cond) (x : Nat) (cz : Int32) (h0 : Heap) (n0 : Nat) (Z0 : n0 ≤ h0.size) (O0 : Old Z n0 h0) (SCS : Sta Z Z.heap "java/lang/String" "COMPACT_STRINGS" "Z" (.int cz)) (hcz : ¬ cz = (0 : Int32)) (C1 : Fld Z h0 x "java/lang/String" "coder" "B" (.int 1)) :
    MetFree l (⟨"java/lang/String", "isLatin1", "()Z"⟩ : MethodName) (head1 (Jvm.Cond.code (⟨"java/lang/String", "isLatin1", "()Z"⟩ : MethodName) jdk_42_method_154_code 1 (some .boolean) :: ws) ({ frames := 0, cells := 0, slots := 0, locals := 0 } : Room)) (fun aA uU => aA = #[(.ref x)] ∧ Z.Warmed39 uU.vm ∧ uU.heap = h0) (fun _ _ _ _ _ => True) (fun _ uU oO uU' => ∃ vV lL, oO = .returned vV ∧ Q_rmIsL1 Z x cz h0 n0 vV uU'.heap lL ∧ FrameEnd uU oO uU' lL ({ frames := 0, cells := 0, slots := 0, locals := 0 } : Room).cells ({ frames := 0, cells := 0, slots := 0, locals := 0 } : Room).slots) := by
  refine MetFree.of_bodySF (plainFor_of_name pn_String) hisR ?_
  intro p e s m args below meth c s₁ Bd hml0 hP hK
  obtain ⟨rfl, hZ, hh⟩ := hP
  have hx := Bd.exec
  have hby := Bd.bytes
  have hml : c.maxLocals = 1 := hml0
  have hown : s.vm.findClass "java/lang/String" = some m.cls := findClass_of_methodNamed Bd.named
  have hnm := (name_of_methodNamed Bd.named Bd.method).1
  have X0 : Stand p l e ({ frames := 0, cells := 0, slots := 0, locals := 0 } : Room) s m #[(.ref x)] below meth c s₁ [] 0 0 := Stand.of_body Bd
  have e0 : s₁.heap = h0 := by rw [← hh, Bd.state]; rfl
  have N0 := Fr.nil n0
  refine oEnter (oCast (ef_rmIsL1 m x ) ?_)
  show oGl p e below (s₁.setTop (mkF m 0 #[.val (.ref x)] [])) _
  obtain ⟨T1, X1, e1, st1⟩ := getS2 X0 hx hZ hown (host := "") (Or.inl (hw _ (List.mem_of_getElem? (i := 36) rfl))) Via.refl e0 (SCS.ext O0.2) (g := (mkF m 0 #[.val (.ref x)] [])) rfl (hb hby d14_0)
  refine oOn st1 ?_
  show oGl p e below (T1.setTop (mkF m 3 #[.val (.ref x)] [(.int cz)])) _
  refine sifN X1 hx (hb hby d14_3) rfl (feq (hcz : ¬ (cz = (0 : Int32)))).1 (pc' := 6) ?_
  refine saloadN X1 hx (hb hby d14_6) rfl rfl rfl (pc' := 7) ?_
  obtain ⟨T2, X2, e2, st2⟩ := getF X1 hx hZ hown (host := "") (Or.inl (hw _ (List.mem_of_getElem? (i := 21) rfl))) Via.refl e1 C1 (g := (mkF m 7 #[.val (.ref x)] [(.ref x)])) rfl rfl (hb hby d14_7)
  refine oOn st2 ?_
  show oGl p e below (T2.setTop (mkF m 10 #[.val (.ref x)] [(.int (1 : Int32))])) _
  refine sifY X2 hx (hb hby d14_10) (by decide) (by decide) (feq (by decide : ¬ ((1 : Int32) = (0 : Int32)))).2 (pc' := 17) ?_
  refine siconst X2 hx (hb hby d14_17) rfl rfl (z := 0) (pc' := 18) ?_
  refine oRetN (t := .boolean) X2 hx Bd.notSynchronized Bd.returns (by simp) (hb hby d14_18) (by decide) (by decide) ?_
  show Q_rmIsL1 Z x cz h0 n0 _ T2.heap _
  rw [e2]
  exact ⟨rfl, N0, rfl⟩
theorem d6_0 : decode jdk_42_method_55_code 0 = .ok (.aload_n 0, 1) := by decide +kernel
theorem d6_1 : decode jdk_42_method_55_code 1 = .ok (.getfield 9, 3) := by decide +kernel
theorem d6_4 : decode jdk_42_method_55_code 4 = .ok (.arraylength, 1) := by decide +kernel
theorem d6_5 : decode jdk_42_method_55_code 5 = .ok (.ifCond .ne 7, 3) := by decide +kernel
theorem d6_8 : decode jdk_42_method_55_code 8 = .ok (.iconst 1, 1) := by decide +kernel
theorem d6_9 : decode jdk_42_method_55_code 9 = .ok (.goto 4, 3) := by decide +kernel
theorem d6_13 : decode jdk_42_method_55_code 13 = .ok (.ireturn, 1) := by decide +kernel
theorem d6_12 : decode jdk_42_method_55_code 12 = .ok (.iconst 0, 1) := by decide +kernel
theorem ef_rmIsE (m : MethodId) (x0 : Nat)  : entryFrame m #[(.ref x0)] 1 = mkF m 0 #[.val (.ref x0)] [] := by first | (simp [entryFrame, mkF, argsToLocals, Value.category, maxLocals]; done) | rfl
def Q_rmIsE (Z : State) (x n : Nat) (f : Nat → Int32) (cz : Int32) (sf : Value) (h0 : Heap) (n0 : Nat) (vv : Option Value) (h : Heap) (L : List Loc) : Prop := ∃ r : Int32, vv = some (.int r) ∧ Fr n0 L ∧ h = h0 ∧ ((r = 1 ∧ n = 0) ∨ (r = 0 ∧ ¬ n = 0))
set_option maxRecDepth 65536 in
set_option maxHeartbeats 40000000 in
theorem rmIsE (l : Launch) (Z : State) (a0 : Array Value) (hw : ∀ d ∈ tables_1, d.before a0 Z = true) (ws : List Jvm.Cond) (x n : Nat) (f : Nat → Int32) (cz : Int32) (sf : Value) (h0 : Heap) (n0 : Nat) (Z0 : n0 ≤ h0.size) (O0 : Old Z n0 h0) (SCS : Sta Z Z.heap "java/lang/String" "COMPACT_STRINGS" "Z" (.int cz)) (hcz : ¬ cz = (0 : Int32)) (SSF : Sta Z Z.heap "jdk/internal/util/Preconditions" "SIOOBE_FORMATTER" "Ljava/util/function/BiFunction;" sf) (hsf : sf.isRef = true) (SAD : Sta Z Z.heap "java/lang/StringUTF16" "$assertionsDisabled" "Z" (.int 1)) (SHI : Sta Z Z.heap "java/lang/StringUTF16" "HI_BYTE_SHIFT" "I" (.int 0)) (SLO : Sta Z Z.heap "java/lang/StringUTF16" "LO_BYTE_SHIFT" "I" (.int 8)) (E0 : Exa Z h0 x "java/lang/String") (PS : oStr Z h0 x n f) (hn : n < 1000000) :
    MetFree l (⟨"java/lang/String", "isEmpty", "()Z"⟩ : MethodName) (head1 (Jvm.Cond.code (⟨"java/lang/String", "isEmpty", "()Z"⟩ : MethodName) jdk_42_method_55_code 1 (some .boolean) :: ws) ({ frames := 0, cells := 0, slots := 0, locals := 0 } : Room)) (fun aA uU => aA = #[(.ref x)] ∧ Z.Warmed39 uU.vm ∧ uU.heap = h0) (fun _ _ _ _ _ => True) (fun _ uU oO uU' => ∃ vV lL, oO = .returned vV ∧ Q_rmIsE Z x n f cz sf h0 n0 vV uU'.heap lL ∧ FrameEnd uU oO uU' lL ({ frames := 0, cells := 0, slots := 0, locals := 0 } : Room).cells ({ frames := 0, cells := 0, slots := 0, locals := 0 } : Room).slots) := by
  refine MetFree.of_bodySF (plainFor_of_name pn_String) hisR ?_
  intro p e s m args below meth c s₁ Bd hml0 hP hK
  obtain ⟨rfl, hZ, hh⟩ := hP
  have hx := Bd.exec
  have hby := Bd.bytes
  have hml : c.maxLocals = 1 := hml0
  have hown : s.vm.findClass "java/lang/String" = some m.cls := findClass_of_methodNamed Bd.named
  have hnm := (name_of_methodNamed Bd.named Bd.method).1
  have X0 : Stand p l e ({ frames := 0, cells := 0, slots := 0, locals := 0 } : Room) s m #[(.ref x)] below meth c s₁ [] 0 0 := Stand.of_body Bd
  have e0 : s₁.heap = h0 := by rw [← hh, Bd.state]; rfl
  have N0 := Fr.nil n0
  refine oEnter (oCast (ef_rmIsE m x ) ?_)
  show oGl p e below (s₁.setTop (mkF m 0 #[.val (.ref x)] [])) _
  obtain ⟨b, Gv, Gd⟩ := PS
  rcases Gd with ⟨Gc, Ga, Gl⟩ | ⟨Gc, Ga⟩
  · skip
    refine saloadN X0 hx (hb hby d6_0) rfl rfl rfl (pc' := 1) ?_
    obtain ⟨T1, X1, e1, st1⟩ := getF X0 hx hZ hown (host := "") (Or.inl (hw _ (List.mem_of_getElem? (i := 20) rfl))) Via.refl e0 Gv (g := (mkF m 1 #[.val (.ref x)] [(.ref x)])) rfl rfl (hb hby d6_1)
    refine oOn st1 ?_
    show oGl p e below (T1.setTop (mkF m 4 #[.val (.ref x)] [(.ref b)])) _
    refine oOn (Ga.len X1 hx hZ e1 (g := (mkF m 4 #[.val (.ref x)] [(.ref b)])) rfl rfl (hb hby d6_4)) ?_
    show oGl p e below (T1.setTop (mkF m 5 #[.val (.ref x)] [(.int (Int32.ofNat n))])) _
    by_cases hc5 : (Int32.ofNat n) = (0 : Int32)
    · skip
      refine sifN X1 hx (hb hby d6_5) rfl (teq hc5).2 (pc' := 8) ?_
      refine siconst X1 hx (hb hby d6_8) rfl rfl (z := 1) (pc' := 9) ?_
      refine sgoto X1 hx (hb hby d6_9) (by decide) (by decide)  (pc' := 13) ?_
      refine oRetN (t := .boolean) X1 hx Bd.notSynchronized Bd.returns (by simp) (hb hby d6_13) (by decide) (by decide) ?_
      show Q_rmIsE Z x n f cz sf h0 n0 _ T1.heap _
      rw [e1]
      exact ⟨1, rfl, N0, rfl, Or.inl ⟨rfl, own_n00 (by omega) hc5⟩⟩
    · skip
      refine sifY X1 hx (hb hby d6_5) (by decide) (by decide) (feq hc5).2 (pc' := 12) ?_
      refine siconst X1 hx (hb hby d6_12) rfl rfl (z := 0) (pc' := 13) ?_
      refine oRetN (t := .boolean) X1 hx Bd.notSynchronized Bd.returns (by simp) (hb hby d6_13) (by decide) (by decide) ?_
      show Q_rmIsE Z x n f cz sf h0 n0 _ T1.heap _
      rw [e1]
      exact ⟨0, rfl, N0, rfl, Or.inr ⟨rfl, fun q => hc5 (by rw [q]; decide)⟩⟩
  · skip
    refine saloadN X0 hx (hb hby d6_0) rfl rfl rfl (pc' := 1) ?_
    obtain ⟨T2, X2, e2, st2⟩ := getF X0 hx hZ hown (host := "") (Or.inl (hw _ (List.mem_of_getElem? (i := 20) rfl))) Via.refl e0 Gv (g := (mkF m 1 #[.val (.ref x)] [(.ref x)])) rfl rfl (hb hby d6_1)
    refine oOn st2 ?_
    show oGl p e below (T2.setTop (mkF m 4 #[.val (.ref x)] [(.ref b)])) _
    refine oOn (Ga.len X2 hx hZ e2 (g := (mkF m 4 #[.val (.ref x)] [(.ref b)])) rfl rfl (hb hby d6_4)) ?_
    show oGl p e below (T2.setTop (mkF m 5 #[.val (.ref x)] [(.int (Int32.ofNat (2 * n)))])) _
    by_cases hc5 : (Int32.ofNat (2 * n)) = (0 : Int32)
    · skip
      refine sifN X2 hx (hb hby d6_5) rfl (teq hc5).2 (pc' := 8) ?_
      refine siconst X2 hx (hb hby d6_8) rfl rfl (z := 1) (pc' := 9) ?_
      refine sgoto X2 hx (hb hby d6_9) (by decide) (by decide)  (pc' := 13) ?_
      refine oRetN (t := .boolean) X2 hx Bd.notSynchronized Bd.returns (by simp) (hb hby d6_13) (by decide) (by decide) ?_
      show Q_rmIsE Z x n f cz sf h0 n0 _ T2.heap _
      rw [e2]
      exact ⟨1, rfl, N0, rfl, Or.inl ⟨rfl, (by have := own_n00 (by omega) hc5; omega)⟩⟩
    · skip
      refine sifY X2 hx (hb hby d6_5) (by decide) (by decide) (feq hc5).2 (pc' := 12) ?_
      refine siconst X2 hx (hb hby d6_12) rfl rfl (z := 0) (pc' := 13) ?_
      refine oRetN (t := .boolean) X2 hx Bd.notSynchronized Bd.returns (by simp) (hb hby d6_13) (by decide) (by decide) ?_
      show Q_rmIsE Z x n f cz sf h0 n0 _ T2.heap _
      rw [e2]
      exact ⟨0, rfl, N0, rfl, Or.inr ⟨rfl, fun q => hc5 (by rw [q]; decide)⟩⟩
theorem own_len0 {n : Nat} (h : n < 1000000) : (Int32.ofNat n) >>> ((0 : Int32) &&& 31) = Int32.ofNat n := by
  apply Int32.toInt_inj.mp; rw [c_ishr _ 0 0 (by decide)]; omega
theorem own_len1 {n : Nat} (h : n < 1000000) : (Int32.ofNat (2 * n)) >>> ((1 : Int32) &&& 31) = Int32.ofNat n := by
  apply Int32.toInt_inj.mp; rw [c_ishr _ 1 1 (by decide), own_ofNat (by omega), own_ofNat (by omega)]; omega
theorem d10_0 : decode jdk_42_method_54_code 0 = .ok (.aload_n 0, 1) := by decide +kernel
theorem d10_1 : decode jdk_42_method_54_code 1 = .ok (.getfield 9, 3) := by decide +kernel
theorem d10_4 : decode jdk_42_method_54_code 4 = .ok (.arraylength, 1) := by decide +kernel
theorem d10_5 : decode jdk_42_method_54_code 5 = .ok (.aload_n 0, 1) := by decide +kernel
theorem d10_6 : decode jdk_42_method_54_code 6 = .ok (.invokevirtual 335, 3) := by decide +kernel
theorem pd_8 : parseMethodDescriptor "()B" = some ⟨[], some .byte⟩ := by decide +kernel
theorem d10_9 : decode jdk_42_method_54_code 9 = .ok (.ishr, 1) := by decide +kernel
theorem d10_10 : decode jdk_42_method_54_code 10 = .ok (.ireturn, 1) := by decide +kernel
theorem ef_rmLen (m : MethodId) (x0 : Nat)  : entryFrame m #[(.ref x0)] 1 = mkF m 0 #[.val (.ref x0)] [] := by first | (simp [entryFrame, mkF, argsToLocals, Value.category, maxLocals]; done) | rfl
def Q_rmLen (Z : State) (x n : Nat) (f : Nat → Int32) (cz : Int32) (sf : Value) (h0 : Heap) (n0 : Nat) (vv : Option Value) (h : Heap) (L : List Loc) : Prop := vv = some (.int (Int32.ofNat n)) ∧ Fr n0 L ∧ h = h0
set_option maxRecDepth 65536 in
set_option maxHeartbeats 40000000 in
theorem rmLen (l : Launch) (Z : State) (a0 : Array Value) (hw : ∀ d ∈ tables_1, d.before a0 Z = true) (ws : List Jvm.Cond) (x n : Nat) (f : Nat → Int32) (cz : Int32) (sf : Value) (h0 : Heap) (n0 : Nat) (Z0 : n0 ≤ h0.size) (O0 : Old Z n0 h0) (SCS : Sta Z Z.heap "java/lang/String" "COMPACT_STRINGS" "Z" (.int cz)) (hcz : ¬ cz = (0 : Int32)) (SSF : Sta Z Z.heap "jdk/internal/util/Preconditions" "SIOOBE_FORMATTER" "Ljava/util/function/BiFunction;" sf) (hsf : sf.isRef = true) (SAD : Sta Z Z.heap "java/lang/StringUTF16" "$assertionsDisabled" "Z" (.int 1)) (SHI : Sta Z Z.heap "java/lang/StringUTF16" "HI_BYTE_SHIFT" "I" (.int 0)) (SLO : Sta Z Z.heap "java/lang/StringUTF16" "LO_BYTE_SHIFT" "I" (.int 8)) (E0 : Exa Z h0 x "java/lang/String") (PS : oStr Z h0 x n f) (hn : n < 1000000) :
    MetFree l (⟨"java/lang/String", "length", "()I"⟩ : MethodName) (head1 (Jvm.Cond.code (⟨"java/lang/String", "length", "()I"⟩ : MethodName) jdk_42_method_54_code 1 (some .int) :: ws) ({ frames := 1, cells := 0, slots := 0, locals := 13 } : Room)) (fun aA uU => aA = #[(.ref x)] ∧ Z.Warmed39 uU.vm ∧ uU.heap = h0) (fun _ _ _ _ _ => True) (fun _ uU oO uU' => ∃ vV lL, oO = .returned vV ∧ Q_rmLen Z x n f cz sf h0 n0 vV uU'.heap lL ∧ FrameEnd uU oO uU' lL ({ frames := 1, cells := 0, slots := 0, locals := 13 } : Room).cells ({ frames := 1, cells := 0, slots := 0, locals := 13 } : Room).slots) := by
  refine MetFree.of_bodySF (plainFor_of_name pn_String) hisR ?_
  intro p e s m args below meth c s₁ Bd hml0 hP hK
  obtain ⟨rfl, hZ, hh⟩ := hP
  have hx := Bd.exec
  have hby := Bd.bytes
  have hml : c.maxLocals = 1 := hml0
  have hown : s.vm.findClass "java/lang/String" = some m.cls := findClass_of_methodNamed Bd.named
  have hnm := (name_of_methodNamed Bd.named Bd.method).1
  have X0 : Stand p l e ({ frames := 1, cells := 0, slots := 0, locals := 13 } : Room) s m #[(.ref x)] below meth c s₁ [] 0 0 := Stand.of_body Bd
  have e0 : s₁.heap = h0 := by rw [← hh, Bd.state]; rfl
  have N0 := Fr.nil n0
  refine oEnter (oCast (ef_rmLen m x ) ?_)
  show oGl p e below (s₁.setTop (mkF m 0 #[.val (.ref x)] [])) _
  obtain ⟨b, Gv, Gd⟩ := PS
  rcases Gd with ⟨Gc, Ga, Gl⟩ | ⟨Gc, Ga⟩
  · skip
    refine saloadN X0 hx (hb hby d10_0) rfl rfl rfl (pc' := 1) ?_
    obtain ⟨T1, X1, e1, st1⟩ := getF X0 hx hZ hown (host := "") (Or.inl (hw _ (List.mem_of_getElem? (i := 20) rfl))) Via.refl e0 Gv (g := (mkF m 1 #[.val (.ref x)] [(.ref x)])) rfl rfl (hb hby d10_1)
    refine oOn st1 ?_
    show oGl p e below (T1.setTop (mkF m 4 #[.val (.ref x)] [(.ref b)])) _
    refine oOn (Ga.len X1 hx hZ e1 (g := (mkF m 4 #[.val (.ref x)] [(.ref b)])) rfl rfl (hb hby d10_4)) ?_
    show oGl p e below (T1.setTop (mkF m 5 #[.val (.ref x)] [(.int (Int32.ofNat n))])) _
    refine saloadN X1 hx (hb hby d10_5) rfl rfl rfl (pc' := 6) ?_
    have hz2 : n0 ≤ h0.size := by omega
    obtain ⟨cq2, kq2, q2a, q2b, q2c⟩ := isOf hZ e1 E0
    obtain ⟨_, _, ⟨T2, L2, k2, n2⟩, -, X2, ⟨Lc2, hQ2, l2, y2, z2⟩, st2⟩ := X1.virtualBack hx (y := (⟨"java/lang/String", "coder", "()B"⟩ : MethodName)) (z := (⟨"java/lang/String", "coder", "()B"⟩ : MethodName)) hown (mvT hZ (hw _ (List.mem_of_getElem? (i := 52) rfl))) (mvT hZ (hw _ (List.mem_of_getElem? (i := 53) rfl))) (notFace_of_selects (args := #[]) (mvT hZ (hw _ (List.mem_of_getElem? (i := 55) rfl)))) (mvT hZ (hw _ (List.mem_of_getElem? (i := 55) rfl))) (mvT hZ (hw _ (List.mem_of_getElem? (i := 54) rfl))) (by decide) (backOf (W := 1) (rmCdr l Z a0 hw [] x (0 : Int32) cz h0 n0 hz2 O0 SCS hcz Gc (by decide)) hZ (hw _ (List.mem_of_getElem? (i := 56) rfl)) (hw _ (List.mem_of_getElem? (i := 3) rfl)) (by decide) (by decide)) q2a q2c (g := (mkF m 6 #[.val (.ref x)] [(.ref x), (.int (Int32.ofNat n))])) rfl (by rw [hml]; rfl) (Steps.refl _) (argsL := []) (rest := [(.int (Int32.ofNat n))]) (lenOf pd_8 rfl) rfl (by show 2 * 0 + _ ≤ _; exact Nat.le_of_eq rfl) (hb hby d10_6) (fun _ _ => ⟨rfl, e1, (by decide : 0 + 0 ≤ _), (by decide : 0 + 0 ≤ _)⟩)
    dsimp only [Pt.U, Pt.locs, Pt.cells, Pt.slots] at X2 l2 y2 z2 st2 hQ2
    subst l2 y2 z2
    obtain ⟨rfl, N2q, eh2⟩ := hQ2
    have N2 := Fr.app N0 N2q
    refine oSt st2 ?_
    show oGl p e below (T2.setTop (mkF m 9 #[.val (.ref x)] [(.int (0 : Int32)), (.int (Int32.ofNat n))])) _
    refine sishr X2 hx (hb hby d10_9) rfl rfl (pc' := 10) ?_
    refine oRetI X2 hx Bd.notSynchronized Bd.returns (hb hby d10_10) (by decide) (by decide) ?_
    show Q_rmLen Z x n f cz sf h0 n0 _ T2.heap _
    rw [eh2]
    exact ⟨congrArg (fun z => some (Value.int z)) (own_len0 hn), N2, rfl⟩
  · skip
    refine saloadN X0 hx (hb hby d10_0) rfl rfl rfl (pc' := 1) ?_
    obtain ⟨T3, X3, e3, st3⟩ := getF X0 hx hZ hown (host := "") (Or.inl (hw _ (List.mem_of_getElem? (i := 20) rfl))) Via.refl e0 Gv (g := (mkF m 1 #[.val (.ref x)] [(.ref x)])) rfl rfl (hb hby d10_1)
    refine oOn st3 ?_
    show oGl p e below (T3.setTop (mkF m 4 #[.val (.ref x)] [(.ref b)])) _
    refine oOn (Ga.len X3 hx hZ e3 (g := (mkF m 4 #[.val (.ref x)] [(.ref b)])) rfl rfl (hb hby d10_4)) ?_
    show oGl p e below (T3.setTop (mkF m 5 #[.val (.ref x)] [(.int (Int32.ofNat (2 * n)))])) _
    refine saloadN X3 hx (hb hby d10_5) rfl rfl rfl (pc' := 6) ?_
    have hz4 : n0 ≤ h0.size := by omega
    obtain ⟨cq4, kq4, q4a, q4b, q4c⟩ := isOf hZ e3 E0
    obtain ⟨_, _, ⟨T4, L4, k4, n4⟩, -, X4, ⟨Lc4, hQ4, l4, y4, z4⟩, st4⟩ := X3.virtualBack hx (y := (⟨"java/lang/String", "coder", "()B"⟩ : MethodName)) (z := (⟨"java/lang/String", "coder", "()B"⟩ : MethodName)) hown (mvT hZ (hw _ (List.mem_of_getElem? (i := 52) rfl))) (mvT hZ (hw _ (List.mem_of_getElem? (i := 53) rfl))) (notFace_of_selects (args := #[]) (mvT hZ (hw _ (List.mem_of_getElem? (i := 55) rfl)))) (mvT hZ (hw _ (List.mem_of_getElem? (i := 55) rfl))) (mvT hZ (hw _ (List.mem_of_getElem? (i := 54) rfl))) (by decide) (backOf (W := 1) (rmCdr l Z a0 hw [] x (1 : Int32) cz h0 n0 hz4 O0 SCS hcz Gc (by decide)) hZ (hw _ (List.mem_of_getElem? (i := 56) rfl)) (hw _ (List.mem_of_getElem? (i := 3) rfl)) (by decide) (by decide)) q4a q4c (g := (mkF m 6 #[.val (.ref x)] [(.ref x), (.int (Int32.ofNat (2 * n)))])) rfl (by rw [hml]; rfl) (Steps.refl _) (argsL := []) (rest := [(.int (Int32.ofNat (2 * n)))]) (lenOf pd_8 rfl) rfl (by show 2 * 0 + _ ≤ _; exact Nat.le_of_eq rfl) (hb hby d10_6) (fun _ _ => ⟨rfl, e3, (by decide : 0 + 0 ≤ _), (by decide : 0 + 0 ≤ _)⟩)
    dsimp only [Pt.U, Pt.locs, Pt.cells, Pt.slots] at X4 l4 y4 z4 st4 hQ4
    subst l4 y4 z4
    obtain ⟨rfl, N4q, eh4⟩ := hQ4
    have N4 := Fr.app N0 N4q
    refine oSt st4 ?_
    show oGl p e below (T4.setTop (mkF m 9 #[.val (.ref x)] [(.int (1 : Int32)), (.int (Int32.ofNat (2 * n)))])) _
    refine sishr X4 hx (hb hby d10_9) rfl rfl (pc' := 10) ?_
    refine oRetI X4 hx Bd.notSynchronized Bd.returns (hb hby d10_10) (by decide) (by decide) ?_
    show Q_rmLen Z x n f cz sf h0 n0 _ T4.heap _
    rw [eh4]
    exact ⟨congrArg (fun z => some (Value.int z)) (own_len1 hn), N4, rfl⟩
theorem d17_0 : decode jdk_41_method_11_code 0 = .ok (.iload_n 0, 1) := by decide +kernel
theorem d17_1 : decode jdk_41_method_11_code 1 = .ok (.ifCond .lt 8, 3) := by decide +kernel
theorem d17_4 : decode jdk_41_method_11_code 4 = .ok (.iload_n 0, 1) := by decide +kernel
theorem d17_5 : decode jdk_41_method_11_code 5 = .ok (.iload_n 1, 1) := by decide +kernel
theorem d17_6 : decode jdk_41_method_11_code 6 = .ok (.if_icmp .lt 10, 3) := by decide +kernel
theorem d17_16 : decode jdk_41_method_11_code 16 = .ok (.iload_n 0, 1) := by decide +kernel
theorem d17_17 : decode jdk_41_method_11_code 17 = .ok (.ireturn, 1) := by decide +kernel
theorem pn_Preconditions : plainName "jdk/internal/util/Preconditions" = true := by first | (simp [plainName, overriddenIn]; done) | decide +kernel
theorem ef_rmPck (m : MethodId) (x0 : Int32) (x1 : Int32) (x2 : Value) (hx2 : x2.isRef = true) : entryFrame m #[(.int x0), (.int x1), x2] 3 = mkF m 0 #[.val (.int x0), .val (.int x1), .val x2] [] := by rcases ref_cases hx2 with rfl | ⟨_, rfl⟩ <;> rfl
def Q_rmPck (Z : State) (i z : Int32) (sf : Value) (h0 : Heap) (n0 : Nat) (vv : Option Value) (h : Heap) (L : List Loc) : Prop := vv = some (.int i) ∧ Fr n0 L ∧ h = h0
set_option maxRecDepth 65536 in
set_option maxHeartbeats 40000000 in
theorem rmPck (l : Launch) (Z : State) (a0 : Array Value) (hw : ∀ d ∈ tables_1, d.before a0 Z = true) (ws : List Jvm.Cond) (i z : Int32) (sf : Value) (h0 : Heap) (n0 : Nat) (Z0 : n0 ≤ h0.size) (hsf : sf.isRef = true) (h1 : ¬ (i < (0 : Int32))) (h2 : i < z) :
    MetFree l (⟨"jdk/internal/util/Preconditions", "checkIndex", "(IILjava/util/function/BiFunction;)I"⟩ : MethodName) (head1 (Jvm.Cond.code (⟨"jdk/internal/util/Preconditions", "checkIndex", "(IILjava/util/function/BiFunction;)I"⟩ : MethodName) jdk_41_method_11_code 3 (some .int) :: ws) ({ frames := 0, cells := 0, slots := 0, locals := 0 } : Room)) (fun aA uU => aA = #[(.int i), (.int z), sf] ∧ Z.Warmed39 uU.vm ∧ uU.heap = h0) (fun _ _ _ _ _ => True) (fun _ uU oO uU' => ∃ vV lL, oO = .returned vV ∧ Q_rmPck Z i z sf h0 n0 vV uU'.heap lL ∧ FrameEnd uU oO uU' lL ({ frames := 0, cells := 0, slots := 0, locals := 0 } : Room).cells ({ frames := 0, cells := 0, slots := 0, locals := 0 } : Room).slots) := by
  refine MetFree.of_bodySF (plainFor_of_name pn_Preconditions) hisR ?_
  intro p e s m args below meth c s₁ Bd hml0 hP hK
  obtain ⟨rfl, hZ, hh⟩ := hP
  have hx := Bd.exec
  have hby := Bd.bytes
  have hml : c.maxLocals = 3 := hml0
  have hown : s.vm.findClass "jdk/internal/util/Preconditions" = some m.cls := findClass_of_methodNamed Bd.named
  have hnm := (name_of_methodNamed Bd.named Bd.method).1
  have X0 : Stand p l e ({ frames := 0, cells := 0, slots := 0, locals := 0 } : Room) s m #[(.int i), (.int z), sf] below meth c s₁ [] 0 0 := Stand.of_body Bd
  have e0 : s₁.heap = h0 := by rw [← hh, Bd.state]; rfl
  have N0 := Fr.nil n0
  refine oEnter (oCast (ef_rmPck m i z sf hsf) ?_)
  show oGl p e below (s₁.setTop (mkF m 0 #[.val (.int i), .val (.int z), .val sf] [])) _
  refine siloadN X0 hx (hb hby d17_0) rfl rfl (pc' := 1) ?_
  refine sifN X0 hx (hb hby d17_1) rfl (flt (h1 : ¬ (i < (0 : Int32)))).1 (pc' := 4) ?_
  refine siloadN X0 hx (hb hby d17_4) rfl rfl (pc' := 5) ?_
  refine siloadN X0 hx (hb hby d17_5) rfl rfl (pc' := 6) ?_
  refine sicY X0 hx (hb hby d17_6) (by decide) (by decide) (tlt (h2 : i < z)).1 (pc' := 16) ?_
  refine siloadN X0 hx (hb hby d17_16) rfl rfl (pc' := 17) ?_
  refine oRetI X0 hx Bd.notSynchronized Bd.returns (hb hby d17_17) (by decide) (by decide) ?_
  show Q_rmPck Z i z sf h0 n0 _ s₁.heap _
  rw [e0]
  exact ⟨rfl, N0, rfl⟩
theorem d16_0 : decode jdk_42_method_155_code 0 = .ok (.iload_n 0, 1) := by decide +kernel
theorem d16_1 : decode jdk_42_method_155_code 1 = .ok (.iload_n 1, 1) := by decide +kernel
theorem d16_2 : decode jdk_42_method_155_code 2 = .ok (.getstatic 1053, 3) := by decide +kernel
theorem d16_5 : decode jdk_42_method_155_code 5 = .ok (.invokestatic 1059, 3) := by decide +kernel
theorem pd_9 : parseMethodDescriptor "(IILjava/util/function/BiFunction;)I" = some ⟨[.int, .int, (.object "java/util/function/BiFunction")], some .int⟩ := by decide +kernel
theorem d16_8 : decode jdk_42_method_155_code 8 = .ok (.pop, 1) := by decide +kernel
theorem d16_9 : decode jdk_42_method_155_code 9 = .ok (.return_, 1) := by decide +kernel
theorem ef_rmCki (m : MethodId) (x0 : Int32) (x1 : Int32)  : entryFrame m #[(.int x0), (.int x1)] 2 = mkF m 0 #[.val (.int x0), .val (.int x1)] [] := by first | (simp [entryFrame, mkF, argsToLocals, Value.category, maxLocals]; done) | rfl
def Q_rmCki (Z : State) (i z : Int32) (cz : Int32) (sf : Value) (h0 : Heap) (n0 : Nat) (vv : Option Value) (h : Heap) (L : List Loc) : Prop := vv = none ∧ Fr n0 L ∧ h = h0
set_option maxRecDepth 65536 in
set_option maxHeartbeats 40000000 in
theorem rmCki (l : Launch) (Z : State) (a0 : Array Value) (hw : ∀ d ∈ tables_1, d.before a0 Z = true) (ws : List Jvm.Cond) (i z : Int32) (cz : Int32) (sf : Value) (h0 : Heap) (n0 : Nat) (Z0 : n0 ≤ h0.size) (O0 : Old Z n0 h0) (SCS : Sta Z Z.heap "java/lang/String" "COMPACT_STRINGS" "Z" (.int cz)) (hcz : ¬ cz = (0 : Int32)) (SSF : Sta Z Z.heap "jdk/internal/util/Preconditions" "SIOOBE_FORMATTER" "Ljava/util/function/BiFunction;" sf) (hsf : sf.isRef = true) (SAD : Sta Z Z.heap "java/lang/StringUTF16" "$assertionsDisabled" "Z" (.int 1)) (SHI : Sta Z Z.heap "java/lang/StringUTF16" "HI_BYTE_SHIFT" "I" (.int 0)) (SLO : Sta Z Z.heap "java/lang/StringUTF16" "LO_BYTE_SHIFT" "I" (.int 8)) (h1 : ¬ (i < (0 : Int32))) (h2 : i < z) :
    MetFree l (⟨"java/lang/String", "checkIndex", "(II)V"⟩ : MethodName) (head1 (Jvm.Cond.code (⟨"java/lang/String", "checkIndex", "(II)V"⟩ : MethodName) jdk_42_method_155_code 2 (none : Option FieldType) :: ws) ({ frames := 1, cells := 0, slots := 0, locals := 14 } : Room)) (fun aA uU => aA = #[(.int i), (.int z)] ∧ Z.Warmed39 uU.vm ∧ uU.heap = h0) (fun _ _ _ _ _ => True) (fun _ uU oO uU' => ∃ vV lL, oO = .returned vV ∧ Q_rmCki Z i z cz sf h0 n0 vV uU'.heap lL ∧ FrameEnd uU oO uU' lL ({ frames := 1, cells := 0, slots := 0, locals := 14 } : Room).cells ({ frames := 1, cells := 0, slots := 0, locals := 14 } : Room).slots) := by
  refine MetFree.of_bodySF (plainFor_of_name pn_String) hisR ?_
  intro p e s m args below meth c s₁ Bd hml0 hP hK
  obtain ⟨rfl, hZ, hh⟩ := hP
  have hx := Bd.exec
  have hby := Bd.bytes
  have hml : c.maxLocals = 2 := hml0
  have hown : s.vm.findClass "java/lang/String" = some m.cls := findClass_of_methodNamed Bd.named
  have hnm := (name_of_methodNamed Bd.named Bd.method).1
  have X0 : Stand p l e ({ frames := 1, cells := 0, slots := 0, locals := 14 } : Room) s m #[(.int i), (.int z)] below meth c s₁ [] 0 0 := Stand.of_body Bd
  have e0 : s₁.heap = h0 := by rw [← hh, Bd.state]; rfl
  have N0 := Fr.nil n0
  refine oEnter (oCast (ef_rmCki m i z ) ?_)
  show oGl p e below (s₁.setTop (mkF m 0 #[.val (.int i), .val (.int z)] [])) _
  refine siloadN X0 hx (hb hby d16_0) rfl rfl (pc' := 1) ?_
  refine siloadN X0 hx (hb hby d16_1) rfl rfl (pc' := 2) ?_
  obtain ⟨T1, X1, e1, st1⟩ := getS2 X0 hx hZ hown (host := "") (Or.inl (hw _ (List.mem_of_getElem? (i := 78) rfl))) Via.refl e0 (SSF.ext O0.2) (g := (mkF m 2 #[.val (.int i), .val (.int z)] [(.int z), (.int i)])) rfl (hb hby d16_2)
  refine oOn st1 ?_
  show oGl p e below (T1.setTop (mkF m 5 #[.val (.int i), .val (.int z)] [sf, (.int z), (.int i)])) _
  have hz2 : n0 ≤ h0.size := by omega
  obtain ⟨_, _, ⟨T2, L2, k2, n2⟩, -, X2, ⟨Lc2, hQ2, l2, y2, z2⟩, st2⟩ := Jvm.LawKit.callS X1 hx (y := (⟨"jdk/internal/util/Preconditions", "checkIndex", "(IILjava/util/function/BiFunction;)I"⟩ : MethodName)) hown (mvT hZ (hw _ (List.mem_of_getElem? (i := 80) rfl))) (mvT hZ (hw _ (List.mem_of_getElem? (i := 81) rfl))) (mvT hZ (hw _ (List.mem_of_getElem? (i := 79) rfl))) (mvT hZ (hw _ (List.mem_of_getElem? (i := 82) rfl))) (by decide) (backOf (W := 0) (rmPck l Z a0 hw [] i z sf h0 n0 hz2 hsf h1 h2) hZ (hw _ (List.mem_of_getElem? (i := 82) rfl)) (hw _ (List.mem_of_getElem? (i := 79) rfl)) (by decide) (by decide)) (g := (mkF m 5 #[.val (.int i), .val (.int z)] [sf, (.int z), (.int i)])) rfl (by rw [hml]; rfl) (argsL := [(.int i), (.int z), sf]) (rest := []) (lenOf pd_9 rfl) rfl (by show 2 * 0 + _ ≤ _; exact Nat.le_of_eq rfl) (hb hby d16_5) (fun _ _ => ⟨rfl, e1, (by decide : 0 + 0 ≤ _), (by decide : 0 + 0 ≤ _)⟩)
  dsimp only [Pt.U, Pt.locs, Pt.cells, Pt.slots] at X2 l2 y2 z2 st2 hQ2
  subst l2 y2 z2
  obtain ⟨rfl, N2q, eh2⟩ := hQ2
  have N2 := Fr.app N0 N2q
  refine oOn st2 ?_
  show oGl p e below (T2.setTop (mkF m 8 #[.val (.int i), .val (.int z)] [(.int i)])) _
  refine spop X2 hx (hb hby d16_8) rfl rfl (pc' := 9) ?_
  refine oRet0 X2 hx Bd.notSynchronized Bd.returns (hb hby d16_9) (by decide) (by decide) ?_
  show Q_rmCki Z i z cz sf h0 n0 _ T2.heap _
  rw [eh2]
  exact ⟨rfl, N2, rfl⟩
theorem d15_0 : decode jdk_43_method_2_code 0 = .ok (.iload_n 1, 1) := by decide +kernel
theorem d15_1 : decode jdk_43_method_2_code 1 = .ok (.aload_n 0, 1) := by decide +kernel
theorem d15_2 : decode jdk_43_method_2_code 2 = .ok (.arraylength, 1) := by decide +kernel
theorem d15_3 : decode jdk_43_method_2_code 3 = .ok (.invokestatic 9, 3) := by decide +kernel
theorem pd_10 : parseMethodDescriptor "(II)V" = some ⟨[.int, .int], none⟩ := by decide +kernel
theorem d15_6 : decode jdk_43_method_2_code 6 = .ok (.aload_n 0, 1) := by decide +kernel
theorem d15_7 : decode jdk_43_method_2_code 7 = .ok (.iload_n 1, 1) := by decide +kernel
theorem d15_8 : decode jdk_43_method_2_code 8 = .ok (.baload, 1) := by decide +kernel
theorem d15_9 : decode jdk_43_method_2_code 9 = .ok (.sipush 255, 3) := by decide +kernel
theorem d15_12 : decode jdk_43_method_2_code 12 = .ok (.iand, 1) := by decide +kernel
theorem d15_13 : decode jdk_43_method_2_code 13 = .ok (.i2c, 1) := by decide +kernel
theorem d15_14 : decode jdk_43_method_2_code 14 = .ok (.ireturn, 1) := by decide +kernel
theorem pn_StringLatin1 : plainName "java/lang/StringLatin1" = true := by first | (simp [plainName, overriddenIn]; done) | decide +kernel
theorem ef_rmLch (m : MethodId) (x0 : Nat) (x1 : Int32)  : entryFrame m #[(.ref x0), (.int x1)] 2 = mkF m 0 #[.val (.ref x0), .val (.int x1)] [] := by first | (simp [entryFrame, mkF, argsToLocals, Value.category, maxLocals]; done) | rfl
def Q_rmLch (Z : State) (b n : Nat) (i : Int32) (f : Nat → Int32) (cz : Int32) (sf : Value) (h0 : Heap) (n0 : Nat) (vv : Option Value) (h : Heap) (L : List Loc) : Prop := vv = some (.int (f i.toInt.toNat)) ∧ Fr n0 L ∧ h = h0
set_option maxRecDepth 65536 in
set_option maxHeartbeats 40000000 in
theorem rmLch (l : Launch) (Z : State) (a0 : Array Value) (hw : ∀ d ∈ tables_1, d.before a0 Z = true) (ws : List Jvm.Cond) (b n : Nat) (i : Int32) (f : Nat → Int32) (cz : Int32) (sf : Value) (h0 : Heap) (n0 : Nat) (Z0 : n0 ≤ h0.size) (O0 : Old Z n0 h0) (SCS : Sta Z Z.heap "java/lang/String" "COMPACT_STRINGS" "Z" (.int cz)) (hcz : ¬ cz = (0 : Int32)) (SSF : Sta Z Z.heap "jdk/internal/util/Preconditions" "SIOOBE_FORMATTER" "Ljava/util/function/BiFunction;" sf) (hsf : sf.isRef = true) (SAD : Sta Z Z.heap "java/lang/StringUTF16" "$assertionsDisabled" "Z" (.int 1)) (SHI : Sta Z Z.heap "java/lang/StringUTF16" "HI_BYTE_SHIFT" "I" (.int 0)) (SLO : Sta Z Z.heap "java/lang/StringUTF16" "LO_BYTE_SHIFT" "I" (.int 8)) (PB : oAI Z h0 b .byte n (oLo f)) (hn : n < 1000000) (hi : 0 ≤ i.toInt ∧ i.toInt < n) (hr : 0 ≤ (f i.toInt.toNat).toInt ∧ (f i.toInt.toNat).toInt < 256) :
    MetFree l (⟨"java/lang/StringLatin1", "charAt", "([BI)C"⟩ : MethodName) (head1 (Jvm.Cond.code (⟨"java/lang/StringLatin1", "charAt", "([BI)C"⟩ : MethodName) jdk_43_method_2_code 2 (some .char) :: ws) ({ frames := 2, cells := 0, slots := 0, locals := 27 } : Room)) (fun aA uU => aA = #[(.ref b), (.int i)] ∧ Z.Warmed39 uU.vm ∧ uU.heap = h0) (fun _ _ _ _ _ => True) (fun _ uU oO uU' => ∃ vV lL, oO = .returned vV ∧ Q_rmLch Z b n i f cz sf h0 n0 vV uU'.heap lL ∧ FrameEnd uU oO uU' lL ({ frames := 2, cells := 0, slots := 0, locals := 27 } : Room).cells ({ frames := 2, cells := 0, slots := 0, locals := 27 } : Room).slots) := by
  refine MetFree.of_bodySF (plainFor_of_name pn_StringLatin1) hisR ?_
  intro p e s m args below meth c s₁ Bd hml0 hP hK
  obtain ⟨rfl, hZ, hh⟩ := hP
  have hx := Bd.exec
  have hby := Bd.bytes
  have hml : c.maxLocals = 2 := hml0
  have hown : s.vm.findClass "java/lang/StringLatin1" = some m.cls := findClass_of_methodNamed Bd.named
  have hnm := (name_of_methodNamed Bd.named Bd.method).1
  have X0 : Stand p l e ({ frames := 2, cells := 0, slots := 0, locals := 27 } : Room) s m #[(.ref b), (.int i)] below meth c s₁ [] 0 0 := Stand.of_body Bd
  have e0 : s₁.heap = h0 := by rw [← hh, Bd.state]; rfl
  have N0 := Fr.nil n0
  have hi1 : ¬ (i < (0 : Int32)) := by
    rw [Int32.lt_iff_toInt_lt]; have e0 : (0 : Int32).toInt = 0 := rfl; omega
  have hi2 : i < Int32.ofNat n := by
    rw [Int32.lt_iff_toInt_lt, own_ofNat (by omega)]; omega
  refine oEnter (oCast (ef_rmLch m b i ) ?_)
  show oGl p e below (s₁.setTop (mkF m 0 #[.val (.ref b), .val (.int i)] [])) _
  refine siloadN X0 hx (hb hby d15_0) rfl rfl (pc' := 1) ?_
  refine saloadN X0 hx (hb hby d15_1) rfl rfl rfl (pc' := 2) ?_
  refine oOn (PB.len X0 hx hZ e0 (g := (mkF m 2 #[.val (.ref b), .val (.int i)] [(.ref b), (.int i)])) rfl rfl (hb hby d15_2)) ?_
  show oGl p e below (s₁.setTop (mkF m 3 #[.val (.ref b), .val (.int i)] [(.int (Int32.ofNat n)), (.int i)])) _
  have hz1 : n0 ≤ h0.size := by omega
  obtain ⟨_, _, ⟨T1, L1, k1, n1⟩, -, X1, ⟨Lc1, hQ1, l1, y1, z1⟩, st1⟩ := Jvm.LawKit.callS X0 hx (y := (⟨"java/lang/String", "checkIndex", "(II)V"⟩ : MethodName)) hown (mvT hZ (hw _ (List.mem_of_getElem? (i := 75) rfl))) (mvT hZ (hw _ (List.mem_of_getElem? (i := 76) rfl))) (mvT hZ (hw _ (List.mem_of_getElem? (i := 3) rfl))) (mvT hZ (hw _ (List.mem_of_getElem? (i := 77) rfl))) (by decide) (backOf (W := 0) (rmCki l Z a0 hw [] i (Int32.ofNat n) cz sf h0 n0 hz1 O0 SCS hcz SSF hsf SAD SHI SLO hi1 hi2) hZ (hw _ (List.mem_of_getElem? (i := 77) rfl)) (hw _ (List.mem_of_getElem? (i := 3) rfl)) (by decide) (by decide)) (g := (mkF m 3 #[.val (.ref b), .val (.int i)] [(.int (Int32.ofNat n)), (.int i)])) rfl (by rw [hml]; rfl) (argsL := [(.int i), (.int (Int32.ofNat n))]) (rest := []) (lenOf pd_10 rfl) rfl (by show 2 * 0 + _ ≤ _; exact Nat.le_of_eq rfl) (hb hby d15_3) (fun _ _ => ⟨rfl, e0, (by decide : 0 + 0 ≤ _), (by decide : 0 + 0 ≤ _)⟩)
  dsimp only [Pt.U, Pt.locs, Pt.cells, Pt.slots] at X1 l1 y1 z1 st1 hQ1
  subst l1 y1 z1
  obtain ⟨rfl, N1q, eh1⟩ := hQ1
  have N1 := Fr.app N0 N1q
  refine oOn st1 ?_
  show oGl p e below (T1.setTop (mkF m 6 #[.val (.ref b), .val (.int i)] [])) _
  refine saloadN X1 hx (hb hby d15_6) rfl rfl rfl (pc' := 7) ?_
  refine siloadN X1 hx (hb hby d15_7) rfl rfl (pc' := 8) ?_
  refine oOn (PB.ldB X1 hx hZ eh1 (j := i) hi (g := (mkF m 8 #[.val (.ref b), .val (.int i)] [(.int i), (.ref b)])) rfl rfl (hb hby d15_8)) ?_
  show oGl p e below (T1.setTop (mkF m 9 #[.val (.ref b), .val (.int i)] [(.int ((oLo f) i.toInt.toNat))])) _
  refine ssipush X1 hx (hb hby d15_9) rfl rfl (z := 255) (pc' := 12) ?_
  refine siand X1 hx (hb hby d15_12) rfl rfl (pc' := 13) ?_
  refine si2c X1 hx (hb hby d15_13) rfl rfl (pc' := 14) ?_
  refine oRetN (t := .char) X1 hx Bd.notSynchronized Bd.returns (by simp) (hb hby d15_14) (by decide) (by decide) ?_
  show Q_rmLch Z b n i f cz sf h0 n0 _ T1.heap _
  rw [eh1]
  exact ⟨congrArg (fun z => some (Value.int z)) (own_lt8 _ hr), N1, rfl⟩
theorem d25_0 : decode jdk_52_method_6_code 0 = .ok (.aload_n 0, 1) := by decide +kernel
theorem d25_1 : decode jdk_52_method_6_code 1 = .ok (.arraylength, 1) := by decide +kernel
theorem d25_2 : decode jdk_52_method_6_code 2 = .ok (.iconst 1, 1) := by decide +kernel
theorem d25_3 : decode jdk_52_method_6_code 3 = .ok (.ishr, 1) := by decide +kernel
theorem d25_4 : decode jdk_52_method_6_code 4 = .ok (.ireturn, 1) := by decide +kernel
theorem ef_rmUle (m : MethodId) (x0 : Nat)  : entryFrame m #[(.ref x0)] 1 = mkF m 0 #[.val (.ref x0)] [] := by first | (simp [entryFrame, mkF, argsToLocals, Value.category, maxLocals]; done) | rfl
def Q_rmUle (Z : State) (b n : Nat) (g : Nat → Int32) (h0 : Heap) (n0 : Nat) (vv : Option Value) (h : Heap) (L : List Loc) : Prop := vv = some (.int (Int32.ofNat n)) ∧ Fr n0 L ∧ h = h0
set_option maxRecDepth 65536 in
set_option maxHeartbeats 40000000 in
theorem rmUle (l : Launch) (Z : State) (a0 : Array Value) (hw : ∀ d ∈ tables_1, d.before a0 Z = true) (ws : List Jvm.Cond) (b n : Nat) (g : Nat → Int32) (h0 : Heap) (n0 : Nat) (Z0 : n0 ≤ h0.size) (PB : oAI Z h0 b .byte (2 * n) g) (hn : n < 1000000) :
    MetFree l (⟨"java/lang/StringUTF16", "length", "([B)I"⟩ : MethodName) (head1 (Jvm.Cond.code (⟨"java/lang/StringUTF16", "length", "([B)I"⟩ : MethodName) jdk_52_method_6_code 1 (some .int) :: ws) ({ frames := 0, cells := 0, slots := 0, locals := 0 } : Room)) (fun aA uU => aA = #[(.ref b)] ∧ Z.Warmed39 uU.vm ∧ uU.heap = h0) (fun _ _ _ _ _ => True) (fun _ uU oO uU' => ∃ vV lL, oO = .returned vV ∧ Q_rmUle Z b n g h0 n0 vV uU'.heap lL ∧ FrameEnd uU oO uU' lL ({ frames := 0, cells := 0, slots := 0, locals := 0 } : Room).cells ({ frames := 0, cells := 0, slots := 0, locals := 0 } : Room).slots) := by
  refine MetFree.of_bodySF (plainFor_of_name pn_StringUTF16) hisR ?_
  intro p e s m args below meth c s₁ Bd hml0 hP hK
  obtain ⟨rfl, hZ, hh⟩ := hP
  have hx := Bd.exec
  have hby := Bd.bytes
  have hml : c.maxLocals = 1 := hml0
  have hown : s.vm.findClass "java/lang/StringUTF16" = some m.cls := findClass_of_methodNamed Bd.named
  have hnm := (name_of_methodNamed Bd.named Bd.method).1
  have X0 : Stand p l e ({ frames := 0, cells := 0, slots := 0, locals := 0 } : Room) s m #[(.ref b)] below meth c s₁ [] 0 0 := Stand.of_body Bd
  have e0 : s₁.heap = h0 := by rw [← hh, Bd.state]; rfl
  have N0 := Fr.nil n0
  refine oEnter (oCast (ef_rmUle m b ) ?_)
  show oGl p e below (s₁.setTop (mkF m 0 #[.val (.ref b)] [])) _
  refine saloadN X0 hx (hb hby d25_0) rfl rfl rfl (pc' := 1) ?_
  refine oOn (PB.len X0 hx hZ e0 (g := (mkF m 1 #[.val (.ref b)] [(.ref b)])) rfl rfl (hb hby d25_1)) ?_
  show oGl p e below (s₁.setTop (mkF m 2 #[.val (.ref b)] [(.int (Int32.ofNat (2 * n)))])) _
  refine siconst X0 hx (hb hby d25_2) rfl rfl (z := 1) (pc' := 3) ?_
  refine sishr X0 hx (hb hby d25_3) rfl rfl (pc' := 4) ?_
  refine oRetI X0 hx Bd.notSynchronized Bd.returns (hb hby d25_4) (by decide) (by decide) ?_
  show Q_rmUle Z b n g h0 n0 _ s₁.heap _
  rw [e0]
  exact ⟨congrArg (fun z => some (Value.int z)) (own_len1 hn), N0, rfl⟩
theorem d24_0 : decode jdk_52_method_91_code 0 = .ok (.iload_n 0, 1) := by decide +kernel
theorem d24_1 : decode jdk_52_method_91_code 1 = .ok (.aload_n 1, 1) := by decide +kernel
theorem d24_2 : decode jdk_52_method_91_code 2 = .ok (.invokestatic 48, 3) := by decide +kernel
theorem pd_11 : parseMethodDescriptor "([B)I" = some ⟨[(.array .byte)], some .int⟩ := by decide +kernel
theorem d24_5 : decode jdk_52_method_91_code 5 = .ok (.invokestatic 414, 3) := by decide +kernel
theorem d24_8 : decode jdk_52_method_91_code 8 = .ok (.return_, 1) := by decide +kernel
theorem ef_rmUck (m : MethodId) (x0 : Int32) (x1 : Nat)  : entryFrame m #[(.int x0), (.ref x1)] 2 = mkF m 0 #[.val (.int x0), .val (.ref x1)] [] := by first | (simp [entryFrame, mkF, argsToLocals, Value.category, maxLocals]; done) | rfl
def Q_rmUck (Z : State) (b n : Nat) (i : Int32) (g : Nat → Int32) (cz : Int32) (sf : Value) (h0 : Heap) (n0 : Nat) (vv : Option Value) (h : Heap) (L : List Loc) : Prop := vv = none ∧ Fr n0 L ∧ h = h0
set_option maxRecDepth 65536 in
set_option maxHeartbeats 40000000 in
theorem rmUck (l : Launch) (Z : State) (a0 : Array Value) (hw : ∀ d ∈ tables_1, d.before a0 Z = true) (ws : List Jvm.Cond) (b n : Nat) (i : Int32) (g : Nat → Int32) (cz : Int32) (sf : Value) (h0 : Heap) (n0 : Nat) (Z0 : n0 ≤ h0.size) (O0 : Old Z n0 h0) (SCS : Sta Z Z.heap "java/lang/String" "COMPACT_STRINGS" "Z" (.int cz)) (hcz : ¬ cz = (0 : Int32)) (SSF : Sta Z Z.heap "jdk/internal/util/Preconditions" "SIOOBE_FORMATTER" "Ljava/util/function/BiFunction;" sf) (hsf : sf.isRef = true) (SAD : Sta Z Z.heap "java/lang/StringUTF16" "$assertionsDisabled" "Z" (.int 1)) (SHI : Sta Z Z.heap "java/lang/StringUTF16" "HI_BYTE_SHIFT" "I" (.int 0)) (SLO : Sta Z Z.heap "java/lang/StringUTF16" "LO_BYTE_SHIFT" "I" (.int 8)) (PB : oAI Z h0 b .byte (2 * n) g) (hn : n < 1000000) (hi : 0 ≤ i.toInt ∧ i.toInt < n) :
    MetFree l (⟨"java/lang/StringUTF16", "checkIndex", "(I[B)V"⟩ : MethodName) (head1 (Jvm.Cond.code (⟨"java/lang/StringUTF16", "checkIndex", "(I[B)V"⟩ : MethodName) jdk_52_method_91_code 2 (none : Option FieldType) :: ws) ({ frames := 2, cells := 0, slots := 0, locals := 27 } : Room)) (fun aA uU => aA = #[(.int i), (.ref b)] ∧ Z.Warmed39 uU.vm ∧ uU.heap = h0) (fun _ _ _ _ _ => True) (fun _ uU oO uU' => ∃ vV lL, oO = .returned vV ∧ Q_rmUck Z b n i g cz sf h0 n0 vV uU'.heap lL ∧ FrameEnd uU oO uU' lL ({ frames := 2, cells := 0, slots := 0, locals := 27 } : Room).cells ({ frames := 2, cells := 0, slots := 0, locals := 27 } : Room).slots) := by
  refine MetFree.of_bodySF (plainFor_of_name pn_StringUTF16) hisR ?_
  intro p e s m args below meth c s₁ Bd hml0 hP hK
  obtain ⟨rfl, hZ, hh⟩ := hP
  have hx := Bd.exec
  have hby := Bd.bytes
  have hml : c.maxLocals = 2 := hml0
  have hown : s.vm.findClass "java/lang/StringUTF16" = some m.cls := findClass_of_methodNamed Bd.named
  have hnm := (name_of_methodNamed Bd.named Bd.method).1
  have X0 : Stand p l e ({ frames := 2, cells := 0, slots := 0, locals := 27 } : Room) s m #[(.int i), (.ref b)] below meth c s₁ [] 0 0 := Stand.of_body Bd
  have e0 : s₁.heap = h0 := by rw [← hh, Bd.state]; rfl
  have N0 := Fr.nil n0
  have hi1 : ¬ (i < (0 : Int32)) := by
    rw [Int32.lt_iff_toInt_lt]; have e0 : (0 : Int32).toInt = 0 := rfl; omega
  have hi2 : i < Int32.ofNat n := by
    rw [Int32.lt_iff_toInt_lt, own_ofNat (by omega)]; omega
  refine oEnter (oCast (ef_rmUck m i b ) ?_)
  show oGl p e below (s₁.setTop (mkF m 0 #[.val (.int i), .val (.ref b)] [])) _
  refine siloadN X0 hx (hb hby d24_0) rfl rfl (pc' := 1) ?_
  refine saloadN X0 hx (hb hby d24_1) rfl rfl rfl (pc' := 2) ?_
  have hz1 : n0 ≤ h0.size := by omega
  obtain ⟨_, _, ⟨T1, L1, k1, n1⟩, -, X1, ⟨Lc1, hQ1, l1, y1, z1⟩, st1⟩ := Jvm.LawKit.callS X0 hx (y := (⟨"java/lang/StringUTF16", "length", "([B)I"⟩ : MethodName)) hown (mvT hZ (hw _ (List.mem_of_getElem? (i := 108) rfl))) (mvT hZ (hw _ (List.mem_of_getElem? (i := 109) rfl))) (mvT hZ (hw _ (List.mem_of_getElem? (i := 39) rfl))) (mvT hZ (hw _ (List.mem_of_getElem? (i := 110) rfl))) (by decide) (backOf (W := 1) (rmUle l Z a0 hw [] b n g h0 n0 hz1 PB hn) hZ (hw _ (List.mem_of_getElem? (i := 110) rfl)) (hw _ (List.mem_of_getElem? (i := 39) rfl)) (by decide) (by decide)) (g := (mkF m 2 #[.val (.int i), .val (.ref b)] [(.ref b), (.int i)])) rfl (by rw [hml]; rfl) (argsL := [(.ref b)]) (rest := [(.int i)]) (lenOf pd_11 rfl) rfl (by show 2 * 0 + _ ≤ _; exact Nat.le_of_eq rfl) (hb hby d24_2) (fun _ _ => ⟨rfl, e0, (by decide : 0 + 0 ≤ _), (by decide : 0 + 0 ≤ _)⟩)
  dsimp only [Pt.U, Pt.locs, Pt.cells, Pt.slots] at X1 l1 y1 z1 st1 hQ1
  subst l1 y1 z1
  obtain ⟨rfl, N1q, eh1⟩ := hQ1
  have N1 := Fr.app N0 N1q
  refine oOn st1 ?_
  show oGl p e below (T1.setTop (mkF m 5 #[.val (.int i), .val (.ref b)] [(.int (Int32.ofNat n)), (.int i)])) _
  have hz2 : n0 ≤ h0.size := by omega
  obtain ⟨_, _, ⟨T2, L2, k2, n2⟩, -, X2, ⟨Lc2, hQ2, l2, y2, z2⟩, st2⟩ := Jvm.LawKit.callS X1 hx (y := (⟨"java/lang/String", "checkIndex", "(II)V"⟩ : MethodName)) hown (mvT hZ (hw _ (List.mem_of_getElem? (i := 111) rfl))) (mvT hZ (hw _ (List.mem_of_getElem? (i := 76) rfl))) (mvT hZ (hw _ (List.mem_of_getElem? (i := 3) rfl))) (mvT hZ (hw _ (List.mem_of_getElem? (i := 77) rfl))) (by decide) (backOf (W := 0) (rmCki l Z a0 hw [] i (Int32.ofNat n) cz sf h0 n0 hz2 O0 SCS hcz SSF hsf SAD SHI SLO hi1 hi2) hZ (hw _ (List.mem_of_getElem? (i := 77) rfl)) (hw _ (List.mem_of_getElem? (i := 3) rfl)) (by decide) (by decide)) (g := (mkF m 5 #[.val (.int i), .val (.ref b)] [(.int (Int32.ofNat n)), (.int i)])) rfl (by rw [hml]; rfl) (argsL := [(.int i), (.int (Int32.ofNat n))]) (rest := []) (lenOf pd_10 rfl) rfl (by show 2 * 0 + _ ≤ _; exact Nat.le_of_eq rfl) (hb hby d24_5) (fun _ _ => ⟨rfl, eh1, (by decide : 0 + 0 ≤ _), (by decide : 0 + 0 ≤ _)⟩)
  dsimp only [Pt.U, Pt.locs, Pt.cells, Pt.slots] at X2 l2 y2 z2 st2 hQ2
  subst l2 y2 z2
  obtain ⟨rfl, N2q, eh2⟩ := hQ2
  have N2 := Fr.app N1 N2q
  refine oOn st2 ?_
  show oGl p e below (T2.setTop (mkF m 8 #[.val (.int i), .val (.ref b)] [])) _
  refine oRet0 X2 hx Bd.notSynchronized Bd.returns (hb hby d24_8) (by decide) (by decide) ?_
  show Q_rmUck Z b n i g cz sf h0 n0 _ T2.heap _
  rw [eh2]
  exact ⟨rfl, N2, rfl⟩
theorem own_nch {x : Int32} (h : 0 ≤ x.toInt ∧ x.toInt < 65536) : nar .char x = x := by
  have h1 := c_i2c x
  apply Int32.toInt_inj.mp
  show x.toUInt32.toUInt16.toUInt32.toInt32.toInt = _
  omega
theorem d23_0 : decode jdk_52_method_83_code 0 = .ok (.iload_n 1, 1) := by decide +kernel
theorem d23_1 : decode jdk_52_method_83_code 1 = .ok (.aload_n 0, 1) := by decide +kernel
theorem d23_2 : decode jdk_52_method_83_code 2 = .ok (.invokestatic 67, 3) := by decide +kernel
theorem pd_12 : parseMethodDescriptor "(I[B)V" = some ⟨[.int, (.array .byte)], none⟩ := by decide +kernel
theorem d23_5 : decode jdk_52_method_83_code 5 = .ok (.aload_n 0, 1) := by decide +kernel
theorem d23_6 : decode jdk_52_method_83_code 6 = .ok (.iload_n 1, 1) := by decide +kernel
theorem d23_7 : decode jdk_52_method_83_code 7 = .ok (.invokestatic 71, 3) := by decide +kernel
theorem d23_10 : decode jdk_52_method_83_code 10 = .ok (.ireturn, 1) := by decide +kernel
theorem ef_rmUch (m : MethodId) (x0 : Nat) (x1 : Int32)  : entryFrame m #[(.ref x0), (.int x1)] 2 = mkF m 0 #[.val (.ref x0), .val (.int x1)] [] := by first | (simp [entryFrame, mkF, argsToLocals, Value.category, maxLocals]; done) | rfl
def Q_rmUch (Z : State) (b n : Nat) (i : Int32) (f : Nat → Int32) (cz : Int32) (sf : Value) (h0 : Heap) (n0 : Nat) (vv : Option Value) (h : Heap) (L : List Loc) : Prop := vv = some (.int (f i.toInt.toNat)) ∧ Fr n0 L ∧ h = h0
set_option maxRecDepth 65536 in
set_option maxHeartbeats 40000000 in
theorem rmUch (l : Launch) (Z : State) (a0 : Array Value) (hw : ∀ d ∈ tables_1, d.before a0 Z = true) (ws : List Jvm.Cond) (b n : Nat) (i : Int32) (f : Nat → Int32) (cz : Int32) (sf : Value) (h0 : Heap) (n0 : Nat) (Z0 : n0 ≤ h0.size) (O0 : Old Z n0 h0) (SCS : Sta Z Z.heap "java/lang/String" "COMPACT_STRINGS" "Z" (.int cz)) (hcz : ¬ cz = (0 : Int32)) (SSF : Sta Z Z.heap "jdk/internal/util/Preconditions" "SIOOBE_FORMATTER" "Ljava/util/function/BiFunction;" sf) (hsf : sf.isRef = true) (SAD : Sta Z Z.heap "java/lang/StringUTF16" "$assertionsDisabled" "Z" (.int 1)) (SHI : Sta Z Z.heap "java/lang/StringUTF16" "HI_BYTE_SHIFT" "I" (.int 0)) (SLO : Sta Z Z.heap "java/lang/StringUTF16" "LO_BYTE_SHIFT" "I" (.int 8)) (PB : oAI Z h0 b .byte (2 * n) (oU f)) (hn : n < 1000000) (hi : 0 ≤ i.toInt ∧ i.toInt < n) (hr : 0 ≤ (f i.toInt.toNat).toInt ∧ (f i.toInt.toNat).toInt < 65536) :
    MetFree l (⟨"java/lang/StringUTF16", "charAt", "([BI)C"⟩ : MethodName) (head1 (Jvm.Cond.code (⟨"java/lang/StringUTF16", "charAt", "([BI)C"⟩ : MethodName) jdk_52_method_83_code 2 (some .char) :: ws) ({ frames := 3, cells := 0, slots := 0, locals := 40 } : Room)) (fun aA uU => aA = #[(.ref b), (.int i)] ∧ Z.Warmed39 uU.vm ∧ uU.heap = h0) (fun _ _ _ _ _ => True) (fun _ uU oO uU' => ∃ vV lL, oO = .returned vV ∧ Q_rmUch Z b n i f cz sf h0 n0 vV uU'.heap lL ∧ FrameEnd uU oO uU' lL ({ frames := 3, cells := 0, slots := 0, locals := 40 } : Room).cells ({ frames := 3, cells := 0, slots := 0, locals := 40 } : Room).slots) := by
  refine MetFree.of_bodySF (plainFor_of_name pn_StringUTF16) hisR ?_
  intro p e s m args below meth c s₁ Bd hml0 hP hK
  obtain ⟨rfl, hZ, hh⟩ := hP
  have hx := Bd.exec
  have hby := Bd.bytes
  have hml : c.maxLocals = 2 := hml0
  have hown : s.vm.findClass "java/lang/StringUTF16" = some m.cls := findClass_of_methodNamed Bd.named
  have hnm := (name_of_methodNamed Bd.named Bd.method).1
  have X0 : Stand p l e ({ frames := 3, cells := 0, slots := 0, locals := 40 } : Room) s m #[(.ref b), (.int i)] below meth c s₁ [] 0 0 := Stand.of_body Bd
  have e0 : s₁.heap = h0 := by rw [← hh, Bd.state]; rfl
  have N0 := Fr.nil n0
  have hnc := own_nch hr
  refine oEnter (oCast (ef_rmUch m b i ) ?_)
  show oGl p e below (s₁.setTop (mkF m 0 #[.val (.ref b), .val (.int i)] [])) _
  refine siloadN X0 hx (hb hby d23_0) rfl rfl (pc' := 1) ?_
  refine saloadN X0 hx (hb hby d23_1) rfl rfl rfl (pc' := 2) ?_
  have hz1 : n0 ≤ h0.size := by omega
  obtain ⟨_, _, ⟨T1, L1, k1, n1⟩, -, X1, ⟨Lc1, hQ1, l1, y1, z1⟩, st1⟩ := Jvm.LawKit.callS X0 hx (y := (⟨"java/lang/StringUTF16", "checkIndex", "(I[B)V"⟩ : MethodName)) hown (mvT hZ (hw _ (List.mem_of_getElem? (i := 105) rfl))) (mvT hZ (hw _ (List.mem_of_getElem? (i := 106) rfl))) (mvT hZ (hw _ (List.mem_of_getElem? (i := 39) rfl))) (mvT hZ (hw _ (List.mem_of_getElem? (i := 107) rfl))) (by decide) (backOf (W := 0) (rmUck l Z a0 hw [] b n i (oU f) cz sf h0 n0 hz1 O0 SCS hcz SSF hsf SAD SHI SLO PB hn hi) hZ (hw _ (List.mem_of_getElem? (i := 107) rfl)) (hw _ (List.mem_of_getElem? (i := 39) rfl)) (by decide) (by decide)) (g := (mkF m 2 #[.val (.ref b), .val (.int i)] [(.ref b), (.int i)])) rfl (by rw [hml]; rfl) (argsL := [(.int i), (.ref b)]) (rest := []) (lenOf pd_12 rfl) rfl (by show 2 * 0 + _ ≤ _; exact Nat.le_of_eq rfl) (hb hby d23_2) (fun _ _ => ⟨rfl, e0, (by decide : 0 + 0 ≤ _), (by decide : 0 + 0 ≤ _)⟩)
  dsimp only [Pt.U, Pt.locs, Pt.cells, Pt.slots] at X1 l1 y1 z1 st1 hQ1
  subst l1 y1 z1
  obtain ⟨rfl, N1q, eh1⟩ := hQ1
  have N1 := Fr.app N0 N1q
  refine oOn st1 ?_
  show oGl p e below (T1.setTop (mkF m 5 #[.val (.ref b), .val (.int i)] [])) _
  refine saloadN X1 hx (hb hby d23_5) rfl rfl rfl (pc' := 6) ?_
  refine siloadN X1 hx (hb hby d23_6) rfl rfl (pc' := 7) ?_
  have hz2 : n0 ≤ h0.size := by omega
  obtain ⟨_, _, ⟨T2, L2, k2, n2⟩, -, X2, ⟨Lc2, hQ2, l2, y2, z2⟩, st2⟩ := Jvm.LawKit.callS X1 hx (y := (⟨"java/lang/StringUTF16", "getChar", "([BI)C"⟩ : MethodName)) hown (mvT hZ (hw _ (List.mem_of_getElem? (i := 99) rfl))) (mvT hZ (hw _ (List.mem_of_getElem? (i := 100) rfl))) (mvT hZ (hw _ (List.mem_of_getElem? (i := 39) rfl))) (mvT hZ (hw _ (List.mem_of_getElem? (i := 101) rfl))) (by decide) (backOf (W := 0) (rmGet l Z a0 hw [] b n i f cz sf h0 n0 hz2 O0 SCS hcz SSF hsf SAD SHI SLO hn PB hi hr) hZ (hw _ (List.mem_of_getElem? (i := 101) rfl)) (hw _ (List.mem_of_getElem? (i := 39) rfl)) (by decide) (by decide)) (g := (mkF m 7 #[.val (.ref b), .val (.int i)] [(.int i), (.ref b)])) rfl (by rw [hml]; rfl) (argsL := [(.ref b), (.int i)]) (rest := []) (lenOf pd_5 rfl) rfl (by show 2 * 0 + _ ≤ _; exact Nat.le_of_eq rfl) (hb hby d23_7) (fun _ _ => ⟨rfl, eh1, (by decide : 0 + 0 ≤ _), (by decide : 0 + 0 ≤ _)⟩)
  dsimp only [Pt.U, Pt.locs, Pt.cells, Pt.slots] at X2 l2 y2 z2 st2 hQ2
  subst l2 y2 z2
  obtain ⟨rfl, N2q, eh2⟩ := hQ2
  have N2 := Fr.app N1 N2q
  refine oOn st2 ?_
  show oGl p e below (T2.setTop (mkF m 10 #[.val (.ref b), .val (.int i)] [(.int (f i.toInt.toNat))])) _
  refine oRetN (t := .char) X2 hx Bd.notSynchronized Bd.returns (by simp) (hb hby d23_10) (by decide) (by decide) ?_
  show Q_rmUch Z b n i f cz sf h0 n0 _ T2.heap _
  rw [eh2]
  exact ⟨congrArg (fun z => some (Value.int z)) hnc, N2, rfl⟩
theorem d13_0 : decode jdk_42_method_56_code 0 = .ok (.aload_n 0, 1) := by decide +kernel
theorem d13_1 : decode jdk_42_method_56_code 1 = .ok (.invokevirtual 492, 3) := by decide +kernel
theorem pd_13 : parseMethodDescriptor "()Z" = some ⟨[], some .boolean⟩ := by decide +kernel
theorem d13_4 : decode jdk_42_method_56_code 4 = .ok (.ifCond .eq 12, 3) := by decide +kernel
theorem d13_7 : decode jdk_42_method_56_code 7 = .ok (.aload_n 0, 1) := by decide +kernel
theorem d13_8 : decode jdk_42_method_56_code 8 = .ok (.getfield 9, 3) := by decide +kernel
theorem d13_11 : decode jdk_42_method_56_code 11 = .ok (.iload_n 1, 1) := by decide +kernel
theorem d13_12 : decode jdk_42_method_56_code 12 = .ok (.invokestatic 495, 3) := by decide +kernel
theorem d13_15 : decode jdk_42_method_56_code 15 = .ok (.ireturn, 1) := by decide +kernel
theorem d13_16 : decode jdk_42_method_56_code 16 = .ok (.aload_n 0, 1) := by decide +kernel
theorem d13_17 : decode jdk_42_method_56_code 17 = .ok (.getfield 9, 3) := by decide +kernel
theorem d13_20 : decode jdk_42_method_56_code 20 = .ok (.iload_n 1, 1) := by decide +kernel
theorem d13_21 : decode jdk_42_method_56_code 21 = .ok (.invokestatic 498, 3) := by decide +kernel
theorem d13_24 : decode jdk_42_method_56_code 24 = .ok (.ireturn, 1) := by decide +kernel
theorem ef_rmCha (m : MethodId) (x0 : Nat) (x1 : Int32)  : entryFrame m #[(.ref x0), (.int x1)] 2 = mkF m 0 #[.val (.ref x0), .val (.int x1)] [] := by first | (simp [entryFrame, mkF, argsToLocals, Value.category, maxLocals]; done) | rfl
def Q_rmCha (Z : State) (x n : Nat) (i : Int32) (f : Nat → Int32) (cz : Int32) (sf : Value) (h0 : Heap) (n0 : Nat) (vv : Option Value) (h : Heap) (L : List Loc) : Prop := vv = some (.int (f i.toInt.toNat)) ∧ Fr n0 L ∧ h = h0
set_option maxRecDepth 65536 in
set_option maxHeartbeats 40000000 in
theorem rmCha (l : Launch) (Z : State) (a0 : Array Value) (hw : ∀ d ∈ tables_1, d.before a0 Z = true) (ws : List Jvm.Cond) (x n : Nat) (i : Int32) (f : Nat → Int32) (cz : Int32) (sf : Value) (h0 : Heap) (n0 : Nat) (Z0 : n0 ≤ h0.size) (O0 : Old Z n0 h0) (SCS : Sta Z Z.heap "java/lang/String" "COMPACT_STRINGS" "Z" (.int cz)) (hcz : ¬ cz = (0 : Int32)) (SSF : Sta Z Z.heap "jdk/internal/util/Preconditions" "SIOOBE_FORMATTER" "Ljava/util/function/BiFunction;" sf) (hsf : sf.isRef = true) (SAD : Sta Z Z.heap "java/lang/StringUTF16" "$assertionsDisabled" "Z" (.int 1)) (SHI : Sta Z Z.heap "java/lang/StringUTF16" "HI_BYTE_SHIFT" "I" (.int 0)) (SLO : Sta Z Z.heap "java/lang/StringUTF16" "LO_BYTE_SHIFT" "I" (.int 8)) (E0 : Exa Z h0 x "java/lang/String") (PS : oStr Z h0 x n f) (hn : n < 1000000) (hi : 0 ≤ i.toInt ∧ i.toInt < n) (hr : 0 ≤ (f i.toInt.toNat).toInt ∧ (f i.toInt.toNat).toInt < 65536) :
    MetFree l (⟨"java/lang/String", "charAt", "(I)C"⟩ : MethodName) (head1 (Jvm.Cond.code (⟨"java/lang/String", "charAt", "(I)C"⟩ : MethodName) jdk_42_method_56_code 2 (some .char) :: ws) ({ frames := 4, cells := 0, slots := 0, locals := 53 } : Room)) (fun aA uU => aA = #[(.ref x), (.int i)] ∧ Z.Warmed39 uU.vm ∧ uU.heap = h0) (fun _ _ _ _ _ => True) (fun _ uU oO uU' => ∃ vV lL, oO = .returned vV ∧ Q_rmCha Z x n i f cz sf h0 n0 vV uU'.heap lL ∧ FrameEnd uU oO uU' lL ({ frames := 4, cells := 0, slots := 0, locals := 53 } : Room).cells ({ frames := 4, cells := 0, slots := 0, locals := 53 } : Room).slots) := by
  refine MetFree.of_bodySF (plainFor_of_name pn_String) hisR ?_
  intro p e s m args below meth c s₁ Bd hml0 hP hK
  obtain ⟨rfl, hZ, hh⟩ := hP
  have hx := Bd.exec
  have hby := Bd.bytes
  have hml : c.maxLocals = 2 := hml0
  have hown : s.vm.findClass "java/lang/String" = some m.cls := findClass_of_methodNamed Bd.named
  have hnm := (name_of_methodNamed Bd.named Bd.method).1
  have X0 : Stand p l e ({ frames := 4, cells := 0, slots := 0, locals := 53 } : Room) s m #[(.ref x), (.int i)] below meth c s₁ [] 0 0 := Stand.of_body Bd
  have e0 : s₁.heap = h0 := by rw [← hh, Bd.state]; rfl
  have N0 := Fr.nil n0
  have hnc := own_nch hr
  refine oEnter (oCast (ef_rmCha m x i ) ?_)
  show oGl p e below (s₁.setTop (mkF m 0 #[.val (.ref x), .val (.int i)] [])) _
  obtain ⟨b, Gv, Gd⟩ := PS
  rcases Gd with ⟨Gc, Ga, Gl⟩ | ⟨Gc, Ga⟩
  · skip
    refine saloadN X0 hx (hb hby d13_0) rfl rfl rfl (pc' := 1) ?_
    have hz1 : n0 ≤ h0.size := by omega
    obtain ⟨cq1, kq1, q1a, q1b, q1c⟩ := isOf hZ e0 E0
    obtain ⟨_, _, ⟨T1, L1, k1, n1⟩, -, X1, ⟨Lc1, hQ1, l1, y1, z1⟩, st1⟩ := X0.virtualBack hx (y := (⟨"java/lang/String", "isLatin1", "()Z"⟩ : MethodName)) (z := (⟨"java/lang/String", "isLatin1", "()Z"⟩ : MethodName)) hown (mvT hZ (hw _ (List.mem_of_getElem? (i := 66) rfl))) (mvT hZ (hw _ (List.mem_of_getElem? (i := 67) rfl))) (notFace_of_selects (args := #[]) (mvT hZ (hw _ (List.mem_of_getElem? (i := 69) rfl)))) (mvT hZ (hw _ (List.mem_of_getElem? (i := 69) rfl))) (mvT hZ (hw _ (List.mem_of_getElem? (i := 68) rfl))) (by decide) (backOf (W := 0) (rmIsL0 l Z a0 hw [] x cz h0 n0 hz1 O0 SCS hcz Gc) hZ (hw _ (List.mem_of_getElem? (i := 70) rfl)) (hw _ (List.mem_of_getElem? (i := 3) rfl)) (by decide) (by decide)) q1a q1c (g := (mkF m 1 #[.val (.ref x), .val (.int i)] [(.ref x)])) rfl (by rw [hml]; rfl) (Steps.refl _) (argsL := []) (rest := []) (lenOf pd_13 rfl) rfl (by show 2 * 0 + _ ≤ _; exact Nat.le_of_eq rfl) (hb hby d13_1) (fun _ _ => ⟨rfl, e0, (by decide : 0 + 0 ≤ _), (by decide : 0 + 0 ≤ _)⟩)
    dsimp only [Pt.U, Pt.locs, Pt.cells, Pt.slots] at X1 l1 y1 z1 st1 hQ1
    subst l1 y1 z1
    obtain ⟨rfl, N1q, eh1⟩ := hQ1
    have N1 := Fr.app N0 N1q
    refine oSt st1 ?_
    show oGl p e below (T1.setTop (mkF m 4 #[.val (.ref x), .val (.int i)] [(.int (1 : Int32))])) _
    refine sifN X1 hx (hb hby d13_4) rfl (feq (by decide : ¬ ((1 : Int32) = (0 : Int32)))).1 (pc' := 7) ?_
    refine saloadN X1 hx (hb hby d13_7) rfl rfl rfl (pc' := 8) ?_
    obtain ⟨T2, X2, e2, st2⟩ := getF X1 hx hZ hown (host := "") (Or.inl (hw _ (List.mem_of_getElem? (i := 20) rfl))) Via.refl eh1 Gv (g := (mkF m 8 #[.val (.ref x), .val (.int i)] [(.ref x)])) rfl rfl (hb hby d13_8)
    refine oOn st2 ?_
    show oGl p e below (T2.setTop (mkF m 11 #[.val (.ref x), .val (.int i)] [(.ref b)])) _
    refine siloadN X2 hx (hb hby d13_11) rfl rfl (pc' := 12) ?_
    have hr8 : 0 ≤ (f i.toInt.toNat).toInt ∧ (f i.toInt.toNat).toInt < 256 := by
      have q := Gl i.toInt.toNat (by omega)
      rw [Int32.lt_iff_toInt_lt] at q; have e0 : (255 : Int32).toInt = 255 := rfl; omega
    have hz3 : n0 ≤ h0.size := by omega
    obtain ⟨_, _, ⟨T3, L3, k3, n3⟩, -, X3, ⟨Lc3, hQ3, l3, y3, z3⟩, st3⟩ := Jvm.LawKit.callS X2 hx (y := (⟨"java/lang/StringLatin1", "charAt", "([BI)C"⟩ : MethodName)) hown (mvT hZ (hw _ (List.mem_of_getElem? (i := 71) rfl))) (mvT hZ (hw _ (List.mem_of_getElem? (i := 72) rfl))) (mvT hZ (hw _ (List.mem_of_getElem? (i := 73) rfl))) (mvT hZ (hw _ (List.mem_of_getElem? (i := 74) rfl))) (by decide) (backOf (W := 0) (rmLch l Z a0 hw [] b n i f cz sf h0 n0 hz3 O0 SCS hcz SSF hsf SAD SHI SLO Ga hn hi hr8) hZ (hw _ (List.mem_of_getElem? (i := 74) rfl)) (hw _ (List.mem_of_getElem? (i := 73) rfl)) (by decide) (by decide)) (g := (mkF m 12 #[.val (.ref x), .val (.int i)] [(.int i), (.ref b)])) rfl (by rw [hml]; rfl) (argsL := [(.ref b), (.int i)]) (rest := []) (lenOf pd_5 rfl) rfl (by show 2 * 0 + _ ≤ _; exact Nat.le_of_eq rfl) (hb hby d13_12) (fun _ _ => ⟨rfl, e2, (by decide : 0 + 0 ≤ _), (by decide : 0 + 0 ≤ _)⟩)
    dsimp only [Pt.U, Pt.locs, Pt.cells, Pt.slots] at X3 l3 y3 z3 st3 hQ3
    subst l3 y3 z3
    obtain ⟨rfl, N3q, eh3⟩ := hQ3
    have N3 := Fr.app N1 N3q
    refine oOn st3 ?_
    show oGl p e below (T3.setTop (mkF m 15 #[.val (.ref x), .val (.int i)] [(.int (f i.toInt.toNat))])) _
    refine oRetN (t := .char) X3 hx Bd.notSynchronized Bd.returns (by simp) (hb hby d13_15) (by decide) (by decide) ?_
    show Q_rmCha Z x n i f cz sf h0 n0 _ T3.heap _
    rw [eh3]
    exact ⟨congrArg (fun z => some (Value.int z)) hnc, N3, rfl⟩
  · skip
    refine saloadN X0 hx (hb hby d13_0) rfl rfl rfl (pc' := 1) ?_
    have hz4 : n0 ≤ h0.size := by omega
    obtain ⟨cq4, kq4, q4a, q4b, q4c⟩ := isOf hZ e0 E0
    obtain ⟨_, _, ⟨T4, L4, k4, n4⟩, -, X4, ⟨Lc4, hQ4, l4, y4, z4⟩, st4⟩ := X0.virtualBack hx (y := (⟨"java/lang/String", "isLatin1", "()Z"⟩ : MethodName)) (z := (⟨"java/lang/String", "isLatin1", "()Z"⟩ : MethodName)) hown (mvT hZ (hw _ (List.mem_of_getElem? (i := 66) rfl))) (mvT hZ (hw _ (List.mem_of_getElem? (i := 67) rfl))) (notFace_of_selects (args := #[]) (mvT hZ (hw _ (List.mem_of_getElem? (i := 69) rfl)))) (mvT hZ (hw _ (List.mem_of_getElem? (i := 69) rfl))) (mvT hZ (hw _ (List.mem_of_getElem? (i := 68) rfl))) (by decide) (backOf (W := 0) (rmIsL1 l Z a0 hw [] x cz h0 n0 hz4 O0 SCS hcz Gc) hZ (hw _ (List.mem_of_getElem? (i := 70) rfl)) (hw _ (List.mem_of_getElem? (i := 3) rfl)) (by decide) (by decide)) q4a q4c (g := (mkF m 1 #[.val (.ref x), .val (.int i)] [(.ref x)])) rfl (by rw [hml]; rfl) (Steps.refl _) (argsL := []) (rest := []) (lenOf pd_13 rfl) rfl (by show 2 * 0 + _ ≤ _; exact Nat.le_of_eq rfl) (hb hby d13_1) (fun _ _ => ⟨rfl, e0, (by decide : 0 + 0 ≤ _), (by decide : 0 + 0 ≤ _)⟩)
    dsimp only [Pt.U, Pt.locs, Pt.cells, Pt.slots] at X4 l4 y4 z4 st4 hQ4
    subst l4 y4 z4
    obtain ⟨rfl, N4q, eh4⟩ := hQ4
    have N4 := Fr.app N0 N4q
    refine oSt st4 ?_
    show oGl p e below (T4.setTop (mkF m 4 #[.val (.ref x), .val (.int i)] [(.int (0 : Int32))])) _
    refine sifY X4 hx (hb hby d13_4) (by decide) (by decide) (teq (by decide : (0 : Int32) = (0 : Int32))).1 (pc' := 16) ?_
    refine saloadN X4 hx (hb hby d13_16) rfl rfl rfl (pc' := 17) ?_
    obtain ⟨T5, X5, e5, st5⟩ := getF X4 hx hZ hown (host := "") (Or.inl (hw _ (List.mem_of_getElem? (i := 20) rfl))) Via.refl eh4 Gv (g := (mkF m 17 #[.val (.ref x), .val (.int i)] [(.ref x)])) rfl rfl (hb hby d13_17)
    refine oOn st5 ?_
    show oGl p e below (T5.setTop (mkF m 20 #[.val (.ref x), .val (.int i)] [(.ref b)])) _
    refine siloadN X5 hx (hb hby d13_20) rfl rfl (pc' := 21) ?_
    have hz6 : n0 ≤ h0.size := by omega
    obtain ⟨_, _, ⟨T6, L6, k6, n6⟩, -, X6, ⟨Lc6, hQ6, l6, y6, z6⟩, st6⟩ := Jvm.LawKit.callS X5 hx (y := (⟨"java/lang/StringUTF16", "charAt", "([BI)C"⟩ : MethodName)) hown (mvT hZ (hw _ (List.mem_of_getElem? (i := 102) rfl))) (mvT hZ (hw _ (List.mem_of_getElem? (i := 103) rfl))) (mvT hZ (hw _ (List.mem_of_getElem? (i := 39) rfl))) (mvT hZ (hw _ (List.mem_of_getElem? (i := 104) rfl))) (by decide) (backOf (W := 0) (rmUch l Z a0 hw [] b n i f cz sf h0 n0 hz6 O0 SCS hcz SSF hsf SAD SHI SLO Ga hn hi hr) hZ (hw _ (List.mem_of_getElem? (i := 104) rfl)) (hw _ (List.mem_of_getElem? (i := 39) rfl)) (by decide) (by decide)) (g := (mkF m 21 #[.val (.ref x), .val (.int i)] [(.int i), (.ref b)])) rfl (by rw [hml]; rfl) (argsL := [(.ref b), (.int i)]) (rest := []) (lenOf pd_5 rfl) rfl (by show 2 * 0 + _ ≤ _; exact Nat.le_of_eq rfl) (hb hby d13_21) (fun _ _ => ⟨rfl, e5, (by decide : 0 + 0 ≤ _), (by decide : 0 + 0 ≤ _)⟩)
    dsimp only [Pt.U, Pt.locs, Pt.cells, Pt.slots] at X6 l6 y6 z6 st6 hQ6
    subst l6 y6 z6
    obtain ⟨rfl, N6q, eh6⟩ := hQ6
    have N6 := Fr.app N4 N6q
    refine oOn st6 ?_
    show oGl p e below (T6.setTop (mkF m 24 #[.val (.ref x), .val (.int i)] [(.int (f i.toInt.toNat))])) _
    refine oRetN (t := .char) X6 hx Bd.notSynchronized Bd.returns (by simp) (hb hby d13_24) (by decide) (by decide) ?_
    show Q_rmCha Z x n i f cz sf h0 n0 _ T6.heap _
    rw [eh6]
    exact ⟨congrArg (fun z => some (Value.int z)) hnc, N6, rfl⟩
def okc (z : Int32) : Prop := (¬ z < 48 ∧ ¬ 57 < z) ∨ (¬ z < 65 ∧ ¬ 90 < z) ∨ (¬ z < 97 ∧ ¬ 122 < z) ∨ z = 45 ∨ z = 95
def idP (n : Nat) (f : Nat → Int32) : Prop := (1 ≤ n ∧ n ≤ 64) ∧ ∀ j : Nat, j < n → okc (f j)
theorem own_nb {z : Int32} {P Q : Prop} (h : (z = 1 ∧ P) ∨ (z = 0 ∧ Q)) : nar .boolean z = z := by
  rcases h with ⟨rfl, -⟩ | ⟨rfl, -⟩ <;> decide
theorem d12_0 : decode method_2_code 0 = .ok (.iload_n 0, 1) := by decide +kernel
theorem d12_1 : decode method_2_code 1 = .ok (.bipush 48, 2) := by decide +kernel
theorem d12_3 : decode method_2_code 3 = .ok (.if_icmp .lt 11, 3) := by decide +kernel
theorem d12_14 : decode method_2_code 14 = .ok (.iload_n 0, 1) := by decide +kernel
theorem d12_15 : decode method_2_code 15 = .ok (.bipush 65, 2) := by decide +kernel
theorem d12_17 : decode method_2_code 17 = .ok (.if_icmp .lt 11, 3) := by decide +kernel
theorem d12_28 : decode method_2_code 28 = .ok (.iload_n 0, 1) := by decide +kernel
theorem d12_29 : decode method_2_code 29 = .ok (.bipush 97, 2) := by decide +kernel
theorem d12_31 : decode method_2_code 31 = .ok (.if_icmp .lt 11, 3) := by decide +kernel
theorem d12_42 : decode method_2_code 42 = .ok (.iload_n 0, 1) := by decide +kernel
theorem d12_43 : decode method_2_code 43 = .ok (.bipush 45, 2) := by decide +kernel
theorem d12_45 : decode method_2_code 45 = .ok (.if_icmp .eq 9, 3) := by decide +kernel
theorem d12_54 : decode method_2_code 54 = .ok (.iconst 1, 1) := by decide +kernel
theorem d12_55 : decode method_2_code 55 = .ok (.goto 4, 3) := by decide +kernel
theorem d12_59 : decode method_2_code 59 = .ok (.ireturn, 1) := by decide +kernel
theorem d12_48 : decode method_2_code 48 = .ok (.iload_n 0, 1) := by decide +kernel
theorem d12_49 : decode method_2_code 49 = .ok (.bipush 95, 2) := by decide +kernel
theorem d12_51 : decode method_2_code 51 = .ok (.if_icmp .ne 7, 3) := by decide +kernel
theorem d12_58 : decode method_2_code 58 = .ok (.iconst 0, 1) := by decide +kernel
theorem d12_34 : decode method_2_code 34 = .ok (.iload_n 0, 1) := by decide +kernel
theorem d12_35 : decode method_2_code 35 = .ok (.bipush 122, 2) := by decide +kernel
theorem d12_37 : decode method_2_code 37 = .ok (.if_icmp .gt 5, 3) := by decide +kernel
theorem d12_40 : decode method_2_code 40 = .ok (.iconst 1, 1) := by decide +kernel
theorem d12_41 : decode method_2_code 41 = .ok (.ireturn, 1) := by decide +kernel
theorem d12_20 : decode method_2_code 20 = .ok (.iload_n 0, 1) := by decide +kernel
theorem d12_21 : decode method_2_code 21 = .ok (.bipush 90, 2) := by decide +kernel
theorem d12_23 : decode method_2_code 23 = .ok (.if_icmp .gt 5, 3) := by decide +kernel
theorem d12_26 : decode method_2_code 26 = .ok (.iconst 1, 1) := by decide +kernel
theorem d12_27 : decode method_2_code 27 = .ok (.ireturn, 1) := by decide +kernel
theorem d12_6 : decode method_2_code 6 = .ok (.iload_n 0, 1) := by decide +kernel
theorem d12_7 : decode method_2_code 7 = .ok (.bipush 57, 2) := by decide +kernel
theorem d12_9 : decode method_2_code 9 = .ok (.if_icmp .gt 5, 3) := by decide +kernel
theorem d12_12 : decode method_2_code 12 = .ok (.iconst 1, 1) := by decide +kernel
theorem d12_13 : decode method_2_code 13 = .ok (.ireturn, 1) := by decide +kernel
theorem pn_LimitsIsIdPinLaw : plainName "com/example/concordat/concordat/core/LimitsIsIdPinLaw" = true := by first | (simp [plainName, overriddenIn]; done) | decide +kernel
theorem ef_rmOk (m : MethodId) (x0 : Int32)  : entryFrame m #[(.int x0)] 1 = mkF m 0 #[.val (.int x0)] [] := by first | (simp [entryFrame, mkF, argsToLocals, Value.category, maxLocals]; done) | rfl
def Q_rmOk (Z : State) (z : Int32) (h0 : Heap) (n0 : Nat) (vv : Option Value) (h : Heap) (L : List Loc) : Prop := ∃ r : Int32, vv = some (.int r) ∧ Fr n0 L ∧ h = h0 ∧ ((r = 1 ∧ okc z) ∨ (r = 0 ∧ ¬ okc z))
set_option maxRecDepth 65536 in
set_option maxHeartbeats 40000000 in
theorem rmOk (l : Launch) (Z : State) (a0 : Array Value) (hw : ∀ d ∈ tables_1, d.before a0 Z = true) (ws : List Jvm.Cond) (z : Int32) (h0 : Heap) (n0 : Nat) (Z0 : n0 ≤ h0.size)  :
    MetFree l (⟨"com/example/concordat/concordat/core/LimitsIsIdPinLaw", "ok", "(C)Z"⟩ : MethodName) (head1 (Jvm.Cond.code (⟨"com/example/concordat/concordat/core/LimitsIsIdPinLaw", "ok", "(C)Z"⟩ : MethodName) method_2_code 1 (some .boolean) :: ws) ({ frames := 0, cells := 0, slots := 0, locals := 0 } : Room)) (fun aA uU => aA = #[(.int z)] ∧ Z.Warmed39 uU.vm ∧ uU.heap = h0) (fun _ _ _ _ _ => True) (fun _ uU oO uU' => ∃ vV lL, oO = .returned vV ∧ Q_rmOk Z z h0 n0 vV uU'.heap lL ∧ FrameEnd uU oO uU' lL ({ frames := 0, cells := 0, slots := 0, locals := 0 } : Room).cells ({ frames := 0, cells := 0, slots := 0, locals := 0 } : Room).slots) := by
  refine MetFree.of_bodySF (plainFor_of_name pn_LimitsIsIdPinLaw) hisR ?_
  intro p e s m args below meth c s₁ Bd hml0 hP hK
  obtain ⟨rfl, hZ, hh⟩ := hP
  have hx := Bd.exec
  have hby := Bd.bytes
  have hml : c.maxLocals = 1 := hml0
  have hown : s.vm.findClass "com/example/concordat/concordat/core/LimitsIsIdPinLaw" = some m.cls := findClass_of_methodNamed Bd.named
  have hnm := (name_of_methodNamed Bd.named Bd.method).1
  have X0 : Stand p l e ({ frames := 0, cells := 0, slots := 0, locals := 0 } : Room) s m #[(.int z)] below meth c s₁ [] 0 0 := Stand.of_body Bd
  have e0 : s₁.heap = h0 := by rw [← hh, Bd.state]; rfl
  have N0 := Fr.nil n0
  refine oEnter (oCast (ef_rmOk m z ) ?_)
  show oGl p e below (s₁.setTop (mkF m 0 #[.val (.int z)] [])) _
  refine siloadN X0 hx (hb hby d12_0) rfl rfl (pc' := 1) ?_
  refine sbipush X0 hx (hb hby d12_1) rfl rfl (z := 48) (pc' := 3) ?_
  by_cases hc3 : z < (48 : Int32)
  · skip
    refine sicY X0 hx (hb hby d12_3) (by decide) (by decide) (tlt hc3).1 (pc' := 14) ?_
    refine siloadN X0 hx (hb hby d12_14) rfl rfl (pc' := 15) ?_
    refine sbipush X0 hx (hb hby d12_15) rfl rfl (z := 65) (pc' := 17) ?_
    by_cases hc17 : z < (65 : Int32)
    · skip
      refine sicY X0 hx (hb hby d12_17) (by decide) (by decide) (tlt hc17).1 (pc' := 28) ?_
      refine siloadN X0 hx (hb hby d12_28) rfl rfl (pc' := 29) ?_
      refine sbipush X0 hx (hb hby d12_29) rfl rfl (z := 97) (pc' := 31) ?_
      by_cases hc31 : z < (97 : Int32)
      · skip
        refine sicY X0 hx (hb hby d12_31) (by decide) (by decide) (tlt hc31).1 (pc' := 42) ?_
        refine siloadN X0 hx (hb hby d12_42) rfl rfl (pc' := 43) ?_
        refine sbipush X0 hx (hb hby d12_43) rfl rfl (z := 45) (pc' := 45) ?_
        by_cases hc45 : z = (45 : Int32)
        · skip
          refine sicY X0 hx (hb hby d12_45) (by decide) (by decide) (teq hc45).1 (pc' := 54) ?_
          refine siconst X0 hx (hb hby d12_54) rfl rfl (z := 1) (pc' := 55) ?_
          refine sgoto X0 hx (hb hby d12_55) (by decide) (by decide)  (pc' := 59) ?_
          refine oRetN (t := .boolean) X0 hx Bd.notSynchronized Bd.returns (by simp) (hb hby d12_59) (by decide) (by decide) ?_
          show Q_rmOk Z z h0 n0 _ s₁.heap _
          rw [e0]
          exact ⟨1, rfl, N0, rfl, Or.inl ⟨rfl, (by first | exact Or.inl ⟨by assumption, by assumption⟩ | exact Or.inr (Or.inl ⟨by assumption, by assumption⟩) | exact Or.inr (Or.inr (Or.inl ⟨by assumption, by assumption⟩)) | exact Or.inr (Or.inr (Or.inr (Or.inl (by assumption)))) | exact Or.inr (Or.inr (Or.inr (Or.inr (by assumption)))))⟩⟩
        · skip
          refine sicN X0 hx (hb hby d12_45) rfl (feq hc45).1 (pc' := 48) ?_
          refine siloadN X0 hx (hb hby d12_48) rfl rfl (pc' := 49) ?_
          refine sbipush X0 hx (hb hby d12_49) rfl rfl (z := 95) (pc' := 51) ?_
          by_cases hc51 : z = (95 : Int32)
          · skip
            refine sicN X0 hx (hb hby d12_51) rfl (teq hc51).2 (pc' := 54) ?_
            refine siconst X0 hx (hb hby d12_54) rfl rfl (z := 1) (pc' := 55) ?_
            refine sgoto X0 hx (hb hby d12_55) (by decide) (by decide)  (pc' := 59) ?_
            refine oRetN (t := .boolean) X0 hx Bd.notSynchronized Bd.returns (by simp) (hb hby d12_59) (by decide) (by decide) ?_
            show Q_rmOk Z z h0 n0 _ s₁.heap _
            rw [e0]
            exact ⟨1, rfl, N0, rfl, Or.inl ⟨rfl, (by first | exact Or.inl ⟨by assumption, by assumption⟩ | exact Or.inr (Or.inl ⟨by assumption, by assumption⟩) | exact Or.inr (Or.inr (Or.inl ⟨by assumption, by assumption⟩)) | exact Or.inr (Or.inr (Or.inr (Or.inl (by assumption)))) | exact Or.inr (Or.inr (Or.inr (Or.inr (by assumption)))))⟩⟩
          · skip
            refine sicY X0 hx (hb hby d12_51) (by decide) (by decide) (feq hc51).2 (pc' := 58) ?_
            refine siconst X0 hx (hb hby d12_58) rfl rfl (z := 0) (pc' := 59) ?_
            refine oRetN (t := .boolean) X0 hx Bd.notSynchronized Bd.returns (by simp) (hb hby d12_59) (by decide) (by decide) ?_
            show Q_rmOk Z z h0 n0 _ s₁.heap _
            rw [e0]
            exact ⟨0, rfl, N0, rfl, Or.inr ⟨rfl, (fun q => by rcases q with ⟨a, b⟩ | ⟨a, b⟩ | ⟨a, b⟩ | a | a <;> first | exact a (by assumption) | exact b (by assumption) | exact absurd a (by assumption))⟩⟩
      · skip
        refine sicN X0 hx (hb hby d12_31) rfl (flt hc31).1 (pc' := 34) ?_
        refine siloadN X0 hx (hb hby d12_34) rfl rfl (pc' := 35) ?_
        refine sbipush X0 hx (hb hby d12_35) rfl rfl (z := 122) (pc' := 37) ?_
        by_cases hc37 : (122 : Int32) < z
        · skip
          refine sicY X0 hx (hb hby d12_37) (by decide) (by decide) (tlt hc37).2.2.1 (pc' := 42) ?_
          refine siloadN X0 hx (hb hby d12_42) rfl rfl (pc' := 43) ?_
          refine sbipush X0 hx (hb hby d12_43) rfl rfl (z := 45) (pc' := 45) ?_
          by_cases hc45 : z = (45 : Int32)
          · skip
            refine sicY X0 hx (hb hby d12_45) (by decide) (by decide) (teq hc45).1 (pc' := 54) ?_
            refine siconst X0 hx (hb hby d12_54) rfl rfl (z := 1) (pc' := 55) ?_
            refine sgoto X0 hx (hb hby d12_55) (by decide) (by decide)  (pc' := 59) ?_
            refine oRetN (t := .boolean) X0 hx Bd.notSynchronized Bd.returns (by simp) (hb hby d12_59) (by decide) (by decide) ?_
            show Q_rmOk Z z h0 n0 _ s₁.heap _
            rw [e0]
            exact ⟨1, rfl, N0, rfl, Or.inl ⟨rfl, (by first | exact Or.inl ⟨by assumption, by assumption⟩ | exact Or.inr (Or.inl ⟨by assumption, by assumption⟩) | exact Or.inr (Or.inr (Or.inl ⟨by assumption, by assumption⟩)) | exact Or.inr (Or.inr (Or.inr (Or.inl (by assumption)))) | exact Or.inr (Or.inr (Or.inr (Or.inr (by assumption)))))⟩⟩
          · skip
            refine sicN X0 hx (hb hby d12_45) rfl (feq hc45).1 (pc' := 48) ?_
            refine siloadN X0 hx (hb hby d12_48) rfl rfl (pc' := 49) ?_
            refine sbipush X0 hx (hb hby d12_49) rfl rfl (z := 95) (pc' := 51) ?_
            by_cases hc51 : z = (95 : Int32)
            · skip
              refine sicN X0 hx (hb hby d12_51) rfl (teq hc51).2 (pc' := 54) ?_
              refine siconst X0 hx (hb hby d12_54) rfl rfl (z := 1) (pc' := 55) ?_
              refine sgoto X0 hx (hb hby d12_55) (by decide) (by decide)  (pc' := 59) ?_
              refine oRetN (t := .boolean) X0 hx Bd.notSynchronized Bd.returns (by simp) (hb hby d12_59) (by decide) (by decide) ?_
              show Q_rmOk Z z h0 n0 _ s₁.heap _
              rw [e0]
              exact ⟨1, rfl, N0, rfl, Or.inl ⟨rfl, (by first | exact Or.inl ⟨by assumption, by assumption⟩ | exact Or.inr (Or.inl ⟨by assumption, by assumption⟩) | exact Or.inr (Or.inr (Or.inl ⟨by assumption, by assumption⟩)) | exact Or.inr (Or.inr (Or.inr (Or.inl (by assumption)))) | exact Or.inr (Or.inr (Or.inr (Or.inr (by assumption)))))⟩⟩
            · skip
              refine sicY X0 hx (hb hby d12_51) (by decide) (by decide) (feq hc51).2 (pc' := 58) ?_
              refine siconst X0 hx (hb hby d12_58) rfl rfl (z := 0) (pc' := 59) ?_
              refine oRetN (t := .boolean) X0 hx Bd.notSynchronized Bd.returns (by simp) (hb hby d12_59) (by decide) (by decide) ?_
              show Q_rmOk Z z h0 n0 _ s₁.heap _
              rw [e0]
              exact ⟨0, rfl, N0, rfl, Or.inr ⟨rfl, (fun q => by rcases q with ⟨a, b⟩ | ⟨a, b⟩ | ⟨a, b⟩ | a | a <;> first | exact a (by assumption) | exact b (by assumption) | exact absurd a (by assumption))⟩⟩
        · skip
          refine sicN X0 hx (hb hby d12_37) rfl (flt hc37).2.2.1 (pc' := 40) ?_
          refine siconst X0 hx (hb hby d12_40) rfl rfl (z := 1) (pc' := 41) ?_
          refine oRetN (t := .boolean) X0 hx Bd.notSynchronized Bd.returns (by simp) (hb hby d12_41) (by decide) (by decide) ?_
          show Q_rmOk Z z h0 n0 _ s₁.heap _
          rw [e0]
          exact ⟨1, rfl, N0, rfl, Or.inl ⟨rfl, (by first | exact Or.inl ⟨by assumption, by assumption⟩ | exact Or.inr (Or.inl ⟨by assumption, by assumption⟩) | exact Or.inr (Or.inr (Or.inl ⟨by assumption, by assumption⟩)) | exact Or.inr (Or.inr (Or.inr (Or.inl (by assumption)))) | exact Or.inr (Or.inr (Or.inr (Or.inr (by assumption)))))⟩⟩
    · skip
      refine sicN X0 hx (hb hby d12_17) rfl (flt hc17).1 (pc' := 20) ?_
      refine siloadN X0 hx (hb hby d12_20) rfl rfl (pc' := 21) ?_
      refine sbipush X0 hx (hb hby d12_21) rfl rfl (z := 90) (pc' := 23) ?_
      by_cases hc23 : (90 : Int32) < z
      · skip
        refine sicY X0 hx (hb hby d12_23) (by decide) (by decide) (tlt hc23).2.2.1 (pc' := 28) ?_
        refine siloadN X0 hx (hb hby d12_28) rfl rfl (pc' := 29) ?_
        refine sbipush X0 hx (hb hby d12_29) rfl rfl (z := 97) (pc' := 31) ?_
        by_cases hc31 : z < (97 : Int32)
        · skip
          refine sicY X0 hx (hb hby d12_31) (by decide) (by decide) (tlt hc31).1 (pc' := 42) ?_
          refine siloadN X0 hx (hb hby d12_42) rfl rfl (pc' := 43) ?_
          refine sbipush X0 hx (hb hby d12_43) rfl rfl (z := 45) (pc' := 45) ?_
          by_cases hc45 : z = (45 : Int32)
          · skip
            refine sicY X0 hx (hb hby d12_45) (by decide) (by decide) (teq hc45).1 (pc' := 54) ?_
            refine siconst X0 hx (hb hby d12_54) rfl rfl (z := 1) (pc' := 55) ?_
            refine sgoto X0 hx (hb hby d12_55) (by decide) (by decide)  (pc' := 59) ?_
            refine oRetN (t := .boolean) X0 hx Bd.notSynchronized Bd.returns (by simp) (hb hby d12_59) (by decide) (by decide) ?_
            show Q_rmOk Z z h0 n0 _ s₁.heap _
            rw [e0]
            exact ⟨1, rfl, N0, rfl, Or.inl ⟨rfl, (by first | exact Or.inl ⟨by assumption, by assumption⟩ | exact Or.inr (Or.inl ⟨by assumption, by assumption⟩) | exact Or.inr (Or.inr (Or.inl ⟨by assumption, by assumption⟩)) | exact Or.inr (Or.inr (Or.inr (Or.inl (by assumption)))) | exact Or.inr (Or.inr (Or.inr (Or.inr (by assumption)))))⟩⟩
          · skip
            refine sicN X0 hx (hb hby d12_45) rfl (feq hc45).1 (pc' := 48) ?_
            refine siloadN X0 hx (hb hby d12_48) rfl rfl (pc' := 49) ?_
            refine sbipush X0 hx (hb hby d12_49) rfl rfl (z := 95) (pc' := 51) ?_
            by_cases hc51 : z = (95 : Int32)
            · skip
              refine sicN X0 hx (hb hby d12_51) rfl (teq hc51).2 (pc' := 54) ?_
              refine siconst X0 hx (hb hby d12_54) rfl rfl (z := 1) (pc' := 55) ?_
              refine sgoto X0 hx (hb hby d12_55) (by decide) (by decide)  (pc' := 59) ?_
              refine oRetN (t := .boolean) X0 hx Bd.notSynchronized Bd.returns (by simp) (hb hby d12_59) (by decide) (by decide) ?_
              show Q_rmOk Z z h0 n0 _ s₁.heap _
              rw [e0]
              exact ⟨1, rfl, N0, rfl, Or.inl ⟨rfl, (by first | exact Or.inl ⟨by assumption, by assumption⟩ | exact Or.inr (Or.inl ⟨by assumption, by assumption⟩) | exact Or.inr (Or.inr (Or.inl ⟨by assumption, by assumption⟩)) | exact Or.inr (Or.inr (Or.inr (Or.inl (by assumption)))) | exact Or.inr (Or.inr (Or.inr (Or.inr (by assumption)))))⟩⟩
            · skip
              refine sicY X0 hx (hb hby d12_51) (by decide) (by decide) (feq hc51).2 (pc' := 58) ?_
              refine siconst X0 hx (hb hby d12_58) rfl rfl (z := 0) (pc' := 59) ?_
              refine oRetN (t := .boolean) X0 hx Bd.notSynchronized Bd.returns (by simp) (hb hby d12_59) (by decide) (by decide) ?_
              show Q_rmOk Z z h0 n0 _ s₁.heap _
              rw [e0]
              exact ⟨0, rfl, N0, rfl, Or.inr ⟨rfl, (fun q => by rcases q with ⟨a, b⟩ | ⟨a, b⟩ | ⟨a, b⟩ | a | a <;> first | exact a (by assumption) | exact b (by assumption) | exact absurd a (by assumption))⟩⟩
        · skip
          refine sicN X0 hx (hb hby d12_31) rfl (flt hc31).1 (pc' := 34) ?_
          refine siloadN X0 hx (hb hby d12_34) rfl rfl (pc' := 35) ?_
          refine sbipush X0 hx (hb hby d12_35) rfl rfl (z := 122) (pc' := 37) ?_
          by_cases hc37 : (122 : Int32) < z
          · skip
            refine sicY X0 hx (hb hby d12_37) (by decide) (by decide) (tlt hc37).2.2.1 (pc' := 42) ?_
            refine siloadN X0 hx (hb hby d12_42) rfl rfl (pc' := 43) ?_
            refine sbipush X0 hx (hb hby d12_43) rfl rfl (z := 45) (pc' := 45) ?_
            by_cases hc45 : z = (45 : Int32)
            · skip
              refine sicY X0 hx (hb hby d12_45) (by decide) (by decide) (teq hc45).1 (pc' := 54) ?_
              refine siconst X0 hx (hb hby d12_54) rfl rfl (z := 1) (pc' := 55) ?_
              refine sgoto X0 hx (hb hby d12_55) (by decide) (by decide)  (pc' := 59) ?_
              refine oRetN (t := .boolean) X0 hx Bd.notSynchronized Bd.returns (by simp) (hb hby d12_59) (by decide) (by decide) ?_
              show Q_rmOk Z z h0 n0 _ s₁.heap _
              rw [e0]
              exact ⟨1, rfl, N0, rfl, Or.inl ⟨rfl, (by first | exact Or.inl ⟨by assumption, by assumption⟩ | exact Or.inr (Or.inl ⟨by assumption, by assumption⟩) | exact Or.inr (Or.inr (Or.inl ⟨by assumption, by assumption⟩)) | exact Or.inr (Or.inr (Or.inr (Or.inl (by assumption)))) | exact Or.inr (Or.inr (Or.inr (Or.inr (by assumption)))))⟩⟩
            · skip
              refine sicN X0 hx (hb hby d12_45) rfl (feq hc45).1 (pc' := 48) ?_
              refine siloadN X0 hx (hb hby d12_48) rfl rfl (pc' := 49) ?_
              refine sbipush X0 hx (hb hby d12_49) rfl rfl (z := 95) (pc' := 51) ?_
              by_cases hc51 : z = (95 : Int32)
              · skip
                refine sicN X0 hx (hb hby d12_51) rfl (teq hc51).2 (pc' := 54) ?_
                refine siconst X0 hx (hb hby d12_54) rfl rfl (z := 1) (pc' := 55) ?_
                refine sgoto X0 hx (hb hby d12_55) (by decide) (by decide)  (pc' := 59) ?_
                refine oRetN (t := .boolean) X0 hx Bd.notSynchronized Bd.returns (by simp) (hb hby d12_59) (by decide) (by decide) ?_
                show Q_rmOk Z z h0 n0 _ s₁.heap _
                rw [e0]
                exact ⟨1, rfl, N0, rfl, Or.inl ⟨rfl, (by first | exact Or.inl ⟨by assumption, by assumption⟩ | exact Or.inr (Or.inl ⟨by assumption, by assumption⟩) | exact Or.inr (Or.inr (Or.inl ⟨by assumption, by assumption⟩)) | exact Or.inr (Or.inr (Or.inr (Or.inl (by assumption)))) | exact Or.inr (Or.inr (Or.inr (Or.inr (by assumption)))))⟩⟩
              · skip
                refine sicY X0 hx (hb hby d12_51) (by decide) (by decide) (feq hc51).2 (pc' := 58) ?_
                refine siconst X0 hx (hb hby d12_58) rfl rfl (z := 0) (pc' := 59) ?_
                refine oRetN (t := .boolean) X0 hx Bd.notSynchronized Bd.returns (by simp) (hb hby d12_59) (by decide) (by decide) ?_
                show Q_rmOk Z z h0 n0 _ s₁.heap _
                rw [e0]
                exact ⟨0, rfl, N0, rfl, Or.inr ⟨rfl, (fun q => by rcases q with ⟨a, b⟩ | ⟨a, b⟩ | ⟨a, b⟩ | a | a <;> first | exact a (by assumption) | exact b (by assumption) | exact absurd a (by assumption))⟩⟩
          · skip
            refine sicN X0 hx (hb hby d12_37) rfl (flt hc37).2.2.1 (pc' := 40) ?_
            refine siconst X0 hx (hb hby d12_40) rfl rfl (z := 1) (pc' := 41) ?_
            refine oRetN (t := .boolean) X0 hx Bd.notSynchronized Bd.returns (by simp) (hb hby d12_41) (by decide) (by decide) ?_
            show Q_rmOk Z z h0 n0 _ s₁.heap _
            rw [e0]
            exact ⟨1, rfl, N0, rfl, Or.inl ⟨rfl, (by first | exact Or.inl ⟨by assumption, by assumption⟩ | exact Or.inr (Or.inl ⟨by assumption, by assumption⟩) | exact Or.inr (Or.inr (Or.inl ⟨by assumption, by assumption⟩)) | exact Or.inr (Or.inr (Or.inr (Or.inl (by assumption)))) | exact Or.inr (Or.inr (Or.inr (Or.inr (by assumption)))))⟩⟩
      · skip
        refine sicN X0 hx (hb hby d12_23) rfl (flt hc23).2.2.1 (pc' := 26) ?_
        refine siconst X0 hx (hb hby d12_26) rfl rfl (z := 1) (pc' := 27) ?_
        refine oRetN (t := .boolean) X0 hx Bd.notSynchronized Bd.returns (by simp) (hb hby d12_27) (by decide) (by decide) ?_
        show Q_rmOk Z z h0 n0 _ s₁.heap _
        rw [e0]
        exact ⟨1, rfl, N0, rfl, Or.inl ⟨rfl, (by first | exact Or.inl ⟨by assumption, by assumption⟩ | exact Or.inr (Or.inl ⟨by assumption, by assumption⟩) | exact Or.inr (Or.inr (Or.inl ⟨by assumption, by assumption⟩)) | exact Or.inr (Or.inr (Or.inr (Or.inl (by assumption)))) | exact Or.inr (Or.inr (Or.inr (Or.inr (by assumption)))))⟩⟩
  · skip
    refine sicN X0 hx (hb hby d12_3) rfl (flt hc3).1 (pc' := 6) ?_
    refine siloadN X0 hx (hb hby d12_6) rfl rfl (pc' := 7) ?_
    refine sbipush X0 hx (hb hby d12_7) rfl rfl (z := 57) (pc' := 9) ?_
    by_cases hc9 : (57 : Int32) < z
    · skip
      refine sicY X0 hx (hb hby d12_9) (by decide) (by decide) (tlt hc9).2.2.1 (pc' := 14) ?_
      refine siloadN X0 hx (hb hby d12_14) rfl rfl (pc' := 15) ?_
      refine sbipush X0 hx (hb hby d12_15) rfl rfl (z := 65) (pc' := 17) ?_
      by_cases hc17 : z < (65 : Int32)
      · skip
        refine sicY X0 hx (hb hby d12_17) (by decide) (by decide) (tlt hc17).1 (pc' := 28) ?_
        refine siloadN X0 hx (hb hby d12_28) rfl rfl (pc' := 29) ?_
        refine sbipush X0 hx (hb hby d12_29) rfl rfl (z := 97) (pc' := 31) ?_
        by_cases hc31 : z < (97 : Int32)
        · skip
          refine sicY X0 hx (hb hby d12_31) (by decide) (by decide) (tlt hc31).1 (pc' := 42) ?_
          refine siloadN X0 hx (hb hby d12_42) rfl rfl (pc' := 43) ?_
          refine sbipush X0 hx (hb hby d12_43) rfl rfl (z := 45) (pc' := 45) ?_
          by_cases hc45 : z = (45 : Int32)
          · skip
            refine sicY X0 hx (hb hby d12_45) (by decide) (by decide) (teq hc45).1 (pc' := 54) ?_
            refine siconst X0 hx (hb hby d12_54) rfl rfl (z := 1) (pc' := 55) ?_
            refine sgoto X0 hx (hb hby d12_55) (by decide) (by decide)  (pc' := 59) ?_
            refine oRetN (t := .boolean) X0 hx Bd.notSynchronized Bd.returns (by simp) (hb hby d12_59) (by decide) (by decide) ?_
            show Q_rmOk Z z h0 n0 _ s₁.heap _
            rw [e0]
            exact ⟨1, rfl, N0, rfl, Or.inl ⟨rfl, (by first | exact Or.inl ⟨by assumption, by assumption⟩ | exact Or.inr (Or.inl ⟨by assumption, by assumption⟩) | exact Or.inr (Or.inr (Or.inl ⟨by assumption, by assumption⟩)) | exact Or.inr (Or.inr (Or.inr (Or.inl (by assumption)))) | exact Or.inr (Or.inr (Or.inr (Or.inr (by assumption)))))⟩⟩
          · skip
            refine sicN X0 hx (hb hby d12_45) rfl (feq hc45).1 (pc' := 48) ?_
            refine siloadN X0 hx (hb hby d12_48) rfl rfl (pc' := 49) ?_
            refine sbipush X0 hx (hb hby d12_49) rfl rfl (z := 95) (pc' := 51) ?_
            by_cases hc51 : z = (95 : Int32)
            · skip
              refine sicN X0 hx (hb hby d12_51) rfl (teq hc51).2 (pc' := 54) ?_
              refine siconst X0 hx (hb hby d12_54) rfl rfl (z := 1) (pc' := 55) ?_
              refine sgoto X0 hx (hb hby d12_55) (by decide) (by decide)  (pc' := 59) ?_
              refine oRetN (t := .boolean) X0 hx Bd.notSynchronized Bd.returns (by simp) (hb hby d12_59) (by decide) (by decide) ?_
              show Q_rmOk Z z h0 n0 _ s₁.heap _
              rw [e0]
              exact ⟨1, rfl, N0, rfl, Or.inl ⟨rfl, (by first | exact Or.inl ⟨by assumption, by assumption⟩ | exact Or.inr (Or.inl ⟨by assumption, by assumption⟩) | exact Or.inr (Or.inr (Or.inl ⟨by assumption, by assumption⟩)) | exact Or.inr (Or.inr (Or.inr (Or.inl (by assumption)))) | exact Or.inr (Or.inr (Or.inr (Or.inr (by assumption)))))⟩⟩
            · skip
              refine sicY X0 hx (hb hby d12_51) (by decide) (by decide) (feq hc51).2 (pc' := 58) ?_
              refine siconst X0 hx (hb hby d12_58) rfl rfl (z := 0) (pc' := 59) ?_
              refine oRetN (t := .boolean) X0 hx Bd.notSynchronized Bd.returns (by simp) (hb hby d12_59) (by decide) (by decide) ?_
              show Q_rmOk Z z h0 n0 _ s₁.heap _
              rw [e0]
              exact ⟨0, rfl, N0, rfl, Or.inr ⟨rfl, (fun q => by rcases q with ⟨a, b⟩ | ⟨a, b⟩ | ⟨a, b⟩ | a | a <;> first | exact a (by assumption) | exact b (by assumption) | exact absurd a (by assumption))⟩⟩
        · skip
          refine sicN X0 hx (hb hby d12_31) rfl (flt hc31).1 (pc' := 34) ?_
          refine siloadN X0 hx (hb hby d12_34) rfl rfl (pc' := 35) ?_
          refine sbipush X0 hx (hb hby d12_35) rfl rfl (z := 122) (pc' := 37) ?_
          by_cases hc37 : (122 : Int32) < z
          · skip
            refine sicY X0 hx (hb hby d12_37) (by decide) (by decide) (tlt hc37).2.2.1 (pc' := 42) ?_
            refine siloadN X0 hx (hb hby d12_42) rfl rfl (pc' := 43) ?_
            refine sbipush X0 hx (hb hby d12_43) rfl rfl (z := 45) (pc' := 45) ?_
            by_cases hc45 : z = (45 : Int32)
            · skip
              refine sicY X0 hx (hb hby d12_45) (by decide) (by decide) (teq hc45).1 (pc' := 54) ?_
              refine siconst X0 hx (hb hby d12_54) rfl rfl (z := 1) (pc' := 55) ?_
              refine sgoto X0 hx (hb hby d12_55) (by decide) (by decide)  (pc' := 59) ?_
              refine oRetN (t := .boolean) X0 hx Bd.notSynchronized Bd.returns (by simp) (hb hby d12_59) (by decide) (by decide) ?_
              show Q_rmOk Z z h0 n0 _ s₁.heap _
              rw [e0]
              exact ⟨1, rfl, N0, rfl, Or.inl ⟨rfl, (by first | exact Or.inl ⟨by assumption, by assumption⟩ | exact Or.inr (Or.inl ⟨by assumption, by assumption⟩) | exact Or.inr (Or.inr (Or.inl ⟨by assumption, by assumption⟩)) | exact Or.inr (Or.inr (Or.inr (Or.inl (by assumption)))) | exact Or.inr (Or.inr (Or.inr (Or.inr (by assumption)))))⟩⟩
            · skip
              refine sicN X0 hx (hb hby d12_45) rfl (feq hc45).1 (pc' := 48) ?_
              refine siloadN X0 hx (hb hby d12_48) rfl rfl (pc' := 49) ?_
              refine sbipush X0 hx (hb hby d12_49) rfl rfl (z := 95) (pc' := 51) ?_
              by_cases hc51 : z = (95 : Int32)
              · skip
                refine sicN X0 hx (hb hby d12_51) rfl (teq hc51).2 (pc' := 54) ?_
                refine siconst X0 hx (hb hby d12_54) rfl rfl (z := 1) (pc' := 55) ?_
                refine sgoto X0 hx (hb hby d12_55) (by decide) (by decide)  (pc' := 59) ?_
                refine oRetN (t := .boolean) X0 hx Bd.notSynchronized Bd.returns (by simp) (hb hby d12_59) (by decide) (by decide) ?_
                show Q_rmOk Z z h0 n0 _ s₁.heap _
                rw [e0]
                exact ⟨1, rfl, N0, rfl, Or.inl ⟨rfl, (by first | exact Or.inl ⟨by assumption, by assumption⟩ | exact Or.inr (Or.inl ⟨by assumption, by assumption⟩) | exact Or.inr (Or.inr (Or.inl ⟨by assumption, by assumption⟩)) | exact Or.inr (Or.inr (Or.inr (Or.inl (by assumption)))) | exact Or.inr (Or.inr (Or.inr (Or.inr (by assumption)))))⟩⟩
              · skip
                refine sicY X0 hx (hb hby d12_51) (by decide) (by decide) (feq hc51).2 (pc' := 58) ?_
                refine siconst X0 hx (hb hby d12_58) rfl rfl (z := 0) (pc' := 59) ?_
                refine oRetN (t := .boolean) X0 hx Bd.notSynchronized Bd.returns (by simp) (hb hby d12_59) (by decide) (by decide) ?_
                show Q_rmOk Z z h0 n0 _ s₁.heap _
                rw [e0]
                exact ⟨0, rfl, N0, rfl, Or.inr ⟨rfl, (fun q => by rcases q with ⟨a, b⟩ | ⟨a, b⟩ | ⟨a, b⟩ | a | a <;> first | exact a (by assumption) | exact b (by assumption) | exact absurd a (by assumption))⟩⟩
          · skip
            refine sicN X0 hx (hb hby d12_37) rfl (flt hc37).2.2.1 (pc' := 40) ?_
            refine siconst X0 hx (hb hby d12_40) rfl rfl (z := 1) (pc' := 41) ?_
            refine oRetN (t := .boolean) X0 hx Bd.notSynchronized Bd.returns (by simp) (hb hby d12_41) (by decide) (by decide) ?_
            show Q_rmOk Z z h0 n0 _ s₁.heap _
            rw [e0]
            exact ⟨1, rfl, N0, rfl, Or.inl ⟨rfl, (by first | exact Or.inl ⟨by assumption, by assumption⟩ | exact Or.inr (Or.inl ⟨by assumption, by assumption⟩) | exact Or.inr (Or.inr (Or.inl ⟨by assumption, by assumption⟩)) | exact Or.inr (Or.inr (Or.inr (Or.inl (by assumption)))) | exact Or.inr (Or.inr (Or.inr (Or.inr (by assumption)))))⟩⟩
      · skip
        refine sicN X0 hx (hb hby d12_17) rfl (flt hc17).1 (pc' := 20) ?_
        refine siloadN X0 hx (hb hby d12_20) rfl rfl (pc' := 21) ?_
        refine sbipush X0 hx (hb hby d12_21) rfl rfl (z := 90) (pc' := 23) ?_
        by_cases hc23 : (90 : Int32) < z
        · skip
          refine sicY X0 hx (hb hby d12_23) (by decide) (by decide) (tlt hc23).2.2.1 (pc' := 28) ?_
          refine siloadN X0 hx (hb hby d12_28) rfl rfl (pc' := 29) ?_
          refine sbipush X0 hx (hb hby d12_29) rfl rfl (z := 97) (pc' := 31) ?_
          by_cases hc31 : z < (97 : Int32)
          · skip
            refine sicY X0 hx (hb hby d12_31) (by decide) (by decide) (tlt hc31).1 (pc' := 42) ?_
            refine siloadN X0 hx (hb hby d12_42) rfl rfl (pc' := 43) ?_
            refine sbipush X0 hx (hb hby d12_43) rfl rfl (z := 45) (pc' := 45) ?_
            by_cases hc45 : z = (45 : Int32)
            · skip
              refine sicY X0 hx (hb hby d12_45) (by decide) (by decide) (teq hc45).1 (pc' := 54) ?_
              refine siconst X0 hx (hb hby d12_54) rfl rfl (z := 1) (pc' := 55) ?_
              refine sgoto X0 hx (hb hby d12_55) (by decide) (by decide)  (pc' := 59) ?_
              refine oRetN (t := .boolean) X0 hx Bd.notSynchronized Bd.returns (by simp) (hb hby d12_59) (by decide) (by decide) ?_
              show Q_rmOk Z z h0 n0 _ s₁.heap _
              rw [e0]
              exact ⟨1, rfl, N0, rfl, Or.inl ⟨rfl, (by first | exact Or.inl ⟨by assumption, by assumption⟩ | exact Or.inr (Or.inl ⟨by assumption, by assumption⟩) | exact Or.inr (Or.inr (Or.inl ⟨by assumption, by assumption⟩)) | exact Or.inr (Or.inr (Or.inr (Or.inl (by assumption)))) | exact Or.inr (Or.inr (Or.inr (Or.inr (by assumption)))))⟩⟩
            · skip
              refine sicN X0 hx (hb hby d12_45) rfl (feq hc45).1 (pc' := 48) ?_
              refine siloadN X0 hx (hb hby d12_48) rfl rfl (pc' := 49) ?_
              refine sbipush X0 hx (hb hby d12_49) rfl rfl (z := 95) (pc' := 51) ?_
              by_cases hc51 : z = (95 : Int32)
              · skip
                refine sicN X0 hx (hb hby d12_51) rfl (teq hc51).2 (pc' := 54) ?_
                refine siconst X0 hx (hb hby d12_54) rfl rfl (z := 1) (pc' := 55) ?_
                refine sgoto X0 hx (hb hby d12_55) (by decide) (by decide)  (pc' := 59) ?_
                refine oRetN (t := .boolean) X0 hx Bd.notSynchronized Bd.returns (by simp) (hb hby d12_59) (by decide) (by decide) ?_
                show Q_rmOk Z z h0 n0 _ s₁.heap _
                rw [e0]
                exact ⟨1, rfl, N0, rfl, Or.inl ⟨rfl, (by first | exact Or.inl ⟨by assumption, by assumption⟩ | exact Or.inr (Or.inl ⟨by assumption, by assumption⟩) | exact Or.inr (Or.inr (Or.inl ⟨by assumption, by assumption⟩)) | exact Or.inr (Or.inr (Or.inr (Or.inl (by assumption)))) | exact Or.inr (Or.inr (Or.inr (Or.inr (by assumption)))))⟩⟩
              · skip
                refine sicY X0 hx (hb hby d12_51) (by decide) (by decide) (feq hc51).2 (pc' := 58) ?_
                refine siconst X0 hx (hb hby d12_58) rfl rfl (z := 0) (pc' := 59) ?_
                refine oRetN (t := .boolean) X0 hx Bd.notSynchronized Bd.returns (by simp) (hb hby d12_59) (by decide) (by decide) ?_
                show Q_rmOk Z z h0 n0 _ s₁.heap _
                rw [e0]
                exact ⟨0, rfl, N0, rfl, Or.inr ⟨rfl, (fun q => by rcases q with ⟨a, b⟩ | ⟨a, b⟩ | ⟨a, b⟩ | a | a <;> first | exact a (by assumption) | exact b (by assumption) | exact absurd a (by assumption))⟩⟩
          · skip
            refine sicN X0 hx (hb hby d12_31) rfl (flt hc31).1 (pc' := 34) ?_
            refine siloadN X0 hx (hb hby d12_34) rfl rfl (pc' := 35) ?_
            refine sbipush X0 hx (hb hby d12_35) rfl rfl (z := 122) (pc' := 37) ?_
            by_cases hc37 : (122 : Int32) < z
            · skip
              refine sicY X0 hx (hb hby d12_37) (by decide) (by decide) (tlt hc37).2.2.1 (pc' := 42) ?_
              refine siloadN X0 hx (hb hby d12_42) rfl rfl (pc' := 43) ?_
              refine sbipush X0 hx (hb hby d12_43) rfl rfl (z := 45) (pc' := 45) ?_
              by_cases hc45 : z = (45 : Int32)
              · skip
                refine sicY X0 hx (hb hby d12_45) (by decide) (by decide) (teq hc45).1 (pc' := 54) ?_
                refine siconst X0 hx (hb hby d12_54) rfl rfl (z := 1) (pc' := 55) ?_
                refine sgoto X0 hx (hb hby d12_55) (by decide) (by decide)  (pc' := 59) ?_
                refine oRetN (t := .boolean) X0 hx Bd.notSynchronized Bd.returns (by simp) (hb hby d12_59) (by decide) (by decide) ?_
                show Q_rmOk Z z h0 n0 _ s₁.heap _
                rw [e0]
                exact ⟨1, rfl, N0, rfl, Or.inl ⟨rfl, (by first | exact Or.inl ⟨by assumption, by assumption⟩ | exact Or.inr (Or.inl ⟨by assumption, by assumption⟩) | exact Or.inr (Or.inr (Or.inl ⟨by assumption, by assumption⟩)) | exact Or.inr (Or.inr (Or.inr (Or.inl (by assumption)))) | exact Or.inr (Or.inr (Or.inr (Or.inr (by assumption)))))⟩⟩
              · skip
                refine sicN X0 hx (hb hby d12_45) rfl (feq hc45).1 (pc' := 48) ?_
                refine siloadN X0 hx (hb hby d12_48) rfl rfl (pc' := 49) ?_
                refine sbipush X0 hx (hb hby d12_49) rfl rfl (z := 95) (pc' := 51) ?_
                by_cases hc51 : z = (95 : Int32)
                · skip
                  refine sicN X0 hx (hb hby d12_51) rfl (teq hc51).2 (pc' := 54) ?_
                  refine siconst X0 hx (hb hby d12_54) rfl rfl (z := 1) (pc' := 55) ?_
                  refine sgoto X0 hx (hb hby d12_55) (by decide) (by decide)  (pc' := 59) ?_
                  refine oRetN (t := .boolean) X0 hx Bd.notSynchronized Bd.returns (by simp) (hb hby d12_59) (by decide) (by decide) ?_
                  show Q_rmOk Z z h0 n0 _ s₁.heap _
                  rw [e0]
                  exact ⟨1, rfl, N0, rfl, Or.inl ⟨rfl, (by first | exact Or.inl ⟨by assumption, by assumption⟩ | exact Or.inr (Or.inl ⟨by assumption, by assumption⟩) | exact Or.inr (Or.inr (Or.inl ⟨by assumption, by assumption⟩)) | exact Or.inr (Or.inr (Or.inr (Or.inl (by assumption)))) | exact Or.inr (Or.inr (Or.inr (Or.inr (by assumption)))))⟩⟩
                · skip
                  refine sicY X0 hx (hb hby d12_51) (by decide) (by decide) (feq hc51).2 (pc' := 58) ?_
                  refine siconst X0 hx (hb hby d12_58) rfl rfl (z := 0) (pc' := 59) ?_
                  refine oRetN (t := .boolean) X0 hx Bd.notSynchronized Bd.returns (by simp) (hb hby d12_59) (by decide) (by decide) ?_
                  show Q_rmOk Z z h0 n0 _ s₁.heap _
                  rw [e0]
                  exact ⟨0, rfl, N0, rfl, Or.inr ⟨rfl, (fun q => by rcases q with ⟨a, b⟩ | ⟨a, b⟩ | ⟨a, b⟩ | a | a <;> first | exact a (by assumption) | exact b (by assumption) | exact absurd a (by assumption))⟩⟩
            · skip
              refine sicN X0 hx (hb hby d12_37) rfl (flt hc37).2.2.1 (pc' := 40) ?_
              refine siconst X0 hx (hb hby d12_40) rfl rfl (z := 1) (pc' := 41) ?_
              refine oRetN (t := .boolean) X0 hx Bd.notSynchronized Bd.returns (by simp) (hb hby d12_41) (by decide) (by decide) ?_
              show Q_rmOk Z z h0 n0 _ s₁.heap _
              rw [e0]
              exact ⟨1, rfl, N0, rfl, Or.inl ⟨rfl, (by first | exact Or.inl ⟨by assumption, by assumption⟩ | exact Or.inr (Or.inl ⟨by assumption, by assumption⟩) | exact Or.inr (Or.inr (Or.inl ⟨by assumption, by assumption⟩)) | exact Or.inr (Or.inr (Or.inr (Or.inl (by assumption)))) | exact Or.inr (Or.inr (Or.inr (Or.inr (by assumption)))))⟩⟩
        · skip
          refine sicN X0 hx (hb hby d12_23) rfl (flt hc23).2.2.1 (pc' := 26) ?_
          refine siconst X0 hx (hb hby d12_26) rfl rfl (z := 1) (pc' := 27) ?_
          refine oRetN (t := .boolean) X0 hx Bd.notSynchronized Bd.returns (by simp) (hb hby d12_27) (by decide) (by decide) ?_
          show Q_rmOk Z z h0 n0 _ s₁.heap _
          rw [e0]
          exact ⟨1, rfl, N0, rfl, Or.inl ⟨rfl, (by first | exact Or.inl ⟨by assumption, by assumption⟩ | exact Or.inr (Or.inl ⟨by assumption, by assumption⟩) | exact Or.inr (Or.inr (Or.inl ⟨by assumption, by assumption⟩)) | exact Or.inr (Or.inr (Or.inr (Or.inl (by assumption)))) | exact Or.inr (Or.inr (Or.inr (Or.inr (by assumption)))))⟩⟩
    · skip
      refine sicN X0 hx (hb hby d12_9) rfl (flt hc9).2.2.1 (pc' := 12) ?_
      refine siconst X0 hx (hb hby d12_12) rfl rfl (z := 1) (pc' := 13) ?_
      refine oRetN (t := .boolean) X0 hx Bd.notSynchronized Bd.returns (by simp) (hb hby d12_13) (by decide) (by decide) ?_
      show Q_rmOk Z z h0 n0 _ s₁.heap _
      rw [e0]
      exact ⟨1, rfl, N0, rfl, Or.inl ⟨rfl, (by first | exact Or.inl ⟨by assumption, by assumption⟩ | exact Or.inr (Or.inl ⟨by assumption, by assumption⟩) | exact Or.inr (Or.inr (Or.inl ⟨by assumption, by assumption⟩)) | exact Or.inr (Or.inr (Or.inr (Or.inl (by assumption)))) | exact Or.inr (Or.inr (Or.inr (Or.inr (by assumption)))))⟩⟩
theorem d5_0 : decode jdk_31_method_11_code 0 = .ok (.aload_n 0, 1) := by decide +kernel
theorem d5_1 : decode jdk_31_method_11_code 1 = .ok (.ifnonnull 12, 3) := by decide +kernel
theorem d5_13 : decode jdk_31_method_11_code 13 = .ok (.aload_n 0, 1) := by decide +kernel
theorem d5_14 : decode jdk_31_method_11_code 14 = .ok (.areturn, 1) := by decide +kernel
theorem pn_Objects : plainName "java/util/Objects" = true := by first | (simp [plainName, overriddenIn]; done) | decide +kernel
theorem ef_rmRq2 (m : MethodId) (x0 : Nat) (x1 : Nat)  : entryFrame m #[(.ref x0), (.ref x1)] 2 = mkF m 0 #[.val (.ref x0), .val (.ref x1)] [] := by first | (simp [entryFrame, mkF, argsToLocals, Value.category, maxLocals]; done) | rfl
def Q_rmRq2 (Z : State) (a b : Nat) (h0 : Heap) (n0 : Nat) (vv : Option Value) (h : Heap) (L : List Loc) : Prop := vv = some (.ref a) ∧ Fr n0 L ∧ h = h0
set_option maxRecDepth 65536 in
set_option maxHeartbeats 40000000 in
theorem rmRq2 (l : Launch) (Z : State) (a0 : Array Value) (hw : ∀ d ∈ tables_1, d.before a0 Z = true) (ws : List Jvm.Cond) (a b : Nat) (h0 : Heap) (n0 : Nat) (Z0 : n0 ≤ h0.size)  :
    MetFree l (⟨"java/util/Objects", "requireNonNull", "(Ljava/lang/Object;Ljava/lang/String;)Ljava/lang/Object;"⟩ : MethodName) (head1 (Jvm.Cond.code (⟨"java/util/Objects", "requireNonNull", "(Ljava/lang/Object;Ljava/lang/String;)Ljava/lang/Object;"⟩ : MethodName) jdk_31_method_11_code 2 (some (.object "java/lang/Object")) :: ws) ({ frames := 0, cells := 0, slots := 0, locals := 0 } : Room)) (fun aA uU => aA = #[(.ref a), (.ref b)] ∧ Z.Warmed39 uU.vm ∧ uU.heap = h0) (fun _ _ _ _ _ => True) (fun _ uU oO uU' => ∃ vV lL, oO = .returned vV ∧ Q_rmRq2 Z a b h0 n0 vV uU'.heap lL ∧ FrameEnd uU oO uU' lL ({ frames := 0, cells := 0, slots := 0, locals := 0 } : Room).cells ({ frames := 0, cells := 0, slots := 0, locals := 0 } : Room).slots) := by
  refine MetFree.of_bodySF (plainFor_of_name pn_Objects) hisR ?_
  intro p e s m args below meth c s₁ Bd hml0 hP hK
  obtain ⟨rfl, hZ, hh⟩ := hP
  have hx := Bd.exec
  have hby := Bd.bytes
  have hml : c.maxLocals = 2 := hml0
  have hown : s.vm.findClass "java/util/Objects" = some m.cls := findClass_of_methodNamed Bd.named
  have hnm := (name_of_methodNamed Bd.named Bd.method).1
  have X0 : Stand p l e ({ frames := 0, cells := 0, slots := 0, locals := 0 } : Room) s m #[(.ref a), (.ref b)] below meth c s₁ [] 0 0 := Stand.of_body Bd
  have e0 : s₁.heap = h0 := by rw [← hh, Bd.state]; rfl
  have N0 := Fr.nil n0
  refine oEnter (oCast (ef_rmRq2 m a b ) ?_)
  show oGl p e below (s₁.setTop (mkF m 0 #[.val (.ref a), .val (.ref b)] [])) _
  refine saloadN X0 hx (hb hby d5_0) rfl rfl rfl (pc' := 1) ?_
  refine sifnonnullY X0 hx (hb hby d5_1) (by decide) (by decide)  (pc' := 13) ?_
  refine saloadN X0 hx (hb hby d5_13) rfl rfl rfl (pc' := 14) ?_
  refine oRetR X0 hx Bd.notSynchronized Bd.returns rfl rfl (hb hby d5_14) (by decide) (by decide) ?_
  show Q_rmRq2 Z a b h0 n0 _ s₁.heap _
  rw [e0]
  exact ⟨rfl, N0, rfl⟩
theorem d4_0 : decode prog_14_method_2_code 0 = .ok (.aload_n 0, 1) := by decide +kernel
theorem d4_1 : decode prog_14_method_2_code 1 = .ok (.ldc 7, 2) := by decide +kernel
theorem d4_3 : decode prog_14_method_2_code 3 = .ok (.invokestatic 9, 3) := by decide +kernel
theorem pd_14 : parseMethodDescriptor "(Ljava/lang/Object;Ljava/lang/String;)Ljava/lang/Object;" = some ⟨[(.object "java/lang/Object"), (.object "java/lang/String")], some (.object "java/lang/Object")⟩ := by decide +kernel
theorem d4_6 : decode prog_14_method_2_code 6 = .ok (.pop, 1) := by decide +kernel
theorem d4_7 : decode prog_14_method_2_code 7 = .ok (.aload_n 0, 1) := by decide +kernel
theorem d4_8 : decode prog_14_method_2_code 8 = .ok (.invokevirtual 15, 3) := by decide +kernel
theorem d4_28 : decode prog_14_method_2_code 28 = .ok (.istore_n 1, 1) := by decide +kernel
theorem d4_29 : decode prog_14_method_2_code 29 = .ok (.iconst 0, 1) := by decide +kernel
theorem d4_30 : decode prog_14_method_2_code 30 = .ok (.istore_n 2, 1) := by decide +kernel
theorem d4_31 : decode prog_14_method_2_code 31 = .ok (.iload_n 1, 1) := by decide +kernel
theorem d4_32 : decode prog_14_method_2_code 32 = .ok (.ifCond .eq 77, 3) := by decide +kernel
theorem d4_109 : decode prog_14_method_2_code 109 = .ok (.iload_n 1, 1) := by decide +kernel
theorem d4_110 : decode prog_14_method_2_code 110 = .ok (.ireturn, 1) := by decide +kernel
theorem d4_35 : decode prog_14_method_2_code 35 = .ok (.iload_n 2, 1) := by decide +kernel
theorem d4_36 : decode prog_14_method_2_code 36 = .ok (.aload_n 0, 1) := by decide +kernel
theorem d4_37 : decode prog_14_method_2_code 37 = .ok (.invokevirtual 21, 3) := by decide +kernel
theorem pd_15 : parseMethodDescriptor "()I" = some ⟨[], some .int⟩ := by decide +kernel
theorem d4_40 : decode prog_14_method_2_code 40 = .ok (.if_icmp .ge 69, 3) := by decide +kernel
theorem d4_43 : decode prog_14_method_2_code 43 = .ok (.aload_n 0, 1) := by decide +kernel
theorem d4_44 : decode prog_14_method_2_code 44 = .ok (.iload_n 2, 1) := by decide +kernel
theorem d4_45 : decode prog_14_method_2_code 45 = .ok (.invokevirtual 27, 3) := by decide +kernel
theorem pd_16 : parseMethodDescriptor "(I)C" = some ⟨[.int], some .char⟩ := by decide +kernel
theorem d4_48 : decode prog_14_method_2_code 48 = .ok (.istore_n 3, 1) := by decide +kernel
theorem d4_102 : decode prog_14_method_2_code 102 = .ok (.istore_n 1, 1) := by decide +kernel
theorem d4_103 : decode prog_14_method_2_code 103 = .ok (.iinc 2 1, 3) := by decide +kernel
theorem d4_106 : decode prog_14_method_2_code 106 = .ok (.goto (-75), 3) := by decide +kernel
theorem d4_49 : decode prog_14_method_2_code 49 = .ok (.iload_n 3, 1) := by decide +kernel
theorem d4_50 : decode prog_14_method_2_code 50 = .ok (.bipush 65, 2) := by decide +kernel
theorem d4_52 : decode prog_14_method_2_code 52 = .ok (.if_icmp .lt 9, 3) := by decide +kernel
theorem d4_61 : decode prog_14_method_2_code 61 = .ok (.iload_n 3, 1) := by decide +kernel
theorem d4_62 : decode prog_14_method_2_code 62 = .ok (.bipush 97, 2) := by decide +kernel
theorem d4_64 : decode prog_14_method_2_code 64 = .ok (.if_icmp .lt 9, 3) := by decide +kernel
theorem d4_73 : decode prog_14_method_2_code 73 = .ok (.iload_n 3, 1) := by decide +kernel
theorem d4_74 : decode prog_14_method_2_code 74 = .ok (.bipush 48, 2) := by decide +kernel
theorem d4_76 : decode prog_14_method_2_code 76 = .ok (.if_icmp .lt 9, 3) := by decide +kernel
theorem d4_85 : decode prog_14_method_2_code 85 = .ok (.iload_n 3, 1) := by decide +kernel
theorem d4_86 : decode prog_14_method_2_code 86 = .ok (.bipush 45, 2) := by decide +kernel
theorem d4_88 : decode prog_14_method_2_code 88 = .ok (.if_icmp .eq 9, 3) := by decide +kernel
theorem d4_97 : decode prog_14_method_2_code 97 = .ok (.iconst 1, 1) := by decide +kernel
theorem d4_98 : decode prog_14_method_2_code 98 = .ok (.goto 4, 3) := by decide +kernel
theorem d4_91 : decode prog_14_method_2_code 91 = .ok (.iload_n 3, 1) := by decide +kernel
theorem d4_92 : decode prog_14_method_2_code 92 = .ok (.bipush 95, 2) := by decide +kernel
theorem d4_94 : decode prog_14_method_2_code 94 = .ok (.if_icmp .ne 7, 3) := by decide +kernel
theorem d4_101 : decode prog_14_method_2_code 101 = .ok (.iconst 0, 1) := by decide +kernel
theorem d4_79 : decode prog_14_method_2_code 79 = .ok (.iload_n 3, 1) := by decide +kernel
theorem d4_80 : decode prog_14_method_2_code 80 = .ok (.bipush 57, 2) := by decide +kernel
theorem d4_82 : decode prog_14_method_2_code 82 = .ok (.if_icmp .le 15, 3) := by decide +kernel
theorem d4_67 : decode prog_14_method_2_code 67 = .ok (.iload_n 3, 1) := by decide +kernel
theorem d4_68 : decode prog_14_method_2_code 68 = .ok (.bipush 122, 2) := by decide +kernel
theorem d4_70 : decode prog_14_method_2_code 70 = .ok (.if_icmp .le 27, 3) := by decide +kernel
theorem d4_55 : decode prog_14_method_2_code 55 = .ok (.iload_n 3, 1) := by decide +kernel
theorem d4_56 : decode prog_14_method_2_code 56 = .ok (.bipush 90, 2) := by decide +kernel
theorem d4_58 : decode prog_14_method_2_code 58 = .ok (.if_icmp .le 39, 3) := by decide +kernel
theorem d4_11 : decode prog_14_method_2_code 11 = .ok (.ifCond .ne 16, 3) := by decide +kernel
theorem d4_14 : decode prog_14_method_2_code 14 = .ok (.aload_n 0, 1) := by decide +kernel
theorem d4_15 : decode prog_14_method_2_code 15 = .ok (.invokevirtual 21, 3) := by decide +kernel
theorem d4_18 : decode prog_14_method_2_code 18 = .ok (.bipush 64, 2) := by decide +kernel
theorem d4_20 : decode prog_14_method_2_code 20 = .ok (.if_icmp .gt 7, 3) := by decide +kernel
theorem d4_27 : decode prog_14_method_2_code 27 = .ok (.iconst 0, 1) := by decide +kernel
theorem d4_23 : decode prog_14_method_2_code 23 = .ok (.iconst 1, 1) := by decide +kernel
theorem d4_24 : decode prog_14_method_2_code 24 = .ok (.goto 4, 3) := by decide +kernel
theorem pn_Limits : plainName "com/example/concordat/concordat/core/Limits" = true := by first | (simp [plainName, overriddenIn]; done) | decide +kernel
theorem ef_rmIsId (m : MethodId) (x0 : Nat)  : entryFrame m #[(.ref x0)] 4 = mkF m 0 #[.val (.ref x0), .unset, .unset, .unset] [] := by first | (simp [entryFrame, mkF, argsToLocals, Value.category, maxLocals]; done) | rfl
def Q_rmIsId (Z : State) (x n : Nat) (f : Nat → Int32) (cz : Int32) (sf : Value) (h0 : Heap) (n0 : Nat) (vv : Option Value) (h : Heap) (L : List Loc) : Prop := ∃ r : Int32, vv = some (.int r) ∧ Fr n0 L ∧ Keep h0 h [] ∧ ((r = 1 ∧ idP n f) ∨ (r = 0 ∧ ¬ idP n f))
set_option maxRecDepth 65536 in
set_option maxHeartbeats 40000000 in
theorem rmIsId (l : Launch) (Z : State) (a0 : Array Value) (hw : ∀ d ∈ tables_1, d.before a0 Z = true) (ws : List Jvm.Cond) (x n : Nat) (f : Nat → Int32) (cz : Int32) (sf : Value) (h0 : Heap) (n0 : Nat) (Z0 : n0 ≤ h0.size) (O0 : Old Z n0 h0) (SCS : Sta Z Z.heap "java/lang/String" "COMPACT_STRINGS" "Z" (.int cz)) (hcz : ¬ cz = (0 : Int32)) (SSF : Sta Z Z.heap "jdk/internal/util/Preconditions" "SIOOBE_FORMATTER" "Ljava/util/function/BiFunction;" sf) (hsf : sf.isRef = true) (SAD : Sta Z Z.heap "java/lang/StringUTF16" "$assertionsDisabled" "Z" (.int 1)) (SHI : Sta Z Z.heap "java/lang/StringUTF16" "HI_BYTE_SHIFT" "I" (.int 0)) (SLO : Sta Z Z.heap "java/lang/StringUTF16" "LO_BYTE_SHIFT" "I" (.int 8)) (E0 : Exa Z h0 x "java/lang/String") (PS : oStr Z h0 x n f) (hn : n < 1000000) (hch : oChr f n) :
    MetFree l (⟨"com/example/concordat/concordat/core/Limits", "isId", "(Ljava/lang/String;)Z"⟩ : MethodName) (head1 (Jvm.Cond.code (⟨"com/example/concordat/concordat/core/Limits", "isId", "(Ljava/lang/String;)Z"⟩ : MethodName) prog_14_method_2_code 4 (some .boolean) :: ws) ({ frames := 5, cells := 2, slots := 20, locals := 66 } : Room)) (fun aA uU => aA = #[(.ref x)] ∧ Z.Warmed39 uU.vm ∧ uU.heap = h0) (fun _ _ _ _ _ => True) (fun _ uU oO uU' => ∃ vV lL, oO = .returned vV ∧ Q_rmIsId Z x n f cz sf h0 n0 vV uU'.heap lL ∧ ReturnedEndW uU oO uU' lL ({ frames := 5, cells := 2, slots := 20, locals := 66 } : Room).cells ({ frames := 5, cells := 2, slots := 20, locals := 66 } : Room).slots) := by
  refine MetFree.of_bodySF (plainFor_of_name pn_Limits) hisR ?_
  intro p e s m args below meth c s₁ Bd hml0 hP hK
  obtain ⟨rfl, hZ, hh⟩ := hP
  have hx := Bd.exec
  have hby := Bd.bytes
  have hml : c.maxLocals = 4 := hml0
  have hown : s.vm.findClass "com/example/concordat/concordat/core/Limits" = some m.cls := findClass_of_methodNamed Bd.named
  have hnm := (name_of_methodNamed Bd.named Bd.method).1
  have X0 : Stand p l e ({ frames := 5, cells := 2, slots := 20, locals := 66 } : Room) (s.setVm s.vm) m #[(.ref x)] below meth c s₁ [] 0 0 := Stand.of_body Bd
  have e0 : s₁.heap = h0 := by rw [← hh, Bd.state]; rfl
  have N0 := Fr.nil n0
  have hS : s.Since s.vm 0 := (State.WarmedH.refl s).since 0
  have hk : 0 ≤ h0.size := Nat.zero_le _
  have hZ : Z.Warmed39 (s.setVm s.vm).vm := hZ
  have hown : (s.setVm s.vm).vm.findClass "com/example/concordat/concordat/core/Limits" = some m.cls := hown
  refine oEnterW (oCast (ef_rmIsId m x ) ?_)
  show oGl p e below (s₁.setTop (mkF m 0 #[.val (.ref x), .unset, .unset, .unset] [])) _
  refine saloadN X0 hx (hb hby d4_0) rfl rfl rfl (pc' := 1) ?_
  obtain ⟨a1, T1, h1, k1, X1, e1, E1, hS, hk, hZ, hown, st1⟩ := ldcS X0 hx hZ hown (hw _ (List.mem_of_getElem? (i := 26) rfl)) (own_sa hw) e0 hS (by omega) (g := (mkF m 1 #[.val (.ref x), .unset, .unset, .unset] [(.ref x)])) rfl (hb hby d4_1) (n := 16) (by decide) (by decide) (by decide) (by decide)
  refine oOn st1 ?_
  have z2 : h0.size ≤ h1.size := E1.1
  show oGl p e below (T1.setTop (mkF m 3 #[.val (.ref x), .unset, .unset, .unset] [(.ref a1), (.ref x)])) _
  have hz3 : n0 ≤ h1.size := by omega
  obtain ⟨_, _, ⟨T3, L3, k3, n3⟩, -, X3, ⟨Lc3, hQ3, l3, y3, z3⟩, st3⟩ := Jvm.LawKit.callS X1 hx (y := (⟨"java/util/Objects", "requireNonNull", "(Ljava/lang/Object;Ljava/lang/String;)Ljava/lang/Object;"⟩ : MethodName)) hown (mvT hZ (hw _ (List.mem_of_getElem? (i := 27) rfl))) (mvT hZ (hw _ (List.mem_of_getElem? (i := 28) rfl))) (mvT hZ (hw _ (List.mem_of_getElem? (i := 29) rfl))) (mvT hZ (hw _ (List.mem_of_getElem? (i := 30) rfl))) (by decide) (backOf (W := 0) (rmRq2 l Z a0 hw [] x a1 h1 n0 hz3 ) hZ (hw _ (List.mem_of_getElem? (i := 30) rfl)) (hw _ (List.mem_of_getElem? (i := 29) rfl)) (by decide) (by decide)) (g := (mkF m 3 #[.val (.ref x), .unset, .unset, .unset] [(.ref a1), (.ref x)])) rfl (by rw [hml]; rfl) (argsL := [(.ref x), (.ref a1)]) (rest := []) (lenOf pd_14 rfl) rfl (by show 2 * 0 + _ ≤ _; exact Nat.le_of_eq rfl) (hb hby d4_3) (fun _ _ => ⟨rfl, e1, (by decide : 2 + 0 ≤ _), (by decide : 20 + 0 ≤ _)⟩)
  dsimp only [Pt.U, Pt.locs, Pt.cells, Pt.slots] at X3 l3 y3 z3 st3 hQ3
  subst l3 y3 z3
  obtain ⟨rfl, N3q, eh3⟩ := hQ3
  have N3 := Fr.app N0 N3q
  refine oOn st3 ?_
  show oGl p e below (T3.setTop (mkF m 6 #[.val (.ref x), .unset, .unset, .unset] [(.ref x)])) _
  refine spop X3 hx (hb hby d4_6) rfl rfl (pc' := 7) ?_
  refine saloadN X3 hx (hb hby d4_7) rfl rfl rfl (pc' := 8) ?_
  have f4 := (O0.ext E1)
  have f5 := (E0.ext E1)
  have f6 := (PS.ext E1)
  have hz7 : n0 ≤ h1.size := by omega
  obtain ⟨cq7, kq7, q7a, q7b, q7c⟩ := isOf hZ eh3 f5
  obtain ⟨_, _, ⟨T7, L7, k7, n7⟩, -, X7, ⟨Lc7, hQ7, l7, y7, z7⟩, st7⟩ := X3.virtualBack hx (y := (⟨"java/lang/String", "isEmpty", "()Z"⟩ : MethodName)) (z := (⟨"java/lang/String", "isEmpty", "()Z"⟩ : MethodName)) hown (mvT hZ (hw _ (List.mem_of_getElem? (i := 31) rfl))) (mvT hZ (hw _ (List.mem_of_getElem? (i := 32) rfl))) (notFace_of_selects (args := #[]) (mvT hZ (hw _ (List.mem_of_getElem? (i := 34) rfl)))) (mvT hZ (hw _ (List.mem_of_getElem? (i := 34) rfl))) (mvT hZ (hw _ (List.mem_of_getElem? (i := 33) rfl))) (by decide) (backOf (W := 0) (rmIsE l Z a0 hw [] x n f cz sf h1 n0 hz7 f4 SCS hcz SSF hsf SAD SHI SLO f5 f6 hn) hZ (hw _ (List.mem_of_getElem? (i := 35) rfl)) (hw _ (List.mem_of_getElem? (i := 3) rfl)) (by decide) (by decide)) q7a q7c (g := (mkF m 8 #[.val (.ref x), .unset, .unset, .unset] [(.ref x)])) rfl (by rw [hml]; rfl) (Steps.refl _) (argsL := []) (rest := []) (lenOf pd_13 rfl) rfl (by show 2 * 0 + _ ≤ _; exact Nat.le_of_eq rfl) (hb hby d4_8) (fun _ _ => ⟨rfl, eh3, (by decide : 2 + 0 ≤ _), (by decide : 20 + 0 ≤ _)⟩)
  dsimp only [Pt.U, Pt.locs, Pt.cells, Pt.slots] at X7 l7 y7 z7 st7 hQ7
  subst l7 y7 z7
  obtain ⟨r7, rfl, N7q, eh7, pq7⟩ := hQ7
  have N7 := Fr.app N3 N7q
  refine oSt st7 ?_
  show oGl p e below (T7.setTop (mkF m 11 #[.val (.ref x), .unset, .unset, .unset] [(.int r7)])) _
  have j28 : ∀ (fl : Int32) (hfl : (fl = 1 ∧ (1 ≤ n ∧ n ≤ 64)) ∨ (fl = 0 ∧ ¬ (1 ≤ n ∧ n ≤ 64))) (T : State) (locs : List Loc) (vmv : Vm) (kS : Nat) (X : Stand p l e ({ frames := 5, cells := 2, slots := 20, locals := 66 } : Room) (s.setVm vmv) m #[(.ref x)] below meth c T locs 2 20) (eT : T.heap = h1) (N : Fr n0 locs) (hS : s.Since vmv kS) (hk : kS ≤ h1.size) (hZ : Z.Warmed39 (s.setVm vmv).vm) (hown : (s.setVm vmv).vm.findClass "com/example/concordat/concordat/core/Limits" = some m.cls), oGl p e below (T.setTop (mkF m 28 #[.val (.ref x), .unset, .unset, .unset] [(.int fl)])) (oFinW s below (Q_rmIsId Z x n f cz sf h0 n0) ({ frames := 5, cells := 2, slots := 20, locals := 66 } : Room).cells ({ frames := 5, cells := 2, slots := 20, locals := 66 } : Room).slots) := by
    intro fl hfl T locs vmv kS X eT N hS hk hZ hown
    refine sistoreN X hx (hb hby d4_28) rfl rfl (l' := #[.val (.ref x), .val (.int fl), .unset, .unset]) (pc' := 29) ?_
    refine siconst X hx (hb hby d4_29) rfl rfl (z := 0) (pc' := 30) ?_
    refine sistoreN X hx (hb hby d4_30) rfl rfl (l' := #[.val (.ref x), .val (.int fl), .val (.int (0 : Int32)), .unset]) (pc' := 31) ?_
    have lp31 : ∀ (kF : Nat) (i fl : Int32) (o3 : Slot) (T : State) (locs : List Loc) (vmv : Vm) (kS : Nat) (X : Stand p l e ({ frames := 5, cells := 2, slots := 20, locals := 66 } : Room) (s.setVm vmv) m #[(.ref x)] below meth c T locs 2 20) (eT : T.heap = h1) (N : Fr n0 locs) (hS : s.Since vmv kS) (hk : kS ≤ h1.size) (hZ : Z.Warmed39 (s.setVm vmv).vm) (hown : (s.setVm vmv).vm.findClass "com/example/concordat/concordat/core/Limits" = some m.cls) (hm : (n - i.toInt.toNat) < kF) (hi : 0 ≤ i.toInt ∧ i.toInt ≤ n ∧ One o3 ∧ ((fl = 1 ∧ ((1 ≤ n ∧ n ≤ 64) ∧ ∀ j : Nat, (j : Int) < i.toInt → okc (f j))) ∨ (fl = 0 ∧ ¬ idP n f))), oGl p e below (T.setTop (mkF m 31 #[.val (.ref x), .val (.int fl), .val (.int i), o3] [])) (oFinW s below (Q_rmIsId Z x n f cz sf h0 n0) ({ frames := 5, cells := 2, slots := 20, locals := 66 } : Room).cells ({ frames := 5, cells := 2, slots := 20, locals := 66 } : Room).slots) := by
      intro kF
      induction kF with
      | zero => intro i fl o3 T locs vmv kS X eT N hS hk hZ hown hm hi; exact absurd hm (Nat.not_lt_zero _)
      | succ kF ih =>
        intro i fl o3 T locs vmv kS X eT N hS hk hZ hown hm hi
        refine siloadN X hx (hb hby d4_31) rfl rfl (pc' := 32) ?_
        by_cases hc32 : fl = (0 : Int32)
        · skip
          refine sifY X hx (hb hby d4_32) (by decide) (by decide) (teq hc32).1 (pc' := 109) ?_
          refine siloadN X hx (hb hby d4_109) rfl rfl (pc' := 110) ?_
          have kp8 : Keep h0 h1 [] := ((Keep.refl h0 []).ext E1)
          refine oRetNW (t := .boolean) X hS (by rw [eT]; omega) hx Bd.notSynchronized Bd.returns (by simp) (hb hby d4_110) (by decide) (by decide) ?_
          show Q_rmIsId Z x n f cz sf h0 n0 _ T.heap _
          rw [eT]
          exact ⟨fl, congrArg (fun z => some (Value.int z)) (own_nb hi.2.2.2), N, kp8, Or.inr ((hi.2.2.2).resolve_left (fun q => absurd (hc32.symm.trans q.1) (by decide)))⟩
        · skip
          refine sifN X hx (hb hby d4_32) rfl (feq hc32).1 (pc' := 35) ?_
          refine siloadN X hx (hb hby d4_35) rfl rfl (pc' := 36) ?_
          refine saloadN X hx (hb hby d4_36) rfl rfl rfl (pc' := 37) ?_
          have hz9 : n0 ≤ h1.size := by omega
          obtain ⟨cq9, kq9, q9a, q9b, q9c⟩ := isOf hZ eT f5
          obtain ⟨_, _, ⟨T9, L9, k9, n9⟩, -, X9, ⟨Lc9, hQ9, l9, y9, z9⟩, st9⟩ := X.virtualBack hx (y := (⟨"java/lang/String", "length", "()I"⟩ : MethodName)) (z := (⟨"java/lang/String", "length", "()I"⟩ : MethodName)) hown (mvT hZ (hw _ (List.mem_of_getElem? (i := 47) rfl))) (mvT hZ (hw _ (List.mem_of_getElem? (i := 48) rfl))) (notFace_of_selects (args := #[]) (mvT hZ (hw _ (List.mem_of_getElem? (i := 50) rfl)))) (mvT hZ (hw _ (List.mem_of_getElem? (i := 50) rfl))) (mvT hZ (hw _ (List.mem_of_getElem? (i := 49) rfl))) (by decide) (backOf (W := 1) (rmLen l Z a0 hw [] x n f cz sf h1 n0 hz9 f4 SCS hcz SSF hsf SAD SHI SLO f5 f6 hn) hZ (hw _ (List.mem_of_getElem? (i := 51) rfl)) (hw _ (List.mem_of_getElem? (i := 3) rfl)) (by decide) (by decide)) q9a q9c (g := (mkF m 37 #[.val (.ref x), .val (.int fl), .val (.int i), o3] [(.ref x), (.int i)])) rfl (by rw [hml]; rfl) (Steps.refl _) (argsL := []) (rest := [(.int i)]) (lenOf pd_15 rfl) rfl (by show 2 * 0 + _ ≤ _; exact Nat.le_of_eq rfl) (hb hby d4_37) (fun _ _ => ⟨rfl, eT, (by decide : 2 + 0 ≤ _), (by decide : 20 + 0 ≤ _)⟩)
          dsimp only [Pt.U, Pt.locs, Pt.cells, Pt.slots] at X9 l9 y9 z9 st9 hQ9
          subst l9 y9 z9
          obtain ⟨rfl, N9q, eh9⟩ := hQ9
          have N9 := Fr.app N N9q
          refine oSt st9 ?_
          show oGl p e below (T9.setTop (mkF m 40 #[.val (.ref x), .val (.int fl), .val (.int i), o3] [(.int (Int32.ofNat n)), (.int i)])) _
          by_cases hc40 : i < (Int32.ofNat n)
          · skip
            refine sicN X9 hx (hb hby d4_40) rfl (tlt hc40).2.1 (pc' := 43) ?_
            refine saloadN X9 hx (hb hby d4_43) rfl rfl rfl (pc' := 44) ?_
            refine siloadN X9 hx (hb hby d4_44) rfl rfl (pc' := 45) ?_
            have hlt := Int32.lt_iff_toInt_lt.mp hc40
            rw [own_ofNat (by omega)] at hlt
            have hz10 : n0 ≤ h1.size := by omega
            obtain ⟨cq10, kq10, q10a, q10b, q10c⟩ := isOf hZ eh9 f5
            obtain ⟨_, _, ⟨T10, L10, k10, n10⟩, -, X10, ⟨Lc10, hQ10, l10, y10, z10⟩, st10⟩ := X9.virtualBack hx (y := (⟨"java/lang/String", "charAt", "(I)C"⟩ : MethodName)) (z := (⟨"java/lang/String", "charAt", "(I)C"⟩ : MethodName)) hown (mvT hZ (hw _ (List.mem_of_getElem? (i := 61) rfl))) (mvT hZ (hw _ (List.mem_of_getElem? (i := 62) rfl))) (notFace_of_selects (args := #[]) (mvT hZ (hw _ (List.mem_of_getElem? (i := 64) rfl)))) (mvT hZ (hw _ (List.mem_of_getElem? (i := 64) rfl))) (mvT hZ (hw _ (List.mem_of_getElem? (i := 63) rfl))) (by decide) (backOf (W := 0) (rmCha l Z a0 hw [] x n i f cz sf h1 n0 hz10 f4 SCS hcz SSF hsf SAD SHI SLO f5 f6 hn ⟨by omega, by omega⟩ (hch _ (by omega))) hZ (hw _ (List.mem_of_getElem? (i := 65) rfl)) (hw _ (List.mem_of_getElem? (i := 3) rfl)) (by decide) (by decide)) q10a q10c (g := (mkF m 45 #[.val (.ref x), .val (.int fl), .val (.int i), o3] [(.int i), (.ref x)])) rfl (by rw [hml]; rfl) (Steps.refl _) (argsL := [(.int i)]) (rest := []) (lenOf pd_16 rfl) rfl (by show 2 * 0 + _ ≤ _; exact Nat.le_of_eq rfl) (hb hby d4_45) (fun _ _ => ⟨rfl, eh9, (by decide : 2 + 0 ≤ _), (by decide : 20 + 0 ≤ _)⟩)
            dsimp only [Pt.U, Pt.locs, Pt.cells, Pt.slots] at X10 l10 y10 z10 st10 hQ10
            subst l10 y10 z10
            obtain ⟨rfl, N10q, eh10⟩ := hQ10
            have N10 := Fr.app N9 N10q
            refine oSt st10 ?_
            show oGl p e below (T10.setTop (mkF m 48 #[.val (.ref x), .val (.int fl), .val (.int i), o3] [(.int (f i.toInt.toNat))])) _
            refine sistoreN X10 hx (hb hby d4_48) rfl (oSto rfl hi.2.2.1 rfl) (l' := #[.val (.ref x), .val (.int fl), .val (.int i), .val (.int (f i.toInt.toNat))]) (pc' := 49) ?_
            have j102 : ∀ (fl2 : Int32) (hf2 : (fl2 = 1 ∧ okc (f i.toInt.toNat)) ∨ (fl2 = 0 ∧ ¬ okc (f i.toInt.toNat))) (T : State) (locs : List Loc) (vmv : Vm) (kS : Nat) (X : Stand p l e ({ frames := 5, cells := 2, slots := 20, locals := 66 } : Room) (s.setVm vmv) m #[(.ref x)] below meth c T locs 2 20) (eT : T.heap = h1) (N : Fr n0 locs) (hS : s.Since vmv kS) (hk : kS ≤ h1.size) (hZ : Z.Warmed39 (s.setVm vmv).vm) (hown : (s.setVm vmv).vm.findClass "com/example/concordat/concordat/core/Limits" = some m.cls), oGl p e below (T.setTop (mkF m 102 #[.val (.ref x), .val (.int fl), .val (.int i), .val (.int (f i.toInt.toNat))] [(.int fl2)])) (oFinW s below (Q_rmIsId Z x n f cz sf h0 n0) ({ frames := 5, cells := 2, slots := 20, locals := 66 } : Room).cells ({ frames := 5, cells := 2, slots := 20, locals := 66 } : Room).slots) := by
              intro fl2 hf2 T locs vmv kS X eT N hS hk hZ hown
              refine sistoreN X hx (hb hby d4_102) rfl rfl (l' := #[.val (.ref x), .val (.int fl2), .val (.int i), .val (.int (f i.toInt.toNat))]) (pc' := 103) ?_
              refine siinc X hx (hb hby d4_103) rfl rfl rfl (l' := #[.val (.ref x), .val (.int fl2), .val (.int (i + (1 : Int32))), .val (.int (f i.toInt.toNat))]) (pc' := 106) ?_
              refine sgoto X hx (hb hby d4_106) (by decide) (by decide)  (pc' := 31) ?_
              have hi1 := own_incS (x := i) (by omega)
              exact ih (i + (1 : Int32)) fl2 (.val (.int (f i.toInt.toNat))) _ _ _ _ X eT N hS (by omega) hZ hown (by omega) ⟨by omega, by omega, One.val rfl, by
                have hl := (hi.2.2.2.resolve_right (fun q => hc32 q.1)).2
                rcases hf2 with ⟨q1, q2⟩ | ⟨q1, q2⟩
                · exact Or.inl ⟨q1, hl.1, fun j hj => by
                    by_cases q : j = i.toInt.toNat
                    · subst q; exact q2
                    · exact hl.2 j (by omega)⟩
                · exact Or.inr ⟨q1, fun q => q2 (q.2 _ (by omega))⟩⟩
            refine siloadN X10 hx (hb hby d4_49) rfl rfl (pc' := 50) ?_
            refine sbipush X10 hx (hb hby d4_50) rfl rfl (z := 65) (pc' := 52) ?_
            by_cases hc52 : (f i.toInt.toNat) < (65 : Int32)
            · skip
              refine sicY X10 hx (hb hby d4_52) (by decide) (by decide) (tlt hc52).1 (pc' := 61) ?_
              refine siloadN X10 hx (hb hby d4_61) rfl rfl (pc' := 62) ?_
              refine sbipush X10 hx (hb hby d4_62) rfl rfl (z := 97) (pc' := 64) ?_
              by_cases hc64 : (f i.toInt.toNat) < (97 : Int32)
              · skip
                refine sicY X10 hx (hb hby d4_64) (by decide) (by decide) (tlt hc64).1 (pc' := 73) ?_
                refine siloadN X10 hx (hb hby d4_73) rfl rfl (pc' := 74) ?_
                refine sbipush X10 hx (hb hby d4_74) rfl rfl (z := 48) (pc' := 76) ?_
                by_cases hc76 : (f i.toInt.toNat) < (48 : Int32)
                · skip
                  refine sicY X10 hx (hb hby d4_76) (by decide) (by decide) (tlt hc76).1 (pc' := 85) ?_
                  refine siloadN X10 hx (hb hby d4_85) rfl rfl (pc' := 86) ?_
                  refine sbipush X10 hx (hb hby d4_86) rfl rfl (z := 45) (pc' := 88) ?_
                  by_cases hc88 : (f i.toInt.toNat) = (45 : Int32)
                  · skip
                    refine sicY X10 hx (hb hby d4_88) (by decide) (by decide) (teq hc88).1 (pc' := 97) ?_
                    refine siconst X10 hx (hb hby d4_97) rfl rfl (z := 1) (pc' := 98) ?_
                    refine sgoto X10 hx (hb hby d4_98) (by decide) (by decide)  (pc' := 102) ?_
                    exact j102 (1 : Int32) (Or.inl ⟨rfl, (by first | exact Or.inl ⟨by assumption, by assumption⟩ | exact Or.inr (Or.inl ⟨by assumption, by assumption⟩) | exact Or.inr (Or.inr (Or.inl ⟨by assumption, by assumption⟩)) | exact Or.inr (Or.inr (Or.inr (Or.inl (by assumption)))) | exact Or.inr (Or.inr (Or.inr (Or.inr (by assumption)))))⟩) _ _ _ _ X10 eh10 N10 hS (by omega) hZ hown
                  · skip
                    refine sicN X10 hx (hb hby d4_88) rfl (feq hc88).1 (pc' := 91) ?_
                    refine siloadN X10 hx (hb hby d4_91) rfl rfl (pc' := 92) ?_
                    refine sbipush X10 hx (hb hby d4_92) rfl rfl (z := 95) (pc' := 94) ?_
                    by_cases hc94 : (f i.toInt.toNat) = (95 : Int32)
                    · skip
                      refine sicN X10 hx (hb hby d4_94) rfl (teq hc94).2 (pc' := 97) ?_
                      refine siconst X10 hx (hb hby d4_97) rfl rfl (z := 1) (pc' := 98) ?_
                      refine sgoto X10 hx (hb hby d4_98) (by decide) (by decide)  (pc' := 102) ?_
                      exact j102 (1 : Int32) (Or.inl ⟨rfl, (by first | exact Or.inl ⟨by assumption, by assumption⟩ | exact Or.inr (Or.inl ⟨by assumption, by assumption⟩) | exact Or.inr (Or.inr (Or.inl ⟨by assumption, by assumption⟩)) | exact Or.inr (Or.inr (Or.inr (Or.inl (by assumption)))) | exact Or.inr (Or.inr (Or.inr (Or.inr (by assumption)))))⟩) _ _ _ _ X10 eh10 N10 hS (by omega) hZ hown
                    · skip
                      refine sicY X10 hx (hb hby d4_94) (by decide) (by decide) (feq hc94).2 (pc' := 101) ?_
                      refine siconst X10 hx (hb hby d4_101) rfl rfl (z := 0) (pc' := 102) ?_
                      exact j102 (0 : Int32) (Or.inr ⟨rfl, (fun q => by rcases q with ⟨a, b⟩ | ⟨a, b⟩ | ⟨a, b⟩ | a | a <;> first | exact a (by assumption) | exact b (by assumption) | exact absurd a (by assumption))⟩) _ _ _ _ X10 eh10 N10 hS (by omega) hZ hown
                · skip
                  refine sicN X10 hx (hb hby d4_76) rfl (flt hc76).1 (pc' := 79) ?_
                  refine siloadN X10 hx (hb hby d4_79) rfl rfl (pc' := 80) ?_
                  refine sbipush X10 hx (hb hby d4_80) rfl rfl (z := 57) (pc' := 82) ?_
                  by_cases hc82 : (57 : Int32) < (f i.toInt.toNat)
                  · skip
                    refine sicN X10 hx (hb hby d4_82) rfl (tlt hc82).2.2.2 (pc' := 85) ?_
                    refine siloadN X10 hx (hb hby d4_85) rfl rfl (pc' := 86) ?_
                    refine sbipush X10 hx (hb hby d4_86) rfl rfl (z := 45) (pc' := 88) ?_
                    by_cases hc88 : (f i.toInt.toNat) = (45 : Int32)
                    · skip
                      refine sicY X10 hx (hb hby d4_88) (by decide) (by decide) (teq hc88).1 (pc' := 97) ?_
                      refine siconst X10 hx (hb hby d4_97) rfl rfl (z := 1) (pc' := 98) ?_
                      refine sgoto X10 hx (hb hby d4_98) (by decide) (by decide)  (pc' := 102) ?_
                      exact j102 (1 : Int32) (Or.inl ⟨rfl, (by first | exact Or.inl ⟨by assumption, by assumption⟩ | exact Or.inr (Or.inl ⟨by assumption, by assumption⟩) | exact Or.inr (Or.inr (Or.inl ⟨by assumption, by assumption⟩)) | exact Or.inr (Or.inr (Or.inr (Or.inl (by assumption)))) | exact Or.inr (Or.inr (Or.inr (Or.inr (by assumption)))))⟩) _ _ _ _ X10 eh10 N10 hS (by omega) hZ hown
                    · skip
                      refine sicN X10 hx (hb hby d4_88) rfl (feq hc88).1 (pc' := 91) ?_
                      refine siloadN X10 hx (hb hby d4_91) rfl rfl (pc' := 92) ?_
                      refine sbipush X10 hx (hb hby d4_92) rfl rfl (z := 95) (pc' := 94) ?_
                      by_cases hc94 : (f i.toInt.toNat) = (95 : Int32)
                      · skip
                        refine sicN X10 hx (hb hby d4_94) rfl (teq hc94).2 (pc' := 97) ?_
                        refine siconst X10 hx (hb hby d4_97) rfl rfl (z := 1) (pc' := 98) ?_
                        refine sgoto X10 hx (hb hby d4_98) (by decide) (by decide)  (pc' := 102) ?_
                        exact j102 (1 : Int32) (Or.inl ⟨rfl, (by first | exact Or.inl ⟨by assumption, by assumption⟩ | exact Or.inr (Or.inl ⟨by assumption, by assumption⟩) | exact Or.inr (Or.inr (Or.inl ⟨by assumption, by assumption⟩)) | exact Or.inr (Or.inr (Or.inr (Or.inl (by assumption)))) | exact Or.inr (Or.inr (Or.inr (Or.inr (by assumption)))))⟩) _ _ _ _ X10 eh10 N10 hS (by omega) hZ hown
                      · skip
                        refine sicY X10 hx (hb hby d4_94) (by decide) (by decide) (feq hc94).2 (pc' := 101) ?_
                        refine siconst X10 hx (hb hby d4_101) rfl rfl (z := 0) (pc' := 102) ?_
                        exact j102 (0 : Int32) (Or.inr ⟨rfl, (fun q => by rcases q with ⟨a, b⟩ | ⟨a, b⟩ | ⟨a, b⟩ | a | a <;> first | exact a (by assumption) | exact b (by assumption) | exact absurd a (by assumption))⟩) _ _ _ _ X10 eh10 N10 hS (by omega) hZ hown
                  · skip
                    refine sicY X10 hx (hb hby d4_82) (by decide) (by decide) (flt hc82).2.2.2 (pc' := 97) ?_
                    refine siconst X10 hx (hb hby d4_97) rfl rfl (z := 1) (pc' := 98) ?_
                    refine sgoto X10 hx (hb hby d4_98) (by decide) (by decide)  (pc' := 102) ?_
                    exact j102 (1 : Int32) (Or.inl ⟨rfl, (by first | exact Or.inl ⟨by assumption, by assumption⟩ | exact Or.inr (Or.inl ⟨by assumption, by assumption⟩) | exact Or.inr (Or.inr (Or.inl ⟨by assumption, by assumption⟩)) | exact Or.inr (Or.inr (Or.inr (Or.inl (by assumption)))) | exact Or.inr (Or.inr (Or.inr (Or.inr (by assumption)))))⟩) _ _ _ _ X10 eh10 N10 hS (by omega) hZ hown
              · skip
                refine sicN X10 hx (hb hby d4_64) rfl (flt hc64).1 (pc' := 67) ?_
                refine siloadN X10 hx (hb hby d4_67) rfl rfl (pc' := 68) ?_
                refine sbipush X10 hx (hb hby d4_68) rfl rfl (z := 122) (pc' := 70) ?_
                by_cases hc70 : (122 : Int32) < (f i.toInt.toNat)
                · skip
                  refine sicN X10 hx (hb hby d4_70) rfl (tlt hc70).2.2.2 (pc' := 73) ?_
                  refine siloadN X10 hx (hb hby d4_73) rfl rfl (pc' := 74) ?_
                  refine sbipush X10 hx (hb hby d4_74) rfl rfl (z := 48) (pc' := 76) ?_
                  by_cases hc76 : (f i.toInt.toNat) < (48 : Int32)
                  · skip
                    refine sicY X10 hx (hb hby d4_76) (by decide) (by decide) (tlt hc76).1 (pc' := 85) ?_
                    refine siloadN X10 hx (hb hby d4_85) rfl rfl (pc' := 86) ?_
                    refine sbipush X10 hx (hb hby d4_86) rfl rfl (z := 45) (pc' := 88) ?_
                    by_cases hc88 : (f i.toInt.toNat) = (45 : Int32)
                    · skip
                      refine sicY X10 hx (hb hby d4_88) (by decide) (by decide) (teq hc88).1 (pc' := 97) ?_
                      refine siconst X10 hx (hb hby d4_97) rfl rfl (z := 1) (pc' := 98) ?_
                      refine sgoto X10 hx (hb hby d4_98) (by decide) (by decide)  (pc' := 102) ?_
                      exact j102 (1 : Int32) (Or.inl ⟨rfl, (by first | exact Or.inl ⟨by assumption, by assumption⟩ | exact Or.inr (Or.inl ⟨by assumption, by assumption⟩) | exact Or.inr (Or.inr (Or.inl ⟨by assumption, by assumption⟩)) | exact Or.inr (Or.inr (Or.inr (Or.inl (by assumption)))) | exact Or.inr (Or.inr (Or.inr (Or.inr (by assumption)))))⟩) _ _ _ _ X10 eh10 N10 hS (by omega) hZ hown
                    · skip
                      refine sicN X10 hx (hb hby d4_88) rfl (feq hc88).1 (pc' := 91) ?_
                      refine siloadN X10 hx (hb hby d4_91) rfl rfl (pc' := 92) ?_
                      refine sbipush X10 hx (hb hby d4_92) rfl rfl (z := 95) (pc' := 94) ?_
                      by_cases hc94 : (f i.toInt.toNat) = (95 : Int32)
                      · skip
                        refine sicN X10 hx (hb hby d4_94) rfl (teq hc94).2 (pc' := 97) ?_
                        refine siconst X10 hx (hb hby d4_97) rfl rfl (z := 1) (pc' := 98) ?_
                        refine sgoto X10 hx (hb hby d4_98) (by decide) (by decide)  (pc' := 102) ?_
                        exact j102 (1 : Int32) (Or.inl ⟨rfl, (by first | exact Or.inl ⟨by assumption, by assumption⟩ | exact Or.inr (Or.inl ⟨by assumption, by assumption⟩) | exact Or.inr (Or.inr (Or.inl ⟨by assumption, by assumption⟩)) | exact Or.inr (Or.inr (Or.inr (Or.inl (by assumption)))) | exact Or.inr (Or.inr (Or.inr (Or.inr (by assumption)))))⟩) _ _ _ _ X10 eh10 N10 hS (by omega) hZ hown
                      · skip
                        refine sicY X10 hx (hb hby d4_94) (by decide) (by decide) (feq hc94).2 (pc' := 101) ?_
                        refine siconst X10 hx (hb hby d4_101) rfl rfl (z := 0) (pc' := 102) ?_
                        exact j102 (0 : Int32) (Or.inr ⟨rfl, (fun q => by rcases q with ⟨a, b⟩ | ⟨a, b⟩ | ⟨a, b⟩ | a | a <;> first | exact a (by assumption) | exact b (by assumption) | exact absurd a (by assumption))⟩) _ _ _ _ X10 eh10 N10 hS (by omega) hZ hown
                  · skip
                    refine sicN X10 hx (hb hby d4_76) rfl (flt hc76).1 (pc' := 79) ?_
                    refine siloadN X10 hx (hb hby d4_79) rfl rfl (pc' := 80) ?_
                    refine sbipush X10 hx (hb hby d4_80) rfl rfl (z := 57) (pc' := 82) ?_
                    by_cases hc82 : (57 : Int32) < (f i.toInt.toNat)
                    · skip
                      refine sicN X10 hx (hb hby d4_82) rfl (tlt hc82).2.2.2 (pc' := 85) ?_
                      refine siloadN X10 hx (hb hby d4_85) rfl rfl (pc' := 86) ?_
                      refine sbipush X10 hx (hb hby d4_86) rfl rfl (z := 45) (pc' := 88) ?_
                      by_cases hc88 : (f i.toInt.toNat) = (45 : Int32)
                      · skip
                        refine sicY X10 hx (hb hby d4_88) (by decide) (by decide) (teq hc88).1 (pc' := 97) ?_
                        refine siconst X10 hx (hb hby d4_97) rfl rfl (z := 1) (pc' := 98) ?_
                        refine sgoto X10 hx (hb hby d4_98) (by decide) (by decide)  (pc' := 102) ?_
                        exact j102 (1 : Int32) (Or.inl ⟨rfl, (by first | exact Or.inl ⟨by assumption, by assumption⟩ | exact Or.inr (Or.inl ⟨by assumption, by assumption⟩) | exact Or.inr (Or.inr (Or.inl ⟨by assumption, by assumption⟩)) | exact Or.inr (Or.inr (Or.inr (Or.inl (by assumption)))) | exact Or.inr (Or.inr (Or.inr (Or.inr (by assumption)))))⟩) _ _ _ _ X10 eh10 N10 hS (by omega) hZ hown
                      · skip
                        refine sicN X10 hx (hb hby d4_88) rfl (feq hc88).1 (pc' := 91) ?_
                        refine siloadN X10 hx (hb hby d4_91) rfl rfl (pc' := 92) ?_
                        refine sbipush X10 hx (hb hby d4_92) rfl rfl (z := 95) (pc' := 94) ?_
                        by_cases hc94 : (f i.toInt.toNat) = (95 : Int32)
                        · skip
                          refine sicN X10 hx (hb hby d4_94) rfl (teq hc94).2 (pc' := 97) ?_
                          refine siconst X10 hx (hb hby d4_97) rfl rfl (z := 1) (pc' := 98) ?_
                          refine sgoto X10 hx (hb hby d4_98) (by decide) (by decide)  (pc' := 102) ?_
                          exact j102 (1 : Int32) (Or.inl ⟨rfl, (by first | exact Or.inl ⟨by assumption, by assumption⟩ | exact Or.inr (Or.inl ⟨by assumption, by assumption⟩) | exact Or.inr (Or.inr (Or.inl ⟨by assumption, by assumption⟩)) | exact Or.inr (Or.inr (Or.inr (Or.inl (by assumption)))) | exact Or.inr (Or.inr (Or.inr (Or.inr (by assumption)))))⟩) _ _ _ _ X10 eh10 N10 hS (by omega) hZ hown
                        · skip
                          refine sicY X10 hx (hb hby d4_94) (by decide) (by decide) (feq hc94).2 (pc' := 101) ?_
                          refine siconst X10 hx (hb hby d4_101) rfl rfl (z := 0) (pc' := 102) ?_
                          exact j102 (0 : Int32) (Or.inr ⟨rfl, (fun q => by rcases q with ⟨a, b⟩ | ⟨a, b⟩ | ⟨a, b⟩ | a | a <;> first | exact a (by assumption) | exact b (by assumption) | exact absurd a (by assumption))⟩) _ _ _ _ X10 eh10 N10 hS (by omega) hZ hown
                    · skip
                      refine sicY X10 hx (hb hby d4_82) (by decide) (by decide) (flt hc82).2.2.2 (pc' := 97) ?_
                      refine siconst X10 hx (hb hby d4_97) rfl rfl (z := 1) (pc' := 98) ?_
                      refine sgoto X10 hx (hb hby d4_98) (by decide) (by decide)  (pc' := 102) ?_
                      exact j102 (1 : Int32) (Or.inl ⟨rfl, (by first | exact Or.inl ⟨by assumption, by assumption⟩ | exact Or.inr (Or.inl ⟨by assumption, by assumption⟩) | exact Or.inr (Or.inr (Or.inl ⟨by assumption, by assumption⟩)) | exact Or.inr (Or.inr (Or.inr (Or.inl (by assumption)))) | exact Or.inr (Or.inr (Or.inr (Or.inr (by assumption)))))⟩) _ _ _ _ X10 eh10 N10 hS (by omega) hZ hown
                · skip
                  refine sicY X10 hx (hb hby d4_70) (by decide) (by decide) (flt hc70).2.2.2 (pc' := 97) ?_
                  refine siconst X10 hx (hb hby d4_97) rfl rfl (z := 1) (pc' := 98) ?_
                  refine sgoto X10 hx (hb hby d4_98) (by decide) (by decide)  (pc' := 102) ?_
                  exact j102 (1 : Int32) (Or.inl ⟨rfl, (by first | exact Or.inl ⟨by assumption, by assumption⟩ | exact Or.inr (Or.inl ⟨by assumption, by assumption⟩) | exact Or.inr (Or.inr (Or.inl ⟨by assumption, by assumption⟩)) | exact Or.inr (Or.inr (Or.inr (Or.inl (by assumption)))) | exact Or.inr (Or.inr (Or.inr (Or.inr (by assumption)))))⟩) _ _ _ _ X10 eh10 N10 hS (by omega) hZ hown
            · skip
              refine sicN X10 hx (hb hby d4_52) rfl (flt hc52).1 (pc' := 55) ?_
              refine siloadN X10 hx (hb hby d4_55) rfl rfl (pc' := 56) ?_
              refine sbipush X10 hx (hb hby d4_56) rfl rfl (z := 90) (pc' := 58) ?_
              by_cases hc58 : (90 : Int32) < (f i.toInt.toNat)
              · skip
                refine sicN X10 hx (hb hby d4_58) rfl (tlt hc58).2.2.2 (pc' := 61) ?_
                refine siloadN X10 hx (hb hby d4_61) rfl rfl (pc' := 62) ?_
                refine sbipush X10 hx (hb hby d4_62) rfl rfl (z := 97) (pc' := 64) ?_
                by_cases hc64 : (f i.toInt.toNat) < (97 : Int32)
                · skip
                  refine sicY X10 hx (hb hby d4_64) (by decide) (by decide) (tlt hc64).1 (pc' := 73) ?_
                  refine siloadN X10 hx (hb hby d4_73) rfl rfl (pc' := 74) ?_
                  refine sbipush X10 hx (hb hby d4_74) rfl rfl (z := 48) (pc' := 76) ?_
                  by_cases hc76 : (f i.toInt.toNat) < (48 : Int32)
                  · skip
                    refine sicY X10 hx (hb hby d4_76) (by decide) (by decide) (tlt hc76).1 (pc' := 85) ?_
                    refine siloadN X10 hx (hb hby d4_85) rfl rfl (pc' := 86) ?_
                    refine sbipush X10 hx (hb hby d4_86) rfl rfl (z := 45) (pc' := 88) ?_
                    by_cases hc88 : (f i.toInt.toNat) = (45 : Int32)
                    · skip
                      refine sicY X10 hx (hb hby d4_88) (by decide) (by decide) (teq hc88).1 (pc' := 97) ?_
                      refine siconst X10 hx (hb hby d4_97) rfl rfl (z := 1) (pc' := 98) ?_
                      refine sgoto X10 hx (hb hby d4_98) (by decide) (by decide)  (pc' := 102) ?_
                      exact j102 (1 : Int32) (Or.inl ⟨rfl, (by first | exact Or.inl ⟨by assumption, by assumption⟩ | exact Or.inr (Or.inl ⟨by assumption, by assumption⟩) | exact Or.inr (Or.inr (Or.inl ⟨by assumption, by assumption⟩)) | exact Or.inr (Or.inr (Or.inr (Or.inl (by assumption)))) | exact Or.inr (Or.inr (Or.inr (Or.inr (by assumption)))))⟩) _ _ _ _ X10 eh10 N10 hS (by omega) hZ hown
                    · skip
                      refine sicN X10 hx (hb hby d4_88) rfl (feq hc88).1 (pc' := 91) ?_
                      refine siloadN X10 hx (hb hby d4_91) rfl rfl (pc' := 92) ?_
                      refine sbipush X10 hx (hb hby d4_92) rfl rfl (z := 95) (pc' := 94) ?_
                      by_cases hc94 : (f i.toInt.toNat) = (95 : Int32)
                      · skip
                        refine sicN X10 hx (hb hby d4_94) rfl (teq hc94).2 (pc' := 97) ?_
                        refine siconst X10 hx (hb hby d4_97) rfl rfl (z := 1) (pc' := 98) ?_
                        refine sgoto X10 hx (hb hby d4_98) (by decide) (by decide)  (pc' := 102) ?_
                        exact j102 (1 : Int32) (Or.inl ⟨rfl, (by first | exact Or.inl ⟨by assumption, by assumption⟩ | exact Or.inr (Or.inl ⟨by assumption, by assumption⟩) | exact Or.inr (Or.inr (Or.inl ⟨by assumption, by assumption⟩)) | exact Or.inr (Or.inr (Or.inr (Or.inl (by assumption)))) | exact Or.inr (Or.inr (Or.inr (Or.inr (by assumption)))))⟩) _ _ _ _ X10 eh10 N10 hS (by omega) hZ hown
                      · skip
                        refine sicY X10 hx (hb hby d4_94) (by decide) (by decide) (feq hc94).2 (pc' := 101) ?_
                        refine siconst X10 hx (hb hby d4_101) rfl rfl (z := 0) (pc' := 102) ?_
                        exact j102 (0 : Int32) (Or.inr ⟨rfl, (fun q => by rcases q with ⟨a, b⟩ | ⟨a, b⟩ | ⟨a, b⟩ | a | a <;> first | exact a (by assumption) | exact b (by assumption) | exact absurd a (by assumption))⟩) _ _ _ _ X10 eh10 N10 hS (by omega) hZ hown
                  · skip
                    refine sicN X10 hx (hb hby d4_76) rfl (flt hc76).1 (pc' := 79) ?_
                    refine siloadN X10 hx (hb hby d4_79) rfl rfl (pc' := 80) ?_
                    refine sbipush X10 hx (hb hby d4_80) rfl rfl (z := 57) (pc' := 82) ?_
                    by_cases hc82 : (57 : Int32) < (f i.toInt.toNat)
                    · skip
                      refine sicN X10 hx (hb hby d4_82) rfl (tlt hc82).2.2.2 (pc' := 85) ?_
                      refine siloadN X10 hx (hb hby d4_85) rfl rfl (pc' := 86) ?_
                      refine sbipush X10 hx (hb hby d4_86) rfl rfl (z := 45) (pc' := 88) ?_
                      by_cases hc88 : (f i.toInt.toNat) = (45 : Int32)
                      · skip
                        refine sicY X10 hx (hb hby d4_88) (by decide) (by decide) (teq hc88).1 (pc' := 97) ?_
                        refine siconst X10 hx (hb hby d4_97) rfl rfl (z := 1) (pc' := 98) ?_
                        refine sgoto X10 hx (hb hby d4_98) (by decide) (by decide)  (pc' := 102) ?_
                        exact j102 (1 : Int32) (Or.inl ⟨rfl, (by first | exact Or.inl ⟨by assumption, by assumption⟩ | exact Or.inr (Or.inl ⟨by assumption, by assumption⟩) | exact Or.inr (Or.inr (Or.inl ⟨by assumption, by assumption⟩)) | exact Or.inr (Or.inr (Or.inr (Or.inl (by assumption)))) | exact Or.inr (Or.inr (Or.inr (Or.inr (by assumption)))))⟩) _ _ _ _ X10 eh10 N10 hS (by omega) hZ hown
                      · skip
                        refine sicN X10 hx (hb hby d4_88) rfl (feq hc88).1 (pc' := 91) ?_
                        refine siloadN X10 hx (hb hby d4_91) rfl rfl (pc' := 92) ?_
                        refine sbipush X10 hx (hb hby d4_92) rfl rfl (z := 95) (pc' := 94) ?_
                        by_cases hc94 : (f i.toInt.toNat) = (95 : Int32)
                        · skip
                          refine sicN X10 hx (hb hby d4_94) rfl (teq hc94).2 (pc' := 97) ?_
                          refine siconst X10 hx (hb hby d4_97) rfl rfl (z := 1) (pc' := 98) ?_
                          refine sgoto X10 hx (hb hby d4_98) (by decide) (by decide)  (pc' := 102) ?_
                          exact j102 (1 : Int32) (Or.inl ⟨rfl, (by first | exact Or.inl ⟨by assumption, by assumption⟩ | exact Or.inr (Or.inl ⟨by assumption, by assumption⟩) | exact Or.inr (Or.inr (Or.inl ⟨by assumption, by assumption⟩)) | exact Or.inr (Or.inr (Or.inr (Or.inl (by assumption)))) | exact Or.inr (Or.inr (Or.inr (Or.inr (by assumption)))))⟩) _ _ _ _ X10 eh10 N10 hS (by omega) hZ hown
                        · skip
                          refine sicY X10 hx (hb hby d4_94) (by decide) (by decide) (feq hc94).2 (pc' := 101) ?_
                          refine siconst X10 hx (hb hby d4_101) rfl rfl (z := 0) (pc' := 102) ?_
                          exact j102 (0 : Int32) (Or.inr ⟨rfl, (fun q => by rcases q with ⟨a, b⟩ | ⟨a, b⟩ | ⟨a, b⟩ | a | a <;> first | exact a (by assumption) | exact b (by assumption) | exact absurd a (by assumption))⟩) _ _ _ _ X10 eh10 N10 hS (by omega) hZ hown
                    · skip
                      refine sicY X10 hx (hb hby d4_82) (by decide) (by decide) (flt hc82).2.2.2 (pc' := 97) ?_
                      refine siconst X10 hx (hb hby d4_97) rfl rfl (z := 1) (pc' := 98) ?_
                      refine sgoto X10 hx (hb hby d4_98) (by decide) (by decide)  (pc' := 102) ?_
                      exact j102 (1 : Int32) (Or.inl ⟨rfl, (by first | exact Or.inl ⟨by assumption, by assumption⟩ | exact Or.inr (Or.inl ⟨by assumption, by assumption⟩) | exact Or.inr (Or.inr (Or.inl ⟨by assumption, by assumption⟩)) | exact Or.inr (Or.inr (Or.inr (Or.inl (by assumption)))) | exact Or.inr (Or.inr (Or.inr (Or.inr (by assumption)))))⟩) _ _ _ _ X10 eh10 N10 hS (by omega) hZ hown
                · skip
                  refine sicN X10 hx (hb hby d4_64) rfl (flt hc64).1 (pc' := 67) ?_
                  refine siloadN X10 hx (hb hby d4_67) rfl rfl (pc' := 68) ?_
                  refine sbipush X10 hx (hb hby d4_68) rfl rfl (z := 122) (pc' := 70) ?_
                  by_cases hc70 : (122 : Int32) < (f i.toInt.toNat)
                  · skip
                    refine sicN X10 hx (hb hby d4_70) rfl (tlt hc70).2.2.2 (pc' := 73) ?_
                    refine siloadN X10 hx (hb hby d4_73) rfl rfl (pc' := 74) ?_
                    refine sbipush X10 hx (hb hby d4_74) rfl rfl (z := 48) (pc' := 76) ?_
                    by_cases hc76 : (f i.toInt.toNat) < (48 : Int32)
                    · skip
                      refine sicY X10 hx (hb hby d4_76) (by decide) (by decide) (tlt hc76).1 (pc' := 85) ?_
                      refine siloadN X10 hx (hb hby d4_85) rfl rfl (pc' := 86) ?_
                      refine sbipush X10 hx (hb hby d4_86) rfl rfl (z := 45) (pc' := 88) ?_
                      by_cases hc88 : (f i.toInt.toNat) = (45 : Int32)
                      · skip
                        refine sicY X10 hx (hb hby d4_88) (by decide) (by decide) (teq hc88).1 (pc' := 97) ?_
                        refine siconst X10 hx (hb hby d4_97) rfl rfl (z := 1) (pc' := 98) ?_
                        refine sgoto X10 hx (hb hby d4_98) (by decide) (by decide)  (pc' := 102) ?_
                        exact j102 (1 : Int32) (Or.inl ⟨rfl, (by first | exact Or.inl ⟨by assumption, by assumption⟩ | exact Or.inr (Or.inl ⟨by assumption, by assumption⟩) | exact Or.inr (Or.inr (Or.inl ⟨by assumption, by assumption⟩)) | exact Or.inr (Or.inr (Or.inr (Or.inl (by assumption)))) | exact Or.inr (Or.inr (Or.inr (Or.inr (by assumption)))))⟩) _ _ _ _ X10 eh10 N10 hS (by omega) hZ hown
                      · skip
                        refine sicN X10 hx (hb hby d4_88) rfl (feq hc88).1 (pc' := 91) ?_
                        refine siloadN X10 hx (hb hby d4_91) rfl rfl (pc' := 92) ?_
                        refine sbipush X10 hx (hb hby d4_92) rfl rfl (z := 95) (pc' := 94) ?_
                        by_cases hc94 : (f i.toInt.toNat) = (95 : Int32)
                        · skip
                          refine sicN X10 hx (hb hby d4_94) rfl (teq hc94).2 (pc' := 97) ?_
                          refine siconst X10 hx (hb hby d4_97) rfl rfl (z := 1) (pc' := 98) ?_
                          refine sgoto X10 hx (hb hby d4_98) (by decide) (by decide)  (pc' := 102) ?_
                          exact j102 (1 : Int32) (Or.inl ⟨rfl, (by first | exact Or.inl ⟨by assumption, by assumption⟩ | exact Or.inr (Or.inl ⟨by assumption, by assumption⟩) | exact Or.inr (Or.inr (Or.inl ⟨by assumption, by assumption⟩)) | exact Or.inr (Or.inr (Or.inr (Or.inl (by assumption)))) | exact Or.inr (Or.inr (Or.inr (Or.inr (by assumption)))))⟩) _ _ _ _ X10 eh10 N10 hS (by omega) hZ hown
                        · skip
                          refine sicY X10 hx (hb hby d4_94) (by decide) (by decide) (feq hc94).2 (pc' := 101) ?_
                          refine siconst X10 hx (hb hby d4_101) rfl rfl (z := 0) (pc' := 102) ?_
                          exact j102 (0 : Int32) (Or.inr ⟨rfl, (fun q => by rcases q with ⟨a, b⟩ | ⟨a, b⟩ | ⟨a, b⟩ | a | a <;> first | exact a (by assumption) | exact b (by assumption) | exact absurd a (by assumption))⟩) _ _ _ _ X10 eh10 N10 hS (by omega) hZ hown
                    · skip
                      refine sicN X10 hx (hb hby d4_76) rfl (flt hc76).1 (pc' := 79) ?_
                      refine siloadN X10 hx (hb hby d4_79) rfl rfl (pc' := 80) ?_
                      refine sbipush X10 hx (hb hby d4_80) rfl rfl (z := 57) (pc' := 82) ?_
                      by_cases hc82 : (57 : Int32) < (f i.toInt.toNat)
                      · skip
                        refine sicN X10 hx (hb hby d4_82) rfl (tlt hc82).2.2.2 (pc' := 85) ?_
                        refine siloadN X10 hx (hb hby d4_85) rfl rfl (pc' := 86) ?_
                        refine sbipush X10 hx (hb hby d4_86) rfl rfl (z := 45) (pc' := 88) ?_
                        by_cases hc88 : (f i.toInt.toNat) = (45 : Int32)
                        · skip
                          refine sicY X10 hx (hb hby d4_88) (by decide) (by decide) (teq hc88).1 (pc' := 97) ?_
                          refine siconst X10 hx (hb hby d4_97) rfl rfl (z := 1) (pc' := 98) ?_
                          refine sgoto X10 hx (hb hby d4_98) (by decide) (by decide)  (pc' := 102) ?_
                          exact j102 (1 : Int32) (Or.inl ⟨rfl, (by first | exact Or.inl ⟨by assumption, by assumption⟩ | exact Or.inr (Or.inl ⟨by assumption, by assumption⟩) | exact Or.inr (Or.inr (Or.inl ⟨by assumption, by assumption⟩)) | exact Or.inr (Or.inr (Or.inr (Or.inl (by assumption)))) | exact Or.inr (Or.inr (Or.inr (Or.inr (by assumption)))))⟩) _ _ _ _ X10 eh10 N10 hS (by omega) hZ hown
                        · skip
                          refine sicN X10 hx (hb hby d4_88) rfl (feq hc88).1 (pc' := 91) ?_
                          refine siloadN X10 hx (hb hby d4_91) rfl rfl (pc' := 92) ?_
                          refine sbipush X10 hx (hb hby d4_92) rfl rfl (z := 95) (pc' := 94) ?_
                          by_cases hc94 : (f i.toInt.toNat) = (95 : Int32)
                          · skip
                            refine sicN X10 hx (hb hby d4_94) rfl (teq hc94).2 (pc' := 97) ?_
                            refine siconst X10 hx (hb hby d4_97) rfl rfl (z := 1) (pc' := 98) ?_
                            refine sgoto X10 hx (hb hby d4_98) (by decide) (by decide)  (pc' := 102) ?_
                            exact j102 (1 : Int32) (Or.inl ⟨rfl, (by first | exact Or.inl ⟨by assumption, by assumption⟩ | exact Or.inr (Or.inl ⟨by assumption, by assumption⟩) | exact Or.inr (Or.inr (Or.inl ⟨by assumption, by assumption⟩)) | exact Or.inr (Or.inr (Or.inr (Or.inl (by assumption)))) | exact Or.inr (Or.inr (Or.inr (Or.inr (by assumption)))))⟩) _ _ _ _ X10 eh10 N10 hS (by omega) hZ hown
                          · skip
                            refine sicY X10 hx (hb hby d4_94) (by decide) (by decide) (feq hc94).2 (pc' := 101) ?_
                            refine siconst X10 hx (hb hby d4_101) rfl rfl (z := 0) (pc' := 102) ?_
                            exact j102 (0 : Int32) (Or.inr ⟨rfl, (fun q => by rcases q with ⟨a, b⟩ | ⟨a, b⟩ | ⟨a, b⟩ | a | a <;> first | exact a (by assumption) | exact b (by assumption) | exact absurd a (by assumption))⟩) _ _ _ _ X10 eh10 N10 hS (by omega) hZ hown
                      · skip
                        refine sicY X10 hx (hb hby d4_82) (by decide) (by decide) (flt hc82).2.2.2 (pc' := 97) ?_
                        refine siconst X10 hx (hb hby d4_97) rfl rfl (z := 1) (pc' := 98) ?_
                        refine sgoto X10 hx (hb hby d4_98) (by decide) (by decide)  (pc' := 102) ?_
                        exact j102 (1 : Int32) (Or.inl ⟨rfl, (by first | exact Or.inl ⟨by assumption, by assumption⟩ | exact Or.inr (Or.inl ⟨by assumption, by assumption⟩) | exact Or.inr (Or.inr (Or.inl ⟨by assumption, by assumption⟩)) | exact Or.inr (Or.inr (Or.inr (Or.inl (by assumption)))) | exact Or.inr (Or.inr (Or.inr (Or.inr (by assumption)))))⟩) _ _ _ _ X10 eh10 N10 hS (by omega) hZ hown
                  · skip
                    refine sicY X10 hx (hb hby d4_70) (by decide) (by decide) (flt hc70).2.2.2 (pc' := 97) ?_
                    refine siconst X10 hx (hb hby d4_97) rfl rfl (z := 1) (pc' := 98) ?_
                    refine sgoto X10 hx (hb hby d4_98) (by decide) (by decide)  (pc' := 102) ?_
                    exact j102 (1 : Int32) (Or.inl ⟨rfl, (by first | exact Or.inl ⟨by assumption, by assumption⟩ | exact Or.inr (Or.inl ⟨by assumption, by assumption⟩) | exact Or.inr (Or.inr (Or.inl ⟨by assumption, by assumption⟩)) | exact Or.inr (Or.inr (Or.inr (Or.inl (by assumption)))) | exact Or.inr (Or.inr (Or.inr (Or.inr (by assumption)))))⟩) _ _ _ _ X10 eh10 N10 hS (by omega) hZ hown
              · skip
                refine sicY X10 hx (hb hby d4_58) (by decide) (by decide) (flt hc58).2.2.2 (pc' := 97) ?_
                refine siconst X10 hx (hb hby d4_97) rfl rfl (z := 1) (pc' := 98) ?_
                refine sgoto X10 hx (hb hby d4_98) (by decide) (by decide)  (pc' := 102) ?_
                exact j102 (1 : Int32) (Or.inl ⟨rfl, (by first | exact Or.inl ⟨by assumption, by assumption⟩ | exact Or.inr (Or.inl ⟨by assumption, by assumption⟩) | exact Or.inr (Or.inr (Or.inl ⟨by assumption, by assumption⟩)) | exact Or.inr (Or.inr (Or.inr (Or.inl (by assumption)))) | exact Or.inr (Or.inr (Or.inr (Or.inr (by assumption)))))⟩) _ _ _ _ X10 eh10 N10 hS (by omega) hZ hown
          · skip
            refine sicY X9 hx (hb hby d4_40) (by decide) (by decide) (flt hc40).2.1 (pc' := 109) ?_
            refine siloadN X9 hx (hb hby d4_109) rfl rfl (pc' := 110) ?_
            have kp11 : Keep h0 h1 [] := ((Keep.refl h0 []).ext E1)
            have hge : ¬ i.toInt < (Int32.ofNat n).toInt := fun q => hc40 (Int32.lt_iff_toInt_lt.mpr q)
            rw [own_ofNat (by omega)] at hge
            have hl := hi.2.2.2.resolve_right (fun q => hc32 q.1)
            refine oRetNW (t := .boolean) X9 hS (by rw [eh9]; omega) hx Bd.notSynchronized Bd.returns (by simp) (hb hby d4_110) (by decide) (by decide) ?_
            show Q_rmIsId Z x n f cz sf h0 n0 _ T9.heap _
            rw [eh9]
            exact ⟨fl, congrArg (fun z => some (Value.int z)) (own_nb hi.2.2.2), N9, kp11, Or.inl ⟨hl.1, hl.2.1, fun j hj => hl.2.2 j (by omega)⟩⟩
    exact lp31 _ 0 fl .unset _ _ _ _ X eT N hS (by omega) hZ hown (Nat.lt_succ_self _) ⟨by decide, by have e0 : (0 : Int32).toInt = 0 := rfl; omega, One.u, by
      rcases hfl with ⟨q1, q2⟩ | ⟨q1, q2⟩
      · exact Or.inl ⟨q1, q2, fun j hj => by have e0 : (0 : Int32).toInt = 0 := rfl; omega⟩
      · exact Or.inr ⟨q1, fun q => q2 q.1⟩⟩
  by_cases hc11 : r7 = (0 : Int32)
  · skip
    refine sifN X7 hx (hb hby d4_11) rfl (teq hc11).2 (pc' := 14) ?_
    refine saloadN X7 hx (hb hby d4_14) rfl rfl rfl (pc' := 15) ?_
    have hz12 : n0 ≤ h1.size := by omega
    obtain ⟨cq12, kq12, q12a, q12b, q12c⟩ := isOf hZ eh7 f5
    obtain ⟨_, _, ⟨T12, L12, k12, n12⟩, -, X12, ⟨Lc12, hQ12, l12, y12, z12⟩, st12⟩ := X7.virtualBack hx (y := (⟨"java/lang/String", "length", "()I"⟩ : MethodName)) (z := (⟨"java/lang/String", "length", "()I"⟩ : MethodName)) hown (mvT hZ (hw _ (List.mem_of_getElem? (i := 47) rfl))) (mvT hZ (hw _ (List.mem_of_getElem? (i := 48) rfl))) (notFace_of_selects (args := #[]) (mvT hZ (hw _ (List.mem_of_getElem? (i := 50) rfl)))) (mvT hZ (hw _ (List.mem_of_getElem? (i := 50) rfl))) (mvT hZ (hw _ (List.mem_of_getElem? (i := 49) rfl))) (by decide) (backOf (W := 0) (rmLen l Z a0 hw [] x n f cz sf h1 n0 hz12 f4 SCS hcz SSF hsf SAD SHI SLO f5 f6 hn) hZ (hw _ (List.mem_of_getElem? (i := 51) rfl)) (hw _ (List.mem_of_getElem? (i := 3) rfl)) (by decide) (by decide)) q12a q12c (g := (mkF m 15 #[.val (.ref x), .unset, .unset, .unset] [(.ref x)])) rfl (by rw [hml]; rfl) (Steps.refl _) (argsL := []) (rest := []) (lenOf pd_15 rfl) rfl (by show 2 * 0 + _ ≤ _; exact Nat.le_of_eq rfl) (hb hby d4_15) (fun _ _ => ⟨rfl, eh7, (by decide : 2 + 0 ≤ _), (by decide : 20 + 0 ≤ _)⟩)
    dsimp only [Pt.U, Pt.locs, Pt.cells, Pt.slots] at X12 l12 y12 z12 st12 hQ12
    subst l12 y12 z12
    obtain ⟨rfl, N12q, eh12⟩ := hQ12
    have N12 := Fr.app N7 N12q
    refine oSt st12 ?_
    show oGl p e below (T12.setTop (mkF m 18 #[.val (.ref x), .unset, .unset, .unset] [(.int (Int32.ofNat n))])) _
    refine sbipush X12 hx (hb hby d4_18) rfl rfl (z := 64) (pc' := 20) ?_
    by_cases hc20 : (64 : Int32) < (Int32.ofNat n)
    · skip
      refine sicY X12 hx (hb hby d4_20) (by decide) (by decide) (tlt hc20).2.2.1 (pc' := 27) ?_
      refine siconst X12 hx (hb hby d4_27) rfl rfl (z := 0) (pc' := 28) ?_
      exact j28 (0 : Int32) (Or.inr ⟨rfl, fun q => by
        rw [Int32.lt_iff_toInt_lt, own_ofNat (by omega)] at hc20
        have e0 : (64 : Int32).toInt = 64 := rfl
        omega⟩) _ _ _ _ X12 eh12 N12 hS (by omega) hZ hown
    · skip
      refine sicN X12 hx (hb hby d4_20) rfl (flt hc20).2.2.1 (pc' := 23) ?_
      refine siconst X12 hx (hb hby d4_23) rfl rfl (z := 1) (pc' := 24) ?_
      refine sgoto X12 hx (hb hby d4_24) (by decide) (by decide)  (pc' := 28) ?_
      exact j28 (1 : Int32) (Or.inl ⟨rfl, by
        have q1 := (pq7.resolve_left (fun q => absurd (hc11.symm.trans q.1) (by decide))).2
        rw [Int32.lt_iff_toInt_lt, own_ofNat (by omega)] at hc20
        have e0 : (64 : Int32).toInt = 64 := rfl
        omega⟩) _ _ _ _ X12 eh12 N12 hS (by omega) hZ hown
  · skip
    refine sifY X7 hx (hb hby d4_11) (by decide) (by decide) (feq hc11).2 (pc' := 27) ?_
    refine siconst X7 hx (hb hby d4_27) rfl rfl (z := 0) (pc' := 28) ?_
    exact j28 (0 : Int32) (Or.inr ⟨rfl, fun q => by
      have q1 := (pq7.resolve_right (fun q => hc11 q.1)).2
      omega⟩) _ _ _ _ X7 eh7 N7 hS (by omega) hZ hown
def F4 (a b c d : Int32) : Nat → Int32 := fun j => if j = 0 then a else if j = 1 then b else if j = 2 then c else d
def FL (a b c d : Int32) : Nat → Int32 := fun j => if j = 0 then d else if j = 63 then c else if j % 2 = 1 then b else a
def oPre (F : Nat → Int32) (k : Nat) : Nat → Int32 := fun j => if j < k then F j else 0
theorem oPre_up {F : Nat → Int32} {k : Nat} {x : Int32} (h : x = F k) (j : Nat) : oUp (oPre F k) k x j = oPre F (k + 1) j := by
  by_cases q : j = k
  · subst q; rw [oUp_hit]; simp [oPre, h]
  · rw [oUp_miss q]; unfold oPre
    by_cases q1 : j < k
    · rw [if_pos q1, if_pos (by omega)]
    · rw [if_neg q1, if_neg (by omega)]
theorem oPre_0 {F : Nat → Int32} (j : Nat) : (0 : Int32) = oPre F 0 j := (if_neg (Nat.not_lt_zero _)).symm
theorem oPre_n {F : Nat → Int32} {n j : Nat} (h : j < n) : oPre F n j = F j := if_pos h
theorem all4 {P : Int32 → Prop} {a b c d : Int32} (h1 : P a) (h2 : P b) (h3 : P c) (h4 : P d) (j : Nat) : P (F4 a b c d j) := by
  unfold F4; split
  · exact h1
  · split
    · exact h2
    · split
      · exact h3
      · exact h4
theorem allL {P : Int32 → Prop} {a b c d : Int32} (h1 : P a) (h2 : P b) (h3 : P c) (h4 : P d) (j : Nat) : P (FL a b c d j) := by
  unfold FL; split
  · exact h4
  · split
    · exact h3
    · split
      · exact h2
      · exact h1
theorem own_cr (x : Int32) : 0 ≤ (x.toUInt32.toUInt16.toUInt32.toInt32).toInt ∧ (x.toUInt32.toUInt16.toUInt32.toInt32).toInt < 65536 := (c_i2c x).2
theorem own_m7 (x : Int32) : x &&& (7 : Int32) = 0 ∨ x &&& (7 : Int32) = 1 ∨ x &&& (7 : Int32) = 2 ∨ x &&& (7 : Int32) = 3 ∨ x &&& (7 : Int32) = 4 ∨ (x &&& (7 : Int32) = 5 ∨ x &&& (7 : Int32) = 6) ∨ x &&& (7 : Int32) = 7 := by
  have h := c_and x 7 (by decide)
  have e : (7 : Int32).toInt = 7 := by decide
  have k : ∀ z : Int32, (x &&& (7 : Int32)).toInt = z.toInt → x &&& (7 : Int32) = z := fun z q => Int32.toInt_inj.mp q
  have h0 : (x &&& (7 : Int32)).toInt = 0 ∨ (x &&& (7 : Int32)).toInt = 1 ∨ (x &&& (7 : Int32)).toInt = 2 ∨ (x &&& (7 : Int32)).toInt = 3 ∨ (x &&& (7 : Int32)).toInt = 4 ∨ (x &&& (7 : Int32)).toInt = 5 ∨ (x &&& (7 : Int32)).toInt = 6 ∨ (x &&& (7 : Int32)).toInt = 7 := by omega
  rcases h0 with q | q | q | q | q | q | q | q
  · exact Or.inl (k 0 q)
  · exact Or.inr (Or.inl (k 1 q))
  · exact Or.inr (Or.inr (Or.inl (k 2 q)))
  · exact Or.inr (Or.inr (Or.inr (Or.inl (k 3 q))))
  · exact Or.inr (Or.inr (Or.inr (Or.inr (Or.inl (k 4 q)))))
  · exact Or.inr (Or.inr (Or.inr (Or.inr (Or.inr (Or.inl (Or.inl (k 5 q)))))))
  · exact Or.inr (Or.inr (Or.inr (Or.inr (Or.inr (Or.inl (Or.inr (k 6 q)))))))
  · exact Or.inr (Or.inr (Or.inr (Or.inr (Or.inr (Or.inr (k 7 q))))))
theorem own_id1 {r : Int32} {P : Prop} (h : (r = 1 ∧ P) ∨ (r = 0 ∧ ¬ P)) (q : P) : r = 1 := by
  rcases h with h | h
  · exact h.1
  · exact absurd q h.2
theorem own_id0 {r : Int32} {P : Prop} (h : (r = 1 ∧ P) ∨ (r = 0 ∧ ¬ P)) (q : ¬ P) : r = 0 := by
  rcases h with h | h
  · exact absurd h.2 q
  · exact h.1
theorem pd_17 : parseMethodDescriptor "([C)V" = some ⟨[(.array .char)], none⟩ := by decide +kernel
theorem pd_18 : parseMethodDescriptor "(Ljava/lang/String;)Z" = some ⟨[(.object "java/lang/String")], some .boolean⟩ := by decide +kernel
theorem pd_19 : parseMethodDescriptor "(C)Z" = some ⟨[.char], some .boolean⟩ := by decide +kernel
theorem ef_rmL (m : MethodId) (x0 : Int32) (x1 : Int32) (x2 : Int32) (x3 : Int32) (x4 : Int32)  : entryFrame m #[(.int x0), (.int x1), (.int x2), (.int x3), (.int x4)] maxLocals = mkF m 0 #[.val (.int x0), .val (.int x1), .val (.int x2), .val (.int x3), .val (.int x4), .unset, .unset, .unset, .unset, .unset, .unset, .unset] [] := by first | (simp [entryFrame, mkF, argsToLocals, Value.category, maxLocals]; done) | rfl
def Q_rmL (Z : State) (i0 i1 i2 i3 i4 : Int32) (cz : Int32) (sf : Value) (h0 : Heap) (n0 : Nat) (vv : Option Value) (h : Heap) (vm : Vm) (L : List Loc) : Prop := vv = some (.int 1) ∧ Fr n0 L
set_option maxRecDepth 65536 in
set_option maxHeartbeats 40000000 in
theorem rmL (l : Launch) (Z : State) (a0 : Array Value) (hw : ∀ d ∈ tables_1, d.before a0 Z = true) (ws : List Jvm.Cond) (i0 i1 i2 i3 i4 : Int32) (cz : Int32) (sf : Value) (h0 : Heap) (n0 : Nat) (Z0 : n0 ≤ h0.size) (O0 : Old Z n0 h0) (SCS : Sta Z Z.heap "java/lang/String" "COMPACT_STRINGS" "Z" (.int cz)) (hcz : ¬ cz = (0 : Int32)) (SSF : Sta Z Z.heap "jdk/internal/util/Preconditions" "SIOOBE_FORMATTER" "Ljava/util/function/BiFunction;" sf) (hsf : sf.isRef = true) (SAD : Sta Z Z.heap "java/lang/StringUTF16" "$assertionsDisabled" "Z" (.int 1)) (SHI : Sta Z Z.heap "java/lang/StringUTF16" "HI_BYTE_SHIFT" "I" (.int 0)) (SLO : Sta Z Z.heap "java/lang/StringUTF16" "LO_BYTE_SHIFT" "I" (.int 8)) (hcH : Jvm.Lit.constHeld Z "java/lang/String" 7) (hcw : Jvm.Lit.compactW.before a0 Z = true) :
    MetFree l x (head1 (Jvm.Cond.code x code maxLocals ret :: ws) room_1) (fun aA uU => aA = #[(.int i0), (.int i1), (.int i2), (.int i3), (.int i4)] ∧ Z.Warmed39 uU.vm ∧ uU.heap = h0 ∧ oEm Z uU.vm h0) (fun _ _ _ _ _ => True) (fun _ uU oO uU' => ∃ vV lL, oO = .returned vV ∧ Q_rmL Z i0 i1 i2 i3 i4 cz sf h0 n0 vV uU'.heap uU'.vm lL ∧ ReturnedEndW uU oO uU' lL 24 2688) := by
  refine MetFree.of_bodySF (plainFor_of_name pn_LimitsIsIdPinLaw) hisR ?_
  intro p e s m args below meth c s₁ Bd hml0 hP hK
  obtain ⟨rfl, hZ, hh, hJ⟩ := hP
  have hx := Bd.exec
  have hby := Bd.bytes
  have hml : c.maxLocals = 12 := hml0
  have hown : s.vm.findClass "com/example/concordat/concordat/core/LimitsIsIdPinLaw" = some m.cls := findClass_of_methodNamed Bd.named
  have hnm := (name_of_methodNamed Bd.named Bd.method).1
  have X0 : Stand p l e room_1 (s.setVm s.vm) m #[(.int i0), (.int i1), (.int i2), (.int i3), (.int i4)] below meth c s₁ [] 0 0 := Stand.of_body Bd
  have e0 : s₁.heap = h0 := by rw [← hh, Bd.state]; rfl
  have N0 := Fr.nil n0
  have hS : s.Since s.vm 0 := (State.WarmedH.refl s).since 0
  have hk : 0 ≤ h0.size := Nat.zero_le _
  have hZ : Z.Warmed39 (s.setVm s.vm).vm := hZ
  have hown : (s.setVm s.vm).vm.findClass "com/example/concordat/concordat/core/LimitsIsIdPinLaw" = some m.cls := hown
  refine oEnterV (oCast (ef_rmL m i0 i1 i2 i3 i4 ) ?_)
  show oGl p e below (s₁.setTop (mkF m 0 #[.val (.int i0), .val (.int i1), .val (.int i2), .val (.int i3), .val (.int i4), .unset, .unset, .unset, .unset, .unset, .unset, .unset] [])) _
  refine siloadN X0 hx (hb hby at_0) rfl rfl (pc' := 1) ?_
  refine si2c X0 hx (hb hby at_1) rfl rfl (pc' := 2) ?_
  refine sistore X0 hx (hb hby at_2) rfl rfl (l' := #[.val (.int i0), .val (.int i1), .val (.int i2), .val (.int i3), .val (.int i4), .val (.int ((i0).toUInt32.toUInt16.toUInt32.toInt32)), .unset, .unset, .unset, .unset, .unset, .unset]) (pc' := 4) ?_
  refine siloadN X0 hx (hb hby at_4) rfl rfl (pc' := 5) ?_
  refine si2c X0 hx (hb hby at_5) rfl rfl (pc' := 6) ?_
  refine sistore X0 hx (hb hby at_6) rfl rfl (l' := #[.val (.int i0), .val (.int i1), .val (.int i2), .val (.int i3), .val (.int i4), .val (.int ((i0).toUInt32.toUInt16.toUInt32.toInt32)), .val (.int ((i1).toUInt32.toUInt16.toUInt32.toInt32)), .unset, .unset, .unset, .unset, .unset]) (pc' := 8) ?_
  refine siloadN X0 hx (hb hby at_8) rfl rfl (pc' := 9) ?_
  refine si2c X0 hx (hb hby at_9) rfl rfl (pc' := 10) ?_
  refine sistore X0 hx (hb hby at_10) rfl rfl (l' := #[.val (.int i0), .val (.int i1), .val (.int i2), .val (.int i3), .val (.int i4), .val (.int ((i0).toUInt32.toUInt16.toUInt32.toInt32)), .val (.int ((i1).toUInt32.toUInt16.toUInt32.toInt32)), .val (.int ((i2).toUInt32.toUInt16.toUInt32.toInt32)), .unset, .unset, .unset, .unset]) (pc' := 12) ?_
  refine siloadN X0 hx (hb hby at_12) rfl rfl (pc' := 13) ?_
  refine si2c X0 hx (hb hby at_13) rfl rfl (pc' := 14) ?_
  refine sistore X0 hx (hb hby at_14) rfl rfl (l' := #[.val (.int i0), .val (.int i1), .val (.int i2), .val (.int i3), .val (.int i4), .val (.int ((i0).toUInt32.toUInt16.toUInt32.toInt32)), .val (.int ((i1).toUInt32.toUInt16.toUInt32.toInt32)), .val (.int ((i2).toUInt32.toUInt16.toUInt32.toInt32)), .val (.int ((i3).toUInt32.toUInt16.toUInt32.toInt32)), .unset, .unset, .unset]) (pc' := 16) ?_
  refine siload X0 hx (hb hby at_16) rfl rfl (pc' := 18) ?_
  refine sbipush X0 hx (hb hby at_18) rfl rfl (z := 7) (pc' := 20) ?_
  refine siand X0 hx (hb hby at_20) rfl rfl (pc' := 21) ?_
  refine sistore X0 hx (hb hby at_21) rfl rfl (l' := #[.val (.int i0), .val (.int i1), .val (.int i2), .val (.int i3), .val (.int i4), .val (.int ((i0).toUInt32.toUInt16.toUInt32.toInt32)), .val (.int ((i1).toUInt32.toUInt16.toUInt32.toInt32)), .val (.int ((i2).toUInt32.toUInt16.toUInt32.toInt32)), .val (.int ((i3).toUInt32.toUInt16.toUInt32.toInt32)), .val (.int (i4 &&& (7 : Int32))), .unset, .unset]) (pc' := 23) ?_
  have hr_ca := own_cr i0
  generalize gca : ((i0).toUInt32.toUInt16.toUInt32.toInt32) = ca
  show oGl p e below (s₁.setTop (mkF m 23 #[.val (.int i0), .val (.int i1), .val (.int i2), .val (.int i3), .val (.int i4), .val (.int ca), .val (.int ((i1).toUInt32.toUInt16.toUInt32.toInt32)), .val (.int ((i2).toUInt32.toUInt16.toUInt32.toInt32)), .val (.int ((i3).toUInt32.toUInt16.toUInt32.toInt32)), .val (.int (i4 &&& (7 : Int32))), .unset, .unset] [])) _
  rw [gca] at hr_ca
  have hn_ca := own_nch hr_ca
  have hr_cb := own_cr i1
  generalize gcb : ((i1).toUInt32.toUInt16.toUInt32.toInt32) = cb
  show oGl p e below (s₁.setTop (mkF m 23 #[.val (.int i0), .val (.int i1), .val (.int i2), .val (.int i3), .val (.int i4), .val (.int ca), .val (.int cb), .val (.int ((i2).toUInt32.toUInt16.toUInt32.toInt32)), .val (.int ((i3).toUInt32.toUInt16.toUInt32.toInt32)), .val (.int (i4 &&& (7 : Int32))), .unset, .unset] [])) _
  rw [gcb] at hr_cb
  have hn_cb := own_nch hr_cb
  have hr_cc := own_cr i2
  generalize gcc : ((i2).toUInt32.toUInt16.toUInt32.toInt32) = cc
  show oGl p e below (s₁.setTop (mkF m 23 #[.val (.int i0), .val (.int i1), .val (.int i2), .val (.int i3), .val (.int i4), .val (.int ca), .val (.int cb), .val (.int cc), .val (.int ((i3).toUInt32.toUInt16.toUInt32.toInt32)), .val (.int (i4 &&& (7 : Int32))), .unset, .unset] [])) _
  rw [gcc] at hr_cc
  have hn_cc := own_nch hr_cc
  have hr_cd := own_cr i3
  generalize gcd : ((i3).toUInt32.toUInt16.toUInt32.toInt32) = cd
  show oGl p e below (s₁.setTop (mkF m 23 #[.val (.int i0), .val (.int i1), .val (.int i2), .val (.int i3), .val (.int i4), .val (.int ca), .val (.int cb), .val (.int cc), .val (.int cd), .val (.int (i4 &&& (7 : Int32))), .unset, .unset] [])) _
  rw [gcd] at hr_cd
  have hn_cd := own_nch hr_cd
  have wiS := (hw _ (List.mem_of_getElem? (i := 2) rfl))
  have hch4 : ∀ n, oChr (F4 ca cb cc cd) n := fun n j _ => all4 (P := fun z => 0 ≤ z.toInt ∧ z.toInt < 65536) hr_ca hr_cb hr_cc hr_cd j
  have hchL : ∀ n, oChr (FL ca cb cc cd) n := fun n j _ => allL (P := fun z => 0 ≤ z.toInt ∧ z.toInt < 65536) hr_ca hr_cb hr_cc hr_cd j
  have hm := own_m7 i4
  generalize gmm : (i4 &&& (7 : Int32)) = mm
  show oGl p e below (s₁.setTop (mkF m 23 #[.val (.int i0), .val (.int i1), .val (.int i2), .val (.int i3), .val (.int i4), .val (.int ca), .val (.int cb), .val (.int cc), .val (.int cd), .val (.int mm), .unset, .unset] [])) _
  rw [gmm] at hm
  rcases hm with rfl | rfl | rfl | rfl | rfl | hm56 | rfl
  · skip
    show oGl p e below (s₁.setTop (mkF m 23 #[.val (.int i0), .val (.int i1), .val (.int i2), .val (.int i3), .val (.int i4), .val (.int ca), .val (.int cb), .val (.int cc), .val (.int cd), .val (.int (0 : Int32)), .unset, .unset] [])) _
    refine siload X0 hx (hb hby at_23) rfl rfl (pc' := 25) ?_
    refine siconst X0 hx (hb hby at_25) rfl rfl (z := 4) (pc' := 26) ?_
    refine sicN X0 hx (hb hby at_26) rfl (flt (by decide : ¬ ((4 : Int32) < (0 : Int32)))).2.2.1 (pc' := 29) ?_
    refine siload X0 hx (hb hby at_29) rfl rfl (pc' := 31) ?_
    refine sifN X0 hx (hb hby at_31) rfl (teq (by decide : (0 : Int32) = (0 : Int32))).2 (pc' := 34) ?_
    refine siconst X0 hx (hb hby at_34) rfl rfl (z := 0) (pc' := 35) ?_
    obtain ⟨T1, h1, k1, X1, e1, E1, A1, st1⟩ := newP X0 hx hZ (hw _ (List.mem_of_getElem? (i := 0) rfl)) e0 (g := (mkF m 35 #[.val (.int i0), .val (.int i1), .val (.int i2), .val (.int i3), .val (.int i4), .val (.int ca), .val (.int cb), .val (.int cc), .val (.int cd), .val (.int (0 : Int32)), .unset, .unset] [(.int (0 : Int32))])) rfl (hb hby at_35) rfl (by decide) (cap := 0) (by decide) (by decide) (by decide) (by decide)
    obtain ⟨a1, g1⟩ : ∃ z, z = h0.size := ⟨_, rfl⟩
    rw [← g1] at A1 st1
    refine oOn st1 ?_
    have z2 : h0.size ≤ h1.size := E1.1
    have lt1 : a1 < h1.size := A1.lt
    have V1 : oAI Z h1 a1 .char 0 (fun _ => 0) := oAI.new A1 rfl
    show oGl p e below (T1.setTop (mkF m 37 #[.val (.int i0), .val (.int i1), .val (.int i2), .val (.int i3), .val (.int i4), .val (.int ca), .val (.int cb), .val (.int cc), .val (.int cd), .val (.int (0 : Int32)), .unset, .unset] [(.ref a1)])) _
    refine sastore X1 hx (hb hby at_37) rfl rfl rfl (l' := #[.val (.int i0), .val (.int i1), .val (.int i2), .val (.int i3), .val (.int i4), .val (.int ca), .val (.int cb), .val (.int cc), .val (.int cd), .val (.int (0 : Int32)), .val (.ref a1), .unset]) (pc' := 39) ?_
    refine sgoto X1 hx (hb hby at_39) (by decide) (by decide)  (pc' := 139) ?_
    refine siload X1 hx (hb hby at_139) rfl rfl (pc' := 141) ?_
    refine siconst X1 hx (hb hby at_141) rfl rfl (z := 1) (pc' := 142) ?_
    refine sicY X1 hx (hb hby at_142) (by decide) (by decide) (tlt (by decide : (0 : Int32) < (1 : Int32))).1 (pc' := 199) ?_
    refine siconst X1 hx (hb hby at_199) rfl rfl (z := 0) (pc' := 200) ?_
    refine sistore X1 hx (hb hby at_200) rfl rfl (l' := #[.val (.int i0), .val (.int i1), .val (.int i2), .val (.int i3), .val (.int i4), .val (.int ca), .val (.int cb), .val (.int cc), .val (.int cd), .val (.int (0 : Int32)), .val (.ref a1), .val (.int (0 : Int32))]) (pc' := 202) ?_
    obtain ⟨T3, h3, X3, e3, E3, A3, D3, -, st3⟩ := newO X1 hx hZ hown (hw _ (List.mem_of_getElem? (i := 1) rfl)) wiS (hw _ (List.mem_of_getElem? (i := 3) rfl)) e1 (g := (mkF m 202 #[.val (.int i0), .val (.int i1), .val (.int i2), .val (.int i3), .val (.int i4), .val (.int ca), .val (.int cb), .val (.int cc), .val (.int cd), .val (.int (0 : Int32)), .val (.ref a1), .val (.int (0 : Int32))] [])) rfl (hb hby at_202) (by decide) (by decide)
    obtain ⟨a3, g3⟩ : ∃ z, z = h1.size := ⟨_, rfl⟩
    rw [← g3] at A3 D3 st3
    refine oOn st3 ?_
    have z4 : h1.size ≤ h3.size := E3.1
    have lt3 : a3 < h3.size := A3.lt
    have f3_16 : Fld Z h3 a3 "java/lang/String" "value" "[B" .null := D3 (Or.inr (hw _ (List.mem_of_getElem? (i := 16) rfl))) (ty := (.array .byte)) (by decide)
    have f3_17 : Fld Z h3 a3 "java/lang/String" "coder" "B" (.int (0 : Int32)) := D3 (Or.inr (hw _ (List.mem_of_getElem? (i := 17) rfl))) (ty := .byte) (by decide)
    show oGl p e below (T3.setTop (mkF m 205 #[.val (.int i0), .val (.int i1), .val (.int i2), .val (.int i3), .val (.int i4), .val (.int ca), .val (.int cb), .val (.int cc), .val (.int cd), .val (.int (0 : Int32)), .val (.ref a1), .val (.int (0 : Int32))] [(.ref a3)])) _
    refine sdup X3 hx (hb hby at_205) rfl rfl (pc' := 206) ?_
    refine saload X3 hx (hb hby at_206) rfl rfl rfl (pc' := 208) ?_
    have f5 := (V1.ext E3)
    have nxa : @Ne Nat a3 a1 := oNeO A3 wiS f5
    have Vm : oAI Z h3 a1 .char 0 (F4 ca cb cc cd) := f5.congr (fun j hj => absurd hj (Nat.not_lt_zero _))
    have f6 := ((O0.ext E1).ext E3)
    have hz7 : n0 ≤ h3.size := by omega
    have f8 := ((hJ.ext E1).ext E3)
    obtain ⟨_, _, ⟨T7, L7, k7, n7⟩, -, X7, hS2, hg2, ⟨Lc7, hQ7, l7, y7, z7⟩, st7⟩ := X3.specialBackS hx (y := (⟨"java/lang/String", "<init>", "([C)V"⟩ : MethodName)) rfl hown (mvT hZ (hw _ (List.mem_of_getElem? (i := 4) rfl))) (mvT hZ (hw _ (List.mem_of_getElem? (i := 5) rfl))) (mvT hZ (hw _ (List.mem_of_getElem? (i := 6) rfl))) (by decide) (backOfV (J := fun vm => oEm Z vm h3) (W := 1) (rmStr l Z a0 hw [] a3 a1 0 (F4 ca cb cc cd) cz sf h3 n0 hz7 Vm (by decide) (hch4 _) nxa A3 f3_16 f3_17 (by omega) f6 SCS hcz SSF hsf SAD SHI SLO hcH hcw) hZ (hw _ (List.mem_of_getElem? (i := 6) rfl)) (hw _ (List.mem_of_getElem? (i := 3) rfl)) (by decide) (by decide)) (g := (mkF m 208 #[.val (.int i0), .val (.int i1), .val (.int i2), .val (.int i3), .val (.int i4), .val (.int ca), .val (.int cb), .val (.int cc), .val (.int cd), .val (.int (0 : Int32)), .val (.ref a1), .val (.int (0 : Int32))] [(.ref a1), (.ref a3), (.ref a3)])) rfl (by rw [hml]; rfl) (Steps.refl _) (a := a3) (argsL := [(.ref a1)]) (rest := [(.ref a3)]) (lenOf pd_17 rfl) rfl (by show 2 * 0 + _ ≤ _; exact Nat.le_of_eq rfl) (hb hby at_208) (fun _ hWw => ⟨rfl, e3, (by decide : 2 + 2 ≤ _), (by decide : 4 + 195 ≤ _), f8.warm hWw⟩)
    dsimp only [Pt.U, Pt.locs, Pt.cells, Pt.slots] at X7 l7 y7 z7 st7 hQ7 hS2 hg2
    subst l7 y7 z7
    obtain ⟨X7, hS, hZ, hown⟩ := rebS hS (n1 := T3.heap.size) (by rw [e3]; omega) X7 hS2 hg2 hZ hown
    have hk : T7.heap.size ≤ T7.heap.size := Nat.le_refl _
    obtain ⟨rfl, N7q, K7, Ex7, Os7, -⟩ := hQ7
    have N7 := Fr.app N0 N7q
    have z9 : h3.size ≤ T7.heap.size := K7.1
    refine oSt st7 ?_
    show oGl p e below (T7.setTop (mkF m 211 #[.val (.int i0), .val (.int i1), .val (.int i2), .val (.int i3), .val (.int i4), .val (.int ca), .val (.int cb), .val (.int cc), .val (.int cd), .val (.int (0 : Int32)), .val (.ref a1), .val (.int (0 : Int32))] [(.ref a3)])) _
    have f10 := (f6.keep K7 (allS (by omega) all0))
    have hz11 : n0 ≤ T7.heap.size := by omega
    obtain ⟨_, _, ⟨T11, L11, k11, n11⟩, -, X11, hS2, hg2, ⟨Lc11, hQ11, l11, y11, z11⟩, st11⟩ := callSS X7 hx (y := (⟨"com/example/concordat/concordat/core/Limits", "isId", "(Ljava/lang/String;)Z"⟩ : MethodName)) hown (mvT hZ (hw _ (List.mem_of_getElem? (i := 22) rfl))) (mvT hZ (hw _ (List.mem_of_getElem? (i := 23) rfl))) (mvT hZ (hw _ (List.mem_of_getElem? (i := 24) rfl))) (mvT hZ (hw _ (List.mem_of_getElem? (i := 25) rfl))) (by decide) (backOfS (W := 0) (rmIsId l Z a0 hw [] a3 0 (F4 ca cb cc cd) cz sf T7.heap n0 hz11 f10 SCS hcz SSF hsf SAD SHI SLO Ex7 Os7 (by decide) (hch4 _)) hZ (hw _ (List.mem_of_getElem? (i := 25) rfl)) (hw _ (List.mem_of_getElem? (i := 24) rfl)) (by decide) (by decide)) (g := (mkF m 211 #[.val (.int i0), .val (.int i1), .val (.int i2), .val (.int i3), .val (.int i4), .val (.int ca), .val (.int cb), .val (.int cc), .val (.int cd), .val (.int (0 : Int32)), .val (.ref a1), .val (.int (0 : Int32))] [(.ref a3)])) rfl (by rw [hml]; rfl) (argsL := [(.ref a3)]) (rest := []) (lenOf pd_18 rfl) rfl (by show 2 * 0 + _ ≤ _; exact Nat.le_of_eq rfl) (hb hby at_211) (fun _ _ => ⟨rfl, rfl, (by decide : 4 + 2 ≤ _), (by decide : 199 + 20 ≤ _)⟩)
    dsimp only [Pt.U, Pt.locs, Pt.cells, Pt.slots] at X11 l11 y11 z11 st11 hQ11 hS2 hg2
    subst l11 y11 z11
    obtain ⟨X11, hS, hZ, hown⟩ := rebS hS (n1 := T7.heap.size) (by omega) X11 hS2 hg2 hZ hown
    have hk : T11.heap.size ≤ T11.heap.size := Nat.le_refl _
    obtain ⟨r11, rfl, N11q, K11, pq11⟩ := hQ11
    have N11 := Fr.app N7 N11q
    have z12 : T7.heap.size ≤ T11.heap.size := K11.1
    refine oSt st11 ?_
    show oGl p e below (T11.setTop (mkF m 214 #[.val (.int i0), .val (.int i1), .val (.int i2), .val (.int i3), .val (.int i4), .val (.int ca), .val (.int cb), .val (.int cc), .val (.int cd), .val (.int (0 : Int32)), .val (.ref a1), .val (.int (0 : Int32))] [(.int r11)])) _
    refine siload X11 hx (hb hby at_214) rfl rfl (pc' := 216) ?_
    have hfin : r11 = (0 : Int32) := own_id0 pq11 (fun q => absurd q.1 (by decide))
    refine sicN X11 hx (hb hby at_216) rfl (teq (hfin : r11 = (0 : Int32))).2 (pc' := 219) ?_
    refine siconst X11 hx (hb hby at_219) rfl rfl (z := 1) (pc' := 220) ?_
    refine sgoto X11 hx (hb hby at_220) (by decide) (by decide)  (pc' := 224) ?_
    refine oRetNV (t := .boolean) X11 hS (by omega) hx Bd.notSynchronized Bd.returns (by simp) (hb hby at_224) (by decide) (by decide) ?_
    show Q_rmL Z i0 i1 i2 i3 i4 cz sf h0 n0 _ T11.heap _ _
    exact ⟨rfl, N11⟩
  · skip
    show oGl p e below (s₁.setTop (mkF m 23 #[.val (.int i0), .val (.int i1), .val (.int i2), .val (.int i3), .val (.int i4), .val (.int ca), .val (.int cb), .val (.int cc), .val (.int cd), .val (.int (1 : Int32)), .unset, .unset] [])) _
    refine siload X0 hx (hb hby at_23) rfl rfl (pc' := 25) ?_
    refine siconst X0 hx (hb hby at_25) rfl rfl (z := 4) (pc' := 26) ?_
    refine sicN X0 hx (hb hby at_26) rfl (flt (by decide : ¬ ((4 : Int32) < (1 : Int32)))).2.2.1 (pc' := 29) ?_
    refine siload X0 hx (hb hby at_29) rfl rfl (pc' := 31) ?_
    refine sifY X0 hx (hb hby at_31) (by decide) (by decide) (feq (by decide : ¬ ((1 : Int32) = (0 : Int32)))).2 (pc' := 42) ?_
    refine siload X0 hx (hb hby at_42) rfl rfl (pc' := 44) ?_
    refine siconst X0 hx (hb hby at_44) rfl rfl (z := 1) (pc' := 45) ?_
    refine sicN X0 hx (hb hby at_45) rfl (teq (by decide : (1 : Int32) = (1 : Int32))).2 (pc' := 48) ?_
    refine siconst X0 hx (hb hby at_48) rfl rfl (z := 1) (pc' := 49) ?_
    obtain ⟨T13, h13, k13, X13, e13, E13, A13, st13⟩ := newP X0 hx hZ (hw _ (List.mem_of_getElem? (i := 0) rfl)) e0 (g := (mkF m 49 #[.val (.int i0), .val (.int i1), .val (.int i2), .val (.int i3), .val (.int i4), .val (.int ca), .val (.int cb), .val (.int cc), .val (.int cd), .val (.int (1 : Int32)), .unset, .unset] [(.int (1 : Int32))])) rfl (hb hby at_49) rfl (by decide) (cap := 1) (by decide) (by decide) (by decide) (by decide)
    obtain ⟨a13, g13⟩ : ∃ z, z = h0.size := ⟨_, rfl⟩
    rw [← g13] at A13 st13
    refine oOn st13 ?_
    have z14 : h0.size ≤ h13.size := E13.1
    have lt13 : a13 < h13.size := A13.lt
    have V13 : oAI Z h13 a13 .char 1 (fun _ => 0) := oAI.new A13 rfl
    show oGl p e below (T13.setTop (mkF m 51 #[.val (.int i0), .val (.int i1), .val (.int i2), .val (.int i3), .val (.int i4), .val (.int ca), .val (.int cb), .val (.int cc), .val (.int cd), .val (.int (1 : Int32)), .unset, .unset] [(.ref a13)])) _
    refine sdup X13 hx (hb hby at_51) rfl rfl (pc' := 52) ?_
    refine siconst X13 hx (hb hby at_52) rfl rfl (z := 0) (pc' := 53) ?_
    refine siload X13 hx (hb hby at_53) rfl rfl (pc' := 55) ?_
    obtain ⟨T15, h15, X15, e15, W15, V15, st15⟩ := V13.stC X13 hx hZ e13 (j := (0 : Int32)) (by decide) (g := (mkF m 55 #[.val (.int i0), .val (.int i1), .val (.int i2), .val (.int i3), .val (.int i4), .val (.int ca), .val (.int cb), .val (.int cc), .val (.int cd), .val (.int (1 : Int32)), .unset, .unset] [(.int ca), (.int (0 : Int32)), (.ref a13), (.ref a13)])) rfl rfl (hb hby at_55)
    refine oOn st15 ?_
    have z16 : h13.size ≤ h15.size := Nat.le_of_eq W15.size.symm
    have N15 := Fr.snoc X15 N0 (by omega)
    show oGl p e below (T15.setTop (mkF m 56 #[.val (.int i0), .val (.int i1), .val (.int i2), .val (.int i3), .val (.int i4), .val (.int ca), .val (.int cb), .val (.int cc), .val (.int cd), .val (.int (1 : Int32)), .unset, .unset] [(.ref a13)])) _
    refine sastore X15 hx (hb hby at_56) rfl rfl rfl (l' := #[.val (.int i0), .val (.int i1), .val (.int i2), .val (.int i3), .val (.int i4), .val (.int ca), .val (.int cb), .val (.int cc), .val (.int cd), .val (.int (1 : Int32)), .val (.ref a13), .unset]) (pc' := 58) ?_
    refine sgoto X15 hx (hb hby at_58) (by decide) (by decide)  (pc' := 139) ?_
    refine siload X15 hx (hb hby at_139) rfl rfl (pc' := 141) ?_
    refine siconst X15 hx (hb hby at_141) rfl rfl (z := 1) (pc' := 142) ?_
    refine sicN X15 hx (hb hby at_142) rfl (flt (by decide : ¬ ((1 : Int32) < (1 : Int32)))).1 (pc' := 145) ?_
    refine siload X15 hx (hb hby at_145) rfl rfl (pc' := 147) ?_
    have hz17 : n0 ≤ h15.size := by omega
    obtain ⟨_, _, ⟨T17, L17, k17, n17⟩, -, X17, ⟨Lc17, hQ17, l17, y17, z17⟩, st17⟩ := Jvm.LawKit.callS X15 hx (y := (⟨"com/example/concordat/concordat/core/LimitsIsIdPinLaw", "ok", "(C)Z"⟩ : MethodName)) hown (mvT hZ (hw _ (List.mem_of_getElem? (i := 57) rfl))) (mvT hZ (hw _ (List.mem_of_getElem? (i := 58) rfl))) (mvT hZ (hw _ (List.mem_of_getElem? (i := 59) rfl))) (mvT hZ (hw _ (List.mem_of_getElem? (i := 60) rfl))) (by decide) (backOf (W := 0) (rmOk l Z a0 hw [] ca h15 n0 hz17 ) hZ (hw _ (List.mem_of_getElem? (i := 60) rfl)) (hw _ (List.mem_of_getElem? (i := 59) rfl)) (by decide) (by decide)) (g := (mkF m 147 #[.val (.int i0), .val (.int i1), .val (.int i2), .val (.int i3), .val (.int i4), .val (.int ca), .val (.int cb), .val (.int cc), .val (.int cd), .val (.int (1 : Int32)), .val (.ref a13), .unset] [(.int ca)])) rfl (by rw [hml]; rfl) (argsL := [(.int ca)]) (rest := []) (lenOf pd_19 rfl) rfl (by show 2 * 0 + _ ≤ _; exact Nat.le_of_eq rfl) (hb hby at_147) (fun _ _ => ⟨rfl, e15, (by decide : 1 + 0 ≤ _), (by decide : 1 + 0 ≤ _)⟩)
    dsimp only [Pt.U, Pt.locs, Pt.cells, Pt.slots] at X17 l17 y17 z17 st17 hQ17
    subst l17 y17 z17
    obtain ⟨r17, rfl, N17q, eh17, pq17⟩ := hQ17
    have N17 := Fr.app N15 N17q
    refine oOn st17 ?_
    show oGl p e below (T17.setTop (mkF m 150 #[.val (.int i0), .val (.int i1), .val (.int i2), .val (.int i3), .val (.int i4), .val (.int ca), .val (.int cb), .val (.int cc), .val (.int cd), .val (.int (1 : Int32)), .val (.ref a13), .unset] [(.int r17)])) _
    by_cases hc150 : r17 = (0 : Int32)
    · skip
      refine sifY X17 hx (hb hby at_150) (by decide) (by decide) (teq hc150).1 (pc' := 199) ?_
      refine siconst X17 hx (hb hby at_199) rfl rfl (z := 0) (pc' := 200) ?_
      refine sistore X17 hx (hb hby at_200) rfl rfl (l' := #[.val (.int i0), .val (.int i1), .val (.int i2), .val (.int i3), .val (.int i4), .val (.int ca), .val (.int cb), .val (.int cc), .val (.int cd), .val (.int (1 : Int32)), .val (.ref a13), .val (.int (0 : Int32))]) (pc' := 202) ?_
      obtain ⟨T18, h18, X18, e18, E18, A18, D18, -, st18⟩ := newO X17 hx hZ hown (hw _ (List.mem_of_getElem? (i := 1) rfl)) wiS (hw _ (List.mem_of_getElem? (i := 3) rfl)) eh17 (g := (mkF m 202 #[.val (.int i0), .val (.int i1), .val (.int i2), .val (.int i3), .val (.int i4), .val (.int ca), .val (.int cb), .val (.int cc), .val (.int cd), .val (.int (1 : Int32)), .val (.ref a13), .val (.int (0 : Int32))] [])) rfl (hb hby at_202) (by decide) (by decide)
      obtain ⟨a18, g18⟩ : ∃ z, z = h15.size := ⟨_, rfl⟩
      rw [← g18] at A18 D18 st18
      refine oOn st18 ?_
      have z19 : h15.size ≤ h18.size := E18.1
      have lt18 : a18 < h18.size := A18.lt
      have f18_16 : Fld Z h18 a18 "java/lang/String" "value" "[B" .null := D18 (Or.inr (hw _ (List.mem_of_getElem? (i := 16) rfl))) (ty := (.array .byte)) (by decide)
      have f18_17 : Fld Z h18 a18 "java/lang/String" "coder" "B" (.int (0 : Int32)) := D18 (Or.inr (hw _ (List.mem_of_getElem? (i := 17) rfl))) (ty := .byte) (by decide)
      show oGl p e below (T18.setTop (mkF m 205 #[.val (.int i0), .val (.int i1), .val (.int i2), .val (.int i3), .val (.int i4), .val (.int ca), .val (.int cb), .val (.int cc), .val (.int cd), .val (.int (1 : Int32)), .val (.ref a13), .val (.int (0 : Int32))] [(.ref a18)])) _
      refine sdup X18 hx (hb hby at_205) rfl rfl (pc' := 206) ?_
      refine saload X18 hx (hb hby at_206) rfl rfl rfl (pc' := 208) ?_
      have f20 := (V15.ext E18)
      have nxa : @Ne Nat a18 a13 := oNeO A18 wiS f20
      have Vm : oAI Z h18 a13 .char 1 (F4 ca cb cc cd) := f20.congr (fun j hj => by
        rcases (by omega : j = 0) with rfl
        · exact hn_ca)
      have f21 := (((O0.ext E13).wr W15 (by omega)).ext E18)
      have hz22 : n0 ≤ h18.size := by omega
      have f23 := (((hJ.ext E13).wrA W15 V13 wiS (by decide)).ext E18)
      obtain ⟨_, _, ⟨T22, L22, k22, n22⟩, -, X22, hS2, hg2, ⟨Lc22, hQ22, l22, y22, z22⟩, st22⟩ := X18.specialBackS hx (y := (⟨"java/lang/String", "<init>", "([C)V"⟩ : MethodName)) rfl hown (mvT hZ (hw _ (List.mem_of_getElem? (i := 4) rfl))) (mvT hZ (hw _ (List.mem_of_getElem? (i := 5) rfl))) (mvT hZ (hw _ (List.mem_of_getElem? (i := 6) rfl))) (by decide) (backOfV (J := fun vm => oEm Z vm h18) (W := 1) (rmStr l Z a0 hw [] a18 a13 1 (F4 ca cb cc cd) cz sf h18 n0 hz22 Vm (by decide) (hch4 _) nxa A18 f18_16 f18_17 (by omega) f21 SCS hcz SSF hsf SAD SHI SLO hcH hcw) hZ (hw _ (List.mem_of_getElem? (i := 6) rfl)) (hw _ (List.mem_of_getElem? (i := 3) rfl)) (by decide) (by decide)) (g := (mkF m 208 #[.val (.int i0), .val (.int i1), .val (.int i2), .val (.int i3), .val (.int i4), .val (.int ca), .val (.int cb), .val (.int cc), .val (.int cd), .val (.int (1 : Int32)), .val (.ref a13), .val (.int (0 : Int32))] [(.ref a13), (.ref a18), (.ref a18)])) rfl (by rw [hml]; rfl) (Steps.refl _) (a := a18) (argsL := [(.ref a13)]) (rest := [(.ref a18)]) (lenOf pd_17 rfl) rfl (by show 2 * 0 + _ ≤ _; exact Nat.le_of_eq rfl) (hb hby at_208) (fun _ hWw => ⟨rfl, e18, (by decide : 2 + 2 ≤ _), (by decide : 5 + 195 ≤ _), f23.warm hWw⟩)
      dsimp only [Pt.U, Pt.locs, Pt.cells, Pt.slots] at X22 l22 y22 z22 st22 hQ22 hS2 hg2
      subst l22 y22 z22
      obtain ⟨X22, hS, hZ, hown⟩ := rebS hS (n1 := T18.heap.size) (by rw [e18]; omega) X22 hS2 hg2 hZ hown
      have hk : T22.heap.size ≤ T22.heap.size := Nat.le_refl _
      obtain ⟨rfl, N22q, K22, Ex22, Os22, -⟩ := hQ22
      have N22 := Fr.app N17 N22q
      have z24 : h18.size ≤ T22.heap.size := K22.1
      refine oSt st22 ?_
      show oGl p e below (T22.setTop (mkF m 211 #[.val (.int i0), .val (.int i1), .val (.int i2), .val (.int i3), .val (.int i4), .val (.int ca), .val (.int cb), .val (.int cc), .val (.int cd), .val (.int (1 : Int32)), .val (.ref a13), .val (.int (0 : Int32))] [(.ref a18)])) _
      have f25 := (f21.keep K22 (allS (by omega) all0))
      have hz26 : n0 ≤ T22.heap.size := by omega
      obtain ⟨_, _, ⟨T26, L26, k26, n26⟩, -, X26, hS2, hg2, ⟨Lc26, hQ26, l26, y26, z26⟩, st26⟩ := callSS X22 hx (y := (⟨"com/example/concordat/concordat/core/Limits", "isId", "(Ljava/lang/String;)Z"⟩ : MethodName)) hown (mvT hZ (hw _ (List.mem_of_getElem? (i := 22) rfl))) (mvT hZ (hw _ (List.mem_of_getElem? (i := 23) rfl))) (mvT hZ (hw _ (List.mem_of_getElem? (i := 24) rfl))) (mvT hZ (hw _ (List.mem_of_getElem? (i := 25) rfl))) (by decide) (backOfS (W := 0) (rmIsId l Z a0 hw [] a18 1 (F4 ca cb cc cd) cz sf T22.heap n0 hz26 f25 SCS hcz SSF hsf SAD SHI SLO Ex22 Os22 (by decide) (hch4 _)) hZ (hw _ (List.mem_of_getElem? (i := 25) rfl)) (hw _ (List.mem_of_getElem? (i := 24) rfl)) (by decide) (by decide)) (g := (mkF m 211 #[.val (.int i0), .val (.int i1), .val (.int i2), .val (.int i3), .val (.int i4), .val (.int ca), .val (.int cb), .val (.int cc), .val (.int cd), .val (.int (1 : Int32)), .val (.ref a13), .val (.int (0 : Int32))] [(.ref a18)])) rfl (by rw [hml]; rfl) (argsL := [(.ref a18)]) (rest := []) (lenOf pd_18 rfl) rfl (by show 2 * 0 + _ ≤ _; exact Nat.le_of_eq rfl) (hb hby at_211) (fun _ _ => ⟨rfl, rfl, (by decide : 4 + 2 ≤ _), (by decide : 200 + 20 ≤ _)⟩)
      dsimp only [Pt.U, Pt.locs, Pt.cells, Pt.slots] at X26 l26 y26 z26 st26 hQ26 hS2 hg2
      subst l26 y26 z26
      obtain ⟨X26, hS, hZ, hown⟩ := rebS hS (n1 := T22.heap.size) (by omega) X26 hS2 hg2 hZ hown
      have hk : T26.heap.size ≤ T26.heap.size := Nat.le_refl _
      obtain ⟨r26, rfl, N26q, K26, pq26⟩ := hQ26
      have N26 := Fr.app N22 N26q
      have z27 : T22.heap.size ≤ T26.heap.size := K26.1
      refine oSt st26 ?_
      show oGl p e below (T26.setTop (mkF m 214 #[.val (.int i0), .val (.int i1), .val (.int i2), .val (.int i3), .val (.int i4), .val (.int ca), .val (.int cb), .val (.int cc), .val (.int cd), .val (.int (1 : Int32)), .val (.ref a13), .val (.int (0 : Int32))] [(.int r26)])) _
      refine siload X26 hx (hb hby at_214) rfl rfl (pc' := 216) ?_
      have hfin : r26 = (0 : Int32) := own_id0 pq26 (fun q => absurd (q.2 0 (by decide)) ((pq17.resolve_left (fun q => absurd (hc150.symm.trans q.1) (by decide))).2))
      refine sicN X26 hx (hb hby at_216) rfl (teq (hfin : r26 = (0 : Int32))).2 (pc' := 219) ?_
      refine siconst X26 hx (hb hby at_219) rfl rfl (z := 1) (pc' := 220) ?_
      refine sgoto X26 hx (hb hby at_220) (by decide) (by decide)  (pc' := 224) ?_
      refine oRetNV (t := .boolean) X26 hS (by omega) hx Bd.notSynchronized Bd.returns (by simp) (hb hby at_224) (by decide) (by decide) ?_
      show Q_rmL Z i0 i1 i2 i3 i4 cz sf h0 n0 _ T26.heap _ _
      exact ⟨rfl, N26⟩
    · skip
      refine sifN X17 hx (hb hby at_150) rfl (feq hc150).1 (pc' := 153) ?_
      refine siload X17 hx (hb hby at_153) rfl rfl (pc' := 155) ?_
      refine siconst X17 hx (hb hby at_155) rfl rfl (z := 2) (pc' := 156) ?_
      refine sicY X17 hx (hb hby at_156) (by decide) (by decide) (tlt (by decide : (1 : Int32) < (2 : Int32))).1 (pc' := 167) ?_
      refine siload X17 hx (hb hby at_167) rfl rfl (pc' := 169) ?_
      refine siconst X17 hx (hb hby at_169) rfl rfl (z := 3) (pc' := 170) ?_
      refine sicY X17 hx (hb hby at_170) (by decide) (by decide) (tlt (by decide : (1 : Int32) < (3 : Int32))).1 (pc' := 181) ?_
      refine siload X17 hx (hb hby at_181) rfl rfl (pc' := 183) ?_
      refine siconst X17 hx (hb hby at_183) rfl rfl (z := 4) (pc' := 184) ?_
      refine sicY X17 hx (hb hby at_184) (by decide) (by decide) (tlt (by decide : (1 : Int32) < (4 : Int32))).1 (pc' := 195) ?_
      refine siconst X17 hx (hb hby at_195) rfl rfl (z := 1) (pc' := 196) ?_
      refine sgoto X17 hx (hb hby at_196) (by decide) (by decide)  (pc' := 200) ?_
      refine sistore X17 hx (hb hby at_200) rfl rfl (l' := #[.val (.int i0), .val (.int i1), .val (.int i2), .val (.int i3), .val (.int i4), .val (.int ca), .val (.int cb), .val (.int cc), .val (.int cd), .val (.int (1 : Int32)), .val (.ref a13), .val (.int (1 : Int32))]) (pc' := 202) ?_
      obtain ⟨T28, h28, X28, e28, E28, A28, D28, -, st28⟩ := newO X17 hx hZ hown (hw _ (List.mem_of_getElem? (i := 1) rfl)) wiS (hw _ (List.mem_of_getElem? (i := 3) rfl)) eh17 (g := (mkF m 202 #[.val (.int i0), .val (.int i1), .val (.int i2), .val (.int i3), .val (.int i4), .val (.int ca), .val (.int cb), .val (.int cc), .val (.int cd), .val (.int (1 : Int32)), .val (.ref a13), .val (.int (1 : Int32))] [])) rfl (hb hby at_202) (by decide) (by decide)
      obtain ⟨a28, g28⟩ : ∃ z, z = h15.size := ⟨_, rfl⟩
      rw [← g28] at A28 D28 st28
      refine oOn st28 ?_
      have z29 : h15.size ≤ h28.size := E28.1
      have lt28 : a28 < h28.size := A28.lt
      have f28_16 : Fld Z h28 a28 "java/lang/String" "value" "[B" .null := D28 (Or.inr (hw _ (List.mem_of_getElem? (i := 16) rfl))) (ty := (.array .byte)) (by decide)
      have f28_17 : Fld Z h28 a28 "java/lang/String" "coder" "B" (.int (0 : Int32)) := D28 (Or.inr (hw _ (List.mem_of_getElem? (i := 17) rfl))) (ty := .byte) (by decide)
      show oGl p e below (T28.setTop (mkF m 205 #[.val (.int i0), .val (.int i1), .val (.int i2), .val (.int i3), .val (.int i4), .val (.int ca), .val (.int cb), .val (.int cc), .val (.int cd), .val (.int (1 : Int32)), .val (.ref a13), .val (.int (1 : Int32))] [(.ref a28)])) _
      refine sdup X28 hx (hb hby at_205) rfl rfl (pc' := 206) ?_
      refine saload X28 hx (hb hby at_206) rfl rfl rfl (pc' := 208) ?_
      have f30 := (V15.ext E28)
      have nxa : @Ne Nat a28 a13 := oNeO A28 wiS f30
      have Vm : oAI Z h28 a13 .char 1 (F4 ca cb cc cd) := f30.congr (fun j hj => by
        rcases (by omega : j = 0) with rfl
        · exact hn_ca)
      have f31 := (((O0.ext E13).wr W15 (by omega)).ext E28)
      have hz32 : n0 ≤ h28.size := by omega
      have f33 := (((hJ.ext E13).wrA W15 V13 wiS (by decide)).ext E28)
      obtain ⟨_, _, ⟨T32, L32, k32, n32⟩, -, X32, hS2, hg2, ⟨Lc32, hQ32, l32, y32, z32⟩, st32⟩ := X28.specialBackS hx (y := (⟨"java/lang/String", "<init>", "([C)V"⟩ : MethodName)) rfl hown (mvT hZ (hw _ (List.mem_of_getElem? (i := 4) rfl))) (mvT hZ (hw _ (List.mem_of_getElem? (i := 5) rfl))) (mvT hZ (hw _ (List.mem_of_getElem? (i := 6) rfl))) (by decide) (backOfV (J := fun vm => oEm Z vm h28) (W := 1) (rmStr l Z a0 hw [] a28 a13 1 (F4 ca cb cc cd) cz sf h28 n0 hz32 Vm (by decide) (hch4 _) nxa A28 f28_16 f28_17 (by omega) f31 SCS hcz SSF hsf SAD SHI SLO hcH hcw) hZ (hw _ (List.mem_of_getElem? (i := 6) rfl)) (hw _ (List.mem_of_getElem? (i := 3) rfl)) (by decide) (by decide)) (g := (mkF m 208 #[.val (.int i0), .val (.int i1), .val (.int i2), .val (.int i3), .val (.int i4), .val (.int ca), .val (.int cb), .val (.int cc), .val (.int cd), .val (.int (1 : Int32)), .val (.ref a13), .val (.int (1 : Int32))] [(.ref a13), (.ref a28), (.ref a28)])) rfl (by rw [hml]; rfl) (Steps.refl _) (a := a28) (argsL := [(.ref a13)]) (rest := [(.ref a28)]) (lenOf pd_17 rfl) rfl (by show 2 * 0 + _ ≤ _; exact Nat.le_of_eq rfl) (hb hby at_208) (fun _ hWw => ⟨rfl, e28, (by decide : 2 + 2 ≤ _), (by decide : 5 + 195 ≤ _), f33.warm hWw⟩)
      dsimp only [Pt.U, Pt.locs, Pt.cells, Pt.slots] at X32 l32 y32 z32 st32 hQ32 hS2 hg2
      subst l32 y32 z32
      obtain ⟨X32, hS, hZ, hown⟩ := rebS hS (n1 := T28.heap.size) (by rw [e28]; omega) X32 hS2 hg2 hZ hown
      have hk : T32.heap.size ≤ T32.heap.size := Nat.le_refl _
      obtain ⟨rfl, N32q, K32, Ex32, Os32, -⟩ := hQ32
      have N32 := Fr.app N17 N32q
      have z34 : h28.size ≤ T32.heap.size := K32.1
      refine oSt st32 ?_
      show oGl p e below (T32.setTop (mkF m 211 #[.val (.int i0), .val (.int i1), .val (.int i2), .val (.int i3), .val (.int i4), .val (.int ca), .val (.int cb), .val (.int cc), .val (.int cd), .val (.int (1 : Int32)), .val (.ref a13), .val (.int (1 : Int32))] [(.ref a28)])) _
      have f35 := (f31.keep K32 (allS (by omega) all0))
      have hz36 : n0 ≤ T32.heap.size := by omega
      obtain ⟨_, _, ⟨T36, L36, k36, n36⟩, -, X36, hS2, hg2, ⟨Lc36, hQ36, l36, y36, z36⟩, st36⟩ := callSS X32 hx (y := (⟨"com/example/concordat/concordat/core/Limits", "isId", "(Ljava/lang/String;)Z"⟩ : MethodName)) hown (mvT hZ (hw _ (List.mem_of_getElem? (i := 22) rfl))) (mvT hZ (hw _ (List.mem_of_getElem? (i := 23) rfl))) (mvT hZ (hw _ (List.mem_of_getElem? (i := 24) rfl))) (mvT hZ (hw _ (List.mem_of_getElem? (i := 25) rfl))) (by decide) (backOfS (W := 0) (rmIsId l Z a0 hw [] a28 1 (F4 ca cb cc cd) cz sf T32.heap n0 hz36 f35 SCS hcz SSF hsf SAD SHI SLO Ex32 Os32 (by decide) (hch4 _)) hZ (hw _ (List.mem_of_getElem? (i := 25) rfl)) (hw _ (List.mem_of_getElem? (i := 24) rfl)) (by decide) (by decide)) (g := (mkF m 211 #[.val (.int i0), .val (.int i1), .val (.int i2), .val (.int i3), .val (.int i4), .val (.int ca), .val (.int cb), .val (.int cc), .val (.int cd), .val (.int (1 : Int32)), .val (.ref a13), .val (.int (1 : Int32))] [(.ref a28)])) rfl (by rw [hml]; rfl) (argsL := [(.ref a28)]) (rest := []) (lenOf pd_18 rfl) rfl (by show 2 * 0 + _ ≤ _; exact Nat.le_of_eq rfl) (hb hby at_211) (fun _ _ => ⟨rfl, rfl, (by decide : 4 + 2 ≤ _), (by decide : 200 + 20 ≤ _)⟩)
      dsimp only [Pt.U, Pt.locs, Pt.cells, Pt.slots] at X36 l36 y36 z36 st36 hQ36 hS2 hg2
      subst l36 y36 z36
      obtain ⟨X36, hS, hZ, hown⟩ := rebS hS (n1 := T32.heap.size) (by omega) X36 hS2 hg2 hZ hown
      have hk : T36.heap.size ≤ T36.heap.size := Nat.le_refl _
      obtain ⟨r36, rfl, N36q, K36, pq36⟩ := hQ36
      have N36 := Fr.app N32 N36q
      have z37 : T32.heap.size ≤ T36.heap.size := K36.1
      refine oSt st36 ?_
      show oGl p e below (T36.setTop (mkF m 214 #[.val (.int i0), .val (.int i1), .val (.int i2), .val (.int i3), .val (.int i4), .val (.int ca), .val (.int cb), .val (.int cc), .val (.int cd), .val (.int (1 : Int32)), .val (.ref a13), .val (.int (1 : Int32))] [(.int r36)])) _
      refine siload X36 hx (hb hby at_214) rfl rfl (pc' := 216) ?_
      have hfin : r36 = (1 : Int32) := own_id1 pq36 ⟨by decide, fun j hj => by
        rcases (by omega : j = 0) with rfl
        · exact (pq17.resolve_right (fun q => hc150 q.1)).2⟩
      refine sicN X36 hx (hb hby at_216) rfl (teq (hfin : r36 = (1 : Int32))).2 (pc' := 219) ?_
      refine siconst X36 hx (hb hby at_219) rfl rfl (z := 1) (pc' := 220) ?_
      refine sgoto X36 hx (hb hby at_220) (by decide) (by decide)  (pc' := 224) ?_
      refine oRetNV (t := .boolean) X36 hS (by omega) hx Bd.notSynchronized Bd.returns (by simp) (hb hby at_224) (by decide) (by decide) ?_
      show Q_rmL Z i0 i1 i2 i3 i4 cz sf h0 n0 _ T36.heap _ _
      exact ⟨rfl, N36⟩
  · skip
    show oGl p e below (s₁.setTop (mkF m 23 #[.val (.int i0), .val (.int i1), .val (.int i2), .val (.int i3), .val (.int i4), .val (.int ca), .val (.int cb), .val (.int cc), .val (.int cd), .val (.int (2 : Int32)), .unset, .unset] [])) _
    refine siload X0 hx (hb hby at_23) rfl rfl (pc' := 25) ?_
    refine siconst X0 hx (hb hby at_25) rfl rfl (z := 4) (pc' := 26) ?_
    refine sicN X0 hx (hb hby at_26) rfl (flt (by decide : ¬ ((4 : Int32) < (2 : Int32)))).2.2.1 (pc' := 29) ?_
    refine siload X0 hx (hb hby at_29) rfl rfl (pc' := 31) ?_
    refine sifY X0 hx (hb hby at_31) (by decide) (by decide) (feq (by decide : ¬ ((2 : Int32) = (0 : Int32)))).2 (pc' := 42) ?_
    refine siload X0 hx (hb hby at_42) rfl rfl (pc' := 44) ?_
    refine siconst X0 hx (hb hby at_44) rfl rfl (z := 1) (pc' := 45) ?_
    refine sicY X0 hx (hb hby at_45) (by decide) (by decide) (feq (by decide : ¬ ((2 : Int32) = (1 : Int32)))).2 (pc' := 61) ?_
    refine siload X0 hx (hb hby at_61) rfl rfl (pc' := 63) ?_
    refine siconst X0 hx (hb hby at_63) rfl rfl (z := 2) (pc' := 64) ?_
    refine sicN X0 hx (hb hby at_64) rfl (teq (by decide : (2 : Int32) = (2 : Int32))).2 (pc' := 67) ?_
    refine siconst X0 hx (hb hby at_67) rfl rfl (z := 2) (pc' := 68) ?_
    obtain ⟨T38, h38, k38, X38, e38, E38, A38, st38⟩ := newP X0 hx hZ (hw _ (List.mem_of_getElem? (i := 0) rfl)) e0 (g := (mkF m 68 #[.val (.int i0), .val (.int i1), .val (.int i2), .val (.int i3), .val (.int i4), .val (.int ca), .val (.int cb), .val (.int cc), .val (.int cd), .val (.int (2 : Int32)), .unset, .unset] [(.int (2 : Int32))])) rfl (hb hby at_68) rfl (by decide) (cap := 2) (by decide) (by decide) (by decide) (by decide)
    obtain ⟨a38, g38⟩ : ∃ z, z = h0.size := ⟨_, rfl⟩
    rw [← g38] at A38 st38
    refine oOn st38 ?_
    have z39 : h0.size ≤ h38.size := E38.1
    have lt38 : a38 < h38.size := A38.lt
    have V38 : oAI Z h38 a38 .char 2 (fun _ => 0) := oAI.new A38 rfl
    show oGl p e below (T38.setTop (mkF m 70 #[.val (.int i0), .val (.int i1), .val (.int i2), .val (.int i3), .val (.int i4), .val (.int ca), .val (.int cb), .val (.int cc), .val (.int cd), .val (.int (2 : Int32)), .unset, .unset] [(.ref a38)])) _
    refine sdup X38 hx (hb hby at_70) rfl rfl (pc' := 71) ?_
    refine siconst X38 hx (hb hby at_71) rfl rfl (z := 0) (pc' := 72) ?_
    refine siload X38 hx (hb hby at_72) rfl rfl (pc' := 74) ?_
    obtain ⟨T40, h40, X40, e40, W40, V40, st40⟩ := V38.stC X38 hx hZ e38 (j := (0 : Int32)) (by decide) (g := (mkF m 74 #[.val (.int i0), .val (.int i1), .val (.int i2), .val (.int i3), .val (.int i4), .val (.int ca), .val (.int cb), .val (.int cc), .val (.int cd), .val (.int (2 : Int32)), .unset, .unset] [(.int ca), (.int (0 : Int32)), (.ref a38), (.ref a38)])) rfl rfl (hb hby at_74)
    refine oOn st40 ?_
    have z41 : h38.size ≤ h40.size := Nat.le_of_eq W40.size.symm
    have N40 := Fr.snoc X40 N0 (by omega)
    show oGl p e below (T40.setTop (mkF m 75 #[.val (.int i0), .val (.int i1), .val (.int i2), .val (.int i3), .val (.int i4), .val (.int ca), .val (.int cb), .val (.int cc), .val (.int cd), .val (.int (2 : Int32)), .unset, .unset] [(.ref a38)])) _
    refine sdup X40 hx (hb hby at_75) rfl rfl (pc' := 76) ?_
    refine siconst X40 hx (hb hby at_76) rfl rfl (z := 1) (pc' := 77) ?_
    refine siload X40 hx (hb hby at_77) rfl rfl (pc' := 79) ?_
    obtain ⟨T42, h42, X42, e42, W42, V42, st42⟩ := V40.stC X40 hx hZ e40 (j := (1 : Int32)) (by decide) (g := (mkF m 79 #[.val (.int i0), .val (.int i1), .val (.int i2), .val (.int i3), .val (.int i4), .val (.int ca), .val (.int cb), .val (.int cc), .val (.int cd), .val (.int (2 : Int32)), .unset, .unset] [(.int cb), (.int (1 : Int32)), (.ref a38), (.ref a38)])) rfl rfl (hb hby at_79)
    refine oOn st42 ?_
    have z43 : h40.size ≤ h42.size := Nat.le_of_eq W42.size.symm
    have N42 := Fr.snoc X42 N40 (by omega)
    show oGl p e below (T42.setTop (mkF m 80 #[.val (.int i0), .val (.int i1), .val (.int i2), .val (.int i3), .val (.int i4), .val (.int ca), .val (.int cb), .val (.int cc), .val (.int cd), .val (.int (2 : Int32)), .unset, .unset] [(.ref a38)])) _
    refine sastore X42 hx (hb hby at_80) rfl rfl rfl (l' := #[.val (.int i0), .val (.int i1), .val (.int i2), .val (.int i3), .val (.int i4), .val (.int ca), .val (.int cb), .val (.int cc), .val (.int cd), .val (.int (2 : Int32)), .val (.ref a38), .unset]) (pc' := 82) ?_
    refine sgoto X42 hx (hb hby at_82) (by decide) (by decide)  (pc' := 139) ?_
    refine siload X42 hx (hb hby at_139) rfl rfl (pc' := 141) ?_
    refine siconst X42 hx (hb hby at_141) rfl rfl (z := 1) (pc' := 142) ?_
    refine sicN X42 hx (hb hby at_142) rfl (flt (by decide : ¬ ((2 : Int32) < (1 : Int32)))).1 (pc' := 145) ?_
    refine siload X42 hx (hb hby at_145) rfl rfl (pc' := 147) ?_
    have hz44 : n0 ≤ h42.size := by omega
    obtain ⟨_, _, ⟨T44, L44, k44, n44⟩, -, X44, ⟨Lc44, hQ44, l44, y44, z44⟩, st44⟩ := Jvm.LawKit.callS X42 hx (y := (⟨"com/example/concordat/concordat/core/LimitsIsIdPinLaw", "ok", "(C)Z"⟩ : MethodName)) hown (mvT hZ (hw _ (List.mem_of_getElem? (i := 57) rfl))) (mvT hZ (hw _ (List.mem_of_getElem? (i := 58) rfl))) (mvT hZ (hw _ (List.mem_of_getElem? (i := 59) rfl))) (mvT hZ (hw _ (List.mem_of_getElem? (i := 60) rfl))) (by decide) (backOf (W := 0) (rmOk l Z a0 hw [] ca h42 n0 hz44 ) hZ (hw _ (List.mem_of_getElem? (i := 60) rfl)) (hw _ (List.mem_of_getElem? (i := 59) rfl)) (by decide) (by decide)) (g := (mkF m 147 #[.val (.int i0), .val (.int i1), .val (.int i2), .val (.int i3), .val (.int i4), .val (.int ca), .val (.int cb), .val (.int cc), .val (.int cd), .val (.int (2 : Int32)), .val (.ref a38), .unset] [(.int ca)])) rfl (by rw [hml]; rfl) (argsL := [(.int ca)]) (rest := []) (lenOf pd_19 rfl) rfl (by show 2 * 0 + _ ≤ _; exact Nat.le_of_eq rfl) (hb hby at_147) (fun _ _ => ⟨rfl, e42, (by decide : 1 + 0 ≤ _), (by decide : 2 + 0 ≤ _)⟩)
    dsimp only [Pt.U, Pt.locs, Pt.cells, Pt.slots] at X44 l44 y44 z44 st44 hQ44
    subst l44 y44 z44
    obtain ⟨r44, rfl, N44q, eh44, pq44⟩ := hQ44
    have N44 := Fr.app N42 N44q
    refine oOn st44 ?_
    show oGl p e below (T44.setTop (mkF m 150 #[.val (.int i0), .val (.int i1), .val (.int i2), .val (.int i3), .val (.int i4), .val (.int ca), .val (.int cb), .val (.int cc), .val (.int cd), .val (.int (2 : Int32)), .val (.ref a38), .unset] [(.int r44)])) _
    by_cases hc150 : r44 = (0 : Int32)
    · skip
      refine sifY X44 hx (hb hby at_150) (by decide) (by decide) (teq hc150).1 (pc' := 199) ?_
      refine siconst X44 hx (hb hby at_199) rfl rfl (z := 0) (pc' := 200) ?_
      refine sistore X44 hx (hb hby at_200) rfl rfl (l' := #[.val (.int i0), .val (.int i1), .val (.int i2), .val (.int i3), .val (.int i4), .val (.int ca), .val (.int cb), .val (.int cc), .val (.int cd), .val (.int (2 : Int32)), .val (.ref a38), .val (.int (0 : Int32))]) (pc' := 202) ?_
      obtain ⟨T45, h45, X45, e45, E45, A45, D45, -, st45⟩ := newO X44 hx hZ hown (hw _ (List.mem_of_getElem? (i := 1) rfl)) wiS (hw _ (List.mem_of_getElem? (i := 3) rfl)) eh44 (g := (mkF m 202 #[.val (.int i0), .val (.int i1), .val (.int i2), .val (.int i3), .val (.int i4), .val (.int ca), .val (.int cb), .val (.int cc), .val (.int cd), .val (.int (2 : Int32)), .val (.ref a38), .val (.int (0 : Int32))] [])) rfl (hb hby at_202) (by decide) (by decide)
      obtain ⟨a45, g45⟩ : ∃ z, z = h42.size := ⟨_, rfl⟩
      rw [← g45] at A45 D45 st45
      refine oOn st45 ?_
      have z46 : h42.size ≤ h45.size := E45.1
      have lt45 : a45 < h45.size := A45.lt
      have f45_16 : Fld Z h45 a45 "java/lang/String" "value" "[B" .null := D45 (Or.inr (hw _ (List.mem_of_getElem? (i := 16) rfl))) (ty := (.array .byte)) (by decide)
      have f45_17 : Fld Z h45 a45 "java/lang/String" "coder" "B" (.int (0 : Int32)) := D45 (Or.inr (hw _ (List.mem_of_getElem? (i := 17) rfl))) (ty := .byte) (by decide)
      show oGl p e below (T45.setTop (mkF m 205 #[.val (.int i0), .val (.int i1), .val (.int i2), .val (.int i3), .val (.int i4), .val (.int ca), .val (.int cb), .val (.int cc), .val (.int cd), .val (.int (2 : Int32)), .val (.ref a38), .val (.int (0 : Int32))] [(.ref a45)])) _
      refine sdup X45 hx (hb hby at_205) rfl rfl (pc' := 206) ?_
      refine saload X45 hx (hb hby at_206) rfl rfl rfl (pc' := 208) ?_
      have f47 := (V42.ext E45)
      have nxa : @Ne Nat a45 a38 := oNeO A45 wiS f47
      have Vm : oAI Z h45 a38 .char 2 (F4 ca cb cc cd) := f47.congr (fun j hj => by
        rcases (by omega : j = 0 ∨ j = 1) with rfl | rfl
        · exact hn_ca
        · exact hn_cb)
      have f48 := ((((O0.ext E38).wr W40 (by omega)).wr W42 (by omega)).ext E45)
      have hz49 : n0 ≤ h45.size := by omega
      have f50 := ((((hJ.ext E38).wrA W40 V38 wiS (by decide)).wrA W42 V40 wiS (by decide)).ext E45)
      obtain ⟨_, _, ⟨T49, L49, k49, n49⟩, -, X49, hS2, hg2, ⟨Lc49, hQ49, l49, y49, z49⟩, st49⟩ := X45.specialBackS hx (y := (⟨"java/lang/String", "<init>", "([C)V"⟩ : MethodName)) rfl hown (mvT hZ (hw _ (List.mem_of_getElem? (i := 4) rfl))) (mvT hZ (hw _ (List.mem_of_getElem? (i := 5) rfl))) (mvT hZ (hw _ (List.mem_of_getElem? (i := 6) rfl))) (by decide) (backOfV (J := fun vm => oEm Z vm h45) (W := 1) (rmStr l Z a0 hw [] a45 a38 2 (F4 ca cb cc cd) cz sf h45 n0 hz49 Vm (by decide) (hch4 _) nxa A45 f45_16 f45_17 (by omega) f48 SCS hcz SSF hsf SAD SHI SLO hcH hcw) hZ (hw _ (List.mem_of_getElem? (i := 6) rfl)) (hw _ (List.mem_of_getElem? (i := 3) rfl)) (by decide) (by decide)) (g := (mkF m 208 #[.val (.int i0), .val (.int i1), .val (.int i2), .val (.int i3), .val (.int i4), .val (.int ca), .val (.int cb), .val (.int cc), .val (.int cd), .val (.int (2 : Int32)), .val (.ref a38), .val (.int (0 : Int32))] [(.ref a38), (.ref a45), (.ref a45)])) rfl (by rw [hml]; rfl) (Steps.refl _) (a := a45) (argsL := [(.ref a38)]) (rest := [(.ref a45)]) (lenOf pd_17 rfl) rfl (by show 2 * 0 + _ ≤ _; exact Nat.le_of_eq rfl) (hb hby at_208) (fun _ hWw => ⟨rfl, e45, (by decide : 2 + 2 ≤ _), (by decide : 6 + 195 ≤ _), f50.warm hWw⟩)
      dsimp only [Pt.U, Pt.locs, Pt.cells, Pt.slots] at X49 l49 y49 z49 st49 hQ49 hS2 hg2
      subst l49 y49 z49
      obtain ⟨X49, hS, hZ, hown⟩ := rebS hS (n1 := T45.heap.size) (by rw [e45]; omega) X49 hS2 hg2 hZ hown
      have hk : T49.heap.size ≤ T49.heap.size := Nat.le_refl _
      obtain ⟨rfl, N49q, K49, Ex49, Os49, -⟩ := hQ49
      have N49 := Fr.app N44 N49q
      have z51 : h45.size ≤ T49.heap.size := K49.1
      refine oSt st49 ?_
      show oGl p e below (T49.setTop (mkF m 211 #[.val (.int i0), .val (.int i1), .val (.int i2), .val (.int i3), .val (.int i4), .val (.int ca), .val (.int cb), .val (.int cc), .val (.int cd), .val (.int (2 : Int32)), .val (.ref a38), .val (.int (0 : Int32))] [(.ref a45)])) _
      have f52 := (f48.keep K49 (allS (by omega) all0))
      have hz53 : n0 ≤ T49.heap.size := by omega
      obtain ⟨_, _, ⟨T53, L53, k53, n53⟩, -, X53, hS2, hg2, ⟨Lc53, hQ53, l53, y53, z53⟩, st53⟩ := callSS X49 hx (y := (⟨"com/example/concordat/concordat/core/Limits", "isId", "(Ljava/lang/String;)Z"⟩ : MethodName)) hown (mvT hZ (hw _ (List.mem_of_getElem? (i := 22) rfl))) (mvT hZ (hw _ (List.mem_of_getElem? (i := 23) rfl))) (mvT hZ (hw _ (List.mem_of_getElem? (i := 24) rfl))) (mvT hZ (hw _ (List.mem_of_getElem? (i := 25) rfl))) (by decide) (backOfS (W := 0) (rmIsId l Z a0 hw [] a45 2 (F4 ca cb cc cd) cz sf T49.heap n0 hz53 f52 SCS hcz SSF hsf SAD SHI SLO Ex49 Os49 (by decide) (hch4 _)) hZ (hw _ (List.mem_of_getElem? (i := 25) rfl)) (hw _ (List.mem_of_getElem? (i := 24) rfl)) (by decide) (by decide)) (g := (mkF m 211 #[.val (.int i0), .val (.int i1), .val (.int i2), .val (.int i3), .val (.int i4), .val (.int ca), .val (.int cb), .val (.int cc), .val (.int cd), .val (.int (2 : Int32)), .val (.ref a38), .val (.int (0 : Int32))] [(.ref a45)])) rfl (by rw [hml]; rfl) (argsL := [(.ref a45)]) (rest := []) (lenOf pd_18 rfl) rfl (by show 2 * 0 + _ ≤ _; exact Nat.le_of_eq rfl) (hb hby at_211) (fun _ _ => ⟨rfl, rfl, (by decide : 4 + 2 ≤ _), (by decide : 201 + 20 ≤ _)⟩)
      dsimp only [Pt.U, Pt.locs, Pt.cells, Pt.slots] at X53 l53 y53 z53 st53 hQ53 hS2 hg2
      subst l53 y53 z53
      obtain ⟨X53, hS, hZ, hown⟩ := rebS hS (n1 := T49.heap.size) (by omega) X53 hS2 hg2 hZ hown
      have hk : T53.heap.size ≤ T53.heap.size := Nat.le_refl _
      obtain ⟨r53, rfl, N53q, K53, pq53⟩ := hQ53
      have N53 := Fr.app N49 N53q
      have z54 : T49.heap.size ≤ T53.heap.size := K53.1
      refine oSt st53 ?_
      show oGl p e below (T53.setTop (mkF m 214 #[.val (.int i0), .val (.int i1), .val (.int i2), .val (.int i3), .val (.int i4), .val (.int ca), .val (.int cb), .val (.int cc), .val (.int cd), .val (.int (2 : Int32)), .val (.ref a38), .val (.int (0 : Int32))] [(.int r53)])) _
      refine siload X53 hx (hb hby at_214) rfl rfl (pc' := 216) ?_
      have hfin : r53 = (0 : Int32) := own_id0 pq53 (fun q => absurd (q.2 0 (by decide)) ((pq44.resolve_left (fun q => absurd (hc150.symm.trans q.1) (by decide))).2))
      refine sicN X53 hx (hb hby at_216) rfl (teq (hfin : r53 = (0 : Int32))).2 (pc' := 219) ?_
      refine siconst X53 hx (hb hby at_219) rfl rfl (z := 1) (pc' := 220) ?_
      refine sgoto X53 hx (hb hby at_220) (by decide) (by decide)  (pc' := 224) ?_
      refine oRetNV (t := .boolean) X53 hS (by omega) hx Bd.notSynchronized Bd.returns (by simp) (hb hby at_224) (by decide) (by decide) ?_
      show Q_rmL Z i0 i1 i2 i3 i4 cz sf h0 n0 _ T53.heap _ _
      exact ⟨rfl, N53⟩
    · skip
      refine sifN X44 hx (hb hby at_150) rfl (feq hc150).1 (pc' := 153) ?_
      refine siload X44 hx (hb hby at_153) rfl rfl (pc' := 155) ?_
      refine siconst X44 hx (hb hby at_155) rfl rfl (z := 2) (pc' := 156) ?_
      refine sicN X44 hx (hb hby at_156) rfl (flt (by decide : ¬ ((2 : Int32) < (2 : Int32)))).1 (pc' := 159) ?_
      refine siload X44 hx (hb hby at_159) rfl rfl (pc' := 161) ?_
      have hz55 : n0 ≤ h42.size := by omega
      obtain ⟨_, _, ⟨T55, L55, k55, n55⟩, -, X55, ⟨Lc55, hQ55, l55, y55, z55⟩, st55⟩ := Jvm.LawKit.callS X44 hx (y := (⟨"com/example/concordat/concordat/core/LimitsIsIdPinLaw", "ok", "(C)Z"⟩ : MethodName)) hown (mvT hZ (hw _ (List.mem_of_getElem? (i := 57) rfl))) (mvT hZ (hw _ (List.mem_of_getElem? (i := 58) rfl))) (mvT hZ (hw _ (List.mem_of_getElem? (i := 59) rfl))) (mvT hZ (hw _ (List.mem_of_getElem? (i := 60) rfl))) (by decide) (backOf (W := 0) (rmOk l Z a0 hw [] cb h42 n0 hz55 ) hZ (hw _ (List.mem_of_getElem? (i := 60) rfl)) (hw _ (List.mem_of_getElem? (i := 59) rfl)) (by decide) (by decide)) (g := (mkF m 161 #[.val (.int i0), .val (.int i1), .val (.int i2), .val (.int i3), .val (.int i4), .val (.int ca), .val (.int cb), .val (.int cc), .val (.int cd), .val (.int (2 : Int32)), .val (.ref a38), .unset] [(.int cb)])) rfl (by rw [hml]; rfl) (argsL := [(.int cb)]) (rest := []) (lenOf pd_19 rfl) rfl (by show 2 * 0 + _ ≤ _; exact Nat.le_of_eq rfl) (hb hby at_161) (fun _ _ => ⟨rfl, eh44, (by decide : 1 + 0 ≤ _), (by decide : 2 + 0 ≤ _)⟩)
      dsimp only [Pt.U, Pt.locs, Pt.cells, Pt.slots] at X55 l55 y55 z55 st55 hQ55
      subst l55 y55 z55
      obtain ⟨r55, rfl, N55q, eh55, pq55⟩ := hQ55
      have N55 := Fr.app N44 N55q
      refine oOn st55 ?_
      show oGl p e below (T55.setTop (mkF m 164 #[.val (.int i0), .val (.int i1), .val (.int i2), .val (.int i3), .val (.int i4), .val (.int ca), .val (.int cb), .val (.int cc), .val (.int cd), .val (.int (2 : Int32)), .val (.ref a38), .unset] [(.int r55)])) _
      by_cases hc164 : r55 = (0 : Int32)
      · skip
        refine sifY X55 hx (hb hby at_164) (by decide) (by decide) (teq hc164).1 (pc' := 199) ?_
        refine siconst X55 hx (hb hby at_199) rfl rfl (z := 0) (pc' := 200) ?_
        refine sistore X55 hx (hb hby at_200) rfl rfl (l' := #[.val (.int i0), .val (.int i1), .val (.int i2), .val (.int i3), .val (.int i4), .val (.int ca), .val (.int cb), .val (.int cc), .val (.int cd), .val (.int (2 : Int32)), .val (.ref a38), .val (.int (0 : Int32))]) (pc' := 202) ?_
        obtain ⟨T56, h56, X56, e56, E56, A56, D56, -, st56⟩ := newO X55 hx hZ hown (hw _ (List.mem_of_getElem? (i := 1) rfl)) wiS (hw _ (List.mem_of_getElem? (i := 3) rfl)) eh55 (g := (mkF m 202 #[.val (.int i0), .val (.int i1), .val (.int i2), .val (.int i3), .val (.int i4), .val (.int ca), .val (.int cb), .val (.int cc), .val (.int cd), .val (.int (2 : Int32)), .val (.ref a38), .val (.int (0 : Int32))] [])) rfl (hb hby at_202) (by decide) (by decide)
        obtain ⟨a56, g56⟩ : ∃ z, z = h42.size := ⟨_, rfl⟩
        rw [← g56] at A56 D56 st56
        refine oOn st56 ?_
        have z57 : h42.size ≤ h56.size := E56.1
        have lt56 : a56 < h56.size := A56.lt
        have f56_16 : Fld Z h56 a56 "java/lang/String" "value" "[B" .null := D56 (Or.inr (hw _ (List.mem_of_getElem? (i := 16) rfl))) (ty := (.array .byte)) (by decide)
        have f56_17 : Fld Z h56 a56 "java/lang/String" "coder" "B" (.int (0 : Int32)) := D56 (Or.inr (hw _ (List.mem_of_getElem? (i := 17) rfl))) (ty := .byte) (by decide)
        show oGl p e below (T56.setTop (mkF m 205 #[.val (.int i0), .val (.int i1), .val (.int i2), .val (.int i3), .val (.int i4), .val (.int ca), .val (.int cb), .val (.int cc), .val (.int cd), .val (.int (2 : Int32)), .val (.ref a38), .val (.int (0 : Int32))] [(.ref a56)])) _
        refine sdup X56 hx (hb hby at_205) rfl rfl (pc' := 206) ?_
        refine saload X56 hx (hb hby at_206) rfl rfl rfl (pc' := 208) ?_
        have f58 := (V42.ext E56)
        have nxa : @Ne Nat a56 a38 := oNeO A56 wiS f58
        have Vm : oAI Z h56 a38 .char 2 (F4 ca cb cc cd) := f58.congr (fun j hj => by
          rcases (by omega : j = 0 ∨ j = 1) with rfl | rfl
          · exact hn_ca
          · exact hn_cb)
        have f59 := ((((O0.ext E38).wr W40 (by omega)).wr W42 (by omega)).ext E56)
        have hz60 : n0 ≤ h56.size := by omega
        have f61 := ((((hJ.ext E38).wrA W40 V38 wiS (by decide)).wrA W42 V40 wiS (by decide)).ext E56)
        obtain ⟨_, _, ⟨T60, L60, k60, n60⟩, -, X60, hS2, hg2, ⟨Lc60, hQ60, l60, y60, z60⟩, st60⟩ := X56.specialBackS hx (y := (⟨"java/lang/String", "<init>", "([C)V"⟩ : MethodName)) rfl hown (mvT hZ (hw _ (List.mem_of_getElem? (i := 4) rfl))) (mvT hZ (hw _ (List.mem_of_getElem? (i := 5) rfl))) (mvT hZ (hw _ (List.mem_of_getElem? (i := 6) rfl))) (by decide) (backOfV (J := fun vm => oEm Z vm h56) (W := 1) (rmStr l Z a0 hw [] a56 a38 2 (F4 ca cb cc cd) cz sf h56 n0 hz60 Vm (by decide) (hch4 _) nxa A56 f56_16 f56_17 (by omega) f59 SCS hcz SSF hsf SAD SHI SLO hcH hcw) hZ (hw _ (List.mem_of_getElem? (i := 6) rfl)) (hw _ (List.mem_of_getElem? (i := 3) rfl)) (by decide) (by decide)) (g := (mkF m 208 #[.val (.int i0), .val (.int i1), .val (.int i2), .val (.int i3), .val (.int i4), .val (.int ca), .val (.int cb), .val (.int cc), .val (.int cd), .val (.int (2 : Int32)), .val (.ref a38), .val (.int (0 : Int32))] [(.ref a38), (.ref a56), (.ref a56)])) rfl (by rw [hml]; rfl) (Steps.refl _) (a := a56) (argsL := [(.ref a38)]) (rest := [(.ref a56)]) (lenOf pd_17 rfl) rfl (by show 2 * 0 + _ ≤ _; exact Nat.le_of_eq rfl) (hb hby at_208) (fun _ hWw => ⟨rfl, e56, (by decide : 2 + 2 ≤ _), (by decide : 6 + 195 ≤ _), f61.warm hWw⟩)
        dsimp only [Pt.U, Pt.locs, Pt.cells, Pt.slots] at X60 l60 y60 z60 st60 hQ60 hS2 hg2
        subst l60 y60 z60
        obtain ⟨X60, hS, hZ, hown⟩ := rebS hS (n1 := T56.heap.size) (by rw [e56]; omega) X60 hS2 hg2 hZ hown
        have hk : T60.heap.size ≤ T60.heap.size := Nat.le_refl _
        obtain ⟨rfl, N60q, K60, Ex60, Os60, -⟩ := hQ60
        have N60 := Fr.app N55 N60q
        have z62 : h56.size ≤ T60.heap.size := K60.1
        refine oSt st60 ?_
        show oGl p e below (T60.setTop (mkF m 211 #[.val (.int i0), .val (.int i1), .val (.int i2), .val (.int i3), .val (.int i4), .val (.int ca), .val (.int cb), .val (.int cc), .val (.int cd), .val (.int (2 : Int32)), .val (.ref a38), .val (.int (0 : Int32))] [(.ref a56)])) _
        have f63 := (f59.keep K60 (allS (by omega) all0))
        have hz64 : n0 ≤ T60.heap.size := by omega
        obtain ⟨_, _, ⟨T64, L64, k64, n64⟩, -, X64, hS2, hg2, ⟨Lc64, hQ64, l64, y64, z64⟩, st64⟩ := callSS X60 hx (y := (⟨"com/example/concordat/concordat/core/Limits", "isId", "(Ljava/lang/String;)Z"⟩ : MethodName)) hown (mvT hZ (hw _ (List.mem_of_getElem? (i := 22) rfl))) (mvT hZ (hw _ (List.mem_of_getElem? (i := 23) rfl))) (mvT hZ (hw _ (List.mem_of_getElem? (i := 24) rfl))) (mvT hZ (hw _ (List.mem_of_getElem? (i := 25) rfl))) (by decide) (backOfS (W := 0) (rmIsId l Z a0 hw [] a56 2 (F4 ca cb cc cd) cz sf T60.heap n0 hz64 f63 SCS hcz SSF hsf SAD SHI SLO Ex60 Os60 (by decide) (hch4 _)) hZ (hw _ (List.mem_of_getElem? (i := 25) rfl)) (hw _ (List.mem_of_getElem? (i := 24) rfl)) (by decide) (by decide)) (g := (mkF m 211 #[.val (.int i0), .val (.int i1), .val (.int i2), .val (.int i3), .val (.int i4), .val (.int ca), .val (.int cb), .val (.int cc), .val (.int cd), .val (.int (2 : Int32)), .val (.ref a38), .val (.int (0 : Int32))] [(.ref a56)])) rfl (by rw [hml]; rfl) (argsL := [(.ref a56)]) (rest := []) (lenOf pd_18 rfl) rfl (by show 2 * 0 + _ ≤ _; exact Nat.le_of_eq rfl) (hb hby at_211) (fun _ _ => ⟨rfl, rfl, (by decide : 4 + 2 ≤ _), (by decide : 201 + 20 ≤ _)⟩)
        dsimp only [Pt.U, Pt.locs, Pt.cells, Pt.slots] at X64 l64 y64 z64 st64 hQ64 hS2 hg2
        subst l64 y64 z64
        obtain ⟨X64, hS, hZ, hown⟩ := rebS hS (n1 := T60.heap.size) (by omega) X64 hS2 hg2 hZ hown
        have hk : T64.heap.size ≤ T64.heap.size := Nat.le_refl _
        obtain ⟨r64, rfl, N64q, K64, pq64⟩ := hQ64
        have N64 := Fr.app N60 N64q
        have z65 : T60.heap.size ≤ T64.heap.size := K64.1
        refine oSt st64 ?_
        show oGl p e below (T64.setTop (mkF m 214 #[.val (.int i0), .val (.int i1), .val (.int i2), .val (.int i3), .val (.int i4), .val (.int ca), .val (.int cb), .val (.int cc), .val (.int cd), .val (.int (2 : Int32)), .val (.ref a38), .val (.int (0 : Int32))] [(.int r64)])) _
        refine siload X64 hx (hb hby at_214) rfl rfl (pc' := 216) ?_
        have hfin : r64 = (0 : Int32) := own_id0 pq64 (fun q => absurd (q.2 1 (by decide)) ((pq55.resolve_left (fun q => absurd (hc164.symm.trans q.1) (by decide))).2))
        refine sicN X64 hx (hb hby at_216) rfl (teq (hfin : r64 = (0 : Int32))).2 (pc' := 219) ?_
        refine siconst X64 hx (hb hby at_219) rfl rfl (z := 1) (pc' := 220) ?_
        refine sgoto X64 hx (hb hby at_220) (by decide) (by decide)  (pc' := 224) ?_
        refine oRetNV (t := .boolean) X64 hS (by omega) hx Bd.notSynchronized Bd.returns (by simp) (hb hby at_224) (by decide) (by decide) ?_
        show Q_rmL Z i0 i1 i2 i3 i4 cz sf h0 n0 _ T64.heap _ _
        exact ⟨rfl, N64⟩
      · skip
        refine sifN X55 hx (hb hby at_164) rfl (feq hc164).1 (pc' := 167) ?_
        refine siload X55 hx (hb hby at_167) rfl rfl (pc' := 169) ?_
        refine siconst X55 hx (hb hby at_169) rfl rfl (z := 3) (pc' := 170) ?_
        refine sicY X55 hx (hb hby at_170) (by decide) (by decide) (tlt (by decide : (2 : Int32) < (3 : Int32))).1 (pc' := 181) ?_
        refine siload X55 hx (hb hby at_181) rfl rfl (pc' := 183) ?_
        refine siconst X55 hx (hb hby at_183) rfl rfl (z := 4) (pc' := 184) ?_
        refine sicY X55 hx (hb hby at_184) (by decide) (by decide) (tlt (by decide : (2 : Int32) < (4 : Int32))).1 (pc' := 195) ?_
        refine siconst X55 hx (hb hby at_195) rfl rfl (z := 1) (pc' := 196) ?_
        refine sgoto X55 hx (hb hby at_196) (by decide) (by decide)  (pc' := 200) ?_
        refine sistore X55 hx (hb hby at_200) rfl rfl (l' := #[.val (.int i0), .val (.int i1), .val (.int i2), .val (.int i3), .val (.int i4), .val (.int ca), .val (.int cb), .val (.int cc), .val (.int cd), .val (.int (2 : Int32)), .val (.ref a38), .val (.int (1 : Int32))]) (pc' := 202) ?_
        obtain ⟨T66, h66, X66, e66, E66, A66, D66, -, st66⟩ := newO X55 hx hZ hown (hw _ (List.mem_of_getElem? (i := 1) rfl)) wiS (hw _ (List.mem_of_getElem? (i := 3) rfl)) eh55 (g := (mkF m 202 #[.val (.int i0), .val (.int i1), .val (.int i2), .val (.int i3), .val (.int i4), .val (.int ca), .val (.int cb), .val (.int cc), .val (.int cd), .val (.int (2 : Int32)), .val (.ref a38), .val (.int (1 : Int32))] [])) rfl (hb hby at_202) (by decide) (by decide)
        obtain ⟨a66, g66⟩ : ∃ z, z = h42.size := ⟨_, rfl⟩
        rw [← g66] at A66 D66 st66
        refine oOn st66 ?_
        have z67 : h42.size ≤ h66.size := E66.1
        have lt66 : a66 < h66.size := A66.lt
        have f66_16 : Fld Z h66 a66 "java/lang/String" "value" "[B" .null := D66 (Or.inr (hw _ (List.mem_of_getElem? (i := 16) rfl))) (ty := (.array .byte)) (by decide)
        have f66_17 : Fld Z h66 a66 "java/lang/String" "coder" "B" (.int (0 : Int32)) := D66 (Or.inr (hw _ (List.mem_of_getElem? (i := 17) rfl))) (ty := .byte) (by decide)
        show oGl p e below (T66.setTop (mkF m 205 #[.val (.int i0), .val (.int i1), .val (.int i2), .val (.int i3), .val (.int i4), .val (.int ca), .val (.int cb), .val (.int cc), .val (.int cd), .val (.int (2 : Int32)), .val (.ref a38), .val (.int (1 : Int32))] [(.ref a66)])) _
        refine sdup X66 hx (hb hby at_205) rfl rfl (pc' := 206) ?_
        refine saload X66 hx (hb hby at_206) rfl rfl rfl (pc' := 208) ?_
        have f68 := (V42.ext E66)
        have nxa : @Ne Nat a66 a38 := oNeO A66 wiS f68
        have Vm : oAI Z h66 a38 .char 2 (F4 ca cb cc cd) := f68.congr (fun j hj => by
          rcases (by omega : j = 0 ∨ j = 1) with rfl | rfl
          · exact hn_ca
          · exact hn_cb)
        have f69 := ((((O0.ext E38).wr W40 (by omega)).wr W42 (by omega)).ext E66)
        have hz70 : n0 ≤ h66.size := by omega
        have f71 := ((((hJ.ext E38).wrA W40 V38 wiS (by decide)).wrA W42 V40 wiS (by decide)).ext E66)
        obtain ⟨_, _, ⟨T70, L70, k70, n70⟩, -, X70, hS2, hg2, ⟨Lc70, hQ70, l70, y70, z70⟩, st70⟩ := X66.specialBackS hx (y := (⟨"java/lang/String", "<init>", "([C)V"⟩ : MethodName)) rfl hown (mvT hZ (hw _ (List.mem_of_getElem? (i := 4) rfl))) (mvT hZ (hw _ (List.mem_of_getElem? (i := 5) rfl))) (mvT hZ (hw _ (List.mem_of_getElem? (i := 6) rfl))) (by decide) (backOfV (J := fun vm => oEm Z vm h66) (W := 1) (rmStr l Z a0 hw [] a66 a38 2 (F4 ca cb cc cd) cz sf h66 n0 hz70 Vm (by decide) (hch4 _) nxa A66 f66_16 f66_17 (by omega) f69 SCS hcz SSF hsf SAD SHI SLO hcH hcw) hZ (hw _ (List.mem_of_getElem? (i := 6) rfl)) (hw _ (List.mem_of_getElem? (i := 3) rfl)) (by decide) (by decide)) (g := (mkF m 208 #[.val (.int i0), .val (.int i1), .val (.int i2), .val (.int i3), .val (.int i4), .val (.int ca), .val (.int cb), .val (.int cc), .val (.int cd), .val (.int (2 : Int32)), .val (.ref a38), .val (.int (1 : Int32))] [(.ref a38), (.ref a66), (.ref a66)])) rfl (by rw [hml]; rfl) (Steps.refl _) (a := a66) (argsL := [(.ref a38)]) (rest := [(.ref a66)]) (lenOf pd_17 rfl) rfl (by show 2 * 0 + _ ≤ _; exact Nat.le_of_eq rfl) (hb hby at_208) (fun _ hWw => ⟨rfl, e66, (by decide : 2 + 2 ≤ _), (by decide : 6 + 195 ≤ _), f71.warm hWw⟩)
        dsimp only [Pt.U, Pt.locs, Pt.cells, Pt.slots] at X70 l70 y70 z70 st70 hQ70 hS2 hg2
        subst l70 y70 z70
        obtain ⟨X70, hS, hZ, hown⟩ := rebS hS (n1 := T66.heap.size) (by rw [e66]; omega) X70 hS2 hg2 hZ hown
        have hk : T70.heap.size ≤ T70.heap.size := Nat.le_refl _
        obtain ⟨rfl, N70q, K70, Ex70, Os70, -⟩ := hQ70
        have N70 := Fr.app N55 N70q
        have z72 : h66.size ≤ T70.heap.size := K70.1
        refine oSt st70 ?_
        show oGl p e below (T70.setTop (mkF m 211 #[.val (.int i0), .val (.int i1), .val (.int i2), .val (.int i3), .val (.int i4), .val (.int ca), .val (.int cb), .val (.int cc), .val (.int cd), .val (.int (2 : Int32)), .val (.ref a38), .val (.int (1 : Int32))] [(.ref a66)])) _
        have f73 := (f69.keep K70 (allS (by omega) all0))
        have hz74 : n0 ≤ T70.heap.size := by omega
        obtain ⟨_, _, ⟨T74, L74, k74, n74⟩, -, X74, hS2, hg2, ⟨Lc74, hQ74, l74, y74, z74⟩, st74⟩ := callSS X70 hx (y := (⟨"com/example/concordat/concordat/core/Limits", "isId", "(Ljava/lang/String;)Z"⟩ : MethodName)) hown (mvT hZ (hw _ (List.mem_of_getElem? (i := 22) rfl))) (mvT hZ (hw _ (List.mem_of_getElem? (i := 23) rfl))) (mvT hZ (hw _ (List.mem_of_getElem? (i := 24) rfl))) (mvT hZ (hw _ (List.mem_of_getElem? (i := 25) rfl))) (by decide) (backOfS (W := 0) (rmIsId l Z a0 hw [] a66 2 (F4 ca cb cc cd) cz sf T70.heap n0 hz74 f73 SCS hcz SSF hsf SAD SHI SLO Ex70 Os70 (by decide) (hch4 _)) hZ (hw _ (List.mem_of_getElem? (i := 25) rfl)) (hw _ (List.mem_of_getElem? (i := 24) rfl)) (by decide) (by decide)) (g := (mkF m 211 #[.val (.int i0), .val (.int i1), .val (.int i2), .val (.int i3), .val (.int i4), .val (.int ca), .val (.int cb), .val (.int cc), .val (.int cd), .val (.int (2 : Int32)), .val (.ref a38), .val (.int (1 : Int32))] [(.ref a66)])) rfl (by rw [hml]; rfl) (argsL := [(.ref a66)]) (rest := []) (lenOf pd_18 rfl) rfl (by show 2 * 0 + _ ≤ _; exact Nat.le_of_eq rfl) (hb hby at_211) (fun _ _ => ⟨rfl, rfl, (by decide : 4 + 2 ≤ _), (by decide : 201 + 20 ≤ _)⟩)
        dsimp only [Pt.U, Pt.locs, Pt.cells, Pt.slots] at X74 l74 y74 z74 st74 hQ74 hS2 hg2
        subst l74 y74 z74
        obtain ⟨X74, hS, hZ, hown⟩ := rebS hS (n1 := T70.heap.size) (by omega) X74 hS2 hg2 hZ hown
        have hk : T74.heap.size ≤ T74.heap.size := Nat.le_refl _
        obtain ⟨r74, rfl, N74q, K74, pq74⟩ := hQ74
        have N74 := Fr.app N70 N74q
        have z75 : T70.heap.size ≤ T74.heap.size := K74.1
        refine oSt st74 ?_
        show oGl p e below (T74.setTop (mkF m 214 #[.val (.int i0), .val (.int i1), .val (.int i2), .val (.int i3), .val (.int i4), .val (.int ca), .val (.int cb), .val (.int cc), .val (.int cd), .val (.int (2 : Int32)), .val (.ref a38), .val (.int (1 : Int32))] [(.int r74)])) _
        refine siload X74 hx (hb hby at_214) rfl rfl (pc' := 216) ?_
        have hfin : r74 = (1 : Int32) := own_id1 pq74 ⟨by decide, fun j hj => by
          rcases (by omega : j = 0 ∨ j = 1) with rfl | rfl
          · exact (pq44.resolve_right (fun q => hc150 q.1)).2
          · exact (pq55.resolve_right (fun q => hc164 q.1)).2⟩
        refine sicN X74 hx (hb hby at_216) rfl (teq (hfin : r74 = (1 : Int32))).2 (pc' := 219) ?_
        refine siconst X74 hx (hb hby at_219) rfl rfl (z := 1) (pc' := 220) ?_
        refine sgoto X74 hx (hb hby at_220) (by decide) (by decide)  (pc' := 224) ?_
        refine oRetNV (t := .boolean) X74 hS (by omega) hx Bd.notSynchronized Bd.returns (by simp) (hb hby at_224) (by decide) (by decide) ?_
        show Q_rmL Z i0 i1 i2 i3 i4 cz sf h0 n0 _ T74.heap _ _
        exact ⟨rfl, N74⟩
  · skip
    show oGl p e below (s₁.setTop (mkF m 23 #[.val (.int i0), .val (.int i1), .val (.int i2), .val (.int i3), .val (.int i4), .val (.int ca), .val (.int cb), .val (.int cc), .val (.int cd), .val (.int (3 : Int32)), .unset, .unset] [])) _
    refine siload X0 hx (hb hby at_23) rfl rfl (pc' := 25) ?_
    refine siconst X0 hx (hb hby at_25) rfl rfl (z := 4) (pc' := 26) ?_
    refine sicN X0 hx (hb hby at_26) rfl (flt (by decide : ¬ ((4 : Int32) < (3 : Int32)))).2.2.1 (pc' := 29) ?_
    refine siload X0 hx (hb hby at_29) rfl rfl (pc' := 31) ?_
    refine sifY X0 hx (hb hby at_31) (by decide) (by decide) (feq (by decide : ¬ ((3 : Int32) = (0 : Int32)))).2 (pc' := 42) ?_
    refine siload X0 hx (hb hby at_42) rfl rfl (pc' := 44) ?_
    refine siconst X0 hx (hb hby at_44) rfl rfl (z := 1) (pc' := 45) ?_
    refine sicY X0 hx (hb hby at_45) (by decide) (by decide) (feq (by decide : ¬ ((3 : Int32) = (1 : Int32)))).2 (pc' := 61) ?_
    refine siload X0 hx (hb hby at_61) rfl rfl (pc' := 63) ?_
    refine siconst X0 hx (hb hby at_63) rfl rfl (z := 2) (pc' := 64) ?_
    refine sicY X0 hx (hb hby at_64) (by decide) (by decide) (feq (by decide : ¬ ((3 : Int32) = (2 : Int32)))).2 (pc' := 85) ?_
    refine siload X0 hx (hb hby at_85) rfl rfl (pc' := 87) ?_
    refine siconst X0 hx (hb hby at_87) rfl rfl (z := 3) (pc' := 88) ?_
    refine sicN X0 hx (hb hby at_88) rfl (teq (by decide : (3 : Int32) = (3 : Int32))).2 (pc' := 91) ?_
    refine siconst X0 hx (hb hby at_91) rfl rfl (z := 3) (pc' := 92) ?_
    obtain ⟨T76, h76, k76, X76, e76, E76, A76, st76⟩ := newP X0 hx hZ (hw _ (List.mem_of_getElem? (i := 0) rfl)) e0 (g := (mkF m 92 #[.val (.int i0), .val (.int i1), .val (.int i2), .val (.int i3), .val (.int i4), .val (.int ca), .val (.int cb), .val (.int cc), .val (.int cd), .val (.int (3 : Int32)), .unset, .unset] [(.int (3 : Int32))])) rfl (hb hby at_92) rfl (by decide) (cap := 3) (by decide) (by decide) (by decide) (by decide)
    obtain ⟨a76, g76⟩ : ∃ z, z = h0.size := ⟨_, rfl⟩
    rw [← g76] at A76 st76
    refine oOn st76 ?_
    have z77 : h0.size ≤ h76.size := E76.1
    have lt76 : a76 < h76.size := A76.lt
    have V76 : oAI Z h76 a76 .char 3 (fun _ => 0) := oAI.new A76 rfl
    show oGl p e below (T76.setTop (mkF m 94 #[.val (.int i0), .val (.int i1), .val (.int i2), .val (.int i3), .val (.int i4), .val (.int ca), .val (.int cb), .val (.int cc), .val (.int cd), .val (.int (3 : Int32)), .unset, .unset] [(.ref a76)])) _
    refine sdup X76 hx (hb hby at_94) rfl rfl (pc' := 95) ?_
    refine siconst X76 hx (hb hby at_95) rfl rfl (z := 0) (pc' := 96) ?_
    refine siload X76 hx (hb hby at_96) rfl rfl (pc' := 98) ?_
    obtain ⟨T78, h78, X78, e78, W78, V78, st78⟩ := V76.stC X76 hx hZ e76 (j := (0 : Int32)) (by decide) (g := (mkF m 98 #[.val (.int i0), .val (.int i1), .val (.int i2), .val (.int i3), .val (.int i4), .val (.int ca), .val (.int cb), .val (.int cc), .val (.int cd), .val (.int (3 : Int32)), .unset, .unset] [(.int ca), (.int (0 : Int32)), (.ref a76), (.ref a76)])) rfl rfl (hb hby at_98)
    refine oOn st78 ?_
    have z79 : h76.size ≤ h78.size := Nat.le_of_eq W78.size.symm
    have N78 := Fr.snoc X78 N0 (by omega)
    show oGl p e below (T78.setTop (mkF m 99 #[.val (.int i0), .val (.int i1), .val (.int i2), .val (.int i3), .val (.int i4), .val (.int ca), .val (.int cb), .val (.int cc), .val (.int cd), .val (.int (3 : Int32)), .unset, .unset] [(.ref a76)])) _
    refine sdup X78 hx (hb hby at_99) rfl rfl (pc' := 100) ?_
    refine siconst X78 hx (hb hby at_100) rfl rfl (z := 1) (pc' := 101) ?_
    refine siload X78 hx (hb hby at_101) rfl rfl (pc' := 103) ?_
    obtain ⟨T80, h80, X80, e80, W80, V80, st80⟩ := V78.stC X78 hx hZ e78 (j := (1 : Int32)) (by decide) (g := (mkF m 103 #[.val (.int i0), .val (.int i1), .val (.int i2), .val (.int i3), .val (.int i4), .val (.int ca), .val (.int cb), .val (.int cc), .val (.int cd), .val (.int (3 : Int32)), .unset, .unset] [(.int cb), (.int (1 : Int32)), (.ref a76), (.ref a76)])) rfl rfl (hb hby at_103)
    refine oOn st80 ?_
    have z81 : h78.size ≤ h80.size := Nat.le_of_eq W80.size.symm
    have N80 := Fr.snoc X80 N78 (by omega)
    show oGl p e below (T80.setTop (mkF m 104 #[.val (.int i0), .val (.int i1), .val (.int i2), .val (.int i3), .val (.int i4), .val (.int ca), .val (.int cb), .val (.int cc), .val (.int cd), .val (.int (3 : Int32)), .unset, .unset] [(.ref a76)])) _
    refine sdup X80 hx (hb hby at_104) rfl rfl (pc' := 105) ?_
    refine siconst X80 hx (hb hby at_105) rfl rfl (z := 2) (pc' := 106) ?_
    refine siload X80 hx (hb hby at_106) rfl rfl (pc' := 108) ?_
    obtain ⟨T82, h82, X82, e82, W82, V82, st82⟩ := V80.stC X80 hx hZ e80 (j := (2 : Int32)) (by decide) (g := (mkF m 108 #[.val (.int i0), .val (.int i1), .val (.int i2), .val (.int i3), .val (.int i4), .val (.int ca), .val (.int cb), .val (.int cc), .val (.int cd), .val (.int (3 : Int32)), .unset, .unset] [(.int cc), (.int (2 : Int32)), (.ref a76), (.ref a76)])) rfl rfl (hb hby at_108)
    refine oOn st82 ?_
    have z83 : h80.size ≤ h82.size := Nat.le_of_eq W82.size.symm
    have N82 := Fr.snoc X82 N80 (by omega)
    show oGl p e below (T82.setTop (mkF m 109 #[.val (.int i0), .val (.int i1), .val (.int i2), .val (.int i3), .val (.int i4), .val (.int ca), .val (.int cb), .val (.int cc), .val (.int cd), .val (.int (3 : Int32)), .unset, .unset] [(.ref a76)])) _
    refine sastore X82 hx (hb hby at_109) rfl rfl rfl (l' := #[.val (.int i0), .val (.int i1), .val (.int i2), .val (.int i3), .val (.int i4), .val (.int ca), .val (.int cb), .val (.int cc), .val (.int cd), .val (.int (3 : Int32)), .val (.ref a76), .unset]) (pc' := 111) ?_
    refine sgoto X82 hx (hb hby at_111) (by decide) (by decide)  (pc' := 139) ?_
    refine siload X82 hx (hb hby at_139) rfl rfl (pc' := 141) ?_
    refine siconst X82 hx (hb hby at_141) rfl rfl (z := 1) (pc' := 142) ?_
    refine sicN X82 hx (hb hby at_142) rfl (flt (by decide : ¬ ((3 : Int32) < (1 : Int32)))).1 (pc' := 145) ?_
    refine siload X82 hx (hb hby at_145) rfl rfl (pc' := 147) ?_
    have hz84 : n0 ≤ h82.size := by omega
    obtain ⟨_, _, ⟨T84, L84, k84, n84⟩, -, X84, ⟨Lc84, hQ84, l84, y84, z84⟩, st84⟩ := Jvm.LawKit.callS X82 hx (y := (⟨"com/example/concordat/concordat/core/LimitsIsIdPinLaw", "ok", "(C)Z"⟩ : MethodName)) hown (mvT hZ (hw _ (List.mem_of_getElem? (i := 57) rfl))) (mvT hZ (hw _ (List.mem_of_getElem? (i := 58) rfl))) (mvT hZ (hw _ (List.mem_of_getElem? (i := 59) rfl))) (mvT hZ (hw _ (List.mem_of_getElem? (i := 60) rfl))) (by decide) (backOf (W := 0) (rmOk l Z a0 hw [] ca h82 n0 hz84 ) hZ (hw _ (List.mem_of_getElem? (i := 60) rfl)) (hw _ (List.mem_of_getElem? (i := 59) rfl)) (by decide) (by decide)) (g := (mkF m 147 #[.val (.int i0), .val (.int i1), .val (.int i2), .val (.int i3), .val (.int i4), .val (.int ca), .val (.int cb), .val (.int cc), .val (.int cd), .val (.int (3 : Int32)), .val (.ref a76), .unset] [(.int ca)])) rfl (by rw [hml]; rfl) (argsL := [(.int ca)]) (rest := []) (lenOf pd_19 rfl) rfl (by show 2 * 0 + _ ≤ _; exact Nat.le_of_eq rfl) (hb hby at_147) (fun _ _ => ⟨rfl, e82, (by decide : 1 + 0 ≤ _), (by decide : 3 + 0 ≤ _)⟩)
    dsimp only [Pt.U, Pt.locs, Pt.cells, Pt.slots] at X84 l84 y84 z84 st84 hQ84
    subst l84 y84 z84
    obtain ⟨r84, rfl, N84q, eh84, pq84⟩ := hQ84
    have N84 := Fr.app N82 N84q
    refine oOn st84 ?_
    show oGl p e below (T84.setTop (mkF m 150 #[.val (.int i0), .val (.int i1), .val (.int i2), .val (.int i3), .val (.int i4), .val (.int ca), .val (.int cb), .val (.int cc), .val (.int cd), .val (.int (3 : Int32)), .val (.ref a76), .unset] [(.int r84)])) _
    by_cases hc150 : r84 = (0 : Int32)
    · skip
      refine sifY X84 hx (hb hby at_150) (by decide) (by decide) (teq hc150).1 (pc' := 199) ?_
      refine siconst X84 hx (hb hby at_199) rfl rfl (z := 0) (pc' := 200) ?_
      refine sistore X84 hx (hb hby at_200) rfl rfl (l' := #[.val (.int i0), .val (.int i1), .val (.int i2), .val (.int i3), .val (.int i4), .val (.int ca), .val (.int cb), .val (.int cc), .val (.int cd), .val (.int (3 : Int32)), .val (.ref a76), .val (.int (0 : Int32))]) (pc' := 202) ?_
      obtain ⟨T85, h85, X85, e85, E85, A85, D85, -, st85⟩ := newO X84 hx hZ hown (hw _ (List.mem_of_getElem? (i := 1) rfl)) wiS (hw _ (List.mem_of_getElem? (i := 3) rfl)) eh84 (g := (mkF m 202 #[.val (.int i0), .val (.int i1), .val (.int i2), .val (.int i3), .val (.int i4), .val (.int ca), .val (.int cb), .val (.int cc), .val (.int cd), .val (.int (3 : Int32)), .val (.ref a76), .val (.int (0 : Int32))] [])) rfl (hb hby at_202) (by decide) (by decide)
      obtain ⟨a85, g85⟩ : ∃ z, z = h82.size := ⟨_, rfl⟩
      rw [← g85] at A85 D85 st85
      refine oOn st85 ?_
      have z86 : h82.size ≤ h85.size := E85.1
      have lt85 : a85 < h85.size := A85.lt
      have f85_16 : Fld Z h85 a85 "java/lang/String" "value" "[B" .null := D85 (Or.inr (hw _ (List.mem_of_getElem? (i := 16) rfl))) (ty := (.array .byte)) (by decide)
      have f85_17 : Fld Z h85 a85 "java/lang/String" "coder" "B" (.int (0 : Int32)) := D85 (Or.inr (hw _ (List.mem_of_getElem? (i := 17) rfl))) (ty := .byte) (by decide)
      show oGl p e below (T85.setTop (mkF m 205 #[.val (.int i0), .val (.int i1), .val (.int i2), .val (.int i3), .val (.int i4), .val (.int ca), .val (.int cb), .val (.int cc), .val (.int cd), .val (.int (3 : Int32)), .val (.ref a76), .val (.int (0 : Int32))] [(.ref a85)])) _
      refine sdup X85 hx (hb hby at_205) rfl rfl (pc' := 206) ?_
      refine saload X85 hx (hb hby at_206) rfl rfl rfl (pc' := 208) ?_
      have f87 := (V82.ext E85)
      have nxa : @Ne Nat a85 a76 := oNeO A85 wiS f87
      have Vm : oAI Z h85 a76 .char 3 (F4 ca cb cc cd) := f87.congr (fun j hj => by
        rcases (by omega : j = 0 ∨ j = 1 ∨ j = 2) with rfl | rfl | rfl
        · exact hn_ca
        · exact hn_cb
        · exact hn_cc)
      have f88 := (((((O0.ext E76).wr W78 (by omega)).wr W80 (by omega)).wr W82 (by omega)).ext E85)
      have hz89 : n0 ≤ h85.size := by omega
      have f90 := (((((hJ.ext E76).wrA W78 V76 wiS (by decide)).wrA W80 V78 wiS (by decide)).wrA W82 V80 wiS (by decide)).ext E85)
      obtain ⟨_, _, ⟨T89, L89, k89, n89⟩, -, X89, hS2, hg2, ⟨Lc89, hQ89, l89, y89, z89⟩, st89⟩ := X85.specialBackS hx (y := (⟨"java/lang/String", "<init>", "([C)V"⟩ : MethodName)) rfl hown (mvT hZ (hw _ (List.mem_of_getElem? (i := 4) rfl))) (mvT hZ (hw _ (List.mem_of_getElem? (i := 5) rfl))) (mvT hZ (hw _ (List.mem_of_getElem? (i := 6) rfl))) (by decide) (backOfV (J := fun vm => oEm Z vm h85) (W := 1) (rmStr l Z a0 hw [] a85 a76 3 (F4 ca cb cc cd) cz sf h85 n0 hz89 Vm (by decide) (hch4 _) nxa A85 f85_16 f85_17 (by omega) f88 SCS hcz SSF hsf SAD SHI SLO hcH hcw) hZ (hw _ (List.mem_of_getElem? (i := 6) rfl)) (hw _ (List.mem_of_getElem? (i := 3) rfl)) (by decide) (by decide)) (g := (mkF m 208 #[.val (.int i0), .val (.int i1), .val (.int i2), .val (.int i3), .val (.int i4), .val (.int ca), .val (.int cb), .val (.int cc), .val (.int cd), .val (.int (3 : Int32)), .val (.ref a76), .val (.int (0 : Int32))] [(.ref a76), (.ref a85), (.ref a85)])) rfl (by rw [hml]; rfl) (Steps.refl _) (a := a85) (argsL := [(.ref a76)]) (rest := [(.ref a85)]) (lenOf pd_17 rfl) rfl (by show 2 * 0 + _ ≤ _; exact Nat.le_of_eq rfl) (hb hby at_208) (fun _ hWw => ⟨rfl, e85, (by decide : 2 + 2 ≤ _), (by decide : 7 + 195 ≤ _), f90.warm hWw⟩)
      dsimp only [Pt.U, Pt.locs, Pt.cells, Pt.slots] at X89 l89 y89 z89 st89 hQ89 hS2 hg2
      subst l89 y89 z89
      obtain ⟨X89, hS, hZ, hown⟩ := rebS hS (n1 := T85.heap.size) (by rw [e85]; omega) X89 hS2 hg2 hZ hown
      have hk : T89.heap.size ≤ T89.heap.size := Nat.le_refl _
      obtain ⟨rfl, N89q, K89, Ex89, Os89, -⟩ := hQ89
      have N89 := Fr.app N84 N89q
      have z91 : h85.size ≤ T89.heap.size := K89.1
      refine oSt st89 ?_
      show oGl p e below (T89.setTop (mkF m 211 #[.val (.int i0), .val (.int i1), .val (.int i2), .val (.int i3), .val (.int i4), .val (.int ca), .val (.int cb), .val (.int cc), .val (.int cd), .val (.int (3 : Int32)), .val (.ref a76), .val (.int (0 : Int32))] [(.ref a85)])) _
      have f92 := (f88.keep K89 (allS (by omega) all0))
      have hz93 : n0 ≤ T89.heap.size := by omega
      obtain ⟨_, _, ⟨T93, L93, k93, n93⟩, -, X93, hS2, hg2, ⟨Lc93, hQ93, l93, y93, z93⟩, st93⟩ := callSS X89 hx (y := (⟨"com/example/concordat/concordat/core/Limits", "isId", "(Ljava/lang/String;)Z"⟩ : MethodName)) hown (mvT hZ (hw _ (List.mem_of_getElem? (i := 22) rfl))) (mvT hZ (hw _ (List.mem_of_getElem? (i := 23) rfl))) (mvT hZ (hw _ (List.mem_of_getElem? (i := 24) rfl))) (mvT hZ (hw _ (List.mem_of_getElem? (i := 25) rfl))) (by decide) (backOfS (W := 0) (rmIsId l Z a0 hw [] a85 3 (F4 ca cb cc cd) cz sf T89.heap n0 hz93 f92 SCS hcz SSF hsf SAD SHI SLO Ex89 Os89 (by decide) (hch4 _)) hZ (hw _ (List.mem_of_getElem? (i := 25) rfl)) (hw _ (List.mem_of_getElem? (i := 24) rfl)) (by decide) (by decide)) (g := (mkF m 211 #[.val (.int i0), .val (.int i1), .val (.int i2), .val (.int i3), .val (.int i4), .val (.int ca), .val (.int cb), .val (.int cc), .val (.int cd), .val (.int (3 : Int32)), .val (.ref a76), .val (.int (0 : Int32))] [(.ref a85)])) rfl (by rw [hml]; rfl) (argsL := [(.ref a85)]) (rest := []) (lenOf pd_18 rfl) rfl (by show 2 * 0 + _ ≤ _; exact Nat.le_of_eq rfl) (hb hby at_211) (fun _ _ => ⟨rfl, rfl, (by decide : 4 + 2 ≤ _), (by decide : 202 + 20 ≤ _)⟩)
      dsimp only [Pt.U, Pt.locs, Pt.cells, Pt.slots] at X93 l93 y93 z93 st93 hQ93 hS2 hg2
      subst l93 y93 z93
      obtain ⟨X93, hS, hZ, hown⟩ := rebS hS (n1 := T89.heap.size) (by omega) X93 hS2 hg2 hZ hown
      have hk : T93.heap.size ≤ T93.heap.size := Nat.le_refl _
      obtain ⟨r93, rfl, N93q, K93, pq93⟩ := hQ93
      have N93 := Fr.app N89 N93q
      have z94 : T89.heap.size ≤ T93.heap.size := K93.1
      refine oSt st93 ?_
      show oGl p e below (T93.setTop (mkF m 214 #[.val (.int i0), .val (.int i1), .val (.int i2), .val (.int i3), .val (.int i4), .val (.int ca), .val (.int cb), .val (.int cc), .val (.int cd), .val (.int (3 : Int32)), .val (.ref a76), .val (.int (0 : Int32))] [(.int r93)])) _
      refine siload X93 hx (hb hby at_214) rfl rfl (pc' := 216) ?_
      have hfin : r93 = (0 : Int32) := own_id0 pq93 (fun q => absurd (q.2 0 (by decide)) ((pq84.resolve_left (fun q => absurd (hc150.symm.trans q.1) (by decide))).2))
      refine sicN X93 hx (hb hby at_216) rfl (teq (hfin : r93 = (0 : Int32))).2 (pc' := 219) ?_
      refine siconst X93 hx (hb hby at_219) rfl rfl (z := 1) (pc' := 220) ?_
      refine sgoto X93 hx (hb hby at_220) (by decide) (by decide)  (pc' := 224) ?_
      refine oRetNV (t := .boolean) X93 hS (by omega) hx Bd.notSynchronized Bd.returns (by simp) (hb hby at_224) (by decide) (by decide) ?_
      show Q_rmL Z i0 i1 i2 i3 i4 cz sf h0 n0 _ T93.heap _ _
      exact ⟨rfl, N93⟩
    · skip
      refine sifN X84 hx (hb hby at_150) rfl (feq hc150).1 (pc' := 153) ?_
      refine siload X84 hx (hb hby at_153) rfl rfl (pc' := 155) ?_
      refine siconst X84 hx (hb hby at_155) rfl rfl (z := 2) (pc' := 156) ?_
      refine sicN X84 hx (hb hby at_156) rfl (flt (by decide : ¬ ((3 : Int32) < (2 : Int32)))).1 (pc' := 159) ?_
      refine siload X84 hx (hb hby at_159) rfl rfl (pc' := 161) ?_
      have hz95 : n0 ≤ h82.size := by omega
      obtain ⟨_, _, ⟨T95, L95, k95, n95⟩, -, X95, ⟨Lc95, hQ95, l95, y95, z95⟩, st95⟩ := Jvm.LawKit.callS X84 hx (y := (⟨"com/example/concordat/concordat/core/LimitsIsIdPinLaw", "ok", "(C)Z"⟩ : MethodName)) hown (mvT hZ (hw _ (List.mem_of_getElem? (i := 57) rfl))) (mvT hZ (hw _ (List.mem_of_getElem? (i := 58) rfl))) (mvT hZ (hw _ (List.mem_of_getElem? (i := 59) rfl))) (mvT hZ (hw _ (List.mem_of_getElem? (i := 60) rfl))) (by decide) (backOf (W := 0) (rmOk l Z a0 hw [] cb h82 n0 hz95 ) hZ (hw _ (List.mem_of_getElem? (i := 60) rfl)) (hw _ (List.mem_of_getElem? (i := 59) rfl)) (by decide) (by decide)) (g := (mkF m 161 #[.val (.int i0), .val (.int i1), .val (.int i2), .val (.int i3), .val (.int i4), .val (.int ca), .val (.int cb), .val (.int cc), .val (.int cd), .val (.int (3 : Int32)), .val (.ref a76), .unset] [(.int cb)])) rfl (by rw [hml]; rfl) (argsL := [(.int cb)]) (rest := []) (lenOf pd_19 rfl) rfl (by show 2 * 0 + _ ≤ _; exact Nat.le_of_eq rfl) (hb hby at_161) (fun _ _ => ⟨rfl, eh84, (by decide : 1 + 0 ≤ _), (by decide : 3 + 0 ≤ _)⟩)
      dsimp only [Pt.U, Pt.locs, Pt.cells, Pt.slots] at X95 l95 y95 z95 st95 hQ95
      subst l95 y95 z95
      obtain ⟨r95, rfl, N95q, eh95, pq95⟩ := hQ95
      have N95 := Fr.app N84 N95q
      refine oOn st95 ?_
      show oGl p e below (T95.setTop (mkF m 164 #[.val (.int i0), .val (.int i1), .val (.int i2), .val (.int i3), .val (.int i4), .val (.int ca), .val (.int cb), .val (.int cc), .val (.int cd), .val (.int (3 : Int32)), .val (.ref a76), .unset] [(.int r95)])) _
      by_cases hc164 : r95 = (0 : Int32)
      · skip
        refine sifY X95 hx (hb hby at_164) (by decide) (by decide) (teq hc164).1 (pc' := 199) ?_
        refine siconst X95 hx (hb hby at_199) rfl rfl (z := 0) (pc' := 200) ?_
        refine sistore X95 hx (hb hby at_200) rfl rfl (l' := #[.val (.int i0), .val (.int i1), .val (.int i2), .val (.int i3), .val (.int i4), .val (.int ca), .val (.int cb), .val (.int cc), .val (.int cd), .val (.int (3 : Int32)), .val (.ref a76), .val (.int (0 : Int32))]) (pc' := 202) ?_
        obtain ⟨T96, h96, X96, e96, E96, A96, D96, -, st96⟩ := newO X95 hx hZ hown (hw _ (List.mem_of_getElem? (i := 1) rfl)) wiS (hw _ (List.mem_of_getElem? (i := 3) rfl)) eh95 (g := (mkF m 202 #[.val (.int i0), .val (.int i1), .val (.int i2), .val (.int i3), .val (.int i4), .val (.int ca), .val (.int cb), .val (.int cc), .val (.int cd), .val (.int (3 : Int32)), .val (.ref a76), .val (.int (0 : Int32))] [])) rfl (hb hby at_202) (by decide) (by decide)
        obtain ⟨a96, g96⟩ : ∃ z, z = h82.size := ⟨_, rfl⟩
        rw [← g96] at A96 D96 st96
        refine oOn st96 ?_
        have z97 : h82.size ≤ h96.size := E96.1
        have lt96 : a96 < h96.size := A96.lt
        have f96_16 : Fld Z h96 a96 "java/lang/String" "value" "[B" .null := D96 (Or.inr (hw _ (List.mem_of_getElem? (i := 16) rfl))) (ty := (.array .byte)) (by decide)
        have f96_17 : Fld Z h96 a96 "java/lang/String" "coder" "B" (.int (0 : Int32)) := D96 (Or.inr (hw _ (List.mem_of_getElem? (i := 17) rfl))) (ty := .byte) (by decide)
        show oGl p e below (T96.setTop (mkF m 205 #[.val (.int i0), .val (.int i1), .val (.int i2), .val (.int i3), .val (.int i4), .val (.int ca), .val (.int cb), .val (.int cc), .val (.int cd), .val (.int (3 : Int32)), .val (.ref a76), .val (.int (0 : Int32))] [(.ref a96)])) _
        refine sdup X96 hx (hb hby at_205) rfl rfl (pc' := 206) ?_
        refine saload X96 hx (hb hby at_206) rfl rfl rfl (pc' := 208) ?_
        have f98 := (V82.ext E96)
        have nxa : @Ne Nat a96 a76 := oNeO A96 wiS f98
        have Vm : oAI Z h96 a76 .char 3 (F4 ca cb cc cd) := f98.congr (fun j hj => by
          rcases (by omega : j = 0 ∨ j = 1 ∨ j = 2) with rfl | rfl | rfl
          · exact hn_ca
          · exact hn_cb
          · exact hn_cc)
        have f99 := (((((O0.ext E76).wr W78 (by omega)).wr W80 (by omega)).wr W82 (by omega)).ext E96)
        have hz100 : n0 ≤ h96.size := by omega
        have f101 := (((((hJ.ext E76).wrA W78 V76 wiS (by decide)).wrA W80 V78 wiS (by decide)).wrA W82 V80 wiS (by decide)).ext E96)
        obtain ⟨_, _, ⟨T100, L100, k100, n100⟩, -, X100, hS2, hg2, ⟨Lc100, hQ100, l100, y100, z100⟩, st100⟩ := X96.specialBackS hx (y := (⟨"java/lang/String", "<init>", "([C)V"⟩ : MethodName)) rfl hown (mvT hZ (hw _ (List.mem_of_getElem? (i := 4) rfl))) (mvT hZ (hw _ (List.mem_of_getElem? (i := 5) rfl))) (mvT hZ (hw _ (List.mem_of_getElem? (i := 6) rfl))) (by decide) (backOfV (J := fun vm => oEm Z vm h96) (W := 1) (rmStr l Z a0 hw [] a96 a76 3 (F4 ca cb cc cd) cz sf h96 n0 hz100 Vm (by decide) (hch4 _) nxa A96 f96_16 f96_17 (by omega) f99 SCS hcz SSF hsf SAD SHI SLO hcH hcw) hZ (hw _ (List.mem_of_getElem? (i := 6) rfl)) (hw _ (List.mem_of_getElem? (i := 3) rfl)) (by decide) (by decide)) (g := (mkF m 208 #[.val (.int i0), .val (.int i1), .val (.int i2), .val (.int i3), .val (.int i4), .val (.int ca), .val (.int cb), .val (.int cc), .val (.int cd), .val (.int (3 : Int32)), .val (.ref a76), .val (.int (0 : Int32))] [(.ref a76), (.ref a96), (.ref a96)])) rfl (by rw [hml]; rfl) (Steps.refl _) (a := a96) (argsL := [(.ref a76)]) (rest := [(.ref a96)]) (lenOf pd_17 rfl) rfl (by show 2 * 0 + _ ≤ _; exact Nat.le_of_eq rfl) (hb hby at_208) (fun _ hWw => ⟨rfl, e96, (by decide : 2 + 2 ≤ _), (by decide : 7 + 195 ≤ _), f101.warm hWw⟩)
        dsimp only [Pt.U, Pt.locs, Pt.cells, Pt.slots] at X100 l100 y100 z100 st100 hQ100 hS2 hg2
        subst l100 y100 z100
        obtain ⟨X100, hS, hZ, hown⟩ := rebS hS (n1 := T96.heap.size) (by rw [e96]; omega) X100 hS2 hg2 hZ hown
        have hk : T100.heap.size ≤ T100.heap.size := Nat.le_refl _
        obtain ⟨rfl, N100q, K100, Ex100, Os100, -⟩ := hQ100
        have N100 := Fr.app N95 N100q
        have z102 : h96.size ≤ T100.heap.size := K100.1
        refine oSt st100 ?_
        show oGl p e below (T100.setTop (mkF m 211 #[.val (.int i0), .val (.int i1), .val (.int i2), .val (.int i3), .val (.int i4), .val (.int ca), .val (.int cb), .val (.int cc), .val (.int cd), .val (.int (3 : Int32)), .val (.ref a76), .val (.int (0 : Int32))] [(.ref a96)])) _
        have f103 := (f99.keep K100 (allS (by omega) all0))
        have hz104 : n0 ≤ T100.heap.size := by omega
        obtain ⟨_, _, ⟨T104, L104, k104, n104⟩, -, X104, hS2, hg2, ⟨Lc104, hQ104, l104, y104, z104⟩, st104⟩ := callSS X100 hx (y := (⟨"com/example/concordat/concordat/core/Limits", "isId", "(Ljava/lang/String;)Z"⟩ : MethodName)) hown (mvT hZ (hw _ (List.mem_of_getElem? (i := 22) rfl))) (mvT hZ (hw _ (List.mem_of_getElem? (i := 23) rfl))) (mvT hZ (hw _ (List.mem_of_getElem? (i := 24) rfl))) (mvT hZ (hw _ (List.mem_of_getElem? (i := 25) rfl))) (by decide) (backOfS (W := 0) (rmIsId l Z a0 hw [] a96 3 (F4 ca cb cc cd) cz sf T100.heap n0 hz104 f103 SCS hcz SSF hsf SAD SHI SLO Ex100 Os100 (by decide) (hch4 _)) hZ (hw _ (List.mem_of_getElem? (i := 25) rfl)) (hw _ (List.mem_of_getElem? (i := 24) rfl)) (by decide) (by decide)) (g := (mkF m 211 #[.val (.int i0), .val (.int i1), .val (.int i2), .val (.int i3), .val (.int i4), .val (.int ca), .val (.int cb), .val (.int cc), .val (.int cd), .val (.int (3 : Int32)), .val (.ref a76), .val (.int (0 : Int32))] [(.ref a96)])) rfl (by rw [hml]; rfl) (argsL := [(.ref a96)]) (rest := []) (lenOf pd_18 rfl) rfl (by show 2 * 0 + _ ≤ _; exact Nat.le_of_eq rfl) (hb hby at_211) (fun _ _ => ⟨rfl, rfl, (by decide : 4 + 2 ≤ _), (by decide : 202 + 20 ≤ _)⟩)
        dsimp only [Pt.U, Pt.locs, Pt.cells, Pt.slots] at X104 l104 y104 z104 st104 hQ104 hS2 hg2
        subst l104 y104 z104
        obtain ⟨X104, hS, hZ, hown⟩ := rebS hS (n1 := T100.heap.size) (by omega) X104 hS2 hg2 hZ hown
        have hk : T104.heap.size ≤ T104.heap.size := Nat.le_refl _
        obtain ⟨r104, rfl, N104q, K104, pq104⟩ := hQ104
        have N104 := Fr.app N100 N104q
        have z105 : T100.heap.size ≤ T104.heap.size := K104.1
        refine oSt st104 ?_
        show oGl p e below (T104.setTop (mkF m 214 #[.val (.int i0), .val (.int i1), .val (.int i2), .val (.int i3), .val (.int i4), .val (.int ca), .val (.int cb), .val (.int cc), .val (.int cd), .val (.int (3 : Int32)), .val (.ref a76), .val (.int (0 : Int32))] [(.int r104)])) _
        refine siload X104 hx (hb hby at_214) rfl rfl (pc' := 216) ?_
        have hfin : r104 = (0 : Int32) := own_id0 pq104 (fun q => absurd (q.2 1 (by decide)) ((pq95.resolve_left (fun q => absurd (hc164.symm.trans q.1) (by decide))).2))
        refine sicN X104 hx (hb hby at_216) rfl (teq (hfin : r104 = (0 : Int32))).2 (pc' := 219) ?_
        refine siconst X104 hx (hb hby at_219) rfl rfl (z := 1) (pc' := 220) ?_
        refine sgoto X104 hx (hb hby at_220) (by decide) (by decide)  (pc' := 224) ?_
        refine oRetNV (t := .boolean) X104 hS (by omega) hx Bd.notSynchronized Bd.returns (by simp) (hb hby at_224) (by decide) (by decide) ?_
        show Q_rmL Z i0 i1 i2 i3 i4 cz sf h0 n0 _ T104.heap _ _
        exact ⟨rfl, N104⟩
      · skip
        refine sifN X95 hx (hb hby at_164) rfl (feq hc164).1 (pc' := 167) ?_
        refine siload X95 hx (hb hby at_167) rfl rfl (pc' := 169) ?_
        refine siconst X95 hx (hb hby at_169) rfl rfl (z := 3) (pc' := 170) ?_
        refine sicN X95 hx (hb hby at_170) rfl (flt (by decide : ¬ ((3 : Int32) < (3 : Int32)))).1 (pc' := 173) ?_
        refine siload X95 hx (hb hby at_173) rfl rfl (pc' := 175) ?_
        have hz106 : n0 ≤ h82.size := by omega
        obtain ⟨_, _, ⟨T106, L106, k106, n106⟩, -, X106, ⟨Lc106, hQ106, l106, y106, z106⟩, st106⟩ := Jvm.LawKit.callS X95 hx (y := (⟨"com/example/concordat/concordat/core/LimitsIsIdPinLaw", "ok", "(C)Z"⟩ : MethodName)) hown (mvT hZ (hw _ (List.mem_of_getElem? (i := 57) rfl))) (mvT hZ (hw _ (List.mem_of_getElem? (i := 58) rfl))) (mvT hZ (hw _ (List.mem_of_getElem? (i := 59) rfl))) (mvT hZ (hw _ (List.mem_of_getElem? (i := 60) rfl))) (by decide) (backOf (W := 0) (rmOk l Z a0 hw [] cc h82 n0 hz106 ) hZ (hw _ (List.mem_of_getElem? (i := 60) rfl)) (hw _ (List.mem_of_getElem? (i := 59) rfl)) (by decide) (by decide)) (g := (mkF m 175 #[.val (.int i0), .val (.int i1), .val (.int i2), .val (.int i3), .val (.int i4), .val (.int ca), .val (.int cb), .val (.int cc), .val (.int cd), .val (.int (3 : Int32)), .val (.ref a76), .unset] [(.int cc)])) rfl (by rw [hml]; rfl) (argsL := [(.int cc)]) (rest := []) (lenOf pd_19 rfl) rfl (by show 2 * 0 + _ ≤ _; exact Nat.le_of_eq rfl) (hb hby at_175) (fun _ _ => ⟨rfl, eh95, (by decide : 1 + 0 ≤ _), (by decide : 3 + 0 ≤ _)⟩)
        dsimp only [Pt.U, Pt.locs, Pt.cells, Pt.slots] at X106 l106 y106 z106 st106 hQ106
        subst l106 y106 z106
        obtain ⟨r106, rfl, N106q, eh106, pq106⟩ := hQ106
        have N106 := Fr.app N95 N106q
        refine oOn st106 ?_
        show oGl p e below (T106.setTop (mkF m 178 #[.val (.int i0), .val (.int i1), .val (.int i2), .val (.int i3), .val (.int i4), .val (.int ca), .val (.int cb), .val (.int cc), .val (.int cd), .val (.int (3 : Int32)), .val (.ref a76), .unset] [(.int r106)])) _
        by_cases hc178 : r106 = (0 : Int32)
        · skip
          refine sifY X106 hx (hb hby at_178) (by decide) (by decide) (teq hc178).1 (pc' := 199) ?_
          refine siconst X106 hx (hb hby at_199) rfl rfl (z := 0) (pc' := 200) ?_
          refine sistore X106 hx (hb hby at_200) rfl rfl (l' := #[.val (.int i0), .val (.int i1), .val (.int i2), .val (.int i3), .val (.int i4), .val (.int ca), .val (.int cb), .val (.int cc), .val (.int cd), .val (.int (3 : Int32)), .val (.ref a76), .val (.int (0 : Int32))]) (pc' := 202) ?_
          obtain ⟨T107, h107, X107, e107, E107, A107, D107, -, st107⟩ := newO X106 hx hZ hown (hw _ (List.mem_of_getElem? (i := 1) rfl)) wiS (hw _ (List.mem_of_getElem? (i := 3) rfl)) eh106 (g := (mkF m 202 #[.val (.int i0), .val (.int i1), .val (.int i2), .val (.int i3), .val (.int i4), .val (.int ca), .val (.int cb), .val (.int cc), .val (.int cd), .val (.int (3 : Int32)), .val (.ref a76), .val (.int (0 : Int32))] [])) rfl (hb hby at_202) (by decide) (by decide)
          obtain ⟨a107, g107⟩ : ∃ z, z = h82.size := ⟨_, rfl⟩
          rw [← g107] at A107 D107 st107
          refine oOn st107 ?_
          have z108 : h82.size ≤ h107.size := E107.1
          have lt107 : a107 < h107.size := A107.lt
          have f107_16 : Fld Z h107 a107 "java/lang/String" "value" "[B" .null := D107 (Or.inr (hw _ (List.mem_of_getElem? (i := 16) rfl))) (ty := (.array .byte)) (by decide)
          have f107_17 : Fld Z h107 a107 "java/lang/String" "coder" "B" (.int (0 : Int32)) := D107 (Or.inr (hw _ (List.mem_of_getElem? (i := 17) rfl))) (ty := .byte) (by decide)
          show oGl p e below (T107.setTop (mkF m 205 #[.val (.int i0), .val (.int i1), .val (.int i2), .val (.int i3), .val (.int i4), .val (.int ca), .val (.int cb), .val (.int cc), .val (.int cd), .val (.int (3 : Int32)), .val (.ref a76), .val (.int (0 : Int32))] [(.ref a107)])) _
          refine sdup X107 hx (hb hby at_205) rfl rfl (pc' := 206) ?_
          refine saload X107 hx (hb hby at_206) rfl rfl rfl (pc' := 208) ?_
          have f109 := (V82.ext E107)
          have nxa : @Ne Nat a107 a76 := oNeO A107 wiS f109
          have Vm : oAI Z h107 a76 .char 3 (F4 ca cb cc cd) := f109.congr (fun j hj => by
            rcases (by omega : j = 0 ∨ j = 1 ∨ j = 2) with rfl | rfl | rfl
            · exact hn_ca
            · exact hn_cb
            · exact hn_cc)
          have f110 := (((((O0.ext E76).wr W78 (by omega)).wr W80 (by omega)).wr W82 (by omega)).ext E107)
          have hz111 : n0 ≤ h107.size := by omega
          have f112 := (((((hJ.ext E76).wrA W78 V76 wiS (by decide)).wrA W80 V78 wiS (by decide)).wrA W82 V80 wiS (by decide)).ext E107)
          obtain ⟨_, _, ⟨T111, L111, k111, n111⟩, -, X111, hS2, hg2, ⟨Lc111, hQ111, l111, y111, z111⟩, st111⟩ := X107.specialBackS hx (y := (⟨"java/lang/String", "<init>", "([C)V"⟩ : MethodName)) rfl hown (mvT hZ (hw _ (List.mem_of_getElem? (i := 4) rfl))) (mvT hZ (hw _ (List.mem_of_getElem? (i := 5) rfl))) (mvT hZ (hw _ (List.mem_of_getElem? (i := 6) rfl))) (by decide) (backOfV (J := fun vm => oEm Z vm h107) (W := 1) (rmStr l Z a0 hw [] a107 a76 3 (F4 ca cb cc cd) cz sf h107 n0 hz111 Vm (by decide) (hch4 _) nxa A107 f107_16 f107_17 (by omega) f110 SCS hcz SSF hsf SAD SHI SLO hcH hcw) hZ (hw _ (List.mem_of_getElem? (i := 6) rfl)) (hw _ (List.mem_of_getElem? (i := 3) rfl)) (by decide) (by decide)) (g := (mkF m 208 #[.val (.int i0), .val (.int i1), .val (.int i2), .val (.int i3), .val (.int i4), .val (.int ca), .val (.int cb), .val (.int cc), .val (.int cd), .val (.int (3 : Int32)), .val (.ref a76), .val (.int (0 : Int32))] [(.ref a76), (.ref a107), (.ref a107)])) rfl (by rw [hml]; rfl) (Steps.refl _) (a := a107) (argsL := [(.ref a76)]) (rest := [(.ref a107)]) (lenOf pd_17 rfl) rfl (by show 2 * 0 + _ ≤ _; exact Nat.le_of_eq rfl) (hb hby at_208) (fun _ hWw => ⟨rfl, e107, (by decide : 2 + 2 ≤ _), (by decide : 7 + 195 ≤ _), f112.warm hWw⟩)
          dsimp only [Pt.U, Pt.locs, Pt.cells, Pt.slots] at X111 l111 y111 z111 st111 hQ111 hS2 hg2
          subst l111 y111 z111
          obtain ⟨X111, hS, hZ, hown⟩ := rebS hS (n1 := T107.heap.size) (by rw [e107]; omega) X111 hS2 hg2 hZ hown
          have hk : T111.heap.size ≤ T111.heap.size := Nat.le_refl _
          obtain ⟨rfl, N111q, K111, Ex111, Os111, -⟩ := hQ111
          have N111 := Fr.app N106 N111q
          have z113 : h107.size ≤ T111.heap.size := K111.1
          refine oSt st111 ?_
          show oGl p e below (T111.setTop (mkF m 211 #[.val (.int i0), .val (.int i1), .val (.int i2), .val (.int i3), .val (.int i4), .val (.int ca), .val (.int cb), .val (.int cc), .val (.int cd), .val (.int (3 : Int32)), .val (.ref a76), .val (.int (0 : Int32))] [(.ref a107)])) _
          have f114 := (f110.keep K111 (allS (by omega) all0))
          have hz115 : n0 ≤ T111.heap.size := by omega
          obtain ⟨_, _, ⟨T115, L115, k115, n115⟩, -, X115, hS2, hg2, ⟨Lc115, hQ115, l115, y115, z115⟩, st115⟩ := callSS X111 hx (y := (⟨"com/example/concordat/concordat/core/Limits", "isId", "(Ljava/lang/String;)Z"⟩ : MethodName)) hown (mvT hZ (hw _ (List.mem_of_getElem? (i := 22) rfl))) (mvT hZ (hw _ (List.mem_of_getElem? (i := 23) rfl))) (mvT hZ (hw _ (List.mem_of_getElem? (i := 24) rfl))) (mvT hZ (hw _ (List.mem_of_getElem? (i := 25) rfl))) (by decide) (backOfS (W := 0) (rmIsId l Z a0 hw [] a107 3 (F4 ca cb cc cd) cz sf T111.heap n0 hz115 f114 SCS hcz SSF hsf SAD SHI SLO Ex111 Os111 (by decide) (hch4 _)) hZ (hw _ (List.mem_of_getElem? (i := 25) rfl)) (hw _ (List.mem_of_getElem? (i := 24) rfl)) (by decide) (by decide)) (g := (mkF m 211 #[.val (.int i0), .val (.int i1), .val (.int i2), .val (.int i3), .val (.int i4), .val (.int ca), .val (.int cb), .val (.int cc), .val (.int cd), .val (.int (3 : Int32)), .val (.ref a76), .val (.int (0 : Int32))] [(.ref a107)])) rfl (by rw [hml]; rfl) (argsL := [(.ref a107)]) (rest := []) (lenOf pd_18 rfl) rfl (by show 2 * 0 + _ ≤ _; exact Nat.le_of_eq rfl) (hb hby at_211) (fun _ _ => ⟨rfl, rfl, (by decide : 4 + 2 ≤ _), (by decide : 202 + 20 ≤ _)⟩)
          dsimp only [Pt.U, Pt.locs, Pt.cells, Pt.slots] at X115 l115 y115 z115 st115 hQ115 hS2 hg2
          subst l115 y115 z115
          obtain ⟨X115, hS, hZ, hown⟩ := rebS hS (n1 := T111.heap.size) (by omega) X115 hS2 hg2 hZ hown
          have hk : T115.heap.size ≤ T115.heap.size := Nat.le_refl _
          obtain ⟨r115, rfl, N115q, K115, pq115⟩ := hQ115
          have N115 := Fr.app N111 N115q
          have z116 : T111.heap.size ≤ T115.heap.size := K115.1
          refine oSt st115 ?_
          show oGl p e below (T115.setTop (mkF m 214 #[.val (.int i0), .val (.int i1), .val (.int i2), .val (.int i3), .val (.int i4), .val (.int ca), .val (.int cb), .val (.int cc), .val (.int cd), .val (.int (3 : Int32)), .val (.ref a76), .val (.int (0 : Int32))] [(.int r115)])) _
          refine siload X115 hx (hb hby at_214) rfl rfl (pc' := 216) ?_
          have hfin : r115 = (0 : Int32) := own_id0 pq115 (fun q => absurd (q.2 2 (by decide)) ((pq106.resolve_left (fun q => absurd (hc178.symm.trans q.1) (by decide))).2))
          refine sicN X115 hx (hb hby at_216) rfl (teq (hfin : r115 = (0 : Int32))).2 (pc' := 219) ?_
          refine siconst X115 hx (hb hby at_219) rfl rfl (z := 1) (pc' := 220) ?_
          refine sgoto X115 hx (hb hby at_220) (by decide) (by decide)  (pc' := 224) ?_
          refine oRetNV (t := .boolean) X115 hS (by omega) hx Bd.notSynchronized Bd.returns (by simp) (hb hby at_224) (by decide) (by decide) ?_
          show Q_rmL Z i0 i1 i2 i3 i4 cz sf h0 n0 _ T115.heap _ _
          exact ⟨rfl, N115⟩
        · skip
          refine sifN X106 hx (hb hby at_178) rfl (feq hc178).1 (pc' := 181) ?_
          refine siload X106 hx (hb hby at_181) rfl rfl (pc' := 183) ?_
          refine siconst X106 hx (hb hby at_183) rfl rfl (z := 4) (pc' := 184) ?_
          refine sicY X106 hx (hb hby at_184) (by decide) (by decide) (tlt (by decide : (3 : Int32) < (4 : Int32))).1 (pc' := 195) ?_
          refine siconst X106 hx (hb hby at_195) rfl rfl (z := 1) (pc' := 196) ?_
          refine sgoto X106 hx (hb hby at_196) (by decide) (by decide)  (pc' := 200) ?_
          refine sistore X106 hx (hb hby at_200) rfl rfl (l' := #[.val (.int i0), .val (.int i1), .val (.int i2), .val (.int i3), .val (.int i4), .val (.int ca), .val (.int cb), .val (.int cc), .val (.int cd), .val (.int (3 : Int32)), .val (.ref a76), .val (.int (1 : Int32))]) (pc' := 202) ?_
          obtain ⟨T117, h117, X117, e117, E117, A117, D117, -, st117⟩ := newO X106 hx hZ hown (hw _ (List.mem_of_getElem? (i := 1) rfl)) wiS (hw _ (List.mem_of_getElem? (i := 3) rfl)) eh106 (g := (mkF m 202 #[.val (.int i0), .val (.int i1), .val (.int i2), .val (.int i3), .val (.int i4), .val (.int ca), .val (.int cb), .val (.int cc), .val (.int cd), .val (.int (3 : Int32)), .val (.ref a76), .val (.int (1 : Int32))] [])) rfl (hb hby at_202) (by decide) (by decide)
          obtain ⟨a117, g117⟩ : ∃ z, z = h82.size := ⟨_, rfl⟩
          rw [← g117] at A117 D117 st117
          refine oOn st117 ?_
          have z118 : h82.size ≤ h117.size := E117.1
          have lt117 : a117 < h117.size := A117.lt
          have f117_16 : Fld Z h117 a117 "java/lang/String" "value" "[B" .null := D117 (Or.inr (hw _ (List.mem_of_getElem? (i := 16) rfl))) (ty := (.array .byte)) (by decide)
          have f117_17 : Fld Z h117 a117 "java/lang/String" "coder" "B" (.int (0 : Int32)) := D117 (Or.inr (hw _ (List.mem_of_getElem? (i := 17) rfl))) (ty := .byte) (by decide)
          show oGl p e below (T117.setTop (mkF m 205 #[.val (.int i0), .val (.int i1), .val (.int i2), .val (.int i3), .val (.int i4), .val (.int ca), .val (.int cb), .val (.int cc), .val (.int cd), .val (.int (3 : Int32)), .val (.ref a76), .val (.int (1 : Int32))] [(.ref a117)])) _
          refine sdup X117 hx (hb hby at_205) rfl rfl (pc' := 206) ?_
          refine saload X117 hx (hb hby at_206) rfl rfl rfl (pc' := 208) ?_
          have f119 := (V82.ext E117)
          have nxa : @Ne Nat a117 a76 := oNeO A117 wiS f119
          have Vm : oAI Z h117 a76 .char 3 (F4 ca cb cc cd) := f119.congr (fun j hj => by
            rcases (by omega : j = 0 ∨ j = 1 ∨ j = 2) with rfl | rfl | rfl
            · exact hn_ca
            · exact hn_cb
            · exact hn_cc)
          have f120 := (((((O0.ext E76).wr W78 (by omega)).wr W80 (by omega)).wr W82 (by omega)).ext E117)
          have hz121 : n0 ≤ h117.size := by omega
          have f122 := (((((hJ.ext E76).wrA W78 V76 wiS (by decide)).wrA W80 V78 wiS (by decide)).wrA W82 V80 wiS (by decide)).ext E117)
          obtain ⟨_, _, ⟨T121, L121, k121, n121⟩, -, X121, hS2, hg2, ⟨Lc121, hQ121, l121, y121, z121⟩, st121⟩ := X117.specialBackS hx (y := (⟨"java/lang/String", "<init>", "([C)V"⟩ : MethodName)) rfl hown (mvT hZ (hw _ (List.mem_of_getElem? (i := 4) rfl))) (mvT hZ (hw _ (List.mem_of_getElem? (i := 5) rfl))) (mvT hZ (hw _ (List.mem_of_getElem? (i := 6) rfl))) (by decide) (backOfV (J := fun vm => oEm Z vm h117) (W := 1) (rmStr l Z a0 hw [] a117 a76 3 (F4 ca cb cc cd) cz sf h117 n0 hz121 Vm (by decide) (hch4 _) nxa A117 f117_16 f117_17 (by omega) f120 SCS hcz SSF hsf SAD SHI SLO hcH hcw) hZ (hw _ (List.mem_of_getElem? (i := 6) rfl)) (hw _ (List.mem_of_getElem? (i := 3) rfl)) (by decide) (by decide)) (g := (mkF m 208 #[.val (.int i0), .val (.int i1), .val (.int i2), .val (.int i3), .val (.int i4), .val (.int ca), .val (.int cb), .val (.int cc), .val (.int cd), .val (.int (3 : Int32)), .val (.ref a76), .val (.int (1 : Int32))] [(.ref a76), (.ref a117), (.ref a117)])) rfl (by rw [hml]; rfl) (Steps.refl _) (a := a117) (argsL := [(.ref a76)]) (rest := [(.ref a117)]) (lenOf pd_17 rfl) rfl (by show 2 * 0 + _ ≤ _; exact Nat.le_of_eq rfl) (hb hby at_208) (fun _ hWw => ⟨rfl, e117, (by decide : 2 + 2 ≤ _), (by decide : 7 + 195 ≤ _), f122.warm hWw⟩)
          dsimp only [Pt.U, Pt.locs, Pt.cells, Pt.slots] at X121 l121 y121 z121 st121 hQ121 hS2 hg2
          subst l121 y121 z121
          obtain ⟨X121, hS, hZ, hown⟩ := rebS hS (n1 := T117.heap.size) (by rw [e117]; omega) X121 hS2 hg2 hZ hown
          have hk : T121.heap.size ≤ T121.heap.size := Nat.le_refl _
          obtain ⟨rfl, N121q, K121, Ex121, Os121, -⟩ := hQ121
          have N121 := Fr.app N106 N121q
          have z123 : h117.size ≤ T121.heap.size := K121.1
          refine oSt st121 ?_
          show oGl p e below (T121.setTop (mkF m 211 #[.val (.int i0), .val (.int i1), .val (.int i2), .val (.int i3), .val (.int i4), .val (.int ca), .val (.int cb), .val (.int cc), .val (.int cd), .val (.int (3 : Int32)), .val (.ref a76), .val (.int (1 : Int32))] [(.ref a117)])) _
          have f124 := (f120.keep K121 (allS (by omega) all0))
          have hz125 : n0 ≤ T121.heap.size := by omega
          obtain ⟨_, _, ⟨T125, L125, k125, n125⟩, -, X125, hS2, hg2, ⟨Lc125, hQ125, l125, y125, z125⟩, st125⟩ := callSS X121 hx (y := (⟨"com/example/concordat/concordat/core/Limits", "isId", "(Ljava/lang/String;)Z"⟩ : MethodName)) hown (mvT hZ (hw _ (List.mem_of_getElem? (i := 22) rfl))) (mvT hZ (hw _ (List.mem_of_getElem? (i := 23) rfl))) (mvT hZ (hw _ (List.mem_of_getElem? (i := 24) rfl))) (mvT hZ (hw _ (List.mem_of_getElem? (i := 25) rfl))) (by decide) (backOfS (W := 0) (rmIsId l Z a0 hw [] a117 3 (F4 ca cb cc cd) cz sf T121.heap n0 hz125 f124 SCS hcz SSF hsf SAD SHI SLO Ex121 Os121 (by decide) (hch4 _)) hZ (hw _ (List.mem_of_getElem? (i := 25) rfl)) (hw _ (List.mem_of_getElem? (i := 24) rfl)) (by decide) (by decide)) (g := (mkF m 211 #[.val (.int i0), .val (.int i1), .val (.int i2), .val (.int i3), .val (.int i4), .val (.int ca), .val (.int cb), .val (.int cc), .val (.int cd), .val (.int (3 : Int32)), .val (.ref a76), .val (.int (1 : Int32))] [(.ref a117)])) rfl (by rw [hml]; rfl) (argsL := [(.ref a117)]) (rest := []) (lenOf pd_18 rfl) rfl (by show 2 * 0 + _ ≤ _; exact Nat.le_of_eq rfl) (hb hby at_211) (fun _ _ => ⟨rfl, rfl, (by decide : 4 + 2 ≤ _), (by decide : 202 + 20 ≤ _)⟩)
          dsimp only [Pt.U, Pt.locs, Pt.cells, Pt.slots] at X125 l125 y125 z125 st125 hQ125 hS2 hg2
          subst l125 y125 z125
          obtain ⟨X125, hS, hZ, hown⟩ := rebS hS (n1 := T121.heap.size) (by omega) X125 hS2 hg2 hZ hown
          have hk : T125.heap.size ≤ T125.heap.size := Nat.le_refl _
          obtain ⟨r125, rfl, N125q, K125, pq125⟩ := hQ125
          have N125 := Fr.app N121 N125q
          have z126 : T121.heap.size ≤ T125.heap.size := K125.1
          refine oSt st125 ?_
          show oGl p e below (T125.setTop (mkF m 214 #[.val (.int i0), .val (.int i1), .val (.int i2), .val (.int i3), .val (.int i4), .val (.int ca), .val (.int cb), .val (.int cc), .val (.int cd), .val (.int (3 : Int32)), .val (.ref a76), .val (.int (1 : Int32))] [(.int r125)])) _
          refine siload X125 hx (hb hby at_214) rfl rfl (pc' := 216) ?_
          have hfin : r125 = (1 : Int32) := own_id1 pq125 ⟨by decide, fun j hj => by
            rcases (by omega : j = 0 ∨ j = 1 ∨ j = 2) with rfl | rfl | rfl
            · exact (pq84.resolve_right (fun q => hc150 q.1)).2
            · exact (pq95.resolve_right (fun q => hc164 q.1)).2
            · exact (pq106.resolve_right (fun q => hc178 q.1)).2⟩
          refine sicN X125 hx (hb hby at_216) rfl (teq (hfin : r125 = (1 : Int32))).2 (pc' := 219) ?_
          refine siconst X125 hx (hb hby at_219) rfl rfl (z := 1) (pc' := 220) ?_
          refine sgoto X125 hx (hb hby at_220) (by decide) (by decide)  (pc' := 224) ?_
          refine oRetNV (t := .boolean) X125 hS (by omega) hx Bd.notSynchronized Bd.returns (by simp) (hb hby at_224) (by decide) (by decide) ?_
          show Q_rmL Z i0 i1 i2 i3 i4 cz sf h0 n0 _ T125.heap _ _
          exact ⟨rfl, N125⟩
  · skip
    show oGl p e below (s₁.setTop (mkF m 23 #[.val (.int i0), .val (.int i1), .val (.int i2), .val (.int i3), .val (.int i4), .val (.int ca), .val (.int cb), .val (.int cc), .val (.int cd), .val (.int (4 : Int32)), .unset, .unset] [])) _
    refine siload X0 hx (hb hby at_23) rfl rfl (pc' := 25) ?_
    refine siconst X0 hx (hb hby at_25) rfl rfl (z := 4) (pc' := 26) ?_
    refine sicN X0 hx (hb hby at_26) rfl (flt (by decide : ¬ ((4 : Int32) < (4 : Int32)))).2.2.1 (pc' := 29) ?_
    refine siload X0 hx (hb hby at_29) rfl rfl (pc' := 31) ?_
    refine sifY X0 hx (hb hby at_31) (by decide) (by decide) (feq (by decide : ¬ ((4 : Int32) = (0 : Int32)))).2 (pc' := 42) ?_
    refine siload X0 hx (hb hby at_42) rfl rfl (pc' := 44) ?_
    refine siconst X0 hx (hb hby at_44) rfl rfl (z := 1) (pc' := 45) ?_
    refine sicY X0 hx (hb hby at_45) (by decide) (by decide) (feq (by decide : ¬ ((4 : Int32) = (1 : Int32)))).2 (pc' := 61) ?_
    refine siload X0 hx (hb hby at_61) rfl rfl (pc' := 63) ?_
    refine siconst X0 hx (hb hby at_63) rfl rfl (z := 2) (pc' := 64) ?_
    refine sicY X0 hx (hb hby at_64) (by decide) (by decide) (feq (by decide : ¬ ((4 : Int32) = (2 : Int32)))).2 (pc' := 85) ?_
    refine siload X0 hx (hb hby at_85) rfl rfl (pc' := 87) ?_
    refine siconst X0 hx (hb hby at_87) rfl rfl (z := 3) (pc' := 88) ?_
    refine sicY X0 hx (hb hby at_88) (by decide) (by decide) (feq (by decide : ¬ ((4 : Int32) = (3 : Int32)))).2 (pc' := 114) ?_
    refine siconst X0 hx (hb hby at_114) rfl rfl (z := 4) (pc' := 115) ?_
    obtain ⟨T127, h127, k127, X127, e127, E127, A127, st127⟩ := newP X0 hx hZ (hw _ (List.mem_of_getElem? (i := 0) rfl)) e0 (g := (mkF m 115 #[.val (.int i0), .val (.int i1), .val (.int i2), .val (.int i3), .val (.int i4), .val (.int ca), .val (.int cb), .val (.int cc), .val (.int cd), .val (.int (4 : Int32)), .unset, .unset] [(.int (4 : Int32))])) rfl (hb hby at_115) rfl (by decide) (cap := 4) (by decide) (by decide) (by decide) (by decide)
    obtain ⟨a127, g127⟩ : ∃ z, z = h0.size := ⟨_, rfl⟩
    rw [← g127] at A127 st127
    refine oOn st127 ?_
    have z128 : h0.size ≤ h127.size := E127.1
    have lt127 : a127 < h127.size := A127.lt
    have V127 : oAI Z h127 a127 .char 4 (fun _ => 0) := oAI.new A127 rfl
    show oGl p e below (T127.setTop (mkF m 117 #[.val (.int i0), .val (.int i1), .val (.int i2), .val (.int i3), .val (.int i4), .val (.int ca), .val (.int cb), .val (.int cc), .val (.int cd), .val (.int (4 : Int32)), .unset, .unset] [(.ref a127)])) _
    refine sdup X127 hx (hb hby at_117) rfl rfl (pc' := 118) ?_
    refine siconst X127 hx (hb hby at_118) rfl rfl (z := 0) (pc' := 119) ?_
    refine siload X127 hx (hb hby at_119) rfl rfl (pc' := 121) ?_
    obtain ⟨T129, h129, X129, e129, W129, V129, st129⟩ := V127.stC X127 hx hZ e127 (j := (0 : Int32)) (by decide) (g := (mkF m 121 #[.val (.int i0), .val (.int i1), .val (.int i2), .val (.int i3), .val (.int i4), .val (.int ca), .val (.int cb), .val (.int cc), .val (.int cd), .val (.int (4 : Int32)), .unset, .unset] [(.int ca), (.int (0 : Int32)), (.ref a127), (.ref a127)])) rfl rfl (hb hby at_121)
    refine oOn st129 ?_
    have z130 : h127.size ≤ h129.size := Nat.le_of_eq W129.size.symm
    have N129 := Fr.snoc X129 N0 (by omega)
    show oGl p e below (T129.setTop (mkF m 122 #[.val (.int i0), .val (.int i1), .val (.int i2), .val (.int i3), .val (.int i4), .val (.int ca), .val (.int cb), .val (.int cc), .val (.int cd), .val (.int (4 : Int32)), .unset, .unset] [(.ref a127)])) _
    refine sdup X129 hx (hb hby at_122) rfl rfl (pc' := 123) ?_
    refine siconst X129 hx (hb hby at_123) rfl rfl (z := 1) (pc' := 124) ?_
    refine siload X129 hx (hb hby at_124) rfl rfl (pc' := 126) ?_
    obtain ⟨T131, h131, X131, e131, W131, V131, st131⟩ := V129.stC X129 hx hZ e129 (j := (1 : Int32)) (by decide) (g := (mkF m 126 #[.val (.int i0), .val (.int i1), .val (.int i2), .val (.int i3), .val (.int i4), .val (.int ca), .val (.int cb), .val (.int cc), .val (.int cd), .val (.int (4 : Int32)), .unset, .unset] [(.int cb), (.int (1 : Int32)), (.ref a127), (.ref a127)])) rfl rfl (hb hby at_126)
    refine oOn st131 ?_
    have z132 : h129.size ≤ h131.size := Nat.le_of_eq W131.size.symm
    have N131 := Fr.snoc X131 N129 (by omega)
    show oGl p e below (T131.setTop (mkF m 127 #[.val (.int i0), .val (.int i1), .val (.int i2), .val (.int i3), .val (.int i4), .val (.int ca), .val (.int cb), .val (.int cc), .val (.int cd), .val (.int (4 : Int32)), .unset, .unset] [(.ref a127)])) _
    refine sdup X131 hx (hb hby at_127) rfl rfl (pc' := 128) ?_
    refine siconst X131 hx (hb hby at_128) rfl rfl (z := 2) (pc' := 129) ?_
    refine siload X131 hx (hb hby at_129) rfl rfl (pc' := 131) ?_
    obtain ⟨T133, h133, X133, e133, W133, V133, st133⟩ := V131.stC X131 hx hZ e131 (j := (2 : Int32)) (by decide) (g := (mkF m 131 #[.val (.int i0), .val (.int i1), .val (.int i2), .val (.int i3), .val (.int i4), .val (.int ca), .val (.int cb), .val (.int cc), .val (.int cd), .val (.int (4 : Int32)), .unset, .unset] [(.int cc), (.int (2 : Int32)), (.ref a127), (.ref a127)])) rfl rfl (hb hby at_131)
    refine oOn st133 ?_
    have z134 : h131.size ≤ h133.size := Nat.le_of_eq W133.size.symm
    have N133 := Fr.snoc X133 N131 (by omega)
    show oGl p e below (T133.setTop (mkF m 132 #[.val (.int i0), .val (.int i1), .val (.int i2), .val (.int i3), .val (.int i4), .val (.int ca), .val (.int cb), .val (.int cc), .val (.int cd), .val (.int (4 : Int32)), .unset, .unset] [(.ref a127)])) _
    refine sdup X133 hx (hb hby at_132) rfl rfl (pc' := 133) ?_
    refine siconst X133 hx (hb hby at_133) rfl rfl (z := 3) (pc' := 134) ?_
    refine siload X133 hx (hb hby at_134) rfl rfl (pc' := 136) ?_
    obtain ⟨T135, h135, X135, e135, W135, V135, st135⟩ := V133.stC X133 hx hZ e133 (j := (3 : Int32)) (by decide) (g := (mkF m 136 #[.val (.int i0), .val (.int i1), .val (.int i2), .val (.int i3), .val (.int i4), .val (.int ca), .val (.int cb), .val (.int cc), .val (.int cd), .val (.int (4 : Int32)), .unset, .unset] [(.int cd), (.int (3 : Int32)), (.ref a127), (.ref a127)])) rfl rfl (hb hby at_136)
    refine oOn st135 ?_
    have z136 : h133.size ≤ h135.size := Nat.le_of_eq W135.size.symm
    have N135 := Fr.snoc X135 N133 (by omega)
    show oGl p e below (T135.setTop (mkF m 137 #[.val (.int i0), .val (.int i1), .val (.int i2), .val (.int i3), .val (.int i4), .val (.int ca), .val (.int cb), .val (.int cc), .val (.int cd), .val (.int (4 : Int32)), .unset, .unset] [(.ref a127)])) _
    refine sastore X135 hx (hb hby at_137) rfl rfl rfl (l' := #[.val (.int i0), .val (.int i1), .val (.int i2), .val (.int i3), .val (.int i4), .val (.int ca), .val (.int cb), .val (.int cc), .val (.int cd), .val (.int (4 : Int32)), .val (.ref a127), .unset]) (pc' := 139) ?_
    refine siload X135 hx (hb hby at_139) rfl rfl (pc' := 141) ?_
    refine siconst X135 hx (hb hby at_141) rfl rfl (z := 1) (pc' := 142) ?_
    refine sicN X135 hx (hb hby at_142) rfl (flt (by decide : ¬ ((4 : Int32) < (1 : Int32)))).1 (pc' := 145) ?_
    refine siload X135 hx (hb hby at_145) rfl rfl (pc' := 147) ?_
    have hz137 : n0 ≤ h135.size := by omega
    obtain ⟨_, _, ⟨T137, L137, k137, n137⟩, -, X137, ⟨Lc137, hQ137, l137, y137, z137⟩, st137⟩ := Jvm.LawKit.callS X135 hx (y := (⟨"com/example/concordat/concordat/core/LimitsIsIdPinLaw", "ok", "(C)Z"⟩ : MethodName)) hown (mvT hZ (hw _ (List.mem_of_getElem? (i := 57) rfl))) (mvT hZ (hw _ (List.mem_of_getElem? (i := 58) rfl))) (mvT hZ (hw _ (List.mem_of_getElem? (i := 59) rfl))) (mvT hZ (hw _ (List.mem_of_getElem? (i := 60) rfl))) (by decide) (backOf (W := 0) (rmOk l Z a0 hw [] ca h135 n0 hz137 ) hZ (hw _ (List.mem_of_getElem? (i := 60) rfl)) (hw _ (List.mem_of_getElem? (i := 59) rfl)) (by decide) (by decide)) (g := (mkF m 147 #[.val (.int i0), .val (.int i1), .val (.int i2), .val (.int i3), .val (.int i4), .val (.int ca), .val (.int cb), .val (.int cc), .val (.int cd), .val (.int (4 : Int32)), .val (.ref a127), .unset] [(.int ca)])) rfl (by rw [hml]; rfl) (argsL := [(.int ca)]) (rest := []) (lenOf pd_19 rfl) rfl (by show 2 * 0 + _ ≤ _; exact Nat.le_of_eq rfl) (hb hby at_147) (fun _ _ => ⟨rfl, e135, (by decide : 1 + 0 ≤ _), (by decide : 4 + 0 ≤ _)⟩)
    dsimp only [Pt.U, Pt.locs, Pt.cells, Pt.slots] at X137 l137 y137 z137 st137 hQ137
    subst l137 y137 z137
    obtain ⟨r137, rfl, N137q, eh137, pq137⟩ := hQ137
    have N137 := Fr.app N135 N137q
    refine oOn st137 ?_
    show oGl p e below (T137.setTop (mkF m 150 #[.val (.int i0), .val (.int i1), .val (.int i2), .val (.int i3), .val (.int i4), .val (.int ca), .val (.int cb), .val (.int cc), .val (.int cd), .val (.int (4 : Int32)), .val (.ref a127), .unset] [(.int r137)])) _
    by_cases hc150 : r137 = (0 : Int32)
    · skip
      refine sifY X137 hx (hb hby at_150) (by decide) (by decide) (teq hc150).1 (pc' := 199) ?_
      refine siconst X137 hx (hb hby at_199) rfl rfl (z := 0) (pc' := 200) ?_
      refine sistore X137 hx (hb hby at_200) rfl rfl (l' := #[.val (.int i0), .val (.int i1), .val (.int i2), .val (.int i3), .val (.int i4), .val (.int ca), .val (.int cb), .val (.int cc), .val (.int cd), .val (.int (4 : Int32)), .val (.ref a127), .val (.int (0 : Int32))]) (pc' := 202) ?_
      obtain ⟨T138, h138, X138, e138, E138, A138, D138, -, st138⟩ := newO X137 hx hZ hown (hw _ (List.mem_of_getElem? (i := 1) rfl)) wiS (hw _ (List.mem_of_getElem? (i := 3) rfl)) eh137 (g := (mkF m 202 #[.val (.int i0), .val (.int i1), .val (.int i2), .val (.int i3), .val (.int i4), .val (.int ca), .val (.int cb), .val (.int cc), .val (.int cd), .val (.int (4 : Int32)), .val (.ref a127), .val (.int (0 : Int32))] [])) rfl (hb hby at_202) (by decide) (by decide)
      obtain ⟨a138, g138⟩ : ∃ z, z = h135.size := ⟨_, rfl⟩
      rw [← g138] at A138 D138 st138
      refine oOn st138 ?_
      have z139 : h135.size ≤ h138.size := E138.1
      have lt138 : a138 < h138.size := A138.lt
      have f138_16 : Fld Z h138 a138 "java/lang/String" "value" "[B" .null := D138 (Or.inr (hw _ (List.mem_of_getElem? (i := 16) rfl))) (ty := (.array .byte)) (by decide)
      have f138_17 : Fld Z h138 a138 "java/lang/String" "coder" "B" (.int (0 : Int32)) := D138 (Or.inr (hw _ (List.mem_of_getElem? (i := 17) rfl))) (ty := .byte) (by decide)
      show oGl p e below (T138.setTop (mkF m 205 #[.val (.int i0), .val (.int i1), .val (.int i2), .val (.int i3), .val (.int i4), .val (.int ca), .val (.int cb), .val (.int cc), .val (.int cd), .val (.int (4 : Int32)), .val (.ref a127), .val (.int (0 : Int32))] [(.ref a138)])) _
      refine sdup X138 hx (hb hby at_205) rfl rfl (pc' := 206) ?_
      refine saload X138 hx (hb hby at_206) rfl rfl rfl (pc' := 208) ?_
      have f140 := (V135.ext E138)
      have nxa : @Ne Nat a138 a127 := oNeO A138 wiS f140
      have Vm : oAI Z h138 a127 .char 4 (F4 ca cb cc cd) := f140.congr (fun j hj => by
        rcases (by omega : j = 0 ∨ j = 1 ∨ j = 2 ∨ j = 3) with rfl | rfl | rfl | rfl
        · exact hn_ca
        · exact hn_cb
        · exact hn_cc
        · exact hn_cd)
      have f141 := ((((((O0.ext E127).wr W129 (by omega)).wr W131 (by omega)).wr W133 (by omega)).wr W135 (by omega)).ext E138)
      have hz142 : n0 ≤ h138.size := by omega
      have f143 := ((((((hJ.ext E127).wrA W129 V127 wiS (by decide)).wrA W131 V129 wiS (by decide)).wrA W133 V131 wiS (by decide)).wrA W135 V133 wiS (by decide)).ext E138)
      obtain ⟨_, _, ⟨T142, L142, k142, n142⟩, -, X142, hS2, hg2, ⟨Lc142, hQ142, l142, y142, z142⟩, st142⟩ := X138.specialBackS hx (y := (⟨"java/lang/String", "<init>", "([C)V"⟩ : MethodName)) rfl hown (mvT hZ (hw _ (List.mem_of_getElem? (i := 4) rfl))) (mvT hZ (hw _ (List.mem_of_getElem? (i := 5) rfl))) (mvT hZ (hw _ (List.mem_of_getElem? (i := 6) rfl))) (by decide) (backOfV (J := fun vm => oEm Z vm h138) (W := 1) (rmStr l Z a0 hw [] a138 a127 4 (F4 ca cb cc cd) cz sf h138 n0 hz142 Vm (by decide) (hch4 _) nxa A138 f138_16 f138_17 (by omega) f141 SCS hcz SSF hsf SAD SHI SLO hcH hcw) hZ (hw _ (List.mem_of_getElem? (i := 6) rfl)) (hw _ (List.mem_of_getElem? (i := 3) rfl)) (by decide) (by decide)) (g := (mkF m 208 #[.val (.int i0), .val (.int i1), .val (.int i2), .val (.int i3), .val (.int i4), .val (.int ca), .val (.int cb), .val (.int cc), .val (.int cd), .val (.int (4 : Int32)), .val (.ref a127), .val (.int (0 : Int32))] [(.ref a127), (.ref a138), (.ref a138)])) rfl (by rw [hml]; rfl) (Steps.refl _) (a := a138) (argsL := [(.ref a127)]) (rest := [(.ref a138)]) (lenOf pd_17 rfl) rfl (by show 2 * 0 + _ ≤ _; exact Nat.le_of_eq rfl) (hb hby at_208) (fun _ hWw => ⟨rfl, e138, (by decide : 2 + 2 ≤ _), (by decide : 8 + 195 ≤ _), f143.warm hWw⟩)
      dsimp only [Pt.U, Pt.locs, Pt.cells, Pt.slots] at X142 l142 y142 z142 st142 hQ142 hS2 hg2
      subst l142 y142 z142
      obtain ⟨X142, hS, hZ, hown⟩ := rebS hS (n1 := T138.heap.size) (by rw [e138]; omega) X142 hS2 hg2 hZ hown
      have hk : T142.heap.size ≤ T142.heap.size := Nat.le_refl _
      obtain ⟨rfl, N142q, K142, Ex142, Os142, -⟩ := hQ142
      have N142 := Fr.app N137 N142q
      have z144 : h138.size ≤ T142.heap.size := K142.1
      refine oSt st142 ?_
      show oGl p e below (T142.setTop (mkF m 211 #[.val (.int i0), .val (.int i1), .val (.int i2), .val (.int i3), .val (.int i4), .val (.int ca), .val (.int cb), .val (.int cc), .val (.int cd), .val (.int (4 : Int32)), .val (.ref a127), .val (.int (0 : Int32))] [(.ref a138)])) _
      have f145 := (f141.keep K142 (allS (by omega) all0))
      have hz146 : n0 ≤ T142.heap.size := by omega
      obtain ⟨_, _, ⟨T146, L146, k146, n146⟩, -, X146, hS2, hg2, ⟨Lc146, hQ146, l146, y146, z146⟩, st146⟩ := callSS X142 hx (y := (⟨"com/example/concordat/concordat/core/Limits", "isId", "(Ljava/lang/String;)Z"⟩ : MethodName)) hown (mvT hZ (hw _ (List.mem_of_getElem? (i := 22) rfl))) (mvT hZ (hw _ (List.mem_of_getElem? (i := 23) rfl))) (mvT hZ (hw _ (List.mem_of_getElem? (i := 24) rfl))) (mvT hZ (hw _ (List.mem_of_getElem? (i := 25) rfl))) (by decide) (backOfS (W := 0) (rmIsId l Z a0 hw [] a138 4 (F4 ca cb cc cd) cz sf T142.heap n0 hz146 f145 SCS hcz SSF hsf SAD SHI SLO Ex142 Os142 (by decide) (hch4 _)) hZ (hw _ (List.mem_of_getElem? (i := 25) rfl)) (hw _ (List.mem_of_getElem? (i := 24) rfl)) (by decide) (by decide)) (g := (mkF m 211 #[.val (.int i0), .val (.int i1), .val (.int i2), .val (.int i3), .val (.int i4), .val (.int ca), .val (.int cb), .val (.int cc), .val (.int cd), .val (.int (4 : Int32)), .val (.ref a127), .val (.int (0 : Int32))] [(.ref a138)])) rfl (by rw [hml]; rfl) (argsL := [(.ref a138)]) (rest := []) (lenOf pd_18 rfl) rfl (by show 2 * 0 + _ ≤ _; exact Nat.le_of_eq rfl) (hb hby at_211) (fun _ _ => ⟨rfl, rfl, (by decide : 4 + 2 ≤ _), (by decide : 203 + 20 ≤ _)⟩)
      dsimp only [Pt.U, Pt.locs, Pt.cells, Pt.slots] at X146 l146 y146 z146 st146 hQ146 hS2 hg2
      subst l146 y146 z146
      obtain ⟨X146, hS, hZ, hown⟩ := rebS hS (n1 := T142.heap.size) (by omega) X146 hS2 hg2 hZ hown
      have hk : T146.heap.size ≤ T146.heap.size := Nat.le_refl _
      obtain ⟨r146, rfl, N146q, K146, pq146⟩ := hQ146
      have N146 := Fr.app N142 N146q
      have z147 : T142.heap.size ≤ T146.heap.size := K146.1
      refine oSt st146 ?_
      show oGl p e below (T146.setTop (mkF m 214 #[.val (.int i0), .val (.int i1), .val (.int i2), .val (.int i3), .val (.int i4), .val (.int ca), .val (.int cb), .val (.int cc), .val (.int cd), .val (.int (4 : Int32)), .val (.ref a127), .val (.int (0 : Int32))] [(.int r146)])) _
      refine siload X146 hx (hb hby at_214) rfl rfl (pc' := 216) ?_
      have hfin : r146 = (0 : Int32) := own_id0 pq146 (fun q => absurd (q.2 0 (by decide)) ((pq137.resolve_left (fun q => absurd (hc150.symm.trans q.1) (by decide))).2))
      refine sicN X146 hx (hb hby at_216) rfl (teq (hfin : r146 = (0 : Int32))).2 (pc' := 219) ?_
      refine siconst X146 hx (hb hby at_219) rfl rfl (z := 1) (pc' := 220) ?_
      refine sgoto X146 hx (hb hby at_220) (by decide) (by decide)  (pc' := 224) ?_
      refine oRetNV (t := .boolean) X146 hS (by omega) hx Bd.notSynchronized Bd.returns (by simp) (hb hby at_224) (by decide) (by decide) ?_
      show Q_rmL Z i0 i1 i2 i3 i4 cz sf h0 n0 _ T146.heap _ _
      exact ⟨rfl, N146⟩
    · skip
      refine sifN X137 hx (hb hby at_150) rfl (feq hc150).1 (pc' := 153) ?_
      refine siload X137 hx (hb hby at_153) rfl rfl (pc' := 155) ?_
      refine siconst X137 hx (hb hby at_155) rfl rfl (z := 2) (pc' := 156) ?_
      refine sicN X137 hx (hb hby at_156) rfl (flt (by decide : ¬ ((4 : Int32) < (2 : Int32)))).1 (pc' := 159) ?_
      refine siload X137 hx (hb hby at_159) rfl rfl (pc' := 161) ?_
      have hz148 : n0 ≤ h135.size := by omega
      obtain ⟨_, _, ⟨T148, L148, k148, n148⟩, -, X148, ⟨Lc148, hQ148, l148, y148, z148⟩, st148⟩ := Jvm.LawKit.callS X137 hx (y := (⟨"com/example/concordat/concordat/core/LimitsIsIdPinLaw", "ok", "(C)Z"⟩ : MethodName)) hown (mvT hZ (hw _ (List.mem_of_getElem? (i := 57) rfl))) (mvT hZ (hw _ (List.mem_of_getElem? (i := 58) rfl))) (mvT hZ (hw _ (List.mem_of_getElem? (i := 59) rfl))) (mvT hZ (hw _ (List.mem_of_getElem? (i := 60) rfl))) (by decide) (backOf (W := 0) (rmOk l Z a0 hw [] cb h135 n0 hz148 ) hZ (hw _ (List.mem_of_getElem? (i := 60) rfl)) (hw _ (List.mem_of_getElem? (i := 59) rfl)) (by decide) (by decide)) (g := (mkF m 161 #[.val (.int i0), .val (.int i1), .val (.int i2), .val (.int i3), .val (.int i4), .val (.int ca), .val (.int cb), .val (.int cc), .val (.int cd), .val (.int (4 : Int32)), .val (.ref a127), .unset] [(.int cb)])) rfl (by rw [hml]; rfl) (argsL := [(.int cb)]) (rest := []) (lenOf pd_19 rfl) rfl (by show 2 * 0 + _ ≤ _; exact Nat.le_of_eq rfl) (hb hby at_161) (fun _ _ => ⟨rfl, eh137, (by decide : 1 + 0 ≤ _), (by decide : 4 + 0 ≤ _)⟩)
      dsimp only [Pt.U, Pt.locs, Pt.cells, Pt.slots] at X148 l148 y148 z148 st148 hQ148
      subst l148 y148 z148
      obtain ⟨r148, rfl, N148q, eh148, pq148⟩ := hQ148
      have N148 := Fr.app N137 N148q
      refine oOn st148 ?_
      show oGl p e below (T148.setTop (mkF m 164 #[.val (.int i0), .val (.int i1), .val (.int i2), .val (.int i3), .val (.int i4), .val (.int ca), .val (.int cb), .val (.int cc), .val (.int cd), .val (.int (4 : Int32)), .val (.ref a127), .unset] [(.int r148)])) _
      by_cases hc164 : r148 = (0 : Int32)
      · skip
        refine sifY X148 hx (hb hby at_164) (by decide) (by decide) (teq hc164).1 (pc' := 199) ?_
        refine siconst X148 hx (hb hby at_199) rfl rfl (z := 0) (pc' := 200) ?_
        refine sistore X148 hx (hb hby at_200) rfl rfl (l' := #[.val (.int i0), .val (.int i1), .val (.int i2), .val (.int i3), .val (.int i4), .val (.int ca), .val (.int cb), .val (.int cc), .val (.int cd), .val (.int (4 : Int32)), .val (.ref a127), .val (.int (0 : Int32))]) (pc' := 202) ?_
        obtain ⟨T149, h149, X149, e149, E149, A149, D149, -, st149⟩ := newO X148 hx hZ hown (hw _ (List.mem_of_getElem? (i := 1) rfl)) wiS (hw _ (List.mem_of_getElem? (i := 3) rfl)) eh148 (g := (mkF m 202 #[.val (.int i0), .val (.int i1), .val (.int i2), .val (.int i3), .val (.int i4), .val (.int ca), .val (.int cb), .val (.int cc), .val (.int cd), .val (.int (4 : Int32)), .val (.ref a127), .val (.int (0 : Int32))] [])) rfl (hb hby at_202) (by decide) (by decide)
        obtain ⟨a149, g149⟩ : ∃ z, z = h135.size := ⟨_, rfl⟩
        rw [← g149] at A149 D149 st149
        refine oOn st149 ?_
        have z150 : h135.size ≤ h149.size := E149.1
        have lt149 : a149 < h149.size := A149.lt
        have f149_16 : Fld Z h149 a149 "java/lang/String" "value" "[B" .null := D149 (Or.inr (hw _ (List.mem_of_getElem? (i := 16) rfl))) (ty := (.array .byte)) (by decide)
        have f149_17 : Fld Z h149 a149 "java/lang/String" "coder" "B" (.int (0 : Int32)) := D149 (Or.inr (hw _ (List.mem_of_getElem? (i := 17) rfl))) (ty := .byte) (by decide)
        show oGl p e below (T149.setTop (mkF m 205 #[.val (.int i0), .val (.int i1), .val (.int i2), .val (.int i3), .val (.int i4), .val (.int ca), .val (.int cb), .val (.int cc), .val (.int cd), .val (.int (4 : Int32)), .val (.ref a127), .val (.int (0 : Int32))] [(.ref a149)])) _
        refine sdup X149 hx (hb hby at_205) rfl rfl (pc' := 206) ?_
        refine saload X149 hx (hb hby at_206) rfl rfl rfl (pc' := 208) ?_
        have f151 := (V135.ext E149)
        have nxa : @Ne Nat a149 a127 := oNeO A149 wiS f151
        have Vm : oAI Z h149 a127 .char 4 (F4 ca cb cc cd) := f151.congr (fun j hj => by
          rcases (by omega : j = 0 ∨ j = 1 ∨ j = 2 ∨ j = 3) with rfl | rfl | rfl | rfl
          · exact hn_ca
          · exact hn_cb
          · exact hn_cc
          · exact hn_cd)
        have f152 := ((((((O0.ext E127).wr W129 (by omega)).wr W131 (by omega)).wr W133 (by omega)).wr W135 (by omega)).ext E149)
        have hz153 : n0 ≤ h149.size := by omega
        have f154 := ((((((hJ.ext E127).wrA W129 V127 wiS (by decide)).wrA W131 V129 wiS (by decide)).wrA W133 V131 wiS (by decide)).wrA W135 V133 wiS (by decide)).ext E149)
        obtain ⟨_, _, ⟨T153, L153, k153, n153⟩, -, X153, hS2, hg2, ⟨Lc153, hQ153, l153, y153, z153⟩, st153⟩ := X149.specialBackS hx (y := (⟨"java/lang/String", "<init>", "([C)V"⟩ : MethodName)) rfl hown (mvT hZ (hw _ (List.mem_of_getElem? (i := 4) rfl))) (mvT hZ (hw _ (List.mem_of_getElem? (i := 5) rfl))) (mvT hZ (hw _ (List.mem_of_getElem? (i := 6) rfl))) (by decide) (backOfV (J := fun vm => oEm Z vm h149) (W := 1) (rmStr l Z a0 hw [] a149 a127 4 (F4 ca cb cc cd) cz sf h149 n0 hz153 Vm (by decide) (hch4 _) nxa A149 f149_16 f149_17 (by omega) f152 SCS hcz SSF hsf SAD SHI SLO hcH hcw) hZ (hw _ (List.mem_of_getElem? (i := 6) rfl)) (hw _ (List.mem_of_getElem? (i := 3) rfl)) (by decide) (by decide)) (g := (mkF m 208 #[.val (.int i0), .val (.int i1), .val (.int i2), .val (.int i3), .val (.int i4), .val (.int ca), .val (.int cb), .val (.int cc), .val (.int cd), .val (.int (4 : Int32)), .val (.ref a127), .val (.int (0 : Int32))] [(.ref a127), (.ref a149), (.ref a149)])) rfl (by rw [hml]; rfl) (Steps.refl _) (a := a149) (argsL := [(.ref a127)]) (rest := [(.ref a149)]) (lenOf pd_17 rfl) rfl (by show 2 * 0 + _ ≤ _; exact Nat.le_of_eq rfl) (hb hby at_208) (fun _ hWw => ⟨rfl, e149, (by decide : 2 + 2 ≤ _), (by decide : 8 + 195 ≤ _), f154.warm hWw⟩)
        dsimp only [Pt.U, Pt.locs, Pt.cells, Pt.slots] at X153 l153 y153 z153 st153 hQ153 hS2 hg2
        subst l153 y153 z153
        obtain ⟨X153, hS, hZ, hown⟩ := rebS hS (n1 := T149.heap.size) (by rw [e149]; omega) X153 hS2 hg2 hZ hown
        have hk : T153.heap.size ≤ T153.heap.size := Nat.le_refl _
        obtain ⟨rfl, N153q, K153, Ex153, Os153, -⟩ := hQ153
        have N153 := Fr.app N148 N153q
        have z155 : h149.size ≤ T153.heap.size := K153.1
        refine oSt st153 ?_
        show oGl p e below (T153.setTop (mkF m 211 #[.val (.int i0), .val (.int i1), .val (.int i2), .val (.int i3), .val (.int i4), .val (.int ca), .val (.int cb), .val (.int cc), .val (.int cd), .val (.int (4 : Int32)), .val (.ref a127), .val (.int (0 : Int32))] [(.ref a149)])) _
        have f156 := (f152.keep K153 (allS (by omega) all0))
        have hz157 : n0 ≤ T153.heap.size := by omega
        obtain ⟨_, _, ⟨T157, L157, k157, n157⟩, -, X157, hS2, hg2, ⟨Lc157, hQ157, l157, y157, z157⟩, st157⟩ := callSS X153 hx (y := (⟨"com/example/concordat/concordat/core/Limits", "isId", "(Ljava/lang/String;)Z"⟩ : MethodName)) hown (mvT hZ (hw _ (List.mem_of_getElem? (i := 22) rfl))) (mvT hZ (hw _ (List.mem_of_getElem? (i := 23) rfl))) (mvT hZ (hw _ (List.mem_of_getElem? (i := 24) rfl))) (mvT hZ (hw _ (List.mem_of_getElem? (i := 25) rfl))) (by decide) (backOfS (W := 0) (rmIsId l Z a0 hw [] a149 4 (F4 ca cb cc cd) cz sf T153.heap n0 hz157 f156 SCS hcz SSF hsf SAD SHI SLO Ex153 Os153 (by decide) (hch4 _)) hZ (hw _ (List.mem_of_getElem? (i := 25) rfl)) (hw _ (List.mem_of_getElem? (i := 24) rfl)) (by decide) (by decide)) (g := (mkF m 211 #[.val (.int i0), .val (.int i1), .val (.int i2), .val (.int i3), .val (.int i4), .val (.int ca), .val (.int cb), .val (.int cc), .val (.int cd), .val (.int (4 : Int32)), .val (.ref a127), .val (.int (0 : Int32))] [(.ref a149)])) rfl (by rw [hml]; rfl) (argsL := [(.ref a149)]) (rest := []) (lenOf pd_18 rfl) rfl (by show 2 * 0 + _ ≤ _; exact Nat.le_of_eq rfl) (hb hby at_211) (fun _ _ => ⟨rfl, rfl, (by decide : 4 + 2 ≤ _), (by decide : 203 + 20 ≤ _)⟩)
        dsimp only [Pt.U, Pt.locs, Pt.cells, Pt.slots] at X157 l157 y157 z157 st157 hQ157 hS2 hg2
        subst l157 y157 z157
        obtain ⟨X157, hS, hZ, hown⟩ := rebS hS (n1 := T153.heap.size) (by omega) X157 hS2 hg2 hZ hown
        have hk : T157.heap.size ≤ T157.heap.size := Nat.le_refl _
        obtain ⟨r157, rfl, N157q, K157, pq157⟩ := hQ157
        have N157 := Fr.app N153 N157q
        have z158 : T153.heap.size ≤ T157.heap.size := K157.1
        refine oSt st157 ?_
        show oGl p e below (T157.setTop (mkF m 214 #[.val (.int i0), .val (.int i1), .val (.int i2), .val (.int i3), .val (.int i4), .val (.int ca), .val (.int cb), .val (.int cc), .val (.int cd), .val (.int (4 : Int32)), .val (.ref a127), .val (.int (0 : Int32))] [(.int r157)])) _
        refine siload X157 hx (hb hby at_214) rfl rfl (pc' := 216) ?_
        have hfin : r157 = (0 : Int32) := own_id0 pq157 (fun q => absurd (q.2 1 (by decide)) ((pq148.resolve_left (fun q => absurd (hc164.symm.trans q.1) (by decide))).2))
        refine sicN X157 hx (hb hby at_216) rfl (teq (hfin : r157 = (0 : Int32))).2 (pc' := 219) ?_
        refine siconst X157 hx (hb hby at_219) rfl rfl (z := 1) (pc' := 220) ?_
        refine sgoto X157 hx (hb hby at_220) (by decide) (by decide)  (pc' := 224) ?_
        refine oRetNV (t := .boolean) X157 hS (by omega) hx Bd.notSynchronized Bd.returns (by simp) (hb hby at_224) (by decide) (by decide) ?_
        show Q_rmL Z i0 i1 i2 i3 i4 cz sf h0 n0 _ T157.heap _ _
        exact ⟨rfl, N157⟩
      · skip
        refine sifN X148 hx (hb hby at_164) rfl (feq hc164).1 (pc' := 167) ?_
        refine siload X148 hx (hb hby at_167) rfl rfl (pc' := 169) ?_
        refine siconst X148 hx (hb hby at_169) rfl rfl (z := 3) (pc' := 170) ?_
        refine sicN X148 hx (hb hby at_170) rfl (flt (by decide : ¬ ((4 : Int32) < (3 : Int32)))).1 (pc' := 173) ?_
        refine siload X148 hx (hb hby at_173) rfl rfl (pc' := 175) ?_
        have hz159 : n0 ≤ h135.size := by omega
        obtain ⟨_, _, ⟨T159, L159, k159, n159⟩, -, X159, ⟨Lc159, hQ159, l159, y159, z159⟩, st159⟩ := Jvm.LawKit.callS X148 hx (y := (⟨"com/example/concordat/concordat/core/LimitsIsIdPinLaw", "ok", "(C)Z"⟩ : MethodName)) hown (mvT hZ (hw _ (List.mem_of_getElem? (i := 57) rfl))) (mvT hZ (hw _ (List.mem_of_getElem? (i := 58) rfl))) (mvT hZ (hw _ (List.mem_of_getElem? (i := 59) rfl))) (mvT hZ (hw _ (List.mem_of_getElem? (i := 60) rfl))) (by decide) (backOf (W := 0) (rmOk l Z a0 hw [] cc h135 n0 hz159 ) hZ (hw _ (List.mem_of_getElem? (i := 60) rfl)) (hw _ (List.mem_of_getElem? (i := 59) rfl)) (by decide) (by decide)) (g := (mkF m 175 #[.val (.int i0), .val (.int i1), .val (.int i2), .val (.int i3), .val (.int i4), .val (.int ca), .val (.int cb), .val (.int cc), .val (.int cd), .val (.int (4 : Int32)), .val (.ref a127), .unset] [(.int cc)])) rfl (by rw [hml]; rfl) (argsL := [(.int cc)]) (rest := []) (lenOf pd_19 rfl) rfl (by show 2 * 0 + _ ≤ _; exact Nat.le_of_eq rfl) (hb hby at_175) (fun _ _ => ⟨rfl, eh148, (by decide : 1 + 0 ≤ _), (by decide : 4 + 0 ≤ _)⟩)
        dsimp only [Pt.U, Pt.locs, Pt.cells, Pt.slots] at X159 l159 y159 z159 st159 hQ159
        subst l159 y159 z159
        obtain ⟨r159, rfl, N159q, eh159, pq159⟩ := hQ159
        have N159 := Fr.app N148 N159q
        refine oOn st159 ?_
        show oGl p e below (T159.setTop (mkF m 178 #[.val (.int i0), .val (.int i1), .val (.int i2), .val (.int i3), .val (.int i4), .val (.int ca), .val (.int cb), .val (.int cc), .val (.int cd), .val (.int (4 : Int32)), .val (.ref a127), .unset] [(.int r159)])) _
        by_cases hc178 : r159 = (0 : Int32)
        · skip
          refine sifY X159 hx (hb hby at_178) (by decide) (by decide) (teq hc178).1 (pc' := 199) ?_
          refine siconst X159 hx (hb hby at_199) rfl rfl (z := 0) (pc' := 200) ?_
          refine sistore X159 hx (hb hby at_200) rfl rfl (l' := #[.val (.int i0), .val (.int i1), .val (.int i2), .val (.int i3), .val (.int i4), .val (.int ca), .val (.int cb), .val (.int cc), .val (.int cd), .val (.int (4 : Int32)), .val (.ref a127), .val (.int (0 : Int32))]) (pc' := 202) ?_
          obtain ⟨T160, h160, X160, e160, E160, A160, D160, -, st160⟩ := newO X159 hx hZ hown (hw _ (List.mem_of_getElem? (i := 1) rfl)) wiS (hw _ (List.mem_of_getElem? (i := 3) rfl)) eh159 (g := (mkF m 202 #[.val (.int i0), .val (.int i1), .val (.int i2), .val (.int i3), .val (.int i4), .val (.int ca), .val (.int cb), .val (.int cc), .val (.int cd), .val (.int (4 : Int32)), .val (.ref a127), .val (.int (0 : Int32))] [])) rfl (hb hby at_202) (by decide) (by decide)
          obtain ⟨a160, g160⟩ : ∃ z, z = h135.size := ⟨_, rfl⟩
          rw [← g160] at A160 D160 st160
          refine oOn st160 ?_
          have z161 : h135.size ≤ h160.size := E160.1
          have lt160 : a160 < h160.size := A160.lt
          have f160_16 : Fld Z h160 a160 "java/lang/String" "value" "[B" .null := D160 (Or.inr (hw _ (List.mem_of_getElem? (i := 16) rfl))) (ty := (.array .byte)) (by decide)
          have f160_17 : Fld Z h160 a160 "java/lang/String" "coder" "B" (.int (0 : Int32)) := D160 (Or.inr (hw _ (List.mem_of_getElem? (i := 17) rfl))) (ty := .byte) (by decide)
          show oGl p e below (T160.setTop (mkF m 205 #[.val (.int i0), .val (.int i1), .val (.int i2), .val (.int i3), .val (.int i4), .val (.int ca), .val (.int cb), .val (.int cc), .val (.int cd), .val (.int (4 : Int32)), .val (.ref a127), .val (.int (0 : Int32))] [(.ref a160)])) _
          refine sdup X160 hx (hb hby at_205) rfl rfl (pc' := 206) ?_
          refine saload X160 hx (hb hby at_206) rfl rfl rfl (pc' := 208) ?_
          have f162 := (V135.ext E160)
          have nxa : @Ne Nat a160 a127 := oNeO A160 wiS f162
          have Vm : oAI Z h160 a127 .char 4 (F4 ca cb cc cd) := f162.congr (fun j hj => by
            rcases (by omega : j = 0 ∨ j = 1 ∨ j = 2 ∨ j = 3) with rfl | rfl | rfl | rfl
            · exact hn_ca
            · exact hn_cb
            · exact hn_cc
            · exact hn_cd)
          have f163 := ((((((O0.ext E127).wr W129 (by omega)).wr W131 (by omega)).wr W133 (by omega)).wr W135 (by omega)).ext E160)
          have hz164 : n0 ≤ h160.size := by omega
          have f165 := ((((((hJ.ext E127).wrA W129 V127 wiS (by decide)).wrA W131 V129 wiS (by decide)).wrA W133 V131 wiS (by decide)).wrA W135 V133 wiS (by decide)).ext E160)
          obtain ⟨_, _, ⟨T164, L164, k164, n164⟩, -, X164, hS2, hg2, ⟨Lc164, hQ164, l164, y164, z164⟩, st164⟩ := X160.specialBackS hx (y := (⟨"java/lang/String", "<init>", "([C)V"⟩ : MethodName)) rfl hown (mvT hZ (hw _ (List.mem_of_getElem? (i := 4) rfl))) (mvT hZ (hw _ (List.mem_of_getElem? (i := 5) rfl))) (mvT hZ (hw _ (List.mem_of_getElem? (i := 6) rfl))) (by decide) (backOfV (J := fun vm => oEm Z vm h160) (W := 1) (rmStr l Z a0 hw [] a160 a127 4 (F4 ca cb cc cd) cz sf h160 n0 hz164 Vm (by decide) (hch4 _) nxa A160 f160_16 f160_17 (by omega) f163 SCS hcz SSF hsf SAD SHI SLO hcH hcw) hZ (hw _ (List.mem_of_getElem? (i := 6) rfl)) (hw _ (List.mem_of_getElem? (i := 3) rfl)) (by decide) (by decide)) (g := (mkF m 208 #[.val (.int i0), .val (.int i1), .val (.int i2), .val (.int i3), .val (.int i4), .val (.int ca), .val (.int cb), .val (.int cc), .val (.int cd), .val (.int (4 : Int32)), .val (.ref a127), .val (.int (0 : Int32))] [(.ref a127), (.ref a160), (.ref a160)])) rfl (by rw [hml]; rfl) (Steps.refl _) (a := a160) (argsL := [(.ref a127)]) (rest := [(.ref a160)]) (lenOf pd_17 rfl) rfl (by show 2 * 0 + _ ≤ _; exact Nat.le_of_eq rfl) (hb hby at_208) (fun _ hWw => ⟨rfl, e160, (by decide : 2 + 2 ≤ _), (by decide : 8 + 195 ≤ _), f165.warm hWw⟩)
          dsimp only [Pt.U, Pt.locs, Pt.cells, Pt.slots] at X164 l164 y164 z164 st164 hQ164 hS2 hg2
          subst l164 y164 z164
          obtain ⟨X164, hS, hZ, hown⟩ := rebS hS (n1 := T160.heap.size) (by rw [e160]; omega) X164 hS2 hg2 hZ hown
          have hk : T164.heap.size ≤ T164.heap.size := Nat.le_refl _
          obtain ⟨rfl, N164q, K164, Ex164, Os164, -⟩ := hQ164
          have N164 := Fr.app N159 N164q
          have z166 : h160.size ≤ T164.heap.size := K164.1
          refine oSt st164 ?_
          show oGl p e below (T164.setTop (mkF m 211 #[.val (.int i0), .val (.int i1), .val (.int i2), .val (.int i3), .val (.int i4), .val (.int ca), .val (.int cb), .val (.int cc), .val (.int cd), .val (.int (4 : Int32)), .val (.ref a127), .val (.int (0 : Int32))] [(.ref a160)])) _
          have f167 := (f163.keep K164 (allS (by omega) all0))
          have hz168 : n0 ≤ T164.heap.size := by omega
          obtain ⟨_, _, ⟨T168, L168, k168, n168⟩, -, X168, hS2, hg2, ⟨Lc168, hQ168, l168, y168, z168⟩, st168⟩ := callSS X164 hx (y := (⟨"com/example/concordat/concordat/core/Limits", "isId", "(Ljava/lang/String;)Z"⟩ : MethodName)) hown (mvT hZ (hw _ (List.mem_of_getElem? (i := 22) rfl))) (mvT hZ (hw _ (List.mem_of_getElem? (i := 23) rfl))) (mvT hZ (hw _ (List.mem_of_getElem? (i := 24) rfl))) (mvT hZ (hw _ (List.mem_of_getElem? (i := 25) rfl))) (by decide) (backOfS (W := 0) (rmIsId l Z a0 hw [] a160 4 (F4 ca cb cc cd) cz sf T164.heap n0 hz168 f167 SCS hcz SSF hsf SAD SHI SLO Ex164 Os164 (by decide) (hch4 _)) hZ (hw _ (List.mem_of_getElem? (i := 25) rfl)) (hw _ (List.mem_of_getElem? (i := 24) rfl)) (by decide) (by decide)) (g := (mkF m 211 #[.val (.int i0), .val (.int i1), .val (.int i2), .val (.int i3), .val (.int i4), .val (.int ca), .val (.int cb), .val (.int cc), .val (.int cd), .val (.int (4 : Int32)), .val (.ref a127), .val (.int (0 : Int32))] [(.ref a160)])) rfl (by rw [hml]; rfl) (argsL := [(.ref a160)]) (rest := []) (lenOf pd_18 rfl) rfl (by show 2 * 0 + _ ≤ _; exact Nat.le_of_eq rfl) (hb hby at_211) (fun _ _ => ⟨rfl, rfl, (by decide : 4 + 2 ≤ _), (by decide : 203 + 20 ≤ _)⟩)
          dsimp only [Pt.U, Pt.locs, Pt.cells, Pt.slots] at X168 l168 y168 z168 st168 hQ168 hS2 hg2
          subst l168 y168 z168
          obtain ⟨X168, hS, hZ, hown⟩ := rebS hS (n1 := T164.heap.size) (by omega) X168 hS2 hg2 hZ hown
          have hk : T168.heap.size ≤ T168.heap.size := Nat.le_refl _
          obtain ⟨r168, rfl, N168q, K168, pq168⟩ := hQ168
          have N168 := Fr.app N164 N168q
          have z169 : T164.heap.size ≤ T168.heap.size := K168.1
          refine oSt st168 ?_
          show oGl p e below (T168.setTop (mkF m 214 #[.val (.int i0), .val (.int i1), .val (.int i2), .val (.int i3), .val (.int i4), .val (.int ca), .val (.int cb), .val (.int cc), .val (.int cd), .val (.int (4 : Int32)), .val (.ref a127), .val (.int (0 : Int32))] [(.int r168)])) _
          refine siload X168 hx (hb hby at_214) rfl rfl (pc' := 216) ?_
          have hfin : r168 = (0 : Int32) := own_id0 pq168 (fun q => absurd (q.2 2 (by decide)) ((pq159.resolve_left (fun q => absurd (hc178.symm.trans q.1) (by decide))).2))
          refine sicN X168 hx (hb hby at_216) rfl (teq (hfin : r168 = (0 : Int32))).2 (pc' := 219) ?_
          refine siconst X168 hx (hb hby at_219) rfl rfl (z := 1) (pc' := 220) ?_
          refine sgoto X168 hx (hb hby at_220) (by decide) (by decide)  (pc' := 224) ?_
          refine oRetNV (t := .boolean) X168 hS (by omega) hx Bd.notSynchronized Bd.returns (by simp) (hb hby at_224) (by decide) (by decide) ?_
          show Q_rmL Z i0 i1 i2 i3 i4 cz sf h0 n0 _ T168.heap _ _
          exact ⟨rfl, N168⟩
        · skip
          refine sifN X159 hx (hb hby at_178) rfl (feq hc178).1 (pc' := 181) ?_
          refine siload X159 hx (hb hby at_181) rfl rfl (pc' := 183) ?_
          refine siconst X159 hx (hb hby at_183) rfl rfl (z := 4) (pc' := 184) ?_
          refine sicN X159 hx (hb hby at_184) rfl (flt (by decide : ¬ ((4 : Int32) < (4 : Int32)))).1 (pc' := 187) ?_
          refine siload X159 hx (hb hby at_187) rfl rfl (pc' := 189) ?_
          have hz170 : n0 ≤ h135.size := by omega
          obtain ⟨_, _, ⟨T170, L170, k170, n170⟩, -, X170, ⟨Lc170, hQ170, l170, y170, z170⟩, st170⟩ := Jvm.LawKit.callS X159 hx (y := (⟨"com/example/concordat/concordat/core/LimitsIsIdPinLaw", "ok", "(C)Z"⟩ : MethodName)) hown (mvT hZ (hw _ (List.mem_of_getElem? (i := 57) rfl))) (mvT hZ (hw _ (List.mem_of_getElem? (i := 58) rfl))) (mvT hZ (hw _ (List.mem_of_getElem? (i := 59) rfl))) (mvT hZ (hw _ (List.mem_of_getElem? (i := 60) rfl))) (by decide) (backOf (W := 0) (rmOk l Z a0 hw [] cd h135 n0 hz170 ) hZ (hw _ (List.mem_of_getElem? (i := 60) rfl)) (hw _ (List.mem_of_getElem? (i := 59) rfl)) (by decide) (by decide)) (g := (mkF m 189 #[.val (.int i0), .val (.int i1), .val (.int i2), .val (.int i3), .val (.int i4), .val (.int ca), .val (.int cb), .val (.int cc), .val (.int cd), .val (.int (4 : Int32)), .val (.ref a127), .unset] [(.int cd)])) rfl (by rw [hml]; rfl) (argsL := [(.int cd)]) (rest := []) (lenOf pd_19 rfl) rfl (by show 2 * 0 + _ ≤ _; exact Nat.le_of_eq rfl) (hb hby at_189) (fun _ _ => ⟨rfl, eh159, (by decide : 1 + 0 ≤ _), (by decide : 4 + 0 ≤ _)⟩)
          dsimp only [Pt.U, Pt.locs, Pt.cells, Pt.slots] at X170 l170 y170 z170 st170 hQ170
          subst l170 y170 z170
          obtain ⟨r170, rfl, N170q, eh170, pq170⟩ := hQ170
          have N170 := Fr.app N159 N170q
          refine oOn st170 ?_
          show oGl p e below (T170.setTop (mkF m 192 #[.val (.int i0), .val (.int i1), .val (.int i2), .val (.int i3), .val (.int i4), .val (.int ca), .val (.int cb), .val (.int cc), .val (.int cd), .val (.int (4 : Int32)), .val (.ref a127), .unset] [(.int r170)])) _
          by_cases hc192 : r170 = (0 : Int32)
          · skip
            refine sifY X170 hx (hb hby at_192) (by decide) (by decide) (teq hc192).1 (pc' := 199) ?_
            refine siconst X170 hx (hb hby at_199) rfl rfl (z := 0) (pc' := 200) ?_
            refine sistore X170 hx (hb hby at_200) rfl rfl (l' := #[.val (.int i0), .val (.int i1), .val (.int i2), .val (.int i3), .val (.int i4), .val (.int ca), .val (.int cb), .val (.int cc), .val (.int cd), .val (.int (4 : Int32)), .val (.ref a127), .val (.int (0 : Int32))]) (pc' := 202) ?_
            obtain ⟨T171, h171, X171, e171, E171, A171, D171, -, st171⟩ := newO X170 hx hZ hown (hw _ (List.mem_of_getElem? (i := 1) rfl)) wiS (hw _ (List.mem_of_getElem? (i := 3) rfl)) eh170 (g := (mkF m 202 #[.val (.int i0), .val (.int i1), .val (.int i2), .val (.int i3), .val (.int i4), .val (.int ca), .val (.int cb), .val (.int cc), .val (.int cd), .val (.int (4 : Int32)), .val (.ref a127), .val (.int (0 : Int32))] [])) rfl (hb hby at_202) (by decide) (by decide)
            obtain ⟨a171, g171⟩ : ∃ z, z = h135.size := ⟨_, rfl⟩
            rw [← g171] at A171 D171 st171
            refine oOn st171 ?_
            have z172 : h135.size ≤ h171.size := E171.1
            have lt171 : a171 < h171.size := A171.lt
            have f171_16 : Fld Z h171 a171 "java/lang/String" "value" "[B" .null := D171 (Or.inr (hw _ (List.mem_of_getElem? (i := 16) rfl))) (ty := (.array .byte)) (by decide)
            have f171_17 : Fld Z h171 a171 "java/lang/String" "coder" "B" (.int (0 : Int32)) := D171 (Or.inr (hw _ (List.mem_of_getElem? (i := 17) rfl))) (ty := .byte) (by decide)
            show oGl p e below (T171.setTop (mkF m 205 #[.val (.int i0), .val (.int i1), .val (.int i2), .val (.int i3), .val (.int i4), .val (.int ca), .val (.int cb), .val (.int cc), .val (.int cd), .val (.int (4 : Int32)), .val (.ref a127), .val (.int (0 : Int32))] [(.ref a171)])) _
            refine sdup X171 hx (hb hby at_205) rfl rfl (pc' := 206) ?_
            refine saload X171 hx (hb hby at_206) rfl rfl rfl (pc' := 208) ?_
            have f173 := (V135.ext E171)
            have nxa : @Ne Nat a171 a127 := oNeO A171 wiS f173
            have Vm : oAI Z h171 a127 .char 4 (F4 ca cb cc cd) := f173.congr (fun j hj => by
              rcases (by omega : j = 0 ∨ j = 1 ∨ j = 2 ∨ j = 3) with rfl | rfl | rfl | rfl
              · exact hn_ca
              · exact hn_cb
              · exact hn_cc
              · exact hn_cd)
            have f174 := ((((((O0.ext E127).wr W129 (by omega)).wr W131 (by omega)).wr W133 (by omega)).wr W135 (by omega)).ext E171)
            have hz175 : n0 ≤ h171.size := by omega
            have f176 := ((((((hJ.ext E127).wrA W129 V127 wiS (by decide)).wrA W131 V129 wiS (by decide)).wrA W133 V131 wiS (by decide)).wrA W135 V133 wiS (by decide)).ext E171)
            obtain ⟨_, _, ⟨T175, L175, k175, n175⟩, -, X175, hS2, hg2, ⟨Lc175, hQ175, l175, y175, z175⟩, st175⟩ := X171.specialBackS hx (y := (⟨"java/lang/String", "<init>", "([C)V"⟩ : MethodName)) rfl hown (mvT hZ (hw _ (List.mem_of_getElem? (i := 4) rfl))) (mvT hZ (hw _ (List.mem_of_getElem? (i := 5) rfl))) (mvT hZ (hw _ (List.mem_of_getElem? (i := 6) rfl))) (by decide) (backOfV (J := fun vm => oEm Z vm h171) (W := 1) (rmStr l Z a0 hw [] a171 a127 4 (F4 ca cb cc cd) cz sf h171 n0 hz175 Vm (by decide) (hch4 _) nxa A171 f171_16 f171_17 (by omega) f174 SCS hcz SSF hsf SAD SHI SLO hcH hcw) hZ (hw _ (List.mem_of_getElem? (i := 6) rfl)) (hw _ (List.mem_of_getElem? (i := 3) rfl)) (by decide) (by decide)) (g := (mkF m 208 #[.val (.int i0), .val (.int i1), .val (.int i2), .val (.int i3), .val (.int i4), .val (.int ca), .val (.int cb), .val (.int cc), .val (.int cd), .val (.int (4 : Int32)), .val (.ref a127), .val (.int (0 : Int32))] [(.ref a127), (.ref a171), (.ref a171)])) rfl (by rw [hml]; rfl) (Steps.refl _) (a := a171) (argsL := [(.ref a127)]) (rest := [(.ref a171)]) (lenOf pd_17 rfl) rfl (by show 2 * 0 + _ ≤ _; exact Nat.le_of_eq rfl) (hb hby at_208) (fun _ hWw => ⟨rfl, e171, (by decide : 2 + 2 ≤ _), (by decide : 8 + 195 ≤ _), f176.warm hWw⟩)
            dsimp only [Pt.U, Pt.locs, Pt.cells, Pt.slots] at X175 l175 y175 z175 st175 hQ175 hS2 hg2
            subst l175 y175 z175
            obtain ⟨X175, hS, hZ, hown⟩ := rebS hS (n1 := T171.heap.size) (by rw [e171]; omega) X175 hS2 hg2 hZ hown
            have hk : T175.heap.size ≤ T175.heap.size := Nat.le_refl _
            obtain ⟨rfl, N175q, K175, Ex175, Os175, -⟩ := hQ175
            have N175 := Fr.app N170 N175q
            have z177 : h171.size ≤ T175.heap.size := K175.1
            refine oSt st175 ?_
            show oGl p e below (T175.setTop (mkF m 211 #[.val (.int i0), .val (.int i1), .val (.int i2), .val (.int i3), .val (.int i4), .val (.int ca), .val (.int cb), .val (.int cc), .val (.int cd), .val (.int (4 : Int32)), .val (.ref a127), .val (.int (0 : Int32))] [(.ref a171)])) _
            have f178 := (f174.keep K175 (allS (by omega) all0))
            have hz179 : n0 ≤ T175.heap.size := by omega
            obtain ⟨_, _, ⟨T179, L179, k179, n179⟩, -, X179, hS2, hg2, ⟨Lc179, hQ179, l179, y179, z179⟩, st179⟩ := callSS X175 hx (y := (⟨"com/example/concordat/concordat/core/Limits", "isId", "(Ljava/lang/String;)Z"⟩ : MethodName)) hown (mvT hZ (hw _ (List.mem_of_getElem? (i := 22) rfl))) (mvT hZ (hw _ (List.mem_of_getElem? (i := 23) rfl))) (mvT hZ (hw _ (List.mem_of_getElem? (i := 24) rfl))) (mvT hZ (hw _ (List.mem_of_getElem? (i := 25) rfl))) (by decide) (backOfS (W := 0) (rmIsId l Z a0 hw [] a171 4 (F4 ca cb cc cd) cz sf T175.heap n0 hz179 f178 SCS hcz SSF hsf SAD SHI SLO Ex175 Os175 (by decide) (hch4 _)) hZ (hw _ (List.mem_of_getElem? (i := 25) rfl)) (hw _ (List.mem_of_getElem? (i := 24) rfl)) (by decide) (by decide)) (g := (mkF m 211 #[.val (.int i0), .val (.int i1), .val (.int i2), .val (.int i3), .val (.int i4), .val (.int ca), .val (.int cb), .val (.int cc), .val (.int cd), .val (.int (4 : Int32)), .val (.ref a127), .val (.int (0 : Int32))] [(.ref a171)])) rfl (by rw [hml]; rfl) (argsL := [(.ref a171)]) (rest := []) (lenOf pd_18 rfl) rfl (by show 2 * 0 + _ ≤ _; exact Nat.le_of_eq rfl) (hb hby at_211) (fun _ _ => ⟨rfl, rfl, (by decide : 4 + 2 ≤ _), (by decide : 203 + 20 ≤ _)⟩)
            dsimp only [Pt.U, Pt.locs, Pt.cells, Pt.slots] at X179 l179 y179 z179 st179 hQ179 hS2 hg2
            subst l179 y179 z179
            obtain ⟨X179, hS, hZ, hown⟩ := rebS hS (n1 := T175.heap.size) (by omega) X179 hS2 hg2 hZ hown
            have hk : T179.heap.size ≤ T179.heap.size := Nat.le_refl _
            obtain ⟨r179, rfl, N179q, K179, pq179⟩ := hQ179
            have N179 := Fr.app N175 N179q
            have z180 : T175.heap.size ≤ T179.heap.size := K179.1
            refine oSt st179 ?_
            show oGl p e below (T179.setTop (mkF m 214 #[.val (.int i0), .val (.int i1), .val (.int i2), .val (.int i3), .val (.int i4), .val (.int ca), .val (.int cb), .val (.int cc), .val (.int cd), .val (.int (4 : Int32)), .val (.ref a127), .val (.int (0 : Int32))] [(.int r179)])) _
            refine siload X179 hx (hb hby at_214) rfl rfl (pc' := 216) ?_
            have hfin : r179 = (0 : Int32) := own_id0 pq179 (fun q => absurd (q.2 3 (by decide)) ((pq170.resolve_left (fun q => absurd (hc192.symm.trans q.1) (by decide))).2))
            refine sicN X179 hx (hb hby at_216) rfl (teq (hfin : r179 = (0 : Int32))).2 (pc' := 219) ?_
            refine siconst X179 hx (hb hby at_219) rfl rfl (z := 1) (pc' := 220) ?_
            refine sgoto X179 hx (hb hby at_220) (by decide) (by decide)  (pc' := 224) ?_
            refine oRetNV (t := .boolean) X179 hS (by omega) hx Bd.notSynchronized Bd.returns (by simp) (hb hby at_224) (by decide) (by decide) ?_
            show Q_rmL Z i0 i1 i2 i3 i4 cz sf h0 n0 _ T179.heap _ _
            exact ⟨rfl, N179⟩
          · skip
            refine sifN X170 hx (hb hby at_192) rfl (feq hc192).1 (pc' := 195) ?_
            refine siconst X170 hx (hb hby at_195) rfl rfl (z := 1) (pc' := 196) ?_
            refine sgoto X170 hx (hb hby at_196) (by decide) (by decide)  (pc' := 200) ?_
            refine sistore X170 hx (hb hby at_200) rfl rfl (l' := #[.val (.int i0), .val (.int i1), .val (.int i2), .val (.int i3), .val (.int i4), .val (.int ca), .val (.int cb), .val (.int cc), .val (.int cd), .val (.int (4 : Int32)), .val (.ref a127), .val (.int (1 : Int32))]) (pc' := 202) ?_
            obtain ⟨T181, h181, X181, e181, E181, A181, D181, -, st181⟩ := newO X170 hx hZ hown (hw _ (List.mem_of_getElem? (i := 1) rfl)) wiS (hw _ (List.mem_of_getElem? (i := 3) rfl)) eh170 (g := (mkF m 202 #[.val (.int i0), .val (.int i1), .val (.int i2), .val (.int i3), .val (.int i4), .val (.int ca), .val (.int cb), .val (.int cc), .val (.int cd), .val (.int (4 : Int32)), .val (.ref a127), .val (.int (1 : Int32))] [])) rfl (hb hby at_202) (by decide) (by decide)
            obtain ⟨a181, g181⟩ : ∃ z, z = h135.size := ⟨_, rfl⟩
            rw [← g181] at A181 D181 st181
            refine oOn st181 ?_
            have z182 : h135.size ≤ h181.size := E181.1
            have lt181 : a181 < h181.size := A181.lt
            have f181_16 : Fld Z h181 a181 "java/lang/String" "value" "[B" .null := D181 (Or.inr (hw _ (List.mem_of_getElem? (i := 16) rfl))) (ty := (.array .byte)) (by decide)
            have f181_17 : Fld Z h181 a181 "java/lang/String" "coder" "B" (.int (0 : Int32)) := D181 (Or.inr (hw _ (List.mem_of_getElem? (i := 17) rfl))) (ty := .byte) (by decide)
            show oGl p e below (T181.setTop (mkF m 205 #[.val (.int i0), .val (.int i1), .val (.int i2), .val (.int i3), .val (.int i4), .val (.int ca), .val (.int cb), .val (.int cc), .val (.int cd), .val (.int (4 : Int32)), .val (.ref a127), .val (.int (1 : Int32))] [(.ref a181)])) _
            refine sdup X181 hx (hb hby at_205) rfl rfl (pc' := 206) ?_
            refine saload X181 hx (hb hby at_206) rfl rfl rfl (pc' := 208) ?_
            have f183 := (V135.ext E181)
            have nxa : @Ne Nat a181 a127 := oNeO A181 wiS f183
            have Vm : oAI Z h181 a127 .char 4 (F4 ca cb cc cd) := f183.congr (fun j hj => by
              rcases (by omega : j = 0 ∨ j = 1 ∨ j = 2 ∨ j = 3) with rfl | rfl | rfl | rfl
              · exact hn_ca
              · exact hn_cb
              · exact hn_cc
              · exact hn_cd)
            have f184 := ((((((O0.ext E127).wr W129 (by omega)).wr W131 (by omega)).wr W133 (by omega)).wr W135 (by omega)).ext E181)
            have hz185 : n0 ≤ h181.size := by omega
            have f186 := ((((((hJ.ext E127).wrA W129 V127 wiS (by decide)).wrA W131 V129 wiS (by decide)).wrA W133 V131 wiS (by decide)).wrA W135 V133 wiS (by decide)).ext E181)
            obtain ⟨_, _, ⟨T185, L185, k185, n185⟩, -, X185, hS2, hg2, ⟨Lc185, hQ185, l185, y185, z185⟩, st185⟩ := X181.specialBackS hx (y := (⟨"java/lang/String", "<init>", "([C)V"⟩ : MethodName)) rfl hown (mvT hZ (hw _ (List.mem_of_getElem? (i := 4) rfl))) (mvT hZ (hw _ (List.mem_of_getElem? (i := 5) rfl))) (mvT hZ (hw _ (List.mem_of_getElem? (i := 6) rfl))) (by decide) (backOfV (J := fun vm => oEm Z vm h181) (W := 1) (rmStr l Z a0 hw [] a181 a127 4 (F4 ca cb cc cd) cz sf h181 n0 hz185 Vm (by decide) (hch4 _) nxa A181 f181_16 f181_17 (by omega) f184 SCS hcz SSF hsf SAD SHI SLO hcH hcw) hZ (hw _ (List.mem_of_getElem? (i := 6) rfl)) (hw _ (List.mem_of_getElem? (i := 3) rfl)) (by decide) (by decide)) (g := (mkF m 208 #[.val (.int i0), .val (.int i1), .val (.int i2), .val (.int i3), .val (.int i4), .val (.int ca), .val (.int cb), .val (.int cc), .val (.int cd), .val (.int (4 : Int32)), .val (.ref a127), .val (.int (1 : Int32))] [(.ref a127), (.ref a181), (.ref a181)])) rfl (by rw [hml]; rfl) (Steps.refl _) (a := a181) (argsL := [(.ref a127)]) (rest := [(.ref a181)]) (lenOf pd_17 rfl) rfl (by show 2 * 0 + _ ≤ _; exact Nat.le_of_eq rfl) (hb hby at_208) (fun _ hWw => ⟨rfl, e181, (by decide : 2 + 2 ≤ _), (by decide : 8 + 195 ≤ _), f186.warm hWw⟩)
            dsimp only [Pt.U, Pt.locs, Pt.cells, Pt.slots] at X185 l185 y185 z185 st185 hQ185 hS2 hg2
            subst l185 y185 z185
            obtain ⟨X185, hS, hZ, hown⟩ := rebS hS (n1 := T181.heap.size) (by rw [e181]; omega) X185 hS2 hg2 hZ hown
            have hk : T185.heap.size ≤ T185.heap.size := Nat.le_refl _
            obtain ⟨rfl, N185q, K185, Ex185, Os185, -⟩ := hQ185
            have N185 := Fr.app N170 N185q
            have z187 : h181.size ≤ T185.heap.size := K185.1
            refine oSt st185 ?_
            show oGl p e below (T185.setTop (mkF m 211 #[.val (.int i0), .val (.int i1), .val (.int i2), .val (.int i3), .val (.int i4), .val (.int ca), .val (.int cb), .val (.int cc), .val (.int cd), .val (.int (4 : Int32)), .val (.ref a127), .val (.int (1 : Int32))] [(.ref a181)])) _
            have f188 := (f184.keep K185 (allS (by omega) all0))
            have hz189 : n0 ≤ T185.heap.size := by omega
            obtain ⟨_, _, ⟨T189, L189, k189, n189⟩, -, X189, hS2, hg2, ⟨Lc189, hQ189, l189, y189, z189⟩, st189⟩ := callSS X185 hx (y := (⟨"com/example/concordat/concordat/core/Limits", "isId", "(Ljava/lang/String;)Z"⟩ : MethodName)) hown (mvT hZ (hw _ (List.mem_of_getElem? (i := 22) rfl))) (mvT hZ (hw _ (List.mem_of_getElem? (i := 23) rfl))) (mvT hZ (hw _ (List.mem_of_getElem? (i := 24) rfl))) (mvT hZ (hw _ (List.mem_of_getElem? (i := 25) rfl))) (by decide) (backOfS (W := 0) (rmIsId l Z a0 hw [] a181 4 (F4 ca cb cc cd) cz sf T185.heap n0 hz189 f188 SCS hcz SSF hsf SAD SHI SLO Ex185 Os185 (by decide) (hch4 _)) hZ (hw _ (List.mem_of_getElem? (i := 25) rfl)) (hw _ (List.mem_of_getElem? (i := 24) rfl)) (by decide) (by decide)) (g := (mkF m 211 #[.val (.int i0), .val (.int i1), .val (.int i2), .val (.int i3), .val (.int i4), .val (.int ca), .val (.int cb), .val (.int cc), .val (.int cd), .val (.int (4 : Int32)), .val (.ref a127), .val (.int (1 : Int32))] [(.ref a181)])) rfl (by rw [hml]; rfl) (argsL := [(.ref a181)]) (rest := []) (lenOf pd_18 rfl) rfl (by show 2 * 0 + _ ≤ _; exact Nat.le_of_eq rfl) (hb hby at_211) (fun _ _ => ⟨rfl, rfl, (by decide : 4 + 2 ≤ _), (by decide : 203 + 20 ≤ _)⟩)
            dsimp only [Pt.U, Pt.locs, Pt.cells, Pt.slots] at X189 l189 y189 z189 st189 hQ189 hS2 hg2
            subst l189 y189 z189
            obtain ⟨X189, hS, hZ, hown⟩ := rebS hS (n1 := T185.heap.size) (by omega) X189 hS2 hg2 hZ hown
            have hk : T189.heap.size ≤ T189.heap.size := Nat.le_refl _
            obtain ⟨r189, rfl, N189q, K189, pq189⟩ := hQ189
            have N189 := Fr.app N185 N189q
            have z190 : T185.heap.size ≤ T189.heap.size := K189.1
            refine oSt st189 ?_
            show oGl p e below (T189.setTop (mkF m 214 #[.val (.int i0), .val (.int i1), .val (.int i2), .val (.int i3), .val (.int i4), .val (.int ca), .val (.int cb), .val (.int cc), .val (.int cd), .val (.int (4 : Int32)), .val (.ref a127), .val (.int (1 : Int32))] [(.int r189)])) _
            refine siload X189 hx (hb hby at_214) rfl rfl (pc' := 216) ?_
            have hfin : r189 = (1 : Int32) := own_id1 pq189 ⟨by decide, fun j hj => by
              rcases (by omega : j = 0 ∨ j = 1 ∨ j = 2 ∨ j = 3) with rfl | rfl | rfl | rfl
              · exact (pq137.resolve_right (fun q => hc150 q.1)).2
              · exact (pq148.resolve_right (fun q => hc164 q.1)).2
              · exact (pq159.resolve_right (fun q => hc178 q.1)).2
              · exact (pq170.resolve_right (fun q => hc192 q.1)).2⟩
            refine sicN X189 hx (hb hby at_216) rfl (teq (hfin : r189 = (1 : Int32))).2 (pc' := 219) ?_
            refine siconst X189 hx (hb hby at_219) rfl rfl (z := 1) (pc' := 220) ?_
            refine sgoto X189 hx (hb hby at_220) (by decide) (by decide)  (pc' := 224) ?_
            refine oRetNV (t := .boolean) X189 hS (by omega) hx Bd.notSynchronized Bd.returns (by simp) (hb hby at_224) (by decide) (by decide) ?_
            show Q_rmL Z i0 i1 i2 i3 i4 cz sf h0 n0 _ T189.heap _ _
            exact ⟨rfl, N189⟩
  · skip
    refine siload X0 hx (hb hby at_23) rfl rfl (pc' := 25) ?_
    refine siconst X0 hx (hb hby at_25) rfl rfl (z := 4) (pc' := 26) ?_
    refine sicY X0 hx (hb hby at_26) (by decide) (by decide) (tlt (by rcases hm56 with rfl | rfl <;> decide : (4 : Int32) < mm)).2.2.1 (pc' := 225) ?_
    refine siload X0 hx (hb hby at_225) rfl rfl (pc' := 227) ?_
    refine sbipush X0 hx (hb hby at_227) rfl rfl (z := 6) (pc' := 229) ?_
    refine sicN X0 hx (hb hby at_229) rfl (flt (by rcases hm56 with rfl | rfl <;> decide : ¬ ((6 : Int32) < mm))).2.2.1 (pc' := 232) ?_
    refine sbipush X0 hx (hb hby at_232) rfl rfl (z := 64) (pc' := 234) ?_
    obtain ⟨T191, h191, k191, X191, e191, E191, A191, st191⟩ := newP X0 hx hZ (hw _ (List.mem_of_getElem? (i := 0) rfl)) e0 (g := (mkF m 234 #[.val (.int i0), .val (.int i1), .val (.int i2), .val (.int i3), .val (.int i4), .val (.int ca), .val (.int cb), .val (.int cc), .val (.int cd), .val (.int mm), .unset, .unset] [(.int (64 : Int32))])) rfl (hb hby at_234) rfl (by decide) (cap := 64) (by decide) (by decide) (by decide) (by decide)
    obtain ⟨a191, g191⟩ : ∃ z, z = h0.size := ⟨_, rfl⟩
    rw [← g191] at A191 st191
    refine oOn st191 ?_
    have z192 : h0.size ≤ h191.size := E191.1
    have lt191 : a191 < h191.size := A191.lt
    have V191 : oAI Z h191 a191 .char 64 (fun _ => 0) := oAI.new A191 rfl
    show oGl p e below (T191.setTop (mkF m 236 #[.val (.int i0), .val (.int i1), .val (.int i2), .val (.int i3), .val (.int i4), .val (.int ca), .val (.int cb), .val (.int cc), .val (.int cd), .val (.int mm), .unset, .unset] [(.ref a191)])) _
    have gna : n0 ≤ a191 := by omega
    have Vq193 : oAI Z h191 a191 .char 64 (oPre (FL ca cb cc cd) 0) := V191.congr (fun j _ => oPre_0 j)
    refine sdup X191 hx (hb hby at_236) rfl rfl (pc' := 237) ?_
    refine siconst X191 hx (hb hby at_237) rfl rfl (z := 0) (pc' := 238) ?_
    refine siload X191 hx (hb hby at_238) rfl rfl (pc' := 240) ?_
    obtain ⟨T194, h194, X194, e194, W194, V194, st194⟩ := Vq193.stC X191 hx hZ e191 (j := (0 : Int32)) (by decide) (g := (mkF m 240 #[.val (.int i0), .val (.int i1), .val (.int i2), .val (.int i3), .val (.int i4), .val (.int ca), .val (.int cb), .val (.int cc), .val (.int cd), .val (.int mm), .unset, .unset] [(.int cd), (.int (0 : Int32)), (.ref a191), (.ref a191)])) rfl rfl (hb hby at_240)
    refine oOn st194 ?_
    have z195 : h191.size ≤ h194.size := Nat.le_of_eq W194.size.symm
    have N194 := Fr.snoc X194 N0 (by omega)
    have Vq196 : oAI Z h194 a191 .char 64 (oPre (FL ca cb cc cd) 1) := V194.congr (fun j _ => oPre_up (F := (FL ca cb cc cd)) (k := 0) hn_cd j)
    have f197 := ((O0.ext E191).wr W194 (by omega))
    have f198 := ((hJ.ext E191).wrA W194 Vq193 wiS (by decide))
    have zz196 : n0 ≤ h194.size := by omega
    have lq196 : @LT.lt Nat _ a191 h194.size := Vq196.lt
    obtain ⟨Lc196, Y196, M196⟩ : ∃ L, Stand p l e room_1 (s.setVm s.vm) m #[(.int i0), (.int i1), (.int i2), (.int i3), (.int i4)] below meth c T194 L 1 64 ∧ Fr n0 L := ⟨_, X194, N194⟩
    clear st194 V194 X194 N194 z195 W194
    show oGl p e below (T194.setTop (mkF m 241 #[.val (.int i0), .val (.int i1), .val (.int i2), .val (.int i3), .val (.int i4), .val (.int ca), .val (.int cb), .val (.int cc), .val (.int cd), .val (.int mm), .unset, .unset] [(.ref a191)])) _
    refine sdup Y196 hx (hb hby at_241) rfl rfl (pc' := 242) ?_
    refine siconst Y196 hx (hb hby at_242) rfl rfl (z := 1) (pc' := 243) ?_
    refine siload Y196 hx (hb hby at_243) rfl rfl (pc' := 245) ?_
    obtain ⟨T199, h199, X199, e199, W199, V199, st199⟩ := Vq196.stC Y196 hx hZ e194 (j := (1 : Int32)) (by decide) (g := (mkF m 245 #[.val (.int i0), .val (.int i1), .val (.int i2), .val (.int i3), .val (.int i4), .val (.int ca), .val (.int cb), .val (.int cc), .val (.int cd), .val (.int mm), .unset, .unset] [(.int cb), (.int (1 : Int32)), (.ref a191), (.ref a191)])) rfl rfl (hb hby at_245)
    refine oOn st199 ?_
    have z200 : h194.size ≤ h199.size := Nat.le_of_eq W199.size.symm
    have N199 := Fr.snoc X199 M196 (by omega)
    have Vq201 : oAI Z h199 a191 .char 64 (oPre (FL ca cb cc cd) 2) := V199.congr (fun j _ => oPre_up (F := (FL ca cb cc cd)) (k := 1) hn_cb j)
    have f202 := (f197.wr W199 (by omega))
    have f203 := (f198.wrA W199 Vq196 wiS (by decide))
    have zz201 : n0 ≤ h199.size := by omega
    have lq201 : @LT.lt Nat _ a191 h199.size := Vq201.lt
    obtain ⟨Lc201, Y201, M201⟩ : ∃ L, Stand p l e room_1 (s.setVm s.vm) m #[(.int i0), (.int i1), (.int i2), (.int i3), (.int i4)] below meth c T199 L 1 64 ∧ Fr n0 L := ⟨_, X199, N199⟩
    clear st199 V199 X199 N199 z200 W199 Y196 M196 Vq196 f197 f198 zz196 lq196 e194
    show oGl p e below (T199.setTop (mkF m 246 #[.val (.int i0), .val (.int i1), .val (.int i2), .val (.int i3), .val (.int i4), .val (.int ca), .val (.int cb), .val (.int cc), .val (.int cd), .val (.int mm), .unset, .unset] [(.ref a191)])) _
    refine sdup Y201 hx (hb hby at_246) rfl rfl (pc' := 247) ?_
    refine siconst Y201 hx (hb hby at_247) rfl rfl (z := 2) (pc' := 248) ?_
    refine siload Y201 hx (hb hby at_248) rfl rfl (pc' := 250) ?_
    obtain ⟨T204, h204, X204, e204, W204, V204, st204⟩ := Vq201.stC Y201 hx hZ e199 (j := (2 : Int32)) (by decide) (g := (mkF m 250 #[.val (.int i0), .val (.int i1), .val (.int i2), .val (.int i3), .val (.int i4), .val (.int ca), .val (.int cb), .val (.int cc), .val (.int cd), .val (.int mm), .unset, .unset] [(.int ca), (.int (2 : Int32)), (.ref a191), (.ref a191)])) rfl rfl (hb hby at_250)
    refine oOn st204 ?_
    have z205 : h199.size ≤ h204.size := Nat.le_of_eq W204.size.symm
    have N204 := Fr.snoc X204 M201 (by omega)
    have Vq206 : oAI Z h204 a191 .char 64 (oPre (FL ca cb cc cd) 3) := V204.congr (fun j _ => oPre_up (F := (FL ca cb cc cd)) (k := 2) hn_ca j)
    have f207 := (f202.wr W204 (by omega))
    have f208 := (f203.wrA W204 Vq201 wiS (by decide))
    have zz206 : n0 ≤ h204.size := by omega
    have lq206 : @LT.lt Nat _ a191 h204.size := Vq206.lt
    obtain ⟨Lc206, Y206, M206⟩ : ∃ L, Stand p l e room_1 (s.setVm s.vm) m #[(.int i0), (.int i1), (.int i2), (.int i3), (.int i4)] below meth c T204 L 1 64 ∧ Fr n0 L := ⟨_, X204, N204⟩
    clear st204 V204 X204 N204 z205 W204 Y201 M201 Vq201 f202 f203 zz201 lq201 e199
    show oGl p e below (T204.setTop (mkF m 251 #[.val (.int i0), .val (.int i1), .val (.int i2), .val (.int i3), .val (.int i4), .val (.int ca), .val (.int cb), .val (.int cc), .val (.int cd), .val (.int mm), .unset, .unset] [(.ref a191)])) _
    refine sdup Y206 hx (hb hby at_251) rfl rfl (pc' := 252) ?_
    refine siconst Y206 hx (hb hby at_252) rfl rfl (z := 3) (pc' := 253) ?_
    refine siload Y206 hx (hb hby at_253) rfl rfl (pc' := 255) ?_
    obtain ⟨T209, h209, X209, e209, W209, V209, st209⟩ := Vq206.stC Y206 hx hZ e204 (j := (3 : Int32)) (by decide) (g := (mkF m 255 #[.val (.int i0), .val (.int i1), .val (.int i2), .val (.int i3), .val (.int i4), .val (.int ca), .val (.int cb), .val (.int cc), .val (.int cd), .val (.int mm), .unset, .unset] [(.int cb), (.int (3 : Int32)), (.ref a191), (.ref a191)])) rfl rfl (hb hby at_255)
    refine oOn st209 ?_
    have z210 : h204.size ≤ h209.size := Nat.le_of_eq W209.size.symm
    have N209 := Fr.snoc X209 M206 (by omega)
    have Vq211 : oAI Z h209 a191 .char 64 (oPre (FL ca cb cc cd) 4) := V209.congr (fun j _ => oPre_up (F := (FL ca cb cc cd)) (k := 3) hn_cb j)
    have f212 := (f207.wr W209 (by omega))
    have f213 := (f208.wrA W209 Vq206 wiS (by decide))
    have zz211 : n0 ≤ h209.size := by omega
    have lq211 : @LT.lt Nat _ a191 h209.size := Vq211.lt
    obtain ⟨Lc211, Y211, M211⟩ : ∃ L, Stand p l e room_1 (s.setVm s.vm) m #[(.int i0), (.int i1), (.int i2), (.int i3), (.int i4)] below meth c T209 L 1 64 ∧ Fr n0 L := ⟨_, X209, N209⟩
    clear st209 V209 X209 N209 z210 W209 Y206 M206 Vq206 f207 f208 zz206 lq206 e204
    show oGl p e below (T209.setTop (mkF m 256 #[.val (.int i0), .val (.int i1), .val (.int i2), .val (.int i3), .val (.int i4), .val (.int ca), .val (.int cb), .val (.int cc), .val (.int cd), .val (.int mm), .unset, .unset] [(.ref a191)])) _
    refine sdup Y211 hx (hb hby at_256) rfl rfl (pc' := 257) ?_
    refine siconst Y211 hx (hb hby at_257) rfl rfl (z := 4) (pc' := 258) ?_
    refine siload Y211 hx (hb hby at_258) rfl rfl (pc' := 260) ?_
    obtain ⟨T214, h214, X214, e214, W214, V214, st214⟩ := Vq211.stC Y211 hx hZ e209 (j := (4 : Int32)) (by decide) (g := (mkF m 260 #[.val (.int i0), .val (.int i1), .val (.int i2), .val (.int i3), .val (.int i4), .val (.int ca), .val (.int cb), .val (.int cc), .val (.int cd), .val (.int mm), .unset, .unset] [(.int ca), (.int (4 : Int32)), (.ref a191), (.ref a191)])) rfl rfl (hb hby at_260)
    refine oOn st214 ?_
    have z215 : h209.size ≤ h214.size := Nat.le_of_eq W214.size.symm
    have N214 := Fr.snoc X214 M211 (by omega)
    have Vq216 : oAI Z h214 a191 .char 64 (oPre (FL ca cb cc cd) 5) := V214.congr (fun j _ => oPre_up (F := (FL ca cb cc cd)) (k := 4) hn_ca j)
    have f217 := (f212.wr W214 (by omega))
    have f218 := (f213.wrA W214 Vq211 wiS (by decide))
    have zz216 : n0 ≤ h214.size := by omega
    have lq216 : @LT.lt Nat _ a191 h214.size := Vq216.lt
    obtain ⟨Lc216, Y216, M216⟩ : ∃ L, Stand p l e room_1 (s.setVm s.vm) m #[(.int i0), (.int i1), (.int i2), (.int i3), (.int i4)] below meth c T214 L 1 64 ∧ Fr n0 L := ⟨_, X214, N214⟩
    clear st214 V214 X214 N214 z215 W214 Y211 M211 Vq211 f212 f213 zz211 lq211 e209
    show oGl p e below (T214.setTop (mkF m 261 #[.val (.int i0), .val (.int i1), .val (.int i2), .val (.int i3), .val (.int i4), .val (.int ca), .val (.int cb), .val (.int cc), .val (.int cd), .val (.int mm), .unset, .unset] [(.ref a191)])) _
    refine sdup Y216 hx (hb hby at_261) rfl rfl (pc' := 262) ?_
    refine siconst Y216 hx (hb hby at_262) rfl rfl (z := 5) (pc' := 263) ?_
    refine siload Y216 hx (hb hby at_263) rfl rfl (pc' := 265) ?_
    obtain ⟨T219, h219, X219, e219, W219, V219, st219⟩ := Vq216.stC Y216 hx hZ e214 (j := (5 : Int32)) (by decide) (g := (mkF m 265 #[.val (.int i0), .val (.int i1), .val (.int i2), .val (.int i3), .val (.int i4), .val (.int ca), .val (.int cb), .val (.int cc), .val (.int cd), .val (.int mm), .unset, .unset] [(.int cb), (.int (5 : Int32)), (.ref a191), (.ref a191)])) rfl rfl (hb hby at_265)
    refine oOn st219 ?_
    have z220 : h214.size ≤ h219.size := Nat.le_of_eq W219.size.symm
    have N219 := Fr.snoc X219 M216 (by omega)
    have Vq221 : oAI Z h219 a191 .char 64 (oPre (FL ca cb cc cd) 6) := V219.congr (fun j _ => oPre_up (F := (FL ca cb cc cd)) (k := 5) hn_cb j)
    have f222 := (f217.wr W219 (by omega))
    have f223 := (f218.wrA W219 Vq216 wiS (by decide))
    have zz221 : n0 ≤ h219.size := by omega
    have lq221 : @LT.lt Nat _ a191 h219.size := Vq221.lt
    obtain ⟨Lc221, Y221, M221⟩ : ∃ L, Stand p l e room_1 (s.setVm s.vm) m #[(.int i0), (.int i1), (.int i2), (.int i3), (.int i4)] below meth c T219 L 1 64 ∧ Fr n0 L := ⟨_, X219, N219⟩
    clear st219 V219 X219 N219 z220 W219 Y216 M216 Vq216 f217 f218 zz216 lq216 e214
    show oGl p e below (T219.setTop (mkF m 266 #[.val (.int i0), .val (.int i1), .val (.int i2), .val (.int i3), .val (.int i4), .val (.int ca), .val (.int cb), .val (.int cc), .val (.int cd), .val (.int mm), .unset, .unset] [(.ref a191)])) _
    refine sdup Y221 hx (hb hby at_266) rfl rfl (pc' := 267) ?_
    refine sbipush Y221 hx (hb hby at_267) rfl rfl (z := 6) (pc' := 269) ?_
    refine siload Y221 hx (hb hby at_269) rfl rfl (pc' := 271) ?_
    obtain ⟨T224, h224, X224, e224, W224, V224, st224⟩ := Vq221.stC Y221 hx hZ e219 (j := (6 : Int32)) (by decide) (g := (mkF m 271 #[.val (.int i0), .val (.int i1), .val (.int i2), .val (.int i3), .val (.int i4), .val (.int ca), .val (.int cb), .val (.int cc), .val (.int cd), .val (.int mm), .unset, .unset] [(.int ca), (.int (6 : Int32)), (.ref a191), (.ref a191)])) rfl rfl (hb hby at_271)
    refine oOn st224 ?_
    have z225 : h219.size ≤ h224.size := Nat.le_of_eq W224.size.symm
    have N224 := Fr.snoc X224 M221 (by omega)
    have Vq226 : oAI Z h224 a191 .char 64 (oPre (FL ca cb cc cd) 7) := V224.congr (fun j _ => oPre_up (F := (FL ca cb cc cd)) (k := 6) hn_ca j)
    have f227 := (f222.wr W224 (by omega))
    have f228 := (f223.wrA W224 Vq221 wiS (by decide))
    have zz226 : n0 ≤ h224.size := by omega
    have lq226 : @LT.lt Nat _ a191 h224.size := Vq226.lt
    obtain ⟨Lc226, Y226, M226⟩ : ∃ L, Stand p l e room_1 (s.setVm s.vm) m #[(.int i0), (.int i1), (.int i2), (.int i3), (.int i4)] below meth c T224 L 1 64 ∧ Fr n0 L := ⟨_, X224, N224⟩
    clear st224 V224 X224 N224 z225 W224 Y221 M221 Vq221 f222 f223 zz221 lq221 e219
    show oGl p e below (T224.setTop (mkF m 272 #[.val (.int i0), .val (.int i1), .val (.int i2), .val (.int i3), .val (.int i4), .val (.int ca), .val (.int cb), .val (.int cc), .val (.int cd), .val (.int mm), .unset, .unset] [(.ref a191)])) _
    refine sdup Y226 hx (hb hby at_272) rfl rfl (pc' := 273) ?_
    refine sbipush Y226 hx (hb hby at_273) rfl rfl (z := 7) (pc' := 275) ?_
    refine siload Y226 hx (hb hby at_275) rfl rfl (pc' := 277) ?_
    obtain ⟨T229, h229, X229, e229, W229, V229, st229⟩ := Vq226.stC Y226 hx hZ e224 (j := (7 : Int32)) (by decide) (g := (mkF m 277 #[.val (.int i0), .val (.int i1), .val (.int i2), .val (.int i3), .val (.int i4), .val (.int ca), .val (.int cb), .val (.int cc), .val (.int cd), .val (.int mm), .unset, .unset] [(.int cb), (.int (7 : Int32)), (.ref a191), (.ref a191)])) rfl rfl (hb hby at_277)
    refine oOn st229 ?_
    have z230 : h224.size ≤ h229.size := Nat.le_of_eq W229.size.symm
    have N229 := Fr.snoc X229 M226 (by omega)
    have Vq231 : oAI Z h229 a191 .char 64 (oPre (FL ca cb cc cd) 8) := V229.congr (fun j _ => oPre_up (F := (FL ca cb cc cd)) (k := 7) hn_cb j)
    have f232 := (f227.wr W229 (by omega))
    have f233 := (f228.wrA W229 Vq226 wiS (by decide))
    have zz231 : n0 ≤ h229.size := by omega
    have lq231 : @LT.lt Nat _ a191 h229.size := Vq231.lt
    obtain ⟨Lc231, Y231, M231⟩ : ∃ L, Stand p l e room_1 (s.setVm s.vm) m #[(.int i0), (.int i1), (.int i2), (.int i3), (.int i4)] below meth c T229 L 1 64 ∧ Fr n0 L := ⟨_, X229, N229⟩
    clear st229 V229 X229 N229 z230 W229 Y226 M226 Vq226 f227 f228 zz226 lq226 e224
    show oGl p e below (T229.setTop (mkF m 278 #[.val (.int i0), .val (.int i1), .val (.int i2), .val (.int i3), .val (.int i4), .val (.int ca), .val (.int cb), .val (.int cc), .val (.int cd), .val (.int mm), .unset, .unset] [(.ref a191)])) _
    refine sdup Y231 hx (hb hby at_278) rfl rfl (pc' := 279) ?_
    refine sbipush Y231 hx (hb hby at_279) rfl rfl (z := 8) (pc' := 281) ?_
    refine siload Y231 hx (hb hby at_281) rfl rfl (pc' := 283) ?_
    obtain ⟨T234, h234, X234, e234, W234, V234, st234⟩ := Vq231.stC Y231 hx hZ e229 (j := (8 : Int32)) (by decide) (g := (mkF m 283 #[.val (.int i0), .val (.int i1), .val (.int i2), .val (.int i3), .val (.int i4), .val (.int ca), .val (.int cb), .val (.int cc), .val (.int cd), .val (.int mm), .unset, .unset] [(.int ca), (.int (8 : Int32)), (.ref a191), (.ref a191)])) rfl rfl (hb hby at_283)
    refine oOn st234 ?_
    have z235 : h229.size ≤ h234.size := Nat.le_of_eq W234.size.symm
    have N234 := Fr.snoc X234 M231 (by omega)
    have Vq236 : oAI Z h234 a191 .char 64 (oPre (FL ca cb cc cd) 9) := V234.congr (fun j _ => oPre_up (F := (FL ca cb cc cd)) (k := 8) hn_ca j)
    have f237 := (f232.wr W234 (by omega))
    have f238 := (f233.wrA W234 Vq231 wiS (by decide))
    have zz236 : n0 ≤ h234.size := by omega
    have lq236 : @LT.lt Nat _ a191 h234.size := Vq236.lt
    obtain ⟨Lc236, Y236, M236⟩ : ∃ L, Stand p l e room_1 (s.setVm s.vm) m #[(.int i0), (.int i1), (.int i2), (.int i3), (.int i4)] below meth c T234 L 1 64 ∧ Fr n0 L := ⟨_, X234, N234⟩
    clear st234 V234 X234 N234 z235 W234 Y231 M231 Vq231 f232 f233 zz231 lq231 e229
    show oGl p e below (T234.setTop (mkF m 284 #[.val (.int i0), .val (.int i1), .val (.int i2), .val (.int i3), .val (.int i4), .val (.int ca), .val (.int cb), .val (.int cc), .val (.int cd), .val (.int mm), .unset, .unset] [(.ref a191)])) _
    refine sdup Y236 hx (hb hby at_284) rfl rfl (pc' := 285) ?_
    refine sbipush Y236 hx (hb hby at_285) rfl rfl (z := 9) (pc' := 287) ?_
    refine siload Y236 hx (hb hby at_287) rfl rfl (pc' := 289) ?_
    obtain ⟨T239, h239, X239, e239, W239, V239, st239⟩ := Vq236.stC Y236 hx hZ e234 (j := (9 : Int32)) (by decide) (g := (mkF m 289 #[.val (.int i0), .val (.int i1), .val (.int i2), .val (.int i3), .val (.int i4), .val (.int ca), .val (.int cb), .val (.int cc), .val (.int cd), .val (.int mm), .unset, .unset] [(.int cb), (.int (9 : Int32)), (.ref a191), (.ref a191)])) rfl rfl (hb hby at_289)
    refine oOn st239 ?_
    have z240 : h234.size ≤ h239.size := Nat.le_of_eq W239.size.symm
    have N239 := Fr.snoc X239 M236 (by omega)
    have Vq241 : oAI Z h239 a191 .char 64 (oPre (FL ca cb cc cd) 10) := V239.congr (fun j _ => oPre_up (F := (FL ca cb cc cd)) (k := 9) hn_cb j)
    have f242 := (f237.wr W239 (by omega))
    have f243 := (f238.wrA W239 Vq236 wiS (by decide))
    have zz241 : n0 ≤ h239.size := by omega
    have lq241 : @LT.lt Nat _ a191 h239.size := Vq241.lt
    obtain ⟨Lc241, Y241, M241⟩ : ∃ L, Stand p l e room_1 (s.setVm s.vm) m #[(.int i0), (.int i1), (.int i2), (.int i3), (.int i4)] below meth c T239 L 1 64 ∧ Fr n0 L := ⟨_, X239, N239⟩
    clear st239 V239 X239 N239 z240 W239 Y236 M236 Vq236 f237 f238 zz236 lq236 e234
    show oGl p e below (T239.setTop (mkF m 290 #[.val (.int i0), .val (.int i1), .val (.int i2), .val (.int i3), .val (.int i4), .val (.int ca), .val (.int cb), .val (.int cc), .val (.int cd), .val (.int mm), .unset, .unset] [(.ref a191)])) _
    refine sdup Y241 hx (hb hby at_290) rfl rfl (pc' := 291) ?_
    refine sbipush Y241 hx (hb hby at_291) rfl rfl (z := 10) (pc' := 293) ?_
    refine siload Y241 hx (hb hby at_293) rfl rfl (pc' := 295) ?_
    obtain ⟨T244, h244, X244, e244, W244, V244, st244⟩ := Vq241.stC Y241 hx hZ e239 (j := (10 : Int32)) (by decide) (g := (mkF m 295 #[.val (.int i0), .val (.int i1), .val (.int i2), .val (.int i3), .val (.int i4), .val (.int ca), .val (.int cb), .val (.int cc), .val (.int cd), .val (.int mm), .unset, .unset] [(.int ca), (.int (10 : Int32)), (.ref a191), (.ref a191)])) rfl rfl (hb hby at_295)
    refine oOn st244 ?_
    have z245 : h239.size ≤ h244.size := Nat.le_of_eq W244.size.symm
    have N244 := Fr.snoc X244 M241 (by omega)
    have Vq246 : oAI Z h244 a191 .char 64 (oPre (FL ca cb cc cd) 11) := V244.congr (fun j _ => oPre_up (F := (FL ca cb cc cd)) (k := 10) hn_ca j)
    have f247 := (f242.wr W244 (by omega))
    have f248 := (f243.wrA W244 Vq241 wiS (by decide))
    have zz246 : n0 ≤ h244.size := by omega
    have lq246 : @LT.lt Nat _ a191 h244.size := Vq246.lt
    obtain ⟨Lc246, Y246, M246⟩ : ∃ L, Stand p l e room_1 (s.setVm s.vm) m #[(.int i0), (.int i1), (.int i2), (.int i3), (.int i4)] below meth c T244 L 1 64 ∧ Fr n0 L := ⟨_, X244, N244⟩
    clear st244 V244 X244 N244 z245 W244 Y241 M241 Vq241 f242 f243 zz241 lq241 e239
    show oGl p e below (T244.setTop (mkF m 296 #[.val (.int i0), .val (.int i1), .val (.int i2), .val (.int i3), .val (.int i4), .val (.int ca), .val (.int cb), .val (.int cc), .val (.int cd), .val (.int mm), .unset, .unset] [(.ref a191)])) _
    refine sdup Y246 hx (hb hby at_296) rfl rfl (pc' := 297) ?_
    refine sbipush Y246 hx (hb hby at_297) rfl rfl (z := 11) (pc' := 299) ?_
    refine siload Y246 hx (hb hby at_299) rfl rfl (pc' := 301) ?_
    obtain ⟨T249, h249, X249, e249, W249, V249, st249⟩ := Vq246.stC Y246 hx hZ e244 (j := (11 : Int32)) (by decide) (g := (mkF m 301 #[.val (.int i0), .val (.int i1), .val (.int i2), .val (.int i3), .val (.int i4), .val (.int ca), .val (.int cb), .val (.int cc), .val (.int cd), .val (.int mm), .unset, .unset] [(.int cb), (.int (11 : Int32)), (.ref a191), (.ref a191)])) rfl rfl (hb hby at_301)
    refine oOn st249 ?_
    have z250 : h244.size ≤ h249.size := Nat.le_of_eq W249.size.symm
    have N249 := Fr.snoc X249 M246 (by omega)
    have Vq251 : oAI Z h249 a191 .char 64 (oPre (FL ca cb cc cd) 12) := V249.congr (fun j _ => oPre_up (F := (FL ca cb cc cd)) (k := 11) hn_cb j)
    have f252 := (f247.wr W249 (by omega))
    have f253 := (f248.wrA W249 Vq246 wiS (by decide))
    have zz251 : n0 ≤ h249.size := by omega
    have lq251 : @LT.lt Nat _ a191 h249.size := Vq251.lt
    obtain ⟨Lc251, Y251, M251⟩ : ∃ L, Stand p l e room_1 (s.setVm s.vm) m #[(.int i0), (.int i1), (.int i2), (.int i3), (.int i4)] below meth c T249 L 1 64 ∧ Fr n0 L := ⟨_, X249, N249⟩
    clear st249 V249 X249 N249 z250 W249 Y246 M246 Vq246 f247 f248 zz246 lq246 e244
    show oGl p e below (T249.setTop (mkF m 302 #[.val (.int i0), .val (.int i1), .val (.int i2), .val (.int i3), .val (.int i4), .val (.int ca), .val (.int cb), .val (.int cc), .val (.int cd), .val (.int mm), .unset, .unset] [(.ref a191)])) _
    refine sdup Y251 hx (hb hby at_302) rfl rfl (pc' := 303) ?_
    refine sbipush Y251 hx (hb hby at_303) rfl rfl (z := 12) (pc' := 305) ?_
    refine siload Y251 hx (hb hby at_305) rfl rfl (pc' := 307) ?_
    obtain ⟨T254, h254, X254, e254, W254, V254, st254⟩ := Vq251.stC Y251 hx hZ e249 (j := (12 : Int32)) (by decide) (g := (mkF m 307 #[.val (.int i0), .val (.int i1), .val (.int i2), .val (.int i3), .val (.int i4), .val (.int ca), .val (.int cb), .val (.int cc), .val (.int cd), .val (.int mm), .unset, .unset] [(.int ca), (.int (12 : Int32)), (.ref a191), (.ref a191)])) rfl rfl (hb hby at_307)
    refine oOn st254 ?_
    have z255 : h249.size ≤ h254.size := Nat.le_of_eq W254.size.symm
    have N254 := Fr.snoc X254 M251 (by omega)
    have Vq256 : oAI Z h254 a191 .char 64 (oPre (FL ca cb cc cd) 13) := V254.congr (fun j _ => oPre_up (F := (FL ca cb cc cd)) (k := 12) hn_ca j)
    have f257 := (f252.wr W254 (by omega))
    have f258 := (f253.wrA W254 Vq251 wiS (by decide))
    have zz256 : n0 ≤ h254.size := by omega
    have lq256 : @LT.lt Nat _ a191 h254.size := Vq256.lt
    obtain ⟨Lc256, Y256, M256⟩ : ∃ L, Stand p l e room_1 (s.setVm s.vm) m #[(.int i0), (.int i1), (.int i2), (.int i3), (.int i4)] below meth c T254 L 1 64 ∧ Fr n0 L := ⟨_, X254, N254⟩
    clear st254 V254 X254 N254 z255 W254 Y251 M251 Vq251 f252 f253 zz251 lq251 e249
    show oGl p e below (T254.setTop (mkF m 308 #[.val (.int i0), .val (.int i1), .val (.int i2), .val (.int i3), .val (.int i4), .val (.int ca), .val (.int cb), .val (.int cc), .val (.int cd), .val (.int mm), .unset, .unset] [(.ref a191)])) _
    refine sdup Y256 hx (hb hby at_308) rfl rfl (pc' := 309) ?_
    refine sbipush Y256 hx (hb hby at_309) rfl rfl (z := 13) (pc' := 311) ?_
    refine siload Y256 hx (hb hby at_311) rfl rfl (pc' := 313) ?_
    obtain ⟨T259, h259, X259, e259, W259, V259, st259⟩ := Vq256.stC Y256 hx hZ e254 (j := (13 : Int32)) (by decide) (g := (mkF m 313 #[.val (.int i0), .val (.int i1), .val (.int i2), .val (.int i3), .val (.int i4), .val (.int ca), .val (.int cb), .val (.int cc), .val (.int cd), .val (.int mm), .unset, .unset] [(.int cb), (.int (13 : Int32)), (.ref a191), (.ref a191)])) rfl rfl (hb hby at_313)
    refine oOn st259 ?_
    have z260 : h254.size ≤ h259.size := Nat.le_of_eq W259.size.symm
    have N259 := Fr.snoc X259 M256 (by omega)
    have Vq261 : oAI Z h259 a191 .char 64 (oPre (FL ca cb cc cd) 14) := V259.congr (fun j _ => oPre_up (F := (FL ca cb cc cd)) (k := 13) hn_cb j)
    have f262 := (f257.wr W259 (by omega))
    have f263 := (f258.wrA W259 Vq256 wiS (by decide))
    have zz261 : n0 ≤ h259.size := by omega
    have lq261 : @LT.lt Nat _ a191 h259.size := Vq261.lt
    obtain ⟨Lc261, Y261, M261⟩ : ∃ L, Stand p l e room_1 (s.setVm s.vm) m #[(.int i0), (.int i1), (.int i2), (.int i3), (.int i4)] below meth c T259 L 1 64 ∧ Fr n0 L := ⟨_, X259, N259⟩
    clear st259 V259 X259 N259 z260 W259 Y256 M256 Vq256 f257 f258 zz256 lq256 e254
    show oGl p e below (T259.setTop (mkF m 314 #[.val (.int i0), .val (.int i1), .val (.int i2), .val (.int i3), .val (.int i4), .val (.int ca), .val (.int cb), .val (.int cc), .val (.int cd), .val (.int mm), .unset, .unset] [(.ref a191)])) _
    refine sdup Y261 hx (hb hby at_314) rfl rfl (pc' := 315) ?_
    refine sbipush Y261 hx (hb hby at_315) rfl rfl (z := 14) (pc' := 317) ?_
    refine siload Y261 hx (hb hby at_317) rfl rfl (pc' := 319) ?_
    obtain ⟨T264, h264, X264, e264, W264, V264, st264⟩ := Vq261.stC Y261 hx hZ e259 (j := (14 : Int32)) (by decide) (g := (mkF m 319 #[.val (.int i0), .val (.int i1), .val (.int i2), .val (.int i3), .val (.int i4), .val (.int ca), .val (.int cb), .val (.int cc), .val (.int cd), .val (.int mm), .unset, .unset] [(.int ca), (.int (14 : Int32)), (.ref a191), (.ref a191)])) rfl rfl (hb hby at_319)
    refine oOn st264 ?_
    have z265 : h259.size ≤ h264.size := Nat.le_of_eq W264.size.symm
    have N264 := Fr.snoc X264 M261 (by omega)
    have Vq266 : oAI Z h264 a191 .char 64 (oPre (FL ca cb cc cd) 15) := V264.congr (fun j _ => oPre_up (F := (FL ca cb cc cd)) (k := 14) hn_ca j)
    have f267 := (f262.wr W264 (by omega))
    have f268 := (f263.wrA W264 Vq261 wiS (by decide))
    have zz266 : n0 ≤ h264.size := by omega
    have lq266 : @LT.lt Nat _ a191 h264.size := Vq266.lt
    obtain ⟨Lc266, Y266, M266⟩ : ∃ L, Stand p l e room_1 (s.setVm s.vm) m #[(.int i0), (.int i1), (.int i2), (.int i3), (.int i4)] below meth c T264 L 1 64 ∧ Fr n0 L := ⟨_, X264, N264⟩
    clear st264 V264 X264 N264 z265 W264 Y261 M261 Vq261 f262 f263 zz261 lq261 e259
    show oGl p e below (T264.setTop (mkF m 320 #[.val (.int i0), .val (.int i1), .val (.int i2), .val (.int i3), .val (.int i4), .val (.int ca), .val (.int cb), .val (.int cc), .val (.int cd), .val (.int mm), .unset, .unset] [(.ref a191)])) _
    refine sdup Y266 hx (hb hby at_320) rfl rfl (pc' := 321) ?_
    refine sbipush Y266 hx (hb hby at_321) rfl rfl (z := 15) (pc' := 323) ?_
    refine siload Y266 hx (hb hby at_323) rfl rfl (pc' := 325) ?_
    obtain ⟨T269, h269, X269, e269, W269, V269, st269⟩ := Vq266.stC Y266 hx hZ e264 (j := (15 : Int32)) (by decide) (g := (mkF m 325 #[.val (.int i0), .val (.int i1), .val (.int i2), .val (.int i3), .val (.int i4), .val (.int ca), .val (.int cb), .val (.int cc), .val (.int cd), .val (.int mm), .unset, .unset] [(.int cb), (.int (15 : Int32)), (.ref a191), (.ref a191)])) rfl rfl (hb hby at_325)
    refine oOn st269 ?_
    have z270 : h264.size ≤ h269.size := Nat.le_of_eq W269.size.symm
    have N269 := Fr.snoc X269 M266 (by omega)
    have Vq271 : oAI Z h269 a191 .char 64 (oPre (FL ca cb cc cd) 16) := V269.congr (fun j _ => oPre_up (F := (FL ca cb cc cd)) (k := 15) hn_cb j)
    have f272 := (f267.wr W269 (by omega))
    have f273 := (f268.wrA W269 Vq266 wiS (by decide))
    have zz271 : n0 ≤ h269.size := by omega
    have lq271 : @LT.lt Nat _ a191 h269.size := Vq271.lt
    obtain ⟨Lc271, Y271, M271⟩ : ∃ L, Stand p l e room_1 (s.setVm s.vm) m #[(.int i0), (.int i1), (.int i2), (.int i3), (.int i4)] below meth c T269 L 1 64 ∧ Fr n0 L := ⟨_, X269, N269⟩
    clear st269 V269 X269 N269 z270 W269 Y266 M266 Vq266 f267 f268 zz266 lq266 e264
    show oGl p e below (T269.setTop (mkF m 326 #[.val (.int i0), .val (.int i1), .val (.int i2), .val (.int i3), .val (.int i4), .val (.int ca), .val (.int cb), .val (.int cc), .val (.int cd), .val (.int mm), .unset, .unset] [(.ref a191)])) _
    refine sdup Y271 hx (hb hby at_326) rfl rfl (pc' := 327) ?_
    refine sbipush Y271 hx (hb hby at_327) rfl rfl (z := 16) (pc' := 329) ?_
    refine siload Y271 hx (hb hby at_329) rfl rfl (pc' := 331) ?_
    obtain ⟨T274, h274, X274, e274, W274, V274, st274⟩ := Vq271.stC Y271 hx hZ e269 (j := (16 : Int32)) (by decide) (g := (mkF m 331 #[.val (.int i0), .val (.int i1), .val (.int i2), .val (.int i3), .val (.int i4), .val (.int ca), .val (.int cb), .val (.int cc), .val (.int cd), .val (.int mm), .unset, .unset] [(.int ca), (.int (16 : Int32)), (.ref a191), (.ref a191)])) rfl rfl (hb hby at_331)
    refine oOn st274 ?_
    have z275 : h269.size ≤ h274.size := Nat.le_of_eq W274.size.symm
    have N274 := Fr.snoc X274 M271 (by omega)
    have Vq276 : oAI Z h274 a191 .char 64 (oPre (FL ca cb cc cd) 17) := V274.congr (fun j _ => oPre_up (F := (FL ca cb cc cd)) (k := 16) hn_ca j)
    have f277 := (f272.wr W274 (by omega))
    have f278 := (f273.wrA W274 Vq271 wiS (by decide))
    have zz276 : n0 ≤ h274.size := by omega
    have lq276 : @LT.lt Nat _ a191 h274.size := Vq276.lt
    obtain ⟨Lc276, Y276, M276⟩ : ∃ L, Stand p l e room_1 (s.setVm s.vm) m #[(.int i0), (.int i1), (.int i2), (.int i3), (.int i4)] below meth c T274 L 1 64 ∧ Fr n0 L := ⟨_, X274, N274⟩
    clear st274 V274 X274 N274 z275 W274 Y271 M271 Vq271 f272 f273 zz271 lq271 e269
    show oGl p e below (T274.setTop (mkF m 332 #[.val (.int i0), .val (.int i1), .val (.int i2), .val (.int i3), .val (.int i4), .val (.int ca), .val (.int cb), .val (.int cc), .val (.int cd), .val (.int mm), .unset, .unset] [(.ref a191)])) _
    refine sdup Y276 hx (hb hby at_332) rfl rfl (pc' := 333) ?_
    refine sbipush Y276 hx (hb hby at_333) rfl rfl (z := 17) (pc' := 335) ?_
    refine siload Y276 hx (hb hby at_335) rfl rfl (pc' := 337) ?_
    obtain ⟨T279, h279, X279, e279, W279, V279, st279⟩ := Vq276.stC Y276 hx hZ e274 (j := (17 : Int32)) (by decide) (g := (mkF m 337 #[.val (.int i0), .val (.int i1), .val (.int i2), .val (.int i3), .val (.int i4), .val (.int ca), .val (.int cb), .val (.int cc), .val (.int cd), .val (.int mm), .unset, .unset] [(.int cb), (.int (17 : Int32)), (.ref a191), (.ref a191)])) rfl rfl (hb hby at_337)
    refine oOn st279 ?_
    have z280 : h274.size ≤ h279.size := Nat.le_of_eq W279.size.symm
    have N279 := Fr.snoc X279 M276 (by omega)
    have Vq281 : oAI Z h279 a191 .char 64 (oPre (FL ca cb cc cd) 18) := V279.congr (fun j _ => oPre_up (F := (FL ca cb cc cd)) (k := 17) hn_cb j)
    have f282 := (f277.wr W279 (by omega))
    have f283 := (f278.wrA W279 Vq276 wiS (by decide))
    have zz281 : n0 ≤ h279.size := by omega
    have lq281 : @LT.lt Nat _ a191 h279.size := Vq281.lt
    obtain ⟨Lc281, Y281, M281⟩ : ∃ L, Stand p l e room_1 (s.setVm s.vm) m #[(.int i0), (.int i1), (.int i2), (.int i3), (.int i4)] below meth c T279 L 1 64 ∧ Fr n0 L := ⟨_, X279, N279⟩
    clear st279 V279 X279 N279 z280 W279 Y276 M276 Vq276 f277 f278 zz276 lq276 e274
    show oGl p e below (T279.setTop (mkF m 338 #[.val (.int i0), .val (.int i1), .val (.int i2), .val (.int i3), .val (.int i4), .val (.int ca), .val (.int cb), .val (.int cc), .val (.int cd), .val (.int mm), .unset, .unset] [(.ref a191)])) _
    refine sdup Y281 hx (hb hby at_338) rfl rfl (pc' := 339) ?_
    refine sbipush Y281 hx (hb hby at_339) rfl rfl (z := 18) (pc' := 341) ?_
    refine siload Y281 hx (hb hby at_341) rfl rfl (pc' := 343) ?_
    obtain ⟨T284, h284, X284, e284, W284, V284, st284⟩ := Vq281.stC Y281 hx hZ e279 (j := (18 : Int32)) (by decide) (g := (mkF m 343 #[.val (.int i0), .val (.int i1), .val (.int i2), .val (.int i3), .val (.int i4), .val (.int ca), .val (.int cb), .val (.int cc), .val (.int cd), .val (.int mm), .unset, .unset] [(.int ca), (.int (18 : Int32)), (.ref a191), (.ref a191)])) rfl rfl (hb hby at_343)
    refine oOn st284 ?_
    have z285 : h279.size ≤ h284.size := Nat.le_of_eq W284.size.symm
    have N284 := Fr.snoc X284 M281 (by omega)
    have Vq286 : oAI Z h284 a191 .char 64 (oPre (FL ca cb cc cd) 19) := V284.congr (fun j _ => oPre_up (F := (FL ca cb cc cd)) (k := 18) hn_ca j)
    have f287 := (f282.wr W284 (by omega))
    have f288 := (f283.wrA W284 Vq281 wiS (by decide))
    have zz286 : n0 ≤ h284.size := by omega
    have lq286 : @LT.lt Nat _ a191 h284.size := Vq286.lt
    obtain ⟨Lc286, Y286, M286⟩ : ∃ L, Stand p l e room_1 (s.setVm s.vm) m #[(.int i0), (.int i1), (.int i2), (.int i3), (.int i4)] below meth c T284 L 1 64 ∧ Fr n0 L := ⟨_, X284, N284⟩
    clear st284 V284 X284 N284 z285 W284 Y281 M281 Vq281 f282 f283 zz281 lq281 e279
    show oGl p e below (T284.setTop (mkF m 344 #[.val (.int i0), .val (.int i1), .val (.int i2), .val (.int i3), .val (.int i4), .val (.int ca), .val (.int cb), .val (.int cc), .val (.int cd), .val (.int mm), .unset, .unset] [(.ref a191)])) _
    refine sdup Y286 hx (hb hby at_344) rfl rfl (pc' := 345) ?_
    refine sbipush Y286 hx (hb hby at_345) rfl rfl (z := 19) (pc' := 347) ?_
    refine siload Y286 hx (hb hby at_347) rfl rfl (pc' := 349) ?_
    obtain ⟨T289, h289, X289, e289, W289, V289, st289⟩ := Vq286.stC Y286 hx hZ e284 (j := (19 : Int32)) (by decide) (g := (mkF m 349 #[.val (.int i0), .val (.int i1), .val (.int i2), .val (.int i3), .val (.int i4), .val (.int ca), .val (.int cb), .val (.int cc), .val (.int cd), .val (.int mm), .unset, .unset] [(.int cb), (.int (19 : Int32)), (.ref a191), (.ref a191)])) rfl rfl (hb hby at_349)
    refine oOn st289 ?_
    have z290 : h284.size ≤ h289.size := Nat.le_of_eq W289.size.symm
    have N289 := Fr.snoc X289 M286 (by omega)
    have Vq291 : oAI Z h289 a191 .char 64 (oPre (FL ca cb cc cd) 20) := V289.congr (fun j _ => oPre_up (F := (FL ca cb cc cd)) (k := 19) hn_cb j)
    have f292 := (f287.wr W289 (by omega))
    have f293 := (f288.wrA W289 Vq286 wiS (by decide))
    have zz291 : n0 ≤ h289.size := by omega
    have lq291 : @LT.lt Nat _ a191 h289.size := Vq291.lt
    obtain ⟨Lc291, Y291, M291⟩ : ∃ L, Stand p l e room_1 (s.setVm s.vm) m #[(.int i0), (.int i1), (.int i2), (.int i3), (.int i4)] below meth c T289 L 1 64 ∧ Fr n0 L := ⟨_, X289, N289⟩
    clear st289 V289 X289 N289 z290 W289 Y286 M286 Vq286 f287 f288 zz286 lq286 e284
    show oGl p e below (T289.setTop (mkF m 350 #[.val (.int i0), .val (.int i1), .val (.int i2), .val (.int i3), .val (.int i4), .val (.int ca), .val (.int cb), .val (.int cc), .val (.int cd), .val (.int mm), .unset, .unset] [(.ref a191)])) _
    refine sdup Y291 hx (hb hby at_350) rfl rfl (pc' := 351) ?_
    refine sbipush Y291 hx (hb hby at_351) rfl rfl (z := 20) (pc' := 353) ?_
    refine siload Y291 hx (hb hby at_353) rfl rfl (pc' := 355) ?_
    obtain ⟨T294, h294, X294, e294, W294, V294, st294⟩ := Vq291.stC Y291 hx hZ e289 (j := (20 : Int32)) (by decide) (g := (mkF m 355 #[.val (.int i0), .val (.int i1), .val (.int i2), .val (.int i3), .val (.int i4), .val (.int ca), .val (.int cb), .val (.int cc), .val (.int cd), .val (.int mm), .unset, .unset] [(.int ca), (.int (20 : Int32)), (.ref a191), (.ref a191)])) rfl rfl (hb hby at_355)
    refine oOn st294 ?_
    have z295 : h289.size ≤ h294.size := Nat.le_of_eq W294.size.symm
    have N294 := Fr.snoc X294 M291 (by omega)
    have Vq296 : oAI Z h294 a191 .char 64 (oPre (FL ca cb cc cd) 21) := V294.congr (fun j _ => oPre_up (F := (FL ca cb cc cd)) (k := 20) hn_ca j)
    have f297 := (f292.wr W294 (by omega))
    have f298 := (f293.wrA W294 Vq291 wiS (by decide))
    have zz296 : n0 ≤ h294.size := by omega
    have lq296 : @LT.lt Nat _ a191 h294.size := Vq296.lt
    obtain ⟨Lc296, Y296, M296⟩ : ∃ L, Stand p l e room_1 (s.setVm s.vm) m #[(.int i0), (.int i1), (.int i2), (.int i3), (.int i4)] below meth c T294 L 1 64 ∧ Fr n0 L := ⟨_, X294, N294⟩
    clear st294 V294 X294 N294 z295 W294 Y291 M291 Vq291 f292 f293 zz291 lq291 e289
    show oGl p e below (T294.setTop (mkF m 356 #[.val (.int i0), .val (.int i1), .val (.int i2), .val (.int i3), .val (.int i4), .val (.int ca), .val (.int cb), .val (.int cc), .val (.int cd), .val (.int mm), .unset, .unset] [(.ref a191)])) _
    refine sdup Y296 hx (hb hby at_356) rfl rfl (pc' := 357) ?_
    refine sbipush Y296 hx (hb hby at_357) rfl rfl (z := 21) (pc' := 359) ?_
    refine siload Y296 hx (hb hby at_359) rfl rfl (pc' := 361) ?_
    obtain ⟨T299, h299, X299, e299, W299, V299, st299⟩ := Vq296.stC Y296 hx hZ e294 (j := (21 : Int32)) (by decide) (g := (mkF m 361 #[.val (.int i0), .val (.int i1), .val (.int i2), .val (.int i3), .val (.int i4), .val (.int ca), .val (.int cb), .val (.int cc), .val (.int cd), .val (.int mm), .unset, .unset] [(.int cb), (.int (21 : Int32)), (.ref a191), (.ref a191)])) rfl rfl (hb hby at_361)
    refine oOn st299 ?_
    have z300 : h294.size ≤ h299.size := Nat.le_of_eq W299.size.symm
    have N299 := Fr.snoc X299 M296 (by omega)
    have Vq301 : oAI Z h299 a191 .char 64 (oPre (FL ca cb cc cd) 22) := V299.congr (fun j _ => oPre_up (F := (FL ca cb cc cd)) (k := 21) hn_cb j)
    have f302 := (f297.wr W299 (by omega))
    have f303 := (f298.wrA W299 Vq296 wiS (by decide))
    have zz301 : n0 ≤ h299.size := by omega
    have lq301 : @LT.lt Nat _ a191 h299.size := Vq301.lt
    obtain ⟨Lc301, Y301, M301⟩ : ∃ L, Stand p l e room_1 (s.setVm s.vm) m #[(.int i0), (.int i1), (.int i2), (.int i3), (.int i4)] below meth c T299 L 1 64 ∧ Fr n0 L := ⟨_, X299, N299⟩
    clear st299 V299 X299 N299 z300 W299 Y296 M296 Vq296 f297 f298 zz296 lq296 e294
    show oGl p e below (T299.setTop (mkF m 362 #[.val (.int i0), .val (.int i1), .val (.int i2), .val (.int i3), .val (.int i4), .val (.int ca), .val (.int cb), .val (.int cc), .val (.int cd), .val (.int mm), .unset, .unset] [(.ref a191)])) _
    refine sdup Y301 hx (hb hby at_362) rfl rfl (pc' := 363) ?_
    refine sbipush Y301 hx (hb hby at_363) rfl rfl (z := 22) (pc' := 365) ?_
    refine siload Y301 hx (hb hby at_365) rfl rfl (pc' := 367) ?_
    obtain ⟨T304, h304, X304, e304, W304, V304, st304⟩ := Vq301.stC Y301 hx hZ e299 (j := (22 : Int32)) (by decide) (g := (mkF m 367 #[.val (.int i0), .val (.int i1), .val (.int i2), .val (.int i3), .val (.int i4), .val (.int ca), .val (.int cb), .val (.int cc), .val (.int cd), .val (.int mm), .unset, .unset] [(.int ca), (.int (22 : Int32)), (.ref a191), (.ref a191)])) rfl rfl (hb hby at_367)
    refine oOn st304 ?_
    have z305 : h299.size ≤ h304.size := Nat.le_of_eq W304.size.symm
    have N304 := Fr.snoc X304 M301 (by omega)
    have Vq306 : oAI Z h304 a191 .char 64 (oPre (FL ca cb cc cd) 23) := V304.congr (fun j _ => oPre_up (F := (FL ca cb cc cd)) (k := 22) hn_ca j)
    have f307 := (f302.wr W304 (by omega))
    have f308 := (f303.wrA W304 Vq301 wiS (by decide))
    have zz306 : n0 ≤ h304.size := by omega
    have lq306 : @LT.lt Nat _ a191 h304.size := Vq306.lt
    obtain ⟨Lc306, Y306, M306⟩ : ∃ L, Stand p l e room_1 (s.setVm s.vm) m #[(.int i0), (.int i1), (.int i2), (.int i3), (.int i4)] below meth c T304 L 1 64 ∧ Fr n0 L := ⟨_, X304, N304⟩
    clear st304 V304 X304 N304 z305 W304 Y301 M301 Vq301 f302 f303 zz301 lq301 e299
    show oGl p e below (T304.setTop (mkF m 368 #[.val (.int i0), .val (.int i1), .val (.int i2), .val (.int i3), .val (.int i4), .val (.int ca), .val (.int cb), .val (.int cc), .val (.int cd), .val (.int mm), .unset, .unset] [(.ref a191)])) _
    refine sdup Y306 hx (hb hby at_368) rfl rfl (pc' := 369) ?_
    refine sbipush Y306 hx (hb hby at_369) rfl rfl (z := 23) (pc' := 371) ?_
    refine siload Y306 hx (hb hby at_371) rfl rfl (pc' := 373) ?_
    obtain ⟨T309, h309, X309, e309, W309, V309, st309⟩ := Vq306.stC Y306 hx hZ e304 (j := (23 : Int32)) (by decide) (g := (mkF m 373 #[.val (.int i0), .val (.int i1), .val (.int i2), .val (.int i3), .val (.int i4), .val (.int ca), .val (.int cb), .val (.int cc), .val (.int cd), .val (.int mm), .unset, .unset] [(.int cb), (.int (23 : Int32)), (.ref a191), (.ref a191)])) rfl rfl (hb hby at_373)
    refine oOn st309 ?_
    have z310 : h304.size ≤ h309.size := Nat.le_of_eq W309.size.symm
    have N309 := Fr.snoc X309 M306 (by omega)
    have Vq311 : oAI Z h309 a191 .char 64 (oPre (FL ca cb cc cd) 24) := V309.congr (fun j _ => oPre_up (F := (FL ca cb cc cd)) (k := 23) hn_cb j)
    have f312 := (f307.wr W309 (by omega))
    have f313 := (f308.wrA W309 Vq306 wiS (by decide))
    have zz311 : n0 ≤ h309.size := by omega
    have lq311 : @LT.lt Nat _ a191 h309.size := Vq311.lt
    obtain ⟨Lc311, Y311, M311⟩ : ∃ L, Stand p l e room_1 (s.setVm s.vm) m #[(.int i0), (.int i1), (.int i2), (.int i3), (.int i4)] below meth c T309 L 1 64 ∧ Fr n0 L := ⟨_, X309, N309⟩
    clear st309 V309 X309 N309 z310 W309 Y306 M306 Vq306 f307 f308 zz306 lq306 e304
    show oGl p e below (T309.setTop (mkF m 374 #[.val (.int i0), .val (.int i1), .val (.int i2), .val (.int i3), .val (.int i4), .val (.int ca), .val (.int cb), .val (.int cc), .val (.int cd), .val (.int mm), .unset, .unset] [(.ref a191)])) _
    refine sdup Y311 hx (hb hby at_374) rfl rfl (pc' := 375) ?_
    refine sbipush Y311 hx (hb hby at_375) rfl rfl (z := 24) (pc' := 377) ?_
    refine siload Y311 hx (hb hby at_377) rfl rfl (pc' := 379) ?_
    obtain ⟨T314, h314, X314, e314, W314, V314, st314⟩ := Vq311.stC Y311 hx hZ e309 (j := (24 : Int32)) (by decide) (g := (mkF m 379 #[.val (.int i0), .val (.int i1), .val (.int i2), .val (.int i3), .val (.int i4), .val (.int ca), .val (.int cb), .val (.int cc), .val (.int cd), .val (.int mm), .unset, .unset] [(.int ca), (.int (24 : Int32)), (.ref a191), (.ref a191)])) rfl rfl (hb hby at_379)
    refine oOn st314 ?_
    have z315 : h309.size ≤ h314.size := Nat.le_of_eq W314.size.symm
    have N314 := Fr.snoc X314 M311 (by omega)
    have Vq316 : oAI Z h314 a191 .char 64 (oPre (FL ca cb cc cd) 25) := V314.congr (fun j _ => oPre_up (F := (FL ca cb cc cd)) (k := 24) hn_ca j)
    have f317 := (f312.wr W314 (by omega))
    have f318 := (f313.wrA W314 Vq311 wiS (by decide))
    have zz316 : n0 ≤ h314.size := by omega
    have lq316 : @LT.lt Nat _ a191 h314.size := Vq316.lt
    obtain ⟨Lc316, Y316, M316⟩ : ∃ L, Stand p l e room_1 (s.setVm s.vm) m #[(.int i0), (.int i1), (.int i2), (.int i3), (.int i4)] below meth c T314 L 1 64 ∧ Fr n0 L := ⟨_, X314, N314⟩
    clear st314 V314 X314 N314 z315 W314 Y311 M311 Vq311 f312 f313 zz311 lq311 e309
    show oGl p e below (T314.setTop (mkF m 380 #[.val (.int i0), .val (.int i1), .val (.int i2), .val (.int i3), .val (.int i4), .val (.int ca), .val (.int cb), .val (.int cc), .val (.int cd), .val (.int mm), .unset, .unset] [(.ref a191)])) _
    refine sdup Y316 hx (hb hby at_380) rfl rfl (pc' := 381) ?_
    refine sbipush Y316 hx (hb hby at_381) rfl rfl (z := 25) (pc' := 383) ?_
    refine siload Y316 hx (hb hby at_383) rfl rfl (pc' := 385) ?_
    obtain ⟨T319, h319, X319, e319, W319, V319, st319⟩ := Vq316.stC Y316 hx hZ e314 (j := (25 : Int32)) (by decide) (g := (mkF m 385 #[.val (.int i0), .val (.int i1), .val (.int i2), .val (.int i3), .val (.int i4), .val (.int ca), .val (.int cb), .val (.int cc), .val (.int cd), .val (.int mm), .unset, .unset] [(.int cb), (.int (25 : Int32)), (.ref a191), (.ref a191)])) rfl rfl (hb hby at_385)
    refine oOn st319 ?_
    have z320 : h314.size ≤ h319.size := Nat.le_of_eq W319.size.symm
    have N319 := Fr.snoc X319 M316 (by omega)
    have Vq321 : oAI Z h319 a191 .char 64 (oPre (FL ca cb cc cd) 26) := V319.congr (fun j _ => oPre_up (F := (FL ca cb cc cd)) (k := 25) hn_cb j)
    have f322 := (f317.wr W319 (by omega))
    have f323 := (f318.wrA W319 Vq316 wiS (by decide))
    have zz321 : n0 ≤ h319.size := by omega
    have lq321 : @LT.lt Nat _ a191 h319.size := Vq321.lt
    obtain ⟨Lc321, Y321, M321⟩ : ∃ L, Stand p l e room_1 (s.setVm s.vm) m #[(.int i0), (.int i1), (.int i2), (.int i3), (.int i4)] below meth c T319 L 1 64 ∧ Fr n0 L := ⟨_, X319, N319⟩
    clear st319 V319 X319 N319 z320 W319 Y316 M316 Vq316 f317 f318 zz316 lq316 e314
    show oGl p e below (T319.setTop (mkF m 386 #[.val (.int i0), .val (.int i1), .val (.int i2), .val (.int i3), .val (.int i4), .val (.int ca), .val (.int cb), .val (.int cc), .val (.int cd), .val (.int mm), .unset, .unset] [(.ref a191)])) _
    refine sdup Y321 hx (hb hby at_386) rfl rfl (pc' := 387) ?_
    refine sbipush Y321 hx (hb hby at_387) rfl rfl (z := 26) (pc' := 389) ?_
    refine siload Y321 hx (hb hby at_389) rfl rfl (pc' := 391) ?_
    obtain ⟨T324, h324, X324, e324, W324, V324, st324⟩ := Vq321.stC Y321 hx hZ e319 (j := (26 : Int32)) (by decide) (g := (mkF m 391 #[.val (.int i0), .val (.int i1), .val (.int i2), .val (.int i3), .val (.int i4), .val (.int ca), .val (.int cb), .val (.int cc), .val (.int cd), .val (.int mm), .unset, .unset] [(.int ca), (.int (26 : Int32)), (.ref a191), (.ref a191)])) rfl rfl (hb hby at_391)
    refine oOn st324 ?_
    have z325 : h319.size ≤ h324.size := Nat.le_of_eq W324.size.symm
    have N324 := Fr.snoc X324 M321 (by omega)
    have Vq326 : oAI Z h324 a191 .char 64 (oPre (FL ca cb cc cd) 27) := V324.congr (fun j _ => oPre_up (F := (FL ca cb cc cd)) (k := 26) hn_ca j)
    have f327 := (f322.wr W324 (by omega))
    have f328 := (f323.wrA W324 Vq321 wiS (by decide))
    have zz326 : n0 ≤ h324.size := by omega
    have lq326 : @LT.lt Nat _ a191 h324.size := Vq326.lt
    obtain ⟨Lc326, Y326, M326⟩ : ∃ L, Stand p l e room_1 (s.setVm s.vm) m #[(.int i0), (.int i1), (.int i2), (.int i3), (.int i4)] below meth c T324 L 1 64 ∧ Fr n0 L := ⟨_, X324, N324⟩
    clear st324 V324 X324 N324 z325 W324 Y321 M321 Vq321 f322 f323 zz321 lq321 e319
    show oGl p e below (T324.setTop (mkF m 392 #[.val (.int i0), .val (.int i1), .val (.int i2), .val (.int i3), .val (.int i4), .val (.int ca), .val (.int cb), .val (.int cc), .val (.int cd), .val (.int mm), .unset, .unset] [(.ref a191)])) _
    refine sdup Y326 hx (hb hby at_392) rfl rfl (pc' := 393) ?_
    refine sbipush Y326 hx (hb hby at_393) rfl rfl (z := 27) (pc' := 395) ?_
    refine siload Y326 hx (hb hby at_395) rfl rfl (pc' := 397) ?_
    obtain ⟨T329, h329, X329, e329, W329, V329, st329⟩ := Vq326.stC Y326 hx hZ e324 (j := (27 : Int32)) (by decide) (g := (mkF m 397 #[.val (.int i0), .val (.int i1), .val (.int i2), .val (.int i3), .val (.int i4), .val (.int ca), .val (.int cb), .val (.int cc), .val (.int cd), .val (.int mm), .unset, .unset] [(.int cb), (.int (27 : Int32)), (.ref a191), (.ref a191)])) rfl rfl (hb hby at_397)
    refine oOn st329 ?_
    have z330 : h324.size ≤ h329.size := Nat.le_of_eq W329.size.symm
    have N329 := Fr.snoc X329 M326 (by omega)
    have Vq331 : oAI Z h329 a191 .char 64 (oPre (FL ca cb cc cd) 28) := V329.congr (fun j _ => oPre_up (F := (FL ca cb cc cd)) (k := 27) hn_cb j)
    have f332 := (f327.wr W329 (by omega))
    have f333 := (f328.wrA W329 Vq326 wiS (by decide))
    have zz331 : n0 ≤ h329.size := by omega
    have lq331 : @LT.lt Nat _ a191 h329.size := Vq331.lt
    obtain ⟨Lc331, Y331, M331⟩ : ∃ L, Stand p l e room_1 (s.setVm s.vm) m #[(.int i0), (.int i1), (.int i2), (.int i3), (.int i4)] below meth c T329 L 1 64 ∧ Fr n0 L := ⟨_, X329, N329⟩
    clear st329 V329 X329 N329 z330 W329 Y326 M326 Vq326 f327 f328 zz326 lq326 e324
    show oGl p e below (T329.setTop (mkF m 398 #[.val (.int i0), .val (.int i1), .val (.int i2), .val (.int i3), .val (.int i4), .val (.int ca), .val (.int cb), .val (.int cc), .val (.int cd), .val (.int mm), .unset, .unset] [(.ref a191)])) _
    refine sdup Y331 hx (hb hby at_398) rfl rfl (pc' := 399) ?_
    refine sbipush Y331 hx (hb hby at_399) rfl rfl (z := 28) (pc' := 401) ?_
    refine siload Y331 hx (hb hby at_401) rfl rfl (pc' := 403) ?_
    obtain ⟨T334, h334, X334, e334, W334, V334, st334⟩ := Vq331.stC Y331 hx hZ e329 (j := (28 : Int32)) (by decide) (g := (mkF m 403 #[.val (.int i0), .val (.int i1), .val (.int i2), .val (.int i3), .val (.int i4), .val (.int ca), .val (.int cb), .val (.int cc), .val (.int cd), .val (.int mm), .unset, .unset] [(.int ca), (.int (28 : Int32)), (.ref a191), (.ref a191)])) rfl rfl (hb hby at_403)
    refine oOn st334 ?_
    have z335 : h329.size ≤ h334.size := Nat.le_of_eq W334.size.symm
    have N334 := Fr.snoc X334 M331 (by omega)
    have Vq336 : oAI Z h334 a191 .char 64 (oPre (FL ca cb cc cd) 29) := V334.congr (fun j _ => oPre_up (F := (FL ca cb cc cd)) (k := 28) hn_ca j)
    have f337 := (f332.wr W334 (by omega))
    have f338 := (f333.wrA W334 Vq331 wiS (by decide))
    have zz336 : n0 ≤ h334.size := by omega
    have lq336 : @LT.lt Nat _ a191 h334.size := Vq336.lt
    obtain ⟨Lc336, Y336, M336⟩ : ∃ L, Stand p l e room_1 (s.setVm s.vm) m #[(.int i0), (.int i1), (.int i2), (.int i3), (.int i4)] below meth c T334 L 1 64 ∧ Fr n0 L := ⟨_, X334, N334⟩
    clear st334 V334 X334 N334 z335 W334 Y331 M331 Vq331 f332 f333 zz331 lq331 e329
    show oGl p e below (T334.setTop (mkF m 404 #[.val (.int i0), .val (.int i1), .val (.int i2), .val (.int i3), .val (.int i4), .val (.int ca), .val (.int cb), .val (.int cc), .val (.int cd), .val (.int mm), .unset, .unset] [(.ref a191)])) _
    refine sdup Y336 hx (hb hby at_404) rfl rfl (pc' := 405) ?_
    refine sbipush Y336 hx (hb hby at_405) rfl rfl (z := 29) (pc' := 407) ?_
    refine siload Y336 hx (hb hby at_407) rfl rfl (pc' := 409) ?_
    obtain ⟨T339, h339, X339, e339, W339, V339, st339⟩ := Vq336.stC Y336 hx hZ e334 (j := (29 : Int32)) (by decide) (g := (mkF m 409 #[.val (.int i0), .val (.int i1), .val (.int i2), .val (.int i3), .val (.int i4), .val (.int ca), .val (.int cb), .val (.int cc), .val (.int cd), .val (.int mm), .unset, .unset] [(.int cb), (.int (29 : Int32)), (.ref a191), (.ref a191)])) rfl rfl (hb hby at_409)
    refine oOn st339 ?_
    have z340 : h334.size ≤ h339.size := Nat.le_of_eq W339.size.symm
    have N339 := Fr.snoc X339 M336 (by omega)
    have Vq341 : oAI Z h339 a191 .char 64 (oPre (FL ca cb cc cd) 30) := V339.congr (fun j _ => oPre_up (F := (FL ca cb cc cd)) (k := 29) hn_cb j)
    have f342 := (f337.wr W339 (by omega))
    have f343 := (f338.wrA W339 Vq336 wiS (by decide))
    have zz341 : n0 ≤ h339.size := by omega
    have lq341 : @LT.lt Nat _ a191 h339.size := Vq341.lt
    obtain ⟨Lc341, Y341, M341⟩ : ∃ L, Stand p l e room_1 (s.setVm s.vm) m #[(.int i0), (.int i1), (.int i2), (.int i3), (.int i4)] below meth c T339 L 1 64 ∧ Fr n0 L := ⟨_, X339, N339⟩
    clear st339 V339 X339 N339 z340 W339 Y336 M336 Vq336 f337 f338 zz336 lq336 e334
    show oGl p e below (T339.setTop (mkF m 410 #[.val (.int i0), .val (.int i1), .val (.int i2), .val (.int i3), .val (.int i4), .val (.int ca), .val (.int cb), .val (.int cc), .val (.int cd), .val (.int mm), .unset, .unset] [(.ref a191)])) _
    refine sdup Y341 hx (hb hby at_410) rfl rfl (pc' := 411) ?_
    refine sbipush Y341 hx (hb hby at_411) rfl rfl (z := 30) (pc' := 413) ?_
    refine siload Y341 hx (hb hby at_413) rfl rfl (pc' := 415) ?_
    obtain ⟨T344, h344, X344, e344, W344, V344, st344⟩ := Vq341.stC Y341 hx hZ e339 (j := (30 : Int32)) (by decide) (g := (mkF m 415 #[.val (.int i0), .val (.int i1), .val (.int i2), .val (.int i3), .val (.int i4), .val (.int ca), .val (.int cb), .val (.int cc), .val (.int cd), .val (.int mm), .unset, .unset] [(.int ca), (.int (30 : Int32)), (.ref a191), (.ref a191)])) rfl rfl (hb hby at_415)
    refine oOn st344 ?_
    have z345 : h339.size ≤ h344.size := Nat.le_of_eq W344.size.symm
    have N344 := Fr.snoc X344 M341 (by omega)
    have Vq346 : oAI Z h344 a191 .char 64 (oPre (FL ca cb cc cd) 31) := V344.congr (fun j _ => oPre_up (F := (FL ca cb cc cd)) (k := 30) hn_ca j)
    have f347 := (f342.wr W344 (by omega))
    have f348 := (f343.wrA W344 Vq341 wiS (by decide))
    have zz346 : n0 ≤ h344.size := by omega
    have lq346 : @LT.lt Nat _ a191 h344.size := Vq346.lt
    obtain ⟨Lc346, Y346, M346⟩ : ∃ L, Stand p l e room_1 (s.setVm s.vm) m #[(.int i0), (.int i1), (.int i2), (.int i3), (.int i4)] below meth c T344 L 1 64 ∧ Fr n0 L := ⟨_, X344, N344⟩
    clear st344 V344 X344 N344 z345 W344 Y341 M341 Vq341 f342 f343 zz341 lq341 e339
    show oGl p e below (T344.setTop (mkF m 416 #[.val (.int i0), .val (.int i1), .val (.int i2), .val (.int i3), .val (.int i4), .val (.int ca), .val (.int cb), .val (.int cc), .val (.int cd), .val (.int mm), .unset, .unset] [(.ref a191)])) _
    refine sdup Y346 hx (hb hby at_416) rfl rfl (pc' := 417) ?_
    refine sbipush Y346 hx (hb hby at_417) rfl rfl (z := 31) (pc' := 419) ?_
    refine siload Y346 hx (hb hby at_419) rfl rfl (pc' := 421) ?_
    obtain ⟨T349, h349, X349, e349, W349, V349, st349⟩ := Vq346.stC Y346 hx hZ e344 (j := (31 : Int32)) (by decide) (g := (mkF m 421 #[.val (.int i0), .val (.int i1), .val (.int i2), .val (.int i3), .val (.int i4), .val (.int ca), .val (.int cb), .val (.int cc), .val (.int cd), .val (.int mm), .unset, .unset] [(.int cb), (.int (31 : Int32)), (.ref a191), (.ref a191)])) rfl rfl (hb hby at_421)
    refine oOn st349 ?_
    have z350 : h344.size ≤ h349.size := Nat.le_of_eq W349.size.symm
    have N349 := Fr.snoc X349 M346 (by omega)
    have Vq351 : oAI Z h349 a191 .char 64 (oPre (FL ca cb cc cd) 32) := V349.congr (fun j _ => oPre_up (F := (FL ca cb cc cd)) (k := 31) hn_cb j)
    have f352 := (f347.wr W349 (by omega))
    have f353 := (f348.wrA W349 Vq346 wiS (by decide))
    have zz351 : n0 ≤ h349.size := by omega
    have lq351 : @LT.lt Nat _ a191 h349.size := Vq351.lt
    obtain ⟨Lc351, Y351, M351⟩ : ∃ L, Stand p l e room_1 (s.setVm s.vm) m #[(.int i0), (.int i1), (.int i2), (.int i3), (.int i4)] below meth c T349 L 1 64 ∧ Fr n0 L := ⟨_, X349, N349⟩
    clear st349 V349 X349 N349 z350 W349 Y346 M346 Vq346 f347 f348 zz346 lq346 e344
    show oGl p e below (T349.setTop (mkF m 422 #[.val (.int i0), .val (.int i1), .val (.int i2), .val (.int i3), .val (.int i4), .val (.int ca), .val (.int cb), .val (.int cc), .val (.int cd), .val (.int mm), .unset, .unset] [(.ref a191)])) _
    refine sdup Y351 hx (hb hby at_422) rfl rfl (pc' := 423) ?_
    refine sbipush Y351 hx (hb hby at_423) rfl rfl (z := 32) (pc' := 425) ?_
    refine siload Y351 hx (hb hby at_425) rfl rfl (pc' := 427) ?_
    obtain ⟨T354, h354, X354, e354, W354, V354, st354⟩ := Vq351.stC Y351 hx hZ e349 (j := (32 : Int32)) (by decide) (g := (mkF m 427 #[.val (.int i0), .val (.int i1), .val (.int i2), .val (.int i3), .val (.int i4), .val (.int ca), .val (.int cb), .val (.int cc), .val (.int cd), .val (.int mm), .unset, .unset] [(.int ca), (.int (32 : Int32)), (.ref a191), (.ref a191)])) rfl rfl (hb hby at_427)
    refine oOn st354 ?_
    have z355 : h349.size ≤ h354.size := Nat.le_of_eq W354.size.symm
    have N354 := Fr.snoc X354 M351 (by omega)
    have Vq356 : oAI Z h354 a191 .char 64 (oPre (FL ca cb cc cd) 33) := V354.congr (fun j _ => oPre_up (F := (FL ca cb cc cd)) (k := 32) hn_ca j)
    have f357 := (f352.wr W354 (by omega))
    have f358 := (f353.wrA W354 Vq351 wiS (by decide))
    have zz356 : n0 ≤ h354.size := by omega
    have lq356 : @LT.lt Nat _ a191 h354.size := Vq356.lt
    obtain ⟨Lc356, Y356, M356⟩ : ∃ L, Stand p l e room_1 (s.setVm s.vm) m #[(.int i0), (.int i1), (.int i2), (.int i3), (.int i4)] below meth c T354 L 1 64 ∧ Fr n0 L := ⟨_, X354, N354⟩
    clear st354 V354 X354 N354 z355 W354 Y351 M351 Vq351 f352 f353 zz351 lq351 e349
    show oGl p e below (T354.setTop (mkF m 428 #[.val (.int i0), .val (.int i1), .val (.int i2), .val (.int i3), .val (.int i4), .val (.int ca), .val (.int cb), .val (.int cc), .val (.int cd), .val (.int mm), .unset, .unset] [(.ref a191)])) _
    refine sdup Y356 hx (hb hby at_428) rfl rfl (pc' := 429) ?_
    refine sbipush Y356 hx (hb hby at_429) rfl rfl (z := 33) (pc' := 431) ?_
    refine siload Y356 hx (hb hby at_431) rfl rfl (pc' := 433) ?_
    obtain ⟨T359, h359, X359, e359, W359, V359, st359⟩ := Vq356.stC Y356 hx hZ e354 (j := (33 : Int32)) (by decide) (g := (mkF m 433 #[.val (.int i0), .val (.int i1), .val (.int i2), .val (.int i3), .val (.int i4), .val (.int ca), .val (.int cb), .val (.int cc), .val (.int cd), .val (.int mm), .unset, .unset] [(.int cb), (.int (33 : Int32)), (.ref a191), (.ref a191)])) rfl rfl (hb hby at_433)
    refine oOn st359 ?_
    have z360 : h354.size ≤ h359.size := Nat.le_of_eq W359.size.symm
    have N359 := Fr.snoc X359 M356 (by omega)
    have Vq361 : oAI Z h359 a191 .char 64 (oPre (FL ca cb cc cd) 34) := V359.congr (fun j _ => oPre_up (F := (FL ca cb cc cd)) (k := 33) hn_cb j)
    have f362 := (f357.wr W359 (by omega))
    have f363 := (f358.wrA W359 Vq356 wiS (by decide))
    have zz361 : n0 ≤ h359.size := by omega
    have lq361 : @LT.lt Nat _ a191 h359.size := Vq361.lt
    obtain ⟨Lc361, Y361, M361⟩ : ∃ L, Stand p l e room_1 (s.setVm s.vm) m #[(.int i0), (.int i1), (.int i2), (.int i3), (.int i4)] below meth c T359 L 1 64 ∧ Fr n0 L := ⟨_, X359, N359⟩
    clear st359 V359 X359 N359 z360 W359 Y356 M356 Vq356 f357 f358 zz356 lq356 e354
    show oGl p e below (T359.setTop (mkF m 434 #[.val (.int i0), .val (.int i1), .val (.int i2), .val (.int i3), .val (.int i4), .val (.int ca), .val (.int cb), .val (.int cc), .val (.int cd), .val (.int mm), .unset, .unset] [(.ref a191)])) _
    refine sdup Y361 hx (hb hby at_434) rfl rfl (pc' := 435) ?_
    refine sbipush Y361 hx (hb hby at_435) rfl rfl (z := 34) (pc' := 437) ?_
    refine siload Y361 hx (hb hby at_437) rfl rfl (pc' := 439) ?_
    obtain ⟨T364, h364, X364, e364, W364, V364, st364⟩ := Vq361.stC Y361 hx hZ e359 (j := (34 : Int32)) (by decide) (g := (mkF m 439 #[.val (.int i0), .val (.int i1), .val (.int i2), .val (.int i3), .val (.int i4), .val (.int ca), .val (.int cb), .val (.int cc), .val (.int cd), .val (.int mm), .unset, .unset] [(.int ca), (.int (34 : Int32)), (.ref a191), (.ref a191)])) rfl rfl (hb hby at_439)
    refine oOn st364 ?_
    have z365 : h359.size ≤ h364.size := Nat.le_of_eq W364.size.symm
    have N364 := Fr.snoc X364 M361 (by omega)
    have Vq366 : oAI Z h364 a191 .char 64 (oPre (FL ca cb cc cd) 35) := V364.congr (fun j _ => oPre_up (F := (FL ca cb cc cd)) (k := 34) hn_ca j)
    have f367 := (f362.wr W364 (by omega))
    have f368 := (f363.wrA W364 Vq361 wiS (by decide))
    have zz366 : n0 ≤ h364.size := by omega
    have lq366 : @LT.lt Nat _ a191 h364.size := Vq366.lt
    obtain ⟨Lc366, Y366, M366⟩ : ∃ L, Stand p l e room_1 (s.setVm s.vm) m #[(.int i0), (.int i1), (.int i2), (.int i3), (.int i4)] below meth c T364 L 1 64 ∧ Fr n0 L := ⟨_, X364, N364⟩
    clear st364 V364 X364 N364 z365 W364 Y361 M361 Vq361 f362 f363 zz361 lq361 e359
    show oGl p e below (T364.setTop (mkF m 440 #[.val (.int i0), .val (.int i1), .val (.int i2), .val (.int i3), .val (.int i4), .val (.int ca), .val (.int cb), .val (.int cc), .val (.int cd), .val (.int mm), .unset, .unset] [(.ref a191)])) _
    refine sdup Y366 hx (hb hby at_440) rfl rfl (pc' := 441) ?_
    refine sbipush Y366 hx (hb hby at_441) rfl rfl (z := 35) (pc' := 443) ?_
    refine siload Y366 hx (hb hby at_443) rfl rfl (pc' := 445) ?_
    obtain ⟨T369, h369, X369, e369, W369, V369, st369⟩ := Vq366.stC Y366 hx hZ e364 (j := (35 : Int32)) (by decide) (g := (mkF m 445 #[.val (.int i0), .val (.int i1), .val (.int i2), .val (.int i3), .val (.int i4), .val (.int ca), .val (.int cb), .val (.int cc), .val (.int cd), .val (.int mm), .unset, .unset] [(.int cb), (.int (35 : Int32)), (.ref a191), (.ref a191)])) rfl rfl (hb hby at_445)
    refine oOn st369 ?_
    have z370 : h364.size ≤ h369.size := Nat.le_of_eq W369.size.symm
    have N369 := Fr.snoc X369 M366 (by omega)
    have Vq371 : oAI Z h369 a191 .char 64 (oPre (FL ca cb cc cd) 36) := V369.congr (fun j _ => oPre_up (F := (FL ca cb cc cd)) (k := 35) hn_cb j)
    have f372 := (f367.wr W369 (by omega))
    have f373 := (f368.wrA W369 Vq366 wiS (by decide))
    have zz371 : n0 ≤ h369.size := by omega
    have lq371 : @LT.lt Nat _ a191 h369.size := Vq371.lt
    obtain ⟨Lc371, Y371, M371⟩ : ∃ L, Stand p l e room_1 (s.setVm s.vm) m #[(.int i0), (.int i1), (.int i2), (.int i3), (.int i4)] below meth c T369 L 1 64 ∧ Fr n0 L := ⟨_, X369, N369⟩
    clear st369 V369 X369 N369 z370 W369 Y366 M366 Vq366 f367 f368 zz366 lq366 e364
    show oGl p e below (T369.setTop (mkF m 446 #[.val (.int i0), .val (.int i1), .val (.int i2), .val (.int i3), .val (.int i4), .val (.int ca), .val (.int cb), .val (.int cc), .val (.int cd), .val (.int mm), .unset, .unset] [(.ref a191)])) _
    refine sdup Y371 hx (hb hby at_446) rfl rfl (pc' := 447) ?_
    refine sbipush Y371 hx (hb hby at_447) rfl rfl (z := 36) (pc' := 449) ?_
    refine siload Y371 hx (hb hby at_449) rfl rfl (pc' := 451) ?_
    obtain ⟨T374, h374, X374, e374, W374, V374, st374⟩ := Vq371.stC Y371 hx hZ e369 (j := (36 : Int32)) (by decide) (g := (mkF m 451 #[.val (.int i0), .val (.int i1), .val (.int i2), .val (.int i3), .val (.int i4), .val (.int ca), .val (.int cb), .val (.int cc), .val (.int cd), .val (.int mm), .unset, .unset] [(.int ca), (.int (36 : Int32)), (.ref a191), (.ref a191)])) rfl rfl (hb hby at_451)
    refine oOn st374 ?_
    have z375 : h369.size ≤ h374.size := Nat.le_of_eq W374.size.symm
    have N374 := Fr.snoc X374 M371 (by omega)
    have Vq376 : oAI Z h374 a191 .char 64 (oPre (FL ca cb cc cd) 37) := V374.congr (fun j _ => oPre_up (F := (FL ca cb cc cd)) (k := 36) hn_ca j)
    have f377 := (f372.wr W374 (by omega))
    have f378 := (f373.wrA W374 Vq371 wiS (by decide))
    have zz376 : n0 ≤ h374.size := by omega
    have lq376 : @LT.lt Nat _ a191 h374.size := Vq376.lt
    obtain ⟨Lc376, Y376, M376⟩ : ∃ L, Stand p l e room_1 (s.setVm s.vm) m #[(.int i0), (.int i1), (.int i2), (.int i3), (.int i4)] below meth c T374 L 1 64 ∧ Fr n0 L := ⟨_, X374, N374⟩
    clear st374 V374 X374 N374 z375 W374 Y371 M371 Vq371 f372 f373 zz371 lq371 e369
    show oGl p e below (T374.setTop (mkF m 452 #[.val (.int i0), .val (.int i1), .val (.int i2), .val (.int i3), .val (.int i4), .val (.int ca), .val (.int cb), .val (.int cc), .val (.int cd), .val (.int mm), .unset, .unset] [(.ref a191)])) _
    refine sdup Y376 hx (hb hby at_452) rfl rfl (pc' := 453) ?_
    refine sbipush Y376 hx (hb hby at_453) rfl rfl (z := 37) (pc' := 455) ?_
    refine siload Y376 hx (hb hby at_455) rfl rfl (pc' := 457) ?_
    obtain ⟨T379, h379, X379, e379, W379, V379, st379⟩ := Vq376.stC Y376 hx hZ e374 (j := (37 : Int32)) (by decide) (g := (mkF m 457 #[.val (.int i0), .val (.int i1), .val (.int i2), .val (.int i3), .val (.int i4), .val (.int ca), .val (.int cb), .val (.int cc), .val (.int cd), .val (.int mm), .unset, .unset] [(.int cb), (.int (37 : Int32)), (.ref a191), (.ref a191)])) rfl rfl (hb hby at_457)
    refine oOn st379 ?_
    have z380 : h374.size ≤ h379.size := Nat.le_of_eq W379.size.symm
    have N379 := Fr.snoc X379 M376 (by omega)
    have Vq381 : oAI Z h379 a191 .char 64 (oPre (FL ca cb cc cd) 38) := V379.congr (fun j _ => oPre_up (F := (FL ca cb cc cd)) (k := 37) hn_cb j)
    have f382 := (f377.wr W379 (by omega))
    have f383 := (f378.wrA W379 Vq376 wiS (by decide))
    have zz381 : n0 ≤ h379.size := by omega
    have lq381 : @LT.lt Nat _ a191 h379.size := Vq381.lt
    obtain ⟨Lc381, Y381, M381⟩ : ∃ L, Stand p l e room_1 (s.setVm s.vm) m #[(.int i0), (.int i1), (.int i2), (.int i3), (.int i4)] below meth c T379 L 1 64 ∧ Fr n0 L := ⟨_, X379, N379⟩
    clear st379 V379 X379 N379 z380 W379 Y376 M376 Vq376 f377 f378 zz376 lq376 e374
    show oGl p e below (T379.setTop (mkF m 458 #[.val (.int i0), .val (.int i1), .val (.int i2), .val (.int i3), .val (.int i4), .val (.int ca), .val (.int cb), .val (.int cc), .val (.int cd), .val (.int mm), .unset, .unset] [(.ref a191)])) _
    refine sdup Y381 hx (hb hby at_458) rfl rfl (pc' := 459) ?_
    refine sbipush Y381 hx (hb hby at_459) rfl rfl (z := 38) (pc' := 461) ?_
    refine siload Y381 hx (hb hby at_461) rfl rfl (pc' := 463) ?_
    obtain ⟨T384, h384, X384, e384, W384, V384, st384⟩ := Vq381.stC Y381 hx hZ e379 (j := (38 : Int32)) (by decide) (g := (mkF m 463 #[.val (.int i0), .val (.int i1), .val (.int i2), .val (.int i3), .val (.int i4), .val (.int ca), .val (.int cb), .val (.int cc), .val (.int cd), .val (.int mm), .unset, .unset] [(.int ca), (.int (38 : Int32)), (.ref a191), (.ref a191)])) rfl rfl (hb hby at_463)
    refine oOn st384 ?_
    have z385 : h379.size ≤ h384.size := Nat.le_of_eq W384.size.symm
    have N384 := Fr.snoc X384 M381 (by omega)
    have Vq386 : oAI Z h384 a191 .char 64 (oPre (FL ca cb cc cd) 39) := V384.congr (fun j _ => oPre_up (F := (FL ca cb cc cd)) (k := 38) hn_ca j)
    have f387 := (f382.wr W384 (by omega))
    have f388 := (f383.wrA W384 Vq381 wiS (by decide))
    have zz386 : n0 ≤ h384.size := by omega
    have lq386 : @LT.lt Nat _ a191 h384.size := Vq386.lt
    obtain ⟨Lc386, Y386, M386⟩ : ∃ L, Stand p l e room_1 (s.setVm s.vm) m #[(.int i0), (.int i1), (.int i2), (.int i3), (.int i4)] below meth c T384 L 1 64 ∧ Fr n0 L := ⟨_, X384, N384⟩
    clear st384 V384 X384 N384 z385 W384 Y381 M381 Vq381 f382 f383 zz381 lq381 e379
    show oGl p e below (T384.setTop (mkF m 464 #[.val (.int i0), .val (.int i1), .val (.int i2), .val (.int i3), .val (.int i4), .val (.int ca), .val (.int cb), .val (.int cc), .val (.int cd), .val (.int mm), .unset, .unset] [(.ref a191)])) _
    refine sdup Y386 hx (hb hby at_464) rfl rfl (pc' := 465) ?_
    refine sbipush Y386 hx (hb hby at_465) rfl rfl (z := 39) (pc' := 467) ?_
    refine siload Y386 hx (hb hby at_467) rfl rfl (pc' := 469) ?_
    obtain ⟨T389, h389, X389, e389, W389, V389, st389⟩ := Vq386.stC Y386 hx hZ e384 (j := (39 : Int32)) (by decide) (g := (mkF m 469 #[.val (.int i0), .val (.int i1), .val (.int i2), .val (.int i3), .val (.int i4), .val (.int ca), .val (.int cb), .val (.int cc), .val (.int cd), .val (.int mm), .unset, .unset] [(.int cb), (.int (39 : Int32)), (.ref a191), (.ref a191)])) rfl rfl (hb hby at_469)
    refine oOn st389 ?_
    have z390 : h384.size ≤ h389.size := Nat.le_of_eq W389.size.symm
    have N389 := Fr.snoc X389 M386 (by omega)
    have Vq391 : oAI Z h389 a191 .char 64 (oPre (FL ca cb cc cd) 40) := V389.congr (fun j _ => oPre_up (F := (FL ca cb cc cd)) (k := 39) hn_cb j)
    have f392 := (f387.wr W389 (by omega))
    have f393 := (f388.wrA W389 Vq386 wiS (by decide))
    have zz391 : n0 ≤ h389.size := by omega
    have lq391 : @LT.lt Nat _ a191 h389.size := Vq391.lt
    obtain ⟨Lc391, Y391, M391⟩ : ∃ L, Stand p l e room_1 (s.setVm s.vm) m #[(.int i0), (.int i1), (.int i2), (.int i3), (.int i4)] below meth c T389 L 1 64 ∧ Fr n0 L := ⟨_, X389, N389⟩
    clear st389 V389 X389 N389 z390 W389 Y386 M386 Vq386 f387 f388 zz386 lq386 e384
    show oGl p e below (T389.setTop (mkF m 470 #[.val (.int i0), .val (.int i1), .val (.int i2), .val (.int i3), .val (.int i4), .val (.int ca), .val (.int cb), .val (.int cc), .val (.int cd), .val (.int mm), .unset, .unset] [(.ref a191)])) _
    refine sdup Y391 hx (hb hby at_470) rfl rfl (pc' := 471) ?_
    refine sbipush Y391 hx (hb hby at_471) rfl rfl (z := 40) (pc' := 473) ?_
    refine siload Y391 hx (hb hby at_473) rfl rfl (pc' := 475) ?_
    obtain ⟨T394, h394, X394, e394, W394, V394, st394⟩ := Vq391.stC Y391 hx hZ e389 (j := (40 : Int32)) (by decide) (g := (mkF m 475 #[.val (.int i0), .val (.int i1), .val (.int i2), .val (.int i3), .val (.int i4), .val (.int ca), .val (.int cb), .val (.int cc), .val (.int cd), .val (.int mm), .unset, .unset] [(.int ca), (.int (40 : Int32)), (.ref a191), (.ref a191)])) rfl rfl (hb hby at_475)
    refine oOn st394 ?_
    have z395 : h389.size ≤ h394.size := Nat.le_of_eq W394.size.symm
    have N394 := Fr.snoc X394 M391 (by omega)
    have Vq396 : oAI Z h394 a191 .char 64 (oPre (FL ca cb cc cd) 41) := V394.congr (fun j _ => oPre_up (F := (FL ca cb cc cd)) (k := 40) hn_ca j)
    have f397 := (f392.wr W394 (by omega))
    have f398 := (f393.wrA W394 Vq391 wiS (by decide))
    have zz396 : n0 ≤ h394.size := by omega
    have lq396 : @LT.lt Nat _ a191 h394.size := Vq396.lt
    obtain ⟨Lc396, Y396, M396⟩ : ∃ L, Stand p l e room_1 (s.setVm s.vm) m #[(.int i0), (.int i1), (.int i2), (.int i3), (.int i4)] below meth c T394 L 1 64 ∧ Fr n0 L := ⟨_, X394, N394⟩
    clear st394 V394 X394 N394 z395 W394 Y391 M391 Vq391 f392 f393 zz391 lq391 e389
    show oGl p e below (T394.setTop (mkF m 476 #[.val (.int i0), .val (.int i1), .val (.int i2), .val (.int i3), .val (.int i4), .val (.int ca), .val (.int cb), .val (.int cc), .val (.int cd), .val (.int mm), .unset, .unset] [(.ref a191)])) _
    refine sdup Y396 hx (hb hby at_476) rfl rfl (pc' := 477) ?_
    refine sbipush Y396 hx (hb hby at_477) rfl rfl (z := 41) (pc' := 479) ?_
    refine siload Y396 hx (hb hby at_479) rfl rfl (pc' := 481) ?_
    obtain ⟨T399, h399, X399, e399, W399, V399, st399⟩ := Vq396.stC Y396 hx hZ e394 (j := (41 : Int32)) (by decide) (g := (mkF m 481 #[.val (.int i0), .val (.int i1), .val (.int i2), .val (.int i3), .val (.int i4), .val (.int ca), .val (.int cb), .val (.int cc), .val (.int cd), .val (.int mm), .unset, .unset] [(.int cb), (.int (41 : Int32)), (.ref a191), (.ref a191)])) rfl rfl (hb hby at_481)
    refine oOn st399 ?_
    have z400 : h394.size ≤ h399.size := Nat.le_of_eq W399.size.symm
    have N399 := Fr.snoc X399 M396 (by omega)
    have Vq401 : oAI Z h399 a191 .char 64 (oPre (FL ca cb cc cd) 42) := V399.congr (fun j _ => oPre_up (F := (FL ca cb cc cd)) (k := 41) hn_cb j)
    have f402 := (f397.wr W399 (by omega))
    have f403 := (f398.wrA W399 Vq396 wiS (by decide))
    have zz401 : n0 ≤ h399.size := by omega
    have lq401 : @LT.lt Nat _ a191 h399.size := Vq401.lt
    obtain ⟨Lc401, Y401, M401⟩ : ∃ L, Stand p l e room_1 (s.setVm s.vm) m #[(.int i0), (.int i1), (.int i2), (.int i3), (.int i4)] below meth c T399 L 1 64 ∧ Fr n0 L := ⟨_, X399, N399⟩
    clear st399 V399 X399 N399 z400 W399 Y396 M396 Vq396 f397 f398 zz396 lq396 e394
    show oGl p e below (T399.setTop (mkF m 482 #[.val (.int i0), .val (.int i1), .val (.int i2), .val (.int i3), .val (.int i4), .val (.int ca), .val (.int cb), .val (.int cc), .val (.int cd), .val (.int mm), .unset, .unset] [(.ref a191)])) _
    refine sdup Y401 hx (hb hby at_482) rfl rfl (pc' := 483) ?_
    refine sbipush Y401 hx (hb hby at_483) rfl rfl (z := 42) (pc' := 485) ?_
    refine siload Y401 hx (hb hby at_485) rfl rfl (pc' := 487) ?_
    obtain ⟨T404, h404, X404, e404, W404, V404, st404⟩ := Vq401.stC Y401 hx hZ e399 (j := (42 : Int32)) (by decide) (g := (mkF m 487 #[.val (.int i0), .val (.int i1), .val (.int i2), .val (.int i3), .val (.int i4), .val (.int ca), .val (.int cb), .val (.int cc), .val (.int cd), .val (.int mm), .unset, .unset] [(.int ca), (.int (42 : Int32)), (.ref a191), (.ref a191)])) rfl rfl (hb hby at_487)
    refine oOn st404 ?_
    have z405 : h399.size ≤ h404.size := Nat.le_of_eq W404.size.symm
    have N404 := Fr.snoc X404 M401 (by omega)
    have Vq406 : oAI Z h404 a191 .char 64 (oPre (FL ca cb cc cd) 43) := V404.congr (fun j _ => oPre_up (F := (FL ca cb cc cd)) (k := 42) hn_ca j)
    have f407 := (f402.wr W404 (by omega))
    have f408 := (f403.wrA W404 Vq401 wiS (by decide))
    have zz406 : n0 ≤ h404.size := by omega
    have lq406 : @LT.lt Nat _ a191 h404.size := Vq406.lt
    obtain ⟨Lc406, Y406, M406⟩ : ∃ L, Stand p l e room_1 (s.setVm s.vm) m #[(.int i0), (.int i1), (.int i2), (.int i3), (.int i4)] below meth c T404 L 1 64 ∧ Fr n0 L := ⟨_, X404, N404⟩
    clear st404 V404 X404 N404 z405 W404 Y401 M401 Vq401 f402 f403 zz401 lq401 e399
    show oGl p e below (T404.setTop (mkF m 488 #[.val (.int i0), .val (.int i1), .val (.int i2), .val (.int i3), .val (.int i4), .val (.int ca), .val (.int cb), .val (.int cc), .val (.int cd), .val (.int mm), .unset, .unset] [(.ref a191)])) _
    refine sdup Y406 hx (hb hby at_488) rfl rfl (pc' := 489) ?_
    refine sbipush Y406 hx (hb hby at_489) rfl rfl (z := 43) (pc' := 491) ?_
    refine siload Y406 hx (hb hby at_491) rfl rfl (pc' := 493) ?_
    obtain ⟨T409, h409, X409, e409, W409, V409, st409⟩ := Vq406.stC Y406 hx hZ e404 (j := (43 : Int32)) (by decide) (g := (mkF m 493 #[.val (.int i0), .val (.int i1), .val (.int i2), .val (.int i3), .val (.int i4), .val (.int ca), .val (.int cb), .val (.int cc), .val (.int cd), .val (.int mm), .unset, .unset] [(.int cb), (.int (43 : Int32)), (.ref a191), (.ref a191)])) rfl rfl (hb hby at_493)
    refine oOn st409 ?_
    have z410 : h404.size ≤ h409.size := Nat.le_of_eq W409.size.symm
    have N409 := Fr.snoc X409 M406 (by omega)
    have Vq411 : oAI Z h409 a191 .char 64 (oPre (FL ca cb cc cd) 44) := V409.congr (fun j _ => oPre_up (F := (FL ca cb cc cd)) (k := 43) hn_cb j)
    have f412 := (f407.wr W409 (by omega))
    have f413 := (f408.wrA W409 Vq406 wiS (by decide))
    have zz411 : n0 ≤ h409.size := by omega
    have lq411 : @LT.lt Nat _ a191 h409.size := Vq411.lt
    obtain ⟨Lc411, Y411, M411⟩ : ∃ L, Stand p l e room_1 (s.setVm s.vm) m #[(.int i0), (.int i1), (.int i2), (.int i3), (.int i4)] below meth c T409 L 1 64 ∧ Fr n0 L := ⟨_, X409, N409⟩
    clear st409 V409 X409 N409 z410 W409 Y406 M406 Vq406 f407 f408 zz406 lq406 e404
    show oGl p e below (T409.setTop (mkF m 494 #[.val (.int i0), .val (.int i1), .val (.int i2), .val (.int i3), .val (.int i4), .val (.int ca), .val (.int cb), .val (.int cc), .val (.int cd), .val (.int mm), .unset, .unset] [(.ref a191)])) _
    refine sdup Y411 hx (hb hby at_494) rfl rfl (pc' := 495) ?_
    refine sbipush Y411 hx (hb hby at_495) rfl rfl (z := 44) (pc' := 497) ?_
    refine siload Y411 hx (hb hby at_497) rfl rfl (pc' := 499) ?_
    obtain ⟨T414, h414, X414, e414, W414, V414, st414⟩ := Vq411.stC Y411 hx hZ e409 (j := (44 : Int32)) (by decide) (g := (mkF m 499 #[.val (.int i0), .val (.int i1), .val (.int i2), .val (.int i3), .val (.int i4), .val (.int ca), .val (.int cb), .val (.int cc), .val (.int cd), .val (.int mm), .unset, .unset] [(.int ca), (.int (44 : Int32)), (.ref a191), (.ref a191)])) rfl rfl (hb hby at_499)
    refine oOn st414 ?_
    have z415 : h409.size ≤ h414.size := Nat.le_of_eq W414.size.symm
    have N414 := Fr.snoc X414 M411 (by omega)
    have Vq416 : oAI Z h414 a191 .char 64 (oPre (FL ca cb cc cd) 45) := V414.congr (fun j _ => oPre_up (F := (FL ca cb cc cd)) (k := 44) hn_ca j)
    have f417 := (f412.wr W414 (by omega))
    have f418 := (f413.wrA W414 Vq411 wiS (by decide))
    have zz416 : n0 ≤ h414.size := by omega
    have lq416 : @LT.lt Nat _ a191 h414.size := Vq416.lt
    obtain ⟨Lc416, Y416, M416⟩ : ∃ L, Stand p l e room_1 (s.setVm s.vm) m #[(.int i0), (.int i1), (.int i2), (.int i3), (.int i4)] below meth c T414 L 1 64 ∧ Fr n0 L := ⟨_, X414, N414⟩
    clear st414 V414 X414 N414 z415 W414 Y411 M411 Vq411 f412 f413 zz411 lq411 e409
    show oGl p e below (T414.setTop (mkF m 500 #[.val (.int i0), .val (.int i1), .val (.int i2), .val (.int i3), .val (.int i4), .val (.int ca), .val (.int cb), .val (.int cc), .val (.int cd), .val (.int mm), .unset, .unset] [(.ref a191)])) _
    refine sdup Y416 hx (hb hby at_500) rfl rfl (pc' := 501) ?_
    refine sbipush Y416 hx (hb hby at_501) rfl rfl (z := 45) (pc' := 503) ?_
    refine siload Y416 hx (hb hby at_503) rfl rfl (pc' := 505) ?_
    obtain ⟨T419, h419, X419, e419, W419, V419, st419⟩ := Vq416.stC Y416 hx hZ e414 (j := (45 : Int32)) (by decide) (g := (mkF m 505 #[.val (.int i0), .val (.int i1), .val (.int i2), .val (.int i3), .val (.int i4), .val (.int ca), .val (.int cb), .val (.int cc), .val (.int cd), .val (.int mm), .unset, .unset] [(.int cb), (.int (45 : Int32)), (.ref a191), (.ref a191)])) rfl rfl (hb hby at_505)
    refine oOn st419 ?_
    have z420 : h414.size ≤ h419.size := Nat.le_of_eq W419.size.symm
    have N419 := Fr.snoc X419 M416 (by omega)
    have Vq421 : oAI Z h419 a191 .char 64 (oPre (FL ca cb cc cd) 46) := V419.congr (fun j _ => oPre_up (F := (FL ca cb cc cd)) (k := 45) hn_cb j)
    have f422 := (f417.wr W419 (by omega))
    have f423 := (f418.wrA W419 Vq416 wiS (by decide))
    have zz421 : n0 ≤ h419.size := by omega
    have lq421 : @LT.lt Nat _ a191 h419.size := Vq421.lt
    obtain ⟨Lc421, Y421, M421⟩ : ∃ L, Stand p l e room_1 (s.setVm s.vm) m #[(.int i0), (.int i1), (.int i2), (.int i3), (.int i4)] below meth c T419 L 1 64 ∧ Fr n0 L := ⟨_, X419, N419⟩
    clear st419 V419 X419 N419 z420 W419 Y416 M416 Vq416 f417 f418 zz416 lq416 e414
    show oGl p e below (T419.setTop (mkF m 506 #[.val (.int i0), .val (.int i1), .val (.int i2), .val (.int i3), .val (.int i4), .val (.int ca), .val (.int cb), .val (.int cc), .val (.int cd), .val (.int mm), .unset, .unset] [(.ref a191)])) _
    refine sdup Y421 hx (hb hby at_506) rfl rfl (pc' := 507) ?_
    refine sbipush Y421 hx (hb hby at_507) rfl rfl (z := 46) (pc' := 509) ?_
    refine siload Y421 hx (hb hby at_509) rfl rfl (pc' := 511) ?_
    obtain ⟨T424, h424, X424, e424, W424, V424, st424⟩ := Vq421.stC Y421 hx hZ e419 (j := (46 : Int32)) (by decide) (g := (mkF m 511 #[.val (.int i0), .val (.int i1), .val (.int i2), .val (.int i3), .val (.int i4), .val (.int ca), .val (.int cb), .val (.int cc), .val (.int cd), .val (.int mm), .unset, .unset] [(.int ca), (.int (46 : Int32)), (.ref a191), (.ref a191)])) rfl rfl (hb hby at_511)
    refine oOn st424 ?_
    have z425 : h419.size ≤ h424.size := Nat.le_of_eq W424.size.symm
    have N424 := Fr.snoc X424 M421 (by omega)
    have Vq426 : oAI Z h424 a191 .char 64 (oPre (FL ca cb cc cd) 47) := V424.congr (fun j _ => oPre_up (F := (FL ca cb cc cd)) (k := 46) hn_ca j)
    have f427 := (f422.wr W424 (by omega))
    have f428 := (f423.wrA W424 Vq421 wiS (by decide))
    have zz426 : n0 ≤ h424.size := by omega
    have lq426 : @LT.lt Nat _ a191 h424.size := Vq426.lt
    obtain ⟨Lc426, Y426, M426⟩ : ∃ L, Stand p l e room_1 (s.setVm s.vm) m #[(.int i0), (.int i1), (.int i2), (.int i3), (.int i4)] below meth c T424 L 1 64 ∧ Fr n0 L := ⟨_, X424, N424⟩
    clear st424 V424 X424 N424 z425 W424 Y421 M421 Vq421 f422 f423 zz421 lq421 e419
    show oGl p e below (T424.setTop (mkF m 512 #[.val (.int i0), .val (.int i1), .val (.int i2), .val (.int i3), .val (.int i4), .val (.int ca), .val (.int cb), .val (.int cc), .val (.int cd), .val (.int mm), .unset, .unset] [(.ref a191)])) _
    refine sdup Y426 hx (hb hby at_512) rfl rfl (pc' := 513) ?_
    refine sbipush Y426 hx (hb hby at_513) rfl rfl (z := 47) (pc' := 515) ?_
    refine siload Y426 hx (hb hby at_515) rfl rfl (pc' := 517) ?_
    obtain ⟨T429, h429, X429, e429, W429, V429, st429⟩ := Vq426.stC Y426 hx hZ e424 (j := (47 : Int32)) (by decide) (g := (mkF m 517 #[.val (.int i0), .val (.int i1), .val (.int i2), .val (.int i3), .val (.int i4), .val (.int ca), .val (.int cb), .val (.int cc), .val (.int cd), .val (.int mm), .unset, .unset] [(.int cb), (.int (47 : Int32)), (.ref a191), (.ref a191)])) rfl rfl (hb hby at_517)
    refine oOn st429 ?_
    have z430 : h424.size ≤ h429.size := Nat.le_of_eq W429.size.symm
    have N429 := Fr.snoc X429 M426 (by omega)
    have Vq431 : oAI Z h429 a191 .char 64 (oPre (FL ca cb cc cd) 48) := V429.congr (fun j _ => oPre_up (F := (FL ca cb cc cd)) (k := 47) hn_cb j)
    have f432 := (f427.wr W429 (by omega))
    have f433 := (f428.wrA W429 Vq426 wiS (by decide))
    have zz431 : n0 ≤ h429.size := by omega
    have lq431 : @LT.lt Nat _ a191 h429.size := Vq431.lt
    obtain ⟨Lc431, Y431, M431⟩ : ∃ L, Stand p l e room_1 (s.setVm s.vm) m #[(.int i0), (.int i1), (.int i2), (.int i3), (.int i4)] below meth c T429 L 1 64 ∧ Fr n0 L := ⟨_, X429, N429⟩
    clear st429 V429 X429 N429 z430 W429 Y426 M426 Vq426 f427 f428 zz426 lq426 e424
    show oGl p e below (T429.setTop (mkF m 518 #[.val (.int i0), .val (.int i1), .val (.int i2), .val (.int i3), .val (.int i4), .val (.int ca), .val (.int cb), .val (.int cc), .val (.int cd), .val (.int mm), .unset, .unset] [(.ref a191)])) _
    refine sdup Y431 hx (hb hby at_518) rfl rfl (pc' := 519) ?_
    refine sbipush Y431 hx (hb hby at_519) rfl rfl (z := 48) (pc' := 521) ?_
    refine siload Y431 hx (hb hby at_521) rfl rfl (pc' := 523) ?_
    obtain ⟨T434, h434, X434, e434, W434, V434, st434⟩ := Vq431.stC Y431 hx hZ e429 (j := (48 : Int32)) (by decide) (g := (mkF m 523 #[.val (.int i0), .val (.int i1), .val (.int i2), .val (.int i3), .val (.int i4), .val (.int ca), .val (.int cb), .val (.int cc), .val (.int cd), .val (.int mm), .unset, .unset] [(.int ca), (.int (48 : Int32)), (.ref a191), (.ref a191)])) rfl rfl (hb hby at_523)
    refine oOn st434 ?_
    have z435 : h429.size ≤ h434.size := Nat.le_of_eq W434.size.symm
    have N434 := Fr.snoc X434 M431 (by omega)
    have Vq436 : oAI Z h434 a191 .char 64 (oPre (FL ca cb cc cd) 49) := V434.congr (fun j _ => oPre_up (F := (FL ca cb cc cd)) (k := 48) hn_ca j)
    have f437 := (f432.wr W434 (by omega))
    have f438 := (f433.wrA W434 Vq431 wiS (by decide))
    have zz436 : n0 ≤ h434.size := by omega
    have lq436 : @LT.lt Nat _ a191 h434.size := Vq436.lt
    obtain ⟨Lc436, Y436, M436⟩ : ∃ L, Stand p l e room_1 (s.setVm s.vm) m #[(.int i0), (.int i1), (.int i2), (.int i3), (.int i4)] below meth c T434 L 1 64 ∧ Fr n0 L := ⟨_, X434, N434⟩
    clear st434 V434 X434 N434 z435 W434 Y431 M431 Vq431 f432 f433 zz431 lq431 e429
    show oGl p e below (T434.setTop (mkF m 524 #[.val (.int i0), .val (.int i1), .val (.int i2), .val (.int i3), .val (.int i4), .val (.int ca), .val (.int cb), .val (.int cc), .val (.int cd), .val (.int mm), .unset, .unset] [(.ref a191)])) _
    refine sdup Y436 hx (hb hby at_524) rfl rfl (pc' := 525) ?_
    refine sbipush Y436 hx (hb hby at_525) rfl rfl (z := 49) (pc' := 527) ?_
    refine siload Y436 hx (hb hby at_527) rfl rfl (pc' := 529) ?_
    obtain ⟨T439, h439, X439, e439, W439, V439, st439⟩ := Vq436.stC Y436 hx hZ e434 (j := (49 : Int32)) (by decide) (g := (mkF m 529 #[.val (.int i0), .val (.int i1), .val (.int i2), .val (.int i3), .val (.int i4), .val (.int ca), .val (.int cb), .val (.int cc), .val (.int cd), .val (.int mm), .unset, .unset] [(.int cb), (.int (49 : Int32)), (.ref a191), (.ref a191)])) rfl rfl (hb hby at_529)
    refine oOn st439 ?_
    have z440 : h434.size ≤ h439.size := Nat.le_of_eq W439.size.symm
    have N439 := Fr.snoc X439 M436 (by omega)
    have Vq441 : oAI Z h439 a191 .char 64 (oPre (FL ca cb cc cd) 50) := V439.congr (fun j _ => oPre_up (F := (FL ca cb cc cd)) (k := 49) hn_cb j)
    have f442 := (f437.wr W439 (by omega))
    have f443 := (f438.wrA W439 Vq436 wiS (by decide))
    have zz441 : n0 ≤ h439.size := by omega
    have lq441 : @LT.lt Nat _ a191 h439.size := Vq441.lt
    obtain ⟨Lc441, Y441, M441⟩ : ∃ L, Stand p l e room_1 (s.setVm s.vm) m #[(.int i0), (.int i1), (.int i2), (.int i3), (.int i4)] below meth c T439 L 1 64 ∧ Fr n0 L := ⟨_, X439, N439⟩
    clear st439 V439 X439 N439 z440 W439 Y436 M436 Vq436 f437 f438 zz436 lq436 e434
    show oGl p e below (T439.setTop (mkF m 530 #[.val (.int i0), .val (.int i1), .val (.int i2), .val (.int i3), .val (.int i4), .val (.int ca), .val (.int cb), .val (.int cc), .val (.int cd), .val (.int mm), .unset, .unset] [(.ref a191)])) _
    refine sdup Y441 hx (hb hby at_530) rfl rfl (pc' := 531) ?_
    refine sbipush Y441 hx (hb hby at_531) rfl rfl (z := 50) (pc' := 533) ?_
    refine siload Y441 hx (hb hby at_533) rfl rfl (pc' := 535) ?_
    obtain ⟨T444, h444, X444, e444, W444, V444, st444⟩ := Vq441.stC Y441 hx hZ e439 (j := (50 : Int32)) (by decide) (g := (mkF m 535 #[.val (.int i0), .val (.int i1), .val (.int i2), .val (.int i3), .val (.int i4), .val (.int ca), .val (.int cb), .val (.int cc), .val (.int cd), .val (.int mm), .unset, .unset] [(.int ca), (.int (50 : Int32)), (.ref a191), (.ref a191)])) rfl rfl (hb hby at_535)
    refine oOn st444 ?_
    have z445 : h439.size ≤ h444.size := Nat.le_of_eq W444.size.symm
    have N444 := Fr.snoc X444 M441 (by omega)
    have Vq446 : oAI Z h444 a191 .char 64 (oPre (FL ca cb cc cd) 51) := V444.congr (fun j _ => oPre_up (F := (FL ca cb cc cd)) (k := 50) hn_ca j)
    have f447 := (f442.wr W444 (by omega))
    have f448 := (f443.wrA W444 Vq441 wiS (by decide))
    have zz446 : n0 ≤ h444.size := by omega
    have lq446 : @LT.lt Nat _ a191 h444.size := Vq446.lt
    obtain ⟨Lc446, Y446, M446⟩ : ∃ L, Stand p l e room_1 (s.setVm s.vm) m #[(.int i0), (.int i1), (.int i2), (.int i3), (.int i4)] below meth c T444 L 1 64 ∧ Fr n0 L := ⟨_, X444, N444⟩
    clear st444 V444 X444 N444 z445 W444 Y441 M441 Vq441 f442 f443 zz441 lq441 e439
    show oGl p e below (T444.setTop (mkF m 536 #[.val (.int i0), .val (.int i1), .val (.int i2), .val (.int i3), .val (.int i4), .val (.int ca), .val (.int cb), .val (.int cc), .val (.int cd), .val (.int mm), .unset, .unset] [(.ref a191)])) _
    refine sdup Y446 hx (hb hby at_536) rfl rfl (pc' := 537) ?_
    refine sbipush Y446 hx (hb hby at_537) rfl rfl (z := 51) (pc' := 539) ?_
    refine siload Y446 hx (hb hby at_539) rfl rfl (pc' := 541) ?_
    obtain ⟨T449, h449, X449, e449, W449, V449, st449⟩ := Vq446.stC Y446 hx hZ e444 (j := (51 : Int32)) (by decide) (g := (mkF m 541 #[.val (.int i0), .val (.int i1), .val (.int i2), .val (.int i3), .val (.int i4), .val (.int ca), .val (.int cb), .val (.int cc), .val (.int cd), .val (.int mm), .unset, .unset] [(.int cb), (.int (51 : Int32)), (.ref a191), (.ref a191)])) rfl rfl (hb hby at_541)
    refine oOn st449 ?_
    have z450 : h444.size ≤ h449.size := Nat.le_of_eq W449.size.symm
    have N449 := Fr.snoc X449 M446 (by omega)
    have Vq451 : oAI Z h449 a191 .char 64 (oPre (FL ca cb cc cd) 52) := V449.congr (fun j _ => oPre_up (F := (FL ca cb cc cd)) (k := 51) hn_cb j)
    have f452 := (f447.wr W449 (by omega))
    have f453 := (f448.wrA W449 Vq446 wiS (by decide))
    have zz451 : n0 ≤ h449.size := by omega
    have lq451 : @LT.lt Nat _ a191 h449.size := Vq451.lt
    obtain ⟨Lc451, Y451, M451⟩ : ∃ L, Stand p l e room_1 (s.setVm s.vm) m #[(.int i0), (.int i1), (.int i2), (.int i3), (.int i4)] below meth c T449 L 1 64 ∧ Fr n0 L := ⟨_, X449, N449⟩
    clear st449 V449 X449 N449 z450 W449 Y446 M446 Vq446 f447 f448 zz446 lq446 e444
    show oGl p e below (T449.setTop (mkF m 542 #[.val (.int i0), .val (.int i1), .val (.int i2), .val (.int i3), .val (.int i4), .val (.int ca), .val (.int cb), .val (.int cc), .val (.int cd), .val (.int mm), .unset, .unset] [(.ref a191)])) _
    refine sdup Y451 hx (hb hby at_542) rfl rfl (pc' := 543) ?_
    refine sbipush Y451 hx (hb hby at_543) rfl rfl (z := 52) (pc' := 545) ?_
    refine siload Y451 hx (hb hby at_545) rfl rfl (pc' := 547) ?_
    obtain ⟨T454, h454, X454, e454, W454, V454, st454⟩ := Vq451.stC Y451 hx hZ e449 (j := (52 : Int32)) (by decide) (g := (mkF m 547 #[.val (.int i0), .val (.int i1), .val (.int i2), .val (.int i3), .val (.int i4), .val (.int ca), .val (.int cb), .val (.int cc), .val (.int cd), .val (.int mm), .unset, .unset] [(.int ca), (.int (52 : Int32)), (.ref a191), (.ref a191)])) rfl rfl (hb hby at_547)
    refine oOn st454 ?_
    have z455 : h449.size ≤ h454.size := Nat.le_of_eq W454.size.symm
    have N454 := Fr.snoc X454 M451 (by omega)
    have Vq456 : oAI Z h454 a191 .char 64 (oPre (FL ca cb cc cd) 53) := V454.congr (fun j _ => oPre_up (F := (FL ca cb cc cd)) (k := 52) hn_ca j)
    have f457 := (f452.wr W454 (by omega))
    have f458 := (f453.wrA W454 Vq451 wiS (by decide))
    have zz456 : n0 ≤ h454.size := by omega
    have lq456 : @LT.lt Nat _ a191 h454.size := Vq456.lt
    obtain ⟨Lc456, Y456, M456⟩ : ∃ L, Stand p l e room_1 (s.setVm s.vm) m #[(.int i0), (.int i1), (.int i2), (.int i3), (.int i4)] below meth c T454 L 1 64 ∧ Fr n0 L := ⟨_, X454, N454⟩
    clear st454 V454 X454 N454 z455 W454 Y451 M451 Vq451 f452 f453 zz451 lq451 e449
    show oGl p e below (T454.setTop (mkF m 548 #[.val (.int i0), .val (.int i1), .val (.int i2), .val (.int i3), .val (.int i4), .val (.int ca), .val (.int cb), .val (.int cc), .val (.int cd), .val (.int mm), .unset, .unset] [(.ref a191)])) _
    refine sdup Y456 hx (hb hby at_548) rfl rfl (pc' := 549) ?_
    refine sbipush Y456 hx (hb hby at_549) rfl rfl (z := 53) (pc' := 551) ?_
    refine siload Y456 hx (hb hby at_551) rfl rfl (pc' := 553) ?_
    obtain ⟨T459, h459, X459, e459, W459, V459, st459⟩ := Vq456.stC Y456 hx hZ e454 (j := (53 : Int32)) (by decide) (g := (mkF m 553 #[.val (.int i0), .val (.int i1), .val (.int i2), .val (.int i3), .val (.int i4), .val (.int ca), .val (.int cb), .val (.int cc), .val (.int cd), .val (.int mm), .unset, .unset] [(.int cb), (.int (53 : Int32)), (.ref a191), (.ref a191)])) rfl rfl (hb hby at_553)
    refine oOn st459 ?_
    have z460 : h454.size ≤ h459.size := Nat.le_of_eq W459.size.symm
    have N459 := Fr.snoc X459 M456 (by omega)
    have Vq461 : oAI Z h459 a191 .char 64 (oPre (FL ca cb cc cd) 54) := V459.congr (fun j _ => oPre_up (F := (FL ca cb cc cd)) (k := 53) hn_cb j)
    have f462 := (f457.wr W459 (by omega))
    have f463 := (f458.wrA W459 Vq456 wiS (by decide))
    have zz461 : n0 ≤ h459.size := by omega
    have lq461 : @LT.lt Nat _ a191 h459.size := Vq461.lt
    obtain ⟨Lc461, Y461, M461⟩ : ∃ L, Stand p l e room_1 (s.setVm s.vm) m #[(.int i0), (.int i1), (.int i2), (.int i3), (.int i4)] below meth c T459 L 1 64 ∧ Fr n0 L := ⟨_, X459, N459⟩
    clear st459 V459 X459 N459 z460 W459 Y456 M456 Vq456 f457 f458 zz456 lq456 e454
    show oGl p e below (T459.setTop (mkF m 554 #[.val (.int i0), .val (.int i1), .val (.int i2), .val (.int i3), .val (.int i4), .val (.int ca), .val (.int cb), .val (.int cc), .val (.int cd), .val (.int mm), .unset, .unset] [(.ref a191)])) _
    refine sdup Y461 hx (hb hby at_554) rfl rfl (pc' := 555) ?_
    refine sbipush Y461 hx (hb hby at_555) rfl rfl (z := 54) (pc' := 557) ?_
    refine siload Y461 hx (hb hby at_557) rfl rfl (pc' := 559) ?_
    obtain ⟨T464, h464, X464, e464, W464, V464, st464⟩ := Vq461.stC Y461 hx hZ e459 (j := (54 : Int32)) (by decide) (g := (mkF m 559 #[.val (.int i0), .val (.int i1), .val (.int i2), .val (.int i3), .val (.int i4), .val (.int ca), .val (.int cb), .val (.int cc), .val (.int cd), .val (.int mm), .unset, .unset] [(.int ca), (.int (54 : Int32)), (.ref a191), (.ref a191)])) rfl rfl (hb hby at_559)
    refine oOn st464 ?_
    have z465 : h459.size ≤ h464.size := Nat.le_of_eq W464.size.symm
    have N464 := Fr.snoc X464 M461 (by omega)
    have Vq466 : oAI Z h464 a191 .char 64 (oPre (FL ca cb cc cd) 55) := V464.congr (fun j _ => oPre_up (F := (FL ca cb cc cd)) (k := 54) hn_ca j)
    have f467 := (f462.wr W464 (by omega))
    have f468 := (f463.wrA W464 Vq461 wiS (by decide))
    have zz466 : n0 ≤ h464.size := by omega
    have lq466 : @LT.lt Nat _ a191 h464.size := Vq466.lt
    obtain ⟨Lc466, Y466, M466⟩ : ∃ L, Stand p l e room_1 (s.setVm s.vm) m #[(.int i0), (.int i1), (.int i2), (.int i3), (.int i4)] below meth c T464 L 1 64 ∧ Fr n0 L := ⟨_, X464, N464⟩
    clear st464 V464 X464 N464 z465 W464 Y461 M461 Vq461 f462 f463 zz461 lq461 e459
    show oGl p e below (T464.setTop (mkF m 560 #[.val (.int i0), .val (.int i1), .val (.int i2), .val (.int i3), .val (.int i4), .val (.int ca), .val (.int cb), .val (.int cc), .val (.int cd), .val (.int mm), .unset, .unset] [(.ref a191)])) _
    refine sdup Y466 hx (hb hby at_560) rfl rfl (pc' := 561) ?_
    refine sbipush Y466 hx (hb hby at_561) rfl rfl (z := 55) (pc' := 563) ?_
    refine siload Y466 hx (hb hby at_563) rfl rfl (pc' := 565) ?_
    obtain ⟨T469, h469, X469, e469, W469, V469, st469⟩ := Vq466.stC Y466 hx hZ e464 (j := (55 : Int32)) (by decide) (g := (mkF m 565 #[.val (.int i0), .val (.int i1), .val (.int i2), .val (.int i3), .val (.int i4), .val (.int ca), .val (.int cb), .val (.int cc), .val (.int cd), .val (.int mm), .unset, .unset] [(.int cb), (.int (55 : Int32)), (.ref a191), (.ref a191)])) rfl rfl (hb hby at_565)
    refine oOn st469 ?_
    have z470 : h464.size ≤ h469.size := Nat.le_of_eq W469.size.symm
    have N469 := Fr.snoc X469 M466 (by omega)
    have Vq471 : oAI Z h469 a191 .char 64 (oPre (FL ca cb cc cd) 56) := V469.congr (fun j _ => oPre_up (F := (FL ca cb cc cd)) (k := 55) hn_cb j)
    have f472 := (f467.wr W469 (by omega))
    have f473 := (f468.wrA W469 Vq466 wiS (by decide))
    have zz471 : n0 ≤ h469.size := by omega
    have lq471 : @LT.lt Nat _ a191 h469.size := Vq471.lt
    obtain ⟨Lc471, Y471, M471⟩ : ∃ L, Stand p l e room_1 (s.setVm s.vm) m #[(.int i0), (.int i1), (.int i2), (.int i3), (.int i4)] below meth c T469 L 1 64 ∧ Fr n0 L := ⟨_, X469, N469⟩
    clear st469 V469 X469 N469 z470 W469 Y466 M466 Vq466 f467 f468 zz466 lq466 e464
    show oGl p e below (T469.setTop (mkF m 566 #[.val (.int i0), .val (.int i1), .val (.int i2), .val (.int i3), .val (.int i4), .val (.int ca), .val (.int cb), .val (.int cc), .val (.int cd), .val (.int mm), .unset, .unset] [(.ref a191)])) _
    refine sdup Y471 hx (hb hby at_566) rfl rfl (pc' := 567) ?_
    refine sbipush Y471 hx (hb hby at_567) rfl rfl (z := 56) (pc' := 569) ?_
    refine siload Y471 hx (hb hby at_569) rfl rfl (pc' := 571) ?_
    obtain ⟨T474, h474, X474, e474, W474, V474, st474⟩ := Vq471.stC Y471 hx hZ e469 (j := (56 : Int32)) (by decide) (g := (mkF m 571 #[.val (.int i0), .val (.int i1), .val (.int i2), .val (.int i3), .val (.int i4), .val (.int ca), .val (.int cb), .val (.int cc), .val (.int cd), .val (.int mm), .unset, .unset] [(.int ca), (.int (56 : Int32)), (.ref a191), (.ref a191)])) rfl rfl (hb hby at_571)
    refine oOn st474 ?_
    have z475 : h469.size ≤ h474.size := Nat.le_of_eq W474.size.symm
    have N474 := Fr.snoc X474 M471 (by omega)
    have Vq476 : oAI Z h474 a191 .char 64 (oPre (FL ca cb cc cd) 57) := V474.congr (fun j _ => oPre_up (F := (FL ca cb cc cd)) (k := 56) hn_ca j)
    have f477 := (f472.wr W474 (by omega))
    have f478 := (f473.wrA W474 Vq471 wiS (by decide))
    have zz476 : n0 ≤ h474.size := by omega
    have lq476 : @LT.lt Nat _ a191 h474.size := Vq476.lt
    obtain ⟨Lc476, Y476, M476⟩ : ∃ L, Stand p l e room_1 (s.setVm s.vm) m #[(.int i0), (.int i1), (.int i2), (.int i3), (.int i4)] below meth c T474 L 1 64 ∧ Fr n0 L := ⟨_, X474, N474⟩
    clear st474 V474 X474 N474 z475 W474 Y471 M471 Vq471 f472 f473 zz471 lq471 e469
    show oGl p e below (T474.setTop (mkF m 572 #[.val (.int i0), .val (.int i1), .val (.int i2), .val (.int i3), .val (.int i4), .val (.int ca), .val (.int cb), .val (.int cc), .val (.int cd), .val (.int mm), .unset, .unset] [(.ref a191)])) _
    refine sdup Y476 hx (hb hby at_572) rfl rfl (pc' := 573) ?_
    refine sbipush Y476 hx (hb hby at_573) rfl rfl (z := 57) (pc' := 575) ?_
    refine siload Y476 hx (hb hby at_575) rfl rfl (pc' := 577) ?_
    obtain ⟨T479, h479, X479, e479, W479, V479, st479⟩ := Vq476.stC Y476 hx hZ e474 (j := (57 : Int32)) (by decide) (g := (mkF m 577 #[.val (.int i0), .val (.int i1), .val (.int i2), .val (.int i3), .val (.int i4), .val (.int ca), .val (.int cb), .val (.int cc), .val (.int cd), .val (.int mm), .unset, .unset] [(.int cb), (.int (57 : Int32)), (.ref a191), (.ref a191)])) rfl rfl (hb hby at_577)
    refine oOn st479 ?_
    have z480 : h474.size ≤ h479.size := Nat.le_of_eq W479.size.symm
    have N479 := Fr.snoc X479 M476 (by omega)
    have Vq481 : oAI Z h479 a191 .char 64 (oPre (FL ca cb cc cd) 58) := V479.congr (fun j _ => oPre_up (F := (FL ca cb cc cd)) (k := 57) hn_cb j)
    have f482 := (f477.wr W479 (by omega))
    have f483 := (f478.wrA W479 Vq476 wiS (by decide))
    have zz481 : n0 ≤ h479.size := by omega
    have lq481 : @LT.lt Nat _ a191 h479.size := Vq481.lt
    obtain ⟨Lc481, Y481, M481⟩ : ∃ L, Stand p l e room_1 (s.setVm s.vm) m #[(.int i0), (.int i1), (.int i2), (.int i3), (.int i4)] below meth c T479 L 1 64 ∧ Fr n0 L := ⟨_, X479, N479⟩
    clear st479 V479 X479 N479 z480 W479 Y476 M476 Vq476 f477 f478 zz476 lq476 e474
    show oGl p e below (T479.setTop (mkF m 578 #[.val (.int i0), .val (.int i1), .val (.int i2), .val (.int i3), .val (.int i4), .val (.int ca), .val (.int cb), .val (.int cc), .val (.int cd), .val (.int mm), .unset, .unset] [(.ref a191)])) _
    refine sdup Y481 hx (hb hby at_578) rfl rfl (pc' := 579) ?_
    refine sbipush Y481 hx (hb hby at_579) rfl rfl (z := 58) (pc' := 581) ?_
    refine siload Y481 hx (hb hby at_581) rfl rfl (pc' := 583) ?_
    obtain ⟨T484, h484, X484, e484, W484, V484, st484⟩ := Vq481.stC Y481 hx hZ e479 (j := (58 : Int32)) (by decide) (g := (mkF m 583 #[.val (.int i0), .val (.int i1), .val (.int i2), .val (.int i3), .val (.int i4), .val (.int ca), .val (.int cb), .val (.int cc), .val (.int cd), .val (.int mm), .unset, .unset] [(.int ca), (.int (58 : Int32)), (.ref a191), (.ref a191)])) rfl rfl (hb hby at_583)
    refine oOn st484 ?_
    have z485 : h479.size ≤ h484.size := Nat.le_of_eq W484.size.symm
    have N484 := Fr.snoc X484 M481 (by omega)
    have Vq486 : oAI Z h484 a191 .char 64 (oPre (FL ca cb cc cd) 59) := V484.congr (fun j _ => oPre_up (F := (FL ca cb cc cd)) (k := 58) hn_ca j)
    have f487 := (f482.wr W484 (by omega))
    have f488 := (f483.wrA W484 Vq481 wiS (by decide))
    have zz486 : n0 ≤ h484.size := by omega
    have lq486 : @LT.lt Nat _ a191 h484.size := Vq486.lt
    obtain ⟨Lc486, Y486, M486⟩ : ∃ L, Stand p l e room_1 (s.setVm s.vm) m #[(.int i0), (.int i1), (.int i2), (.int i3), (.int i4)] below meth c T484 L 1 64 ∧ Fr n0 L := ⟨_, X484, N484⟩
    clear st484 V484 X484 N484 z485 W484 Y481 M481 Vq481 f482 f483 zz481 lq481 e479
    show oGl p e below (T484.setTop (mkF m 584 #[.val (.int i0), .val (.int i1), .val (.int i2), .val (.int i3), .val (.int i4), .val (.int ca), .val (.int cb), .val (.int cc), .val (.int cd), .val (.int mm), .unset, .unset] [(.ref a191)])) _
    refine sdup Y486 hx (hb hby at_584) rfl rfl (pc' := 585) ?_
    refine sbipush Y486 hx (hb hby at_585) rfl rfl (z := 59) (pc' := 587) ?_
    refine siload Y486 hx (hb hby at_587) rfl rfl (pc' := 589) ?_
    obtain ⟨T489, h489, X489, e489, W489, V489, st489⟩ := Vq486.stC Y486 hx hZ e484 (j := (59 : Int32)) (by decide) (g := (mkF m 589 #[.val (.int i0), .val (.int i1), .val (.int i2), .val (.int i3), .val (.int i4), .val (.int ca), .val (.int cb), .val (.int cc), .val (.int cd), .val (.int mm), .unset, .unset] [(.int cb), (.int (59 : Int32)), (.ref a191), (.ref a191)])) rfl rfl (hb hby at_589)
    refine oOn st489 ?_
    have z490 : h484.size ≤ h489.size := Nat.le_of_eq W489.size.symm
    have N489 := Fr.snoc X489 M486 (by omega)
    have Vq491 : oAI Z h489 a191 .char 64 (oPre (FL ca cb cc cd) 60) := V489.congr (fun j _ => oPre_up (F := (FL ca cb cc cd)) (k := 59) hn_cb j)
    have f492 := (f487.wr W489 (by omega))
    have f493 := (f488.wrA W489 Vq486 wiS (by decide))
    have zz491 : n0 ≤ h489.size := by omega
    have lq491 : @LT.lt Nat _ a191 h489.size := Vq491.lt
    obtain ⟨Lc491, Y491, M491⟩ : ∃ L, Stand p l e room_1 (s.setVm s.vm) m #[(.int i0), (.int i1), (.int i2), (.int i3), (.int i4)] below meth c T489 L 1 64 ∧ Fr n0 L := ⟨_, X489, N489⟩
    clear st489 V489 X489 N489 z490 W489 Y486 M486 Vq486 f487 f488 zz486 lq486 e484
    show oGl p e below (T489.setTop (mkF m 590 #[.val (.int i0), .val (.int i1), .val (.int i2), .val (.int i3), .val (.int i4), .val (.int ca), .val (.int cb), .val (.int cc), .val (.int cd), .val (.int mm), .unset, .unset] [(.ref a191)])) _
    refine sdup Y491 hx (hb hby at_590) rfl rfl (pc' := 591) ?_
    refine sbipush Y491 hx (hb hby at_591) rfl rfl (z := 60) (pc' := 593) ?_
    refine siload Y491 hx (hb hby at_593) rfl rfl (pc' := 595) ?_
    obtain ⟨T494, h494, X494, e494, W494, V494, st494⟩ := Vq491.stC Y491 hx hZ e489 (j := (60 : Int32)) (by decide) (g := (mkF m 595 #[.val (.int i0), .val (.int i1), .val (.int i2), .val (.int i3), .val (.int i4), .val (.int ca), .val (.int cb), .val (.int cc), .val (.int cd), .val (.int mm), .unset, .unset] [(.int ca), (.int (60 : Int32)), (.ref a191), (.ref a191)])) rfl rfl (hb hby at_595)
    refine oOn st494 ?_
    have z495 : h489.size ≤ h494.size := Nat.le_of_eq W494.size.symm
    have N494 := Fr.snoc X494 M491 (by omega)
    have Vq496 : oAI Z h494 a191 .char 64 (oPre (FL ca cb cc cd) 61) := V494.congr (fun j _ => oPre_up (F := (FL ca cb cc cd)) (k := 60) hn_ca j)
    have f497 := (f492.wr W494 (by omega))
    have f498 := (f493.wrA W494 Vq491 wiS (by decide))
    have zz496 : n0 ≤ h494.size := by omega
    have lq496 : @LT.lt Nat _ a191 h494.size := Vq496.lt
    obtain ⟨Lc496, Y496, M496⟩ : ∃ L, Stand p l e room_1 (s.setVm s.vm) m #[(.int i0), (.int i1), (.int i2), (.int i3), (.int i4)] below meth c T494 L 1 64 ∧ Fr n0 L := ⟨_, X494, N494⟩
    clear st494 V494 X494 N494 z495 W494 Y491 M491 Vq491 f492 f493 zz491 lq491 e489
    show oGl p e below (T494.setTop (mkF m 596 #[.val (.int i0), .val (.int i1), .val (.int i2), .val (.int i3), .val (.int i4), .val (.int ca), .val (.int cb), .val (.int cc), .val (.int cd), .val (.int mm), .unset, .unset] [(.ref a191)])) _
    refine sdup Y496 hx (hb hby at_596) rfl rfl (pc' := 597) ?_
    refine sbipush Y496 hx (hb hby at_597) rfl rfl (z := 61) (pc' := 599) ?_
    refine siload Y496 hx (hb hby at_599) rfl rfl (pc' := 601) ?_
    obtain ⟨T499, h499, X499, e499, W499, V499, st499⟩ := Vq496.stC Y496 hx hZ e494 (j := (61 : Int32)) (by decide) (g := (mkF m 601 #[.val (.int i0), .val (.int i1), .val (.int i2), .val (.int i3), .val (.int i4), .val (.int ca), .val (.int cb), .val (.int cc), .val (.int cd), .val (.int mm), .unset, .unset] [(.int cb), (.int (61 : Int32)), (.ref a191), (.ref a191)])) rfl rfl (hb hby at_601)
    refine oOn st499 ?_
    have z500 : h494.size ≤ h499.size := Nat.le_of_eq W499.size.symm
    have N499 := Fr.snoc X499 M496 (by omega)
    have Vq501 : oAI Z h499 a191 .char 64 (oPre (FL ca cb cc cd) 62) := V499.congr (fun j _ => oPre_up (F := (FL ca cb cc cd)) (k := 61) hn_cb j)
    have f502 := (f497.wr W499 (by omega))
    have f503 := (f498.wrA W499 Vq496 wiS (by decide))
    have zz501 : n0 ≤ h499.size := by omega
    have lq501 : @LT.lt Nat _ a191 h499.size := Vq501.lt
    obtain ⟨Lc501, Y501, M501⟩ : ∃ L, Stand p l e room_1 (s.setVm s.vm) m #[(.int i0), (.int i1), (.int i2), (.int i3), (.int i4)] below meth c T499 L 1 64 ∧ Fr n0 L := ⟨_, X499, N499⟩
    clear st499 V499 X499 N499 z500 W499 Y496 M496 Vq496 f497 f498 zz496 lq496 e494
    show oGl p e below (T499.setTop (mkF m 602 #[.val (.int i0), .val (.int i1), .val (.int i2), .val (.int i3), .val (.int i4), .val (.int ca), .val (.int cb), .val (.int cc), .val (.int cd), .val (.int mm), .unset, .unset] [(.ref a191)])) _
    refine sdup Y501 hx (hb hby at_602) rfl rfl (pc' := 603) ?_
    refine sbipush Y501 hx (hb hby at_603) rfl rfl (z := 62) (pc' := 605) ?_
    refine siload Y501 hx (hb hby at_605) rfl rfl (pc' := 607) ?_
    obtain ⟨T504, h504, X504, e504, W504, V504, st504⟩ := Vq501.stC Y501 hx hZ e499 (j := (62 : Int32)) (by decide) (g := (mkF m 607 #[.val (.int i0), .val (.int i1), .val (.int i2), .val (.int i3), .val (.int i4), .val (.int ca), .val (.int cb), .val (.int cc), .val (.int cd), .val (.int mm), .unset, .unset] [(.int ca), (.int (62 : Int32)), (.ref a191), (.ref a191)])) rfl rfl (hb hby at_607)
    refine oOn st504 ?_
    have z505 : h499.size ≤ h504.size := Nat.le_of_eq W504.size.symm
    have N504 := Fr.snoc X504 M501 (by omega)
    have Vq506 : oAI Z h504 a191 .char 64 (oPre (FL ca cb cc cd) 63) := V504.congr (fun j _ => oPre_up (F := (FL ca cb cc cd)) (k := 62) hn_ca j)
    have f507 := (f502.wr W504 (by omega))
    have f508 := (f503.wrA W504 Vq501 wiS (by decide))
    have zz506 : n0 ≤ h504.size := by omega
    have lq506 : @LT.lt Nat _ a191 h504.size := Vq506.lt
    obtain ⟨Lc506, Y506, M506⟩ : ∃ L, Stand p l e room_1 (s.setVm s.vm) m #[(.int i0), (.int i1), (.int i2), (.int i3), (.int i4)] below meth c T504 L 1 64 ∧ Fr n0 L := ⟨_, X504, N504⟩
    clear st504 V504 X504 N504 z505 W504 Y501 M501 Vq501 f502 f503 zz501 lq501 e499
    show oGl p e below (T504.setTop (mkF m 608 #[.val (.int i0), .val (.int i1), .val (.int i2), .val (.int i3), .val (.int i4), .val (.int ca), .val (.int cb), .val (.int cc), .val (.int cd), .val (.int mm), .unset, .unset] [(.ref a191)])) _
    refine sdup Y506 hx (hb hby at_608) rfl rfl (pc' := 609) ?_
    refine sbipush Y506 hx (hb hby at_609) rfl rfl (z := 63) (pc' := 611) ?_
    refine siload Y506 hx (hb hby at_611) rfl rfl (pc' := 613) ?_
    obtain ⟨T509, h509, X509, e509, W509, V509, st509⟩ := Vq506.stC Y506 hx hZ e504 (j := (63 : Int32)) (by decide) (g := (mkF m 613 #[.val (.int i0), .val (.int i1), .val (.int i2), .val (.int i3), .val (.int i4), .val (.int ca), .val (.int cb), .val (.int cc), .val (.int cd), .val (.int mm), .unset, .unset] [(.int cc), (.int (63 : Int32)), (.ref a191), (.ref a191)])) rfl rfl (hb hby at_613)
    refine oOn st509 ?_
    have z510 : h504.size ≤ h509.size := Nat.le_of_eq W509.size.symm
    have N509 := Fr.snoc X509 M506 (by omega)
    have Vq511 : oAI Z h509 a191 .char 64 (oPre (FL ca cb cc cd) 64) := V509.congr (fun j _ => oPre_up (F := (FL ca cb cc cd)) (k := 63) hn_cc j)
    have f512 := (f507.wr W509 (by omega))
    have f513 := (f508.wrA W509 Vq506 wiS (by decide))
    have zz511 : n0 ≤ h509.size := by omega
    have lq511 : @LT.lt Nat _ a191 h509.size := Vq511.lt
    obtain ⟨Lc511, Y511, M511⟩ : ∃ L, Stand p l e room_1 (s.setVm s.vm) m #[(.int i0), (.int i1), (.int i2), (.int i3), (.int i4)] below meth c T509 L 1 64 ∧ Fr n0 L := ⟨_, X509, N509⟩
    clear st509 V509 X509 N509 z510 W509 Y506 M506 Vq506 f507 f508 zz506 lq506 e504
    show oGl p e below (T509.setTop (mkF m 614 #[.val (.int i0), .val (.int i1), .val (.int i2), .val (.int i3), .val (.int i4), .val (.int ca), .val (.int cb), .val (.int cc), .val (.int cd), .val (.int mm), .unset, .unset] [(.ref a191)])) _
    refine sastore Y511 hx (hb hby at_614) rfl rfl rfl (l' := #[.val (.int i0), .val (.int i1), .val (.int i2), .val (.int i3), .val (.int i4), .val (.int ca), .val (.int cb), .val (.int cc), .val (.int cd), .val (.int mm), .val (.ref a191), .unset]) (pc' := 616) ?_
    refine saload Y511 hx (hb hby at_616) rfl rfl rfl (pc' := 618) ?_
    refine oOn (Vq511.len Y511 hx hZ e509 (g := (mkF m 618 #[.val (.int i0), .val (.int i1), .val (.int i2), .val (.int i3), .val (.int i4), .val (.int ca), .val (.int cb), .val (.int cc), .val (.int cd), .val (.int mm), .val (.ref a191), .unset] [(.ref a191)])) rfl rfl (hb hby at_618)) ?_
    show oGl p e below (T509.setTop (mkF m 619 #[.val (.int i0), .val (.int i1), .val (.int i2), .val (.int i3), .val (.int i4), .val (.int ca), .val (.int cb), .val (.int cc), .val (.int cd), .val (.int mm), .val (.ref a191), .unset] [(.int (64 : Int32))])) _
    refine sbipush Y511 hx (hb hby at_619) rfl rfl (z := 64) (pc' := 621) ?_
    refine sicY Y511 hx (hb hby at_621) (by decide) (by decide) (teq (by decide : (64 : Int32) = (64 : Int32))).1 (pc' := 626) ?_
    refine siload Y511 hx (hb hby at_626) rfl rfl (pc' := 628) ?_
    have hz514 : n0 ≤ h509.size := by omega
    obtain ⟨_, _, ⟨T514, L514, k514, n514⟩, -, X514, ⟨Lc514, hQ514, l514, y514, z514⟩, st514⟩ := Jvm.LawKit.callS Y511 hx (y := (⟨"com/example/concordat/concordat/core/LimitsIsIdPinLaw", "ok", "(C)Z"⟩ : MethodName)) hown (mvT hZ (hw _ (List.mem_of_getElem? (i := 57) rfl))) (mvT hZ (hw _ (List.mem_of_getElem? (i := 58) rfl))) (mvT hZ (hw _ (List.mem_of_getElem? (i := 59) rfl))) (mvT hZ (hw _ (List.mem_of_getElem? (i := 60) rfl))) (by decide) (backOf (W := 0) (rmOk l Z a0 hw [] ca h509 n0 hz514 ) hZ (hw _ (List.mem_of_getElem? (i := 60) rfl)) (hw _ (List.mem_of_getElem? (i := 59) rfl)) (by decide) (by decide)) (g := (mkF m 628 #[.val (.int i0), .val (.int i1), .val (.int i2), .val (.int i3), .val (.int i4), .val (.int ca), .val (.int cb), .val (.int cc), .val (.int cd), .val (.int mm), .val (.ref a191), .unset] [(.int ca)])) rfl (by rw [hml]; rfl) (argsL := [(.int ca)]) (rest := []) (lenOf pd_19 rfl) rfl (by show 2 * 0 + _ ≤ _; exact Nat.le_of_eq rfl) (hb hby at_628) (fun _ _ => ⟨rfl, e509, (by decide : 1 + 0 ≤ _), (by decide : 64 + 0 ≤ _)⟩)
    dsimp only [Pt.U, Pt.locs, Pt.cells, Pt.slots] at X514 l514 y514 z514 st514 hQ514
    subst l514 y514 z514
    obtain ⟨r514, rfl, N514q, eh514, pq514⟩ := hQ514
    have N514 := Fr.app M511 N514q
    refine oOn st514 ?_
    show oGl p e below (T514.setTop (mkF m 631 #[.val (.int i0), .val (.int i1), .val (.int i2), .val (.int i3), .val (.int i4), .val (.int ca), .val (.int cb), .val (.int cc), .val (.int cd), .val (.int mm), .val (.ref a191), .unset] [(.int r514)])) _
    by_cases hc631 : r514 = (0 : Int32)
    · skip
      refine sifY X514 hx (hb hby at_631) (by decide) (by decide) (teq hc631).1 (pc' := 662) ?_
      refine siconst X514 hx (hb hby at_662) rfl rfl (z := 0) (pc' := 663) ?_
      refine sistore X514 hx (hb hby at_663) rfl rfl (l' := #[.val (.int i0), .val (.int i1), .val (.int i2), .val (.int i3), .val (.int i4), .val (.int ca), .val (.int cb), .val (.int cc), .val (.int cd), .val (.int mm), .val (.ref a191), .val (.int (0 : Int32))]) (pc' := 665) ?_
      obtain ⟨T515, h515, X515, e515, E515, A515, D515, -, st515⟩ := newO X514 hx hZ hown (hw _ (List.mem_of_getElem? (i := 1) rfl)) wiS (hw _ (List.mem_of_getElem? (i := 3) rfl)) eh514 (g := (mkF m 665 #[.val (.int i0), .val (.int i1), .val (.int i2), .val (.int i3), .val (.int i4), .val (.int ca), .val (.int cb), .val (.int cc), .val (.int cd), .val (.int mm), .val (.ref a191), .val (.int (0 : Int32))] [])) rfl (hb hby at_665) (by decide) (by decide)
      obtain ⟨a515, g515⟩ : ∃ z, z = h509.size := ⟨_, rfl⟩
      rw [← g515] at A515 D515 st515
      refine oOn st515 ?_
      have z516 : h509.size ≤ h515.size := E515.1
      have lt515 : a515 < h515.size := A515.lt
      have f515_16 : Fld Z h515 a515 "java/lang/String" "value" "[B" .null := D515 (Or.inr (hw _ (List.mem_of_getElem? (i := 16) rfl))) (ty := (.array .byte)) (by decide)
      have f515_17 : Fld Z h515 a515 "java/lang/String" "coder" "B" (.int (0 : Int32)) := D515 (Or.inr (hw _ (List.mem_of_getElem? (i := 17) rfl))) (ty := .byte) (by decide)
      show oGl p e below (T515.setTop (mkF m 668 #[.val (.int i0), .val (.int i1), .val (.int i2), .val (.int i3), .val (.int i4), .val (.int ca), .val (.int cb), .val (.int cc), .val (.int cd), .val (.int mm), .val (.ref a191), .val (.int (0 : Int32))] [(.ref a515)])) _
      refine sdup X515 hx (hb hby at_668) rfl rfl (pc' := 669) ?_
      refine saload X515 hx (hb hby at_669) rfl rfl rfl (pc' := 671) ?_
      have f517 := (Vq511.ext E515)
      have nxa : @Ne Nat a515 a191 := oNeO A515 wiS f517
      have Vm : oAI Z h515 a191 .char 64 (FL ca cb cc cd) := f517.congr (fun j hj => oPre_n hj)
      have f518 := (f512.ext E515)
      have hz519 : n0 ≤ h515.size := by omega
      have f520 := (f513.ext E515)
      obtain ⟨_, _, ⟨T519, L519, k519, n519⟩, -, X519, hS2, hg2, ⟨Lc519, hQ519, l519, y519, z519⟩, st519⟩ := X515.specialBackS hx (y := (⟨"java/lang/String", "<init>", "([C)V"⟩ : MethodName)) rfl hown (mvT hZ (hw _ (List.mem_of_getElem? (i := 4) rfl))) (mvT hZ (hw _ (List.mem_of_getElem? (i := 5) rfl))) (mvT hZ (hw _ (List.mem_of_getElem? (i := 6) rfl))) (by decide) (backOfV (J := fun vm => oEm Z vm h515) (W := 1) (rmStr l Z a0 hw [] a515 a191 64 (FL ca cb cc cd) cz sf h515 n0 hz519 Vm (by decide) (hchL _) nxa A515 f515_16 f515_17 (by omega) f518 SCS hcz SSF hsf SAD SHI SLO hcH hcw) hZ (hw _ (List.mem_of_getElem? (i := 6) rfl)) (hw _ (List.mem_of_getElem? (i := 3) rfl)) (by decide) (by decide)) (g := (mkF m 671 #[.val (.int i0), .val (.int i1), .val (.int i2), .val (.int i3), .val (.int i4), .val (.int ca), .val (.int cb), .val (.int cc), .val (.int cd), .val (.int mm), .val (.ref a191), .val (.int (0 : Int32))] [(.ref a191), (.ref a515), (.ref a515)])) rfl (by rw [hml]; rfl) (Steps.refl _) (a := a515) (argsL := [(.ref a191)]) (rest := [(.ref a515)]) (lenOf pd_17 rfl) rfl (by show 2 * 0 + _ ≤ _; exact Nat.le_of_eq rfl) (hb hby at_671) (fun _ hWw => ⟨rfl, e515, (by decide : 2 + 2 ≤ _), (by decide : 68 + 195 ≤ _), f520.warm hWw⟩)
      dsimp only [Pt.U, Pt.locs, Pt.cells, Pt.slots] at X519 l519 y519 z519 st519 hQ519 hS2 hg2
      subst l519 y519 z519
      obtain ⟨X519, hS, hZ, hown⟩ := rebS hS (n1 := T515.heap.size) (by rw [e515]; omega) X519 hS2 hg2 hZ hown
      have hk : T519.heap.size ≤ T519.heap.size := Nat.le_refl _
      obtain ⟨rfl, N519q, K519, Ex519, Os519, -⟩ := hQ519
      have N519 := Fr.app N514 N519q
      have z521 : h515.size ≤ T519.heap.size := K519.1
      refine oSt st519 ?_
      show oGl p e below (T519.setTop (mkF m 674 #[.val (.int i0), .val (.int i1), .val (.int i2), .val (.int i3), .val (.int i4), .val (.int ca), .val (.int cb), .val (.int cc), .val (.int cd), .val (.int mm), .val (.ref a191), .val (.int (0 : Int32))] [(.ref a515)])) _
      have f522 := (f518.keep K519 (allS (by omega) all0))
      have hz523 : n0 ≤ T519.heap.size := by omega
      obtain ⟨_, _, ⟨T523, L523, k523, n523⟩, -, X523, hS2, hg2, ⟨Lc523, hQ523, l523, y523, z523⟩, st523⟩ := callSS X519 hx (y := (⟨"com/example/concordat/concordat/core/Limits", "isId", "(Ljava/lang/String;)Z"⟩ : MethodName)) hown (mvT hZ (hw _ (List.mem_of_getElem? (i := 22) rfl))) (mvT hZ (hw _ (List.mem_of_getElem? (i := 23) rfl))) (mvT hZ (hw _ (List.mem_of_getElem? (i := 24) rfl))) (mvT hZ (hw _ (List.mem_of_getElem? (i := 25) rfl))) (by decide) (backOfS (W := 0) (rmIsId l Z a0 hw [] a515 64 (FL ca cb cc cd) cz sf T519.heap n0 hz523 f522 SCS hcz SSF hsf SAD SHI SLO Ex519 Os519 (by decide) (hchL _)) hZ (hw _ (List.mem_of_getElem? (i := 25) rfl)) (hw _ (List.mem_of_getElem? (i := 24) rfl)) (by decide) (by decide)) (g := (mkF m 674 #[.val (.int i0), .val (.int i1), .val (.int i2), .val (.int i3), .val (.int i4), .val (.int ca), .val (.int cb), .val (.int cc), .val (.int cd), .val (.int mm), .val (.ref a191), .val (.int (0 : Int32))] [(.ref a515)])) rfl (by rw [hml]; rfl) (argsL := [(.ref a515)]) (rest := []) (lenOf pd_18 rfl) rfl (by show 2 * 0 + _ ≤ _; exact Nat.le_of_eq rfl) (hb hby at_674) (fun _ _ => ⟨rfl, rfl, (by decide : 4 + 2 ≤ _), (by decide : 263 + 20 ≤ _)⟩)
      dsimp only [Pt.U, Pt.locs, Pt.cells, Pt.slots] at X523 l523 y523 z523 st523 hQ523 hS2 hg2
      subst l523 y523 z523
      obtain ⟨X523, hS, hZ, hown⟩ := rebS hS (n1 := T519.heap.size) (by omega) X523 hS2 hg2 hZ hown
      have hk : T523.heap.size ≤ T523.heap.size := Nat.le_refl _
      obtain ⟨r523, rfl, N523q, K523, pq523⟩ := hQ523
      have N523 := Fr.app N519 N523q
      have z524 : T519.heap.size ≤ T523.heap.size := K523.1
      refine oSt st523 ?_
      show oGl p e below (T523.setTop (mkF m 677 #[.val (.int i0), .val (.int i1), .val (.int i2), .val (.int i3), .val (.int i4), .val (.int ca), .val (.int cb), .val (.int cc), .val (.int cd), .val (.int mm), .val (.ref a191), .val (.int (0 : Int32))] [(.int r523)])) _
      refine siload X523 hx (hb hby at_677) rfl rfl (pc' := 679) ?_
      have hfin : r523 = (0 : Int32) := own_id0 pq523 (fun q => absurd (q.2 2 (by decide)) ((pq514.resolve_left (fun q => absurd (hc631.symm.trans q.1) (by decide))).2))
      refine sicN X523 hx (hb hby at_679) rfl (teq (hfin : r523 = (0 : Int32))).2 (pc' := 682) ?_
      refine siconst X523 hx (hb hby at_682) rfl rfl (z := 1) (pc' := 683) ?_
      refine sgoto X523 hx (hb hby at_683) (by decide) (by decide)  (pc' := 687) ?_
      refine oRetNV (t := .boolean) X523 hS (by omega) hx Bd.notSynchronized Bd.returns (by simp) (hb hby at_687) (by decide) (by decide) ?_
      show Q_rmL Z i0 i1 i2 i3 i4 cz sf h0 n0 _ T523.heap _ _
      exact ⟨rfl, N523⟩
    · skip
      refine sifN X514 hx (hb hby at_631) rfl (feq hc631).1 (pc' := 634) ?_
      refine siload X514 hx (hb hby at_634) rfl rfl (pc' := 636) ?_
      have hz525 : n0 ≤ h509.size := by omega
      obtain ⟨_, _, ⟨T525, L525, k525, n525⟩, -, X525, ⟨Lc525, hQ525, l525, y525, z525⟩, st525⟩ := Jvm.LawKit.callS X514 hx (y := (⟨"com/example/concordat/concordat/core/LimitsIsIdPinLaw", "ok", "(C)Z"⟩ : MethodName)) hown (mvT hZ (hw _ (List.mem_of_getElem? (i := 57) rfl))) (mvT hZ (hw _ (List.mem_of_getElem? (i := 58) rfl))) (mvT hZ (hw _ (List.mem_of_getElem? (i := 59) rfl))) (mvT hZ (hw _ (List.mem_of_getElem? (i := 60) rfl))) (by decide) (backOf (W := 0) (rmOk l Z a0 hw [] cb h509 n0 hz525 ) hZ (hw _ (List.mem_of_getElem? (i := 60) rfl)) (hw _ (List.mem_of_getElem? (i := 59) rfl)) (by decide) (by decide)) (g := (mkF m 636 #[.val (.int i0), .val (.int i1), .val (.int i2), .val (.int i3), .val (.int i4), .val (.int ca), .val (.int cb), .val (.int cc), .val (.int cd), .val (.int mm), .val (.ref a191), .unset] [(.int cb)])) rfl (by rw [hml]; rfl) (argsL := [(.int cb)]) (rest := []) (lenOf pd_19 rfl) rfl (by show 2 * 0 + _ ≤ _; exact Nat.le_of_eq rfl) (hb hby at_636) (fun _ _ => ⟨rfl, eh514, (by decide : 1 + 0 ≤ _), (by decide : 64 + 0 ≤ _)⟩)
      dsimp only [Pt.U, Pt.locs, Pt.cells, Pt.slots] at X525 l525 y525 z525 st525 hQ525
      subst l525 y525 z525
      obtain ⟨r525, rfl, N525q, eh525, pq525⟩ := hQ525
      have N525 := Fr.app N514 N525q
      refine oOn st525 ?_
      show oGl p e below (T525.setTop (mkF m 639 #[.val (.int i0), .val (.int i1), .val (.int i2), .val (.int i3), .val (.int i4), .val (.int ca), .val (.int cb), .val (.int cc), .val (.int cd), .val (.int mm), .val (.ref a191), .unset] [(.int r525)])) _
      by_cases hc639 : r525 = (0 : Int32)
      · skip
        refine sifY X525 hx (hb hby at_639) (by decide) (by decide) (teq hc639).1 (pc' := 662) ?_
        refine siconst X525 hx (hb hby at_662) rfl rfl (z := 0) (pc' := 663) ?_
        refine sistore X525 hx (hb hby at_663) rfl rfl (l' := #[.val (.int i0), .val (.int i1), .val (.int i2), .val (.int i3), .val (.int i4), .val (.int ca), .val (.int cb), .val (.int cc), .val (.int cd), .val (.int mm), .val (.ref a191), .val (.int (0 : Int32))]) (pc' := 665) ?_
        obtain ⟨T526, h526, X526, e526, E526, A526, D526, -, st526⟩ := newO X525 hx hZ hown (hw _ (List.mem_of_getElem? (i := 1) rfl)) wiS (hw _ (List.mem_of_getElem? (i := 3) rfl)) eh525 (g := (mkF m 665 #[.val (.int i0), .val (.int i1), .val (.int i2), .val (.int i3), .val (.int i4), .val (.int ca), .val (.int cb), .val (.int cc), .val (.int cd), .val (.int mm), .val (.ref a191), .val (.int (0 : Int32))] [])) rfl (hb hby at_665) (by decide) (by decide)
        obtain ⟨a526, g526⟩ : ∃ z, z = h509.size := ⟨_, rfl⟩
        rw [← g526] at A526 D526 st526
        refine oOn st526 ?_
        have z527 : h509.size ≤ h526.size := E526.1
        have lt526 : a526 < h526.size := A526.lt
        have f526_16 : Fld Z h526 a526 "java/lang/String" "value" "[B" .null := D526 (Or.inr (hw _ (List.mem_of_getElem? (i := 16) rfl))) (ty := (.array .byte)) (by decide)
        have f526_17 : Fld Z h526 a526 "java/lang/String" "coder" "B" (.int (0 : Int32)) := D526 (Or.inr (hw _ (List.mem_of_getElem? (i := 17) rfl))) (ty := .byte) (by decide)
        show oGl p e below (T526.setTop (mkF m 668 #[.val (.int i0), .val (.int i1), .val (.int i2), .val (.int i3), .val (.int i4), .val (.int ca), .val (.int cb), .val (.int cc), .val (.int cd), .val (.int mm), .val (.ref a191), .val (.int (0 : Int32))] [(.ref a526)])) _
        refine sdup X526 hx (hb hby at_668) rfl rfl (pc' := 669) ?_
        refine saload X526 hx (hb hby at_669) rfl rfl rfl (pc' := 671) ?_
        have f528 := (Vq511.ext E526)
        have nxa : @Ne Nat a526 a191 := oNeO A526 wiS f528
        have Vm : oAI Z h526 a191 .char 64 (FL ca cb cc cd) := f528.congr (fun j hj => oPre_n hj)
        have f529 := (f512.ext E526)
        have hz530 : n0 ≤ h526.size := by omega
        have f531 := (f513.ext E526)
        obtain ⟨_, _, ⟨T530, L530, k530, n530⟩, -, X530, hS2, hg2, ⟨Lc530, hQ530, l530, y530, z530⟩, st530⟩ := X526.specialBackS hx (y := (⟨"java/lang/String", "<init>", "([C)V"⟩ : MethodName)) rfl hown (mvT hZ (hw _ (List.mem_of_getElem? (i := 4) rfl))) (mvT hZ (hw _ (List.mem_of_getElem? (i := 5) rfl))) (mvT hZ (hw _ (List.mem_of_getElem? (i := 6) rfl))) (by decide) (backOfV (J := fun vm => oEm Z vm h526) (W := 1) (rmStr l Z a0 hw [] a526 a191 64 (FL ca cb cc cd) cz sf h526 n0 hz530 Vm (by decide) (hchL _) nxa A526 f526_16 f526_17 (by omega) f529 SCS hcz SSF hsf SAD SHI SLO hcH hcw) hZ (hw _ (List.mem_of_getElem? (i := 6) rfl)) (hw _ (List.mem_of_getElem? (i := 3) rfl)) (by decide) (by decide)) (g := (mkF m 671 #[.val (.int i0), .val (.int i1), .val (.int i2), .val (.int i3), .val (.int i4), .val (.int ca), .val (.int cb), .val (.int cc), .val (.int cd), .val (.int mm), .val (.ref a191), .val (.int (0 : Int32))] [(.ref a191), (.ref a526), (.ref a526)])) rfl (by rw [hml]; rfl) (Steps.refl _) (a := a526) (argsL := [(.ref a191)]) (rest := [(.ref a526)]) (lenOf pd_17 rfl) rfl (by show 2 * 0 + _ ≤ _; exact Nat.le_of_eq rfl) (hb hby at_671) (fun _ hWw => ⟨rfl, e526, (by decide : 2 + 2 ≤ _), (by decide : 68 + 195 ≤ _), f531.warm hWw⟩)
        dsimp only [Pt.U, Pt.locs, Pt.cells, Pt.slots] at X530 l530 y530 z530 st530 hQ530 hS2 hg2
        subst l530 y530 z530
        obtain ⟨X530, hS, hZ, hown⟩ := rebS hS (n1 := T526.heap.size) (by rw [e526]; omega) X530 hS2 hg2 hZ hown
        have hk : T530.heap.size ≤ T530.heap.size := Nat.le_refl _
        obtain ⟨rfl, N530q, K530, Ex530, Os530, -⟩ := hQ530
        have N530 := Fr.app N525 N530q
        have z532 : h526.size ≤ T530.heap.size := K530.1
        refine oSt st530 ?_
        show oGl p e below (T530.setTop (mkF m 674 #[.val (.int i0), .val (.int i1), .val (.int i2), .val (.int i3), .val (.int i4), .val (.int ca), .val (.int cb), .val (.int cc), .val (.int cd), .val (.int mm), .val (.ref a191), .val (.int (0 : Int32))] [(.ref a526)])) _
        have f533 := (f529.keep K530 (allS (by omega) all0))
        have hz534 : n0 ≤ T530.heap.size := by omega
        obtain ⟨_, _, ⟨T534, L534, k534, n534⟩, -, X534, hS2, hg2, ⟨Lc534, hQ534, l534, y534, z534⟩, st534⟩ := callSS X530 hx (y := (⟨"com/example/concordat/concordat/core/Limits", "isId", "(Ljava/lang/String;)Z"⟩ : MethodName)) hown (mvT hZ (hw _ (List.mem_of_getElem? (i := 22) rfl))) (mvT hZ (hw _ (List.mem_of_getElem? (i := 23) rfl))) (mvT hZ (hw _ (List.mem_of_getElem? (i := 24) rfl))) (mvT hZ (hw _ (List.mem_of_getElem? (i := 25) rfl))) (by decide) (backOfS (W := 0) (rmIsId l Z a0 hw [] a526 64 (FL ca cb cc cd) cz sf T530.heap n0 hz534 f533 SCS hcz SSF hsf SAD SHI SLO Ex530 Os530 (by decide) (hchL _)) hZ (hw _ (List.mem_of_getElem? (i := 25) rfl)) (hw _ (List.mem_of_getElem? (i := 24) rfl)) (by decide) (by decide)) (g := (mkF m 674 #[.val (.int i0), .val (.int i1), .val (.int i2), .val (.int i3), .val (.int i4), .val (.int ca), .val (.int cb), .val (.int cc), .val (.int cd), .val (.int mm), .val (.ref a191), .val (.int (0 : Int32))] [(.ref a526)])) rfl (by rw [hml]; rfl) (argsL := [(.ref a526)]) (rest := []) (lenOf pd_18 rfl) rfl (by show 2 * 0 + _ ≤ _; exact Nat.le_of_eq rfl) (hb hby at_674) (fun _ _ => ⟨rfl, rfl, (by decide : 4 + 2 ≤ _), (by decide : 263 + 20 ≤ _)⟩)
        dsimp only [Pt.U, Pt.locs, Pt.cells, Pt.slots] at X534 l534 y534 z534 st534 hQ534 hS2 hg2
        subst l534 y534 z534
        obtain ⟨X534, hS, hZ, hown⟩ := rebS hS (n1 := T530.heap.size) (by omega) X534 hS2 hg2 hZ hown
        have hk : T534.heap.size ≤ T534.heap.size := Nat.le_refl _
        obtain ⟨r534, rfl, N534q, K534, pq534⟩ := hQ534
        have N534 := Fr.app N530 N534q
        have z535 : T530.heap.size ≤ T534.heap.size := K534.1
        refine oSt st534 ?_
        show oGl p e below (T534.setTop (mkF m 677 #[.val (.int i0), .val (.int i1), .val (.int i2), .val (.int i3), .val (.int i4), .val (.int ca), .val (.int cb), .val (.int cc), .val (.int cd), .val (.int mm), .val (.ref a191), .val (.int (0 : Int32))] [(.int r534)])) _
        refine siload X534 hx (hb hby at_677) rfl rfl (pc' := 679) ?_
        have hfin : r534 = (0 : Int32) := own_id0 pq534 (fun q => absurd (q.2 1 (by decide)) ((pq525.resolve_left (fun q => absurd (hc639.symm.trans q.1) (by decide))).2))
        refine sicN X534 hx (hb hby at_679) rfl (teq (hfin : r534 = (0 : Int32))).2 (pc' := 682) ?_
        refine siconst X534 hx (hb hby at_682) rfl rfl (z := 1) (pc' := 683) ?_
        refine sgoto X534 hx (hb hby at_683) (by decide) (by decide)  (pc' := 687) ?_
        refine oRetNV (t := .boolean) X534 hS (by omega) hx Bd.notSynchronized Bd.returns (by simp) (hb hby at_687) (by decide) (by decide) ?_
        show Q_rmL Z i0 i1 i2 i3 i4 cz sf h0 n0 _ T534.heap _ _
        exact ⟨rfl, N534⟩
      · skip
        refine sifN X525 hx (hb hby at_639) rfl (feq hc639).1 (pc' := 642) ?_
        refine siload X525 hx (hb hby at_642) rfl rfl (pc' := 644) ?_
        have hz536 : n0 ≤ h509.size := by omega
        obtain ⟨_, _, ⟨T536, L536, k536, n536⟩, -, X536, ⟨Lc536, hQ536, l536, y536, z536⟩, st536⟩ := Jvm.LawKit.callS X525 hx (y := (⟨"com/example/concordat/concordat/core/LimitsIsIdPinLaw", "ok", "(C)Z"⟩ : MethodName)) hown (mvT hZ (hw _ (List.mem_of_getElem? (i := 57) rfl))) (mvT hZ (hw _ (List.mem_of_getElem? (i := 58) rfl))) (mvT hZ (hw _ (List.mem_of_getElem? (i := 59) rfl))) (mvT hZ (hw _ (List.mem_of_getElem? (i := 60) rfl))) (by decide) (backOf (W := 0) (rmOk l Z a0 hw [] cc h509 n0 hz536 ) hZ (hw _ (List.mem_of_getElem? (i := 60) rfl)) (hw _ (List.mem_of_getElem? (i := 59) rfl)) (by decide) (by decide)) (g := (mkF m 644 #[.val (.int i0), .val (.int i1), .val (.int i2), .val (.int i3), .val (.int i4), .val (.int ca), .val (.int cb), .val (.int cc), .val (.int cd), .val (.int mm), .val (.ref a191), .unset] [(.int cc)])) rfl (by rw [hml]; rfl) (argsL := [(.int cc)]) (rest := []) (lenOf pd_19 rfl) rfl (by show 2 * 0 + _ ≤ _; exact Nat.le_of_eq rfl) (hb hby at_644) (fun _ _ => ⟨rfl, eh525, (by decide : 1 + 0 ≤ _), (by decide : 64 + 0 ≤ _)⟩)
        dsimp only [Pt.U, Pt.locs, Pt.cells, Pt.slots] at X536 l536 y536 z536 st536 hQ536
        subst l536 y536 z536
        obtain ⟨r536, rfl, N536q, eh536, pq536⟩ := hQ536
        have N536 := Fr.app N525 N536q
        refine oOn st536 ?_
        show oGl p e below (T536.setTop (mkF m 647 #[.val (.int i0), .val (.int i1), .val (.int i2), .val (.int i3), .val (.int i4), .val (.int ca), .val (.int cb), .val (.int cc), .val (.int cd), .val (.int mm), .val (.ref a191), .unset] [(.int r536)])) _
        by_cases hc647 : r536 = (0 : Int32)
        · skip
          refine sifY X536 hx (hb hby at_647) (by decide) (by decide) (teq hc647).1 (pc' := 662) ?_
          refine siconst X536 hx (hb hby at_662) rfl rfl (z := 0) (pc' := 663) ?_
          refine sistore X536 hx (hb hby at_663) rfl rfl (l' := #[.val (.int i0), .val (.int i1), .val (.int i2), .val (.int i3), .val (.int i4), .val (.int ca), .val (.int cb), .val (.int cc), .val (.int cd), .val (.int mm), .val (.ref a191), .val (.int (0 : Int32))]) (pc' := 665) ?_
          obtain ⟨T537, h537, X537, e537, E537, A537, D537, -, st537⟩ := newO X536 hx hZ hown (hw _ (List.mem_of_getElem? (i := 1) rfl)) wiS (hw _ (List.mem_of_getElem? (i := 3) rfl)) eh536 (g := (mkF m 665 #[.val (.int i0), .val (.int i1), .val (.int i2), .val (.int i3), .val (.int i4), .val (.int ca), .val (.int cb), .val (.int cc), .val (.int cd), .val (.int mm), .val (.ref a191), .val (.int (0 : Int32))] [])) rfl (hb hby at_665) (by decide) (by decide)
          obtain ⟨a537, g537⟩ : ∃ z, z = h509.size := ⟨_, rfl⟩
          rw [← g537] at A537 D537 st537
          refine oOn st537 ?_
          have z538 : h509.size ≤ h537.size := E537.1
          have lt537 : a537 < h537.size := A537.lt
          have f537_16 : Fld Z h537 a537 "java/lang/String" "value" "[B" .null := D537 (Or.inr (hw _ (List.mem_of_getElem? (i := 16) rfl))) (ty := (.array .byte)) (by decide)
          have f537_17 : Fld Z h537 a537 "java/lang/String" "coder" "B" (.int (0 : Int32)) := D537 (Or.inr (hw _ (List.mem_of_getElem? (i := 17) rfl))) (ty := .byte) (by decide)
          show oGl p e below (T537.setTop (mkF m 668 #[.val (.int i0), .val (.int i1), .val (.int i2), .val (.int i3), .val (.int i4), .val (.int ca), .val (.int cb), .val (.int cc), .val (.int cd), .val (.int mm), .val (.ref a191), .val (.int (0 : Int32))] [(.ref a537)])) _
          refine sdup X537 hx (hb hby at_668) rfl rfl (pc' := 669) ?_
          refine saload X537 hx (hb hby at_669) rfl rfl rfl (pc' := 671) ?_
          have f539 := (Vq511.ext E537)
          have nxa : @Ne Nat a537 a191 := oNeO A537 wiS f539
          have Vm : oAI Z h537 a191 .char 64 (FL ca cb cc cd) := f539.congr (fun j hj => oPre_n hj)
          have f540 := (f512.ext E537)
          have hz541 : n0 ≤ h537.size := by omega
          have f542 := (f513.ext E537)
          obtain ⟨_, _, ⟨T541, L541, k541, n541⟩, -, X541, hS2, hg2, ⟨Lc541, hQ541, l541, y541, z541⟩, st541⟩ := X537.specialBackS hx (y := (⟨"java/lang/String", "<init>", "([C)V"⟩ : MethodName)) rfl hown (mvT hZ (hw _ (List.mem_of_getElem? (i := 4) rfl))) (mvT hZ (hw _ (List.mem_of_getElem? (i := 5) rfl))) (mvT hZ (hw _ (List.mem_of_getElem? (i := 6) rfl))) (by decide) (backOfV (J := fun vm => oEm Z vm h537) (W := 1) (rmStr l Z a0 hw [] a537 a191 64 (FL ca cb cc cd) cz sf h537 n0 hz541 Vm (by decide) (hchL _) nxa A537 f537_16 f537_17 (by omega) f540 SCS hcz SSF hsf SAD SHI SLO hcH hcw) hZ (hw _ (List.mem_of_getElem? (i := 6) rfl)) (hw _ (List.mem_of_getElem? (i := 3) rfl)) (by decide) (by decide)) (g := (mkF m 671 #[.val (.int i0), .val (.int i1), .val (.int i2), .val (.int i3), .val (.int i4), .val (.int ca), .val (.int cb), .val (.int cc), .val (.int cd), .val (.int mm), .val (.ref a191), .val (.int (0 : Int32))] [(.ref a191), (.ref a537), (.ref a537)])) rfl (by rw [hml]; rfl) (Steps.refl _) (a := a537) (argsL := [(.ref a191)]) (rest := [(.ref a537)]) (lenOf pd_17 rfl) rfl (by show 2 * 0 + _ ≤ _; exact Nat.le_of_eq rfl) (hb hby at_671) (fun _ hWw => ⟨rfl, e537, (by decide : 2 + 2 ≤ _), (by decide : 68 + 195 ≤ _), f542.warm hWw⟩)
          dsimp only [Pt.U, Pt.locs, Pt.cells, Pt.slots] at X541 l541 y541 z541 st541 hQ541 hS2 hg2
          subst l541 y541 z541
          obtain ⟨X541, hS, hZ, hown⟩ := rebS hS (n1 := T537.heap.size) (by rw [e537]; omega) X541 hS2 hg2 hZ hown
          have hk : T541.heap.size ≤ T541.heap.size := Nat.le_refl _
          obtain ⟨rfl, N541q, K541, Ex541, Os541, -⟩ := hQ541
          have N541 := Fr.app N536 N541q
          have z543 : h537.size ≤ T541.heap.size := K541.1
          refine oSt st541 ?_
          show oGl p e below (T541.setTop (mkF m 674 #[.val (.int i0), .val (.int i1), .val (.int i2), .val (.int i3), .val (.int i4), .val (.int ca), .val (.int cb), .val (.int cc), .val (.int cd), .val (.int mm), .val (.ref a191), .val (.int (0 : Int32))] [(.ref a537)])) _
          have f544 := (f540.keep K541 (allS (by omega) all0))
          have hz545 : n0 ≤ T541.heap.size := by omega
          obtain ⟨_, _, ⟨T545, L545, k545, n545⟩, -, X545, hS2, hg2, ⟨Lc545, hQ545, l545, y545, z545⟩, st545⟩ := callSS X541 hx (y := (⟨"com/example/concordat/concordat/core/Limits", "isId", "(Ljava/lang/String;)Z"⟩ : MethodName)) hown (mvT hZ (hw _ (List.mem_of_getElem? (i := 22) rfl))) (mvT hZ (hw _ (List.mem_of_getElem? (i := 23) rfl))) (mvT hZ (hw _ (List.mem_of_getElem? (i := 24) rfl))) (mvT hZ (hw _ (List.mem_of_getElem? (i := 25) rfl))) (by decide) (backOfS (W := 0) (rmIsId l Z a0 hw [] a537 64 (FL ca cb cc cd) cz sf T541.heap n0 hz545 f544 SCS hcz SSF hsf SAD SHI SLO Ex541 Os541 (by decide) (hchL _)) hZ (hw _ (List.mem_of_getElem? (i := 25) rfl)) (hw _ (List.mem_of_getElem? (i := 24) rfl)) (by decide) (by decide)) (g := (mkF m 674 #[.val (.int i0), .val (.int i1), .val (.int i2), .val (.int i3), .val (.int i4), .val (.int ca), .val (.int cb), .val (.int cc), .val (.int cd), .val (.int mm), .val (.ref a191), .val (.int (0 : Int32))] [(.ref a537)])) rfl (by rw [hml]; rfl) (argsL := [(.ref a537)]) (rest := []) (lenOf pd_18 rfl) rfl (by show 2 * 0 + _ ≤ _; exact Nat.le_of_eq rfl) (hb hby at_674) (fun _ _ => ⟨rfl, rfl, (by decide : 4 + 2 ≤ _), (by decide : 263 + 20 ≤ _)⟩)
          dsimp only [Pt.U, Pt.locs, Pt.cells, Pt.slots] at X545 l545 y545 z545 st545 hQ545 hS2 hg2
          subst l545 y545 z545
          obtain ⟨X545, hS, hZ, hown⟩ := rebS hS (n1 := T541.heap.size) (by omega) X545 hS2 hg2 hZ hown
          have hk : T545.heap.size ≤ T545.heap.size := Nat.le_refl _
          obtain ⟨r545, rfl, N545q, K545, pq545⟩ := hQ545
          have N545 := Fr.app N541 N545q
          have z546 : T541.heap.size ≤ T545.heap.size := K545.1
          refine oSt st545 ?_
          show oGl p e below (T545.setTop (mkF m 677 #[.val (.int i0), .val (.int i1), .val (.int i2), .val (.int i3), .val (.int i4), .val (.int ca), .val (.int cb), .val (.int cc), .val (.int cd), .val (.int mm), .val (.ref a191), .val (.int (0 : Int32))] [(.int r545)])) _
          refine siload X545 hx (hb hby at_677) rfl rfl (pc' := 679) ?_
          have hfin : r545 = (0 : Int32) := own_id0 pq545 (fun q => absurd (q.2 63 (by decide)) ((pq536.resolve_left (fun q => absurd (hc647.symm.trans q.1) (by decide))).2))
          refine sicN X545 hx (hb hby at_679) rfl (teq (hfin : r545 = (0 : Int32))).2 (pc' := 682) ?_
          refine siconst X545 hx (hb hby at_682) rfl rfl (z := 1) (pc' := 683) ?_
          refine sgoto X545 hx (hb hby at_683) (by decide) (by decide)  (pc' := 687) ?_
          refine oRetNV (t := .boolean) X545 hS (by omega) hx Bd.notSynchronized Bd.returns (by simp) (hb hby at_687) (by decide) (by decide) ?_
          show Q_rmL Z i0 i1 i2 i3 i4 cz sf h0 n0 _ T545.heap _ _
          exact ⟨rfl, N545⟩
        · skip
          refine sifN X536 hx (hb hby at_647) rfl (feq hc647).1 (pc' := 650) ?_
          refine siload X536 hx (hb hby at_650) rfl rfl (pc' := 652) ?_
          have hz547 : n0 ≤ h509.size := by omega
          obtain ⟨_, _, ⟨T547, L547, k547, n547⟩, -, X547, ⟨Lc547, hQ547, l547, y547, z547⟩, st547⟩ := Jvm.LawKit.callS X536 hx (y := (⟨"com/example/concordat/concordat/core/LimitsIsIdPinLaw", "ok", "(C)Z"⟩ : MethodName)) hown (mvT hZ (hw _ (List.mem_of_getElem? (i := 57) rfl))) (mvT hZ (hw _ (List.mem_of_getElem? (i := 58) rfl))) (mvT hZ (hw _ (List.mem_of_getElem? (i := 59) rfl))) (mvT hZ (hw _ (List.mem_of_getElem? (i := 60) rfl))) (by decide) (backOf (W := 0) (rmOk l Z a0 hw [] cd h509 n0 hz547 ) hZ (hw _ (List.mem_of_getElem? (i := 60) rfl)) (hw _ (List.mem_of_getElem? (i := 59) rfl)) (by decide) (by decide)) (g := (mkF m 652 #[.val (.int i0), .val (.int i1), .val (.int i2), .val (.int i3), .val (.int i4), .val (.int ca), .val (.int cb), .val (.int cc), .val (.int cd), .val (.int mm), .val (.ref a191), .unset] [(.int cd)])) rfl (by rw [hml]; rfl) (argsL := [(.int cd)]) (rest := []) (lenOf pd_19 rfl) rfl (by show 2 * 0 + _ ≤ _; exact Nat.le_of_eq rfl) (hb hby at_652) (fun _ _ => ⟨rfl, eh536, (by decide : 1 + 0 ≤ _), (by decide : 64 + 0 ≤ _)⟩)
          dsimp only [Pt.U, Pt.locs, Pt.cells, Pt.slots] at X547 l547 y547 z547 st547 hQ547
          subst l547 y547 z547
          obtain ⟨r547, rfl, N547q, eh547, pq547⟩ := hQ547
          have N547 := Fr.app N536 N547q
          refine oOn st547 ?_
          show oGl p e below (T547.setTop (mkF m 655 #[.val (.int i0), .val (.int i1), .val (.int i2), .val (.int i3), .val (.int i4), .val (.int ca), .val (.int cb), .val (.int cc), .val (.int cd), .val (.int mm), .val (.ref a191), .unset] [(.int r547)])) _
          by_cases hc655 : r547 = (0 : Int32)
          · skip
            refine sifY X547 hx (hb hby at_655) (by decide) (by decide) (teq hc655).1 (pc' := 662) ?_
            refine siconst X547 hx (hb hby at_662) rfl rfl (z := 0) (pc' := 663) ?_
            refine sistore X547 hx (hb hby at_663) rfl rfl (l' := #[.val (.int i0), .val (.int i1), .val (.int i2), .val (.int i3), .val (.int i4), .val (.int ca), .val (.int cb), .val (.int cc), .val (.int cd), .val (.int mm), .val (.ref a191), .val (.int (0 : Int32))]) (pc' := 665) ?_
            obtain ⟨T548, h548, X548, e548, E548, A548, D548, -, st548⟩ := newO X547 hx hZ hown (hw _ (List.mem_of_getElem? (i := 1) rfl)) wiS (hw _ (List.mem_of_getElem? (i := 3) rfl)) eh547 (g := (mkF m 665 #[.val (.int i0), .val (.int i1), .val (.int i2), .val (.int i3), .val (.int i4), .val (.int ca), .val (.int cb), .val (.int cc), .val (.int cd), .val (.int mm), .val (.ref a191), .val (.int (0 : Int32))] [])) rfl (hb hby at_665) (by decide) (by decide)
            obtain ⟨a548, g548⟩ : ∃ z, z = h509.size := ⟨_, rfl⟩
            rw [← g548] at A548 D548 st548
            refine oOn st548 ?_
            have z549 : h509.size ≤ h548.size := E548.1
            have lt548 : a548 < h548.size := A548.lt
            have f548_16 : Fld Z h548 a548 "java/lang/String" "value" "[B" .null := D548 (Or.inr (hw _ (List.mem_of_getElem? (i := 16) rfl))) (ty := (.array .byte)) (by decide)
            have f548_17 : Fld Z h548 a548 "java/lang/String" "coder" "B" (.int (0 : Int32)) := D548 (Or.inr (hw _ (List.mem_of_getElem? (i := 17) rfl))) (ty := .byte) (by decide)
            show oGl p e below (T548.setTop (mkF m 668 #[.val (.int i0), .val (.int i1), .val (.int i2), .val (.int i3), .val (.int i4), .val (.int ca), .val (.int cb), .val (.int cc), .val (.int cd), .val (.int mm), .val (.ref a191), .val (.int (0 : Int32))] [(.ref a548)])) _
            refine sdup X548 hx (hb hby at_668) rfl rfl (pc' := 669) ?_
            refine saload X548 hx (hb hby at_669) rfl rfl rfl (pc' := 671) ?_
            have f550 := (Vq511.ext E548)
            have nxa : @Ne Nat a548 a191 := oNeO A548 wiS f550
            have Vm : oAI Z h548 a191 .char 64 (FL ca cb cc cd) := f550.congr (fun j hj => oPre_n hj)
            have f551 := (f512.ext E548)
            have hz552 : n0 ≤ h548.size := by omega
            have f553 := (f513.ext E548)
            obtain ⟨_, _, ⟨T552, L552, k552, n552⟩, -, X552, hS2, hg2, ⟨Lc552, hQ552, l552, y552, z552⟩, st552⟩ := X548.specialBackS hx (y := (⟨"java/lang/String", "<init>", "([C)V"⟩ : MethodName)) rfl hown (mvT hZ (hw _ (List.mem_of_getElem? (i := 4) rfl))) (mvT hZ (hw _ (List.mem_of_getElem? (i := 5) rfl))) (mvT hZ (hw _ (List.mem_of_getElem? (i := 6) rfl))) (by decide) (backOfV (J := fun vm => oEm Z vm h548) (W := 1) (rmStr l Z a0 hw [] a548 a191 64 (FL ca cb cc cd) cz sf h548 n0 hz552 Vm (by decide) (hchL _) nxa A548 f548_16 f548_17 (by omega) f551 SCS hcz SSF hsf SAD SHI SLO hcH hcw) hZ (hw _ (List.mem_of_getElem? (i := 6) rfl)) (hw _ (List.mem_of_getElem? (i := 3) rfl)) (by decide) (by decide)) (g := (mkF m 671 #[.val (.int i0), .val (.int i1), .val (.int i2), .val (.int i3), .val (.int i4), .val (.int ca), .val (.int cb), .val (.int cc), .val (.int cd), .val (.int mm), .val (.ref a191), .val (.int (0 : Int32))] [(.ref a191), (.ref a548), (.ref a548)])) rfl (by rw [hml]; rfl) (Steps.refl _) (a := a548) (argsL := [(.ref a191)]) (rest := [(.ref a548)]) (lenOf pd_17 rfl) rfl (by show 2 * 0 + _ ≤ _; exact Nat.le_of_eq rfl) (hb hby at_671) (fun _ hWw => ⟨rfl, e548, (by decide : 2 + 2 ≤ _), (by decide : 68 + 195 ≤ _), f553.warm hWw⟩)
            dsimp only [Pt.U, Pt.locs, Pt.cells, Pt.slots] at X552 l552 y552 z552 st552 hQ552 hS2 hg2
            subst l552 y552 z552
            obtain ⟨X552, hS, hZ, hown⟩ := rebS hS (n1 := T548.heap.size) (by rw [e548]; omega) X552 hS2 hg2 hZ hown
            have hk : T552.heap.size ≤ T552.heap.size := Nat.le_refl _
            obtain ⟨rfl, N552q, K552, Ex552, Os552, -⟩ := hQ552
            have N552 := Fr.app N547 N552q
            have z554 : h548.size ≤ T552.heap.size := K552.1
            refine oSt st552 ?_
            show oGl p e below (T552.setTop (mkF m 674 #[.val (.int i0), .val (.int i1), .val (.int i2), .val (.int i3), .val (.int i4), .val (.int ca), .val (.int cb), .val (.int cc), .val (.int cd), .val (.int mm), .val (.ref a191), .val (.int (0 : Int32))] [(.ref a548)])) _
            have f555 := (f551.keep K552 (allS (by omega) all0))
            have hz556 : n0 ≤ T552.heap.size := by omega
            obtain ⟨_, _, ⟨T556, L556, k556, n556⟩, -, X556, hS2, hg2, ⟨Lc556, hQ556, l556, y556, z556⟩, st556⟩ := callSS X552 hx (y := (⟨"com/example/concordat/concordat/core/Limits", "isId", "(Ljava/lang/String;)Z"⟩ : MethodName)) hown (mvT hZ (hw _ (List.mem_of_getElem? (i := 22) rfl))) (mvT hZ (hw _ (List.mem_of_getElem? (i := 23) rfl))) (mvT hZ (hw _ (List.mem_of_getElem? (i := 24) rfl))) (mvT hZ (hw _ (List.mem_of_getElem? (i := 25) rfl))) (by decide) (backOfS (W := 0) (rmIsId l Z a0 hw [] a548 64 (FL ca cb cc cd) cz sf T552.heap n0 hz556 f555 SCS hcz SSF hsf SAD SHI SLO Ex552 Os552 (by decide) (hchL _)) hZ (hw _ (List.mem_of_getElem? (i := 25) rfl)) (hw _ (List.mem_of_getElem? (i := 24) rfl)) (by decide) (by decide)) (g := (mkF m 674 #[.val (.int i0), .val (.int i1), .val (.int i2), .val (.int i3), .val (.int i4), .val (.int ca), .val (.int cb), .val (.int cc), .val (.int cd), .val (.int mm), .val (.ref a191), .val (.int (0 : Int32))] [(.ref a548)])) rfl (by rw [hml]; rfl) (argsL := [(.ref a548)]) (rest := []) (lenOf pd_18 rfl) rfl (by show 2 * 0 + _ ≤ _; exact Nat.le_of_eq rfl) (hb hby at_674) (fun _ _ => ⟨rfl, rfl, (by decide : 4 + 2 ≤ _), (by decide : 263 + 20 ≤ _)⟩)
            dsimp only [Pt.U, Pt.locs, Pt.cells, Pt.slots] at X556 l556 y556 z556 st556 hQ556 hS2 hg2
            subst l556 y556 z556
            obtain ⟨X556, hS, hZ, hown⟩ := rebS hS (n1 := T552.heap.size) (by omega) X556 hS2 hg2 hZ hown
            have hk : T556.heap.size ≤ T556.heap.size := Nat.le_refl _
            obtain ⟨r556, rfl, N556q, K556, pq556⟩ := hQ556
            have N556 := Fr.app N552 N556q
            have z557 : T552.heap.size ≤ T556.heap.size := K556.1
            refine oSt st556 ?_
            show oGl p e below (T556.setTop (mkF m 677 #[.val (.int i0), .val (.int i1), .val (.int i2), .val (.int i3), .val (.int i4), .val (.int ca), .val (.int cb), .val (.int cc), .val (.int cd), .val (.int mm), .val (.ref a191), .val (.int (0 : Int32))] [(.int r556)])) _
            refine siload X556 hx (hb hby at_677) rfl rfl (pc' := 679) ?_
            have hfin : r556 = (0 : Int32) := own_id0 pq556 (fun q => absurd (q.2 0 (by decide)) ((pq547.resolve_left (fun q => absurd (hc655.symm.trans q.1) (by decide))).2))
            refine sicN X556 hx (hb hby at_679) rfl (teq (hfin : r556 = (0 : Int32))).2 (pc' := 682) ?_
            refine siconst X556 hx (hb hby at_682) rfl rfl (z := 1) (pc' := 683) ?_
            refine sgoto X556 hx (hb hby at_683) (by decide) (by decide)  (pc' := 687) ?_
            refine oRetNV (t := .boolean) X556 hS (by omega) hx Bd.notSynchronized Bd.returns (by simp) (hb hby at_687) (by decide) (by decide) ?_
            show Q_rmL Z i0 i1 i2 i3 i4 cz sf h0 n0 _ T556.heap _ _
            exact ⟨rfl, N556⟩
          · skip
            refine sifN X547 hx (hb hby at_655) rfl (feq hc655).1 (pc' := 658) ?_
            refine siconst X547 hx (hb hby at_658) rfl rfl (z := 1) (pc' := 659) ?_
            refine sgoto X547 hx (hb hby at_659) (by decide) (by decide)  (pc' := 663) ?_
            refine sistore X547 hx (hb hby at_663) rfl rfl (l' := #[.val (.int i0), .val (.int i1), .val (.int i2), .val (.int i3), .val (.int i4), .val (.int ca), .val (.int cb), .val (.int cc), .val (.int cd), .val (.int mm), .val (.ref a191), .val (.int (1 : Int32))]) (pc' := 665) ?_
            obtain ⟨T558, h558, X558, e558, E558, A558, D558, -, st558⟩ := newO X547 hx hZ hown (hw _ (List.mem_of_getElem? (i := 1) rfl)) wiS (hw _ (List.mem_of_getElem? (i := 3) rfl)) eh547 (g := (mkF m 665 #[.val (.int i0), .val (.int i1), .val (.int i2), .val (.int i3), .val (.int i4), .val (.int ca), .val (.int cb), .val (.int cc), .val (.int cd), .val (.int mm), .val (.ref a191), .val (.int (1 : Int32))] [])) rfl (hb hby at_665) (by decide) (by decide)
            obtain ⟨a558, g558⟩ : ∃ z, z = h509.size := ⟨_, rfl⟩
            rw [← g558] at A558 D558 st558
            refine oOn st558 ?_
            have z559 : h509.size ≤ h558.size := E558.1
            have lt558 : a558 < h558.size := A558.lt
            have f558_16 : Fld Z h558 a558 "java/lang/String" "value" "[B" .null := D558 (Or.inr (hw _ (List.mem_of_getElem? (i := 16) rfl))) (ty := (.array .byte)) (by decide)
            have f558_17 : Fld Z h558 a558 "java/lang/String" "coder" "B" (.int (0 : Int32)) := D558 (Or.inr (hw _ (List.mem_of_getElem? (i := 17) rfl))) (ty := .byte) (by decide)
            show oGl p e below (T558.setTop (mkF m 668 #[.val (.int i0), .val (.int i1), .val (.int i2), .val (.int i3), .val (.int i4), .val (.int ca), .val (.int cb), .val (.int cc), .val (.int cd), .val (.int mm), .val (.ref a191), .val (.int (1 : Int32))] [(.ref a558)])) _
            refine sdup X558 hx (hb hby at_668) rfl rfl (pc' := 669) ?_
            refine saload X558 hx (hb hby at_669) rfl rfl rfl (pc' := 671) ?_
            have f560 := (Vq511.ext E558)
            have nxa : @Ne Nat a558 a191 := oNeO A558 wiS f560
            have Vm : oAI Z h558 a191 .char 64 (FL ca cb cc cd) := f560.congr (fun j hj => oPre_n hj)
            have f561 := (f512.ext E558)
            have hz562 : n0 ≤ h558.size := by omega
            have f563 := (f513.ext E558)
            obtain ⟨_, _, ⟨T562, L562, k562, n562⟩, -, X562, hS2, hg2, ⟨Lc562, hQ562, l562, y562, z562⟩, st562⟩ := X558.specialBackS hx (y := (⟨"java/lang/String", "<init>", "([C)V"⟩ : MethodName)) rfl hown (mvT hZ (hw _ (List.mem_of_getElem? (i := 4) rfl))) (mvT hZ (hw _ (List.mem_of_getElem? (i := 5) rfl))) (mvT hZ (hw _ (List.mem_of_getElem? (i := 6) rfl))) (by decide) (backOfV (J := fun vm => oEm Z vm h558) (W := 1) (rmStr l Z a0 hw [] a558 a191 64 (FL ca cb cc cd) cz sf h558 n0 hz562 Vm (by decide) (hchL _) nxa A558 f558_16 f558_17 (by omega) f561 SCS hcz SSF hsf SAD SHI SLO hcH hcw) hZ (hw _ (List.mem_of_getElem? (i := 6) rfl)) (hw _ (List.mem_of_getElem? (i := 3) rfl)) (by decide) (by decide)) (g := (mkF m 671 #[.val (.int i0), .val (.int i1), .val (.int i2), .val (.int i3), .val (.int i4), .val (.int ca), .val (.int cb), .val (.int cc), .val (.int cd), .val (.int mm), .val (.ref a191), .val (.int (1 : Int32))] [(.ref a191), (.ref a558), (.ref a558)])) rfl (by rw [hml]; rfl) (Steps.refl _) (a := a558) (argsL := [(.ref a191)]) (rest := [(.ref a558)]) (lenOf pd_17 rfl) rfl (by show 2 * 0 + _ ≤ _; exact Nat.le_of_eq rfl) (hb hby at_671) (fun _ hWw => ⟨rfl, e558, (by decide : 2 + 2 ≤ _), (by decide : 68 + 195 ≤ _), f563.warm hWw⟩)
            dsimp only [Pt.U, Pt.locs, Pt.cells, Pt.slots] at X562 l562 y562 z562 st562 hQ562 hS2 hg2
            subst l562 y562 z562
            obtain ⟨X562, hS, hZ, hown⟩ := rebS hS (n1 := T558.heap.size) (by rw [e558]; omega) X562 hS2 hg2 hZ hown
            have hk : T562.heap.size ≤ T562.heap.size := Nat.le_refl _
            obtain ⟨rfl, N562q, K562, Ex562, Os562, -⟩ := hQ562
            have N562 := Fr.app N547 N562q
            have z564 : h558.size ≤ T562.heap.size := K562.1
            refine oSt st562 ?_
            show oGl p e below (T562.setTop (mkF m 674 #[.val (.int i0), .val (.int i1), .val (.int i2), .val (.int i3), .val (.int i4), .val (.int ca), .val (.int cb), .val (.int cc), .val (.int cd), .val (.int mm), .val (.ref a191), .val (.int (1 : Int32))] [(.ref a558)])) _
            have f565 := (f561.keep K562 (allS (by omega) all0))
            have hz566 : n0 ≤ T562.heap.size := by omega
            obtain ⟨_, _, ⟨T566, L566, k566, n566⟩, -, X566, hS2, hg2, ⟨Lc566, hQ566, l566, y566, z566⟩, st566⟩ := callSS X562 hx (y := (⟨"com/example/concordat/concordat/core/Limits", "isId", "(Ljava/lang/String;)Z"⟩ : MethodName)) hown (mvT hZ (hw _ (List.mem_of_getElem? (i := 22) rfl))) (mvT hZ (hw _ (List.mem_of_getElem? (i := 23) rfl))) (mvT hZ (hw _ (List.mem_of_getElem? (i := 24) rfl))) (mvT hZ (hw _ (List.mem_of_getElem? (i := 25) rfl))) (by decide) (backOfS (W := 0) (rmIsId l Z a0 hw [] a558 64 (FL ca cb cc cd) cz sf T562.heap n0 hz566 f565 SCS hcz SSF hsf SAD SHI SLO Ex562 Os562 (by decide) (hchL _)) hZ (hw _ (List.mem_of_getElem? (i := 25) rfl)) (hw _ (List.mem_of_getElem? (i := 24) rfl)) (by decide) (by decide)) (g := (mkF m 674 #[.val (.int i0), .val (.int i1), .val (.int i2), .val (.int i3), .val (.int i4), .val (.int ca), .val (.int cb), .val (.int cc), .val (.int cd), .val (.int mm), .val (.ref a191), .val (.int (1 : Int32))] [(.ref a558)])) rfl (by rw [hml]; rfl) (argsL := [(.ref a558)]) (rest := []) (lenOf pd_18 rfl) rfl (by show 2 * 0 + _ ≤ _; exact Nat.le_of_eq rfl) (hb hby at_674) (fun _ _ => ⟨rfl, rfl, (by decide : 4 + 2 ≤ _), (by decide : 263 + 20 ≤ _)⟩)
            dsimp only [Pt.U, Pt.locs, Pt.cells, Pt.slots] at X566 l566 y566 z566 st566 hQ566 hS2 hg2
            subst l566 y566 z566
            obtain ⟨X566, hS, hZ, hown⟩ := rebS hS (n1 := T562.heap.size) (by omega) X566 hS2 hg2 hZ hown
            have hk : T566.heap.size ≤ T566.heap.size := Nat.le_refl _
            obtain ⟨r566, rfl, N566q, K566, pq566⟩ := hQ566
            have N566 := Fr.app N562 N566q
            have z567 : T562.heap.size ≤ T566.heap.size := K566.1
            refine oSt st566 ?_
            show oGl p e below (T566.setTop (mkF m 677 #[.val (.int i0), .val (.int i1), .val (.int i2), .val (.int i3), .val (.int i4), .val (.int ca), .val (.int cb), .val (.int cc), .val (.int cd), .val (.int mm), .val (.ref a191), .val (.int (1 : Int32))] [(.int r566)])) _
            refine siload X566 hx (hb hby at_677) rfl rfl (pc' := 679) ?_
            have hfin : r566 = (1 : Int32) := own_id1 pq566 ⟨by decide, fun j _ => allL (P := okc) ((pq514.resolve_right (fun q => hc631 q.1)).2) ((pq525.resolve_right (fun q => hc639 q.1)).2) ((pq536.resolve_right (fun q => hc647 q.1)).2) ((pq547.resolve_right (fun q => hc655 q.1)).2) j⟩
            refine sicN X566 hx (hb hby at_679) rfl (teq (hfin : r566 = (1 : Int32))).2 (pc' := 682) ?_
            refine siconst X566 hx (hb hby at_682) rfl rfl (z := 1) (pc' := 683) ?_
            refine sgoto X566 hx (hb hby at_683) (by decide) (by decide)  (pc' := 687) ?_
            refine oRetNV (t := .boolean) X566 hS (by omega) hx Bd.notSynchronized Bd.returns (by simp) (hb hby at_687) (by decide) (by decide) ?_
            show Q_rmL Z i0 i1 i2 i3 i4 cz sf h0 n0 _ T566.heap _ _
            exact ⟨rfl, N566⟩
  · skip
    show oGl p e below (s₁.setTop (mkF m 23 #[.val (.int i0), .val (.int i1), .val (.int i2), .val (.int i3), .val (.int i4), .val (.int ca), .val (.int cb), .val (.int cc), .val (.int cd), .val (.int (7 : Int32)), .unset, .unset] [])) _
    refine siload X0 hx (hb hby at_23) rfl rfl (pc' := 25) ?_
    refine siconst X0 hx (hb hby at_25) rfl rfl (z := 4) (pc' := 26) ?_
    refine sicY X0 hx (hb hby at_26) (by decide) (by decide) (tlt (by decide : (4 : Int32) < (7 : Int32))).2.2.1 (pc' := 225) ?_
    refine siload X0 hx (hb hby at_225) rfl rfl (pc' := 227) ?_
    refine sbipush X0 hx (hb hby at_227) rfl rfl (z := 6) (pc' := 229) ?_
    refine sicY X0 hx (hb hby at_229) (by decide) (by decide) (tlt (by decide : (6 : Int32) < (7 : Int32))).2.2.1 (pc' := 688) ?_
    refine sbipush X0 hx (hb hby at_688) rfl rfl (z := 65) (pc' := 690) ?_
    obtain ⟨T568, h568, k568, X568, e568, E568, A568, st568⟩ := newP X0 hx hZ (hw _ (List.mem_of_getElem? (i := 0) rfl)) e0 (g := (mkF m 690 #[.val (.int i0), .val (.int i1), .val (.int i2), .val (.int i3), .val (.int i4), .val (.int ca), .val (.int cb), .val (.int cc), .val (.int cd), .val (.int (7 : Int32)), .unset, .unset] [(.int (65 : Int32))])) rfl (hb hby at_690) rfl (by decide) (cap := 65) (by decide) (by decide) (by decide) (by decide)
    obtain ⟨a568, g568⟩ : ∃ z, z = h0.size := ⟨_, rfl⟩
    rw [← g568] at A568 st568
    refine oOn st568 ?_
    have z569 : h0.size ≤ h568.size := E568.1
    have lt568 : a568 < h568.size := A568.lt
    have V568 : oAI Z h568 a568 .char 65 (fun _ => 0) := oAI.new A568 rfl
    show oGl p e below (T568.setTop (mkF m 692 #[.val (.int i0), .val (.int i1), .val (.int i2), .val (.int i3), .val (.int i4), .val (.int ca), .val (.int cb), .val (.int cc), .val (.int cd), .val (.int (7 : Int32)), .unset, .unset] [(.ref a568)])) _
    have gna : n0 ≤ a568 := by omega
    have Vq570 : oAI Z h568 a568 .char 65 (oPre (FL ca cb cc cd) 0) := V568.congr (fun j _ => oPre_0 j)
    refine sdup X568 hx (hb hby at_692) rfl rfl (pc' := 693) ?_
    refine siconst X568 hx (hb hby at_693) rfl rfl (z := 0) (pc' := 694) ?_
    refine siload X568 hx (hb hby at_694) rfl rfl (pc' := 696) ?_
    obtain ⟨T571, h571, X571, e571, W571, V571, st571⟩ := Vq570.stC X568 hx hZ e568 (j := (0 : Int32)) (by decide) (g := (mkF m 696 #[.val (.int i0), .val (.int i1), .val (.int i2), .val (.int i3), .val (.int i4), .val (.int ca), .val (.int cb), .val (.int cc), .val (.int cd), .val (.int (7 : Int32)), .unset, .unset] [(.int cd), (.int (0 : Int32)), (.ref a568), (.ref a568)])) rfl rfl (hb hby at_696)
    refine oOn st571 ?_
    have z572 : h568.size ≤ h571.size := Nat.le_of_eq W571.size.symm
    have N571 := Fr.snoc X571 N0 (by omega)
    have Vq573 : oAI Z h571 a568 .char 65 (oPre (FL ca cb cc cd) 1) := V571.congr (fun j _ => oPre_up (F := (FL ca cb cc cd)) (k := 0) hn_cd j)
    have f574 := ((O0.ext E568).wr W571 (by omega))
    have f575 := ((hJ.ext E568).wrA W571 Vq570 wiS (by decide))
    have zz573 : n0 ≤ h571.size := by omega
    have lq573 : @LT.lt Nat _ a568 h571.size := Vq573.lt
    obtain ⟨Lc573, Y573, M573⟩ : ∃ L, Stand p l e room_1 (s.setVm s.vm) m #[(.int i0), (.int i1), (.int i2), (.int i3), (.int i4)] below meth c T571 L 1 65 ∧ Fr n0 L := ⟨_, X571, N571⟩
    clear st571 V571 X571 N571 z572 W571
    show oGl p e below (T571.setTop (mkF m 697 #[.val (.int i0), .val (.int i1), .val (.int i2), .val (.int i3), .val (.int i4), .val (.int ca), .val (.int cb), .val (.int cc), .val (.int cd), .val (.int (7 : Int32)), .unset, .unset] [(.ref a568)])) _
    refine sdup Y573 hx (hb hby at_697) rfl rfl (pc' := 698) ?_
    refine siconst Y573 hx (hb hby at_698) rfl rfl (z := 1) (pc' := 699) ?_
    refine siload Y573 hx (hb hby at_699) rfl rfl (pc' := 701) ?_
    obtain ⟨T576, h576, X576, e576, W576, V576, st576⟩ := Vq573.stC Y573 hx hZ e571 (j := (1 : Int32)) (by decide) (g := (mkF m 701 #[.val (.int i0), .val (.int i1), .val (.int i2), .val (.int i3), .val (.int i4), .val (.int ca), .val (.int cb), .val (.int cc), .val (.int cd), .val (.int (7 : Int32)), .unset, .unset] [(.int cb), (.int (1 : Int32)), (.ref a568), (.ref a568)])) rfl rfl (hb hby at_701)
    refine oOn st576 ?_
    have z577 : h571.size ≤ h576.size := Nat.le_of_eq W576.size.symm
    have N576 := Fr.snoc X576 M573 (by omega)
    have Vq578 : oAI Z h576 a568 .char 65 (oPre (FL ca cb cc cd) 2) := V576.congr (fun j _ => oPre_up (F := (FL ca cb cc cd)) (k := 1) hn_cb j)
    have f579 := (f574.wr W576 (by omega))
    have f580 := (f575.wrA W576 Vq573 wiS (by decide))
    have zz578 : n0 ≤ h576.size := by omega
    have lq578 : @LT.lt Nat _ a568 h576.size := Vq578.lt
    obtain ⟨Lc578, Y578, M578⟩ : ∃ L, Stand p l e room_1 (s.setVm s.vm) m #[(.int i0), (.int i1), (.int i2), (.int i3), (.int i4)] below meth c T576 L 1 65 ∧ Fr n0 L := ⟨_, X576, N576⟩
    clear st576 V576 X576 N576 z577 W576 Y573 M573 Vq573 f574 f575 zz573 lq573 e571
    show oGl p e below (T576.setTop (mkF m 702 #[.val (.int i0), .val (.int i1), .val (.int i2), .val (.int i3), .val (.int i4), .val (.int ca), .val (.int cb), .val (.int cc), .val (.int cd), .val (.int (7 : Int32)), .unset, .unset] [(.ref a568)])) _
    refine sdup Y578 hx (hb hby at_702) rfl rfl (pc' := 703) ?_
    refine siconst Y578 hx (hb hby at_703) rfl rfl (z := 2) (pc' := 704) ?_
    refine siload Y578 hx (hb hby at_704) rfl rfl (pc' := 706) ?_
    obtain ⟨T581, h581, X581, e581, W581, V581, st581⟩ := Vq578.stC Y578 hx hZ e576 (j := (2 : Int32)) (by decide) (g := (mkF m 706 #[.val (.int i0), .val (.int i1), .val (.int i2), .val (.int i3), .val (.int i4), .val (.int ca), .val (.int cb), .val (.int cc), .val (.int cd), .val (.int (7 : Int32)), .unset, .unset] [(.int ca), (.int (2 : Int32)), (.ref a568), (.ref a568)])) rfl rfl (hb hby at_706)
    refine oOn st581 ?_
    have z582 : h576.size ≤ h581.size := Nat.le_of_eq W581.size.symm
    have N581 := Fr.snoc X581 M578 (by omega)
    have Vq583 : oAI Z h581 a568 .char 65 (oPre (FL ca cb cc cd) 3) := V581.congr (fun j _ => oPre_up (F := (FL ca cb cc cd)) (k := 2) hn_ca j)
    have f584 := (f579.wr W581 (by omega))
    have f585 := (f580.wrA W581 Vq578 wiS (by decide))
    have zz583 : n0 ≤ h581.size := by omega
    have lq583 : @LT.lt Nat _ a568 h581.size := Vq583.lt
    obtain ⟨Lc583, Y583, M583⟩ : ∃ L, Stand p l e room_1 (s.setVm s.vm) m #[(.int i0), (.int i1), (.int i2), (.int i3), (.int i4)] below meth c T581 L 1 65 ∧ Fr n0 L := ⟨_, X581, N581⟩
    clear st581 V581 X581 N581 z582 W581 Y578 M578 Vq578 f579 f580 zz578 lq578 e576
    show oGl p e below (T581.setTop (mkF m 707 #[.val (.int i0), .val (.int i1), .val (.int i2), .val (.int i3), .val (.int i4), .val (.int ca), .val (.int cb), .val (.int cc), .val (.int cd), .val (.int (7 : Int32)), .unset, .unset] [(.ref a568)])) _
    refine sdup Y583 hx (hb hby at_707) rfl rfl (pc' := 708) ?_
    refine siconst Y583 hx (hb hby at_708) rfl rfl (z := 3) (pc' := 709) ?_
    refine siload Y583 hx (hb hby at_709) rfl rfl (pc' := 711) ?_
    obtain ⟨T586, h586, X586, e586, W586, V586, st586⟩ := Vq583.stC Y583 hx hZ e581 (j := (3 : Int32)) (by decide) (g := (mkF m 711 #[.val (.int i0), .val (.int i1), .val (.int i2), .val (.int i3), .val (.int i4), .val (.int ca), .val (.int cb), .val (.int cc), .val (.int cd), .val (.int (7 : Int32)), .unset, .unset] [(.int cb), (.int (3 : Int32)), (.ref a568), (.ref a568)])) rfl rfl (hb hby at_711)
    refine oOn st586 ?_
    have z587 : h581.size ≤ h586.size := Nat.le_of_eq W586.size.symm
    have N586 := Fr.snoc X586 M583 (by omega)
    have Vq588 : oAI Z h586 a568 .char 65 (oPre (FL ca cb cc cd) 4) := V586.congr (fun j _ => oPre_up (F := (FL ca cb cc cd)) (k := 3) hn_cb j)
    have f589 := (f584.wr W586 (by omega))
    have f590 := (f585.wrA W586 Vq583 wiS (by decide))
    have zz588 : n0 ≤ h586.size := by omega
    have lq588 : @LT.lt Nat _ a568 h586.size := Vq588.lt
    obtain ⟨Lc588, Y588, M588⟩ : ∃ L, Stand p l e room_1 (s.setVm s.vm) m #[(.int i0), (.int i1), (.int i2), (.int i3), (.int i4)] below meth c T586 L 1 65 ∧ Fr n0 L := ⟨_, X586, N586⟩
    clear st586 V586 X586 N586 z587 W586 Y583 M583 Vq583 f584 f585 zz583 lq583 e581
    show oGl p e below (T586.setTop (mkF m 712 #[.val (.int i0), .val (.int i1), .val (.int i2), .val (.int i3), .val (.int i4), .val (.int ca), .val (.int cb), .val (.int cc), .val (.int cd), .val (.int (7 : Int32)), .unset, .unset] [(.ref a568)])) _
    refine sdup Y588 hx (hb hby at_712) rfl rfl (pc' := 713) ?_
    refine siconst Y588 hx (hb hby at_713) rfl rfl (z := 4) (pc' := 714) ?_
    refine siload Y588 hx (hb hby at_714) rfl rfl (pc' := 716) ?_
    obtain ⟨T591, h591, X591, e591, W591, V591, st591⟩ := Vq588.stC Y588 hx hZ e586 (j := (4 : Int32)) (by decide) (g := (mkF m 716 #[.val (.int i0), .val (.int i1), .val (.int i2), .val (.int i3), .val (.int i4), .val (.int ca), .val (.int cb), .val (.int cc), .val (.int cd), .val (.int (7 : Int32)), .unset, .unset] [(.int ca), (.int (4 : Int32)), (.ref a568), (.ref a568)])) rfl rfl (hb hby at_716)
    refine oOn st591 ?_
    have z592 : h586.size ≤ h591.size := Nat.le_of_eq W591.size.symm
    have N591 := Fr.snoc X591 M588 (by omega)
    have Vq593 : oAI Z h591 a568 .char 65 (oPre (FL ca cb cc cd) 5) := V591.congr (fun j _ => oPre_up (F := (FL ca cb cc cd)) (k := 4) hn_ca j)
    have f594 := (f589.wr W591 (by omega))
    have f595 := (f590.wrA W591 Vq588 wiS (by decide))
    have zz593 : n0 ≤ h591.size := by omega
    have lq593 : @LT.lt Nat _ a568 h591.size := Vq593.lt
    obtain ⟨Lc593, Y593, M593⟩ : ∃ L, Stand p l e room_1 (s.setVm s.vm) m #[(.int i0), (.int i1), (.int i2), (.int i3), (.int i4)] below meth c T591 L 1 65 ∧ Fr n0 L := ⟨_, X591, N591⟩
    clear st591 V591 X591 N591 z592 W591 Y588 M588 Vq588 f589 f590 zz588 lq588 e586
    show oGl p e below (T591.setTop (mkF m 717 #[.val (.int i0), .val (.int i1), .val (.int i2), .val (.int i3), .val (.int i4), .val (.int ca), .val (.int cb), .val (.int cc), .val (.int cd), .val (.int (7 : Int32)), .unset, .unset] [(.ref a568)])) _
    refine sdup Y593 hx (hb hby at_717) rfl rfl (pc' := 718) ?_
    refine siconst Y593 hx (hb hby at_718) rfl rfl (z := 5) (pc' := 719) ?_
    refine siload Y593 hx (hb hby at_719) rfl rfl (pc' := 721) ?_
    obtain ⟨T596, h596, X596, e596, W596, V596, st596⟩ := Vq593.stC Y593 hx hZ e591 (j := (5 : Int32)) (by decide) (g := (mkF m 721 #[.val (.int i0), .val (.int i1), .val (.int i2), .val (.int i3), .val (.int i4), .val (.int ca), .val (.int cb), .val (.int cc), .val (.int cd), .val (.int (7 : Int32)), .unset, .unset] [(.int cb), (.int (5 : Int32)), (.ref a568), (.ref a568)])) rfl rfl (hb hby at_721)
    refine oOn st596 ?_
    have z597 : h591.size ≤ h596.size := Nat.le_of_eq W596.size.symm
    have N596 := Fr.snoc X596 M593 (by omega)
    have Vq598 : oAI Z h596 a568 .char 65 (oPre (FL ca cb cc cd) 6) := V596.congr (fun j _ => oPre_up (F := (FL ca cb cc cd)) (k := 5) hn_cb j)
    have f599 := (f594.wr W596 (by omega))
    have f600 := (f595.wrA W596 Vq593 wiS (by decide))
    have zz598 : n0 ≤ h596.size := by omega
    have lq598 : @LT.lt Nat _ a568 h596.size := Vq598.lt
    obtain ⟨Lc598, Y598, M598⟩ : ∃ L, Stand p l e room_1 (s.setVm s.vm) m #[(.int i0), (.int i1), (.int i2), (.int i3), (.int i4)] below meth c T596 L 1 65 ∧ Fr n0 L := ⟨_, X596, N596⟩
    clear st596 V596 X596 N596 z597 W596 Y593 M593 Vq593 f594 f595 zz593 lq593 e591
    show oGl p e below (T596.setTop (mkF m 722 #[.val (.int i0), .val (.int i1), .val (.int i2), .val (.int i3), .val (.int i4), .val (.int ca), .val (.int cb), .val (.int cc), .val (.int cd), .val (.int (7 : Int32)), .unset, .unset] [(.ref a568)])) _
    refine sdup Y598 hx (hb hby at_722) rfl rfl (pc' := 723) ?_
    refine sbipush Y598 hx (hb hby at_723) rfl rfl (z := 6) (pc' := 725) ?_
    refine siload Y598 hx (hb hby at_725) rfl rfl (pc' := 727) ?_
    obtain ⟨T601, h601, X601, e601, W601, V601, st601⟩ := Vq598.stC Y598 hx hZ e596 (j := (6 : Int32)) (by decide) (g := (mkF m 727 #[.val (.int i0), .val (.int i1), .val (.int i2), .val (.int i3), .val (.int i4), .val (.int ca), .val (.int cb), .val (.int cc), .val (.int cd), .val (.int (7 : Int32)), .unset, .unset] [(.int ca), (.int (6 : Int32)), (.ref a568), (.ref a568)])) rfl rfl (hb hby at_727)
    refine oOn st601 ?_
    have z602 : h596.size ≤ h601.size := Nat.le_of_eq W601.size.symm
    have N601 := Fr.snoc X601 M598 (by omega)
    have Vq603 : oAI Z h601 a568 .char 65 (oPre (FL ca cb cc cd) 7) := V601.congr (fun j _ => oPre_up (F := (FL ca cb cc cd)) (k := 6) hn_ca j)
    have f604 := (f599.wr W601 (by omega))
    have f605 := (f600.wrA W601 Vq598 wiS (by decide))
    have zz603 : n0 ≤ h601.size := by omega
    have lq603 : @LT.lt Nat _ a568 h601.size := Vq603.lt
    obtain ⟨Lc603, Y603, M603⟩ : ∃ L, Stand p l e room_1 (s.setVm s.vm) m #[(.int i0), (.int i1), (.int i2), (.int i3), (.int i4)] below meth c T601 L 1 65 ∧ Fr n0 L := ⟨_, X601, N601⟩
    clear st601 V601 X601 N601 z602 W601 Y598 M598 Vq598 f599 f600 zz598 lq598 e596
    show oGl p e below (T601.setTop (mkF m 728 #[.val (.int i0), .val (.int i1), .val (.int i2), .val (.int i3), .val (.int i4), .val (.int ca), .val (.int cb), .val (.int cc), .val (.int cd), .val (.int (7 : Int32)), .unset, .unset] [(.ref a568)])) _
    refine sdup Y603 hx (hb hby at_728) rfl rfl (pc' := 729) ?_
    refine sbipush Y603 hx (hb hby at_729) rfl rfl (z := 7) (pc' := 731) ?_
    refine siload Y603 hx (hb hby at_731) rfl rfl (pc' := 733) ?_
    obtain ⟨T606, h606, X606, e606, W606, V606, st606⟩ := Vq603.stC Y603 hx hZ e601 (j := (7 : Int32)) (by decide) (g := (mkF m 733 #[.val (.int i0), .val (.int i1), .val (.int i2), .val (.int i3), .val (.int i4), .val (.int ca), .val (.int cb), .val (.int cc), .val (.int cd), .val (.int (7 : Int32)), .unset, .unset] [(.int cb), (.int (7 : Int32)), (.ref a568), (.ref a568)])) rfl rfl (hb hby at_733)
    refine oOn st606 ?_
    have z607 : h601.size ≤ h606.size := Nat.le_of_eq W606.size.symm
    have N606 := Fr.snoc X606 M603 (by omega)
    have Vq608 : oAI Z h606 a568 .char 65 (oPre (FL ca cb cc cd) 8) := V606.congr (fun j _ => oPre_up (F := (FL ca cb cc cd)) (k := 7) hn_cb j)
    have f609 := (f604.wr W606 (by omega))
    have f610 := (f605.wrA W606 Vq603 wiS (by decide))
    have zz608 : n0 ≤ h606.size := by omega
    have lq608 : @LT.lt Nat _ a568 h606.size := Vq608.lt
    obtain ⟨Lc608, Y608, M608⟩ : ∃ L, Stand p l e room_1 (s.setVm s.vm) m #[(.int i0), (.int i1), (.int i2), (.int i3), (.int i4)] below meth c T606 L 1 65 ∧ Fr n0 L := ⟨_, X606, N606⟩
    clear st606 V606 X606 N606 z607 W606 Y603 M603 Vq603 f604 f605 zz603 lq603 e601
    show oGl p e below (T606.setTop (mkF m 734 #[.val (.int i0), .val (.int i1), .val (.int i2), .val (.int i3), .val (.int i4), .val (.int ca), .val (.int cb), .val (.int cc), .val (.int cd), .val (.int (7 : Int32)), .unset, .unset] [(.ref a568)])) _
    refine sdup Y608 hx (hb hby at_734) rfl rfl (pc' := 735) ?_
    refine sbipush Y608 hx (hb hby at_735) rfl rfl (z := 8) (pc' := 737) ?_
    refine siload Y608 hx (hb hby at_737) rfl rfl (pc' := 739) ?_
    obtain ⟨T611, h611, X611, e611, W611, V611, st611⟩ := Vq608.stC Y608 hx hZ e606 (j := (8 : Int32)) (by decide) (g := (mkF m 739 #[.val (.int i0), .val (.int i1), .val (.int i2), .val (.int i3), .val (.int i4), .val (.int ca), .val (.int cb), .val (.int cc), .val (.int cd), .val (.int (7 : Int32)), .unset, .unset] [(.int ca), (.int (8 : Int32)), (.ref a568), (.ref a568)])) rfl rfl (hb hby at_739)
    refine oOn st611 ?_
    have z612 : h606.size ≤ h611.size := Nat.le_of_eq W611.size.symm
    have N611 := Fr.snoc X611 M608 (by omega)
    have Vq613 : oAI Z h611 a568 .char 65 (oPre (FL ca cb cc cd) 9) := V611.congr (fun j _ => oPre_up (F := (FL ca cb cc cd)) (k := 8) hn_ca j)
    have f614 := (f609.wr W611 (by omega))
    have f615 := (f610.wrA W611 Vq608 wiS (by decide))
    have zz613 : n0 ≤ h611.size := by omega
    have lq613 : @LT.lt Nat _ a568 h611.size := Vq613.lt
    obtain ⟨Lc613, Y613, M613⟩ : ∃ L, Stand p l e room_1 (s.setVm s.vm) m #[(.int i0), (.int i1), (.int i2), (.int i3), (.int i4)] below meth c T611 L 1 65 ∧ Fr n0 L := ⟨_, X611, N611⟩
    clear st611 V611 X611 N611 z612 W611 Y608 M608 Vq608 f609 f610 zz608 lq608 e606
    show oGl p e below (T611.setTop (mkF m 740 #[.val (.int i0), .val (.int i1), .val (.int i2), .val (.int i3), .val (.int i4), .val (.int ca), .val (.int cb), .val (.int cc), .val (.int cd), .val (.int (7 : Int32)), .unset, .unset] [(.ref a568)])) _
    refine sdup Y613 hx (hb hby at_740) rfl rfl (pc' := 741) ?_
    refine sbipush Y613 hx (hb hby at_741) rfl rfl (z := 9) (pc' := 743) ?_
    refine siload Y613 hx (hb hby at_743) rfl rfl (pc' := 745) ?_
    obtain ⟨T616, h616, X616, e616, W616, V616, st616⟩ := Vq613.stC Y613 hx hZ e611 (j := (9 : Int32)) (by decide) (g := (mkF m 745 #[.val (.int i0), .val (.int i1), .val (.int i2), .val (.int i3), .val (.int i4), .val (.int ca), .val (.int cb), .val (.int cc), .val (.int cd), .val (.int (7 : Int32)), .unset, .unset] [(.int cb), (.int (9 : Int32)), (.ref a568), (.ref a568)])) rfl rfl (hb hby at_745)
    refine oOn st616 ?_
    have z617 : h611.size ≤ h616.size := Nat.le_of_eq W616.size.symm
    have N616 := Fr.snoc X616 M613 (by omega)
    have Vq618 : oAI Z h616 a568 .char 65 (oPre (FL ca cb cc cd) 10) := V616.congr (fun j _ => oPre_up (F := (FL ca cb cc cd)) (k := 9) hn_cb j)
    have f619 := (f614.wr W616 (by omega))
    have f620 := (f615.wrA W616 Vq613 wiS (by decide))
    have zz618 : n0 ≤ h616.size := by omega
    have lq618 : @LT.lt Nat _ a568 h616.size := Vq618.lt
    obtain ⟨Lc618, Y618, M618⟩ : ∃ L, Stand p l e room_1 (s.setVm s.vm) m #[(.int i0), (.int i1), (.int i2), (.int i3), (.int i4)] below meth c T616 L 1 65 ∧ Fr n0 L := ⟨_, X616, N616⟩
    clear st616 V616 X616 N616 z617 W616 Y613 M613 Vq613 f614 f615 zz613 lq613 e611
    show oGl p e below (T616.setTop (mkF m 746 #[.val (.int i0), .val (.int i1), .val (.int i2), .val (.int i3), .val (.int i4), .val (.int ca), .val (.int cb), .val (.int cc), .val (.int cd), .val (.int (7 : Int32)), .unset, .unset] [(.ref a568)])) _
    refine sdup Y618 hx (hb hby at_746) rfl rfl (pc' := 747) ?_
    refine sbipush Y618 hx (hb hby at_747) rfl rfl (z := 10) (pc' := 749) ?_
    refine siload Y618 hx (hb hby at_749) rfl rfl (pc' := 751) ?_
    obtain ⟨T621, h621, X621, e621, W621, V621, st621⟩ := Vq618.stC Y618 hx hZ e616 (j := (10 : Int32)) (by decide) (g := (mkF m 751 #[.val (.int i0), .val (.int i1), .val (.int i2), .val (.int i3), .val (.int i4), .val (.int ca), .val (.int cb), .val (.int cc), .val (.int cd), .val (.int (7 : Int32)), .unset, .unset] [(.int ca), (.int (10 : Int32)), (.ref a568), (.ref a568)])) rfl rfl (hb hby at_751)
    refine oOn st621 ?_
    have z622 : h616.size ≤ h621.size := Nat.le_of_eq W621.size.symm
    have N621 := Fr.snoc X621 M618 (by omega)
    have Vq623 : oAI Z h621 a568 .char 65 (oPre (FL ca cb cc cd) 11) := V621.congr (fun j _ => oPre_up (F := (FL ca cb cc cd)) (k := 10) hn_ca j)
    have f624 := (f619.wr W621 (by omega))
    have f625 := (f620.wrA W621 Vq618 wiS (by decide))
    have zz623 : n0 ≤ h621.size := by omega
    have lq623 : @LT.lt Nat _ a568 h621.size := Vq623.lt
    obtain ⟨Lc623, Y623, M623⟩ : ∃ L, Stand p l e room_1 (s.setVm s.vm) m #[(.int i0), (.int i1), (.int i2), (.int i3), (.int i4)] below meth c T621 L 1 65 ∧ Fr n0 L := ⟨_, X621, N621⟩
    clear st621 V621 X621 N621 z622 W621 Y618 M618 Vq618 f619 f620 zz618 lq618 e616
    show oGl p e below (T621.setTop (mkF m 752 #[.val (.int i0), .val (.int i1), .val (.int i2), .val (.int i3), .val (.int i4), .val (.int ca), .val (.int cb), .val (.int cc), .val (.int cd), .val (.int (7 : Int32)), .unset, .unset] [(.ref a568)])) _
    refine sdup Y623 hx (hb hby at_752) rfl rfl (pc' := 753) ?_
    refine sbipush Y623 hx (hb hby at_753) rfl rfl (z := 11) (pc' := 755) ?_
    refine siload Y623 hx (hb hby at_755) rfl rfl (pc' := 757) ?_
    obtain ⟨T626, h626, X626, e626, W626, V626, st626⟩ := Vq623.stC Y623 hx hZ e621 (j := (11 : Int32)) (by decide) (g := (mkF m 757 #[.val (.int i0), .val (.int i1), .val (.int i2), .val (.int i3), .val (.int i4), .val (.int ca), .val (.int cb), .val (.int cc), .val (.int cd), .val (.int (7 : Int32)), .unset, .unset] [(.int cb), (.int (11 : Int32)), (.ref a568), (.ref a568)])) rfl rfl (hb hby at_757)
    refine oOn st626 ?_
    have z627 : h621.size ≤ h626.size := Nat.le_of_eq W626.size.symm
    have N626 := Fr.snoc X626 M623 (by omega)
    have Vq628 : oAI Z h626 a568 .char 65 (oPre (FL ca cb cc cd) 12) := V626.congr (fun j _ => oPre_up (F := (FL ca cb cc cd)) (k := 11) hn_cb j)
    have f629 := (f624.wr W626 (by omega))
    have f630 := (f625.wrA W626 Vq623 wiS (by decide))
    have zz628 : n0 ≤ h626.size := by omega
    have lq628 : @LT.lt Nat _ a568 h626.size := Vq628.lt
    obtain ⟨Lc628, Y628, M628⟩ : ∃ L, Stand p l e room_1 (s.setVm s.vm) m #[(.int i0), (.int i1), (.int i2), (.int i3), (.int i4)] below meth c T626 L 1 65 ∧ Fr n0 L := ⟨_, X626, N626⟩
    clear st626 V626 X626 N626 z627 W626 Y623 M623 Vq623 f624 f625 zz623 lq623 e621
    show oGl p e below (T626.setTop (mkF m 758 #[.val (.int i0), .val (.int i1), .val (.int i2), .val (.int i3), .val (.int i4), .val (.int ca), .val (.int cb), .val (.int cc), .val (.int cd), .val (.int (7 : Int32)), .unset, .unset] [(.ref a568)])) _
    refine sdup Y628 hx (hb hby at_758) rfl rfl (pc' := 759) ?_
    refine sbipush Y628 hx (hb hby at_759) rfl rfl (z := 12) (pc' := 761) ?_
    refine siload Y628 hx (hb hby at_761) rfl rfl (pc' := 763) ?_
    obtain ⟨T631, h631, X631, e631, W631, V631, st631⟩ := Vq628.stC Y628 hx hZ e626 (j := (12 : Int32)) (by decide) (g := (mkF m 763 #[.val (.int i0), .val (.int i1), .val (.int i2), .val (.int i3), .val (.int i4), .val (.int ca), .val (.int cb), .val (.int cc), .val (.int cd), .val (.int (7 : Int32)), .unset, .unset] [(.int ca), (.int (12 : Int32)), (.ref a568), (.ref a568)])) rfl rfl (hb hby at_763)
    refine oOn st631 ?_
    have z632 : h626.size ≤ h631.size := Nat.le_of_eq W631.size.symm
    have N631 := Fr.snoc X631 M628 (by omega)
    have Vq633 : oAI Z h631 a568 .char 65 (oPre (FL ca cb cc cd) 13) := V631.congr (fun j _ => oPre_up (F := (FL ca cb cc cd)) (k := 12) hn_ca j)
    have f634 := (f629.wr W631 (by omega))
    have f635 := (f630.wrA W631 Vq628 wiS (by decide))
    have zz633 : n0 ≤ h631.size := by omega
    have lq633 : @LT.lt Nat _ a568 h631.size := Vq633.lt
    obtain ⟨Lc633, Y633, M633⟩ : ∃ L, Stand p l e room_1 (s.setVm s.vm) m #[(.int i0), (.int i1), (.int i2), (.int i3), (.int i4)] below meth c T631 L 1 65 ∧ Fr n0 L := ⟨_, X631, N631⟩
    clear st631 V631 X631 N631 z632 W631 Y628 M628 Vq628 f629 f630 zz628 lq628 e626
    show oGl p e below (T631.setTop (mkF m 764 #[.val (.int i0), .val (.int i1), .val (.int i2), .val (.int i3), .val (.int i4), .val (.int ca), .val (.int cb), .val (.int cc), .val (.int cd), .val (.int (7 : Int32)), .unset, .unset] [(.ref a568)])) _
    refine sdup Y633 hx (hb hby at_764) rfl rfl (pc' := 765) ?_
    refine sbipush Y633 hx (hb hby at_765) rfl rfl (z := 13) (pc' := 767) ?_
    refine siload Y633 hx (hb hby at_767) rfl rfl (pc' := 769) ?_
    obtain ⟨T636, h636, X636, e636, W636, V636, st636⟩ := Vq633.stC Y633 hx hZ e631 (j := (13 : Int32)) (by decide) (g := (mkF m 769 #[.val (.int i0), .val (.int i1), .val (.int i2), .val (.int i3), .val (.int i4), .val (.int ca), .val (.int cb), .val (.int cc), .val (.int cd), .val (.int (7 : Int32)), .unset, .unset] [(.int cb), (.int (13 : Int32)), (.ref a568), (.ref a568)])) rfl rfl (hb hby at_769)
    refine oOn st636 ?_
    have z637 : h631.size ≤ h636.size := Nat.le_of_eq W636.size.symm
    have N636 := Fr.snoc X636 M633 (by omega)
    have Vq638 : oAI Z h636 a568 .char 65 (oPre (FL ca cb cc cd) 14) := V636.congr (fun j _ => oPre_up (F := (FL ca cb cc cd)) (k := 13) hn_cb j)
    have f639 := (f634.wr W636 (by omega))
    have f640 := (f635.wrA W636 Vq633 wiS (by decide))
    have zz638 : n0 ≤ h636.size := by omega
    have lq638 : @LT.lt Nat _ a568 h636.size := Vq638.lt
    obtain ⟨Lc638, Y638, M638⟩ : ∃ L, Stand p l e room_1 (s.setVm s.vm) m #[(.int i0), (.int i1), (.int i2), (.int i3), (.int i4)] below meth c T636 L 1 65 ∧ Fr n0 L := ⟨_, X636, N636⟩
    clear st636 V636 X636 N636 z637 W636 Y633 M633 Vq633 f634 f635 zz633 lq633 e631
    show oGl p e below (T636.setTop (mkF m 770 #[.val (.int i0), .val (.int i1), .val (.int i2), .val (.int i3), .val (.int i4), .val (.int ca), .val (.int cb), .val (.int cc), .val (.int cd), .val (.int (7 : Int32)), .unset, .unset] [(.ref a568)])) _
    refine sdup Y638 hx (hb hby at_770) rfl rfl (pc' := 771) ?_
    refine sbipush Y638 hx (hb hby at_771) rfl rfl (z := 14) (pc' := 773) ?_
    refine siload Y638 hx (hb hby at_773) rfl rfl (pc' := 775) ?_
    obtain ⟨T641, h641, X641, e641, W641, V641, st641⟩ := Vq638.stC Y638 hx hZ e636 (j := (14 : Int32)) (by decide) (g := (mkF m 775 #[.val (.int i0), .val (.int i1), .val (.int i2), .val (.int i3), .val (.int i4), .val (.int ca), .val (.int cb), .val (.int cc), .val (.int cd), .val (.int (7 : Int32)), .unset, .unset] [(.int ca), (.int (14 : Int32)), (.ref a568), (.ref a568)])) rfl rfl (hb hby at_775)
    refine oOn st641 ?_
    have z642 : h636.size ≤ h641.size := Nat.le_of_eq W641.size.symm
    have N641 := Fr.snoc X641 M638 (by omega)
    have Vq643 : oAI Z h641 a568 .char 65 (oPre (FL ca cb cc cd) 15) := V641.congr (fun j _ => oPre_up (F := (FL ca cb cc cd)) (k := 14) hn_ca j)
    have f644 := (f639.wr W641 (by omega))
    have f645 := (f640.wrA W641 Vq638 wiS (by decide))
    have zz643 : n0 ≤ h641.size := by omega
    have lq643 : @LT.lt Nat _ a568 h641.size := Vq643.lt
    obtain ⟨Lc643, Y643, M643⟩ : ∃ L, Stand p l e room_1 (s.setVm s.vm) m #[(.int i0), (.int i1), (.int i2), (.int i3), (.int i4)] below meth c T641 L 1 65 ∧ Fr n0 L := ⟨_, X641, N641⟩
    clear st641 V641 X641 N641 z642 W641 Y638 M638 Vq638 f639 f640 zz638 lq638 e636
    show oGl p e below (T641.setTop (mkF m 776 #[.val (.int i0), .val (.int i1), .val (.int i2), .val (.int i3), .val (.int i4), .val (.int ca), .val (.int cb), .val (.int cc), .val (.int cd), .val (.int (7 : Int32)), .unset, .unset] [(.ref a568)])) _
    refine sdup Y643 hx (hb hby at_776) rfl rfl (pc' := 777) ?_
    refine sbipush Y643 hx (hb hby at_777) rfl rfl (z := 15) (pc' := 779) ?_
    refine siload Y643 hx (hb hby at_779) rfl rfl (pc' := 781) ?_
    obtain ⟨T646, h646, X646, e646, W646, V646, st646⟩ := Vq643.stC Y643 hx hZ e641 (j := (15 : Int32)) (by decide) (g := (mkF m 781 #[.val (.int i0), .val (.int i1), .val (.int i2), .val (.int i3), .val (.int i4), .val (.int ca), .val (.int cb), .val (.int cc), .val (.int cd), .val (.int (7 : Int32)), .unset, .unset] [(.int cb), (.int (15 : Int32)), (.ref a568), (.ref a568)])) rfl rfl (hb hby at_781)
    refine oOn st646 ?_
    have z647 : h641.size ≤ h646.size := Nat.le_of_eq W646.size.symm
    have N646 := Fr.snoc X646 M643 (by omega)
    have Vq648 : oAI Z h646 a568 .char 65 (oPre (FL ca cb cc cd) 16) := V646.congr (fun j _ => oPre_up (F := (FL ca cb cc cd)) (k := 15) hn_cb j)
    have f649 := (f644.wr W646 (by omega))
    have f650 := (f645.wrA W646 Vq643 wiS (by decide))
    have zz648 : n0 ≤ h646.size := by omega
    have lq648 : @LT.lt Nat _ a568 h646.size := Vq648.lt
    obtain ⟨Lc648, Y648, M648⟩ : ∃ L, Stand p l e room_1 (s.setVm s.vm) m #[(.int i0), (.int i1), (.int i2), (.int i3), (.int i4)] below meth c T646 L 1 65 ∧ Fr n0 L := ⟨_, X646, N646⟩
    clear st646 V646 X646 N646 z647 W646 Y643 M643 Vq643 f644 f645 zz643 lq643 e641
    show oGl p e below (T646.setTop (mkF m 782 #[.val (.int i0), .val (.int i1), .val (.int i2), .val (.int i3), .val (.int i4), .val (.int ca), .val (.int cb), .val (.int cc), .val (.int cd), .val (.int (7 : Int32)), .unset, .unset] [(.ref a568)])) _
    refine sdup Y648 hx (hb hby at_782) rfl rfl (pc' := 783) ?_
    refine sbipush Y648 hx (hb hby at_783) rfl rfl (z := 16) (pc' := 785) ?_
    refine siload Y648 hx (hb hby at_785) rfl rfl (pc' := 787) ?_
    obtain ⟨T651, h651, X651, e651, W651, V651, st651⟩ := Vq648.stC Y648 hx hZ e646 (j := (16 : Int32)) (by decide) (g := (mkF m 787 #[.val (.int i0), .val (.int i1), .val (.int i2), .val (.int i3), .val (.int i4), .val (.int ca), .val (.int cb), .val (.int cc), .val (.int cd), .val (.int (7 : Int32)), .unset, .unset] [(.int ca), (.int (16 : Int32)), (.ref a568), (.ref a568)])) rfl rfl (hb hby at_787)
    refine oOn st651 ?_
    have z652 : h646.size ≤ h651.size := Nat.le_of_eq W651.size.symm
    have N651 := Fr.snoc X651 M648 (by omega)
    have Vq653 : oAI Z h651 a568 .char 65 (oPre (FL ca cb cc cd) 17) := V651.congr (fun j _ => oPre_up (F := (FL ca cb cc cd)) (k := 16) hn_ca j)
    have f654 := (f649.wr W651 (by omega))
    have f655 := (f650.wrA W651 Vq648 wiS (by decide))
    have zz653 : n0 ≤ h651.size := by omega
    have lq653 : @LT.lt Nat _ a568 h651.size := Vq653.lt
    obtain ⟨Lc653, Y653, M653⟩ : ∃ L, Stand p l e room_1 (s.setVm s.vm) m #[(.int i0), (.int i1), (.int i2), (.int i3), (.int i4)] below meth c T651 L 1 65 ∧ Fr n0 L := ⟨_, X651, N651⟩
    clear st651 V651 X651 N651 z652 W651 Y648 M648 Vq648 f649 f650 zz648 lq648 e646
    show oGl p e below (T651.setTop (mkF m 788 #[.val (.int i0), .val (.int i1), .val (.int i2), .val (.int i3), .val (.int i4), .val (.int ca), .val (.int cb), .val (.int cc), .val (.int cd), .val (.int (7 : Int32)), .unset, .unset] [(.ref a568)])) _
    refine sdup Y653 hx (hb hby at_788) rfl rfl (pc' := 789) ?_
    refine sbipush Y653 hx (hb hby at_789) rfl rfl (z := 17) (pc' := 791) ?_
    refine siload Y653 hx (hb hby at_791) rfl rfl (pc' := 793) ?_
    obtain ⟨T656, h656, X656, e656, W656, V656, st656⟩ := Vq653.stC Y653 hx hZ e651 (j := (17 : Int32)) (by decide) (g := (mkF m 793 #[.val (.int i0), .val (.int i1), .val (.int i2), .val (.int i3), .val (.int i4), .val (.int ca), .val (.int cb), .val (.int cc), .val (.int cd), .val (.int (7 : Int32)), .unset, .unset] [(.int cb), (.int (17 : Int32)), (.ref a568), (.ref a568)])) rfl rfl (hb hby at_793)
    refine oOn st656 ?_
    have z657 : h651.size ≤ h656.size := Nat.le_of_eq W656.size.symm
    have N656 := Fr.snoc X656 M653 (by omega)
    have Vq658 : oAI Z h656 a568 .char 65 (oPre (FL ca cb cc cd) 18) := V656.congr (fun j _ => oPre_up (F := (FL ca cb cc cd)) (k := 17) hn_cb j)
    have f659 := (f654.wr W656 (by omega))
    have f660 := (f655.wrA W656 Vq653 wiS (by decide))
    have zz658 : n0 ≤ h656.size := by omega
    have lq658 : @LT.lt Nat _ a568 h656.size := Vq658.lt
    obtain ⟨Lc658, Y658, M658⟩ : ∃ L, Stand p l e room_1 (s.setVm s.vm) m #[(.int i0), (.int i1), (.int i2), (.int i3), (.int i4)] below meth c T656 L 1 65 ∧ Fr n0 L := ⟨_, X656, N656⟩
    clear st656 V656 X656 N656 z657 W656 Y653 M653 Vq653 f654 f655 zz653 lq653 e651
    show oGl p e below (T656.setTop (mkF m 794 #[.val (.int i0), .val (.int i1), .val (.int i2), .val (.int i3), .val (.int i4), .val (.int ca), .val (.int cb), .val (.int cc), .val (.int cd), .val (.int (7 : Int32)), .unset, .unset] [(.ref a568)])) _
    refine sdup Y658 hx (hb hby at_794) rfl rfl (pc' := 795) ?_
    refine sbipush Y658 hx (hb hby at_795) rfl rfl (z := 18) (pc' := 797) ?_
    refine siload Y658 hx (hb hby at_797) rfl rfl (pc' := 799) ?_
    obtain ⟨T661, h661, X661, e661, W661, V661, st661⟩ := Vq658.stC Y658 hx hZ e656 (j := (18 : Int32)) (by decide) (g := (mkF m 799 #[.val (.int i0), .val (.int i1), .val (.int i2), .val (.int i3), .val (.int i4), .val (.int ca), .val (.int cb), .val (.int cc), .val (.int cd), .val (.int (7 : Int32)), .unset, .unset] [(.int ca), (.int (18 : Int32)), (.ref a568), (.ref a568)])) rfl rfl (hb hby at_799)
    refine oOn st661 ?_
    have z662 : h656.size ≤ h661.size := Nat.le_of_eq W661.size.symm
    have N661 := Fr.snoc X661 M658 (by omega)
    have Vq663 : oAI Z h661 a568 .char 65 (oPre (FL ca cb cc cd) 19) := V661.congr (fun j _ => oPre_up (F := (FL ca cb cc cd)) (k := 18) hn_ca j)
    have f664 := (f659.wr W661 (by omega))
    have f665 := (f660.wrA W661 Vq658 wiS (by decide))
    have zz663 : n0 ≤ h661.size := by omega
    have lq663 : @LT.lt Nat _ a568 h661.size := Vq663.lt
    obtain ⟨Lc663, Y663, M663⟩ : ∃ L, Stand p l e room_1 (s.setVm s.vm) m #[(.int i0), (.int i1), (.int i2), (.int i3), (.int i4)] below meth c T661 L 1 65 ∧ Fr n0 L := ⟨_, X661, N661⟩
    clear st661 V661 X661 N661 z662 W661 Y658 M658 Vq658 f659 f660 zz658 lq658 e656
    show oGl p e below (T661.setTop (mkF m 800 #[.val (.int i0), .val (.int i1), .val (.int i2), .val (.int i3), .val (.int i4), .val (.int ca), .val (.int cb), .val (.int cc), .val (.int cd), .val (.int (7 : Int32)), .unset, .unset] [(.ref a568)])) _
    refine sdup Y663 hx (hb hby at_800) rfl rfl (pc' := 801) ?_
    refine sbipush Y663 hx (hb hby at_801) rfl rfl (z := 19) (pc' := 803) ?_
    refine siload Y663 hx (hb hby at_803) rfl rfl (pc' := 805) ?_
    obtain ⟨T666, h666, X666, e666, W666, V666, st666⟩ := Vq663.stC Y663 hx hZ e661 (j := (19 : Int32)) (by decide) (g := (mkF m 805 #[.val (.int i0), .val (.int i1), .val (.int i2), .val (.int i3), .val (.int i4), .val (.int ca), .val (.int cb), .val (.int cc), .val (.int cd), .val (.int (7 : Int32)), .unset, .unset] [(.int cb), (.int (19 : Int32)), (.ref a568), (.ref a568)])) rfl rfl (hb hby at_805)
    refine oOn st666 ?_
    have z667 : h661.size ≤ h666.size := Nat.le_of_eq W666.size.symm
    have N666 := Fr.snoc X666 M663 (by omega)
    have Vq668 : oAI Z h666 a568 .char 65 (oPre (FL ca cb cc cd) 20) := V666.congr (fun j _ => oPre_up (F := (FL ca cb cc cd)) (k := 19) hn_cb j)
    have f669 := (f664.wr W666 (by omega))
    have f670 := (f665.wrA W666 Vq663 wiS (by decide))
    have zz668 : n0 ≤ h666.size := by omega
    have lq668 : @LT.lt Nat _ a568 h666.size := Vq668.lt
    obtain ⟨Lc668, Y668, M668⟩ : ∃ L, Stand p l e room_1 (s.setVm s.vm) m #[(.int i0), (.int i1), (.int i2), (.int i3), (.int i4)] below meth c T666 L 1 65 ∧ Fr n0 L := ⟨_, X666, N666⟩
    clear st666 V666 X666 N666 z667 W666 Y663 M663 Vq663 f664 f665 zz663 lq663 e661
    show oGl p e below (T666.setTop (mkF m 806 #[.val (.int i0), .val (.int i1), .val (.int i2), .val (.int i3), .val (.int i4), .val (.int ca), .val (.int cb), .val (.int cc), .val (.int cd), .val (.int (7 : Int32)), .unset, .unset] [(.ref a568)])) _
    refine sdup Y668 hx (hb hby at_806) rfl rfl (pc' := 807) ?_
    refine sbipush Y668 hx (hb hby at_807) rfl rfl (z := 20) (pc' := 809) ?_
    refine siload Y668 hx (hb hby at_809) rfl rfl (pc' := 811) ?_
    obtain ⟨T671, h671, X671, e671, W671, V671, st671⟩ := Vq668.stC Y668 hx hZ e666 (j := (20 : Int32)) (by decide) (g := (mkF m 811 #[.val (.int i0), .val (.int i1), .val (.int i2), .val (.int i3), .val (.int i4), .val (.int ca), .val (.int cb), .val (.int cc), .val (.int cd), .val (.int (7 : Int32)), .unset, .unset] [(.int ca), (.int (20 : Int32)), (.ref a568), (.ref a568)])) rfl rfl (hb hby at_811)
    refine oOn st671 ?_
    have z672 : h666.size ≤ h671.size := Nat.le_of_eq W671.size.symm
    have N671 := Fr.snoc X671 M668 (by omega)
    have Vq673 : oAI Z h671 a568 .char 65 (oPre (FL ca cb cc cd) 21) := V671.congr (fun j _ => oPre_up (F := (FL ca cb cc cd)) (k := 20) hn_ca j)
    have f674 := (f669.wr W671 (by omega))
    have f675 := (f670.wrA W671 Vq668 wiS (by decide))
    have zz673 : n0 ≤ h671.size := by omega
    have lq673 : @LT.lt Nat _ a568 h671.size := Vq673.lt
    obtain ⟨Lc673, Y673, M673⟩ : ∃ L, Stand p l e room_1 (s.setVm s.vm) m #[(.int i0), (.int i1), (.int i2), (.int i3), (.int i4)] below meth c T671 L 1 65 ∧ Fr n0 L := ⟨_, X671, N671⟩
    clear st671 V671 X671 N671 z672 W671 Y668 M668 Vq668 f669 f670 zz668 lq668 e666
    show oGl p e below (T671.setTop (mkF m 812 #[.val (.int i0), .val (.int i1), .val (.int i2), .val (.int i3), .val (.int i4), .val (.int ca), .val (.int cb), .val (.int cc), .val (.int cd), .val (.int (7 : Int32)), .unset, .unset] [(.ref a568)])) _
    refine sdup Y673 hx (hb hby at_812) rfl rfl (pc' := 813) ?_
    refine sbipush Y673 hx (hb hby at_813) rfl rfl (z := 21) (pc' := 815) ?_
    refine siload Y673 hx (hb hby at_815) rfl rfl (pc' := 817) ?_
    obtain ⟨T676, h676, X676, e676, W676, V676, st676⟩ := Vq673.stC Y673 hx hZ e671 (j := (21 : Int32)) (by decide) (g := (mkF m 817 #[.val (.int i0), .val (.int i1), .val (.int i2), .val (.int i3), .val (.int i4), .val (.int ca), .val (.int cb), .val (.int cc), .val (.int cd), .val (.int (7 : Int32)), .unset, .unset] [(.int cb), (.int (21 : Int32)), (.ref a568), (.ref a568)])) rfl rfl (hb hby at_817)
    refine oOn st676 ?_
    have z677 : h671.size ≤ h676.size := Nat.le_of_eq W676.size.symm
    have N676 := Fr.snoc X676 M673 (by omega)
    have Vq678 : oAI Z h676 a568 .char 65 (oPre (FL ca cb cc cd) 22) := V676.congr (fun j _ => oPre_up (F := (FL ca cb cc cd)) (k := 21) hn_cb j)
    have f679 := (f674.wr W676 (by omega))
    have f680 := (f675.wrA W676 Vq673 wiS (by decide))
    have zz678 : n0 ≤ h676.size := by omega
    have lq678 : @LT.lt Nat _ a568 h676.size := Vq678.lt
    obtain ⟨Lc678, Y678, M678⟩ : ∃ L, Stand p l e room_1 (s.setVm s.vm) m #[(.int i0), (.int i1), (.int i2), (.int i3), (.int i4)] below meth c T676 L 1 65 ∧ Fr n0 L := ⟨_, X676, N676⟩
    clear st676 V676 X676 N676 z677 W676 Y673 M673 Vq673 f674 f675 zz673 lq673 e671
    show oGl p e below (T676.setTop (mkF m 818 #[.val (.int i0), .val (.int i1), .val (.int i2), .val (.int i3), .val (.int i4), .val (.int ca), .val (.int cb), .val (.int cc), .val (.int cd), .val (.int (7 : Int32)), .unset, .unset] [(.ref a568)])) _
    refine sdup Y678 hx (hb hby at_818) rfl rfl (pc' := 819) ?_
    refine sbipush Y678 hx (hb hby at_819) rfl rfl (z := 22) (pc' := 821) ?_
    refine siload Y678 hx (hb hby at_821) rfl rfl (pc' := 823) ?_
    obtain ⟨T681, h681, X681, e681, W681, V681, st681⟩ := Vq678.stC Y678 hx hZ e676 (j := (22 : Int32)) (by decide) (g := (mkF m 823 #[.val (.int i0), .val (.int i1), .val (.int i2), .val (.int i3), .val (.int i4), .val (.int ca), .val (.int cb), .val (.int cc), .val (.int cd), .val (.int (7 : Int32)), .unset, .unset] [(.int ca), (.int (22 : Int32)), (.ref a568), (.ref a568)])) rfl rfl (hb hby at_823)
    refine oOn st681 ?_
    have z682 : h676.size ≤ h681.size := Nat.le_of_eq W681.size.symm
    have N681 := Fr.snoc X681 M678 (by omega)
    have Vq683 : oAI Z h681 a568 .char 65 (oPre (FL ca cb cc cd) 23) := V681.congr (fun j _ => oPre_up (F := (FL ca cb cc cd)) (k := 22) hn_ca j)
    have f684 := (f679.wr W681 (by omega))
    have f685 := (f680.wrA W681 Vq678 wiS (by decide))
    have zz683 : n0 ≤ h681.size := by omega
    have lq683 : @LT.lt Nat _ a568 h681.size := Vq683.lt
    obtain ⟨Lc683, Y683, M683⟩ : ∃ L, Stand p l e room_1 (s.setVm s.vm) m #[(.int i0), (.int i1), (.int i2), (.int i3), (.int i4)] below meth c T681 L 1 65 ∧ Fr n0 L := ⟨_, X681, N681⟩
    clear st681 V681 X681 N681 z682 W681 Y678 M678 Vq678 f679 f680 zz678 lq678 e676
    show oGl p e below (T681.setTop (mkF m 824 #[.val (.int i0), .val (.int i1), .val (.int i2), .val (.int i3), .val (.int i4), .val (.int ca), .val (.int cb), .val (.int cc), .val (.int cd), .val (.int (7 : Int32)), .unset, .unset] [(.ref a568)])) _
    refine sdup Y683 hx (hb hby at_824) rfl rfl (pc' := 825) ?_
    refine sbipush Y683 hx (hb hby at_825) rfl rfl (z := 23) (pc' := 827) ?_
    refine siload Y683 hx (hb hby at_827) rfl rfl (pc' := 829) ?_
    obtain ⟨T686, h686, X686, e686, W686, V686, st686⟩ := Vq683.stC Y683 hx hZ e681 (j := (23 : Int32)) (by decide) (g := (mkF m 829 #[.val (.int i0), .val (.int i1), .val (.int i2), .val (.int i3), .val (.int i4), .val (.int ca), .val (.int cb), .val (.int cc), .val (.int cd), .val (.int (7 : Int32)), .unset, .unset] [(.int cb), (.int (23 : Int32)), (.ref a568), (.ref a568)])) rfl rfl (hb hby at_829)
    refine oOn st686 ?_
    have z687 : h681.size ≤ h686.size := Nat.le_of_eq W686.size.symm
    have N686 := Fr.snoc X686 M683 (by omega)
    have Vq688 : oAI Z h686 a568 .char 65 (oPre (FL ca cb cc cd) 24) := V686.congr (fun j _ => oPre_up (F := (FL ca cb cc cd)) (k := 23) hn_cb j)
    have f689 := (f684.wr W686 (by omega))
    have f690 := (f685.wrA W686 Vq683 wiS (by decide))
    have zz688 : n0 ≤ h686.size := by omega
    have lq688 : @LT.lt Nat _ a568 h686.size := Vq688.lt
    obtain ⟨Lc688, Y688, M688⟩ : ∃ L, Stand p l e room_1 (s.setVm s.vm) m #[(.int i0), (.int i1), (.int i2), (.int i3), (.int i4)] below meth c T686 L 1 65 ∧ Fr n0 L := ⟨_, X686, N686⟩
    clear st686 V686 X686 N686 z687 W686 Y683 M683 Vq683 f684 f685 zz683 lq683 e681
    show oGl p e below (T686.setTop (mkF m 830 #[.val (.int i0), .val (.int i1), .val (.int i2), .val (.int i3), .val (.int i4), .val (.int ca), .val (.int cb), .val (.int cc), .val (.int cd), .val (.int (7 : Int32)), .unset, .unset] [(.ref a568)])) _
    refine sdup Y688 hx (hb hby at_830) rfl rfl (pc' := 831) ?_
    refine sbipush Y688 hx (hb hby at_831) rfl rfl (z := 24) (pc' := 833) ?_
    refine siload Y688 hx (hb hby at_833) rfl rfl (pc' := 835) ?_
    obtain ⟨T691, h691, X691, e691, W691, V691, st691⟩ := Vq688.stC Y688 hx hZ e686 (j := (24 : Int32)) (by decide) (g := (mkF m 835 #[.val (.int i0), .val (.int i1), .val (.int i2), .val (.int i3), .val (.int i4), .val (.int ca), .val (.int cb), .val (.int cc), .val (.int cd), .val (.int (7 : Int32)), .unset, .unset] [(.int ca), (.int (24 : Int32)), (.ref a568), (.ref a568)])) rfl rfl (hb hby at_835)
    refine oOn st691 ?_
    have z692 : h686.size ≤ h691.size := Nat.le_of_eq W691.size.symm
    have N691 := Fr.snoc X691 M688 (by omega)
    have Vq693 : oAI Z h691 a568 .char 65 (oPre (FL ca cb cc cd) 25) := V691.congr (fun j _ => oPre_up (F := (FL ca cb cc cd)) (k := 24) hn_ca j)
    have f694 := (f689.wr W691 (by omega))
    have f695 := (f690.wrA W691 Vq688 wiS (by decide))
    have zz693 : n0 ≤ h691.size := by omega
    have lq693 : @LT.lt Nat _ a568 h691.size := Vq693.lt
    obtain ⟨Lc693, Y693, M693⟩ : ∃ L, Stand p l e room_1 (s.setVm s.vm) m #[(.int i0), (.int i1), (.int i2), (.int i3), (.int i4)] below meth c T691 L 1 65 ∧ Fr n0 L := ⟨_, X691, N691⟩
    clear st691 V691 X691 N691 z692 W691 Y688 M688 Vq688 f689 f690 zz688 lq688 e686
    show oGl p e below (T691.setTop (mkF m 836 #[.val (.int i0), .val (.int i1), .val (.int i2), .val (.int i3), .val (.int i4), .val (.int ca), .val (.int cb), .val (.int cc), .val (.int cd), .val (.int (7 : Int32)), .unset, .unset] [(.ref a568)])) _
    refine sdup Y693 hx (hb hby at_836) rfl rfl (pc' := 837) ?_
    refine sbipush Y693 hx (hb hby at_837) rfl rfl (z := 25) (pc' := 839) ?_
    refine siload Y693 hx (hb hby at_839) rfl rfl (pc' := 841) ?_
    obtain ⟨T696, h696, X696, e696, W696, V696, st696⟩ := Vq693.stC Y693 hx hZ e691 (j := (25 : Int32)) (by decide) (g := (mkF m 841 #[.val (.int i0), .val (.int i1), .val (.int i2), .val (.int i3), .val (.int i4), .val (.int ca), .val (.int cb), .val (.int cc), .val (.int cd), .val (.int (7 : Int32)), .unset, .unset] [(.int cb), (.int (25 : Int32)), (.ref a568), (.ref a568)])) rfl rfl (hb hby at_841)
    refine oOn st696 ?_
    have z697 : h691.size ≤ h696.size := Nat.le_of_eq W696.size.symm
    have N696 := Fr.snoc X696 M693 (by omega)
    have Vq698 : oAI Z h696 a568 .char 65 (oPre (FL ca cb cc cd) 26) := V696.congr (fun j _ => oPre_up (F := (FL ca cb cc cd)) (k := 25) hn_cb j)
    have f699 := (f694.wr W696 (by omega))
    have f700 := (f695.wrA W696 Vq693 wiS (by decide))
    have zz698 : n0 ≤ h696.size := by omega
    have lq698 : @LT.lt Nat _ a568 h696.size := Vq698.lt
    obtain ⟨Lc698, Y698, M698⟩ : ∃ L, Stand p l e room_1 (s.setVm s.vm) m #[(.int i0), (.int i1), (.int i2), (.int i3), (.int i4)] below meth c T696 L 1 65 ∧ Fr n0 L := ⟨_, X696, N696⟩
    clear st696 V696 X696 N696 z697 W696 Y693 M693 Vq693 f694 f695 zz693 lq693 e691
    show oGl p e below (T696.setTop (mkF m 842 #[.val (.int i0), .val (.int i1), .val (.int i2), .val (.int i3), .val (.int i4), .val (.int ca), .val (.int cb), .val (.int cc), .val (.int cd), .val (.int (7 : Int32)), .unset, .unset] [(.ref a568)])) _
    refine sdup Y698 hx (hb hby at_842) rfl rfl (pc' := 843) ?_
    refine sbipush Y698 hx (hb hby at_843) rfl rfl (z := 26) (pc' := 845) ?_
    refine siload Y698 hx (hb hby at_845) rfl rfl (pc' := 847) ?_
    obtain ⟨T701, h701, X701, e701, W701, V701, st701⟩ := Vq698.stC Y698 hx hZ e696 (j := (26 : Int32)) (by decide) (g := (mkF m 847 #[.val (.int i0), .val (.int i1), .val (.int i2), .val (.int i3), .val (.int i4), .val (.int ca), .val (.int cb), .val (.int cc), .val (.int cd), .val (.int (7 : Int32)), .unset, .unset] [(.int ca), (.int (26 : Int32)), (.ref a568), (.ref a568)])) rfl rfl (hb hby at_847)
    refine oOn st701 ?_
    have z702 : h696.size ≤ h701.size := Nat.le_of_eq W701.size.symm
    have N701 := Fr.snoc X701 M698 (by omega)
    have Vq703 : oAI Z h701 a568 .char 65 (oPre (FL ca cb cc cd) 27) := V701.congr (fun j _ => oPre_up (F := (FL ca cb cc cd)) (k := 26) hn_ca j)
    have f704 := (f699.wr W701 (by omega))
    have f705 := (f700.wrA W701 Vq698 wiS (by decide))
    have zz703 : n0 ≤ h701.size := by omega
    have lq703 : @LT.lt Nat _ a568 h701.size := Vq703.lt
    obtain ⟨Lc703, Y703, M703⟩ : ∃ L, Stand p l e room_1 (s.setVm s.vm) m #[(.int i0), (.int i1), (.int i2), (.int i3), (.int i4)] below meth c T701 L 1 65 ∧ Fr n0 L := ⟨_, X701, N701⟩
    clear st701 V701 X701 N701 z702 W701 Y698 M698 Vq698 f699 f700 zz698 lq698 e696
    show oGl p e below (T701.setTop (mkF m 848 #[.val (.int i0), .val (.int i1), .val (.int i2), .val (.int i3), .val (.int i4), .val (.int ca), .val (.int cb), .val (.int cc), .val (.int cd), .val (.int (7 : Int32)), .unset, .unset] [(.ref a568)])) _
    refine sdup Y703 hx (hb hby at_848) rfl rfl (pc' := 849) ?_
    refine sbipush Y703 hx (hb hby at_849) rfl rfl (z := 27) (pc' := 851) ?_
    refine siload Y703 hx (hb hby at_851) rfl rfl (pc' := 853) ?_
    obtain ⟨T706, h706, X706, e706, W706, V706, st706⟩ := Vq703.stC Y703 hx hZ e701 (j := (27 : Int32)) (by decide) (g := (mkF m 853 #[.val (.int i0), .val (.int i1), .val (.int i2), .val (.int i3), .val (.int i4), .val (.int ca), .val (.int cb), .val (.int cc), .val (.int cd), .val (.int (7 : Int32)), .unset, .unset] [(.int cb), (.int (27 : Int32)), (.ref a568), (.ref a568)])) rfl rfl (hb hby at_853)
    refine oOn st706 ?_
    have z707 : h701.size ≤ h706.size := Nat.le_of_eq W706.size.symm
    have N706 := Fr.snoc X706 M703 (by omega)
    have Vq708 : oAI Z h706 a568 .char 65 (oPre (FL ca cb cc cd) 28) := V706.congr (fun j _ => oPre_up (F := (FL ca cb cc cd)) (k := 27) hn_cb j)
    have f709 := (f704.wr W706 (by omega))
    have f710 := (f705.wrA W706 Vq703 wiS (by decide))
    have zz708 : n0 ≤ h706.size := by omega
    have lq708 : @LT.lt Nat _ a568 h706.size := Vq708.lt
    obtain ⟨Lc708, Y708, M708⟩ : ∃ L, Stand p l e room_1 (s.setVm s.vm) m #[(.int i0), (.int i1), (.int i2), (.int i3), (.int i4)] below meth c T706 L 1 65 ∧ Fr n0 L := ⟨_, X706, N706⟩
    clear st706 V706 X706 N706 z707 W706 Y703 M703 Vq703 f704 f705 zz703 lq703 e701
    show oGl p e below (T706.setTop (mkF m 854 #[.val (.int i0), .val (.int i1), .val (.int i2), .val (.int i3), .val (.int i4), .val (.int ca), .val (.int cb), .val (.int cc), .val (.int cd), .val (.int (7 : Int32)), .unset, .unset] [(.ref a568)])) _
    refine sdup Y708 hx (hb hby at_854) rfl rfl (pc' := 855) ?_
    refine sbipush Y708 hx (hb hby at_855) rfl rfl (z := 28) (pc' := 857) ?_
    refine siload Y708 hx (hb hby at_857) rfl rfl (pc' := 859) ?_
    obtain ⟨T711, h711, X711, e711, W711, V711, st711⟩ := Vq708.stC Y708 hx hZ e706 (j := (28 : Int32)) (by decide) (g := (mkF m 859 #[.val (.int i0), .val (.int i1), .val (.int i2), .val (.int i3), .val (.int i4), .val (.int ca), .val (.int cb), .val (.int cc), .val (.int cd), .val (.int (7 : Int32)), .unset, .unset] [(.int ca), (.int (28 : Int32)), (.ref a568), (.ref a568)])) rfl rfl (hb hby at_859)
    refine oOn st711 ?_
    have z712 : h706.size ≤ h711.size := Nat.le_of_eq W711.size.symm
    have N711 := Fr.snoc X711 M708 (by omega)
    have Vq713 : oAI Z h711 a568 .char 65 (oPre (FL ca cb cc cd) 29) := V711.congr (fun j _ => oPre_up (F := (FL ca cb cc cd)) (k := 28) hn_ca j)
    have f714 := (f709.wr W711 (by omega))
    have f715 := (f710.wrA W711 Vq708 wiS (by decide))
    have zz713 : n0 ≤ h711.size := by omega
    have lq713 : @LT.lt Nat _ a568 h711.size := Vq713.lt
    obtain ⟨Lc713, Y713, M713⟩ : ∃ L, Stand p l e room_1 (s.setVm s.vm) m #[(.int i0), (.int i1), (.int i2), (.int i3), (.int i4)] below meth c T711 L 1 65 ∧ Fr n0 L := ⟨_, X711, N711⟩
    clear st711 V711 X711 N711 z712 W711 Y708 M708 Vq708 f709 f710 zz708 lq708 e706
    show oGl p e below (T711.setTop (mkF m 860 #[.val (.int i0), .val (.int i1), .val (.int i2), .val (.int i3), .val (.int i4), .val (.int ca), .val (.int cb), .val (.int cc), .val (.int cd), .val (.int (7 : Int32)), .unset, .unset] [(.ref a568)])) _
    refine sdup Y713 hx (hb hby at_860) rfl rfl (pc' := 861) ?_
    refine sbipush Y713 hx (hb hby at_861) rfl rfl (z := 29) (pc' := 863) ?_
    refine siload Y713 hx (hb hby at_863) rfl rfl (pc' := 865) ?_
    obtain ⟨T716, h716, X716, e716, W716, V716, st716⟩ := Vq713.stC Y713 hx hZ e711 (j := (29 : Int32)) (by decide) (g := (mkF m 865 #[.val (.int i0), .val (.int i1), .val (.int i2), .val (.int i3), .val (.int i4), .val (.int ca), .val (.int cb), .val (.int cc), .val (.int cd), .val (.int (7 : Int32)), .unset, .unset] [(.int cb), (.int (29 : Int32)), (.ref a568), (.ref a568)])) rfl rfl (hb hby at_865)
    refine oOn st716 ?_
    have z717 : h711.size ≤ h716.size := Nat.le_of_eq W716.size.symm
    have N716 := Fr.snoc X716 M713 (by omega)
    have Vq718 : oAI Z h716 a568 .char 65 (oPre (FL ca cb cc cd) 30) := V716.congr (fun j _ => oPre_up (F := (FL ca cb cc cd)) (k := 29) hn_cb j)
    have f719 := (f714.wr W716 (by omega))
    have f720 := (f715.wrA W716 Vq713 wiS (by decide))
    have zz718 : n0 ≤ h716.size := by omega
    have lq718 : @LT.lt Nat _ a568 h716.size := Vq718.lt
    obtain ⟨Lc718, Y718, M718⟩ : ∃ L, Stand p l e room_1 (s.setVm s.vm) m #[(.int i0), (.int i1), (.int i2), (.int i3), (.int i4)] below meth c T716 L 1 65 ∧ Fr n0 L := ⟨_, X716, N716⟩
    clear st716 V716 X716 N716 z717 W716 Y713 M713 Vq713 f714 f715 zz713 lq713 e711
    show oGl p e below (T716.setTop (mkF m 866 #[.val (.int i0), .val (.int i1), .val (.int i2), .val (.int i3), .val (.int i4), .val (.int ca), .val (.int cb), .val (.int cc), .val (.int cd), .val (.int (7 : Int32)), .unset, .unset] [(.ref a568)])) _
    refine sdup Y718 hx (hb hby at_866) rfl rfl (pc' := 867) ?_
    refine sbipush Y718 hx (hb hby at_867) rfl rfl (z := 30) (pc' := 869) ?_
    refine siload Y718 hx (hb hby at_869) rfl rfl (pc' := 871) ?_
    obtain ⟨T721, h721, X721, e721, W721, V721, st721⟩ := Vq718.stC Y718 hx hZ e716 (j := (30 : Int32)) (by decide) (g := (mkF m 871 #[.val (.int i0), .val (.int i1), .val (.int i2), .val (.int i3), .val (.int i4), .val (.int ca), .val (.int cb), .val (.int cc), .val (.int cd), .val (.int (7 : Int32)), .unset, .unset] [(.int ca), (.int (30 : Int32)), (.ref a568), (.ref a568)])) rfl rfl (hb hby at_871)
    refine oOn st721 ?_
    have z722 : h716.size ≤ h721.size := Nat.le_of_eq W721.size.symm
    have N721 := Fr.snoc X721 M718 (by omega)
    have Vq723 : oAI Z h721 a568 .char 65 (oPre (FL ca cb cc cd) 31) := V721.congr (fun j _ => oPre_up (F := (FL ca cb cc cd)) (k := 30) hn_ca j)
    have f724 := (f719.wr W721 (by omega))
    have f725 := (f720.wrA W721 Vq718 wiS (by decide))
    have zz723 : n0 ≤ h721.size := by omega
    have lq723 : @LT.lt Nat _ a568 h721.size := Vq723.lt
    obtain ⟨Lc723, Y723, M723⟩ : ∃ L, Stand p l e room_1 (s.setVm s.vm) m #[(.int i0), (.int i1), (.int i2), (.int i3), (.int i4)] below meth c T721 L 1 65 ∧ Fr n0 L := ⟨_, X721, N721⟩
    clear st721 V721 X721 N721 z722 W721 Y718 M718 Vq718 f719 f720 zz718 lq718 e716
    show oGl p e below (T721.setTop (mkF m 872 #[.val (.int i0), .val (.int i1), .val (.int i2), .val (.int i3), .val (.int i4), .val (.int ca), .val (.int cb), .val (.int cc), .val (.int cd), .val (.int (7 : Int32)), .unset, .unset] [(.ref a568)])) _
    refine sdup Y723 hx (hb hby at_872) rfl rfl (pc' := 873) ?_
    refine sbipush Y723 hx (hb hby at_873) rfl rfl (z := 31) (pc' := 875) ?_
    refine siload Y723 hx (hb hby at_875) rfl rfl (pc' := 877) ?_
    obtain ⟨T726, h726, X726, e726, W726, V726, st726⟩ := Vq723.stC Y723 hx hZ e721 (j := (31 : Int32)) (by decide) (g := (mkF m 877 #[.val (.int i0), .val (.int i1), .val (.int i2), .val (.int i3), .val (.int i4), .val (.int ca), .val (.int cb), .val (.int cc), .val (.int cd), .val (.int (7 : Int32)), .unset, .unset] [(.int cb), (.int (31 : Int32)), (.ref a568), (.ref a568)])) rfl rfl (hb hby at_877)
    refine oOn st726 ?_
    have z727 : h721.size ≤ h726.size := Nat.le_of_eq W726.size.symm
    have N726 := Fr.snoc X726 M723 (by omega)
    have Vq728 : oAI Z h726 a568 .char 65 (oPre (FL ca cb cc cd) 32) := V726.congr (fun j _ => oPre_up (F := (FL ca cb cc cd)) (k := 31) hn_cb j)
    have f729 := (f724.wr W726 (by omega))
    have f730 := (f725.wrA W726 Vq723 wiS (by decide))
    have zz728 : n0 ≤ h726.size := by omega
    have lq728 : @LT.lt Nat _ a568 h726.size := Vq728.lt
    obtain ⟨Lc728, Y728, M728⟩ : ∃ L, Stand p l e room_1 (s.setVm s.vm) m #[(.int i0), (.int i1), (.int i2), (.int i3), (.int i4)] below meth c T726 L 1 65 ∧ Fr n0 L := ⟨_, X726, N726⟩
    clear st726 V726 X726 N726 z727 W726 Y723 M723 Vq723 f724 f725 zz723 lq723 e721
    show oGl p e below (T726.setTop (mkF m 878 #[.val (.int i0), .val (.int i1), .val (.int i2), .val (.int i3), .val (.int i4), .val (.int ca), .val (.int cb), .val (.int cc), .val (.int cd), .val (.int (7 : Int32)), .unset, .unset] [(.ref a568)])) _
    refine sdup Y728 hx (hb hby at_878) rfl rfl (pc' := 879) ?_
    refine sbipush Y728 hx (hb hby at_879) rfl rfl (z := 32) (pc' := 881) ?_
    refine siload Y728 hx (hb hby at_881) rfl rfl (pc' := 883) ?_
    obtain ⟨T731, h731, X731, e731, W731, V731, st731⟩ := Vq728.stC Y728 hx hZ e726 (j := (32 : Int32)) (by decide) (g := (mkF m 883 #[.val (.int i0), .val (.int i1), .val (.int i2), .val (.int i3), .val (.int i4), .val (.int ca), .val (.int cb), .val (.int cc), .val (.int cd), .val (.int (7 : Int32)), .unset, .unset] [(.int ca), (.int (32 : Int32)), (.ref a568), (.ref a568)])) rfl rfl (hb hby at_883)
    refine oOn st731 ?_
    have z732 : h726.size ≤ h731.size := Nat.le_of_eq W731.size.symm
    have N731 := Fr.snoc X731 M728 (by omega)
    have Vq733 : oAI Z h731 a568 .char 65 (oPre (FL ca cb cc cd) 33) := V731.congr (fun j _ => oPre_up (F := (FL ca cb cc cd)) (k := 32) hn_ca j)
    have f734 := (f729.wr W731 (by omega))
    have f735 := (f730.wrA W731 Vq728 wiS (by decide))
    have zz733 : n0 ≤ h731.size := by omega
    have lq733 : @LT.lt Nat _ a568 h731.size := Vq733.lt
    obtain ⟨Lc733, Y733, M733⟩ : ∃ L, Stand p l e room_1 (s.setVm s.vm) m #[(.int i0), (.int i1), (.int i2), (.int i3), (.int i4)] below meth c T731 L 1 65 ∧ Fr n0 L := ⟨_, X731, N731⟩
    clear st731 V731 X731 N731 z732 W731 Y728 M728 Vq728 f729 f730 zz728 lq728 e726
    show oGl p e below (T731.setTop (mkF m 884 #[.val (.int i0), .val (.int i1), .val (.int i2), .val (.int i3), .val (.int i4), .val (.int ca), .val (.int cb), .val (.int cc), .val (.int cd), .val (.int (7 : Int32)), .unset, .unset] [(.ref a568)])) _
    refine sdup Y733 hx (hb hby at_884) rfl rfl (pc' := 885) ?_
    refine sbipush Y733 hx (hb hby at_885) rfl rfl (z := 33) (pc' := 887) ?_
    refine siload Y733 hx (hb hby at_887) rfl rfl (pc' := 889) ?_
    obtain ⟨T736, h736, X736, e736, W736, V736, st736⟩ := Vq733.stC Y733 hx hZ e731 (j := (33 : Int32)) (by decide) (g := (mkF m 889 #[.val (.int i0), .val (.int i1), .val (.int i2), .val (.int i3), .val (.int i4), .val (.int ca), .val (.int cb), .val (.int cc), .val (.int cd), .val (.int (7 : Int32)), .unset, .unset] [(.int cb), (.int (33 : Int32)), (.ref a568), (.ref a568)])) rfl rfl (hb hby at_889)
    refine oOn st736 ?_
    have z737 : h731.size ≤ h736.size := Nat.le_of_eq W736.size.symm
    have N736 := Fr.snoc X736 M733 (by omega)
    have Vq738 : oAI Z h736 a568 .char 65 (oPre (FL ca cb cc cd) 34) := V736.congr (fun j _ => oPre_up (F := (FL ca cb cc cd)) (k := 33) hn_cb j)
    have f739 := (f734.wr W736 (by omega))
    have f740 := (f735.wrA W736 Vq733 wiS (by decide))
    have zz738 : n0 ≤ h736.size := by omega
    have lq738 : @LT.lt Nat _ a568 h736.size := Vq738.lt
    obtain ⟨Lc738, Y738, M738⟩ : ∃ L, Stand p l e room_1 (s.setVm s.vm) m #[(.int i0), (.int i1), (.int i2), (.int i3), (.int i4)] below meth c T736 L 1 65 ∧ Fr n0 L := ⟨_, X736, N736⟩
    clear st736 V736 X736 N736 z737 W736 Y733 M733 Vq733 f734 f735 zz733 lq733 e731
    show oGl p e below (T736.setTop (mkF m 890 #[.val (.int i0), .val (.int i1), .val (.int i2), .val (.int i3), .val (.int i4), .val (.int ca), .val (.int cb), .val (.int cc), .val (.int cd), .val (.int (7 : Int32)), .unset, .unset] [(.ref a568)])) _
    refine sdup Y738 hx (hb hby at_890) rfl rfl (pc' := 891) ?_
    refine sbipush Y738 hx (hb hby at_891) rfl rfl (z := 34) (pc' := 893) ?_
    refine siload Y738 hx (hb hby at_893) rfl rfl (pc' := 895) ?_
    obtain ⟨T741, h741, X741, e741, W741, V741, st741⟩ := Vq738.stC Y738 hx hZ e736 (j := (34 : Int32)) (by decide) (g := (mkF m 895 #[.val (.int i0), .val (.int i1), .val (.int i2), .val (.int i3), .val (.int i4), .val (.int ca), .val (.int cb), .val (.int cc), .val (.int cd), .val (.int (7 : Int32)), .unset, .unset] [(.int ca), (.int (34 : Int32)), (.ref a568), (.ref a568)])) rfl rfl (hb hby at_895)
    refine oOn st741 ?_
    have z742 : h736.size ≤ h741.size := Nat.le_of_eq W741.size.symm
    have N741 := Fr.snoc X741 M738 (by omega)
    have Vq743 : oAI Z h741 a568 .char 65 (oPre (FL ca cb cc cd) 35) := V741.congr (fun j _ => oPre_up (F := (FL ca cb cc cd)) (k := 34) hn_ca j)
    have f744 := (f739.wr W741 (by omega))
    have f745 := (f740.wrA W741 Vq738 wiS (by decide))
    have zz743 : n0 ≤ h741.size := by omega
    have lq743 : @LT.lt Nat _ a568 h741.size := Vq743.lt
    obtain ⟨Lc743, Y743, M743⟩ : ∃ L, Stand p l e room_1 (s.setVm s.vm) m #[(.int i0), (.int i1), (.int i2), (.int i3), (.int i4)] below meth c T741 L 1 65 ∧ Fr n0 L := ⟨_, X741, N741⟩
    clear st741 V741 X741 N741 z742 W741 Y738 M738 Vq738 f739 f740 zz738 lq738 e736
    show oGl p e below (T741.setTop (mkF m 896 #[.val (.int i0), .val (.int i1), .val (.int i2), .val (.int i3), .val (.int i4), .val (.int ca), .val (.int cb), .val (.int cc), .val (.int cd), .val (.int (7 : Int32)), .unset, .unset] [(.ref a568)])) _
    refine sdup Y743 hx (hb hby at_896) rfl rfl (pc' := 897) ?_
    refine sbipush Y743 hx (hb hby at_897) rfl rfl (z := 35) (pc' := 899) ?_
    refine siload Y743 hx (hb hby at_899) rfl rfl (pc' := 901) ?_
    obtain ⟨T746, h746, X746, e746, W746, V746, st746⟩ := Vq743.stC Y743 hx hZ e741 (j := (35 : Int32)) (by decide) (g := (mkF m 901 #[.val (.int i0), .val (.int i1), .val (.int i2), .val (.int i3), .val (.int i4), .val (.int ca), .val (.int cb), .val (.int cc), .val (.int cd), .val (.int (7 : Int32)), .unset, .unset] [(.int cb), (.int (35 : Int32)), (.ref a568), (.ref a568)])) rfl rfl (hb hby at_901)
    refine oOn st746 ?_
    have z747 : h741.size ≤ h746.size := Nat.le_of_eq W746.size.symm
    have N746 := Fr.snoc X746 M743 (by omega)
    have Vq748 : oAI Z h746 a568 .char 65 (oPre (FL ca cb cc cd) 36) := V746.congr (fun j _ => oPre_up (F := (FL ca cb cc cd)) (k := 35) hn_cb j)
    have f749 := (f744.wr W746 (by omega))
    have f750 := (f745.wrA W746 Vq743 wiS (by decide))
    have zz748 : n0 ≤ h746.size := by omega
    have lq748 : @LT.lt Nat _ a568 h746.size := Vq748.lt
    obtain ⟨Lc748, Y748, M748⟩ : ∃ L, Stand p l e room_1 (s.setVm s.vm) m #[(.int i0), (.int i1), (.int i2), (.int i3), (.int i4)] below meth c T746 L 1 65 ∧ Fr n0 L := ⟨_, X746, N746⟩
    clear st746 V746 X746 N746 z747 W746 Y743 M743 Vq743 f744 f745 zz743 lq743 e741
    show oGl p e below (T746.setTop (mkF m 902 #[.val (.int i0), .val (.int i1), .val (.int i2), .val (.int i3), .val (.int i4), .val (.int ca), .val (.int cb), .val (.int cc), .val (.int cd), .val (.int (7 : Int32)), .unset, .unset] [(.ref a568)])) _
    refine sdup Y748 hx (hb hby at_902) rfl rfl (pc' := 903) ?_
    refine sbipush Y748 hx (hb hby at_903) rfl rfl (z := 36) (pc' := 905) ?_
    refine siload Y748 hx (hb hby at_905) rfl rfl (pc' := 907) ?_
    obtain ⟨T751, h751, X751, e751, W751, V751, st751⟩ := Vq748.stC Y748 hx hZ e746 (j := (36 : Int32)) (by decide) (g := (mkF m 907 #[.val (.int i0), .val (.int i1), .val (.int i2), .val (.int i3), .val (.int i4), .val (.int ca), .val (.int cb), .val (.int cc), .val (.int cd), .val (.int (7 : Int32)), .unset, .unset] [(.int ca), (.int (36 : Int32)), (.ref a568), (.ref a568)])) rfl rfl (hb hby at_907)
    refine oOn st751 ?_
    have z752 : h746.size ≤ h751.size := Nat.le_of_eq W751.size.symm
    have N751 := Fr.snoc X751 M748 (by omega)
    have Vq753 : oAI Z h751 a568 .char 65 (oPre (FL ca cb cc cd) 37) := V751.congr (fun j _ => oPre_up (F := (FL ca cb cc cd)) (k := 36) hn_ca j)
    have f754 := (f749.wr W751 (by omega))
    have f755 := (f750.wrA W751 Vq748 wiS (by decide))
    have zz753 : n0 ≤ h751.size := by omega
    have lq753 : @LT.lt Nat _ a568 h751.size := Vq753.lt
    obtain ⟨Lc753, Y753, M753⟩ : ∃ L, Stand p l e room_1 (s.setVm s.vm) m #[(.int i0), (.int i1), (.int i2), (.int i3), (.int i4)] below meth c T751 L 1 65 ∧ Fr n0 L := ⟨_, X751, N751⟩
    clear st751 V751 X751 N751 z752 W751 Y748 M748 Vq748 f749 f750 zz748 lq748 e746
    show oGl p e below (T751.setTop (mkF m 908 #[.val (.int i0), .val (.int i1), .val (.int i2), .val (.int i3), .val (.int i4), .val (.int ca), .val (.int cb), .val (.int cc), .val (.int cd), .val (.int (7 : Int32)), .unset, .unset] [(.ref a568)])) _
    refine sdup Y753 hx (hb hby at_908) rfl rfl (pc' := 909) ?_
    refine sbipush Y753 hx (hb hby at_909) rfl rfl (z := 37) (pc' := 911) ?_
    refine siload Y753 hx (hb hby at_911) rfl rfl (pc' := 913) ?_
    obtain ⟨T756, h756, X756, e756, W756, V756, st756⟩ := Vq753.stC Y753 hx hZ e751 (j := (37 : Int32)) (by decide) (g := (mkF m 913 #[.val (.int i0), .val (.int i1), .val (.int i2), .val (.int i3), .val (.int i4), .val (.int ca), .val (.int cb), .val (.int cc), .val (.int cd), .val (.int (7 : Int32)), .unset, .unset] [(.int cb), (.int (37 : Int32)), (.ref a568), (.ref a568)])) rfl rfl (hb hby at_913)
    refine oOn st756 ?_
    have z757 : h751.size ≤ h756.size := Nat.le_of_eq W756.size.symm
    have N756 := Fr.snoc X756 M753 (by omega)
    have Vq758 : oAI Z h756 a568 .char 65 (oPre (FL ca cb cc cd) 38) := V756.congr (fun j _ => oPre_up (F := (FL ca cb cc cd)) (k := 37) hn_cb j)
    have f759 := (f754.wr W756 (by omega))
    have f760 := (f755.wrA W756 Vq753 wiS (by decide))
    have zz758 : n0 ≤ h756.size := by omega
    have lq758 : @LT.lt Nat _ a568 h756.size := Vq758.lt
    obtain ⟨Lc758, Y758, M758⟩ : ∃ L, Stand p l e room_1 (s.setVm s.vm) m #[(.int i0), (.int i1), (.int i2), (.int i3), (.int i4)] below meth c T756 L 1 65 ∧ Fr n0 L := ⟨_, X756, N756⟩
    clear st756 V756 X756 N756 z757 W756 Y753 M753 Vq753 f754 f755 zz753 lq753 e751
    show oGl p e below (T756.setTop (mkF m 914 #[.val (.int i0), .val (.int i1), .val (.int i2), .val (.int i3), .val (.int i4), .val (.int ca), .val (.int cb), .val (.int cc), .val (.int cd), .val (.int (7 : Int32)), .unset, .unset] [(.ref a568)])) _
    refine sdup Y758 hx (hb hby at_914) rfl rfl (pc' := 915) ?_
    refine sbipush Y758 hx (hb hby at_915) rfl rfl (z := 38) (pc' := 917) ?_
    refine siload Y758 hx (hb hby at_917) rfl rfl (pc' := 919) ?_
    obtain ⟨T761, h761, X761, e761, W761, V761, st761⟩ := Vq758.stC Y758 hx hZ e756 (j := (38 : Int32)) (by decide) (g := (mkF m 919 #[.val (.int i0), .val (.int i1), .val (.int i2), .val (.int i3), .val (.int i4), .val (.int ca), .val (.int cb), .val (.int cc), .val (.int cd), .val (.int (7 : Int32)), .unset, .unset] [(.int ca), (.int (38 : Int32)), (.ref a568), (.ref a568)])) rfl rfl (hb hby at_919)
    refine oOn st761 ?_
    have z762 : h756.size ≤ h761.size := Nat.le_of_eq W761.size.symm
    have N761 := Fr.snoc X761 M758 (by omega)
    have Vq763 : oAI Z h761 a568 .char 65 (oPre (FL ca cb cc cd) 39) := V761.congr (fun j _ => oPre_up (F := (FL ca cb cc cd)) (k := 38) hn_ca j)
    have f764 := (f759.wr W761 (by omega))
    have f765 := (f760.wrA W761 Vq758 wiS (by decide))
    have zz763 : n0 ≤ h761.size := by omega
    have lq763 : @LT.lt Nat _ a568 h761.size := Vq763.lt
    obtain ⟨Lc763, Y763, M763⟩ : ∃ L, Stand p l e room_1 (s.setVm s.vm) m #[(.int i0), (.int i1), (.int i2), (.int i3), (.int i4)] below meth c T761 L 1 65 ∧ Fr n0 L := ⟨_, X761, N761⟩
    clear st761 V761 X761 N761 z762 W761 Y758 M758 Vq758 f759 f760 zz758 lq758 e756
    show oGl p e below (T761.setTop (mkF m 920 #[.val (.int i0), .val (.int i1), .val (.int i2), .val (.int i3), .val (.int i4), .val (.int ca), .val (.int cb), .val (.int cc), .val (.int cd), .val (.int (7 : Int32)), .unset, .unset] [(.ref a568)])) _
    refine sdup Y763 hx (hb hby at_920) rfl rfl (pc' := 921) ?_
    refine sbipush Y763 hx (hb hby at_921) rfl rfl (z := 39) (pc' := 923) ?_
    refine siload Y763 hx (hb hby at_923) rfl rfl (pc' := 925) ?_
    obtain ⟨T766, h766, X766, e766, W766, V766, st766⟩ := Vq763.stC Y763 hx hZ e761 (j := (39 : Int32)) (by decide) (g := (mkF m 925 #[.val (.int i0), .val (.int i1), .val (.int i2), .val (.int i3), .val (.int i4), .val (.int ca), .val (.int cb), .val (.int cc), .val (.int cd), .val (.int (7 : Int32)), .unset, .unset] [(.int cb), (.int (39 : Int32)), (.ref a568), (.ref a568)])) rfl rfl (hb hby at_925)
    refine oOn st766 ?_
    have z767 : h761.size ≤ h766.size := Nat.le_of_eq W766.size.symm
    have N766 := Fr.snoc X766 M763 (by omega)
    have Vq768 : oAI Z h766 a568 .char 65 (oPre (FL ca cb cc cd) 40) := V766.congr (fun j _ => oPre_up (F := (FL ca cb cc cd)) (k := 39) hn_cb j)
    have f769 := (f764.wr W766 (by omega))
    have f770 := (f765.wrA W766 Vq763 wiS (by decide))
    have zz768 : n0 ≤ h766.size := by omega
    have lq768 : @LT.lt Nat _ a568 h766.size := Vq768.lt
    obtain ⟨Lc768, Y768, M768⟩ : ∃ L, Stand p l e room_1 (s.setVm s.vm) m #[(.int i0), (.int i1), (.int i2), (.int i3), (.int i4)] below meth c T766 L 1 65 ∧ Fr n0 L := ⟨_, X766, N766⟩
    clear st766 V766 X766 N766 z767 W766 Y763 M763 Vq763 f764 f765 zz763 lq763 e761
    show oGl p e below (T766.setTop (mkF m 926 #[.val (.int i0), .val (.int i1), .val (.int i2), .val (.int i3), .val (.int i4), .val (.int ca), .val (.int cb), .val (.int cc), .val (.int cd), .val (.int (7 : Int32)), .unset, .unset] [(.ref a568)])) _
    refine sdup Y768 hx (hb hby at_926) rfl rfl (pc' := 927) ?_
    refine sbipush Y768 hx (hb hby at_927) rfl rfl (z := 40) (pc' := 929) ?_
    refine siload Y768 hx (hb hby at_929) rfl rfl (pc' := 931) ?_
    obtain ⟨T771, h771, X771, e771, W771, V771, st771⟩ := Vq768.stC Y768 hx hZ e766 (j := (40 : Int32)) (by decide) (g := (mkF m 931 #[.val (.int i0), .val (.int i1), .val (.int i2), .val (.int i3), .val (.int i4), .val (.int ca), .val (.int cb), .val (.int cc), .val (.int cd), .val (.int (7 : Int32)), .unset, .unset] [(.int ca), (.int (40 : Int32)), (.ref a568), (.ref a568)])) rfl rfl (hb hby at_931)
    refine oOn st771 ?_
    have z772 : h766.size ≤ h771.size := Nat.le_of_eq W771.size.symm
    have N771 := Fr.snoc X771 M768 (by omega)
    have Vq773 : oAI Z h771 a568 .char 65 (oPre (FL ca cb cc cd) 41) := V771.congr (fun j _ => oPre_up (F := (FL ca cb cc cd)) (k := 40) hn_ca j)
    have f774 := (f769.wr W771 (by omega))
    have f775 := (f770.wrA W771 Vq768 wiS (by decide))
    have zz773 : n0 ≤ h771.size := by omega
    have lq773 : @LT.lt Nat _ a568 h771.size := Vq773.lt
    obtain ⟨Lc773, Y773, M773⟩ : ∃ L, Stand p l e room_1 (s.setVm s.vm) m #[(.int i0), (.int i1), (.int i2), (.int i3), (.int i4)] below meth c T771 L 1 65 ∧ Fr n0 L := ⟨_, X771, N771⟩
    clear st771 V771 X771 N771 z772 W771 Y768 M768 Vq768 f769 f770 zz768 lq768 e766
    show oGl p e below (T771.setTop (mkF m 932 #[.val (.int i0), .val (.int i1), .val (.int i2), .val (.int i3), .val (.int i4), .val (.int ca), .val (.int cb), .val (.int cc), .val (.int cd), .val (.int (7 : Int32)), .unset, .unset] [(.ref a568)])) _
    refine sdup Y773 hx (hb hby at_932) rfl rfl (pc' := 933) ?_
    refine sbipush Y773 hx (hb hby at_933) rfl rfl (z := 41) (pc' := 935) ?_
    refine siload Y773 hx (hb hby at_935) rfl rfl (pc' := 937) ?_
    obtain ⟨T776, h776, X776, e776, W776, V776, st776⟩ := Vq773.stC Y773 hx hZ e771 (j := (41 : Int32)) (by decide) (g := (mkF m 937 #[.val (.int i0), .val (.int i1), .val (.int i2), .val (.int i3), .val (.int i4), .val (.int ca), .val (.int cb), .val (.int cc), .val (.int cd), .val (.int (7 : Int32)), .unset, .unset] [(.int cb), (.int (41 : Int32)), (.ref a568), (.ref a568)])) rfl rfl (hb hby at_937)
    refine oOn st776 ?_
    have z777 : h771.size ≤ h776.size := Nat.le_of_eq W776.size.symm
    have N776 := Fr.snoc X776 M773 (by omega)
    have Vq778 : oAI Z h776 a568 .char 65 (oPre (FL ca cb cc cd) 42) := V776.congr (fun j _ => oPre_up (F := (FL ca cb cc cd)) (k := 41) hn_cb j)
    have f779 := (f774.wr W776 (by omega))
    have f780 := (f775.wrA W776 Vq773 wiS (by decide))
    have zz778 : n0 ≤ h776.size := by omega
    have lq778 : @LT.lt Nat _ a568 h776.size := Vq778.lt
    obtain ⟨Lc778, Y778, M778⟩ : ∃ L, Stand p l e room_1 (s.setVm s.vm) m #[(.int i0), (.int i1), (.int i2), (.int i3), (.int i4)] below meth c T776 L 1 65 ∧ Fr n0 L := ⟨_, X776, N776⟩
    clear st776 V776 X776 N776 z777 W776 Y773 M773 Vq773 f774 f775 zz773 lq773 e771
    show oGl p e below (T776.setTop (mkF m 938 #[.val (.int i0), .val (.int i1), .val (.int i2), .val (.int i3), .val (.int i4), .val (.int ca), .val (.int cb), .val (.int cc), .val (.int cd), .val (.int (7 : Int32)), .unset, .unset] [(.ref a568)])) _
    refine sdup Y778 hx (hb hby at_938) rfl rfl (pc' := 939) ?_
    refine sbipush Y778 hx (hb hby at_939) rfl rfl (z := 42) (pc' := 941) ?_
    refine siload Y778 hx (hb hby at_941) rfl rfl (pc' := 943) ?_
    obtain ⟨T781, h781, X781, e781, W781, V781, st781⟩ := Vq778.stC Y778 hx hZ e776 (j := (42 : Int32)) (by decide) (g := (mkF m 943 #[.val (.int i0), .val (.int i1), .val (.int i2), .val (.int i3), .val (.int i4), .val (.int ca), .val (.int cb), .val (.int cc), .val (.int cd), .val (.int (7 : Int32)), .unset, .unset] [(.int ca), (.int (42 : Int32)), (.ref a568), (.ref a568)])) rfl rfl (hb hby at_943)
    refine oOn st781 ?_
    have z782 : h776.size ≤ h781.size := Nat.le_of_eq W781.size.symm
    have N781 := Fr.snoc X781 M778 (by omega)
    have Vq783 : oAI Z h781 a568 .char 65 (oPre (FL ca cb cc cd) 43) := V781.congr (fun j _ => oPre_up (F := (FL ca cb cc cd)) (k := 42) hn_ca j)
    have f784 := (f779.wr W781 (by omega))
    have f785 := (f780.wrA W781 Vq778 wiS (by decide))
    have zz783 : n0 ≤ h781.size := by omega
    have lq783 : @LT.lt Nat _ a568 h781.size := Vq783.lt
    obtain ⟨Lc783, Y783, M783⟩ : ∃ L, Stand p l e room_1 (s.setVm s.vm) m #[(.int i0), (.int i1), (.int i2), (.int i3), (.int i4)] below meth c T781 L 1 65 ∧ Fr n0 L := ⟨_, X781, N781⟩
    clear st781 V781 X781 N781 z782 W781 Y778 M778 Vq778 f779 f780 zz778 lq778 e776
    show oGl p e below (T781.setTop (mkF m 944 #[.val (.int i0), .val (.int i1), .val (.int i2), .val (.int i3), .val (.int i4), .val (.int ca), .val (.int cb), .val (.int cc), .val (.int cd), .val (.int (7 : Int32)), .unset, .unset] [(.ref a568)])) _
    refine sdup Y783 hx (hb hby at_944) rfl rfl (pc' := 945) ?_
    refine sbipush Y783 hx (hb hby at_945) rfl rfl (z := 43) (pc' := 947) ?_
    refine siload Y783 hx (hb hby at_947) rfl rfl (pc' := 949) ?_
    obtain ⟨T786, h786, X786, e786, W786, V786, st786⟩ := Vq783.stC Y783 hx hZ e781 (j := (43 : Int32)) (by decide) (g := (mkF m 949 #[.val (.int i0), .val (.int i1), .val (.int i2), .val (.int i3), .val (.int i4), .val (.int ca), .val (.int cb), .val (.int cc), .val (.int cd), .val (.int (7 : Int32)), .unset, .unset] [(.int cb), (.int (43 : Int32)), (.ref a568), (.ref a568)])) rfl rfl (hb hby at_949)
    refine oOn st786 ?_
    have z787 : h781.size ≤ h786.size := Nat.le_of_eq W786.size.symm
    have N786 := Fr.snoc X786 M783 (by omega)
    have Vq788 : oAI Z h786 a568 .char 65 (oPre (FL ca cb cc cd) 44) := V786.congr (fun j _ => oPre_up (F := (FL ca cb cc cd)) (k := 43) hn_cb j)
    have f789 := (f784.wr W786 (by omega))
    have f790 := (f785.wrA W786 Vq783 wiS (by decide))
    have zz788 : n0 ≤ h786.size := by omega
    have lq788 : @LT.lt Nat _ a568 h786.size := Vq788.lt
    obtain ⟨Lc788, Y788, M788⟩ : ∃ L, Stand p l e room_1 (s.setVm s.vm) m #[(.int i0), (.int i1), (.int i2), (.int i3), (.int i4)] below meth c T786 L 1 65 ∧ Fr n0 L := ⟨_, X786, N786⟩
    clear st786 V786 X786 N786 z787 W786 Y783 M783 Vq783 f784 f785 zz783 lq783 e781
    show oGl p e below (T786.setTop (mkF m 950 #[.val (.int i0), .val (.int i1), .val (.int i2), .val (.int i3), .val (.int i4), .val (.int ca), .val (.int cb), .val (.int cc), .val (.int cd), .val (.int (7 : Int32)), .unset, .unset] [(.ref a568)])) _
    refine sdup Y788 hx (hb hby at_950) rfl rfl (pc' := 951) ?_
    refine sbipush Y788 hx (hb hby at_951) rfl rfl (z := 44) (pc' := 953) ?_
    refine siload Y788 hx (hb hby at_953) rfl rfl (pc' := 955) ?_
    obtain ⟨T791, h791, X791, e791, W791, V791, st791⟩ := Vq788.stC Y788 hx hZ e786 (j := (44 : Int32)) (by decide) (g := (mkF m 955 #[.val (.int i0), .val (.int i1), .val (.int i2), .val (.int i3), .val (.int i4), .val (.int ca), .val (.int cb), .val (.int cc), .val (.int cd), .val (.int (7 : Int32)), .unset, .unset] [(.int ca), (.int (44 : Int32)), (.ref a568), (.ref a568)])) rfl rfl (hb hby at_955)
    refine oOn st791 ?_
    have z792 : h786.size ≤ h791.size := Nat.le_of_eq W791.size.symm
    have N791 := Fr.snoc X791 M788 (by omega)
    have Vq793 : oAI Z h791 a568 .char 65 (oPre (FL ca cb cc cd) 45) := V791.congr (fun j _ => oPre_up (F := (FL ca cb cc cd)) (k := 44) hn_ca j)
    have f794 := (f789.wr W791 (by omega))
    have f795 := (f790.wrA W791 Vq788 wiS (by decide))
    have zz793 : n0 ≤ h791.size := by omega
    have lq793 : @LT.lt Nat _ a568 h791.size := Vq793.lt
    obtain ⟨Lc793, Y793, M793⟩ : ∃ L, Stand p l e room_1 (s.setVm s.vm) m #[(.int i0), (.int i1), (.int i2), (.int i3), (.int i4)] below meth c T791 L 1 65 ∧ Fr n0 L := ⟨_, X791, N791⟩
    clear st791 V791 X791 N791 z792 W791 Y788 M788 Vq788 f789 f790 zz788 lq788 e786
    show oGl p e below (T791.setTop (mkF m 956 #[.val (.int i0), .val (.int i1), .val (.int i2), .val (.int i3), .val (.int i4), .val (.int ca), .val (.int cb), .val (.int cc), .val (.int cd), .val (.int (7 : Int32)), .unset, .unset] [(.ref a568)])) _
    refine sdup Y793 hx (hb hby at_956) rfl rfl (pc' := 957) ?_
    refine sbipush Y793 hx (hb hby at_957) rfl rfl (z := 45) (pc' := 959) ?_
    refine siload Y793 hx (hb hby at_959) rfl rfl (pc' := 961) ?_
    obtain ⟨T796, h796, X796, e796, W796, V796, st796⟩ := Vq793.stC Y793 hx hZ e791 (j := (45 : Int32)) (by decide) (g := (mkF m 961 #[.val (.int i0), .val (.int i1), .val (.int i2), .val (.int i3), .val (.int i4), .val (.int ca), .val (.int cb), .val (.int cc), .val (.int cd), .val (.int (7 : Int32)), .unset, .unset] [(.int cb), (.int (45 : Int32)), (.ref a568), (.ref a568)])) rfl rfl (hb hby at_961)
    refine oOn st796 ?_
    have z797 : h791.size ≤ h796.size := Nat.le_of_eq W796.size.symm
    have N796 := Fr.snoc X796 M793 (by omega)
    have Vq798 : oAI Z h796 a568 .char 65 (oPre (FL ca cb cc cd) 46) := V796.congr (fun j _ => oPre_up (F := (FL ca cb cc cd)) (k := 45) hn_cb j)
    have f799 := (f794.wr W796 (by omega))
    have f800 := (f795.wrA W796 Vq793 wiS (by decide))
    have zz798 : n0 ≤ h796.size := by omega
    have lq798 : @LT.lt Nat _ a568 h796.size := Vq798.lt
    obtain ⟨Lc798, Y798, M798⟩ : ∃ L, Stand p l e room_1 (s.setVm s.vm) m #[(.int i0), (.int i1), (.int i2), (.int i3), (.int i4)] below meth c T796 L 1 65 ∧ Fr n0 L := ⟨_, X796, N796⟩
    clear st796 V796 X796 N796 z797 W796 Y793 M793 Vq793 f794 f795 zz793 lq793 e791
    show oGl p e below (T796.setTop (mkF m 962 #[.val (.int i0), .val (.int i1), .val (.int i2), .val (.int i3), .val (.int i4), .val (.int ca), .val (.int cb), .val (.int cc), .val (.int cd), .val (.int (7 : Int32)), .unset, .unset] [(.ref a568)])) _
    refine sdup Y798 hx (hb hby at_962) rfl rfl (pc' := 963) ?_
    refine sbipush Y798 hx (hb hby at_963) rfl rfl (z := 46) (pc' := 965) ?_
    refine siload Y798 hx (hb hby at_965) rfl rfl (pc' := 967) ?_
    obtain ⟨T801, h801, X801, e801, W801, V801, st801⟩ := Vq798.stC Y798 hx hZ e796 (j := (46 : Int32)) (by decide) (g := (mkF m 967 #[.val (.int i0), .val (.int i1), .val (.int i2), .val (.int i3), .val (.int i4), .val (.int ca), .val (.int cb), .val (.int cc), .val (.int cd), .val (.int (7 : Int32)), .unset, .unset] [(.int ca), (.int (46 : Int32)), (.ref a568), (.ref a568)])) rfl rfl (hb hby at_967)
    refine oOn st801 ?_
    have z802 : h796.size ≤ h801.size := Nat.le_of_eq W801.size.symm
    have N801 := Fr.snoc X801 M798 (by omega)
    have Vq803 : oAI Z h801 a568 .char 65 (oPre (FL ca cb cc cd) 47) := V801.congr (fun j _ => oPre_up (F := (FL ca cb cc cd)) (k := 46) hn_ca j)
    have f804 := (f799.wr W801 (by omega))
    have f805 := (f800.wrA W801 Vq798 wiS (by decide))
    have zz803 : n0 ≤ h801.size := by omega
    have lq803 : @LT.lt Nat _ a568 h801.size := Vq803.lt
    obtain ⟨Lc803, Y803, M803⟩ : ∃ L, Stand p l e room_1 (s.setVm s.vm) m #[(.int i0), (.int i1), (.int i2), (.int i3), (.int i4)] below meth c T801 L 1 65 ∧ Fr n0 L := ⟨_, X801, N801⟩
    clear st801 V801 X801 N801 z802 W801 Y798 M798 Vq798 f799 f800 zz798 lq798 e796
    show oGl p e below (T801.setTop (mkF m 968 #[.val (.int i0), .val (.int i1), .val (.int i2), .val (.int i3), .val (.int i4), .val (.int ca), .val (.int cb), .val (.int cc), .val (.int cd), .val (.int (7 : Int32)), .unset, .unset] [(.ref a568)])) _
    refine sdup Y803 hx (hb hby at_968) rfl rfl (pc' := 969) ?_
    refine sbipush Y803 hx (hb hby at_969) rfl rfl (z := 47) (pc' := 971) ?_
    refine siload Y803 hx (hb hby at_971) rfl rfl (pc' := 973) ?_
    obtain ⟨T806, h806, X806, e806, W806, V806, st806⟩ := Vq803.stC Y803 hx hZ e801 (j := (47 : Int32)) (by decide) (g := (mkF m 973 #[.val (.int i0), .val (.int i1), .val (.int i2), .val (.int i3), .val (.int i4), .val (.int ca), .val (.int cb), .val (.int cc), .val (.int cd), .val (.int (7 : Int32)), .unset, .unset] [(.int cb), (.int (47 : Int32)), (.ref a568), (.ref a568)])) rfl rfl (hb hby at_973)
    refine oOn st806 ?_
    have z807 : h801.size ≤ h806.size := Nat.le_of_eq W806.size.symm
    have N806 := Fr.snoc X806 M803 (by omega)
    have Vq808 : oAI Z h806 a568 .char 65 (oPre (FL ca cb cc cd) 48) := V806.congr (fun j _ => oPre_up (F := (FL ca cb cc cd)) (k := 47) hn_cb j)
    have f809 := (f804.wr W806 (by omega))
    have f810 := (f805.wrA W806 Vq803 wiS (by decide))
    have zz808 : n0 ≤ h806.size := by omega
    have lq808 : @LT.lt Nat _ a568 h806.size := Vq808.lt
    obtain ⟨Lc808, Y808, M808⟩ : ∃ L, Stand p l e room_1 (s.setVm s.vm) m #[(.int i0), (.int i1), (.int i2), (.int i3), (.int i4)] below meth c T806 L 1 65 ∧ Fr n0 L := ⟨_, X806, N806⟩
    clear st806 V806 X806 N806 z807 W806 Y803 M803 Vq803 f804 f805 zz803 lq803 e801
    show oGl p e below (T806.setTop (mkF m 974 #[.val (.int i0), .val (.int i1), .val (.int i2), .val (.int i3), .val (.int i4), .val (.int ca), .val (.int cb), .val (.int cc), .val (.int cd), .val (.int (7 : Int32)), .unset, .unset] [(.ref a568)])) _
    refine sdup Y808 hx (hb hby at_974) rfl rfl (pc' := 975) ?_
    refine sbipush Y808 hx (hb hby at_975) rfl rfl (z := 48) (pc' := 977) ?_
    refine siload Y808 hx (hb hby at_977) rfl rfl (pc' := 979) ?_
    obtain ⟨T811, h811, X811, e811, W811, V811, st811⟩ := Vq808.stC Y808 hx hZ e806 (j := (48 : Int32)) (by decide) (g := (mkF m 979 #[.val (.int i0), .val (.int i1), .val (.int i2), .val (.int i3), .val (.int i4), .val (.int ca), .val (.int cb), .val (.int cc), .val (.int cd), .val (.int (7 : Int32)), .unset, .unset] [(.int ca), (.int (48 : Int32)), (.ref a568), (.ref a568)])) rfl rfl (hb hby at_979)
    refine oOn st811 ?_
    have z812 : h806.size ≤ h811.size := Nat.le_of_eq W811.size.symm
    have N811 := Fr.snoc X811 M808 (by omega)
    have Vq813 : oAI Z h811 a568 .char 65 (oPre (FL ca cb cc cd) 49) := V811.congr (fun j _ => oPre_up (F := (FL ca cb cc cd)) (k := 48) hn_ca j)
    have f814 := (f809.wr W811 (by omega))
    have f815 := (f810.wrA W811 Vq808 wiS (by decide))
    have zz813 : n0 ≤ h811.size := by omega
    have lq813 : @LT.lt Nat _ a568 h811.size := Vq813.lt
    obtain ⟨Lc813, Y813, M813⟩ : ∃ L, Stand p l e room_1 (s.setVm s.vm) m #[(.int i0), (.int i1), (.int i2), (.int i3), (.int i4)] below meth c T811 L 1 65 ∧ Fr n0 L := ⟨_, X811, N811⟩
    clear st811 V811 X811 N811 z812 W811 Y808 M808 Vq808 f809 f810 zz808 lq808 e806
    show oGl p e below (T811.setTop (mkF m 980 #[.val (.int i0), .val (.int i1), .val (.int i2), .val (.int i3), .val (.int i4), .val (.int ca), .val (.int cb), .val (.int cc), .val (.int cd), .val (.int (7 : Int32)), .unset, .unset] [(.ref a568)])) _
    refine sdup Y813 hx (hb hby at_980) rfl rfl (pc' := 981) ?_
    refine sbipush Y813 hx (hb hby at_981) rfl rfl (z := 49) (pc' := 983) ?_
    refine siload Y813 hx (hb hby at_983) rfl rfl (pc' := 985) ?_
    obtain ⟨T816, h816, X816, e816, W816, V816, st816⟩ := Vq813.stC Y813 hx hZ e811 (j := (49 : Int32)) (by decide) (g := (mkF m 985 #[.val (.int i0), .val (.int i1), .val (.int i2), .val (.int i3), .val (.int i4), .val (.int ca), .val (.int cb), .val (.int cc), .val (.int cd), .val (.int (7 : Int32)), .unset, .unset] [(.int cb), (.int (49 : Int32)), (.ref a568), (.ref a568)])) rfl rfl (hb hby at_985)
    refine oOn st816 ?_
    have z817 : h811.size ≤ h816.size := Nat.le_of_eq W816.size.symm
    have N816 := Fr.snoc X816 M813 (by omega)
    have Vq818 : oAI Z h816 a568 .char 65 (oPre (FL ca cb cc cd) 50) := V816.congr (fun j _ => oPre_up (F := (FL ca cb cc cd)) (k := 49) hn_cb j)
    have f819 := (f814.wr W816 (by omega))
    have f820 := (f815.wrA W816 Vq813 wiS (by decide))
    have zz818 : n0 ≤ h816.size := by omega
    have lq818 : @LT.lt Nat _ a568 h816.size := Vq818.lt
    obtain ⟨Lc818, Y818, M818⟩ : ∃ L, Stand p l e room_1 (s.setVm s.vm) m #[(.int i0), (.int i1), (.int i2), (.int i3), (.int i4)] below meth c T816 L 1 65 ∧ Fr n0 L := ⟨_, X816, N816⟩
    clear st816 V816 X816 N816 z817 W816 Y813 M813 Vq813 f814 f815 zz813 lq813 e811
    show oGl p e below (T816.setTop (mkF m 986 #[.val (.int i0), .val (.int i1), .val (.int i2), .val (.int i3), .val (.int i4), .val (.int ca), .val (.int cb), .val (.int cc), .val (.int cd), .val (.int (7 : Int32)), .unset, .unset] [(.ref a568)])) _
    refine sdup Y818 hx (hb hby at_986) rfl rfl (pc' := 987) ?_
    refine sbipush Y818 hx (hb hby at_987) rfl rfl (z := 50) (pc' := 989) ?_
    refine siload Y818 hx (hb hby at_989) rfl rfl (pc' := 991) ?_
    obtain ⟨T821, h821, X821, e821, W821, V821, st821⟩ := Vq818.stC Y818 hx hZ e816 (j := (50 : Int32)) (by decide) (g := (mkF m 991 #[.val (.int i0), .val (.int i1), .val (.int i2), .val (.int i3), .val (.int i4), .val (.int ca), .val (.int cb), .val (.int cc), .val (.int cd), .val (.int (7 : Int32)), .unset, .unset] [(.int ca), (.int (50 : Int32)), (.ref a568), (.ref a568)])) rfl rfl (hb hby at_991)
    refine oOn st821 ?_
    have z822 : h816.size ≤ h821.size := Nat.le_of_eq W821.size.symm
    have N821 := Fr.snoc X821 M818 (by omega)
    have Vq823 : oAI Z h821 a568 .char 65 (oPre (FL ca cb cc cd) 51) := V821.congr (fun j _ => oPre_up (F := (FL ca cb cc cd)) (k := 50) hn_ca j)
    have f824 := (f819.wr W821 (by omega))
    have f825 := (f820.wrA W821 Vq818 wiS (by decide))
    have zz823 : n0 ≤ h821.size := by omega
    have lq823 : @LT.lt Nat _ a568 h821.size := Vq823.lt
    obtain ⟨Lc823, Y823, M823⟩ : ∃ L, Stand p l e room_1 (s.setVm s.vm) m #[(.int i0), (.int i1), (.int i2), (.int i3), (.int i4)] below meth c T821 L 1 65 ∧ Fr n0 L := ⟨_, X821, N821⟩
    clear st821 V821 X821 N821 z822 W821 Y818 M818 Vq818 f819 f820 zz818 lq818 e816
    show oGl p e below (T821.setTop (mkF m 992 #[.val (.int i0), .val (.int i1), .val (.int i2), .val (.int i3), .val (.int i4), .val (.int ca), .val (.int cb), .val (.int cc), .val (.int cd), .val (.int (7 : Int32)), .unset, .unset] [(.ref a568)])) _
    refine sdup Y823 hx (hb hby at_992) rfl rfl (pc' := 993) ?_
    refine sbipush Y823 hx (hb hby at_993) rfl rfl (z := 51) (pc' := 995) ?_
    refine siload Y823 hx (hb hby at_995) rfl rfl (pc' := 997) ?_
    obtain ⟨T826, h826, X826, e826, W826, V826, st826⟩ := Vq823.stC Y823 hx hZ e821 (j := (51 : Int32)) (by decide) (g := (mkF m 997 #[.val (.int i0), .val (.int i1), .val (.int i2), .val (.int i3), .val (.int i4), .val (.int ca), .val (.int cb), .val (.int cc), .val (.int cd), .val (.int (7 : Int32)), .unset, .unset] [(.int cb), (.int (51 : Int32)), (.ref a568), (.ref a568)])) rfl rfl (hb hby at_997)
    refine oOn st826 ?_
    have z827 : h821.size ≤ h826.size := Nat.le_of_eq W826.size.symm
    have N826 := Fr.snoc X826 M823 (by omega)
    have Vq828 : oAI Z h826 a568 .char 65 (oPre (FL ca cb cc cd) 52) := V826.congr (fun j _ => oPre_up (F := (FL ca cb cc cd)) (k := 51) hn_cb j)
    have f829 := (f824.wr W826 (by omega))
    have f830 := (f825.wrA W826 Vq823 wiS (by decide))
    have zz828 : n0 ≤ h826.size := by omega
    have lq828 : @LT.lt Nat _ a568 h826.size := Vq828.lt
    obtain ⟨Lc828, Y828, M828⟩ : ∃ L, Stand p l e room_1 (s.setVm s.vm) m #[(.int i0), (.int i1), (.int i2), (.int i3), (.int i4)] below meth c T826 L 1 65 ∧ Fr n0 L := ⟨_, X826, N826⟩
    clear st826 V826 X826 N826 z827 W826 Y823 M823 Vq823 f824 f825 zz823 lq823 e821
    show oGl p e below (T826.setTop (mkF m 998 #[.val (.int i0), .val (.int i1), .val (.int i2), .val (.int i3), .val (.int i4), .val (.int ca), .val (.int cb), .val (.int cc), .val (.int cd), .val (.int (7 : Int32)), .unset, .unset] [(.ref a568)])) _
    refine sdup Y828 hx (hb hby at_998) rfl rfl (pc' := 999) ?_
    refine sbipush Y828 hx (hb hby at_999) rfl rfl (z := 52) (pc' := 1001) ?_
    refine siload Y828 hx (hb hby at_1001) rfl rfl (pc' := 1003) ?_
    obtain ⟨T831, h831, X831, e831, W831, V831, st831⟩ := Vq828.stC Y828 hx hZ e826 (j := (52 : Int32)) (by decide) (g := (mkF m 1003 #[.val (.int i0), .val (.int i1), .val (.int i2), .val (.int i3), .val (.int i4), .val (.int ca), .val (.int cb), .val (.int cc), .val (.int cd), .val (.int (7 : Int32)), .unset, .unset] [(.int ca), (.int (52 : Int32)), (.ref a568), (.ref a568)])) rfl rfl (hb hby at_1003)
    refine oOn st831 ?_
    have z832 : h826.size ≤ h831.size := Nat.le_of_eq W831.size.symm
    have N831 := Fr.snoc X831 M828 (by omega)
    have Vq833 : oAI Z h831 a568 .char 65 (oPre (FL ca cb cc cd) 53) := V831.congr (fun j _ => oPre_up (F := (FL ca cb cc cd)) (k := 52) hn_ca j)
    have f834 := (f829.wr W831 (by omega))
    have f835 := (f830.wrA W831 Vq828 wiS (by decide))
    have zz833 : n0 ≤ h831.size := by omega
    have lq833 : @LT.lt Nat _ a568 h831.size := Vq833.lt
    obtain ⟨Lc833, Y833, M833⟩ : ∃ L, Stand p l e room_1 (s.setVm s.vm) m #[(.int i0), (.int i1), (.int i2), (.int i3), (.int i4)] below meth c T831 L 1 65 ∧ Fr n0 L := ⟨_, X831, N831⟩
    clear st831 V831 X831 N831 z832 W831 Y828 M828 Vq828 f829 f830 zz828 lq828 e826
    show oGl p e below (T831.setTop (mkF m 1004 #[.val (.int i0), .val (.int i1), .val (.int i2), .val (.int i3), .val (.int i4), .val (.int ca), .val (.int cb), .val (.int cc), .val (.int cd), .val (.int (7 : Int32)), .unset, .unset] [(.ref a568)])) _
    refine sdup Y833 hx (hb hby at_1004) rfl rfl (pc' := 1005) ?_
    refine sbipush Y833 hx (hb hby at_1005) rfl rfl (z := 53) (pc' := 1007) ?_
    refine siload Y833 hx (hb hby at_1007) rfl rfl (pc' := 1009) ?_
    obtain ⟨T836, h836, X836, e836, W836, V836, st836⟩ := Vq833.stC Y833 hx hZ e831 (j := (53 : Int32)) (by decide) (g := (mkF m 1009 #[.val (.int i0), .val (.int i1), .val (.int i2), .val (.int i3), .val (.int i4), .val (.int ca), .val (.int cb), .val (.int cc), .val (.int cd), .val (.int (7 : Int32)), .unset, .unset] [(.int cb), (.int (53 : Int32)), (.ref a568), (.ref a568)])) rfl rfl (hb hby at_1009)
    refine oOn st836 ?_
    have z837 : h831.size ≤ h836.size := Nat.le_of_eq W836.size.symm
    have N836 := Fr.snoc X836 M833 (by omega)
    have Vq838 : oAI Z h836 a568 .char 65 (oPre (FL ca cb cc cd) 54) := V836.congr (fun j _ => oPre_up (F := (FL ca cb cc cd)) (k := 53) hn_cb j)
    have f839 := (f834.wr W836 (by omega))
    have f840 := (f835.wrA W836 Vq833 wiS (by decide))
    have zz838 : n0 ≤ h836.size := by omega
    have lq838 : @LT.lt Nat _ a568 h836.size := Vq838.lt
    obtain ⟨Lc838, Y838, M838⟩ : ∃ L, Stand p l e room_1 (s.setVm s.vm) m #[(.int i0), (.int i1), (.int i2), (.int i3), (.int i4)] below meth c T836 L 1 65 ∧ Fr n0 L := ⟨_, X836, N836⟩
    clear st836 V836 X836 N836 z837 W836 Y833 M833 Vq833 f834 f835 zz833 lq833 e831
    show oGl p e below (T836.setTop (mkF m 1010 #[.val (.int i0), .val (.int i1), .val (.int i2), .val (.int i3), .val (.int i4), .val (.int ca), .val (.int cb), .val (.int cc), .val (.int cd), .val (.int (7 : Int32)), .unset, .unset] [(.ref a568)])) _
    refine sdup Y838 hx (hb hby at_1010) rfl rfl (pc' := 1011) ?_
    refine sbipush Y838 hx (hb hby at_1011) rfl rfl (z := 54) (pc' := 1013) ?_
    refine siload Y838 hx (hb hby at_1013) rfl rfl (pc' := 1015) ?_
    obtain ⟨T841, h841, X841, e841, W841, V841, st841⟩ := Vq838.stC Y838 hx hZ e836 (j := (54 : Int32)) (by decide) (g := (mkF m 1015 #[.val (.int i0), .val (.int i1), .val (.int i2), .val (.int i3), .val (.int i4), .val (.int ca), .val (.int cb), .val (.int cc), .val (.int cd), .val (.int (7 : Int32)), .unset, .unset] [(.int ca), (.int (54 : Int32)), (.ref a568), (.ref a568)])) rfl rfl (hb hby at_1015)
    refine oOn st841 ?_
    have z842 : h836.size ≤ h841.size := Nat.le_of_eq W841.size.symm
    have N841 := Fr.snoc X841 M838 (by omega)
    have Vq843 : oAI Z h841 a568 .char 65 (oPre (FL ca cb cc cd) 55) := V841.congr (fun j _ => oPre_up (F := (FL ca cb cc cd)) (k := 54) hn_ca j)
    have f844 := (f839.wr W841 (by omega))
    have f845 := (f840.wrA W841 Vq838 wiS (by decide))
    have zz843 : n0 ≤ h841.size := by omega
    have lq843 : @LT.lt Nat _ a568 h841.size := Vq843.lt
    obtain ⟨Lc843, Y843, M843⟩ : ∃ L, Stand p l e room_1 (s.setVm s.vm) m #[(.int i0), (.int i1), (.int i2), (.int i3), (.int i4)] below meth c T841 L 1 65 ∧ Fr n0 L := ⟨_, X841, N841⟩
    clear st841 V841 X841 N841 z842 W841 Y838 M838 Vq838 f839 f840 zz838 lq838 e836
    show oGl p e below (T841.setTop (mkF m 1016 #[.val (.int i0), .val (.int i1), .val (.int i2), .val (.int i3), .val (.int i4), .val (.int ca), .val (.int cb), .val (.int cc), .val (.int cd), .val (.int (7 : Int32)), .unset, .unset] [(.ref a568)])) _
    refine sdup Y843 hx (hb hby at_1016) rfl rfl (pc' := 1017) ?_
    refine sbipush Y843 hx (hb hby at_1017) rfl rfl (z := 55) (pc' := 1019) ?_
    refine siload Y843 hx (hb hby at_1019) rfl rfl (pc' := 1021) ?_
    obtain ⟨T846, h846, X846, e846, W846, V846, st846⟩ := Vq843.stC Y843 hx hZ e841 (j := (55 : Int32)) (by decide) (g := (mkF m 1021 #[.val (.int i0), .val (.int i1), .val (.int i2), .val (.int i3), .val (.int i4), .val (.int ca), .val (.int cb), .val (.int cc), .val (.int cd), .val (.int (7 : Int32)), .unset, .unset] [(.int cb), (.int (55 : Int32)), (.ref a568), (.ref a568)])) rfl rfl (hb hby at_1021)
    refine oOn st846 ?_
    have z847 : h841.size ≤ h846.size := Nat.le_of_eq W846.size.symm
    have N846 := Fr.snoc X846 M843 (by omega)
    have Vq848 : oAI Z h846 a568 .char 65 (oPre (FL ca cb cc cd) 56) := V846.congr (fun j _ => oPre_up (F := (FL ca cb cc cd)) (k := 55) hn_cb j)
    have f849 := (f844.wr W846 (by omega))
    have f850 := (f845.wrA W846 Vq843 wiS (by decide))
    have zz848 : n0 ≤ h846.size := by omega
    have lq848 : @LT.lt Nat _ a568 h846.size := Vq848.lt
    obtain ⟨Lc848, Y848, M848⟩ : ∃ L, Stand p l e room_1 (s.setVm s.vm) m #[(.int i0), (.int i1), (.int i2), (.int i3), (.int i4)] below meth c T846 L 1 65 ∧ Fr n0 L := ⟨_, X846, N846⟩
    clear st846 V846 X846 N846 z847 W846 Y843 M843 Vq843 f844 f845 zz843 lq843 e841
    show oGl p e below (T846.setTop (mkF m 1022 #[.val (.int i0), .val (.int i1), .val (.int i2), .val (.int i3), .val (.int i4), .val (.int ca), .val (.int cb), .val (.int cc), .val (.int cd), .val (.int (7 : Int32)), .unset, .unset] [(.ref a568)])) _
    refine sdup Y848 hx (hb hby at_1022) rfl rfl (pc' := 1023) ?_
    refine sbipush Y848 hx (hb hby at_1023) rfl rfl (z := 56) (pc' := 1025) ?_
    refine siload Y848 hx (hb hby at_1025) rfl rfl (pc' := 1027) ?_
    obtain ⟨T851, h851, X851, e851, W851, V851, st851⟩ := Vq848.stC Y848 hx hZ e846 (j := (56 : Int32)) (by decide) (g := (mkF m 1027 #[.val (.int i0), .val (.int i1), .val (.int i2), .val (.int i3), .val (.int i4), .val (.int ca), .val (.int cb), .val (.int cc), .val (.int cd), .val (.int (7 : Int32)), .unset, .unset] [(.int ca), (.int (56 : Int32)), (.ref a568), (.ref a568)])) rfl rfl (hb hby at_1027)
    refine oOn st851 ?_
    have z852 : h846.size ≤ h851.size := Nat.le_of_eq W851.size.symm
    have N851 := Fr.snoc X851 M848 (by omega)
    have Vq853 : oAI Z h851 a568 .char 65 (oPre (FL ca cb cc cd) 57) := V851.congr (fun j _ => oPre_up (F := (FL ca cb cc cd)) (k := 56) hn_ca j)
    have f854 := (f849.wr W851 (by omega))
    have f855 := (f850.wrA W851 Vq848 wiS (by decide))
    have zz853 : n0 ≤ h851.size := by omega
    have lq853 : @LT.lt Nat _ a568 h851.size := Vq853.lt
    obtain ⟨Lc853, Y853, M853⟩ : ∃ L, Stand p l e room_1 (s.setVm s.vm) m #[(.int i0), (.int i1), (.int i2), (.int i3), (.int i4)] below meth c T851 L 1 65 ∧ Fr n0 L := ⟨_, X851, N851⟩
    clear st851 V851 X851 N851 z852 W851 Y848 M848 Vq848 f849 f850 zz848 lq848 e846
    show oGl p e below (T851.setTop (mkF m 1028 #[.val (.int i0), .val (.int i1), .val (.int i2), .val (.int i3), .val (.int i4), .val (.int ca), .val (.int cb), .val (.int cc), .val (.int cd), .val (.int (7 : Int32)), .unset, .unset] [(.ref a568)])) _
    refine sdup Y853 hx (hb hby at_1028) rfl rfl (pc' := 1029) ?_
    refine sbipush Y853 hx (hb hby at_1029) rfl rfl (z := 57) (pc' := 1031) ?_
    refine siload Y853 hx (hb hby at_1031) rfl rfl (pc' := 1033) ?_
    obtain ⟨T856, h856, X856, e856, W856, V856, st856⟩ := Vq853.stC Y853 hx hZ e851 (j := (57 : Int32)) (by decide) (g := (mkF m 1033 #[.val (.int i0), .val (.int i1), .val (.int i2), .val (.int i3), .val (.int i4), .val (.int ca), .val (.int cb), .val (.int cc), .val (.int cd), .val (.int (7 : Int32)), .unset, .unset] [(.int cb), (.int (57 : Int32)), (.ref a568), (.ref a568)])) rfl rfl (hb hby at_1033)
    refine oOn st856 ?_
    have z857 : h851.size ≤ h856.size := Nat.le_of_eq W856.size.symm
    have N856 := Fr.snoc X856 M853 (by omega)
    have Vq858 : oAI Z h856 a568 .char 65 (oPre (FL ca cb cc cd) 58) := V856.congr (fun j _ => oPre_up (F := (FL ca cb cc cd)) (k := 57) hn_cb j)
    have f859 := (f854.wr W856 (by omega))
    have f860 := (f855.wrA W856 Vq853 wiS (by decide))
    have zz858 : n0 ≤ h856.size := by omega
    have lq858 : @LT.lt Nat _ a568 h856.size := Vq858.lt
    obtain ⟨Lc858, Y858, M858⟩ : ∃ L, Stand p l e room_1 (s.setVm s.vm) m #[(.int i0), (.int i1), (.int i2), (.int i3), (.int i4)] below meth c T856 L 1 65 ∧ Fr n0 L := ⟨_, X856, N856⟩
    clear st856 V856 X856 N856 z857 W856 Y853 M853 Vq853 f854 f855 zz853 lq853 e851
    show oGl p e below (T856.setTop (mkF m 1034 #[.val (.int i0), .val (.int i1), .val (.int i2), .val (.int i3), .val (.int i4), .val (.int ca), .val (.int cb), .val (.int cc), .val (.int cd), .val (.int (7 : Int32)), .unset, .unset] [(.ref a568)])) _
    refine sdup Y858 hx (hb hby at_1034) rfl rfl (pc' := 1035) ?_
    refine sbipush Y858 hx (hb hby at_1035) rfl rfl (z := 58) (pc' := 1037) ?_
    refine siload Y858 hx (hb hby at_1037) rfl rfl (pc' := 1039) ?_
    obtain ⟨T861, h861, X861, e861, W861, V861, st861⟩ := Vq858.stC Y858 hx hZ e856 (j := (58 : Int32)) (by decide) (g := (mkF m 1039 #[.val (.int i0), .val (.int i1), .val (.int i2), .val (.int i3), .val (.int i4), .val (.int ca), .val (.int cb), .val (.int cc), .val (.int cd), .val (.int (7 : Int32)), .unset, .unset] [(.int ca), (.int (58 : Int32)), (.ref a568), (.ref a568)])) rfl rfl (hb hby at_1039)
    refine oOn st861 ?_
    have z862 : h856.size ≤ h861.size := Nat.le_of_eq W861.size.symm
    have N861 := Fr.snoc X861 M858 (by omega)
    have Vq863 : oAI Z h861 a568 .char 65 (oPre (FL ca cb cc cd) 59) := V861.congr (fun j _ => oPre_up (F := (FL ca cb cc cd)) (k := 58) hn_ca j)
    have f864 := (f859.wr W861 (by omega))
    have f865 := (f860.wrA W861 Vq858 wiS (by decide))
    have zz863 : n0 ≤ h861.size := by omega
    have lq863 : @LT.lt Nat _ a568 h861.size := Vq863.lt
    obtain ⟨Lc863, Y863, M863⟩ : ∃ L, Stand p l e room_1 (s.setVm s.vm) m #[(.int i0), (.int i1), (.int i2), (.int i3), (.int i4)] below meth c T861 L 1 65 ∧ Fr n0 L := ⟨_, X861, N861⟩
    clear st861 V861 X861 N861 z862 W861 Y858 M858 Vq858 f859 f860 zz858 lq858 e856
    show oGl p e below (T861.setTop (mkF m 1040 #[.val (.int i0), .val (.int i1), .val (.int i2), .val (.int i3), .val (.int i4), .val (.int ca), .val (.int cb), .val (.int cc), .val (.int cd), .val (.int (7 : Int32)), .unset, .unset] [(.ref a568)])) _
    refine sdup Y863 hx (hb hby at_1040) rfl rfl (pc' := 1041) ?_
    refine sbipush Y863 hx (hb hby at_1041) rfl rfl (z := 59) (pc' := 1043) ?_
    refine siload Y863 hx (hb hby at_1043) rfl rfl (pc' := 1045) ?_
    obtain ⟨T866, h866, X866, e866, W866, V866, st866⟩ := Vq863.stC Y863 hx hZ e861 (j := (59 : Int32)) (by decide) (g := (mkF m 1045 #[.val (.int i0), .val (.int i1), .val (.int i2), .val (.int i3), .val (.int i4), .val (.int ca), .val (.int cb), .val (.int cc), .val (.int cd), .val (.int (7 : Int32)), .unset, .unset] [(.int cb), (.int (59 : Int32)), (.ref a568), (.ref a568)])) rfl rfl (hb hby at_1045)
    refine oOn st866 ?_
    have z867 : h861.size ≤ h866.size := Nat.le_of_eq W866.size.symm
    have N866 := Fr.snoc X866 M863 (by omega)
    have Vq868 : oAI Z h866 a568 .char 65 (oPre (FL ca cb cc cd) 60) := V866.congr (fun j _ => oPre_up (F := (FL ca cb cc cd)) (k := 59) hn_cb j)
    have f869 := (f864.wr W866 (by omega))
    have f870 := (f865.wrA W866 Vq863 wiS (by decide))
    have zz868 : n0 ≤ h866.size := by omega
    have lq868 : @LT.lt Nat _ a568 h866.size := Vq868.lt
    obtain ⟨Lc868, Y868, M868⟩ : ∃ L, Stand p l e room_1 (s.setVm s.vm) m #[(.int i0), (.int i1), (.int i2), (.int i3), (.int i4)] below meth c T866 L 1 65 ∧ Fr n0 L := ⟨_, X866, N866⟩
    clear st866 V866 X866 N866 z867 W866 Y863 M863 Vq863 f864 f865 zz863 lq863 e861
    show oGl p e below (T866.setTop (mkF m 1046 #[.val (.int i0), .val (.int i1), .val (.int i2), .val (.int i3), .val (.int i4), .val (.int ca), .val (.int cb), .val (.int cc), .val (.int cd), .val (.int (7 : Int32)), .unset, .unset] [(.ref a568)])) _
    refine sdup Y868 hx (hb hby at_1046) rfl rfl (pc' := 1047) ?_
    refine sbipush Y868 hx (hb hby at_1047) rfl rfl (z := 60) (pc' := 1049) ?_
    refine siload Y868 hx (hb hby at_1049) rfl rfl (pc' := 1051) ?_
    obtain ⟨T871, h871, X871, e871, W871, V871, st871⟩ := Vq868.stC Y868 hx hZ e866 (j := (60 : Int32)) (by decide) (g := (mkF m 1051 #[.val (.int i0), .val (.int i1), .val (.int i2), .val (.int i3), .val (.int i4), .val (.int ca), .val (.int cb), .val (.int cc), .val (.int cd), .val (.int (7 : Int32)), .unset, .unset] [(.int ca), (.int (60 : Int32)), (.ref a568), (.ref a568)])) rfl rfl (hb hby at_1051)
    refine oOn st871 ?_
    have z872 : h866.size ≤ h871.size := Nat.le_of_eq W871.size.symm
    have N871 := Fr.snoc X871 M868 (by omega)
    have Vq873 : oAI Z h871 a568 .char 65 (oPre (FL ca cb cc cd) 61) := V871.congr (fun j _ => oPre_up (F := (FL ca cb cc cd)) (k := 60) hn_ca j)
    have f874 := (f869.wr W871 (by omega))
    have f875 := (f870.wrA W871 Vq868 wiS (by decide))
    have zz873 : n0 ≤ h871.size := by omega
    have lq873 : @LT.lt Nat _ a568 h871.size := Vq873.lt
    obtain ⟨Lc873, Y873, M873⟩ : ∃ L, Stand p l e room_1 (s.setVm s.vm) m #[(.int i0), (.int i1), (.int i2), (.int i3), (.int i4)] below meth c T871 L 1 65 ∧ Fr n0 L := ⟨_, X871, N871⟩
    clear st871 V871 X871 N871 z872 W871 Y868 M868 Vq868 f869 f870 zz868 lq868 e866
    show oGl p e below (T871.setTop (mkF m 1052 #[.val (.int i0), .val (.int i1), .val (.int i2), .val (.int i3), .val (.int i4), .val (.int ca), .val (.int cb), .val (.int cc), .val (.int cd), .val (.int (7 : Int32)), .unset, .unset] [(.ref a568)])) _
    refine sdup Y873 hx (hb hby at_1052) rfl rfl (pc' := 1053) ?_
    refine sbipush Y873 hx (hb hby at_1053) rfl rfl (z := 61) (pc' := 1055) ?_
    refine siload Y873 hx (hb hby at_1055) rfl rfl (pc' := 1057) ?_
    obtain ⟨T876, h876, X876, e876, W876, V876, st876⟩ := Vq873.stC Y873 hx hZ e871 (j := (61 : Int32)) (by decide) (g := (mkF m 1057 #[.val (.int i0), .val (.int i1), .val (.int i2), .val (.int i3), .val (.int i4), .val (.int ca), .val (.int cb), .val (.int cc), .val (.int cd), .val (.int (7 : Int32)), .unset, .unset] [(.int cb), (.int (61 : Int32)), (.ref a568), (.ref a568)])) rfl rfl (hb hby at_1057)
    refine oOn st876 ?_
    have z877 : h871.size ≤ h876.size := Nat.le_of_eq W876.size.symm
    have N876 := Fr.snoc X876 M873 (by omega)
    have Vq878 : oAI Z h876 a568 .char 65 (oPre (FL ca cb cc cd) 62) := V876.congr (fun j _ => oPre_up (F := (FL ca cb cc cd)) (k := 61) hn_cb j)
    have f879 := (f874.wr W876 (by omega))
    have f880 := (f875.wrA W876 Vq873 wiS (by decide))
    have zz878 : n0 ≤ h876.size := by omega
    have lq878 : @LT.lt Nat _ a568 h876.size := Vq878.lt
    obtain ⟨Lc878, Y878, M878⟩ : ∃ L, Stand p l e room_1 (s.setVm s.vm) m #[(.int i0), (.int i1), (.int i2), (.int i3), (.int i4)] below meth c T876 L 1 65 ∧ Fr n0 L := ⟨_, X876, N876⟩
    clear st876 V876 X876 N876 z877 W876 Y873 M873 Vq873 f874 f875 zz873 lq873 e871
    show oGl p e below (T876.setTop (mkF m 1058 #[.val (.int i0), .val (.int i1), .val (.int i2), .val (.int i3), .val (.int i4), .val (.int ca), .val (.int cb), .val (.int cc), .val (.int cd), .val (.int (7 : Int32)), .unset, .unset] [(.ref a568)])) _
    refine sdup Y878 hx (hb hby at_1058) rfl rfl (pc' := 1059) ?_
    refine sbipush Y878 hx (hb hby at_1059) rfl rfl (z := 62) (pc' := 1061) ?_
    refine siload Y878 hx (hb hby at_1061) rfl rfl (pc' := 1063) ?_
    obtain ⟨T881, h881, X881, e881, W881, V881, st881⟩ := Vq878.stC Y878 hx hZ e876 (j := (62 : Int32)) (by decide) (g := (mkF m 1063 #[.val (.int i0), .val (.int i1), .val (.int i2), .val (.int i3), .val (.int i4), .val (.int ca), .val (.int cb), .val (.int cc), .val (.int cd), .val (.int (7 : Int32)), .unset, .unset] [(.int ca), (.int (62 : Int32)), (.ref a568), (.ref a568)])) rfl rfl (hb hby at_1063)
    refine oOn st881 ?_
    have z882 : h876.size ≤ h881.size := Nat.le_of_eq W881.size.symm
    have N881 := Fr.snoc X881 M878 (by omega)
    have Vq883 : oAI Z h881 a568 .char 65 (oPre (FL ca cb cc cd) 63) := V881.congr (fun j _ => oPre_up (F := (FL ca cb cc cd)) (k := 62) hn_ca j)
    have f884 := (f879.wr W881 (by omega))
    have f885 := (f880.wrA W881 Vq878 wiS (by decide))
    have zz883 : n0 ≤ h881.size := by omega
    have lq883 : @LT.lt Nat _ a568 h881.size := Vq883.lt
    obtain ⟨Lc883, Y883, M883⟩ : ∃ L, Stand p l e room_1 (s.setVm s.vm) m #[(.int i0), (.int i1), (.int i2), (.int i3), (.int i4)] below meth c T881 L 1 65 ∧ Fr n0 L := ⟨_, X881, N881⟩
    clear st881 V881 X881 N881 z882 W881 Y878 M878 Vq878 f879 f880 zz878 lq878 e876
    show oGl p e below (T881.setTop (mkF m 1064 #[.val (.int i0), .val (.int i1), .val (.int i2), .val (.int i3), .val (.int i4), .val (.int ca), .val (.int cb), .val (.int cc), .val (.int cd), .val (.int (7 : Int32)), .unset, .unset] [(.ref a568)])) _
    refine sdup Y883 hx (hb hby at_1064) rfl rfl (pc' := 1065) ?_
    refine sbipush Y883 hx (hb hby at_1065) rfl rfl (z := 63) (pc' := 1067) ?_
    refine siload Y883 hx (hb hby at_1067) rfl rfl (pc' := 1069) ?_
    obtain ⟨T886, h886, X886, e886, W886, V886, st886⟩ := Vq883.stC Y883 hx hZ e881 (j := (63 : Int32)) (by decide) (g := (mkF m 1069 #[.val (.int i0), .val (.int i1), .val (.int i2), .val (.int i3), .val (.int i4), .val (.int ca), .val (.int cb), .val (.int cc), .val (.int cd), .val (.int (7 : Int32)), .unset, .unset] [(.int cc), (.int (63 : Int32)), (.ref a568), (.ref a568)])) rfl rfl (hb hby at_1069)
    refine oOn st886 ?_
    have z887 : h881.size ≤ h886.size := Nat.le_of_eq W886.size.symm
    have N886 := Fr.snoc X886 M883 (by omega)
    have Vq888 : oAI Z h886 a568 .char 65 (oPre (FL ca cb cc cd) 64) := V886.congr (fun j _ => oPre_up (F := (FL ca cb cc cd)) (k := 63) hn_cc j)
    have f889 := (f884.wr W886 (by omega))
    have f890 := (f885.wrA W886 Vq883 wiS (by decide))
    have zz888 : n0 ≤ h886.size := by omega
    have lq888 : @LT.lt Nat _ a568 h886.size := Vq888.lt
    obtain ⟨Lc888, Y888, M888⟩ : ∃ L, Stand p l e room_1 (s.setVm s.vm) m #[(.int i0), (.int i1), (.int i2), (.int i3), (.int i4)] below meth c T886 L 1 65 ∧ Fr n0 L := ⟨_, X886, N886⟩
    clear st886 V886 X886 N886 z887 W886 Y883 M883 Vq883 f884 f885 zz883 lq883 e881
    show oGl p e below (T886.setTop (mkF m 1070 #[.val (.int i0), .val (.int i1), .val (.int i2), .val (.int i3), .val (.int i4), .val (.int ca), .val (.int cb), .val (.int cc), .val (.int cd), .val (.int (7 : Int32)), .unset, .unset] [(.ref a568)])) _
    refine sdup Y888 hx (hb hby at_1070) rfl rfl (pc' := 1071) ?_
    refine sbipush Y888 hx (hb hby at_1071) rfl rfl (z := 64) (pc' := 1073) ?_
    refine siload Y888 hx (hb hby at_1073) rfl rfl (pc' := 1075) ?_
    obtain ⟨T891, h891, X891, e891, W891, V891, st891⟩ := Vq888.stC Y888 hx hZ e886 (j := (64 : Int32)) (by decide) (g := (mkF m 1075 #[.val (.int i0), .val (.int i1), .val (.int i2), .val (.int i3), .val (.int i4), .val (.int ca), .val (.int cb), .val (.int cc), .val (.int cd), .val (.int (7 : Int32)), .unset, .unset] [(.int ca), (.int (64 : Int32)), (.ref a568), (.ref a568)])) rfl rfl (hb hby at_1075)
    refine oOn st891 ?_
    have z892 : h886.size ≤ h891.size := Nat.le_of_eq W891.size.symm
    have N891 := Fr.snoc X891 M888 (by omega)
    have Vq893 : oAI Z h891 a568 .char 65 (oPre (FL ca cb cc cd) 65) := V891.congr (fun j _ => oPre_up (F := (FL ca cb cc cd)) (k := 64) hn_ca j)
    have f894 := (f889.wr W891 (by omega))
    have f895 := (f890.wrA W891 Vq888 wiS (by decide))
    have zz893 : n0 ≤ h891.size := by omega
    have lq893 : @LT.lt Nat _ a568 h891.size := Vq893.lt
    obtain ⟨Lc893, Y893, M893⟩ : ∃ L, Stand p l e room_1 (s.setVm s.vm) m #[(.int i0), (.int i1), (.int i2), (.int i3), (.int i4)] below meth c T891 L 1 65 ∧ Fr n0 L := ⟨_, X891, N891⟩
    clear st891 V891 X891 N891 z892 W891 Y888 M888 Vq888 f889 f890 zz888 lq888 e886
    show oGl p e below (T891.setTop (mkF m 1076 #[.val (.int i0), .val (.int i1), .val (.int i2), .val (.int i3), .val (.int i4), .val (.int ca), .val (.int cb), .val (.int cc), .val (.int cd), .val (.int (7 : Int32)), .unset, .unset] [(.ref a568)])) _
    refine sastore Y893 hx (hb hby at_1076) rfl rfl rfl (l' := #[.val (.int i0), .val (.int i1), .val (.int i2), .val (.int i3), .val (.int i4), .val (.int ca), .val (.int cb), .val (.int cc), .val (.int cd), .val (.int (7 : Int32)), .val (.ref a568), .unset]) (pc' := 1078) ?_
    refine saload Y893 hx (hb hby at_1078) rfl rfl rfl (pc' := 1080) ?_
    refine oOn (Vq893.len Y893 hx hZ e891 (g := (mkF m 1080 #[.val (.int i0), .val (.int i1), .val (.int i2), .val (.int i3), .val (.int i4), .val (.int ca), .val (.int cb), .val (.int cc), .val (.int cd), .val (.int (7 : Int32)), .val (.ref a568), .unset] [(.ref a568)])) rfl rfl (hb hby at_1080)) ?_
    show oGl p e below (T891.setTop (mkF m 1081 #[.val (.int i0), .val (.int i1), .val (.int i2), .val (.int i3), .val (.int i4), .val (.int ca), .val (.int cb), .val (.int cc), .val (.int cd), .val (.int (7 : Int32)), .val (.ref a568), .unset] [(.int (65 : Int32))])) _
    refine sbipush Y893 hx (hb hby at_1081) rfl rfl (z := 65) (pc' := 1083) ?_
    refine sicY Y893 hx (hb hby at_1083) (by decide) (by decide) (teq (by decide : (65 : Int32) = (65 : Int32))).1 (pc' := 1088) ?_
    obtain ⟨T896, h896, X896, e896, E896, A896, D896, -, st896⟩ := newO Y893 hx hZ hown (hw _ (List.mem_of_getElem? (i := 1) rfl)) wiS (hw _ (List.mem_of_getElem? (i := 3) rfl)) e891 (g := (mkF m 1088 #[.val (.int i0), .val (.int i1), .val (.int i2), .val (.int i3), .val (.int i4), .val (.int ca), .val (.int cb), .val (.int cc), .val (.int cd), .val (.int (7 : Int32)), .val (.ref a568), .unset] [])) rfl (hb hby at_1088) (by decide) (by decide)
    obtain ⟨a896, g896⟩ : ∃ z, z = h891.size := ⟨_, rfl⟩
    rw [← g896] at A896 D896 st896
    refine oOn st896 ?_
    have z897 : h891.size ≤ h896.size := E896.1
    have lt896 : a896 < h896.size := A896.lt
    have f896_16 : Fld Z h896 a896 "java/lang/String" "value" "[B" .null := D896 (Or.inr (hw _ (List.mem_of_getElem? (i := 16) rfl))) (ty := (.array .byte)) (by decide)
    have f896_17 : Fld Z h896 a896 "java/lang/String" "coder" "B" (.int (0 : Int32)) := D896 (Or.inr (hw _ (List.mem_of_getElem? (i := 17) rfl))) (ty := .byte) (by decide)
    show oGl p e below (T896.setTop (mkF m 1091 #[.val (.int i0), .val (.int i1), .val (.int i2), .val (.int i3), .val (.int i4), .val (.int ca), .val (.int cb), .val (.int cc), .val (.int cd), .val (.int (7 : Int32)), .val (.ref a568), .unset] [(.ref a896)])) _
    refine sdup X896 hx (hb hby at_1091) rfl rfl (pc' := 1092) ?_
    refine saload X896 hx (hb hby at_1092) rfl rfl rfl (pc' := 1094) ?_
    have f898 := (Vq893.ext E896)
    have nxa : @Ne Nat a896 a568 := oNeO A896 wiS f898
    have Vm : oAI Z h896 a568 .char 65 (FL ca cb cc cd) := f898.congr (fun j hj => oPre_n hj)
    have f899 := (f894.ext E896)
    have hz900 : n0 ≤ h896.size := by omega
    have f901 := (f895.ext E896)
    obtain ⟨_, _, ⟨T900, L900, k900, n900⟩, -, X900, hS2, hg2, ⟨Lc900, hQ900, l900, y900, z900⟩, st900⟩ := X896.specialBackS hx (y := (⟨"java/lang/String", "<init>", "([C)V"⟩ : MethodName)) rfl hown (mvT hZ (hw _ (List.mem_of_getElem? (i := 4) rfl))) (mvT hZ (hw _ (List.mem_of_getElem? (i := 5) rfl))) (mvT hZ (hw _ (List.mem_of_getElem? (i := 6) rfl))) (by decide) (backOfV (J := fun vm => oEm Z vm h896) (W := 1) (rmStr l Z a0 hw [] a896 a568 65 (FL ca cb cc cd) cz sf h896 n0 hz900 Vm (by decide) (hchL _) nxa A896 f896_16 f896_17 (by omega) f899 SCS hcz SSF hsf SAD SHI SLO hcH hcw) hZ (hw _ (List.mem_of_getElem? (i := 6) rfl)) (hw _ (List.mem_of_getElem? (i := 3) rfl)) (by decide) (by decide)) (g := (mkF m 1094 #[.val (.int i0), .val (.int i1), .val (.int i2), .val (.int i3), .val (.int i4), .val (.int ca), .val (.int cb), .val (.int cc), .val (.int cd), .val (.int (7 : Int32)), .val (.ref a568), .unset] [(.ref a568), (.ref a896), (.ref a896)])) rfl (by rw [hml]; rfl) (Steps.refl _) (a := a896) (argsL := [(.ref a568)]) (rest := [(.ref a896)]) (lenOf pd_17 rfl) rfl (by show 2 * 0 + _ ≤ _; exact Nat.le_of_eq rfl) (hb hby at_1094) (fun _ hWw => ⟨rfl, e896, (by decide : 2 + 2 ≤ _), (by decide : 69 + 195 ≤ _), f901.warm hWw⟩)
    dsimp only [Pt.U, Pt.locs, Pt.cells, Pt.slots] at X900 l900 y900 z900 st900 hQ900 hS2 hg2
    subst l900 y900 z900
    obtain ⟨X900, hS, hZ, hown⟩ := rebS hS (n1 := T896.heap.size) (by rw [e896]; omega) X900 hS2 hg2 hZ hown
    have hk : T900.heap.size ≤ T900.heap.size := Nat.le_refl _
    obtain ⟨rfl, N900q, K900, Ex900, Os900, -⟩ := hQ900
    have N900 := Fr.app M893 N900q
    have z902 : h896.size ≤ T900.heap.size := K900.1
    refine oSt st900 ?_
    show oGl p e below (T900.setTop (mkF m 1097 #[.val (.int i0), .val (.int i1), .val (.int i2), .val (.int i3), .val (.int i4), .val (.int ca), .val (.int cb), .val (.int cc), .val (.int cd), .val (.int (7 : Int32)), .val (.ref a568), .unset] [(.ref a896)])) _
    have f903 := (f899.keep K900 (allS (by omega) all0))
    have hz904 : n0 ≤ T900.heap.size := by omega
    obtain ⟨_, _, ⟨T904, L904, k904, n904⟩, -, X904, hS2, hg2, ⟨Lc904, hQ904, l904, y904, z904⟩, st904⟩ := callSS X900 hx (y := (⟨"com/example/concordat/concordat/core/Limits", "isId", "(Ljava/lang/String;)Z"⟩ : MethodName)) hown (mvT hZ (hw _ (List.mem_of_getElem? (i := 22) rfl))) (mvT hZ (hw _ (List.mem_of_getElem? (i := 23) rfl))) (mvT hZ (hw _ (List.mem_of_getElem? (i := 24) rfl))) (mvT hZ (hw _ (List.mem_of_getElem? (i := 25) rfl))) (by decide) (backOfS (W := 0) (rmIsId l Z a0 hw [] a896 65 (FL ca cb cc cd) cz sf T900.heap n0 hz904 f903 SCS hcz SSF hsf SAD SHI SLO Ex900 Os900 (by decide) (hchL _)) hZ (hw _ (List.mem_of_getElem? (i := 25) rfl)) (hw _ (List.mem_of_getElem? (i := 24) rfl)) (by decide) (by decide)) (g := (mkF m 1097 #[.val (.int i0), .val (.int i1), .val (.int i2), .val (.int i3), .val (.int i4), .val (.int ca), .val (.int cb), .val (.int cc), .val (.int cd), .val (.int (7 : Int32)), .val (.ref a568), .unset] [(.ref a896)])) rfl (by rw [hml]; rfl) (argsL := [(.ref a896)]) (rest := []) (lenOf pd_18 rfl) rfl (by show 2 * 0 + _ ≤ _; exact Nat.le_of_eq rfl) (hb hby at_1097) (fun _ _ => ⟨rfl, rfl, (by decide : 4 + 2 ≤ _), (by decide : 264 + 20 ≤ _)⟩)
    dsimp only [Pt.U, Pt.locs, Pt.cells, Pt.slots] at X904 l904 y904 z904 st904 hQ904 hS2 hg2
    subst l904 y904 z904
    obtain ⟨X904, hS, hZ, hown⟩ := rebS hS (n1 := T900.heap.size) (by omega) X904 hS2 hg2 hZ hown
    have hk : T904.heap.size ≤ T904.heap.size := Nat.le_refl _
    obtain ⟨r904, rfl, N904q, K904, pq904⟩ := hQ904
    have N904 := Fr.app N900 N904q
    have z905 : T900.heap.size ≤ T904.heap.size := K904.1
    refine oSt st904 ?_
    show oGl p e below (T904.setTop (mkF m 1100 #[.val (.int i0), .val (.int i1), .val (.int i2), .val (.int i3), .val (.int i4), .val (.int ca), .val (.int cb), .val (.int cc), .val (.int cd), .val (.int (7 : Int32)), .val (.ref a568), .unset] [(.int r904)])) _
    have hfin : r904 = (0 : Int32) := own_id0 pq904 (fun q => absurd q.1 (by decide))
    refine sifN X904 hx (hb hby at_1100) rfl (teq (hfin : r904 = (0 : Int32))).2 (pc' := 1103) ?_
    refine siconst X904 hx (hb hby at_1103) rfl rfl (z := 1) (pc' := 1104) ?_
    refine sgoto X904 hx (hb hby at_1104) (by decide) (by decide)  (pc' := 1108) ?_
    refine oRetNV (t := .boolean) X904 hS (by omega) hx Bd.notSynchronized Bd.returns (by simp) (hb hby at_1108) (by decide) (by decide) ?_
    show Q_rmL Z i0 i1 i2 i3 i4 cz sf h0 n0 _ T904.heap _ _
    exact ⟨rfl, N904⟩
theorem oStaI {Z : State} {as : Array Value} {C n d : String} {k : Int32} (q : (Jvm.Cond.eq (.static C n d) (.int k)).before as Z = true) (hi : (Cond.initializedFor C n d).before as Z = true) : Sta Z Z.heap C n d (.int k) := by
  have q' := Cond.before_iff.mp q
  simp only [Cond.value] at q'
  cases hf : (Term.static C n d).eval as Z none [] Z with
  | none => simp [hf] at q'
  | some v => cases v <;> simp [hf, Term.int_eval] at q'; subst q'; exact Sta.start hf (Or.inl hi)
theorem oStaV {Z : State} {as : Array Value} {C n d : String} (q : (Jvm.Cond.isRef (.static C n d)).before as Z = true) (hi : (Cond.initializedFor C n d).before as Z = true) : ∃ v : Value, v.isRef = true ∧ Sta Z Z.heap C n d v := by
  have q' := Cond.before_iff.mp q
  simp only [Cond.value] at q'
  cases hf : (Term.static C n d).eval as Z none [] Z with
  | none => simp [hf] at q'
  | some v => refine ⟨v, ?_, Sta.start hf (Or.inl hi)⟩; cases v <;> simp [hf] at q' <;> rfl
set_option maxRecDepth 65536 in
set_option maxHeartbeats 40000000 in
theorem comes_1 {Post : Tables → Env → Array Value → State → Outcome → State → Prop} (hpost : ∀ tb e args s v u, (limb_1_1.after args s (.returned v) u = true ∧ limb_1_2.after args s (.returned v) u = true ∧ True) → ReturnedEndW s (.returned v) u (Jvm.fieldLocs frame_1_writes args s ++ Jvm.arrayLocs frame_1_arrays args s ++ Jvm.staticLocs frame_1_statics s) 24 2688 → Post tb e args s (.returned v) u) :
    ArmFor flags0 classFile x code maxLocals ret World_1 tables_1 room_1 Calls_1 rest_1 Pre_1 Post := by
  intro l hfl _ _ p e ha hc hk s m args below hf hA hF happ hP
  obtain ⟨hcalls, hrest, hpre⟩ := hP
  obtain ⟨-, -, -, hnamed, -, -, -, hat⟩ := (Spec.applies_iff hf).mp happ
  obtain ⟨hg, hn⟩ := oAnd (show (Jvm.Cond.and given_1 narrow_1).before args s = true from hpre)
  obtain ⟨gc, hg0⟩ := oAnd hg
  obtain ⟨ga0, hg1⟩ := oAnd hg0
  obtain ⟨ga1, hg2⟩ := oAnd hg1
  obtain ⟨ga2, hg3⟩ := oAnd hg2
  obtain ⟨ga3, hg4⟩ := oAnd hg3
  have ga4 := hg4
  obtain ⟨w0, w1, w2, w3, w4, rfl⟩ : ∃ w0 w1 w2 w3 w4 : Value, args = #[w0, w1, w2, w3, w4] := by
    have hs : args.size = 5 := by simpa [Cond.before, Cond.holds, Cond.value] using gc
    obtain ⟨L⟩ := args
    match L, hs with
    | [w0, w1, w2, w3, w4], _ => exact ⟨w0, w1, w2, w3, w4, rfl⟩
  obtain ⟨i0, rfl⟩ := oArgI ga0 rfl
  obtain ⟨i1, rfl⟩ := oArgI ga1 rfl
  obtain ⟨i2, rfl⟩ := oArgI ga2 rfl
  obtain ⟨i3, rfl⟩ := oArgI ga3 rfl
  obtain ⟨i4, rfl⟩ := oArgI ga4 rfl
  have hw := fun d (hd : d ∈ tables_1) => atoms_spec (ws := Jvm.Cond.code x code maxLocals ret :: tables_1) hat d (List.mem_cons_of_mem _ hd)
  have hfit : Fit s := fun {y c} hc i hi => by
    obtain ⟨ha, rfl⟩ := Array.getElem?_eq_some_iff.mp hc
    have q := List.all_eq_true.mp ((Array.all_eq_true_iff_forall_mem.mp hF) _ (Array.getElem_mem ha)) i (List.mem_range.mpr hi)
    simpa [Array.getElem?_eq_getElem hi] using q
  obtain ⟨hsets, -⟩ := atoms_of _ (rest_1_c_eq ▸ (show rest_1_c.before _ s = true from hrest))
  obtain ⟨cz, ecz⟩ := is_v (Cond.before_iff.mp (hsets _ (List.mem_of_getElem? (i := 1) rfl)))
  have SCS : Sta s s.heap "java/lang/String" "COMPACT_STRINGS" "Z" (.int cz) := Sta.start ecz (Or.inl (hsets _ (List.mem_of_getElem? (i := 0) rfl)))
  have hcz : ¬ (cz = (0 : Int32)) := gotF (Cond.eq_ints ecz (Term.int_eval (0))) (not_v (Cond.before_iff.mp (hsets _ (List.mem_of_getElem? (i := 2) rfl))))
  obtain ⟨sf, hsf, SSF⟩ := oStaV (hsets _ (List.mem_of_getElem? (i := 8) rfl)) (hsets _ (List.mem_of_getElem? (i := 7) rfl))
  have SAD := oStaI (hsets _ (List.mem_of_getElem? (i := 12) rfl)) (hsets _ (List.mem_of_getElem? (i := 11) rfl))
  have SHI := oStaI (hsets _ (List.mem_of_getElem? (i := 15) rfl)) (hsets _ (List.mem_of_getElem? (i := 14) rfl))
  have SLO := oStaI (hsets _ (List.mem_of_getElem? (i := 18) rfl)) (hsets _ (List.mem_of_getElem? (i := 17) rfl))
  have hcH : Jvm.Lit.constHeld s "java/lang/String" 7 := hcalls.1 ("java/lang/String", 7) (by simp [consts_1])
  have hcw := hsets _ (List.mem_of_getElem? (i := 2) rfl)
  obtain ⟨n, o, h1, h2, h3, _, L, rfl, ⟨rfl, N⟩, hq⟩ := rmL l s _ hw tables_1 i0 i1 i2 i3 i4 cz sf s.heap s.heap.size (Nat.le_refl _) (Old.start s)  SCS hcz SSF hsf SAD SHI SLO hcH hcw p e ha hc hk s m _ below hf ((Spec.applies_iff_loose hf).mp happ).1 ⟨rfl, State.Warmed39.refl s, rfl, Or.inl rfl⟩ trivial
  refine ⟨n, _, h1, h2, h3, hpost _ _ _ _ _ _ ⟨Cond.after_iff.mpr rfl, Cond.after_iff.mpr (eq_i res_at (Term.int_eval (1)) rfl), trivial⟩ ⟨hq.1, hq.2.1, hq.2.2.1, (hq.2.2.2.sift fun y hy => Or.inr (N y hy)).mono (by decide) (by decide)⟩⟩
theorem main_1_1 : Claimed_1_1 := comes_1 fun _ _ _ _ _ _ h hF => ⟨h.1, hF⟩
theorem main_1_2 : Claimed_1_2 := comes_1 fun _ _ _ _ _ _ h hF => ⟨h.2.1, hF⟩
end Jvm.Pilot.@@N@@
namespace Jvm.Pilot.@@N@@
open Jvm Jvm.ClassFile Sem Op Lib Jvm.Free Jvm.Stand Jvm.Pilot.@@N@@.Jvm.D
/-! MADE BY PROGRAM (witnessworld.py) out of the Statement's table words and the real class files: 21 classes; the members and pool entries that the words name. The judged class is class 1, her method 2. -/
namespace start1
open Jvm.ClassFile
def u (s : String) : CpInfo := .utf8 (stringToUtf16 s)
/-- a pool by its gaps: so many unusable entries, then the entry; so many at the end -/
def gap : Nat → List CpInfo → List CpInfo
  | 0, r => r
  | n + 1, r => .unusable :: gap n r
def poolList (es : List (Nat × CpInfo)) (last : Nat) : List CpInfo := es.foldr (fun e r => gap e.1 (e.2 :: r)) (gap last [])
def pool (es : List (Nat × CpInfo)) (last : Nat) : Array CpInfo := ⟨poolList es last⟩
def fileOf (pool : Array CpInfo) (this : Nat) (attrs : Array Attribute := #[]) (ms : Array MethodInfo := #[]) (fl : Nat := 33) (sup : Nat := 0) (ifs : Array Nat := #[]) (fds : Array FieldInfo := #[]) : ClassFile where
  minorVersion := 0
  majorVersion := 65
  constantPool := pool
  accessFlags := fl
  thisClass := this
  superClass := sup
  interfaces := ifs
  fields := fds
  methods := ms
  attributes := attrs
def plain (name : String) (sup : Option ClassId) : Class where
  name := name
  kind := .ordinary
  loader := none
  accessFlags := 33
  super := sup
  interfaces := #[]
  cf := none
  fields := #[]
  methods := #[]
  instanceTypes := #[]
  staticTypes := #[]
  resolved := #[]
  callSites := []
  init := .initialized
  statics := none
  mirror := none

def pool0 : Array CpInfo := pool [(5, u "<init>"), (0, u "()V"), (1, .class_ 10), (1, u "java/lang/Object")] 113

def k0c0 : Code := { maxStack := 0, maxLocals := 1, code := object_method_1_code, exceptionTable := #[], attributes := #[] }
def k0m0 : Method := { name := "<init>", desc := "()V", sig := { parameters := [], returnType := none }, accessFlags := 1, code := some k0c0 }
/-- java/lang/Object -/
def k0 : Class := { plain "java/lang/Object" none with
  accessFlags := 33
  interfaces := #[]
  cf := some (fileOf pool0 8 #[] #[{ accessFlags := 1, nameIndex := 5, descriptorIndex := 6, attributes := #[] }] 33 0 #[] #[])
  fields := #[]
  methods := #[k0m0]
  instanceTypes := #[]
  staticTypes := #[]
  resolved := Array.replicate 124 none
  statics := none }

def pool1 : Array CpInfo := pool [(2, .class_ 4), (1, u "java/lang/Object"), (0, u "<init>"), (0, u "()V"), (0, .methodref 8 9), (0, .class_ 10), (0, .nameAndType 11 12), (0, u "com/example/concordat/concordat/core/LimitsIsIdPinLaw"), (0, u "ok"), (0, u "(C)Z"), (0, .class_ 14), (0, u "java/lang/String"), (0, .methodref 13 16), (0, .nameAndType 5 17), (0, u "([C)V"), (0, .methodref 19 20), (0, .class_ 21), (0, .nameAndType 22 23), (0, u "com/example/concordat/concordat/core/Limits"), (0, u "isId"), (0, u "(Ljava/lang/String;)Z"), (3, u "law"), (0, u "(IIIII)Z")] 4

def k1m0 : Method := { name := "<init>", desc := "()V", sig := { parameters := [], returnType := none }, accessFlags := 2, code := none }
def k1c1 : Code := { maxStack := 2, maxLocals := 1, code := method_2_code, exceptionTable := #[], attributes := #[] }
def k1m1 : Method := { name := "ok", desc := "(C)Z", sig := { parameters := [.char], returnType := some .boolean }, accessFlags := 10, code := some k1c1 }
def k1c2 : Code := { maxStack := 4, maxLocals := 12, code := code, exceptionTable := #[], attributes := #[] }
def k1m2 : Method := { name := "law", desc := "(IIIII)Z", sig := { parameters := [.int, .int, .int, .int, .int], returnType := some .boolean }, accessFlags := 9, code := some k1c2 }
/-- com/example/concordat/concordat/core/LimitsIsIdPinLaw -/
def k1 : Class := { plain "com/example/concordat/concordat/core/LimitsIsIdPinLaw" (some 0) with
  accessFlags := 49
  interfaces := #[]
  cf := some (fileOf pool1 8 #[] #[{ accessFlags := 2, nameIndex := 5, descriptorIndex := 6, attributes := #[] }, { accessFlags := 10, nameIndex := 11, descriptorIndex := 12, attributes := #[] }, { accessFlags := 9, nameIndex := 27, descriptorIndex := 28, attributes := #[] }] 49 2 #[] #[])
  fields := #[]
  methods := #[k1m0, k1m1, k1m2]
  instanceTypes := #[]
  staticTypes := #[]
  resolved := Array.replicate 33 none
  statics := none }

def pool2 : Array CpInfo := pool [(1, .class_ 2), (0, u "java/io/Serializable"), (0, .class_ 4), (0, u "java/lang/Object")] 2

/-- java/io/Serializable -/
def k2 : Class := { plain "java/io/Serializable" (some 0) with
  accessFlags := 1537
  interfaces := #[]
  cf := some (fileOf pool2 1 #[] #[] 1537 3 #[] #[])
  fields := #[]
  methods := #[]
  instanceTypes := #[]
  staticTypes := #[]
  resolved := Array.replicate 7 none
  statics := none }

def pool3 : Array CpInfo := pool [(1, .class_ 2), (0, u "java/lang/Comparable"), (0, .class_ 4), (0, u "java/lang/Object")] 7

/-- java/lang/Comparable -/
def k3 : Class := { plain "java/lang/Comparable" (some 0) with
  accessFlags := 1537
  interfaces := #[]
  cf := some (fileOf pool3 1 #[] #[] 1537 3 #[] #[])
  fields := #[]
  methods := #[]
  instanceTypes := #[]
  staticTypes := #[]
  resolved := Array.replicate 12 none
  statics := none }

def pool4 : Array CpInfo := pool [(2, .class_ 4), (1, u "java/lang/CharSequence"), (42, .class_ 48), (0, u "java/lang/CharSequence$1CodePointIterator"), (10, .class_ 60), (0, u "java/lang/CharSequence$1CharIterator"), (5, .class_ 67), (0, u "java/lang/Object")] 63

/-- java/lang/CharSequence -/
def k4 : Class := { plain "java/lang/CharSequence" (some 0) with
  accessFlags := 1537
  interfaces := #[]
  cf := some (fileOf pool4 2 #[.nestMembers #[47, 59]] #[] 1537 66 #[] #[])
  fields := #[]
  methods := #[]
  instanceTypes := #[]
  staticTypes := #[]
  resolved := Array.replicate 131 none
  statics := none }

def pool5 : Array CpInfo := pool [(1, .class_ 2), (0, u "java/lang/constant/Constable"), (0, .class_ 4), (0, u "java/lang/Object")] 6

/-- java/lang/constant/Constable -/
def k5 : Class := { plain "java/lang/constant/Constable" (some 0) with
  accessFlags := 1537
  interfaces := #[]
  cf := some (fileOf pool5 1 #[] #[] 1537 3 #[] #[])
  fields := #[]
  methods := #[]
  instanceTypes := #[]
  staticTypes := #[]
  resolved := Array.replicate 11 none
  statics := none }

def pool6 : Array CpInfo := pool [(1, .class_ 2), (0, u "java/lang/constant/ConstantDesc"), (0, .class_ 4), (0, u "java/lang/Object")] 32

/-- java/lang/constant/ConstantDesc -/
def k6 : Class := { plain "java/lang/constant/ConstantDesc" (some 0) with
  accessFlags := 1537
  interfaces := #[]
  cf := some (fileOf pool6 1 #[] #[] 1537 3 #[] #[])
  fields := #[]
  methods := #[]
  instanceTypes := #[]
  staticTypes := #[]
  resolved := Array.replicate 37 none
  statics := none }

def pool7 : Array CpInfo := pool [(1, .methodref 2 3), (0, .class_ 4), (0, .nameAndType 5 6), (0, u "java/lang/Object"), (0, u "<init>"), (0, u "()V"), (0, .string 8), (0, u ""), (0, .fieldref 10 11), (0, .class_ 12), (0, .nameAndType 13 14), (0, u "java/lang/String"), (0, u "value"), (0, u "[B"), (0, .fieldref 10 16), (0, .nameAndType 17 18), (0, u "coder"), (0, u "B"), (2, u "hash"), (0, u "I"), (2, u "hashIsZero"), (0, u "Z"), (0, .methodref 10 28), (0, .nameAndType 5 29), (0, u "([CIILjava/lang/Void;)V"), (8, .fieldref 10 39), (0, .nameAndType 40 26), (0, u "COMPACT_STRINGS"), (1, .class_ 44), (1, u "java/lang/StringUTF16"), (0, u "compress"), (1, .methodref 42 48), (0, .nameAndType 49 50), (0, u "coderFromArrayLen"), (0, u "([BI)B"), (56, .class_ 109), (1, u "java/lang/StringLatin1"), (32, u "()Z"), (34, .methodref 42 178), (0, .nameAndType 45 179), (0, u "([CII)[B"), (154, u "()I"), (0, .methodref 10 336), (0, .nameAndType 17 337), (0, u "()B"), (25, u "([BI)C"), (27, u "(II)V"), (35, u "(I)C"), (64, .methodref 10 493), (0, .nameAndType 494 142), (0, u "isLatin1"), (0, .methodref 107 496), (0, .nameAndType 497 363), (0, u "charAt"), (0, .methodref 42 496), (2, u "checkIndex"), (5, u "length"), (67, .class_ 576), (0, u "java/lang/CharSequence"), (22, u "CASE_INSENSITIVE_ORDER"), (0, u "Ljava/util/Comparator;"), (91, u "isEmpty"), (317, u "([C)V"), (42, .fieldref 1054 1055), (0, .class_ 1056), (0, .nameAndType 1057 1058), (0, u "jdk/internal/util/Preconditions"), (0, u "SIOOBE_FORMATTER"), (0, u "Ljava/util/function/BiFunction;"), (0, .methodref 1054 1060), (0, .nameAndType 501 1061), (0, u "(IILjava/util/function/BiFunction;)I"), (39, u "serialPersistentFields"), (0, u "[Ljava/io/ObjectStreamField;"), (0, .class_ 1104), (0, u "java/lang/String$CaseInsensitiveComparator"), (1, .class_ 1107), (0, u "java/io/Serializable"), (0, .class_ 1109), (0, u "java/lang/Comparable"), (0, .class_ 1111), (0, u "java/lang/constant/Constable"), (0, .class_ 1113), (0, u "java/lang/constant/ConstantDesc"), (2, u "serialVersionUID"), (0, u "J"), (3, u "REPL"), (0, u "C"), (2, u "LATIN1"), (1, u "UTF16")] 323

def k7m0 : Method := { name := "<init>", desc := "()V", sig := { parameters := [], returnType := none }, accessFlags := 1, code := none }
def k7c1 : Code := { maxStack := 5, maxLocals := 2, code := jdk_42_method_3_code, exceptionTable := #[], attributes := #[] }
def k7m1 : Method := { name := "<init>", desc := "([C)V", sig := { parameters := [(.array .char)], returnType := none }, accessFlags := 1, code := some k7c1 }
def k7c2 : Code := { maxStack := 2, maxLocals := 1, code := jdk_42_method_54_code, exceptionTable := #[], attributes := #[] }
def k7m2 : Method := { name := "length", desc := "()I", sig := { parameters := [], returnType := some .int }, accessFlags := 1, code := some k7c2 }
def k7c3 : Code := { maxStack := 1, maxLocals := 1, code := jdk_42_method_55_code, exceptionTable := #[], attributes := #[] }
def k7m3 : Method := { name := "isEmpty", desc := "()Z", sig := { parameters := [], returnType := some .boolean }, accessFlags := 1, code := some k7c3 }
def k7c4 : Code := { maxStack := 2, maxLocals := 2, code := jdk_42_method_56_code, exceptionTable := #[], attributes := #[] }
def k7m4 : Method := { name := "charAt", desc := "(I)C", sig := { parameters := [.int], returnType := some .char }, accessFlags := 1, code := some k7c4 }
def k7c5 : Code := { maxStack := 4, maxLocals := 6, code := jdk_42_method_149_code, exceptionTable := #[], attributes := #[] }
def k7m5 : Method := { name := "<init>", desc := "([CIILjava/lang/Void;)V", sig := { parameters := [(.array .char), .int, .int, (.object "java/lang/Void")], returnType := none }, accessFlags := 2, code := some k7c5 }
def k7c6 : Code := { maxStack := 1, maxLocals := 1, code := jdk_42_method_152_code, exceptionTable := #[], attributes := #[] }
def k7m6 : Method := { name := "coder", desc := "()B", sig := { parameters := [], returnType := some .byte }, accessFlags := 0, code := some k7c6 }
def k7c7 : Code := { maxStack := 1, maxLocals := 1, code := jdk_42_method_154_code, exceptionTable := #[], attributes := #[] }
def k7m7 : Method := { name := "isLatin1", desc := "()Z", sig := { parameters := [], returnType := some .boolean }, accessFlags := 0, code := some k7c7 }
def k7c8 : Code := { maxStack := 3, maxLocals := 2, code := jdk_42_method_155_code, exceptionTable := #[], attributes := #[] }
def k7m8 : Method := { name := "checkIndex", desc := "(II)V", sig := { parameters := [.int, .int], returnType := none }, accessFlags := 8, code := some k7c8 }
/-- java/lang/String -/
def k7 : Class := { plain "java/lang/String" (some 0) with
  accessFlags := 49
  interfaces := #[2, 3, 4, 5, 6]
  cf := some (fileOf pool7 10 #[.nestMembers #[1103]] #[{ accessFlags := 1, nameIndex := 5, descriptorIndex := 6, attributes := #[] }, { accessFlags := 1, nameIndex := 5, descriptorIndex := 1010, attributes := #[] }, { accessFlags := 1, nameIndex := 507, descriptorIndex := 334, attributes := #[] }, { accessFlags := 1, nameIndex := 692, descriptorIndex := 142, attributes := #[] }, { accessFlags := 1, nameIndex := 497, descriptorIndex := 427, attributes := #[] }, { accessFlags := 2, nameIndex := 5, descriptorIndex := 29, attributes := #[] }, { accessFlags := 0, nameIndex := 17, descriptorIndex := 337, attributes := #[] }, { accessFlags := 0, nameIndex := 494, descriptorIndex := 142, attributes := #[] }, { accessFlags := 8, nameIndex := 501, descriptorIndex := 391, attributes := #[] }] 49 2 #[1106, 1108, 575, 1110, 1112] #[{ accessFlags := 18, nameIndex := 13, descriptorIndex := 14, attributes := #[] }, { accessFlags := 18, nameIndex := 17, descriptorIndex := 18, attributes := #[] }, { accessFlags := 2, nameIndex := 21, descriptorIndex := 22, attributes := #[] }, { accessFlags := 2, nameIndex := 25, descriptorIndex := 26, attributes := #[] }, { accessFlags := 26, nameIndex := 1116, descriptorIndex := 1117, attributes := #[] }, { accessFlags := 24, nameIndex := 40, descriptorIndex := 26, attributes := #[] }, { accessFlags := 26, nameIndex := 1101, descriptorIndex := 1102, attributes := #[] }, { accessFlags := 26, nameIndex := 1121, descriptorIndex := 1122, attributes := #[] }, { accessFlags := 25, nameIndex := 599, descriptorIndex := 600, attributes := #[] }, { accessFlags := 24, nameIndex := 1125, descriptorIndex := 18, attributes := #[] }, { accessFlags := 24, nameIndex := 1127, descriptorIndex := 18, attributes := #[] }])
  fields := #[{ name := "value", type := (.array .byte), accessFlags := 18, slot := 0, constantValue := 0 }, { name := "coder", type := .byte, accessFlags := 18, slot := 1, constantValue := 0 }, { name := "hash", type := .int, accessFlags := 2, slot := 2, constantValue := 0 }, { name := "hashIsZero", type := .boolean, accessFlags := 2, slot := 3, constantValue := 0 }, { name := "serialVersionUID", type := .long, accessFlags := 26, slot := 0, constantValue := 0 }, { name := "COMPACT_STRINGS", type := .boolean, accessFlags := 24, slot := 1, constantValue := 0 }, { name := "serialPersistentFields", type := (.array (.object "java/io/ObjectStreamField")), accessFlags := 26, slot := 2, constantValue := 0 }, { name := "REPL", type := .char, accessFlags := 26, slot := 3, constantValue := 0 }, { name := "CASE_INSENSITIVE_ORDER", type := (.object "java/util/Comparator"), accessFlags := 25, slot := 4, constantValue := 0 }, { name := "LATIN1", type := .byte, accessFlags := 24, slot := 5, constantValue := 0 }, { name := "UTF16", type := .byte, accessFlags := 24, slot := 6, constantValue := 0 }]
  methods := #[k7m0, k7m1, k7m2, k7m3, k7m4, k7m5, k7m6, k7m7, k7m8]
  instanceTypes := #[(.array .byte), .byte, .int, .boolean]
  staticTypes := #[.long, .boolean, (.array (.object "java/io/ObjectStreamField")), .char, (.object "java/util/Comparator"), .byte, .byte]
  resolved := Array.replicate 1451 none
  statics := some 0 }

def pool8 : Array CpInfo := pool [(2, .class_ 4), (1, u "java/lang/Object"), (0, u "<init>"), (0, u "()V"), (0, .string 8), (0, u "text"), (0, .methodref 10 11), (0, .class_ 12), (0, .nameAndType 13 14), (0, u "java/util/Objects"), (0, u "requireNonNull"), (0, u "(Ljava/lang/Object;Ljava/lang/String;)Ljava/lang/Object;"), (0, .methodref 16 17), (0, .class_ 18), (0, .nameAndType 19 20), (0, u "java/lang/String"), (0, u "isEmpty"), (0, u "()Z"), (0, .methodref 16 22), (0, .nameAndType 23 24), (0, u "length"), (0, u "()I"), (0, .class_ 26), (0, u "com/example/concordat/concordat/core/Limits"), (0, .methodref 16 28), (0, .nameAndType 29 30), (0, u "charAt"), (0, u "(I)C"), (2, u "isId"), (0, u "(Ljava/lang/String;)Z"), (69, u "ID_RULE"), (0, u "Ljava/lang/String;"), (3, u "MAX_KEY_BYTES"), (0, u "I"), (1, u "MAX_VALUE_BYTES"), (0, u "MAX_OPERATIONS"), (1, u "MAX_ID_CHARACTERS")] 44

def k8m0 : Method := { name := "<init>", desc := "()V", sig := { parameters := [], returnType := none }, accessFlags := 2, code := none }
def k8c1 : Code := { maxStack := 2, maxLocals := 4, code := prog_14_method_2_code, exceptionTable := #[], attributes := #[] }
def k8m1 : Method := { name := "isId", desc := "(Ljava/lang/String;)Z", sig := { parameters := [(.object "java/lang/String")], returnType := some .boolean }, accessFlags := 9, code := some k8c1 }
/-- com/example/concordat/concordat/core/Limits -/
def k8 : Class := { plain "com/example/concordat/concordat/core/Limits" (some 0) with
  accessFlags := 49
  interfaces := #[]
  cf := some (fileOf pool8 25 #[] #[{ accessFlags := 2, nameIndex := 5, descriptorIndex := 6, attributes := #[] }, { accessFlags := 9, nameIndex := 33, descriptorIndex := 34, attributes := #[] }] 49 2 #[] #[{ accessFlags := 25, nameIndex := 104, descriptorIndex := 105, attributes := #[] }, { accessFlags := 25, nameIndex := 109, descriptorIndex := 110, attributes := #[] }, { accessFlags := 25, nameIndex := 112, descriptorIndex := 110, attributes := #[] }, { accessFlags := 25, nameIndex := 113, descriptorIndex := 110, attributes := #[] }, { accessFlags := 26, nameIndex := 115, descriptorIndex := 110, attributes := #[] }])
  fields := #[{ name := "ID_RULE", type := (.object "java/lang/String"), accessFlags := 25, slot := 0, constantValue := 0 }, { name := "MAX_KEY_BYTES", type := .int, accessFlags := 25, slot := 1, constantValue := 0 }, { name := "MAX_VALUE_BYTES", type := .int, accessFlags := 25, slot := 2, constantValue := 0 }, { name := "MAX_OPERATIONS", type := .int, accessFlags := 25, slot := 3, constantValue := 0 }, { name := "MAX_ID_CHARACTERS", type := .int, accessFlags := 26, slot := 4, constantValue := 0 }]
  methods := #[k8m0, k8m1]
  instanceTypes := #[]
  staticTypes := #[(.object "java/lang/String"), .int, .int, .int, .int]
  resolved := Array.replicate 160 none
  statics := none }

def pool9 : Array CpInfo := pool [(2, .class_ 4), (1, u "java/lang/Object"), (0, u "<init>"), (0, u "()V"), (35, .class_ 44), (1, u "java/util/Objects"), (0, u "requireNonNull"), (48, u "(Ljava/lang/Object;Ljava/lang/String;)Ljava/lang/Object;")] 89

def k9m0 : Method := { name := "<init>", desc := "()V", sig := { parameters := [], returnType := none }, accessFlags := 2, code := none }
def k9c1 : Code := { maxStack := 3, maxLocals := 2, code := jdk_31_method_11_code, exceptionTable := #[], attributes := #[] }
def k9m1 : Method := { name := "requireNonNull", desc := "(Ljava/lang/Object;Ljava/lang/String;)Ljava/lang/Object;", sig := { parameters := [(.object "java/lang/Object"), (.object "java/lang/String")], returnType := some (.object "java/lang/Object") }, accessFlags := 9, code := some k9c1 }
/-- java/util/Objects -/
def k9 : Class := { plain "java/util/Objects" (some 0) with
  accessFlags := 49
  interfaces := #[]
  cf := some (fileOf pool9 42 #[] #[{ accessFlags := 2, nameIndex := 5, descriptorIndex := 6, attributes := #[] }, { accessFlags := 9, nameIndex := 45, descriptorIndex := 94, attributes := #[] }] 49 2 #[] #[])
  fields := #[]
  methods := #[k9m0, k9m1]
  instanceTypes := #[]
  staticTypes := #[]
  resolved := Array.replicate 184 none
  statics := none }

def pool10 : Array CpInfo := pool [(3, .class_ 4), (0, u "java/lang/String"), (1, .class_ 8), (1, u "java/lang/Object"), (0, u "<init>"), (0, u "()V"), (0, .methodref 12 13), (0, .class_ 14), (0, .nameAndType 15 16), (0, u "java/lang/StringUTF16"), (0, u "newBytesLength"), (0, u "(I)I"), (3, .integer 1073741823), (23, .fieldref 12 45), (0, .nameAndType 46 47), (0, u "$assertionsDisabled"), (0, u "Z"), (0, .methodref 12 49), (0, .nameAndType 50 51), (0, u "length"), (0, u "([B)I"), (7, .fieldref 12 60), (0, .nameAndType 61 62), (0, u "HI_BYTE_SHIFT"), (0, u "I"), (0, .fieldref 12 64), (0, .nameAndType 65 62), (0, u "LO_BYTE_SHIFT"), (1, .methodref 12 68), (0, .nameAndType 69 70), (0, u "checkIndex"), (0, u "(I[B)V"), (0, .methodref 12 72), (0, .nameAndType 73 74), (0, u "getChar"), (0, u "([BI)C"), (32, .methodref 12 108), (0, .nameAndType 109 110), (0, u "newBytesFor"), (0, u "(I)[B"), (0, .methodref 12 112), (0, .nameAndType 113 114), (0, u "putChar"), (0, u "([BII)V"), (0, .methodref 12 116), (0, .nameAndType 117 118), (0, u "compress"), (0, u "([CI[BII)I"), (0, .methodref 12 120), (0, .nameAndType 121 122), (0, u "toBytes"), (0, u "([CII)[B"), (138, u "coderFromArrayLen"), (0, u "([BI)B"), (106, .class_ 371), (1, u "java/lang/StringUTF16$LinesSpliterator"), (20, u "charAt"), (21, .methodref 3 415), (0, .nameAndType 69 416), (0, u "(II)V"), (13, u "MAX_LENGTH"), (196, .class_ 628), (0, u "java/lang/StringUTF16$CodePointsSpliterator"), (0, .class_ 630), (0, u "java/lang/StringUTF16$CharsSpliterator")] 4

def k10m0 : Method := { name := "<init>", desc := "()V", sig := { parameters := [], returnType := none }, accessFlags := 0, code := none }
def k10c1 : Code := { maxStack := 1, maxLocals := 1, code := jdk_52_method_2_code, exceptionTable := #[], attributes := #[] }
def k10m1 : Method := { name := "newBytesFor", desc := "(I)[B", sig := { parameters := [.int], returnType := some (.array .byte) }, accessFlags := 9, code := some k10c1 }
def k10c2 : Code := { maxStack := 4, maxLocals := 1, code := jdk_52_method_3_code, exceptionTable := #[], attributes := #[] }
def k10m2 : Method := { name := "newBytesLength", desc := "(I)I", sig := { parameters := [.int], returnType := some .int }, accessFlags := 9, code := some k10c2 }
def k10c3 : Code := { maxStack := 4, maxLocals := 3, code := jdk_52_method_4_code, exceptionTable := #[], attributes := #[] }
def k10m3 : Method := { name := "putChar", desc := "([BII)V", sig := { parameters := [(.array .byte), .int, .int], returnType := none }, accessFlags := 8, code := some k10c3 }
def k10c4 : Code := { maxStack := 3, maxLocals := 2, code := jdk_52_method_5_code, exceptionTable := #[], attributes := #[] }
def k10m4 : Method := { name := "getChar", desc := "([BI)C", sig := { parameters := [(.array .byte), .int], returnType := some .char }, accessFlags := 8, code := some k10c4 }
def k10c5 : Code := { maxStack := 2, maxLocals := 1, code := jdk_52_method_6_code, exceptionTable := #[], attributes := #[] }
def k10m5 : Method := { name := "length", desc := "([B)I", sig := { parameters := [(.array .byte)], returnType := some .int }, accessFlags := 9, code := some k10c5 }
def k10c6 : Code := { maxStack := 4, maxLocals := 5, code := jdk_52_method_14_code, exceptionTable := #[], attributes := #[] }
def k10m6 : Method := { name := "toBytes", desc := "([CII)[B", sig := { parameters := [(.array .char), .int, .int], returnType := some (.array .byte) }, accessFlags := 9, code := some k10c6 }
def k10c7 : Code := { maxStack := 2, maxLocals := 2, code := jdk_52_method_15_code, exceptionTable := #[], attributes := #[] }
def k10m7 : Method := { name := "coderFromArrayLen", desc := "([BI)B", sig := { parameters := [(.array .byte), .int], returnType := some .byte }, accessFlags := 8, code := some k10c7 }
def k10c8 : Code := { maxStack := 5, maxLocals := 6, code := jdk_52_method_16_code, exceptionTable := #[], attributes := #[] }
def k10m8 : Method := { name := "compress", desc := "([CII)[B", sig := { parameters := [(.array .char), .int, .int], returnType := some (.array .byte) }, accessFlags := 9, code := some k10c8 }
def k10c9 : Code := { maxStack := 3, maxLocals := 7, code := jdk_52_method_21_code, exceptionTable := #[], attributes := #[] }
def k10m9 : Method := { name := "compress", desc := "([CI[BII)I", sig := { parameters := [(.array .char), .int, (.array .byte), .int, .int], returnType := some .int }, accessFlags := 9, code := some k10c9 }
def k10c10 : Code := { maxStack := 2, maxLocals := 2, code := jdk_52_method_83_code, exceptionTable := #[], attributes := #[] }
def k10m10 : Method := { name := "charAt", desc := "([BI)C", sig := { parameters := [(.array .byte), .int], returnType := some .char }, accessFlags := 9, code := some k10c10 }
def k10c11 : Code := { maxStack := 2, maxLocals := 2, code := jdk_52_method_91_code, exceptionTable := #[], attributes := #[] }
def k10m11 : Method := { name := "checkIndex", desc := "(I[B)V", sig := { parameters := [.int, (.array .byte)], returnType := none }, accessFlags := 9, code := some k10c11 }
/-- java/lang/StringUTF16 -/
def k10 : Class := { plain "java/lang/StringUTF16" (some 0) with
  accessFlags := 48
  interfaces := #[]
  cf := some (fileOf pool10 12 #[.nestMembers #[627, 629, 369]] #[{ accessFlags := 0, nameIndex := 9, descriptorIndex := 10, attributes := #[] }, { accessFlags := 9, nameIndex := 109, descriptorIndex := 110, attributes := #[] }, { accessFlags := 9, nameIndex := 15, descriptorIndex := 16, attributes := #[] }, { accessFlags := 8, nameIndex := 113, descriptorIndex := 114, attributes := #[] }, { accessFlags := 8, nameIndex := 73, descriptorIndex := 74, attributes := #[] }, { accessFlags := 9, nameIndex := 50, descriptorIndex := 51, attributes := #[] }, { accessFlags := 9, nameIndex := 121, descriptorIndex := 122, attributes := #[] }, { accessFlags := 8, nameIndex := 261, descriptorIndex := 262, attributes := #[] }, { accessFlags := 9, nameIndex := 117, descriptorIndex := 122, attributes := #[] }, { accessFlags := 9, nameIndex := 117, descriptorIndex := 118, attributes := #[] }, { accessFlags := 9, nameIndex := 392, descriptorIndex := 74, attributes := #[] }, { accessFlags := 9, nameIndex := 69, descriptorIndex := 70, attributes := #[] }] 48 6 #[] #[{ accessFlags := 26, nameIndex := 61, descriptorIndex := 62, attributes := #[] }, { accessFlags := 26, nameIndex := 65, descriptorIndex := 62, attributes := #[] }, { accessFlags := 24, nameIndex := 430, descriptorIndex := 62, attributes := #[] }, { accessFlags := 4120, nameIndex := 46, descriptorIndex := 47, attributes := #[] }])
  fields := #[{ name := "HI_BYTE_SHIFT", type := .int, accessFlags := 26, slot := 0, constantValue := 0 }, { name := "LO_BYTE_SHIFT", type := .int, accessFlags := 26, slot := 1, constantValue := 0 }, { name := "MAX_LENGTH", type := .int, accessFlags := 24, slot := 2, constantValue := 0 }, { name := "$assertionsDisabled", type := .boolean, accessFlags := 4120, slot := 3, constantValue := 0 }]
  methods := #[k10m0, k10m1, k10m2, k10m3, k10m4, k10m5, k10m6, k10m7, k10m8, k10m9, k10m10, k10m11]
  instanceTypes := #[]
  staticTypes := #[.int, .int, .int, .boolean]
  resolved := Array.replicate 635 none
  statics := some 1 }

def pool11 : Array CpInfo := pool [(1, .class_ 2), (0, u "java/lang/String"), (1, .class_ 6), (1, u "java/lang/Object"), (0, u "<init>"), (0, u "()V"), (0, .methodref 1 10), (0, .nameAndType 11 12), (0, u "checkIndex"), (0, u "(II)V"), (1, .class_ 16), (1, u "java/lang/StringLatin1"), (36, u "([BI)C"), (67, u "$assertionsDisabled"), (0, u "Z"), (98, .class_ 223), (1, u "java/lang/StringLatin1$LinesSpliterator"), (28, u "charAt"), (137, .class_ 391), (0, u "java/lang/StringLatin1$CharsSpliterator")] 3

def k11m0 : Method := { name := "<init>", desc := "()V", sig := { parameters := [], returnType := none }, accessFlags := 0, code := none }
def k11c1 : Code := { maxStack := 2, maxLocals := 2, code := jdk_43_method_2_code, exceptionTable := #[], attributes := #[] }
def k11m1 : Method := { name := "charAt", desc := "([BI)C", sig := { parameters := [(.array .byte), .int], returnType := some .char }, accessFlags := 9, code := some k11c1 }
/-- java/lang/StringLatin1 -/
def k11 : Class := { plain "java/lang/StringLatin1" (some 0) with
  accessFlags := 48
  interfaces := #[]
  cf := some (fileOf pool11 14 #[.nestMembers #[390, 221]] #[{ accessFlags := 0, nameIndex := 7, descriptorIndex := 8, attributes := #[] }, { accessFlags := 9, nameIndex := 252, descriptorIndex := 53, attributes := #[] }] 48 4 #[] #[{ accessFlags := 4120, nameIndex := 121, descriptorIndex := 122, attributes := #[] }])
  fields := #[{ name := "$assertionsDisabled", type := .boolean, accessFlags := 4120, slot := 0, constantValue := 0 }]
  methods := #[k11m0, k11m1]
  instanceTypes := #[]
  staticTypes := #[.boolean]
  resolved := Array.replicate 395 none
  statics := none }

def pool12 : Array CpInfo := pool [(2, .class_ 4), (1, u "java/lang/Object"), (0, u "<init>"), (0, u "()V"), (17, .class_ 26), (1, u "jdk/internal/util/Preconditions"), (6, u "checkIndex"), (21, .class_ 56), (0, u "jdk/internal/util/Preconditions$4"), (57, .class_ 115), (0, u "jdk/internal/util/Preconditions$1"), (7, u "SIOOBE_FORMATTER"), (0, u "Ljava/util/function/BiFunction;"), (0, .class_ 126), (0, u "jdk/internal/util/Preconditions$2"), (3, u "AIOOBE_FORMATTER"), (0, .class_ 132), (0, u "jdk/internal/util/Preconditions$3"), (3, u "IOOBE_FORMATTER"), (41, u "(IILjava/util/function/BiFunction;)I")] 15

def k12m0 : Method := { name := "<init>", desc := "()V", sig := { parameters := [], returnType := none }, accessFlags := 1, code := none }
def k12c1 : Code := { maxStack := 3, maxLocals := 3, code := jdk_41_method_11_code, exceptionTable := #[], attributes := #[] }
def k12m1 : Method := { name := "checkIndex", desc := "(IILjava/util/function/BiFunction;)I", sig := { parameters := [.int, .int, (.object "java/util/function/BiFunction")], returnType := some .int }, accessFlags := 9, code := some k12c1 }
/-- jdk/internal/util/Preconditions -/
def k12 : Class := { plain "jdk/internal/util/Preconditions" (some 0) with
  accessFlags := 33
  interfaces := #[]
  cf := some (fileOf pool12 24 #[.nestMembers #[55, 131, 125, 114]] #[{ accessFlags := 1, nameIndex := 5, descriptorIndex := 6, attributes := #[] }, { accessFlags := 9, nameIndex := 33, descriptorIndex := 178, attributes := #[] }] 33 2 #[] #[{ accessFlags := 25, nameIndex := 123, descriptorIndex := 124, attributes := #[] }, { accessFlags := 25, nameIndex := 130, descriptorIndex := 124, attributes := #[] }, { accessFlags := 25, nameIndex := 136, descriptorIndex := 124, attributes := #[] }])
  fields := #[{ name := "SIOOBE_FORMATTER", type := (.object "java/util/function/BiFunction"), accessFlags := 25, slot := 0, constantValue := 0 }, { name := "AIOOBE_FORMATTER", type := (.object "java/util/function/BiFunction"), accessFlags := 25, slot := 1, constantValue := 0 }, { name := "IOOBE_FORMATTER", type := (.object "java/util/function/BiFunction"), accessFlags := 25, slot := 2, constantValue := 0 }]
  methods := #[k12m0, k12m1]
  instanceTypes := #[]
  staticTypes := #[(.object "java/util/function/BiFunction"), (.object "java/util/function/BiFunction"), (.object "java/util/function/BiFunction")]
  resolved := Array.replicate 194 none
  statics := some 2 }

def pool13 : Array CpInfo := pool [(9, u "<init>"), (6, .class_ 18), (1, u "java/lang/Object"), (0, u "()V"), (1, .class_ 23), (1, u "jdk/internal/util/ArraysSupport"), (0, u "LOG2_ARRAY_LONG_INDEX_SCALE"), (0, u "I"), (2, u "U"), (0, u "Ljdk/internal/misc/Unsafe;"), (8, u "BIG_ENDIAN"), (0, u "Z"), (8, u "LOG2_BYTE_BIT_SIZE"), (4, u "LOG2_ARRAY_INT_INDEX_SCALE"), (54, u "JLA"), (0, u "Ljdk/internal/access/JavaLangAccess;"), (11, u "LOG2_ARRAY_BOOLEAN_INDEX_SCALE"), (9, u "LOG2_ARRAY_BYTE_INDEX_SCALE"), (5, u "LOG2_ARRAY_CHAR_INDEX_SCALE"), (5, u "LOG2_ARRAY_SHORT_INDEX_SCALE"), (18, u "LOG2_ARRAY_FLOAT_INDEX_SCALE"), (24, u "LOG2_ARRAY_DOUBLE_INDEX_SCALE"), (89, u "T_BOOLEAN"), (2, u "T_CHAR"), (1, u "T_FLOAT"), (1, u "T_DOUBLE"), (1, u "T_BYTE"), (1, u "T_SHORT"), (1, u "T_INT"), (1, u "T_LONG"), (1, u "SOFT_MAX_ARRAY_LENGTH")] 83

def k13m0 : Method := { name := "<init>", desc := "()V", sig := { parameters := [], returnType := none }, accessFlags := 2, code := none }
/-- jdk/internal/util/ArraysSupport -/
def k13 : Class := { plain "jdk/internal/util/ArraysSupport" (some 0) with
  accessFlags := 33
  interfaces := #[]
  cf := some (fileOf pool13 21 #[] #[{ accessFlags := 2, nameIndex := 9, descriptorIndex := 19, attributes := #[] }] 33 16 #[] #[{ accessFlags := 24, nameIndex := 28, descriptorIndex := 29, attributes := #[] }, { accessFlags := 26, nameIndex := 38, descriptorIndex := 39, attributes := #[] }, { accessFlags := 25, nameIndex := 121, descriptorIndex := 25, attributes := #[] }, { accessFlags := 25, nameIndex := 131, descriptorIndex := 25, attributes := #[] }, { accessFlags := 25, nameIndex := 137, descriptorIndex := 25, attributes := #[] }, { accessFlags := 25, nameIndex := 143, descriptorIndex := 25, attributes := #[] }, { accessFlags := 25, nameIndex := 53, descriptorIndex := 25, attributes := #[] }, { accessFlags := 25, nameIndex := 24, descriptorIndex := 25, attributes := #[] }, { accessFlags := 25, nameIndex := 162, descriptorIndex := 25, attributes := #[] }, { accessFlags := 25, nameIndex := 187, descriptorIndex := 25, attributes := #[] }, { accessFlags := 26, nameIndex := 48, descriptorIndex := 25, attributes := #[] }, { accessFlags := 25, nameIndex := 277, descriptorIndex := 25, attributes := #[] }, { accessFlags := 25, nameIndex := 280, descriptorIndex := 25, attributes := #[] }, { accessFlags := 25, nameIndex := 282, descriptorIndex := 25, attributes := #[] }, { accessFlags := 25, nameIndex := 284, descriptorIndex := 25, attributes := #[] }, { accessFlags := 25, nameIndex := 286, descriptorIndex := 25, attributes := #[] }, { accessFlags := 25, nameIndex := 288, descriptorIndex := 25, attributes := #[] }, { accessFlags := 25, nameIndex := 290, descriptorIndex := 25, attributes := #[] }, { accessFlags := 25, nameIndex := 292, descriptorIndex := 25, attributes := #[] }, { accessFlags := 26, nameIndex := 108, descriptorIndex := 109, attributes := #[] }, { accessFlags := 25, nameIndex := 294, descriptorIndex := 25, attributes := #[] }])
  fields := #[{ name := "U", type := (.object "jdk/internal/misc/Unsafe"), accessFlags := 24, slot := 0, constantValue := 0 }, { name := "BIG_ENDIAN", type := .boolean, accessFlags := 26, slot := 1, constantValue := 0 }, { name := "LOG2_ARRAY_BOOLEAN_INDEX_SCALE", type := .int, accessFlags := 25, slot := 2, constantValue := 0 }, { name := "LOG2_ARRAY_BYTE_INDEX_SCALE", type := .int, accessFlags := 25, slot := 3, constantValue := 0 }, { name := "LOG2_ARRAY_CHAR_INDEX_SCALE", type := .int, accessFlags := 25, slot := 4, constantValue := 0 }, { name := "LOG2_ARRAY_SHORT_INDEX_SCALE", type := .int, accessFlags := 25, slot := 5, constantValue := 0 }, { name := "LOG2_ARRAY_INT_INDEX_SCALE", type := .int, accessFlags := 25, slot := 6, constantValue := 0 }, { name := "LOG2_ARRAY_LONG_INDEX_SCALE", type := .int, accessFlags := 25, slot := 7, constantValue := 0 }, { name := "LOG2_ARRAY_FLOAT_INDEX_SCALE", type := .int, accessFlags := 25, slot := 8, constantValue := 0 }, { name := "LOG2_ARRAY_DOUBLE_INDEX_SCALE", type := .int, accessFlags := 25, slot := 9, constantValue := 0 }, { name := "LOG2_BYTE_BIT_SIZE", type := .int, accessFlags := 26, slot := 10, constantValue := 0 }, { name := "T_BOOLEAN", type := .int, accessFlags := 25, slot := 11, constantValue := 0 }, { name := "T_CHAR", type := .int, accessFlags := 25, slot := 12, constantValue := 0 }, { name := "T_FLOAT", type := .int, accessFlags := 25, slot := 13, constantValue := 0 }, { name := "T_DOUBLE", type := .int, accessFlags := 25, slot := 14, constantValue := 0 }, { name := "T_BYTE", type := .int, accessFlags := 25, slot := 15, constantValue := 0 }, { name := "T_SHORT", type := .int, accessFlags := 25, slot := 16, constantValue := 0 }, { name := "T_INT", type := .int, accessFlags := 25, slot := 17, constantValue := 0 }, { name := "T_LONG", type := .int, accessFlags := 25, slot := 18, constantValue := 0 }, { name := "JLA", type := (.object "jdk/internal/access/JavaLangAccess"), accessFlags := 26, slot := 19, constantValue := 0 }, { name := "SOFT_MAX_ARRAY_LENGTH", type := .int, accessFlags := 25, slot := 20, constantValue := 0 }]
  methods := #[k13m0]
  instanceTypes := #[]
  staticTypes := #[(.object "jdk/internal/misc/Unsafe"), .boolean, .int, .int, .int, .int, .int, .int, .int, .int, .int, .int, .int, .int, .int, .int, .int, .int, .int, (.object "jdk/internal/access/JavaLangAccess"), .int]
  resolved := Array.replicate 378 none
  statics := none }

def pool14 : Array CpInfo := pool [(1, u "java/lang/Cloneable"), (0, .class_ 1), (0, u "java/lang/Object"), (0, .class_ 3)] 3

/-- java/lang/Cloneable -/
def k14 : Class := { plain "java/lang/Cloneable" (some 0) with
  accessFlags := 1537
  interfaces := #[]
  cf := some (fileOf pool14 2 #[] #[] 1537 4 #[] #[])
  fields := #[]
  methods := #[]
  instanceTypes := #[]
  staticTypes := #[]
  resolved := Array.replicate 8 none
  statics := none }

/-- the primitive byte -/
def k15 : Class := { plain "byte" none with kind := .primitive 'B', accessFlags := 0x411 }
/-- [B -/
def k16 : Class := { plain "[B" (some 0) with kind := .array 15 .byte, interfaces := #[14, 2], accessFlags := 1041 }

/-- the primitive char -/
def k17 : Class := { plain "char" none with kind := .primitive 'C', accessFlags := 0x411 }
/-- [C -/
def k18 : Class := { plain "[C" (some 0) with kind := .array 17 .char, interfaces := #[14, 2], accessFlags := 1041 }

/-- the primitive int -/
def k19 : Class := { plain "int" none with kind := .primitive 'I', accessFlags := 0x411 }
/-- [I -/
def k20 : Class := { plain "[I" (some 0) with kind := .array 19 .int, interfaces := #[14, 2], accessFlags := 1041 }

def heap : Heap := #[{ cls := 7, slots := #[.long 0, .int 1, .null, .int 0, .null, .int 0, .int 0], vm := .statics 7 },
  { cls := 10, slots := #[.int 0, .int 8, .int 0, .int 1], vm := .statics 10 },
  { cls := 12, slots := #[.null, .null, .null], vm := .statics 12 }]
def classes : Array Class := #[k0, k1, k2, k3, k4, k5, k6, k7, k8, k9, k10, k11, k12, k13, k14, k15, k16, k17, k18, k19, k20]
def interned : List (Array UInt16 × Addr) := []
def slotsUsed : Nat := 14
def theMethod : MethodId := ⟨1, 2⟩
def args0 : Array Value := #[.int 5, .int 5, .int 5, .int 5, .int 5]
def aboutOver (below : List Frame) : State where
  vm := { classes := classes, interned := interned.toArray }
  heap := heap
  slotsUsed := slotsUsed
  threads := #[{ frames := .invoking theMethod args0 :: below }]
def below0 : List Frame := [.native { method := ⟨0, 0⟩, args := #[] }]
def about1 : State := aboutOver below0
def p0 : Program := .bare "" "" ""
def e0 : Env := launch0.env 0 0 0
theorem w_frames : about1.frames = Frame.invoking theMethod args0 :: below0 := rfl
set_option maxRecDepth 65536 in
theorem w_args : argsFit about1.vm theMethod args0 = true := by decide +kernel
set_option maxRecDepth 65536 in
theorem w_heap : heapFits about1 = true := by decide +kernel
set_option maxRecDepth 65536 in
theorem w_runnable : about1.curStatus? = some .runnable := by decide +kernel
set_option maxRecDepth 65536 in
theorem w_alone : about1.alone = true := by decide +kernel
set_option maxRecDepth 65536 in
theorem w_named : about1.methodNamed? x = some theMethod := by decide +kernel
set_option maxRecDepth 65536 in
theorem w_hears : about1.hears theMethod below0 = true := by decide +kernel
set_option maxRecDepth 65536 in
theorem w_ripe : about1.ripe theMethod args0 below0 = true := by decide +kernel
theorem w_running : about1.status = .running := rfl
set_option maxRecDepth 65536 in
theorem w_room : about1.hasRoom e0.platform room_1 = true :=
  launch0.hasRoom_least _ room_1 (by decide +kernel) (by decide +kernel) (by decide +kernel) (by decide +kernel) (by decide +kernel) (by decide +kernel)
theorem allAtoms_all (ts : List Jvm.Cond) (a : Array Jvm.Value) (st : Jvm.State) : (allAtoms ts).before a st = ts.all (fun c => c.before a st) := by
  induction ts with
  | nil => rfl
  | cons c t ih =>
    show (Jvm.Cond.and c (allAtoms t)).before a st = _
    rw [Jvm.Cond.before_and, ih, List.all_cons]
def words1 : List Jvm.Cond := Jvm.Cond.code x code maxLocals ret :: tables_1
/-- a 'code' word, met by the world's own term for the bytes: nothing is compared byte by byte -/
theorem code_word {y : MethodName} {bytes : ByteArray} {mx : Nat} {rt : Option FieldType} {a : Array Value} {s : State} {m : MethodId} {meth : Method} {c : Code} (h1 : s.methodNamed? y = some m) (h2 : s.vm.method? m = some meth) (h3 : meth.code = some c) (h4 : c.code = bytes)
    (h5 : (c.maxLocals == mx && c.exceptionTable.isEmpty && decide (c.maxStack ≤ mostOperands) && decide (meth.sig.returnType = rt) && !meth.locks && decide (parseMethodDescriptor y.desc = some meth.sig)) = true) : (Jvm.Cond.code y bytes mx rt).before a s = true := by
  simp only [Bool.and_eq_true, beq_iff_eq, Bool.not_eq_true', decide_eq_true_eq] at h5
  obtain ⟨⟨⟨⟨⟨g1, g2⟩, g3⟩, g4⟩, g5⟩, g6⟩ := h5
  simp [Cond.before, Cond.holds, Cond.value, h1, h2, h3, h4, g1, g2, g3, g4, g5, g6]
def isCode : Jvm.Cond → Bool
  | .code _ _ _ _ => true
  | _ => false
theorem all_split {L : List Jvm.Cond} {P : Jvm.Cond → Bool} (h1 : L.all (fun c => isCode c || P c) = true) (h2 : ∀ c ∈ L.filter isCode, P c = true) : L.all P = true := by
  refine List.all_eq_true.mpr fun c hc => ?_
  have h := List.all_eq_true.mp h1 c hc
  rcases Bool.eq_false_or_eq_true (isCode c) with hi | hi
  · exact h2 c (List.mem_filter.mpr ⟨hc, hi⟩)
  · simpa [hi] using h
set_option maxRecDepth 65536 in
theorem w_c0 : (Jvm.Cond.code x code maxLocals ret).before args0 about1 = true := code_word (m := ⟨1, 2⟩) (meth := k1m2) (c := k1c2) (by decide +kernel) rfl rfl rfl (by decide +kernel)
set_option maxRecDepth 65536 in
theorem w_c1 : (Jvm.Cond.code ({ cls := "java/lang/String", name := "<init>", desc := "([C)V" } : Jvm.MethodName) jdk_42_method_3_code (2 : Nat) (Option.none : Option Jvm.ClassFile.FieldType)).before args0 about1 = true := code_word (m := ⟨7, 1⟩) (meth := k7m1) (c := k7c1) (by decide +kernel) rfl rfl rfl (by decide +kernel)
set_option maxRecDepth 65536 in
theorem w_c2 : (Jvm.Cond.code ({ cls := "java/lang/String", name := "<init>", desc := "([CIILjava/lang/Void;)V" } : Jvm.MethodName) jdk_42_method_149_code (6 : Nat) (Option.none : Option Jvm.ClassFile.FieldType)).before args0 about1 = true := code_word (m := ⟨7, 5⟩) (meth := k7m5) (c := k7c5) (by decide +kernel) rfl rfl rfl (by decide +kernel)
set_option maxRecDepth 65536 in
theorem w_c3 : (Jvm.Cond.code ({ cls := "java/lang/Object", name := "<init>", desc := "()V" } : Jvm.MethodName) object_method_1_code (1 : Nat) (Option.none : Option Jvm.ClassFile.FieldType)).before args0 about1 = true := code_word (m := ⟨0, 0⟩) (meth := k0m0) (c := k0c0) (by decide +kernel) rfl rfl rfl (by decide +kernel)
set_option maxRecDepth 65536 in
theorem w_c4 : (Jvm.Cond.code ({ cls := "com/example/concordat/concordat/core/Limits", name := "isId", desc := "(Ljava/lang/String;)Z" } : Jvm.MethodName) prog_14_method_2_code (4 : Nat) (Option.some Jvm.ClassFile.FieldType.boolean)).before args0 about1 = true := code_word (m := ⟨8, 1⟩) (meth := k8m1) (c := k8c1) (by decide +kernel) rfl rfl rfl (by decide +kernel)
set_option maxRecDepth 65536 in
theorem w_c5 : (Jvm.Cond.code ({ cls := "java/util/Objects", name := "requireNonNull", desc := "(Ljava/lang/Object;Ljava/lang/String;)Ljava/lang/Object;" } : Jvm.MethodName) jdk_31_method_11_code (2 : Nat) (Option.some (Jvm.ClassFile.FieldType.object "java/lang/Object"))).before args0 about1 = true := code_word (m := ⟨9, 1⟩) (meth := k9m1) (c := k9c1) (by decide +kernel) rfl rfl rfl (by decide +kernel)
set_option maxRecDepth 65536 in
theorem w_c6 : (Jvm.Cond.code ({ cls := "java/lang/String", name := "isEmpty", desc := "()Z" } : Jvm.MethodName) jdk_42_method_55_code (1 : Nat) (Option.some Jvm.ClassFile.FieldType.boolean)).before args0 about1 = true := code_word (m := ⟨7, 3⟩) (meth := k7m3) (c := k7c3) (by decide +kernel) rfl rfl rfl (by decide +kernel)
set_option maxRecDepth 65536 in
theorem w_c7 : (Jvm.Cond.code ({ cls := "java/lang/StringUTF16", name := "compress", desc := "([CII)[B" } : Jvm.MethodName) jdk_52_method_16_code (6 : Nat) (Option.some (Jvm.ClassFile.FieldType.array Jvm.ClassFile.FieldType.byte))).before args0 about1 = true := code_word (m := ⟨10, 8⟩) (meth := k10m8) (c := k10c8) (by decide +kernel) rfl rfl rfl (by decide +kernel)
set_option maxRecDepth 65536 in
theorem w_c8 : (Jvm.Cond.code ({ cls := "java/lang/StringUTF16", name := "compress", desc := "([CI[BII)I" } : Jvm.MethodName) jdk_52_method_21_code (7 : Nat) (Option.some Jvm.ClassFile.FieldType.int)).before args0 about1 = true := code_word (m := ⟨10, 9⟩) (meth := k10m9) (c := k10c9) (by decide +kernel) rfl rfl rfl (by decide +kernel)
set_option maxRecDepth 65536 in
theorem w_c9 : (Jvm.Cond.code ({ cls := "java/lang/StringUTF16", name := "coderFromArrayLen", desc := "([BI)B" } : Jvm.MethodName) jdk_52_method_15_code (2 : Nat) (Option.some Jvm.ClassFile.FieldType.byte)).before args0 about1 = true := code_word (m := ⟨10, 7⟩) (meth := k10m7) (c := k10c7) (by decide +kernel) rfl rfl rfl (by decide +kernel)
set_option maxRecDepth 65536 in
theorem w_c10 : (Jvm.Cond.code ({ cls := "java/lang/String", name := "length", desc := "()I" } : Jvm.MethodName) jdk_42_method_54_code (1 : Nat) (Option.some Jvm.ClassFile.FieldType.int)).before args0 about1 = true := code_word (m := ⟨7, 2⟩) (meth := k7m2) (c := k7c2) (by decide +kernel) rfl rfl rfl (by decide +kernel)
set_option maxRecDepth 65536 in
theorem w_c11 : (Jvm.Cond.code ({ cls := "java/lang/String", name := "coder", desc := "()B" } : Jvm.MethodName) jdk_42_method_152_code (1 : Nat) (Option.some Jvm.ClassFile.FieldType.byte)).before args0 about1 = true := code_word (m := ⟨7, 6⟩) (meth := k7m6) (c := k7c6) (by decide +kernel) rfl rfl rfl (by decide +kernel)
set_option maxRecDepth 65536 in
theorem w_c12 : (Jvm.Cond.code ({ cls := "com/example/concordat/concordat/core/LimitsIsIdPinLaw", name := "ok", desc := "(C)Z" } : Jvm.MethodName) method_2_code (1 : Nat) (Option.some Jvm.ClassFile.FieldType.boolean)).before args0 about1 = true := code_word (m := ⟨1, 1⟩) (meth := k1m1) (c := k1c1) (by decide +kernel) rfl rfl rfl (by decide +kernel)
set_option maxRecDepth 65536 in
theorem w_c13 : (Jvm.Cond.code ({ cls := "java/lang/String", name := "charAt", desc := "(I)C" } : Jvm.MethodName) jdk_42_method_56_code (2 : Nat) (Option.some Jvm.ClassFile.FieldType.char)).before args0 about1 = true := code_word (m := ⟨7, 4⟩) (meth := k7m4) (c := k7c4) (by decide +kernel) rfl rfl rfl (by decide +kernel)
set_option maxRecDepth 65536 in
theorem w_c14 : (Jvm.Cond.code ({ cls := "java/lang/String", name := "isLatin1", desc := "()Z" } : Jvm.MethodName) jdk_42_method_154_code (1 : Nat) (Option.some Jvm.ClassFile.FieldType.boolean)).before args0 about1 = true := code_word (m := ⟨7, 7⟩) (meth := k7m7) (c := k7c7) (by decide +kernel) rfl rfl rfl (by decide +kernel)
set_option maxRecDepth 65536 in
theorem w_c15 : (Jvm.Cond.code ({ cls := "java/lang/StringLatin1", name := "charAt", desc := "([BI)C" } : Jvm.MethodName) jdk_43_method_2_code (2 : Nat) (Option.some Jvm.ClassFile.FieldType.char)).before args0 about1 = true := code_word (m := ⟨11, 1⟩) (meth := k11m1) (c := k11c1) (by decide +kernel) rfl rfl rfl (by decide +kernel)
set_option maxRecDepth 65536 in
theorem w_c16 : (Jvm.Cond.code ({ cls := "java/lang/String", name := "checkIndex", desc := "(II)V" } : Jvm.MethodName) jdk_42_method_155_code (2 : Nat) (Option.none : Option Jvm.ClassFile.FieldType)).before args0 about1 = true := code_word (m := ⟨7, 8⟩) (meth := k7m8) (c := k7c8) (by decide +kernel) rfl rfl rfl (by decide +kernel)
set_option maxRecDepth 65536 in
theorem w_c17 : (Jvm.Cond.code ({ cls := "jdk/internal/util/Preconditions", name := "checkIndex", desc := "(IILjava/util/function/BiFunction;)I" } : Jvm.MethodName) jdk_41_method_11_code (3 : Nat) (Option.some Jvm.ClassFile.FieldType.int)).before args0 about1 = true := code_word (m := ⟨12, 1⟩) (meth := k12m1) (c := k12c1) (by decide +kernel) rfl rfl rfl (by decide +kernel)
set_option maxRecDepth 65536 in
theorem w_c18 : (Jvm.Cond.code ({ cls := "java/lang/StringUTF16", name := "toBytes", desc := "([CII)[B" } : Jvm.MethodName) jdk_52_method_14_code (5 : Nat) (Option.some (Jvm.ClassFile.FieldType.array Jvm.ClassFile.FieldType.byte))).before args0 about1 = true := code_word (m := ⟨10, 6⟩) (meth := k10m6) (c := k10c6) (by decide +kernel) rfl rfl rfl (by decide +kernel)
set_option maxRecDepth 65536 in
theorem w_c19 : (Jvm.Cond.code ({ cls := "java/lang/StringUTF16", name := "newBytesFor", desc := "(I)[B" } : Jvm.MethodName) jdk_52_method_2_code (1 : Nat) (Option.some (Jvm.ClassFile.FieldType.array Jvm.ClassFile.FieldType.byte))).before args0 about1 = true := code_word (m := ⟨10, 1⟩) (meth := k10m1) (c := k10c1) (by decide +kernel) rfl rfl rfl (by decide +kernel)
set_option maxRecDepth 65536 in
theorem w_c20 : (Jvm.Cond.code ({ cls := "java/lang/StringUTF16", name := "newBytesLength", desc := "(I)I" } : Jvm.MethodName) jdk_52_method_3_code (1 : Nat) (Option.some Jvm.ClassFile.FieldType.int)).before args0 about1 = true := code_word (m := ⟨10, 2⟩) (meth := k10m2) (c := k10c2) (by decide +kernel) rfl rfl rfl (by decide +kernel)
set_option maxRecDepth 65536 in
theorem w_c21 : (Jvm.Cond.code ({ cls := "java/lang/StringUTF16", name := "putChar", desc := "([BII)V" } : Jvm.MethodName) jdk_52_method_4_code (3 : Nat) (Option.none : Option Jvm.ClassFile.FieldType)).before args0 about1 = true := code_word (m := ⟨10, 3⟩) (meth := k10m3) (c := k10c3) (by decide +kernel) rfl rfl rfl (by decide +kernel)
set_option maxRecDepth 65536 in
theorem w_c22 : (Jvm.Cond.code ({ cls := "java/lang/StringUTF16", name := "getChar", desc := "([BI)C" } : Jvm.MethodName) jdk_52_method_5_code (2 : Nat) (Option.some Jvm.ClassFile.FieldType.char)).before args0 about1 = true := code_word (m := ⟨10, 4⟩) (meth := k10m4) (c := k10c4) (by decide +kernel) rfl rfl rfl (by decide +kernel)
set_option maxRecDepth 65536 in
theorem w_c23 : (Jvm.Cond.code ({ cls := "java/lang/StringUTF16", name := "charAt", desc := "([BI)C" } : Jvm.MethodName) jdk_52_method_83_code (2 : Nat) (Option.some Jvm.ClassFile.FieldType.char)).before args0 about1 = true := code_word (m := ⟨10, 10⟩) (meth := k10m10) (c := k10c10) (by decide +kernel) rfl rfl rfl (by decide +kernel)
set_option maxRecDepth 65536 in
theorem w_c24 : (Jvm.Cond.code ({ cls := "java/lang/StringUTF16", name := "checkIndex", desc := "(I[B)V" } : Jvm.MethodName) jdk_52_method_91_code (2 : Nat) (Option.none : Option Jvm.ClassFile.FieldType)).before args0 about1 = true := code_word (m := ⟨10, 11⟩) (meth := k10m11) (c := k10c11) (by decide +kernel) rfl rfl rfl (by decide +kernel)
set_option maxRecDepth 65536 in
theorem w_c25 : (Jvm.Cond.code ({ cls := "java/lang/StringUTF16", name := "length", desc := "([B)I" } : Jvm.MethodName) jdk_52_method_6_code (1 : Nat) (Option.some Jvm.ClassFile.FieldType.int)).before args0 about1 = true := code_word (m := ⟨10, 5⟩) (meth := k10m5) (c := k10c5) (by decide +kernel) rfl rfl rfl (by decide +kernel)
def codes1 : List Jvm.Cond := [Jvm.Cond.code x code maxLocals ret, Jvm.Cond.code ({ cls := "java/lang/String", name := "<init>", desc := "([C)V" } : Jvm.MethodName) jdk_42_method_3_code (2 : Nat) (Option.none : Option Jvm.ClassFile.FieldType), Jvm.Cond.code ({ cls := "java/lang/String", name := "<init>", desc := "([CIILjava/lang/Void;)V" } : Jvm.MethodName) jdk_42_method_149_code (6 : Nat) (Option.none : Option Jvm.ClassFile.FieldType), Jvm.Cond.code ({ cls := "java/lang/Object", name := "<init>", desc := "()V" } : Jvm.MethodName) object_method_1_code (1 : Nat) (Option.none : Option Jvm.ClassFile.FieldType), Jvm.Cond.code ({ cls := "com/example/concordat/concordat/core/Limits", name := "isId", desc := "(Ljava/lang/String;)Z" } : Jvm.MethodName) prog_14_method_2_code (4 : Nat) (Option.some Jvm.ClassFile.FieldType.boolean), Jvm.Cond.code ({ cls := "java/util/Objects", name := "requireNonNull", desc := "(Ljava/lang/Object;Ljava/lang/String;)Ljava/lang/Object;" } : Jvm.MethodName) jdk_31_method_11_code (2 : Nat) (Option.some (Jvm.ClassFile.FieldType.object "java/lang/Object")), Jvm.Cond.code ({ cls := "java/lang/String", name := "isEmpty", desc := "()Z" } : Jvm.MethodName) jdk_42_method_55_code (1 : Nat) (Option.some Jvm.ClassFile.FieldType.boolean), Jvm.Cond.code ({ cls := "java/lang/StringUTF16", name := "compress", desc := "([CII)[B" } : Jvm.MethodName) jdk_52_method_16_code (6 : Nat) (Option.some (Jvm.ClassFile.FieldType.array Jvm.ClassFile.FieldType.byte)), Jvm.Cond.code ({ cls := "java/lang/StringUTF16", name := "compress", desc := "([CI[BII)I" } : Jvm.MethodName) jdk_52_method_21_code (7 : Nat) (Option.some Jvm.ClassFile.FieldType.int), Jvm.Cond.code ({ cls := "java/lang/StringUTF16", name := "coderFromArrayLen", desc := "([BI)B" } : Jvm.MethodName) jdk_52_method_15_code (2 : Nat) (Option.some Jvm.ClassFile.FieldType.byte), Jvm.Cond.code ({ cls := "java/lang/String", name := "length", desc := "()I" } : Jvm.MethodName) jdk_42_method_54_code (1 : Nat) (Option.some Jvm.ClassFile.FieldType.int), Jvm.Cond.code ({ cls := "java/lang/String", name := "coder", desc := "()B" } : Jvm.MethodName) jdk_42_method_152_code (1 : Nat) (Option.some Jvm.ClassFile.FieldType.byte), Jvm.Cond.code ({ cls := "com/example/concordat/concordat/core/LimitsIsIdPinLaw", name := "ok", desc := "(C)Z" } : Jvm.MethodName) method_2_code (1 : Nat) (Option.some Jvm.ClassFile.FieldType.boolean), Jvm.Cond.code ({ cls := "java/lang/String", name := "charAt", desc := "(I)C" } : Jvm.MethodName) jdk_42_method_56_code (2 : Nat) (Option.some Jvm.ClassFile.FieldType.char), Jvm.Cond.code ({ cls := "java/lang/String", name := "isLatin1", desc := "()Z" } : Jvm.MethodName) jdk_42_method_154_code (1 : Nat) (Option.some Jvm.ClassFile.FieldType.boolean), Jvm.Cond.code ({ cls := "java/lang/StringLatin1", name := "charAt", desc := "([BI)C" } : Jvm.MethodName) jdk_43_method_2_code (2 : Nat) (Option.some Jvm.ClassFile.FieldType.char), Jvm.Cond.code ({ cls := "java/lang/String", name := "checkIndex", desc := "(II)V" } : Jvm.MethodName) jdk_42_method_155_code (2 : Nat) (Option.none : Option Jvm.ClassFile.FieldType), Jvm.Cond.code ({ cls := "jdk/internal/util/Preconditions", name := "checkIndex", desc := "(IILjava/util/function/BiFunction;)I" } : Jvm.MethodName) jdk_41_method_11_code (3 : Nat) (Option.some Jvm.ClassFile.FieldType.int), Jvm.Cond.code ({ cls := "java/lang/StringUTF16", name := "toBytes", desc := "([CII)[B" } : Jvm.MethodName) jdk_52_method_14_code (5 : Nat) (Option.some (Jvm.ClassFile.FieldType.array Jvm.ClassFile.FieldType.byte)), Jvm.Cond.code ({ cls := "java/lang/StringUTF16", name := "newBytesFor", desc := "(I)[B" } : Jvm.MethodName) jdk_52_method_2_code (1 : Nat) (Option.some (Jvm.ClassFile.FieldType.array Jvm.ClassFile.FieldType.byte)), Jvm.Cond.code ({ cls := "java/lang/StringUTF16", name := "newBytesLength", desc := "(I)I" } : Jvm.MethodName) jdk_52_method_3_code (1 : Nat) (Option.some Jvm.ClassFile.FieldType.int), Jvm.Cond.code ({ cls := "java/lang/StringUTF16", name := "putChar", desc := "([BII)V" } : Jvm.MethodName) jdk_52_method_4_code (3 : Nat) (Option.none : Option Jvm.ClassFile.FieldType), Jvm.Cond.code ({ cls := "java/lang/StringUTF16", name := "getChar", desc := "([BI)C" } : Jvm.MethodName) jdk_52_method_5_code (2 : Nat) (Option.some Jvm.ClassFile.FieldType.char), Jvm.Cond.code ({ cls := "java/lang/StringUTF16", name := "charAt", desc := "([BI)C" } : Jvm.MethodName) jdk_52_method_83_code (2 : Nat) (Option.some Jvm.ClassFile.FieldType.char), Jvm.Cond.code ({ cls := "java/lang/StringUTF16", name := "checkIndex", desc := "(I[B)V" } : Jvm.MethodName) jdk_52_method_91_code (2 : Nat) (Option.none : Option Jvm.ClassFile.FieldType), Jvm.Cond.code ({ cls := "java/lang/StringUTF16", name := "length", desc := "([B)I" } : Jvm.MethodName) jdk_52_method_6_code (1 : Nat) (Option.some Jvm.ClassFile.FieldType.int)]
set_option maxRecDepth 65536 in
theorem codes_eq : words1.filter isCode = codes1 := rfl
theorem w_codes : ∀ c ∈ words1.filter isCode, c.before args0 about1 = true := by
  rw [codes_eq]
  intro c hc
  simp only [codes1, List.mem_cons, List.not_mem_nil, or_false] at hc
  rcases hc with rfl | rfl | rfl | rfl | rfl | rfl | rfl | rfl | rfl | rfl | rfl | rfl | rfl | rfl | rfl | rfl | rfl | rfl | rfl | rfl | rfl | rfl | rfl | rfl | rfl | rfl
  · exact w_c0
  · exact w_c1
  · exact w_c2
  · exact w_c3
  · exact w_c4
  · exact w_c5
  · exact w_c6
  · exact w_c7
  · exact w_c8
  · exact w_c9
  · exact w_c10
  · exact w_c11
  · exact w_c12
  · exact w_c13
  · exact w_c14
  · exact w_c15
  · exact w_c16
  · exact w_c17
  · exact w_c18
  · exact w_c19
  · exact w_c20
  · exact w_c21
  · exact w_c22
  · exact w_c23
  · exact w_c24
  · exact w_c25
set_option maxRecDepth 65536 in
theorem w_t1 : (words1.take 24).all (fun c => isCode c || c.before args0 about1) = true := by decide +kernel
set_option maxRecDepth 65536 in
theorem w_t2 : ((words1.drop 24).take 24).all (fun c => isCode c || c.before args0 about1) = true := by decide +kernel
set_option maxRecDepth 65536 in
theorem w_t3 : (((words1.drop 24).drop 24).take 24).all (fun c => isCode c || c.before args0 about1) = true := by decide +kernel
set_option maxRecDepth 65536 in
theorem w_t4 : ((((words1.drop 24).drop 24).drop 24).take 24).all (fun c => isCode c || c.before args0 about1) = true := by decide +kernel
set_option maxRecDepth 65536 in
theorem w_t5 : ((((words1.drop 24).drop 24).drop 24).drop 24).all (fun c => isCode c || c.before args0 about1) = true := by decide +kernel
theorem w_tables : (allAtoms (Jvm.Cond.code x code maxLocals ret :: tables_1)).before args0 about1 = true := by
  rw [allAtoms_all]
  show words1.all (fun c => c.before args0 about1) = true
  refine all_split ?_ w_codes
  rw [← List.take_append_drop 24 words1, List.all_append, w_t1, ← List.take_append_drop 24 (words1.drop 24), List.all_append, w_t2, ← List.take_append_drop 24 ((words1.drop 24).drop 24), List.all_append, w_t3, ← List.take_append_drop 24 (((words1.drop 24).drop 24).drop 24), List.all_append, w_t4, w_t5]
  rfl
set_option maxRecDepth 65536 in
theorem w_rest : rest_1_c.before args0 about1 = true := by decide +kernel
set_option maxRecDepth 65536 in
theorem w_case : (Jvm.Cond.and given_1 narrow_1).before args0 about1 = true := by decide +kernel
set_option maxRecDepth 65536 in
theorem w_consts : constsHeld consts_1 about1 := Jvm.Lit.constsHeldB_iff.mp (by decide +kernel)
theorem w_applies : (headSpec (Jvm.Cond.code x code maxLocals ret :: tables_1) room_1).applies x e0.platform about1 = true :=
  (Spec.applies_iff w_frames).mpr ⟨w_running, w_runnable, w_alone, w_named, w_hears, w_ripe, w_room, w_tables⟩
theorem atStart : AtStart classFile x code maxLocals ret World_1 tables_1 room_1 Calls_1 rest_1 Pre_1 launch0 p0 e0 about1 theMethod args0 below0 :=
  ⟨lists_1, trivial, launch0.admits_env _ _ _, launch0.least_env, fairChoices_fair.cas, fairChoices_fair.clock, w_frames, w_args, w_heap, w_applies, ⟨w_consts, trivial⟩, w_rest, w_case⟩
end start1
theorem witness_1 : WitnessClaimed_1 := ⟨start1.p0, start1.e0, start1.about1, start1.theMethod, start1.args0, start1.below0, start1.atStart⟩
end Jvm.Pilot.@@N@@
