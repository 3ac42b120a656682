import JvmDerived
import JvmDerived.Pilot.@@N@@Statement
import JvmDerived.Pilot.@@N@@Code
set_option linter.unusedVariables false
set_option linter.unusedSimpArgs false
namespace Jvm.Pilot.@@N@@
open Jvm Jvm.ClassFile Sem Op Lib Jvm.Free Jvm.Stand Jvm.LawKit Jvm.RoadKit Bundle Jvm.Pilot.@@N@@.Jvm.D
section OwnKit
variable {p : Program} {l : Launch} {e : Env} {R : Room} {s : State} {m : MethodId} {args : Array Value} {below : List Frame} {meth : Method} {c : Code} {T : State} {locs : List Loc} {cells slots : Nat} {Z : State} {h h' : Heap} {a b : Addr} {ty : FieldType}
/-- from S the run comes to a state of which F holds -/
def oGl (p : Program) (e : Env) (below : List Frame) (S : State) (F : State → Prop) : Prop := ∃ t, Steps p.tables e below S t ∧ F t
theorem oOn {S S' : State} {F : State → Prop} (st : ∀ t, Steps p.tables e below S' t → Steps p.tables e below S t) (k : oGl p e below S' F) : oGl p e below S F := by
  obtain ⟨t, k1, k2⟩ := k; exact ⟨t, st t k1, k2⟩
theorem oSt {S S' : State} {F : State → Prop} (st : Steps p.tables e below S S') (k : oGl p e below S' F) : oGl p e below S F := by
  obtain ⟨t, k1, k2⟩ := k; exact ⟨t, st.trans k1, k2⟩
theorem oCast {g g' : JFrame} {F : State → Prop} (q : g = g') (k : oGl p e below (T.setTop g') F) : oGl p e below (T.setTop g) F := q ▸ k
def oFin (s : State) (below : List Frame) (Q : Option Value → Heap → List Loc → Prop) (C S : Nat) (t : State) : Prop := ∃ o, t.status = .running ∧ Ended t below o ∧ ∃ v L, o = .returned v ∧ Q v t.heap L ∧ FrameEnd s o t L C S
theorem oEnter {S0 : State} {Q : Option Value → Heap → List Loc → Prop} {C S : Nat} (k : oGl p e below S0 (oFin s below Q C S)) : ∃ s₂ o, Steps p.tables e below S0 s₂ ∧ s₂.status = .running ∧ Ended s₂ below o ∧ ∃ v L, o = .returned v ∧ Q v s₂.heap L ∧ FrameEnd s o s₂ L C S := by
  obtain ⟨t, k1, o, k2, k3, k4⟩ := k; exact ⟨t, o, k1, k2, k3, k4⟩
theorem oRetI (X : Stand p l e R s m args below meth c T locs cells slots) (hx : p.tables.exec = Jvm.exec) (hl : meth.locks = false) {pc : Nat} {Ls : Array Slot} {z : Int32} {rest : List Value} (hret : meth.sig.returnType = some .int) (hd : decode c.code pc = .ok (.ireturn, 1))
    {Q : Option Value → Heap → List Loc → Prop} {C S : Nat} (hc : cells ≤ C) (hs : slots ≤ S) (hq : Q (some (.int z)) T.heap locs) : oGl p e below (T.setTop (mkF m pc Ls (.int z :: rest))) (oFin s below Q C S) := by
  obtain ⟨fs, hr, hrun, hended, hW, hsame⟩ := X.leave (v := some (.int z)) (fun q => by rw [hret] at q; cases q) hl
  exact ⟨_, retOut X hx hret rfl (Or.inl ⟨rfl, Or.inl rfl, _, rfl⟩) hd hr, _, hrun, hended, _, _, rfl, hq, ⟨_, rfl⟩, hW, hsame.mono hc hs⟩
theorem oRetN {t : FieldType} (X : Stand p l e R s m args below meth c T locs cells slots) (hx : p.tables.exec = Jvm.exec) (hl : meth.locks = false) {pc : Nat} {Ls : Array Slot} {z : Int32} {rest : List Value} (hret : meth.sig.returnType = some t) (ht : t = .boolean ∨ t = .byte ∨ t = .char ∨ t = .short) (hd : decode c.code pc = .ok (.ireturn, 1))
    {Q : Option Value → Heap → List Loc → Prop} {C S : Nat} (hc : cells ≤ C) (hs : slots ≤ S) (hq : Q (some (.int (nar t z))) T.heap locs) : oGl p e below (T.setTop (mkF m pc Ls (.int z :: rest))) (oFin s below Q C S) := by
  obtain ⟨fs, hr, hrun, hended, hW, hsame⟩ := X.leave (v := some (.int (nar t z))) (fun q => by rw [hret] at q; cases q) hl
  exact ⟨_, retN X hx hret ht hd hr, _, hrun, hended, _, _, rfl, hq, ⟨_, rfl⟩, hW, hsame.mono hc hs⟩
theorem oRetJ (X : Stand p l e R s m args below meth c T locs cells slots) (hx : p.tables.exec = Jvm.exec) (hl : meth.locks = false) {pc : Nat} {Ls : Array Slot} {z : Int64} {rest : List Value} (hret : meth.sig.returnType = some .long) (hd : decode c.code pc = .ok (.lreturn, 1))
    {Q : Option Value → Heap → List Loc → Prop} {C S : Nat} (hc : cells ≤ C) (hs : slots ≤ S) (hq : Q (some (.long z)) T.heap locs) : oGl p e below (T.setTop (mkF m pc Ls (.long z :: rest))) (oFin s below Q C S) := by
  obtain ⟨fs, hr, hrun, hended, hW, hsame⟩ := X.leave (v := some (.long z)) (fun q => by rw [hret] at q; cases q) hl
  exact ⟨_, retOut X hx hret rfl (Or.inr (Or.inl ⟨rfl, rfl, _, rfl⟩)) hd hr, _, hrun, hended, _, _, rfl, hq, ⟨_, rfl⟩, hW, hsame.mono hc hs⟩
theorem narrow_ref {t : FieldType} {w : Value} (ht : t.isReference = true) (hw : w.isRef = true) : narrow t w = w := by
  rcases ref_cases hw with rfl | ⟨a, rfl⟩ <;> cases t <;> first | rfl | (cases ht; done)
theorem oRetR {t : FieldType} (X : Stand p l e R s m args below meth c T locs cells slots) (hx : p.tables.exec = Jvm.exec) (hl : meth.locks = false) {pc : Nat} {Ls : Array Slot} {w : Value} {rest : List Value} (hret : meth.sig.returnType = some t) (ht : t.isReference = true) (hw : w.isRef = true) (hd : decode c.code pc = .ok (.areturn, 1))
    {Q : Option Value → Heap → List Loc → Prop} {C S : Nat} (hc : cells ≤ C) (hs : slots ≤ S) (hq : Q (some w) T.heap locs) : oGl p e below (T.setTop (mkF m pc Ls (w :: rest))) (oFin s below Q C S) := by
  obtain ⟨fs, hr, hrun, hended, hW, hsame⟩ := X.leave (v := some w) (fun q => by rw [hret] at q; cases q) hl
  exact ⟨_, retOut X hx hret (narrow_ref ht hw) (Or.inr (Or.inr (Or.inr (Or.inr ⟨rfl, ht, hw⟩)))) hd hr, _, hrun, hended, _, _, rfl, hq, ⟨_, rfl⟩, hW, hsame.mono hc hs⟩
theorem oRet0 (X : Stand p l e R s m args below meth c T locs cells slots) (hx : p.tables.exec = Jvm.exec) (hl : meth.locks = false) {pc : Nat} {Ls : Array Slot} (hret : meth.sig.returnType = none) (hd : decode c.code pc = .ok (.return_, 1))
    {Q : Option Value → Heap → List Loc → Prop} {C S : Nat} (hc : cells ≤ C) (hs : slots ≤ S) (hq : Q none T.heap locs) : oGl p e below (T.setTop (mkF m pc Ls [])) (oFin s below Q C S) := by
  obtain ⟨fs, hr, hrun, hended, hW, hsame⟩ := X.leave (v := none) (fun _ => rfl) hl
  exact ⟨_, X.returnOut hx hret hd hr, _, hrun, hended, _, _, rfl, hq, ⟨_, rfl⟩, hW, hsame.mono hc hs⟩
def oFinW (s : State) (below : List Frame) (Q : Option Value → Heap → List Loc → Prop) (C S : Nat) (t : State) : Prop := ∃ o, t.status = .running ∧ Ended t below o ∧ ∃ v L, o = .returned v ∧ Q v t.heap L ∧ ReturnedEndW s o t L C S
theorem oEnterW {S0 : State} {Q : Option Value → Heap → List Loc → Prop} {C S : Nat} (k : oGl p e below S0 (oFinW s below Q C S)) : ∃ s₂ o, Steps p.tables e below S0 s₂ ∧ s₂.status = .running ∧ Ended s₂ below o ∧ ∃ v L, o = .returned v ∧ Q v s₂.heap L ∧ ReturnedEndW s o s₂ L C S := by
  obtain ⟨t, k1, o, k2, k3, k4⟩ := k; exact ⟨t, o, k1, k2, k3, k4⟩
theorem oRetIW {vm₁ : Vm} {n : Nat} (X : Stand p l e R (s.setVm vm₁) m args below meth c T locs cells slots) (hS : s.Since vm₁ n) (hn : n ≤ T.heap.size) (hx : p.tables.exec = Jvm.exec) (hl : meth.locks = false) {pc : Nat} {Ls : Array Slot} {z : Int32} {rest : List Value} (hret : meth.sig.returnType = some .int) (hd : decode c.code pc = .ok (.ireturn, 1))
    {Q : Option Value → Heap → List Loc → Prop} {C S : Nat} (hc : cells ≤ C) (hs : slots ≤ S) (hq : Q (some (.int z)) T.heap locs) : oGl p e below (T.setTop (mkF m pc Ls (.int z :: rest))) (oFinW s below Q C S) := by
  obtain ⟨fs, hr, hrun, hended, h1, h2, h3, hsame⟩ := X.leaveW hS hn (v := some (.int z)) (fun q => by rw [hret] at q; cases q) hl
  exact ⟨_, retOut X hx hret rfl (Or.inl ⟨rfl, Or.inl rfl, _, rfl⟩) hd hr, _, hrun, hended, _, _, rfl, hq, h1, h2, h3, hsame.mono hc hs⟩
theorem oRetNW {t : FieldType} {vm₁ : Vm} {n : Nat} (X : Stand p l e R (s.setVm vm₁) m args below meth c T locs cells slots) (hS : s.Since vm₁ n) (hn : n ≤ T.heap.size) (hx : p.tables.exec = Jvm.exec) (hl : meth.locks = false) {pc : Nat} {Ls : Array Slot} {z : Int32} {rest : List Value} (hret : meth.sig.returnType = some t) (ht : t = .boolean ∨ t = .byte ∨ t = .char ∨ t = .short) (hd : decode c.code pc = .ok (.ireturn, 1))
    {Q : Option Value → Heap → List Loc → Prop} {C S : Nat} (hc : cells ≤ C) (hs : slots ≤ S) (hq : Q (some (.int (nar t z))) T.heap locs) : oGl p e below (T.setTop (mkF m pc Ls (.int z :: rest))) (oFinW s below Q C S) := by
  obtain ⟨fs, hr, hrun, hended, h1, h2, h3, hsame⟩ := X.leaveW hS hn (v := some (.int (nar t z))) (fun q => by rw [hret] at q; cases q) hl
  exact ⟨_, retN X hx hret ht hd hr, _, hrun, hended, _, _, rfl, hq, h1, h2, h3, hsame.mono hc hs⟩
theorem oRetRW {t : FieldType} {vm₁ : Vm} {n : Nat} (X : Stand p l e R (s.setVm vm₁) m args below meth c T locs cells slots) (hS : s.Since vm₁ n) (hn : n ≤ T.heap.size) (hx : p.tables.exec = Jvm.exec) (hl : meth.locks = false) {pc : Nat} {Ls : Array Slot} {w : Value} {rest : List Value} (hret : meth.sig.returnType = some t) (ht : t.isReference = true) (hw : w.isRef = true) (hd : decode c.code pc = .ok (.areturn, 1))
    {Q : Option Value → Heap → List Loc → Prop} {C S : Nat} (hc : cells ≤ C) (hs : slots ≤ S) (hq : Q (some w) T.heap locs) : oGl p e below (T.setTop (mkF m pc Ls (w :: rest))) (oFinW s below Q C S) := by
  obtain ⟨fs, hr, hrun, hended, h1, h2, h3, hsame⟩ := X.leaveW hS hn (v := some w) (fun q => by rw [hret] at q; cases q) hl
  exact ⟨_, retOut X hx hret (narrow_ref ht hw) (Or.inr (Or.inr (Or.inr (Or.inr ⟨rfl, ht, hw⟩)))) hd hr, _, hrun, hended, _, _, rfl, hq, h1, h2, h3, hsame.mono hc hs⟩
theorem oRet0W {vm₁ : Vm} {n : Nat} (X : Stand p l e R (s.setVm vm₁) m args below meth c T locs cells slots) (hS : s.Since vm₁ n) (hn : n ≤ T.heap.size) (hx : p.tables.exec = Jvm.exec) (hl : meth.locks = false) {pc : Nat} {Ls : Array Slot} (hret : meth.sig.returnType = none) (hd : decode c.code pc = .ok (.return_, 1))
    {Q : Option Value → Heap → List Loc → Prop} {C S : Nat} (hc : cells ≤ C) (hs : slots ≤ S) (hq : Q none T.heap locs) : oGl p e below (T.setTop (mkF m pc Ls [])) (oFinW s below Q C S) := by
  obtain ⟨fs, hr, hrun, hended, h1, h2, h3, hsame⟩ := X.leaveW hS hn (v := none) (fun _ => rfl) hl
  exact ⟨_, X.returnOut hx hret hd hr, _, hrun, hended, _, _, rfl, hq, h1, h2, h3, hsame.mono hc hs⟩
theorem oCat {w : Value} (hw : w.isRef = true) : w.category = 1 := by rcases ref_cases hw with rfl | ⟨a, rfl⟩ <;> rfl
theorem fits_refO {t : FieldType} {w : Value} (ht : t.isReference = true) (hw : w.isRef = true) : fits t w = true := by
  rcases ref_cases hw with rfl | ⟨a, rfl⟩ <;> cases t <;> first | rfl | (cases ht; done)
theorem oSto {ls : Array Slot} {i : Nat} {v : Value} {o : Slot} (hold : ls[i]? = some o) (ho : o = .unset ∨ ∃ w, o = .val w ∧ w.category = 1) (hv : v.category = 1) : storeLocals ls i v = some (ls.setIfInBounds i (.val v)) := XS.store1 hold ho hv
theorem oDup2 {tb : Tables} [Ours tb] {target : State} {g : JFrame} (hh : At T m c below) (hx : tb.exec = Jvm.exec) (hg : g.method = m) {x y : Value} {rest : List Value} (hd : decode c.code g.pc = .ok (.dup2, 1)) (hs : g.stack = x :: y :: rest) (hc : x.category = 1) (hc2 : y.category = 1)
    (hr : Steps tb e below (T.setTop { g with pc := g.pc + 1, stack := x :: y :: x :: y :: rest }) target) : Steps tb e below (T.setTop g) target := by
  subst hg
  jvm_step hh [hh.top, hx, hd, hs, hc, hc2]
  exact hr
theorem oDupX2 {tb : Tables} [Ours tb] {target : State} {g : JFrame} (hh : At T m c below) (hx : tb.exec = Jvm.exec) (hg : g.method = m) {x y z : Value} {rest : List Value} (hd : decode c.code g.pc = .ok (.dup_x2, 1)) (hs : g.stack = x :: y :: z :: rest) (hc : x.category = 1) (hc2 : y.category = 1) (hc3 : z.category = 1)
    (hr : Steps tb e below (T.setTop { g with pc := g.pc + 1, stack := x :: y :: z :: x :: rest }) target) : Steps tb e below (T.setTop g) target := by
  subst hg
  jvm_step hh [hh.top, hx, hd, hs, hc, hc2, hc3]
  exact hr
theorem oNe {x y : Nat} (q : x < y ∨ y < x) : x ≠ y := by omega
/-! single steps -/
theorem siload {pc pc' : Nat} {Ls : Array Slot} {F : State → Prop} {st : List Value} {k : Nat} {v : Int32} (X : Stand p l e R s m args below meth c T locs cells slots) (hx : p.tables.exec = Jvm.exec) (hd : decode c.code pc = .ok (.iload k, 2)) (hp : pc + 2 = pc') (hl : Ls[k]? = some (.val (.int v))) (kk : oGl p e below (T.setTop (mkF m pc' Ls (.int v :: st))) F) : oGl p e below (T.setTop (mkF m pc Ls (st))) F := by
  subst hp
  exact oOn (fun _ kK => XS.iload X.here hx rfl hd hl kK) kk
theorem siloadN {pc pc' : Nat} {Ls : Array Slot} {F : State → Prop} {st : List Value} {k : Fin 4} {v : Int32} (X : Stand p l e R s m args below meth c T locs cells slots) (hx : p.tables.exec = Jvm.exec) (hd : decode c.code pc = .ok (.iload_n k, 1)) (hp : pc + 1 = pc') (hl : Ls[k.val]? = some (.val (.int v))) (kk : oGl p e below (T.setTop (mkF m pc' Ls (.int v :: st))) F) : oGl p e below (T.setTop (mkF m pc Ls (st))) F := by
  subst hp
  exact oOn (fun _ kK => XS.iloadN X.here hx rfl hd hl kK) kk
theorem slload {pc pc' : Nat} {Ls : Array Slot} {F : State → Prop} {st : List Value} {k : Nat} {v : Int64} (X : Stand p l e R s m args below meth c T locs cells slots) (hx : p.tables.exec = Jvm.exec) (hd : decode c.code pc = .ok (.lload k, 2)) (hp : pc + 2 = pc') (hl : Ls[k]? = some (.val (.long v))) (kk : oGl p e below (T.setTop (mkF m pc' Ls (.long v :: st))) F) : oGl p e below (T.setTop (mkF m pc Ls (st))) F := by
  subst hp
  exact oOn (fun _ kK => XS.lload X.here hx rfl hd hl kK) kk
theorem slloadN {pc pc' : Nat} {Ls : Array Slot} {F : State → Prop} {st : List Value} {k : Fin 4} {v : Int64} (X : Stand p l e R s m args below meth c T locs cells slots) (hx : p.tables.exec = Jvm.exec) (hd : decode c.code pc = .ok (.lload_n k, 1)) (hp : pc + 1 = pc') (hl : Ls[k.val]? = some (.val (.long v))) (kk : oGl p e below (T.setTop (mkF m pc' Ls (.long v :: st))) F) : oGl p e below (T.setTop (mkF m pc Ls (st))) F := by
  subst hp
  exact oOn (fun _ kK => XS.lloadN X.here hx rfl hd hl kK) kk
theorem saload {pc pc' : Nat} {Ls : Array Slot} {F : State → Prop} {st : List Value} {k : Nat} {v : Value} (X : Stand p l e R s m args below meth c T locs cells slots) (hx : p.tables.exec = Jvm.exec) (hd : decode c.code pc = .ok (.aload k, 2)) (hp : pc + 2 = pc') (hl : Ls[k]? = some (.val v)) (hv : v.isRef = true) (kk : oGl p e below (T.setTop (mkF m pc' Ls (v :: st))) F) : oGl p e below (T.setTop (mkF m pc Ls (st))) F := by
  subst hp
  exact oOn (fun _ kK => XS.aload X.here hx rfl hd hl hv kK) kk
theorem saloadN {pc pc' : Nat} {Ls : Array Slot} {F : State → Prop} {st : List Value} {k : Fin 4} {v : Value} (X : Stand p l e R s m args below meth c T locs cells slots) (hx : p.tables.exec = Jvm.exec) (hd : decode c.code pc = .ok (.aload_n k, 1)) (hp : pc + 1 = pc') (hl : Ls[k.val]? = some (.val v)) (hv : v.isRef = true) (kk : oGl p e below (T.setTop (mkF m pc' Ls (v :: st))) F) : oGl p e below (T.setTop (mkF m pc Ls (st))) F := by
  subst hp
  exact oOn (fun _ kK => XS.aloadN X.here hx rfl hd hl hv kK) kk
theorem sistore {pc pc' : Nat} {Ls : Array Slot} {F : State → Prop} {st : List Value} {k : Nat} {x : Int32} {l' : Array Slot} (X : Stand p l e R s m args below meth c T locs cells slots) (hx : p.tables.exec = Jvm.exec) (hd : decode c.code pc = .ok (.istore k, 2)) (hp : pc + 2 = pc') (hl : storeLocals Ls k (.int x) = some l') (kk : oGl p e below (T.setTop (mkF m pc' l' (st))) F) : oGl p e below (T.setTop (mkF m pc Ls (.int x :: st))) F := by
  subst hp
  exact oOn (fun _ kK => XS.istore X.here hx rfl hd rfl hl kK) kk
theorem sistoreN {pc pc' : Nat} {Ls : Array Slot} {F : State → Prop} {st : List Value} {k : Fin 4} {x : Int32} {l' : Array Slot} (X : Stand p l e R s m args below meth c T locs cells slots) (hx : p.tables.exec = Jvm.exec) (hd : decode c.code pc = .ok (.istore_n k, 1)) (hp : pc + 1 = pc') (hl : storeLocals Ls k.val (.int x) = some l') (kk : oGl p e below (T.setTop (mkF m pc' l' (st))) F) : oGl p e below (T.setTop (mkF m pc Ls (.int x :: st))) F := by
  subst hp
  exact oOn (fun _ kK => XS.istoreN X.here hx rfl hd rfl hl kK) kk
theorem slstore {pc pc' : Nat} {Ls : Array Slot} {F : State → Prop} {st : List Value} {k : Nat} {x : Int64} {l' : Array Slot} (X : Stand p l e R s m args below meth c T locs cells slots) (hx : p.tables.exec = Jvm.exec) (hd : decode c.code pc = .ok (.lstore k, 2)) (hp : pc + 2 = pc') (hl : storeLocals Ls k (.long x) = some l') (kk : oGl p e below (T.setTop (mkF m pc' l' (st))) F) : oGl p e below (T.setTop (mkF m pc Ls (.long x :: st))) F := by
  subst hp
  exact oOn (fun _ kK => XS.lstore X.here hx rfl hd rfl hl kK) kk
theorem slstoreN {pc pc' : Nat} {Ls : Array Slot} {F : State → Prop} {st : List Value} {k : Fin 4} {x : Int64} {l' : Array Slot} (X : Stand p l e R s m args below meth c T locs cells slots) (hx : p.tables.exec = Jvm.exec) (hd : decode c.code pc = .ok (.lstore_n k, 1)) (hp : pc + 1 = pc') (hl : storeLocals Ls k.val (.long x) = some l') (kk : oGl p e below (T.setTop (mkF m pc' l' (st))) F) : oGl p e below (T.setTop (mkF m pc Ls (.long x :: st))) F := by
  subst hp
  exact oOn (fun _ kK => XS.lstoreN X.here hx rfl hd rfl hl kK) kk
theorem sastore {pc pc' : Nat} {Ls : Array Slot} {F : State → Prop} {st : List Value} {k : Nat} {x : Value} {l' : Array Slot} (X : Stand p l e R s m args below meth c T locs cells slots) (hx : p.tables.exec = Jvm.exec) (hd : decode c.code pc = .ok (.astore k, 2)) (hp : pc + 2 = pc') (hv : x.isRef = true) (hl : storeLocals Ls k x = some l') (kk : oGl p e below (T.setTop (mkF m pc' l' (st))) F) : oGl p e below (T.setTop (mkF m pc Ls (x :: st))) F := by
  subst hp
  exact oOn (fun _ kK => XS.astore X.here hx rfl hd rfl hv hl kK) kk
theorem sastoreN {pc pc' : Nat} {Ls : Array Slot} {F : State → Prop} {st : List Value} {k : Fin 4} {x : Value} {l' : Array Slot} (X : Stand p l e R s m args below meth c T locs cells slots) (hx : p.tables.exec = Jvm.exec) (hd : decode c.code pc = .ok (.astore_n k, 1)) (hp : pc + 1 = pc') (hv : x.isRef = true) (hl : storeLocals Ls k.val x = some l') (kk : oGl p e below (T.setTop (mkF m pc' l' (st))) F) : oGl p e below (T.setTop (mkF m pc Ls (x :: st))) F := by
  subst hp
  exact oOn (fun _ kK => XS.astoreN X.here hx rfl hd rfl hv hl kK) kk
theorem siconst {pc pc' : Nat} {Ls : Array Slot} {F : State → Prop} {st : List Value} {i : Int} {z : Int32} (X : Stand p l e R s m args below meth c T locs cells slots) (hx : p.tables.exec = Jvm.exec) (hd : decode c.code pc = .ok (.iconst i, 1)) (hp : pc + 1 = pc') (hz : Int32.ofInt i = z) (kk : oGl p e below (T.setTop (mkF m pc' Ls (.int z :: st))) F) : oGl p e below (T.setTop (mkF m pc Ls (st))) F := by
  subst hp hz
  exact oOn (fun _ kK => XS.iconst X.here hx rfl hd kK) kk
theorem sbipush {pc pc' : Nat} {Ls : Array Slot} {F : State → Prop} {st : List Value} {i : Int} {z : Int32} (X : Stand p l e R s m args below meth c T locs cells slots) (hx : p.tables.exec = Jvm.exec) (hd : decode c.code pc = .ok (.bipush i, 2)) (hp : pc + 2 = pc') (hz : (Int8.ofInt i).toInt32 = z) (kk : oGl p e below (T.setTop (mkF m pc' Ls (.int z :: st))) F) : oGl p e below (T.setTop (mkF m pc Ls (st))) F := by
  subst hp hz
  exact oOn (fun _ kK => XS.bipush X.here hx rfl hd kK) kk
theorem ssipush {pc pc' : Nat} {Ls : Array Slot} {F : State → Prop} {st : List Value} {i : Int} {z : Int32} (X : Stand p l e R s m args below meth c T locs cells slots) (hx : p.tables.exec = Jvm.exec) (hd : decode c.code pc = .ok (.sipush i, 3)) (hp : pc + 3 = pc') (hz : (Int16.ofInt i).toInt32 = z) (kk : oGl p e below (T.setTop (mkF m pc' Ls (.int z :: st))) F) : oGl p e below (T.setTop (mkF m pc Ls (st))) F := by
  subst hp hz
  exact oOn (fun _ kK => XS.sipush X.here hx rfl hd kK) kk
theorem slconst {pc pc' : Nat} {Ls : Array Slot} {F : State → Prop} {st : List Value} {k : Fin 2} {z : Int64} (X : Stand p l e R s m args below meth c T locs cells slots) (hx : p.tables.exec = Jvm.exec) (hd : decode c.code pc = .ok (.lconst k, 1)) (hp : pc + 1 = pc') (hz : Int64.ofNat k = z) (kk : oGl p e below (T.setTop (mkF m pc' Ls (.long z :: st))) F) : oGl p e below (T.setTop (mkF m pc Ls (st))) F := by
  subst hp hz
  exact oOn (fun _ kK => XS.lconst X.here hx rfl hd kK) kk
theorem saconst_null {pc pc' : Nat} {Ls : Array Slot} {F : State → Prop} {st : List Value} (X : Stand p l e R s m args below meth c T locs cells slots) (hx : p.tables.exec = Jvm.exec) (hd : decode c.code pc = .ok (.aconst_null, 1)) (hp : pc + 1 = pc')  (kk : oGl p e below (T.setTop (mkF m pc' Ls (.null :: st))) F) : oGl p e below (T.setTop (mkF m pc Ls (st))) F := by
  subst hp
  exact oOn (fun _ kK => XS.aconstNull X.here hx rfl hd kK) kk
theorem siadd {pc pc' : Nat} {Ls : Array Slot} {F : State → Prop} {st : List Value} {x y z : Int32} (X : Stand p l e R s m args below meth c T locs cells slots) (hx : p.tables.exec = Jvm.exec) (hd : decode c.code pc = .ok (.iadd, 1)) (hp : pc + 1 = pc') (hz : x + y = z) (kk : oGl p e below (T.setTop (mkF m pc' Ls (.int z :: st))) F) : oGl p e below (T.setTop (mkF m pc Ls (.int y :: .int x :: st))) F := by
  subst hp hz
  exact oOn (fun _ kK => XS.iadd X.here hx rfl hd rfl kK) kk
theorem sladd {pc pc' : Nat} {Ls : Array Slot} {F : State → Prop} {st : List Value} {x y z : Int64} (X : Stand p l e R s m args below meth c T locs cells slots) (hx : p.tables.exec = Jvm.exec) (hd : decode c.code pc = .ok (.ladd, 1)) (hp : pc + 1 = pc') (hz : x + y = z) (kk : oGl p e below (T.setTop (mkF m pc' Ls (.long z :: st))) F) : oGl p e below (T.setTop (mkF m pc Ls (.long y :: .long x :: st))) F := by
  subst hp hz
  exact oOn (fun _ kK => XS.ladd X.here hx rfl hd rfl kK) kk
theorem sisub {pc pc' : Nat} {Ls : Array Slot} {F : State → Prop} {st : List Value} {x y z : Int32} (X : Stand p l e R s m args below meth c T locs cells slots) (hx : p.tables.exec = Jvm.exec) (hd : decode c.code pc = .ok (.isub, 1)) (hp : pc + 1 = pc') (hz : x - y = z) (kk : oGl p e below (T.setTop (mkF m pc' Ls (.int z :: st))) F) : oGl p e below (T.setTop (mkF m pc Ls (.int y :: .int x :: st))) F := by
  subst hp hz
  exact oOn (fun _ kK => XS.isub X.here hx rfl hd rfl kK) kk
theorem slsub {pc pc' : Nat} {Ls : Array Slot} {F : State → Prop} {st : List Value} {x y z : Int64} (X : Stand p l e R s m args below meth c T locs cells slots) (hx : p.tables.exec = Jvm.exec) (hd : decode c.code pc = .ok (.lsub, 1)) (hp : pc + 1 = pc') (hz : x - y = z) (kk : oGl p e below (T.setTop (mkF m pc' Ls (.long z :: st))) F) : oGl p e below (T.setTop (mkF m pc Ls (.long y :: .long x :: st))) F := by
  subst hp hz
  exact oOn (fun _ kK => XS.lsub X.here hx rfl hd rfl kK) kk
theorem simul {pc pc' : Nat} {Ls : Array Slot} {F : State → Prop} {st : List Value} {x y z : Int32} (X : Stand p l e R s m args below meth c T locs cells slots) (hx : p.tables.exec = Jvm.exec) (hd : decode c.code pc = .ok (.imul, 1)) (hp : pc + 1 = pc') (hz : x * y = z) (kk : oGl p e below (T.setTop (mkF m pc' Ls (.int z :: st))) F) : oGl p e below (T.setTop (mkF m pc Ls (.int y :: .int x :: st))) F := by
  subst hp hz
  exact oOn (fun _ kK => XS.imul X.here hx rfl hd rfl kK) kk
theorem slmul {pc pc' : Nat} {Ls : Array Slot} {F : State → Prop} {st : List Value} {x y z : Int64} (X : Stand p l e R s m args below meth c T locs cells slots) (hx : p.tables.exec = Jvm.exec) (hd : decode c.code pc = .ok (.lmul, 1)) (hp : pc + 1 = pc') (hz : x * y = z) (kk : oGl p e below (T.setTop (mkF m pc' Ls (.long z :: st))) F) : oGl p e below (T.setTop (mkF m pc Ls (.long y :: .long x :: st))) F := by
  subst hp hz
  exact oOn (fun _ kK => XS.lmul X.here hx rfl hd rfl kK) kk
theorem siand {pc pc' : Nat} {Ls : Array Slot} {F : State → Prop} {st : List Value} {x y z : Int32} (X : Stand p l e R s m args below meth c T locs cells slots) (hx : p.tables.exec = Jvm.exec) (hd : decode c.code pc = .ok (.iand, 1)) (hp : pc + 1 = pc') (hz : x &&& y = z) (kk : oGl p e below (T.setTop (mkF m pc' Ls (.int z :: st))) F) : oGl p e below (T.setTop (mkF m pc Ls (.int y :: .int x :: st))) F := by
  subst hp hz
  exact oOn (fun _ kK => XS.iand X.here hx rfl hd rfl kK) kk
theorem sland {pc pc' : Nat} {Ls : Array Slot} {F : State → Prop} {st : List Value} {x y z : Int64} (X : Stand p l e R s m args below meth c T locs cells slots) (hx : p.tables.exec = Jvm.exec) (hd : decode c.code pc = .ok (.land, 1)) (hp : pc + 1 = pc') (hz : x &&& y = z) (kk : oGl p e below (T.setTop (mkF m pc' Ls (.long z :: st))) F) : oGl p e below (T.setTop (mkF m pc Ls (.long y :: .long x :: st))) F := by
  subst hp hz
  exact oOn (fun _ kK => XS.land X.here hx rfl hd rfl kK) kk
theorem sior {pc pc' : Nat} {Ls : Array Slot} {F : State → Prop} {st : List Value} {x y z : Int32} (X : Stand p l e R s m args below meth c T locs cells slots) (hx : p.tables.exec = Jvm.exec) (hd : decode c.code pc = .ok (.ior, 1)) (hp : pc + 1 = pc') (hz : x ||| y = z) (kk : oGl p e below (T.setTop (mkF m pc' Ls (.int z :: st))) F) : oGl p e below (T.setTop (mkF m pc Ls (.int y :: .int x :: st))) F := by
  subst hp hz
  exact oOn (fun _ kK => XS.ior X.here hx rfl hd rfl kK) kk
theorem slor {pc pc' : Nat} {Ls : Array Slot} {F : State → Prop} {st : List Value} {x y z : Int64} (X : Stand p l e R s m args below meth c T locs cells slots) (hx : p.tables.exec = Jvm.exec) (hd : decode c.code pc = .ok (.lor, 1)) (hp : pc + 1 = pc') (hz : x ||| y = z) (kk : oGl p e below (T.setTop (mkF m pc' Ls (.long z :: st))) F) : oGl p e below (T.setTop (mkF m pc Ls (.long y :: .long x :: st))) F := by
  subst hp hz
  exact oOn (fun _ kK => XS.lor X.here hx rfl hd rfl kK) kk
theorem sixor {pc pc' : Nat} {Ls : Array Slot} {F : State → Prop} {st : List Value} {x y z : Int32} (X : Stand p l e R s m args below meth c T locs cells slots) (hx : p.tables.exec = Jvm.exec) (hd : decode c.code pc = .ok (.ixor, 1)) (hp : pc + 1 = pc') (hz : x ^^^ y = z) (kk : oGl p e below (T.setTop (mkF m pc' Ls (.int z :: st))) F) : oGl p e below (T.setTop (mkF m pc Ls (.int y :: .int x :: st))) F := by
  subst hp hz
  exact oOn (fun _ kK => XS.ixor X.here hx rfl hd rfl kK) kk
theorem slxor {pc pc' : Nat} {Ls : Array Slot} {F : State → Prop} {st : List Value} {x y z : Int64} (X : Stand p l e R s m args below meth c T locs cells slots) (hx : p.tables.exec = Jvm.exec) (hd : decode c.code pc = .ok (.lxor, 1)) (hp : pc + 1 = pc') (hz : x ^^^ y = z) (kk : oGl p e below (T.setTop (mkF m pc' Ls (.long z :: st))) F) : oGl p e below (T.setTop (mkF m pc Ls (.long y :: .long x :: st))) F := by
  subst hp hz
  exact oOn (fun _ kK => XS.lxor X.here hx rfl hd rfl kK) kk
theorem sishl {pc pc' : Nat} {Ls : Array Slot} {F : State → Prop} {st : List Value} {x y z : Int32} (X : Stand p l e R s m args below meth c T locs cells slots) (hx : p.tables.exec = Jvm.exec) (hd : decode c.code pc = .ok (.ishl, 1)) (hp : pc + 1 = pc') (hz : x <<< (y &&& 31) = z) (kk : oGl p e below (T.setTop (mkF m pc' Ls (.int z :: st))) F) : oGl p e below (T.setTop (mkF m pc Ls (.int y :: .int x :: st))) F := by
  subst hp hz
  exact oOn (fun _ kK => XS.ishl X.here hx rfl hd rfl kK) kk
theorem sishr {pc pc' : Nat} {Ls : Array Slot} {F : State → Prop} {st : List Value} {x y z : Int32} (X : Stand p l e R s m args below meth c T locs cells slots) (hx : p.tables.exec = Jvm.exec) (hd : decode c.code pc = .ok (.ishr, 1)) (hp : pc + 1 = pc') (hz : x >>> (y &&& 31) = z) (kk : oGl p e below (T.setTop (mkF m pc' Ls (.int z :: st))) F) : oGl p e below (T.setTop (mkF m pc Ls (.int y :: .int x :: st))) F := by
  subst hp hz
  exact oOn (fun _ kK => XS.ishr X.here hx rfl hd rfl kK) kk
theorem siushr {pc pc' : Nat} {Ls : Array Slot} {F : State → Prop} {st : List Value} {x y z : Int32} (X : Stand p l e R s m args below meth c T locs cells slots) (hx : p.tables.exec = Jvm.exec) (hd : decode c.code pc = .ok (.iushr, 1)) (hp : pc + 1 = pc') (hz : (x.toUInt32 >>> (y &&& 31).toUInt32).toInt32 = z) (kk : oGl p e below (T.setTop (mkF m pc' Ls (.int z :: st))) F) : oGl p e below (T.setTop (mkF m pc Ls (.int y :: .int x :: st))) F := by
  subst hp hz
  exact oOn (fun _ kK => XS.iushr X.here hx rfl hd rfl kK) kk
theorem slshl {pc pc' : Nat} {Ls : Array Slot} {F : State → Prop} {st : List Value} {x z : Int64} {y : Int32} (X : Stand p l e R s m args below meth c T locs cells slots) (hx : p.tables.exec = Jvm.exec) (hd : decode c.code pc = .ok (.lshl, 1)) (hp : pc + 1 = pc') (hz : x <<< (y &&& 0x3f).toInt64 = z) (kk : oGl p e below (T.setTop (mkF m pc' Ls (.long z :: st))) F) : oGl p e below (T.setTop (mkF m pc Ls (.int y :: .long x :: st))) F := by
  subst hp hz
  exact oOn (fun _ kK => XS.lshl X.here hx rfl hd rfl kK) kk
theorem slshr {pc pc' : Nat} {Ls : Array Slot} {F : State → Prop} {st : List Value} {x z : Int64} {y : Int32} (X : Stand p l e R s m args below meth c T locs cells slots) (hx : p.tables.exec = Jvm.exec) (hd : decode c.code pc = .ok (.lshr, 1)) (hp : pc + 1 = pc') (hz : x >>> (y &&& 0x3f).toInt64 = z) (kk : oGl p e below (T.setTop (mkF m pc' Ls (.long z :: st))) F) : oGl p e below (T.setTop (mkF m pc Ls (.int y :: .long x :: st))) F := by
  subst hp hz
  exact oOn (fun _ kK => XS.lshr X.here hx rfl hd rfl kK) kk
theorem slushr {pc pc' : Nat} {Ls : Array Slot} {F : State → Prop} {st : List Value} {x z : Int64} {y : Int32} (X : Stand p l e R s m args below meth c T locs cells slots) (hx : p.tables.exec = Jvm.exec) (hd : decode c.code pc = .ok (.lushr, 1)) (hp : pc + 1 = pc') (hz : (x.toUInt64 >>> (y &&& 0x3f).toInt64.toUInt64).toInt64 = z) (kk : oGl p e below (T.setTop (mkF m pc' Ls (.long z :: st))) F) : oGl p e below (T.setTop (mkF m pc Ls (.int y :: .long x :: st))) F := by
  subst hp hz
  exact oOn (fun _ kK => XS.lushr X.here hx rfl hd rfl kK) kk
theorem sineg {pc pc' : Nat} {Ls : Array Slot} {F : State → Prop} {st : List Value} {x : Int32} {z : Int32} (X : Stand p l e R s m args below meth c T locs cells slots) (hx : p.tables.exec = Jvm.exec) (hd : decode c.code pc = .ok (.ineg, 1)) (hp : pc + 1 = pc') (hz : -x = z) (kk : oGl p e below (T.setTop (mkF m pc' Ls (.int z :: st))) F) : oGl p e below (T.setTop (mkF m pc Ls (.int x :: st))) F := by
  subst hp hz
  exact oOn (fun _ kK => XS.ineg X.here hx rfl hd rfl kK) kk
theorem slneg {pc pc' : Nat} {Ls : Array Slot} {F : State → Prop} {st : List Value} {x : Int64} {z : Int64} (X : Stand p l e R s m args below meth c T locs cells slots) (hx : p.tables.exec = Jvm.exec) (hd : decode c.code pc = .ok (.lneg, 1)) (hp : pc + 1 = pc') (hz : -x = z) (kk : oGl p e below (T.setTop (mkF m pc' Ls (.long z :: st))) F) : oGl p e below (T.setTop (mkF m pc Ls (.long x :: st))) F := by
  subst hp hz
  exact oOn (fun _ kK => XS.lneg X.here hx rfl hd rfl kK) kk
theorem si2l {pc pc' : Nat} {Ls : Array Slot} {F : State → Prop} {st : List Value} {x : Int32} {z : Int64} (X : Stand p l e R s m args below meth c T locs cells slots) (hx : p.tables.exec = Jvm.exec) (hd : decode c.code pc = .ok (.i2l, 1)) (hp : pc + 1 = pc') (hz : x.toInt64 = z) (kk : oGl p e below (T.setTop (mkF m pc' Ls (.long z :: st))) F) : oGl p e below (T.setTop (mkF m pc Ls (.int x :: st))) F := by
  subst hp hz
  exact oOn (fun _ kK => XS.i2l X.here hx rfl hd rfl kK) kk
theorem sl2i {pc pc' : Nat} {Ls : Array Slot} {F : State → Prop} {st : List Value} {x : Int64} {z : Int32} (X : Stand p l e R s m args below meth c T locs cells slots) (hx : p.tables.exec = Jvm.exec) (hd : decode c.code pc = .ok (.l2i, 1)) (hp : pc + 1 = pc') (hz : x.toInt32 = z) (kk : oGl p e below (T.setTop (mkF m pc' Ls (.int z :: st))) F) : oGl p e below (T.setTop (mkF m pc Ls (.long x :: st))) F := by
  subst hp hz
  exact oOn (fun _ kK => XS.l2i X.here hx rfl hd rfl kK) kk
theorem si2b {pc pc' : Nat} {Ls : Array Slot} {F : State → Prop} {st : List Value} {x : Int32} {z : Int32} (X : Stand p l e R s m args below meth c T locs cells slots) (hx : p.tables.exec = Jvm.exec) (hd : decode c.code pc = .ok (.i2b, 1)) (hp : pc + 1 = pc') (hz : x.toInt8.toInt32 = z) (kk : oGl p e below (T.setTop (mkF m pc' Ls (.int z :: st))) F) : oGl p e below (T.setTop (mkF m pc Ls (.int x :: st))) F := by
  subst hp hz
  exact oOn (fun _ kK => XS.i2b X.here hx rfl hd rfl kK) kk
theorem si2s {pc pc' : Nat} {Ls : Array Slot} {F : State → Prop} {st : List Value} {x : Int32} {z : Int32} (X : Stand p l e R s m args below meth c T locs cells slots) (hx : p.tables.exec = Jvm.exec) (hd : decode c.code pc = .ok (.i2s, 1)) (hp : pc + 1 = pc') (hz : x.toInt16.toInt32 = z) (kk : oGl p e below (T.setTop (mkF m pc' Ls (.int z :: st))) F) : oGl p e below (T.setTop (mkF m pc Ls (.int x :: st))) F := by
  subst hp hz
  exact oOn (fun _ kK => XS.i2s X.here hx rfl hd rfl kK) kk
theorem si2c {pc pc' : Nat} {Ls : Array Slot} {F : State → Prop} {st : List Value} {x : Int32} {z : Int32} (X : Stand p l e R s m args below meth c T locs cells slots) (hx : p.tables.exec = Jvm.exec) (hd : decode c.code pc = .ok (.i2c, 1)) (hp : pc + 1 = pc') (hz : x.toUInt32.toUInt16.toUInt32.toInt32 = z) (kk : oGl p e below (T.setTop (mkF m pc' Ls (.int z :: st))) F) : oGl p e below (T.setTop (mkF m pc Ls (.int x :: st))) F := by
  subst hp hz
  exact oOn (fun _ kK => XS.i2c X.here hx rfl hd rfl kK) kk
theorem slcmp {pc pc' : Nat} {Ls : Array Slot} {F : State → Prop} {st : List Value} {x y : Int64} (X : Stand p l e R s m args below meth c T locs cells slots) (hx : p.tables.exec = Jvm.exec) (hd : decode c.code pc = .ok (.lcmp, 1)) (hp : pc + 1 = pc')  (kk : oGl p e below (T.setTop (mkF m pc' Ls (.int (lcmpW x y) :: st))) F) : oGl p e below (T.setTop (mkF m pc Ls (.long y :: .long x :: st))) F := by
  subst hp
  exact oOn (fun _ kK => XS.lcmp X.here hx rfl hd rfl kK) kk
theorem sirem {pc pc' : Nat} {Ls : Array Slot} {F : State → Prop} {st : List Value} {x y z : Int32} (X : Stand p l e R s m args below meth c T locs cells slots) (hx : p.tables.exec = Jvm.exec) (hd : decode c.code pc = .ok (.irem, 1)) (hp : pc + 1 = pc') (hy : y ≠ 0) (hz : x % y = z) (kk : oGl p e below (T.setTop (mkF m pc' Ls (.int z :: st))) F) : oGl p e below (T.setTop (mkF m pc Ls (.int y :: .int x :: st))) F := by
  subst hp hz
  exact oOn (fun _ kK => iremM X hx rfl hd rfl hy kK) kk
theorem sidiv {pc pc' : Nat} {Ls : Array Slot} {F : State → Prop} {st : List Value} {x y z : Int32} (X : Stand p l e R s m args below meth c T locs cells slots) (hx : p.tables.exec = Jvm.exec) (hd : decode c.code pc = .ok (.idiv, 1)) (hp : pc + 1 = pc') (hy : y ≠ 0) (hz : x / y = z) (kk : oGl p e below (T.setTop (mkF m pc' Ls (.int z :: st))) F) : oGl p e below (T.setTop (mkF m pc Ls (.int y :: .int x :: st))) F := by
  subst hp hz
  exact oOn (fun _ kK => XS.idiv X.here hx rfl hd rfl hy kK) kk
theorem siinc {pc pc' : Nat} {Ls : Array Slot} {F : State → Prop} {st : List Value} {k : Nat} {cst : Int} {x : Int32} {l' : Array Slot} (X : Stand p l e R s m args below meth c T locs cells slots) (hx : p.tables.exec = Jvm.exec) (hd : decode c.code pc = .ok (.iinc k cst, 3)) (hp : pc + 3 = pc') (hl : Ls[k]? = some (.val (.int x))) (hl' : storeLocals Ls k (.int (x + Int32.ofInt cst)) = some l') (kk : oGl p e below (T.setTop (mkF m pc' l' (st))) F) : oGl p e below (T.setTop (mkF m pc Ls (st))) F := by
  subst hp
  exact oOn (fun _ kK => XS.iinc X.here hx rfl hd hl hl' kK) kk
theorem sdup {pc pc' : Nat} {Ls : Array Slot} {F : State → Prop} {st : List Value} {x : Value} (X : Stand p l e R s m args below meth c T locs cells slots) (hx : p.tables.exec = Jvm.exec) (hd : decode c.code pc = .ok (.dup, 1)) (hp : pc + 1 = pc') (hc : x.category = 1) (kk : oGl p e below (T.setTop (mkF m pc' Ls (x :: x :: st))) F) : oGl p e below (T.setTop (mkF m pc Ls (x :: st))) F := by
  subst hp
  exact oOn (fun _ kK => XS.dup X.here hx rfl hd rfl hc kK) kk
theorem spop {pc pc' : Nat} {Ls : Array Slot} {F : State → Prop} {st : List Value} {x : Value} (X : Stand p l e R s m args below meth c T locs cells slots) (hx : p.tables.exec = Jvm.exec) (hd : decode c.code pc = .ok (.pop, 1)) (hp : pc + 1 = pc') (hc : x.category = 1) (kk : oGl p e below (T.setTop (mkF m pc' Ls (st))) F) : oGl p e below (T.setTop (mkF m pc Ls (x :: st))) F := by
  subst hp
  exact oOn (fun _ kK => XS.pop X.here hx rfl hd rfl hc kK) kk
theorem sdup_x1 {pc pc' : Nat} {Ls : Array Slot} {F : State → Prop} {st : List Value} {x y : Value} (X : Stand p l e R s m args below meth c T locs cells slots) (hx : p.tables.exec = Jvm.exec) (hd : decode c.code pc = .ok (.dup_x1, 1)) (hp : pc + 1 = pc') (hc : x.category = 1) (hc2 : y.category = 1) (kk : oGl p e below (T.setTop (mkF m pc' Ls (x :: y :: x :: st))) F) : oGl p e below (T.setTop (mkF m pc Ls (x :: y :: st))) F := by
  subst hp
  exact oOn (fun _ kK => XS.dupX1 X.here hx rfl hd rfl hc hc2 kK) kk
theorem sdup2 {pc pc' : Nat} {Ls : Array Slot} {F : State → Prop} {st : List Value} {x y : Value} (X : Stand p l e R s m args below meth c T locs cells slots) (hx : p.tables.exec = Jvm.exec) (hd : decode c.code pc = .ok (.dup2, 1)) (hp : pc + 1 = pc') (hc : x.category = 1) (hc2 : y.category = 1) (kk : oGl p e below (T.setTop (mkF m pc' Ls (x :: y :: x :: y :: st))) F) : oGl p e below (T.setTop (mkF m pc Ls (x :: y :: st))) F := by
  subst hp
  exact oOn (fun _ kK => oDup2 X.here hx rfl hd rfl hc hc2 kK) kk
theorem sdup_x2 {pc pc' : Nat} {Ls : Array Slot} {F : State → Prop} {st : List Value} {x y z : Value} (X : Stand p l e R s m args below meth c T locs cells slots) (hx : p.tables.exec = Jvm.exec) (hd : decode c.code pc = .ok (.dup_x2, 1)) (hp : pc + 1 = pc') (hc : x.category = 1) (hc2 : y.category = 1) (hc3 : z.category = 1) (kk : oGl p e below (T.setTop (mkF m pc' Ls (x :: y :: z :: x :: st))) F) : oGl p e below (T.setTop (mkF m pc Ls (x :: y :: z :: st))) F := by
  subst hp
  exact oOn (fun _ kK => oDupX2 X.here hx rfl hd rfl hc hc2 hc3 kK) kk
theorem sgoto {pc pc' : Nat} {Ls : Array Slot} {st : List Value} {F : State → Prop} {o : Int}  (X : Stand p l e R s m args below meth c T locs cells slots) (hx : p.tables.exec = Jvm.exec) (hd : decode c.code pc = .ok (.goto o, 3)) (ho : 0 ≤ (pc : Int) + o) (hp : ((pc : Int) + o).toNat = pc')  (kk : oGl p e below (T.setTop (mkF m pc' Ls st)) F) : oGl p e below (T.setTop (mkF m pc Ls (st))) F :=
  oOn (fun _ kK => XS.goto X.here hx rfl rfl hd ho hp kK) kk
theorem sifY {pc pc' : Nat} {Ls : Array Slot} {st : List Value} {F : State → Prop} {o : Int} {cd : ClassFile.Cond} {x : Int32} (X : Stand p l e R s m args below meth c T locs cells slots) (hx : p.tables.exec = Jvm.exec) (hd : decode c.code pc = .ok (.ifCond cd o, 3)) (ho : 0 ≤ (pc : Int) + o) (hp : ((pc : Int) + o).toNat = pc') (hc : if_icmp.holds cd x 0 = true) (kk : oGl p e below (T.setTop (mkF m pc' Ls st)) F) : oGl p e below (T.setTop (mkF m pc Ls (.int x :: st))) F :=
  oOn (fun _ kK => XS.ifYes X.here hx rfl rfl hd rfl ((if0 _ _).trans hc) ho hp kK) kk
theorem sicY {pc pc' : Nat} {Ls : Array Slot} {st : List Value} {F : State → Prop} {o : Int} {cd : ClassFile.Cond} {x y : Int32} (X : Stand p l e R s m args below meth c T locs cells slots) (hx : p.tables.exec = Jvm.exec) (hd : decode c.code pc = .ok (.if_icmp cd o, 3)) (ho : 0 ≤ (pc : Int) + o) (hp : ((pc : Int) + o).toNat = pc') (hc : if_icmp.holds cd x y = true) (kk : oGl p e below (T.setTop (mkF m pc' Ls st)) F) : oGl p e below (T.setTop (mkF m pc Ls (.int y :: .int x :: st))) F :=
  oOn (fun _ kK => XS.icmpYes X.here hx rfl rfl hd rfl hc ho hp kK) kk
theorem sifnullY {pc pc' : Nat} {Ls : Array Slot} {st : List Value} {F : State → Prop} {o : Int}  (X : Stand p l e R s m args below meth c T locs cells slots) (hx : p.tables.exec = Jvm.exec) (hd : decode c.code pc = .ok (.ifnull o, 3)) (ho : 0 ≤ (pc : Int) + o) (hp : ((pc : Int) + o).toNat = pc')  (kk : oGl p e below (T.setTop (mkF m pc' Ls st)) F) : oGl p e below (T.setTop (mkF m pc Ls (.null :: st))) F :=
  oOn (fun _ kK => XS.ifnullYes X.here hx rfl rfl hd rfl ho hp kK) kk
theorem sifnonnullY {pc pc' : Nat} {Ls : Array Slot} {st : List Value} {F : State → Prop} {o : Int} {b : Addr} (X : Stand p l e R s m args below meth c T locs cells slots) (hx : p.tables.exec = Jvm.exec) (hd : decode c.code pc = .ok (.ifnonnull o, 3)) (ho : 0 ≤ (pc : Int) + o) (hp : ((pc : Int) + o).toNat = pc')  (kk : oGl p e below (T.setTop (mkF m pc' Ls st)) F) : oGl p e below (T.setTop (mkF m pc Ls (.ref b :: st))) F :=
  oOn (fun _ kK => XS.ifnonnullYes X.here hx rfl rfl hd rfl ho hp kK) kk
theorem sifN {pc pc' : Nat} {Ls : Array Slot} {F : State → Prop} {st : List Value} {cd : ClassFile.Cond} {o : Int} {x : Int32} (X : Stand p l e R s m args below meth c T locs cells slots) (hx : p.tables.exec = Jvm.exec) (hd : decode c.code pc = .ok (.ifCond cd o, 3)) (hp : pc + 3 = pc') (hc : if_icmp.holds cd x 0 = false) (kk : oGl p e below (T.setTop (mkF m pc' Ls (st))) F) : oGl p e below (T.setTop (mkF m pc Ls (.int x :: st))) F := by
  subst hp
  exact oOn (fun _ kK => XS.ifNo X.here hx rfl hd rfl ((if0 _ _).trans hc) kK) kk
theorem sicN {pc pc' : Nat} {Ls : Array Slot} {F : State → Prop} {st : List Value} {cd : ClassFile.Cond} {o : Int} {x y : Int32} (X : Stand p l e R s m args below meth c T locs cells slots) (hx : p.tables.exec = Jvm.exec) (hd : decode c.code pc = .ok (.if_icmp cd o, 3)) (hp : pc + 3 = pc') (hc : if_icmp.holds cd x y = false) (kk : oGl p e below (T.setTop (mkF m pc' Ls (st))) F) : oGl p e below (T.setTop (mkF m pc Ls (.int y :: .int x :: st))) F := by
  subst hp
  exact oOn (fun _ kK => XS.icmpNo X.here hx rfl hd rfl hc kK) kk
theorem sifnullN {pc pc' : Nat} {Ls : Array Slot} {F : State → Prop} {st : List Value} {o : Int} {b : Addr} (X : Stand p l e R s m args below meth c T locs cells slots) (hx : p.tables.exec = Jvm.exec) (hd : decode c.code pc = .ok (.ifnull o, 3)) (hp : pc + 3 = pc')  (kk : oGl p e below (T.setTop (mkF m pc' Ls (st))) F) : oGl p e below (T.setTop (mkF m pc Ls (.ref b :: st))) F := by
  subst hp
  exact oOn (fun _ kK => XS.ifnullNo X.here hx rfl hd rfl kK) kk
theorem sifnonnullN {pc pc' : Nat} {Ls : Array Slot} {F : State → Prop} {st : List Value} {o : Int} (X : Stand p l e R s m args below meth c T locs cells slots) (hx : p.tables.exec = Jvm.exec) (hd : decode c.code pc = .ok (.ifnonnull o, 3)) (hp : pc + 3 = pc')  (kk : oGl p e below (T.setTop (mkF m pc' Ls (st))) F) : oGl p e below (T.setTop (mkF m pc Ls (.null :: st))) F := by
  subst hp
  exact oOn (fun _ kK => XS.ifnonnullNo X.here hx rfl hd rfl kK) kk
/-! arrays of ints, bytes, chars, shorts, booleans: place j holds f j -/
def oAI (Z : State) (h : Heap) (a : Addr) (ty : FieldType) (n : Nat) (f : Nat → Int32) : Prop := ∃ c : Cell, Arr Z h a c ty ∧ c.slots.size = n ∧ n < 2147483648 ∧ ∀ j, j < n → c.slots[j]? = some (.int (f j))
def oUp {α : Type} (f : Nat → α) (i : Nat) (x : α) : Nat → α := fun k => if k = i then x else f k
theorem oUp_hit {α : Type} {f : Nat → α} {i : Nat} {x : α} : oUp f i x i = x := if_pos rfl
theorem oUp_miss {α : Type} {f : Nat → α} {i k : Nat} {x : α} (q : k ≠ i) : oUp f i x k = f k := if_neg q
variable {n : Nat} {f f' : Nat → Int32} {sl : Nat} {v : Value} {ws : List Addr}
theorem oAI.lt (F : oAI Z h a ty n f) : @LT.lt Nat _ a h.size := by obtain ⟨c, A, -⟩ := F; exact A.lt
theorem oAI.small (F : oAI Z h a ty n f) : n < 2147483648 := by obtain ⟨c, -, -, q, -⟩ := F; exact q
theorem oAI.ext (F : oAI Z h a ty n f) (E : Ext h h') : oAI Z h' a ty n f := by obtain ⟨c, A, r⟩ := F; exact ⟨c, A.ext E, r⟩
theorem oAI.other (F : oAI Z h b ty n f) (W : Wr h h' a sl v) (q : b ≠ a) : oAI Z h' b ty n f := by obtain ⟨c, A, r⟩ := F; exact ⟨c, A.other W q, r⟩
theorem oAI.keep (F : oAI Z h a ty n f) (K : Keep h h' ws) (q : a ∉ ws) : oAI Z h' a ty n f := by obtain ⟨c, A, r⟩ := F; exact ⟨c, ⟨K.2.1 a c A.1 q, A.2⟩, r⟩
theorem oAI.congr (F : oAI Z h a ty n f) (q : ∀ j, j < n → f j = f' j) : oAI Z h a ty n f' := by obtain ⟨c, A, r1, r2, r3⟩ := F; exact ⟨c, A, r1, r2, fun j hj => by rw [← q j hj]; exact r3 j hj⟩
theorem oAI.new {k : ClassId} {z : Int32} (A : Arr Z h a (newA k ty z) ty) (hn : z.toInt.toNat = n) (hd : defaultValue ty = .int 0 := by rfl) : oAI Z h a ty n (fun _ => 0) := by
  refine ⟨_, A, ?_, ?_, fun j hj => ?_⟩
  · rw [sz_new]; exact hn
  · have := z.toInt_lt; omega
  · have hs : (newA k ty z).slots.size = n := by rw [sz_new]; exact hn
    simp only [newA] at hs ⊢
    rw [Array.getElem?_replicate, if_pos (by simpa using (by simpa using hs : z.toNatClampNeg = n) ▸ hj), hd]
theorem oNotIn {j : Int32} {cl : Cell} (hs : cl.slots.size = n) (hj : 0 ≤ j.toInt ∧ j.toInt < n) : ¬ (j < 0 ∨ cl.slots.size ≤ j.toNatClampNeg) := by
  have h1 : j.toNatClampNeg = j.toInt.toNat := rfl
  rw [hs, h1, Int32.lt_iff_toInt_lt]
  have h2 : (0 : Int32).toInt = 0 := rfl
  rw [h2]; omega
theorem oAI.at (F : oAI Z h a ty n f) {j : Int32} (hj : 0 ≤ j.toInt ∧ j.toInt < n) : ∃ c : Cell, Arr Z h a c ty ∧ ¬ (j < 0 ∨ c.slots.size ≤ j.toNatClampNeg) ∧ c.slots[j.toNatClampNeg]? = some (.int (f j.toInt.toNat)) := by
  obtain ⟨c, A, S, q, G⟩ := F
  exact ⟨c, A, oNotIn S hj, G j.toInt.toNat (by omega)⟩
theorem oAI.set {j : Int32} {x : Int32} (F : oAI Z h a ty n f) (W : Wr h h' a j.toNatClampNeg (.int x)) (hj : 0 ≤ j.toInt ∧ j.toInt < n) : oAI Z h' a ty n (oUp f j.toInt.toNat x) := by
  obtain ⟨c, A, S, q, G⟩ := F
  refine ⟨_, A.same W, by rw [sz_set]; exact S, q, fun k hk => ?_⟩
  have h1 : j.toNatClampNeg = j.toInt.toNat := rfl
  show (c.slots.setIfInBounds j.toNatClampNeg (.int x))[k]? = _
  by_cases e : k = j.toInt.toNat
  · subst e; rw [oUp_hit, h1, Array.getElem?_setIfInBounds_self_of_lt (by rw [S]; exact hk)]
  · rw [oUp_miss e, h1, Array.getElem?_setIfInBounds_ne (Ne.symm e)]; exact G k hk
theorem oAI.len (F : oAI Z h a ty n f) (X : Stand p l e R s m args below meth c T locs cells slots) (hx : p.tables.exec = Jvm.exec) (hZ : Z.Warmed39 s.vm) (eT : T.heap = h) {g : JFrame} (hg : g.method = m) {rest : List Value} (hs : g.stack = .ref a :: rest) (hd : decode c.code g.pc = .ok (.arraylength, 1)) :
    ∀ t, Steps p.tables e below (T.setTop { g with pc := g.pc + 1, stack := .int (Int32.ofNat n) :: rest }) t → Steps p.tables e below (T.setTop g) t := by
  obtain ⟨cl, A, S, -, -⟩ := F
  intro t k
  refine X.arraylength hx (by rw [eT]; exact A.1) (State.isArrayOf_alike hZ.alike A.2.1) hg hs hd _ ?_
  rw [S]; exact k
theorem oAI.ldI (F : oAI Z h a .int n f) (X : Stand p l e R s m args below meth c T locs cells slots) (hx : p.tables.exec = Jvm.exec) (hZ : Z.Warmed39 s.vm) (eT : T.heap = h) {j : Int32} (hj : 0 ≤ j.toInt ∧ j.toInt < n) {g : JFrame} (hg : g.method = m) {rest : List Value} (hs : g.stack = .int j :: .ref a :: rest) (hd : decode c.code g.pc = .ok (.iaload, 1)) :
    ∀ t, Steps p.tables e below (T.setTop { g with pc := g.pc + 1, stack := .int (f j.toInt.toNat) :: rest }) t → Steps p.tables e below (T.setTop g) t := by
  obtain ⟨cl, A, q1, q2⟩ := F.at hj
  exact X.iaload hx (by rw [eT]; exact A.1) (State.isArrayOf_alike hZ.alike A.2.1) A.2.2 q1 q2 hg hs hd
theorem oAI.ldB (F : oAI Z h a .byte n f) (X : Stand p l e R s m args below meth c T locs cells slots) (hx : p.tables.exec = Jvm.exec) (hZ : Z.Warmed39 s.vm) (eT : T.heap = h) {j : Int32} (hj : 0 ≤ j.toInt ∧ j.toInt < n) {g : JFrame} (hg : g.method = m) {rest : List Value} (hs : g.stack = .int j :: .ref a :: rest) (hd : decode c.code g.pc = .ok (.baload, 1)) :
    ∀ t, Steps p.tables e below (T.setTop { g with pc := g.pc + 1, stack := .int (f j.toInt.toNat) :: rest }) t → Steps p.tables e below (T.setTop g) t := by
  obtain ⟨cl, A, q1, q2⟩ := F.at hj
  exact X.baloadBytes hx (by rw [eT]; exact A.1) (State.isArrayOf_alike hZ.alike A.2.1) A.2.2 q1 q2 hg hs hd
theorem oAI.ldZ (F : oAI Z h a .boolean n f) (X : Stand p l e R s m args below meth c T locs cells slots) (hx : p.tables.exec = Jvm.exec) (hZ : Z.Warmed39 s.vm) (eT : T.heap = h) {j : Int32} (hj : 0 ≤ j.toInt ∧ j.toInt < n) {g : JFrame} (hg : g.method = m) {rest : List Value} (hs : g.stack = .int j :: .ref a :: rest) (hd : decode c.code g.pc = .ok (.baload, 1)) :
    ∀ t, Steps p.tables e below (T.setTop { g with pc := g.pc + 1, stack := .int (f j.toInt.toNat) :: rest }) t → Steps p.tables e below (T.setTop g) t := by
  obtain ⟨cl, A, q1, q2⟩ := F.at hj
  exact X.baloadBooleans hx (by rw [eT]; exact A.1) (State.isArrayOf_alike hZ.alike A.2.1) A.2.2 q1 q2 hg hs hd
theorem oAI.ldC (F : oAI Z h a .char n f) (X : Stand p l e R s m args below meth c T locs cells slots) (hx : p.tables.exec = Jvm.exec) (hZ : Z.Warmed39 s.vm) (eT : T.heap = h) {j : Int32} (hj : 0 ≤ j.toInt ∧ j.toInt < n) {g : JFrame} (hg : g.method = m) {rest : List Value} (hs : g.stack = .int j :: .ref a :: rest) (hd : decode c.code g.pc = .ok (.caload, 1)) :
    ∀ t, Steps p.tables e below (T.setTop { g with pc := g.pc + 1, stack := .int (f j.toInt.toNat) :: rest }) t → Steps p.tables e below (T.setTop g) t := by
  obtain ⟨cl, A, q1, q2⟩ := F.at hj
  exact X.caload hx (by rw [eT]; exact A.1) (State.isArrayOf_alike hZ.alike A.2.1) A.2.2 q1 q2 hg hs hd
theorem oAI.ldS (F : oAI Z h a .short n f) (X : Stand p l e R s m args below meth c T locs cells slots) (hx : p.tables.exec = Jvm.exec) (hZ : Z.Warmed39 s.vm) (eT : T.heap = h) {j : Int32} (hj : 0 ≤ j.toInt ∧ j.toInt < n) {g : JFrame} (hg : g.method = m) {rest : List Value} (hs : g.stack = .int j :: .ref a :: rest) (hd : decode c.code g.pc = .ok (.saload, 1)) :
    ∀ t, Steps p.tables e below (T.setTop { g with pc := g.pc + 1, stack := .int (f j.toInt.toNat) :: rest }) t → Steps p.tables e below (T.setTop g) t := by
  obtain ⟨cl, A, q1, q2⟩ := F.at hj
  exact X.saload hx (by rw [eT]; exact A.1) (State.isArrayOf_alike hZ.alike A.2.1) A.2.2 q1 q2 hg hs hd
theorem oAI.stI (F : oAI Z h a .int n f) (X : Stand p l e R s m args below meth c T locs cells slots) (hx : p.tables.exec = Jvm.exec) (hZ : Z.Warmed39 s.vm) (eT : T.heap = h) {j x : Int32} (hj : 0 ≤ j.toInt ∧ j.toInt < n) {g : JFrame} (hg : g.method = m) {rest : List Value} (hs : g.stack = .int x :: .int j :: .ref a :: rest) (hd : decode c.code g.pc = .ok (.iastore, 1)) :
    ∃ T' h', Stand p l e R s m args below meth c T' (locs ++ [⟨a, j.toNatClampNeg⟩]) cells slots ∧ T'.heap = h' ∧ Wr h h' a j.toNatClampNeg (.int x) ∧ oAI Z h' a .int n (oUp f j.toInt.toNat x) ∧ ∀ t, Steps p.tables e below (T'.setTop { g with pc := g.pc + 1, stack := rest }) t → Steps p.tables e below (T.setTop g) t := by
  have F' := F
  obtain ⟨cl, A, S, q, G⟩ := F'
  obtain ⟨T', h', X', e', W, st⟩ := Jvm.RoadKit.stI X hx hZ eT A (x := x) (oNotIn S hj) hg hs hd
  exact ⟨T', h', X', e', W, F.set W hj, st⟩
theorem oAI.stB (F : oAI Z h a .byte n f) (X : Stand p l e R s m args below meth c T locs cells slots) (hx : p.tables.exec = Jvm.exec) (hZ : Z.Warmed39 s.vm) (eT : T.heap = h) {j x : Int32} (hj : 0 ≤ j.toInt ∧ j.toInt < n) {g : JFrame} (hg : g.method = m) {rest : List Value} (hs : g.stack = .int x :: .int j :: .ref a :: rest) (hd : decode c.code g.pc = .ok (.bastore, 1)) :
    ∃ T' h', Stand p l e R s m args below meth c T' (locs ++ [⟨a, j.toNatClampNeg⟩]) cells slots ∧ T'.heap = h' ∧ Wr h h' a j.toNatClampNeg (.int (nar .byte x)) ∧ oAI Z h' a .byte n (oUp f j.toInt.toNat (nar .byte x)) ∧ ∀ t, Steps p.tables e below (T'.setTop { g with pc := g.pc + 1, stack := rest }) t → Steps p.tables e below (T.setTop g) t := by
  have F' := F
  obtain ⟨cl, A, S, q, G⟩ := F'
  obtain ⟨T', h', X', e', W, st⟩ := Jvm.RoadKit.stB X hx hZ eT A (x := x) (oNotIn S hj) hg hs hd
  exact ⟨T', h', X', e', W, F.set W hj, st⟩
theorem oAI.stZ (F : oAI Z h a .boolean n f) (X : Stand p l e R s m args below meth c T locs cells slots) (hx : p.tables.exec = Jvm.exec) (hZ : Z.Warmed39 s.vm) (eT : T.heap = h) {j x : Int32} (hj : 0 ≤ j.toInt ∧ j.toInt < n) {g : JFrame} (hg : g.method = m) {rest : List Value} (hs : g.stack = .int x :: .int j :: .ref a :: rest) (hd : decode c.code g.pc = .ok (.bastore, 1)) :
    ∃ T' h', Stand p l e R s m args below meth c T' (locs ++ [⟨a, j.toNatClampNeg⟩]) cells slots ∧ T'.heap = h' ∧ Wr h h' a j.toNatClampNeg (.int (nar .boolean x)) ∧ oAI Z h' a .boolean n (oUp f j.toInt.toNat (nar .boolean x)) ∧ ∀ t, Steps p.tables e below (T'.setTop { g with pc := g.pc + 1, stack := rest }) t → Steps p.tables e below (T.setTop g) t := by
  have F' := F
  obtain ⟨cl, A, S, q, G⟩ := F'
  obtain ⟨T', h', X', e', W, st⟩ := Jvm.RoadKit.stZ X hx hZ eT A (x := x) (oNotIn S hj) hg hs hd
  exact ⟨T', h', X', e', W, F.set W hj, st⟩
theorem oAI.stC (F : oAI Z h a .char n f) (X : Stand p l e R s m args below meth c T locs cells slots) (hx : p.tables.exec = Jvm.exec) (hZ : Z.Warmed39 s.vm) (eT : T.heap = h) {j x : Int32} (hj : 0 ≤ j.toInt ∧ j.toInt < n) {g : JFrame} (hg : g.method = m) {rest : List Value} (hs : g.stack = .int x :: .int j :: .ref a :: rest) (hd : decode c.code g.pc = .ok (.castore, 1)) :
    ∃ T' h', Stand p l e R s m args below meth c T' (locs ++ [⟨a, j.toNatClampNeg⟩]) cells slots ∧ T'.heap = h' ∧ Wr h h' a j.toNatClampNeg (.int (nar .char x)) ∧ oAI Z h' a .char n (oUp f j.toInt.toNat (nar .char x)) ∧ ∀ t, Steps p.tables e below (T'.setTop { g with pc := g.pc + 1, stack := rest }) t → Steps p.tables e below (T.setTop g) t := by
  have F' := F
  obtain ⟨cl, A, S, q, G⟩ := F'
  obtain ⟨T', h', X', e', W, st⟩ := Jvm.RoadKit.stC X hx hZ eT A (x := x) (oNotIn S hj) hg hs hd
  exact ⟨T', h', X', e', W, F.set W hj, st⟩
theorem oAI.stS (F : oAI Z h a .short n f) (X : Stand p l e R s m args below meth c T locs cells slots) (hx : p.tables.exec = Jvm.exec) (hZ : Z.Warmed39 s.vm) (eT : T.heap = h) {j x : Int32} (hj : 0 ≤ j.toInt ∧ j.toInt < n) {g : JFrame} (hg : g.method = m) {rest : List Value} (hs : g.stack = .int x :: .int j :: .ref a :: rest) (hd : decode c.code g.pc = .ok (.sastore, 1)) :
    ∃ T' h', Stand p l e R s m args below meth c T' (locs ++ [⟨a, j.toNatClampNeg⟩]) cells slots ∧ T'.heap = h' ∧ Wr h h' a j.toNatClampNeg (.int (nar .short x)) ∧ oAI Z h' a .short n (oUp f j.toInt.toNat (nar .short x)) ∧ ∀ t, Steps p.tables e below (T'.setTop { g with pc := g.pc + 1, stack := rest }) t → Steps p.tables e below (T.setTop g) t := by
  have F' := F
  obtain ⟨cl, A, S, q, G⟩ := F'
  obtain ⟨T', h', X', e', W, st⟩ := Jvm.RoadKit.stS X hx hZ eT A (x := x) (oNotIn S hj) hg hs hd
  exact ⟨T', h', X', e', W, F.set W hj, st⟩
/-! words out of words -/
theorem oSame {as : Array Value} {C : String} {x y z : MethodName} (wd : (Jvm.Cond.declares y).before as Z = true) (ws : (Jvm.Cond.selects C x z).before as Z = true) (hc : z.cls = y.cls) (hy : y.cls ≠ "java/lang/invoke/MethodHandle" ∧ y.cls ≠ "java/lang/invoke/VarHandle") : (Jvm.Cond.sameMethod y.cls y.cls y.name y.desc).before as Z = true := by
  obtain ⟨c2, r2, m2, -, -, q3, -, kP, hkP, hkPi⟩ := Cond.selects_spec ws
  have h1 := findClass_of_methodNamed q3
  rw [hc] at h1
  cases hm : Z.methodNamed? y with
  | none => simp [Cond.before, Cond.holds, Cond.value, hm] at wd
  | some mk =>
    have h2 := State.methodFound?_of_named hm hy
    have h3 := findClass_of_methodNamed hm
    simp only [Cond.before, Cond.holds, Cond.value, h1, h2, hm, hkP, Option.any_some, hkPi]
    rfl
theorem oPriv {as : Array Value} {y : MethodName} {kk : Nat} (wi : (Jvm.Cond.instantiable y.cls kk).before as s = true) (hpriv : s.PrivateAt y) (hinst : (Jvm.Cond.instanceMethod y).before as s = true) (hy : y.cls ≠ "java/lang/invoke/MethodHandle" ∧ y.cls ≠ "java/lang/invoke/VarHandle") : (Jvm.Cond.selects y.cls y y).before as s = true := by
  obtain ⟨c, k, h1, h2, h3, h4, -⟩ := Cond.instantiable_spec wi
  have i5 : k.isInterface = false := by cases hq : k.isInterface <;> simp [hq] at h4 ⊢
  exact selects_self_of_private h1 h2 i5 hpriv hinst hy
/-! the start's statics -/
theorem oAnd {A B : Jvm.Cond} {as : Array Value} {st : State} (q : (Jvm.Cond.and A B).before as st = true) : A.before as st = true ∧ B.before as st = true := by
  rw [Cond.before_and, Bool.and_eq_true] at q; exact q
/-- a static that holds exactly an object of the class K -/
theorem oStaR {as : Array Value} {C n d K : String} (q : (Jvm.Cond.exactly (.static C n d) K).before as Z = true) (w1 : (Jvm.Cond.initialized C).before as Z = true) (w2 : (Jvm.Cond.laysStatic C n d).before as Z = true) : ∃ a, (Term.static C n d).eval as Z none [] Z = some (.ref a) ∧ Sta Z Z.heap C n d (.ref a) ∧ Exa Z Z.heap a K := by
  obtain ⟨a, c', cell, k, e1, -⟩ := Cond.exactly_spec q
  exact ⟨a, e1, Sta.start e1 (Or.inr ⟨w1, w2⟩), Exa.start e1 (Cond.before_iff.mp q)⟩
theorem oFldI {as : Array Value} {t : Term} {C n d : String} {k : Int32} {a : Addr} (q : (Jvm.Cond.eq (.field t C n d) (.int k)).before as Z = true) (ev : t.eval as Z none [] Z = some (.ref a)) : Fld Z Z.heap a C n d (.int k) := by
  have q' := Cond.before_iff.mp q
  have e1 : (Term.field t C n d).eval as Z none [] Z = Z.fieldOf? a C n d := by simp [Term.eval, ev]
  refine Fld.start ?_
  simp only [Cond.value, e1] at q'
  cases hf : Z.fieldOf? a C n d with
  | none => simp [hf] at q'
  | some v => cases v <;> simp [hf, Term.eval] at q' ⊢; exact q'
theorem oArgI {as : Array Value} {i : Nat} {w : Value} (q : (Jvm.Cond.isInt (.arg i)).before as s = true) (e : as[i]? = some w) : ∃ z, w = .int z := by
  have q' := Cond.before_iff.mp q
  simp only [Cond.value, Term.eval, e] at q'
  cases w <;> first | exact ⟨_, rfl⟩ | simp at q'
theorem oArgJ {as : Array Value} {i : Nat} {w : Value} (q : (Jvm.Cond.isLong (.arg i)).before as s = true) (e : as[i]? = some w) : ∃ z, w = .long z := by
  have q' := Cond.before_iff.mp q
  simp only [Cond.value, Term.eval, e] at q'
  cases w <;> first | exact ⟨_, rfl⟩ | simp at q'
theorem own_arrAt {Z : State} {ca : Addr} {cl : Cell} {ty : FieldType} (A : Arr Z Z.heap ca cl ty) : Z.arrayAt? ca = some cl := by
  have hp := A.plain
  obtain ⟨h1, ⟨hp', k, hk, comp, hkind⟩, h3⟩ := A
  simp [State.arrayAt?, h1, hk, hkind, h3, hp]
theorem own_len {as : Array Value} {Z : State} {t : Term} {ca : Addr} {cl : Cell} {ty : FieldType} (ev : t.eval as Z none [] Z = some (.ref ca)) (A : Arr Z Z.heap ca cl ty) (q : (Jvm.Cond.eq (.length t) (.int 256)).before as Z = true) : cl.slots.size = 256 := by
  have q' := Cond.before_iff.mp q
  have e1 := own_arrAt A
  by_cases hs : cl.slots.size < 2 ^ 31
  · have e2 : (Term.length t).eval as Z none [] Z = some (.int cl.slots.size.toInt32) := by simp [Term.eval, ev, e1, hs]
    have e3 := Cond.eq_ints e2 (Term.int_eval 256)
    rw [e3] at q'
    have e4 : cl.slots.size.toInt32 = 256 := by simpa using q'
    have e5 : (cl.slots.size.toInt32).toInt = (256 : Int32).toInt := by rw [e4]
    have e6 : (Int32.ofNat cl.slots.size).toInt = cl.slots.size := Int32.toInt_ofNat_of_lt (by omega)
    have e7 : (256 : Int32).toInt = 256 := by decide
    have e8 : cl.slots.size.toInt32 = Int32.ofNat cl.slots.size := rfl
    rw [e8, e6, e7] at e5
    omega
  · have e2 : (Term.length t).eval as Z none [] Z = none := by
      simp [Term.eval, ev]
      intro a ha
      rw [e1] at ha
      cases ha
      omega
    simp [Cond.value, e2] at q'
theorem own_all {as : Array Value} {Z : State} {C n d K : String} {ca : Addr} {cl : Cell} {ty : FieldType} {X : Jvm.Cond} (ev : (Term.static C n d).eval as Z none [] Z = some (.ref ca)) (A : Arr Z Z.heap ca cl ty) (hn : cl.slots.size = 256) (q : (Jvm.Cond.all (.static C n d) (.and (.exactly (.elem (.static C n d) (.index 0)) K) X)).before as Z = true) :
    ∀ j : Int32, 0 ≤ j.toInt ∧ j.toInt < (256 : Nat) → ∃ o, cl.slots[j.toNatClampNeg]? = some (.ref o) ∧ Exa Z Z.heap o K ∧ (Term.elem (.static C n d) (.index 0)).eval as Z none [j.toNatClampNeg] Z = some (.ref o) ∧ X.value as Z none Z [j.toNatClampNeg] = some true := by
  intro j hj
  have e1 := own_arrAt A
  have hj0 : ¬ j < 0 := by rw [Int32.lt_iff_toInt_lt]; have : (0 : Int32).toInt = 0 := rfl; omega
  have h1 : j.toNatClampNeg = j.toInt.toNat := rfl
  have h := Cond.all_elim ev e1 (Cond.before_iff.mp q) j.toNatClampNeg (by rw [hn, h1]; omega)
  obtain ⟨h2, h3⟩ := and_e h
  have ev' : (Term.static C n d).eval as Z none [j.toNatClampNeg] Z = some (.ref ca) := ev
  have e2 : (Term.elem (.static C n d) (.index 0)).eval as Z none [j.toNatClampNeg] Z = cl.slots[j.toNatClampNeg]? := by
    have e3 := idx_at (args := as) (s := Z) (first := Z) (o := none) hj0
    simp only [Term.eval] at ev' e3 ⊢
    rw [ev', e3]
    simp [e1, hj0]
  obtain ⟨o, c', cell, k, f1, -⟩ := Cond.exactly_spec (show (Cond.exactly (.elem (.static C n d) (.index 0)) K).holds as Z none Z [j.toNatClampNeg] = true by simp [Cond.holds, h2])
  exact ⟨o, by rw [← e2]; exact f1, exa_at f1 h2, f1, h3⟩
theorem own_fld {as : Array Value} {Z : State} {t u : Term} {idx : List Nat} {O f D : String} {o : Addr} {k : Int32} (f1 : t.eval as Z none idx Z = some (.ref o)) (hx : (Jvm.Cond.eq (.field t O f D) u).value as Z none Z idx = some true) (hu : u.eval as Z none idx Z = some (.int k)) : Fld Z Z.heap o O f D (.int k) := by
  have e1 : (Term.field t O f D).eval as Z none idx Z = Z.fieldOf? o O f D := by simp [Term.eval, f1]
  refine Fld.start ?_
  simp only [Cond.value, e1, hu] at hx
  cases hf : Z.fieldOf? o O f D with
  | none => simp [hf] at hx
  | some v => cases v <;> simp [hf] at hx ⊢; exact hx
theorem own_ix {as : Array Value} {Z : State} {j : Int32} (hj : 0 ≤ j.toInt) : (Term.sub (.index 0) (.int 128)).eval as Z none [j.toNatClampNeg] Z = some (.int (j - 128)) := by
  have hj0 : ¬ j < 0 := by rw [Int32.lt_iff_toInt_lt]; have : (0 : Int32).toInt = 0 := rfl; omega
  have e3 := idx_at (args := as) (s := Z) (first := Z) (o := none) hj0
  simp only [Term.eval] at e3 ⊢
  rw [e3]; rfl
theorem oEqI {as : Array Value} {t : Term} {k : Int32} (q : (Jvm.Cond.eq t (.int k)).before as Z = true) : t.eval as Z none [] Z = some (.int k) := by
  have q' := Cond.before_iff.mp q
  simp only [Cond.value] at q'
  cases hf : t.eval as Z none [] Z with
  | none => simp [hf] at q'
  | some v => cases v <;> simp [hf, Term.eval] at q' ⊢; exact q'
end OwnKit
set_option maxHeartbeats 4000000 in
theorem own_sa {Z : State} {a0 : Array Value} (hw : ∀ d ∈ tables_1, d.before a0 Z = true) : ∀ d ∈ Bundle.stringAtoms, d.before a0 Z = true := by
  intro d hd
  simp only [Bundle.stringAtoms, List.mem_cons, List.not_mem_nil, or_false] at hd
  rcases hd with rfl | rfl | rfl | rfl | rfl | rfl | rfl
  · exact (hw _ (List.mem_of_getElem? (i := 19) rfl))
  · exact (hw _ (List.mem_of_getElem? (i := 18) rfl))
  · exact (hw _ (List.mem_of_getElem? (i := 35) rfl))
  · exact (hw _ (List.mem_of_getElem? (i := 45) rfl))
  · exact (hw _ (List.mem_of_getElem? (i := 43) rfl))
  · exact (hw _ (List.mem_of_getElem? (i := 59) rfl))
  · exact (hw _ (List.mem_of_getElem? (i := 60) rfl))
def oLo (f : Nat → Int32) : Nat → Int32 := fun j => nar .byte ((f j).toInt8.toInt32)
theorem own_ofNat {n : Nat} (h : n < 2147483648) : (Int32.ofNat n).toInt = n := Int32.toInt_ofNat_of_lt (by omega)
theorem own_incS {x : Int32} (h : x.toInt < 2147483647) : (x + (1 : Int32)).toInt = x.toInt + 1 := by
  have h1 := c_iadd x 1; have h2 := rng32 (x + 1); have h3 := rng32 x; have e1 : (1 : Int32).toInt = 1 := rfl
  omega
theorem d7_0 : decode jdk_52_method_21_code 0 = .ok (.iconst 0, 1) := by decide +kernel
theorem d7_1 : decode jdk_52_method_21_code 1 = .ok (.istore 5, 2) := by decide +kernel
theorem d7_3 : decode jdk_52_method_21_code 3 = .ok (.iload 5, 2) := by decide +kernel
theorem d7_5 : decode jdk_52_method_21_code 5 = .ok (.iload 4, 2) := by decide +kernel
theorem d7_7 : decode jdk_52_method_21_code 7 = .ok (.if_icmp .ge 37, 3) := by decide +kernel
theorem d7_10 : decode jdk_52_method_21_code 10 = .ok (.aload_n 0, 1) := by decide +kernel
theorem d7_11 : decode jdk_52_method_21_code 11 = .ok (.iload_n 1, 1) := by decide +kernel
theorem d7_12 : decode jdk_52_method_21_code 12 = .ok (.caload, 1) := by decide +kernel
theorem d7_13 : decode jdk_52_method_21_code 13 = .ok (.istore 6, 2) := by decide +kernel
theorem d7_15 : decode jdk_52_method_21_code 15 = .ok (.iload 6, 2) := by decide +kernel
theorem d7_17 : decode jdk_52_method_21_code 17 = .ok (.sipush 255, 3) := by decide +kernel
theorem d7_20 : decode jdk_52_method_21_code 20 = .ok (.if_icmp .le 6, 3) := by decide +kernel
theorem d7_26 : decode jdk_52_method_21_code 26 = .ok (.aload_n 2, 1) := by decide +kernel
theorem d7_27 : decode jdk_52_method_21_code 27 = .ok (.iload_n 3, 1) := by decide +kernel
theorem d7_28 : decode jdk_52_method_21_code 28 = .ok (.iload 6, 2) := by decide +kernel
theorem d7_30 : decode jdk_52_method_21_code 30 = .ok (.i2b, 1) := by decide +kernel
theorem d7_31 : decode jdk_52_method_21_code 31 = .ok (.bastore, 1) := by decide +kernel
theorem d7_32 : decode jdk_52_method_21_code 32 = .ok (.iinc 1 1, 3) := by decide +kernel
theorem d7_35 : decode jdk_52_method_21_code 35 = .ok (.iinc 3 1, 3) := by decide +kernel
theorem d7_38 : decode jdk_52_method_21_code 38 = .ok (.iinc 5 1, 3) := by decide +kernel
theorem d7_41 : decode jdk_52_method_21_code 41 = .ok (.goto (-38), 3) := by decide +kernel
theorem d7_44 : decode jdk_52_method_21_code 44 = .ok (.iload 4, 2) := by decide +kernel
theorem d7_46 : decode jdk_52_method_21_code 46 = .ok (.ireturn, 1) := by decide +kernel
theorem pn_StringUTF16 : plainName "java/lang/StringUTF16" = true := by first | (simp [plainName, overriddenIn]; done) | decide +kernel
theorem ef_rmCmp5 (m : MethodId) (x0 : Nat) (x1 : Int32) (x2 : Nat) (x3 : Int32) (x4 : Int32)  : entryFrame m #[(.ref x0), (.int x1), (.ref x2), (.int x3), (.int x4)] 7 = mkF m 0 #[.val (.ref x0), .val (.int x1), .val (.ref x2), .val (.int x3), .val (.int x4), .unset, .unset] [] := by first | (simp [entryFrame, mkF, argsToLocals, Value.category, maxLocals]; done) | rfl
def Q_rmCmp5 (Z : State) (a d n : Nat) (f g0 : Nat → Int32) (h0 : Heap) (n0 : Nat) (vv : Option Value) (h : Heap) (L : List Loc) : Prop := vv = some (.int (Int32.ofNat n)) ∧ Fr n0 L ∧ Keep h0 h [d] ∧ oAI Z h d .byte n (oLo f)
set_option maxRecDepth 65536 in
set_option maxHeartbeats 40000000 in
theorem rmCmp5 (l : Launch) (Z : State) (a0 : Array Value) (hw : ∀ d ∈ tables_1, d.before a0 Z = true) (ws : List Jvm.Cond) (a d n : Nat) (f g0 : Nat → Int32) (h0 : Heap) (n0 : Nat) (Z0 : n0 ≤ h0.size) (PV : oAI Z h0 a .char n f) (PD : oAI Z h0 d .byte n g0) (hne : a ≠ d) (gd : n0 ≤ d) (hl : ∀ j : Nat, j < n → ¬ (255 : Int32) < f j) :
    MetFree l (⟨"java/lang/StringUTF16", "compress", "([CI[BII)I"⟩ : MethodName) (head1 (Jvm.Cond.code (⟨"java/lang/StringUTF16", "compress", "([CI[BII)I"⟩ : MethodName) jdk_52_method_21_code 7 (some .int) :: ws) ({ frames := 0, cells := 0, slots := 0, locals := 0 } : Room)) (fun aA uU => aA = #[(.ref a), (.int (0 : Int32)), (.ref d), (.int (0 : Int32)), (.int (Int32.ofNat n))] ∧ Z.Warmed39 uU.vm ∧ uU.heap = h0) (fun _ _ _ _ _ => True) (fun _ uU oO uU' => ∃ vV lL, oO = .returned vV ∧ Q_rmCmp5 Z a d n f g0 h0 n0 vV uU'.heap lL ∧ FrameEnd uU oO uU' lL ({ frames := 0, cells := 0, slots := 0, locals := 0 } : Room).cells ({ frames := 0, cells := 0, slots := 0, locals := 0 } : Room).slots) := by
  refine MetFree.of_bodySF (plainFor_of_name pn_StringUTF16) hisR ?_
  intro p e s m args below meth c s₁ Bd hml0 hP hK
  obtain ⟨rfl, hZ, hh⟩ := hP
  have hx := Bd.exec
  have hby := Bd.bytes
  have hml : c.maxLocals = 7 := hml0
  have hown : s.vm.findClass "java/lang/StringUTF16" = some m.cls := findClass_of_methodNamed Bd.named
  have hnm := (name_of_methodNamed Bd.named Bd.method).1
  have X0 : Stand p l e ({ frames := 0, cells := 0, slots := 0, locals := 0 } : Room) s m #[(.ref a), (.int (0 : Int32)), (.ref d), (.int (0 : Int32)), (.int (Int32.ofNat n))] below meth c s₁ [] 0 0 := Stand.of_body Bd
  have e0 : s₁.heap = h0 := by rw [← hh, Bd.state]; rfl
  have N0 := Fr.nil n0
  refine oEnter (oCast (ef_rmCmp5 m a (0 : Int32) d (0 : Int32) (Int32.ofNat n) ) ?_)
  show oGl p e below (s₁.setTop (mkF m 0 #[.val (.ref a), .val (.int (0 : Int32)), .val (.ref d), .val (.int (0 : Int32)), .val (.int (Int32.ofNat n)), .unset, .unset] [])) _
  refine siconst X0 hx (hb hby d7_0) rfl rfl (z := 0) (pc' := 1) ?_
  refine sistore X0 hx (hb hby d7_1) rfl rfl (l' := #[.val (.ref a), .val (.int (0 : Int32)), .val (.ref d), .val (.int (0 : Int32)), .val (.int (Int32.ofNat n)), .val (.int (0 : Int32)), .unset]) (pc' := 3) ?_
  have hn9 := PV.small
  have lA : @LT.lt Nat _ a h0.size := PV.lt
  have lD : @LT.lt Nat _ d h0.size := PD.lt
  have nad : @Ne Nat a d := hne
  have lp3 : ∀ (kF : Nat) (i : Int32) (o6 : Slot) (g : Nat → Int32) (T : State) (locs : List Loc) (X : Stand p l e ({ frames := 0, cells := 0, slots := 0, locals := 0 } : Room) s m #[(.ref a), (.int (0 : Int32)), (.ref d), (.int (0 : Int32)), (.int (Int32.ofNat n))] below meth c T locs 0 0) (hh : Heap) (eT : T.heap = hh) (N : Fr n0 locs) (hzh : n0 ≤ hh.size) (Kp : Keep h0 hh [d]) (fa0 : oAI Z hh a .char n f) (fa1 : oAI Z hh d .byte n g) (hm : (n - i.toInt.toNat) < kF) (hi : 0 ≤ i.toInt ∧ i.toInt ≤ n ∧ One o6 ∧ ∀ j : Nat, (j : Int) < i.toInt → g j = oLo f j), oGl p e below (T.setTop (mkF m 3 #[.val (.ref a), .val (.int i), .val (.ref d), .val (.int i), .val (.int (Int32.ofNat n)), .val (.int i), o6] [])) (oFin s below (Q_rmCmp5 Z a d n f g0 h0 n0) ({ frames := 0, cells := 0, slots := 0, locals := 0 } : Room).cells ({ frames := 0, cells := 0, slots := 0, locals := 0 } : Room).slots) := by
    intro kF
    induction kF with
    | zero => intro i o6 g T locs X hh eT N hzh Kp fa0 fa1 hm hi; exact absurd hm (Nat.not_lt_zero _)
    | succ kF ih =>
      intro i o6 g T locs X hh eT N hzh Kp fa0 fa1 hm hi
      have lfa0 : @LT.lt Nat _ a hh.size := fa0.lt
      have lfa1 : @LT.lt Nat _ d hh.size := fa1.lt
      refine siload X hx (hb hby d7_3) rfl rfl (pc' := 5) ?_
      refine siload X hx (hb hby d7_5) rfl rfl (pc' := 7) ?_
      by_cases hc7 : i < (Int32.ofNat n)
      · skip
        refine sicN X hx (hb hby d7_7) rfl (tlt hc7).2.1 (pc' := 10) ?_
        refine saloadN X hx (hb hby d7_10) rfl rfl rfl (pc' := 11) ?_
        refine siloadN X hx (hb hby d7_11) rfl rfl (pc' := 12) ?_
        refine oOn (fa0.ldC X hx hZ eT (j := i) (by have hlt := Int32.lt_iff_toInt_lt.mp hc7; rw [own_ofNat hn9] at hlt; omega) (g := (mkF m 12 #[.val (.ref a), .val (.int i), .val (.ref d), .val (.int i), .val (.int (Int32.ofNat n)), .val (.int i), o6] [(.int i), (.ref a)])) rfl rfl (hb hby d7_12)) ?_
        show oGl p e below (T.setTop (mkF m 13 #[.val (.ref a), .val (.int i), .val (.ref d), .val (.int i), .val (.int (Int32.ofNat n)), .val (.int i), o6] [(.int (f i.toInt.toNat))])) _
        refine sistore X hx (hb hby d7_13) rfl (oSto rfl hi.2.2.1 rfl) (l' := #[.val (.ref a), .val (.int i), .val (.ref d), .val (.int i), .val (.int (Int32.ofNat n)), .val (.int i), .val (.int (f i.toInt.toNat))]) (pc' := 15) ?_
        refine siload X hx (hb hby d7_15) rfl rfl (pc' := 17) ?_
        refine ssipush X hx (hb hby d7_17) rfl rfl (z := 255) (pc' := 20) ?_
        refine sicY X hx (hb hby d7_20) (by decide) (by decide) (flt (hl _ (by have hlt := Int32.lt_iff_toInt_lt.mp hc7; rw [own_ofNat hn9] at hlt; omega) : ¬ ((255 : Int32) < (f i.toInt.toNat)))).2.2.2 (pc' := 26) ?_
        refine saloadN X hx (hb hby d7_26) rfl rfl rfl (pc' := 27) ?_
        refine siloadN X hx (hb hby d7_27) rfl rfl (pc' := 28) ?_
        refine siload X hx (hb hby d7_28) rfl rfl (pc' := 30) ?_
        refine si2b X hx (hb hby d7_30) rfl rfl (pc' := 31) ?_
        obtain ⟨T1, h1, X1, e1, W1, V1, st1⟩ := fa1.stB X hx hZ eT (j := i) (by have hlt := Int32.lt_iff_toInt_lt.mp hc7; rw [own_ofNat hn9] at hlt; omega) (g := (mkF m 31 #[.val (.ref a), .val (.int i), .val (.ref d), .val (.int i), .val (.int (Int32.ofNat n)), .val (.int i), .val (.int (f i.toInt.toNat))] [(.int (((f i.toInt.toNat)).toInt8.toInt32)), (.int i), (.ref d)])) rfl rfl (hb hby d7_31)
        refine oOn st1 ?_
        have z2 : hh.size ≤ h1.size := Nat.le_of_eq W1.size.symm
        have N1 := Fr.snoc X1 N (by omega)
        show oGl p e below (T1.setTop (mkF m 32 #[.val (.ref a), .val (.int i), .val (.ref d), .val (.int i), .val (.int (Int32.ofNat n)), .val (.int i), .val (.int (f i.toInt.toNat))] [])) _
        refine siinc X1 hx (hb hby d7_32) rfl rfl rfl (l' := #[.val (.ref a), .val (.int (i + (1 : Int32))), .val (.ref d), .val (.int i), .val (.int (Int32.ofNat n)), .val (.int i), .val (.int (f i.toInt.toNat))]) (pc' := 35) ?_
        refine siinc X1 hx (hb hby d7_35) rfl rfl rfl (l' := #[.val (.ref a), .val (.int (i + (1 : Int32))), .val (.ref d), .val (.int (i + (1 : Int32))), .val (.int (Int32.ofNat n)), .val (.int i), .val (.int (f i.toInt.toNat))]) (pc' := 38) ?_
        refine siinc X1 hx (hb hby d7_38) rfl rfl rfl (l' := #[.val (.ref a), .val (.int (i + (1 : Int32))), .val (.ref d), .val (.int (i + (1 : Int32))), .val (.int (Int32.ofNat n)), .val (.int (i + (1 : Int32))), .val (.int (f i.toInt.toNat))]) (pc' := 41) ?_
        refine sgoto X1 hx (hb hby d7_41) (by decide) (by decide)  (pc' := 3) ?_
        have hlt := Int32.lt_iff_toInt_lt.mp hc7
        rw [own_ofNat hn9] at hlt
        have hi1 := own_incS (x := i) (by omega)
        have hzb : n0 ≤ h1.size := by omega
        have kp3 : Keep h0 h1 [d] := (Kp.wr W1 (Or.inl (List.mem_of_getElem? (i := 0) rfl)))
        have f4 := (fa0.other W1 (oNe (by omega)))
        exact ih (i + (1 : Int32)) (.val (.int (f i.toInt.toNat))) (oUp g i.toInt.toNat (nar .byte (((f i.toInt.toNat)).toInt8.toInt32))) _ _ X1 _ e1 N1 hzb kp3 f4 V1 (by omega) ⟨by omega, by omega, One.val rfl, fun j hj => by
          by_cases q : j = i.toInt.toNat
          · subst q; exact oUp_hit
          · rw [oUp_miss q]; exact hi.2.2.2 j (by omega)⟩
      · skip
        refine sicY X hx (hb hby d7_7) (by decide) (by decide) (flt hc7).2.1 (pc' := 44) ?_
        refine siload X hx (hb hby d7_44) rfl rfl (pc' := 46) ?_
        have hge : ¬ i.toInt < (Int32.ofNat n).toInt := fun q => hc7 (Int32.lt_iff_toInt_lt.mpr q)
        rw [own_ofNat hn9] at hge
        have kp5 : Keep h0 hh [d] := Kp
        refine oRetI X hx Bd.notSynchronized Bd.returns (hb hby d7_46) (by decide) (by decide) ?_
        show Q_rmCmp5 Z a d n f g0 h0 n0 _ T.heap _
        rw [eT]
        exact ⟨rfl, N, kp5, fa1.congr (fun j hj => hi.2.2.2 j (by omega))⟩
  have hzb : n0 ≤ h0.size := by omega
  have kp6 : Keep h0 h0 [d] := (Keep.refl h0 [d])
  exact lp3 _ 0 .unset g0 _ _ X0 _ e0 N0 hzb kp6 PV PD (Nat.lt_succ_self _) ⟨by decide, by have e0 : (0 : Int32).toInt = 0 := rfl; omega, One.u, fun j hj => by have e0 : (0 : Int32).toInt = 0 := rfl; omega⟩
theorem own_nn {n : Nat} (h : n < 2147483648) : ¬ Int32.ofNat n < 0 := by
  rw [Int32.lt_iff_toInt_lt, own_ofNat h]; have e0 : (0 : Int32).toInt = 0 := rfl; omega
theorem own_cod (x : Int32) : nar .byte ((((x - x).toUInt32 >>> ((31 : Int32) &&& 31).toUInt32).toInt32).toInt8.toInt32) = 0 := by
  rw [Int32.sub_self]; decide
theorem d8_0 : decode jdk_52_method_15_code 0 = .ok (.iload_n 1, 1) := by decide +kernel
theorem d8_1 : decode jdk_52_method_15_code 1 = .ok (.aload_n 0, 1) := by decide +kernel
theorem d8_2 : decode jdk_52_method_15_code 2 = .ok (.arraylength, 1) := by decide +kernel
theorem d8_3 : decode jdk_52_method_15_code 3 = .ok (.isub, 1) := by decide +kernel
theorem d8_4 : decode jdk_52_method_15_code 4 = .ok (.bipush 31, 2) := by decide +kernel
theorem d8_6 : decode jdk_52_method_15_code 6 = .ok (.iushr, 1) := by decide +kernel
theorem d8_7 : decode jdk_52_method_15_code 7 = .ok (.i2b, 1) := by decide +kernel
theorem d8_8 : decode jdk_52_method_15_code 8 = .ok (.ireturn, 1) := by decide +kernel
theorem ef_rmCod (m : MethodId) (x0 : Nat) (x1 : Int32)  : entryFrame m #[(.ref x0), (.int x1)] 2 = mkF m 0 #[.val (.ref x0), .val (.int x1)] [] := by first | (simp [entryFrame, mkF, argsToLocals, Value.category, maxLocals]; done) | rfl
def Q_rmCod (Z : State) (d n : Nat) (g : Nat → Int32) (h0 : Heap) (n0 : Nat) (vv : Option Value) (h : Heap) (L : List Loc) : Prop := vv = some (.int 0) ∧ Fr n0 L ∧ h = h0
set_option maxRecDepth 65536 in
set_option maxHeartbeats 40000000 in
theorem rmCod (l : Launch) (Z : State) (a0 : Array Value) (hw : ∀ d ∈ tables_1, d.before a0 Z = true) (ws : List Jvm.Cond) (d n : Nat) (g : Nat → Int32) (h0 : Heap) (n0 : Nat) (Z0 : n0 ≤ h0.size) (PD : oAI Z h0 d .byte n g) :
    MetFree l (⟨"java/lang/StringUTF16", "coderFromArrayLen", "([BI)B"⟩ : MethodName) (head1 (Jvm.Cond.code (⟨"java/lang/StringUTF16", "coderFromArrayLen", "([BI)B"⟩ : MethodName) jdk_52_method_15_code 2 (some .byte) :: ws) ({ frames := 0, cells := 0, slots := 0, locals := 0 } : Room)) (fun aA uU => aA = #[(.ref d), (.int (Int32.ofNat n))] ∧ Z.Warmed39 uU.vm ∧ uU.heap = h0) (fun _ _ _ _ _ => True) (fun _ uU oO uU' => ∃ vV lL, oO = .returned vV ∧ Q_rmCod Z d n g h0 n0 vV uU'.heap lL ∧ FrameEnd uU oO uU' lL ({ frames := 0, cells := 0, slots := 0, locals := 0 } : Room).cells ({ frames := 0, cells := 0, slots := 0, locals := 0 } : Room).slots) := by
  refine MetFree.of_bodySF (plainFor_of_name pn_StringUTF16) hisR ?_
  intro p e s m args below meth c s₁ Bd hml0 hP hK
  obtain ⟨rfl, hZ, hh⟩ := hP
  have hx := Bd.exec
  have hby := Bd.bytes
  have hml : c.maxLocals = 2 := hml0
  have hown : s.vm.findClass "java/lang/StringUTF16" = some m.cls := findClass_of_methodNamed Bd.named
  have hnm := (name_of_methodNamed Bd.named Bd.method).1
  have X0 : Stand p l e ({ frames := 0, cells := 0, slots := 0, locals := 0 } : Room) s m #[(.ref d), (.int (Int32.ofNat n))] below meth c s₁ [] 0 0 := Stand.of_body Bd
  have e0 : s₁.heap = h0 := by rw [← hh, Bd.state]; rfl
  have N0 := Fr.nil n0
  refine oEnter (oCast (ef_rmCod m d (Int32.ofNat n) ) ?_)
  show oGl p e below (s₁.setTop (mkF m 0 #[.val (.ref d), .val (.int (Int32.ofNat n))] [])) _
  refine siloadN X0 hx (hb hby d8_0) rfl rfl (pc' := 1) ?_
  refine saloadN X0 hx (hb hby d8_1) rfl rfl rfl (pc' := 2) ?_
  refine oOn (PD.len X0 hx hZ e0 (g := (mkF m 2 #[.val (.ref d), .val (.int (Int32.ofNat n))] [(.ref d), (.int (Int32.ofNat n))])) rfl rfl (hb hby d8_2)) ?_
  show oGl p e below (s₁.setTop (mkF m 3 #[.val (.ref d), .val (.int (Int32.ofNat n))] [(.int (Int32.ofNat n)), (.int (Int32.ofNat n))])) _
  refine sisub X0 hx (hb hby d8_3) rfl rfl (pc' := 4) ?_
  refine sbipush X0 hx (hb hby d8_4) rfl rfl (z := 31) (pc' := 6) ?_
  refine siushr X0 hx (hb hby d8_6) rfl rfl (pc' := 7) ?_
  refine si2b X0 hx (hb hby d8_7) rfl rfl (pc' := 8) ?_
  refine oRetN (t := .byte) X0 hx Bd.notSynchronized Bd.returns (by simp) (hb hby d8_8) (by decide) (by decide) ?_
  show Q_rmCod Z d n g h0 n0 _ s₁.heap _
  rw [e0]
  exact ⟨congrArg (fun z => some (Value.int z)) (own_cod (Int32.ofNat n)), N0, rfl⟩
theorem d6_0 : decode jdk_52_method_16_code 0 = .ok (.iload_n 2, 1) := by decide +kernel
theorem d6_1 : decode jdk_52_method_16_code 1 = .ok (.newarray .byte, 2) := by decide +kernel
theorem d6_3 : decode jdk_52_method_16_code 3 = .ok (.astore_n 3, 1) := by decide +kernel
theorem d6_4 : decode jdk_52_method_16_code 4 = .ok (.aload_n 0, 1) := by decide +kernel
theorem d6_5 : decode jdk_52_method_16_code 5 = .ok (.iload_n 1, 1) := by decide +kernel
theorem d6_6 : decode jdk_52_method_16_code 6 = .ok (.aload_n 3, 1) := by decide +kernel
theorem d6_7 : decode jdk_52_method_16_code 7 = .ok (.iconst 0, 1) := by decide +kernel
theorem d6_8 : decode jdk_52_method_16_code 8 = .ok (.iload_n 2, 1) := by decide +kernel
theorem d6_9 : decode jdk_52_method_16_code 9 = .ok (.invokestatic 115, 3) := by decide +kernel
theorem pd_0 : parseMethodDescriptor "([CI[BII)I" = some ⟨[(.array .char), .int, (.array .byte), .int, .int], some .int⟩ := by decide +kernel
theorem d6_12 : decode jdk_52_method_16_code 12 = .ok (.istore 4, 2) := by decide +kernel
theorem d6_14 : decode jdk_52_method_16_code 14 = .ok (.iload 4, 2) := by decide +kernel
theorem d6_16 : decode jdk_52_method_16_code 16 = .ok (.iload_n 2, 1) := by decide +kernel
theorem d6_17 : decode jdk_52_method_16_code 17 = .ok (.if_icmp .eq 40, 3) := by decide +kernel
theorem d6_57 : decode jdk_52_method_16_code 57 = .ok (.aload_n 3, 1) := by decide +kernel
theorem d6_58 : decode jdk_52_method_16_code 58 = .ok (.areturn, 1) := by decide +kernel
theorem ef_rmCmp3 (m : MethodId) (x0 : Nat) (x1 : Int32) (x2 : Int32)  : entryFrame m #[(.ref x0), (.int x1), (.int x2)] 6 = mkF m 0 #[.val (.ref x0), .val (.int x1), .val (.int x2), .unset, .unset, .unset] [] := by first | (simp [entryFrame, mkF, argsToLocals, Value.category, maxLocals]; done) | rfl
def Q_rmCmp3 (Z : State) (a n : Nat) (f : Nat → Int32) (h0 : Heap) (n0 : Nat) (vv : Option Value) (h : Heap) (L : List Loc) : Prop := ∃ d : Nat, vv = some (.ref d) ∧ Fr n0 L ∧ Keep h0 h [] ∧ h0.size ≤ d ∧ oAI Z h d .byte n (oLo f)
set_option maxRecDepth 65536 in
set_option maxHeartbeats 40000000 in
theorem rmCmp3 (l : Launch) (Z : State) (a0 : Array Value) (hw : ∀ d ∈ tables_1, d.before a0 Z = true) (ws : List Jvm.Cond) (a n : Nat) (f : Nat → Int32) (h0 : Heap) (n0 : Nat) (Z0 : n0 ≤ h0.size) (PV : oAI Z h0 a .char n f) (hcap : n ≤ 2) (hl : ∀ j : Nat, j < n → ¬ (255 : Int32) < f j) :
    MetFree l (⟨"java/lang/StringUTF16", "compress", "([CII)[B"⟩ : MethodName) (head1 (Jvm.Cond.code (⟨"java/lang/StringUTF16", "compress", "([CII)[B"⟩ : MethodName) jdk_52_method_16_code 6 (some (.array .byte)) :: ws) ({ frames := 1, cells := 1, slots := 2, locals := 18 } : Room)) (fun aA uU => aA = #[(.ref a), (.int (0 : Int32)), (.int (Int32.ofNat n))] ∧ Z.Warmed39 uU.vm ∧ uU.heap = h0) (fun _ _ _ _ _ => True) (fun _ uU oO uU' => ∃ vV lL, oO = .returned vV ∧ Q_rmCmp3 Z a n f h0 n0 vV uU'.heap lL ∧ FrameEnd uU oO uU' lL ({ frames := 1, cells := 1, slots := 2, locals := 18 } : Room).cells ({ frames := 1, cells := 1, slots := 2, locals := 18 } : Room).slots) := by
  refine MetFree.of_bodySF (plainFor_of_name pn_StringUTF16) hisR ?_
  intro p e s m args below meth c s₁ Bd hml0 hP hK
  obtain ⟨rfl, hZ, hh⟩ := hP
  have hx := Bd.exec
  have hby := Bd.bytes
  have hml : c.maxLocals = 6 := hml0
  have hown : s.vm.findClass "java/lang/StringUTF16" = some m.cls := findClass_of_methodNamed Bd.named
  have hnm := (name_of_methodNamed Bd.named Bd.method).1
  have X0 : Stand p l e ({ frames := 1, cells := 1, slots := 2, locals := 18 } : Room) s m #[(.ref a), (.int (0 : Int32)), (.int (Int32.ofNat n))] below meth c s₁ [] 0 0 := Stand.of_body Bd
  have e0 : s₁.heap = h0 := by rw [← hh, Bd.state]; rfl
  have N0 := Fr.nil n0
  have lA : @LT.lt Nat _ a h0.size := PV.lt
  have hn9 := PV.small
  have hn8 := own_ofNat hn9
  refine oEnter (oCast (ef_rmCmp3 m a (0 : Int32) (Int32.ofNat n) ) ?_)
  show oGl p e below (s₁.setTop (mkF m 0 #[.val (.ref a), .val (.int (0 : Int32)), .val (.int (Int32.ofNat n)), .unset, .unset, .unset] [])) _
  refine siloadN X0 hx (hb hby d6_0) rfl rfl (pc' := 1) ?_
  obtain ⟨T1, h1, k1, X1, e1, E1, A1, st1⟩ := newP X0 hx hZ (hw _ (List.mem_of_getElem? (i := 35) rfl)) e0 (g := (mkF m 1 #[.val (.ref a), .val (.int (0 : Int32)), .val (.int (Int32.ofNat n)), .unset, .unset, .unset] [(.int (Int32.ofNat n))])) rfl (hb hby d6_1) rfl (own_nn hn9) (cap := 2) (by show (Int32.ofNat n).toInt.toNat ≤ _; omega) (by decide) (by decide) (by decide)
  obtain ⟨a1, g1⟩ : ∃ z, z = h0.size := ⟨_, rfl⟩
  rw [← g1] at A1 st1
  refine oOn st1 ?_
  have z2 : h0.size ≤ h1.size := E1.1
  have lt1 : a1 < h1.size := A1.lt
  have V1 : oAI Z h1 a1 .byte n (fun _ => 0) := oAI.new A1 (by omega)
  show oGl p e below (T1.setTop (mkF m 3 #[.val (.ref a), .val (.int (0 : Int32)), .val (.int (Int32.ofNat n)), .unset, .unset, .unset] [(.ref a1)])) _
  refine sastoreN X1 hx (hb hby d6_3) rfl rfl rfl (l' := #[.val (.ref a), .val (.int (0 : Int32)), .val (.int (Int32.ofNat n)), .val (.ref a1), .unset, .unset]) (pc' := 4) ?_
  refine saloadN X1 hx (hb hby d6_4) rfl rfl rfl (pc' := 5) ?_
  refine siloadN X1 hx (hb hby d6_5) rfl rfl (pc' := 6) ?_
  refine saloadN X1 hx (hb hby d6_6) rfl rfl rfl (pc' := 7) ?_
  refine siconst X1 hx (hb hby d6_7) rfl rfl (z := 0) (pc' := 8) ?_
  refine siloadN X1 hx (hb hby d6_8) rfl rfl (pc' := 9) ?_
  have f3 := (PV.ext E1)
  have hz4 : n0 ≤ h1.size := by omega
  obtain ⟨_, _, ⟨T4, L4, k4, n4⟩, -, X4, ⟨Lc4, hQ4, l4, y4, z4⟩, st4⟩ := Jvm.LawKit.callS X1 hx (y := (⟨"java/lang/StringUTF16", "compress", "([CI[BII)I"⟩ : MethodName)) hown (mvT hZ (hw _ (List.mem_of_getElem? (i := 36) rfl))) (mvT hZ (hw _ (List.mem_of_getElem? (i := 37) rfl))) (mvT hZ (hw _ (List.mem_of_getElem? (i := 33) rfl))) (mvT hZ (hw _ (List.mem_of_getElem? (i := 38) rfl))) (by decide) (backOf (W := 0) (rmCmp5 l Z a0 hw [] a a1 n f (fun _ => 0) h1 n0 hz4 f3 V1 (oNe (by omega)) (by omega) hl) hZ (hw _ (List.mem_of_getElem? (i := 38) rfl)) (hw _ (List.mem_of_getElem? (i := 33) rfl)) (by decide) (by decide)) (g := (mkF m 9 #[.val (.ref a), .val (.int (0 : Int32)), .val (.int (Int32.ofNat n)), .val (.ref a1), .unset, .unset] [(.int (Int32.ofNat n)), (.int (0 : Int32)), (.ref a1), (.int (0 : Int32)), (.ref a)])) rfl (by rw [hml]; rfl) (argsL := [(.ref a), (.int (0 : Int32)), (.ref a1), (.int (0 : Int32)), (.int (Int32.ofNat n))]) (rest := []) (lenOf pd_0 rfl) rfl (by show 2 * 0 + _ ≤ _; exact Nat.le_of_eq rfl) (hb hby d6_9) (fun _ _ => ⟨rfl, e1, (by decide : 1 + 0 ≤ _), (by decide : 2 + 0 ≤ _)⟩)
  dsimp only [Pt.U, Pt.locs, Pt.cells, Pt.slots] at X4 l4 y4 z4 st4 hQ4
  subst l4 y4 z4
  obtain ⟨rfl, N4q, K4, Vd4⟩ := hQ4
  have N4 := Fr.app N0 N4q
  have z5 : h1.size ≤ T4.heap.size := K4.1
  refine oOn st4 ?_
  show oGl p e below (T4.setTop (mkF m 12 #[.val (.ref a), .val (.int (0 : Int32)), .val (.int (Int32.ofNat n)), .val (.ref a1), .unset, .unset] [(.int (Int32.ofNat n))])) _
  refine sistore X4 hx (hb hby d6_12) rfl rfl (l' := #[.val (.ref a), .val (.int (0 : Int32)), .val (.int (Int32.ofNat n)), .val (.ref a1), .val (.int (Int32.ofNat n)), .unset]) (pc' := 14) ?_
  refine siload X4 hx (hb hby d6_14) rfl rfl (pc' := 16) ?_
  refine siloadN X4 hx (hb hby d6_16) rfl rfl (pc' := 17) ?_
  refine sicY X4 hx (hb hby d6_17) (by decide) (by decide) (teq (rfl : (Int32.ofNat n) = (Int32.ofNat n))).1 (pc' := 57) ?_
  refine saloadN X4 hx (hb hby d6_57) rfl rfl rfl (pc' := 58) ?_
  have kp6 : Keep h0 T4.heap [] := (((Keep.refl h0 []).ext E1).trans K4 (allS (Or.inr (by omega)) all0))
  refine oRetR X4 hx Bd.notSynchronized Bd.returns rfl rfl (hb hby d6_58) (by decide) (by decide) ?_
  show Q_rmCmp3 Z a n f h0 n0 _ T4.heap _
  exact ⟨a1, rfl, N4, kp6, by omega, Vd4⟩
theorem own_n0 {n : Nat} (h : n < 2147483648) (q : 0 < n) : ¬ Int32.ofNat n = (0 : Int32) := fun e => by
  have e1 : (Int32.ofNat n).toInt = (0 : Int32).toInt := by rw [e]
  rw [own_ofNat h] at e1; have e0 : (0 : Int32).toInt = 0 := rfl; omega
theorem d4_0 : decode jdk_42_method_149_code 0 = .ok (.aload_n 0, 1) := by decide +kernel
theorem d4_1 : decode jdk_42_method_149_code 1 = .ok (.invokespecial 1, 3) := by decide +kernel
theorem d4_4 : decode jdk_42_method_149_code 4 = .ok (.iload_n 3, 1) := by decide +kernel
theorem d4_5 : decode jdk_42_method_149_code 5 = .ok (.ifCond .ne 22, 3) := by decide +kernel
theorem d4_27 : decode jdk_42_method_149_code 27 = .ok (.getstatic 38, 3) := by decide +kernel
theorem d4_30 : decode jdk_42_method_149_code 30 = .ok (.ifCond .eq 28, 3) := by decide +kernel
theorem d4_33 : decode jdk_42_method_149_code 33 = .ok (.aload_n 1, 1) := by decide +kernel
theorem d4_34 : decode jdk_42_method_149_code 34 = .ok (.iload_n 2, 1) := by decide +kernel
theorem d4_35 : decode jdk_42_method_149_code 35 = .ok (.iload_n 3, 1) := by decide +kernel
theorem d4_36 : decode jdk_42_method_149_code 36 = .ok (.invokestatic 177, 3) := by decide +kernel
theorem pd_1 : parseMethodDescriptor "([CII)[B" = some ⟨[(.array .char), .int, .int], some (.array .byte)⟩ := by decide +kernel
theorem d4_39 : decode jdk_42_method_149_code 39 = .ok (.astore 5, 2) := by decide +kernel
theorem d4_41 : decode jdk_42_method_149_code 41 = .ok (.aload_n 0, 1) := by decide +kernel
theorem d4_42 : decode jdk_42_method_149_code 42 = .ok (.aload 5, 2) := by decide +kernel
theorem d4_44 : decode jdk_42_method_149_code 44 = .ok (.iload_n 3, 1) := by decide +kernel
theorem d4_45 : decode jdk_42_method_149_code 45 = .ok (.invokestatic 47, 3) := by decide +kernel
theorem pd_2 : parseMethodDescriptor "([BI)B" = some ⟨[(.array .byte), .int], some .byte⟩ := by decide +kernel
theorem d4_48 : decode jdk_42_method_149_code 48 = .ok (.putfield 15, 3) := by decide +kernel
theorem d4_51 : decode jdk_42_method_149_code 51 = .ok (.aload_n 0, 1) := by decide +kernel
theorem d4_52 : decode jdk_42_method_149_code 52 = .ok (.aload 5, 2) := by decide +kernel
theorem d4_54 : decode jdk_42_method_149_code 54 = .ok (.putfield 9, 3) := by decide +kernel
theorem d4_57 : decode jdk_42_method_149_code 57 = .ok (.return_, 1) := by decide +kernel
theorem pn_String : plainName "java/lang/String" = true := by first | (simp [plainName, overriddenIn]; done) | decide +kernel
theorem ef_rmStr4 (m : MethodId) (x0 : Nat) (x1 : Nat) (x2 : Int32) (x3 : Int32)  : entryFrame m #[(.ref x0), (.ref x1), (.int x2), (.int x3), .null] 6 = mkF m 0 #[.val (.ref x0), .val (.ref x1), .val (.int x2), .val (.int x3), .val .null, .unset] [] := by first | (simp [entryFrame, mkF, argsToLocals, Value.category, maxLocals]; done) | rfl
def Q_rmStr4 (Z : State) (x a n : Nat) (f : Nat → Int32) (cz : Int32) (h0 : Heap) (n0 : Nat) (vv : Option Value) (h : Heap) (L : List Loc) : Prop := ∃ b : Nat, vv = none ∧ Fr n0 L ∧ Keep h0 h [x] ∧ h0.size ≤ b ∧ Exa Z h x "java/lang/String" ∧ Fld Z h x "java/lang/String" "value" "[B" (.ref b) ∧ Fld Z h x "java/lang/String" "coder" "B" (.int 0) ∧ oAI Z h b .byte n (oLo f)
set_option maxRecDepth 65536 in
set_option maxHeartbeats 40000000 in
theorem rmStr4 (l : Launch) (Z : State) (a0 : Array Value) (hw : ∀ d ∈ tables_1, d.before a0 Z = true) (ws : List Jvm.Cond) (x a n : Nat) (f : Nat → Int32) (cz : Int32) (h0 : Heap) (n0 : Nat) (Z0 : n0 ≤ h0.size) (PV : oAI Z h0 a .char n f) (hcap : n ≤ 2) (hpos : 0 < n) (hl : ∀ j : Nat, j < n → ¬ (255 : Int32) < f j) (hxa : x ≠ a) (E0 : Exa Z h0 x "java/lang/String") (F0 : Fld Z h0 x "java/lang/String" "value" "[B" .null) (F1 : Fld Z h0 x "java/lang/String" "coder" "B" (.int 0)) (gx : n0 ≤ x) (O0 : Old Z n0 h0) (SCS : Sta Z Z.heap "java/lang/String" "COMPACT_STRINGS" "Z" (.int cz)) (hcz : ¬ cz = (0 : Int32)) :
    MetFree l (⟨"java/lang/String", "<init>", "([CIILjava/lang/Void;)V"⟩ : MethodName) (head1 (Jvm.Cond.code (⟨"java/lang/String", "<init>", "([CIILjava/lang/Void;)V"⟩ : MethodName) jdk_42_method_149_code 6 (none : Option FieldType) :: ws) ({ frames := 2, cells := 1, slots := 2, locals := 35 } : Room)) (fun aA uU => aA = #[(.ref x), (.ref a), (.int (0 : Int32)), (.int (Int32.ofNat n)), .null] ∧ Z.Warmed39 uU.vm ∧ uU.heap = h0) (fun _ _ _ _ _ => True) (fun _ uU oO uU' => ∃ vV lL, oO = .returned vV ∧ Q_rmStr4 Z x a n f cz h0 n0 vV uU'.heap lL ∧ FrameEnd uU oO uU' lL ({ frames := 2, cells := 1, slots := 2, locals := 35 } : Room).cells ({ frames := 2, cells := 1, slots := 2, locals := 35 } : Room).slots) := by
  refine MetFree.of_bodySF (plainFor_of_name pn_String) hisR ?_
  intro p e s m args below meth c s₁ Bd hml0 hP hK
  obtain ⟨rfl, hZ, hh⟩ := hP
  have hx := Bd.exec
  have hby := Bd.bytes
  have hml : c.maxLocals = 6 := hml0
  have hown : s.vm.findClass "java/lang/String" = some m.cls := findClass_of_methodNamed Bd.named
  have hnm := (name_of_methodNamed Bd.named Bd.method).1
  have X0 : Stand p l e ({ frames := 2, cells := 1, slots := 2, locals := 35 } : Room) s m #[(.ref x), (.ref a), (.int (0 : Int32)), (.int (Int32.ofNat n)), .null] below meth c s₁ [] 0 0 := Stand.of_body Bd
  have e0 : s₁.heap = h0 := by rw [← hh, Bd.state]; rfl
  have N0 := Fr.nil n0
  have lX : @LT.lt Nat _ x h0.size := E0.lt
  have lA : @LT.lt Nat _ a h0.size := PV.lt
  have hn9 := PV.small
  refine oEnter (oCast (ef_rmStr4 m x a (0 : Int32) (Int32.ofNat n) ) ?_)
  show oGl p e below (s₁.setTop (mkF m 0 #[.val (.ref x), .val (.ref a), .val (.int (0 : Int32)), .val (.int (Int32.ofNat n)), .val .null, .unset] [])) _
  refine saloadN X0 hx (hb hby d4_0) rfl rfl rfl (pc' := 1) ?_
  obtain ⟨T1, X1, e1, st1⟩ := initO X0 hx hZ hown (hw _ (List.mem_of_getElem? (i := 27) rfl)) (hw _ (List.mem_of_getElem? (i := 28) rfl)) (hw _ (List.mem_of_getElem? (i := 29) rfl)) e0 (g := (mkF m 1 #[.val (.ref x), .val (.ref a), .val (.int (0 : Int32)), .val (.int (Int32.ofNat n)), .val .null, .unset] [(.ref x)])) rfl (by rw [hml]; rfl) rfl (hb hby d4_1) (by decide) (W := 0) (by show 2 * 0 + _ ≤ _; exact Nat.le_of_eq rfl) (by decide)
  refine oOn st1 ?_
  show oGl p e below (T1.setTop (mkF m 4 #[.val (.ref x), .val (.ref a), .val (.int (0 : Int32)), .val (.int (Int32.ofNat n)), .val .null, .unset] [])) _
  refine siloadN X1 hx (hb hby d4_4) rfl rfl (pc' := 5) ?_
  refine sifY X1 hx (hb hby d4_5) (by decide) (by decide) (feq (own_n0 hn9 hpos : ¬ ((Int32.ofNat n) = (0 : Int32)))).2 (pc' := 27) ?_
  obtain ⟨T2, X2, e2, st2⟩ := getS2 X1 hx hZ hown (host := "") (Or.inl (hw _ (List.mem_of_getElem? (i := 30) rfl))) Via.refl e1 (SCS.ext O0.2) (g := (mkF m 27 #[.val (.ref x), .val (.ref a), .val (.int (0 : Int32)), .val (.int (Int32.ofNat n)), .val .null, .unset] [])) rfl (hb hby d4_27)
  refine oOn st2 ?_
  show oGl p e below (T2.setTop (mkF m 30 #[.val (.ref x), .val (.ref a), .val (.int (0 : Int32)), .val (.int (Int32.ofNat n)), .val .null, .unset] [(.int cz)])) _
  refine sifN X2 hx (hb hby d4_30) rfl (feq (hcz : ¬ (cz = (0 : Int32)))).1 (pc' := 33) ?_
  refine saloadN X2 hx (hb hby d4_33) rfl rfl rfl (pc' := 34) ?_
  refine siloadN X2 hx (hb hby d4_34) rfl rfl (pc' := 35) ?_
  refine siloadN X2 hx (hb hby d4_35) rfl rfl (pc' := 36) ?_
  have hz3 : n0 ≤ h0.size := by omega
  obtain ⟨_, _, ⟨T3, L3, k3, n3⟩, -, X3, ⟨Lc3, hQ3, l3, y3, z3⟩, st3⟩ := Jvm.LawKit.callS X2 hx (y := (⟨"java/lang/StringUTF16", "compress", "([CII)[B"⟩ : MethodName)) hown (mvT hZ (hw _ (List.mem_of_getElem? (i := 31) rfl))) (mvT hZ (hw _ (List.mem_of_getElem? (i := 32) rfl))) (mvT hZ (hw _ (List.mem_of_getElem? (i := 33) rfl))) (mvT hZ (hw _ (List.mem_of_getElem? (i := 34) rfl))) (by decide) (backOf (W := 0) (rmCmp3 l Z a0 hw [] a n f h0 n0 hz3 PV hcap hl) hZ (hw _ (List.mem_of_getElem? (i := 34) rfl)) (hw _ (List.mem_of_getElem? (i := 33) rfl)) (by decide) (by decide)) (g := (mkF m 36 #[.val (.ref x), .val (.ref a), .val (.int (0 : Int32)), .val (.int (Int32.ofNat n)), .val .null, .unset] [(.int (Int32.ofNat n)), (.int (0 : Int32)), (.ref a)])) rfl (by rw [hml]; rfl) (argsL := [(.ref a), (.int (0 : Int32)), (.int (Int32.ofNat n))]) (rest := []) (lenOf pd_1 rfl) rfl (by show 2 * 0 + _ ≤ _; exact Nat.le_of_eq rfl) (hb hby d4_36) (fun _ _ => ⟨rfl, e2, (by decide : 0 + 1 ≤ _), (by decide : 0 + 2 ≤ _)⟩)
  dsimp only [Pt.U, Pt.locs, Pt.cells, Pt.slots] at X3 l3 y3 z3 st3 hQ3
  subst l3 y3 z3
  obtain ⟨d3, rfl, N3q, K3, zd3, Vd3⟩ := hQ3
  have N3 := Fr.app N0 N3q
  have z4 : h0.size ≤ T3.heap.size := K3.1
  refine oOn st3 ?_
  have ld3 : @LT.lt Nat _ d3 T3.heap.size := Vd3.lt
  show oGl p e below (T3.setTop (mkF m 39 #[.val (.ref x), .val (.ref a), .val (.int (0 : Int32)), .val (.int (Int32.ofNat n)), .val .null, .unset] [(.ref d3)])) _
  refine sastore X3 hx (hb hby d4_39) rfl rfl rfl (l' := #[.val (.ref x), .val (.ref a), .val (.int (0 : Int32)), .val (.int (Int32.ofNat n)), .val .null, .val (.ref d3)]) (pc' := 41) ?_
  refine saloadN X3 hx (hb hby d4_41) rfl rfl rfl (pc' := 42) ?_
  refine saload X3 hx (hb hby d4_42) rfl rfl rfl (pc' := 44) ?_
  refine siloadN X3 hx (hb hby d4_44) rfl rfl (pc' := 45) ?_
  have hz5 : n0 ≤ T3.heap.size := by omega
  obtain ⟨_, _, ⟨T5, L5, k5, n5⟩, -, X5, ⟨Lc5, hQ5, l5, y5, z5⟩, st5⟩ := Jvm.LawKit.callS X3 hx (y := (⟨"java/lang/StringUTF16", "coderFromArrayLen", "([BI)B"⟩ : MethodName)) hown (mvT hZ (hw _ (List.mem_of_getElem? (i := 39) rfl))) (mvT hZ (hw _ (List.mem_of_getElem? (i := 40) rfl))) (mvT hZ (hw _ (List.mem_of_getElem? (i := 33) rfl))) (mvT hZ (hw _ (List.mem_of_getElem? (i := 41) rfl))) (by decide) (backOf (W := 1) (rmCod l Z a0 hw [] d3 n (oLo f) T3.heap n0 hz5 Vd3) hZ (hw _ (List.mem_of_getElem? (i := 41) rfl)) (hw _ (List.mem_of_getElem? (i := 33) rfl)) (by decide) (by decide)) (g := (mkF m 45 #[.val (.ref x), .val (.ref a), .val (.int (0 : Int32)), .val (.int (Int32.ofNat n)), .val .null, .val (.ref d3)] [(.int (Int32.ofNat n)), (.ref d3), (.ref x)])) rfl (by rw [hml]; rfl) (argsL := [(.ref d3), (.int (Int32.ofNat n))]) (rest := [(.ref x)]) (lenOf pd_2 rfl) rfl (by show 2 * 0 + _ ≤ _; exact Nat.le_of_eq rfl) (hb hby d4_45) (fun _ _ => ⟨rfl, rfl, (by decide : 1 + 0 ≤ _), (by decide : 2 + 0 ≤ _)⟩)
  dsimp only [Pt.U, Pt.locs, Pt.cells, Pt.slots] at X5 l5 y5 z5 st5 hQ5
  subst l5 y5 z5
  obtain ⟨rfl, N5q, eh5⟩ := hQ5
  have N5 := Fr.app N3 N5q
  refine oOn st5 ?_
  show oGl p e below (T5.setTop (mkF m 48 #[.val (.ref x), .val (.ref a), .val (.int (0 : Int32)), .val (.int (Int32.ofNat n)), .val .null, .val (.ref d3)] [(.int (0 : Int32)), (.ref x)])) _
  have f7 := (F1.keep K3 nin0)
  have f8 := (E0.keep K3)
  obtain ⟨T6, h6, X6, e6, W6, st6⟩ := putFN X5 hx hZ hown (hw _ (List.mem_of_getElem? (i := 42) rfl)) Via.refl eh5 f7 f8 (Or.inr ⟨(hw _ (List.mem_of_getElem? (i := 43) rfl)), rfl, hnm⟩) (hw _ (List.mem_of_getElem? (i := 18) rfl)) (ty := .byte) (v' := (.int (0 : Int32))) (by decide) rfl rfl (g := (mkF m 48 #[.val (.ref x), .val (.ref a), .val (.int (0 : Int32)), .val (.int (Int32.ofNat n)), .val .null, .val (.ref d3)] [(.int (0 : Int32)), (.ref x)])) rfl rfl (hb hby d4_48)
  refine oOn st6 ?_
  have z9 : T3.heap.size ≤ h6.size := Nat.le_of_eq W6.size.symm
  have N6 := Fr.snoc X6 N5 (by omega)
  have f6 := Fld.same W6 f7
  show oGl p e below (T6.setTop (mkF m 51 #[.val (.ref x), .val (.ref a), .val (.int (0 : Int32)), .val (.int (Int32.ofNat n)), .val .null, .val (.ref d3)] [])) _
  refine saloadN X6 hx (hb hby d4_51) rfl rfl rfl (pc' := 52) ?_
  refine saload X6 hx (hb hby d4_52) rfl rfl rfl (pc' := 54) ?_
  have f11 := ((F0.keep K3 nin0).other W6 (Or.inr (slot_ne (Or.inr (hw _ (List.mem_of_getElem? (i := 45) rfl))) (Or.inr (hw _ (List.mem_of_getElem? (i := 43) rfl))) (by decide) (t := (.array .byte)) (t' := .byte) (by decide) (by decide))))
  have f12 := (f8.wr W6)
  obtain ⟨T10, h10, X10, e10, W10, st10⟩ := putF X6 hx hZ hown (host := "") (Or.inl (hw _ (List.mem_of_getElem? (i := 44) rfl))) Via.refl e6 f11 f12 (Or.inr ⟨(hw _ (List.mem_of_getElem? (i := 45) rfl)), rfl, hnm⟩) (hw _ (List.mem_of_getElem? (i := 18) rfl)) (ty := (.array .byte)) (by decide) rfl rfl (g := (mkF m 54 #[.val (.ref x), .val (.ref a), .val (.int (0 : Int32)), .val (.int (Int32.ofNat n)), .val .null, .val (.ref d3)] [(.ref d3), (.ref x)])) rfl rfl (hb hby d4_54)
  refine oOn st10 ?_
  have z13 : h6.size ≤ h10.size := Nat.le_of_eq W10.size.symm
  have N10 := Fr.snoc X10 N6 (by omega)
  have f10 := Fld.same W10 f11
  show oGl p e below (T10.setTop (mkF m 57 #[.val (.ref x), .val (.ref a), .val (.int (0 : Int32)), .val (.int (Int32.ofNat n)), .val .null, .val (.ref d3)] [])) _
  have kp14 : Keep h0 h10 [x] := ((((Keep.refl h0 [x]).trans K3 all0).wr W6 (Or.inl (List.mem_of_getElem? (i := 0) rfl))).wr W10 (Or.inl (List.mem_of_getElem? (i := 0) rfl)))
  have f15 := (f12.wr W10)
  have f16 := (f6.other W10 (Or.inr (slot_ne (Or.inr (hw _ (List.mem_of_getElem? (i := 43) rfl))) (Or.inr (hw _ (List.mem_of_getElem? (i := 45) rfl))) (by decide) (t := .byte) (t' := (.array .byte)) (by decide) (by decide))))
  have f17 := ((Vd3.other W6 (oNe (by omega))).other W10 (oNe (by omega)))
  refine oRet0 X10 hx Bd.notSynchronized Bd.returns (hb hby d4_57) (by decide) (by decide) ?_
  show Q_rmStr4 Z x a n f cz h0 n0 _ T10.heap _
  rw [e10]
  exact ⟨d3, rfl, N10, kp14, by omega, f15, f10, f16, f17⟩
theorem d3_0 : decode jdk_42_method_3_code 0 = .ok (.aload_n 0, 1) := by decide +kernel
theorem d3_1 : decode jdk_42_method_3_code 1 = .ok (.aload_n 1, 1) := by decide +kernel
theorem d3_2 : decode jdk_42_method_3_code 2 = .ok (.iconst 0, 1) := by decide +kernel
theorem d3_3 : decode jdk_42_method_3_code 3 = .ok (.aload_n 1, 1) := by decide +kernel
theorem d3_4 : decode jdk_42_method_3_code 4 = .ok (.arraylength, 1) := by decide +kernel
theorem d3_5 : decode jdk_42_method_3_code 5 = .ok (.aconst_null, 1) := by decide +kernel
theorem d3_6 : decode jdk_42_method_3_code 6 = .ok (.invokespecial 27, 3) := by decide +kernel
theorem pd_3 : parseMethodDescriptor "([CIILjava/lang/Void;)V" = some ⟨[(.array .char), .int, .int, (.object "java/lang/Void")], none⟩ := by decide +kernel
theorem d3_9 : decode jdk_42_method_3_code 9 = .ok (.return_, 1) := by decide +kernel
theorem ef_rmStr (m : MethodId) (x0 : Nat) (x1 : Nat)  : entryFrame m #[(.ref x0), (.ref x1)] 2 = mkF m 0 #[.val (.ref x0), .val (.ref x1)] [] := by first | (simp [entryFrame, mkF, argsToLocals, Value.category, maxLocals]; done) | rfl
def Q_rmStr (Z : State) (x a n : Nat) (f : Nat → Int32) (cz : Int32) (h0 : Heap) (n0 : Nat) (vv : Option Value) (h : Heap) (L : List Loc) : Prop := ∃ b : Nat, vv = none ∧ Fr n0 L ∧ Keep h0 h [x] ∧ h0.size ≤ b ∧ Exa Z h x "java/lang/String" ∧ Fld Z h x "java/lang/String" "value" "[B" (.ref b) ∧ Fld Z h x "java/lang/String" "coder" "B" (.int 0) ∧ oAI Z h b .byte n (oLo f)
set_option maxRecDepth 65536 in
set_option maxHeartbeats 40000000 in
theorem rmStr (l : Launch) (Z : State) (a0 : Array Value) (hw : ∀ d ∈ tables_1, d.before a0 Z = true) (ws : List Jvm.Cond) (x a n : Nat) (f : Nat → Int32) (cz : Int32) (h0 : Heap) (n0 : Nat) (Z0 : n0 ≤ h0.size) (PV : oAI Z h0 a .char n f) (hcap : n ≤ 2) (hpos : 0 < n) (hl : ∀ j : Nat, j < n → ¬ (255 : Int32) < f j) (hxa : x ≠ a) (E0 : Exa Z h0 x "java/lang/String") (F0 : Fld Z h0 x "java/lang/String" "value" "[B" .null) (F1 : Fld Z h0 x "java/lang/String" "coder" "B" (.int 0)) (gx : n0 ≤ x) (O0 : Old Z n0 h0) (SCS : Sta Z Z.heap "java/lang/String" "COMPACT_STRINGS" "Z" (.int cz)) (hcz : ¬ cz = (0 : Int32)) :
    MetFree l (⟨"java/lang/String", "<init>", "([C)V"⟩ : MethodName) (head1 (Jvm.Cond.code (⟨"java/lang/String", "<init>", "([C)V"⟩ : MethodName) jdk_42_method_3_code 2 (none : Option FieldType) :: ws) ({ frames := 3, cells := 1, slots := 2, locals := 52 } : Room)) (fun aA uU => aA = #[(.ref x), (.ref a)] ∧ Z.Warmed39 uU.vm ∧ uU.heap = h0) (fun _ _ _ _ _ => True) (fun _ uU oO uU' => ∃ vV lL, oO = .returned vV ∧ Q_rmStr Z x a n f cz h0 n0 vV uU'.heap lL ∧ FrameEnd uU oO uU' lL ({ frames := 3, cells := 1, slots := 2, locals := 52 } : Room).cells ({ frames := 3, cells := 1, slots := 2, locals := 52 } : Room).slots) := by
  refine MetFree.of_bodySF (plainFor_of_name pn_String) hisR ?_
  intro p e s m args below meth c s₁ Bd hml0 hP hK
  obtain ⟨rfl, hZ, hh⟩ := hP
  have hx := Bd.exec
  have hby := Bd.bytes
  have hml : c.maxLocals = 2 := hml0
  have hown : s.vm.findClass "java/lang/String" = some m.cls := findClass_of_methodNamed Bd.named
  have hnm := (name_of_methodNamed Bd.named Bd.method).1
  have X0 : Stand p l e ({ frames := 3, cells := 1, slots := 2, locals := 52 } : Room) s m #[(.ref x), (.ref a)] below meth c s₁ [] 0 0 := Stand.of_body Bd
  have e0 : s₁.heap = h0 := by rw [← hh, Bd.state]; rfl
  have N0 := Fr.nil n0
  refine oEnter (oCast (ef_rmStr m x a ) ?_)
  show oGl p e below (s₁.setTop (mkF m 0 #[.val (.ref x), .val (.ref a)] [])) _
  refine saloadN X0 hx (hb hby d3_0) rfl rfl rfl (pc' := 1) ?_
  refine saloadN X0 hx (hb hby d3_1) rfl rfl rfl (pc' := 2) ?_
  refine siconst X0 hx (hb hby d3_2) rfl rfl (z := 0) (pc' := 3) ?_
  refine saloadN X0 hx (hb hby d3_3) rfl rfl rfl (pc' := 4) ?_
  refine oOn (PV.len X0 hx hZ e0 (g := (mkF m 4 #[.val (.ref x), .val (.ref a)] [(.ref a), (.int (0 : Int32)), (.ref a), (.ref x)])) rfl rfl (hb hby d3_4)) ?_
  show oGl p e below (s₁.setTop (mkF m 5 #[.val (.ref x), .val (.ref a)] [(.int (Int32.ofNat n)), (.int (0 : Int32)), (.ref a), (.ref x)])) _
  refine saconst_null X0 hx (hb hby d3_5) rfl  (pc' := 6) ?_
  have hz1 : n0 ≤ h0.size := by omega
  obtain ⟨_, _, ⟨T1, L1, k1, n1⟩, -, X1, ⟨Lc1, hQ1, l1, y1, z1⟩, st1⟩ := X0.specialBack hx (y := (⟨"java/lang/String", "<init>", "([CIILjava/lang/Void;)V"⟩ : MethodName)) rfl hown (mvT hZ (hw _ (List.mem_of_getElem? (i := 23) rfl))) (mvT hZ (hw _ (List.mem_of_getElem? (i := 24) rfl))) (mvT hZ (hw _ (List.mem_of_getElem? (i := 26) rfl))) (by decide) (backOf (W := 0) (rmStr4 l Z a0 hw [] x a n f cz h0 n0 hz1 PV hcap hpos hl hxa E0 F0 F1 gx O0 SCS hcz) hZ (hw _ (List.mem_of_getElem? (i := 26) rfl)) (hw _ (List.mem_of_getElem? (i := 19) rfl)) (by decide) (by decide)) (g := (mkF m 6 #[.val (.ref x), .val (.ref a)] [.null, (.int (Int32.ofNat n)), (.int (0 : Int32)), (.ref a), (.ref x)])) rfl (by rw [hml]; rfl) (Steps.refl _) (a := x) (argsL := [(.ref a), (.int (0 : Int32)), (.int (Int32.ofNat n)), .null]) (rest := []) (lenOf pd_3 rfl) rfl (by show 2 * 0 + _ ≤ _; exact Nat.le_of_eq rfl) (hb hby d3_6) (fun _ _ => ⟨rfl, e0, (by decide : 0 + 1 ≤ _), (by decide : 0 + 2 ≤ _)⟩)
  dsimp only [Pt.U, Pt.locs, Pt.cells, Pt.slots] at X1 l1 y1 z1 st1 hQ1
  subst l1 y1 z1
  obtain ⟨b1, rfl, N1q, K1, zb1, Ex1, Fv1, Fc1, Vb1⟩ := hQ1
  have N1 := Fr.app N0 N1q
  have z2 : h0.size ≤ T1.heap.size := K1.1
  refine oSt st1 ?_
  show oGl p e below (T1.setTop (mkF m 9 #[.val (.ref x), .val (.ref a)] [])) _
  have kp3 : Keep h0 T1.heap [x] := ((Keep.refl h0 [x]).trans K1 (allS (Or.inl (List.mem_of_getElem? (i := 0) rfl)) all0))
  refine oRet0 X1 hx Bd.notSynchronized Bd.returns (hb hby d3_9) (by decide) (by decide) ?_
  show Q_rmStr Z x a n f cz h0 n0 _ T1.heap _
  exact ⟨b1, rfl, N1, kp3, by omega, Ex1, Fv1, Fc1, Vb1⟩
theorem d1_0 : decode method_3_code 0 = .ok (.iload_n 0, 1) := by decide +kernel
theorem d1_1 : decode method_3_code 1 = .ok (.ldc 7, 2) := by decide +kernel
theorem d1_3 : decode method_3_code 3 = .ok (.iand, 1) := by decide +kernel
theorem d1_4 : decode method_3_code 4 = .ok (.bipush 7, 2) := by decide +kernel
theorem d1_6 : decode method_3_code 6 = .ok (.irem, 1) := by decide +kernel
theorem d1_7 : decode method_3_code 7 = .ok (.istore_n 1, 1) := by decide +kernel
theorem d1_8 : decode method_3_code 8 = .ok (.iload_n 1, 1) := by decide +kernel
theorem d1_9 : decode method_3_code 9 = .ok (.ifCond .ne 7, 3) := by decide +kernel
theorem d1_12 : decode method_3_code 12 = .ok (.getstatic 26, 3) := by decide +kernel
theorem d1_15 : decode method_3_code 15 = .ok (.areturn, 1) := by decide +kernel
theorem d1_16 : decode method_3_code 16 = .ok (.iload_n 1, 1) := by decide +kernel
theorem d1_17 : decode method_3_code 17 = .ok (.iconst 1, 1) := by decide +kernel
theorem d1_18 : decode method_3_code 18 = .ok (.if_icmp .ne 7, 3) := by decide +kernel
theorem d1_21 : decode method_3_code 21 = .ok (.getstatic 32, 3) := by decide +kernel
theorem d1_24 : decode method_3_code 24 = .ok (.areturn, 1) := by decide +kernel
theorem d1_25 : decode method_3_code 25 = .ok (.iload_n 1, 1) := by decide +kernel
theorem d1_26 : decode method_3_code 26 = .ok (.iconst 2, 1) := by decide +kernel
theorem d1_27 : decode method_3_code 27 = .ok (.if_icmp .ne 7, 3) := by decide +kernel
theorem d1_30 : decode method_3_code 30 = .ok (.getstatic 35, 3) := by decide +kernel
theorem d1_33 : decode method_3_code 33 = .ok (.areturn, 1) := by decide +kernel
theorem d1_34 : decode method_3_code 34 = .ok (.iload_n 1, 1) := by decide +kernel
theorem d1_35 : decode method_3_code 35 = .ok (.iconst 3, 1) := by decide +kernel
theorem d1_36 : decode method_3_code 36 = .ok (.if_icmp .ne 7, 3) := by decide +kernel
theorem d1_39 : decode method_3_code 39 = .ok (.getstatic 38, 3) := by decide +kernel
theorem d1_42 : decode method_3_code 42 = .ok (.areturn, 1) := by decide +kernel
theorem d1_43 : decode method_3_code 43 = .ok (.iload_n 1, 1) := by decide +kernel
theorem d1_44 : decode method_3_code 44 = .ok (.iconst 4, 1) := by decide +kernel
theorem d1_45 : decode method_3_code 45 = .ok (.if_icmp .ne 7, 3) := by decide +kernel
theorem d1_48 : decode method_3_code 48 = .ok (.getstatic 41, 3) := by decide +kernel
theorem d1_51 : decode method_3_code 51 = .ok (.areturn, 1) := by decide +kernel
theorem d1_52 : decode method_3_code 52 = .ok (.iload_n 1, 1) := by decide +kernel
theorem d1_53 : decode method_3_code 53 = .ok (.iconst 5, 1) := by decide +kernel
theorem d1_54 : decode method_3_code 54 = .ok (.if_icmp .ne 7, 3) := by decide +kernel
theorem d1_57 : decode method_3_code 57 = .ok (.getstatic 44, 3) := by decide +kernel
theorem d1_60 : decode method_3_code 60 = .ok (.areturn, 1) := by decide +kernel
theorem d1_61 : decode method_3_code 61 = .ok (.getstatic 47, 3) := by decide +kernel
theorem d1_64 : decode method_3_code 64 = .ok (.areturn, 1) := by decide +kernel
theorem pn_TransactionDefinitionWithIsolationPinLaw : plainName "com/example/demarc/demarc/TransactionDefinitionWithIsolationPinLaw" = true := by first | (simp [plainName, overriddenIn]; done) | decide +kernel
theorem ef_rmProp (m : MethodId) (x0 : Int32)  : entryFrame m #[(.int x0)] 2 = mkF m 0 #[.val (.int x0), .unset] [] := by first | (simp [entryFrame, mkF, argsToLocals, Value.category, maxLocals]; done) | rfl
def Q_rmProp (Z : State) (i : Int32) (sREQUIRED : Nat) (sREPEATABLE_READ : Nat) (sREAD_COMMITTED : Nat) (sNOT_SUPPORTED : Nat) (sDEFAULT : Nat) (sMANDATORY : Nat) (sSERIALIZABLE : Nat) (sREAD_UNCOMMITTED : Nat) (sSUPPORTS : Nat) (sREQUIRES_NEW : Nat) (sNESTED : Nat) (sNEVER : Nat) (h0 : Heap) (n0 : Nat) (vv : Option Value) (h : Heap) (L : List Loc) : Prop := ∃ r : Nat, vv = some (.ref r) ∧ Fr n0 L ∧ h = h0
set_option maxRecDepth 65536 in
set_option maxHeartbeats 40000000 in
theorem rmProp (l : Launch) (Z : State) (a0 : Array Value) (hw : ∀ d ∈ tables_1, d.before a0 Z = true) (ws : List Jvm.Cond) (i : Int32) (sREQUIRED : Nat) (sREPEATABLE_READ : Nat) (sREAD_COMMITTED : Nat) (sNOT_SUPPORTED : Nat) (sDEFAULT : Nat) (sMANDATORY : Nat) (sSERIALIZABLE : Nat) (sREAD_UNCOMMITTED : Nat) (sSUPPORTS : Nat) (sREQUIRES_NEW : Nat) (sNESTED : Nat) (sNEVER : Nat) (h0 : Heap) (n0 : Nat) (Z0 : n0 ≤ h0.size) (O0 : Old Z n0 h0) (SsREQUIRED : Sta Z Z.heap "com/example/demarc/demarc/Propagation" "REQUIRED" "Lcom/example/demarc/demarc/Propagation;" (.ref sREQUIRED)) (EsREQUIRED : Exa Z Z.heap sREQUIRED "com/example/demarc/demarc/Propagation") (SsREPEATABLE_READ : Sta Z Z.heap "com/example/demarc/demarc/Isolation" "REPEATABLE_READ" "Lcom/example/demarc/demarc/Isolation;" (.ref sREPEATABLE_READ)) (EsREPEATABLE_READ : Exa Z Z.heap sREPEATABLE_READ "com/example/demarc/demarc/Isolation") (SsREAD_COMMITTED : Sta Z Z.heap "com/example/demarc/demarc/Isolation" "READ_COMMITTED" "Lcom/example/demarc/demarc/Isolation;" (.ref sREAD_COMMITTED)) (EsREAD_COMMITTED : Exa Z Z.heap sREAD_COMMITTED "com/example/demarc/demarc/Isolation") (SsNOT_SUPPORTED : Sta Z Z.heap "com/example/demarc/demarc/Propagation" "NOT_SUPPORTED" "Lcom/example/demarc/demarc/Propagation;" (.ref sNOT_SUPPORTED)) (EsNOT_SUPPORTED : Exa Z Z.heap sNOT_SUPPORTED "com/example/demarc/demarc/Propagation") (SsDEFAULT : Sta Z Z.heap "com/example/demarc/demarc/Isolation" "DEFAULT" "Lcom/example/demarc/demarc/Isolation;" (.ref sDEFAULT)) (EsDEFAULT : Exa Z Z.heap sDEFAULT "com/example/demarc/demarc/Isolation") (SsMANDATORY : Sta Z Z.heap "com/example/demarc/demarc/Propagation" "MANDATORY" "Lcom/example/demarc/demarc/Propagation;" (.ref sMANDATORY)) (EsMANDATORY : Exa Z Z.heap sMANDATORY "com/example/demarc/demarc/Propagation") (SsSERIALIZABLE : Sta Z Z.heap "com/example/demarc/demarc/Isolation" "SERIALIZABLE" "Lcom/example/demarc/demarc/Isolation;" (.ref sSERIALIZABLE)) (EsSERIALIZABLE : Exa Z Z.heap sSERIALIZABLE "com/example/demarc/demarc/Isolation") (SsREAD_UNCOMMITTED : Sta Z Z.heap "com/example/demarc/demarc/Isolation" "READ_UNCOMMITTED" "Lcom/example/demarc/demarc/Isolation;" (.ref sREAD_UNCOMMITTED)) (EsREAD_UNCOMMITTED : Exa Z Z.heap sREAD_UNCOMMITTED "com/example/demarc/demarc/Isolation") (SsSUPPORTS : Sta Z Z.heap "com/example/demarc/demarc/Propagation" "SUPPORTS" "Lcom/example/demarc/demarc/Propagation;" (.ref sSUPPORTS)) (EsSUPPORTS : Exa Z Z.heap sSUPPORTS "com/example/demarc/demarc/Propagation") (SsREQUIRES_NEW : Sta Z Z.heap "com/example/demarc/demarc/Propagation" "REQUIRES_NEW" "Lcom/example/demarc/demarc/Propagation;" (.ref sREQUIRES_NEW)) (EsREQUIRES_NEW : Exa Z Z.heap sREQUIRES_NEW "com/example/demarc/demarc/Propagation") (SsNESTED : Sta Z Z.heap "com/example/demarc/demarc/Propagation" "NESTED" "Lcom/example/demarc/demarc/Propagation;" (.ref sNESTED)) (EsNESTED : Exa Z Z.heap sNESTED "com/example/demarc/demarc/Propagation") (SsNEVER : Sta Z Z.heap "com/example/demarc/demarc/Propagation" "NEVER" "Lcom/example/demarc/demarc/Propagation;" (.ref sNEVER)) (EsNEVER : Exa Z Z.heap sNEVER "com/example/demarc/demarc/Propagation") :
    MetFree l (⟨"com/example/demarc/demarc/TransactionDefinitionWithIsolationPinLaw", "prop", "(I)Lcom/example/demarc/demarc/Propagation;"⟩ : MethodName) (head1 (Jvm.Cond.code (⟨"com/example/demarc/demarc/TransactionDefinitionWithIsolationPinLaw", "prop", "(I)Lcom/example/demarc/demarc/Propagation;"⟩ : MethodName) method_3_code 2 (some (.object "com/example/demarc/demarc/Propagation")) :: ws) ({ frames := 0, cells := 0, slots := 0, locals := 0 } : Room)) (fun aA uU => aA = #[(.int i)] ∧ Z.Warmed39 uU.vm ∧ uU.heap = h0) (fun _ _ _ _ _ => True) (fun _ uU oO uU' => ∃ vV lL, oO = .returned vV ∧ Q_rmProp Z i sREQUIRED sREPEATABLE_READ sREAD_COMMITTED sNOT_SUPPORTED sDEFAULT sMANDATORY sSERIALIZABLE sREAD_UNCOMMITTED sSUPPORTS sREQUIRES_NEW sNESTED sNEVER h0 n0 vV uU'.heap lL ∧ FrameEnd uU oO uU' lL ({ frames := 0, cells := 0, slots := 0, locals := 0 } : Room).cells ({ frames := 0, cells := 0, slots := 0, locals := 0 } : Room).slots) := by
  refine MetFree.of_bodySF (plainFor_of_name pn_TransactionDefinitionWithIsolationPinLaw) hisR ?_
  intro p e s m args below meth c s₁ Bd hml0 hP hK
  obtain ⟨rfl, hZ, hh⟩ := hP
  have hx := Bd.exec
  have hby := Bd.bytes
  have hml : c.maxLocals = 2 := hml0
  have hown : s.vm.findClass "com/example/demarc/demarc/TransactionDefinitionWithIsolationPinLaw" = some m.cls := findClass_of_methodNamed Bd.named
  have hnm := (name_of_methodNamed Bd.named Bd.method).1
  have X0 : Stand p l e ({ frames := 0, cells := 0, slots := 0, locals := 0 } : Room) s m #[(.int i)] below meth c s₁ [] 0 0 := Stand.of_body Bd
  have e0 : s₁.heap = h0 := by rw [← hh, Bd.state]; rfl
  have N0 := Fr.nil n0
  refine oEnter (oCast (ef_rmProp m i ) ?_)
  show oGl p e below (s₁.setTop (mkF m 0 #[.val (.int i), .unset] [])) _
  refine siloadN X0 hx (hb hby d1_0) rfl rfl (pc' := 1) ?_
  refine oOn (X0.ldcInt hx hown (mvT hZ (hw _ (List.mem_of_getElem? (i := 4) rfl))) (g := (mkF m 1 #[.val (.int i), .unset] [(.int i)])) rfl (hb hby d1_1)) ?_
  show oGl p e below (s₁.setTop (mkF m 3 #[.val (.int i), .unset] [(.int (2147483647 : Int32)), (.int i)])) _
  refine siand X0 hx (hb hby d1_3) rfl rfl (pc' := 4) ?_
  refine sbipush X0 hx (hb hby d1_4) rfl rfl (z := 7) (pc' := 6) ?_
  refine sirem X0 hx (hb hby d1_6) rfl (by decide) rfl (pc' := 7) ?_
  refine sistoreN X0 hx (hb hby d1_7) rfl rfl (l' := #[.val (.int i), .val (.int ((i &&& (2147483647 : Int32)) % (7 : Int32)))]) (pc' := 8) ?_
  refine siloadN X0 hx (hb hby d1_8) rfl rfl (pc' := 9) ?_
  by_cases hc9 : ((i &&& (2147483647 : Int32)) % (7 : Int32)) = (0 : Int32)
  · skip
    refine sifN X0 hx (hb hby d1_9) rfl (teq hc9).2 (pc' := 12) ?_
    obtain ⟨T1, X1, e1, st1⟩ := getS2 X0 hx hZ hown (host := "") (Or.inl (hw _ (List.mem_of_getElem? (i := 5) rfl))) Via.refl e0 (SsREQUIRED.ext O0.2) (g := (mkF m 12 #[.val (.int i), .val (.int ((i &&& (2147483647 : Int32)) % (7 : Int32)))] [])) rfl (hb hby d1_12)
    refine oOn st1 ?_
    show oGl p e below (T1.setTop (mkF m 15 #[.val (.int i), .val (.int ((i &&& (2147483647 : Int32)) % (7 : Int32)))] [(.ref sREQUIRED)])) _
    refine oRetR X1 hx Bd.notSynchronized Bd.returns rfl rfl (hb hby d1_15) (by decide) (by decide) ?_
    show Q_rmProp Z i sREQUIRED sREPEATABLE_READ sREAD_COMMITTED sNOT_SUPPORTED sDEFAULT sMANDATORY sSERIALIZABLE sREAD_UNCOMMITTED sSUPPORTS sREQUIRES_NEW sNESTED sNEVER h0 n0 _ T1.heap _
    rw [e1]
    exact ⟨_, rfl, N0, rfl⟩
  · skip
    refine sifY X0 hx (hb hby d1_9) (by decide) (by decide) (feq hc9).2 (pc' := 16) ?_
    refine siloadN X0 hx (hb hby d1_16) rfl rfl (pc' := 17) ?_
    refine siconst X0 hx (hb hby d1_17) rfl rfl (z := 1) (pc' := 18) ?_
    by_cases hc18 : ((i &&& (2147483647 : Int32)) % (7 : Int32)) = (1 : Int32)
    · skip
      refine sicN X0 hx (hb hby d1_18) rfl (teq hc18).2 (pc' := 21) ?_
      obtain ⟨T2, X2, e2, st2⟩ := getS2 X0 hx hZ hown (host := "") (Or.inl (hw _ (List.mem_of_getElem? (i := 126) rfl))) Via.refl e0 (SsSUPPORTS.ext O0.2) (g := (mkF m 21 #[.val (.int i), .val (.int ((i &&& (2147483647 : Int32)) % (7 : Int32)))] [])) rfl (hb hby d1_21)
      refine oOn st2 ?_
      show oGl p e below (T2.setTop (mkF m 24 #[.val (.int i), .val (.int ((i &&& (2147483647 : Int32)) % (7 : Int32)))] [(.ref sSUPPORTS)])) _
      refine oRetR X2 hx Bd.notSynchronized Bd.returns rfl rfl (hb hby d1_24) (by decide) (by decide) ?_
      show Q_rmProp Z i sREQUIRED sREPEATABLE_READ sREAD_COMMITTED sNOT_SUPPORTED sDEFAULT sMANDATORY sSERIALIZABLE sREAD_UNCOMMITTED sSUPPORTS sREQUIRES_NEW sNESTED sNEVER h0 n0 _ T2.heap _
      rw [e2]
      exact ⟨_, rfl, N0, rfl⟩
    · skip
      refine sicY X0 hx (hb hby d1_18) (by decide) (by decide) (feq hc18).2 (pc' := 25) ?_
      refine siloadN X0 hx (hb hby d1_25) rfl rfl (pc' := 26) ?_
      refine siconst X0 hx (hb hby d1_26) rfl rfl (z := 2) (pc' := 27) ?_
      by_cases hc27 : ((i &&& (2147483647 : Int32)) % (7 : Int32)) = (2 : Int32)
      · skip
        refine sicN X0 hx (hb hby d1_27) rfl (teq hc27).2 (pc' := 30) ?_
        obtain ⟨T3, X3, e3, st3⟩ := getS2 X0 hx hZ hown (host := "") (Or.inl (hw _ (List.mem_of_getElem? (i := 120) rfl))) Via.refl e0 (SsMANDATORY.ext O0.2) (g := (mkF m 30 #[.val (.int i), .val (.int ((i &&& (2147483647 : Int32)) % (7 : Int32)))] [])) rfl (hb hby d1_30)
        refine oOn st3 ?_
        show oGl p e below (T3.setTop (mkF m 33 #[.val (.int i), .val (.int ((i &&& (2147483647 : Int32)) % (7 : Int32)))] [(.ref sMANDATORY)])) _
        refine oRetR X3 hx Bd.notSynchronized Bd.returns rfl rfl (hb hby d1_33) (by decide) (by decide) ?_
        show Q_rmProp Z i sREQUIRED sREPEATABLE_READ sREAD_COMMITTED sNOT_SUPPORTED sDEFAULT sMANDATORY sSERIALIZABLE sREAD_UNCOMMITTED sSUPPORTS sREQUIRES_NEW sNESTED sNEVER h0 n0 _ T3.heap _
        rw [e3]
        exact ⟨_, rfl, N0, rfl⟩
      · skip
        refine sicY X0 hx (hb hby d1_27) (by decide) (by decide) (feq hc27).2 (pc' := 34) ?_
        refine siloadN X0 hx (hb hby d1_34) rfl rfl (pc' := 35) ?_
        refine siconst X0 hx (hb hby d1_35) rfl rfl (z := 3) (pc' := 36) ?_
        by_cases hc36 : ((i &&& (2147483647 : Int32)) % (7 : Int32)) = (3 : Int32)
        · skip
          refine sicN X0 hx (hb hby d1_36) rfl (teq hc36).2 (pc' := 39) ?_
          obtain ⟨T4, X4, e4, st4⟩ := getS2 X0 hx hZ hown (host := "") (Or.inl (hw _ (List.mem_of_getElem? (i := 128) rfl))) Via.refl e0 (SsREQUIRES_NEW.ext O0.2) (g := (mkF m 39 #[.val (.int i), .val (.int ((i &&& (2147483647 : Int32)) % (7 : Int32)))] [])) rfl (hb hby d1_39)
          refine oOn st4 ?_
          show oGl p e below (T4.setTop (mkF m 42 #[.val (.int i), .val (.int ((i &&& (2147483647 : Int32)) % (7 : Int32)))] [(.ref sREQUIRES_NEW)])) _
          refine oRetR X4 hx Bd.notSynchronized Bd.returns rfl rfl (hb hby d1_42) (by decide) (by decide) ?_
          show Q_rmProp Z i sREQUIRED sREPEATABLE_READ sREAD_COMMITTED sNOT_SUPPORTED sDEFAULT sMANDATORY sSERIALIZABLE sREAD_UNCOMMITTED sSUPPORTS sREQUIRES_NEW sNESTED sNEVER h0 n0 _ T4.heap _
          rw [e4]
          exact ⟨_, rfl, N0, rfl⟩
        · skip
          refine sicY X0 hx (hb hby d1_36) (by decide) (by decide) (feq hc36).2 (pc' := 43) ?_
          refine siloadN X0 hx (hb hby d1_43) rfl rfl (pc' := 44) ?_
          refine siconst X0 hx (hb hby d1_44) rfl rfl (z := 4) (pc' := 45) ?_
          by_cases hc45 : ((i &&& (2147483647 : Int32)) % (7 : Int32)) = (4 : Int32)
          · skip
            refine sicN X0 hx (hb hby d1_45) rfl (teq hc45).2 (pc' := 48) ?_
            obtain ⟨T5, X5, e5, st5⟩ := getS2 X0 hx hZ hown (host := "") (Or.inl (hw _ (List.mem_of_getElem? (i := 116) rfl))) Via.refl e0 (SsNOT_SUPPORTED.ext O0.2) (g := (mkF m 48 #[.val (.int i), .val (.int ((i &&& (2147483647 : Int32)) % (7 : Int32)))] [])) rfl (hb hby d1_48)
            refine oOn st5 ?_
            show oGl p e below (T5.setTop (mkF m 51 #[.val (.int i), .val (.int ((i &&& (2147483647 : Int32)) % (7 : Int32)))] [(.ref sNOT_SUPPORTED)])) _
            refine oRetR X5 hx Bd.notSynchronized Bd.returns rfl rfl (hb hby d1_51) (by decide) (by decide) ?_
            show Q_rmProp Z i sREQUIRED sREPEATABLE_READ sREAD_COMMITTED sNOT_SUPPORTED sDEFAULT sMANDATORY sSERIALIZABLE sREAD_UNCOMMITTED sSUPPORTS sREQUIRES_NEW sNESTED sNEVER h0 n0 _ T5.heap _
            rw [e5]
            exact ⟨_, rfl, N0, rfl⟩
          · skip
            refine sicY X0 hx (hb hby d1_45) (by decide) (by decide) (feq hc45).2 (pc' := 52) ?_
            refine siloadN X0 hx (hb hby d1_52) rfl rfl (pc' := 53) ?_
            refine siconst X0 hx (hb hby d1_53) rfl rfl (z := 5) (pc' := 54) ?_
            by_cases hc54 : ((i &&& (2147483647 : Int32)) % (7 : Int32)) = (5 : Int32)
            · skip
              refine sicN X0 hx (hb hby d1_54) rfl (teq hc54).2 (pc' := 57) ?_
              obtain ⟨T6, X6, e6, st6⟩ := getS2 X0 hx hZ hown (host := "") (Or.inl (hw _ (List.mem_of_getElem? (i := 132) rfl))) Via.refl e0 (SsNEVER.ext O0.2) (g := (mkF m 57 #[.val (.int i), .val (.int ((i &&& (2147483647 : Int32)) % (7 : Int32)))] [])) rfl (hb hby d1_57)
              refine oOn st6 ?_
              show oGl p e below (T6.setTop (mkF m 60 #[.val (.int i), .val (.int ((i &&& (2147483647 : Int32)) % (7 : Int32)))] [(.ref sNEVER)])) _
              refine oRetR X6 hx Bd.notSynchronized Bd.returns rfl rfl (hb hby d1_60) (by decide) (by decide) ?_
              show Q_rmProp Z i sREQUIRED sREPEATABLE_READ sREAD_COMMITTED sNOT_SUPPORTED sDEFAULT sMANDATORY sSERIALIZABLE sREAD_UNCOMMITTED sSUPPORTS sREQUIRES_NEW sNESTED sNEVER h0 n0 _ T6.heap _
              rw [e6]
              exact ⟨_, rfl, N0, rfl⟩
            · skip
              refine sicY X0 hx (hb hby d1_54) (by decide) (by decide) (feq hc54).2 (pc' := 61) ?_
              obtain ⟨T7, X7, e7, st7⟩ := getS2 X0 hx hZ hown (host := "") (Or.inl (hw _ (List.mem_of_getElem? (i := 130) rfl))) Via.refl e0 (SsNESTED.ext O0.2) (g := (mkF m 61 #[.val (.int i), .val (.int ((i &&& (2147483647 : Int32)) % (7 : Int32)))] [])) rfl (hb hby d1_61)
              refine oOn st7 ?_
              show oGl p e below (T7.setTop (mkF m 64 #[.val (.int i), .val (.int ((i &&& (2147483647 : Int32)) % (7 : Int32)))] [(.ref sNESTED)])) _
              refine oRetR X7 hx Bd.notSynchronized Bd.returns rfl rfl (hb hby d1_64) (by decide) (by decide) ?_
              show Q_rmProp Z i sREQUIRED sREPEATABLE_READ sREAD_COMMITTED sNOT_SUPPORTED sDEFAULT sMANDATORY sSERIALIZABLE sREAD_UNCOMMITTED sSUPPORTS sREQUIRES_NEW sNESTED sNEVER h0 n0 _ T7.heap _
              rw [e7]
              exact ⟨_, rfl, N0, rfl⟩
theorem d2_0 : decode method_2_code 0 = .ok (.iload_n 0, 1) := by decide +kernel
theorem d2_1 : decode method_2_code 1 = .ok (.ldc 7, 2) := by decide +kernel
theorem d2_3 : decode method_2_code 3 = .ok (.iand, 1) := by decide +kernel
theorem d2_4 : decode method_2_code 4 = .ok (.iconst 5, 1) := by decide +kernel
theorem d2_5 : decode method_2_code 5 = .ok (.irem, 1) := by decide +kernel
theorem d2_6 : decode method_2_code 6 = .ok (.istore_n 1, 1) := by decide +kernel
theorem d2_7 : decode method_2_code 7 = .ok (.iload_n 1, 1) := by decide +kernel
theorem d2_8 : decode method_2_code 8 = .ok (.ifCond .ne 7, 3) := by decide +kernel
theorem d2_11 : decode method_2_code 11 = .ok (.getstatic 8, 3) := by decide +kernel
theorem d2_14 : decode method_2_code 14 = .ok (.areturn, 1) := by decide +kernel
theorem d2_15 : decode method_2_code 15 = .ok (.iload_n 1, 1) := by decide +kernel
theorem d2_16 : decode method_2_code 16 = .ok (.iconst 1, 1) := by decide +kernel
theorem d2_17 : decode method_2_code 17 = .ok (.if_icmp .ne 7, 3) := by decide +kernel
theorem d2_20 : decode method_2_code 20 = .ok (.getstatic 14, 3) := by decide +kernel
theorem d2_23 : decode method_2_code 23 = .ok (.areturn, 1) := by decide +kernel
theorem d2_24 : decode method_2_code 24 = .ok (.iload_n 1, 1) := by decide +kernel
theorem d2_25 : decode method_2_code 25 = .ok (.iconst 2, 1) := by decide +kernel
theorem d2_26 : decode method_2_code 26 = .ok (.if_icmp .ne 7, 3) := by decide +kernel
theorem d2_29 : decode method_2_code 29 = .ok (.getstatic 17, 3) := by decide +kernel
theorem d2_32 : decode method_2_code 32 = .ok (.areturn, 1) := by decide +kernel
theorem d2_33 : decode method_2_code 33 = .ok (.iload_n 1, 1) := by decide +kernel
theorem d2_34 : decode method_2_code 34 = .ok (.iconst 3, 1) := by decide +kernel
theorem d2_35 : decode method_2_code 35 = .ok (.if_icmp .ne 7, 3) := by decide +kernel
theorem d2_38 : decode method_2_code 38 = .ok (.getstatic 20, 3) := by decide +kernel
theorem d2_41 : decode method_2_code 41 = .ok (.areturn, 1) := by decide +kernel
theorem d2_42 : decode method_2_code 42 = .ok (.getstatic 23, 3) := by decide +kernel
theorem d2_45 : decode method_2_code 45 = .ok (.areturn, 1) := by decide +kernel
theorem ef_rmIso (m : MethodId) (x0 : Int32)  : entryFrame m #[(.int x0)] 2 = mkF m 0 #[.val (.int x0), .unset] [] := by first | (simp [entryFrame, mkF, argsToLocals, Value.category, maxLocals]; done) | rfl
def Q_rmIso (Z : State) (i : Int32) (sREQUIRED : Nat) (sREPEATABLE_READ : Nat) (sREAD_COMMITTED : Nat) (sNOT_SUPPORTED : Nat) (sDEFAULT : Nat) (sMANDATORY : Nat) (sSERIALIZABLE : Nat) (sREAD_UNCOMMITTED : Nat) (sSUPPORTS : Nat) (sREQUIRES_NEW : Nat) (sNESTED : Nat) (sNEVER : Nat) (h0 : Heap) (n0 : Nat) (vv : Option Value) (h : Heap) (L : List Loc) : Prop := ∃ r : Nat, vv = some (.ref r) ∧ Fr n0 L ∧ h = h0
set_option maxRecDepth 65536 in
set_option maxHeartbeats 40000000 in
theorem rmIso (l : Launch) (Z : State) (a0 : Array Value) (hw : ∀ d ∈ tables_1, d.before a0 Z = true) (ws : List Jvm.Cond) (i : Int32) (sREQUIRED : Nat) (sREPEATABLE_READ : Nat) (sREAD_COMMITTED : Nat) (sNOT_SUPPORTED : Nat) (sDEFAULT : Nat) (sMANDATORY : Nat) (sSERIALIZABLE : Nat) (sREAD_UNCOMMITTED : Nat) (sSUPPORTS : Nat) (sREQUIRES_NEW : Nat) (sNESTED : Nat) (sNEVER : Nat) (h0 : Heap) (n0 : Nat) (Z0 : n0 ≤ h0.size) (O0 : Old Z n0 h0) (SsREQUIRED : Sta Z Z.heap "com/example/demarc/demarc/Propagation" "REQUIRED" "Lcom/example/demarc/demarc/Propagation;" (.ref sREQUIRED)) (EsREQUIRED : Exa Z Z.heap sREQUIRED "com/example/demarc/demarc/Propagation") (SsREPEATABLE_READ : Sta Z Z.heap "com/example/demarc/demarc/Isolation" "REPEATABLE_READ" "Lcom/example/demarc/demarc/Isolation;" (.ref sREPEATABLE_READ)) (EsREPEATABLE_READ : Exa Z Z.heap sREPEATABLE_READ "com/example/demarc/demarc/Isolation") (SsREAD_COMMITTED : Sta Z Z.heap "com/example/demarc/demarc/Isolation" "READ_COMMITTED" "Lcom/example/demarc/demarc/Isolation;" (.ref sREAD_COMMITTED)) (EsREAD_COMMITTED : Exa Z Z.heap sREAD_COMMITTED "com/example/demarc/demarc/Isolation") (SsNOT_SUPPORTED : Sta Z Z.heap "com/example/demarc/demarc/Propagation" "NOT_SUPPORTED" "Lcom/example/demarc/demarc/Propagation;" (.ref sNOT_SUPPORTED)) (EsNOT_SUPPORTED : Exa Z Z.heap sNOT_SUPPORTED "com/example/demarc/demarc/Propagation") (SsDEFAULT : Sta Z Z.heap "com/example/demarc/demarc/Isolation" "DEFAULT" "Lcom/example/demarc/demarc/Isolation;" (.ref sDEFAULT)) (EsDEFAULT : Exa Z Z.heap sDEFAULT "com/example/demarc/demarc/Isolation") (SsMANDATORY : Sta Z Z.heap "com/example/demarc/demarc/Propagation" "MANDATORY" "Lcom/example/demarc/demarc/Propagation;" (.ref sMANDATORY)) (EsMANDATORY : Exa Z Z.heap sMANDATORY "com/example/demarc/demarc/Propagation") (SsSERIALIZABLE : Sta Z Z.heap "com/example/demarc/demarc/Isolation" "SERIALIZABLE" "Lcom/example/demarc/demarc/Isolation;" (.ref sSERIALIZABLE)) (EsSERIALIZABLE : Exa Z Z.heap sSERIALIZABLE "com/example/demarc/demarc/Isolation") (SsREAD_UNCOMMITTED : Sta Z Z.heap "com/example/demarc/demarc/Isolation" "READ_UNCOMMITTED" "Lcom/example/demarc/demarc/Isolation;" (.ref sREAD_UNCOMMITTED)) (EsREAD_UNCOMMITTED : Exa Z Z.heap sREAD_UNCOMMITTED "com/example/demarc/demarc/Isolation") (SsSUPPORTS : Sta Z Z.heap "com/example/demarc/demarc/Propagation" "SUPPORTS" "Lcom/example/demarc/demarc/Propagation;" (.ref sSUPPORTS)) (EsSUPPORTS : Exa Z Z.heap sSUPPORTS "com/example/demarc/demarc/Propagation") (SsREQUIRES_NEW : Sta Z Z.heap "com/example/demarc/demarc/Propagation" "REQUIRES_NEW" "Lcom/example/demarc/demarc/Propagation;" (.ref sREQUIRES_NEW)) (EsREQUIRES_NEW : Exa Z Z.heap sREQUIRES_NEW "com/example/demarc/demarc/Propagation") (SsNESTED : Sta Z Z.heap "com/example/demarc/demarc/Propagation" "NESTED" "Lcom/example/demarc/demarc/Propagation;" (.ref sNESTED)) (EsNESTED : Exa Z Z.heap sNESTED "com/example/demarc/demarc/Propagation") (SsNEVER : Sta Z Z.heap "com/example/demarc/demarc/Propagation" "NEVER" "Lcom/example/demarc/demarc/Propagation;" (.ref sNEVER)) (EsNEVER : Exa Z Z.heap sNEVER "com/example/demarc/demarc/Propagation") :
    MetFree l (⟨"com/example/demarc/demarc/TransactionDefinitionWithIsolationPinLaw", "iso", "(I)Lcom/example/demarc/demarc/Isolation;"⟩ : MethodName) (head1 (Jvm.Cond.code (⟨"com/example/demarc/demarc/TransactionDefinitionWithIsolationPinLaw", "iso", "(I)Lcom/example/demarc/demarc/Isolation;"⟩ : MethodName) method_2_code 2 (some (.object "com/example/demarc/demarc/Isolation")) :: ws) ({ frames := 0, cells := 0, slots := 0, locals := 0 } : Room)) (fun aA uU => aA = #[(.int i)] ∧ Z.Warmed39 uU.vm ∧ uU.heap = h0) (fun _ _ _ _ _ => True) (fun _ uU oO uU' => ∃ vV lL, oO = .returned vV ∧ Q_rmIso Z i sREQUIRED sREPEATABLE_READ sREAD_COMMITTED sNOT_SUPPORTED sDEFAULT sMANDATORY sSERIALIZABLE sREAD_UNCOMMITTED sSUPPORTS sREQUIRES_NEW sNESTED sNEVER h0 n0 vV uU'.heap lL ∧ FrameEnd uU oO uU' lL ({ frames := 0, cells := 0, slots := 0, locals := 0 } : Room).cells ({ frames := 0, cells := 0, slots := 0, locals := 0 } : Room).slots) := by
  refine MetFree.of_bodySF (plainFor_of_name pn_TransactionDefinitionWithIsolationPinLaw) hisR ?_
  intro p e s m args below meth c s₁ Bd hml0 hP hK
  obtain ⟨rfl, hZ, hh⟩ := hP
  have hx := Bd.exec
  have hby := Bd.bytes
  have hml : c.maxLocals = 2 := hml0
  have hown : s.vm.findClass "com/example/demarc/demarc/TransactionDefinitionWithIsolationPinLaw" = some m.cls := findClass_of_methodNamed Bd.named
  have hnm := (name_of_methodNamed Bd.named Bd.method).1
  have X0 : Stand p l e ({ frames := 0, cells := 0, slots := 0, locals := 0 } : Room) s m #[(.int i)] below meth c s₁ [] 0 0 := Stand.of_body Bd
  have e0 : s₁.heap = h0 := by rw [← hh, Bd.state]; rfl
  have N0 := Fr.nil n0
  refine oEnter (oCast (ef_rmIso m i ) ?_)
  show oGl p e below (s₁.setTop (mkF m 0 #[.val (.int i), .unset] [])) _
  refine siloadN X0 hx (hb hby d2_0) rfl rfl (pc' := 1) ?_
  refine oOn (X0.ldcInt hx hown (mvT hZ (hw _ (List.mem_of_getElem? (i := 4) rfl))) (g := (mkF m 1 #[.val (.int i), .unset] [(.int i)])) rfl (hb hby d2_1)) ?_
  show oGl p e below (s₁.setTop (mkF m 3 #[.val (.int i), .unset] [(.int (2147483647 : Int32)), (.int i)])) _
  refine siand X0 hx (hb hby d2_3) rfl rfl (pc' := 4) ?_
  refine siconst X0 hx (hb hby d2_4) rfl rfl (z := 5) (pc' := 5) ?_
  refine sirem X0 hx (hb hby d2_5) rfl (by decide) rfl (pc' := 6) ?_
  refine sistoreN X0 hx (hb hby d2_6) rfl rfl (l' := #[.val (.int i), .val (.int ((i &&& (2147483647 : Int32)) % (5 : Int32)))]) (pc' := 7) ?_
  refine siloadN X0 hx (hb hby d2_7) rfl rfl (pc' := 8) ?_
  by_cases hc8 : ((i &&& (2147483647 : Int32)) % (5 : Int32)) = (0 : Int32)
  · skip
    refine sifN X0 hx (hb hby d2_8) rfl (teq hc8).2 (pc' := 11) ?_
    obtain ⟨T1, X1, e1, st1⟩ := getS2 X0 hx hZ hown (host := "") (Or.inl (hw _ (List.mem_of_getElem? (i := 118) rfl))) Via.refl e0 (SsDEFAULT.ext O0.2) (g := (mkF m 11 #[.val (.int i), .val (.int ((i &&& (2147483647 : Int32)) % (5 : Int32)))] [])) rfl (hb hby d2_11)
    refine oOn st1 ?_
    show oGl p e below (T1.setTop (mkF m 14 #[.val (.int i), .val (.int ((i &&& (2147483647 : Int32)) % (5 : Int32)))] [(.ref sDEFAULT)])) _
    refine oRetR X1 hx Bd.notSynchronized Bd.returns rfl rfl (hb hby d2_14) (by decide) (by decide) ?_
    show Q_rmIso Z i sREQUIRED sREPEATABLE_READ sREAD_COMMITTED sNOT_SUPPORTED sDEFAULT sMANDATORY sSERIALIZABLE sREAD_UNCOMMITTED sSUPPORTS sREQUIRES_NEW sNESTED sNEVER h0 n0 _ T1.heap _
    rw [e1]
    exact ⟨_, rfl, N0, rfl⟩
  · skip
    refine sifY X0 hx (hb hby d2_8) (by decide) (by decide) (feq hc8).2 (pc' := 15) ?_
    refine siloadN X0 hx (hb hby d2_15) rfl rfl (pc' := 16) ?_
    refine siconst X0 hx (hb hby d2_16) rfl rfl (z := 1) (pc' := 17) ?_
    by_cases hc17 : ((i &&& (2147483647 : Int32)) % (5 : Int32)) = (1 : Int32)
    · skip
      refine sicN X0 hx (hb hby d2_17) rfl (teq hc17).2 (pc' := 20) ?_
      obtain ⟨T2, X2, e2, st2⟩ := getS2 X0 hx hZ hown (host := "") (Or.inl (hw _ (List.mem_of_getElem? (i := 124) rfl))) Via.refl e0 (SsREAD_UNCOMMITTED.ext O0.2) (g := (mkF m 20 #[.val (.int i), .val (.int ((i &&& (2147483647 : Int32)) % (5 : Int32)))] [])) rfl (hb hby d2_20)
      refine oOn st2 ?_
      show oGl p e below (T2.setTop (mkF m 23 #[.val (.int i), .val (.int ((i &&& (2147483647 : Int32)) % (5 : Int32)))] [(.ref sREAD_UNCOMMITTED)])) _
      refine oRetR X2 hx Bd.notSynchronized Bd.returns rfl rfl (hb hby d2_23) (by decide) (by decide) ?_
      show Q_rmIso Z i sREQUIRED sREPEATABLE_READ sREAD_COMMITTED sNOT_SUPPORTED sDEFAULT sMANDATORY sSERIALIZABLE sREAD_UNCOMMITTED sSUPPORTS sREQUIRES_NEW sNESTED sNEVER h0 n0 _ T2.heap _
      rw [e2]
      exact ⟨_, rfl, N0, rfl⟩
    · skip
      refine sicY X0 hx (hb hby d2_17) (by decide) (by decide) (feq hc17).2 (pc' := 24) ?_
      refine siloadN X0 hx (hb hby d2_24) rfl rfl (pc' := 25) ?_
      refine siconst X0 hx (hb hby d2_25) rfl rfl (z := 2) (pc' := 26) ?_
      by_cases hc26 : ((i &&& (2147483647 : Int32)) % (5 : Int32)) = (2 : Int32)
      · skip
        refine sicN X0 hx (hb hby d2_26) rfl (teq hc26).2 (pc' := 29) ?_
        obtain ⟨T3, X3, e3, st3⟩ := getS2 X0 hx hZ hown (host := "") (Or.inl (hw _ (List.mem_of_getElem? (i := 14) rfl))) Via.refl e0 (SsREAD_COMMITTED.ext O0.2) (g := (mkF m 29 #[.val (.int i), .val (.int ((i &&& (2147483647 : Int32)) % (5 : Int32)))] [])) rfl (hb hby d2_29)
        refine oOn st3 ?_
        show oGl p e below (T3.setTop (mkF m 32 #[.val (.int i), .val (.int ((i &&& (2147483647 : Int32)) % (5 : Int32)))] [(.ref sREAD_COMMITTED)])) _
        refine oRetR X3 hx Bd.notSynchronized Bd.returns rfl rfl (hb hby d2_32) (by decide) (by decide) ?_
        show Q_rmIso Z i sREQUIRED sREPEATABLE_READ sREAD_COMMITTED sNOT_SUPPORTED sDEFAULT sMANDATORY sSERIALIZABLE sREAD_UNCOMMITTED sSUPPORTS sREQUIRES_NEW sNESTED sNEVER h0 n0 _ T3.heap _
        rw [e3]
        exact ⟨_, rfl, N0, rfl⟩
      · skip
        refine sicY X0 hx (hb hby d2_26) (by decide) (by decide) (feq hc26).2 (pc' := 33) ?_
        refine siloadN X0 hx (hb hby d2_33) rfl rfl (pc' := 34) ?_
        refine siconst X0 hx (hb hby d2_34) rfl rfl (z := 3) (pc' := 35) ?_
        by_cases hc35 : ((i &&& (2147483647 : Int32)) % (5 : Int32)) = (3 : Int32)
        · skip
          refine sicN X0 hx (hb hby d2_35) rfl (teq hc35).2 (pc' := 38) ?_
          obtain ⟨T4, X4, e4, st4⟩ := getS2 X0 hx hZ hown (host := "") (Or.inl (hw _ (List.mem_of_getElem? (i := 11) rfl))) Via.refl e0 (SsREPEATABLE_READ.ext O0.2) (g := (mkF m 38 #[.val (.int i), .val (.int ((i &&& (2147483647 : Int32)) % (5 : Int32)))] [])) rfl (hb hby d2_38)
          refine oOn st4 ?_
          show oGl p e below (T4.setTop (mkF m 41 #[.val (.int i), .val (.int ((i &&& (2147483647 : Int32)) % (5 : Int32)))] [(.ref sREPEATABLE_READ)])) _
          refine oRetR X4 hx Bd.notSynchronized Bd.returns rfl rfl (hb hby d2_41) (by decide) (by decide) ?_
          show Q_rmIso Z i sREQUIRED sREPEATABLE_READ sREAD_COMMITTED sNOT_SUPPORTED sDEFAULT sMANDATORY sSERIALIZABLE sREAD_UNCOMMITTED sSUPPORTS sREQUIRES_NEW sNESTED sNEVER h0 n0 _ T4.heap _
          rw [e4]
          exact ⟨_, rfl, N0, rfl⟩
        · skip
          refine sicY X0 hx (hb hby d2_35) (by decide) (by decide) (feq hc35).2 (pc' := 42) ?_
          obtain ⟨T5, X5, e5, st5⟩ := getS2 X0 hx hZ hown (host := "") (Or.inl (hw _ (List.mem_of_getElem? (i := 122) rfl))) Via.refl e0 (SsSERIALIZABLE.ext O0.2) (g := (mkF m 42 #[.val (.int i), .val (.int ((i &&& (2147483647 : Int32)) % (5 : Int32)))] [])) rfl (hb hby d2_42)
          refine oOn st5 ?_
          show oGl p e below (T5.setTop (mkF m 45 #[.val (.int i), .val (.int ((i &&& (2147483647 : Int32)) % (5 : Int32)))] [(.ref sSERIALIZABLE)])) _
          refine oRetR X5 hx Bd.notSynchronized Bd.returns rfl rfl (hb hby d2_45) (by decide) (by decide) ?_
          show Q_rmIso Z i sREQUIRED sREPEATABLE_READ sREAD_COMMITTED sNOT_SUPPORTED sDEFAULT sMANDATORY sSERIALIZABLE sREAD_UNCOMMITTED sSUPPORTS sREQUIRES_NEW sNESTED sNEVER h0 n0 _ T5.heap _
          rw [e5]
          exact ⟨_, rfl, N0, rfl⟩
theorem d11_0 : decode jdk_31_method_11_code 0 = .ok (.aload_n 0, 1) := by decide +kernel
theorem d11_1 : decode jdk_31_method_11_code 1 = .ok (.ifnonnull 12, 3) := by decide +kernel
theorem d11_13 : decode jdk_31_method_11_code 13 = .ok (.aload_n 0, 1) := by decide +kernel
theorem d11_14 : decode jdk_31_method_11_code 14 = .ok (.areturn, 1) := by decide +kernel
theorem pn_Objects : plainName "java/util/Objects" = true := by first | (simp [plainName, overriddenIn]; done) | decide +kernel
theorem ef_rmReq (m : MethodId) (x0 : Nat) (x1 : Nat)  : entryFrame m #[(.ref x0), (.ref x1)] 2 = mkF m 0 #[.val (.ref x0), .val (.ref x1)] [] := by first | (simp [entryFrame, mkF, argsToLocals, Value.category, maxLocals]; done) | rfl
def Q_rmReq (Z : State) (a b : Nat) (h0 : Heap) (n0 : Nat) (vv : Option Value) (h : Heap) (L : List Loc) : Prop := vv = some (.ref a) ∧ Fr n0 L ∧ h = h0
set_option maxRecDepth 65536 in
set_option maxHeartbeats 40000000 in
theorem rmReq (l : Launch) (Z : State) (a0 : Array Value) (hw : ∀ d ∈ tables_1, d.before a0 Z = true) (ws : List Jvm.Cond) (a b : Nat) (h0 : Heap) (n0 : Nat) (Z0 : n0 ≤ h0.size)  :
    MetFree l (⟨"java/util/Objects", "requireNonNull", "(Ljava/lang/Object;Ljava/lang/String;)Ljava/lang/Object;"⟩ : MethodName) (head1 (Jvm.Cond.code (⟨"java/util/Objects", "requireNonNull", "(Ljava/lang/Object;Ljava/lang/String;)Ljava/lang/Object;"⟩ : MethodName) jdk_31_method_11_code 2 (some (.object "java/lang/Object")) :: ws) ({ frames := 0, cells := 0, slots := 0, locals := 0 } : Room)) (fun aA uU => aA = #[(.ref a), (.ref b)] ∧ Z.Warmed39 uU.vm ∧ uU.heap = h0) (fun _ _ _ _ _ => True) (fun _ uU oO uU' => ∃ vV lL, oO = .returned vV ∧ Q_rmReq Z a b h0 n0 vV uU'.heap lL ∧ FrameEnd uU oO uU' lL ({ frames := 0, cells := 0, slots := 0, locals := 0 } : Room).cells ({ frames := 0, cells := 0, slots := 0, locals := 0 } : Room).slots) := by
  refine MetFree.of_bodySF (plainFor_of_name pn_Objects) hisR ?_
  intro p e s m args below meth c s₁ Bd hml0 hP hK
  obtain ⟨rfl, hZ, hh⟩ := hP
  have hx := Bd.exec
  have hby := Bd.bytes
  have hml : c.maxLocals = 2 := hml0
  have hown : s.vm.findClass "java/util/Objects" = some m.cls := findClass_of_methodNamed Bd.named
  have hnm := (name_of_methodNamed Bd.named Bd.method).1
  have X0 : Stand p l e ({ frames := 0, cells := 0, slots := 0, locals := 0 } : Room) s m #[(.ref a), (.ref b)] below meth c s₁ [] 0 0 := Stand.of_body Bd
  have e0 : s₁.heap = h0 := by rw [← hh, Bd.state]; rfl
  have N0 := Fr.nil n0
  refine oEnter (oCast (ef_rmReq m a b ) ?_)
  show oGl p e below (s₁.setTop (mkF m 0 #[.val (.ref a), .val (.ref b)] [])) _
  refine saloadN X0 hx (hb hby d11_0) rfl rfl rfl (pc' := 1) ?_
  refine sifnonnullY X0 hx (hb hby d11_1) (by decide) (by decide)  (pc' := 13) ?_
  refine saloadN X0 hx (hb hby d11_13) rfl rfl rfl (pc' := 14) ?_
  refine oRetR X0 hx Bd.notSynchronized Bd.returns rfl rfl (hb hby d11_14) (by decide) (by decide) ?_
  show Q_rmReq Z a b h0 n0 _ s₁.heap _
  rw [e0]
  exact ⟨rfl, N0, rfl⟩
theorem d12_0 : decode prog_16_method_2_code 0 = .ok (.iload_n 0, 1) := by decide +kernel
theorem d12_1 : decode prog_16_method_2_code 1 = .ok (.iconst (-1), 1) := by decide +kernel
theorem d12_2 : decode prog_16_method_2_code 2 = .ok (.if_icmp .ge 17, 3) := by decide +kernel
theorem d12_19 : decode prog_16_method_2_code 19 = .ok (.iload_n 0, 1) := by decide +kernel
theorem d12_20 : decode prog_16_method_2_code 20 = .ok (.ireturn, 1) := by decide +kernel
theorem pn_TransactionDefinition : plainName "com/example/demarc/demarc/TransactionDefinition" = true := by first | (simp [plainName, overriddenIn]; done) | decide +kernel
theorem ef_rmTmo (m : MethodId) (x0 : Int32)  : entryFrame m #[(.int x0)] 1 = mkF m 0 #[.val (.int x0)] [] := by first | (simp [entryFrame, mkF, argsToLocals, Value.category, maxLocals]; done) | rfl
def Q_rmTmo (Z : State) (t : Int32) (h0 : Heap) (n0 : Nat) (vv : Option Value) (h : Heap) (L : List Loc) : Prop := vv = some (.int t) ∧ Fr n0 L ∧ h = h0
set_option maxRecDepth 65536 in
set_option maxHeartbeats 40000000 in
theorem rmTmo (l : Launch) (Z : State) (a0 : Array Value) (hw : ∀ d ∈ tables_1, d.before a0 Z = true) (ws : List Jvm.Cond) (t : Int32) (h0 : Heap) (n0 : Nat) (Z0 : n0 ≤ h0.size) (ht : ¬ (t < (-1 : Int32))) :
    MetFree l (⟨"com/example/demarc/demarc/TransactionDefinition", "requireValidTimeout", "(I)I"⟩ : MethodName) (head1 (Jvm.Cond.code (⟨"com/example/demarc/demarc/TransactionDefinition", "requireValidTimeout", "(I)I"⟩ : MethodName) prog_16_method_2_code 1 (some .int) :: ws) ({ frames := 0, cells := 0, slots := 0, locals := 0 } : Room)) (fun aA uU => aA = #[(.int t)] ∧ Z.Warmed39 uU.vm ∧ uU.heap = h0) (fun _ _ _ _ _ => True) (fun _ uU oO uU' => ∃ vV lL, oO = .returned vV ∧ Q_rmTmo Z t h0 n0 vV uU'.heap lL ∧ FrameEnd uU oO uU' lL ({ frames := 0, cells := 0, slots := 0, locals := 0 } : Room).cells ({ frames := 0, cells := 0, slots := 0, locals := 0 } : Room).slots) := by
  refine MetFree.of_bodySF (plainFor_of_name pn_TransactionDefinition) hisR ?_
  intro p e s m args below meth c s₁ Bd hml0 hP hK
  obtain ⟨rfl, hZ, hh⟩ := hP
  have hx := Bd.exec
  have hby := Bd.bytes
  have hml : c.maxLocals = 1 := hml0
  have hown : s.vm.findClass "com/example/demarc/demarc/TransactionDefinition" = some m.cls := findClass_of_methodNamed Bd.named
  have hnm := (name_of_methodNamed Bd.named Bd.method).1
  have X0 : Stand p l e ({ frames := 0, cells := 0, slots := 0, locals := 0 } : Room) s m #[(.int t)] below meth c s₁ [] 0 0 := Stand.of_body Bd
  have e0 : s₁.heap = h0 := by rw [← hh, Bd.state]; rfl
  have N0 := Fr.nil n0
  refine oEnter (oCast (ef_rmTmo m t ) ?_)
  show oGl p e below (s₁.setTop (mkF m 0 #[.val (.int t)] [])) _
  refine siloadN X0 hx (hb hby d12_0) rfl rfl (pc' := 1) ?_
  refine siconst X0 hx (hb hby d12_1) rfl rfl (z := -1) (pc' := 2) ?_
  refine sicY X0 hx (hb hby d12_2) (by decide) (by decide) (flt (ht : ¬ (t < (-1 : Int32)))).2.1 (pc' := 19) ?_
  refine siloadN X0 hx (hb hby d12_19) rfl rfl (pc' := 20) ?_
  refine oRetI X0 hx Bd.notSynchronized Bd.returns (hb hby d12_20) (by decide) (by decide) ?_
  show Q_rmTmo Z t h0 n0 _ s₁.heap _
  rw [e0]
  exact ⟨rfl, N0, rfl⟩
theorem d10_0 : decode jdk_30_method_1_code 0 = .ok (.aload_n 0, 1) := by decide +kernel
theorem d10_1 : decode jdk_30_method_1_code 1 = .ok (.invokespecial 1, 3) := by decide +kernel
theorem d10_4 : decode jdk_30_method_1_code 4 = .ok (.return_, 1) := by decide +kernel
theorem pn_Record : plainName "java/lang/Record" = true := by first | (simp [plainName, overriddenIn]; done) | decide +kernel
theorem ef_rmRec (m : MethodId) (x0 : Nat)  : entryFrame m #[(.ref x0)] 1 = mkF m 0 #[.val (.ref x0)] [] := by first | (simp [entryFrame, mkF, argsToLocals, Value.category, maxLocals]; done) | rfl
def Q_rmRec (Z : State) (a : Nat) (h0 : Heap) (n0 : Nat) (vv : Option Value) (h : Heap) (L : List Loc) : Prop := vv = none ∧ Fr n0 L ∧ h = h0
set_option maxRecDepth 65536 in
set_option maxHeartbeats 40000000 in
theorem rmRec (l : Launch) (Z : State) (a0 : Array Value) (hw : ∀ d ∈ tables_1, d.before a0 Z = true) (ws : List Jvm.Cond) (a : Nat) (h0 : Heap) (n0 : Nat) (Z0 : n0 ≤ h0.size)  :
    MetFree l (⟨"java/lang/Record", "<init>", "()V"⟩ : MethodName) (head1 (Jvm.Cond.code (⟨"java/lang/Record", "<init>", "()V"⟩ : MethodName) jdk_30_method_1_code 1 (none : Option FieldType) :: ws) ({ frames := 1, cells := 0, slots := 0, locals := 12 } : Room)) (fun aA uU => aA = #[(.ref a)] ∧ Z.Warmed39 uU.vm ∧ uU.heap = h0) (fun _ _ _ _ _ => True) (fun _ uU oO uU' => ∃ vV lL, oO = .returned vV ∧ Q_rmRec Z a h0 n0 vV uU'.heap lL ∧ FrameEnd uU oO uU' lL ({ frames := 1, cells := 0, slots := 0, locals := 12 } : Room).cells ({ frames := 1, cells := 0, slots := 0, locals := 12 } : Room).slots) := by
  refine MetFree.of_bodySF (plainFor_of_name pn_Record) hisR ?_
  intro p e s m args below meth c s₁ Bd hml0 hP hK
  obtain ⟨rfl, hZ, hh⟩ := hP
  have hx := Bd.exec
  have hby := Bd.bytes
  have hml : c.maxLocals = 1 := hml0
  have hown : s.vm.findClass "java/lang/Record" = some m.cls := findClass_of_methodNamed Bd.named
  have hnm := (name_of_methodNamed Bd.named Bd.method).1
  have X0 : Stand p l e ({ frames := 1, cells := 0, slots := 0, locals := 12 } : Room) s m #[(.ref a)] below meth c s₁ [] 0 0 := Stand.of_body Bd
  have e0 : s₁.heap = h0 := by rw [← hh, Bd.state]; rfl
  have N0 := Fr.nil n0
  refine oEnter (oCast (ef_rmRec m a ) ?_)
  show oGl p e below (s₁.setTop (mkF m 0 #[.val (.ref a)] [])) _
  refine saloadN X0 hx (hb hby d10_0) rfl rfl rfl (pc' := 1) ?_
  obtain ⟨T1, X1, e1, st1⟩ := initO X0 hx hZ hown (hw _ (List.mem_of_getElem? (i := 57) rfl)) (hw _ (List.mem_of_getElem? (i := 28) rfl)) (hw _ (List.mem_of_getElem? (i := 29) rfl)) e0 (g := (mkF m 1 #[.val (.ref a)] [(.ref a)])) rfl (by rw [hml]; rfl) rfl (hb hby d10_1) (by decide) (W := 0) (by show 2 * 0 + _ ≤ _; exact Nat.le_of_eq rfl) (by decide)
  refine oOn st1 ?_
  show oGl p e below (T1.setTop (mkF m 4 #[.val (.ref a)] [])) _
  refine oRet0 X1 hx Bd.notSynchronized Bd.returns (hb hby d10_4) (by decide) (by decide) ?_
  show Q_rmRec Z a h0 n0 _ T1.heap _
  rw [e1]
  exact ⟨rfl, N0, rfl⟩
theorem d9_0 : decode prog_16_method_1_code 0 = .ok (.aload_n 0, 1) := by decide +kernel
theorem d9_1 : decode prog_16_method_1_code 1 = .ok (.invokespecial 1, 3) := by decide +kernel
theorem pd_4 : parseMethodDescriptor "()V" = some ⟨[], none⟩ := by decide +kernel
theorem d9_4 : decode prog_16_method_1_code 4 = .ok (.aload_n 1, 1) := by decide +kernel
theorem d9_5 : decode prog_16_method_1_code 5 = .ok (.ldc 7, 2) := by decide +kernel
theorem d9_7 : decode prog_16_method_1_code 7 = .ok (.invokestatic 9, 3) := by decide +kernel
theorem pd_5 : parseMethodDescriptor "(Ljava/lang/Object;Ljava/lang/String;)Ljava/lang/Object;" = some ⟨[(.object "java/lang/Object"), (.object "java/lang/String")], some (.object "java/lang/Object")⟩ := by decide +kernel
theorem d9_10 : decode prog_16_method_1_code 10 = .ok (.pop, 1) := by decide +kernel
theorem d9_11 : decode prog_16_method_1_code 11 = .ok (.aload_n 2, 1) := by decide +kernel
theorem d9_12 : decode prog_16_method_1_code 12 = .ok (.ldc 15, 2) := by decide +kernel
theorem d9_14 : decode prog_16_method_1_code 14 = .ok (.invokestatic 9, 3) := by decide +kernel
theorem d9_17 : decode prog_16_method_1_code 17 = .ok (.pop, 1) := by decide +kernel
theorem d9_18 : decode prog_16_method_1_code 18 = .ok (.iload_n 3, 1) := by decide +kernel
theorem d9_19 : decode prog_16_method_1_code 19 = .ok (.invokestatic 17, 3) := by decide +kernel
theorem pd_6 : parseMethodDescriptor "(I)I" = some ⟨[.int], some .int⟩ := by decide +kernel
theorem d9_22 : decode prog_16_method_1_code 22 = .ok (.pop, 1) := by decide +kernel
theorem d9_23 : decode prog_16_method_1_code 23 = .ok (.aload_n 0, 1) := by decide +kernel
theorem d9_24 : decode prog_16_method_1_code 24 = .ok (.aload_n 1, 1) := by decide +kernel
theorem d9_25 : decode prog_16_method_1_code 25 = .ok (.putfield 23, 3) := by decide +kernel
theorem d9_28 : decode prog_16_method_1_code 28 = .ok (.aload_n 0, 1) := by decide +kernel
theorem d9_29 : decode prog_16_method_1_code 29 = .ok (.aload_n 2, 1) := by decide +kernel
theorem d9_30 : decode prog_16_method_1_code 30 = .ok (.putfield 26, 3) := by decide +kernel
theorem d9_33 : decode prog_16_method_1_code 33 = .ok (.aload_n 0, 1) := by decide +kernel
theorem d9_34 : decode prog_16_method_1_code 34 = .ok (.iload_n 3, 1) := by decide +kernel
theorem d9_35 : decode prog_16_method_1_code 35 = .ok (.putfield 29, 3) := by decide +kernel
theorem d9_38 : decode prog_16_method_1_code 38 = .ok (.aload_n 0, 1) := by decide +kernel
theorem d9_39 : decode prog_16_method_1_code 39 = .ok (.iload 4, 2) := by decide +kernel
theorem d9_41 : decode prog_16_method_1_code 41 = .ok (.putfield 33, 3) := by decide +kernel
theorem d9_44 : decode prog_16_method_1_code 44 = .ok (.aload_n 0, 1) := by decide +kernel
theorem d9_45 : decode prog_16_method_1_code 45 = .ok (.aload 5, 2) := by decide +kernel
theorem d9_47 : decode prog_16_method_1_code 47 = .ok (.putfield 37, 3) := by decide +kernel
theorem d9_50 : decode prog_16_method_1_code 50 = .ok (.return_, 1) := by decide +kernel
theorem ef_rmInit (m : MethodId) (x0 : Nat) (x1 : Nat) (x2 : Nat) (x3 : Int32) (x4 : Int32) (x5 : Value) (hx5 : x5.isRef = true) : entryFrame m #[(.ref x0), (.ref x1), (.ref x2), (.int x3), (.int x4), x5] 6 = mkF m 0 #[.val (.ref x0), .val (.ref x1), .val (.ref x2), .val (.int x3), .val (.int x4), .val x5] [] := by rcases ref_cases hx5 with rfl | ⟨_, rfl⟩ <;> rfl
def Q_rmInit (Z : State) (v pp ii : Nat) (t ro : Int32) (nm : Value) (h0 : Heap) (n0 : Nat) (vv : Option Value) (h : Heap) (L : List Loc) : Prop := vv = none ∧ Fr n0 L ∧ Keep h0 h [v] ∧ Old Z n0 h ∧ Exa Z h v "com/example/demarc/demarc/TransactionDefinition" ∧ Fld Z h v "com/example/demarc/demarc/TransactionDefinition" "propagation" "Lcom/example/demarc/demarc/Propagation;" (.ref pp) ∧ Fld Z h v "com/example/demarc/demarc/TransactionDefinition" "isolation" "Lcom/example/demarc/demarc/Isolation;" (.ref ii) ∧ Fld Z h v "com/example/demarc/demarc/TransactionDefinition" "timeoutSeconds" "I" (.int t) ∧ Fld Z h v "com/example/demarc/demarc/TransactionDefinition" "readOnly" "Z" (.int ro) ∧ Fld Z h v "com/example/demarc/demarc/TransactionDefinition" "name" "Ljava/lang/String;" nm
set_option maxRecDepth 65536 in
set_option maxHeartbeats 40000000 in
theorem rmInit (l : Launch) (Z : State) (a0 : Array Value) (hw : ∀ d ∈ tables_1, d.before a0 Z = true) (ws : List Jvm.Cond) (v pp ii : Nat) (t ro : Int32) (nm : Value) (h0 : Heap) (n0 : Nat) (Z0 : n0 ≤ h0.size) (O0 : Old Z n0 h0) (hNm : nm.isRef = true) (ht : ¬ (t < (-1 : Int32))) (hro : nar .boolean ro = ro) (E0 : Exa Z h0 v "com/example/demarc/demarc/TransactionDefinition") (F0 : Fld Z h0 v "com/example/demarc/demarc/TransactionDefinition" "propagation" "Lcom/example/demarc/demarc/Propagation;" .null) (F1 : Fld Z h0 v "com/example/demarc/demarc/TransactionDefinition" "isolation" "Lcom/example/demarc/demarc/Isolation;" .null) (F2 : Fld Z h0 v "com/example/demarc/demarc/TransactionDefinition" "timeoutSeconds" "I" (.int 0)) (F3 : Fld Z h0 v "com/example/demarc/demarc/TransactionDefinition" "readOnly" "Z" (.int 0)) (F4 : Fld Z h0 v "com/example/demarc/demarc/TransactionDefinition" "name" "Ljava/lang/String;" .null) (gv : n0 ≤ v) :
    MetFree l (⟨"com/example/demarc/demarc/TransactionDefinition", "<init>", "(Lcom/example/demarc/demarc/Propagation;Lcom/example/demarc/demarc/Isolation;IZLjava/lang/String;)V"⟩ : MethodName) (head1 (Jvm.Cond.code (⟨"com/example/demarc/demarc/TransactionDefinition", "<init>", "(Lcom/example/demarc/demarc/Propagation;Lcom/example/demarc/demarc/Isolation;IZLjava/lang/String;)V"⟩ : MethodName) prog_16_method_1_code 6 (none : Option FieldType) :: ws) ({ frames := 2, cells := 4, slots := 88, locals := 24 } : Room)) (fun aA uU => aA = #[(.ref v), (.ref pp), (.ref ii), (.int t), (.int ro), nm] ∧ Z.Warmed39 uU.vm ∧ uU.heap = h0) (fun _ _ _ _ _ => True) (fun _ uU oO uU' => ∃ vV lL, oO = .returned vV ∧ Q_rmInit Z v pp ii t ro nm h0 n0 vV uU'.heap lL ∧ ReturnedEndW uU oO uU' lL ({ frames := 2, cells := 4, slots := 88, locals := 24 } : Room).cells ({ frames := 2, cells := 4, slots := 88, locals := 24 } : Room).slots) := by
  refine MetFree.of_bodySF (plainFor_of_name pn_TransactionDefinition) hisR ?_
  intro p e s m args below meth c s₁ Bd hml0 hP hK
  obtain ⟨rfl, hZ, hh⟩ := hP
  have hx := Bd.exec
  have hby := Bd.bytes
  have hml : c.maxLocals = 6 := hml0
  have hown : s.vm.findClass "com/example/demarc/demarc/TransactionDefinition" = some m.cls := findClass_of_methodNamed Bd.named
  have hnm := (name_of_methodNamed Bd.named Bd.method).1
  have X0 : Stand p l e ({ frames := 2, cells := 4, slots := 88, locals := 24 } : Room) (s.setVm s.vm) m #[(.ref v), (.ref pp), (.ref ii), (.int t), (.int ro), nm] below meth c s₁ [] 0 0 := Stand.of_body Bd
  have e0 : s₁.heap = h0 := by rw [← hh, Bd.state]; rfl
  have N0 := Fr.nil n0
  have hS : s.Since s.vm 0 := (State.WarmedH.refl s).since 0
  have hk : 0 ≤ h0.size := Nat.zero_le _
  have hZ : Z.Warmed39 (s.setVm s.vm).vm := hZ
  have hown : (s.setVm s.vm).vm.findClass "com/example/demarc/demarc/TransactionDefinition" = some m.cls := hown
  have lV : @LT.lt Nat _ v h0.size := E0.lt
  refine oEnterW (oCast (ef_rmInit m v pp ii t ro nm hNm) ?_)
  show oGl p e below (s₁.setTop (mkF m 0 #[.val (.ref v), .val (.ref pp), .val (.ref ii), .val (.int t), .val (.int ro), .val nm] [])) _
  refine saloadN X0 hx (hb hby d9_0) rfl rfl rfl (pc' := 1) ?_
  have hz1 : n0 ≤ h0.size := by omega
  obtain ⟨_, _, ⟨T1, L1, k1, n1⟩, -, X1, ⟨Lc1, hQ1, l1, y1, z1⟩, st1⟩ := X0.specialBack hx (y := (⟨"java/lang/Record", "<init>", "()V"⟩ : MethodName)) rfl hown (mvT hZ (hw _ (List.mem_of_getElem? (i := 52) rfl))) (mvT hZ (hw _ (List.mem_of_getElem? (i := 53) rfl))) (mvT hZ (hw _ (List.mem_of_getElem? (i := 56) rfl))) (by decide) (backOf (W := 0) (rmRec l Z a0 hw [] v h0 n0 hz1 ) hZ (hw _ (List.mem_of_getElem? (i := 56) rfl)) (hw _ (List.mem_of_getElem? (i := 55) rfl)) (by decide) (by decide)) (g := (mkF m 1 #[.val (.ref v), .val (.ref pp), .val (.ref ii), .val (.int t), .val (.int ro), .val nm] [(.ref v)])) rfl (by rw [hml]; rfl) (Steps.refl _) (a := v) (argsL := []) (rest := []) (lenOf pd_4 rfl) rfl (by show 2 * 0 + _ ≤ _; exact Nat.le_of_eq rfl) (hb hby d9_1) (fun _ _ => ⟨rfl, e0, (by decide : 0 + 0 ≤ _), (by decide : 0 + 0 ≤ _)⟩)
  dsimp only [Pt.U, Pt.locs, Pt.cells, Pt.slots] at X1 l1 y1 z1 st1 hQ1
  subst l1 y1 z1
  obtain ⟨rfl, N1q, eh1⟩ := hQ1
  have N1 := Fr.app N0 N1q
  refine oSt st1 ?_
  show oGl p e below (T1.setTop (mkF m 4 #[.val (.ref v), .val (.ref pp), .val (.ref ii), .val (.int t), .val (.int ro), .val nm] [])) _
  refine saloadN X1 hx (hb hby d9_4) rfl rfl rfl (pc' := 5) ?_
  obtain ⟨a2, T2, h2, k2, X2, e2, E2, hS, hk, hZ, hown, st2⟩ := ldcS X1 hx hZ hown (hw _ (List.mem_of_getElem? (i := 58) rfl)) (own_sa hw) eh1 hS (by omega) (g := (mkF m 5 #[.val (.ref v), .val (.ref pp), .val (.ref ii), .val (.int t), .val (.int ro), .val nm] [(.ref pp)])) rfl (hb hby d9_5) (n := 44) (by decide) (by decide) (by decide) (by decide)
  refine oOn st2 ?_
  have z3 : h0.size ≤ h2.size := E2.1
  show oGl p e below (T2.setTop (mkF m 7 #[.val (.ref v), .val (.ref pp), .val (.ref ii), .val (.int t), .val (.int ro), .val nm] [(.ref a2), (.ref pp)])) _
  have hz4 : n0 ≤ h2.size := by omega
  obtain ⟨_, _, ⟨T4, L4, k4, n4⟩, -, X4, ⟨Lc4, hQ4, l4, y4, z4⟩, st4⟩ := Jvm.LawKit.callS X2 hx (y := (⟨"java/util/Objects", "requireNonNull", "(Ljava/lang/Object;Ljava/lang/String;)Ljava/lang/Object;"⟩ : MethodName)) hown (mvT hZ (hw _ (List.mem_of_getElem? (i := 61) rfl))) (mvT hZ (hw _ (List.mem_of_getElem? (i := 62) rfl))) (mvT hZ (hw _ (List.mem_of_getElem? (i := 63) rfl))) (mvT hZ (hw _ (List.mem_of_getElem? (i := 64) rfl))) (by decide) (backOf (W := 0) (rmReq l Z a0 hw [] pp a2 h2 n0 hz4 ) hZ (hw _ (List.mem_of_getElem? (i := 64) rfl)) (hw _ (List.mem_of_getElem? (i := 63) rfl)) (by decide) (by decide)) (g := (mkF m 7 #[.val (.ref v), .val (.ref pp), .val (.ref ii), .val (.int t), .val (.int ro), .val nm] [(.ref a2), (.ref pp)])) rfl (by rw [hml]; rfl) (argsL := [(.ref pp), (.ref a2)]) (rest := []) (lenOf pd_5 rfl) rfl (by show 2 * 0 + _ ≤ _; exact Nat.le_of_eq rfl) (hb hby d9_7) (fun _ _ => ⟨rfl, e2, (by decide : 2 + 0 ≤ _), (by decide : 48 + 0 ≤ _)⟩)
  dsimp only [Pt.U, Pt.locs, Pt.cells, Pt.slots] at X4 l4 y4 z4 st4 hQ4
  subst l4 y4 z4
  obtain ⟨rfl, N4q, eh4⟩ := hQ4
  have N4 := Fr.app N1 N4q
  refine oOn st4 ?_
  show oGl p e below (T4.setTop (mkF m 10 #[.val (.ref v), .val (.ref pp), .val (.ref ii), .val (.int t), .val (.int ro), .val nm] [(.ref pp)])) _
  refine spop X4 hx (hb hby d9_10) rfl rfl (pc' := 11) ?_
  refine saloadN X4 hx (hb hby d9_11) rfl rfl rfl (pc' := 12) ?_
  obtain ⟨a5, T5, h5, k5, X5, e5, E5, hS, hk, hZ, hown, st5⟩ := ldcS X4 hx hZ hown (hw _ (List.mem_of_getElem? (i := 65) rfl)) (own_sa hw) eh4 hS (by omega) (g := (mkF m 12 #[.val (.ref v), .val (.ref pp), .val (.ref ii), .val (.int t), .val (.int ro), .val nm] [(.ref ii)])) rfl (hb hby d9_12) (n := 36) (by decide) (by decide) (by decide) (by decide)
  refine oOn st5 ?_
  have z6 : h2.size ≤ h5.size := E5.1
  show oGl p e below (T5.setTop (mkF m 14 #[.val (.ref v), .val (.ref pp), .val (.ref ii), .val (.int t), .val (.int ro), .val nm] [(.ref a5), (.ref ii)])) _
  have hz7 : n0 ≤ h5.size := by omega
  obtain ⟨_, _, ⟨T7, L7, k7, n7⟩, -, X7, ⟨Lc7, hQ7, l7, y7, z7⟩, st7⟩ := Jvm.LawKit.callS X5 hx (y := (⟨"java/util/Objects", "requireNonNull", "(Ljava/lang/Object;Ljava/lang/String;)Ljava/lang/Object;"⟩ : MethodName)) hown (mvT hZ (hw _ (List.mem_of_getElem? (i := 61) rfl))) (mvT hZ (hw _ (List.mem_of_getElem? (i := 62) rfl))) (mvT hZ (hw _ (List.mem_of_getElem? (i := 63) rfl))) (mvT hZ (hw _ (List.mem_of_getElem? (i := 64) rfl))) (by decide) (backOf (W := 0) (rmReq l Z a0 hw [] ii a5 h5 n0 hz7 ) hZ (hw _ (List.mem_of_getElem? (i := 64) rfl)) (hw _ (List.mem_of_getElem? (i := 63) rfl)) (by decide) (by decide)) (g := (mkF m 14 #[.val (.ref v), .val (.ref pp), .val (.ref ii), .val (.int t), .val (.int ro), .val nm] [(.ref a5), (.ref ii)])) rfl (by rw [hml]; rfl) (argsL := [(.ref ii), (.ref a5)]) (rest := []) (lenOf pd_5 rfl) rfl (by show 2 * 0 + _ ≤ _; exact Nat.le_of_eq rfl) (hb hby d9_14) (fun _ _ => ⟨rfl, e5, (by decide : 4 + 0 ≤ _), (by decide : 88 + 0 ≤ _)⟩)
  dsimp only [Pt.U, Pt.locs, Pt.cells, Pt.slots] at X7 l7 y7 z7 st7 hQ7
  subst l7 y7 z7
  obtain ⟨rfl, N7q, eh7⟩ := hQ7
  have N7 := Fr.app N4 N7q
  refine oOn st7 ?_
  show oGl p e below (T7.setTop (mkF m 17 #[.val (.ref v), .val (.ref pp), .val (.ref ii), .val (.int t), .val (.int ro), .val nm] [(.ref ii)])) _
  refine spop X7 hx (hb hby d9_17) rfl rfl (pc' := 18) ?_
  refine siloadN X7 hx (hb hby d9_18) rfl rfl (pc' := 19) ?_
  have hz8 : n0 ≤ h5.size := by omega
  obtain ⟨_, _, ⟨T8, L8, k8, n8⟩, -, X8, ⟨Lc8, hQ8, l8, y8, z8⟩, st8⟩ := Jvm.LawKit.callS X7 hx (y := (⟨"com/example/demarc/demarc/TransactionDefinition", "requireValidTimeout", "(I)I"⟩ : MethodName)) hown (mvT hZ (hw _ (List.mem_of_getElem? (i := 66) rfl))) (mvT hZ (hw _ (List.mem_of_getElem? (i := 67) rfl))) (mvT hZ (hw _ (List.mem_of_getElem? (i := 48) rfl))) (mvT hZ (hw _ (List.mem_of_getElem? (i := 68) rfl))) (by decide) (backOf (W := 0) (rmTmo l Z a0 hw [] t h5 n0 hz8 ht) hZ (hw _ (List.mem_of_getElem? (i := 68) rfl)) (hw _ (List.mem_of_getElem? (i := 48) rfl)) (by decide) (by decide)) (g := (mkF m 19 #[.val (.ref v), .val (.ref pp), .val (.ref ii), .val (.int t), .val (.int ro), .val nm] [(.int t)])) rfl (by rw [hml]; rfl) (argsL := [(.int t)]) (rest := []) (lenOf pd_6 rfl) rfl (by show 2 * 0 + _ ≤ _; exact Nat.le_of_eq rfl) (hb hby d9_19) (fun _ _ => ⟨rfl, eh7, (by decide : 4 + 0 ≤ _), (by decide : 88 + 0 ≤ _)⟩)
  dsimp only [Pt.U, Pt.locs, Pt.cells, Pt.slots] at X8 l8 y8 z8 st8 hQ8
  subst l8 y8 z8
  obtain ⟨rfl, N8q, eh8⟩ := hQ8
  have N8 := Fr.app N7 N8q
  refine oOn st8 ?_
  show oGl p e below (T8.setTop (mkF m 22 #[.val (.ref v), .val (.ref pp), .val (.ref ii), .val (.int t), .val (.int ro), .val nm] [(.int t)])) _
  refine spop X8 hx (hb hby d9_22) rfl rfl (pc' := 23) ?_
  refine saloadN X8 hx (hb hby d9_23) rfl rfl rfl (pc' := 24) ?_
  refine saloadN X8 hx (hb hby d9_24) rfl rfl rfl (pc' := 25) ?_
  have f10 := ((F0.ext E2).ext E5)
  have f11 := ((E0.ext E2).ext E5)
  obtain ⟨T9, h9, X9, e9, W9, st9⟩ := putF X8 hx hZ hown (host := "") (Or.inl (hw _ (List.mem_of_getElem? (i := 69) rfl))) Via.refl eh8 f10 f11 (Or.inr ⟨(hw _ (List.mem_of_getElem? (i := 70) rfl)), rfl, hnm⟩) (hw _ (List.mem_of_getElem? (i := 47) rfl)) (ty := (.object "com/example/demarc/demarc/Propagation")) (by decide) rfl rfl (g := (mkF m 25 #[.val (.ref v), .val (.ref pp), .val (.ref ii), .val (.int t), .val (.int ro), .val nm] [(.ref pp), (.ref v)])) rfl rfl (hb hby d9_25)
  refine oOn st9 ?_
  have z12 : h5.size ≤ h9.size := Nat.le_of_eq W9.size.symm
  have N9 := Fr.snoc X9 N8 (by omega)
  have f9 := Fld.same W9 f10
  show oGl p e below (T9.setTop (mkF m 28 #[.val (.ref v), .val (.ref pp), .val (.ref ii), .val (.int t), .val (.int ro), .val nm] [])) _
  refine saloadN X9 hx (hb hby d9_28) rfl rfl rfl (pc' := 29) ?_
  refine saloadN X9 hx (hb hby d9_29) rfl rfl rfl (pc' := 30) ?_
  have f14 := (((F1.ext E2).ext E5).other W9 (Or.inr (slot_ne (Or.inr (hw _ (List.mem_of_getElem? (i := 72) rfl))) (Or.inr (hw _ (List.mem_of_getElem? (i := 70) rfl))) (by decide) (t := (.object "com/example/demarc/demarc/Isolation")) (t' := (.object "com/example/demarc/demarc/Propagation")) (by decide) (by decide))))
  have f15 := (f11.wr W9)
  obtain ⟨T13, h13, X13, e13, W13, st13⟩ := putF X9 hx hZ hown (host := "") (Or.inl (hw _ (List.mem_of_getElem? (i := 71) rfl))) Via.refl e9 f14 f15 (Or.inr ⟨(hw _ (List.mem_of_getElem? (i := 72) rfl)), rfl, hnm⟩) (hw _ (List.mem_of_getElem? (i := 47) rfl)) (ty := (.object "com/example/demarc/demarc/Isolation")) (by decide) rfl rfl (g := (mkF m 30 #[.val (.ref v), .val (.ref pp), .val (.ref ii), .val (.int t), .val (.int ro), .val nm] [(.ref ii), (.ref v)])) rfl rfl (hb hby d9_30)
  refine oOn st13 ?_
  have z16 : h9.size ≤ h13.size := Nat.le_of_eq W13.size.symm
  have N13 := Fr.snoc X13 N9 (by omega)
  have f13 := Fld.same W13 f14
  show oGl p e below (T13.setTop (mkF m 33 #[.val (.ref v), .val (.ref pp), .val (.ref ii), .val (.int t), .val (.int ro), .val nm] [])) _
  refine saloadN X13 hx (hb hby d9_33) rfl rfl rfl (pc' := 34) ?_
  refine siloadN X13 hx (hb hby d9_34) rfl rfl (pc' := 35) ?_
  have f18 := ((((F2.ext E2).ext E5).other W9 (Or.inr (slot_ne (Or.inr (hw _ (List.mem_of_getElem? (i := 74) rfl))) (Or.inr (hw _ (List.mem_of_getElem? (i := 70) rfl))) (by decide) (t := .int) (t' := (.object "com/example/demarc/demarc/Propagation")) (by decide) (by decide)))).other W13 (Or.inr (slot_ne (Or.inr (hw _ (List.mem_of_getElem? (i := 74) rfl))) (Or.inr (hw _ (List.mem_of_getElem? (i := 72) rfl))) (by decide) (t := .int) (t' := (.object "com/example/demarc/demarc/Isolation")) (by decide) (by decide))))
  have f19 := (f15.wr W13)
  obtain ⟨T17, h17, X17, e17, W17, st17⟩ := putF X13 hx hZ hown (host := "") (Or.inl (hw _ (List.mem_of_getElem? (i := 73) rfl))) Via.refl e13 f18 f19 (Or.inr ⟨(hw _ (List.mem_of_getElem? (i := 74) rfl)), rfl, hnm⟩) (hw _ (List.mem_of_getElem? (i := 47) rfl)) (ty := .int) (by decide) rfl rfl (g := (mkF m 35 #[.val (.ref v), .val (.ref pp), .val (.ref ii), .val (.int t), .val (.int ro), .val nm] [(.int t), (.ref v)])) rfl rfl (hb hby d9_35)
  refine oOn st17 ?_
  have z20 : h13.size ≤ h17.size := Nat.le_of_eq W17.size.symm
  have N17 := Fr.snoc X17 N13 (by omega)
  have f17 := Fld.same W17 f18
  show oGl p e below (T17.setTop (mkF m 38 #[.val (.ref v), .val (.ref pp), .val (.ref ii), .val (.int t), .val (.int ro), .val nm] [])) _
  refine saloadN X17 hx (hb hby d9_38) rfl rfl rfl (pc' := 39) ?_
  refine siload X17 hx (hb hby d9_39) rfl rfl (pc' := 41) ?_
  have f22 := (((((F3.ext E2).ext E5).other W9 (Or.inr (slot_ne (Or.inr (hw _ (List.mem_of_getElem? (i := 76) rfl))) (Or.inr (hw _ (List.mem_of_getElem? (i := 70) rfl))) (by decide) (t := .boolean) (t' := (.object "com/example/demarc/demarc/Propagation")) (by decide) (by decide)))).other W13 (Or.inr (slot_ne (Or.inr (hw _ (List.mem_of_getElem? (i := 76) rfl))) (Or.inr (hw _ (List.mem_of_getElem? (i := 72) rfl))) (by decide) (t := .boolean) (t' := (.object "com/example/demarc/demarc/Isolation")) (by decide) (by decide)))).other W17 (Or.inr (slot_ne (Or.inr (hw _ (List.mem_of_getElem? (i := 76) rfl))) (Or.inr (hw _ (List.mem_of_getElem? (i := 74) rfl))) (by decide) (t := .boolean) (t' := .int) (by decide) (by decide))))
  have f23 := (f19.wr W17)
  obtain ⟨T21, h21, X21, e21, W21, st21⟩ := putFN X17 hx hZ hown (hw _ (List.mem_of_getElem? (i := 75) rfl)) Via.refl e17 f22 f23 (Or.inr ⟨(hw _ (List.mem_of_getElem? (i := 76) rfl)), rfl, hnm⟩) (hw _ (List.mem_of_getElem? (i := 47) rfl)) (ty := .boolean) (v' := (.int (nar .boolean ro))) (by decide) rfl (fits_nar_bool _) (g := (mkF m 41 #[.val (.ref v), .val (.ref pp), .val (.ref ii), .val (.int t), .val (.int ro), .val nm] [(.int ro), (.ref v)])) rfl rfl (hb hby d9_41)
  refine oOn st21 ?_
  have z24 : h17.size ≤ h21.size := Nat.le_of_eq W21.size.symm
  have N21 := Fr.snoc X21 N17 (by omega)
  have f21 := Fld.same W21 f22
  show oGl p e below (T21.setTop (mkF m 44 #[.val (.ref v), .val (.ref pp), .val (.ref ii), .val (.int t), .val (.int ro), .val nm] [])) _
  refine saloadN X21 hx (hb hby d9_44) rfl rfl rfl (pc' := 45) ?_
  refine saload X21 hx (hb hby d9_45) rfl rfl hNm (pc' := 47) ?_
  have f26 := ((((((F4.ext E2).ext E5).other W9 (Or.inr (slot_ne (Or.inr (hw _ (List.mem_of_getElem? (i := 78) rfl))) (Or.inr (hw _ (List.mem_of_getElem? (i := 70) rfl))) (by decide) (t := (.object "java/lang/String")) (t' := (.object "com/example/demarc/demarc/Propagation")) (by decide) (by decide)))).other W13 (Or.inr (slot_ne (Or.inr (hw _ (List.mem_of_getElem? (i := 78) rfl))) (Or.inr (hw _ (List.mem_of_getElem? (i := 72) rfl))) (by decide) (t := (.object "java/lang/String")) (t' := (.object "com/example/demarc/demarc/Isolation")) (by decide) (by decide)))).other W17 (Or.inr (slot_ne (Or.inr (hw _ (List.mem_of_getElem? (i := 78) rfl))) (Or.inr (hw _ (List.mem_of_getElem? (i := 74) rfl))) (by decide) (t := (.object "java/lang/String")) (t' := .int) (by decide) (by decide)))).other W21 (Or.inr (slot_ne (Or.inr (hw _ (List.mem_of_getElem? (i := 78) rfl))) (Or.inr (hw _ (List.mem_of_getElem? (i := 76) rfl))) (by decide) (t := (.object "java/lang/String")) (t' := .boolean) (by decide) (by decide))))
  have f27 := (f23.wr W21)
  obtain ⟨T25, h25, X25, e25, W25, st25⟩ := putF X21 hx hZ hown (host := "") (Or.inl (hw _ (List.mem_of_getElem? (i := 77) rfl))) Via.refl e21 f26 f27 (Or.inr ⟨(hw _ (List.mem_of_getElem? (i := 78) rfl)), rfl, hnm⟩) (hw _ (List.mem_of_getElem? (i := 47) rfl)) (ty := (.object "java/lang/String")) (by decide) (narrow_ref rfl hNm) (fits_refO rfl hNm) (g := (mkF m 47 #[.val (.ref v), .val (.ref pp), .val (.ref ii), .val (.int t), .val (.int ro), .val nm] [nm, (.ref v)])) rfl rfl (hb hby d9_47)
  refine oOn st25 ?_
  have z28 : h21.size ≤ h25.size := Nat.le_of_eq W25.size.symm
  have N25 := Fr.snoc X25 N21 (by omega)
  have f25 := Fld.same W25 f26
  show oGl p e below (T25.setTop (mkF m 50 #[.val (.ref v), .val (.ref pp), .val (.ref ii), .val (.int t), .val (.int ro), .val nm] [])) _
  have kp29 : Keep h0 h25 [v] := ((((((((Keep.refl h0 [v]).ext E2).ext E5).wr W9 (Or.inl (List.mem_of_getElem? (i := 0) rfl))).wr W13 (Or.inl (List.mem_of_getElem? (i := 0) rfl))).wr W17 (Or.inl (List.mem_of_getElem? (i := 0) rfl))).wr W21 (Or.inl (List.mem_of_getElem? (i := 0) rfl))).wr W25 (Or.inl (List.mem_of_getElem? (i := 0) rfl)))
  have f30 := ((((f9.other W13 (Or.inr (slot_ne (Or.inr (hw _ (List.mem_of_getElem? (i := 70) rfl))) (Or.inr (hw _ (List.mem_of_getElem? (i := 72) rfl))) (by decide) (t := (.object "com/example/demarc/demarc/Propagation")) (t' := (.object "com/example/demarc/demarc/Isolation")) (by decide) (by decide)))).other W17 (Or.inr (slot_ne (Or.inr (hw _ (List.mem_of_getElem? (i := 70) rfl))) (Or.inr (hw _ (List.mem_of_getElem? (i := 74) rfl))) (by decide) (t := (.object "com/example/demarc/demarc/Propagation")) (t' := .int) (by decide) (by decide)))).other W21 (Or.inr (slot_ne (Or.inr (hw _ (List.mem_of_getElem? (i := 70) rfl))) (Or.inr (hw _ (List.mem_of_getElem? (i := 76) rfl))) (by decide) (t := (.object "com/example/demarc/demarc/Propagation")) (t' := .boolean) (by decide) (by decide)))).other W25 (Or.inr (slot_ne (Or.inr (hw _ (List.mem_of_getElem? (i := 70) rfl))) (Or.inr (hw _ (List.mem_of_getElem? (i := 78) rfl))) (by decide) (t := (.object "com/example/demarc/demarc/Propagation")) (t' := (.object "java/lang/String")) (by decide) (by decide))))
  have f31 := (((f13.other W17 (Or.inr (slot_ne (Or.inr (hw _ (List.mem_of_getElem? (i := 72) rfl))) (Or.inr (hw _ (List.mem_of_getElem? (i := 74) rfl))) (by decide) (t := (.object "com/example/demarc/demarc/Isolation")) (t' := .int) (by decide) (by decide)))).other W21 (Or.inr (slot_ne (Or.inr (hw _ (List.mem_of_getElem? (i := 72) rfl))) (Or.inr (hw _ (List.mem_of_getElem? (i := 76) rfl))) (by decide) (t := (.object "com/example/demarc/demarc/Isolation")) (t' := .boolean) (by decide) (by decide)))).other W25 (Or.inr (slot_ne (Or.inr (hw _ (List.mem_of_getElem? (i := 72) rfl))) (Or.inr (hw _ (List.mem_of_getElem? (i := 78) rfl))) (by decide) (t := (.object "com/example/demarc/demarc/Isolation")) (t' := (.object "java/lang/String")) (by decide) (by decide))))
  have f32 := ((f17.other W21 (Or.inr (slot_ne (Or.inr (hw _ (List.mem_of_getElem? (i := 74) rfl))) (Or.inr (hw _ (List.mem_of_getElem? (i := 76) rfl))) (by decide) (t := .int) (t' := .boolean) (by decide) (by decide)))).other W25 (Or.inr (slot_ne (Or.inr (hw _ (List.mem_of_getElem? (i := 74) rfl))) (Or.inr (hw _ (List.mem_of_getElem? (i := 78) rfl))) (by decide) (t := .int) (t' := (.object "java/lang/String")) (by decide) (by decide))))
  have f33 := (f21.other W25 (Or.inr (slot_ne (Or.inr (hw _ (List.mem_of_getElem? (i := 76) rfl))) (Or.inr (hw _ (List.mem_of_getElem? (i := 78) rfl))) (by decide) (t := .boolean) (t' := (.object "java/lang/String")) (by decide) (by decide))))
  have f34 := (((((((O0.ext E2).ext E5).wr W9 (by omega)).wr W13 (by omega)).wr W17 (by omega)).wr W21 (by omega)).wr W25 (by omega))
  have f35 := (f27.wr W25)
  refine oRet0W X25 hS (by rw [e25]; omega) hx Bd.notSynchronized Bd.returns (hb hby d9_50) (by decide) (by decide) ?_
  show Q_rmInit Z v pp ii t ro nm h0 n0 _ T25.heap _
  rw [e25]
  exact ⟨rfl, N25, kp29, f34, f35, f30, f31, f32, by rw [← hro]; exact f33, f25⟩
theorem d13_0 : decode prog_16_method_5_code 0 = .ok (.new 18, 3) := by decide +kernel
theorem d13_3 : decode prog_16_method_5_code 3 = .ok (.dup, 1) := by decide +kernel
theorem d13_4 : decode prog_16_method_5_code 4 = .ok (.aload_n 0, 1) := by decide +kernel
theorem d13_5 : decode prog_16_method_5_code 5 = .ok (.getfield 23, 3) := by decide +kernel
theorem d13_8 : decode prog_16_method_5_code 8 = .ok (.aload_n 1, 1) := by decide +kernel
theorem d13_9 : decode prog_16_method_5_code 9 = .ok (.aload_n 0, 1) := by decide +kernel
theorem d13_10 : decode prog_16_method_5_code 10 = .ok (.getfield 29, 3) := by decide +kernel
theorem d13_13 : decode prog_16_method_5_code 13 = .ok (.aload_n 0, 1) := by decide +kernel
theorem d13_14 : decode prog_16_method_5_code 14 = .ok (.getfield 33, 3) := by decide +kernel
theorem d13_17 : decode prog_16_method_5_code 17 = .ok (.aload_n 0, 1) := by decide +kernel
theorem d13_18 : decode prog_16_method_5_code 18 = .ok (.getfield 37, 3) := by decide +kernel
theorem d13_21 : decode prog_16_method_5_code 21 = .ok (.invokespecial 54, 3) := by decide +kernel
theorem pd_7 : parseMethodDescriptor "(Lcom/example/demarc/demarc/Propagation;Lcom/example/demarc/demarc/Isolation;IZLjava/lang/String;)V" = some ⟨[(.object "com/example/demarc/demarc/Propagation"), (.object "com/example/demarc/demarc/Isolation"), .int, .boolean, (.object "java/lang/String")], none⟩ := by decide +kernel
theorem d13_24 : decode prog_16_method_5_code 24 = .ok (.areturn, 1) := by decide +kernel
theorem ef_rmWith (m : MethodId) (x0 : Nat) (x1 : Nat)  : entryFrame m #[(.ref x0), (.ref x1)] 2 = mkF m 0 #[.val (.ref x0), .val (.ref x1)] [] := by first | (simp [entryFrame, mkF, argsToLocals, Value.category, maxLocals]; done) | rfl
def Q_rmWith (Z : State) (v pp ii jj : Nat) (t ro : Int32) (nm : Value) (h0 : Heap) (n0 : Nat) (vv : Option Value) (h : Heap) (L : List Loc) : Prop := ∃ r : Nat, vv = some (.ref r) ∧ Fr n0 L ∧ Keep h0 h [] ∧ Old Z n0 h ∧ h0.size ≤ r ∧ Exa Z h r "com/example/demarc/demarc/TransactionDefinition" ∧ Fld Z h r "com/example/demarc/demarc/TransactionDefinition" "propagation" "Lcom/example/demarc/demarc/Propagation;" (.ref pp) ∧ Fld Z h r "com/example/demarc/demarc/TransactionDefinition" "isolation" "Lcom/example/demarc/demarc/Isolation;" (.ref jj) ∧ Fld Z h r "com/example/demarc/demarc/TransactionDefinition" "timeoutSeconds" "I" (.int t) ∧ Fld Z h r "com/example/demarc/demarc/TransactionDefinition" "readOnly" "Z" (.int ro) ∧ Fld Z h r "com/example/demarc/demarc/TransactionDefinition" "name" "Ljava/lang/String;" nm
set_option maxRecDepth 65536 in
set_option maxHeartbeats 40000000 in
theorem rmWith (l : Launch) (Z : State) (a0 : Array Value) (hw : ∀ d ∈ tables_1, d.before a0 Z = true) (ws : List Jvm.Cond) (v pp ii jj : Nat) (t ro : Int32) (nm : Value) (h0 : Heap) (n0 : Nat) (Z0 : n0 ≤ h0.size) (O0 : Old Z n0 h0) (hNm : nm.isRef = true) (ht : ¬ (t < (-1 : Int32))) (hro : nar .boolean ro = ro) (E0 : Exa Z h0 v "com/example/demarc/demarc/TransactionDefinition") (F0 : Fld Z h0 v "com/example/demarc/demarc/TransactionDefinition" "propagation" "Lcom/example/demarc/demarc/Propagation;" (.ref pp)) (F1 : Fld Z h0 v "com/example/demarc/demarc/TransactionDefinition" "isolation" "Lcom/example/demarc/demarc/Isolation;" (.ref ii)) (F2 : Fld Z h0 v "com/example/demarc/demarc/TransactionDefinition" "timeoutSeconds" "I" (.int t)) (F3 : Fld Z h0 v "com/example/demarc/demarc/TransactionDefinition" "readOnly" "Z" (.int ro)) (F4 : Fld Z h0 v "com/example/demarc/demarc/TransactionDefinition" "name" "Ljava/lang/String;" nm) :
    MetFree l (⟨"com/example/demarc/demarc/TransactionDefinition", "withIsolation", "(Lcom/example/demarc/demarc/Isolation;)Lcom/example/demarc/demarc/TransactionDefinition;"⟩ : MethodName) (head1 (Jvm.Cond.code (⟨"com/example/demarc/demarc/TransactionDefinition", "withIsolation", "(Lcom/example/demarc/demarc/Isolation;)Lcom/example/demarc/demarc/TransactionDefinition;"⟩ : MethodName) prog_16_method_5_code 2 (some (.object "com/example/demarc/demarc/TransactionDefinition")) :: ws) ({ frames := 3, cells := 5, slots := 93, locals := 42 } : Room)) (fun aA uU => aA = #[(.ref v), (.ref jj)] ∧ Z.Warmed39 uU.vm ∧ uU.heap = h0) (fun _ _ _ _ _ => True) (fun _ uU oO uU' => ∃ vV lL, oO = .returned vV ∧ Q_rmWith Z v pp ii jj t ro nm h0 n0 vV uU'.heap lL ∧ ReturnedEndW uU oO uU' lL ({ frames := 3, cells := 5, slots := 93, locals := 42 } : Room).cells ({ frames := 3, cells := 5, slots := 93, locals := 42 } : Room).slots) := by
  refine MetFree.of_bodySF (plainFor_of_name pn_TransactionDefinition) hisR ?_
  intro p e s m args below meth c s₁ Bd hml0 hP hK
  obtain ⟨rfl, hZ, hh⟩ := hP
  have hx := Bd.exec
  have hby := Bd.bytes
  have hml : c.maxLocals = 2 := hml0
  have hown : s.vm.findClass "com/example/demarc/demarc/TransactionDefinition" = some m.cls := findClass_of_methodNamed Bd.named
  have hnm := (name_of_methodNamed Bd.named Bd.method).1
  have X0 : Stand p l e ({ frames := 3, cells := 5, slots := 93, locals := 42 } : Room) (s.setVm s.vm) m #[(.ref v), (.ref jj)] below meth c s₁ [] 0 0 := Stand.of_body Bd
  have e0 : s₁.heap = h0 := by rw [← hh, Bd.state]; rfl
  have N0 := Fr.nil n0
  have hS : s.Since s.vm 0 := (State.WarmedH.refl s).since 0
  have hk : 0 ≤ h0.size := Nat.zero_le _
  have hZ : Z.Warmed39 (s.setVm s.vm).vm := hZ
  have hown : (s.setVm s.vm).vm.findClass "com/example/demarc/demarc/TransactionDefinition" = some m.cls := hown
  have lV : @LT.lt Nat _ v h0.size := E0.lt
  refine oEnterW (oCast (ef_rmWith m v jj ) ?_)
  show oGl p e below (s₁.setTop (mkF m 0 #[.val (.ref v), .val (.ref jj)] [])) _
  obtain ⟨T1, h1, X1, e1, E1, A1, D1, -, st1⟩ := newO X0 hx hZ hown (hw _ (List.mem_of_getElem? (i := 84) rfl)) (hw _ (List.mem_of_getElem? (i := 47) rfl)) (hw _ (List.mem_of_getElem? (i := 48) rfl)) e0 (g := (mkF m 0 #[.val (.ref v), .val (.ref jj)] [])) rfl (hb hby d13_0) (by decide) (by decide)
  obtain ⟨a1, g1⟩ : ∃ z, z = h0.size := ⟨_, rfl⟩
  rw [← g1] at A1 D1 st1
  refine oOn st1 ?_
  have z2 : h0.size ≤ h1.size := E1.1
  have lt1 : a1 < h1.size := A1.lt
  have f1_70 : Fld Z h1 a1 "com/example/demarc/demarc/TransactionDefinition" "propagation" "Lcom/example/demarc/demarc/Propagation;" .null := D1 (Or.inr (hw _ (List.mem_of_getElem? (i := 70) rfl))) (ty := (.object "com/example/demarc/demarc/Propagation")) (by decide)
  have f1_72 : Fld Z h1 a1 "com/example/demarc/demarc/TransactionDefinition" "isolation" "Lcom/example/demarc/demarc/Isolation;" .null := D1 (Or.inr (hw _ (List.mem_of_getElem? (i := 72) rfl))) (ty := (.object "com/example/demarc/demarc/Isolation")) (by decide)
  have f1_74 : Fld Z h1 a1 "com/example/demarc/demarc/TransactionDefinition" "timeoutSeconds" "I" (.int (0 : Int32)) := D1 (Or.inr (hw _ (List.mem_of_getElem? (i := 74) rfl))) (ty := .int) (by decide)
  have f1_76 : Fld Z h1 a1 "com/example/demarc/demarc/TransactionDefinition" "readOnly" "Z" (.int (0 : Int32)) := D1 (Or.inr (hw _ (List.mem_of_getElem? (i := 76) rfl))) (ty := .boolean) (by decide)
  have f1_78 : Fld Z h1 a1 "com/example/demarc/demarc/TransactionDefinition" "name" "Ljava/lang/String;" .null := D1 (Or.inr (hw _ (List.mem_of_getElem? (i := 78) rfl))) (ty := (.object "java/lang/String")) (by decide)
  show oGl p e below (T1.setTop (mkF m 3 #[.val (.ref v), .val (.ref jj)] [(.ref a1)])) _
  refine sdup X1 hx (hb hby d13_3) rfl rfl (pc' := 4) ?_
  refine saloadN X1 hx (hb hby d13_4) rfl rfl rfl (pc' := 5) ?_
  have f4 := (F0.ext E1)
  obtain ⟨T3, X3, e3, st3⟩ := getF X1 hx hZ hown (host := "") (Or.inl (hw _ (List.mem_of_getElem? (i := 69) rfl))) Via.refl e1 f4 (g := (mkF m 5 #[.val (.ref v), .val (.ref jj)] [(.ref v), (.ref a1), (.ref a1)])) rfl rfl (hb hby d13_5)
  refine oOn st3 ?_
  show oGl p e below (T3.setTop (mkF m 8 #[.val (.ref v), .val (.ref jj)] [(.ref pp), (.ref a1), (.ref a1)])) _
  refine saloadN X3 hx (hb hby d13_8) rfl rfl rfl (pc' := 9) ?_
  refine saloadN X3 hx (hb hby d13_9) rfl rfl rfl (pc' := 10) ?_
  have f6 := (F2.ext E1)
  obtain ⟨T5, X5, e5, st5⟩ := getF X3 hx hZ hown (host := "") (Or.inl (hw _ (List.mem_of_getElem? (i := 73) rfl))) Via.refl e3 f6 (g := (mkF m 10 #[.val (.ref v), .val (.ref jj)] [(.ref v), (.ref jj), (.ref pp), (.ref a1), (.ref a1)])) rfl rfl (hb hby d13_10)
  refine oOn st5 ?_
  show oGl p e below (T5.setTop (mkF m 13 #[.val (.ref v), .val (.ref jj)] [(.int t), (.ref jj), (.ref pp), (.ref a1), (.ref a1)])) _
  refine saloadN X5 hx (hb hby d13_13) rfl rfl rfl (pc' := 14) ?_
  have f8 := (F3.ext E1)
  obtain ⟨T7, X7, e7, st7⟩ := getF X5 hx hZ hown (host := "") (Or.inl (hw _ (List.mem_of_getElem? (i := 75) rfl))) Via.refl e5 f8 (g := (mkF m 14 #[.val (.ref v), .val (.ref jj)] [(.ref v), (.int t), (.ref jj), (.ref pp), (.ref a1), (.ref a1)])) rfl rfl (hb hby d13_14)
  refine oOn st7 ?_
  show oGl p e below (T7.setTop (mkF m 17 #[.val (.ref v), .val (.ref jj)] [(.int ro), (.int t), (.ref jj), (.ref pp), (.ref a1), (.ref a1)])) _
  refine saloadN X7 hx (hb hby d13_17) rfl rfl rfl (pc' := 18) ?_
  have f10 := (F4.ext E1)
  obtain ⟨T9, X9, e9, st9⟩ := getF X7 hx hZ hown (host := "") (Or.inl (hw _ (List.mem_of_getElem? (i := 77) rfl))) Via.refl e7 f10 (g := (mkF m 18 #[.val (.ref v), .val (.ref jj)] [(.ref v), (.int ro), (.int t), (.ref jj), (.ref pp), (.ref a1), (.ref a1)])) rfl rfl (hb hby d13_18)
  refine oOn st9 ?_
  show oGl p e below (T9.setTop (mkF m 21 #[.val (.ref v), .val (.ref jj)] [nm, (.int ro), (.int t), (.ref jj), (.ref pp), (.ref a1), (.ref a1)])) _
  have f11 := (O0.ext E1)
  have hz12 : n0 ≤ h1.size := by omega
  obtain ⟨_, _, ⟨T12, L12, k12, n12⟩, -, X12, hS2, hg2, ⟨Lc12, hQ12, l12, y12, z12⟩, st12⟩ := X9.specialBackS hx (y := (⟨"com/example/demarc/demarc/TransactionDefinition", "<init>", "(Lcom/example/demarc/demarc/Propagation;Lcom/example/demarc/demarc/Isolation;IZLjava/lang/String;)V"⟩ : MethodName)) rfl hown (mvT hZ (hw _ (List.mem_of_getElem? (i := 85) rfl))) (mvT hZ (hw _ (List.mem_of_getElem? (i := 50) rfl))) (mvT hZ (hw _ (List.mem_of_getElem? (i := 51) rfl))) (by decide) (backOfS (W := 1) (rmInit l Z a0 hw [] a1 pp jj t ro nm h1 n0 hz12 f11 hNm ht hro A1 f1_70 f1_72 f1_74 f1_76 f1_78 (by omega)) hZ (hw _ (List.mem_of_getElem? (i := 51) rfl)) (hw _ (List.mem_of_getElem? (i := 48) rfl)) (by decide) (by decide)) (g := (mkF m 21 #[.val (.ref v), .val (.ref jj)] [nm, (.int ro), (.int t), (.ref jj), (.ref pp), (.ref a1), (.ref a1)])) rfl (by rw [hml]; rfl) (Steps.refl _) (a := a1) (argsL := [(.ref pp), (.ref jj), (.int t), (.int ro), nm]) (rest := [(.ref a1)]) (lenOf pd_7 rfl) rfl (by show 2 * 0 + _ ≤ _; exact Nat.le_of_eq rfl) (hb hby d13_21) (fun _ _ => ⟨rfl, e9, (by decide : 1 + 4 ≤ _), (by decide : 5 + 88 ≤ _)⟩)
  dsimp only [Pt.U, Pt.locs, Pt.cells, Pt.slots] at X12 l12 y12 z12 st12 hQ12 hS2 hg2
  subst l12 y12 z12
  obtain ⟨X12, hS, hZ, hown⟩ := rebS hS (n1 := T9.heap.size) (by rw [e9]; omega) X12 hS2 hg2 hZ hown
  have hk : T12.heap.size ≤ T12.heap.size := Nat.le_refl _
  obtain ⟨rfl, N12q, K12, Oo12, Ei12, Fa12, Fb12, Fc12, Fd12, Fe12⟩ := hQ12
  have N12 := Fr.app N0 N12q
  have z13 : h1.size ≤ T12.heap.size := K12.1
  refine oSt st12 ?_
  show oGl p e below (T12.setTop (mkF m 24 #[.val (.ref v), .val (.ref jj)] [(.ref a1)])) _
  have kp14 : Keep h0 T12.heap [] := (((Keep.refl h0 []).ext E1).trans K12 (allS (Or.inr (by omega)) all0))
  refine oRetRW X12 hS (by omega) hx Bd.notSynchronized Bd.returns rfl rfl (hb hby d13_24) (by decide) (by decide) ?_
  show Q_rmWith Z v pp ii jj t ro nm h0 n0 _ T12.heap _
  exact ⟨a1, rfl, N12, kp14, Oo12, by omega, Ei12, Fa12, Fb12, Fc12, Fd12, Fe12⟩
theorem d16_0 : decode prog_16_method_13_code 0 = .ok (.aload_n 0, 1) := by decide +kernel
theorem d16_1 : decode prog_16_method_13_code 1 = .ok (.getfield 26, 3) := by decide +kernel
theorem d16_4 : decode prog_16_method_13_code 4 = .ok (.areturn, 1) := by decide +kernel
theorem ef_rm_isolation (m : MethodId) (x0 : Nat)  : entryFrame m #[(.ref x0)] 1 = mkF m 0 #[.val (.ref x0)] [] := by first | (simp [entryFrame, mkF, argsToLocals, Value.category, maxLocals]; done) | rfl
def Q_rm_isolation (Z : State) (v : Nat) (x : Nat) (h0 : Heap) (n0 : Nat) (vv : Option Value) (h : Heap) (L : List Loc) : Prop := vv = some (.ref x) ∧ Fr n0 L ∧ h = h0
set_option maxRecDepth 65536 in
set_option maxHeartbeats 40000000 in
theorem rm_isolation (l : Launch) (Z : State) (a0 : Array Value) (hw : ∀ d ∈ tables_1, d.before a0 Z = true) (ws : List Jvm.Cond) (v : Nat) (x : Nat) (h0 : Heap) (n0 : Nat) (Z0 : n0 ≤ h0.size) (F0 : Fld Z h0 v "com/example/demarc/demarc/TransactionDefinition" "isolation" "Lcom/example/demarc/demarc/Isolation;" (.ref x))  :
    MetFree l (⟨"com/example/demarc/demarc/TransactionDefinition", "isolation", "()Lcom/example/demarc/demarc/Isolation;"⟩ : MethodName) (head1 (Jvm.Cond.code (⟨"com/example/demarc/demarc/TransactionDefinition", "isolation", "()Lcom/example/demarc/demarc/Isolation;"⟩ : MethodName) prog_16_method_13_code 1 (some (.object "com/example/demarc/demarc/Isolation")) :: ws) ({ frames := 0, cells := 0, slots := 0, locals := 0 } : Room)) (fun aA uU => aA = #[(.ref v)] ∧ Z.Warmed39 uU.vm ∧ uU.heap = h0) (fun _ _ _ _ _ => True) (fun _ uU oO uU' => ∃ vV lL, oO = .returned vV ∧ Q_rm_isolation Z v x h0 n0 vV uU'.heap lL ∧ FrameEnd uU oO uU' lL ({ frames := 0, cells := 0, slots := 0, locals := 0 } : Room).cells ({ frames := 0, cells := 0, slots := 0, locals := 0 } : Room).slots) := by
  refine MetFree.of_bodySF (plainFor_of_name pn_TransactionDefinition) hisR ?_
  intro p e s m args below meth c s₁ Bd hml0 hP hK
  obtain ⟨rfl, hZ, hh⟩ := hP
  have hx := Bd.exec
  have hby := Bd.bytes
  have hml : c.maxLocals = 1 := hml0
  have hown : s.vm.findClass "com/example/demarc/demarc/TransactionDefinition" = some m.cls := findClass_of_methodNamed Bd.named
  have hnm := (name_of_methodNamed Bd.named Bd.method).1
  have X0 : Stand p l e ({ frames := 0, cells := 0, slots := 0, locals := 0 } : Room) s m #[(.ref v)] below meth c s₁ [] 0 0 := Stand.of_body Bd
  have e0 : s₁.heap = h0 := by rw [← hh, Bd.state]; rfl
  have N0 := Fr.nil n0
  refine oEnter (oCast (ef_rm_isolation m v ) ?_)
  show oGl p e below (s₁.setTop (mkF m 0 #[.val (.ref v)] [])) _
  refine saloadN X0 hx (hb hby d16_0) rfl rfl rfl (pc' := 1) ?_
  obtain ⟨T1, X1, e1, st1⟩ := getF X0 hx hZ hown (host := "") (Or.inl (hw _ (List.mem_of_getElem? (i := 71) rfl))) Via.refl e0 F0 (g := (mkF m 1 #[.val (.ref v)] [(.ref v)])) rfl rfl (hb hby d16_1)
  refine oOn st1 ?_
  show oGl p e below (T1.setTop (mkF m 4 #[.val (.ref v)] [(.ref x)])) _
  refine oRetR X1 hx Bd.notSynchronized Bd.returns rfl rfl (hb hby d16_4) (by decide) (by decide) ?_
  show Q_rm_isolation Z v x h0 n0 _ T1.heap _
  rw [e1]
  exact ⟨rfl, N0, rfl⟩
theorem d17_0 : decode prog_16_method_12_code 0 = .ok (.aload_n 0, 1) := by decide +kernel
theorem d17_1 : decode prog_16_method_12_code 1 = .ok (.getfield 23, 3) := by decide +kernel
theorem d17_4 : decode prog_16_method_12_code 4 = .ok (.areturn, 1) := by decide +kernel
theorem ef_rm_propagation (m : MethodId) (x0 : Nat)  : entryFrame m #[(.ref x0)] 1 = mkF m 0 #[.val (.ref x0)] [] := by first | (simp [entryFrame, mkF, argsToLocals, Value.category, maxLocals]; done) | rfl
def Q_rm_propagation (Z : State) (v : Nat) (x : Nat) (h0 : Heap) (n0 : Nat) (vv : Option Value) (h : Heap) (L : List Loc) : Prop := vv = some (.ref x) ∧ Fr n0 L ∧ h = h0
set_option maxRecDepth 65536 in
set_option maxHeartbeats 40000000 in
theorem rm_propagation (l : Launch) (Z : State) (a0 : Array Value) (hw : ∀ d ∈ tables_1, d.before a0 Z = true) (ws : List Jvm.Cond) (v : Nat) (x : Nat) (h0 : Heap) (n0 : Nat) (Z0 : n0 ≤ h0.size) (F0 : Fld Z h0 v "com/example/demarc/demarc/TransactionDefinition" "propagation" "Lcom/example/demarc/demarc/Propagation;" (.ref x))  :
    MetFree l (⟨"com/example/demarc/demarc/TransactionDefinition", "propagation", "()Lcom/example/demarc/demarc/Propagation;"⟩ : MethodName) (head1 (Jvm.Cond.code (⟨"com/example/demarc/demarc/TransactionDefinition", "propagation", "()Lcom/example/demarc/demarc/Propagation;"⟩ : MethodName) prog_16_method_12_code 1 (some (.object "com/example/demarc/demarc/Propagation")) :: ws) ({ frames := 0, cells := 0, slots := 0, locals := 0 } : Room)) (fun aA uU => aA = #[(.ref v)] ∧ Z.Warmed39 uU.vm ∧ uU.heap = h0) (fun _ _ _ _ _ => True) (fun _ uU oO uU' => ∃ vV lL, oO = .returned vV ∧ Q_rm_propagation Z v x h0 n0 vV uU'.heap lL ∧ FrameEnd uU oO uU' lL ({ frames := 0, cells := 0, slots := 0, locals := 0 } : Room).cells ({ frames := 0, cells := 0, slots := 0, locals := 0 } : Room).slots) := by
  refine MetFree.of_bodySF (plainFor_of_name pn_TransactionDefinition) hisR ?_
  intro p e s m args below meth c s₁ Bd hml0 hP hK
  obtain ⟨rfl, hZ, hh⟩ := hP
  have hx := Bd.exec
  have hby := Bd.bytes
  have hml : c.maxLocals = 1 := hml0
  have hown : s.vm.findClass "com/example/demarc/demarc/TransactionDefinition" = some m.cls := findClass_of_methodNamed Bd.named
  have hnm := (name_of_methodNamed Bd.named Bd.method).1
  have X0 : Stand p l e ({ frames := 0, cells := 0, slots := 0, locals := 0 } : Room) s m #[(.ref v)] below meth c s₁ [] 0 0 := Stand.of_body Bd
  have e0 : s₁.heap = h0 := by rw [← hh, Bd.state]; rfl
  have N0 := Fr.nil n0
  refine oEnter (oCast (ef_rm_propagation m v ) ?_)
  show oGl p e below (s₁.setTop (mkF m 0 #[.val (.ref v)] [])) _
  refine saloadN X0 hx (hb hby d17_0) rfl rfl rfl (pc' := 1) ?_
  obtain ⟨T1, X1, e1, st1⟩ := getF X0 hx hZ hown (host := "") (Or.inl (hw _ (List.mem_of_getElem? (i := 69) rfl))) Via.refl e0 F0 (g := (mkF m 1 #[.val (.ref v)] [(.ref v)])) rfl rfl (hb hby d17_1)
  refine oOn st1 ?_
  show oGl p e below (T1.setTop (mkF m 4 #[.val (.ref v)] [(.ref x)])) _
  refine oRetR X1 hx Bd.notSynchronized Bd.returns rfl rfl (hb hby d17_4) (by decide) (by decide) ?_
  show Q_rm_propagation Z v x h0 n0 _ T1.heap _
  rw [e1]
  exact ⟨rfl, N0, rfl⟩
theorem d18_0 : decode prog_16_method_14_code 0 = .ok (.aload_n 0, 1) := by decide +kernel
theorem d18_1 : decode prog_16_method_14_code 1 = .ok (.getfield 29, 3) := by decide +kernel
theorem d18_4 : decode prog_16_method_14_code 4 = .ok (.ireturn, 1) := by decide +kernel
theorem ef_rm_timeoutSeconds (m : MethodId) (x0 : Nat)  : entryFrame m #[(.ref x0)] 1 = mkF m 0 #[.val (.ref x0)] [] := by first | (simp [entryFrame, mkF, argsToLocals, Value.category, maxLocals]; done) | rfl
def Q_rm_timeoutSeconds (Z : State) (v : Nat) (x : Int32) (h0 : Heap) (n0 : Nat) (vv : Option Value) (h : Heap) (L : List Loc) : Prop := vv = some (.int x) ∧ Fr n0 L ∧ h = h0
set_option maxRecDepth 65536 in
set_option maxHeartbeats 40000000 in
theorem rm_timeoutSeconds (l : Launch) (Z : State) (a0 : Array Value) (hw : ∀ d ∈ tables_1, d.before a0 Z = true) (ws : List Jvm.Cond) (v : Nat) (x : Int32) (h0 : Heap) (n0 : Nat) (Z0 : n0 ≤ h0.size) (F0 : Fld Z h0 v "com/example/demarc/demarc/TransactionDefinition" "timeoutSeconds" "I" (.int x))  :
    MetFree l (⟨"com/example/demarc/demarc/TransactionDefinition", "timeoutSeconds", "()I"⟩ : MethodName) (head1 (Jvm.Cond.code (⟨"com/example/demarc/demarc/TransactionDefinition", "timeoutSeconds", "()I"⟩ : MethodName) prog_16_method_14_code 1 (some .int) :: ws) ({ frames := 0, cells := 0, slots := 0, locals := 0 } : Room)) (fun aA uU => aA = #[(.ref v)] ∧ Z.Warmed39 uU.vm ∧ uU.heap = h0) (fun _ _ _ _ _ => True) (fun _ uU oO uU' => ∃ vV lL, oO = .returned vV ∧ Q_rm_timeoutSeconds Z v x h0 n0 vV uU'.heap lL ∧ FrameEnd uU oO uU' lL ({ frames := 0, cells := 0, slots := 0, locals := 0 } : Room).cells ({ frames := 0, cells := 0, slots := 0, locals := 0 } : Room).slots) := by
  refine MetFree.of_bodySF (plainFor_of_name pn_TransactionDefinition) hisR ?_
  intro p e s m args below meth c s₁ Bd hml0 hP hK
  obtain ⟨rfl, hZ, hh⟩ := hP
  have hx := Bd.exec
  have hby := Bd.bytes
  have hml : c.maxLocals = 1 := hml0
  have hown : s.vm.findClass "com/example/demarc/demarc/TransactionDefinition" = some m.cls := findClass_of_methodNamed Bd.named
  have hnm := (name_of_methodNamed Bd.named Bd.method).1
  have X0 : Stand p l e ({ frames := 0, cells := 0, slots := 0, locals := 0 } : Room) s m #[(.ref v)] below meth c s₁ [] 0 0 := Stand.of_body Bd
  have e0 : s₁.heap = h0 := by rw [← hh, Bd.state]; rfl
  have N0 := Fr.nil n0
  refine oEnter (oCast (ef_rm_timeoutSeconds m v ) ?_)
  show oGl p e below (s₁.setTop (mkF m 0 #[.val (.ref v)] [])) _
  refine saloadN X0 hx (hb hby d18_0) rfl rfl rfl (pc' := 1) ?_
  obtain ⟨T1, X1, e1, st1⟩ := getF X0 hx hZ hown (host := "") (Or.inl (hw _ (List.mem_of_getElem? (i := 73) rfl))) Via.refl e0 F0 (g := (mkF m 1 #[.val (.ref v)] [(.ref v)])) rfl rfl (hb hby d18_1)
  refine oOn st1 ?_
  show oGl p e below (T1.setTop (mkF m 4 #[.val (.ref v)] [(.int x)])) _
  refine oRetI X1 hx Bd.notSynchronized Bd.returns (hb hby d18_4) (by decide) (by decide) ?_
  show Q_rm_timeoutSeconds Z v x h0 n0 _ T1.heap _
  rw [e1]
  exact ⟨rfl, N0, rfl⟩
theorem d19_0 : decode prog_16_method_15_code 0 = .ok (.aload_n 0, 1) := by decide +kernel
theorem d19_1 : decode prog_16_method_15_code 1 = .ok (.getfield 33, 3) := by decide +kernel
theorem d19_4 : decode prog_16_method_15_code 4 = .ok (.ireturn, 1) := by decide +kernel
theorem ef_rm_readOnly (m : MethodId) (x0 : Nat)  : entryFrame m #[(.ref x0)] 1 = mkF m 0 #[.val (.ref x0)] [] := by first | (simp [entryFrame, mkF, argsToLocals, Value.category, maxLocals]; done) | rfl
def Q_rm_readOnly (Z : State) (v : Nat) (x : Int32) (h0 : Heap) (n0 : Nat) (vv : Option Value) (h : Heap) (L : List Loc) : Prop := vv = some (.int x) ∧ Fr n0 L ∧ h = h0
set_option maxRecDepth 65536 in
set_option maxHeartbeats 40000000 in
theorem rm_readOnly (l : Launch) (Z : State) (a0 : Array Value) (hw : ∀ d ∈ tables_1, d.before a0 Z = true) (ws : List Jvm.Cond) (v : Nat) (x : Int32) (h0 : Heap) (n0 : Nat) (Z0 : n0 ≤ h0.size) (F0 : Fld Z h0 v "com/example/demarc/demarc/TransactionDefinition" "readOnly" "Z" (.int x)) (hx1 : nar .boolean x = x) :
    MetFree l (⟨"com/example/demarc/demarc/TransactionDefinition", "readOnly", "()Z"⟩ : MethodName) (head1 (Jvm.Cond.code (⟨"com/example/demarc/demarc/TransactionDefinition", "readOnly", "()Z"⟩ : MethodName) prog_16_method_15_code 1 (some .boolean) :: ws) ({ frames := 0, cells := 0, slots := 0, locals := 0 } : Room)) (fun aA uU => aA = #[(.ref v)] ∧ Z.Warmed39 uU.vm ∧ uU.heap = h0) (fun _ _ _ _ _ => True) (fun _ uU oO uU' => ∃ vV lL, oO = .returned vV ∧ Q_rm_readOnly Z v x h0 n0 vV uU'.heap lL ∧ FrameEnd uU oO uU' lL ({ frames := 0, cells := 0, slots := 0, locals := 0 } : Room).cells ({ frames := 0, cells := 0, slots := 0, locals := 0 } : Room).slots) := by
  refine MetFree.of_bodySF (plainFor_of_name pn_TransactionDefinition) hisR ?_
  intro p e s m args below meth c s₁ Bd hml0 hP hK
  obtain ⟨rfl, hZ, hh⟩ := hP
  have hx := Bd.exec
  have hby := Bd.bytes
  have hml : c.maxLocals = 1 := hml0
  have hown : s.vm.findClass "com/example/demarc/demarc/TransactionDefinition" = some m.cls := findClass_of_methodNamed Bd.named
  have hnm := (name_of_methodNamed Bd.named Bd.method).1
  have X0 : Stand p l e ({ frames := 0, cells := 0, slots := 0, locals := 0 } : Room) s m #[(.ref v)] below meth c s₁ [] 0 0 := Stand.of_body Bd
  have e0 : s₁.heap = h0 := by rw [← hh, Bd.state]; rfl
  have N0 := Fr.nil n0
  refine oEnter (oCast (ef_rm_readOnly m v ) ?_)
  show oGl p e below (s₁.setTop (mkF m 0 #[.val (.ref v)] [])) _
  refine saloadN X0 hx (hb hby d19_0) rfl rfl rfl (pc' := 1) ?_
  obtain ⟨T1, X1, e1, st1⟩ := getF X0 hx hZ hown (host := "") (Or.inl (hw _ (List.mem_of_getElem? (i := 75) rfl))) Via.refl e0 F0 (g := (mkF m 1 #[.val (.ref v)] [(.ref v)])) rfl rfl (hb hby d19_1)
  refine oOn st1 ?_
  show oGl p e below (T1.setTop (mkF m 4 #[.val (.ref v)] [(.int x)])) _
  refine oRetN (t := .boolean) X1 hx Bd.notSynchronized Bd.returns (by simp) (hb hby d19_4) (by decide) (by decide) ?_
  show Q_rm_readOnly Z v x h0 n0 _ T1.heap _
  rw [e1]
  exact ⟨congrArg (fun z => some (Value.int z)) hx1, N0, rfl⟩
theorem d14_0 : decode prog_16_method_16_code 0 = .ok (.aload_n 0, 1) := by decide +kernel
theorem d14_1 : decode prog_16_method_16_code 1 = .ok (.getfield 37, 3) := by decide +kernel
theorem d14_4 : decode prog_16_method_16_code 4 = .ok (.areturn, 1) := by decide +kernel
theorem ef_rm_name (m : MethodId) (x0 : Nat)  : entryFrame m #[(.ref x0)] 1 = mkF m 0 #[.val (.ref x0)] [] := by first | (simp [entryFrame, mkF, argsToLocals, Value.category, maxLocals]; done) | rfl
def Q_rm_name (Z : State) (v : Nat) (nm : Value) (h0 : Heap) (n0 : Nat) (vv : Option Value) (h : Heap) (L : List Loc) : Prop := vv = some nm ∧ Fr n0 L ∧ h = h0
set_option maxRecDepth 65536 in
set_option maxHeartbeats 40000000 in
theorem rm_name (l : Launch) (Z : State) (a0 : Array Value) (hw : ∀ d ∈ tables_1, d.before a0 Z = true) (ws : List Jvm.Cond) (v : Nat) (nm : Value) (h0 : Heap) (n0 : Nat) (Z0 : n0 ≤ h0.size) (F0 : Fld Z h0 v "com/example/demarc/demarc/TransactionDefinition" "name" "Ljava/lang/String;" nm) (hNm : nm.isRef = true) :
    MetFree l (⟨"com/example/demarc/demarc/TransactionDefinition", "name", "()Ljava/lang/String;"⟩ : MethodName) (head1 (Jvm.Cond.code (⟨"com/example/demarc/demarc/TransactionDefinition", "name", "()Ljava/lang/String;"⟩ : MethodName) prog_16_method_16_code 1 (some (.object "java/lang/String")) :: ws) ({ frames := 0, cells := 0, slots := 0, locals := 0 } : Room)) (fun aA uU => aA = #[(.ref v)] ∧ Z.Warmed39 uU.vm ∧ uU.heap = h0) (fun _ _ _ _ _ => True) (fun _ uU oO uU' => ∃ vV lL, oO = .returned vV ∧ Q_rm_name Z v nm h0 n0 vV uU'.heap lL ∧ FrameEnd uU oO uU' lL ({ frames := 0, cells := 0, slots := 0, locals := 0 } : Room).cells ({ frames := 0, cells := 0, slots := 0, locals := 0 } : Room).slots) := by
  refine MetFree.of_bodySF (plainFor_of_name pn_TransactionDefinition) hisR ?_
  intro p e s m args below meth c s₁ Bd hml0 hP hK
  obtain ⟨rfl, hZ, hh⟩ := hP
  have hx := Bd.exec
  have hby := Bd.bytes
  have hml : c.maxLocals = 1 := hml0
  have hown : s.vm.findClass "com/example/demarc/demarc/TransactionDefinition" = some m.cls := findClass_of_methodNamed Bd.named
  have hnm := (name_of_methodNamed Bd.named Bd.method).1
  have X0 : Stand p l e ({ frames := 0, cells := 0, slots := 0, locals := 0 } : Room) s m #[(.ref v)] below meth c s₁ [] 0 0 := Stand.of_body Bd
  have e0 : s₁.heap = h0 := by rw [← hh, Bd.state]; rfl
  have N0 := Fr.nil n0
  refine oEnter (oCast (ef_rm_name m v ) ?_)
  show oGl p e below (s₁.setTop (mkF m 0 #[.val (.ref v)] [])) _
  refine saloadN X0 hx (hb hby d14_0) rfl rfl rfl (pc' := 1) ?_
  obtain ⟨T1, X1, e1, st1⟩ := getF X0 hx hZ hown (host := "") (Or.inl (hw _ (List.mem_of_getElem? (i := 77) rfl))) Via.refl e0 F0 (g := (mkF m 1 #[.val (.ref v)] [(.ref v)])) rfl rfl (hb hby d14_1)
  refine oOn st1 ?_
  show oGl p e below (T1.setTop (mkF m 4 #[.val (.ref v)] [nm])) _
  refine oRetR X1 hx Bd.notSynchronized Bd.returns rfl hNm (hb hby d14_4) (by decide) (by decide) ?_
  show Q_rm_name Z v nm h0 n0 _ T1.heap _
  rw [e1]
  exact ⟨rfl, N0, rfl⟩
theorem d15_0 : decode jdk_42_method_66_code 0 = .ok (.aload_n 0, 1) := by decide +kernel
theorem d15_1 : decode jdk_42_method_66_code 1 = .ok (.aload_n 1, 1) := by decide +kernel
theorem d15_2 : decode jdk_42_method_66_code 2 = .ok (.if_acmp .ne 5, 3) := by decide +kernel
theorem d15_5 : decode jdk_42_method_66_code 5 = .ok (.iconst 1, 1) := by decide +kernel
theorem d15_6 : decode jdk_42_method_66_code 6 = .ok (.ireturn, 1) := by decide +kernel
theorem ef_rmEq (m : MethodId) (x0 : Nat) (x1 : Nat)  : entryFrame m #[(.ref x0), (.ref x1)] 3 = mkF m 0 #[.val (.ref x0), .val (.ref x1), .unset] [] := by first | (simp [entryFrame, mkF, argsToLocals, Value.category, maxLocals]; done) | rfl
def Q_rmEq (Z : State) (x : Nat) (h0 : Heap) (n0 : Nat) (vv : Option Value) (h : Heap) (L : List Loc) : Prop := vv = some (.int 1) ∧ Fr n0 L ∧ h = h0
set_option maxRecDepth 65536 in
set_option maxHeartbeats 40000000 in
theorem rmEq (l : Launch) (Z : State) (a0 : Array Value) (hw : ∀ d ∈ tables_1, d.before a0 Z = true) (ws : List Jvm.Cond) (x : Nat) (h0 : Heap) (n0 : Nat) (Z0 : n0 ≤ h0.size)  :
    MetFree l (⟨"java/lang/String", "equals", "(Ljava/lang/Object;)Z"⟩ : MethodName) (head1 (Jvm.Cond.code (⟨"java/lang/String", "equals", "(Ljava/lang/Object;)Z"⟩ : MethodName) jdk_42_method_66_code 3 (some .boolean) :: ws) ({ frames := 0, cells := 0, slots := 0, locals := 0 } : Room)) (fun aA uU => aA = #[(.ref x), (.ref x)] ∧ Z.Warmed39 uU.vm ∧ uU.heap = h0) (fun _ _ _ _ _ => True) (fun _ uU oO uU' => ∃ vV lL, oO = .returned vV ∧ Q_rmEq Z x h0 n0 vV uU'.heap lL ∧ FrameEnd uU oO uU' lL ({ frames := 0, cells := 0, slots := 0, locals := 0 } : Room).cells ({ frames := 0, cells := 0, slots := 0, locals := 0 } : Room).slots) := by
  refine MetFree.of_bodySF (plainFor_of_name pn_String) hisR ?_
  intro p e s m args below meth c s₁ Bd hml0 hP hK
  obtain ⟨rfl, hZ, hh⟩ := hP
  have hx := Bd.exec
  have hby := Bd.bytes
  have hml : c.maxLocals = 3 := hml0
  have hown : s.vm.findClass "java/lang/String" = some m.cls := findClass_of_methodNamed Bd.named
  have hnm := (name_of_methodNamed Bd.named Bd.method).1
  have X0 : Stand p l e ({ frames := 0, cells := 0, slots := 0, locals := 0 } : Room) s m #[(.ref x), (.ref x)] below meth c s₁ [] 0 0 := Stand.of_body Bd
  have e0 : s₁.heap = h0 := by rw [← hh, Bd.state]; rfl
  have N0 := Fr.nil n0
  refine oEnter (oCast (ef_rmEq m x x ) ?_)
  show oGl p e below (s₁.setTop (mkF m 0 #[.val (.ref x), .val (.ref x), .unset] [])) _
  refine saloadN X0 hx (hb hby d15_0) rfl rfl rfl (pc' := 1) ?_
  refine saloadN X0 hx (hb hby d15_1) rfl rfl rfl (pc' := 2) ?_
  refine oOn (fun _ kK => Jvm.RoadKit.acmp (g := (mkF m 2 #[.val (.ref x), .val (.ref x), .unset] [(.ref x), (.ref x)])) X0 hx rfl rfl rfl (pc0 := 2) (pc' := 5) (same := true) rfl (hb hby d15_2) rfl (decide_eq_true rfl) (by decide) (by decide) kK) ?_
  show oGl p e below (s₁.setTop (mkF m 5 #[.val (.ref x), .val (.ref x), .unset] [])) _
  refine siconst X0 hx (hb hby d15_5) rfl rfl (z := 1) (pc' := 6) ?_
  refine oRetN (t := .boolean) X0 hx Bd.notSynchronized Bd.returns (by simp) (hb hby d15_6) (by decide) (by decide) ?_
  show Q_rmEq Z x h0 n0 _ s₁.heap _
  rw [e0]
  exact ⟨rfl, N0, rfl⟩
theorem own_c255 (x : Int32) : ¬ (255 : Int32) < nar .char ((x &&& (255 : Int32)).toUInt32.toUInt16.toUInt32.toInt32) := by
  have h := c_and x 255 (by decide)
  have e : (255 : Int32).toInt = 255 := by decide
  have h1 := c_i2c (x &&& 255)
  have h2 := c_i2c ((x &&& (255 : Int32)).toUInt32.toUInt16.toUInt32.toInt32)
  have h3 : nar .char ((x &&& (255 : Int32)).toUInt32.toUInt16.toUInt32.toInt32) = ((x &&& (255 : Int32)).toUInt32.toUInt16.toUInt32.toInt32).toUInt32.toUInt16.toUInt32.toInt32 := rfl
  rw [h3, Int32.lt_iff_toInt_lt]; omega
theorem own_not {x : Int32} (h : x < (-1 : Int32)) : ¬ ((x ^^^ (-1 : Int32)) < (-1 : Int32)) := by
  have e1 : (-1 : Int32).toInt = -1 := by decide
  have h2 : x ^^^ (-1 : Int32) = ~~~x := by
    apply Int32.toBitVec_inj.mp
    simp [Int32.toBitVec_xor, Int32.toBitVec_not]
  have h3 := rng32 x
  rw [Int32.lt_iff_toInt_lt, e1] at h
  have h4 := rng32 (~~~x)
  have h5 := bm32 (-x.toInt - 1)
  rw [← Int32.toInt_not] at h5
  rw [h2, Int32.lt_iff_toInt_lt, e1]
  omega
theorem pd_8 : parseMethodDescriptor "(I)Lcom/example/demarc/demarc/Propagation;" = some ⟨[.int], some (.object "com/example/demarc/demarc/Propagation")⟩ := by decide +kernel
theorem pd_9 : parseMethodDescriptor "(I)Lcom/example/demarc/demarc/Isolation;" = some ⟨[.int], some (.object "com/example/demarc/demarc/Isolation")⟩ := by decide +kernel
theorem pd_10 : parseMethodDescriptor "([C)V" = some ⟨[(.array .char)], none⟩ := by decide +kernel
theorem pd_11 : parseMethodDescriptor "(Lcom/example/demarc/demarc/Isolation;)Lcom/example/demarc/demarc/TransactionDefinition;" = some ⟨[(.object "com/example/demarc/demarc/Isolation")], some (.object "com/example/demarc/demarc/TransactionDefinition")⟩ := by decide +kernel
theorem pd_12 : parseMethodDescriptor "()Ljava/lang/String;" = some ⟨[], some (.object "java/lang/String")⟩ := by decide +kernel
theorem pd_13 : parseMethodDescriptor "(Ljava/lang/Object;)Z" = some ⟨[(.object "java/lang/Object")], some .boolean⟩ := by decide +kernel
theorem pd_14 : parseMethodDescriptor "()Lcom/example/demarc/demarc/Isolation;" = some ⟨[], some (.object "com/example/demarc/demarc/Isolation")⟩ := by decide +kernel
theorem pd_15 : parseMethodDescriptor "()Lcom/example/demarc/demarc/Propagation;" = some ⟨[], some (.object "com/example/demarc/demarc/Propagation")⟩ := by decide +kernel
theorem pd_16 : parseMethodDescriptor "()I" = some ⟨[], some .int⟩ := by decide +kernel
theorem pd_17 : parseMethodDescriptor "()Z" = some ⟨[], some .boolean⟩ := by decide +kernel
theorem ef_rmL (m : MethodId) (x0 : Int32) (x1 : Int32) (x2 : Int32) (x3 : Int32) (x4 : Int32) (x5 : Int32)  : entryFrame m #[(.int x0), (.int x1), (.int x2), (.int x3), (.int x4), (.int x5)] maxLocals = mkF m 0 #[.val (.int x0), .val (.int x1), .val (.int x2), .val (.int x3), .val (.int x4), .val (.int x5), .unset, .unset, .unset, .unset, .unset, .unset, .unset, .unset, .unset, .unset, .unset, .unset] [] := by first | (simp [entryFrame, mkF, argsToLocals, Value.category, maxLocals]; done) | rfl
def Q_rmL (Z : State) (i0 i1 i2 i3 i4 i5 : Int32) (sREQUIRED : Nat) (sREPEATABLE_READ : Nat) (sREAD_COMMITTED : Nat) (sNOT_SUPPORTED : Nat) (sDEFAULT : Nat) (sMANDATORY : Nat) (sSERIALIZABLE : Nat) (sREAD_UNCOMMITTED : Nat) (sSUPPORTS : Nat) (sREQUIRES_NEW : Nat) (sNESTED : Nat) (sNEVER : Nat) (cz : Int32) (h0 : Heap) (n0 : Nat) (vv : Option Value) (h : Heap) (L : List Loc) : Prop := vv = some (.int 1) ∧ Fr n0 L
set_option maxRecDepth 65536 in
set_option maxHeartbeats 40000000 in
theorem rmL (l : Launch) (Z : State) (a0 : Array Value) (hw : ∀ d ∈ tables_1, d.before a0 Z = true) (ws : List Jvm.Cond) (i0 i1 i2 i3 i4 i5 : Int32) (sREQUIRED : Nat) (sREPEATABLE_READ : Nat) (sREAD_COMMITTED : Nat) (sNOT_SUPPORTED : Nat) (sDEFAULT : Nat) (sMANDATORY : Nat) (sSERIALIZABLE : Nat) (sREAD_UNCOMMITTED : Nat) (sSUPPORTS : Nat) (sREQUIRES_NEW : Nat) (sNESTED : Nat) (sNEVER : Nat) (cz : Int32) (h0 : Heap) (n0 : Nat) (Z0 : n0 ≤ h0.size) (O0 : Old Z n0 h0) (SsREQUIRED : Sta Z Z.heap "com/example/demarc/demarc/Propagation" "REQUIRED" "Lcom/example/demarc/demarc/Propagation;" (.ref sREQUIRED)) (EsREQUIRED : Exa Z Z.heap sREQUIRED "com/example/demarc/demarc/Propagation") (SsREPEATABLE_READ : Sta Z Z.heap "com/example/demarc/demarc/Isolation" "REPEATABLE_READ" "Lcom/example/demarc/demarc/Isolation;" (.ref sREPEATABLE_READ)) (EsREPEATABLE_READ : Exa Z Z.heap sREPEATABLE_READ "com/example/demarc/demarc/Isolation") (SsREAD_COMMITTED : Sta Z Z.heap "com/example/demarc/demarc/Isolation" "READ_COMMITTED" "Lcom/example/demarc/demarc/Isolation;" (.ref sREAD_COMMITTED)) (EsREAD_COMMITTED : Exa Z Z.heap sREAD_COMMITTED "com/example/demarc/demarc/Isolation") (SsNOT_SUPPORTED : Sta Z Z.heap "com/example/demarc/demarc/Propagation" "NOT_SUPPORTED" "Lcom/example/demarc/demarc/Propagation;" (.ref sNOT_SUPPORTED)) (EsNOT_SUPPORTED : Exa Z Z.heap sNOT_SUPPORTED "com/example/demarc/demarc/Propagation") (SsDEFAULT : Sta Z Z.heap "com/example/demarc/demarc/Isolation" "DEFAULT" "Lcom/example/demarc/demarc/Isolation;" (.ref sDEFAULT)) (EsDEFAULT : Exa Z Z.heap sDEFAULT "com/example/demarc/demarc/Isolation") (SsMANDATORY : Sta Z Z.heap "com/example/demarc/demarc/Propagation" "MANDATORY" "Lcom/example/demarc/demarc/Propagation;" (.ref sMANDATORY)) (EsMANDATORY : Exa Z Z.heap sMANDATORY "com/example/demarc/demarc/Propagation") (SsSERIALIZABLE : Sta Z Z.heap "com/example/demarc/demarc/Isolation" "SERIALIZABLE" "Lcom/example/demarc/demarc/Isolation;" (.ref sSERIALIZABLE)) (EsSERIALIZABLE : Exa Z Z.heap sSERIALIZABLE "com/example/demarc/demarc/Isolation") (SsREAD_UNCOMMITTED : Sta Z Z.heap "com/example/demarc/demarc/Isolation" "READ_UNCOMMITTED" "Lcom/example/demarc/demarc/Isolation;" (.ref sREAD_UNCOMMITTED)) (EsREAD_UNCOMMITTED : Exa Z Z.heap sREAD_UNCOMMITTED "com/example/demarc/demarc/Isolation") (SsSUPPORTS : Sta Z Z.heap "com/example/demarc/demarc/Propagation" "SUPPORTS" "Lcom/example/demarc/demarc/Propagation;" (.ref sSUPPORTS)) (EsSUPPORTS : Exa Z Z.heap sSUPPORTS "com/example/demarc/demarc/Propagation") (SsREQUIRES_NEW : Sta Z Z.heap "com/example/demarc/demarc/Propagation" "REQUIRES_NEW" "Lcom/example/demarc/demarc/Propagation;" (.ref sREQUIRES_NEW)) (EsREQUIRES_NEW : Exa Z Z.heap sREQUIRES_NEW "com/example/demarc/demarc/Propagation") (SsNESTED : Sta Z Z.heap "com/example/demarc/demarc/Propagation" "NESTED" "Lcom/example/demarc/demarc/Propagation;" (.ref sNESTED)) (EsNESTED : Exa Z Z.heap sNESTED "com/example/demarc/demarc/Propagation") (SsNEVER : Sta Z Z.heap "com/example/demarc/demarc/Propagation" "NEVER" "Lcom/example/demarc/demarc/Propagation;" (.ref sNEVER)) (EsNEVER : Exa Z Z.heap sNEVER "com/example/demarc/demarc/Propagation") (SCS : Sta Z Z.heap "java/lang/String" "COMPACT_STRINGS" "Z" (.int cz)) (hcz : ¬ cz = (0 : Int32)) :
    MetFree l x (head1 (Jvm.Cond.code x code maxLocals ret :: ws) room_1) (fun aA uU => aA = #[(.int i0), (.int i1), (.int i2), (.int i3), (.int i4), (.int i5)] ∧ Z.Warmed39 uU.vm ∧ uU.heap = h0) (fun _ _ _ _ _ => True) (fun _ uU oO uU' => ∃ vV lL, oO = .returned vV ∧ Q_rmL Z i0 i1 i2 i3 i4 i5 sREQUIRED sREPEATABLE_READ sREAD_COMMITTED sNOT_SUPPORTED sDEFAULT sMANDATORY sSERIALIZABLE sREAD_UNCOMMITTED sSUPPORTS sREQUIRES_NEW sNESTED sNEVER cz h0 n0 vV uU'.heap lL ∧ ReturnedEndW uU oO uU' lL 24 2176) := by
  refine MetFree.of_bodySF (plainFor_of_name pn_TransactionDefinitionWithIsolationPinLaw) hisR ?_
  intro p e s m args below meth c s₁ Bd hml0 hP hK
  obtain ⟨rfl, hZ, hh⟩ := hP
  have hx := Bd.exec
  have hby := Bd.bytes
  have hml : c.maxLocals = 18 := hml0
  have hown : s.vm.findClass "com/example/demarc/demarc/TransactionDefinitionWithIsolationPinLaw" = some m.cls := findClass_of_methodNamed Bd.named
  have hnm := (name_of_methodNamed Bd.named Bd.method).1
  have X0 : Stand p l e room_1 (s.setVm s.vm) m #[(.int i0), (.int i1), (.int i2), (.int i3), (.int i4), (.int i5)] below meth c s₁ [] 0 0 := Stand.of_body Bd
  have e0 : s₁.heap = h0 := by rw [← hh, Bd.state]; rfl
  have N0 := Fr.nil n0
  have hS : s.Since s.vm 0 := (State.WarmedH.refl s).since 0
  have hk : 0 ≤ h0.size := Nat.zero_le _
  have hZ : Z.Warmed39 (s.setVm s.vm).vm := hZ
  have hown : (s.setVm s.vm).vm.findClass "com/example/demarc/demarc/TransactionDefinitionWithIsolationPinLaw" = some m.cls := hown
  refine oEnterW (oCast (ef_rmL m i0 i1 i2 i3 i4 i5 ) ?_)
  show oGl p e below (s₁.setTop (mkF m 0 #[.val (.int i0), .val (.int i1), .val (.int i2), .val (.int i3), .val (.int i4), .val (.int i5), .unset, .unset, .unset, .unset, .unset, .unset, .unset, .unset, .unset, .unset, .unset, .unset] [])) _
  refine siloadN X0 hx (hb hby at_0) rfl rfl (pc' := 1) ?_
  have hz1 : n0 ≤ h0.size := by omega
  obtain ⟨_, _, ⟨T1, L1, k1, n1⟩, -, X1, ⟨Lc1, hQ1, l1, y1, z1⟩, st1⟩ := Jvm.LawKit.callS X0 hx (y := (⟨"com/example/demarc/demarc/TransactionDefinitionWithIsolationPinLaw", "prop", "(I)Lcom/example/demarc/demarc/Propagation;"⟩ : MethodName)) hown (mvT hZ (hw _ (List.mem_of_getElem? (i := 0) rfl))) (mvT hZ (hw _ (List.mem_of_getElem? (i := 1) rfl))) (mvT hZ (hw _ (List.mem_of_getElem? (i := 2) rfl))) (mvT hZ (hw _ (List.mem_of_getElem? (i := 3) rfl))) (by decide) (backOf (W := 0) (rmProp l Z a0 hw [] i0 sREQUIRED sREPEATABLE_READ sREAD_COMMITTED sNOT_SUPPORTED sDEFAULT sMANDATORY sSERIALIZABLE sREAD_UNCOMMITTED sSUPPORTS sREQUIRES_NEW sNESTED sNEVER h0 n0 hz1 O0 SsREQUIRED EsREQUIRED SsREPEATABLE_READ EsREPEATABLE_READ SsREAD_COMMITTED EsREAD_COMMITTED SsNOT_SUPPORTED EsNOT_SUPPORTED SsDEFAULT EsDEFAULT SsMANDATORY EsMANDATORY SsSERIALIZABLE EsSERIALIZABLE SsREAD_UNCOMMITTED EsREAD_UNCOMMITTED SsSUPPORTS EsSUPPORTS SsREQUIRES_NEW EsREQUIRES_NEW SsNESTED EsNESTED SsNEVER EsNEVER) hZ (hw _ (List.mem_of_getElem? (i := 3) rfl)) (hw _ (List.mem_of_getElem? (i := 2) rfl)) (by decide) (by decide)) (g := (mkF m 1 #[.val (.int i0), .val (.int i1), .val (.int i2), .val (.int i3), .val (.int i4), .val (.int i5), .unset, .unset, .unset, .unset, .unset, .unset, .unset, .unset, .unset, .unset, .unset, .unset] [(.int i0)])) rfl (by rw [hml]; rfl) (argsL := [(.int i0)]) (rest := []) (lenOf pd_8 rfl) rfl (by show 2 * 0 + _ ≤ _; exact Nat.le_of_eq rfl) (hb hby at_1) (fun _ _ => ⟨rfl, e0, (by decide : 0 + 0 ≤ _), (by decide : 0 + 0 ≤ _)⟩)
  dsimp only [Pt.U, Pt.locs, Pt.cells, Pt.slots] at X1 l1 y1 z1 st1 hQ1
  subst l1 y1 z1
  obtain ⟨r1, rfl, N1q, eh1⟩ := hQ1
  have N1 := Fr.app N0 N1q
  refine oOn st1 ?_
  show oGl p e below (T1.setTop (mkF m 4 #[.val (.int i0), .val (.int i1), .val (.int i2), .val (.int i3), .val (.int i4), .val (.int i5), .unset, .unset, .unset, .unset, .unset, .unset, .unset, .unset, .unset, .unset, .unset, .unset] [(.ref r1)])) _
  refine sastore X1 hx (hb hby at_4) rfl rfl rfl (l' := #[.val (.int i0), .val (.int i1), .val (.int i2), .val (.int i3), .val (.int i4), .val (.int i5), .val (.ref r1), .unset, .unset, .unset, .unset, .unset, .unset, .unset, .unset, .unset, .unset, .unset]) (pc' := 6) ?_
  refine siloadN X1 hx (hb hby at_6) rfl rfl (pc' := 7) ?_
  have hz2 : n0 ≤ h0.size := by omega
  obtain ⟨_, _, ⟨T2, L2, k2, n2⟩, -, X2, ⟨Lc2, hQ2, l2, y2, z2⟩, st2⟩ := Jvm.LawKit.callS X1 hx (y := (⟨"com/example/demarc/demarc/TransactionDefinitionWithIsolationPinLaw", "iso", "(I)Lcom/example/demarc/demarc/Isolation;"⟩ : MethodName)) hown (mvT hZ (hw _ (List.mem_of_getElem? (i := 8) rfl))) (mvT hZ (hw _ (List.mem_of_getElem? (i := 9) rfl))) (mvT hZ (hw _ (List.mem_of_getElem? (i := 2) rfl))) (mvT hZ (hw _ (List.mem_of_getElem? (i := 10) rfl))) (by decide) (backOf (W := 0) (rmIso l Z a0 hw [] i1 sREQUIRED sREPEATABLE_READ sREAD_COMMITTED sNOT_SUPPORTED sDEFAULT sMANDATORY sSERIALIZABLE sREAD_UNCOMMITTED sSUPPORTS sREQUIRES_NEW sNESTED sNEVER h0 n0 hz2 O0 SsREQUIRED EsREQUIRED SsREPEATABLE_READ EsREPEATABLE_READ SsREAD_COMMITTED EsREAD_COMMITTED SsNOT_SUPPORTED EsNOT_SUPPORTED SsDEFAULT EsDEFAULT SsMANDATORY EsMANDATORY SsSERIALIZABLE EsSERIALIZABLE SsREAD_UNCOMMITTED EsREAD_UNCOMMITTED SsSUPPORTS EsSUPPORTS SsREQUIRES_NEW EsREQUIRES_NEW SsNESTED EsNESTED SsNEVER EsNEVER) hZ (hw _ (List.mem_of_getElem? (i := 10) rfl)) (hw _ (List.mem_of_getElem? (i := 2) rfl)) (by decide) (by decide)) (g := (mkF m 7 #[.val (.int i0), .val (.int i1), .val (.int i2), .val (.int i3), .val (.int i4), .val (.int i5), .val (.ref r1), .unset, .unset, .unset, .unset, .unset, .unset, .unset, .unset, .unset, .unset, .unset] [(.int i1)])) rfl (by rw [hml]; rfl) (argsL := [(.int i1)]) (rest := []) (lenOf pd_9 rfl) rfl (by show 2 * 0 + _ ≤ _; exact Nat.le_of_eq rfl) (hb hby at_7) (fun _ _ => ⟨rfl, eh1, (by decide : 0 + 0 ≤ _), (by decide : 0 + 0 ≤ _)⟩)
  dsimp only [Pt.U, Pt.locs, Pt.cells, Pt.slots] at X2 l2 y2 z2 st2 hQ2
  subst l2 y2 z2
  obtain ⟨r2, rfl, N2q, eh2⟩ := hQ2
  have N2 := Fr.app N1 N2q
  refine oOn st2 ?_
  show oGl p e below (T2.setTop (mkF m 10 #[.val (.int i0), .val (.int i1), .val (.int i2), .val (.int i3), .val (.int i4), .val (.int i5), .val (.ref r1), .unset, .unset, .unset, .unset, .unset, .unset, .unset, .unset, .unset, .unset, .unset] [(.ref r2)])) _
  refine sastore X2 hx (hb hby at_10) rfl rfl rfl (l' := #[.val (.int i0), .val (.int i1), .val (.int i2), .val (.int i3), .val (.int i4), .val (.int i5), .val (.ref r1), .val (.ref r2), .unset, .unset, .unset, .unset, .unset, .unset, .unset, .unset, .unset, .unset]) (pc' := 12) ?_
  refine siloadN X2 hx (hb hby at_12) rfl rfl (pc' := 13) ?_
  have hz3 : n0 ≤ h0.size := by omega
  obtain ⟨_, _, ⟨T3, L3, k3, n3⟩, -, X3, ⟨Lc3, hQ3, l3, y3, z3⟩, st3⟩ := Jvm.LawKit.callS X2 hx (y := (⟨"com/example/demarc/demarc/TransactionDefinitionWithIsolationPinLaw", "iso", "(I)Lcom/example/demarc/demarc/Isolation;"⟩ : MethodName)) hown (mvT hZ (hw _ (List.mem_of_getElem? (i := 8) rfl))) (mvT hZ (hw _ (List.mem_of_getElem? (i := 9) rfl))) (mvT hZ (hw _ (List.mem_of_getElem? (i := 2) rfl))) (mvT hZ (hw _ (List.mem_of_getElem? (i := 10) rfl))) (by decide) (backOf (W := 0) (rmIso l Z a0 hw [] i2 sREQUIRED sREPEATABLE_READ sREAD_COMMITTED sNOT_SUPPORTED sDEFAULT sMANDATORY sSERIALIZABLE sREAD_UNCOMMITTED sSUPPORTS sREQUIRES_NEW sNESTED sNEVER h0 n0 hz3 O0 SsREQUIRED EsREQUIRED SsREPEATABLE_READ EsREPEATABLE_READ SsREAD_COMMITTED EsREAD_COMMITTED SsNOT_SUPPORTED EsNOT_SUPPORTED SsDEFAULT EsDEFAULT SsMANDATORY EsMANDATORY SsSERIALIZABLE EsSERIALIZABLE SsREAD_UNCOMMITTED EsREAD_UNCOMMITTED SsSUPPORTS EsSUPPORTS SsREQUIRES_NEW EsREQUIRES_NEW SsNESTED EsNESTED SsNEVER EsNEVER) hZ (hw _ (List.mem_of_getElem? (i := 10) rfl)) (hw _ (List.mem_of_getElem? (i := 2) rfl)) (by decide) (by decide)) (g := (mkF m 13 #[.val (.int i0), .val (.int i1), .val (.int i2), .val (.int i3), .val (.int i4), .val (.int i5), .val (.ref r1), .val (.ref r2), .unset, .unset, .unset, .unset, .unset, .unset, .unset, .unset, .unset, .unset] [(.int i2)])) rfl (by rw [hml]; rfl) (argsL := [(.int i2)]) (rest := []) (lenOf pd_9 rfl) rfl (by show 2 * 0 + _ ≤ _; exact Nat.le_of_eq rfl) (hb hby at_13) (fun _ _ => ⟨rfl, eh2, (by decide : 0 + 0 ≤ _), (by decide : 0 + 0 ≤ _)⟩)
  dsimp only [Pt.U, Pt.locs, Pt.cells, Pt.slots] at X3 l3 y3 z3 st3 hQ3
  subst l3 y3 z3
  obtain ⟨r3, rfl, N3q, eh3⟩ := hQ3
  have N3 := Fr.app N2 N3q
  refine oOn st3 ?_
  show oGl p e below (T3.setTop (mkF m 16 #[.val (.int i0), .val (.int i1), .val (.int i2), .val (.int i3), .val (.int i4), .val (.int i5), .val (.ref r1), .val (.ref r2), .unset, .unset, .unset, .unset, .unset, .unset, .unset, .unset, .unset, .unset] [(.ref r3)])) _
  refine sastore X3 hx (hb hby at_16) rfl rfl rfl (l' := #[.val (.int i0), .val (.int i1), .val (.int i2), .val (.int i3), .val (.int i4), .val (.int i5), .val (.ref r1), .val (.ref r2), .val (.ref r3), .unset, .unset, .unset, .unset, .unset, .unset, .unset, .unset, .unset]) (pc' := 18) ?_
  have j30 : ∀ (t : Int32) (ht : ¬ (t < (-1 : Int32))) (T : State) (locs : List Loc) (vmv : Vm) (kS : Nat) (X : Stand p l e room_1 (s.setVm vmv) m #[(.int i0), (.int i1), (.int i2), (.int i3), (.int i4), (.int i5)] below meth c T locs 0 0) (eT : T.heap = h0) (N : Fr n0 locs) (hS : s.Since vmv kS) (hk : kS ≤ h0.size) (hZ : Z.Warmed39 (s.setVm vmv).vm) (hown : (s.setVm vmv).vm.findClass "com/example/demarc/demarc/TransactionDefinitionWithIsolationPinLaw" = some m.cls), oGl p e below (T.setTop (mkF m 30 #[.val (.int i0), .val (.int i1), .val (.int i2), .val (.int i3), .val (.int i4), .val (.int i5), .val (.ref r1), .val (.ref r2), .val (.ref r3), .unset, .unset, .unset, .unset, .unset, .unset, .unset, .unset, .unset] [(.int t)])) (oFinW s below (Q_rmL Z i0 i1 i2 i3 i4 i5 sREQUIRED sREPEATABLE_READ sREAD_COMMITTED sNOT_SUPPORTED sDEFAULT sMANDATORY sSERIALIZABLE sREAD_UNCOMMITTED sSUPPORTS sREQUIRES_NEW sNESTED sNEVER cz h0 n0) 24 2176) := by
    intro t ht T locs vmv kS X eT N hS hk hZ hown
    refine sistore X hx (hb hby at_30) rfl rfl (l' := #[.val (.int i0), .val (.int i1), .val (.int i2), .val (.int i3), .val (.int i4), .val (.int i5), .val (.ref r1), .val (.ref r2), .val (.ref r3), .val (.int t), .unset, .unset, .unset, .unset, .unset, .unset, .unset, .unset]) (pc' := 32) ?_
    have j44 : ∀ (ro : Int32) (hro : nar .boolean ro = ro) (T : State) (locs : List Loc) (vmv : Vm) (kS : Nat) (X : Stand p l e room_1 (s.setVm vmv) m #[(.int i0), (.int i1), (.int i2), (.int i3), (.int i4), (.int i5)] below meth c T locs 0 0) (eT : T.heap = h0) (N : Fr n0 locs) (hS : s.Since vmv kS) (hk : kS ≤ h0.size) (hZ : Z.Warmed39 (s.setVm vmv).vm) (hown : (s.setVm vmv).vm.findClass "com/example/demarc/demarc/TransactionDefinitionWithIsolationPinLaw" = some m.cls), oGl p e below (T.setTop (mkF m 44 #[.val (.int i0), .val (.int i1), .val (.int i2), .val (.int i3), .val (.int i4), .val (.int i5), .val (.ref r1), .val (.ref r2), .val (.ref r3), .val (.int t), .unset, .unset, .unset, .unset, .unset, .unset, .unset, .unset] [(.int ro)])) (oFinW s below (Q_rmL Z i0 i1 i2 i3 i4 i5 sREQUIRED sREPEATABLE_READ sREAD_COMMITTED sNOT_SUPPORTED sDEFAULT sMANDATORY sSERIALIZABLE sREAD_UNCOMMITTED sSUPPORTS sREQUIRES_NEW sNESTED sNEVER cz h0 n0) 24 2176) := by
      intro ro hro T locs vmv kS X eT N hS hk hZ hown
      refine sistore X hx (hb hby at_44) rfl rfl (l' := #[.val (.int i0), .val (.int i1), .val (.int i2), .val (.int i3), .val (.int i4), .val (.int i5), .val (.ref r1), .val (.ref r2), .val (.ref r3), .val (.int t), .val (.int ro), .unset, .unset, .unset, .unset, .unset, .unset, .unset]) (pc' := 46) ?_
      refine siload X hx (hb hby at_46) rfl rfl (pc' := 48) ?_
      refine siconst X hx (hb hby at_48) rfl rfl (z := 2) (pc' := 49) ?_
      refine siand X hx (hb hby at_49) rfl rfl (pc' := 50) ?_
      by_cases hc50 : (i4 &&& (2 : Int32)) = (0 : Int32)
      · skip
        refine sifY X hx (hb hby at_50) (by decide) (by decide) (teq hc50).1 (pc' := 57) ?_
        refine siconst X hx (hb hby at_57) rfl rfl (z := 0) (pc' := 58) ?_
        refine sistore X hx (hb hby at_58) rfl rfl (l' := #[.val (.int i0), .val (.int i1), .val (.int i2), .val (.int i3), .val (.int i4), .val (.int i5), .val (.ref r1), .val (.ref r2), .val (.ref r3), .val (.int t), .val (.int ro), .val (.int (0 : Int32)), .unset, .unset, .unset, .unset, .unset, .unset]) (pc' := 60) ?_
        refine siconst X hx (hb hby at_60) rfl rfl (z := 2) (pc' := 61) ?_
        obtain ⟨T4, h4, k4, X4, e4, E4, A4, st4⟩ := newP X hx hZ (hw _ (List.mem_of_getElem? (i := 16) rfl)) eT (g := (mkF m 61 #[.val (.int i0), .val (.int i1), .val (.int i2), .val (.int i3), .val (.int i4), .val (.int i5), .val (.ref r1), .val (.ref r2), .val (.ref r3), .val (.int t), .val (.int ro), .val (.int (0 : Int32)), .unset, .unset, .unset, .unset, .unset, .unset] [(.int (2 : Int32))])) rfl (hb hby at_61) rfl (by decide) (cap := 2) (by decide) (by decide) (by decide) (by decide)
        obtain ⟨a4, g4⟩ : ∃ z, z = h0.size := ⟨_, rfl⟩
        rw [← g4] at A4 st4
        refine oOn st4 ?_
        have z5 : h0.size ≤ h4.size := E4.1
        have lt4 : a4 < h4.size := A4.lt
        have V4 : oAI Z h4 a4 .char 2 (fun _ => 0) := oAI.new A4 rfl
        show oGl p e below (T4.setTop (mkF m 63 #[.val (.int i0), .val (.int i1), .val (.int i2), .val (.int i3), .val (.int i4), .val (.int i5), .val (.ref r1), .val (.ref r2), .val (.ref r3), .val (.int t), .val (.int ro), .val (.int (0 : Int32)), .unset, .unset, .unset, .unset, .unset, .unset] [(.ref a4)])) _
        refine sastore X4 hx (hb hby at_63) rfl rfl rfl (l' := #[.val (.int i0), .val (.int i1), .val (.int i2), .val (.int i3), .val (.int i4), .val (.int i5), .val (.ref r1), .val (.ref r2), .val (.ref r3), .val (.int t), .val (.int ro), .val (.int (0 : Int32)), .val (.ref a4), .unset, .unset, .unset, .unset, .unset]) (pc' := 65) ?_
        refine saload X4 hx (hb hby at_65) rfl rfl rfl (pc' := 67) ?_
        refine siconst X4 hx (hb hby at_67) rfl rfl (z := 0) (pc' := 68) ?_
        refine siload X4 hx (hb hby at_68) rfl rfl (pc' := 70) ?_
        refine ssipush X4 hx (hb hby at_70) rfl rfl (z := 255) (pc' := 73) ?_
        refine siand X4 hx (hb hby at_73) rfl rfl (pc' := 74) ?_
        refine si2c X4 hx (hb hby at_74) rfl rfl (pc' := 75) ?_
        obtain ⟨T6, h6, X6, e6, W6, V6, st6⟩ := V4.stC X4 hx hZ e4 (j := (0 : Int32)) (by decide) (g := (mkF m 75 #[.val (.int i0), .val (.int i1), .val (.int i2), .val (.int i3), .val (.int i4), .val (.int i5), .val (.ref r1), .val (.ref r2), .val (.ref r3), .val (.int t), .val (.int ro), .val (.int (0 : Int32)), .val (.ref a4), .unset, .unset, .unset, .unset, .unset] [(.int (((i5 &&& (255 : Int32))).toUInt32.toUInt16.toUInt32.toInt32)), (.int (0 : Int32)), (.ref a4)])) rfl rfl (hb hby at_75)
        refine oOn st6 ?_
        have z7 : h4.size ≤ h6.size := Nat.le_of_eq W6.size.symm
        have N6 := Fr.snoc X6 N (by omega)
        show oGl p e below (T6.setTop (mkF m 76 #[.val (.int i0), .val (.int i1), .val (.int i2), .val (.int i3), .val (.int i4), .val (.int i5), .val (.ref r1), .val (.ref r2), .val (.ref r3), .val (.int t), .val (.int ro), .val (.int (0 : Int32)), .val (.ref a4), .unset, .unset, .unset, .unset, .unset] [])) _
        refine saload X6 hx (hb hby at_76) rfl rfl rfl (pc' := 78) ?_
        refine siconst X6 hx (hb hby at_78) rfl rfl (z := 1) (pc' := 79) ?_
        refine siload X6 hx (hb hby at_79) rfl rfl (pc' := 81) ?_
        refine sbipush X6 hx (hb hby at_81) rfl rfl (z := 8) (pc' := 83) ?_
        refine siushr X6 hx (hb hby at_83) rfl rfl (pc' := 84) ?_
        refine ssipush X6 hx (hb hby at_84) rfl rfl (z := 255) (pc' := 87) ?_
        refine siand X6 hx (hb hby at_87) rfl rfl (pc' := 88) ?_
        refine si2c X6 hx (hb hby at_88) rfl rfl (pc' := 89) ?_
        obtain ⟨T8, h8, X8, e8, W8, V8, st8⟩ := V6.stC X6 hx hZ e6 (j := (1 : Int32)) (by decide) (g := (mkF m 89 #[.val (.int i0), .val (.int i1), .val (.int i2), .val (.int i3), .val (.int i4), .val (.int i5), .val (.ref r1), .val (.ref r2), .val (.ref r3), .val (.int t), .val (.int ro), .val (.int (0 : Int32)), .val (.ref a4), .unset, .unset, .unset, .unset, .unset] [(.int (((((i5.toUInt32 >>> ((8 : Int32) &&& 31).toUInt32).toInt32) &&& (255 : Int32))).toUInt32.toUInt16.toUInt32.toInt32)), (.int (1 : Int32)), (.ref a4)])) rfl rfl (hb hby at_89)
        refine oOn st8 ?_
        have z9 : h6.size ≤ h8.size := Nat.le_of_eq W8.size.symm
        have N8 := Fr.snoc X8 N6 (by omega)
        show oGl p e below (T8.setTop (mkF m 90 #[.val (.int i0), .val (.int i1), .val (.int i2), .val (.int i3), .val (.int i4), .val (.int i5), .val (.ref r1), .val (.ref r2), .val (.ref r3), .val (.int t), .val (.int ro), .val (.int (0 : Int32)), .val (.ref a4), .unset, .unset, .unset, .unset, .unset] [])) _
        refine siload X8 hx (hb hby at_90) rfl rfl (pc' := 92) ?_
        refine sifY X8 hx (hb hby at_92) (by decide) (by decide) (teq (by decide : (0 : Int32) = (0 : Int32))).1 (pc' := 99) ?_
        obtain ⟨T10, h10, X10, e10, E10, A10, D10, -, st10⟩ := newO X8 hx hZ hown (hw _ (List.mem_of_getElem? (i := 17) rfl)) (hw _ (List.mem_of_getElem? (i := 18) rfl)) (hw _ (List.mem_of_getElem? (i := 19) rfl)) e8 (g := (mkF m 99 #[.val (.int i0), .val (.int i1), .val (.int i2), .val (.int i3), .val (.int i4), .val (.int i5), .val (.ref r1), .val (.ref r2), .val (.ref r3), .val (.int t), .val (.int ro), .val (.int (0 : Int32)), .val (.ref a4), .unset, .unset, .unset, .unset, .unset] [])) rfl (hb hby at_99) (by decide) (by decide)
        obtain ⟨a10, g10⟩ : ∃ z, z = h8.size := ⟨_, rfl⟩
        rw [← g10] at A10 D10 st10
        refine oOn st10 ?_
        have z11 : h8.size ≤ h10.size := E10.1
        have lt10 : a10 < h10.size := A10.lt
        have f10_43 : Fld Z h10 a10 "java/lang/String" "coder" "B" (.int (0 : Int32)) := D10 (Or.inr (hw _ (List.mem_of_getElem? (i := 43) rfl))) (ty := .byte) (by decide)
        have f10_45 : Fld Z h10 a10 "java/lang/String" "value" "[B" .null := D10 (Or.inr (hw _ (List.mem_of_getElem? (i := 45) rfl))) (ty := (.array .byte)) (by decide)
        show oGl p e below (T10.setTop (mkF m 102 #[.val (.int i0), .val (.int i1), .val (.int i2), .val (.int i3), .val (.int i4), .val (.int i5), .val (.ref r1), .val (.ref r2), .val (.ref r3), .val (.int t), .val (.int ro), .val (.int (0 : Int32)), .val (.ref a4), .unset, .unset, .unset, .unset, .unset] [(.ref a10)])) _
        refine sdup X10 hx (hb hby at_102) rfl rfl (pc' := 103) ?_
        refine saload X10 hx (hb hby at_103) rfl rfl rfl (pc' := 105) ?_
        have hl2 : ∀ j : Nat, j < 2 → ¬ (255 : Int32) < (oUp (oUp (fun _ => 0) 0 (nar .char (((i5 &&& (255 : Int32))).toUInt32.toUInt16.toUInt32.toInt32))) 1 (nar .char (((((i5.toUInt32 >>> ((8 : Int32) &&& 31).toUInt32).toInt32) &&& (255 : Int32))).toUInt32.toUInt16.toUInt32.toInt32))) j := fun j hj => by
          have hj2 : j = 0 ∨ j = 1 := by omega
          rcases hj2 with rfl | rfl
          · exact own_c255 _
          · exact own_c255 _
        have f12 := (V8.ext E10)
        have f13 := ((((O0.ext E4).wr W6 (by omega)).wr W8 (by omega)).ext E10)
        have hz14 : n0 ≤ h10.size := by omega
        obtain ⟨_, _, ⟨T14, L14, k14, n14⟩, -, X14, ⟨Lc14, hQ14, l14, y14, z14⟩, st14⟩ := X10.specialBack hx (y := (⟨"java/lang/String", "<init>", "([C)V"⟩ : MethodName)) rfl hown (mvT hZ (hw _ (List.mem_of_getElem? (i := 20) rfl))) (mvT hZ (hw _ (List.mem_of_getElem? (i := 21) rfl))) (mvT hZ (hw _ (List.mem_of_getElem? (i := 22) rfl))) (by decide) (backOf (W := 1) (rmStr l Z a0 hw [] a10 a4 2 (oUp (oUp (fun _ => 0) 0 (nar .char (((i5 &&& (255 : Int32))).toUInt32.toUInt16.toUInt32.toInt32))) 1 (nar .char (((((i5.toUInt32 >>> ((8 : Int32) &&& 31).toUInt32).toInt32) &&& (255 : Int32))).toUInt32.toUInt16.toUInt32.toInt32))) cz h10 n0 hz14 f12 (by decide) (by decide) hl2 (oNe (by omega)) A10 f10_45 f10_43 (by omega) f13 SCS hcz) hZ (hw _ (List.mem_of_getElem? (i := 22) rfl)) (hw _ (List.mem_of_getElem? (i := 19) rfl)) (by decide) (by decide)) (g := (mkF m 105 #[.val (.int i0), .val (.int i1), .val (.int i2), .val (.int i3), .val (.int i4), .val (.int i5), .val (.ref r1), .val (.ref r2), .val (.ref r3), .val (.int t), .val (.int ro), .val (.int (0 : Int32)), .val (.ref a4), .unset, .unset, .unset, .unset, .unset] [(.ref a4), (.ref a10), (.ref a10)])) rfl (by rw [hml]; rfl) (Steps.refl _) (a := a10) (argsL := [(.ref a4)]) (rest := [(.ref a10)]) (lenOf pd_10 rfl) rfl (by show 2 * 0 + _ ≤ _; exact Nat.le_of_eq rfl) (hb hby at_105) (fun _ _ => ⟨rfl, e10, (by decide : 2 + 1 ≤ _), (by decide : 6 + 2 ≤ _)⟩)
        dsimp only [Pt.U, Pt.locs, Pt.cells, Pt.slots] at X14 l14 y14 z14 st14 hQ14
        subst l14 y14 z14
        obtain ⟨b14, rfl, N14q, K14, zb14, Ex14, Fv14, Fc14, Vb14⟩ := hQ14
        have N14 := Fr.app N8 N14q
        have z15 : h10.size ≤ T14.heap.size := K14.1
        refine oSt st14 ?_
        show oGl p e below (T14.setTop (mkF m 108 #[.val (.int i0), .val (.int i1), .val (.int i2), .val (.int i3), .val (.int i4), .val (.int i5), .val (.ref r1), .val (.ref r2), .val (.ref r3), .val (.int t), .val (.int ro), .val (.int (0 : Int32)), .val (.ref a4), .unset, .unset, .unset, .unset, .unset] [(.ref a10)])) _
        refine sastore X14 hx (hb hby at_108) rfl rfl rfl (l' := #[.val (.int i0), .val (.int i1), .val (.int i2), .val (.int i3), .val (.int i4), .val (.int i5), .val (.ref r1), .val (.ref r2), .val (.ref r3), .val (.int t), .val (.int ro), .val (.int (0 : Int32)), .val (.ref a4), .val (.ref a10), .unset, .unset, .unset, .unset]) (pc' := 110) ?_
        obtain ⟨T16, h16, X16, e16, E16, A16, D16, -, st16⟩ := newO X14 hx hZ hown (hw _ (List.mem_of_getElem? (i := 46) rfl)) (hw _ (List.mem_of_getElem? (i := 47) rfl)) (hw _ (List.mem_of_getElem? (i := 48) rfl)) rfl (g := (mkF m 110 #[.val (.int i0), .val (.int i1), .val (.int i2), .val (.int i3), .val (.int i4), .val (.int i5), .val (.ref r1), .val (.ref r2), .val (.ref r3), .val (.int t), .val (.int ro), .val (.int (0 : Int32)), .val (.ref a4), .val (.ref a10), .unset, .unset, .unset, .unset] [])) rfl (hb hby at_110) (by decide) (by decide)
        obtain ⟨a16, g16⟩ : ∃ z, z = T14.heap.size := ⟨_, rfl⟩
        rw [← g16] at A16 D16 st16
        refine oOn st16 ?_
        have z17 : T14.heap.size ≤ h16.size := E16.1
        have lt16 : a16 < h16.size := A16.lt
        have f16_70 : Fld Z h16 a16 "com/example/demarc/demarc/TransactionDefinition" "propagation" "Lcom/example/demarc/demarc/Propagation;" .null := D16 (Or.inr (hw _ (List.mem_of_getElem? (i := 70) rfl))) (ty := (.object "com/example/demarc/demarc/Propagation")) (by decide)
        have f16_72 : Fld Z h16 a16 "com/example/demarc/demarc/TransactionDefinition" "isolation" "Lcom/example/demarc/demarc/Isolation;" .null := D16 (Or.inr (hw _ (List.mem_of_getElem? (i := 72) rfl))) (ty := (.object "com/example/demarc/demarc/Isolation")) (by decide)
        have f16_74 : Fld Z h16 a16 "com/example/demarc/demarc/TransactionDefinition" "timeoutSeconds" "I" (.int (0 : Int32)) := D16 (Or.inr (hw _ (List.mem_of_getElem? (i := 74) rfl))) (ty := .int) (by decide)
        have f16_76 : Fld Z h16 a16 "com/example/demarc/demarc/TransactionDefinition" "readOnly" "Z" (.int (0 : Int32)) := D16 (Or.inr (hw _ (List.mem_of_getElem? (i := 76) rfl))) (ty := .boolean) (by decide)
        have f16_78 : Fld Z h16 a16 "com/example/demarc/demarc/TransactionDefinition" "name" "Ljava/lang/String;" .null := D16 (Or.inr (hw _ (List.mem_of_getElem? (i := 78) rfl))) (ty := (.object "java/lang/String")) (by decide)
        show oGl p e below (T16.setTop (mkF m 113 #[.val (.int i0), .val (.int i1), .val (.int i2), .val (.int i3), .val (.int i4), .val (.int i5), .val (.ref r1), .val (.ref r2), .val (.ref r3), .val (.int t), .val (.int ro), .val (.int (0 : Int32)), .val (.ref a4), .val (.ref a10), .unset, .unset, .unset, .unset] [(.ref a16)])) _
        refine sdup X16 hx (hb hby at_113) rfl rfl (pc' := 114) ?_
        refine saload X16 hx (hb hby at_114) rfl rfl rfl (pc' := 116) ?_
        refine saload X16 hx (hb hby at_116) rfl rfl rfl (pc' := 118) ?_
        refine siload X16 hx (hb hby at_118) rfl rfl (pc' := 120) ?_
        refine siload X16 hx (hb hby at_120) rfl rfl (pc' := 122) ?_
        refine saload X16 hx (hb hby at_122) rfl rfl rfl (pc' := 124) ?_
        have f18 := ((f13.keep K14 (allS (by omega) all0)).ext E16)
        have hz19 : n0 ≤ h16.size := by omega
        obtain ⟨_, _, ⟨T19, L19, k19, n19⟩, -, X19, hS2, hg2, ⟨Lc19, hQ19, l19, y19, z19⟩, st19⟩ := X16.specialBackS hx (y := (⟨"com/example/demarc/demarc/TransactionDefinition", "<init>", "(Lcom/example/demarc/demarc/Propagation;Lcom/example/demarc/demarc/Isolation;IZLjava/lang/String;)V"⟩ : MethodName)) rfl hown (mvT hZ (hw _ (List.mem_of_getElem? (i := 49) rfl))) (mvT hZ (hw _ (List.mem_of_getElem? (i := 50) rfl))) (mvT hZ (hw _ (List.mem_of_getElem? (i := 51) rfl))) (by decide) (backOfS (W := 1) (rmInit l Z a0 hw [] a16 r1 r2 t ro (.ref a10) h16 n0 hz19 f18 rfl ht hro A16 f16_70 f16_72 f16_74 f16_76 f16_78 (by omega)) hZ (hw _ (List.mem_of_getElem? (i := 51) rfl)) (hw _ (List.mem_of_getElem? (i := 48) rfl)) (by decide) (by decide)) (g := (mkF m 124 #[.val (.int i0), .val (.int i1), .val (.int i2), .val (.int i3), .val (.int i4), .val (.int i5), .val (.ref r1), .val (.ref r2), .val (.ref r3), .val (.int t), .val (.int ro), .val (.int (0 : Int32)), .val (.ref a4), .val (.ref a10), .unset, .unset, .unset, .unset] [(.ref a10), (.int ro), (.int t), (.ref r2), (.ref r1), (.ref a16), (.ref a16)])) rfl (by rw [hml]; rfl) (Steps.refl _) (a := a16) (argsL := [(.ref r1), (.ref r2), (.int t), (.int ro), (.ref a10)]) (rest := [(.ref a16)]) (lenOf pd_7 rfl) rfl (by show 2 * 0 + _ ≤ _; exact Nat.le_of_eq rfl) (hb hby at_124) (fun _ _ => ⟨rfl, e16, (by decide : 4 + 4 ≤ _), (by decide : 13 + 88 ≤ _)⟩)
        dsimp only [Pt.U, Pt.locs, Pt.cells, Pt.slots] at X19 l19 y19 z19 st19 hQ19 hS2 hg2
        subst l19 y19 z19
        obtain ⟨X19, hS, hZ, hown⟩ := rebS hS (n1 := T16.heap.size) (by rw [e16]; omega) X19 hS2 hg2 hZ hown
        have hk : T19.heap.size ≤ T19.heap.size := Nat.le_refl _
        obtain ⟨rfl, N19q, K19, Oo19, Ei19, Fa19, Fb19, Fc19, Fd19, Fe19⟩ := hQ19
        have N19 := Fr.app N14 N19q
        have z20 : h16.size ≤ T19.heap.size := K19.1
        refine oSt st19 ?_
        show oGl p e below (T19.setTop (mkF m 127 #[.val (.int i0), .val (.int i1), .val (.int i2), .val (.int i3), .val (.int i4), .val (.int i5), .val (.ref r1), .val (.ref r2), .val (.ref r3), .val (.int t), .val (.int ro), .val (.int (0 : Int32)), .val (.ref a4), .val (.ref a10), .unset, .unset, .unset, .unset] [(.ref a16)])) _
        refine sastore X19 hx (hb hby at_127) rfl rfl rfl (l' := #[.val (.int i0), .val (.int i1), .val (.int i2), .val (.int i3), .val (.int i4), .val (.int i5), .val (.ref r1), .val (.ref r2), .val (.ref r3), .val (.int t), .val (.int ro), .val (.int (0 : Int32)), .val (.ref a4), .val (.ref a10), .val (.ref a16), .unset, .unset, .unset]) (pc' := 129) ?_
        refine saload X19 hx (hb hby at_129) rfl rfl rfl (pc' := 131) ?_
        refine saload X19 hx (hb hby at_131) rfl rfl rfl (pc' := 133) ?_
        have hz21 : n0 ≤ T19.heap.size := by omega
        obtain ⟨cq21, kq21, q21a, q21b, q21c⟩ := isOf hZ rfl Ei19
        obtain ⟨_, _, ⟨T21, L21, k21, n21⟩, -, X21, hS2, hg2, ⟨Lc21, hQ21, l21, y21, z21⟩, st21⟩ := X19.virtualBackS hx (y := (⟨"com/example/demarc/demarc/TransactionDefinition", "withIsolation", "(Lcom/example/demarc/demarc/Isolation;)Lcom/example/demarc/demarc/TransactionDefinition;"⟩ : MethodName)) (z := (⟨"com/example/demarc/demarc/TransactionDefinition", "withIsolation", "(Lcom/example/demarc/demarc/Isolation;)Lcom/example/demarc/demarc/TransactionDefinition;"⟩ : MethodName)) hown (mvT hZ (hw _ (List.mem_of_getElem? (i := 79) rfl))) (mvT hZ (hw _ (List.mem_of_getElem? (i := 80) rfl))) (notFace_of_selects (args := #[]) (mvT hZ (hw _ (List.mem_of_getElem? (i := 82) rfl)))) (mvT hZ (hw _ (List.mem_of_getElem? (i := 82) rfl))) (mvT hZ (hw _ (List.mem_of_getElem? (i := 81) rfl))) (by decide) (backOfS (W := 0) (rmWith l Z a0 hw [] a16 r1 r2 r3 t ro (.ref a10) T19.heap n0 hz21 Oo19 rfl ht hro Ei19 Fa19 Fb19 Fc19 Fd19 Fe19) hZ (hw _ (List.mem_of_getElem? (i := 83) rfl)) (hw _ (List.mem_of_getElem? (i := 48) rfl)) (by decide) (by decide)) q21a q21c (g := (mkF m 133 #[.val (.int i0), .val (.int i1), .val (.int i2), .val (.int i3), .val (.int i4), .val (.int i5), .val (.ref r1), .val (.ref r2), .val (.ref r3), .val (.int t), .val (.int ro), .val (.int (0 : Int32)), .val (.ref a4), .val (.ref a10), .val (.ref a16), .unset, .unset, .unset] [(.ref r3), (.ref a16)])) rfl (by rw [hml]; rfl) (Steps.refl _) (argsL := [(.ref r3)]) (rest := []) (lenOf pd_11 rfl) rfl (by show 2 * 0 + _ ≤ _; exact Nat.le_of_eq rfl) (hb hby at_133) (fun _ _ => ⟨rfl, rfl, (by decide : 8 + 5 ≤ _), (by decide : 101 + 93 ≤ _)⟩)
        dsimp only [Pt.U, Pt.locs, Pt.cells, Pt.slots] at X21 l21 y21 z21 st21 hQ21 hS2 hg2
        subst l21 y21 z21
        obtain ⟨X21, hS, hZ, hown⟩ := rebS hS (n1 := T19.heap.size) (by omega) X21 hS2 hg2 hZ hown
        have hk : T21.heap.size ≤ T21.heap.size := Nat.le_refl _
        obtain ⟨r21, rfl, N21q, K21, Oo21, zr21, Ei21, Fa21, Fb21, Fc21, Fd21, Fe21⟩ := hQ21
        have N21 := Fr.app N19 N21q
        have z22 : T19.heap.size ≤ T21.heap.size := K21.1
        refine oSt st21 ?_
        have lr21 : @LT.lt Nat _ r21 T21.heap.size := Ei21.lt
        show oGl p e below (T21.setTop (mkF m 136 #[.val (.int i0), .val (.int i1), .val (.int i2), .val (.int i3), .val (.int i4), .val (.int i5), .val (.ref r1), .val (.ref r2), .val (.ref r3), .val (.int t), .val (.int ro), .val (.int (0 : Int32)), .val (.ref a4), .val (.ref a10), .val (.ref a16), .unset, .unset, .unset] [(.ref r21)])) _
        refine sastore X21 hx (hb hby at_136) rfl rfl rfl (l' := #[.val (.int i0), .val (.int i1), .val (.int i2), .val (.int i3), .val (.int i4), .val (.int i5), .val (.ref r1), .val (.ref r2), .val (.ref r3), .val (.int t), .val (.int ro), .val (.int (0 : Int32)), .val (.ref a4), .val (.ref a10), .val (.ref a16), .val (.ref r21), .unset, .unset]) (pc' := 138) ?_
        refine saload X21 hx (hb hby at_138) rfl rfl rfl (pc' := 140) ?_
        have hz23 : n0 ≤ T21.heap.size := by omega
        obtain ⟨cq23, kq23, q23a, q23b, q23c⟩ := isOf hZ rfl Ei21
        obtain ⟨_, _, ⟨T23, L23, k23, n23⟩, -, X23, ⟨Lc23, hQ23, l23, y23, z23⟩, st23⟩ := X21.virtualBack hx (y := (⟨"com/example/demarc/demarc/TransactionDefinition", "name", "()Ljava/lang/String;"⟩ : MethodName)) (z := (⟨"com/example/demarc/demarc/TransactionDefinition", "name", "()Ljava/lang/String;"⟩ : MethodName)) hown (mvT hZ (hw _ (List.mem_of_getElem? (i := 86) rfl))) (mvT hZ (hw _ (List.mem_of_getElem? (i := 87) rfl))) (notFace_of_selects (args := #[]) (mvT hZ (hw _ (List.mem_of_getElem? (i := 89) rfl)))) (mvT hZ (hw _ (List.mem_of_getElem? (i := 89) rfl))) (mvT hZ (hw _ (List.mem_of_getElem? (i := 88) rfl))) (by decide) (backOf (W := 0) (rm_name l Z a0 hw [] r21 (.ref a10) T21.heap n0 hz23 Fe21 rfl) hZ (hw _ (List.mem_of_getElem? (i := 90) rfl)) (hw _ (List.mem_of_getElem? (i := 48) rfl)) (by decide) (by decide)) q23a q23c (g := (mkF m 140 #[.val (.int i0), .val (.int i1), .val (.int i2), .val (.int i3), .val (.int i4), .val (.int i5), .val (.ref r1), .val (.ref r2), .val (.ref r3), .val (.int t), .val (.int ro), .val (.int (0 : Int32)), .val (.ref a4), .val (.ref a10), .val (.ref a16), .val (.ref r21), .unset, .unset] [(.ref r21)])) rfl (by rw [hml]; rfl) (Steps.refl _) (argsL := []) (rest := []) (lenOf pd_12 rfl) rfl (by show 2 * 0 + _ ≤ _; exact Nat.le_of_eq rfl) (hb hby at_140) (fun _ _ => ⟨rfl, rfl, (by decide : 13 + 0 ≤ _), (by decide : 194 + 0 ≤ _)⟩)
        dsimp only [Pt.U, Pt.locs, Pt.cells, Pt.slots] at X23 l23 y23 z23 st23 hQ23
        subst l23 y23 z23
        obtain ⟨rfl, N23q, eh23⟩ := hQ23
        have N23 := Fr.app N21 N23q
        refine oSt st23 ?_
        show oGl p e below (T23.setTop (mkF m 143 #[.val (.int i0), .val (.int i1), .val (.int i2), .val (.int i3), .val (.int i4), .val (.int i5), .val (.ref r1), .val (.ref r2), .val (.ref r3), .val (.int t), .val (.int ro), .val (.int (0 : Int32)), .val (.ref a4), .val (.ref a10), .val (.ref a16), .val (.ref r21), .unset, .unset] [(.ref a10)])) _
        refine sastore X23 hx (hb hby at_143) rfl rfl rfl (l' := #[.val (.int i0), .val (.int i1), .val (.int i2), .val (.int i3), .val (.int i4), .val (.int i5), .val (.ref r1), .val (.ref r2), .val (.ref r3), .val (.int t), .val (.int ro), .val (.int (0 : Int32)), .val (.ref a4), .val (.ref a10), .val (.ref a16), .val (.ref r21), .val (.ref a10), .unset]) (pc' := 145) ?_
        refine saload X23 hx (hb hby at_145) rfl rfl rfl (pc' := 147) ?_
        refine sifnonnullY X23 hx (hb hby at_147) (by decide) (by decide)  (pc' := 163) ?_
        refine saload X23 hx (hb hby at_163) rfl rfl rfl (pc' := 165) ?_
        refine saload X23 hx (hb hby at_165) rfl rfl rfl (pc' := 167) ?_
        have hz24 : n0 ≤ T21.heap.size := by omega
        have f25 := (((Ex14.ext E16).keep K19).keep K21)
        obtain ⟨cq24, kq24, q24a, q24b, q24c⟩ := isOf hZ eh23 f25
        obtain ⟨_, _, ⟨T24, L24, k24, n24⟩, -, X24, ⟨Lc24, hQ24, l24, y24, z24⟩, st24⟩ := X23.virtualBack hx (y := (⟨"java/lang/String", "equals", "(Ljava/lang/Object;)Z"⟩ : MethodName)) (z := (⟨"java/lang/String", "equals", "(Ljava/lang/Object;)Z"⟩ : MethodName)) hown (mvT hZ (hw _ (List.mem_of_getElem? (i := 91) rfl))) (mvT hZ (hw _ (List.mem_of_getElem? (i := 92) rfl))) (notFace_of_selects (args := #[]) (mvT hZ (hw _ (List.mem_of_getElem? (i := 94) rfl)))) (mvT hZ (hw _ (List.mem_of_getElem? (i := 94) rfl))) (mvT hZ (hw _ (List.mem_of_getElem? (i := 93) rfl))) (by decide) (backOf (W := 0) (rmEq l Z a0 hw [] a10 T21.heap n0 hz24 ) hZ (hw _ (List.mem_of_getElem? (i := 95) rfl)) (hw _ (List.mem_of_getElem? (i := 19) rfl)) (by decide) (by decide)) q24a q24c (g := (mkF m 167 #[.val (.int i0), .val (.int i1), .val (.int i2), .val (.int i3), .val (.int i4), .val (.int i5), .val (.ref r1), .val (.ref r2), .val (.ref r3), .val (.int t), .val (.int ro), .val (.int (0 : Int32)), .val (.ref a4), .val (.ref a10), .val (.ref a16), .val (.ref r21), .val (.ref a10), .unset] [(.ref a10), (.ref a10)])) rfl (by rw [hml]; rfl) (Steps.refl _) (argsL := [(.ref a10)]) (rest := []) (lenOf pd_13 rfl) rfl (by show 2 * 0 + _ ≤ _; exact Nat.le_of_eq rfl) (hb hby at_167) (fun _ _ => ⟨rfl, eh23, (by decide : 13 + 0 ≤ _), (by decide : 194 + 0 ≤ _)⟩)
        dsimp only [Pt.U, Pt.locs, Pt.cells, Pt.slots] at X24 l24 y24 z24 st24 hQ24
        subst l24 y24 z24
        obtain ⟨rfl, N24q, eh24⟩ := hQ24
        have N24 := Fr.app N23 N24q
        refine oSt st24 ?_
        show oGl p e below (T24.setTop (mkF m 170 #[.val (.int i0), .val (.int i1), .val (.int i2), .val (.int i3), .val (.int i4), .val (.int i5), .val (.ref r1), .val (.ref r2), .val (.ref r3), .val (.int t), .val (.int ro), .val (.int (0 : Int32)), .val (.ref a4), .val (.ref a10), .val (.ref a16), .val (.ref r21), .val (.ref a10), .unset] [(.int (1 : Int32))])) _
        refine sistore X24 hx (hb hby at_170) rfl rfl (l' := #[.val (.int i0), .val (.int i1), .val (.int i2), .val (.int i3), .val (.int i4), .val (.int i5), .val (.ref r1), .val (.ref r2), .val (.ref r3), .val (.int t), .val (.int ro), .val (.int (0 : Int32)), .val (.ref a4), .val (.ref a10), .val (.ref a16), .val (.ref r21), .val (.ref a10), .val (.int (1 : Int32))]) (pc' := 172) ?_
        refine saload X24 hx (hb hby at_172) rfl rfl rfl (pc' := 174) ?_
        have hz26 : n0 ≤ T21.heap.size := by omega
        obtain ⟨cq26, kq26, q26a, q26b, q26c⟩ := isOf hZ eh24 Ei21
        obtain ⟨_, _, ⟨T26, L26, k26, n26⟩, -, X26, ⟨Lc26, hQ26, l26, y26, z26⟩, st26⟩ := X24.virtualBack hx (y := (⟨"com/example/demarc/demarc/TransactionDefinition", "isolation", "()Lcom/example/demarc/demarc/Isolation;"⟩ : MethodName)) (z := (⟨"com/example/demarc/demarc/TransactionDefinition", "isolation", "()Lcom/example/demarc/demarc/Isolation;"⟩ : MethodName)) hown (mvT hZ (hw _ (List.mem_of_getElem? (i := 96) rfl))) (mvT hZ (hw _ (List.mem_of_getElem? (i := 97) rfl))) (notFace_of_selects (args := #[]) (mvT hZ (hw _ (List.mem_of_getElem? (i := 99) rfl)))) (mvT hZ (hw _ (List.mem_of_getElem? (i := 99) rfl))) (mvT hZ (hw _ (List.mem_of_getElem? (i := 98) rfl))) (by decide) (backOf (W := 0) (rm_isolation l Z a0 hw [] r21 r3 T21.heap n0 hz26 Fb21) hZ (hw _ (List.mem_of_getElem? (i := 100) rfl)) (hw _ (List.mem_of_getElem? (i := 48) rfl)) (by decide) (by decide)) q26a q26c (g := (mkF m 174 #[.val (.int i0), .val (.int i1), .val (.int i2), .val (.int i3), .val (.int i4), .val (.int i5), .val (.ref r1), .val (.ref r2), .val (.ref r3), .val (.int t), .val (.int ro), .val (.int (0 : Int32)), .val (.ref a4), .val (.ref a10), .val (.ref a16), .val (.ref r21), .val (.ref a10), .val (.int (1 : Int32))] [(.ref r21)])) rfl (by rw [hml]; rfl) (Steps.refl _) (argsL := []) (rest := []) (lenOf pd_14 rfl) rfl (by show 2 * 0 + _ ≤ _; exact Nat.le_of_eq rfl) (hb hby at_174) (fun _ _ => ⟨rfl, eh24, (by decide : 13 + 0 ≤ _), (by decide : 194 + 0 ≤ _)⟩)
        dsimp only [Pt.U, Pt.locs, Pt.cells, Pt.slots] at X26 l26 y26 z26 st26 hQ26
        subst l26 y26 z26
        obtain ⟨rfl, N26q, eh26⟩ := hQ26
        have N26 := Fr.app N24 N26q
        refine oSt st26 ?_
        show oGl p e below (T26.setTop (mkF m 177 #[.val (.int i0), .val (.int i1), .val (.int i2), .val (.int i3), .val (.int i4), .val (.int i5), .val (.ref r1), .val (.ref r2), .val (.ref r3), .val (.int t), .val (.int ro), .val (.int (0 : Int32)), .val (.ref a4), .val (.ref a10), .val (.ref a16), .val (.ref r21), .val (.ref a10), .val (.int (1 : Int32))] [(.ref r3)])) _
        refine saload X26 hx (hb hby at_177) rfl rfl rfl (pc' := 179) ?_
        refine oOn (fun _ kK => Jvm.RoadKit.acmp (g := (mkF m 179 #[.val (.int i0), .val (.int i1), .val (.int i2), .val (.int i3), .val (.int i4), .val (.int i5), .val (.ref r1), .val (.ref r2), .val (.ref r3), .val (.int t), .val (.int ro), .val (.int (0 : Int32)), .val (.ref a4), .val (.ref a10), .val (.ref a16), .val (.ref r21), .val (.ref a10), .val (.int (1 : Int32))] [(.ref r3), (.ref r3)])) X26 hx rfl rfl rfl (pc0 := 179) (pc' := 182) (same := true) rfl (hb hby at_179) rfl (decide_eq_true rfl) (by decide) (by decide) kK) ?_
        show oGl p e below (T26.setTop (mkF m 182 #[.val (.int i0), .val (.int i1), .val (.int i2), .val (.int i3), .val (.int i4), .val (.int i5), .val (.ref r1), .val (.ref r2), .val (.ref r3), .val (.int t), .val (.int ro), .val (.int (0 : Int32)), .val (.ref a4), .val (.ref a10), .val (.ref a16), .val (.ref r21), .val (.ref a10), .val (.int (1 : Int32))] [])) _
        refine saload X26 hx (hb hby at_182) rfl rfl rfl (pc' := 184) ?_
        have hz27 : n0 ≤ T21.heap.size := by omega
        obtain ⟨cq27, kq27, q27a, q27b, q27c⟩ := isOf hZ eh26 Ei21
        obtain ⟨_, _, ⟨T27, L27, k27, n27⟩, -, X27, ⟨Lc27, hQ27, l27, y27, z27⟩, st27⟩ := X26.virtualBack hx (y := (⟨"com/example/demarc/demarc/TransactionDefinition", "propagation", "()Lcom/example/demarc/demarc/Propagation;"⟩ : MethodName)) (z := (⟨"com/example/demarc/demarc/TransactionDefinition", "propagation", "()Lcom/example/demarc/demarc/Propagation;"⟩ : MethodName)) hown (mvT hZ (hw _ (List.mem_of_getElem? (i := 101) rfl))) (mvT hZ (hw _ (List.mem_of_getElem? (i := 102) rfl))) (notFace_of_selects (args := #[]) (mvT hZ (hw _ (List.mem_of_getElem? (i := 104) rfl)))) (mvT hZ (hw _ (List.mem_of_getElem? (i := 104) rfl))) (mvT hZ (hw _ (List.mem_of_getElem? (i := 103) rfl))) (by decide) (backOf (W := 0) (rm_propagation l Z a0 hw [] r21 r1 T21.heap n0 hz27 Fa21) hZ (hw _ (List.mem_of_getElem? (i := 105) rfl)) (hw _ (List.mem_of_getElem? (i := 48) rfl)) (by decide) (by decide)) q27a q27c (g := (mkF m 184 #[.val (.int i0), .val (.int i1), .val (.int i2), .val (.int i3), .val (.int i4), .val (.int i5), .val (.ref r1), .val (.ref r2), .val (.ref r3), .val (.int t), .val (.int ro), .val (.int (0 : Int32)), .val (.ref a4), .val (.ref a10), .val (.ref a16), .val (.ref r21), .val (.ref a10), .val (.int (1 : Int32))] [(.ref r21)])) rfl (by rw [hml]; rfl) (Steps.refl _) (argsL := []) (rest := []) (lenOf pd_15 rfl) rfl (by show 2 * 0 + _ ≤ _; exact Nat.le_of_eq rfl) (hb hby at_184) (fun _ _ => ⟨rfl, eh26, (by decide : 13 + 0 ≤ _), (by decide : 194 + 0 ≤ _)⟩)
        dsimp only [Pt.U, Pt.locs, Pt.cells, Pt.slots] at X27 l27 y27 z27 st27 hQ27
        subst l27 y27 z27
        obtain ⟨rfl, N27q, eh27⟩ := hQ27
        have N27 := Fr.app N26 N27q
        refine oSt st27 ?_
        show oGl p e below (T27.setTop (mkF m 187 #[.val (.int i0), .val (.int i1), .val (.int i2), .val (.int i3), .val (.int i4), .val (.int i5), .val (.ref r1), .val (.ref r2), .val (.ref r3), .val (.int t), .val (.int ro), .val (.int (0 : Int32)), .val (.ref a4), .val (.ref a10), .val (.ref a16), .val (.ref r21), .val (.ref a10), .val (.int (1 : Int32))] [(.ref r1)])) _
        refine saload X27 hx (hb hby at_187) rfl rfl rfl (pc' := 189) ?_
        refine oOn (fun _ kK => Jvm.RoadKit.acmp (g := (mkF m 189 #[.val (.int i0), .val (.int i1), .val (.int i2), .val (.int i3), .val (.int i4), .val (.int i5), .val (.ref r1), .val (.ref r2), .val (.ref r3), .val (.int t), .val (.int ro), .val (.int (0 : Int32)), .val (.ref a4), .val (.ref a10), .val (.ref a16), .val (.ref r21), .val (.ref a10), .val (.int (1 : Int32))] [(.ref r1), (.ref r1)])) X27 hx rfl rfl rfl (pc0 := 189) (pc' := 192) (same := true) rfl (hb hby at_189) rfl (decide_eq_true rfl) (by decide) (by decide) kK) ?_
        show oGl p e below (T27.setTop (mkF m 192 #[.val (.int i0), .val (.int i1), .val (.int i2), .val (.int i3), .val (.int i4), .val (.int i5), .val (.ref r1), .val (.ref r2), .val (.ref r3), .val (.int t), .val (.int ro), .val (.int (0 : Int32)), .val (.ref a4), .val (.ref a10), .val (.ref a16), .val (.ref r21), .val (.ref a10), .val (.int (1 : Int32))] [])) _
        refine saload X27 hx (hb hby at_192) rfl rfl rfl (pc' := 194) ?_
        have hz28 : n0 ≤ T21.heap.size := by omega
        obtain ⟨cq28, kq28, q28a, q28b, q28c⟩ := isOf hZ eh27 Ei21
        obtain ⟨_, _, ⟨T28, L28, k28, n28⟩, -, X28, ⟨Lc28, hQ28, l28, y28, z28⟩, st28⟩ := X27.virtualBack hx (y := (⟨"com/example/demarc/demarc/TransactionDefinition", "timeoutSeconds", "()I"⟩ : MethodName)) (z := (⟨"com/example/demarc/demarc/TransactionDefinition", "timeoutSeconds", "()I"⟩ : MethodName)) hown (mvT hZ (hw _ (List.mem_of_getElem? (i := 106) rfl))) (mvT hZ (hw _ (List.mem_of_getElem? (i := 107) rfl))) (notFace_of_selects (args := #[]) (mvT hZ (hw _ (List.mem_of_getElem? (i := 109) rfl)))) (mvT hZ (hw _ (List.mem_of_getElem? (i := 109) rfl))) (mvT hZ (hw _ (List.mem_of_getElem? (i := 108) rfl))) (by decide) (backOf (W := 0) (rm_timeoutSeconds l Z a0 hw [] r21 t T21.heap n0 hz28 Fc21) hZ (hw _ (List.mem_of_getElem? (i := 110) rfl)) (hw _ (List.mem_of_getElem? (i := 48) rfl)) (by decide) (by decide)) q28a q28c (g := (mkF m 194 #[.val (.int i0), .val (.int i1), .val (.int i2), .val (.int i3), .val (.int i4), .val (.int i5), .val (.ref r1), .val (.ref r2), .val (.ref r3), .val (.int t), .val (.int ro), .val (.int (0 : Int32)), .val (.ref a4), .val (.ref a10), .val (.ref a16), .val (.ref r21), .val (.ref a10), .val (.int (1 : Int32))] [(.ref r21)])) rfl (by rw [hml]; rfl) (Steps.refl _) (argsL := []) (rest := []) (lenOf pd_16 rfl) rfl (by show 2 * 0 + _ ≤ _; exact Nat.le_of_eq rfl) (hb hby at_194) (fun _ _ => ⟨rfl, eh27, (by decide : 13 + 0 ≤ _), (by decide : 194 + 0 ≤ _)⟩)
        dsimp only [Pt.U, Pt.locs, Pt.cells, Pt.slots] at X28 l28 y28 z28 st28 hQ28
        subst l28 y28 z28
        obtain ⟨rfl, N28q, eh28⟩ := hQ28
        have N28 := Fr.app N27 N28q
        refine oSt st28 ?_
        show oGl p e below (T28.setTop (mkF m 197 #[.val (.int i0), .val (.int i1), .val (.int i2), .val (.int i3), .val (.int i4), .val (.int i5), .val (.ref r1), .val (.ref r2), .val (.ref r3), .val (.int t), .val (.int ro), .val (.int (0 : Int32)), .val (.ref a4), .val (.ref a10), .val (.ref a16), .val (.ref r21), .val (.ref a10), .val (.int (1 : Int32))] [(.int t)])) _
        refine siload X28 hx (hb hby at_197) rfl rfl (pc' := 199) ?_
        refine sicN X28 hx (hb hby at_199) rfl (teq (rfl : t = t)).2 (pc' := 202) ?_
        refine saload X28 hx (hb hby at_202) rfl rfl rfl (pc' := 204) ?_
        have hz29 : n0 ≤ T21.heap.size := by omega
        obtain ⟨cq29, kq29, q29a, q29b, q29c⟩ := isOf hZ eh28 Ei21
        obtain ⟨_, _, ⟨T29, L29, k29, n29⟩, -, X29, ⟨Lc29, hQ29, l29, y29, z29⟩, st29⟩ := X28.virtualBack hx (y := (⟨"com/example/demarc/demarc/TransactionDefinition", "readOnly", "()Z"⟩ : MethodName)) (z := (⟨"com/example/demarc/demarc/TransactionDefinition", "readOnly", "()Z"⟩ : MethodName)) hown (mvT hZ (hw _ (List.mem_of_getElem? (i := 111) rfl))) (mvT hZ (hw _ (List.mem_of_getElem? (i := 112) rfl))) (notFace_of_selects (args := #[]) (mvT hZ (hw _ (List.mem_of_getElem? (i := 114) rfl)))) (mvT hZ (hw _ (List.mem_of_getElem? (i := 114) rfl))) (mvT hZ (hw _ (List.mem_of_getElem? (i := 113) rfl))) (by decide) (backOf (W := 0) (rm_readOnly l Z a0 hw [] r21 ro T21.heap n0 hz29 Fd21 hro) hZ (hw _ (List.mem_of_getElem? (i := 115) rfl)) (hw _ (List.mem_of_getElem? (i := 48) rfl)) (by decide) (by decide)) q29a q29c (g := (mkF m 204 #[.val (.int i0), .val (.int i1), .val (.int i2), .val (.int i3), .val (.int i4), .val (.int i5), .val (.ref r1), .val (.ref r2), .val (.ref r3), .val (.int t), .val (.int ro), .val (.int (0 : Int32)), .val (.ref a4), .val (.ref a10), .val (.ref a16), .val (.ref r21), .val (.ref a10), .val (.int (1 : Int32))] [(.ref r21)])) rfl (by rw [hml]; rfl) (Steps.refl _) (argsL := []) (rest := []) (lenOf pd_17 rfl) rfl (by show 2 * 0 + _ ≤ _; exact Nat.le_of_eq rfl) (hb hby at_204) (fun _ _ => ⟨rfl, eh28, (by decide : 13 + 0 ≤ _), (by decide : 194 + 0 ≤ _)⟩)
        dsimp only [Pt.U, Pt.locs, Pt.cells, Pt.slots] at X29 l29 y29 z29 st29 hQ29
        subst l29 y29 z29
        obtain ⟨rfl, N29q, eh29⟩ := hQ29
        have N29 := Fr.app N28 N29q
        refine oSt st29 ?_
        show oGl p e below (T29.setTop (mkF m 207 #[.val (.int i0), .val (.int i1), .val (.int i2), .val (.int i3), .val (.int i4), .val (.int i5), .val (.ref r1), .val (.ref r2), .val (.ref r3), .val (.int t), .val (.int ro), .val (.int (0 : Int32)), .val (.ref a4), .val (.ref a10), .val (.ref a16), .val (.ref r21), .val (.ref a10), .val (.int (1 : Int32))] [(.int ro)])) _
        refine siload X29 hx (hb hby at_207) rfl rfl (pc' := 209) ?_
        refine sicN X29 hx (hb hby at_209) rfl (teq (rfl : ro = ro)).2 (pc' := 212) ?_
        refine siload X29 hx (hb hby at_212) rfl rfl (pc' := 214) ?_
        refine sifN X29 hx (hb hby at_214) rfl (feq (by decide : ¬ ((1 : Int32) = (0 : Int32)))).1 (pc' := 217) ?_
        refine saload X29 hx (hb hby at_217) rfl rfl rfl (pc' := 219) ?_
        have f30 := (Fb19.keep K21 nin0)
        have hz31 : n0 ≤ T21.heap.size := by omega
        have f32 := (Ei19.keep K21)
        obtain ⟨cq31, kq31, q31a, q31b, q31c⟩ := isOf hZ eh29 f32
        obtain ⟨_, _, ⟨T31, L31, k31, n31⟩, -, X31, ⟨Lc31, hQ31, l31, y31, z31⟩, st31⟩ := X29.virtualBack hx (y := (⟨"com/example/demarc/demarc/TransactionDefinition", "isolation", "()Lcom/example/demarc/demarc/Isolation;"⟩ : MethodName)) (z := (⟨"com/example/demarc/demarc/TransactionDefinition", "isolation", "()Lcom/example/demarc/demarc/Isolation;"⟩ : MethodName)) hown (mvT hZ (hw _ (List.mem_of_getElem? (i := 96) rfl))) (mvT hZ (hw _ (List.mem_of_getElem? (i := 97) rfl))) (notFace_of_selects (args := #[]) (mvT hZ (hw _ (List.mem_of_getElem? (i := 99) rfl)))) (mvT hZ (hw _ (List.mem_of_getElem? (i := 99) rfl))) (mvT hZ (hw _ (List.mem_of_getElem? (i := 98) rfl))) (by decide) (backOf (W := 0) (rm_isolation l Z a0 hw [] a16 r2 T21.heap n0 hz31 f30) hZ (hw _ (List.mem_of_getElem? (i := 100) rfl)) (hw _ (List.mem_of_getElem? (i := 48) rfl)) (by decide) (by decide)) q31a q31c (g := (mkF m 219 #[.val (.int i0), .val (.int i1), .val (.int i2), .val (.int i3), .val (.int i4), .val (.int i5), .val (.ref r1), .val (.ref r2), .val (.ref r3), .val (.int t), .val (.int ro), .val (.int (0 : Int32)), .val (.ref a4), .val (.ref a10), .val (.ref a16), .val (.ref r21), .val (.ref a10), .val (.int (1 : Int32))] [(.ref a16)])) rfl (by rw [hml]; rfl) (Steps.refl _) (argsL := []) (rest := []) (lenOf pd_14 rfl) rfl (by show 2 * 0 + _ ≤ _; exact Nat.le_of_eq rfl) (hb hby at_219) (fun _ _ => ⟨rfl, eh29, (by decide : 13 + 0 ≤ _), (by decide : 194 + 0 ≤ _)⟩)
        dsimp only [Pt.U, Pt.locs, Pt.cells, Pt.slots] at X31 l31 y31 z31 st31 hQ31
        subst l31 y31 z31
        obtain ⟨rfl, N31q, eh31⟩ := hQ31
        have N31 := Fr.app N29 N31q
        refine oSt st31 ?_
        show oGl p e below (T31.setTop (mkF m 222 #[.val (.int i0), .val (.int i1), .val (.int i2), .val (.int i3), .val (.int i4), .val (.int i5), .val (.ref r1), .val (.ref r2), .val (.ref r3), .val (.int t), .val (.int ro), .val (.int (0 : Int32)), .val (.ref a4), .val (.ref a10), .val (.ref a16), .val (.ref r21), .val (.ref a10), .val (.int (1 : Int32))] [(.ref r2)])) _
        refine saload X31 hx (hb hby at_222) rfl rfl rfl (pc' := 224) ?_
        refine oOn (fun _ kK => Jvm.RoadKit.acmp (g := (mkF m 224 #[.val (.int i0), .val (.int i1), .val (.int i2), .val (.int i3), .val (.int i4), .val (.int i5), .val (.ref r1), .val (.ref r2), .val (.ref r3), .val (.int t), .val (.int ro), .val (.int (0 : Int32)), .val (.ref a4), .val (.ref a10), .val (.ref a16), .val (.ref r21), .val (.ref a10), .val (.int (1 : Int32))] [(.ref r2), (.ref r2)])) X31 hx rfl rfl rfl (pc0 := 224) (pc' := 227) (same := true) rfl (hb hby at_224) rfl (decide_eq_true rfl) (by decide) (by decide) kK) ?_
        show oGl p e below (T31.setTop (mkF m 227 #[.val (.int i0), .val (.int i1), .val (.int i2), .val (.int i3), .val (.int i4), .val (.int i5), .val (.ref r1), .val (.ref r2), .val (.ref r3), .val (.int t), .val (.int ro), .val (.int (0 : Int32)), .val (.ref a4), .val (.ref a10), .val (.ref a16), .val (.ref r21), .val (.ref a10), .val (.int (1 : Int32))] [])) _
        refine siconst X31 hx (hb hby at_227) rfl rfl (z := 1) (pc' := 228) ?_
        refine sgoto X31 hx (hb hby at_228) (by decide) (by decide)  (pc' := 232) ?_
        refine oRetNW (t := .boolean) X31 hS (by rw [eh31]; omega) hx Bd.notSynchronized Bd.returns (by simp) (hb hby at_232) (by decide) (by decide) ?_
        show Q_rmL Z i0 i1 i2 i3 i4 i5 sREQUIRED sREPEATABLE_READ sREAD_COMMITTED sNOT_SUPPORTED sDEFAULT sMANDATORY sSERIALIZABLE sREAD_UNCOMMITTED sSUPPORTS sREQUIRES_NEW sNESTED sNEVER cz h0 n0 _ T31.heap _
        rw [eh31]
        exact ⟨rfl, N31⟩
      · skip
        refine sifN X hx (hb hby at_50) rfl (feq hc50).1 (pc' := 53) ?_
        refine siconst X hx (hb hby at_53) rfl rfl (z := 1) (pc' := 54) ?_
        refine sgoto X hx (hb hby at_54) (by decide) (by decide)  (pc' := 58) ?_
        refine sistore X hx (hb hby at_58) rfl rfl (l' := #[.val (.int i0), .val (.int i1), .val (.int i2), .val (.int i3), .val (.int i4), .val (.int i5), .val (.ref r1), .val (.ref r2), .val (.ref r3), .val (.int t), .val (.int ro), .val (.int (1 : Int32)), .unset, .unset, .unset, .unset, .unset, .unset]) (pc' := 60) ?_
        refine siconst X hx (hb hby at_60) rfl rfl (z := 2) (pc' := 61) ?_
        obtain ⟨T33, h33, k33, X33, e33, E33, A33, st33⟩ := newP X hx hZ (hw _ (List.mem_of_getElem? (i := 16) rfl)) eT (g := (mkF m 61 #[.val (.int i0), .val (.int i1), .val (.int i2), .val (.int i3), .val (.int i4), .val (.int i5), .val (.ref r1), .val (.ref r2), .val (.ref r3), .val (.int t), .val (.int ro), .val (.int (1 : Int32)), .unset, .unset, .unset, .unset, .unset, .unset] [(.int (2 : Int32))])) rfl (hb hby at_61) rfl (by decide) (cap := 2) (by decide) (by decide) (by decide) (by decide)
        obtain ⟨a33, g33⟩ : ∃ z, z = h0.size := ⟨_, rfl⟩
        rw [← g33] at A33 st33
        refine oOn st33 ?_
        have z34 : h0.size ≤ h33.size := E33.1
        have lt33 : a33 < h33.size := A33.lt
        have V33 : oAI Z h33 a33 .char 2 (fun _ => 0) := oAI.new A33 rfl
        show oGl p e below (T33.setTop (mkF m 63 #[.val (.int i0), .val (.int i1), .val (.int i2), .val (.int i3), .val (.int i4), .val (.int i5), .val (.ref r1), .val (.ref r2), .val (.ref r3), .val (.int t), .val (.int ro), .val (.int (1 : Int32)), .unset, .unset, .unset, .unset, .unset, .unset] [(.ref a33)])) _
        refine sastore X33 hx (hb hby at_63) rfl rfl rfl (l' := #[.val (.int i0), .val (.int i1), .val (.int i2), .val (.int i3), .val (.int i4), .val (.int i5), .val (.ref r1), .val (.ref r2), .val (.ref r3), .val (.int t), .val (.int ro), .val (.int (1 : Int32)), .val (.ref a33), .unset, .unset, .unset, .unset, .unset]) (pc' := 65) ?_
        refine saload X33 hx (hb hby at_65) rfl rfl rfl (pc' := 67) ?_
        refine siconst X33 hx (hb hby at_67) rfl rfl (z := 0) (pc' := 68) ?_
        refine siload X33 hx (hb hby at_68) rfl rfl (pc' := 70) ?_
        refine ssipush X33 hx (hb hby at_70) rfl rfl (z := 255) (pc' := 73) ?_
        refine siand X33 hx (hb hby at_73) rfl rfl (pc' := 74) ?_
        refine si2c X33 hx (hb hby at_74) rfl rfl (pc' := 75) ?_
        obtain ⟨T35, h35, X35, e35, W35, V35, st35⟩ := V33.stC X33 hx hZ e33 (j := (0 : Int32)) (by decide) (g := (mkF m 75 #[.val (.int i0), .val (.int i1), .val (.int i2), .val (.int i3), .val (.int i4), .val (.int i5), .val (.ref r1), .val (.ref r2), .val (.ref r3), .val (.int t), .val (.int ro), .val (.int (1 : Int32)), .val (.ref a33), .unset, .unset, .unset, .unset, .unset] [(.int (((i5 &&& (255 : Int32))).toUInt32.toUInt16.toUInt32.toInt32)), (.int (0 : Int32)), (.ref a33)])) rfl rfl (hb hby at_75)
        refine oOn st35 ?_
        have z36 : h33.size ≤ h35.size := Nat.le_of_eq W35.size.symm
        have N35 := Fr.snoc X35 N (by omega)
        show oGl p e below (T35.setTop (mkF m 76 #[.val (.int i0), .val (.int i1), .val (.int i2), .val (.int i3), .val (.int i4), .val (.int i5), .val (.ref r1), .val (.ref r2), .val (.ref r3), .val (.int t), .val (.int ro), .val (.int (1 : Int32)), .val (.ref a33), .unset, .unset, .unset, .unset, .unset] [])) _
        refine saload X35 hx (hb hby at_76) rfl rfl rfl (pc' := 78) ?_
        refine siconst X35 hx (hb hby at_78) rfl rfl (z := 1) (pc' := 79) ?_
        refine siload X35 hx (hb hby at_79) rfl rfl (pc' := 81) ?_
        refine sbipush X35 hx (hb hby at_81) rfl rfl (z := 8) (pc' := 83) ?_
        refine siushr X35 hx (hb hby at_83) rfl rfl (pc' := 84) ?_
        refine ssipush X35 hx (hb hby at_84) rfl rfl (z := 255) (pc' := 87) ?_
        refine siand X35 hx (hb hby at_87) rfl rfl (pc' := 88) ?_
        refine si2c X35 hx (hb hby at_88) rfl rfl (pc' := 89) ?_
        obtain ⟨T37, h37, X37, e37, W37, V37, st37⟩ := V35.stC X35 hx hZ e35 (j := (1 : Int32)) (by decide) (g := (mkF m 89 #[.val (.int i0), .val (.int i1), .val (.int i2), .val (.int i3), .val (.int i4), .val (.int i5), .val (.ref r1), .val (.ref r2), .val (.ref r3), .val (.int t), .val (.int ro), .val (.int (1 : Int32)), .val (.ref a33), .unset, .unset, .unset, .unset, .unset] [(.int (((((i5.toUInt32 >>> ((8 : Int32) &&& 31).toUInt32).toInt32) &&& (255 : Int32))).toUInt32.toUInt16.toUInt32.toInt32)), (.int (1 : Int32)), (.ref a33)])) rfl rfl (hb hby at_89)
        refine oOn st37 ?_
        have z38 : h35.size ≤ h37.size := Nat.le_of_eq W37.size.symm
        have N37 := Fr.snoc X37 N35 (by omega)
        show oGl p e below (T37.setTop (mkF m 90 #[.val (.int i0), .val (.int i1), .val (.int i2), .val (.int i3), .val (.int i4), .val (.int i5), .val (.ref r1), .val (.ref r2), .val (.ref r3), .val (.int t), .val (.int ro), .val (.int (1 : Int32)), .val (.ref a33), .unset, .unset, .unset, .unset, .unset] [])) _
        refine siload X37 hx (hb hby at_90) rfl rfl (pc' := 92) ?_
        refine sifN X37 hx (hb hby at_92) rfl (feq (by decide : ¬ ((1 : Int32) = (0 : Int32)))).1 (pc' := 95) ?_
        refine saconst_null X37 hx (hb hby at_95) rfl  (pc' := 96) ?_
        refine sgoto X37 hx (hb hby at_96) (by decide) (by decide)  (pc' := 108) ?_
        refine sastore X37 hx (hb hby at_108) rfl rfl rfl (l' := #[.val (.int i0), .val (.int i1), .val (.int i2), .val (.int i3), .val (.int i4), .val (.int i5), .val (.ref r1), .val (.ref r2), .val (.ref r3), .val (.int t), .val (.int ro), .val (.int (1 : Int32)), .val (.ref a33), .val .null, .unset, .unset, .unset, .unset]) (pc' := 110) ?_
        obtain ⟨T39, h39, X39, e39, E39, A39, D39, -, st39⟩ := newO X37 hx hZ hown (hw _ (List.mem_of_getElem? (i := 46) rfl)) (hw _ (List.mem_of_getElem? (i := 47) rfl)) (hw _ (List.mem_of_getElem? (i := 48) rfl)) e37 (g := (mkF m 110 #[.val (.int i0), .val (.int i1), .val (.int i2), .val (.int i3), .val (.int i4), .val (.int i5), .val (.ref r1), .val (.ref r2), .val (.ref r3), .val (.int t), .val (.int ro), .val (.int (1 : Int32)), .val (.ref a33), .val .null, .unset, .unset, .unset, .unset] [])) rfl (hb hby at_110) (by decide) (by decide)
        obtain ⟨a39, g39⟩ : ∃ z, z = h37.size := ⟨_, rfl⟩
        rw [← g39] at A39 D39 st39
        refine oOn st39 ?_
        have z40 : h37.size ≤ h39.size := E39.1
        have lt39 : a39 < h39.size := A39.lt
        have f39_70 : Fld Z h39 a39 "com/example/demarc/demarc/TransactionDefinition" "propagation" "Lcom/example/demarc/demarc/Propagation;" .null := D39 (Or.inr (hw _ (List.mem_of_getElem? (i := 70) rfl))) (ty := (.object "com/example/demarc/demarc/Propagation")) (by decide)
        have f39_72 : Fld Z h39 a39 "com/example/demarc/demarc/TransactionDefinition" "isolation" "Lcom/example/demarc/demarc/Isolation;" .null := D39 (Or.inr (hw _ (List.mem_of_getElem? (i := 72) rfl))) (ty := (.object "com/example/demarc/demarc/Isolation")) (by decide)
        have f39_74 : Fld Z h39 a39 "com/example/demarc/demarc/TransactionDefinition" "timeoutSeconds" "I" (.int (0 : Int32)) := D39 (Or.inr (hw _ (List.mem_of_getElem? (i := 74) rfl))) (ty := .int) (by decide)
        have f39_76 : Fld Z h39 a39 "com/example/demarc/demarc/TransactionDefinition" "readOnly" "Z" (.int (0 : Int32)) := D39 (Or.inr (hw _ (List.mem_of_getElem? (i := 76) rfl))) (ty := .boolean) (by decide)
        have f39_78 : Fld Z h39 a39 "com/example/demarc/demarc/TransactionDefinition" "name" "Ljava/lang/String;" .null := D39 (Or.inr (hw _ (List.mem_of_getElem? (i := 78) rfl))) (ty := (.object "java/lang/String")) (by decide)
        show oGl p e below (T39.setTop (mkF m 113 #[.val (.int i0), .val (.int i1), .val (.int i2), .val (.int i3), .val (.int i4), .val (.int i5), .val (.ref r1), .val (.ref r2), .val (.ref r3), .val (.int t), .val (.int ro), .val (.int (1 : Int32)), .val (.ref a33), .val .null, .unset, .unset, .unset, .unset] [(.ref a39)])) _
        refine sdup X39 hx (hb hby at_113) rfl rfl (pc' := 114) ?_
        refine saload X39 hx (hb hby at_114) rfl rfl rfl (pc' := 116) ?_
        refine saload X39 hx (hb hby at_116) rfl rfl rfl (pc' := 118) ?_
        refine siload X39 hx (hb hby at_118) rfl rfl (pc' := 120) ?_
        refine siload X39 hx (hb hby at_120) rfl rfl (pc' := 122) ?_
        refine saload X39 hx (hb hby at_122) rfl rfl rfl (pc' := 124) ?_
        have f41 := ((((O0.ext E33).wr W35 (by omega)).wr W37 (by omega)).ext E39)
        have hz42 : n0 ≤ h39.size := by omega
        obtain ⟨_, _, ⟨T42, L42, k42, n42⟩, -, X42, hS2, hg2, ⟨Lc42, hQ42, l42, y42, z42⟩, st42⟩ := X39.specialBackS hx (y := (⟨"com/example/demarc/demarc/TransactionDefinition", "<init>", "(Lcom/example/demarc/demarc/Propagation;Lcom/example/demarc/demarc/Isolation;IZLjava/lang/String;)V"⟩ : MethodName)) rfl hown (mvT hZ (hw _ (List.mem_of_getElem? (i := 49) rfl))) (mvT hZ (hw _ (List.mem_of_getElem? (i := 50) rfl))) (mvT hZ (hw _ (List.mem_of_getElem? (i := 51) rfl))) (by decide) (backOfS (W := 1) (rmInit l Z a0 hw [] a39 r1 r2 t ro .null h39 n0 hz42 f41 rfl ht hro A39 f39_70 f39_72 f39_74 f39_76 f39_78 (by omega)) hZ (hw _ (List.mem_of_getElem? (i := 51) rfl)) (hw _ (List.mem_of_getElem? (i := 48) rfl)) (by decide) (by decide)) (g := (mkF m 124 #[.val (.int i0), .val (.int i1), .val (.int i2), .val (.int i3), .val (.int i4), .val (.int i5), .val (.ref r1), .val (.ref r2), .val (.ref r3), .val (.int t), .val (.int ro), .val (.int (1 : Int32)), .val (.ref a33), .val .null, .unset, .unset, .unset, .unset] [.null, (.int ro), (.int t), (.ref r2), (.ref r1), (.ref a39), (.ref a39)])) rfl (by rw [hml]; rfl) (Steps.refl _) (a := a39) (argsL := [(.ref r1), (.ref r2), (.int t), (.int ro), .null]) (rest := [(.ref a39)]) (lenOf pd_7 rfl) rfl (by show 2 * 0 + _ ≤ _; exact Nat.le_of_eq rfl) (hb hby at_124) (fun _ _ => ⟨rfl, e39, (by decide : 2 + 4 ≤ _), (by decide : 7 + 88 ≤ _)⟩)
        dsimp only [Pt.U, Pt.locs, Pt.cells, Pt.slots] at X42 l42 y42 z42 st42 hQ42 hS2 hg2
        subst l42 y42 z42
        obtain ⟨X42, hS, hZ, hown⟩ := rebS hS (n1 := T39.heap.size) (by rw [e39]; omega) X42 hS2 hg2 hZ hown
        have hk : T42.heap.size ≤ T42.heap.size := Nat.le_refl _
        obtain ⟨rfl, N42q, K42, Oo42, Ei42, Fa42, Fb42, Fc42, Fd42, Fe42⟩ := hQ42
        have N42 := Fr.app N37 N42q
        have z43 : h39.size ≤ T42.heap.size := K42.1
        refine oSt st42 ?_
        show oGl p e below (T42.setTop (mkF m 127 #[.val (.int i0), .val (.int i1), .val (.int i2), .val (.int i3), .val (.int i4), .val (.int i5), .val (.ref r1), .val (.ref r2), .val (.ref r3), .val (.int t), .val (.int ro), .val (.int (1 : Int32)), .val (.ref a33), .val .null, .unset, .unset, .unset, .unset] [(.ref a39)])) _
        refine sastore X42 hx (hb hby at_127) rfl rfl rfl (l' := #[.val (.int i0), .val (.int i1), .val (.int i2), .val (.int i3), .val (.int i4), .val (.int i5), .val (.ref r1), .val (.ref r2), .val (.ref r3), .val (.int t), .val (.int ro), .val (.int (1 : Int32)), .val (.ref a33), .val .null, .val (.ref a39), .unset, .unset, .unset]) (pc' := 129) ?_
        refine saload X42 hx (hb hby at_129) rfl rfl rfl (pc' := 131) ?_
        refine saload X42 hx (hb hby at_131) rfl rfl rfl (pc' := 133) ?_
        have hz44 : n0 ≤ T42.heap.size := by omega
        obtain ⟨cq44, kq44, q44a, q44b, q44c⟩ := isOf hZ rfl Ei42
        obtain ⟨_, _, ⟨T44, L44, k44, n44⟩, -, X44, hS2, hg2, ⟨Lc44, hQ44, l44, y44, z44⟩, st44⟩ := X42.virtualBackS hx (y := (⟨"com/example/demarc/demarc/TransactionDefinition", "withIsolation", "(Lcom/example/demarc/demarc/Isolation;)Lcom/example/demarc/demarc/TransactionDefinition;"⟩ : MethodName)) (z := (⟨"com/example/demarc/demarc/TransactionDefinition", "withIsolation", "(Lcom/example/demarc/demarc/Isolation;)Lcom/example/demarc/demarc/TransactionDefinition;"⟩ : MethodName)) hown (mvT hZ (hw _ (List.mem_of_getElem? (i := 79) rfl))) (mvT hZ (hw _ (List.mem_of_getElem? (i := 80) rfl))) (notFace_of_selects (args := #[]) (mvT hZ (hw _ (List.mem_of_getElem? (i := 82) rfl)))) (mvT hZ (hw _ (List.mem_of_getElem? (i := 82) rfl))) (mvT hZ (hw _ (List.mem_of_getElem? (i := 81) rfl))) (by decide) (backOfS (W := 0) (rmWith l Z a0 hw [] a39 r1 r2 r3 t ro .null T42.heap n0 hz44 Oo42 rfl ht hro Ei42 Fa42 Fb42 Fc42 Fd42 Fe42) hZ (hw _ (List.mem_of_getElem? (i := 83) rfl)) (hw _ (List.mem_of_getElem? (i := 48) rfl)) (by decide) (by decide)) q44a q44c (g := (mkF m 133 #[.val (.int i0), .val (.int i1), .val (.int i2), .val (.int i3), .val (.int i4), .val (.int i5), .val (.ref r1), .val (.ref r2), .val (.ref r3), .val (.int t), .val (.int ro), .val (.int (1 : Int32)), .val (.ref a33), .val .null, .val (.ref a39), .unset, .unset, .unset] [(.ref r3), (.ref a39)])) rfl (by rw [hml]; rfl) (Steps.refl _) (argsL := [(.ref r3)]) (rest := []) (lenOf pd_11 rfl) rfl (by show 2 * 0 + _ ≤ _; exact Nat.le_of_eq rfl) (hb hby at_133) (fun _ _ => ⟨rfl, rfl, (by decide : 6 + 5 ≤ _), (by decide : 95 + 93 ≤ _)⟩)
        dsimp only [Pt.U, Pt.locs, Pt.cells, Pt.slots] at X44 l44 y44 z44 st44 hQ44 hS2 hg2
        subst l44 y44 z44
        obtain ⟨X44, hS, hZ, hown⟩ := rebS hS (n1 := T42.heap.size) (by omega) X44 hS2 hg2 hZ hown
        have hk : T44.heap.size ≤ T44.heap.size := Nat.le_refl _
        obtain ⟨r44, rfl, N44q, K44, Oo44, zr44, Ei44, Fa44, Fb44, Fc44, Fd44, Fe44⟩ := hQ44
        have N44 := Fr.app N42 N44q
        have z45 : T42.heap.size ≤ T44.heap.size := K44.1
        refine oSt st44 ?_
        have lr44 : @LT.lt Nat _ r44 T44.heap.size := Ei44.lt
        show oGl p e below (T44.setTop (mkF m 136 #[.val (.int i0), .val (.int i1), .val (.int i2), .val (.int i3), .val (.int i4), .val (.int i5), .val (.ref r1), .val (.ref r2), .val (.ref r3), .val (.int t), .val (.int ro), .val (.int (1 : Int32)), .val (.ref a33), .val .null, .val (.ref a39), .unset, .unset, .unset] [(.ref r44)])) _
        refine sastore X44 hx (hb hby at_136) rfl rfl rfl (l' := #[.val (.int i0), .val (.int i1), .val (.int i2), .val (.int i3), .val (.int i4), .val (.int i5), .val (.ref r1), .val (.ref r2), .val (.ref r3), .val (.int t), .val (.int ro), .val (.int (1 : Int32)), .val (.ref a33), .val .null, .val (.ref a39), .val (.ref r44), .unset, .unset]) (pc' := 138) ?_
        refine saload X44 hx (hb hby at_138) rfl rfl rfl (pc' := 140) ?_
        have hz46 : n0 ≤ T44.heap.size := by omega
        obtain ⟨cq46, kq46, q46a, q46b, q46c⟩ := isOf hZ rfl Ei44
        obtain ⟨_, _, ⟨T46, L46, k46, n46⟩, -, X46, ⟨Lc46, hQ46, l46, y46, z46⟩, st46⟩ := X44.virtualBack hx (y := (⟨"com/example/demarc/demarc/TransactionDefinition", "name", "()Ljava/lang/String;"⟩ : MethodName)) (z := (⟨"com/example/demarc/demarc/TransactionDefinition", "name", "()Ljava/lang/String;"⟩ : MethodName)) hown (mvT hZ (hw _ (List.mem_of_getElem? (i := 86) rfl))) (mvT hZ (hw _ (List.mem_of_getElem? (i := 87) rfl))) (notFace_of_selects (args := #[]) (mvT hZ (hw _ (List.mem_of_getElem? (i := 89) rfl)))) (mvT hZ (hw _ (List.mem_of_getElem? (i := 89) rfl))) (mvT hZ (hw _ (List.mem_of_getElem? (i := 88) rfl))) (by decide) (backOf (W := 0) (rm_name l Z a0 hw [] r44 .null T44.heap n0 hz46 Fe44 rfl) hZ (hw _ (List.mem_of_getElem? (i := 90) rfl)) (hw _ (List.mem_of_getElem? (i := 48) rfl)) (by decide) (by decide)) q46a q46c (g := (mkF m 140 #[.val (.int i0), .val (.int i1), .val (.int i2), .val (.int i3), .val (.int i4), .val (.int i5), .val (.ref r1), .val (.ref r2), .val (.ref r3), .val (.int t), .val (.int ro), .val (.int (1 : Int32)), .val (.ref a33), .val .null, .val (.ref a39), .val (.ref r44), .unset, .unset] [(.ref r44)])) rfl (by rw [hml]; rfl) (Steps.refl _) (argsL := []) (rest := []) (lenOf pd_12 rfl) rfl (by show 2 * 0 + _ ≤ _; exact Nat.le_of_eq rfl) (hb hby at_140) (fun _ _ => ⟨rfl, rfl, (by decide : 11 + 0 ≤ _), (by decide : 188 + 0 ≤ _)⟩)
        dsimp only [Pt.U, Pt.locs, Pt.cells, Pt.slots] at X46 l46 y46 z46 st46 hQ46
        subst l46 y46 z46
        obtain ⟨rfl, N46q, eh46⟩ := hQ46
        have N46 := Fr.app N44 N46q
        refine oSt st46 ?_
        show oGl p e below (T46.setTop (mkF m 143 #[.val (.int i0), .val (.int i1), .val (.int i2), .val (.int i3), .val (.int i4), .val (.int i5), .val (.ref r1), .val (.ref r2), .val (.ref r3), .val (.int t), .val (.int ro), .val (.int (1 : Int32)), .val (.ref a33), .val .null, .val (.ref a39), .val (.ref r44), .unset, .unset] [.null])) _
        refine sastore X46 hx (hb hby at_143) rfl rfl rfl (l' := #[.val (.int i0), .val (.int i1), .val (.int i2), .val (.int i3), .val (.int i4), .val (.int i5), .val (.ref r1), .val (.ref r2), .val (.ref r3), .val (.int t), .val (.int ro), .val (.int (1 : Int32)), .val (.ref a33), .val .null, .val (.ref a39), .val (.ref r44), .val .null, .unset]) (pc' := 145) ?_
        refine saload X46 hx (hb hby at_145) rfl rfl rfl (pc' := 147) ?_
        refine sifnonnullN X46 hx (hb hby at_147) rfl  (pc' := 150) ?_
        refine saload X46 hx (hb hby at_150) rfl rfl rfl (pc' := 152) ?_
        refine sifnonnullN X46 hx (hb hby at_152) rfl  (pc' := 155) ?_
        refine siconst X46 hx (hb hby at_155) rfl rfl (z := 1) (pc' := 156) ?_
        refine sgoto X46 hx (hb hby at_156) (by decide) (by decide)  (pc' := 170) ?_
        refine sistore X46 hx (hb hby at_170) rfl rfl (l' := #[.val (.int i0), .val (.int i1), .val (.int i2), .val (.int i3), .val (.int i4), .val (.int i5), .val (.ref r1), .val (.ref r2), .val (.ref r3), .val (.int t), .val (.int ro), .val (.int (1 : Int32)), .val (.ref a33), .val .null, .val (.ref a39), .val (.ref r44), .val .null, .val (.int (1 : Int32))]) (pc' := 172) ?_
        refine saload X46 hx (hb hby at_172) rfl rfl rfl (pc' := 174) ?_
        have hz47 : n0 ≤ T44.heap.size := by omega
        obtain ⟨cq47, kq47, q47a, q47b, q47c⟩ := isOf hZ eh46 Ei44
        obtain ⟨_, _, ⟨T47, L47, k47, n47⟩, -, X47, ⟨Lc47, hQ47, l47, y47, z47⟩, st47⟩ := X46.virtualBack hx (y := (⟨"com/example/demarc/demarc/TransactionDefinition", "isolation", "()Lcom/example/demarc/demarc/Isolation;"⟩ : MethodName)) (z := (⟨"com/example/demarc/demarc/TransactionDefinition", "isolation", "()Lcom/example/demarc/demarc/Isolation;"⟩ : MethodName)) hown (mvT hZ (hw _ (List.mem_of_getElem? (i := 96) rfl))) (mvT hZ (hw _ (List.mem_of_getElem? (i := 97) rfl))) (notFace_of_selects (args := #[]) (mvT hZ (hw _ (List.mem_of_getElem? (i := 99) rfl)))) (mvT hZ (hw _ (List.mem_of_getElem? (i := 99) rfl))) (mvT hZ (hw _ (List.mem_of_getElem? (i := 98) rfl))) (by decide) (backOf (W := 0) (rm_isolation l Z a0 hw [] r44 r3 T44.heap n0 hz47 Fb44) hZ (hw _ (List.mem_of_getElem? (i := 100) rfl)) (hw _ (List.mem_of_getElem? (i := 48) rfl)) (by decide) (by decide)) q47a q47c (g := (mkF m 174 #[.val (.int i0), .val (.int i1), .val (.int i2), .val (.int i3), .val (.int i4), .val (.int i5), .val (.ref r1), .val (.ref r2), .val (.ref r3), .val (.int t), .val (.int ro), .val (.int (1 : Int32)), .val (.ref a33), .val .null, .val (.ref a39), .val (.ref r44), .val .null, .val (.int (1 : Int32))] [(.ref r44)])) rfl (by rw [hml]; rfl) (Steps.refl _) (argsL := []) (rest := []) (lenOf pd_14 rfl) rfl (by show 2 * 0 + _ ≤ _; exact Nat.le_of_eq rfl) (hb hby at_174) (fun _ _ => ⟨rfl, eh46, (by decide : 11 + 0 ≤ _), (by decide : 188 + 0 ≤ _)⟩)
        dsimp only [Pt.U, Pt.locs, Pt.cells, Pt.slots] at X47 l47 y47 z47 st47 hQ47
        subst l47 y47 z47
        obtain ⟨rfl, N47q, eh47⟩ := hQ47
        have N47 := Fr.app N46 N47q
        refine oSt st47 ?_
        show oGl p e below (T47.setTop (mkF m 177 #[.val (.int i0), .val (.int i1), .val (.int i2), .val (.int i3), .val (.int i4), .val (.int i5), .val (.ref r1), .val (.ref r2), .val (.ref r3), .val (.int t), .val (.int ro), .val (.int (1 : Int32)), .val (.ref a33), .val .null, .val (.ref a39), .val (.ref r44), .val .null, .val (.int (1 : Int32))] [(.ref r3)])) _
        refine saload X47 hx (hb hby at_177) rfl rfl rfl (pc' := 179) ?_
        refine oOn (fun _ kK => Jvm.RoadKit.acmp (g := (mkF m 179 #[.val (.int i0), .val (.int i1), .val (.int i2), .val (.int i3), .val (.int i4), .val (.int i5), .val (.ref r1), .val (.ref r2), .val (.ref r3), .val (.int t), .val (.int ro), .val (.int (1 : Int32)), .val (.ref a33), .val .null, .val (.ref a39), .val (.ref r44), .val .null, .val (.int (1 : Int32))] [(.ref r3), (.ref r3)])) X47 hx rfl rfl rfl (pc0 := 179) (pc' := 182) (same := true) rfl (hb hby at_179) rfl (decide_eq_true rfl) (by decide) (by decide) kK) ?_
        show oGl p e below (T47.setTop (mkF m 182 #[.val (.int i0), .val (.int i1), .val (.int i2), .val (.int i3), .val (.int i4), .val (.int i5), .val (.ref r1), .val (.ref r2), .val (.ref r3), .val (.int t), .val (.int ro), .val (.int (1 : Int32)), .val (.ref a33), .val .null, .val (.ref a39), .val (.ref r44), .val .null, .val (.int (1 : Int32))] [])) _
        refine saload X47 hx (hb hby at_182) rfl rfl rfl (pc' := 184) ?_
        have hz48 : n0 ≤ T44.heap.size := by omega
        obtain ⟨cq48, kq48, q48a, q48b, q48c⟩ := isOf hZ eh47 Ei44
        obtain ⟨_, _, ⟨T48, L48, k48, n48⟩, -, X48, ⟨Lc48, hQ48, l48, y48, z48⟩, st48⟩ := X47.virtualBack hx (y := (⟨"com/example/demarc/demarc/TransactionDefinition", "propagation", "()Lcom/example/demarc/demarc/Propagation;"⟩ : MethodName)) (z := (⟨"com/example/demarc/demarc/TransactionDefinition", "propagation", "()Lcom/example/demarc/demarc/Propagation;"⟩ : MethodName)) hown (mvT hZ (hw _ (List.mem_of_getElem? (i := 101) rfl))) (mvT hZ (hw _ (List.mem_of_getElem? (i := 102) rfl))) (notFace_of_selects (args := #[]) (mvT hZ (hw _ (List.mem_of_getElem? (i := 104) rfl)))) (mvT hZ (hw _ (List.mem_of_getElem? (i := 104) rfl))) (mvT hZ (hw _ (List.mem_of_getElem? (i := 103) rfl))) (by decide) (backOf (W := 0) (rm_propagation l Z a0 hw [] r44 r1 T44.heap n0 hz48 Fa44) hZ (hw _ (List.mem_of_getElem? (i := 105) rfl)) (hw _ (List.mem_of_getElem? (i := 48) rfl)) (by decide) (by decide)) q48a q48c (g := (mkF m 184 #[.val (.int i0), .val (.int i1), .val (.int i2), .val (.int i3), .val (.int i4), .val (.int i5), .val (.ref r1), .val (.ref r2), .val (.ref r3), .val (.int t), .val (.int ro), .val (.int (1 : Int32)), .val (.ref a33), .val .null, .val (.ref a39), .val (.ref r44), .val .null, .val (.int (1 : Int32))] [(.ref r44)])) rfl (by rw [hml]; rfl) (Steps.refl _) (argsL := []) (rest := []) (lenOf pd_15 rfl) rfl (by show 2 * 0 + _ ≤ _; exact Nat.le_of_eq rfl) (hb hby at_184) (fun _ _ => ⟨rfl, eh47, (by decide : 11 + 0 ≤ _), (by decide : 188 + 0 ≤ _)⟩)
        dsimp only [Pt.U, Pt.locs, Pt.cells, Pt.slots] at X48 l48 y48 z48 st48 hQ48
        subst l48 y48 z48
        obtain ⟨rfl, N48q, eh48⟩ := hQ48
        have N48 := Fr.app N47 N48q
        refine oSt st48 ?_
        show oGl p e below (T48.setTop (mkF m 187 #[.val (.int i0), .val (.int i1), .val (.int i2), .val (.int i3), .val (.int i4), .val (.int i5), .val (.ref r1), .val (.ref r2), .val (.ref r3), .val (.int t), .val (.int ro), .val (.int (1 : Int32)), .val (.ref a33), .val .null, .val (.ref a39), .val (.ref r44), .val .null, .val (.int (1 : Int32))] [(.ref r1)])) _
        refine saload X48 hx (hb hby at_187) rfl rfl rfl (pc' := 189) ?_
        refine oOn (fun _ kK => Jvm.RoadKit.acmp (g := (mkF m 189 #[.val (.int i0), .val (.int i1), .val (.int i2), .val (.int i3), .val (.int i4), .val (.int i5), .val (.ref r1), .val (.ref r2), .val (.ref r3), .val (.int t), .val (.int ro), .val (.int (1 : Int32)), .val (.ref a33), .val .null, .val (.ref a39), .val (.ref r44), .val .null, .val (.int (1 : Int32))] [(.ref r1), (.ref r1)])) X48 hx rfl rfl rfl (pc0 := 189) (pc' := 192) (same := true) rfl (hb hby at_189) rfl (decide_eq_true rfl) (by decide) (by decide) kK) ?_
        show oGl p e below (T48.setTop (mkF m 192 #[.val (.int i0), .val (.int i1), .val (.int i2), .val (.int i3), .val (.int i4), .val (.int i5), .val (.ref r1), .val (.ref r2), .val (.ref r3), .val (.int t), .val (.int ro), .val (.int (1 : Int32)), .val (.ref a33), .val .null, .val (.ref a39), .val (.ref r44), .val .null, .val (.int (1 : Int32))] [])) _
        refine saload X48 hx (hb hby at_192) rfl rfl rfl (pc' := 194) ?_
        have hz49 : n0 ≤ T44.heap.size := by omega
        obtain ⟨cq49, kq49, q49a, q49b, q49c⟩ := isOf hZ eh48 Ei44
        obtain ⟨_, _, ⟨T49, L49, k49, n49⟩, -, X49, ⟨Lc49, hQ49, l49, y49, z49⟩, st49⟩ := X48.virtualBack hx (y := (⟨"com/example/demarc/demarc/TransactionDefinition", "timeoutSeconds", "()I"⟩ : MethodName)) (z := (⟨"com/example/demarc/demarc/TransactionDefinition", "timeoutSeconds", "()I"⟩ : MethodName)) hown (mvT hZ (hw _ (List.mem_of_getElem? (i := 106) rfl))) (mvT hZ (hw _ (List.mem_of_getElem? (i := 107) rfl))) (notFace_of_selects (args := #[]) (mvT hZ (hw _ (List.mem_of_getElem? (i := 109) rfl)))) (mvT hZ (hw _ (List.mem_of_getElem? (i := 109) rfl))) (mvT hZ (hw _ (List.mem_of_getElem? (i := 108) rfl))) (by decide) (backOf (W := 0) (rm_timeoutSeconds l Z a0 hw [] r44 t T44.heap n0 hz49 Fc44) hZ (hw _ (List.mem_of_getElem? (i := 110) rfl)) (hw _ (List.mem_of_getElem? (i := 48) rfl)) (by decide) (by decide)) q49a q49c (g := (mkF m 194 #[.val (.int i0), .val (.int i1), .val (.int i2), .val (.int i3), .val (.int i4), .val (.int i5), .val (.ref r1), .val (.ref r2), .val (.ref r3), .val (.int t), .val (.int ro), .val (.int (1 : Int32)), .val (.ref a33), .val .null, .val (.ref a39), .val (.ref r44), .val .null, .val (.int (1 : Int32))] [(.ref r44)])) rfl (by rw [hml]; rfl) (Steps.refl _) (argsL := []) (rest := []) (lenOf pd_16 rfl) rfl (by show 2 * 0 + _ ≤ _; exact Nat.le_of_eq rfl) (hb hby at_194) (fun _ _ => ⟨rfl, eh48, (by decide : 11 + 0 ≤ _), (by decide : 188 + 0 ≤ _)⟩)
        dsimp only [Pt.U, Pt.locs, Pt.cells, Pt.slots] at X49 l49 y49 z49 st49 hQ49
        subst l49 y49 z49
        obtain ⟨rfl, N49q, eh49⟩ := hQ49
        have N49 := Fr.app N48 N49q
        refine oSt st49 ?_
        show oGl p e below (T49.setTop (mkF m 197 #[.val (.int i0), .val (.int i1), .val (.int i2), .val (.int i3), .val (.int i4), .val (.int i5), .val (.ref r1), .val (.ref r2), .val (.ref r3), .val (.int t), .val (.int ro), .val (.int (1 : Int32)), .val (.ref a33), .val .null, .val (.ref a39), .val (.ref r44), .val .null, .val (.int (1 : Int32))] [(.int t)])) _
        refine siload X49 hx (hb hby at_197) rfl rfl (pc' := 199) ?_
        refine sicN X49 hx (hb hby at_199) rfl (teq (rfl : t = t)).2 (pc' := 202) ?_
        refine saload X49 hx (hb hby at_202) rfl rfl rfl (pc' := 204) ?_
        have hz50 : n0 ≤ T44.heap.size := by omega
        obtain ⟨cq50, kq50, q50a, q50b, q50c⟩ := isOf hZ eh49 Ei44
        obtain ⟨_, _, ⟨T50, L50, k50, n50⟩, -, X50, ⟨Lc50, hQ50, l50, y50, z50⟩, st50⟩ := X49.virtualBack hx (y := (⟨"com/example/demarc/demarc/TransactionDefinition", "readOnly", "()Z"⟩ : MethodName)) (z := (⟨"com/example/demarc/demarc/TransactionDefinition", "readOnly", "()Z"⟩ : MethodName)) hown (mvT hZ (hw _ (List.mem_of_getElem? (i := 111) rfl))) (mvT hZ (hw _ (List.mem_of_getElem? (i := 112) rfl))) (notFace_of_selects (args := #[]) (mvT hZ (hw _ (List.mem_of_getElem? (i := 114) rfl)))) (mvT hZ (hw _ (List.mem_of_getElem? (i := 114) rfl))) (mvT hZ (hw _ (List.mem_of_getElem? (i := 113) rfl))) (by decide) (backOf (W := 0) (rm_readOnly l Z a0 hw [] r44 ro T44.heap n0 hz50 Fd44 hro) hZ (hw _ (List.mem_of_getElem? (i := 115) rfl)) (hw _ (List.mem_of_getElem? (i := 48) rfl)) (by decide) (by decide)) q50a q50c (g := (mkF m 204 #[.val (.int i0), .val (.int i1), .val (.int i2), .val (.int i3), .val (.int i4), .val (.int i5), .val (.ref r1), .val (.ref r2), .val (.ref r3), .val (.int t), .val (.int ro), .val (.int (1 : Int32)), .val (.ref a33), .val .null, .val (.ref a39), .val (.ref r44), .val .null, .val (.int (1 : Int32))] [(.ref r44)])) rfl (by rw [hml]; rfl) (Steps.refl _) (argsL := []) (rest := []) (lenOf pd_17 rfl) rfl (by show 2 * 0 + _ ≤ _; exact Nat.le_of_eq rfl) (hb hby at_204) (fun _ _ => ⟨rfl, eh49, (by decide : 11 + 0 ≤ _), (by decide : 188 + 0 ≤ _)⟩)
        dsimp only [Pt.U, Pt.locs, Pt.cells, Pt.slots] at X50 l50 y50 z50 st50 hQ50
        subst l50 y50 z50
        obtain ⟨rfl, N50q, eh50⟩ := hQ50
        have N50 := Fr.app N49 N50q
        refine oSt st50 ?_
        show oGl p e below (T50.setTop (mkF m 207 #[.val (.int i0), .val (.int i1), .val (.int i2), .val (.int i3), .val (.int i4), .val (.int i5), .val (.ref r1), .val (.ref r2), .val (.ref r3), .val (.int t), .val (.int ro), .val (.int (1 : Int32)), .val (.ref a33), .val .null, .val (.ref a39), .val (.ref r44), .val .null, .val (.int (1 : Int32))] [(.int ro)])) _
        refine siload X50 hx (hb hby at_207) rfl rfl (pc' := 209) ?_
        refine sicN X50 hx (hb hby at_209) rfl (teq (rfl : ro = ro)).2 (pc' := 212) ?_
        refine siload X50 hx (hb hby at_212) rfl rfl (pc' := 214) ?_
        refine sifN X50 hx (hb hby at_214) rfl (feq (by decide : ¬ ((1 : Int32) = (0 : Int32)))).1 (pc' := 217) ?_
        refine saload X50 hx (hb hby at_217) rfl rfl rfl (pc' := 219) ?_
        have f51 := (Fb42.keep K44 nin0)
        have hz52 : n0 ≤ T44.heap.size := by omega
        have f53 := (Ei42.keep K44)
        obtain ⟨cq52, kq52, q52a, q52b, q52c⟩ := isOf hZ eh50 f53
        obtain ⟨_, _, ⟨T52, L52, k52, n52⟩, -, X52, ⟨Lc52, hQ52, l52, y52, z52⟩, st52⟩ := X50.virtualBack hx (y := (⟨"com/example/demarc/demarc/TransactionDefinition", "isolation", "()Lcom/example/demarc/demarc/Isolation;"⟩ : MethodName)) (z := (⟨"com/example/demarc/demarc/TransactionDefinition", "isolation", "()Lcom/example/demarc/demarc/Isolation;"⟩ : MethodName)) hown (mvT hZ (hw _ (List.mem_of_getElem? (i := 96) rfl))) (mvT hZ (hw _ (List.mem_of_getElem? (i := 97) rfl))) (notFace_of_selects (args := #[]) (mvT hZ (hw _ (List.mem_of_getElem? (i := 99) rfl)))) (mvT hZ (hw _ (List.mem_of_getElem? (i := 99) rfl))) (mvT hZ (hw _ (List.mem_of_getElem? (i := 98) rfl))) (by decide) (backOf (W := 0) (rm_isolation l Z a0 hw [] a39 r2 T44.heap n0 hz52 f51) hZ (hw _ (List.mem_of_getElem? (i := 100) rfl)) (hw _ (List.mem_of_getElem? (i := 48) rfl)) (by decide) (by decide)) q52a q52c (g := (mkF m 219 #[.val (.int i0), .val (.int i1), .val (.int i2), .val (.int i3), .val (.int i4), .val (.int i5), .val (.ref r1), .val (.ref r2), .val (.ref r3), .val (.int t), .val (.int ro), .val (.int (1 : Int32)), .val (.ref a33), .val .null, .val (.ref a39), .val (.ref r44), .val .null, .val (.int (1 : Int32))] [(.ref a39)])) rfl (by rw [hml]; rfl) (Steps.refl _) (argsL := []) (rest := []) (lenOf pd_14 rfl) rfl (by show 2 * 0 + _ ≤ _; exact Nat.le_of_eq rfl) (hb hby at_219) (fun _ _ => ⟨rfl, eh50, (by decide : 11 + 0 ≤ _), (by decide : 188 + 0 ≤ _)⟩)
        dsimp only [Pt.U, Pt.locs, Pt.cells, Pt.slots] at X52 l52 y52 z52 st52 hQ52
        subst l52 y52 z52
        obtain ⟨rfl, N52q, eh52⟩ := hQ52
        have N52 := Fr.app N50 N52q
        refine oSt st52 ?_
        show oGl p e below (T52.setTop (mkF m 222 #[.val (.int i0), .val (.int i1), .val (.int i2), .val (.int i3), .val (.int i4), .val (.int i5), .val (.ref r1), .val (.ref r2), .val (.ref r3), .val (.int t), .val (.int ro), .val (.int (1 : Int32)), .val (.ref a33), .val .null, .val (.ref a39), .val (.ref r44), .val .null, .val (.int (1 : Int32))] [(.ref r2)])) _
        refine saload X52 hx (hb hby at_222) rfl rfl rfl (pc' := 224) ?_
        refine oOn (fun _ kK => Jvm.RoadKit.acmp (g := (mkF m 224 #[.val (.int i0), .val (.int i1), .val (.int i2), .val (.int i3), .val (.int i4), .val (.int i5), .val (.ref r1), .val (.ref r2), .val (.ref r3), .val (.int t), .val (.int ro), .val (.int (1 : Int32)), .val (.ref a33), .val .null, .val (.ref a39), .val (.ref r44), .val .null, .val (.int (1 : Int32))] [(.ref r2), (.ref r2)])) X52 hx rfl rfl rfl (pc0 := 224) (pc' := 227) (same := true) rfl (hb hby at_224) rfl (decide_eq_true rfl) (by decide) (by decide) kK) ?_
        show oGl p e below (T52.setTop (mkF m 227 #[.val (.int i0), .val (.int i1), .val (.int i2), .val (.int i3), .val (.int i4), .val (.int i5), .val (.ref r1), .val (.ref r2), .val (.ref r3), .val (.int t), .val (.int ro), .val (.int (1 : Int32)), .val (.ref a33), .val .null, .val (.ref a39), .val (.ref r44), .val .null, .val (.int (1 : Int32))] [])) _
        refine siconst X52 hx (hb hby at_227) rfl rfl (z := 1) (pc' := 228) ?_
        refine sgoto X52 hx (hb hby at_228) (by decide) (by decide)  (pc' := 232) ?_
        refine oRetNW (t := .boolean) X52 hS (by rw [eh52]; omega) hx Bd.notSynchronized Bd.returns (by simp) (hb hby at_232) (by decide) (by decide) ?_
        show Q_rmL Z i0 i1 i2 i3 i4 i5 sREQUIRED sREPEATABLE_READ sREAD_COMMITTED sNOT_SUPPORTED sDEFAULT sMANDATORY sSERIALIZABLE sREAD_UNCOMMITTED sSUPPORTS sREQUIRES_NEW sNESTED sNEVER cz h0 n0 _ T52.heap _
        rw [eh52]
        exact ⟨rfl, N52⟩
    refine siload X hx (hb hby at_32) rfl rfl (pc' := 34) ?_
    refine siconst X hx (hb hby at_34) rfl rfl (z := 1) (pc' := 35) ?_
    refine siand X hx (hb hby at_35) rfl rfl (pc' := 36) ?_
    by_cases hc36 : (i4 &&& (1 : Int32)) = (0 : Int32)
    · skip
      refine sifY X hx (hb hby at_36) (by decide) (by decide) (teq hc36).1 (pc' := 43) ?_
      refine siconst X hx (hb hby at_43) rfl rfl (z := 0) (pc' := 44) ?_
      exact j44 (0 : Int32) (by decide) _ _ _ _ X eT N hS (by omega) hZ hown
    · skip
      refine sifN X hx (hb hby at_36) rfl (feq hc36).1 (pc' := 39) ?_
      refine siconst X hx (hb hby at_39) rfl rfl (z := 1) (pc' := 40) ?_
      refine sgoto X hx (hb hby at_40) (by decide) (by decide)  (pc' := 44) ?_
      exact j44 (1 : Int32) (by decide) _ _ _ _ X eT N hS (by omega) hZ hown
  refine siloadN X3 hx (hb hby at_18) rfl rfl (pc' := 19) ?_
  refine siconst X3 hx (hb hby at_19) rfl rfl (z := -1) (pc' := 20) ?_
  by_cases hc20 : i3 < (-1 : Int32)
  · skip
    refine sicY X3 hx (hb hby at_20) (by decide) (by decide) (tlt hc20).1 (pc' := 27) ?_
    refine siloadN X3 hx (hb hby at_27) rfl rfl (pc' := 28) ?_
    refine siconst X3 hx (hb hby at_28) rfl rfl (z := -1) (pc' := 29) ?_
    refine sixor X3 hx (hb hby at_29) rfl rfl (pc' := 30) ?_
    exact j30 (i3 ^^^ (-1 : Int32)) (own_not hc20) _ _ _ _ X3 eh3 N3 hS (by omega) hZ hown
  · skip
    refine sicN X3 hx (hb hby at_20) rfl (flt hc20).1 (pc' := 23) ?_
    refine siloadN X3 hx (hb hby at_23) rfl rfl (pc' := 24) ?_
    refine sgoto X3 hx (hb hby at_24) (by decide) (by decide)  (pc' := 30) ?_
    exact j30 i3 hc20 _ _ _ _ X3 eh3 N3 hS (by omega) hZ hown
set_option maxRecDepth 65536 in
set_option maxHeartbeats 40000000 in
theorem comes_1 {Post : Tables → Env → Array Value → State → Outcome → State → Prop} (hpost : ∀ tb e args s v u, (limb_1_1.after args s (.returned v) u = true ∧ limb_1_2.after args s (.returned v) u = true ∧ True) → ReturnedEndW s (.returned v) u (Jvm.fieldLocs frame_1_writes args s ++ Jvm.arrayLocs frame_1_arrays args s ++ Jvm.staticLocs frame_1_statics s) 24 2176 → Post tb e args s (.returned v) u) :
    ArmFor flags0 classFile x code maxLocals ret World_1 tables_1 room_1 Calls_1 rest_1 Pre_1 Post := by
  intro l hfl _ _ p e ha hc hk s m args below hf hA hF happ hP
  obtain ⟨hcalls, hrest, hpre⟩ := hP
  obtain ⟨-, -, -, hnamed, -, -, -, hat⟩ := (Spec.applies_iff hf).mp happ
  obtain ⟨hg, hn⟩ := oAnd (show (Jvm.Cond.and given_1 narrow_1).before args s = true from hpre)
  obtain ⟨gc, hg0⟩ := oAnd hg
  obtain ⟨ga0, hg1⟩ := oAnd hg0
  obtain ⟨ga1, hg2⟩ := oAnd hg1
  obtain ⟨ga2, hg3⟩ := oAnd hg2
  obtain ⟨ga3, hg4⟩ := oAnd hg3
  obtain ⟨ga4, hg5⟩ := oAnd hg4
  have ga5 := hg5
  obtain ⟨w0, w1, w2, w3, w4, w5, rfl⟩ : ∃ w0 w1 w2 w3 w4 w5 : Value, args = #[w0, w1, w2, w3, w4, w5] := by
    have hs : args.size = 6 := by simpa [Cond.before, Cond.holds, Cond.value] using gc
    obtain ⟨L⟩ := args
    match L, hs with
    | [w0, w1, w2, w3, w4, w5], _ => exact ⟨w0, w1, w2, w3, w4, w5, rfl⟩
  obtain ⟨i0, rfl⟩ := oArgI ga0 rfl
  obtain ⟨i1, rfl⟩ := oArgI ga1 rfl
  obtain ⟨i2, rfl⟩ := oArgI ga2 rfl
  obtain ⟨i3, rfl⟩ := oArgI ga3 rfl
  obtain ⟨i4, rfl⟩ := oArgI ga4 rfl
  obtain ⟨i5, rfl⟩ := oArgI ga5 rfl
  have hw := fun d (hd : d ∈ tables_1) => atoms_spec (ws := Jvm.Cond.code x code maxLocals ret :: tables_1) hat d (List.mem_cons_of_mem _ hd)
  have hfit : Fit s := fun {y c} hc i hi => by
    obtain ⟨ha, rfl⟩ := Array.getElem?_eq_some_iff.mp hc
    have q := List.all_eq_true.mp ((Array.all_eq_true_iff_forall_mem.mp hF) _ (Array.getElem_mem ha)) i (List.mem_range.mpr hi)
    simpa [Array.getElem?_eq_getElem hi] using q
  obtain ⟨nr0, hn0⟩ := oAnd hn
  obtain ⟨nr1, hn1⟩ := oAnd hn0
  obtain ⟨nr2, hn2⟩ := oAnd hn1
  obtain ⟨nr3, hn3⟩ := oAnd hn2
  obtain ⟨nr4, hn4⟩ := oAnd hn3
  obtain ⟨nr5, hn5⟩ := oAnd hn4
  obtain ⟨nr6, hn6⟩ := oAnd hn5
  obtain ⟨nr7, hn7⟩ := oAnd hn6
  obtain ⟨nr8, hn8⟩ := oAnd hn7
  obtain ⟨nr9, hn9⟩ := oAnd hn8
  obtain ⟨nr10, hn10⟩ := oAnd hn9
  have nr11 := hn10
  obtain ⟨sREQUIRED, evsREQUIRED, SsREQUIRED, EsREQUIRED⟩ := oStaR nr0 (hw _ (List.mem_of_getElem? (i := 6) rfl)) (hw _ (List.mem_of_getElem? (i := 7) rfl))
  obtain ⟨sREPEATABLE_READ, evsREPEATABLE_READ, SsREPEATABLE_READ, EsREPEATABLE_READ⟩ := oStaR nr1 (hw _ (List.mem_of_getElem? (i := 12) rfl)) (hw _ (List.mem_of_getElem? (i := 13) rfl))
  obtain ⟨sREAD_COMMITTED, evsREAD_COMMITTED, SsREAD_COMMITTED, EsREAD_COMMITTED⟩ := oStaR nr2 (hw _ (List.mem_of_getElem? (i := 12) rfl)) (hw _ (List.mem_of_getElem? (i := 15) rfl))
  obtain ⟨sNOT_SUPPORTED, evsNOT_SUPPORTED, SsNOT_SUPPORTED, EsNOT_SUPPORTED⟩ := oStaR nr3 (hw _ (List.mem_of_getElem? (i := 6) rfl)) (hw _ (List.mem_of_getElem? (i := 117) rfl))
  obtain ⟨sDEFAULT, evsDEFAULT, SsDEFAULT, EsDEFAULT⟩ := oStaR nr4 (hw _ (List.mem_of_getElem? (i := 12) rfl)) (hw _ (List.mem_of_getElem? (i := 119) rfl))
  obtain ⟨sMANDATORY, evsMANDATORY, SsMANDATORY, EsMANDATORY⟩ := oStaR nr5 (hw _ (List.mem_of_getElem? (i := 6) rfl)) (hw _ (List.mem_of_getElem? (i := 121) rfl))
  obtain ⟨sSERIALIZABLE, evsSERIALIZABLE, SsSERIALIZABLE, EsSERIALIZABLE⟩ := oStaR nr6 (hw _ (List.mem_of_getElem? (i := 12) rfl)) (hw _ (List.mem_of_getElem? (i := 123) rfl))
  obtain ⟨sREAD_UNCOMMITTED, evsREAD_UNCOMMITTED, SsREAD_UNCOMMITTED, EsREAD_UNCOMMITTED⟩ := oStaR nr7 (hw _ (List.mem_of_getElem? (i := 12) rfl)) (hw _ (List.mem_of_getElem? (i := 125) rfl))
  obtain ⟨sSUPPORTS, evsSUPPORTS, SsSUPPORTS, EsSUPPORTS⟩ := oStaR nr8 (hw _ (List.mem_of_getElem? (i := 6) rfl)) (hw _ (List.mem_of_getElem? (i := 127) rfl))
  obtain ⟨sREQUIRES_NEW, evsREQUIRES_NEW, SsREQUIRES_NEW, EsREQUIRES_NEW⟩ := oStaR nr9 (hw _ (List.mem_of_getElem? (i := 6) rfl)) (hw _ (List.mem_of_getElem? (i := 129) rfl))
  obtain ⟨sNESTED, evsNESTED, SsNESTED, EsNESTED⟩ := oStaR nr10 (hw _ (List.mem_of_getElem? (i := 6) rfl)) (hw _ (List.mem_of_getElem? (i := 131) rfl))
  obtain ⟨sNEVER, evsNEVER, SsNEVER, EsNEVER⟩ := oStaR nr11 (hw _ (List.mem_of_getElem? (i := 6) rfl)) (hw _ (List.mem_of_getElem? (i := 133) rfl))
  obtain ⟨hsets, -⟩ := atoms_of _ (rest_1_c_eq ▸ (show rest_1_c.before _ s = true from hrest))
  obtain ⟨cz, ecz⟩ := is_v (Cond.before_iff.mp (hsets _ (List.mem_of_getElem? (i := 1) rfl)))
  have SCS : Sta s s.heap "java/lang/String" "COMPACT_STRINGS" "Z" (.int cz) := Sta.start ecz (Or.inl (hsets _ (List.mem_of_getElem? (i := 0) rfl)))
  have hcz : ¬ (cz = (0 : Int32)) := gotF (Cond.eq_ints ecz (Term.int_eval (0))) (not_v (Cond.before_iff.mp (hsets _ (List.mem_of_getElem? (i := 2) rfl))))
  obtain ⟨n, o, h1, h2, h3, _, L, rfl, ⟨rfl, N⟩, hq⟩ := rmL l s _ hw tables_1 i0 i1 i2 i3 i4 i5 sREQUIRED sREPEATABLE_READ sREAD_COMMITTED sNOT_SUPPORTED sDEFAULT sMANDATORY sSERIALIZABLE sREAD_UNCOMMITTED sSUPPORTS sREQUIRES_NEW sNESTED sNEVER cz s.heap s.heap.size (Nat.le_refl _) (Old.start s) SsREQUIRED EsREQUIRED SsREPEATABLE_READ EsREPEATABLE_READ SsREAD_COMMITTED EsREAD_COMMITTED SsNOT_SUPPORTED EsNOT_SUPPORTED SsDEFAULT EsDEFAULT SsMANDATORY EsMANDATORY SsSERIALIZABLE EsSERIALIZABLE SsREAD_UNCOMMITTED EsREAD_UNCOMMITTED SsSUPPORTS EsSUPPORTS SsREQUIRES_NEW EsREQUIRES_NEW SsNESTED EsNESTED SsNEVER EsNEVER SCS hcz p e ha hc hk s m _ below hf ((Spec.applies_iff_loose hf).mp happ).1 ⟨rfl, State.Warmed39.refl s, rfl⟩ trivial
  refine ⟨n, _, h1, h2, h3, hpost _ _ _ _ _ _ ⟨Cond.after_iff.mpr rfl, Cond.after_iff.mpr (eq_i res_at (Term.int_eval (1)) rfl), trivial⟩ ⟨hq.1, hq.2.1, hq.2.2.1, (hq.2.2.2.sift fun y hy => Or.inr (N y hy)).mono (by decide) (by decide)⟩⟩
theorem main_1_1 : Claimed_1_1 := comes_1 fun _ _ _ _ _ _ h hF => ⟨h.1, hF⟩
theorem main_1_2 : Claimed_1_2 := comes_1 fun _ _ _ _ _ _ h hF => ⟨h.2.1, hF⟩
end Jvm.Pilot.@@N@@
namespace Jvm.Pilot.@@N@@
open Jvm Jvm.ClassFile Sem Op Lib Jvm.Free Jvm.Stand Jvm.Pilot.@@N@@.Jvm.D
/-! MADE BY PROGRAM (witnessworld.py) out of the Statement's table words and the real class files: 25 classes; the members and pool entries that the words name. The judged class is class 1, her method 3. -/
namespace start1
open Jvm.ClassFile
def u (s : String) : CpInfo := .utf8 (stringToUtf16 s)
/-- a pool by its gaps: so many unusable entries, then the entry; so many at the end -/
def gap : Nat → List CpInfo → List CpInfo
  | 0, r => r
  | n + 1, r => .unusable :: gap n r
def poolList (es : List (Nat × CpInfo)) (last : Nat) : List CpInfo := es.foldr (fun e r => gap e.1 (e.2 :: r)) (gap last [])
def pool (es : List (Nat × CpInfo)) (last : Nat) : Array CpInfo := ⟨poolList es last⟩
def fileOf (pool : Array CpInfo) (this : Nat) (attrs : Array Attribute := #[]) (ms : Array MethodInfo := #[]) (fl : Nat := 33) (sup : Nat := 0) (ifs : Array Nat := #[]) (fds : Array FieldInfo := #[]) : ClassFile where
  minorVersion := 0
  majorVersion := 65
  constantPool := pool
  accessFlags := fl
  thisClass := this
  superClass := sup
  interfaces := ifs
  fields := fds
  methods := ms
  attributes := attrs
def plain (name : String) (sup : Option ClassId) : Class where
  name := name
  kind := .ordinary
  loader := none
  accessFlags := 33
  super := sup
  interfaces := #[]
  cf := none
  fields := #[]
  methods := #[]
  instanceTypes := #[]
  staticTypes := #[]
  resolved := #[]
  callSites := []
  init := .initialized
  statics := none
  mirror := none

def pool0 : Array CpInfo := pool [(5, u "<init>"), (0, u "()V"), (1, .class_ 10), (1, u "java/lang/Object")] 113

def k0c0 : Code := { maxStack := 0, maxLocals := 1, code := object_method_1_code, exceptionTable := #[], attributes := #[] }
def k0m0 : Method := { name := "<init>", desc := "()V", sig := { parameters := [], returnType := none }, accessFlags := 1, code := some k0c0 }
/-- java/lang/Object -/
def k0 : Class := { plain "java/lang/Object" none with
  accessFlags := 33
  interfaces := #[]
  cf := some (fileOf pool0 8 #[] #[{ accessFlags := 1, nameIndex := 5, descriptorIndex := 6, attributes := #[] }] 33 0 #[] #[])
  fields := #[]
  methods := #[k0m0]
  instanceTypes := #[]
  staticTypes := #[]
  resolved := Array.replicate 124 none
  statics := none }

def pool1 : Array CpInfo := pool [(2, .class_ 4), (1, u "java/lang/Object"), (0, u "<init>"), (0, u "()V"), (0, .integer 2147483647), (0, .fieldref 9 10), (0, .class_ 11), (0, .nameAndType 12 13), (0, u "com/example/demarc/demarc/Isolation"), (0, u "DEFAULT"), (0, u "Lcom/example/demarc/demarc/Isolation;"), (0, .fieldref 9 15), (0, .nameAndType 16 13), (0, u "READ_UNCOMMITTED"), (0, .fieldref 9 18), (0, .nameAndType 19 13), (0, u "READ_COMMITTED"), (0, .fieldref 9 21), (0, .nameAndType 22 13), (0, u "REPEATABLE_READ"), (0, .fieldref 9 24), (0, .nameAndType 25 13), (0, u "SERIALIZABLE"), (0, .fieldref 27 28), (0, .class_ 29), (0, .nameAndType 30 31), (0, u "com/example/demarc/demarc/Propagation"), (0, u "REQUIRED"), (0, u "Lcom/example/demarc/demarc/Propagation;"), (0, .fieldref 27 33), (0, .nameAndType 34 31), (0, u "SUPPORTS"), (0, .fieldref 27 36), (0, .nameAndType 37 31), (0, u "MANDATORY"), (0, .fieldref 27 39), (0, .nameAndType 40 31), (0, u "REQUIRES_NEW"), (0, .fieldref 27 42), (0, .nameAndType 43 31), (0, u "NOT_SUPPORTED"), (0, .fieldref 27 45), (0, .nameAndType 46 31), (0, u "NEVER"), (0, .fieldref 27 48), (0, .nameAndType 49 31), (0, u "NESTED"), (0, .methodref 51 52), (0, .class_ 53), (0, .nameAndType 54 55), (0, u "com/example/demarc/demarc/TransactionDefinitionWithIsolationPinLaw"), (0, u "prop"), (0, u "(I)Lcom/example/demarc/demarc/Propagation;"), (0, .methodref 51 57), (0, .nameAndType 58 59), (0, u "iso"), (0, u "(I)Lcom/example/demarc/demarc/Isolation;"), (0, .class_ 61), (0, u "java/lang/String"), (0, .methodref 60 63), (0, .nameAndType 5 64), (0, u "([C)V"), (0, .class_ 66), (0, u "com/example/demarc/demarc/TransactionDefinition"), (0, .methodref 65 68), (0, .nameAndType 5 69), (0, u "(Lcom/example/demarc/demarc/Propagation;Lcom/example/demarc/demarc/Isolation;IZLjava/lang/String;)V"), (0, .methodref 65 71), (0, .nameAndType 72 73), (0, u "withIsolation"), (0, u "(Lcom/example/demarc/demarc/Isolation;)Lcom/example/demarc/demarc/TransactionDefinition;"), (0, .methodref 65 75), (0, .nameAndType 76 77), (0, u "name"), (0, u "()Ljava/lang/String;"), (0, .methodref 60 79), (0, .nameAndType 80 81), (0, u "equals"), (0, u "(Ljava/lang/Object;)Z"), (0, .methodref 65 83), (0, .nameAndType 84 85), (0, u "isolation"), (0, u "()Lcom/example/demarc/demarc/Isolation;"), (0, .methodref 65 87), (0, .nameAndType 88 89), (0, u "propagation"), (0, u "()Lcom/example/demarc/demarc/Propagation;"), (0, .methodref 65 91), (0, .nameAndType 92 93), (0, u "timeoutSeconds"), (0, u "()I"), (0, .methodref 65 95), (0, .nameAndType 96 97), (0, u "readOnly"), (0, u "()Z"), (3, u "law"), (0, u "(IIIIII)Z")] 4

def k1m0 : Method := { name := "<init>", desc := "()V", sig := { parameters := [], returnType := none }, accessFlags := 1, code := none }
def k1c1 : Code := { maxStack := 2, maxLocals := 2, code := method_2_code, exceptionTable := #[], attributes := #[] }
def k1m1 : Method := { name := "iso", desc := "(I)Lcom/example/demarc/demarc/Isolation;", sig := { parameters := [.int], returnType := some (.object "com/example/demarc/demarc/Isolation") }, accessFlags := 10, code := some k1c1 }
def k1c2 : Code := { maxStack := 2, maxLocals := 2, code := method_3_code, exceptionTable := #[], attributes := #[] }
def k1m2 : Method := { name := "prop", desc := "(I)Lcom/example/demarc/demarc/Propagation;", sig := { parameters := [.int], returnType := some (.object "com/example/demarc/demarc/Propagation") }, accessFlags := 10, code := some k1c2 }
def k1c3 : Code := { maxStack := 7, maxLocals := 18, code := code, exceptionTable := #[], attributes := #[] }
def k1m3 : Method := { name := "law", desc := "(IIIIII)Z", sig := { parameters := [.int, .int, .int, .int, .int, .int], returnType := some .boolean }, accessFlags := 9, code := some k1c3 }
/-- com/example/demarc/demarc/TransactionDefinitionWithIsolationPinLaw -/
def k1 : Class := { plain "com/example/demarc/demarc/TransactionDefinitionWithIsolationPinLaw" (some 0) with
  accessFlags := 49
  interfaces := #[]
  cf := some (fileOf pool1 51 #[] #[{ accessFlags := 1, nameIndex := 5, descriptorIndex := 6, attributes := #[] }, { accessFlags := 10, nameIndex := 58, descriptorIndex := 59, attributes := #[] }, { accessFlags := 10, nameIndex := 54, descriptorIndex := 55, attributes := #[] }, { accessFlags := 9, nameIndex := 101, descriptorIndex := 102, attributes := #[] }] 49 2 #[] #[])
  fields := #[]
  methods := #[k1m0, k1m1, k1m2, k1m3]
  instanceTypes := #[]
  staticTypes := #[]
  resolved := Array.replicate 107 none
  statics := none }

def pool2 : Array CpInfo := pool [(1, .class_ 2), (0, u "java/lang/constant/Constable"), (0, .class_ 4), (0, u "java/lang/Object")] 6

/-- java/lang/constant/Constable -/
def k2 : Class := { plain "java/lang/constant/Constable" (some 0) with
  accessFlags := 1537
  interfaces := #[]
  cf := some (fileOf pool2 1 #[] #[] 1537 3 #[] #[])
  fields := #[]
  methods := #[]
  instanceTypes := #[]
  staticTypes := #[]
  resolved := Array.replicate 11 none
  statics := none }

def pool3 : Array CpInfo := pool [(1, .class_ 2), (0, u "java/lang/Comparable"), (0, .class_ 4), (0, u "java/lang/Object")] 7

/-- java/lang/Comparable -/
def k3 : Class := { plain "java/lang/Comparable" (some 0) with
  accessFlags := 1537
  interfaces := #[]
  cf := some (fileOf pool3 1 #[] #[] 1537 3 #[] #[])
  fields := #[]
  methods := #[]
  instanceTypes := #[]
  staticTypes := #[]
  resolved := Array.replicate 12 none
  statics := none }

def pool4 : Array CpInfo := pool [(1, .class_ 2), (0, u "java/io/Serializable"), (0, .class_ 4), (0, u "java/lang/Object")] 2

/-- java/io/Serializable -/
def k4 : Class := { plain "java/io/Serializable" (some 0) with
  accessFlags := 1537
  interfaces := #[]
  cf := some (fileOf pool4 1 #[] #[] 1537 3 #[] #[])
  fields := #[]
  methods := #[]
  instanceTypes := #[]
  staticTypes := #[]
  resolved := Array.replicate 7 none
  statics := none }

def pool5 : Array CpInfo := pool [(2, .class_ 4), (1, u "java/lang/Enum"), (0, u "name"), (0, u "Ljava/lang/String;"), (2, u "ordinal"), (0, u "I"), (1, .class_ 14), (1, u "java/lang/Object"), (4, u "hash"), (86, .class_ 108), (1, u "java/lang/Enum$EnumDesc"), (2, .class_ 112), (0, u "java/lang/constant/Constable"), (0, .class_ 114), (0, u "java/lang/Comparable"), (0, .class_ 116), (0, u "java/io/Serializable")] 87

/-- java/lang/Enum -/
def k5 : Class := { plain "java/lang/Enum" (some 0) with
  accessFlags := 1057
  interfaces := #[2, 3, 4]
  cf := some (fileOf pool5 2 #[.nestMembers #[106]] #[] 1057 12 #[111, 113, 115] #[{ accessFlags := 18, nameIndex := 5, descriptorIndex := 6, attributes := #[] }, { accessFlags := 18, nameIndex := 9, descriptorIndex := 10, attributes := #[] }, { accessFlags := 2, nameIndex := 19, descriptorIndex := 10, attributes := #[] }])
  fields := #[{ name := "name", type := (.object "java/lang/String"), accessFlags := 18, slot := 0, constantValue := 0 }, { name := "ordinal", type := .int, accessFlags := 18, slot := 1, constantValue := 0 }, { name := "hash", type := .int, accessFlags := 2, slot := 2, constantValue := 0 }]
  methods := #[]
  instanceTypes := #[(.object "java/lang/String"), .int, .int]
  staticTypes := #[]
  resolved := Array.replicate 204 none
  statics := none }

def pool6 : Array CpInfo := pool [(1, .class_ 2), (0, u "com/example/demarc/demarc/Propagation"), (2, u "REQUIRED"), (0, u "Lcom/example/demarc/demarc/Propagation;"), (2, u "SUPPORTS"), (2, u "MANDATORY"), (2, u "REQUIRES_NEW"), (2, u "NOT_SUPPORTED"), (2, u "NEVER"), (2, u "NESTED"), (2, u "$VALUES"), (0, u "[Lcom/example/demarc/demarc/Propagation;"), (6, .class_ 37), (1, u "java/lang/Enum"), (8, u "value"), (0, u "I")] 27

/-- com/example/demarc/demarc/Propagation -/
def k6 : Class := { plain "com/example/demarc/demarc/Propagation" (some 5) with
  accessFlags := 16433
  interfaces := #[]
  cf := some (fileOf pool6 1 #[] #[] 16433 35 #[] #[{ accessFlags := 16409, nameIndex := 5, descriptorIndex := 6, attributes := #[] }, { accessFlags := 16409, nameIndex := 9, descriptorIndex := 6, attributes := #[] }, { accessFlags := 16409, nameIndex := 12, descriptorIndex := 6, attributes := #[] }, { accessFlags := 16409, nameIndex := 15, descriptorIndex := 6, attributes := #[] }, { accessFlags := 16409, nameIndex := 18, descriptorIndex := 6, attributes := #[] }, { accessFlags := 16409, nameIndex := 21, descriptorIndex := 6, attributes := #[] }, { accessFlags := 16409, nameIndex := 24, descriptorIndex := 6, attributes := #[] }, { accessFlags := 18, nameIndex := 46, descriptorIndex := 47, attributes := #[] }, { accessFlags := 4122, nameIndex := 27, descriptorIndex := 28, attributes := #[] }])
  fields := #[{ name := "REQUIRED", type := (.object "com/example/demarc/demarc/Propagation"), accessFlags := 16409, slot := 0, constantValue := 0 }, { name := "SUPPORTS", type := (.object "com/example/demarc/demarc/Propagation"), accessFlags := 16409, slot := 1, constantValue := 0 }, { name := "MANDATORY", type := (.object "com/example/demarc/demarc/Propagation"), accessFlags := 16409, slot := 2, constantValue := 0 }, { name := "REQUIRES_NEW", type := (.object "com/example/demarc/demarc/Propagation"), accessFlags := 16409, slot := 3, constantValue := 0 }, { name := "NOT_SUPPORTED", type := (.object "com/example/demarc/demarc/Propagation"), accessFlags := 16409, slot := 4, constantValue := 0 }, { name := "NEVER", type := (.object "com/example/demarc/demarc/Propagation"), accessFlags := 16409, slot := 5, constantValue := 0 }, { name := "NESTED", type := (.object "com/example/demarc/demarc/Propagation"), accessFlags := 16409, slot := 6, constantValue := 0 }, { name := "value", type := .int, accessFlags := 18, slot := 3, constantValue := 0 }, { name := "$VALUES", type := (.array (.object "com/example/demarc/demarc/Propagation")), accessFlags := 4122, slot := 7, constantValue := 0 }]
  methods := #[]
  instanceTypes := #[(.object "java/lang/String"), .int, .int, .int]
  staticTypes := #[(.object "com/example/demarc/demarc/Propagation"), (.object "com/example/demarc/demarc/Propagation"), (.object "com/example/demarc/demarc/Propagation"), (.object "com/example/demarc/demarc/Propagation"), (.object "com/example/demarc/demarc/Propagation"), (.object "com/example/demarc/demarc/Propagation"), (.object "com/example/demarc/demarc/Propagation"), (.array (.object "com/example/demarc/demarc/Propagation"))]
  resolved := Array.replicate 75 none
  statics := some 0 }

def pool7 : Array CpInfo := pool [(1, .class_ 2), (0, u "com/example/demarc/demarc/Isolation"), (2, u "DEFAULT"), (0, u "Lcom/example/demarc/demarc/Isolation;"), (2, u "READ_UNCOMMITTED"), (2, u "READ_COMMITTED"), (2, u "REPEATABLE_READ"), (2, u "SERIALIZABLE"), (2, u "$VALUES"), (0, u "[Lcom/example/demarc/demarc/Isolation;"), (6, .class_ 31), (1, u "java/lang/Enum"), (8, u "value"), (0, u "I")] 27

/-- com/example/demarc/demarc/Isolation -/
def k7 : Class := { plain "com/example/demarc/demarc/Isolation" (some 5) with
  accessFlags := 16433
  interfaces := #[]
  cf := some (fileOf pool7 1 #[] #[] 16433 29 #[] #[{ accessFlags := 16409, nameIndex := 5, descriptorIndex := 6, attributes := #[] }, { accessFlags := 16409, nameIndex := 9, descriptorIndex := 6, attributes := #[] }, { accessFlags := 16409, nameIndex := 12, descriptorIndex := 6, attributes := #[] }, { accessFlags := 16409, nameIndex := 15, descriptorIndex := 6, attributes := #[] }, { accessFlags := 16409, nameIndex := 18, descriptorIndex := 6, attributes := #[] }, { accessFlags := 18, nameIndex := 40, descriptorIndex := 41, attributes := #[] }, { accessFlags := 4122, nameIndex := 21, descriptorIndex := 22, attributes := #[] }])
  fields := #[{ name := "DEFAULT", type := (.object "com/example/demarc/demarc/Isolation"), accessFlags := 16409, slot := 0, constantValue := 0 }, { name := "READ_UNCOMMITTED", type := (.object "com/example/demarc/demarc/Isolation"), accessFlags := 16409, slot := 1, constantValue := 0 }, { name := "READ_COMMITTED", type := (.object "com/example/demarc/demarc/Isolation"), accessFlags := 16409, slot := 2, constantValue := 0 }, { name := "REPEATABLE_READ", type := (.object "com/example/demarc/demarc/Isolation"), accessFlags := 16409, slot := 3, constantValue := 0 }, { name := "SERIALIZABLE", type := (.object "com/example/demarc/demarc/Isolation"), accessFlags := 16409, slot := 4, constantValue := 0 }, { name := "value", type := .int, accessFlags := 18, slot := 3, constantValue := 0 }, { name := "$VALUES", type := (.array (.object "com/example/demarc/demarc/Isolation")), accessFlags := 4122, slot := 5, constantValue := 0 }]
  methods := #[]
  instanceTypes := #[(.object "java/lang/String"), .int, .int, .int]
  staticTypes := #[(.object "com/example/demarc/demarc/Isolation"), (.object "com/example/demarc/demarc/Isolation"), (.object "com/example/demarc/demarc/Isolation"), (.object "com/example/demarc/demarc/Isolation"), (.object "com/example/demarc/demarc/Isolation"), (.array (.object "com/example/demarc/demarc/Isolation"))]
  resolved := Array.replicate 69 none
  statics := some 1 }

def pool8 : Array CpInfo := pool [(2, .class_ 4), (1, u "java/lang/CharSequence"), (42, .class_ 48), (0, u "java/lang/CharSequence$1CodePointIterator"), (10, .class_ 60), (0, u "java/lang/CharSequence$1CharIterator"), (5, .class_ 67), (0, u "java/lang/Object")] 63

/-- java/lang/CharSequence -/
def k8 : Class := { plain "java/lang/CharSequence" (some 0) with
  accessFlags := 1537
  interfaces := #[]
  cf := some (fileOf pool8 2 #[.nestMembers #[47, 59]] #[] 1537 66 #[] #[])
  fields := #[]
  methods := #[]
  instanceTypes := #[]
  staticTypes := #[]
  resolved := Array.replicate 131 none
  statics := none }

def pool9 : Array CpInfo := pool [(1, .class_ 2), (0, u "java/lang/constant/ConstantDesc"), (0, .class_ 4), (0, u "java/lang/Object")] 32

/-- java/lang/constant/ConstantDesc -/
def k9 : Class := { plain "java/lang/constant/ConstantDesc" (some 0) with
  accessFlags := 1537
  interfaces := #[]
  cf := some (fileOf pool9 1 #[] #[] 1537 3 #[] #[])
  fields := #[]
  methods := #[]
  instanceTypes := #[]
  staticTypes := #[]
  resolved := Array.replicate 37 none
  statics := none }

def pool10 : Array CpInfo := pool [(1, .methodref 2 3), (0, .class_ 4), (0, .nameAndType 5 6), (0, u "java/lang/Object"), (0, u "<init>"), (0, u "()V"), (2, .fieldref 10 11), (0, .class_ 12), (0, .nameAndType 13 14), (0, u "java/lang/String"), (0, u "value"), (0, u "[B"), (0, .fieldref 10 16), (0, .nameAndType 17 18), (0, u "coder"), (0, u "B"), (2, u "hash"), (0, u "I"), (2, u "hashIsZero"), (0, u "Z"), (0, .methodref 10 28), (0, .nameAndType 5 29), (0, u "([CIILjava/lang/Void;)V"), (8, .fieldref 10 39), (0, .nameAndType 40 26), (0, u "COMPACT_STRINGS"), (1, .class_ 44), (1, u "java/lang/StringUTF16"), (0, u "compress"), (1, .methodref 42 48), (0, .nameAndType 49 50), (0, u "coderFromArrayLen"), (0, u "([BI)B"), (126, .methodref 42 178), (0, .nameAndType 45 179), (0, u "([CII)[B"), (363, u "equals"), (29, u "(Ljava/lang/Object;)Z"), (1, .class_ 576), (0, u "java/lang/CharSequence"), (22, u "CASE_INSENSITIVE_ORDER"), (0, u "Ljava/util/Comparator;"), (409, u "([C)V"), (90, u "serialPersistentFields"), (0, u "[Ljava/io/ObjectStreamField;"), (0, .class_ 1104), (0, u "java/lang/String$CaseInsensitiveComparator"), (1, .class_ 1107), (0, u "java/io/Serializable"), (0, .class_ 1109), (0, u "java/lang/Comparable"), (0, .class_ 1111), (0, u "java/lang/constant/Constable"), (0, .class_ 1113), (0, u "java/lang/constant/ConstantDesc"), (2, u "serialVersionUID"), (0, u "J"), (3, u "REPL"), (0, u "C"), (2, u "LATIN1"), (1, u "UTF16")] 323

def k10m0 : Method := { name := "<init>", desc := "()V", sig := { parameters := [], returnType := none }, accessFlags := 1, code := none }
def k10c1 : Code := { maxStack := 5, maxLocals := 2, code := jdk_42_method_3_code, exceptionTable := #[], attributes := #[] }
def k10m1 : Method := { name := "<init>", desc := "([C)V", sig := { parameters := [(.array .char)], returnType := none }, accessFlags := 1, code := some k10c1 }
def k10c2 : Code := { maxStack := 2, maxLocals := 3, code := jdk_42_method_66_code, exceptionTable := #[], attributes := #[] }
def k10m2 : Method := { name := "equals", desc := "(Ljava/lang/Object;)Z", sig := { parameters := [(.object "java/lang/Object")], returnType := some .boolean }, accessFlags := 1, code := some k10c2 }
def k10c3 : Code := { maxStack := 4, maxLocals := 6, code := jdk_42_method_149_code, exceptionTable := #[], attributes := #[] }
def k10m3 : Method := { name := "<init>", desc := "([CIILjava/lang/Void;)V", sig := { parameters := [(.array .char), .int, .int, (.object "java/lang/Void")], returnType := none }, accessFlags := 2, code := some k10c3 }
/-- java/lang/String -/
def k10 : Class := { plain "java/lang/String" (some 0) with
  accessFlags := 49
  interfaces := #[4, 3, 8, 2, 9]
  cf := some (fileOf pool10 10 #[.nestMembers #[1103]] #[{ accessFlags := 1, nameIndex := 5, descriptorIndex := 6, attributes := #[] }, { accessFlags := 1, nameIndex := 5, descriptorIndex := 1010, attributes := #[] }, { accessFlags := 1, nameIndex := 543, descriptorIndex := 573, attributes := #[] }, { accessFlags := 2, nameIndex := 5, descriptorIndex := 29, attributes := #[] }] 49 2 #[1106, 1108, 575, 1110, 1112] #[{ accessFlags := 18, nameIndex := 13, descriptorIndex := 14, attributes := #[] }, { accessFlags := 18, nameIndex := 17, descriptorIndex := 18, attributes := #[] }, { accessFlags := 2, nameIndex := 21, descriptorIndex := 22, attributes := #[] }, { accessFlags := 2, nameIndex := 25, descriptorIndex := 26, attributes := #[] }, { accessFlags := 26, nameIndex := 1116, descriptorIndex := 1117, attributes := #[] }, { accessFlags := 24, nameIndex := 40, descriptorIndex := 26, attributes := #[] }, { accessFlags := 26, nameIndex := 1101, descriptorIndex := 1102, attributes := #[] }, { accessFlags := 26, nameIndex := 1121, descriptorIndex := 1122, attributes := #[] }, { accessFlags := 25, nameIndex := 599, descriptorIndex := 600, attributes := #[] }, { accessFlags := 24, nameIndex := 1125, descriptorIndex := 18, attributes := #[] }, { accessFlags := 24, nameIndex := 1127, descriptorIndex := 18, attributes := #[] }])
  fields := #[{ name := "value", type := (.array .byte), accessFlags := 18, slot := 0, constantValue := 0 }, { name := "coder", type := .byte, accessFlags := 18, slot := 1, constantValue := 0 }, { name := "hash", type := .int, accessFlags := 2, slot := 2, constantValue := 0 }, { name := "hashIsZero", type := .boolean, accessFlags := 2, slot := 3, constantValue := 0 }, { name := "serialVersionUID", type := .long, accessFlags := 26, slot := 0, constantValue := 0 }, { name := "COMPACT_STRINGS", type := .boolean, accessFlags := 24, slot := 1, constantValue := 0 }, { name := "serialPersistentFields", type := (.array (.object "java/io/ObjectStreamField")), accessFlags := 26, slot := 2, constantValue := 0 }, { name := "REPL", type := .char, accessFlags := 26, slot := 3, constantValue := 0 }, { name := "CASE_INSENSITIVE_ORDER", type := (.object "java/util/Comparator"), accessFlags := 25, slot := 4, constantValue := 0 }, { name := "LATIN1", type := .byte, accessFlags := 24, slot := 5, constantValue := 0 }, { name := "UTF16", type := .byte, accessFlags := 24, slot := 6, constantValue := 0 }]
  methods := #[k10m0, k10m1, k10m2, k10m3]
  instanceTypes := #[(.array .byte), .byte, .int, .boolean]
  staticTypes := #[.long, .boolean, (.array (.object "java/io/ObjectStreamField")), .char, (.object "java/util/Comparator"), .byte, .byte]
  resolved := Array.replicate 1451 none
  statics := some 2 }

def pool11 : Array CpInfo := pool [(6, .class_ 8), (1, u "java/lang/Object"), (0, u "<init>"), (0, u "()V"), (1, .class_ 14), (1, u "java/lang/StringUTF16"), (31, u "$assertionsDisabled"), (0, u "Z"), (13, u "HI_BYTE_SHIFT"), (0, u "I"), (2, u "LO_BYTE_SHIFT"), (49, .methodref 12 116), (0, .nameAndType 117 118), (0, u "compress"), (0, u "([CI[BII)I"), (3, u "([CII)[B"), (138, u "coderFromArrayLen"), (0, u "([BI)B"), (106, .class_ 371), (1, u "java/lang/StringUTF16$LinesSpliterator"), (58, u "MAX_LENGTH"), (196, .class_ 628), (0, u "java/lang/StringUTF16$CodePointsSpliterator"), (0, .class_ 630), (0, u "java/lang/StringUTF16$CharsSpliterator")] 4

def k11m0 : Method := { name := "<init>", desc := "()V", sig := { parameters := [], returnType := none }, accessFlags := 0, code := none }
def k11c1 : Code := { maxStack := 2, maxLocals := 2, code := jdk_52_method_15_code, exceptionTable := #[], attributes := #[] }
def k11m1 : Method := { name := "coderFromArrayLen", desc := "([BI)B", sig := { parameters := [(.array .byte), .int], returnType := some .byte }, accessFlags := 8, code := some k11c1 }
def k11c2 : Code := { maxStack := 5, maxLocals := 6, code := jdk_52_method_16_code, exceptionTable := #[], attributes := #[] }
def k11m2 : Method := { name := "compress", desc := "([CII)[B", sig := { parameters := [(.array .char), .int, .int], returnType := some (.array .byte) }, accessFlags := 9, code := some k11c2 }
def k11c3 : Code := { maxStack := 3, maxLocals := 7, code := jdk_52_method_21_code, exceptionTable := #[], attributes := #[] }
def k11m3 : Method := { name := "compress", desc := "([CI[BII)I", sig := { parameters := [(.array .char), .int, (.array .byte), .int, .int], returnType := some .int }, accessFlags := 9, code := some k11c3 }
/-- java/lang/StringUTF16 -/
def k11 : Class := { plain "java/lang/StringUTF16" (some 0) with
  accessFlags := 48
  interfaces := #[]
  cf := some (fileOf pool11 12 #[.nestMembers #[627, 629, 369]] #[{ accessFlags := 0, nameIndex := 9, descriptorIndex := 10, attributes := #[] }, { accessFlags := 8, nameIndex := 261, descriptorIndex := 262, attributes := #[] }, { accessFlags := 9, nameIndex := 117, descriptorIndex := 122, attributes := #[] }, { accessFlags := 9, nameIndex := 117, descriptorIndex := 118, attributes := #[] }] 48 6 #[] #[{ accessFlags := 26, nameIndex := 61, descriptorIndex := 62, attributes := #[] }, { accessFlags := 26, nameIndex := 65, descriptorIndex := 62, attributes := #[] }, { accessFlags := 24, nameIndex := 430, descriptorIndex := 62, attributes := #[] }, { accessFlags := 4120, nameIndex := 46, descriptorIndex := 47, attributes := #[] }])
  fields := #[{ name := "HI_BYTE_SHIFT", type := .int, accessFlags := 26, slot := 0, constantValue := 0 }, { name := "LO_BYTE_SHIFT", type := .int, accessFlags := 26, slot := 1, constantValue := 0 }, { name := "MAX_LENGTH", type := .int, accessFlags := 24, slot := 2, constantValue := 0 }, { name := "$assertionsDisabled", type := .boolean, accessFlags := 4120, slot := 3, constantValue := 0 }]
  methods := #[k11m0, k11m1, k11m2, k11m3]
  instanceTypes := #[]
  staticTypes := #[.int, .int, .int, .boolean]
  resolved := Array.replicate 635 none
  statics := none }

def pool12 : Array CpInfo := pool [(1, .methodref 2 3), (0, .class_ 4), (0, .nameAndType 5 6), (0, u "java/lang/Object"), (0, u "<init>"), (0, u "()V"), (0, .class_ 8), (0, u "java/lang/Record")] 13

def k12c0 : Code := { maxStack := 1, maxLocals := 1, code := jdk_30_method_1_code, exceptionTable := #[], attributes := #[] }
def k12m0 : Method := { name := "<init>", desc := "()V", sig := { parameters := [], returnType := none }, accessFlags := 4, code := some k12c0 }
/-- java/lang/Record -/
def k12 : Class := { plain "java/lang/Record" (some 0) with
  accessFlags := 1057
  interfaces := #[]
  cf := some (fileOf pool12 7 #[] #[{ accessFlags := 4, nameIndex := 5, descriptorIndex := 6, attributes := #[] }] 1057 2 #[] #[])
  fields := #[]
  methods := #[k12m0]
  instanceTypes := #[]
  staticTypes := #[]
  resolved := Array.replicate 22 none
  statics := none }

def pool13 : Array CpInfo := pool [(1, .methodref 2 3), (0, .class_ 4), (0, .nameAndType 5 6), (0, u "java/lang/Record"), (0, u "<init>"), (0, u "()V"), (0, .string 8), (0, u "propagation"), (0, .methodref 10 11), (0, .class_ 12), (0, .nameAndType 13 14), (0, u "java/util/Objects"), (0, u "requireNonNull"), (0, u "(Ljava/lang/Object;Ljava/lang/String;)Ljava/lang/Object;"), (0, .string 16), (0, u "isolation"), (0, .methodref 18 19), (0, .class_ 20), (0, .nameAndType 21 22), (0, u "com/example/demarc/demarc/TransactionDefinition"), (0, u "requireValidTimeout"), (0, u "(I)I"), (0, .fieldref 18 24), (0, .nameAndType 8 25), (0, u "Lcom/example/demarc/demarc/Propagation;"), (0, .fieldref 18 27), (0, .nameAndType 16 28), (0, u "Lcom/example/demarc/demarc/Isolation;"), (0, .fieldref 18 30), (0, .nameAndType 31 32), (0, u "timeoutSeconds"), (0, u "I"), (0, .fieldref 18 34), (0, .nameAndType 35 36), (0, u "readOnly"), (0, u "Z"), (0, .fieldref 18 38), (0, .nameAndType 39 40), (0, u "name"), (0, u "Ljava/lang/String;"), (11, u "DEFAULTS"), (0, u "Lcom/example/demarc/demarc/TransactionDefinition;"), (0, .methodref 18 55), (0, .nameAndType 5 56), (0, u "(Lcom/example/demarc/demarc/Propagation;Lcom/example/demarc/demarc/Isolation;IZLjava/lang/String;)V"), (22, u "TIMEOUT_DEFAULT"), (10, u "withIsolation"), (0, u "(Lcom/example/demarc/demarc/Isolation;)Lcom/example/demarc/demarc/TransactionDefinition;"), (6, u "()Ljava/lang/String;"), (0, u "()I"), (1, u "()Lcom/example/demarc/demarc/Propagation;"), (0, u "()Lcom/example/demarc/demarc/Isolation;"), (0, u "()Z")] 33

def k13c0 : Code := { maxStack := 2, maxLocals := 6, code := prog_16_method_1_code, exceptionTable := #[], attributes := #[] }
def k13m0 : Method := { name := "<init>", desc := "(Lcom/example/demarc/demarc/Propagation;Lcom/example/demarc/demarc/Isolation;IZLjava/lang/String;)V", sig := { parameters := [(.object "com/example/demarc/demarc/Propagation"), (.object "com/example/demarc/demarc/Isolation"), .int, .boolean, (.object "java/lang/String")], returnType := none }, accessFlags := 1, code := some k13c0 }
def k13c1 : Code := { maxStack := 3, maxLocals := 1, code := prog_16_method_2_code, exceptionTable := #[], attributes := #[] }
def k13m1 : Method := { name := "requireValidTimeout", desc := "(I)I", sig := { parameters := [.int], returnType := some .int }, accessFlags := 8, code := some k13c1 }
def k13c2 : Code := { maxStack := 7, maxLocals := 2, code := prog_16_method_5_code, exceptionTable := #[], attributes := #[] }
def k13m2 : Method := { name := "withIsolation", desc := "(Lcom/example/demarc/demarc/Isolation;)Lcom/example/demarc/demarc/TransactionDefinition;", sig := { parameters := [(.object "com/example/demarc/demarc/Isolation")], returnType := some (.object "com/example/demarc/demarc/TransactionDefinition") }, accessFlags := 1, code := some k13c2 }
def k13c3 : Code := { maxStack := 1, maxLocals := 1, code := prog_16_method_12_code, exceptionTable := #[], attributes := #[] }
def k13m3 : Method := { name := "propagation", desc := "()Lcom/example/demarc/demarc/Propagation;", sig := { parameters := [], returnType := some (.object "com/example/demarc/demarc/Propagation") }, accessFlags := 1, code := some k13c3 }
def k13c4 : Code := { maxStack := 1, maxLocals := 1, code := prog_16_method_13_code, exceptionTable := #[], attributes := #[] }
def k13m4 : Method := { name := "isolation", desc := "()Lcom/example/demarc/demarc/Isolation;", sig := { parameters := [], returnType := some (.object "com/example/demarc/demarc/Isolation") }, accessFlags := 1, code := some k13c4 }
def k13c5 : Code := { maxStack := 1, maxLocals := 1, code := prog_16_method_14_code, exceptionTable := #[], attributes := #[] }
def k13m5 : Method := { name := "timeoutSeconds", desc := "()I", sig := { parameters := [], returnType := some .int }, accessFlags := 1, code := some k13c5 }
def k13c6 : Code := { maxStack := 1, maxLocals := 1, code := prog_16_method_15_code, exceptionTable := #[], attributes := #[] }
def k13m6 : Method := { name := "readOnly", desc := "()Z", sig := { parameters := [], returnType := some .boolean }, accessFlags := 1, code := some k13c6 }
def k13c7 : Code := { maxStack := 1, maxLocals := 1, code := prog_16_method_16_code, exceptionTable := #[], attributes := #[] }
def k13m7 : Method := { name := "name", desc := "()Ljava/lang/String;", sig := { parameters := [], returnType := some (.object "java/lang/String") }, accessFlags := 1, code := some k13c7 }
/-- com/example/demarc/demarc/TransactionDefinition -/
def k13 : Class := { plain "com/example/demarc/demarc/TransactionDefinition" (some 12) with
  accessFlags := 49
  interfaces := #[]
  cf := some (fileOf pool13 18 #[] #[{ accessFlags := 1, nameIndex := 5, descriptorIndex := 56, attributes := #[] }, { accessFlags := 8, nameIndex := 21, descriptorIndex := 22, attributes := #[] }, { accessFlags := 1, nameIndex := 90, descriptorIndex := 91, attributes := #[] }, { accessFlags := 1, nameIndex := 8, descriptorIndex := 101, attributes := #[] }, { accessFlags := 1, nameIndex := 16, descriptorIndex := 102, attributes := #[] }, { accessFlags := 1, nameIndex := 31, descriptorIndex := 99, attributes := #[] }, { accessFlags := 1, nameIndex := 35, descriptorIndex := 103, attributes := #[] }, { accessFlags := 1, nameIndex := 39, descriptorIndex := 98, attributes := #[] }] 49 2 #[] #[{ accessFlags := 18, nameIndex := 8, descriptorIndex := 25, attributes := #[] }, { accessFlags := 18, nameIndex := 16, descriptorIndex := 28, attributes := #[] }, { accessFlags := 18, nameIndex := 31, descriptorIndex := 32, attributes := #[] }, { accessFlags := 18, nameIndex := 35, descriptorIndex := 36, attributes := #[] }, { accessFlags := 18, nameIndex := 39, descriptorIndex := 40, attributes := #[] }, { accessFlags := 25, nameIndex := 79, descriptorIndex := 32, attributes := #[] }, { accessFlags := 26, nameIndex := 52, descriptorIndex := 53, attributes := #[] }])
  fields := #[{ name := "propagation", type := (.object "com/example/demarc/demarc/Propagation"), accessFlags := 18, slot := 0, constantValue := 0 }, { name := "isolation", type := (.object "com/example/demarc/demarc/Isolation"), accessFlags := 18, slot := 1, constantValue := 0 }, { name := "timeoutSeconds", type := .int, accessFlags := 18, slot := 2, constantValue := 0 }, { name := "readOnly", type := .boolean, accessFlags := 18, slot := 3, constantValue := 0 }, { name := "name", type := (.object "java/lang/String"), accessFlags := 18, slot := 4, constantValue := 0 }, { name := "TIMEOUT_DEFAULT", type := .int, accessFlags := 25, slot := 0, constantValue := 0 }, { name := "DEFAULTS", type := (.object "com/example/demarc/demarc/TransactionDefinition"), accessFlags := 26, slot := 1, constantValue := 0 }]
  methods := #[k13m0, k13m1, k13m2, k13m3, k13m4, k13m5, k13m6, k13m7]
  instanceTypes := #[(.object "com/example/demarc/demarc/Propagation"), (.object "com/example/demarc/demarc/Isolation"), .int, .boolean, (.object "java/lang/String")]
  staticTypes := #[.int, (.object "com/example/demarc/demarc/TransactionDefinition")]
  resolved := Array.replicate 137 none
  statics := none }

def pool14 : Array CpInfo := pool [(2, .class_ 4), (1, u "java/lang/Object"), (0, u "<init>"), (0, u "()V"), (35, .class_ 44), (1, u "java/util/Objects"), (0, u "requireNonNull"), (48, u "(Ljava/lang/Object;Ljava/lang/String;)Ljava/lang/Object;")] 89

def k14m0 : Method := { name := "<init>", desc := "()V", sig := { parameters := [], returnType := none }, accessFlags := 2, code := none }
def k14c1 : Code := { maxStack := 3, maxLocals := 2, code := jdk_31_method_11_code, exceptionTable := #[], attributes := #[] }
def k14m1 : Method := { name := "requireNonNull", desc := "(Ljava/lang/Object;Ljava/lang/String;)Ljava/lang/Object;", sig := { parameters := [(.object "java/lang/Object"), (.object "java/lang/String")], returnType := some (.object "java/lang/Object") }, accessFlags := 9, code := some k14c1 }
/-- java/util/Objects -/
def k14 : Class := { plain "java/util/Objects" (some 0) with
  accessFlags := 49
  interfaces := #[]
  cf := some (fileOf pool14 42 #[] #[{ accessFlags := 2, nameIndex := 5, descriptorIndex := 6, attributes := #[] }, { accessFlags := 9, nameIndex := 45, descriptorIndex := 94, attributes := #[] }] 49 2 #[] #[])
  fields := #[]
  methods := #[k14m0, k14m1]
  instanceTypes := #[]
  staticTypes := #[]
  resolved := Array.replicate 184 none
  statics := none }

def pool15 : Array CpInfo := pool [(4, .class_ 6), (1, u "java/lang/Object"), (0, u "<init>"), (0, u "()V"), (5, .class_ 16), (1, u "java/lang/StringLatin1"), (104, u "$assertionsDisabled"), (0, u "Z"), (98, .class_ 223), (1, u "java/lang/StringLatin1$LinesSpliterator"), (166, .class_ 391), (0, u "java/lang/StringLatin1$CharsSpliterator")] 3

def k15m0 : Method := { name := "<init>", desc := "()V", sig := { parameters := [], returnType := none }, accessFlags := 0, code := none }
/-- java/lang/StringLatin1 -/
def k15 : Class := { plain "java/lang/StringLatin1" (some 0) with
  accessFlags := 48
  interfaces := #[]
  cf := some (fileOf pool15 14 #[.nestMembers #[390, 221]] #[{ accessFlags := 0, nameIndex := 7, descriptorIndex := 8, attributes := #[] }] 48 4 #[] #[{ accessFlags := 4120, nameIndex := 121, descriptorIndex := 122, attributes := #[] }])
  fields := #[{ name := "$assertionsDisabled", type := .boolean, accessFlags := 4120, slot := 0, constantValue := 0 }]
  methods := #[k15m0]
  instanceTypes := #[]
  staticTypes := #[.boolean]
  resolved := Array.replicate 395 none
  statics := none }

def pool16 : Array CpInfo := pool [(2, .class_ 4), (1, u "java/lang/Object"), (0, u "<init>"), (0, u "()V"), (17, .class_ 26), (1, u "jdk/internal/util/Preconditions"), (28, .class_ 56), (0, u "jdk/internal/util/Preconditions$4"), (57, .class_ 115), (0, u "jdk/internal/util/Preconditions$1"), (7, u "SIOOBE_FORMATTER"), (0, u "Ljava/util/function/BiFunction;"), (0, .class_ 126), (0, u "jdk/internal/util/Preconditions$2"), (3, u "AIOOBE_FORMATTER"), (0, .class_ 132), (0, u "jdk/internal/util/Preconditions$3"), (3, u "IOOBE_FORMATTER")] 57

def k16m0 : Method := { name := "<init>", desc := "()V", sig := { parameters := [], returnType := none }, accessFlags := 1, code := none }
/-- jdk/internal/util/Preconditions -/
def k16 : Class := { plain "jdk/internal/util/Preconditions" (some 0) with
  accessFlags := 33
  interfaces := #[]
  cf := some (fileOf pool16 24 #[.nestMembers #[55, 131, 125, 114]] #[{ accessFlags := 1, nameIndex := 5, descriptorIndex := 6, attributes := #[] }] 33 2 #[] #[{ accessFlags := 25, nameIndex := 123, descriptorIndex := 124, attributes := #[] }, { accessFlags := 25, nameIndex := 130, descriptorIndex := 124, attributes := #[] }, { accessFlags := 25, nameIndex := 136, descriptorIndex := 124, attributes := #[] }])
  fields := #[{ name := "SIOOBE_FORMATTER", type := (.object "java/util/function/BiFunction"), accessFlags := 25, slot := 0, constantValue := 0 }, { name := "AIOOBE_FORMATTER", type := (.object "java/util/function/BiFunction"), accessFlags := 25, slot := 1, constantValue := 0 }, { name := "IOOBE_FORMATTER", type := (.object "java/util/function/BiFunction"), accessFlags := 25, slot := 2, constantValue := 0 }]
  methods := #[k16m0]
  instanceTypes := #[]
  staticTypes := #[(.object "java/util/function/BiFunction"), (.object "java/util/function/BiFunction"), (.object "java/util/function/BiFunction")]
  resolved := Array.replicate 194 none
  statics := some 3 }

def pool17 : Array CpInfo := pool [(9, u "<init>"), (6, .class_ 18), (1, u "java/lang/Object"), (0, u "()V"), (1, .class_ 23), (1, u "jdk/internal/util/ArraysSupport"), (0, u "LOG2_ARRAY_LONG_INDEX_SCALE"), (0, u "I"), (2, u "U"), (0, u "Ljdk/internal/misc/Unsafe;"), (8, u "BIG_ENDIAN"), (0, u "Z"), (8, u "LOG2_BYTE_BIT_SIZE"), (4, u "LOG2_ARRAY_INT_INDEX_SCALE"), (54, u "JLA"), (0, u "Ljdk/internal/access/JavaLangAccess;"), (11, u "LOG2_ARRAY_BOOLEAN_INDEX_SCALE"), (9, u "LOG2_ARRAY_BYTE_INDEX_SCALE"), (5, u "LOG2_ARRAY_CHAR_INDEX_SCALE"), (5, u "LOG2_ARRAY_SHORT_INDEX_SCALE"), (18, u "LOG2_ARRAY_FLOAT_INDEX_SCALE"), (24, u "LOG2_ARRAY_DOUBLE_INDEX_SCALE"), (89, u "T_BOOLEAN"), (2, u "T_CHAR"), (1, u "T_FLOAT"), (1, u "T_DOUBLE"), (1, u "T_BYTE"), (1, u "T_SHORT"), (1, u "T_INT"), (1, u "T_LONG"), (1, u "SOFT_MAX_ARRAY_LENGTH")] 83

def k17m0 : Method := { name := "<init>", desc := "()V", sig := { parameters := [], returnType := none }, accessFlags := 2, code := none }
/-- jdk/internal/util/ArraysSupport -/
def k17 : Class := { plain "jdk/internal/util/ArraysSupport" (some 0) with
  accessFlags := 33
  interfaces := #[]
  cf := some (fileOf pool17 21 #[] #[{ accessFlags := 2, nameIndex := 9, descriptorIndex := 19, attributes := #[] }] 33 16 #[] #[{ accessFlags := 24, nameIndex := 28, descriptorIndex := 29, attributes := #[] }, { accessFlags := 26, nameIndex := 38, descriptorIndex := 39, attributes := #[] }, { accessFlags := 25, nameIndex := 121, descriptorIndex := 25, attributes := #[] }, { accessFlags := 25, nameIndex := 131, descriptorIndex := 25, attributes := #[] }, { accessFlags := 25, nameIndex := 137, descriptorIndex := 25, attributes := #[] }, { accessFlags := 25, nameIndex := 143, descriptorIndex := 25, attributes := #[] }, { accessFlags := 25, nameIndex := 53, descriptorIndex := 25, attributes := #[] }, { accessFlags := 25, nameIndex := 24, descriptorIndex := 25, attributes := #[] }, { accessFlags := 25, nameIndex := 162, descriptorIndex := 25, attributes := #[] }, { accessFlags := 25, nameIndex := 187, descriptorIndex := 25, attributes := #[] }, { accessFlags := 26, nameIndex := 48, descriptorIndex := 25, attributes := #[] }, { accessFlags := 25, nameIndex := 277, descriptorIndex := 25, attributes := #[] }, { accessFlags := 25, nameIndex := 280, descriptorIndex := 25, attributes := #[] }, { accessFlags := 25, nameIndex := 282, descriptorIndex := 25, attributes := #[] }, { accessFlags := 25, nameIndex := 284, descriptorIndex := 25, attributes := #[] }, { accessFlags := 25, nameIndex := 286, descriptorIndex := 25, attributes := #[] }, { accessFlags := 25, nameIndex := 288, descriptorIndex := 25, attributes := #[] }, { accessFlags := 25, nameIndex := 290, descriptorIndex := 25, attributes := #[] }, { accessFlags := 25, nameIndex := 292, descriptorIndex := 25, attributes := #[] }, { accessFlags := 26, nameIndex := 108, descriptorIndex := 109, attributes := #[] }, { accessFlags := 25, nameIndex := 294, descriptorIndex := 25, attributes := #[] }])
  fields := #[{ name := "U", type := (.object "jdk/internal/misc/Unsafe"), accessFlags := 24, slot := 0, constantValue := 0 }, { name := "BIG_ENDIAN", type := .boolean, accessFlags := 26, slot := 1, constantValue := 0 }, { name := "LOG2_ARRAY_BOOLEAN_INDEX_SCALE", type := .int, accessFlags := 25, slot := 2, constantValue := 0 }, { name := "LOG2_ARRAY_BYTE_INDEX_SCALE", type := .int, accessFlags := 25, slot := 3, constantValue := 0 }, { name := "LOG2_ARRAY_CHAR_INDEX_SCALE", type := .int, accessFlags := 25, slot := 4, constantValue := 0 }, { name := "LOG2_ARRAY_SHORT_INDEX_SCALE", type := .int, accessFlags := 25, slot := 5, constantValue := 0 }, { name := "LOG2_ARRAY_INT_INDEX_SCALE", type := .int, accessFlags := 25, slot := 6, constantValue := 0 }, { name := "LOG2_ARRAY_LONG_INDEX_SCALE", type := .int, accessFlags := 25, slot := 7, constantValue := 0 }, { name := "LOG2_ARRAY_FLOAT_INDEX_SCALE", type := .int, accessFlags := 25, slot := 8, constantValue := 0 }, { name := "LOG2_ARRAY_DOUBLE_INDEX_SCALE", type := .int, accessFlags := 25, slot := 9, constantValue := 0 }, { name := "LOG2_BYTE_BIT_SIZE", type := .int, accessFlags := 26, slot := 10, constantValue := 0 }, { name := "T_BOOLEAN", type := .int, accessFlags := 25, slot := 11, constantValue := 0 }, { name := "T_CHAR", type := .int, accessFlags := 25, slot := 12, constantValue := 0 }, { name := "T_FLOAT", type := .int, accessFlags := 25, slot := 13, constantValue := 0 }, { name := "T_DOUBLE", type := .int, accessFlags := 25, slot := 14, constantValue := 0 }, { name := "T_BYTE", type := .int, accessFlags := 25, slot := 15, constantValue := 0 }, { name := "T_SHORT", type := .int, accessFlags := 25, slot := 16, constantValue := 0 }, { name := "T_INT", type := .int, accessFlags := 25, slot := 17, constantValue := 0 }, { name := "T_LONG", type := .int, accessFlags := 25, slot := 18, constantValue := 0 }, { name := "JLA", type := (.object "jdk/internal/access/JavaLangAccess"), accessFlags := 26, slot := 19, constantValue := 0 }, { name := "SOFT_MAX_ARRAY_LENGTH", type := .int, accessFlags := 25, slot := 20, constantValue := 0 }]
  methods := #[k17m0]
  instanceTypes := #[]
  staticTypes := #[(.object "jdk/internal/misc/Unsafe"), .boolean, .int, .int, .int, .int, .int, .int, .int, .int, .int, .int, .int, .int, .int, .int, .int, .int, .int, (.object "jdk/internal/access/JavaLangAccess"), .int]
  resolved := Array.replicate 378 none
  statics := none }

def pool18 : Array CpInfo := pool [(1, u "java/lang/Cloneable"), (0, .class_ 1), (0, u "java/lang/Object"), (0, .class_ 3)] 3

/-- java/lang/Cloneable -/
def k18 : Class := { plain "java/lang/Cloneable" (some 0) with
  accessFlags := 1537
  interfaces := #[]
  cf := some (fileOf pool18 2 #[] #[] 1537 4 #[] #[])
  fields := #[]
  methods := #[]
  instanceTypes := #[]
  staticTypes := #[]
  resolved := Array.replicate 8 none
  statics := none }

/-- the primitive byte -/
def k19 : Class := { plain "byte" none with kind := .primitive 'B', accessFlags := 0x411 }
/-- [B -/
def k20 : Class := { plain "[B" (some 0) with kind := .array 19 .byte, interfaces := #[18, 4], accessFlags := 1041 }

/-- the primitive char -/
def k21 : Class := { plain "char" none with kind := .primitive 'C', accessFlags := 0x411 }
/-- [C -/
def k22 : Class := { plain "[C" (some 0) with kind := .array 21 .char, interfaces := #[18, 4], accessFlags := 1041 }

/-- the primitive int -/
def k23 : Class := { plain "int" none with kind := .primitive 'I', accessFlags := 0x411 }
/-- [I -/
def k24 : Class := { plain "[I" (some 0) with kind := .array 23 .int, interfaces := #[18, 4], accessFlags := 1041 }

def heap : Heap := #[{ cls := 6, slots := #[.ref 4, .ref 12, .ref 9, .ref 13, .ref 7, .ref 15, .ref 14, .null], vm := .statics 6 },
  { cls := 7, slots := #[.ref 8, .ref 11, .ref 6, .ref 5, .ref 10, .null], vm := .statics 7 },
  { cls := 10, slots := #[.long 0, .int 1, .null, .int 0, .null, .int 0, .int 0], vm := .statics 10 },
  { cls := 16, slots := #[.null, .null, .null], vm := .statics 16 },
  { cls := 6, slots := #[.null, .int 0, .int 0, .int 0], vm := .none },
  { cls := 7, slots := #[.null, .int 0, .int 0, .int 0], vm := .none },
  { cls := 7, slots := #[.null, .int 0, .int 0, .int 0], vm := .none },
  { cls := 6, slots := #[.null, .int 0, .int 0, .int 0], vm := .none },
  { cls := 7, slots := #[.null, .int 0, .int 0, .int 0], vm := .none },
  { cls := 6, slots := #[.null, .int 0, .int 0, .int 0], vm := .none },
  { cls := 7, slots := #[.null, .int 0, .int 0, .int 0], vm := .none },
  { cls := 7, slots := #[.null, .int 0, .int 0, .int 0], vm := .none },
  { cls := 6, slots := #[.null, .int 0, .int 0, .int 0], vm := .none },
  { cls := 6, slots := #[.null, .int 0, .int 0, .int 0], vm := .none },
  { cls := 6, slots := #[.null, .int 0, .int 0, .int 0], vm := .none },
  { cls := 6, slots := #[.null, .int 0, .int 0, .int 0], vm := .none }]
def classes : Array Class := #[k0, k1, k2, k3, k4, k5, k6, k7, k8, k9, k10, k11, k12, k13, k14, k15, k16, k17, k18, k19, k20, k21, k22, k23, k24]
def interned : List (Array UInt16 × Addr) := []
def slotsUsed : Nat := 72
def theMethod : MethodId := ⟨1, 3⟩
def args0 : Array Value := #[.int 5, .int 5, .int 5, .int 5, .int 5, .int 5]
def aboutOver (below : List Frame) : State where
  vm := { classes := classes, interned := interned.toArray }
  heap := heap
  slotsUsed := slotsUsed
  threads := #[{ frames := .invoking theMethod args0 :: below }]
def below0 : List Frame := [.native { method := ⟨0, 0⟩, args := #[] }]
def about1 : State := aboutOver below0
def p0 : Program := .bare "" "" ""
def e0 : Env := launch0.env 0 0 0
theorem w_frames : about1.frames = Frame.invoking theMethod args0 :: below0 := rfl
set_option maxRecDepth 65536 in
theorem w_args : argsFit about1.vm theMethod args0 = true := by decide +kernel
set_option maxRecDepth 65536 in
theorem w_heap : heapFits about1 = true := by decide +kernel
set_option maxRecDepth 65536 in
theorem w_runnable : about1.curStatus? = some .runnable := by decide +kernel
set_option maxRecDepth 65536 in
theorem w_alone : about1.alone = true := by decide +kernel
set_option maxRecDepth 65536 in
theorem w_named : about1.methodNamed? x = some theMethod := by decide +kernel
set_option maxRecDepth 65536 in
theorem w_hears : about1.hears theMethod below0 = true := by decide +kernel
set_option maxRecDepth 65536 in
theorem w_ripe : about1.ripe theMethod args0 below0 = true := by decide +kernel
theorem w_running : about1.status = .running := rfl
set_option maxRecDepth 65536 in
theorem w_room : about1.hasRoom e0.platform room_1 = true :=
  launch0.hasRoom_least _ room_1 (by decide +kernel) (by decide +kernel) (by decide +kernel) (by decide +kernel) (by decide +kernel) (by decide +kernel)
theorem allAtoms_all (ts : List Jvm.Cond) (a : Array Jvm.Value) (st : Jvm.State) : (allAtoms ts).before a st = ts.all (fun c => c.before a st) := by
  induction ts with
  | nil => rfl
  | cons c t ih =>
    show (Jvm.Cond.and c (allAtoms t)).before a st = _
    rw [Jvm.Cond.before_and, ih, List.all_cons]
def words1 : List Jvm.Cond := Jvm.Cond.code x code maxLocals ret :: tables_1
/-- a 'code' word, met by the world's own term for the bytes: nothing is compared byte by byte -/
theorem code_word {y : MethodName} {bytes : ByteArray} {mx : Nat} {rt : Option FieldType} {a : Array Value} {s : State} {m : MethodId} {meth : Method} {c : Code} (h1 : s.methodNamed? y = some m) (h2 : s.vm.method? m = some meth) (h3 : meth.code = some c) (h4 : c.code = bytes)
    (h5 : (c.maxLocals == mx && c.exceptionTable.isEmpty && decide (c.maxStack ≤ mostOperands) && decide (meth.sig.returnType = rt) && !meth.locks && decide (parseMethodDescriptor y.desc = some meth.sig)) = true) : (Jvm.Cond.code y bytes mx rt).before a s = true := by
  simp only [Bool.and_eq_true, beq_iff_eq, Bool.not_eq_true', decide_eq_true_eq] at h5
  obtain ⟨⟨⟨⟨⟨g1, g2⟩, g3⟩, g4⟩, g5⟩, g6⟩ := h5
  simp [Cond.before, Cond.holds, Cond.value, h1, h2, h3, h4, g1, g2, g3, g4, g5, g6]
def isCode : Jvm.Cond → Bool
  | .code _ _ _ _ => true
  | _ => false
theorem all_split {L : List Jvm.Cond} {P : Jvm.Cond → Bool} (h1 : L.all (fun c => isCode c || P c) = true) (h2 : ∀ c ∈ L.filter isCode, P c = true) : L.all P = true := by
  refine List.all_eq_true.mpr fun c hc => ?_
  have h := List.all_eq_true.mp h1 c hc
  rcases Bool.eq_false_or_eq_true (isCode c) with hi | hi
  · exact h2 c (List.mem_filter.mpr ⟨hc, hi⟩)
  · simpa [hi] using h
set_option maxRecDepth 65536 in
theorem w_c0 : (Jvm.Cond.code x code maxLocals ret).before args0 about1 = true := code_word (m := ⟨1, 3⟩) (meth := k1m3) (c := k1c3) (by decide +kernel) rfl rfl rfl (by decide +kernel)
set_option maxRecDepth 65536 in
theorem w_c1 : (Jvm.Cond.code ({ cls := "com/example/demarc/demarc/TransactionDefinitionWithIsolationPinLaw", name := "prop", desc := "(I)Lcom/example/demarc/demarc/Propagation;" } : Jvm.MethodName) method_3_code (2 : Nat) (Option.some (Jvm.ClassFile.FieldType.object "com/example/demarc/demarc/Propagation"))).before args0 about1 = true := code_word (m := ⟨1, 2⟩) (meth := k1m2) (c := k1c2) (by decide +kernel) rfl rfl rfl (by decide +kernel)
set_option maxRecDepth 65536 in
theorem w_c2 : (Jvm.Cond.code ({ cls := "com/example/demarc/demarc/TransactionDefinitionWithIsolationPinLaw", name := "iso", desc := "(I)Lcom/example/demarc/demarc/Isolation;" } : Jvm.MethodName) method_2_code (2 : Nat) (Option.some (Jvm.ClassFile.FieldType.object "com/example/demarc/demarc/Isolation"))).before args0 about1 = true := code_word (m := ⟨1, 1⟩) (meth := k1m1) (c := k1c1) (by decide +kernel) rfl rfl rfl (by decide +kernel)
set_option maxRecDepth 65536 in
theorem w_c3 : (Jvm.Cond.code ({ cls := "java/lang/String", name := "<init>", desc := "([C)V" } : Jvm.MethodName) jdk_42_method_3_code (2 : Nat) (Option.none : Option Jvm.ClassFile.FieldType)).before args0 about1 = true := code_word (m := ⟨10, 1⟩) (meth := k10m1) (c := k10c1) (by decide +kernel) rfl rfl rfl (by decide +kernel)
set_option maxRecDepth 65536 in
theorem w_c4 : (Jvm.Cond.code ({ cls := "java/lang/String", name := "<init>", desc := "([CIILjava/lang/Void;)V" } : Jvm.MethodName) jdk_42_method_149_code (6 : Nat) (Option.none : Option Jvm.ClassFile.FieldType)).before args0 about1 = true := code_word (m := ⟨10, 3⟩) (meth := k10m3) (c := k10c3) (by decide +kernel) rfl rfl rfl (by decide +kernel)
set_option maxRecDepth 65536 in
theorem w_c5 : (Jvm.Cond.code ({ cls := "java/lang/Object", name := "<init>", desc := "()V" } : Jvm.MethodName) object_method_1_code (1 : Nat) (Option.none : Option Jvm.ClassFile.FieldType)).before args0 about1 = true := code_word (m := ⟨0, 0⟩) (meth := k0m0) (c := k0c0) (by decide +kernel) rfl rfl rfl (by decide +kernel)
set_option maxRecDepth 65536 in
theorem w_c6 : (Jvm.Cond.code ({ cls := "java/lang/StringUTF16", name := "compress", desc := "([CII)[B" } : Jvm.MethodName) jdk_52_method_16_code (6 : Nat) (Option.some (Jvm.ClassFile.FieldType.array Jvm.ClassFile.FieldType.byte))).before args0 about1 = true := code_word (m := ⟨11, 2⟩) (meth := k11m2) (c := k11c2) (by decide +kernel) rfl rfl rfl (by decide +kernel)
set_option maxRecDepth 65536 in
theorem w_c7 : (Jvm.Cond.code ({ cls := "java/lang/StringUTF16", name := "compress", desc := "([CI[BII)I" } : Jvm.MethodName) jdk_52_method_21_code (7 : Nat) (Option.some Jvm.ClassFile.FieldType.int)).before args0 about1 = true := code_word (m := ⟨11, 3⟩) (meth := k11m3) (c := k11c3) (by decide +kernel) rfl rfl rfl (by decide +kernel)
set_option maxRecDepth 65536 in
theorem w_c8 : (Jvm.Cond.code ({ cls := "java/lang/StringUTF16", name := "coderFromArrayLen", desc := "([BI)B" } : Jvm.MethodName) jdk_52_method_15_code (2 : Nat) (Option.some Jvm.ClassFile.FieldType.byte)).before args0 about1 = true := code_word (m := ⟨11, 1⟩) (meth := k11m1) (c := k11c1) (by decide +kernel) rfl rfl rfl (by decide +kernel)
set_option maxRecDepth 65536 in
theorem w_c9 : (Jvm.Cond.code ({ cls := "com/example/demarc/demarc/TransactionDefinition", name := "<init>", desc := "(Lcom/example/demarc/demarc/Propagation;Lcom/example/demarc/demarc/Isolation;IZLjava/lang/String;)V" } : Jvm.MethodName) prog_16_method_1_code (6 : Nat) (Option.none : Option Jvm.ClassFile.FieldType)).before args0 about1 = true := code_word (m := ⟨13, 0⟩) (meth := k13m0) (c := k13c0) (by decide +kernel) rfl rfl rfl (by decide +kernel)
set_option maxRecDepth 65536 in
theorem w_c10 : (Jvm.Cond.code ({ cls := "java/lang/Record", name := "<init>", desc := "()V" } : Jvm.MethodName) jdk_30_method_1_code (1 : Nat) (Option.none : Option Jvm.ClassFile.FieldType)).before args0 about1 = true := code_word (m := ⟨12, 0⟩) (meth := k12m0) (c := k12c0) (by decide +kernel) rfl rfl rfl (by decide +kernel)
set_option maxRecDepth 65536 in
theorem w_c11 : (Jvm.Cond.code ({ cls := "java/util/Objects", name := "requireNonNull", desc := "(Ljava/lang/Object;Ljava/lang/String;)Ljava/lang/Object;" } : Jvm.MethodName) jdk_31_method_11_code (2 : Nat) (Option.some (Jvm.ClassFile.FieldType.object "java/lang/Object"))).before args0 about1 = true := code_word (m := ⟨14, 1⟩) (meth := k14m1) (c := k14c1) (by decide +kernel) rfl rfl rfl (by decide +kernel)
set_option maxRecDepth 65536 in
theorem w_c12 : (Jvm.Cond.code ({ cls := "com/example/demarc/demarc/TransactionDefinition", name := "requireValidTimeout", desc := "(I)I" } : Jvm.MethodName) prog_16_method_2_code (1 : Nat) (Option.some Jvm.ClassFile.FieldType.int)).before args0 about1 = true := code_word (m := ⟨13, 1⟩) (meth := k13m1) (c := k13c1) (by decide +kernel) rfl rfl rfl (by decide +kernel)
set_option maxRecDepth 65536 in
theorem w_c13 : (Jvm.Cond.code ({ cls := "com/example/demarc/demarc/TransactionDefinition", name := "withIsolation", desc := "(Lcom/example/demarc/demarc/Isolation;)Lcom/example/demarc/demarc/TransactionDefinition;" } : Jvm.MethodName) prog_16_method_5_code (2 : Nat) (Option.some (Jvm.ClassFile.FieldType.object "com/example/demarc/demarc/TransactionDefinition"))).before args0 about1 = true := code_word (m := ⟨13, 2⟩) (meth := k13m2) (c := k13c2) (by decide +kernel) rfl rfl rfl (by decide +kernel)
set_option maxRecDepth 65536 in
theorem w_c14 : (Jvm.Cond.code ({ cls := "com/example/demarc/demarc/TransactionDefinition", name := "name", desc := "()Ljava/lang/String;" } : Jvm.MethodName) prog_16_method_16_code (1 : Nat) (Option.some (Jvm.ClassFile.FieldType.object "java/lang/String"))).before args0 about1 = true := code_word (m := ⟨13, 7⟩) (meth := k13m7) (c := k13c7) (by decide +kernel) rfl rfl rfl (by decide +kernel)
set_option maxRecDepth 65536 in
theorem w_c15 : (Jvm.Cond.code ({ cls := "java/lang/String", name := "equals", desc := "(Ljava/lang/Object;)Z" } : Jvm.MethodName) jdk_42_method_66_code (3 : Nat) (Option.some Jvm.ClassFile.FieldType.boolean)).before args0 about1 = true := code_word (m := ⟨10, 2⟩) (meth := k10m2) (c := k10c2) (by decide +kernel) rfl rfl rfl (by decide +kernel)
set_option maxRecDepth 65536 in
theorem w_c16 : (Jvm.Cond.code ({ cls := "com/example/demarc/demarc/TransactionDefinition", name := "isolation", desc := "()Lcom/example/demarc/demarc/Isolation;" } : Jvm.MethodName) prog_16_method_13_code (1 : Nat) (Option.some (Jvm.ClassFile.FieldType.object "com/example/demarc/demarc/Isolation"))).before args0 about1 = true := code_word (m := ⟨13, 4⟩) (meth := k13m4) (c := k13c4) (by decide +kernel) rfl rfl rfl (by decide +kernel)
set_option maxRecDepth 65536 in
theorem w_c17 : (Jvm.Cond.code ({ cls := "com/example/demarc/demarc/TransactionDefinition", name := "propagation", desc := "()Lcom/example/demarc/demarc/Propagation;" } : Jvm.MethodName) prog_16_method_12_code (1 : Nat) (Option.some (Jvm.ClassFile.FieldType.object "com/example/demarc/demarc/Propagation"))).before args0 about1 = true := code_word (m := ⟨13, 3⟩) (meth := k13m3) (c := k13c3) (by decide +kernel) rfl rfl rfl (by decide +kernel)
set_option maxRecDepth 65536 in
theorem w_c18 : (Jvm.Cond.code ({ cls := "com/example/demarc/demarc/TransactionDefinition", name := "timeoutSeconds", desc := "()I" } : Jvm.MethodName) prog_16_method_14_code (1 : Nat) (Option.some Jvm.ClassFile.FieldType.int)).before args0 about1 = true := code_word (m := ⟨13, 5⟩) (meth := k13m5) (c := k13c5) (by decide +kernel) rfl rfl rfl (by decide +kernel)
set_option maxRecDepth 65536 in
theorem w_c19 : (Jvm.Cond.code ({ cls := "com/example/demarc/demarc/TransactionDefinition", name := "readOnly", desc := "()Z" } : Jvm.MethodName) prog_16_method_15_code (1 : Nat) (Option.some Jvm.ClassFile.FieldType.boolean)).before args0 about1 = true := code_word (m := ⟨13, 6⟩) (meth := k13m6) (c := k13c6) (by decide +kernel) rfl rfl rfl (by decide +kernel)
def codes1 : List Jvm.Cond := [Jvm.Cond.code x code maxLocals ret, Jvm.Cond.code ({ cls := "com/example/demarc/demarc/TransactionDefinitionWithIsolationPinLaw", name := "prop", desc := "(I)Lcom/example/demarc/demarc/Propagation;" } : Jvm.MethodName) method_3_code (2 : Nat) (Option.some (Jvm.ClassFile.FieldType.object "com/example/demarc/demarc/Propagation")), Jvm.Cond.code ({ cls := "com/example/demarc/demarc/TransactionDefinitionWithIsolationPinLaw", name := "iso", desc := "(I)Lcom/example/demarc/demarc/Isolation;" } : Jvm.MethodName) method_2_code (2 : Nat) (Option.some (Jvm.ClassFile.FieldType.object "com/example/demarc/demarc/Isolation")), Jvm.Cond.code ({ cls := "java/lang/String", name := "<init>", desc := "([C)V" } : Jvm.MethodName) jdk_42_method_3_code (2 : Nat) (Option.none : Option Jvm.ClassFile.FieldType), Jvm.Cond.code ({ cls := "java/lang/String", name := "<init>", desc := "([CIILjava/lang/Void;)V" } : Jvm.MethodName) jdk_42_method_149_code (6 : Nat) (Option.none : Option Jvm.ClassFile.FieldType), Jvm.Cond.code ({ cls := "java/lang/Object", name := "<init>", desc := "()V" } : Jvm.MethodName) object_method_1_code (1 : Nat) (Option.none : Option Jvm.ClassFile.FieldType), Jvm.Cond.code ({ cls := "java/lang/StringUTF16", name := "compress", desc := "([CII)[B" } : Jvm.MethodName) jdk_52_method_16_code (6 : Nat) (Option.some (Jvm.ClassFile.FieldType.array Jvm.ClassFile.FieldType.byte)), Jvm.Cond.code ({ cls := "java/lang/StringUTF16", name := "compress", desc := "([CI[BII)I" } : Jvm.MethodName) jdk_52_method_21_code (7 : Nat) (Option.some Jvm.ClassFile.FieldType.int), Jvm.Cond.code ({ cls := "java/lang/StringUTF16", name := "coderFromArrayLen", desc := "([BI)B" } : Jvm.MethodName) jdk_52_method_15_code (2 : Nat) (Option.some Jvm.ClassFile.FieldType.byte), Jvm.Cond.code ({ cls := "com/example/demarc/demarc/TransactionDefinition", name := "<init>", desc := "(Lcom/example/demarc/demarc/Propagation;Lcom/example/demarc/demarc/Isolation;IZLjava/lang/String;)V" } : Jvm.MethodName) prog_16_method_1_code (6 : Nat) (Option.none : Option Jvm.ClassFile.FieldType), Jvm.Cond.code ({ cls := "java/lang/Record", name := "<init>", desc := "()V" } : Jvm.MethodName) jdk_30_method_1_code (1 : Nat) (Option.none : Option Jvm.ClassFile.FieldType), Jvm.Cond.code ({ cls := "java/util/Objects", name := "requireNonNull", desc := "(Ljava/lang/Object;Ljava/lang/String;)Ljava/lang/Object;" } : Jvm.MethodName) jdk_31_method_11_code (2 : Nat) (Option.some (Jvm.ClassFile.FieldType.object "java/lang/Object")), Jvm.Cond.code ({ cls := "com/example/demarc/demarc/TransactionDefinition", name := "requireValidTimeout", desc := "(I)I" } : Jvm.MethodName) prog_16_method_2_code (1 : Nat) (Option.some Jvm.ClassFile.FieldType.int), Jvm.Cond.code ({ cls := "com/example/demarc/demarc/TransactionDefinition", name := "withIsolation", desc := "(Lcom/example/demarc/demarc/Isolation;)Lcom/example/demarc/demarc/TransactionDefinition;" } : Jvm.MethodName) prog_16_method_5_code (2 : Nat) (Option.some (Jvm.ClassFile.FieldType.object "com/example/demarc/demarc/TransactionDefinition")), Jvm.Cond.code ({ cls := "com/example/demarc/demarc/TransactionDefinition", name := "name", desc := "()Ljava/lang/String;" } : Jvm.MethodName) prog_16_method_16_code (1 : Nat) (Option.some (Jvm.ClassFile.FieldType.object "java/lang/String")), Jvm.Cond.code ({ cls := "java/lang/String", name := "equals", desc := "(Ljava/lang/Object;)Z" } : Jvm.MethodName) jdk_42_method_66_code (3 : Nat) (Option.some Jvm.ClassFile.FieldType.boolean), Jvm.Cond.code ({ cls := "com/example/demarc/demarc/TransactionDefinition", name := "isolation", desc := "()Lcom/example/demarc/demarc/Isolation;" } : Jvm.MethodName) prog_16_method_13_code (1 : Nat) (Option.some (Jvm.ClassFile.FieldType.object "com/example/demarc/demarc/Isolation")), Jvm.Cond.code ({ cls := "com/example/demarc/demarc/TransactionDefinition", name := "propagation", desc := "()Lcom/example/demarc/demarc/Propagation;" } : Jvm.MethodName) prog_16_method_12_code (1 : Nat) (Option.some (Jvm.ClassFile.FieldType.object "com/example/demarc/demarc/Propagation")), Jvm.Cond.code ({ cls := "com/example/demarc/demarc/TransactionDefinition", name := "timeoutSeconds", desc := "()I" } : Jvm.MethodName) prog_16_method_14_code (1 : Nat) (Option.some Jvm.ClassFile.FieldType.int), Jvm.Cond.code ({ cls := "com/example/demarc/demarc/TransactionDefinition", name := "readOnly", desc := "()Z" } : Jvm.MethodName) prog_16_method_15_code (1 : Nat) (Option.some Jvm.ClassFile.FieldType.boolean)]
set_option maxRecDepth 65536 in
theorem codes_eq : words1.filter isCode = codes1 := rfl
theorem w_codes : ∀ c ∈ words1.filter isCode, c.before args0 about1 = true := by
  rw [codes_eq]
  intro c hc
  simp only [codes1, List.mem_cons, List.not_mem_nil, or_false] at hc
  rcases hc with rfl | rfl | rfl | rfl | rfl | rfl | rfl | rfl | rfl | rfl | rfl | rfl | rfl | rfl | rfl | rfl | rfl | rfl | rfl | rfl
  · exact w_c0
  · exact w_c1
  · exact w_c2
  · exact w_c3
  · exact w_c4
  · exact w_c5
  · exact w_c6
  · exact w_c7
  · exact w_c8
  · exact w_c9
  · exact w_c10
  · exact w_c11
  · exact w_c12
  · exact w_c13
  · exact w_c14
  · exact w_c15
  · exact w_c16
  · exact w_c17
  · exact w_c18
  · exact w_c19
set_option maxRecDepth 65536 in
theorem w_t1 : (words1.take 24).all (fun c => isCode c || c.before args0 about1) = true := by decide +kernel
set_option maxRecDepth 65536 in
theorem w_t2 : ((words1.drop 24).take 24).all (fun c => isCode c || c.before args0 about1) = true := by decide +kernel
set_option maxRecDepth 65536 in
theorem w_t3 : (((words1.drop 24).drop 24).take 24).all (fun c => isCode c || c.before args0 about1) = true := by decide +kernel
set_option maxRecDepth 65536 in
theorem w_t4 : ((((words1.drop 24).drop 24).drop 24).take 24).all (fun c => isCode c || c.before args0 about1) = true := by decide +kernel
set_option maxRecDepth 65536 in
theorem w_t5 : (((((words1.drop 24).drop 24).drop 24).drop 24).take 24).all (fun c => isCode c || c.before args0 about1) = true := by decide +kernel
set_option maxRecDepth 65536 in
theorem w_t6 : (((((words1.drop 24).drop 24).drop 24).drop 24).drop 24).all (fun c => isCode c || c.before args0 about1) = true := by decide +kernel
theorem w_tables : (allAtoms (Jvm.Cond.code x code maxLocals ret :: tables_1)).before args0 about1 = true := by
  rw [allAtoms_all]
  show words1.all (fun c => c.before args0 about1) = true
  refine all_split ?_ w_codes
  rw [← List.take_append_drop 24 words1, List.all_append, w_t1, ← List.take_append_drop 24 (words1.drop 24), List.all_append, w_t2, ← List.take_append_drop 24 ((words1.drop 24).drop 24), List.all_append, w_t3, ← List.take_append_drop 24 (((words1.drop 24).drop 24).drop 24), List.all_append, w_t4, ← List.take_append_drop 24 ((((words1.drop 24).drop 24).drop 24).drop 24), List.all_append, w_t5, w_t6]
  rfl
set_option maxRecDepth 65536 in
theorem w_rest : rest_1_c.before args0 about1 = true := by decide +kernel
set_option maxRecDepth 65536 in
theorem w_case : (Jvm.Cond.and given_1 narrow_1).before args0 about1 = true := by decide +kernel
theorem w_applies : (headSpec (Jvm.Cond.code x code maxLocals ret :: tables_1) room_1).applies x e0.platform about1 = true :=
  (Spec.applies_iff w_frames).mpr ⟨w_running, w_runnable, w_alone, w_named, w_hears, w_ripe, w_room, w_tables⟩
theorem atStart : AtStart classFile x code maxLocals ret World_1 tables_1 room_1 Calls_1 rest_1 Pre_1 launch0 p0 e0 about1 theMethod args0 below0 :=
  ⟨lists_1, trivial, launch0.admits_env _ _ _, launch0.least_env, fairChoices_fair.cas, fairChoices_fair.clock, w_frames, w_args, w_heap, w_applies, trivial, w_rest, w_case⟩
end start1
theorem witness_1 : WitnessClaimed_1 := ⟨start1.p0, start1.e0, start1.about1, start1.theMethod, start1.args0, start1.below0, start1.atStart⟩
end Jvm.Pilot.@@N@@
