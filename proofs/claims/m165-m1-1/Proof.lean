import JvmDerived
import JvmDerived.Pilot.@@N@@Statement
import JvmDerived.Pilot.@@N@@Code
set_option linter.unusedVariables false
set_option linter.unusedSimpArgs false
@@BLOCK:NumsL.lean.txt@@
namespace Jvm.RoadKit
open Sem ClassFile Op Lib Jvm.Stand Jvm.Free Jvm.LawKit
section Own
variable {p : Program} {l : Launch} {e : Env} {R : Room} {s : State} {m : MethodId} {args : Array Value} {below : List Frame} {meth : Method} {c : Code} {T : State} {locs : List Loc} {cells slots : Nat}
def own_Go (p : Program) (e : Env) (below : List Frame) (F : Outcome → State → Prop) (U : State) : Prop := ∃ s₂ o, Steps p.tables e below U s₂ ∧ s₂.status = .running ∧ Ended s₂ below o ∧ F o s₂
def own_Fin (s : State) (C S : Nat) (Q : Option Value → Heap → List Loc → Prop) (o : Outcome) (U' : State) : Prop := ∃ v L, o = .returned v ∧ Q v U'.heap L ∧ FrameEnd s o U' L C S
theorem own_go {F : Outcome → State → Prop} {U U' : State} (h : ∀ t, Steps p.tables e below U' t → Steps p.tables e below U t) (g : own_Go p e below F U') : own_Go p e below F U := by
  obtain ⟨s₂, o, h1, h2⟩ := g
  exact ⟨s₂, o, h _ h1, h2⟩
theorem own_cast {F : Outcome → State → Prop} {g g' : JFrame} (q : g = g') (k : own_Go p e below F (T.setTop g')) : own_Go p e below F (T.setTop g) := q ▸ k
theorem own_ret (X : Stand p l e R s m args below meth c T locs cells slots) (hx : p.tables.exec = Jvm.exec) (hlk : meth.locks = false) {pc : Nat} {Ls : Array Slot} {w : Value} {t : FieldType} {i : Instr} {rest : List Value} (hret : meth.sig.returnType = some t) (hn : narrow t w = w)
    (hi : (i = .ireturn ∧ (t = .int ∨ t = .boolean ∨ t = .byte ∨ t = .char ∨ t = .short) ∧ ∃ z, w = .int z) ∨ (i = .lreturn ∧ t = .long ∧ ∃ z, w = .long z) ∨ (i = .dreturn ∧ t = .double ∧ ∃ z, w = .double z) ∨ (i = .freturn ∧ t = .float ∧ ∃ z, w = .float z) ∨ (i = .areturn ∧ t.isReference = true ∧ w.isRef = true))
    (hd : decode c.code pc = .ok (i, 1)) {Q : Option Value → Heap → List Loc → Prop} (hQ : Q (some w) T.heap locs) {C S : Nat} (hc : cells ≤ C) (hs : slots ≤ S) : own_Go p e below (own_Fin s C S Q) (T.setTop (mkF m pc Ls (w :: rest))) := by
  obtain ⟨fs, hr, hrun, hended, hW, hsame⟩ := X.leave (v := some w) (fun h => by rw [hret] at h; cases h) hlk
  exact ⟨_, _, retOut X hx hret hn hi hd hr, hrun, hended, _, _, rfl, hQ, ⟨_, rfl⟩, hW, hsame.mono hc hs⟩
theorem own_retN (X : Stand p l e R s m args below meth c T locs cells slots) (hx : p.tables.exec = Jvm.exec) (hlk : meth.locks = false) {pc : Nat} {Ls : Array Slot} {z : Int32} {t : FieldType} {rest : List Value} (hret : meth.sig.returnType = some t) (ht : t = .boolean ∨ t = .byte ∨ t = .char ∨ t = .short)
    (hd : decode c.code pc = .ok (.ireturn, 1)) {Q : Option Value → Heap → List Loc → Prop} (hQ : Q (some (.int (nar t z))) T.heap locs) {C S : Nat} (hc : cells ≤ C) (hs : slots ≤ S) : own_Go p e below (own_Fin s C S Q) (T.setTop (mkF m pc Ls (.int z :: rest))) := by
  obtain ⟨fs, hr, hrun, hended, hW, hsame⟩ := X.leave (v := some (.int (nar t z))) (fun h => by rw [hret] at h; cases h) hlk
  exact ⟨_, _, retN X hx hret ht hd hr, hrun, hended, _, _, rfl, hQ, ⟨_, rfl⟩, hW, hsame.mono hc hs⟩
theorem own_retV (X : Stand p l e R s m args below meth c T locs cells slots) (hx : p.tables.exec = Jvm.exec) (hlk : meth.locks = false) {pc : Nat} {Ls : Array Slot} (hret : meth.sig.returnType = none)
    (hd : decode c.code pc = .ok (.return_, 1)) {Q : Option Value → Heap → List Loc → Prop} (hQ : Q none T.heap locs) {C S : Nat} (hc : cells ≤ C) (hs : slots ≤ S) : own_Go p e below (own_Fin s C S Q) (T.setTop (mkF m pc Ls [])) := by
  obtain ⟨fs, hr, hrun, hended, hW, hsame⟩ := X.leave (v := none) (fun _ => rfl) hlk
  exact ⟨_, _, X.returnOut hx hret hd hr, hrun, hended, _, _, rfl, hQ, ⟨_, rfl⟩, hW, hsame.mono hc hs⟩
def own_FinW (s : State) (C S : Nat) (Q : Option Value → Heap → List Loc → Prop) (o : Outcome) (U' : State) : Prop := ∃ v L, o = .returned v ∧ Q v U'.heap L ∧ ReturnedEndW s o U' L C S
theorem own_monoW {t : State} {o : Outcome} {L : List Loc} {k n C S : Nat} (h : ReturnedEndW s o t L k n) (hc : k ≤ C) (hs : n ≤ S) : ReturnedEndW s o t L C S := ⟨h.1, h.2.1, h.2.2.1, h.2.2.2.mono hc hs⟩
theorem own_retW {vm₁ : Vm} (X : Stand p l e R (s.setVm vm₁) m args below meth c T locs cells slots) (hx : p.tables.exec = Jvm.exec) {n : Nat} (hS : s.Since vm₁ n) (hk : n ≤ T.heap.size) (hlk : meth.locks = false) {pc : Nat} {Ls : Array Slot} {w : Value} {t : FieldType} {i : Instr} {rest : List Value} (hret : meth.sig.returnType = some t) (hn : narrow t w = w)
    (hi : (i = .ireturn ∧ (t = .int ∨ t = .boolean ∨ t = .byte ∨ t = .char ∨ t = .short) ∧ ∃ z, w = .int z) ∨ (i = .lreturn ∧ t = .long ∧ ∃ z, w = .long z) ∨ (i = .dreturn ∧ t = .double ∧ ∃ z, w = .double z) ∨ (i = .freturn ∧ t = .float ∧ ∃ z, w = .float z) ∨ (i = .areturn ∧ t.isReference = true ∧ w.isRef = true))
    (hd : decode c.code pc = .ok (i, 1)) {Q : Option Value → Heap → List Loc → Prop} (hQ : Q (some w) T.heap locs) {C S : Nat} (hc : cells ≤ C) (hs : slots ≤ S) : own_Go p e below (own_FinW s C S Q) (T.setTop (mkF m pc Ls (w :: rest))) := by
  obtain ⟨fs, hr, hrun, hended, hW⟩ := X.leaveW hS hk (v := some w) (fun h => by rw [hret] at h; cases h) hlk
  exact ⟨_, _, retOut X hx hret hn hi hd hr, hrun, hended, _, _, rfl, hQ, own_monoW hW hc hs⟩
theorem own_retNW {vm₁ : Vm} (X : Stand p l e R (s.setVm vm₁) m args below meth c T locs cells slots) (hx : p.tables.exec = Jvm.exec) {n : Nat} (hS : s.Since vm₁ n) (hk : n ≤ T.heap.size) (hlk : meth.locks = false) {pc : Nat} {Ls : Array Slot} {z : Int32} {t : FieldType} {rest : List Value} (hret : meth.sig.returnType = some t) (ht : t = .boolean ∨ t = .byte ∨ t = .char ∨ t = .short)
    (hd : decode c.code pc = .ok (.ireturn, 1)) {Q : Option Value → Heap → List Loc → Prop} (hQ : Q (some (.int (nar t z))) T.heap locs) {C S : Nat} (hc : cells ≤ C) (hs : slots ≤ S) : own_Go p e below (own_FinW s C S Q) (T.setTop (mkF m pc Ls (.int z :: rest))) := by
  obtain ⟨fs, hr, hrun, hended, hW⟩ := X.leaveW hS hk (v := some (.int (nar t z))) (fun h => by rw [hret] at h; cases h) hlk
  exact ⟨_, _, retN X hx hret ht hd hr, hrun, hended, _, _, rfl, hQ, own_monoW hW hc hs⟩
theorem own_retVW {vm₁ : Vm} (X : Stand p l e R (s.setVm vm₁) m args below meth c T locs cells slots) (hx : p.tables.exec = Jvm.exec) {n : Nat} (hS : s.Since vm₁ n) (hk : n ≤ T.heap.size) (hlk : meth.locks = false) {pc : Nat} {Ls : Array Slot} (hret : meth.sig.returnType = none)
    (hd : decode c.code pc = .ok (.return_, 1)) {Q : Option Value → Heap → List Loc → Prop} (hQ : Q none T.heap locs) {C S : Nat} (hc : cells ≤ C) (hs : slots ≤ S) : own_Go p e below (own_FinW s C S Q) (T.setTop (mkF m pc Ls [])) := by
  obtain ⟨fs, hr, hrun, hended, hW⟩ := X.leaveW hS hk (v := none) (fun _ => rfl) hlk
  exact ⟨_, _, X.returnOut hx hret hd hr, hrun, hended, _, _, rfl, hQ, own_monoW hW hc hs⟩
def own_FinH (Z : State) (EL : List (String × Nat)) (s : State) (C S : Nat) (Q : Option Value → Heap → List Loc → Prop) (o : Outcome) (U' : State) : Prop := ∃ v L, o = .returned v ∧ Q v U'.heap L ∧ CHr Z EL s.vm s.heap U'.vm U'.heap ∧ ReturnedEndW s o U' L C S
theorem own_retH {Z : State} {EL : List (String × Nat)} {vm₁ : Vm} (X : Stand p l e R (s.setVm vm₁) m args below meth c T locs cells slots) (hx : p.tables.exec = Jvm.exec) {n : Nat} (hS : s.Since vm₁ n) (hk : n ≤ T.heap.size) (hC : CHr Z EL s.vm s.heap T.vm T.heap) (hlk : meth.locks = false) {pc : Nat} {Ls : Array Slot} {w : Value} {t : FieldType} {i : Instr} {rest : List Value} (hret : meth.sig.returnType = some t) (hn : narrow t w = w)
    (hi : (i = .ireturn ∧ (t = .int ∨ t = .boolean ∨ t = .byte ∨ t = .char ∨ t = .short) ∧ ∃ z, w = .int z) ∨ (i = .lreturn ∧ t = .long ∧ ∃ z, w = .long z) ∨ (i = .dreturn ∧ t = .double ∧ ∃ z, w = .double z) ∨ (i = .freturn ∧ t = .float ∧ ∃ z, w = .float z) ∨ (i = .areturn ∧ t.isReference = true ∧ w.isRef = true))
    (hd : decode c.code pc = .ok (i, 1)) {Q : Option Value → Heap → List Loc → Prop} (hQ : Q (some w) T.heap locs) {C S : Nat} (hc : cells ≤ C) (hs : slots ≤ S) : own_Go p e below (own_FinH Z EL s C S Q) (T.setTop (mkF m pc Ls (w :: rest))) := by
  obtain ⟨fs, hr, hrun, hended, hW⟩ := X.leaveW hS hk (v := some w) (fun h => by rw [hret] at h; cases h) hlk
  exact ⟨_, _, retOut X hx hret hn hi hd hr, hrun, hended, _, _, rfl, hQ, hC, own_monoW hW hc hs⟩
theorem own_retNH {Z : State} {EL : List (String × Nat)} {vm₁ : Vm} (X : Stand p l e R (s.setVm vm₁) m args below meth c T locs cells slots) (hx : p.tables.exec = Jvm.exec) {n : Nat} (hS : s.Since vm₁ n) (hk : n ≤ T.heap.size) (hC : CHr Z EL s.vm s.heap T.vm T.heap) (hlk : meth.locks = false) {pc : Nat} {Ls : Array Slot} {z : Int32} {t : FieldType} {rest : List Value} (hret : meth.sig.returnType = some t) (ht : t = .boolean ∨ t = .byte ∨ t = .char ∨ t = .short)
    (hd : decode c.code pc = .ok (.ireturn, 1)) {Q : Option Value → Heap → List Loc → Prop} (hQ : Q (some (.int (nar t z))) T.heap locs) {C S : Nat} (hc : cells ≤ C) (hs : slots ≤ S) : own_Go p e below (own_FinH Z EL s C S Q) (T.setTop (mkF m pc Ls (.int z :: rest))) := by
  obtain ⟨fs, hr, hrun, hended, hW⟩ := X.leaveW hS hk (v := some (.int (nar t z))) (fun h => by rw [hret] at h; cases h) hlk
  exact ⟨_, _, retN X hx hret ht hd hr, hrun, hended, _, _, rfl, hQ, hC, own_monoW hW hc hs⟩
theorem own_retVH {Z : State} {EL : List (String × Nat)} {vm₁ : Vm} (X : Stand p l e R (s.setVm vm₁) m args below meth c T locs cells slots) (hx : p.tables.exec = Jvm.exec) {n : Nat} (hS : s.Since vm₁ n) (hk : n ≤ T.heap.size) (hC : CHr Z EL s.vm s.heap T.vm T.heap) (hlk : meth.locks = false) {pc : Nat} {Ls : Array Slot} (hret : meth.sig.returnType = none)
    (hd : decode c.code pc = .ok (.return_, 1)) {Q : Option Value → Heap → List Loc → Prop} (hQ : Q none T.heap locs) {C S : Nat} (hc : cells ≤ C) (hs : slots ≤ S) : own_Go p e below (own_FinH Z EL s C S Q) (T.setTop (mkF m pc Ls [])) := by
  obtain ⟨fs, hr, hrun, hended, hW⟩ := X.leaveW hS hk (v := none) (fun _ => rfl) hlk
  exact ⟨_, _, X.returnOut hx hret hd hr, hrun, hended, _, _, rfl, hQ, hC, own_monoW hW hc hs⟩
theorem own_safe_null {Z : State} {EL : List (String × Nat)} {vm : Vm} {h : Heap} {x : Addr} (hal : Z.vm.Alike vm) (E : Exa Z h x "java/lang/String") (F : Fld Z h x "java/lang/String" "value" "[B" .null) : Safe Z EL vm h x := fun B => by
  obtain ⟨p, -, u, a, -, q, -, G, rfl | rfl⟩ := B
  · obtain ⟨cell, cf, k, i, f, f1, f2, -, -, -, -, f7⟩ := F
    cases (show h[q.sa]? = some q.sC from G.ha).symm.trans f1
    obtain ⟨cS, ⟨⟨-, -, -, ⟨cv, kv, iv, s4, -⟩, -, -, -, s8, -⟩, -⟩, -⟩ := G
    obtain ⟨k', hi, -⟩ := State.fieldFound?_setVm (s := Z) hal f2
    have s4' : (Z.setVm vm).fieldFound? "java/lang/String" "value" "[B" = some (cv, kv, iv, q.fSV) := s4
    cases hi.symm.trans s4'
    rw [f7] at s8
    cases s8
  · obtain ⟨cell, k, e1, e2, e3, -, -⟩ := E
    cases (show h[q.sd]? = some q.SA from G.hd).symm.trans e1
    obtain ⟨cS, -, -, f, -⟩ := G
    have f' : vm.findClass "[B" = some q.SA.cls := f
    rw [hal.findClass] at f'
    obtain ⟨k1, q1, q2⟩ := Vm.findClass_spec f'
    obtain ⟨k2, q3, q4⟩ := Vm.findClass_spec e2
    cases q1.symm.trans q3
    exact absurd (q2.symm.trans q4) (by decide)
def own_Met (l : Launch) (Z : State) (y : MethodName) (bytes : ByteArray) (maxL : Nat) (ret : Option FieldType) (ws : List Jvm.Cond) (rm : Room) (as : Array Value) (h0 : Heap) (Q : Option Value → Heap → List Loc → Prop) : Prop :=
  MetFree l y (head1 (Jvm.Cond.code y bytes maxL ret :: ws) rm) (fun a U => a = as ∧ Z.Warmed39 U.vm ∧ U.heap = h0) (fun _ _ _ _ _ => True) (fun _ U o U' => ∃ v L, o = .returned v ∧ Q v U'.heap L ∧ FrameEnd U o U' L rm.cells rm.slots)
def own_MetW (l : Launch) (Z : State) (y : MethodName) (bytes : ByteArray) (maxL : Nat) (ret : Option FieldType) (ws : List Jvm.Cond) (rm : Room) (as : Array Value) (h0 : Heap) (Q : Option Value → Heap → List Loc → Prop) : Prop :=
  MetFree l y (head1 (Jvm.Cond.code y bytes maxL ret :: ws) rm) (fun a U => a = as ∧ Z.Warmed39 U.vm ∧ U.heap = h0) (fun _ _ _ _ _ => True) (fun _ U o U' => ∃ v L, o = .returned v ∧ Q v U'.heap L ∧ ReturnedEndW U o U' L rm.cells rm.slots)
def own_MetH (l : Launch) (Z : State) (EL : List (String × Nat)) (y : MethodName) (bytes : ByteArray) (maxL : Nat) (ret : Option FieldType) (ws : List Jvm.Cond) (rm : Room) (as : Array Value) (h0 : Heap) (Q : Option Value → Heap → List Loc → Prop) : Prop :=
  MetFree l y (head1 (Jvm.Cond.code y bytes maxL ret :: ws) rm) (fun a U => a = as ∧ Z.Warmed39 U.vm ∧ U.heap = h0 ∧ CHv Z EL U.vm h0) (fun _ _ _ _ _ => True) (fun _ U o U' => ∃ v L, o = .returned v ∧ Q v U'.heap L ∧ CHr Z EL U.vm U.heap U'.vm U'.heap ∧ ReturnedEndW U o U' L rm.cells rm.slots)
theorem own_enter {Z : State} {y : MethodName} {bytes : ByteArray} {maxL : Nat} {ret : Option FieldType} {ws : List Jvm.Cond} {rm : Room} {as : Array Value} {h0 : Heap} {Q : Option Value → Heap → List Loc → Prop} {own : String} (hpl : plainFor y = true) (ho : y.cls = own)
    (H : ∀ (p : Program) (e : Env) (s : State) (m : MethodId) (below : List Frame) (meth : Method) (c : Code) (s₁ : State), meth.locks = false → meth.sig.returnType = ret → p.tables.exec = Jvm.exec → c.code = bytes → c.maxLocals = maxL → s.vm.findClass own = some m.cls → meth.name = y.name → Z.Warmed39 s.vm → Stand p l e rm s m as below meth c s₁ [] 0 0 → s₁.heap = h0 → own_Go p e below (own_Fin s rm.cells rm.slots Q) (s₁.setTop (entryFrame m as maxL))) :
    own_Met l Z y bytes maxL ret ws rm as h0 Q := by
  refine MetFree.of_bodySF hpl hisR ?_
  intro p e s m args below meth c s₁ Bd hml0 hP hK
  obtain ⟨rfl, hZ, hh⟩ := hP
  subst ho
  exact H p e s m below meth c s₁ Bd.notSynchronized Bd.returns Bd.exec Bd.bytes hml0 (findClass_of_methodNamed Bd.named) (name_of_methodNamed Bd.named Bd.method).1 hZ (Stand.of_body Bd) (by rw [← hh, Bd.state]; rfl)
theorem own_enterW {Z : State} {y : MethodName} {bytes : ByteArray} {maxL : Nat} {ret : Option FieldType} {ws : List Jvm.Cond} {rm : Room} {as : Array Value} {h0 : Heap} {Q : Option Value → Heap → List Loc → Prop} {own : String} (hpl : plainFor y = true) (ho : y.cls = own)
    (H : ∀ (p : Program) (e : Env) (s : State) (m : MethodId) (below : List Frame) (meth : Method) (c : Code) (s₁ : State), meth.locks = false → meth.sig.returnType = ret → p.tables.exec = Jvm.exec → c.code = bytes → c.maxLocals = maxL → s.vm.findClass own = some m.cls → meth.name = y.name → Z.Warmed39 s.vm → Stand p l e rm (s.setVm s.vm) m as below meth c s₁ [] 0 0 → s₁.heap = h0 → own_Go p e below (own_FinW s rm.cells rm.slots Q) (s₁.setTop (entryFrame m as maxL))) :
    own_MetW l Z y bytes maxL ret ws rm as h0 Q := by
  refine MetFree.of_bodySF hpl hisR ?_
  intro p e s m args below meth c s₁ Bd hml0 hP hK
  obtain ⟨rfl, hZ, hh⟩ := hP
  subst ho
  exact H p e s m below meth c s₁ Bd.notSynchronized Bd.returns Bd.exec Bd.bytes hml0 (findClass_of_methodNamed Bd.named) (name_of_methodNamed Bd.named Bd.method).1 hZ (Stand.of_body Bd) (by rw [← hh, Bd.state]; rfl)
theorem own_enterH {Z : State} {EL : List (String × Nat)} {y : MethodName} {bytes : ByteArray} {maxL : Nat} {ret : Option FieldType} {ws : List Jvm.Cond} {rm : Room} {as : Array Value} {h0 : Heap} {Q : Option Value → Heap → List Loc → Prop} {own : String} (hpl : plainFor y = true) (ho : y.cls = own)
    (H : ∀ (p : Program) (e : Env) (s : State) (m : MethodId) (below : List Frame) (meth : Method) (c : Code) (s₁ : State), meth.locks = false → meth.sig.returnType = ret → p.tables.exec = Jvm.exec → c.code = bytes → c.maxLocals = maxL → s.vm.findClass own = some m.cls → meth.name = y.name → Z.Warmed39 s.vm → s.heap = h0 → CHv Z EL s.vm h0 → Stand p l e rm (s.setVm s.vm) m as below meth c s₁ [] 0 0 → s₁.heap = h0 → own_Go p e below (own_FinH Z EL s rm.cells rm.slots Q) (s₁.setTop (entryFrame m as maxL))) :
    own_MetH l Z EL y bytes maxL ret ws rm as h0 Q := by
  refine MetFree.of_bodySF hpl hisR ?_
  intro p e s m args below meth c s₁ Bd hml0 hP hK
  obtain ⟨rfl, hZ, hh, hH⟩ := hP
  subst ho
  exact H p e s m below meth c s₁ Bd.notSynchronized Bd.returns Bd.exec Bd.bytes hml0 (findClass_of_methodNamed Bd.named) (name_of_methodNamed Bd.named Bd.method).1 hZ hh hH (Stand.of_body Bd) (by rw [← hh, Bd.state]; rfl)
end Own
end Jvm.RoadKit
namespace Jvm.Pilot.@@N@@
open Jvm Jvm.ClassFile Sem Op Lib Jvm.Free Jvm.Stand Jvm.LawKit Jvm.RoadKit Bundle Jvm.Pilot.@@N@@.Jvm.D
section Own
variable {t u : Term} {C n d : String} {a b : Addr} {z j : Int32} {args : Array Value} {s : State} {cl : Cell} {ty : FieldType}
theorem own_cmp_int (h : (Jvm.Cond.eq t (Term.int z)).value args s none s [] = some true) : t.eval args s none [] s = some (.int z) := by
  have e2 : (Term.int z).eval args s none [] s = some (.int z) := Term.int_eval z
  obtain ⟨u, w, f1, f2, k1, k2⟩ := cmp_v (Or.inl h)
  cases f2.symm.trans e2
  obtain ⟨q, rfl⟩ : ∃ q, u = .int q := k2
  have : (Jvm.Cond.eq t (Term.int z)).value args s none s [] = some (decide (q = z)) := by simp [Cond.value, f1, e2]
  rw [f1, gotT this h]
theorem own_fld (ht : t.eval args s none [] s = some (.ref a)) (h : (Jvm.Cond.eq (Term.field t C n d) (Term.int z)).value args s none s [] = some true) : Fld s s.heap a C n d (.int z) :=
  Fld.start ((fld_at ht).symm.trans (own_cmp_int h))
theorem own_fldR (ht : t.eval args s none [] s = some (.ref a)) (h : (Term.field t C n d).eval args s none [] s = some (.ref b)) : Fld s s.heap a C n d (.ref b) :=
  Fld.start ((fld_at ht).symm.trans h)
theorem own_len (ht : t.eval args s none [] s = some (.ref a)) (A : Arr s s.heap a cl ty) (h : (Jvm.Cond.eq (Term.length t) (Term.int z)).value args s none s [] = some true) : cl.slots.size < 2 ^ 31 ∧ cl.slots.size.toInt32 = z := by
  have e := own_cmp_int h
  have ha : s.arrayAt? a = some cl := A.fin (Vm.Alike.refl _)
  simp only [Term.eval, ht, ha, Option.bind_eq_bind, Option.bind_some] at e
  split at e
  · rename_i q
    cases e
    exact ⟨q, rfl⟩
  · cases e
theorem own_el (ht : t.eval args s none [] s = some (.ref a)) (A : Arr s s.heap a cl ty) (h : (Jvm.Cond.eq (Term.elem t (Term.int j)) (Term.int z)).value args s none s [] = some true) : cl.slots[j.toNatClampNeg]? = some (.int z) :=
  (elem_in (own_cmp_int h) ht (Term.int_eval j) A.1).2
theorem own_elR (hu : u.eval args s none [] s = some (.ref b)) (ht : t.eval args s none [] s = some (.ref a)) (A : Arr s s.heap a cl ty) (h : (Jvm.Cond.eq (Term.elem t (Term.int j)) u).value args s none s [] = some true) : cl.slots[j.toNatClampNeg]? = some (.ref b) := by
  obtain ⟨x, w, f1, f2, k1, k2⟩ := cmp_v (Or.inl h)
  cases f2.symm.trans hu
  have hx : x.isRef = true := k2.2
  have q := gotT (eq_R f1 hu hx rfl) h
  subst q
  exact (elem_in f1 ht (Term.int_eval j) A.1).2
end Own

theorem own_wS {Z : State} {a0 : Array Value} (hw : ∀ d ∈ tables_1, d.before a0 Z = true) : ∀ a ∈ Bundle.stringAtoms, a.before a0 Z = true := by
  intro a ha
  simp only [Bundle.stringAtoms, List.mem_cons, List.not_mem_nil, or_false] at ha
  rcases ha with rfl | rfl | rfl | rfl | rfl | rfl | rfl
  all_goals first | exact hw _ (List.mem_of_getElem? (i := 14) rfl) | exact hw _ (List.mem_of_getElem? (i := 15) rfl) | exact hw _ (List.mem_of_getElem? (i := 16) rfl) | exact hw _ (List.mem_of_getElem? (i := 17) rfl) | exact hw _ (List.mem_of_getElem? (i := 18) rfl) | exact hw _ (List.mem_of_getElem? (i := 19) rfl) | exact hw _ (List.mem_of_getElem? (i := 20) rfl)
def own_kind (k : Int32) (u0 u1 u2 : Addr) : Addr := if k = 0 then u0 else if k = 1 then u1 else u2
def own_waits (a b : Int32) : Int32 := if a = 0 then 1 else if b = 0 then 1 else 0
theorem own_three (x : Int32) : (x &&& 2147483647) % 3 = 0 ∨ (x &&& 2147483647) % 3 = 1 ∨ (x &&& 2147483647) % 3 = 2 := by
  have h1 : (x &&& 2147483647).toInt = x.toInt % 2 ^ 31 := Jvm.Kit.i32_mask x 2147483647 (k := 31) (by decide) (by decide)
  have h2 : ((x &&& 2147483647) % 3).toInt = (x &&& 2147483647).toInt % (3 : Int32).toInt := Jvm.Kit.i32_rem_nonneg (by rw [h1]; omega)
  have h3 : (3 : Int32).toInt = 3 := rfl
  rw [h3] at h2
  generalize (x &&& 2147483647) % 3 = k at h2 ⊢
  have h4 : 0 ≤ k.toInt ∧ k.toInt ≤ 2 := by omega
  have h5 : k = Int32.ofInt k.toInt := (Int32.ofInt_toInt k).symm
  have h6 : k.toInt = 0 ∨ k.toInt = 1 ∨ k.toInt = 2 := by omega
  rcases h6 with h | h | h <;> rw [h] at h5 <;> subst h5 <;> decide
def Q_kind (iv : Int32) (u0 u1 u2 : Addr) (h0 : Heap) (n0 : Nat) (v : Option Value) (h : Heap) (L : List Loc) : Prop := v = some (.ref (own_kind iv u0 u1 u2)) ∧ Fr n0 L ∧ h = h0
theorem ef_kind (m : MethodId) (iv : Int32) : entryFrame m #[(.int iv)] 1 = mkF m 0 #[.val (.int iv)] [] := by first | (simp [entryFrame, mkF, argsToLocals, Value.category]; done) | rfl
theorem pn_0 : plainName "com/example/mangga/mangga/queue/KindWaitsBehindPinLaw" = true := by first | (simp [plainName, overriddenIn]; done) | decide +kernel
theorem d_2_0 : decode method_2_code 0 = .ok (.iload_n 0, 1) := by decide +kernel
theorem d_2_1 : decode method_2_code 1 = .ok (.ifCond .ne 7, 3) := by decide +kernel
theorem w_5 {Z : State} {a0 : Array Value} (hw : ∀ d ∈ tables_1, d.before a0 Z = true) : (Jvm.Cond.fieldLink "com/example/mangga/mangga/queue/KindWaitsBehindPinLaw" (7 : Nat) "com/example/mangga/mangga/queue/Place$Kind" "LOCK" "Lcom/example/mangga/mangga/queue/Place$Kind;").before a0 Z = true := hw _ (List.mem_of_getElem? (i := 5) rfl)
theorem d_2_4 : decode method_2_code 4 = .ok (.getstatic 7, 3) := by decide +kernel
theorem d_2_7 : decode method_2_code 7 = .ok (.areturn, 1) := by decide +kernel
theorem d_2_8 : decode method_2_code 8 = .ok (.iload_n 0, 1) := by decide +kernel
theorem d_2_9 : decode method_2_code 9 = .ok (.iconst 1, 1) := by decide +kernel
theorem d_2_10 : decode method_2_code 10 = .ok (.if_icmp .ne 7, 3) := by decide +kernel
theorem w_29 {Z : State} {a0 : Array Value} (hw : ∀ d ∈ tables_1, d.before a0 Z = true) : (Jvm.Cond.fieldLink "com/example/mangga/mangga/queue/KindWaitsBehindPinLaw" (13 : Nat) "com/example/mangga/mangga/queue/Place$Kind" "READ" "Lcom/example/mangga/mangga/queue/Place$Kind;").before a0 Z = true := hw _ (List.mem_of_getElem? (i := 29) rfl)
theorem d_2_13 : decode method_2_code 13 = .ok (.getstatic 13, 3) := by decide +kernel
theorem d_2_16 : decode method_2_code 16 = .ok (.areturn, 1) := by decide +kernel
theorem w_27 {Z : State} {a0 : Array Value} (hw : ∀ d ∈ tables_1, d.before a0 Z = true) : (Jvm.Cond.fieldLink "com/example/mangga/mangga/queue/KindWaitsBehindPinLaw" (16 : Nat) "com/example/mangga/mangga/queue/Place$Kind" "WRITE" "Lcom/example/mangga/mangga/queue/Place$Kind;").before a0 Z = true := hw _ (List.mem_of_getElem? (i := 27) rfl)
theorem d_2_17 : decode method_2_code 17 = .ok (.getstatic 16, 3) := by decide +kernel
theorem d_2_20 : decode method_2_code 20 = .ok (.areturn, 1) := by decide +kernel
set_option maxRecDepth 65536 in
set_option maxHeartbeats 40000000 in
theorem rm_kind (l : Launch) (Z : State) (a0 : Array Value) (hw : ∀ d ∈ tables_1, d.before a0 Z = true) (ws : List Jvm.Cond) (iv : Int32) (u0 u1 u2 : Addr) (h0 : Heap) (n0 : Nat) (Z0 : n0 ≤ h0.size) (O0 : Old Z n0 h0) (S0 : Sta Z Z.heap "com/example/mangga/mangga/queue/Place$Kind" "LOCK" "Lcom/example/mangga/mangga/queue/Place$Kind;" (.ref u0)) (S1 : Sta Z Z.heap "com/example/mangga/mangga/queue/Place$Kind" "READ" "Lcom/example/mangga/mangga/queue/Place$Kind;" (.ref u1)) (S2 : Sta Z Z.heap "com/example/mangga/mangga/queue/Place$Kind" "WRITE" "Lcom/example/mangga/mangga/queue/Place$Kind;" (.ref u2)) :
    own_Met l Z (⟨"com/example/mangga/mangga/queue/KindWaitsBehindPinLaw", "kindOf", "(I)Lcom/example/mangga/mangga/queue/Place$Kind;"⟩ : MethodName) method_2_code 1 (some (.object "com/example/mangga/mangga/queue/Place$Kind")) ws ({ frames := 0, cells := 0, slots := 0, locals := 0 } : Room) #[(.int iv)] h0 (Q_kind iv u0 u1 u2 h0 n0) := by
  refine own_enter (own := "com/example/mangga/mangga/queue/KindWaitsBehindPinLaw") (plainFor_of_name pn_0) rfl ?_
  intro p e s m below meth c s₁ hlk hret hx hby hml hown hnm hZ X0 e0
  have N0 := Fr.nil n0
  refine own_cast (ef_kind m iv) ?_
  show own_Go _ _ _ _ (s₁.setTop (mkF m 0 #[.val (.int iv)] []))
  refine own_go (fun t k => XS.iloadN X0.here hx rfl (hb hby d_2_0) rfl k) ?_
  by_cases hc101 : iv = (0 : Int32)
  · show own_Go _ _ _ _ (s₁.setTop (mkF m 1 #[.val (.int iv)] [(.int iv)]))
    refine own_go (fun t k => XS.ifNo X0.here hx rfl (hb hby d_2_1) rfl ((if0 _ _).trans (teq hc101).2) k) ?_
    show own_Go _ _ _ _ (s₁.setTop (mkF m 4 #[.val (.int iv)] []))
    obtain ⟨T102, X102, e102, st102⟩ := getS2 X0 hx hZ hown (host := "") (Or.inl (w_5 hw)) Via.refl e0 (S0.ext O0.2) (g := (mkF m 4 #[.val (.int iv)] [])) rfl (hb hby d_2_4)
    refine own_go st102 ?_
    show own_Go _ _ _ _ (T102.setTop (mkF m 7 #[.val (.int iv)] [(.ref u0)]))
    refine own_ret X102 hx hlk hret rfl (Or.inr (Or.inr (Or.inr (Or.inr ⟨rfl, rfl, rfl⟩)))) (hb hby d_2_7) ?_ (by decide) (by decide)
    rw [e102]
    exact ⟨by simp [own_kind, hc101], N0, rfl⟩
  · show own_Go _ _ _ _ (s₁.setTop (mkF m 1 #[.val (.int iv)] [(.int iv)]))
    refine own_go (fun t k => XS.ifYes X0.here hx rfl (pc0 := 1) (pc' := 8) rfl (hb hby d_2_1) rfl ((if0 _ _).trans (feq hc101).2) (by decide) (by decide) k) ?_
    show own_Go _ _ _ _ (s₁.setTop (mkF m 8 #[.val (.int iv)] []))
    refine own_go (fun t k => XS.iloadN X0.here hx rfl (hb hby d_2_8) rfl k) ?_
    show own_Go _ _ _ _ (s₁.setTop (mkF m 9 #[.val (.int iv)] [(.int iv)]))
    refine own_go (fun t k => XS.iconst X0.here hx rfl (hb hby d_2_9) k) ?_
    by_cases hc103 : iv = (1 : Int32)
    · show own_Go _ _ _ _ (s₁.setTop (mkF m 10 #[.val (.int iv)] [(.int (1 : Int32)), (.int iv)]))
      refine own_go (fun t k => XS.icmpNo X0.here hx rfl (hb hby d_2_10) rfl (teq hc103).2 k) ?_
      show own_Go _ _ _ _ (s₁.setTop (mkF m 13 #[.val (.int iv)] []))
      obtain ⟨T104, X104, e104, st104⟩ := getS2 X0 hx hZ hown (host := "") (Or.inl (w_29 hw)) Via.refl e0 (S1.ext O0.2) (g := (mkF m 13 #[.val (.int iv)] [])) rfl (hb hby d_2_13)
      refine own_go st104 ?_
      show own_Go _ _ _ _ (T104.setTop (mkF m 16 #[.val (.int iv)] [(.ref u1)]))
      refine own_ret X104 hx hlk hret rfl (Or.inr (Or.inr (Or.inr (Or.inr ⟨rfl, rfl, rfl⟩)))) (hb hby d_2_16) ?_ (by decide) (by decide)
      rw [e104]
      exact ⟨by simp [own_kind, hc101, hc103], N0, rfl⟩
    · show own_Go _ _ _ _ (s₁.setTop (mkF m 10 #[.val (.int iv)] [(.int (1 : Int32)), (.int iv)]))
      refine own_go (fun t k => XS.icmpYes X0.here hx rfl (pc0 := 10) (pc' := 17) rfl (hb hby d_2_10) rfl (feq hc103).2 (by decide) (by decide) k) ?_
      show own_Go _ _ _ _ (s₁.setTop (mkF m 17 #[.val (.int iv)] []))
      obtain ⟨T105, X105, e105, st105⟩ := getS2 X0 hx hZ hown (host := "") (Or.inl (w_27 hw)) Via.refl e0 (S2.ext O0.2) (g := (mkF m 17 #[.val (.int iv)] [])) rfl (hb hby d_2_17)
      refine own_go st105 ?_
      show own_Go _ _ _ _ (T105.setTop (mkF m 20 #[.val (.int iv)] [(.ref u2)]))
      refine own_ret X105 hx hlk hret rfl (Or.inr (Or.inr (Or.inr (Or.inr ⟨rfl, rfl, rfl⟩)))) (hb hby d_2_20) ?_ (by decide) (by decide)
      rw [e105]
      exact ⟨by simp [own_kind, hc101, hc103], N0, rfl⟩
def Q_rnn (ua : Addr) (h0 : Heap) (n0 : Nat) (v : Option Value) (h : Heap) (L : List Loc) : Prop := v = some (.ref ua) ∧ Fr n0 L ∧ h = h0
theorem ef_rnn (m : MethodId) (ua : Addr) (ub : Addr) : entryFrame m #[(.ref ua), (.ref ub)] 2 = mkF m 0 #[.val (.ref ua), .val (.ref ub)] [] := by first | (simp [entryFrame, mkF, argsToLocals, Value.category]; done) | rfl
theorem pn_1 : plainName "java/util/Objects" = true := by first | (simp [plainName, overriddenIn]; done) | decide +kernel
theorem d_j31_11_0 : decode jdk_31_method_11_code 0 = .ok (.aload_n 0, 1) := by decide +kernel
theorem d_j31_11_1 : decode jdk_31_method_11_code 1 = .ok (.ifnonnull 12, 3) := by decide +kernel
theorem d_j31_11_13 : decode jdk_31_method_11_code 13 = .ok (.aload_n 0, 1) := by decide +kernel
theorem d_j31_11_14 : decode jdk_31_method_11_code 14 = .ok (.areturn, 1) := by decide +kernel
set_option maxRecDepth 65536 in
set_option maxHeartbeats 40000000 in
theorem rm_rnn (l : Launch) (Z : State) (a0 : Array Value) (hw : ∀ d ∈ tables_1, d.before a0 Z = true) (ws : List Jvm.Cond) (ua ub : Addr) (h0 : Heap) (n0 : Nat) (Z0 : n0 ≤ h0.size) :
    own_Met l Z (⟨"java/util/Objects", "requireNonNull", "(Ljava/lang/Object;Ljava/lang/String;)Ljava/lang/Object;"⟩ : MethodName) jdk_31_method_11_code 2 (some (.object "java/lang/Object")) ws ({ frames := 0, cells := 0, slots := 0, locals := 0 } : Room) #[(.ref ua), (.ref ub)] h0 (Q_rnn ua h0 n0) := by
  refine own_enter (own := "java/util/Objects") (plainFor_of_name pn_1) rfl ?_
  intro p e s m below meth c s₁ hlk hret hx hby hml hown hnm hZ X0 e0
  have N0 := Fr.nil n0
  refine own_cast (ef_rnn m ua ub) ?_
  show own_Go _ _ _ _ (s₁.setTop (mkF m 0 #[.val (.ref ua), .val (.ref ub)] []))
  refine own_go (fun t k => XS.aloadN X0.here hx rfl (hb hby d_j31_11_0) rfl rfl k) ?_
  show own_Go _ _ _ _ (s₁.setTop (mkF m 1 #[.val (.ref ua), .val (.ref ub)] [(.ref ua)]))
  refine own_go (fun t k => XS.ifnonnullYes X0.here hx rfl (pc0 := 1) (pc' := 13) rfl (hb hby d_j31_11_1) rfl (by decide) (by decide) k) ?_
  show own_Go _ _ _ _ (s₁.setTop (mkF m 13 #[.val (.ref ua), .val (.ref ub)] []))
  refine own_go (fun t k => XS.aloadN X0.here hx rfl (hb hby d_j31_11_13) rfl rfl k) ?_
  show own_Go _ _ _ _ (s₁.setTop (mkF m 14 #[.val (.ref ua), .val (.ref ub)] [(.ref ua)]))
  refine own_ret X0 hx hlk hret rfl (Or.inr (Or.inr (Or.inr (Or.inr ⟨rfl, rfl, rfl⟩)))) (hb hby d_j31_11_14) ?_ (by decide) (by decide)
  rw [e0]
  exact ⟨rfl, N0, rfl⟩
def Q_waits (fa fb : Int32) (h0 : Heap) (n0 : Nat) (v : Option Value) (h : Heap) (L : List Loc) : Prop := v = some (.int (own_waits fa fb)) ∧ Fr n0 L ∧ Keep h0 h []
theorem ef_waits (m : MethodId) (ua : Addr) (ub : Addr) : entryFrame m #[(.ref ua), (.ref ub)] 2 = mkF m 0 #[.val (.ref ua), .val (.ref ub)] [] := by first | (simp [entryFrame, mkF, argsToLocals, Value.category]; done) | rfl
theorem pn_2 : plainName "com/example/mangga/mangga/queue/Place$Kind" = true := by first | (simp [plainName, overriddenIn]; done) | decide +kernel
theorem d_p3_4_0 : decode prog_3_method_4_code 0 = .ok (.aload_n 1, 1) := by decide +kernel
theorem w_13 {Z : State} {a0 : Array Value} (hw : ∀ d ∈ tables_1, d.before a0 Z = true) : (Jvm.Cond.stringLink "com/example/mangga/mangga/queue/Place$Kind" (40 : Nat) "lower").before a0 Z = true := hw _ (List.mem_of_getElem? (i := 13) rfl)
theorem d_p3_4_1 : decode prog_3_method_4_code 1 = .ok (.ldc 40, 2) := by decide +kernel
theorem w_21 {Z : State} {a0 : Array Value} (hw : ∀ d ∈ tables_1, d.before a0 Z = true) : (Jvm.Cond.methodLink "com/example/mangga/mangga/queue/Place$Kind" (42 : Nat) ({ cls := "java/util/Objects", name := "requireNonNull", desc := "(Ljava/lang/Object;Ljava/lang/String;)Ljava/lang/Object;" } : Jvm.MethodName)).before a0 Z = true := hw _ (List.mem_of_getElem? (i := 21) rfl)
theorem w_24 {Z : State} {a0 : Array Value} (hw : ∀ d ∈ tables_1, d.before a0 Z = true) : (Jvm.Cond.code ({ cls := "java/util/Objects", name := "requireNonNull", desc := "(Ljava/lang/Object;Ljava/lang/String;)Ljava/lang/Object;" } : Jvm.MethodName) jdk_31_method_11_code (2 : Nat) (Option.some (Jvm.ClassFile.FieldType.object "java/lang/Object"))).before a0 Z = true := hw _ (List.mem_of_getElem? (i := 24) rfl)
theorem w_23 {Z : State} {a0 : Array Value} (hw : ∀ d ∈ tables_1, d.before a0 Z = true) : (Jvm.Cond.initialized "java/util/Objects").before a0 Z = true := hw _ (List.mem_of_getElem? (i := 23) rfl)
theorem pd_0 : parseMethodDescriptor "(Ljava/lang/Object;Ljava/lang/String;)Ljava/lang/Object;" = some ⟨[(.object "java/lang/Object"), (.object "java/lang/String")], some (.object "java/lang/Object")⟩ := by decide +kernel
theorem d_p3_4_3 : decode prog_3_method_4_code 3 = .ok (.invokestatic 42, 3) := by decide +kernel
theorem w_22 {Z : State} {a0 : Array Value} (hw : ∀ d ∈ tables_1, d.before a0 Z = true) : (Jvm.Cond.static ({ cls := "java/util/Objects", name := "requireNonNull", desc := "(Ljava/lang/Object;Ljava/lang/String;)Ljava/lang/Object;" } : Jvm.MethodName)).before a0 Z = true := hw _ (List.mem_of_getElem? (i := 22) rfl)
theorem d_p3_4_6 : decode prog_3_method_4_code 6 = .ok (.pop, 1) := by decide +kernel
theorem d_p3_4_7 : decode prog_3_method_4_code 7 = .ok (.aload_n 0, 1) := by decide +kernel
theorem w_25 {Z : State} {a0 : Array Value} (hw : ∀ d ∈ tables_1, d.before a0 Z = true) : (Jvm.Cond.fieldLink "com/example/mangga/mangga/queue/Place$Kind" (36 : Nat) "com/example/mangga/mangga/queue/Place$Kind" "shared" "Z").before a0 Z = true := hw _ (List.mem_of_getElem? (i := 25) rfl)
theorem d_p3_4_8 : decode prog_3_method_4_code 8 = .ok (.getfield 36, 3) := by decide +kernel
theorem d_p3_4_11 : decode prog_3_method_4_code 11 = .ok (.ifCond .eq 10, 3) := by decide +kernel
theorem d_p3_4_21 : decode prog_3_method_4_code 21 = .ok (.iconst 1, 1) := by decide +kernel
theorem d_p3_4_22 : decode prog_3_method_4_code 22 = .ok (.goto 4, 3) := by decide +kernel
theorem d_p3_4_26 : decode prog_3_method_4_code 26 = .ok (.ireturn, 1) := by decide +kernel
theorem d_p3_4_14 : decode prog_3_method_4_code 14 = .ok (.aload_n 1, 1) := by decide +kernel
theorem d_p3_4_15 : decode prog_3_method_4_code 15 = .ok (.getfield 36, 3) := by decide +kernel
theorem d_p3_4_18 : decode prog_3_method_4_code 18 = .ok (.ifCond .ne 7, 3) := by decide +kernel
theorem d_p3_4_25 : decode prog_3_method_4_code 25 = .ok (.iconst 0, 1) := by decide +kernel
set_option maxRecDepth 65536 in
set_option maxHeartbeats 40000000 in
theorem rm_waits (l : Launch) (Z : State) (a0 : Array Value) (hw : ∀ d ∈ tables_1, d.before a0 Z = true) (ws : List Jvm.Cond) (ua ub : Addr) (fa fb : Int32) (h0 : Heap) (n0 : Nat) (Z0 : n0 ≤ h0.size) (F1 : Fld Z h0 ua "com/example/mangga/mangga/queue/Place$Kind" "shared" "Z" (.int fa)) (F2 : Fld Z h0 ub "com/example/mangga/mangga/queue/Place$Kind" "shared" "Z" (.int fb)) :
    own_MetW l Z (⟨"com/example/mangga/mangga/queue/Place$Kind", "waitsBehind", "(Lcom/example/mangga/mangga/queue/Place$Kind;)Z"⟩ : MethodName) prog_3_method_4_code 2 (some .boolean) ws ({ frames := 1, cells := 2, slots := 24, locals := 30 } : Room) #[(.ref ua), (.ref ub)] h0 (Q_waits fa fb h0 n0) := by
  refine own_enterW (own := "com/example/mangga/mangga/queue/Place$Kind") (plainFor_of_name pn_2) rfl ?_
  intro p e s m below meth c s₁ hlk hret hx hby hml hown hnm hZ X0 e0
  have N0 := Fr.nil n0
  refine own_cast (ef_waits m ua ub) ?_
  have hS : s.Since s.vm 0 := (State.WarmedH.refl s).since 0
  have hk : 0 ≤ h0.size := Nat.zero_le _
  show own_Go _ _ _ _ (s₁.setTop (mkF m 0 #[.val (.ref ua), .val (.ref ub)] []))
  refine own_go (fun t k => XS.aloadN X0.here hx rfl (hb hby d_p3_4_0) rfl rfl k) ?_
  show own_Go _ _ _ _ (s₁.setTop (mkF m 1 #[.val (.ref ua), .val (.ref ub)] [(.ref ub)]))
  obtain ⟨b106, T106, h106, k106, X106, e106, E106, hS, hk, hZ, hown, st106⟩ := ldcS X0 hx hZ hown (w_13 hw) (own_wS hw) e0 hS hk (g := (mkF m 1 #[.val (.ref ua), .val (.ref ub)] [(.ref ub)])) rfl (hb hby d_p3_4_1) (n := 20) (by decide) (by decide) (by decide) (by decide)
  refine own_go st106 ?_
  have Z106 : n0 ≤ h106.size := (Nat.le_trans Z0 E106.1)
  have K106 : Keep h0 h106 [] := (Keep.refl h0 []).ext E106
  show own_Go _ _ _ _ (T106.setTop (mkF m 3 #[.val (.ref ua), .val (.ref ub)] [(.ref b106), (.ref ub)]))
  obtain ⟨_, _, ⟨T107, L107, k107, n107⟩, -, X107, ⟨Lc107, hQ107, l107, y107, z107⟩, st107⟩ := Jvm.LawKit.callS X106 hx (y := (⟨"java/util/Objects", "requireNonNull", "(Ljava/lang/Object;Ljava/lang/String;)Ljava/lang/Object;"⟩ : MethodName)) hown (mvT hZ (w_21 hw)) (mvT hZ (w_22 hw)) (mvT hZ (w_23 hw)) (mvT hZ (w_24 hw)) (by decide) (backOf (W := 0) (rm_rnn l Z a0 hw [] ub b106 h106 n0 Z106) hZ (w_24 hw) (w_23 hw) (by decide) (by decide)) (g := (mkF m 3 #[.val (.ref ua), .val (.ref ub)] [(.ref b106), (.ref ub)])) rfl (by rw [hml]; rfl) (argsL := [(.ref ub), (.ref b106)]) (rest := []) (lenOf pd_0 rfl) rfl (by show 2 * 0 + _ ≤ _; exact Nat.le_of_eq rfl) (hb hby d_p3_4_3) (fun _ _ => ⟨rfl, e106, (by decide : 2 + 0 ≤ _), (by decide : 24 + 0 ≤ _)⟩)
  dsimp only [Pt.U, Pt.locs, Pt.cells, Pt.slots] at X107 l107 y107 z107 st107 hQ107
  subst l107 y107 z107
  obtain ⟨rfl, N107q, e107⟩ := hQ107
  have N107 := Fr.app N0 N107q
  refine own_go st107 ?_
  show own_Go _ _ _ _ (T107.setTop (mkF m 6 #[.val (.ref ua), .val (.ref ub)] [(.ref ub)]))
  refine own_go (fun t k => XS.pop X107.here hx rfl (hb hby d_p3_4_6) rfl rfl k) ?_
  show own_Go _ _ _ _ (T107.setTop (mkF m 7 #[.val (.ref ua), .val (.ref ub)] []))
  refine own_go (fun t k => XS.aloadN X107.here hx rfl (hb hby d_p3_4_7) rfl rfl k) ?_
  show own_Go _ _ _ _ (T107.setTop (mkF m 8 #[.val (.ref ua), .val (.ref ub)] [(.ref ua)]))
  obtain ⟨T108, X108, e108, st108⟩ := getF X107 hx hZ hown (host := "") (Or.inl (w_25 hw)) Via.refl e107 (F1.ext E106) (g := (mkF m 8 #[.val (.ref ua), .val (.ref ub)] [(.ref ua)])) rfl rfl (hb hby d_p3_4_8)
  refine own_go st108 ?_
  by_cases hc109 : fa = (0 : Int32)
  · show own_Go _ _ _ _ (T108.setTop (mkF m 11 #[.val (.ref ua), .val (.ref ub)] [(.int fa)]))
    refine own_go (fun t k => XS.ifYes X108.here hx rfl (pc0 := 11) (pc' := 21) rfl (hb hby d_p3_4_11) rfl ((if0 _ _).trans (teq hc109).1) (by decide) (by decide) k) ?_
    show own_Go _ _ _ _ (T108.setTop (mkF m 21 #[.val (.ref ua), .val (.ref ub)] []))
    refine own_go (fun t k => XS.iconst X108.here hx rfl (hb hby d_p3_4_21) k) ?_
    show own_Go _ _ _ _ (T108.setTop (mkF m 22 #[.val (.ref ua), .val (.ref ub)] [(.int (1 : Int32))]))
    refine own_go (fun t k => XS.goto X108.here hx rfl (pc0 := 22) (pc' := 26) rfl (hb hby d_p3_4_22) (by decide) (by decide) k) ?_
    show own_Go _ _ _ _ (T108.setTop (mkF m 26 #[.val (.ref ua), .val (.ref ub)] [(.int (1 : Int32))]))
    refine own_retNW X108 hx hS (Nat.le_trans hk (Nat.le_of_eq (congrArg Array.size e108.symm))) hlk (t := .boolean) hret (by simp) (hb hby d_p3_4_26) ?_ (by decide) (by decide)
    rw [e108]
    exact ⟨by simp [own_waits, nar, hc109], N107, K106⟩
  · show own_Go _ _ _ _ (T108.setTop (mkF m 11 #[.val (.ref ua), .val (.ref ub)] [(.int fa)]))
    refine own_go (fun t k => XS.ifNo X108.here hx rfl (hb hby d_p3_4_11) rfl ((if0 _ _).trans (feq hc109).1) k) ?_
    show own_Go _ _ _ _ (T108.setTop (mkF m 14 #[.val (.ref ua), .val (.ref ub)] []))
    refine own_go (fun t k => XS.aloadN X108.here hx rfl (hb hby d_p3_4_14) rfl rfl k) ?_
    show own_Go _ _ _ _ (T108.setTop (mkF m 15 #[.val (.ref ua), .val (.ref ub)] [(.ref ub)]))
    obtain ⟨T110, X110, e110, st110⟩ := getF X108 hx hZ hown (host := "") (Or.inl (w_25 hw)) Via.refl e108 (F2.ext E106) (g := (mkF m 15 #[.val (.ref ua), .val (.ref ub)] [(.ref ub)])) rfl rfl (hb hby d_p3_4_15)
    refine own_go st110 ?_
    by_cases hc111 : fb = (0 : Int32)
    · show own_Go _ _ _ _ (T110.setTop (mkF m 18 #[.val (.ref ua), .val (.ref ub)] [(.int fb)]))
      refine own_go (fun t k => XS.ifNo X110.here hx rfl (hb hby d_p3_4_18) rfl ((if0 _ _).trans (teq hc111).2) k) ?_
      show own_Go _ _ _ _ (T110.setTop (mkF m 21 #[.val (.ref ua), .val (.ref ub)] []))
      refine own_go (fun t k => XS.iconst X110.here hx rfl (hb hby d_p3_4_21) k) ?_
      show own_Go _ _ _ _ (T110.setTop (mkF m 22 #[.val (.ref ua), .val (.ref ub)] [(.int (1 : Int32))]))
      refine own_go (fun t k => XS.goto X110.here hx rfl (pc0 := 22) (pc' := 26) rfl (hb hby d_p3_4_22) (by decide) (by decide) k) ?_
      show own_Go _ _ _ _ (T110.setTop (mkF m 26 #[.val (.ref ua), .val (.ref ub)] [(.int (1 : Int32))]))
      refine own_retNW X110 hx hS (Nat.le_trans hk (Nat.le_of_eq (congrArg Array.size e110.symm))) hlk (t := .boolean) hret (by simp) (hb hby d_p3_4_26) ?_ (by decide) (by decide)
      rw [e110]
      exact ⟨by simp [own_waits, nar, hc109, hc111], N107, K106⟩
    · show own_Go _ _ _ _ (T110.setTop (mkF m 18 #[.val (.ref ua), .val (.ref ub)] [(.int fb)]))
      refine own_go (fun t k => XS.ifYes X110.here hx rfl (pc0 := 18) (pc' := 25) rfl (hb hby d_p3_4_18) rfl ((if0 _ _).trans (feq hc111).2) (by decide) (by decide) k) ?_
      show own_Go _ _ _ _ (T110.setTop (mkF m 25 #[.val (.ref ua), .val (.ref ub)] []))
      refine own_go (fun t k => XS.iconst X110.here hx rfl (hb hby d_p3_4_25) k) ?_
      show own_Go _ _ _ _ (T110.setTop (mkF m 26 #[.val (.ref ua), .val (.ref ub)] [(.int (0 : Int32))]))
      refine own_retNW X110 hx hS (Nat.le_trans hk (Nat.le_of_eq (congrArg Array.size e110.symm))) hlk (t := .boolean) hret (by simp) (hb hby d_p3_4_26) ?_ (by decide) (by decide)
      rw [e110]
      exact ⟨by simp [own_waits, nar, hc109, hc111], N107, K106⟩
def Q_law (n0 : Nat) (v : Option Value) (h : Heap) (L : List Loc) : Prop := v = some (.int 1) ∧ Fr n0 L
theorem ef_law (m : MethodId) (iv : Int32) (jv : Int32) : entryFrame m #[(.int iv), (.int jv)] maxLocals = mkF m 0 #[.val (.int iv), .val (.int jv), .unset, .unset, .unset, .unset, .unset, .unset, .unset] [] := by first | (simp [entryFrame, mkF, argsToLocals, Value.category, maxLocals]; done) | rfl
theorem w_0 {Z : State} {a0 : Array Value} (hw : ∀ d ∈ tables_1, d.before a0 Z = true) : (Jvm.Cond.constant "com/example/mangga/mangga/queue/KindWaitsBehindPinLaw" (19 : Nat) (2147483647 : Int32)).before a0 Z = true := hw _ (List.mem_of_getElem? (i := 0) rfl)
theorem w_1 {Z : State} {a0 : Array Value} (hw : ∀ d ∈ tables_1, d.before a0 Z = true) : (Jvm.Cond.methodLink "com/example/mangga/mangga/queue/KindWaitsBehindPinLaw" (20 : Nat) ({ cls := "com/example/mangga/mangga/queue/KindWaitsBehindPinLaw", name := "kindOf", desc := "(I)Lcom/example/mangga/mangga/queue/Place$Kind;" } : Jvm.MethodName)).before a0 Z = true := hw _ (List.mem_of_getElem? (i := 1) rfl)
theorem w_4 {Z : State} {a0 : Array Value} (hw : ∀ d ∈ tables_1, d.before a0 Z = true) : (Jvm.Cond.code ({ cls := "com/example/mangga/mangga/queue/KindWaitsBehindPinLaw", name := "kindOf", desc := "(I)Lcom/example/mangga/mangga/queue/Place$Kind;" } : Jvm.MethodName) method_2_code (1 : Nat) (Option.some (Jvm.ClassFile.FieldType.object "com/example/mangga/mangga/queue/Place$Kind"))).before a0 Z = true := hw _ (List.mem_of_getElem? (i := 4) rfl)
theorem w_3 {Z : State} {a0 : Array Value} (hw : ∀ d ∈ tables_1, d.before a0 Z = true) : (Jvm.Cond.initialized "com/example/mangga/mangga/queue/KindWaitsBehindPinLaw").before a0 Z = true := hw _ (List.mem_of_getElem? (i := 3) rfl)
theorem pd_1 : parseMethodDescriptor "(I)Lcom/example/mangga/mangga/queue/Place$Kind;" = some ⟨[.int], some (.object "com/example/mangga/mangga/queue/Place$Kind")⟩ := by decide +kernel
theorem w_2 {Z : State} {a0 : Array Value} (hw : ∀ d ∈ tables_1, d.before a0 Z = true) : (Jvm.Cond.static ({ cls := "com/example/mangga/mangga/queue/KindWaitsBehindPinLaw", name := "kindOf", desc := "(I)Lcom/example/mangga/mangga/queue/Place$Kind;" } : Jvm.MethodName)).before a0 Z = true := hw _ (List.mem_of_getElem? (i := 2) rfl)
theorem w_8 {Z : State} {a0 : Array Value} (hw : ∀ d ∈ tables_1, d.before a0 Z = true) : (Jvm.Cond.methodLink "com/example/mangga/mangga/queue/KindWaitsBehindPinLaw" (26 : Nat) ({ cls := "com/example/mangga/mangga/queue/Place$Kind", name := "waitsBehind", desc := "(Lcom/example/mangga/mangga/queue/Place$Kind;)Z" } : Jvm.MethodName)).before a0 Z = true := hw _ (List.mem_of_getElem? (i := 8) rfl)
theorem w_12 {Z : State} {a0 : Array Value} (hw : ∀ d ∈ tables_1, d.before a0 Z = true) : (Jvm.Cond.code ({ cls := "com/example/mangga/mangga/queue/Place$Kind", name := "waitsBehind", desc := "(Lcom/example/mangga/mangga/queue/Place$Kind;)Z" } : Jvm.MethodName) prog_3_method_4_code (2 : Nat) (Option.some Jvm.ClassFile.FieldType.boolean)).before a0 Z = true := hw _ (List.mem_of_getElem? (i := 12) rfl)
theorem w_6 {Z : State} {a0 : Array Value} (hw : ∀ d ∈ tables_1, d.before a0 Z = true) : (Jvm.Cond.initialized "com/example/mangga/mangga/queue/Place$Kind").before a0 Z = true := hw _ (List.mem_of_getElem? (i := 6) rfl)
theorem pd_2 : parseMethodDescriptor "(Lcom/example/mangga/mangga/queue/Place$Kind;)Z" = some ⟨[(.object "com/example/mangga/mangga/queue/Place$Kind")], some .boolean⟩ := by decide +kernel
theorem w_11 {Z : State} {a0 : Array Value} (hw : ∀ d ∈ tables_1, d.before a0 Z = true) : (Jvm.Cond.selects "com/example/mangga/mangga/queue/Place$Kind" ({ cls := "com/example/mangga/mangga/queue/Place$Kind", name := "waitsBehind", desc := "(Lcom/example/mangga/mangga/queue/Place$Kind;)Z" } : Jvm.MethodName) ({ cls := "com/example/mangga/mangga/queue/Place$Kind", name := "waitsBehind", desc := "(Lcom/example/mangga/mangga/queue/Place$Kind;)Z" } : Jvm.MethodName)).before a0 Z = true := hw _ (List.mem_of_getElem? (i := 11) rfl)
theorem w_9 {Z : State} {a0 : Array Value} (hw : ∀ d ∈ tables_1, d.before a0 Z = true) : (Jvm.Cond.declares ({ cls := "com/example/mangga/mangga/queue/Place$Kind", name := "waitsBehind", desc := "(Lcom/example/mangga/mangga/queue/Place$Kind;)Z" } : Jvm.MethodName)).before a0 Z = true := hw _ (List.mem_of_getElem? (i := 9) rfl)
theorem w_10 {Z : State} {a0 : Array Value} (hw : ∀ d ∈ tables_1, d.before a0 Z = true) : (Jvm.Cond.instanceMethod ({ cls := "com/example/mangga/mangga/queue/Place$Kind", name := "waitsBehind", desc := "(Lcom/example/mangga/mangga/queue/Place$Kind;)Z" } : Jvm.MethodName)).before a0 Z = true := hw _ (List.mem_of_getElem? (i := 10) rfl)
set_option maxRecDepth 65536 in
set_option maxHeartbeats 40000000 in
theorem rm_law (l : Launch) (Z : State) (a0 : Array Value) (hw : ∀ d ∈ tables_1, d.before a0 Z = true) (ws : List Jvm.Cond) (iv jv : Int32) (u0 u1 u2 : Addr) (h0 : Heap) (n0 : Nat) (Z0 : n0 ≤ h0.size) (O0 : Old Z n0 h0) (S0 : Sta Z Z.heap "com/example/mangga/mangga/queue/Place$Kind" "LOCK" "Lcom/example/mangga/mangga/queue/Place$Kind;" (.ref u0)) (S1 : Sta Z Z.heap "com/example/mangga/mangga/queue/Place$Kind" "READ" "Lcom/example/mangga/mangga/queue/Place$Kind;" (.ref u1)) (S2 : Sta Z Z.heap "com/example/mangga/mangga/queue/Place$Kind" "WRITE" "Lcom/example/mangga/mangga/queue/Place$Kind;" (.ref u2)) (E0 : Exa Z Z.heap u0 "com/example/mangga/mangga/queue/Place$Kind") (E1 : Exa Z Z.heap u1 "com/example/mangga/mangga/queue/Place$Kind") (E2 : Exa Z Z.heap u2 "com/example/mangga/mangga/queue/Place$Kind") (F0 : Fld Z Z.heap u0 "com/example/mangga/mangga/queue/Place$Kind" "shared" "Z" (.int (0 : Int32))) (F1 : Fld Z Z.heap u1 "com/example/mangga/mangga/queue/Place$Kind" "shared" "Z" (.int (1 : Int32))) (F2 : Fld Z Z.heap u2 "com/example/mangga/mangga/queue/Place$Kind" "shared" "Z" (.int (0 : Int32))) :
    own_MetW l Z x code maxLocals ret ws room_1 #[(.int iv), (.int jv)] h0 (Q_law n0) := by
  refine own_enterW (own := "com/example/mangga/mangga/queue/KindWaitsBehindPinLaw") (plainFor_of_name pn_0) rfl ?_
  intro p e s m below meth c s₁ hlk hret hx hby hml hown hnm hZ X0 e0
  have N0 := Fr.nil n0
  refine own_cast (ef_law m iv jv) ?_
  have hS : s.Since s.vm 0 := (State.WarmedH.refl s).since 0
  have hk : 0 ≤ h0.size := Nat.zero_le _
  show own_Go _ _ _ _ (s₁.setTop (mkF m 0 #[.val (.int iv), .val (.int jv), .unset, .unset, .unset, .unset, .unset, .unset, .unset] []))
  refine own_go (fun t k => XS.iloadN X0.here hx rfl (hb hby at_0) rfl k) ?_
  show own_Go _ _ _ _ (s₁.setTop (mkF m 1 #[.val (.int iv), .val (.int jv), .unset, .unset, .unset, .unset, .unset, .unset, .unset] [(.int iv)]))
  refine own_go (X0.ldcInt hx hown (mvT hZ (w_0 hw)) (g := (mkF m 1 #[.val (.int iv), .val (.int jv), .unset, .unset, .unset, .unset, .unset, .unset, .unset] [(.int iv)])) rfl (hb hby at_1)) ?_
  show own_Go _ _ _ _ (s₁.setTop (mkF m 3 #[.val (.int iv), .val (.int jv), .unset, .unset, .unset, .unset, .unset, .unset, .unset] [(.int (2147483647 : Int32)), (.int iv)]))
  refine own_go (fun t k => XS.iand X0.here hx rfl (hb hby at_3) rfl k) ?_
  show own_Go _ _ _ _ (s₁.setTop (mkF m 4 #[.val (.int iv), .val (.int jv), .unset, .unset, .unset, .unset, .unset, .unset, .unset] [(.int (iv &&& (2147483647 : Int32)))]))
  refine own_go (fun t k => XS.iconst X0.here hx rfl (hb hby at_4) k) ?_
  show own_Go _ _ _ _ (s₁.setTop (mkF m 5 #[.val (.int iv), .val (.int jv), .unset, .unset, .unset, .unset, .unset, .unset, .unset] [(.int (3 : Int32)), (.int (iv &&& (2147483647 : Int32)))]))
  refine own_go (fun t k => iremM X0 hx rfl (hb hby at_5) rfl (by decide) k) ?_
  show own_Go _ _ _ _ (s₁.setTop (mkF m 6 #[.val (.int iv), .val (.int jv), .unset, .unset, .unset, .unset, .unset, .unset, .unset] [(.int ((iv &&& (2147483647 : Int32)) % (3 : Int32)))]))
  refine own_go (fun t k => XS.istoreN X0.here hx rfl (hb hby at_6) rfl (l' := #[.val (.int iv), .val (.int jv), .val (.int ((iv &&& (2147483647 : Int32)) % (3 : Int32))), .unset, .unset, .unset, .unset, .unset, .unset]) rfl k) ?_
  show own_Go _ _ _ _ (s₁.setTop (mkF m 7 #[.val (.int iv), .val (.int jv), .val (.int ((iv &&& (2147483647 : Int32)) % (3 : Int32))), .unset, .unset, .unset, .unset, .unset, .unset] []))
  refine own_go (fun t k => XS.iloadN X0.here hx rfl (hb hby at_7) rfl k) ?_
  show own_Go _ _ _ _ (s₁.setTop (mkF m 8 #[.val (.int iv), .val (.int jv), .val (.int ((iv &&& (2147483647 : Int32)) % (3 : Int32))), .unset, .unset, .unset, .unset, .unset, .unset] [(.int jv)]))
  refine own_go (X0.ldcInt hx hown (mvT hZ (w_0 hw)) (g := (mkF m 8 #[.val (.int iv), .val (.int jv), .val (.int ((iv &&& (2147483647 : Int32)) % (3 : Int32))), .unset, .unset, .unset, .unset, .unset, .unset] [(.int jv)])) rfl (hb hby at_8)) ?_
  show own_Go _ _ _ _ (s₁.setTop (mkF m 10 #[.val (.int iv), .val (.int jv), .val (.int ((iv &&& (2147483647 : Int32)) % (3 : Int32))), .unset, .unset, .unset, .unset, .unset, .unset] [(.int (2147483647 : Int32)), (.int jv)]))
  refine own_go (fun t k => XS.iand X0.here hx rfl (hb hby at_10) rfl k) ?_
  show own_Go _ _ _ _ (s₁.setTop (mkF m 11 #[.val (.int iv), .val (.int jv), .val (.int ((iv &&& (2147483647 : Int32)) % (3 : Int32))), .unset, .unset, .unset, .unset, .unset, .unset] [(.int (jv &&& (2147483647 : Int32)))]))
  refine own_go (fun t k => XS.iconst X0.here hx rfl (hb hby at_11) k) ?_
  show own_Go _ _ _ _ (s₁.setTop (mkF m 12 #[.val (.int iv), .val (.int jv), .val (.int ((iv &&& (2147483647 : Int32)) % (3 : Int32))), .unset, .unset, .unset, .unset, .unset, .unset] [(.int (3 : Int32)), (.int (jv &&& (2147483647 : Int32)))]))
  refine own_go (fun t k => iremM X0 hx rfl (hb hby at_12) rfl (by decide) k) ?_
  show own_Go _ _ _ _ (s₁.setTop (mkF m 13 #[.val (.int iv), .val (.int jv), .val (.int ((iv &&& (2147483647 : Int32)) % (3 : Int32))), .unset, .unset, .unset, .unset, .unset, .unset] [(.int ((jv &&& (2147483647 : Int32)) % (3 : Int32)))]))
  generalize hk1 : (iv &&& (2147483647 : Int32)) % (3 : Int32) = k1
  generalize hk2 : (jv &&& (2147483647 : Int32)) % (3 : Int32) = k2
  have ht1 : k1 = 0 ∨ k1 = 1 ∨ k1 = 2 := hk1 ▸ own_three iv
  have ht2 : k2 = 0 ∨ k2 = 1 ∨ k2 = 2 := hk2 ▸ own_three jv
  clear hk1 hk2
  rcases ht1 with rfl | rfl | rfl <;> rcases ht2 with rfl | rfl | rfl
  · show own_Go _ _ _ _ (s₁.setTop (mkF m 13 #[.val (.int iv), .val (.int jv), .val (.int (0 : Int32)), .unset, .unset, .unset, .unset, .unset, .unset] [(.int (0 : Int32))]))
    refine own_go (fun t k => XS.istoreN X0.here hx rfl (hb hby at_13) rfl (l' := #[.val (.int iv), .val (.int jv), .val (.int (0 : Int32)), .val (.int (0 : Int32)), .unset, .unset, .unset, .unset, .unset]) rfl k) ?_
    show own_Go _ _ _ _ (s₁.setTop (mkF m 14 #[.val (.int iv), .val (.int jv), .val (.int (0 : Int32)), .val (.int (0 : Int32)), .unset, .unset, .unset, .unset, .unset] []))
    refine own_go (fun t k => XS.iloadN X0.here hx rfl (hb hby at_14) rfl k) ?_
    show own_Go _ _ _ _ (s₁.setTop (mkF m 15 #[.val (.int iv), .val (.int jv), .val (.int (0 : Int32)), .val (.int (0 : Int32)), .unset, .unset, .unset, .unset, .unset] [(.int (0 : Int32))]))
    obtain ⟨_, _, ⟨T112, L112, k112, n112⟩, -, X112, ⟨Lc112, hQ112, l112, y112, z112⟩, st112⟩ := Jvm.LawKit.callS X0 hx (y := (⟨"com/example/mangga/mangga/queue/KindWaitsBehindPinLaw", "kindOf", "(I)Lcom/example/mangga/mangga/queue/Place$Kind;"⟩ : MethodName)) hown (mvT hZ (w_1 hw)) (mvT hZ (w_2 hw)) (mvT hZ (w_3 hw)) (mvT hZ (w_4 hw)) (by decide) (backOf (W := 0) (rm_kind l Z a0 hw [] (0 : Int32) u0 u1 u2 h0 n0 Z0 O0 S0 S1 S2) hZ (w_4 hw) (w_3 hw) (by decide) (by decide)) (g := (mkF m 15 #[.val (.int iv), .val (.int jv), .val (.int (0 : Int32)), .val (.int (0 : Int32)), .unset, .unset, .unset, .unset, .unset] [(.int (0 : Int32))])) rfl (by rw [hml]; rfl) (argsL := [(.int (0 : Int32))]) (rest := []) (lenOf pd_1 rfl) rfl (by show 2 * 0 + _ ≤ _; exact Nat.le_of_eq rfl) (hb hby at_15) (fun _ _ => ⟨rfl, e0, (by decide : 0 + 0 ≤ _), (by decide : 0 + 0 ≤ _)⟩)
    dsimp only [Pt.U, Pt.locs, Pt.cells, Pt.slots] at X112 l112 y112 z112 st112 hQ112
    subst l112 y112 z112
    obtain ⟨rfl, N112q, e112⟩ := hQ112
    have N112 := Fr.app N0 N112q
    refine own_go st112 ?_
    show own_Go _ _ _ _ (T112.setTop (mkF m 18 #[.val (.int iv), .val (.int jv), .val (.int (0 : Int32)), .val (.int (0 : Int32)), .unset, .unset, .unset, .unset, .unset] [(.ref u0)]))
    refine own_go (fun t k => XS.astore X112.here hx rfl (hb hby at_18) rfl rfl (l' := #[.val (.int iv), .val (.int jv), .val (.int (0 : Int32)), .val (.int (0 : Int32)), .val (.ref u0), .unset, .unset, .unset, .unset]) rfl k) ?_
    show own_Go _ _ _ _ (T112.setTop (mkF m 20 #[.val (.int iv), .val (.int jv), .val (.int (0 : Int32)), .val (.int (0 : Int32)), .val (.ref u0), .unset, .unset, .unset, .unset] []))
    refine own_go (fun t k => XS.iloadN X112.here hx rfl (hb hby at_20) rfl k) ?_
    show own_Go _ _ _ _ (T112.setTop (mkF m 21 #[.val (.int iv), .val (.int jv), .val (.int (0 : Int32)), .val (.int (0 : Int32)), .val (.ref u0), .unset, .unset, .unset, .unset] [(.int (0 : Int32))]))
    obtain ⟨_, _, ⟨T113, L113, k113, n113⟩, -, X113, ⟨Lc113, hQ113, l113, y113, z113⟩, st113⟩ := Jvm.LawKit.callS X112 hx (y := (⟨"com/example/mangga/mangga/queue/KindWaitsBehindPinLaw", "kindOf", "(I)Lcom/example/mangga/mangga/queue/Place$Kind;"⟩ : MethodName)) hown (mvT hZ (w_1 hw)) (mvT hZ (w_2 hw)) (mvT hZ (w_3 hw)) (mvT hZ (w_4 hw)) (by decide) (backOf (W := 0) (rm_kind l Z a0 hw [] (0 : Int32) u0 u1 u2 h0 n0 Z0 O0 S0 S1 S2) hZ (w_4 hw) (w_3 hw) (by decide) (by decide)) (g := (mkF m 21 #[.val (.int iv), .val (.int jv), .val (.int (0 : Int32)), .val (.int (0 : Int32)), .val (.ref u0), .unset, .unset, .unset, .unset] [(.int (0 : Int32))])) rfl (by rw [hml]; rfl) (argsL := [(.int (0 : Int32))]) (rest := []) (lenOf pd_1 rfl) rfl (by show 2 * 0 + _ ≤ _; exact Nat.le_of_eq rfl) (hb hby at_21) (fun _ _ => ⟨rfl, e112, (by decide : 0 + 0 ≤ _), (by decide : 0 + 0 ≤ _)⟩)
    dsimp only [Pt.U, Pt.locs, Pt.cells, Pt.slots] at X113 l113 y113 z113 st113 hQ113
    subst l113 y113 z113
    obtain ⟨rfl, N113q, e113⟩ := hQ113
    have N113 := Fr.app N112 N113q
    refine own_go st113 ?_
    show own_Go _ _ _ _ (T113.setTop (mkF m 24 #[.val (.int iv), .val (.int jv), .val (.int (0 : Int32)), .val (.int (0 : Int32)), .val (.ref u0), .unset, .unset, .unset, .unset] [(.ref u0)]))
    refine own_go (fun t k => XS.astore X113.here hx rfl (hb hby at_24) rfl rfl (l' := #[.val (.int iv), .val (.int jv), .val (.int (0 : Int32)), .val (.int (0 : Int32)), .val (.ref u0), .val (.ref u0), .unset, .unset, .unset]) rfl k) ?_
    show own_Go _ _ _ _ (T113.setTop (mkF m 26 #[.val (.int iv), .val (.int jv), .val (.int (0 : Int32)), .val (.int (0 : Int32)), .val (.ref u0), .val (.ref u0), .unset, .unset, .unset] []))
    refine own_go (fun t k => XS.iloadN X113.here hx rfl (hb hby at_26) rfl k) ?_
    show own_Go _ _ _ _ (T113.setTop (mkF m 27 #[.val (.int iv), .val (.int jv), .val (.int (0 : Int32)), .val (.int (0 : Int32)), .val (.ref u0), .val (.ref u0), .unset, .unset, .unset] [(.int (0 : Int32))]))
    refine own_go (fun t k => XS.iconst X113.here hx rfl (hb hby at_27) k) ?_
    show own_Go _ _ _ _ (T113.setTop (mkF m 28 #[.val (.int iv), .val (.int jv), .val (.int (0 : Int32)), .val (.int (0 : Int32)), .val (.ref u0), .val (.ref u0), .unset, .unset, .unset] [(.int (1 : Int32)), (.int (0 : Int32))]))
    refine own_go (fun t k => XS.icmpYes X113.here hx rfl (pc0 := 28) (pc' := 35) rfl (hb hby at_28) rfl (feq (by decide : ¬ ((0 : Int32) = (1 : Int32)))).2 (by decide) (by decide) k) ?_
    show own_Go _ _ _ _ (T113.setTop (mkF m 35 #[.val (.int iv), .val (.int jv), .val (.int (0 : Int32)), .val (.int (0 : Int32)), .val (.ref u0), .val (.ref u0), .unset, .unset, .unset] []))
    refine own_go (fun t k => XS.iconst X113.here hx rfl (hb hby at_35) k) ?_
    show own_Go _ _ _ _ (T113.setTop (mkF m 36 #[.val (.int iv), .val (.int jv), .val (.int (0 : Int32)), .val (.int (0 : Int32)), .val (.ref u0), .val (.ref u0), .unset, .unset, .unset] [(.int (0 : Int32))]))
    refine own_go (fun t k => XS.istore X113.here hx rfl (hb hby at_36) rfl (l' := #[.val (.int iv), .val (.int jv), .val (.int (0 : Int32)), .val (.int (0 : Int32)), .val (.ref u0), .val (.ref u0), .val (.int (0 : Int32)), .unset, .unset]) rfl k) ?_
    show own_Go _ _ _ _ (T113.setTop (mkF m 38 #[.val (.int iv), .val (.int jv), .val (.int (0 : Int32)), .val (.int (0 : Int32)), .val (.ref u0), .val (.ref u0), .val (.int (0 : Int32)), .unset, .unset] []))
    refine own_go (fun t k => XS.iloadN X113.here hx rfl (hb hby at_38) rfl k) ?_
    show own_Go _ _ _ _ (T113.setTop (mkF m 39 #[.val (.int iv), .val (.int jv), .val (.int (0 : Int32)), .val (.int (0 : Int32)), .val (.ref u0), .val (.ref u0), .val (.int (0 : Int32)), .unset, .unset] [(.int (0 : Int32))]))
    refine own_go (fun t k => XS.iconst X113.here hx rfl (hb hby at_39) k) ?_
    show own_Go _ _ _ _ (T113.setTop (mkF m 40 #[.val (.int iv), .val (.int jv), .val (.int (0 : Int32)), .val (.int (0 : Int32)), .val (.ref u0), .val (.ref u0), .val (.int (0 : Int32)), .unset, .unset] [(.int (1 : Int32)), (.int (0 : Int32))]))
    refine own_go (fun t k => XS.icmpYes X113.here hx rfl (pc0 := 40) (pc' := 47) rfl (hb hby at_40) rfl (feq (by decide : ¬ ((0 : Int32) = (1 : Int32)))).2 (by decide) (by decide) k) ?_
    show own_Go _ _ _ _ (T113.setTop (mkF m 47 #[.val (.int iv), .val (.int jv), .val (.int (0 : Int32)), .val (.int (0 : Int32)), .val (.ref u0), .val (.ref u0), .val (.int (0 : Int32)), .unset, .unset] []))
    refine own_go (fun t k => XS.iconst X113.here hx rfl (hb hby at_47) k) ?_
    show own_Go _ _ _ _ (T113.setTop (mkF m 48 #[.val (.int iv), .val (.int jv), .val (.int (0 : Int32)), .val (.int (0 : Int32)), .val (.ref u0), .val (.ref u0), .val (.int (0 : Int32)), .unset, .unset] [(.int (0 : Int32))]))
    refine own_go (fun t k => XS.istore X113.here hx rfl (hb hby at_48) rfl (l' := #[.val (.int iv), .val (.int jv), .val (.int (0 : Int32)), .val (.int (0 : Int32)), .val (.ref u0), .val (.ref u0), .val (.int (0 : Int32)), .val (.int (0 : Int32)), .unset]) rfl k) ?_
    show own_Go _ _ _ _ (T113.setTop (mkF m 50 #[.val (.int iv), .val (.int jv), .val (.int (0 : Int32)), .val (.int (0 : Int32)), .val (.ref u0), .val (.ref u0), .val (.int (0 : Int32)), .val (.int (0 : Int32)), .unset] []))
    refine own_go (fun t k => XS.iload X113.here hx rfl (hb hby at_50) rfl k) ?_
    show own_Go _ _ _ _ (T113.setTop (mkF m 52 #[.val (.int iv), .val (.int jv), .val (.int (0 : Int32)), .val (.int (0 : Int32)), .val (.ref u0), .val (.ref u0), .val (.int (0 : Int32)), .val (.int (0 : Int32)), .unset] [(.int (0 : Int32))]))
    refine own_go (fun t k => XS.ifYes X113.here hx rfl (pc0 := 52) (pc' := 70) rfl (hb hby at_52) rfl ((if0 _ _).trans (teq (by decide : (0 : Int32) = (0 : Int32))).1) (by decide) (by decide) k) ?_
    show own_Go _ _ _ _ (T113.setTop (mkF m 70 #[.val (.int iv), .val (.int jv), .val (.int (0 : Int32)), .val (.int (0 : Int32)), .val (.ref u0), .val (.ref u0), .val (.int (0 : Int32)), .val (.int (0 : Int32)), .unset] []))
    refine own_go (fun t k => XS.iconst X113.here hx rfl (hb hby at_70) k) ?_
    show own_Go _ _ _ _ (T113.setTop (mkF m 71 #[.val (.int iv), .val (.int jv), .val (.int (0 : Int32)), .val (.int (0 : Int32)), .val (.ref u0), .val (.ref u0), .val (.int (0 : Int32)), .val (.int (0 : Int32)), .unset] [(.int (1 : Int32))]))
    refine own_go (fun t k => XS.istore X113.here hx rfl (hb hby at_71) rfl (l' := #[.val (.int iv), .val (.int jv), .val (.int (0 : Int32)), .val (.int (0 : Int32)), .val (.ref u0), .val (.ref u0), .val (.int (0 : Int32)), .val (.int (0 : Int32)), .val (.int (1 : Int32))]) rfl k) ?_
    show own_Go _ _ _ _ (T113.setTop (mkF m 73 #[.val (.int iv), .val (.int jv), .val (.int (0 : Int32)), .val (.int (0 : Int32)), .val (.ref u0), .val (.ref u0), .val (.int (0 : Int32)), .val (.int (0 : Int32)), .val (.int (1 : Int32))] []))
    refine own_go (fun t k => XS.aload X113.here hx rfl (hb hby at_73) rfl rfl k) ?_
    show own_Go _ _ _ _ (T113.setTop (mkF m 75 #[.val (.int iv), .val (.int jv), .val (.int (0 : Int32)), .val (.int (0 : Int32)), .val (.ref u0), .val (.ref u0), .val (.int (0 : Int32)), .val (.int (0 : Int32)), .val (.int (1 : Int32))] [(.ref u0)]))
    refine own_go (fun t k => XS.aload X113.here hx rfl (hb hby at_75) rfl rfl k) ?_
    show own_Go _ _ _ _ (T113.setTop (mkF m 77 #[.val (.int iv), .val (.int jv), .val (.int (0 : Int32)), .val (.int (0 : Int32)), .val (.ref u0), .val (.ref u0), .val (.int (0 : Int32)), .val (.int (0 : Int32)), .val (.int (1 : Int32))] [(.ref u0), (.ref u0)]))
    obtain ⟨cq114, kq114, q114a, q114b, q114c⟩ := isOf hZ e113 (E0.ext O0.2)
    obtain ⟨_, _, ⟨T114, L114, k114, n114⟩, -, X114, hS114, hg114, ⟨Lc114, hQ114, l114, y114, z114⟩, st114⟩ := X113.virtualBackS hx (y := (⟨"com/example/mangga/mangga/queue/Place$Kind", "waitsBehind", "(Lcom/example/mangga/mangga/queue/Place$Kind;)Z"⟩ : MethodName)) (z := (⟨"com/example/mangga/mangga/queue/Place$Kind", "waitsBehind", "(Lcom/example/mangga/mangga/queue/Place$Kind;)Z"⟩ : MethodName)) hown (mvT hZ (w_8 hw)) (mvT hZ (w_9 hw)) (notFace_of_selects (args := #[]) (mvT hZ (w_11 hw))) (mvT hZ (w_11 hw)) (mvT hZ (w_10 hw)) (by decide) (backOfS (W := 0) (rm_waits l Z a0 hw [] u0 u0 (0 : Int32) (0 : Int32) h0 n0 Z0 (F0.ext O0.2) (F0.ext O0.2)) hZ (w_12 hw) (w_6 hw) (by decide) (by decide)) q114a q114c (g := (mkF m 77 #[.val (.int iv), .val (.int jv), .val (.int (0 : Int32)), .val (.int (0 : Int32)), .val (.ref u0), .val (.ref u0), .val (.int (0 : Int32)), .val (.int (0 : Int32)), .val (.int (1 : Int32))] [(.ref u0), (.ref u0)])) rfl (by rw [hml]; rfl) (Steps.refl _) (argsL := [(.ref u0)]) (rest := []) (lenOf pd_2 rfl) rfl (by show 2 * 0 + _ ≤ _; exact Nat.le_of_eq rfl) (hb hby at_77) (fun _ _ => ⟨rfl, e113, (by decide : 0 + 2 ≤ _), (by decide : 0 + 24 ≤ _)⟩)
    dsimp only [Pt.U, Pt.locs, Pt.cells, Pt.slots] at X114 l114 y114 z114 st114 hQ114 hS114 hg114
    replace hS := foldS hS (Nat.le_trans hk (Nat.le_of_eq (congrArg Array.size e113.symm))) hS114 hg114
    have hZ := State.Warmed39.trans hZ hS114.1
    have hown : T114.vm.findClass "com/example/mangga/mangga/queue/KindWaitsBehindPinLaw" = some m.cls := by rw [hS114.1.alike.findClass]; exact hown
    replace X114 : Stand p l e room_1 (s.setVm T114.vm) m #[(.int iv), (.int jv)] below meth c T114 _ _ _ := X114
    subst l114 y114 z114
    generalize e114 : T114.heap = h114 at hQ114
    obtain ⟨rfl, N114q, K114q⟩ := hQ114
    have hk : T114.heap.size ≤ h114.size := Nat.le_of_eq (by rw [e114])
    have N114 := Fr.app N113 N114q
    refine own_go (fun t k => st114.trans k) ?_
    have Z114 : n0 ≤ h114.size := (Nat.le_trans Z0 K114q.1)
    show own_Go _ _ _ _ (T114.setTop (mkF m 80 #[.val (.int iv), .val (.int jv), .val (.int (0 : Int32)), .val (.int (0 : Int32)), .val (.ref u0), .val (.ref u0), .val (.int (0 : Int32)), .val (.int (0 : Int32)), .val (.int (1 : Int32))] [(.int (1 : Int32))]))
    refine own_go (fun t k => XS.iload X114.here hx rfl (hb hby at_80) rfl k) ?_
    show own_Go _ _ _ _ (T114.setTop (mkF m 82 #[.val (.int iv), .val (.int jv), .val (.int (0 : Int32)), .val (.int (0 : Int32)), .val (.ref u0), .val (.ref u0), .val (.int (0 : Int32)), .val (.int (0 : Int32)), .val (.int (1 : Int32))] [(.int (1 : Int32)), (.int (1 : Int32))]))
    refine own_go (fun t k => XS.icmpNo X114.here hx rfl (hb hby at_82) rfl (teq (by decide : (1 : Int32) = (1 : Int32))).2 k) ?_
    show own_Go _ _ _ _ (T114.setTop (mkF m 85 #[.val (.int iv), .val (.int jv), .val (.int (0 : Int32)), .val (.int (0 : Int32)), .val (.ref u0), .val (.ref u0), .val (.int (0 : Int32)), .val (.int (0 : Int32)), .val (.int (1 : Int32))] []))
    refine own_go (fun t k => XS.iconst X114.here hx rfl (hb hby at_85) k) ?_
    show own_Go _ _ _ _ (T114.setTop (mkF m 86 #[.val (.int iv), .val (.int jv), .val (.int (0 : Int32)), .val (.int (0 : Int32)), .val (.ref u0), .val (.ref u0), .val (.int (0 : Int32)), .val (.int (0 : Int32)), .val (.int (1 : Int32))] [(.int (1 : Int32))]))
    refine own_go (fun t k => XS.goto X114.here hx rfl (pc0 := 86) (pc' := 90) rfl (hb hby at_86) (by decide) (by decide) k) ?_
    show own_Go _ _ _ _ (T114.setTop (mkF m 90 #[.val (.int iv), .val (.int jv), .val (.int (0 : Int32)), .val (.int (0 : Int32)), .val (.ref u0), .val (.ref u0), .val (.int (0 : Int32)), .val (.int (0 : Int32)), .val (.int (1 : Int32))] [(.int (1 : Int32))]))
    refine own_retNW X114 hx hS (Nat.le_trans hk (Nat.le_of_eq (congrArg Array.size e114.symm))) hlk (t := .boolean) hret (by simp) (hb hby at_90) ?_ (by decide) (by decide)
    rw [e114]
    exact ⟨rfl, N114⟩
  · show own_Go _ _ _ _ (s₁.setTop (mkF m 13 #[.val (.int iv), .val (.int jv), .val (.int (0 : Int32)), .unset, .unset, .unset, .unset, .unset, .unset] [(.int (1 : Int32))]))
    refine own_go (fun t k => XS.istoreN X0.here hx rfl (hb hby at_13) rfl (l' := #[.val (.int iv), .val (.int jv), .val (.int (0 : Int32)), .val (.int (1 : Int32)), .unset, .unset, .unset, .unset, .unset]) rfl k) ?_
    show own_Go _ _ _ _ (s₁.setTop (mkF m 14 #[.val (.int iv), .val (.int jv), .val (.int (0 : Int32)), .val (.int (1 : Int32)), .unset, .unset, .unset, .unset, .unset] []))
    refine own_go (fun t k => XS.iloadN X0.here hx rfl (hb hby at_14) rfl k) ?_
    show own_Go _ _ _ _ (s₁.setTop (mkF m 15 #[.val (.int iv), .val (.int jv), .val (.int (0 : Int32)), .val (.int (1 : Int32)), .unset, .unset, .unset, .unset, .unset] [(.int (0 : Int32))]))
    obtain ⟨_, _, ⟨T115, L115, k115, n115⟩, -, X115, ⟨Lc115, hQ115, l115, y115, z115⟩, st115⟩ := Jvm.LawKit.callS X0 hx (y := (⟨"com/example/mangga/mangga/queue/KindWaitsBehindPinLaw", "kindOf", "(I)Lcom/example/mangga/mangga/queue/Place$Kind;"⟩ : MethodName)) hown (mvT hZ (w_1 hw)) (mvT hZ (w_2 hw)) (mvT hZ (w_3 hw)) (mvT hZ (w_4 hw)) (by decide) (backOf (W := 0) (rm_kind l Z a0 hw [] (0 : Int32) u0 u1 u2 h0 n0 Z0 O0 S0 S1 S2) hZ (w_4 hw) (w_3 hw) (by decide) (by decide)) (g := (mkF m 15 #[.val (.int iv), .val (.int jv), .val (.int (0 : Int32)), .val (.int (1 : Int32)), .unset, .unset, .unset, .unset, .unset] [(.int (0 : Int32))])) rfl (by rw [hml]; rfl) (argsL := [(.int (0 : Int32))]) (rest := []) (lenOf pd_1 rfl) rfl (by show 2 * 0 + _ ≤ _; exact Nat.le_of_eq rfl) (hb hby at_15) (fun _ _ => ⟨rfl, e0, (by decide : 0 + 0 ≤ _), (by decide : 0 + 0 ≤ _)⟩)
    dsimp only [Pt.U, Pt.locs, Pt.cells, Pt.slots] at X115 l115 y115 z115 st115 hQ115
    subst l115 y115 z115
    obtain ⟨rfl, N115q, e115⟩ := hQ115
    have N115 := Fr.app N0 N115q
    refine own_go st115 ?_
    show own_Go _ _ _ _ (T115.setTop (mkF m 18 #[.val (.int iv), .val (.int jv), .val (.int (0 : Int32)), .val (.int (1 : Int32)), .unset, .unset, .unset, .unset, .unset] [(.ref u0)]))
    refine own_go (fun t k => XS.astore X115.here hx rfl (hb hby at_18) rfl rfl (l' := #[.val (.int iv), .val (.int jv), .val (.int (0 : Int32)), .val (.int (1 : Int32)), .val (.ref u0), .unset, .unset, .unset, .unset]) rfl k) ?_
    show own_Go _ _ _ _ (T115.setTop (mkF m 20 #[.val (.int iv), .val (.int jv), .val (.int (0 : Int32)), .val (.int (1 : Int32)), .val (.ref u0), .unset, .unset, .unset, .unset] []))
    refine own_go (fun t k => XS.iloadN X115.here hx rfl (hb hby at_20) rfl k) ?_
    show own_Go _ _ _ _ (T115.setTop (mkF m 21 #[.val (.int iv), .val (.int jv), .val (.int (0 : Int32)), .val (.int (1 : Int32)), .val (.ref u0), .unset, .unset, .unset, .unset] [(.int (1 : Int32))]))
    obtain ⟨_, _, ⟨T116, L116, k116, n116⟩, -, X116, ⟨Lc116, hQ116, l116, y116, z116⟩, st116⟩ := Jvm.LawKit.callS X115 hx (y := (⟨"com/example/mangga/mangga/queue/KindWaitsBehindPinLaw", "kindOf", "(I)Lcom/example/mangga/mangga/queue/Place$Kind;"⟩ : MethodName)) hown (mvT hZ (w_1 hw)) (mvT hZ (w_2 hw)) (mvT hZ (w_3 hw)) (mvT hZ (w_4 hw)) (by decide) (backOf (W := 0) (rm_kind l Z a0 hw [] (1 : Int32) u0 u1 u2 h0 n0 Z0 O0 S0 S1 S2) hZ (w_4 hw) (w_3 hw) (by decide) (by decide)) (g := (mkF m 21 #[.val (.int iv), .val (.int jv), .val (.int (0 : Int32)), .val (.int (1 : Int32)), .val (.ref u0), .unset, .unset, .unset, .unset] [(.int (1 : Int32))])) rfl (by rw [hml]; rfl) (argsL := [(.int (1 : Int32))]) (rest := []) (lenOf pd_1 rfl) rfl (by show 2 * 0 + _ ≤ _; exact Nat.le_of_eq rfl) (hb hby at_21) (fun _ _ => ⟨rfl, e115, (by decide : 0 + 0 ≤ _), (by decide : 0 + 0 ≤ _)⟩)
    dsimp only [Pt.U, Pt.locs, Pt.cells, Pt.slots] at X116 l116 y116 z116 st116 hQ116
    subst l116 y116 z116
    obtain ⟨rfl, N116q, e116⟩ := hQ116
    have N116 := Fr.app N115 N116q
    refine own_go st116 ?_
    show own_Go _ _ _ _ (T116.setTop (mkF m 24 #[.val (.int iv), .val (.int jv), .val (.int (0 : Int32)), .val (.int (1 : Int32)), .val (.ref u0), .unset, .unset, .unset, .unset] [(.ref u1)]))
    refine own_go (fun t k => XS.astore X116.here hx rfl (hb hby at_24) rfl rfl (l' := #[.val (.int iv), .val (.int jv), .val (.int (0 : Int32)), .val (.int (1 : Int32)), .val (.ref u0), .val (.ref u1), .unset, .unset, .unset]) rfl k) ?_
    show own_Go _ _ _ _ (T116.setTop (mkF m 26 #[.val (.int iv), .val (.int jv), .val (.int (0 : Int32)), .val (.int (1 : Int32)), .val (.ref u0), .val (.ref u1), .unset, .unset, .unset] []))
    refine own_go (fun t k => XS.iloadN X116.here hx rfl (hb hby at_26) rfl k) ?_
    show own_Go _ _ _ _ (T116.setTop (mkF m 27 #[.val (.int iv), .val (.int jv), .val (.int (0 : Int32)), .val (.int (1 : Int32)), .val (.ref u0), .val (.ref u1), .unset, .unset, .unset] [(.int (0 : Int32))]))
    refine own_go (fun t k => XS.iconst X116.here hx rfl (hb hby at_27) k) ?_
    show own_Go _ _ _ _ (T116.setTop (mkF m 28 #[.val (.int iv), .val (.int jv), .val (.int (0 : Int32)), .val (.int (1 : Int32)), .val (.ref u0), .val (.ref u1), .unset, .unset, .unset] [(.int (1 : Int32)), (.int (0 : Int32))]))
    refine own_go (fun t k => XS.icmpYes X116.here hx rfl (pc0 := 28) (pc' := 35) rfl (hb hby at_28) rfl (feq (by decide : ¬ ((0 : Int32) = (1 : Int32)))).2 (by decide) (by decide) k) ?_
    show own_Go _ _ _ _ (T116.setTop (mkF m 35 #[.val (.int iv), .val (.int jv), .val (.int (0 : Int32)), .val (.int (1 : Int32)), .val (.ref u0), .val (.ref u1), .unset, .unset, .unset] []))
    refine own_go (fun t k => XS.iconst X116.here hx rfl (hb hby at_35) k) ?_
    show own_Go _ _ _ _ (T116.setTop (mkF m 36 #[.val (.int iv), .val (.int jv), .val (.int (0 : Int32)), .val (.int (1 : Int32)), .val (.ref u0), .val (.ref u1), .unset, .unset, .unset] [(.int (0 : Int32))]))
    refine own_go (fun t k => XS.istore X116.here hx rfl (hb hby at_36) rfl (l' := #[.val (.int iv), .val (.int jv), .val (.int (0 : Int32)), .val (.int (1 : Int32)), .val (.ref u0), .val (.ref u1), .val (.int (0 : Int32)), .unset, .unset]) rfl k) ?_
    show own_Go _ _ _ _ (T116.setTop (mkF m 38 #[.val (.int iv), .val (.int jv), .val (.int (0 : Int32)), .val (.int (1 : Int32)), .val (.ref u0), .val (.ref u1), .val (.int (0 : Int32)), .unset, .unset] []))
    refine own_go (fun t k => XS.iloadN X116.here hx rfl (hb hby at_38) rfl k) ?_
    show own_Go _ _ _ _ (T116.setTop (mkF m 39 #[.val (.int iv), .val (.int jv), .val (.int (0 : Int32)), .val (.int (1 : Int32)), .val (.ref u0), .val (.ref u1), .val (.int (0 : Int32)), .unset, .unset] [(.int (1 : Int32))]))
    refine own_go (fun t k => XS.iconst X116.here hx rfl (hb hby at_39) k) ?_
    show own_Go _ _ _ _ (T116.setTop (mkF m 40 #[.val (.int iv), .val (.int jv), .val (.int (0 : Int32)), .val (.int (1 : Int32)), .val (.ref u0), .val (.ref u1), .val (.int (0 : Int32)), .unset, .unset] [(.int (1 : Int32)), (.int (1 : Int32))]))
    refine own_go (fun t k => XS.icmpNo X116.here hx rfl (hb hby at_40) rfl (teq (by decide : (1 : Int32) = (1 : Int32))).2 k) ?_
    show own_Go _ _ _ _ (T116.setTop (mkF m 43 #[.val (.int iv), .val (.int jv), .val (.int (0 : Int32)), .val (.int (1 : Int32)), .val (.ref u0), .val (.ref u1), .val (.int (0 : Int32)), .unset, .unset] []))
    refine own_go (fun t k => XS.iconst X116.here hx rfl (hb hby at_43) k) ?_
    show own_Go _ _ _ _ (T116.setTop (mkF m 44 #[.val (.int iv), .val (.int jv), .val (.int (0 : Int32)), .val (.int (1 : Int32)), .val (.ref u0), .val (.ref u1), .val (.int (0 : Int32)), .unset, .unset] [(.int (1 : Int32))]))
    refine own_go (fun t k => XS.goto X116.here hx rfl (pc0 := 44) (pc' := 48) rfl (hb hby at_44) (by decide) (by decide) k) ?_
    show own_Go _ _ _ _ (T116.setTop (mkF m 48 #[.val (.int iv), .val (.int jv), .val (.int (0 : Int32)), .val (.int (1 : Int32)), .val (.ref u0), .val (.ref u1), .val (.int (0 : Int32)), .unset, .unset] [(.int (1 : Int32))]))
    refine own_go (fun t k => XS.istore X116.here hx rfl (hb hby at_48) rfl (l' := #[.val (.int iv), .val (.int jv), .val (.int (0 : Int32)), .val (.int (1 : Int32)), .val (.ref u0), .val (.ref u1), .val (.int (0 : Int32)), .val (.int (1 : Int32)), .unset]) rfl k) ?_
    show own_Go _ _ _ _ (T116.setTop (mkF m 50 #[.val (.int iv), .val (.int jv), .val (.int (0 : Int32)), .val (.int (1 : Int32)), .val (.ref u0), .val (.ref u1), .val (.int (0 : Int32)), .val (.int (1 : Int32)), .unset] []))
    refine own_go (fun t k => XS.iload X116.here hx rfl (hb hby at_50) rfl k) ?_
    show own_Go _ _ _ _ (T116.setTop (mkF m 52 #[.val (.int iv), .val (.int jv), .val (.int (0 : Int32)), .val (.int (1 : Int32)), .val (.ref u0), .val (.ref u1), .val (.int (0 : Int32)), .val (.int (1 : Int32)), .unset] [(.int (0 : Int32))]))
    refine own_go (fun t k => XS.ifYes X116.here hx rfl (pc0 := 52) (pc' := 70) rfl (hb hby at_52) rfl ((if0 _ _).trans (teq (by decide : (0 : Int32) = (0 : Int32))).1) (by decide) (by decide) k) ?_
    show own_Go _ _ _ _ (T116.setTop (mkF m 70 #[.val (.int iv), .val (.int jv), .val (.int (0 : Int32)), .val (.int (1 : Int32)), .val (.ref u0), .val (.ref u1), .val (.int (0 : Int32)), .val (.int (1 : Int32)), .unset] []))
    refine own_go (fun t k => XS.iconst X116.here hx rfl (hb hby at_70) k) ?_
    show own_Go _ _ _ _ (T116.setTop (mkF m 71 #[.val (.int iv), .val (.int jv), .val (.int (0 : Int32)), .val (.int (1 : Int32)), .val (.ref u0), .val (.ref u1), .val (.int (0 : Int32)), .val (.int (1 : Int32)), .unset] [(.int (1 : Int32))]))
    refine own_go (fun t k => XS.istore X116.here hx rfl (hb hby at_71) rfl (l' := #[.val (.int iv), .val (.int jv), .val (.int (0 : Int32)), .val (.int (1 : Int32)), .val (.ref u0), .val (.ref u1), .val (.int (0 : Int32)), .val (.int (1 : Int32)), .val (.int (1 : Int32))]) rfl k) ?_
    show own_Go _ _ _ _ (T116.setTop (mkF m 73 #[.val (.int iv), .val (.int jv), .val (.int (0 : Int32)), .val (.int (1 : Int32)), .val (.ref u0), .val (.ref u1), .val (.int (0 : Int32)), .val (.int (1 : Int32)), .val (.int (1 : Int32))] []))
    refine own_go (fun t k => XS.aload X116.here hx rfl (hb hby at_73) rfl rfl k) ?_
    show own_Go _ _ _ _ (T116.setTop (mkF m 75 #[.val (.int iv), .val (.int jv), .val (.int (0 : Int32)), .val (.int (1 : Int32)), .val (.ref u0), .val (.ref u1), .val (.int (0 : Int32)), .val (.int (1 : Int32)), .val (.int (1 : Int32))] [(.ref u0)]))
    refine own_go (fun t k => XS.aload X116.here hx rfl (hb hby at_75) rfl rfl k) ?_
    show own_Go _ _ _ _ (T116.setTop (mkF m 77 #[.val (.int iv), .val (.int jv), .val (.int (0 : Int32)), .val (.int (1 : Int32)), .val (.ref u0), .val (.ref u1), .val (.int (0 : Int32)), .val (.int (1 : Int32)), .val (.int (1 : Int32))] [(.ref u1), (.ref u0)]))
    obtain ⟨cq117, kq117, q117a, q117b, q117c⟩ := isOf hZ e116 (E0.ext O0.2)
    obtain ⟨_, _, ⟨T117, L117, k117, n117⟩, -, X117, hS117, hg117, ⟨Lc117, hQ117, l117, y117, z117⟩, st117⟩ := X116.virtualBackS hx (y := (⟨"com/example/mangga/mangga/queue/Place$Kind", "waitsBehind", "(Lcom/example/mangga/mangga/queue/Place$Kind;)Z"⟩ : MethodName)) (z := (⟨"com/example/mangga/mangga/queue/Place$Kind", "waitsBehind", "(Lcom/example/mangga/mangga/queue/Place$Kind;)Z"⟩ : MethodName)) hown (mvT hZ (w_8 hw)) (mvT hZ (w_9 hw)) (notFace_of_selects (args := #[]) (mvT hZ (w_11 hw))) (mvT hZ (w_11 hw)) (mvT hZ (w_10 hw)) (by decide) (backOfS (W := 0) (rm_waits l Z a0 hw [] u0 u1 (0 : Int32) (1 : Int32) h0 n0 Z0 (F0.ext O0.2) (F1.ext O0.2)) hZ (w_12 hw) (w_6 hw) (by decide) (by decide)) q117a q117c (g := (mkF m 77 #[.val (.int iv), .val (.int jv), .val (.int (0 : Int32)), .val (.int (1 : Int32)), .val (.ref u0), .val (.ref u1), .val (.int (0 : Int32)), .val (.int (1 : Int32)), .val (.int (1 : Int32))] [(.ref u1), (.ref u0)])) rfl (by rw [hml]; rfl) (Steps.refl _) (argsL := [(.ref u1)]) (rest := []) (lenOf pd_2 rfl) rfl (by show 2 * 0 + _ ≤ _; exact Nat.le_of_eq rfl) (hb hby at_77) (fun _ _ => ⟨rfl, e116, (by decide : 0 + 2 ≤ _), (by decide : 0 + 24 ≤ _)⟩)
    dsimp only [Pt.U, Pt.locs, Pt.cells, Pt.slots] at X117 l117 y117 z117 st117 hQ117 hS117 hg117
    replace hS := foldS hS (Nat.le_trans hk (Nat.le_of_eq (congrArg Array.size e116.symm))) hS117 hg117
    have hZ := State.Warmed39.trans hZ hS117.1
    have hown : T117.vm.findClass "com/example/mangga/mangga/queue/KindWaitsBehindPinLaw" = some m.cls := by rw [hS117.1.alike.findClass]; exact hown
    replace X117 : Stand p l e room_1 (s.setVm T117.vm) m #[(.int iv), (.int jv)] below meth c T117 _ _ _ := X117
    subst l117 y117 z117
    generalize e117 : T117.heap = h117 at hQ117
    obtain ⟨rfl, N117q, K117q⟩ := hQ117
    have hk : T117.heap.size ≤ h117.size := Nat.le_of_eq (by rw [e117])
    have N117 := Fr.app N116 N117q
    refine own_go (fun t k => st117.trans k) ?_
    have Z117 : n0 ≤ h117.size := (Nat.le_trans Z0 K117q.1)
    show own_Go _ _ _ _ (T117.setTop (mkF m 80 #[.val (.int iv), .val (.int jv), .val (.int (0 : Int32)), .val (.int (1 : Int32)), .val (.ref u0), .val (.ref u1), .val (.int (0 : Int32)), .val (.int (1 : Int32)), .val (.int (1 : Int32))] [(.int (1 : Int32))]))
    refine own_go (fun t k => XS.iload X117.here hx rfl (hb hby at_80) rfl k) ?_
    show own_Go _ _ _ _ (T117.setTop (mkF m 82 #[.val (.int iv), .val (.int jv), .val (.int (0 : Int32)), .val (.int (1 : Int32)), .val (.ref u0), .val (.ref u1), .val (.int (0 : Int32)), .val (.int (1 : Int32)), .val (.int (1 : Int32))] [(.int (1 : Int32)), (.int (1 : Int32))]))
    refine own_go (fun t k => XS.icmpNo X117.here hx rfl (hb hby at_82) rfl (teq (by decide : (1 : Int32) = (1 : Int32))).2 k) ?_
    show own_Go _ _ _ _ (T117.setTop (mkF m 85 #[.val (.int iv), .val (.int jv), .val (.int (0 : Int32)), .val (.int (1 : Int32)), .val (.ref u0), .val (.ref u1), .val (.int (0 : Int32)), .val (.int (1 : Int32)), .val (.int (1 : Int32))] []))
    refine own_go (fun t k => XS.iconst X117.here hx rfl (hb hby at_85) k) ?_
    show own_Go _ _ _ _ (T117.setTop (mkF m 86 #[.val (.int iv), .val (.int jv), .val (.int (0 : Int32)), .val (.int (1 : Int32)), .val (.ref u0), .val (.ref u1), .val (.int (0 : Int32)), .val (.int (1 : Int32)), .val (.int (1 : Int32))] [(.int (1 : Int32))]))
    refine own_go (fun t k => XS.goto X117.here hx rfl (pc0 := 86) (pc' := 90) rfl (hb hby at_86) (by decide) (by decide) k) ?_
    show own_Go _ _ _ _ (T117.setTop (mkF m 90 #[.val (.int iv), .val (.int jv), .val (.int (0 : Int32)), .val (.int (1 : Int32)), .val (.ref u0), .val (.ref u1), .val (.int (0 : Int32)), .val (.int (1 : Int32)), .val (.int (1 : Int32))] [(.int (1 : Int32))]))
    refine own_retNW X117 hx hS (Nat.le_trans hk (Nat.le_of_eq (congrArg Array.size e117.symm))) hlk (t := .boolean) hret (by simp) (hb hby at_90) ?_ (by decide) (by decide)
    rw [e117]
    exact ⟨rfl, N117⟩
  · show own_Go _ _ _ _ (s₁.setTop (mkF m 13 #[.val (.int iv), .val (.int jv), .val (.int (0 : Int32)), .unset, .unset, .unset, .unset, .unset, .unset] [(.int (2 : Int32))]))
    refine own_go (fun t k => XS.istoreN X0.here hx rfl (hb hby at_13) rfl (l' := #[.val (.int iv), .val (.int jv), .val (.int (0 : Int32)), .val (.int (2 : Int32)), .unset, .unset, .unset, .unset, .unset]) rfl k) ?_
    show own_Go _ _ _ _ (s₁.setTop (mkF m 14 #[.val (.int iv), .val (.int jv), .val (.int (0 : Int32)), .val (.int (2 : Int32)), .unset, .unset, .unset, .unset, .unset] []))
    refine own_go (fun t k => XS.iloadN X0.here hx rfl (hb hby at_14) rfl k) ?_
    show own_Go _ _ _ _ (s₁.setTop (mkF m 15 #[.val (.int iv), .val (.int jv), .val (.int (0 : Int32)), .val (.int (2 : Int32)), .unset, .unset, .unset, .unset, .unset] [(.int (0 : Int32))]))
    obtain ⟨_, _, ⟨T118, L118, k118, n118⟩, -, X118, ⟨Lc118, hQ118, l118, y118, z118⟩, st118⟩ := Jvm.LawKit.callS X0 hx (y := (⟨"com/example/mangga/mangga/queue/KindWaitsBehindPinLaw", "kindOf", "(I)Lcom/example/mangga/mangga/queue/Place$Kind;"⟩ : MethodName)) hown (mvT hZ (w_1 hw)) (mvT hZ (w_2 hw)) (mvT hZ (w_3 hw)) (mvT hZ (w_4 hw)) (by decide) (backOf (W := 0) (rm_kind l Z a0 hw [] (0 : Int32) u0 u1 u2 h0 n0 Z0 O0 S0 S1 S2) hZ (w_4 hw) (w_3 hw) (by decide) (by decide)) (g := (mkF m 15 #[.val (.int iv), .val (.int jv), .val (.int (0 : Int32)), .val (.int (2 : Int32)), .unset, .unset, .unset, .unset, .unset] [(.int (0 : Int32))])) rfl (by rw [hml]; rfl) (argsL := [(.int (0 : Int32))]) (rest := []) (lenOf pd_1 rfl) rfl (by show 2 * 0 + _ ≤ _; exact Nat.le_of_eq rfl) (hb hby at_15) (fun _ _ => ⟨rfl, e0, (by decide : 0 + 0 ≤ _), (by decide : 0 + 0 ≤ _)⟩)
    dsimp only [Pt.U, Pt.locs, Pt.cells, Pt.slots] at X118 l118 y118 z118 st118 hQ118
    subst l118 y118 z118
    obtain ⟨rfl, N118q, e118⟩ := hQ118
    have N118 := Fr.app N0 N118q
    refine own_go st118 ?_
    show own_Go _ _ _ _ (T118.setTop (mkF m 18 #[.val (.int iv), .val (.int jv), .val (.int (0 : Int32)), .val (.int (2 : Int32)), .unset, .unset, .unset, .unset, .unset] [(.ref u0)]))
    refine own_go (fun t k => XS.astore X118.here hx rfl (hb hby at_18) rfl rfl (l' := #[.val (.int iv), .val (.int jv), .val (.int (0 : Int32)), .val (.int (2 : Int32)), .val (.ref u0), .unset, .unset, .unset, .unset]) rfl k) ?_
    show own_Go _ _ _ _ (T118.setTop (mkF m 20 #[.val (.int iv), .val (.int jv), .val (.int (0 : Int32)), .val (.int (2 : Int32)), .val (.ref u0), .unset, .unset, .unset, .unset] []))
    refine own_go (fun t k => XS.iloadN X118.here hx rfl (hb hby at_20) rfl k) ?_
    show own_Go _ _ _ _ (T118.setTop (mkF m 21 #[.val (.int iv), .val (.int jv), .val (.int (0 : Int32)), .val (.int (2 : Int32)), .val (.ref u0), .unset, .unset, .unset, .unset] [(.int (2 : Int32))]))
    obtain ⟨_, _, ⟨T119, L119, k119, n119⟩, -, X119, ⟨Lc119, hQ119, l119, y119, z119⟩, st119⟩ := Jvm.LawKit.callS X118 hx (y := (⟨"com/example/mangga/mangga/queue/KindWaitsBehindPinLaw", "kindOf", "(I)Lcom/example/mangga/mangga/queue/Place$Kind;"⟩ : MethodName)) hown (mvT hZ (w_1 hw)) (mvT hZ (w_2 hw)) (mvT hZ (w_3 hw)) (mvT hZ (w_4 hw)) (by decide) (backOf (W := 0) (rm_kind l Z a0 hw [] (2 : Int32) u0 u1 u2 h0 n0 Z0 O0 S0 S1 S2) hZ (w_4 hw) (w_3 hw) (by decide) (by decide)) (g := (mkF m 21 #[.val (.int iv), .val (.int jv), .val (.int (0 : Int32)), .val (.int (2 : Int32)), .val (.ref u0), .unset, .unset, .unset, .unset] [(.int (2 : Int32))])) rfl (by rw [hml]; rfl) (argsL := [(.int (2 : Int32))]) (rest := []) (lenOf pd_1 rfl) rfl (by show 2 * 0 + _ ≤ _; exact Nat.le_of_eq rfl) (hb hby at_21) (fun _ _ => ⟨rfl, e118, (by decide : 0 + 0 ≤ _), (by decide : 0 + 0 ≤ _)⟩)
    dsimp only [Pt.U, Pt.locs, Pt.cells, Pt.slots] at X119 l119 y119 z119 st119 hQ119
    subst l119 y119 z119
    obtain ⟨rfl, N119q, e119⟩ := hQ119
    have N119 := Fr.app N118 N119q
    refine own_go st119 ?_
    show own_Go _ _ _ _ (T119.setTop (mkF m 24 #[.val (.int iv), .val (.int jv), .val (.int (0 : Int32)), .val (.int (2 : Int32)), .val (.ref u0), .unset, .unset, .unset, .unset] [(.ref u2)]))
    refine own_go (fun t k => XS.astore X119.here hx rfl (hb hby at_24) rfl rfl (l' := #[.val (.int iv), .val (.int jv), .val (.int (0 : Int32)), .val (.int (2 : Int32)), .val (.ref u0), .val (.ref u2), .unset, .unset, .unset]) rfl k) ?_
    show own_Go _ _ _ _ (T119.setTop (mkF m 26 #[.val (.int iv), .val (.int jv), .val (.int (0 : Int32)), .val (.int (2 : Int32)), .val (.ref u0), .val (.ref u2), .unset, .unset, .unset] []))
    refine own_go (fun t k => XS.iloadN X119.here hx rfl (hb hby at_26) rfl k) ?_
    show own_Go _ _ _ _ (T119.setTop (mkF m 27 #[.val (.int iv), .val (.int jv), .val (.int (0 : Int32)), .val (.int (2 : Int32)), .val (.ref u0), .val (.ref u2), .unset, .unset, .unset] [(.int (0 : Int32))]))
    refine own_go (fun t k => XS.iconst X119.here hx rfl (hb hby at_27) k) ?_
    show own_Go _ _ _ _ (T119.setTop (mkF m 28 #[.val (.int iv), .val (.int jv), .val (.int (0 : Int32)), .val (.int (2 : Int32)), .val (.ref u0), .val (.ref u2), .unset, .unset, .unset] [(.int (1 : Int32)), (.int (0 : Int32))]))
    refine own_go (fun t k => XS.icmpYes X119.here hx rfl (pc0 := 28) (pc' := 35) rfl (hb hby at_28) rfl (feq (by decide : ¬ ((0 : Int32) = (1 : Int32)))).2 (by decide) (by decide) k) ?_
    show own_Go _ _ _ _ (T119.setTop (mkF m 35 #[.val (.int iv), .val (.int jv), .val (.int (0 : Int32)), .val (.int (2 : Int32)), .val (.ref u0), .val (.ref u2), .unset, .unset, .unset] []))
    refine own_go (fun t k => XS.iconst X119.here hx rfl (hb hby at_35) k) ?_
    show own_Go _ _ _ _ (T119.setTop (mkF m 36 #[.val (.int iv), .val (.int jv), .val (.int (0 : Int32)), .val (.int (2 : Int32)), .val (.ref u0), .val (.ref u2), .unset, .unset, .unset] [(.int (0 : Int32))]))
    refine own_go (fun t k => XS.istore X119.here hx rfl (hb hby at_36) rfl (l' := #[.val (.int iv), .val (.int jv), .val (.int (0 : Int32)), .val (.int (2 : Int32)), .val (.ref u0), .val (.ref u2), .val (.int (0 : Int32)), .unset, .unset]) rfl k) ?_
    show own_Go _ _ _ _ (T119.setTop (mkF m 38 #[.val (.int iv), .val (.int jv), .val (.int (0 : Int32)), .val (.int (2 : Int32)), .val (.ref u0), .val (.ref u2), .val (.int (0 : Int32)), .unset, .unset] []))
    refine own_go (fun t k => XS.iloadN X119.here hx rfl (hb hby at_38) rfl k) ?_
    show own_Go _ _ _ _ (T119.setTop (mkF m 39 #[.val (.int iv), .val (.int jv), .val (.int (0 : Int32)), .val (.int (2 : Int32)), .val (.ref u0), .val (.ref u2), .val (.int (0 : Int32)), .unset, .unset] [(.int (2 : Int32))]))
    refine own_go (fun t k => XS.iconst X119.here hx rfl (hb hby at_39) k) ?_
    show own_Go _ _ _ _ (T119.setTop (mkF m 40 #[.val (.int iv), .val (.int jv), .val (.int (0 : Int32)), .val (.int (2 : Int32)), .val (.ref u0), .val (.ref u2), .val (.int (0 : Int32)), .unset, .unset] [(.int (1 : Int32)), (.int (2 : Int32))]))
    refine own_go (fun t k => XS.icmpYes X119.here hx rfl (pc0 := 40) (pc' := 47) rfl (hb hby at_40) rfl (feq (by decide : ¬ ((2 : Int32) = (1 : Int32)))).2 (by decide) (by decide) k) ?_
    show own_Go _ _ _ _ (T119.setTop (mkF m 47 #[.val (.int iv), .val (.int jv), .val (.int (0 : Int32)), .val (.int (2 : Int32)), .val (.ref u0), .val (.ref u2), .val (.int (0 : Int32)), .unset, .unset] []))
    refine own_go (fun t k => XS.iconst X119.here hx rfl (hb hby at_47) k) ?_
    show own_Go _ _ _ _ (T119.setTop (mkF m 48 #[.val (.int iv), .val (.int jv), .val (.int (0 : Int32)), .val (.int (2 : Int32)), .val (.ref u0), .val (.ref u2), .val (.int (0 : Int32)), .unset, .unset] [(.int (0 : Int32))]))
    refine own_go (fun t k => XS.istore X119.here hx rfl (hb hby at_48) rfl (l' := #[.val (.int iv), .val (.int jv), .val (.int (0 : Int32)), .val (.int (2 : Int32)), .val (.ref u0), .val (.ref u2), .val (.int (0 : Int32)), .val (.int (0 : Int32)), .unset]) rfl k) ?_
    show own_Go _ _ _ _ (T119.setTop (mkF m 50 #[.val (.int iv), .val (.int jv), .val (.int (0 : Int32)), .val (.int (2 : Int32)), .val (.ref u0), .val (.ref u2), .val (.int (0 : Int32)), .val (.int (0 : Int32)), .unset] []))
    refine own_go (fun t k => XS.iload X119.here hx rfl (hb hby at_50) rfl k) ?_
    show own_Go _ _ _ _ (T119.setTop (mkF m 52 #[.val (.int iv), .val (.int jv), .val (.int (0 : Int32)), .val (.int (2 : Int32)), .val (.ref u0), .val (.ref u2), .val (.int (0 : Int32)), .val (.int (0 : Int32)), .unset] [(.int (0 : Int32))]))
    refine own_go (fun t k => XS.ifYes X119.here hx rfl (pc0 := 52) (pc' := 70) rfl (hb hby at_52) rfl ((if0 _ _).trans (teq (by decide : (0 : Int32) = (0 : Int32))).1) (by decide) (by decide) k) ?_
    show own_Go _ _ _ _ (T119.setTop (mkF m 70 #[.val (.int iv), .val (.int jv), .val (.int (0 : Int32)), .val (.int (2 : Int32)), .val (.ref u0), .val (.ref u2), .val (.int (0 : Int32)), .val (.int (0 : Int32)), .unset] []))
    refine own_go (fun t k => XS.iconst X119.here hx rfl (hb hby at_70) k) ?_
    show own_Go _ _ _ _ (T119.setTop (mkF m 71 #[.val (.int iv), .val (.int jv), .val (.int (0 : Int32)), .val (.int (2 : Int32)), .val (.ref u0), .val (.ref u2), .val (.int (0 : Int32)), .val (.int (0 : Int32)), .unset] [(.int (1 : Int32))]))
    refine own_go (fun t k => XS.istore X119.here hx rfl (hb hby at_71) rfl (l' := #[.val (.int iv), .val (.int jv), .val (.int (0 : Int32)), .val (.int (2 : Int32)), .val (.ref u0), .val (.ref u2), .val (.int (0 : Int32)), .val (.int (0 : Int32)), .val (.int (1 : Int32))]) rfl k) ?_
    show own_Go _ _ _ _ (T119.setTop (mkF m 73 #[.val (.int iv), .val (.int jv), .val (.int (0 : Int32)), .val (.int (2 : Int32)), .val (.ref u0), .val (.ref u2), .val (.int (0 : Int32)), .val (.int (0 : Int32)), .val (.int (1 : Int32))] []))
    refine own_go (fun t k => XS.aload X119.here hx rfl (hb hby at_73) rfl rfl k) ?_
    show own_Go _ _ _ _ (T119.setTop (mkF m 75 #[.val (.int iv), .val (.int jv), .val (.int (0 : Int32)), .val (.int (2 : Int32)), .val (.ref u0), .val (.ref u2), .val (.int (0 : Int32)), .val (.int (0 : Int32)), .val (.int (1 : Int32))] [(.ref u0)]))
    refine own_go (fun t k => XS.aload X119.here hx rfl (hb hby at_75) rfl rfl k) ?_
    show own_Go _ _ _ _ (T119.setTop (mkF m 77 #[.val (.int iv), .val (.int jv), .val (.int (0 : Int32)), .val (.int (2 : Int32)), .val (.ref u0), .val (.ref u2), .val (.int (0 : Int32)), .val (.int (0 : Int32)), .val (.int (1 : Int32))] [(.ref u2), (.ref u0)]))
    obtain ⟨cq120, kq120, q120a, q120b, q120c⟩ := isOf hZ e119 (E0.ext O0.2)
    obtain ⟨_, _, ⟨T120, L120, k120, n120⟩, -, X120, hS120, hg120, ⟨Lc120, hQ120, l120, y120, z120⟩, st120⟩ := X119.virtualBackS hx (y := (⟨"com/example/mangga/mangga/queue/Place$Kind", "waitsBehind", "(Lcom/example/mangga/mangga/queue/Place$Kind;)Z"⟩ : MethodName)) (z := (⟨"com/example/mangga/mangga/queue/Place$Kind", "waitsBehind", "(Lcom/example/mangga/mangga/queue/Place$Kind;)Z"⟩ : MethodName)) hown (mvT hZ (w_8 hw)) (mvT hZ (w_9 hw)) (notFace_of_selects (args := #[]) (mvT hZ (w_11 hw))) (mvT hZ (w_11 hw)) (mvT hZ (w_10 hw)) (by decide) (backOfS (W := 0) (rm_waits l Z a0 hw [] u0 u2 (0 : Int32) (0 : Int32) h0 n0 Z0 (F0.ext O0.2) (F2.ext O0.2)) hZ (w_12 hw) (w_6 hw) (by decide) (by decide)) q120a q120c (g := (mkF m 77 #[.val (.int iv), .val (.int jv), .val (.int (0 : Int32)), .val (.int (2 : Int32)), .val (.ref u0), .val (.ref u2), .val (.int (0 : Int32)), .val (.int (0 : Int32)), .val (.int (1 : Int32))] [(.ref u2), (.ref u0)])) rfl (by rw [hml]; rfl) (Steps.refl _) (argsL := [(.ref u2)]) (rest := []) (lenOf pd_2 rfl) rfl (by show 2 * 0 + _ ≤ _; exact Nat.le_of_eq rfl) (hb hby at_77) (fun _ _ => ⟨rfl, e119, (by decide : 0 + 2 ≤ _), (by decide : 0 + 24 ≤ _)⟩)
    dsimp only [Pt.U, Pt.locs, Pt.cells, Pt.slots] at X120 l120 y120 z120 st120 hQ120 hS120 hg120
    replace hS := foldS hS (Nat.le_trans hk (Nat.le_of_eq (congrArg Array.size e119.symm))) hS120 hg120
    have hZ := State.Warmed39.trans hZ hS120.1
    have hown : T120.vm.findClass "com/example/mangga/mangga/queue/KindWaitsBehindPinLaw" = some m.cls := by rw [hS120.1.alike.findClass]; exact hown
    replace X120 : Stand p l e room_1 (s.setVm T120.vm) m #[(.int iv), (.int jv)] below meth c T120 _ _ _ := X120
    subst l120 y120 z120
    generalize e120 : T120.heap = h120 at hQ120
    obtain ⟨rfl, N120q, K120q⟩ := hQ120
    have hk : T120.heap.size ≤ h120.size := Nat.le_of_eq (by rw [e120])
    have N120 := Fr.app N119 N120q
    refine own_go (fun t k => st120.trans k) ?_
    have Z120 : n0 ≤ h120.size := (Nat.le_trans Z0 K120q.1)
    show own_Go _ _ _ _ (T120.setTop (mkF m 80 #[.val (.int iv), .val (.int jv), .val (.int (0 : Int32)), .val (.int (2 : Int32)), .val (.ref u0), .val (.ref u2), .val (.int (0 : Int32)), .val (.int (0 : Int32)), .val (.int (1 : Int32))] [(.int (1 : Int32))]))
    refine own_go (fun t k => XS.iload X120.here hx rfl (hb hby at_80) rfl k) ?_
    show own_Go _ _ _ _ (T120.setTop (mkF m 82 #[.val (.int iv), .val (.int jv), .val (.int (0 : Int32)), .val (.int (2 : Int32)), .val (.ref u0), .val (.ref u2), .val (.int (0 : Int32)), .val (.int (0 : Int32)), .val (.int (1 : Int32))] [(.int (1 : Int32)), (.int (1 : Int32))]))
    refine own_go (fun t k => XS.icmpNo X120.here hx rfl (hb hby at_82) rfl (teq (by decide : (1 : Int32) = (1 : Int32))).2 k) ?_
    show own_Go _ _ _ _ (T120.setTop (mkF m 85 #[.val (.int iv), .val (.int jv), .val (.int (0 : Int32)), .val (.int (2 : Int32)), .val (.ref u0), .val (.ref u2), .val (.int (0 : Int32)), .val (.int (0 : Int32)), .val (.int (1 : Int32))] []))
    refine own_go (fun t k => XS.iconst X120.here hx rfl (hb hby at_85) k) ?_
    show own_Go _ _ _ _ (T120.setTop (mkF m 86 #[.val (.int iv), .val (.int jv), .val (.int (0 : Int32)), .val (.int (2 : Int32)), .val (.ref u0), .val (.ref u2), .val (.int (0 : Int32)), .val (.int (0 : Int32)), .val (.int (1 : Int32))] [(.int (1 : Int32))]))
    refine own_go (fun t k => XS.goto X120.here hx rfl (pc0 := 86) (pc' := 90) rfl (hb hby at_86) (by decide) (by decide) k) ?_
    show own_Go _ _ _ _ (T120.setTop (mkF m 90 #[.val (.int iv), .val (.int jv), .val (.int (0 : Int32)), .val (.int (2 : Int32)), .val (.ref u0), .val (.ref u2), .val (.int (0 : Int32)), .val (.int (0 : Int32)), .val (.int (1 : Int32))] [(.int (1 : Int32))]))
    refine own_retNW X120 hx hS (Nat.le_trans hk (Nat.le_of_eq (congrArg Array.size e120.symm))) hlk (t := .boolean) hret (by simp) (hb hby at_90) ?_ (by decide) (by decide)
    rw [e120]
    exact ⟨rfl, N120⟩
  · show own_Go _ _ _ _ (s₁.setTop (mkF m 13 #[.val (.int iv), .val (.int jv), .val (.int (1 : Int32)), .unset, .unset, .unset, .unset, .unset, .unset] [(.int (0 : Int32))]))
    refine own_go (fun t k => XS.istoreN X0.here hx rfl (hb hby at_13) rfl (l' := #[.val (.int iv), .val (.int jv), .val (.int (1 : Int32)), .val (.int (0 : Int32)), .unset, .unset, .unset, .unset, .unset]) rfl k) ?_
    show own_Go _ _ _ _ (s₁.setTop (mkF m 14 #[.val (.int iv), .val (.int jv), .val (.int (1 : Int32)), .val (.int (0 : Int32)), .unset, .unset, .unset, .unset, .unset] []))
    refine own_go (fun t k => XS.iloadN X0.here hx rfl (hb hby at_14) rfl k) ?_
    show own_Go _ _ _ _ (s₁.setTop (mkF m 15 #[.val (.int iv), .val (.int jv), .val (.int (1 : Int32)), .val (.int (0 : Int32)), .unset, .unset, .unset, .unset, .unset] [(.int (1 : Int32))]))
    obtain ⟨_, _, ⟨T121, L121, k121, n121⟩, -, X121, ⟨Lc121, hQ121, l121, y121, z121⟩, st121⟩ := Jvm.LawKit.callS X0 hx (y := (⟨"com/example/mangga/mangga/queue/KindWaitsBehindPinLaw", "kindOf", "(I)Lcom/example/mangga/mangga/queue/Place$Kind;"⟩ : MethodName)) hown (mvT hZ (w_1 hw)) (mvT hZ (w_2 hw)) (mvT hZ (w_3 hw)) (mvT hZ (w_4 hw)) (by decide) (backOf (W := 0) (rm_kind l Z a0 hw [] (1 : Int32) u0 u1 u2 h0 n0 Z0 O0 S0 S1 S2) hZ (w_4 hw) (w_3 hw) (by decide) (by decide)) (g := (mkF m 15 #[.val (.int iv), .val (.int jv), .val (.int (1 : Int32)), .val (.int (0 : Int32)), .unset, .unset, .unset, .unset, .unset] [(.int (1 : Int32))])) rfl (by rw [hml]; rfl) (argsL := [(.int (1 : Int32))]) (rest := []) (lenOf pd_1 rfl) rfl (by show 2 * 0 + _ ≤ _; exact Nat.le_of_eq rfl) (hb hby at_15) (fun _ _ => ⟨rfl, e0, (by decide : 0 + 0 ≤ _), (by decide : 0 + 0 ≤ _)⟩)
    dsimp only [Pt.U, Pt.locs, Pt.cells, Pt.slots] at X121 l121 y121 z121 st121 hQ121
    subst l121 y121 z121
    obtain ⟨rfl, N121q, e121⟩ := hQ121
    have N121 := Fr.app N0 N121q
    refine own_go st121 ?_
    show own_Go _ _ _ _ (T121.setTop (mkF m 18 #[.val (.int iv), .val (.int jv), .val (.int (1 : Int32)), .val (.int (0 : Int32)), .unset, .unset, .unset, .unset, .unset] [(.ref u1)]))
    refine own_go (fun t k => XS.astore X121.here hx rfl (hb hby at_18) rfl rfl (l' := #[.val (.int iv), .val (.int jv), .val (.int (1 : Int32)), .val (.int (0 : Int32)), .val (.ref u1), .unset, .unset, .unset, .unset]) rfl k) ?_
    show own_Go _ _ _ _ (T121.setTop (mkF m 20 #[.val (.int iv), .val (.int jv), .val (.int (1 : Int32)), .val (.int (0 : Int32)), .val (.ref u1), .unset, .unset, .unset, .unset] []))
    refine own_go (fun t k => XS.iloadN X121.here hx rfl (hb hby at_20) rfl k) ?_
    show own_Go _ _ _ _ (T121.setTop (mkF m 21 #[.val (.int iv), .val (.int jv), .val (.int (1 : Int32)), .val (.int (0 : Int32)), .val (.ref u1), .unset, .unset, .unset, .unset] [(.int (0 : Int32))]))
    obtain ⟨_, _, ⟨T122, L122, k122, n122⟩, -, X122, ⟨Lc122, hQ122, l122, y122, z122⟩, st122⟩ := Jvm.LawKit.callS X121 hx (y := (⟨"com/example/mangga/mangga/queue/KindWaitsBehindPinLaw", "kindOf", "(I)Lcom/example/mangga/mangga/queue/Place$Kind;"⟩ : MethodName)) hown (mvT hZ (w_1 hw)) (mvT hZ (w_2 hw)) (mvT hZ (w_3 hw)) (mvT hZ (w_4 hw)) (by decide) (backOf (W := 0) (rm_kind l Z a0 hw [] (0 : Int32) u0 u1 u2 h0 n0 Z0 O0 S0 S1 S2) hZ (w_4 hw) (w_3 hw) (by decide) (by decide)) (g := (mkF m 21 #[.val (.int iv), .val (.int jv), .val (.int (1 : Int32)), .val (.int (0 : Int32)), .val (.ref u1), .unset, .unset, .unset, .unset] [(.int (0 : Int32))])) rfl (by rw [hml]; rfl) (argsL := [(.int (0 : Int32))]) (rest := []) (lenOf pd_1 rfl) rfl (by show 2 * 0 + _ ≤ _; exact Nat.le_of_eq rfl) (hb hby at_21) (fun _ _ => ⟨rfl, e121, (by decide : 0 + 0 ≤ _), (by decide : 0 + 0 ≤ _)⟩)
    dsimp only [Pt.U, Pt.locs, Pt.cells, Pt.slots] at X122 l122 y122 z122 st122 hQ122
    subst l122 y122 z122
    obtain ⟨rfl, N122q, e122⟩ := hQ122
    have N122 := Fr.app N121 N122q
    refine own_go st122 ?_
    show own_Go _ _ _ _ (T122.setTop (mkF m 24 #[.val (.int iv), .val (.int jv), .val (.int (1 : Int32)), .val (.int (0 : Int32)), .val (.ref u1), .unset, .unset, .unset, .unset] [(.ref u0)]))
    refine own_go (fun t k => XS.astore X122.here hx rfl (hb hby at_24) rfl rfl (l' := #[.val (.int iv), .val (.int jv), .val (.int (1 : Int32)), .val (.int (0 : Int32)), .val (.ref u1), .val (.ref u0), .unset, .unset, .unset]) rfl k) ?_
    show own_Go _ _ _ _ (T122.setTop (mkF m 26 #[.val (.int iv), .val (.int jv), .val (.int (1 : Int32)), .val (.int (0 : Int32)), .val (.ref u1), .val (.ref u0), .unset, .unset, .unset] []))
    refine own_go (fun t k => XS.iloadN X122.here hx rfl (hb hby at_26) rfl k) ?_
    show own_Go _ _ _ _ (T122.setTop (mkF m 27 #[.val (.int iv), .val (.int jv), .val (.int (1 : Int32)), .val (.int (0 : Int32)), .val (.ref u1), .val (.ref u0), .unset, .unset, .unset] [(.int (1 : Int32))]))
    refine own_go (fun t k => XS.iconst X122.here hx rfl (hb hby at_27) k) ?_
    show own_Go _ _ _ _ (T122.setTop (mkF m 28 #[.val (.int iv), .val (.int jv), .val (.int (1 : Int32)), .val (.int (0 : Int32)), .val (.ref u1), .val (.ref u0), .unset, .unset, .unset] [(.int (1 : Int32)), (.int (1 : Int32))]))
    refine own_go (fun t k => XS.icmpNo X122.here hx rfl (hb hby at_28) rfl (teq (by decide : (1 : Int32) = (1 : Int32))).2 k) ?_
    show own_Go _ _ _ _ (T122.setTop (mkF m 31 #[.val (.int iv), .val (.int jv), .val (.int (1 : Int32)), .val (.int (0 : Int32)), .val (.ref u1), .val (.ref u0), .unset, .unset, .unset] []))
    refine own_go (fun t k => XS.iconst X122.here hx rfl (hb hby at_31) k) ?_
    show own_Go _ _ _ _ (T122.setTop (mkF m 32 #[.val (.int iv), .val (.int jv), .val (.int (1 : Int32)), .val (.int (0 : Int32)), .val (.ref u1), .val (.ref u0), .unset, .unset, .unset] [(.int (1 : Int32))]))
    refine own_go (fun t k => XS.goto X122.here hx rfl (pc0 := 32) (pc' := 36) rfl (hb hby at_32) (by decide) (by decide) k) ?_
    show own_Go _ _ _ _ (T122.setTop (mkF m 36 #[.val (.int iv), .val (.int jv), .val (.int (1 : Int32)), .val (.int (0 : Int32)), .val (.ref u1), .val (.ref u0), .unset, .unset, .unset] [(.int (1 : Int32))]))
    refine own_go (fun t k => XS.istore X122.here hx rfl (hb hby at_36) rfl (l' := #[.val (.int iv), .val (.int jv), .val (.int (1 : Int32)), .val (.int (0 : Int32)), .val (.ref u1), .val (.ref u0), .val (.int (1 : Int32)), .unset, .unset]) rfl k) ?_
    show own_Go _ _ _ _ (T122.setTop (mkF m 38 #[.val (.int iv), .val (.int jv), .val (.int (1 : Int32)), .val (.int (0 : Int32)), .val (.ref u1), .val (.ref u0), .val (.int (1 : Int32)), .unset, .unset] []))
    refine own_go (fun t k => XS.iloadN X122.here hx rfl (hb hby at_38) rfl k) ?_
    show own_Go _ _ _ _ (T122.setTop (mkF m 39 #[.val (.int iv), .val (.int jv), .val (.int (1 : Int32)), .val (.int (0 : Int32)), .val (.ref u1), .val (.ref u0), .val (.int (1 : Int32)), .unset, .unset] [(.int (0 : Int32))]))
    refine own_go (fun t k => XS.iconst X122.here hx rfl (hb hby at_39) k) ?_
    show own_Go _ _ _ _ (T122.setTop (mkF m 40 #[.val (.int iv), .val (.int jv), .val (.int (1 : Int32)), .val (.int (0 : Int32)), .val (.ref u1), .val (.ref u0), .val (.int (1 : Int32)), .unset, .unset] [(.int (1 : Int32)), (.int (0 : Int32))]))
    refine own_go (fun t k => XS.icmpYes X122.here hx rfl (pc0 := 40) (pc' := 47) rfl (hb hby at_40) rfl (feq (by decide : ¬ ((0 : Int32) = (1 : Int32)))).2 (by decide) (by decide) k) ?_
    show own_Go _ _ _ _ (T122.setTop (mkF m 47 #[.val (.int iv), .val (.int jv), .val (.int (1 : Int32)), .val (.int (0 : Int32)), .val (.ref u1), .val (.ref u0), .val (.int (1 : Int32)), .unset, .unset] []))
    refine own_go (fun t k => XS.iconst X122.here hx rfl (hb hby at_47) k) ?_
    show own_Go _ _ _ _ (T122.setTop (mkF m 48 #[.val (.int iv), .val (.int jv), .val (.int (1 : Int32)), .val (.int (0 : Int32)), .val (.ref u1), .val (.ref u0), .val (.int (1 : Int32)), .unset, .unset] [(.int (0 : Int32))]))
    refine own_go (fun t k => XS.istore X122.here hx rfl (hb hby at_48) rfl (l' := #[.val (.int iv), .val (.int jv), .val (.int (1 : Int32)), .val (.int (0 : Int32)), .val (.ref u1), .val (.ref u0), .val (.int (1 : Int32)), .val (.int (0 : Int32)), .unset]) rfl k) ?_
    show own_Go _ _ _ _ (T122.setTop (mkF m 50 #[.val (.int iv), .val (.int jv), .val (.int (1 : Int32)), .val (.int (0 : Int32)), .val (.ref u1), .val (.ref u0), .val (.int (1 : Int32)), .val (.int (0 : Int32)), .unset] []))
    refine own_go (fun t k => XS.iload X122.here hx rfl (hb hby at_50) rfl k) ?_
    show own_Go _ _ _ _ (T122.setTop (mkF m 52 #[.val (.int iv), .val (.int jv), .val (.int (1 : Int32)), .val (.int (0 : Int32)), .val (.ref u1), .val (.ref u0), .val (.int (1 : Int32)), .val (.int (0 : Int32)), .unset] [(.int (1 : Int32))]))
    refine own_go (fun t k => XS.ifNo X122.here hx rfl (hb hby at_52) rfl ((if0 _ _).trans (feq (by decide : ¬ ((1 : Int32) = (0 : Int32)))).1) k) ?_
    show own_Go _ _ _ _ (T122.setTop (mkF m 55 #[.val (.int iv), .val (.int jv), .val (.int (1 : Int32)), .val (.int (0 : Int32)), .val (.ref u1), .val (.ref u0), .val (.int (1 : Int32)), .val (.int (0 : Int32)), .unset] []))
    refine own_go (fun t k => XS.iload X122.here hx rfl (hb hby at_55) rfl k) ?_
    show own_Go _ _ _ _ (T122.setTop (mkF m 57 #[.val (.int iv), .val (.int jv), .val (.int (1 : Int32)), .val (.int (0 : Int32)), .val (.ref u1), .val (.ref u0), .val (.int (1 : Int32)), .val (.int (0 : Int32)), .unset] [(.int (0 : Int32))]))
    refine own_go (fun t k => XS.ifNo X122.here hx rfl (hb hby at_57) rfl ((if0 _ _).trans (teq (by decide : (0 : Int32) = (0 : Int32))).2) k) ?_
    show own_Go _ _ _ _ (T122.setTop (mkF m 60 #[.val (.int iv), .val (.int jv), .val (.int (1 : Int32)), .val (.int (0 : Int32)), .val (.ref u1), .val (.ref u0), .val (.int (1 : Int32)), .val (.int (0 : Int32)), .unset] []))
    refine own_go (fun t k => XS.iconst X122.here hx rfl (hb hby at_60) k) ?_
    show own_Go _ _ _ _ (T122.setTop (mkF m 61 #[.val (.int iv), .val (.int jv), .val (.int (1 : Int32)), .val (.int (0 : Int32)), .val (.ref u1), .val (.ref u0), .val (.int (1 : Int32)), .val (.int (0 : Int32)), .unset] [(.int (1 : Int32))]))
    refine own_go (fun t k => XS.goto X122.here hx rfl (pc0 := 61) (pc' := 65) rfl (hb hby at_61) (by decide) (by decide) k) ?_
    show own_Go _ _ _ _ (T122.setTop (mkF m 65 #[.val (.int iv), .val (.int jv), .val (.int (1 : Int32)), .val (.int (0 : Int32)), .val (.ref u1), .val (.ref u0), .val (.int (1 : Int32)), .val (.int (0 : Int32)), .unset] [(.int (1 : Int32))]))
    refine own_go (fun t k => XS.istore X122.here hx rfl (hb hby at_65) rfl (l' := #[.val (.int iv), .val (.int jv), .val (.int (1 : Int32)), .val (.int (0 : Int32)), .val (.ref u1), .val (.ref u0), .val (.int (1 : Int32)), .val (.int (0 : Int32)), .val (.int (1 : Int32))]) rfl k) ?_
    show own_Go _ _ _ _ (T122.setTop (mkF m 67 #[.val (.int iv), .val (.int jv), .val (.int (1 : Int32)), .val (.int (0 : Int32)), .val (.ref u1), .val (.ref u0), .val (.int (1 : Int32)), .val (.int (0 : Int32)), .val (.int (1 : Int32))] []))
    refine own_go (fun t k => XS.goto X122.here hx rfl (pc0 := 67) (pc' := 73) rfl (hb hby at_67) (by decide) (by decide) k) ?_
    show own_Go _ _ _ _ (T122.setTop (mkF m 73 #[.val (.int iv), .val (.int jv), .val (.int (1 : Int32)), .val (.int (0 : Int32)), .val (.ref u1), .val (.ref u0), .val (.int (1 : Int32)), .val (.int (0 : Int32)), .val (.int (1 : Int32))] []))
    refine own_go (fun t k => XS.aload X122.here hx rfl (hb hby at_73) rfl rfl k) ?_
    show own_Go _ _ _ _ (T122.setTop (mkF m 75 #[.val (.int iv), .val (.int jv), .val (.int (1 : Int32)), .val (.int (0 : Int32)), .val (.ref u1), .val (.ref u0), .val (.int (1 : Int32)), .val (.int (0 : Int32)), .val (.int (1 : Int32))] [(.ref u1)]))
    refine own_go (fun t k => XS.aload X122.here hx rfl (hb hby at_75) rfl rfl k) ?_
    show own_Go _ _ _ _ (T122.setTop (mkF m 77 #[.val (.int iv), .val (.int jv), .val (.int (1 : Int32)), .val (.int (0 : Int32)), .val (.ref u1), .val (.ref u0), .val (.int (1 : Int32)), .val (.int (0 : Int32)), .val (.int (1 : Int32))] [(.ref u0), (.ref u1)]))
    obtain ⟨cq123, kq123, q123a, q123b, q123c⟩ := isOf hZ e122 (E1.ext O0.2)
    obtain ⟨_, _, ⟨T123, L123, k123, n123⟩, -, X123, hS123, hg123, ⟨Lc123, hQ123, l123, y123, z123⟩, st123⟩ := X122.virtualBackS hx (y := (⟨"com/example/mangga/mangga/queue/Place$Kind", "waitsBehind", "(Lcom/example/mangga/mangga/queue/Place$Kind;)Z"⟩ : MethodName)) (z := (⟨"com/example/mangga/mangga/queue/Place$Kind", "waitsBehind", "(Lcom/example/mangga/mangga/queue/Place$Kind;)Z"⟩ : MethodName)) hown (mvT hZ (w_8 hw)) (mvT hZ (w_9 hw)) (notFace_of_selects (args := #[]) (mvT hZ (w_11 hw))) (mvT hZ (w_11 hw)) (mvT hZ (w_10 hw)) (by decide) (backOfS (W := 0) (rm_waits l Z a0 hw [] u1 u0 (1 : Int32) (0 : Int32) h0 n0 Z0 (F1.ext O0.2) (F0.ext O0.2)) hZ (w_12 hw) (w_6 hw) (by decide) (by decide)) q123a q123c (g := (mkF m 77 #[.val (.int iv), .val (.int jv), .val (.int (1 : Int32)), .val (.int (0 : Int32)), .val (.ref u1), .val (.ref u0), .val (.int (1 : Int32)), .val (.int (0 : Int32)), .val (.int (1 : Int32))] [(.ref u0), (.ref u1)])) rfl (by rw [hml]; rfl) (Steps.refl _) (argsL := [(.ref u0)]) (rest := []) (lenOf pd_2 rfl) rfl (by show 2 * 0 + _ ≤ _; exact Nat.le_of_eq rfl) (hb hby at_77) (fun _ _ => ⟨rfl, e122, (by decide : 0 + 2 ≤ _), (by decide : 0 + 24 ≤ _)⟩)
    dsimp only [Pt.U, Pt.locs, Pt.cells, Pt.slots] at X123 l123 y123 z123 st123 hQ123 hS123 hg123
    replace hS := foldS hS (Nat.le_trans hk (Nat.le_of_eq (congrArg Array.size e122.symm))) hS123 hg123
    have hZ := State.Warmed39.trans hZ hS123.1
    have hown : T123.vm.findClass "com/example/mangga/mangga/queue/KindWaitsBehindPinLaw" = some m.cls := by rw [hS123.1.alike.findClass]; exact hown
    replace X123 : Stand p l e room_1 (s.setVm T123.vm) m #[(.int iv), (.int jv)] below meth c T123 _ _ _ := X123
    subst l123 y123 z123
    generalize e123 : T123.heap = h123 at hQ123
    obtain ⟨rfl, N123q, K123q⟩ := hQ123
    have hk : T123.heap.size ≤ h123.size := Nat.le_of_eq (by rw [e123])
    have N123 := Fr.app N122 N123q
    refine own_go (fun t k => st123.trans k) ?_
    have Z123 : n0 ≤ h123.size := (Nat.le_trans Z0 K123q.1)
    show own_Go _ _ _ _ (T123.setTop (mkF m 80 #[.val (.int iv), .val (.int jv), .val (.int (1 : Int32)), .val (.int (0 : Int32)), .val (.ref u1), .val (.ref u0), .val (.int (1 : Int32)), .val (.int (0 : Int32)), .val (.int (1 : Int32))] [(.int (1 : Int32))]))
    refine own_go (fun t k => XS.iload X123.here hx rfl (hb hby at_80) rfl k) ?_
    show own_Go _ _ _ _ (T123.setTop (mkF m 82 #[.val (.int iv), .val (.int jv), .val (.int (1 : Int32)), .val (.int (0 : Int32)), .val (.ref u1), .val (.ref u0), .val (.int (1 : Int32)), .val (.int (0 : Int32)), .val (.int (1 : Int32))] [(.int (1 : Int32)), (.int (1 : Int32))]))
    refine own_go (fun t k => XS.icmpNo X123.here hx rfl (hb hby at_82) rfl (teq (by decide : (1 : Int32) = (1 : Int32))).2 k) ?_
    show own_Go _ _ _ _ (T123.setTop (mkF m 85 #[.val (.int iv), .val (.int jv), .val (.int (1 : Int32)), .val (.int (0 : Int32)), .val (.ref u1), .val (.ref u0), .val (.int (1 : Int32)), .val (.int (0 : Int32)), .val (.int (1 : Int32))] []))
    refine own_go (fun t k => XS.iconst X123.here hx rfl (hb hby at_85) k) ?_
    show own_Go _ _ _ _ (T123.setTop (mkF m 86 #[.val (.int iv), .val (.int jv), .val (.int (1 : Int32)), .val (.int (0 : Int32)), .val (.ref u1), .val (.ref u0), .val (.int (1 : Int32)), .val (.int (0 : Int32)), .val (.int (1 : Int32))] [(.int (1 : Int32))]))
    refine own_go (fun t k => XS.goto X123.here hx rfl (pc0 := 86) (pc' := 90) rfl (hb hby at_86) (by decide) (by decide) k) ?_
    show own_Go _ _ _ _ (T123.setTop (mkF m 90 #[.val (.int iv), .val (.int jv), .val (.int (1 : Int32)), .val (.int (0 : Int32)), .val (.ref u1), .val (.ref u0), .val (.int (1 : Int32)), .val (.int (0 : Int32)), .val (.int (1 : Int32))] [(.int (1 : Int32))]))
    refine own_retNW X123 hx hS (Nat.le_trans hk (Nat.le_of_eq (congrArg Array.size e123.symm))) hlk (t := .boolean) hret (by simp) (hb hby at_90) ?_ (by decide) (by decide)
    rw [e123]
    exact ⟨rfl, N123⟩
  · show own_Go _ _ _ _ (s₁.setTop (mkF m 13 #[.val (.int iv), .val (.int jv), .val (.int (1 : Int32)), .unset, .unset, .unset, .unset, .unset, .unset] [(.int (1 : Int32))]))
    refine own_go (fun t k => XS.istoreN X0.here hx rfl (hb hby at_13) rfl (l' := #[.val (.int iv), .val (.int jv), .val (.int (1 : Int32)), .val (.int (1 : Int32)), .unset, .unset, .unset, .unset, .unset]) rfl k) ?_
    show own_Go _ _ _ _ (s₁.setTop (mkF m 14 #[.val (.int iv), .val (.int jv), .val (.int (1 : Int32)), .val (.int (1 : Int32)), .unset, .unset, .unset, .unset, .unset] []))
    refine own_go (fun t k => XS.iloadN X0.here hx rfl (hb hby at_14) rfl k) ?_
    show own_Go _ _ _ _ (s₁.setTop (mkF m 15 #[.val (.int iv), .val (.int jv), .val (.int (1 : Int32)), .val (.int (1 : Int32)), .unset, .unset, .unset, .unset, .unset] [(.int (1 : Int32))]))
    obtain ⟨_, _, ⟨T124, L124, k124, n124⟩, -, X124, ⟨Lc124, hQ124, l124, y124, z124⟩, st124⟩ := Jvm.LawKit.callS X0 hx (y := (⟨"com/example/mangga/mangga/queue/KindWaitsBehindPinLaw", "kindOf", "(I)Lcom/example/mangga/mangga/queue/Place$Kind;"⟩ : MethodName)) hown (mvT hZ (w_1 hw)) (mvT hZ (w_2 hw)) (mvT hZ (w_3 hw)) (mvT hZ (w_4 hw)) (by decide) (backOf (W := 0) (rm_kind l Z a0 hw [] (1 : Int32) u0 u1 u2 h0 n0 Z0 O0 S0 S1 S2) hZ (w_4 hw) (w_3 hw) (by decide) (by decide)) (g := (mkF m 15 #[.val (.int iv), .val (.int jv), .val (.int (1 : Int32)), .val (.int (1 : Int32)), .unset, .unset, .unset, .unset, .unset] [(.int (1 : Int32))])) rfl (by rw [hml]; rfl) (argsL := [(.int (1 : Int32))]) (rest := []) (lenOf pd_1 rfl) rfl (by show 2 * 0 + _ ≤ _; exact Nat.le_of_eq rfl) (hb hby at_15) (fun _ _ => ⟨rfl, e0, (by decide : 0 + 0 ≤ _), (by decide : 0 + 0 ≤ _)⟩)
    dsimp only [Pt.U, Pt.locs, Pt.cells, Pt.slots] at X124 l124 y124 z124 st124 hQ124
    subst l124 y124 z124
    obtain ⟨rfl, N124q, e124⟩ := hQ124
    have N124 := Fr.app N0 N124q
    refine own_go st124 ?_
    show own_Go _ _ _ _ (T124.setTop (mkF m 18 #[.val (.int iv), .val (.int jv), .val (.int (1 : Int32)), .val (.int (1 : Int32)), .unset, .unset, .unset, .unset, .unset] [(.ref u1)]))
    refine own_go (fun t k => XS.astore X124.here hx rfl (hb hby at_18) rfl rfl (l' := #[.val (.int iv), .val (.int jv), .val (.int (1 : Int32)), .val (.int (1 : Int32)), .val (.ref u1), .unset, .unset, .unset, .unset]) rfl k) ?_
    show own_Go _ _ _ _ (T124.setTop (mkF m 20 #[.val (.int iv), .val (.int jv), .val (.int (1 : Int32)), .val (.int (1 : Int32)), .val (.ref u1), .unset, .unset, .unset, .unset] []))
    refine own_go (fun t k => XS.iloadN X124.here hx rfl (hb hby at_20) rfl k) ?_
    show own_Go _ _ _ _ (T124.setTop (mkF m 21 #[.val (.int iv), .val (.int jv), .val (.int (1 : Int32)), .val (.int (1 : Int32)), .val (.ref u1), .unset, .unset, .unset, .unset] [(.int (1 : Int32))]))
    obtain ⟨_, _, ⟨T125, L125, k125, n125⟩, -, X125, ⟨Lc125, hQ125, l125, y125, z125⟩, st125⟩ := Jvm.LawKit.callS X124 hx (y := (⟨"com/example/mangga/mangga/queue/KindWaitsBehindPinLaw", "kindOf", "(I)Lcom/example/mangga/mangga/queue/Place$Kind;"⟩ : MethodName)) hown (mvT hZ (w_1 hw)) (mvT hZ (w_2 hw)) (mvT hZ (w_3 hw)) (mvT hZ (w_4 hw)) (by decide) (backOf (W := 0) (rm_kind l Z a0 hw [] (1 : Int32) u0 u1 u2 h0 n0 Z0 O0 S0 S1 S2) hZ (w_4 hw) (w_3 hw) (by decide) (by decide)) (g := (mkF m 21 #[.val (.int iv), .val (.int jv), .val (.int (1 : Int32)), .val (.int (1 : Int32)), .val (.ref u1), .unset, .unset, .unset, .unset] [(.int (1 : Int32))])) rfl (by rw [hml]; rfl) (argsL := [(.int (1 : Int32))]) (rest := []) (lenOf pd_1 rfl) rfl (by show 2 * 0 + _ ≤ _; exact Nat.le_of_eq rfl) (hb hby at_21) (fun _ _ => ⟨rfl, e124, (by decide : 0 + 0 ≤ _), (by decide : 0 + 0 ≤ _)⟩)
    dsimp only [Pt.U, Pt.locs, Pt.cells, Pt.slots] at X125 l125 y125 z125 st125 hQ125
    subst l125 y125 z125
    obtain ⟨rfl, N125q, e125⟩ := hQ125
    have N125 := Fr.app N124 N125q
    refine own_go st125 ?_
    show own_Go _ _ _ _ (T125.setTop (mkF m 24 #[.val (.int iv), .val (.int jv), .val (.int (1 : Int32)), .val (.int (1 : Int32)), .val (.ref u1), .unset, .unset, .unset, .unset] [(.ref u1)]))
    refine own_go (fun t k => XS.astore X125.here hx rfl (hb hby at_24) rfl rfl (l' := #[.val (.int iv), .val (.int jv), .val (.int (1 : Int32)), .val (.int (1 : Int32)), .val (.ref u1), .val (.ref u1), .unset, .unset, .unset]) rfl k) ?_
    show own_Go _ _ _ _ (T125.setTop (mkF m 26 #[.val (.int iv), .val (.int jv), .val (.int (1 : Int32)), .val (.int (1 : Int32)), .val (.ref u1), .val (.ref u1), .unset, .unset, .unset] []))
    refine own_go (fun t k => XS.iloadN X125.here hx rfl (hb hby at_26) rfl k) ?_
    show own_Go _ _ _ _ (T125.setTop (mkF m 27 #[.val (.int iv), .val (.int jv), .val (.int (1 : Int32)), .val (.int (1 : Int32)), .val (.ref u1), .val (.ref u1), .unset, .unset, .unset] [(.int (1 : Int32))]))
    refine own_go (fun t k => XS.iconst X125.here hx rfl (hb hby at_27) k) ?_
    show own_Go _ _ _ _ (T125.setTop (mkF m 28 #[.val (.int iv), .val (.int jv), .val (.int (1 : Int32)), .val (.int (1 : Int32)), .val (.ref u1), .val (.ref u1), .unset, .unset, .unset] [(.int (1 : Int32)), (.int (1 : Int32))]))
    refine own_go (fun t k => XS.icmpNo X125.here hx rfl (hb hby at_28) rfl (teq (by decide : (1 : Int32) = (1 : Int32))).2 k) ?_
    show own_Go _ _ _ _ (T125.setTop (mkF m 31 #[.val (.int iv), .val (.int jv), .val (.int (1 : Int32)), .val (.int (1 : Int32)), .val (.ref u1), .val (.ref u1), .unset, .unset, .unset] []))
    refine own_go (fun t k => XS.iconst X125.here hx rfl (hb hby at_31) k) ?_
    show own_Go _ _ _ _ (T125.setTop (mkF m 32 #[.val (.int iv), .val (.int jv), .val (.int (1 : Int32)), .val (.int (1 : Int32)), .val (.ref u1), .val (.ref u1), .unset, .unset, .unset] [(.int (1 : Int32))]))
    refine own_go (fun t k => XS.goto X125.here hx rfl (pc0 := 32) (pc' := 36) rfl (hb hby at_32) (by decide) (by decide) k) ?_
    show own_Go _ _ _ _ (T125.setTop (mkF m 36 #[.val (.int iv), .val (.int jv), .val (.int (1 : Int32)), .val (.int (1 : Int32)), .val (.ref u1), .val (.ref u1), .unset, .unset, .unset] [(.int (1 : Int32))]))
    refine own_go (fun t k => XS.istore X125.here hx rfl (hb hby at_36) rfl (l' := #[.val (.int iv), .val (.int jv), .val (.int (1 : Int32)), .val (.int (1 : Int32)), .val (.ref u1), .val (.ref u1), .val (.int (1 : Int32)), .unset, .unset]) rfl k) ?_
    show own_Go _ _ _ _ (T125.setTop (mkF m 38 #[.val (.int iv), .val (.int jv), .val (.int (1 : Int32)), .val (.int (1 : Int32)), .val (.ref u1), .val (.ref u1), .val (.int (1 : Int32)), .unset, .unset] []))
    refine own_go (fun t k => XS.iloadN X125.here hx rfl (hb hby at_38) rfl k) ?_
    show own_Go _ _ _ _ (T125.setTop (mkF m 39 #[.val (.int iv), .val (.int jv), .val (.int (1 : Int32)), .val (.int (1 : Int32)), .val (.ref u1), .val (.ref u1), .val (.int (1 : Int32)), .unset, .unset] [(.int (1 : Int32))]))
    refine own_go (fun t k => XS.iconst X125.here hx rfl (hb hby at_39) k) ?_
    show own_Go _ _ _ _ (T125.setTop (mkF m 40 #[.val (.int iv), .val (.int jv), .val (.int (1 : Int32)), .val (.int (1 : Int32)), .val (.ref u1), .val (.ref u1), .val (.int (1 : Int32)), .unset, .unset] [(.int (1 : Int32)), (.int (1 : Int32))]))
    refine own_go (fun t k => XS.icmpNo X125.here hx rfl (hb hby at_40) rfl (teq (by decide : (1 : Int32) = (1 : Int32))).2 k) ?_
    show own_Go _ _ _ _ (T125.setTop (mkF m 43 #[.val (.int iv), .val (.int jv), .val (.int (1 : Int32)), .val (.int (1 : Int32)), .val (.ref u1), .val (.ref u1), .val (.int (1 : Int32)), .unset, .unset] []))
    refine own_go (fun t k => XS.iconst X125.here hx rfl (hb hby at_43) k) ?_
    show own_Go _ _ _ _ (T125.setTop (mkF m 44 #[.val (.int iv), .val (.int jv), .val (.int (1 : Int32)), .val (.int (1 : Int32)), .val (.ref u1), .val (.ref u1), .val (.int (1 : Int32)), .unset, .unset] [(.int (1 : Int32))]))
    refine own_go (fun t k => XS.goto X125.here hx rfl (pc0 := 44) (pc' := 48) rfl (hb hby at_44) (by decide) (by decide) k) ?_
    show own_Go _ _ _ _ (T125.setTop (mkF m 48 #[.val (.int iv), .val (.int jv), .val (.int (1 : Int32)), .val (.int (1 : Int32)), .val (.ref u1), .val (.ref u1), .val (.int (1 : Int32)), .unset, .unset] [(.int (1 : Int32))]))
    refine own_go (fun t k => XS.istore X125.here hx rfl (hb hby at_48) rfl (l' := #[.val (.int iv), .val (.int jv), .val (.int (1 : Int32)), .val (.int (1 : Int32)), .val (.ref u1), .val (.ref u1), .val (.int (1 : Int32)), .val (.int (1 : Int32)), .unset]) rfl k) ?_
    show own_Go _ _ _ _ (T125.setTop (mkF m 50 #[.val (.int iv), .val (.int jv), .val (.int (1 : Int32)), .val (.int (1 : Int32)), .val (.ref u1), .val (.ref u1), .val (.int (1 : Int32)), .val (.int (1 : Int32)), .unset] []))
    refine own_go (fun t k => XS.iload X125.here hx rfl (hb hby at_50) rfl k) ?_
    show own_Go _ _ _ _ (T125.setTop (mkF m 52 #[.val (.int iv), .val (.int jv), .val (.int (1 : Int32)), .val (.int (1 : Int32)), .val (.ref u1), .val (.ref u1), .val (.int (1 : Int32)), .val (.int (1 : Int32)), .unset] [(.int (1 : Int32))]))
    refine own_go (fun t k => XS.ifNo X125.here hx rfl (hb hby at_52) rfl ((if0 _ _).trans (feq (by decide : ¬ ((1 : Int32) = (0 : Int32)))).1) k) ?_
    show own_Go _ _ _ _ (T125.setTop (mkF m 55 #[.val (.int iv), .val (.int jv), .val (.int (1 : Int32)), .val (.int (1 : Int32)), .val (.ref u1), .val (.ref u1), .val (.int (1 : Int32)), .val (.int (1 : Int32)), .unset] []))
    refine own_go (fun t k => XS.iload X125.here hx rfl (hb hby at_55) rfl k) ?_
    show own_Go _ _ _ _ (T125.setTop (mkF m 57 #[.val (.int iv), .val (.int jv), .val (.int (1 : Int32)), .val (.int (1 : Int32)), .val (.ref u1), .val (.ref u1), .val (.int (1 : Int32)), .val (.int (1 : Int32)), .unset] [(.int (1 : Int32))]))
    refine own_go (fun t k => XS.ifYes X125.here hx rfl (pc0 := 57) (pc' := 64) rfl (hb hby at_57) rfl ((if0 _ _).trans (feq (by decide : ¬ ((1 : Int32) = (0 : Int32)))).2) (by decide) (by decide) k) ?_
    show own_Go _ _ _ _ (T125.setTop (mkF m 64 #[.val (.int iv), .val (.int jv), .val (.int (1 : Int32)), .val (.int (1 : Int32)), .val (.ref u1), .val (.ref u1), .val (.int (1 : Int32)), .val (.int (1 : Int32)), .unset] []))
    refine own_go (fun t k => XS.iconst X125.here hx rfl (hb hby at_64) k) ?_
    show own_Go _ _ _ _ (T125.setTop (mkF m 65 #[.val (.int iv), .val (.int jv), .val (.int (1 : Int32)), .val (.int (1 : Int32)), .val (.ref u1), .val (.ref u1), .val (.int (1 : Int32)), .val (.int (1 : Int32)), .unset] [(.int (0 : Int32))]))
    refine own_go (fun t k => XS.istore X125.here hx rfl (hb hby at_65) rfl (l' := #[.val (.int iv), .val (.int jv), .val (.int (1 : Int32)), .val (.int (1 : Int32)), .val (.ref u1), .val (.ref u1), .val (.int (1 : Int32)), .val (.int (1 : Int32)), .val (.int (0 : Int32))]) rfl k) ?_
    show own_Go _ _ _ _ (T125.setTop (mkF m 67 #[.val (.int iv), .val (.int jv), .val (.int (1 : Int32)), .val (.int (1 : Int32)), .val (.ref u1), .val (.ref u1), .val (.int (1 : Int32)), .val (.int (1 : Int32)), .val (.int (0 : Int32))] []))
    refine own_go (fun t k => XS.goto X125.here hx rfl (pc0 := 67) (pc' := 73) rfl (hb hby at_67) (by decide) (by decide) k) ?_
    show own_Go _ _ _ _ (T125.setTop (mkF m 73 #[.val (.int iv), .val (.int jv), .val (.int (1 : Int32)), .val (.int (1 : Int32)), .val (.ref u1), .val (.ref u1), .val (.int (1 : Int32)), .val (.int (1 : Int32)), .val (.int (0 : Int32))] []))
    refine own_go (fun t k => XS.aload X125.here hx rfl (hb hby at_73) rfl rfl k) ?_
    show own_Go _ _ _ _ (T125.setTop (mkF m 75 #[.val (.int iv), .val (.int jv), .val (.int (1 : Int32)), .val (.int (1 : Int32)), .val (.ref u1), .val (.ref u1), .val (.int (1 : Int32)), .val (.int (1 : Int32)), .val (.int (0 : Int32))] [(.ref u1)]))
    refine own_go (fun t k => XS.aload X125.here hx rfl (hb hby at_75) rfl rfl k) ?_
    show own_Go _ _ _ _ (T125.setTop (mkF m 77 #[.val (.int iv), .val (.int jv), .val (.int (1 : Int32)), .val (.int (1 : Int32)), .val (.ref u1), .val (.ref u1), .val (.int (1 : Int32)), .val (.int (1 : Int32)), .val (.int (0 : Int32))] [(.ref u1), (.ref u1)]))
    obtain ⟨cq126, kq126, q126a, q126b, q126c⟩ := isOf hZ e125 (E1.ext O0.2)
    obtain ⟨_, _, ⟨T126, L126, k126, n126⟩, -, X126, hS126, hg126, ⟨Lc126, hQ126, l126, y126, z126⟩, st126⟩ := X125.virtualBackS hx (y := (⟨"com/example/mangga/mangga/queue/Place$Kind", "waitsBehind", "(Lcom/example/mangga/mangga/queue/Place$Kind;)Z"⟩ : MethodName)) (z := (⟨"com/example/mangga/mangga/queue/Place$Kind", "waitsBehind", "(Lcom/example/mangga/mangga/queue/Place$Kind;)Z"⟩ : MethodName)) hown (mvT hZ (w_8 hw)) (mvT hZ (w_9 hw)) (notFace_of_selects (args := #[]) (mvT hZ (w_11 hw))) (mvT hZ (w_11 hw)) (mvT hZ (w_10 hw)) (by decide) (backOfS (W := 0) (rm_waits l Z a0 hw [] u1 u1 (1 : Int32) (1 : Int32) h0 n0 Z0 (F1.ext O0.2) (F1.ext O0.2)) hZ (w_12 hw) (w_6 hw) (by decide) (by decide)) q126a q126c (g := (mkF m 77 #[.val (.int iv), .val (.int jv), .val (.int (1 : Int32)), .val (.int (1 : Int32)), .val (.ref u1), .val (.ref u1), .val (.int (1 : Int32)), .val (.int (1 : Int32)), .val (.int (0 : Int32))] [(.ref u1), (.ref u1)])) rfl (by rw [hml]; rfl) (Steps.refl _) (argsL := [(.ref u1)]) (rest := []) (lenOf pd_2 rfl) rfl (by show 2 * 0 + _ ≤ _; exact Nat.le_of_eq rfl) (hb hby at_77) (fun _ _ => ⟨rfl, e125, (by decide : 0 + 2 ≤ _), (by decide : 0 + 24 ≤ _)⟩)
    dsimp only [Pt.U, Pt.locs, Pt.cells, Pt.slots] at X126 l126 y126 z126 st126 hQ126 hS126 hg126
    replace hS := foldS hS (Nat.le_trans hk (Nat.le_of_eq (congrArg Array.size e125.symm))) hS126 hg126
    have hZ := State.Warmed39.trans hZ hS126.1
    have hown : T126.vm.findClass "com/example/mangga/mangga/queue/KindWaitsBehindPinLaw" = some m.cls := by rw [hS126.1.alike.findClass]; exact hown
    replace X126 : Stand p l e room_1 (s.setVm T126.vm) m #[(.int iv), (.int jv)] below meth c T126 _ _ _ := X126
    subst l126 y126 z126
    generalize e126 : T126.heap = h126 at hQ126
    obtain ⟨rfl, N126q, K126q⟩ := hQ126
    have hk : T126.heap.size ≤ h126.size := Nat.le_of_eq (by rw [e126])
    have N126 := Fr.app N125 N126q
    refine own_go (fun t k => st126.trans k) ?_
    have Z126 : n0 ≤ h126.size := (Nat.le_trans Z0 K126q.1)
    show own_Go _ _ _ _ (T126.setTop (mkF m 80 #[.val (.int iv), .val (.int jv), .val (.int (1 : Int32)), .val (.int (1 : Int32)), .val (.ref u1), .val (.ref u1), .val (.int (1 : Int32)), .val (.int (1 : Int32)), .val (.int (0 : Int32))] [(.int (0 : Int32))]))
    refine own_go (fun t k => XS.iload X126.here hx rfl (hb hby at_80) rfl k) ?_
    show own_Go _ _ _ _ (T126.setTop (mkF m 82 #[.val (.int iv), .val (.int jv), .val (.int (1 : Int32)), .val (.int (1 : Int32)), .val (.ref u1), .val (.ref u1), .val (.int (1 : Int32)), .val (.int (1 : Int32)), .val (.int (0 : Int32))] [(.int (0 : Int32)), (.int (0 : Int32))]))
    refine own_go (fun t k => XS.icmpNo X126.here hx rfl (hb hby at_82) rfl (teq (by decide : (0 : Int32) = (0 : Int32))).2 k) ?_
    show own_Go _ _ _ _ (T126.setTop (mkF m 85 #[.val (.int iv), .val (.int jv), .val (.int (1 : Int32)), .val (.int (1 : Int32)), .val (.ref u1), .val (.ref u1), .val (.int (1 : Int32)), .val (.int (1 : Int32)), .val (.int (0 : Int32))] []))
    refine own_go (fun t k => XS.iconst X126.here hx rfl (hb hby at_85) k) ?_
    show own_Go _ _ _ _ (T126.setTop (mkF m 86 #[.val (.int iv), .val (.int jv), .val (.int (1 : Int32)), .val (.int (1 : Int32)), .val (.ref u1), .val (.ref u1), .val (.int (1 : Int32)), .val (.int (1 : Int32)), .val (.int (0 : Int32))] [(.int (1 : Int32))]))
    refine own_go (fun t k => XS.goto X126.here hx rfl (pc0 := 86) (pc' := 90) rfl (hb hby at_86) (by decide) (by decide) k) ?_
    show own_Go _ _ _ _ (T126.setTop (mkF m 90 #[.val (.int iv), .val (.int jv), .val (.int (1 : Int32)), .val (.int (1 : Int32)), .val (.ref u1), .val (.ref u1), .val (.int (1 : Int32)), .val (.int (1 : Int32)), .val (.int (0 : Int32))] [(.int (1 : Int32))]))
    refine own_retNW X126 hx hS (Nat.le_trans hk (Nat.le_of_eq (congrArg Array.size e126.symm))) hlk (t := .boolean) hret (by simp) (hb hby at_90) ?_ (by decide) (by decide)
    rw [e126]
    exact ⟨rfl, N126⟩
  · show own_Go _ _ _ _ (s₁.setTop (mkF m 13 #[.val (.int iv), .val (.int jv), .val (.int (1 : Int32)), .unset, .unset, .unset, .unset, .unset, .unset] [(.int (2 : Int32))]))
    refine own_go (fun t k => XS.istoreN X0.here hx rfl (hb hby at_13) rfl (l' := #[.val (.int iv), .val (.int jv), .val (.int (1 : Int32)), .val (.int (2 : Int32)), .unset, .unset, .unset, .unset, .unset]) rfl k) ?_
    show own_Go _ _ _ _ (s₁.setTop (mkF m 14 #[.val (.int iv), .val (.int jv), .val (.int (1 : Int32)), .val (.int (2 : Int32)), .unset, .unset, .unset, .unset, .unset] []))
    refine own_go (fun t k => XS.iloadN X0.here hx rfl (hb hby at_14) rfl k) ?_
    show own_Go _ _ _ _ (s₁.setTop (mkF m 15 #[.val (.int iv), .val (.int jv), .val (.int (1 : Int32)), .val (.int (2 : Int32)), .unset, .unset, .unset, .unset, .unset] [(.int (1 : Int32))]))
    obtain ⟨_, _, ⟨T127, L127, k127, n127⟩, -, X127, ⟨Lc127, hQ127, l127, y127, z127⟩, st127⟩ := Jvm.LawKit.callS X0 hx (y := (⟨"com/example/mangga/mangga/queue/KindWaitsBehindPinLaw", "kindOf", "(I)Lcom/example/mangga/mangga/queue/Place$Kind;"⟩ : MethodName)) hown (mvT hZ (w_1 hw)) (mvT hZ (w_2 hw)) (mvT hZ (w_3 hw)) (mvT hZ (w_4 hw)) (by decide) (backOf (W := 0) (rm_kind l Z a0 hw [] (1 : Int32) u0 u1 u2 h0 n0 Z0 O0 S0 S1 S2) hZ (w_4 hw) (w_3 hw) (by decide) (by decide)) (g := (mkF m 15 #[.val (.int iv), .val (.int jv), .val (.int (1 : Int32)), .val (.int (2 : Int32)), .unset, .unset, .unset, .unset, .unset] [(.int (1 : Int32))])) rfl (by rw [hml]; rfl) (argsL := [(.int (1 : Int32))]) (rest := []) (lenOf pd_1 rfl) rfl (by show 2 * 0 + _ ≤ _; exact Nat.le_of_eq rfl) (hb hby at_15) (fun _ _ => ⟨rfl, e0, (by decide : 0 + 0 ≤ _), (by decide : 0 + 0 ≤ _)⟩)
    dsimp only [Pt.U, Pt.locs, Pt.cells, Pt.slots] at X127 l127 y127 z127 st127 hQ127
    subst l127 y127 z127
    obtain ⟨rfl, N127q, e127⟩ := hQ127
    have N127 := Fr.app N0 N127q
    refine own_go st127 ?_
    show own_Go _ _ _ _ (T127.setTop (mkF m 18 #[.val (.int iv), .val (.int jv), .val (.int (1 : Int32)), .val (.int (2 : Int32)), .unset, .unset, .unset, .unset, .unset] [(.ref u1)]))
    refine own_go (fun t k => XS.astore X127.here hx rfl (hb hby at_18) rfl rfl (l' := #[.val (.int iv), .val (.int jv), .val (.int (1 : Int32)), .val (.int (2 : Int32)), .val (.ref u1), .unset, .unset, .unset, .unset]) rfl k) ?_
    show own_Go _ _ _ _ (T127.setTop (mkF m 20 #[.val (.int iv), .val (.int jv), .val (.int (1 : Int32)), .val (.int (2 : Int32)), .val (.ref u1), .unset, .unset, .unset, .unset] []))
    refine own_go (fun t k => XS.iloadN X127.here hx rfl (hb hby at_20) rfl k) ?_
    show own_Go _ _ _ _ (T127.setTop (mkF m 21 #[.val (.int iv), .val (.int jv), .val (.int (1 : Int32)), .val (.int (2 : Int32)), .val (.ref u1), .unset, .unset, .unset, .unset] [(.int (2 : Int32))]))
    obtain ⟨_, _, ⟨T128, L128, k128, n128⟩, -, X128, ⟨Lc128, hQ128, l128, y128, z128⟩, st128⟩ := Jvm.LawKit.callS X127 hx (y := (⟨"com/example/mangga/mangga/queue/KindWaitsBehindPinLaw", "kindOf", "(I)Lcom/example/mangga/mangga/queue/Place$Kind;"⟩ : MethodName)) hown (mvT hZ (w_1 hw)) (mvT hZ (w_2 hw)) (mvT hZ (w_3 hw)) (mvT hZ (w_4 hw)) (by decide) (backOf (W := 0) (rm_kind l Z a0 hw [] (2 : Int32) u0 u1 u2 h0 n0 Z0 O0 S0 S1 S2) hZ (w_4 hw) (w_3 hw) (by decide) (by decide)) (g := (mkF m 21 #[.val (.int iv), .val (.int jv), .val (.int (1 : Int32)), .val (.int (2 : Int32)), .val (.ref u1), .unset, .unset, .unset, .unset] [(.int (2 : Int32))])) rfl (by rw [hml]; rfl) (argsL := [(.int (2 : Int32))]) (rest := []) (lenOf pd_1 rfl) rfl (by show 2 * 0 + _ ≤ _; exact Nat.le_of_eq rfl) (hb hby at_21) (fun _ _ => ⟨rfl, e127, (by decide : 0 + 0 ≤ _), (by decide : 0 + 0 ≤ _)⟩)
    dsimp only [Pt.U, Pt.locs, Pt.cells, Pt.slots] at X128 l128 y128 z128 st128 hQ128
    subst l128 y128 z128
    obtain ⟨rfl, N128q, e128⟩ := hQ128
    have N128 := Fr.app N127 N128q
    refine own_go st128 ?_
    show own_Go _ _ _ _ (T128.setTop (mkF m 24 #[.val (.int iv), .val (.int jv), .val (.int (1 : Int32)), .val (.int (2 : Int32)), .val (.ref u1), .unset, .unset, .unset, .unset] [(.ref u2)]))
    refine own_go (fun t k => XS.astore X128.here hx rfl (hb hby at_24) rfl rfl (l' := #[.val (.int iv), .val (.int jv), .val (.int (1 : Int32)), .val (.int (2 : Int32)), .val (.ref u1), .val (.ref u2), .unset, .unset, .unset]) rfl k) ?_
    show own_Go _ _ _ _ (T128.setTop (mkF m 26 #[.val (.int iv), .val (.int jv), .val (.int (1 : Int32)), .val (.int (2 : Int32)), .val (.ref u1), .val (.ref u2), .unset, .unset, .unset] []))
    refine own_go (fun t k => XS.iloadN X128.here hx rfl (hb hby at_26) rfl k) ?_
    show own_Go _ _ _ _ (T128.setTop (mkF m 27 #[.val (.int iv), .val (.int jv), .val (.int (1 : Int32)), .val (.int (2 : Int32)), .val (.ref u1), .val (.ref u2), .unset, .unset, .unset] [(.int (1 : Int32))]))
    refine own_go (fun t k => XS.iconst X128.here hx rfl (hb hby at_27) k) ?_
    show own_Go _ _ _ _ (T128.setTop (mkF m 28 #[.val (.int iv), .val (.int jv), .val (.int (1 : Int32)), .val (.int (2 : Int32)), .val (.ref u1), .val (.ref u2), .unset, .unset, .unset] [(.int (1 : Int32)), (.int (1 : Int32))]))
    refine own_go (fun t k => XS.icmpNo X128.here hx rfl (hb hby at_28) rfl (teq (by decide : (1 : Int32) = (1 : Int32))).2 k) ?_
    show own_Go _ _ _ _ (T128.setTop (mkF m 31 #[.val (.int iv), .val (.int jv), .val (.int (1 : Int32)), .val (.int (2 : Int32)), .val (.ref u1), .val (.ref u2), .unset, .unset, .unset] []))
    refine own_go (fun t k => XS.iconst X128.here hx rfl (hb hby at_31) k) ?_
    show own_Go _ _ _ _ (T128.setTop (mkF m 32 #[.val (.int iv), .val (.int jv), .val (.int (1 : Int32)), .val (.int (2 : Int32)), .val (.ref u1), .val (.ref u2), .unset, .unset, .unset] [(.int (1 : Int32))]))
    refine own_go (fun t k => XS.goto X128.here hx rfl (pc0 := 32) (pc' := 36) rfl (hb hby at_32) (by decide) (by decide) k) ?_
    show own_Go _ _ _ _ (T128.setTop (mkF m 36 #[.val (.int iv), .val (.int jv), .val (.int (1 : Int32)), .val (.int (2 : Int32)), .val (.ref u1), .val (.ref u2), .unset, .unset, .unset] [(.int (1 : Int32))]))
    refine own_go (fun t k => XS.istore X128.here hx rfl (hb hby at_36) rfl (l' := #[.val (.int iv), .val (.int jv), .val (.int (1 : Int32)), .val (.int (2 : Int32)), .val (.ref u1), .val (.ref u2), .val (.int (1 : Int32)), .unset, .unset]) rfl k) ?_
    show own_Go _ _ _ _ (T128.setTop (mkF m 38 #[.val (.int iv), .val (.int jv), .val (.int (1 : Int32)), .val (.int (2 : Int32)), .val (.ref u1), .val (.ref u2), .val (.int (1 : Int32)), .unset, .unset] []))
    refine own_go (fun t k => XS.iloadN X128.here hx rfl (hb hby at_38) rfl k) ?_
    show own_Go _ _ _ _ (T128.setTop (mkF m 39 #[.val (.int iv), .val (.int jv), .val (.int (1 : Int32)), .val (.int (2 : Int32)), .val (.ref u1), .val (.ref u2), .val (.int (1 : Int32)), .unset, .unset] [(.int (2 : Int32))]))
    refine own_go (fun t k => XS.iconst X128.here hx rfl (hb hby at_39) k) ?_
    show own_Go _ _ _ _ (T128.setTop (mkF m 40 #[.val (.int iv), .val (.int jv), .val (.int (1 : Int32)), .val (.int (2 : Int32)), .val (.ref u1), .val (.ref u2), .val (.int (1 : Int32)), .unset, .unset] [(.int (1 : Int32)), (.int (2 : Int32))]))
    refine own_go (fun t k => XS.icmpYes X128.here hx rfl (pc0 := 40) (pc' := 47) rfl (hb hby at_40) rfl (feq (by decide : ¬ ((2 : Int32) = (1 : Int32)))).2 (by decide) (by decide) k) ?_
    show own_Go _ _ _ _ (T128.setTop (mkF m 47 #[.val (.int iv), .val (.int jv), .val (.int (1 : Int32)), .val (.int (2 : Int32)), .val (.ref u1), .val (.ref u2), .val (.int (1 : Int32)), .unset, .unset] []))
    refine own_go (fun t k => XS.iconst X128.here hx rfl (hb hby at_47) k) ?_
    show own_Go _ _ _ _ (T128.setTop (mkF m 48 #[.val (.int iv), .val (.int jv), .val (.int (1 : Int32)), .val (.int (2 : Int32)), .val (.ref u1), .val (.ref u2), .val (.int (1 : Int32)), .unset, .unset] [(.int (0 : Int32))]))
    refine own_go (fun t k => XS.istore X128.here hx rfl (hb hby at_48) rfl (l' := #[.val (.int iv), .val (.int jv), .val (.int (1 : Int32)), .val (.int (2 : Int32)), .val (.ref u1), .val (.ref u2), .val (.int (1 : Int32)), .val (.int (0 : Int32)), .unset]) rfl k) ?_
    show own_Go _ _ _ _ (T128.setTop (mkF m 50 #[.val (.int iv), .val (.int jv), .val (.int (1 : Int32)), .val (.int (2 : Int32)), .val (.ref u1), .val (.ref u2), .val (.int (1 : Int32)), .val (.int (0 : Int32)), .unset] []))
    refine own_go (fun t k => XS.iload X128.here hx rfl (hb hby at_50) rfl k) ?_
    show own_Go _ _ _ _ (T128.setTop (mkF m 52 #[.val (.int iv), .val (.int jv), .val (.int (1 : Int32)), .val (.int (2 : Int32)), .val (.ref u1), .val (.ref u2), .val (.int (1 : Int32)), .val (.int (0 : Int32)), .unset] [(.int (1 : Int32))]))
    refine own_go (fun t k => XS.ifNo X128.here hx rfl (hb hby at_52) rfl ((if0 _ _).trans (feq (by decide : ¬ ((1 : Int32) = (0 : Int32)))).1) k) ?_
    show own_Go _ _ _ _ (T128.setTop (mkF m 55 #[.val (.int iv), .val (.int jv), .val (.int (1 : Int32)), .val (.int (2 : Int32)), .val (.ref u1), .val (.ref u2), .val (.int (1 : Int32)), .val (.int (0 : Int32)), .unset] []))
    refine own_go (fun t k => XS.iload X128.here hx rfl (hb hby at_55) rfl k) ?_
    show own_Go _ _ _ _ (T128.setTop (mkF m 57 #[.val (.int iv), .val (.int jv), .val (.int (1 : Int32)), .val (.int (2 : Int32)), .val (.ref u1), .val (.ref u2), .val (.int (1 : Int32)), .val (.int (0 : Int32)), .unset] [(.int (0 : Int32))]))
    refine own_go (fun t k => XS.ifNo X128.here hx rfl (hb hby at_57) rfl ((if0 _ _).trans (teq (by decide : (0 : Int32) = (0 : Int32))).2) k) ?_
    show own_Go _ _ _ _ (T128.setTop (mkF m 60 #[.val (.int iv), .val (.int jv), .val (.int (1 : Int32)), .val (.int (2 : Int32)), .val (.ref u1), .val (.ref u2), .val (.int (1 : Int32)), .val (.int (0 : Int32)), .unset] []))
    refine own_go (fun t k => XS.iconst X128.here hx rfl (hb hby at_60) k) ?_
    show own_Go _ _ _ _ (T128.setTop (mkF m 61 #[.val (.int iv), .val (.int jv), .val (.int (1 : Int32)), .val (.int (2 : Int32)), .val (.ref u1), .val (.ref u2), .val (.int (1 : Int32)), .val (.int (0 : Int32)), .unset] [(.int (1 : Int32))]))
    refine own_go (fun t k => XS.goto X128.here hx rfl (pc0 := 61) (pc' := 65) rfl (hb hby at_61) (by decide) (by decide) k) ?_
    show own_Go _ _ _ _ (T128.setTop (mkF m 65 #[.val (.int iv), .val (.int jv), .val (.int (1 : Int32)), .val (.int (2 : Int32)), .val (.ref u1), .val (.ref u2), .val (.int (1 : Int32)), .val (.int (0 : Int32)), .unset] [(.int (1 : Int32))]))
    refine own_go (fun t k => XS.istore X128.here hx rfl (hb hby at_65) rfl (l' := #[.val (.int iv), .val (.int jv), .val (.int (1 : Int32)), .val (.int (2 : Int32)), .val (.ref u1), .val (.ref u2), .val (.int (1 : Int32)), .val (.int (0 : Int32)), .val (.int (1 : Int32))]) rfl k) ?_
    show own_Go _ _ _ _ (T128.setTop (mkF m 67 #[.val (.int iv), .val (.int jv), .val (.int (1 : Int32)), .val (.int (2 : Int32)), .val (.ref u1), .val (.ref u2), .val (.int (1 : Int32)), .val (.int (0 : Int32)), .val (.int (1 : Int32))] []))
    refine own_go (fun t k => XS.goto X128.here hx rfl (pc0 := 67) (pc' := 73) rfl (hb hby at_67) (by decide) (by decide) k) ?_
    show own_Go _ _ _ _ (T128.setTop (mkF m 73 #[.val (.int iv), .val (.int jv), .val (.int (1 : Int32)), .val (.int (2 : Int32)), .val (.ref u1), .val (.ref u2), .val (.int (1 : Int32)), .val (.int (0 : Int32)), .val (.int (1 : Int32))] []))
    refine own_go (fun t k => XS.aload X128.here hx rfl (hb hby at_73) rfl rfl k) ?_
    show own_Go _ _ _ _ (T128.setTop (mkF m 75 #[.val (.int iv), .val (.int jv), .val (.int (1 : Int32)), .val (.int (2 : Int32)), .val (.ref u1), .val (.ref u2), .val (.int (1 : Int32)), .val (.int (0 : Int32)), .val (.int (1 : Int32))] [(.ref u1)]))
    refine own_go (fun t k => XS.aload X128.here hx rfl (hb hby at_75) rfl rfl k) ?_
    show own_Go _ _ _ _ (T128.setTop (mkF m 77 #[.val (.int iv), .val (.int jv), .val (.int (1 : Int32)), .val (.int (2 : Int32)), .val (.ref u1), .val (.ref u2), .val (.int (1 : Int32)), .val (.int (0 : Int32)), .val (.int (1 : Int32))] [(.ref u2), (.ref u1)]))
    obtain ⟨cq129, kq129, q129a, q129b, q129c⟩ := isOf hZ e128 (E1.ext O0.2)
    obtain ⟨_, _, ⟨T129, L129, k129, n129⟩, -, X129, hS129, hg129, ⟨Lc129, hQ129, l129, y129, z129⟩, st129⟩ := X128.virtualBackS hx (y := (⟨"com/example/mangga/mangga/queue/Place$Kind", "waitsBehind", "(Lcom/example/mangga/mangga/queue/Place$Kind;)Z"⟩ : MethodName)) (z := (⟨"com/example/mangga/mangga/queue/Place$Kind", "waitsBehind", "(Lcom/example/mangga/mangga/queue/Place$Kind;)Z"⟩ : MethodName)) hown (mvT hZ (w_8 hw)) (mvT hZ (w_9 hw)) (notFace_of_selects (args := #[]) (mvT hZ (w_11 hw))) (mvT hZ (w_11 hw)) (mvT hZ (w_10 hw)) (by decide) (backOfS (W := 0) (rm_waits l Z a0 hw [] u1 u2 (1 : Int32) (0 : Int32) h0 n0 Z0 (F1.ext O0.2) (F2.ext O0.2)) hZ (w_12 hw) (w_6 hw) (by decide) (by decide)) q129a q129c (g := (mkF m 77 #[.val (.int iv), .val (.int jv), .val (.int (1 : Int32)), .val (.int (2 : Int32)), .val (.ref u1), .val (.ref u2), .val (.int (1 : Int32)), .val (.int (0 : Int32)), .val (.int (1 : Int32))] [(.ref u2), (.ref u1)])) rfl (by rw [hml]; rfl) (Steps.refl _) (argsL := [(.ref u2)]) (rest := []) (lenOf pd_2 rfl) rfl (by show 2 * 0 + _ ≤ _; exact Nat.le_of_eq rfl) (hb hby at_77) (fun _ _ => ⟨rfl, e128, (by decide : 0 + 2 ≤ _), (by decide : 0 + 24 ≤ _)⟩)
    dsimp only [Pt.U, Pt.locs, Pt.cells, Pt.slots] at X129 l129 y129 z129 st129 hQ129 hS129 hg129
    replace hS := foldS hS (Nat.le_trans hk (Nat.le_of_eq (congrArg Array.size e128.symm))) hS129 hg129
    have hZ := State.Warmed39.trans hZ hS129.1
    have hown : T129.vm.findClass "com/example/mangga/mangga/queue/KindWaitsBehindPinLaw" = some m.cls := by rw [hS129.1.alike.findClass]; exact hown
    replace X129 : Stand p l e room_1 (s.setVm T129.vm) m #[(.int iv), (.int jv)] below meth c T129 _ _ _ := X129
    subst l129 y129 z129
    generalize e129 : T129.heap = h129 at hQ129
    obtain ⟨rfl, N129q, K129q⟩ := hQ129
    have hk : T129.heap.size ≤ h129.size := Nat.le_of_eq (by rw [e129])
    have N129 := Fr.app N128 N129q
    refine own_go (fun t k => st129.trans k) ?_
    have Z129 : n0 ≤ h129.size := (Nat.le_trans Z0 K129q.1)
    show own_Go _ _ _ _ (T129.setTop (mkF m 80 #[.val (.int iv), .val (.int jv), .val (.int (1 : Int32)), .val (.int (2 : Int32)), .val (.ref u1), .val (.ref u2), .val (.int (1 : Int32)), .val (.int (0 : Int32)), .val (.int (1 : Int32))] [(.int (1 : Int32))]))
    refine own_go (fun t k => XS.iload X129.here hx rfl (hb hby at_80) rfl k) ?_
    show own_Go _ _ _ _ (T129.setTop (mkF m 82 #[.val (.int iv), .val (.int jv), .val (.int (1 : Int32)), .val (.int (2 : Int32)), .val (.ref u1), .val (.ref u2), .val (.int (1 : Int32)), .val (.int (0 : Int32)), .val (.int (1 : Int32))] [(.int (1 : Int32)), (.int (1 : Int32))]))
    refine own_go (fun t k => XS.icmpNo X129.here hx rfl (hb hby at_82) rfl (teq (by decide : (1 : Int32) = (1 : Int32))).2 k) ?_
    show own_Go _ _ _ _ (T129.setTop (mkF m 85 #[.val (.int iv), .val (.int jv), .val (.int (1 : Int32)), .val (.int (2 : Int32)), .val (.ref u1), .val (.ref u2), .val (.int (1 : Int32)), .val (.int (0 : Int32)), .val (.int (1 : Int32))] []))
    refine own_go (fun t k => XS.iconst X129.here hx rfl (hb hby at_85) k) ?_
    show own_Go _ _ _ _ (T129.setTop (mkF m 86 #[.val (.int iv), .val (.int jv), .val (.int (1 : Int32)), .val (.int (2 : Int32)), .val (.ref u1), .val (.ref u2), .val (.int (1 : Int32)), .val (.int (0 : Int32)), .val (.int (1 : Int32))] [(.int (1 : Int32))]))
    refine own_go (fun t k => XS.goto X129.here hx rfl (pc0 := 86) (pc' := 90) rfl (hb hby at_86) (by decide) (by decide) k) ?_
    show own_Go _ _ _ _ (T129.setTop (mkF m 90 #[.val (.int iv), .val (.int jv), .val (.int (1 : Int32)), .val (.int (2 : Int32)), .val (.ref u1), .val (.ref u2), .val (.int (1 : Int32)), .val (.int (0 : Int32)), .val (.int (1 : Int32))] [(.int (1 : Int32))]))
    refine own_retNW X129 hx hS (Nat.le_trans hk (Nat.le_of_eq (congrArg Array.size e129.symm))) hlk (t := .boolean) hret (by simp) (hb hby at_90) ?_ (by decide) (by decide)
    rw [e129]
    exact ⟨rfl, N129⟩
  · show own_Go _ _ _ _ (s₁.setTop (mkF m 13 #[.val (.int iv), .val (.int jv), .val (.int (2 : Int32)), .unset, .unset, .unset, .unset, .unset, .unset] [(.int (0 : Int32))]))
    refine own_go (fun t k => XS.istoreN X0.here hx rfl (hb hby at_13) rfl (l' := #[.val (.int iv), .val (.int jv), .val (.int (2 : Int32)), .val (.int (0 : Int32)), .unset, .unset, .unset, .unset, .unset]) rfl k) ?_
    show own_Go _ _ _ _ (s₁.setTop (mkF m 14 #[.val (.int iv), .val (.int jv), .val (.int (2 : Int32)), .val (.int (0 : Int32)), .unset, .unset, .unset, .unset, .unset] []))
    refine own_go (fun t k => XS.iloadN X0.here hx rfl (hb hby at_14) rfl k) ?_
    show own_Go _ _ _ _ (s₁.setTop (mkF m 15 #[.val (.int iv), .val (.int jv), .val (.int (2 : Int32)), .val (.int (0 : Int32)), .unset, .unset, .unset, .unset, .unset] [(.int (2 : Int32))]))
    obtain ⟨_, _, ⟨T130, L130, k130, n130⟩, -, X130, ⟨Lc130, hQ130, l130, y130, z130⟩, st130⟩ := Jvm.LawKit.callS X0 hx (y := (⟨"com/example/mangga/mangga/queue/KindWaitsBehindPinLaw", "kindOf", "(I)Lcom/example/mangga/mangga/queue/Place$Kind;"⟩ : MethodName)) hown (mvT hZ (w_1 hw)) (mvT hZ (w_2 hw)) (mvT hZ (w_3 hw)) (mvT hZ (w_4 hw)) (by decide) (backOf (W := 0) (rm_kind l Z a0 hw [] (2 : Int32) u0 u1 u2 h0 n0 Z0 O0 S0 S1 S2) hZ (w_4 hw) (w_3 hw) (by decide) (by decide)) (g := (mkF m 15 #[.val (.int iv), .val (.int jv), .val (.int (2 : Int32)), .val (.int (0 : Int32)), .unset, .unset, .unset, .unset, .unset] [(.int (2 : Int32))])) rfl (by rw [hml]; rfl) (argsL := [(.int (2 : Int32))]) (rest := []) (lenOf pd_1 rfl) rfl (by show 2 * 0 + _ ≤ _; exact Nat.le_of_eq rfl) (hb hby at_15) (fun _ _ => ⟨rfl, e0, (by decide : 0 + 0 ≤ _), (by decide : 0 + 0 ≤ _)⟩)
    dsimp only [Pt.U, Pt.locs, Pt.cells, Pt.slots] at X130 l130 y130 z130 st130 hQ130
    subst l130 y130 z130
    obtain ⟨rfl, N130q, e130⟩ := hQ130
    have N130 := Fr.app N0 N130q
    refine own_go st130 ?_
    show own_Go _ _ _ _ (T130.setTop (mkF m 18 #[.val (.int iv), .val (.int jv), .val (.int (2 : Int32)), .val (.int (0 : Int32)), .unset, .unset, .unset, .unset, .unset] [(.ref u2)]))
    refine own_go (fun t k => XS.astore X130.here hx rfl (hb hby at_18) rfl rfl (l' := #[.val (.int iv), .val (.int jv), .val (.int (2 : Int32)), .val (.int (0 : Int32)), .val (.ref u2), .unset, .unset, .unset, .unset]) rfl k) ?_
    show own_Go _ _ _ _ (T130.setTop (mkF m 20 #[.val (.int iv), .val (.int jv), .val (.int (2 : Int32)), .val (.int (0 : Int32)), .val (.ref u2), .unset, .unset, .unset, .unset] []))
    refine own_go (fun t k => XS.iloadN X130.here hx rfl (hb hby at_20) rfl k) ?_
    show own_Go _ _ _ _ (T130.setTop (mkF m 21 #[.val (.int iv), .val (.int jv), .val (.int (2 : Int32)), .val (.int (0 : Int32)), .val (.ref u2), .unset, .unset, .unset, .unset] [(.int (0 : Int32))]))
    obtain ⟨_, _, ⟨T131, L131, k131, n131⟩, -, X131, ⟨Lc131, hQ131, l131, y131, z131⟩, st131⟩ := Jvm.LawKit.callS X130 hx (y := (⟨"com/example/mangga/mangga/queue/KindWaitsBehindPinLaw", "kindOf", "(I)Lcom/example/mangga/mangga/queue/Place$Kind;"⟩ : MethodName)) hown (mvT hZ (w_1 hw)) (mvT hZ (w_2 hw)) (mvT hZ (w_3 hw)) (mvT hZ (w_4 hw)) (by decide) (backOf (W := 0) (rm_kind l Z a0 hw [] (0 : Int32) u0 u1 u2 h0 n0 Z0 O0 S0 S1 S2) hZ (w_4 hw) (w_3 hw) (by decide) (by decide)) (g := (mkF m 21 #[.val (.int iv), .val (.int jv), .val (.int (2 : Int32)), .val (.int (0 : Int32)), .val (.ref u2), .unset, .unset, .unset, .unset] [(.int (0 : Int32))])) rfl (by rw [hml]; rfl) (argsL := [(.int (0 : Int32))]) (rest := []) (lenOf pd_1 rfl) rfl (by show 2 * 0 + _ ≤ _; exact Nat.le_of_eq rfl) (hb hby at_21) (fun _ _ => ⟨rfl, e130, (by decide : 0 + 0 ≤ _), (by decide : 0 + 0 ≤ _)⟩)
    dsimp only [Pt.U, Pt.locs, Pt.cells, Pt.slots] at X131 l131 y131 z131 st131 hQ131
    subst l131 y131 z131
    obtain ⟨rfl, N131q, e131⟩ := hQ131
    have N131 := Fr.app N130 N131q
    refine own_go st131 ?_
    show own_Go _ _ _ _ (T131.setTop (mkF m 24 #[.val (.int iv), .val (.int jv), .val (.int (2 : Int32)), .val (.int (0 : Int32)), .val (.ref u2), .unset, .unset, .unset, .unset] [(.ref u0)]))
    refine own_go (fun t k => XS.astore X131.here hx rfl (hb hby at_24) rfl rfl (l' := #[.val (.int iv), .val (.int jv), .val (.int (2 : Int32)), .val (.int (0 : Int32)), .val (.ref u2), .val (.ref u0), .unset, .unset, .unset]) rfl k) ?_
    show own_Go _ _ _ _ (T131.setTop (mkF m 26 #[.val (.int iv), .val (.int jv), .val (.int (2 : Int32)), .val (.int (0 : Int32)), .val (.ref u2), .val (.ref u0), .unset, .unset, .unset] []))
    refine own_go (fun t k => XS.iloadN X131.here hx rfl (hb hby at_26) rfl k) ?_
    show own_Go _ _ _ _ (T131.setTop (mkF m 27 #[.val (.int iv), .val (.int jv), .val (.int (2 : Int32)), .val (.int (0 : Int32)), .val (.ref u2), .val (.ref u0), .unset, .unset, .unset] [(.int (2 : Int32))]))
    refine own_go (fun t k => XS.iconst X131.here hx rfl (hb hby at_27) k) ?_
    show own_Go _ _ _ _ (T131.setTop (mkF m 28 #[.val (.int iv), .val (.int jv), .val (.int (2 : Int32)), .val (.int (0 : Int32)), .val (.ref u2), .val (.ref u0), .unset, .unset, .unset] [(.int (1 : Int32)), (.int (2 : Int32))]))
    refine own_go (fun t k => XS.icmpYes X131.here hx rfl (pc0 := 28) (pc' := 35) rfl (hb hby at_28) rfl (feq (by decide : ¬ ((2 : Int32) = (1 : Int32)))).2 (by decide) (by decide) k) ?_
    show own_Go _ _ _ _ (T131.setTop (mkF m 35 #[.val (.int iv), .val (.int jv), .val (.int (2 : Int32)), .val (.int (0 : Int32)), .val (.ref u2), .val (.ref u0), .unset, .unset, .unset] []))
    refine own_go (fun t k => XS.iconst X131.here hx rfl (hb hby at_35) k) ?_
    show own_Go _ _ _ _ (T131.setTop (mkF m 36 #[.val (.int iv), .val (.int jv), .val (.int (2 : Int32)), .val (.int (0 : Int32)), .val (.ref u2), .val (.ref u0), .unset, .unset, .unset] [(.int (0 : Int32))]))
    refine own_go (fun t k => XS.istore X131.here hx rfl (hb hby at_36) rfl (l' := #[.val (.int iv), .val (.int jv), .val (.int (2 : Int32)), .val (.int (0 : Int32)), .val (.ref u2), .val (.ref u0), .val (.int (0 : Int32)), .unset, .unset]) rfl k) ?_
    show own_Go _ _ _ _ (T131.setTop (mkF m 38 #[.val (.int iv), .val (.int jv), .val (.int (2 : Int32)), .val (.int (0 : Int32)), .val (.ref u2), .val (.ref u0), .val (.int (0 : Int32)), .unset, .unset] []))
    refine own_go (fun t k => XS.iloadN X131.here hx rfl (hb hby at_38) rfl k) ?_
    show own_Go _ _ _ _ (T131.setTop (mkF m 39 #[.val (.int iv), .val (.int jv), .val (.int (2 : Int32)), .val (.int (0 : Int32)), .val (.ref u2), .val (.ref u0), .val (.int (0 : Int32)), .unset, .unset] [(.int (0 : Int32))]))
    refine own_go (fun t k => XS.iconst X131.here hx rfl (hb hby at_39) k) ?_
    show own_Go _ _ _ _ (T131.setTop (mkF m 40 #[.val (.int iv), .val (.int jv), .val (.int (2 : Int32)), .val (.int (0 : Int32)), .val (.ref u2), .val (.ref u0), .val (.int (0 : Int32)), .unset, .unset] [(.int (1 : Int32)), (.int (0 : Int32))]))
    refine own_go (fun t k => XS.icmpYes X131.here hx rfl (pc0 := 40) (pc' := 47) rfl (hb hby at_40) rfl (feq (by decide : ¬ ((0 : Int32) = (1 : Int32)))).2 (by decide) (by decide) k) ?_
    show own_Go _ _ _ _ (T131.setTop (mkF m 47 #[.val (.int iv), .val (.int jv), .val (.int (2 : Int32)), .val (.int (0 : Int32)), .val (.ref u2), .val (.ref u0), .val (.int (0 : Int32)), .unset, .unset] []))
    refine own_go (fun t k => XS.iconst X131.here hx rfl (hb hby at_47) k) ?_
    show own_Go _ _ _ _ (T131.setTop (mkF m 48 #[.val (.int iv), .val (.int jv), .val (.int (2 : Int32)), .val (.int (0 : Int32)), .val (.ref u2), .val (.ref u0), .val (.int (0 : Int32)), .unset, .unset] [(.int (0 : Int32))]))
    refine own_go (fun t k => XS.istore X131.here hx rfl (hb hby at_48) rfl (l' := #[.val (.int iv), .val (.int jv), .val (.int (2 : Int32)), .val (.int (0 : Int32)), .val (.ref u2), .val (.ref u0), .val (.int (0 : Int32)), .val (.int (0 : Int32)), .unset]) rfl k) ?_
    show own_Go _ _ _ _ (T131.setTop (mkF m 50 #[.val (.int iv), .val (.int jv), .val (.int (2 : Int32)), .val (.int (0 : Int32)), .val (.ref u2), .val (.ref u0), .val (.int (0 : Int32)), .val (.int (0 : Int32)), .unset] []))
    refine own_go (fun t k => XS.iload X131.here hx rfl (hb hby at_50) rfl k) ?_
    show own_Go _ _ _ _ (T131.setTop (mkF m 52 #[.val (.int iv), .val (.int jv), .val (.int (2 : Int32)), .val (.int (0 : Int32)), .val (.ref u2), .val (.ref u0), .val (.int (0 : Int32)), .val (.int (0 : Int32)), .unset] [(.int (0 : Int32))]))
    refine own_go (fun t k => XS.ifYes X131.here hx rfl (pc0 := 52) (pc' := 70) rfl (hb hby at_52) rfl ((if0 _ _).trans (teq (by decide : (0 : Int32) = (0 : Int32))).1) (by decide) (by decide) k) ?_
    show own_Go _ _ _ _ (T131.setTop (mkF m 70 #[.val (.int iv), .val (.int jv), .val (.int (2 : Int32)), .val (.int (0 : Int32)), .val (.ref u2), .val (.ref u0), .val (.int (0 : Int32)), .val (.int (0 : Int32)), .unset] []))
    refine own_go (fun t k => XS.iconst X131.here hx rfl (hb hby at_70) k) ?_
    show own_Go _ _ _ _ (T131.setTop (mkF m 71 #[.val (.int iv), .val (.int jv), .val (.int (2 : Int32)), .val (.int (0 : Int32)), .val (.ref u2), .val (.ref u0), .val (.int (0 : Int32)), .val (.int (0 : Int32)), .unset] [(.int (1 : Int32))]))
    refine own_go (fun t k => XS.istore X131.here hx rfl (hb hby at_71) rfl (l' := #[.val (.int iv), .val (.int jv), .val (.int (2 : Int32)), .val (.int (0 : Int32)), .val (.ref u2), .val (.ref u0), .val (.int (0 : Int32)), .val (.int (0 : Int32)), .val (.int (1 : Int32))]) rfl k) ?_
    show own_Go _ _ _ _ (T131.setTop (mkF m 73 #[.val (.int iv), .val (.int jv), .val (.int (2 : Int32)), .val (.int (0 : Int32)), .val (.ref u2), .val (.ref u0), .val (.int (0 : Int32)), .val (.int (0 : Int32)), .val (.int (1 : Int32))] []))
    refine own_go (fun t k => XS.aload X131.here hx rfl (hb hby at_73) rfl rfl k) ?_
    show own_Go _ _ _ _ (T131.setTop (mkF m 75 #[.val (.int iv), .val (.int jv), .val (.int (2 : Int32)), .val (.int (0 : Int32)), .val (.ref u2), .val (.ref u0), .val (.int (0 : Int32)), .val (.int (0 : Int32)), .val (.int (1 : Int32))] [(.ref u2)]))
    refine own_go (fun t k => XS.aload X131.here hx rfl (hb hby at_75) rfl rfl k) ?_
    show own_Go _ _ _ _ (T131.setTop (mkF m 77 #[.val (.int iv), .val (.int jv), .val (.int (2 : Int32)), .val (.int (0 : Int32)), .val (.ref u2), .val (.ref u0), .val (.int (0 : Int32)), .val (.int (0 : Int32)), .val (.int (1 : Int32))] [(.ref u0), (.ref u2)]))
    obtain ⟨cq132, kq132, q132a, q132b, q132c⟩ := isOf hZ e131 (E2.ext O0.2)
    obtain ⟨_, _, ⟨T132, L132, k132, n132⟩, -, X132, hS132, hg132, ⟨Lc132, hQ132, l132, y132, z132⟩, st132⟩ := X131.virtualBackS hx (y := (⟨"com/example/mangga/mangga/queue/Place$Kind", "waitsBehind", "(Lcom/example/mangga/mangga/queue/Place$Kind;)Z"⟩ : MethodName)) (z := (⟨"com/example/mangga/mangga/queue/Place$Kind", "waitsBehind", "(Lcom/example/mangga/mangga/queue/Place$Kind;)Z"⟩ : MethodName)) hown (mvT hZ (w_8 hw)) (mvT hZ (w_9 hw)) (notFace_of_selects (args := #[]) (mvT hZ (w_11 hw))) (mvT hZ (w_11 hw)) (mvT hZ (w_10 hw)) (by decide) (backOfS (W := 0) (rm_waits l Z a0 hw [] u2 u0 (0 : Int32) (0 : Int32) h0 n0 Z0 (F2.ext O0.2) (F0.ext O0.2)) hZ (w_12 hw) (w_6 hw) (by decide) (by decide)) q132a q132c (g := (mkF m 77 #[.val (.int iv), .val (.int jv), .val (.int (2 : Int32)), .val (.int (0 : Int32)), .val (.ref u2), .val (.ref u0), .val (.int (0 : Int32)), .val (.int (0 : Int32)), .val (.int (1 : Int32))] [(.ref u0), (.ref u2)])) rfl (by rw [hml]; rfl) (Steps.refl _) (argsL := [(.ref u0)]) (rest := []) (lenOf pd_2 rfl) rfl (by show 2 * 0 + _ ≤ _; exact Nat.le_of_eq rfl) (hb hby at_77) (fun _ _ => ⟨rfl, e131, (by decide : 0 + 2 ≤ _), (by decide : 0 + 24 ≤ _)⟩)
    dsimp only [Pt.U, Pt.locs, Pt.cells, Pt.slots] at X132 l132 y132 z132 st132 hQ132 hS132 hg132
    replace hS := foldS hS (Nat.le_trans hk (Nat.le_of_eq (congrArg Array.size e131.symm))) hS132 hg132
    have hZ := State.Warmed39.trans hZ hS132.1
    have hown : T132.vm.findClass "com/example/mangga/mangga/queue/KindWaitsBehindPinLaw" = some m.cls := by rw [hS132.1.alike.findClass]; exact hown
    replace X132 : Stand p l e room_1 (s.setVm T132.vm) m #[(.int iv), (.int jv)] below meth c T132 _ _ _ := X132
    subst l132 y132 z132
    generalize e132 : T132.heap = h132 at hQ132
    obtain ⟨rfl, N132q, K132q⟩ := hQ132
    have hk : T132.heap.size ≤ h132.size := Nat.le_of_eq (by rw [e132])
    have N132 := Fr.app N131 N132q
    refine own_go (fun t k => st132.trans k) ?_
    have Z132 : n0 ≤ h132.size := (Nat.le_trans Z0 K132q.1)
    show own_Go _ _ _ _ (T132.setTop (mkF m 80 #[.val (.int iv), .val (.int jv), .val (.int (2 : Int32)), .val (.int (0 : Int32)), .val (.ref u2), .val (.ref u0), .val (.int (0 : Int32)), .val (.int (0 : Int32)), .val (.int (1 : Int32))] [(.int (1 : Int32))]))
    refine own_go (fun t k => XS.iload X132.here hx rfl (hb hby at_80) rfl k) ?_
    show own_Go _ _ _ _ (T132.setTop (mkF m 82 #[.val (.int iv), .val (.int jv), .val (.int (2 : Int32)), .val (.int (0 : Int32)), .val (.ref u2), .val (.ref u0), .val (.int (0 : Int32)), .val (.int (0 : Int32)), .val (.int (1 : Int32))] [(.int (1 : Int32)), (.int (1 : Int32))]))
    refine own_go (fun t k => XS.icmpNo X132.here hx rfl (hb hby at_82) rfl (teq (by decide : (1 : Int32) = (1 : Int32))).2 k) ?_
    show own_Go _ _ _ _ (T132.setTop (mkF m 85 #[.val (.int iv), .val (.int jv), .val (.int (2 : Int32)), .val (.int (0 : Int32)), .val (.ref u2), .val (.ref u0), .val (.int (0 : Int32)), .val (.int (0 : Int32)), .val (.int (1 : Int32))] []))
    refine own_go (fun t k => XS.iconst X132.here hx rfl (hb hby at_85) k) ?_
    show own_Go _ _ _ _ (T132.setTop (mkF m 86 #[.val (.int iv), .val (.int jv), .val (.int (2 : Int32)), .val (.int (0 : Int32)), .val (.ref u2), .val (.ref u0), .val (.int (0 : Int32)), .val (.int (0 : Int32)), .val (.int (1 : Int32))] [(.int (1 : Int32))]))
    refine own_go (fun t k => XS.goto X132.here hx rfl (pc0 := 86) (pc' := 90) rfl (hb hby at_86) (by decide) (by decide) k) ?_
    show own_Go _ _ _ _ (T132.setTop (mkF m 90 #[.val (.int iv), .val (.int jv), .val (.int (2 : Int32)), .val (.int (0 : Int32)), .val (.ref u2), .val (.ref u0), .val (.int (0 : Int32)), .val (.int (0 : Int32)), .val (.int (1 : Int32))] [(.int (1 : Int32))]))
    refine own_retNW X132 hx hS (Nat.le_trans hk (Nat.le_of_eq (congrArg Array.size e132.symm))) hlk (t := .boolean) hret (by simp) (hb hby at_90) ?_ (by decide) (by decide)
    rw [e132]
    exact ⟨rfl, N132⟩
  · show own_Go _ _ _ _ (s₁.setTop (mkF m 13 #[.val (.int iv), .val (.int jv), .val (.int (2 : Int32)), .unset, .unset, .unset, .unset, .unset, .unset] [(.int (1 : Int32))]))
    refine own_go (fun t k => XS.istoreN X0.here hx rfl (hb hby at_13) rfl (l' := #[.val (.int iv), .val (.int jv), .val (.int (2 : Int32)), .val (.int (1 : Int32)), .unset, .unset, .unset, .unset, .unset]) rfl k) ?_
    show own_Go _ _ _ _ (s₁.setTop (mkF m 14 #[.val (.int iv), .val (.int jv), .val (.int (2 : Int32)), .val (.int (1 : Int32)), .unset, .unset, .unset, .unset, .unset] []))
    refine own_go (fun t k => XS.iloadN X0.here hx rfl (hb hby at_14) rfl k) ?_
    show own_Go _ _ _ _ (s₁.setTop (mkF m 15 #[.val (.int iv), .val (.int jv), .val (.int (2 : Int32)), .val (.int (1 : Int32)), .unset, .unset, .unset, .unset, .unset] [(.int (2 : Int32))]))
    obtain ⟨_, _, ⟨T133, L133, k133, n133⟩, -, X133, ⟨Lc133, hQ133, l133, y133, z133⟩, st133⟩ := Jvm.LawKit.callS X0 hx (y := (⟨"com/example/mangga/mangga/queue/KindWaitsBehindPinLaw", "kindOf", "(I)Lcom/example/mangga/mangga/queue/Place$Kind;"⟩ : MethodName)) hown (mvT hZ (w_1 hw)) (mvT hZ (w_2 hw)) (mvT hZ (w_3 hw)) (mvT hZ (w_4 hw)) (by decide) (backOf (W := 0) (rm_kind l Z a0 hw [] (2 : Int32) u0 u1 u2 h0 n0 Z0 O0 S0 S1 S2) hZ (w_4 hw) (w_3 hw) (by decide) (by decide)) (g := (mkF m 15 #[.val (.int iv), .val (.int jv), .val (.int (2 : Int32)), .val (.int (1 : Int32)), .unset, .unset, .unset, .unset, .unset] [(.int (2 : Int32))])) rfl (by rw [hml]; rfl) (argsL := [(.int (2 : Int32))]) (rest := []) (lenOf pd_1 rfl) rfl (by show 2 * 0 + _ ≤ _; exact Nat.le_of_eq rfl) (hb hby at_15) (fun _ _ => ⟨rfl, e0, (by decide : 0 + 0 ≤ _), (by decide : 0 + 0 ≤ _)⟩)
    dsimp only [Pt.U, Pt.locs, Pt.cells, Pt.slots] at X133 l133 y133 z133 st133 hQ133
    subst l133 y133 z133
    obtain ⟨rfl, N133q, e133⟩ := hQ133
    have N133 := Fr.app N0 N133q
    refine own_go st133 ?_
    show own_Go _ _ _ _ (T133.setTop (mkF m 18 #[.val (.int iv), .val (.int jv), .val (.int (2 : Int32)), .val (.int (1 : Int32)), .unset, .unset, .unset, .unset, .unset] [(.ref u2)]))
    refine own_go (fun t k => XS.astore X133.here hx rfl (hb hby at_18) rfl rfl (l' := #[.val (.int iv), .val (.int jv), .val (.int (2 : Int32)), .val (.int (1 : Int32)), .val (.ref u2), .unset, .unset, .unset, .unset]) rfl k) ?_
    show own_Go _ _ _ _ (T133.setTop (mkF m 20 #[.val (.int iv), .val (.int jv), .val (.int (2 : Int32)), .val (.int (1 : Int32)), .val (.ref u2), .unset, .unset, .unset, .unset] []))
    refine own_go (fun t k => XS.iloadN X133.here hx rfl (hb hby at_20) rfl k) ?_
    show own_Go _ _ _ _ (T133.setTop (mkF m 21 #[.val (.int iv), .val (.int jv), .val (.int (2 : Int32)), .val (.int (1 : Int32)), .val (.ref u2), .unset, .unset, .unset, .unset] [(.int (1 : Int32))]))
    obtain ⟨_, _, ⟨T134, L134, k134, n134⟩, -, X134, ⟨Lc134, hQ134, l134, y134, z134⟩, st134⟩ := Jvm.LawKit.callS X133 hx (y := (⟨"com/example/mangga/mangga/queue/KindWaitsBehindPinLaw", "kindOf", "(I)Lcom/example/mangga/mangga/queue/Place$Kind;"⟩ : MethodName)) hown (mvT hZ (w_1 hw)) (mvT hZ (w_2 hw)) (mvT hZ (w_3 hw)) (mvT hZ (w_4 hw)) (by decide) (backOf (W := 0) (rm_kind l Z a0 hw [] (1 : Int32) u0 u1 u2 h0 n0 Z0 O0 S0 S1 S2) hZ (w_4 hw) (w_3 hw) (by decide) (by decide)) (g := (mkF m 21 #[.val (.int iv), .val (.int jv), .val (.int (2 : Int32)), .val (.int (1 : Int32)), .val (.ref u2), .unset, .unset, .unset, .unset] [(.int (1 : Int32))])) rfl (by rw [hml]; rfl) (argsL := [(.int (1 : Int32))]) (rest := []) (lenOf pd_1 rfl) rfl (by show 2 * 0 + _ ≤ _; exact Nat.le_of_eq rfl) (hb hby at_21) (fun _ _ => ⟨rfl, e133, (by decide : 0 + 0 ≤ _), (by decide : 0 + 0 ≤ _)⟩)
    dsimp only [Pt.U, Pt.locs, Pt.cells, Pt.slots] at X134 l134 y134 z134 st134 hQ134
    subst l134 y134 z134
    obtain ⟨rfl, N134q, e134⟩ := hQ134
    have N134 := Fr.app N133 N134q
    refine own_go st134 ?_
    show own_Go _ _ _ _ (T134.setTop (mkF m 24 #[.val (.int iv), .val (.int jv), .val (.int (2 : Int32)), .val (.int (1 : Int32)), .val (.ref u2), .unset, .unset, .unset, .unset] [(.ref u1)]))
    refine own_go (fun t k => XS.astore X134.here hx rfl (hb hby at_24) rfl rfl (l' := #[.val (.int iv), .val (.int jv), .val (.int (2 : Int32)), .val (.int (1 : Int32)), .val (.ref u2), .val (.ref u1), .unset, .unset, .unset]) rfl k) ?_
    show own_Go _ _ _ _ (T134.setTop (mkF m 26 #[.val (.int iv), .val (.int jv), .val (.int (2 : Int32)), .val (.int (1 : Int32)), .val (.ref u2), .val (.ref u1), .unset, .unset, .unset] []))
    refine own_go (fun t k => XS.iloadN X134.here hx rfl (hb hby at_26) rfl k) ?_
    show own_Go _ _ _ _ (T134.setTop (mkF m 27 #[.val (.int iv), .val (.int jv), .val (.int (2 : Int32)), .val (.int (1 : Int32)), .val (.ref u2), .val (.ref u1), .unset, .unset, .unset] [(.int (2 : Int32))]))
    refine own_go (fun t k => XS.iconst X134.here hx rfl (hb hby at_27) k) ?_
    show own_Go _ _ _ _ (T134.setTop (mkF m 28 #[.val (.int iv), .val (.int jv), .val (.int (2 : Int32)), .val (.int (1 : Int32)), .val (.ref u2), .val (.ref u1), .unset, .unset, .unset] [(.int (1 : Int32)), (.int (2 : Int32))]))
    refine own_go (fun t k => XS.icmpYes X134.here hx rfl (pc0 := 28) (pc' := 35) rfl (hb hby at_28) rfl (feq (by decide : ¬ ((2 : Int32) = (1 : Int32)))).2 (by decide) (by decide) k) ?_
    show own_Go _ _ _ _ (T134.setTop (mkF m 35 #[.val (.int iv), .val (.int jv), .val (.int (2 : Int32)), .val (.int (1 : Int32)), .val (.ref u2), .val (.ref u1), .unset, .unset, .unset] []))
    refine own_go (fun t k => XS.iconst X134.here hx rfl (hb hby at_35) k) ?_
    show own_Go _ _ _ _ (T134.setTop (mkF m 36 #[.val (.int iv), .val (.int jv), .val (.int (2 : Int32)), .val (.int (1 : Int32)), .val (.ref u2), .val (.ref u1), .unset, .unset, .unset] [(.int (0 : Int32))]))
    refine own_go (fun t k => XS.istore X134.here hx rfl (hb hby at_36) rfl (l' := #[.val (.int iv), .val (.int jv), .val (.int (2 : Int32)), .val (.int (1 : Int32)), .val (.ref u2), .val (.ref u1), .val (.int (0 : Int32)), .unset, .unset]) rfl k) ?_
    show own_Go _ _ _ _ (T134.setTop (mkF m 38 #[.val (.int iv), .val (.int jv), .val (.int (2 : Int32)), .val (.int (1 : Int32)), .val (.ref u2), .val (.ref u1), .val (.int (0 : Int32)), .unset, .unset] []))
    refine own_go (fun t k => XS.iloadN X134.here hx rfl (hb hby at_38) rfl k) ?_
    show own_Go _ _ _ _ (T134.setTop (mkF m 39 #[.val (.int iv), .val (.int jv), .val (.int (2 : Int32)), .val (.int (1 : Int32)), .val (.ref u2), .val (.ref u1), .val (.int (0 : Int32)), .unset, .unset] [(.int (1 : Int32))]))
    refine own_go (fun t k => XS.iconst X134.here hx rfl (hb hby at_39) k) ?_
    show own_Go _ _ _ _ (T134.setTop (mkF m 40 #[.val (.int iv), .val (.int jv), .val (.int (2 : Int32)), .val (.int (1 : Int32)), .val (.ref u2), .val (.ref u1), .val (.int (0 : Int32)), .unset, .unset] [(.int (1 : Int32)), (.int (1 : Int32))]))
    refine own_go (fun t k => XS.icmpNo X134.here hx rfl (hb hby at_40) rfl (teq (by decide : (1 : Int32) = (1 : Int32))).2 k) ?_
    show own_Go _ _ _ _ (T134.setTop (mkF m 43 #[.val (.int iv), .val (.int jv), .val (.int (2 : Int32)), .val (.int (1 : Int32)), .val (.ref u2), .val (.ref u1), .val (.int (0 : Int32)), .unset, .unset] []))
    refine own_go (fun t k => XS.iconst X134.here hx rfl (hb hby at_43) k) ?_
    show own_Go _ _ _ _ (T134.setTop (mkF m 44 #[.val (.int iv), .val (.int jv), .val (.int (2 : Int32)), .val (.int (1 : Int32)), .val (.ref u2), .val (.ref u1), .val (.int (0 : Int32)), .unset, .unset] [(.int (1 : Int32))]))
    refine own_go (fun t k => XS.goto X134.here hx rfl (pc0 := 44) (pc' := 48) rfl (hb hby at_44) (by decide) (by decide) k) ?_
    show own_Go _ _ _ _ (T134.setTop (mkF m 48 #[.val (.int iv), .val (.int jv), .val (.int (2 : Int32)), .val (.int (1 : Int32)), .val (.ref u2), .val (.ref u1), .val (.int (0 : Int32)), .unset, .unset] [(.int (1 : Int32))]))
    refine own_go (fun t k => XS.istore X134.here hx rfl (hb hby at_48) rfl (l' := #[.val (.int iv), .val (.int jv), .val (.int (2 : Int32)), .val (.int (1 : Int32)), .val (.ref u2), .val (.ref u1), .val (.int (0 : Int32)), .val (.int (1 : Int32)), .unset]) rfl k) ?_
    show own_Go _ _ _ _ (T134.setTop (mkF m 50 #[.val (.int iv), .val (.int jv), .val (.int (2 : Int32)), .val (.int (1 : Int32)), .val (.ref u2), .val (.ref u1), .val (.int (0 : Int32)), .val (.int (1 : Int32)), .unset] []))
    refine own_go (fun t k => XS.iload X134.here hx rfl (hb hby at_50) rfl k) ?_
    show own_Go _ _ _ _ (T134.setTop (mkF m 52 #[.val (.int iv), .val (.int jv), .val (.int (2 : Int32)), .val (.int (1 : Int32)), .val (.ref u2), .val (.ref u1), .val (.int (0 : Int32)), .val (.int (1 : Int32)), .unset] [(.int (0 : Int32))]))
    refine own_go (fun t k => XS.ifYes X134.here hx rfl (pc0 := 52) (pc' := 70) rfl (hb hby at_52) rfl ((if0 _ _).trans (teq (by decide : (0 : Int32) = (0 : Int32))).1) (by decide) (by decide) k) ?_
    show own_Go _ _ _ _ (T134.setTop (mkF m 70 #[.val (.int iv), .val (.int jv), .val (.int (2 : Int32)), .val (.int (1 : Int32)), .val (.ref u2), .val (.ref u1), .val (.int (0 : Int32)), .val (.int (1 : Int32)), .unset] []))
    refine own_go (fun t k => XS.iconst X134.here hx rfl (hb hby at_70) k) ?_
    show own_Go _ _ _ _ (T134.setTop (mkF m 71 #[.val (.int iv), .val (.int jv), .val (.int (2 : Int32)), .val (.int (1 : Int32)), .val (.ref u2), .val (.ref u1), .val (.int (0 : Int32)), .val (.int (1 : Int32)), .unset] [(.int (1 : Int32))]))
    refine own_go (fun t k => XS.istore X134.here hx rfl (hb hby at_71) rfl (l' := #[.val (.int iv), .val (.int jv), .val (.int (2 : Int32)), .val (.int (1 : Int32)), .val (.ref u2), .val (.ref u1), .val (.int (0 : Int32)), .val (.int (1 : Int32)), .val (.int (1 : Int32))]) rfl k) ?_
    show own_Go _ _ _ _ (T134.setTop (mkF m 73 #[.val (.int iv), .val (.int jv), .val (.int (2 : Int32)), .val (.int (1 : Int32)), .val (.ref u2), .val (.ref u1), .val (.int (0 : Int32)), .val (.int (1 : Int32)), .val (.int (1 : Int32))] []))
    refine own_go (fun t k => XS.aload X134.here hx rfl (hb hby at_73) rfl rfl k) ?_
    show own_Go _ _ _ _ (T134.setTop (mkF m 75 #[.val (.int iv), .val (.int jv), .val (.int (2 : Int32)), .val (.int (1 : Int32)), .val (.ref u2), .val (.ref u1), .val (.int (0 : Int32)), .val (.int (1 : Int32)), .val (.int (1 : Int32))] [(.ref u2)]))
    refine own_go (fun t k => XS.aload X134.here hx rfl (hb hby at_75) rfl rfl k) ?_
    show own_Go _ _ _ _ (T134.setTop (mkF m 77 #[.val (.int iv), .val (.int jv), .val (.int (2 : Int32)), .val (.int (1 : Int32)), .val (.ref u2), .val (.ref u1), .val (.int (0 : Int32)), .val (.int (1 : Int32)), .val (.int (1 : Int32))] [(.ref u1), (.ref u2)]))
    obtain ⟨cq135, kq135, q135a, q135b, q135c⟩ := isOf hZ e134 (E2.ext O0.2)
    obtain ⟨_, _, ⟨T135, L135, k135, n135⟩, -, X135, hS135, hg135, ⟨Lc135, hQ135, l135, y135, z135⟩, st135⟩ := X134.virtualBackS hx (y := (⟨"com/example/mangga/mangga/queue/Place$Kind", "waitsBehind", "(Lcom/example/mangga/mangga/queue/Place$Kind;)Z"⟩ : MethodName)) (z := (⟨"com/example/mangga/mangga/queue/Place$Kind", "waitsBehind", "(Lcom/example/mangga/mangga/queue/Place$Kind;)Z"⟩ : MethodName)) hown (mvT hZ (w_8 hw)) (mvT hZ (w_9 hw)) (notFace_of_selects (args := #[]) (mvT hZ (w_11 hw))) (mvT hZ (w_11 hw)) (mvT hZ (w_10 hw)) (by decide) (backOfS (W := 0) (rm_waits l Z a0 hw [] u2 u1 (0 : Int32) (1 : Int32) h0 n0 Z0 (F2.ext O0.2) (F1.ext O0.2)) hZ (w_12 hw) (w_6 hw) (by decide) (by decide)) q135a q135c (g := (mkF m 77 #[.val (.int iv), .val (.int jv), .val (.int (2 : Int32)), .val (.int (1 : Int32)), .val (.ref u2), .val (.ref u1), .val (.int (0 : Int32)), .val (.int (1 : Int32)), .val (.int (1 : Int32))] [(.ref u1), (.ref u2)])) rfl (by rw [hml]; rfl) (Steps.refl _) (argsL := [(.ref u1)]) (rest := []) (lenOf pd_2 rfl) rfl (by show 2 * 0 + _ ≤ _; exact Nat.le_of_eq rfl) (hb hby at_77) (fun _ _ => ⟨rfl, e134, (by decide : 0 + 2 ≤ _), (by decide : 0 + 24 ≤ _)⟩)
    dsimp only [Pt.U, Pt.locs, Pt.cells, Pt.slots] at X135 l135 y135 z135 st135 hQ135 hS135 hg135
    replace hS := foldS hS (Nat.le_trans hk (Nat.le_of_eq (congrArg Array.size e134.symm))) hS135 hg135
    have hZ := State.Warmed39.trans hZ hS135.1
    have hown : T135.vm.findClass "com/example/mangga/mangga/queue/KindWaitsBehindPinLaw" = some m.cls := by rw [hS135.1.alike.findClass]; exact hown
    replace X135 : Stand p l e room_1 (s.setVm T135.vm) m #[(.int iv), (.int jv)] below meth c T135 _ _ _ := X135
    subst l135 y135 z135
    generalize e135 : T135.heap = h135 at hQ135
    obtain ⟨rfl, N135q, K135q⟩ := hQ135
    have hk : T135.heap.size ≤ h135.size := Nat.le_of_eq (by rw [e135])
    have N135 := Fr.app N134 N135q
    refine own_go (fun t k => st135.trans k) ?_
    have Z135 : n0 ≤ h135.size := (Nat.le_trans Z0 K135q.1)
    show own_Go _ _ _ _ (T135.setTop (mkF m 80 #[.val (.int iv), .val (.int jv), .val (.int (2 : Int32)), .val (.int (1 : Int32)), .val (.ref u2), .val (.ref u1), .val (.int (0 : Int32)), .val (.int (1 : Int32)), .val (.int (1 : Int32))] [(.int (1 : Int32))]))
    refine own_go (fun t k => XS.iload X135.here hx rfl (hb hby at_80) rfl k) ?_
    show own_Go _ _ _ _ (T135.setTop (mkF m 82 #[.val (.int iv), .val (.int jv), .val (.int (2 : Int32)), .val (.int (1 : Int32)), .val (.ref u2), .val (.ref u1), .val (.int (0 : Int32)), .val (.int (1 : Int32)), .val (.int (1 : Int32))] [(.int (1 : Int32)), (.int (1 : Int32))]))
    refine own_go (fun t k => XS.icmpNo X135.here hx rfl (hb hby at_82) rfl (teq (by decide : (1 : Int32) = (1 : Int32))).2 k) ?_
    show own_Go _ _ _ _ (T135.setTop (mkF m 85 #[.val (.int iv), .val (.int jv), .val (.int (2 : Int32)), .val (.int (1 : Int32)), .val (.ref u2), .val (.ref u1), .val (.int (0 : Int32)), .val (.int (1 : Int32)), .val (.int (1 : Int32))] []))
    refine own_go (fun t k => XS.iconst X135.here hx rfl (hb hby at_85) k) ?_
    show own_Go _ _ _ _ (T135.setTop (mkF m 86 #[.val (.int iv), .val (.int jv), .val (.int (2 : Int32)), .val (.int (1 : Int32)), .val (.ref u2), .val (.ref u1), .val (.int (0 : Int32)), .val (.int (1 : Int32)), .val (.int (1 : Int32))] [(.int (1 : Int32))]))
    refine own_go (fun t k => XS.goto X135.here hx rfl (pc0 := 86) (pc' := 90) rfl (hb hby at_86) (by decide) (by decide) k) ?_
    show own_Go _ _ _ _ (T135.setTop (mkF m 90 #[.val (.int iv), .val (.int jv), .val (.int (2 : Int32)), .val (.int (1 : Int32)), .val (.ref u2), .val (.ref u1), .val (.int (0 : Int32)), .val (.int (1 : Int32)), .val (.int (1 : Int32))] [(.int (1 : Int32))]))
    refine own_retNW X135 hx hS (Nat.le_trans hk (Nat.le_of_eq (congrArg Array.size e135.symm))) hlk (t := .boolean) hret (by simp) (hb hby at_90) ?_ (by decide) (by decide)
    rw [e135]
    exact ⟨rfl, N135⟩
  · show own_Go _ _ _ _ (s₁.setTop (mkF m 13 #[.val (.int iv), .val (.int jv), .val (.int (2 : Int32)), .unset, .unset, .unset, .unset, .unset, .unset] [(.int (2 : Int32))]))
    refine own_go (fun t k => XS.istoreN X0.here hx rfl (hb hby at_13) rfl (l' := #[.val (.int iv), .val (.int jv), .val (.int (2 : Int32)), .val (.int (2 : Int32)), .unset, .unset, .unset, .unset, .unset]) rfl k) ?_
    show own_Go _ _ _ _ (s₁.setTop (mkF m 14 #[.val (.int iv), .val (.int jv), .val (.int (2 : Int32)), .val (.int (2 : Int32)), .unset, .unset, .unset, .unset, .unset] []))
    refine own_go (fun t k => XS.iloadN X0.here hx rfl (hb hby at_14) rfl k) ?_
    show own_Go _ _ _ _ (s₁.setTop (mkF m 15 #[.val (.int iv), .val (.int jv), .val (.int (2 : Int32)), .val (.int (2 : Int32)), .unset, .unset, .unset, .unset, .unset] [(.int (2 : Int32))]))
    obtain ⟨_, _, ⟨T136, L136, k136, n136⟩, -, X136, ⟨Lc136, hQ136, l136, y136, z136⟩, st136⟩ := Jvm.LawKit.callS X0 hx (y := (⟨"com/example/mangga/mangga/queue/KindWaitsBehindPinLaw", "kindOf", "(I)Lcom/example/mangga/mangga/queue/Place$Kind;"⟩ : MethodName)) hown (mvT hZ (w_1 hw)) (mvT hZ (w_2 hw)) (mvT hZ (w_3 hw)) (mvT hZ (w_4 hw)) (by decide) (backOf (W := 0) (rm_kind l Z a0 hw [] (2 : Int32) u0 u1 u2 h0 n0 Z0 O0 S0 S1 S2) hZ (w_4 hw) (w_3 hw) (by decide) (by decide)) (g := (mkF m 15 #[.val (.int iv), .val (.int jv), .val (.int (2 : Int32)), .val (.int (2 : Int32)), .unset, .unset, .unset, .unset, .unset] [(.int (2 : Int32))])) rfl (by rw [hml]; rfl) (argsL := [(.int (2 : Int32))]) (rest := []) (lenOf pd_1 rfl) rfl (by show 2 * 0 + _ ≤ _; exact Nat.le_of_eq rfl) (hb hby at_15) (fun _ _ => ⟨rfl, e0, (by decide : 0 + 0 ≤ _), (by decide : 0 + 0 ≤ _)⟩)
    dsimp only [Pt.U, Pt.locs, Pt.cells, Pt.slots] at X136 l136 y136 z136 st136 hQ136
    subst l136 y136 z136
    obtain ⟨rfl, N136q, e136⟩ := hQ136
    have N136 := Fr.app N0 N136q
    refine own_go st136 ?_
    show own_Go _ _ _ _ (T136.setTop (mkF m 18 #[.val (.int iv), .val (.int jv), .val (.int (2 : Int32)), .val (.int (2 : Int32)), .unset, .unset, .unset, .unset, .unset] [(.ref u2)]))
    refine own_go (fun t k => XS.astore X136.here hx rfl (hb hby at_18) rfl rfl (l' := #[.val (.int iv), .val (.int jv), .val (.int (2 : Int32)), .val (.int (2 : Int32)), .val (.ref u2), .unset, .unset, .unset, .unset]) rfl k) ?_
    show own_Go _ _ _ _ (T136.setTop (mkF m 20 #[.val (.int iv), .val (.int jv), .val (.int (2 : Int32)), .val (.int (2 : Int32)), .val (.ref u2), .unset, .unset, .unset, .unset] []))
    refine own_go (fun t k => XS.iloadN X136.here hx rfl (hb hby at_20) rfl k) ?_
    show own_Go _ _ _ _ (T136.setTop (mkF m 21 #[.val (.int iv), .val (.int jv), .val (.int (2 : Int32)), .val (.int (2 : Int32)), .val (.ref u2), .unset, .unset, .unset, .unset] [(.int (2 : Int32))]))
    obtain ⟨_, _, ⟨T137, L137, k137, n137⟩, -, X137, ⟨Lc137, hQ137, l137, y137, z137⟩, st137⟩ := Jvm.LawKit.callS X136 hx (y := (⟨"com/example/mangga/mangga/queue/KindWaitsBehindPinLaw", "kindOf", "(I)Lcom/example/mangga/mangga/queue/Place$Kind;"⟩ : MethodName)) hown (mvT hZ (w_1 hw)) (mvT hZ (w_2 hw)) (mvT hZ (w_3 hw)) (mvT hZ (w_4 hw)) (by decide) (backOf (W := 0) (rm_kind l Z a0 hw [] (2 : Int32) u0 u1 u2 h0 n0 Z0 O0 S0 S1 S2) hZ (w_4 hw) (w_3 hw) (by decide) (by decide)) (g := (mkF m 21 #[.val (.int iv), .val (.int jv), .val (.int (2 : Int32)), .val (.int (2 : Int32)), .val (.ref u2), .unset, .unset, .unset, .unset] [(.int (2 : Int32))])) rfl (by rw [hml]; rfl) (argsL := [(.int (2 : Int32))]) (rest := []) (lenOf pd_1 rfl) rfl (by show 2 * 0 + _ ≤ _; exact Nat.le_of_eq rfl) (hb hby at_21) (fun _ _ => ⟨rfl, e136, (by decide : 0 + 0 ≤ _), (by decide : 0 + 0 ≤ _)⟩)
    dsimp only [Pt.U, Pt.locs, Pt.cells, Pt.slots] at X137 l137 y137 z137 st137 hQ137
    subst l137 y137 z137
    obtain ⟨rfl, N137q, e137⟩ := hQ137
    have N137 := Fr.app N136 N137q
    refine own_go st137 ?_
    show own_Go _ _ _ _ (T137.setTop (mkF m 24 #[.val (.int iv), .val (.int jv), .val (.int (2 : Int32)), .val (.int (2 : Int32)), .val (.ref u2), .unset, .unset, .unset, .unset] [(.ref u2)]))
    refine own_go (fun t k => XS.astore X137.here hx rfl (hb hby at_24) rfl rfl (l' := #[.val (.int iv), .val (.int jv), .val (.int (2 : Int32)), .val (.int (2 : Int32)), .val (.ref u2), .val (.ref u2), .unset, .unset, .unset]) rfl k) ?_
    show own_Go _ _ _ _ (T137.setTop (mkF m 26 #[.val (.int iv), .val (.int jv), .val (.int (2 : Int32)), .val (.int (2 : Int32)), .val (.ref u2), .val (.ref u2), .unset, .unset, .unset] []))
    refine own_go (fun t k => XS.iloadN X137.here hx rfl (hb hby at_26) rfl k) ?_
    show own_Go _ _ _ _ (T137.setTop (mkF m 27 #[.val (.int iv), .val (.int jv), .val (.int (2 : Int32)), .val (.int (2 : Int32)), .val (.ref u2), .val (.ref u2), .unset, .unset, .unset] [(.int (2 : Int32))]))
    refine own_go (fun t k => XS.iconst X137.here hx rfl (hb hby at_27) k) ?_
    show own_Go _ _ _ _ (T137.setTop (mkF m 28 #[.val (.int iv), .val (.int jv), .val (.int (2 : Int32)), .val (.int (2 : Int32)), .val (.ref u2), .val (.ref u2), .unset, .unset, .unset] [(.int (1 : Int32)), (.int (2 : Int32))]))
    refine own_go (fun t k => XS.icmpYes X137.here hx rfl (pc0 := 28) (pc' := 35) rfl (hb hby at_28) rfl (feq (by decide : ¬ ((2 : Int32) = (1 : Int32)))).2 (by decide) (by decide) k) ?_
    show own_Go _ _ _ _ (T137.setTop (mkF m 35 #[.val (.int iv), .val (.int jv), .val (.int (2 : Int32)), .val (.int (2 : Int32)), .val (.ref u2), .val (.ref u2), .unset, .unset, .unset] []))
    refine own_go (fun t k => XS.iconst X137.here hx rfl (hb hby at_35) k) ?_
    show own_Go _ _ _ _ (T137.setTop (mkF m 36 #[.val (.int iv), .val (.int jv), .val (.int (2 : Int32)), .val (.int (2 : Int32)), .val (.ref u2), .val (.ref u2), .unset, .unset, .unset] [(.int (0 : Int32))]))
    refine own_go (fun t k => XS.istore X137.here hx rfl (hb hby at_36) rfl (l' := #[.val (.int iv), .val (.int jv), .val (.int (2 : Int32)), .val (.int (2 : Int32)), .val (.ref u2), .val (.ref u2), .val (.int (0 : Int32)), .unset, .unset]) rfl k) ?_
    show own_Go _ _ _ _ (T137.setTop (mkF m 38 #[.val (.int iv), .val (.int jv), .val (.int (2 : Int32)), .val (.int (2 : Int32)), .val (.ref u2), .val (.ref u2), .val (.int (0 : Int32)), .unset, .unset] []))
    refine own_go (fun t k => XS.iloadN X137.here hx rfl (hb hby at_38) rfl k) ?_
    show own_Go _ _ _ _ (T137.setTop (mkF m 39 #[.val (.int iv), .val (.int jv), .val (.int (2 : Int32)), .val (.int (2 : Int32)), .val (.ref u2), .val (.ref u2), .val (.int (0 : Int32)), .unset, .unset] [(.int (2 : Int32))]))
    refine own_go (fun t k => XS.iconst X137.here hx rfl (hb hby at_39) k) ?_
    show own_Go _ _ _ _ (T137.setTop (mkF m 40 #[.val (.int iv), .val (.int jv), .val (.int (2 : Int32)), .val (.int (2 : Int32)), .val (.ref u2), .val (.ref u2), .val (.int (0 : Int32)), .unset, .unset] [(.int (1 : Int32)), (.int (2 : Int32))]))
    refine own_go (fun t k => XS.icmpYes X137.here hx rfl (pc0 := 40) (pc' := 47) rfl (hb hby at_40) rfl (feq (by decide : ¬ ((2 : Int32) = (1 : Int32)))).2 (by decide) (by decide) k) ?_
    show own_Go _ _ _ _ (T137.setTop (mkF m 47 #[.val (.int iv), .val (.int jv), .val (.int (2 : Int32)), .val (.int (2 : Int32)), .val (.ref u2), .val (.ref u2), .val (.int (0 : Int32)), .unset, .unset] []))
    refine own_go (fun t k => XS.iconst X137.here hx rfl (hb hby at_47) k) ?_
    show own_Go _ _ _ _ (T137.setTop (mkF m 48 #[.val (.int iv), .val (.int jv), .val (.int (2 : Int32)), .val (.int (2 : Int32)), .val (.ref u2), .val (.ref u2), .val (.int (0 : Int32)), .unset, .unset] [(.int (0 : Int32))]))
    refine own_go (fun t k => XS.istore X137.here hx rfl (hb hby at_48) rfl (l' := #[.val (.int iv), .val (.int jv), .val (.int (2 : Int32)), .val (.int (2 : Int32)), .val (.ref u2), .val (.ref u2), .val (.int (0 : Int32)), .val (.int (0 : Int32)), .unset]) rfl k) ?_
    show own_Go _ _ _ _ (T137.setTop (mkF m 50 #[.val (.int iv), .val (.int jv), .val (.int (2 : Int32)), .val (.int (2 : Int32)), .val (.ref u2), .val (.ref u2), .val (.int (0 : Int32)), .val (.int (0 : Int32)), .unset] []))
    refine own_go (fun t k => XS.iload X137.here hx rfl (hb hby at_50) rfl k) ?_
    show own_Go _ _ _ _ (T137.setTop (mkF m 52 #[.val (.int iv), .val (.int jv), .val (.int (2 : Int32)), .val (.int (2 : Int32)), .val (.ref u2), .val (.ref u2), .val (.int (0 : Int32)), .val (.int (0 : Int32)), .unset] [(.int (0 : Int32))]))
    refine own_go (fun t k => XS.ifYes X137.here hx rfl (pc0 := 52) (pc' := 70) rfl (hb hby at_52) rfl ((if0 _ _).trans (teq (by decide : (0 : Int32) = (0 : Int32))).1) (by decide) (by decide) k) ?_
    show own_Go _ _ _ _ (T137.setTop (mkF m 70 #[.val (.int iv), .val (.int jv), .val (.int (2 : Int32)), .val (.int (2 : Int32)), .val (.ref u2), .val (.ref u2), .val (.int (0 : Int32)), .val (.int (0 : Int32)), .unset] []))
    refine own_go (fun t k => XS.iconst X137.here hx rfl (hb hby at_70) k) ?_
    show own_Go _ _ _ _ (T137.setTop (mkF m 71 #[.val (.int iv), .val (.int jv), .val (.int (2 : Int32)), .val (.int (2 : Int32)), .val (.ref u2), .val (.ref u2), .val (.int (0 : Int32)), .val (.int (0 : Int32)), .unset] [(.int (1 : Int32))]))
    refine own_go (fun t k => XS.istore X137.here hx rfl (hb hby at_71) rfl (l' := #[.val (.int iv), .val (.int jv), .val (.int (2 : Int32)), .val (.int (2 : Int32)), .val (.ref u2), .val (.ref u2), .val (.int (0 : Int32)), .val (.int (0 : Int32)), .val (.int (1 : Int32))]) rfl k) ?_
    show own_Go _ _ _ _ (T137.setTop (mkF m 73 #[.val (.int iv), .val (.int jv), .val (.int (2 : Int32)), .val (.int (2 : Int32)), .val (.ref u2), .val (.ref u2), .val (.int (0 : Int32)), .val (.int (0 : Int32)), .val (.int (1 : Int32))] []))
    refine own_go (fun t k => XS.aload X137.here hx rfl (hb hby at_73) rfl rfl k) ?_
    show own_Go _ _ _ _ (T137.setTop (mkF m 75 #[.val (.int iv), .val (.int jv), .val (.int (2 : Int32)), .val (.int (2 : Int32)), .val (.ref u2), .val (.ref u2), .val (.int (0 : Int32)), .val (.int (0 : Int32)), .val (.int (1 : Int32))] [(.ref u2)]))
    refine own_go (fun t k => XS.aload X137.here hx rfl (hb hby at_75) rfl rfl k) ?_
    show own_Go _ _ _ _ (T137.setTop (mkF m 77 #[.val (.int iv), .val (.int jv), .val (.int (2 : Int32)), .val (.int (2 : Int32)), .val (.ref u2), .val (.ref u2), .val (.int (0 : Int32)), .val (.int (0 : Int32)), .val (.int (1 : Int32))] [(.ref u2), (.ref u2)]))
    obtain ⟨cq138, kq138, q138a, q138b, q138c⟩ := isOf hZ e137 (E2.ext O0.2)
    obtain ⟨_, _, ⟨T138, L138, k138, n138⟩, -, X138, hS138, hg138, ⟨Lc138, hQ138, l138, y138, z138⟩, st138⟩ := X137.virtualBackS hx (y := (⟨"com/example/mangga/mangga/queue/Place$Kind", "waitsBehind", "(Lcom/example/mangga/mangga/queue/Place$Kind;)Z"⟩ : MethodName)) (z := (⟨"com/example/mangga/mangga/queue/Place$Kind", "waitsBehind", "(Lcom/example/mangga/mangga/queue/Place$Kind;)Z"⟩ : MethodName)) hown (mvT hZ (w_8 hw)) (mvT hZ (w_9 hw)) (notFace_of_selects (args := #[]) (mvT hZ (w_11 hw))) (mvT hZ (w_11 hw)) (mvT hZ (w_10 hw)) (by decide) (backOfS (W := 0) (rm_waits l Z a0 hw [] u2 u2 (0 : Int32) (0 : Int32) h0 n0 Z0 (F2.ext O0.2) (F2.ext O0.2)) hZ (w_12 hw) (w_6 hw) (by decide) (by decide)) q138a q138c (g := (mkF m 77 #[.val (.int iv), .val (.int jv), .val (.int (2 : Int32)), .val (.int (2 : Int32)), .val (.ref u2), .val (.ref u2), .val (.int (0 : Int32)), .val (.int (0 : Int32)), .val (.int (1 : Int32))] [(.ref u2), (.ref u2)])) rfl (by rw [hml]; rfl) (Steps.refl _) (argsL := [(.ref u2)]) (rest := []) (lenOf pd_2 rfl) rfl (by show 2 * 0 + _ ≤ _; exact Nat.le_of_eq rfl) (hb hby at_77) (fun _ _ => ⟨rfl, e137, (by decide : 0 + 2 ≤ _), (by decide : 0 + 24 ≤ _)⟩)
    dsimp only [Pt.U, Pt.locs, Pt.cells, Pt.slots] at X138 l138 y138 z138 st138 hQ138 hS138 hg138
    replace hS := foldS hS (Nat.le_trans hk (Nat.le_of_eq (congrArg Array.size e137.symm))) hS138 hg138
    have hZ := State.Warmed39.trans hZ hS138.1
    have hown : T138.vm.findClass "com/example/mangga/mangga/queue/KindWaitsBehindPinLaw" = some m.cls := by rw [hS138.1.alike.findClass]; exact hown
    replace X138 : Stand p l e room_1 (s.setVm T138.vm) m #[(.int iv), (.int jv)] below meth c T138 _ _ _ := X138
    subst l138 y138 z138
    generalize e138 : T138.heap = h138 at hQ138
    obtain ⟨rfl, N138q, K138q⟩ := hQ138
    have hk : T138.heap.size ≤ h138.size := Nat.le_of_eq (by rw [e138])
    have N138 := Fr.app N137 N138q
    refine own_go (fun t k => st138.trans k) ?_
    have Z138 : n0 ≤ h138.size := (Nat.le_trans Z0 K138q.1)
    show own_Go _ _ _ _ (T138.setTop (mkF m 80 #[.val (.int iv), .val (.int jv), .val (.int (2 : Int32)), .val (.int (2 : Int32)), .val (.ref u2), .val (.ref u2), .val (.int (0 : Int32)), .val (.int (0 : Int32)), .val (.int (1 : Int32))] [(.int (1 : Int32))]))
    refine own_go (fun t k => XS.iload X138.here hx rfl (hb hby at_80) rfl k) ?_
    show own_Go _ _ _ _ (T138.setTop (mkF m 82 #[.val (.int iv), .val (.int jv), .val (.int (2 : Int32)), .val (.int (2 : Int32)), .val (.ref u2), .val (.ref u2), .val (.int (0 : Int32)), .val (.int (0 : Int32)), .val (.int (1 : Int32))] [(.int (1 : Int32)), (.int (1 : Int32))]))
    refine own_go (fun t k => XS.icmpNo X138.here hx rfl (hb hby at_82) rfl (teq (by decide : (1 : Int32) = (1 : Int32))).2 k) ?_
    show own_Go _ _ _ _ (T138.setTop (mkF m 85 #[.val (.int iv), .val (.int jv), .val (.int (2 : Int32)), .val (.int (2 : Int32)), .val (.ref u2), .val (.ref u2), .val (.int (0 : Int32)), .val (.int (0 : Int32)), .val (.int (1 : Int32))] []))
    refine own_go (fun t k => XS.iconst X138.here hx rfl (hb hby at_85) k) ?_
    show own_Go _ _ _ _ (T138.setTop (mkF m 86 #[.val (.int iv), .val (.int jv), .val (.int (2 : Int32)), .val (.int (2 : Int32)), .val (.ref u2), .val (.ref u2), .val (.int (0 : Int32)), .val (.int (0 : Int32)), .val (.int (1 : Int32))] [(.int (1 : Int32))]))
    refine own_go (fun t k => XS.goto X138.here hx rfl (pc0 := 86) (pc' := 90) rfl (hb hby at_86) (by decide) (by decide) k) ?_
    show own_Go _ _ _ _ (T138.setTop (mkF m 90 #[.val (.int iv), .val (.int jv), .val (.int (2 : Int32)), .val (.int (2 : Int32)), .val (.ref u2), .val (.ref u2), .val (.int (0 : Int32)), .val (.int (0 : Int32)), .val (.int (1 : Int32))] [(.int (1 : Int32))]))
    refine own_retNW X138 hx hS (Nat.le_trans hk (Nat.le_of_eq (congrArg Array.size e138.symm))) hlk (t := .boolean) hret (by simp) (hb hby at_90) ?_ (by decide) (by decide)
    rw [e138]
    exact ⟨rfl, N138⟩
theorem w_7 {Z : State} {a0 : Array Value} (hw : ∀ d ∈ tables_1, d.before a0 Z = true) : (Jvm.Cond.laysStatic "com/example/mangga/mangga/queue/Place$Kind" "LOCK" "Lcom/example/mangga/mangga/queue/Place$Kind;").before a0 Z = true := hw _ (List.mem_of_getElem? (i := 7) rfl)
theorem w_30 {Z : State} {a0 : Array Value} (hw : ∀ d ∈ tables_1, d.before a0 Z = true) : (Jvm.Cond.laysStatic "com/example/mangga/mangga/queue/Place$Kind" "READ" "Lcom/example/mangga/mangga/queue/Place$Kind;").before a0 Z = true := hw _ (List.mem_of_getElem? (i := 30) rfl)
theorem w_28 {Z : State} {a0 : Array Value} (hw : ∀ d ∈ tables_1, d.before a0 Z = true) : (Jvm.Cond.laysStatic "com/example/mangga/mangga/queue/Place$Kind" "WRITE" "Lcom/example/mangga/mangga/queue/Place$Kind;").before a0 Z = true := hw _ (List.mem_of_getElem? (i := 28) rfl)
set_option maxRecDepth 65536 in
set_option maxHeartbeats 40000000 in
theorem comes_1 {Post : Tables → Env → Array Value → State → Outcome → State → Prop} (hpost : ∀ tb e args s v u, (limb_1_1.after args s (.returned v) u = true ∧ limb_1_2.after args s (.returned v) u = true ∧ True) → ReturnedEndW s (.returned v) u (Jvm.fieldLocs frame_1_writes args s ++ Jvm.arrayLocs frame_1_arrays args s ++ Jvm.staticLocs frame_1_statics s) 8 1088 → Post tb e args s (.returned v) u) :
    ArmFor flags0 classFile x code maxLocals ret World_1 tables_1 room_1 Calls_1 rest_1 Pre_1 Post := by
  intro l hfl _ _ p e ha hc hk s m args below hf hA hF happ hP
  obtain ⟨hcalls, hrest, hpre⟩ := hP
  obtain ⟨-, -, -, hnamed, -, -, -, hat⟩ := (Spec.applies_iff hf).mp happ
  obtain ⟨hg, hn⟩ := and_e (Cond.before_iff.mp (show (Jvm.Cond.and given_1 narrow_1).before args s = true from hpre))
  obtain ⟨g1, g2⟩ := and_e hg
  obtain ⟨g3, g4⟩ := and_e g2
  obtain ⟨n1, n2⟩ := and_e hn
  obtain ⟨n3, n4⟩ := and_e n2
  obtain ⟨n5, n6⟩ := and_e n4
  obtain ⟨n7, n8⟩ := and_e n6
  obtain ⟨n9, n10⟩ := and_e n8
  obtain ⟨w0, w1, rfl⟩ : ∃ w0 w1 : Value, args = #[w0, w1] := by
    have hs : args.size = 2 := by simpa [Cond.value, given_1] using g1
    obtain ⟨L⟩ := args
    match L, hs with
    | [w0, w1], _ => exact ⟨w0, w1, rfl⟩
  have hw := fun d (hd : d ∈ tables_1) => atoms_spec (ws := Jvm.Cond.code x code maxLocals ret :: tables_1) hat d (List.mem_cons_of_mem _ hd)
  have hfit : Fit s := fun {y c} hc i hi => by
    obtain ⟨ha, rfl⟩ := Array.getElem?_eq_some_iff.mp hc
    have q := List.all_eq_true.mp ((Array.all_eq_true_iff_forall_mem.mp hF) _ (Array.getElem_mem ha)) i (List.mem_range.mpr hi)
    simpa [Array.getElem?_eq_getElem hi] using q
  obtain ⟨i0, ei0⟩ := is_v g3
  obtain rfl : w0 = (.int i0) := Option.some.inj ei0
  obtain ⟨i1, ei1⟩ := is_v g4
  obtain rfl : w1 = (.int i1) := Option.some.inj ei1
  obtain ⟨u0, ev0⟩ := exa_v n1
  have E0 := Exa.start ev0 n1
  have F0 := own_fld ev0 n3
  have S0 := Sta.start ev0 (Or.inr ⟨(w_6 hw), (w_7 hw)⟩)
  obtain ⟨u1, ev1⟩ := exa_v n7
  have E1 := Exa.start ev1 n7
  have F1 := own_fld ev1 n10
  have S1 := Sta.start ev1 (Or.inr ⟨(w_6 hw), (w_30 hw)⟩)
  obtain ⟨u2, ev2⟩ := exa_v n5
  have E2 := Exa.start ev2 n5
  have F2 := own_fld ev2 n9
  have S2 := Sta.start ev2 (Or.inr ⟨(w_6 hw), (w_28 hw)⟩)
  obtain ⟨n, o, h1, h2, h3, _, L, rfl, ⟨rfl, N⟩, hq⟩ := rm_law l s _ hw tables_1 i0 i1 u0 u1 u2 s.heap s.heap.size (Nat.le_refl _) (Old.start s) S0 S1 S2 E0 E1 E2 F0 F1 F2 p e ha hc hk s m _ below hf ((Spec.applies_iff_loose hf).mp happ).1 ⟨rfl, State.Warmed39.refl s, rfl⟩ trivial
  refine ⟨n, _, h1, h2, h3, hpost _ _ _ _ _ _ ⟨Cond.after_iff.mpr rfl, Cond.after_iff.mpr (eq_i res_at (Term.int_eval (1)) rfl), trivial⟩ ⟨hq.1, hq.2.1, hq.2.2.1, (hq.2.2.2.sift fun y hy => Or.inr (N y hy)).mono (by decide) (by decide)⟩⟩
theorem main_1_1 : Claimed_1_1 := comes_1 fun _ _ _ _ _ _ h hF => ⟨h.1, hF⟩
theorem main_1_2 : Claimed_1_2 := comes_1 fun _ _ _ _ _ _ h hF => ⟨h.2.1, hF⟩
end Jvm.Pilot.@@N@@
namespace Jvm.Pilot.@@N@@
open Jvm Jvm.ClassFile Sem Op Lib Jvm.Free Jvm.Stand Jvm.Pilot.@@N@@.Jvm.D
/-! MADE BY PROGRAM (witnessworld.py) out of the Statement's table words and the real class files: 16 classes; the members and pool entries that the words name. The judged class is class 1, her method 2. -/
namespace start1
open Jvm.ClassFile
def u (s : String) : CpInfo := .utf8 (stringToUtf16 s)
/-- a pool by its gaps: so many unusable entries, then the entry; so many at the end -/
def gap : Nat → List CpInfo → List CpInfo
  | 0, r => r
  | n + 1, r => .unusable :: gap n r
def poolList (es : List (Nat × CpInfo)) (last : Nat) : List CpInfo := es.foldr (fun e r => gap e.1 (e.2 :: r)) (gap last [])
def pool (es : List (Nat × CpInfo)) (last : Nat) : Array CpInfo := ⟨poolList es last⟩
def fileOf (pool : Array CpInfo) (this : Nat) (attrs : Array Attribute := #[]) (ms : Array MethodInfo := #[]) (fl : Nat := 33) (sup : Nat := 0) (ifs : Array Nat := #[]) (fds : Array FieldInfo := #[]) : ClassFile where
  minorVersion := 0
  majorVersion := 65
  constantPool := pool
  accessFlags := fl
  thisClass := this
  superClass := sup
  interfaces := ifs
  fields := fds
  methods := ms
  attributes := attrs
def plain (name : String) (sup : Option ClassId) : Class where
  name := name
  kind := .ordinary
  loader := none
  accessFlags := 33
  super := sup
  interfaces := #[]
  cf := none
  fields := #[]
  methods := #[]
  instanceTypes := #[]
  staticTypes := #[]
  resolved := #[]
  callSites := []
  init := .initialized
  statics := none
  mirror := none

def pool0 : Array CpInfo := pool [(5, u "<init>"), (0, u "()V"), (1, .class_ 10), (1, u "java/lang/Object")] 113

def k0m0 : Method := { name := "<init>", desc := "()V", sig := { parameters := [], returnType := none }, accessFlags := 1, code := none }
/-- java/lang/Object -/
def k0 : Class := { plain "java/lang/Object" none with
  accessFlags := 33
  interfaces := #[]
  cf := some (fileOf pool0 8 #[] #[{ accessFlags := 1, nameIndex := 5, descriptorIndex := 6, attributes := #[] }] 33 0 #[] #[])
  fields := #[]
  methods := #[k0m0]
  instanceTypes := #[]
  staticTypes := #[]
  resolved := Array.replicate 124 none
  statics := none }

def pool1 : Array CpInfo := pool [(2, .class_ 4), (1, u "java/lang/Object"), (0, u "<init>"), (0, u "()V"), (0, .fieldref 8 9), (0, .class_ 10), (0, .nameAndType 11 12), (0, u "com/example/mangga/mangga/queue/Place$Kind"), (0, u "LOCK"), (0, u "Lcom/example/mangga/mangga/queue/Place$Kind;"), (0, .fieldref 8 14), (0, .nameAndType 15 12), (0, u "READ"), (0, .fieldref 8 17), (0, .nameAndType 18 12), (0, u "WRITE"), (0, .integer 2147483647), (0, .methodref 21 22), (0, .class_ 23), (0, .nameAndType 24 25), (0, u "com/example/mangga/mangga/queue/KindWaitsBehindPinLaw"), (0, u "kindOf"), (0, u "(I)Lcom/example/mangga/mangga/queue/Place$Kind;"), (0, .methodref 8 27), (0, .nameAndType 28 29), (0, u "waitsBehind"), (0, u "(Lcom/example/mangga/mangga/queue/Place$Kind;)Z"), (3, u "law"), (0, u "(II)Z")] 6

def k1m0 : Method := { name := "<init>", desc := "()V", sig := { parameters := [], returnType := none }, accessFlags := 2, code := none }
def k1c1 : Code := { maxStack := 2, maxLocals := 1, code := method_2_code, exceptionTable := #[], attributes := #[] }
def k1m1 : Method := { name := "kindOf", desc := "(I)Lcom/example/mangga/mangga/queue/Place$Kind;", sig := { parameters := [.int], returnType := some (.object "com/example/mangga/mangga/queue/Place$Kind") }, accessFlags := 10, code := some k1c1 }
def k1c2 : Code := { maxStack := 2, maxLocals := 9, code := code, exceptionTable := #[], attributes := #[] }
def k1m2 : Method := { name := "law", desc := "(II)Z", sig := { parameters := [.int, .int], returnType := some .boolean }, accessFlags := 9, code := some k1c2 }
/-- com/example/mangga/mangga/queue/KindWaitsBehindPinLaw -/
def k1 : Class := { plain "com/example/mangga/mangga/queue/KindWaitsBehindPinLaw" (some 0) with
  accessFlags := 49
  interfaces := #[]
  cf := some (fileOf pool1 21 #[] #[{ accessFlags := 2, nameIndex := 5, descriptorIndex := 6, attributes := #[] }, { accessFlags := 10, nameIndex := 24, descriptorIndex := 25, attributes := #[] }, { accessFlags := 9, nameIndex := 33, descriptorIndex := 34, attributes := #[] }] 49 2 #[] #[])
  fields := #[]
  methods := #[k1m0, k1m1, k1m2]
  instanceTypes := #[]
  staticTypes := #[]
  resolved := Array.replicate 41 none
  statics := none }

def pool2 : Array CpInfo := pool [(1, .class_ 2), (0, u "java/lang/constant/Constable"), (0, .class_ 4), (0, u "java/lang/Object")] 6

/-- java/lang/constant/Constable -/
def k2 : Class := { plain "java/lang/constant/Constable" (some 0) with
  accessFlags := 1537
  interfaces := #[]
  cf := some (fileOf pool2 1 #[] #[] 1537 3 #[] #[])
  fields := #[]
  methods := #[]
  instanceTypes := #[]
  staticTypes := #[]
  resolved := Array.replicate 11 none
  statics := none }

def pool3 : Array CpInfo := pool [(1, .class_ 2), (0, u "java/lang/Comparable"), (0, .class_ 4), (0, u "java/lang/Object")] 7

/-- java/lang/Comparable -/
def k3 : Class := { plain "java/lang/Comparable" (some 0) with
  accessFlags := 1537
  interfaces := #[]
  cf := some (fileOf pool3 1 #[] #[] 1537 3 #[] #[])
  fields := #[]
  methods := #[]
  instanceTypes := #[]
  staticTypes := #[]
  resolved := Array.replicate 12 none
  statics := none }

def pool4 : Array CpInfo := pool [(1, .class_ 2), (0, u "java/io/Serializable"), (0, .class_ 4), (0, u "java/lang/Object")] 2

/-- java/io/Serializable -/
def k4 : Class := { plain "java/io/Serializable" (some 0) with
  accessFlags := 1537
  interfaces := #[]
  cf := some (fileOf pool4 1 #[] #[] 1537 3 #[] #[])
  fields := #[]
  methods := #[]
  instanceTypes := #[]
  staticTypes := #[]
  resolved := Array.replicate 7 none
  statics := none }

def pool5 : Array CpInfo := pool [(2, .class_ 4), (1, u "java/lang/Enum"), (0, u "name"), (0, u "Ljava/lang/String;"), (2, u "ordinal"), (0, u "I"), (1, .class_ 14), (1, u "java/lang/Object"), (4, u "hash"), (86, .class_ 108), (1, u "java/lang/Enum$EnumDesc"), (2, .class_ 112), (0, u "java/lang/constant/Constable"), (0, .class_ 114), (0, u "java/lang/Comparable"), (0, .class_ 116), (0, u "java/io/Serializable")] 87

/-- java/lang/Enum -/
def k5 : Class := { plain "java/lang/Enum" (some 0) with
  accessFlags := 1057
  interfaces := #[2, 3, 4]
  cf := some (fileOf pool5 2 #[.nestMembers #[106]] #[] 1057 12 #[111, 113, 115] #[{ accessFlags := 18, nameIndex := 5, descriptorIndex := 6, attributes := #[] }, { accessFlags := 18, nameIndex := 9, descriptorIndex := 10, attributes := #[] }, { accessFlags := 2, nameIndex := 19, descriptorIndex := 10, attributes := #[] }])
  fields := #[{ name := "name", type := (.object "java/lang/String"), accessFlags := 18, slot := 0, constantValue := 0 }, { name := "ordinal", type := .int, accessFlags := 18, slot := 1, constantValue := 0 }, { name := "hash", type := .int, accessFlags := 2, slot := 2, constantValue := 0 }]
  methods := #[]
  instanceTypes := #[(.object "java/lang/String"), .int, .int]
  staticTypes := #[]
  resolved := Array.replicate 204 none
  statics := none }

def pool6 : Array CpInfo := pool [(1, .class_ 2), (0, u "com/example/mangga/mangga/queue/Place$Kind"), (2, u "LOCK"), (0, u "Lcom/example/mangga/mangga/queue/Place$Kind;"), (2, u "READ"), (2, u "WRITE"), (2, u "$VALUES"), (0, u "[Lcom/example/mangga/mangga/queue/Place$Kind;"), (6, .class_ 25), (1, u "java/lang/Enum"), (8, u "marker"), (0, u "Ljava/lang/String;"), (0, .fieldref 1 37), (0, .nameAndType 38 39), (0, u "shared"), (0, u "Z"), (0, .string 41), (0, u "lower"), (0, .methodref 43 44), (0, .class_ 45), (0, .nameAndType 46 47), (0, u "java/util/Objects"), (0, u "requireNonNull"), (0, u "(Ljava/lang/Object;Ljava/lang/String;)Ljava/lang/Object;"), (23, u "waitsBehind"), (0, u "(Lcom/example/mangga/mangga/queue/Place$Kind;)Z"), (8, .class_ 82), (0, u "com/example/mangga/mangga/queue/Place")] 2

def k6c0 : Code := { maxStack := 2, maxLocals := 2, code := prog_3_method_4_code, exceptionTable := #[], attributes := #[] }
def k6m0 : Method := { name := "waitsBehind", desc := "(Lcom/example/mangga/mangga/queue/Place$Kind;)Z", sig := { parameters := [(.object "com/example/mangga/mangga/queue/Place$Kind")], returnType := some .boolean }, accessFlags := 1, code := some k6c0 }
/-- com/example/mangga/mangga/queue/Place$Kind -/
def k6 : Class := { plain "com/example/mangga/mangga/queue/Place$Kind" (some 5) with
  accessFlags := 16433
  interfaces := #[]
  cf := some (fileOf pool6 1 #[.nestHost 81] #[{ accessFlags := 1, nameIndex := 71, descriptorIndex := 72, attributes := #[] }] 16433 23 #[] #[{ accessFlags := 16409, nameIndex := 5, descriptorIndex := 6, attributes := #[] }, { accessFlags := 16409, nameIndex := 9, descriptorIndex := 6, attributes := #[] }, { accessFlags := 16409, nameIndex := 12, descriptorIndex := 6, attributes := #[] }, { accessFlags := 18, nameIndex := 34, descriptorIndex := 35, attributes := #[] }, { accessFlags := 18, nameIndex := 38, descriptorIndex := 39, attributes := #[] }, { accessFlags := 4122, nameIndex := 15, descriptorIndex := 16, attributes := #[] }])
  fields := #[{ name := "LOCK", type := (.object "com/example/mangga/mangga/queue/Place$Kind"), accessFlags := 16409, slot := 0, constantValue := 0 }, { name := "READ", type := (.object "com/example/mangga/mangga/queue/Place$Kind"), accessFlags := 16409, slot := 1, constantValue := 0 }, { name := "WRITE", type := (.object "com/example/mangga/mangga/queue/Place$Kind"), accessFlags := 16409, slot := 2, constantValue := 0 }, { name := "marker", type := (.object "java/lang/String"), accessFlags := 18, slot := 3, constantValue := 0 }, { name := "shared", type := .boolean, accessFlags := 18, slot := 4, constantValue := 0 }, { name := "$VALUES", type := (.array (.object "com/example/mangga/mangga/queue/Place$Kind")), accessFlags := 4122, slot := 3, constantValue := 0 }]
  methods := #[k6m0]
  instanceTypes := #[(.object "java/lang/String"), .int, .int, (.object "java/lang/String"), .boolean]
  staticTypes := #[(.object "com/example/mangga/mangga/queue/Place$Kind"), (.object "com/example/mangga/mangga/queue/Place$Kind"), (.object "com/example/mangga/mangga/queue/Place$Kind"), (.array (.object "com/example/mangga/mangga/queue/Place$Kind"))]
  resolved := Array.replicate 85 none
  statics := some 0 }

def pool7 : Array CpInfo := pool [(2, .class_ 4), (1, u "java/lang/CharSequence"), (42, .class_ 48), (0, u "java/lang/CharSequence$1CodePointIterator"), (10, .class_ 60), (0, u "java/lang/CharSequence$1CharIterator"), (5, .class_ 67), (0, u "java/lang/Object")] 63

/-- java/lang/CharSequence -/
def k7 : Class := { plain "java/lang/CharSequence" (some 0) with
  accessFlags := 1537
  interfaces := #[]
  cf := some (fileOf pool7 2 #[.nestMembers #[47, 59]] #[] 1537 66 #[] #[])
  fields := #[]
  methods := #[]
  instanceTypes := #[]
  staticTypes := #[]
  resolved := Array.replicate 131 none
  statics := none }

def pool8 : Array CpInfo := pool [(1, .class_ 2), (0, u "java/lang/constant/ConstantDesc"), (0, .class_ 4), (0, u "java/lang/Object")] 32

/-- java/lang/constant/ConstantDesc -/
def k8 : Class := { plain "java/lang/constant/ConstantDesc" (some 0) with
  accessFlags := 1537
  interfaces := #[]
  cf := some (fileOf pool8 1 #[] #[] 1537 3 #[] #[])
  fields := #[]
  methods := #[]
  instanceTypes := #[]
  staticTypes := #[]
  resolved := Array.replicate 37 none
  statics := none }

def pool9 : Array CpInfo := pool [(2, .class_ 4), (1, u "java/lang/Object"), (0, u "<init>"), (0, u "()V"), (3, .class_ 12), (1, u "java/lang/String"), (0, u "value"), (0, u "[B"), (2, u "coder"), (0, u "B"), (2, u "hash"), (0, u "I"), (2, u "hashIsZero"), (0, u "Z"), (13, u "COMPACT_STRINGS"), (534, .class_ 576), (0, u "java/lang/CharSequence"), (22, u "CASE_INSENSITIVE_ORDER"), (0, u "Ljava/util/Comparator;"), (500, u "serialPersistentFields"), (0, u "[Ljava/io/ObjectStreamField;"), (0, .class_ 1104), (0, u "java/lang/String$CaseInsensitiveComparator"), (1, .class_ 1107), (0, u "java/io/Serializable"), (0, .class_ 1109), (0, u "java/lang/Comparable"), (0, .class_ 1111), (0, u "java/lang/constant/Constable"), (0, .class_ 1113), (0, u "java/lang/constant/ConstantDesc"), (2, u "serialVersionUID"), (0, u "J"), (3, u "REPL"), (0, u "C"), (2, u "LATIN1"), (1, u "UTF16")] 323

def k9m0 : Method := { name := "<init>", desc := "()V", sig := { parameters := [], returnType := none }, accessFlags := 1, code := none }
/-- java/lang/String -/
def k9 : Class := { plain "java/lang/String" (some 0) with
  accessFlags := 49
  interfaces := #[4, 3, 7, 2, 8]
  cf := some (fileOf pool9 10 #[.nestMembers #[1103]] #[{ accessFlags := 1, nameIndex := 5, descriptorIndex := 6, attributes := #[] }] 49 2 #[1106, 1108, 575, 1110, 1112] #[{ accessFlags := 18, nameIndex := 13, descriptorIndex := 14, attributes := #[] }, { accessFlags := 18, nameIndex := 17, descriptorIndex := 18, attributes := #[] }, { accessFlags := 2, nameIndex := 21, descriptorIndex := 22, attributes := #[] }, { accessFlags := 2, nameIndex := 25, descriptorIndex := 26, attributes := #[] }, { accessFlags := 26, nameIndex := 1116, descriptorIndex := 1117, attributes := #[] }, { accessFlags := 24, nameIndex := 40, descriptorIndex := 26, attributes := #[] }, { accessFlags := 26, nameIndex := 1101, descriptorIndex := 1102, attributes := #[] }, { accessFlags := 26, nameIndex := 1121, descriptorIndex := 1122, attributes := #[] }, { accessFlags := 25, nameIndex := 599, descriptorIndex := 600, attributes := #[] }, { accessFlags := 24, nameIndex := 1125, descriptorIndex := 18, attributes := #[] }, { accessFlags := 24, nameIndex := 1127, descriptorIndex := 18, attributes := #[] }])
  fields := #[{ name := "value", type := (.array .byte), accessFlags := 18, slot := 0, constantValue := 0 }, { name := "coder", type := .byte, accessFlags := 18, slot := 1, constantValue := 0 }, { name := "hash", type := .int, accessFlags := 2, slot := 2, constantValue := 0 }, { name := "hashIsZero", type := .boolean, accessFlags := 2, slot := 3, constantValue := 0 }, { name := "serialVersionUID", type := .long, accessFlags := 26, slot := 0, constantValue := 0 }, { name := "COMPACT_STRINGS", type := .boolean, accessFlags := 24, slot := 1, constantValue := 0 }, { name := "serialPersistentFields", type := (.array (.object "java/io/ObjectStreamField")), accessFlags := 26, slot := 2, constantValue := 0 }, { name := "REPL", type := .char, accessFlags := 26, slot := 3, constantValue := 0 }, { name := "CASE_INSENSITIVE_ORDER", type := (.object "java/util/Comparator"), accessFlags := 25, slot := 4, constantValue := 0 }, { name := "LATIN1", type := .byte, accessFlags := 24, slot := 5, constantValue := 0 }, { name := "UTF16", type := .byte, accessFlags := 24, slot := 6, constantValue := 0 }]
  methods := #[k9m0]
  instanceTypes := #[(.array .byte), .byte, .int, .boolean]
  staticTypes := #[.long, .boolean, (.array (.object "java/io/ObjectStreamField")), .char, (.object "java/util/Comparator"), .byte, .byte]
  resolved := Array.replicate 1451 none
  statics := none }

def pool10 : Array CpInfo := pool [(2, .class_ 4), (1, u "java/lang/Object"), (0, u "<init>"), (0, u "()V"), (35, .class_ 44), (1, u "java/util/Objects"), (0, u "requireNonNull"), (48, u "(Ljava/lang/Object;Ljava/lang/String;)Ljava/lang/Object;")] 89

def k10m0 : Method := { name := "<init>", desc := "()V", sig := { parameters := [], returnType := none }, accessFlags := 2, code := none }
def k10c1 : Code := { maxStack := 3, maxLocals := 2, code := jdk_31_method_11_code, exceptionTable := #[], attributes := #[] }
def k10m1 : Method := { name := "requireNonNull", desc := "(Ljava/lang/Object;Ljava/lang/String;)Ljava/lang/Object;", sig := { parameters := [(.object "java/lang/Object"), (.object "java/lang/String")], returnType := some (.object "java/lang/Object") }, accessFlags := 9, code := some k10c1 }
/-- java/util/Objects -/
def k10 : Class := { plain "java/util/Objects" (some 0) with
  accessFlags := 49
  interfaces := #[]
  cf := some (fileOf pool10 42 #[] #[{ accessFlags := 2, nameIndex := 5, descriptorIndex := 6, attributes := #[] }, { accessFlags := 9, nameIndex := 45, descriptorIndex := 94, attributes := #[] }] 49 2 #[] #[])
  fields := #[]
  methods := #[k10m0, k10m1]
  instanceTypes := #[]
  staticTypes := #[]
  resolved := Array.replicate 184 none
  statics := none }

def pool11 : Array CpInfo := pool [(1, u "java/lang/Cloneable"), (0, .class_ 1), (0, u "java/lang/Object"), (0, .class_ 3)] 3

/-- java/lang/Cloneable -/
def k11 : Class := { plain "java/lang/Cloneable" (some 0) with
  accessFlags := 1537
  interfaces := #[]
  cf := some (fileOf pool11 2 #[] #[] 1537 4 #[] #[])
  fields := #[]
  methods := #[]
  instanceTypes := #[]
  staticTypes := #[]
  resolved := Array.replicate 8 none
  statics := none }

/-- the primitive byte -/
def k12 : Class := { plain "byte" none with kind := .primitive 'B', accessFlags := 0x411 }
/-- [B -/
def k13 : Class := { plain "[B" (some 0) with kind := .array 12 .byte, interfaces := #[11, 4], accessFlags := 1041 }

/-- the primitive int -/
def k14 : Class := { plain "int" none with kind := .primitive 'I', accessFlags := 0x411 }
/-- [I -/
def k15 : Class := { plain "[I" (some 0) with kind := .array 14 .int, interfaces := #[11, 4], accessFlags := 1041 }

def heap : Heap := #[{ cls := 6, slots := #[.ref 1, .ref 2, .ref 3, .null], vm := .statics 6 },
  { cls := 6, slots := #[.null, .int 0, .int 0, .null, .int 0], vm := .none },
  { cls := 6, slots := #[.null, .int 1, .int 0, .null, .int 1], vm := .none },
  { cls := 6, slots := #[.null, .int 2, .int 0, .null, .int 0], vm := .none }]
def classes : Array Class := #[k0, k1, k2, k3, k4, k5, k6, k7, k8, k9, k10, k11, k12, k13, k14, k15]
def interned : List (Array UInt16 × Addr) := []
def slotsUsed : Nat := 19
def theMethod : MethodId := ⟨1, 2⟩
def args0 : Array Value := #[.int 5, .int 7]
def aboutOver (below : List Frame) : State where
  vm := { classes := classes, interned := interned.toArray }
  heap := heap
  slotsUsed := slotsUsed
  threads := #[{ frames := .invoking theMethod args0 :: below }]
def below0 : List Frame := [.native { method := ⟨0, 0⟩, args := #[] }]
def about1 : State := aboutOver below0
def p0 : Program := .bare "" "" ""
def e0 : Env := launch0.env 0 0 0
theorem w_frames : about1.frames = Frame.invoking theMethod args0 :: below0 := rfl
set_option maxRecDepth 65536 in
theorem w_args : argsFit about1.vm theMethod args0 = true := by decide +kernel
set_option maxRecDepth 65536 in
theorem w_heap : heapFits about1 = true := by decide +kernel
set_option maxRecDepth 65536 in
theorem w_runnable : about1.curStatus? = some .runnable := by decide +kernel
set_option maxRecDepth 65536 in
theorem w_alone : about1.alone = true := by decide +kernel
set_option maxRecDepth 65536 in
theorem w_named : about1.methodNamed? x = some theMethod := by decide +kernel
set_option maxRecDepth 65536 in
theorem w_hears : about1.hears theMethod below0 = true := by decide +kernel
set_option maxRecDepth 65536 in
theorem w_ripe : about1.ripe theMethod args0 below0 = true := by decide +kernel
theorem w_running : about1.status = .running := rfl
set_option maxRecDepth 65536 in
theorem w_room : about1.hasRoom e0.platform room_1 = true :=
  launch0.hasRoom_least _ room_1 (by decide +kernel) (by decide +kernel) (by decide +kernel) (by decide +kernel) (by decide +kernel) (by decide +kernel)
theorem allAtoms_all (ts : List Jvm.Cond) (a : Array Jvm.Value) (st : Jvm.State) : (allAtoms ts).before a st = ts.all (fun c => c.before a st) := by
  induction ts with
  | nil => rfl
  | cons c t ih =>
    show (Jvm.Cond.and c (allAtoms t)).before a st = _
    rw [Jvm.Cond.before_and, ih, List.all_cons]
def words1 : List Jvm.Cond := Jvm.Cond.code x code maxLocals ret :: tables_1
/-- a 'code' word, met by the world's own term for the bytes: nothing is compared byte by byte -/
theorem code_word {y : MethodName} {bytes : ByteArray} {mx : Nat} {rt : Option FieldType} {a : Array Value} {s : State} {m : MethodId} {meth : Method} {c : Code} (h1 : s.methodNamed? y = some m) (h2 : s.vm.method? m = some meth) (h3 : meth.code = some c) (h4 : c.code = bytes)
    (h5 : (c.maxLocals == mx && c.exceptionTable.isEmpty && decide (c.maxStack ≤ mostOperands) && decide (meth.sig.returnType = rt) && !meth.locks && decide (parseMethodDescriptor y.desc = some meth.sig)) = true) : (Jvm.Cond.code y bytes mx rt).before a s = true := by
  simp only [Bool.and_eq_true, beq_iff_eq, Bool.not_eq_true', decide_eq_true_eq] at h5
  obtain ⟨⟨⟨⟨⟨g1, g2⟩, g3⟩, g4⟩, g5⟩, g6⟩ := h5
  simp [Cond.before, Cond.holds, Cond.value, h1, h2, h3, h4, g1, g2, g3, g4, g5, g6]
def isCode : Jvm.Cond → Bool
  | .code _ _ _ _ => true
  | _ => false
theorem all_split {L : List Jvm.Cond} {P : Jvm.Cond → Bool} (h1 : L.all (fun c => isCode c || P c) = true) (h2 : ∀ c ∈ L.filter isCode, P c = true) : L.all P = true := by
  refine List.all_eq_true.mpr fun c hc => ?_
  have h := List.all_eq_true.mp h1 c hc
  rcases Bool.eq_false_or_eq_true (isCode c) with hi | hi
  · exact h2 c (List.mem_filter.mpr ⟨hc, hi⟩)
  · simpa [hi] using h
set_option maxRecDepth 65536 in
theorem w_c0 : (Jvm.Cond.code x code maxLocals ret).before args0 about1 = true := code_word (m := ⟨1, 2⟩) (meth := k1m2) (c := k1c2) (by decide +kernel) rfl rfl rfl (by decide +kernel)
set_option maxRecDepth 65536 in
theorem w_c1 : (Jvm.Cond.code ({ cls := "com/example/mangga/mangga/queue/KindWaitsBehindPinLaw", name := "kindOf", desc := "(I)Lcom/example/mangga/mangga/queue/Place$Kind;" } : Jvm.MethodName) method_2_code (1 : Nat) (Option.some (Jvm.ClassFile.FieldType.object "com/example/mangga/mangga/queue/Place$Kind"))).before args0 about1 = true := code_word (m := ⟨1, 1⟩) (meth := k1m1) (c := k1c1) (by decide +kernel) rfl rfl rfl (by decide +kernel)
set_option maxRecDepth 65536 in
theorem w_c2 : (Jvm.Cond.code ({ cls := "com/example/mangga/mangga/queue/Place$Kind", name := "waitsBehind", desc := "(Lcom/example/mangga/mangga/queue/Place$Kind;)Z" } : Jvm.MethodName) prog_3_method_4_code (2 : Nat) (Option.some Jvm.ClassFile.FieldType.boolean)).before args0 about1 = true := code_word (m := ⟨6, 0⟩) (meth := k6m0) (c := k6c0) (by decide +kernel) rfl rfl rfl (by decide +kernel)
set_option maxRecDepth 65536 in
theorem w_c3 : (Jvm.Cond.code ({ cls := "java/util/Objects", name := "requireNonNull", desc := "(Ljava/lang/Object;Ljava/lang/String;)Ljava/lang/Object;" } : Jvm.MethodName) jdk_31_method_11_code (2 : Nat) (Option.some (Jvm.ClassFile.FieldType.object "java/lang/Object"))).before args0 about1 = true := code_word (m := ⟨10, 1⟩) (meth := k10m1) (c := k10c1) (by decide +kernel) rfl rfl rfl (by decide +kernel)
def codes1 : List Jvm.Cond := [Jvm.Cond.code x code maxLocals ret, Jvm.Cond.code ({ cls := "com/example/mangga/mangga/queue/KindWaitsBehindPinLaw", name := "kindOf", desc := "(I)Lcom/example/mangga/mangga/queue/Place$Kind;" } : Jvm.MethodName) method_2_code (1 : Nat) (Option.some (Jvm.ClassFile.FieldType.object "com/example/mangga/mangga/queue/Place$Kind")), Jvm.Cond.code ({ cls := "com/example/mangga/mangga/queue/Place$Kind", name := "waitsBehind", desc := "(Lcom/example/mangga/mangga/queue/Place$Kind;)Z" } : Jvm.MethodName) prog_3_method_4_code (2 : Nat) (Option.some Jvm.ClassFile.FieldType.boolean), Jvm.Cond.code ({ cls := "java/util/Objects", name := "requireNonNull", desc := "(Ljava/lang/Object;Ljava/lang/String;)Ljava/lang/Object;" } : Jvm.MethodName) jdk_31_method_11_code (2 : Nat) (Option.some (Jvm.ClassFile.FieldType.object "java/lang/Object"))]
set_option maxRecDepth 65536 in
theorem codes_eq : words1.filter isCode = codes1 := rfl
theorem w_codes : ∀ c ∈ words1.filter isCode, c.before args0 about1 = true := by
  rw [codes_eq]
  intro c hc
  simp only [codes1, List.mem_cons, List.not_mem_nil, or_false] at hc
  rcases hc with rfl | rfl | rfl | rfl
  · exact w_c0
  · exact w_c1
  · exact w_c2
  · exact w_c3
set_option maxRecDepth 65536 in
theorem w_t1 : (words1.take 24).all (fun c => isCode c || c.before args0 about1) = true := by decide +kernel
set_option maxRecDepth 65536 in
theorem w_t2 : (words1.drop 24).all (fun c => isCode c || c.before args0 about1) = true := by decide +kernel
theorem w_tables : (allAtoms (Jvm.Cond.code x code maxLocals ret :: tables_1)).before args0 about1 = true := by
  rw [allAtoms_all]
  show words1.all (fun c => c.before args0 about1) = true
  refine all_split ?_ w_codes
  rw [← List.take_append_drop 24 words1, List.all_append, w_t1, w_t2]
  rfl
set_option maxRecDepth 65536 in
theorem w_case : (Jvm.Cond.and given_1 narrow_1).before args0 about1 = true := by decide +kernel
theorem w_applies : (headSpec (Jvm.Cond.code x code maxLocals ret :: tables_1) room_1).applies x e0.platform about1 = true :=
  (Spec.applies_iff w_frames).mpr ⟨w_running, w_runnable, w_alone, w_named, w_hears, w_ripe, w_room, w_tables⟩
theorem atStart : AtStart classFile x code maxLocals ret World_1 tables_1 room_1 Calls_1 rest_1 Pre_1 launch0 p0 e0 about1 theMethod args0 below0 :=
  ⟨lists_1, trivial, launch0.admits_env _ _ _, launch0.least_env, fairChoices_fair.cas, fairChoices_fair.clock, w_frames, w_args, w_heap, w_applies, trivial, trivial, w_case⟩
end start1
theorem witness_1 : WitnessClaimed_1 := ⟨start1.p0, start1.e0, start1.about1, start1.theMethod, start1.args0, start1.below0, start1.atStart⟩
end Jvm.Pilot.@@N@@
