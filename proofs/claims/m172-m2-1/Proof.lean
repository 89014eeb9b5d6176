import JvmDerived
import JvmDerived.Pilot.@@N@@Statement
import JvmDerived.Pilot.@@N@@Code
set_option linter.unusedVariables false
set_option linter.unusedSimpArgs false
@@BLOCK:NumsL.lean.txt@@
namespace Jvm.RoadKit
open Sem ClassFile Op Lib Jvm.Stand Jvm.Free Jvm.LawKit
section Own
variable {p : Program} {l : Launch} {e : Env} {R : Room} {s : State} {m : MethodId} {args : Array Value} {below : List Frame} {meth : Method} {c : Code} {T : State} {locs : List Loc} {cells slots : Nat}
def own_Go (p : Program) (e : Env) (below : List Frame) (F : Outcome → State → Prop) (U : State) : Prop := ∃ s₂ o, Steps p.tables e below U s₂ ∧ s₂.status = .running ∧ Ended s₂ below o ∧ F o s₂
def own_Fin (s : State) (C S : Nat) (Q : Option Value → Heap → List Loc → Prop) (o : Outcome) (U' : State) : Prop := ∃ v L, o = .returned v ∧ Q v U'.heap L ∧ FrameEnd s o U' L C S
theorem own_go {F : Outcome → State → Prop} {U U' : State} (h : ∀ t, Steps p.tables e below U' t → Steps p.tables e below U t) (g : own_Go p e below F U') : own_Go p e below F U := by
  obtain ⟨s₂, o, h1, h2⟩ := g
  exact ⟨s₂, o, h _ h1, h2⟩
theorem own_cast {F : Outcome → State → Prop} {g g' : JFrame} (q : g = g') (k : own_Go p e below F (T.setTop g')) : own_Go p e below F (T.setTop g) := q ▸ k
theorem own_ret (X : Stand p l e R s m args below meth c T locs cells slots) (hx : p.tables.exec = Jvm.exec) (hlk : meth.locks = false) {pc : Nat} {Ls : Array Slot} {w : Value} {t : FieldType} {i : Instr} {rest : List Value} (hret : meth.sig.returnType = some t) (hn : narrow t w = w)
    (hi : (i = .ireturn ∧ (t = .int ∨ t = .boolean ∨ t = .byte ∨ t = .char ∨ t = .short) ∧ ∃ z, w = .int z) ∨ (i = .lreturn ∧ t = .long ∧ ∃ z, w = .long z) ∨ (i = .dreturn ∧ t = .double ∧ ∃ z, w = .double z) ∨ (i = .freturn ∧ t = .float ∧ ∃ z, w = .float z) ∨ (i = .areturn ∧ t.isReference = true ∧ w.isRef = true))
    (hd : decode c.code pc = .ok (i, 1)) {Q : Option Value → Heap → List Loc → Prop} (hQ : Q (some w) T.heap locs) {C S : Nat} (hc : cells ≤ C) (hs : slots ≤ S) : own_Go p e below (own_Fin s C S Q) (T.setTop (mkF m pc Ls (w :: rest))) := by
  obtain ⟨fs, hr, hrun, hended, hW, hsame⟩ := X.leave (v := some w) (fun h => by rw [hret] at h; cases h) hlk
  exact ⟨_, _, retOut X hx hret hn hi hd hr, hrun, hended, _, _, rfl, hQ, ⟨_, rfl⟩, hW, hsame.mono hc hs⟩
theorem own_retN (X : Stand p l e R s m args below meth c T locs cells slots) (hx : p.tables.exec = Jvm.exec) (hlk : meth.locks = false) {pc : Nat} {Ls : Array Slot} {z : Int32} {t : FieldType} {rest : List Value} (hret : meth.sig.returnType = some t) (ht : t = .boolean ∨ t = .byte ∨ t = .char ∨ t = .short)
    (hd : decode c.code pc = .ok (.ireturn, 1)) {Q : Option Value → Heap → List Loc → Prop} (hQ : Q (some (.int (nar t z))) T.heap locs) {C S : Nat} (hc : cells ≤ C) (hs : slots ≤ S) : own_Go p e below (own_Fin s C S Q) (T.setTop (mkF m pc Ls (.int z :: rest))) := by
  obtain ⟨fs, hr, hrun, hended, hW, hsame⟩ := X.leave (v := some (.int (nar t z))) (fun h => by rw [hret] at h; cases h) hlk
  exact ⟨_, _, retN X hx hret ht hd hr, hrun, hended, _, _, rfl, hQ, ⟨_, rfl⟩, hW, hsame.mono hc hs⟩
theorem own_retV (X : Stand p l e R s m args below meth c T locs cells slots) (hx : p.tables.exec = Jvm.exec) (hlk : meth.locks = false) {pc : Nat} {Ls : Array Slot} (hret : meth.sig.returnType = none)
    (hd : decode c.code pc = .ok (.return_, 1)) {Q : Option Value → Heap → List Loc → Prop} (hQ : Q none T.heap locs) {C S : Nat} (hc : cells ≤ C) (hs : slots ≤ S) : own_Go p e below (own_Fin s C S Q) (T.setTop (mkF m pc Ls [])) := by
  obtain ⟨fs, hr, hrun, hended, hW, hsame⟩ := X.leave (v := none) (fun _ => rfl) hlk
  exact ⟨_, _, X.returnOut hx hret hd hr, hrun, hended, _, _, rfl, hQ, ⟨_, rfl⟩, hW, hsame.mono hc hs⟩
def own_FinW (s : State) (C S : Nat) (Q : Option Value → Heap → List Loc → Prop) (o : Outcome) (U' : State) : Prop := ∃ v L, o = .returned v ∧ Q v U'.heap L ∧ ReturnedEndW s o U' L C S
theorem own_monoW {t : State} {o : Outcome} {L : List Loc} {k n C S : Nat} (h : ReturnedEndW s o t L k n) (hc : k ≤ C) (hs : n ≤ S) : ReturnedEndW s o t L C S := ⟨h.1, h.2.1, h.2.2.1, h.2.2.2.mono hc hs⟩
theorem own_retW {vm₁ : Vm} (X : Stand p l e R (s.setVm vm₁) m args below meth c T locs cells slots) (hx : p.tables.exec = Jvm.exec) {n : Nat} (hS : s.Since vm₁ n) (hk : n ≤ T.heap.size) (hlk : meth.locks = false) {pc : Nat} {Ls : Array Slot} {w : Value} {t : FieldType} {i : Instr} {rest : List Value} (hret : meth.sig.returnType = some t) (hn : narrow t w = w)
    (hi : (i = .ireturn ∧ (t = .int ∨ t = .boolean ∨ t = .byte ∨ t = .char ∨ t = .short) ∧ ∃ z, w = .int z) ∨ (i = .lreturn ∧ t = .long ∧ ∃ z, w = .long z) ∨ (i = .dreturn ∧ t = .double ∧ ∃ z, w = .double z) ∨ (i = .freturn ∧ t = .float ∧ ∃ z, w = .float z) ∨ (i = .areturn ∧ t.isReference = true ∧ w.isRef = true))
    (hd : decode c.code pc = .ok (i, 1)) {Q : Option Value → Heap → List Loc → Prop} (hQ : Q (some w) T.heap locs) {C S : Nat} (hc : cells ≤ C) (hs : slots ≤ S) : own_Go p e below (own_FinW s C S Q) (T.setTop (mkF m pc Ls (w :: rest))) := by
  obtain ⟨fs, hr, hrun, hended, hW⟩ := X.leaveW hS hk (v := some w) (fun h => by rw [hret] at h; cases h) hlk
  exact ⟨_, _, retOut X hx hret hn hi hd hr, hrun, hended, _, _, rfl, hQ, own_monoW hW hc hs⟩
theorem own_retNW {vm₁ : Vm} (X : Stand p l e R (s.setVm vm₁) m args below meth c T locs cells slots) (hx : p.tables.exec = Jvm.exec) {n : Nat} (hS : s.Since vm₁ n) (hk : n ≤ T.heap.size) (hlk : meth.locks = false) {pc : Nat} {Ls : Array Slot} {z : Int32} {t : FieldType} {rest : List Value} (hret : meth.sig.returnType = some t) (ht : t = .boolean ∨ t = .byte ∨ t = .char ∨ t = .short)
    (hd : decode c.code pc = .ok (.ireturn, 1)) {Q : Option Value → Heap → List Loc → Prop} (hQ : Q (some (.int (nar t z))) T.heap locs) {C S : Nat} (hc : cells ≤ C) (hs : slots ≤ S) : own_Go p e below (own_FinW s C S Q) (T.setTop (mkF m pc Ls (.int z :: rest))) := by
  obtain ⟨fs, hr, hrun, hended, hW⟩ := X.leaveW hS hk (v := some (.int (nar t z))) (fun h => by rw [hret] at h; cases h) hlk
  exact ⟨_, _, retN X hx hret ht hd hr, hrun, hended, _, _, rfl, hQ, own_monoW hW hc hs⟩
theorem own_retVW {vm₁ : Vm} (X : Stand p l e R (s.setVm vm₁) m args below meth c T locs cells slots) (hx : p.tables.exec = Jvm.exec) {n : Nat} (hS : s.Since vm₁ n) (hk : n ≤ T.heap.size) (hlk : meth.locks = false) {pc : Nat} {Ls : Array Slot} (hret : meth.sig.returnType = none)
    (hd : decode c.code pc = .ok (.return_, 1)) {Q : Option Value → Heap → List Loc → Prop} (hQ : Q none T.heap locs) {C S : Nat} (hc : cells ≤ C) (hs : slots ≤ S) : own_Go p e below (own_FinW s C S Q) (T.setTop (mkF m pc Ls [])) := by
  obtain ⟨fs, hr, hrun, hended, hW⟩ := X.leaveW hS hk (v := none) (fun _ => rfl) hlk
  exact ⟨_, _, X.returnOut hx hret hd hr, hrun, hended, _, _, rfl, hQ, own_monoW hW hc hs⟩
def own_FinH (Z : State) (EL : List (String × Nat)) (s : State) (C S : Nat) (Q : Option Value → Heap → List Loc → Prop) (o : Outcome) (U' : State) : Prop := ∃ v L, o = .returned v ∧ Q v U'.heap L ∧ CHr Z EL s.vm s.heap U'.vm U'.heap ∧ ReturnedEndW s o U' L C S
theorem own_retH {Z : State} {EL : List (String × Nat)} {vm₁ : Vm} (X : Stand p l e R (s.setVm vm₁) m args below meth c T locs cells slots) (hx : p.tables.exec = Jvm.exec) {n : Nat} (hS : s.Since vm₁ n) (hk : n ≤ T.heap.size) (hC : CHr Z EL s.vm s.heap T.vm T.heap) (hlk : meth.locks = false) {pc : Nat} {Ls : Array Slot} {w : Value} {t : FieldType} {i : Instr} {rest : List Value} (hret : meth.sig.returnType = some t) (hn : narrow t w = w)
    (hi : (i = .ireturn ∧ (t = .int ∨ t = .boolean ∨ t = .byte ∨ t = .char ∨ t = .short) ∧ ∃ z, w = .int z) ∨ (i = .lreturn ∧ t = .long ∧ ∃ z, w = .long z) ∨ (i = .dreturn ∧ t = .double ∧ ∃ z, w = .double z) ∨ (i = .freturn ∧ t = .float ∧ ∃ z, w = .float z) ∨ (i = .areturn ∧ t.isReference = true ∧ w.isRef = true))
    (hd : decode c.code pc = .ok (i, 1)) {Q : Option Value → Heap → List Loc → Prop} (hQ : Q (some w) T.heap locs) {C S : Nat} (hc : cells ≤ C) (hs : slots ≤ S) : own_Go p e below (own_FinH Z EL s C S Q) (T.setTop (mkF m pc Ls (w :: rest))) := by
  obtain ⟨fs, hr, hrun, hended, hW⟩ := X.leaveW hS hk (v := some w) (fun h => by rw [hret] at h; cases h) hlk
  exact ⟨_, _, retOut X hx hret hn hi hd hr, hrun, hended, _, _, rfl, hQ, hC, own_monoW hW hc hs⟩
theorem own_retNH {Z : State} {EL : List (String × Nat)} {vm₁ : Vm} (X : Stand p l e R (s.setVm vm₁) m args below meth c T locs cells slots) (hx : p.tables.exec = Jvm.exec) {n : Nat} (hS : s.Since vm₁ n) (hk : n ≤ T.heap.size) (hC : CHr Z EL s.vm s.heap T.vm T.heap) (hlk : meth.locks = false) {pc : Nat} {Ls : Array Slot} {z : Int32} {t : FieldType} {rest : List Value} (hret : meth.sig.returnType = some t) (ht : t = .boolean ∨ t = .byte ∨ t = .char ∨ t = .short)
    (hd : decode c.code pc = .ok (.ireturn, 1)) {Q : Option Value → Heap → List Loc → Prop} (hQ : Q (some (.int (nar t z))) T.heap locs) {C S : Nat} (hc : cells ≤ C) (hs : slots ≤ S) : own_Go p e below (own_FinH Z EL s C S Q) (T.setTop (mkF m pc Ls (.int z :: rest))) := by
  obtain ⟨fs, hr, hrun, hended, hW⟩ := X.leaveW hS hk (v := some (.int (nar t z))) (fun h => by rw [hret] at h; cases h) hlk
  exact ⟨_, _, retN X hx hret ht hd hr, hrun, hended, _, _, rfl, hQ, hC, own_monoW hW hc hs⟩
theorem own_retVH {Z : State} {EL : List (String × Nat)} {vm₁ : Vm} (X : Stand p l e R (s.setVm vm₁) m args below meth c T locs cells slots) (hx : p.tables.exec = Jvm.exec) {n : Nat} (hS : s.Since vm₁ n) (hk : n ≤ T.heap.size) (hC : CHr Z EL s.vm s.heap T.vm T.heap) (hlk : meth.locks = false) {pc : Nat} {Ls : Array Slot} (hret : meth.sig.returnType = none)
    (hd : decode c.code pc = .ok (.return_, 1)) {Q : Option Value → Heap → List Loc → Prop} (hQ : Q none T.heap locs) {C S : Nat} (hc : cells ≤ C) (hs : slots ≤ S) : own_Go p e below (own_FinH Z EL s C S Q) (T.setTop (mkF m pc Ls [])) := by
  obtain ⟨fs, hr, hrun, hended, hW⟩ := X.leaveW hS hk (v := none) (fun _ => rfl) hlk
  exact ⟨_, _, X.returnOut hx hret hd hr, hrun, hended, _, _, rfl, hQ, hC, own_monoW hW hc hs⟩
theorem own_safe_null {Z : State} {EL : List (String × Nat)} {vm : Vm} {h : Heap} {x : Addr} (hal : Z.vm.Alike vm) (E : Exa Z h x "java/lang/String") (F : Fld Z h x "java/lang/String" "value" "[B" .null) : Safe Z EL vm h x := fun B => by
  obtain ⟨p, -, u, a, -, q, -, G, rfl | rfl⟩ := B
  · obtain ⟨cell, cf, k, i, f, f1, f2, -, -, -, -, f7⟩ := F
    cases (show h[q.sa]? = some q.sC from G.ha).symm.trans f1
    obtain ⟨cS, ⟨⟨-, -, -, ⟨cv, kv, iv, s4, -⟩, -, -, -, s8, -⟩, -⟩, -⟩ := G
    obtain ⟨k', hi, -⟩ := State.fieldFound?_setVm (s := Z) hal f2
    have s4' : (Z.setVm vm).fieldFound? "java/lang/String" "value" "[B" = some (cv, kv, iv, q.fSV) := s4
    cases hi.symm.trans s4'
    rw [f7] at s8
    cases s8
  · obtain ⟨cell, k, e1, e2, e3, -, -⟩ := E
    cases (show h[q.sd]? = some q.SA from G.hd).symm.trans e1
    obtain ⟨cS, -, -, f, -⟩ := G
    have f' : vm.findClass "[B" = some q.SA.cls := f
    rw [hal.findClass] at f'
    obtain ⟨k1, q1, q2⟩ := Vm.findClass_spec f'
    obtain ⟨k2, q3, q4⟩ := Vm.findClass_spec e2
    cases q1.symm.trans q3
    exact absurd (q2.symm.trans q4) (by decide)
def own_Met (l : Launch) (Z : State) (y : MethodName) (bytes : ByteArray) (maxL : Nat) (ret : Option FieldType) (ws : List Jvm.Cond) (rm : Room) (as : Array Value) (h0 : Heap) (Q : Option Value → Heap → List Loc → Prop) : Prop :=
  MetFree l y (head1 (Jvm.Cond.code y bytes maxL ret :: ws) rm) (fun a U => a = as ∧ Z.Warmed39 U.vm ∧ U.heap = h0) (fun _ _ _ _ _ => True) (fun _ U o U' => ∃ v L, o = .returned v ∧ Q v U'.heap L ∧ FrameEnd U o U' L rm.cells rm.slots)
def own_MetW (l : Launch) (Z : State) (y : MethodName) (bytes : ByteArray) (maxL : Nat) (ret : Option FieldType) (ws : List Jvm.Cond) (rm : Room) (as : Array Value) (h0 : Heap) (Q : Option Value → Heap → List Loc → Prop) : Prop :=
  MetFree l y (head1 (Jvm.Cond.code y bytes maxL ret :: ws) rm) (fun a U => a = as ∧ Z.Warmed39 U.vm ∧ U.heap = h0) (fun _ _ _ _ _ => True) (fun _ U o U' => ∃ v L, o = .returned v ∧ Q v U'.heap L ∧ ReturnedEndW U o U' L rm.cells rm.slots)
def own_MetH (l : Launch) (Z : State) (EL : List (String × Nat)) (y : MethodName) (bytes : ByteArray) (maxL : Nat) (ret : Option FieldType) (ws : List Jvm.Cond) (rm : Room) (as : Array Value) (h0 : Heap) (Q : Option Value → Heap → List Loc → Prop) : Prop :=
  MetFree l y (head1 (Jvm.Cond.code y bytes maxL ret :: ws) rm) (fun a U => a = as ∧ Z.Warmed39 U.vm ∧ U.heap = h0 ∧ CHv Z EL U.vm h0) (fun _ _ _ _ _ => True) (fun _ U o U' => ∃ v L, o = .returned v ∧ Q v U'.heap L ∧ CHr Z EL U.vm U.heap U'.vm U'.heap ∧ ReturnedEndW U o U' L rm.cells rm.slots)
theorem own_enter {Z : State} {y : MethodName} {bytes : ByteArray} {maxL : Nat} {ret : Option FieldType} {ws : List Jvm.Cond} {rm : Room} {as : Array Value} {h0 : Heap} {Q : Option Value → Heap → List Loc → Prop} {own : String} (hpl : plainFor y = true) (ho : y.cls = own)
    (H : ∀ (p : Program) (e : Env) (s : State) (m : MethodId) (below : List Frame) (meth : Method) (c : Code) (s₁ : State), meth.locks = false → meth.sig.returnType = ret → p.tables.exec = Jvm.exec → c.code = bytes → c.maxLocals = maxL → s.vm.findClass own = some m.cls → meth.name = y.name → Z.Warmed39 s.vm → Stand p l e rm s m as below meth c s₁ [] 0 0 → s₁.heap = h0 → own_Go p e below (own_Fin s rm.cells rm.slots Q) (s₁.setTop (entryFrame m as maxL))) :
    own_Met l Z y bytes maxL ret ws rm as h0 Q := by
  refine MetFree.of_bodySF hpl hisR ?_
  intro p e s m args below meth c s₁ Bd hml0 hP hK
  obtain ⟨rfl, hZ, hh⟩ := hP
  subst ho
  exact H p e s m below meth c s₁ Bd.notSynchronized Bd.returns Bd.exec Bd.bytes hml0 (findClass_of_methodNamed Bd.named) (name_of_methodNamed Bd.named Bd.method).1 hZ (Stand.of_body Bd) (by rw [← hh, Bd.state]; rfl)
theorem own_enterW {Z : State} {y : MethodName} {bytes : ByteArray} {maxL : Nat} {ret : Option FieldType} {ws : List Jvm.Cond} {rm : Room} {as : Array Value} {h0 : Heap} {Q : Option Value → Heap → List Loc → Prop} {own : String} (hpl : plainFor y = true) (ho : y.cls = own)
    (H : ∀ (p : Program) (e : Env) (s : State) (m : MethodId) (below : List Frame) (meth : Method) (c : Code) (s₁ : State), meth.locks = false → meth.sig.returnType = ret → p.tables.exec = Jvm.exec → c.code = bytes → c.maxLocals = maxL → s.vm.findClass own = some m.cls → meth.name = y.name → Z.Warmed39 s.vm → Stand p l e rm (s.setVm s.vm) m as below meth c s₁ [] 0 0 → s₁.heap = h0 → own_Go p e below (own_FinW s rm.cells rm.slots Q) (s₁.setTop (entryFrame m as maxL))) :
    own_MetW l Z y bytes maxL ret ws rm as h0 Q := by
  refine MetFree.of_bodySF hpl hisR ?_
  intro p e s m args below meth c s₁ Bd hml0 hP hK
  obtain ⟨rfl, hZ, hh⟩ := hP
  subst ho
  exact H p e s m below meth c s₁ Bd.notSynchronized Bd.returns Bd.exec Bd.bytes hml0 (findClass_of_methodNamed Bd.named) (name_of_methodNamed Bd.named Bd.method).1 hZ (Stand.of_body Bd) (by rw [← hh, Bd.state]; rfl)
theorem own_enterH {Z : State} {EL : List (String × Nat)} {y : MethodName} {bytes : ByteArray} {maxL : Nat} {ret : Option FieldType} {ws : List Jvm.Cond} {rm : Room} {as : Array Value} {h0 : Heap} {Q : Option Value → Heap → List Loc → Prop} {own : String} (hpl : plainFor y = true) (ho : y.cls = own)
    (H : ∀ (p : Program) (e : Env) (s : State) (m : MethodId) (below : List Frame) (meth : Method) (c : Code) (s₁ : State), meth.locks = false → meth.sig.returnType = ret → p.tables.exec = Jvm.exec → c.code = bytes → c.maxLocals = maxL → s.vm.findClass own = some m.cls → meth.name = y.name → Z.Warmed39 s.vm → s.heap = h0 → CHv Z EL s.vm h0 → Stand p l e rm (s.setVm s.vm) m as below meth c s₁ [] 0 0 → s₁.heap = h0 → own_Go p e below (own_FinH Z EL s rm.cells rm.slots Q) (s₁.setTop (entryFrame m as maxL))) :
    own_MetH l Z EL y bytes maxL ret ws rm as h0 Q := by
  refine MetFree.of_bodySF hpl hisR ?_
  intro p e s m args below meth c s₁ Bd hml0 hP hK
  obtain ⟨rfl, hZ, hh, hH⟩ := hP
  subst ho
  exact H p e s m below meth c s₁ Bd.notSynchronized Bd.returns Bd.exec Bd.bytes hml0 (findClass_of_methodNamed Bd.named) (name_of_methodNamed Bd.named Bd.method).1 hZ hh hH (Stand.of_body Bd) (by rw [← hh, Bd.state]; rfl)
end Own
end Jvm.RoadKit
namespace Jvm.Pilot.@@N@@
open Jvm Jvm.ClassFile Sem Op Lib Jvm.Free Jvm.Stand Jvm.LawKit Jvm.RoadKit Bundle Jvm.Pilot.@@N@@.Jvm.D
section Own
variable {t u : Term} {C n d : String} {a b : Addr} {z j : Int32} {args : Array Value} {s : State} {cl : Cell} {ty : FieldType}
theorem own_cmp_int (h : (Jvm.Cond.eq t (Term.int z)).value args s none s [] = some true) : t.eval args s none [] s = some (.int z) := by
  have e2 : (Term.int z).eval args s none [] s = some (.int z) := Term.int_eval z
  obtain ⟨u, w, f1, f2, k1, k2⟩ := cmp_v (Or.inl h)
  cases f2.symm.trans e2
  obtain ⟨q, rfl⟩ : ∃ q, u = .int q := k2
  have : (Jvm.Cond.eq t (Term.int z)).value args s none s [] = some (decide (q = z)) := by simp [Cond.value, f1, e2]
  rw [f1, gotT this h]
theorem own_fld (ht : t.eval args s none [] s = some (.ref a)) (h : (Jvm.Cond.eq (Term.field t C n d) (Term.int z)).value args s none s [] = some true) : Fld s s.heap a C n d (.int z) :=
  Fld.start ((fld_at ht).symm.trans (own_cmp_int h))
theorem own_fldR (ht : t.eval args s none [] s = some (.ref a)) (h : (Term.field t C n d).eval args s none [] s = some (.ref b)) : Fld s s.heap a C n d (.ref b) :=
  Fld.start ((fld_at ht).symm.trans h)
theorem own_len (ht : t.eval args s none [] s = some (.ref a)) (A : Arr s s.heap a cl ty) (h : (Jvm.Cond.eq (Term.length t) (Term.int z)).value args s none s [] = some true) : cl.slots.size < 2 ^ 31 ∧ cl.slots.size.toInt32 = z := by
  have e := own_cmp_int h
  have ha : s.arrayAt? a = some cl := A.fin (Vm.Alike.refl _)
  simp only [Term.eval, ht, ha, Option.bind_eq_bind, Option.bind_some] at e
  split at e
  · rename_i q
    cases e
    exact ⟨q, rfl⟩
  · cases e
theorem own_el (ht : t.eval args s none [] s = some (.ref a)) (A : Arr s s.heap a cl ty) (h : (Jvm.Cond.eq (Term.elem t (Term.int j)) (Term.int z)).value args s none s [] = some true) : cl.slots[j.toNatClampNeg]? = some (.int z) :=
  (elem_in (own_cmp_int h) ht (Term.int_eval j) A.1).2
theorem own_elR (hu : u.eval args s none [] s = some (.ref b)) (ht : t.eval args s none [] s = some (.ref a)) (A : Arr s s.heap a cl ty) (h : (Jvm.Cond.eq (Term.elem t (Term.int j)) u).value args s none s [] = some true) : cl.slots[j.toNatClampNeg]? = some (.ref b) := by
  obtain ⟨x, w, f1, f2, k1, k2⟩ := cmp_v (Or.inl h)
  cases f2.symm.trans hu
  have hx : x.isRef = true := k2.2
  have q := gotT (eq_R f1 hu hx rfl) h
  subst q
  exact (elem_in f1 ht (Term.int_eval j) A.1).2
end Own

def Q_pciR (ga : Addr) (h0 : Heap) (n0 : Nat) (v : Option Value) (h : Heap) (L : List Loc) : Prop := v = some (.int 0) ∧ Fr n0 L ∧ h = h0
theorem ef_pciR (m : MethodId) (ga : Addr) : entryFrame m #[(.int (0 : Int32)), (.int (1 : Int32)), (.ref ga)] 3 = mkF m 0 #[.val (.int (0 : Int32)), .val (.int (1 : Int32)), .val (.ref ga)] [] := by first | (simp [entryFrame, mkF, argsToLocals, Value.category]; done) | rfl
theorem pn_0 : plainName "jdk/internal/util/Preconditions" = true := by first | (simp [plainName, overriddenIn]; done) | decide +kernel
theorem d_j41_11_0 : decode jdk_41_method_11_code 0 = .ok (.iload_n 0, 1) := by decide +kernel
theorem d_j41_11_1 : decode jdk_41_method_11_code 1 = .ok (.ifCond .lt 8, 3) := by decide +kernel
theorem d_j41_11_4 : decode jdk_41_method_11_code 4 = .ok (.iload_n 0, 1) := by decide +kernel
theorem d_j41_11_5 : decode jdk_41_method_11_code 5 = .ok (.iload_n 1, 1) := by decide +kernel
theorem d_j41_11_6 : decode jdk_41_method_11_code 6 = .ok (.if_icmp .lt 10, 3) := by decide +kernel
theorem d_j41_11_16 : decode jdk_41_method_11_code 16 = .ok (.iload_n 0, 1) := by decide +kernel
theorem d_j41_11_17 : decode jdk_41_method_11_code 17 = .ok (.ireturn, 1) := by decide +kernel
set_option maxRecDepth 65536 in
set_option maxHeartbeats 40000000 in
theorem rm_pciR (l : Launch) (Z : State) (a0 : Array Value) (hw : ∀ d ∈ tables_1, d.before a0 Z = true) (ws : List Jvm.Cond) (ga : Addr) (h0 : Heap) (n0 : Nat) (Z0 : n0 ≤ h0.size) :
    own_Met l Z (⟨"jdk/internal/util/Preconditions", "checkIndex", "(IILjava/util/function/BiFunction;)I"⟩ : MethodName) jdk_41_method_11_code 3 (some .int) ws ({ frames := 0, cells := 0, slots := 0, locals := 0 } : Room) #[(.int (0 : Int32)), (.int (1 : Int32)), (.ref ga)] h0 (Q_pciR ga h0 n0) := by
  refine own_enter (own := "jdk/internal/util/Preconditions") (plainFor_of_name pn_0) rfl ?_
  intro p e s m below meth c s₁ hlk hret hx hby hml hown hnm hZ X0 e0
  have N0 := Fr.nil n0
  refine own_cast (ef_pciR m ga) ?_
  show own_Go _ _ _ _ (s₁.setTop (mkF m 0 #[.val (.int (0 : Int32)), .val (.int (1 : Int32)), .val (.ref ga)] []))
  refine own_go (fun t k => XS.iloadN X0.here hx rfl (hb hby d_j41_11_0) rfl k) ?_
  show own_Go _ _ _ _ (s₁.setTop (mkF m 1 #[.val (.int (0 : Int32)), .val (.int (1 : Int32)), .val (.ref ga)] [(.int (0 : Int32))]))
  refine own_go (fun t k => XS.ifNo X0.here hx rfl (hb hby d_j41_11_1) rfl ((if0 _ _).trans (flt (by decide : ¬ ((0 : Int32) < (0 : Int32)))).1) k) ?_
  show own_Go _ _ _ _ (s₁.setTop (mkF m 4 #[.val (.int (0 : Int32)), .val (.int (1 : Int32)), .val (.ref ga)] []))
  refine own_go (fun t k => XS.iloadN X0.here hx rfl (hb hby d_j41_11_4) rfl k) ?_
  show own_Go _ _ _ _ (s₁.setTop (mkF m 5 #[.val (.int (0 : Int32)), .val (.int (1 : Int32)), .val (.ref ga)] [(.int (0 : Int32))]))
  refine own_go (fun t k => XS.iloadN X0.here hx rfl (hb hby d_j41_11_5) rfl k) ?_
  show own_Go _ _ _ _ (s₁.setTop (mkF m 6 #[.val (.int (0 : Int32)), .val (.int (1 : Int32)), .val (.ref ga)] [(.int (1 : Int32)), (.int (0 : Int32))]))
  refine own_go (fun t k => XS.icmpYes X0.here hx rfl (pc0 := 6) (pc' := 16) rfl (hb hby d_j41_11_6) rfl (tlt (by decide : (0 : Int32) < (1 : Int32))).1 (by decide) (by decide) k) ?_
  show own_Go _ _ _ _ (s₁.setTop (mkF m 16 #[.val (.int (0 : Int32)), .val (.int (1 : Int32)), .val (.ref ga)] []))
  refine own_go (fun t k => XS.iloadN X0.here hx rfl (hb hby d_j41_11_16) rfl k) ?_
  show own_Go _ _ _ _ (s₁.setTop (mkF m 17 #[.val (.int (0 : Int32)), .val (.int (1 : Int32)), .val (.ref ga)] [(.int (0 : Int32))]))
  refine own_ret X0 hx hlk hret rfl (Or.inl ⟨rfl, Or.inl rfl, _, rfl⟩) (hb hby d_j41_11_17) ?_ (by decide) (by decide)
  rw [e0]
  exact ⟨rfl, N0, rfl⟩
def Q_pciN  (h0 : Heap) (n0 : Nat) (v : Option Value) (h : Heap) (L : List Loc) : Prop := v = some (.int 0) ∧ Fr n0 L ∧ h = h0
theorem ef_pciN (m : MethodId)  : entryFrame m #[(.int (0 : Int32)), (.int (1 : Int32)), .null] 3 = mkF m 0 #[.val (.int (0 : Int32)), .val (.int (1 : Int32)), .val .null] [] := by first | (simp [entryFrame, mkF, argsToLocals, Value.category]; done) | rfl
set_option maxRecDepth 65536 in
set_option maxHeartbeats 40000000 in
theorem rm_pciN (l : Launch) (Z : State) (a0 : Array Value) (hw : ∀ d ∈ tables_1, d.before a0 Z = true) (ws : List Jvm.Cond)  (h0 : Heap) (n0 : Nat) (Z0 : n0 ≤ h0.size) :
    own_Met l Z (⟨"jdk/internal/util/Preconditions", "checkIndex", "(IILjava/util/function/BiFunction;)I"⟩ : MethodName) jdk_41_method_11_code 3 (some .int) ws ({ frames := 0, cells := 0, slots := 0, locals := 0 } : Room) #[(.int (0 : Int32)), (.int (1 : Int32)), .null] h0 (Q_pciN  h0 n0) := by
  refine own_enter (own := "jdk/internal/util/Preconditions") (plainFor_of_name pn_0) rfl ?_
  intro p e s m below meth c s₁ hlk hret hx hby hml hown hnm hZ X0 e0
  have N0 := Fr.nil n0
  refine own_cast (ef_pciN m ) ?_
  show own_Go _ _ _ _ (s₁.setTop (mkF m 0 #[.val (.int (0 : Int32)), .val (.int (1 : Int32)), .val .null] []))
  refine own_go (fun t k => XS.iloadN X0.here hx rfl (hb hby d_j41_11_0) rfl k) ?_
  show own_Go _ _ _ _ (s₁.setTop (mkF m 1 #[.val (.int (0 : Int32)), .val (.int (1 : Int32)), .val .null] [(.int (0 : Int32))]))
  refine own_go (fun t k => XS.ifNo X0.here hx rfl (hb hby d_j41_11_1) rfl ((if0 _ _).trans (flt (by decide : ¬ ((0 : Int32) < (0 : Int32)))).1) k) ?_
  show own_Go _ _ _ _ (s₁.setTop (mkF m 4 #[.val (.int (0 : Int32)), .val (.int (1 : Int32)), .val .null] []))
  refine own_go (fun t k => XS.iloadN X0.here hx rfl (hb hby d_j41_11_4) rfl k) ?_
  show own_Go _ _ _ _ (s₁.setTop (mkF m 5 #[.val (.int (0 : Int32)), .val (.int (1 : Int32)), .val .null] [(.int (0 : Int32))]))
  refine own_go (fun t k => XS.iloadN X0.here hx rfl (hb hby d_j41_11_5) rfl k) ?_
  show own_Go _ _ _ _ (s₁.setTop (mkF m 6 #[.val (.int (0 : Int32)), .val (.int (1 : Int32)), .val .null] [(.int (1 : Int32)), (.int (0 : Int32))]))
  refine own_go (fun t k => XS.icmpYes X0.here hx rfl (pc0 := 6) (pc' := 16) rfl (hb hby d_j41_11_6) rfl (tlt (by decide : (0 : Int32) < (1 : Int32))).1 (by decide) (by decide) k) ?_
  show own_Go _ _ _ _ (s₁.setTop (mkF m 16 #[.val (.int (0 : Int32)), .val (.int (1 : Int32)), .val .null] []))
  refine own_go (fun t k => XS.iloadN X0.here hx rfl (hb hby d_j41_11_16) rfl k) ?_
  show own_Go _ _ _ _ (s₁.setTop (mkF m 17 #[.val (.int (0 : Int32)), .val (.int (1 : Int32)), .val .null] [(.int (0 : Int32))]))
  refine own_ret X0 hx hlk hret rfl (Or.inl ⟨rfl, Or.inl rfl, _, rfl⟩) (hb hby d_j41_11_17) ?_ (by decide) (by decide)
  rw [e0]
  exact ⟨rfl, N0, rfl⟩
def Q_sci (h0 : Heap) (n0 : Nat) (v : Option Value) (h : Heap) (L : List Loc) : Prop := v = none ∧ Fr n0 L ∧ h = h0
theorem ef_sci (m : MethodId)  : entryFrame m #[(.int (0 : Int32)), (.int (1 : Int32))] 2 = mkF m 0 #[.val (.int (0 : Int32)), .val (.int (1 : Int32))] [] := by first | (simp [entryFrame, mkF, argsToLocals, Value.category]; done) | rfl
theorem pn_1 : plainName "java/lang/String" = true := by first | (simp [plainName, overriddenIn]; done) | decide +kernel
theorem d_j42_155_0 : decode jdk_42_method_155_code 0 = .ok (.iload_n 0, 1) := by decide +kernel
theorem d_j42_155_1 : decode jdk_42_method_155_code 1 = .ok (.iload_n 1, 1) := by decide +kernel
theorem w_54 {Z : State} {a0 : Array Value} (hw : ∀ d ∈ tables_1, d.before a0 Z = true) : (Jvm.Cond.fieldLink "java/lang/String" (1053 : Nat) "jdk/internal/util/Preconditions" "SIOOBE_FORMATTER" "Ljava/util/function/BiFunction;").before a0 Z = true := hw _ (List.mem_of_getElem? (i := 54) rfl)
theorem d_j42_155_2 : decode jdk_42_method_155_code 2 = .ok (.getstatic 1053, 3) := by decide +kernel
theorem w_56 {Z : State} {a0 : Array Value} (hw : ∀ d ∈ tables_1, d.before a0 Z = true) : (Jvm.Cond.methodLink "java/lang/String" (1059 : Nat) ({ cls := "jdk/internal/util/Preconditions", name := "checkIndex", desc := "(IILjava/util/function/BiFunction;)I" } : Jvm.MethodName)).before a0 Z = true := hw _ (List.mem_of_getElem? (i := 56) rfl)
theorem w_58 {Z : State} {a0 : Array Value} (hw : ∀ d ∈ tables_1, d.before a0 Z = true) : (Jvm.Cond.code ({ cls := "jdk/internal/util/Preconditions", name := "checkIndex", desc := "(IILjava/util/function/BiFunction;)I" } : Jvm.MethodName) jdk_41_method_11_code (3 : Nat) (Option.some Jvm.ClassFile.FieldType.int)).before a0 Z = true := hw _ (List.mem_of_getElem? (i := 58) rfl)
theorem w_55 {Z : State} {a0 : Array Value} (hw : ∀ d ∈ tables_1, d.before a0 Z = true) : (Jvm.Cond.initialized "jdk/internal/util/Preconditions").before a0 Z = true := hw _ (List.mem_of_getElem? (i := 55) rfl)
theorem pd_0 : parseMethodDescriptor "(IILjava/util/function/BiFunction;)I" = some ⟨[.int, .int, (.object "java/util/function/BiFunction")], some .int⟩ := by decide +kernel
theorem d_j42_155_5 : decode jdk_42_method_155_code 5 = .ok (.invokestatic 1059, 3) := by decide +kernel
theorem w_57 {Z : State} {a0 : Array Value} (hw : ∀ d ∈ tables_1, d.before a0 Z = true) : (Jvm.Cond.static ({ cls := "jdk/internal/util/Preconditions", name := "checkIndex", desc := "(IILjava/util/function/BiFunction;)I" } : Jvm.MethodName)).before a0 Z = true := hw _ (List.mem_of_getElem? (i := 57) rfl)
theorem d_j42_155_8 : decode jdk_42_method_155_code 8 = .ok (.pop, 1) := by decide +kernel
theorem d_j42_155_9 : decode jdk_42_method_155_code 9 = .ok (.return_, 1) := by decide +kernel
set_option maxRecDepth 65536 in
set_option maxHeartbeats 40000000 in
theorem rm_sci (l : Launch) (Z : State) (a0 : Array Value) (hw : ∀ d ∈ tables_1, d.before a0 Z = true) (ws : List Jvm.Cond) (gv : Value) (h0 : Heap) (n0 : Nat) (Z0 : n0 ≤ h0.size) (O0 : Old Z n0 h0) (rgv : gv.isRef = true) (G0 : Sta Z Z.heap "jdk/internal/util/Preconditions" "SIOOBE_FORMATTER" "Ljava/util/function/BiFunction;" gv) :
    own_Met l Z (⟨"java/lang/String", "checkIndex", "(II)V"⟩ : MethodName) jdk_42_method_155_code 2 none ws ({ frames := 1, cells := 0, slots := 0, locals := 14 } : Room) #[(.int (0 : Int32)), (.int (1 : Int32))] h0 (Q_sci h0 n0) := by
  refine own_enter (own := "java/lang/String") (plainFor_of_name pn_1) rfl ?_
  intro p e s m below meth c s₁ hlk hret hx hby hml hown hnm hZ X0 e0
  have N0 := Fr.nil n0
  refine own_cast (ef_sci m ) ?_
  rcases ref_cases rgv with rfl | ⟨ga, rfl⟩
  · show own_Go _ _ _ _ (s₁.setTop (mkF m 0 #[.val (.int (0 : Int32)), .val (.int (1 : Int32))] []))
    refine own_go (fun t k => XS.iloadN X0.here hx rfl (hb hby d_j42_155_0) rfl k) ?_
    show own_Go _ _ _ _ (s₁.setTop (mkF m 1 #[.val (.int (0 : Int32)), .val (.int (1 : Int32))] [(.int (0 : Int32))]))
    refine own_go (fun t k => XS.iloadN X0.here hx rfl (hb hby d_j42_155_1) rfl k) ?_
    show own_Go _ _ _ _ (s₁.setTop (mkF m 2 #[.val (.int (0 : Int32)), .val (.int (1 : Int32))] [(.int (1 : Int32)), (.int (0 : Int32))]))
    obtain ⟨T101, X101, e101, st101⟩ := getS2 X0 hx hZ hown (host := "") (Or.inl (w_54 hw)) Via.refl e0 (G0.ext O0.2) (g := (mkF m 2 #[.val (.int (0 : Int32)), .val (.int (1 : Int32))] [(.int (1 : Int32)), (.int (0 : Int32))])) rfl (hb hby d_j42_155_2)
    refine own_go st101 ?_
    show own_Go _ _ _ _ (T101.setTop (mkF m 5 #[.val (.int (0 : Int32)), .val (.int (1 : Int32))] [.null, (.int (1 : Int32)), (.int (0 : Int32))]))
    obtain ⟨_, _, ⟨T102, L102, k102, n102⟩, -, X102, ⟨Lc102, hQ102, l102, y102, z102⟩, st102⟩ := Jvm.LawKit.callS X101 hx (y := (⟨"jdk/internal/util/Preconditions", "checkIndex", "(IILjava/util/function/BiFunction;)I"⟩ : MethodName)) hown (mvT hZ (w_56 hw)) (mvT hZ (w_57 hw)) (mvT hZ (w_55 hw)) (mvT hZ (w_58 hw)) (by decide) (backOf (W := 0) (rm_pciN l Z a0 hw [] h0 n0 Z0) hZ (w_58 hw) (w_55 hw) (by decide) (by decide)) (g := (mkF m 5 #[.val (.int (0 : Int32)), .val (.int (1 : Int32))] [.null, (.int (1 : Int32)), (.int (0 : Int32))])) rfl (by rw [hml]; rfl) (argsL := [(.int (0 : Int32)), (.int (1 : Int32)), .null]) (rest := []) (lenOf pd_0 rfl) rfl (by show 2 * 0 + _ ≤ _; exact Nat.le_of_eq rfl) (hb hby d_j42_155_5) (fun _ _ => ⟨rfl, e101, (by decide : 0 + 0 ≤ _), (by decide : 0 + 0 ≤ _)⟩)
    dsimp only [Pt.U, Pt.locs, Pt.cells, Pt.slots] at X102 l102 y102 z102 st102 hQ102
    subst l102 y102 z102
    obtain ⟨rfl, N102q, e102⟩ := hQ102
    have N102 := Fr.app N0 N102q
    refine own_go st102 ?_
    show own_Go _ _ _ _ (T102.setTop (mkF m 8 #[.val (.int (0 : Int32)), .val (.int (1 : Int32))] [(.int (0 : Int32))]))
    refine own_go (fun t k => XS.pop X102.here hx rfl (hb hby d_j42_155_8) rfl rfl k) ?_
    show own_Go _ _ _ _ (T102.setTop (mkF m 9 #[.val (.int (0 : Int32)), .val (.int (1 : Int32))] []))
    refine own_retV X102 hx hlk hret (hb hby d_j42_155_9) ?_ (by decide) (by decide)
    rw [e102]
    exact ⟨rfl, N102, rfl⟩
  · show own_Go _ _ _ _ (s₁.setTop (mkF m 0 #[.val (.int (0 : Int32)), .val (.int (1 : Int32))] []))
    refine own_go (fun t k => XS.iloadN X0.here hx rfl (hb hby d_j42_155_0) rfl k) ?_
    show own_Go _ _ _ _ (s₁.setTop (mkF m 1 #[.val (.int (0 : Int32)), .val (.int (1 : Int32))] [(.int (0 : Int32))]))
    refine own_go (fun t k => XS.iloadN X0.here hx rfl (hb hby d_j42_155_1) rfl k) ?_
    show own_Go _ _ _ _ (s₁.setTop (mkF m 2 #[.val (.int (0 : Int32)), .val (.int (1 : Int32))] [(.int (1 : Int32)), (.int (0 : Int32))]))
    obtain ⟨T103, X103, e103, st103⟩ := getS2 X0 hx hZ hown (host := "") (Or.inl (w_54 hw)) Via.refl e0 (G0.ext O0.2) (g := (mkF m 2 #[.val (.int (0 : Int32)), .val (.int (1 : Int32))] [(.int (1 : Int32)), (.int (0 : Int32))])) rfl (hb hby d_j42_155_2)
    refine own_go st103 ?_
    show own_Go _ _ _ _ (T103.setTop (mkF m 5 #[.val (.int (0 : Int32)), .val (.int (1 : Int32))] [(.ref ga), (.int (1 : Int32)), (.int (0 : Int32))]))
    obtain ⟨_, _, ⟨T104, L104, k104, n104⟩, -, X104, ⟨Lc104, hQ104, l104, y104, z104⟩, st104⟩ := Jvm.LawKit.callS X103 hx (y := (⟨"jdk/internal/util/Preconditions", "checkIndex", "(IILjava/util/function/BiFunction;)I"⟩ : MethodName)) hown (mvT hZ (w_56 hw)) (mvT hZ (w_57 hw)) (mvT hZ (w_55 hw)) (mvT hZ (w_58 hw)) (by decide) (backOf (W := 0) (rm_pciR l Z a0 hw [] ga h0 n0 Z0) hZ (w_58 hw) (w_55 hw) (by decide) (by decide)) (g := (mkF m 5 #[.val (.int (0 : Int32)), .val (.int (1 : Int32))] [(.ref ga), (.int (1 : Int32)), (.int (0 : Int32))])) rfl (by rw [hml]; rfl) (argsL := [(.int (0 : Int32)), (.int (1 : Int32)), (.ref ga)]) (rest := []) (lenOf pd_0 rfl) rfl (by show 2 * 0 + _ ≤ _; exact Nat.le_of_eq rfl) (hb hby d_j42_155_5) (fun _ _ => ⟨rfl, e103, (by decide : 0 + 0 ≤ _), (by decide : 0 + 0 ≤ _)⟩)
    dsimp only [Pt.U, Pt.locs, Pt.cells, Pt.slots] at X104 l104 y104 z104 st104 hQ104
    subst l104 y104 z104
    obtain ⟨rfl, N104q, e104⟩ := hQ104
    have N104 := Fr.app N0 N104q
    refine own_go st104 ?_
    show own_Go _ _ _ _ (T104.setTop (mkF m 8 #[.val (.int (0 : Int32)), .val (.int (1 : Int32))] [(.int (0 : Int32))]))
    refine own_go (fun t k => XS.pop X104.here hx rfl (hb hby d_j42_155_8) rfl rfl k) ?_
    show own_Go _ _ _ _ (T104.setTop (mkF m 9 #[.val (.int (0 : Int32)), .val (.int (1 : Int32))] []))
    refine own_retV X104 hx hlk hret (hb hby d_j42_155_9) ?_ (by decide) (by decide)
    rw [e104]
    exact ⟨rfl, N104, rfl⟩
def Q_l1c (cv : Int32) (h0 : Heap) (n0 : Nat) (v : Option Value) (h : Heap) (L : List Loc) : Prop := v = some (.int cv) ∧ Fr n0 L ∧ h = h0
theorem ef_l1c (m : MethodId) (ub : Addr) : entryFrame m #[(.ref ub), (.int (0 : Int32))] 2 = mkF m 0 #[.val (.ref ub), .val (.int (0 : Int32))] [] := by first | (simp [entryFrame, mkF, argsToLocals, Value.category]; done) | rfl
theorem pn_2 : plainName "java/lang/StringLatin1" = true := by first | (simp [plainName, overriddenIn]; done) | decide +kernel
theorem d_j43_2_0 : decode jdk_43_method_2_code 0 = .ok (.iload_n 1, 1) := by decide +kernel
theorem d_j43_2_1 : decode jdk_43_method_2_code 1 = .ok (.aload_n 0, 1) := by decide +kernel
theorem d_j43_2_2 : decode jdk_43_method_2_code 2 = .ok (.arraylength, 1) := by decide +kernel
theorem w_51 {Z : State} {a0 : Array Value} (hw : ∀ d ∈ tables_1, d.before a0 Z = true) : (Jvm.Cond.methodLink "java/lang/StringLatin1" (9 : Nat) ({ cls := "java/lang/String", name := "checkIndex", desc := "(II)V" } : Jvm.MethodName)).before a0 Z = true := hw _ (List.mem_of_getElem? (i := 51) rfl)
theorem w_53 {Z : State} {a0 : Array Value} (hw : ∀ d ∈ tables_1, d.before a0 Z = true) : (Jvm.Cond.code ({ cls := "java/lang/String", name := "checkIndex", desc := "(II)V" } : Jvm.MethodName) jdk_42_method_155_code (2 : Nat) (Option.none : Option Jvm.ClassFile.FieldType)).before a0 Z = true := hw _ (List.mem_of_getElem? (i := 53) rfl)
theorem w_35 {Z : State} {a0 : Array Value} (hw : ∀ d ∈ tables_1, d.before a0 Z = true) : (Jvm.Cond.initialized "java/lang/String").before a0 Z = true := hw _ (List.mem_of_getElem? (i := 35) rfl)
theorem pd_1 : parseMethodDescriptor "(II)V" = some ⟨[.int, .int], none⟩ := by decide +kernel
theorem d_j43_2_3 : decode jdk_43_method_2_code 3 = .ok (.invokestatic 9, 3) := by decide +kernel
theorem w_52 {Z : State} {a0 : Array Value} (hw : ∀ d ∈ tables_1, d.before a0 Z = true) : (Jvm.Cond.static ({ cls := "java/lang/String", name := "checkIndex", desc := "(II)V" } : Jvm.MethodName)).before a0 Z = true := hw _ (List.mem_of_getElem? (i := 52) rfl)
theorem d_j43_2_6 : decode jdk_43_method_2_code 6 = .ok (.aload_n 0, 1) := by decide +kernel
theorem d_j43_2_7 : decode jdk_43_method_2_code 7 = .ok (.iload_n 1, 1) := by decide +kernel
theorem d_j43_2_8 : decode jdk_43_method_2_code 8 = .ok (.baload, 1) := by decide +kernel
theorem d_j43_2_9 : decode jdk_43_method_2_code 9 = .ok (.sipush 255, 3) := by decide +kernel
theorem d_j43_2_12 : decode jdk_43_method_2_code 12 = .ok (.iand, 1) := by decide +kernel
theorem d_j43_2_13 : decode jdk_43_method_2_code 13 = .ok (.i2c, 1) := by decide +kernel
theorem d_j43_2_14 : decode jdk_43_method_2_code 14 = .ok (.ireturn, 1) := by decide +kernel
set_option maxRecDepth 65536 in
set_option maxHeartbeats 40000000 in
theorem rm_l1c (l : Launch) (Z : State) (a0 : Array Value) (hw : ∀ d ∈ tables_1, d.before a0 Z = true) (ws : List Jvm.Cond) (gv : Value) (ub : Addr) (kb : ClassId) (bv cv : Int32) (h0 : Heap) (n0 : Nat) (Z0 : n0 ≤ h0.size) (O0 : Old Z n0 h0) (rgv : gv.isRef = true) (G0 : Sta Z Z.heap "jdk/internal/util/Preconditions" "SIOOBE_FORMATTER" "Ljava/util/function/BiFunction;" gv) (A0 : Arv Z h0 ub kb .byte (1 : Int32) [(.int bv)] (.int (0 : Int32))) (hcv : nar .char ((bv &&& (255 : Int32)).toUInt32.toUInt16.toUInt32.toInt32) = cv) :
    own_Met l Z (⟨"java/lang/StringLatin1", "charAt", "([BI)C"⟩ : MethodName) jdk_43_method_2_code 2 (some .char) ws ({ frames := 2, cells := 0, slots := 0, locals := 27 } : Room) #[(.ref ub), (.int (0 : Int32))] h0 (Q_l1c cv h0 n0) := by
  refine own_enter (own := "java/lang/StringLatin1") (plainFor_of_name pn_2) rfl ?_
  intro p e s m below meth c s₁ hlk hret hx hby hml hown hnm hZ X0 e0
  have N0 := Fr.nil n0
  refine own_cast (ef_l1c m ub) ?_
  show own_Go _ _ _ _ (s₁.setTop (mkF m 0 #[.val (.ref ub), .val (.int (0 : Int32))] []))
  refine own_go (fun t k => XS.iloadN X0.here hx rfl (hb hby d_j43_2_0) rfl k) ?_
  show own_Go _ _ _ _ (s₁.setTop (mkF m 1 #[.val (.ref ub), .val (.int (0 : Int32))] [(.int (0 : Int32))]))
  refine own_go (fun t k => XS.aloadN X0.here hx rfl (hb hby d_j43_2_1) rfl rfl k) ?_
  show own_Go _ _ _ _ (s₁.setTop (mkF m 2 #[.val (.ref ub), .val (.int (0 : Int32))] [(.ref ub), (.int (0 : Int32))]))
  obtain ⟨cl105, Ar105, qk105, sz105, nn105, ha105, gf105⟩ := id A0
  refine own_go (X0.arraylength hx (by rw [e0]; exact Ar105.1) (State.isArrayOf_alike hZ.alike Ar105.2.1) (g := (mkF m 2 #[.val (.ref ub), .val (.int (0 : Int32))] [(.ref ub), (.int (0 : Int32))])) rfl rfl (hb hby d_j43_2_2)) ?_
  rw [len_of sz105 nn105]
  show own_Go _ _ _ _ (s₁.setTop (mkF m 3 #[.val (.ref ub), .val (.int (0 : Int32))] [(.int (1 : Int32)), (.int (0 : Int32))]))
  obtain ⟨_, _, ⟨T106, L106, k106, n106⟩, -, X106, ⟨Lc106, hQ106, l106, y106, z106⟩, st106⟩ := Jvm.LawKit.callS X0 hx (y := (⟨"java/lang/String", "checkIndex", "(II)V"⟩ : MethodName)) hown (mvT hZ (w_51 hw)) (mvT hZ (w_52 hw)) (mvT hZ (w_35 hw)) (mvT hZ (w_53 hw)) (by decide) (backOf (W := 0) (rm_sci l Z a0 hw [] gv h0 n0 Z0 O0 rgv G0) hZ (w_53 hw) (w_35 hw) (by decide) (by decide)) (g := (mkF m 3 #[.val (.ref ub), .val (.int (0 : Int32))] [(.int (1 : Int32)), (.int (0 : Int32))])) rfl (by rw [hml]; rfl) (argsL := [(.int (0 : Int32)), (.int (1 : Int32))]) (rest := []) (lenOf pd_1 rfl) rfl (by show 2 * 0 + _ ≤ _; exact Nat.le_of_eq rfl) (hb hby d_j43_2_3) (fun _ _ => ⟨rfl, e0, (by decide : 0 + 0 ≤ _), (by decide : 0 + 0 ≤ _)⟩)
  dsimp only [Pt.U, Pt.locs, Pt.cells, Pt.slots] at X106 l106 y106 z106 st106 hQ106
  subst l106 y106 z106
  obtain ⟨rfl, N106q, e106⟩ := hQ106
  have N106 := Fr.app N0 N106q
  refine own_go st106 ?_
  show own_Go _ _ _ _ (T106.setTop (mkF m 6 #[.val (.ref ub), .val (.int (0 : Int32))] []))
  refine own_go (fun t k => XS.aloadN X106.here hx rfl (hb hby d_j43_2_6) rfl rfl k) ?_
  show own_Go _ _ _ _ (T106.setTop (mkF m 7 #[.val (.ref ub), .val (.int (0 : Int32))] [(.ref ub)]))
  refine own_go (fun t k => XS.iloadN X106.here hx rfl (hb hby d_j43_2_7) rfl k) ?_
  show own_Go _ _ _ _ (T106.setTop (mkF m 8 #[.val (.ref ub), .val (.int (0 : Int32))] [(.int (0 : Int32)), (.ref ub)]))
  obtain ⟨cl107, Ar107, qk107, sz107, nn107, ha107, gf107⟩ := id A0
  have hin107 : ¬ ((0 : Int32) < 0 ∨ cl107.slots.size ≤ ((0 : Int32)).toNatClampNeg) := inb_of sz107 ⟨by decide, by decide⟩
  have hat107 : cl107.slots[((0 : Int32)).toNatClampNeg]? = some (.int bv) := ha107.at hin107 rfl
  refine own_go (X106.baloadBytes hx (j := (0 : Int32)) (v := (.int bv)) (by rw [e106]; exact Ar107.1) (State.isArrayOf_alike hZ.alike Ar107.2.1) Ar107.2.2 hin107 hat107 (g := (mkF m 8 #[.val (.ref ub), .val (.int (0 : Int32))] [(.int (0 : Int32)), (.ref ub)])) rfl rfl (hb hby d_j43_2_8)) ?_
  show own_Go _ _ _ _ (T106.setTop (mkF m 9 #[.val (.ref ub), .val (.int (0 : Int32))] [(.int bv)]))
  refine own_go (fun t k => XS.sipush X106.here hx rfl (hb hby d_j43_2_9) k) ?_
  show own_Go _ _ _ _ (T106.setTop (mkF m 12 #[.val (.ref ub), .val (.int (0 : Int32))] [(.int (255 : Int32)), (.int bv)]))
  refine own_go (fun t k => XS.iand X106.here hx rfl (hb hby d_j43_2_12) rfl k) ?_
  show own_Go _ _ _ _ (T106.setTop (mkF m 13 #[.val (.ref ub), .val (.int (0 : Int32))] [(.int (bv &&& (255 : Int32)))]))
  refine own_go (fun t k => XS.i2c X106.here hx rfl (hb hby d_j43_2_13) rfl k) ?_
  show own_Go _ _ _ _ (T106.setTop (mkF m 14 #[.val (.ref ub), .val (.int (0 : Int32))] [(.int ((bv &&& (255 : Int32)).toUInt32.toUInt16.toUInt32.toInt32))]))
  refine own_retN X106 hx hlk (t := .char) hret (by simp) (hb hby d_j43_2_14) ?_ (by decide) (by decide)
  rw [e106]
  exact ⟨by rw [hcv], N106, rfl⟩
def Q_il1 (h0 : Heap) (n0 : Nat) (v : Option Value) (h : Heap) (L : List Loc) : Prop := v = some (.int 1) ∧ Fr n0 L ∧ h = h0
theorem ef_il1 (m : MethodId) (us : Addr) : entryFrame m #[(.ref us)] 1 = mkF m 0 #[.val (.ref us)] [] := by first | (simp [entryFrame, mkF, argsToLocals, Value.category]; done) | rfl
theorem w_42 {Z : State} {a0 : Array Value} (hw : ∀ d ∈ tables_1, d.before a0 Z = true) : (Jvm.Cond.fieldLink "java/lang/String" (38 : Nat) "java/lang/String" "COMPACT_STRINGS" "Z").before a0 Z = true := hw _ (List.mem_of_getElem? (i := 42) rfl)
theorem d_j42_154_0 : decode jdk_42_method_154_code 0 = .ok (.getstatic 38, 3) := by decide +kernel
theorem d_j42_154_3 : decode jdk_42_method_154_code 3 = .ok (.ifCond .eq 14, 3) := by decide +kernel
theorem d_j42_154_6 : decode jdk_42_method_154_code 6 = .ok (.aload_n 0, 1) := by decide +kernel
theorem w_43 {Z : State} {a0 : Array Value} (hw : ∀ d ∈ tables_1, d.before a0 Z = true) : (Jvm.Cond.fieldLink "java/lang/String" (15 : Nat) "java/lang/String" "coder" "B").before a0 Z = true := hw _ (List.mem_of_getElem? (i := 43) rfl)
theorem d_j42_154_7 : decode jdk_42_method_154_code 7 = .ok (.getfield 15, 3) := by decide +kernel
theorem d_j42_154_10 : decode jdk_42_method_154_code 10 = .ok (.ifCond .ne 7, 3) := by decide +kernel
theorem d_j42_154_13 : decode jdk_42_method_154_code 13 = .ok (.iconst 1, 1) := by decide +kernel
theorem d_j42_154_14 : decode jdk_42_method_154_code 14 = .ok (.goto 4, 3) := by decide +kernel
theorem d_j42_154_18 : decode jdk_42_method_154_code 18 = .ok (.ireturn, 1) := by decide +kernel
set_option maxRecDepth 65536 in
set_option maxHeartbeats 40000000 in
theorem rm_il1 (l : Launch) (Z : State) (a0 : Array Value) (hw : ∀ d ∈ tables_1, d.before a0 Z = true) (ws : List Jvm.Cond) (zv : Int32) (us : Addr) (h0 : Heap) (n0 : Nat) (Z0 : n0 ≤ h0.size) (O0 : Old Z n0 h0) (hzv : ¬ zv = (0 : Int32)) (S0 : Sta Z Z.heap "java/lang/String" "COMPACT_STRINGS" "Z" (.int zv)) (C0 : Fld Z h0 us "java/lang/String" "coder" "B" (.int (0 : Int32))) :
    own_Met l Z (⟨"java/lang/String", "isLatin1", "()Z"⟩ : MethodName) jdk_42_method_154_code 1 (some .boolean) ws ({ frames := 0, cells := 0, slots := 0, locals := 0 } : Room) #[(.ref us)] h0 (Q_il1 h0 n0) := by
  refine own_enter (own := "java/lang/String") (plainFor_of_name pn_1) rfl ?_
  intro p e s m below meth c s₁ hlk hret hx hby hml hown hnm hZ X0 e0
  have N0 := Fr.nil n0
  refine own_cast (ef_il1 m us) ?_
  show own_Go _ _ _ _ (s₁.setTop (mkF m 0 #[.val (.ref us)] []))
  obtain ⟨T108, X108, e108, st108⟩ := getS2 X0 hx hZ hown (host := "") (Or.inl (w_42 hw)) Via.refl e0 (S0.ext O0.2) (g := (mkF m 0 #[.val (.ref us)] [])) rfl (hb hby d_j42_154_0)
  refine own_go st108 ?_
  show own_Go _ _ _ _ (T108.setTop (mkF m 3 #[.val (.ref us)] [(.int zv)]))
  refine own_go (fun t k => XS.ifNo X108.here hx rfl (hb hby d_j42_154_3) rfl ((if0 _ _).trans (feq hzv).1) k) ?_
  show own_Go _ _ _ _ (T108.setTop (mkF m 6 #[.val (.ref us)] []))
  refine own_go (fun t k => XS.aloadN X108.here hx rfl (hb hby d_j42_154_6) rfl rfl k) ?_
  show own_Go _ _ _ _ (T108.setTop (mkF m 7 #[.val (.ref us)] [(.ref us)]))
  obtain ⟨T109, X109, e109, st109⟩ := getF X108 hx hZ hown (host := "") (Or.inl (w_43 hw)) Via.refl e108 C0 (g := (mkF m 7 #[.val (.ref us)] [(.ref us)])) rfl rfl (hb hby d_j42_154_7)
  refine own_go st109 ?_
  show own_Go _ _ _ _ (T109.setTop (mkF m 10 #[.val (.ref us)] [(.int (0 : Int32))]))
  refine own_go (fun t k => XS.ifNo X109.here hx rfl (hb hby d_j42_154_10) rfl ((if0 _ _).trans (teq (by decide : (0 : Int32) = (0 : Int32))).2) k) ?_
  show own_Go _ _ _ _ (T109.setTop (mkF m 13 #[.val (.ref us)] []))
  refine own_go (fun t k => XS.iconst X109.here hx rfl (hb hby d_j42_154_13) k) ?_
  show own_Go _ _ _ _ (T109.setTop (mkF m 14 #[.val (.ref us)] [(.int (1 : Int32))]))
  refine own_go (fun t k => XS.goto X109.here hx rfl (pc0 := 14) (pc' := 18) rfl (hb hby d_j42_154_14) (by decide) (by decide) k) ?_
  show own_Go _ _ _ _ (T109.setTop (mkF m 18 #[.val (.ref us)] [(.int (1 : Int32))]))
  refine own_retN X109 hx hlk (t := .boolean) hret (by simp) (hb hby d_j42_154_18) ?_ (by decide) (by decide)
  rw [e109]
  exact ⟨rfl, N0, rfl⟩
def Q_cat (cv : Int32) (h0 : Heap) (n0 : Nat) (v : Option Value) (h : Heap) (L : List Loc) : Prop := v = some (.int cv) ∧ Fr n0 L ∧ h = h0
theorem ef_cat (m : MethodId) (us : Addr) : entryFrame m #[(.ref us), (.int (0 : Int32))] 2 = mkF m 0 #[.val (.ref us), .val (.int (0 : Int32))] [] := by first | (simp [entryFrame, mkF, argsToLocals, Value.category]; done) | rfl
theorem d_j42_56_0 : decode jdk_42_method_56_code 0 = .ok (.aload_n 0, 1) := by decide +kernel
theorem w_37 {Z : State} {a0 : Array Value} (hw : ∀ d ∈ tables_1, d.before a0 Z = true) : (Jvm.Cond.methodLink "java/lang/String" (492 : Nat) ({ cls := "java/lang/String", name := "isLatin1", desc := "()Z" } : Jvm.MethodName)).before a0 Z = true := hw _ (List.mem_of_getElem? (i := 37) rfl)
theorem w_41 {Z : State} {a0 : Array Value} (hw : ∀ d ∈ tables_1, d.before a0 Z = true) : (Jvm.Cond.code ({ cls := "java/lang/String", name := "isLatin1", desc := "()Z" } : Jvm.MethodName) jdk_42_method_154_code (1 : Nat) (Option.some Jvm.ClassFile.FieldType.boolean)).before a0 Z = true := hw _ (List.mem_of_getElem? (i := 41) rfl)
theorem pd_2 : parseMethodDescriptor "()Z" = some ⟨[], some .boolean⟩ := by decide +kernel
theorem d_j42_56_1 : decode jdk_42_method_56_code 1 = .ok (.invokevirtual 492, 3) := by decide +kernel
theorem w_40 {Z : State} {a0 : Array Value} (hw : ∀ d ∈ tables_1, d.before a0 Z = true) : (Jvm.Cond.selects "java/lang/String" ({ cls := "java/lang/String", name := "isLatin1", desc := "()Z" } : Jvm.MethodName) ({ cls := "java/lang/String", name := "isLatin1", desc := "()Z" } : Jvm.MethodName)).before a0 Z = true := hw _ (List.mem_of_getElem? (i := 40) rfl)
theorem w_38 {Z : State} {a0 : Array Value} (hw : ∀ d ∈ tables_1, d.before a0 Z = true) : (Jvm.Cond.declares ({ cls := "java/lang/String", name := "isLatin1", desc := "()Z" } : Jvm.MethodName)).before a0 Z = true := hw _ (List.mem_of_getElem? (i := 38) rfl)
theorem w_39 {Z : State} {a0 : Array Value} (hw : ∀ d ∈ tables_1, d.before a0 Z = true) : (Jvm.Cond.instanceMethod ({ cls := "java/lang/String", name := "isLatin1", desc := "()Z" } : Jvm.MethodName)).before a0 Z = true := hw _ (List.mem_of_getElem? (i := 39) rfl)
theorem d_j42_56_4 : decode jdk_42_method_56_code 4 = .ok (.ifCond .eq 12, 3) := by decide +kernel
theorem d_j42_56_7 : decode jdk_42_method_56_code 7 = .ok (.aload_n 0, 1) := by decide +kernel
theorem w_45 {Z : State} {a0 : Array Value} (hw : ∀ d ∈ tables_1, d.before a0 Z = true) : (Jvm.Cond.fieldLink "java/lang/String" (9 : Nat) "java/lang/String" "value" "[B").before a0 Z = true := hw _ (List.mem_of_getElem? (i := 45) rfl)
theorem d_j42_56_8 : decode jdk_42_method_56_code 8 = .ok (.getfield 9, 3) := by decide +kernel
theorem d_j42_56_11 : decode jdk_42_method_56_code 11 = .ok (.iload_n 1, 1) := by decide +kernel
theorem w_47 {Z : State} {a0 : Array Value} (hw : ∀ d ∈ tables_1, d.before a0 Z = true) : (Jvm.Cond.methodLink "java/lang/String" (495 : Nat) ({ cls := "java/lang/StringLatin1", name := "charAt", desc := "([BI)C" } : Jvm.MethodName)).before a0 Z = true := hw _ (List.mem_of_getElem? (i := 47) rfl)
theorem w_50 {Z : State} {a0 : Array Value} (hw : ∀ d ∈ tables_1, d.before a0 Z = true) : (Jvm.Cond.code ({ cls := "java/lang/StringLatin1", name := "charAt", desc := "([BI)C" } : Jvm.MethodName) jdk_43_method_2_code (2 : Nat) (Option.some Jvm.ClassFile.FieldType.char)).before a0 Z = true := hw _ (List.mem_of_getElem? (i := 50) rfl)
theorem w_49 {Z : State} {a0 : Array Value} (hw : ∀ d ∈ tables_1, d.before a0 Z = true) : (Jvm.Cond.initialized "java/lang/StringLatin1").before a0 Z = true := hw _ (List.mem_of_getElem? (i := 49) rfl)
theorem pd_3 : parseMethodDescriptor "([BI)C" = some ⟨[(.array .byte), .int], some .char⟩ := by decide +kernel
theorem d_j42_56_12 : decode jdk_42_method_56_code 12 = .ok (.invokestatic 495, 3) := by decide +kernel
theorem w_48 {Z : State} {a0 : Array Value} (hw : ∀ d ∈ tables_1, d.before a0 Z = true) : (Jvm.Cond.static ({ cls := "java/lang/StringLatin1", name := "charAt", desc := "([BI)C" } : Jvm.MethodName)).before a0 Z = true := hw _ (List.mem_of_getElem? (i := 48) rfl)
theorem d_j42_56_15 : decode jdk_42_method_56_code 15 = .ok (.ireturn, 1) := by decide +kernel
set_option maxRecDepth 65536 in
set_option maxHeartbeats 40000000 in
theorem rm_cat (l : Launch) (Z : State) (a0 : Array Value) (hw : ∀ d ∈ tables_1, d.before a0 Z = true) (ws : List Jvm.Cond) (gv : Value) (zv : Int32) (us ub : Addr) (kb : ClassId) (bv cv : Int32) (h0 : Heap) (n0 : Nat) (Z0 : n0 ≤ h0.size) (O0 : Old Z n0 h0) (rgv : gv.isRef = true) (G0 : Sta Z Z.heap "jdk/internal/util/Preconditions" "SIOOBE_FORMATTER" "Ljava/util/function/BiFunction;" gv) (hzv : ¬ zv = (0 : Int32)) (S0 : Sta Z Z.heap "java/lang/String" "COMPACT_STRINGS" "Z" (.int zv)) (E0 : Exa Z h0 us "java/lang/String") (C0 : Fld Z h0 us "java/lang/String" "coder" "B" (.int (0 : Int32))) (V0 : Fld Z h0 us "java/lang/String" "value" "[B" (.ref ub)) (A0 : Arv Z h0 ub kb .byte (1 : Int32) [(.int bv)] (.int (0 : Int32))) (hcv : nar .char ((bv &&& (255 : Int32)).toUInt32.toUInt16.toUInt32.toInt32) = cv) (hcc : nar .char cv = cv) :
    own_Met l Z (⟨"java/lang/String", "charAt", "(I)C"⟩ : MethodName) jdk_42_method_56_code 2 (some .char) ws ({ frames := 3, cells := 0, slots := 0, locals := 40 } : Room) #[(.ref us), (.int (0 : Int32))] h0 (Q_cat cv h0 n0) := by
  refine own_enter (own := "java/lang/String") (plainFor_of_name pn_1) rfl ?_
  intro p e s m below meth c s₁ hlk hret hx hby hml hown hnm hZ X0 e0
  have N0 := Fr.nil n0
  refine own_cast (ef_cat m us) ?_
  show own_Go _ _ _ _ (s₁.setTop (mkF m 0 #[.val (.ref us), .val (.int (0 : Int32))] []))
  refine own_go (fun t k => XS.aloadN X0.here hx rfl (hb hby d_j42_56_0) rfl rfl k) ?_
  show own_Go _ _ _ _ (s₁.setTop (mkF m 1 #[.val (.ref us), .val (.int (0 : Int32))] [(.ref us)]))
  obtain ⟨cq110, kq110, q110a, q110b, q110c⟩ := isOf hZ e0 E0
  obtain ⟨_, _, ⟨T110, L110, k110, n110⟩, -, X110, ⟨Lc110, hQ110, l110, y110, z110⟩, st110⟩ := X0.virtualBack hx (y := (⟨"java/lang/String", "isLatin1", "()Z"⟩ : MethodName)) (z := (⟨"java/lang/String", "isLatin1", "()Z"⟩ : MethodName)) hown (mvT hZ (w_37 hw)) (mvT hZ (w_38 hw)) (notFace_of_selects (args := #[]) (mvT hZ (w_40 hw))) (mvT hZ (w_40 hw)) (mvT hZ (w_39 hw)) (by decide) (backOf (W := 0) (rm_il1 l Z a0 hw [] zv us h0 n0 Z0 O0 hzv S0 C0) hZ (w_41 hw) (w_35 hw) (by decide) (by decide)) q110a q110c (g := (mkF m 1 #[.val (.ref us), .val (.int (0 : Int32))] [(.ref us)])) rfl (by rw [hml]; rfl) (Steps.refl _) (argsL := []) (rest := []) (lenOf pd_2 rfl) rfl (by show 2 * 0 + _ ≤ _; exact Nat.le_of_eq rfl) (hb hby d_j42_56_1) (fun _ _ => ⟨rfl, e0, (by decide : 0 + 0 ≤ _), (by decide : 0 + 0 ≤ _)⟩)
  dsimp only [Pt.U, Pt.locs, Pt.cells, Pt.slots] at X110 l110 y110 z110 st110 hQ110
  subst l110 y110 z110
  obtain ⟨rfl, N110q, e110⟩ := hQ110
  have N110 := Fr.app N0 N110q
  refine own_go (fun t k => st110.trans k) ?_
  show own_Go _ _ _ _ (T110.setTop (mkF m 4 #[.val (.ref us), .val (.int (0 : Int32))] [(.int (1 : Int32))]))
  refine own_go (fun t k => XS.ifNo X110.here hx rfl (hb hby d_j42_56_4) rfl ((if0 _ _).trans (feq (by decide : ¬ ((1 : Int32) = (0 : Int32)))).1) k) ?_
  show own_Go _ _ _ _ (T110.setTop (mkF m 7 #[.val (.ref us), .val (.int (0 : Int32))] []))
  refine own_go (fun t k => XS.aloadN X110.here hx rfl (hb hby d_j42_56_7) rfl rfl k) ?_
  show own_Go _ _ _ _ (T110.setTop (mkF m 8 #[.val (.ref us), .val (.int (0 : Int32))] [(.ref us)]))
  obtain ⟨T111, X111, e111, st111⟩ := getF X110 hx hZ hown (host := "") (Or.inl (w_45 hw)) Via.refl e110 V0 (g := (mkF m 8 #[.val (.ref us), .val (.int (0 : Int32))] [(.ref us)])) rfl rfl (hb hby d_j42_56_8)
  refine own_go st111 ?_
  show own_Go _ _ _ _ (T111.setTop (mkF m 11 #[.val (.ref us), .val (.int (0 : Int32))] [(.ref ub)]))
  refine own_go (fun t k => XS.iloadN X111.here hx rfl (hb hby d_j42_56_11) rfl k) ?_
  show own_Go _ _ _ _ (T111.setTop (mkF m 12 #[.val (.ref us), .val (.int (0 : Int32))] [(.int (0 : Int32)), (.ref ub)]))
  obtain ⟨_, _, ⟨T112, L112, k112, n112⟩, -, X112, ⟨Lc112, hQ112, l112, y112, z112⟩, st112⟩ := Jvm.LawKit.callS X111 hx (y := (⟨"java/lang/StringLatin1", "charAt", "([BI)C"⟩ : MethodName)) hown (mvT hZ (w_47 hw)) (mvT hZ (w_48 hw)) (mvT hZ (w_49 hw)) (mvT hZ (w_50 hw)) (by decide) (backOf (W := 0) (rm_l1c l Z a0 hw [] gv ub kb bv cv h0 n0 Z0 O0 rgv G0 A0 hcv) hZ (w_50 hw) (w_49 hw) (by decide) (by decide)) (g := (mkF m 12 #[.val (.ref us), .val (.int (0 : Int32))] [(.int (0 : Int32)), (.ref ub)])) rfl (by rw [hml]; rfl) (argsL := [(.ref ub), (.int (0 : Int32))]) (rest := []) (lenOf pd_3 rfl) rfl (by show 2 * 0 + _ ≤ _; exact Nat.le_of_eq rfl) (hb hby d_j42_56_12) (fun _ _ => ⟨rfl, e111, (by decide : 0 + 0 ≤ _), (by decide : 0 + 0 ≤ _)⟩)
  dsimp only [Pt.U, Pt.locs, Pt.cells, Pt.slots] at X112 l112 y112 z112 st112 hQ112
  subst l112 y112 z112
  obtain ⟨rfl, N112q, e112⟩ := hQ112
  have N112 := Fr.app N110 N112q
  refine own_go st112 ?_
  show own_Go _ _ _ _ (T112.setTop (mkF m 15 #[.val (.ref us), .val (.int (0 : Int32))] [(.int cv)]))
  refine own_retN X112 hx hlk (t := .char) hret (by simp) (hb hby d_j42_56_15) ?_ (by decide) (by decide)
  rw [e112]
  exact ⟨by rw [hcc], N112, rfl⟩
def Q_vals (Z : State) (kv : ClassId) (u0 u1 u2 u3 u4 u5 u6 u7 : Addr) (h0 : Heap) (n0 : Nat) (v : Option Value) (h : Heap) (L : List Loc) : Prop := ∃ uw : Addr, v = some (.ref uw) ∧ Fr n0 L ∧ Keep h0 h [] ∧ Arv Z h uw kv (.object "com/example/fathomsearch/fathomsearch/CalendarUnit") (8 : Int32) [(.ref u0), (.ref u1), (.ref u2), (.ref u3), (.ref u4), (.ref u5), (.ref u6), (.ref u7)] .null
theorem ef_vals (m : MethodId)  : entryFrame m #[] 0 = mkF m 0 #[] [] := by first | (simp [entryFrame, mkF, argsToLocals, Value.category]; done) | rfl
theorem pn_3 : plainName "com/example/fathomsearch/fathomsearch/CalendarUnit" = true := by first | (simp [plainName, overriddenIn]; done) | decide +kernel
theorem w_8 {Z : State} {a0 : Array Value} (hw : ∀ d ∈ tables_1, d.before a0 Z = true) : (Jvm.Cond.fieldLink "com/example/fathomsearch/fathomsearch/CalendarUnit" (28 : Nat) "com/example/fathomsearch/fathomsearch/CalendarUnit" "$VALUES" "[Lcom/example/fathomsearch/fathomsearch/CalendarUnit;").before a0 Z = true := hw _ (List.mem_of_getElem? (i := 8) rfl)
theorem d_p3_1_0 : decode prog_3_method_1_code 0 = .ok (.getstatic 28, 3) := by decide +kernel
theorem w_10 {Z : State} {a0 : Array Value} (hw : ∀ d ∈ tables_1, d.before a0 Z = true) : (Jvm.Cond.methodLink "com/example/fathomsearch/fathomsearch/CalendarUnit" (32 : Nat) ({ cls := "[Lcom/example/fathomsearch/fathomsearch/CalendarUnit;", name := "clone", desc := "()Ljava/lang/Object;" } : Jvm.MethodName)).before a0 Z = true := hw _ (List.mem_of_getElem? (i := 10) rfl)
theorem w_11 {Z : State} {a0 : Array Value} (hw : ∀ d ∈ tables_1, d.before a0 Z = true) : (Jvm.Cond.sameMethod "[Lcom/example/fathomsearch/fathomsearch/CalendarUnit;" "java/lang/Object" "clone" "()Ljava/lang/Object;").before a0 Z = true := hw _ (List.mem_of_getElem? (i := 11) rfl)
theorem w_15 {Z : State} {a0 : Array Value} (hw : ∀ d ∈ tables_1, d.before a0 Z = true) : (Jvm.Cond.native ({ cls := "java/lang/Object", name := "clone", desc := "()Ljava/lang/Object;" } : Jvm.MethodName)).before a0 Z = true := hw _ (List.mem_of_getElem? (i := 15) rfl)
theorem w_13 {Z : State} {a0 : Array Value} (hw : ∀ d ∈ tables_1, d.before a0 Z = true) : (Jvm.Cond.instanceMethod ({ cls := "java/lang/Object", name := "clone", desc := "()Ljava/lang/Object;" } : Jvm.MethodName)).before a0 Z = true := hw _ (List.mem_of_getElem? (i := 13) rfl)
theorem w_14 {Z : State} {a0 : Array Value} (hw : ∀ d ∈ tables_1, d.before a0 Z = true) : (Jvm.Cond.selects "[Lcom/example/fathomsearch/fathomsearch/CalendarUnit;" ({ cls := "[Lcom/example/fathomsearch/fathomsearch/CalendarUnit;", name := "clone", desc := "()Ljava/lang/Object;" } : Jvm.MethodName) ({ cls := "java/lang/Object", name := "clone", desc := "()Ljava/lang/Object;" } : Jvm.MethodName)).before a0 Z = true := hw _ (List.mem_of_getElem? (i := 14) rfl)
theorem w_16 {Z : State} {a0 : Array Value} (hw : ∀ d ∈ tables_1, d.before a0 Z = true) : (Jvm.Cond.castable "[Lcom/example/fathomsearch/fathomsearch/CalendarUnit;" "java/lang/Cloneable").before a0 Z = true := hw _ (List.mem_of_getElem? (i := 16) rfl)
theorem d_p3_1_3 : decode prog_3_method_1_code 3 = .ok (.invokevirtual 32, 3) := by decide +kernel
theorem w_26 {Z : State} {a0 : Array Value} (hw : ∀ d ∈ tables_1, d.before a0 Z = true) : (Jvm.Cond.classLink "com/example/fathomsearch/fathomsearch/CalendarUnit" (33 : Nat) "[Lcom/example/fathomsearch/fathomsearch/CalendarUnit;").before a0 Z = true := hw _ (List.mem_of_getElem? (i := 26) rfl)
theorem d_p3_1_6 : decode prog_3_method_1_code 6 = .ok (.checkcast 33, 3) := by decide +kernel
theorem d_p3_1_9 : decode prog_3_method_1_code 9 = .ok (.areturn, 1) := by decide +kernel
set_option maxRecDepth 65536 in
set_option maxHeartbeats 40000000 in
theorem rm_vals (l : Launch) (Z : State) (a0 : Array Value) (hw : ∀ d ∈ tables_1, d.before a0 Z = true) (ws : List Jvm.Cond) (uv : Addr) (kv : ClassId) (u0 u1 u2 u3 u4 u5 u6 u7 : Addr) (h0 : Heap) (n0 : Nat) (Z0 : n0 ≤ h0.size) (O0 : Old Z n0 h0) (S_V : Sta Z Z.heap "com/example/fathomsearch/fathomsearch/CalendarUnit" "$VALUES" "[Lcom/example/fathomsearch/fathomsearch/CalendarUnit;" (.ref uv)) (A_V : Arv Z Z.heap uv kv (.object "com/example/fathomsearch/fathomsearch/CalendarUnit") (8 : Int32) [(.ref u0), (.ref u1), (.ref u2), (.ref u3), (.ref u4), (.ref u5), (.ref u6), (.ref u7)] .null) (E_V : Exa Z Z.heap uv "[Lcom/example/fathomsearch/fathomsearch/CalendarUnit;") :
    own_Met l Z (⟨"com/example/fathomsearch/fathomsearch/CalendarUnit", "values", "()[Lcom/example/fathomsearch/fathomsearch/CalendarUnit;"⟩ : MethodName) prog_3_method_1_code 0 (some (.array (.object "com/example/fathomsearch/fathomsearch/CalendarUnit"))) ws ({ frames := 1, cells := 1, slots := 8, locals := 14 } : Room) #[] h0 (Q_vals Z kv u0 u1 u2 u3 u4 u5 u6 u7 h0 n0) := by
  refine own_enter (own := "com/example/fathomsearch/fathomsearch/CalendarUnit") (plainFor_of_name pn_3) rfl ?_
  intro p e s m below meth c s₁ hlk hret hx hby hml hown hnm hZ X0 e0
  have N0 := Fr.nil n0
  refine own_cast (ef_vals m ) ?_
  show own_Go _ _ _ _ (s₁.setTop (mkF m 0 #[] []))
  obtain ⟨T113, X113, e113, st113⟩ := getS2 X0 hx hZ hown (host := "") (Or.inl (w_8 hw)) Via.refl e0 (S_V.ext O0.2) (g := (mkF m 0 #[] [])) rfl (hb hby d_p3_1_0)
  refine own_go st113 ?_
  show own_Go _ _ _ _ (T113.setTop (mkF m 3 #[] [(.ref uv)]))
  obtain ⟨T114, h114, X114, e114, E114, A114, B114, st114⟩ := cloneH X113 hx hZ hown (w_10 hw) (w_11 hw) (w_15 hw) (w_13 hw) (w_14 hw) (w_16 hw) e113 (A_V.ext O0.2).arh (E_V.ext O0.2) (g := (mkF m 3 #[] [(.ref uv)])) rfl (by rw [hml]; rfl) rfl (hb hby d_p3_1_3) (by decide) (W := 0) (cap := 8) (by show 2 * 0 + _ ≤ _; exact Nat.le_of_eq rfl) (by decide) (by decide) (by decide) (by decide)
  obtain ⟨b114, g114⟩ : ∃ z, z = h0.size := ⟨_, rfl⟩
  rw [← g114] at A114 B114 st114
  refine own_go st114 ?_
  replace A114 : Arv Z h114 b114 kv (.object "com/example/fathomsearch/fathomsearch/CalendarUnit") (8 : Int32) [(.ref u0), (.ref u1), (.ref u2), (.ref u3), (.ref u4), (.ref u5), (.ref u6), (.ref u7)] .null := A114
  have Z114 : n0 ≤ h114.size := (Nat.le_trans Z0 E114.1)
  have K114 : Keep h0 h114 [] := (Keep.refl h0 []).ext E114
  have lo114 : h0.size ≤ b114 := Nat.le_of_eq g114.symm
  have q114 : n0 ≤ b114 := Nat.le_trans Z0 lo114
  have hi114 : b114 < h114.size := A114.lt
  show own_Go _ _ _ _ (T114.setTop (mkF m 6 #[] [(.ref b114)]))
  obtain ⟨T115, X115, e115, st115⟩ := castY X114 hx hZ hown (w_26 hw) e114 (Ins.self B114) (g := (mkF m 6 #[] [(.ref b114)])) rfl rfl (hb hby d_p3_1_6)
  refine own_go st115 ?_
  show own_Go _ _ _ _ (T115.setTop (mkF m 9 #[] [(.ref b114)]))
  refine own_ret X115 hx hlk hret rfl (Or.inr (Or.inr (Or.inr (Or.inr ⟨rfl, rfl, rfl⟩)))) (hb hby d_p3_1_9) ?_ (by decide) (by decide)
  rw [e115]
  exact ⟨b114, rfl, N0, K114, A114⟩
def own_of (iv : Int32) (u0 u1 u2 u3 u4 u5 u6 u7 : Addr) : Value := if 115 = iv then .ref u0 else if 109 = iv then .ref u1 else if 104 = iv then .ref u2 else if 100 = iv then .ref u3 else if 119 = iv then .ref u4 else if 77 = iv then .ref u5 else if 121 = iv then .ref u7 else if iv = 72 then .ref u2 else .null
def own_exp (iv : Int32) (u0 u1 u2 u3 u4 u5 u6 u7 : Addr) : Value := if iv = 121 then .ref u7 else if iv = 77 then .ref u5 else if iv = 119 then .ref u4 else if iv = 100 then .ref u3 else if iv = 104 then .ref u2 else if iv = 72 then .ref u2 else if iv = 109 then .ref u1 else if iv = 115 then .ref u0 else .null
theorem own_same (iv : Int32) (u0 u1 u2 u3 u4 u5 u6 u7 : Addr) : own_exp iv u0 u1 u2 u3 u4 u5 u6 u7 = own_of iv u0 u1 u2 u3 u4 u5 u6 u7 := by
  unfold own_exp own_of
  by_cases h0 : iv = 115
  · subst h0; rfl
  by_cases h1 : iv = 109
  · subst h1; rfl
  by_cases h2 : iv = 104
  · subst h2; rfl
  by_cases h3 : iv = 100
  · subst h3; rfl
  by_cases h4 : iv = 119
  · subst h4; rfl
  by_cases h5 : iv = 77
  · subst h5; rfl
  by_cases h6 : iv = 121
  · subst h6; rfl
  by_cases h7 : iv = 72
  · subst h7; rfl
  have s (c : Int32) (h : ¬ iv = c) : ¬ c = iv := fun q => h q.symm
  simp only [h0, h1, h2, h3, h4, h5, h6, h7, s _ h0, s _ h1, s _ h2, s _ h3, s _ h4, s _ h5, s _ h6, if_false]
theorem own_ofc (iv : Int32) (u0 u1 u2 u3 u4 u5 u6 u7 : Addr) : own_of iv u0 u1 u2 u3 u4 u5 u6 u7 = .null ∨ ∃ a, own_of iv u0 u1 u2 u3 u4 u5 u6 u7 = .ref a := by
  unfold own_of
  repeat' split
  all_goals first | exact Or.inl rfl | exact Or.inr ⟨_, rfl⟩
def Q_of (iv : Int32) (u0 u1 u2 u3 u4 u5 u6 u7 : Addr) (h0 : Heap) (n0 : Nat) (v : Option Value) (h : Heap) (L : List Loc) : Prop := v = some (own_of iv u0 u1 u2 u3 u4 u5 u6 u7) ∧ Fr n0 L ∧ Keep h0 h []
theorem ef_of (m : MethodId) (iv : Int32) : entryFrame m #[(.int iv)] 5 = mkF m 0 #[.val (.int iv), .unset, .unset, .unset, .unset] [] := by first | (simp [entryFrame, mkF, argsToLocals, Value.category]; done) | rfl
theorem w_5 {Z : State} {a0 : Array Value} (hw : ∀ d ∈ tables_1, d.before a0 Z = true) : (Jvm.Cond.methodLink "com/example/fathomsearch/fathomsearch/CalendarUnit" (58 : Nat) ({ cls := "com/example/fathomsearch/fathomsearch/CalendarUnit", name := "values", desc := "()[Lcom/example/fathomsearch/fathomsearch/CalendarUnit;" } : Jvm.MethodName)).before a0 Z = true := hw _ (List.mem_of_getElem? (i := 5) rfl)
theorem w_7 {Z : State} {a0 : Array Value} (hw : ∀ d ∈ tables_1, d.before a0 Z = true) : (Jvm.Cond.code ({ cls := "com/example/fathomsearch/fathomsearch/CalendarUnit", name := "values", desc := "()[Lcom/example/fathomsearch/fathomsearch/CalendarUnit;" } : Jvm.MethodName) prog_3_method_1_code (0 : Nat) (Option.some (Jvm.ClassFile.FieldType.array (Jvm.ClassFile.FieldType.object "com/example/fathomsearch/fathomsearch/CalendarUnit")))).before a0 Z = true := hw _ (List.mem_of_getElem? (i := 7) rfl)
theorem w_3 {Z : State} {a0 : Array Value} (hw : ∀ d ∈ tables_1, d.before a0 Z = true) : (Jvm.Cond.initialized "com/example/fathomsearch/fathomsearch/CalendarUnit").before a0 Z = true := hw _ (List.mem_of_getElem? (i := 3) rfl)
theorem pd_4 : parseMethodDescriptor "()[Lcom/example/fathomsearch/fathomsearch/CalendarUnit;" = some ⟨[], some (.array (.object "com/example/fathomsearch/fathomsearch/CalendarUnit"))⟩ := by decide +kernel
theorem d_p3_5_0 : decode prog_3_method_5_code 0 = .ok (.invokestatic 58, 3) := by decide +kernel
theorem w_6 {Z : State} {a0 : Array Value} (hw : ∀ d ∈ tables_1, d.before a0 Z = true) : (Jvm.Cond.static ({ cls := "com/example/fathomsearch/fathomsearch/CalendarUnit", name := "values", desc := "()[Lcom/example/fathomsearch/fathomsearch/CalendarUnit;" } : Jvm.MethodName)).before a0 Z = true := hw _ (List.mem_of_getElem? (i := 6) rfl)
theorem d_p3_5_3 : decode prog_3_method_5_code 3 = .ok (.astore_n 1, 1) := by decide +kernel
theorem d_p3_5_4 : decode prog_3_method_5_code 4 = .ok (.aload_n 1, 1) := by decide +kernel
theorem d_p3_5_5 : decode prog_3_method_5_code 5 = .ok (.arraylength, 1) := by decide +kernel
theorem d_p3_5_6 : decode prog_3_method_5_code 6 = .ok (.istore_n 2, 1) := by decide +kernel
theorem d_p3_5_7 : decode prog_3_method_5_code 7 = .ok (.iconst 0, 1) := by decide +kernel
theorem d_p3_5_8 : decode prog_3_method_5_code 8 = .ok (.istore_n 3, 1) := by decide +kernel
theorem d_p3_5_9 : decode prog_3_method_5_code 9 = .ok (.iload_n 3, 1) := by decide +kernel
theorem d_p3_5_10 : decode prog_3_method_5_code 10 = .ok (.iload_n 2, 1) := by decide +kernel
theorem d_p3_5_11 : decode prog_3_method_5_code 11 = .ok (.if_icmp .ge 38, 3) := by decide +kernel
theorem d_p3_5_14 : decode prog_3_method_5_code 14 = .ok (.aload_n 1, 1) := by decide +kernel
theorem d_p3_5_15 : decode prog_3_method_5_code 15 = .ok (.iload_n 3, 1) := by decide +kernel
theorem d_p3_5_16 : decode prog_3_method_5_code 16 = .ok (.aaload, 1) := by decide +kernel
theorem d_p3_5_17 : decode prog_3_method_5_code 17 = .ok (.astore 4, 2) := by decide +kernel
theorem d_p3_5_19 : decode prog_3_method_5_code 19 = .ok (.aload 4, 2) := by decide +kernel
theorem w_28 {Z : State} {a0 : Array Value} (hw : ∀ d ∈ tables_1, d.before a0 Z = true) : (Jvm.Cond.fieldLink "com/example/fathomsearch/fathomsearch/CalendarUnit" (22 : Nat) "com/example/fathomsearch/fathomsearch/CalendarUnit" "QUARTER" "Lcom/example/fathomsearch/fathomsearch/CalendarUnit;").before a0 Z = true := hw _ (List.mem_of_getElem? (i := 28) rfl)
theorem d_p3_5_21 : decode prog_3_method_5_code 21 = .ok (.getstatic 22, 3) := by decide +kernel
theorem d_p3_5_24 : decode prog_3_method_5_code 24 = .ok (.if_acmp .eq 19, 3) := by decide +kernel
theorem d_p3_5_27 : decode prog_3_method_5_code 27 = .ok (.aload 4, 2) := by decide +kernel
theorem w_29 {Z : State} {a0 : Array Value} (hw : ∀ d ∈ tables_1, d.before a0 Z = true) : (Jvm.Cond.fieldLink "com/example/fathomsearch/fathomsearch/CalendarUnit" (51 : Nat) "com/example/fathomsearch/fathomsearch/CalendarUnit" "letter" "Ljava/lang/String;").before a0 Z = true := hw _ (List.mem_of_getElem? (i := 29) rfl)
theorem d_p3_5_29 : decode prog_3_method_5_code 29 = .ok (.getfield 51, 3) := by decide +kernel
theorem d_p3_5_32 : decode prog_3_method_5_code 32 = .ok (.iconst 0, 1) := by decide +kernel
theorem w_31 {Z : State} {a0 : Array Value} (hw : ∀ d ∈ tables_1, d.before a0 Z = true) : (Jvm.Cond.methodLink "com/example/fathomsearch/fathomsearch/CalendarUnit" (72 : Nat) ({ cls := "java/lang/String", name := "charAt", desc := "(I)C" } : Jvm.MethodName)).before a0 Z = true := hw _ (List.mem_of_getElem? (i := 31) rfl)
theorem w_36 {Z : State} {a0 : Array Value} (hw : ∀ d ∈ tables_1, d.before a0 Z = true) : (Jvm.Cond.code ({ cls := "java/lang/String", name := "charAt", desc := "(I)C" } : Jvm.MethodName) jdk_42_method_56_code (2 : Nat) (Option.some Jvm.ClassFile.FieldType.char)).before a0 Z = true := hw _ (List.mem_of_getElem? (i := 36) rfl)
theorem pd_5 : parseMethodDescriptor "(I)C" = some ⟨[.int], some .char⟩ := by decide +kernel
theorem d_p3_5_33 : decode prog_3_method_5_code 33 = .ok (.invokevirtual 72, 3) := by decide +kernel
theorem w_34 {Z : State} {a0 : Array Value} (hw : ∀ d ∈ tables_1, d.before a0 Z = true) : (Jvm.Cond.selects "java/lang/String" ({ cls := "java/lang/String", name := "charAt", desc := "(I)C" } : Jvm.MethodName) ({ cls := "java/lang/String", name := "charAt", desc := "(I)C" } : Jvm.MethodName)).before a0 Z = true := hw _ (List.mem_of_getElem? (i := 34) rfl)
theorem w_32 {Z : State} {a0 : Array Value} (hw : ∀ d ∈ tables_1, d.before a0 Z = true) : (Jvm.Cond.declares ({ cls := "java/lang/String", name := "charAt", desc := "(I)C" } : Jvm.MethodName)).before a0 Z = true := hw _ (List.mem_of_getElem? (i := 32) rfl)
theorem w_33 {Z : State} {a0 : Array Value} (hw : ∀ d ∈ tables_1, d.before a0 Z = true) : (Jvm.Cond.instanceMethod ({ cls := "java/lang/String", name := "charAt", desc := "(I)C" } : Jvm.MethodName)).before a0 Z = true := hw _ (List.mem_of_getElem? (i := 33) rfl)
theorem d_p3_5_36 : decode prog_3_method_5_code 36 = .ok (.iload_n 0, 1) := by decide +kernel
theorem d_p3_5_37 : decode prog_3_method_5_code 37 = .ok (.if_icmp .ne 6, 3) := by decide +kernel
theorem d_p3_5_40 : decode prog_3_method_5_code 40 = .ok (.aload 4, 2) := by decide +kernel
theorem d_p3_5_42 : decode prog_3_method_5_code 42 = .ok (.areturn, 1) := by decide +kernel
theorem d_p3_5_43 : decode prog_3_method_5_code 43 = .ok (.iinc 3 1, 3) := by decide +kernel
theorem d_p3_5_46 : decode prog_3_method_5_code 46 = .ok (.goto (-37), 3) := by decide +kernel
theorem d_p3_5_49 : decode prog_3_method_5_code 49 = .ok (.iload_n 0, 1) := by decide +kernel
theorem d_p3_5_50 : decode prog_3_method_5_code 50 = .ok (.bipush 72, 2) := by decide +kernel
theorem d_p3_5_52 : decode prog_3_method_5_code 52 = .ok (.if_icmp .ne 9, 3) := by decide +kernel
theorem w_68 {Z : State} {a0 : Array Value} (hw : ∀ d ∈ tables_1, d.before a0 Z = true) : (Jvm.Cond.fieldLink "com/example/fathomsearch/fathomsearch/CalendarUnit" (10 : Nat) "com/example/fathomsearch/fathomsearch/CalendarUnit" "HOUR" "Lcom/example/fathomsearch/fathomsearch/CalendarUnit;").before a0 Z = true := hw _ (List.mem_of_getElem? (i := 68) rfl)
theorem d_p3_5_55 : decode prog_3_method_5_code 55 = .ok (.getstatic 10, 3) := by decide +kernel
theorem d_p3_5_58 : decode prog_3_method_5_code 58 = .ok (.goto 4, 3) := by decide +kernel
theorem d_p3_5_62 : decode prog_3_method_5_code 62 = .ok (.areturn, 1) := by decide +kernel
theorem d_p3_5_61 : decode prog_3_method_5_code 61 = .ok (.aconst_null, 1) := by decide +kernel
set_option maxRecDepth 65536 in
set_option maxHeartbeats 40000000 in
theorem rm_of (l : Launch) (Z : State) (a0 : Array Value) (hw : ∀ d ∈ tables_1, d.before a0 Z = true) (ws : List Jvm.Cond) (iv : Int32) (gv : Value) (zv : Int32) (uv : Addr) (kv : ClassId) (u0 u1 u2 u3 u4 u5 u6 u7 s0_ s1_ s2_ s3_ s4_ s5_ s7_ t0_ t1_ t2_ t3_ t4_ t5_ t7_ : Addr) (k0_ k1_ k2_ k3_ k4_ k5_ k7_ : ClassId) (h0 : Heap) (n0 : Nat) (Z0 : n0 ≤ h0.size) (O0 : Old Z n0 h0) (rgv : gv.isRef = true) (G0 : Sta Z Z.heap "jdk/internal/util/Preconditions" "SIOOBE_FORMATTER" "Ljava/util/function/BiFunction;" gv) (hzv : ¬ zv = (0 : Int32)) (S0 : Sta Z Z.heap "java/lang/String" "COMPACT_STRINGS" "Z" (.int zv)) (S_V : Sta Z Z.heap "com/example/fathomsearch/fathomsearch/CalendarUnit" "$VALUES" "[Lcom/example/fathomsearch/fathomsearch/CalendarUnit;" (.ref uv)) (A_V : Arv Z Z.heap uv kv (.object "com/example/fathomsearch/fathomsearch/CalendarUnit") (8 : Int32) [(.ref u0), (.ref u1), (.ref u2), (.ref u3), (.ref u4), (.ref u5), (.ref u6), (.ref u7)] .null) (E_V : Exa Z Z.heap uv "[Lcom/example/fathomsearch/fathomsearch/CalendarUnit;") (S2_ : Sta Z Z.heap "com/example/fathomsearch/fathomsearch/CalendarUnit" "HOUR" "Lcom/example/fathomsearch/fathomsearch/CalendarUnit;" (.ref u2)) (S6_ : Sta Z Z.heap "com/example/fathomsearch/fathomsearch/CalendarUnit" "QUARTER" "Lcom/example/fathomsearch/fathomsearch/CalendarUnit;" (.ref u6)) (L0_ : Fld Z Z.heap u0 "com/example/fathomsearch/fathomsearch/CalendarUnit" "letter" "Ljava/lang/String;" (.ref s0_)) (Es0 : Exa Z Z.heap s0_ "java/lang/String") (Cs0 : Fld Z Z.heap s0_ "java/lang/String" "coder" "B" (.int (0 : Int32))) (Vs0 : Fld Z Z.heap s0_ "java/lang/String" "value" "[B" (.ref t0_)) (As0 : Arv Z Z.heap t0_ k0_ .byte (1 : Int32) [(.int (115 : Int32))] (.int (0 : Int32))) (nq0 : ¬ u0 = u6) (L1_ : Fld Z Z.heap u1 "com/example/fathomsearch/fathomsearch/CalendarUnit" "letter" "Ljava/lang/String;" (.ref s1_)) (Es1 : Exa Z Z.heap s1_ "java/lang/String") (Cs1 : Fld Z Z.heap s1_ "java/lang/String" "coder" "B" (.int (0 : Int32))) (Vs1 : Fld Z Z.heap s1_ "java/lang/String" "value" "[B" (.ref t1_)) (As1 : Arv Z Z.heap t1_ k1_ .byte (1 : Int32) [(.int (109 : Int32))] (.int (0 : Int32))) (nq1 : ¬ u1 = u6) (L2_ : Fld Z Z.heap u2 "com/example/fathomsearch/fathomsearch/CalendarUnit" "letter" "Ljava/lang/String;" (.ref s2_)) (Es2 : Exa Z Z.heap s2_ "java/lang/String") (Cs2 : Fld Z Z.heap s2_ "java/lang/String" "coder" "B" (.int (0 : Int32))) (Vs2 : Fld Z Z.heap s2_ "java/lang/String" "value" "[B" (.ref t2_)) (As2 : Arv Z Z.heap t2_ k2_ .byte (1 : Int32) [(.int (104 : Int32))] (.int (0 : Int32))) (nq2 : ¬ u2 = u6) (L3_ : Fld Z Z.heap u3 "com/example/fathomsearch/fathomsearch/CalendarUnit" "letter" "Ljava/lang/String;" (.ref s3_)) (Es3 : Exa Z Z.heap s3_ "java/lang/String") (Cs3 : Fld Z Z.heap s3_ "java/lang/String" "coder" "B" (.int (0 : Int32))) (Vs3 : Fld Z Z.heap s3_ "java/lang/String" "value" "[B" (.ref t3_)) (As3 : Arv Z Z.heap t3_ k3_ .byte (1 : Int32) [(.int (100 : Int32))] (.int (0 : Int32))) (nq3 : ¬ u3 = u6) (L4_ : Fld Z Z.heap u4 "com/example/fathomsearch/fathomsearch/CalendarUnit" "letter" "Ljava/lang/String;" (.ref s4_)) (Es4 : Exa Z Z.heap s4_ "java/lang/String") (Cs4 : Fld Z Z.heap s4_ "java/lang/String" "coder" "B" (.int (0 : Int32))) (Vs4 : Fld Z Z.heap s4_ "java/lang/String" "value" "[B" (.ref t4_)) (As4 : Arv Z Z.heap t4_ k4_ .byte (1 : Int32) [(.int (119 : Int32))] (.int (0 : Int32))) (nq4 : ¬ u4 = u6) (L5_ : Fld Z Z.heap u5 "com/example/fathomsearch/fathomsearch/CalendarUnit" "letter" "Ljava/lang/String;" (.ref s5_)) (Es5 : Exa Z Z.heap s5_ "java/lang/String") (Cs5 : Fld Z Z.heap s5_ "java/lang/String" "coder" "B" (.int (0 : Int32))) (Vs5 : Fld Z Z.heap s5_ "java/lang/String" "value" "[B" (.ref t5_)) (As5 : Arv Z Z.heap t5_ k5_ .byte (1 : Int32) [(.int (77 : Int32))] (.int (0 : Int32))) (nq5 : ¬ u5 = u6) (L7_ : Fld Z Z.heap u7 "com/example/fathomsearch/fathomsearch/CalendarUnit" "letter" "Ljava/lang/String;" (.ref s7_)) (Es7 : Exa Z Z.heap s7_ "java/lang/String") (Cs7 : Fld Z Z.heap s7_ "java/lang/String" "coder" "B" (.int (0 : Int32))) (Vs7 : Fld Z Z.heap s7_ "java/lang/String" "value" "[B" (.ref t7_)) (As7 : Arv Z Z.heap t7_ k7_ .byte (1 : Int32) [(.int (121 : Int32))] (.int (0 : Int32))) (nq7 : ¬ u7 = u6) :
    own_Met l Z (⟨"com/example/fathomsearch/fathomsearch/CalendarUnit", "ofLetter", "(C)Lcom/example/fathomsearch/fathomsearch/CalendarUnit;"⟩ : MethodName) prog_3_method_5_code 5 (some (.object "com/example/fathomsearch/fathomsearch/CalendarUnit")) ws ({ frames := 4, cells := 1, slots := 8, locals := 53 } : Room) #[(.int iv)] h0 (Q_of iv u0 u1 u2 u3 u4 u5 u6 u7 h0 n0) := by
  refine own_enter (own := "com/example/fathomsearch/fathomsearch/CalendarUnit") (plainFor_of_name pn_3) rfl ?_
  intro p e s m below meth c s₁ hlk hret hx hby hml hown hnm hZ X0 e0
  have N0 := Fr.nil n0
  refine own_cast (ef_of m iv) ?_
  show own_Go _ _ _ _ (s₁.setTop (mkF m 0 #[.val (.int iv), .unset, .unset, .unset, .unset] []))
  obtain ⟨_, _, ⟨T116, L116, k116, n116⟩, -, X116, ⟨Lc116, hQ116, l116, y116, z116⟩, st116⟩ := Jvm.LawKit.callS X0 hx (y := (⟨"com/example/fathomsearch/fathomsearch/CalendarUnit", "values", "()[Lcom/example/fathomsearch/fathomsearch/CalendarUnit;"⟩ : MethodName)) hown (mvT hZ (w_5 hw)) (mvT hZ (w_6 hw)) (mvT hZ (w_3 hw)) (mvT hZ (w_7 hw)) (by decide) (backOf (W := 0) (rm_vals l Z a0 hw [] uv kv u0 u1 u2 u3 u4 u5 u6 u7 h0 n0 Z0 O0 S_V A_V E_V) hZ (w_7 hw) (w_3 hw) (by decide) (by decide)) (g := (mkF m 0 #[.val (.int iv), .unset, .unset, .unset, .unset] [])) rfl (by rw [hml]; rfl) (argsL := []) (rest := []) (lenOf pd_4 rfl) rfl (by show 2 * 0 + _ ≤ _; exact Nat.le_of_eq rfl) (hb hby d_p3_5_0) (fun _ _ => ⟨rfl, e0, (by decide : 0 + 1 ≤ _), (by decide : 0 + 8 ≤ _)⟩)
  dsimp only [Pt.U, Pt.locs, Pt.cells, Pt.slots] at X116 l116 y116 z116 st116 hQ116
  subst l116 y116 z116
  generalize e116 : T116.heap = h116 at hQ116
  obtain ⟨uw, rfl, N116q, K116q, AV⟩ := hQ116
  have N116 := Fr.app N0 N116q
  refine own_go st116 ?_
  have Z116 : n0 ≤ h116.size := (Nat.le_trans Z0 K116q.1)
  have K116 : Keep h0 h116 [] := (Keep.refl h0 []).trans K116q all0
  show own_Go _ _ _ _ (T116.setTop (mkF m 3 #[.val (.int iv), .unset, .unset, .unset, .unset] [(.ref uw)]))
  refine own_go (fun t k => XS.astoreN X116.here hx rfl (hb hby d_p3_5_3) rfl rfl (l' := #[.val (.int iv), .val (.ref uw), .unset, .unset, .unset]) rfl k) ?_
  show own_Go _ _ _ _ (T116.setTop (mkF m 4 #[.val (.int iv), .val (.ref uw), .unset, .unset, .unset] []))
  refine own_go (fun t k => XS.aloadN X116.here hx rfl (hb hby d_p3_5_4) rfl rfl k) ?_
  show own_Go _ _ _ _ (T116.setTop (mkF m 5 #[.val (.int iv), .val (.ref uw), .unset, .unset, .unset] [(.ref uw)]))
  obtain ⟨cl117, Ar117, qk117, sz117, nn117, ha117, gf117⟩ := id AV
  refine own_go (X116.arraylength hx (by rw [e116]; exact Ar117.1) (State.isArrayOf_alike hZ.alike Ar117.2.1) (g := (mkF m 5 #[.val (.int iv), .val (.ref uw), .unset, .unset, .unset] [(.ref uw)])) rfl rfl (hb hby d_p3_5_5)) ?_
  rw [len_of sz117 nn117]
  show own_Go _ _ _ _ (T116.setTop (mkF m 6 #[.val (.int iv), .val (.ref uw), .unset, .unset, .unset] [(.int (8 : Int32))]))
  refine own_go (fun t k => XS.istoreN X116.here hx rfl (hb hby d_p3_5_6) rfl (l' := #[.val (.int iv), .val (.ref uw), .val (.int (8 : Int32)), .unset, .unset]) rfl k) ?_
  show own_Go _ _ _ _ (T116.setTop (mkF m 7 #[.val (.int iv), .val (.ref uw), .val (.int (8 : Int32)), .unset, .unset] []))
  refine own_go (fun t k => XS.iconst X116.here hx rfl (hb hby d_p3_5_7) k) ?_
  show own_Go _ _ _ _ (T116.setTop (mkF m 8 #[.val (.int iv), .val (.ref uw), .val (.int (8 : Int32)), .unset, .unset] [(.int (0 : Int32))]))
  refine own_go (fun t k => XS.istoreN X116.here hx rfl (hb hby d_p3_5_8) rfl (l' := #[.val (.int iv), .val (.ref uw), .val (.int (8 : Int32)), .val (.int (0 : Int32)), .unset]) rfl k) ?_
  show own_Go _ _ _ _ (T116.setTop (mkF m 9 #[.val (.int iv), .val (.ref uw), .val (.int (8 : Int32)), .val (.int (0 : Int32)), .unset] []))
  refine own_go (fun t k => XS.iloadN X116.here hx rfl (hb hby d_p3_5_9) rfl k) ?_
  show own_Go _ _ _ _ (T116.setTop (mkF m 10 #[.val (.int iv), .val (.ref uw), .val (.int (8 : Int32)), .val (.int (0 : Int32)), .unset] [(.int (0 : Int32))]))
  refine own_go (fun t k => XS.iloadN X116.here hx rfl (hb hby d_p3_5_10) rfl k) ?_
  show own_Go _ _ _ _ (T116.setTop (mkF m 11 #[.val (.int iv), .val (.ref uw), .val (.int (8 : Int32)), .val (.int (0 : Int32)), .unset] [(.int (8 : Int32)), (.int (0 : Int32))]))
  refine own_go (fun t k => XS.icmpNo X116.here hx rfl (hb hby d_p3_5_11) rfl (tlt (by decide : (0 : Int32) < (8 : Int32))).2.1 k) ?_
  show own_Go _ _ _ _ (T116.setTop (mkF m 14 #[.val (.int iv), .val (.ref uw), .val (.int (8 : Int32)), .val (.int (0 : Int32)), .unset] []))
  refine own_go (fun t k => XS.aloadN X116.here hx rfl (hb hby d_p3_5_14) rfl rfl k) ?_
  show own_Go _ _ _ _ (T116.setTop (mkF m 15 #[.val (.int iv), .val (.ref uw), .val (.int (8 : Int32)), .val (.int (0 : Int32)), .unset] [(.ref uw)]))
  refine own_go (fun t k => XS.iloadN X116.here hx rfl (hb hby d_p3_5_15) rfl k) ?_
  show own_Go _ _ _ _ (T116.setTop (mkF m 16 #[.val (.int iv), .val (.ref uw), .val (.int (8 : Int32)), .val (.int (0 : Int32)), .unset] [(.int (0 : Int32)), (.ref uw)]))
  obtain ⟨cl118, Ar118, qk118, sz118, nn118, ha118, gf118⟩ := id AV
  have hin118 : ¬ ((0 : Int32) < 0 ∨ cl118.slots.size ≤ ((0 : Int32)).toNatClampNeg) := inb_of sz118 ⟨by decide, by decide⟩
  have hat118 : cl118.slots[((0 : Int32)).toNatClampNeg]? = some (.ref u0) := ha118.at hin118 rfl
  refine own_go (X116.aaload hx (j := (0 : Int32)) (v := (.ref u0)) (by rw [e116]; exact Ar118.1) (State.isArrayOf_alike hZ.alike Ar118.2.1) rfl Ar118.2.2 hin118 hat118 (g := (mkF m 16 #[.val (.int iv), .val (.ref uw), .val (.int (8 : Int32)), .val (.int (0 : Int32)), .unset] [(.int (0 : Int32)), (.ref uw)])) rfl rfl (hb hby d_p3_5_16)) ?_
  show own_Go _ _ _ _ (T116.setTop (mkF m 17 #[.val (.int iv), .val (.ref uw), .val (.int (8 : Int32)), .val (.int (0 : Int32)), .unset] [(.ref u0)]))
  refine own_go (fun t k => XS.astore X116.here hx rfl (hb hby d_p3_5_17) rfl rfl (l' := #[.val (.int iv), .val (.ref uw), .val (.int (8 : Int32)), .val (.int (0 : Int32)), .val (.ref u0)]) rfl k) ?_
  show own_Go _ _ _ _ (T116.setTop (mkF m 19 #[.val (.int iv), .val (.ref uw), .val (.int (8 : Int32)), .val (.int (0 : Int32)), .val (.ref u0)] []))
  refine own_go (fun t k => XS.aload X116.here hx rfl (hb hby d_p3_5_19) rfl rfl k) ?_
  show own_Go _ _ _ _ (T116.setTop (mkF m 21 #[.val (.int iv), .val (.ref uw), .val (.int (8 : Int32)), .val (.int (0 : Int32)), .val (.ref u0)] [(.ref u0)]))
  obtain ⟨T119, X119, e119, st119⟩ := getS2 X116 hx hZ hown (host := "") (Or.inl (w_28 hw)) Via.refl e116 (S6_.ext (O0.keep K116q all0).2) (g := (mkF m 21 #[.val (.int iv), .val (.ref uw), .val (.int (8 : Int32)), .val (.int (0 : Int32)), .val (.ref u0)] [(.ref u0)])) rfl (hb hby d_p3_5_21)
  refine own_go st119 ?_
  show own_Go _ _ _ _ (T119.setTop (mkF m 24 #[.val (.int iv), .val (.ref uw), .val (.int (8 : Int32)), .val (.int (0 : Int32)), .val (.ref u0)] [(.ref u6), (.ref u0)]))
  refine own_go (fun t k => Jvm.RoadKit.acmp (g := (mkF m 24 #[.val (.int iv), .val (.ref uw), .val (.int (8 : Int32)), .val (.int (0 : Int32)), .val (.ref u0)] [(.ref u6), (.ref u0)])) X119 hx rfl rfl rfl (pc0 := 24) (pc' := 27) (same := false) rfl (hb hby d_p3_5_24) rfl (decide_eq_false fun q => nq0 (Value.ref.inj q)) (by decide) (by decide) k) ?_
  show own_Go _ _ _ _ (T119.setTop (mkF m 27 #[.val (.int iv), .val (.ref uw), .val (.int (8 : Int32)), .val (.int (0 : Int32)), .val (.ref u0)] []))
  refine own_go (fun t k => XS.aload X119.here hx rfl (hb hby d_p3_5_27) rfl rfl k) ?_
  show own_Go _ _ _ _ (T119.setTop (mkF m 29 #[.val (.int iv), .val (.ref uw), .val (.int (8 : Int32)), .val (.int (0 : Int32)), .val (.ref u0)] [(.ref u0)]))
  obtain ⟨T120, X120, e120, st120⟩ := getF X119 hx hZ hown (host := "") (Or.inl (w_29 hw)) Via.refl e119 (L0_.ext (O0.keep K116q all0).2) (g := (mkF m 29 #[.val (.int iv), .val (.ref uw), .val (.int (8 : Int32)), .val (.int (0 : Int32)), .val (.ref u0)] [(.ref u0)])) rfl rfl (hb hby d_p3_5_29)
  refine own_go st120 ?_
  show own_Go _ _ _ _ (T120.setTop (mkF m 32 #[.val (.int iv), .val (.ref uw), .val (.int (8 : Int32)), .val (.int (0 : Int32)), .val (.ref u0)] [(.ref s0_)]))
  refine own_go (fun t k => XS.iconst X120.here hx rfl (hb hby d_p3_5_32) k) ?_
  show own_Go _ _ _ _ (T120.setTop (mkF m 33 #[.val (.int iv), .val (.ref uw), .val (.int (8 : Int32)), .val (.int (0 : Int32)), .val (.ref u0)] [(.int (0 : Int32)), (.ref s0_)]))
  obtain ⟨cq121, kq121, q121a, q121b, q121c⟩ := isOf hZ e120 (Es0.ext (O0.keep K116q all0).2)
  obtain ⟨_, _, ⟨T121, L121, k121, n121⟩, -, X121, ⟨Lc121, hQ121, l121, y121, z121⟩, st121⟩ := X120.virtualBack hx (y := (⟨"java/lang/String", "charAt", "(I)C"⟩ : MethodName)) (z := (⟨"java/lang/String", "charAt", "(I)C"⟩ : MethodName)) hown (mvT hZ (w_31 hw)) (mvT hZ (w_32 hw)) (notFace_of_selects (args := #[]) (mvT hZ (w_34 hw))) (mvT hZ (w_34 hw)) (mvT hZ (w_33 hw)) (by decide) (backOf (W := 0) (rm_cat l Z a0 hw [] gv zv s0_ t0_ k0_ (115 : Int32) (115 : Int32) h116 n0 Z116 (O0.keep K116q all0) rgv G0 hzv S0 (Es0.ext (O0.keep K116q all0).2) (Cs0.ext (O0.keep K116q all0).2) (Vs0.ext (O0.keep K116q all0).2) (As0.ext (O0.keep K116q all0).2) (by decide) (by decide)) hZ (w_36 hw) (w_35 hw) (by decide) (by decide)) q121a q121c (g := (mkF m 33 #[.val (.int iv), .val (.ref uw), .val (.int (8 : Int32)), .val (.int (0 : Int32)), .val (.ref u0)] [(.int (0 : Int32)), (.ref s0_)])) rfl (by rw [hml]; rfl) (Steps.refl _) (argsL := [(.int (0 : Int32))]) (rest := []) (lenOf pd_5 rfl) rfl (by show 2 * 0 + _ ≤ _; exact Nat.le_of_eq rfl) (hb hby d_p3_5_33) (fun _ _ => ⟨rfl, e120, (by decide : 1 + 0 ≤ _), (by decide : 8 + 0 ≤ _)⟩)
  dsimp only [Pt.U, Pt.locs, Pt.cells, Pt.slots] at X121 l121 y121 z121 st121 hQ121
  subst l121 y121 z121
  obtain ⟨rfl, N121q, e121⟩ := hQ121
  have N121 := Fr.app N116 N121q
  refine own_go (fun t k => st121.trans k) ?_
  show own_Go _ _ _ _ (T121.setTop (mkF m 36 #[.val (.int iv), .val (.ref uw), .val (.int (8 : Int32)), .val (.int (0 : Int32)), .val (.ref u0)] [(.int (115 : Int32))]))
  refine own_go (fun t k => XS.iloadN X121.here hx rfl (hb hby d_p3_5_36) rfl k) ?_
  by_cases hc122 : (115 : Int32) = iv
  · show own_Go _ _ _ _ (T121.setTop (mkF m 37 #[.val (.int iv), .val (.ref uw), .val (.int (8 : Int32)), .val (.int (0 : Int32)), .val (.ref u0)] [(.int iv), (.int (115 : Int32))]))
    refine own_go (fun t k => XS.icmpNo X121.here hx rfl (hb hby d_p3_5_37) rfl (teq hc122).2 k) ?_
    show own_Go _ _ _ _ (T121.setTop (mkF m 40 #[.val (.int iv), .val (.ref uw), .val (.int (8 : Int32)), .val (.int (0 : Int32)), .val (.ref u0)] []))
    refine own_go (fun t k => XS.aload X121.here hx rfl (hb hby d_p3_5_40) rfl rfl k) ?_
    show own_Go _ _ _ _ (T121.setTop (mkF m 42 #[.val (.int iv), .val (.ref uw), .val (.int (8 : Int32)), .val (.int (0 : Int32)), .val (.ref u0)] [(.ref u0)]))
    refine own_ret X121 hx hlk hret rfl (Or.inr (Or.inr (Or.inr (Or.inr ⟨rfl, rfl, rfl⟩)))) (hb hby d_p3_5_42) ?_ (by decide) (by decide)
    rw [e121]
    exact ⟨by simp [own_of, hc122], N121, K116⟩
  · show own_Go _ _ _ _ (T121.setTop (mkF m 37 #[.val (.int iv), .val (.ref uw), .val (.int (8 : Int32)), .val (.int (0 : Int32)), .val (.ref u0)] [(.int iv), (.int (115 : Int32))]))
    refine own_go (fun t k => XS.icmpYes X121.here hx rfl (pc0 := 37) (pc' := 43) rfl (hb hby d_p3_5_37) rfl (feq hc122).2 (by decide) (by decide) k) ?_
    show own_Go _ _ _ _ (T121.setTop (mkF m 43 #[.val (.int iv), .val (.ref uw), .val (.int (8 : Int32)), .val (.int (0 : Int32)), .val (.ref u0)] []))
    refine own_go (fun t k => XS.iinc X121.here hx rfl (hb hby d_p3_5_43) rfl (l' := #[.val (.int iv), .val (.ref uw), .val (.int (8 : Int32)), .val (.int ((0 : Int32) + (1 : Int32))), .val (.ref u0)]) rfl k) ?_
    show own_Go _ _ _ _ (T121.setTop (mkF m 46 #[.val (.int iv), .val (.ref uw), .val (.int (8 : Int32)), .val (.int (1 : Int32)), .val (.ref u0)] []))
    refine own_go (fun t k => XS.goto X121.here hx rfl (pc0 := 46) (pc' := 9) rfl (hb hby d_p3_5_46) (by decide) (by decide) k) ?_
    show own_Go _ _ _ _ (T121.setTop (mkF m 9 #[.val (.int iv), .val (.ref uw), .val (.int (8 : Int32)), .val (.int (1 : Int32)), .val (.ref u0)] []))
    refine own_go (fun t k => XS.iloadN X121.here hx rfl (hb hby d_p3_5_9) rfl k) ?_
    show own_Go _ _ _ _ (T121.setTop (mkF m 10 #[.val (.int iv), .val (.ref uw), .val (.int (8 : Int32)), .val (.int (1 : Int32)), .val (.ref u0)] [(.int (1 : Int32))]))
    refine own_go (fun t k => XS.iloadN X121.here hx rfl (hb hby d_p3_5_10) rfl k) ?_
    show own_Go _ _ _ _ (T121.setTop (mkF m 11 #[.val (.int iv), .val (.ref uw), .val (.int (8 : Int32)), .val (.int (1 : Int32)), .val (.ref u0)] [(.int (8 : Int32)), (.int (1 : Int32))]))
    refine own_go (fun t k => XS.icmpNo X121.here hx rfl (hb hby d_p3_5_11) rfl (tlt (by decide : (1 : Int32) < (8 : Int32))).2.1 k) ?_
    show own_Go _ _ _ _ (T121.setTop (mkF m 14 #[.val (.int iv), .val (.ref uw), .val (.int (8 : Int32)), .val (.int (1 : Int32)), .val (.ref u0)] []))
    refine own_go (fun t k => XS.aloadN X121.here hx rfl (hb hby d_p3_5_14) rfl rfl k) ?_
    show own_Go _ _ _ _ (T121.setTop (mkF m 15 #[.val (.int iv), .val (.ref uw), .val (.int (8 : Int32)), .val (.int (1 : Int32)), .val (.ref u0)] [(.ref uw)]))
    refine own_go (fun t k => XS.iloadN X121.here hx rfl (hb hby d_p3_5_15) rfl k) ?_
    show own_Go _ _ _ _ (T121.setTop (mkF m 16 #[.val (.int iv), .val (.ref uw), .val (.int (8 : Int32)), .val (.int (1 : Int32)), .val (.ref u0)] [(.int (1 : Int32)), (.ref uw)]))
    obtain ⟨cl123, Ar123, qk123, sz123, nn123, ha123, gf123⟩ := id AV
    have hin123 : ¬ ((1 : Int32) < 0 ∨ cl123.slots.size ≤ ((1 : Int32)).toNatClampNeg) := inb_of sz123 ⟨by decide, by decide⟩
    have hat123 : cl123.slots[((1 : Int32)).toNatClampNeg]? = some (.ref u1) := ha123.at hin123 rfl
    refine own_go (X121.aaload hx (j := (1 : Int32)) (v := (.ref u1)) (by rw [e121]; exact Ar123.1) (State.isArrayOf_alike hZ.alike Ar123.2.1) rfl Ar123.2.2 hin123 hat123 (g := (mkF m 16 #[.val (.int iv), .val (.ref uw), .val (.int (8 : Int32)), .val (.int (1 : Int32)), .val (.ref u0)] [(.int (1 : Int32)), (.ref uw)])) rfl rfl (hb hby d_p3_5_16)) ?_
    show own_Go _ _ _ _ (T121.setTop (mkF m 17 #[.val (.int iv), .val (.ref uw), .val (.int (8 : Int32)), .val (.int (1 : Int32)), .val (.ref u0)] [(.ref u1)]))
    refine own_go (fun t k => XS.astore X121.here hx rfl (hb hby d_p3_5_17) rfl rfl (l' := #[.val (.int iv), .val (.ref uw), .val (.int (8 : Int32)), .val (.int (1 : Int32)), .val (.ref u1)]) rfl k) ?_
    show own_Go _ _ _ _ (T121.setTop (mkF m 19 #[.val (.int iv), .val (.ref uw), .val (.int (8 : Int32)), .val (.int (1 : Int32)), .val (.ref u1)] []))
    refine own_go (fun t k => XS.aload X121.here hx rfl (hb hby d_p3_5_19) rfl rfl k) ?_
    show own_Go _ _ _ _ (T121.setTop (mkF m 21 #[.val (.int iv), .val (.ref uw), .val (.int (8 : Int32)), .val (.int (1 : Int32)), .val (.ref u1)] [(.ref u1)]))
    obtain ⟨T124, X124, e124, st124⟩ := getS2 X121 hx hZ hown (host := "") (Or.inl (w_28 hw)) Via.refl e121 (S6_.ext (O0.keep K116q all0).2) (g := (mkF m 21 #[.val (.int iv), .val (.ref uw), .val (.int (8 : Int32)), .val (.int (1 : Int32)), .val (.ref u1)] [(.ref u1)])) rfl (hb hby d_p3_5_21)
    refine own_go st124 ?_
    show own_Go _ _ _ _ (T124.setTop (mkF m 24 #[.val (.int iv), .val (.ref uw), .val (.int (8 : Int32)), .val (.int (1 : Int32)), .val (.ref u1)] [(.ref u6), (.ref u1)]))
    refine own_go (fun t k => Jvm.RoadKit.acmp (g := (mkF m 24 #[.val (.int iv), .val (.ref uw), .val (.int (8 : Int32)), .val (.int (1 : Int32)), .val (.ref u1)] [(.ref u6), (.ref u1)])) X124 hx rfl rfl rfl (pc0 := 24) (pc' := 27) (same := false) rfl (hb hby d_p3_5_24) rfl (decide_eq_false fun q => nq1 (Value.ref.inj q)) (by decide) (by decide) k) ?_
    show own_Go _ _ _ _ (T124.setTop (mkF m 27 #[.val (.int iv), .val (.ref uw), .val (.int (8 : Int32)), .val (.int (1 : Int32)), .val (.ref u1)] []))
    refine own_go (fun t k => XS.aload X124.here hx rfl (hb hby d_p3_5_27) rfl rfl k) ?_
    show own_Go _ _ _ _ (T124.setTop (mkF m 29 #[.val (.int iv), .val (.ref uw), .val (.int (8 : Int32)), .val (.int (1 : Int32)), .val (.ref u1)] [(.ref u1)]))
    obtain ⟨T125, X125, e125, st125⟩ := getF X124 hx hZ hown (host := "") (Or.inl (w_29 hw)) Via.refl e124 (L1_.ext (O0.keep K116q all0).2) (g := (mkF m 29 #[.val (.int iv), .val (.ref uw), .val (.int (8 : Int32)), .val (.int (1 : Int32)), .val (.ref u1)] [(.ref u1)])) rfl rfl (hb hby d_p3_5_29)
    refine own_go st125 ?_
    show own_Go _ _ _ _ (T125.setTop (mkF m 32 #[.val (.int iv), .val (.ref uw), .val (.int (8 : Int32)), .val (.int (1 : Int32)), .val (.ref u1)] [(.ref s1_)]))
    refine own_go (fun t k => XS.iconst X125.here hx rfl (hb hby d_p3_5_32) k) ?_
    show own_Go _ _ _ _ (T125.setTop (mkF m 33 #[.val (.int iv), .val (.ref uw), .val (.int (8 : Int32)), .val (.int (1 : Int32)), .val (.ref u1)] [(.int (0 : Int32)), (.ref s1_)]))
    obtain ⟨cq126, kq126, q126a, q126b, q126c⟩ := isOf hZ e125 (Es1.ext (O0.keep K116q all0).2)
    obtain ⟨_, _, ⟨T126, L126, k126, n126⟩, -, X126, ⟨Lc126, hQ126, l126, y126, z126⟩, st126⟩ := X125.virtualBack hx (y := (⟨"java/lang/String", "charAt", "(I)C"⟩ : MethodName)) (z := (⟨"java/lang/String", "charAt", "(I)C"⟩ : MethodName)) hown (mvT hZ (w_31 hw)) (mvT hZ (w_32 hw)) (notFace_of_selects (args := #[]) (mvT hZ (w_34 hw))) (mvT hZ (w_34 hw)) (mvT hZ (w_33 hw)) (by decide) (backOf (W := 0) (rm_cat l Z a0 hw [] gv zv s1_ t1_ k1_ (109 : Int32) (109 : Int32) h116 n0 Z116 (O0.keep K116q all0) rgv G0 hzv S0 (Es1.ext (O0.keep K116q all0).2) (Cs1.ext (O0.keep K116q all0).2) (Vs1.ext (O0.keep K116q all0).2) (As1.ext (O0.keep K116q all0).2) (by decide) (by decide)) hZ (w_36 hw) (w_35 hw) (by decide) (by decide)) q126a q126c (g := (mkF m 33 #[.val (.int iv), .val (.ref uw), .val (.int (8 : Int32)), .val (.int (1 : Int32)), .val (.ref u1)] [(.int (0 : Int32)), (.ref s1_)])) rfl (by rw [hml]; rfl) (Steps.refl _) (argsL := [(.int (0 : Int32))]) (rest := []) (lenOf pd_5 rfl) rfl (by show 2 * 0 + _ ≤ _; exact Nat.le_of_eq rfl) (hb hby d_p3_5_33) (fun _ _ => ⟨rfl, e125, (by decide : 1 + 0 ≤ _), (by decide : 8 + 0 ≤ _)⟩)
    dsimp only [Pt.U, Pt.locs, Pt.cells, Pt.slots] at X126 l126 y126 z126 st126 hQ126
    subst l126 y126 z126
    obtain ⟨rfl, N126q, e126⟩ := hQ126
    have N126 := Fr.app N121 N126q
    refine own_go (fun t k => st126.trans k) ?_
    show own_Go _ _ _ _ (T126.setTop (mkF m 36 #[.val (.int iv), .val (.ref uw), .val (.int (8 : Int32)), .val (.int (1 : Int32)), .val (.ref u1)] [(.int (109 : Int32))]))
    refine own_go (fun t k => XS.iloadN X126.here hx rfl (hb hby d_p3_5_36) rfl k) ?_
    by_cases hc127 : (109 : Int32) = iv
    · show own_Go _ _ _ _ (T126.setTop (mkF m 37 #[.val (.int iv), .val (.ref uw), .val (.int (8 : Int32)), .val (.int (1 : Int32)), .val (.ref u1)] [(.int iv), (.int (109 : Int32))]))
      refine own_go (fun t k => XS.icmpNo X126.here hx rfl (hb hby d_p3_5_37) rfl (teq hc127).2 k) ?_
      show own_Go _ _ _ _ (T126.setTop (mkF m 40 #[.val (.int iv), .val (.ref uw), .val (.int (8 : Int32)), .val (.int (1 : Int32)), .val (.ref u1)] []))
      refine own_go (fun t k => XS.aload X126.here hx rfl (hb hby d_p3_5_40) rfl rfl k) ?_
      show own_Go _ _ _ _ (T126.setTop (mkF m 42 #[.val (.int iv), .val (.ref uw), .val (.int (8 : Int32)), .val (.int (1 : Int32)), .val (.ref u1)] [(.ref u1)]))
      refine own_ret X126 hx hlk hret rfl (Or.inr (Or.inr (Or.inr (Or.inr ⟨rfl, rfl, rfl⟩)))) (hb hby d_p3_5_42) ?_ (by decide) (by decide)
      rw [e126]
      exact ⟨by simp [own_of, hc122, hc127], N126, K116⟩
    · show own_Go _ _ _ _ (T126.setTop (mkF m 37 #[.val (.int iv), .val (.ref uw), .val (.int (8 : Int32)), .val (.int (1 : Int32)), .val (.ref u1)] [(.int iv), (.int (109 : Int32))]))
      refine own_go (fun t k => XS.icmpYes X126.here hx rfl (pc0 := 37) (pc' := 43) rfl (hb hby d_p3_5_37) rfl (feq hc127).2 (by decide) (by decide) k) ?_
      show own_Go _ _ _ _ (T126.setTop (mkF m 43 #[.val (.int iv), .val (.ref uw), .val (.int (8 : Int32)), .val (.int (1 : Int32)), .val (.ref u1)] []))
      refine own_go (fun t k => XS.iinc X126.here hx rfl (hb hby d_p3_5_43) rfl (l' := #[.val (.int iv), .val (.ref uw), .val (.int (8 : Int32)), .val (.int ((1 : Int32) + (1 : Int32))), .val (.ref u1)]) rfl k) ?_
      show own_Go _ _ _ _ (T126.setTop (mkF m 46 #[.val (.int iv), .val (.ref uw), .val (.int (8 : Int32)), .val (.int (2 : Int32)), .val (.ref u1)] []))
      refine own_go (fun t k => XS.goto X126.here hx rfl (pc0 := 46) (pc' := 9) rfl (hb hby d_p3_5_46) (by decide) (by decide) k) ?_
      show own_Go _ _ _ _ (T126.setTop (mkF m 9 #[.val (.int iv), .val (.ref uw), .val (.int (8 : Int32)), .val (.int (2 : Int32)), .val (.ref u1)] []))
      refine own_go (fun t k => XS.iloadN X126.here hx rfl (hb hby d_p3_5_9) rfl k) ?_
      show own_Go _ _ _ _ (T126.setTop (mkF m 10 #[.val (.int iv), .val (.ref uw), .val (.int (8 : Int32)), .val (.int (2 : Int32)), .val (.ref u1)] [(.int (2 : Int32))]))
      refine own_go (fun t k => XS.iloadN X126.here hx rfl (hb hby d_p3_5_10) rfl k) ?_
      show own_Go _ _ _ _ (T126.setTop (mkF m 11 #[.val (.int iv), .val (.ref uw), .val (.int (8 : Int32)), .val (.int (2 : Int32)), .val (.ref u1)] [(.int (8 : Int32)), (.int (2 : Int32))]))
      refine own_go (fun t k => XS.icmpNo X126.here hx rfl (hb hby d_p3_5_11) rfl (tlt (by decide : (2 : Int32) < (8 : Int32))).2.1 k) ?_
      show own_Go _ _ _ _ (T126.setTop (mkF m 14 #[.val (.int iv), .val (.ref uw), .val (.int (8 : Int32)), .val (.int (2 : Int32)), .val (.ref u1)] []))
      refine own_go (fun t k => XS.aloadN X126.here hx rfl (hb hby d_p3_5_14) rfl rfl k) ?_
      show own_Go _ _ _ _ (T126.setTop (mkF m 15 #[.val (.int iv), .val (.ref uw), .val (.int (8 : Int32)), .val (.int (2 : Int32)), .val (.ref u1)] [(.ref uw)]))
      refine own_go (fun t k => XS.iloadN X126.here hx rfl (hb hby d_p3_5_15) rfl k) ?_
      show own_Go _ _ _ _ (T126.setTop (mkF m 16 #[.val (.int iv), .val (.ref uw), .val (.int (8 : Int32)), .val (.int (2 : Int32)), .val (.ref u1)] [(.int (2 : Int32)), (.ref uw)]))
      obtain ⟨cl128, Ar128, qk128, sz128, nn128, ha128, gf128⟩ := id AV
      have hin128 : ¬ ((2 : Int32) < 0 ∨ cl128.slots.size ≤ ((2 : Int32)).toNatClampNeg) := inb_of sz128 ⟨by decide, by decide⟩
      have hat128 : cl128.slots[((2 : Int32)).toNatClampNeg]? = some (.ref u2) := ha128.at hin128 rfl
      refine own_go (X126.aaload hx (j := (2 : Int32)) (v := (.ref u2)) (by rw [e126]; exact Ar128.1) (State.isArrayOf_alike hZ.alike Ar128.2.1) rfl Ar128.2.2 hin128 hat128 (g := (mkF m 16 #[.val (.int iv), .val (.ref uw), .val (.int (8 : Int32)), .val (.int (2 : Int32)), .val (.ref u1)] [(.int (2 : Int32)), (.ref uw)])) rfl rfl (hb hby d_p3_5_16)) ?_
      show own_Go _ _ _ _ (T126.setTop (mkF m 17 #[.val (.int iv), .val (.ref uw), .val (.int (8 : Int32)), .val (.int (2 : Int32)), .val (.ref u1)] [(.ref u2)]))
      refine own_go (fun t k => XS.astore X126.here hx rfl (hb hby d_p3_5_17) rfl rfl (l' := #[.val (.int iv), .val (.ref uw), .val (.int (8 : Int32)), .val (.int (2 : Int32)), .val (.ref u2)]) rfl k) ?_
      show own_Go _ _ _ _ (T126.setTop (mkF m 19 #[.val (.int iv), .val (.ref uw), .val (.int (8 : Int32)), .val (.int (2 : Int32)), .val (.ref u2)] []))
      refine own_go (fun t k => XS.aload X126.here hx rfl (hb hby d_p3_5_19) rfl rfl k) ?_
      show own_Go _ _ _ _ (T126.setTop (mkF m 21 #[.val (.int iv), .val (.ref uw), .val (.int (8 : Int32)), .val (.int (2 : Int32)), .val (.ref u2)] [(.ref u2)]))
      obtain ⟨T129, X129, e129, st129⟩ := getS2 X126 hx hZ hown (host := "") (Or.inl (w_28 hw)) Via.refl e126 (S6_.ext (O0.keep K116q all0).2) (g := (mkF m 21 #[.val (.int iv), .val (.ref uw), .val (.int (8 : Int32)), .val (.int (2 : Int32)), .val (.ref u2)] [(.ref u2)])) rfl (hb hby d_p3_5_21)
      refine own_go st129 ?_
      show own_Go _ _ _ _ (T129.setTop (mkF m 24 #[.val (.int iv), .val (.ref uw), .val (.int (8 : Int32)), .val (.int (2 : Int32)), .val (.ref u2)] [(.ref u6), (.ref u2)]))
      refine own_go (fun t k => Jvm.RoadKit.acmp (g := (mkF m 24 #[.val (.int iv), .val (.ref uw), .val (.int (8 : Int32)), .val (.int (2 : Int32)), .val (.ref u2)] [(.ref u6), (.ref u2)])) X129 hx rfl rfl rfl (pc0 := 24) (pc' := 27) (same := false) rfl (hb hby d_p3_5_24) rfl (decide_eq_false fun q => nq2 (Value.ref.inj q)) (by decide) (by decide) k) ?_
      show own_Go _ _ _ _ (T129.setTop (mkF m 27 #[.val (.int iv), .val (.ref uw), .val (.int (8 : Int32)), .val (.int (2 : Int32)), .val (.ref u2)] []))
      refine own_go (fun t k => XS.aload X129.here hx rfl (hb hby d_p3_5_27) rfl rfl k) ?_
      show own_Go _ _ _ _ (T129.setTop (mkF m 29 #[.val (.int iv), .val (.ref uw), .val (.int (8 : Int32)), .val (.int (2 : Int32)), .val (.ref u2)] [(.ref u2)]))
      obtain ⟨T130, X130, e130, st130⟩ := getF X129 hx hZ hown (host := "") (Or.inl (w_29 hw)) Via.refl e129 (L2_.ext (O0.keep K116q all0).2) (g := (mkF m 29 #[.val (.int iv), .val (.ref uw), .val (.int (8 : Int32)), .val (.int (2 : Int32)), .val (.ref u2)] [(.ref u2)])) rfl rfl (hb hby d_p3_5_29)
      refine own_go st130 ?_
      show own_Go _ _ _ _ (T130.setTop (mkF m 32 #[.val (.int iv), .val (.ref uw), .val (.int (8 : Int32)), .val (.int (2 : Int32)), .val (.ref u2)] [(.ref s2_)]))
      refine own_go (fun t k => XS.iconst X130.here hx rfl (hb hby d_p3_5_32) k) ?_
      show own_Go _ _ _ _ (T130.setTop (mkF m 33 #[.val (.int iv), .val (.ref uw), .val (.int (8 : Int32)), .val (.int (2 : Int32)), .val (.ref u2)] [(.int (0 : Int32)), (.ref s2_)]))
      obtain ⟨cq131, kq131, q131a, q131b, q131c⟩ := isOf hZ e130 (Es2.ext (O0.keep K116q all0).2)
      obtain ⟨_, _, ⟨T131, L131, k131, n131⟩, -, X131, ⟨Lc131, hQ131, l131, y131, z131⟩, st131⟩ := X130.virtualBack hx (y := (⟨"java/lang/String", "charAt", "(I)C"⟩ : MethodName)) (z := (⟨"java/lang/String", "charAt", "(I)C"⟩ : MethodName)) hown (mvT hZ (w_31 hw)) (mvT hZ (w_32 hw)) (notFace_of_selects (args := #[]) (mvT hZ (w_34 hw))) (mvT hZ (w_34 hw)) (mvT hZ (w_33 hw)) (by decide) (backOf (W := 0) (rm_cat l Z a0 hw [] gv zv s2_ t2_ k2_ (104 : Int32) (104 : Int32) h116 n0 Z116 (O0.keep K116q all0) rgv G0 hzv S0 (Es2.ext (O0.keep K116q all0).2) (Cs2.ext (O0.keep K116q all0).2) (Vs2.ext (O0.keep K116q all0).2) (As2.ext (O0.keep K116q all0).2) (by decide) (by decide)) hZ (w_36 hw) (w_35 hw) (by decide) (by decide)) q131a q131c (g := (mkF m 33 #[.val (.int iv), .val (.ref uw), .val (.int (8 : Int32)), .val (.int (2 : Int32)), .val (.ref u2)] [(.int (0 : Int32)), (.ref s2_)])) rfl (by rw [hml]; rfl) (Steps.refl _) (argsL := [(.int (0 : Int32))]) (rest := []) (lenOf pd_5 rfl) rfl (by show 2 * 0 + _ ≤ _; exact Nat.le_of_eq rfl) (hb hby d_p3_5_33) (fun _ _ => ⟨rfl, e130, (by decide : 1 + 0 ≤ _), (by decide : 8 + 0 ≤ _)⟩)
      dsimp only [Pt.U, Pt.locs, Pt.cells, Pt.slots] at X131 l131 y131 z131 st131 hQ131
      subst l131 y131 z131
      obtain ⟨rfl, N131q, e131⟩ := hQ131
      have N131 := Fr.app N126 N131q
      refine own_go (fun t k => st131.trans k) ?_
      show own_Go _ _ _ _ (T131.setTop (mkF m 36 #[.val (.int iv), .val (.ref uw), .val (.int (8 : Int32)), .val (.int (2 : Int32)), .val (.ref u2)] [(.int (104 : Int32))]))
      refine own_go (fun t k => XS.iloadN X131.here hx rfl (hb hby d_p3_5_36) rfl k) ?_
      by_cases hc132 : (104 : Int32) = iv
      · show own_Go _ _ _ _ (T131.setTop (mkF m 37 #[.val (.int iv), .val (.ref uw), .val (.int (8 : Int32)), .val (.int (2 : Int32)), .val (.ref u2)] [(.int iv), (.int (104 : Int32))]))
        refine own_go (fun t k => XS.icmpNo X131.here hx rfl (hb hby d_p3_5_37) rfl (teq hc132).2 k) ?_
        show own_Go _ _ _ _ (T131.setTop (mkF m 40 #[.val (.int iv), .val (.ref uw), .val (.int (8 : Int32)), .val (.int (2 : Int32)), .val (.ref u2)] []))
        refine own_go (fun t k => XS.aload X131.here hx rfl (hb hby d_p3_5_40) rfl rfl k) ?_
        show own_Go _ _ _ _ (T131.setTop (mkF m 42 #[.val (.int iv), .val (.ref uw), .val (.int (8 : Int32)), .val (.int (2 : Int32)), .val (.ref u2)] [(.ref u2)]))
        refine own_ret X131 hx hlk hret rfl (Or.inr (Or.inr (Or.inr (Or.inr ⟨rfl, rfl, rfl⟩)))) (hb hby d_p3_5_42) ?_ (by decide) (by decide)
        rw [e131]
        exact ⟨by simp [own_of, hc122, hc127, hc132], N131, K116⟩
      · show own_Go _ _ _ _ (T131.setTop (mkF m 37 #[.val (.int iv), .val (.ref uw), .val (.int (8 : Int32)), .val (.int (2 : Int32)), .val (.ref u2)] [(.int iv), (.int (104 : Int32))]))
        refine own_go (fun t k => XS.icmpYes X131.here hx rfl (pc0 := 37) (pc' := 43) rfl (hb hby d_p3_5_37) rfl (feq hc132).2 (by decide) (by decide) k) ?_
        show own_Go _ _ _ _ (T131.setTop (mkF m 43 #[.val (.int iv), .val (.ref uw), .val (.int (8 : Int32)), .val (.int (2 : Int32)), .val (.ref u2)] []))
        refine own_go (fun t k => XS.iinc X131.here hx rfl (hb hby d_p3_5_43) rfl (l' := #[.val (.int iv), .val (.ref uw), .val (.int (8 : Int32)), .val (.int ((2 : Int32) + (1 : Int32))), .val (.ref u2)]) rfl k) ?_
        show own_Go _ _ _ _ (T131.setTop (mkF m 46 #[.val (.int iv), .val (.ref uw), .val (.int (8 : Int32)), .val (.int (3 : Int32)), .val (.ref u2)] []))
        refine own_go (fun t k => XS.goto X131.here hx rfl (pc0 := 46) (pc' := 9) rfl (hb hby d_p3_5_46) (by decide) (by decide) k) ?_
        show own_Go _ _ _ _ (T131.setTop (mkF m 9 #[.val (.int iv), .val (.ref uw), .val (.int (8 : Int32)), .val (.int (3 : Int32)), .val (.ref u2)] []))
        refine own_go (fun t k => XS.iloadN X131.here hx rfl (hb hby d_p3_5_9) rfl k) ?_
        show own_Go _ _ _ _ (T131.setTop (mkF m 10 #[.val (.int iv), .val (.ref uw), .val (.int (8 : Int32)), .val (.int (3 : Int32)), .val (.ref u2)] [(.int (3 : Int32))]))
        refine own_go (fun t k => XS.iloadN X131.here hx rfl (hb hby d_p3_5_10) rfl k) ?_
        show own_Go _ _ _ _ (T131.setTop (mkF m 11 #[.val (.int iv), .val (.ref uw), .val (.int (8 : Int32)), .val (.int (3 : Int32)), .val (.ref u2)] [(.int (8 : Int32)), (.int (3 : Int32))]))
        refine own_go (fun t k => XS.icmpNo X131.here hx rfl (hb hby d_p3_5_11) rfl (tlt (by decide : (3 : Int32) < (8 : Int32))).2.1 k) ?_
        show own_Go _ _ _ _ (T131.setTop (mkF m 14 #[.val (.int iv), .val (.ref uw), .val (.int (8 : Int32)), .val (.int (3 : Int32)), .val (.ref u2)] []))
        refine own_go (fun t k => XS.aloadN X131.here hx rfl (hb hby d_p3_5_14) rfl rfl k) ?_
        show own_Go _ _ _ _ (T131.setTop (mkF m 15 #[.val (.int iv), .val (.ref uw), .val (.int (8 : Int32)), .val (.int (3 : Int32)), .val (.ref u2)] [(.ref uw)]))
        refine own_go (fun t k => XS.iloadN X131.here hx rfl (hb hby d_p3_5_15) rfl k) ?_
        show own_Go _ _ _ _ (T131.setTop (mkF m 16 #[.val (.int iv), .val (.ref uw), .val (.int (8 : Int32)), .val (.int (3 : Int32)), .val (.ref u2)] [(.int (3 : Int32)), (.ref uw)]))
        obtain ⟨cl133, Ar133, qk133, sz133, nn133, ha133, gf133⟩ := id AV
        have hin133 : ¬ ((3 : Int32) < 0 ∨ cl133.slots.size ≤ ((3 : Int32)).toNatClampNeg) := inb_of sz133 ⟨by decide, by decide⟩
        have hat133 : cl133.slots[((3 : Int32)).toNatClampNeg]? = some (.ref u3) := ha133.at hin133 rfl
        refine own_go (X131.aaload hx (j := (3 : Int32)) (v := (.ref u3)) (by rw [e131]; exact Ar133.1) (State.isArrayOf_alike hZ.alike Ar133.2.1) rfl Ar133.2.2 hin133 hat133 (g := (mkF m 16 #[.val (.int iv), .val (.ref uw), .val (.int (8 : Int32)), .val (.int (3 : Int32)), .val (.ref u2)] [(.int (3 : Int32)), (.ref uw)])) rfl rfl (hb hby d_p3_5_16)) ?_
        show own_Go _ _ _ _ (T131.setTop (mkF m 17 #[.val (.int iv), .val (.ref uw), .val (.int (8 : Int32)), .val (.int (3 : Int32)), .val (.ref u2)] [(.ref u3)]))
        refine own_go (fun t k => XS.astore X131.here hx rfl (hb hby d_p3_5_17) rfl rfl (l' := #[.val (.int iv), .val (.ref uw), .val (.int (8 : Int32)), .val (.int (3 : Int32)), .val (.ref u3)]) rfl k) ?_
        show own_Go _ _ _ _ (T131.setTop (mkF m 19 #[.val (.int iv), .val (.ref uw), .val (.int (8 : Int32)), .val (.int (3 : Int32)), .val (.ref u3)] []))
        refine own_go (fun t k => XS.aload X131.here hx rfl (hb hby d_p3_5_19) rfl rfl k) ?_
        show own_Go _ _ _ _ (T131.setTop (mkF m 21 #[.val (.int iv), .val (.ref uw), .val (.int (8 : Int32)), .val (.int (3 : Int32)), .val (.ref u3)] [(.ref u3)]))
        obtain ⟨T134, X134, e134, st134⟩ := getS2 X131 hx hZ hown (host := "") (Or.inl (w_28 hw)) Via.refl e131 (S6_.ext (O0.keep K116q all0).2) (g := (mkF m 21 #[.val (.int iv), .val (.ref uw), .val (.int (8 : Int32)), .val (.int (3 : Int32)), .val (.ref u3)] [(.ref u3)])) rfl (hb hby d_p3_5_21)
        refine own_go st134 ?_
        show own_Go _ _ _ _ (T134.setTop (mkF m 24 #[.val (.int iv), .val (.ref uw), .val (.int (8 : Int32)), .val (.int (3 : Int32)), .val (.ref u3)] [(.ref u6), (.ref u3)]))
        refine own_go (fun t k => Jvm.RoadKit.acmp (g := (mkF m 24 #[.val (.int iv), .val (.ref uw), .val (.int (8 : Int32)), .val (.int (3 : Int32)), .val (.ref u3)] [(.ref u6), (.ref u3)])) X134 hx rfl rfl rfl (pc0 := 24) (pc' := 27) (same := false) rfl (hb hby d_p3_5_24) rfl (decide_eq_false fun q => nq3 (Value.ref.inj q)) (by decide) (by decide) k) ?_
        show own_Go _ _ _ _ (T134.setTop (mkF m 27 #[.val (.int iv), .val (.ref uw), .val (.int (8 : Int32)), .val (.int (3 : Int32)), .val (.ref u3)] []))
        refine own_go (fun t k => XS.aload X134.here hx rfl (hb hby d_p3_5_27) rfl rfl k) ?_
        show own_Go _ _ _ _ (T134.setTop (mkF m 29 #[.val (.int iv), .val (.ref uw), .val (.int (8 : Int32)), .val (.int (3 : Int32)), .val (.ref u3)] [(.ref u3)]))
        obtain ⟨T135, X135, e135, st135⟩ := getF X134 hx hZ hown (host := "") (Or.inl (w_29 hw)) Via.refl e134 (L3_.ext (O0.keep K116q all0).2) (g := (mkF m 29 #[.val (.int iv), .val (.ref uw), .val (.int (8 : Int32)), .val (.int (3 : Int32)), .val (.ref u3)] [(.ref u3)])) rfl rfl (hb hby d_p3_5_29)
        refine own_go st135 ?_
        show own_Go _ _ _ _ (T135.setTop (mkF m 32 #[.val (.int iv), .val (.ref uw), .val (.int (8 : Int32)), .val (.int (3 : Int32)), .val (.ref u3)] [(.ref s3_)]))
        refine own_go (fun t k => XS.iconst X135.here hx rfl (hb hby d_p3_5_32) k) ?_
        show own_Go _ _ _ _ (T135.setTop (mkF m 33 #[.val (.int iv), .val (.ref uw), .val (.int (8 : Int32)), .val (.int (3 : Int32)), .val (.ref u3)] [(.int (0 : Int32)), (.ref s3_)]))
        obtain ⟨cq136, kq136, q136a, q136b, q136c⟩ := isOf hZ e135 (Es3.ext (O0.keep K116q all0).2)
        obtain ⟨_, _, ⟨T136, L136, k136, n136⟩, -, X136, ⟨Lc136, hQ136, l136, y136, z136⟩, st136⟩ := X135.virtualBack hx (y := (⟨"java/lang/String", "charAt", "(I)C"⟩ : MethodName)) (z := (⟨"java/lang/String", "charAt", "(I)C"⟩ : MethodName)) hown (mvT hZ (w_31 hw)) (mvT hZ (w_32 hw)) (notFace_of_selects (args := #[]) (mvT hZ (w_34 hw))) (mvT hZ (w_34 hw)) (mvT hZ (w_33 hw)) (by decide) (backOf (W := 0) (rm_cat l Z a0 hw [] gv zv s3_ t3_ k3_ (100 : Int32) (100 : Int32) h116 n0 Z116 (O0.keep K116q all0) rgv G0 hzv S0 (Es3.ext (O0.keep K116q all0).2) (Cs3.ext (O0.keep K116q all0).2) (Vs3.ext (O0.keep K116q all0).2) (As3.ext (O0.keep K116q all0).2) (by decide) (by decide)) hZ (w_36 hw) (w_35 hw) (by decide) (by decide)) q136a q136c (g := (mkF m 33 #[.val (.int iv), .val (.ref uw), .val (.int (8 : Int32)), .val (.int (3 : Int32)), .val (.ref u3)] [(.int (0 : Int32)), (.ref s3_)])) rfl (by rw [hml]; rfl) (Steps.refl _) (argsL := [(.int (0 : Int32))]) (rest := []) (lenOf pd_5 rfl) rfl (by show 2 * 0 + _ ≤ _; exact Nat.le_of_eq rfl) (hb hby d_p3_5_33) (fun _ _ => ⟨rfl, e135, (by decide : 1 + 0 ≤ _), (by decide : 8 + 0 ≤ _)⟩)
        dsimp only [Pt.U, Pt.locs, Pt.cells, Pt.slots] at X136 l136 y136 z136 st136 hQ136
        subst l136 y136 z136
        obtain ⟨rfl, N136q, e136⟩ := hQ136
        have N136 := Fr.app N131 N136q
        refine own_go (fun t k => st136.trans k) ?_
        show own_Go _ _ _ _ (T136.setTop (mkF m 36 #[.val (.int iv), .val (.ref uw), .val (.int (8 : Int32)), .val (.int (3 : Int32)), .val (.ref u3)] [(.int (100 : Int32))]))
        refine own_go (fun t k => XS.iloadN X136.here hx rfl (hb hby d_p3_5_36) rfl k) ?_
        by_cases hc137 : (100 : Int32) = iv
        · show own_Go _ _ _ _ (T136.setTop (mkF m 37 #[.val (.int iv), .val (.ref uw), .val (.int (8 : Int32)), .val (.int (3 : Int32)), .val (.ref u3)] [(.int iv), (.int (100 : Int32))]))
          refine own_go (fun t k => XS.icmpNo X136.here hx rfl (hb hby d_p3_5_37) rfl (teq hc137).2 k) ?_
          show own_Go _ _ _ _ (T136.setTop (mkF m 40 #[.val (.int iv), .val (.ref uw), .val (.int (8 : Int32)), .val (.int (3 : Int32)), .val (.ref u3)] []))
          refine own_go (fun t k => XS.aload X136.here hx rfl (hb hby d_p3_5_40) rfl rfl k) ?_
          show own_Go _ _ _ _ (T136.setTop (mkF m 42 #[.val (.int iv), .val (.ref uw), .val (.int (8 : Int32)), .val (.int (3 : Int32)), .val (.ref u3)] [(.ref u3)]))
          refine own_ret X136 hx hlk hret rfl (Or.inr (Or.inr (Or.inr (Or.inr ⟨rfl, rfl, rfl⟩)))) (hb hby d_p3_5_42) ?_ (by decide) (by decide)
          rw [e136]
          exact ⟨by simp [own_of, hc122, hc127, hc132, hc137], N136, K116⟩
        · show own_Go _ _ _ _ (T136.setTop (mkF m 37 #[.val (.int iv), .val (.ref uw), .val (.int (8 : Int32)), .val (.int (3 : Int32)), .val (.ref u3)] [(.int iv), (.int (100 : Int32))]))
          refine own_go (fun t k => XS.icmpYes X136.here hx rfl (pc0 := 37) (pc' := 43) rfl (hb hby d_p3_5_37) rfl (feq hc137).2 (by decide) (by decide) k) ?_
          show own_Go _ _ _ _ (T136.setTop (mkF m 43 #[.val (.int iv), .val (.ref uw), .val (.int (8 : Int32)), .val (.int (3 : Int32)), .val (.ref u3)] []))
          refine own_go (fun t k => XS.iinc X136.here hx rfl (hb hby d_p3_5_43) rfl (l' := #[.val (.int iv), .val (.ref uw), .val (.int (8 : Int32)), .val (.int ((3 : Int32) + (1 : Int32))), .val (.ref u3)]) rfl k) ?_
          show own_Go _ _ _ _ (T136.setTop (mkF m 46 #[.val (.int iv), .val (.ref uw), .val (.int (8 : Int32)), .val (.int (4 : Int32)), .val (.ref u3)] []))
          refine own_go (fun t k => XS.goto X136.here hx rfl (pc0 := 46) (pc' := 9) rfl (hb hby d_p3_5_46) (by decide) (by decide) k) ?_
          show own_Go _ _ _ _ (T136.setTop (mkF m 9 #[.val (.int iv), .val (.ref uw), .val (.int (8 : Int32)), .val (.int (4 : Int32)), .val (.ref u3)] []))
          refine own_go (fun t k => XS.iloadN X136.here hx rfl (hb hby d_p3_5_9) rfl k) ?_
          show own_Go _ _ _ _ (T136.setTop (mkF m 10 #[.val (.int iv), .val (.ref uw), .val (.int (8 : Int32)), .val (.int (4 : Int32)), .val (.ref u3)] [(.int (4 : Int32))]))
          refine own_go (fun t k => XS.iloadN X136.here hx rfl (hb hby d_p3_5_10) rfl k) ?_
          show own_Go _ _ _ _ (T136.setTop (mkF m 11 #[.val (.int iv), .val (.ref uw), .val (.int (8 : Int32)), .val (.int (4 : Int32)), .val (.ref u3)] [(.int (8 : Int32)), (.int (4 : Int32))]))
          refine own_go (fun t k => XS.icmpNo X136.here hx rfl (hb hby d_p3_5_11) rfl (tlt (by decide : (4 : Int32) < (8 : Int32))).2.1 k) ?_
          show own_Go _ _ _ _ (T136.setTop (mkF m 14 #[.val (.int iv), .val (.ref uw), .val (.int (8 : Int32)), .val (.int (4 : Int32)), .val (.ref u3)] []))
          refine own_go (fun t k => XS.aloadN X136.here hx rfl (hb hby d_p3_5_14) rfl rfl k) ?_
          show own_Go _ _ _ _ (T136.setTop (mkF m 15 #[.val (.int iv), .val (.ref uw), .val (.int (8 : Int32)), .val (.int (4 : Int32)), .val (.ref u3)] [(.ref uw)]))
          refine own_go (fun t k => XS.iloadN X136.here hx rfl (hb hby d_p3_5_15) rfl k) ?_
          show own_Go _ _ _ _ (T136.setTop (mkF m 16 #[.val (.int iv), .val (.ref uw), .val (.int (8 : Int32)), .val (.int (4 : Int32)), .val (.ref u3)] [(.int (4 : Int32)), (.ref uw)]))
          obtain ⟨cl138, Ar138, qk138, sz138, nn138, ha138, gf138⟩ := id AV
          have hin138 : ¬ ((4 : Int32) < 0 ∨ cl138.slots.size ≤ ((4 : Int32)).toNatClampNeg) := inb_of sz138 ⟨by decide, by decide⟩
          have hat138 : cl138.slots[((4 : Int32)).toNatClampNeg]? = some (.ref u4) := ha138.at hin138 rfl
          refine own_go (X136.aaload hx (j := (4 : Int32)) (v := (.ref u4)) (by rw [e136]; exact Ar138.1) (State.isArrayOf_alike hZ.alike Ar138.2.1) rfl Ar138.2.2 hin138 hat138 (g := (mkF m 16 #[.val (.int iv), .val (.ref uw), .val (.int (8 : Int32)), .val (.int (4 : Int32)), .val (.ref u3)] [(.int (4 : Int32)), (.ref uw)])) rfl rfl (hb hby d_p3_5_16)) ?_
          show own_Go _ _ _ _ (T136.setTop (mkF m 17 #[.val (.int iv), .val (.ref uw), .val (.int (8 : Int32)), .val (.int (4 : Int32)), .val (.ref u3)] [(.ref u4)]))
          refine own_go (fun t k => XS.astore X136.here hx rfl (hb hby d_p3_5_17) rfl rfl (l' := #[.val (.int iv), .val (.ref uw), .val (.int (8 : Int32)), .val (.int (4 : Int32)), .val (.ref u4)]) rfl k) ?_
          show own_Go _ _ _ _ (T136.setTop (mkF m 19 #[.val (.int iv), .val (.ref uw), .val (.int (8 : Int32)), .val (.int (4 : Int32)), .val (.ref u4)] []))
          refine own_go (fun t k => XS.aload X136.here hx rfl (hb hby d_p3_5_19) rfl rfl k) ?_
          show own_Go _ _ _ _ (T136.setTop (mkF m 21 #[.val (.int iv), .val (.ref uw), .val (.int (8 : Int32)), .val (.int (4 : Int32)), .val (.ref u4)] [(.ref u4)]))
          obtain ⟨T139, X139, e139, st139⟩ := getS2 X136 hx hZ hown (host := "") (Or.inl (w_28 hw)) Via.refl e136 (S6_.ext (O0.keep K116q all0).2) (g := (mkF m 21 #[.val (.int iv), .val (.ref uw), .val (.int (8 : Int32)), .val (.int (4 : Int32)), .val (.ref u4)] [(.ref u4)])) rfl (hb hby d_p3_5_21)
          refine own_go st139 ?_
          show own_Go _ _ _ _ (T139.setTop (mkF m 24 #[.val (.int iv), .val (.ref uw), .val (.int (8 : Int32)), .val (.int (4 : Int32)), .val (.ref u4)] [(.ref u6), (.ref u4)]))
          refine own_go (fun t k => Jvm.RoadKit.acmp (g := (mkF m 24 #[.val (.int iv), .val (.ref uw), .val (.int (8 : Int32)), .val (.int (4 : Int32)), .val (.ref u4)] [(.ref u6), (.ref u4)])) X139 hx rfl rfl rfl (pc0 := 24) (pc' := 27) (same := false) rfl (hb hby d_p3_5_24) rfl (decide_eq_false fun q => nq4 (Value.ref.inj q)) (by decide) (by decide) k) ?_
          show own_Go _ _ _ _ (T139.setTop (mkF m 27 #[.val (.int iv), .val (.ref uw), .val (.int (8 : Int32)), .val (.int (4 : Int32)), .val (.ref u4)] []))
          refine own_go (fun t k => XS.aload X139.here hx rfl (hb hby d_p3_5_27) rfl rfl k) ?_
          show own_Go _ _ _ _ (T139.setTop (mkF m 29 #[.val (.int iv), .val (.ref uw), .val (.int (8 : Int32)), .val (.int (4 : Int32)), .val (.ref u4)] [(.ref u4)]))
          obtain ⟨T140, X140, e140, st140⟩ := getF X139 hx hZ hown (host := "") (Or.inl (w_29 hw)) Via.refl e139 (L4_.ext (O0.keep K116q all0).2) (g := (mkF m 29 #[.val (.int iv), .val (.ref uw), .val (.int (8 : Int32)), .val (.int (4 : Int32)), .val (.ref u4)] [(.ref u4)])) rfl rfl (hb hby d_p3_5_29)
          refine own_go st140 ?_
          show own_Go _ _ _ _ (T140.setTop (mkF m 32 #[.val (.int iv), .val (.ref uw), .val (.int (8 : Int32)), .val (.int (4 : Int32)), .val (.ref u4)] [(.ref s4_)]))
          refine own_go (fun t k => XS.iconst X140.here hx rfl (hb hby d_p3_5_32) k) ?_
          show own_Go _ _ _ _ (T140.setTop (mkF m 33 #[.val (.int iv), .val (.ref uw), .val (.int (8 : Int32)), .val (.int (4 : Int32)), .val (.ref u4)] [(.int (0 : Int32)), (.ref s4_)]))
          obtain ⟨cq141, kq141, q141a, q141b, q141c⟩ := isOf hZ e140 (Es4.ext (O0.keep K116q all0).2)
          obtain ⟨_, _, ⟨T141, L141, k141, n141⟩, -, X141, ⟨Lc141, hQ141, l141, y141, z141⟩, st141⟩ := X140.virtualBack hx (y := (⟨"java/lang/String", "charAt", "(I)C"⟩ : MethodName)) (z := (⟨"java/lang/String", "charAt", "(I)C"⟩ : MethodName)) hown (mvT hZ (w_31 hw)) (mvT hZ (w_32 hw)) (notFace_of_selects (args := #[]) (mvT hZ (w_34 hw))) (mvT hZ (w_34 hw)) (mvT hZ (w_33 hw)) (by decide) (backOf (W := 0) (rm_cat l Z a0 hw [] gv zv s4_ t4_ k4_ (119 : Int32) (119 : Int32) h116 n0 Z116 (O0.keep K116q all0) rgv G0 hzv S0 (Es4.ext (O0.keep K116q all0).2) (Cs4.ext (O0.keep K116q all0).2) (Vs4.ext (O0.keep K116q all0).2) (As4.ext (O0.keep K116q all0).2) (by decide) (by decide)) hZ (w_36 hw) (w_35 hw) (by decide) (by decide)) q141a q141c (g := (mkF m 33 #[.val (.int iv), .val (.ref uw), .val (.int (8 : Int32)), .val (.int (4 : Int32)), .val (.ref u4)] [(.int (0 : Int32)), (.ref s4_)])) rfl (by rw [hml]; rfl) (Steps.refl _) (argsL := [(.int (0 : Int32))]) (rest := []) (lenOf pd_5 rfl) rfl (by show 2 * 0 + _ ≤ _; exact Nat.le_of_eq rfl) (hb hby d_p3_5_33) (fun _ _ => ⟨rfl, e140, (by decide : 1 + 0 ≤ _), (by decide : 8 + 0 ≤ _)⟩)
          dsimp only [Pt.U, Pt.locs, Pt.cells, Pt.slots] at X141 l141 y141 z141 st141 hQ141
          subst l141 y141 z141
          obtain ⟨rfl, N141q, e141⟩ := hQ141
          have N141 := Fr.app N136 N141q
          refine own_go (fun t k => st141.trans k) ?_
          show own_Go _ _ _ _ (T141.setTop (mkF m 36 #[.val (.int iv), .val (.ref uw), .val (.int (8 : Int32)), .val (.int (4 : Int32)), .val (.ref u4)] [(.int (119 : Int32))]))
          refine own_go (fun t k => XS.iloadN X141.here hx rfl (hb hby d_p3_5_36) rfl k) ?_
          by_cases hc142 : (119 : Int32) = iv
          · show own_Go _ _ _ _ (T141.setTop (mkF m 37 #[.val (.int iv), .val (.ref uw), .val (.int (8 : Int32)), .val (.int (4 : Int32)), .val (.ref u4)] [(.int iv), (.int (119 : Int32))]))
            refine own_go (fun t k => XS.icmpNo X141.here hx rfl (hb hby d_p3_5_37) rfl (teq hc142).2 k) ?_
            show own_Go _ _ _ _ (T141.setTop (mkF m 40 #[.val (.int iv), .val (.ref uw), .val (.int (8 : Int32)), .val (.int (4 : Int32)), .val (.ref u4)] []))
            refine own_go (fun t k => XS.aload X141.here hx rfl (hb hby d_p3_5_40) rfl rfl k) ?_
            show own_Go _ _ _ _ (T141.setTop (mkF m 42 #[.val (.int iv), .val (.ref uw), .val (.int (8 : Int32)), .val (.int (4 : Int32)), .val (.ref u4)] [(.ref u4)]))
            refine own_ret X141 hx hlk hret rfl (Or.inr (Or.inr (Or.inr (Or.inr ⟨rfl, rfl, rfl⟩)))) (hb hby d_p3_5_42) ?_ (by decide) (by decide)
            rw [e141]
            exact ⟨by simp [own_of, hc122, hc127, hc132, hc137, hc142], N141, K116⟩
          · show own_Go _ _ _ _ (T141.setTop (mkF m 37 #[.val (.int iv), .val (.ref uw), .val (.int (8 : Int32)), .val (.int (4 : Int32)), .val (.ref u4)] [(.int iv), (.int (119 : Int32))]))
            refine own_go (fun t k => XS.icmpYes X141.here hx rfl (pc0 := 37) (pc' := 43) rfl (hb hby d_p3_5_37) rfl (feq hc142).2 (by decide) (by decide) k) ?_
            show own_Go _ _ _ _ (T141.setTop (mkF m 43 #[.val (.int iv), .val (.ref uw), .val (.int (8 : Int32)), .val (.int (4 : Int32)), .val (.ref u4)] []))
            refine own_go (fun t k => XS.iinc X141.here hx rfl (hb hby d_p3_5_43) rfl (l' := #[.val (.int iv), .val (.ref uw), .val (.int (8 : Int32)), .val (.int ((4 : Int32) + (1 : Int32))), .val (.ref u4)]) rfl k) ?_
            show own_Go _ _ _ _ (T141.setTop (mkF m 46 #[.val (.int iv), .val (.ref uw), .val (.int (8 : Int32)), .val (.int (5 : Int32)), .val (.ref u4)] []))
            refine own_go (fun t k => XS.goto X141.here hx rfl (pc0 := 46) (pc' := 9) rfl (hb hby d_p3_5_46) (by decide) (by decide) k) ?_
            show own_Go _ _ _ _ (T141.setTop (mkF m 9 #[.val (.int iv), .val (.ref uw), .val (.int (8 : Int32)), .val (.int (5 : Int32)), .val (.ref u4)] []))
            refine own_go (fun t k => XS.iloadN X141.here hx rfl (hb hby d_p3_5_9) rfl k) ?_
            show own_Go _ _ _ _ (T141.setTop (mkF m 10 #[.val (.int iv), .val (.ref uw), .val (.int (8 : Int32)), .val (.int (5 : Int32)), .val (.ref u4)] [(.int (5 : Int32))]))
            refine own_go (fun t k => XS.iloadN X141.here hx rfl (hb hby d_p3_5_10) rfl k) ?_
            show own_Go _ _ _ _ (T141.setTop (mkF m 11 #[.val (.int iv), .val (.ref uw), .val (.int (8 : Int32)), .val (.int (5 : Int32)), .val (.ref u4)] [(.int (8 : Int32)), (.int (5 : Int32))]))
            refine own_go (fun t k => XS.icmpNo X141.here hx rfl (hb hby d_p3_5_11) rfl (tlt (by decide : (5 : Int32) < (8 : Int32))).2.1 k) ?_
            show own_Go _ _ _ _ (T141.setTop (mkF m 14 #[.val (.int iv), .val (.ref uw), .val (.int (8 : Int32)), .val (.int (5 : Int32)), .val (.ref u4)] []))
            refine own_go (fun t k => XS.aloadN X141.here hx rfl (hb hby d_p3_5_14) rfl rfl k) ?_
            show own_Go _ _ _ _ (T141.setTop (mkF m 15 #[.val (.int iv), .val (.ref uw), .val (.int (8 : Int32)), .val (.int (5 : Int32)), .val (.ref u4)] [(.ref uw)]))
            refine own_go (fun t k => XS.iloadN X141.here hx rfl (hb hby d_p3_5_15) rfl k) ?_
            show own_Go _ _ _ _ (T141.setTop (mkF m 16 #[.val (.int iv), .val (.ref uw), .val (.int (8 : Int32)), .val (.int (5 : Int32)), .val (.ref u4)] [(.int (5 : Int32)), (.ref uw)]))
            obtain ⟨cl143, Ar143, qk143, sz143, nn143, ha143, gf143⟩ := id AV
            have hin143 : ¬ ((5 : Int32) < 0 ∨ cl143.slots.size ≤ ((5 : Int32)).toNatClampNeg) := inb_of sz143 ⟨by decide, by decide⟩
            have hat143 : cl143.slots[((5 : Int32)).toNatClampNeg]? = some (.ref u5) := ha143.at hin143 rfl
            refine own_go (X141.aaload hx (j := (5 : Int32)) (v := (.ref u5)) (by rw [e141]; exact Ar143.1) (State.isArrayOf_alike hZ.alike Ar143.2.1) rfl Ar143.2.2 hin143 hat143 (g := (mkF m 16 #[.val (.int iv), .val (.ref uw), .val (.int (8 : Int32)), .val (.int (5 : Int32)), .val (.ref u4)] [(.int (5 : Int32)), (.ref uw)])) rfl rfl (hb hby d_p3_5_16)) ?_
            show own_Go _ _ _ _ (T141.setTop (mkF m 17 #[.val (.int iv), .val (.ref uw), .val (.int (8 : Int32)), .val (.int (5 : Int32)), .val (.ref u4)] [(.ref u5)]))
            refine own_go (fun t k => XS.astore X141.here hx rfl (hb hby d_p3_5_17) rfl rfl (l' := #[.val (.int iv), .val (.ref uw), .val (.int (8 : Int32)), .val (.int (5 : Int32)), .val (.ref u5)]) rfl k) ?_
            show own_Go _ _ _ _ (T141.setTop (mkF m 19 #[.val (.int iv), .val (.ref uw), .val (.int (8 : Int32)), .val (.int (5 : Int32)), .val (.ref u5)] []))
            refine own_go (fun t k => XS.aload X141.here hx rfl (hb hby d_p3_5_19) rfl rfl k) ?_
            show own_Go _ _ _ _ (T141.setTop (mkF m 21 #[.val (.int iv), .val (.ref uw), .val (.int (8 : Int32)), .val (.int (5 : Int32)), .val (.ref u5)] [(.ref u5)]))
            obtain ⟨T144, X144, e144, st144⟩ := getS2 X141 hx hZ hown (host := "") (Or.inl (w_28 hw)) Via.refl e141 (S6_.ext (O0.keep K116q all0).2) (g := (mkF m 21 #[.val (.int iv), .val (.ref uw), .val (.int (8 : Int32)), .val (.int (5 : Int32)), .val (.ref u5)] [(.ref u5)])) rfl (hb hby d_p3_5_21)
            refine own_go st144 ?_
            show own_Go _ _ _ _ (T144.setTop (mkF m 24 #[.val (.int iv), .val (.ref uw), .val (.int (8 : Int32)), .val (.int (5 : Int32)), .val (.ref u5)] [(.ref u6), (.ref u5)]))
            refine own_go (fun t k => Jvm.RoadKit.acmp (g := (mkF m 24 #[.val (.int iv), .val (.ref uw), .val (.int (8 : Int32)), .val (.int (5 : Int32)), .val (.ref u5)] [(.ref u6), (.ref u5)])) X144 hx rfl rfl rfl (pc0 := 24) (pc' := 27) (same := false) rfl (hb hby d_p3_5_24) rfl (decide_eq_false fun q => nq5 (Value.ref.inj q)) (by decide) (by decide) k) ?_
            show own_Go _ _ _ _ (T144.setTop (mkF m 27 #[.val (.int iv), .val (.ref uw), .val (.int (8 : Int32)), .val (.int (5 : Int32)), .val (.ref u5)] []))
            refine own_go (fun t k => XS.aload X144.here hx rfl (hb hby d_p3_5_27) rfl rfl k) ?_
            show own_Go _ _ _ _ (T144.setTop (mkF m 29 #[.val (.int iv), .val (.ref uw), .val (.int (8 : Int32)), .val (.int (5 : Int32)), .val (.ref u5)] [(.ref u5)]))
            obtain ⟨T145, X145, e145, st145⟩ := getF X144 hx hZ hown (host := "") (Or.inl (w_29 hw)) Via.refl e144 (L5_.ext (O0.keep K116q all0).2) (g := (mkF m 29 #[.val (.int iv), .val (.ref uw), .val (.int (8 : Int32)), .val (.int (5 : Int32)), .val (.ref u5)] [(.ref u5)])) rfl rfl (hb hby d_p3_5_29)
            refine own_go st145 ?_
            show own_Go _ _ _ _ (T145.setTop (mkF m 32 #[.val (.int iv), .val (.ref uw), .val (.int (8 : Int32)), .val (.int (5 : Int32)), .val (.ref u5)] [(.ref s5_)]))
            refine own_go (fun t k => XS.iconst X145.here hx rfl (hb hby d_p3_5_32) k) ?_
            show own_Go _ _ _ _ (T145.setTop (mkF m 33 #[.val (.int iv), .val (.ref uw), .val (.int (8 : Int32)), .val (.int (5 : Int32)), .val (.ref u5)] [(.int (0 : Int32)), (.ref s5_)]))
            obtain ⟨cq146, kq146, q146a, q146b, q146c⟩ := isOf hZ e145 (Es5.ext (O0.keep K116q all0).2)
            obtain ⟨_, _, ⟨T146, L146, k146, n146⟩, -, X146, ⟨Lc146, hQ146, l146, y146, z146⟩, st146⟩ := X145.virtualBack hx (y := (⟨"java/lang/String", "charAt", "(I)C"⟩ : MethodName)) (z := (⟨"java/lang/String", "charAt", "(I)C"⟩ : MethodName)) hown (mvT hZ (w_31 hw)) (mvT hZ (w_32 hw)) (notFace_of_selects (args := #[]) (mvT hZ (w_34 hw))) (mvT hZ (w_34 hw)) (mvT hZ (w_33 hw)) (by decide) (backOf (W := 0) (rm_cat l Z a0 hw [] gv zv s5_ t5_ k5_ (77 : Int32) (77 : Int32) h116 n0 Z116 (O0.keep K116q all0) rgv G0 hzv S0 (Es5.ext (O0.keep K116q all0).2) (Cs5.ext (O0.keep K116q all0).2) (Vs5.ext (O0.keep K116q all0).2) (As5.ext (O0.keep K116q all0).2) (by decide) (by decide)) hZ (w_36 hw) (w_35 hw) (by decide) (by decide)) q146a q146c (g := (mkF m 33 #[.val (.int iv), .val (.ref uw), .val (.int (8 : Int32)), .val (.int (5 : Int32)), .val (.ref u5)] [(.int (0 : Int32)), (.ref s5_)])) rfl (by rw [hml]; rfl) (Steps.refl _) (argsL := [(.int (0 : Int32))]) (rest := []) (lenOf pd_5 rfl) rfl (by show 2 * 0 + _ ≤ _; exact Nat.le_of_eq rfl) (hb hby d_p3_5_33) (fun _ _ => ⟨rfl, e145, (by decide : 1 + 0 ≤ _), (by decide : 8 + 0 ≤ _)⟩)
            dsimp only [Pt.U, Pt.locs, Pt.cells, Pt.slots] at X146 l146 y146 z146 st146 hQ146
            subst l146 y146 z146
            obtain ⟨rfl, N146q, e146⟩ := hQ146
            have N146 := Fr.app N141 N146q
            refine own_go (fun t k => st146.trans k) ?_
            show own_Go _ _ _ _ (T146.setTop (mkF m 36 #[.val (.int iv), .val (.ref uw), .val (.int (8 : Int32)), .val (.int (5 : Int32)), .val (.ref u5)] [(.int (77 : Int32))]))
            refine own_go (fun t k => XS.iloadN X146.here hx rfl (hb hby d_p3_5_36) rfl k) ?_
            by_cases hc147 : (77 : Int32) = iv
            · show own_Go _ _ _ _ (T146.setTop (mkF m 37 #[.val (.int iv), .val (.ref uw), .val (.int (8 : Int32)), .val (.int (5 : Int32)), .val (.ref u5)] [(.int iv), (.int (77 : Int32))]))
              refine own_go (fun t k => XS.icmpNo X146.here hx rfl (hb hby d_p3_5_37) rfl (teq hc147).2 k) ?_
              show own_Go _ _ _ _ (T146.setTop (mkF m 40 #[.val (.int iv), .val (.ref uw), .val (.int (8 : Int32)), .val (.int (5 : Int32)), .val (.ref u5)] []))
              refine own_go (fun t k => XS.aload X146.here hx rfl (hb hby d_p3_5_40) rfl rfl k) ?_
              show own_Go _ _ _ _ (T146.setTop (mkF m 42 #[.val (.int iv), .val (.ref uw), .val (.int (8 : Int32)), .val (.int (5 : Int32)), .val (.ref u5)] [(.ref u5)]))
              refine own_ret X146 hx hlk hret rfl (Or.inr (Or.inr (Or.inr (Or.inr ⟨rfl, rfl, rfl⟩)))) (hb hby d_p3_5_42) ?_ (by decide) (by decide)
              rw [e146]
              exact ⟨by simp [own_of, hc122, hc127, hc132, hc137, hc142, hc147], N146, K116⟩
            · show own_Go _ _ _ _ (T146.setTop (mkF m 37 #[.val (.int iv), .val (.ref uw), .val (.int (8 : Int32)), .val (.int (5 : Int32)), .val (.ref u5)] [(.int iv), (.int (77 : Int32))]))
              refine own_go (fun t k => XS.icmpYes X146.here hx rfl (pc0 := 37) (pc' := 43) rfl (hb hby d_p3_5_37) rfl (feq hc147).2 (by decide) (by decide) k) ?_
              show own_Go _ _ _ _ (T146.setTop (mkF m 43 #[.val (.int iv), .val (.ref uw), .val (.int (8 : Int32)), .val (.int (5 : Int32)), .val (.ref u5)] []))
              refine own_go (fun t k => XS.iinc X146.here hx rfl (hb hby d_p3_5_43) rfl (l' := #[.val (.int iv), .val (.ref uw), .val (.int (8 : Int32)), .val (.int ((5 : Int32) + (1 : Int32))), .val (.ref u5)]) rfl k) ?_
              show own_Go _ _ _ _ (T146.setTop (mkF m 46 #[.val (.int iv), .val (.ref uw), .val (.int (8 : Int32)), .val (.int (6 : Int32)), .val (.ref u5)] []))
              refine own_go (fun t k => XS.goto X146.here hx rfl (pc0 := 46) (pc' := 9) rfl (hb hby d_p3_5_46) (by decide) (by decide) k) ?_
              show own_Go _ _ _ _ (T146.setTop (mkF m 9 #[.val (.int iv), .val (.ref uw), .val (.int (8 : Int32)), .val (.int (6 : Int32)), .val (.ref u5)] []))
              refine own_go (fun t k => XS.iloadN X146.here hx rfl (hb hby d_p3_5_9) rfl k) ?_
              show own_Go _ _ _ _ (T146.setTop (mkF m 10 #[.val (.int iv), .val (.ref uw), .val (.int (8 : Int32)), .val (.int (6 : Int32)), .val (.ref u5)] [(.int (6 : Int32))]))
              refine own_go (fun t k => XS.iloadN X146.here hx rfl (hb hby d_p3_5_10) rfl k) ?_
              show own_Go _ _ _ _ (T146.setTop (mkF m 11 #[.val (.int iv), .val (.ref uw), .val (.int (8 : Int32)), .val (.int (6 : Int32)), .val (.ref u5)] [(.int (8 : Int32)), (.int (6 : Int32))]))
              refine own_go (fun t k => XS.icmpNo X146.here hx rfl (hb hby d_p3_5_11) rfl (tlt (by decide : (6 : Int32) < (8 : Int32))).2.1 k) ?_
              show own_Go _ _ _ _ (T146.setTop (mkF m 14 #[.val (.int iv), .val (.ref uw), .val (.int (8 : Int32)), .val (.int (6 : Int32)), .val (.ref u5)] []))
              refine own_go (fun t k => XS.aloadN X146.here hx rfl (hb hby d_p3_5_14) rfl rfl k) ?_
              show own_Go _ _ _ _ (T146.setTop (mkF m 15 #[.val (.int iv), .val (.ref uw), .val (.int (8 : Int32)), .val (.int (6 : Int32)), .val (.ref u5)] [(.ref uw)]))
              refine own_go (fun t k => XS.iloadN X146.here hx rfl (hb hby d_p3_5_15) rfl k) ?_
              show own_Go _ _ _ _ (T146.setTop (mkF m 16 #[.val (.int iv), .val (.ref uw), .val (.int (8 : Int32)), .val (.int (6 : Int32)), .val (.ref u5)] [(.int (6 : Int32)), (.ref uw)]))
              obtain ⟨cl148, Ar148, qk148, sz148, nn148, ha148, gf148⟩ := id AV
              have hin148 : ¬ ((6 : Int32) < 0 ∨ cl148.slots.size ≤ ((6 : Int32)).toNatClampNeg) := inb_of sz148 ⟨by decide, by decide⟩
              have hat148 : cl148.slots[((6 : Int32)).toNatClampNeg]? = some (.ref u6) := ha148.at hin148 rfl
              refine own_go (X146.aaload hx (j := (6 : Int32)) (v := (.ref u6)) (by rw [e146]; exact Ar148.1) (State.isArrayOf_alike hZ.alike Ar148.2.1) rfl Ar148.2.2 hin148 hat148 (g := (mkF m 16 #[.val (.int iv), .val (.ref uw), .val (.int (8 : Int32)), .val (.int (6 : Int32)), .val (.ref u5)] [(.int (6 : Int32)), (.ref uw)])) rfl rfl (hb hby d_p3_5_16)) ?_
              show own_Go _ _ _ _ (T146.setTop (mkF m 17 #[.val (.int iv), .val (.ref uw), .val (.int (8 : Int32)), .val (.int (6 : Int32)), .val (.ref u5)] [(.ref u6)]))
              refine own_go (fun t k => XS.astore X146.here hx rfl (hb hby d_p3_5_17) rfl rfl (l' := #[.val (.int iv), .val (.ref uw), .val (.int (8 : Int32)), .val (.int (6 : Int32)), .val (.ref u6)]) rfl k) ?_
              show own_Go _ _ _ _ (T146.setTop (mkF m 19 #[.val (.int iv), .val (.ref uw), .val (.int (8 : Int32)), .val (.int (6 : Int32)), .val (.ref u6)] []))
              refine own_go (fun t k => XS.aload X146.here hx rfl (hb hby d_p3_5_19) rfl rfl k) ?_
              show own_Go _ _ _ _ (T146.setTop (mkF m 21 #[.val (.int iv), .val (.ref uw), .val (.int (8 : Int32)), .val (.int (6 : Int32)), .val (.ref u6)] [(.ref u6)]))
              obtain ⟨T149, X149, e149, st149⟩ := getS2 X146 hx hZ hown (host := "") (Or.inl (w_28 hw)) Via.refl e146 (S6_.ext (O0.keep K116q all0).2) (g := (mkF m 21 #[.val (.int iv), .val (.ref uw), .val (.int (8 : Int32)), .val (.int (6 : Int32)), .val (.ref u6)] [(.ref u6)])) rfl (hb hby d_p3_5_21)
              refine own_go st149 ?_
              show own_Go _ _ _ _ (T149.setTop (mkF m 24 #[.val (.int iv), .val (.ref uw), .val (.int (8 : Int32)), .val (.int (6 : Int32)), .val (.ref u6)] [(.ref u6), (.ref u6)]))
              refine own_go (fun t k => Jvm.RoadKit.acmp (g := (mkF m 24 #[.val (.int iv), .val (.ref uw), .val (.int (8 : Int32)), .val (.int (6 : Int32)), .val (.ref u6)] [(.ref u6), (.ref u6)])) X149 hx rfl rfl rfl (pc0 := 24) (pc' := 43) (same := true) rfl (hb hby d_p3_5_24) rfl (decide_eq_true rfl) (by decide) (by decide) k) ?_
              show own_Go _ _ _ _ (T149.setTop (mkF m 43 #[.val (.int iv), .val (.ref uw), .val (.int (8 : Int32)), .val (.int (6 : Int32)), .val (.ref u6)] []))
              refine own_go (fun t k => XS.iinc X149.here hx rfl (hb hby d_p3_5_43) rfl (l' := #[.val (.int iv), .val (.ref uw), .val (.int (8 : Int32)), .val (.int ((6 : Int32) + (1 : Int32))), .val (.ref u6)]) rfl k) ?_
              show own_Go _ _ _ _ (T149.setTop (mkF m 46 #[.val (.int iv), .val (.ref uw), .val (.int (8 : Int32)), .val (.int (7 : Int32)), .val (.ref u6)] []))
              refine own_go (fun t k => XS.goto X149.here hx rfl (pc0 := 46) (pc' := 9) rfl (hb hby d_p3_5_46) (by decide) (by decide) k) ?_
              show own_Go _ _ _ _ (T149.setTop (mkF m 9 #[.val (.int iv), .val (.ref uw), .val (.int (8 : Int32)), .val (.int (7 : Int32)), .val (.ref u6)] []))
              refine own_go (fun t k => XS.iloadN X149.here hx rfl (hb hby d_p3_5_9) rfl k) ?_
              show own_Go _ _ _ _ (T149.setTop (mkF m 10 #[.val (.int iv), .val (.ref uw), .val (.int (8 : Int32)), .val (.int (7 : Int32)), .val (.ref u6)] [(.int (7 : Int32))]))
              refine own_go (fun t k => XS.iloadN X149.here hx rfl (hb hby d_p3_5_10) rfl k) ?_
              show own_Go _ _ _ _ (T149.setTop (mkF m 11 #[.val (.int iv), .val (.ref uw), .val (.int (8 : Int32)), .val (.int (7 : Int32)), .val (.ref u6)] [(.int (8 : Int32)), (.int (7 : Int32))]))
              refine own_go (fun t k => XS.icmpNo X149.here hx rfl (hb hby d_p3_5_11) rfl (tlt (by decide : (7 : Int32) < (8 : Int32))).2.1 k) ?_
              show own_Go _ _ _ _ (T149.setTop (mkF m 14 #[.val (.int iv), .val (.ref uw), .val (.int (8 : Int32)), .val (.int (7 : Int32)), .val (.ref u6)] []))
              refine own_go (fun t k => XS.aloadN X149.here hx rfl (hb hby d_p3_5_14) rfl rfl k) ?_
              show own_Go _ _ _ _ (T149.setTop (mkF m 15 #[.val (.int iv), .val (.ref uw), .val (.int (8 : Int32)), .val (.int (7 : Int32)), .val (.ref u6)] [(.ref uw)]))
              refine own_go (fun t k => XS.iloadN X149.here hx rfl (hb hby d_p3_5_15) rfl k) ?_
              show own_Go _ _ _ _ (T149.setTop (mkF m 16 #[.val (.int iv), .val (.ref uw), .val (.int (8 : Int32)), .val (.int (7 : Int32)), .val (.ref u6)] [(.int (7 : Int32)), (.ref uw)]))
              obtain ⟨cl150, Ar150, qk150, sz150, nn150, ha150, gf150⟩ := id AV
              have hin150 : ¬ ((7 : Int32) < 0 ∨ cl150.slots.size ≤ ((7 : Int32)).toNatClampNeg) := inb_of sz150 ⟨by decide, by decide⟩
              have hat150 : cl150.slots[((7 : Int32)).toNatClampNeg]? = some (.ref u7) := ha150.at hin150 rfl
              refine own_go (X149.aaload hx (j := (7 : Int32)) (v := (.ref u7)) (by rw [e149]; exact Ar150.1) (State.isArrayOf_alike hZ.alike Ar150.2.1) rfl Ar150.2.2 hin150 hat150 (g := (mkF m 16 #[.val (.int iv), .val (.ref uw), .val (.int (8 : Int32)), .val (.int (7 : Int32)), .val (.ref u6)] [(.int (7 : Int32)), (.ref uw)])) rfl rfl (hb hby d_p3_5_16)) ?_
              show own_Go _ _ _ _ (T149.setTop (mkF m 17 #[.val (.int iv), .val (.ref uw), .val (.int (8 : Int32)), .val (.int (7 : Int32)), .val (.ref u6)] [(.ref u7)]))
              refine own_go (fun t k => XS.astore X149.here hx rfl (hb hby d_p3_5_17) rfl rfl (l' := #[.val (.int iv), .val (.ref uw), .val (.int (8 : Int32)), .val (.int (7 : Int32)), .val (.ref u7)]) rfl k) ?_
              show own_Go _ _ _ _ (T149.setTop (mkF m 19 #[.val (.int iv), .val (.ref uw), .val (.int (8 : Int32)), .val (.int (7 : Int32)), .val (.ref u7)] []))
              refine own_go (fun t k => XS.aload X149.here hx rfl (hb hby d_p3_5_19) rfl rfl k) ?_
              show own_Go _ _ _ _ (T149.setTop (mkF m 21 #[.val (.int iv), .val (.ref uw), .val (.int (8 : Int32)), .val (.int (7 : Int32)), .val (.ref u7)] [(.ref u7)]))
              obtain ⟨T151, X151, e151, st151⟩ := getS2 X149 hx hZ hown (host := "") (Or.inl (w_28 hw)) Via.refl e149 (S6_.ext (O0.keep K116q all0).2) (g := (mkF m 21 #[.val (.int iv), .val (.ref uw), .val (.int (8 : Int32)), .val (.int (7 : Int32)), .val (.ref u7)] [(.ref u7)])) rfl (hb hby d_p3_5_21)
              refine own_go st151 ?_
              show own_Go _ _ _ _ (T151.setTop (mkF m 24 #[.val (.int iv), .val (.ref uw), .val (.int (8 : Int32)), .val (.int (7 : Int32)), .val (.ref u7)] [(.ref u6), (.ref u7)]))
              refine own_go (fun t k => Jvm.RoadKit.acmp (g := (mkF m 24 #[.val (.int iv), .val (.ref uw), .val (.int (8 : Int32)), .val (.int (7 : Int32)), .val (.ref u7)] [(.ref u6), (.ref u7)])) X151 hx rfl rfl rfl (pc0 := 24) (pc' := 27) (same := false) rfl (hb hby d_p3_5_24) rfl (decide_eq_false fun q => nq7 (Value.ref.inj q)) (by decide) (by decide) k) ?_
              show own_Go _ _ _ _ (T151.setTop (mkF m 27 #[.val (.int iv), .val (.ref uw), .val (.int (8 : Int32)), .val (.int (7 : Int32)), .val (.ref u7)] []))
              refine own_go (fun t k => XS.aload X151.here hx rfl (hb hby d_p3_5_27) rfl rfl k) ?_
              show own_Go _ _ _ _ (T151.setTop (mkF m 29 #[.val (.int iv), .val (.ref uw), .val (.int (8 : Int32)), .val (.int (7 : Int32)), .val (.ref u7)] [(.ref u7)]))
              obtain ⟨T152, X152, e152, st152⟩ := getF X151 hx hZ hown (host := "") (Or.inl (w_29 hw)) Via.refl e151 (L7_.ext (O0.keep K116q all0).2) (g := (mkF m 29 #[.val (.int iv), .val (.ref uw), .val (.int (8 : Int32)), .val (.int (7 : Int32)), .val (.ref u7)] [(.ref u7)])) rfl rfl (hb hby d_p3_5_29)
              refine own_go st152 ?_
              show own_Go _ _ _ _ (T152.setTop (mkF m 32 #[.val (.int iv), .val (.ref uw), .val (.int (8 : Int32)), .val (.int (7 : Int32)), .val (.ref u7)] [(.ref s7_)]))
              refine own_go (fun t k => XS.iconst X152.here hx rfl (hb hby d_p3_5_32) k) ?_
              show own_Go _ _ _ _ (T152.setTop (mkF m 33 #[.val (.int iv), .val (.ref uw), .val (.int (8 : Int32)), .val (.int (7 : Int32)), .val (.ref u7)] [(.int (0 : Int32)), (.ref s7_)]))
              obtain ⟨cq153, kq153, q153a, q153b, q153c⟩ := isOf hZ e152 (Es7.ext (O0.keep K116q all0).2)
              obtain ⟨_, _, ⟨T153, L153, k153, n153⟩, -, X153, ⟨Lc153, hQ153, l153, y153, z153⟩, st153⟩ := X152.virtualBack hx (y := (⟨"java/lang/String", "charAt", "(I)C"⟩ : MethodName)) (z := (⟨"java/lang/String", "charAt", "(I)C"⟩ : MethodName)) hown (mvT hZ (w_31 hw)) (mvT hZ (w_32 hw)) (notFace_of_selects (args := #[]) (mvT hZ (w_34 hw))) (mvT hZ (w_34 hw)) (mvT hZ (w_33 hw)) (by decide) (backOf (W := 0) (rm_cat l Z a0 hw [] gv zv s7_ t7_ k7_ (121 : Int32) (121 : Int32) h116 n0 Z116 (O0.keep K116q all0) rgv G0 hzv S0 (Es7.ext (O0.keep K116q all0).2) (Cs7.ext (O0.keep K116q all0).2) (Vs7.ext (O0.keep K116q all0).2) (As7.ext (O0.keep K116q all0).2) (by decide) (by decide)) hZ (w_36 hw) (w_35 hw) (by decide) (by decide)) q153a q153c (g := (mkF m 33 #[.val (.int iv), .val (.ref uw), .val (.int (8 : Int32)), .val (.int (7 : Int32)), .val (.ref u7)] [(.int (0 : Int32)), (.ref s7_)])) rfl (by rw [hml]; rfl) (Steps.refl _) (argsL := [(.int (0 : Int32))]) (rest := []) (lenOf pd_5 rfl) rfl (by show 2 * 0 + _ ≤ _; exact Nat.le_of_eq rfl) (hb hby d_p3_5_33) (fun _ _ => ⟨rfl, e152, (by decide : 1 + 0 ≤ _), (by decide : 8 + 0 ≤ _)⟩)
              dsimp only [Pt.U, Pt.locs, Pt.cells, Pt.slots] at X153 l153 y153 z153 st153 hQ153
              subst l153 y153 z153
              obtain ⟨rfl, N153q, e153⟩ := hQ153
              have N153 := Fr.app N146 N153q
              refine own_go (fun t k => st153.trans k) ?_
              show own_Go _ _ _ _ (T153.setTop (mkF m 36 #[.val (.int iv), .val (.ref uw), .val (.int (8 : Int32)), .val (.int (7 : Int32)), .val (.ref u7)] [(.int (121 : Int32))]))
              refine own_go (fun t k => XS.iloadN X153.here hx rfl (hb hby d_p3_5_36) rfl k) ?_
              by_cases hc154 : (121 : Int32) = iv
              · show own_Go _ _ _ _ (T153.setTop (mkF m 37 #[.val (.int iv), .val (.ref uw), .val (.int (8 : Int32)), .val (.int (7 : Int32)), .val (.ref u7)] [(.int iv), (.int (121 : Int32))]))
                refine own_go (fun t k => XS.icmpNo X153.here hx rfl (hb hby d_p3_5_37) rfl (teq hc154).2 k) ?_
                show own_Go _ _ _ _ (T153.setTop (mkF m 40 #[.val (.int iv), .val (.ref uw), .val (.int (8 : Int32)), .val (.int (7 : Int32)), .val (.ref u7)] []))
                refine own_go (fun t k => XS.aload X153.here hx rfl (hb hby d_p3_5_40) rfl rfl k) ?_
                show own_Go _ _ _ _ (T153.setTop (mkF m 42 #[.val (.int iv), .val (.ref uw), .val (.int (8 : Int32)), .val (.int (7 : Int32)), .val (.ref u7)] [(.ref u7)]))
                refine own_ret X153 hx hlk hret rfl (Or.inr (Or.inr (Or.inr (Or.inr ⟨rfl, rfl, rfl⟩)))) (hb hby d_p3_5_42) ?_ (by decide) (by decide)
                rw [e153]
                exact ⟨by simp [own_of, hc122, hc127, hc132, hc137, hc142, hc147, hc154], N153, K116⟩
              · show own_Go _ _ _ _ (T153.setTop (mkF m 37 #[.val (.int iv), .val (.ref uw), .val (.int (8 : Int32)), .val (.int (7 : Int32)), .val (.ref u7)] [(.int iv), (.int (121 : Int32))]))
                refine own_go (fun t k => XS.icmpYes X153.here hx rfl (pc0 := 37) (pc' := 43) rfl (hb hby d_p3_5_37) rfl (feq hc154).2 (by decide) (by decide) k) ?_
                show own_Go _ _ _ _ (T153.setTop (mkF m 43 #[.val (.int iv), .val (.ref uw), .val (.int (8 : Int32)), .val (.int (7 : Int32)), .val (.ref u7)] []))
                refine own_go (fun t k => XS.iinc X153.here hx rfl (hb hby d_p3_5_43) rfl (l' := #[.val (.int iv), .val (.ref uw), .val (.int (8 : Int32)), .val (.int ((7 : Int32) + (1 : Int32))), .val (.ref u7)]) rfl k) ?_
                show own_Go _ _ _ _ (T153.setTop (mkF m 46 #[.val (.int iv), .val (.ref uw), .val (.int (8 : Int32)), .val (.int (8 : Int32)), .val (.ref u7)] []))
                refine own_go (fun t k => XS.goto X153.here hx rfl (pc0 := 46) (pc' := 9) rfl (hb hby d_p3_5_46) (by decide) (by decide) k) ?_
                show own_Go _ _ _ _ (T153.setTop (mkF m 9 #[.val (.int iv), .val (.ref uw), .val (.int (8 : Int32)), .val (.int (8 : Int32)), .val (.ref u7)] []))
                refine own_go (fun t k => XS.iloadN X153.here hx rfl (hb hby d_p3_5_9) rfl k) ?_
                show own_Go _ _ _ _ (T153.setTop (mkF m 10 #[.val (.int iv), .val (.ref uw), .val (.int (8 : Int32)), .val (.int (8 : Int32)), .val (.ref u7)] [(.int (8 : Int32))]))
                refine own_go (fun t k => XS.iloadN X153.here hx rfl (hb hby d_p3_5_10) rfl k) ?_
                show own_Go _ _ _ _ (T153.setTop (mkF m 11 #[.val (.int iv), .val (.ref uw), .val (.int (8 : Int32)), .val (.int (8 : Int32)), .val (.ref u7)] [(.int (8 : Int32)), (.int (8 : Int32))]))
                refine own_go (fun t k => XS.icmpYes X153.here hx rfl (pc0 := 11) (pc' := 49) rfl (hb hby d_p3_5_11) rfl (flt (by decide : ¬ ((8 : Int32) < (8 : Int32)))).2.1 (by decide) (by decide) k) ?_
                show own_Go _ _ _ _ (T153.setTop (mkF m 49 #[.val (.int iv), .val (.ref uw), .val (.int (8 : Int32)), .val (.int (8 : Int32)), .val (.ref u7)] []))
                refine own_go (fun t k => XS.iloadN X153.here hx rfl (hb hby d_p3_5_49) rfl k) ?_
                show own_Go _ _ _ _ (T153.setTop (mkF m 50 #[.val (.int iv), .val (.ref uw), .val (.int (8 : Int32)), .val (.int (8 : Int32)), .val (.ref u7)] [(.int iv)]))
                refine own_go (fun t k => XS.bipush X153.here hx rfl (hb hby d_p3_5_50) k) ?_
                by_cases hc155 : iv = (72 : Int32)
                · show own_Go _ _ _ _ (T153.setTop (mkF m 52 #[.val (.int iv), .val (.ref uw), .val (.int (8 : Int32)), .val (.int (8 : Int32)), .val (.ref u7)] [(.int (72 : Int32)), (.int iv)]))
                  refine own_go (fun t k => XS.icmpNo X153.here hx rfl (hb hby d_p3_5_52) rfl (teq hc155).2 k) ?_
                  show own_Go _ _ _ _ (T153.setTop (mkF m 55 #[.val (.int iv), .val (.ref uw), .val (.int (8 : Int32)), .val (.int (8 : Int32)), .val (.ref u7)] []))
                  obtain ⟨T156, X156, e156, st156⟩ := getS2 X153 hx hZ hown (host := "") (Or.inl (w_68 hw)) Via.refl e153 (S2_.ext (O0.keep K116q all0).2) (g := (mkF m 55 #[.val (.int iv), .val (.ref uw), .val (.int (8 : Int32)), .val (.int (8 : Int32)), .val (.ref u7)] [])) rfl (hb hby d_p3_5_55)
                  refine own_go st156 ?_
                  show own_Go _ _ _ _ (T156.setTop (mkF m 58 #[.val (.int iv), .val (.ref uw), .val (.int (8 : Int32)), .val (.int (8 : Int32)), .val (.ref u7)] [(.ref u2)]))
                  refine own_go (fun t k => XS.goto X156.here hx rfl (pc0 := 58) (pc' := 62) rfl (hb hby d_p3_5_58) (by decide) (by decide) k) ?_
                  show own_Go _ _ _ _ (T156.setTop (mkF m 62 #[.val (.int iv), .val (.ref uw), .val (.int (8 : Int32)), .val (.int (8 : Int32)), .val (.ref u7)] [(.ref u2)]))
                  refine own_ret X156 hx hlk hret rfl (Or.inr (Or.inr (Or.inr (Or.inr ⟨rfl, rfl, rfl⟩)))) (hb hby d_p3_5_62) ?_ (by decide) (by decide)
                  rw [e156]
                  exact ⟨by simp [own_of, hc122, hc127, hc132, hc137, hc142, hc147, hc154, hc155], N153, K116⟩
                · show own_Go _ _ _ _ (T153.setTop (mkF m 52 #[.val (.int iv), .val (.ref uw), .val (.int (8 : Int32)), .val (.int (8 : Int32)), .val (.ref u7)] [(.int (72 : Int32)), (.int iv)]))
                  refine own_go (fun t k => XS.icmpYes X153.here hx rfl (pc0 := 52) (pc' := 61) rfl (hb hby d_p3_5_52) rfl (feq hc155).2 (by decide) (by decide) k) ?_
                  show own_Go _ _ _ _ (T153.setTop (mkF m 61 #[.val (.int iv), .val (.ref uw), .val (.int (8 : Int32)), .val (.int (8 : Int32)), .val (.ref u7)] []))
                  refine own_go (fun t k => XS.aconstNull X153.here hx rfl (hb hby d_p3_5_61) k) ?_
                  show own_Go _ _ _ _ (T153.setTop (mkF m 62 #[.val (.int iv), .val (.ref uw), .val (.int (8 : Int32)), .val (.int (8 : Int32)), .val (.ref u7)] [.null]))
                  refine own_ret X153 hx hlk hret rfl (Or.inr (Or.inr (Or.inr (Or.inr ⟨rfl, rfl, rfl⟩)))) (hb hby d_p3_5_62) ?_ (by decide) (by decide)
                  rw [e153]
                  exact ⟨by simp [own_of, hc122, hc127, hc132, hc137, hc142, hc147, hc154, hc155], N153, K116⟩
def Q_exp (iv : Int32) (u0 u1 u2 u3 u4 u5 u6 u7 : Addr) (h0 : Heap) (n0 : Nat) (v : Option Value) (h : Heap) (L : List Loc) : Prop := v = some (own_exp iv u0 u1 u2 u3 u4 u5 u6 u7) ∧ Fr n0 L ∧ h = h0
theorem ef_exp (m : MethodId) (iv : Int32) : entryFrame m #[(.int iv)] 1 = mkF m 0 #[.val (.int iv)] [] := by first | (simp [entryFrame, mkF, argsToLocals, Value.category]; done) | rfl
theorem pn_4 : plainName "com/example/fathomsearch/fathomsearch/CalendarUnitOfLetterPinLaw" = true := by first | (simp [plainName, overriddenIn]; done) | decide +kernel
theorem d_3_0 : decode method_3_code 0 = .ok (.iload_n 0, 1) := by decide +kernel
theorem d_3_1 : decode method_3_code 1 = .ok (.bipush 121, 2) := by decide +kernel
theorem d_3_3 : decode method_3_code 3 = .ok (.if_icmp .ne 7, 3) := by decide +kernel
theorem w_63 {Z : State} {a0 : Array Value} (hw : ∀ d ∈ tables_1, d.before a0 Z = true) : (Jvm.Cond.fieldLink "com/example/fathomsearch/fathomsearch/CalendarUnitOfLetterPinLaw" (18 : Nat) "com/example/fathomsearch/fathomsearch/CalendarUnit" "YEAR" "Lcom/example/fathomsearch/fathomsearch/CalendarUnit;").before a0 Z = true := hw _ (List.mem_of_getElem? (i := 63) rfl)
theorem d_3_6 : decode method_3_code 6 = .ok (.getstatic 18, 3) := by decide +kernel
theorem d_3_9 : decode method_3_code 9 = .ok (.areturn, 1) := by decide +kernel
theorem d_3_10 : decode method_3_code 10 = .ok (.iload_n 0, 1) := by decide +kernel
theorem d_3_11 : decode method_3_code 11 = .ok (.bipush 77, 2) := by decide +kernel
theorem d_3_13 : decode method_3_code 13 = .ok (.if_icmp .ne 7, 3) := by decide +kernel
theorem w_66 {Z : State} {a0 : Array Value} (hw : ∀ d ∈ tables_1, d.before a0 Z = true) : (Jvm.Cond.fieldLink "com/example/fathomsearch/fathomsearch/CalendarUnitOfLetterPinLaw" (22 : Nat) "com/example/fathomsearch/fathomsearch/CalendarUnit" "MONTH" "Lcom/example/fathomsearch/fathomsearch/CalendarUnit;").before a0 Z = true := hw _ (List.mem_of_getElem? (i := 66) rfl)
theorem d_3_16 : decode method_3_code 16 = .ok (.getstatic 22, 3) := by decide +kernel
theorem d_3_19 : decode method_3_code 19 = .ok (.areturn, 1) := by decide +kernel
theorem d_3_20 : decode method_3_code 20 = .ok (.iload_n 0, 1) := by decide +kernel
theorem d_3_21 : decode method_3_code 21 = .ok (.bipush 119, 2) := by decide +kernel
theorem d_3_23 : decode method_3_code 23 = .ok (.if_icmp .ne 7, 3) := by decide +kernel
theorem w_64 {Z : State} {a0 : Array Value} (hw : ∀ d ∈ tables_1, d.before a0 Z = true) : (Jvm.Cond.fieldLink "com/example/fathomsearch/fathomsearch/CalendarUnitOfLetterPinLaw" (25 : Nat) "com/example/fathomsearch/fathomsearch/CalendarUnit" "WEEK" "Lcom/example/fathomsearch/fathomsearch/CalendarUnit;").before a0 Z = true := hw _ (List.mem_of_getElem? (i := 64) rfl)
theorem d_3_26 : decode method_3_code 26 = .ok (.getstatic 25, 3) := by decide +kernel
theorem d_3_29 : decode method_3_code 29 = .ok (.areturn, 1) := by decide +kernel
theorem d_3_30 : decode method_3_code 30 = .ok (.iload_n 0, 1) := by decide +kernel
theorem d_3_31 : decode method_3_code 31 = .ok (.bipush 100, 2) := by decide +kernel
theorem d_3_33 : decode method_3_code 33 = .ok (.if_icmp .ne 7, 3) := by decide +kernel
theorem w_65 {Z : State} {a0 : Array Value} (hw : ∀ d ∈ tables_1, d.before a0 Z = true) : (Jvm.Cond.fieldLink "com/example/fathomsearch/fathomsearch/CalendarUnitOfLetterPinLaw" (28 : Nat) "com/example/fathomsearch/fathomsearch/CalendarUnit" "DAY" "Lcom/example/fathomsearch/fathomsearch/CalendarUnit;").before a0 Z = true := hw _ (List.mem_of_getElem? (i := 65) rfl)
theorem d_3_36 : decode method_3_code 36 = .ok (.getstatic 28, 3) := by decide +kernel
theorem d_3_39 : decode method_3_code 39 = .ok (.areturn, 1) := by decide +kernel
theorem d_3_40 : decode method_3_code 40 = .ok (.iload_n 0, 1) := by decide +kernel
theorem d_3_41 : decode method_3_code 41 = .ok (.bipush 104, 2) := by decide +kernel
theorem d_3_43 : decode method_3_code 43 = .ok (.if_icmp .eq 9, 3) := by decide +kernel
theorem w_69 {Z : State} {a0 : Array Value} (hw : ∀ d ∈ tables_1, d.before a0 Z = true) : (Jvm.Cond.fieldLink "com/example/fathomsearch/fathomsearch/CalendarUnitOfLetterPinLaw" (31 : Nat) "com/example/fathomsearch/fathomsearch/CalendarUnit" "HOUR" "Lcom/example/fathomsearch/fathomsearch/CalendarUnit;").before a0 Z = true := hw _ (List.mem_of_getElem? (i := 69) rfl)
theorem d_3_52 : decode method_3_code 52 = .ok (.getstatic 31, 3) := by decide +kernel
theorem d_3_55 : decode method_3_code 55 = .ok (.areturn, 1) := by decide +kernel
theorem d_3_46 : decode method_3_code 46 = .ok (.iload_n 0, 1) := by decide +kernel
theorem d_3_47 : decode method_3_code 47 = .ok (.bipush 72, 2) := by decide +kernel
theorem d_3_49 : decode method_3_code 49 = .ok (.if_icmp .ne 7, 3) := by decide +kernel
theorem d_3_56 : decode method_3_code 56 = .ok (.iload_n 0, 1) := by decide +kernel
theorem d_3_57 : decode method_3_code 57 = .ok (.bipush 109, 2) := by decide +kernel
theorem d_3_59 : decode method_3_code 59 = .ok (.if_icmp .ne 7, 3) := by decide +kernel
theorem w_67 {Z : State} {a0 : Array Value} (hw : ∀ d ∈ tables_1, d.before a0 Z = true) : (Jvm.Cond.fieldLink "com/example/fathomsearch/fathomsearch/CalendarUnitOfLetterPinLaw" (34 : Nat) "com/example/fathomsearch/fathomsearch/CalendarUnit" "MINUTE" "Lcom/example/fathomsearch/fathomsearch/CalendarUnit;").before a0 Z = true := hw _ (List.mem_of_getElem? (i := 67) rfl)
theorem d_3_62 : decode method_3_code 62 = .ok (.getstatic 34, 3) := by decide +kernel
theorem d_3_65 : decode method_3_code 65 = .ok (.areturn, 1) := by decide +kernel
theorem d_3_66 : decode method_3_code 66 = .ok (.iload_n 0, 1) := by decide +kernel
theorem d_3_67 : decode method_3_code 67 = .ok (.bipush 115, 2) := by decide +kernel
theorem d_3_69 : decode method_3_code 69 = .ok (.if_icmp .ne 7, 3) := by decide +kernel
theorem w_70 {Z : State} {a0 : Array Value} (hw : ∀ d ∈ tables_1, d.before a0 Z = true) : (Jvm.Cond.fieldLink "com/example/fathomsearch/fathomsearch/CalendarUnitOfLetterPinLaw" (37 : Nat) "com/example/fathomsearch/fathomsearch/CalendarUnit" "SECOND" "Lcom/example/fathomsearch/fathomsearch/CalendarUnit;").before a0 Z = true := hw _ (List.mem_of_getElem? (i := 70) rfl)
theorem d_3_72 : decode method_3_code 72 = .ok (.getstatic 37, 3) := by decide +kernel
theorem d_3_75 : decode method_3_code 75 = .ok (.areturn, 1) := by decide +kernel
theorem d_3_76 : decode method_3_code 76 = .ok (.aconst_null, 1) := by decide +kernel
theorem d_3_77 : decode method_3_code 77 = .ok (.areturn, 1) := by decide +kernel
set_option maxRecDepth 65536 in
set_option maxHeartbeats 40000000 in
theorem rm_exp (l : Launch) (Z : State) (a0 : Array Value) (hw : ∀ d ∈ tables_1, d.before a0 Z = true) (ws : List Jvm.Cond) (iv : Int32) (u0 u1 u2 u3 u4 u5 u6 u7 : Addr) (h0 : Heap) (n0 : Nat) (Z0 : n0 ≤ h0.size) (O0 : Old Z n0 h0) (S0_ : Sta Z Z.heap "com/example/fathomsearch/fathomsearch/CalendarUnit" "SECOND" "Lcom/example/fathomsearch/fathomsearch/CalendarUnit;" (.ref u0)) (S1_ : Sta Z Z.heap "com/example/fathomsearch/fathomsearch/CalendarUnit" "MINUTE" "Lcom/example/fathomsearch/fathomsearch/CalendarUnit;" (.ref u1)) (S2_ : Sta Z Z.heap "com/example/fathomsearch/fathomsearch/CalendarUnit" "HOUR" "Lcom/example/fathomsearch/fathomsearch/CalendarUnit;" (.ref u2)) (S3_ : Sta Z Z.heap "com/example/fathomsearch/fathomsearch/CalendarUnit" "DAY" "Lcom/example/fathomsearch/fathomsearch/CalendarUnit;" (.ref u3)) (S4_ : Sta Z Z.heap "com/example/fathomsearch/fathomsearch/CalendarUnit" "WEEK" "Lcom/example/fathomsearch/fathomsearch/CalendarUnit;" (.ref u4)) (S5_ : Sta Z Z.heap "com/example/fathomsearch/fathomsearch/CalendarUnit" "MONTH" "Lcom/example/fathomsearch/fathomsearch/CalendarUnit;" (.ref u5)) (S7_ : Sta Z Z.heap "com/example/fathomsearch/fathomsearch/CalendarUnit" "YEAR" "Lcom/example/fathomsearch/fathomsearch/CalendarUnit;" (.ref u7)) :
    own_Met l Z (⟨"com/example/fathomsearch/fathomsearch/CalendarUnitOfLetterPinLaw", "expected", "(C)Lcom/example/fathomsearch/fathomsearch/CalendarUnit;"⟩ : MethodName) method_3_code 1 (some (.object "com/example/fathomsearch/fathomsearch/CalendarUnit")) ws ({ frames := 0, cells := 0, slots := 0, locals := 0 } : Room) #[(.int iv)] h0 (Q_exp iv u0 u1 u2 u3 u4 u5 u6 u7 h0 n0) := by
  refine own_enter (own := "com/example/fathomsearch/fathomsearch/CalendarUnitOfLetterPinLaw") (plainFor_of_name pn_4) rfl ?_
  intro p e s m below meth c s₁ hlk hret hx hby hml hown hnm hZ X0 e0
  have N0 := Fr.nil n0
  refine own_cast (ef_exp m iv) ?_
  show own_Go _ _ _ _ (s₁.setTop (mkF m 0 #[.val (.int iv)] []))
  refine own_go (fun t k => XS.iloadN X0.here hx rfl (hb hby d_3_0) rfl k) ?_
  show own_Go _ _ _ _ (s₁.setTop (mkF m 1 #[.val (.int iv)] [(.int iv)]))
  refine own_go (fun t k => XS.bipush X0.here hx rfl (hb hby d_3_1) k) ?_
  by_cases hc157 : iv = (121 : Int32)
  · show own_Go _ _ _ _ (s₁.setTop (mkF m 3 #[.val (.int iv)] [(.int (121 : Int32)), (.int iv)]))
    refine own_go (fun t k => XS.icmpNo X0.here hx rfl (hb hby d_3_3) rfl (teq hc157).2 k) ?_
    show own_Go _ _ _ _ (s₁.setTop (mkF m 6 #[.val (.int iv)] []))
    obtain ⟨T158, X158, e158, st158⟩ := getS2 X0 hx hZ hown (host := "") (Or.inl (w_63 hw)) Via.refl e0 (S7_.ext O0.2) (g := (mkF m 6 #[.val (.int iv)] [])) rfl (hb hby d_3_6)
    refine own_go st158 ?_
    show own_Go _ _ _ _ (T158.setTop (mkF m 9 #[.val (.int iv)] [(.ref u7)]))
    refine own_ret X158 hx hlk hret rfl (Or.inr (Or.inr (Or.inr (Or.inr ⟨rfl, rfl, rfl⟩)))) (hb hby d_3_9) ?_ (by decide) (by decide)
    rw [e158]
    exact ⟨by simp [own_exp, hc157], N0, rfl⟩
  · show own_Go _ _ _ _ (s₁.setTop (mkF m 3 #[.val (.int iv)] [(.int (121 : Int32)), (.int iv)]))
    refine own_go (fun t k => XS.icmpYes X0.here hx rfl (pc0 := 3) (pc' := 10) rfl (hb hby d_3_3) rfl (feq hc157).2 (by decide) (by decide) k) ?_
    show own_Go _ _ _ _ (s₁.setTop (mkF m 10 #[.val (.int iv)] []))
    refine own_go (fun t k => XS.iloadN X0.here hx rfl (hb hby d_3_10) rfl k) ?_
    show own_Go _ _ _ _ (s₁.setTop (mkF m 11 #[.val (.int iv)] [(.int iv)]))
    refine own_go (fun t k => XS.bipush X0.here hx rfl (hb hby d_3_11) k) ?_
    by_cases hc159 : iv = (77 : Int32)
    · show own_Go _ _ _ _ (s₁.setTop (mkF m 13 #[.val (.int iv)] [(.int (77 : Int32)), (.int iv)]))
      refine own_go (fun t k => XS.icmpNo X0.here hx rfl (hb hby d_3_13) rfl (teq hc159).2 k) ?_
      show own_Go _ _ _ _ (s₁.setTop (mkF m 16 #[.val (.int iv)] []))
      obtain ⟨T160, X160, e160, st160⟩ := getS2 X0 hx hZ hown (host := "") (Or.inl (w_66 hw)) Via.refl e0 (S5_.ext O0.2) (g := (mkF m 16 #[.val (.int iv)] [])) rfl (hb hby d_3_16)
      refine own_go st160 ?_
      show own_Go _ _ _ _ (T160.setTop (mkF m 19 #[.val (.int iv)] [(.ref u5)]))
      refine own_ret X160 hx hlk hret rfl (Or.inr (Or.inr (Or.inr (Or.inr ⟨rfl, rfl, rfl⟩)))) (hb hby d_3_19) ?_ (by decide) (by decide)
      rw [e160]
      exact ⟨by simp [own_exp, hc157, hc159], N0, rfl⟩
    · show own_Go _ _ _ _ (s₁.setTop (mkF m 13 #[.val (.int iv)] [(.int (77 : Int32)), (.int iv)]))
      refine own_go (fun t k => XS.icmpYes X0.here hx rfl (pc0 := 13) (pc' := 20) rfl (hb hby d_3_13) rfl (feq hc159).2 (by decide) (by decide) k) ?_
      show own_Go _ _ _ _ (s₁.setTop (mkF m 20 #[.val (.int iv)] []))
      refine own_go (fun t k => XS.iloadN X0.here hx rfl (hb hby d_3_20) rfl k) ?_
      show own_Go _ _ _ _ (s₁.setTop (mkF m 21 #[.val (.int iv)] [(.int iv)]))
      refine own_go (fun t k => XS.bipush X0.here hx rfl (hb hby d_3_21) k) ?_
      by_cases hc161 : iv = (119 : Int32)
      · show own_Go _ _ _ _ (s₁.setTop (mkF m 23 #[.val (.int iv)] [(.int (119 : Int32)), (.int iv)]))
        refine own_go (fun t k => XS.icmpNo X0.here hx rfl (hb hby d_3_23) rfl (teq hc161).2 k) ?_
        show own_Go _ _ _ _ (s₁.setTop (mkF m 26 #[.val (.int iv)] []))
        obtain ⟨T162, X162, e162, st162⟩ := getS2 X0 hx hZ hown (host := "") (Or.inl (w_64 hw)) Via.refl e0 (S4_.ext O0.2) (g := (mkF m 26 #[.val (.int iv)] [])) rfl (hb hby d_3_26)
        refine own_go st162 ?_
        show own_Go _ _ _ _ (T162.setTop (mkF m 29 #[.val (.int iv)] [(.ref u4)]))
        refine own_ret X162 hx hlk hret rfl (Or.inr (Or.inr (Or.inr (Or.inr ⟨rfl, rfl, rfl⟩)))) (hb hby d_3_29) ?_ (by decide) (by decide)
        rw [e162]
        exact ⟨by simp [own_exp, hc157, hc159, hc161], N0, rfl⟩
      · show own_Go _ _ _ _ (s₁.setTop (mkF m 23 #[.val (.int iv)] [(.int (119 : Int32)), (.int iv)]))
        refine own_go (fun t k => XS.icmpYes X0.here hx rfl (pc0 := 23) (pc' := 30) rfl (hb hby d_3_23) rfl (feq hc161).2 (by decide) (by decide) k) ?_
        show own_Go _ _ _ _ (s₁.setTop (mkF m 30 #[.val (.int iv)] []))
        refine own_go (fun t k => XS.iloadN X0.here hx rfl (hb hby d_3_30) rfl k) ?_
        show own_Go _ _ _ _ (s₁.setTop (mkF m 31 #[.val (.int iv)] [(.int iv)]))
        refine own_go (fun t k => XS.bipush X0.here hx rfl (hb hby d_3_31) k) ?_
        by_cases hc163 : iv = (100 : Int32)
        · show own_Go _ _ _ _ (s₁.setTop (mkF m 33 #[.val (.int iv)] [(.int (100 : Int32)), (.int iv)]))
          refine own_go (fun t k => XS.icmpNo X0.here hx rfl (hb hby d_3_33) rfl (teq hc163).2 k) ?_
          show own_Go _ _ _ _ (s₁.setTop (mkF m 36 #[.val (.int iv)] []))
          obtain ⟨T164, X164, e164, st164⟩ := getS2 X0 hx hZ hown (host := "") (Or.inl (w_65 hw)) Via.refl e0 (S3_.ext O0.2) (g := (mkF m 36 #[.val (.int iv)] [])) rfl (hb hby d_3_36)
          refine own_go st164 ?_
          show own_Go _ _ _ _ (T164.setTop (mkF m 39 #[.val (.int iv)] [(.ref u3)]))
          refine own_ret X164 hx hlk hret rfl (Or.inr (Or.inr (Or.inr (Or.inr ⟨rfl, rfl, rfl⟩)))) (hb hby d_3_39) ?_ (by decide) (by decide)
          rw [e164]
          exact ⟨by simp [own_exp, hc157, hc159, hc161, hc163], N0, rfl⟩
        · show own_Go _ _ _ _ (s₁.setTop (mkF m 33 #[.val (.int iv)] [(.int (100 : Int32)), (.int iv)]))
          refine own_go (fun t k => XS.icmpYes X0.here hx rfl (pc0 := 33) (pc' := 40) rfl (hb hby d_3_33) rfl (feq hc163).2 (by decide) (by decide) k) ?_
          show own_Go _ _ _ _ (s₁.setTop (mkF m 40 #[.val (.int iv)] []))
          refine own_go (fun t k => XS.iloadN X0.here hx rfl (hb hby d_3_40) rfl k) ?_
          show own_Go _ _ _ _ (s₁.setTop (mkF m 41 #[.val (.int iv)] [(.int iv)]))
          refine own_go (fun t k => XS.bipush X0.here hx rfl (hb hby d_3_41) k) ?_
          by_cases hc165 : iv = (104 : Int32)
          · show own_Go _ _ _ _ (s₁.setTop (mkF m 43 #[.val (.int iv)] [(.int (104 : Int32)), (.int iv)]))
            refine own_go (fun t k => XS.icmpYes X0.here hx rfl (pc0 := 43) (pc' := 52) rfl (hb hby d_3_43) rfl (teq hc165).1 (by decide) (by decide) k) ?_
            show own_Go _ _ _ _ (s₁.setTop (mkF m 52 #[.val (.int iv)] []))
            obtain ⟨T166, X166, e166, st166⟩ := getS2 X0 hx hZ hown (host := "") (Or.inl (w_69 hw)) Via.refl e0 (S2_.ext O0.2) (g := (mkF m 52 #[.val (.int iv)] [])) rfl (hb hby d_3_52)
            refine own_go st166 ?_
            show own_Go _ _ _ _ (T166.setTop (mkF m 55 #[.val (.int iv)] [(.ref u2)]))
            refine own_ret X166 hx hlk hret rfl (Or.inr (Or.inr (Or.inr (Or.inr ⟨rfl, rfl, rfl⟩)))) (hb hby d_3_55) ?_ (by decide) (by decide)
            rw [e166]
            exact ⟨by simp [own_exp, hc157, hc159, hc161, hc163, hc165], N0, rfl⟩
          · show own_Go _ _ _ _ (s₁.setTop (mkF m 43 #[.val (.int iv)] [(.int (104 : Int32)), (.int iv)]))
            refine own_go (fun t k => XS.icmpNo X0.here hx rfl (hb hby d_3_43) rfl (feq hc165).1 k) ?_
            show own_Go _ _ _ _ (s₁.setTop (mkF m 46 #[.val (.int iv)] []))
            refine own_go (fun t k => XS.iloadN X0.here hx rfl (hb hby d_3_46) rfl k) ?_
            show own_Go _ _ _ _ (s₁.setTop (mkF m 47 #[.val (.int iv)] [(.int iv)]))
            refine own_go (fun t k => XS.bipush X0.here hx rfl (hb hby d_3_47) k) ?_
            by_cases hc167 : iv = (72 : Int32)
            · show own_Go _ _ _ _ (s₁.setTop (mkF m 49 #[.val (.int iv)] [(.int (72 : Int32)), (.int iv)]))
              refine own_go (fun t k => XS.icmpNo X0.here hx rfl (hb hby d_3_49) rfl (teq hc167).2 k) ?_
              show own_Go _ _ _ _ (s₁.setTop (mkF m 52 #[.val (.int iv)] []))
              obtain ⟨T168, X168, e168, st168⟩ := getS2 X0 hx hZ hown (host := "") (Or.inl (w_69 hw)) Via.refl e0 (S2_.ext O0.2) (g := (mkF m 52 #[.val (.int iv)] [])) rfl (hb hby d_3_52)
              refine own_go st168 ?_
              show own_Go _ _ _ _ (T168.setTop (mkF m 55 #[.val (.int iv)] [(.ref u2)]))
              refine own_ret X168 hx hlk hret rfl (Or.inr (Or.inr (Or.inr (Or.inr ⟨rfl, rfl, rfl⟩)))) (hb hby d_3_55) ?_ (by decide) (by decide)
              rw [e168]
              exact ⟨by simp [own_exp, hc157, hc159, hc161, hc163, hc165, hc167], N0, rfl⟩
            · show own_Go _ _ _ _ (s₁.setTop (mkF m 49 #[.val (.int iv)] [(.int (72 : Int32)), (.int iv)]))
              refine own_go (fun t k => XS.icmpYes X0.here hx rfl (pc0 := 49) (pc' := 56) rfl (hb hby d_3_49) rfl (feq hc167).2 (by decide) (by decide) k) ?_
              show own_Go _ _ _ _ (s₁.setTop (mkF m 56 #[.val (.int iv)] []))
              refine own_go (fun t k => XS.iloadN X0.here hx rfl (hb hby d_3_56) rfl k) ?_
              show own_Go _ _ _ _ (s₁.setTop (mkF m 57 #[.val (.int iv)] [(.int iv)]))
              refine own_go (fun t k => XS.bipush X0.here hx rfl (hb hby d_3_57) k) ?_
              by_cases hc169 : iv = (109 : Int32)
              · show own_Go _ _ _ _ (s₁.setTop (mkF m 59 #[.val (.int iv)] [(.int (109 : Int32)), (.int iv)]))
                refine own_go (fun t k => XS.icmpNo X0.here hx rfl (hb hby d_3_59) rfl (teq hc169).2 k) ?_
                show own_Go _ _ _ _ (s₁.setTop (mkF m 62 #[.val (.int iv)] []))
                obtain ⟨T170, X170, e170, st170⟩ := getS2 X0 hx hZ hown (host := "") (Or.inl (w_67 hw)) Via.refl e0 (S1_.ext O0.2) (g := (mkF m 62 #[.val (.int iv)] [])) rfl (hb hby d_3_62)
                refine own_go st170 ?_
                show own_Go _ _ _ _ (T170.setTop (mkF m 65 #[.val (.int iv)] [(.ref u1)]))
                refine own_ret X170 hx hlk hret rfl (Or.inr (Or.inr (Or.inr (Or.inr ⟨rfl, rfl, rfl⟩)))) (hb hby d_3_65) ?_ (by decide) (by decide)
                rw [e170]
                exact ⟨by simp [own_exp, hc157, hc159, hc161, hc163, hc165, hc167, hc169], N0, rfl⟩
              · show own_Go _ _ _ _ (s₁.setTop (mkF m 59 #[.val (.int iv)] [(.int (109 : Int32)), (.int iv)]))
                refine own_go (fun t k => XS.icmpYes X0.here hx rfl (pc0 := 59) (pc' := 66) rfl (hb hby d_3_59) rfl (feq hc169).2 (by decide) (by decide) k) ?_
                show own_Go _ _ _ _ (s₁.setTop (mkF m 66 #[.val (.int iv)] []))
                refine own_go (fun t k => XS.iloadN X0.here hx rfl (hb hby d_3_66) rfl k) ?_
                show own_Go _ _ _ _ (s₁.setTop (mkF m 67 #[.val (.int iv)] [(.int iv)]))
                refine own_go (fun t k => XS.bipush X0.here hx rfl (hb hby d_3_67) k) ?_
                by_cases hc171 : iv = (115 : Int32)
                · show own_Go _ _ _ _ (s₁.setTop (mkF m 69 #[.val (.int iv)] [(.int (115 : Int32)), (.int iv)]))
                  refine own_go (fun t k => XS.icmpNo X0.here hx rfl (hb hby d_3_69) rfl (teq hc171).2 k) ?_
                  show own_Go _ _ _ _ (s₁.setTop (mkF m 72 #[.val (.int iv)] []))
                  obtain ⟨T172, X172, e172, st172⟩ := getS2 X0 hx hZ hown (host := "") (Or.inl (w_70 hw)) Via.refl e0 (S0_.ext O0.2) (g := (mkF m 72 #[.val (.int iv)] [])) rfl (hb hby d_3_72)
                  refine own_go st172 ?_
                  show own_Go _ _ _ _ (T172.setTop (mkF m 75 #[.val (.int iv)] [(.ref u0)]))
                  refine own_ret X172 hx hlk hret rfl (Or.inr (Or.inr (Or.inr (Or.inr ⟨rfl, rfl, rfl⟩)))) (hb hby d_3_75) ?_ (by decide) (by decide)
                  rw [e172]
                  exact ⟨by simp [own_exp, hc157, hc159, hc161, hc163, hc165, hc167, hc169, hc171], N0, rfl⟩
                · show own_Go _ _ _ _ (s₁.setTop (mkF m 69 #[.val (.int iv)] [(.int (115 : Int32)), (.int iv)]))
                  refine own_go (fun t k => XS.icmpYes X0.here hx rfl (pc0 := 69) (pc' := 76) rfl (hb hby d_3_69) rfl (feq hc171).2 (by decide) (by decide) k) ?_
                  show own_Go _ _ _ _ (s₁.setTop (mkF m 76 #[.val (.int iv)] []))
                  refine own_go (fun t k => XS.aconstNull X0.here hx rfl (hb hby d_3_76) k) ?_
                  show own_Go _ _ _ _ (s₁.setTop (mkF m 77 #[.val (.int iv)] [.null]))
                  refine own_ret X0 hx hlk hret rfl (Or.inr (Or.inr (Or.inr (Or.inr ⟨rfl, rfl, rfl⟩)))) (hb hby d_3_77) ?_ (by decide) (by decide)
                  rw [e0]
                  exact ⟨by simp [own_exp, hc157, hc159, hc161, hc163, hc165, hc167, hc169, hc171], N0, rfl⟩
theorem own_st3 {a b c o : Slot} {v : Value} (h : One o) (hv : v.category = 1 := by rfl) : storeLocals #[a, b, c, o] 3 v = some #[a, b, c, .val v] := by
  rcases h with rfl | ⟨w, rfl, hw⟩
  · cases v <;> first | rfl | exact absurd (show (2 : Nat) = 1 from hv) (by decide)
  · cases w <;> cases v <;> first | rfl | exact absurd (show (2 : Nat) = 1 from hv) (by decide) | exact absurd (show (2 : Nat) = 1 from hw) (by decide)
theorem own_sixteen (x : Int32) : x &&& 15 = 0 ∨ x &&& 15 = 1 ∨ x &&& 15 = 2 ∨ x &&& 15 = 3 ∨ x &&& 15 = 4 ∨ x &&& 15 = 5 ∨ x &&& 15 = 6 ∨ x &&& 15 = 7 ∨ x &&& 15 = 8 ∨ x &&& 15 = 9 ∨ x &&& 15 = 10 ∨ x &&& 15 = 11 ∨ x &&& 15 = 12 ∨ x &&& 15 = 13 ∨ x &&& 15 = 14 ∨ x &&& 15 = 15 := by
  have h1 : (x &&& 15).toInt = x.toInt % 2 ^ 4 := Jvm.Kit.i32_mask x 15 (k := 4) (by decide) (by decide)
  generalize (x &&& 15) = k at h1 ⊢
  have h4 : 0 ≤ k.toInt ∧ k.toInt ≤ 15 := by omega
  have h5 : k = Int32.ofInt k.toInt := (Int32.ofInt_toInt k).symm
  have h6 : k.toInt = 0 ∨ k.toInt = 1 ∨ k.toInt = 2 ∨ k.toInt = 3 ∨ k.toInt = 4 ∨ k.toInt = 5 ∨ k.toInt = 6 ∨ k.toInt = 7 ∨ k.toInt = 8 ∨ k.toInt = 9 ∨ k.toInt = 10 ∨ k.toInt = 11 ∨ k.toInt = 12 ∨ k.toInt = 13 ∨ k.toInt = 14 ∨ k.toInt = 15 := by omega
  rcases h6 with h | h | h | h | h | h | h | h | h | h | h | h | h | h | h | h <;> rw [h] at h5 <;> subst h5 <;> decide
def Q_law (n0 : Nat) (v : Option Value) (h : Heap) (L : List Loc) : Prop := v = some (.int 1) ∧ Fr n0 L
theorem w_1 {Z : State} {a0 : Array Value} (hw : ∀ d ∈ tables_1, d.before a0 Z = true) : (Jvm.Cond.methodLink "com/example/fathomsearch/fathomsearch/CalendarUnitOfLetterPinLaw" (7 : Nat) ({ cls := "com/example/fathomsearch/fathomsearch/CalendarUnit", name := "ofLetter", desc := "(C)Lcom/example/fathomsearch/fathomsearch/CalendarUnit;" } : Jvm.MethodName)).before a0 Z = true := hw _ (List.mem_of_getElem? (i := 1) rfl)
theorem w_4 {Z : State} {a0 : Array Value} (hw : ∀ d ∈ tables_1, d.before a0 Z = true) : (Jvm.Cond.code ({ cls := "com/example/fathomsearch/fathomsearch/CalendarUnit", name := "ofLetter", desc := "(C)Lcom/example/fathomsearch/fathomsearch/CalendarUnit;" } : Jvm.MethodName) prog_3_method_5_code (5 : Nat) (Option.some (Jvm.ClassFile.FieldType.object "com/example/fathomsearch/fathomsearch/CalendarUnit"))).before a0 Z = true := hw _ (List.mem_of_getElem? (i := 4) rfl)
theorem pd_6 : parseMethodDescriptor "(C)Lcom/example/fathomsearch/fathomsearch/CalendarUnit;" = some ⟨[.char], some (.object "com/example/fathomsearch/fathomsearch/CalendarUnit")⟩ := by decide +kernel
theorem w_2 {Z : State} {a0 : Array Value} (hw : ∀ d ∈ tables_1, d.before a0 Z = true) : (Jvm.Cond.static ({ cls := "com/example/fathomsearch/fathomsearch/CalendarUnit", name := "ofLetter", desc := "(C)Lcom/example/fathomsearch/fathomsearch/CalendarUnit;" } : Jvm.MethodName)).before a0 Z = true := hw _ (List.mem_of_getElem? (i := 2) rfl)
theorem w_59 {Z : State} {a0 : Array Value} (hw : ∀ d ∈ tables_1, d.before a0 Z = true) : (Jvm.Cond.methodLink "com/example/fathomsearch/fathomsearch/CalendarUnitOfLetterPinLaw" (13 : Nat) ({ cls := "com/example/fathomsearch/fathomsearch/CalendarUnitOfLetterPinLaw", name := "expected", desc := "(C)Lcom/example/fathomsearch/fathomsearch/CalendarUnit;" } : Jvm.MethodName)).before a0 Z = true := hw _ (List.mem_of_getElem? (i := 59) rfl)
theorem w_62 {Z : State} {a0 : Array Value} (hw : ∀ d ∈ tables_1, d.before a0 Z = true) : (Jvm.Cond.code ({ cls := "com/example/fathomsearch/fathomsearch/CalendarUnitOfLetterPinLaw", name := "expected", desc := "(C)Lcom/example/fathomsearch/fathomsearch/CalendarUnit;" } : Jvm.MethodName) method_3_code (1 : Nat) (Option.some (Jvm.ClassFile.FieldType.object "com/example/fathomsearch/fathomsearch/CalendarUnit"))).before a0 Z = true := hw _ (List.mem_of_getElem? (i := 62) rfl)
theorem w_61 {Z : State} {a0 : Array Value} (hw : ∀ d ∈ tables_1, d.before a0 Z = true) : (Jvm.Cond.initialized "com/example/fathomsearch/fathomsearch/CalendarUnitOfLetterPinLaw").before a0 Z = true := hw _ (List.mem_of_getElem? (i := 61) rfl)
theorem w_60 {Z : State} {a0 : Array Value} (hw : ∀ d ∈ tables_1, d.before a0 Z = true) : (Jvm.Cond.static ({ cls := "com/example/fathomsearch/fathomsearch/CalendarUnitOfLetterPinLaw", name := "expected", desc := "(C)Lcom/example/fathomsearch/fathomsearch/CalendarUnit;" } : Jvm.MethodName)).before a0 Z = true := hw _ (List.mem_of_getElem? (i := 60) rfl)
set_option maxRecDepth 65536 in
set_option maxHeartbeats 40000000 in
theorem sg_tail {p : Program} {l : Launch} {e : Env} {s : State} {m : MethodId} {args : Array Value} {below : List Frame} {meth : Method} {c : Code} {T0 : State} {locs : List Loc} {cells slots : Nat} {Z : State} {a0 : Array Value} (hw : ∀ d ∈ tables_1, d.before a0 Z = true) {q0_ q1_ q3_ : Slot} {h0 : Heap} {n0 : Nat} (X0 : Stand p l e room_1 s m args below meth c T0 locs cells slots) (hlk : meth.locks = false) (hret : meth.sig.returnType = ret) (hx : p.tables.exec = Jvm.exec) (hby : c.code = code) (hml : c.maxLocals = maxLocals) (hown : s.vm.findClass "com/example/fathomsearch/fathomsearch/CalendarUnitOfLetterPinLaw" = some m.cls) (hZ : Z.Warmed39 s.vm) (e0 : T0.heap = h0) (N0 : Fr n0 locs) (Z0 : n0 ≤ h0.size)
    (iv : Int32) (gv : Value) (zv : Int32) (uv : Addr) (kv : ClassId) (u0 u1 u2 u3 u4 u5 u6 u7 s0_ s1_ s2_ s3_ s4_ s5_ s7_ t0_ t1_ t2_ t3_ t4_ t5_ t7_ : Addr) (k0_ k1_ k2_ k3_ k4_ k5_ k7_ : ClassId) (hs3 : One q3_) (O0 : Old Z n0 h0) (rgv : gv.isRef = true) (G0 : Sta Z Z.heap "jdk/internal/util/Preconditions" "SIOOBE_FORMATTER" "Ljava/util/function/BiFunction;" gv) (hzv : ¬ zv = (0 : Int32)) (S0 : Sta Z Z.heap "java/lang/String" "COMPACT_STRINGS" "Z" (.int zv)) (S_V : Sta Z Z.heap "com/example/fathomsearch/fathomsearch/CalendarUnit" "$VALUES" "[Lcom/example/fathomsearch/fathomsearch/CalendarUnit;" (.ref uv)) (A_V : Arv Z Z.heap uv kv (.object "com/example/fathomsearch/fathomsearch/CalendarUnit") (8 : Int32) [(.ref u0), (.ref u1), (.ref u2), (.ref u3), (.ref u4), (.ref u5), (.ref u6), (.ref u7)] .null) (E_V : Exa Z Z.heap uv "[Lcom/example/fathomsearch/fathomsearch/CalendarUnit;") (S0_ : Sta Z Z.heap "com/example/fathomsearch/fathomsearch/CalendarUnit" "SECOND" "Lcom/example/fathomsearch/fathomsearch/CalendarUnit;" (.ref u0)) (S1_ : Sta Z Z.heap "com/example/fathomsearch/fathomsearch/CalendarUnit" "MINUTE" "Lcom/example/fathomsearch/fathomsearch/CalendarUnit;" (.ref u1)) (S2_ : Sta Z Z.heap "com/example/fathomsearch/fathomsearch/CalendarUnit" "HOUR" "Lcom/example/fathomsearch/fathomsearch/CalendarUnit;" (.ref u2)) (S3_ : Sta Z Z.heap "com/example/fathomsearch/fathomsearch/CalendarUnit" "DAY" "Lcom/example/fathomsearch/fathomsearch/CalendarUnit;" (.ref u3)) (S4_ : Sta Z Z.heap "com/example/fathomsearch/fathomsearch/CalendarUnit" "WEEK" "Lcom/example/fathomsearch/fathomsearch/CalendarUnit;" (.ref u4)) (S5_ : Sta Z Z.heap "com/example/fathomsearch/fathomsearch/CalendarUnit" "MONTH" "Lcom/example/fathomsearch/fathomsearch/CalendarUnit;" (.ref u5)) (S6_ : Sta Z Z.heap "com/example/fathomsearch/fathomsearch/CalendarUnit" "QUARTER" "Lcom/example/fathomsearch/fathomsearch/CalendarUnit;" (.ref u6)) (S7_ : Sta Z Z.heap "com/example/fathomsearch/fathomsearch/CalendarUnit" "YEAR" "Lcom/example/fathomsearch/fathomsearch/CalendarUnit;" (.ref u7)) (L0_ : Fld Z Z.heap u0 "com/example/fathomsearch/fathomsearch/CalendarUnit" "letter" "Ljava/lang/String;" (.ref s0_)) (Es0 : Exa Z Z.heap s0_ "java/lang/String") (Cs0 : Fld Z Z.heap s0_ "java/lang/String" "coder" "B" (.int (0 : Int32))) (Vs0 : Fld Z Z.heap s0_ "java/lang/String" "value" "[B" (.ref t0_)) (As0 : Arv Z Z.heap t0_ k0_ .byte (1 : Int32) [(.int (115 : Int32))] (.int (0 : Int32))) (nq0 : ¬ u0 = u6) (L1_ : Fld Z Z.heap u1 "com/example/fathomsearch/fathomsearch/CalendarUnit" "letter" "Ljava/lang/String;" (.ref s1_)) (Es1 : Exa Z Z.heap s1_ "java/lang/String") (Cs1 : Fld Z Z.heap s1_ "java/lang/String" "coder" "B" (.int (0 : Int32))) (Vs1 : Fld Z Z.heap s1_ "java/lang/String" "value" "[B" (.ref t1_)) (As1 : Arv Z Z.heap t1_ k1_ .byte (1 : Int32) [(.int (109 : Int32))] (.int (0 : Int32))) (nq1 : ¬ u1 = u6) (L2_ : Fld Z Z.heap u2 "com/example/fathomsearch/fathomsearch/CalendarUnit" "letter" "Ljava/lang/String;" (.ref s2_)) (Es2 : Exa Z Z.heap s2_ "java/lang/String") (Cs2 : Fld Z Z.heap s2_ "java/lang/String" "coder" "B" (.int (0 : Int32))) (Vs2 : Fld Z Z.heap s2_ "java/lang/String" "value" "[B" (.ref t2_)) (As2 : Arv Z Z.heap t2_ k2_ .byte (1 : Int32) [(.int (104 : Int32))] (.int (0 : Int32))) (nq2 : ¬ u2 = u6) (L3_ : Fld Z Z.heap u3 "com/example/fathomsearch/fathomsearch/CalendarUnit" "letter" "Ljava/lang/String;" (.ref s3_)) (Es3 : Exa Z Z.heap s3_ "java/lang/String") (Cs3 : Fld Z Z.heap s3_ "java/lang/String" "coder" "B" (.int (0 : Int32))) (Vs3 : Fld Z Z.heap s3_ "java/lang/String" "value" "[B" (.ref t3_)) (As3 : Arv Z Z.heap t3_ k3_ .byte (1 : Int32) [(.int (100 : Int32))] (.int (0 : Int32))) (nq3 : ¬ u3 = u6) (L4_ : Fld Z Z.heap u4 "com/example/fathomsearch/fathomsearch/CalendarUnit" "letter" "Ljava/lang/String;" (.ref s4_)) (Es4 : Exa Z Z.heap s4_ "java/lang/String") (Cs4 : Fld Z Z.heap s4_ "java/lang/String" "coder" "B" (.int (0 : Int32))) (Vs4 : Fld Z Z.heap s4_ "java/lang/String" "value" "[B" (.ref t4_)) (As4 : Arv Z Z.heap t4_ k4_ .byte (1 : Int32) [(.int (119 : Int32))] (.int (0 : Int32))) (nq4 : ¬ u4 = u6) (L5_ : Fld Z Z.heap u5 "com/example/fathomsearch/fathomsearch/CalendarUnit" "letter" "Ljava/lang/String;" (.ref s5_)) (Es5 : Exa Z Z.heap s5_ "java/lang/String") (Cs5 : Fld Z Z.heap s5_ "java/lang/String" "coder" "B" (.int (0 : Int32))) (Vs5 : Fld Z Z.heap s5_ "java/lang/String" "value" "[B" (.ref t5_)) (As5 : Arv Z Z.heap t5_ k5_ .byte (1 : Int32) [(.int (77 : Int32))] (.int (0 : Int32))) (nq5 : ¬ u5 = u6) (L7_ : Fld Z Z.heap u7 "com/example/fathomsearch/fathomsearch/CalendarUnit" "letter" "Ljava/lang/String;" (.ref s7_)) (Es7 : Exa Z Z.heap s7_ "java/lang/String") (Cs7 : Fld Z Z.heap s7_ "java/lang/String" "coder" "B" (.int (0 : Int32))) (Vs7 : Fld Z Z.heap s7_ "java/lang/String" "value" "[B" (.ref t7_)) (As7 : Arv Z Z.heap t7_ k7_ .byte (1 : Int32) [(.int (121 : Int32))] (.int (0 : Int32))) (nq7 : ¬ u7 = u6) (hcc : cells + 1 ≤ 16) (hss : slots + 8 ≤ 128) :
    own_Go p e below (own_Fin s room_1.cells room_1.slots (Q_law n0)) (T0.setTop (mkF m 114 #[q0_, q1_, .val (.int iv), q3_] [])) := by
  show own_Go _ _ _ _ (T0.setTop (mkF m 114 #[q0_, q1_, .val (.int iv), q3_] []))
  refine own_go (fun t k => XS.iloadN X0.here hx rfl (hb hby at_114) rfl k) ?_
  show own_Go _ _ _ _ (T0.setTop (mkF m 115 #[q0_, q1_, .val (.int iv), q3_] [(.int iv)]))
  obtain ⟨_, _, ⟨T173, L173, k173, n173⟩, -, X173, ⟨Lc173, hQ173, l173, y173, z173⟩, st173⟩ := Jvm.LawKit.callS X0 hx (y := (⟨"com/example/fathomsearch/fathomsearch/CalendarUnit", "ofLetter", "(C)Lcom/example/fathomsearch/fathomsearch/CalendarUnit;"⟩ : MethodName)) hown (mvT hZ (w_1 hw)) (mvT hZ (w_2 hw)) (mvT hZ (w_3 hw)) (mvT hZ (w_4 hw)) (by decide) (backOf (W := 0) (rm_of l Z a0 hw [] iv gv zv uv kv u0 u1 u2 u3 u4 u5 u6 u7 s0_ s1_ s2_ s3_ s4_ s5_ s7_ t0_ t1_ t2_ t3_ t4_ t5_ t7_ k0_ k1_ k2_ k3_ k4_ k5_ k7_ h0 n0 Z0 O0 rgv G0 hzv S0 S_V A_V E_V S2_ S6_ L0_ Es0 Cs0 Vs0 As0 nq0 L1_ Es1 Cs1 Vs1 As1 nq1 L2_ Es2 Cs2 Vs2 As2 nq2 L3_ Es3 Cs3 Vs3 As3 nq3 L4_ Es4 Cs4 Vs4 As4 nq4 L5_ Es5 Cs5 Vs5 As5 nq5 L7_ Es7 Cs7 Vs7 As7 nq7) hZ (w_4 hw) (w_3 hw) (by decide) (by decide)) (g := (mkF m 115 #[q0_, q1_, .val (.int iv), q3_] [(.int iv)])) rfl (by rw [hml]; rfl) (argsL := [(.int iv)]) (rest := []) (lenOf pd_6 rfl) rfl (by show 2 * 0 + _ ≤ _; exact Nat.le_of_eq rfl) (hb hby at_115) (fun _ _ => ⟨rfl, e0, (by show _ ≤ 16; omega), (by show _ ≤ 128; omega)⟩)
  dsimp only [Pt.U, Pt.locs, Pt.cells, Pt.slots] at X173 l173 y173 z173 st173 hQ173
  subst l173 y173 z173
  generalize e173 : T173.heap = h173 at hQ173
  obtain ⟨rfl, N173q, K173q⟩ := hQ173
  have N173 := Fr.app N0 N173q
  rcases own_ofc iv u0 u1 u2 u3 u4 u5 u6 u7 with hv | ⟨uq, hv⟩
  · rw [hv] at st173
    refine own_go st173 ?_
    have Z173 : n0 ≤ h173.size := (Nat.le_trans Z0 K173q.1)
    show own_Go _ _ _ _ (T173.setTop (mkF m 118 #[q0_, q1_, .val (.int iv), q3_] [.null]))
    refine own_go (fun t k => XS.astoreN X173.here hx rfl (hb hby at_118) rfl rfl (l' := #[q0_, q1_, .val (.int iv), .val .null]) (own_st3 hs3) k) ?_
    show own_Go _ _ _ _ (T173.setTop (mkF m 119 #[q0_, q1_, .val (.int iv), .val .null] []))
    refine own_go (fun t k => XS.aloadN X173.here hx rfl (hb hby at_119) rfl rfl k) ?_
    show own_Go _ _ _ _ (T173.setTop (mkF m 120 #[q0_, q1_, .val (.int iv), .val .null] [.null]))
    refine own_go (fun t k => XS.iloadN X173.here hx rfl (hb hby at_120) rfl k) ?_
    show own_Go _ _ _ _ (T173.setTop (mkF m 121 #[q0_, q1_, .val (.int iv), .val .null] [(.int iv), .null]))
    obtain ⟨_, _, ⟨T174, L174, k174, n174⟩, -, X174, ⟨Lc174, hQ174, l174, y174, z174⟩, st174⟩ := Jvm.LawKit.callS X173 hx (y := (⟨"com/example/fathomsearch/fathomsearch/CalendarUnitOfLetterPinLaw", "expected", "(C)Lcom/example/fathomsearch/fathomsearch/CalendarUnit;"⟩ : MethodName)) hown (mvT hZ (w_59 hw)) (mvT hZ (w_60 hw)) (mvT hZ (w_61 hw)) (mvT hZ (w_62 hw)) (by decide) (backOf (W := 1) (rm_exp l Z a0 hw [] iv u0 u1 u2 u3 u4 u5 u6 u7 h173 n0 Z173 (O0.keep K173q all0) S0_ S1_ S2_ S3_ S4_ S5_ S7_) hZ (w_62 hw) (w_61 hw) (by decide) (by decide)) (g := (mkF m 121 #[q0_, q1_, .val (.int iv), .val .null] [(.int iv), .null])) rfl (by rw [hml]; rfl) (argsL := [(.int iv)]) (rest := [.null]) (lenOf pd_6 rfl) rfl (by show 2 * 0 + _ ≤ _; exact Nat.le_of_eq rfl) (hb hby at_121) (fun _ _ => ⟨rfl, e173, (by show _ ≤ 16; omega), (by show _ ≤ 128; omega)⟩)
    dsimp only [Pt.U, Pt.locs, Pt.cells, Pt.slots] at X174 l174 y174 z174 st174 hQ174
    subst l174 y174 z174
    obtain ⟨rfl, N174q, e174⟩ := hQ174
    have N174 := Fr.app N173 N174q
    rw [own_same, hv] at st174
    refine own_go st174 ?_
    show own_Go _ _ _ _ (T174.setTop (mkF m 124 #[q0_, q1_, .val (.int iv), .val .null] [.null, .null]))
    refine own_go (fun t k => Jvm.RoadKit.acmp (g := (mkF m 124 #[q0_, q1_, .val (.int iv), .val .null] [.null, .null])) X174 hx rfl rfl rfl (pc0 := 124) (pc' := 127) (same := true) rfl (hb hby at_124) rfl (decide_eq_true rfl) (by decide) (by decide) k) ?_
    show own_Go _ _ _ _ (T174.setTop (mkF m 127 #[q0_, q1_, .val (.int iv), .val .null] []))
    refine own_go (fun t k => XS.iconst X174.here hx rfl (hb hby at_127) k) ?_
    show own_Go _ _ _ _ (T174.setTop (mkF m 128 #[q0_, q1_, .val (.int iv), .val .null] [(.int (1 : Int32))]))
    refine own_go (fun t k => XS.goto X174.here hx rfl (pc0 := 128) (pc' := 132) rfl (hb hby at_128) (by decide) (by decide) k) ?_
    show own_Go _ _ _ _ (T174.setTop (mkF m 132 #[q0_, q1_, .val (.int iv), .val .null] [(.int (1 : Int32))]))
    refine own_retN X174 hx hlk (t := .boolean) hret (by simp) (hb hby at_132) ?_ (by show _ ≤ 16; omega) (by show _ ≤ 128; omega)
    rw [e174]
    exact ⟨rfl, N174⟩
  · rw [hv] at st173
    refine own_go st173 ?_
    have Z173 : n0 ≤ h173.size := (Nat.le_trans Z0 K173q.1)
    show own_Go _ _ _ _ (T173.setTop (mkF m 118 #[q0_, q1_, .val (.int iv), q3_] [(.ref uq)]))
    refine own_go (fun t k => XS.astoreN X173.here hx rfl (hb hby at_118) rfl rfl (l' := #[q0_, q1_, .val (.int iv), .val (.ref uq)]) (own_st3 hs3) k) ?_
    show own_Go _ _ _ _ (T173.setTop (mkF m 119 #[q0_, q1_, .val (.int iv), .val (.ref uq)] []))
    refine own_go (fun t k => XS.aloadN X173.here hx rfl (hb hby at_119) rfl rfl k) ?_
    show own_Go _ _ _ _ (T173.setTop (mkF m 120 #[q0_, q1_, .val (.int iv), .val (.ref uq)] [(.ref uq)]))
    refine own_go (fun t k => XS.iloadN X173.here hx rfl (hb hby at_120) rfl k) ?_
    show own_Go _ _ _ _ (T173.setTop (mkF m 121 #[q0_, q1_, .val (.int iv), .val (.ref uq)] [(.int iv), (.ref uq)]))
    obtain ⟨_, _, ⟨T175, L175, k175, n175⟩, -, X175, ⟨Lc175, hQ175, l175, y175, z175⟩, st175⟩ := Jvm.LawKit.callS X173 hx (y := (⟨"com/example/fathomsearch/fathomsearch/CalendarUnitOfLetterPinLaw", "expected", "(C)Lcom/example/fathomsearch/fathomsearch/CalendarUnit;"⟩ : MethodName)) hown (mvT hZ (w_59 hw)) (mvT hZ (w_60 hw)) (mvT hZ (w_61 hw)) (mvT hZ (w_62 hw)) (by decide) (backOf (W := 1) (rm_exp l Z a0 hw [] iv u0 u1 u2 u3 u4 u5 u6 u7 h173 n0 Z173 (O0.keep K173q all0) S0_ S1_ S2_ S3_ S4_ S5_ S7_) hZ (w_62 hw) (w_61 hw) (by decide) (by decide)) (g := (mkF m 121 #[q0_, q1_, .val (.int iv), .val (.ref uq)] [(.int iv), (.ref uq)])) rfl (by rw [hml]; rfl) (argsL := [(.int iv)]) (rest := [(.ref uq)]) (lenOf pd_6 rfl) rfl (by show 2 * 0 + _ ≤ _; exact Nat.le_of_eq rfl) (hb hby at_121) (fun _ _ => ⟨rfl, e173, (by show _ ≤ 16; omega), (by show _ ≤ 128; omega)⟩)
    dsimp only [Pt.U, Pt.locs, Pt.cells, Pt.slots] at X175 l175 y175 z175 st175 hQ175
    subst l175 y175 z175
    obtain ⟨rfl, N175q, e175⟩ := hQ175
    have N175 := Fr.app N173 N175q
    rw [own_same, hv] at st175
    refine own_go st175 ?_
    show own_Go _ _ _ _ (T175.setTop (mkF m 124 #[q0_, q1_, .val (.int iv), .val (.ref uq)] [(.ref uq), (.ref uq)]))
    refine own_go (fun t k => Jvm.RoadKit.acmp (g := (mkF m 124 #[q0_, q1_, .val (.int iv), .val (.ref uq)] [(.ref uq), (.ref uq)])) X175 hx rfl rfl rfl (pc0 := 124) (pc' := 127) (same := true) rfl (hb hby at_124) rfl (decide_eq_true rfl) (by decide) (by decide) k) ?_
    show own_Go _ _ _ _ (T175.setTop (mkF m 127 #[q0_, q1_, .val (.int iv), .val (.ref uq)] []))
    refine own_go (fun t k => XS.iconst X175.here hx rfl (hb hby at_127) k) ?_
    show own_Go _ _ _ _ (T175.setTop (mkF m 128 #[q0_, q1_, .val (.int iv), .val (.ref uq)] [(.int (1 : Int32))]))
    refine own_go (fun t k => XS.goto X175.here hx rfl (pc0 := 128) (pc' := 132) rfl (hb hby at_128) (by decide) (by decide) k) ?_
    show own_Go _ _ _ _ (T175.setTop (mkF m 132 #[q0_, q1_, .val (.int iv), .val (.ref uq)] [(.int (1 : Int32))]))
    refine own_retN X175 hx hlk (t := .boolean) hret (by simp) (hb hby at_132) ?_ (by show _ ≤ 16; omega) (by show _ ≤ 128; omega)
    rw [e175]
    exact ⟨rfl, N175⟩
theorem own_lo16 {k : Int32} (h : k = 0 ∨ k = 1 ∨ k = 2 ∨ k = 3 ∨ k = 4 ∨ k = 5 ∨ k = 6 ∨ k = 7 ∨ k = 8 ∨ k = 9 ∨ k = 10 ∨ k = 11 ∨ k = 12 ∨ k = 13 ∨ k = 14 ∨ k = 15) : ¬ k < 0 ∧ k < (16 : Int32) := by
  rcases h with h | h | h | h | h | h | h | h | h | h | h | h | h | h | h | h <;> subst h <;> decide
theorem ef_law (m : MethodId) (iv : Int32) (jv : Int32) : entryFrame m #[(.int iv), (.int jv)] maxLocals = mkF m 0 #[.val (.int iv), .val (.int jv), .unset, .unset] [] := by first | (simp [entryFrame, mkF, argsToLocals, Value.category, maxLocals]; done) | rfl
theorem w_0 {Z : State} {a0 : Array Value} (hw : ∀ d ∈ tables_1, d.before a0 Z = true) : (Jvm.Cond.arrayClass Jvm.ClassFile.FieldType.char).before a0 Z = true := hw _ (List.mem_of_getElem? (i := 0) rfl)
set_option maxRecDepth 65536 in
set_option maxHeartbeats 40000000 in
theorem rm_law (l : Launch) (Z : State) (a0 : Array Value) (hw : ∀ d ∈ tables_1, d.before a0 Z = true) (ws : List Jvm.Cond) (iv jv : Int32) (gv : Value) (zv : Int32) (uv : Addr) (kv : ClassId) (u0 u1 u2 u3 u4 u5 u6 u7 s0_ s1_ s2_ s3_ s4_ s5_ s7_ t0_ t1_ t2_ t3_ t4_ t5_ t7_ : Addr) (k0_ k1_ k2_ k3_ k4_ k5_ k7_ : ClassId) (h0 : Heap) (n0 : Nat) (Z0 : n0 ≤ h0.size) (O0 : Old Z n0 h0) (rgv : gv.isRef = true) (G0 : Sta Z Z.heap "jdk/internal/util/Preconditions" "SIOOBE_FORMATTER" "Ljava/util/function/BiFunction;" gv) (hzv : ¬ zv = (0 : Int32)) (S0 : Sta Z Z.heap "java/lang/String" "COMPACT_STRINGS" "Z" (.int zv)) (S_V : Sta Z Z.heap "com/example/fathomsearch/fathomsearch/CalendarUnit" "$VALUES" "[Lcom/example/fathomsearch/fathomsearch/CalendarUnit;" (.ref uv)) (A_V : Arv Z Z.heap uv kv (.object "com/example/fathomsearch/fathomsearch/CalendarUnit") (8 : Int32) [(.ref u0), (.ref u1), (.ref u2), (.ref u3), (.ref u4), (.ref u5), (.ref u6), (.ref u7)] .null) (E_V : Exa Z Z.heap uv "[Lcom/example/fathomsearch/fathomsearch/CalendarUnit;") (S0_ : Sta Z Z.heap "com/example/fathomsearch/fathomsearch/CalendarUnit" "SECOND" "Lcom/example/fathomsearch/fathomsearch/CalendarUnit;" (.ref u0)) (S1_ : Sta Z Z.heap "com/example/fathomsearch/fathomsearch/CalendarUnit" "MINUTE" "Lcom/example/fathomsearch/fathomsearch/CalendarUnit;" (.ref u1)) (S2_ : Sta Z Z.heap "com/example/fathomsearch/fathomsearch/CalendarUnit" "HOUR" "Lcom/example/fathomsearch/fathomsearch/CalendarUnit;" (.ref u2)) (S3_ : Sta Z Z.heap "com/example/fathomsearch/fathomsearch/CalendarUnit" "DAY" "Lcom/example/fathomsearch/fathomsearch/CalendarUnit;" (.ref u3)) (S4_ : Sta Z Z.heap "com/example/fathomsearch/fathomsearch/CalendarUnit" "WEEK" "Lcom/example/fathomsearch/fathomsearch/CalendarUnit;" (.ref u4)) (S5_ : Sta Z Z.heap "com/example/fathomsearch/fathomsearch/CalendarUnit" "MONTH" "Lcom/example/fathomsearch/fathomsearch/CalendarUnit;" (.ref u5)) (S6_ : Sta Z Z.heap "com/example/fathomsearch/fathomsearch/CalendarUnit" "QUARTER" "Lcom/example/fathomsearch/fathomsearch/CalendarUnit;" (.ref u6)) (S7_ : Sta Z Z.heap "com/example/fathomsearch/fathomsearch/CalendarUnit" "YEAR" "Lcom/example/fathomsearch/fathomsearch/CalendarUnit;" (.ref u7)) (L0_ : Fld Z Z.heap u0 "com/example/fathomsearch/fathomsearch/CalendarUnit" "letter" "Ljava/lang/String;" (.ref s0_)) (Es0 : Exa Z Z.heap s0_ "java/lang/String") (Cs0 : Fld Z Z.heap s0_ "java/lang/String" "coder" "B" (.int (0 : Int32))) (Vs0 : Fld Z Z.heap s0_ "java/lang/String" "value" "[B" (.ref t0_)) (As0 : Arv Z Z.heap t0_ k0_ .byte (1 : Int32) [(.int (115 : Int32))] (.int (0 : Int32))) (nq0 : ¬ u0 = u6) (L1_ : Fld Z Z.heap u1 "com/example/fathomsearch/fathomsearch/CalendarUnit" "letter" "Ljava/lang/String;" (.ref s1_)) (Es1 : Exa Z Z.heap s1_ "java/lang/String") (Cs1 : Fld Z Z.heap s1_ "java/lang/String" "coder" "B" (.int (0 : Int32))) (Vs1 : Fld Z Z.heap s1_ "java/lang/String" "value" "[B" (.ref t1_)) (As1 : Arv Z Z.heap t1_ k1_ .byte (1 : Int32) [(.int (109 : Int32))] (.int (0 : Int32))) (nq1 : ¬ u1 = u6) (L2_ : Fld Z Z.heap u2 "com/example/fathomsearch/fathomsearch/CalendarUnit" "letter" "Ljava/lang/String;" (.ref s2_)) (Es2 : Exa Z Z.heap s2_ "java/lang/String") (Cs2 : Fld Z Z.heap s2_ "java/lang/String" "coder" "B" (.int (0 : Int32))) (Vs2 : Fld Z Z.heap s2_ "java/lang/String" "value" "[B" (.ref t2_)) (As2 : Arv Z Z.heap t2_ k2_ .byte (1 : Int32) [(.int (104 : Int32))] (.int (0 : Int32))) (nq2 : ¬ u2 = u6) (L3_ : Fld Z Z.heap u3 "com/example/fathomsearch/fathomsearch/CalendarUnit" "letter" "Ljava/lang/String;" (.ref s3_)) (Es3 : Exa Z Z.heap s3_ "java/lang/String") (Cs3 : Fld Z Z.heap s3_ "java/lang/String" "coder" "B" (.int (0 : Int32))) (Vs3 : Fld Z Z.heap s3_ "java/lang/String" "value" "[B" (.ref t3_)) (As3 : Arv Z Z.heap t3_ k3_ .byte (1 : Int32) [(.int (100 : Int32))] (.int (0 : Int32))) (nq3 : ¬ u3 = u6) (L4_ : Fld Z Z.heap u4 "com/example/fathomsearch/fathomsearch/CalendarUnit" "letter" "Ljava/lang/String;" (.ref s4_)) (Es4 : Exa Z Z.heap s4_ "java/lang/String") (Cs4 : Fld Z Z.heap s4_ "java/lang/String" "coder" "B" (.int (0 : Int32))) (Vs4 : Fld Z Z.heap s4_ "java/lang/String" "value" "[B" (.ref t4_)) (As4 : Arv Z Z.heap t4_ k4_ .byte (1 : Int32) [(.int (119 : Int32))] (.int (0 : Int32))) (nq4 : ¬ u4 = u6) (L5_ : Fld Z Z.heap u5 "com/example/fathomsearch/fathomsearch/CalendarUnit" "letter" "Ljava/lang/String;" (.ref s5_)) (Es5 : Exa Z Z.heap s5_ "java/lang/String") (Cs5 : Fld Z Z.heap s5_ "java/lang/String" "coder" "B" (.int (0 : Int32))) (Vs5 : Fld Z Z.heap s5_ "java/lang/String" "value" "[B" (.ref t5_)) (As5 : Arv Z Z.heap t5_ k5_ .byte (1 : Int32) [(.int (77 : Int32))] (.int (0 : Int32))) (nq5 : ¬ u5 = u6) (L7_ : Fld Z Z.heap u7 "com/example/fathomsearch/fathomsearch/CalendarUnit" "letter" "Ljava/lang/String;" (.ref s7_)) (Es7 : Exa Z Z.heap s7_ "java/lang/String") (Cs7 : Fld Z Z.heap s7_ "java/lang/String" "coder" "B" (.int (0 : Int32))) (Vs7 : Fld Z Z.heap s7_ "java/lang/String" "value" "[B" (.ref t7_)) (As7 : Arv Z Z.heap t7_ k7_ .byte (1 : Int32) [(.int (121 : Int32))] (.int (0 : Int32))) (nq7 : ¬ u7 = u6) :
    own_Met l Z x code maxLocals ret ws room_1 #[(.int iv), (.int jv)] h0 (Q_law n0) := by
  refine own_enter (own := "com/example/fathomsearch/fathomsearch/CalendarUnitOfLetterPinLaw") (plainFor_of_name pn_4) rfl ?_
  intro p e s m below meth c s₁ hlk hret hx hby hml hown hnm hZ X0 e0
  have N0 := Fr.nil n0
  refine own_cast (ef_law m iv jv) ?_
  show own_Go _ _ _ _ (s₁.setTop (mkF m 0 #[.val (.int iv), .val (.int jv), .unset, .unset] []))
  refine own_go (fun t k => XS.iloadN X0.here hx rfl (hb hby at_0) rfl k) ?_
  show own_Go _ _ _ _ (s₁.setTop (mkF m 1 #[.val (.int iv), .val (.int jv), .unset, .unset] [(.int jv)]))
  refine own_go (fun t k => XS.iconst X0.here hx rfl (hb hby at_1) k) ?_
  show own_Go _ _ _ _ (s₁.setTop (mkF m 2 #[.val (.int iv), .val (.int jv), .unset, .unset] [(.int (1 : Int32)), (.int jv)]))
  refine own_go (fun t k => XS.iand X0.here hx rfl (hb hby at_2) rfl k) ?_
  by_cases hc176 : (jv &&& (1 : Int32)) = (0 : Int32)
  · show own_Go _ _ _ _ (s₁.setTop (mkF m 3 #[.val (.int iv), .val (.int jv), .unset, .unset] [(.int (jv &&& (1 : Int32)))]))
    refine own_go (fun t k => XS.ifYes X0.here hx rfl (pc0 := 3) (pc' := 111) rfl (hb hby at_3) rfl ((if0 _ _).trans (teq hc176).1) (by decide) (by decide) k) ?_
    show own_Go _ _ _ _ (s₁.setTop (mkF m 111 #[.val (.int iv), .val (.int jv), .unset, .unset] []))
    refine own_go (fun t k => XS.iloadN X0.here hx rfl (hb hby at_111) rfl k) ?_
    show own_Go _ _ _ _ (s₁.setTop (mkF m 112 #[.val (.int iv), .val (.int jv), .unset, .unset] [(.int iv)]))
    refine own_go (fun t k => XS.i2c X0.here hx rfl (hb hby at_112) rfl k) ?_
    show own_Go _ _ _ _ (s₁.setTop (mkF m 113 #[.val (.int iv), .val (.int jv), .unset, .unset] [(.int (iv.toUInt32.toUInt16.toUInt32.toInt32))]))
    refine own_go (fun t k => XS.istoreN X0.here hx rfl (hb hby at_113) rfl (l' := #[.val (.int iv), .val (.int jv), .val (.int (iv.toUInt32.toUInt16.toUInt32.toInt32)), .unset]) rfl k) ?_
    show own_Go _ _ _ _ (s₁.setTop (mkF m 114 #[.val (.int iv), .val (.int jv), .val (.int (iv.toUInt32.toUInt16.toUInt32.toInt32)), .unset] []))
    exact sg_tail hw X0 hlk hret hx hby hml hown hZ e0 N0 Z0 (iv.toUInt32.toUInt16.toUInt32.toInt32) gv zv uv kv u0 u1 u2 u3 u4 u5 u6 u7 s0_ s1_ s2_ s3_ s4_ s5_ s7_ t0_ t1_ t2_ t3_ t4_ t5_ t7_ k0_ k1_ k2_ k3_ k4_ k5_ k7_ One.u O0 rgv G0 hzv S0 S_V A_V E_V S0_ S1_ S2_ S3_ S4_ S5_ S6_ S7_ L0_ Es0 Cs0 Vs0 As0 nq0 L1_ Es1 Cs1 Vs1 As1 nq1 L2_ Es2 Cs2 Vs2 As2 nq2 L3_ Es3 Cs3 Vs3 As3 nq3 L4_ Es4 Cs4 Vs4 As4 nq4 L5_ Es5 Cs5 Vs5 As5 nq5 L7_ Es7 Cs7 Vs7 As7 nq7 (by decide) (by decide)
  · show own_Go _ _ _ _ (s₁.setTop (mkF m 3 #[.val (.int iv), .val (.int jv), .unset, .unset] [(.int (jv &&& (1 : Int32)))]))
    refine own_go (fun t k => XS.ifNo X0.here hx rfl (hb hby at_3) rfl ((if0 _ _).trans (feq hc176).1) k) ?_
    show own_Go _ _ _ _ (s₁.setTop (mkF m 6 #[.val (.int iv), .val (.int jv), .unset, .unset] []))
    refine own_go (fun t k => XS.bipush X0.here hx rfl (hb hby at_6) k) ?_
    show own_Go _ _ _ _ (s₁.setTop (mkF m 8 #[.val (.int iv), .val (.int jv), .unset, .unset] [(.int (16 : Int32))]))
    obtain ⟨T177, h177, k177, X177, e177, E177, A177, st177⟩ := newP (aty := .char) X0 hx hZ (w_0 hw) e0 (n := (16 : Int32)) (rest := []) (g := (mkF m 8 #[.val (.int iv), .val (.int jv), .unset, .unset] [(.int (16 : Int32))])) rfl (hb hby at_8) rfl (by decide) (cap := 16) (by decide) (by decide) (by decide) (by decide)
    obtain ⟨b177, g177⟩ : ∃ z, z = h0.size := ⟨_, rfl⟩
    rw [← g177] at A177 st177
    refine own_go st177 ?_
    have Z177 : n0 ≤ h177.size := (Nat.le_trans Z0 E177.1)
    have lo177 : h0.size ≤ b177 := Nat.le_of_eq g177.symm
    have q177 : n0 ≤ b177 := Nat.le_trans Z0 lo177
    have hi177 : b177 < h177.size := A177.lt
    have V177 : Arv Z h177 b177 k177 .char (16 : Int32) [(.int (0 : Int32)), (.int (0 : Int32)), (.int (0 : Int32)), (.int (0 : Int32)), (.int (0 : Int32)), (.int (0 : Int32)), (.int (0 : Int32)), (.int (0 : Int32)), (.int (0 : Int32)), (.int (0 : Int32)), (.int (0 : Int32)), (.int (0 : Int32)), (.int (0 : Int32)), (.int (0 : Int32)), (.int (0 : Int32)), (.int (0 : Int32))] (.int (0 : Int32)) := (Arv.new A177 (by decide)).pad (pad_rep [] (.int (0 : Int32)) 16)
    show own_Go _ _ _ _ (T177.setTop (mkF m 10 #[.val (.int iv), .val (.int jv), .unset, .unset] [(.ref b177)]))
    refine own_go (fun t k => XS.dup X177.here hx rfl (hb hby at_10) rfl rfl k) ?_
    show own_Go _ _ _ _ (T177.setTop (mkF m 11 #[.val (.int iv), .val (.int jv), .unset, .unset] [(.ref b177), (.ref b177)]))
    refine own_go (fun t k => XS.iconst X177.here hx rfl (hb hby at_11) k) ?_
    show own_Go _ _ _ _ (T177.setTop (mkF m 12 #[.val (.int iv), .val (.int jv), .unset, .unset] [(.int (0 : Int32)), (.ref b177), (.ref b177)]))
    refine own_go (fun t k => XS.bipush X177.here hx rfl (hb hby at_12) k) ?_
    show own_Go _ _ _ _ (T177.setTop (mkF m 14 #[.val (.int iv), .val (.int jv), .unset, .unset] [(.int (121 : Int32)), (.int (0 : Int32)), (.ref b177), (.ref b177)]))
    obtain ⟨cl178, Ar178, qk178, sz178, nn178, ha178, gf178⟩ := id V177
    have hin178 : ¬ ((0 : Int32) < 0 ∨ cl178.slots.size ≤ ((0 : Int32)).toNatClampNeg) := inb_of sz178 ⟨by decide, by decide⟩
    obtain ⟨T179, h179, X179, e179, W179, st179⟩ := stC X177 hx hZ e177 Ar178 (j := (0 : Int32)) hin178 (g := (mkF m 14 #[.val (.int iv), .val (.int jv), .unset, .unset] [(.int (121 : Int32)), (.int (0 : Int32)), (.ref b177), (.ref b177)])) rfl rfl (hb hby at_14)
    refine own_go st179 ?_
    have V179 : Arv Z h179 b177 k177 .char (16 : Int32) [(.int (121 : Int32)), (.int (0 : Int32)), (.int (0 : Int32)), (.int (0 : Int32)), (.int (0 : Int32)), (.int (0 : Int32)), (.int (0 : Int32)), (.int (0 : Int32)), (.int (0 : Int32)), (.int (0 : Int32)), (.int (0 : Int32)), (.int (0 : Int32)), (.int (0 : Int32)), (.int (0 : Int32)), (.int (0 : Int32)), (.int (0 : Int32))] (.int (0 : Int32)) := Arv.set Ar178 qk178 sz178 nn178 ha178 gf178 rfl W179 0 rfl (Nat.le_of_ble_eq_true rfl)
    have Z179 : n0 ≤ h179.size := (Nat.le_trans Z177 (Nat.le_of_eq W179.size.symm))
    have N179 := Fr.snoc X179 N0 q177
    show own_Go _ _ _ _ (T179.setTop (mkF m 15 #[.val (.int iv), .val (.int jv), .unset, .unset] [(.ref b177)]))
    refine own_go (fun t k => XS.dup X179.here hx rfl (hb hby at_15) rfl rfl k) ?_
    show own_Go _ _ _ _ (T179.setTop (mkF m 16 #[.val (.int iv), .val (.int jv), .unset, .unset] [(.ref b177), (.ref b177)]))
    refine own_go (fun t k => XS.iconst X179.here hx rfl (hb hby at_16) k) ?_
    show own_Go _ _ _ _ (T179.setTop (mkF m 17 #[.val (.int iv), .val (.int jv), .unset, .unset] [(.int (1 : Int32)), (.ref b177), (.ref b177)]))
    refine own_go (fun t k => XS.bipush X179.here hx rfl (hb hby at_17) k) ?_
    show own_Go _ _ _ _ (T179.setTop (mkF m 19 #[.val (.int iv), .val (.int jv), .unset, .unset] [(.int (77 : Int32)), (.int (1 : Int32)), (.ref b177), (.ref b177)]))
    obtain ⟨cl180, Ar180, qk180, sz180, nn180, ha180, gf180⟩ := id V179
    have hin180 : ¬ ((1 : Int32) < 0 ∨ cl180.slots.size ≤ ((1 : Int32)).toNatClampNeg) := inb_of sz180 ⟨by decide, by decide⟩
    obtain ⟨T181, h181, X181, e181, W181, st181⟩ := stC X179 hx hZ e179 Ar180 (j := (1 : Int32)) hin180 (g := (mkF m 19 #[.val (.int iv), .val (.int jv), .unset, .unset] [(.int (77 : Int32)), (.int (1 : Int32)), (.ref b177), (.ref b177)])) rfl rfl (hb hby at_19)
    refine own_go st181 ?_
    have V181 : Arv Z h181 b177 k177 .char (16 : Int32) [(.int (121 : Int32)), (.int (77 : Int32)), (.int (0 : Int32)), (.int (0 : Int32)), (.int (0 : Int32)), (.int (0 : Int32)), (.int (0 : Int32)), (.int (0 : Int32)), (.int (0 : Int32)), (.int (0 : Int32)), (.int (0 : Int32)), (.int (0 : Int32)), (.int (0 : Int32)), (.int (0 : Int32)), (.int (0 : Int32)), (.int (0 : Int32))] (.int (0 : Int32)) := Arv.set Ar180 qk180 sz180 nn180 ha180 gf180 rfl W181 1 rfl (Nat.le_of_ble_eq_true rfl)
    have Z181 : n0 ≤ h181.size := (Nat.le_trans Z179 (Nat.le_of_eq W181.size.symm))
    have N181 := Fr.snoc X181 N179 q177
    show own_Go _ _ _ _ (T181.setTop (mkF m 20 #[.val (.int iv), .val (.int jv), .unset, .unset] [(.ref b177)]))
    refine own_go (fun t k => XS.dup X181.here hx rfl (hb hby at_20) rfl rfl k) ?_
    show own_Go _ _ _ _ (T181.setTop (mkF m 21 #[.val (.int iv), .val (.int jv), .unset, .unset] [(.ref b177), (.ref b177)]))
    refine own_go (fun t k => XS.iconst X181.here hx rfl (hb hby at_21) k) ?_
    show own_Go _ _ _ _ (T181.setTop (mkF m 22 #[.val (.int iv), .val (.int jv), .unset, .unset] [(.int (2 : Int32)), (.ref b177), (.ref b177)]))
    refine own_go (fun t k => XS.bipush X181.here hx rfl (hb hby at_22) k) ?_
    show own_Go _ _ _ _ (T181.setTop (mkF m 24 #[.val (.int iv), .val (.int jv), .unset, .unset] [(.int (119 : Int32)), (.int (2 : Int32)), (.ref b177), (.ref b177)]))
    obtain ⟨cl182, Ar182, qk182, sz182, nn182, ha182, gf182⟩ := id V181
    have hin182 : ¬ ((2 : Int32) < 0 ∨ cl182.slots.size ≤ ((2 : Int32)).toNatClampNeg) := inb_of sz182 ⟨by decide, by decide⟩
    obtain ⟨T183, h183, X183, e183, W183, st183⟩ := stC X181 hx hZ e181 Ar182 (j := (2 : Int32)) hin182 (g := (mkF m 24 #[.val (.int iv), .val (.int jv), .unset, .unset] [(.int (119 : Int32)), (.int (2 : Int32)), (.ref b177), (.ref b177)])) rfl rfl (hb hby at_24)
    refine own_go st183 ?_
    have V183 : Arv Z h183 b177 k177 .char (16 : Int32) [(.int (121 : Int32)), (.int (77 : Int32)), (.int (119 : Int32)), (.int (0 : Int32)), (.int (0 : Int32)), (.int (0 : Int32)), (.int (0 : Int32)), (.int (0 : Int32)), (.int (0 : Int32)), (.int (0 : Int32)), (.int (0 : Int32)), (.int (0 : Int32)), (.int (0 : Int32)), (.int (0 : Int32)), (.int (0 : Int32)), (.int (0 : Int32))] (.int (0 : Int32)) := Arv.set Ar182 qk182 sz182 nn182 ha182 gf182 rfl W183 2 rfl (Nat.le_of_ble_eq_true rfl)
    have Z183 : n0 ≤ h183.size := (Nat.le_trans Z181 (Nat.le_of_eq W183.size.symm))
    have N183 := Fr.snoc X183 N181 q177
    show own_Go _ _ _ _ (T183.setTop (mkF m 25 #[.val (.int iv), .val (.int jv), .unset, .unset] [(.ref b177)]))
    refine own_go (fun t k => XS.dup X183.here hx rfl (hb hby at_25) rfl rfl k) ?_
    show own_Go _ _ _ _ (T183.setTop (mkF m 26 #[.val (.int iv), .val (.int jv), .unset, .unset] [(.ref b177), (.ref b177)]))
    refine own_go (fun t k => XS.iconst X183.here hx rfl (hb hby at_26) k) ?_
    show own_Go _ _ _ _ (T183.setTop (mkF m 27 #[.val (.int iv), .val (.int jv), .unset, .unset] [(.int (3 : Int32)), (.ref b177), (.ref b177)]))
    refine own_go (fun t k => XS.bipush X183.here hx rfl (hb hby at_27) k) ?_
    show own_Go _ _ _ _ (T183.setTop (mkF m 29 #[.val (.int iv), .val (.int jv), .unset, .unset] [(.int (100 : Int32)), (.int (3 : Int32)), (.ref b177), (.ref b177)]))
    obtain ⟨cl184, Ar184, qk184, sz184, nn184, ha184, gf184⟩ := id V183
    have hin184 : ¬ ((3 : Int32) < 0 ∨ cl184.slots.size ≤ ((3 : Int32)).toNatClampNeg) := inb_of sz184 ⟨by decide, by decide⟩
    obtain ⟨T185, h185, X185, e185, W185, st185⟩ := stC X183 hx hZ e183 Ar184 (j := (3 : Int32)) hin184 (g := (mkF m 29 #[.val (.int iv), .val (.int jv), .unset, .unset] [(.int (100 : Int32)), (.int (3 : Int32)), (.ref b177), (.ref b177)])) rfl rfl (hb hby at_29)
    refine own_go st185 ?_
    have V185 : Arv Z h185 b177 k177 .char (16 : Int32) [(.int (121 : Int32)), (.int (77 : Int32)), (.int (119 : Int32)), (.int (100 : Int32)), (.int (0 : Int32)), (.int (0 : Int32)), (.int (0 : Int32)), (.int (0 : Int32)), (.int (0 : Int32)), (.int (0 : Int32)), (.int (0 : Int32)), (.int (0 : Int32)), (.int (0 : Int32)), (.int (0 : Int32)), (.int (0 : Int32)), (.int (0 : Int32))] (.int (0 : Int32)) := Arv.set Ar184 qk184 sz184 nn184 ha184 gf184 rfl W185 3 rfl (Nat.le_of_ble_eq_true rfl)
    have Z185 : n0 ≤ h185.size := (Nat.le_trans Z183 (Nat.le_of_eq W185.size.symm))
    have N185 := Fr.snoc X185 N183 q177
    show own_Go _ _ _ _ (T185.setTop (mkF m 30 #[.val (.int iv), .val (.int jv), .unset, .unset] [(.ref b177)]))
    refine own_go (fun t k => XS.dup X185.here hx rfl (hb hby at_30) rfl rfl k) ?_
    show own_Go _ _ _ _ (T185.setTop (mkF m 31 #[.val (.int iv), .val (.int jv), .unset, .unset] [(.ref b177), (.ref b177)]))
    refine own_go (fun t k => XS.iconst X185.here hx rfl (hb hby at_31) k) ?_
    show own_Go _ _ _ _ (T185.setTop (mkF m 32 #[.val (.int iv), .val (.int jv), .unset, .unset] [(.int (4 : Int32)), (.ref b177), (.ref b177)]))
    refine own_go (fun t k => XS.bipush X185.here hx rfl (hb hby at_32) k) ?_
    show own_Go _ _ _ _ (T185.setTop (mkF m 34 #[.val (.int iv), .val (.int jv), .unset, .unset] [(.int (104 : Int32)), (.int (4 : Int32)), (.ref b177), (.ref b177)]))
    obtain ⟨cl186, Ar186, qk186, sz186, nn186, ha186, gf186⟩ := id V185
    have hin186 : ¬ ((4 : Int32) < 0 ∨ cl186.slots.size ≤ ((4 : Int32)).toNatClampNeg) := inb_of sz186 ⟨by decide, by decide⟩
    obtain ⟨T187, h187, X187, e187, W187, st187⟩ := stC X185 hx hZ e185 Ar186 (j := (4 : Int32)) hin186 (g := (mkF m 34 #[.val (.int iv), .val (.int jv), .unset, .unset] [(.int (104 : Int32)), (.int (4 : Int32)), (.ref b177), (.ref b177)])) rfl rfl (hb hby at_34)
    refine own_go st187 ?_
    have V187 : Arv Z h187 b177 k177 .char (16 : Int32) [(.int (121 : Int32)), (.int (77 : Int32)), (.int (119 : Int32)), (.int (100 : Int32)), (.int (104 : Int32)), (.int (0 : Int32)), (.int (0 : Int32)), (.int (0 : Int32)), (.int (0 : Int32)), (.int (0 : Int32)), (.int (0 : Int32)), (.int (0 : Int32)), (.int (0 : Int32)), (.int (0 : Int32)), (.int (0 : Int32)), (.int (0 : Int32))] (.int (0 : Int32)) := Arv.set Ar186 qk186 sz186 nn186 ha186 gf186 rfl W187 4 rfl (Nat.le_of_ble_eq_true rfl)
    have Z187 : n0 ≤ h187.size := (Nat.le_trans Z185 (Nat.le_of_eq W187.size.symm))
    have N187 := Fr.snoc X187 N185 q177
    show own_Go _ _ _ _ (T187.setTop (mkF m 35 #[.val (.int iv), .val (.int jv), .unset, .unset] [(.ref b177)]))
    refine own_go (fun t k => XS.dup X187.here hx rfl (hb hby at_35) rfl rfl k) ?_
    show own_Go _ _ _ _ (T187.setTop (mkF m 36 #[.val (.int iv), .val (.int jv), .unset, .unset] [(.ref b177), (.ref b177)]))
    refine own_go (fun t k => XS.iconst X187.here hx rfl (hb hby at_36) k) ?_
    show own_Go _ _ _ _ (T187.setTop (mkF m 37 #[.val (.int iv), .val (.int jv), .unset, .unset] [(.int (5 : Int32)), (.ref b177), (.ref b177)]))
    refine own_go (fun t k => XS.bipush X187.here hx rfl (hb hby at_37) k) ?_
    show own_Go _ _ _ _ (T187.setTop (mkF m 39 #[.val (.int iv), .val (.int jv), .unset, .unset] [(.int (72 : Int32)), (.int (5 : Int32)), (.ref b177), (.ref b177)]))
    obtain ⟨cl188, Ar188, qk188, sz188, nn188, ha188, gf188⟩ := id V187
    have hin188 : ¬ ((5 : Int32) < 0 ∨ cl188.slots.size ≤ ((5 : Int32)).toNatClampNeg) := inb_of sz188 ⟨by decide, by decide⟩
    obtain ⟨T189, h189, X189, e189, W189, st189⟩ := stC X187 hx hZ e187 Ar188 (j := (5 : Int32)) hin188 (g := (mkF m 39 #[.val (.int iv), .val (.int jv), .unset, .unset] [(.int (72 : Int32)), (.int (5 : Int32)), (.ref b177), (.ref b177)])) rfl rfl (hb hby at_39)
    refine own_go st189 ?_
    have V189 : Arv Z h189 b177 k177 .char (16 : Int32) [(.int (121 : Int32)), (.int (77 : Int32)), (.int (119 : Int32)), (.int (100 : Int32)), (.int (104 : Int32)), (.int (72 : Int32)), (.int (0 : Int32)), (.int (0 : Int32)), (.int (0 : Int32)), (.int (0 : Int32)), (.int (0 : Int32)), (.int (0 : Int32)), (.int (0 : Int32)), (.int (0 : Int32)), (.int (0 : Int32)), (.int (0 : Int32))] (.int (0 : Int32)) := Arv.set Ar188 qk188 sz188 nn188 ha188 gf188 rfl W189 5 rfl (Nat.le_of_ble_eq_true rfl)
    have Z189 : n0 ≤ h189.size := (Nat.le_trans Z187 (Nat.le_of_eq W189.size.symm))
    have N189 := Fr.snoc X189 N187 q177
    show own_Go _ _ _ _ (T189.setTop (mkF m 40 #[.val (.int iv), .val (.int jv), .unset, .unset] [(.ref b177)]))
    refine own_go (fun t k => XS.dup X189.here hx rfl (hb hby at_40) rfl rfl k) ?_
    show own_Go _ _ _ _ (T189.setTop (mkF m 41 #[.val (.int iv), .val (.int jv), .unset, .unset] [(.ref b177), (.ref b177)]))
    refine own_go (fun t k => XS.bipush X189.here hx rfl (hb hby at_41) k) ?_
    show own_Go _ _ _ _ (T189.setTop (mkF m 43 #[.val (.int iv), .val (.int jv), .unset, .unset] [(.int (6 : Int32)), (.ref b177), (.ref b177)]))
    refine own_go (fun t k => XS.bipush X189.here hx rfl (hb hby at_43) k) ?_
    show own_Go _ _ _ _ (T189.setTop (mkF m 45 #[.val (.int iv), .val (.int jv), .unset, .unset] [(.int (109 : Int32)), (.int (6 : Int32)), (.ref b177), (.ref b177)]))
    obtain ⟨cl190, Ar190, qk190, sz190, nn190, ha190, gf190⟩ := id V189
    have hin190 : ¬ ((6 : Int32) < 0 ∨ cl190.slots.size ≤ ((6 : Int32)).toNatClampNeg) := inb_of sz190 ⟨by decide, by decide⟩
    obtain ⟨T191, h191, X191, e191, W191, st191⟩ := stC X189 hx hZ e189 Ar190 (j := (6 : Int32)) hin190 (g := (mkF m 45 #[.val (.int iv), .val (.int jv), .unset, .unset] [(.int (109 : Int32)), (.int (6 : Int32)), (.ref b177), (.ref b177)])) rfl rfl (hb hby at_45)
    refine own_go st191 ?_
    have V191 : Arv Z h191 b177 k177 .char (16 : Int32) [(.int (121 : Int32)), (.int (77 : Int32)), (.int (119 : Int32)), (.int (100 : Int32)), (.int (104 : Int32)), (.int (72 : Int32)), (.int (109 : Int32)), (.int (0 : Int32)), (.int (0 : Int32)), (.int (0 : Int32)), (.int (0 : Int32)), (.int (0 : Int32)), (.int (0 : Int32)), (.int (0 : Int32)), (.int (0 : Int32)), (.int (0 : Int32))] (.int (0 : Int32)) := Arv.set Ar190 qk190 sz190 nn190 ha190 gf190 rfl W191 6 rfl (Nat.le_of_ble_eq_true rfl)
    have Z191 : n0 ≤ h191.size := (Nat.le_trans Z189 (Nat.le_of_eq W191.size.symm))
    have N191 := Fr.snoc X191 N189 q177
    show own_Go _ _ _ _ (T191.setTop (mkF m 46 #[.val (.int iv), .val (.int jv), .unset, .unset] [(.ref b177)]))
    refine own_go (fun t k => XS.dup X191.here hx rfl (hb hby at_46) rfl rfl k) ?_
    show own_Go _ _ _ _ (T191.setTop (mkF m 47 #[.val (.int iv), .val (.int jv), .unset, .unset] [(.ref b177), (.ref b177)]))
    refine own_go (fun t k => XS.bipush X191.here hx rfl (hb hby at_47) k) ?_
    show own_Go _ _ _ _ (T191.setTop (mkF m 49 #[.val (.int iv), .val (.int jv), .unset, .unset] [(.int (7 : Int32)), (.ref b177), (.ref b177)]))
    refine own_go (fun t k => XS.bipush X191.here hx rfl (hb hby at_49) k) ?_
    show own_Go _ _ _ _ (T191.setTop (mkF m 51 #[.val (.int iv), .val (.int jv), .unset, .unset] [(.int (115 : Int32)), (.int (7 : Int32)), (.ref b177), (.ref b177)]))
    obtain ⟨cl192, Ar192, qk192, sz192, nn192, ha192, gf192⟩ := id V191
    have hin192 : ¬ ((7 : Int32) < 0 ∨ cl192.slots.size ≤ ((7 : Int32)).toNatClampNeg) := inb_of sz192 ⟨by decide, by decide⟩
    obtain ⟨T193, h193, X193, e193, W193, st193⟩ := stC X191 hx hZ e191 Ar192 (j := (7 : Int32)) hin192 (g := (mkF m 51 #[.val (.int iv), .val (.int jv), .unset, .unset] [(.int (115 : Int32)), (.int (7 : Int32)), (.ref b177), (.ref b177)])) rfl rfl (hb hby at_51)
    refine own_go st193 ?_
    have V193 : Arv Z h193 b177 k177 .char (16 : Int32) [(.int (121 : Int32)), (.int (77 : Int32)), (.int (119 : Int32)), (.int (100 : Int32)), (.int (104 : Int32)), (.int (72 : Int32)), (.int (109 : Int32)), (.int (115 : Int32)), (.int (0 : Int32)), (.int (0 : Int32)), (.int (0 : Int32)), (.int (0 : Int32)), (.int (0 : Int32)), (.int (0 : Int32)), (.int (0 : Int32)), (.int (0 : Int32))] (.int (0 : Int32)) := Arv.set Ar192 qk192 sz192 nn192 ha192 gf192 rfl W193 7 rfl (Nat.le_of_ble_eq_true rfl)
    have Z193 : n0 ≤ h193.size := (Nat.le_trans Z191 (Nat.le_of_eq W193.size.symm))
    have N193 := Fr.snoc X193 N191 q177
    show own_Go _ _ _ _ (T193.setTop (mkF m 52 #[.val (.int iv), .val (.int jv), .unset, .unset] [(.ref b177)]))
    refine own_go (fun t k => XS.dup X193.here hx rfl (hb hby at_52) rfl rfl k) ?_
    show own_Go _ _ _ _ (T193.setTop (mkF m 53 #[.val (.int iv), .val (.int jv), .unset, .unset] [(.ref b177), (.ref b177)]))
    refine own_go (fun t k => XS.bipush X193.here hx rfl (hb hby at_53) k) ?_
    show own_Go _ _ _ _ (T193.setTop (mkF m 55 #[.val (.int iv), .val (.int jv), .unset, .unset] [(.int (8 : Int32)), (.ref b177), (.ref b177)]))
    refine own_go (fun t k => XS.bipush X193.here hx rfl (hb hby at_55) k) ?_
    show own_Go _ _ _ _ (T193.setTop (mkF m 57 #[.val (.int iv), .val (.int jv), .unset, .unset] [(.int (113 : Int32)), (.int (8 : Int32)), (.ref b177), (.ref b177)]))
    obtain ⟨cl194, Ar194, qk194, sz194, nn194, ha194, gf194⟩ := id V193
    have hin194 : ¬ ((8 : Int32) < 0 ∨ cl194.slots.size ≤ ((8 : Int32)).toNatClampNeg) := inb_of sz194 ⟨by decide, by decide⟩
    obtain ⟨T195, h195, X195, e195, W195, st195⟩ := stC X193 hx hZ e193 Ar194 (j := (8 : Int32)) hin194 (g := (mkF m 57 #[.val (.int iv), .val (.int jv), .unset, .unset] [(.int (113 : Int32)), (.int (8 : Int32)), (.ref b177), (.ref b177)])) rfl rfl (hb hby at_57)
    refine own_go st195 ?_
    have V195 : Arv Z h195 b177 k177 .char (16 : Int32) [(.int (121 : Int32)), (.int (77 : Int32)), (.int (119 : Int32)), (.int (100 : Int32)), (.int (104 : Int32)), (.int (72 : Int32)), (.int (109 : Int32)), (.int (115 : Int32)), (.int (113 : Int32)), (.int (0 : Int32)), (.int (0 : Int32)), (.int (0 : Int32)), (.int (0 : Int32)), (.int (0 : Int32)), (.int (0 : Int32)), (.int (0 : Int32))] (.int (0 : Int32)) := Arv.set Ar194 qk194 sz194 nn194 ha194 gf194 rfl W195 8 rfl (Nat.le_of_ble_eq_true rfl)
    have Z195 : n0 ≤ h195.size := (Nat.le_trans Z193 (Nat.le_of_eq W195.size.symm))
    have N195 := Fr.snoc X195 N193 q177
    show own_Go _ _ _ _ (T195.setTop (mkF m 58 #[.val (.int iv), .val (.int jv), .unset, .unset] [(.ref b177)]))
    refine own_go (fun t k => XS.dup X195.here hx rfl (hb hby at_58) rfl rfl k) ?_
    show own_Go _ _ _ _ (T195.setTop (mkF m 59 #[.val (.int iv), .val (.int jv), .unset, .unset] [(.ref b177), (.ref b177)]))
    refine own_go (fun t k => XS.bipush X195.here hx rfl (hb hby at_59) k) ?_
    show own_Go _ _ _ _ (T195.setTop (mkF m 61 #[.val (.int iv), .val (.int jv), .unset, .unset] [(.int (9 : Int32)), (.ref b177), (.ref b177)]))
    refine own_go (fun t k => XS.bipush X195.here hx rfl (hb hby at_61) k) ?_
    show own_Go _ _ _ _ (T195.setTop (mkF m 63 #[.val (.int iv), .val (.int jv), .unset, .unset] [(.int (89 : Int32)), (.int (9 : Int32)), (.ref b177), (.ref b177)]))
    obtain ⟨cl196, Ar196, qk196, sz196, nn196, ha196, gf196⟩ := id V195
    have hin196 : ¬ ((9 : Int32) < 0 ∨ cl196.slots.size ≤ ((9 : Int32)).toNatClampNeg) := inb_of sz196 ⟨by decide, by decide⟩
    obtain ⟨T197, h197, X197, e197, W197, st197⟩ := stC X195 hx hZ e195 Ar196 (j := (9 : Int32)) hin196 (g := (mkF m 63 #[.val (.int iv), .val (.int jv), .unset, .unset] [(.int (89 : Int32)), (.int (9 : Int32)), (.ref b177), (.ref b177)])) rfl rfl (hb hby at_63)
    refine own_go st197 ?_
    have V197 : Arv Z h197 b177 k177 .char (16 : Int32) [(.int (121 : Int32)), (.int (77 : Int32)), (.int (119 : Int32)), (.int (100 : Int32)), (.int (104 : Int32)), (.int (72 : Int32)), (.int (109 : Int32)), (.int (115 : Int32)), (.int (113 : Int32)), (.int (89 : Int32)), (.int (0 : Int32)), (.int (0 : Int32)), (.int (0 : Int32)), (.int (0 : Int32)), (.int (0 : Int32)), (.int (0 : Int32))] (.int (0 : Int32)) := Arv.set Ar196 qk196 sz196 nn196 ha196 gf196 rfl W197 9 rfl (Nat.le_of_ble_eq_true rfl)
    have Z197 : n0 ≤ h197.size := (Nat.le_trans Z195 (Nat.le_of_eq W197.size.symm))
    have N197 := Fr.snoc X197 N195 q177
    show own_Go _ _ _ _ (T197.setTop (mkF m 64 #[.val (.int iv), .val (.int jv), .unset, .unset] [(.ref b177)]))
    refine own_go (fun t k => XS.dup X197.here hx rfl (hb hby at_64) rfl rfl k) ?_
    show own_Go _ _ _ _ (T197.setTop (mkF m 65 #[.val (.int iv), .val (.int jv), .unset, .unset] [(.ref b177), (.ref b177)]))
    refine own_go (fun t k => XS.bipush X197.here hx rfl (hb hby at_65) k) ?_
    show own_Go _ _ _ _ (T197.setTop (mkF m 67 #[.val (.int iv), .val (.int jv), .unset, .unset] [(.int (10 : Int32)), (.ref b177), (.ref b177)]))
    refine own_go (fun t k => XS.bipush X197.here hx rfl (hb hby at_67) k) ?_
    show own_Go _ _ _ _ (T197.setTop (mkF m 69 #[.val (.int iv), .val (.int jv), .unset, .unset] [(.int (68 : Int32)), (.int (10 : Int32)), (.ref b177), (.ref b177)]))
    obtain ⟨cl198, Ar198, qk198, sz198, nn198, ha198, gf198⟩ := id V197
    have hin198 : ¬ ((10 : Int32) < 0 ∨ cl198.slots.size ≤ ((10 : Int32)).toNatClampNeg) := inb_of sz198 ⟨by decide, by decide⟩
    obtain ⟨T199, h199, X199, e199, W199, st199⟩ := stC X197 hx hZ e197 Ar198 (j := (10 : Int32)) hin198 (g := (mkF m 69 #[.val (.int iv), .val (.int jv), .unset, .unset] [(.int (68 : Int32)), (.int (10 : Int32)), (.ref b177), (.ref b177)])) rfl rfl (hb hby at_69)
    refine own_go st199 ?_
    have V199 : Arv Z h199 b177 k177 .char (16 : Int32) [(.int (121 : Int32)), (.int (77 : Int32)), (.int (119 : Int32)), (.int (100 : Int32)), (.int (104 : Int32)), (.int (72 : Int32)), (.int (109 : Int32)), (.int (115 : Int32)), (.int (113 : Int32)), (.int (89 : Int32)), (.int (68 : Int32)), (.int (0 : Int32)), (.int (0 : Int32)), (.int (0 : Int32)), (.int (0 : Int32)), (.int (0 : Int32))] (.int (0 : Int32)) := Arv.set Ar198 qk198 sz198 nn198 ha198 gf198 rfl W199 10 rfl (Nat.le_of_ble_eq_true rfl)
    have Z199 : n0 ≤ h199.size := (Nat.le_trans Z197 (Nat.le_of_eq W199.size.symm))
    have N199 := Fr.snoc X199 N197 q177
    show own_Go _ _ _ _ (T199.setTop (mkF m 70 #[.val (.int iv), .val (.int jv), .unset, .unset] [(.ref b177)]))
    refine own_go (fun t k => XS.dup X199.here hx rfl (hb hby at_70) rfl rfl k) ?_
    show own_Go _ _ _ _ (T199.setTop (mkF m 71 #[.val (.int iv), .val (.int jv), .unset, .unset] [(.ref b177), (.ref b177)]))
    refine own_go (fun t k => XS.bipush X199.here hx rfl (hb hby at_71) k) ?_
    show own_Go _ _ _ _ (T199.setTop (mkF m 73 #[.val (.int iv), .val (.int jv), .unset, .unset] [(.int (11 : Int32)), (.ref b177), (.ref b177)]))
    refine own_go (fun t k => XS.bipush X199.here hx rfl (hb hby at_73) k) ?_
    show own_Go _ _ _ _ (T199.setTop (mkF m 75 #[.val (.int iv), .val (.int jv), .unset, .unset] [(.int (87 : Int32)), (.int (11 : Int32)), (.ref b177), (.ref b177)]))
    obtain ⟨cl200, Ar200, qk200, sz200, nn200, ha200, gf200⟩ := id V199
    have hin200 : ¬ ((11 : Int32) < 0 ∨ cl200.slots.size ≤ ((11 : Int32)).toNatClampNeg) := inb_of sz200 ⟨by decide, by decide⟩
    obtain ⟨T201, h201, X201, e201, W201, st201⟩ := stC X199 hx hZ e199 Ar200 (j := (11 : Int32)) hin200 (g := (mkF m 75 #[.val (.int iv), .val (.int jv), .unset, .unset] [(.int (87 : Int32)), (.int (11 : Int32)), (.ref b177), (.ref b177)])) rfl rfl (hb hby at_75)
    refine own_go st201 ?_
    have V201 : Arv Z h201 b177 k177 .char (16 : Int32) [(.int (121 : Int32)), (.int (77 : Int32)), (.int (119 : Int32)), (.int (100 : Int32)), (.int (104 : Int32)), (.int (72 : Int32)), (.int (109 : Int32)), (.int (115 : Int32)), (.int (113 : Int32)), (.int (89 : Int32)), (.int (68 : Int32)), (.int (87 : Int32)), (.int (0 : Int32)), (.int (0 : Int32)), (.int (0 : Int32)), (.int (0 : Int32))] (.int (0 : Int32)) := Arv.set Ar200 qk200 sz200 nn200 ha200 gf200 rfl W201 11 rfl (Nat.le_of_ble_eq_true rfl)
    have Z201 : n0 ≤ h201.size := (Nat.le_trans Z199 (Nat.le_of_eq W201.size.symm))
    have N201 := Fr.snoc X201 N199 q177
    show own_Go _ _ _ _ (T201.setTop (mkF m 76 #[.val (.int iv), .val (.int jv), .unset, .unset] [(.ref b177)]))
    refine own_go (fun t k => XS.dup X201.here hx rfl (hb hby at_76) rfl rfl k) ?_
    show own_Go _ _ _ _ (T201.setTop (mkF m 77 #[.val (.int iv), .val (.int jv), .unset, .unset] [(.ref b177), (.ref b177)]))
    refine own_go (fun t k => XS.bipush X201.here hx rfl (hb hby at_77) k) ?_
    show own_Go _ _ _ _ (T201.setTop (mkF m 79 #[.val (.int iv), .val (.int jv), .unset, .unset] [(.int (12 : Int32)), (.ref b177), (.ref b177)]))
    refine own_go (fun t k => XS.bipush X201.here hx rfl (hb hby at_79) k) ?_
    show own_Go _ _ _ _ (T201.setTop (mkF m 81 #[.val (.int iv), .val (.int jv), .unset, .unset] [(.int (83 : Int32)), (.int (12 : Int32)), (.ref b177), (.ref b177)]))
    obtain ⟨cl202, Ar202, qk202, sz202, nn202, ha202, gf202⟩ := id V201
    have hin202 : ¬ ((12 : Int32) < 0 ∨ cl202.slots.size ≤ ((12 : Int32)).toNatClampNeg) := inb_of sz202 ⟨by decide, by decide⟩
    obtain ⟨T203, h203, X203, e203, W203, st203⟩ := stC X201 hx hZ e201 Ar202 (j := (12 : Int32)) hin202 (g := (mkF m 81 #[.val (.int iv), .val (.int jv), .unset, .unset] [(.int (83 : Int32)), (.int (12 : Int32)), (.ref b177), (.ref b177)])) rfl rfl (hb hby at_81)
    refine own_go st203 ?_
    have V203 : Arv Z h203 b177 k177 .char (16 : Int32) [(.int (121 : Int32)), (.int (77 : Int32)), (.int (119 : Int32)), (.int (100 : Int32)), (.int (104 : Int32)), (.int (72 : Int32)), (.int (109 : Int32)), (.int (115 : Int32)), (.int (113 : Int32)), (.int (89 : Int32)), (.int (68 : Int32)), (.int (87 : Int32)), (.int (83 : Int32)), (.int (0 : Int32)), (.int (0 : Int32)), (.int (0 : Int32))] (.int (0 : Int32)) := Arv.set Ar202 qk202 sz202 nn202 ha202 gf202 rfl W203 12 rfl (Nat.le_of_ble_eq_true rfl)
    have Z203 : n0 ≤ h203.size := (Nat.le_trans Z201 (Nat.le_of_eq W203.size.symm))
    have N203 := Fr.snoc X203 N201 q177
    show own_Go _ _ _ _ (T203.setTop (mkF m 82 #[.val (.int iv), .val (.int jv), .unset, .unset] [(.ref b177)]))
    refine own_go (fun t k => XS.dup X203.here hx rfl (hb hby at_82) rfl rfl k) ?_
    show own_Go _ _ _ _ (T203.setTop (mkF m 83 #[.val (.int iv), .val (.int jv), .unset, .unset] [(.ref b177), (.ref b177)]))
    refine own_go (fun t k => XS.bipush X203.here hx rfl (hb hby at_83) k) ?_
    show own_Go _ _ _ _ (T203.setTop (mkF m 85 #[.val (.int iv), .val (.int jv), .unset, .unset] [(.int (13 : Int32)), (.ref b177), (.ref b177)]))
    refine own_go (fun t k => XS.bipush X203.here hx rfl (hb hby at_85) k) ?_
    show own_Go _ _ _ _ (T203.setTop (mkF m 87 #[.val (.int iv), .val (.int jv), .unset, .unset] [(.int (120 : Int32)), (.int (13 : Int32)), (.ref b177), (.ref b177)]))
    obtain ⟨cl204, Ar204, qk204, sz204, nn204, ha204, gf204⟩ := id V203
    have hin204 : ¬ ((13 : Int32) < 0 ∨ cl204.slots.size ≤ ((13 : Int32)).toNatClampNeg) := inb_of sz204 ⟨by decide, by decide⟩
    obtain ⟨T205, h205, X205, e205, W205, st205⟩ := stC X203 hx hZ e203 Ar204 (j := (13 : Int32)) hin204 (g := (mkF m 87 #[.val (.int iv), .val (.int jv), .unset, .unset] [(.int (120 : Int32)), (.int (13 : Int32)), (.ref b177), (.ref b177)])) rfl rfl (hb hby at_87)
    refine own_go st205 ?_
    have V205 : Arv Z h205 b177 k177 .char (16 : Int32) [(.int (121 : Int32)), (.int (77 : Int32)), (.int (119 : Int32)), (.int (100 : Int32)), (.int (104 : Int32)), (.int (72 : Int32)), (.int (109 : Int32)), (.int (115 : Int32)), (.int (113 : Int32)), (.int (89 : Int32)), (.int (68 : Int32)), (.int (87 : Int32)), (.int (83 : Int32)), (.int (120 : Int32)), (.int (0 : Int32)), (.int (0 : Int32))] (.int (0 : Int32)) := Arv.set Ar204 qk204 sz204 nn204 ha204 gf204 rfl W205 13 rfl (Nat.le_of_ble_eq_true rfl)
    have Z205 : n0 ≤ h205.size := (Nat.le_trans Z203 (Nat.le_of_eq W205.size.symm))
    have N205 := Fr.snoc X205 N203 q177
    show own_Go _ _ _ _ (T205.setTop (mkF m 88 #[.val (.int iv), .val (.int jv), .unset, .unset] [(.ref b177)]))
    refine own_go (fun t k => XS.dup X205.here hx rfl (hb hby at_88) rfl rfl k) ?_
    show own_Go _ _ _ _ (T205.setTop (mkF m 89 #[.val (.int iv), .val (.int jv), .unset, .unset] [(.ref b177), (.ref b177)]))
    refine own_go (fun t k => XS.bipush X205.here hx rfl (hb hby at_89) k) ?_
    show own_Go _ _ _ _ (T205.setTop (mkF m 91 #[.val (.int iv), .val (.int jv), .unset, .unset] [(.int (14 : Int32)), (.ref b177), (.ref b177)]))
    refine own_go (fun t k => XS.bipush X205.here hx rfl (hb hby at_91) k) ?_
    show own_Go _ _ _ _ (T205.setTop (mkF m 93 #[.val (.int iv), .val (.int jv), .unset, .unset] [(.int (81 : Int32)), (.int (14 : Int32)), (.ref b177), (.ref b177)]))
    obtain ⟨cl206, Ar206, qk206, sz206, nn206, ha206, gf206⟩ := id V205
    have hin206 : ¬ ((14 : Int32) < 0 ∨ cl206.slots.size ≤ ((14 : Int32)).toNatClampNeg) := inb_of sz206 ⟨by decide, by decide⟩
    obtain ⟨T207, h207, X207, e207, W207, st207⟩ := stC X205 hx hZ e205 Ar206 (j := (14 : Int32)) hin206 (g := (mkF m 93 #[.val (.int iv), .val (.int jv), .unset, .unset] [(.int (81 : Int32)), (.int (14 : Int32)), (.ref b177), (.ref b177)])) rfl rfl (hb hby at_93)
    refine own_go st207 ?_
    have V207 : Arv Z h207 b177 k177 .char (16 : Int32) [(.int (121 : Int32)), (.int (77 : Int32)), (.int (119 : Int32)), (.int (100 : Int32)), (.int (104 : Int32)), (.int (72 : Int32)), (.int (109 : Int32)), (.int (115 : Int32)), (.int (113 : Int32)), (.int (89 : Int32)), (.int (68 : Int32)), (.int (87 : Int32)), (.int (83 : Int32)), (.int (120 : Int32)), (.int (81 : Int32)), (.int (0 : Int32))] (.int (0 : Int32)) := Arv.set Ar206 qk206 sz206 nn206 ha206 gf206 rfl W207 14 rfl (Nat.le_of_ble_eq_true rfl)
    have Z207 : n0 ≤ h207.size := (Nat.le_trans Z205 (Nat.le_of_eq W207.size.symm))
    have N207 := Fr.snoc X207 N205 q177
    show own_Go _ _ _ _ (T207.setTop (mkF m 94 #[.val (.int iv), .val (.int jv), .unset, .unset] [(.ref b177)]))
    refine own_go (fun t k => XS.dup X207.here hx rfl (hb hby at_94) rfl rfl k) ?_
    show own_Go _ _ _ _ (T207.setTop (mkF m 95 #[.val (.int iv), .val (.int jv), .unset, .unset] [(.ref b177), (.ref b177)]))
    refine own_go (fun t k => XS.bipush X207.here hx rfl (hb hby at_95) k) ?_
    show own_Go _ _ _ _ (T207.setTop (mkF m 97 #[.val (.int iv), .val (.int jv), .unset, .unset] [(.int (15 : Int32)), (.ref b177), (.ref b177)]))
    refine own_go (fun t k => XS.bipush X207.here hx rfl (hb hby at_97) k) ?_
    show own_Go _ _ _ _ (T207.setTop (mkF m 99 #[.val (.int iv), .val (.int jv), .unset, .unset] [(.int (49 : Int32)), (.int (15 : Int32)), (.ref b177), (.ref b177)]))
    obtain ⟨cl208, Ar208, qk208, sz208, nn208, ha208, gf208⟩ := id V207
    have hin208 : ¬ ((15 : Int32) < 0 ∨ cl208.slots.size ≤ ((15 : Int32)).toNatClampNeg) := inb_of sz208 ⟨by decide, by decide⟩
    obtain ⟨T209, h209, X209, e209, W209, st209⟩ := stC X207 hx hZ e207 Ar208 (j := (15 : Int32)) hin208 (g := (mkF m 99 #[.val (.int iv), .val (.int jv), .unset, .unset] [(.int (49 : Int32)), (.int (15 : Int32)), (.ref b177), (.ref b177)])) rfl rfl (hb hby at_99)
    refine own_go st209 ?_
    have V209 : Arv Z h209 b177 k177 .char (16 : Int32) [(.int (121 : Int32)), (.int (77 : Int32)), (.int (119 : Int32)), (.int (100 : Int32)), (.int (104 : Int32)), (.int (72 : Int32)), (.int (109 : Int32)), (.int (115 : Int32)), (.int (113 : Int32)), (.int (89 : Int32)), (.int (68 : Int32)), (.int (87 : Int32)), (.int (83 : Int32)), (.int (120 : Int32)), (.int (81 : Int32)), (.int (49 : Int32))] (.int (0 : Int32)) := Arv.set Ar208 qk208 sz208 nn208 ha208 gf208 rfl W209 15 rfl (Nat.le_of_ble_eq_true rfl)
    have Z209 : n0 ≤ h209.size := (Nat.le_trans Z207 (Nat.le_of_eq W209.size.symm))
    have N209 := Fr.snoc X209 N207 q177
    show own_Go _ _ _ _ (T209.setTop (mkF m 100 #[.val (.int iv), .val (.int jv), .unset, .unset] [(.ref b177)]))
    refine own_go (fun t k => XS.astoreN X209.here hx rfl (hb hby at_100) rfl rfl (l' := #[.val (.int iv), .val (.int jv), .unset, .val (.ref b177)]) rfl k) ?_
    show own_Go _ _ _ _ (T209.setTop (mkF m 101 #[.val (.int iv), .val (.int jv), .unset, .val (.ref b177)] []))
    refine own_go (fun t k => XS.aloadN X209.here hx rfl (hb hby at_101) rfl rfl k) ?_
    show own_Go _ _ _ _ (T209.setTop (mkF m 102 #[.val (.int iv), .val (.int jv), .unset, .val (.ref b177)] [(.ref b177)]))
    refine own_go (fun t k => XS.iloadN X209.here hx rfl (hb hby at_102) rfl k) ?_
    show own_Go _ _ _ _ (T209.setTop (mkF m 103 #[.val (.int iv), .val (.int jv), .unset, .val (.ref b177)] [(.int iv), (.ref b177)]))
    refine own_go (fun t k => XS.bipush X209.here hx rfl (hb hby at_103) k) ?_
    show own_Go _ _ _ _ (T209.setTop (mkF m 105 #[.val (.int iv), .val (.int jv), .unset, .val (.ref b177)] [(.int (15 : Int32)), (.int iv), (.ref b177)]))
    refine own_go (fun t k => XS.iand X209.here hx rfl (hb hby at_105) rfl k) ?_
    show own_Go _ _ _ _ (T209.setTop (mkF m 106 #[.val (.int iv), .val (.int jv), .unset, .val (.ref b177)] [(.int (iv &&& (15 : Int32))), (.ref b177)]))
    obtain ⟨cl210, Ar210, qk210, sz210, nn210, ha210, gf210⟩ := id V209
    have hs210 := own_sixteen iv
    generalize hkk210 : (iv &&& (15 : Int32)) = kk210 at hs210 ⊢
    have hin210 : ¬ (kk210 < 0 ∨ cl210.slots.size ≤ kk210.toNatClampNeg) := inb_of sz210 (own_lo16 hs210)
    have hjj210 : ∃ jj210 : Int32, cl210.slots[kk210.toNatClampNeg]? = some (.int jj210) := by rcases hs210 with h | h | h | h | h | h | h | h | h | h | h | h | h | h | h | h <;> subst h <;> exact ⟨_, ha210.at hin210 rfl⟩
    obtain ⟨jj210, hat210⟩ := hjj210
    refine own_go (X209.caload hx (j := kk210) (v := (.int jj210)) (by rw [e209]; exact Ar210.1) (State.isArrayOf_alike hZ.alike Ar210.2.1) Ar210.2.2 hin210 hat210 (g := (mkF m 106 #[.val (.int iv), .val (.int jv), .unset, .val (.ref b177)] [(.int kk210), (.ref b177)])) rfl rfl (hb hby at_106)) ?_
    show own_Go _ _ _ _ (T209.setTop (mkF m 107 #[.val (.int iv), .val (.int jv), .unset, .val (.ref b177)] [(.int jj210)]))
    refine own_go (fun t k => XS.istoreN X209.here hx rfl (hb hby at_107) rfl (l' := #[.val (.int iv), .val (.int jv), .val (.int jj210), .val (.ref b177)]) rfl k) ?_
    show own_Go _ _ _ _ (T209.setTop (mkF m 108 #[.val (.int iv), .val (.int jv), .val (.int jj210), .val (.ref b177)] []))
    refine own_go (fun t k => XS.goto X209.here hx rfl (pc0 := 108) (pc' := 114) rfl (hb hby at_108) (by decide) (by decide) k) ?_
    have f211 := (((((((((((((((((O0.ext E177).wr W179 q177).wr W181 q177).wr W183 q177).wr W185 q177).wr W187 q177).wr W189 q177).wr W191 q177).wr W193 q177).wr W195 q177).wr W197 q177).wr W199 q177).wr W201 q177).wr W203 q177).wr W205 q177).wr W207 q177).wr W209 q177)
    show own_Go _ _ _ _ (T209.setTop (mkF m 114 #[.val (.int iv), .val (.int jv), .val (.int jj210), .val (.ref b177)] []))
    exact sg_tail hw X209 hlk hret hx hby hml hown hZ e209 N209 Z209 jj210 gv zv uv kv u0 u1 u2 u3 u4 u5 u6 u7 s0_ s1_ s2_ s3_ s4_ s5_ s7_ t0_ t1_ t2_ t3_ t4_ t5_ t7_ k0_ k1_ k2_ k3_ k4_ k5_ k7_ (One.val rfl) f211 rgv G0 hzv S0 S_V A_V E_V S0_ S1_ S2_ S3_ S4_ S5_ S6_ S7_ L0_ Es0 Cs0 Vs0 As0 nq0 L1_ Es1 Cs1 Vs1 As1 nq1 L2_ Es2 Cs2 Vs2 As2 nq2 L3_ Es3 Cs3 Vs3 As3 nq3 L4_ Es4 Cs4 Vs4 As4 nq4 L5_ Es5 Cs5 Vs5 As5 nq5 L7_ Es7 Cs7 Vs7 As7 nq7 (by decide) (by decide)
theorem w_9 {Z : State} {a0 : Array Value} (hw : ∀ d ∈ tables_1, d.before a0 Z = true) : (Jvm.Cond.laysStatic "com/example/fathomsearch/fathomsearch/CalendarUnit" "$VALUES" "[Lcom/example/fathomsearch/fathomsearch/CalendarUnit;").before a0 Z = true := hw _ (List.mem_of_getElem? (i := 9) rfl)
theorem w_17 {Z : State} {a0 : Array Value} (hw : ∀ d ∈ tables_1, d.before a0 Z = true) : (Jvm.Cond.laysStatic "com/example/fathomsearch/fathomsearch/CalendarUnit" "SECOND" "Lcom/example/fathomsearch/fathomsearch/CalendarUnit;").before a0 Z = true := hw _ (List.mem_of_getElem? (i := 17) rfl)
theorem w_18 {Z : State} {a0 : Array Value} (hw : ∀ d ∈ tables_1, d.before a0 Z = true) : (Jvm.Cond.laysStatic "com/example/fathomsearch/fathomsearch/CalendarUnit" "MINUTE" "Lcom/example/fathomsearch/fathomsearch/CalendarUnit;").before a0 Z = true := hw _ (List.mem_of_getElem? (i := 18) rfl)
theorem w_19 {Z : State} {a0 : Array Value} (hw : ∀ d ∈ tables_1, d.before a0 Z = true) : (Jvm.Cond.laysStatic "com/example/fathomsearch/fathomsearch/CalendarUnit" "HOUR" "Lcom/example/fathomsearch/fathomsearch/CalendarUnit;").before a0 Z = true := hw _ (List.mem_of_getElem? (i := 19) rfl)
theorem w_20 {Z : State} {a0 : Array Value} (hw : ∀ d ∈ tables_1, d.before a0 Z = true) : (Jvm.Cond.laysStatic "com/example/fathomsearch/fathomsearch/CalendarUnit" "DAY" "Lcom/example/fathomsearch/fathomsearch/CalendarUnit;").before a0 Z = true := hw _ (List.mem_of_getElem? (i := 20) rfl)
theorem w_21 {Z : State} {a0 : Array Value} (hw : ∀ d ∈ tables_1, d.before a0 Z = true) : (Jvm.Cond.laysStatic "com/example/fathomsearch/fathomsearch/CalendarUnit" "WEEK" "Lcom/example/fathomsearch/fathomsearch/CalendarUnit;").before a0 Z = true := hw _ (List.mem_of_getElem? (i := 21) rfl)
theorem w_22 {Z : State} {a0 : Array Value} (hw : ∀ d ∈ tables_1, d.before a0 Z = true) : (Jvm.Cond.laysStatic "com/example/fathomsearch/fathomsearch/CalendarUnit" "MONTH" "Lcom/example/fathomsearch/fathomsearch/CalendarUnit;").before a0 Z = true := hw _ (List.mem_of_getElem? (i := 22) rfl)
theorem w_23 {Z : State} {a0 : Array Value} (hw : ∀ d ∈ tables_1, d.before a0 Z = true) : (Jvm.Cond.laysStatic "com/example/fathomsearch/fathomsearch/CalendarUnit" "QUARTER" "Lcom/example/fathomsearch/fathomsearch/CalendarUnit;").before a0 Z = true := hw _ (List.mem_of_getElem? (i := 23) rfl)
theorem w_24 {Z : State} {a0 : Array Value} (hw : ∀ d ∈ tables_1, d.before a0 Z = true) : (Jvm.Cond.laysStatic "com/example/fathomsearch/fathomsearch/CalendarUnit" "YEAR" "Lcom/example/fathomsearch/fathomsearch/CalendarUnit;").before a0 Z = true := hw _ (List.mem_of_getElem? (i := 24) rfl)
set_option maxRecDepth 65536 in
set_option maxHeartbeats 40000000 in
theorem comes_1 {Post : Tables → Env → Array Value → State → Outcome → State → Prop} (hpost : ∀ tb e args s v u, (limb_1_1.after args s (.returned v) u = true ∧ limb_1_2.after args s (.returned v) u = true ∧ True) → FrameEnd s (.returned v) u (Jvm.fieldLocs frame_1_writes args s ++ Jvm.arrayLocs frame_1_arrays args s ++ Jvm.staticLocs frame_1_statics s) 16 128 → Post tb e args s (.returned v) u) :
    ArmFor flags0 classFile x code maxLocals ret World_1 tables_1 room_1 Calls_1 rest_1 Pre_1 Post := by
  intro l hfl _ _ p e ha hc hk s m args below hf hA hF happ hP
  obtain ⟨hcalls, hrest, hpre⟩ := hP
  obtain ⟨-, -, -, hnamed, -, -, -, hat⟩ := (Spec.applies_iff hf).mp happ
  obtain ⟨hg, hn⟩ := and_e (Cond.before_iff.mp (show (Jvm.Cond.and given_1 narrow_1).before args s = true from hpre))
  obtain ⟨g1, g2⟩ := and_e hg
  obtain ⟨g3, g4⟩ := and_e g2
  obtain ⟨n1, n2⟩ := and_e hn
  obtain ⟨n3, n4⟩ := and_e n2
  obtain ⟨n5, n6⟩ := and_e n4
  obtain ⟨n7, n8⟩ := and_e n6
  obtain ⟨n9, n10⟩ := and_e n8
  obtain ⟨n11, n12⟩ := and_e n10
  obtain ⟨n13, n14⟩ := and_e n12
  obtain ⟨n15, n16⟩ := and_e n14
  obtain ⟨n17, n18⟩ := and_e n16
  obtain ⟨n19, n20⟩ := and_e n18
  obtain ⟨n21, n22⟩ := and_e n20
  obtain ⟨n23, n24⟩ := and_e n22
  obtain ⟨n25, n26⟩ := and_e n24
  obtain ⟨n27, n28⟩ := and_e n26
  obtain ⟨n29, n30⟩ := and_e n28
  obtain ⟨n31, n32⟩ := and_e n30
  obtain ⟨n33, n34⟩ := and_e n32
  obtain ⟨n35, n36⟩ := and_e n34
  obtain ⟨n37, n38⟩ := and_e n36
  obtain ⟨n39, n40⟩ := and_e n38
  obtain ⟨n41, n42⟩ := and_e n40
  obtain ⟨n43, n44⟩ := and_e n42
  obtain ⟨n45, n46⟩ := and_e n44
  obtain ⟨n47, n48⟩ := and_e n46
  obtain ⟨n49, n50⟩ := and_e n48
  obtain ⟨n51, n52⟩ := and_e n50
  obtain ⟨n53, n54⟩ := and_e n52
  obtain ⟨n55, n56⟩ := and_e n54
  obtain ⟨n57, n58⟩ := and_e n56
  obtain ⟨n59, n60⟩ := and_e n58
  obtain ⟨n61, n62⟩ := and_e n60
  obtain ⟨n63, n64⟩ := and_e n62
  obtain ⟨n65, n66⟩ := and_e n64
  obtain ⟨n67, n68⟩ := and_e n66
  obtain ⟨n69, n70⟩ := and_e n68
  obtain ⟨n71, n72⟩ := and_e n70
  obtain ⟨n73, n74⟩ := and_e n72
  obtain ⟨n75, n76⟩ := and_e n74
  obtain ⟨n77, n78⟩ := and_e n76
  obtain ⟨n79, n80⟩ := and_e n78
  obtain ⟨n81, n82⟩ := and_e n80
  obtain ⟨n83, n84⟩ := and_e n82
  obtain ⟨n85, n86⟩ := and_e n84
  obtain ⟨n87, n88⟩ := and_e n86
  obtain ⟨n89, n90⟩ := and_e n88
  obtain ⟨n91, n92⟩ := and_e n90
  obtain ⟨n93, n94⟩ := and_e n92
  obtain ⟨n95, n96⟩ := and_e n94
  obtain ⟨n97, n98⟩ := and_e n96
  obtain ⟨n99, n100⟩ := and_e n98
  obtain ⟨n101, n102⟩ := and_e n100
  obtain ⟨n103, n104⟩ := and_e n102
  obtain ⟨n105, n106⟩ := and_e n104
  obtain ⟨n107, n108⟩ := and_e n106
  obtain ⟨n109, n110⟩ := and_e n108
  obtain ⟨n111, n112⟩ := and_e n110
  obtain ⟨n113, n114⟩ := and_e n112
  obtain ⟨n115, n116⟩ := and_e n114
  obtain ⟨n117, n118⟩ := and_e n116
  obtain ⟨n119, n120⟩ := and_e n118
  obtain ⟨n121, n122⟩ := and_e n120
  obtain ⟨n123, n124⟩ := and_e n122
  obtain ⟨n125, n126⟩ := and_e n124
  obtain ⟨n127, n128⟩ := and_e n126
  obtain ⟨n129, n130⟩ := and_e n128
  obtain ⟨n131, n132⟩ := and_e n130
  obtain ⟨w0, w1, rfl⟩ : ∃ w0 w1 : Value, args = #[w0, w1] := by
    have hs : args.size = 2 := by simpa [Cond.value, given_1] using g1
    obtain ⟨L⟩ := args
    match L, hs with
    | [w0, w1], _ => exact ⟨w0, w1, rfl⟩
  have hw := fun d (hd : d ∈ tables_1) => atoms_spec (ws := Jvm.Cond.code x code maxLocals ret :: tables_1) hat d (List.mem_cons_of_mem _ hd)
  have hfit : Fit s := fun {y c} hc i hi => by
    obtain ⟨ha, rfl⟩ := Array.getElem?_eq_some_iff.mp hc
    have q := List.all_eq_true.mp ((Array.all_eq_true_iff_forall_mem.mp hF) _ (Array.getElem_mem ha)) i (List.mem_range.mpr hi)
    simpa [Array.getElem?_eq_getElem hi] using q
  obtain ⟨hsets, hown0⟩ := atoms_of _ (rest_1_c_eq ▸ (show rest_1_c.before _ s = true from hrest))
  have hr0 := Cond.before_iff.mp hown0
  obtain ⟨i0, ei0⟩ := is_v g3
  obtain rfl : w0 = (.int i0) := Option.some.inj ei0
  obtain ⟨i1, ei1⟩ := is_v g4
  obtain rfl : w1 = (.int i1) := Option.some.inj ei1
  obtain ⟨uv, evv⟩ := exa_v n3
  have E_V := Exa.start evv n3
  have S_V := Sta.start evv (Or.inr ⟨(w_3 hw), (w_9 hw)⟩)
  obtain ⟨cv_, Av_⟩ := Arr.start evv n1
  have lv := own_len evv Av_ n5
  obtain ⟨u0, ev0⟩ := exa_v n7
  have G0 := own_fld ev0 n39
  have S0_ := Sta.start ev0 (Or.inr ⟨(w_3 hw), (w_17 hw)⟩)
  have l0 := own_elR ev0 evv Av_ n9
  obtain ⟨u1, ev1⟩ := exa_v n11
  have G1 := own_fld ev1 n53
  have S1_ := Sta.start ev1 (Or.inr ⟨(w_3 hw), (w_18 hw)⟩)
  have l1 := own_elR ev1 evv Av_ n13
  obtain ⟨u2, ev2⟩ := exa_v n15
  have G2 := own_fld ev2 n65
  have S2_ := Sta.start ev2 (Or.inr ⟨(w_3 hw), (w_19 hw)⟩)
  have l2 := own_elR ev2 evv Av_ n17
  obtain ⟨u3, ev3⟩ := exa_v n19
  have G3 := own_fld ev3 n77
  have S3_ := Sta.start ev3 (Or.inr ⟨(w_3 hw), (w_20 hw)⟩)
  have l3 := own_elR ev3 evv Av_ n21
  obtain ⟨u4, ev4⟩ := exa_v n23
  have G4 := own_fld ev4 n89
  have S4_ := Sta.start ev4 (Or.inr ⟨(w_3 hw), (w_21 hw)⟩)
  have l4 := own_elR ev4 evv Av_ n25
  obtain ⟨u5, ev5⟩ := exa_v n27
  have G5 := own_fld ev5 n101
  have S5_ := Sta.start ev5 (Or.inr ⟨(w_3 hw), (w_22 hw)⟩)
  have l5 := own_elR ev5 evv Av_ n29
  obtain ⟨u6, ev6⟩ := exa_v n31
  have G6 := own_fld ev6 n41
  have S6_ := Sta.start ev6 (Or.inr ⟨(w_3 hw), (w_23 hw)⟩)
  have l6 := own_elR ev6 evv Av_ n33
  obtain ⟨u7, ev7⟩ := exa_v n35
  have G7 := own_fld ev7 n113
  have S7_ := Sta.start ev7 (Or.inr ⟨(w_3 hw), (w_24 hw)⟩)
  have l7 := own_elR ev7 evv Av_ n37
  have A_V : Arv s s.heap uv cv_.cls (.object "com/example/fathomsearch/fathomsearch/CalendarUnit") (8 : Int32) [(.ref u0), (.ref u1), (.ref u2), (.ref u3), (.ref u4), (.ref u5), (.ref u6), (.ref u7)] .null := Arv.start hfit Av_ lv.1 lv.2 (by decide) rfl ⟨l0, l1, l2, l3, l4, l5, l6, l7, trivial⟩
  obtain ⟨s0_, es0⟩ := exa_v n43
  have Es0 := Exa.start es0 n43
  have L0_ := own_fldR ev0 es0
  have Cs0 := own_fld es0 n45
  obtain ⟨t0_, et0⟩ := arr_v n47
  have Vs0 := own_fldR es0 et0
  obtain ⟨cs0, As0_⟩ := Arr.start et0 n47
  have ls0 := own_len et0 As0_ n49
  have As0 : Arv s s.heap t0_ cs0.cls .byte (1 : Int32) [(.int (115 : Int32))] (.int (0 : Int32)) := Arv.start hfit As0_ ls0.1 ls0.2 (by decide) rfl ⟨own_el et0 As0_ n51, trivial⟩
  have nq0 : ¬ u0 = u6 := G0.ne G6 (by decide)
  obtain ⟨s1_, es1⟩ := exa_v n55
  have Es1 := Exa.start es1 n55
  have L1_ := own_fldR ev1 es1
  have Cs1 := own_fld es1 n57
  obtain ⟨t1_, et1⟩ := arr_v n59
  have Vs1 := own_fldR es1 et1
  obtain ⟨cs1, As1_⟩ := Arr.start et1 n59
  have ls1 := own_len et1 As1_ n61
  have As1 : Arv s s.heap t1_ cs1.cls .byte (1 : Int32) [(.int (109 : Int32))] (.int (0 : Int32)) := Arv.start hfit As1_ ls1.1 ls1.2 (by decide) rfl ⟨own_el et1 As1_ n63, trivial⟩
  have nq1 : ¬ u1 = u6 := G1.ne G6 (by decide)
  obtain ⟨s2_, es2⟩ := exa_v n67
  have Es2 := Exa.start es2 n67
  have L2_ := own_fldR ev2 es2
  have Cs2 := own_fld es2 n69
  obtain ⟨t2_, et2⟩ := arr_v n71
  have Vs2 := own_fldR es2 et2
  obtain ⟨cs2, As2_⟩ := Arr.start et2 n71
  have ls2 := own_len et2 As2_ n73
  have As2 : Arv s s.heap t2_ cs2.cls .byte (1 : Int32) [(.int (104 : Int32))] (.int (0 : Int32)) := Arv.start hfit As2_ ls2.1 ls2.2 (by decide) rfl ⟨own_el et2 As2_ n75, trivial⟩
  have nq2 : ¬ u2 = u6 := G2.ne G6 (by decide)
  obtain ⟨s3_, es3⟩ := exa_v n79
  have Es3 := Exa.start es3 n79
  have L3_ := own_fldR ev3 es3
  have Cs3 := own_fld es3 n81
  obtain ⟨t3_, et3⟩ := arr_v n83
  have Vs3 := own_fldR es3 et3
  obtain ⟨cs3, As3_⟩ := Arr.start et3 n83
  have ls3 := own_len et3 As3_ n85
  have As3 : Arv s s.heap t3_ cs3.cls .byte (1 : Int32) [(.int (100 : Int32))] (.int (0 : Int32)) := Arv.start hfit As3_ ls3.1 ls3.2 (by decide) rfl ⟨own_el et3 As3_ n87, trivial⟩
  have nq3 : ¬ u3 = u6 := G3.ne G6 (by decide)
  obtain ⟨s4_, es4⟩ := exa_v n91
  have Es4 := Exa.start es4 n91
  have L4_ := own_fldR ev4 es4
  have Cs4 := own_fld es4 n93
  obtain ⟨t4_, et4⟩ := arr_v n95
  have Vs4 := own_fldR es4 et4
  obtain ⟨cs4, As4_⟩ := Arr.start et4 n95
  have ls4 := own_len et4 As4_ n97
  have As4 : Arv s s.heap t4_ cs4.cls .byte (1 : Int32) [(.int (119 : Int32))] (.int (0 : Int32)) := Arv.start hfit As4_ ls4.1 ls4.2 (by decide) rfl ⟨own_el et4 As4_ n99, trivial⟩
  have nq4 : ¬ u4 = u6 := G4.ne G6 (by decide)
  obtain ⟨s5_, es5⟩ := exa_v n103
  have Es5 := Exa.start es5 n103
  have L5_ := own_fldR ev5 es5
  have Cs5 := own_fld es5 n105
  obtain ⟨t5_, et5⟩ := arr_v n107
  have Vs5 := own_fldR es5 et5
  obtain ⟨cs5, As5_⟩ := Arr.start et5 n107
  have ls5 := own_len et5 As5_ n109
  have As5 : Arv s s.heap t5_ cs5.cls .byte (1 : Int32) [(.int (77 : Int32))] (.int (0 : Int32)) := Arv.start hfit As5_ ls5.1 ls5.2 (by decide) rfl ⟨own_el et5 As5_ n111, trivial⟩
  have nq5 : ¬ u5 = u6 := G5.ne G6 (by decide)
  obtain ⟨s7_, es7⟩ := exa_v n115
  have Es7 := Exa.start es7 n115
  have L7_ := own_fldR ev7 es7
  have Cs7 := own_fld es7 n117
  obtain ⟨t7_, et7⟩ := arr_v n119
  have Vs7 := own_fldR es7 et7
  obtain ⟨cs7, As7_⟩ := Arr.start et7 n119
  have ls7 := own_len et7 As7_ n121
  have As7 : Arv s s.heap t7_ cs7.cls .byte (1 : Int32) [(.int (121 : Int32))] (.int (0 : Int32)) := Arv.start hfit As7_ ls7.1 ls7.2 (by decide) rfl ⟨own_el et7 As7_ n123, trivial⟩
  have nq7 : ¬ u7 = u6 := G7.ne G6 (by decide)
  obtain ⟨zv, ezv⟩ := is_v (Cond.before_iff.mp (hsets _ (List.mem_of_getElem? (i := 1) rfl)))
  have hzv : ¬ zv = (0 : Int32) := gotF (Cond.eq_ints ezv (Term.int_eval (0))) (not_v (Cond.before_iff.mp (hsets _ (List.mem_of_getElem? (i := 2) rfl))))
  have S0 := Sta.start ezv (Or.inl (hsets _ (List.mem_of_getElem? (i := 0) rfl)))
  obtain ⟨gv, egv, rgv⟩ := isR_v (Cond.before_iff.mp (hsets _ (List.mem_of_getElem? (i := 8) rfl)))
  have G0 := Sta.start egv (Or.inl (hsets _ (List.mem_of_getElem? (i := 7) rfl)))
  obtain ⟨n, o, h1, h2, h3, _, L, rfl, ⟨rfl, N⟩, hq⟩ := rm_law l s _ hw tables_1 i0 i1 gv zv uv cv_.cls u0 u1 u2 u3 u4 u5 u6 u7 s0_ s1_ s2_ s3_ s4_ s5_ s7_ t0_ t1_ t2_ t3_ t4_ t5_ t7_ cs0.cls cs1.cls cs2.cls cs3.cls cs4.cls cs5.cls cs7.cls s.heap s.heap.size (Nat.le_refl _) (Old.start s) rgv G0 hzv S0 S_V A_V E_V S0_ S1_ S2_ S3_ S4_ S5_ S6_ S7_ L0_ Es0 Cs0 Vs0 As0 nq0 L1_ Es1 Cs1 Vs1 As1 nq1 L2_ Es2 Cs2 Vs2 As2 nq2 L3_ Es3 Cs3 Vs3 As3 nq3 L4_ Es4 Cs4 Vs4 As4 nq4 L5_ Es5 Cs5 Vs5 As5 nq5 L7_ Es7 Cs7 Vs7 As7 nq7 p e ha hc hk s m _ below hf ((Spec.applies_iff_loose hf).mp happ).1 ⟨rfl, State.Warmed39.refl s, rfl⟩ trivial
  refine ⟨n, _, h1, h2, h3, hpost _ _ _ _ _ _ ⟨Cond.after_iff.mpr rfl, Cond.after_iff.mpr (eq_i res_at (Term.int_eval (1)) rfl), trivial⟩ ⟨hq.1, hq.2.1, (hq.2.2.sift fun y hy => Or.inr (N y hy)).mono (by decide) (by decide)⟩⟩
theorem main_1_1 : Claimed_1_1 := comes_1 fun _ _ _ _ _ _ h hF => ⟨h.1, hF⟩
theorem main_1_2 : Claimed_1_2 := comes_1 fun _ _ _ _ _ _ h hF => ⟨h.2.1, hF⟩
end Jvm.Pilot.@@N@@
namespace Jvm.Pilot.@@N@@
open Jvm Jvm.ClassFile Sem Op Lib Jvm.Free Jvm.Stand Jvm.Pilot.@@N@@.Jvm.D
/-! MADE BY PROGRAM (witnessworld.py) out of the Statement's table words and the real class files: 21 classes; the members and pool entries that the words name. The judged class is class 1, her method 1. -/
namespace start1
open Jvm.ClassFile
def u (s : String) : CpInfo := .utf8 (stringToUtf16 s)
/-- a pool by its gaps: so many unusable entries, then the entry; so many at the end -/
def gap : Nat → List CpInfo → List CpInfo
  | 0, r => r
  | n + 1, r => .unusable :: gap n r
def poolList (es : List (Nat × CpInfo)) (last : Nat) : List CpInfo := es.foldr (fun e r => gap e.1 (e.2 :: r)) (gap last [])
def pool (es : List (Nat × CpInfo)) (last : Nat) : Array CpInfo := ⟨poolList es last⟩
def fileOf (pool : Array CpInfo) (this : Nat) (attrs : Array Attribute := #[]) (ms : Array MethodInfo := #[]) (fl : Nat := 33) (sup : Nat := 0) (ifs : Array Nat := #[]) (fds : Array FieldInfo := #[]) : ClassFile where
  minorVersion := 0
  majorVersion := 65
  constantPool := pool
  accessFlags := fl
  thisClass := this
  superClass := sup
  interfaces := ifs
  fields := fds
  methods := ms
  attributes := attrs
def plain (name : String) (sup : Option ClassId) : Class where
  name := name
  kind := .ordinary
  loader := none
  accessFlags := 33
  super := sup
  interfaces := #[]
  cf := none
  fields := #[]
  methods := #[]
  instanceTypes := #[]
  staticTypes := #[]
  resolved := #[]
  callSites := []
  init := .initialized
  statics := none
  mirror := none

def pool0 : Array CpInfo := pool [(5, u "<init>"), (0, u "()V"), (1, .class_ 10), (1, u "java/lang/Object"), (85, u "clone"), (0, u "()Ljava/lang/Object;")] 26

def k0m0 : Method := { name := "<init>", desc := "()V", sig := { parameters := [], returnType := none }, accessFlags := 1, code := none }
def k0m1 : Method := { name := "clone", desc := "()Ljava/lang/Object;", sig := { parameters := [], returnType := some (.object "java/lang/Object") }, accessFlags := 260, code := none }
/-- java/lang/Object -/
def k0 : Class := { plain "java/lang/Object" none with
  accessFlags := 33
  interfaces := #[]
  cf := some (fileOf pool0 8 #[] #[{ accessFlags := 1, nameIndex := 5, descriptorIndex := 6, attributes := #[] }, { accessFlags := 260, nameIndex := 96, descriptorIndex := 97, attributes := #[] }] 33 0 #[] #[])
  fields := #[]
  methods := #[k0m0, k0m1]
  instanceTypes := #[]
  staticTypes := #[]
  resolved := Array.replicate 124 none
  statics := none }

def pool1 : Array CpInfo := pool [(2, .class_ 4), (1, u "java/lang/Object"), (0, u "<init>"), (0, u "()V"), (0, .methodref 8 9), (0, .class_ 10), (0, .nameAndType 11 12), (0, u "com/example/fathomsearch/fathomsearch/CalendarUnit"), (0, u "ofLetter"), (0, u "(C)Lcom/example/fathomsearch/fathomsearch/CalendarUnit;"), (0, .methodref 14 15), (0, .class_ 16), (0, .nameAndType 17 12), (0, u "com/example/fathomsearch/fathomsearch/CalendarUnitOfLetterPinLaw"), (0, u "expected"), (0, .fieldref 8 19), (0, .nameAndType 20 21), (0, u "YEAR"), (0, u "Lcom/example/fathomsearch/fathomsearch/CalendarUnit;"), (0, .fieldref 8 23), (0, .nameAndType 24 21), (0, u "MONTH"), (0, .fieldref 8 26), (0, .nameAndType 27 21), (0, u "WEEK"), (0, .fieldref 8 29), (0, .nameAndType 30 21), (0, u "DAY"), (0, .fieldref 8 32), (0, .nameAndType 33 21), (0, u "HOUR"), (0, .fieldref 8 35), (0, .nameAndType 36 21), (0, u "MINUTE"), (0, .fieldref 8 38), (0, .nameAndType 39 21), (0, u "SECOND"), (2, u "law"), (0, u "(II)Z")] 3

def k1m0 : Method := { name := "<init>", desc := "()V", sig := { parameters := [], returnType := none }, accessFlags := 1, code := none }
def k1c1 : Code := { maxStack := 4, maxLocals := 4, code := code, exceptionTable := #[], attributes := #[] }
def k1m1 : Method := { name := "law", desc := "(II)Z", sig := { parameters := [.int, .int], returnType := some .boolean }, accessFlags := 9, code := some k1c1 }
def k1c2 : Code := { maxStack := 2, maxLocals := 1, code := method_3_code, exceptionTable := #[], attributes := #[] }
def k1m2 : Method := { name := "expected", desc := "(C)Lcom/example/fathomsearch/fathomsearch/CalendarUnit;", sig := { parameters := [.char], returnType := some (.object "com/example/fathomsearch/fathomsearch/CalendarUnit") }, accessFlags := 10, code := some k1c2 }
/-- com/example/fathomsearch/fathomsearch/CalendarUnitOfLetterPinLaw -/
def k1 : Class := { plain "com/example/fathomsearch/fathomsearch/CalendarUnitOfLetterPinLaw" (some 0) with
  accessFlags := 49
  interfaces := #[]
  cf := some (fileOf pool1 14 #[] #[{ accessFlags := 1, nameIndex := 5, descriptorIndex := 6, attributes := #[] }, { accessFlags := 9, nameIndex := 42, descriptorIndex := 43, attributes := #[] }, { accessFlags := 10, nameIndex := 17, descriptorIndex := 12, attributes := #[] }] 49 2 #[] #[])
  fields := #[]
  methods := #[k1m0, k1m1, k1m2]
  instanceTypes := #[]
  staticTypes := #[]
  resolved := Array.replicate 47 none
  statics := none }

def pool2 : Array CpInfo := pool [(1, .class_ 2), (0, u "java/lang/constant/Constable"), (0, .class_ 4), (0, u "java/lang/Object")] 6

/-- java/lang/constant/Constable -/
def k2 : Class := { plain "java/lang/constant/Constable" (some 0) with
  accessFlags := 1537
  interfaces := #[]
  cf := some (fileOf pool2 1 #[] #[] 1537 3 #[] #[])
  fields := #[]
  methods := #[]
  instanceTypes := #[]
  staticTypes := #[]
  resolved := Array.replicate 11 none
  statics := none }

def pool3 : Array CpInfo := pool [(1, .class_ 2), (0, u "java/lang/Comparable"), (0, .class_ 4), (0, u "java/lang/Object")] 7

/-- java/lang/Comparable -/
def k3 : Class := { plain "java/lang/Comparable" (some 0) with
  accessFlags := 1537
  interfaces := #[]
  cf := some (fileOf pool3 1 #[] #[] 1537 3 #[] #[])
  fields := #[]
  methods := #[]
  instanceTypes := #[]
  staticTypes := #[]
  resolved := Array.replicate 12 none
  statics := none }

def pool4 : Array CpInfo := pool [(1, .class_ 2), (0, u "java/io/Serializable"), (0, .class_ 4), (0, u "java/lang/Object")] 2

/-- java/io/Serializable -/
def k4 : Class := { plain "java/io/Serializable" (some 0) with
  accessFlags := 1537
  interfaces := #[]
  cf := some (fileOf pool4 1 #[] #[] 1537 3 #[] #[])
  fields := #[]
  methods := #[]
  instanceTypes := #[]
  staticTypes := #[]
  resolved := Array.replicate 7 none
  statics := none }

def pool5 : Array CpInfo := pool [(2, .class_ 4), (1, u "java/lang/Enum"), (0, u "name"), (0, u "Ljava/lang/String;"), (2, u "ordinal"), (0, u "I"), (1, .class_ 14), (1, u "java/lang/Object"), (4, u "hash"), (86, .class_ 108), (1, u "java/lang/Enum$EnumDesc"), (2, .class_ 112), (0, u "java/lang/constant/Constable"), (0, .class_ 114), (0, u "java/lang/Comparable"), (0, .class_ 116), (0, u "java/io/Serializable")] 87

/-- java/lang/Enum -/
def k5 : Class := { plain "java/lang/Enum" (some 0) with
  accessFlags := 1057
  interfaces := #[2, 3, 4]
  cf := some (fileOf pool5 2 #[.nestMembers #[106]] #[] 1057 12 #[111, 113, 115] #[{ accessFlags := 18, nameIndex := 5, descriptorIndex := 6, attributes := #[] }, { accessFlags := 18, nameIndex := 9, descriptorIndex := 10, attributes := #[] }, { accessFlags := 2, nameIndex := 19, descriptorIndex := 10, attributes := #[] }])
  fields := #[{ name := "name", type := (.object "java/lang/String"), accessFlags := 18, slot := 0, constantValue := 0 }, { name := "ordinal", type := .int, accessFlags := 18, slot := 1, constantValue := 0 }, { name := "hash", type := .int, accessFlags := 2, slot := 2, constantValue := 0 }]
  methods := #[]
  instanceTypes := #[(.object "java/lang/String"), .int, .int]
  staticTypes := #[]
  resolved := Array.replicate 204 none
  statics := none }

def pool6 : Array CpInfo := pool [(1, .class_ 2), (0, u "com/example/fathomsearch/fathomsearch/CalendarUnit"), (2, u "SECOND"), (0, u "Lcom/example/fathomsearch/fathomsearch/CalendarUnit;"), (2, u "MINUTE"), (0, .fieldref 1 11), (0, .nameAndType 12 6), (0, u "HOUR"), (2, u "DAY"), (2, u "WEEK"), (2, u "MONTH"), (0, .fieldref 1 23), (0, .nameAndType 24 6), (0, u "QUARTER"), (2, u "YEAR"), (0, .fieldref 1 29), (0, .nameAndType 30 31), (0, u "$VALUES"), (0, u "[Lcom/example/fathomsearch/fathomsearch/CalendarUnit;"), (0, .methodref 33 34), (0, .class_ 31), (0, .nameAndType 35 36), (0, u "clone"), (0, u "()Ljava/lang/Object;"), (1, .class_ 40), (1, u "java/lang/Enum"), (8, u "name"), (0, u "Ljava/lang/String;"), (0, .fieldref 1 52), (0, .nameAndType 53 50), (0, u "letter"), (2, u "chronoUnit"), (0, u "Ljava/time/temporal/ChronoUnit;"), (0, .methodref 1 59), (0, .nameAndType 60 61), (0, u "values"), (0, u "()[Lcom/example/fathomsearch/fathomsearch/CalendarUnit;"), (1, .class_ 65), (1, u "java/lang/String"), (6, .methodref 63 73), (0, .nameAndType 74 75), (0, u "charAt"), (0, u "(I)C"), (149, u "ofLetter"), (0, u "(C)Lcom/example/fathomsearch/fathomsearch/CalendarUnit;")] 24

def k6c0 : Code := { maxStack := 1, maxLocals := 0, code := prog_3_method_1_code, exceptionTable := #[], attributes := #[] }
def k6m0 : Method := { name := "values", desc := "()[Lcom/example/fathomsearch/fathomsearch/CalendarUnit;", sig := { parameters := [], returnType := some (.array (.object "com/example/fathomsearch/fathomsearch/CalendarUnit")) }, accessFlags := 9, code := some k6c0 }
def k6c1 : Code := { maxStack := 2, maxLocals := 5, code := prog_3_method_5_code, exceptionTable := #[], attributes := #[] }
def k6m1 : Method := { name := "ofLetter", desc := "(C)Lcom/example/fathomsearch/fathomsearch/CalendarUnit;", sig := { parameters := [.char], returnType := some (.object "com/example/fathomsearch/fathomsearch/CalendarUnit") }, accessFlags := 8, code := some k6c1 }
/-- com/example/fathomsearch/fathomsearch/CalendarUnit -/
def k6 : Class := { plain "com/example/fathomsearch/fathomsearch/CalendarUnit" (some 5) with
  accessFlags := 16432
  interfaces := #[]
  cf := some (fileOf pool6 1 #[] #[{ accessFlags := 9, nameIndex := 60, descriptorIndex := 61, attributes := #[] }, { accessFlags := 8, nameIndex := 225, descriptorIndex := 226, attributes := #[] }] 16432 38 #[] #[{ accessFlags := 16409, nameIndex := 5, descriptorIndex := 6, attributes := #[] }, { accessFlags := 16409, nameIndex := 9, descriptorIndex := 6, attributes := #[] }, { accessFlags := 16409, nameIndex := 12, descriptorIndex := 6, attributes := #[] }, { accessFlags := 16409, nameIndex := 15, descriptorIndex := 6, attributes := #[] }, { accessFlags := 16409, nameIndex := 18, descriptorIndex := 6, attributes := #[] }, { accessFlags := 16409, nameIndex := 21, descriptorIndex := 6, attributes := #[] }, { accessFlags := 16409, nameIndex := 24, descriptorIndex := 6, attributes := #[] }, { accessFlags := 16409, nameIndex := 27, descriptorIndex := 6, attributes := #[] }, { accessFlags := 18, nameIndex := 49, descriptorIndex := 50, attributes := #[] }, { accessFlags := 18, nameIndex := 53, descriptorIndex := 50, attributes := #[] }, { accessFlags := 18, nameIndex := 56, descriptorIndex := 57, attributes := #[] }, { accessFlags := 4122, nameIndex := 30, descriptorIndex := 31, attributes := #[] }])
  fields := #[{ name := "SECOND", type := (.object "com/example/fathomsearch/fathomsearch/CalendarUnit"), accessFlags := 16409, slot := 0, constantValue := 0 }, { name := "MINUTE", type := (.object "com/example/fathomsearch/fathomsearch/CalendarUnit"), accessFlags := 16409, slot := 1, constantValue := 0 }, { name := "HOUR", type := (.object "com/example/fathomsearch/fathomsearch/CalendarUnit"), accessFlags := 16409, slot := 2, constantValue := 0 }, { name := "DAY", type := (.object "com/example/fathomsearch/fathomsearch/CalendarUnit"), accessFlags := 16409, slot := 3, constantValue := 0 }, { name := "WEEK", type := (.object "com/example/fathomsearch/fathomsearch/CalendarUnit"), accessFlags := 16409, slot := 4, constantValue := 0 }, { name := "MONTH", type := (.object "com/example/fathomsearch/fathomsearch/CalendarUnit"), accessFlags := 16409, slot := 5, constantValue := 0 }, { name := "QUARTER", type := (.object "com/example/fathomsearch/fathomsearch/CalendarUnit"), accessFlags := 16409, slot := 6, constantValue := 0 }, { name := "YEAR", type := (.object "com/example/fathomsearch/fathomsearch/CalendarUnit"), accessFlags := 16409, slot := 7, constantValue := 0 }, { name := "name", type := (.object "java/lang/String"), accessFlags := 18, slot := 3, constantValue := 0 }, { name := "letter", type := (.object "java/lang/String"), accessFlags := 18, slot := 4, constantValue := 0 }, { name := "chronoUnit", type := (.object "java/time/temporal/ChronoUnit"), accessFlags := 18, slot := 5, constantValue := 0 }, { name := "$VALUES", type := (.array (.object "com/example/fathomsearch/fathomsearch/CalendarUnit")), accessFlags := 4122, slot := 8, constantValue := 0 }]
  methods := #[k6m0, k6m1]
  instanceTypes := #[(.object "java/lang/String"), .int, .int, (.object "java/lang/String"), (.object "java/lang/String"), (.object "java/time/temporal/ChronoUnit")]
  staticTypes := #[(.object "com/example/fathomsearch/fathomsearch/CalendarUnit"), (.object "com/example/fathomsearch/fathomsearch/CalendarUnit"), (.object "com/example/fathomsearch/fathomsearch/CalendarUnit"), (.object "com/example/fathomsearch/fathomsearch/CalendarUnit"), (.object "com/example/fathomsearch/fathomsearch/CalendarUnit"), (.object "com/example/fathomsearch/fathomsearch/CalendarUnit"), (.object "com/example/fathomsearch/fathomsearch/CalendarUnit"), (.object "com/example/fathomsearch/fathomsearch/CalendarUnit"), (.array (.object "com/example/fathomsearch/fathomsearch/CalendarUnit"))]
  resolved := Array.replicate 251 none
  statics := some 0 }

def pool7 : Array CpInfo := pool [(1, .class_ 2), (0, u "java/lang/Cloneable"), (0, .class_ 4), (0, u "java/lang/Object")] 2

/-- java/lang/Cloneable -/
def k7 : Class := { plain "java/lang/Cloneable" (some 0) with
  accessFlags := 1537
  interfaces := #[]
  cf := some (fileOf pool7 1 #[] #[] 1537 3 #[] #[])
  fields := #[]
  methods := #[]
  instanceTypes := #[]
  staticTypes := #[]
  resolved := Array.replicate 7 none
  statics := none }

def pool8 : Array CpInfo := pool [(2, .class_ 4), (1, u "java/lang/CharSequence"), (42, .class_ 48), (0, u "java/lang/CharSequence$1CodePointIterator"), (10, .class_ 60), (0, u "java/lang/CharSequence$1CharIterator"), (5, .class_ 67), (0, u "java/lang/Object")] 63

/-- java/lang/CharSequence -/
def k8 : Class := { plain "java/lang/CharSequence" (some 0) with
  accessFlags := 1537
  interfaces := #[]
  cf := some (fileOf pool8 2 #[.nestMembers #[47, 59]] #[] 1537 66 #[] #[])
  fields := #[]
  methods := #[]
  instanceTypes := #[]
  staticTypes := #[]
  resolved := Array.replicate 131 none
  statics := none }

def pool9 : Array CpInfo := pool [(1, .class_ 2), (0, u "java/lang/constant/ConstantDesc"), (0, .class_ 4), (0, u "java/lang/Object")] 32

/-- java/lang/constant/ConstantDesc -/
def k9 : Class := { plain "java/lang/constant/ConstantDesc" (some 0) with
  accessFlags := 1537
  interfaces := #[]
  cf := some (fileOf pool9 1 #[] #[] 1537 3 #[] #[])
  fields := #[]
  methods := #[]
  instanceTypes := #[]
  staticTypes := #[]
  resolved := Array.replicate 37 none
  statics := none }

def pool10 : Array CpInfo := pool [(2, .class_ 4), (1, u "java/lang/Object"), (0, u "<init>"), (0, u "()V"), (2, .fieldref 10 11), (0, .class_ 12), (0, .nameAndType 13 14), (0, u "java/lang/String"), (0, u "value"), (0, u "[B"), (0, .fieldref 10 16), (0, .nameAndType 17 18), (0, u "coder"), (0, u "B"), (2, u "hash"), (0, u "I"), (2, u "hashIsZero"), (0, u "Z"), (11, .fieldref 10 39), (0, .nameAndType 40 26), (0, u "COMPACT_STRINGS"), (66, .class_ 109), (1, u "java/lang/StringLatin1"), (32, u "()Z"), (220, u "([BI)C"), (27, u "(II)V"), (35, u "(I)C"), (64, .methodref 10 493), (0, .nameAndType 494 142), (0, u "isLatin1"), (0, .methodref 107 496), (0, .nameAndType 497 363), (0, u "charAt"), (3, u "checkIndex"), (73, .class_ 576), (0, u "java/lang/CharSequence"), (22, u "CASE_INSENSITIVE_ORDER"), (0, u "Ljava/util/Comparator;"), (452, .fieldref 1054 1055), (0, .class_ 1056), (0, .nameAndType 1057 1058), (0, u "jdk/internal/util/Preconditions"), (0, u "SIOOBE_FORMATTER"), (0, u "Ljava/util/function/BiFunction;"), (0, .methodref 1054 1060), (0, .nameAndType 501 1061), (0, u "(IILjava/util/function/BiFunction;)I"), (39, u "serialPersistentFields"), (0, u "[Ljava/io/ObjectStreamField;"), (0, .class_ 1104), (0, u "java/lang/String$CaseInsensitiveComparator"), (1, .class_ 1107), (0, u "java/io/Serializable"), (0, .class_ 1109), (0, u "java/lang/Comparable"), (0, .class_ 1111), (0, u "java/lang/constant/Constable"), (0, .class_ 1113), (0, u "java/lang/constant/ConstantDesc"), (2, u "serialVersionUID"), (0, u "J"), (3, u "REPL"), (0, u "C"), (2, u "LATIN1"), (1, u "UTF16")] 323

def k10m0 : Method := { name := "<init>", desc := "()V", sig := { parameters := [], returnType := none }, accessFlags := 1, code := none }
def k10c1 : Code := { maxStack := 2, maxLocals := 2, code := jdk_42_method_56_code, exceptionTable := #[], attributes := #[] }
def k10m1 : Method := { name := "charAt", desc := "(I)C", sig := { parameters := [.int], returnType := some .char }, accessFlags := 1, code := some k10c1 }
def k10c2 : Code := { maxStack := 1, maxLocals := 1, code := jdk_42_method_154_code, exceptionTable := #[], attributes := #[] }
def k10m2 : Method := { name := "isLatin1", desc := "()Z", sig := { parameters := [], returnType := some .boolean }, accessFlags := 0, code := some k10c2 }
def k10c3 : Code := { maxStack := 3, maxLocals := 2, code := jdk_42_method_155_code, exceptionTable := #[], attributes := #[] }
def k10m3 : Method := { name := "checkIndex", desc := "(II)V", sig := { parameters := [.int, .int], returnType := none }, accessFlags := 8, code := some k10c3 }
/-- java/lang/String -/
def k10 : Class := { plain "java/lang/String" (some 0) with
  accessFlags := 49
  interfaces := #[4, 3, 8, 2, 9]
  cf := some (fileOf pool10 10 #[.nestMembers #[1103]] #[{ accessFlags := 1, nameIndex := 5, descriptorIndex := 6, attributes := #[] }, { accessFlags := 1, nameIndex := 497, descriptorIndex := 427, attributes := #[] }, { accessFlags := 0, nameIndex := 494, descriptorIndex := 142, attributes := #[] }, { accessFlags := 8, nameIndex := 501, descriptorIndex := 391, attributes := #[] }] 49 2 #[1106, 1108, 575, 1110, 1112] #[{ accessFlags := 18, nameIndex := 13, descriptorIndex := 14, attributes := #[] }, { accessFlags := 18, nameIndex := 17, descriptorIndex := 18, attributes := #[] }, { accessFlags := 2, nameIndex := 21, descriptorIndex := 22, attributes := #[] }, { accessFlags := 2, nameIndex := 25, descriptorIndex := 26, attributes := #[] }, { accessFlags := 26, nameIndex := 1116, descriptorIndex := 1117, attributes := #[] }, { accessFlags := 24, nameIndex := 40, descriptorIndex := 26, attributes := #[] }, { accessFlags := 26, nameIndex := 1101, descriptorIndex := 1102, attributes := #[] }, { accessFlags := 26, nameIndex := 1121, descriptorIndex := 1122, attributes := #[] }, { accessFlags := 25, nameIndex := 599, descriptorIndex := 600, attributes := #[] }, { accessFlags := 24, nameIndex := 1125, descriptorIndex := 18, attributes := #[] }, { accessFlags := 24, nameIndex := 1127, descriptorIndex := 18, attributes := #[] }])
  fields := #[{ name := "value", type := (.array .byte), accessFlags := 18, slot := 0, constantValue := 0 }, { name := "coder", type := .byte, accessFlags := 18, slot := 1, constantValue := 0 }, { name := "hash", type := .int, accessFlags := 2, slot := 2, constantValue := 0 }, { name := "hashIsZero", type := .boolean, accessFlags := 2, slot := 3, constantValue := 0 }, { name := "serialVersionUID", type := .long, accessFlags := 26, slot := 0, constantValue := 0 }, { name := "COMPACT_STRINGS", type := .boolean, accessFlags := 24, slot := 1, constantValue := 0 }, { name := "serialPersistentFields", type := (.array (.object "java/io/ObjectStreamField")), accessFlags := 26, slot := 2, constantValue := 0 }, { name := "REPL", type := .char, accessFlags := 26, slot := 3, constantValue := 0 }, { name := "CASE_INSENSITIVE_ORDER", type := (.object "java/util/Comparator"), accessFlags := 25, slot := 4, constantValue := 0 }, { name := "LATIN1", type := .byte, accessFlags := 24, slot := 5, constantValue := 0 }, { name := "UTF16", type := .byte, accessFlags := 24, slot := 6, constantValue := 0 }]
  methods := #[k10m0, k10m1, k10m2, k10m3]
  instanceTypes := #[(.array .byte), .byte, .int, .boolean]
  staticTypes := #[.long, .boolean, (.array (.object "java/io/ObjectStreamField")), .char, (.object "java/util/Comparator"), .byte, .byte]
  resolved := Array.replicate 1451 none
  statics := some 1 }

def pool11 : Array CpInfo := pool [(1, .class_ 2), (0, u "java/lang/String"), (1, .class_ 6), (1, u "java/lang/Object"), (0, u "<init>"), (0, u "()V"), (0, .methodref 1 10), (0, .nameAndType 11 12), (0, u "checkIndex"), (0, u "(II)V"), (1, .class_ 16), (1, u "java/lang/StringLatin1"), (36, u "([BI)C"), (67, u "$assertionsDisabled"), (0, u "Z"), (98, .class_ 223), (1, u "java/lang/StringLatin1$LinesSpliterator"), (28, u "charAt"), (137, .class_ 391), (0, u "java/lang/StringLatin1$CharsSpliterator")] 3

def k11m0 : Method := { name := "<init>", desc := "()V", sig := { parameters := [], returnType := none }, accessFlags := 0, code := none }
def k11c1 : Code := { maxStack := 2, maxLocals := 2, code := jdk_43_method_2_code, exceptionTable := #[], attributes := #[] }
def k11m1 : Method := { name := "charAt", desc := "([BI)C", sig := { parameters := [(.array .byte), .int], returnType := some .char }, accessFlags := 9, code := some k11c1 }
/-- java/lang/StringLatin1 -/
def k11 : Class := { plain "java/lang/StringLatin1" (some 0) with
  accessFlags := 48
  interfaces := #[]
  cf := some (fileOf pool11 14 #[.nestMembers #[390, 221]] #[{ accessFlags := 0, nameIndex := 7, descriptorIndex := 8, attributes := #[] }, { accessFlags := 9, nameIndex := 252, descriptorIndex := 53, attributes := #[] }] 48 4 #[] #[{ accessFlags := 4120, nameIndex := 121, descriptorIndex := 122, attributes := #[] }])
  fields := #[{ name := "$assertionsDisabled", type := .boolean, accessFlags := 4120, slot := 0, constantValue := 0 }]
  methods := #[k11m0, k11m1]
  instanceTypes := #[]
  staticTypes := #[.boolean]
  resolved := Array.replicate 395 none
  statics := none }

def pool12 : Array CpInfo := pool [(2, .class_ 4), (1, u "java/lang/Object"), (0, u "<init>"), (0, u "()V"), (17, .class_ 26), (1, u "jdk/internal/util/Preconditions"), (6, u "checkIndex"), (21, .class_ 56), (0, u "jdk/internal/util/Preconditions$4"), (57, .class_ 115), (0, u "jdk/internal/util/Preconditions$1"), (7, u "SIOOBE_FORMATTER"), (0, u "Ljava/util/function/BiFunction;"), (0, .class_ 126), (0, u "jdk/internal/util/Preconditions$2"), (3, u "AIOOBE_FORMATTER"), (0, .class_ 132), (0, u "jdk/internal/util/Preconditions$3"), (3, u "IOOBE_FORMATTER"), (41, u "(IILjava/util/function/BiFunction;)I")] 15

def k12m0 : Method := { name := "<init>", desc := "()V", sig := { parameters := [], returnType := none }, accessFlags := 1, code := none }
def k12c1 : Code := { maxStack := 3, maxLocals := 3, code := jdk_41_method_11_code, exceptionTable := #[], attributes := #[] }
def k12m1 : Method := { name := "checkIndex", desc := "(IILjava/util/function/BiFunction;)I", sig := { parameters := [.int, .int, (.object "java/util/function/BiFunction")], returnType := some .int }, accessFlags := 9, code := some k12c1 }
/-- jdk/internal/util/Preconditions -/
def k12 : Class := { plain "jdk/internal/util/Preconditions" (some 0) with
  accessFlags := 33
  interfaces := #[]
  cf := some (fileOf pool12 24 #[.nestMembers #[55, 131, 125, 114]] #[{ accessFlags := 1, nameIndex := 5, descriptorIndex := 6, attributes := #[] }, { accessFlags := 9, nameIndex := 33, descriptorIndex := 178, attributes := #[] }] 33 2 #[] #[{ accessFlags := 25, nameIndex := 123, descriptorIndex := 124, attributes := #[] }, { accessFlags := 25, nameIndex := 130, descriptorIndex := 124, attributes := #[] }, { accessFlags := 25, nameIndex := 136, descriptorIndex := 124, attributes := #[] }])
  fields := #[{ name := "SIOOBE_FORMATTER", type := (.object "java/util/function/BiFunction"), accessFlags := 25, slot := 0, constantValue := 0 }, { name := "AIOOBE_FORMATTER", type := (.object "java/util/function/BiFunction"), accessFlags := 25, slot := 1, constantValue := 0 }, { name := "IOOBE_FORMATTER", type := (.object "java/util/function/BiFunction"), accessFlags := 25, slot := 2, constantValue := 0 }]
  methods := #[k12m0, k12m1]
  instanceTypes := #[]
  staticTypes := #[(.object "java/util/function/BiFunction"), (.object "java/util/function/BiFunction"), (.object "java/util/function/BiFunction")]
  resolved := Array.replicate 194 none
  statics := some 2 }

def pool13 : Array CpInfo := pool [(9, u "<init>"), (6, .class_ 18), (1, u "java/lang/Object"), (0, u "()V"), (1, .class_ 23), (1, u "jdk/internal/util/ArraysSupport"), (0, u "LOG2_ARRAY_LONG_INDEX_SCALE"), (0, u "I"), (2, u "U"), (0, u "Ljdk/internal/misc/Unsafe;"), (8, u "BIG_ENDIAN"), (0, u "Z"), (8, u "LOG2_BYTE_BIT_SIZE"), (4, u "LOG2_ARRAY_INT_INDEX_SCALE"), (54, u "JLA"), (0, u "Ljdk/internal/access/JavaLangAccess;"), (11, u "LOG2_ARRAY_BOOLEAN_INDEX_SCALE"), (9, u "LOG2_ARRAY_BYTE_INDEX_SCALE"), (5, u "LOG2_ARRAY_CHAR_INDEX_SCALE"), (5, u "LOG2_ARRAY_SHORT_INDEX_SCALE"), (18, u "LOG2_ARRAY_FLOAT_INDEX_SCALE"), (24, u "LOG2_ARRAY_DOUBLE_INDEX_SCALE"), (89, u "T_BOOLEAN"), (2, u "T_CHAR"), (1, u "T_FLOAT"), (1, u "T_DOUBLE"), (1, u "T_BYTE"), (1, u "T_SHORT"), (1, u "T_INT"), (1, u "T_LONG"), (1, u "SOFT_MAX_ARRAY_LENGTH")] 83

def k13m0 : Method := { name := "<init>", desc := "()V", sig := { parameters := [], returnType := none }, accessFlags := 2, code := none }
/-- jdk/internal/util/ArraysSupport -/
def k13 : Class := { plain "jdk/internal/util/ArraysSupport" (some 0) with
  accessFlags := 33
  interfaces := #[]
  cf := some (fileOf pool13 21 #[] #[{ accessFlags := 2, nameIndex := 9, descriptorIndex := 19, attributes := #[] }] 33 16 #[] #[{ accessFlags := 24, nameIndex := 28, descriptorIndex := 29, attributes := #[] }, { accessFlags := 26, nameIndex := 38, descriptorIndex := 39, attributes := #[] }, { accessFlags := 25, nameIndex := 121, descriptorIndex := 25, attributes := #[] }, { accessFlags := 25, nameIndex := 131, descriptorIndex := 25, attributes := #[] }, { accessFlags := 25, nameIndex := 137, descriptorIndex := 25, attributes := #[] }, { accessFlags := 25, nameIndex := 143, descriptorIndex := 25, attributes := #[] }, { accessFlags := 25, nameIndex := 53, descriptorIndex := 25, attributes := #[] }, { accessFlags := 25, nameIndex := 24, descriptorIndex := 25, attributes := #[] }, { accessFlags := 25, nameIndex := 162, descriptorIndex := 25, attributes := #[] }, { accessFlags := 25, nameIndex := 187, descriptorIndex := 25, attributes := #[] }, { accessFlags := 26, nameIndex := 48, descriptorIndex := 25, attributes := #[] }, { accessFlags := 25, nameIndex := 277, descriptorIndex := 25, attributes := #[] }, { accessFlags := 25, nameIndex := 280, descriptorIndex := 25, attributes := #[] }, { accessFlags := 25, nameIndex := 282, descriptorIndex := 25, attributes := #[] }, { accessFlags := 25, nameIndex := 284, descriptorIndex := 25, attributes := #[] }, { accessFlags := 25, nameIndex := 286, descriptorIndex := 25, attributes := #[] }, { accessFlags := 25, nameIndex := 288, descriptorIndex := 25, attributes := #[] }, { accessFlags := 25, nameIndex := 290, descriptorIndex := 25, attributes := #[] }, { accessFlags := 25, nameIndex := 292, descriptorIndex := 25, attributes := #[] }, { accessFlags := 26, nameIndex := 108, descriptorIndex := 109, attributes := #[] }, { accessFlags := 25, nameIndex := 294, descriptorIndex := 25, attributes := #[] }])
  fields := #[{ name := "U", type := (.object "jdk/internal/misc/Unsafe"), accessFlags := 24, slot := 0, constantValue := 0 }, { name := "BIG_ENDIAN", type := .boolean, accessFlags := 26, slot := 1, constantValue := 0 }, { name := "LOG2_ARRAY_BOOLEAN_INDEX_SCALE", type := .int, accessFlags := 25, slot := 2, constantValue := 0 }, { name := "LOG2_ARRAY_BYTE_INDEX_SCALE", type := .int, accessFlags := 25, slot := 3, constantValue := 0 }, { name := "LOG2_ARRAY_CHAR_INDEX_SCALE", type := .int, accessFlags := 25, slot := 4, constantValue := 0 }, { name := "LOG2_ARRAY_SHORT_INDEX_SCALE", type := .int, accessFlags := 25, slot := 5, constantValue := 0 }, { name := "LOG2_ARRAY_INT_INDEX_SCALE", type := .int, accessFlags := 25, slot := 6, constantValue := 0 }, { name := "LOG2_ARRAY_LONG_INDEX_SCALE", type := .int, accessFlags := 25, slot := 7, constantValue := 0 }, { name := "LOG2_ARRAY_FLOAT_INDEX_SCALE", type := .int, accessFlags := 25, slot := 8, constantValue := 0 }, { name := "LOG2_ARRAY_DOUBLE_INDEX_SCALE", type := .int, accessFlags := 25, slot := 9, constantValue := 0 }, { name := "LOG2_BYTE_BIT_SIZE", type := .int, accessFlags := 26, slot := 10, constantValue := 0 }, { name := "T_BOOLEAN", type := .int, accessFlags := 25, slot := 11, constantValue := 0 }, { name := "T_CHAR", type := .int, accessFlags := 25, slot := 12, constantValue := 0 }, { name := "T_FLOAT", type := .int, accessFlags := 25, slot := 13, constantValue := 0 }, { name := "T_DOUBLE", type := .int, accessFlags := 25, slot := 14, constantValue := 0 }, { name := "T_BYTE", type := .int, accessFlags := 25, slot := 15, constantValue := 0 }, { name := "T_SHORT", type := .int, accessFlags := 25, slot := 16, constantValue := 0 }, { name := "T_INT", type := .int, accessFlags := 25, slot := 17, constantValue := 0 }, { name := "T_LONG", type := .int, accessFlags := 25, slot := 18, constantValue := 0 }, { name := "JLA", type := (.object "jdk/internal/access/JavaLangAccess"), accessFlags := 26, slot := 19, constantValue := 0 }, { name := "SOFT_MAX_ARRAY_LENGTH", type := .int, accessFlags := 25, slot := 20, constantValue := 0 }]
  methods := #[k13m0]
  instanceTypes := #[]
  staticTypes := #[(.object "jdk/internal/misc/Unsafe"), .boolean, .int, .int, .int, .int, .int, .int, .int, .int, .int, .int, .int, .int, .int, .int, .int, .int, .int, (.object "jdk/internal/access/JavaLangAccess"), .int]
  resolved := Array.replicate 378 none
  statics := none }

/-- the primitive byte -/
def k14 : Class := { plain "byte" none with kind := .primitive 'B', accessFlags := 0x411 }
/-- [B -/
def k15 : Class := { plain "[B" (some 0) with kind := .array 14 .byte, interfaces := #[7, 4], accessFlags := 1041 }

/-- the primitive char -/
def k16 : Class := { plain "char" none with kind := .primitive 'C', accessFlags := 0x411 }
/-- [C -/
def k17 : Class := { plain "[C" (some 0) with kind := .array 16 .char, interfaces := #[7, 4], accessFlags := 1041 }

/-- the primitive int -/
def k18 : Class := { plain "int" none with kind := .primitive 'I', accessFlags := 0x411 }
/-- [I -/
def k19 : Class := { plain "[I" (some 0) with kind := .array 18 .int, interfaces := #[7, 4], accessFlags := 1041 }

/-- [Lcom/example/fathomsearch/fathomsearch/CalendarUnit; -/
def k20 : Class := { plain "[Lcom/example/fathomsearch/fathomsearch/CalendarUnit;" (some 0) with kind := .array 6 (.object "com/example/fathomsearch/fathomsearch/CalendarUnit"), interfaces := #[7, 4], accessFlags := 1041 }

def heap : Heap := #[{ cls := 6, slots := #[.ref 4, .ref 7, .ref 10, .ref 13, .ref 16, .ref 19, .ref 22, .ref 25, .ref 3], vm := .statics 6 },
  { cls := 10, slots := #[.long 0, .int 1, .null, .int 0, .null, .int 0, .int 0], vm := .statics 10 },
  { cls := 12, slots := #[.null, .null, .null], vm := .statics 12 },
  { cls := 20, slots := #[.ref 4, .ref 7, .ref 10, .ref 13, .ref 16, .ref 19, .ref 22, .ref 25], vm := .none },
  { cls := 6, slots := #[.null, .int 0, .int 0, .null, .ref 5, .null], vm := .none },
  { cls := 10, slots := #[.ref 6, .int 0, .int 0, .int 0], vm := .none },
  { cls := 15, slots := #[.int 115], vm := .none },
  { cls := 6, slots := #[.null, .int 1, .int 0, .null, .ref 8, .null], vm := .none },
  { cls := 10, slots := #[.ref 9, .int 0, .int 0, .int 0], vm := .none },
  { cls := 15, slots := #[.int 109], vm := .none },
  { cls := 6, slots := #[.null, .int 2, .int 0, .null, .ref 11, .null], vm := .none },
  { cls := 10, slots := #[.ref 12, .int 0, .int 0, .int 0], vm := .none },
  { cls := 15, slots := #[.int 104], vm := .none },
  { cls := 6, slots := #[.null, .int 3, .int 0, .null, .ref 14, .null], vm := .none },
  { cls := 10, slots := #[.ref 15, .int 0, .int 0, .int 0], vm := .none },
  { cls := 15, slots := #[.int 100], vm := .none },
  { cls := 6, slots := #[.null, .int 4, .int 0, .null, .ref 17, .null], vm := .none },
  { cls := 10, slots := #[.ref 18, .int 0, .int 0, .int 0], vm := .none },
  { cls := 15, slots := #[.int 119], vm := .none },
  { cls := 6, slots := #[.null, .int 5, .int 0, .null, .ref 20, .null], vm := .none },
  { cls := 10, slots := #[.ref 21, .int 0, .int 0, .int 0], vm := .none },
  { cls := 15, slots := #[.int 77], vm := .none },
  { cls := 6, slots := #[.null, .int 6, .int 0, .null, .ref 23, .null], vm := .none },
  { cls := 10, slots := #[.ref 24, .int 0, .int 0, .int 0], vm := .none },
  { cls := 15, slots := #[.int 113], vm := .none },
  { cls := 6, slots := #[.null, .int 7, .int 0, .null, .ref 26, .null], vm := .none },
  { cls := 10, slots := #[.ref 27, .int 0, .int 0, .int 0], vm := .none },
  { cls := 15, slots := #[.int 121], vm := .none }]
def classes : Array Class := #[k0, k1, k2, k3, k4, k5, k6, k7, k8, k9, k10, k11, k12, k13, k14, k15, k16, k17, k18, k19, k20]
def interned : List (Array UInt16 × Addr) := []
def slotsUsed : Nat := 115
def theMethod : MethodId := ⟨1, 1⟩
def args0 : Array Value := #[.int 5, .int 7]
def aboutOver (below : List Frame) : State where
  vm := { classes := classes, interned := interned.toArray }
  heap := heap
  slotsUsed := slotsUsed
  threads := #[{ frames := .invoking theMethod args0 :: below }]
def below0 : List Frame := [.native { method := ⟨0, 0⟩, args := #[] }]
def about1 : State := aboutOver below0
def p0 : Program := .bare "" "" ""
def e0 : Env := launch0.env 0 0 0
theorem w_frames : about1.frames = Frame.invoking theMethod args0 :: below0 := rfl
set_option maxRecDepth 65536 in
theorem w_args : argsFit about1.vm theMethod args0 = true := by decide +kernel
set_option maxRecDepth 65536 in
theorem w_heap : heapFits about1 = true := by decide +kernel
set_option maxRecDepth 65536 in
theorem w_runnable : about1.curStatus? = some .runnable := by decide +kernel
set_option maxRecDepth 65536 in
theorem w_alone : about1.alone = true := by decide +kernel
set_option maxRecDepth 65536 in
theorem w_named : about1.methodNamed? x = some theMethod := by decide +kernel
set_option maxRecDepth 65536 in
theorem w_hears : about1.hears theMethod below0 = true := by decide +kernel
set_option maxRecDepth 65536 in
theorem w_ripe : about1.ripe theMethod args0 below0 = true := by decide +kernel
theorem w_running : about1.status = .running := rfl
set_option maxRecDepth 65536 in
theorem w_room : about1.hasRoom e0.platform room_1 = true :=
  launch0.hasRoom_least _ room_1 (by decide +kernel) (by decide +kernel) (by decide +kernel) (by decide +kernel) (by decide +kernel) (by decide +kernel)
theorem allAtoms_all (ts : List Jvm.Cond) (a : Array Jvm.Value) (st : Jvm.State) : (allAtoms ts).before a st = ts.all (fun c => c.before a st) := by
  induction ts with
  | nil => rfl
  | cons c t ih =>
    show (Jvm.Cond.and c (allAtoms t)).before a st = _
    rw [Jvm.Cond.before_and, ih, List.all_cons]
def words1 : List Jvm.Cond := Jvm.Cond.code x code maxLocals ret :: tables_1
/-- a 'code' word, met by the world's own term for the bytes: nothing is compared byte by byte -/
theorem code_word {y : MethodName} {bytes : ByteArray} {mx : Nat} {rt : Option FieldType} {a : Array Value} {s : State} {m : MethodId} {meth : Method} {c : Code} (h1 : s.methodNamed? y = some m) (h2 : s.vm.method? m = some meth) (h3 : meth.code = some c) (h4 : c.code = bytes)
    (h5 : (c.maxLocals == mx && c.exceptionTable.isEmpty && decide (c.maxStack ≤ mostOperands) && decide (meth.sig.returnType = rt) && !meth.locks && decide (parseMethodDescriptor y.desc = some meth.sig)) = true) : (Jvm.Cond.code y bytes mx rt).before a s = true := by
  simp only [Bool.and_eq_true, beq_iff_eq, Bool.not_eq_true', decide_eq_true_eq] at h5
  obtain ⟨⟨⟨⟨⟨g1, g2⟩, g3⟩, g4⟩, g5⟩, g6⟩ := h5
  simp [Cond.before, Cond.holds, Cond.value, h1, h2, h3, h4, g1, g2, g3, g4, g5, g6]
def isCode : Jvm.Cond → Bool
  | .code _ _ _ _ => true
  | _ => false
theorem all_split {L : List Jvm.Cond} {P : Jvm.Cond → Bool} (h1 : L.all (fun c => isCode c || P c) = true) (h2 : ∀ c ∈ L.filter isCode, P c = true) : L.all P = true := by
  refine List.all_eq_true.mpr fun c hc => ?_
  have h := List.all_eq_true.mp h1 c hc
  rcases Bool.eq_false_or_eq_true (isCode c) with hi | hi
  · exact h2 c (List.mem_filter.mpr ⟨hc, hi⟩)
  · simpa [hi] using h
set_option maxRecDepth 65536 in
theorem w_c0 : (Jvm.Cond.code x code maxLocals ret).before args0 about1 = true := code_word (m := ⟨1, 1⟩) (meth := k1m1) (c := k1c1) (by decide +kernel) rfl rfl rfl (by decide +kernel)
set_option maxRecDepth 65536 in
theorem w_c1 : (Jvm.Cond.code ({ cls := "com/example/fathomsearch/fathomsearch/CalendarUnit", name := "ofLetter", desc := "(C)Lcom/example/fathomsearch/fathomsearch/CalendarUnit;" } : Jvm.MethodName) prog_3_method_5_code (5 : Nat) (Option.some (Jvm.ClassFile.FieldType.object "com/example/fathomsearch/fathomsearch/CalendarUnit"))).before args0 about1 = true := code_word (m := ⟨6, 1⟩) (meth := k6m1) (c := k6c1) (by decide +kernel) rfl rfl rfl (by decide +kernel)
set_option maxRecDepth 65536 in
theorem w_c2 : (Jvm.Cond.code ({ cls := "com/example/fathomsearch/fathomsearch/CalendarUnit", name := "values", desc := "()[Lcom/example/fathomsearch/fathomsearch/CalendarUnit;" } : Jvm.MethodName) prog_3_method_1_code (0 : Nat) (Option.some (Jvm.ClassFile.FieldType.array (Jvm.ClassFile.FieldType.object "com/example/fathomsearch/fathomsearch/CalendarUnit")))).before args0 about1 = true := code_word (m := ⟨6, 0⟩) (meth := k6m0) (c := k6c0) (by decide +kernel) rfl rfl rfl (by decide +kernel)
set_option maxRecDepth 65536 in
theorem w_c3 : (Jvm.Cond.code ({ cls := "java/lang/String", name := "charAt", desc := "(I)C" } : Jvm.MethodName) jdk_42_method_56_code (2 : Nat) (Option.some Jvm.ClassFile.FieldType.char)).before args0 about1 = true := code_word (m := ⟨10, 1⟩) (meth := k10m1) (c := k10c1) (by decide +kernel) rfl rfl rfl (by decide +kernel)
set_option maxRecDepth 65536 in
theorem w_c4 : (Jvm.Cond.code ({ cls := "java/lang/String", name := "isLatin1", desc := "()Z" } : Jvm.MethodName) jdk_42_method_154_code (1 : Nat) (Option.some Jvm.ClassFile.FieldType.boolean)).before args0 about1 = true := code_word (m := ⟨10, 2⟩) (meth := k10m2) (c := k10c2) (by decide +kernel) rfl rfl rfl (by decide +kernel)
set_option maxRecDepth 65536 in
theorem w_c5 : (Jvm.Cond.code ({ cls := "java/lang/StringLatin1", name := "charAt", desc := "([BI)C" } : Jvm.MethodName) jdk_43_method_2_code (2 : Nat) (Option.some Jvm.ClassFile.FieldType.char)).before args0 about1 = true := code_word (m := ⟨11, 1⟩) (meth := k11m1) (c := k11c1) (by decide +kernel) rfl rfl rfl (by decide +kernel)
set_option maxRecDepth 65536 in
theorem w_c6 : (Jvm.Cond.code ({ cls := "java/lang/String", name := "checkIndex", desc := "(II)V" } : Jvm.MethodName) jdk_42_method_155_code (2 : Nat) (Option.none : Option Jvm.ClassFile.FieldType)).before args0 about1 = true := code_word (m := ⟨10, 3⟩) (meth := k10m3) (c := k10c3) (by decide +kernel) rfl rfl rfl (by decide +kernel)
set_option maxRecDepth 65536 in
theorem w_c7 : (Jvm.Cond.code ({ cls := "jdk/internal/util/Preconditions", name := "checkIndex", desc := "(IILjava/util/function/BiFunction;)I" } : Jvm.MethodName) jdk_41_method_11_code (3 : Nat) (Option.some Jvm.ClassFile.FieldType.int)).before args0 about1 = true := code_word (m := ⟨12, 1⟩) (meth := k12m1) (c := k12c1) (by decide +kernel) rfl rfl rfl (by decide +kernel)
set_option maxRecDepth 65536 in
theorem w_c8 : (Jvm.Cond.code ({ cls := "com/example/fathomsearch/fathomsearch/CalendarUnitOfLetterPinLaw", name := "expected", desc := "(C)Lcom/example/fathomsearch/fathomsearch/CalendarUnit;" } : Jvm.MethodName) method_3_code (1 : Nat) (Option.some (Jvm.ClassFile.FieldType.object "com/example/fathomsearch/fathomsearch/CalendarUnit"))).before args0 about1 = true := code_word (m := ⟨1, 2⟩) (meth := k1m2) (c := k1c2) (by decide +kernel) rfl rfl rfl (by decide +kernel)
def codes1 : List Jvm.Cond := [Jvm.Cond.code x code maxLocals ret, Jvm.Cond.code ({ cls := "com/example/fathomsearch/fathomsearch/CalendarUnit", name := "ofLetter", desc := "(C)Lcom/example/fathomsearch/fathomsearch/CalendarUnit;" } : Jvm.MethodName) prog_3_method_5_code (5 : Nat) (Option.some (Jvm.ClassFile.FieldType.object "com/example/fathomsearch/fathomsearch/CalendarUnit")), Jvm.Cond.code ({ cls := "com/example/fathomsearch/fathomsearch/CalendarUnit", name := "values", desc := "()[Lcom/example/fathomsearch/fathomsearch/CalendarUnit;" } : Jvm.MethodName) prog_3_method_1_code (0 : Nat) (Option.some (Jvm.ClassFile.FieldType.array (Jvm.ClassFile.FieldType.object "com/example/fathomsearch/fathomsearch/CalendarUnit"))), Jvm.Cond.code ({ cls := "java/lang/String", name := "charAt", desc := "(I)C" } : Jvm.MethodName) jdk_42_method_56_code (2 : Nat) (Option.some Jvm.ClassFile.FieldType.char), Jvm.Cond.code ({ cls := "java/lang/String", name := "isLatin1", desc := "()Z" } : Jvm.MethodName) jdk_42_method_154_code (1 : Nat) (Option.some Jvm.ClassFile.FieldType.boolean), Jvm.Cond.code ({ cls := "java/lang/StringLatin1", name := "charAt", desc := "([BI)C" } : Jvm.MethodName) jdk_43_method_2_code (2 : Nat) (Option.some Jvm.ClassFile.FieldType.char), Jvm.Cond.code ({ cls := "java/lang/String", name := "checkIndex", desc := "(II)V" } : Jvm.MethodName) jdk_42_method_155_code (2 : Nat) (Option.none : Option Jvm.ClassFile.FieldType), Jvm.Cond.code ({ cls := "jdk/internal/util/Preconditions", name := "checkIndex", desc := "(IILjava/util/function/BiFunction;)I" } : Jvm.MethodName) jdk_41_method_11_code (3 : Nat) (Option.some Jvm.ClassFile.FieldType.int), Jvm.Cond.code ({ cls := "com/example/fathomsearch/fathomsearch/CalendarUnitOfLetterPinLaw", name := "expected", desc := "(C)Lcom/example/fathomsearch/fathomsearch/CalendarUnit;" } : Jvm.MethodName) method_3_code (1 : Nat) (Option.some (Jvm.ClassFile.FieldType.object "com/example/fathomsearch/fathomsearch/CalendarUnit"))]
set_option maxRecDepth 65536 in
theorem codes_eq : words1.filter isCode = codes1 := rfl
theorem w_codes : ∀ c ∈ words1.filter isCode, c.before args0 about1 = true := by
  rw [codes_eq]
  intro c hc
  simp only [codes1, List.mem_cons, List.not_mem_nil, or_false] at hc
  rcases hc with rfl | rfl | rfl | rfl | rfl | rfl | rfl | rfl | rfl
  · exact w_c0
  · exact w_c1
  · exact w_c2
  · exact w_c3
  · exact w_c4
  · exact w_c5
  · exact w_c6
  · exact w_c7
  · exact w_c8
set_option maxRecDepth 65536 in
theorem w_t1 : (words1.take 24).all (fun c => isCode c || c.before args0 about1) = true := by decide +kernel
set_option maxRecDepth 65536 in
theorem w_t2 : ((words1.drop 24).take 24).all (fun c => isCode c || c.before args0 about1) = true := by decide +kernel
set_option maxRecDepth 65536 in
theorem w_t3 : ((words1.drop 24).drop 24).all (fun c => isCode c || c.before args0 about1) = true := by decide +kernel
theorem w_tables : (allAtoms (Jvm.Cond.code x code maxLocals ret :: tables_1)).before args0 about1 = true := by
  rw [allAtoms_all]
  show words1.all (fun c => c.before args0 about1) = true
  refine all_split ?_ w_codes
  rw [← List.take_append_drop 24 words1, List.all_append, w_t1, ← List.take_append_drop 24 (words1.drop 24), List.all_append, w_t2, w_t3]
  rfl
set_option maxRecDepth 65536 in
theorem w_rest : rest_1_c.before args0 about1 = true := by decide +kernel
set_option maxRecDepth 65536 in
theorem w_case : (Jvm.Cond.and given_1 narrow_1).before args0 about1 = true := by decide +kernel
theorem w_applies : (headSpec (Jvm.Cond.code x code maxLocals ret :: tables_1) room_1).applies x e0.platform about1 = true :=
  (Spec.applies_iff w_frames).mpr ⟨w_running, w_runnable, w_alone, w_named, w_hears, w_ripe, w_room, w_tables⟩
theorem atStart : AtStart classFile x code maxLocals ret World_1 tables_1 room_1 Calls_1 rest_1 Pre_1 launch0 p0 e0 about1 theMethod args0 below0 :=
  ⟨lists_1, trivial, launch0.admits_env _ _ _, launch0.least_env, fairChoices_fair.cas, fairChoices_fair.clock, w_frames, w_args, w_heap, w_applies, trivial, w_rest, w_case⟩
end start1
theorem witness_1 : WitnessClaimed_1 := ⟨start1.p0, start1.e0, start1.about1, start1.theMethod, start1.args0, start1.below0, start1.atStart⟩
end Jvm.Pilot.@@N@@
