import JvmDerived
import JvmDerived.Pilot.@@N@@Statement
import JvmDerived.Pilot.@@N@@Code
set_option linter.unusedVariables false
set_option linter.unusedSimpArgs false
@@BLOCK:NumsL.lean.txt@@
namespace Jvm.RoadKit
open Sem ClassFile Op Lib Jvm.Stand Jvm.Free Jvm.LawKit
section Own
variable {p : Program} {l : Launch} {e : Env} {R : Room} {s : State} {m : MethodId} {args : Array Value} {below : List Frame} {meth : Method} {c : Code} {T : State} {locs : List Loc} {cells slots : Nat}
def own_Go (p : Program) (e : Env) (below : List Frame) (F : Outcome → State → Prop) (U : State) : Prop := ∃ s₂ o, Steps p.tables e below U s₂ ∧ s₂.status = .running ∧ Ended s₂ below o ∧ F o s₂
def own_Fin (s : State) (C S : Nat) (Q : Option Value → Heap → List Loc → Prop) (o : Outcome) (U' : State) : Prop := ∃ v L, o = .returned v ∧ Q v U'.heap L ∧ FrameEnd s o U' L C S
theorem own_go {F : Outcome → State → Prop} {U U' : State} (h : ∀ t, Steps p.tables e below U' t → Steps p.tables e below U t) (g : own_Go p e below F U') : own_Go p e below F U := by
  obtain ⟨s₂, o, h1, h2⟩ := g
  exact ⟨s₂, o, h _ h1, h2⟩
theorem own_cast {F : Outcome → State → Prop} {g g' : JFrame} (q : g = g') (k : own_Go p e below F (T.setTop g')) : own_Go p e below F (T.setTop g) := q ▸ k
theorem own_ret (X : Stand p l e R s m args below meth c T locs cells slots) (hx : p.tables.exec = Jvm.exec) (hlk : meth.locks = false) {pc : Nat} {Ls : Array Slot} {w : Value} {t : FieldType} {i : Instr} {rest : List Value} (hret : meth.sig.returnType = some t) (hn : narrow t w = w)
    (hi : (i = .ireturn ∧ (t = .int ∨ t = .boolean ∨ t = .byte ∨ t = .char ∨ t = .short) ∧ ∃ z, w = .int z) ∨ (i = .lreturn ∧ t = .long ∧ ∃ z, w = .long z) ∨ (i = .dreturn ∧ t = .double ∧ ∃ z, w = .double z) ∨ (i = .freturn ∧ t = .float ∧ ∃ z, w = .float z) ∨ (i = .areturn ∧ t.isReference = true ∧ w.isRef = true))
    (hd : decode c.code pc = .ok (i, 1)) {Q : Option Value → Heap → List Loc → Prop} (hQ : Q (some w) T.heap locs) {C S : Nat} (hc : cells ≤ C) (hs : slots ≤ S) : own_Go p e below (own_Fin s C S Q) (T.setTop (mkF m pc Ls (w :: rest))) := by
  obtain ⟨fs, hr, hrun, hended, hW, hsame⟩ := X.leave (v := some w) (fun h => by rw [hret] at h; cases h) hlk
  exact ⟨_, _, retOut X hx hret hn hi hd hr, hrun, hended, _, _, rfl, hQ, ⟨_, rfl⟩, hW, hsame.mono hc hs⟩
theorem own_retN (X : Stand p l e R s m args below meth c T locs cells slots) (hx : p.tables.exec = Jvm.exec) (hlk : meth.locks = false) {pc : Nat} {Ls : Array Slot} {z : Int32} {t : FieldType} {rest : List Value} (hret : meth.sig.returnType = some t) (ht : t = .boolean ∨ t = .byte ∨ t = .char ∨ t = .short)
    (hd : decode c.code pc = .ok (.ireturn, 1)) {Q : Option Value → Heap → List Loc → Prop} (hQ : Q (some (.int (nar t z))) T.heap locs) {C S : Nat} (hc : cells ≤ C) (hs : slots ≤ S) : own_Go p e below (own_Fin s C S Q) (T.setTop (mkF m pc Ls (.int z :: rest))) := by
  obtain ⟨fs, hr, hrun, hended, hW, hsame⟩ := X.leave (v := some (.int (nar t z))) (fun h => by rw [hret] at h; cases h) hlk
  exact ⟨_, _, retN X hx hret ht hd hr, hrun, hended, _, _, rfl, hQ, ⟨_, rfl⟩, hW, hsame.mono hc hs⟩
theorem own_retV (X : Stand p l e R s m args below meth c T locs cells slots) (hx : p.tables.exec = Jvm.exec) (hlk : meth.locks = false) {pc : Nat} {Ls : Array Slot} (hret : meth.sig.returnType = none)
    (hd : decode c.code pc = .ok (.return_, 1)) {Q : Option Value → Heap → List Loc → Prop} (hQ : Q none T.heap locs) {C S : Nat} (hc : cells ≤ C) (hs : slots ≤ S) : own_Go p e below (own_Fin s C S Q) (T.setTop (mkF m pc Ls [])) := by
  obtain ⟨fs, hr, hrun, hended, hW, hsame⟩ := X.leave (v := none) (fun _ => rfl) hlk
  exact ⟨_, _, X.returnOut hx hret hd hr, hrun, hended, _, _, rfl, hQ, ⟨_, rfl⟩, hW, hsame.mono hc hs⟩
def own_FinW (s : State) (C S : Nat) (Q : Option Value → Heap → List Loc → Prop) (o : Outcome) (U' : State) : Prop := ∃ v L, o = .returned v ∧ Q v U'.heap L ∧ ReturnedEndW s o U' L C S
theorem own_monoW {t : State} {o : Outcome} {L : List Loc} {k n C S : Nat} (h : ReturnedEndW s o t L k n) (hc : k ≤ C) (hs : n ≤ S) : ReturnedEndW s o t L C S := ⟨h.1, h.2.1, h.2.2.1, h.2.2.2.mono hc hs⟩
theorem own_retW {vm₁ : Vm} (X : Stand p l e R (s.setVm vm₁) m args below meth c T locs cells slots) (hx : p.tables.exec = Jvm.exec) {n : Nat} (hS : s.Since vm₁ n) (hk : n ≤ T.heap.size) (hlk : meth.locks = false) {pc : Nat} {Ls : Array Slot} {w : Value} {t : FieldType} {i : Instr} {rest : List Value} (hret : meth.sig.returnType = some t) (hn : narrow t w = w)
    (hi : (i = .ireturn ∧ (t = .int ∨ t = .boolean ∨ t = .byte ∨ t = .char ∨ t = .short) ∧ ∃ z, w = .int z) ∨ (i = .lreturn ∧ t = .long ∧ ∃ z, w = .long z) ∨ (i = .dreturn ∧ t = .double ∧ ∃ z, w = .double z) ∨ (i = .freturn ∧ t = .float ∧ ∃ z, w = .float z) ∨ (i = .areturn ∧ t.isReference = true ∧ w.isRef = true))
    (hd : decode c.code pc = .ok (i, 1)) {Q : Option Value → Heap → List Loc → Prop} (hQ : Q (some w) T.heap locs) {C S : Nat} (hc : cells ≤ C) (hs : slots ≤ S) : own_Go p e below (own_FinW s C S Q) (T.setTop (mkF m pc Ls (w :: rest))) := by
  obtain ⟨fs, hr, hrun, hended, hW⟩ := X.leaveW hS hk (v := some w) (fun h => by rw [hret] at h; cases h) hlk
  exact ⟨_, _, retOut X hx hret hn hi hd hr, hrun, hended, _, _, rfl, hQ, own_monoW hW hc hs⟩
theorem own_retNW {vm₁ : Vm} (X : Stand p l e R (s.setVm vm₁) m args below meth c T locs cells slots) (hx : p.tables.exec = Jvm.exec) {n : Nat} (hS : s.Since vm₁ n) (hk : n ≤ T.heap.size) (hlk : meth.locks = false) {pc : Nat} {Ls : Array Slot} {z : Int32} {t : FieldType} {rest : List Value} (hret : meth.sig.returnType = some t) (ht : t = .boolean ∨ t = .byte ∨ t = .char ∨ t = .short)
    (hd : decode c.code pc = .ok (.ireturn, 1)) {Q : Option Value → Heap → List Loc → Prop} (hQ : Q (some (.int (nar t z))) T.heap locs) {C S : Nat} (hc : cells ≤ C) (hs : slots ≤ S) : own_Go p e below (own_FinW s C S Q) (T.setTop (mkF m pc Ls (.int z :: rest))) := by
  obtain ⟨fs, hr, hrun, hended, hW⟩ := X.leaveW hS hk (v := some (.int (nar t z))) (fun h => by rw [hret] at h; cases h) hlk
  exact ⟨_, _, retN X hx hret ht hd hr, hrun, hended, _, _, rfl, hQ, own_monoW hW hc hs⟩
theorem own_retVW {vm₁ : Vm} (X : Stand p l e R (s.setVm vm₁) m args below meth c T locs cells slots) (hx : p.tables.exec = Jvm.exec) {n : Nat} (hS : s.Since vm₁ n) (hk : n ≤ T.heap.size) (hlk : meth.locks = false) {pc : Nat} {Ls : Array Slot} (hret : meth.sig.returnType = none)
    (hd : decode c.code pc = .ok (.return_, 1)) {Q : Option Value → Heap → List Loc → Prop} (hQ : Q none T.heap locs) {C S : Nat} (hc : cells ≤ C) (hs : slots ≤ S) : own_Go p e below (own_FinW s C S Q) (T.setTop (mkF m pc Ls [])) := by
  obtain ⟨fs, hr, hrun, hended, hW⟩ := X.leaveW hS hk (v := none) (fun _ => rfl) hlk
  exact ⟨_, _, X.returnOut hx hret hd hr, hrun, hended, _, _, rfl, hQ, own_monoW hW hc hs⟩
def own_FinH (Z : State) (EL : List (String × Nat)) (s : State) (C S : Nat) (Q : Option Value → Heap → List Loc → Prop) (o : Outcome) (U' : State) : Prop := ∃ v L, o = .returned v ∧ Q v U'.heap L ∧ CHr Z EL s.vm s.heap U'.vm U'.heap ∧ ReturnedEndW s o U' L C S
theorem own_retH {Z : State} {EL : List (String × Nat)} {vm₁ : Vm} (X : Stand p l e R (s.setVm vm₁) m args below meth c T locs cells slots) (hx : p.tables.exec = Jvm.exec) {n : Nat} (hS : s.Since vm₁ n) (hk : n ≤ T.heap.size) (hC : CHr Z EL s.vm s.heap T.vm T.heap) (hlk : meth.locks = false) {pc : Nat} {Ls : Array Slot} {w : Value} {t : FieldType} {i : Instr} {rest : List Value} (hret : meth.sig.returnType = some t) (hn : narrow t w = w)
    (hi : (i = .ireturn ∧ (t = .int ∨ t = .boolean ∨ t = .byte ∨ t = .char ∨ t = .short) ∧ ∃ z, w = .int z) ∨ (i = .lreturn ∧ t = .long ∧ ∃ z, w = .long z) ∨ (i = .dreturn ∧ t = .double ∧ ∃ z, w = .double z) ∨ (i = .freturn ∧ t = .float ∧ ∃ z, w = .float z) ∨ (i = .areturn ∧ t.isReference = true ∧ w.isRef = true))
    (hd : decode c.code pc = .ok (i, 1)) {Q : Option Value → Heap → List Loc → Prop} (hQ : Q (some w) T.heap locs) {C S : Nat} (hc : cells ≤ C) (hs : slots ≤ S) : own_Go p e below (own_FinH Z EL s C S Q) (T.setTop (mkF m pc Ls (w :: rest))) := by
  obtain ⟨fs, hr, hrun, hended, hW⟩ := X.leaveW hS hk (v := some w) (fun h => by rw [hret] at h; cases h) hlk
  exact ⟨_, _, retOut X hx hret hn hi hd hr, hrun, hended, _, _, rfl, hQ, hC, own_monoW hW hc hs⟩
theorem own_retNH {Z : State} {EL : List (String × Nat)} {vm₁ : Vm} (X : Stand p l e R (s.setVm vm₁) m args below meth c T locs cells slots) (hx : p.tables.exec = Jvm.exec) {n : Nat} (hS : s.Since vm₁ n) (hk : n ≤ T.heap.size) (hC : CHr Z EL s.vm s.heap T.vm T.heap) (hlk : meth.locks = false) {pc : Nat} {Ls : Array Slot} {z : Int32} {t : FieldType} {rest : List Value} (hret : meth.sig.returnType = some t) (ht : t = .boolean ∨ t = .byte ∨ t = .char ∨ t = .short)
    (hd : decode c.code pc = .ok (.ireturn, 1)) {Q : Option Value → Heap → List Loc → Prop} (hQ : Q (some (.int (nar t z))) T.heap locs) {C S : Nat} (hc : cells ≤ C) (hs : slots ≤ S) : own_Go p e below (own_FinH Z EL s C S Q) (T.setTop (mkF m pc Ls (.int z :: rest))) := by
  obtain ⟨fs, hr, hrun, hended, hW⟩ := X.leaveW hS hk (v := some (.int (nar t z))) (fun h => by rw [hret] at h; cases h) hlk
  exact ⟨_, _, retN X hx hret ht hd hr, hrun, hended, _, _, rfl, hQ, hC, own_monoW hW hc hs⟩
theorem own_retVH {Z : State} {EL : List (String × Nat)} {vm₁ : Vm} (X : Stand p l e R (s.setVm vm₁) m args below meth c T locs cells slots) (hx : p.tables.exec = Jvm.exec) {n : Nat} (hS : s.Since vm₁ n) (hk : n ≤ T.heap.size) (hC : CHr Z EL s.vm s.heap T.vm T.heap) (hlk : meth.locks = false) {pc : Nat} {Ls : Array Slot} (hret : meth.sig.returnType = none)
    (hd : decode c.code pc = .ok (.return_, 1)) {Q : Option Value → Heap → List Loc → Prop} (hQ : Q none T.heap locs) {C S : Nat} (hc : cells ≤ C) (hs : slots ≤ S) : own_Go p e below (own_FinH Z EL s C S Q) (T.setTop (mkF m pc Ls [])) := by
  obtain ⟨fs, hr, hrun, hended, hW⟩ := X.leaveW hS hk (v := none) (fun _ => rfl) hlk
  exact ⟨_, _, X.returnOut hx hret hd hr, hrun, hended, _, _, rfl, hQ, hC, own_monoW hW hc hs⟩
theorem own_safe_null {Z : State} {EL : List (String × Nat)} {vm : Vm} {h : Heap} {x : Addr} (hal : Z.vm.Alike vm) (E : Exa Z h x "java/lang/String") (F : Fld Z h x "java/lang/String" "value" "[B" .null) : Safe Z EL vm h x := fun B => by
  obtain ⟨p, -, u, a, -, q, -, G, rfl | rfl⟩ := B
  · obtain ⟨cell, cf, k, i, f, f1, f2, -, -, -, -, f7⟩ := F
    cases (show h[q.sa]? = some q.sC from G.ha).symm.trans f1
    obtain ⟨cS, ⟨⟨-, -, -, ⟨cv, kv, iv, s4, -⟩, -, -, -, s8, -⟩, -⟩, -⟩ := G
    obtain ⟨k', hi, -⟩ := State.fieldFound?_setVm (s := Z) hal f2
    have s4' : (Z.setVm vm).fieldFound? "java/lang/String" "value" "[B" = some (cv, kv, iv, q.fSV) := s4
    cases hi.symm.trans s4'
    rw [f7] at s8
    cases s8
  · obtain ⟨cell, k, e1, e2, e3, -, -⟩ := E
    cases (show h[q.sd]? = some q.SA from G.hd).symm.trans e1
    obtain ⟨cS, -, -, f, -⟩ := G
    have f' : vm.findClass "[B" = some q.SA.cls := f
    rw [hal.findClass] at f'
    obtain ⟨k1, q1, q2⟩ := Vm.findClass_spec f'
    obtain ⟨k2, q3, q4⟩ := Vm.findClass_spec e2
    cases q1.symm.trans q3
    exact absurd (q2.symm.trans q4) (by decide)
def own_Met (l : Launch) (Z : State) (y : MethodName) (bytes : ByteArray) (maxL : Nat) (ret : Option FieldType) (ws : List Jvm.Cond) (rm : Room) (as : Array Value) (h0 : Heap) (Q : Option Value → Heap → List Loc → Prop) : Prop :=
  MetFree l y (head1 (Jvm.Cond.code y bytes maxL ret :: ws) rm) (fun a U => a = as ∧ Z.Warmed39 U.vm ∧ U.heap = h0) (fun _ _ _ _ _ => True) (fun _ U o U' => ∃ v L, o = .returned v ∧ Q v U'.heap L ∧ FrameEnd U o U' L rm.cells rm.slots)
def own_MetW (l : Launch) (Z : State) (y : MethodName) (bytes : ByteArray) (maxL : Nat) (ret : Option FieldType) (ws : List Jvm.Cond) (rm : Room) (as : Array Value) (h0 : Heap) (Q : Option Value → Heap → List Loc → Prop) : Prop :=
  MetFree l y (head1 (Jvm.Cond.code y bytes maxL ret :: ws) rm) (fun a U => a = as ∧ Z.Warmed39 U.vm ∧ U.heap = h0) (fun _ _ _ _ _ => True) (fun _ U o U' => ∃ v L, o = .returned v ∧ Q v U'.heap L ∧ ReturnedEndW U o U' L rm.cells rm.slots)
def own_MetH (l : Launch) (Z : State) (EL : List (String × Nat)) (y : MethodName) (bytes : ByteArray) (maxL : Nat) (ret : Option FieldType) (ws : List Jvm.Cond) (rm : Room) (as : Array Value) (h0 : Heap) (Q : Option Value → Heap → List Loc → Prop) : Prop :=
  MetFree l y (head1 (Jvm.Cond.code y bytes maxL ret :: ws) rm) (fun a U => a = as ∧ Z.Warmed39 U.vm ∧ U.heap = h0 ∧ CHv Z EL U.vm h0) (fun _ _ _ _ _ => True) (fun _ U o U' => ∃ v L, o = .returned v ∧ Q v U'.heap L ∧ CHr Z EL U.vm U.heap U'.vm U'.heap ∧ ReturnedEndW U o U' L rm.cells rm.slots)
theorem own_enter {Z : State} {y : MethodName} {bytes : ByteArray} {maxL : Nat} {ret : Option FieldType} {ws : List Jvm.Cond} {rm : Room} {as : Array Value} {h0 : Heap} {Q : Option Value → Heap → List Loc → Prop} {own : String} (hpl : plainFor y = true) (ho : y.cls = own)
    (H : ∀ (p : Program) (e : Env) (s : State) (m : MethodId) (below : List Frame) (meth : Method) (c : Code) (s₁ : State), meth.locks = false → meth.sig.returnType = ret → p.tables.exec = Jvm.exec → c.code = bytes → c.maxLocals = maxL → s.vm.findClass own = some m.cls → meth.name = y.name → Z.Warmed39 s.vm → Stand p l e rm s m as below meth c s₁ [] 0 0 → s₁.heap = h0 → own_Go p e below (own_Fin s rm.cells rm.slots Q) (s₁.setTop (entryFrame m as maxL))) :
    own_Met l Z y bytes maxL ret ws rm as h0 Q := by
  refine MetFree.of_bodySF hpl hisR ?_
  intro p e s m args below meth c s₁ Bd hml0 hP hK
  obtain ⟨rfl, hZ, hh⟩ := hP
  subst ho
  exact H p e s m below meth c s₁ Bd.notSynchronized Bd.returns Bd.exec Bd.bytes hml0 (findClass_of_methodNamed Bd.named) (name_of_methodNamed Bd.named Bd.method).1 hZ (Stand.of_body Bd) (by rw [← hh, Bd.state]; rfl)
theorem own_enterW {Z : State} {y : MethodName} {bytes : ByteArray} {maxL : Nat} {ret : Option FieldType} {ws : List Jvm.Cond} {rm : Room} {as : Array Value} {h0 : Heap} {Q : Option Value → Heap → List Loc → Prop} {own : String} (hpl : plainFor y = true) (ho : y.cls = own)
    (H : ∀ (p : Program) (e : Env) (s : State) (m : MethodId) (below : List Frame) (meth : Method) (c : Code) (s₁ : State), meth.locks = false → meth.sig.returnType = ret → p.tables.exec = Jvm.exec → c.code = bytes → c.maxLocals = maxL → s.vm.findClass own = some m.cls → meth.name = y.name → Z.Warmed39 s.vm → Stand p l e rm (s.setVm s.vm) m as below meth c s₁ [] 0 0 → s₁.heap = h0 → own_Go p e below (own_FinW s rm.cells rm.slots Q) (s₁.setTop (entryFrame m as maxL))) :
    own_MetW l Z y bytes maxL ret ws rm as h0 Q := by
  refine MetFree.of_bodySF hpl hisR ?_
  intro p e s m args below meth c s₁ Bd hml0 hP hK
  obtain ⟨rfl, hZ, hh⟩ := hP
  subst ho
  exact H p e s m below meth c s₁ Bd.notSynchronized Bd.returns Bd.exec Bd.bytes hml0 (findClass_of_methodNamed Bd.named) (name_of_methodNamed Bd.named Bd.method).1 hZ (Stand.of_body Bd) (by rw [← hh, Bd.state]; rfl)
theorem own_enterH {Z : State} {EL : List (String × Nat)} {y : MethodName} {bytes : ByteArray} {maxL : Nat} {ret : Option FieldType} {ws : List Jvm.Cond} {rm : Room} {as : Array Value} {h0 : Heap} {Q : Option Value → Heap → List Loc → Prop} {own : String} (hpl : plainFor y = true) (ho : y.cls = own)
    (H : ∀ (p : Program) (e : Env) (s : State) (m : MethodId) (below : List Frame) (meth : Method) (c : Code) (s₁ : State), meth.locks = false → meth.sig.returnType = ret → p.tables.exec = Jvm.exec → c.code = bytes → c.maxLocals = maxL → s.vm.findClass own = some m.cls → meth.name = y.name → Z.Warmed39 s.vm → s.heap = h0 → CHv Z EL s.vm h0 → Stand p l e rm (s.setVm s.vm) m as below meth c s₁ [] 0 0 → s₁.heap = h0 → own_Go p e below (own_FinH Z EL s rm.cells rm.slots Q) (s₁.setTop (entryFrame m as maxL))) :
    own_MetH l Z EL y bytes maxL ret ws rm as h0 Q := by
  refine MetFree.of_bodySF hpl hisR ?_
  intro p e s m args below meth c s₁ Bd hml0 hP hK
  obtain ⟨rfl, hZ, hh, hH⟩ := hP
  subst ho
  exact H p e s m below meth c s₁ Bd.notSynchronized Bd.returns Bd.exec Bd.bytes hml0 (findClass_of_methodNamed Bd.named) (name_of_methodNamed Bd.named Bd.method).1 hZ hh hH (Stand.of_body Bd) (by rw [← hh, Bd.state]; rfl)
end Own
end Jvm.RoadKit
namespace Jvm.Pilot.@@N@@
open Jvm Jvm.ClassFile Sem Op Lib Jvm.Free Jvm.Stand Jvm.LawKit Jvm.RoadKit Bundle Jvm.Pilot.@@N@@.Jvm.D
section Own
variable {t u : Term} {C n d : String} {a b : Addr} {z j : Int32} {args : Array Value} {s : State} {cl : Cell} {ty : FieldType}
theorem own_cmp_int (h : (Jvm.Cond.eq t (Term.int z)).value args s none s [] = some true) : t.eval args s none [] s = some (.int z) := by
  have e2 : (Term.int z).eval args s none [] s = some (.int z) := Term.int_eval z
  obtain ⟨u, w, f1, f2, k1, k2⟩ := cmp_v (Or.inl h)
  cases f2.symm.trans e2
  obtain ⟨q, rfl⟩ : ∃ q, u = .int q := k2
  have : (Jvm.Cond.eq t (Term.int z)).value args s none s [] = some (decide (q = z)) := by simp [Cond.value, f1, e2]
  rw [f1, gotT this h]
theorem own_fld (ht : t.eval args s none [] s = some (.ref a)) (h : (Jvm.Cond.eq (Term.field t C n d) (Term.int z)).value args s none s [] = some true) : Fld s s.heap a C n d (.int z) :=
  Fld.start ((fld_at ht).symm.trans (own_cmp_int h))
theorem own_fldR (ht : t.eval args s none [] s = some (.ref a)) (h : (Term.field t C n d).eval args s none [] s = some (.ref b)) : Fld s s.heap a C n d (.ref b) :=
  Fld.start ((fld_at ht).symm.trans h)
theorem own_len (ht : t.eval args s none [] s = some (.ref a)) (A : Arr s s.heap a cl ty) (h : (Jvm.Cond.eq (Term.length t) (Term.int z)).value args s none s [] = some true) : cl.slots.size < 2 ^ 31 ∧ cl.slots.size.toInt32 = z := by
  have e := own_cmp_int h
  have ha : s.arrayAt? a = some cl := A.fin (Vm.Alike.refl _)
  simp only [Term.eval, ht, ha, Option.bind_eq_bind, Option.bind_some] at e
  split at e
  · rename_i q
    cases e
    exact ⟨q, rfl⟩
  · cases e
theorem own_el (ht : t.eval args s none [] s = some (.ref a)) (A : Arr s s.heap a cl ty) (h : (Jvm.Cond.eq (Term.elem t (Term.int j)) (Term.int z)).value args s none s [] = some true) : cl.slots[j.toNatClampNeg]? = some (.int z) :=
  (elem_in (own_cmp_int h) ht (Term.int_eval j) A.1).2
theorem own_elR (hu : u.eval args s none [] s = some (.ref b)) (ht : t.eval args s none [] s = some (.ref a)) (A : Arr s s.heap a cl ty) (h : (Jvm.Cond.eq (Term.elem t (Term.int j)) u).value args s none s [] = some true) : cl.slots[j.toNatClampNeg]? = some (.ref b) := by
  obtain ⟨x, w, f1, f2, k1, k2⟩ := cmp_v (Or.inl h)
  cases f2.symm.trans hu
  have hx : x.isRef = true := k2.2
  have q := gotT (eq_R f1 hu hx rfl) h
  subst q
  exact (elem_in f1 ht (Term.int_eval j) A.1).2
end Own

def own_takes (a u1 u4 : Addr) : Int32 := if a = u1 then 1 else if a = u4 then 1 else 0
theorem own_ten (x : Int32) : (x &&& 2147483647) % 9 = 0 ∨ (x &&& 2147483647) % 9 = 1 ∨ (x &&& 2147483647) % 9 = 2 ∨ (x &&& 2147483647) % 9 = 3 ∨ (x &&& 2147483647) % 9 = 4 ∨ (x &&& 2147483647) % 9 = 5 ∨ (x &&& 2147483647) % 9 = 6 ∨ (x &&& 2147483647) % 9 = 7 ∨ (x &&& 2147483647) % 9 = 8 := by
  have h1 : (x &&& 2147483647).toInt = x.toInt % 2 ^ 31 := Jvm.Kit.i32_mask x 2147483647 (k := 31) (by decide) (by decide)
  have h2 : ((x &&& 2147483647) % 9).toInt = (x &&& 2147483647).toInt % (9 : Int32).toInt := Jvm.Kit.i32_rem_nonneg (by rw [h1]; omega)
  have h3 : (9 : Int32).toInt = 9 := rfl
  rw [h3] at h2
  generalize (x &&& 2147483647) % 9 = k at h2 ⊢
  have h4 : 0 ≤ k.toInt ∧ k.toInt ≤ 8 := by omega
  have h5 : k = Int32.ofInt k.toInt := (Int32.ofInt_toInt k).symm
  have h6 : k.toInt = 0 ∨ k.toInt = 1 ∨ k.toInt = 2 ∨ k.toInt = 3 ∨ k.toInt = 4 ∨ k.toInt = 5 ∨ k.toInt = 6 ∨ k.toInt = 7 ∨ k.toInt = 8 := by omega
  rcases h6 with h | h | h | h | h | h | h | h | h <;> rw [h] at h5 <;> subst h5 <;> decide
def Q_takes (ua u1 u4 : Addr) (h0 : Heap) (n0 : Nat) (v : Option Value) (h : Heap) (L : List Loc) : Prop := v = some (.int (own_takes ua u1 u4)) ∧ Fr n0 L ∧ h = h0
theorem ef_takes (m : MethodId) (ua : Addr) : entryFrame m #[(.ref ua)] 1 = mkF m 0 #[.val (.ref ua)] [] := by first | (simp [entryFrame, mkF, argsToLocals, Value.category]; done) | rfl
theorem pn_0 : plainName "com/example/lonborg/lonborg/JobState" = true := by first | (simp [plainName, overriddenIn]; done) | decide +kernel
theorem d_p15_5_0 : decode prog_15_method_5_code 0 = .ok (.aload_n 0, 1) := by decide +kernel
theorem w_28 {Z : State} {a0 : Array Value} (hw : ∀ d ∈ tables_1, d.before a0 Z = true) : (Jvm.Cond.fieldLink "com/example/lonborg/lonborg/JobState" (7 : Nat) "com/example/lonborg/lonborg/JobState" "DELAYED" "Lcom/example/lonborg/lonborg/JobState;").before a0 Z = true := hw _ (List.mem_of_getElem? (i := 28) rfl)
theorem d_p15_5_1 : decode prog_15_method_5_code 1 = .ok (.getstatic 7, 3) := by decide +kernel
theorem d_p15_5_4 : decode prog_15_method_5_code 4 = .ok (.if_acmp .eq 10, 3) := by decide +kernel
theorem d_p15_5_14 : decode prog_15_method_5_code 14 = .ok (.iconst 1, 1) := by decide +kernel
theorem d_p15_5_15 : decode prog_15_method_5_code 15 = .ok (.goto 4, 3) := by decide +kernel
theorem d_p15_5_19 : decode prog_15_method_5_code 19 = .ok (.ireturn, 1) := by decide +kernel
theorem d_p15_5_7 : decode prog_15_method_5_code 7 = .ok (.aload_n 0, 1) := by decide +kernel
theorem w_29 {Z : State} {a0 : Array Value} (hw : ∀ d ∈ tables_1, d.before a0 Z = true) : (Jvm.Cond.fieldLink "com/example/lonborg/lonborg/JobState" (16 : Nat) "com/example/lonborg/lonborg/JobState" "RETRYING" "Lcom/example/lonborg/lonborg/JobState;").before a0 Z = true := hw _ (List.mem_of_getElem? (i := 29) rfl)
theorem d_p15_5_8 : decode prog_15_method_5_code 8 = .ok (.getstatic 16, 3) := by decide +kernel
theorem d_p15_5_11 : decode prog_15_method_5_code 11 = .ok (.if_acmp .ne 7, 3) := by decide +kernel
theorem d_p15_5_18 : decode prog_15_method_5_code 18 = .ok (.iconst 0, 1) := by decide +kernel
set_option maxRecDepth 65536 in
set_option maxHeartbeats 40000000 in
theorem rm_takes (l : Launch) (Z : State) (a0 : Array Value) (hw : ∀ d ∈ tables_1, d.before a0 Z = true) (ws : List Jvm.Cond) (ua u1 u4 : Addr) (h0 : Heap) (n0 : Nat) (Z0 : n0 ≤ h0.size) (O0 : Old Z n0 h0) (S1 : Sta Z Z.heap "com/example/lonborg/lonborg/JobState" "DELAYED" "Lcom/example/lonborg/lonborg/JobState;" (.ref u1)) (S4 : Sta Z Z.heap "com/example/lonborg/lonborg/JobState" "RETRYING" "Lcom/example/lonborg/lonborg/JobState;" (.ref u4)) :
    own_Met l Z (⟨"com/example/lonborg/lonborg/JobState", "waitsForRunAt", "()Z"⟩ : MethodName) prog_15_method_5_code 1 (some .boolean) ws ({ frames := 0, cells := 0, slots := 0, locals := 0 } : Room) #[(.ref ua)] h0 (Q_takes ua u1 u4 h0 n0) := by
  refine own_enter (own := "com/example/lonborg/lonborg/JobState") (plainFor_of_name pn_0) rfl ?_
  intro p e s m below meth c s₁ hlk hret hx hby hml hown hnm hZ X0 e0
  have N0 := Fr.nil n0
  refine own_cast (ef_takes m ua) ?_
  show own_Go _ _ _ _ (s₁.setTop (mkF m 0 #[.val (.ref ua)] []))
  refine own_go (fun t k => XS.aloadN X0.here hx rfl (hb hby d_p15_5_0) rfl rfl k) ?_
  show own_Go _ _ _ _ (s₁.setTop (mkF m 1 #[.val (.ref ua)] [(.ref ua)]))
  obtain ⟨T101, X101, e101, st101⟩ := getS2 X0 hx hZ hown (host := "") (Or.inl (w_28 hw)) Via.refl e0 (S1.ext O0.2) (g := (mkF m 1 #[.val (.ref ua)] [(.ref ua)])) rfl (hb hby d_p15_5_1)
  refine own_go st101 ?_
  by_cases ha102 : ua = u1
  · show own_Go _ _ _ _ (T101.setTop (mkF m 4 #[.val (.ref ua)] [(.ref u1), (.ref ua)]))
    refine own_go (fun t k => Jvm.RoadKit.acmp (g := (mkF m 4 #[.val (.ref ua)] [(.ref u1), (.ref ua)])) X101 hx rfl rfl rfl (pc0 := 4) (pc' := 14) (same := true) rfl (hb hby d_p15_5_4) rfl (decide_eq_true (congrArg Value.ref ha102)) (by decide) (by decide) k) ?_
    show own_Go _ _ _ _ (T101.setTop (mkF m 14 #[.val (.ref ua)] []))
    refine own_go (fun t k => XS.iconst X101.here hx rfl (hb hby d_p15_5_14) k) ?_
    show own_Go _ _ _ _ (T101.setTop (mkF m 15 #[.val (.ref ua)] [(.int (1 : Int32))]))
    refine own_go (fun t k => XS.goto X101.here hx rfl (pc0 := 15) (pc' := 19) rfl (hb hby d_p15_5_15) (by decide) (by decide) k) ?_
    show own_Go _ _ _ _ (T101.setTop (mkF m 19 #[.val (.ref ua)] [(.int (1 : Int32))]))
    refine own_retN X101 hx hlk (t := .boolean) hret (by simp) (hb hby d_p15_5_19) ?_ (by decide) (by decide)
    rw [e101]
    exact ⟨by simp [own_takes, nar, ha102], N0, rfl⟩
  · show own_Go _ _ _ _ (T101.setTop (mkF m 4 #[.val (.ref ua)] [(.ref u1), (.ref ua)]))
    refine own_go (fun t k => Jvm.RoadKit.acmp (g := (mkF m 4 #[.val (.ref ua)] [(.ref u1), (.ref ua)])) X101 hx rfl rfl rfl (pc0 := 4) (pc' := 7) (same := false) rfl (hb hby d_p15_5_4) rfl (decide_eq_false fun q => ha102 (Value.ref.inj q)) (by decide) (by decide) k) ?_
    show own_Go _ _ _ _ (T101.setTop (mkF m 7 #[.val (.ref ua)] []))
    refine own_go (fun t k => XS.aloadN X101.here hx rfl (hb hby d_p15_5_7) rfl rfl k) ?_
    show own_Go _ _ _ _ (T101.setTop (mkF m 8 #[.val (.ref ua)] [(.ref ua)]))
    obtain ⟨T103, X103, e103, st103⟩ := getS2 X101 hx hZ hown (host := "") (Or.inl (w_29 hw)) Via.refl e101 (S4.ext O0.2) (g := (mkF m 8 #[.val (.ref ua)] [(.ref ua)])) rfl (hb hby d_p15_5_8)
    refine own_go st103 ?_
    by_cases ha104 : ua = u4
    · show own_Go _ _ _ _ (T103.setTop (mkF m 11 #[.val (.ref ua)] [(.ref u4), (.ref ua)]))
      refine own_go (fun t k => Jvm.RoadKit.acmp (g := (mkF m 11 #[.val (.ref ua)] [(.ref u4), (.ref ua)])) X103 hx rfl rfl rfl (pc0 := 11) (pc' := 14) (same := true) rfl (hb hby d_p15_5_11) rfl (decide_eq_true (congrArg Value.ref ha104)) (by decide) (by decide) k) ?_
      show own_Go _ _ _ _ (T103.setTop (mkF m 14 #[.val (.ref ua)] []))
      refine own_go (fun t k => XS.iconst X103.here hx rfl (hb hby d_p15_5_14) k) ?_
      show own_Go _ _ _ _ (T103.setTop (mkF m 15 #[.val (.ref ua)] [(.int (1 : Int32))]))
      refine own_go (fun t k => XS.goto X103.here hx rfl (pc0 := 15) (pc' := 19) rfl (hb hby d_p15_5_15) (by decide) (by decide) k) ?_
      show own_Go _ _ _ _ (T103.setTop (mkF m 19 #[.val (.ref ua)] [(.int (1 : Int32))]))
      refine own_retN X103 hx hlk (t := .boolean) hret (by simp) (hb hby d_p15_5_19) ?_ (by decide) (by decide)
      rw [e103]
      exact ⟨by simp [own_takes, nar, ha102, ha104], N0, rfl⟩
    · show own_Go _ _ _ _ (T103.setTop (mkF m 11 #[.val (.ref ua)] [(.ref u4), (.ref ua)]))
      refine own_go (fun t k => Jvm.RoadKit.acmp (g := (mkF m 11 #[.val (.ref ua)] [(.ref u4), (.ref ua)])) X103 hx rfl rfl rfl (pc0 := 11) (pc' := 18) (same := false) rfl (hb hby d_p15_5_11) rfl (decide_eq_false fun q => ha104 (Value.ref.inj q)) (by decide) (by decide) k) ?_
      show own_Go _ _ _ _ (T103.setTop (mkF m 18 #[.val (.ref ua)] []))
      refine own_go (fun t k => XS.iconst X103.here hx rfl (hb hby d_p15_5_18) k) ?_
      show own_Go _ _ _ _ (T103.setTop (mkF m 19 #[.val (.ref ua)] [(.int (0 : Int32))]))
      refine own_retN X103 hx hlk (t := .boolean) hret (by simp) (hb hby d_p15_5_19) ?_ (by decide) (by decide)
      rw [e103]
      exact ⟨by simp [own_takes, nar, ha102, ha104], N0, rfl⟩
def Q_final (h0 : Heap) (n0 : Nat) (v : Option Value) (h : Heap) (L : List Loc) : Prop := v = some (.int 0) ∧ Fr n0 L ∧ h = h0
theorem ef_final (m : MethodId) (ua : Addr) : entryFrame m #[(.ref ua)] 1 = mkF m 0 #[.val (.ref ua)] [] := by first | (simp [entryFrame, mkF, argsToLocals, Value.category]; done) | rfl
theorem d_p15_4_0 : decode prog_15_method_4_code 0 = .ok (.aload_n 0, 1) := by decide +kernel
theorem w_35 {Z : State} {a0 : Array Value} (hw : ∀ d ∈ tables_1, d.before a0 Z = true) : (Jvm.Cond.fieldLink "com/example/lonborg/lonborg/JobState" (50 : Nat) "com/example/lonborg/lonborg/JobState" "isFinal" "Z").before a0 Z = true := hw _ (List.mem_of_getElem? (i := 35) rfl)
theorem d_p15_4_1 : decode prog_15_method_4_code 1 = .ok (.getfield 50, 3) := by decide +kernel
theorem d_p15_4_4 : decode prog_15_method_4_code 4 = .ok (.ireturn, 1) := by decide +kernel
set_option maxRecDepth 65536 in
set_option maxHeartbeats 40000000 in
theorem rm_final (l : Launch) (Z : State) (a0 : Array Value) (hw : ∀ d ∈ tables_1, d.before a0 Z = true) (ws : List Jvm.Cond) (ua : Addr) (h0 : Heap) (n0 : Nat) (Z0 : n0 ≤ h0.size) (F0 : Fld Z h0 ua "com/example/lonborg/lonborg/JobState" "isFinal" "Z" (.int (0 : Int32))) :
    own_Met l Z (⟨"com/example/lonborg/lonborg/JobState", "isFinal", "()Z"⟩ : MethodName) prog_15_method_4_code 1 (some .boolean) ws ({ frames := 0, cells := 0, slots := 0, locals := 0 } : Room) #[(.ref ua)] h0 (Q_final h0 n0) := by
  refine own_enter (own := "com/example/lonborg/lonborg/JobState") (plainFor_of_name pn_0) rfl ?_
  intro p e s m below meth c s₁ hlk hret hx hby hml hown hnm hZ X0 e0
  have N0 := Fr.nil n0
  refine own_cast (ef_final m ua) ?_
  show own_Go _ _ _ _ (s₁.setTop (mkF m 0 #[.val (.ref ua)] []))
  refine own_go (fun t k => XS.aloadN X0.here hx rfl (hb hby d_p15_4_0) rfl rfl k) ?_
  show own_Go _ _ _ _ (s₁.setTop (mkF m 1 #[.val (.ref ua)] [(.ref ua)]))
  obtain ⟨T105, X105, e105, st105⟩ := getF X0 hx hZ hown (host := "") (Or.inl (w_35 hw)) Via.refl e0 F0 (g := (mkF m 1 #[.val (.ref ua)] [(.ref ua)])) rfl rfl (hb hby d_p15_4_1)
  refine own_go st105 ?_
  show own_Go _ _ _ _ (T105.setTop (mkF m 4 #[.val (.ref ua)] [(.int (0 : Int32))]))
  refine own_retN X105 hx hlk (t := .boolean) hret (by simp) (hb hby d_p15_4_4) ?_ (by decide) (by decide)
  rw [e105]
  exact ⟨rfl, N0, rfl⟩
def Q_law (n0 : Nat) (v : Option Value) (h : Heap) (L : List Loc) : Prop := v = some (.int 1) ∧ Fr n0 L
theorem ef_law (m : MethodId) (iv : Int32) : entryFrame m #[(.int iv)] maxLocals = mkF m 0 #[.val (.int iv), .unset, .unset, .unset, .unset, .unset] [] := by first | (simp [entryFrame, mkF, argsToLocals, Value.category, maxLocals]; done) | rfl
theorem pn_1 : plainName "com/example/lonborg/lonborg/JobStateWaitsForRunAtPinLaw" = true := by first | (simp [plainName, overriddenIn]; done) | decide +kernel
theorem w_0 {Z : State} {a0 : Array Value} (hw : ∀ d ∈ tables_1, d.before a0 Z = true) : (Jvm.Cond.classLink "com/example/lonborg/lonborg/JobStateWaitsForRunAtPinLaw" (7 : Nat) "com/example/lonborg/lonborg/JobState").before a0 Z = true := hw _ (List.mem_of_getElem? (i := 0) rfl)
theorem w_1 {Z : State} {a0 : Array Value} (hw : ∀ d ∈ tables_1, d.before a0 Z = true) : (Jvm.Cond.arrayOver (Jvm.ClassFile.FieldType.object "com/example/lonborg/lonborg/JobState")).before a0 Z = true := hw _ (List.mem_of_getElem? (i := 1) rfl)
theorem w_2 {Z : State} {a0 : Array Value} (hw : ∀ d ∈ tables_1, d.before a0 Z = true) : (Jvm.Cond.fieldLink "com/example/lonborg/lonborg/JobStateWaitsForRunAtPinLaw" (9 : Nat) "com/example/lonborg/lonborg/JobState" "PENDING" "Lcom/example/lonborg/lonborg/JobState;").before a0 Z = true := hw _ (List.mem_of_getElem? (i := 2) rfl)
theorem w_6 {Z : State} {a0 : Array Value} (hw : ∀ d ∈ tables_1, d.before a0 Z = true) : (Jvm.Cond.fieldLink "com/example/lonborg/lonborg/JobStateWaitsForRunAtPinLaw" (13 : Nat) "com/example/lonborg/lonborg/JobState" "DELAYED" "Lcom/example/lonborg/lonborg/JobState;").before a0 Z = true := hw _ (List.mem_of_getElem? (i := 6) rfl)
theorem w_8 {Z : State} {a0 : Array Value} (hw : ∀ d ∈ tables_1, d.before a0 Z = true) : (Jvm.Cond.fieldLink "com/example/lonborg/lonborg/JobStateWaitsForRunAtPinLaw" (16 : Nat) "com/example/lonborg/lonborg/JobState" "SCHEDULED" "Lcom/example/lonborg/lonborg/JobState;").before a0 Z = true := hw _ (List.mem_of_getElem? (i := 8) rfl)
theorem w_10 {Z : State} {a0 : Array Value} (hw : ∀ d ∈ tables_1, d.before a0 Z = true) : (Jvm.Cond.fieldLink "com/example/lonborg/lonborg/JobStateWaitsForRunAtPinLaw" (19 : Nat) "com/example/lonborg/lonborg/JobState" "RUNNING" "Lcom/example/lonborg/lonborg/JobState;").before a0 Z = true := hw _ (List.mem_of_getElem? (i := 10) rfl)
theorem w_12 {Z : State} {a0 : Array Value} (hw : ∀ d ∈ tables_1, d.before a0 Z = true) : (Jvm.Cond.fieldLink "com/example/lonborg/lonborg/JobStateWaitsForRunAtPinLaw" (22 : Nat) "com/example/lonborg/lonborg/JobState" "RETRYING" "Lcom/example/lonborg/lonborg/JobState;").before a0 Z = true := hw _ (List.mem_of_getElem? (i := 12) rfl)
theorem w_14 {Z : State} {a0 : Array Value} (hw : ∀ d ∈ tables_1, d.before a0 Z = true) : (Jvm.Cond.fieldLink "com/example/lonborg/lonborg/JobStateWaitsForRunAtPinLaw" (25 : Nat) "com/example/lonborg/lonborg/JobState" "COMPLETED" "Lcom/example/lonborg/lonborg/JobState;").before a0 Z = true := hw _ (List.mem_of_getElem? (i := 14) rfl)
theorem w_16 {Z : State} {a0 : Array Value} (hw : ∀ d ∈ tables_1, d.before a0 Z = true) : (Jvm.Cond.fieldLink "com/example/lonborg/lonborg/JobStateWaitsForRunAtPinLaw" (28 : Nat) "com/example/lonborg/lonborg/JobState" "FAILED" "Lcom/example/lonborg/lonborg/JobState;").before a0 Z = true := hw _ (List.mem_of_getElem? (i := 16) rfl)
theorem w_18 {Z : State} {a0 : Array Value} (hw : ∀ d ∈ tables_1, d.before a0 Z = true) : (Jvm.Cond.fieldLink "com/example/lonborg/lonborg/JobStateWaitsForRunAtPinLaw" (31 : Nat) "com/example/lonborg/lonborg/JobState" "DEAD_LETTER" "Lcom/example/lonborg/lonborg/JobState;").before a0 Z = true := hw _ (List.mem_of_getElem? (i := 18) rfl)
theorem w_20 {Z : State} {a0 : Array Value} (hw : ∀ d ∈ tables_1, d.before a0 Z = true) : (Jvm.Cond.fieldLink "com/example/lonborg/lonborg/JobStateWaitsForRunAtPinLaw" (34 : Nat) "com/example/lonborg/lonborg/JobState" "CANCELLED" "Lcom/example/lonborg/lonborg/JobState;").before a0 Z = true := hw _ (List.mem_of_getElem? (i := 20) rfl)
theorem w_22 {Z : State} {a0 : Array Value} (hw : ∀ d ∈ tables_1, d.before a0 Z = true) : (Jvm.Cond.constant "com/example/lonborg/lonborg/JobStateWaitsForRunAtPinLaw" (37 : Nat) (2147483647 : Int32)).before a0 Z = true := hw _ (List.mem_of_getElem? (i := 22) rfl)
theorem w_23 {Z : State} {a0 : Array Value} (hw : ∀ d ∈ tables_1, d.before a0 Z = true) : (Jvm.Cond.methodLink "com/example/lonborg/lonborg/JobStateWaitsForRunAtPinLaw" (38 : Nat) ({ cls := "com/example/lonborg/lonborg/JobState", name := "waitsForRunAt", desc := "()Z" } : Jvm.MethodName)).before a0 Z = true := hw _ (List.mem_of_getElem? (i := 23) rfl)
theorem w_27 {Z : State} {a0 : Array Value} (hw : ∀ d ∈ tables_1, d.before a0 Z = true) : (Jvm.Cond.code ({ cls := "com/example/lonborg/lonborg/JobState", name := "waitsForRunAt", desc := "()Z" } : Jvm.MethodName) prog_15_method_5_code (1 : Nat) (Option.some Jvm.ClassFile.FieldType.boolean)).before a0 Z = true := hw _ (List.mem_of_getElem? (i := 27) rfl)
theorem w_3 {Z : State} {a0 : Array Value} (hw : ∀ d ∈ tables_1, d.before a0 Z = true) : (Jvm.Cond.initialized "com/example/lonborg/lonborg/JobState").before a0 Z = true := hw _ (List.mem_of_getElem? (i := 3) rfl)
theorem pd_0 : parseMethodDescriptor "()Z" = some ⟨[], some .boolean⟩ := by decide +kernel
theorem w_26 {Z : State} {a0 : Array Value} (hw : ∀ d ∈ tables_1, d.before a0 Z = true) : (Jvm.Cond.selects "com/example/lonborg/lonborg/JobState" ({ cls := "com/example/lonborg/lonborg/JobState", name := "waitsForRunAt", desc := "()Z" } : Jvm.MethodName) ({ cls := "com/example/lonborg/lonborg/JobState", name := "waitsForRunAt", desc := "()Z" } : Jvm.MethodName)).before a0 Z = true := hw _ (List.mem_of_getElem? (i := 26) rfl)
theorem w_24 {Z : State} {a0 : Array Value} (hw : ∀ d ∈ tables_1, d.before a0 Z = true) : (Jvm.Cond.declares ({ cls := "com/example/lonborg/lonborg/JobState", name := "waitsForRunAt", desc := "()Z" } : Jvm.MethodName)).before a0 Z = true := hw _ (List.mem_of_getElem? (i := 24) rfl)
theorem w_25 {Z : State} {a0 : Array Value} (hw : ∀ d ∈ tables_1, d.before a0 Z = true) : (Jvm.Cond.instanceMethod ({ cls := "com/example/lonborg/lonborg/JobState", name := "waitsForRunAt", desc := "()Z" } : Jvm.MethodName)).before a0 Z = true := hw _ (List.mem_of_getElem? (i := 25) rfl)
theorem w_30 {Z : State} {a0 : Array Value} (hw : ∀ d ∈ tables_1, d.before a0 Z = true) : (Jvm.Cond.methodLink "com/example/lonborg/lonborg/JobStateWaitsForRunAtPinLaw" (42 : Nat) ({ cls := "com/example/lonborg/lonborg/JobState", name := "isFinal", desc := "()Z" } : Jvm.MethodName)).before a0 Z = true := hw _ (List.mem_of_getElem? (i := 30) rfl)
theorem w_34 {Z : State} {a0 : Array Value} (hw : ∀ d ∈ tables_1, d.before a0 Z = true) : (Jvm.Cond.code ({ cls := "com/example/lonborg/lonborg/JobState", name := "isFinal", desc := "()Z" } : Jvm.MethodName) prog_15_method_4_code (1 : Nat) (Option.some Jvm.ClassFile.FieldType.boolean)).before a0 Z = true := hw _ (List.mem_of_getElem? (i := 34) rfl)
theorem w_33 {Z : State} {a0 : Array Value} (hw : ∀ d ∈ tables_1, d.before a0 Z = true) : (Jvm.Cond.selects "com/example/lonborg/lonborg/JobState" ({ cls := "com/example/lonborg/lonborg/JobState", name := "isFinal", desc := "()Z" } : Jvm.MethodName) ({ cls := "com/example/lonborg/lonborg/JobState", name := "isFinal", desc := "()Z" } : Jvm.MethodName)).before a0 Z = true := hw _ (List.mem_of_getElem? (i := 33) rfl)
theorem w_31 {Z : State} {a0 : Array Value} (hw : ∀ d ∈ tables_1, d.before a0 Z = true) : (Jvm.Cond.declares ({ cls := "com/example/lonborg/lonborg/JobState", name := "isFinal", desc := "()Z" } : Jvm.MethodName)).before a0 Z = true := hw _ (List.mem_of_getElem? (i := 31) rfl)
theorem w_32 {Z : State} {a0 : Array Value} (hw : ∀ d ∈ tables_1, d.before a0 Z = true) : (Jvm.Cond.instanceMethod ({ cls := "com/example/lonborg/lonborg/JobState", name := "isFinal", desc := "()Z" } : Jvm.MethodName)).before a0 Z = true := hw _ (List.mem_of_getElem? (i := 32) rfl)
set_option maxRecDepth 65536 in
set_option maxHeartbeats 40000000 in
theorem rm_law (l : Launch) (Z : State) (a0 : Array Value) (hw : ∀ d ∈ tables_1, d.before a0 Z = true) (ws : List Jvm.Cond) (iv : Int32) (u0 u1 u2 u3 u4 u5 u6 u7 u8 : Addr) (h0 : Heap) (n0 : Nat) (Z0 : n0 ≤ h0.size) (O0 : Old Z n0 h0) (S0 : Sta Z Z.heap "com/example/lonborg/lonborg/JobState" "PENDING" "Lcom/example/lonborg/lonborg/JobState;" (.ref u0)) (S1 : Sta Z Z.heap "com/example/lonborg/lonborg/JobState" "DELAYED" "Lcom/example/lonborg/lonborg/JobState;" (.ref u1)) (S2 : Sta Z Z.heap "com/example/lonborg/lonborg/JobState" "SCHEDULED" "Lcom/example/lonborg/lonborg/JobState;" (.ref u2)) (S3 : Sta Z Z.heap "com/example/lonborg/lonborg/JobState" "RUNNING" "Lcom/example/lonborg/lonborg/JobState;" (.ref u3)) (S4 : Sta Z Z.heap "com/example/lonborg/lonborg/JobState" "RETRYING" "Lcom/example/lonborg/lonborg/JobState;" (.ref u4)) (S5 : Sta Z Z.heap "com/example/lonborg/lonborg/JobState" "COMPLETED" "Lcom/example/lonborg/lonborg/JobState;" (.ref u5)) (S6 : Sta Z Z.heap "com/example/lonborg/lonborg/JobState" "FAILED" "Lcom/example/lonborg/lonborg/JobState;" (.ref u6)) (S7 : Sta Z Z.heap "com/example/lonborg/lonborg/JobState" "DEAD_LETTER" "Lcom/example/lonborg/lonborg/JobState;" (.ref u7)) (S8 : Sta Z Z.heap "com/example/lonborg/lonborg/JobState" "CANCELLED" "Lcom/example/lonborg/lonborg/JobState;" (.ref u8)) (E0 : Exa Z Z.heap u0 "com/example/lonborg/lonborg/JobState") (E1 : Exa Z Z.heap u1 "com/example/lonborg/lonborg/JobState") (E2 : Exa Z Z.heap u2 "com/example/lonborg/lonborg/JobState") (E3 : Exa Z Z.heap u3 "com/example/lonborg/lonborg/JobState") (E4 : Exa Z Z.heap u4 "com/example/lonborg/lonborg/JobState") (E5 : Exa Z Z.heap u5 "com/example/lonborg/lonborg/JobState") (E6 : Exa Z Z.heap u6 "com/example/lonborg/lonborg/JobState") (E7 : Exa Z Z.heap u7 "com/example/lonborg/lonborg/JobState") (E8 : Exa Z Z.heap u8 "com/example/lonborg/lonborg/JobState") (F1 : Fld Z Z.heap u1 "com/example/lonborg/lonborg/JobState" "isFinal" "Z" (.int (0 : Int32))) (F4 : Fld Z Z.heap u4 "com/example/lonborg/lonborg/JobState" "isFinal" "Z" (.int (0 : Int32))) (ne_0_1 : ¬ u0 = u1) (ne_0_4 : ¬ u0 = u4) (ne_1_4 : ¬ u1 = u4) (ne_2_1 : ¬ u2 = u1) (ne_2_4 : ¬ u2 = u4) (ne_3_1 : ¬ u3 = u1) (ne_3_4 : ¬ u3 = u4) (ne_4_1 : ¬ u4 = u1) (ne_5_1 : ¬ u5 = u1) (ne_5_4 : ¬ u5 = u4) (ne_6_1 : ¬ u6 = u1) (ne_6_4 : ¬ u6 = u4) (ne_7_1 : ¬ u7 = u1) (ne_7_4 : ¬ u7 = u4) (ne_8_1 : ¬ u8 = u1) (ne_8_4 : ¬ u8 = u4) :
    own_Met l Z x code maxLocals ret ws room_1 #[(.int iv)] h0 (Q_law n0) := by
  refine own_enter (own := "com/example/lonborg/lonborg/JobStateWaitsForRunAtPinLaw") (plainFor_of_name pn_1) rfl ?_
  intro p e s m below meth c s₁ hlk hret hx hby hml hown hnm hZ X0 e0
  have N0 := Fr.nil n0
  refine own_cast (ef_law m iv) ?_
  show own_Go _ _ _ _ (s₁.setTop (mkF m 0 #[.val (.int iv), .unset, .unset, .unset, .unset, .unset] []))
  refine own_go (fun t k => XS.bipush X0.here hx rfl (hb hby at_0) k) ?_
  show own_Go _ _ _ _ (s₁.setTop (mkF m 2 #[.val (.int iv), .unset, .unset, .unset, .unset, .unset] [(.int (9 : Int32))]))
  obtain ⟨T106, h106, k106, X106, e106, E106, A106, B106, O106, st106⟩ := newRE X0 hx hZ hown (w_0 hw) (w_1 hw) e0 (g := (mkF m 2 #[.val (.int iv), .unset, .unset, .unset, .unset, .unset] [(.int (9 : Int32))])) rfl (hb hby at_2) rfl (by decide) (cap := 9) (by decide) (by decide) (by decide) (by decide) (ad := "[Lcom/example/lonborg/lonborg/JobState;") (by decide +kernel)
  obtain ⟨b106, g106⟩ : ∃ z, z = h0.size := ⟨_, rfl⟩
  rw [← g106] at A106 B106 st106
  refine own_go st106 ?_
  have Z106 : n0 ≤ h106.size := (Nat.le_trans Z0 E106.1)
  have lo106 : h0.size ≤ b106 := Nat.le_of_eq g106.symm
  have q106 : n0 ≤ b106 := Nat.le_trans Z0 lo106
  have hi106 : b106 < h106.size := A106.lt
  have V106 : Arv Z h106 b106 k106 (.object "com/example/lonborg/lonborg/JobState") (9 : Int32) [.null, .null, .null, .null, .null, .null, .null, .null, .null] .null := (Arv.new A106 (by decide)).pad (pad_rep [] .null 9)
  show own_Go _ _ _ _ (T106.setTop (mkF m 5 #[.val (.int iv), .unset, .unset, .unset, .unset, .unset] [(.ref b106)]))
  refine own_go (fun t k => XS.dup X106.here hx rfl (hb hby at_5) rfl rfl k) ?_
  show own_Go _ _ _ _ (T106.setTop (mkF m 6 #[.val (.int iv), .unset, .unset, .unset, .unset, .unset] [(.ref b106), (.ref b106)]))
  refine own_go (fun t k => XS.iconst X106.here hx rfl (hb hby at_6) k) ?_
  show own_Go _ _ _ _ (T106.setTop (mkF m 7 #[.val (.int iv), .unset, .unset, .unset, .unset, .unset] [(.int (0 : Int32)), (.ref b106), (.ref b106)]))
  obtain ⟨T107, X107, e107, st107⟩ := getS2 X106 hx hZ hown (host := "") (Or.inl (w_2 hw)) Via.refl e106 (S0.ext (O0.ext E106).2) (g := (mkF m 7 #[.val (.int iv), .unset, .unset, .unset, .unset, .unset] [(.int (0 : Int32)), (.ref b106), (.ref b106)])) rfl (hb hby at_7)
  refine own_go st107 ?_
  show own_Go _ _ _ _ (T107.setTop (mkF m 10 #[.val (.int iv), .unset, .unset, .unset, .unset, .unset] [(.ref u0), (.int (0 : Int32)), (.ref b106), (.ref b106)]))
  obtain ⟨cl108, Ar108, qk108, sz108, nn108, ha108, gf108⟩ := V106
  have hin108 : ¬ ((0 : Int32) < 0 ∨ cl108.slots.size ≤ ((0 : Int32)).toNatClampNeg) := inb_of sz108 ⟨by decide, by decide⟩
  obtain ⟨T109, h109, X109, e109, W109, st109⟩ := stR X107 hx hZ e107 Ar108 (j := (0 : Int32)) hin108 rfl (Sto.ofV Ar108 qk108 O106 (Ins.self (E0.ext (O0.ext E106).2))) (g := (mkF m 10 #[.val (.int iv), .unset, .unset, .unset, .unset, .unset] [(.ref u0), (.int (0 : Int32)), (.ref b106), (.ref b106)])) rfl rfl (hb hby at_10)
  refine own_go st109 ?_
  have V109 : Arv Z h109 b106 k106 (.object "com/example/lonborg/lonborg/JobState") (9 : Int32) [(.ref u0), .null, .null, .null, .null, .null, .null, .null, .null] .null := Arv.set Ar108 qk108 sz108 nn108 ha108 gf108 rfl W109 0 rfl (Nat.le_of_ble_eq_true rfl)
  have Z109 : n0 ≤ h109.size := (Nat.le_trans Z106 (Nat.le_of_eq W109.size.symm))
  have N109 := Fr.snoc X109 N0 q106
  show own_Go _ _ _ _ (T109.setTop (mkF m 11 #[.val (.int iv), .unset, .unset, .unset, .unset, .unset] [(.ref b106)]))
  refine own_go (fun t k => XS.dup X109.here hx rfl (hb hby at_11) rfl rfl k) ?_
  show own_Go _ _ _ _ (T109.setTop (mkF m 12 #[.val (.int iv), .unset, .unset, .unset, .unset, .unset] [(.ref b106), (.ref b106)]))
  refine own_go (fun t k => XS.iconst X109.here hx rfl (hb hby at_12) k) ?_
  show own_Go _ _ _ _ (T109.setTop (mkF m 13 #[.val (.int iv), .unset, .unset, .unset, .unset, .unset] [(.int (1 : Int32)), (.ref b106), (.ref b106)]))
  obtain ⟨T110, X110, e110, st110⟩ := getS2 X109 hx hZ hown (host := "") (Or.inl (w_6 hw)) Via.refl e109 (S1.ext ((O0.ext E106).wr W109 q106).2) (g := (mkF m 13 #[.val (.int iv), .unset, .unset, .unset, .unset, .unset] [(.int (1 : Int32)), (.ref b106), (.ref b106)])) rfl (hb hby at_13)
  refine own_go st110 ?_
  show own_Go _ _ _ _ (T110.setTop (mkF m 16 #[.val (.int iv), .unset, .unset, .unset, .unset, .unset] [(.ref u1), (.int (1 : Int32)), (.ref b106), (.ref b106)]))
  obtain ⟨cl111, Ar111, qk111, sz111, nn111, ha111, gf111⟩ := V109
  have hin111 : ¬ ((1 : Int32) < 0 ∨ cl111.slots.size ≤ ((1 : Int32)).toNatClampNeg) := inb_of sz111 ⟨by decide, by decide⟩
  obtain ⟨T112, h112, X112, e112, W112, st112⟩ := stR X110 hx hZ e110 Ar111 (j := (1 : Int32)) hin111 rfl (Sto.ofV Ar111 qk111 O106 (Ins.self (E1.ext ((O0.ext E106).wr W109 q106).2))) (g := (mkF m 16 #[.val (.int iv), .unset, .unset, .unset, .unset, .unset] [(.ref u1), (.int (1 : Int32)), (.ref b106), (.ref b106)])) rfl rfl (hb hby at_16)
  refine own_go st112 ?_
  have V112 : Arv Z h112 b106 k106 (.object "com/example/lonborg/lonborg/JobState") (9 : Int32) [(.ref u0), (.ref u1), .null, .null, .null, .null, .null, .null, .null] .null := Arv.set Ar111 qk111 sz111 nn111 ha111 gf111 rfl W112 1 rfl (Nat.le_of_ble_eq_true rfl)
  have Z112 : n0 ≤ h112.size := (Nat.le_trans Z109 (Nat.le_of_eq W112.size.symm))
  have N112 := Fr.snoc X112 N109 q106
  show own_Go _ _ _ _ (T112.setTop (mkF m 17 #[.val (.int iv), .unset, .unset, .unset, .unset, .unset] [(.ref b106)]))
  refine own_go (fun t k => XS.dup X112.here hx rfl (hb hby at_17) rfl rfl k) ?_
  show own_Go _ _ _ _ (T112.setTop (mkF m 18 #[.val (.int iv), .unset, .unset, .unset, .unset, .unset] [(.ref b106), (.ref b106)]))
  refine own_go (fun t k => XS.iconst X112.here hx rfl (hb hby at_18) k) ?_
  show own_Go _ _ _ _ (T112.setTop (mkF m 19 #[.val (.int iv), .unset, .unset, .unset, .unset, .unset] [(.int (2 : Int32)), (.ref b106), (.ref b106)]))
  obtain ⟨T113, X113, e113, st113⟩ := getS2 X112 hx hZ hown (host := "") (Or.inl (w_8 hw)) Via.refl e112 (S2.ext (((O0.ext E106).wr W109 q106).wr W112 q106).2) (g := (mkF m 19 #[.val (.int iv), .unset, .unset, .unset, .unset, .unset] [(.int (2 : Int32)), (.ref b106), (.ref b106)])) rfl (hb hby at_19)
  refine own_go st113 ?_
  show own_Go _ _ _ _ (T113.setTop (mkF m 22 #[.val (.int iv), .unset, .unset, .unset, .unset, .unset] [(.ref u2), (.int (2 : Int32)), (.ref b106), (.ref b106)]))
  obtain ⟨cl114, Ar114, qk114, sz114, nn114, ha114, gf114⟩ := V112
  have hin114 : ¬ ((2 : Int32) < 0 ∨ cl114.slots.size ≤ ((2 : Int32)).toNatClampNeg) := inb_of sz114 ⟨by decide, by decide⟩
  obtain ⟨T115, h115, X115, e115, W115, st115⟩ := stR X113 hx hZ e113 Ar114 (j := (2 : Int32)) hin114 rfl (Sto.ofV Ar114 qk114 O106 (Ins.self (E2.ext (((O0.ext E106).wr W109 q106).wr W112 q106).2))) (g := (mkF m 22 #[.val (.int iv), .unset, .unset, .unset, .unset, .unset] [(.ref u2), (.int (2 : Int32)), (.ref b106), (.ref b106)])) rfl rfl (hb hby at_22)
  refine own_go st115 ?_
  have V115 : Arv Z h115 b106 k106 (.object "com/example/lonborg/lonborg/JobState") (9 : Int32) [(.ref u0), (.ref u1), (.ref u2), .null, .null, .null, .null, .null, .null] .null := Arv.set Ar114 qk114 sz114 nn114 ha114 gf114 rfl W115 2 rfl (Nat.le_of_ble_eq_true rfl)
  have Z115 : n0 ≤ h115.size := (Nat.le_trans Z112 (Nat.le_of_eq W115.size.symm))
  have N115 := Fr.snoc X115 N112 q106
  show own_Go _ _ _ _ (T115.setTop (mkF m 23 #[.val (.int iv), .unset, .unset, .unset, .unset, .unset] [(.ref b106)]))
  refine own_go (fun t k => XS.dup X115.here hx rfl (hb hby at_23) rfl rfl k) ?_
  show own_Go _ _ _ _ (T115.setTop (mkF m 24 #[.val (.int iv), .unset, .unset, .unset, .unset, .unset] [(.ref b106), (.ref b106)]))
  refine own_go (fun t k => XS.iconst X115.here hx rfl (hb hby at_24) k) ?_
  show own_Go _ _ _ _ (T115.setTop (mkF m 25 #[.val (.int iv), .unset, .unset, .unset, .unset, .unset] [(.int (3 : Int32)), (.ref b106), (.ref b106)]))
  obtain ⟨T116, X116, e116, st116⟩ := getS2 X115 hx hZ hown (host := "") (Or.inl (w_10 hw)) Via.refl e115 (S3.ext ((((O0.ext E106).wr W109 q106).wr W112 q106).wr W115 q106).2) (g := (mkF m 25 #[.val (.int iv), .unset, .unset, .unset, .unset, .unset] [(.int (3 : Int32)), (.ref b106), (.ref b106)])) rfl (hb hby at_25)
  refine own_go st116 ?_
  show own_Go _ _ _ _ (T116.setTop (mkF m 28 #[.val (.int iv), .unset, .unset, .unset, .unset, .unset] [(.ref u3), (.int (3 : Int32)), (.ref b106), (.ref b106)]))
  obtain ⟨cl117, Ar117, qk117, sz117, nn117, ha117, gf117⟩ := V115
  have hin117 : ¬ ((3 : Int32) < 0 ∨ cl117.slots.size ≤ ((3 : Int32)).toNatClampNeg) := inb_of sz117 ⟨by decide, by decide⟩
  obtain ⟨T118, h118, X118, e118, W118, st118⟩ := stR X116 hx hZ e116 Ar117 (j := (3 : Int32)) hin117 rfl (Sto.ofV Ar117 qk117 O106 (Ins.self (E3.ext ((((O0.ext E106).wr W109 q106).wr W112 q106).wr W115 q106).2))) (g := (mkF m 28 #[.val (.int iv), .unset, .unset, .unset, .unset, .unset] [(.ref u3), (.int (3 : Int32)), (.ref b106), (.ref b106)])) rfl rfl (hb hby at_28)
  refine own_go st118 ?_
  have V118 : Arv Z h118 b106 k106 (.object "com/example/lonborg/lonborg/JobState") (9 : Int32) [(.ref u0), (.ref u1), (.ref u2), (.ref u3), .null, .null, .null, .null, .null] .null := Arv.set Ar117 qk117 sz117 nn117 ha117 gf117 rfl W118 3 rfl (Nat.le_of_ble_eq_true rfl)
  have Z118 : n0 ≤ h118.size := (Nat.le_trans Z115 (Nat.le_of_eq W118.size.symm))
  have N118 := Fr.snoc X118 N115 q106
  show own_Go _ _ _ _ (T118.setTop (mkF m 29 #[.val (.int iv), .unset, .unset, .unset, .unset, .unset] [(.ref b106)]))
  refine own_go (fun t k => XS.dup X118.here hx rfl (hb hby at_29) rfl rfl k) ?_
  show own_Go _ _ _ _ (T118.setTop (mkF m 30 #[.val (.int iv), .unset, .unset, .unset, .unset, .unset] [(.ref b106), (.ref b106)]))
  refine own_go (fun t k => XS.iconst X118.here hx rfl (hb hby at_30) k) ?_
  show own_Go _ _ _ _ (T118.setTop (mkF m 31 #[.val (.int iv), .unset, .unset, .unset, .unset, .unset] [(.int (4 : Int32)), (.ref b106), (.ref b106)]))
  have f119 := (((((O0.ext E106).wr W109 q106).wr W112 q106).wr W115 q106).wr W118 q106)
  obtain ⟨T120, X120, e120, st120⟩ := getS2 X118 hx hZ hown (host := "") (Or.inl (w_12 hw)) Via.refl e118 (S4.ext f119.2) (g := (mkF m 31 #[.val (.int iv), .unset, .unset, .unset, .unset, .unset] [(.int (4 : Int32)), (.ref b106), (.ref b106)])) rfl (hb hby at_31)
  refine own_go st120 ?_
  show own_Go _ _ _ _ (T120.setTop (mkF m 34 #[.val (.int iv), .unset, .unset, .unset, .unset, .unset] [(.ref u4), (.int (4 : Int32)), (.ref b106), (.ref b106)]))
  obtain ⟨cl121, Ar121, qk121, sz121, nn121, ha121, gf121⟩ := V118
  have hin121 : ¬ ((4 : Int32) < 0 ∨ cl121.slots.size ≤ ((4 : Int32)).toNatClampNeg) := inb_of sz121 ⟨by decide, by decide⟩
  obtain ⟨T122, h122, X122, e122, W122, st122⟩ := stR X120 hx hZ e120 Ar121 (j := (4 : Int32)) hin121 rfl (Sto.ofV Ar121 qk121 O106 (Ins.self (E4.ext f119.2))) (g := (mkF m 34 #[.val (.int iv), .unset, .unset, .unset, .unset, .unset] [(.ref u4), (.int (4 : Int32)), (.ref b106), (.ref b106)])) rfl rfl (hb hby at_34)
  refine own_go st122 ?_
  have V122 : Arv Z h122 b106 k106 (.object "com/example/lonborg/lonborg/JobState") (9 : Int32) [(.ref u0), (.ref u1), (.ref u2), (.ref u3), (.ref u4), .null, .null, .null, .null] .null := Arv.set Ar121 qk121 sz121 nn121 ha121 gf121 rfl W122 4 rfl (Nat.le_of_ble_eq_true rfl)
  have Z122 : n0 ≤ h122.size := (Nat.le_trans Z118 (Nat.le_of_eq W122.size.symm))
  have N122 := Fr.snoc X122 N118 q106
  show own_Go _ _ _ _ (T122.setTop (mkF m 35 #[.val (.int iv), .unset, .unset, .unset, .unset, .unset] [(.ref b106)]))
  refine own_go (fun t k => XS.dup X122.here hx rfl (hb hby at_35) rfl rfl k) ?_
  show own_Go _ _ _ _ (T122.setTop (mkF m 36 #[.val (.int iv), .unset, .unset, .unset, .unset, .unset] [(.ref b106), (.ref b106)]))
  refine own_go (fun t k => XS.iconst X122.here hx rfl (hb hby at_36) k) ?_
  show own_Go _ _ _ _ (T122.setTop (mkF m 37 #[.val (.int iv), .unset, .unset, .unset, .unset, .unset] [(.int (5 : Int32)), (.ref b106), (.ref b106)]))
  obtain ⟨T123, X123, e123, st123⟩ := getS2 X122 hx hZ hown (host := "") (Or.inl (w_14 hw)) Via.refl e122 (S5.ext (f119.wr W122 q106).2) (g := (mkF m 37 #[.val (.int iv), .unset, .unset, .unset, .unset, .unset] [(.int (5 : Int32)), (.ref b106), (.ref b106)])) rfl (hb hby at_37)
  refine own_go st123 ?_
  show own_Go _ _ _ _ (T123.setTop (mkF m 40 #[.val (.int iv), .unset, .unset, .unset, .unset, .unset] [(.ref u5), (.int (5 : Int32)), (.ref b106), (.ref b106)]))
  obtain ⟨cl124, Ar124, qk124, sz124, nn124, ha124, gf124⟩ := V122
  have hin124 : ¬ ((5 : Int32) < 0 ∨ cl124.slots.size ≤ ((5 : Int32)).toNatClampNeg) := inb_of sz124 ⟨by decide, by decide⟩
  obtain ⟨T125, h125, X125, e125, W125, st125⟩ := stR X123 hx hZ e123 Ar124 (j := (5 : Int32)) hin124 rfl (Sto.ofV Ar124 qk124 O106 (Ins.self (E5.ext (f119.wr W122 q106).2))) (g := (mkF m 40 #[.val (.int iv), .unset, .unset, .unset, .unset, .unset] [(.ref u5), (.int (5 : Int32)), (.ref b106), (.ref b106)])) rfl rfl (hb hby at_40)
  refine own_go st125 ?_
  have V125 : Arv Z h125 b106 k106 (.object "com/example/lonborg/lonborg/JobState") (9 : Int32) [(.ref u0), (.ref u1), (.ref u2), (.ref u3), (.ref u4), (.ref u5), .null, .null, .null] .null := Arv.set Ar124 qk124 sz124 nn124 ha124 gf124 rfl W125 5 rfl (Nat.le_of_ble_eq_true rfl)
  have Z125 : n0 ≤ h125.size := (Nat.le_trans Z122 (Nat.le_of_eq W125.size.symm))
  have N125 := Fr.snoc X125 N122 q106
  show own_Go _ _ _ _ (T125.setTop (mkF m 41 #[.val (.int iv), .unset, .unset, .unset, .unset, .unset] [(.ref b106)]))
  refine own_go (fun t k => XS.dup X125.here hx rfl (hb hby at_41) rfl rfl k) ?_
  show own_Go _ _ _ _ (T125.setTop (mkF m 42 #[.val (.int iv), .unset, .unset, .unset, .unset, .unset] [(.ref b106), (.ref b106)]))
  refine own_go (fun t k => XS.bipush X125.here hx rfl (hb hby at_42) k) ?_
  show own_Go _ _ _ _ (T125.setTop (mkF m 44 #[.val (.int iv), .unset, .unset, .unset, .unset, .unset] [(.int (6 : Int32)), (.ref b106), (.ref b106)]))
  obtain ⟨T126, X126, e126, st126⟩ := getS2 X125 hx hZ hown (host := "") (Or.inl (w_16 hw)) Via.refl e125 (S6.ext ((f119.wr W122 q106).wr W125 q106).2) (g := (mkF m 44 #[.val (.int iv), .unset, .unset, .unset, .unset, .unset] [(.int (6 : Int32)), (.ref b106), (.ref b106)])) rfl (hb hby at_44)
  refine own_go st126 ?_
  show own_Go _ _ _ _ (T126.setTop (mkF m 47 #[.val (.int iv), .unset, .unset, .unset, .unset, .unset] [(.ref u6), (.int (6 : Int32)), (.ref b106), (.ref b106)]))
  obtain ⟨cl127, Ar127, qk127, sz127, nn127, ha127, gf127⟩ := V125
  have hin127 : ¬ ((6 : Int32) < 0 ∨ cl127.slots.size ≤ ((6 : Int32)).toNatClampNeg) := inb_of sz127 ⟨by decide, by decide⟩
  obtain ⟨T128, h128, X128, e128, W128, st128⟩ := stR X126 hx hZ e126 Ar127 (j := (6 : Int32)) hin127 rfl (Sto.ofV Ar127 qk127 O106 (Ins.self (E6.ext ((f119.wr W122 q106).wr W125 q106).2))) (g := (mkF m 47 #[.val (.int iv), .unset, .unset, .unset, .unset, .unset] [(.ref u6), (.int (6 : Int32)), (.ref b106), (.ref b106)])) rfl rfl (hb hby at_47)
  refine own_go st128 ?_
  have V128 : Arv Z h128 b106 k106 (.object "com/example/lonborg/lonborg/JobState") (9 : Int32) [(.ref u0), (.ref u1), (.ref u2), (.ref u3), (.ref u4), (.ref u5), (.ref u6), .null, .null] .null := Arv.set Ar127 qk127 sz127 nn127 ha127 gf127 rfl W128 6 rfl (Nat.le_of_ble_eq_true rfl)
  have Z128 : n0 ≤ h128.size := (Nat.le_trans Z125 (Nat.le_of_eq W128.size.symm))
  have N128 := Fr.snoc X128 N125 q106
  show own_Go _ _ _ _ (T128.setTop (mkF m 48 #[.val (.int iv), .unset, .unset, .unset, .unset, .unset] [(.ref b106)]))
  refine own_go (fun t k => XS.dup X128.here hx rfl (hb hby at_48) rfl rfl k) ?_
  show own_Go _ _ _ _ (T128.setTop (mkF m 49 #[.val (.int iv), .unset, .unset, .unset, .unset, .unset] [(.ref b106), (.ref b106)]))
  refine own_go (fun t k => XS.bipush X128.here hx rfl (hb hby at_49) k) ?_
  show own_Go _ _ _ _ (T128.setTop (mkF m 51 #[.val (.int iv), .unset, .unset, .unset, .unset, .unset] [(.int (7 : Int32)), (.ref b106), (.ref b106)]))
  obtain ⟨T129, X129, e129, st129⟩ := getS2 X128 hx hZ hown (host := "") (Or.inl (w_18 hw)) Via.refl e128 (S7.ext (((f119.wr W122 q106).wr W125 q106).wr W128 q106).2) (g := (mkF m 51 #[.val (.int iv), .unset, .unset, .unset, .unset, .unset] [(.int (7 : Int32)), (.ref b106), (.ref b106)])) rfl (hb hby at_51)
  refine own_go st129 ?_
  show own_Go _ _ _ _ (T129.setTop (mkF m 54 #[.val (.int iv), .unset, .unset, .unset, .unset, .unset] [(.ref u7), (.int (7 : Int32)), (.ref b106), (.ref b106)]))
  obtain ⟨cl130, Ar130, qk130, sz130, nn130, ha130, gf130⟩ := V128
  have hin130 : ¬ ((7 : Int32) < 0 ∨ cl130.slots.size ≤ ((7 : Int32)).toNatClampNeg) := inb_of sz130 ⟨by decide, by decide⟩
  obtain ⟨T131, h131, X131, e131, W131, st131⟩ := stR X129 hx hZ e129 Ar130 (j := (7 : Int32)) hin130 rfl (Sto.ofV Ar130 qk130 O106 (Ins.self (E7.ext (((f119.wr W122 q106).wr W125 q106).wr W128 q106).2))) (g := (mkF m 54 #[.val (.int iv), .unset, .unset, .unset, .unset, .unset] [(.ref u7), (.int (7 : Int32)), (.ref b106), (.ref b106)])) rfl rfl (hb hby at_54)
  refine own_go st131 ?_
  have V131 : Arv Z h131 b106 k106 (.object "com/example/lonborg/lonborg/JobState") (9 : Int32) [(.ref u0), (.ref u1), (.ref u2), (.ref u3), (.ref u4), (.ref u5), (.ref u6), (.ref u7), .null] .null := Arv.set Ar130 qk130 sz130 nn130 ha130 gf130 rfl W131 7 rfl (Nat.le_of_ble_eq_true rfl)
  have Z131 : n0 ≤ h131.size := (Nat.le_trans Z128 (Nat.le_of_eq W131.size.symm))
  have N131 := Fr.snoc X131 N128 q106
  show own_Go _ _ _ _ (T131.setTop (mkF m 55 #[.val (.int iv), .unset, .unset, .unset, .unset, .unset] [(.ref b106)]))
  refine own_go (fun t k => XS.dup X131.here hx rfl (hb hby at_55) rfl rfl k) ?_
  show own_Go _ _ _ _ (T131.setTop (mkF m 56 #[.val (.int iv), .unset, .unset, .unset, .unset, .unset] [(.ref b106), (.ref b106)]))
  refine own_go (fun t k => XS.bipush X131.here hx rfl (hb hby at_56) k) ?_
  show own_Go _ _ _ _ (T131.setTop (mkF m 58 #[.val (.int iv), .unset, .unset, .unset, .unset, .unset] [(.int (8 : Int32)), (.ref b106), (.ref b106)]))
  have f132 := ((((f119.wr W122 q106).wr W125 q106).wr W128 q106).wr W131 q106)
  obtain ⟨T133, X133, e133, st133⟩ := getS2 X131 hx hZ hown (host := "") (Or.inl (w_20 hw)) Via.refl e131 (S8.ext f132.2) (g := (mkF m 58 #[.val (.int iv), .unset, .unset, .unset, .unset, .unset] [(.int (8 : Int32)), (.ref b106), (.ref b106)])) rfl (hb hby at_58)
  refine own_go st133 ?_
  show own_Go _ _ _ _ (T133.setTop (mkF m 61 #[.val (.int iv), .unset, .unset, .unset, .unset, .unset] [(.ref u8), (.int (8 : Int32)), (.ref b106), (.ref b106)]))
  obtain ⟨cl134, Ar134, qk134, sz134, nn134, ha134, gf134⟩ := V131
  have hin134 : ¬ ((8 : Int32) < 0 ∨ cl134.slots.size ≤ ((8 : Int32)).toNatClampNeg) := inb_of sz134 ⟨by decide, by decide⟩
  obtain ⟨T135, h135, X135, e135, W135, st135⟩ := stR X133 hx hZ e133 Ar134 (j := (8 : Int32)) hin134 rfl (Sto.ofV Ar134 qk134 O106 (Ins.self (E8.ext f132.2))) (g := (mkF m 61 #[.val (.int iv), .unset, .unset, .unset, .unset, .unset] [(.ref u8), (.int (8 : Int32)), (.ref b106), (.ref b106)])) rfl rfl (hb hby at_61)
  refine own_go st135 ?_
  have V135 : Arv Z h135 b106 k106 (.object "com/example/lonborg/lonborg/JobState") (9 : Int32) [(.ref u0), (.ref u1), (.ref u2), (.ref u3), (.ref u4), (.ref u5), (.ref u6), (.ref u7), (.ref u8)] .null := Arv.set Ar134 qk134 sz134 nn134 ha134 gf134 rfl W135 8 rfl (Nat.le_of_ble_eq_true rfl)
  have Z135 : n0 ≤ h135.size := (Nat.le_trans Z131 (Nat.le_of_eq W135.size.symm))
  have N135 := Fr.snoc X135 N131 q106
  show own_Go _ _ _ _ (T135.setTop (mkF m 62 #[.val (.int iv), .unset, .unset, .unset, .unset, .unset] [(.ref b106)]))
  refine own_go (fun t k => XS.astoreN X135.here hx rfl (hb hby at_62) rfl rfl (l' := #[.val (.int iv), .val (.ref b106), .unset, .unset, .unset, .unset]) rfl k) ?_
  show own_Go _ _ _ _ (T135.setTop (mkF m 63 #[.val (.int iv), .val (.ref b106), .unset, .unset, .unset, .unset] []))
  refine own_go (fun t k => XS.iloadN X135.here hx rfl (hb hby at_63) rfl k) ?_
  show own_Go _ _ _ _ (T135.setTop (mkF m 64 #[.val (.int iv), .val (.ref b106), .unset, .unset, .unset, .unset] [(.int iv)]))
  refine own_go (X135.ldcInt hx hown (mvT hZ (w_22 hw)) (g := (mkF m 64 #[.val (.int iv), .val (.ref b106), .unset, .unset, .unset, .unset] [(.int iv)])) rfl (hb hby at_64)) ?_
  show own_Go _ _ _ _ (T135.setTop (mkF m 66 #[.val (.int iv), .val (.ref b106), .unset, .unset, .unset, .unset] [(.int (2147483647 : Int32)), (.int iv)]))
  refine own_go (fun t k => XS.iand X135.here hx rfl (hb hby at_66) rfl k) ?_
  show own_Go _ _ _ _ (T135.setTop (mkF m 67 #[.val (.int iv), .val (.ref b106), .unset, .unset, .unset, .unset] [(.int (iv &&& (2147483647 : Int32)))]))
  refine own_go (fun t k => XS.bipush X135.here hx rfl (hb hby at_67) k) ?_
  show own_Go _ _ _ _ (T135.setTop (mkF m 69 #[.val (.int iv), .val (.ref b106), .unset, .unset, .unset, .unset] [(.int (9 : Int32)), (.int (iv &&& (2147483647 : Int32)))]))
  refine own_go (fun t k => iremM X135 hx rfl (hb hby at_69) rfl (by decide) k) ?_
  show own_Go _ _ _ _ (T135.setTop (mkF m 70 #[.val (.int iv), .val (.ref b106), .unset, .unset, .unset, .unset] [(.int ((iv &&& (2147483647 : Int32)) % (9 : Int32)))]))
  generalize hk : (iv &&& (2147483647 : Int32)) % (9 : Int32) = kk
  have hten : kk = 0 ∨ kk = 1 ∨ kk = 2 ∨ kk = 3 ∨ kk = 4 ∨ kk = 5 ∨ kk = 6 ∨ kk = 7 ∨ kk = 8 := hk ▸ own_ten iv
  clear hk
  rcases hten with rfl | rfl | rfl | rfl | rfl | rfl | rfl | rfl | rfl
  · show own_Go _ _ _ _ (T135.setTop (mkF m 70 #[.val (.int iv), .val (.ref b106), .unset, .unset, .unset, .unset] [(.int (0 : Int32))]))
    refine own_go (fun t k => XS.istoreN X135.here hx rfl (hb hby at_70) rfl (l' := #[.val (.int iv), .val (.ref b106), .val (.int (0 : Int32)), .unset, .unset, .unset]) rfl k) ?_
    show own_Go _ _ _ _ (T135.setTop (mkF m 71 #[.val (.int iv), .val (.ref b106), .val (.int (0 : Int32)), .unset, .unset, .unset] []))
    refine own_go (fun t k => XS.aloadN X135.here hx rfl (hb hby at_71) rfl rfl k) ?_
    show own_Go _ _ _ _ (T135.setTop (mkF m 72 #[.val (.int iv), .val (.ref b106), .val (.int (0 : Int32)), .unset, .unset, .unset] [(.ref b106)]))
    refine own_go (fun t k => XS.iloadN X135.here hx rfl (hb hby at_72) rfl k) ?_
    show own_Go _ _ _ _ (T135.setTop (mkF m 73 #[.val (.int iv), .val (.ref b106), .val (.int (0 : Int32)), .unset, .unset, .unset] [(.int (0 : Int32)), (.ref b106)]))
    obtain ⟨cl136, Ar136, qk136, sz136, nn136, ha136, gf136⟩ := V135
    have hin136 : ¬ ((0 : Int32) < 0 ∨ cl136.slots.size ≤ ((0 : Int32)).toNatClampNeg) := inb_of sz136 ⟨by decide, by decide⟩
    have hat136 : cl136.slots[((0 : Int32)).toNatClampNeg]? = some (.ref u0) := ha136.at hin136 rfl
    refine own_go (X135.aaload hx (j := (0 : Int32)) (v := (.ref u0)) (by rw [e135]; exact Ar136.1) (State.isArrayOf_alike hZ.alike Ar136.2.1) rfl Ar136.2.2 hin136 hat136 (g := (mkF m 73 #[.val (.int iv), .val (.ref b106), .val (.int (0 : Int32)), .unset, .unset, .unset] [(.int (0 : Int32)), (.ref b106)])) rfl rfl (hb hby at_73)) ?_
    show own_Go _ _ _ _ (T135.setTop (mkF m 74 #[.val (.int iv), .val (.ref b106), .val (.int (0 : Int32)), .unset, .unset, .unset] [(.ref u0)]))
    refine own_go (fun t k => XS.astoreN X135.here hx rfl (hb hby at_74) rfl rfl (l' := #[.val (.int iv), .val (.ref b106), .val (.int (0 : Int32)), .val (.ref u0), .unset, .unset]) rfl k) ?_
    show own_Go _ _ _ _ (T135.setTop (mkF m 75 #[.val (.int iv), .val (.ref b106), .val (.int (0 : Int32)), .val (.ref u0), .unset, .unset] []))
    refine own_go (fun t k => XS.iloadN X135.here hx rfl (hb hby at_75) rfl k) ?_
    show own_Go _ _ _ _ (T135.setTop (mkF m 76 #[.val (.int iv), .val (.ref b106), .val (.int (0 : Int32)), .val (.ref u0), .unset, .unset] [(.int (0 : Int32))]))
    refine own_go (fun t k => XS.iconst X135.here hx rfl (hb hby at_76) k) ?_
    show own_Go _ _ _ _ (T135.setTop (mkF m 77 #[.val (.int iv), .val (.ref b106), .val (.int (0 : Int32)), .val (.ref u0), .unset, .unset] [(.int (1 : Int32)), (.int (0 : Int32))]))
    refine own_go (fun t k => XS.icmpNo X135.here hx rfl (hb hby at_77) rfl (feq (by decide : ¬ ((0 : Int32) = (1 : Int32)))).1 k) ?_
    show own_Go _ _ _ _ (T135.setTop (mkF m 80 #[.val (.int iv), .val (.ref b106), .val (.int (0 : Int32)), .val (.ref u0), .unset, .unset] []))
    refine own_go (fun t k => XS.iloadN X135.here hx rfl (hb hby at_80) rfl k) ?_
    show own_Go _ _ _ _ (T135.setTop (mkF m 81 #[.val (.int iv), .val (.ref b106), .val (.int (0 : Int32)), .val (.ref u0), .unset, .unset] [(.int (0 : Int32))]))
    refine own_go (fun t k => XS.iconst X135.here hx rfl (hb hby at_81) k) ?_
    show own_Go _ _ _ _ (T135.setTop (mkF m 82 #[.val (.int iv), .val (.ref b106), .val (.int (0 : Int32)), .val (.ref u0), .unset, .unset] [(.int (4 : Int32)), (.int (0 : Int32))]))
    refine own_go (fun t k => XS.icmpYes X135.here hx rfl (pc0 := 82) (pc' := 89) rfl (hb hby at_82) rfl (feq (by decide : ¬ ((0 : Int32) = (4 : Int32)))).2 (by decide) (by decide) k) ?_
    show own_Go _ _ _ _ (T135.setTop (mkF m 89 #[.val (.int iv), .val (.ref b106), .val (.int (0 : Int32)), .val (.ref u0), .unset, .unset] []))
    refine own_go (fun t k => XS.iconst X135.here hx rfl (hb hby at_89) k) ?_
    show own_Go _ _ _ _ (T135.setTop (mkF m 90 #[.val (.int iv), .val (.ref b106), .val (.int (0 : Int32)), .val (.ref u0), .unset, .unset] [(.int (0 : Int32))]))
    refine own_go (fun t k => XS.istore X135.here hx rfl (hb hby at_90) rfl (l' := #[.val (.int iv), .val (.ref b106), .val (.int (0 : Int32)), .val (.ref u0), .val (.int (0 : Int32)), .unset]) rfl k) ?_
    show own_Go _ _ _ _ (T135.setTop (mkF m 92 #[.val (.int iv), .val (.ref b106), .val (.int (0 : Int32)), .val (.ref u0), .val (.int (0 : Int32)), .unset] []))
    refine own_go (fun t k => XS.aloadN X135.here hx rfl (hb hby at_92) rfl rfl k) ?_
    have tk : own_takes u0 u1 u4 = (0 : Int32) := by simp [own_takes, ne_0_1, ne_0_4]
    show own_Go _ _ _ _ (T135.setTop (mkF m 93 #[.val (.int iv), .val (.ref b106), .val (.int (0 : Int32)), .val (.ref u0), .val (.int (0 : Int32)), .unset] [(.ref u0)]))
    obtain ⟨cq137, kq137, q137a, q137b, q137c⟩ := isOf hZ e135 (E0.ext (f132.wr W135 q106).2)
    obtain ⟨_, _, ⟨T137, L137, k137, n137⟩, -, X137, ⟨Lc137, hQ137, l137, y137, z137⟩, st137⟩ := X135.virtualBack hx (y := (⟨"com/example/lonborg/lonborg/JobState", "waitsForRunAt", "()Z"⟩ : MethodName)) (z := (⟨"com/example/lonborg/lonborg/JobState", "waitsForRunAt", "()Z"⟩ : MethodName)) hown (mvT hZ (w_23 hw)) (mvT hZ (w_24 hw)) (notFace_of_selects (args := #[]) (mvT hZ (w_26 hw))) (mvT hZ (w_26 hw)) (mvT hZ (w_25 hw)) (by decide) (backOf (W := 0) (rm_takes l Z a0 hw [] u0 u1 u4 h135 n0 Z135 (f132.wr W135 q106) S1 S4) hZ (w_27 hw) (w_3 hw) (by decide) (by decide)) q137a q137c (g := (mkF m 93 #[.val (.int iv), .val (.ref b106), .val (.int (0 : Int32)), .val (.ref u0), .val (.int (0 : Int32)), .unset] [(.ref u0)])) rfl (by rw [hml]; rfl) (Steps.refl _) (argsL := []) (rest := []) (lenOf pd_0 rfl) rfl (by show 2 * 0 + _ ≤ _; exact Nat.le_of_eq rfl) (hb hby at_93) (fun _ _ => ⟨rfl, e135, (by decide : 1 + 0 ≤ _), (by decide : 9 + 0 ≤ _)⟩)
    dsimp only [Pt.U, Pt.locs, Pt.cells, Pt.slots] at X137 l137 y137 z137 st137 hQ137
    subst l137 y137 z137
    obtain ⟨rfl, N137q, e137⟩ := hQ137
    have N137 := Fr.app N135 N137q
    rw [tk] at st137
    refine own_go (fun t k => st137.trans k) ?_
    show own_Go _ _ _ _ (T137.setTop (mkF m 96 #[.val (.int iv), .val (.ref b106), .val (.int (0 : Int32)), .val (.ref u0), .val (.int (0 : Int32)), .unset] [(.int (0 : Int32))]))
    refine own_go (fun t k => XS.istore X137.here hx rfl (hb hby at_96) rfl (l' := #[.val (.int iv), .val (.ref b106), .val (.int (0 : Int32)), .val (.ref u0), .val (.int (0 : Int32)), .val (.int (0 : Int32))]) rfl k) ?_
    show own_Go _ _ _ _ (T137.setTop (mkF m 98 #[.val (.int iv), .val (.ref b106), .val (.int (0 : Int32)), .val (.ref u0), .val (.int (0 : Int32)), .val (.int (0 : Int32))] []))
    refine own_go (fun t k => XS.iload X137.here hx rfl (hb hby at_98) rfl k) ?_
    show own_Go _ _ _ _ (T137.setTop (mkF m 100 #[.val (.int iv), .val (.ref b106), .val (.int (0 : Int32)), .val (.ref u0), .val (.int (0 : Int32)), .val (.int (0 : Int32))] [(.int (0 : Int32))]))
    refine own_go (fun t k => XS.iload X137.here hx rfl (hb hby at_100) rfl k) ?_
    show own_Go _ _ _ _ (T137.setTop (mkF m 102 #[.val (.int iv), .val (.ref b106), .val (.int (0 : Int32)), .val (.ref u0), .val (.int (0 : Int32)), .val (.int (0 : Int32))] [(.int (0 : Int32)), (.int (0 : Int32))]))
    refine own_go (fun t k => XS.icmpYes X137.here hx rfl (pc0 := 102) (pc' := 107) rfl (hb hby at_102) rfl (teq (by decide : (0 : Int32) = (0 : Int32))).1 (by decide) (by decide) k) ?_
    show own_Go _ _ _ _ (T137.setTop (mkF m 107 #[.val (.int iv), .val (.ref b106), .val (.int (0 : Int32)), .val (.ref u0), .val (.int (0 : Int32)), .val (.int (0 : Int32))] []))
    refine own_go (fun t k => XS.iload X137.here hx rfl (hb hby at_107) rfl k) ?_
    show own_Go _ _ _ _ (T137.setTop (mkF m 109 #[.val (.int iv), .val (.ref b106), .val (.int (0 : Int32)), .val (.ref u0), .val (.int (0 : Int32)), .val (.int (0 : Int32))] [(.int (0 : Int32))]))
    refine own_go (fun t k => XS.ifYes X137.here hx rfl (pc0 := 109) (pc' := 121) rfl (hb hby at_109) rfl ((if0 _ _).trans (teq (by decide : (0 : Int32) = (0 : Int32))).1) (by decide) (by decide) k) ?_
    show own_Go _ _ _ _ (T137.setTop (mkF m 121 #[.val (.int iv), .val (.ref b106), .val (.int (0 : Int32)), .val (.ref u0), .val (.int (0 : Int32)), .val (.int (0 : Int32))] []))
    refine own_go (fun t k => XS.iconst X137.here hx rfl (hb hby at_121) k) ?_
    show own_Go _ _ _ _ (T137.setTop (mkF m 122 #[.val (.int iv), .val (.ref b106), .val (.int (0 : Int32)), .val (.ref u0), .val (.int (0 : Int32)), .val (.int (0 : Int32))] [(.int (1 : Int32))]))
    refine own_retN X137 hx hlk (t := .boolean) hret (by simp) (hb hby at_122) ?_ (by decide) (by decide)
    rw [e137]
    exact ⟨rfl, N137⟩
  · show own_Go _ _ _ _ (T135.setTop (mkF m 70 #[.val (.int iv), .val (.ref b106), .unset, .unset, .unset, .unset] [(.int (1 : Int32))]))
    refine own_go (fun t k => XS.istoreN X135.here hx rfl (hb hby at_70) rfl (l' := #[.val (.int iv), .val (.ref b106), .val (.int (1 : Int32)), .unset, .unset, .unset]) rfl k) ?_
    show own_Go _ _ _ _ (T135.setTop (mkF m 71 #[.val (.int iv), .val (.ref b106), .val (.int (1 : Int32)), .unset, .unset, .unset] []))
    refine own_go (fun t k => XS.aloadN X135.here hx rfl (hb hby at_71) rfl rfl k) ?_
    show own_Go _ _ _ _ (T135.setTop (mkF m 72 #[.val (.int iv), .val (.ref b106), .val (.int (1 : Int32)), .unset, .unset, .unset] [(.ref b106)]))
    refine own_go (fun t k => XS.iloadN X135.here hx rfl (hb hby at_72) rfl k) ?_
    show own_Go _ _ _ _ (T135.setTop (mkF m 73 #[.val (.int iv), .val (.ref b106), .val (.int (1 : Int32)), .unset, .unset, .unset] [(.int (1 : Int32)), (.ref b106)]))
    obtain ⟨cl138, Ar138, qk138, sz138, nn138, ha138, gf138⟩ := V135
    have hin138 : ¬ ((1 : Int32) < 0 ∨ cl138.slots.size ≤ ((1 : Int32)).toNatClampNeg) := inb_of sz138 ⟨by decide, by decide⟩
    have hat138 : cl138.slots[((1 : Int32)).toNatClampNeg]? = some (.ref u1) := ha138.at hin138 rfl
    refine own_go (X135.aaload hx (j := (1 : Int32)) (v := (.ref u1)) (by rw [e135]; exact Ar138.1) (State.isArrayOf_alike hZ.alike Ar138.2.1) rfl Ar138.2.2 hin138 hat138 (g := (mkF m 73 #[.val (.int iv), .val (.ref b106), .val (.int (1 : Int32)), .unset, .unset, .unset] [(.int (1 : Int32)), (.ref b106)])) rfl rfl (hb hby at_73)) ?_
    show own_Go _ _ _ _ (T135.setTop (mkF m 74 #[.val (.int iv), .val (.ref b106), .val (.int (1 : Int32)), .unset, .unset, .unset] [(.ref u1)]))
    refine own_go (fun t k => XS.astoreN X135.here hx rfl (hb hby at_74) rfl rfl (l' := #[.val (.int iv), .val (.ref b106), .val (.int (1 : Int32)), .val (.ref u1), .unset, .unset]) rfl k) ?_
    show own_Go _ _ _ _ (T135.setTop (mkF m 75 #[.val (.int iv), .val (.ref b106), .val (.int (1 : Int32)), .val (.ref u1), .unset, .unset] []))
    refine own_go (fun t k => XS.iloadN X135.here hx rfl (hb hby at_75) rfl k) ?_
    show own_Go _ _ _ _ (T135.setTop (mkF m 76 #[.val (.int iv), .val (.ref b106), .val (.int (1 : Int32)), .val (.ref u1), .unset, .unset] [(.int (1 : Int32))]))
    refine own_go (fun t k => XS.iconst X135.here hx rfl (hb hby at_76) k) ?_
    show own_Go _ _ _ _ (T135.setTop (mkF m 77 #[.val (.int iv), .val (.ref b106), .val (.int (1 : Int32)), .val (.ref u1), .unset, .unset] [(.int (1 : Int32)), (.int (1 : Int32))]))
    refine own_go (fun t k => XS.icmpYes X135.here hx rfl (pc0 := 77) (pc' := 85) rfl (hb hby at_77) rfl (teq (by decide : (1 : Int32) = (1 : Int32))).1 (by decide) (by decide) k) ?_
    show own_Go _ _ _ _ (T135.setTop (mkF m 85 #[.val (.int iv), .val (.ref b106), .val (.int (1 : Int32)), .val (.ref u1), .unset, .unset] []))
    refine own_go (fun t k => XS.iconst X135.here hx rfl (hb hby at_85) k) ?_
    show own_Go _ _ _ _ (T135.setTop (mkF m 86 #[.val (.int iv), .val (.ref b106), .val (.int (1 : Int32)), .val (.ref u1), .unset, .unset] [(.int (1 : Int32))]))
    refine own_go (fun t k => XS.goto X135.here hx rfl (pc0 := 86) (pc' := 90) rfl (hb hby at_86) (by decide) (by decide) k) ?_
    show own_Go _ _ _ _ (T135.setTop (mkF m 90 #[.val (.int iv), .val (.ref b106), .val (.int (1 : Int32)), .val (.ref u1), .unset, .unset] [(.int (1 : Int32))]))
    refine own_go (fun t k => XS.istore X135.here hx rfl (hb hby at_90) rfl (l' := #[.val (.int iv), .val (.ref b106), .val (.int (1 : Int32)), .val (.ref u1), .val (.int (1 : Int32)), .unset]) rfl k) ?_
    show own_Go _ _ _ _ (T135.setTop (mkF m 92 #[.val (.int iv), .val (.ref b106), .val (.int (1 : Int32)), .val (.ref u1), .val (.int (1 : Int32)), .unset] []))
    refine own_go (fun t k => XS.aloadN X135.here hx rfl (hb hby at_92) rfl rfl k) ?_
    have tk : own_takes u1 u1 u4 = (1 : Int32) := by simp [own_takes, ne_1_4]
    show own_Go _ _ _ _ (T135.setTop (mkF m 93 #[.val (.int iv), .val (.ref b106), .val (.int (1 : Int32)), .val (.ref u1), .val (.int (1 : Int32)), .unset] [(.ref u1)]))
    obtain ⟨cq139, kq139, q139a, q139b, q139c⟩ := isOf hZ e135 (E1.ext (f132.wr W135 q106).2)
    obtain ⟨_, _, ⟨T139, L139, k139, n139⟩, -, X139, ⟨Lc139, hQ139, l139, y139, z139⟩, st139⟩ := X135.virtualBack hx (y := (⟨"com/example/lonborg/lonborg/JobState", "waitsForRunAt", "()Z"⟩ : MethodName)) (z := (⟨"com/example/lonborg/lonborg/JobState", "waitsForRunAt", "()Z"⟩ : MethodName)) hown (mvT hZ (w_23 hw)) (mvT hZ (w_24 hw)) (notFace_of_selects (args := #[]) (mvT hZ (w_26 hw))) (mvT hZ (w_26 hw)) (mvT hZ (w_25 hw)) (by decide) (backOf (W := 0) (rm_takes l Z a0 hw [] u1 u1 u4 h135 n0 Z135 (f132.wr W135 q106) S1 S4) hZ (w_27 hw) (w_3 hw) (by decide) (by decide)) q139a q139c (g := (mkF m 93 #[.val (.int iv), .val (.ref b106), .val (.int (1 : Int32)), .val (.ref u1), .val (.int (1 : Int32)), .unset] [(.ref u1)])) rfl (by rw [hml]; rfl) (Steps.refl _) (argsL := []) (rest := []) (lenOf pd_0 rfl) rfl (by show 2 * 0 + _ ≤ _; exact Nat.le_of_eq rfl) (hb hby at_93) (fun _ _ => ⟨rfl, e135, (by decide : 1 + 0 ≤ _), (by decide : 9 + 0 ≤ _)⟩)
    dsimp only [Pt.U, Pt.locs, Pt.cells, Pt.slots] at X139 l139 y139 z139 st139 hQ139
    subst l139 y139 z139
    obtain ⟨rfl, N139q, e139⟩ := hQ139
    have N139 := Fr.app N135 N139q
    rw [tk] at st139
    refine own_go (fun t k => st139.trans k) ?_
    show own_Go _ _ _ _ (T139.setTop (mkF m 96 #[.val (.int iv), .val (.ref b106), .val (.int (1 : Int32)), .val (.ref u1), .val (.int (1 : Int32)), .unset] [(.int (1 : Int32))]))
    refine own_go (fun t k => XS.istore X139.here hx rfl (hb hby at_96) rfl (l' := #[.val (.int iv), .val (.ref b106), .val (.int (1 : Int32)), .val (.ref u1), .val (.int (1 : Int32)), .val (.int (1 : Int32))]) rfl k) ?_
    show own_Go _ _ _ _ (T139.setTop (mkF m 98 #[.val (.int iv), .val (.ref b106), .val (.int (1 : Int32)), .val (.ref u1), .val (.int (1 : Int32)), .val (.int (1 : Int32))] []))
    refine own_go (fun t k => XS.iload X139.here hx rfl (hb hby at_98) rfl k) ?_
    show own_Go _ _ _ _ (T139.setTop (mkF m 100 #[.val (.int iv), .val (.ref b106), .val (.int (1 : Int32)), .val (.ref u1), .val (.int (1 : Int32)), .val (.int (1 : Int32))] [(.int (1 : Int32))]))
    refine own_go (fun t k => XS.iload X139.here hx rfl (hb hby at_100) rfl k) ?_
    show own_Go _ _ _ _ (T139.setTop (mkF m 102 #[.val (.int iv), .val (.ref b106), .val (.int (1 : Int32)), .val (.ref u1), .val (.int (1 : Int32)), .val (.int (1 : Int32))] [(.int (1 : Int32)), (.int (1 : Int32))]))
    refine own_go (fun t k => XS.icmpYes X139.here hx rfl (pc0 := 102) (pc' := 107) rfl (hb hby at_102) rfl (teq (by decide : (1 : Int32) = (1 : Int32))).1 (by decide) (by decide) k) ?_
    show own_Go _ _ _ _ (T139.setTop (mkF m 107 #[.val (.int iv), .val (.ref b106), .val (.int (1 : Int32)), .val (.ref u1), .val (.int (1 : Int32)), .val (.int (1 : Int32))] []))
    refine own_go (fun t k => XS.iload X139.here hx rfl (hb hby at_107) rfl k) ?_
    show own_Go _ _ _ _ (T139.setTop (mkF m 109 #[.val (.int iv), .val (.ref b106), .val (.int (1 : Int32)), .val (.ref u1), .val (.int (1 : Int32)), .val (.int (1 : Int32))] [(.int (1 : Int32))]))
    refine own_go (fun t k => XS.ifNo X139.here hx rfl (hb hby at_109) rfl ((if0 _ _).trans (feq (by decide : ¬ ((1 : Int32) = (0 : Int32)))).1) k) ?_
    show own_Go _ _ _ _ (T139.setTop (mkF m 112 #[.val (.int iv), .val (.ref b106), .val (.int (1 : Int32)), .val (.ref u1), .val (.int (1 : Int32)), .val (.int (1 : Int32))] []))
    refine own_go (fun t k => XS.aloadN X139.here hx rfl (hb hby at_112) rfl rfl k) ?_
    show own_Go _ _ _ _ (T139.setTop (mkF m 113 #[.val (.int iv), .val (.ref b106), .val (.int (1 : Int32)), .val (.ref u1), .val (.int (1 : Int32)), .val (.int (1 : Int32))] [(.ref u1)]))
    obtain ⟨cq140, kq140, q140a, q140b, q140c⟩ := isOf hZ e139 (E1.ext (f132.wr W135 q106).2)
    obtain ⟨_, _, ⟨T140, L140, k140, n140⟩, -, X140, ⟨Lc140, hQ140, l140, y140, z140⟩, st140⟩ := X139.virtualBack hx (y := (⟨"com/example/lonborg/lonborg/JobState", "isFinal", "()Z"⟩ : MethodName)) (z := (⟨"com/example/lonborg/lonborg/JobState", "isFinal", "()Z"⟩ : MethodName)) hown (mvT hZ (w_30 hw)) (mvT hZ (w_31 hw)) (notFace_of_selects (args := #[]) (mvT hZ (w_33 hw))) (mvT hZ (w_33 hw)) (mvT hZ (w_32 hw)) (by decide) (backOf (W := 0) (rm_final l Z a0 hw [] u1 h135 n0 Z135 (F1.ext (f132.wr W135 q106).2)) hZ (w_34 hw) (w_3 hw) (by decide) (by decide)) q140a q140c (g := (mkF m 113 #[.val (.int iv), .val (.ref b106), .val (.int (1 : Int32)), .val (.ref u1), .val (.int (1 : Int32)), .val (.int (1 : Int32))] [(.ref u1)])) rfl (by rw [hml]; rfl) (Steps.refl _) (argsL := []) (rest := []) (lenOf pd_0 rfl) rfl (by show 2 * 0 + _ ≤ _; exact Nat.le_of_eq rfl) (hb hby at_113) (fun _ _ => ⟨rfl, e139, (by decide : 1 + 0 ≤ _), (by decide : 9 + 0 ≤ _)⟩)
    dsimp only [Pt.U, Pt.locs, Pt.cells, Pt.slots] at X140 l140 y140 z140 st140 hQ140
    subst l140 y140 z140
    obtain ⟨rfl, N140q, e140⟩ := hQ140
    have N140 := Fr.app N139 N140q
    refine own_go (fun t k => st140.trans k) ?_
    show own_Go _ _ _ _ (T140.setTop (mkF m 116 #[.val (.int iv), .val (.ref b106), .val (.int (1 : Int32)), .val (.ref u1), .val (.int (1 : Int32)), .val (.int (1 : Int32))] [(.int (0 : Int32))]))
    refine own_go (fun t k => XS.ifYes X140.here hx rfl (pc0 := 116) (pc' := 121) rfl (hb hby at_116) rfl ((if0 _ _).trans (teq (by decide : (0 : Int32) = (0 : Int32))).1) (by decide) (by decide) k) ?_
    show own_Go _ _ _ _ (T140.setTop (mkF m 121 #[.val (.int iv), .val (.ref b106), .val (.int (1 : Int32)), .val (.ref u1), .val (.int (1 : Int32)), .val (.int (1 : Int32))] []))
    refine own_go (fun t k => XS.iconst X140.here hx rfl (hb hby at_121) k) ?_
    show own_Go _ _ _ _ (T140.setTop (mkF m 122 #[.val (.int iv), .val (.ref b106), .val (.int (1 : Int32)), .val (.ref u1), .val (.int (1 : Int32)), .val (.int (1 : Int32))] [(.int (1 : Int32))]))
    refine own_retN X140 hx hlk (t := .boolean) hret (by simp) (hb hby at_122) ?_ (by decide) (by decide)
    rw [e140]
    exact ⟨rfl, N140⟩
  · show own_Go _ _ _ _ (T135.setTop (mkF m 70 #[.val (.int iv), .val (.ref b106), .unset, .unset, .unset, .unset] [(.int (2 : Int32))]))
    refine own_go (fun t k => XS.istoreN X135.here hx rfl (hb hby at_70) rfl (l' := #[.val (.int iv), .val (.ref b106), .val (.int (2 : Int32)), .unset, .unset, .unset]) rfl k) ?_
    show own_Go _ _ _ _ (T135.setTop (mkF m 71 #[.val (.int iv), .val (.ref b106), .val (.int (2 : Int32)), .unset, .unset, .unset] []))
    refine own_go (fun t k => XS.aloadN X135.here hx rfl (hb hby at_71) rfl rfl k) ?_
    show own_Go _ _ _ _ (T135.setTop (mkF m 72 #[.val (.int iv), .val (.ref b106), .val (.int (2 : Int32)), .unset, .unset, .unset] [(.ref b106)]))
    refine own_go (fun t k => XS.iloadN X135.here hx rfl (hb hby at_72) rfl k) ?_
    show own_Go _ _ _ _ (T135.setTop (mkF m 73 #[.val (.int iv), .val (.ref b106), .val (.int (2 : Int32)), .unset, .unset, .unset] [(.int (2 : Int32)), (.ref b106)]))
    obtain ⟨cl141, Ar141, qk141, sz141, nn141, ha141, gf141⟩ := V135
    have hin141 : ¬ ((2 : Int32) < 0 ∨ cl141.slots.size ≤ ((2 : Int32)).toNatClampNeg) := inb_of sz141 ⟨by decide, by decide⟩
    have hat141 : cl141.slots[((2 : Int32)).toNatClampNeg]? = some (.ref u2) := ha141.at hin141 rfl
    refine own_go (X135.aaload hx (j := (2 : Int32)) (v := (.ref u2)) (by rw [e135]; exact Ar141.1) (State.isArrayOf_alike hZ.alike Ar141.2.1) rfl Ar141.2.2 hin141 hat141 (g := (mkF m 73 #[.val (.int iv), .val (.ref b106), .val (.int (2 : Int32)), .unset, .unset, .unset] [(.int (2 : Int32)), (.ref b106)])) rfl rfl (hb hby at_73)) ?_
    show own_Go _ _ _ _ (T135.setTop (mkF m 74 #[.val (.int iv), .val (.ref b106), .val (.int (2 : Int32)), .unset, .unset, .unset] [(.ref u2)]))
    refine own_go (fun t k => XS.astoreN X135.here hx rfl (hb hby at_74) rfl rfl (l' := #[.val (.int iv), .val (.ref b106), .val (.int (2 : Int32)), .val (.ref u2), .unset, .unset]) rfl k) ?_
    show own_Go _ _ _ _ (T135.setTop (mkF m 75 #[.val (.int iv), .val (.ref b106), .val (.int (2 : Int32)), .val (.ref u2), .unset, .unset] []))
    refine own_go (fun t k => XS.iloadN X135.here hx rfl (hb hby at_75) rfl k) ?_
    show own_Go _ _ _ _ (T135.setTop (mkF m 76 #[.val (.int iv), .val (.ref b106), .val (.int (2 : Int32)), .val (.ref u2), .unset, .unset] [(.int (2 : Int32))]))
    refine own_go (fun t k => XS.iconst X135.here hx rfl (hb hby at_76) k) ?_
    show own_Go _ _ _ _ (T135.setTop (mkF m 77 #[.val (.int iv), .val (.ref b106), .val (.int (2 : Int32)), .val (.ref u2), .unset, .unset] [(.int (1 : Int32)), (.int (2 : Int32))]))
    refine own_go (fun t k => XS.icmpNo X135.here hx rfl (hb hby at_77) rfl (feq (by decide : ¬ ((2 : Int32) = (1 : Int32)))).1 k) ?_
    show own_Go _ _ _ _ (T135.setTop (mkF m 80 #[.val (.int iv), .val (.ref b106), .val (.int (2 : Int32)), .val (.ref u2), .unset, .unset] []))
    refine own_go (fun t k => XS.iloadN X135.here hx rfl (hb hby at_80) rfl k) ?_
    show own_Go _ _ _ _ (T135.setTop (mkF m 81 #[.val (.int iv), .val (.ref b106), .val (.int (2 : Int32)), .val (.ref u2), .unset, .unset] [(.int (2 : Int32))]))
    refine own_go (fun t k => XS.iconst X135.here hx rfl (hb hby at_81) k) ?_
    show own_Go _ _ _ _ (T135.setTop (mkF m 82 #[.val (.int iv), .val (.ref b106), .val (.int (2 : Int32)), .val (.ref u2), .unset, .unset] [(.int (4 : Int32)), (.int (2 : Int32))]))
    refine own_go (fun t k => XS.icmpYes X135.here hx rfl (pc0 := 82) (pc' := 89) rfl (hb hby at_82) rfl (feq (by decide : ¬ ((2 : Int32) = (4 : Int32)))).2 (by decide) (by decide) k) ?_
    show own_Go _ _ _ _ (T135.setTop (mkF m 89 #[.val (.int iv), .val (.ref b106), .val (.int (2 : Int32)), .val (.ref u2), .unset, .unset] []))
    refine own_go (fun t k => XS.iconst X135.here hx rfl (hb hby at_89) k) ?_
    show own_Go _ _ _ _ (T135.setTop (mkF m 90 #[.val (.int iv), .val (.ref b106), .val (.int (2 : Int32)), .val (.ref u2), .unset, .unset] [(.int (0 : Int32))]))
    refine own_go (fun t k => XS.istore X135.here hx rfl (hb hby at_90) rfl (l' := #[.val (.int iv), .val (.ref b106), .val (.int (2 : Int32)), .val (.ref u2), .val (.int (0 : Int32)), .unset]) rfl k) ?_
    show own_Go _ _ _ _ (T135.setTop (mkF m 92 #[.val (.int iv), .val (.ref b106), .val (.int (2 : Int32)), .val (.ref u2), .val (.int (0 : Int32)), .unset] []))
    refine own_go (fun t k => XS.aloadN X135.here hx rfl (hb hby at_92) rfl rfl k) ?_
    have tk : own_takes u2 u1 u4 = (0 : Int32) := by simp [own_takes, ne_2_1, ne_2_4]
    show own_Go _ _ _ _ (T135.setTop (mkF m 93 #[.val (.int iv), .val (.ref b106), .val (.int (2 : Int32)), .val (.ref u2), .val (.int (0 : Int32)), .unset] [(.ref u2)]))
    obtain ⟨cq142, kq142, q142a, q142b, q142c⟩ := isOf hZ e135 (E2.ext (f132.wr W135 q106).2)
    obtain ⟨_, _, ⟨T142, L142, k142, n142⟩, -, X142, ⟨Lc142, hQ142, l142, y142, z142⟩, st142⟩ := X135.virtualBack hx (y := (⟨"com/example/lonborg/lonborg/JobState", "waitsForRunAt", "()Z"⟩ : MethodName)) (z := (⟨"com/example/lonborg/lonborg/JobState", "waitsForRunAt", "()Z"⟩ : MethodName)) hown (mvT hZ (w_23 hw)) (mvT hZ (w_24 hw)) (notFace_of_selects (args := #[]) (mvT hZ (w_26 hw))) (mvT hZ (w_26 hw)) (mvT hZ (w_25 hw)) (by decide) (backOf (W := 0) (rm_takes l Z a0 hw [] u2 u1 u4 h135 n0 Z135 (f132.wr W135 q106) S1 S4) hZ (w_27 hw) (w_3 hw) (by decide) (by decide)) q142a q142c (g := (mkF m 93 #[.val (.int iv), .val (.ref b106), .val (.int (2 : Int32)), .val (.ref u2), .val (.int (0 : Int32)), .unset] [(.ref u2)])) rfl (by rw [hml]; rfl) (Steps.refl _) (argsL := []) (rest := []) (lenOf pd_0 rfl) rfl (by show 2 * 0 + _ ≤ _; exact Nat.le_of_eq rfl) (hb hby at_93) (fun _ _ => ⟨rfl, e135, (by decide : 1 + 0 ≤ _), (by decide : 9 + 0 ≤ _)⟩)
    dsimp only [Pt.U, Pt.locs, Pt.cells, Pt.slots] at X142 l142 y142 z142 st142 hQ142
    subst l142 y142 z142
    obtain ⟨rfl, N142q, e142⟩ := hQ142
    have N142 := Fr.app N135 N142q
    rw [tk] at st142
    refine own_go (fun t k => st142.trans k) ?_
    show own_Go _ _ _ _ (T142.setTop (mkF m 96 #[.val (.int iv), .val (.ref b106), .val (.int (2 : Int32)), .val (.ref u2), .val (.int (0 : Int32)), .unset] [(.int (0 : Int32))]))
    refine own_go (fun t k => XS.istore X142.here hx rfl (hb hby at_96) rfl (l' := #[.val (.int iv), .val (.ref b106), .val (.int (2 : Int32)), .val (.ref u2), .val (.int (0 : Int32)), .val (.int (0 : Int32))]) rfl k) ?_
    show own_Go _ _ _ _ (T142.setTop (mkF m 98 #[.val (.int iv), .val (.ref b106), .val (.int (2 : Int32)), .val (.ref u2), .val (.int (0 : Int32)), .val (.int (0 : Int32))] []))
    refine own_go (fun t k => XS.iload X142.here hx rfl (hb hby at_98) rfl k) ?_
    show own_Go _ _ _ _ (T142.setTop (mkF m 100 #[.val (.int iv), .val (.ref b106), .val (.int (2 : Int32)), .val (.ref u2), .val (.int (0 : Int32)), .val (.int (0 : Int32))] [(.int (0 : Int32))]))
    refine own_go (fun t k => XS.iload X142.here hx rfl (hb hby at_100) rfl k) ?_
    show own_Go _ _ _ _ (T142.setTop (mkF m 102 #[.val (.int iv), .val (.ref b106), .val (.int (2 : Int32)), .val (.ref u2), .val (.int (0 : Int32)), .val (.int (0 : Int32))] [(.int (0 : Int32)), (.int (0 : Int32))]))
    refine own_go (fun t k => XS.icmpYes X142.here hx rfl (pc0 := 102) (pc' := 107) rfl (hb hby at_102) rfl (teq (by decide : (0 : Int32) = (0 : Int32))).1 (by decide) (by decide) k) ?_
    show own_Go _ _ _ _ (T142.setTop (mkF m 107 #[.val (.int iv), .val (.ref b106), .val (.int (2 : Int32)), .val (.ref u2), .val (.int (0 : Int32)), .val (.int (0 : Int32))] []))
    refine own_go (fun t k => XS.iload X142.here hx rfl (hb hby at_107) rfl k) ?_
    show own_Go _ _ _ _ (T142.setTop (mkF m 109 #[.val (.int iv), .val (.ref b106), .val (.int (2 : Int32)), .val (.ref u2), .val (.int (0 : Int32)), .val (.int (0 : Int32))] [(.int (0 : Int32))]))
    refine own_go (fun t k => XS.ifYes X142.here hx rfl (pc0 := 109) (pc' := 121) rfl (hb hby at_109) rfl ((if0 _ _).trans (teq (by decide : (0 : Int32) = (0 : Int32))).1) (by decide) (by decide) k) ?_
    show own_Go _ _ _ _ (T142.setTop (mkF m 121 #[.val (.int iv), .val (.ref b106), .val (.int (2 : Int32)), .val (.ref u2), .val (.int (0 : Int32)), .val (.int (0 : Int32))] []))
    refine own_go (fun t k => XS.iconst X142.here hx rfl (hb hby at_121) k) ?_
    show own_Go _ _ _ _ (T142.setTop (mkF m 122 #[.val (.int iv), .val (.ref b106), .val (.int (2 : Int32)), .val (.ref u2), .val (.int (0 : Int32)), .val (.int (0 : Int32))] [(.int (1 : Int32))]))
    refine own_retN X142 hx hlk (t := .boolean) hret (by simp) (hb hby at_122) ?_ (by decide) (by decide)
    rw [e142]
    exact ⟨rfl, N142⟩
  · show own_Go _ _ _ _ (T135.setTop (mkF m 70 #[.val (.int iv), .val (.ref b106), .unset, .unset, .unset, .unset] [(.int (3 : Int32))]))
    refine own_go (fun t k => XS.istoreN X135.here hx rfl (hb hby at_70) rfl (l' := #[.val (.int iv), .val (.ref b106), .val (.int (3 : Int32)), .unset, .unset, .unset]) rfl k) ?_
    show own_Go _ _ _ _ (T135.setTop (mkF m 71 #[.val (.int iv), .val (.ref b106), .val (.int (3 : Int32)), .unset, .unset, .unset] []))
    refine own_go (fun t k => XS.aloadN X135.here hx rfl (hb hby at_71) rfl rfl k) ?_
    show own_Go _ _ _ _ (T135.setTop (mkF m 72 #[.val (.int iv), .val (.ref b106), .val (.int (3 : Int32)), .unset, .unset, .unset] [(.ref b106)]))
    refine own_go (fun t k => XS.iloadN X135.here hx rfl (hb hby at_72) rfl k) ?_
    show own_Go _ _ _ _ (T135.setTop (mkF m 73 #[.val (.int iv), .val (.ref b106), .val (.int (3 : Int32)), .unset, .unset, .unset] [(.int (3 : Int32)), (.ref b106)]))
    obtain ⟨cl143, Ar143, qk143, sz143, nn143, ha143, gf143⟩ := V135
    have hin143 : ¬ ((3 : Int32) < 0 ∨ cl143.slots.size ≤ ((3 : Int32)).toNatClampNeg) := inb_of sz143 ⟨by decide, by decide⟩
    have hat143 : cl143.slots[((3 : Int32)).toNatClampNeg]? = some (.ref u3) := ha143.at hin143 rfl
    refine own_go (X135.aaload hx (j := (3 : Int32)) (v := (.ref u3)) (by rw [e135]; exact Ar143.1) (State.isArrayOf_alike hZ.alike Ar143.2.1) rfl Ar143.2.2 hin143 hat143 (g := (mkF m 73 #[.val (.int iv), .val (.ref b106), .val (.int (3 : Int32)), .unset, .unset, .unset] [(.int (3 : Int32)), (.ref b106)])) rfl rfl (hb hby at_73)) ?_
    show own_Go _ _ _ _ (T135.setTop (mkF m 74 #[.val (.int iv), .val (.ref b106), .val (.int (3 : Int32)), .unset, .unset, .unset] [(.ref u3)]))
    refine own_go (fun t k => XS.astoreN X135.here hx rfl (hb hby at_74) rfl rfl (l' := #[.val (.int iv), .val (.ref b106), .val (.int (3 : Int32)), .val (.ref u3), .unset, .unset]) rfl k) ?_
    show own_Go _ _ _ _ (T135.setTop (mkF m 75 #[.val (.int iv), .val (.ref b106), .val (.int (3 : Int32)), .val (.ref u3), .unset, .unset] []))
    refine own_go (fun t k => XS.iloadN X135.here hx rfl (hb hby at_75) rfl k) ?_
    show own_Go _ _ _ _ (T135.setTop (mkF m 76 #[.val (.int iv), .val (.ref b106), .val (.int (3 : Int32)), .val (.ref u3), .unset, .unset] [(.int (3 : Int32))]))
    refine own_go (fun t k => XS.iconst X135.here hx rfl (hb hby at_76) k) ?_
    show own_Go _ _ _ _ (T135.setTop (mkF m 77 #[.val (.int iv), .val (.ref b106), .val (.int (3 : Int32)), .val (.ref u3), .unset, .unset] [(.int (1 : Int32)), (.int (3 : Int32))]))
    refine own_go (fun t k => XS.icmpNo X135.here hx rfl (hb hby at_77) rfl (feq (by decide : ¬ ((3 : Int32) = (1 : Int32)))).1 k) ?_
    show own_Go _ _ _ _ (T135.setTop (mkF m 80 #[.val (.int iv), .val (.ref b106), .val (.int (3 : Int32)), .val (.ref u3), .unset, .unset] []))
    refine own_go (fun t k => XS.iloadN X135.here hx rfl (hb hby at_80) rfl k) ?_
    show own_Go _ _ _ _ (T135.setTop (mkF m 81 #[.val (.int iv), .val (.ref b106), .val (.int (3 : Int32)), .val (.ref u3), .unset, .unset] [(.int (3 : Int32))]))
    refine own_go (fun t k => XS.iconst X135.here hx rfl (hb hby at_81) k) ?_
    show own_Go _ _ _ _ (T135.setTop (mkF m 82 #[.val (.int iv), .val (.ref b106), .val (.int (3 : Int32)), .val (.ref u3), .unset, .unset] [(.int (4 : Int32)), (.int (3 : Int32))]))
    refine own_go (fun t k => XS.icmpYes X135.here hx rfl (pc0 := 82) (pc' := 89) rfl (hb hby at_82) rfl (feq (by decide : ¬ ((3 : Int32) = (4 : Int32)))).2 (by decide) (by decide) k) ?_
    show own_Go _ _ _ _ (T135.setTop (mkF m 89 #[.val (.int iv), .val (.ref b106), .val (.int (3 : Int32)), .val (.ref u3), .unset, .unset] []))
    refine own_go (fun t k => XS.iconst X135.here hx rfl (hb hby at_89) k) ?_
    show own_Go _ _ _ _ (T135.setTop (mkF m 90 #[.val (.int iv), .val (.ref b106), .val (.int (3 : Int32)), .val (.ref u3), .unset, .unset] [(.int (0 : Int32))]))
    refine own_go (fun t k => XS.istore X135.here hx rfl (hb hby at_90) rfl (l' := #[.val (.int iv), .val (.ref b106), .val (.int (3 : Int32)), .val (.ref u3), .val (.int (0 : Int32)), .unset]) rfl k) ?_
    show own_Go _ _ _ _ (T135.setTop (mkF m 92 #[.val (.int iv), .val (.ref b106), .val (.int (3 : Int32)), .val (.ref u3), .val (.int (0 : Int32)), .unset] []))
    refine own_go (fun t k => XS.aloadN X135.here hx rfl (hb hby at_92) rfl rfl k) ?_
    have tk : own_takes u3 u1 u4 = (0 : Int32) := by simp [own_takes, ne_3_1, ne_3_4]
    show own_Go _ _ _ _ (T135.setTop (mkF m 93 #[.val (.int iv), .val (.ref b106), .val (.int (3 : Int32)), .val (.ref u3), .val (.int (0 : Int32)), .unset] [(.ref u3)]))
    obtain ⟨cq144, kq144, q144a, q144b, q144c⟩ := isOf hZ e135 (E3.ext (f132.wr W135 q106).2)
    obtain ⟨_, _, ⟨T144, L144, k144, n144⟩, -, X144, ⟨Lc144, hQ144, l144, y144, z144⟩, st144⟩ := X135.virtualBack hx (y := (⟨"com/example/lonborg/lonborg/JobState", "waitsForRunAt", "()Z"⟩ : MethodName)) (z := (⟨"com/example/lonborg/lonborg/JobState", "waitsForRunAt", "()Z"⟩ : MethodName)) hown (mvT hZ (w_23 hw)) (mvT hZ (w_24 hw)) (notFace_of_selects (args := #[]) (mvT hZ (w_26 hw))) (mvT hZ (w_26 hw)) (mvT hZ (w_25 hw)) (by decide) (backOf (W := 0) (rm_takes l Z a0 hw [] u3 u1 u4 h135 n0 Z135 (f132.wr W135 q106) S1 S4) hZ (w_27 hw) (w_3 hw) (by decide) (by decide)) q144a q144c (g := (mkF m 93 #[.val (.int iv), .val (.ref b106), .val (.int (3 : Int32)), .val (.ref u3), .val (.int (0 : Int32)), .unset] [(.ref u3)])) rfl (by rw [hml]; rfl) (Steps.refl _) (argsL := []) (rest := []) (lenOf pd_0 rfl) rfl (by show 2 * 0 + _ ≤ _; exact Nat.le_of_eq rfl) (hb hby at_93) (fun _ _ => ⟨rfl, e135, (by decide : 1 + 0 ≤ _), (by decide : 9 + 0 ≤ _)⟩)
    dsimp only [Pt.U, Pt.locs, Pt.cells, Pt.slots] at X144 l144 y144 z144 st144 hQ144
    subst l144 y144 z144
    obtain ⟨rfl, N144q, e144⟩ := hQ144
    have N144 := Fr.app N135 N144q
    rw [tk] at st144
    refine own_go (fun t k => st144.trans k) ?_
    show own_Go _ _ _ _ (T144.setTop (mkF m 96 #[.val (.int iv), .val (.ref b106), .val (.int (3 : Int32)), .val (.ref u3), .val (.int (0 : Int32)), .unset] [(.int (0 : Int32))]))
    refine own_go (fun t k => XS.istore X144.here hx rfl (hb hby at_96) rfl (l' := #[.val (.int iv), .val (.ref b106), .val (.int (3 : Int32)), .val (.ref u3), .val (.int (0 : Int32)), .val (.int (0 : Int32))]) rfl k) ?_
    show own_Go _ _ _ _ (T144.setTop (mkF m 98 #[.val (.int iv), .val (.ref b106), .val (.int (3 : Int32)), .val (.ref u3), .val (.int (0 : Int32)), .val (.int (0 : Int32))] []))
    refine own_go (fun t k => XS.iload X144.here hx rfl (hb hby at_98) rfl k) ?_
    show own_Go _ _ _ _ (T144.setTop (mkF m 100 #[.val (.int iv), .val (.ref b106), .val (.int (3 : Int32)), .val (.ref u3), .val (.int (0 : Int32)), .val (.int (0 : Int32))] [(.int (0 : Int32))]))
    refine own_go (fun t k => XS.iload X144.here hx rfl (hb hby at_100) rfl k) ?_
    show own_Go _ _ _ _ (T144.setTop (mkF m 102 #[.val (.int iv), .val (.ref b106), .val (.int (3 : Int32)), .val (.ref u3), .val (.int (0 : Int32)), .val (.int (0 : Int32))] [(.int (0 : Int32)), (.int (0 : Int32))]))
    refine own_go (fun t k => XS.icmpYes X144.here hx rfl (pc0 := 102) (pc' := 107) rfl (hb hby at_102) rfl (teq (by decide : (0 : Int32) = (0 : Int32))).1 (by decide) (by decide) k) ?_
    show own_Go _ _ _ _ (T144.setTop (mkF m 107 #[.val (.int iv), .val (.ref b106), .val (.int (3 : Int32)), .val (.ref u3), .val (.int (0 : Int32)), .val (.int (0 : Int32))] []))
    refine own_go (fun t k => XS.iload X144.here hx rfl (hb hby at_107) rfl k) ?_
    show own_Go _ _ _ _ (T144.setTop (mkF m 109 #[.val (.int iv), .val (.ref b106), .val (.int (3 : Int32)), .val (.ref u3), .val (.int (0 : Int32)), .val (.int (0 : Int32))] [(.int (0 : Int32))]))
    refine own_go (fun t k => XS.ifYes X144.here hx rfl (pc0 := 109) (pc' := 121) rfl (hb hby at_109) rfl ((if0 _ _).trans (teq (by decide : (0 : Int32) = (0 : Int32))).1) (by decide) (by decide) k) ?_
    show own_Go _ _ _ _ (T144.setTop (mkF m 121 #[.val (.int iv), .val (.ref b106), .val (.int (3 : Int32)), .val (.ref u3), .val (.int (0 : Int32)), .val (.int (0 : Int32))] []))
    refine own_go (fun t k => XS.iconst X144.here hx rfl (hb hby at_121) k) ?_
    show own_Go _ _ _ _ (T144.setTop (mkF m 122 #[.val (.int iv), .val (.ref b106), .val (.int (3 : Int32)), .val (.ref u3), .val (.int (0 : Int32)), .val (.int (0 : Int32))] [(.int (1 : Int32))]))
    refine own_retN X144 hx hlk (t := .boolean) hret (by simp) (hb hby at_122) ?_ (by decide) (by decide)
    rw [e144]
    exact ⟨rfl, N144⟩
  · show own_Go _ _ _ _ (T135.setTop (mkF m 70 #[.val (.int iv), .val (.ref b106), .unset, .unset, .unset, .unset] [(.int (4 : Int32))]))
    refine own_go (fun t k => XS.istoreN X135.here hx rfl (hb hby at_70) rfl (l' := #[.val (.int iv), .val (.ref b106), .val (.int (4 : Int32)), .unset, .unset, .unset]) rfl k) ?_
    show own_Go _ _ _ _ (T135.setTop (mkF m 71 #[.val (.int iv), .val (.ref b106), .val (.int (4 : Int32)), .unset, .unset, .unset] []))
    refine own_go (fun t k => XS.aloadN X135.here hx rfl (hb hby at_71) rfl rfl k) ?_
    show own_Go _ _ _ _ (T135.setTop (mkF m 72 #[.val (.int iv), .val (.ref b106), .val (.int (4 : Int32)), .unset, .unset, .unset] [(.ref b106)]))
    refine own_go (fun t k => XS.iloadN X135.here hx rfl (hb hby at_72) rfl k) ?_
    show own_Go _ _ _ _ (T135.setTop (mkF m 73 #[.val (.int iv), .val (.ref b106), .val (.int (4 : Int32)), .unset, .unset, .unset] [(.int (4 : Int32)), (.ref b106)]))
    obtain ⟨cl145, Ar145, qk145, sz145, nn145, ha145, gf145⟩ := V135
    have hin145 : ¬ ((4 : Int32) < 0 ∨ cl145.slots.size ≤ ((4 : Int32)).toNatClampNeg) := inb_of sz145 ⟨by decide, by decide⟩
    have hat145 : cl145.slots[((4 : Int32)).toNatClampNeg]? = some (.ref u4) := ha145.at hin145 rfl
    refine own_go (X135.aaload hx (j := (4 : Int32)) (v := (.ref u4)) (by rw [e135]; exact Ar145.1) (State.isArrayOf_alike hZ.alike Ar145.2.1) rfl Ar145.2.2 hin145 hat145 (g := (mkF m 73 #[.val (.int iv), .val (.ref b106), .val (.int (4 : Int32)), .unset, .unset, .unset] [(.int (4 : Int32)), (.ref b106)])) rfl rfl (hb hby at_73)) ?_
    show own_Go _ _ _ _ (T135.setTop (mkF m 74 #[.val (.int iv), .val (.ref b106), .val (.int (4 : Int32)), .unset, .unset, .unset] [(.ref u4)]))
    refine own_go (fun t k => XS.astoreN X135.here hx rfl (hb hby at_74) rfl rfl (l' := #[.val (.int iv), .val (.ref b106), .val (.int (4 : Int32)), .val (.ref u4), .unset, .unset]) rfl k) ?_
    show own_Go _ _ _ _ (T135.setTop (mkF m 75 #[.val (.int iv), .val (.ref b106), .val (.int (4 : Int32)), .val (.ref u4), .unset, .unset] []))
    refine own_go (fun t k => XS.iloadN X135.here hx rfl (hb hby at_75) rfl k) ?_
    show own_Go _ _ _ _ (T135.setTop (mkF m 76 #[.val (.int iv), .val (.ref b106), .val (.int (4 : Int32)), .val (.ref u4), .unset, .unset] [(.int (4 : Int32))]))
    refine own_go (fun t k => XS.iconst X135.here hx rfl (hb hby at_76) k) ?_
    show own_Go _ _ _ _ (T135.setTop (mkF m 77 #[.val (.int iv), .val (.ref b106), .val (.int (4 : Int32)), .val (.ref u4), .unset, .unset] [(.int (1 : Int32)), (.int (4 : Int32))]))
    refine own_go (fun t k => XS.icmpNo X135.here hx rfl (hb hby at_77) rfl (feq (by decide : ¬ ((4 : Int32) = (1 : Int32)))).1 k) ?_
    show own_Go _ _ _ _ (T135.setTop (mkF m 80 #[.val (.int iv), .val (.ref b106), .val (.int (4 : Int32)), .val (.ref u4), .unset, .unset] []))
    refine own_go (fun t k => XS.iloadN X135.here hx rfl (hb hby at_80) rfl k) ?_
    show own_Go _ _ _ _ (T135.setTop (mkF m 81 #[.val (.int iv), .val (.ref b106), .val (.int (4 : Int32)), .val (.ref u4), .unset, .unset] [(.int (4 : Int32))]))
    refine own_go (fun t k => XS.iconst X135.here hx rfl (hb hby at_81) k) ?_
    show own_Go _ _ _ _ (T135.setTop (mkF m 82 #[.val (.int iv), .val (.ref b106), .val (.int (4 : Int32)), .val (.ref u4), .unset, .unset] [(.int (4 : Int32)), (.int (4 : Int32))]))
    refine own_go (fun t k => XS.icmpNo X135.here hx rfl (hb hby at_82) rfl (teq (by decide : (4 : Int32) = (4 : Int32))).2 k) ?_
    show own_Go _ _ _ _ (T135.setTop (mkF m 85 #[.val (.int iv), .val (.ref b106), .val (.int (4 : Int32)), .val (.ref u4), .unset, .unset] []))
    refine own_go (fun t k => XS.iconst X135.here hx rfl (hb hby at_85) k) ?_
    show own_Go _ _ _ _ (T135.setTop (mkF m 86 #[.val (.int iv), .val (.ref b106), .val (.int (4 : Int32)), .val (.ref u4), .unset, .unset] [(.int (1 : Int32))]))
    refine own_go (fun t k => XS.goto X135.here hx rfl (pc0 := 86) (pc' := 90) rfl (hb hby at_86) (by decide) (by decide) k) ?_
    show own_Go _ _ _ _ (T135.setTop (mkF m 90 #[.val (.int iv), .val (.ref b106), .val (.int (4 : Int32)), .val (.ref u4), .unset, .unset] [(.int (1 : Int32))]))
    refine own_go (fun t k => XS.istore X135.here hx rfl (hb hby at_90) rfl (l' := #[.val (.int iv), .val (.ref b106), .val (.int (4 : Int32)), .val (.ref u4), .val (.int (1 : Int32)), .unset]) rfl k) ?_
    show own_Go _ _ _ _ (T135.setTop (mkF m 92 #[.val (.int iv), .val (.ref b106), .val (.int (4 : Int32)), .val (.ref u4), .val (.int (1 : Int32)), .unset] []))
    refine own_go (fun t k => XS.aloadN X135.here hx rfl (hb hby at_92) rfl rfl k) ?_
    have tk : own_takes u4 u1 u4 = (1 : Int32) := by simp [own_takes, ne_4_1]
    show own_Go _ _ _ _ (T135.setTop (mkF m 93 #[.val (.int iv), .val (.ref b106), .val (.int (4 : Int32)), .val (.ref u4), .val (.int (1 : Int32)), .unset] [(.ref u4)]))
    obtain ⟨cq146, kq146, q146a, q146b, q146c⟩ := isOf hZ e135 (E4.ext (f132.wr W135 q106).2)
    obtain ⟨_, _, ⟨T146, L146, k146, n146⟩, -, X146, ⟨Lc146, hQ146, l146, y146, z146⟩, st146⟩ := X135.virtualBack hx (y := (⟨"com/example/lonborg/lonborg/JobState", "waitsForRunAt", "()Z"⟩ : MethodName)) (z := (⟨"com/example/lonborg/lonborg/JobState", "waitsForRunAt", "()Z"⟩ : MethodName)) hown (mvT hZ (w_23 hw)) (mvT hZ (w_24 hw)) (notFace_of_selects (args := #[]) (mvT hZ (w_26 hw))) (mvT hZ (w_26 hw)) (mvT hZ (w_25 hw)) (by decide) (backOf (W := 0) (rm_takes l Z a0 hw [] u4 u1 u4 h135 n0 Z135 (f132.wr W135 q106) S1 S4) hZ (w_27 hw) (w_3 hw) (by decide) (by decide)) q146a q146c (g := (mkF m 93 #[.val (.int iv), .val (.ref b106), .val (.int (4 : Int32)), .val (.ref u4), .val (.int (1 : Int32)), .unset] [(.ref u4)])) rfl (by rw [hml]; rfl) (Steps.refl _) (argsL := []) (rest := []) (lenOf pd_0 rfl) rfl (by show 2 * 0 + _ ≤ _; exact Nat.le_of_eq rfl) (hb hby at_93) (fun _ _ => ⟨rfl, e135, (by decide : 1 + 0 ≤ _), (by decide : 9 + 0 ≤ _)⟩)
    dsimp only [Pt.U, Pt.locs, Pt.cells, Pt.slots] at X146 l146 y146 z146 st146 hQ146
    subst l146 y146 z146
    obtain ⟨rfl, N146q, e146⟩ := hQ146
    have N146 := Fr.app N135 N146q
    rw [tk] at st146
    refine own_go (fun t k => st146.trans k) ?_
    show own_Go _ _ _ _ (T146.setTop (mkF m 96 #[.val (.int iv), .val (.ref b106), .val (.int (4 : Int32)), .val (.ref u4), .val (.int (1 : Int32)), .unset] [(.int (1 : Int32))]))
    refine own_go (fun t k => XS.istore X146.here hx rfl (hb hby at_96) rfl (l' := #[.val (.int iv), .val (.ref b106), .val (.int (4 : Int32)), .val (.ref u4), .val (.int (1 : Int32)), .val (.int (1 : Int32))]) rfl k) ?_
    show own_Go _ _ _ _ (T146.setTop (mkF m 98 #[.val (.int iv), .val (.ref b106), .val (.int (4 : Int32)), .val (.ref u4), .val (.int (1 : Int32)), .val (.int (1 : Int32))] []))
    refine own_go (fun t k => XS.iload X146.here hx rfl (hb hby at_98) rfl k) ?_
    show own_Go _ _ _ _ (T146.setTop (mkF m 100 #[.val (.int iv), .val (.ref b106), .val (.int (4 : Int32)), .val (.ref u4), .val (.int (1 : Int32)), .val (.int (1 : Int32))] [(.int (1 : Int32))]))
    refine own_go (fun t k => XS.iload X146.here hx rfl (hb hby at_100) rfl k) ?_
    show own_Go _ _ _ _ (T146.setTop (mkF m 102 #[.val (.int iv), .val (.ref b106), .val (.int (4 : Int32)), .val (.ref u4), .val (.int (1 : Int32)), .val (.int (1 : Int32))] [(.int (1 : Int32)), (.int (1 : Int32))]))
    refine own_go (fun t k => XS.icmpYes X146.here hx rfl (pc0 := 102) (pc' := 107) rfl (hb hby at_102) rfl (teq (by decide : (1 : Int32) = (1 : Int32))).1 (by decide) (by decide) k) ?_
    show own_Go _ _ _ _ (T146.setTop (mkF m 107 #[.val (.int iv), .val (.ref b106), .val (.int (4 : Int32)), .val (.ref u4), .val (.int (1 : Int32)), .val (.int (1 : Int32))] []))
    refine own_go (fun t k => XS.iload X146.here hx rfl (hb hby at_107) rfl k) ?_
    show own_Go _ _ _ _ (T146.setTop (mkF m 109 #[.val (.int iv), .val (.ref b106), .val (.int (4 : Int32)), .val (.ref u4), .val (.int (1 : Int32)), .val (.int (1 : Int32))] [(.int (1 : Int32))]))
    refine own_go (fun t k => XS.ifNo X146.here hx rfl (hb hby at_109) rfl ((if0 _ _).trans (feq (by decide : ¬ ((1 : Int32) = (0 : Int32)))).1) k) ?_
    show own_Go _ _ _ _ (T146.setTop (mkF m 112 #[.val (.int iv), .val (.ref b106), .val (.int (4 : Int32)), .val (.ref u4), .val (.int (1 : Int32)), .val (.int (1 : Int32))] []))
    refine own_go (fun t k => XS.aloadN X146.here hx rfl (hb hby at_112) rfl rfl k) ?_
    show own_Go _ _ _ _ (T146.setTop (mkF m 113 #[.val (.int iv), .val (.ref b106), .val (.int (4 : Int32)), .val (.ref u4), .val (.int (1 : Int32)), .val (.int (1 : Int32))] [(.ref u4)]))
    obtain ⟨cq147, kq147, q147a, q147b, q147c⟩ := isOf hZ e146 (E4.ext (f132.wr W135 q106).2)
    obtain ⟨_, _, ⟨T147, L147, k147, n147⟩, -, X147, ⟨Lc147, hQ147, l147, y147, z147⟩, st147⟩ := X146.virtualBack hx (y := (⟨"com/example/lonborg/lonborg/JobState", "isFinal", "()Z"⟩ : MethodName)) (z := (⟨"com/example/lonborg/lonborg/JobState", "isFinal", "()Z"⟩ : MethodName)) hown (mvT hZ (w_30 hw)) (mvT hZ (w_31 hw)) (notFace_of_selects (args := #[]) (mvT hZ (w_33 hw))) (mvT hZ (w_33 hw)) (mvT hZ (w_32 hw)) (by decide) (backOf (W := 0) (rm_final l Z a0 hw [] u4 h135 n0 Z135 (F4.ext (f132.wr W135 q106).2)) hZ (w_34 hw) (w_3 hw) (by decide) (by decide)) q147a q147c (g := (mkF m 113 #[.val (.int iv), .val (.ref b106), .val (.int (4 : Int32)), .val (.ref u4), .val (.int (1 : Int32)), .val (.int (1 : Int32))] [(.ref u4)])) rfl (by rw [hml]; rfl) (Steps.refl _) (argsL := []) (rest := []) (lenOf pd_0 rfl) rfl (by show 2 * 0 + _ ≤ _; exact Nat.le_of_eq rfl) (hb hby at_113) (fun _ _ => ⟨rfl, e146, (by decide : 1 + 0 ≤ _), (by decide : 9 + 0 ≤ _)⟩)
    dsimp only [Pt.U, Pt.locs, Pt.cells, Pt.slots] at X147 l147 y147 z147 st147 hQ147
    subst l147 y147 z147
    obtain ⟨rfl, N147q, e147⟩ := hQ147
    have N147 := Fr.app N146 N147q
    refine own_go (fun t k => st147.trans k) ?_
    show own_Go _ _ _ _ (T147.setTop (mkF m 116 #[.val (.int iv), .val (.ref b106), .val (.int (4 : Int32)), .val (.ref u4), .val (.int (1 : Int32)), .val (.int (1 : Int32))] [(.int (0 : Int32))]))
    refine own_go (fun t k => XS.ifYes X147.here hx rfl (pc0 := 116) (pc' := 121) rfl (hb hby at_116) rfl ((if0 _ _).trans (teq (by decide : (0 : Int32) = (0 : Int32))).1) (by decide) (by decide) k) ?_
    show own_Go _ _ _ _ (T147.setTop (mkF m 121 #[.val (.int iv), .val (.ref b106), .val (.int (4 : Int32)), .val (.ref u4), .val (.int (1 : Int32)), .val (.int (1 : Int32))] []))
    refine own_go (fun t k => XS.iconst X147.here hx rfl (hb hby at_121) k) ?_
    show own_Go _ _ _ _ (T147.setTop (mkF m 122 #[.val (.int iv), .val (.ref b106), .val (.int (4 : Int32)), .val (.ref u4), .val (.int (1 : Int32)), .val (.int (1 : Int32))] [(.int (1 : Int32))]))
    refine own_retN X147 hx hlk (t := .boolean) hret (by simp) (hb hby at_122) ?_ (by decide) (by decide)
    rw [e147]
    exact ⟨rfl, N147⟩
  · show own_Go _ _ _ _ (T135.setTop (mkF m 70 #[.val (.int iv), .val (.ref b106), .unset, .unset, .unset, .unset] [(.int (5 : Int32))]))
    refine own_go (fun t k => XS.istoreN X135.here hx rfl (hb hby at_70) rfl (l' := #[.val (.int iv), .val (.ref b106), .val (.int (5 : Int32)), .unset, .unset, .unset]) rfl k) ?_
    show own_Go _ _ _ _ (T135.setTop (mkF m 71 #[.val (.int iv), .val (.ref b106), .val (.int (5 : Int32)), .unset, .unset, .unset] []))
    refine own_go (fun t k => XS.aloadN X135.here hx rfl (hb hby at_71) rfl rfl k) ?_
    show own_Go _ _ _ _ (T135.setTop (mkF m 72 #[.val (.int iv), .val (.ref b106), .val (.int (5 : Int32)), .unset, .unset, .unset] [(.ref b106)]))
    refine own_go (fun t k => XS.iloadN X135.here hx rfl (hb hby at_72) rfl k) ?_
    show own_Go _ _ _ _ (T135.setTop (mkF m 73 #[.val (.int iv), .val (.ref b106), .val (.int (5 : Int32)), .unset, .unset, .unset] [(.int (5 : Int32)), (.ref b106)]))
    obtain ⟨cl148, Ar148, qk148, sz148, nn148, ha148, gf148⟩ := V135
    have hin148 : ¬ ((5 : Int32) < 0 ∨ cl148.slots.size ≤ ((5 : Int32)).toNatClampNeg) := inb_of sz148 ⟨by decide, by decide⟩
    have hat148 : cl148.slots[((5 : Int32)).toNatClampNeg]? = some (.ref u5) := ha148.at hin148 rfl
    refine own_go (X135.aaload hx (j := (5 : Int32)) (v := (.ref u5)) (by rw [e135]; exact Ar148.1) (State.isArrayOf_alike hZ.alike Ar148.2.1) rfl Ar148.2.2 hin148 hat148 (g := (mkF m 73 #[.val (.int iv), .val (.ref b106), .val (.int (5 : Int32)), .unset, .unset, .unset] [(.int (5 : Int32)), (.ref b106)])) rfl rfl (hb hby at_73)) ?_
    show own_Go _ _ _ _ (T135.setTop (mkF m 74 #[.val (.int iv), .val (.ref b106), .val (.int (5 : Int32)), .unset, .unset, .unset] [(.ref u5)]))
    refine own_go (fun t k => XS.astoreN X135.here hx rfl (hb hby at_74) rfl rfl (l' := #[.val (.int iv), .val (.ref b106), .val (.int (5 : Int32)), .val (.ref u5), .unset, .unset]) rfl k) ?_
    show own_Go _ _ _ _ (T135.setTop (mkF m 75 #[.val (.int iv), .val (.ref b106), .val (.int (5 : Int32)), .val (.ref u5), .unset, .unset] []))
    refine own_go (fun t k => XS.iloadN X135.here hx rfl (hb hby at_75) rfl k) ?_
    show own_Go _ _ _ _ (T135.setTop (mkF m 76 #[.val (.int iv), .val (.ref b106), .val (.int (5 : Int32)), .val (.ref u5), .unset, .unset] [(.int (5 : Int32))]))
    refine own_go (fun t k => XS.iconst X135.here hx rfl (hb hby at_76) k) ?_
    show own_Go _ _ _ _ (T135.setTop (mkF m 77 #[.val (.int iv), .val (.ref b106), .val (.int (5 : Int32)), .val (.ref u5), .unset, .unset] [(.int (1 : Int32)), (.int (5 : Int32))]))
    refine own_go (fun t k => XS.icmpNo X135.here hx rfl (hb hby at_77) rfl (feq (by decide : ¬ ((5 : Int32) = (1 : Int32)))).1 k) ?_
    show own_Go _ _ _ _ (T135.setTop (mkF m 80 #[.val (.int iv), .val (.ref b106), .val (.int (5 : Int32)), .val (.ref u5), .unset, .unset] []))
    refine own_go (fun t k => XS.iloadN X135.here hx rfl (hb hby at_80) rfl k) ?_
    show own_Go _ _ _ _ (T135.setTop (mkF m 81 #[.val (.int iv), .val (.ref b106), .val (.int (5 : Int32)), .val (.ref u5), .unset, .unset] [(.int (5 : Int32))]))
    refine own_go (fun t k => XS.iconst X135.here hx rfl (hb hby at_81) k) ?_
    show own_Go _ _ _ _ (T135.setTop (mkF m 82 #[.val (.int iv), .val (.ref b106), .val (.int (5 : Int32)), .val (.ref u5), .unset, .unset] [(.int (4 : Int32)), (.int (5 : Int32))]))
    refine own_go (fun t k => XS.icmpYes X135.here hx rfl (pc0 := 82) (pc' := 89) rfl (hb hby at_82) rfl (feq (by decide : ¬ ((5 : Int32) = (4 : Int32)))).2 (by decide) (by decide) k) ?_
    show own_Go _ _ _ _ (T135.setTop (mkF m 89 #[.val (.int iv), .val (.ref b106), .val (.int (5 : Int32)), .val (.ref u5), .unset, .unset] []))
    refine own_go (fun t k => XS.iconst X135.here hx rfl (hb hby at_89) k) ?_
    show own_Go _ _ _ _ (T135.setTop (mkF m 90 #[.val (.int iv), .val (.ref b106), .val (.int (5 : Int32)), .val (.ref u5), .unset, .unset] [(.int (0 : Int32))]))
    refine own_go (fun t k => XS.istore X135.here hx rfl (hb hby at_90) rfl (l' := #[.val (.int iv), .val (.ref b106), .val (.int (5 : Int32)), .val (.ref u5), .val (.int (0 : Int32)), .unset]) rfl k) ?_
    show own_Go _ _ _ _ (T135.setTop (mkF m 92 #[.val (.int iv), .val (.ref b106), .val (.int (5 : Int32)), .val (.ref u5), .val (.int (0 : Int32)), .unset] []))
    refine own_go (fun t k => XS.aloadN X135.here hx rfl (hb hby at_92) rfl rfl k) ?_
    have tk : own_takes u5 u1 u4 = (0 : Int32) := by simp [own_takes, ne_5_1, ne_5_4]
    show own_Go _ _ _ _ (T135.setTop (mkF m 93 #[.val (.int iv), .val (.ref b106), .val (.int (5 : Int32)), .val (.ref u5), .val (.int (0 : Int32)), .unset] [(.ref u5)]))
    obtain ⟨cq149, kq149, q149a, q149b, q149c⟩ := isOf hZ e135 (E5.ext (f132.wr W135 q106).2)
    obtain ⟨_, _, ⟨T149, L149, k149, n149⟩, -, X149, ⟨Lc149, hQ149, l149, y149, z149⟩, st149⟩ := X135.virtualBack hx (y := (⟨"com/example/lonborg/lonborg/JobState", "waitsForRunAt", "()Z"⟩ : MethodName)) (z := (⟨"com/example/lonborg/lonborg/JobState", "waitsForRunAt", "()Z"⟩ : MethodName)) hown (mvT hZ (w_23 hw)) (mvT hZ (w_24 hw)) (notFace_of_selects (args := #[]) (mvT hZ (w_26 hw))) (mvT hZ (w_26 hw)) (mvT hZ (w_25 hw)) (by decide) (backOf (W := 0) (rm_takes l Z a0 hw [] u5 u1 u4 h135 n0 Z135 (f132.wr W135 q106) S1 S4) hZ (w_27 hw) (w_3 hw) (by decide) (by decide)) q149a q149c (g := (mkF m 93 #[.val (.int iv), .val (.ref b106), .val (.int (5 : Int32)), .val (.ref u5), .val (.int (0 : Int32)), .unset] [(.ref u5)])) rfl (by rw [hml]; rfl) (Steps.refl _) (argsL := []) (rest := []) (lenOf pd_0 rfl) rfl (by show 2 * 0 + _ ≤ _; exact Nat.le_of_eq rfl) (hb hby at_93) (fun _ _ => ⟨rfl, e135, (by decide : 1 + 0 ≤ _), (by decide : 9 + 0 ≤ _)⟩)
    dsimp only [Pt.U, Pt.locs, Pt.cells, Pt.slots] at X149 l149 y149 z149 st149 hQ149
    subst l149 y149 z149
    obtain ⟨rfl, N149q, e149⟩ := hQ149
    have N149 := Fr.app N135 N149q
    rw [tk] at st149
    refine own_go (fun t k => st149.trans k) ?_
    show own_Go _ _ _ _ (T149.setTop (mkF m 96 #[.val (.int iv), .val (.ref b106), .val (.int (5 : Int32)), .val (.ref u5), .val (.int (0 : Int32)), .unset] [(.int (0 : Int32))]))
    refine own_go (fun t k => XS.istore X149.here hx rfl (hb hby at_96) rfl (l' := #[.val (.int iv), .val (.ref b106), .val (.int (5 : Int32)), .val (.ref u5), .val (.int (0 : Int32)), .val (.int (0 : Int32))]) rfl k) ?_
    show own_Go _ _ _ _ (T149.setTop (mkF m 98 #[.val (.int iv), .val (.ref b106), .val (.int (5 : Int32)), .val (.ref u5), .val (.int (0 : Int32)), .val (.int (0 : Int32))] []))
    refine own_go (fun t k => XS.iload X149.here hx rfl (hb hby at_98) rfl k) ?_
    show own_Go _ _ _ _ (T149.setTop (mkF m 100 #[.val (.int iv), .val (.ref b106), .val (.int (5 : Int32)), .val (.ref u5), .val (.int (0 : Int32)), .val (.int (0 : Int32))] [(.int (0 : Int32))]))
    refine own_go (fun t k => XS.iload X149.here hx rfl (hb hby at_100) rfl k) ?_
    show own_Go _ _ _ _ (T149.setTop (mkF m 102 #[.val (.int iv), .val (.ref b106), .val (.int (5 : Int32)), .val (.ref u5), .val (.int (0 : Int32)), .val (.int (0 : Int32))] [(.int (0 : Int32)), (.int (0 : Int32))]))
    refine own_go (fun t k => XS.icmpYes X149.here hx rfl (pc0 := 102) (pc' := 107) rfl (hb hby at_102) rfl (teq (by decide : (0 : Int32) = (0 : Int32))).1 (by decide) (by decide) k) ?_
    show own_Go _ _ _ _ (T149.setTop (mkF m 107 #[.val (.int iv), .val (.ref b106), .val (.int (5 : Int32)), .val (.ref u5), .val (.int (0 : Int32)), .val (.int (0 : Int32))] []))
    refine own_go (fun t k => XS.iload X149.here hx rfl (hb hby at_107) rfl k) ?_
    show own_Go _ _ _ _ (T149.setTop (mkF m 109 #[.val (.int iv), .val (.ref b106), .val (.int (5 : Int32)), .val (.ref u5), .val (.int (0 : Int32)), .val (.int (0 : Int32))] [(.int (0 : Int32))]))
    refine own_go (fun t k => XS.ifYes X149.here hx rfl (pc0 := 109) (pc' := 121) rfl (hb hby at_109) rfl ((if0 _ _).trans (teq (by decide : (0 : Int32) = (0 : Int32))).1) (by decide) (by decide) k) ?_
    show own_Go _ _ _ _ (T149.setTop (mkF m 121 #[.val (.int iv), .val (.ref b106), .val (.int (5 : Int32)), .val (.ref u5), .val (.int (0 : Int32)), .val (.int (0 : Int32))] []))
    refine own_go (fun t k => XS.iconst X149.here hx rfl (hb hby at_121) k) ?_
    show own_Go _ _ _ _ (T149.setTop (mkF m 122 #[.val (.int iv), .val (.ref b106), .val (.int (5 : Int32)), .val (.ref u5), .val (.int (0 : Int32)), .val (.int (0 : Int32))] [(.int (1 : Int32))]))
    refine own_retN X149 hx hlk (t := .boolean) hret (by simp) (hb hby at_122) ?_ (by decide) (by decide)
    rw [e149]
    exact ⟨rfl, N149⟩
  · show own_Go _ _ _ _ (T135.setTop (mkF m 70 #[.val (.int iv), .val (.ref b106), .unset, .unset, .unset, .unset] [(.int (6 : Int32))]))
    refine own_go (fun t k => XS.istoreN X135.here hx rfl (hb hby at_70) rfl (l' := #[.val (.int iv), .val (.ref b106), .val (.int (6 : Int32)), .unset, .unset, .unset]) rfl k) ?_
    show own_Go _ _ _ _ (T135.setTop (mkF m 71 #[.val (.int iv), .val (.ref b106), .val (.int (6 : Int32)), .unset, .unset, .unset] []))
    refine own_go (fun t k => XS.aloadN X135.here hx rfl (hb hby at_71) rfl rfl k) ?_
    show own_Go _ _ _ _ (T135.setTop (mkF m 72 #[.val (.int iv), .val (.ref b106), .val (.int (6 : Int32)), .unset, .unset, .unset] [(.ref b106)]))
    refine own_go (fun t k => XS.iloadN X135.here hx rfl (hb hby at_72) rfl k) ?_
    show own_Go _ _ _ _ (T135.setTop (mkF m 73 #[.val (.int iv), .val (.ref b106), .val (.int (6 : Int32)), .unset, .unset, .unset] [(.int (6 : Int32)), (.ref b106)]))
    obtain ⟨cl150, Ar150, qk150, sz150, nn150, ha150, gf150⟩ := V135
    have hin150 : ¬ ((6 : Int32) < 0 ∨ cl150.slots.size ≤ ((6 : Int32)).toNatClampNeg) := inb_of sz150 ⟨by decide, by decide⟩
    have hat150 : cl150.slots[((6 : Int32)).toNatClampNeg]? = some (.ref u6) := ha150.at hin150 rfl
    refine own_go (X135.aaload hx (j := (6 : Int32)) (v := (.ref u6)) (by rw [e135]; exact Ar150.1) (State.isArrayOf_alike hZ.alike Ar150.2.1) rfl Ar150.2.2 hin150 hat150 (g := (mkF m 73 #[.val (.int iv), .val (.ref b106), .val (.int (6 : Int32)), .unset, .unset, .unset] [(.int (6 : Int32)), (.ref b106)])) rfl rfl (hb hby at_73)) ?_
    show own_Go _ _ _ _ (T135.setTop (mkF m 74 #[.val (.int iv), .val (.ref b106), .val (.int (6 : Int32)), .unset, .unset, .unset] [(.ref u6)]))
    refine own_go (fun t k => XS.astoreN X135.here hx rfl (hb hby at_74) rfl rfl (l' := #[.val (.int iv), .val (.ref b106), .val (.int (6 : Int32)), .val (.ref u6), .unset, .unset]) rfl k) ?_
    show own_Go _ _ _ _ (T135.setTop (mkF m 75 #[.val (.int iv), .val (.ref b106), .val (.int (6 : Int32)), .val (.ref u6), .unset, .unset] []))
    refine own_go (fun t k => XS.iloadN X135.here hx rfl (hb hby at_75) rfl k) ?_
    show own_Go _ _ _ _ (T135.setTop (mkF m 76 #[.val (.int iv), .val (.ref b106), .val (.int (6 : Int32)), .val (.ref u6), .unset, .unset] [(.int (6 : Int32))]))
    refine own_go (fun t k => XS.iconst X135.here hx rfl (hb hby at_76) k) ?_
    show own_Go _ _ _ _ (T135.setTop (mkF m 77 #[.val (.int iv), .val (.ref b106), .val (.int (6 : Int32)), .val (.ref u6), .unset, .unset] [(.int (1 : Int32)), (.int (6 : Int32))]))
    refine own_go (fun t k => XS.icmpNo X135.here hx rfl (hb hby at_77) rfl (feq (by decide : ¬ ((6 : Int32) = (1 : Int32)))).1 k) ?_
    show own_Go _ _ _ _ (T135.setTop (mkF m 80 #[.val (.int iv), .val (.ref b106), .val (.int (6 : Int32)), .val (.ref u6), .unset, .unset] []))
    refine own_go (fun t k => XS.iloadN X135.here hx rfl (hb hby at_80) rfl k) ?_
    show own_Go _ _ _ _ (T135.setTop (mkF m 81 #[.val (.int iv), .val (.ref b106), .val (.int (6 : Int32)), .val (.ref u6), .unset, .unset] [(.int (6 : Int32))]))
    refine own_go (fun t k => XS.iconst X135.here hx rfl (hb hby at_81) k) ?_
    show own_Go _ _ _ _ (T135.setTop (mkF m 82 #[.val (.int iv), .val (.ref b106), .val (.int (6 : Int32)), .val (.ref u6), .unset, .unset] [(.int (4 : Int32)), (.int (6 : Int32))]))
    refine own_go (fun t k => XS.icmpYes X135.here hx rfl (pc0 := 82) (pc' := 89) rfl (hb hby at_82) rfl (feq (by decide : ¬ ((6 : Int32) = (4 : Int32)))).2 (by decide) (by decide) k) ?_
    show own_Go _ _ _ _ (T135.setTop (mkF m 89 #[.val (.int iv), .val (.ref b106), .val (.int (6 : Int32)), .val (.ref u6), .unset, .unset] []))
    refine own_go (fun t k => XS.iconst X135.here hx rfl (hb hby at_89) k) ?_
    show own_Go _ _ _ _ (T135.setTop (mkF m 90 #[.val (.int iv), .val (.ref b106), .val (.int (6 : Int32)), .val (.ref u6), .unset, .unset] [(.int (0 : Int32))]))
    refine own_go (fun t k => XS.istore X135.here hx rfl (hb hby at_90) rfl (l' := #[.val (.int iv), .val (.ref b106), .val (.int (6 : Int32)), .val (.ref u6), .val (.int (0 : Int32)), .unset]) rfl k) ?_
    show own_Go _ _ _ _ (T135.setTop (mkF m 92 #[.val (.int iv), .val (.ref b106), .val (.int (6 : Int32)), .val (.ref u6), .val (.int (0 : Int32)), .unset] []))
    refine own_go (fun t k => XS.aloadN X135.here hx rfl (hb hby at_92) rfl rfl k) ?_
    have tk : own_takes u6 u1 u4 = (0 : Int32) := by simp [own_takes, ne_6_1, ne_6_4]
    show own_Go _ _ _ _ (T135.setTop (mkF m 93 #[.val (.int iv), .val (.ref b106), .val (.int (6 : Int32)), .val (.ref u6), .val (.int (0 : Int32)), .unset] [(.ref u6)]))
    obtain ⟨cq151, kq151, q151a, q151b, q151c⟩ := isOf hZ e135 (E6.ext (f132.wr W135 q106).2)
    obtain ⟨_, _, ⟨T151, L151, k151, n151⟩, -, X151, ⟨Lc151, hQ151, l151, y151, z151⟩, st151⟩ := X135.virtualBack hx (y := (⟨"com/example/lonborg/lonborg/JobState", "waitsForRunAt", "()Z"⟩ : MethodName)) (z := (⟨"com/example/lonborg/lonborg/JobState", "waitsForRunAt", "()Z"⟩ : MethodName)) hown (mvT hZ (w_23 hw)) (mvT hZ (w_24 hw)) (notFace_of_selects (args := #[]) (mvT hZ (w_26 hw))) (mvT hZ (w_26 hw)) (mvT hZ (w_25 hw)) (by decide) (backOf (W := 0) (rm_takes l Z a0 hw [] u6 u1 u4 h135 n0 Z135 (f132.wr W135 q106) S1 S4) hZ (w_27 hw) (w_3 hw) (by decide) (by decide)) q151a q151c (g := (mkF m 93 #[.val (.int iv), .val (.ref b106), .val (.int (6 : Int32)), .val (.ref u6), .val (.int (0 : Int32)), .unset] [(.ref u6)])) rfl (by rw [hml]; rfl) (Steps.refl _) (argsL := []) (rest := []) (lenOf pd_0 rfl) rfl (by show 2 * 0 + _ ≤ _; exact Nat.le_of_eq rfl) (hb hby at_93) (fun _ _ => ⟨rfl, e135, (by decide : 1 + 0 ≤ _), (by decide : 9 + 0 ≤ _)⟩)
    dsimp only [Pt.U, Pt.locs, Pt.cells, Pt.slots] at X151 l151 y151 z151 st151 hQ151
    subst l151 y151 z151
    obtain ⟨rfl, N151q, e151⟩ := hQ151
    have N151 := Fr.app N135 N151q
    rw [tk] at st151
    refine own_go (fun t k => st151.trans k) ?_
    show own_Go _ _ _ _ (T151.setTop (mkF m 96 #[.val (.int iv), .val (.ref b106), .val (.int (6 : Int32)), .val (.ref u6), .val (.int (0 : Int32)), .unset] [(.int (0 : Int32))]))
    refine own_go (fun t k => XS.istore X151.here hx rfl (hb hby at_96) rfl (l' := #[.val (.int iv), .val (.ref b106), .val (.int (6 : Int32)), .val (.ref u6), .val (.int (0 : Int32)), .val (.int (0 : Int32))]) rfl k) ?_
    show own_Go _ _ _ _ (T151.setTop (mkF m 98 #[.val (.int iv), .val (.ref b106), .val (.int (6 : Int32)), .val (.ref u6), .val (.int (0 : Int32)), .val (.int (0 : Int32))] []))
    refine own_go (fun t k => XS.iload X151.here hx rfl (hb hby at_98) rfl k) ?_
    show own_Go _ _ _ _ (T151.setTop (mkF m 100 #[.val (.int iv), .val (.ref b106), .val (.int (6 : Int32)), .val (.ref u6), .val (.int (0 : Int32)), .val (.int (0 : Int32))] [(.int (0 : Int32))]))
    refine own_go (fun t k => XS.iload X151.here hx rfl (hb hby at_100) rfl k) ?_
    show own_Go _ _ _ _ (T151.setTop (mkF m 102 #[.val (.int iv), .val (.ref b106), .val (.int (6 : Int32)), .val (.ref u6), .val (.int (0 : Int32)), .val (.int (0 : Int32))] [(.int (0 : Int32)), (.int (0 : Int32))]))
    refine own_go (fun t k => XS.icmpYes X151.here hx rfl (pc0 := 102) (pc' := 107) rfl (hb hby at_102) rfl (teq (by decide : (0 : Int32) = (0 : Int32))).1 (by decide) (by decide) k) ?_
    show own_Go _ _ _ _ (T151.setTop (mkF m 107 #[.val (.int iv), .val (.ref b106), .val (.int (6 : Int32)), .val (.ref u6), .val (.int (0 : Int32)), .val (.int (0 : Int32))] []))
    refine own_go (fun t k => XS.iload X151.here hx rfl (hb hby at_107) rfl k) ?_
    show own_Go _ _ _ _ (T151.setTop (mkF m 109 #[.val (.int iv), .val (.ref b106), .val (.int (6 : Int32)), .val (.ref u6), .val (.int (0 : Int32)), .val (.int (0 : Int32))] [(.int (0 : Int32))]))
    refine own_go (fun t k => XS.ifYes X151.here hx rfl (pc0 := 109) (pc' := 121) rfl (hb hby at_109) rfl ((if0 _ _).trans (teq (by decide : (0 : Int32) = (0 : Int32))).1) (by decide) (by decide) k) ?_
    show own_Go _ _ _ _ (T151.setTop (mkF m 121 #[.val (.int iv), .val (.ref b106), .val (.int (6 : Int32)), .val (.ref u6), .val (.int (0 : Int32)), .val (.int (0 : Int32))] []))
    refine own_go (fun t k => XS.iconst X151.here hx rfl (hb hby at_121) k) ?_
    show own_Go _ _ _ _ (T151.setTop (mkF m 122 #[.val (.int iv), .val (.ref b106), .val (.int (6 : Int32)), .val (.ref u6), .val (.int (0 : Int32)), .val (.int (0 : Int32))] [(.int (1 : Int32))]))
    refine own_retN X151 hx hlk (t := .boolean) hret (by simp) (hb hby at_122) ?_ (by decide) (by decide)
    rw [e151]
    exact ⟨rfl, N151⟩
  · show own_Go _ _ _ _ (T135.setTop (mkF m 70 #[.val (.int iv), .val (.ref b106), .unset, .unset, .unset, .unset] [(.int (7 : Int32))]))
    refine own_go (fun t k => XS.istoreN X135.here hx rfl (hb hby at_70) rfl (l' := #[.val (.int iv), .val (.ref b106), .val (.int (7 : Int32)), .unset, .unset, .unset]) rfl k) ?_
    show own_Go _ _ _ _ (T135.setTop (mkF m 71 #[.val (.int iv), .val (.ref b106), .val (.int (7 : Int32)), .unset, .unset, .unset] []))
    refine own_go (fun t k => XS.aloadN X135.here hx rfl (hb hby at_71) rfl rfl k) ?_
    show own_Go _ _ _ _ (T135.setTop (mkF m 72 #[.val (.int iv), .val (.ref b106), .val (.int (7 : Int32)), .unset, .unset, .unset] [(.ref b106)]))
    refine own_go (fun t k => XS.iloadN X135.here hx rfl (hb hby at_72) rfl k) ?_
    show own_Go _ _ _ _ (T135.setTop (mkF m 73 #[.val (.int iv), .val (.ref b106), .val (.int (7 : Int32)), .unset, .unset, .unset] [(.int (7 : Int32)), (.ref b106)]))
    obtain ⟨cl152, Ar152, qk152, sz152, nn152, ha152, gf152⟩ := V135
    have hin152 : ¬ ((7 : Int32) < 0 ∨ cl152.slots.size ≤ ((7 : Int32)).toNatClampNeg) := inb_of sz152 ⟨by decide, by decide⟩
    have hat152 : cl152.slots[((7 : Int32)).toNatClampNeg]? = some (.ref u7) := ha152.at hin152 rfl
    refine own_go (X135.aaload hx (j := (7 : Int32)) (v := (.ref u7)) (by rw [e135]; exact Ar152.1) (State.isArrayOf_alike hZ.alike Ar152.2.1) rfl Ar152.2.2 hin152 hat152 (g := (mkF m 73 #[.val (.int iv), .val (.ref b106), .val (.int (7 : Int32)), .unset, .unset, .unset] [(.int (7 : Int32)), (.ref b106)])) rfl rfl (hb hby at_73)) ?_
    show own_Go _ _ _ _ (T135.setTop (mkF m 74 #[.val (.int iv), .val (.ref b106), .val (.int (7 : Int32)), .unset, .unset, .unset] [(.ref u7)]))
    refine own_go (fun t k => XS.astoreN X135.here hx rfl (hb hby at_74) rfl rfl (l' := #[.val (.int iv), .val (.ref b106), .val (.int (7 : Int32)), .val (.ref u7), .unset, .unset]) rfl k) ?_
    show own_Go _ _ _ _ (T135.setTop (mkF m 75 #[.val (.int iv), .val (.ref b106), .val (.int (7 : Int32)), .val (.ref u7), .unset, .unset] []))
    refine own_go (fun t k => XS.iloadN X135.here hx rfl (hb hby at_75) rfl k) ?_
    show own_Go _ _ _ _ (T135.setTop (mkF m 76 #[.val (.int iv), .val (.ref b106), .val (.int (7 : Int32)), .val (.ref u7), .unset, .unset] [(.int (7 : Int32))]))
    refine own_go (fun t k => XS.iconst X135.here hx rfl (hb hby at_76) k) ?_
    show own_Go _ _ _ _ (T135.setTop (mkF m 77 #[.val (.int iv), .val (.ref b106), .val (.int (7 : Int32)), .val (.ref u7), .unset, .unset] [(.int (1 : Int32)), (.int (7 : Int32))]))
    refine own_go (fun t k => XS.icmpNo X135.here hx rfl (hb hby at_77) rfl (feq (by decide : ¬ ((7 : Int32) = (1 : Int32)))).1 k) ?_
    show own_Go _ _ _ _ (T135.setTop (mkF m 80 #[.val (.int iv), .val (.ref b106), .val (.int (7 : Int32)), .val (.ref u7), .unset, .unset] []))
    refine own_go (fun t k => XS.iloadN X135.here hx rfl (hb hby at_80) rfl k) ?_
    show own_Go _ _ _ _ (T135.setTop (mkF m 81 #[.val (.int iv), .val (.ref b106), .val (.int (7 : Int32)), .val (.ref u7), .unset, .unset] [(.int (7 : Int32))]))
    refine own_go (fun t k => XS.iconst X135.here hx rfl (hb hby at_81) k) ?_
    show own_Go _ _ _ _ (T135.setTop (mkF m 82 #[.val (.int iv), .val (.ref b106), .val (.int (7 : Int32)), .val (.ref u7), .unset, .unset] [(.int (4 : Int32)), (.int (7 : Int32))]))
    refine own_go (fun t k => XS.icmpYes X135.here hx rfl (pc0 := 82) (pc' := 89) rfl (hb hby at_82) rfl (feq (by decide : ¬ ((7 : Int32) = (4 : Int32)))).2 (by decide) (by decide) k) ?_
    show own_Go _ _ _ _ (T135.setTop (mkF m 89 #[.val (.int iv), .val (.ref b106), .val (.int (7 : Int32)), .val (.ref u7), .unset, .unset] []))
    refine own_go (fun t k => XS.iconst X135.here hx rfl (hb hby at_89) k) ?_
    show own_Go _ _ _ _ (T135.setTop (mkF m 90 #[.val (.int iv), .val (.ref b106), .val (.int (7 : Int32)), .val (.ref u7), .unset, .unset] [(.int (0 : Int32))]))
    refine own_go (fun t k => XS.istore X135.here hx rfl (hb hby at_90) rfl (l' := #[.val (.int iv), .val (.ref b106), .val (.int (7 : Int32)), .val (.ref u7), .val (.int (0 : Int32)), .unset]) rfl k) ?_
    show own_Go _ _ _ _ (T135.setTop (mkF m 92 #[.val (.int iv), .val (.ref b106), .val (.int (7 : Int32)), .val (.ref u7), .val (.int (0 : Int32)), .unset] []))
    refine own_go (fun t k => XS.aloadN X135.here hx rfl (hb hby at_92) rfl rfl k) ?_
    have tk : own_takes u7 u1 u4 = (0 : Int32) := by simp [own_takes, ne_7_1, ne_7_4]
    show own_Go _ _ _ _ (T135.setTop (mkF m 93 #[.val (.int iv), .val (.ref b106), .val (.int (7 : Int32)), .val (.ref u7), .val (.int (0 : Int32)), .unset] [(.ref u7)]))
    obtain ⟨cq153, kq153, q153a, q153b, q153c⟩ := isOf hZ e135 (E7.ext (f132.wr W135 q106).2)
    obtain ⟨_, _, ⟨T153, L153, k153, n153⟩, -, X153, ⟨Lc153, hQ153, l153, y153, z153⟩, st153⟩ := X135.virtualBack hx (y := (⟨"com/example/lonborg/lonborg/JobState", "waitsForRunAt", "()Z"⟩ : MethodName)) (z := (⟨"com/example/lonborg/lonborg/JobState", "waitsForRunAt", "()Z"⟩ : MethodName)) hown (mvT hZ (w_23 hw)) (mvT hZ (w_24 hw)) (notFace_of_selects (args := #[]) (mvT hZ (w_26 hw))) (mvT hZ (w_26 hw)) (mvT hZ (w_25 hw)) (by decide) (backOf (W := 0) (rm_takes l Z a0 hw [] u7 u1 u4 h135 n0 Z135 (f132.wr W135 q106) S1 S4) hZ (w_27 hw) (w_3 hw) (by decide) (by decide)) q153a q153c (g := (mkF m 93 #[.val (.int iv), .val (.ref b106), .val (.int (7 : Int32)), .val (.ref u7), .val (.int (0 : Int32)), .unset] [(.ref u7)])) rfl (by rw [hml]; rfl) (Steps.refl _) (argsL := []) (rest := []) (lenOf pd_0 rfl) rfl (by show 2 * 0 + _ ≤ _; exact Nat.le_of_eq rfl) (hb hby at_93) (fun _ _ => ⟨rfl, e135, (by decide : 1 + 0 ≤ _), (by decide : 9 + 0 ≤ _)⟩)
    dsimp only [Pt.U, Pt.locs, Pt.cells, Pt.slots] at X153 l153 y153 z153 st153 hQ153
    subst l153 y153 z153
    obtain ⟨rfl, N153q, e153⟩ := hQ153
    have N153 := Fr.app N135 N153q
    rw [tk] at st153
    refine own_go (fun t k => st153.trans k) ?_
    show own_Go _ _ _ _ (T153.setTop (mkF m 96 #[.val (.int iv), .val (.ref b106), .val (.int (7 : Int32)), .val (.ref u7), .val (.int (0 : Int32)), .unset] [(.int (0 : Int32))]))
    refine own_go (fun t k => XS.istore X153.here hx rfl (hb hby at_96) rfl (l' := #[.val (.int iv), .val (.ref b106), .val (.int (7 : Int32)), .val (.ref u7), .val (.int (0 : Int32)), .val (.int (0 : Int32))]) rfl k) ?_
    show own_Go _ _ _ _ (T153.setTop (mkF m 98 #[.val (.int iv), .val (.ref b106), .val (.int (7 : Int32)), .val (.ref u7), .val (.int (0 : Int32)), .val (.int (0 : Int32))] []))
    refine own_go (fun t k => XS.iload X153.here hx rfl (hb hby at_98) rfl k) ?_
    show own_Go _ _ _ _ (T153.setTop (mkF m 100 #[.val (.int iv), .val (.ref b106), .val (.int (7 : Int32)), .val (.ref u7), .val (.int (0 : Int32)), .val (.int (0 : Int32))] [(.int (0 : Int32))]))
    refine own_go (fun t k => XS.iload X153.here hx rfl (hb hby at_100) rfl k) ?_
    show own_Go _ _ _ _ (T153.setTop (mkF m 102 #[.val (.int iv), .val (.ref b106), .val (.int (7 : Int32)), .val (.ref u7), .val (.int (0 : Int32)), .val (.int (0 : Int32))] [(.int (0 : Int32)), (.int (0 : Int32))]))
    refine own_go (fun t k => XS.icmpYes X153.here hx rfl (pc0 := 102) (pc' := 107) rfl (hb hby at_102) rfl (teq (by decide : (0 : Int32) = (0 : Int32))).1 (by decide) (by decide) k) ?_
    show own_Go _ _ _ _ (T153.setTop (mkF m 107 #[.val (.int iv), .val (.ref b106), .val (.int (7 : Int32)), .val (.ref u7), .val (.int (0 : Int32)), .val (.int (0 : Int32))] []))
    refine own_go (fun t k => XS.iload X153.here hx rfl (hb hby at_107) rfl k) ?_
    show own_Go _ _ _ _ (T153.setTop (mkF m 109 #[.val (.int iv), .val (.ref b106), .val (.int (7 : Int32)), .val (.ref u7), .val (.int (0 : Int32)), .val (.int (0 : Int32))] [(.int (0 : Int32))]))
    refine own_go (fun t k => XS.ifYes X153.here hx rfl (pc0 := 109) (pc' := 121) rfl (hb hby at_109) rfl ((if0 _ _).trans (teq (by decide : (0 : Int32) = (0 : Int32))).1) (by decide) (by decide) k) ?_
    show own_Go _ _ _ _ (T153.setTop (mkF m 121 #[.val (.int iv), .val (.ref b106), .val (.int (7 : Int32)), .val (.ref u7), .val (.int (0 : Int32)), .val (.int (0 : Int32))] []))
    refine own_go (fun t k => XS.iconst X153.here hx rfl (hb hby at_121) k) ?_
    show own_Go _ _ _ _ (T153.setTop (mkF m 122 #[.val (.int iv), .val (.ref b106), .val (.int (7 : Int32)), .val (.ref u7), .val (.int (0 : Int32)), .val (.int (0 : Int32))] [(.int (1 : Int32))]))
    refine own_retN X153 hx hlk (t := .boolean) hret (by simp) (hb hby at_122) ?_ (by decide) (by decide)
    rw [e153]
    exact ⟨rfl, N153⟩
  · show own_Go _ _ _ _ (T135.setTop (mkF m 70 #[.val (.int iv), .val (.ref b106), .unset, .unset, .unset, .unset] [(.int (8 : Int32))]))
    refine own_go (fun t k => XS.istoreN X135.here hx rfl (hb hby at_70) rfl (l' := #[.val (.int iv), .val (.ref b106), .val (.int (8 : Int32)), .unset, .unset, .unset]) rfl k) ?_
    show own_Go _ _ _ _ (T135.setTop (mkF m 71 #[.val (.int iv), .val (.ref b106), .val (.int (8 : Int32)), .unset, .unset, .unset] []))
    refine own_go (fun t k => XS.aloadN X135.here hx rfl (hb hby at_71) rfl rfl k) ?_
    show own_Go _ _ _ _ (T135.setTop (mkF m 72 #[.val (.int iv), .val (.ref b106), .val (.int (8 : Int32)), .unset, .unset, .unset] [(.ref b106)]))
    refine own_go (fun t k => XS.iloadN X135.here hx rfl (hb hby at_72) rfl k) ?_
    show own_Go _ _ _ _ (T135.setTop (mkF m 73 #[.val (.int iv), .val (.ref b106), .val (.int (8 : Int32)), .unset, .unset, .unset] [(.int (8 : Int32)), (.ref b106)]))
    obtain ⟨cl154, Ar154, qk154, sz154, nn154, ha154, gf154⟩ := V135
    have hin154 : ¬ ((8 : Int32) < 0 ∨ cl154.slots.size ≤ ((8 : Int32)).toNatClampNeg) := inb_of sz154 ⟨by decide, by decide⟩
    have hat154 : cl154.slots[((8 : Int32)).toNatClampNeg]? = some (.ref u8) := ha154.at hin154 rfl
    refine own_go (X135.aaload hx (j := (8 : Int32)) (v := (.ref u8)) (by rw [e135]; exact Ar154.1) (State.isArrayOf_alike hZ.alike Ar154.2.1) rfl Ar154.2.2 hin154 hat154 (g := (mkF m 73 #[.val (.int iv), .val (.ref b106), .val (.int (8 : Int32)), .unset, .unset, .unset] [(.int (8 : Int32)), (.ref b106)])) rfl rfl (hb hby at_73)) ?_
    show own_Go _ _ _ _ (T135.setTop (mkF m 74 #[.val (.int iv), .val (.ref b106), .val (.int (8 : Int32)), .unset, .unset, .unset] [(.ref u8)]))
    refine own_go (fun t k => XS.astoreN X135.here hx rfl (hb hby at_74) rfl rfl (l' := #[.val (.int iv), .val (.ref b106), .val (.int (8 : Int32)), .val (.ref u8), .unset, .unset]) rfl k) ?_
    show own_Go _ _ _ _ (T135.setTop (mkF m 75 #[.val (.int iv), .val (.ref b106), .val (.int (8 : Int32)), .val (.ref u8), .unset, .unset] []))
    refine own_go (fun t k => XS.iloadN X135.here hx rfl (hb hby at_75) rfl k) ?_
    show own_Go _ _ _ _ (T135.setTop (mkF m 76 #[.val (.int iv), .val (.ref b106), .val (.int (8 : Int32)), .val (.ref u8), .unset, .unset] [(.int (8 : Int32))]))
    refine own_go (fun t k => XS.iconst X135.here hx rfl (hb hby at_76) k) ?_
    show own_Go _ _ _ _ (T135.setTop (mkF m 77 #[.val (.int iv), .val (.ref b106), .val (.int (8 : Int32)), .val (.ref u8), .unset, .unset] [(.int (1 : Int32)), (.int (8 : Int32))]))
    refine own_go (fun t k => XS.icmpNo X135.here hx rfl (hb hby at_77) rfl (feq (by decide : ¬ ((8 : Int32) = (1 : Int32)))).1 k) ?_
    show own_Go _ _ _ _ (T135.setTop (mkF m 80 #[.val (.int iv), .val (.ref b106), .val (.int (8 : Int32)), .val (.ref u8), .unset, .unset] []))
    refine own_go (fun t k => XS.iloadN X135.here hx rfl (hb hby at_80) rfl k) ?_
    show own_Go _ _ _ _ (T135.setTop (mkF m 81 #[.val (.int iv), .val (.ref b106), .val (.int (8 : Int32)), .val (.ref u8), .unset, .unset] [(.int (8 : Int32))]))
    refine own_go (fun t k => XS.iconst X135.here hx rfl (hb hby at_81) k) ?_
    show own_Go _ _ _ _ (T135.setTop (mkF m 82 #[.val (.int iv), .val (.ref b106), .val (.int (8 : Int32)), .val (.ref u8), .unset, .unset] [(.int (4 : Int32)), (.int (8 : Int32))]))
    refine own_go (fun t k => XS.icmpYes X135.here hx rfl (pc0 := 82) (pc' := 89) rfl (hb hby at_82) rfl (feq (by decide : ¬ ((8 : Int32) = (4 : Int32)))).2 (by decide) (by decide) k) ?_
    show own_Go _ _ _ _ (T135.setTop (mkF m 89 #[.val (.int iv), .val (.ref b106), .val (.int (8 : Int32)), .val (.ref u8), .unset, .unset] []))
    refine own_go (fun t k => XS.iconst X135.here hx rfl (hb hby at_89) k) ?_
    show own_Go _ _ _ _ (T135.setTop (mkF m 90 #[.val (.int iv), .val (.ref b106), .val (.int (8 : Int32)), .val (.ref u8), .unset, .unset] [(.int (0 : Int32))]))
    refine own_go (fun t k => XS.istore X135.here hx rfl (hb hby at_90) rfl (l' := #[.val (.int iv), .val (.ref b106), .val (.int (8 : Int32)), .val (.ref u8), .val (.int (0 : Int32)), .unset]) rfl k) ?_
    show own_Go _ _ _ _ (T135.setTop (mkF m 92 #[.val (.int iv), .val (.ref b106), .val (.int (8 : Int32)), .val (.ref u8), .val (.int (0 : Int32)), .unset] []))
    refine own_go (fun t k => XS.aloadN X135.here hx rfl (hb hby at_92) rfl rfl k) ?_
    have tk : own_takes u8 u1 u4 = (0 : Int32) := by simp [own_takes, ne_8_1, ne_8_4]
    show own_Go _ _ _ _ (T135.setTop (mkF m 93 #[.val (.int iv), .val (.ref b106), .val (.int (8 : Int32)), .val (.ref u8), .val (.int (0 : Int32)), .unset] [(.ref u8)]))
    obtain ⟨cq155, kq155, q155a, q155b, q155c⟩ := isOf hZ e135 (E8.ext (f132.wr W135 q106).2)
    obtain ⟨_, _, ⟨T155, L155, k155, n155⟩, -, X155, ⟨Lc155, hQ155, l155, y155, z155⟩, st155⟩ := X135.virtualBack hx (y := (⟨"com/example/lonborg/lonborg/JobState", "waitsForRunAt", "()Z"⟩ : MethodName)) (z := (⟨"com/example/lonborg/lonborg/JobState", "waitsForRunAt", "()Z"⟩ : MethodName)) hown (mvT hZ (w_23 hw)) (mvT hZ (w_24 hw)) (notFace_of_selects (args := #[]) (mvT hZ (w_26 hw))) (mvT hZ (w_26 hw)) (mvT hZ (w_25 hw)) (by decide) (backOf (W := 0) (rm_takes l Z a0 hw [] u8 u1 u4 h135 n0 Z135 (f132.wr W135 q106) S1 S4) hZ (w_27 hw) (w_3 hw) (by decide) (by decide)) q155a q155c (g := (mkF m 93 #[.val (.int iv), .val (.ref b106), .val (.int (8 : Int32)), .val (.ref u8), .val (.int (0 : Int32)), .unset] [(.ref u8)])) rfl (by rw [hml]; rfl) (Steps.refl _) (argsL := []) (rest := []) (lenOf pd_0 rfl) rfl (by show 2 * 0 + _ ≤ _; exact Nat.le_of_eq rfl) (hb hby at_93) (fun _ _ => ⟨rfl, e135, (by decide : 1 + 0 ≤ _), (by decide : 9 + 0 ≤ _)⟩)
    dsimp only [Pt.U, Pt.locs, Pt.cells, Pt.slots] at X155 l155 y155 z155 st155 hQ155
    subst l155 y155 z155
    obtain ⟨rfl, N155q, e155⟩ := hQ155
    have N155 := Fr.app N135 N155q
    rw [tk] at st155
    refine own_go (fun t k => st155.trans k) ?_
    show own_Go _ _ _ _ (T155.setTop (mkF m 96 #[.val (.int iv), .val (.ref b106), .val (.int (8 : Int32)), .val (.ref u8), .val (.int (0 : Int32)), .unset] [(.int (0 : Int32))]))
    refine own_go (fun t k => XS.istore X155.here hx rfl (hb hby at_96) rfl (l' := #[.val (.int iv), .val (.ref b106), .val (.int (8 : Int32)), .val (.ref u8), .val (.int (0 : Int32)), .val (.int (0 : Int32))]) rfl k) ?_
    show own_Go _ _ _ _ (T155.setTop (mkF m 98 #[.val (.int iv), .val (.ref b106), .val (.int (8 : Int32)), .val (.ref u8), .val (.int (0 : Int32)), .val (.int (0 : Int32))] []))
    refine own_go (fun t k => XS.iload X155.here hx rfl (hb hby at_98) rfl k) ?_
    show own_Go _ _ _ _ (T155.setTop (mkF m 100 #[.val (.int iv), .val (.ref b106), .val (.int (8 : Int32)), .val (.ref u8), .val (.int (0 : Int32)), .val (.int (0 : Int32))] [(.int (0 : Int32))]))
    refine own_go (fun t k => XS.iload X155.here hx rfl (hb hby at_100) rfl k) ?_
    show own_Go _ _ _ _ (T155.setTop (mkF m 102 #[.val (.int iv), .val (.ref b106), .val (.int (8 : Int32)), .val (.ref u8), .val (.int (0 : Int32)), .val (.int (0 : Int32))] [(.int (0 : Int32)), (.int (0 : Int32))]))
    refine own_go (fun t k => XS.icmpYes X155.here hx rfl (pc0 := 102) (pc' := 107) rfl (hb hby at_102) rfl (teq (by decide : (0 : Int32) = (0 : Int32))).1 (by decide) (by decide) k) ?_
    show own_Go _ _ _ _ (T155.setTop (mkF m 107 #[.val (.int iv), .val (.ref b106), .val (.int (8 : Int32)), .val (.ref u8), .val (.int (0 : Int32)), .val (.int (0 : Int32))] []))
    refine own_go (fun t k => XS.iload X155.here hx rfl (hb hby at_107) rfl k) ?_
    show own_Go _ _ _ _ (T155.setTop (mkF m 109 #[.val (.int iv), .val (.ref b106), .val (.int (8 : Int32)), .val (.ref u8), .val (.int (0 : Int32)), .val (.int (0 : Int32))] [(.int (0 : Int32))]))
    refine own_go (fun t k => XS.ifYes X155.here hx rfl (pc0 := 109) (pc' := 121) rfl (hb hby at_109) rfl ((if0 _ _).trans (teq (by decide : (0 : Int32) = (0 : Int32))).1) (by decide) (by decide) k) ?_
    show own_Go _ _ _ _ (T155.setTop (mkF m 121 #[.val (.int iv), .val (.ref b106), .val (.int (8 : Int32)), .val (.ref u8), .val (.int (0 : Int32)), .val (.int (0 : Int32))] []))
    refine own_go (fun t k => XS.iconst X155.here hx rfl (hb hby at_121) k) ?_
    show own_Go _ _ _ _ (T155.setTop (mkF m 122 #[.val (.int iv), .val (.ref b106), .val (.int (8 : Int32)), .val (.ref u8), .val (.int (0 : Int32)), .val (.int (0 : Int32))] [(.int (1 : Int32))]))
    refine own_retN X155 hx hlk (t := .boolean) hret (by simp) (hb hby at_122) ?_ (by decide) (by decide)
    rw [e155]
    exact ⟨rfl, N155⟩
theorem w_4 {Z : State} {a0 : Array Value} (hw : ∀ d ∈ tables_1, d.before a0 Z = true) : (Jvm.Cond.laysStatic "com/example/lonborg/lonborg/JobState" "PENDING" "Lcom/example/lonborg/lonborg/JobState;").before a0 Z = true := hw _ (List.mem_of_getElem? (i := 4) rfl)
theorem w_7 {Z : State} {a0 : Array Value} (hw : ∀ d ∈ tables_1, d.before a0 Z = true) : (Jvm.Cond.laysStatic "com/example/lonborg/lonborg/JobState" "DELAYED" "Lcom/example/lonborg/lonborg/JobState;").before a0 Z = true := hw _ (List.mem_of_getElem? (i := 7) rfl)
theorem w_9 {Z : State} {a0 : Array Value} (hw : ∀ d ∈ tables_1, d.before a0 Z = true) : (Jvm.Cond.laysStatic "com/example/lonborg/lonborg/JobState" "SCHEDULED" "Lcom/example/lonborg/lonborg/JobState;").before a0 Z = true := hw _ (List.mem_of_getElem? (i := 9) rfl)
theorem w_11 {Z : State} {a0 : Array Value} (hw : ∀ d ∈ tables_1, d.before a0 Z = true) : (Jvm.Cond.laysStatic "com/example/lonborg/lonborg/JobState" "RUNNING" "Lcom/example/lonborg/lonborg/JobState;").before a0 Z = true := hw _ (List.mem_of_getElem? (i := 11) rfl)
theorem w_13 {Z : State} {a0 : Array Value} (hw : ∀ d ∈ tables_1, d.before a0 Z = true) : (Jvm.Cond.laysStatic "com/example/lonborg/lonborg/JobState" "RETRYING" "Lcom/example/lonborg/lonborg/JobState;").before a0 Z = true := hw _ (List.mem_of_getElem? (i := 13) rfl)
theorem w_15 {Z : State} {a0 : Array Value} (hw : ∀ d ∈ tables_1, d.before a0 Z = true) : (Jvm.Cond.laysStatic "com/example/lonborg/lonborg/JobState" "COMPLETED" "Lcom/example/lonborg/lonborg/JobState;").before a0 Z = true := hw _ (List.mem_of_getElem? (i := 15) rfl)
theorem w_17 {Z : State} {a0 : Array Value} (hw : ∀ d ∈ tables_1, d.before a0 Z = true) : (Jvm.Cond.laysStatic "com/example/lonborg/lonborg/JobState" "FAILED" "Lcom/example/lonborg/lonborg/JobState;").before a0 Z = true := hw _ (List.mem_of_getElem? (i := 17) rfl)
theorem w_19 {Z : State} {a0 : Array Value} (hw : ∀ d ∈ tables_1, d.before a0 Z = true) : (Jvm.Cond.laysStatic "com/example/lonborg/lonborg/JobState" "DEAD_LETTER" "Lcom/example/lonborg/lonborg/JobState;").before a0 Z = true := hw _ (List.mem_of_getElem? (i := 19) rfl)
theorem w_21 {Z : State} {a0 : Array Value} (hw : ∀ d ∈ tables_1, d.before a0 Z = true) : (Jvm.Cond.laysStatic "com/example/lonborg/lonborg/JobState" "CANCELLED" "Lcom/example/lonborg/lonborg/JobState;").before a0 Z = true := hw _ (List.mem_of_getElem? (i := 21) rfl)
set_option maxRecDepth 65536 in
set_option maxHeartbeats 40000000 in
theorem comes_1 {Post : Tables → Env → Array Value → State → Outcome → State → Prop} (hpost : ∀ tb e args s v u, (limb_1_1.after args s (.returned v) u = true ∧ limb_1_2.after args s (.returned v) u = true ∧ True) → FrameEnd s (.returned v) u (Jvm.fieldLocs frame_1_writes args s ++ Jvm.arrayLocs frame_1_arrays args s ++ Jvm.staticLocs frame_1_statics s) 16 128 → Post tb e args s (.returned v) u) :
    ArmFor flags0 classFile x code maxLocals ret World_1 tables_1 room_1 Calls_1 rest_1 Pre_1 Post := by
  intro l hfl _ _ p e ha hc hk s m args below hf hA hF happ hP
  obtain ⟨hcalls, hrest, hpre⟩ := hP
  obtain ⟨-, -, -, hnamed, -, -, -, hat⟩ := (Spec.applies_iff hf).mp happ
  obtain ⟨hg, hn⟩ := and_e (Cond.before_iff.mp (show (Jvm.Cond.and given_1 narrow_1).before args s = true from hpre))
  obtain ⟨g1, g2⟩ := and_e hg
  obtain ⟨n1, n2⟩ := and_e hn
  obtain ⟨n3, n4⟩ := and_e n2
  obtain ⟨n5, n6⟩ := and_e n4
  obtain ⟨n7, n8⟩ := and_e n6
  obtain ⟨n9, n10⟩ := and_e n8
  obtain ⟨n11, n12⟩ := and_e n10
  obtain ⟨n13, n14⟩ := and_e n12
  obtain ⟨n15, n16⟩ := and_e n14
  obtain ⟨n17, n18⟩ := and_e n16
  obtain ⟨n19, n20⟩ := and_e n18
  obtain ⟨n21, n22⟩ := and_e n20
  obtain ⟨n23, n24⟩ := and_e n22
  obtain ⟨n25, n26⟩ := and_e n24
  obtain ⟨n27, n28⟩ := and_e n26
  obtain ⟨n29, n30⟩ := and_e n28
  obtain ⟨n31, n32⟩ := and_e n30
  obtain ⟨n33, n34⟩ := and_e n32
  obtain ⟨n35, n36⟩ := and_e n34
  obtain ⟨n37, n38⟩ := and_e n36
  obtain ⟨n39, n40⟩ := and_e n38
  obtain ⟨n41, n42⟩ := and_e n40
  obtain ⟨n43, n44⟩ := and_e n42
  obtain ⟨n45, n46⟩ := and_e n44
  obtain ⟨n47, n48⟩ := and_e n46
  obtain ⟨n49, n50⟩ := and_e n48
  obtain ⟨n51, n52⟩ := and_e n50
  obtain ⟨w0, rfl⟩ : ∃ w0 : Value, args = #[w0] := by
    have hs : args.size = 1 := by simpa [Cond.value, given_1] using g1
    obtain ⟨L⟩ := args
    match L, hs with
    | [w0], _ => exact ⟨w0, rfl⟩
  have hw := fun d (hd : d ∈ tables_1) => atoms_spec (ws := Jvm.Cond.code x code maxLocals ret :: tables_1) hat d (List.mem_cons_of_mem _ hd)
  have hfit : Fit s := fun {y c} hc i hi => by
    obtain ⟨ha, rfl⟩ := Array.getElem?_eq_some_iff.mp hc
    have q := List.all_eq_true.mp ((Array.all_eq_true_iff_forall_mem.mp hF) _ (Array.getElem_mem ha)) i (List.mem_range.mpr hi)
    simpa [Array.getElem?_eq_getElem hi] using q
  obtain ⟨i0, ei0⟩ := is_v g2
  obtain rfl : w0 = (.int i0) := Option.some.inj ei0
  obtain ⟨u0, ev0⟩ := exa_v n1
  have E0 := Exa.start ev0 n1
  have G0 := own_fld ev0 n19
  have S0 := Sta.start ev0 (Or.inr ⟨(w_3 hw), (w_4 hw)⟩)
  obtain ⟨u1, ev1⟩ := exa_v n3
  have E1 := Exa.start ev1 n3
  have G1 := own_fld ev1 n21
  have S1 := Sta.start ev1 (Or.inr ⟨(w_3 hw), (w_7 hw)⟩)
  have F1 := own_fld ev1 n29
  obtain ⟨u2, ev2⟩ := exa_v n5
  have E2 := Exa.start ev2 n5
  have G2 := own_fld ev2 n27
  have S2 := Sta.start ev2 (Or.inr ⟨(w_3 hw), (w_9 hw)⟩)
  obtain ⟨u3, ev3⟩ := exa_v n7
  have E3 := Exa.start ev3 n7
  have G3 := own_fld ev3 n25
  have S3 := Sta.start ev3 (Or.inr ⟨(w_3 hw), (w_11 hw)⟩)
  obtain ⟨u4, ev4⟩ := exa_v n9
  have E4 := Exa.start ev4 n9
  have G4 := own_fld ev4 n23
  have S4 := Sta.start ev4 (Or.inr ⟨(w_3 hw), (w_13 hw)⟩)
  have F4 := own_fld ev4 n33
  obtain ⟨u5, ev5⟩ := exa_v n11
  have E5 := Exa.start ev5 n11
  have G5 := own_fld ev5 n39
  have S5 := Sta.start ev5 (Or.inr ⟨(w_3 hw), (w_15 hw)⟩)
  obtain ⟨u6, ev6⟩ := exa_v n13
  have E6 := Exa.start ev6 n13
  have G6 := own_fld ev6 n37
  have S6 := Sta.start ev6 (Or.inr ⟨(w_3 hw), (w_17 hw)⟩)
  obtain ⟨u7, ev7⟩ := exa_v n15
  have E7 := Exa.start ev7 n15
  have G7 := own_fld ev7 n31
  have S7 := Sta.start ev7 (Or.inr ⟨(w_3 hw), (w_19 hw)⟩)
  obtain ⟨u8, ev8⟩ := exa_v n17
  have E8 := Exa.start ev8 n17
  have G8 := own_fld ev8 n35
  have S8 := Sta.start ev8 (Or.inr ⟨(w_3 hw), (w_21 hw)⟩)
  have ne_0_1 : ¬ u0 = u1 := G0.ne G1 (by decide)
  have ne_0_4 : ¬ u0 = u4 := G0.ne G4 (by decide)
  have ne_1_4 : ¬ u1 = u4 := G1.ne G4 (by decide)
  have ne_2_1 : ¬ u2 = u1 := G2.ne G1 (by decide)
  have ne_2_4 : ¬ u2 = u4 := G2.ne G4 (by decide)
  have ne_3_1 : ¬ u3 = u1 := G3.ne G1 (by decide)
  have ne_3_4 : ¬ u3 = u4 := G3.ne G4 (by decide)
  have ne_4_1 : ¬ u4 = u1 := G4.ne G1 (by decide)
  have ne_5_1 : ¬ u5 = u1 := G5.ne G1 (by decide)
  have ne_5_4 : ¬ u5 = u4 := G5.ne G4 (by decide)
  have ne_6_1 : ¬ u6 = u1 := G6.ne G1 (by decide)
  have ne_6_4 : ¬ u6 = u4 := G6.ne G4 (by decide)
  have ne_7_1 : ¬ u7 = u1 := G7.ne G1 (by decide)
  have ne_7_4 : ¬ u7 = u4 := G7.ne G4 (by decide)
  have ne_8_1 : ¬ u8 = u1 := G8.ne G1 (by decide)
  have ne_8_4 : ¬ u8 = u4 := G8.ne G4 (by decide)
  obtain ⟨n, o, h1, h2, h3, _, L, rfl, ⟨rfl, N⟩, hq⟩ := rm_law l s _ hw tables_1 i0 u0 u1 u2 u3 u4 u5 u6 u7 u8 s.heap s.heap.size (Nat.le_refl _) (Old.start s) S0 S1 S2 S3 S4 S5 S6 S7 S8 E0 E1 E2 E3 E4 E5 E6 E7 E8 F1 F4 ne_0_1 ne_0_4 ne_1_4 ne_2_1 ne_2_4 ne_3_1 ne_3_4 ne_4_1 ne_5_1 ne_5_4 ne_6_1 ne_6_4 ne_7_1 ne_7_4 ne_8_1 ne_8_4 p e ha hc hk s m _ below hf ((Spec.applies_iff_loose hf).mp happ).1 ⟨rfl, State.Warmed39.refl s, rfl⟩ trivial
  refine ⟨n, _, h1, h2, h3, hpost _ _ _ _ _ _ ⟨Cond.after_iff.mpr rfl, Cond.after_iff.mpr (eq_i res_at (Term.int_eval (1)) rfl), trivial⟩ ⟨hq.1, hq.2.1, (hq.2.2.sift fun y hy => Or.inr (N y hy)).mono (by decide) (by decide)⟩⟩
theorem main_1_1 : Claimed_1_1 := comes_1 fun _ _ _ _ _ _ h hF => ⟨h.1, hF⟩
theorem main_1_2 : Claimed_1_2 := comes_1 fun _ _ _ _ _ _ h hF => ⟨h.2.1, hF⟩
end Jvm.Pilot.@@N@@
namespace Jvm.Pilot.@@N@@
open Jvm Jvm.ClassFile Sem Op Lib Jvm.Free Jvm.Stand Jvm.Pilot.@@N@@.Jvm.D
/-! MADE BY PROGRAM (witnessworld.py) out of the Statement's table words and the real class files: 13 classes; the members and pool entries that the words name. The judged class is class 1, her method 1. -/
namespace start1
open Jvm.ClassFile
def u (s : String) : CpInfo := .utf8 (stringToUtf16 s)
/-- a pool by its gaps: so many unusable entries, then the entry; so many at the end -/
def gap : Nat → List CpInfo → List CpInfo
  | 0, r => r
  | n + 1, r => .unusable :: gap n r
def poolList (es : List (Nat × CpInfo)) (last : Nat) : List CpInfo := es.foldr (fun e r => gap e.1 (e.2 :: r)) (gap last [])
def pool (es : List (Nat × CpInfo)) (last : Nat) : Array CpInfo := ⟨poolList es last⟩
def fileOf (pool : Array CpInfo) (this : Nat) (attrs : Array Attribute := #[]) (ms : Array MethodInfo := #[]) (fl : Nat := 33) (sup : Nat := 0) (ifs : Array Nat := #[]) (fds : Array FieldInfo := #[]) : ClassFile where
  minorVersion := 0
  majorVersion := 65
  constantPool := pool
  accessFlags := fl
  thisClass := this
  superClass := sup
  interfaces := ifs
  fields := fds
  methods := ms
  attributes := attrs
def plain (name : String) (sup : Option ClassId) : Class where
  name := name
  kind := .ordinary
  loader := none
  accessFlags := 33
  super := sup
  interfaces := #[]
  cf := none
  fields := #[]
  methods := #[]
  instanceTypes := #[]
  staticTypes := #[]
  resolved := #[]
  callSites := []
  init := .initialized
  statics := none
  mirror := none

def pool0 : Array CpInfo := pool [(5, u "<init>"), (0, u "()V"), (1, .class_ 10), (1, u "java/lang/Object")] 113

def k0m0 : Method := { name := "<init>", desc := "()V", sig := { parameters := [], returnType := none }, accessFlags := 1, code := none }
/-- java/lang/Object -/
def k0 : Class := { plain "java/lang/Object" none with
  accessFlags := 33
  interfaces := #[]
  cf := some (fileOf pool0 8 #[] #[{ accessFlags := 1, nameIndex := 5, descriptorIndex := 6, attributes := #[] }] 33 0 #[] #[])
  fields := #[]
  methods := #[k0m0]
  instanceTypes := #[]
  staticTypes := #[]
  resolved := Array.replicate 124 none
  statics := none }

def pool1 : Array CpInfo := pool [(2, .class_ 4), (1, u "java/lang/Object"), (0, u "<init>"), (0, u "()V"), (0, .class_ 8), (0, u "com/example/lonborg/lonborg/JobState"), (0, .fieldref 7 10), (0, .nameAndType 11 12), (0, u "PENDING"), (0, u "Lcom/example/lonborg/lonborg/JobState;"), (0, .fieldref 7 14), (0, .nameAndType 15 12), (0, u "DELAYED"), (0, .fieldref 7 17), (0, .nameAndType 18 12), (0, u "SCHEDULED"), (0, .fieldref 7 20), (0, .nameAndType 21 12), (0, u "RUNNING"), (0, .fieldref 7 23), (0, .nameAndType 24 12), (0, u "RETRYING"), (0, .fieldref 7 26), (0, .nameAndType 27 12), (0, u "COMPLETED"), (0, .fieldref 7 29), (0, .nameAndType 30 12), (0, u "FAILED"), (0, .fieldref 7 32), (0, .nameAndType 33 12), (0, u "DEAD_LETTER"), (0, .fieldref 7 35), (0, .nameAndType 36 12), (0, u "CANCELLED"), (0, .integer 2147483647), (0, .methodref 7 39), (0, .nameAndType 40 41), (0, u "waitsForRunAt"), (0, u "()Z"), (0, .methodref 7 43), (0, .nameAndType 44 41), (0, u "isFinal"), (0, .class_ 46), (0, u "com/example/lonborg/lonborg/JobStateWaitsForRunAtPinLaw"), (2, u "law"), (0, u "(I)Z")] 5

def k1m0 : Method := { name := "<init>", desc := "()V", sig := { parameters := [], returnType := none }, accessFlags := 1, code := none }
def k1c1 : Code := { maxStack := 4, maxLocals := 6, code := code, exceptionTable := #[], attributes := #[] }
def k1m1 : Method := { name := "law", desc := "(I)Z", sig := { parameters := [.int], returnType := some .boolean }, accessFlags := 9, code := some k1c1 }
/-- com/example/lonborg/lonborg/JobStateWaitsForRunAtPinLaw -/
def k1 : Class := { plain "com/example/lonborg/lonborg/JobStateWaitsForRunAtPinLaw" (some 0) with
  accessFlags := 49
  interfaces := #[]
  cf := some (fileOf pool1 45 #[] #[{ accessFlags := 1, nameIndex := 5, descriptorIndex := 6, attributes := #[] }, { accessFlags := 9, nameIndex := 49, descriptorIndex := 50, attributes := #[] }] 49 2 #[] #[])
  fields := #[]
  methods := #[k1m0, k1m1]
  instanceTypes := #[]
  staticTypes := #[]
  resolved := Array.replicate 56 none
  statics := none }

def pool2 : Array CpInfo := pool [(1, .class_ 2), (0, u "java/lang/constant/Constable"), (0, .class_ 4), (0, u "java/lang/Object")] 6

/-- java/lang/constant/Constable -/
def k2 : Class := { plain "java/lang/constant/Constable" (some 0) with
  accessFlags := 1537
  interfaces := #[]
  cf := some (fileOf pool2 1 #[] #[] 1537 3 #[] #[])
  fields := #[]
  methods := #[]
  instanceTypes := #[]
  staticTypes := #[]
  resolved := Array.replicate 11 none
  statics := none }

def pool3 : Array CpInfo := pool [(1, .class_ 2), (0, u "java/lang/Comparable"), (0, .class_ 4), (0, u "java/lang/Object")] 7

/-- java/lang/Comparable -/
def k3 : Class := { plain "java/lang/Comparable" (some 0) with
  accessFlags := 1537
  interfaces := #[]
  cf := some (fileOf pool3 1 #[] #[] 1537 3 #[] #[])
  fields := #[]
  methods := #[]
  instanceTypes := #[]
  staticTypes := #[]
  resolved := Array.replicate 12 none
  statics := none }

def pool4 : Array CpInfo := pool [(1, .class_ 2), (0, u "java/io/Serializable"), (0, .class_ 4), (0, u "java/lang/Object")] 2

/-- java/io/Serializable -/
def k4 : Class := { plain "java/io/Serializable" (some 0) with
  accessFlags := 1537
  interfaces := #[]
  cf := some (fileOf pool4 1 #[] #[] 1537 3 #[] #[])
  fields := #[]
  methods := #[]
  instanceTypes := #[]
  staticTypes := #[]
  resolved := Array.replicate 7 none
  statics := none }

def pool5 : Array CpInfo := pool [(2, .class_ 4), (1, u "java/lang/Enum"), (0, u "name"), (0, u "Ljava/lang/String;"), (2, u "ordinal"), (0, u "I"), (1, .class_ 14), (1, u "java/lang/Object"), (4, u "hash"), (86, .class_ 108), (1, u "java/lang/Enum$EnumDesc"), (2, .class_ 112), (0, u "java/lang/constant/Constable"), (0, .class_ 114), (0, u "java/lang/Comparable"), (0, .class_ 116), (0, u "java/io/Serializable")] 87

/-- java/lang/Enum -/
def k5 : Class := { plain "java/lang/Enum" (some 0) with
  accessFlags := 1057
  interfaces := #[2, 3, 4]
  cf := some (fileOf pool5 2 #[.nestMembers #[106]] #[] 1057 12 #[111, 113, 115] #[{ accessFlags := 18, nameIndex := 5, descriptorIndex := 6, attributes := #[] }, { accessFlags := 18, nameIndex := 9, descriptorIndex := 10, attributes := #[] }, { accessFlags := 2, nameIndex := 19, descriptorIndex := 10, attributes := #[] }])
  fields := #[{ name := "name", type := (.object "java/lang/String"), accessFlags := 18, slot := 0, constantValue := 0 }, { name := "ordinal", type := .int, accessFlags := 18, slot := 1, constantValue := 0 }, { name := "hash", type := .int, accessFlags := 2, slot := 2, constantValue := 0 }]
  methods := #[]
  instanceTypes := #[(.object "java/lang/String"), .int, .int]
  staticTypes := #[]
  resolved := Array.replicate 204 none
  statics := none }

def pool6 : Array CpInfo := pool [(1, .class_ 2), (0, u "com/example/lonborg/lonborg/JobState"), (2, u "PENDING"), (0, u "Lcom/example/lonborg/lonborg/JobState;"), (0, .fieldref 1 8), (0, .nameAndType 9 6), (0, u "DELAYED"), (2, u "SCHEDULED"), (2, u "RUNNING"), (0, .fieldref 1 17), (0, .nameAndType 18 6), (0, u "RETRYING"), (2, u "COMPLETED"), (2, u "FAILED"), (2, u "DEAD_LETTER"), (2, u "CANCELLED"), (2, u "$VALUES"), (0, u "[Lcom/example/lonborg/lonborg/JobState;"), (6, .class_ 43), (1, u "java/lang/Enum"), (6, .fieldref 1 51), (0, .nameAndType 52 53), (0, u "isFinal"), (0, u "Z"), (23, u "()Z"), (0, u "waitsForRunAt")] 6

def k6c0 : Code := { maxStack := 1, maxLocals := 1, code := prog_15_method_4_code, exceptionTable := #[], attributes := #[] }
def k6m0 : Method := { name := "isFinal", desc := "()Z", sig := { parameters := [], returnType := some .boolean }, accessFlags := 1, code := some k6c0 }
def k6c1 : Code := { maxStack := 2, maxLocals := 1, code := prog_15_method_5_code, exceptionTable := #[], attributes := #[] }
def k6m1 : Method := { name := "waitsForRunAt", desc := "()Z", sig := { parameters := [], returnType := some .boolean }, accessFlags := 1, code := some k6c1 }
/-- com/example/lonborg/lonborg/JobState -/
def k6 : Class := { plain "com/example/lonborg/lonborg/JobState" (some 5) with
  accessFlags := 16433
  interfaces := #[]
  cf := some (fileOf pool6 1 #[] #[{ accessFlags := 1, nameIndex := 52, descriptorIndex := 77, attributes := #[] }, { accessFlags := 1, nameIndex := 78, descriptorIndex := 77, attributes := #[] }] 16433 41 #[] #[{ accessFlags := 16409, nameIndex := 5, descriptorIndex := 6, attributes := #[] }, { accessFlags := 16409, nameIndex := 9, descriptorIndex := 6, attributes := #[] }, { accessFlags := 16409, nameIndex := 12, descriptorIndex := 6, attributes := #[] }, { accessFlags := 16409, nameIndex := 15, descriptorIndex := 6, attributes := #[] }, { accessFlags := 16409, nameIndex := 18, descriptorIndex := 6, attributes := #[] }, { accessFlags := 16409, nameIndex := 21, descriptorIndex := 6, attributes := #[] }, { accessFlags := 16409, nameIndex := 24, descriptorIndex := 6, attributes := #[] }, { accessFlags := 16409, nameIndex := 27, descriptorIndex := 6, attributes := #[] }, { accessFlags := 16409, nameIndex := 30, descriptorIndex := 6, attributes := #[] }, { accessFlags := 18, nameIndex := 52, descriptorIndex := 53, attributes := #[] }, { accessFlags := 4122, nameIndex := 33, descriptorIndex := 34, attributes := #[] }])
  fields := #[{ name := "PENDING", type := (.object "com/example/lonborg/lonborg/JobState"), accessFlags := 16409, slot := 0, constantValue := 0 }, { name := "DELAYED", type := (.object "com/example/lonborg/lonborg/JobState"), accessFlags := 16409, slot := 1, constantValue := 0 }, { name := "SCHEDULED", type := (.object "com/example/lonborg/lonborg/JobState"), accessFlags := 16409, slot := 2, constantValue := 0 }, { name := "RUNNING", type := (.object "com/example/lonborg/lonborg/JobState"), accessFlags := 16409, slot := 3, constantValue := 0 }, { name := "RETRYING", type := (.object "com/example/lonborg/lonborg/JobState"), accessFlags := 16409, slot := 4, constantValue := 0 }, { name := "COMPLETED", type := (.object "com/example/lonborg/lonborg/JobState"), accessFlags := 16409, slot := 5, constantValue := 0 }, { name := "FAILED", type := (.object "com/example/lonborg/lonborg/JobState"), accessFlags := 16409, slot := 6, constantValue := 0 }, { name := "DEAD_LETTER", type := (.object "com/example/lonborg/lonborg/JobState"), accessFlags := 16409, slot := 7, constantValue := 0 }, { name := "CANCELLED", type := (.object "com/example/lonborg/lonborg/JobState"), accessFlags := 16409, slot := 8, constantValue := 0 }, { name := "isFinal", type := .boolean, accessFlags := 18, slot := 3, constantValue := 0 }, { name := "$VALUES", type := (.array (.object "com/example/lonborg/lonborg/JobState")), accessFlags := 4122, slot := 9, constantValue := 0 }]
  methods := #[k6m0, k6m1]
  instanceTypes := #[(.object "java/lang/String"), .int, .int, .boolean]
  staticTypes := #[(.object "com/example/lonborg/lonborg/JobState"), (.object "com/example/lonborg/lonborg/JobState"), (.object "com/example/lonborg/lonborg/JobState"), (.object "com/example/lonborg/lonborg/JobState"), (.object "com/example/lonborg/lonborg/JobState"), (.object "com/example/lonborg/lonborg/JobState"), (.object "com/example/lonborg/lonborg/JobState"), (.object "com/example/lonborg/lonborg/JobState"), (.object "com/example/lonborg/lonborg/JobState"), (.array (.object "com/example/lonborg/lonborg/JobState"))]
  resolved := Array.replicate 85 none
  statics := some 0 }

def pool7 : Array CpInfo := pool [(1, u "java/lang/Cloneable"), (0, .class_ 1), (0, u "java/lang/Object"), (0, .class_ 3)] 3

/-- java/lang/Cloneable -/
def k7 : Class := { plain "java/lang/Cloneable" (some 0) with
  accessFlags := 1537
  interfaces := #[]
  cf := some (fileOf pool7 2 #[] #[] 1537 4 #[] #[])
  fields := #[]
  methods := #[]
  instanceTypes := #[]
  staticTypes := #[]
  resolved := Array.replicate 8 none
  statics := none }

/-- the primitive byte -/
def k8 : Class := { plain "byte" none with kind := .primitive 'B', accessFlags := 0x411 }
/-- [B -/
def k9 : Class := { plain "[B" (some 0) with kind := .array 8 .byte, interfaces := #[7, 4], accessFlags := 1041 }

/-- the primitive int -/
def k10 : Class := { plain "int" none with kind := .primitive 'I', accessFlags := 0x411 }
/-- [I -/
def k11 : Class := { plain "[I" (some 0) with kind := .array 10 .int, interfaces := #[7, 4], accessFlags := 1041 }

/-- [Lcom/example/lonborg/lonborg/JobState; -/
def k12 : Class := { plain "[Lcom/example/lonborg/lonborg/JobState;" (some 0) with kind := .array 6 (.object "com/example/lonborg/lonborg/JobState"), interfaces := #[7, 4], accessFlags := 1041 }

def heap : Heap := #[{ cls := 6, slots := #[.ref 1, .ref 2, .ref 3, .ref 4, .ref 5, .ref 6, .ref 7, .ref 8, .ref 9, .null], vm := .statics 6 },
  { cls := 6, slots := #[.null, .int 0, .int 0, .int 0], vm := .none },
  { cls := 6, slots := #[.null, .int 1, .int 0, .int 0], vm := .none },
  { cls := 6, slots := #[.null, .int 2, .int 0, .int 0], vm := .none },
  { cls := 6, slots := #[.null, .int 3, .int 0, .int 0], vm := .none },
  { cls := 6, slots := #[.null, .int 4, .int 0, .int 0], vm := .none },
  { cls := 6, slots := #[.null, .int 5, .int 0, .int 1], vm := .none },
  { cls := 6, slots := #[.null, .int 6, .int 0, .int 1], vm := .none },
  { cls := 6, slots := #[.null, .int 7, .int 0, .int 1], vm := .none },
  { cls := 6, slots := #[.null, .int 8, .int 0, .int 1], vm := .none }]
def classes : Array Class := #[k0, k1, k2, k3, k4, k5, k6, k7, k8, k9, k10, k11, k12]
def interned : List (Array UInt16 × Addr) := []
def slotsUsed : Nat := 46
def theMethod : MethodId := ⟨1, 1⟩
def args0 : Array Value := #[.int 5]
def aboutOver (below : List Frame) : State where
  vm := { classes := classes, interned := interned.toArray }
  heap := heap
  slotsUsed := slotsUsed
  threads := #[{ frames := .invoking theMethod args0 :: below }]
def below0 : List Frame := [.native { method := ⟨0, 0⟩, args := #[] }]
def about1 : State := aboutOver below0
def p0 : Program := .bare "" "" ""
def e0 : Env := launch0.env 0 0 0
theorem w_frames : about1.frames = Frame.invoking theMethod args0 :: below0 := rfl
set_option maxRecDepth 65536 in
theorem w_args : argsFit about1.vm theMethod args0 = true := by decide +kernel
set_option maxRecDepth 65536 in
theorem w_heap : heapFits about1 = true := by decide +kernel
set_option maxRecDepth 65536 in
theorem w_runnable : about1.curStatus? = some .runnable := by decide +kernel
set_option maxRecDepth 65536 in
theorem w_alone : about1.alone = true := by decide +kernel
set_option maxRecDepth 65536 in
theorem w_named : about1.methodNamed? x = some theMethod := by decide +kernel
set_option maxRecDepth 65536 in
theorem w_hears : about1.hears theMethod below0 = true := by decide +kernel
set_option maxRecDepth 65536 in
theorem w_ripe : about1.ripe theMethod args0 below0 = true := by decide +kernel
theorem w_running : about1.status = .running := rfl
set_option maxRecDepth 65536 in
theorem w_room : about1.hasRoom e0.platform room_1 = true :=
  launch0.hasRoom_least _ room_1 (by decide +kernel) (by decide +kernel) (by decide +kernel) (by decide +kernel) (by decide +kernel) (by decide +kernel)
theorem allAtoms_all (ts : List Jvm.Cond) (a : Array Jvm.Value) (st : Jvm.State) : (allAtoms ts).before a st = ts.all (fun c => c.before a st) := by
  induction ts with
  | nil => rfl
  | cons c t ih =>
    show (Jvm.Cond.and c (allAtoms t)).before a st = _
    rw [Jvm.Cond.before_and, ih, List.all_cons]
def words1 : List Jvm.Cond := Jvm.Cond.code x code maxLocals ret :: tables_1
/-- a 'code' word, met by the world's own term for the bytes: nothing is compared byte by byte -/
theorem code_word {y : MethodName} {bytes : ByteArray} {mx : Nat} {rt : Option FieldType} {a : Array Value} {s : State} {m : MethodId} {meth : Method} {c : Code} (h1 : s.methodNamed? y = some m) (h2 : s.vm.method? m = some meth) (h3 : meth.code = some c) (h4 : c.code = bytes)
    (h5 : (c.maxLocals == mx && c.exceptionTable.isEmpty && decide (c.maxStack ≤ mostOperands) && decide (meth.sig.returnType = rt) && !meth.locks && decide (parseMethodDescriptor y.desc = some meth.sig)) = true) : (Jvm.Cond.code y bytes mx rt).before a s = true := by
  simp only [Bool.and_eq_true, beq_iff_eq, Bool.not_eq_true', decide_eq_true_eq] at h5
  obtain ⟨⟨⟨⟨⟨g1, g2⟩, g3⟩, g4⟩, g5⟩, g6⟩ := h5
  simp [Cond.before, Cond.holds, Cond.value, h1, h2, h3, h4, g1, g2, g3, g4, g5, g6]
def isCode : Jvm.Cond → Bool
  | .code _ _ _ _ => true
  | _ => false
theorem all_split {L : List Jvm.Cond} {P : Jvm.Cond → Bool} (h1 : L.all (fun c => isCode c || P c) = true) (h2 : ∀ c ∈ L.filter isCode, P c = true) : L.all P = true := by
  refine List.all_eq_true.mpr fun c hc => ?_
  have h := List.all_eq_true.mp h1 c hc
  rcases Bool.eq_false_or_eq_true (isCode c) with hi | hi
  · exact h2 c (List.mem_filter.mpr ⟨hc, hi⟩)
  · simpa [hi] using h
set_option maxRecDepth 65536 in
theorem w_c0 : (Jvm.Cond.code x code maxLocals ret).before args0 about1 = true := code_word (m := ⟨1, 1⟩) (meth := k1m1) (c := k1c1) (by decide +kernel) rfl rfl rfl (by decide +kernel)
set_option maxRecDepth 65536 in
theorem w_c1 : (Jvm.Cond.code ({ cls := "com/example/lonborg/lonborg/JobState", name := "waitsForRunAt", desc := "()Z" } : Jvm.MethodName) prog_15_method_5_code (1 : Nat) (Option.some Jvm.ClassFile.FieldType.boolean)).before args0 about1 = true := code_word (m := ⟨6, 1⟩) (meth := k6m1) (c := k6c1) (by decide +kernel) rfl rfl rfl (by decide +kernel)
set_option maxRecDepth 65536 in
theorem w_c2 : (Jvm.Cond.code ({ cls := "com/example/lonborg/lonborg/JobState", name := "isFinal", desc := "()Z" } : Jvm.MethodName) prog_15_method_4_code (1 : Nat) (Option.some Jvm.ClassFile.FieldType.boolean)).before args0 about1 = true := code_word (m := ⟨6, 0⟩) (meth := k6m0) (c := k6c0) (by decide +kernel) rfl rfl rfl (by decide +kernel)
def codes1 : List Jvm.Cond := [Jvm.Cond.code x code maxLocals ret, Jvm.Cond.code ({ cls := "com/example/lonborg/lonborg/JobState", name := "waitsForRunAt", desc := "()Z" } : Jvm.MethodName) prog_15_method_5_code (1 : Nat) (Option.some Jvm.ClassFile.FieldType.boolean), Jvm.Cond.code ({ cls := "com/example/lonborg/lonborg/JobState", name := "isFinal", desc := "()Z" } : Jvm.MethodName) prog_15_method_4_code (1 : Nat) (Option.some Jvm.ClassFile.FieldType.boolean)]
set_option maxRecDepth 65536 in
theorem codes_eq : words1.filter isCode = codes1 := rfl
theorem w_codes : ∀ c ∈ words1.filter isCode, c.before args0 about1 = true := by
  rw [codes_eq]
  intro c hc
  simp only [codes1, List.mem_cons, List.not_mem_nil, or_false] at hc
  rcases hc with rfl | rfl | rfl
  · exact w_c0
  · exact w_c1
  · exact w_c2
set_option maxRecDepth 65536 in
theorem w_t1 : (words1.take 24).all (fun c => isCode c || c.before args0 about1) = true := by decide +kernel
set_option maxRecDepth 65536 in
theorem w_t2 : (words1.drop 24).all (fun c => isCode c || c.before args0 about1) = true := by decide +kernel
theorem w_tables : (allAtoms (Jvm.Cond.code x code maxLocals ret :: tables_1)).before args0 about1 = true := by
  rw [allAtoms_all]
  show words1.all (fun c => c.before args0 about1) = true
  refine all_split ?_ w_codes
  rw [← List.take_append_drop 24 words1, List.all_append, w_t1, w_t2]
  rfl
set_option maxRecDepth 65536 in
theorem w_case : (Jvm.Cond.and given_1 narrow_1).before args0 about1 = true := by decide +kernel
theorem w_applies : (headSpec (Jvm.Cond.code x code maxLocals ret :: tables_1) room_1).applies x e0.platform about1 = true :=
  (Spec.applies_iff w_frames).mpr ⟨w_running, w_runnable, w_alone, w_named, w_hears, w_ripe, w_room, w_tables⟩
theorem atStart : AtStart classFile x code maxLocals ret World_1 tables_1 room_1 Calls_1 rest_1 Pre_1 launch0 p0 e0 about1 theMethod args0 below0 :=
  ⟨lists_1, trivial, launch0.admits_env _ _ _, launch0.least_env, fairChoices_fair.cas, fairChoices_fair.clock, w_frames, w_args, w_heap, w_applies, trivial, trivial, w_case⟩
end start1
theorem witness_1 : WitnessClaimed_1 := ⟨start1.p0, start1.e0, start1.about1, start1.theMethod, start1.args0, start1.below0, start1.atStart⟩
end Jvm.Pilot.@@N@@
