import JvmDerived
import JvmDerived.Pilot.@@N@@Statement
import JvmDerived.Pilot.@@N@@Code
set_option linter.unusedVariables false
set_option linter.unusedSimpArgs false
@@BLOCK:NumsL.lean.txt@@
namespace Jvm.RoadKit
open Sem ClassFile Op Lib Jvm.Stand Jvm.Free Jvm.LawKit
section Own
variable {p : Program} {l : Launch} {e : Env} {R : Room} {s : State} {m : MethodId} {args : Array Value} {below : List Frame} {meth : Method} {c : Code} {T : State} {locs : List Loc} {cells slots : Nat}
def own_Go (p : Program) (e : Env) (below : List Frame) (F : Outcome → State → Prop) (U : State) : Prop := ∃ s₂ o, Steps p.tables e below U s₂ ∧ s₂.status = .running ∧ Ended s₂ below o ∧ F o s₂
def own_Fin (s : State) (C S : Nat) (Q : Option Value → Heap → List Loc → Prop) (o : Outcome) (U' : State) : Prop := ∃ v L, o = .returned v ∧ Q v U'.heap L ∧ FrameEnd s o U' L C S
theorem own_go {F : Outcome → State → Prop} {U U' : State} (h : ∀ t, Steps p.tables e below U' t → Steps p.tables e below U t) (g : own_Go p e below F U') : own_Go p e below F U := by
  obtain ⟨s₂, o, h1, h2⟩ := g
  exact ⟨s₂, o, h _ h1, h2⟩
theorem own_cast {F : Outcome → State → Prop} {g g' : JFrame} (q : g = g') (k : own_Go p e below F (T.setTop g')) : own_Go p e below F (T.setTop g) := q ▸ k
theorem own_ret (X : Stand p l e R s m args below meth c T locs cells slots) (hx : p.tables.exec = Jvm.exec) (hlk : meth.locks = false) {pc : Nat} {Ls : Array Slot} {w : Value} {t : FieldType} {i : Instr} {rest : List Value} (hret : meth.sig.returnType = some t) (hn : narrow t w = w)
    (hi : (i = .ireturn ∧ (t = .int ∨ t = .boolean ∨ t = .byte ∨ t = .char ∨ t = .short) ∧ ∃ z, w = .int z) ∨ (i = .lreturn ∧ t = .long ∧ ∃ z, w = .long z) ∨ (i = .dreturn ∧ t = .double ∧ ∃ z, w = .double z) ∨ (i = .freturn ∧ t = .float ∧ ∃ z, w = .float z) ∨ (i = .areturn ∧ t.isReference = true ∧ w.isRef = true))
    (hd : decode c.code pc = .ok (i, 1)) {Q : Option Value → Heap → List Loc → Prop} (hQ : Q (some w) T.heap locs) {C S : Nat} (hc : cells ≤ C) (hs : slots ≤ S) : own_Go p e below (own_Fin s C S Q) (T.setTop (mkF m pc Ls (w :: rest))) := by
  obtain ⟨fs, hr, hrun, hended, hW, hsame⟩ := X.leave (v := some w) (fun h => by rw [hret] at h; cases h) hlk
  exact ⟨_, _, retOut X hx hret hn hi hd hr, hrun, hended, _, _, rfl, hQ, ⟨_, rfl⟩, hW, hsame.mono hc hs⟩
theorem own_retN (X : Stand p l e R s m args below meth c T locs cells slots) (hx : p.tables.exec = Jvm.exec) (hlk : meth.locks = false) {pc : Nat} {Ls : Array Slot} {z : Int32} {t : FieldType} {rest : List Value} (hret : meth.sig.returnType = some t) (ht : t = .boolean ∨ t = .byte ∨ t = .char ∨ t = .short)
    (hd : decode c.code pc = .ok (.ireturn, 1)) {Q : Option Value → Heap → List Loc → Prop} (hQ : Q (some (.int (nar t z))) T.heap locs) {C S : Nat} (hc : cells ≤ C) (hs : slots ≤ S) : own_Go p e below (own_Fin s C S Q) (T.setTop (mkF m pc Ls (.int z :: rest))) := by
  obtain ⟨fs, hr, hrun, hended, hW, hsame⟩ := X.leave (v := some (.int (nar t z))) (fun h => by rw [hret] at h; cases h) hlk
  exact ⟨_, _, retN X hx hret ht hd hr, hrun, hended, _, _, rfl, hQ, ⟨_, rfl⟩, hW, hsame.mono hc hs⟩
theorem own_retV (X : Stand p l e R s m args below meth c T locs cells slots) (hx : p.tables.exec = Jvm.exec) (hlk : meth.locks = false) {pc : Nat} {Ls : Array Slot} (hret : meth.sig.returnType = none)
    (hd : decode c.code pc = .ok (.return_, 1)) {Q : Option Value → Heap → List Loc → Prop} (hQ : Q none T.heap locs) {C S : Nat} (hc : cells ≤ C) (hs : slots ≤ S) : own_Go p e below (own_Fin s C S Q) (T.setTop (mkF m pc Ls [])) := by
  obtain ⟨fs, hr, hrun, hended, hW, hsame⟩ := X.leave (v := none) (fun _ => rfl) hlk
  exact ⟨_, _, X.returnOut hx hret hd hr, hrun, hended, _, _, rfl, hQ, ⟨_, rfl⟩, hW, hsame.mono hc hs⟩
def own_FinW (s : State) (C S : Nat) (Q : Option Value → Heap → List Loc → Prop) (o : Outcome) (U' : State) : Prop := ∃ v L, o = .returned v ∧ Q v U'.heap L ∧ ReturnedEndW s o U' L C S
theorem own_monoW {t : State} {o : Outcome} {L : List Loc} {k n C S : Nat} (h : ReturnedEndW s o t L k n) (hc : k ≤ C) (hs : n ≤ S) : ReturnedEndW s o t L C S := ⟨h.1, h.2.1, h.2.2.1, h.2.2.2.mono hc hs⟩
theorem own_retW {vm₁ : Vm} (X : Stand p l e R (s.setVm vm₁) m args below meth c T locs cells slots) (hx : p.tables.exec = Jvm.exec) {n : Nat} (hS : s.Since vm₁ n) (hk : n ≤ T.heap.size) (hlk : meth.locks = false) {pc : Nat} {Ls : Array Slot} {w : Value} {t : FieldType} {i : Instr} {rest : List Value} (hret : meth.sig.returnType = some t) (hn : narrow t w = w)
    (hi : (i = .ireturn ∧ (t = .int ∨ t = .boolean ∨ t = .byte ∨ t = .char ∨ t = .short) ∧ ∃ z, w = .int z) ∨ (i = .lreturn ∧ t = .long ∧ ∃ z, w = .long z) ∨ (i = .dreturn ∧ t = .double ∧ ∃ z, w = .double z) ∨ (i = .freturn ∧ t = .float ∧ ∃ z, w = .float z) ∨ (i = .areturn ∧ t.isReference = true ∧ w.isRef = true))
    (hd : decode c.code pc = .ok (i, 1)) {Q : Option Value → Heap → List Loc → Prop} (hQ : Q (some w) T.heap locs) {C S : Nat} (hc : cells ≤ C) (hs : slots ≤ S) : own_Go p e below (own_FinW s C S Q) (T.setTop (mkF m pc Ls (w :: rest))) := by
  obtain ⟨fs, hr, hrun, hended, hW⟩ := X.leaveW hS hk (v := some w) (fun h => by rw [hret] at h; cases h) hlk
  exact ⟨_, _, retOut X hx hret hn hi hd hr, hrun, hended, _, _, rfl, hQ, own_monoW hW hc hs⟩
theorem own_retNW {vm₁ : Vm} (X : Stand p l e R (s.setVm vm₁) m args below meth c T locs cells slots) (hx : p.tables.exec = Jvm.exec) {n : Nat} (hS : s.Since vm₁ n) (hk : n ≤ T.heap.size) (hlk : meth.locks = false) {pc : Nat} {Ls : Array Slot} {z : Int32} {t : FieldType} {rest : List Value} (hret : meth.sig.returnType = some t) (ht : t = .boolean ∨ t = .byte ∨ t = .char ∨ t = .short)
    (hd : decode c.code pc = .ok (.ireturn, 1)) {Q : Option Value → Heap → List Loc → Prop} (hQ : Q (some (.int (nar t z))) T.heap locs) {C S : Nat} (hc : cells ≤ C) (hs : slots ≤ S) : own_Go p e below (own_FinW s C S Q) (T.setTop (mkF m pc Ls (.int z :: rest))) := by
  obtain ⟨fs, hr, hrun, hended, hW⟩ := X.leaveW hS hk (v := some (.int (nar t z))) (fun h => by rw [hret] at h; cases h) hlk
  exact ⟨_, _, retN X hx hret ht hd hr, hrun, hended, _, _, rfl, hQ, own_monoW hW hc hs⟩
theorem own_retVW {vm₁ : Vm} (X : Stand p l e R (s.setVm vm₁) m args below meth c T locs cells slots) (hx : p.tables.exec = Jvm.exec) {n : Nat} (hS : s.Since vm₁ n) (hk : n ≤ T.heap.size) (hlk : meth.locks = false) {pc : Nat} {Ls : Array Slot} (hret : meth.sig.returnType = none)
    (hd : decode c.code pc = .ok (.return_, 1)) {Q : Option Value → Heap → List Loc → Prop} (hQ : Q none T.heap locs) {C S : Nat} (hc : cells ≤ C) (hs : slots ≤ S) : own_Go p e below (own_FinW s C S Q) (T.setTop (mkF m pc Ls [])) := by
  obtain ⟨fs, hr, hrun, hended, hW⟩ := X.leaveW hS hk (v := none) (fun _ => rfl) hlk
  exact ⟨_, _, X.returnOut hx hret hd hr, hrun, hended, _, _, rfl, hQ, own_monoW hW hc hs⟩
def own_FinH (Z : State) (EL : List (String × Nat)) (s : State) (C S : Nat) (Q : Option Value → Heap → List Loc → Prop) (o : Outcome) (U' : State) : Prop := ∃ v L, o = .returned v ∧ Q v U'.heap L ∧ CHr Z EL s.vm s.heap U'.vm U'.heap ∧ ReturnedEndW s o U' L C S
theorem own_retH {Z : State} {EL : List (String × Nat)} {vm₁ : Vm} (X : Stand p l e R (s.setVm vm₁) m args below meth c T locs cells slots) (hx : p.tables.exec = Jvm.exec) {n : Nat} (hS : s.Since vm₁ n) (hk : n ≤ T.heap.size) (hC : CHr Z EL s.vm s.heap T.vm T.heap) (hlk : meth.locks = false) {pc : Nat} {Ls : Array Slot} {w : Value} {t : FieldType} {i : Instr} {rest : List Value} (hret : meth.sig.returnType = some t) (hn : narrow t w = w)
    (hi : (i = .ireturn ∧ (t = .int ∨ t = .boolean ∨ t = .byte ∨ t = .char ∨ t = .short) ∧ ∃ z, w = .int z) ∨ (i = .lreturn ∧ t = .long ∧ ∃ z, w = .long z) ∨ (i = .dreturn ∧ t = .double ∧ ∃ z, w = .double z) ∨ (i = .freturn ∧ t = .float ∧ ∃ z, w = .float z) ∨ (i = .areturn ∧ t.isReference = true ∧ w.isRef = true))
    (hd : decode c.code pc = .ok (i, 1)) {Q : Option Value → Heap → List Loc → Prop} (hQ : Q (some w) T.heap locs) {C S : Nat} (hc : cells ≤ C) (hs : slots ≤ S) : own_Go p e below (own_FinH Z EL s C S Q) (T.setTop (mkF m pc Ls (w :: rest))) := by
  obtain ⟨fs, hr, hrun, hended, hW⟩ := X.leaveW hS hk (v := some w) (fun h => by rw [hret] at h; cases h) hlk
  exact ⟨_, _, retOut X hx hret hn hi hd hr, hrun, hended, _, _, rfl, hQ, hC, own_monoW hW hc hs⟩
theorem own_retNH {Z : State} {EL : List (String × Nat)} {vm₁ : Vm} (X : Stand p l e R (s.setVm vm₁) m args below meth c T locs cells slots) (hx : p.tables.exec = Jvm.exec) {n : Nat} (hS : s.Since vm₁ n) (hk : n ≤ T.heap.size) (hC : CHr Z EL s.vm s.heap T.vm T.heap) (hlk : meth.locks = false) {pc : Nat} {Ls : Array Slot} {z : Int32} {t : FieldType} {rest : List Value} (hret : meth.sig.returnType = some t) (ht : t = .boolean ∨ t = .byte ∨ t = .char ∨ t = .short)
    (hd : decode c.code pc = .ok (.ireturn, 1)) {Q : Option Value → Heap → List Loc → Prop} (hQ : Q (some (.int (nar t z))) T.heap locs) {C S : Nat} (hc : cells ≤ C) (hs : slots ≤ S) : own_Go p e below (own_FinH Z EL s C S Q) (T.setTop (mkF m pc Ls (.int z :: rest))) := by
  obtain ⟨fs, hr, hrun, hended, hW⟩ := X.leaveW hS hk (v := some (.int (nar t z))) (fun h => by rw [hret] at h; cases h) hlk
  exact ⟨_, _, retN X hx hret ht hd hr, hrun, hended, _, _, rfl, hQ, hC, own_monoW hW hc hs⟩
theorem own_retVH {Z : State} {EL : List (String × Nat)} {vm₁ : Vm} (X : Stand p l e R (s.setVm vm₁) m args below meth c T locs cells slots) (hx : p.tables.exec = Jvm.exec) {n : Nat} (hS : s.Since vm₁ n) (hk : n ≤ T.heap.size) (hC : CHr Z EL s.vm s.heap T.vm T.heap) (hlk : meth.locks = false) {pc : Nat} {Ls : Array Slot} (hret : meth.sig.returnType = none)
    (hd : decode c.code pc = .ok (.return_, 1)) {Q : Option Value → Heap → List Loc → Prop} (hQ : Q none T.heap locs) {C S : Nat} (hc : cells ≤ C) (hs : slots ≤ S) : own_Go p e below (own_FinH Z EL s C S Q) (T.setTop (mkF m pc Ls [])) := by
  obtain ⟨fs, hr, hrun, hended, hW⟩ := X.leaveW hS hk (v := none) (fun _ => rfl) hlk
  exact ⟨_, _, X.returnOut hx hret hd hr, hrun, hended, _, _, rfl, hQ, hC, own_monoW hW hc hs⟩
theorem own_safe_null {Z : State} {EL : List (String × Nat)} {vm : Vm} {h : Heap} {x : Addr} (hal : Z.vm.Alike vm) (E : Exa Z h x "java/lang/String") (F : Fld Z h x "java/lang/String" "value" "[B" .null) : Safe Z EL vm h x := fun B => by
  obtain ⟨p, -, u, a, -, q, -, G, rfl | rfl⟩ := B
  · obtain ⟨cell, cf, k, i, f, f1, f2, -, -, -, -, f7⟩ := F
    cases (show h[q.sa]? = some q.sC from G.ha).symm.trans f1
    obtain ⟨cS, ⟨⟨-, -, -, ⟨cv, kv, iv, s4, -⟩, -, -, -, s8, -⟩, -⟩, -⟩ := G
    obtain ⟨k', hi, -⟩ := State.fieldFound?_setVm (s := Z) hal f2
    have s4' : (Z.setVm vm).fieldFound? "java/lang/String" "value" "[B" = some (cv, kv, iv, q.fSV) := s4
    cases hi.symm.trans s4'
    rw [f7] at s8
    cases s8
  · obtain ⟨cell, k, e1, e2, e3, -, -⟩ := E
    cases (show h[q.sd]? = some q.SA from G.hd).symm.trans e1
    obtain ⟨cS, -, -, f, -⟩ := G
    have f' : vm.findClass "[B" = some q.SA.cls := f
    rw [hal.findClass] at f'
    obtain ⟨k1, q1, q2⟩ := Vm.findClass_spec f'
    obtain ⟨k2, q3, q4⟩ := Vm.findClass_spec e2
    cases q1.symm.trans q3
    exact absurd (q2.symm.trans q4) (by decide)
def own_Met (l : Launch) (Z : State) (y : MethodName) (bytes : ByteArray) (maxL : Nat) (ret : Option FieldType) (ws : List Jvm.Cond) (rm : Room) (as : Array Value) (h0 : Heap) (Q : Option Value → Heap → List Loc → Prop) : Prop :=
  MetFree l y (head1 (Jvm.Cond.code y bytes maxL ret :: ws) rm) (fun a U => a = as ∧ Z.Warmed39 U.vm ∧ U.heap = h0) (fun _ _ _ _ _ => True) (fun _ U o U' => ∃ v L, o = .returned v ∧ Q v U'.heap L ∧ FrameEnd U o U' L rm.cells rm.slots)
def own_MetW (l : Launch) (Z : State) (y : MethodName) (bytes : ByteArray) (maxL : Nat) (ret : Option FieldType) (ws : List Jvm.Cond) (rm : Room) (as : Array Value) (h0 : Heap) (Q : Option Value → Heap → List Loc → Prop) : Prop :=
  MetFree l y (head1 (Jvm.Cond.code y bytes maxL ret :: ws) rm) (fun a U => a = as ∧ Z.Warmed39 U.vm ∧ U.heap = h0) (fun _ _ _ _ _ => True) (fun _ U o U' => ∃ v L, o = .returned v ∧ Q v U'.heap L ∧ ReturnedEndW U o U' L rm.cells rm.slots)
def own_MetH (l : Launch) (Z : State) (EL : List (String × Nat)) (y : MethodName) (bytes : ByteArray) (maxL : Nat) (ret : Option FieldType) (ws : List Jvm.Cond) (rm : Room) (as : Array Value) (h0 : Heap) (Q : Option Value → Heap → List Loc → Prop) : Prop :=
  MetFree l y (head1 (Jvm.Cond.code y bytes maxL ret :: ws) rm) (fun a U => a = as ∧ Z.Warmed39 U.vm ∧ U.heap = h0 ∧ CHv Z EL U.vm h0) (fun _ _ _ _ _ => True) (fun _ U o U' => ∃ v L, o = .returned v ∧ Q v U'.heap L ∧ CHr Z EL U.vm U.heap U'.vm U'.heap ∧ ReturnedEndW U o U' L rm.cells rm.slots)
theorem own_enter {Z : State} {y : MethodName} {bytes : ByteArray} {maxL : Nat} {ret : Option FieldType} {ws : List Jvm.Cond} {rm : Room} {as : Array Value} {h0 : Heap} {Q : Option Value → Heap → List Loc → Prop} {own : String} (hpl : plainFor y = true) (ho : y.cls = own)
    (H : ∀ (p : Program) (e : Env) (s : State) (m : MethodId) (below : List Frame) (meth : Method) (c : Code) (s₁ : State), meth.locks = false → meth.sig.returnType = ret → p.tables.exec = Jvm.exec → c.code = bytes → c.maxLocals = maxL → s.vm.findClass own = some m.cls → meth.name = y.name → Z.Warmed39 s.vm → Stand p l e rm s m as below meth c s₁ [] 0 0 → s₁.heap = h0 → own_Go p e below (own_Fin s rm.cells rm.slots Q) (s₁.setTop (entryFrame m as maxL))) :
    own_Met l Z y bytes maxL ret ws rm as h0 Q := by
  refine MetFree.of_bodySF hpl hisR ?_
  intro p e s m args below meth c s₁ Bd hml0 hP hK
  obtain ⟨rfl, hZ, hh⟩ := hP
  subst ho
  exact H p e s m below meth c s₁ Bd.notSynchronized Bd.returns Bd.exec Bd.bytes hml0 (findClass_of_methodNamed Bd.named) (name_of_methodNamed Bd.named Bd.method).1 hZ (Stand.of_body Bd) (by rw [← hh, Bd.state]; rfl)
theorem own_enterW {Z : State} {y : MethodName} {bytes : ByteArray} {maxL : Nat} {ret : Option FieldType} {ws : List Jvm.Cond} {rm : Room} {as : Array Value} {h0 : Heap} {Q : Option Value → Heap → List Loc → Prop} {own : String} (hpl : plainFor y = true) (ho : y.cls = own)
    (H : ∀ (p : Program) (e : Env) (s : State) (m : MethodId) (below : List Frame) (meth : Method) (c : Code) (s₁ : State), meth.locks = false → meth.sig.returnType = ret → p.tables.exec = Jvm.exec → c.code = bytes → c.maxLocals = maxL → s.vm.findClass own = some m.cls → meth.name = y.name → Z.Warmed39 s.vm → Stand p l e rm (s.setVm s.vm) m as below meth c s₁ [] 0 0 → s₁.heap = h0 → own_Go p e below (own_FinW s rm.cells rm.slots Q) (s₁.setTop (entryFrame m as maxL))) :
    own_MetW l Z y bytes maxL ret ws rm as h0 Q := by
  refine MetFree.of_bodySF hpl hisR ?_
  intro p e s m args below meth c s₁ Bd hml0 hP hK
  obtain ⟨rfl, hZ, hh⟩ := hP
  subst ho
  exact H p e s m below meth c s₁ Bd.notSynchronized Bd.returns Bd.exec Bd.bytes hml0 (findClass_of_methodNamed Bd.named) (name_of_methodNamed Bd.named Bd.method).1 hZ (Stand.of_body Bd) (by rw [← hh, Bd.state]; rfl)
theorem own_enterH {Z : State} {EL : List (String × Nat)} {y : MethodName} {bytes : ByteArray} {maxL : Nat} {ret : Option FieldType} {ws : List Jvm.Cond} {rm : Room} {as : Array Value} {h0 : Heap} {Q : Option Value → Heap → List Loc → Prop} {own : String} (hpl : plainFor y = true) (ho : y.cls = own)
    (H : ∀ (p : Program) (e : Env) (s : State) (m : MethodId) (below : List Frame) (meth : Method) (c : Code) (s₁ : State), meth.locks = false → meth.sig.returnType = ret → p.tables.exec = Jvm.exec → c.code = bytes → c.maxLocals = maxL → s.vm.findClass own = some m.cls → meth.name = y.name → Z.Warmed39 s.vm → s.heap = h0 → CHv Z EL s.vm h0 → Stand p l e rm (s.setVm s.vm) m as below meth c s₁ [] 0 0 → s₁.heap = h0 → own_Go p e below (own_FinH Z EL s rm.cells rm.slots Q) (s₁.setTop (entryFrame m as maxL))) :
    own_MetH l Z EL y bytes maxL ret ws rm as h0 Q := by
  refine MetFree.of_bodySF hpl hisR ?_
  intro p e s m args below meth c s₁ Bd hml0 hP hK
  obtain ⟨rfl, hZ, hh, hH⟩ := hP
  subst ho
  exact H p e s m below meth c s₁ Bd.notSynchronized Bd.returns Bd.exec Bd.bytes hml0 (findClass_of_methodNamed Bd.named) (name_of_methodNamed Bd.named Bd.method).1 hZ hh hH (Stand.of_body Bd) (by rw [← hh, Bd.state]; rfl)
end Own
end Jvm.RoadKit
namespace Jvm.Pilot.@@N@@
open Jvm Jvm.ClassFile Sem Op Lib Jvm.Free Jvm.Stand Jvm.LawKit Jvm.RoadKit Bundle Jvm.Pilot.@@N@@.Jvm.D
section Own
variable {t u : Term} {C n d : String} {a b : Addr} {z j : Int32} {args : Array Value} {s : State} {cl : Cell} {ty : FieldType}
theorem own_cmp_int (h : (Jvm.Cond.eq t (Term.int z)).value args s none s [] = some true) : t.eval args s none [] s = some (.int z) := by
  have e2 : (Term.int z).eval args s none [] s = some (.int z) := Term.int_eval z
  obtain ⟨u, w, f1, f2, k1, k2⟩ := cmp_v (Or.inl h)
  cases f2.symm.trans e2
  obtain ⟨q, rfl⟩ : ∃ q, u = .int q := k2
  have : (Jvm.Cond.eq t (Term.int z)).value args s none s [] = some (decide (q = z)) := by simp [Cond.value, f1, e2]
  rw [f1, gotT this h]
theorem own_fld (ht : t.eval args s none [] s = some (.ref a)) (h : (Jvm.Cond.eq (Term.field t C n d) (Term.int z)).value args s none s [] = some true) : Fld s s.heap a C n d (.int z) :=
  Fld.start ((fld_at ht).symm.trans (own_cmp_int h))
theorem own_fldR (ht : t.eval args s none [] s = some (.ref a)) (h : (Term.field t C n d).eval args s none [] s = some (.ref b)) : Fld s s.heap a C n d (.ref b) :=
  Fld.start ((fld_at ht).symm.trans h)
theorem own_len (ht : t.eval args s none [] s = some (.ref a)) (A : Arr s s.heap a cl ty) (h : (Jvm.Cond.eq (Term.length t) (Term.int z)).value args s none s [] = some true) : cl.slots.size < 2 ^ 31 ∧ cl.slots.size.toInt32 = z := by
  have e := own_cmp_int h
  have ha : s.arrayAt? a = some cl := A.fin (Vm.Alike.refl _)
  simp only [Term.eval, ht, ha, Option.bind_eq_bind, Option.bind_some] at e
  split at e
  · rename_i q
    cases e
    exact ⟨q, rfl⟩
  · cases e
theorem own_el (ht : t.eval args s none [] s = some (.ref a)) (A : Arr s s.heap a cl ty) (h : (Jvm.Cond.eq (Term.elem t (Term.int j)) (Term.int z)).value args s none s [] = some true) : cl.slots[j.toNatClampNeg]? = some (.int z) :=
  (elem_in (own_cmp_int h) ht (Term.int_eval j) A.1).2
theorem own_elR (hu : u.eval args s none [] s = some (.ref b)) (ht : t.eval args s none [] s = some (.ref a)) (A : Arr s s.heap a cl ty) (h : (Jvm.Cond.eq (Term.elem t (Term.int j)) u).value args s none s [] = some true) : cl.slots[j.toNatClampNeg]? = some (.ref b) := by
  obtain ⟨x, w, f1, f2, k1, k2⟩ := cmp_v (Or.inl h)
  cases f2.symm.trans hu
  have hx : x.isRef = true := k2.2
  have q := gotT (eq_R f1 hu hx rfl) h
  subst q
  exact (elem_in f1 ht (Term.int_eval j) A.1).2
end Own

def own_kind (k : Int32) (u0 u1 u2 u3 u4 u5 u6 u7 u8 u9 : Addr) : Addr := if k = 0 then u0 else if k = 1 then u1 else if k = 2 then u2 else if k = 3 then u3 else if k = 4 then u4 else if k = 5 then u5 else if k = 6 then u6 else if k = 7 then u7 else if k = 8 then u8 else u9
def own_takes (a u1 u2 u6 u7 u8 : Addr) : Int32 := if a = u1 then 1 else if a = u2 then 1 else if a = u6 then 1 else if a = u7 then 1 else if a = u8 then 1 else 0
theorem own_ten (x : Int32) : (x &&& 2147483647) % 10 = 0 ∨ (x &&& 2147483647) % 10 = 1 ∨ (x &&& 2147483647) % 10 = 2 ∨ (x &&& 2147483647) % 10 = 3 ∨ (x &&& 2147483647) % 10 = 4 ∨ (x &&& 2147483647) % 10 = 5 ∨ (x &&& 2147483647) % 10 = 6 ∨ (x &&& 2147483647) % 10 = 7 ∨ (x &&& 2147483647) % 10 = 8 ∨ (x &&& 2147483647) % 10 = 9 := by
  have h1 : (x &&& 2147483647).toInt = x.toInt % 2 ^ 31 := Jvm.Kit.i32_mask x 2147483647 (k := 31) (by decide) (by decide)
  have h2 : ((x &&& 2147483647) % 10).toInt = (x &&& 2147483647).toInt % (10 : Int32).toInt := Jvm.Kit.i32_rem_nonneg (by rw [h1]; omega)
  have h3 : (10 : Int32).toInt = 10 := rfl
  rw [h3] at h2
  generalize (x &&& 2147483647) % 10 = k at h2 ⊢
  have h4 : 0 ≤ k.toInt ∧ k.toInt ≤ 9 := by omega
  have h5 : k = Int32.ofInt k.toInt := (Int32.ofInt_toInt k).symm
  have h6 : k.toInt = 0 ∨ k.toInt = 1 ∨ k.toInt = 2 ∨ k.toInt = 3 ∨ k.toInt = 4 ∨ k.toInt = 5 ∨ k.toInt = 6 ∨ k.toInt = 7 ∨ k.toInt = 8 ∨ k.toInt = 9 := by omega
  rcases h6 with h | h | h | h | h | h | h | h | h | h <;> rw [h] at h5 <;> subst h5 <;> decide
def Q_kind (iv : Int32) (u0 u1 u2 u3 u4 u5 u6 u7 u8 u9 : Addr) (h0 : Heap) (n0 : Nat) (v : Option Value) (h : Heap) (L : List Loc) : Prop := v = some (.ref (own_kind iv u0 u1 u2 u3 u4 u5 u6 u7 u8 u9)) ∧ Fr n0 L ∧ h = h0
theorem ef_kind (m : MethodId) (iv : Int32) : entryFrame m #[(.int iv)] 1 = mkF m 0 #[.val (.int iv)] [] := by first | (simp [entryFrame, mkF, argsToLocals, Value.category]; done) | rfl
theorem pn_0 : plainName "com/example/compact_transform/compacttransform/xslt/KindTakesAQNamePinLaw" = true := by first | (simp [plainName, overriddenIn]; done) | decide +kernel
theorem d_2_0 : decode method_2_code 0 = .ok (.iload_n 0, 1) := by decide +kernel
theorem d_2_1 : decode method_2_code 1 = .ok (.ifCond .ne 7, 3) := by decide +kernel
theorem w_5 {Z : State} {a0 : Array Value} (hw : ∀ d ∈ tables_1, d.before a0 Z = true) : (Jvm.Cond.fieldLink "com/example/compact_transform/compacttransform/xslt/KindTakesAQNamePinLaw" (7 : Nat) "com/example/compact_transform/compacttransform/xslt/XsltFunction$Kind" "DOCUMENT" "Lcom/example/compact_transform/compacttransform/xslt/XsltFunction$Kind;").before a0 Z = true := hw _ (List.mem_of_getElem? (i := 5) rfl)
theorem d_2_4 : decode method_2_code 4 = .ok (.getstatic 7, 3) := by decide +kernel
theorem d_2_7 : decode method_2_code 7 = .ok (.areturn, 1) := by decide +kernel
theorem d_2_8 : decode method_2_code 8 = .ok (.iload_n 0, 1) := by decide +kernel
theorem d_2_9 : decode method_2_code 9 = .ok (.iconst 1, 1) := by decide +kernel
theorem d_2_10 : decode method_2_code 10 = .ok (.if_icmp .ne 7, 3) := by decide +kernel
theorem w_25 {Z : State} {a0 : Array Value} (hw : ∀ d ∈ tables_1, d.before a0 Z = true) : (Jvm.Cond.fieldLink "com/example/compact_transform/compacttransform/xslt/KindTakesAQNamePinLaw" (13 : Nat) "com/example/compact_transform/compacttransform/xslt/XsltFunction$Kind" "KEY" "Lcom/example/compact_transform/compacttransform/xslt/XsltFunction$Kind;").before a0 Z = true := hw _ (List.mem_of_getElem? (i := 25) rfl)
theorem d_2_13 : decode method_2_code 13 = .ok (.getstatic 13, 3) := by decide +kernel
theorem d_2_16 : decode method_2_code 16 = .ok (.areturn, 1) := by decide +kernel
theorem d_2_17 : decode method_2_code 17 = .ok (.iload_n 0, 1) := by decide +kernel
theorem d_2_18 : decode method_2_code 18 = .ok (.iconst 2, 1) := by decide +kernel
theorem d_2_19 : decode method_2_code 19 = .ok (.if_icmp .ne 7, 3) := by decide +kernel
theorem w_29 {Z : State} {a0 : Array Value} (hw : ∀ d ∈ tables_1, d.before a0 Z = true) : (Jvm.Cond.fieldLink "com/example/compact_transform/compacttransform/xslt/KindTakesAQNamePinLaw" (16 : Nat) "com/example/compact_transform/compacttransform/xslt/XsltFunction$Kind" "FORMAT_NUMBER" "Lcom/example/compact_transform/compacttransform/xslt/XsltFunction$Kind;").before a0 Z = true := hw _ (List.mem_of_getElem? (i := 29) rfl)
theorem d_2_22 : decode method_2_code 22 = .ok (.getstatic 16, 3) := by decide +kernel
theorem d_2_25 : decode method_2_code 25 = .ok (.areturn, 1) := by decide +kernel
theorem d_2_26 : decode method_2_code 26 = .ok (.iload_n 0, 1) := by decide +kernel
theorem d_2_27 : decode method_2_code 27 = .ok (.iconst 3, 1) := by decide +kernel
theorem d_2_28 : decode method_2_code 28 = .ok (.if_icmp .ne 7, 3) := by decide +kernel
theorem w_23 {Z : State} {a0 : Array Value} (hw : ∀ d ∈ tables_1, d.before a0 Z = true) : (Jvm.Cond.fieldLink "com/example/compact_transform/compacttransform/xslt/KindTakesAQNamePinLaw" (19 : Nat) "com/example/compact_transform/compacttransform/xslt/XsltFunction$Kind" "CURRENT" "Lcom/example/compact_transform/compacttransform/xslt/XsltFunction$Kind;").before a0 Z = true := hw _ (List.mem_of_getElem? (i := 23) rfl)
theorem d_2_31 : decode method_2_code 31 = .ok (.getstatic 19, 3) := by decide +kernel
theorem d_2_34 : decode method_2_code 34 = .ok (.areturn, 1) := by decide +kernel
theorem d_2_35 : decode method_2_code 35 = .ok (.iload_n 0, 1) := by decide +kernel
theorem d_2_36 : decode method_2_code 36 = .ok (.iconst 4, 1) := by decide +kernel
theorem d_2_37 : decode method_2_code 37 = .ok (.if_icmp .ne 7, 3) := by decide +kernel
theorem w_26 {Z : State} {a0 : Array Value} (hw : ∀ d ∈ tables_1, d.before a0 Z = true) : (Jvm.Cond.fieldLink "com/example/compact_transform/compacttransform/xslt/KindTakesAQNamePinLaw" (22 : Nat) "com/example/compact_transform/compacttransform/xslt/XsltFunction$Kind" "GENERATE_ID" "Lcom/example/compact_transform/compacttransform/xslt/XsltFunction$Kind;").before a0 Z = true := hw _ (List.mem_of_getElem? (i := 26) rfl)
theorem d_2_40 : decode method_2_code 40 = .ok (.getstatic 22, 3) := by decide +kernel
theorem d_2_43 : decode method_2_code 43 = .ok (.areturn, 1) := by decide +kernel
theorem d_2_44 : decode method_2_code 44 = .ok (.iload_n 0, 1) := by decide +kernel
theorem d_2_45 : decode method_2_code 45 = .ok (.iconst 5, 1) := by decide +kernel
theorem d_2_46 : decode method_2_code 46 = .ok (.if_icmp .ne 7, 3) := by decide +kernel
theorem w_33 {Z : State} {a0 : Array Value} (hw : ∀ d ∈ tables_1, d.before a0 Z = true) : (Jvm.Cond.fieldLink "com/example/compact_transform/compacttransform/xslt/KindTakesAQNamePinLaw" (25 : Nat) "com/example/compact_transform/compacttransform/xslt/XsltFunction$Kind" "UNPARSED_ENTITY_URI" "Lcom/example/compact_transform/compacttransform/xslt/XsltFunction$Kind;").before a0 Z = true := hw _ (List.mem_of_getElem? (i := 33) rfl)
theorem d_2_49 : decode method_2_code 49 = .ok (.getstatic 25, 3) := by decide +kernel
theorem d_2_52 : decode method_2_code 52 = .ok (.areturn, 1) := by decide +kernel
theorem d_2_53 : decode method_2_code 53 = .ok (.iload_n 0, 1) := by decide +kernel
theorem d_2_54 : decode method_2_code 54 = .ok (.bipush 6, 2) := by decide +kernel
theorem d_2_56 : decode method_2_code 56 = .ok (.if_icmp .ne 7, 3) := by decide +kernel
theorem w_35 {Z : State} {a0 : Array Value} (hw : ∀ d ∈ tables_1, d.before a0 Z = true) : (Jvm.Cond.fieldLink "com/example/compact_transform/compacttransform/xslt/KindTakesAQNamePinLaw" (28 : Nat) "com/example/compact_transform/compacttransform/xslt/XsltFunction$Kind" "ELEMENT_AVAILABLE" "Lcom/example/compact_transform/compacttransform/xslt/XsltFunction$Kind;").before a0 Z = true := hw _ (List.mem_of_getElem? (i := 35) rfl)
theorem d_2_59 : decode method_2_code 59 = .ok (.getstatic 28, 3) := by decide +kernel
theorem d_2_62 : decode method_2_code 62 = .ok (.areturn, 1) := by decide +kernel
theorem d_2_63 : decode method_2_code 63 = .ok (.iload_n 0, 1) := by decide +kernel
theorem d_2_64 : decode method_2_code 64 = .ok (.bipush 7, 2) := by decide +kernel
theorem d_2_66 : decode method_2_code 66 = .ok (.if_icmp .ne 7, 3) := by decide +kernel
theorem w_28 {Z : State} {a0 : Array Value} (hw : ∀ d ∈ tables_1, d.before a0 Z = true) : (Jvm.Cond.fieldLink "com/example/compact_transform/compacttransform/xslt/KindTakesAQNamePinLaw" (31 : Nat) "com/example/compact_transform/compacttransform/xslt/XsltFunction$Kind" "FUNCTION_AVAILABLE" "Lcom/example/compact_transform/compacttransform/xslt/XsltFunction$Kind;").before a0 Z = true := hw _ (List.mem_of_getElem? (i := 28) rfl)
theorem d_2_69 : decode method_2_code 69 = .ok (.getstatic 31, 3) := by decide +kernel
theorem d_2_72 : decode method_2_code 72 = .ok (.areturn, 1) := by decide +kernel
theorem d_2_73 : decode method_2_code 73 = .ok (.iload_n 0, 1) := by decide +kernel
theorem d_2_74 : decode method_2_code 74 = .ok (.bipush 8, 2) := by decide +kernel
theorem d_2_76 : decode method_2_code 76 = .ok (.if_icmp .ne 7, 3) := by decide +kernel
theorem w_30 {Z : State} {a0 : Array Value} (hw : ∀ d ∈ tables_1, d.before a0 Z = true) : (Jvm.Cond.fieldLink "com/example/compact_transform/compacttransform/xslt/KindTakesAQNamePinLaw" (34 : Nat) "com/example/compact_transform/compacttransform/xslt/XsltFunction$Kind" "SYSTEM_PROPERTY" "Lcom/example/compact_transform/compacttransform/xslt/XsltFunction$Kind;").before a0 Z = true := hw _ (List.mem_of_getElem? (i := 30) rfl)
theorem d_2_79 : decode method_2_code 79 = .ok (.getstatic 34, 3) := by decide +kernel
theorem d_2_82 : decode method_2_code 82 = .ok (.areturn, 1) := by decide +kernel
theorem w_31 {Z : State} {a0 : Array Value} (hw : ∀ d ∈ tables_1, d.before a0 Z = true) : (Jvm.Cond.fieldLink "com/example/compact_transform/compacttransform/xslt/KindTakesAQNamePinLaw" (37 : Nat) "com/example/compact_transform/compacttransform/xslt/XsltFunction$Kind" "NODE_SET" "Lcom/example/compact_transform/compacttransform/xslt/XsltFunction$Kind;").before a0 Z = true := hw _ (List.mem_of_getElem? (i := 31) rfl)
theorem d_2_83 : decode method_2_code 83 = .ok (.getstatic 37, 3) := by decide +kernel
theorem d_2_86 : decode method_2_code 86 = .ok (.areturn, 1) := by decide +kernel
set_option maxRecDepth 65536 in
set_option maxHeartbeats 40000000 in
theorem rm_kind (l : Launch) (Z : State) (a0 : Array Value) (hw : ∀ d ∈ tables_1, d.before a0 Z = true) (ws : List Jvm.Cond) (iv : Int32) (u0 u1 u2 u3 u4 u5 u6 u7 u8 u9 : Addr) (h0 : Heap) (n0 : Nat) (Z0 : n0 ≤ h0.size) (S0 : Sta Z h0 "com/example/compact_transform/compacttransform/xslt/XsltFunction$Kind" "DOCUMENT" "Lcom/example/compact_transform/compacttransform/xslt/XsltFunction$Kind;" (.ref u0)) (S1 : Sta Z h0 "com/example/compact_transform/compacttransform/xslt/XsltFunction$Kind" "KEY" "Lcom/example/compact_transform/compacttransform/xslt/XsltFunction$Kind;" (.ref u1)) (S2 : Sta Z h0 "com/example/compact_transform/compacttransform/xslt/XsltFunction$Kind" "FORMAT_NUMBER" "Lcom/example/compact_transform/compacttransform/xslt/XsltFunction$Kind;" (.ref u2)) (S3 : Sta Z h0 "com/example/compact_transform/compacttransform/xslt/XsltFunction$Kind" "CURRENT" "Lcom/example/compact_transform/compacttransform/xslt/XsltFunction$Kind;" (.ref u3)) (S4 : Sta Z h0 "com/example/compact_transform/compacttransform/xslt/XsltFunction$Kind" "GENERATE_ID" "Lcom/example/compact_transform/compacttransform/xslt/XsltFunction$Kind;" (.ref u4)) (S5 : Sta Z h0 "com/example/compact_transform/compacttransform/xslt/XsltFunction$Kind" "UNPARSED_ENTITY_URI" "Lcom/example/compact_transform/compacttransform/xslt/XsltFunction$Kind;" (.ref u5)) (S6 : Sta Z h0 "com/example/compact_transform/compacttransform/xslt/XsltFunction$Kind" "ELEMENT_AVAILABLE" "Lcom/example/compact_transform/compacttransform/xslt/XsltFunction$Kind;" (.ref u6)) (S7 : Sta Z h0 "com/example/compact_transform/compacttransform/xslt/XsltFunction$Kind" "FUNCTION_AVAILABLE" "Lcom/example/compact_transform/compacttransform/xslt/XsltFunction$Kind;" (.ref u7)) (S8 : Sta Z h0 "com/example/compact_transform/compacttransform/xslt/XsltFunction$Kind" "SYSTEM_PROPERTY" "Lcom/example/compact_transform/compacttransform/xslt/XsltFunction$Kind;" (.ref u8)) (S9 : Sta Z h0 "com/example/compact_transform/compacttransform/xslt/XsltFunction$Kind" "NODE_SET" "Lcom/example/compact_transform/compacttransform/xslt/XsltFunction$Kind;" (.ref u9)) :
    own_Met l Z (⟨"com/example/compact_transform/compacttransform/xslt/KindTakesAQNamePinLaw", "kindOf", "(I)Lcom/example/compact_transform/compacttransform/xslt/XsltFunction$Kind;"⟩ : MethodName) method_2_code 1 (some (.object "com/example/compact_transform/compacttransform/xslt/XsltFunction$Kind")) ws ({ frames := 0, cells := 0, slots := 0, locals := 0 } : Room) #[(.int iv)] h0 (Q_kind iv u0 u1 u2 u3 u4 u5 u6 u7 u8 u9 h0 n0) := by
  refine own_enter (own := "com/example/compact_transform/compacttransform/xslt/KindTakesAQNamePinLaw") (plainFor_of_name pn_0) rfl ?_
  intro p e s m below meth c s₁ hlk hret hx hby hml hown hnm hZ X0 e0
  have N0 := Fr.nil n0
  refine own_cast (ef_kind m iv) ?_
  show own_Go _ _ _ _ (s₁.setTop (mkF m 0 #[.val (.int iv)] []))
  refine own_go (fun t k => XS.iloadN X0.here hx rfl (hb hby d_2_0) rfl k) ?_
  by_cases hc101 : iv = (0 : Int32)
  · show own_Go _ _ _ _ (s₁.setTop (mkF m 1 #[.val (.int iv)] [(.int iv)]))
    refine own_go (fun t k => XS.ifNo X0.here hx rfl (hb hby d_2_1) rfl ((if0 _ _).trans (teq hc101).2) k) ?_
    show own_Go _ _ _ _ (s₁.setTop (mkF m 4 #[.val (.int iv)] []))
    obtain ⟨T102, X102, e102, st102⟩ := getS2 X0 hx hZ hown (host := "") (Or.inl (w_5 hw)) Via.refl e0 S0 (g := (mkF m 4 #[.val (.int iv)] [])) rfl (hb hby d_2_4)
    refine own_go st102 ?_
    show own_Go _ _ _ _ (T102.setTop (mkF m 7 #[.val (.int iv)] [(.ref u0)]))
    refine own_ret X102 hx hlk hret rfl (Or.inr (Or.inr (Or.inr (Or.inr ⟨rfl, rfl, rfl⟩)))) (hb hby d_2_7) ?_ (by decide) (by decide)
    rw [e102]
    exact ⟨by simp [own_kind, hc101], N0, rfl⟩
  · show own_Go _ _ _ _ (s₁.setTop (mkF m 1 #[.val (.int iv)] [(.int iv)]))
    refine own_go (fun t k => XS.ifYes X0.here hx rfl (pc0 := 1) (pc' := 8) rfl (hb hby d_2_1) rfl ((if0 _ _).trans (feq hc101).2) (by decide) (by decide) k) ?_
    show own_Go _ _ _ _ (s₁.setTop (mkF m 8 #[.val (.int iv)] []))
    refine own_go (fun t k => XS.iloadN X0.here hx rfl (hb hby d_2_8) rfl k) ?_
    show own_Go _ _ _ _ (s₁.setTop (mkF m 9 #[.val (.int iv)] [(.int iv)]))
    refine own_go (fun t k => XS.iconst X0.here hx rfl (hb hby d_2_9) k) ?_
    by_cases hc103 : iv = (1 : Int32)
    · show own_Go _ _ _ _ (s₁.setTop (mkF m 10 #[.val (.int iv)] [(.int (1 : Int32)), (.int iv)]))
      refine own_go (fun t k => XS.icmpNo X0.here hx rfl (hb hby d_2_10) rfl (teq hc103).2 k) ?_
      show own_Go _ _ _ _ (s₁.setTop (mkF m 13 #[.val (.int iv)] []))
      obtain ⟨T104, X104, e104, st104⟩ := getS2 X0 hx hZ hown (host := "") (Or.inl (w_25 hw)) Via.refl e0 S1 (g := (mkF m 13 #[.val (.int iv)] [])) rfl (hb hby d_2_13)
      refine own_go st104 ?_
      show own_Go _ _ _ _ (T104.setTop (mkF m 16 #[.val (.int iv)] [(.ref u1)]))
      refine own_ret X104 hx hlk hret rfl (Or.inr (Or.inr (Or.inr (Or.inr ⟨rfl, rfl, rfl⟩)))) (hb hby d_2_16) ?_ (by decide) (by decide)
      rw [e104]
      exact ⟨by simp [own_kind, hc101, hc103], N0, rfl⟩
    · show own_Go _ _ _ _ (s₁.setTop (mkF m 10 #[.val (.int iv)] [(.int (1 : Int32)), (.int iv)]))
      refine own_go (fun t k => XS.icmpYes X0.here hx rfl (pc0 := 10) (pc' := 17) rfl (hb hby d_2_10) rfl (feq hc103).2 (by decide) (by decide) k) ?_
      show own_Go _ _ _ _ (s₁.setTop (mkF m 17 #[.val (.int iv)] []))
      refine own_go (fun t k => XS.iloadN X0.here hx rfl (hb hby d_2_17) rfl k) ?_
      show own_Go _ _ _ _ (s₁.setTop (mkF m 18 #[.val (.int iv)] [(.int iv)]))
      refine own_go (fun t k => XS.iconst X0.here hx rfl (hb hby d_2_18) k) ?_
      by_cases hc105 : iv = (2 : Int32)
      · show own_Go _ _ _ _ (s₁.setTop (mkF m 19 #[.val (.int iv)] [(.int (2 : Int32)), (.int iv)]))
        refine own_go (fun t k => XS.icmpNo X0.here hx rfl (hb hby d_2_19) rfl (teq hc105).2 k) ?_
        show own_Go _ _ _ _ (s₁.setTop (mkF m 22 #[.val (.int iv)] []))
        obtain ⟨T106, X106, e106, st106⟩ := getS2 X0 hx hZ hown (host := "") (Or.inl (w_29 hw)) Via.refl e0 S2 (g := (mkF m 22 #[.val (.int iv)] [])) rfl (hb hby d_2_22)
        refine own_go st106 ?_
        show own_Go _ _ _ _ (T106.setTop (mkF m 25 #[.val (.int iv)] [(.ref u2)]))
        refine own_ret X106 hx hlk hret rfl (Or.inr (Or.inr (Or.inr (Or.inr ⟨rfl, rfl, rfl⟩)))) (hb hby d_2_25) ?_ (by decide) (by decide)
        rw [e106]
        exact ⟨by simp [own_kind, hc101, hc103, hc105], N0, rfl⟩
      · show own_Go _ _ _ _ (s₁.setTop (mkF m 19 #[.val (.int iv)] [(.int (2 : Int32)), (.int iv)]))
        refine own_go (fun t k => XS.icmpYes X0.here hx rfl (pc0 := 19) (pc' := 26) rfl (hb hby d_2_19) rfl (feq hc105).2 (by decide) (by decide) k) ?_
        show own_Go _ _ _ _ (s₁.setTop (mkF m 26 #[.val (.int iv)] []))
        refine own_go (fun t k => XS.iloadN X0.here hx rfl (hb hby d_2_26) rfl k) ?_
        show own_Go _ _ _ _ (s₁.setTop (mkF m 27 #[.val (.int iv)] [(.int iv)]))
        refine own_go (fun t k => XS.iconst X0.here hx rfl (hb hby d_2_27) k) ?_
        by_cases hc107 : iv = (3 : Int32)
        · show own_Go _ _ _ _ (s₁.setTop (mkF m 28 #[.val (.int iv)] [(.int (3 : Int32)), (.int iv)]))
          refine own_go (fun t k => XS.icmpNo X0.here hx rfl (hb hby d_2_28) rfl (teq hc107).2 k) ?_
          show own_Go _ _ _ _ (s₁.setTop (mkF m 31 #[.val (.int iv)] []))
          obtain ⟨T108, X108, e108, st108⟩ := getS2 X0 hx hZ hown (host := "") (Or.inl (w_23 hw)) Via.refl e0 S3 (g := (mkF m 31 #[.val (.int iv)] [])) rfl (hb hby d_2_31)
          refine own_go st108 ?_
          show own_Go _ _ _ _ (T108.setTop (mkF m 34 #[.val (.int iv)] [(.ref u3)]))
          refine own_ret X108 hx hlk hret rfl (Or.inr (Or.inr (Or.inr (Or.inr ⟨rfl, rfl, rfl⟩)))) (hb hby d_2_34) ?_ (by decide) (by decide)
          rw [e108]
          exact ⟨by simp [own_kind, hc101, hc103, hc105, hc107], N0, rfl⟩
        · show own_Go _ _ _ _ (s₁.setTop (mkF m 28 #[.val (.int iv)] [(.int (3 : Int32)), (.int iv)]))
          refine own_go (fun t k => XS.icmpYes X0.here hx rfl (pc0 := 28) (pc' := 35) rfl (hb hby d_2_28) rfl (feq hc107).2 (by decide) (by decide) k) ?_
          show own_Go _ _ _ _ (s₁.setTop (mkF m 35 #[.val (.int iv)] []))
          refine own_go (fun t k => XS.iloadN X0.here hx rfl (hb hby d_2_35) rfl k) ?_
          show own_Go _ _ _ _ (s₁.setTop (mkF m 36 #[.val (.int iv)] [(.int iv)]))
          refine own_go (fun t k => XS.iconst X0.here hx rfl (hb hby d_2_36) k) ?_
          by_cases hc109 : iv = (4 : Int32)
          · show own_Go _ _ _ _ (s₁.setTop (mkF m 37 #[.val (.int iv)] [(.int (4 : Int32)), (.int iv)]))
            refine own_go (fun t k => XS.icmpNo X0.here hx rfl (hb hby d_2_37) rfl (teq hc109).2 k) ?_
            show own_Go _ _ _ _ (s₁.setTop (mkF m 40 #[.val (.int iv)] []))
            obtain ⟨T110, X110, e110, st110⟩ := getS2 X0 hx hZ hown (host := "") (Or.inl (w_26 hw)) Via.refl e0 S4 (g := (mkF m 40 #[.val (.int iv)] [])) rfl (hb hby d_2_40)
            refine own_go st110 ?_
            show own_Go _ _ _ _ (T110.setTop (mkF m 43 #[.val (.int iv)] [(.ref u4)]))
            refine own_ret X110 hx hlk hret rfl (Or.inr (Or.inr (Or.inr (Or.inr ⟨rfl, rfl, rfl⟩)))) (hb hby d_2_43) ?_ (by decide) (by decide)
            rw [e110]
            exact ⟨by simp [own_kind, hc101, hc103, hc105, hc107, hc109], N0, rfl⟩
          · show own_Go _ _ _ _ (s₁.setTop (mkF m 37 #[.val (.int iv)] [(.int (4 : Int32)), (.int iv)]))
            refine own_go (fun t k => XS.icmpYes X0.here hx rfl (pc0 := 37) (pc' := 44) rfl (hb hby d_2_37) rfl (feq hc109).2 (by decide) (by decide) k) ?_
            show own_Go _ _ _ _ (s₁.setTop (mkF m 44 #[.val (.int iv)] []))
            refine own_go (fun t k => XS.iloadN X0.here hx rfl (hb hby d_2_44) rfl k) ?_
            show own_Go _ _ _ _ (s₁.setTop (mkF m 45 #[.val (.int iv)] [(.int iv)]))
            refine own_go (fun t k => XS.iconst X0.here hx rfl (hb hby d_2_45) k) ?_
            by_cases hc111 : iv = (5 : Int32)
            · show own_Go _ _ _ _ (s₁.setTop (mkF m 46 #[.val (.int iv)] [(.int (5 : Int32)), (.int iv)]))
              refine own_go (fun t k => XS.icmpNo X0.here hx rfl (hb hby d_2_46) rfl (teq hc111).2 k) ?_
              show own_Go _ _ _ _ (s₁.setTop (mkF m 49 #[.val (.int iv)] []))
              obtain ⟨T112, X112, e112, st112⟩ := getS2 X0 hx hZ hown (host := "") (Or.inl (w_33 hw)) Via.refl e0 S5 (g := (mkF m 49 #[.val (.int iv)] [])) rfl (hb hby d_2_49)
              refine own_go st112 ?_
              show own_Go _ _ _ _ (T112.setTop (mkF m 52 #[.val (.int iv)] [(.ref u5)]))
              refine own_ret X112 hx hlk hret rfl (Or.inr (Or.inr (Or.inr (Or.inr ⟨rfl, rfl, rfl⟩)))) (hb hby d_2_52) ?_ (by decide) (by decide)
              rw [e112]
              exact ⟨by simp [own_kind, hc101, hc103, hc105, hc107, hc109, hc111], N0, rfl⟩
            · show own_Go _ _ _ _ (s₁.setTop (mkF m 46 #[.val (.int iv)] [(.int (5 : Int32)), (.int iv)]))
              refine own_go (fun t k => XS.icmpYes X0.here hx rfl (pc0 := 46) (pc' := 53) rfl (hb hby d_2_46) rfl (feq hc111).2 (by decide) (by decide) k) ?_
              show own_Go _ _ _ _ (s₁.setTop (mkF m 53 #[.val (.int iv)] []))
              refine own_go (fun t k => XS.iloadN X0.here hx rfl (hb hby d_2_53) rfl k) ?_
              show own_Go _ _ _ _ (s₁.setTop (mkF m 54 #[.val (.int iv)] [(.int iv)]))
              refine own_go (fun t k => XS.bipush X0.here hx rfl (hb hby d_2_54) k) ?_
              by_cases hc113 : iv = (6 : Int32)
              · show own_Go _ _ _ _ (s₁.setTop (mkF m 56 #[.val (.int iv)] [(.int (6 : Int32)), (.int iv)]))
                refine own_go (fun t k => XS.icmpNo X0.here hx rfl (hb hby d_2_56) rfl (teq hc113).2 k) ?_
                show own_Go _ _ _ _ (s₁.setTop (mkF m 59 #[.val (.int iv)] []))
                obtain ⟨T114, X114, e114, st114⟩ := getS2 X0 hx hZ hown (host := "") (Or.inl (w_35 hw)) Via.refl e0 S6 (g := (mkF m 59 #[.val (.int iv)] [])) rfl (hb hby d_2_59)
                refine own_go st114 ?_
                show own_Go _ _ _ _ (T114.setTop (mkF m 62 #[.val (.int iv)] [(.ref u6)]))
                refine own_ret X114 hx hlk hret rfl (Or.inr (Or.inr (Or.inr (Or.inr ⟨rfl, rfl, rfl⟩)))) (hb hby d_2_62) ?_ (by decide) (by decide)
                rw [e114]
                exact ⟨by simp [own_kind, hc101, hc103, hc105, hc107, hc109, hc111, hc113], N0, rfl⟩
              · show own_Go _ _ _ _ (s₁.setTop (mkF m 56 #[.val (.int iv)] [(.int (6 : Int32)), (.int iv)]))
                refine own_go (fun t k => XS.icmpYes X0.here hx rfl (pc0 := 56) (pc' := 63) rfl (hb hby d_2_56) rfl (feq hc113).2 (by decide) (by decide) k) ?_
                show own_Go _ _ _ _ (s₁.setTop (mkF m 63 #[.val (.int iv)] []))
                refine own_go (fun t k => XS.iloadN X0.here hx rfl (hb hby d_2_63) rfl k) ?_
                show own_Go _ _ _ _ (s₁.setTop (mkF m 64 #[.val (.int iv)] [(.int iv)]))
                refine own_go (fun t k => XS.bipush X0.here hx rfl (hb hby d_2_64) k) ?_
                by_cases hc115 : iv = (7 : Int32)
                · show own_Go _ _ _ _ (s₁.setTop (mkF m 66 #[.val (.int iv)] [(.int (7 : Int32)), (.int iv)]))
                  refine own_go (fun t k => XS.icmpNo X0.here hx rfl (hb hby d_2_66) rfl (teq hc115).2 k) ?_
                  show own_Go _ _ _ _ (s₁.setTop (mkF m 69 #[.val (.int iv)] []))
                  obtain ⟨T116, X116, e116, st116⟩ := getS2 X0 hx hZ hown (host := "") (Or.inl (w_28 hw)) Via.refl e0 S7 (g := (mkF m 69 #[.val (.int iv)] [])) rfl (hb hby d_2_69)
                  refine own_go st116 ?_
                  show own_Go _ _ _ _ (T116.setTop (mkF m 72 #[.val (.int iv)] [(.ref u7)]))
                  refine own_ret X116 hx hlk hret rfl (Or.inr (Or.inr (Or.inr (Or.inr ⟨rfl, rfl, rfl⟩)))) (hb hby d_2_72) ?_ (by decide) (by decide)
                  rw [e116]
                  exact ⟨by simp [own_kind, hc101, hc103, hc105, hc107, hc109, hc111, hc113, hc115], N0, rfl⟩
                · show own_Go _ _ _ _ (s₁.setTop (mkF m 66 #[.val (.int iv)] [(.int (7 : Int32)), (.int iv)]))
                  refine own_go (fun t k => XS.icmpYes X0.here hx rfl (pc0 := 66) (pc' := 73) rfl (hb hby d_2_66) rfl (feq hc115).2 (by decide) (by decide) k) ?_
                  show own_Go _ _ _ _ (s₁.setTop (mkF m 73 #[.val (.int iv)] []))
                  refine own_go (fun t k => XS.iloadN X0.here hx rfl (hb hby d_2_73) rfl k) ?_
                  show own_Go _ _ _ _ (s₁.setTop (mkF m 74 #[.val (.int iv)] [(.int iv)]))
                  refine own_go (fun t k => XS.bipush X0.here hx rfl (hb hby d_2_74) k) ?_
                  by_cases hc117 : iv = (8 : Int32)
                  · show own_Go _ _ _ _ (s₁.setTop (mkF m 76 #[.val (.int iv)] [(.int (8 : Int32)), (.int iv)]))
                    refine own_go (fun t k => XS.icmpNo X0.here hx rfl (hb hby d_2_76) rfl (teq hc117).2 k) ?_
                    show own_Go _ _ _ _ (s₁.setTop (mkF m 79 #[.val (.int iv)] []))
                    obtain ⟨T118, X118, e118, st118⟩ := getS2 X0 hx hZ hown (host := "") (Or.inl (w_30 hw)) Via.refl e0 S8 (g := (mkF m 79 #[.val (.int iv)] [])) rfl (hb hby d_2_79)
                    refine own_go st118 ?_
                    show own_Go _ _ _ _ (T118.setTop (mkF m 82 #[.val (.int iv)] [(.ref u8)]))
                    refine own_ret X118 hx hlk hret rfl (Or.inr (Or.inr (Or.inr (Or.inr ⟨rfl, rfl, rfl⟩)))) (hb hby d_2_82) ?_ (by decide) (by decide)
                    rw [e118]
                    exact ⟨by simp [own_kind, hc101, hc103, hc105, hc107, hc109, hc111, hc113, hc115, hc117], N0, rfl⟩
                  · show own_Go _ _ _ _ (s₁.setTop (mkF m 76 #[.val (.int iv)] [(.int (8 : Int32)), (.int iv)]))
                    refine own_go (fun t k => XS.icmpYes X0.here hx rfl (pc0 := 76) (pc' := 83) rfl (hb hby d_2_76) rfl (feq hc117).2 (by decide) (by decide) k) ?_
                    show own_Go _ _ _ _ (s₁.setTop (mkF m 83 #[.val (.int iv)] []))
                    obtain ⟨T119, X119, e119, st119⟩ := getS2 X0 hx hZ hown (host := "") (Or.inl (w_31 hw)) Via.refl e0 S9 (g := (mkF m 83 #[.val (.int iv)] [])) rfl (hb hby d_2_83)
                    refine own_go st119 ?_
                    show own_Go _ _ _ _ (T119.setTop (mkF m 86 #[.val (.int iv)] [(.ref u9)]))
                    refine own_ret X119 hx hlk hret rfl (Or.inr (Or.inr (Or.inr (Or.inr ⟨rfl, rfl, rfl⟩)))) (hb hby d_2_86) ?_ (by decide) (by decide)
                    rw [e119]
                    exact ⟨by simp [own_kind, hc101, hc103, hc105, hc107, hc109, hc111, hc113, hc115, hc117], N0, rfl⟩
def Q_takes (a u1 u2 u6 u7 u8 : Addr) (h0 : Heap) (n0 : Nat) (v : Option Value) (h : Heap) (L : List Loc) : Prop := v = some (.int (own_takes a u1 u2 u6 u7 u8)) ∧ Fr n0 L ∧ h = h0
theorem ef_takes (m : MethodId) (a : Addr) : entryFrame m #[(.ref a)] 1 = mkF m 0 #[.val (.ref a)] [] := by first | (simp [entryFrame, mkF, argsToLocals, Value.category]; done) | rfl
theorem pn_1 : plainName "com/example/compact_transform/compacttransform/xslt/XsltFunction$Kind" = true := by first | (simp [plainName, overriddenIn]; done) | decide +kernel
theorem d_p274_5_0 : decode prog_274_method_5_code 0 = .ok (.aload_n 0, 1) := by decide +kernel
theorem w_13 {Z : State} {a0 : Array Value} (hw : ∀ d ∈ tables_1, d.before a0 Z = true) : (Jvm.Cond.fieldLink "com/example/compact_transform/compacttransform/xslt/XsltFunction$Kind" (7 : Nat) "com/example/compact_transform/compacttransform/xslt/XsltFunction$Kind" "KEY" "Lcom/example/compact_transform/compacttransform/xslt/XsltFunction$Kind;").before a0 Z = true := hw _ (List.mem_of_getElem? (i := 13) rfl)
theorem d_p274_5_1 : decode prog_274_method_5_code 1 = .ok (.getstatic 7, 3) := by decide +kernel
theorem d_p274_5_4 : decode prog_274_method_5_code 4 = .ok (.if_acmp .eq 31, 3) := by decide +kernel
theorem d_p274_5_35 : decode prog_274_method_5_code 35 = .ok (.iconst 1, 1) := by decide +kernel
theorem d_p274_5_36 : decode prog_274_method_5_code 36 = .ok (.goto 4, 3) := by decide +kernel
theorem d_p274_5_40 : decode prog_274_method_5_code 40 = .ok (.ireturn, 1) := by decide +kernel
theorem d_p274_5_7 : decode prog_274_method_5_code 7 = .ok (.aload_n 0, 1) := by decide +kernel
theorem w_15 {Z : State} {a0 : Array Value} (hw : ∀ d ∈ tables_1, d.before a0 Z = true) : (Jvm.Cond.fieldLink "com/example/compact_transform/compacttransform/xslt/XsltFunction$Kind" (10 : Nat) "com/example/compact_transform/compacttransform/xslt/XsltFunction$Kind" "FORMAT_NUMBER" "Lcom/example/compact_transform/compacttransform/xslt/XsltFunction$Kind;").before a0 Z = true := hw _ (List.mem_of_getElem? (i := 15) rfl)
theorem d_p274_5_8 : decode prog_274_method_5_code 8 = .ok (.getstatic 10, 3) := by decide +kernel
theorem d_p274_5_11 : decode prog_274_method_5_code 11 = .ok (.if_acmp .eq 24, 3) := by decide +kernel
theorem d_p274_5_14 : decode prog_274_method_5_code 14 = .ok (.aload_n 0, 1) := by decide +kernel
theorem w_17 {Z : State} {a0 : Array Value} (hw : ∀ d ∈ tables_1, d.before a0 Z = true) : (Jvm.Cond.fieldLink "com/example/compact_transform/compacttransform/xslt/XsltFunction$Kind" (22 : Nat) "com/example/compact_transform/compacttransform/xslt/XsltFunction$Kind" "ELEMENT_AVAILABLE" "Lcom/example/compact_transform/compacttransform/xslt/XsltFunction$Kind;").before a0 Z = true := hw _ (List.mem_of_getElem? (i := 17) rfl)
theorem d_p274_5_15 : decode prog_274_method_5_code 15 = .ok (.getstatic 22, 3) := by decide +kernel
theorem d_p274_5_18 : decode prog_274_method_5_code 18 = .ok (.if_acmp .eq 17, 3) := by decide +kernel
theorem d_p274_5_21 : decode prog_274_method_5_code 21 = .ok (.aload_n 0, 1) := by decide +kernel
theorem w_19 {Z : State} {a0 : Array Value} (hw : ∀ d ∈ tables_1, d.before a0 Z = true) : (Jvm.Cond.fieldLink "com/example/compact_transform/compacttransform/xslt/XsltFunction$Kind" (25 : Nat) "com/example/compact_transform/compacttransform/xslt/XsltFunction$Kind" "FUNCTION_AVAILABLE" "Lcom/example/compact_transform/compacttransform/xslt/XsltFunction$Kind;").before a0 Z = true := hw _ (List.mem_of_getElem? (i := 19) rfl)
theorem d_p274_5_22 : decode prog_274_method_5_code 22 = .ok (.getstatic 25, 3) := by decide +kernel
theorem d_p274_5_25 : decode prog_274_method_5_code 25 = .ok (.if_acmp .eq 10, 3) := by decide +kernel
theorem d_p274_5_28 : decode prog_274_method_5_code 28 = .ok (.aload_n 0, 1) := by decide +kernel
theorem w_21 {Z : State} {a0 : Array Value} (hw : ∀ d ∈ tables_1, d.before a0 Z = true) : (Jvm.Cond.fieldLink "com/example/compact_transform/compacttransform/xslt/XsltFunction$Kind" (28 : Nat) "com/example/compact_transform/compacttransform/xslt/XsltFunction$Kind" "SYSTEM_PROPERTY" "Lcom/example/compact_transform/compacttransform/xslt/XsltFunction$Kind;").before a0 Z = true := hw _ (List.mem_of_getElem? (i := 21) rfl)
theorem d_p274_5_29 : decode prog_274_method_5_code 29 = .ok (.getstatic 28, 3) := by decide +kernel
theorem d_p274_5_32 : decode prog_274_method_5_code 32 = .ok (.if_acmp .ne 7, 3) := by decide +kernel
theorem d_p274_5_39 : decode prog_274_method_5_code 39 = .ok (.iconst 0, 1) := by decide +kernel
set_option maxRecDepth 65536 in
set_option maxHeartbeats 40000000 in
theorem rm_takes (l : Launch) (Z : State) (a0 : Array Value) (hw : ∀ d ∈ tables_1, d.before a0 Z = true) (ws : List Jvm.Cond) (a u1 u2 u6 u7 u8 : Addr) (h0 : Heap) (n0 : Nat) (Z0 : n0 ≤ h0.size) (S1 : Sta Z h0 "com/example/compact_transform/compacttransform/xslt/XsltFunction$Kind" "KEY" "Lcom/example/compact_transform/compacttransform/xslt/XsltFunction$Kind;" (.ref u1)) (S2 : Sta Z h0 "com/example/compact_transform/compacttransform/xslt/XsltFunction$Kind" "FORMAT_NUMBER" "Lcom/example/compact_transform/compacttransform/xslt/XsltFunction$Kind;" (.ref u2)) (S6 : Sta Z h0 "com/example/compact_transform/compacttransform/xslt/XsltFunction$Kind" "ELEMENT_AVAILABLE" "Lcom/example/compact_transform/compacttransform/xslt/XsltFunction$Kind;" (.ref u6)) (S7 : Sta Z h0 "com/example/compact_transform/compacttransform/xslt/XsltFunction$Kind" "FUNCTION_AVAILABLE" "Lcom/example/compact_transform/compacttransform/xslt/XsltFunction$Kind;" (.ref u7)) (S8 : Sta Z h0 "com/example/compact_transform/compacttransform/xslt/XsltFunction$Kind" "SYSTEM_PROPERTY" "Lcom/example/compact_transform/compacttransform/xslt/XsltFunction$Kind;" (.ref u8)) :
    own_Met l Z (⟨"com/example/compact_transform/compacttransform/xslt/XsltFunction$Kind", "takesAQName", "()Z"⟩ : MethodName) prog_274_method_5_code 1 (some .boolean) ws ({ frames := 0, cells := 0, slots := 0, locals := 0 } : Room) #[(.ref a)] h0 (Q_takes a u1 u2 u6 u7 u8 h0 n0) := by
  refine own_enter (own := "com/example/compact_transform/compacttransform/xslt/XsltFunction$Kind") (plainFor_of_name pn_1) rfl ?_
  intro p e s m below meth c s₁ hlk hret hx hby hml hown hnm hZ X0 e0
  have N0 := Fr.nil n0
  refine own_cast (ef_takes m a) ?_
  show own_Go _ _ _ _ (s₁.setTop (mkF m 0 #[.val (.ref a)] []))
  refine own_go (fun t k => XS.aloadN X0.here hx rfl (hb hby d_p274_5_0) rfl rfl k) ?_
  show own_Go _ _ _ _ (s₁.setTop (mkF m 1 #[.val (.ref a)] [(.ref a)]))
  obtain ⟨T120, X120, e120, st120⟩ := getS2 X0 hx hZ hown (host := "") (Or.inl (w_13 hw)) Via.refl e0 S1 (g := (mkF m 1 #[.val (.ref a)] [(.ref a)])) rfl (hb hby d_p274_5_1)
  refine own_go st120 ?_
  by_cases ha121 : a = u1
  · show own_Go _ _ _ _ (T120.setTop (mkF m 4 #[.val (.ref a)] [(.ref u1), (.ref a)]))
    refine own_go (fun t k => Jvm.RoadKit.acmp (g := (mkF m 4 #[.val (.ref a)] [(.ref u1), (.ref a)])) X120 hx rfl rfl rfl (pc0 := 4) (pc' := 35) (same := true) rfl (hb hby d_p274_5_4) rfl (decide_eq_true (congrArg Value.ref ha121)) (by decide) (by decide) k) ?_
    show own_Go _ _ _ _ (T120.setTop (mkF m 35 #[.val (.ref a)] []))
    refine own_go (fun t k => XS.iconst X120.here hx rfl (hb hby d_p274_5_35) k) ?_
    show own_Go _ _ _ _ (T120.setTop (mkF m 36 #[.val (.ref a)] [(.int (1 : Int32))]))
    refine own_go (fun t k => XS.goto X120.here hx rfl (pc0 := 36) (pc' := 40) rfl (hb hby d_p274_5_36) (by decide) (by decide) k) ?_
    show own_Go _ _ _ _ (T120.setTop (mkF m 40 #[.val (.ref a)] [(.int (1 : Int32))]))
    refine own_retN X120 hx hlk (t := .boolean) hret (by simp) (hb hby d_p274_5_40) ?_ (by decide) (by decide)
    rw [e120]
    exact ⟨by simp [own_takes, nar, ha121], N0, rfl⟩
  · show own_Go _ _ _ _ (T120.setTop (mkF m 4 #[.val (.ref a)] [(.ref u1), (.ref a)]))
    refine own_go (fun t k => Jvm.RoadKit.acmp (g := (mkF m 4 #[.val (.ref a)] [(.ref u1), (.ref a)])) X120 hx rfl rfl rfl (pc0 := 4) (pc' := 7) (same := false) rfl (hb hby d_p274_5_4) rfl (decide_eq_false fun q => ha121 (Value.ref.inj q)) (by decide) (by decide) k) ?_
    show own_Go _ _ _ _ (T120.setTop (mkF m 7 #[.val (.ref a)] []))
    refine own_go (fun t k => XS.aloadN X120.here hx rfl (hb hby d_p274_5_7) rfl rfl k) ?_
    show own_Go _ _ _ _ (T120.setTop (mkF m 8 #[.val (.ref a)] [(.ref a)]))
    obtain ⟨T122, X122, e122, st122⟩ := getS2 X120 hx hZ hown (host := "") (Or.inl (w_15 hw)) Via.refl e120 S2 (g := (mkF m 8 #[.val (.ref a)] [(.ref a)])) rfl (hb hby d_p274_5_8)
    refine own_go st122 ?_
    by_cases ha123 : a = u2
    · show own_Go _ _ _ _ (T122.setTop (mkF m 11 #[.val (.ref a)] [(.ref u2), (.ref a)]))
      refine own_go (fun t k => Jvm.RoadKit.acmp (g := (mkF m 11 #[.val (.ref a)] [(.ref u2), (.ref a)])) X122 hx rfl rfl rfl (pc0 := 11) (pc' := 35) (same := true) rfl (hb hby d_p274_5_11) rfl (decide_eq_true (congrArg Value.ref ha123)) (by decide) (by decide) k) ?_
      show own_Go _ _ _ _ (T122.setTop (mkF m 35 #[.val (.ref a)] []))
      refine own_go (fun t k => XS.iconst X122.here hx rfl (hb hby d_p274_5_35) k) ?_
      show own_Go _ _ _ _ (T122.setTop (mkF m 36 #[.val (.ref a)] [(.int (1 : Int32))]))
      refine own_go (fun t k => XS.goto X122.here hx rfl (pc0 := 36) (pc' := 40) rfl (hb hby d_p274_5_36) (by decide) (by decide) k) ?_
      show own_Go _ _ _ _ (T122.setTop (mkF m 40 #[.val (.ref a)] [(.int (1 : Int32))]))
      refine own_retN X122 hx hlk (t := .boolean) hret (by simp) (hb hby d_p274_5_40) ?_ (by decide) (by decide)
      rw [e122]
      exact ⟨by simp [own_takes, nar, ha121, ha123], N0, rfl⟩
    · show own_Go _ _ _ _ (T122.setTop (mkF m 11 #[.val (.ref a)] [(.ref u2), (.ref a)]))
      refine own_go (fun t k => Jvm.RoadKit.acmp (g := (mkF m 11 #[.val (.ref a)] [(.ref u2), (.ref a)])) X122 hx rfl rfl rfl (pc0 := 11) (pc' := 14) (same := false) rfl (hb hby d_p274_5_11) rfl (decide_eq_false fun q => ha123 (Value.ref.inj q)) (by decide) (by decide) k) ?_
      show own_Go _ _ _ _ (T122.setTop (mkF m 14 #[.val (.ref a)] []))
      refine own_go (fun t k => XS.aloadN X122.here hx rfl (hb hby d_p274_5_14) rfl rfl k) ?_
      show own_Go _ _ _ _ (T122.setTop (mkF m 15 #[.val (.ref a)] [(.ref a)]))
      obtain ⟨T124, X124, e124, st124⟩ := getS2 X122 hx hZ hown (host := "") (Or.inl (w_17 hw)) Via.refl e122 S6 (g := (mkF m 15 #[.val (.ref a)] [(.ref a)])) rfl (hb hby d_p274_5_15)
      refine own_go st124 ?_
      by_cases ha125 : a = u6
      · show own_Go _ _ _ _ (T124.setTop (mkF m 18 #[.val (.ref a)] [(.ref u6), (.ref a)]))
        refine own_go (fun t k => Jvm.RoadKit.acmp (g := (mkF m 18 #[.val (.ref a)] [(.ref u6), (.ref a)])) X124 hx rfl rfl rfl (pc0 := 18) (pc' := 35) (same := true) rfl (hb hby d_p274_5_18) rfl (decide_eq_true (congrArg Value.ref ha125)) (by decide) (by decide) k) ?_
        show own_Go _ _ _ _ (T124.setTop (mkF m 35 #[.val (.ref a)] []))
        refine own_go (fun t k => XS.iconst X124.here hx rfl (hb hby d_p274_5_35) k) ?_
        show own_Go _ _ _ _ (T124.setTop (mkF m 36 #[.val (.ref a)] [(.int (1 : Int32))]))
        refine own_go (fun t k => XS.goto X124.here hx rfl (pc0 := 36) (pc' := 40) rfl (hb hby d_p274_5_36) (by decide) (by decide) k) ?_
        show own_Go _ _ _ _ (T124.setTop (mkF m 40 #[.val (.ref a)] [(.int (1 : Int32))]))
        refine own_retN X124 hx hlk (t := .boolean) hret (by simp) (hb hby d_p274_5_40) ?_ (by decide) (by decide)
        rw [e124]
        exact ⟨by simp [own_takes, nar, ha121, ha123, ha125], N0, rfl⟩
      · show own_Go _ _ _ _ (T124.setTop (mkF m 18 #[.val (.ref a)] [(.ref u6), (.ref a)]))
        refine own_go (fun t k => Jvm.RoadKit.acmp (g := (mkF m 18 #[.val (.ref a)] [(.ref u6), (.ref a)])) X124 hx rfl rfl rfl (pc0 := 18) (pc' := 21) (same := false) rfl (hb hby d_p274_5_18) rfl (decide_eq_false fun q => ha125 (Value.ref.inj q)) (by decide) (by decide) k) ?_
        show own_Go _ _ _ _ (T124.setTop (mkF m 21 #[.val (.ref a)] []))
        refine own_go (fun t k => XS.aloadN X124.here hx rfl (hb hby d_p274_5_21) rfl rfl k) ?_
        show own_Go _ _ _ _ (T124.setTop (mkF m 22 #[.val (.ref a)] [(.ref a)]))
        obtain ⟨T126, X126, e126, st126⟩ := getS2 X124 hx hZ hown (host := "") (Or.inl (w_19 hw)) Via.refl e124 S7 (g := (mkF m 22 #[.val (.ref a)] [(.ref a)])) rfl (hb hby d_p274_5_22)
        refine own_go st126 ?_
        by_cases ha127 : a = u7
        · show own_Go _ _ _ _ (T126.setTop (mkF m 25 #[.val (.ref a)] [(.ref u7), (.ref a)]))
          refine own_go (fun t k => Jvm.RoadKit.acmp (g := (mkF m 25 #[.val (.ref a)] [(.ref u7), (.ref a)])) X126 hx rfl rfl rfl (pc0 := 25) (pc' := 35) (same := true) rfl (hb hby d_p274_5_25) rfl (decide_eq_true (congrArg Value.ref ha127)) (by decide) (by decide) k) ?_
          show own_Go _ _ _ _ (T126.setTop (mkF m 35 #[.val (.ref a)] []))
          refine own_go (fun t k => XS.iconst X126.here hx rfl (hb hby d_p274_5_35) k) ?_
          show own_Go _ _ _ _ (T126.setTop (mkF m 36 #[.val (.ref a)] [(.int (1 : Int32))]))
          refine own_go (fun t k => XS.goto X126.here hx rfl (pc0 := 36) (pc' := 40) rfl (hb hby d_p274_5_36) (by decide) (by decide) k) ?_
          show own_Go _ _ _ _ (T126.setTop (mkF m 40 #[.val (.ref a)] [(.int (1 : Int32))]))
          refine own_retN X126 hx hlk (t := .boolean) hret (by simp) (hb hby d_p274_5_40) ?_ (by decide) (by decide)
          rw [e126]
          exact ⟨by simp [own_takes, nar, ha121, ha123, ha125, ha127], N0, rfl⟩
        · show own_Go _ _ _ _ (T126.setTop (mkF m 25 #[.val (.ref a)] [(.ref u7), (.ref a)]))
          refine own_go (fun t k => Jvm.RoadKit.acmp (g := (mkF m 25 #[.val (.ref a)] [(.ref u7), (.ref a)])) X126 hx rfl rfl rfl (pc0 := 25) (pc' := 28) (same := false) rfl (hb hby d_p274_5_25) rfl (decide_eq_false fun q => ha127 (Value.ref.inj q)) (by decide) (by decide) k) ?_
          show own_Go _ _ _ _ (T126.setTop (mkF m 28 #[.val (.ref a)] []))
          refine own_go (fun t k => XS.aloadN X126.here hx rfl (hb hby d_p274_5_28) rfl rfl k) ?_
          show own_Go _ _ _ _ (T126.setTop (mkF m 29 #[.val (.ref a)] [(.ref a)]))
          obtain ⟨T128, X128, e128, st128⟩ := getS2 X126 hx hZ hown (host := "") (Or.inl (w_21 hw)) Via.refl e126 S8 (g := (mkF m 29 #[.val (.ref a)] [(.ref a)])) rfl (hb hby d_p274_5_29)
          refine own_go st128 ?_
          by_cases ha129 : a = u8
          · show own_Go _ _ _ _ (T128.setTop (mkF m 32 #[.val (.ref a)] [(.ref u8), (.ref a)]))
            refine own_go (fun t k => Jvm.RoadKit.acmp (g := (mkF m 32 #[.val (.ref a)] [(.ref u8), (.ref a)])) X128 hx rfl rfl rfl (pc0 := 32) (pc' := 35) (same := true) rfl (hb hby d_p274_5_32) rfl (decide_eq_true (congrArg Value.ref ha129)) (by decide) (by decide) k) ?_
            show own_Go _ _ _ _ (T128.setTop (mkF m 35 #[.val (.ref a)] []))
            refine own_go (fun t k => XS.iconst X128.here hx rfl (hb hby d_p274_5_35) k) ?_
            show own_Go _ _ _ _ (T128.setTop (mkF m 36 #[.val (.ref a)] [(.int (1 : Int32))]))
            refine own_go (fun t k => XS.goto X128.here hx rfl (pc0 := 36) (pc' := 40) rfl (hb hby d_p274_5_36) (by decide) (by decide) k) ?_
            show own_Go _ _ _ _ (T128.setTop (mkF m 40 #[.val (.ref a)] [(.int (1 : Int32))]))
            refine own_retN X128 hx hlk (t := .boolean) hret (by simp) (hb hby d_p274_5_40) ?_ (by decide) (by decide)
            rw [e128]
            exact ⟨by simp [own_takes, nar, ha121, ha123, ha125, ha127, ha129], N0, rfl⟩
          · show own_Go _ _ _ _ (T128.setTop (mkF m 32 #[.val (.ref a)] [(.ref u8), (.ref a)]))
            refine own_go (fun t k => Jvm.RoadKit.acmp (g := (mkF m 32 #[.val (.ref a)] [(.ref u8), (.ref a)])) X128 hx rfl rfl rfl (pc0 := 32) (pc' := 39) (same := false) rfl (hb hby d_p274_5_32) rfl (decide_eq_false fun q => ha129 (Value.ref.inj q)) (by decide) (by decide) k) ?_
            show own_Go _ _ _ _ (T128.setTop (mkF m 39 #[.val (.ref a)] []))
            refine own_go (fun t k => XS.iconst X128.here hx rfl (hb hby d_p274_5_39) k) ?_
            show own_Go _ _ _ _ (T128.setTop (mkF m 40 #[.val (.ref a)] [(.int (0 : Int32))]))
            refine own_retN X128 hx hlk (t := .boolean) hret (by simp) (hb hby d_p274_5_40) ?_ (by decide) (by decide)
            rw [e128]
            exact ⟨by simp [own_takes, nar, ha121, ha123, ha125, ha127, ha129], N0, rfl⟩
def Q_law (n0 : Nat) (v : Option Value) (h : Heap) (L : List Loc) : Prop := v = some (.int 1) ∧ Fr n0 L
theorem ef_law (m : MethodId) (iv : Int32) : entryFrame m #[(.int iv)] maxLocals = mkF m 0 #[.val (.int iv), .unset, .unset, .unset] [] := by first | (simp [entryFrame, mkF, argsToLocals, Value.category, maxLocals]; done) | rfl
theorem w_0 {Z : State} {a0 : Array Value} (hw : ∀ d ∈ tables_1, d.before a0 Z = true) : (Jvm.Cond.constant "com/example/compact_transform/compacttransform/xslt/KindTakesAQNamePinLaw" (40 : Nat) (2147483647 : Int32)).before a0 Z = true := hw _ (List.mem_of_getElem? (i := 0) rfl)
theorem w_1 {Z : State} {a0 : Array Value} (hw : ∀ d ∈ tables_1, d.before a0 Z = true) : (Jvm.Cond.methodLink "com/example/compact_transform/compacttransform/xslt/KindTakesAQNamePinLaw" (41 : Nat) ({ cls := "com/example/compact_transform/compacttransform/xslt/KindTakesAQNamePinLaw", name := "kindOf", desc := "(I)Lcom/example/compact_transform/compacttransform/xslt/XsltFunction$Kind;" } : Jvm.MethodName)).before a0 Z = true := hw _ (List.mem_of_getElem? (i := 1) rfl)
theorem w_4 {Z : State} {a0 : Array Value} (hw : ∀ d ∈ tables_1, d.before a0 Z = true) : (Jvm.Cond.code ({ cls := "com/example/compact_transform/compacttransform/xslt/KindTakesAQNamePinLaw", name := "kindOf", desc := "(I)Lcom/example/compact_transform/compacttransform/xslt/XsltFunction$Kind;" } : Jvm.MethodName) method_2_code (1 : Nat) (Option.some (Jvm.ClassFile.FieldType.object "com/example/compact_transform/compacttransform/xslt/XsltFunction$Kind"))).before a0 Z = true := hw _ (List.mem_of_getElem? (i := 4) rfl)
theorem w_3 {Z : State} {a0 : Array Value} (hw : ∀ d ∈ tables_1, d.before a0 Z = true) : (Jvm.Cond.initialized "com/example/compact_transform/compacttransform/xslt/KindTakesAQNamePinLaw").before a0 Z = true := hw _ (List.mem_of_getElem? (i := 3) rfl)
theorem pd_0 : parseMethodDescriptor "(I)Lcom/example/compact_transform/compacttransform/xslt/XsltFunction$Kind;" = some ⟨[.int], some (.object "com/example/compact_transform/compacttransform/xslt/XsltFunction$Kind")⟩ := by decide +kernel
theorem w_2 {Z : State} {a0 : Array Value} (hw : ∀ d ∈ tables_1, d.before a0 Z = true) : (Jvm.Cond.static ({ cls := "com/example/compact_transform/compacttransform/xslt/KindTakesAQNamePinLaw", name := "kindOf", desc := "(I)Lcom/example/compact_transform/compacttransform/xslt/XsltFunction$Kind;" } : Jvm.MethodName)).before a0 Z = true := hw _ (List.mem_of_getElem? (i := 2) rfl)
theorem w_8 {Z : State} {a0 : Array Value} (hw : ∀ d ∈ tables_1, d.before a0 Z = true) : (Jvm.Cond.methodLink "com/example/compact_transform/compacttransform/xslt/KindTakesAQNamePinLaw" (47 : Nat) ({ cls := "com/example/compact_transform/compacttransform/xslt/XsltFunction$Kind", name := "takesAQName", desc := "()Z" } : Jvm.MethodName)).before a0 Z = true := hw _ (List.mem_of_getElem? (i := 8) rfl)
theorem w_12 {Z : State} {a0 : Array Value} (hw : ∀ d ∈ tables_1, d.before a0 Z = true) : (Jvm.Cond.code ({ cls := "com/example/compact_transform/compacttransform/xslt/XsltFunction$Kind", name := "takesAQName", desc := "()Z" } : Jvm.MethodName) prog_274_method_5_code (1 : Nat) (Option.some Jvm.ClassFile.FieldType.boolean)).before a0 Z = true := hw _ (List.mem_of_getElem? (i := 12) rfl)
theorem w_6 {Z : State} {a0 : Array Value} (hw : ∀ d ∈ tables_1, d.before a0 Z = true) : (Jvm.Cond.initialized "com/example/compact_transform/compacttransform/xslt/XsltFunction$Kind").before a0 Z = true := hw _ (List.mem_of_getElem? (i := 6) rfl)
theorem pd_1 : parseMethodDescriptor "()Z" = some ⟨[], some .boolean⟩ := by decide +kernel
theorem w_11 {Z : State} {a0 : Array Value} (hw : ∀ d ∈ tables_1, d.before a0 Z = true) : (Jvm.Cond.selects "com/example/compact_transform/compacttransform/xslt/XsltFunction$Kind" ({ cls := "com/example/compact_transform/compacttransform/xslt/XsltFunction$Kind", name := "takesAQName", desc := "()Z" } : Jvm.MethodName) ({ cls := "com/example/compact_transform/compacttransform/xslt/XsltFunction$Kind", name := "takesAQName", desc := "()Z" } : Jvm.MethodName)).before a0 Z = true := hw _ (List.mem_of_getElem? (i := 11) rfl)
theorem w_9 {Z : State} {a0 : Array Value} (hw : ∀ d ∈ tables_1, d.before a0 Z = true) : (Jvm.Cond.declares ({ cls := "com/example/compact_transform/compacttransform/xslt/XsltFunction$Kind", name := "takesAQName", desc := "()Z" } : Jvm.MethodName)).before a0 Z = true := hw _ (List.mem_of_getElem? (i := 9) rfl)
theorem w_10 {Z : State} {a0 : Array Value} (hw : ∀ d ∈ tables_1, d.before a0 Z = true) : (Jvm.Cond.instanceMethod ({ cls := "com/example/compact_transform/compacttransform/xslt/XsltFunction$Kind", name := "takesAQName", desc := "()Z" } : Jvm.MethodName)).before a0 Z = true := hw _ (List.mem_of_getElem? (i := 10) rfl)
set_option maxRecDepth 65536 in
set_option maxHeartbeats 40000000 in
theorem rm_law (l : Launch) (Z : State) (a0 : Array Value) (hw : ∀ d ∈ tables_1, d.before a0 Z = true) (ws : List Jvm.Cond) (iv : Int32) (u0 u1 u2 u3 u4 u5 u6 u7 u8 u9 : Addr) (h0 : Heap) (n0 : Nat) (Z0 : n0 ≤ h0.size) (S0 : Sta Z h0 "com/example/compact_transform/compacttransform/xslt/XsltFunction$Kind" "DOCUMENT" "Lcom/example/compact_transform/compacttransform/xslt/XsltFunction$Kind;" (.ref u0)) (S1 : Sta Z h0 "com/example/compact_transform/compacttransform/xslt/XsltFunction$Kind" "KEY" "Lcom/example/compact_transform/compacttransform/xslt/XsltFunction$Kind;" (.ref u1)) (S2 : Sta Z h0 "com/example/compact_transform/compacttransform/xslt/XsltFunction$Kind" "FORMAT_NUMBER" "Lcom/example/compact_transform/compacttransform/xslt/XsltFunction$Kind;" (.ref u2)) (S3 : Sta Z h0 "com/example/compact_transform/compacttransform/xslt/XsltFunction$Kind" "CURRENT" "Lcom/example/compact_transform/compacttransform/xslt/XsltFunction$Kind;" (.ref u3)) (S4 : Sta Z h0 "com/example/compact_transform/compacttransform/xslt/XsltFunction$Kind" "GENERATE_ID" "Lcom/example/compact_transform/compacttransform/xslt/XsltFunction$Kind;" (.ref u4)) (S5 : Sta Z h0 "com/example/compact_transform/compacttransform/xslt/XsltFunction$Kind" "UNPARSED_ENTITY_URI" "Lcom/example/compact_transform/compacttransform/xslt/XsltFunction$Kind;" (.ref u5)) (S6 : Sta Z h0 "com/example/compact_transform/compacttransform/xslt/XsltFunction$Kind" "ELEMENT_AVAILABLE" "Lcom/example/compact_transform/compacttransform/xslt/XsltFunction$Kind;" (.ref u6)) (S7 : Sta Z h0 "com/example/compact_transform/compacttransform/xslt/XsltFunction$Kind" "FUNCTION_AVAILABLE" "Lcom/example/compact_transform/compacttransform/xslt/XsltFunction$Kind;" (.ref u7)) (S8 : Sta Z h0 "com/example/compact_transform/compacttransform/xslt/XsltFunction$Kind" "SYSTEM_PROPERTY" "Lcom/example/compact_transform/compacttransform/xslt/XsltFunction$Kind;" (.ref u8)) (S9 : Sta Z h0 "com/example/compact_transform/compacttransform/xslt/XsltFunction$Kind" "NODE_SET" "Lcom/example/compact_transform/compacttransform/xslt/XsltFunction$Kind;" (.ref u9)) (E0 : Exa Z h0 u0 "com/example/compact_transform/compacttransform/xslt/XsltFunction$Kind") (E1 : Exa Z h0 u1 "com/example/compact_transform/compacttransform/xslt/XsltFunction$Kind") (E2 : Exa Z h0 u2 "com/example/compact_transform/compacttransform/xslt/XsltFunction$Kind") (E3 : Exa Z h0 u3 "com/example/compact_transform/compacttransform/xslt/XsltFunction$Kind") (E4 : Exa Z h0 u4 "com/example/compact_transform/compacttransform/xslt/XsltFunction$Kind") (E5 : Exa Z h0 u5 "com/example/compact_transform/compacttransform/xslt/XsltFunction$Kind") (E6 : Exa Z h0 u6 "com/example/compact_transform/compacttransform/xslt/XsltFunction$Kind") (E7 : Exa Z h0 u7 "com/example/compact_transform/compacttransform/xslt/XsltFunction$Kind") (E8 : Exa Z h0 u8 "com/example/compact_transform/compacttransform/xslt/XsltFunction$Kind") (E9 : Exa Z h0 u9 "com/example/compact_transform/compacttransform/xslt/XsltFunction$Kind") (ne_0_1 : ¬ u0 = u1) (ne_0_2 : ¬ u0 = u2) (ne_0_6 : ¬ u0 = u6) (ne_0_7 : ¬ u0 = u7) (ne_0_8 : ¬ u0 = u8) (ne_1_2 : ¬ u1 = u2) (ne_1_6 : ¬ u1 = u6) (ne_1_7 : ¬ u1 = u7) (ne_1_8 : ¬ u1 = u8) (ne_2_1 : ¬ u2 = u1) (ne_2_6 : ¬ u2 = u6) (ne_2_7 : ¬ u2 = u7) (ne_2_8 : ¬ u2 = u8) (ne_3_1 : ¬ u3 = u1) (ne_3_2 : ¬ u3 = u2) (ne_3_6 : ¬ u3 = u6) (ne_3_7 : ¬ u3 = u7) (ne_3_8 : ¬ u3 = u8) (ne_4_1 : ¬ u4 = u1) (ne_4_2 : ¬ u4 = u2) (ne_4_6 : ¬ u4 = u6) (ne_4_7 : ¬ u4 = u7) (ne_4_8 : ¬ u4 = u8) (ne_5_1 : ¬ u5 = u1) (ne_5_2 : ¬ u5 = u2) (ne_5_6 : ¬ u5 = u6) (ne_5_7 : ¬ u5 = u7) (ne_5_8 : ¬ u5 = u8) (ne_6_1 : ¬ u6 = u1) (ne_6_2 : ¬ u6 = u2) (ne_6_7 : ¬ u6 = u7) (ne_6_8 : ¬ u6 = u8) (ne_7_1 : ¬ u7 = u1) (ne_7_2 : ¬ u7 = u2) (ne_7_6 : ¬ u7 = u6) (ne_7_8 : ¬ u7 = u8) (ne_8_1 : ¬ u8 = u1) (ne_8_2 : ¬ u8 = u2) (ne_8_6 : ¬ u8 = u6) (ne_8_7 : ¬ u8 = u7) (ne_9_1 : ¬ u9 = u1) (ne_9_2 : ¬ u9 = u2) (ne_9_6 : ¬ u9 = u6) (ne_9_7 : ¬ u9 = u7) (ne_9_8 : ¬ u9 = u8) :
    own_Met l Z x code maxLocals ret ws room_1 #[(.int iv)] h0 (Q_law n0) := by
  refine own_enter (own := "com/example/compact_transform/compacttransform/xslt/KindTakesAQNamePinLaw") (plainFor_of_name pn_0) rfl ?_
  intro p e s m below meth c s₁ hlk hret hx hby hml hown hnm hZ X0 e0
  have N0 := Fr.nil n0
  refine own_cast (ef_law m iv) ?_
  show own_Go _ _ _ _ (s₁.setTop (mkF m 0 #[.val (.int iv), .unset, .unset, .unset] []))
  refine own_go (fun t k => XS.iloadN X0.here hx rfl (hb hby at_0) rfl k) ?_
  show own_Go _ _ _ _ (s₁.setTop (mkF m 1 #[.val (.int iv), .unset, .unset, .unset] [(.int iv)]))
  refine own_go (X0.ldcInt hx hown (mvT hZ (w_0 hw)) (g := (mkF m 1 #[.val (.int iv), .unset, .unset, .unset] [(.int iv)])) rfl (hb hby at_1)) ?_
  show own_Go _ _ _ _ (s₁.setTop (mkF m 3 #[.val (.int iv), .unset, .unset, .unset] [(.int (2147483647 : Int32)), (.int iv)]))
  refine own_go (fun t k => XS.iand X0.here hx rfl (hb hby at_3) rfl k) ?_
  show own_Go _ _ _ _ (s₁.setTop (mkF m 4 #[.val (.int iv), .unset, .unset, .unset] [(.int (iv &&& (2147483647 : Int32)))]))
  refine own_go (fun t k => XS.bipush X0.here hx rfl (hb hby at_4) k) ?_
  show own_Go _ _ _ _ (s₁.setTop (mkF m 6 #[.val (.int iv), .unset, .unset, .unset] [(.int (10 : Int32)), (.int (iv &&& (2147483647 : Int32)))]))
  refine own_go (fun t k => iremM X0 hx rfl (hb hby at_6) rfl (by decide) k) ?_
  show own_Go _ _ _ _ (s₁.setTop (mkF m 7 #[.val (.int iv), .unset, .unset, .unset] [(.int ((iv &&& (2147483647 : Int32)) % (10 : Int32)))]))
  generalize hk : (iv &&&  (2147483647 : Int32)) % (10 : Int32) = kk
  have hten : kk = 0 ∨ kk = 1 ∨ kk = 2 ∨ kk = 3 ∨ kk = 4 ∨ kk = 5 ∨ kk = 6 ∨ kk = 7 ∨ kk = 8 ∨ kk = 9 := hk ▸ own_ten iv
  clear hk
  rcases hten with rfl | rfl | rfl | rfl | rfl | rfl | rfl | rfl | rfl | rfl
  · show own_Go _ _ _ _ (s₁.setTop (mkF m 7 #[.val (.int iv), .unset, .unset, .unset] [(.int (0 : Int32))]))
    refine own_go (fun t k => XS.istoreN X0.here hx rfl (hb hby at_7) rfl (l' := #[.val (.int iv), .val (.int (0 : Int32)), .unset, .unset]) rfl k) ?_
    show own_Go _ _ _ _ (s₁.setTop (mkF m 8 #[.val (.int iv), .val (.int (0 : Int32)), .unset, .unset] []))
    refine own_go (fun t k => XS.iloadN X0.here hx rfl (hb hby at_8) rfl k) ?_
    show own_Go _ _ _ _ (s₁.setTop (mkF m 9 #[.val (.int iv), .val (.int (0 : Int32)), .unset, .unset] [(.int (0 : Int32))]))
    obtain ⟨_, _, ⟨T130, L130, k130, n130⟩, -, X130, ⟨Lc130, hQ130, l130, y130, z130⟩, st130⟩ := Jvm.LawKit.callS X0 hx (y := (⟨"com/example/compact_transform/compacttransform/xslt/KindTakesAQNamePinLaw", "kindOf", "(I)Lcom/example/compact_transform/compacttransform/xslt/XsltFunction$Kind;"⟩ : MethodName)) hown (mvT hZ (w_1 hw)) (mvT hZ (w_2 hw)) (mvT hZ (w_3 hw)) (mvT hZ (w_4 hw)) (by decide) (backOf (W := 0) (rm_kind l Z a0 hw [] (0 : Int32) u0 u1 u2 u3 u4 u5 u6 u7 u8 u9 h0 n0 Z0 S0 S1 S2 S3 S4 S5 S6 S7 S8 S9) hZ (w_4 hw) (w_3 hw) (by decide) (by decide)) (g := (mkF m 9 #[.val (.int iv), .val (.int (0 : Int32)), .unset, .unset] [(.int (0 : Int32))])) rfl (by rw [hml]; rfl) (argsL := [(.int (0 : Int32))]) (rest := []) (lenOf pd_0 rfl) rfl (by show 2 * 0 + _ ≤ _; exact Nat.le_of_eq rfl) (hb hby at_9) (fun _ _ => ⟨rfl, e0, (by decide : 0 + 0 ≤ _), (by decide : 0 + 0 ≤ _)⟩)
    dsimp only [Pt.U, Pt.locs, Pt.cells, Pt.slots] at X130 l130 y130 z130 st130 hQ130
    subst l130 y130 z130
    obtain ⟨rfl, N130q, e130⟩ := hQ130
    have N130 := Fr.app N0 N130q
    refine own_go st130 ?_
    show own_Go _ _ _ _ (T130.setTop (mkF m 12 #[.val (.int iv), .val (.int (0 : Int32)), .unset, .unset] [(.ref u0)]))
    refine own_go (fun t k => XS.astoreN X130.here hx rfl (hb hby at_12) rfl rfl (l' := #[.val (.int iv), .val (.int (0 : Int32)), .val (.ref u0), .unset]) rfl k) ?_
    show own_Go _ _ _ _ (T130.setTop (mkF m 13 #[.val (.int iv), .val (.int (0 : Int32)), .val (.ref u0), .unset] []))
    refine own_go (fun t k => XS.iloadN X130.here hx rfl (hb hby at_13) rfl k) ?_
    show own_Go _ _ _ _ (T130.setTop (mkF m 14 #[.val (.int iv), .val (.int (0 : Int32)), .val (.ref u0), .unset] [(.int (0 : Int32))]))
    refine own_go (fun t k => XS.iconst X130.here hx rfl (hb hby at_14) k) ?_
    show own_Go _ _ _ _ (T130.setTop (mkF m 15 #[.val (.int iv), .val (.int (0 : Int32)), .val (.ref u0), .unset] [(.int (1 : Int32)), (.int (0 : Int32))]))
    refine own_go (fun t k => XS.icmpNo X130.here hx rfl (hb hby at_15) rfl (feq (by decide : ¬ ((0 : Int32) = (1 : Int32)))).1 k) ?_
    show own_Go _ _ _ _ (T130.setTop (mkF m 18 #[.val (.int iv), .val (.int (0 : Int32)), .val (.ref u0), .unset] []))
    refine own_go (fun t k => XS.iloadN X130.here hx rfl (hb hby at_18) rfl k) ?_
    show own_Go _ _ _ _ (T130.setTop (mkF m 19 #[.val (.int iv), .val (.int (0 : Int32)), .val (.ref u0), .unset] [(.int (0 : Int32))]))
    refine own_go (fun t k => XS.iconst X130.here hx rfl (hb hby at_19) k) ?_
    show own_Go _ _ _ _ (T130.setTop (mkF m 20 #[.val (.int iv), .val (.int (0 : Int32)), .val (.ref u0), .unset] [(.int (2 : Int32)), (.int (0 : Int32))]))
    refine own_go (fun t k => XS.icmpYes X130.here hx rfl (pc0 := 20) (pc' := 28) rfl (hb hby at_20) rfl (feq (by decide : ¬ ((0 : Int32) = (2 : Int32)))).2 (by decide) (by decide) k) ?_
    show own_Go _ _ _ _ (T130.setTop (mkF m 28 #[.val (.int iv), .val (.int (0 : Int32)), .val (.ref u0), .unset] []))
    refine own_go (fun t k => XS.iloadN X130.here hx rfl (hb hby at_28) rfl k) ?_
    show own_Go _ _ _ _ (T130.setTop (mkF m 29 #[.val (.int iv), .val (.int (0 : Int32)), .val (.ref u0), .unset] [(.int (0 : Int32))]))
    refine own_go (fun t k => XS.bipush X130.here hx rfl (hb hby at_29) k) ?_
    show own_Go _ _ _ _ (T130.setTop (mkF m 31 #[.val (.int iv), .val (.int (0 : Int32)), .val (.ref u0), .unset] [(.int (6 : Int32)), (.int (0 : Int32))]))
    refine own_go (fun t k => XS.icmpYes X130.here hx rfl (pc0 := 31) (pc' := 45) rfl (hb hby at_31) rfl (tlt (by decide : (0 : Int32) < (6 : Int32))).1 (by decide) (by decide) k) ?_
    show own_Go _ _ _ _ (T130.setTop (mkF m 45 #[.val (.int iv), .val (.int (0 : Int32)), .val (.ref u0), .unset] []))
    refine own_go (fun t k => XS.iconst X130.here hx rfl (hb hby at_45) k) ?_
    show own_Go _ _ _ _ (T130.setTop (mkF m 46 #[.val (.int iv), .val (.int (0 : Int32)), .val (.ref u0), .unset] [(.int (0 : Int32))]))
    refine own_go (fun t k => XS.istoreN X130.here hx rfl (hb hby at_46) rfl (l' := #[.val (.int iv), .val (.int (0 : Int32)), .val (.ref u0), .val (.int (0 : Int32))]) rfl k) ?_
    show own_Go _ _ _ _ (T130.setTop (mkF m 47 #[.val (.int iv), .val (.int (0 : Int32)), .val (.ref u0), .val (.int (0 : Int32))] []))
    refine own_go (fun t k => XS.aloadN X130.here hx rfl (hb hby at_47) rfl rfl k) ?_
    have tk : own_takes u0 u1 u2 u6 u7 u8 = (0 : Int32) := by simp [own_takes, ne_0_1, ne_0_2, ne_0_6, ne_0_7, ne_0_8]
    show own_Go _ _ _ _ (T130.setTop (mkF m 48 #[.val (.int iv), .val (.int (0 : Int32)), .val (.ref u0), .val (.int (0 : Int32))] [(.ref u0)]))
    obtain ⟨cq131, kq131, q131a, q131b, q131c⟩ := isOf hZ e130 E0
    obtain ⟨_, _, ⟨T131, L131, k131, n131⟩, -, X131, ⟨Lc131, hQ131, l131, y131, z131⟩, st131⟩ := X130.virtualBack hx (y := (⟨"com/example/compact_transform/compacttransform/xslt/XsltFunction$Kind", "takesAQName", "()Z"⟩ : MethodName)) (z := (⟨"com/example/compact_transform/compacttransform/xslt/XsltFunction$Kind", "takesAQName", "()Z"⟩ : MethodName)) hown (mvT hZ (w_8 hw)) (mvT hZ (w_9 hw)) (notFace_of_selects (args := #[]) (mvT hZ (w_11 hw))) (mvT hZ (w_11 hw)) (mvT hZ (w_10 hw)) (by decide) (backOf (W := 0) (rm_takes l Z a0 hw [] u0 u1 u2 u6 u7 u8 h0 n0 Z0 S1 S2 S6 S7 S8) hZ (w_12 hw) (w_6 hw) (by decide) (by decide)) q131a q131c (g := (mkF m 48 #[.val (.int iv), .val (.int (0 : Int32)), .val (.ref u0), .val (.int (0 : Int32))] [(.ref u0)])) rfl (by rw [hml]; rfl) (Steps.refl _) (argsL := []) (rest := []) (lenOf pd_1 rfl) rfl (by show 2 * 0 + _ ≤ _; exact Nat.le_of_eq rfl) (hb hby at_48) (fun _ _ => ⟨rfl, e130, (by decide : 0 + 0 ≤ _), (by decide : 0 + 0 ≤ _)⟩)
    dsimp only [Pt.U, Pt.locs, Pt.cells, Pt.slots] at X131 l131 y131 z131 st131 hQ131
    subst l131 y131 z131
    obtain ⟨rfl, N131q, e131⟩ := hQ131
    have N131 := Fr.app N130 N131q
    rw [tk] at st131
    refine own_go (fun t k => st131.trans k) ?_
    show own_Go _ _ _ _ (T131.setTop (mkF m 51 #[.val (.int iv), .val (.int (0 : Int32)), .val (.ref u0), .val (.int (0 : Int32))] [(.int (0 : Int32))]))
    refine own_go (fun t k => XS.iloadN X131.here hx rfl (hb hby at_51) rfl k) ?_
    show own_Go _ _ _ _ (T131.setTop (mkF m 52 #[.val (.int iv), .val (.int (0 : Int32)), .val (.ref u0), .val (.int (0 : Int32))] [(.int (0 : Int32)), (.int (0 : Int32))]))
    refine own_go (fun t k => XS.icmpNo X131.here hx rfl (hb hby at_52) rfl (teq (by decide : (0 : Int32) = (0 : Int32))).2 k) ?_
    show own_Go _ _ _ _ (T131.setTop (mkF m 55 #[.val (.int iv), .val (.int (0 : Int32)), .val (.ref u0), .val (.int (0 : Int32))] []))
    refine own_go (fun t k => XS.iconst X131.here hx rfl (hb hby at_55) k) ?_
    show own_Go _ _ _ _ (T131.setTop (mkF m 56 #[.val (.int iv), .val (.int (0 : Int32)), .val (.ref u0), .val (.int (0 : Int32))] [(.int (1 : Int32))]))
    refine own_go (fun t k => XS.goto X131.here hx rfl (pc0 := 56) (pc' := 60) rfl (hb hby at_56) (by decide) (by decide) k) ?_
    show own_Go _ _ _ _ (T131.setTop (mkF m 60 #[.val (.int iv), .val (.int (0 : Int32)), .val (.ref u0), .val (.int (0 : Int32))] [(.int (1 : Int32))]))
    refine own_retN X131 hx hlk (t := .boolean) hret (by simp) (hb hby at_60) ?_ (by decide) (by decide)
    rw [e131]
    exact ⟨rfl, N131⟩
  · show own_Go _ _ _ _ (s₁.setTop (mkF m 7 #[.val (.int iv), .unset, .unset, .unset] [(.int (1 : Int32))]))
    refine own_go (fun t k => XS.istoreN X0.here hx rfl (hb hby at_7) rfl (l' := #[.val (.int iv), .val (.int (1 : Int32)), .unset, .unset]) rfl k) ?_
    show own_Go _ _ _ _ (s₁.setTop (mkF m 8 #[.val (.int iv), .val (.int (1 : Int32)), .unset, .unset] []))
    refine own_go (fun t k => XS.iloadN X0.here hx rfl (hb hby at_8) rfl k) ?_
    show own_Go _ _ _ _ (s₁.setTop (mkF m 9 #[.val (.int iv), .val (.int (1 : Int32)), .unset, .unset] [(.int (1 : Int32))]))
    obtain ⟨_, _, ⟨T132, L132, k132, n132⟩, -, X132, ⟨Lc132, hQ132, l132, y132, z132⟩, st132⟩ := Jvm.LawKit.callS X0 hx (y := (⟨"com/example/compact_transform/compacttransform/xslt/KindTakesAQNamePinLaw", "kindOf", "(I)Lcom/example/compact_transform/compacttransform/xslt/XsltFunction$Kind;"⟩ : MethodName)) hown (mvT hZ (w_1 hw)) (mvT hZ (w_2 hw)) (mvT hZ (w_3 hw)) (mvT hZ (w_4 hw)) (by decide) (backOf (W := 0) (rm_kind l Z a0 hw [] (1 : Int32) u0 u1 u2 u3 u4 u5 u6 u7 u8 u9 h0 n0 Z0 S0 S1 S2 S3 S4 S5 S6 S7 S8 S9) hZ (w_4 hw) (w_3 hw) (by decide) (by decide)) (g := (mkF m 9 #[.val (.int iv), .val (.int (1 : Int32)), .unset, .unset] [(.int (1 : Int32))])) rfl (by rw [hml]; rfl) (argsL := [(.int (1 : Int32))]) (rest := []) (lenOf pd_0 rfl) rfl (by show 2 * 0 + _ ≤ _; exact Nat.le_of_eq rfl) (hb hby at_9) (fun _ _ => ⟨rfl, e0, (by decide : 0 + 0 ≤ _), (by decide : 0 + 0 ≤ _)⟩)
    dsimp only [Pt.U, Pt.locs, Pt.cells, Pt.slots] at X132 l132 y132 z132 st132 hQ132
    subst l132 y132 z132
    obtain ⟨rfl, N132q, e132⟩ := hQ132
    have N132 := Fr.app N0 N132q
    refine own_go st132 ?_
    show own_Go _ _ _ _ (T132.setTop (mkF m 12 #[.val (.int iv), .val (.int (1 : Int32)), .unset, .unset] [(.ref u1)]))
    refine own_go (fun t k => XS.astoreN X132.here hx rfl (hb hby at_12) rfl rfl (l' := #[.val (.int iv), .val (.int (1 : Int32)), .val (.ref u1), .unset]) rfl k) ?_
    show own_Go _ _ _ _ (T132.setTop (mkF m 13 #[.val (.int iv), .val (.int (1 : Int32)), .val (.ref u1), .unset] []))
    refine own_go (fun t k => XS.iloadN X132.here hx rfl (hb hby at_13) rfl k) ?_
    show own_Go _ _ _ _ (T132.setTop (mkF m 14 #[.val (.int iv), .val (.int (1 : Int32)), .val (.ref u1), .unset] [(.int (1 : Int32))]))
    refine own_go (fun t k => XS.iconst X132.here hx rfl (hb hby at_14) k) ?_
    show own_Go _ _ _ _ (T132.setTop (mkF m 15 #[.val (.int iv), .val (.int (1 : Int32)), .val (.ref u1), .unset] [(.int (1 : Int32)), (.int (1 : Int32))]))
    refine own_go (fun t k => XS.icmpYes X132.here hx rfl (pc0 := 15) (pc' := 23) rfl (hb hby at_15) rfl (teq (by decide : (1 : Int32) = (1 : Int32))).1 (by decide) (by decide) k) ?_
    show own_Go _ _ _ _ (T132.setTop (mkF m 23 #[.val (.int iv), .val (.int (1 : Int32)), .val (.ref u1), .unset] []))
    refine own_go (fun t k => XS.iconst X132.here hx rfl (hb hby at_23) k) ?_
    show own_Go _ _ _ _ (T132.setTop (mkF m 24 #[.val (.int iv), .val (.int (1 : Int32)), .val (.ref u1), .unset] [(.int (1 : Int32))]))
    refine own_go (fun t k => XS.istoreN X132.here hx rfl (hb hby at_24) rfl (l' := #[.val (.int iv), .val (.int (1 : Int32)), .val (.ref u1), .val (.int (1 : Int32))]) rfl k) ?_
    show own_Go _ _ _ _ (T132.setTop (mkF m 25 #[.val (.int iv), .val (.int (1 : Int32)), .val (.ref u1), .val (.int (1 : Int32))] []))
    refine own_go (fun t k => XS.goto X132.here hx rfl (pc0 := 25) (pc' := 47) rfl (hb hby at_25) (by decide) (by decide) k) ?_
    show own_Go _ _ _ _ (T132.setTop (mkF m 47 #[.val (.int iv), .val (.int (1 : Int32)), .val (.ref u1), .val (.int (1 : Int32))] []))
    refine own_go (fun t k => XS.aloadN X132.here hx rfl (hb hby at_47) rfl rfl k) ?_
    have tk : own_takes u1 u1 u2 u6 u7 u8 = (1 : Int32) := by simp [own_takes, ne_1_2, ne_1_6, ne_1_7, ne_1_8]
    show own_Go _ _ _ _ (T132.setTop (mkF m 48 #[.val (.int iv), .val (.int (1 : Int32)), .val (.ref u1), .val (.int (1 : Int32))] [(.ref u1)]))
    obtain ⟨cq133, kq133, q133a, q133b, q133c⟩ := isOf hZ e132 E1
    obtain ⟨_, _, ⟨T133, L133, k133, n133⟩, -, X133, ⟨Lc133, hQ133, l133, y133, z133⟩, st133⟩ := X132.virtualBack hx (y := (⟨"com/example/compact_transform/compacttransform/xslt/XsltFunction$Kind", "takesAQName", "()Z"⟩ : MethodName)) (z := (⟨"com/example/compact_transform/compacttransform/xslt/XsltFunction$Kind", "takesAQName", "()Z"⟩ : MethodName)) hown (mvT hZ (w_8 hw)) (mvT hZ (w_9 hw)) (notFace_of_selects (args := #[]) (mvT hZ (w_11 hw))) (mvT hZ (w_11 hw)) (mvT hZ (w_10 hw)) (by decide) (backOf (W := 0) (rm_takes l Z a0 hw [] u1 u1 u2 u6 u7 u8 h0 n0 Z0 S1 S2 S6 S7 S8) hZ (w_12 hw) (w_6 hw) (by decide) (by decide)) q133a q133c (g := (mkF m 48 #[.val (.int iv), .val (.int (1 : Int32)), .val (.ref u1), .val (.int (1 : Int32))] [(.ref u1)])) rfl (by rw [hml]; rfl) (Steps.refl _) (argsL := []) (rest := []) (lenOf pd_1 rfl) rfl (by show 2 * 0 + _ ≤ _; exact Nat.le_of_eq rfl) (hb hby at_48) (fun _ _ => ⟨rfl, e132, (by decide : 0 + 0 ≤ _), (by decide : 0 + 0 ≤ _)⟩)
    dsimp only [Pt.U, Pt.locs, Pt.cells, Pt.slots] at X133 l133 y133 z133 st133 hQ133
    subst l133 y133 z133
    obtain ⟨rfl, N133q, e133⟩ := hQ133
    have N133 := Fr.app N132 N133q
    rw [tk] at st133
    refine own_go (fun t k => st133.trans k) ?_
    show own_Go _ _ _ _ (T133.setTop (mkF m 51 #[.val (.int iv), .val (.int (1 : Int32)), .val (.ref u1), .val (.int (1 : Int32))] [(.int (1 : Int32))]))
    refine own_go (fun t k => XS.iloadN X133.here hx rfl (hb hby at_51) rfl k) ?_
    show own_Go _ _ _ _ (T133.setTop (mkF m 52 #[.val (.int iv), .val (.int (1 : Int32)), .val (.ref u1), .val (.int (1 : Int32))] [(.int (1 : Int32)), (.int (1 : Int32))]))
    refine own_go (fun t k => XS.icmpNo X133.here hx rfl (hb hby at_52) rfl (teq (by decide : (1 : Int32) = (1 : Int32))).2 k) ?_
    show own_Go _ _ _ _ (T133.setTop (mkF m 55 #[.val (.int iv), .val (.int (1 : Int32)), .val (.ref u1), .val (.int (1 : Int32))] []))
    refine own_go (fun t k => XS.iconst X133.here hx rfl (hb hby at_55) k) ?_
    show own_Go _ _ _ _ (T133.setTop (mkF m 56 #[.val (.int iv), .val (.int (1 : Int32)), .val (.ref u1), .val (.int (1 : Int32))] [(.int (1 : Int32))]))
    refine own_go (fun t k => XS.goto X133.here hx rfl (pc0 := 56) (pc' := 60) rfl (hb hby at_56) (by decide) (by decide) k) ?_
    show own_Go _ _ _ _ (T133.setTop (mkF m 60 #[.val (.int iv), .val (.int (1 : Int32)), .val (.ref u1), .val (.int (1 : Int32))] [(.int (1 : Int32))]))
    refine own_retN X133 hx hlk (t := .boolean) hret (by simp) (hb hby at_60) ?_ (by decide) (by decide)
    rw [e133]
    exact ⟨rfl, N133⟩
  · show own_Go _ _ _ _ (s₁.setTop (mkF m 7 #[.val (.int iv), .unset, .unset, .unset] [(.int (2 : Int32))]))
    refine own_go (fun t k => XS.istoreN X0.here hx rfl (hb hby at_7) rfl (l' := #[.val (.int iv), .val (.int (2 : Int32)), .unset, .unset]) rfl k) ?_
    show own_Go _ _ _ _ (s₁.setTop (mkF m 8 #[.val (.int iv), .val (.int (2 : Int32)), .unset, .unset] []))
    refine own_go (fun t k => XS.iloadN X0.here hx rfl (hb hby at_8) rfl k) ?_
    show own_Go _ _ _ _ (s₁.setTop (mkF m 9 #[.val (.int iv), .val (.int (2 : Int32)), .unset, .unset] [(.int (2 : Int32))]))
    obtain ⟨_, _, ⟨T134, L134, k134, n134⟩, -, X134, ⟨Lc134, hQ134, l134, y134, z134⟩, st134⟩ := Jvm.LawKit.callS X0 hx (y := (⟨"com/example/compact_transform/compacttransform/xslt/KindTakesAQNamePinLaw", "kindOf", "(I)Lcom/example/compact_transform/compacttransform/xslt/XsltFunction$Kind;"⟩ : MethodName)) hown (mvT hZ (w_1 hw)) (mvT hZ (w_2 hw)) (mvT hZ (w_3 hw)) (mvT hZ (w_4 hw)) (by decide) (backOf (W := 0) (rm_kind l Z a0 hw [] (2 : Int32) u0 u1 u2 u3 u4 u5 u6 u7 u8 u9 h0 n0 Z0 S0 S1 S2 S3 S4 S5 S6 S7 S8 S9) hZ (w_4 hw) (w_3 hw) (by decide) (by decide)) (g := (mkF m 9 #[.val (.int iv), .val (.int (2 : Int32)), .unset, .unset] [(.int (2 : Int32))])) rfl (by rw [hml]; rfl) (argsL := [(.int (2 : Int32))]) (rest := []) (lenOf pd_0 rfl) rfl (by show 2 * 0 + _ ≤ _; exact Nat.le_of_eq rfl) (hb hby at_9) (fun _ _ => ⟨rfl, e0, (by decide : 0 + 0 ≤ _), (by decide : 0 + 0 ≤ _)⟩)
    dsimp only [Pt.U, Pt.locs, Pt.cells, Pt.slots] at X134 l134 y134 z134 st134 hQ134
    subst l134 y134 z134
    obtain ⟨rfl, N134q, e134⟩ := hQ134
    have N134 := Fr.app N0 N134q
    refine own_go st134 ?_
    show own_Go _ _ _ _ (T134.setTop (mkF m 12 #[.val (.int iv), .val (.int (2 : Int32)), .unset, .unset] [(.ref u2)]))
    refine own_go (fun t k => XS.astoreN X134.here hx rfl (hb hby at_12) rfl rfl (l' := #[.val (.int iv), .val (.int (2 : Int32)), .val (.ref u2), .unset]) rfl k) ?_
    show own_Go _ _ _ _ (T134.setTop (mkF m 13 #[.val (.int iv), .val (.int (2 : Int32)), .val (.ref u2), .unset] []))
    refine own_go (fun t k => XS.iloadN X134.here hx rfl (hb hby at_13) rfl k) ?_
    show own_Go _ _ _ _ (T134.setTop (mkF m 14 #[.val (.int iv), .val (.int (2 : Int32)), .val (.ref u2), .unset] [(.int (2 : Int32))]))
    refine own_go (fun t k => XS.iconst X134.here hx rfl (hb hby at_14) k) ?_
    show own_Go _ _ _ _ (T134.setTop (mkF m 15 #[.val (.int iv), .val (.int (2 : Int32)), .val (.ref u2), .unset] [(.int (1 : Int32)), (.int (2 : Int32))]))
    refine own_go (fun t k => XS.icmpNo X134.here hx rfl (hb hby at_15) rfl (feq (by decide : ¬ ((2 : Int32) = (1 : Int32)))).1 k) ?_
    show own_Go _ _ _ _ (T134.setTop (mkF m 18 #[.val (.int iv), .val (.int (2 : Int32)), .val (.ref u2), .unset] []))
    refine own_go (fun t k => XS.iloadN X134.here hx rfl (hb hby at_18) rfl k) ?_
    show own_Go _ _ _ _ (T134.setTop (mkF m 19 #[.val (.int iv), .val (.int (2 : Int32)), .val (.ref u2), .unset] [(.int (2 : Int32))]))
    refine own_go (fun t k => XS.iconst X134.here hx rfl (hb hby at_19) k) ?_
    show own_Go _ _ _ _ (T134.setTop (mkF m 20 #[.val (.int iv), .val (.int (2 : Int32)), .val (.ref u2), .unset] [(.int (2 : Int32)), (.int (2 : Int32))]))
    refine own_go (fun t k => XS.icmpNo X134.here hx rfl (hb hby at_20) rfl (teq (by decide : (2 : Int32) = (2 : Int32))).2 k) ?_
    show own_Go _ _ _ _ (T134.setTop (mkF m 23 #[.val (.int iv), .val (.int (2 : Int32)), .val (.ref u2), .unset] []))
    refine own_go (fun t k => XS.iconst X134.here hx rfl (hb hby at_23) k) ?_
    show own_Go _ _ _ _ (T134.setTop (mkF m 24 #[.val (.int iv), .val (.int (2 : Int32)), .val (.ref u2), .unset] [(.int (1 : Int32))]))
    refine own_go (fun t k => XS.istoreN X134.here hx rfl (hb hby at_24) rfl (l' := #[.val (.int iv), .val (.int (2 : Int32)), .val (.ref u2), .val (.int (1 : Int32))]) rfl k) ?_
    show own_Go _ _ _ _ (T134.setTop (mkF m 25 #[.val (.int iv), .val (.int (2 : Int32)), .val (.ref u2), .val (.int (1 : Int32))] []))
    refine own_go (fun t k => XS.goto X134.here hx rfl (pc0 := 25) (pc' := 47) rfl (hb hby at_25) (by decide) (by decide) k) ?_
    show own_Go _ _ _ _ (T134.setTop (mkF m 47 #[.val (.int iv), .val (.int (2 : Int32)), .val (.ref u2), .val (.int (1 : Int32))] []))
    refine own_go (fun t k => XS.aloadN X134.here hx rfl (hb hby at_47) rfl rfl k) ?_
    have tk : own_takes u2 u1 u2 u6 u7 u8 = (1 : Int32) := by simp [own_takes, ne_2_1, ne_2_6, ne_2_7, ne_2_8]
    show own_Go _ _ _ _ (T134.setTop (mkF m 48 #[.val (.int iv), .val (.int (2 : Int32)), .val (.ref u2), .val (.int (1 : Int32))] [(.ref u2)]))
    obtain ⟨cq135, kq135, q135a, q135b, q135c⟩ := isOf hZ e134 E2
    obtain ⟨_, _, ⟨T135, L135, k135, n135⟩, -, X135, ⟨Lc135, hQ135, l135, y135, z135⟩, st135⟩ := X134.virtualBack hx (y := (⟨"com/example/compact_transform/compacttransform/xslt/XsltFunction$Kind", "takesAQName", "()Z"⟩ : MethodName)) (z := (⟨"com/example/compact_transform/compacttransform/xslt/XsltFunction$Kind", "takesAQName", "()Z"⟩ : MethodName)) hown (mvT hZ (w_8 hw)) (mvT hZ (w_9 hw)) (notFace_of_selects (args := #[]) (mvT hZ (w_11 hw))) (mvT hZ (w_11 hw)) (mvT hZ (w_10 hw)) (by decide) (backOf (W := 0) (rm_takes l Z a0 hw [] u2 u1 u2 u6 u7 u8 h0 n0 Z0 S1 S2 S6 S7 S8) hZ (w_12 hw) (w_6 hw) (by decide) (by decide)) q135a q135c (g := (mkF m 48 #[.val (.int iv), .val (.int (2 : Int32)), .val (.ref u2), .val (.int (1 : Int32))] [(.ref u2)])) rfl (by rw [hml]; rfl) (Steps.refl _) (argsL := []) (rest := []) (lenOf pd_1 rfl) rfl (by show 2 * 0 + _ ≤ _; exact Nat.le_of_eq rfl) (hb hby at_48) (fun _ _ => ⟨rfl, e134, (by decide : 0 + 0 ≤ _), (by decide : 0 + 0 ≤ _)⟩)
    dsimp only [Pt.U, Pt.locs, Pt.cells, Pt.slots] at X135 l135 y135 z135 st135 hQ135
    subst l135 y135 z135
    obtain ⟨rfl, N135q, e135⟩ := hQ135
    have N135 := Fr.app N134 N135q
    rw [tk] at st135
    refine own_go (fun t k => st135.trans k) ?_
    show own_Go _ _ _ _ (T135.setTop (mkF m 51 #[.val (.int iv), .val (.int (2 : Int32)), .val (.ref u2), .val (.int (1 : Int32))] [(.int (1 : Int32))]))
    refine own_go (fun t k => XS.iloadN X135.here hx rfl (hb hby at_51) rfl k) ?_
    show own_Go _ _ _ _ (T135.setTop (mkF m 52 #[.val (.int iv), .val (.int (2 : Int32)), .val (.ref u2), .val (.int (1 : Int32))] [(.int (1 : Int32)), (.int (1 : Int32))]))
    refine own_go (fun t k => XS.icmpNo X135.here hx rfl (hb hby at_52) rfl (teq (by decide : (1 : Int32) = (1 : Int32))).2 k) ?_
    show own_Go _ _ _ _ (T135.setTop (mkF m 55 #[.val (.int iv), .val (.int (2 : Int32)), .val (.ref u2), .val (.int (1 : Int32))] []))
    refine own_go (fun t k => XS.iconst X135.here hx rfl (hb hby at_55) k) ?_
    show own_Go _ _ _ _ (T135.setTop (mkF m 56 #[.val (.int iv), .val (.int (2 : Int32)), .val (.ref u2), .val (.int (1 : Int32))] [(.int (1 : Int32))]))
    refine own_go (fun t k => XS.goto X135.here hx rfl (pc0 := 56) (pc' := 60) rfl (hb hby at_56) (by decide) (by decide) k) ?_
    show own_Go _ _ _ _ (T135.setTop (mkF m 60 #[.val (.int iv), .val (.int (2 : Int32)), .val (.ref u2), .val (.int (1 : Int32))] [(.int (1 : Int32))]))
    refine own_retN X135 hx hlk (t := .boolean) hret (by simp) (hb hby at_60) ?_ (by decide) (by decide)
    rw [e135]
    exact ⟨rfl, N135⟩
  · show own_Go _ _ _ _ (s₁.setTop (mkF m 7 #[.val (.int iv), .unset, .unset, .unset] [(.int (3 : Int32))]))
    refine own_go (fun t k => XS.istoreN X0.here hx rfl (hb hby at_7) rfl (l' := #[.val (.int iv), .val (.int (3 : Int32)), .unset, .unset]) rfl k) ?_
    show own_Go _ _ _ _ (s₁.setTop (mkF m 8 #[.val (.int iv), .val (.int (3 : Int32)), .unset, .unset] []))
    refine own_go (fun t k => XS.iloadN X0.here hx rfl (hb hby at_8) rfl k) ?_
    show own_Go _ _ _ _ (s₁.setTop (mkF m 9 #[.val (.int iv), .val (.int (3 : Int32)), .unset, .unset] [(.int (3 : Int32))]))
    obtain ⟨_, _, ⟨T136, L136, k136, n136⟩, -, X136, ⟨Lc136, hQ136, l136, y136, z136⟩, st136⟩ := Jvm.LawKit.callS X0 hx (y := (⟨"com/example/compact_transform/compacttransform/xslt/KindTakesAQNamePinLaw", "kindOf", "(I)Lcom/example/compact_transform/compacttransform/xslt/XsltFunction$Kind;"⟩ : MethodName)) hown (mvT hZ (w_1 hw)) (mvT hZ (w_2 hw)) (mvT hZ (w_3 hw)) (mvT hZ (w_4 hw)) (by decide) (backOf (W := 0) (rm_kind l Z a0 hw [] (3 : Int32) u0 u1 u2 u3 u4 u5 u6 u7 u8 u9 h0 n0 Z0 S0 S1 S2 S3 S4 S5 S6 S7 S8 S9) hZ (w_4 hw) (w_3 hw) (by decide) (by decide)) (g := (mkF m 9 #[.val (.int iv), .val (.int (3 : Int32)), .unset, .unset] [(.int (3 : Int32))])) rfl (by rw [hml]; rfl) (argsL := [(.int (3 : Int32))]) (rest := []) (lenOf pd_0 rfl) rfl (by show 2 * 0 + _ ≤ _; exact Nat.le_of_eq rfl) (hb hby at_9) (fun _ _ => ⟨rfl, e0, (by decide : 0 + 0 ≤ _), (by decide : 0 + 0 ≤ _)⟩)
    dsimp only [Pt.U, Pt.locs, Pt.cells, Pt.slots] at X136 l136 y136 z136 st136 hQ136
    subst l136 y136 z136
    obtain ⟨rfl, N136q, e136⟩ := hQ136
    have N136 := Fr.app N0 N136q
    refine own_go st136 ?_
    show own_Go _ _ _ _ (T136.setTop (mkF m 12 #[.val (.int iv), .val (.int (3 : Int32)), .unset, .unset] [(.ref u3)]))
    refine own_go (fun t k => XS.astoreN X136.here hx rfl (hb hby at_12) rfl rfl (l' := #[.val (.int iv), .val (.int (3 : Int32)), .val (.ref u3), .unset]) rfl k) ?_
    show own_Go _ _ _ _ (T136.setTop (mkF m 13 #[.val (.int iv), .val (.int (3 : Int32)), .val (.ref u3), .unset] []))
    refine own_go (fun t k => XS.iloadN X136.here hx rfl (hb hby at_13) rfl k) ?_
    show own_Go _ _ _ _ (T136.setTop (mkF m 14 #[.val (.int iv), .val (.int (3 : Int32)), .val (.ref u3), .unset] [(.int (3 : Int32))]))
    refine own_go (fun t k => XS.iconst X136.here hx rfl (hb hby at_14) k) ?_
    show own_Go _ _ _ _ (T136.setTop (mkF m 15 #[.val (.int iv), .val (.int (3 : Int32)), .val (.ref u3), .unset] [(.int (1 : Int32)), (.int (3 : Int32))]))
    refine own_go (fun t k => XS.icmpNo X136.here hx rfl (hb hby at_15) rfl (feq (by decide : ¬ ((3 : Int32) = (1 : Int32)))).1 k) ?_
    show own_Go _ _ _ _ (T136.setTop (mkF m 18 #[.val (.int iv), .val (.int (3 : Int32)), .val (.ref u3), .unset] []))
    refine own_go (fun t k => XS.iloadN X136.here hx rfl (hb hby at_18) rfl k) ?_
    show own_Go _ _ _ _ (T136.setTop (mkF m 19 #[.val (.int iv), .val (.int (3 : Int32)), .val (.ref u3), .unset] [(.int (3 : Int32))]))
    refine own_go (fun t k => XS.iconst X136.here hx rfl (hb hby at_19) k) ?_
    show own_Go _ _ _ _ (T136.setTop (mkF m 20 #[.val (.int iv), .val (.int (3 : Int32)), .val (.ref u3), .unset] [(.int (2 : Int32)), (.int (3 : Int32))]))
    refine own_go (fun t k => XS.icmpYes X136.here hx rfl (pc0 := 20) (pc' := 28) rfl (hb hby at_20) rfl (feq (by decide : ¬ ((3 : Int32) = (2 : Int32)))).2 (by decide) (by decide) k) ?_
    show own_Go _ _ _ _ (T136.setTop (mkF m 28 #[.val (.int iv), .val (.int (3 : Int32)), .val (.ref u3), .unset] []))
    refine own_go (fun t k => XS.iloadN X136.here hx rfl (hb hby at_28) rfl k) ?_
    show own_Go _ _ _ _ (T136.setTop (mkF m 29 #[.val (.int iv), .val (.int (3 : Int32)), .val (.ref u3), .unset] [(.int (3 : Int32))]))
    refine own_go (fun t k => XS.bipush X136.here hx rfl (hb hby at_29) k) ?_
    show own_Go _ _ _ _ (T136.setTop (mkF m 31 #[.val (.int iv), .val (.int (3 : Int32)), .val (.ref u3), .unset] [(.int (6 : Int32)), (.int (3 : Int32))]))
    refine own_go (fun t k => XS.icmpYes X136.here hx rfl (pc0 := 31) (pc' := 45) rfl (hb hby at_31) rfl (tlt (by decide : (3 : Int32) < (6 : Int32))).1 (by decide) (by decide) k) ?_
    show own_Go _ _ _ _ (T136.setTop (mkF m 45 #[.val (.int iv), .val (.int (3 : Int32)), .val (.ref u3), .unset] []))
    refine own_go (fun t k => XS.iconst X136.here hx rfl (hb hby at_45) k) ?_
    show own_Go _ _ _ _ (T136.setTop (mkF m 46 #[.val (.int iv), .val (.int (3 : Int32)), .val (.ref u3), .unset] [(.int (0 : Int32))]))
    refine own_go (fun t k => XS.istoreN X136.here hx rfl (hb hby at_46) rfl (l' := #[.val (.int iv), .val (.int (3 : Int32)), .val (.ref u3), .val (.int (0 : Int32))]) rfl k) ?_
    show own_Go _ _ _ _ (T136.setTop (mkF m 47 #[.val (.int iv), .val (.int (3 : Int32)), .val (.ref u3), .val (.int (0 : Int32))] []))
    refine own_go (fun t k => XS.aloadN X136.here hx rfl (hb hby at_47) rfl rfl k) ?_
    have tk : own_takes u3 u1 u2 u6 u7 u8 = (0 : Int32) := by simp [own_takes, ne_3_1, ne_3_2, ne_3_6, ne_3_7, ne_3_8]
    show own_Go _ _ _ _ (T136.setTop (mkF m 48 #[.val (.int iv), .val (.int (3 : Int32)), .val (.ref u3), .val (.int (0 : Int32))] [(.ref u3)]))
    obtain ⟨cq137, kq137, q137a, q137b, q137c⟩ := isOf hZ e136 E3
    obtain ⟨_, _, ⟨T137, L137, k137, n137⟩, -, X137, ⟨Lc137, hQ137, l137, y137, z137⟩, st137⟩ := X136.virtualBack hx (y := (⟨"com/example/compact_transform/compacttransform/xslt/XsltFunction$Kind", "takesAQName", "()Z"⟩ : MethodName)) (z := (⟨"com/example/compact_transform/compacttransform/xslt/XsltFunction$Kind", "takesAQName", "()Z"⟩ : MethodName)) hown (mvT hZ (w_8 hw)) (mvT hZ (w_9 hw)) (notFace_of_selects (args := #[]) (mvT hZ (w_11 hw))) (mvT hZ (w_11 hw)) (mvT hZ (w_10 hw)) (by decide) (backOf (W := 0) (rm_takes l Z a0 hw [] u3 u1 u2 u6 u7 u8 h0 n0 Z0 S1 S2 S6 S7 S8) hZ (w_12 hw) (w_6 hw) (by decide) (by decide)) q137a q137c (g := (mkF m 48 #[.val (.int iv), .val (.int (3 : Int32)), .val (.ref u3), .val (.int (0 : Int32))] [(.ref u3)])) rfl (by rw [hml]; rfl) (Steps.refl _) (argsL := []) (rest := []) (lenOf pd_1 rfl) rfl (by show 2 * 0 + _ ≤ _; exact Nat.le_of_eq rfl) (hb hby at_48) (fun _ _ => ⟨rfl, e136, (by decide : 0 + 0 ≤ _), (by decide : 0 + 0 ≤ _)⟩)
    dsimp only [Pt.U, Pt.locs, Pt.cells, Pt.slots] at X137 l137 y137 z137 st137 hQ137
    subst l137 y137 z137
    obtain ⟨rfl, N137q, e137⟩ := hQ137
    have N137 := Fr.app N136 N137q
    rw [tk] at st137
    refine own_go (fun t k => st137.trans k) ?_
    show own_Go _ _ _ _ (T137.setTop (mkF m 51 #[.val (.int iv), .val (.int (3 : Int32)), .val (.ref u3), .val (.int (0 : Int32))] [(.int (0 : Int32))]))
    refine own_go (fun t k => XS.iloadN X137.here hx rfl (hb hby at_51) rfl k) ?_
    show own_Go _ _ _ _ (T137.setTop (mkF m 52 #[.val (.int iv), .val (.int (3 : Int32)), .val (.ref u3), .val (.int (0 : Int32))] [(.int (0 : Int32)), (.int (0 : Int32))]))
    refine own_go (fun t k => XS.icmpNo X137.here hx rfl (hb hby at_52) rfl (teq (by decide : (0 : Int32) = (0 : Int32))).2 k) ?_
    show own_Go _ _ _ _ (T137.setTop (mkF m 55 #[.val (.int iv), .val (.int (3 : Int32)), .val (.ref u3), .val (.int (0 : Int32))] []))
    refine own_go (fun t k => XS.iconst X137.here hx rfl (hb hby at_55) k) ?_
    show own_Go _ _ _ _ (T137.setTop (mkF m 56 #[.val (.int iv), .val (.int (3 : Int32)), .val (.ref u3), .val (.int (0 : Int32))] [(.int (1 : Int32))]))
    refine own_go (fun t k => XS.goto X137.here hx rfl (pc0 := 56) (pc' := 60) rfl (hb hby at_56) (by decide) (by decide) k) ?_
    show own_Go _ _ _ _ (T137.setTop (mkF m 60 #[.val (.int iv), .val (.int (3 : Int32)), .val (.ref u3), .val (.int (0 : Int32))] [(.int (1 : Int32))]))
    refine own_retN X137 hx hlk (t := .boolean) hret (by simp) (hb hby at_60) ?_ (by decide) (by decide)
    rw [e137]
    exact ⟨rfl, N137⟩
  · show own_Go _ _ _ _ (s₁.setTop (mkF m 7 #[.val (.int iv), .unset, .unset, .unset] [(.int (4 : Int32))]))
    refine own_go (fun t k => XS.istoreN X0.here hx rfl (hb hby at_7) rfl (l' := #[.val (.int iv), .val (.int (4 : Int32)), .unset, .unset]) rfl k) ?_
    show own_Go _ _ _ _ (s₁.setTop (mkF m 8 #[.val (.int iv), .val (.int (4 : Int32)), .unset, .unset] []))
    refine own_go (fun t k => XS.iloadN X0.here hx rfl (hb hby at_8) rfl k) ?_
    show own_Go _ _ _ _ (s₁.setTop (mkF m 9 #[.val (.int iv), .val (.int (4 : Int32)), .unset, .unset] [(.int (4 : Int32))]))
    obtain ⟨_, _, ⟨T138, L138, k138, n138⟩, -, X138, ⟨Lc138, hQ138, l138, y138, z138⟩, st138⟩ := Jvm.LawKit.callS X0 hx (y := (⟨"com/example/compact_transform/compacttransform/xslt/KindTakesAQNamePinLaw", "kindOf", "(I)Lcom/example/compact_transform/compacttransform/xslt/XsltFunction$Kind;"⟩ : MethodName)) hown (mvT hZ (w_1 hw)) (mvT hZ (w_2 hw)) (mvT hZ (w_3 hw)) (mvT hZ (w_4 hw)) (by decide) (backOf (W := 0) (rm_kind l Z a0 hw [] (4 : Int32) u0 u1 u2 u3 u4 u5 u6 u7 u8 u9 h0 n0 Z0 S0 S1 S2 S3 S4 S5 S6 S7 S8 S9) hZ (w_4 hw) (w_3 hw) (by decide) (by decide)) (g := (mkF m 9 #[.val (.int iv), .val (.int (4 : Int32)), .unset, .unset] [(.int (4 : Int32))])) rfl (by rw [hml]; rfl) (argsL := [(.int (4 : Int32))]) (rest := []) (lenOf pd_0 rfl) rfl (by show 2 * 0 + _ ≤ _; exact Nat.le_of_eq rfl) (hb hby at_9) (fun _ _ => ⟨rfl, e0, (by decide : 0 + 0 ≤ _), (by decide : 0 + 0 ≤ _)⟩)
    dsimp only [Pt.U, Pt.locs, Pt.cells, Pt.slots] at X138 l138 y138 z138 st138 hQ138
    subst l138 y138 z138
    obtain ⟨rfl, N138q, e138⟩ := hQ138
    have N138 := Fr.app N0 N138q
    refine own_go st138 ?_
    show own_Go _ _ _ _ (T138.setTop (mkF m 12 #[.val (.int iv), .val (.int (4 : Int32)), .unset, .unset] [(.ref u4)]))
    refine own_go (fun t k => XS.astoreN X138.here hx rfl (hb hby at_12) rfl rfl (l' := #[.val (.int iv), .val (.int (4 : Int32)), .val (.ref u4), .unset]) rfl k) ?_
    show own_Go _ _ _ _ (T138.setTop (mkF m 13 #[.val (.int iv), .val (.int (4 : Int32)), .val (.ref u4), .unset] []))
    refine own_go (fun t k => XS.iloadN X138.here hx rfl (hb hby at_13) rfl k) ?_
    show own_Go _ _ _ _ (T138.setTop (mkF m 14 #[.val (.int iv), .val (.int (4 : Int32)), .val (.ref u4), .unset] [(.int (4 : Int32))]))
    refine own_go (fun t k => XS.iconst X138.here hx rfl (hb hby at_14) k) ?_
    show own_Go _ _ _ _ (T138.setTop (mkF m 15 #[.val (.int iv), .val (.int (4 : Int32)), .val (.ref u4), .unset] [(.int (1 : Int32)), (.int (4 : Int32))]))
    refine own_go (fun t k => XS.icmpNo X138.here hx rfl (hb hby at_15) rfl (feq (by decide : ¬ ((4 : Int32) = (1 : Int32)))).1 k) ?_
    show own_Go _ _ _ _ (T138.setTop (mkF m 18 #[.val (.int iv), .val (.int (4 : Int32)), .val (.ref u4), .unset] []))
    refine own_go (fun t k => XS.iloadN X138.here hx rfl (hb hby at_18) rfl k) ?_
    show own_Go _ _ _ _ (T138.setTop (mkF m 19 #[.val (.int iv), .val (.int (4 : Int32)), .val (.ref u4), .unset] [(.int (4 : Int32))]))
    refine own_go (fun t k => XS.iconst X138.here hx rfl (hb hby at_19) k) ?_
    show own_Go _ _ _ _ (T138.setTop (mkF m 20 #[.val (.int iv), .val (.int (4 : Int32)), .val (.ref u4), .unset] [(.int (2 : Int32)), (.int (4 : Int32))]))
    refine own_go (fun t k => XS.icmpYes X138.here hx rfl (pc0 := 20) (pc' := 28) rfl (hb hby at_20) rfl (feq (by decide : ¬ ((4 : Int32) = (2 : Int32)))).2 (by decide) (by decide) k) ?_
    show own_Go _ _ _ _ (T138.setTop (mkF m 28 #[.val (.int iv), .val (.int (4 : Int32)), .val (.ref u4), .unset] []))
    refine own_go (fun t k => XS.iloadN X138.here hx rfl (hb hby at_28) rfl k) ?_
    show own_Go _ _ _ _ (T138.setTop (mkF m 29 #[.val (.int iv), .val (.int (4 : Int32)), .val (.ref u4), .unset] [(.int (4 : Int32))]))
    refine own_go (fun t k => XS.bipush X138.here hx rfl (hb hby at_29) k) ?_
    show own_Go _ _ _ _ (T138.setTop (mkF m 31 #[.val (.int iv), .val (.int (4 : Int32)), .val (.ref u4), .unset] [(.int (6 : Int32)), (.int (4 : Int32))]))
    refine own_go (fun t k => XS.icmpYes X138.here hx rfl (pc0 := 31) (pc' := 45) rfl (hb hby at_31) rfl (tlt (by decide : (4 : Int32) < (6 : Int32))).1 (by decide) (by decide) k) ?_
    show own_Go _ _ _ _ (T138.setTop (mkF m 45 #[.val (.int iv), .val (.int (4 : Int32)), .val (.ref u4), .unset] []))
    refine own_go (fun t k => XS.iconst X138.here hx rfl (hb hby at_45) k) ?_
    show own_Go _ _ _ _ (T138.setTop (mkF m 46 #[.val (.int iv), .val (.int (4 : Int32)), .val (.ref u4), .unset] [(.int (0 : Int32))]))
    refine own_go (fun t k => XS.istoreN X138.here hx rfl (hb hby at_46) rfl (l' := #[.val (.int iv), .val (.int (4 : Int32)), .val (.ref u4), .val (.int (0 : Int32))]) rfl k) ?_
    show own_Go _ _ _ _ (T138.setTop (mkF m 47 #[.val (.int iv), .val (.int (4 : Int32)), .val (.ref u4), .val (.int (0 : Int32))] []))
    refine own_go (fun t k => XS.aloadN X138.here hx rfl (hb hby at_47) rfl rfl k) ?_
    have tk : own_takes u4 u1 u2 u6 u7 u8 = (0 : Int32) := by simp [own_takes, ne_4_1, ne_4_2, ne_4_6, ne_4_7, ne_4_8]
    show own_Go _ _ _ _ (T138.setTop (mkF m 48 #[.val (.int iv), .val (.int (4 : Int32)), .val (.ref u4), .val (.int (0 : Int32))] [(.ref u4)]))
    obtain ⟨cq139, kq139, q139a, q139b, q139c⟩ := isOf hZ e138 E4
    obtain ⟨_, _, ⟨T139, L139, k139, n139⟩, -, X139, ⟨Lc139, hQ139, l139, y139, z139⟩, st139⟩ := X138.virtualBack hx (y := (⟨"com/example/compact_transform/compacttransform/xslt/XsltFunction$Kind", "takesAQName", "()Z"⟩ : MethodName)) (z := (⟨"com/example/compact_transform/compacttransform/xslt/XsltFunction$Kind", "takesAQName", "()Z"⟩ : MethodName)) hown (mvT hZ (w_8 hw)) (mvT hZ (w_9 hw)) (notFace_of_selects (args := #[]) (mvT hZ (w_11 hw))) (mvT hZ (w_11 hw)) (mvT hZ (w_10 hw)) (by decide) (backOf (W := 0) (rm_takes l Z a0 hw [] u4 u1 u2 u6 u7 u8 h0 n0 Z0 S1 S2 S6 S7 S8) hZ (w_12 hw) (w_6 hw) (by decide) (by decide)) q139a q139c (g := (mkF m 48 #[.val (.int iv), .val (.int (4 : Int32)), .val (.ref u4), .val (.int (0 : Int32))] [(.ref u4)])) rfl (by rw [hml]; rfl) (Steps.refl _) (argsL := []) (rest := []) (lenOf pd_1 rfl) rfl (by show 2 * 0 + _ ≤ _; exact Nat.le_of_eq rfl) (hb hby at_48) (fun _ _ => ⟨rfl, e138, (by decide : 0 + 0 ≤ _), (by decide : 0 + 0 ≤ _)⟩)
    dsimp only [Pt.U, Pt.locs, Pt.cells, Pt.slots] at X139 l139 y139 z139 st139 hQ139
    subst l139 y139 z139
    obtain ⟨rfl, N139q, e139⟩ := hQ139
    have N139 := Fr.app N138 N139q
    rw [tk] at st139
    refine own_go (fun t k => st139.trans k) ?_
    show own_Go _ _ _ _ (T139.setTop (mkF m 51 #[.val (.int iv), .val (.int (4 : Int32)), .val (.ref u4), .val (.int (0 : Int32))] [(.int (0 : Int32))]))
    refine own_go (fun t k => XS.iloadN X139.here hx rfl (hb hby at_51) rfl k) ?_
    show own_Go _ _ _ _ (T139.setTop (mkF m 52 #[.val (.int iv), .val (.int (4 : Int32)), .val (.ref u4), .val (.int (0 : Int32))] [(.int (0 : Int32)), (.int (0 : Int32))]))
    refine own_go (fun t k => XS.icmpNo X139.here hx rfl (hb hby at_52) rfl (teq (by decide : (0 : Int32) = (0 : Int32))).2 k) ?_
    show own_Go _ _ _ _ (T139.setTop (mkF m 55 #[.val (.int iv), .val (.int (4 : Int32)), .val (.ref u4), .val (.int (0 : Int32))] []))
    refine own_go (fun t k => XS.iconst X139.here hx rfl (hb hby at_55) k) ?_
    show own_Go _ _ _ _ (T139.setTop (mkF m 56 #[.val (.int iv), .val (.int (4 : Int32)), .val (.ref u4), .val (.int (0 : Int32))] [(.int (1 : Int32))]))
    refine own_go (fun t k => XS.goto X139.here hx rfl (pc0 := 56) (pc' := 60) rfl (hb hby at_56) (by decide) (by decide) k) ?_
    show own_Go _ _ _ _ (T139.setTop (mkF m 60 #[.val (.int iv), .val (.int (4 : Int32)), .val (.ref u4), .val (.int (0 : Int32))] [(.int (1 : Int32))]))
    refine own_retN X139 hx hlk (t := .boolean) hret (by simp) (hb hby at_60) ?_ (by decide) (by decide)
    rw [e139]
    exact ⟨rfl, N139⟩
  · show own_Go _ _ _ _ (s₁.setTop (mkF m 7 #[.val (.int iv), .unset, .unset, .unset] [(.int (5 : Int32))]))
    refine own_go (fun t k => XS.istoreN X0.here hx rfl (hb hby at_7) rfl (l' := #[.val (.int iv), .val (.int (5 : Int32)), .unset, .unset]) rfl k) ?_
    show own_Go _ _ _ _ (s₁.setTop (mkF m 8 #[.val (.int iv), .val (.int (5 : Int32)), .unset, .unset] []))
    refine own_go (fun t k => XS.iloadN X0.here hx rfl (hb hby at_8) rfl k) ?_
    show own_Go _ _ _ _ (s₁.setTop (mkF m 9 #[.val (.int iv), .val (.int (5 : Int32)), .unset, .unset] [(.int (5 : Int32))]))
    obtain ⟨_, _, ⟨T140, L140, k140, n140⟩, -, X140, ⟨Lc140, hQ140, l140, y140, z140⟩, st140⟩ := Jvm.LawKit.callS X0 hx (y := (⟨"com/example/compact_transform/compacttransform/xslt/KindTakesAQNamePinLaw", "kindOf", "(I)Lcom/example/compact_transform/compacttransform/xslt/XsltFunction$Kind;"⟩ : MethodName)) hown (mvT hZ (w_1 hw)) (mvT hZ (w_2 hw)) (mvT hZ (w_3 hw)) (mvT hZ (w_4 hw)) (by decide) (backOf (W := 0) (rm_kind l Z a0 hw [] (5 : Int32) u0 u1 u2 u3 u4 u5 u6 u7 u8 u9 h0 n0 Z0 S0 S1 S2 S3 S4 S5 S6 S7 S8 S9) hZ (w_4 hw) (w_3 hw) (by decide) (by decide)) (g := (mkF m 9 #[.val (.int iv), .val (.int (5 : Int32)), .unset, .unset] [(.int (5 : Int32))])) rfl (by rw [hml]; rfl) (argsL := [(.int (5 : Int32))]) (rest := []) (lenOf pd_0 rfl) rfl (by show 2 * 0 + _ ≤ _; exact Nat.le_of_eq rfl) (hb hby at_9) (fun _ _ => ⟨rfl, e0, (by decide : 0 + 0 ≤ _), (by decide : 0 + 0 ≤ _)⟩)
    dsimp only [Pt.U, Pt.locs, Pt.cells, Pt.slots] at X140 l140 y140 z140 st140 hQ140
    subst l140 y140 z140
    obtain ⟨rfl, N140q, e140⟩ := hQ140
    have N140 := Fr.app N0 N140q
    refine own_go st140 ?_
    show own_Go _ _ _ _ (T140.setTop (mkF m 12 #[.val (.int iv), .val (.int (5 : Int32)), .unset, .unset] [(.ref u5)]))
    refine own_go (fun t k => XS.astoreN X140.here hx rfl (hb hby at_12) rfl rfl (l' := #[.val (.int iv), .val (.int (5 : Int32)), .val (.ref u5), .unset]) rfl k) ?_
    show own_Go _ _ _ _ (T140.setTop (mkF m 13 #[.val (.int iv), .val (.int (5 : Int32)), .val (.ref u5), .unset] []))
    refine own_go (fun t k => XS.iloadN X140.here hx rfl (hb hby at_13) rfl k) ?_
    show own_Go _ _ _ _ (T140.setTop (mkF m 14 #[.val (.int iv), .val (.int (5 : Int32)), .val (.ref u5), .unset] [(.int (5 : Int32))]))
    refine own_go (fun t k => XS.iconst X140.here hx rfl (hb hby at_14) k) ?_
    show own_Go _ _ _ _ (T140.setTop (mkF m 15 #[.val (.int iv), .val (.int (5 : Int32)), .val (.ref u5), .unset] [(.int (1 : Int32)), (.int (5 : Int32))]))
    refine own_go (fun t k => XS.icmpNo X140.here hx rfl (hb hby at_15) rfl (feq (by decide : ¬ ((5 : Int32) = (1 : Int32)))).1 k) ?_
    show own_Go _ _ _ _ (T140.setTop (mkF m 18 #[.val (.int iv), .val (.int (5 : Int32)), .val (.ref u5), .unset] []))
    refine own_go (fun t k => XS.iloadN X140.here hx rfl (hb hby at_18) rfl k) ?_
    show own_Go _ _ _ _ (T140.setTop (mkF m 19 #[.val (.int iv), .val (.int (5 : Int32)), .val (.ref u5), .unset] [(.int (5 : Int32))]))
    refine own_go (fun t k => XS.iconst X140.here hx rfl (hb hby at_19) k) ?_
    show own_Go _ _ _ _ (T140.setTop (mkF m 20 #[.val (.int iv), .val (.int (5 : Int32)), .val (.ref u5), .unset] [(.int (2 : Int32)), (.int (5 : Int32))]))
    refine own_go (fun t k => XS.icmpYes X140.here hx rfl (pc0 := 20) (pc' := 28) rfl (hb hby at_20) rfl (feq (by decide : ¬ ((5 : Int32) = (2 : Int32)))).2 (by decide) (by decide) k) ?_
    show own_Go _ _ _ _ (T140.setTop (mkF m 28 #[.val (.int iv), .val (.int (5 : Int32)), .val (.ref u5), .unset] []))
    refine own_go (fun t k => XS.iloadN X140.here hx rfl (hb hby at_28) rfl k) ?_
    show own_Go _ _ _ _ (T140.setTop (mkF m 29 #[.val (.int iv), .val (.int (5 : Int32)), .val (.ref u5), .unset] [(.int (5 : Int32))]))
    refine own_go (fun t k => XS.bipush X140.here hx rfl (hb hby at_29) k) ?_
    show own_Go _ _ _ _ (T140.setTop (mkF m 31 #[.val (.int iv), .val (.int (5 : Int32)), .val (.ref u5), .unset] [(.int (6 : Int32)), (.int (5 : Int32))]))
    refine own_go (fun t k => XS.icmpYes X140.here hx rfl (pc0 := 31) (pc' := 45) rfl (hb hby at_31) rfl (tlt (by decide : (5 : Int32) < (6 : Int32))).1 (by decide) (by decide) k) ?_
    show own_Go _ _ _ _ (T140.setTop (mkF m 45 #[.val (.int iv), .val (.int (5 : Int32)), .val (.ref u5), .unset] []))
    refine own_go (fun t k => XS.iconst X140.here hx rfl (hb hby at_45) k) ?_
    show own_Go _ _ _ _ (T140.setTop (mkF m 46 #[.val (.int iv), .val (.int (5 : Int32)), .val (.ref u5), .unset] [(.int (0 : Int32))]))
    refine own_go (fun t k => XS.istoreN X140.here hx rfl (hb hby at_46) rfl (l' := #[.val (.int iv), .val (.int (5 : Int32)), .val (.ref u5), .val (.int (0 : Int32))]) rfl k) ?_
    show own_Go _ _ _ _ (T140.setTop (mkF m 47 #[.val (.int iv), .val (.int (5 : Int32)), .val (.ref u5), .val (.int (0 : Int32))] []))
    refine own_go (fun t k => XS.aloadN X140.here hx rfl (hb hby at_47) rfl rfl k) ?_
    have tk : own_takes u5 u1 u2 u6 u7 u8 = (0 : Int32) := by simp [own_takes, ne_5_1, ne_5_2, ne_5_6, ne_5_7, ne_5_8]
    show own_Go _ _ _ _ (T140.setTop (mkF m 48 #[.val (.int iv), .val (.int (5 : Int32)), .val (.ref u5), .val (.int (0 : Int32))] [(.ref u5)]))
    obtain ⟨cq141, kq141, q141a, q141b, q141c⟩ := isOf hZ e140 E5
    obtain ⟨_, _, ⟨T141, L141, k141, n141⟩, -, X141, ⟨Lc141, hQ141, l141, y141, z141⟩, st141⟩ := X140.virtualBack hx (y := (⟨"com/example/compact_transform/compacttransform/xslt/XsltFunction$Kind", "takesAQName", "()Z"⟩ : MethodName)) (z := (⟨"com/example/compact_transform/compacttransform/xslt/XsltFunction$Kind", "takesAQName", "()Z"⟩ : MethodName)) hown (mvT hZ (w_8 hw)) (mvT hZ (w_9 hw)) (notFace_of_selects (args := #[]) (mvT hZ (w_11 hw))) (mvT hZ (w_11 hw)) (mvT hZ (w_10 hw)) (by decide) (backOf (W := 0) (rm_takes l Z a0 hw [] u5 u1 u2 u6 u7 u8 h0 n0 Z0 S1 S2 S6 S7 S8) hZ (w_12 hw) (w_6 hw) (by decide) (by decide)) q141a q141c (g := (mkF m 48 #[.val (.int iv), .val (.int (5 : Int32)), .val (.ref u5), .val (.int (0 : Int32))] [(.ref u5)])) rfl (by rw [hml]; rfl) (Steps.refl _) (argsL := []) (rest := []) (lenOf pd_1 rfl) rfl (by show 2 * 0 + _ ≤ _; exact Nat.le_of_eq rfl) (hb hby at_48) (fun _ _ => ⟨rfl, e140, (by decide : 0 + 0 ≤ _), (by decide : 0 + 0 ≤ _)⟩)
    dsimp only [Pt.U, Pt.locs, Pt.cells, Pt.slots] at X141 l141 y141 z141 st141 hQ141
    subst l141 y141 z141
    obtain ⟨rfl, N141q, e141⟩ := hQ141
    have N141 := Fr.app N140 N141q
    rw [tk] at st141
    refine own_go (fun t k => st141.trans k) ?_
    show own_Go _ _ _ _ (T141.setTop (mkF m 51 #[.val (.int iv), .val (.int (5 : Int32)), .val (.ref u5), .val (.int (0 : Int32))] [(.int (0 : Int32))]))
    refine own_go (fun t k => XS.iloadN X141.here hx rfl (hb hby at_51) rfl k) ?_
    show own_Go _ _ _ _ (T141.setTop (mkF m 52 #[.val (.int iv), .val (.int (5 : Int32)), .val (.ref u5), .val (.int (0 : Int32))] [(.int (0 : Int32)), (.int (0 : Int32))]))
    refine own_go (fun t k => XS.icmpNo X141.here hx rfl (hb hby at_52) rfl (teq (by decide : (0 : Int32) = (0 : Int32))).2 k) ?_
    show own_Go _ _ _ _ (T141.setTop (mkF m 55 #[.val (.int iv), .val (.int (5 : Int32)), .val (.ref u5), .val (.int (0 : Int32))] []))
    refine own_go (fun t k => XS.iconst X141.here hx rfl (hb hby at_55) k) ?_
    show own_Go _ _ _ _ (T141.setTop (mkF m 56 #[.val (.int iv), .val (.int (5 : Int32)), .val (.ref u5), .val (.int (0 : Int32))] [(.int (1 : Int32))]))
    refine own_go (fun t k => XS.goto X141.here hx rfl (pc0 := 56) (pc' := 60) rfl (hb hby at_56) (by decide) (by decide) k) ?_
    show own_Go _ _ _ _ (T141.setTop (mkF m 60 #[.val (.int iv), .val (.int (5 : Int32)), .val (.ref u5), .val (.int (0 : Int32))] [(.int (1 : Int32))]))
    refine own_retN X141 hx hlk (t := .boolean) hret (by simp) (hb hby at_60) ?_ (by decide) (by decide)
    rw [e141]
    exact ⟨rfl, N141⟩
  · show own_Go _ _ _ _ (s₁.setTop (mkF m 7 #[.val (.int iv), .unset, .unset, .unset] [(.int (6 : Int32))]))
    refine own_go (fun t k => XS.istoreN X0.here hx rfl (hb hby at_7) rfl (l' := #[.val (.int iv), .val (.int (6 : Int32)), .unset, .unset]) rfl k) ?_
    show own_Go _ _ _ _ (s₁.setTop (mkF m 8 #[.val (.int iv), .val (.int (6 : Int32)), .unset, .unset] []))
    refine own_go (fun t k => XS.iloadN X0.here hx rfl (hb hby at_8) rfl k) ?_
    show own_Go _ _ _ _ (s₁.setTop (mkF m 9 #[.val (.int iv), .val (.int (6 : Int32)), .unset, .unset] [(.int (6 : Int32))]))
    obtain ⟨_, _, ⟨T142, L142, k142, n142⟩, -, X142, ⟨Lc142, hQ142, l142, y142, z142⟩, st142⟩ := Jvm.LawKit.callS X0 hx (y := (⟨"com/example/compact_transform/compacttransform/xslt/KindTakesAQNamePinLaw", "kindOf", "(I)Lcom/example/compact_transform/compacttransform/xslt/XsltFunction$Kind;"⟩ : MethodName)) hown (mvT hZ (w_1 hw)) (mvT hZ (w_2 hw)) (mvT hZ (w_3 hw)) (mvT hZ (w_4 hw)) (by decide) (backOf (W := 0) (rm_kind l Z a0 hw [] (6 : Int32) u0 u1 u2 u3 u4 u5 u6 u7 u8 u9 h0 n0 Z0 S0 S1 S2 S3 S4 S5 S6 S7 S8 S9) hZ (w_4 hw) (w_3 hw) (by decide) (by decide)) (g := (mkF m 9 #[.val (.int iv), .val (.int (6 : Int32)), .unset, .unset] [(.int (6 : Int32))])) rfl (by rw [hml]; rfl) (argsL := [(.int (6 : Int32))]) (rest := []) (lenOf pd_0 rfl) rfl (by show 2 * 0 + _ ≤ _; exact Nat.le_of_eq rfl) (hb hby at_9) (fun _ _ => ⟨rfl, e0, (by decide : 0 + 0 ≤ _), (by decide : 0 + 0 ≤ _)⟩)
    dsimp only [Pt.U, Pt.locs, Pt.cells, Pt.slots] at X142 l142 y142 z142 st142 hQ142
    subst l142 y142 z142
    obtain ⟨rfl, N142q, e142⟩ := hQ142
    have N142 := Fr.app N0 N142q
    refine own_go st142 ?_
    show own_Go _ _ _ _ (T142.setTop (mkF m 12 #[.val (.int iv), .val (.int (6 : Int32)), .unset, .unset] [(.ref u6)]))
    refine own_go (fun t k => XS.astoreN X142.here hx rfl (hb hby at_12) rfl rfl (l' := #[.val (.int iv), .val (.int (6 : Int32)), .val (.ref u6), .unset]) rfl k) ?_
    show own_Go _ _ _ _ (T142.setTop (mkF m 13 #[.val (.int iv), .val (.int (6 : Int32)), .val (.ref u6), .unset] []))
    refine own_go (fun t k => XS.iloadN X142.here hx rfl (hb hby at_13) rfl k) ?_
    show own_Go _ _ _ _ (T142.setTop (mkF m 14 #[.val (.int iv), .val (.int (6 : Int32)), .val (.ref u6), .unset] [(.int (6 : Int32))]))
    refine own_go (fun t k => XS.iconst X142.here hx rfl (hb hby at_14) k) ?_
    show own_Go _ _ _ _ (T142.setTop (mkF m 15 #[.val (.int iv), .val (.int (6 : Int32)), .val (.ref u6), .unset] [(.int (1 : Int32)), (.int (6 : Int32))]))
    refine own_go (fun t k => XS.icmpNo X142.here hx rfl (hb hby at_15) rfl (feq (by decide : ¬ ((6 : Int32) = (1 : Int32)))).1 k) ?_
    show own_Go _ _ _ _ (T142.setTop (mkF m 18 #[.val (.int iv), .val (.int (6 : Int32)), .val (.ref u6), .unset] []))
    refine own_go (fun t k => XS.iloadN X142.here hx rfl (hb hby at_18) rfl k) ?_
    show own_Go _ _ _ _ (T142.setTop (mkF m 19 #[.val (.int iv), .val (.int (6 : Int32)), .val (.ref u6), .unset] [(.int (6 : Int32))]))
    refine own_go (fun t k => XS.iconst X142.here hx rfl (hb hby at_19) k) ?_
    show own_Go _ _ _ _ (T142.setTop (mkF m 20 #[.val (.int iv), .val (.int (6 : Int32)), .val (.ref u6), .unset] [(.int (2 : Int32)), (.int (6 : Int32))]))
    refine own_go (fun t k => XS.icmpYes X142.here hx rfl (pc0 := 20) (pc' := 28) rfl (hb hby at_20) rfl (feq (by decide : ¬ ((6 : Int32) = (2 : Int32)))).2 (by decide) (by decide) k) ?_
    show own_Go _ _ _ _ (T142.setTop (mkF m 28 #[.val (.int iv), .val (.int (6 : Int32)), .val (.ref u6), .unset] []))
    refine own_go (fun t k => XS.iloadN X142.here hx rfl (hb hby at_28) rfl k) ?_
    show own_Go _ _ _ _ (T142.setTop (mkF m 29 #[.val (.int iv), .val (.int (6 : Int32)), .val (.ref u6), .unset] [(.int (6 : Int32))]))
    refine own_go (fun t k => XS.bipush X142.here hx rfl (hb hby at_29) k) ?_
    show own_Go _ _ _ _ (T142.setTop (mkF m 31 #[.val (.int iv), .val (.int (6 : Int32)), .val (.ref u6), .unset] [(.int (6 : Int32)), (.int (6 : Int32))]))
    refine own_go (fun t k => XS.icmpNo X142.here hx rfl (hb hby at_31) rfl (flt (by decide : ¬ ((6 : Int32) < (6 : Int32)))).1 k) ?_
    show own_Go _ _ _ _ (T142.setTop (mkF m 34 #[.val (.int iv), .val (.int (6 : Int32)), .val (.ref u6), .unset] []))
    refine own_go (fun t k => XS.iloadN X142.here hx rfl (hb hby at_34) rfl k) ?_
    show own_Go _ _ _ _ (T142.setTop (mkF m 35 #[.val (.int iv), .val (.int (6 : Int32)), .val (.ref u6), .unset] [(.int (6 : Int32))]))
    refine own_go (fun t k => XS.bipush X142.here hx rfl (hb hby at_35) k) ?_
    show own_Go _ _ _ _ (T142.setTop (mkF m 37 #[.val (.int iv), .val (.int (6 : Int32)), .val (.ref u6), .unset] [(.int (8 : Int32)), (.int (6 : Int32))]))
    refine own_go (fun t k => XS.icmpNo X142.here hx rfl (hb hby at_37) rfl (flt (by decide : ¬ ((8 : Int32) < (6 : Int32)))).2.2.1 k) ?_
    show own_Go _ _ _ _ (T142.setTop (mkF m 40 #[.val (.int iv), .val (.int (6 : Int32)), .val (.ref u6), .unset] []))
    refine own_go (fun t k => XS.iconst X142.here hx rfl (hb hby at_40) k) ?_
    show own_Go _ _ _ _ (T142.setTop (mkF m 41 #[.val (.int iv), .val (.int (6 : Int32)), .val (.ref u6), .unset] [(.int (1 : Int32))]))
    refine own_go (fun t k => XS.istoreN X142.here hx rfl (hb hby at_41) rfl (l' := #[.val (.int iv), .val (.int (6 : Int32)), .val (.ref u6), .val (.int (1 : Int32))]) rfl k) ?_
    show own_Go _ _ _ _ (T142.setTop (mkF m 42 #[.val (.int iv), .val (.int (6 : Int32)), .val (.ref u6), .val (.int (1 : Int32))] []))
    refine own_go (fun t k => XS.goto X142.here hx rfl (pc0 := 42) (pc' := 47) rfl (hb hby at_42) (by decide) (by decide) k) ?_
    show own_Go _ _ _ _ (T142.setTop (mkF m 47 #[.val (.int iv), .val (.int (6 : Int32)), .val (.ref u6), .val (.int (1 : Int32))] []))
    refine own_go (fun t k => XS.aloadN X142.here hx rfl (hb hby at_47) rfl rfl k) ?_
    have tk : own_takes u6 u1 u2 u6 u7 u8 = (1 : Int32) := by simp [own_takes, ne_6_1, ne_6_2, ne_6_7, ne_6_8]
    show own_Go _ _ _ _ (T142.setTop (mkF m 48 #[.val (.int iv), .val (.int (6 : Int32)), .val (.ref u6), .val (.int (1 : Int32))] [(.ref u6)]))
    obtain ⟨cq143, kq143, q143a, q143b, q143c⟩ := isOf hZ e142 E6
    obtain ⟨_, _, ⟨T143, L143, k143, n143⟩, -, X143, ⟨Lc143, hQ143, l143, y143, z143⟩, st143⟩ := X142.virtualBack hx (y := (⟨"com/example/compact_transform/compacttransform/xslt/XsltFunction$Kind", "takesAQName", "()Z"⟩ : MethodName)) (z := (⟨"com/example/compact_transform/compacttransform/xslt/XsltFunction$Kind", "takesAQName", "()Z"⟩ : MethodName)) hown (mvT hZ (w_8 hw)) (mvT hZ (w_9 hw)) (notFace_of_selects (args := #[]) (mvT hZ (w_11 hw))) (mvT hZ (w_11 hw)) (mvT hZ (w_10 hw)) (by decide) (backOf (W := 0) (rm_takes l Z a0 hw [] u6 u1 u2 u6 u7 u8 h0 n0 Z0 S1 S2 S6 S7 S8) hZ (w_12 hw) (w_6 hw) (by decide) (by decide)) q143a q143c (g := (mkF m 48 #[.val (.int iv), .val (.int (6 : Int32)), .val (.ref u6), .val (.int (1 : Int32))] [(.ref u6)])) rfl (by rw [hml]; rfl) (Steps.refl _) (argsL := []) (rest := []) (lenOf pd_1 rfl) rfl (by show 2 * 0 + _ ≤ _; exact Nat.le_of_eq rfl) (hb hby at_48) (fun _ _ => ⟨rfl, e142, (by decide : 0 + 0 ≤ _), (by decide : 0 + 0 ≤ _)⟩)
    dsimp only [Pt.U, Pt.locs, Pt.cells, Pt.slots] at X143 l143 y143 z143 st143 hQ143
    subst l143 y143 z143
    obtain ⟨rfl, N143q, e143⟩ := hQ143
    have N143 := Fr.app N142 N143q
    rw [tk] at st143
    refine own_go (fun t k => st143.trans k) ?_
    show own_Go _ _ _ _ (T143.setTop (mkF m 51 #[.val (.int iv), .val (.int (6 : Int32)), .val (.ref u6), .val (.int (1 : Int32))] [(.int (1 : Int32))]))
    refine own_go (fun t k => XS.iloadN X143.here hx rfl (hb hby at_51) rfl k) ?_
    show own_Go _ _ _ _ (T143.setTop (mkF m 52 #[.val (.int iv), .val (.int (6 : Int32)), .val (.ref u6), .val (.int (1 : Int32))] [(.int (1 : Int32)), (.int (1 : Int32))]))
    refine own_go (fun t k => XS.icmpNo X143.here hx rfl (hb hby at_52) rfl (teq (by decide : (1 : Int32) = (1 : Int32))).2 k) ?_
    show own_Go _ _ _ _ (T143.setTop (mkF m 55 #[.val (.int iv), .val (.int (6 : Int32)), .val (.ref u6), .val (.int (1 : Int32))] []))
    refine own_go (fun t k => XS.iconst X143.here hx rfl (hb hby at_55) k) ?_
    show own_Go _ _ _ _ (T143.setTop (mkF m 56 #[.val (.int iv), .val (.int (6 : Int32)), .val (.ref u6), .val (.int (1 : Int32))] [(.int (1 : Int32))]))
    refine own_go (fun t k => XS.goto X143.here hx rfl (pc0 := 56) (pc' := 60) rfl (hb hby at_56) (by decide) (by decide) k) ?_
    show own_Go _ _ _ _ (T143.setTop (mkF m 60 #[.val (.int iv), .val (.int (6 : Int32)), .val (.ref u6), .val (.int (1 : Int32))] [(.int (1 : Int32))]))
    refine own_retN X143 hx hlk (t := .boolean) hret (by simp) (hb hby at_60) ?_ (by decide) (by decide)
    rw [e143]
    exact ⟨rfl, N143⟩
  · show own_Go _ _ _ _ (s₁.setTop (mkF m 7 #[.val (.int iv), .unset, .unset, .unset] [(.int (7 : Int32))]))
    refine own_go (fun t k => XS.istoreN X0.here hx rfl (hb hby at_7) rfl (l' := #[.val (.int iv), .val (.int (7 : Int32)), .unset, .unset]) rfl k) ?_
    show own_Go _ _ _ _ (s₁.setTop (mkF m 8 #[.val (.int iv), .val (.int (7 : Int32)), .unset, .unset] []))
    refine own_go (fun t k => XS.iloadN X0.here hx rfl (hb hby at_8) rfl k) ?_
    show own_Go _ _ _ _ (s₁.setTop (mkF m 9 #[.val (.int iv), .val (.int (7 : Int32)), .unset, .unset] [(.int (7 : Int32))]))
    obtain ⟨_, _, ⟨T144, L144, k144, n144⟩, -, X144, ⟨Lc144, hQ144, l144, y144, z144⟩, st144⟩ := Jvm.LawKit.callS X0 hx (y := (⟨"com/example/compact_transform/compacttransform/xslt/KindTakesAQNamePinLaw", "kindOf", "(I)Lcom/example/compact_transform/compacttransform/xslt/XsltFunction$Kind;"⟩ : MethodName)) hown (mvT hZ (w_1 hw)) (mvT hZ (w_2 hw)) (mvT hZ (w_3 hw)) (mvT hZ (w_4 hw)) (by decide) (backOf (W := 0) (rm_kind l Z a0 hw [] (7 : Int32) u0 u1 u2 u3 u4 u5 u6 u7 u8 u9 h0 n0 Z0 S0 S1 S2 S3 S4 S5 S6 S7 S8 S9) hZ (w_4 hw) (w_3 hw) (by decide) (by decide)) (g := (mkF m 9 #[.val (.int iv), .val (.int (7 : Int32)), .unset, .unset] [(.int (7 : Int32))])) rfl (by rw [hml]; rfl) (argsL := [(.int (7 : Int32))]) (rest := []) (lenOf pd_0 rfl) rfl (by show 2 * 0 + _ ≤ _; exact Nat.le_of_eq rfl) (hb hby at_9) (fun _ _ => ⟨rfl, e0, (by decide : 0 + 0 ≤ _), (by decide : 0 + 0 ≤ _)⟩)
    dsimp only [Pt.U, Pt.locs, Pt.cells, Pt.slots] at X144 l144 y144 z144 st144 hQ144
    subst l144 y144 z144
    obtain ⟨rfl, N144q, e144⟩ := hQ144
    have N144 := Fr.app N0 N144q
    refine own_go st144 ?_
    show own_Go _ _ _ _ (T144.setTop (mkF m 12 #[.val (.int iv), .val (.int (7 : Int32)), .unset, .unset] [(.ref u7)]))
    refine own_go (fun t k => XS.astoreN X144.here hx rfl (hb hby at_12) rfl rfl (l' := #[.val (.int iv), .val (.int (7 : Int32)), .val (.ref u7), .unset]) rfl k) ?_
    show own_Go _ _ _ _ (T144.setTop (mkF m 13 #[.val (.int iv), .val (.int (7 : Int32)), .val (.ref u7), .unset] []))
    refine own_go (fun t k => XS.iloadN X144.here hx rfl (hb hby at_13) rfl k) ?_
    show own_Go _ _ _ _ (T144.setTop (mkF m 14 #[.val (.int iv), .val (.int (7 : Int32)), .val (.ref u7), .unset] [(.int (7 : Int32))]))
    refine own_go (fun t k => XS.iconst X144.here hx rfl (hb hby at_14) k) ?_
    show own_Go _ _ _ _ (T144.setTop (mkF m 15 #[.val (.int iv), .val (.int (7 : Int32)), .val (.ref u7), .unset] [(.int (1 : Int32)), (.int (7 : Int32))]))
    refine own_go (fun t k => XS.icmpNo X144.here hx rfl (hb hby at_15) rfl (feq (by decide : ¬ ((7 : Int32) = (1 : Int32)))).1 k) ?_
    show own_Go _ _ _ _ (T144.setTop (mkF m 18 #[.val (.int iv), .val (.int (7 : Int32)), .val (.ref u7), .unset] []))
    refine own_go (fun t k => XS.iloadN X144.here hx rfl (hb hby at_18) rfl k) ?_
    show own_Go _ _ _ _ (T144.setTop (mkF m 19 #[.val (.int iv), .val (.int (7 : Int32)), .val (.ref u7), .unset] [(.int (7 : Int32))]))
    refine own_go (fun t k => XS.iconst X144.here hx rfl (hb hby at_19) k) ?_
    show own_Go _ _ _ _ (T144.setTop (mkF m 20 #[.val (.int iv), .val (.int (7 : Int32)), .val (.ref u7), .unset] [(.int (2 : Int32)), (.int (7 : Int32))]))
    refine own_go (fun t k => XS.icmpYes X144.here hx rfl (pc0 := 20) (pc' := 28) rfl (hb hby at_20) rfl (feq (by decide : ¬ ((7 : Int32) = (2 : Int32)))).2 (by decide) (by decide) k) ?_
    show own_Go _ _ _ _ (T144.setTop (mkF m 28 #[.val (.int iv), .val (.int (7 : Int32)), .val (.ref u7), .unset] []))
    refine own_go (fun t k => XS.iloadN X144.here hx rfl (hb hby at_28) rfl k) ?_
    show own_Go _ _ _ _ (T144.setTop (mkF m 29 #[.val (.int iv), .val (.int (7 : Int32)), .val (.ref u7), .unset] [(.int (7 : Int32))]))
    refine own_go (fun t k => XS.bipush X144.here hx rfl (hb hby at_29) k) ?_
    show own_Go _ _ _ _ (T144.setTop (mkF m 31 #[.val (.int iv), .val (.int (7 : Int32)), .val (.ref u7), .unset] [(.int (6 : Int32)), (.int (7 : Int32))]))
    refine own_go (fun t k => XS.icmpNo X144.here hx rfl (hb hby at_31) rfl (flt (by decide : ¬ ((7 : Int32) < (6 : Int32)))).1 k) ?_
    show own_Go _ _ _ _ (T144.setTop (mkF m 34 #[.val (.int iv), .val (.int (7 : Int32)), .val (.ref u7), .unset] []))
    refine own_go (fun t k => XS.iloadN X144.here hx rfl (hb hby at_34) rfl k) ?_
    show own_Go _ _ _ _ (T144.setTop (mkF m 35 #[.val (.int iv), .val (.int (7 : Int32)), .val (.ref u7), .unset] [(.int (7 : Int32))]))
    refine own_go (fun t k => XS.bipush X144.here hx rfl (hb hby at_35) k) ?_
    show own_Go _ _ _ _ (T144.setTop (mkF m 37 #[.val (.int iv), .val (.int (7 : Int32)), .val (.ref u7), .unset] [(.int (8 : Int32)), (.int (7 : Int32))]))
    refine own_go (fun t k => XS.icmpNo X144.here hx rfl (hb hby at_37) rfl (flt (by decide : ¬ ((8 : Int32) < (7 : Int32)))).2.2.1 k) ?_
    show own_Go _ _ _ _ (T144.setTop (mkF m 40 #[.val (.int iv), .val (.int (7 : Int32)), .val (.ref u7), .unset] []))
    refine own_go (fun t k => XS.iconst X144.here hx rfl (hb hby at_40) k) ?_
    show own_Go _ _ _ _ (T144.setTop (mkF m 41 #[.val (.int iv), .val (.int (7 : Int32)), .val (.ref u7), .unset] [(.int (1 : Int32))]))
    refine own_go (fun t k => XS.istoreN X144.here hx rfl (hb hby at_41) rfl (l' := #[.val (.int iv), .val (.int (7 : Int32)), .val (.ref u7), .val (.int (1 : Int32))]) rfl k) ?_
    show own_Go _ _ _ _ (T144.setTop (mkF m 42 #[.val (.int iv), .val (.int (7 : Int32)), .val (.ref u7), .val (.int (1 : Int32))] []))
    refine own_go (fun t k => XS.goto X144.here hx rfl (pc0 := 42) (pc' := 47) rfl (hb hby at_42) (by decide) (by decide) k) ?_
    show own_Go _ _ _ _ (T144.setTop (mkF m 47 #[.val (.int iv), .val (.int (7 : Int32)), .val (.ref u7), .val (.int (1 : Int32))] []))
    refine own_go (fun t k => XS.aloadN X144.here hx rfl (hb hby at_47) rfl rfl k) ?_
    have tk : own_takes u7 u1 u2 u6 u7 u8 = (1 : Int32) := by simp [own_takes, ne_7_1, ne_7_2, ne_7_6, ne_7_8]
    show own_Go _ _ _ _ (T144.setTop (mkF m 48 #[.val (.int iv), .val (.int (7 : Int32)), .val (.ref u7), .val (.int (1 : Int32))] [(.ref u7)]))
    obtain ⟨cq145, kq145, q145a, q145b, q145c⟩ := isOf hZ e144 E7
    obtain ⟨_, _, ⟨T145, L145, k145, n145⟩, -, X145, ⟨Lc145, hQ145, l145, y145, z145⟩, st145⟩ := X144.virtualBack hx (y := (⟨"com/example/compact_transform/compacttransform/xslt/XsltFunction$Kind", "takesAQName", "()Z"⟩ : MethodName)) (z := (⟨"com/example/compact_transform/compacttransform/xslt/XsltFunction$Kind", "takesAQName", "()Z"⟩ : MethodName)) hown (mvT hZ (w_8 hw)) (mvT hZ (w_9 hw)) (notFace_of_selects (args := #[]) (mvT hZ (w_11 hw))) (mvT hZ (w_11 hw)) (mvT hZ (w_10 hw)) (by decide) (backOf (W := 0) (rm_takes l Z a0 hw [] u7 u1 u2 u6 u7 u8 h0 n0 Z0 S1 S2 S6 S7 S8) hZ (w_12 hw) (w_6 hw) (by decide) (by decide)) q145a q145c (g := (mkF m 48 #[.val (.int iv), .val (.int (7 : Int32)), .val (.ref u7), .val (.int (1 : Int32))] [(.ref u7)])) rfl (by rw [hml]; rfl) (Steps.refl _) (argsL := []) (rest := []) (lenOf pd_1 rfl) rfl (by show 2 * 0 + _ ≤ _; exact Nat.le_of_eq rfl) (hb hby at_48) (fun _ _ => ⟨rfl, e144, (by decide : 0 + 0 ≤ _), (by decide : 0 + 0 ≤ _)⟩)
    dsimp only [Pt.U, Pt.locs, Pt.cells, Pt.slots] at X145 l145 y145 z145 st145 hQ145
    subst l145 y145 z145
    obtain ⟨rfl, N145q, e145⟩ := hQ145
    have N145 := Fr.app N144 N145q
    rw [tk] at st145
    refine own_go (fun t k => st145.trans k) ?_
    show own_Go _ _ _ _ (T145.setTop (mkF m 51 #[.val (.int iv), .val (.int (7 : Int32)), .val (.ref u7), .val (.int (1 : Int32))] [(.int (1 : Int32))]))
    refine own_go (fun t k => XS.iloadN X145.here hx rfl (hb hby at_51) rfl k) ?_
    show own_Go _ _ _ _ (T145.setTop (mkF m 52 #[.val (.int iv), .val (.int (7 : Int32)), .val (.ref u7), .val (.int (1 : Int32))] [(.int (1 : Int32)), (.int (1 : Int32))]))
    refine own_go (fun t k => XS.icmpNo X145.here hx rfl (hb hby at_52) rfl (teq (by decide : (1 : Int32) = (1 : Int32))).2 k) ?_
    show own_Go _ _ _ _ (T145.setTop (mkF m 55 #[.val (.int iv), .val (.int (7 : Int32)), .val (.ref u7), .val (.int (1 : Int32))] []))
    refine own_go (fun t k => XS.iconst X145.here hx rfl (hb hby at_55) k) ?_
    show own_Go _ _ _ _ (T145.setTop (mkF m 56 #[.val (.int iv), .val (.int (7 : Int32)), .val (.ref u7), .val (.int (1 : Int32))] [(.int (1 : Int32))]))
    refine own_go (fun t k => XS.goto X145.here hx rfl (pc0 := 56) (pc' := 60) rfl (hb hby at_56) (by decide) (by decide) k) ?_
    show own_Go _ _ _ _ (T145.setTop (mkF m 60 #[.val (.int iv), .val (.int (7 : Int32)), .val (.ref u7), .val (.int (1 : Int32))] [(.int (1 : Int32))]))
    refine own_retN X145 hx hlk (t := .boolean) hret (by simp) (hb hby at_60) ?_ (by decide) (by decide)
    rw [e145]
    exact ⟨rfl, N145⟩
  · show own_Go _ _ _ _ (s₁.setTop (mkF m 7 #[.val (.int iv), .unset, .unset, .unset] [(.int (8 : Int32))]))
    refine own_go (fun t k => XS.istoreN X0.here hx rfl (hb hby at_7) rfl (l' := #[.val (.int iv), .val (.int (8 : Int32)), .unset, .unset]) rfl k) ?_
    show own_Go _ _ _ _ (s₁.setTop (mkF m 8 #[.val (.int iv), .val (.int (8 : Int32)), .unset, .unset] []))
    refine own_go (fun t k => XS.iloadN X0.here hx rfl (hb hby at_8) rfl k) ?_
    show own_Go _ _ _ _ (s₁.setTop (mkF m 9 #[.val (.int iv), .val (.int (8 : Int32)), .unset, .unset] [(.int (8 : Int32))]))
    obtain ⟨_, _, ⟨T146, L146, k146, n146⟩, -, X146, ⟨Lc146, hQ146, l146, y146, z146⟩, st146⟩ := Jvm.LawKit.callS X0 hx (y := (⟨"com/example/compact_transform/compacttransform/xslt/KindTakesAQNamePinLaw", "kindOf", "(I)Lcom/example/compact_transform/compacttransform/xslt/XsltFunction$Kind;"⟩ : MethodName)) hown (mvT hZ (w_1 hw)) (mvT hZ (w_2 hw)) (mvT hZ (w_3 hw)) (mvT hZ (w_4 hw)) (by decide) (backOf (W := 0) (rm_kind l Z a0 hw [] (8 : Int32) u0 u1 u2 u3 u4 u5 u6 u7 u8 u9 h0 n0 Z0 S0 S1 S2 S3 S4 S5 S6 S7 S8 S9) hZ (w_4 hw) (w_3 hw) (by decide) (by decide)) (g := (mkF m 9 #[.val (.int iv), .val (.int (8 : Int32)), .unset, .unset] [(.int (8 : Int32))])) rfl (by rw [hml]; rfl) (argsL := [(.int (8 : Int32))]) (rest := []) (lenOf pd_0 rfl) rfl (by show 2 * 0 + _ ≤ _; exact Nat.le_of_eq rfl) (hb hby at_9) (fun _ _ => ⟨rfl, e0, (by decide : 0 + 0 ≤ _), (by decide : 0 + 0 ≤ _)⟩)
    dsimp only [Pt.U, Pt.locs, Pt.cells, Pt.slots] at X146 l146 y146 z146 st146 hQ146
    subst l146 y146 z146
    obtain ⟨rfl, N146q, e146⟩ := hQ146
    have N146 := Fr.app N0 N146q
    refine own_go st146 ?_
    show own_Go _ _ _ _ (T146.setTop (mkF m 12 #[.val (.int iv), .val (.int (8 : Int32)), .unset, .unset] [(.ref u8)]))
    refine own_go (fun t k => XS.astoreN X146.here hx rfl (hb hby at_12) rfl rfl (l' := #[.val (.int iv), .val (.int (8 : Int32)), .val (.ref u8), .unset]) rfl k) ?_
    show own_Go _ _ _ _ (T146.setTop (mkF m 13 #[.val (.int iv), .val (.int (8 : Int32)), .val (.ref u8), .unset] []))
    refine own_go (fun t k => XS.iloadN X146.here hx rfl (hb hby at_13) rfl k) ?_
    show own_Go _ _ _ _ (T146.setTop (mkF m 14 #[.val (.int iv), .val (.int (8 : Int32)), .val (.ref u8), .unset] [(.int (8 : Int32))]))
    refine own_go (fun t k => XS.iconst X146.here hx rfl (hb hby at_14) k) ?_
    show own_Go _ _ _ _ (T146.setTop (mkF m 15 #[.val (.int iv), .val (.int (8 : Int32)), .val (.ref u8), .unset] [(.int (1 : Int32)), (.int (8 : Int32))]))
    refine own_go (fun t k => XS.icmpNo X146.here hx rfl (hb hby at_15) rfl (feq (by decide : ¬ ((8 : Int32) = (1 : Int32)))).1 k) ?_
    show own_Go _ _ _ _ (T146.setTop (mkF m 18 #[.val (.int iv), .val (.int (8 : Int32)), .val (.ref u8), .unset] []))
    refine own_go (fun t k => XS.iloadN X146.here hx rfl (hb hby at_18) rfl k) ?_
    show own_Go _ _ _ _ (T146.setTop (mkF m 19 #[.val (.int iv), .val (.int (8 : Int32)), .val (.ref u8), .unset] [(.int (8 : Int32))]))
    refine own_go (fun t k => XS.iconst X146.here hx rfl (hb hby at_19) k) ?_
    show own_Go _ _ _ _ (T146.setTop (mkF m 20 #[.val (.int iv), .val (.int (8 : Int32)), .val (.ref u8), .unset] [(.int (2 : Int32)), (.int (8 : Int32))]))
    refine own_go (fun t k => XS.icmpYes X146.here hx rfl (pc0 := 20) (pc' := 28) rfl (hb hby at_20) rfl (feq (by decide : ¬ ((8 : Int32) = (2 : Int32)))).2 (by decide) (by decide) k) ?_
    show own_Go _ _ _ _ (T146.setTop (mkF m 28 #[.val (.int iv), .val (.int (8 : Int32)), .val (.ref u8), .unset] []))
    refine own_go (fun t k => XS.iloadN X146.here hx rfl (hb hby at_28) rfl k) ?_
    show own_Go _ _ _ _ (T146.setTop (mkF m 29 #[.val (.int iv), .val (.int (8 : Int32)), .val (.ref u8), .unset] [(.int (8 : Int32))]))
    refine own_go (fun t k => XS.bipush X146.here hx rfl (hb hby at_29) k) ?_
    show own_Go _ _ _ _ (T146.setTop (mkF m 31 #[.val (.int iv), .val (.int (8 : Int32)), .val (.ref u8), .unset] [(.int (6 : Int32)), (.int (8 : Int32))]))
    refine own_go (fun t k => XS.icmpNo X146.here hx rfl (hb hby at_31) rfl (flt (by decide : ¬ ((8 : Int32) < (6 : Int32)))).1 k) ?_
    show own_Go _ _ _ _ (T146.setTop (mkF m 34 #[.val (.int iv), .val (.int (8 : Int32)), .val (.ref u8), .unset] []))
    refine own_go (fun t k => XS.iloadN X146.here hx rfl (hb hby at_34) rfl k) ?_
    show own_Go _ _ _ _ (T146.setTop (mkF m 35 #[.val (.int iv), .val (.int (8 : Int32)), .val (.ref u8), .unset] [(.int (8 : Int32))]))
    refine own_go (fun t k => XS.bipush X146.here hx rfl (hb hby at_35) k) ?_
    show own_Go _ _ _ _ (T146.setTop (mkF m 37 #[.val (.int iv), .val (.int (8 : Int32)), .val (.ref u8), .unset] [(.int (8 : Int32)), (.int (8 : Int32))]))
    refine own_go (fun t k => XS.icmpNo X146.here hx rfl (hb hby at_37) rfl (flt (by decide : ¬ ((8 : Int32) < (8 : Int32)))).2.2.1 k) ?_
    show own_Go _ _ _ _ (T146.setTop (mkF m 40 #[.val (.int iv), .val (.int (8 : Int32)), .val (.ref u8), .unset] []))
    refine own_go (fun t k => XS.iconst X146.here hx rfl (hb hby at_40) k) ?_
    show own_Go _ _ _ _ (T146.setTop (mkF m 41 #[.val (.int iv), .val (.int (8 : Int32)), .val (.ref u8), .unset] [(.int (1 : Int32))]))
    refine own_go (fun t k => XS.istoreN X146.here hx rfl (hb hby at_41) rfl (l' := #[.val (.int iv), .val (.int (8 : Int32)), .val (.ref u8), .val (.int (1 : Int32))]) rfl k) ?_
    show own_Go _ _ _ _ (T146.setTop (mkF m 42 #[.val (.int iv), .val (.int (8 : Int32)), .val (.ref u8), .val (.int (1 : Int32))] []))
    refine own_go (fun t k => XS.goto X146.here hx rfl (pc0 := 42) (pc' := 47) rfl (hb hby at_42) (by decide) (by decide) k) ?_
    show own_Go _ _ _ _ (T146.setTop (mkF m 47 #[.val (.int iv), .val (.int (8 : Int32)), .val (.ref u8), .val (.int (1 : Int32))] []))
    refine own_go (fun t k => XS.aloadN X146.here hx rfl (hb hby at_47) rfl rfl k) ?_
    have tk : own_takes u8 u1 u2 u6 u7 u8 = (1 : Int32) := by simp [own_takes, ne_8_1, ne_8_2, ne_8_6, ne_8_7]
    show own_Go _ _ _ _ (T146.setTop (mkF m 48 #[.val (.int iv), .val (.int (8 : Int32)), .val (.ref u8), .val (.int (1 : Int32))] [(.ref u8)]))
    obtain ⟨cq147, kq147, q147a, q147b, q147c⟩ := isOf hZ e146 E8
    obtain ⟨_, _, ⟨T147, L147, k147, n147⟩, -, X147, ⟨Lc147, hQ147, l147, y147, z147⟩, st147⟩ := X146.virtualBack hx (y := (⟨"com/example/compact_transform/compacttransform/xslt/XsltFunction$Kind", "takesAQName", "()Z"⟩ : MethodName)) (z := (⟨"com/example/compact_transform/compacttransform/xslt/XsltFunction$Kind", "takesAQName", "()Z"⟩ : MethodName)) hown (mvT hZ (w_8 hw)) (mvT hZ (w_9 hw)) (notFace_of_selects (args := #[]) (mvT hZ (w_11 hw))) (mvT hZ (w_11 hw)) (mvT hZ (w_10 hw)) (by decide) (backOf (W := 0) (rm_takes l Z a0 hw [] u8 u1 u2 u6 u7 u8 h0 n0 Z0 S1 S2 S6 S7 S8) hZ (w_12 hw) (w_6 hw) (by decide) (by decide)) q147a q147c (g := (mkF m 48 #[.val (.int iv), .val (.int (8 : Int32)), .val (.ref u8), .val (.int (1 : Int32))] [(.ref u8)])) rfl (by rw [hml]; rfl) (Steps.refl _) (argsL := []) (rest := []) (lenOf pd_1 rfl) rfl (by show 2 * 0 + _ ≤ _; exact Nat.le_of_eq rfl) (hb hby at_48) (fun _ _ => ⟨rfl, e146, (by decide : 0 + 0 ≤ _), (by decide : 0 + 0 ≤ _)⟩)
    dsimp only [Pt.U, Pt.locs, Pt.cells, Pt.slots] at X147 l147 y147 z147 st147 hQ147
    subst l147 y147 z147
    obtain ⟨rfl, N147q, e147⟩ := hQ147
    have N147 := Fr.app N146 N147q
    rw [tk] at st147
    refine own_go (fun t k => st147.trans k) ?_
    show own_Go _ _ _ _ (T147.setTop (mkF m 51 #[.val (.int iv), .val (.int (8 : Int32)), .val (.ref u8), .val (.int (1 : Int32))] [(.int (1 : Int32))]))
    refine own_go (fun t k => XS.iloadN X147.here hx rfl (hb hby at_51) rfl k) ?_
    show own_Go _ _ _ _ (T147.setTop (mkF m 52 #[.val (.int iv), .val (.int (8 : Int32)), .val (.ref u8), .val (.int (1 : Int32))] [(.int (1 : Int32)), (.int (1 : Int32))]))
    refine own_go (fun t k => XS.icmpNo X147.here hx rfl (hb hby at_52) rfl (teq (by decide : (1 : Int32) = (1 : Int32))).2 k) ?_
    show own_Go _ _ _ _ (T147.setTop (mkF m 55 #[.val (.int iv), .val (.int (8 : Int32)), .val (.ref u8), .val (.int (1 : Int32))] []))
    refine own_go (fun t k => XS.iconst X147.here hx rfl (hb hby at_55) k) ?_
    show own_Go _ _ _ _ (T147.setTop (mkF m 56 #[.val (.int iv), .val (.int (8 : Int32)), .val (.ref u8), .val (.int (1 : Int32))] [(.int (1 : Int32))]))
    refine own_go (fun t k => XS.goto X147.here hx rfl (pc0 := 56) (pc' := 60) rfl (hb hby at_56) (by decide) (by decide) k) ?_
    show own_Go _ _ _ _ (T147.setTop (mkF m 60 #[.val (.int iv), .val (.int (8 : Int32)), .val (.ref u8), .val (.int (1 : Int32))] [(.int (1 : Int32))]))
    refine own_retN X147 hx hlk (t := .boolean) hret (by simp) (hb hby at_60) ?_ (by decide) (by decide)
    rw [e147]
    exact ⟨rfl, N147⟩
  · show own_Go _ _ _ _ (s₁.setTop (mkF m 7 #[.val (.int iv), .unset, .unset, .unset] [(.int (9 : Int32))]))
    refine own_go (fun t k => XS.istoreN X0.here hx rfl (hb hby at_7) rfl (l' := #[.val (.int iv), .val (.int (9 : Int32)), .unset, .unset]) rfl k) ?_
    show own_Go _ _ _ _ (s₁.setTop (mkF m 8 #[.val (.int iv), .val (.int (9 : Int32)), .unset, .unset] []))
    refine own_go (fun t k => XS.iloadN X0.here hx rfl (hb hby at_8) rfl k) ?_
    show own_Go _ _ _ _ (s₁.setTop (mkF m 9 #[.val (.int iv), .val (.int (9 : Int32)), .unset, .unset] [(.int (9 : Int32))]))
    obtain ⟨_, _, ⟨T148, L148, k148, n148⟩, -, X148, ⟨Lc148, hQ148, l148, y148, z148⟩, st148⟩ := Jvm.LawKit.callS X0 hx (y := (⟨"com/example/compact_transform/compacttransform/xslt/KindTakesAQNamePinLaw", "kindOf", "(I)Lcom/example/compact_transform/compacttransform/xslt/XsltFunction$Kind;"⟩ : MethodName)) hown (mvT hZ (w_1 hw)) (mvT hZ (w_2 hw)) (mvT hZ (w_3 hw)) (mvT hZ (w_4 hw)) (by decide) (backOf (W := 0) (rm_kind l Z a0 hw [] (9 : Int32) u0 u1 u2 u3 u4 u5 u6 u7 u8 u9 h0 n0 Z0 S0 S1 S2 S3 S4 S5 S6 S7 S8 S9) hZ (w_4 hw) (w_3 hw) (by decide) (by decide)) (g := (mkF m 9 #[.val (.int iv), .val (.int (9 : Int32)), .unset, .unset] [(.int (9 : Int32))])) rfl (by rw [hml]; rfl) (argsL := [(.int (9 : Int32))]) (rest := []) (lenOf pd_0 rfl) rfl (by show 2 * 0 + _ ≤ _; exact Nat.le_of_eq rfl) (hb hby at_9) (fun _ _ => ⟨rfl, e0, (by decide : 0 + 0 ≤ _), (by decide : 0 + 0 ≤ _)⟩)
    dsimp only [Pt.U, Pt.locs, Pt.cells, Pt.slots] at X148 l148 y148 z148 st148 hQ148
    subst l148 y148 z148
    obtain ⟨rfl, N148q, e148⟩ := hQ148
    have N148 := Fr.app N0 N148q
    refine own_go st148 ?_
    show own_Go _ _ _ _ (T148.setTop (mkF m 12 #[.val (.int iv), .val (.int (9 : Int32)), .unset, .unset] [(.ref u9)]))
    refine own_go (fun t k => XS.astoreN X148.here hx rfl (hb hby at_12) rfl rfl (l' := #[.val (.int iv), .val (.int (9 : Int32)), .val (.ref u9), .unset]) rfl k) ?_
    show own_Go _ _ _ _ (T148.setTop (mkF m 13 #[.val (.int iv), .val (.int (9 : Int32)), .val (.ref u9), .unset] []))
    refine own_go (fun t k => XS.iloadN X148.here hx rfl (hb hby at_13) rfl k) ?_
    show own_Go _ _ _ _ (T148.setTop (mkF m 14 #[.val (.int iv), .val (.int (9 : Int32)), .val (.ref u9), .unset] [(.int (9 : Int32))]))
    refine own_go (fun t k => XS.iconst X148.here hx rfl (hb hby at_14) k) ?_
    show own_Go _ _ _ _ (T148.setTop (mkF m 15 #[.val (.int iv), .val (.int (9 : Int32)), .val (.ref u9), .unset] [(.int (1 : Int32)), (.int (9 : Int32))]))
    refine own_go (fun t k => XS.icmpNo X148.here hx rfl (hb hby at_15) rfl (feq (by decide : ¬ ((9 : Int32) = (1 : Int32)))).1 k) ?_
    show own_Go _ _ _ _ (T148.setTop (mkF m 18 #[.val (.int iv), .val (.int (9 : Int32)), .val (.ref u9), .unset] []))
    refine own_go (fun t k => XS.iloadN X148.here hx rfl (hb hby at_18) rfl k) ?_
    show own_Go _ _ _ _ (T148.setTop (mkF m 19 #[.val (.int iv), .val (.int (9 : Int32)), .val (.ref u9), .unset] [(.int (9 : Int32))]))
    refine own_go (fun t k => XS.iconst X148.here hx rfl (hb hby at_19) k) ?_
    show own_Go _ _ _ _ (T148.setTop (mkF m 20 #[.val (.int iv), .val (.int (9 : Int32)), .val (.ref u9), .unset] [(.int (2 : Int32)), (.int (9 : Int32))]))
    refine own_go (fun t k => XS.icmpYes X148.here hx rfl (pc0 := 20) (pc' := 28) rfl (hb hby at_20) rfl (feq (by decide : ¬ ((9 : Int32) = (2 : Int32)))).2 (by decide) (by decide) k) ?_
    show own_Go _ _ _ _ (T148.setTop (mkF m 28 #[.val (.int iv), .val (.int (9 : Int32)), .val (.ref u9), .unset] []))
    refine own_go (fun t k => XS.iloadN X148.here hx rfl (hb hby at_28) rfl k) ?_
    show own_Go _ _ _ _ (T148.setTop (mkF m 29 #[.val (.int iv), .val (.int (9 : Int32)), .val (.ref u9), .unset] [(.int (9 : Int32))]))
    refine own_go (fun t k => XS.bipush X148.here hx rfl (hb hby at_29) k) ?_
    show own_Go _ _ _ _ (T148.setTop (mkF m 31 #[.val (.int iv), .val (.int (9 : Int32)), .val (.ref u9), .unset] [(.int (6 : Int32)), (.int (9 : Int32))]))
    refine own_go (fun t k => XS.icmpNo X148.here hx rfl (hb hby at_31) rfl (flt (by decide : ¬ ((9 : Int32) < (6 : Int32)))).1 k) ?_
    show own_Go _ _ _ _ (T148.setTop (mkF m 34 #[.val (.int iv), .val (.int (9 : Int32)), .val (.ref u9), .unset] []))
    refine own_go (fun t k => XS.iloadN X148.here hx rfl (hb hby at_34) rfl k) ?_
    show own_Go _ _ _ _ (T148.setTop (mkF m 35 #[.val (.int iv), .val (.int (9 : Int32)), .val (.ref u9), .unset] [(.int (9 : Int32))]))
    refine own_go (fun t k => XS.bipush X148.here hx rfl (hb hby at_35) k) ?_
    show own_Go _ _ _ _ (T148.setTop (mkF m 37 #[.val (.int iv), .val (.int (9 : Int32)), .val (.ref u9), .unset] [(.int (8 : Int32)), (.int (9 : Int32))]))
    refine own_go (fun t k => XS.icmpYes X148.here hx rfl (pc0 := 37) (pc' := 45) rfl (hb hby at_37) rfl (tlt (by decide : (8 : Int32) < (9 : Int32))).2.2.1 (by decide) (by decide) k) ?_
    show own_Go _ _ _ _ (T148.setTop (mkF m 45 #[.val (.int iv), .val (.int (9 : Int32)), .val (.ref u9), .unset] []))
    refine own_go (fun t k => XS.iconst X148.here hx rfl (hb hby at_45) k) ?_
    show own_Go _ _ _ _ (T148.setTop (mkF m 46 #[.val (.int iv), .val (.int (9 : Int32)), .val (.ref u9), .unset] [(.int (0 : Int32))]))
    refine own_go (fun t k => XS.istoreN X148.here hx rfl (hb hby at_46) rfl (l' := #[.val (.int iv), .val (.int (9 : Int32)), .val (.ref u9), .val (.int (0 : Int32))]) rfl k) ?_
    show own_Go _ _ _ _ (T148.setTop (mkF m 47 #[.val (.int iv), .val (.int (9 : Int32)), .val (.ref u9), .val (.int (0 : Int32))] []))
    refine own_go (fun t k => XS.aloadN X148.here hx rfl (hb hby at_47) rfl rfl k) ?_
    have tk : own_takes u9 u1 u2 u6 u7 u8 = (0 : Int32) := by simp [own_takes, ne_9_1, ne_9_2, ne_9_6, ne_9_7, ne_9_8]
    show own_Go _ _ _ _ (T148.setTop (mkF m 48 #[.val (.int iv), .val (.int (9 : Int32)), .val (.ref u9), .val (.int (0 : Int32))] [(.ref u9)]))
    obtain ⟨cq149, kq149, q149a, q149b, q149c⟩ := isOf hZ e148 E9
    obtain ⟨_, _, ⟨T149, L149, k149, n149⟩, -, X149, ⟨Lc149, hQ149, l149, y149, z149⟩, st149⟩ := X148.virtualBack hx (y := (⟨"com/example/compact_transform/compacttransform/xslt/XsltFunction$Kind", "takesAQName", "()Z"⟩ : MethodName)) (z := (⟨"com/example/compact_transform/compacttransform/xslt/XsltFunction$Kind", "takesAQName", "()Z"⟩ : MethodName)) hown (mvT hZ (w_8 hw)) (mvT hZ (w_9 hw)) (notFace_of_selects (args := #[]) (mvT hZ (w_11 hw))) (mvT hZ (w_11 hw)) (mvT hZ (w_10 hw)) (by decide) (backOf (W := 0) (rm_takes l Z a0 hw [] u9 u1 u2 u6 u7 u8 h0 n0 Z0 S1 S2 S6 S7 S8) hZ (w_12 hw) (w_6 hw) (by decide) (by decide)) q149a q149c (g := (mkF m 48 #[.val (.int iv), .val (.int (9 : Int32)), .val (.ref u9), .val (.int (0 : Int32))] [(.ref u9)])) rfl (by rw [hml]; rfl) (Steps.refl _) (argsL := []) (rest := []) (lenOf pd_1 rfl) rfl (by show 2 * 0 + _ ≤ _; exact Nat.le_of_eq rfl) (hb hby at_48) (fun _ _ => ⟨rfl, e148, (by decide : 0 + 0 ≤ _), (by decide : 0 + 0 ≤ _)⟩)
    dsimp only [Pt.U, Pt.locs, Pt.cells, Pt.slots] at X149 l149 y149 z149 st149 hQ149
    subst l149 y149 z149
    obtain ⟨rfl, N149q, e149⟩ := hQ149
    have N149 := Fr.app N148 N149q
    rw [tk] at st149
    refine own_go (fun t k => st149.trans k) ?_
    show own_Go _ _ _ _ (T149.setTop (mkF m 51 #[.val (.int iv), .val (.int (9 : Int32)), .val (.ref u9), .val (.int (0 : Int32))] [(.int (0 : Int32))]))
    refine own_go (fun t k => XS.iloadN X149.here hx rfl (hb hby at_51) rfl k) ?_
    show own_Go _ _ _ _ (T149.setTop (mkF m 52 #[.val (.int iv), .val (.int (9 : Int32)), .val (.ref u9), .val (.int (0 : Int32))] [(.int (0 : Int32)), (.int (0 : Int32))]))
    refine own_go (fun t k => XS.icmpNo X149.here hx rfl (hb hby at_52) rfl (teq (by decide : (0 : Int32) = (0 : Int32))).2 k) ?_
    show own_Go _ _ _ _ (T149.setTop (mkF m 55 #[.val (.int iv), .val (.int (9 : Int32)), .val (.ref u9), .val (.int (0 : Int32))] []))
    refine own_go (fun t k => XS.iconst X149.here hx rfl (hb hby at_55) k) ?_
    show own_Go _ _ _ _ (T149.setTop (mkF m 56 #[.val (.int iv), .val (.int (9 : Int32)), .val (.ref u9), .val (.int (0 : Int32))] [(.int (1 : Int32))]))
    refine own_go (fun t k => XS.goto X149.here hx rfl (pc0 := 56) (pc' := 60) rfl (hb hby at_56) (by decide) (by decide) k) ?_
    show own_Go _ _ _ _ (T149.setTop (mkF m 60 #[.val (.int iv), .val (.int (9 : Int32)), .val (.ref u9), .val (.int (0 : Int32))] [(.int (1 : Int32))]))
    refine own_retN X149 hx hlk (t := .boolean) hret (by simp) (hb hby at_60) ?_ (by decide) (by decide)
    rw [e149]
    exact ⟨rfl, N149⟩
theorem w_7 {Z : State} {a0 : Array Value} (hw : ∀ d ∈ tables_1, d.before a0 Z = true) : (Jvm.Cond.laysStatic "com/example/compact_transform/compacttransform/xslt/XsltFunction$Kind" "DOCUMENT" "Lcom/example/compact_transform/compacttransform/xslt/XsltFunction$Kind;").before a0 Z = true := hw _ (List.mem_of_getElem? (i := 7) rfl)
theorem w_14 {Z : State} {a0 : Array Value} (hw : ∀ d ∈ tables_1, d.before a0 Z = true) : (Jvm.Cond.laysStatic "com/example/compact_transform/compacttransform/xslt/XsltFunction$Kind" "KEY" "Lcom/example/compact_transform/compacttransform/xslt/XsltFunction$Kind;").before a0 Z = true := hw _ (List.mem_of_getElem? (i := 14) rfl)
theorem w_16 {Z : State} {a0 : Array Value} (hw : ∀ d ∈ tables_1, d.before a0 Z = true) : (Jvm.Cond.laysStatic "com/example/compact_transform/compacttransform/xslt/XsltFunction$Kind" "FORMAT_NUMBER" "Lcom/example/compact_transform/compacttransform/xslt/XsltFunction$Kind;").before a0 Z = true := hw _ (List.mem_of_getElem? (i := 16) rfl)
theorem w_24 {Z : State} {a0 : Array Value} (hw : ∀ d ∈ tables_1, d.before a0 Z = true) : (Jvm.Cond.laysStatic "com/example/compact_transform/compacttransform/xslt/XsltFunction$Kind" "CURRENT" "Lcom/example/compact_transform/compacttransform/xslt/XsltFunction$Kind;").before a0 Z = true := hw _ (List.mem_of_getElem? (i := 24) rfl)
theorem w_27 {Z : State} {a0 : Array Value} (hw : ∀ d ∈ tables_1, d.before a0 Z = true) : (Jvm.Cond.laysStatic "com/example/compact_transform/compacttransform/xslt/XsltFunction$Kind" "GENERATE_ID" "Lcom/example/compact_transform/compacttransform/xslt/XsltFunction$Kind;").before a0 Z = true := hw _ (List.mem_of_getElem? (i := 27) rfl)
theorem w_34 {Z : State} {a0 : Array Value} (hw : ∀ d ∈ tables_1, d.before a0 Z = true) : (Jvm.Cond.laysStatic "com/example/compact_transform/compacttransform/xslt/XsltFunction$Kind" "UNPARSED_ENTITY_URI" "Lcom/example/compact_transform/compacttransform/xslt/XsltFunction$Kind;").before a0 Z = true := hw _ (List.mem_of_getElem? (i := 34) rfl)
theorem w_18 {Z : State} {a0 : Array Value} (hw : ∀ d ∈ tables_1, d.before a0 Z = true) : (Jvm.Cond.laysStatic "com/example/compact_transform/compacttransform/xslt/XsltFunction$Kind" "ELEMENT_AVAILABLE" "Lcom/example/compact_transform/compacttransform/xslt/XsltFunction$Kind;").before a0 Z = true := hw _ (List.mem_of_getElem? (i := 18) rfl)
theorem w_20 {Z : State} {a0 : Array Value} (hw : ∀ d ∈ tables_1, d.before a0 Z = true) : (Jvm.Cond.laysStatic "com/example/compact_transform/compacttransform/xslt/XsltFunction$Kind" "FUNCTION_AVAILABLE" "Lcom/example/compact_transform/compacttransform/xslt/XsltFunction$Kind;").before a0 Z = true := hw _ (List.mem_of_getElem? (i := 20) rfl)
theorem w_22 {Z : State} {a0 : Array Value} (hw : ∀ d ∈ tables_1, d.before a0 Z = true) : (Jvm.Cond.laysStatic "com/example/compact_transform/compacttransform/xslt/XsltFunction$Kind" "SYSTEM_PROPERTY" "Lcom/example/compact_transform/compacttransform/xslt/XsltFunction$Kind;").before a0 Z = true := hw _ (List.mem_of_getElem? (i := 22) rfl)
theorem w_32 {Z : State} {a0 : Array Value} (hw : ∀ d ∈ tables_1, d.before a0 Z = true) : (Jvm.Cond.laysStatic "com/example/compact_transform/compacttransform/xslt/XsltFunction$Kind" "NODE_SET" "Lcom/example/compact_transform/compacttransform/xslt/XsltFunction$Kind;").before a0 Z = true := hw _ (List.mem_of_getElem? (i := 32) rfl)
set_option maxRecDepth 65536 in
set_option maxHeartbeats 40000000 in
theorem comes_1 {Post : Tables → Env → Array Value → State → Outcome → State → Prop} (hpost : ∀ tb e args s v u, (limb_1_1.after args s (.returned v) u = true ∧ limb_1_2.after args s (.returned v) u = true ∧ True) → FrameEnd s (.returned v) u (Jvm.fieldLocs frame_1_writes args s ++ Jvm.arrayLocs frame_1_arrays args s ++ Jvm.staticLocs frame_1_statics s) 0 0 → Post tb e args s (.returned v) u) :
    ArmFor flags0 classFile x code maxLocals ret World_1 tables_1 room_1 Calls_1 rest_1 Pre_1 Post := by
  intro l hfl _ _ p e ha hc hk s m args below hf hA hF happ hP
  obtain ⟨hcalls, hrest, hpre⟩ := hP
  obtain ⟨-, -, -, hnamed, -, -, -, hat⟩ := (Spec.applies_iff hf).mp happ
  obtain ⟨hg, hn⟩ := and_e (Cond.before_iff.mp (show (Jvm.Cond.and given_1 narrow_1).before args s = true from hpre))
  obtain ⟨g1, g2⟩ := and_e hg
  obtain ⟨n1, n2⟩ := and_e hn
  obtain ⟨n3, n4⟩ := and_e n2
  obtain ⟨n5, n6⟩ := and_e n4
  obtain ⟨n7, n8⟩ := and_e n6
  obtain ⟨n9, n10⟩ := and_e n8
  obtain ⟨n11, n12⟩ := and_e n10
  obtain ⟨n13, n14⟩ := and_e n12
  obtain ⟨n15, n16⟩ := and_e n14
  obtain ⟨n17, n18⟩ := and_e n16
  obtain ⟨n19, n20⟩ := and_e n18
  obtain ⟨n21, n22⟩ := and_e n20
  obtain ⟨n23, n24⟩ := and_e n22
  obtain ⟨n25, n26⟩ := and_e n24
  obtain ⟨n27, n28⟩ := and_e n26
  obtain ⟨n29, n30⟩ := and_e n28
  obtain ⟨n31, n32⟩ := and_e n30
  obtain ⟨n33, n34⟩ := and_e n32
  obtain ⟨n35, n36⟩ := and_e n34
  obtain ⟨n37, n38⟩ := and_e n36
  obtain ⟨w0, rfl⟩ : ∃ w0 : Value, args = #[w0] := by
    have hs : args.size = 1 := by simpa [Cond.value, given_1] using g1
    obtain ⟨L⟩ := args
    match L, hs with
    | [w0], _ => exact ⟨w0, rfl⟩
  have hw := fun d (hd : d ∈ tables_1) => atoms_spec (ws := Jvm.Cond.code x code maxLocals ret :: tables_1) hat d (List.mem_cons_of_mem _ hd)
  have hfit : Fit s := fun {y c} hc i hi => by
    obtain ⟨ha, rfl⟩ := Array.getElem?_eq_some_iff.mp hc
    have q := List.all_eq_true.mp ((Array.all_eq_true_iff_forall_mem.mp hF) _ (Array.getElem_mem ha)) i (List.mem_range.mpr hi)
    simpa [Array.getElem?_eq_getElem hi] using q
  obtain ⟨i0, ei0⟩ := is_v g2
  obtain rfl : w0 = (.int i0) := Option.some.inj ei0
  obtain ⟨u0, ev0⟩ := exa_v n1
  have E0 := Exa.start ev0 n1
  have F0 := own_fld ev0 n5
  have S0 := Sta.start ev0 (Or.inr ⟨(w_6 hw), (w_7 hw)⟩)
  obtain ⟨u1, ev1⟩ := exa_v n3
  have E1 := Exa.start ev1 n3
  have F1 := own_fld ev1 n7
  have S1 := Sta.start ev1 (Or.inr ⟨(w_6 hw), (w_14 hw)⟩)
  obtain ⟨u2, ev2⟩ := exa_v n9
  have E2 := Exa.start ev2 n9
  have F2 := own_fld ev2 n11
  have S2 := Sta.start ev2 (Or.inr ⟨(w_6 hw), (w_16 hw)⟩)
  obtain ⟨u3, ev3⟩ := exa_v n25
  have E3 := Exa.start ev3 n25
  have F3 := own_fld ev3 n27
  have S3 := Sta.start ev3 (Or.inr ⟨(w_6 hw), (w_24 hw)⟩)
  obtain ⟨u4, ev4⟩ := exa_v n29
  have E4 := Exa.start ev4 n29
  have F4 := own_fld ev4 n31
  have S4 := Sta.start ev4 (Or.inr ⟨(w_6 hw), (w_27 hw)⟩)
  obtain ⟨u5, ev5⟩ := exa_v n37
  have E5 := Exa.start ev5 n37
  have F5 := own_fld ev5 n38
  have S5 := Sta.start ev5 (Or.inr ⟨(w_6 hw), (w_34 hw)⟩)
  obtain ⟨u6, ev6⟩ := exa_v n13
  have E6 := Exa.start ev6 n13
  have F6 := own_fld ev6 n15
  have S6 := Sta.start ev6 (Or.inr ⟨(w_6 hw), (w_18 hw)⟩)
  obtain ⟨u7, ev7⟩ := exa_v n17
  have E7 := Exa.start ev7 n17
  have F7 := own_fld ev7 n19
  have S7 := Sta.start ev7 (Or.inr ⟨(w_6 hw), (w_20 hw)⟩)
  obtain ⟨u8, ev8⟩ := exa_v n21
  have E8 := Exa.start ev8 n21
  have F8 := own_fld ev8 n23
  have S8 := Sta.start ev8 (Or.inr ⟨(w_6 hw), (w_22 hw)⟩)
  obtain ⟨u9, ev9⟩ := exa_v n33
  have E9 := Exa.start ev9 n33
  have F9 := own_fld ev9 n35
  have S9 := Sta.start ev9 (Or.inr ⟨(w_6 hw), (w_32 hw)⟩)
  have ne_0_1 : ¬ u0 = u1 := F0.ne F1 (by decide)
  have ne_0_2 : ¬ u0 = u2 := F0.ne F2 (by decide)
  have ne_0_6 : ¬ u0 = u6 := F0.ne F6 (by decide)
  have ne_0_7 : ¬ u0 = u7 := F0.ne F7 (by decide)
  have ne_0_8 : ¬ u0 = u8 := F0.ne F8 (by decide)
  have ne_1_2 : ¬ u1 = u2 := F1.ne F2 (by decide)
  have ne_1_6 : ¬ u1 = u6 := F1.ne F6 (by decide)
  have ne_1_7 : ¬ u1 = u7 := F1.ne F7 (by decide)
  have ne_1_8 : ¬ u1 = u8 := F1.ne F8 (by decide)
  have ne_2_1 : ¬ u2 = u1 := F2.ne F1 (by decide)
  have ne_2_6 : ¬ u2 = u6 := F2.ne F6 (by decide)
  have ne_2_7 : ¬ u2 = u7 := F2.ne F7 (by decide)
  have ne_2_8 : ¬ u2 = u8 := F2.ne F8 (by decide)
  have ne_3_1 : ¬ u3 = u1 := F3.ne F1 (by decide)
  have ne_3_2 : ¬ u3 = u2 := F3.ne F2 (by decide)
  have ne_3_6 : ¬ u3 = u6 := F3.ne F6 (by decide)
  have ne_3_7 : ¬ u3 = u7 := F3.ne F7 (by decide)
  have ne_3_8 : ¬ u3 = u8 := F3.ne F8 (by decide)
  have ne_4_1 : ¬ u4 = u1 := F4.ne F1 (by decide)
  have ne_4_2 : ¬ u4 = u2 := F4.ne F2 (by decide)
  have ne_4_6 : ¬ u4 = u6 := F4.ne F6 (by decide)
  have ne_4_7 : ¬ u4 = u7 := F4.ne F7 (by decide)
  have ne_4_8 : ¬ u4 = u8 := F4.ne F8 (by decide)
  have ne_5_1 : ¬ u5 = u1 := F5.ne F1 (by decide)
  have ne_5_2 : ¬ u5 = u2 := F5.ne F2 (by decide)
  have ne_5_6 : ¬ u5 = u6 := F5.ne F6 (by decide)
  have ne_5_7 : ¬ u5 = u7 := F5.ne F7 (by decide)
  have ne_5_8 : ¬ u5 = u8 := F5.ne F8 (by decide)
  have ne_6_1 : ¬ u6 = u1 := F6.ne F1 (by decide)
  have ne_6_2 : ¬ u6 = u2 := F6.ne F2 (by decide)
  have ne_6_7 : ¬ u6 = u7 := F6.ne F7 (by decide)
  have ne_6_8 : ¬ u6 = u8 := F6.ne F8 (by decide)
  have ne_7_1 : ¬ u7 = u1 := F7.ne F1 (by decide)
  have ne_7_2 : ¬ u7 = u2 := F7.ne F2 (by decide)
  have ne_7_6 : ¬ u7 = u6 := F7.ne F6 (by decide)
  have ne_7_8 : ¬ u7 = u8 := F7.ne F8 (by decide)
  have ne_8_1 : ¬ u8 = u1 := F8.ne F1 (by decide)
  have ne_8_2 : ¬ u8 = u2 := F8.ne F2 (by decide)
  have ne_8_6 : ¬ u8 = u6 := F8.ne F6 (by decide)
  have ne_8_7 : ¬ u8 = u7 := F8.ne F7 (by decide)
  have ne_9_1 : ¬ u9 = u1 := F9.ne F1 (by decide)
  have ne_9_2 : ¬ u9 = u2 := F9.ne F2 (by decide)
  have ne_9_6 : ¬ u9 = u6 := F9.ne F6 (by decide)
  have ne_9_7 : ¬ u9 = u7 := F9.ne F7 (by decide)
  have ne_9_8 : ¬ u9 = u8 := F9.ne F8 (by decide)
  obtain ⟨n, o, h1, h2, h3, _, L, rfl, ⟨rfl, N⟩, hq⟩ := rm_law l s _ hw tables_1 i0 u0 u1 u2 u3 u4 u5 u6 u7 u8 u9 s.heap s.heap.size (Nat.le_refl _) S0 S1 S2 S3 S4 S5 S6 S7 S8 S9 E0 E1 E2 E3 E4 E5 E6 E7 E8 E9 ne_0_1 ne_0_2 ne_0_6 ne_0_7 ne_0_8 ne_1_2 ne_1_6 ne_1_7 ne_1_8 ne_2_1 ne_2_6 ne_2_7 ne_2_8 ne_3_1 ne_3_2 ne_3_6 ne_3_7 ne_3_8 ne_4_1 ne_4_2 ne_4_6 ne_4_7 ne_4_8 ne_5_1 ne_5_2 ne_5_6 ne_5_7 ne_5_8 ne_6_1 ne_6_2 ne_6_7 ne_6_8 ne_7_1 ne_7_2 ne_7_6 ne_7_8 ne_8_1 ne_8_2 ne_8_6 ne_8_7 ne_9_1 ne_9_2 ne_9_6 ne_9_7 ne_9_8 p e ha hc hk s m _ below hf ((Spec.applies_iff_loose hf).mp happ).1 ⟨rfl, State.Warmed39.refl s, rfl⟩ trivial
  refine ⟨n, _, h1, h2, h3, hpost _ _ _ _ _ _ ⟨Cond.after_iff.mpr rfl, Cond.after_iff.mpr (eq_i res_at (Term.int_eval (1)) rfl), trivial⟩ ⟨hq.1, hq.2.1, (hq.2.2.sift fun y hy => Or.inr (N y hy)).mono (by decide) (by decide)⟩⟩
theorem main_1_1 : Claimed_1_1 := comes_1 fun _ _ _ _ _ _ h hF => ⟨h.1, hF⟩
theorem main_1_2 : Claimed_1_2 := comes_1 fun _ _ _ _ _ _ h hF => ⟨h.2.1, hF⟩
end Jvm.Pilot.@@N@@
namespace Jvm.Pilot.@@N@@
open Jvm Jvm.ClassFile Sem Op Lib Jvm.Free Jvm.Stand Jvm.Pilot.@@N@@.Jvm.D
/-! MADE BY PROGRAM (witnessworld.py) out of the Statement's table words and the real class files: 12 classes; the members and pool entries that the words name. The judged class is class 1, her method 2. -/
namespace start1
open Jvm.ClassFile
def u (s : String) : CpInfo := .utf8 (stringToUtf16 s)
/-- a pool by its gaps: so many unusable entries, then the entry; so many at the end -/
def gap : Nat → List CpInfo → List CpInfo
  | 0, r => r
  | n + 1, r => .unusable :: gap n r
def poolList (es : List (Nat × CpInfo)) (last : Nat) : List CpInfo := es.foldr (fun e r => gap e.1 (e.2 :: r)) (gap last [])
def pool (es : List (Nat × CpInfo)) (last : Nat) : Array CpInfo := ⟨poolList es last⟩
def fileOf (pool : Array CpInfo) (this : Nat) (attrs : Array Attribute := #[]) (ms : Array MethodInfo := #[]) (fl : Nat := 33) (sup : Nat := 0) (ifs : Array Nat := #[]) (fds : Array FieldInfo := #[]) : ClassFile where
  minorVersion := 0
  majorVersion := 65
  constantPool := pool
  accessFlags := fl
  thisClass := this
  superClass := sup
  interfaces := ifs
  fields := fds
  methods := ms
  attributes := attrs
def plain (name : String) (sup : Option ClassId) : Class where
  name := name
  kind := .ordinary
  loader := none
  accessFlags := 33
  super := sup
  interfaces := #[]
  cf := none
  fields := #[]
  methods := #[]
  instanceTypes := #[]
  staticTypes := #[]
  resolved := #[]
  callSites := []
  init := .initialized
  statics := none
  mirror := none

def pool0 : Array CpInfo := pool [(5, u "<init>"), (0, u "()V"), (1, .class_ 10), (1, u "java/lang/Object")] 113

def k0m0 : Method := { name := "<init>", desc := "()V", sig := { parameters := [], returnType := none }, accessFlags := 1, code := none }
/-- java/lang/Object -/
def k0 : Class := { plain "java/lang/Object" none with
  accessFlags := 33
  interfaces := #[]
  cf := some (fileOf pool0 8 #[] #[{ accessFlags := 1, nameIndex := 5, descriptorIndex := 6, attributes := #[] }] 33 0 #[] #[])
  fields := #[]
  methods := #[k0m0]
  instanceTypes := #[]
  staticTypes := #[]
  resolved := Array.replicate 124 none
  statics := none }

def pool1 : Array CpInfo := pool [(2, .class_ 4), (1, u "java/lang/Object"), (0, u "<init>"), (0, u "()V"), (0, .fieldref 8 9), (0, .class_ 10), (0, .nameAndType 11 12), (0, u "com/example/compact_transform/compacttransform/xslt/XsltFunction$Kind"), (0, u "DOCUMENT"), (0, u "Lcom/example/compact_transform/compacttransform/xslt/XsltFunction$Kind;"), (0, .fieldref 8 14), (0, .nameAndType 15 12), (0, u "KEY"), (0, .fieldref 8 17), (0, .nameAndType 18 12), (0, u "FORMAT_NUMBER"), (0, .fieldref 8 20), (0, .nameAndType 21 12), (0, u "CURRENT"), (0, .fieldref 8 23), (0, .nameAndType 24 12), (0, u "GENERATE_ID"), (0, .fieldref 8 26), (0, .nameAndType 27 12), (0, u "UNPARSED_ENTITY_URI"), (0, .fieldref 8 29), (0, .nameAndType 30 12), (0, u "ELEMENT_AVAILABLE"), (0, .fieldref 8 32), (0, .nameAndType 33 12), (0, u "FUNCTION_AVAILABLE"), (0, .fieldref 8 35), (0, .nameAndType 36 12), (0, u "SYSTEM_PROPERTY"), (0, .fieldref 8 38), (0, .nameAndType 39 12), (0, u "NODE_SET"), (0, .integer 2147483647), (0, .methodref 42 43), (0, .class_ 44), (0, .nameAndType 45 46), (0, u "com/example/compact_transform/compacttransform/xslt/KindTakesAQNamePinLaw"), (0, u "kindOf"), (0, u "(I)Lcom/example/compact_transform/compacttransform/xslt/XsltFunction$Kind;"), (0, .methodref 8 48), (0, .nameAndType 49 50), (0, u "takesAQName"), (0, u "()Z"), (3, u "law"), (0, u "(I)Z")] 6

def k1m0 : Method := { name := "<init>", desc := "()V", sig := { parameters := [], returnType := none }, accessFlags := 2, code := none }
def k1c1 : Code := { maxStack := 2, maxLocals := 1, code := method_2_code, exceptionTable := #[], attributes := #[] }
def k1m1 : Method := { name := "kindOf", desc := "(I)Lcom/example/compact_transform/compacttransform/xslt/XsltFunction$Kind;", sig := { parameters := [.int], returnType := some (.object "com/example/compact_transform/compacttransform/xslt/XsltFunction$Kind") }, accessFlags := 10, code := some k1c1 }
def k1c2 : Code := { maxStack := 2, maxLocals := 4, code := code, exceptionTable := #[], attributes := #[] }
def k1m2 : Method := { name := "law", desc := "(I)Z", sig := { parameters := [.int], returnType := some .boolean }, accessFlags := 9, code := some k1c2 }
/-- com/example/compact_transform/compacttransform/xslt/KindTakesAQNamePinLaw -/
def k1 : Class := { plain "com/example/compact_transform/compacttransform/xslt/KindTakesAQNamePinLaw" (some 0) with
  accessFlags := 49
  interfaces := #[]
  cf := some (fileOf pool1 42 #[] #[{ accessFlags := 2, nameIndex := 5, descriptorIndex := 6, attributes := #[] }, { accessFlags := 10, nameIndex := 45, descriptorIndex := 46, attributes := #[] }, { accessFlags := 9, nameIndex := 54, descriptorIndex := 55, attributes := #[] }] 49 2 #[] #[])
  fields := #[]
  methods := #[k1m0, k1m1, k1m2]
  instanceTypes := #[]
  staticTypes := #[]
  resolved := Array.replicate 62 none
  statics := none }

def pool2 : Array CpInfo := pool [(1, .class_ 2), (0, u "java/lang/constant/Constable"), (0, .class_ 4), (0, u "java/lang/Object")] 6

/-- java/lang/constant/Constable -/
def k2 : Class := { plain "java/lang/constant/Constable" (some 0) with
  accessFlags := 1537
  interfaces := #[]
  cf := some (fileOf pool2 1 #[] #[] 1537 3 #[] #[])
  fields := #[]
  methods := #[]
  instanceTypes := #[]
  staticTypes := #[]
  resolved := Array.replicate 11 none
  statics := none }

def pool3 : Array CpInfo := pool [(1, .class_ 2), (0, u "java/lang/Comparable"), (0, .class_ 4), (0, u "java/lang/Object")] 7

/-- java/lang/Comparable -/
def k3 : Class := { plain "java/lang/Comparable" (some 0) with
  accessFlags := 1537
  interfaces := #[]
  cf := some (fileOf pool3 1 #[] #[] 1537 3 #[] #[])
  fields := #[]
  methods := #[]
  instanceTypes := #[]
  staticTypes := #[]
  resolved := Array.replicate 12 none
  statics := none }

def pool4 : Array CpInfo := pool [(1, .class_ 2), (0, u "java/io/Serializable"), (0, .class_ 4), (0, u "java/lang/Object")] 2

/-- java/io/Serializable -/
def k4 : Class := { plain "java/io/Serializable" (some 0) with
  accessFlags := 1537
  interfaces := #[]
  cf := some (fileOf pool4 1 #[] #[] 1537 3 #[] #[])
  fields := #[]
  methods := #[]
  instanceTypes := #[]
  staticTypes := #[]
  resolved := Array.replicate 7 none
  statics := none }

def pool5 : Array CpInfo := pool [(2, .class_ 4), (1, u "java/lang/Enum"), (0, u "name"), (0, u "Ljava/lang/String;"), (2, u "ordinal"), (0, u "I"), (1, .class_ 14), (1, u "java/lang/Object"), (4, u "hash"), (86, .class_ 108), (1, u "java/lang/Enum$EnumDesc"), (2, .class_ 112), (0, u "java/lang/constant/Constable"), (0, .class_ 114), (0, u "java/lang/Comparable"), (0, .class_ 116), (0, u "java/io/Serializable")] 87

/-- java/lang/Enum -/
def k5 : Class := { plain "java/lang/Enum" (some 0) with
  accessFlags := 1057
  interfaces := #[2, 3, 4]
  cf := some (fileOf pool5 2 #[.nestMembers #[106]] #[] 1057 12 #[111, 113, 115] #[{ accessFlags := 18, nameIndex := 5, descriptorIndex := 6, attributes := #[] }, { accessFlags := 18, nameIndex := 9, descriptorIndex := 10, attributes := #[] }, { accessFlags := 2, nameIndex := 19, descriptorIndex := 10, attributes := #[] }])
  fields := #[{ name := "name", type := (.object "java/lang/String"), accessFlags := 18, slot := 0, constantValue := 0 }, { name := "ordinal", type := .int, accessFlags := 18, slot := 1, constantValue := 0 }, { name := "hash", type := .int, accessFlags := 2, slot := 2, constantValue := 0 }]
  methods := #[]
  instanceTypes := #[(.object "java/lang/String"), .int, .int]
  staticTypes := #[]
  resolved := Array.replicate 204 none
  statics := none }

def pool6 : Array CpInfo := pool [(1, .class_ 2), (0, u "com/example/compact_transform/compacttransform/xslt/XsltFunction$Kind"), (2, u "DOCUMENT"), (0, u "Lcom/example/compact_transform/compacttransform/xslt/XsltFunction$Kind;"), (0, .fieldref 1 8), (0, .nameAndType 9 6), (0, u "KEY"), (0, .fieldref 1 11), (0, .nameAndType 12 6), (0, u "FORMAT_NUMBER"), (2, u "CURRENT"), (2, u "GENERATE_ID"), (2, u "UNPARSED_ENTITY_URI"), (0, .fieldref 1 23), (0, .nameAndType 24 6), (0, u "ELEMENT_AVAILABLE"), (0, .fieldref 1 26), (0, .nameAndType 27 6), (0, u "FUNCTION_AVAILABLE"), (0, .fieldref 1 29), (0, .nameAndType 30 6), (0, u "SYSTEM_PROPERTY"), (2, u "NODE_SET"), (2, u "$VALUES"), (0, u "[Lcom/example/compact_transform/compacttransform/xslt/XsltFunction$Kind;"), (6, .class_ 46), (1, u "java/lang/Enum"), (18, u "functionName"), (0, u "Lcom/example/compact_transform/compacttransform/tree/ExpandedName;"), (2, u "minArguments"), (0, u "I"), (2, u "maxArguments"), (11, u "description"), (0, u "Ljava/lang/String;"), (55, u "takesAQName"), (0, u "()Z"), (9, .class_ 154), (0, u "com/example/compact_transform/compacttransform/xslt/XsltFunction")] 16

def k6c0 : Code := { maxStack := 2, maxLocals := 1, code := prog_274_method_5_code, exceptionTable := #[], attributes := #[] }
def k6m0 : Method := { name := "takesAQName", desc := "()Z", sig := { parameters := [], returnType := some .boolean }, accessFlags := 0, code := some k6c0 }
/-- com/example/compact_transform/compacttransform/xslt/XsltFunction$Kind -/
def k6 : Class := { plain "com/example/compact_transform/compacttransform/xslt/XsltFunction$Kind" (some 5) with
  accessFlags := 16432
  interfaces := #[]
  cf := some (fileOf pool6 1 #[.nestHost 153] #[{ accessFlags := 0, nameIndex := 142, descriptorIndex := 143, attributes := #[] }] 16432 44 #[] #[{ accessFlags := 16409, nameIndex := 5, descriptorIndex := 6, attributes := #[] }, { accessFlags := 16409, nameIndex := 9, descriptorIndex := 6, attributes := #[] }, { accessFlags := 16409, nameIndex := 12, descriptorIndex := 6, attributes := #[] }, { accessFlags := 16409, nameIndex := 15, descriptorIndex := 6, attributes := #[] }, { accessFlags := 16409, nameIndex := 18, descriptorIndex := 6, attributes := #[] }, { accessFlags := 16409, nameIndex := 21, descriptorIndex := 6, attributes := #[] }, { accessFlags := 16409, nameIndex := 24, descriptorIndex := 6, attributes := #[] }, { accessFlags := 16409, nameIndex := 27, descriptorIndex := 6, attributes := #[] }, { accessFlags := 16409, nameIndex := 30, descriptorIndex := 6, attributes := #[] }, { accessFlags := 16409, nameIndex := 33, descriptorIndex := 6, attributes := #[] }, { accessFlags := 18, nameIndex := 65, descriptorIndex := 66, attributes := #[] }, { accessFlags := 18, nameIndex := 69, descriptorIndex := 70, attributes := #[] }, { accessFlags := 18, nameIndex := 73, descriptorIndex := 70, attributes := #[] }, { accessFlags := 18, nameIndex := 85, descriptorIndex := 86, attributes := #[] }, { accessFlags := 4122, nameIndex := 36, descriptorIndex := 37, attributes := #[] }])
  fields := #[{ name := "DOCUMENT", type := (.object "com/example/compact_transform/compacttransform/xslt/XsltFunction$Kind"), accessFlags := 16409, slot := 0, constantValue := 0 }, { name := "KEY", type := (.object "com/example/compact_transform/compacttransform/xslt/XsltFunction$Kind"), accessFlags := 16409, slot := 1, constantValue := 0 }, { name := "FORMAT_NUMBER", type := (.object "com/example/compact_transform/compacttransform/xslt/XsltFunction$Kind"), accessFlags := 16409, slot := 2, constantValue := 0 }, { name := "CURRENT", type := (.object "com/example/compact_transform/compacttransform/xslt/XsltFunction$Kind"), accessFlags := 16409, slot := 3, constantValue := 0 }, { name := "GENERATE_ID", type := (.object "com/example/compact_transform/compacttransform/xslt/XsltFunction$Kind"), accessFlags := 16409, slot := 4, constantValue := 0 }, { name := "UNPARSED_ENTITY_URI", type := (.object "com/example/compact_transform/compacttransform/xslt/XsltFunction$Kind"), accessFlags := 16409, slot := 5, constantValue := 0 }, { name := "ELEMENT_AVAILABLE", type := (.object "com/example/compact_transform/compacttransform/xslt/XsltFunction$Kind"), accessFlags := 16409, slot := 6, constantValue := 0 }, { name := "FUNCTION_AVAILABLE", type := (.object "com/example/compact_transform/compacttransform/xslt/XsltFunction$Kind"), accessFlags := 16409, slot := 7, constantValue := 0 }, { name := "SYSTEM_PROPERTY", type := (.object "com/example/compact_transform/compacttransform/xslt/XsltFunction$Kind"), accessFlags := 16409, slot := 8, constantValue := 0 }, { name := "NODE_SET", type := (.object "com/example/compact_transform/compacttransform/xslt/XsltFunction$Kind"), accessFlags := 16409, slot := 9, constantValue := 0 }, { name := "functionName", type := (.object "com/example/compact_transform/compacttransform/tree/ExpandedName"), accessFlags := 18, slot := 3, constantValue := 0 }, { name := "minArguments", type := .int, accessFlags := 18, slot := 4, constantValue := 0 }, { name := "maxArguments", type := .int, accessFlags := 18, slot := 5, constantValue := 0 }, { name := "description", type := (.object "java/lang/String"), accessFlags := 18, slot := 6, constantValue := 0 }, { name := "$VALUES", type := (.array (.object "com/example/compact_transform/compacttransform/xslt/XsltFunction$Kind")), accessFlags := 4122, slot := 10, constantValue := 0 }]
  methods := #[k6m0]
  instanceTypes := #[(.object "java/lang/String"), .int, .int, (.object "com/example/compact_transform/compacttransform/tree/ExpandedName"), .int, .int, (.object "java/lang/String")]
  staticTypes := #[(.object "com/example/compact_transform/compacttransform/xslt/XsltFunction$Kind"), (.object "com/example/compact_transform/compacttransform/xslt/XsltFunction$Kind"), (.object "com/example/compact_transform/compacttransform/xslt/XsltFunction$Kind"), (.object "com/example/compact_transform/compacttransform/xslt/XsltFunction$Kind"), (.object "com/example/compact_transform/compacttransform/xslt/XsltFunction$Kind"), (.object "com/example/compact_transform/compacttransform/xslt/XsltFunction$Kind"), (.object "com/example/compact_transform/compacttransform/xslt/XsltFunction$Kind"), (.object "com/example/compact_transform/compacttransform/xslt/XsltFunction$Kind"), (.object "com/example/compact_transform/compacttransform/xslt/XsltFunction$Kind"), (.object "com/example/compact_transform/compacttransform/xslt/XsltFunction$Kind"), (.array (.object "com/example/compact_transform/compacttransform/xslt/XsltFunction$Kind"))]
  resolved := Array.replicate 171 none
  statics := some 0 }

def pool7 : Array CpInfo := pool [(1, u "java/lang/Cloneable"), (0, .class_ 1), (0, u "java/lang/Object"), (0, .class_ 3)] 3

/-- java/lang/Cloneable -/
def k7 : Class := { plain "java/lang/Cloneable" (some 0) with
  accessFlags := 1537
  interfaces := #[]
  cf := some (fileOf pool7 2 #[] #[] 1537 4 #[] #[])
  fields := #[]
  methods := #[]
  instanceTypes := #[]
  staticTypes := #[]
  resolved := Array.replicate 8 none
  statics := none }

/-- the primitive byte -/
def k8 : Class := { plain "byte" none with kind := .primitive 'B', accessFlags := 0x411 }
/-- [B -/
def k9 : Class := { plain "[B" (some 0) with kind := .array 8 .byte, interfaces := #[7, 4], accessFlags := 1041 }

/-- the primitive int -/
def k10 : Class := { plain "int" none with kind := .primitive 'I', accessFlags := 0x411 }
/-- [I -/
def k11 : Class := { plain "[I" (some 0) with kind := .array 10 .int, interfaces := #[7, 4], accessFlags := 1041 }

def heap : Heap := #[{ cls := 6, slots := #[.ref 1, .ref 2, .ref 3, .ref 4, .ref 5, .ref 6, .ref 7, .ref 8, .ref 9, .ref 10, .null], vm := .statics 6 },
  { cls := 6, slots := #[.null, .int 0, .int 0, .null, .int 0, .int 0, .null], vm := .none },
  { cls := 6, slots := #[.null, .int 1, .int 0, .null, .int 0, .int 0, .null], vm := .none },
  { cls := 6, slots := #[.null, .int 2, .int 0, .null, .int 0, .int 0, .null], vm := .none },
  { cls := 6, slots := #[.null, .int 3, .int 0, .null, .int 0, .int 0, .null], vm := .none },
  { cls := 6, slots := #[.null, .int 4, .int 0, .null, .int 0, .int 0, .null], vm := .none },
  { cls := 6, slots := #[.null, .int 5, .int 0, .null, .int 0, .int 0, .null], vm := .none },
  { cls := 6, slots := #[.null, .int 6, .int 0, .null, .int 0, .int 0, .null], vm := .none },
  { cls := 6, slots := #[.null, .int 7, .int 0, .null, .int 0, .int 0, .null], vm := .none },
  { cls := 6, slots := #[.null, .int 8, .int 0, .null, .int 0, .int 0, .null], vm := .none },
  { cls := 6, slots := #[.null, .int 9, .int 0, .null, .int 0, .int 0, .null], vm := .none }]
def classes : Array Class := #[k0, k1, k2, k3, k4, k5, k6, k7, k8, k9, k10, k11]
def interned : List (Array UInt16 × Addr) := []
def slotsUsed : Nat := 81
def theMethod : MethodId := ⟨1, 2⟩
def args0 : Array Value := #[.int 5]
def aboutOver (below : List Frame) : State where
  vm := { classes := classes, interned := interned.toArray }
  heap := heap
  slotsUsed := slotsUsed
  threads := #[{ frames := .invoking theMethod args0 :: below }]
def below0 : List Frame := [.native { method := ⟨0, 0⟩, args := #[] }]
def about1 : State := aboutOver below0
def p0 : Program := .bare "" "" ""
def e0 : Env := launch0.env 0 0 0
theorem w_frames : about1.frames = Frame.invoking theMethod args0 :: below0 := rfl
set_option maxRecDepth 65536 in
theorem w_args : argsFit about1.vm theMethod args0 = true := by decide +kernel
set_option maxRecDepth 65536 in
theorem w_heap : heapFits about1 = true := by decide +kernel
set_option maxRecDepth 65536 in
theorem w_runnable : about1.curStatus? = some .runnable := by decide +kernel
set_option maxRecDepth 65536 in
theorem w_alone : about1.alone = true := by decide +kernel
set_option maxRecDepth 65536 in
theorem w_named : about1.methodNamed? x = some theMethod := by decide +kernel
set_option maxRecDepth 65536 in
theorem w_hears : about1.hears theMethod below0 = true := by decide +kernel
set_option maxRecDepth 65536 in
theorem w_ripe : about1.ripe theMethod args0 below0 = true := by decide +kernel
theorem w_running : about1.status = .running := rfl
set_option maxRecDepth 65536 in
theorem w_room : about1.hasRoom e0.platform room_1 = true :=
  launch0.hasRoom_least _ room_1 (by decide +kernel) (by decide +kernel) (by decide +kernel) (by decide +kernel) (by decide +kernel) (by decide +kernel)
theorem allAtoms_all (ts : List Jvm.Cond) (a : Array Jvm.Value) (st : Jvm.State) : (allAtoms ts).before a st = ts.all (fun c => c.before a st) := by
  induction ts with
  | nil => rfl
  | cons c t ih =>
    show (Jvm.Cond.and c (allAtoms t)).before a st = _
    rw [Jvm.Cond.before_and, ih, List.all_cons]
def words1 : List Jvm.Cond := Jvm.Cond.code x code maxLocals ret :: tables_1
/-- a 'code' word, met by the world's own term for the bytes: nothing is compared byte by byte -/
theorem code_word {y : MethodName} {bytes : ByteArray} {mx : Nat} {rt : Option FieldType} {a : Array Value} {s : State} {m : MethodId} {meth : Method} {c : Code} (h1 : s.methodNamed? y = some m) (h2 : s.vm.method? m = some meth) (h3 : meth.code = some c) (h4 : c.code = bytes)
    (h5 : (c.maxLocals == mx && c.exceptionTable.isEmpty && decide (c.maxStack ≤ mostOperands) && decide (meth.sig.returnType = rt) && !meth.locks && decide (parseMethodDescriptor y.desc = some meth.sig)) = true) : (Jvm.Cond.code y bytes mx rt).before a s = true := by
  simp only [Bool.and_eq_true, beq_iff_eq, Bool.not_eq_true', decide_eq_true_eq] at h5
  obtain ⟨⟨⟨⟨⟨g1, g2⟩, g3⟩, g4⟩, g5⟩, g6⟩ := h5
  simp [Cond.before, Cond.holds, Cond.value, h1, h2, h3, h4, g1, g2, g3, g4, g5, g6]
def isCode : Jvm.Cond → Bool
  | .code _ _ _ _ => true
  | _ => false
theorem all_split {L : List Jvm.Cond} {P : Jvm.Cond → Bool} (h1 : L.all (fun c => isCode c || P c) = true) (h2 : ∀ c ∈ L.filter isCode, P c = true) : L.all P = true := by
  refine List.all_eq_true.mpr fun c hc => ?_
  have h := List.all_eq_true.mp h1 c hc
  rcases Bool.eq_false_or_eq_true (isCode c) with hi | hi
  · exact h2 c (List.mem_filter.mpr ⟨hc, hi⟩)
  · simpa [hi] using h
set_option maxRecDepth 65536 in
theorem w_c0 : (Jvm.Cond.code x code maxLocals ret).before args0 about1 = true := code_word (m := ⟨1, 2⟩) (meth := k1m2) (c := k1c2) (by decide +kernel) rfl rfl rfl (by decide +kernel)
set_option maxRecDepth 65536 in
theorem w_c1 : (Jvm.Cond.code ({ cls := "com/example/compact_transform/compacttransform/xslt/KindTakesAQNamePinLaw", name := "kindOf", desc := "(I)Lcom/example/compact_transform/compacttransform/xslt/XsltFunction$Kind;" } : Jvm.MethodName) method_2_code (1 : Nat) (Option.some (Jvm.ClassFile.FieldType.object "com/example/compact_transform/compacttransform/xslt/XsltFunction$Kind"))).before args0 about1 = true := code_word (m := ⟨1, 1⟩) (meth := k1m1) (c := k1c1) (by decide +kernel) rfl rfl rfl (by decide +kernel)
set_option maxRecDepth 65536 in
theorem w_c2 : (Jvm.Cond.code ({ cls := "com/example/compact_transform/compacttransform/xslt/XsltFunction$Kind", name := "takesAQName", desc := "()Z" } : Jvm.MethodName) prog_274_method_5_code (1 : Nat) (Option.some Jvm.ClassFile.FieldType.boolean)).before args0 about1 = true := code_word (m := ⟨6, 0⟩) (meth := k6m0) (c := k6c0) (by decide +kernel) rfl rfl rfl (by decide +kernel)
def codes1 : List Jvm.Cond := [Jvm.Cond.code x code maxLocals ret, Jvm.Cond.code ({ cls := "com/example/compact_transform/compacttransform/xslt/KindTakesAQNamePinLaw", name := "kindOf", desc := "(I)Lcom/example/compact_transform/compacttransform/xslt/XsltFunction$Kind;" } : Jvm.MethodName) method_2_code (1 : Nat) (Option.some (Jvm.ClassFile.FieldType.object "com/example/compact_transform/compacttransform/xslt/XsltFunction$Kind")), Jvm.Cond.code ({ cls := "com/example/compact_transform/compacttransform/xslt/XsltFunction$Kind", name := "takesAQName", desc := "()Z" } : Jvm.MethodName) prog_274_method_5_code (1 : Nat) (Option.some Jvm.ClassFile.FieldType.boolean)]
set_option maxRecDepth 65536 in
theorem codes_eq : words1.filter isCode = codes1 := rfl
theorem w_codes : ∀ c ∈ words1.filter isCode, c.before args0 about1 = true := by
  rw [codes_eq]
  intro c hc
  simp only [codes1, List.mem_cons, List.not_mem_nil, or_false] at hc
  rcases hc with rfl | rfl | rfl
  · exact w_c0
  · exact w_c1
  · exact w_c2
set_option maxRecDepth 65536 in
theorem w_t1 : (words1.take 24).all (fun c => isCode c || c.before args0 about1) = true := by decide +kernel
set_option maxRecDepth 65536 in
theorem w_t2 : (words1.drop 24).all (fun c => isCode c || c.before args0 about1) = true := by decide +kernel
theorem w_tables : (allAtoms (Jvm.Cond.code x code maxLocals ret :: tables_1)).before args0 about1 = true := by
  rw [allAtoms_all]
  show words1.all (fun c => c.before args0 about1) = true
  refine all_split ?_ w_codes
  rw [← List.take_append_drop 24 words1, List.all_append, w_t1, w_t2]
  rfl
set_option maxRecDepth 65536 in
theorem w_case : (Jvm.Cond.and given_1 narrow_1).before args0 about1 = true := by decide +kernel
theorem w_applies : (headSpec (Jvm.Cond.code x code maxLocals ret :: tables_1) room_1).applies x e0.platform about1 = true :=
  (Spec.applies_iff w_frames).mpr ⟨w_running, w_runnable, w_alone, w_named, w_hears, w_ripe, w_room, w_tables⟩
theorem atStart : AtStart classFile x code maxLocals ret World_1 tables_1 room_1 Calls_1 rest_1 Pre_1 launch0 p0 e0 about1 theMethod args0 below0 :=
  ⟨lists_1, trivial, launch0.admits_env _ _ _, launch0.least_env, fairChoices_fair.cas, fairChoices_fair.clock, w_frames, w_args, w_heap, w_applies, trivial, trivial, w_case⟩
end start1
theorem witness_1 : WitnessClaimed_1 := ⟨start1.p0, start1.e0, start1.about1, start1.theMethod, start1.args0, start1.below0, start1.atStart⟩
end Jvm.Pilot.@@N@@
