import JvmDerived
import JvmDerived.Pilot.@@N@@Statement
import JvmDerived.Pilot.@@N@@Code
set_option linter.unusedVariables false
set_option linter.unusedSimpArgs false
@@BLOCK:NumsL.lean.txt@@
namespace Jvm.RoadKit
open Sem ClassFile Op Lib Jvm.Stand Jvm.Free Jvm.LawKit
section Own
variable {p : Program} {l : Launch} {e : Env} {R : Room} {s : State} {m : MethodId} {args : Array Value} {below : List Frame} {meth : Method} {c : Code} {T : State} {locs : List Loc} {cells slots : Nat}
def own_Go (p : Program) (e : Env) (below : List Frame) (F : Outcome → State → Prop) (U : State) : Prop := ∃ s₂ o, Steps p.tables e below U s₂ ∧ s₂.status = .running ∧ Ended s₂ below o ∧ F o s₂
def own_Fin (s : State) (C S : Nat) (Q : Option Value → Heap → List Loc → Prop) (o : Outcome) (U' : State) : Prop := ∃ v L, o = .returned v ∧ Q v U'.heap L ∧ FrameEnd s o U' L C S
theorem own_go {F : Outcome → State → Prop} {U U' : State} (h : ∀ t, Steps p.tables e below U' t → Steps p.tables e below U t) (g : own_Go p e below F U') : own_Go p e below F U := by
  obtain ⟨s₂, o, h1, h2⟩ := g
  exact ⟨s₂, o, h _ h1, h2⟩
theorem own_cast {F : Outcome → State → Prop} {g g' : JFrame} (q : g = g') (k : own_Go p e below F (T.setTop g')) : own_Go p e below F (T.setTop g) := q ▸ k
theorem own_ret (X : Stand p l e R s m args below meth c T locs cells slots) (hx : p.tables.exec = Jvm.exec) (hlk : meth.locks = false) {pc : Nat} {Ls : Array Slot} {w : Value} {t : FieldType} {i : Instr} {rest : List Value} (hret : meth.sig.returnType = some t) (hn : narrow t w = w)
    (hi : (i = .ireturn ∧ (t = .int ∨ t = .boolean ∨ t = .byte ∨ t = .char ∨ t = .short) ∧ ∃ z, w = .int z) ∨ (i = .lreturn ∧ t = .long ∧ ∃ z, w = .long z) ∨ (i = .dreturn ∧ t = .double ∧ ∃ z, w = .double z) ∨ (i = .freturn ∧ t = .float ∧ ∃ z, w = .float z) ∨ (i = .areturn ∧ t.isReference = true ∧ w.isRef = true))
    (hd : decode c.code pc = .ok (i, 1)) {Q : Option Value → Heap → List Loc → Prop} (hQ : Q (some w) T.heap locs) {C S : Nat} (hc : cells ≤ C) (hs : slots ≤ S) : own_Go p e below (own_Fin s C S Q) (T.setTop (mkF m pc Ls (w :: rest))) := by
  obtain ⟨fs, hr, hrun, hended, hW, hsame⟩ := X.leave (v := some w) (fun h => by rw [hret] at h; cases h) hlk
  exact ⟨_, _, retOut X hx hret hn hi hd hr, hrun, hended, _, _, rfl, hQ, ⟨_, rfl⟩, hW, hsame.mono hc hs⟩
theorem own_retN (X : Stand p l e R s m args below meth c T locs cells slots) (hx : p.tables.exec = Jvm.exec) (hlk : meth.locks = false) {pc : Nat} {Ls : Array Slot} {z : Int32} {t : FieldType} {rest : List Value} (hret : meth.sig.returnType = some t) (ht : t = .boolean ∨ t = .byte ∨ t = .char ∨ t = .short)
    (hd : decode c.code pc = .ok (.ireturn, 1)) {Q : Option Value → Heap → List Loc → Prop} (hQ : Q (some (.int (nar t z))) T.heap locs) {C S : Nat} (hc : cells ≤ C) (hs : slots ≤ S) : own_Go p e below (own_Fin s C S Q) (T.setTop (mkF m pc Ls (.int z :: rest))) := by
  obtain ⟨fs, hr, hrun, hended, hW, hsame⟩ := X.leave (v := some (.int (nar t z))) (fun h => by rw [hret] at h; cases h) hlk
  exact ⟨_, _, retN X hx hret ht hd hr, hrun, hended, _, _, rfl, hQ, ⟨_, rfl⟩, hW, hsame.mono hc hs⟩
theorem own_retV (X : Stand p l e R s m args below meth c T locs cells slots) (hx : p.tables.exec = Jvm.exec) (hlk : meth.locks = false) {pc : Nat} {Ls : Array Slot} (hret : meth.sig.returnType = none)
    (hd : decode c.code pc = .ok (.return_, 1)) {Q : Option Value → Heap → List Loc → Prop} (hQ : Q none T.heap locs) {C S : Nat} (hc : cells ≤ C) (hs : slots ≤ S) : own_Go p e below (own_Fin s C S Q) (T.setTop (mkF m pc Ls [])) := by
  obtain ⟨fs, hr, hrun, hended, hW, hsame⟩ := X.leave (v := none) (fun _ => rfl) hlk
  exact ⟨_, _, X.returnOut hx hret hd hr, hrun, hended, _, _, rfl, hQ, ⟨_, rfl⟩, hW, hsame.mono hc hs⟩
def own_FinW (s : State) (C S : Nat) (Q : Option Value → Heap → List Loc → Prop) (o : Outcome) (U' : State) : Prop := ∃ v L, o = .returned v ∧ Q v U'.heap L ∧ ReturnedEndW s o U' L C S
theorem own_monoW {t : State} {o : Outcome} {L : List Loc} {k n C S : Nat} (h : ReturnedEndW s o t L k n) (hc : k ≤ C) (hs : n ≤ S) : ReturnedEndW s o t L C S := ⟨h.1, h.2.1, h.2.2.1, h.2.2.2.mono hc hs⟩
theorem own_retW {vm₁ : Vm} (X : Stand p l e R (s.setVm vm₁) m args below meth c T locs cells slots) (hx : p.tables.exec = Jvm.exec) {n : Nat} (hS : s.Since vm₁ n) (hk : n ≤ T.heap.size) (hlk : meth.locks = false) {pc : Nat} {Ls : Array Slot} {w : Value} {t : FieldType} {i : Instr} {rest : List Value} (hret : meth.sig.returnType = some t) (hn : narrow t w = w)
    (hi : (i = .ireturn ∧ (t = .int ∨ t = .boolean ∨ t = .byte ∨ t = .char ∨ t = .short) ∧ ∃ z, w = .int z) ∨ (i = .lreturn ∧ t = .long ∧ ∃ z, w = .long z) ∨ (i = .dreturn ∧ t = .double ∧ ∃ z, w = .double z) ∨ (i = .freturn ∧ t = .float ∧ ∃ z, w = .float z) ∨ (i = .areturn ∧ t.isReference = true ∧ w.isRef = true))
    (hd : decode c.code pc = .ok (i, 1)) {Q : Option Value → Heap → List Loc → Prop} (hQ : Q (some w) T.heap locs) {C S : Nat} (hc : cells ≤ C) (hs : slots ≤ S) : own_Go p e below (own_FinW s C S Q) (T.setTop (mkF m pc Ls (w :: rest))) := by
  obtain ⟨fs, hr, hrun, hended, hW⟩ := X.leaveW hS hk (v := some w) (fun h => by rw [hret] at h; cases h) hlk
  exact ⟨_, _, retOut X hx hret hn hi hd hr, hrun, hended, _, _, rfl, hQ, own_monoW hW hc hs⟩
theorem own_retNW {vm₁ : Vm} (X : Stand p l e R (s.setVm vm₁) m args below meth c T locs cells slots) (hx : p.tables.exec = Jvm.exec) {n : Nat} (hS : s.Since vm₁ n) (hk : n ≤ T.heap.size) (hlk : meth.locks = false) {pc : Nat} {Ls : Array Slot} {z : Int32} {t : FieldType} {rest : List Value} (hret : meth.sig.returnType = some t) (ht : t = .boolean ∨ t = .byte ∨ t = .char ∨ t = .short)
    (hd : decode c.code pc = .ok (.ireturn, 1)) {Q : Option Value → Heap → List Loc → Prop} (hQ : Q (some (.int (nar t z))) T.heap locs) {C S : Nat} (hc : cells ≤ C) (hs : slots ≤ S) : own_Go p e below (own_FinW s C S Q) (T.setTop (mkF m pc Ls (.int z :: rest))) := by
  obtain ⟨fs, hr, hrun, hended, hW⟩ := X.leaveW hS hk (v := some (.int (nar t z))) (fun h => by rw [hret] at h; cases h) hlk
  exact ⟨_, _, retN X hx hret ht hd hr, hrun, hended, _, _, rfl, hQ, own_monoW hW hc hs⟩
theorem own_retVW {vm₁ : Vm} (X : Stand p l e R (s.setVm vm₁) m args below meth c T locs cells slots) (hx : p.tables.exec = Jvm.exec) {n : Nat} (hS : s.Since vm₁ n) (hk : n ≤ T.heap.size) (hlk : meth.locks = false) {pc : Nat} {Ls : Array Slot} (hret : meth.sig.returnType = none)
    (hd : decode c.code pc = .ok (.return_, 1)) {Q : Option Value → Heap → List Loc → Prop} (hQ : Q none T.heap locs) {C S : Nat} (hc : cells ≤ C) (hs : slots ≤ S) : own_Go p e below (own_FinW s C S Q) (T.setTop (mkF m pc Ls [])) := by
  obtain ⟨fs, hr, hrun, hended, hW⟩ := X.leaveW hS hk (v := none) (fun _ => rfl) hlk
  exact ⟨_, _, X.returnOut hx hret hd hr, hrun, hended, _, _, rfl, hQ, own_monoW hW hc hs⟩
def own_FinH (Z : State) (EL : List (String × Nat)) (s : State) (C S : Nat) (Q : Option Value → Heap → List Loc → Prop) (o : Outcome) (U' : State) : Prop := ∃ v L, o = .returned v ∧ Q v U'.heap L ∧ CHr Z EL s.vm s.heap U'.vm U'.heap ∧ ReturnedEndW s o U' L C S
theorem own_retH {Z : State} {EL : List (String × Nat)} {vm₁ : Vm} (X : Stand p l e R (s.setVm vm₁) m args below meth c T locs cells slots) (hx : p.tables.exec = Jvm.exec) {n : Nat} (hS : s.Since vm₁ n) (hk : n ≤ T.heap.size) (hC : CHr Z EL s.vm s.heap T.vm T.heap) (hlk : meth.locks = false) {pc : Nat} {Ls : Array Slot} {w : Value} {t : FieldType} {i : Instr} {rest : List Value} (hret : meth.sig.returnType = some t) (hn : narrow t w = w)
    (hi : (i = .ireturn ∧ (t = .int ∨ t = .boolean ∨ t = .byte ∨ t = .char ∨ t = .short) ∧ ∃ z, w = .int z) ∨ (i = .lreturn ∧ t = .long ∧ ∃ z, w = .long z) ∨ (i = .dreturn ∧ t = .double ∧ ∃ z, w = .double z) ∨ (i = .freturn ∧ t = .float ∧ ∃ z, w = .float z) ∨ (i = .areturn ∧ t.isReference = true ∧ w.isRef = true))
    (hd : decode c.code pc = .ok (i, 1)) {Q : Option Value → Heap → List Loc → Prop} (hQ : Q (some w) T.heap locs) {C S : Nat} (hc : cells ≤ C) (hs : slots ≤ S) : own_Go p e below (own_FinH Z EL s C S Q) (T.setTop (mkF m pc Ls (w :: rest))) := by
  obtain ⟨fs, hr, hrun, hended, hW⟩ := X.leaveW hS hk (v := some w) (fun h => by rw [hret] at h; cases h) hlk
  exact ⟨_, _, retOut X hx hret hn hi hd hr, hrun, hended, _, _, rfl, hQ, hC, own_monoW hW hc hs⟩
theorem own_retNH {Z : State} {EL : List (String × Nat)} {vm₁ : Vm} (X : Stand p l e R (s.setVm vm₁) m args below meth c T locs cells slots) (hx : p.tables.exec = Jvm.exec) {n : Nat} (hS : s.Since vm₁ n) (hk : n ≤ T.heap.size) (hC : CHr Z EL s.vm s.heap T.vm T.heap) (hlk : meth.locks = false) {pc : Nat} {Ls : Array Slot} {z : Int32} {t : FieldType} {rest : List Value} (hret : meth.sig.returnType = some t) (ht : t = .boolean ∨ t = .byte ∨ t = .char ∨ t = .short)
    (hd : decode c.code pc = .ok (.ireturn, 1)) {Q : Option Value → Heap → List Loc → Prop} (hQ : Q (some (.int (nar t z))) T.heap locs) {C S : Nat} (hc : cells ≤ C) (hs : slots ≤ S) : own_Go p e below (own_FinH Z EL s C S Q) (T.setTop (mkF m pc Ls (.int z :: rest))) := by
  obtain ⟨fs, hr, hrun, hended, hW⟩ := X.leaveW hS hk (v := some (.int (nar t z))) (fun h => by rw [hret] at h; cases h) hlk
  exact ⟨_, _, retN X hx hret ht hd hr, hrun, hended, _, _, rfl, hQ, hC, own_monoW hW hc hs⟩
theorem own_retVH {Z : State} {EL : List (String × Nat)} {vm₁ : Vm} (X : Stand p l e R (s.setVm vm₁) m args below meth c T locs cells slots) (hx : p.tables.exec = Jvm.exec) {n : Nat} (hS : s.Since vm₁ n) (hk : n ≤ T.heap.size) (hC : CHr Z EL s.vm s.heap T.vm T.heap) (hlk : meth.locks = false) {pc : Nat} {Ls : Array Slot} (hret : meth.sig.returnType = none)
    (hd : decode c.code pc = .ok (.return_, 1)) {Q : Option Value → Heap → List Loc → Prop} (hQ : Q none T.heap locs) {C S : Nat} (hc : cells ≤ C) (hs : slots ≤ S) : own_Go p e below (own_FinH Z EL s C S Q) (T.setTop (mkF m pc Ls [])) := by
  obtain ⟨fs, hr, hrun, hended, hW⟩ := X.leaveW hS hk (v := none) (fun _ => rfl) hlk
  exact ⟨_, _, X.returnOut hx hret hd hr, hrun, hended, _, _, rfl, hQ, hC, own_monoW hW hc hs⟩
theorem own_safe_null {Z : State} {EL : List (String × Nat)} {vm : Vm} {h : Heap} {x : Addr} (hal : Z.vm.Alike vm) (E : Exa Z h x "java/lang/String") (F : Fld Z h x "java/lang/String" "value" "[B" .null) : Safe Z EL vm h x := fun B => by
  obtain ⟨p, -, u, a, -, q, -, G, rfl | rfl⟩ := B
  · obtain ⟨cell, cf, k, i, f, f1, f2, -, -, -, -, f7⟩ := F
    cases (show h[q.sa]? = some q.sC from G.ha).symm.trans f1
    obtain ⟨cS, ⟨⟨-, -, -, ⟨cv, kv, iv, s4, -⟩, -, -, -, s8, -⟩, -⟩, -⟩ := G
    obtain ⟨k', hi, -⟩ := State.fieldFound?_setVm (s := Z) hal f2
    have s4' : (Z.setVm vm).fieldFound? "java/lang/String" "value" "[B" = some (cv, kv, iv, q.fSV) := s4
    cases hi.symm.trans s4'
    rw [f7] at s8
    cases s8
  · obtain ⟨cell, k, e1, e2, e3, -, -⟩ := E
    cases (show h[q.sd]? = some q.SA from G.hd).symm.trans e1
    obtain ⟨cS, -, -, f, -⟩ := G
    have f' : vm.findClass "[B" = some q.SA.cls := f
    rw [hal.findClass] at f'
    obtain ⟨k1, q1, q2⟩ := Vm.findClass_spec f'
    obtain ⟨k2, q3, q4⟩ := Vm.findClass_spec e2
    cases q1.symm.trans q3
    exact absurd (q2.symm.trans q4) (by decide)
def own_Met (l : Launch) (Z : State) (y : MethodName) (bytes : ByteArray) (maxL : Nat) (ret : Option FieldType) (ws : List Jvm.Cond) (rm : Room) (as : Array Value) (h0 : Heap) (Q : Option Value → Heap → List Loc → Prop) : Prop :=
  MetFree l y (head1 (Jvm.Cond.code y bytes maxL ret :: ws) rm) (fun a U => a = as ∧ Z.Warmed39 U.vm ∧ U.heap = h0) (fun _ _ _ _ _ => True) (fun _ U o U' => ∃ v L, o = .returned v ∧ Q v U'.heap L ∧ FrameEnd U o U' L rm.cells rm.slots)
def own_MetW (l : Launch) (Z : State) (y : MethodName) (bytes : ByteArray) (maxL : Nat) (ret : Option FieldType) (ws : List Jvm.Cond) (rm : Room) (as : Array Value) (h0 : Heap) (Q : Option Value → Heap → List Loc → Prop) : Prop :=
  MetFree l y (head1 (Jvm.Cond.code y bytes maxL ret :: ws) rm) (fun a U => a = as ∧ Z.Warmed39 U.vm ∧ U.heap = h0) (fun _ _ _ _ _ => True) (fun _ U o U' => ∃ v L, o = .returned v ∧ Q v U'.heap L ∧ ReturnedEndW U o U' L rm.cells rm.slots)
def own_MetH (l : Launch) (Z : State) (EL : List (String × Nat)) (y : MethodName) (bytes : ByteArray) (maxL : Nat) (ret : Option FieldType) (ws : List Jvm.Cond) (rm : Room) (as : Array Value) (h0 : Heap) (Q : Option Value → Heap → List Loc → Prop) : Prop :=
  MetFree l y (head1 (Jvm.Cond.code y bytes maxL ret :: ws) rm) (fun a U => a = as ∧ Z.Warmed39 U.vm ∧ U.heap = h0 ∧ CHv Z EL U.vm h0) (fun _ _ _ _ _ => True) (fun _ U o U' => ∃ v L, o = .returned v ∧ Q v U'.heap L ∧ CHr Z EL U.vm U.heap U'.vm U'.heap ∧ ReturnedEndW U o U' L rm.cells rm.slots)
theorem own_enter {Z : State} {y : MethodName} {bytes : ByteArray} {maxL : Nat} {ret : Option FieldType} {ws : List Jvm.Cond} {rm : Room} {as : Array Value} {h0 : Heap} {Q : Option Value → Heap → List Loc → Prop} {own : String} (hpl : plainFor y = true) (ho : y.cls = own)
    (H : ∀ (p : Program) (e : Env) (s : State) (m : MethodId) (below : List Frame) (meth : Method) (c : Code) (s₁ : State), meth.locks = false → meth.sig.returnType = ret → p.tables.exec = Jvm.exec → c.code = bytes → c.maxLocals = maxL → s.vm.findClass own = some m.cls → meth.name = y.name → Z.Warmed39 s.vm → Stand p l e rm s m as below meth c s₁ [] 0 0 → s₁.heap = h0 → own_Go p e below (own_Fin s rm.cells rm.slots Q) (s₁.setTop (entryFrame m as maxL))) :
    own_Met l Z y bytes maxL ret ws rm as h0 Q := by
  refine MetFree.of_bodySF hpl hisR ?_
  intro p e s m args below meth c s₁ Bd hml0 hP hK
  obtain ⟨rfl, hZ, hh⟩ := hP
  subst ho
  exact H p e s m below meth c s₁ Bd.notSynchronized Bd.returns Bd.exec Bd.bytes hml0 (findClass_of_methodNamed Bd.named) (name_of_methodNamed Bd.named Bd.method).1 hZ (Stand.of_body Bd) (by rw [← hh, Bd.state]; rfl)
theorem own_enterW {Z : State} {y : MethodName} {bytes : ByteArray} {maxL : Nat} {ret : Option FieldType} {ws : List Jvm.Cond} {rm : Room} {as : Array Value} {h0 : Heap} {Q : Option Value → Heap → List Loc → Prop} {own : String} (hpl : plainFor y = true) (ho : y.cls = own)
    (H : ∀ (p : Program) (e : Env) (s : State) (m : MethodId) (below : List Frame) (meth : Method) (c : Code) (s₁ : State), meth.locks = false → meth.sig.returnType = ret → p.tables.exec = Jvm.exec → c.code = bytes → c.maxLocals = maxL → s.vm.findClass own = some m.cls → meth.name = y.name → Z.Warmed39 s.vm → Stand p l e rm (s.setVm s.vm) m as below meth c s₁ [] 0 0 → s₁.heap = h0 → own_Go p e below (own_FinW s rm.cells rm.slots Q) (s₁.setTop (entryFrame m as maxL))) :
    own_MetW l Z y bytes maxL ret ws rm as h0 Q := by
  refine MetFree.of_bodySF hpl hisR ?_
  intro p e s m args below meth c s₁ Bd hml0 hP hK
  obtain ⟨rfl, hZ, hh⟩ := hP
  subst ho
  exact H p e s m below meth c s₁ Bd.notSynchronized Bd.returns Bd.exec Bd.bytes hml0 (findClass_of_methodNamed Bd.named) (name_of_methodNamed Bd.named Bd.method).1 hZ (Stand.of_body Bd) (by rw [← hh, Bd.state]; rfl)
theorem own_enterH {Z : State} {EL : List (String × Nat)} {y : MethodName} {bytes : ByteArray} {maxL : Nat} {ret : Option FieldType} {ws : List Jvm.Cond} {rm : Room} {as : Array Value} {h0 : Heap} {Q : Option Value → Heap → List Loc → Prop} {own : String} (hpl : plainFor y = true) (ho : y.cls = own)
    (H : ∀ (p : Program) (e : Env) (s : State) (m : MethodId) (below : List Frame) (meth : Method) (c : Code) (s₁ : State), meth.locks = false → meth.sig.returnType = ret → p.tables.exec = Jvm.exec → c.code = bytes → c.maxLocals = maxL → s.vm.findClass own = some m.cls → meth.name = y.name → Z.Warmed39 s.vm → s.heap = h0 → CHv Z EL s.vm h0 → Stand p l e rm (s.setVm s.vm) m as below meth c s₁ [] 0 0 → s₁.heap = h0 → own_Go p e below (own_FinH Z EL s rm.cells rm.slots Q) (s₁.setTop (entryFrame m as maxL))) :
    own_MetH l Z EL y bytes maxL ret ws rm as h0 Q := by
  refine MetFree.of_bodySF hpl hisR ?_
  intro p e s m args below meth c s₁ Bd hml0 hP hK
  obtain ⟨rfl, hZ, hh, hH⟩ := hP
  subst ho
  exact H p e s m below meth c s₁ Bd.notSynchronized Bd.returns Bd.exec Bd.bytes hml0 (findClass_of_methodNamed Bd.named) (name_of_methodNamed Bd.named Bd.method).1 hZ hh hH (Stand.of_body Bd) (by rw [← hh, Bd.state]; rfl)
end Own
end Jvm.RoadKit
namespace Jvm.Pilot.@@N@@
open Jvm Jvm.ClassFile Sem Op Lib Jvm.Free Jvm.Stand Jvm.LawKit Jvm.RoadKit Bundle Jvm.Pilot.@@N@@.Jvm.D
section Own
variable {t u : Term} {C n d : String} {a b : Addr} {z j : Int32} {args : Array Value} {s : State} {cl : Cell} {ty : FieldType}
theorem own_cmp_int (h : (Jvm.Cond.eq t (Term.int z)).value args s none s [] = some true) : t.eval args s none [] s = some (.int z) := by
  have e2 : (Term.int z).eval args s none [] s = some (.int z) := Term.int_eval z
  obtain ⟨u, w, f1, f2, k1, k2⟩ := cmp_v (Or.inl h)
  cases f2.symm.trans e2
  obtain ⟨q, rfl⟩ : ∃ q, u = .int q := k2
  have : (Jvm.Cond.eq t (Term.int z)).value args s none s [] = some (decide (q = z)) := by simp [Cond.value, f1, e2]
  rw [f1, gotT this h]
theorem own_fld (ht : t.eval args s none [] s = some (.ref a)) (h : (Jvm.Cond.eq (Term.field t C n d) (Term.int z)).value args s none s [] = some true) : Fld s s.heap a C n d (.int z) :=
  Fld.start ((fld_at ht).symm.trans (own_cmp_int h))
theorem own_fldR (ht : t.eval args s none [] s = some (.ref a)) (h : (Term.field t C n d).eval args s none [] s = some (.ref b)) : Fld s s.heap a C n d (.ref b) :=
  Fld.start ((fld_at ht).symm.trans h)
theorem own_len (ht : t.eval args s none [] s = some (.ref a)) (A : Arr s s.heap a cl ty) (h : (Jvm.Cond.eq (Term.length t) (Term.int z)).value args s none s [] = some true) : cl.slots.size < 2 ^ 31 ∧ cl.slots.size.toInt32 = z := by
  have e := own_cmp_int h
  have ha : s.arrayAt? a = some cl := A.fin (Vm.Alike.refl _)
  simp only [Term.eval, ht, ha, Option.bind_eq_bind, Option.bind_some] at e
  split at e
  · rename_i q
    cases e
    exact ⟨q, rfl⟩
  · cases e
theorem own_el (ht : t.eval args s none [] s = some (.ref a)) (A : Arr s s.heap a cl ty) (h : (Jvm.Cond.eq (Term.elem t (Term.int j)) (Term.int z)).value args s none s [] = some true) : cl.slots[j.toNatClampNeg]? = some (.int z) :=
  (elem_in (own_cmp_int h) ht (Term.int_eval j) A.1).2
theorem own_elR (hu : u.eval args s none [] s = some (.ref b)) (ht : t.eval args s none [] s = some (.ref a)) (A : Arr s s.heap a cl ty) (h : (Jvm.Cond.eq (Term.elem t (Term.int j)) u).value args s none s [] = some true) : cl.slots[j.toNatClampNeg]? = some (.ref b) := by
  obtain ⟨x, w, f1, f2, k1, k2⟩ := cmp_v (Or.inl h)
  cases f2.symm.trans hu
  have hx : x.isRef = true := k2.2
  have q := gotT (eq_R f1 hu hx rfl) h
  subst q
  exact (elem_in f1 ht (Term.int_eval j) A.1).2
end Own
theorem own_b8 (c : Int32) : c.toInt8.toInt32.toInt8.toInt32 = c.toInt8.toInt32 := by simp
theorem own_mask {P : Int32 → Prop} (M : Nat) (m : Int32) (hm : m.toBitVec.toNat < M) (h : ∀ k : Fin M, P (Int32.ofNat k.val)) (x : Int32) : P (x &&& m) := by
  have h1 : (x &&& m).toBitVec.toNat < M := by
    simp only [Int32.toBitVec_and, BitVec.toNat_and]
    exact Nat.lt_of_le_of_lt Nat.and_le_right hm
  have e : (x &&& m) = Int32.ofNat (x &&& m).toBitVec.toNat := by
    apply Int32.toBitVec_inj.mp
    show _ = BitVec.ofNat 32 _
    rw [BitVec.ofNat_toNat]; simp
  rw [e]
  exact h ⟨_, h1⟩

theorem own_rm {a c K M : Nat} (h : a + c ≤ M) (hk : K ≤ c) : a + K ≤ M := Nat.le_trans (Nat.add_le_add_left hk a) h
theorem own_mask64 {P : Int64 → Prop} (M : Nat) (m : Int64) (hm : m.toBitVec.toNat < M) (h : ∀ k : Fin M, P (Int64.ofNat k.val)) (x : Int64) : P (x &&& m) := by
  have h1 : (x &&& m).toBitVec.toNat < M := by
    simp only [Int64.toBitVec_and, BitVec.toNat_and]
    exact Nat.lt_of_le_of_lt Nat.and_le_right hm
  have e : (x &&& m) = Int64.ofNat (x &&& m).toBitVec.toNat := by
    apply Int64.toBitVec_inj.mp
    show _ = BitVec.ofNat 64 _
    rw [BitVec.ofNat_toNat]; simp
  rw [e]
  exact h ⟨_, h1⟩
def own_B9 (c : Int32) : Prop := ¬ c < 0 ∧ ¬ (511 : Int32) < c
theorem own_fin512 {P : Int32 → Prop} (h : ∀ k : Fin 512, P (Int32.ofNat k.val)) {c : Int32} (b : own_B9 c) : P c := by
  have h1 : 0 ≤ c.toInt := by have := b.1; rw [Int32.lt_iff_toInt_lt] at this; have e : (0 : Int32).toInt = 0 := rfl; omega
  have h2 : c.toInt ≤ 511 := by have := b.2; rw [Int32.lt_iff_toInt_lt] at this; have e : (511 : Int32).toInt = 511 := rfl; omega
  have e : Int32.ofNat c.toInt.toNat = c := by
    have : Int32.ofInt ((c.toInt.toNat : Nat) : Int) = c := by rw [Int.toNat_of_nonneg h1]; exact Int32.ofInt_toInt c
    exact this
  have := h ⟨c.toInt.toNat, by omega⟩
  rw [e] at this
  exact this
theorem own_nc9 {c : Int32} (b : own_B9 c) : nar .char c = c := own_fin512 (P := fun c => nar .char c = c) (by decide +kernel) b
theorem own_fc9 {c : Int32} (b : own_B9 c) : fits .char (.int c) = true := own_nc9 b ▸ fits_nar_char c
theorem own_pair9 {c : Int32} (b : own_B9 c) : (nar .char ((((((c >>> ((0 : Int32) &&& 31)).toInt8.toInt32) &&& (255 : Int32)) <<< ((0 : Int32) &&& 31)) ||| ((((c >>> ((8 : Int32) &&& 31)).toInt8.toInt32) &&& (255 : Int32)) <<< ((8 : Int32) &&& 31))).toUInt32.toUInt16.toUInt32.toInt32)) = c := own_fin512 (P := fun c => (nar .char ((((((c >>> ((0 : Int32) &&& 31)).toInt8.toInt32) &&& (255 : Int32)) <<< ((0 : Int32) &&& 31)) ||| ((((c >>> ((8 : Int32) &&& 31)).toInt8.toInt32) &&& (255 : Int32)) <<< ((8 : Int32) &&& 31))).toUInt32.toUInt16.toUInt32.toInt32)) = c) (by decide +kernel) b
theorem own_B256 : own_B9 (256 : Int32) := by constructor <;> decide
def own_ch9 (bv : Int64) (iv : Int32) : Int32 := nar .char ((((((bv.toUInt64 >>> (((9 : Int32) * iv) &&& 0x3f).toInt64.toUInt64).toInt64) &&& (511 : Int64)).toInt32)).toUInt32.toUInt16.toUInt32.toInt32)
theorem own_ch9B (bv : Int64) (iv : Int32) : own_B9 (own_ch9 bv iv) := own_mask64 (P := fun y => own_B9 (nar .char (y.toInt32.toUInt32.toUInt16.toUInt32.toInt32))) 512 511 (by decide) (by unfold own_B9; decide +kernel) _
def own_at9 (bv : Int64) (base nv iv : Int32) : Int32 := if iv < nv then own_ch9 bv (base + iv) else 256
theorem own_at9B (bv : Int64) (base nv iv : Int32) : own_B9 (own_at9 bv base nv iv) := by
  unfold own_at9
  split
  · exact own_ch9B _ _
  · exact own_B256
def own_j9 (bv : Int64) (n1 n2 kv : Int32) : Int32 := if kv < n1 then own_ch9 bv kv else own_at9 bv 3 n2 (kv - n1)
theorem own_j9B (bv : Int64) (n1 n2 kv : Int32) : own_B9 (own_j9 bv n1 n2 kv) := by
  unfold own_j9
  split
  · exact own_ch9B _ _
  · exact own_at9B _ _ _ _
def own_p4 (a b c : Int32) : Int32 := if 255 < a then 0 else if 255 < b then 1 else if 255 < c then 2 else 3
def own_p7 (a b c d e f : Int32) : Int32 := if 255 < a then 0 else if 255 < b then 1 else if 255 < c then 2 else if 255 < d then 3 else if 255 < e then 4 else if 255 < f then 5 else 6
theorem own_p4n (a b c : Int32) : ¬ own_p4 a b c = -1 := by
  unfold own_p4
  repeat' split
  all_goals decide
def own_lpj (a n b : Int32) : Int32 := if a = -1 then a else if a < n then a else if b = -1 then -1 else n + b
theorem own_four (x : Int32) : x &&& 3 = 0 ∨ x &&& 3 = 1 ∨ x &&& 3 = 2 ∨ x &&& 3 = 3 := own_mask (P := fun y => y = 0 ∨ y = 1 ∨ y = 2 ∨ y = 3) 4 3 (by decide) (by decide +kernel) x
set_option maxHeartbeats 40000000 in
theorem own_join (bv : Int64) {n1 n2 a b c d e f j0 j1 j2 j3 j4 j5 : Int32} (h1 : n1 = 0 ∨ n1 = 1 ∨ n1 = 2 ∨ n1 = 3) (h2 : n2 = 0 ∨ n2 = 1 ∨ n2 = 2 ∨ n2 = 3) (ha : a = own_at9 bv 0 n1 0) (hb : b = own_at9 bv 0 n1 1) (hc : c = own_at9 bv 0 n1 2) (hd : d = own_at9 bv 3 n2 0) (he : e = own_at9 bv 3 n2 1) (hf : f = own_at9 bv 3 n2 2)
    (g0 : j0 = own_j9 bv n1 n2 0) (g1 : j1 = own_j9 bv n1 n2 1) (g2 : j2 = own_j9 bv n1 n2 2) (g3 : j3 = own_j9 bv n1 n2 3) (g4 : j4 = own_j9 bv n1 n2 4) (g5 : j5 = own_j9 bv n1 n2 5) :
    own_p7 j0 j1 j2 j3 j4 j5 = if own_p4 a b c < n1 then own_p4 a b c else n1 + own_p4 d e f := by
  subst ha hb hc hd he hf g0 g1 g2 g3 g4 g5
  rcases h1 with rfl | rfl | rfl | rfl <;> rcases h2 with rfl | rfl | rfl | rfl
  all_goals
    simp only [own_at9, own_j9, show (0 : Int32) + 0 = 0 from rfl, show (0 : Int32) + 1 = 1 from rfl, show (0 : Int32) + 2 = 2 from rfl, show (3 : Int32) + 0 = 3 from rfl, show (3 : Int32) + 1 = 4 from rfl, show (3 : Int32) + 2 = 5 from rfl, show (0 : Int32) - 0 = 0 from rfl, show (1 : Int32) - 0 = 1 from rfl, show (2 : Int32) - 0 = 2 from rfl, show (3 : Int32) - 0 = 3 from rfl, show (4 : Int32) - 0 = 4 from rfl, show (5 : Int32) - 0 = 5 from rfl, show (1 : Int32) - 1 = 0 from rfl, show (2 : Int32) - 1 = 1 from rfl, show (3 : Int32) - 1 = 2 from rfl, show (4 : Int32) - 1 = 3 from rfl, show (5 : Int32) - 1 = 4 from rfl, show (2 : Int32) - 2 = 0 from rfl, show (3 : Int32) - 2 = 1 from rfl, show (4 : Int32) - 2 = 2 from rfl, show (5 : Int32) - 2 = 3 from rfl, show (3 : Int32) - 3 = 0 from rfl, show (4 : Int32) - 3 = 1 from rfl, show (5 : Int32) - 3 = 2 from rfl]
    generalize own_ch9 bv 0 = c0
    generalize own_ch9 bv 1 = c1
    generalize own_ch9 bv 2 = c2
    generalize own_ch9 bv 3 = c3
    generalize own_ch9 bv 4 = c4
    generalize own_ch9 bv 5 = c5
    unfold own_p7 own_p4
    by_cases q0 : (255 : Int32) < c0 <;> by_cases q1 : (255 : Int32) < c1 <;> by_cases q2 : (255 : Int32) < c2 <;> by_cases q3 : (255 : Int32) < c3 <;> by_cases q4 : (255 : Int32) < c4 <;> by_cases q5 : (255 : Int32) < c5 <;> simp +decide only [q0, q1, q2, q3, q4, q5, if_true, if_false, ite_true, ite_false]
def Q_ch (Z : State) (bv : Int64) (iv : Int32) (h0 : Heap) (n0 : Nat) (v : Option Value) (h : Heap) (L : List Loc) : Prop := v = some (.int (own_ch9 bv iv)) ∧ Fr n0 L ∧ h = h0
theorem ef_ch (m : MethodId) (bv : Int64) (iv : Int32) : entryFrame m #[(.long bv), (.int iv)] 3 = mkF m 0 #[.val (.long bv), .second, .val (.int iv)] [] := by first | (simp [entryFrame, mkF, argsToLocals, Value.category]; done) | rfl
theorem pn_0 : plainName "com/example/compact_transform/compacttransform/tree/StringFootprintLatin1PrefixOfJoinPinLaw" = true := by first | (simp [plainName, overriddenIn]; done) | decide +kernel
theorem d_2_0 : decode method_2_code 0 = .ok (.lload_n 0, 1) := by decide +kernel
theorem d_2_1 : decode method_2_code 1 = .ok (.bipush 9, 2) := by decide +kernel
theorem d_2_3 : decode method_2_code 3 = .ok (.iload_n 2, 1) := by decide +kernel
theorem d_2_4 : decode method_2_code 4 = .ok (.imul, 1) := by decide +kernel
theorem d_2_5 : decode method_2_code 5 = .ok (.lushr, 1) := by decide +kernel
theorem w_103 {Z : State} {a0 : Array Value} (hw : ∀ d ∈ tables_1, d.before a0 Z = true) : (Jvm.Cond.constantLong "com/example/compact_transform/compacttransform/tree/StringFootprintLatin1PrefixOfJoinPinLaw" (7 : Nat) (511 : Int64)).before a0 Z = true := hw _ (List.mem_of_getElem? (i := 103) rfl)
theorem d_2_6 : decode method_2_code 6 = .ok (.ldc2_w 7, 3) := by decide +kernel
theorem d_2_9 : decode method_2_code 9 = .ok (.land, 1) := by decide +kernel
theorem d_2_10 : decode method_2_code 10 = .ok (.l2i, 1) := by decide +kernel
theorem d_2_11 : decode method_2_code 11 = .ok (.i2c, 1) := by decide +kernel
theorem d_2_12 : decode method_2_code 12 = .ok (.ireturn, 1) := by decide +kernel
set_option maxRecDepth 65536 in
set_option maxHeartbeats 40000000 in
theorem rm_ch (l : Launch) (Z : State) (a0 : Array Value) (hw : ∀ d ∈ tables_1, d.before a0 Z = true) (ws : List Jvm.Cond) (bv : Int64) (iv : Int32) (h0 : Heap) (n0 : Nat) (Z0 : n0 ≤ h0.size) :
    own_Met l Z (⟨"com/example/compact_transform/compacttransform/tree/StringFootprintLatin1PrefixOfJoinPinLaw", "ch", "(JI)C"⟩ : MethodName) method_2_code 3 (some .char) ws ({ frames := 0, cells := 0, slots := 0, locals := 0 } : Room) #[(.long bv), (.int iv)] h0 (Q_ch Z bv iv h0 n0) := by
  refine own_enter (own := "com/example/compact_transform/compacttransform/tree/StringFootprintLatin1PrefixOfJoinPinLaw") (plainFor_of_name pn_0) rfl ?_
  intro p e s m below meth c s₁ hlk hret hx hby hml hown hnm hZ X0 e0
  have N0 := Fr.nil n0
  refine own_cast (ef_ch m bv iv) ?_
  show own_Go _ _ _ _ (s₁.setTop (mkF m 0 #[.val (.long bv), .second, .val (.int iv)] []))
  refine own_go (fun t k => XS.lloadN X0.here hx rfl (hb hby d_2_0) rfl k) ?_
  refine own_go (fun t k => XS.bipush X0.here hx rfl (hb hby d_2_1) k) ?_
  refine own_go (fun t k => XS.iloadN X0.here hx rfl (hb hby d_2_3) rfl k) ?_
  refine own_go (fun t k => XS.imul X0.here hx rfl (hb hby d_2_4) rfl k) ?_
  show own_Go _ _ _ _ (s₁.setTop (mkF m 5 #[.val (.long bv), .second, .val (.int iv)] [(.int ((9 : Int32) * iv)), (.long bv)]))
  refine own_go (fun t k => XS.lushr X0.here hx rfl (hb hby d_2_5) rfl k) ?_
  show own_Go _ _ _ _ (s₁.setTop (mkF m 6 #[.val (.long bv), .second, .val (.int iv)] [(.long ((bv.toUInt64 >>> (((9 : Int32) * iv) &&& 0x3f).toInt64.toUInt64).toInt64))]))
  refine own_go (X0.ldc2Long hx hown (mvT hZ (w_103 hw)) (g := (mkF m 6 #[.val (.long bv), .second, .val (.int iv)] [(.long ((bv.toUInt64 >>> (((9 : Int32) * iv) &&& 0x3f).toInt64.toUInt64).toInt64))])) rfl (hb hby d_2_6)) ?_
  refine own_go (fun t k => XS.land X0.here hx rfl (hb hby d_2_9) rfl k) ?_
  refine own_go (fun t k => XS.l2i X0.here hx rfl (hb hby d_2_10) rfl k) ?_
  refine own_go (fun t k => XS.i2c X0.here hx rfl (hb hby d_2_11) rfl k) ?_
  show own_Go _ _ _ _ (s₁.setTop (mkF m 12 #[.val (.long bv), .second, .val (.int iv)] [(.int (((((bv.toUInt64 >>> (((9 : Int32) * iv) &&& 0x3f).toInt64.toUInt64).toInt64) &&& (511 : Int64)).toInt32).toUInt32.toUInt16.toUInt32.toInt32))]))
  refine own_retN X0 hx hlk (t := .char) hret (by simp) (hb hby d_2_12) ?_ (by decide) (by decide)
  rw [e0]
  exact ⟨rfl, N0, rfl⟩
def Q_at (Z : State) (bv : Int64) (sv : Int32) (nv : Int32) (iv : Int32) (h0 : Heap) (n0 : Nat) (v : Option Value) (h : Heap) (L : List Loc) : Prop := v = some (.int (own_at9 bv sv nv iv)) ∧ Fr n0 L ∧ h = h0
theorem ef_at (m : MethodId) (bv : Int64) (sv : Int32) (nv : Int32) (iv : Int32) : entryFrame m #[(.long bv), (.int sv), (.int nv), (.int iv)] 5 = mkF m 0 #[.val (.long bv), .second, .val (.int sv), .val (.int nv), .val (.int iv)] [] := by first | (simp [entryFrame, mkF, argsToLocals, Value.category]; done) | rfl
theorem d_3_0 : decode method_3_code 0 = .ok (.iload 4, 2) := by decide +kernel
theorem d_3_2 : decode method_3_code 2 = .ok (.iload_n 3, 1) := by decide +kernel
theorem d_3_3 : decode method_3_code 3 = .ok (.if_icmp .ge 14, 3) := by decide +kernel
theorem d_3_6 : decode method_3_code 6 = .ok (.lload_n 0, 1) := by decide +kernel
theorem d_3_7 : decode method_3_code 7 = .ok (.iload_n 2, 1) := by decide +kernel
theorem d_3_8 : decode method_3_code 8 = .ok (.iload 4, 2) := by decide +kernel
theorem d_3_10 : decode method_3_code 10 = .ok (.iadd, 1) := by decide +kernel
theorem w_100 {Z : State} {a0 : Array Value} (hw : ∀ d ∈ tables_1, d.before a0 Z = true) : (Jvm.Cond.methodLink "com/example/compact_transform/compacttransform/tree/StringFootprintLatin1PrefixOfJoinPinLaw" (9 : Nat) ({ cls := "com/example/compact_transform/compacttransform/tree/StringFootprintLatin1PrefixOfJoinPinLaw", name := "ch", desc := "(JI)C" } : Jvm.MethodName)).before a0 Z = true := hw _ (List.mem_of_getElem? (i := 100) rfl)
theorem w_102 {Z : State} {a0 : Array Value} (hw : ∀ d ∈ tables_1, d.before a0 Z = true) : (Jvm.Cond.code ({ cls := "com/example/compact_transform/compacttransform/tree/StringFootprintLatin1PrefixOfJoinPinLaw", name := "ch", desc := "(JI)C" } : Jvm.MethodName) method_2_code (3 : Nat) (Option.some Jvm.ClassFile.FieldType.char)).before a0 Z = true := hw _ (List.mem_of_getElem? (i := 102) rfl)
theorem w_3 {Z : State} {a0 : Array Value} (hw : ∀ d ∈ tables_1, d.before a0 Z = true) : (Jvm.Cond.initialized "com/example/compact_transform/compacttransform/tree/StringFootprintLatin1PrefixOfJoinPinLaw").before a0 Z = true := hw _ (List.mem_of_getElem? (i := 3) rfl)
theorem pd_0 : parseMethodDescriptor "(JI)C" = some ⟨[.long, .int], some .char⟩ := by decide +kernel
theorem d_3_11 : decode method_3_code 11 = .ok (.invokestatic 9, 3) := by decide +kernel
theorem w_101 {Z : State} {a0 : Array Value} (hw : ∀ d ∈ tables_1, d.before a0 Z = true) : (Jvm.Cond.static ({ cls := "com/example/compact_transform/compacttransform/tree/StringFootprintLatin1PrefixOfJoinPinLaw", name := "ch", desc := "(JI)C" } : Jvm.MethodName)).before a0 Z = true := hw _ (List.mem_of_getElem? (i := 101) rfl)
theorem d_3_14 : decode method_3_code 14 = .ok (.goto 6, 3) := by decide +kernel
theorem d_3_20 : decode method_3_code 20 = .ok (.ireturn, 1) := by decide +kernel
theorem d_3_17 : decode method_3_code 17 = .ok (.sipush 256, 3) := by decide +kernel
set_option maxRecDepth 65536 in
set_option maxHeartbeats 40000000 in
theorem rm_at (l : Launch) (Z : State) (a0 : Array Value) (hw : ∀ d ∈ tables_1, d.before a0 Z = true) (ws : List Jvm.Cond) (bv : Int64) (sv nv iv : Int32) (h0 : Heap) (n0 : Nat) (Z0 : n0 ≤ h0.size) :
    own_Met l Z (⟨"com/example/compact_transform/compacttransform/tree/StringFootprintLatin1PrefixOfJoinPinLaw", "at", "(JIII)C"⟩ : MethodName) method_3_code 5 (some .char) ws ({ frames := 1, cells := 0, slots := 0, locals := 14 } : Room) #[(.long bv), (.int sv), (.int nv), (.int iv)] h0 (Q_at Z bv sv nv iv h0 n0) := by
  refine own_enter (own := "com/example/compact_transform/compacttransform/tree/StringFootprintLatin1PrefixOfJoinPinLaw") (plainFor_of_name pn_0) rfl ?_
  intro p e s m below meth c s₁ hlk hret hx hby hml hown hnm hZ X0 e0
  have N0 := Fr.nil n0
  refine own_cast (ef_at m bv sv nv iv) ?_
  show own_Go _ _ _ _ (s₁.setTop (mkF m 0 #[.val (.long bv), .second, .val (.int sv), .val (.int nv), .val (.int iv)] []))
  refine own_go (fun t k => XS.iload X0.here hx rfl (hb hby d_3_0) rfl k) ?_
  refine own_go (fun t k => XS.iloadN X0.here hx rfl (hb hby d_3_2) rfl k) ?_
  by_cases hc101 : iv < nv
  · show own_Go _ _ _ _ (s₁.setTop (mkF m 3 #[.val (.long bv), .second, .val (.int sv), .val (.int nv), .val (.int iv)] [(.int nv), (.int iv)]))
    refine own_go (fun t k => XS.icmpNo X0.here hx rfl (hb hby d_3_3) rfl (tlt hc101).2.1 k) ?_
    refine own_go (fun t k => XS.lloadN X0.here hx rfl (hb hby d_3_6) rfl k) ?_
    refine own_go (fun t k => XS.iloadN X0.here hx rfl (hb hby d_3_7) rfl k) ?_
    refine own_go (fun t k => XS.iload X0.here hx rfl (hb hby d_3_8) rfl k) ?_
    show own_Go _ _ _ _ (s₁.setTop (mkF m 10 #[.val (.long bv), .second, .val (.int sv), .val (.int nv), .val (.int iv)] [(.int iv), (.int sv), (.long bv)]))
    refine own_go (fun t k => XS.iadd X0.here hx rfl (hb hby d_3_10) rfl k) ?_
    obtain ⟨_, _, ⟨T102, L102, k102, n102⟩, -, X102, ⟨Lc102, hQ102, l102, y102, z102⟩, st102⟩ := Jvm.LawKit.callS X0 hx (y := (⟨"com/example/compact_transform/compacttransform/tree/StringFootprintLatin1PrefixOfJoinPinLaw", "ch", "(JI)C"⟩ : MethodName)) hown (mvT hZ (w_100 hw)) (mvT hZ (w_101 hw)) (mvT hZ (w_3 hw)) (mvT hZ (w_102 hw)) (by decide) (backOf (W := 0) (rm_ch l Z a0 hw [] bv (sv + iv) h0 n0 Z0 ) hZ (w_102 hw) (w_3 hw) (by decide) (by decide)) (g := (mkF m 11 #[.val (.long bv), .second, .val (.int sv), .val (.int nv), .val (.int iv)] [(.int (sv + iv)), (.long bv)])) rfl (by rw [hml]; rfl) (argsL := [(.long bv), (.int (sv + iv))]) (rest := []) (lenOf pd_0 rfl) rfl (by show 2 * 0 + _ ≤ _; exact Nat.le_of_eq rfl) (hb hby d_3_11) (fun _ _ => ⟨rfl, e0, (by decide : 0 + 0 ≤ _), (by decide : 0 + 0 ≤ _)⟩)
    dsimp only [Pt.U, Pt.locs, Pt.cells, Pt.slots] at X102 l102 y102 z102 st102 hQ102
    subst l102 y102 z102
    obtain ⟨rfl, N102q, e102⟩ := hQ102
    have N102 := Fr.app N0 N102q
    refine own_go st102 ?_
    refine own_go (fun t k => XS.goto X102.here hx rfl (pc0 := 14) (pc' := 20) rfl (hb hby d_3_14) (by decide) (by decide) k) ?_
    show own_Go _ _ _ _ (T102.setTop (mkF m 20 #[.val (.long bv), .second, .val (.int sv), .val (.int nv), .val (.int iv)] [(.int (own_ch9 bv (sv + iv)))]))
    refine own_retN X102 hx hlk (t := .char) hret (by simp) (hb hby d_3_20) ?_ (by decide) (by decide)
    rw [e102]
    exact ⟨by rw [own_at9, if_pos hc101, own_nc9 (own_ch9B _ _)], N102, rfl⟩
  · show own_Go _ _ _ _ (s₁.setTop (mkF m 3 #[.val (.long bv), .second, .val (.int sv), .val (.int nv), .val (.int iv)] [(.int nv), (.int iv)]))
    refine own_go (fun t k => XS.icmpYes X0.here hx rfl (pc0 := 3) (pc' := 17) rfl (hb hby d_3_3) rfl (flt hc101).2.1 (by decide) (by decide) k) ?_
    refine own_go (fun t k => XS.sipush X0.here hx rfl (hb hby d_3_17) k) ?_
    show own_Go _ _ _ _ (s₁.setTop (mkF m 20 #[.val (.long bv), .second, .val (.int sv), .val (.int nv), .val (.int iv)] [(.int (256 : Int32))]))
    refine own_retN X0 hx hlk (t := .char) hret (by simp) (hb hby d_3_20) ?_ (by decide) (by decide)
    rw [e0]
    exact ⟨by rw [own_at9, if_neg hc101]; rfl, N0, rfl⟩
def Q_jat (Z : State) (bv : Int64) (n1 : Int32) (n2 : Int32) (iv : Int32) (h0 : Heap) (n0 : Nat) (v : Option Value) (h : Heap) (L : List Loc) : Prop := v = some (.int (own_j9 bv n1 n2 iv)) ∧ Fr n0 L ∧ h = h0
theorem ef_jat (m : MethodId) (bv : Int64) (n1 : Int32) (n2 : Int32) (iv : Int32) : entryFrame m #[(.long bv), (.int n1), (.int n2), (.int iv)] 5 = mkF m 0 #[.val (.long bv), .second, .val (.int n1), .val (.int n2), .val (.int iv)] [] := by first | (simp [entryFrame, mkF, argsToLocals, Value.category]; done) | rfl
theorem d_4_0 : decode method_4_code 0 = .ok (.iload 4, 2) := by decide +kernel
theorem d_4_2 : decode method_4_code 2 = .ok (.iload_n 2, 1) := by decide +kernel
theorem d_4_3 : decode method_4_code 3 = .ok (.if_icmp .ge 12, 3) := by decide +kernel
theorem d_4_6 : decode method_4_code 6 = .ok (.lload_n 0, 1) := by decide +kernel
theorem d_4_7 : decode method_4_code 7 = .ok (.iload 4, 2) := by decide +kernel
theorem d_4_9 : decode method_4_code 9 = .ok (.invokestatic 9, 3) := by decide +kernel
theorem d_4_12 : decode method_4_code 12 = .ok (.goto 13, 3) := by decide +kernel
theorem d_4_25 : decode method_4_code 25 = .ok (.ireturn, 1) := by decide +kernel
theorem d_4_15 : decode method_4_code 15 = .ok (.lload_n 0, 1) := by decide +kernel
theorem d_4_16 : decode method_4_code 16 = .ok (.iconst 3, 1) := by decide +kernel
theorem d_4_17 : decode method_4_code 17 = .ok (.iload_n 3, 1) := by decide +kernel
theorem d_4_18 : decode method_4_code 18 = .ok (.iload 4, 2) := by decide +kernel
theorem d_4_20 : decode method_4_code 20 = .ok (.iload_n 2, 1) := by decide +kernel
theorem d_4_21 : decode method_4_code 21 = .ok (.isub, 1) := by decide +kernel
theorem w_1 {Z : State} {a0 : Array Value} (hw : ∀ d ∈ tables_1, d.before a0 Z = true) : (Jvm.Cond.methodLink "com/example/compact_transform/compacttransform/tree/StringFootprintLatin1PrefixOfJoinPinLaw" (15 : Nat) ({ cls := "com/example/compact_transform/compacttransform/tree/StringFootprintLatin1PrefixOfJoinPinLaw", name := "at", desc := "(JIII)C" } : Jvm.MethodName)).before a0 Z = true := hw _ (List.mem_of_getElem? (i := 1) rfl)
theorem w_4 {Z : State} {a0 : Array Value} (hw : ∀ d ∈ tables_1, d.before a0 Z = true) : (Jvm.Cond.code ({ cls := "com/example/compact_transform/compacttransform/tree/StringFootprintLatin1PrefixOfJoinPinLaw", name := "at", desc := "(JIII)C" } : Jvm.MethodName) method_3_code (5 : Nat) (Option.some Jvm.ClassFile.FieldType.char)).before a0 Z = true := hw _ (List.mem_of_getElem? (i := 4) rfl)
theorem pd_1 : parseMethodDescriptor "(JIII)C" = some ⟨[.long, .int, .int, .int], some .char⟩ := by decide +kernel
theorem d_4_22 : decode method_4_code 22 = .ok (.invokestatic 15, 3) := by decide +kernel
theorem w_2 {Z : State} {a0 : Array Value} (hw : ∀ d ∈ tables_1, d.before a0 Z = true) : (Jvm.Cond.static ({ cls := "com/example/compact_transform/compacttransform/tree/StringFootprintLatin1PrefixOfJoinPinLaw", name := "at", desc := "(JIII)C" } : Jvm.MethodName)).before a0 Z = true := hw _ (List.mem_of_getElem? (i := 2) rfl)
set_option maxRecDepth 65536 in
set_option maxHeartbeats 40000000 in
theorem rm_jat (l : Launch) (Z : State) (a0 : Array Value) (hw : ∀ d ∈ tables_1, d.before a0 Z = true) (ws : List Jvm.Cond) (bv : Int64) (n1 n2 iv : Int32) (h0 : Heap) (n0 : Nat) (Z0 : n0 ≤ h0.size) :
    own_Met l Z (⟨"com/example/compact_transform/compacttransform/tree/StringFootprintLatin1PrefixOfJoinPinLaw", "joinedAt", "(JIII)C"⟩ : MethodName) method_4_code 5 (some .char) ws ({ frames := 2, cells := 0, slots := 0, locals := 30 } : Room) #[(.long bv), (.int n1), (.int n2), (.int iv)] h0 (Q_jat Z bv n1 n2 iv h0 n0) := by
  refine own_enter (own := "com/example/compact_transform/compacttransform/tree/StringFootprintLatin1PrefixOfJoinPinLaw") (plainFor_of_name pn_0) rfl ?_
  intro p e s m below meth c s₁ hlk hret hx hby hml hown hnm hZ X0 e0
  have N0 := Fr.nil n0
  refine own_cast (ef_jat m bv n1 n2 iv) ?_
  show own_Go _ _ _ _ (s₁.setTop (mkF m 0 #[.val (.long bv), .second, .val (.int n1), .val (.int n2), .val (.int iv)] []))
  refine own_go (fun t k => XS.iload X0.here hx rfl (hb hby d_4_0) rfl k) ?_
  refine own_go (fun t k => XS.iloadN X0.here hx rfl (hb hby d_4_2) rfl k) ?_
  by_cases hc103 : iv < n1
  · show own_Go _ _ _ _ (s₁.setTop (mkF m 3 #[.val (.long bv), .second, .val (.int n1), .val (.int n2), .val (.int iv)] [(.int n1), (.int iv)]))
    refine own_go (fun t k => XS.icmpNo X0.here hx rfl (hb hby d_4_3) rfl (tlt hc103).2.1 k) ?_
    refine own_go (fun t k => XS.lloadN X0.here hx rfl (hb hby d_4_6) rfl k) ?_
    refine own_go (fun t k => XS.iload X0.here hx rfl (hb hby d_4_7) rfl k) ?_
    obtain ⟨_, _, ⟨T104, L104, k104, n104⟩, -, X104, ⟨Lc104, hQ104, l104, y104, z104⟩, st104⟩ := Jvm.LawKit.callS X0 hx (y := (⟨"com/example/compact_transform/compacttransform/tree/StringFootprintLatin1PrefixOfJoinPinLaw", "ch", "(JI)C"⟩ : MethodName)) hown (mvT hZ (w_100 hw)) (mvT hZ (w_101 hw)) (mvT hZ (w_3 hw)) (mvT hZ (w_102 hw)) (by decide) (backOf (W := 0) (rm_ch l Z a0 hw [] bv iv h0 n0 Z0 ) hZ (w_102 hw) (w_3 hw) (by decide) (by decide)) (g := (mkF m 9 #[.val (.long bv), .second, .val (.int n1), .val (.int n2), .val (.int iv)] [(.int iv), (.long bv)])) rfl (by rw [hml]; rfl) (argsL := [(.long bv), (.int iv)]) (rest := []) (lenOf pd_0 rfl) rfl (by show 2 * 0 + _ ≤ _; exact Nat.le_of_eq rfl) (hb hby d_4_9) (fun _ _ => ⟨rfl, e0, (by decide : 0 + 0 ≤ _), (by decide : 0 + 0 ≤ _)⟩)
    dsimp only [Pt.U, Pt.locs, Pt.cells, Pt.slots] at X104 l104 y104 z104 st104 hQ104
    subst l104 y104 z104
    obtain ⟨rfl, N104q, e104⟩ := hQ104
    have N104 := Fr.app N0 N104q
    refine own_go st104 ?_
    show own_Go _ _ _ _ (T104.setTop (mkF m 12 #[.val (.long bv), .second, .val (.int n1), .val (.int n2), .val (.int iv)] [(.int (own_ch9 bv iv))]))
    refine own_go (fun t k => XS.goto X104.here hx rfl (pc0 := 12) (pc' := 25) rfl (hb hby d_4_12) (by decide) (by decide) k) ?_
    show own_Go _ _ _ _ (T104.setTop (mkF m 25 #[.val (.long bv), .second, .val (.int n1), .val (.int n2), .val (.int iv)] [(.int (own_ch9 bv iv))]))
    refine own_retN X104 hx hlk (t := .char) hret (by simp) (hb hby d_4_25) ?_ (by decide) (by decide)
    rw [e104]
    exact ⟨by rw [own_j9, if_pos hc103, own_nc9 (own_ch9B _ _)], N104, rfl⟩
  · show own_Go _ _ _ _ (s₁.setTop (mkF m 3 #[.val (.long bv), .second, .val (.int n1), .val (.int n2), .val (.int iv)] [(.int n1), (.int iv)]))
    refine own_go (fun t k => XS.icmpYes X0.here hx rfl (pc0 := 3) (pc' := 15) rfl (hb hby d_4_3) rfl (flt hc103).2.1 (by decide) (by decide) k) ?_
    refine own_go (fun t k => XS.lloadN X0.here hx rfl (hb hby d_4_15) rfl k) ?_
    refine own_go (fun t k => XS.iconst X0.here hx rfl (hb hby d_4_16) k) ?_
    refine own_go (fun t k => XS.iloadN X0.here hx rfl (hb hby d_4_17) rfl k) ?_
    show own_Go _ _ _ _ (s₁.setTop (mkF m 18 #[.val (.long bv), .second, .val (.int n1), .val (.int n2), .val (.int iv)] [(.int n2), (.int (3 : Int32)), (.long bv)]))
    refine own_go (fun t k => XS.iload X0.here hx rfl (hb hby d_4_18) rfl k) ?_
    refine own_go (fun t k => XS.iloadN X0.here hx rfl (hb hby d_4_20) rfl k) ?_
    refine own_go (fun t k => XS.isub X0.here hx rfl (hb hby d_4_21) rfl k) ?_
    obtain ⟨_, _, ⟨T105, L105, k105, n105⟩, -, X105, ⟨Lc105, hQ105, l105, y105, z105⟩, st105⟩ := Jvm.LawKit.callS X0 hx (y := (⟨"com/example/compact_transform/compacttransform/tree/StringFootprintLatin1PrefixOfJoinPinLaw", "at", "(JIII)C"⟩ : MethodName)) hown (mvT hZ (w_1 hw)) (mvT hZ (w_2 hw)) (mvT hZ (w_3 hw)) (mvT hZ (w_4 hw)) (by decide) (backOf (W := 0) (rm_at l Z a0 hw [] bv (3 : Int32) n2 (iv - n1) h0 n0 Z0 ) hZ (w_4 hw) (w_3 hw) (by decide) (by decide)) (g := (mkF m 22 #[.val (.long bv), .second, .val (.int n1), .val (.int n2), .val (.int iv)] [(.int (iv - n1)), (.int n2), (.int (3 : Int32)), (.long bv)])) rfl (by rw [hml]; rfl) (argsL := [(.long bv), (.int (3 : Int32)), (.int n2), (.int (iv - n1))]) (rest := []) (lenOf pd_1 rfl) rfl (by show 2 * 0 + _ ≤ _; exact Nat.le_of_eq rfl) (hb hby d_4_22) (fun _ _ => ⟨rfl, e0, (by decide : 0 + 0 ≤ _), (by decide : 0 + 0 ≤ _)⟩)
    dsimp only [Pt.U, Pt.locs, Pt.cells, Pt.slots] at X105 l105 y105 z105 st105 hQ105
    subst l105 y105 z105
    obtain ⟨rfl, N105q, e105⟩ := hQ105
    have N105 := Fr.app N0 N105q
    refine own_go st105 ?_
    show own_Go _ _ _ _ (T105.setTop (mkF m 25 #[.val (.long bv), .second, .val (.int n1), .val (.int n2), .val (.int iv)] [(.int (own_at9 bv (3 : Int32) n2 (iv - n1)))]))
    refine own_retN X105 hx hlk (t := .char) hret (by simp) (hb hby d_4_25) ?_ (by decide) (by decide)
    rw [e105]
    exact ⟨by rw [own_j9, if_neg hc103, own_nc9 (own_at9B _ _ _ _)], N105, rfl⟩
def Q_lpj (Z : State) (av : Int32) (nv : Int32) (bw : Int32) (h0 : Heap) (n0 : Nat) (v : Option Value) (h : Heap) (L : List Loc) : Prop := v = some (.int (own_lpj av nv bw)) ∧ Fr n0 L ∧ h = h0
theorem ef_lpj (m : MethodId) (av : Int32) (nv : Int32) (bw : Int32) : entryFrame m #[(.int av), (.int nv), (.int bw)] 4 = mkF m 0 #[.val (.int av), .val (.int nv), .val (.int bw), .unset] [] := by first | (simp [entryFrame, mkF, argsToLocals, Value.category]; done) | rfl
theorem pn_1 : plainName "com/example/compact_transform/compacttransform/tree/StringFootprint" = true := by first | (simp [plainName, overriddenIn]; done) | decide +kernel
theorem d_p118_7_0 : decode prog_118_method_7_code 0 = .ok (.iload_n 0, 1) := by decide +kernel
theorem d_p118_7_1 : decode prog_118_method_7_code 1 = .ok (.iconst (-1), 1) := by decide +kernel
theorem d_p118_7_2 : decode prog_118_method_7_code 2 = .ok (.if_icmp .eq 8, 3) := by decide +kernel
theorem d_p118_7_10 : decode prog_118_method_7_code 10 = .ok (.iload_n 0, 1) := by decide +kernel
theorem d_p118_7_11 : decode prog_118_method_7_code 11 = .ok (.istore_n 3, 1) := by decide +kernel
theorem d_p118_7_12 : decode prog_118_method_7_code 12 = .ok (.goto 17, 3) := by decide +kernel
theorem d_p118_7_29 : decode prog_118_method_7_code 29 = .ok (.iload_n 3, 1) := by decide +kernel
theorem d_p118_7_30 : decode prog_118_method_7_code 30 = .ok (.ireturn, 1) := by decide +kernel
theorem d_p118_7_5 : decode prog_118_method_7_code 5 = .ok (.iload_n 0, 1) := by decide +kernel
theorem d_p118_7_6 : decode prog_118_method_7_code 6 = .ok (.iload_n 1, 1) := by decide +kernel
theorem d_p118_7_7 : decode prog_118_method_7_code 7 = .ok (.if_icmp .ge 8, 3) := by decide +kernel
theorem d_p118_7_15 : decode prog_118_method_7_code 15 = .ok (.iload_n 2, 1) := by decide +kernel
theorem d_p118_7_16 : decode prog_118_method_7_code 16 = .ok (.iconst (-1), 1) := by decide +kernel
theorem d_p118_7_17 : decode prog_118_method_7_code 17 = .ok (.if_icmp .ne 8, 3) := by decide +kernel
theorem d_p118_7_20 : decode prog_118_method_7_code 20 = .ok (.iconst (-1), 1) := by decide +kernel
theorem d_p118_7_21 : decode prog_118_method_7_code 21 = .ok (.istore_n 3, 1) := by decide +kernel
theorem d_p118_7_22 : decode prog_118_method_7_code 22 = .ok (.goto 7, 3) := by decide +kernel
theorem d_p118_7_25 : decode prog_118_method_7_code 25 = .ok (.iload_n 1, 1) := by decide +kernel
theorem d_p118_7_26 : decode prog_118_method_7_code 26 = .ok (.iload_n 2, 1) := by decide +kernel
theorem d_p118_7_27 : decode prog_118_method_7_code 27 = .ok (.iadd, 1) := by decide +kernel
theorem d_p118_7_28 : decode prog_118_method_7_code 28 = .ok (.istore_n 3, 1) := by decide +kernel
set_option maxRecDepth 65536 in
set_option maxHeartbeats 40000000 in
theorem rm_lpj (l : Launch) (Z : State) (a0 : Array Value) (hw : ∀ d ∈ tables_1, d.before a0 Z = true) (ws : List Jvm.Cond) (av nv bw : Int32) (h0 : Heap) (n0 : Nat) (Z0 : n0 ≤ h0.size) :
    own_Met l Z (⟨"com/example/compact_transform/compacttransform/tree/StringFootprint", "latin1PrefixOfJoin", "(III)I"⟩ : MethodName) prog_118_method_7_code 4 (some .int) ws ({ frames := 0, cells := 0, slots := 0, locals := 0 } : Room) #[(.int av), (.int nv), (.int bw)] h0 (Q_lpj Z av nv bw h0 n0) := by
  refine own_enter (own := "com/example/compact_transform/compacttransform/tree/StringFootprint") (plainFor_of_name pn_1) rfl ?_
  intro p e s m below meth c s₁ hlk hret hx hby hml hown hnm hZ X0 e0
  have N0 := Fr.nil n0
  refine own_cast (ef_lpj m av nv bw) ?_
  show own_Go _ _ _ _ (s₁.setTop (mkF m 0 #[.val (.int av), .val (.int nv), .val (.int bw), .unset] []))
  refine own_go (fun t k => XS.iloadN X0.here hx rfl (hb hby d_p118_7_0) rfl k) ?_
  refine own_go (fun t k => XS.iconst X0.here hx rfl (hb hby d_p118_7_1) k) ?_
  by_cases hc106 : av = (-1 : Int32)
  · show own_Go _ _ _ _ (s₁.setTop (mkF m 2 #[.val (.int av), .val (.int nv), .val (.int bw), .unset] [(.int (-1 : Int32)), (.int av)]))
    refine own_go (fun t k => XS.icmpYes X0.here hx rfl (pc0 := 2) (pc' := 10) rfl (hb hby d_p118_7_2) rfl (teq hc106).1 (by decide) (by decide) k) ?_
    refine own_go (fun t k => XS.iloadN X0.here hx rfl (hb hby d_p118_7_10) rfl k) ?_
    refine own_go (fun t k => XS.istoreN X0.here hx rfl (hb hby d_p118_7_11) rfl (l' := #[.val (.int av), .val (.int nv), .val (.int bw), .val (.int av)]) rfl k) ?_
    refine own_go (fun t k => XS.goto X0.here hx rfl (pc0 := 12) (pc' := 29) rfl (hb hby d_p118_7_12) (by decide) (by decide) k) ?_
    show own_Go _ _ _ _ (s₁.setTop (mkF m 29 #[.val (.int av), .val (.int nv), .val (.int bw), .val (.int av)] []))
    refine own_go (fun t k => XS.iloadN X0.here hx rfl (hb hby d_p118_7_29) rfl k) ?_
    show own_Go _ _ _ _ (s₁.setTop (mkF m 30 #[.val (.int av), .val (.int nv), .val (.int bw), .val (.int av)] [(.int av)]))
    refine own_ret X0 hx hlk hret rfl (Or.inl ⟨rfl, Or.inl rfl, _, rfl⟩) (hb hby d_p118_7_30) ?_ (by decide) (by decide)
    rw [e0]
    exact ⟨by simp [own_lpj, hc106], N0, rfl⟩
  · show own_Go _ _ _ _ (s₁.setTop (mkF m 2 #[.val (.int av), .val (.int nv), .val (.int bw), .unset] [(.int (-1 : Int32)), (.int av)]))
    refine own_go (fun t k => XS.icmpNo X0.here hx rfl (hb hby d_p118_7_2) rfl (feq hc106).1 k) ?_
    refine own_go (fun t k => XS.iloadN X0.here hx rfl (hb hby d_p118_7_5) rfl k) ?_
    refine own_go (fun t k => XS.iloadN X0.here hx rfl (hb hby d_p118_7_6) rfl k) ?_
    by_cases hc107 : av < nv
    · show own_Go _ _ _ _ (s₁.setTop (mkF m 7 #[.val (.int av), .val (.int nv), .val (.int bw), .unset] [(.int nv), (.int av)]))
      refine own_go (fun t k => XS.icmpNo X0.here hx rfl (hb hby d_p118_7_7) rfl (tlt hc107).2.1 k) ?_
      refine own_go (fun t k => XS.iloadN X0.here hx rfl (hb hby d_p118_7_10) rfl k) ?_
      refine own_go (fun t k => XS.istoreN X0.here hx rfl (hb hby d_p118_7_11) rfl (l' := #[.val (.int av), .val (.int nv), .val (.int bw), .val (.int av)]) rfl k) ?_
      refine own_go (fun t k => XS.goto X0.here hx rfl (pc0 := 12) (pc' := 29) rfl (hb hby d_p118_7_12) (by decide) (by decide) k) ?_
      show own_Go _ _ _ _ (s₁.setTop (mkF m 29 #[.val (.int av), .val (.int nv), .val (.int bw), .val (.int av)] []))
      refine own_go (fun t k => XS.iloadN X0.here hx rfl (hb hby d_p118_7_29) rfl k) ?_
      show own_Go _ _ _ _ (s₁.setTop (mkF m 30 #[.val (.int av), .val (.int nv), .val (.int bw), .val (.int av)] [(.int av)]))
      refine own_ret X0 hx hlk hret rfl (Or.inl ⟨rfl, Or.inl rfl, _, rfl⟩) (hb hby d_p118_7_30) ?_ (by decide) (by decide)
      rw [e0]
      exact ⟨by simp [own_lpj, hc106, hc107], N0, rfl⟩
    · show own_Go _ _ _ _ (s₁.setTop (mkF m 7 #[.val (.int av), .val (.int nv), .val (.int bw), .unset] [(.int nv), (.int av)]))
      refine own_go (fun t k => XS.icmpYes X0.here hx rfl (pc0 := 7) (pc' := 15) rfl (hb hby d_p118_7_7) rfl (flt hc107).2.1 (by decide) (by decide) k) ?_
      refine own_go (fun t k => XS.iloadN X0.here hx rfl (hb hby d_p118_7_15) rfl k) ?_
      refine own_go (fun t k => XS.iconst X0.here hx rfl (hb hby d_p118_7_16) k) ?_
      by_cases hc108 : bw = (-1 : Int32)
      · show own_Go _ _ _ _ (s₁.setTop (mkF m 17 #[.val (.int av), .val (.int nv), .val (.int bw), .unset] [(.int (-1 : Int32)), (.int bw)]))
        refine own_go (fun t k => XS.icmpNo X0.here hx rfl (hb hby d_p118_7_17) rfl (teq hc108).2 k) ?_
        refine own_go (fun t k => XS.iconst X0.here hx rfl (hb hby d_p118_7_20) k) ?_
        refine own_go (fun t k => XS.istoreN X0.here hx rfl (hb hby d_p118_7_21) rfl (l' := #[.val (.int av), .val (.int nv), .val (.int bw), .val (.int (-1 : Int32))]) rfl k) ?_
        refine own_go (fun t k => XS.goto X0.here hx rfl (pc0 := 22) (pc' := 29) rfl (hb hby d_p118_7_22) (by decide) (by decide) k) ?_
        show own_Go _ _ _ _ (s₁.setTop (mkF m 29 #[.val (.int av), .val (.int nv), .val (.int bw), .val (.int (-1 : Int32))] []))
        refine own_go (fun t k => XS.iloadN X0.here hx rfl (hb hby d_p118_7_29) rfl k) ?_
        show own_Go _ _ _ _ (s₁.setTop (mkF m 30 #[.val (.int av), .val (.int nv), .val (.int bw), .val (.int (-1 : Int32))] [(.int (-1 : Int32))]))
        refine own_ret X0 hx hlk hret rfl (Or.inl ⟨rfl, Or.inl rfl, _, rfl⟩) (hb hby d_p118_7_30) ?_ (by decide) (by decide)
        rw [e0]
        exact ⟨by simp [own_lpj, hc106, hc107, hc108], N0, rfl⟩
      · show own_Go _ _ _ _ (s₁.setTop (mkF m 17 #[.val (.int av), .val (.int nv), .val (.int bw), .unset] [(.int (-1 : Int32)), (.int bw)]))
        refine own_go (fun t k => XS.icmpYes X0.here hx rfl (pc0 := 17) (pc' := 25) rfl (hb hby d_p118_7_17) rfl (feq hc108).2 (by decide) (by decide) k) ?_
        refine own_go (fun t k => XS.iloadN X0.here hx rfl (hb hby d_p118_7_25) rfl k) ?_
        refine own_go (fun t k => XS.iloadN X0.here hx rfl (hb hby d_p118_7_26) rfl k) ?_
        refine own_go (fun t k => XS.iadd X0.here hx rfl (hb hby d_p118_7_27) rfl k) ?_
        show own_Go _ _ _ _ (s₁.setTop (mkF m 28 #[.val (.int av), .val (.int nv), .val (.int bw), .unset] [(.int (nv + bw))]))
        refine own_go (fun t k => XS.istoreN X0.here hx rfl (hb hby d_p118_7_28) rfl (l' := #[.val (.int av), .val (.int nv), .val (.int bw), .val (.int (nv + bw))]) rfl k) ?_
        refine own_go (fun t k => XS.iloadN X0.here hx rfl (hb hby d_p118_7_29) rfl k) ?_
        show own_Go _ _ _ _ (s₁.setTop (mkF m 30 #[.val (.int av), .val (.int nv), .val (.int bw), .val (.int (nv + bw))] [(.int (nv + bw))]))
        refine own_ret X0 hx hlk hret rfl (Or.inl ⟨rfl, Or.inl rfl, _, rfl⟩) (hb hby d_p118_7_30) ?_ (by decide) (by decide)
        rw [e0]
        exact ⟨by simp [own_lpj, hc106, hc107, hc108], N0, rfl⟩
def Q_pciN (Z : State) (iv : Int32) (lv : Int32) (h0 : Heap) (n0 : Nat) (v : Option Value) (h : Heap) (L : List Loc) : Prop := v = some (.int iv) ∧ Fr n0 L ∧ h = h0
theorem ef_pciN (m : MethodId) (iv : Int32) (lv : Int32) : entryFrame m #[(.int iv), (.int lv), .null] 3 = mkF m 0 #[.val (.int iv), .val (.int lv), .val .null] [] := by first | (simp [entryFrame, mkF, argsToLocals, Value.category]; done) | rfl
theorem pn_2 : plainName "jdk/internal/util/Preconditions" = true := by first | (simp [plainName, overriddenIn]; done) | decide +kernel
theorem d_j41_11_0 : decode jdk_41_method_11_code 0 = .ok (.iload_n 0, 1) := by decide +kernel
theorem d_j41_11_1 : decode jdk_41_method_11_code 1 = .ok (.ifCond .lt 8, 3) := by decide +kernel
theorem d_j41_11_4 : decode jdk_41_method_11_code 4 = .ok (.iload_n 0, 1) := by decide +kernel
theorem d_j41_11_5 : decode jdk_41_method_11_code 5 = .ok (.iload_n 1, 1) := by decide +kernel
theorem d_j41_11_6 : decode jdk_41_method_11_code 6 = .ok (.if_icmp .lt 10, 3) := by decide +kernel
theorem d_j41_11_16 : decode jdk_41_method_11_code 16 = .ok (.iload_n 0, 1) := by decide +kernel
theorem d_j41_11_17 : decode jdk_41_method_11_code 17 = .ok (.ireturn, 1) := by decide +kernel
set_option maxRecDepth 65536 in
set_option maxHeartbeats 40000000 in
theorem rm_pciN (l : Launch) (Z : State) (a0 : Array Value) (hw : ∀ d ∈ tables_1, d.before a0 Z = true) (ws : List Jvm.Cond) (iv lv : Int32) (h0 : Heap) (n0 : Nat) (Z0 : n0 ≤ h0.size) (hi0 : ¬ iv < (0 : Int32)) (hin : iv < lv) :
    own_Met l Z (⟨"jdk/internal/util/Preconditions", "checkIndex", "(IILjava/util/function/BiFunction;)I"⟩ : MethodName) jdk_41_method_11_code 3 (some .int) ws ({ frames := 0, cells := 0, slots := 0, locals := 0 } : Room) #[(.int iv), (.int lv), .null] h0 (Q_pciN Z iv lv h0 n0) := by
  refine own_enter (own := "jdk/internal/util/Preconditions") (plainFor_of_name pn_2) rfl ?_
  intro p e s m below meth c s₁ hlk hret hx hby hml hown hnm hZ X0 e0
  have N0 := Fr.nil n0
  refine own_cast (ef_pciN m iv lv) ?_
  show own_Go _ _ _ _ (s₁.setTop (mkF m 0 #[.val (.int iv), .val (.int lv), .val .null] []))
  refine own_go (fun t k => XS.iloadN X0.here hx rfl (hb hby d_j41_11_0) rfl k) ?_
  show own_Go _ _ _ _ (s₁.setTop (mkF m 1 #[.val (.int iv), .val (.int lv), .val .null] [(.int iv)]))
  refine own_go (fun t k => XS.ifNo X0.here hx rfl (hb hby d_j41_11_1) rfl ((if0 _ _).trans (flt hi0).1) k) ?_
  refine own_go (fun t k => XS.iloadN X0.here hx rfl (hb hby d_j41_11_4) rfl k) ?_
  refine own_go (fun t k => XS.iloadN X0.here hx rfl (hb hby d_j41_11_5) rfl k) ?_
  show own_Go _ _ _ _ (s₁.setTop (mkF m 6 #[.val (.int iv), .val (.int lv), .val .null] [(.int lv), (.int iv)]))
  refine own_go (fun t k => XS.icmpYes X0.here hx rfl (pc0 := 6) (pc' := 16) rfl (hb hby d_j41_11_6) rfl (tlt hin).1 (by decide) (by decide) k) ?_
  refine own_go (fun t k => XS.iloadN X0.here hx rfl (hb hby d_j41_11_16) rfl k) ?_
  show own_Go _ _ _ _ (s₁.setTop (mkF m 17 #[.val (.int iv), .val (.int lv), .val .null] [(.int iv)]))
  refine own_ret X0 hx hlk hret rfl (Or.inl ⟨rfl, Or.inl rfl, _, rfl⟩) (hb hby d_j41_11_17) ?_ (by decide) (by decide)
  rw [e0]
  exact ⟨rfl, N0, rfl⟩
def Q_pciR (Z : State) (iv : Int32) (lv : Int32) (ga : Addr) (h0 : Heap) (n0 : Nat) (v : Option Value) (h : Heap) (L : List Loc) : Prop := v = some (.int iv) ∧ Fr n0 L ∧ h = h0
theorem ef_pciR (m : MethodId) (iv : Int32) (lv : Int32) (ga : Addr) : entryFrame m #[(.int iv), (.int lv), (.ref ga)] 3 = mkF m 0 #[.val (.int iv), .val (.int lv), .val (.ref ga)] [] := by first | (simp [entryFrame, mkF, argsToLocals, Value.category]; done) | rfl
set_option maxRecDepth 65536 in
set_option maxHeartbeats 40000000 in
theorem rm_pciR (l : Launch) (Z : State) (a0 : Array Value) (hw : ∀ d ∈ tables_1, d.before a0 Z = true) (ws : List Jvm.Cond) (iv lv : Int32) (ga : Addr) (h0 : Heap) (n0 : Nat) (Z0 : n0 ≤ h0.size) (hi0 : ¬ iv < (0 : Int32)) (hin : iv < lv) :
    own_Met l Z (⟨"jdk/internal/util/Preconditions", "checkIndex", "(IILjava/util/function/BiFunction;)I"⟩ : MethodName) jdk_41_method_11_code 3 (some .int) ws ({ frames := 0, cells := 0, slots := 0, locals := 0 } : Room) #[(.int iv), (.int lv), (.ref ga)] h0 (Q_pciR Z iv lv ga h0 n0) := by
  refine own_enter (own := "jdk/internal/util/Preconditions") (plainFor_of_name pn_2) rfl ?_
  intro p e s m below meth c s₁ hlk hret hx hby hml hown hnm hZ X0 e0
  have N0 := Fr.nil n0
  refine own_cast (ef_pciR m iv lv ga) ?_
  show own_Go _ _ _ _ (s₁.setTop (mkF m 0 #[.val (.int iv), .val (.int lv), .val (.ref ga)] []))
  refine own_go (fun t k => XS.iloadN X0.here hx rfl (hb hby d_j41_11_0) rfl k) ?_
  show own_Go _ _ _ _ (s₁.setTop (mkF m 1 #[.val (.int iv), .val (.int lv), .val (.ref ga)] [(.int iv)]))
  refine own_go (fun t k => XS.ifNo X0.here hx rfl (hb hby d_j41_11_1) rfl ((if0 _ _).trans (flt hi0).1) k) ?_
  refine own_go (fun t k => XS.iloadN X0.here hx rfl (hb hby d_j41_11_4) rfl k) ?_
  refine own_go (fun t k => XS.iloadN X0.here hx rfl (hb hby d_j41_11_5) rfl k) ?_
  show own_Go _ _ _ _ (s₁.setTop (mkF m 6 #[.val (.int iv), .val (.int lv), .val (.ref ga)] [(.int lv), (.int iv)]))
  refine own_go (fun t k => XS.icmpYes X0.here hx rfl (pc0 := 6) (pc' := 16) rfl (hb hby d_j41_11_6) rfl (tlt hin).1 (by decide) (by decide) k) ?_
  refine own_go (fun t k => XS.iloadN X0.here hx rfl (hb hby d_j41_11_16) rfl k) ?_
  show own_Go _ _ _ _ (s₁.setTop (mkF m 17 #[.val (.int iv), .val (.int lv), .val (.ref ga)] [(.int iv)]))
  refine own_ret X0 hx hlk hret rfl (Or.inl ⟨rfl, Or.inl rfl, _, rfl⟩) (hb hby d_j41_11_17) ?_ (by decide) (by decide)
  rw [e0]
  exact ⟨rfl, N0, rfl⟩
def Q_sci (Z : State) (iv : Int32) (lv : Int32) (zv : Int32) (gv : Value) (h0 : Heap) (n0 : Nat) (v : Option Value) (h : Heap) (L : List Loc) : Prop := v = none ∧ Fr n0 L ∧ h = h0
theorem ef_sci (m : MethodId) (iv : Int32) (lv : Int32) : entryFrame m #[(.int iv), (.int lv)] 2 = mkF m 0 #[.val (.int iv), .val (.int lv)] [] := by first | (simp [entryFrame, mkF, argsToLocals, Value.category]; done) | rfl
theorem pn_3 : plainName "java/lang/String" = true := by first | (simp [plainName, overriddenIn]; done) | decide +kernel
theorem d_j42_155_0 : decode jdk_42_method_155_code 0 = .ok (.iload_n 0, 1) := by decide +kernel
theorem d_j42_155_1 : decode jdk_42_method_155_code 1 = .ok (.iload_n 1, 1) := by decide +kernel
theorem w_92 {Z : State} {a0 : Array Value} (hw : ∀ d ∈ tables_1, d.before a0 Z = true) : (Jvm.Cond.fieldLink "java/lang/String" (1053 : Nat) "jdk/internal/util/Preconditions" "SIOOBE_FORMATTER" "Ljava/util/function/BiFunction;").before a0 Z = true := hw _ (List.mem_of_getElem? (i := 92) rfl)
theorem d_j42_155_2 : decode jdk_42_method_155_code 2 = .ok (.getstatic 1053, 3) := by decide +kernel
theorem w_94 {Z : State} {a0 : Array Value} (hw : ∀ d ∈ tables_1, d.before a0 Z = true) : (Jvm.Cond.methodLink "java/lang/String" (1059 : Nat) ({ cls := "jdk/internal/util/Preconditions", name := "checkIndex", desc := "(IILjava/util/function/BiFunction;)I" } : Jvm.MethodName)).before a0 Z = true := hw _ (List.mem_of_getElem? (i := 94) rfl)
theorem w_96 {Z : State} {a0 : Array Value} (hw : ∀ d ∈ tables_1, d.before a0 Z = true) : (Jvm.Cond.code ({ cls := "jdk/internal/util/Preconditions", name := "checkIndex", desc := "(IILjava/util/function/BiFunction;)I" } : Jvm.MethodName) jdk_41_method_11_code (3 : Nat) (Option.some Jvm.ClassFile.FieldType.int)).before a0 Z = true := hw _ (List.mem_of_getElem? (i := 96) rfl)
theorem w_93 {Z : State} {a0 : Array Value} (hw : ∀ d ∈ tables_1, d.before a0 Z = true) : (Jvm.Cond.initialized "jdk/internal/util/Preconditions").before a0 Z = true := hw _ (List.mem_of_getElem? (i := 93) rfl)
theorem pd_2 : parseMethodDescriptor "(IILjava/util/function/BiFunction;)I" = some ⟨[.int, .int, (.object "java/util/function/BiFunction")], some .int⟩ := by decide +kernel
theorem d_j42_155_5 : decode jdk_42_method_155_code 5 = .ok (.invokestatic 1059, 3) := by decide +kernel
theorem w_95 {Z : State} {a0 : Array Value} (hw : ∀ d ∈ tables_1, d.before a0 Z = true) : (Jvm.Cond.static ({ cls := "jdk/internal/util/Preconditions", name := "checkIndex", desc := "(IILjava/util/function/BiFunction;)I" } : Jvm.MethodName)).before a0 Z = true := hw _ (List.mem_of_getElem? (i := 95) rfl)
theorem d_j42_155_8 : decode jdk_42_method_155_code 8 = .ok (.pop, 1) := by decide +kernel
theorem d_j42_155_9 : decode jdk_42_method_155_code 9 = .ok (.return_, 1) := by decide +kernel
set_option maxRecDepth 65536 in
set_option maxHeartbeats 40000000 in
theorem rm_sci (l : Launch) (Z : State) (a0 : Array Value) (hw : ∀ d ∈ tables_1, d.before a0 Z = true) (ws : List Jvm.Cond) (iv lv zv : Int32) (gv : Value) (h0 : Heap) (n0 : Nat) (Z0 : n0 ≤ h0.size) (hi0 : ¬ iv < (0 : Int32)) (hin : iv < lv) (O0 : Old Z n0 h0) (hzv : ¬ zv = (0 : Int32)) (S0 : Sta Z Z.heap "java/lang/String" "COMPACT_STRINGS" "Z" (.int zv)) (rgv : gv.isRef = true) (G0 : Sta Z Z.heap "jdk/internal/util/Preconditions" "SIOOBE_FORMATTER" "Ljava/util/function/BiFunction;" gv) (Sa : Sta Z Z.heap "java/lang/StringUTF16" "$assertionsDisabled" "Z" (.int (1 : Int32))) (Sh : Sta Z Z.heap "java/lang/StringUTF16" "HI_BYTE_SHIFT" "I" (.int (0 : Int32))) (Sl : Sta Z Z.heap "java/lang/StringUTF16" "LO_BYTE_SHIFT" "I" (.int (8 : Int32))) :
    own_Met l Z (⟨"java/lang/String", "checkIndex", "(II)V"⟩ : MethodName) jdk_42_method_155_code 2 none ws ({ frames := 1, cells := 0, slots := 0, locals := 14 } : Room) #[(.int iv), (.int lv)] h0 (Q_sci Z iv lv zv gv h0 n0) := by
  refine own_enter (own := "java/lang/String") (plainFor_of_name pn_3) rfl ?_
  intro p e s m below meth c s₁ hlk hret hx hby hml hown hnm hZ X0 e0
  have N0 := Fr.nil n0
  refine own_cast (ef_sci m iv lv) ?_
  rcases ref_cases rgv with rfl | ⟨ga, rfl⟩
  · show own_Go _ _ _ _ (s₁.setTop (mkF m 0 #[.val (.int iv), .val (.int lv)] []))
    refine own_go (fun t k => XS.iloadN X0.here hx rfl (hb hby d_j42_155_0) rfl k) ?_
    refine own_go (fun t k => XS.iloadN X0.here hx rfl (hb hby d_j42_155_1) rfl k) ?_
    show own_Go _ _ _ _ (s₁.setTop (mkF m 2 #[.val (.int iv), .val (.int lv)] [(.int lv), (.int iv)]))
    obtain ⟨T109, X109, e109, st109⟩ := getS2 X0 hx hZ hown (host := "") (Or.inl (w_92 hw)) Via.refl e0 (G0.ext O0.2) (g := (mkF m 2 #[.val (.int iv), .val (.int lv)] [(.int lv), (.int iv)])) rfl (hb hby d_j42_155_2)
    refine own_go st109 ?_
    obtain ⟨_, _, ⟨T110, L110, k110, n110⟩, -, X110, ⟨Lc110, hQ110, l110, y110, z110⟩, st110⟩ := Jvm.LawKit.callS X109 hx (y := (⟨"jdk/internal/util/Preconditions", "checkIndex", "(IILjava/util/function/BiFunction;)I"⟩ : MethodName)) hown (mvT hZ (w_94 hw)) (mvT hZ (w_95 hw)) (mvT hZ (w_93 hw)) (mvT hZ (w_96 hw)) (by decide) (backOf (W := 0) (rm_pciN l Z a0 hw [] iv lv h0 n0 Z0 hi0 hin) hZ (w_96 hw) (w_93 hw) (by decide) (by decide)) (g := (mkF m 5 #[.val (.int iv), .val (.int lv)] [.null, (.int lv), (.int iv)])) rfl (by rw [hml]; rfl) (argsL := [(.int iv), (.int lv), .null]) (rest := []) (lenOf pd_2 rfl) rfl (by show 2 * 0 + _ ≤ _; exact Nat.le_of_eq rfl) (hb hby d_j42_155_5) (fun _ _ => ⟨rfl, e109, (by decide : 0 + 0 ≤ _), (by decide : 0 + 0 ≤ _)⟩)
    dsimp only [Pt.U, Pt.locs, Pt.cells, Pt.slots] at X110 l110 y110 z110 st110 hQ110
    subst l110 y110 z110
    obtain ⟨rfl, N110q, e110⟩ := hQ110
    have N110 := Fr.app N0 N110q
    refine own_go st110 ?_
    refine own_go (fun t k => XS.pop X110.here hx rfl (hb hby d_j42_155_8) rfl rfl k) ?_
    show own_Go _ _ _ _ (T110.setTop (mkF m 9 #[.val (.int iv), .val (.int lv)] []))
    refine own_retV X110 hx hlk hret (hb hby d_j42_155_9) ?_ (by decide) (by decide)
    rw [e110]
    exact ⟨rfl, N110, rfl⟩
  · show own_Go _ _ _ _ (s₁.setTop (mkF m 0 #[.val (.int iv), .val (.int lv)] []))
    refine own_go (fun t k => XS.iloadN X0.here hx rfl (hb hby d_j42_155_0) rfl k) ?_
    refine own_go (fun t k => XS.iloadN X0.here hx rfl (hb hby d_j42_155_1) rfl k) ?_
    show own_Go _ _ _ _ (s₁.setTop (mkF m 2 #[.val (.int iv), .val (.int lv)] [(.int lv), (.int iv)]))
    obtain ⟨T111, X111, e111, st111⟩ := getS2 X0 hx hZ hown (host := "") (Or.inl (w_92 hw)) Via.refl e0 (G0.ext O0.2) (g := (mkF m 2 #[.val (.int iv), .val (.int lv)] [(.int lv), (.int iv)])) rfl (hb hby d_j42_155_2)
    refine own_go st111 ?_
    obtain ⟨_, _, ⟨T112, L112, k112, n112⟩, -, X112, ⟨Lc112, hQ112, l112, y112, z112⟩, st112⟩ := Jvm.LawKit.callS X111 hx (y := (⟨"jdk/internal/util/Preconditions", "checkIndex", "(IILjava/util/function/BiFunction;)I"⟩ : MethodName)) hown (mvT hZ (w_94 hw)) (mvT hZ (w_95 hw)) (mvT hZ (w_93 hw)) (mvT hZ (w_96 hw)) (by decide) (backOf (W := 0) (rm_pciR l Z a0 hw [] iv lv ga h0 n0 Z0 hi0 hin) hZ (w_96 hw) (w_93 hw) (by decide) (by decide)) (g := (mkF m 5 #[.val (.int iv), .val (.int lv)] [(.ref ga), (.int lv), (.int iv)])) rfl (by rw [hml]; rfl) (argsL := [(.int iv), (.int lv), (.ref ga)]) (rest := []) (lenOf pd_2 rfl) rfl (by show 2 * 0 + _ ≤ _; exact Nat.le_of_eq rfl) (hb hby d_j42_155_5) (fun _ _ => ⟨rfl, e111, (by decide : 0 + 0 ≤ _), (by decide : 0 + 0 ≤ _)⟩)
    dsimp only [Pt.U, Pt.locs, Pt.cells, Pt.slots] at X112 l112 y112 z112 st112 hQ112
    subst l112 y112 z112
    obtain ⟨rfl, N112q, e112⟩ := hQ112
    have N112 := Fr.app N0 N112q
    refine own_go st112 ?_
    refine own_go (fun t k => XS.pop X112.here hx rfl (hb hby d_j42_155_8) rfl rfl k) ?_
    show own_Go _ _ _ _ (T112.setTop (mkF m 9 #[.val (.int iv), .val (.int lv)] []))
    refine own_retV X112 hx hlk hret (hb hby d_j42_155_9) ?_ (by decide) (by decide)
    rw [e112]
    exact ⟨rfl, N112, rfl⟩
def Q_l16 (Z : State) (ub : Addr) (kb : ClassId) (nv : Int32) (vs : List Value) (lv : Int32) (h0 : Heap) (n0 : Nat) (v : Option Value) (h : Heap) (L : List Loc) : Prop := v = some (.int lv) ∧ Fr n0 L ∧ h = h0
theorem ef_l16 (m : MethodId) (ub : Addr) : entryFrame m #[(.ref ub)] 1 = mkF m 0 #[.val (.ref ub)] [] := by first | (simp [entryFrame, mkF, argsToLocals, Value.category]; done) | rfl
theorem pn_4 : plainName "java/lang/StringUTF16" = true := by first | (simp [plainName, overriddenIn]; done) | decide +kernel
theorem d_j52_6_0 : decode jdk_52_method_6_code 0 = .ok (.aload_n 0, 1) := by decide +kernel
theorem d_j52_6_1 : decode jdk_52_method_6_code 1 = .ok (.arraylength, 1) := by decide +kernel
theorem d_j52_6_2 : decode jdk_52_method_6_code 2 = .ok (.iconst 1, 1) := by decide +kernel
theorem d_j52_6_3 : decode jdk_52_method_6_code 3 = .ok (.ishr, 1) := by decide +kernel
theorem d_j52_6_4 : decode jdk_52_method_6_code 4 = .ok (.ireturn, 1) := by decide +kernel
set_option maxRecDepth 65536 in
set_option maxHeartbeats 40000000 in
theorem rm_l16 (l : Launch) (Z : State) (a0 : Array Value) (hw : ∀ d ∈ tables_1, d.before a0 Z = true) (ws : List Jvm.Cond) (ub : Addr) (kb : ClassId) (nv : Int32) (vs : List Value) (lv : Int32) (h0 : Heap) (n0 : Nat) (Z0 : n0 ≤ h0.size) (A0 : Arv Z h0 ub kb .byte nv vs (.int (0 : Int32))) (hl : nv >>> ((1 : Int32) &&& 31) = lv) :
    own_Met l Z (⟨"java/lang/StringUTF16", "length", "([B)I"⟩ : MethodName) jdk_52_method_6_code 1 (some .int) ws ({ frames := 0, cells := 0, slots := 0, locals := 0 } : Room) #[(.ref ub)] h0 (Q_l16 Z ub kb nv vs lv h0 n0) := by
  refine own_enter (own := "java/lang/StringUTF16") (plainFor_of_name pn_4) rfl ?_
  intro p e s m below meth c s₁ hlk hret hx hby hml hown hnm hZ X0 e0
  have N0 := Fr.nil n0
  refine own_cast (ef_l16 m ub) ?_
  show own_Go _ _ _ _ (s₁.setTop (mkF m 0 #[.val (.ref ub)] []))
  refine own_go (fun t k => XS.aloadN X0.here hx rfl (hb hby d_j52_6_0) rfl rfl k) ?_
  show own_Go _ _ _ _ (s₁.setTop (mkF m 1 #[.val (.ref ub)] [(.ref ub)]))
  obtain ⟨cl113, Ar113, qk113, sz113, nn113, ha113, gf113⟩ := id A0
  refine own_go (X0.arraylength hx (by rw [e0]; exact Ar113.1) (State.isArrayOf_alike hZ.alike Ar113.2.1) (g := (mkF m 1 #[.val (.ref ub)] [(.ref ub)])) rfl rfl (hb hby d_j52_6_1)) ?_
  rw [len_of sz113 nn113]
  refine own_go (fun t k => XS.iconst X0.here hx rfl (hb hby d_j52_6_2) k) ?_
  refine own_go (fun t k => XS.ishr X0.here hx rfl (hb hby d_j52_6_3) rfl k) ?_
  show own_Go _ _ _ _ (s₁.setTop (mkF m 4 #[.val (.ref ub)] [(.int (nv >>> ((1 : Int32) &&& 31)))]))
  refine own_ret X0 hx hlk hret rfl (Or.inl ⟨rfl, Or.inl rfl, _, rfl⟩) (hb hby d_j52_6_4) ?_ (by decide) (by decide)
  rw [e0]
  exact ⟨by rw [hl], N0, rfl⟩
def Q_cki (Z : State) (ub : Addr) (kb : ClassId) (nv : Int32) (vs : List Value) (iv : Int32) (lv : Int32) (zv : Int32) (gv : Value) (h0 : Heap) (n0 : Nat) (v : Option Value) (h : Heap) (L : List Loc) : Prop := v = none ∧ Fr n0 L ∧ h = h0
theorem ef_cki (m : MethodId) (iv : Int32) (ub : Addr) : entryFrame m #[(.int iv), (.ref ub)] 2 = mkF m 0 #[.val (.int iv), .val (.ref ub)] [] := by first | (simp [entryFrame, mkF, argsToLocals, Value.category]; done) | rfl
theorem d_j52_91_0 : decode jdk_52_method_91_code 0 = .ok (.iload_n 0, 1) := by decide +kernel
theorem d_j52_91_1 : decode jdk_52_method_91_code 1 = .ok (.aload_n 1, 1) := by decide +kernel
theorem w_86 {Z : State} {a0 : Array Value} (hw : ∀ d ∈ tables_1, d.before a0 Z = true) : (Jvm.Cond.methodLink "java/lang/StringUTF16" (48 : Nat) ({ cls := "java/lang/StringUTF16", name := "length", desc := "([B)I" } : Jvm.MethodName)).before a0 Z = true := hw _ (List.mem_of_getElem? (i := 86) rfl)
theorem w_88 {Z : State} {a0 : Array Value} (hw : ∀ d ∈ tables_1, d.before a0 Z = true) : (Jvm.Cond.code ({ cls := "java/lang/StringUTF16", name := "length", desc := "([B)I" } : Jvm.MethodName) jdk_52_method_6_code (1 : Nat) (Option.some Jvm.ClassFile.FieldType.int)).before a0 Z = true := hw _ (List.mem_of_getElem? (i := 88) rfl)
theorem w_24 {Z : State} {a0 : Array Value} (hw : ∀ d ∈ tables_1, d.before a0 Z = true) : (Jvm.Cond.initialized "java/lang/StringUTF16").before a0 Z = true := hw _ (List.mem_of_getElem? (i := 24) rfl)
theorem pd_3 : parseMethodDescriptor "([B)I" = some ⟨[(.array .byte)], some .int⟩ := by decide +kernel
theorem d_j52_91_2 : decode jdk_52_method_91_code 2 = .ok (.invokestatic 48, 3) := by decide +kernel
theorem w_87 {Z : State} {a0 : Array Value} (hw : ∀ d ∈ tables_1, d.before a0 Z = true) : (Jvm.Cond.static ({ cls := "java/lang/StringUTF16", name := "length", desc := "([B)I" } : Jvm.MethodName)).before a0 Z = true := hw _ (List.mem_of_getElem? (i := 87) rfl)
theorem w_89 {Z : State} {a0 : Array Value} (hw : ∀ d ∈ tables_1, d.before a0 Z = true) : (Jvm.Cond.methodLink "java/lang/StringUTF16" (414 : Nat) ({ cls := "java/lang/String", name := "checkIndex", desc := "(II)V" } : Jvm.MethodName)).before a0 Z = true := hw _ (List.mem_of_getElem? (i := 89) rfl)
theorem w_91 {Z : State} {a0 : Array Value} (hw : ∀ d ∈ tables_1, d.before a0 Z = true) : (Jvm.Cond.code ({ cls := "java/lang/String", name := "checkIndex", desc := "(II)V" } : Jvm.MethodName) jdk_42_method_155_code (2 : Nat) (Option.none : Option Jvm.ClassFile.FieldType)).before a0 Z = true := hw _ (List.mem_of_getElem? (i := 91) rfl)
theorem w_10 {Z : State} {a0 : Array Value} (hw : ∀ d ∈ tables_1, d.before a0 Z = true) : (Jvm.Cond.initialized "java/lang/String").before a0 Z = true := hw _ (List.mem_of_getElem? (i := 10) rfl)
theorem pd_4 : parseMethodDescriptor "(II)V" = some ⟨[.int, .int], none⟩ := by decide +kernel
theorem d_j52_91_5 : decode jdk_52_method_91_code 5 = .ok (.invokestatic 414, 3) := by decide +kernel
theorem w_90 {Z : State} {a0 : Array Value} (hw : ∀ d ∈ tables_1, d.before a0 Z = true) : (Jvm.Cond.static ({ cls := "java/lang/String", name := "checkIndex", desc := "(II)V" } : Jvm.MethodName)).before a0 Z = true := hw _ (List.mem_of_getElem? (i := 90) rfl)
theorem d_j52_91_8 : decode jdk_52_method_91_code 8 = .ok (.return_, 1) := by decide +kernel
set_option maxRecDepth 65536 in
set_option maxHeartbeats 40000000 in
theorem rm_cki (l : Launch) (Z : State) (a0 : Array Value) (hw : ∀ d ∈ tables_1, d.before a0 Z = true) (ws : List Jvm.Cond) (ub : Addr) (kb : ClassId) (nv : Int32) (vs : List Value) (iv lv zv : Int32) (gv : Value) (h0 : Heap) (n0 : Nat) (Z0 : n0 ≤ h0.size) (A0 : Arv Z h0 ub kb .byte nv vs (.int (0 : Int32))) (hl : nv >>> ((1 : Int32) &&& 31) = lv) (hi0 : ¬ iv < (0 : Int32)) (hin : iv < lv) (O0 : Old Z n0 h0) (hzv : ¬ zv = (0 : Int32)) (S0 : Sta Z Z.heap "java/lang/String" "COMPACT_STRINGS" "Z" (.int zv)) (rgv : gv.isRef = true) (G0 : Sta Z Z.heap "jdk/internal/util/Preconditions" "SIOOBE_FORMATTER" "Ljava/util/function/BiFunction;" gv) (Sa : Sta Z Z.heap "java/lang/StringUTF16" "$assertionsDisabled" "Z" (.int (1 : Int32))) (Sh : Sta Z Z.heap "java/lang/StringUTF16" "HI_BYTE_SHIFT" "I" (.int (0 : Int32))) (Sl : Sta Z Z.heap "java/lang/StringUTF16" "LO_BYTE_SHIFT" "I" (.int (8 : Int32))) :
    own_Met l Z (⟨"java/lang/StringUTF16", "checkIndex", "(I[B)V"⟩ : MethodName) jdk_52_method_91_code 2 none ws ({ frames := 2, cells := 0, slots := 0, locals := 27 } : Room) #[(.int iv), (.ref ub)] h0 (Q_cki Z ub kb nv vs iv lv zv gv h0 n0) := by
  refine own_enter (own := "java/lang/StringUTF16") (plainFor_of_name pn_4) rfl ?_
  intro p e s m below meth c s₁ hlk hret hx hby hml hown hnm hZ X0 e0
  have N0 := Fr.nil n0
  refine own_cast (ef_cki m iv ub) ?_
  show own_Go _ _ _ _ (s₁.setTop (mkF m 0 #[.val (.int iv), .val (.ref ub)] []))
  refine own_go (fun t k => XS.iloadN X0.here hx rfl (hb hby d_j52_91_0) rfl k) ?_
  refine own_go (fun t k => XS.aloadN X0.here hx rfl (hb hby d_j52_91_1) rfl rfl k) ?_
  obtain ⟨_, _, ⟨T114, L114, k114, n114⟩, -, X114, ⟨Lc114, hQ114, l114, y114, z114⟩, st114⟩ := Jvm.LawKit.callS X0 hx (y := (⟨"java/lang/StringUTF16", "length", "([B)I"⟩ : MethodName)) hown (mvT hZ (w_86 hw)) (mvT hZ (w_87 hw)) (mvT hZ (w_24 hw)) (mvT hZ (w_88 hw)) (by decide) (backOf (W := 1) (rm_l16 l Z a0 hw [] ub kb nv vs lv h0 n0 Z0 A0 hl) hZ (w_88 hw) (w_24 hw) (by decide) (by decide)) (g := (mkF m 2 #[.val (.int iv), .val (.ref ub)] [(.ref ub), (.int iv)])) rfl (by rw [hml]; rfl) (argsL := [(.ref ub)]) (rest := [(.int iv)]) (lenOf pd_3 rfl) rfl (by show 2 * 0 + _ ≤ _; exact Nat.le_of_eq rfl) (hb hby d_j52_91_2) (fun _ _ => ⟨rfl, e0, (by decide : 0 + 0 ≤ _), (by decide : 0 + 0 ≤ _)⟩)
  dsimp only [Pt.U, Pt.locs, Pt.cells, Pt.slots] at X114 l114 y114 z114 st114 hQ114
  subst l114 y114 z114
  obtain ⟨rfl, N114q, e114⟩ := hQ114
  have N114 := Fr.app N0 N114q
  refine own_go st114 ?_
  obtain ⟨_, _, ⟨T115, L115, k115, n115⟩, -, X115, ⟨Lc115, hQ115, l115, y115, z115⟩, st115⟩ := Jvm.LawKit.callS X114 hx (y := (⟨"java/lang/String", "checkIndex", "(II)V"⟩ : MethodName)) hown (mvT hZ (w_89 hw)) (mvT hZ (w_90 hw)) (mvT hZ (w_10 hw)) (mvT hZ (w_91 hw)) (by decide) (backOf (W := 0) (rm_sci l Z a0 hw [] iv lv zv gv h0 n0 Z0 hi0 hin O0 hzv S0 rgv G0 Sa Sh Sl) hZ (w_91 hw) (w_10 hw) (by decide) (by decide)) (g := (mkF m 5 #[.val (.int iv), .val (.ref ub)] [(.int lv), (.int iv)])) rfl (by rw [hml]; rfl) (argsL := [(.int iv), (.int lv)]) (rest := []) (lenOf pd_4 rfl) rfl (by show 2 * 0 + _ ≤ _; exact Nat.le_of_eq rfl) (hb hby d_j52_91_5) (fun _ _ => ⟨rfl, e114, (by decide : 0 + 0 ≤ _), (by decide : 0 + 0 ≤ _)⟩)
  dsimp only [Pt.U, Pt.locs, Pt.cells, Pt.slots] at X115 l115 y115 z115 st115 hQ115
  subst l115 y115 z115
  obtain ⟨rfl, N115q, e115⟩ := hQ115
  have N115 := Fr.app N114 N115q
  refine own_go st115 ?_
  show own_Go _ _ _ _ (T115.setTop (mkF m 8 #[.val (.int iv), .val (.ref ub)] []))
  refine own_retV X115 hx hlk hret (hb hby d_j52_91_8) ?_ (by decide) (by decide)
  rw [e115]
  exact ⟨rfl, N115, rfl⟩
def Q_gc (Z : State) (ub : Addr) (kb : ClassId) (nv : Int32) (vs : List Value) (iv : Int32) (jv : Int32) (kv : Int32) (xv : Int32) (yv : Int32) (cv : Int32) (zv : Int32) (gv : Value) (h0 : Heap) (n0 : Nat) (v : Option Value) (h : Heap) (L : List Loc) : Prop := v = some (.int cv) ∧ Fr n0 L ∧ h = h0
theorem ef_gc (m : MethodId) (ub : Addr) (iv : Int32) : entryFrame m #[(.ref ub), (.int iv)] 2 = mkF m 0 #[.val (.ref ub), .val (.int iv)] [] := by first | (simp [entryFrame, mkF, argsToLocals, Value.category]; done) | rfl
theorem w_43 {Z : State} {a0 : Array Value} (hw : ∀ d ∈ tables_1, d.before a0 Z = true) : (Jvm.Cond.fieldLink "java/lang/StringUTF16" (44 : Nat) "java/lang/StringUTF16" "$assertionsDisabled" "Z").before a0 Z = true := hw _ (List.mem_of_getElem? (i := 43) rfl)
theorem d_j52_5_0 : decode jdk_52_method_5_code 0 = .ok (.getstatic 44, 3) := by decide +kernel
theorem d_j52_5_3 : decode jdk_52_method_5_code 3 = .ok (.ifCond .ne 25, 3) := by decide +kernel
theorem d_j52_5_28 : decode jdk_52_method_5_code 28 = .ok (.iload_n 1, 1) := by decide +kernel
theorem d_j52_5_29 : decode jdk_52_method_5_code 29 = .ok (.iconst 1, 1) := by decide +kernel
theorem d_j52_5_30 : decode jdk_52_method_5_code 30 = .ok (.ishl, 1) := by decide +kernel
theorem d_j52_5_31 : decode jdk_52_method_5_code 31 = .ok (.istore_n 1, 1) := by decide +kernel
theorem d_j52_5_32 : decode jdk_52_method_5_code 32 = .ok (.aload_n 0, 1) := by decide +kernel
theorem d_j52_5_33 : decode jdk_52_method_5_code 33 = .ok (.iload_n 1, 1) := by decide +kernel
theorem d_j52_5_34 : decode jdk_52_method_5_code 34 = .ok (.iinc 1 1, 3) := by decide +kernel
theorem d_j52_5_37 : decode jdk_52_method_5_code 37 = .ok (.baload, 1) := by decide +kernel
theorem d_j52_5_38 : decode jdk_52_method_5_code 38 = .ok (.sipush 255, 3) := by decide +kernel
theorem d_j52_5_41 : decode jdk_52_method_5_code 41 = .ok (.iand, 1) := by decide +kernel
theorem w_44 {Z : State} {a0 : Array Value} (hw : ∀ d ∈ tables_1, d.before a0 Z = true) : (Jvm.Cond.fieldLink "java/lang/StringUTF16" (59 : Nat) "java/lang/StringUTF16" "HI_BYTE_SHIFT" "I").before a0 Z = true := hw _ (List.mem_of_getElem? (i := 44) rfl)
theorem d_j52_5_42 : decode jdk_52_method_5_code 42 = .ok (.getstatic 59, 3) := by decide +kernel
theorem d_j52_5_45 : decode jdk_52_method_5_code 45 = .ok (.ishl, 1) := by decide +kernel
theorem d_j52_5_46 : decode jdk_52_method_5_code 46 = .ok (.aload_n 0, 1) := by decide +kernel
theorem d_j52_5_47 : decode jdk_52_method_5_code 47 = .ok (.iload_n 1, 1) := by decide +kernel
theorem d_j52_5_48 : decode jdk_52_method_5_code 48 = .ok (.baload, 1) := by decide +kernel
theorem d_j52_5_49 : decode jdk_52_method_5_code 49 = .ok (.sipush 255, 3) := by decide +kernel
theorem d_j52_5_52 : decode jdk_52_method_5_code 52 = .ok (.iand, 1) := by decide +kernel
theorem w_45 {Z : State} {a0 : Array Value} (hw : ∀ d ∈ tables_1, d.before a0 Z = true) : (Jvm.Cond.fieldLink "java/lang/StringUTF16" (63 : Nat) "java/lang/StringUTF16" "LO_BYTE_SHIFT" "I").before a0 Z = true := hw _ (List.mem_of_getElem? (i := 45) rfl)
theorem d_j52_5_53 : decode jdk_52_method_5_code 53 = .ok (.getstatic 63, 3) := by decide +kernel
theorem d_j52_5_56 : decode jdk_52_method_5_code 56 = .ok (.ishl, 1) := by decide +kernel
theorem d_j52_5_57 : decode jdk_52_method_5_code 57 = .ok (.ior, 1) := by decide +kernel
theorem d_j52_5_58 : decode jdk_52_method_5_code 58 = .ok (.i2c, 1) := by decide +kernel
theorem d_j52_5_59 : decode jdk_52_method_5_code 59 = .ok (.ireturn, 1) := by decide +kernel
set_option maxRecDepth 65536 in
set_option maxHeartbeats 40000000 in
theorem rm_gc (l : Launch) (Z : State) (a0 : Array Value) (hw : ∀ d ∈ tables_1, d.before a0 Z = true) (ws : List Jvm.Cond) (ub : Addr) (kb : ClassId) (nv : Int32) (vs : List Value) (iv jv kv xv yv cv zv : Int32) (gv : Value) (h0 : Heap) (n0 : Nat) (Z0 : n0 ≤ h0.size) (A0 : Arv Z h0 ub kb .byte nv vs (.int (0 : Int32))) (hj : iv <<< ((1 : Int32) &&& 31) = jv) (hk_ : jv + (1 : Int32) = kv) (b1 : ¬ jv < 0 ∧ jv < nv) (b2 : ¬ kv < 0 ∧ kv < nv) (g1 : vs.getD jv.toNatClampNeg (.int (0 : Int32)) = .int xv) (g2 : vs.getD kv.toNatClampNeg (.int (0 : Int32)) = .int yv) (hcv : (nar .char ((((xv &&& (255 : Int32)) <<< ((0 : Int32) &&& 31)) ||| ((yv &&& (255 : Int32)) <<< ((8 : Int32) &&& 31))).toUInt32.toUInt16.toUInt32.toInt32)) = cv) (O0 : Old Z n0 h0) (hzv : ¬ zv = (0 : Int32)) (S0 : Sta Z Z.heap "java/lang/String" "COMPACT_STRINGS" "Z" (.int zv)) (rgv : gv.isRef = true) (G0 : Sta Z Z.heap "jdk/internal/util/Preconditions" "SIOOBE_FORMATTER" "Ljava/util/function/BiFunction;" gv) (Sa : Sta Z Z.heap "java/lang/StringUTF16" "$assertionsDisabled" "Z" (.int (1 : Int32))) (Sh : Sta Z Z.heap "java/lang/StringUTF16" "HI_BYTE_SHIFT" "I" (.int (0 : Int32))) (Sl : Sta Z Z.heap "java/lang/StringUTF16" "LO_BYTE_SHIFT" "I" (.int (8 : Int32))) :
    own_Met l Z (⟨"java/lang/StringUTF16", "getChar", "([BI)C"⟩ : MethodName) jdk_52_method_5_code 2 (some .char) ws ({ frames := 0, cells := 0, slots := 0, locals := 0 } : Room) #[(.ref ub), (.int iv)] h0 (Q_gc Z ub kb nv vs iv jv kv xv yv cv zv gv h0 n0) := by
  refine own_enter (own := "java/lang/StringUTF16") (plainFor_of_name pn_4) rfl ?_
  intro p e s m below meth c s₁ hlk hret hx hby hml hown hnm hZ X0 e0
  have N0 := Fr.nil n0
  refine own_cast (ef_gc m ub iv) ?_
  show own_Go _ _ _ _ (s₁.setTop (mkF m 0 #[.val (.ref ub), .val (.int iv)] []))
  obtain ⟨T116, X116, e116, st116⟩ := getS2 X0 hx hZ hown (host := "") (Or.inl (w_43 hw)) Via.refl e0 (Sa.ext O0.2) (g := (mkF m 0 #[.val (.ref ub), .val (.int iv)] [])) rfl (hb hby d_j52_5_0)
  refine own_go st116 ?_
  show own_Go _ _ _ _ (T116.setTop (mkF m 3 #[.val (.ref ub), .val (.int iv)] [(.int (1 : Int32))]))
  refine own_go (fun t k => XS.ifYes X116.here hx rfl (pc0 := 3) (pc' := 28) rfl (hb hby d_j52_5_3) rfl ((if0 _ _).trans (feq (by decide : ¬ ((1 : Int32) = (0 : Int32)))).2) (by decide) (by decide) k) ?_
  refine own_go (fun t k => XS.iloadN X116.here hx rfl (hb hby d_j52_5_28) rfl k) ?_
  refine own_go (fun t k => XS.iconst X116.here hx rfl (hb hby d_j52_5_29) k) ?_
  refine own_go (fun t k => XS.ishl X116.here hx rfl (hb hby d_j52_5_30) rfl k) ?_
  show own_Go _ _ _ _ (T116.setTop (mkF m 31 #[.val (.ref ub), .val (.int iv)] [(.int (iv <<< ((1 : Int32) &&& 31)))]))
  rw [hj]
  show own_Go _ _ _ _ (T116.setTop (mkF m 31 #[.val (.ref ub), .val (.int iv)] [(.int jv)]))
  refine own_go (fun t k => XS.istoreN X116.here hx rfl (hb hby d_j52_5_31) rfl (l' := #[.val (.ref ub), .val (.int jv)]) rfl k) ?_
  refine own_go (fun t k => XS.aloadN X116.here hx rfl (hb hby d_j52_5_32) rfl rfl k) ?_
  refine own_go (fun t k => XS.iloadN X116.here hx rfl (hb hby d_j52_5_33) rfl k) ?_
  refine own_go (fun t k => XS.iinc X116.here hx rfl (hb hby d_j52_5_34) rfl (l' := #[.val (.ref ub), .val (.int (jv + (1 : Int32)))]) rfl k) ?_
  show own_Go _ _ _ _ (T116.setTop (mkF m 37 #[.val (.ref ub), .val (.int (jv + (1 : Int32)))] [(.int jv), (.ref ub)]))
  rw [hk_]
  show own_Go _ _ _ _ (T116.setTop (mkF m 37 #[.val (.ref ub), .val (.int kv)] [(.int jv), (.ref ub)]))
  obtain ⟨cl117, Ar117, qk117, sz117, nn117, ha117, gf117⟩ := id A0
  have hin117 : ¬ (jv < 0 ∨ cl117.slots.size ≤ (jv).toNatClampNeg) := inb_of sz117 b1
  have hat117 : cl117.slots[(jv).toNatClampNeg]? = some (.int xv) := ha117.at hin117 g1
  refine own_go (X116.baloadBytes hx (j := jv) (v := (.int xv)) (by rw [e116]; exact Ar117.1) (State.isArrayOf_alike hZ.alike Ar117.2.1) Ar117.2.2 hin117 hat117 (g := (mkF m 37 #[.val (.ref ub), .val (.int kv)] [(.int jv), (.ref ub)])) rfl rfl (hb hby d_j52_5_37)) ?_
  refine own_go (fun t k => XS.sipush X116.here hx rfl (hb hby d_j52_5_38) k) ?_
  refine own_go (fun t k => XS.iand X116.here hx rfl (hb hby d_j52_5_41) rfl k) ?_
  show own_Go _ _ _ _ (T116.setTop (mkF m 42 #[.val (.ref ub), .val (.int kv)] [(.int (xv &&& (255 : Int32)))]))
  obtain ⟨T118, X118, e118, st118⟩ := getS2 X116 hx hZ hown (host := "") (Or.inl (w_44 hw)) Via.refl e116 (Sh.ext O0.2) (g := (mkF m 42 #[.val (.ref ub), .val (.int kv)] [(.int (xv &&& (255 : Int32)))])) rfl (hb hby d_j52_5_42)
  refine own_go st118 ?_
  refine own_go (fun t k => XS.ishl X118.here hx rfl (hb hby d_j52_5_45) rfl k) ?_
  refine own_go (fun t k => XS.aloadN X118.here hx rfl (hb hby d_j52_5_46) rfl rfl k) ?_
  refine own_go (fun t k => XS.iloadN X118.here hx rfl (hb hby d_j52_5_47) rfl k) ?_
  show own_Go _ _ _ _ (T118.setTop (mkF m 48 #[.val (.ref ub), .val (.int kv)] [(.int kv), (.ref ub), (.int ((xv &&& (255 : Int32)) <<< ((0 : Int32) &&& 31)))]))
  obtain ⟨cl119, Ar119, qk119, sz119, nn119, ha119, gf119⟩ := id A0
  have hin119 : ¬ (kv < 0 ∨ cl119.slots.size ≤ (kv).toNatClampNeg) := inb_of sz119 b2
  have hat119 : cl119.slots[(kv).toNatClampNeg]? = some (.int yv) := ha119.at hin119 g2
  refine own_go (X118.baloadBytes hx (j := kv) (v := (.int yv)) (by rw [e118]; exact Ar119.1) (State.isArrayOf_alike hZ.alike Ar119.2.1) Ar119.2.2 hin119 hat119 (g := (mkF m 48 #[.val (.ref ub), .val (.int kv)] [(.int kv), (.ref ub), (.int ((xv &&& (255 : Int32)) <<< ((0 : Int32) &&& 31)))])) rfl rfl (hb hby d_j52_5_48)) ?_
  refine own_go (fun t k => XS.sipush X118.here hx rfl (hb hby d_j52_5_49) k) ?_
  refine own_go (fun t k => XS.iand X118.here hx rfl (hb hby d_j52_5_52) rfl k) ?_
  show own_Go _ _ _ _ (T118.setTop (mkF m 53 #[.val (.ref ub), .val (.int kv)] [(.int (yv &&& (255 : Int32))), (.int ((xv &&& (255 : Int32)) <<< ((0 : Int32) &&& 31)))]))
  obtain ⟨T120, X120, e120, st120⟩ := getS2 X118 hx hZ hown (host := "") (Or.inl (w_45 hw)) Via.refl e118 (Sl.ext O0.2) (g := (mkF m 53 #[.val (.ref ub), .val (.int kv)] [(.int (yv &&& (255 : Int32))), (.int ((xv &&& (255 : Int32)) <<< ((0 : Int32) &&& 31)))])) rfl (hb hby d_j52_5_53)
  refine own_go st120 ?_
  refine own_go (fun t k => XS.ishl X120.here hx rfl (hb hby d_j52_5_56) rfl k) ?_
  refine own_go (fun t k => XS.ior X120.here hx rfl (hb hby d_j52_5_57) rfl k) ?_
  refine own_go (fun t k => XS.i2c X120.here hx rfl (hb hby d_j52_5_58) rfl k) ?_
  show own_Go _ _ _ _ (T120.setTop (mkF m 59 #[.val (.ref ub), .val (.int kv)] [(.int ((((xv &&& (255 : Int32)) <<< ((0 : Int32) &&& 31)) ||| ((yv &&& (255 : Int32)) <<< ((8 : Int32) &&& 31))).toUInt32.toUInt16.toUInt32.toInt32))]))
  refine own_retN X120 hx hlk (t := .char) hret (by simp) (hb hby d_j52_5_59) ?_ (by decide) (by decide)
  rw [e120]
  exact ⟨by rw [hcv], N0, rfl⟩
def Q_c16 (Z : State) (ub : Addr) (kb : ClassId) (nv : Int32) (vs : List Value) (iv : Int32) (jv : Int32) (kv : Int32) (xv : Int32) (yv : Int32) (cv : Int32) (lv : Int32) (zv : Int32) (gv : Value) (h0 : Heap) (n0 : Nat) (v : Option Value) (h : Heap) (L : List Loc) : Prop := v = some (.int cv) ∧ Fr n0 L ∧ h = h0
theorem ef_c16 (m : MethodId) (ub : Addr) (iv : Int32) : entryFrame m #[(.ref ub), (.int iv)] 2 = mkF m 0 #[.val (.ref ub), .val (.int iv)] [] := by first | (simp [entryFrame, mkF, argsToLocals, Value.category]; done) | rfl
theorem d_j52_83_0 : decode jdk_52_method_83_code 0 = .ok (.iload_n 1, 1) := by decide +kernel
theorem d_j52_83_1 : decode jdk_52_method_83_code 1 = .ok (.aload_n 0, 1) := by decide +kernel
theorem w_83 {Z : State} {a0 : Array Value} (hw : ∀ d ∈ tables_1, d.before a0 Z = true) : (Jvm.Cond.methodLink "java/lang/StringUTF16" (67 : Nat) ({ cls := "java/lang/StringUTF16", name := "checkIndex", desc := "(I[B)V" } : Jvm.MethodName)).before a0 Z = true := hw _ (List.mem_of_getElem? (i := 83) rfl)
theorem w_85 {Z : State} {a0 : Array Value} (hw : ∀ d ∈ tables_1, d.before a0 Z = true) : (Jvm.Cond.code ({ cls := "java/lang/StringUTF16", name := "checkIndex", desc := "(I[B)V" } : Jvm.MethodName) jdk_52_method_91_code (2 : Nat) (Option.none : Option Jvm.ClassFile.FieldType)).before a0 Z = true := hw _ (List.mem_of_getElem? (i := 85) rfl)
theorem pd_5 : parseMethodDescriptor "(I[B)V" = some ⟨[.int, (.array .byte)], none⟩ := by decide +kernel
theorem d_j52_83_2 : decode jdk_52_method_83_code 2 = .ok (.invokestatic 67, 3) := by decide +kernel
theorem w_84 {Z : State} {a0 : Array Value} (hw : ∀ d ∈ tables_1, d.before a0 Z = true) : (Jvm.Cond.static ({ cls := "java/lang/StringUTF16", name := "checkIndex", desc := "(I[B)V" } : Jvm.MethodName)).before a0 Z = true := hw _ (List.mem_of_getElem? (i := 84) rfl)
theorem d_j52_83_5 : decode jdk_52_method_83_code 5 = .ok (.aload_n 0, 1) := by decide +kernel
theorem d_j52_83_6 : decode jdk_52_method_83_code 6 = .ok (.iload_n 1, 1) := by decide +kernel
theorem w_46 {Z : State} {a0 : Array Value} (hw : ∀ d ∈ tables_1, d.before a0 Z = true) : (Jvm.Cond.methodLink "java/lang/StringUTF16" (71 : Nat) ({ cls := "java/lang/StringUTF16", name := "getChar", desc := "([BI)C" } : Jvm.MethodName)).before a0 Z = true := hw _ (List.mem_of_getElem? (i := 46) rfl)
theorem w_48 {Z : State} {a0 : Array Value} (hw : ∀ d ∈ tables_1, d.before a0 Z = true) : (Jvm.Cond.code ({ cls := "java/lang/StringUTF16", name := "getChar", desc := "([BI)C" } : Jvm.MethodName) jdk_52_method_5_code (2 : Nat) (Option.some Jvm.ClassFile.FieldType.char)).before a0 Z = true := hw _ (List.mem_of_getElem? (i := 48) rfl)
theorem pd_6 : parseMethodDescriptor "([BI)C" = some ⟨[(.array .byte), .int], some .char⟩ := by decide +kernel
theorem d_j52_83_7 : decode jdk_52_method_83_code 7 = .ok (.invokestatic 71, 3) := by decide +kernel
theorem w_47 {Z : State} {a0 : Array Value} (hw : ∀ d ∈ tables_1, d.before a0 Z = true) : (Jvm.Cond.static ({ cls := "java/lang/StringUTF16", name := "getChar", desc := "([BI)C" } : Jvm.MethodName)).before a0 Z = true := hw _ (List.mem_of_getElem? (i := 47) rfl)
theorem d_j52_83_10 : decode jdk_52_method_83_code 10 = .ok (.ireturn, 1) := by decide +kernel
set_option maxRecDepth 65536 in
set_option maxHeartbeats 40000000 in
theorem rm_c16 (l : Launch) (Z : State) (a0 : Array Value) (hw : ∀ d ∈ tables_1, d.before a0 Z = true) (ws : List Jvm.Cond) (ub : Addr) (kb : ClassId) (nv : Int32) (vs : List Value) (iv jv kv xv yv cv lv zv : Int32) (gv : Value) (h0 : Heap) (n0 : Nat) (Z0 : n0 ≤ h0.size) (A0 : Arv Z h0 ub kb .byte nv vs (.int (0 : Int32))) (hj : iv <<< ((1 : Int32) &&& 31) = jv) (hk_ : jv + (1 : Int32) = kv) (b1 : ¬ jv < 0 ∧ jv < nv) (b2 : ¬ kv < 0 ∧ kv < nv) (g1 : vs.getD jv.toNatClampNeg (.int (0 : Int32)) = .int xv) (g2 : vs.getD kv.toNatClampNeg (.int (0 : Int32)) = .int yv) (hcv : (nar .char ((((xv &&& (255 : Int32)) <<< ((0 : Int32) &&& 31)) ||| ((yv &&& (255 : Int32)) <<< ((8 : Int32) &&& 31))).toUInt32.toUInt16.toUInt32.toInt32)) = cv) (hl : nv >>> ((1 : Int32) &&& 31) = lv) (hi0 : ¬ iv < (0 : Int32)) (hin : iv < lv) (hcc : nar .char cv = cv) (O0 : Old Z n0 h0) (hzv : ¬ zv = (0 : Int32)) (S0 : Sta Z Z.heap "java/lang/String" "COMPACT_STRINGS" "Z" (.int zv)) (rgv : gv.isRef = true) (G0 : Sta Z Z.heap "jdk/internal/util/Preconditions" "SIOOBE_FORMATTER" "Ljava/util/function/BiFunction;" gv) (Sa : Sta Z Z.heap "java/lang/StringUTF16" "$assertionsDisabled" "Z" (.int (1 : Int32))) (Sh : Sta Z Z.heap "java/lang/StringUTF16" "HI_BYTE_SHIFT" "I" (.int (0 : Int32))) (Sl : Sta Z Z.heap "java/lang/StringUTF16" "LO_BYTE_SHIFT" "I" (.int (8 : Int32))) :
    own_Met l Z (⟨"java/lang/StringUTF16", "charAt", "([BI)C"⟩ : MethodName) jdk_52_method_83_code 2 (some .char) ws ({ frames := 3, cells := 0, slots := 0, locals := 40 } : Room) #[(.ref ub), (.int iv)] h0 (Q_c16 Z ub kb nv vs iv jv kv xv yv cv lv zv gv h0 n0) := by
  refine own_enter (own := "java/lang/StringUTF16") (plainFor_of_name pn_4) rfl ?_
  intro p e s m below meth c s₁ hlk hret hx hby hml hown hnm hZ X0 e0
  have N0 := Fr.nil n0
  refine own_cast (ef_c16 m ub iv) ?_
  show own_Go _ _ _ _ (s₁.setTop (mkF m 0 #[.val (.ref ub), .val (.int iv)] []))
  refine own_go (fun t k => XS.iloadN X0.here hx rfl (hb hby d_j52_83_0) rfl k) ?_
  refine own_go (fun t k => XS.aloadN X0.here hx rfl (hb hby d_j52_83_1) rfl rfl k) ?_
  obtain ⟨_, _, ⟨T121, L121, k121, n121⟩, -, X121, ⟨Lc121, hQ121, l121, y121, z121⟩, st121⟩ := Jvm.LawKit.callS X0 hx (y := (⟨"java/lang/StringUTF16", "checkIndex", "(I[B)V"⟩ : MethodName)) hown (mvT hZ (w_83 hw)) (mvT hZ (w_84 hw)) (mvT hZ (w_24 hw)) (mvT hZ (w_85 hw)) (by decide) (backOf (W := 0) (rm_cki l Z a0 hw [] ub kb nv vs iv lv zv gv h0 n0 Z0 A0 hl hi0 hin O0 hzv S0 rgv G0 Sa Sh Sl) hZ (w_85 hw) (w_24 hw) (by decide) (by decide)) (g := (mkF m 2 #[.val (.ref ub), .val (.int iv)] [(.ref ub), (.int iv)])) rfl (by rw [hml]; rfl) (argsL := [(.int iv), (.ref ub)]) (rest := []) (lenOf pd_5 rfl) rfl (by show 2 * 0 + _ ≤ _; exact Nat.le_of_eq rfl) (hb hby d_j52_83_2) (fun _ _ => ⟨rfl, e0, (by decide : 0 + 0 ≤ _), (by decide : 0 + 0 ≤ _)⟩)
  dsimp only [Pt.U, Pt.locs, Pt.cells, Pt.slots] at X121 l121 y121 z121 st121 hQ121
  subst l121 y121 z121
  obtain ⟨rfl, N121q, e121⟩ := hQ121
  have N121 := Fr.app N0 N121q
  refine own_go st121 ?_
  refine own_go (fun t k => XS.aloadN X121.here hx rfl (hb hby d_j52_83_5) rfl rfl k) ?_
  show own_Go _ _ _ _ (T121.setTop (mkF m 6 #[.val (.ref ub), .val (.int iv)] [(.ref ub)]))
  refine own_go (fun t k => XS.iloadN X121.here hx rfl (hb hby d_j52_83_6) rfl k) ?_
  obtain ⟨_, _, ⟨T122, L122, k122, n122⟩, -, X122, ⟨Lc122, hQ122, l122, y122, z122⟩, st122⟩ := Jvm.LawKit.callS X121 hx (y := (⟨"java/lang/StringUTF16", "getChar", "([BI)C"⟩ : MethodName)) hown (mvT hZ (w_46 hw)) (mvT hZ (w_47 hw)) (mvT hZ (w_24 hw)) (mvT hZ (w_48 hw)) (by decide) (backOf (W := 0) (rm_gc l Z a0 hw [] ub kb nv vs iv jv kv xv yv cv zv gv h0 n0 Z0 A0 hj hk_ b1 b2 g1 g2 hcv O0 hzv S0 rgv G0 Sa Sh Sl) hZ (w_48 hw) (w_24 hw) (by decide) (by decide)) (g := (mkF m 7 #[.val (.ref ub), .val (.int iv)] [(.int iv), (.ref ub)])) rfl (by rw [hml]; rfl) (argsL := [(.ref ub), (.int iv)]) (rest := []) (lenOf pd_6 rfl) rfl (by show 2 * 0 + _ ≤ _; exact Nat.le_of_eq rfl) (hb hby d_j52_83_7) (fun _ _ => ⟨rfl, e121, (by decide : 0 + 0 ≤ _), (by decide : 0 + 0 ≤ _)⟩)
  dsimp only [Pt.U, Pt.locs, Pt.cells, Pt.slots] at X122 l122 y122 z122 st122 hQ122
  subst l122 y122 z122
  obtain ⟨rfl, N122q, e122⟩ := hQ122
  have N122 := Fr.app N121 N122q
  refine own_go st122 ?_
  show own_Go _ _ _ _ (T122.setTop (mkF m 10 #[.val (.ref ub), .val (.int iv)] [(.int cv)]))
  refine own_retN X122 hx hlk (t := .char) hret (by simp) (hb hby d_j52_83_10) ?_ (by decide) (by decide)
  rw [e122]
  exact ⟨by rw [hcc], N122, rfl⟩
def Q_il1 (Z : State) (us : Addr) (zv : Int32) (gv : Value) (h0 : Heap) (n0 : Nat) (v : Option Value) (h : Heap) (L : List Loc) : Prop := v = some (.int 0) ∧ Fr n0 L ∧ h = h0
theorem ef_il1 (m : MethodId) (us : Addr) : entryFrame m #[(.ref us)] 1 = mkF m 0 #[.val (.ref us)] [] := by first | (simp [entryFrame, mkF, argsToLocals, Value.category]; done) | rfl
theorem w_21 {Z : State} {a0 : Array Value} (hw : ∀ d ∈ tables_1, d.before a0 Z = true) : (Jvm.Cond.fieldLink "java/lang/String" (38 : Nat) "java/lang/String" "COMPACT_STRINGS" "Z").before a0 Z = true := hw _ (List.mem_of_getElem? (i := 21) rfl)
theorem d_j42_154_0 : decode jdk_42_method_154_code 0 = .ok (.getstatic 38, 3) := by decide +kernel
theorem d_j42_154_3 : decode jdk_42_method_154_code 3 = .ok (.ifCond .eq 14, 3) := by decide +kernel
theorem d_j42_154_6 : decode jdk_42_method_154_code 6 = .ok (.aload_n 0, 1) := by decide +kernel
theorem w_52 {Z : State} {a0 : Array Value} (hw : ∀ d ∈ tables_1, d.before a0 Z = true) : (Jvm.Cond.fieldLink "java/lang/String" (15 : Nat) "java/lang/String" "coder" "B").before a0 Z = true := hw _ (List.mem_of_getElem? (i := 52) rfl)
theorem d_j42_154_7 : decode jdk_42_method_154_code 7 = .ok (.getfield 15, 3) := by decide +kernel
theorem d_j42_154_10 : decode jdk_42_method_154_code 10 = .ok (.ifCond .ne 7, 3) := by decide +kernel
theorem d_j42_154_17 : decode jdk_42_method_154_code 17 = .ok (.iconst 0, 1) := by decide +kernel
theorem d_j42_154_18 : decode jdk_42_method_154_code 18 = .ok (.ireturn, 1) := by decide +kernel
set_option maxRecDepth 65536 in
set_option maxHeartbeats 40000000 in
theorem rm_il1 (l : Launch) (Z : State) (a0 : Array Value) (hw : ∀ d ∈ tables_1, d.before a0 Z = true) (ws : List Jvm.Cond) (us : Addr) (zv : Int32) (gv : Value) (h0 : Heap) (n0 : Nat) (Z0 : n0 ≤ h0.size) (Cd0 : Fld Z h0 us "java/lang/String" "coder" "B" (.int (1 : Int32))) (O0 : Old Z n0 h0) (hzv : ¬ zv = (0 : Int32)) (S0 : Sta Z Z.heap "java/lang/String" "COMPACT_STRINGS" "Z" (.int zv)) (rgv : gv.isRef = true) (G0 : Sta Z Z.heap "jdk/internal/util/Preconditions" "SIOOBE_FORMATTER" "Ljava/util/function/BiFunction;" gv) (Sa : Sta Z Z.heap "java/lang/StringUTF16" "$assertionsDisabled" "Z" (.int (1 : Int32))) (Sh : Sta Z Z.heap "java/lang/StringUTF16" "HI_BYTE_SHIFT" "I" (.int (0 : Int32))) (Sl : Sta Z Z.heap "java/lang/StringUTF16" "LO_BYTE_SHIFT" "I" (.int (8 : Int32))) :
    own_Met l Z (⟨"java/lang/String", "isLatin1", "()Z"⟩ : MethodName) jdk_42_method_154_code 1 (some .boolean) ws ({ frames := 0, cells := 0, slots := 0, locals := 0 } : Room) #[(.ref us)] h0 (Q_il1 Z us zv gv h0 n0) := by
  refine own_enter (own := "java/lang/String") (plainFor_of_name pn_3) rfl ?_
  intro p e s m below meth c s₁ hlk hret hx hby hml hown hnm hZ X0 e0
  have N0 := Fr.nil n0
  refine own_cast (ef_il1 m us) ?_
  show own_Go _ _ _ _ (s₁.setTop (mkF m 0 #[.val (.ref us)] []))
  obtain ⟨T123, X123, e123, st123⟩ := getS2 X0 hx hZ hown (host := "") (Or.inl (w_21 hw)) Via.refl e0 (S0.ext O0.2) (g := (mkF m 0 #[.val (.ref us)] [])) rfl (hb hby d_j42_154_0)
  refine own_go st123 ?_
  show own_Go _ _ _ _ (T123.setTop (mkF m 3 #[.val (.ref us)] [(.int zv)]))
  refine own_go (fun t k => XS.ifNo X123.here hx rfl (hb hby d_j42_154_3) rfl ((if0 _ _).trans (feq hzv).1) k) ?_
  refine own_go (fun t k => XS.aloadN X123.here hx rfl (hb hby d_j42_154_6) rfl rfl k) ?_
  show own_Go _ _ _ _ (T123.setTop (mkF m 7 #[.val (.ref us)] [(.ref us)]))
  obtain ⟨T124, X124, e124, st124⟩ := getF X123 hx hZ hown (host := "") (Or.inl (w_52 hw)) Via.refl e123 Cd0 (g := (mkF m 7 #[.val (.ref us)] [(.ref us)])) rfl rfl (hb hby d_j42_154_7)
  refine own_go st124 ?_
  show own_Go _ _ _ _ (T124.setTop (mkF m 10 #[.val (.ref us)] [(.int (1 : Int32))]))
  refine own_go (fun t k => XS.ifYes X124.here hx rfl (pc0 := 10) (pc' := 17) rfl (hb hby d_j42_154_10) rfl ((if0 _ _).trans (feq (by decide : ¬ ((1 : Int32) = (0 : Int32)))).2) (by decide) (by decide) k) ?_
  refine own_go (fun t k => XS.iconst X124.here hx rfl (hb hby d_j42_154_17) k) ?_
  show own_Go _ _ _ _ (T124.setTop (mkF m 18 #[.val (.ref us)] [(.int (0 : Int32))]))
  refine own_retN X124 hx hlk (t := .boolean) hret (by simp) (hb hby d_j42_154_18) ?_ (by decide) (by decide)
  rw [e124]
  exact ⟨rfl, N0, rfl⟩
def Q_cdr (Z : State) (us : Addr) (zv : Int32) (gv : Value) (h0 : Heap) (n0 : Nat) (v : Option Value) (h : Heap) (L : List Loc) : Prop := v = some (.int 1) ∧ Fr n0 L ∧ h = h0
theorem ef_cdr (m : MethodId) (us : Addr) : entryFrame m #[(.ref us)] 1 = mkF m 0 #[.val (.ref us)] [] := by first | (simp [entryFrame, mkF, argsToLocals, Value.category]; done) | rfl
theorem d_j42_152_0 : decode jdk_42_method_152_code 0 = .ok (.getstatic 38, 3) := by decide +kernel
theorem d_j42_152_3 : decode jdk_42_method_152_code 3 = .ok (.ifCond .eq 10, 3) := by decide +kernel
theorem d_j42_152_6 : decode jdk_42_method_152_code 6 = .ok (.aload_n 0, 1) := by decide +kernel
theorem d_j42_152_7 : decode jdk_42_method_152_code 7 = .ok (.getfield 15, 3) := by decide +kernel
theorem d_j42_152_10 : decode jdk_42_method_152_code 10 = .ok (.goto 4, 3) := by decide +kernel
theorem d_j42_152_14 : decode jdk_42_method_152_code 14 = .ok (.ireturn, 1) := by decide +kernel
set_option maxRecDepth 65536 in
set_option maxHeartbeats 40000000 in
theorem rm_cdr (l : Launch) (Z : State) (a0 : Array Value) (hw : ∀ d ∈ tables_1, d.before a0 Z = true) (ws : List Jvm.Cond) (us : Addr) (zv : Int32) (gv : Value) (h0 : Heap) (n0 : Nat) (Z0 : n0 ≤ h0.size) (Cd0 : Fld Z h0 us "java/lang/String" "coder" "B" (.int (1 : Int32))) (O0 : Old Z n0 h0) (hzv : ¬ zv = (0 : Int32)) (S0 : Sta Z Z.heap "java/lang/String" "COMPACT_STRINGS" "Z" (.int zv)) (rgv : gv.isRef = true) (G0 : Sta Z Z.heap "jdk/internal/util/Preconditions" "SIOOBE_FORMATTER" "Ljava/util/function/BiFunction;" gv) (Sa : Sta Z Z.heap "java/lang/StringUTF16" "$assertionsDisabled" "Z" (.int (1 : Int32))) (Sh : Sta Z Z.heap "java/lang/StringUTF16" "HI_BYTE_SHIFT" "I" (.int (0 : Int32))) (Sl : Sta Z Z.heap "java/lang/StringUTF16" "LO_BYTE_SHIFT" "I" (.int (8 : Int32))) :
    own_Met l Z (⟨"java/lang/String", "coder", "()B"⟩ : MethodName) jdk_42_method_152_code 1 (some .byte) ws ({ frames := 0, cells := 0, slots := 0, locals := 0 } : Room) #[(.ref us)] h0 (Q_cdr Z us zv gv h0 n0) := by
  refine own_enter (own := "java/lang/String") (plainFor_of_name pn_3) rfl ?_
  intro p e s m below meth c s₁ hlk hret hx hby hml hown hnm hZ X0 e0
  have N0 := Fr.nil n0
  refine own_cast (ef_cdr m us) ?_
  show own_Go _ _ _ _ (s₁.setTop (mkF m 0 #[.val (.ref us)] []))
  obtain ⟨T125, X125, e125, st125⟩ := getS2 X0 hx hZ hown (host := "") (Or.inl (w_21 hw)) Via.refl e0 (S0.ext O0.2) (g := (mkF m 0 #[.val (.ref us)] [])) rfl (hb hby d_j42_152_0)
  refine own_go st125 ?_
  show own_Go _ _ _ _ (T125.setTop (mkF m 3 #[.val (.ref us)] [(.int zv)]))
  refine own_go (fun t k => XS.ifNo X125.here hx rfl (hb hby d_j42_152_3) rfl ((if0 _ _).trans (feq hzv).1) k) ?_
  refine own_go (fun t k => XS.aloadN X125.here hx rfl (hb hby d_j42_152_6) rfl rfl k) ?_
  show own_Go _ _ _ _ (T125.setTop (mkF m 7 #[.val (.ref us)] [(.ref us)]))
  obtain ⟨T126, X126, e126, st126⟩ := getF X125 hx hZ hown (host := "") (Or.inl (w_52 hw)) Via.refl e125 Cd0 (g := (mkF m 7 #[.val (.ref us)] [(.ref us)])) rfl rfl (hb hby d_j42_152_7)
  refine own_go st126 ?_
  refine own_go (fun t k => XS.goto X126.here hx rfl (pc0 := 10) (pc' := 14) rfl (hb hby d_j42_152_10) (by decide) (by decide) k) ?_
  show own_Go _ _ _ _ (T126.setTop (mkF m 14 #[.val (.ref us)] [(.int (1 : Int32))]))
  refine own_retN X126 hx hlk (t := .byte) hret (by simp) (hb hby d_j42_152_14) ?_ (by decide) (by decide)
  rw [e126]
  exact ⟨rfl, N0, rfl⟩
def Q_len (Z : State) (us : Addr) (ub : Addr) (kb : ClassId) (nv : Int32) (vs : List Value) (lv : Int32) (zv : Int32) (gv : Value) (h0 : Heap) (n0 : Nat) (v : Option Value) (h : Heap) (L : List Loc) : Prop := v = some (.int lv) ∧ Fr n0 L ∧ h = h0
theorem ef_len (m : MethodId) (us : Addr) : entryFrame m #[(.ref us)] 1 = mkF m 0 #[.val (.ref us)] [] := by first | (simp [entryFrame, mkF, argsToLocals, Value.category]; done) | rfl
theorem d_j42_54_0 : decode jdk_42_method_54_code 0 = .ok (.aload_n 0, 1) := by decide +kernel
theorem w_54 {Z : State} {a0 : Array Value} (hw : ∀ d ∈ tables_1, d.before a0 Z = true) : (Jvm.Cond.fieldLink "java/lang/String" (9 : Nat) "java/lang/String" "value" "[B").before a0 Z = true := hw _ (List.mem_of_getElem? (i := 54) rfl)
theorem d_j42_54_1 : decode jdk_42_method_54_code 1 = .ok (.getfield 9, 3) := by decide +kernel
theorem d_j42_54_4 : decode jdk_42_method_54_code 4 = .ok (.arraylength, 1) := by decide +kernel
theorem d_j42_54_5 : decode jdk_42_method_54_code 5 = .ok (.aload_n 0, 1) := by decide +kernel
theorem w_65 {Z : State} {a0 : Array Value} (hw : ∀ d ∈ tables_1, d.before a0 Z = true) : (Jvm.Cond.methodLink "java/lang/String" (335 : Nat) ({ cls := "java/lang/String", name := "coder", desc := "()B" } : Jvm.MethodName)).before a0 Z = true := hw _ (List.mem_of_getElem? (i := 65) rfl)
theorem w_69 {Z : State} {a0 : Array Value} (hw : ∀ d ∈ tables_1, d.before a0 Z = true) : (Jvm.Cond.code ({ cls := "java/lang/String", name := "coder", desc := "()B" } : Jvm.MethodName) jdk_42_method_152_code (1 : Nat) (Option.some Jvm.ClassFile.FieldType.byte)).before a0 Z = true := hw _ (List.mem_of_getElem? (i := 69) rfl)
theorem pd_7 : parseMethodDescriptor "()B" = some ⟨[], some .byte⟩ := by decide +kernel
theorem d_j42_54_6 : decode jdk_42_method_54_code 6 = .ok (.invokevirtual 335, 3) := by decide +kernel
theorem w_68 {Z : State} {a0 : Array Value} (hw : ∀ d ∈ tables_1, d.before a0 Z = true) : (Jvm.Cond.selects "java/lang/String" ({ cls := "java/lang/String", name := "coder", desc := "()B" } : Jvm.MethodName) ({ cls := "java/lang/String", name := "coder", desc := "()B" } : Jvm.MethodName)).before a0 Z = true := hw _ (List.mem_of_getElem? (i := 68) rfl)
theorem w_66 {Z : State} {a0 : Array Value} (hw : ∀ d ∈ tables_1, d.before a0 Z = true) : (Jvm.Cond.declares ({ cls := "java/lang/String", name := "coder", desc := "()B" } : Jvm.MethodName)).before a0 Z = true := hw _ (List.mem_of_getElem? (i := 66) rfl)
theorem w_67 {Z : State} {a0 : Array Value} (hw : ∀ d ∈ tables_1, d.before a0 Z = true) : (Jvm.Cond.instanceMethod ({ cls := "java/lang/String", name := "coder", desc := "()B" } : Jvm.MethodName)).before a0 Z = true := hw _ (List.mem_of_getElem? (i := 67) rfl)
theorem d_j42_54_9 : decode jdk_42_method_54_code 9 = .ok (.ishr, 1) := by decide +kernel
theorem d_j42_54_10 : decode jdk_42_method_54_code 10 = .ok (.ireturn, 1) := by decide +kernel
set_option maxRecDepth 65536 in
set_option maxHeartbeats 40000000 in
theorem rm_len (l : Launch) (Z : State) (a0 : Array Value) (hw : ∀ d ∈ tables_1, d.before a0 Z = true) (ws : List Jvm.Cond) (us ub : Addr) (kb : ClassId) (nv : Int32) (vs : List Value) (lv zv : Int32) (gv : Value) (h0 : Heap) (n0 : Nat) (Z0 : n0 ≤ h0.size) (Ex0 : Exa Z h0 us "java/lang/String") (Cd0 : Fld Z h0 us "java/lang/String" "coder" "B" (.int (1 : Int32))) (Va0 : Fld Z h0 us "java/lang/String" "value" "[B" (.ref ub)) (A0 : Arv Z h0 ub kb .byte nv vs (.int (0 : Int32))) (hl : nv >>> ((1 : Int32) &&& 31) = lv) (O0 : Old Z n0 h0) (hzv : ¬ zv = (0 : Int32)) (S0 : Sta Z Z.heap "java/lang/String" "COMPACT_STRINGS" "Z" (.int zv)) (rgv : gv.isRef = true) (G0 : Sta Z Z.heap "jdk/internal/util/Preconditions" "SIOOBE_FORMATTER" "Ljava/util/function/BiFunction;" gv) (Sa : Sta Z Z.heap "java/lang/StringUTF16" "$assertionsDisabled" "Z" (.int (1 : Int32))) (Sh : Sta Z Z.heap "java/lang/StringUTF16" "HI_BYTE_SHIFT" "I" (.int (0 : Int32))) (Sl : Sta Z Z.heap "java/lang/StringUTF16" "LO_BYTE_SHIFT" "I" (.int (8 : Int32))) :
    own_Met l Z (⟨"java/lang/String", "length", "()I"⟩ : MethodName) jdk_42_method_54_code 1 (some .int) ws ({ frames := 1, cells := 0, slots := 0, locals := 13 } : Room) #[(.ref us)] h0 (Q_len Z us ub kb nv vs lv zv gv h0 n0) := by
  refine own_enter (own := "java/lang/String") (plainFor_of_name pn_3) rfl ?_
  intro p e s m below meth c s₁ hlk hret hx hby hml hown hnm hZ X0 e0
  have N0 := Fr.nil n0
  refine own_cast (ef_len m us) ?_
  show own_Go _ _ _ _ (s₁.setTop (mkF m 0 #[.val (.ref us)] []))
  refine own_go (fun t k => XS.aloadN X0.here hx rfl (hb hby d_j42_54_0) rfl rfl k) ?_
  show own_Go _ _ _ _ (s₁.setTop (mkF m 1 #[.val (.ref us)] [(.ref us)]))
  obtain ⟨T127, X127, e127, st127⟩ := getF X0 hx hZ hown (host := "") (Or.inl (w_54 hw)) Via.refl e0 Va0 (g := (mkF m 1 #[.val (.ref us)] [(.ref us)])) rfl rfl (hb hby d_j42_54_1)
  refine own_go st127 ?_
  show own_Go _ _ _ _ (T127.setTop (mkF m 4 #[.val (.ref us)] [(.ref ub)]))
  obtain ⟨cl128, Ar128, qk128, sz128, nn128, ha128, gf128⟩ := id A0
  refine own_go (X127.arraylength hx (by rw [e127]; exact Ar128.1) (State.isArrayOf_alike hZ.alike Ar128.2.1) (g := (mkF m 4 #[.val (.ref us)] [(.ref ub)])) rfl rfl (hb hby d_j42_54_4)) ?_
  rw [len_of sz128 nn128]
  refine own_go (fun t k => XS.aloadN X127.here hx rfl (hb hby d_j42_54_5) rfl rfl k) ?_
  obtain ⟨cq129, kq129, q129a, q129b, q129c⟩ := isOf hZ e127 Ex0
  obtain ⟨_, _, ⟨T129, L129, k129, n129⟩, -, X129, ⟨Lc129, hQ129, l129, y129, z129⟩, st129⟩ := X127.virtualBack hx (y := (⟨"java/lang/String", "coder", "()B"⟩ : MethodName)) (z := (⟨"java/lang/String", "coder", "()B"⟩ : MethodName)) hown (mvT hZ (w_65 hw)) (mvT hZ (w_66 hw)) (notFace_of_selects (args := #[]) (mvT hZ (w_68 hw))) (mvT hZ (w_68 hw)) (mvT hZ (w_67 hw)) (by decide) (backOf (W := 1) (rm_cdr l Z a0 hw [] us zv gv h0 n0 Z0 Cd0 O0 hzv S0 rgv G0 Sa Sh Sl) hZ (w_69 hw) (w_10 hw) (by decide) (by decide)) q129a q129c (g := (mkF m 6 #[.val (.ref us)] [(.ref us), (.int nv)])) rfl (by rw [hml]; rfl) (Steps.refl _) (argsL := []) (rest := [(.int nv)]) (lenOf pd_7 rfl) rfl (by show 2 * 0 + _ ≤ _; exact Nat.le_of_eq rfl) (hb hby d_j42_54_6) (fun _ _ => ⟨rfl, e127, (by decide : 0 + 0 ≤ _), (by decide : 0 + 0 ≤ _)⟩)
  dsimp only [Pt.U, Pt.locs, Pt.cells, Pt.slots] at X129 l129 y129 z129 st129 hQ129
  subst l129 y129 z129
  obtain ⟨rfl, N129q, e129⟩ := hQ129
  have N129 := Fr.app N0 N129q
  refine own_go (fun t k => st129.trans k) ?_
  refine own_go (fun t k => XS.ishr X129.here hx rfl (hb hby d_j42_54_9) rfl k) ?_
  show own_Go _ _ _ _ (T129.setTop (mkF m 10 #[.val (.ref us)] [(.int (nv >>> ((1 : Int32) &&& 31)))]))
  refine own_ret X129 hx hlk hret rfl (Or.inl ⟨rfl, Or.inl rfl, _, rfl⟩) (hb hby d_j42_54_10) ?_ (by decide) (by decide)
  rw [e129]
  exact ⟨by rw [hl], N129, rfl⟩
def Q_ca (Z : State) (us : Addr) (ub : Addr) (kb : ClassId) (nv : Int32) (vs : List Value) (iv : Int32) (jv : Int32) (kv : Int32) (xv : Int32) (yv : Int32) (cv : Int32) (lv : Int32) (zv : Int32) (gv : Value) (h0 : Heap) (n0 : Nat) (v : Option Value) (h : Heap) (L : List Loc) : Prop := v = some (.int cv) ∧ Fr n0 L ∧ h = h0
theorem ef_ca (m : MethodId) (us : Addr) (iv : Int32) : entryFrame m #[(.ref us), (.int iv)] 2 = mkF m 0 #[.val (.ref us), .val (.int iv)] [] := by first | (simp [entryFrame, mkF, argsToLocals, Value.category]; done) | rfl
theorem d_j42_56_0 : decode jdk_42_method_56_code 0 = .ok (.aload_n 0, 1) := by decide +kernel
theorem w_75 {Z : State} {a0 : Array Value} (hw : ∀ d ∈ tables_1, d.before a0 Z = true) : (Jvm.Cond.methodLink "java/lang/String" (492 : Nat) ({ cls := "java/lang/String", name := "isLatin1", desc := "()Z" } : Jvm.MethodName)).before a0 Z = true := hw _ (List.mem_of_getElem? (i := 75) rfl)
theorem w_79 {Z : State} {a0 : Array Value} (hw : ∀ d ∈ tables_1, d.before a0 Z = true) : (Jvm.Cond.code ({ cls := "java/lang/String", name := "isLatin1", desc := "()Z" } : Jvm.MethodName) jdk_42_method_154_code (1 : Nat) (Option.some Jvm.ClassFile.FieldType.boolean)).before a0 Z = true := hw _ (List.mem_of_getElem? (i := 79) rfl)
theorem pd_8 : parseMethodDescriptor "()Z" = some ⟨[], some .boolean⟩ := by decide +kernel
theorem d_j42_56_1 : decode jdk_42_method_56_code 1 = .ok (.invokevirtual 492, 3) := by decide +kernel
theorem w_78 {Z : State} {a0 : Array Value} (hw : ∀ d ∈ tables_1, d.before a0 Z = true) : (Jvm.Cond.selects "java/lang/String" ({ cls := "java/lang/String", name := "isLatin1", desc := "()Z" } : Jvm.MethodName) ({ cls := "java/lang/String", name := "isLatin1", desc := "()Z" } : Jvm.MethodName)).before a0 Z = true := hw _ (List.mem_of_getElem? (i := 78) rfl)
theorem w_76 {Z : State} {a0 : Array Value} (hw : ∀ d ∈ tables_1, d.before a0 Z = true) : (Jvm.Cond.declares ({ cls := "java/lang/String", name := "isLatin1", desc := "()Z" } : Jvm.MethodName)).before a0 Z = true := hw _ (List.mem_of_getElem? (i := 76) rfl)
theorem w_77 {Z : State} {a0 : Array Value} (hw : ∀ d ∈ tables_1, d.before a0 Z = true) : (Jvm.Cond.instanceMethod ({ cls := "java/lang/String", name := "isLatin1", desc := "()Z" } : Jvm.MethodName)).before a0 Z = true := hw _ (List.mem_of_getElem? (i := 77) rfl)
theorem d_j42_56_4 : decode jdk_42_method_56_code 4 = .ok (.ifCond .eq 12, 3) := by decide +kernel
theorem d_j42_56_16 : decode jdk_42_method_56_code 16 = .ok (.aload_n 0, 1) := by decide +kernel
theorem d_j42_56_17 : decode jdk_42_method_56_code 17 = .ok (.getfield 9, 3) := by decide +kernel
theorem d_j42_56_20 : decode jdk_42_method_56_code 20 = .ok (.iload_n 1, 1) := by decide +kernel
theorem w_80 {Z : State} {a0 : Array Value} (hw : ∀ d ∈ tables_1, d.before a0 Z = true) : (Jvm.Cond.methodLink "java/lang/String" (498 : Nat) ({ cls := "java/lang/StringUTF16", name := "charAt", desc := "([BI)C" } : Jvm.MethodName)).before a0 Z = true := hw _ (List.mem_of_getElem? (i := 80) rfl)
theorem w_82 {Z : State} {a0 : Array Value} (hw : ∀ d ∈ tables_1, d.before a0 Z = true) : (Jvm.Cond.code ({ cls := "java/lang/StringUTF16", name := "charAt", desc := "([BI)C" } : Jvm.MethodName) jdk_52_method_83_code (2 : Nat) (Option.some Jvm.ClassFile.FieldType.char)).before a0 Z = true := hw _ (List.mem_of_getElem? (i := 82) rfl)
theorem d_j42_56_21 : decode jdk_42_method_56_code 21 = .ok (.invokestatic 498, 3) := by decide +kernel
theorem w_81 {Z : State} {a0 : Array Value} (hw : ∀ d ∈ tables_1, d.before a0 Z = true) : (Jvm.Cond.static ({ cls := "java/lang/StringUTF16", name := "charAt", desc := "([BI)C" } : Jvm.MethodName)).before a0 Z = true := hw _ (List.mem_of_getElem? (i := 81) rfl)
theorem d_j42_56_24 : decode jdk_42_method_56_code 24 = .ok (.ireturn, 1) := by decide +kernel
set_option maxRecDepth 65536 in
set_option maxHeartbeats 40000000 in
theorem rm_ca (l : Launch) (Z : State) (a0 : Array Value) (hw : ∀ d ∈ tables_1, d.before a0 Z = true) (ws : List Jvm.Cond) (us ub : Addr) (kb : ClassId) (nv : Int32) (vs : List Value) (iv jv kv xv yv cv lv zv : Int32) (gv : Value) (h0 : Heap) (n0 : Nat) (Z0 : n0 ≤ h0.size) (Ex0 : Exa Z h0 us "java/lang/String") (Cd0 : Fld Z h0 us "java/lang/String" "coder" "B" (.int (1 : Int32))) (Va0 : Fld Z h0 us "java/lang/String" "value" "[B" (.ref ub)) (A0 : Arv Z h0 ub kb .byte nv vs (.int (0 : Int32))) (hj : iv <<< ((1 : Int32) &&& 31) = jv) (hk_ : jv + (1 : Int32) = kv) (b1 : ¬ jv < 0 ∧ jv < nv) (b2 : ¬ kv < 0 ∧ kv < nv) (g1 : vs.getD jv.toNatClampNeg (.int (0 : Int32)) = .int xv) (g2 : vs.getD kv.toNatClampNeg (.int (0 : Int32)) = .int yv) (hcv : (nar .char ((((xv &&& (255 : Int32)) <<< ((0 : Int32) &&& 31)) ||| ((yv &&& (255 : Int32)) <<< ((8 : Int32) &&& 31))).toUInt32.toUInt16.toUInt32.toInt32)) = cv) (hl : nv >>> ((1 : Int32) &&& 31) = lv) (hi0 : ¬ iv < (0 : Int32)) (hin : iv < lv) (hcc : nar .char cv = cv) (O0 : Old Z n0 h0) (hzv : ¬ zv = (0 : Int32)) (S0 : Sta Z Z.heap "java/lang/String" "COMPACT_STRINGS" "Z" (.int zv)) (rgv : gv.isRef = true) (G0 : Sta Z Z.heap "jdk/internal/util/Preconditions" "SIOOBE_FORMATTER" "Ljava/util/function/BiFunction;" gv) (Sa : Sta Z Z.heap "java/lang/StringUTF16" "$assertionsDisabled" "Z" (.int (1 : Int32))) (Sh : Sta Z Z.heap "java/lang/StringUTF16" "HI_BYTE_SHIFT" "I" (.int (0 : Int32))) (Sl : Sta Z Z.heap "java/lang/StringUTF16" "LO_BYTE_SHIFT" "I" (.int (8 : Int32))) :
    own_Met l Z (⟨"java/lang/String", "charAt", "(I)C"⟩ : MethodName) jdk_42_method_56_code 2 (some .char) ws ({ frames := 4, cells := 0, slots := 0, locals := 53 } : Room) #[(.ref us), (.int iv)] h0 (Q_ca Z us ub kb nv vs iv jv kv xv yv cv lv zv gv h0 n0) := by
  refine own_enter (own := "java/lang/String") (plainFor_of_name pn_3) rfl ?_
  intro p e s m below meth c s₁ hlk hret hx hby hml hown hnm hZ X0 e0
  have N0 := Fr.nil n0
  refine own_cast (ef_ca m us iv) ?_
  show own_Go _ _ _ _ (s₁.setTop (mkF m 0 #[.val (.ref us), .val (.int iv)] []))
  refine own_go (fun t k => XS.aloadN X0.here hx rfl (hb hby d_j42_56_0) rfl rfl k) ?_
  obtain ⟨cq130, kq130, q130a, q130b, q130c⟩ := isOf hZ e0 Ex0
  obtain ⟨_, _, ⟨T130, L130, k130, n130⟩, -, X130, ⟨Lc130, hQ130, l130, y130, z130⟩, st130⟩ := X0.virtualBack hx (y := (⟨"java/lang/String", "isLatin1", "()Z"⟩ : MethodName)) (z := (⟨"java/lang/String", "isLatin1", "()Z"⟩ : MethodName)) hown (mvT hZ (w_75 hw)) (mvT hZ (w_76 hw)) (notFace_of_selects (args := #[]) (mvT hZ (w_78 hw))) (mvT hZ (w_78 hw)) (mvT hZ (w_77 hw)) (by decide) (backOf (W := 0) (rm_il1 l Z a0 hw [] us zv gv h0 n0 Z0 Cd0 O0 hzv S0 rgv G0 Sa Sh Sl) hZ (w_79 hw) (w_10 hw) (by decide) (by decide)) q130a q130c (g := (mkF m 1 #[.val (.ref us), .val (.int iv)] [(.ref us)])) rfl (by rw [hml]; rfl) (Steps.refl _) (argsL := []) (rest := []) (lenOf pd_8 rfl) rfl (by show 2 * 0 + _ ≤ _; exact Nat.le_of_eq rfl) (hb hby d_j42_56_1) (fun _ _ => ⟨rfl, e0, (by decide : 0 + 0 ≤ _), (by decide : 0 + 0 ≤ _)⟩)
  dsimp only [Pt.U, Pt.locs, Pt.cells, Pt.slots] at X130 l130 y130 z130 st130 hQ130
  subst l130 y130 z130
  obtain ⟨rfl, N130q, e130⟩ := hQ130
  have N130 := Fr.app N0 N130q
  refine own_go (fun t k => st130.trans k) ?_
  show own_Go _ _ _ _ (T130.setTop (mkF m 4 #[.val (.ref us), .val (.int iv)] [(.int (0 : Int32))]))
  refine own_go (fun t k => XS.ifYes X130.here hx rfl (pc0 := 4) (pc' := 16) rfl (hb hby d_j42_56_4) rfl ((if0 _ _).trans (teq (by decide : (0 : Int32) = (0 : Int32))).1) (by decide) (by decide) k) ?_
  refine own_go (fun t k => XS.aloadN X130.here hx rfl (hb hby d_j42_56_16) rfl rfl k) ?_
  show own_Go _ _ _ _ (T130.setTop (mkF m 17 #[.val (.ref us), .val (.int iv)] [(.ref us)]))
  obtain ⟨T131, X131, e131, st131⟩ := getF X130 hx hZ hown (host := "") (Or.inl (w_54 hw)) Via.refl e130 Va0 (g := (mkF m 17 #[.val (.ref us), .val (.int iv)] [(.ref us)])) rfl rfl (hb hby d_j42_56_17)
  refine own_go st131 ?_
  refine own_go (fun t k => XS.iloadN X131.here hx rfl (hb hby d_j42_56_20) rfl k) ?_
  obtain ⟨_, _, ⟨T132, L132, k132, n132⟩, -, X132, ⟨Lc132, hQ132, l132, y132, z132⟩, st132⟩ := Jvm.LawKit.callS X131 hx (y := (⟨"java/lang/StringUTF16", "charAt", "([BI)C"⟩ : MethodName)) hown (mvT hZ (w_80 hw)) (mvT hZ (w_81 hw)) (mvT hZ (w_24 hw)) (mvT hZ (w_82 hw)) (by decide) (backOf (W := 0) (rm_c16 l Z a0 hw [] ub kb nv vs iv jv kv xv yv cv lv zv gv h0 n0 Z0 A0 hj hk_ b1 b2 g1 g2 hcv hl hi0 hin hcc O0 hzv S0 rgv G0 Sa Sh Sl) hZ (w_82 hw) (w_24 hw) (by decide) (by decide)) (g := (mkF m 21 #[.val (.ref us), .val (.int iv)] [(.int iv), (.ref ub)])) rfl (by rw [hml]; rfl) (argsL := [(.ref ub), (.int iv)]) (rest := []) (lenOf pd_6 rfl) rfl (by show 2 * 0 + _ ≤ _; exact Nat.le_of_eq rfl) (hb hby d_j42_56_21) (fun _ _ => ⟨rfl, e131, (by decide : 0 + 0 ≤ _), (by decide : 0 + 0 ≤ _)⟩)
  dsimp only [Pt.U, Pt.locs, Pt.cells, Pt.slots] at X132 l132 y132 z132 st132 hQ132
  subst l132 y132 z132
  obtain ⟨rfl, N132q, e132⟩ := hQ132
  have N132 := Fr.app N130 N132q
  refine own_go st132 ?_
  show own_Go _ _ _ _ (T132.setTop (mkF m 24 #[.val (.ref us), .val (.int iv)] [(.int cv)]))
  refine own_retN X132 hx hlk (t := .char) hret (by simp) (hb hby d_j42_56_24) ?_ (by decide) (by decide)
  rw [e132]
  exact ⟨by rw [hcc], N132, rfl⟩
def Q_lp_4 (Z : State) (us : Addr) (ub : Addr) (kb : ClassId) (c0_ : Int32) (c1_ : Int32) (c2_ : Int32) (zv : Int32) (gv : Value) (h0 : Heap) (n0 : Nat) (v : Option Value) (h : Heap) (L : List Loc) : Prop := v = some (.int (own_p4 c0_ c1_ c2_)) ∧ Fr n0 L ∧ h = h0
theorem ef_lp_4 (m : MethodId) (us : Addr) : entryFrame m #[(.ref us)] 3 = mkF m 0 #[.val (.ref us), .unset, .unset] [] := by first | (simp [entryFrame, mkF, argsToLocals, Value.category]; done) | rfl
theorem d_p118_4_0 : decode prog_118_method_4_code 0 = .ok (.aload_n 0, 1) := by decide +kernel
theorem w_60 {Z : State} {a0 : Array Value} (hw : ∀ d ∈ tables_1, d.before a0 Z = true) : (Jvm.Cond.methodLink "com/example/compact_transform/compacttransform/tree/StringFootprint" (19 : Nat) ({ cls := "java/lang/String", name := "length", desc := "()I" } : Jvm.MethodName)).before a0 Z = true := hw _ (List.mem_of_getElem? (i := 60) rfl)
theorem w_64 {Z : State} {a0 : Array Value} (hw : ∀ d ∈ tables_1, d.before a0 Z = true) : (Jvm.Cond.code ({ cls := "java/lang/String", name := "length", desc := "()I" } : Jvm.MethodName) jdk_42_method_54_code (1 : Nat) (Option.some Jvm.ClassFile.FieldType.int)).before a0 Z = true := hw _ (List.mem_of_getElem? (i := 64) rfl)
theorem pd_9 : parseMethodDescriptor "()I" = some ⟨[], some .int⟩ := by decide +kernel
theorem d_p118_4_1 : decode prog_118_method_4_code 1 = .ok (.invokevirtual 19, 3) := by decide +kernel
theorem w_63 {Z : State} {a0 : Array Value} (hw : ∀ d ∈ tables_1, d.before a0 Z = true) : (Jvm.Cond.selects "java/lang/String" ({ cls := "java/lang/String", name := "length", desc := "()I" } : Jvm.MethodName) ({ cls := "java/lang/String", name := "length", desc := "()I" } : Jvm.MethodName)).before a0 Z = true := hw _ (List.mem_of_getElem? (i := 63) rfl)
theorem w_61 {Z : State} {a0 : Array Value} (hw : ∀ d ∈ tables_1, d.before a0 Z = true) : (Jvm.Cond.declares ({ cls := "java/lang/String", name := "length", desc := "()I" } : Jvm.MethodName)).before a0 Z = true := hw _ (List.mem_of_getElem? (i := 61) rfl)
theorem w_62 {Z : State} {a0 : Array Value} (hw : ∀ d ∈ tables_1, d.before a0 Z = true) : (Jvm.Cond.instanceMethod ({ cls := "java/lang/String", name := "length", desc := "()I" } : Jvm.MethodName)).before a0 Z = true := hw _ (List.mem_of_getElem? (i := 62) rfl)
theorem d_p118_4_4 : decode prog_118_method_4_code 4 = .ok (.istore_n 1, 1) := by decide +kernel
theorem d_p118_4_5 : decode prog_118_method_4_code 5 = .ok (.iconst 0, 1) := by decide +kernel
theorem d_p118_4_6 : decode prog_118_method_4_code 6 = .ok (.istore_n 2, 1) := by decide +kernel
theorem d_p118_4_7 : decode prog_118_method_4_code 7 = .ok (.iload_n 2, 1) := by decide +kernel
theorem d_p118_4_8 : decode prog_118_method_4_code 8 = .ok (.iload_n 1, 1) := by decide +kernel
theorem d_p118_4_9 : decode prog_118_method_4_code 9 = .ok (.if_icmp .ge 22, 3) := by decide +kernel
theorem d_p118_4_12 : decode prog_118_method_4_code 12 = .ok (.aload_n 0, 1) := by decide +kernel
theorem d_p118_4_13 : decode prog_118_method_4_code 13 = .ok (.iload_n 2, 1) := by decide +kernel
theorem w_70 {Z : State} {a0 : Array Value} (hw : ∀ d ∈ tables_1, d.before a0 Z = true) : (Jvm.Cond.methodLink "com/example/compact_transform/compacttransform/tree/StringFootprint" (25 : Nat) ({ cls := "java/lang/String", name := "charAt", desc := "(I)C" } : Jvm.MethodName)).before a0 Z = true := hw _ (List.mem_of_getElem? (i := 70) rfl)
theorem w_74 {Z : State} {a0 : Array Value} (hw : ∀ d ∈ tables_1, d.before a0 Z = true) : (Jvm.Cond.code ({ cls := "java/lang/String", name := "charAt", desc := "(I)C" } : Jvm.MethodName) jdk_42_method_56_code (2 : Nat) (Option.some Jvm.ClassFile.FieldType.char)).before a0 Z = true := hw _ (List.mem_of_getElem? (i := 74) rfl)
theorem pd_10 : parseMethodDescriptor "(I)C" = some ⟨[.int], some .char⟩ := by decide +kernel
theorem d_p118_4_14 : decode prog_118_method_4_code 14 = .ok (.invokevirtual 25, 3) := by decide +kernel
theorem w_73 {Z : State} {a0 : Array Value} (hw : ∀ d ∈ tables_1, d.before a0 Z = true) : (Jvm.Cond.selects "java/lang/String" ({ cls := "java/lang/String", name := "charAt", desc := "(I)C" } : Jvm.MethodName) ({ cls := "java/lang/String", name := "charAt", desc := "(I)C" } : Jvm.MethodName)).before a0 Z = true := hw _ (List.mem_of_getElem? (i := 73) rfl)
theorem w_71 {Z : State} {a0 : Array Value} (hw : ∀ d ∈ tables_1, d.before a0 Z = true) : (Jvm.Cond.declares ({ cls := "java/lang/String", name := "charAt", desc := "(I)C" } : Jvm.MethodName)).before a0 Z = true := hw _ (List.mem_of_getElem? (i := 71) rfl)
theorem w_72 {Z : State} {a0 : Array Value} (hw : ∀ d ∈ tables_1, d.before a0 Z = true) : (Jvm.Cond.instanceMethod ({ cls := "java/lang/String", name := "charAt", desc := "(I)C" } : Jvm.MethodName)).before a0 Z = true := hw _ (List.mem_of_getElem? (i := 72) rfl)
theorem d_p118_4_17 : decode prog_118_method_4_code 17 = .ok (.sipush 255, 3) := by decide +kernel
theorem d_p118_4_20 : decode prog_118_method_4_code 20 = .ok (.if_icmp .le 5, 3) := by decide +kernel
theorem d_p118_4_23 : decode prog_118_method_4_code 23 = .ok (.iload_n 2, 1) := by decide +kernel
theorem d_p118_4_24 : decode prog_118_method_4_code 24 = .ok (.ireturn, 1) := by decide +kernel
theorem d_p118_4_25 : decode prog_118_method_4_code 25 = .ok (.iinc 2 1, 3) := by decide +kernel
theorem d_p118_4_28 : decode prog_118_method_4_code 28 = .ok (.goto (-21), 3) := by decide +kernel
set_option maxRecDepth 65536 in
set_option maxHeartbeats 40000000 in
theorem rm_lp_4 (l : Launch) (Z : State) (a0 : Array Value) (hw : ∀ d ∈ tables_1, d.before a0 Z = true) (ws : List Jvm.Cond) (us ub : Addr) (kb : ClassId) (c0_ c1_ c2_ zv : Int32) (gv : Value) (h0 : Heap) (n0 : Nat) (Z0 : n0 ≤ h0.size) (Ex0 : Exa Z h0 us "java/lang/String") (Cd0 : Fld Z h0 us "java/lang/String" "coder" "B" (.int (1 : Int32))) (Va0 : Fld Z h0 us "java/lang/String" "value" "[B" (.ref ub)) (A0 : Arv Z h0 ub kb .byte (8 : Int32) [(.int ((c0_ >>> ((0 : Int32) &&& 31)).toInt8.toInt32)), (.int ((c0_ >>> ((8 : Int32) &&& 31)).toInt8.toInt32)), (.int ((c1_ >>> ((0 : Int32) &&& 31)).toInt8.toInt32)), (.int ((c1_ >>> ((8 : Int32) &&& 31)).toInt8.toInt32)), (.int ((c2_ >>> ((0 : Int32) &&& 31)).toInt8.toInt32)), (.int ((c2_ >>> ((8 : Int32) &&& 31)).toInt8.toInt32)), (.int (((256 : Int32) >>> ((0 : Int32) &&& 31)).toInt8.toInt32)), (.int (((256 : Int32) >>> ((8 : Int32) &&& 31)).toInt8.toInt32))] (.int (0 : Int32))) (B0 : own_B9 c0_) (B1 : own_B9 c1_) (B2 : own_B9 c2_) (O0 : Old Z n0 h0) (hzv : ¬ zv = (0 : Int32)) (S0 : Sta Z Z.heap "java/lang/String" "COMPACT_STRINGS" "Z" (.int zv)) (rgv : gv.isRef = true) (G0 : Sta Z Z.heap "jdk/internal/util/Preconditions" "SIOOBE_FORMATTER" "Ljava/util/function/BiFunction;" gv) (Sa : Sta Z Z.heap "java/lang/StringUTF16" "$assertionsDisabled" "Z" (.int (1 : Int32))) (Sh : Sta Z Z.heap "java/lang/StringUTF16" "HI_BYTE_SHIFT" "I" (.int (0 : Int32))) (Sl : Sta Z Z.heap "java/lang/StringUTF16" "LO_BYTE_SHIFT" "I" (.int (8 : Int32))) :
    own_Met l Z (⟨"com/example/compact_transform/compacttransform/tree/StringFootprint", "latin1Prefix", "(Ljava/lang/String;)I"⟩ : MethodName) prog_118_method_4_code 3 (some .int) ws ({ frames := 5, cells := 0, slots := 0, locals := 66 } : Room) #[(.ref us)] h0 (Q_lp_4 Z us ub kb c0_ c1_ c2_ zv gv h0 n0) := by
  refine own_enter (own := "com/example/compact_transform/compacttransform/tree/StringFootprint") (plainFor_of_name pn_1) rfl ?_
  intro p e s m below meth c s₁ hlk hret hx hby hml hown hnm hZ X0 e0
  have N0 := Fr.nil n0
  refine own_cast (ef_lp_4 m us) ?_
  show own_Go _ _ _ _ (s₁.setTop (mkF m 0 #[.val (.ref us), .unset, .unset] []))
  refine own_go (fun t k => XS.aloadN X0.here hx rfl (hb hby d_p118_4_0) rfl rfl k) ?_
  obtain ⟨cq133, kq133, q133a, q133b, q133c⟩ := isOf hZ e0 Ex0
  obtain ⟨_, _, ⟨T133, L133, k133, n133⟩, -, X133, ⟨Lc133, hQ133, l133, y133, z133⟩, st133⟩ := X0.virtualBack hx (y := (⟨"java/lang/String", "length", "()I"⟩ : MethodName)) (z := (⟨"java/lang/String", "length", "()I"⟩ : MethodName)) hown (mvT hZ (w_60 hw)) (mvT hZ (w_61 hw)) (notFace_of_selects (args := #[]) (mvT hZ (w_63 hw))) (mvT hZ (w_63 hw)) (mvT hZ (w_62 hw)) (by decide) (backOf (W := 0) (rm_len l Z a0 hw [] us ub kb (8 : Int32) [(.int ((c0_ >>> ((0 : Int32) &&& 31)).toInt8.toInt32)), (.int ((c0_ >>> ((8 : Int32) &&& 31)).toInt8.toInt32)), (.int ((c1_ >>> ((0 : Int32) &&& 31)).toInt8.toInt32)), (.int ((c1_ >>> ((8 : Int32) &&& 31)).toInt8.toInt32)), (.int ((c2_ >>> ((0 : Int32) &&& 31)).toInt8.toInt32)), (.int ((c2_ >>> ((8 : Int32) &&& 31)).toInt8.toInt32)), (.int (((256 : Int32) >>> ((0 : Int32) &&& 31)).toInt8.toInt32)), (.int (((256 : Int32) >>> ((8 : Int32) &&& 31)).toInt8.toInt32))] (4 : Int32) zv gv h0 n0 Z0 Ex0 Cd0 Va0 A0 (by decide) O0 hzv S0 rgv G0 Sa Sh Sl) hZ (w_64 hw) (w_10 hw) (by decide) (by decide)) q133a q133c (g := (mkF m 1 #[.val (.ref us), .unset, .unset] [(.ref us)])) rfl (by rw [hml]; rfl) (Steps.refl _) (argsL := []) (rest := []) (lenOf pd_9 rfl) rfl (by show 2 * 0 + _ ≤ _; exact Nat.le_of_eq rfl) (hb hby d_p118_4_1) (fun _ _ => ⟨rfl, e0, (by decide : 0 + 0 ≤ _), (by decide : 0 + 0 ≤ _)⟩)
  dsimp only [Pt.U, Pt.locs, Pt.cells, Pt.slots] at X133 l133 y133 z133 st133 hQ133
  subst l133 y133 z133
  obtain ⟨rfl, N133q, e133⟩ := hQ133
  have N133 := Fr.app N0 N133q
  refine own_go (fun t k => st133.trans k) ?_
  refine own_go (fun t k => XS.istoreN X133.here hx rfl (hb hby d_p118_4_4) rfl (l' := #[.val (.ref us), .val (.int (4 : Int32)), .unset]) rfl k) ?_
  refine own_go (fun t k => XS.iconst X133.here hx rfl (hb hby d_p118_4_5) k) ?_
  show own_Go _ _ _ _ (T133.setTop (mkF m 6 #[.val (.ref us), .val (.int (4 : Int32)), .unset] [(.int (0 : Int32))]))
  refine own_go (fun t k => XS.istoreN X133.here hx rfl (hb hby d_p118_4_6) rfl (l' := #[.val (.ref us), .val (.int (4 : Int32)), .val (.int (0 : Int32))]) rfl k) ?_
  refine own_go (fun t k => XS.iloadN X133.here hx rfl (hb hby d_p118_4_7) rfl k) ?_
  refine own_go (fun t k => XS.iloadN X133.here hx rfl (hb hby d_p118_4_8) rfl k) ?_
  show own_Go _ _ _ _ (T133.setTop (mkF m 9 #[.val (.ref us), .val (.int (4 : Int32)), .val (.int (0 : Int32))] [(.int (4 : Int32)), (.int (0 : Int32))]))
  refine own_go (fun t k => XS.icmpNo X133.here hx rfl (hb hby d_p118_4_9) rfl (tlt (by decide : (0 : Int32) < (4 : Int32))).2.1 k) ?_
  refine own_go (fun t k => XS.aloadN X133.here hx rfl (hb hby d_p118_4_12) rfl rfl k) ?_
  refine own_go (fun t k => XS.iloadN X133.here hx rfl (hb hby d_p118_4_13) rfl k) ?_
  obtain ⟨cq134, kq134, q134a, q134b, q134c⟩ := isOf hZ e133 Ex0
  obtain ⟨_, _, ⟨T134, L134, k134, n134⟩, -, X134, ⟨Lc134, hQ134, l134, y134, z134⟩, st134⟩ := X133.virtualBack hx (y := (⟨"java/lang/String", "charAt", "(I)C"⟩ : MethodName)) (z := (⟨"java/lang/String", "charAt", "(I)C"⟩ : MethodName)) hown (mvT hZ (w_70 hw)) (mvT hZ (w_71 hw)) (notFace_of_selects (args := #[]) (mvT hZ (w_73 hw))) (mvT hZ (w_73 hw)) (mvT hZ (w_72 hw)) (by decide) (backOf (W := 0) (rm_ca l Z a0 hw [] us ub kb (8 : Int32) [(.int ((c0_ >>> ((0 : Int32) &&& 31)).toInt8.toInt32)), (.int ((c0_ >>> ((8 : Int32) &&& 31)).toInt8.toInt32)), (.int ((c1_ >>> ((0 : Int32) &&& 31)).toInt8.toInt32)), (.int ((c1_ >>> ((8 : Int32) &&& 31)).toInt8.toInt32)), (.int ((c2_ >>> ((0 : Int32) &&& 31)).toInt8.toInt32)), (.int ((c2_ >>> ((8 : Int32) &&& 31)).toInt8.toInt32)), (.int (((256 : Int32) >>> ((0 : Int32) &&& 31)).toInt8.toInt32)), (.int (((256 : Int32) >>> ((8 : Int32) &&& 31)).toInt8.toInt32))] (0 : Int32) (0 : Int32) (1 : Int32) ((c0_ >>> ((0 : Int32) &&& 31)).toInt8.toInt32) ((c0_ >>> ((8 : Int32) &&& 31)).toInt8.toInt32) c0_ (4 : Int32) zv gv h0 n0 Z0 Ex0 Cd0 Va0 A0 (by decide) (by decide) ⟨by decide, by decide⟩ ⟨by decide, by decide⟩ rfl rfl (own_pair9 B0) (by decide) (by decide) (by decide) (own_nc9 B0) O0 hzv S0 rgv G0 Sa Sh Sl) hZ (w_74 hw) (w_10 hw) (by decide) (by decide)) q134a q134c (g := (mkF m 14 #[.val (.ref us), .val (.int (4 : Int32)), .val (.int (0 : Int32))] [(.int (0 : Int32)), (.ref us)])) rfl (by rw [hml]; rfl) (Steps.refl _) (argsL := [(.int (0 : Int32))]) (rest := []) (lenOf pd_10 rfl) rfl (by show 2 * 0 + _ ≤ _; exact Nat.le_of_eq rfl) (hb hby d_p118_4_14) (fun _ _ => ⟨rfl, e133, (by decide : 0 + 0 ≤ _), (by decide : 0 + 0 ≤ _)⟩)
  dsimp only [Pt.U, Pt.locs, Pt.cells, Pt.slots] at X134 l134 y134 z134 st134 hQ134
  subst l134 y134 z134
  obtain ⟨rfl, N134q, e134⟩ := hQ134
  have N134 := Fr.app N133 N134q
  refine own_go (fun t k => st134.trans k) ?_
  show own_Go _ _ _ _ (T134.setTop (mkF m 17 #[.val (.ref us), .val (.int (4 : Int32)), .val (.int (0 : Int32))] [(.int c0_)]))
  refine own_go (fun t k => XS.sipush X134.here hx rfl (hb hby d_p118_4_17) k) ?_
  by_cases hc135 : (255 : Int32) < c0_
  · show own_Go _ _ _ _ (T134.setTop (mkF m 20 #[.val (.ref us), .val (.int (4 : Int32)), .val (.int (0 : Int32))] [(.int (255 : Int32)), (.int c0_)]))
    refine own_go (fun t k => XS.icmpNo X134.here hx rfl (hb hby d_p118_4_20) rfl (tlt hc135).2.2.2 k) ?_
    refine own_go (fun t k => XS.iloadN X134.here hx rfl (hb hby d_p118_4_23) rfl k) ?_
    show own_Go _ _ _ _ (T134.setTop (mkF m 24 #[.val (.ref us), .val (.int (4 : Int32)), .val (.int (0 : Int32))] [(.int (0 : Int32))]))
    refine own_ret X134 hx hlk hret rfl (Or.inl ⟨rfl, Or.inl rfl, _, rfl⟩) (hb hby d_p118_4_24) ?_ (by decide) (by decide)
    rw [e134]
    exact ⟨by simp [own_p4, hc135], N134, rfl⟩
  · show own_Go _ _ _ _ (T134.setTop (mkF m 20 #[.val (.ref us), .val (.int (4 : Int32)), .val (.int (0 : Int32))] [(.int (255 : Int32)), (.int c0_)]))
    refine own_go (fun t k => XS.icmpYes X134.here hx rfl (pc0 := 20) (pc' := 25) rfl (hb hby d_p118_4_20) rfl (flt hc135).2.2.2 (by decide) (by decide) k) ?_
    refine own_go (fun t k => XS.iinc X134.here hx rfl (hb hby d_p118_4_25) rfl (l' := #[.val (.ref us), .val (.int (4 : Int32)), .val (.int ((0 : Int32) + (1 : Int32)))]) rfl k) ?_
    refine own_go (fun t k => XS.goto X134.here hx rfl (pc0 := 28) (pc' := 7) rfl (hb hby d_p118_4_28) (by decide) (by decide) k) ?_
    refine own_go (fun t k => XS.iloadN X134.here hx rfl (hb hby d_p118_4_7) rfl k) ?_
    show own_Go _ _ _ _ (T134.setTop (mkF m 8 #[.val (.ref us), .val (.int (4 : Int32)), .val (.int (1 : Int32))] [(.int (1 : Int32))]))
    refine own_go (fun t k => XS.iloadN X134.here hx rfl (hb hby d_p118_4_8) rfl k) ?_
    show own_Go _ _ _ _ (T134.setTop (mkF m 9 #[.val (.ref us), .val (.int (4 : Int32)), .val (.int (1 : Int32))] [(.int (4 : Int32)), (.int (1 : Int32))]))
    refine own_go (fun t k => XS.icmpNo X134.here hx rfl (hb hby d_p118_4_9) rfl (tlt (by decide : (1 : Int32) < (4 : Int32))).2.1 k) ?_
    refine own_go (fun t k => XS.aloadN X134.here hx rfl (hb hby d_p118_4_12) rfl rfl k) ?_
    refine own_go (fun t k => XS.iloadN X134.here hx rfl (hb hby d_p118_4_13) rfl k) ?_
    obtain ⟨cq136, kq136, q136a, q136b, q136c⟩ := isOf hZ e134 Ex0
    obtain ⟨_, _, ⟨T136, L136, k136, n136⟩, -, X136, ⟨Lc136, hQ136, l136, y136, z136⟩, st136⟩ := X134.virtualBack hx (y := (⟨"java/lang/String", "charAt", "(I)C"⟩ : MethodName)) (z := (⟨"java/lang/String", "charAt", "(I)C"⟩ : MethodName)) hown (mvT hZ (w_70 hw)) (mvT hZ (w_71 hw)) (notFace_of_selects (args := #[]) (mvT hZ (w_73 hw))) (mvT hZ (w_73 hw)) (mvT hZ (w_72 hw)) (by decide) (backOf (W := 0) (rm_ca l Z a0 hw [] us ub kb (8 : Int32) [(.int ((c0_ >>> ((0 : Int32) &&& 31)).toInt8.toInt32)), (.int ((c0_ >>> ((8 : Int32) &&& 31)).toInt8.toInt32)), (.int ((c1_ >>> ((0 : Int32) &&& 31)).toInt8.toInt32)), (.int ((c1_ >>> ((8 : Int32) &&& 31)).toInt8.toInt32)), (.int ((c2_ >>> ((0 : Int32) &&& 31)).toInt8.toInt32)), (.int ((c2_ >>> ((8 : Int32) &&& 31)).toInt8.toInt32)), (.int (((256 : Int32) >>> ((0 : Int32) &&& 31)).toInt8.toInt32)), (.int (((256 : Int32) >>> ((8 : Int32) &&& 31)).toInt8.toInt32))] (1 : Int32) (2 : Int32) (3 : Int32) ((c1_ >>> ((0 : Int32) &&& 31)).toInt8.toInt32) ((c1_ >>> ((8 : Int32) &&& 31)).toInt8.toInt32) c1_ (4 : Int32) zv gv h0 n0 Z0 Ex0 Cd0 Va0 A0 (by decide) (by decide) ⟨by decide, by decide⟩ ⟨by decide, by decide⟩ rfl rfl (own_pair9 B1) (by decide) (by decide) (by decide) (own_nc9 B1) O0 hzv S0 rgv G0 Sa Sh Sl) hZ (w_74 hw) (w_10 hw) (by decide) (by decide)) q136a q136c (g := (mkF m 14 #[.val (.ref us), .val (.int (4 : Int32)), .val (.int (1 : Int32))] [(.int (1 : Int32)), (.ref us)])) rfl (by rw [hml]; rfl) (Steps.refl _) (argsL := [(.int (1 : Int32))]) (rest := []) (lenOf pd_10 rfl) rfl (by show 2 * 0 + _ ≤ _; exact Nat.le_of_eq rfl) (hb hby d_p118_4_14) (fun _ _ => ⟨rfl, e134, (by decide : 0 + 0 ≤ _), (by decide : 0 + 0 ≤ _)⟩)
    dsimp only [Pt.U, Pt.locs, Pt.cells, Pt.slots] at X136 l136 y136 z136 st136 hQ136
    subst l136 y136 z136
    obtain ⟨rfl, N136q, e136⟩ := hQ136
    have N136 := Fr.app N134 N136q
    refine own_go (fun t k => st136.trans k) ?_
    show own_Go _ _ _ _ (T136.setTop (mkF m 17 #[.val (.ref us), .val (.int (4 : Int32)), .val (.int (1 : Int32))] [(.int c1_)]))
    refine own_go (fun t k => XS.sipush X136.here hx rfl (hb hby d_p118_4_17) k) ?_
    by_cases hc137 : (255 : Int32) < c1_
    · show own_Go _ _ _ _ (T136.setTop (mkF m 20 #[.val (.ref us), .val (.int (4 : Int32)), .val (.int (1 : Int32))] [(.int (255 : Int32)), (.int c1_)]))
      refine own_go (fun t k => XS.icmpNo X136.here hx rfl (hb hby d_p118_4_20) rfl (tlt hc137).2.2.2 k) ?_
      refine own_go (fun t k => XS.iloadN X136.here hx rfl (hb hby d_p118_4_23) rfl k) ?_
      show own_Go _ _ _ _ (T136.setTop (mkF m 24 #[.val (.ref us), .val (.int (4 : Int32)), .val (.int (1 : Int32))] [(.int (1 : Int32))]))
      refine own_ret X136 hx hlk hret rfl (Or.inl ⟨rfl, Or.inl rfl, _, rfl⟩) (hb hby d_p118_4_24) ?_ (by decide) (by decide)
      rw [e136]
      exact ⟨by simp [own_p4, hc135, hc137], N136, rfl⟩
    · show own_Go _ _ _ _ (T136.setTop (mkF m 20 #[.val (.ref us), .val (.int (4 : Int32)), .val (.int (1 : Int32))] [(.int (255 : Int32)), (.int c1_)]))
      refine own_go (fun t k => XS.icmpYes X136.here hx rfl (pc0 := 20) (pc' := 25) rfl (hb hby d_p118_4_20) rfl (flt hc137).2.2.2 (by decide) (by decide) k) ?_
      refine own_go (fun t k => XS.iinc X136.here hx rfl (hb hby d_p118_4_25) rfl (l' := #[.val (.ref us), .val (.int (4 : Int32)), .val (.int ((1 : Int32) + (1 : Int32)))]) rfl k) ?_
      refine own_go (fun t k => XS.goto X136.here hx rfl (pc0 := 28) (pc' := 7) rfl (hb hby d_p118_4_28) (by decide) (by decide) k) ?_
      refine own_go (fun t k => XS.iloadN X136.here hx rfl (hb hby d_p118_4_7) rfl k) ?_
      show own_Go _ _ _ _ (T136.setTop (mkF m 8 #[.val (.ref us), .val (.int (4 : Int32)), .val (.int (2 : Int32))] [(.int (2 : Int32))]))
      refine own_go (fun t k => XS.iloadN X136.here hx rfl (hb hby d_p118_4_8) rfl k) ?_
      show own_Go _ _ _ _ (T136.setTop (mkF m 9 #[.val (.ref us), .val (.int (4 : Int32)), .val (.int (2 : Int32))] [(.int (4 : Int32)), (.int (2 : Int32))]))
      refine own_go (fun t k => XS.icmpNo X136.here hx rfl (hb hby d_p118_4_9) rfl (tlt (by decide : (2 : Int32) < (4 : Int32))).2.1 k) ?_
      refine own_go (fun t k => XS.aloadN X136.here hx rfl (hb hby d_p118_4_12) rfl rfl k) ?_
      refine own_go (fun t k => XS.iloadN X136.here hx rfl (hb hby d_p118_4_13) rfl k) ?_
      obtain ⟨cq138, kq138, q138a, q138b, q138c⟩ := isOf hZ e136 Ex0
      obtain ⟨_, _, ⟨T138, L138, k138, n138⟩, -, X138, ⟨Lc138, hQ138, l138, y138, z138⟩, st138⟩ := X136.virtualBack hx (y := (⟨"java/lang/String", "charAt", "(I)C"⟩ : MethodName)) (z := (⟨"java/lang/String", "charAt", "(I)C"⟩ : MethodName)) hown (mvT hZ (w_70 hw)) (mvT hZ (w_71 hw)) (notFace_of_selects (args := #[]) (mvT hZ (w_73 hw))) (mvT hZ (w_73 hw)) (mvT hZ (w_72 hw)) (by decide) (backOf (W := 0) (rm_ca l Z a0 hw [] us ub kb (8 : Int32) [(.int ((c0_ >>> ((0 : Int32) &&& 31)).toInt8.toInt32)), (.int ((c0_ >>> ((8 : Int32) &&& 31)).toInt8.toInt32)), (.int ((c1_ >>> ((0 : Int32) &&& 31)).toInt8.toInt32)), (.int ((c1_ >>> ((8 : Int32) &&& 31)).toInt8.toInt32)), (.int ((c2_ >>> ((0 : Int32) &&& 31)).toInt8.toInt32)), (.int ((c2_ >>> ((8 : Int32) &&& 31)).toInt8.toInt32)), (.int (((256 : Int32) >>> ((0 : Int32) &&& 31)).toInt8.toInt32)), (.int (((256 : Int32) >>> ((8 : Int32) &&& 31)).toInt8.toInt32))] (2 : Int32) (4 : Int32) (5 : Int32) ((c2_ >>> ((0 : Int32) &&& 31)).toInt8.toInt32) ((c2_ >>> ((8 : Int32) &&& 31)).toInt8.toInt32) c2_ (4 : Int32) zv gv h0 n0 Z0 Ex0 Cd0 Va0 A0 (by decide) (by decide) ⟨by decide, by decide⟩ ⟨by decide, by decide⟩ rfl rfl (own_pair9 B2) (by decide) (by decide) (by decide) (own_nc9 B2) O0 hzv S0 rgv G0 Sa Sh Sl) hZ (w_74 hw) (w_10 hw) (by decide) (by decide)) q138a q138c (g := (mkF m 14 #[.val (.ref us), .val (.int (4 : Int32)), .val (.int (2 : Int32))] [(.int (2 : Int32)), (.ref us)])) rfl (by rw [hml]; rfl) (Steps.refl _) (argsL := [(.int (2 : Int32))]) (rest := []) (lenOf pd_10 rfl) rfl (by show 2 * 0 + _ ≤ _; exact Nat.le_of_eq rfl) (hb hby d_p118_4_14) (fun _ _ => ⟨rfl, e136, (by decide : 0 + 0 ≤ _), (by decide : 0 + 0 ≤ _)⟩)
      dsimp only [Pt.U, Pt.locs, Pt.cells, Pt.slots] at X138 l138 y138 z138 st138 hQ138
      subst l138 y138 z138
      obtain ⟨rfl, N138q, e138⟩ := hQ138
      have N138 := Fr.app N136 N138q
      refine own_go (fun t k => st138.trans k) ?_
      show own_Go _ _ _ _ (T138.setTop (mkF m 17 #[.val (.ref us), .val (.int (4 : Int32)), .val (.int (2 : Int32))] [(.int c2_)]))
      refine own_go (fun t k => XS.sipush X138.here hx rfl (hb hby d_p118_4_17) k) ?_
      by_cases hc139 : (255 : Int32) < c2_
      · show own_Go _ _ _ _ (T138.setTop (mkF m 20 #[.val (.ref us), .val (.int (4 : Int32)), .val (.int (2 : Int32))] [(.int (255 : Int32)), (.int c2_)]))
        refine own_go (fun t k => XS.icmpNo X138.here hx rfl (hb hby d_p118_4_20) rfl (tlt hc139).2.2.2 k) ?_
        refine own_go (fun t k => XS.iloadN X138.here hx rfl (hb hby d_p118_4_23) rfl k) ?_
        show own_Go _ _ _ _ (T138.setTop (mkF m 24 #[.val (.ref us), .val (.int (4 : Int32)), .val (.int (2 : Int32))] [(.int (2 : Int32))]))
        refine own_ret X138 hx hlk hret rfl (Or.inl ⟨rfl, Or.inl rfl, _, rfl⟩) (hb hby d_p118_4_24) ?_ (by decide) (by decide)
        rw [e138]
        exact ⟨by simp [own_p4, hc135, hc137, hc139], N138, rfl⟩
      · show own_Go _ _ _ _ (T138.setTop (mkF m 20 #[.val (.ref us), .val (.int (4 : Int32)), .val (.int (2 : Int32))] [(.int (255 : Int32)), (.int c2_)]))
        refine own_go (fun t k => XS.icmpYes X138.here hx rfl (pc0 := 20) (pc' := 25) rfl (hb hby d_p118_4_20) rfl (flt hc139).2.2.2 (by decide) (by decide) k) ?_
        refine own_go (fun t k => XS.iinc X138.here hx rfl (hb hby d_p118_4_25) rfl (l' := #[.val (.ref us), .val (.int (4 : Int32)), .val (.int ((2 : Int32) + (1 : Int32)))]) rfl k) ?_
        refine own_go (fun t k => XS.goto X138.here hx rfl (pc0 := 28) (pc' := 7) rfl (hb hby d_p118_4_28) (by decide) (by decide) k) ?_
        refine own_go (fun t k => XS.iloadN X138.here hx rfl (hb hby d_p118_4_7) rfl k) ?_
        show own_Go _ _ _ _ (T138.setTop (mkF m 8 #[.val (.ref us), .val (.int (4 : Int32)), .val (.int (3 : Int32))] [(.int (3 : Int32))]))
        refine own_go (fun t k => XS.iloadN X138.here hx rfl (hb hby d_p118_4_8) rfl k) ?_
        show own_Go _ _ _ _ (T138.setTop (mkF m 9 #[.val (.ref us), .val (.int (4 : Int32)), .val (.int (3 : Int32))] [(.int (4 : Int32)), (.int (3 : Int32))]))
        refine own_go (fun t k => XS.icmpNo X138.here hx rfl (hb hby d_p118_4_9) rfl (tlt (by decide : (3 : Int32) < (4 : Int32))).2.1 k) ?_
        refine own_go (fun t k => XS.aloadN X138.here hx rfl (hb hby d_p118_4_12) rfl rfl k) ?_
        refine own_go (fun t k => XS.iloadN X138.here hx rfl (hb hby d_p118_4_13) rfl k) ?_
        obtain ⟨cq140, kq140, q140a, q140b, q140c⟩ := isOf hZ e138 Ex0
        obtain ⟨_, _, ⟨T140, L140, k140, n140⟩, -, X140, ⟨Lc140, hQ140, l140, y140, z140⟩, st140⟩ := X138.virtualBack hx (y := (⟨"java/lang/String", "charAt", "(I)C"⟩ : MethodName)) (z := (⟨"java/lang/String", "charAt", "(I)C"⟩ : MethodName)) hown (mvT hZ (w_70 hw)) (mvT hZ (w_71 hw)) (notFace_of_selects (args := #[]) (mvT hZ (w_73 hw))) (mvT hZ (w_73 hw)) (mvT hZ (w_72 hw)) (by decide) (backOf (W := 0) (rm_ca l Z a0 hw [] us ub kb (8 : Int32) [(.int ((c0_ >>> ((0 : Int32) &&& 31)).toInt8.toInt32)), (.int ((c0_ >>> ((8 : Int32) &&& 31)).toInt8.toInt32)), (.int ((c1_ >>> ((0 : Int32) &&& 31)).toInt8.toInt32)), (.int ((c1_ >>> ((8 : Int32) &&& 31)).toInt8.toInt32)), (.int ((c2_ >>> ((0 : Int32) &&& 31)).toInt8.toInt32)), (.int ((c2_ >>> ((8 : Int32) &&& 31)).toInt8.toInt32)), (.int (((256 : Int32) >>> ((0 : Int32) &&& 31)).toInt8.toInt32)), (.int (((256 : Int32) >>> ((8 : Int32) &&& 31)).toInt8.toInt32))] (3 : Int32) (6 : Int32) (7 : Int32) (((256 : Int32) >>> ((0 : Int32) &&& 31)).toInt8.toInt32) (((256 : Int32) >>> ((8 : Int32) &&& 31)).toInt8.toInt32) (256 : Int32) (4 : Int32) zv gv h0 n0 Z0 Ex0 Cd0 Va0 A0 (by decide) (by decide) ⟨by decide, by decide⟩ ⟨by decide, by decide⟩ rfl rfl (own_pair9 own_B256) (by decide) (by decide) (by decide) (own_nc9 own_B256) O0 hzv S0 rgv G0 Sa Sh Sl) hZ (w_74 hw) (w_10 hw) (by decide) (by decide)) q140a q140c (g := (mkF m 14 #[.val (.ref us), .val (.int (4 : Int32)), .val (.int (3 : Int32))] [(.int (3 : Int32)), (.ref us)])) rfl (by rw [hml]; rfl) (Steps.refl _) (argsL := [(.int (3 : Int32))]) (rest := []) (lenOf pd_10 rfl) rfl (by show 2 * 0 + _ ≤ _; exact Nat.le_of_eq rfl) (hb hby d_p118_4_14) (fun _ _ => ⟨rfl, e138, (by decide : 0 + 0 ≤ _), (by decide : 0 + 0 ≤ _)⟩)
        dsimp only [Pt.U, Pt.locs, Pt.cells, Pt.slots] at X140 l140 y140 z140 st140 hQ140
        subst l140 y140 z140
        obtain ⟨rfl, N140q, e140⟩ := hQ140
        have N140 := Fr.app N138 N140q
        refine own_go (fun t k => st140.trans k) ?_
        show own_Go _ _ _ _ (T140.setTop (mkF m 17 #[.val (.ref us), .val (.int (4 : Int32)), .val (.int (3 : Int32))] [(.int (256 : Int32))]))
        refine own_go (fun t k => XS.sipush X140.here hx rfl (hb hby d_p118_4_17) k) ?_
        show own_Go _ _ _ _ (T140.setTop (mkF m 20 #[.val (.ref us), .val (.int (4 : Int32)), .val (.int (3 : Int32))] [(.int (255 : Int32)), (.int (256 : Int32))]))
        refine own_go (fun t k => XS.icmpNo X140.here hx rfl (hb hby d_p118_4_20) rfl (tlt (by decide : (255 : Int32) < (256 : Int32))).2.2.2 k) ?_
        refine own_go (fun t k => XS.iloadN X140.here hx rfl (hb hby d_p118_4_23) rfl k) ?_
        show own_Go _ _ _ _ (T140.setTop (mkF m 24 #[.val (.ref us), .val (.int (4 : Int32)), .val (.int (3 : Int32))] [(.int (3 : Int32))]))
        refine own_ret X140 hx hlk hret rfl (Or.inl ⟨rfl, Or.inl rfl, _, rfl⟩) (hb hby d_p118_4_24) ?_ (by decide) (by decide)
        rw [e140]
        exact ⟨by simp [own_p4, hc135, hc137, hc139], N140, rfl⟩
def Q_nbl_4 (Z : State)  (h0 : Heap) (n0 : Nat) (v : Option Value) (h : Heap) (L : List Loc) : Prop := v = some (.int (8 : Int32)) ∧ Fr n0 L ∧ h = h0
theorem ef_nbl_4 (m : MethodId)  : entryFrame m #[(.int (4 : Int32))] 1 = mkF m 0 #[.val (.int (4 : Int32))] [] := by first | (simp [entryFrame, mkF, argsToLocals, Value.category]; done) | rfl
theorem d_j52_3_0 : decode jdk_52_method_3_code 0 = .ok (.iload_n 0, 1) := by decide +kernel
theorem d_j52_3_1 : decode jdk_52_method_3_code 1 = .ok (.ifCond .ge 11, 3) := by decide +kernel
theorem d_j52_3_12 : decode jdk_52_method_3_code 12 = .ok (.iload_n 0, 1) := by decide +kernel
theorem w_39 {Z : State} {a0 : Array Value} (hw : ∀ d ∈ tables_1, d.before a0 Z = true) : (Jvm.Cond.constant "java/lang/StringUTF16" (20 : Nat) (1073741823 : Int32)).before a0 Z = true := hw _ (List.mem_of_getElem? (i := 39) rfl)
theorem d_j52_3_13 : decode jdk_52_method_3_code 13 = .ok (.ldc 20, 2) := by decide +kernel
theorem d_j52_3_15 : decode jdk_52_method_3_code 15 = .ok (.if_icmp .lt 40, 3) := by decide +kernel
theorem d_j52_3_55 : decode jdk_52_method_3_code 55 = .ok (.iload_n 0, 1) := by decide +kernel
theorem d_j52_3_56 : decode jdk_52_method_3_code 56 = .ok (.iconst 1, 1) := by decide +kernel
theorem d_j52_3_57 : decode jdk_52_method_3_code 57 = .ok (.ishl, 1) := by decide +kernel
theorem d_j52_3_58 : decode jdk_52_method_3_code 58 = .ok (.ireturn, 1) := by decide +kernel
set_option maxRecDepth 65536 in
set_option maxHeartbeats 40000000 in
theorem rm_nbl_4 (l : Launch) (Z : State) (a0 : Array Value) (hw : ∀ d ∈ tables_1, d.before a0 Z = true) (ws : List Jvm.Cond)  (h0 : Heap) (n0 : Nat) (Z0 : n0 ≤ h0.size) :
    own_Met l Z (⟨"java/lang/StringUTF16", "newBytesLength", "(I)I"⟩ : MethodName) jdk_52_method_3_code 1 (some .int) ws ({ frames := 0, cells := 0, slots := 0, locals := 0 } : Room) #[(.int (4 : Int32))] h0 (Q_nbl_4 Z  h0 n0) := by
  refine own_enter (own := "java/lang/StringUTF16") (plainFor_of_name pn_4) rfl ?_
  intro p e s m below meth c s₁ hlk hret hx hby hml hown hnm hZ X0 e0
  have N0 := Fr.nil n0
  refine own_cast (ef_nbl_4 m ) ?_
  show own_Go _ _ _ _ (s₁.setTop (mkF m 0 #[.val (.int (4 : Int32))] []))
  refine own_go (fun t k => XS.iloadN X0.here hx rfl (hb hby d_j52_3_0) rfl k) ?_
  show own_Go _ _ _ _ (s₁.setTop (mkF m 1 #[.val (.int (4 : Int32))] [(.int (4 : Int32))]))
  refine own_go (fun t k => XS.ifYes X0.here hx rfl (pc0 := 1) (pc' := 12) rfl (hb hby d_j52_3_1) rfl ((if0 _ _).trans (flt (by decide : ¬ ((4 : Int32) < (0 : Int32)))).2.1) (by decide) (by decide) k) ?_
  refine own_go (fun t k => XS.iloadN X0.here hx rfl (hb hby d_j52_3_12) rfl k) ?_
  show own_Go _ _ _ _ (s₁.setTop (mkF m 13 #[.val (.int (4 : Int32))] [(.int (4 : Int32))]))
  refine own_go (X0.ldcInt hx hown (mvT hZ (w_39 hw)) (g := (mkF m 13 #[.val (.int (4 : Int32))] [(.int (4 : Int32))])) rfl (hb hby d_j52_3_13)) ?_
  show own_Go _ _ _ _ (s₁.setTop (mkF m 15 #[.val (.int (4 : Int32))] [(.int (1073741823 : Int32)), (.int (4 : Int32))]))
  refine own_go (fun t k => XS.icmpYes X0.here hx rfl (pc0 := 15) (pc' := 55) rfl (hb hby d_j52_3_15) rfl (tlt (by decide : (4 : Int32) < (1073741823 : Int32))).1 (by decide) (by decide) k) ?_
  refine own_go (fun t k => XS.iloadN X0.here hx rfl (hb hby d_j52_3_55) rfl k) ?_
  refine own_go (fun t k => XS.iconst X0.here hx rfl (hb hby d_j52_3_56) k) ?_
  refine own_go (fun t k => XS.ishl X0.here hx rfl (hb hby d_j52_3_57) rfl k) ?_
  show own_Go _ _ _ _ (s₁.setTop (mkF m 58 #[.val (.int (4 : Int32))] [(.int (8 : Int32))]))
  refine own_ret X0 hx hlk hret rfl (Or.inl ⟨rfl, Or.inl rfl, _, rfl⟩) (hb hby d_j52_3_58) ?_ (by decide) (by decide)
  rw [e0]
  exact ⟨rfl, N0, rfl⟩
def Q_nbf_4 (Z : State)  (h0 : Heap) (n0 : Nat) (v : Option Value) (h : Heap) (L : List Loc) : Prop := ∃ (uy : Addr) (ky : ClassId), v = some (.ref uy) ∧ Fr n0 L ∧ Keep h0 h [] ∧ h0.size ≤ uy ∧ n0 ≤ uy ∧ Arv Z h uy ky .byte (8 : Int32) [(.int (0 : Int32)), (.int (0 : Int32)), (.int (0 : Int32)), (.int (0 : Int32)), (.int (0 : Int32)), (.int (0 : Int32)), (.int (0 : Int32)), (.int (0 : Int32))] (.int (0 : Int32))
theorem ef_nbf_4 (m : MethodId)  : entryFrame m #[(.int (4 : Int32))] 1 = mkF m 0 #[.val (.int (4 : Int32))] [] := by first | (simp [entryFrame, mkF, argsToLocals, Value.category]; done) | rfl
theorem d_j52_2_0 : decode jdk_52_method_2_code 0 = .ok (.iload_n 0, 1) := by decide +kernel
theorem w_36 {Z : State} {a0 : Array Value} (hw : ∀ d ∈ tables_1, d.before a0 Z = true) : (Jvm.Cond.methodLink "java/lang/StringUTF16" (11 : Nat) ({ cls := "java/lang/StringUTF16", name := "newBytesLength", desc := "(I)I" } : Jvm.MethodName)).before a0 Z = true := hw _ (List.mem_of_getElem? (i := 36) rfl)
theorem w_38 {Z : State} {a0 : Array Value} (hw : ∀ d ∈ tables_1, d.before a0 Z = true) : (Jvm.Cond.code ({ cls := "java/lang/StringUTF16", name := "newBytesLength", desc := "(I)I" } : Jvm.MethodName) jdk_52_method_3_code (1 : Nat) (Option.some Jvm.ClassFile.FieldType.int)).before a0 Z = true := hw _ (List.mem_of_getElem? (i := 38) rfl)
theorem pd_11 : parseMethodDescriptor "(I)I" = some ⟨[.int], some .int⟩ := by decide +kernel
theorem d_j52_2_1 : decode jdk_52_method_2_code 1 = .ok (.invokestatic 11, 3) := by decide +kernel
theorem w_37 {Z : State} {a0 : Array Value} (hw : ∀ d ∈ tables_1, d.before a0 Z = true) : (Jvm.Cond.static ({ cls := "java/lang/StringUTF16", name := "newBytesLength", desc := "(I)I" } : Jvm.MethodName)).before a0 Z = true := hw _ (List.mem_of_getElem? (i := 37) rfl)
theorem w_26 {Z : State} {a0 : Array Value} (hw : ∀ d ∈ tables_1, d.before a0 Z = true) : (Jvm.Cond.arrayClass Jvm.ClassFile.FieldType.byte).before a0 Z = true := hw _ (List.mem_of_getElem? (i := 26) rfl)
theorem d_j52_2_4 : decode jdk_52_method_2_code 4 = .ok (.newarray .byte, 2) := by decide +kernel
theorem d_j52_2_6 : decode jdk_52_method_2_code 6 = .ok (.areturn, 1) := by decide +kernel
set_option maxRecDepth 65536 in
set_option maxHeartbeats 40000000 in
theorem rm_nbf_4 (l : Launch) (Z : State) (a0 : Array Value) (hw : ∀ d ∈ tables_1, d.before a0 Z = true) (ws : List Jvm.Cond)  (h0 : Heap) (n0 : Nat) (Z0 : n0 ≤ h0.size) :
    own_Met l Z (⟨"java/lang/StringUTF16", "newBytesFor", "(I)[B"⟩ : MethodName) jdk_52_method_2_code 1 (some (.array .byte)) ws ({ frames := 1, cells := 1, slots := 8, locals := 12 } : Room) #[(.int (4 : Int32))] h0 (Q_nbf_4 Z  h0 n0) := by
  refine own_enter (own := "java/lang/StringUTF16") (plainFor_of_name pn_4) rfl ?_
  intro p e s m below meth c s₁ hlk hret hx hby hml hown hnm hZ X0 e0
  have N0 := Fr.nil n0
  refine own_cast (ef_nbf_4 m ) ?_
  show own_Go _ _ _ _ (s₁.setTop (mkF m 0 #[.val (.int (4 : Int32))] []))
  refine own_go (fun t k => XS.iloadN X0.here hx rfl (hb hby d_j52_2_0) rfl k) ?_
  obtain ⟨_, _, ⟨T141, L141, k141, n141⟩, -, X141, ⟨Lc141, hQ141, l141, y141, z141⟩, st141⟩ := Jvm.LawKit.callS X0 hx (y := (⟨"java/lang/StringUTF16", "newBytesLength", "(I)I"⟩ : MethodName)) hown (mvT hZ (w_36 hw)) (mvT hZ (w_37 hw)) (mvT hZ (w_24 hw)) (mvT hZ (w_38 hw)) (by decide) (backOf (W := 0) (rm_nbl_4 l Z a0 hw []  h0 n0 Z0 ) hZ (w_38 hw) (w_24 hw) (by decide) (by decide)) (g := (mkF m 1 #[.val (.int (4 : Int32))] [(.int (4 : Int32))])) rfl (by rw [hml]; rfl) (argsL := [(.int (4 : Int32))]) (rest := []) (lenOf pd_11 rfl) rfl (by show 2 * 0 + _ ≤ _; exact Nat.le_of_eq rfl) (hb hby d_j52_2_1) (fun _ _ => ⟨rfl, e0, (by decide : 0 + 0 ≤ _), (by decide : 0 + 0 ≤ _)⟩)
  dsimp only [Pt.U, Pt.locs, Pt.cells, Pt.slots] at X141 l141 y141 z141 st141 hQ141
  subst l141 y141 z141
  obtain ⟨rfl, N141q, e141⟩ := hQ141
  have N141 := Fr.app N0 N141q
  refine own_go st141 ?_
  show own_Go _ _ _ _ (T141.setTop (mkF m 4 #[.val (.int (4 : Int32))] [(.int (8 : Int32))]))
  obtain ⟨T142, h142, k142, X142, e142, E142, A142, st142⟩ := newP (aty := .byte) X141 hx hZ (w_26 hw) e141 (n := (8 : Int32)) (rest := []) (g := (mkF m 4 #[.val (.int (4 : Int32))] [(.int (8 : Int32))])) rfl (hb hby d_j52_2_4) rfl (by decide) (cap := 8) (by decide) (by decide) (by decide) (by decide)
  obtain ⟨b142, g142⟩ : ∃ z, z = h0.size := ⟨_, rfl⟩
  rw [← g142] at A142 st142
  refine own_go st142 ?_
  have Z142 : n0 ≤ h142.size := (Nat.le_trans Z0 E142.1)
  have K142 : Keep h0 h142 [] := (Keep.refl h0 []).ext E142
  have lo142 : h0.size ≤ b142 := Nat.le_of_eq g142.symm
  have q142 : n0 ≤ b142 := Nat.le_trans Z0 lo142
  have hi142 : b142 < h142.size := A142.lt
  have V142 : Arv Z h142 b142 k142 .byte (8 : Int32) [(.int (0 : Int32)), (.int (0 : Int32)), (.int (0 : Int32)), (.int (0 : Int32)), (.int (0 : Int32)), (.int (0 : Int32)), (.int (0 : Int32)), (.int (0 : Int32))] (.int (0 : Int32)) := (Arv.new A142 (by decide)).pad (pad_rep [] (.int (0 : Int32)) 8)
  show own_Go _ _ _ _ (T142.setTop (mkF m 6 #[.val (.int (4 : Int32))] [(.ref b142)]))
  refine own_ret X142 hx hlk hret rfl (Or.inr (Or.inr (Or.inr (Or.inr ⟨rfl, rfl, rfl⟩)))) (hb hby d_j52_2_6) ?_ (by decide) (by decide)
  rw [e142]
  exact ⟨b142, k142, rfl, N141, K142, lo142, q142, V142⟩
def Q_pc_4_0 (Z : State) (ub : Addr) (kb : ClassId) (v0_ : Value) (v1_ : Value) (v2_ : Value) (v3_ : Value) (v4_ : Value) (v5_ : Value) (v6_ : Value) (v7_ : Value) (cv : Int32) (zv : Int32) (gv : Value) (h0 : Heap) (n0 : Nat) (v : Option Value) (h : Heap) (L : List Loc) : Prop := v = none ∧ Fr n0 L ∧ Keep h0 h [ub] ∧ Arv Z h ub kb .byte (8 : Int32) [(.int ((cv >>> ((0 : Int32) &&& 31)).toInt8.toInt32)), (.int ((cv >>> ((8 : Int32) &&& 31)).toInt8.toInt32)), v2_, v3_, v4_, v5_, v6_, v7_] (.int (0 : Int32))
theorem ef_pc_4_0 (m : MethodId) (ub : Addr) (cv : Int32) : entryFrame m #[(.ref ub), (.int (0 : Int32)), (.int cv)] 3 = mkF m 0 #[.val (.ref ub), .val (.int (0 : Int32)), .val (.int cv)] [] := by first | (simp [entryFrame, mkF, argsToLocals, Value.category]; done) | rfl
theorem d_j52_4_0 : decode jdk_52_method_4_code 0 = .ok (.getstatic 44, 3) := by decide +kernel
theorem d_j52_4_3 : decode jdk_52_method_4_code 3 = .ok (.ifCond .ne 25, 3) := by decide +kernel
theorem d_j52_4_28 : decode jdk_52_method_4_code 28 = .ok (.iload_n 1, 1) := by decide +kernel
theorem d_j52_4_29 : decode jdk_52_method_4_code 29 = .ok (.iconst 1, 1) := by decide +kernel
theorem d_j52_4_30 : decode jdk_52_method_4_code 30 = .ok (.ishl, 1) := by decide +kernel
theorem d_j52_4_31 : decode jdk_52_method_4_code 31 = .ok (.istore_n 1, 1) := by decide +kernel
theorem d_j52_4_32 : decode jdk_52_method_4_code 32 = .ok (.aload_n 0, 1) := by decide +kernel
theorem d_j52_4_33 : decode jdk_52_method_4_code 33 = .ok (.iload_n 1, 1) := by decide +kernel
theorem d_j52_4_34 : decode jdk_52_method_4_code 34 = .ok (.iinc 1 1, 3) := by decide +kernel
theorem d_j52_4_37 : decode jdk_52_method_4_code 37 = .ok (.iload_n 2, 1) := by decide +kernel
theorem d_j52_4_38 : decode jdk_52_method_4_code 38 = .ok (.getstatic 59, 3) := by decide +kernel
theorem d_j52_4_41 : decode jdk_52_method_4_code 41 = .ok (.ishr, 1) := by decide +kernel
theorem d_j52_4_42 : decode jdk_52_method_4_code 42 = .ok (.i2b, 1) := by decide +kernel
theorem d_j52_4_43 : decode jdk_52_method_4_code 43 = .ok (.bastore, 1) := by decide +kernel
theorem d_j52_4_44 : decode jdk_52_method_4_code 44 = .ok (.aload_n 0, 1) := by decide +kernel
theorem d_j52_4_45 : decode jdk_52_method_4_code 45 = .ok (.iload_n 1, 1) := by decide +kernel
theorem d_j52_4_46 : decode jdk_52_method_4_code 46 = .ok (.iload_n 2, 1) := by decide +kernel
theorem d_j52_4_47 : decode jdk_52_method_4_code 47 = .ok (.getstatic 63, 3) := by decide +kernel
theorem d_j52_4_50 : decode jdk_52_method_4_code 50 = .ok (.ishr, 1) := by decide +kernel
theorem d_j52_4_51 : decode jdk_52_method_4_code 51 = .ok (.i2b, 1) := by decide +kernel
theorem d_j52_4_52 : decode jdk_52_method_4_code 52 = .ok (.bastore, 1) := by decide +kernel
theorem d_j52_4_53 : decode jdk_52_method_4_code 53 = .ok (.return_, 1) := by decide +kernel
set_option maxRecDepth 65536 in
set_option maxHeartbeats 40000000 in
theorem rm_pc_4_0 (l : Launch) (Z : State) (a0 : Array Value) (hw : ∀ d ∈ tables_1, d.before a0 Z = true) (ws : List Jvm.Cond) (ub : Addr) (kb : ClassId) (v0_ v1_ v2_ v3_ v4_ v5_ v6_ v7_ : Value) (cv zv : Int32) (gv : Value) (h0 : Heap) (n0 : Nat) (Z0 : n0 ≤ h0.size) (q0 : n0 ≤ ub) (A0 : Arv Z h0 ub kb .byte (8 : Int32) [v0_, v1_, v2_, v3_, v4_, v5_, v6_, v7_] (.int (0 : Int32))) (O0 : Old Z n0 h0) (hzv : ¬ zv = (0 : Int32)) (S0 : Sta Z Z.heap "java/lang/String" "COMPACT_STRINGS" "Z" (.int zv)) (rgv : gv.isRef = true) (G0 : Sta Z Z.heap "jdk/internal/util/Preconditions" "SIOOBE_FORMATTER" "Ljava/util/function/BiFunction;" gv) (Sa : Sta Z Z.heap "java/lang/StringUTF16" "$assertionsDisabled" "Z" (.int (1 : Int32))) (Sh : Sta Z Z.heap "java/lang/StringUTF16" "HI_BYTE_SHIFT" "I" (.int (0 : Int32))) (Sl : Sta Z Z.heap "java/lang/StringUTF16" "LO_BYTE_SHIFT" "I" (.int (8 : Int32))) :
    own_Met l Z (⟨"java/lang/StringUTF16", "putChar", "([BII)V"⟩ : MethodName) jdk_52_method_4_code 3 none ws ({ frames := 0, cells := 0, slots := 0, locals := 0 } : Room) #[(.ref ub), (.int (0 : Int32)), (.int cv)] h0 (Q_pc_4_0 Z ub kb v0_ v1_ v2_ v3_ v4_ v5_ v6_ v7_ cv zv gv h0 n0) := by
  refine own_enter (own := "java/lang/StringUTF16") (plainFor_of_name pn_4) rfl ?_
  intro p e s m below meth c s₁ hlk hret hx hby hml hown hnm hZ X0 e0
  have N0 := Fr.nil n0
  refine own_cast (ef_pc_4_0 m ub cv) ?_
  show own_Go _ _ _ _ (s₁.setTop (mkF m 0 #[.val (.ref ub), .val (.int (0 : Int32)), .val (.int cv)] []))
  obtain ⟨T143, X143, e143, st143⟩ := getS2 X0 hx hZ hown (host := "") (Or.inl (w_43 hw)) Via.refl e0 (Sa.ext O0.2) (g := (mkF m 0 #[.val (.ref ub), .val (.int (0 : Int32)), .val (.int cv)] [])) rfl (hb hby d_j52_4_0)
  refine own_go st143 ?_
  show own_Go _ _ _ _ (T143.setTop (mkF m 3 #[.val (.ref ub), .val (.int (0 : Int32)), .val (.int cv)] [(.int (1 : Int32))]))
  refine own_go (fun t k => XS.ifYes X143.here hx rfl (pc0 := 3) (pc' := 28) rfl (hb hby d_j52_4_3) rfl ((if0 _ _).trans (feq (by decide : ¬ ((1 : Int32) = (0 : Int32)))).2) (by decide) (by decide) k) ?_
  refine own_go (fun t k => XS.iloadN X143.here hx rfl (hb hby d_j52_4_28) rfl k) ?_
  refine own_go (fun t k => XS.iconst X143.here hx rfl (hb hby d_j52_4_29) k) ?_
  refine own_go (fun t k => XS.ishl X143.here hx rfl (hb hby d_j52_4_30) rfl k) ?_
  show own_Go _ _ _ _ (T143.setTop (mkF m 31 #[.val (.ref ub), .val (.int (0 : Int32)), .val (.int cv)] [(.int (0 : Int32))]))
  refine own_go (fun t k => XS.istoreN X143.here hx rfl (hb hby d_j52_4_31) rfl (l' := #[.val (.ref ub), .val (.int (0 : Int32)), .val (.int cv)]) rfl k) ?_
  refine own_go (fun t k => XS.aloadN X143.here hx rfl (hb hby d_j52_4_32) rfl rfl k) ?_
  refine own_go (fun t k => XS.iloadN X143.here hx rfl (hb hby d_j52_4_33) rfl k) ?_
  refine own_go (fun t k => XS.iinc X143.here hx rfl (hb hby d_j52_4_34) rfl (l' := #[.val (.ref ub), .val (.int ((0 : Int32) + (1 : Int32))), .val (.int cv)]) rfl k) ?_
  show own_Go _ _ _ _ (T143.setTop (mkF m 37 #[.val (.ref ub), .val (.int (1 : Int32)), .val (.int cv)] [(.int (0 : Int32)), (.ref ub)]))
  refine own_go (fun t k => XS.iloadN X143.here hx rfl (hb hby d_j52_4_37) rfl k) ?_
  show own_Go _ _ _ _ (T143.setTop (mkF m 38 #[.val (.ref ub), .val (.int (1 : Int32)), .val (.int cv)] [(.int cv), (.int (0 : Int32)), (.ref ub)]))
  obtain ⟨T144, X144, e144, st144⟩ := getS2 X143 hx hZ hown (host := "") (Or.inl (w_44 hw)) Via.refl e143 (Sh.ext O0.2) (g := (mkF m 38 #[.val (.ref ub), .val (.int (1 : Int32)), .val (.int cv)] [(.int cv), (.int (0 : Int32)), (.ref ub)])) rfl (hb hby d_j52_4_38)
  refine own_go st144 ?_
  refine own_go (fun t k => XS.ishr X144.here hx rfl (hb hby d_j52_4_41) rfl k) ?_
  refine own_go (fun t k => XS.i2b X144.here hx rfl (hb hby d_j52_4_42) rfl k) ?_
  show own_Go _ _ _ _ (T144.setTop (mkF m 43 #[.val (.ref ub), .val (.int (1 : Int32)), .val (.int cv)] [(.int ((cv >>> ((0 : Int32) &&& 31)).toInt8.toInt32)), (.int (0 : Int32)), (.ref ub)]))
  obtain ⟨cl145, Ar145, qk145, sz145, nn145, ha145, gf145⟩ := id A0
  have hin145 : ¬ ((0 : Int32) < 0 ∨ cl145.slots.size ≤ ((0 : Int32)).toNatClampNeg) := inb_of sz145 ⟨by decide, by decide⟩
  obtain ⟨T146, h146, X146, e146, W146, st146⟩ := stB X144 hx hZ e144 Ar145 (j := (0 : Int32)) hin145 (g := (mkF m 43 #[.val (.ref ub), .val (.int (1 : Int32)), .val (.int cv)] [(.int ((cv >>> ((0 : Int32) &&& 31)).toInt8.toInt32)), (.int (0 : Int32)), (.ref ub)])) rfl rfl (hb hby d_j52_4_43)
  refine own_go st146 ?_
  rw [show nar .byte ((cv >>> ((0 : Int32) &&& 31)).toInt8.toInt32) = ((cv >>> ((0 : Int32) &&& 31)).toInt8.toInt32) from own_b8 _] at W146
  have V146 : Arv Z h146 ub kb .byte (8 : Int32) [(.int ((cv >>> ((0 : Int32) &&& 31)).toInt8.toInt32)), v1_, v2_, v3_, v4_, v5_, v6_, v7_] (.int (0 : Int32)) := Arv.set Ar145 qk145 sz145 nn145 ha145 gf145 (fits_nar_byte _) W146 0 rfl (Nat.le_of_ble_eq_true rfl)
  have Z146 : n0 ≤ h146.size := (Nat.le_trans Z0 (Nat.le_of_eq W146.size.symm))
  have N146 := Fr.snoc X146 N0 q0
  have K146 : Keep h0 h146 [ub] := (Keep.refl h0 [ub]).wr W146 (Or.inl (List.mem_of_getElem? (i := 0) rfl))
  refine own_go (fun t k => XS.aloadN X146.here hx rfl (hb hby d_j52_4_44) rfl rfl k) ?_
  refine own_go (fun t k => XS.iloadN X146.here hx rfl (hb hby d_j52_4_45) rfl k) ?_
  refine own_go (fun t k => XS.iloadN X146.here hx rfl (hb hby d_j52_4_46) rfl k) ?_
  show own_Go _ _ _ _ (T146.setTop (mkF m 47 #[.val (.ref ub), .val (.int (1 : Int32)), .val (.int cv)] [(.int cv), (.int (1 : Int32)), (.ref ub)]))
  obtain ⟨T147, X147, e147, st147⟩ := getS2 X146 hx hZ hown (host := "") (Or.inl (w_45 hw)) Via.refl e146 (Sl.ext (O0.wr W146 q0).2) (g := (mkF m 47 #[.val (.ref ub), .val (.int (1 : Int32)), .val (.int cv)] [(.int cv), (.int (1 : Int32)), (.ref ub)])) rfl (hb hby d_j52_4_47)
  refine own_go st147 ?_
  refine own_go (fun t k => XS.ishr X147.here hx rfl (hb hby d_j52_4_50) rfl k) ?_
  refine own_go (fun t k => XS.i2b X147.here hx rfl (hb hby d_j52_4_51) rfl k) ?_
  show own_Go _ _ _ _ (T147.setTop (mkF m 52 #[.val (.ref ub), .val (.int (1 : Int32)), .val (.int cv)] [(.int ((cv >>> ((8 : Int32) &&& 31)).toInt8.toInt32)), (.int (1 : Int32)), (.ref ub)]))
  obtain ⟨cl148, Ar148, qk148, sz148, nn148, ha148, gf148⟩ := id V146
  have hin148 : ¬ ((1 : Int32) < 0 ∨ cl148.slots.size ≤ ((1 : Int32)).toNatClampNeg) := inb_of sz148 ⟨by decide, by decide⟩
  obtain ⟨T149, h149, X149, e149, W149, st149⟩ := stB X147 hx hZ e147 Ar148 (j := (1 : Int32)) hin148 (g := (mkF m 52 #[.val (.ref ub), .val (.int (1 : Int32)), .val (.int cv)] [(.int ((cv >>> ((8 : Int32) &&& 31)).toInt8.toInt32)), (.int (1 : Int32)), (.ref ub)])) rfl rfl (hb hby d_j52_4_52)
  refine own_go st149 ?_
  rw [show nar .byte ((cv >>> ((8 : Int32) &&& 31)).toInt8.toInt32) = ((cv >>> ((8 : Int32) &&& 31)).toInt8.toInt32) from own_b8 _] at W149
  have V149 : Arv Z h149 ub kb .byte (8 : Int32) [(.int ((cv >>> ((0 : Int32) &&& 31)).toInt8.toInt32)), (.int ((cv >>> ((8 : Int32) &&& 31)).toInt8.toInt32)), v2_, v3_, v4_, v5_, v6_, v7_] (.int (0 : Int32)) := Arv.set Ar148 qk148 sz148 nn148 ha148 gf148 (fits_nar_byte _) W149 1 rfl (Nat.le_of_ble_eq_true rfl)
  have Z149 : n0 ≤ h149.size := (Nat.le_trans Z146 (Nat.le_of_eq W149.size.symm))
  have N149 := Fr.snoc X149 N146 q0
  have K149 : Keep h0 h149 [ub] := K146.wr W149 (Or.inl (List.mem_of_getElem? (i := 0) rfl))
  show own_Go _ _ _ _ (T149.setTop (mkF m 53 #[.val (.ref ub), .val (.int (1 : Int32)), .val (.int cv)] []))
  refine own_retV X149 hx hlk hret (hb hby d_j52_4_53) ?_ (by decide) (by decide)
  rw [e149]
  exact ⟨rfl, N149, K149, V149⟩
def Q_pc_4_1 (Z : State) (ub : Addr) (kb : ClassId) (v0_ : Value) (v1_ : Value) (v2_ : Value) (v3_ : Value) (v4_ : Value) (v5_ : Value) (v6_ : Value) (v7_ : Value) (cv : Int32) (zv : Int32) (gv : Value) (h0 : Heap) (n0 : Nat) (v : Option Value) (h : Heap) (L : List Loc) : Prop := v = none ∧ Fr n0 L ∧ Keep h0 h [ub] ∧ Arv Z h ub kb .byte (8 : Int32) [v0_, v1_, (.int ((cv >>> ((0 : Int32) &&& 31)).toInt8.toInt32)), (.int ((cv >>> ((8 : Int32) &&& 31)).toInt8.toInt32)), v4_, v5_, v6_, v7_] (.int (0 : Int32))
theorem ef_pc_4_1 (m : MethodId) (ub : Addr) (cv : Int32) : entryFrame m #[(.ref ub), (.int (1 : Int32)), (.int cv)] 3 = mkF m 0 #[.val (.ref ub), .val (.int (1 : Int32)), .val (.int cv)] [] := by first | (simp [entryFrame, mkF, argsToLocals, Value.category]; done) | rfl
set_option maxRecDepth 65536 in
set_option maxHeartbeats 40000000 in
theorem rm_pc_4_1 (l : Launch) (Z : State) (a0 : Array Value) (hw : ∀ d ∈ tables_1, d.before a0 Z = true) (ws : List Jvm.Cond) (ub : Addr) (kb : ClassId) (v0_ v1_ v2_ v3_ v4_ v5_ v6_ v7_ : Value) (cv zv : Int32) (gv : Value) (h0 : Heap) (n0 : Nat) (Z0 : n0 ≤ h0.size) (q0 : n0 ≤ ub) (A0 : Arv Z h0 ub kb .byte (8 : Int32) [v0_, v1_, v2_, v3_, v4_, v5_, v6_, v7_] (.int (0 : Int32))) (O0 : Old Z n0 h0) (hzv : ¬ zv = (0 : Int32)) (S0 : Sta Z Z.heap "java/lang/String" "COMPACT_STRINGS" "Z" (.int zv)) (rgv : gv.isRef = true) (G0 : Sta Z Z.heap "jdk/internal/util/Preconditions" "SIOOBE_FORMATTER" "Ljava/util/function/BiFunction;" gv) (Sa : Sta Z Z.heap "java/lang/StringUTF16" "$assertionsDisabled" "Z" (.int (1 : Int32))) (Sh : Sta Z Z.heap "java/lang/StringUTF16" "HI_BYTE_SHIFT" "I" (.int (0 : Int32))) (Sl : Sta Z Z.heap "java/lang/StringUTF16" "LO_BYTE_SHIFT" "I" (.int (8 : Int32))) :
    own_Met l Z (⟨"java/lang/StringUTF16", "putChar", "([BII)V"⟩ : MethodName) jdk_52_method_4_code 3 none ws ({ frames := 0, cells := 0, slots := 0, locals := 0 } : Room) #[(.ref ub), (.int (1 : Int32)), (.int cv)] h0 (Q_pc_4_1 Z ub kb v0_ v1_ v2_ v3_ v4_ v5_ v6_ v7_ cv zv gv h0 n0) := by
  refine own_enter (own := "java/lang/StringUTF16") (plainFor_of_name pn_4) rfl ?_
  intro p e s m below meth c s₁ hlk hret hx hby hml hown hnm hZ X0 e0
  have N0 := Fr.nil n0
  refine own_cast (ef_pc_4_1 m ub cv) ?_
  show own_Go _ _ _ _ (s₁.setTop (mkF m 0 #[.val (.ref ub), .val (.int (1 : Int32)), .val (.int cv)] []))
  obtain ⟨T150, X150, e150, st150⟩ := getS2 X0 hx hZ hown (host := "") (Or.inl (w_43 hw)) Via.refl e0 (Sa.ext O0.2) (g := (mkF m 0 #[.val (.ref ub), .val (.int (1 : Int32)), .val (.int cv)] [])) rfl (hb hby d_j52_4_0)
  refine own_go st150 ?_
  show own_Go _ _ _ _ (T150.setTop (mkF m 3 #[.val (.ref ub), .val (.int (1 : Int32)), .val (.int cv)] [(.int (1 : Int32))]))
  refine own_go (fun t k => XS.ifYes X150.here hx rfl (pc0 := 3) (pc' := 28) rfl (hb hby d_j52_4_3) rfl ((if0 _ _).trans (feq (by decide : ¬ ((1 : Int32) = (0 : Int32)))).2) (by decide) (by decide) k) ?_
  refine own_go (fun t k => XS.iloadN X150.here hx rfl (hb hby d_j52_4_28) rfl k) ?_
  refine own_go (fun t k => XS.iconst X150.here hx rfl (hb hby d_j52_4_29) k) ?_
  refine own_go (fun t k => XS.ishl X150.here hx rfl (hb hby d_j52_4_30) rfl k) ?_
  show own_Go _ _ _ _ (T150.setTop (mkF m 31 #[.val (.ref ub), .val (.int (1 : Int32)), .val (.int cv)] [(.int (2 : Int32))]))
  refine own_go (fun t k => XS.istoreN X150.here hx rfl (hb hby d_j52_4_31) rfl (l' := #[.val (.ref ub), .val (.int (2 : Int32)), .val (.int cv)]) rfl k) ?_
  refine own_go (fun t k => XS.aloadN X150.here hx rfl (hb hby d_j52_4_32) rfl rfl k) ?_
  refine own_go (fun t k => XS.iloadN X150.here hx rfl (hb hby d_j52_4_33) rfl k) ?_
  refine own_go (fun t k => XS.iinc X150.here hx rfl (hb hby d_j52_4_34) rfl (l' := #[.val (.ref ub), .val (.int ((2 : Int32) + (1 : Int32))), .val (.int cv)]) rfl k) ?_
  show own_Go _ _ _ _ (T150.setTop (mkF m 37 #[.val (.ref ub), .val (.int (3 : Int32)), .val (.int cv)] [(.int (2 : Int32)), (.ref ub)]))
  refine own_go (fun t k => XS.iloadN X150.here hx rfl (hb hby d_j52_4_37) rfl k) ?_
  show own_Go _ _ _ _ (T150.setTop (mkF m 38 #[.val (.ref ub), .val (.int (3 : Int32)), .val (.int cv)] [(.int cv), (.int (2 : Int32)), (.ref ub)]))
  obtain ⟨T151, X151, e151, st151⟩ := getS2 X150 hx hZ hown (host := "") (Or.inl (w_44 hw)) Via.refl e150 (Sh.ext O0.2) (g := (mkF m 38 #[.val (.ref ub), .val (.int (3 : Int32)), .val (.int cv)] [(.int cv), (.int (2 : Int32)), (.ref ub)])) rfl (hb hby d_j52_4_38)
  refine own_go st151 ?_
  refine own_go (fun t k => XS.ishr X151.here hx rfl (hb hby d_j52_4_41) rfl k) ?_
  refine own_go (fun t k => XS.i2b X151.here hx rfl (hb hby d_j52_4_42) rfl k) ?_
  show own_Go _ _ _ _ (T151.setTop (mkF m 43 #[.val (.ref ub), .val (.int (3 : Int32)), .val (.int cv)] [(.int ((cv >>> ((0 : Int32) &&& 31)).toInt8.toInt32)), (.int (2 : Int32)), (.ref ub)]))
  obtain ⟨cl152, Ar152, qk152, sz152, nn152, ha152, gf152⟩ := id A0
  have hin152 : ¬ ((2 : Int32) < 0 ∨ cl152.slots.size ≤ ((2 : Int32)).toNatClampNeg) := inb_of sz152 ⟨by decide, by decide⟩
  obtain ⟨T153, h153, X153, e153, W153, st153⟩ := stB X151 hx hZ e151 Ar152 (j := (2 : Int32)) hin152 (g := (mkF m 43 #[.val (.ref ub), .val (.int (3 : Int32)), .val (.int cv)] [(.int ((cv >>> ((0 : Int32) &&& 31)).toInt8.toInt32)), (.int (2 : Int32)), (.ref ub)])) rfl rfl (hb hby d_j52_4_43)
  refine own_go st153 ?_
  rw [show nar .byte ((cv >>> ((0 : Int32) &&& 31)).toInt8.toInt32) = ((cv >>> ((0 : Int32) &&& 31)).toInt8.toInt32) from own_b8 _] at W153
  have V153 : Arv Z h153 ub kb .byte (8 : Int32) [v0_, v1_, (.int ((cv >>> ((0 : Int32) &&& 31)).toInt8.toInt32)), v3_, v4_, v5_, v6_, v7_] (.int (0 : Int32)) := Arv.set Ar152 qk152 sz152 nn152 ha152 gf152 (fits_nar_byte _) W153 2 rfl (Nat.le_of_ble_eq_true rfl)
  have Z153 : n0 ≤ h153.size := (Nat.le_trans Z0 (Nat.le_of_eq W153.size.symm))
  have N153 := Fr.snoc X153 N0 q0
  have K153 : Keep h0 h153 [ub] := (Keep.refl h0 [ub]).wr W153 (Or.inl (List.mem_of_getElem? (i := 0) rfl))
  refine own_go (fun t k => XS.aloadN X153.here hx rfl (hb hby d_j52_4_44) rfl rfl k) ?_
  refine own_go (fun t k => XS.iloadN X153.here hx rfl (hb hby d_j52_4_45) rfl k) ?_
  refine own_go (fun t k => XS.iloadN X153.here hx rfl (hb hby d_j52_4_46) rfl k) ?_
  show own_Go _ _ _ _ (T153.setTop (mkF m 47 #[.val (.ref ub), .val (.int (3 : Int32)), .val (.int cv)] [(.int cv), (.int (3 : Int32)), (.ref ub)]))
  obtain ⟨T154, X154, e154, st154⟩ := getS2 X153 hx hZ hown (host := "") (Or.inl (w_45 hw)) Via.refl e153 (Sl.ext (O0.wr W153 q0).2) (g := (mkF m 47 #[.val (.ref ub), .val (.int (3 : Int32)), .val (.int cv)] [(.int cv), (.int (3 : Int32)), (.ref ub)])) rfl (hb hby d_j52_4_47)
  refine own_go st154 ?_
  refine own_go (fun t k => XS.ishr X154.here hx rfl (hb hby d_j52_4_50) rfl k) ?_
  refine own_go (fun t k => XS.i2b X154.here hx rfl (hb hby d_j52_4_51) rfl k) ?_
  show own_Go _ _ _ _ (T154.setTop (mkF m 52 #[.val (.ref ub), .val (.int (3 : Int32)), .val (.int cv)] [(.int ((cv >>> ((8 : Int32) &&& 31)).toInt8.toInt32)), (.int (3 : Int32)), (.ref ub)]))
  obtain ⟨cl155, Ar155, qk155, sz155, nn155, ha155, gf155⟩ := id V153
  have hin155 : ¬ ((3 : Int32) < 0 ∨ cl155.slots.size ≤ ((3 : Int32)).toNatClampNeg) := inb_of sz155 ⟨by decide, by decide⟩
  obtain ⟨T156, h156, X156, e156, W156, st156⟩ := stB X154 hx hZ e154 Ar155 (j := (3 : Int32)) hin155 (g := (mkF m 52 #[.val (.ref ub), .val (.int (3 : Int32)), .val (.int cv)] [(.int ((cv >>> ((8 : Int32) &&& 31)).toInt8.toInt32)), (.int (3 : Int32)), (.ref ub)])) rfl rfl (hb hby d_j52_4_52)
  refine own_go st156 ?_
  rw [show nar .byte ((cv >>> ((8 : Int32) &&& 31)).toInt8.toInt32) = ((cv >>> ((8 : Int32) &&& 31)).toInt8.toInt32) from own_b8 _] at W156
  have V156 : Arv Z h156 ub kb .byte (8 : Int32) [v0_, v1_, (.int ((cv >>> ((0 : Int32) &&& 31)).toInt8.toInt32)), (.int ((cv >>> ((8 : Int32) &&& 31)).toInt8.toInt32)), v4_, v5_, v6_, v7_] (.int (0 : Int32)) := Arv.set Ar155 qk155 sz155 nn155 ha155 gf155 (fits_nar_byte _) W156 3 rfl (Nat.le_of_ble_eq_true rfl)
  have Z156 : n0 ≤ h156.size := (Nat.le_trans Z153 (Nat.le_of_eq W156.size.symm))
  have N156 := Fr.snoc X156 N153 q0
  have K156 : Keep h0 h156 [ub] := K153.wr W156 (Or.inl (List.mem_of_getElem? (i := 0) rfl))
  show own_Go _ _ _ _ (T156.setTop (mkF m 53 #[.val (.ref ub), .val (.int (3 : Int32)), .val (.int cv)] []))
  refine own_retV X156 hx hlk hret (hb hby d_j52_4_53) ?_ (by decide) (by decide)
  rw [e156]
  exact ⟨rfl, N156, K156, V156⟩
def Q_pc_4_2 (Z : State) (ub : Addr) (kb : ClassId) (v0_ : Value) (v1_ : Value) (v2_ : Value) (v3_ : Value) (v4_ : Value) (v5_ : Value) (v6_ : Value) (v7_ : Value) (cv : Int32) (zv : Int32) (gv : Value) (h0 : Heap) (n0 : Nat) (v : Option Value) (h : Heap) (L : List Loc) : Prop := v = none ∧ Fr n0 L ∧ Keep h0 h [ub] ∧ Arv Z h ub kb .byte (8 : Int32) [v0_, v1_, v2_, v3_, (.int ((cv >>> ((0 : Int32) &&& 31)).toInt8.toInt32)), (.int ((cv >>> ((8 : Int32) &&& 31)).toInt8.toInt32)), v6_, v7_] (.int (0 : Int32))
theorem ef_pc_4_2 (m : MethodId) (ub : Addr) (cv : Int32) : entryFrame m #[(.ref ub), (.int (2 : Int32)), (.int cv)] 3 = mkF m 0 #[.val (.ref ub), .val (.int (2 : Int32)), .val (.int cv)] [] := by first | (simp [entryFrame, mkF, argsToLocals, Value.category]; done) | rfl
set_option maxRecDepth 65536 in
set_option maxHeartbeats 40000000 in
theorem rm_pc_4_2 (l : Launch) (Z : State) (a0 : Array Value) (hw : ∀ d ∈ tables_1, d.before a0 Z = true) (ws : List Jvm.Cond) (ub : Addr) (kb : ClassId) (v0_ v1_ v2_ v3_ v4_ v5_ v6_ v7_ : Value) (cv zv : Int32) (gv : Value) (h0 : Heap) (n0 : Nat) (Z0 : n0 ≤ h0.size) (q0 : n0 ≤ ub) (A0 : Arv Z h0 ub kb .byte (8 : Int32) [v0_, v1_, v2_, v3_, v4_, v5_, v6_, v7_] (.int (0 : Int32))) (O0 : Old Z n0 h0) (hzv : ¬ zv = (0 : Int32)) (S0 : Sta Z Z.heap "java/lang/String" "COMPACT_STRINGS" "Z" (.int zv)) (rgv : gv.isRef = true) (G0 : Sta Z Z.heap "jdk/internal/util/Preconditions" "SIOOBE_FORMATTER" "Ljava/util/function/BiFunction;" gv) (Sa : Sta Z Z.heap "java/lang/StringUTF16" "$assertionsDisabled" "Z" (.int (1 : Int32))) (Sh : Sta Z Z.heap "java/lang/StringUTF16" "HI_BYTE_SHIFT" "I" (.int (0 : Int32))) (Sl : Sta Z Z.heap "java/lang/StringUTF16" "LO_BYTE_SHIFT" "I" (.int (8 : Int32))) :
    own_Met l Z (⟨"java/lang/StringUTF16", "putChar", "([BII)V"⟩ : MethodName) jdk_52_method_4_code 3 none ws ({ frames := 0, cells := 0, slots := 0, locals := 0 } : Room) #[(.ref ub), (.int (2 : Int32)), (.int cv)] h0 (Q_pc_4_2 Z ub kb v0_ v1_ v2_ v3_ v4_ v5_ v6_ v7_ cv zv gv h0 n0) := by
  refine own_enter (own := "java/lang/StringUTF16") (plainFor_of_name pn_4) rfl ?_
  intro p e s m below meth c s₁ hlk hret hx hby hml hown hnm hZ X0 e0
  have N0 := Fr.nil n0
  refine own_cast (ef_pc_4_2 m ub cv) ?_
  show own_Go _ _ _ _ (s₁.setTop (mkF m 0 #[.val (.ref ub), .val (.int (2 : Int32)), .val (.int cv)] []))
  obtain ⟨T157, X157, e157, st157⟩ := getS2 X0 hx hZ hown (host := "") (Or.inl (w_43 hw)) Via.refl e0 (Sa.ext O0.2) (g := (mkF m 0 #[.val (.ref ub), .val (.int (2 : Int32)), .val (.int cv)] [])) rfl (hb hby d_j52_4_0)
  refine own_go st157 ?_
  show own_Go _ _ _ _ (T157.setTop (mkF m 3 #[.val (.ref ub), .val (.int (2 : Int32)), .val (.int cv)] [(.int (1 : Int32))]))
  refine own_go (fun t k => XS.ifYes X157.here hx rfl (pc0 := 3) (pc' := 28) rfl (hb hby d_j52_4_3) rfl ((if0 _ _).trans (feq (by decide : ¬ ((1 : Int32) = (0 : Int32)))).2) (by decide) (by decide) k) ?_
  refine own_go (fun t k => XS.iloadN X157.here hx rfl (hb hby d_j52_4_28) rfl k) ?_
  refine own_go (fun t k => XS.iconst X157.here hx rfl (hb hby d_j52_4_29) k) ?_
  refine own_go (fun t k => XS.ishl X157.here hx rfl (hb hby d_j52_4_30) rfl k) ?_
  show own_Go _ _ _ _ (T157.setTop (mkF m 31 #[.val (.ref ub), .val (.int (2 : Int32)), .val (.int cv)] [(.int (4 : Int32))]))
  refine own_go (fun t k => XS.istoreN X157.here hx rfl (hb hby d_j52_4_31) rfl (l' := #[.val (.ref ub), .val (.int (4 : Int32)), .val (.int cv)]) rfl k) ?_
  refine own_go (fun t k => XS.aloadN X157.here hx rfl (hb hby d_j52_4_32) rfl rfl k) ?_
  refine own_go (fun t k => XS.iloadN X157.here hx rfl (hb hby d_j52_4_33) rfl k) ?_
  refine own_go (fun t k => XS.iinc X157.here hx rfl (hb hby d_j52_4_34) rfl (l' := #[.val (.ref ub), .val (.int ((4 : Int32) + (1 : Int32))), .val (.int cv)]) rfl k) ?_
  show own_Go _ _ _ _ (T157.setTop (mkF m 37 #[.val (.ref ub), .val (.int (5 : Int32)), .val (.int cv)] [(.int (4 : Int32)), (.ref ub)]))
  refine own_go (fun t k => XS.iloadN X157.here hx rfl (hb hby d_j52_4_37) rfl k) ?_
  show own_Go _ _ _ _ (T157.setTop (mkF m 38 #[.val (.ref ub), .val (.int (5 : Int32)), .val (.int cv)] [(.int cv), (.int (4 : Int32)), (.ref ub)]))
  obtain ⟨T158, X158, e158, st158⟩ := getS2 X157 hx hZ hown (host := "") (Or.inl (w_44 hw)) Via.refl e157 (Sh.ext O0.2) (g := (mkF m 38 #[.val (.ref ub), .val (.int (5 : Int32)), .val (.int cv)] [(.int cv), (.int (4 : Int32)), (.ref ub)])) rfl (hb hby d_j52_4_38)
  refine own_go st158 ?_
  refine own_go (fun t k => XS.ishr X158.here hx rfl (hb hby d_j52_4_41) rfl k) ?_
  refine own_go (fun t k => XS.i2b X158.here hx rfl (hb hby d_j52_4_42) rfl k) ?_
  show own_Go _ _ _ _ (T158.setTop (mkF m 43 #[.val (.ref ub), .val (.int (5 : Int32)), .val (.int cv)] [(.int ((cv >>> ((0 : Int32) &&& 31)).toInt8.toInt32)), (.int (4 : Int32)), (.ref ub)]))
  obtain ⟨cl159, Ar159, qk159, sz159, nn159, ha159, gf159⟩ := id A0
  have hin159 : ¬ ((4 : Int32) < 0 ∨ cl159.slots.size ≤ ((4 : Int32)).toNatClampNeg) := inb_of sz159 ⟨by decide, by decide⟩
  obtain ⟨T160, h160, X160, e160, W160, st160⟩ := stB X158 hx hZ e158 Ar159 (j := (4 : Int32)) hin159 (g := (mkF m 43 #[.val (.ref ub), .val (.int (5 : Int32)), .val (.int cv)] [(.int ((cv >>> ((0 : Int32) &&& 31)).toInt8.toInt32)), (.int (4 : Int32)), (.ref ub)])) rfl rfl (hb hby d_j52_4_43)
  refine own_go st160 ?_
  rw [show nar .byte ((cv >>> ((0 : Int32) &&& 31)).toInt8.toInt32) = ((cv >>> ((0 : Int32) &&& 31)).toInt8.toInt32) from own_b8 _] at W160
  have V160 : Arv Z h160 ub kb .byte (8 : Int32) [v0_, v1_, v2_, v3_, (.int ((cv >>> ((0 : Int32) &&& 31)).toInt8.toInt32)), v5_, v6_, v7_] (.int (0 : Int32)) := Arv.set Ar159 qk159 sz159 nn159 ha159 gf159 (fits_nar_byte _) W160 4 rfl (Nat.le_of_ble_eq_true rfl)
  have Z160 : n0 ≤ h160.size := (Nat.le_trans Z0 (Nat.le_of_eq W160.size.symm))
  have N160 := Fr.snoc X160 N0 q0
  have K160 : Keep h0 h160 [ub] := (Keep.refl h0 [ub]).wr W160 (Or.inl (List.mem_of_getElem? (i := 0) rfl))
  refine own_go (fun t k => XS.aloadN X160.here hx rfl (hb hby d_j52_4_44) rfl rfl k) ?_
  refine own_go (fun t k => XS.iloadN X160.here hx rfl (hb hby d_j52_4_45) rfl k) ?_
  refine own_go (fun t k => XS.iloadN X160.here hx rfl (hb hby d_j52_4_46) rfl k) ?_
  show own_Go _ _ _ _ (T160.setTop (mkF m 47 #[.val (.ref ub), .val (.int (5 : Int32)), .val (.int cv)] [(.int cv), (.int (5 : Int32)), (.ref ub)]))
  obtain ⟨T161, X161, e161, st161⟩ := getS2 X160 hx hZ hown (host := "") (Or.inl (w_45 hw)) Via.refl e160 (Sl.ext (O0.wr W160 q0).2) (g := (mkF m 47 #[.val (.ref ub), .val (.int (5 : Int32)), .val (.int cv)] [(.int cv), (.int (5 : Int32)), (.ref ub)])) rfl (hb hby d_j52_4_47)
  refine own_go st161 ?_
  refine own_go (fun t k => XS.ishr X161.here hx rfl (hb hby d_j52_4_50) rfl k) ?_
  refine own_go (fun t k => XS.i2b X161.here hx rfl (hb hby d_j52_4_51) rfl k) ?_
  show own_Go _ _ _ _ (T161.setTop (mkF m 52 #[.val (.ref ub), .val (.int (5 : Int32)), .val (.int cv)] [(.int ((cv >>> ((8 : Int32) &&& 31)).toInt8.toInt32)), (.int (5 : Int32)), (.ref ub)]))
  obtain ⟨cl162, Ar162, qk162, sz162, nn162, ha162, gf162⟩ := id V160
  have hin162 : ¬ ((5 : Int32) < 0 ∨ cl162.slots.size ≤ ((5 : Int32)).toNatClampNeg) := inb_of sz162 ⟨by decide, by decide⟩
  obtain ⟨T163, h163, X163, e163, W163, st163⟩ := stB X161 hx hZ e161 Ar162 (j := (5 : Int32)) hin162 (g := (mkF m 52 #[.val (.ref ub), .val (.int (5 : Int32)), .val (.int cv)] [(.int ((cv >>> ((8 : Int32) &&& 31)).toInt8.toInt32)), (.int (5 : Int32)), (.ref ub)])) rfl rfl (hb hby d_j52_4_52)
  refine own_go st163 ?_
  rw [show nar .byte ((cv >>> ((8 : Int32) &&& 31)).toInt8.toInt32) = ((cv >>> ((8 : Int32) &&& 31)).toInt8.toInt32) from own_b8 _] at W163
  have V163 : Arv Z h163 ub kb .byte (8 : Int32) [v0_, v1_, v2_, v3_, (.int ((cv >>> ((0 : Int32) &&& 31)).toInt8.toInt32)), (.int ((cv >>> ((8 : Int32) &&& 31)).toInt8.toInt32)), v6_, v7_] (.int (0 : Int32)) := Arv.set Ar162 qk162 sz162 nn162 ha162 gf162 (fits_nar_byte _) W163 5 rfl (Nat.le_of_ble_eq_true rfl)
  have Z163 : n0 ≤ h163.size := (Nat.le_trans Z160 (Nat.le_of_eq W163.size.symm))
  have N163 := Fr.snoc X163 N160 q0
  have K163 : Keep h0 h163 [ub] := K160.wr W163 (Or.inl (List.mem_of_getElem? (i := 0) rfl))
  show own_Go _ _ _ _ (T163.setTop (mkF m 53 #[.val (.ref ub), .val (.int (5 : Int32)), .val (.int cv)] []))
  refine own_retV X163 hx hlk hret (hb hby d_j52_4_53) ?_ (by decide) (by decide)
  rw [e163]
  exact ⟨rfl, N163, K163, V163⟩
def Q_pc_4_3 (Z : State) (ub : Addr) (kb : ClassId) (v0_ : Value) (v1_ : Value) (v2_ : Value) (v3_ : Value) (v4_ : Value) (v5_ : Value) (v6_ : Value) (v7_ : Value) (cv : Int32) (zv : Int32) (gv : Value) (h0 : Heap) (n0 : Nat) (v : Option Value) (h : Heap) (L : List Loc) : Prop := v = none ∧ Fr n0 L ∧ Keep h0 h [ub] ∧ Arv Z h ub kb .byte (8 : Int32) [v0_, v1_, v2_, v3_, v4_, v5_, (.int ((cv >>> ((0 : Int32) &&& 31)).toInt8.toInt32)), (.int ((cv >>> ((8 : Int32) &&& 31)).toInt8.toInt32))] (.int (0 : Int32))
theorem ef_pc_4_3 (m : MethodId) (ub : Addr) (cv : Int32) : entryFrame m #[(.ref ub), (.int (3 : Int32)), (.int cv)] 3 = mkF m 0 #[.val (.ref ub), .val (.int (3 : Int32)), .val (.int cv)] [] := by first | (simp [entryFrame, mkF, argsToLocals, Value.category]; done) | rfl
set_option maxRecDepth 65536 in
set_option maxHeartbeats 40000000 in
theorem rm_pc_4_3 (l : Launch) (Z : State) (a0 : Array Value) (hw : ∀ d ∈ tables_1, d.before a0 Z = true) (ws : List Jvm.Cond) (ub : Addr) (kb : ClassId) (v0_ v1_ v2_ v3_ v4_ v5_ v6_ v7_ : Value) (cv zv : Int32) (gv : Value) (h0 : Heap) (n0 : Nat) (Z0 : n0 ≤ h0.size) (q0 : n0 ≤ ub) (A0 : Arv Z h0 ub kb .byte (8 : Int32) [v0_, v1_, v2_, v3_, v4_, v5_, v6_, v7_] (.int (0 : Int32))) (O0 : Old Z n0 h0) (hzv : ¬ zv = (0 : Int32)) (S0 : Sta Z Z.heap "java/lang/String" "COMPACT_STRINGS" "Z" (.int zv)) (rgv : gv.isRef = true) (G0 : Sta Z Z.heap "jdk/internal/util/Preconditions" "SIOOBE_FORMATTER" "Ljava/util/function/BiFunction;" gv) (Sa : Sta Z Z.heap "java/lang/StringUTF16" "$assertionsDisabled" "Z" (.int (1 : Int32))) (Sh : Sta Z Z.heap "java/lang/StringUTF16" "HI_BYTE_SHIFT" "I" (.int (0 : Int32))) (Sl : Sta Z Z.heap "java/lang/StringUTF16" "LO_BYTE_SHIFT" "I" (.int (8 : Int32))) :
    own_Met l Z (⟨"java/lang/StringUTF16", "putChar", "([BII)V"⟩ : MethodName) jdk_52_method_4_code 3 none ws ({ frames := 0, cells := 0, slots := 0, locals := 0 } : Room) #[(.ref ub), (.int (3 : Int32)), (.int cv)] h0 (Q_pc_4_3 Z ub kb v0_ v1_ v2_ v3_ v4_ v5_ v6_ v7_ cv zv gv h0 n0) := by
  refine own_enter (own := "java/lang/StringUTF16") (plainFor_of_name pn_4) rfl ?_
  intro p e s m below meth c s₁ hlk hret hx hby hml hown hnm hZ X0 e0
  have N0 := Fr.nil n0
  refine own_cast (ef_pc_4_3 m ub cv) ?_
  show own_Go _ _ _ _ (s₁.setTop (mkF m 0 #[.val (.ref ub), .val (.int (3 : Int32)), .val (.int cv)] []))
  obtain ⟨T164, X164, e164, st164⟩ := getS2 X0 hx hZ hown (host := "") (Or.inl (w_43 hw)) Via.refl e0 (Sa.ext O0.2) (g := (mkF m 0 #[.val (.ref ub), .val (.int (3 : Int32)), .val (.int cv)] [])) rfl (hb hby d_j52_4_0)
  refine own_go st164 ?_
  show own_Go _ _ _ _ (T164.setTop (mkF m 3 #[.val (.ref ub), .val (.int (3 : Int32)), .val (.int cv)] [(.int (1 : Int32))]))
  refine own_go (fun t k => XS.ifYes X164.here hx rfl (pc0 := 3) (pc' := 28) rfl (hb hby d_j52_4_3) rfl ((if0 _ _).trans (feq (by decide : ¬ ((1 : Int32) = (0 : Int32)))).2) (by decide) (by decide) k) ?_
  refine own_go (fun t k => XS.iloadN X164.here hx rfl (hb hby d_j52_4_28) rfl k) ?_
  refine own_go (fun t k => XS.iconst X164.here hx rfl (hb hby d_j52_4_29) k) ?_
  refine own_go (fun t k => XS.ishl X164.here hx rfl (hb hby d_j52_4_30) rfl k) ?_
  show own_Go _ _ _ _ (T164.setTop (mkF m 31 #[.val (.ref ub), .val (.int (3 : Int32)), .val (.int cv)] [(.int (6 : Int32))]))
  refine own_go (fun t k => XS.istoreN X164.here hx rfl (hb hby d_j52_4_31) rfl (l' := #[.val (.ref ub), .val (.int (6 : Int32)), .val (.int cv)]) rfl k) ?_
  refine own_go (fun t k => XS.aloadN X164.here hx rfl (hb hby d_j52_4_32) rfl rfl k) ?_
  refine own_go (fun t k => XS.iloadN X164.here hx rfl (hb hby d_j52_4_33) rfl k) ?_
  refine own_go (fun t k => XS.iinc X164.here hx rfl (hb hby d_j52_4_34) rfl (l' := #[.val (.ref ub), .val (.int ((6 : Int32) + (1 : Int32))), .val (.int cv)]) rfl k) ?_
  show own_Go _ _ _ _ (T164.setTop (mkF m 37 #[.val (.ref ub), .val (.int (7 : Int32)), .val (.int cv)] [(.int (6 : Int32)), (.ref ub)]))
  refine own_go (fun t k => XS.iloadN X164.here hx rfl (hb hby d_j52_4_37) rfl k) ?_
  show own_Go _ _ _ _ (T164.setTop (mkF m 38 #[.val (.ref ub), .val (.int (7 : Int32)), .val (.int cv)] [(.int cv), (.int (6 : Int32)), (.ref ub)]))
  obtain ⟨T165, X165, e165, st165⟩ := getS2 X164 hx hZ hown (host := "") (Or.inl (w_44 hw)) Via.refl e164 (Sh.ext O0.2) (g := (mkF m 38 #[.val (.ref ub), .val (.int (7 : Int32)), .val (.int cv)] [(.int cv), (.int (6 : Int32)), (.ref ub)])) rfl (hb hby d_j52_4_38)
  refine own_go st165 ?_
  refine own_go (fun t k => XS.ishr X165.here hx rfl (hb hby d_j52_4_41) rfl k) ?_
  refine own_go (fun t k => XS.i2b X165.here hx rfl (hb hby d_j52_4_42) rfl k) ?_
  show own_Go _ _ _ _ (T165.setTop (mkF m 43 #[.val (.ref ub), .val (.int (7 : Int32)), .val (.int cv)] [(.int ((cv >>> ((0 : Int32) &&& 31)).toInt8.toInt32)), (.int (6 : Int32)), (.ref ub)]))
  obtain ⟨cl166, Ar166, qk166, sz166, nn166, ha166, gf166⟩ := id A0
  have hin166 : ¬ ((6 : Int32) < 0 ∨ cl166.slots.size ≤ ((6 : Int32)).toNatClampNeg) := inb_of sz166 ⟨by decide, by decide⟩
  obtain ⟨T167, h167, X167, e167, W167, st167⟩ := stB X165 hx hZ e165 Ar166 (j := (6 : Int32)) hin166 (g := (mkF m 43 #[.val (.ref ub), .val (.int (7 : Int32)), .val (.int cv)] [(.int ((cv >>> ((0 : Int32) &&& 31)).toInt8.toInt32)), (.int (6 : Int32)), (.ref ub)])) rfl rfl (hb hby d_j52_4_43)
  refine own_go st167 ?_
  rw [show nar .byte ((cv >>> ((0 : Int32) &&& 31)).toInt8.toInt32) = ((cv >>> ((0 : Int32) &&& 31)).toInt8.toInt32) from own_b8 _] at W167
  have V167 : Arv Z h167 ub kb .byte (8 : Int32) [v0_, v1_, v2_, v3_, v4_, v5_, (.int ((cv >>> ((0 : Int32) &&& 31)).toInt8.toInt32)), v7_] (.int (0 : Int32)) := Arv.set Ar166 qk166 sz166 nn166 ha166 gf166 (fits_nar_byte _) W167 6 rfl (Nat.le_of_ble_eq_true rfl)
  have Z167 : n0 ≤ h167.size := (Nat.le_trans Z0 (Nat.le_of_eq W167.size.symm))
  have N167 := Fr.snoc X167 N0 q0
  have K167 : Keep h0 h167 [ub] := (Keep.refl h0 [ub]).wr W167 (Or.inl (List.mem_of_getElem? (i := 0) rfl))
  refine own_go (fun t k => XS.aloadN X167.here hx rfl (hb hby d_j52_4_44) rfl rfl k) ?_
  refine own_go (fun t k => XS.iloadN X167.here hx rfl (hb hby d_j52_4_45) rfl k) ?_
  refine own_go (fun t k => XS.iloadN X167.here hx rfl (hb hby d_j52_4_46) rfl k) ?_
  show own_Go _ _ _ _ (T167.setTop (mkF m 47 #[.val (.ref ub), .val (.int (7 : Int32)), .val (.int cv)] [(.int cv), (.int (7 : Int32)), (.ref ub)]))
  obtain ⟨T168, X168, e168, st168⟩ := getS2 X167 hx hZ hown (host := "") (Or.inl (w_45 hw)) Via.refl e167 (Sl.ext (O0.wr W167 q0).2) (g := (mkF m 47 #[.val (.ref ub), .val (.int (7 : Int32)), .val (.int cv)] [(.int cv), (.int (7 : Int32)), (.ref ub)])) rfl (hb hby d_j52_4_47)
  refine own_go st168 ?_
  refine own_go (fun t k => XS.ishr X168.here hx rfl (hb hby d_j52_4_50) rfl k) ?_
  refine own_go (fun t k => XS.i2b X168.here hx rfl (hb hby d_j52_4_51) rfl k) ?_
  show own_Go _ _ _ _ (T168.setTop (mkF m 52 #[.val (.ref ub), .val (.int (7 : Int32)), .val (.int cv)] [(.int ((cv >>> ((8 : Int32) &&& 31)).toInt8.toInt32)), (.int (7 : Int32)), (.ref ub)]))
  obtain ⟨cl169, Ar169, qk169, sz169, nn169, ha169, gf169⟩ := id V167
  have hin169 : ¬ ((7 : Int32) < 0 ∨ cl169.slots.size ≤ ((7 : Int32)).toNatClampNeg) := inb_of sz169 ⟨by decide, by decide⟩
  obtain ⟨T170, h170, X170, e170, W170, st170⟩ := stB X168 hx hZ e168 Ar169 (j := (7 : Int32)) hin169 (g := (mkF m 52 #[.val (.ref ub), .val (.int (7 : Int32)), .val (.int cv)] [(.int ((cv >>> ((8 : Int32) &&& 31)).toInt8.toInt32)), (.int (7 : Int32)), (.ref ub)])) rfl rfl (hb hby d_j52_4_52)
  refine own_go st170 ?_
  rw [show nar .byte ((cv >>> ((8 : Int32) &&& 31)).toInt8.toInt32) = ((cv >>> ((8 : Int32) &&& 31)).toInt8.toInt32) from own_b8 _] at W170
  have V170 : Arv Z h170 ub kb .byte (8 : Int32) [v0_, v1_, v2_, v3_, v4_, v5_, (.int ((cv >>> ((0 : Int32) &&& 31)).toInt8.toInt32)), (.int ((cv >>> ((8 : Int32) &&& 31)).toInt8.toInt32))] (.int (0 : Int32)) := Arv.set Ar169 qk169 sz169 nn169 ha169 gf169 (fits_nar_byte _) W170 7 rfl (Nat.le_of_ble_eq_true rfl)
  have Z170 : n0 ≤ h170.size := (Nat.le_trans Z167 (Nat.le_of_eq W170.size.symm))
  have N170 := Fr.snoc X170 N167 q0
  have K170 : Keep h0 h170 [ub] := K167.wr W170 (Or.inl (List.mem_of_getElem? (i := 0) rfl))
  show own_Go _ _ _ _ (T170.setTop (mkF m 53 #[.val (.ref ub), .val (.int (7 : Int32)), .val (.int cv)] []))
  refine own_retV X170 hx hlk hret (hb hby d_j52_4_53) ?_ (by decide) (by decide)
  rw [e170]
  exact ⟨rfl, N170, K170, V170⟩
def Q_tb_4 (Z : State) (ua : Addr) (ka : ClassId) (c0_ : Int32) (c1_ : Int32) (c2_ : Int32) (zv : Int32) (gv : Value) (h0 : Heap) (n0 : Nat) (v : Option Value) (h : Heap) (L : List Loc) : Prop := ∃ (uy : Addr) (ky : ClassId), v = some (.ref uy) ∧ Fr n0 L ∧ Keep h0 h [] ∧ h0.size ≤ uy ∧ n0 ≤ uy ∧ Arv Z h uy ky .byte (8 : Int32) [(.int ((c0_ >>> ((0 : Int32) &&& 31)).toInt8.toInt32)), (.int ((c0_ >>> ((8 : Int32) &&& 31)).toInt8.toInt32)), (.int ((c1_ >>> ((0 : Int32) &&& 31)).toInt8.toInt32)), (.int ((c1_ >>> ((8 : Int32) &&& 31)).toInt8.toInt32)), (.int ((c2_ >>> ((0 : Int32) &&& 31)).toInt8.toInt32)), (.int ((c2_ >>> ((8 : Int32) &&& 31)).toInt8.toInt32)), (.int (((256 : Int32) >>> ((0 : Int32) &&& 31)).toInt8.toInt32)), (.int (((256 : Int32) >>> ((8 : Int32) &&& 31)).toInt8.toInt32))] (.int (0 : Int32))
theorem ef_tb_4 (m : MethodId) (ua : Addr) : entryFrame m #[(.ref ua), (.int (0 : Int32)), (.int (4 : Int32))] 5 = mkF m 0 #[.val (.ref ua), .val (.int (0 : Int32)), .val (.int (4 : Int32)), .unset, .unset] [] := by first | (simp [entryFrame, mkF, argsToLocals, Value.category]; done) | rfl
theorem d_j52_14_0 : decode jdk_52_method_14_code 0 = .ok (.iload_n 2, 1) := by decide +kernel
theorem w_33 {Z : State} {a0 : Array Value} (hw : ∀ d ∈ tables_1, d.before a0 Z = true) : (Jvm.Cond.methodLink "java/lang/StringUTF16" (107 : Nat) ({ cls := "java/lang/StringUTF16", name := "newBytesFor", desc := "(I)[B" } : Jvm.MethodName)).before a0 Z = true := hw _ (List.mem_of_getElem? (i := 33) rfl)
theorem w_35 {Z : State} {a0 : Array Value} (hw : ∀ d ∈ tables_1, d.before a0 Z = true) : (Jvm.Cond.code ({ cls := "java/lang/StringUTF16", name := "newBytesFor", desc := "(I)[B" } : Jvm.MethodName) jdk_52_method_2_code (1 : Nat) (Option.some (Jvm.ClassFile.FieldType.array Jvm.ClassFile.FieldType.byte))).before a0 Z = true := hw _ (List.mem_of_getElem? (i := 35) rfl)
theorem pd_12 : parseMethodDescriptor "(I)[B" = some ⟨[.int], some (.array .byte)⟩ := by decide +kernel
theorem d_j52_14_1 : decode jdk_52_method_14_code 1 = .ok (.invokestatic 107, 3) := by decide +kernel
theorem w_34 {Z : State} {a0 : Array Value} (hw : ∀ d ∈ tables_1, d.before a0 Z = true) : (Jvm.Cond.static ({ cls := "java/lang/StringUTF16", name := "newBytesFor", desc := "(I)[B" } : Jvm.MethodName)).before a0 Z = true := hw _ (List.mem_of_getElem? (i := 34) rfl)
theorem d_j52_14_4 : decode jdk_52_method_14_code 4 = .ok (.astore_n 3, 1) := by decide +kernel
theorem d_j52_14_5 : decode jdk_52_method_14_code 5 = .ok (.iconst 0, 1) := by decide +kernel
theorem d_j52_14_6 : decode jdk_52_method_14_code 6 = .ok (.istore 4, 2) := by decide +kernel
theorem d_j52_14_8 : decode jdk_52_method_14_code 8 = .ok (.iload 4, 2) := by decide +kernel
theorem d_j52_14_10 : decode jdk_52_method_14_code 10 = .ok (.iload_n 2, 1) := by decide +kernel
theorem d_j52_14_11 : decode jdk_52_method_14_code 11 = .ok (.if_icmp .ge 21, 3) := by decide +kernel
theorem d_j52_14_14 : decode jdk_52_method_14_code 14 = .ok (.aload_n 3, 1) := by decide +kernel
theorem d_j52_14_15 : decode jdk_52_method_14_code 15 = .ok (.iload 4, 2) := by decide +kernel
theorem d_j52_14_17 : decode jdk_52_method_14_code 17 = .ok (.aload_n 0, 1) := by decide +kernel
theorem d_j52_14_18 : decode jdk_52_method_14_code 18 = .ok (.iload_n 1, 1) := by decide +kernel
theorem d_j52_14_19 : decode jdk_52_method_14_code 19 = .ok (.caload, 1) := by decide +kernel
theorem w_40 {Z : State} {a0 : Array Value} (hw : ∀ d ∈ tables_1, d.before a0 Z = true) : (Jvm.Cond.methodLink "java/lang/StringUTF16" (111 : Nat) ({ cls := "java/lang/StringUTF16", name := "putChar", desc := "([BII)V" } : Jvm.MethodName)).before a0 Z = true := hw _ (List.mem_of_getElem? (i := 40) rfl)
theorem w_42 {Z : State} {a0 : Array Value} (hw : ∀ d ∈ tables_1, d.before a0 Z = true) : (Jvm.Cond.code ({ cls := "java/lang/StringUTF16", name := "putChar", desc := "([BII)V" } : Jvm.MethodName) jdk_52_method_4_code (3 : Nat) (Option.none : Option Jvm.ClassFile.FieldType)).before a0 Z = true := hw _ (List.mem_of_getElem? (i := 42) rfl)
theorem pd_13 : parseMethodDescriptor "([BII)V" = some ⟨[(.array .byte), .int, .int], none⟩ := by decide +kernel
theorem d_j52_14_20 : decode jdk_52_method_14_code 20 = .ok (.invokestatic 111, 3) := by decide +kernel
theorem w_41 {Z : State} {a0 : Array Value} (hw : ∀ d ∈ tables_1, d.before a0 Z = true) : (Jvm.Cond.static ({ cls := "java/lang/StringUTF16", name := "putChar", desc := "([BII)V" } : Jvm.MethodName)).before a0 Z = true := hw _ (List.mem_of_getElem? (i := 41) rfl)
theorem d_j52_14_23 : decode jdk_52_method_14_code 23 = .ok (.iinc 1 1, 3) := by decide +kernel
theorem d_j52_14_26 : decode jdk_52_method_14_code 26 = .ok (.iinc 4 1, 3) := by decide +kernel
theorem d_j52_14_29 : decode jdk_52_method_14_code 29 = .ok (.goto (-21), 3) := by decide +kernel
theorem d_j52_14_32 : decode jdk_52_method_14_code 32 = .ok (.aload_n 3, 1) := by decide +kernel
theorem d_j52_14_33 : decode jdk_52_method_14_code 33 = .ok (.areturn, 1) := by decide +kernel
set_option maxRecDepth 65536 in
set_option maxHeartbeats 40000000 in
theorem rm_tb_4 (l : Launch) (Z : State) (a0 : Array Value) (hw : ∀ d ∈ tables_1, d.before a0 Z = true) (ws : List Jvm.Cond) (ua : Addr) (ka : ClassId) (c0_ c1_ c2_ zv : Int32) (gv : Value) (h0 : Heap) (n0 : Nat) (Z0 : n0 ≤ h0.size) (Ac : Arv Z h0 ua ka .char (4 : Int32) [(.int c0_), (.int c1_), (.int c2_), (.int (256 : Int32))] (.int (0 : Int32))) (B0 : own_B9 c0_) (B1 : own_B9 c1_) (B2 : own_B9 c2_) (O0 : Old Z n0 h0) (hzv : ¬ zv = (0 : Int32)) (S0 : Sta Z Z.heap "java/lang/String" "COMPACT_STRINGS" "Z" (.int zv)) (rgv : gv.isRef = true) (G0 : Sta Z Z.heap "jdk/internal/util/Preconditions" "SIOOBE_FORMATTER" "Ljava/util/function/BiFunction;" gv) (Sa : Sta Z Z.heap "java/lang/StringUTF16" "$assertionsDisabled" "Z" (.int (1 : Int32))) (Sh : Sta Z Z.heap "java/lang/StringUTF16" "HI_BYTE_SHIFT" "I" (.int (0 : Int32))) (Sl : Sta Z Z.heap "java/lang/StringUTF16" "LO_BYTE_SHIFT" "I" (.int (8 : Int32))) :
    own_Met l Z (⟨"java/lang/StringUTF16", "toBytes", "([CII)[B"⟩ : MethodName) jdk_52_method_14_code 5 (some (.array .byte)) ws ({ frames := 2, cells := 1, slots := 8, locals := 24 } : Room) #[(.ref ua), (.int (0 : Int32)), (.int (4 : Int32))] h0 (Q_tb_4 Z ua ka c0_ c1_ c2_ zv gv h0 n0) := by
  refine own_enter (own := "java/lang/StringUTF16") (plainFor_of_name pn_4) rfl ?_
  intro p e s m below meth c s₁ hlk hret hx hby hml hown hnm hZ X0 e0
  have N0 := Fr.nil n0
  refine own_cast (ef_tb_4 m ua) ?_
  show own_Go _ _ _ _ (s₁.setTop (mkF m 0 #[.val (.ref ua), .val (.int (0 : Int32)), .val (.int (4 : Int32)), .unset, .unset] []))
  refine own_go (fun t k => XS.iloadN X0.here hx rfl (hb hby d_j52_14_0) rfl k) ?_
  obtain ⟨_, _, ⟨T171, L171, k171, n171⟩, -, X171, ⟨Lc171, hQ171, l171, y171, z171⟩, st171⟩ := Jvm.LawKit.callS X0 hx (y := (⟨"java/lang/StringUTF16", "newBytesFor", "(I)[B"⟩ : MethodName)) hown (mvT hZ (w_33 hw)) (mvT hZ (w_34 hw)) (mvT hZ (w_24 hw)) (mvT hZ (w_35 hw)) (by decide) (backOf (W := 0) (rm_nbf_4 l Z a0 hw []  h0 n0 Z0 ) hZ (w_35 hw) (w_24 hw) (by decide) (by decide)) (g := (mkF m 1 #[.val (.ref ua), .val (.int (0 : Int32)), .val (.int (4 : Int32)), .unset, .unset] [(.int (4 : Int32))])) rfl (by rw [hml]; rfl) (argsL := [(.int (4 : Int32))]) (rest := []) (lenOf pd_12 rfl) rfl (by show 2 * 0 + _ ≤ _; exact Nat.le_of_eq rfl) (hb hby d_j52_14_1) (fun _ _ => ⟨rfl, e0, (by decide : 0 + 1 ≤ _), (by decide : 0 + 8 ≤ _)⟩)
  dsimp only [Pt.U, Pt.locs, Pt.cells, Pt.slots] at X171 l171 y171 z171 st171 hQ171
  subst l171 y171 z171
  generalize e171 : T171.heap = h171 at hQ171
  obtain ⟨uy171, ky171, rfl, N171q, K171q, lo171, q171, Ay171⟩ := hQ171
  have N171 := Fr.app N0 N171q
  refine own_go st171 ?_
  have Z171 : n0 ≤ h171.size := (Nat.le_trans Z0 K171q.1)
  have K171 : Keep h0 h171 [] := (Keep.refl h0 []).trans K171q all0
  have hi171 := Ay171.lt
  refine own_go (fun t k => XS.astoreN X171.here hx rfl (hb hby d_j52_14_4) rfl rfl (l' := #[.val (.ref ua), .val (.int (0 : Int32)), .val (.int (4 : Int32)), .val (.ref uy171), .unset]) rfl k) ?_
  refine own_go (fun t k => XS.iconst X171.here hx rfl (hb hby d_j52_14_5) k) ?_
  show own_Go _ _ _ _ (T171.setTop (mkF m 6 #[.val (.ref ua), .val (.int (0 : Int32)), .val (.int (4 : Int32)), .val (.ref uy171), .unset] [(.int (0 : Int32))]))
  refine own_go (fun t k => XS.istore X171.here hx rfl (hb hby d_j52_14_6) rfl (l' := #[.val (.ref ua), .val (.int (0 : Int32)), .val (.int (4 : Int32)), .val (.ref uy171), .val (.int (0 : Int32))]) rfl k) ?_
  refine own_go (fun t k => XS.iload X171.here hx rfl (hb hby d_j52_14_8) rfl k) ?_
  refine own_go (fun t k => XS.iloadN X171.here hx rfl (hb hby d_j52_14_10) rfl k) ?_
  show own_Go _ _ _ _ (T171.setTop (mkF m 11 #[.val (.ref ua), .val (.int (0 : Int32)), .val (.int (4 : Int32)), .val (.ref uy171), .val (.int (0 : Int32))] [(.int (4 : Int32)), (.int (0 : Int32))]))
  refine own_go (fun t k => XS.icmpNo X171.here hx rfl (hb hby d_j52_14_11) rfl (tlt (by decide : (0 : Int32) < (4 : Int32))).2.1 k) ?_
  refine own_go (fun t k => XS.aloadN X171.here hx rfl (hb hby d_j52_14_14) rfl rfl k) ?_
  refine own_go (fun t k => XS.iload X171.here hx rfl (hb hby d_j52_14_15) rfl k) ?_
  refine own_go (fun t k => XS.aloadN X171.here hx rfl (hb hby d_j52_14_17) rfl rfl k) ?_
  show own_Go _ _ _ _ (T171.setTop (mkF m 18 #[.val (.ref ua), .val (.int (0 : Int32)), .val (.int (4 : Int32)), .val (.ref uy171), .val (.int (0 : Int32))] [(.ref ua), (.int (0 : Int32)), (.ref uy171)]))
  refine own_go (fun t k => XS.iloadN X171.here hx rfl (hb hby d_j52_14_18) rfl k) ?_
  show own_Go _ _ _ _ (T171.setTop (mkF m 19 #[.val (.ref ua), .val (.int (0 : Int32)), .val (.int (4 : Int32)), .val (.ref uy171), .val (.int (0 : Int32))] [(.int (0 : Int32)), (.ref ua), (.int (0 : Int32)), (.ref uy171)]))
  obtain ⟨cl172, Ar172, qk172, sz172, nn172, ha172, gf172⟩ := id (Ac.keep K171q nin0)
  have hin172 : ¬ ((0 : Int32) < 0 ∨ cl172.slots.size ≤ ((0 : Int32)).toNatClampNeg) := inb_of sz172 ⟨by decide, by decide⟩
  have hat172 : cl172.slots[((0 : Int32)).toNatClampNeg]? = some (.int c0_) := ha172.at hin172 rfl
  refine own_go (X171.caload hx (j := (0 : Int32)) (v := (.int c0_)) (by rw [e171]; exact Ar172.1) (State.isArrayOf_alike hZ.alike Ar172.2.1) Ar172.2.2 hin172 hat172 (g := (mkF m 19 #[.val (.ref ua), .val (.int (0 : Int32)), .val (.int (4 : Int32)), .val (.ref uy171), .val (.int (0 : Int32))] [(.int (0 : Int32)), (.ref ua), (.int (0 : Int32)), (.ref uy171)])) rfl rfl (hb hby d_j52_14_19)) ?_
  obtain ⟨_, _, ⟨T173, L173, k173, n173⟩, -, X173, ⟨Lc173, hQ173, l173, y173, z173⟩, st173⟩ := Jvm.LawKit.callS X171 hx (y := (⟨"java/lang/StringUTF16", "putChar", "([BII)V"⟩ : MethodName)) hown (mvT hZ (w_40 hw)) (mvT hZ (w_41 hw)) (mvT hZ (w_24 hw)) (mvT hZ (w_42 hw)) (by decide) (backOf (W := 0) (rm_pc_4_0 l Z a0 hw [] uy171 ky171 (.int (0 : Int32)) (.int (0 : Int32)) (.int (0 : Int32)) (.int (0 : Int32)) (.int (0 : Int32)) (.int (0 : Int32)) (.int (0 : Int32)) (.int (0 : Int32)) c0_ zv gv h171 n0 Z171 q171 Ay171 (O0.keep K171q all0) hzv S0 rgv G0 Sa Sh Sl) hZ (w_42 hw) (w_24 hw) (by decide) (by decide)) (g := (mkF m 20 #[.val (.ref ua), .val (.int (0 : Int32)), .val (.int (4 : Int32)), .val (.ref uy171), .val (.int (0 : Int32))] [(.int c0_), (.int (0 : Int32)), (.ref uy171)])) rfl (by rw [hml]; rfl) (argsL := [(.ref uy171), (.int (0 : Int32)), (.int c0_)]) (rest := []) (lenOf pd_13 rfl) rfl (by show 2 * 0 + _ ≤ _; exact Nat.le_of_eq rfl) (hb hby d_j52_14_20) (fun _ _ => ⟨rfl, e171, (by decide : 1 + 0 ≤ _), (by decide : 8 + 0 ≤ _)⟩)
  dsimp only [Pt.U, Pt.locs, Pt.cells, Pt.slots] at X173 l173 y173 z173 st173 hQ173
  subst l173 y173 z173
  generalize e173 : T173.heap = h173 at hQ173
  obtain ⟨rfl, N173q, K173q, Ay173⟩ := hQ173
  have N173 := Fr.app N171 N173q
  refine own_go st173 ?_
  have Z173 : n0 ≤ h173.size := (Nat.le_trans Z171 K173q.1)
  have K173 : Keep h0 h173 [] := K171.trans K173q (allS (Or.inr lo171) all0)
  refine own_go (fun t k => XS.iinc X173.here hx rfl (hb hby d_j52_14_23) rfl (l' := #[.val (.ref ua), .val (.int ((0 : Int32) + (1 : Int32))), .val (.int (4 : Int32)), .val (.ref uy171), .val (.int (0 : Int32))]) rfl k) ?_
  refine own_go (fun t k => XS.iinc X173.here hx rfl (hb hby d_j52_14_26) rfl (l' := #[.val (.ref ua), .val (.int (1 : Int32)), .val (.int (4 : Int32)), .val (.ref uy171), .val (.int ((0 : Int32) + (1 : Int32)))]) rfl k) ?_
  show own_Go _ _ _ _ (T173.setTop (mkF m 29 #[.val (.ref ua), .val (.int (1 : Int32)), .val (.int (4 : Int32)), .val (.ref uy171), .val (.int (1 : Int32))] []))
  refine own_go (fun t k => XS.goto X173.here hx rfl (pc0 := 29) (pc' := 8) rfl (hb hby d_j52_14_29) (by decide) (by decide) k) ?_
  refine own_go (fun t k => XS.iload X173.here hx rfl (hb hby d_j52_14_8) rfl k) ?_
  refine own_go (fun t k => XS.iloadN X173.here hx rfl (hb hby d_j52_14_10) rfl k) ?_
  show own_Go _ _ _ _ (T173.setTop (mkF m 11 #[.val (.ref ua), .val (.int (1 : Int32)), .val (.int (4 : Int32)), .val (.ref uy171), .val (.int (1 : Int32))] [(.int (4 : Int32)), (.int (1 : Int32))]))
  refine own_go (fun t k => XS.icmpNo X173.here hx rfl (hb hby d_j52_14_11) rfl (tlt (by decide : (1 : Int32) < (4 : Int32))).2.1 k) ?_
  refine own_go (fun t k => XS.aloadN X173.here hx rfl (hb hby d_j52_14_14) rfl rfl k) ?_
  refine own_go (fun t k => XS.iload X173.here hx rfl (hb hby d_j52_14_15) rfl k) ?_
  refine own_go (fun t k => XS.aloadN X173.here hx rfl (hb hby d_j52_14_17) rfl rfl k) ?_
  show own_Go _ _ _ _ (T173.setTop (mkF m 18 #[.val (.ref ua), .val (.int (1 : Int32)), .val (.int (4 : Int32)), .val (.ref uy171), .val (.int (1 : Int32))] [(.ref ua), (.int (1 : Int32)), (.ref uy171)]))
  refine own_go (fun t k => XS.iloadN X173.here hx rfl (hb hby d_j52_14_18) rfl k) ?_
  show own_Go _ _ _ _ (T173.setTop (mkF m 19 #[.val (.ref ua), .val (.int (1 : Int32)), .val (.int (4 : Int32)), .val (.ref uy171), .val (.int (1 : Int32))] [(.int (1 : Int32)), (.ref ua), (.int (1 : Int32)), (.ref uy171)]))
  have f174 := ((Ac.keep K171q nin0).keep K173q (ninS (Nat.ne_of_lt (Nat.lt_of_lt_of_le Ac.lt lo171)) nin0))
  obtain ⟨cl175, Ar175, qk175, sz175, nn175, ha175, gf175⟩ := id f174
  have hin175 : ¬ ((1 : Int32) < 0 ∨ cl175.slots.size ≤ ((1 : Int32)).toNatClampNeg) := inb_of sz175 ⟨by decide, by decide⟩
  have hat175 : cl175.slots[((1 : Int32)).toNatClampNeg]? = some (.int c1_) := ha175.at hin175 rfl
  refine own_go (X173.caload hx (j := (1 : Int32)) (v := (.int c1_)) (by rw [e173]; exact Ar175.1) (State.isArrayOf_alike hZ.alike Ar175.2.1) Ar175.2.2 hin175 hat175 (g := (mkF m 19 #[.val (.ref ua), .val (.int (1 : Int32)), .val (.int (4 : Int32)), .val (.ref uy171), .val (.int (1 : Int32))] [(.int (1 : Int32)), (.ref ua), (.int (1 : Int32)), (.ref uy171)])) rfl rfl (hb hby d_j52_14_19)) ?_
  obtain ⟨_, _, ⟨T176, L176, k176, n176⟩, -, X176, ⟨Lc176, hQ176, l176, y176, z176⟩, st176⟩ := Jvm.LawKit.callS X173 hx (y := (⟨"java/lang/StringUTF16", "putChar", "([BII)V"⟩ : MethodName)) hown (mvT hZ (w_40 hw)) (mvT hZ (w_41 hw)) (mvT hZ (w_24 hw)) (mvT hZ (w_42 hw)) (by decide) (backOf (W := 0) (rm_pc_4_1 l Z a0 hw [] uy171 ky171 (.int ((c0_ >>> ((0 : Int32) &&& 31)).toInt8.toInt32)) (.int ((c0_ >>> ((8 : Int32) &&& 31)).toInt8.toInt32)) (.int (0 : Int32)) (.int (0 : Int32)) (.int (0 : Int32)) (.int (0 : Int32)) (.int (0 : Int32)) (.int (0 : Int32)) c1_ zv gv h173 n0 Z173 q171 Ay173 ((O0.keep K171q all0).keep K173q (allS q171 all0)) hzv S0 rgv G0 Sa Sh Sl) hZ (w_42 hw) (w_24 hw) (by decide) (by decide)) (g := (mkF m 20 #[.val (.ref ua), .val (.int (1 : Int32)), .val (.int (4 : Int32)), .val (.ref uy171), .val (.int (1 : Int32))] [(.int c1_), (.int (1 : Int32)), (.ref uy171)])) rfl (by rw [hml]; rfl) (argsL := [(.ref uy171), (.int (1 : Int32)), (.int c1_)]) (rest := []) (lenOf pd_13 rfl) rfl (by show 2 * 0 + _ ≤ _; exact Nat.le_of_eq rfl) (hb hby d_j52_14_20) (fun _ _ => ⟨rfl, e173, (by decide : 1 + 0 ≤ _), (by decide : 8 + 0 ≤ _)⟩)
  dsimp only [Pt.U, Pt.locs, Pt.cells, Pt.slots] at X176 l176 y176 z176 st176 hQ176
  subst l176 y176 z176
  generalize e176 : T176.heap = h176 at hQ176
  obtain ⟨rfl, N176q, K176q, Ay176⟩ := hQ176
  have N176 := Fr.app N173 N176q
  refine own_go st176 ?_
  have Z176 : n0 ≤ h176.size := (Nat.le_trans Z173 K176q.1)
  have K176 : Keep h0 h176 [] := K173.trans K176q (allS (Or.inr lo171) all0)
  refine own_go (fun t k => XS.iinc X176.here hx rfl (hb hby d_j52_14_23) rfl (l' := #[.val (.ref ua), .val (.int ((1 : Int32) + (1 : Int32))), .val (.int (4 : Int32)), .val (.ref uy171), .val (.int (1 : Int32))]) rfl k) ?_
  refine own_go (fun t k => XS.iinc X176.here hx rfl (hb hby d_j52_14_26) rfl (l' := #[.val (.ref ua), .val (.int (2 : Int32)), .val (.int (4 : Int32)), .val (.ref uy171), .val (.int ((1 : Int32) + (1 : Int32)))]) rfl k) ?_
  show own_Go _ _ _ _ (T176.setTop (mkF m 29 #[.val (.ref ua), .val (.int (2 : Int32)), .val (.int (4 : Int32)), .val (.ref uy171), .val (.int (2 : Int32))] []))
  refine own_go (fun t k => XS.goto X176.here hx rfl (pc0 := 29) (pc' := 8) rfl (hb hby d_j52_14_29) (by decide) (by decide) k) ?_
  refine own_go (fun t k => XS.iload X176.here hx rfl (hb hby d_j52_14_8) rfl k) ?_
  refine own_go (fun t k => XS.iloadN X176.here hx rfl (hb hby d_j52_14_10) rfl k) ?_
  show own_Go _ _ _ _ (T176.setTop (mkF m 11 #[.val (.ref ua), .val (.int (2 : Int32)), .val (.int (4 : Int32)), .val (.ref uy171), .val (.int (2 : Int32))] [(.int (4 : Int32)), (.int (2 : Int32))]))
  refine own_go (fun t k => XS.icmpNo X176.here hx rfl (hb hby d_j52_14_11) rfl (tlt (by decide : (2 : Int32) < (4 : Int32))).2.1 k) ?_
  refine own_go (fun t k => XS.aloadN X176.here hx rfl (hb hby d_j52_14_14) rfl rfl k) ?_
  refine own_go (fun t k => XS.iload X176.here hx rfl (hb hby d_j52_14_15) rfl k) ?_
  refine own_go (fun t k => XS.aloadN X176.here hx rfl (hb hby d_j52_14_17) rfl rfl k) ?_
  show own_Go _ _ _ _ (T176.setTop (mkF m 18 #[.val (.ref ua), .val (.int (2 : Int32)), .val (.int (4 : Int32)), .val (.ref uy171), .val (.int (2 : Int32))] [(.ref ua), (.int (2 : Int32)), (.ref uy171)]))
  refine own_go (fun t k => XS.iloadN X176.here hx rfl (hb hby d_j52_14_18) rfl k) ?_
  show own_Go _ _ _ _ (T176.setTop (mkF m 19 #[.val (.ref ua), .val (.int (2 : Int32)), .val (.int (4 : Int32)), .val (.ref uy171), .val (.int (2 : Int32))] [(.int (2 : Int32)), (.ref ua), (.int (2 : Int32)), (.ref uy171)]))
  have f177 := (f174.keep K176q (ninS (Nat.ne_of_lt (Nat.lt_of_lt_of_le Ac.lt lo171)) nin0))
  obtain ⟨cl178, Ar178, qk178, sz178, nn178, ha178, gf178⟩ := id f177
  have hin178 : ¬ ((2 : Int32) < 0 ∨ cl178.slots.size ≤ ((2 : Int32)).toNatClampNeg) := inb_of sz178 ⟨by decide, by decide⟩
  have hat178 : cl178.slots[((2 : Int32)).toNatClampNeg]? = some (.int c2_) := ha178.at hin178 rfl
  refine own_go (X176.caload hx (j := (2 : Int32)) (v := (.int c2_)) (by rw [e176]; exact Ar178.1) (State.isArrayOf_alike hZ.alike Ar178.2.1) Ar178.2.2 hin178 hat178 (g := (mkF m 19 #[.val (.ref ua), .val (.int (2 : Int32)), .val (.int (4 : Int32)), .val (.ref uy171), .val (.int (2 : Int32))] [(.int (2 : Int32)), (.ref ua), (.int (2 : Int32)), (.ref uy171)])) rfl rfl (hb hby d_j52_14_19)) ?_
  have f179 := (((O0.keep K171q all0).keep K173q (allS q171 all0)).keep K176q (allS q171 all0))
  obtain ⟨_, _, ⟨T180, L180, k180, n180⟩, -, X180, ⟨Lc180, hQ180, l180, y180, z180⟩, st180⟩ := Jvm.LawKit.callS X176 hx (y := (⟨"java/lang/StringUTF16", "putChar", "([BII)V"⟩ : MethodName)) hown (mvT hZ (w_40 hw)) (mvT hZ (w_41 hw)) (mvT hZ (w_24 hw)) (mvT hZ (w_42 hw)) (by decide) (backOf (W := 0) (rm_pc_4_2 l Z a0 hw [] uy171 ky171 (.int ((c0_ >>> ((0 : Int32) &&& 31)).toInt8.toInt32)) (.int ((c0_ >>> ((8 : Int32) &&& 31)).toInt8.toInt32)) (.int ((c1_ >>> ((0 : Int32) &&& 31)).toInt8.toInt32)) (.int ((c1_ >>> ((8 : Int32) &&& 31)).toInt8.toInt32)) (.int (0 : Int32)) (.int (0 : Int32)) (.int (0 : Int32)) (.int (0 : Int32)) c2_ zv gv h176 n0 Z176 q171 Ay176 f179 hzv S0 rgv G0 Sa Sh Sl) hZ (w_42 hw) (w_24 hw) (by decide) (by decide)) (g := (mkF m 20 #[.val (.ref ua), .val (.int (2 : Int32)), .val (.int (4 : Int32)), .val (.ref uy171), .val (.int (2 : Int32))] [(.int c2_), (.int (2 : Int32)), (.ref uy171)])) rfl (by rw [hml]; rfl) (argsL := [(.ref uy171), (.int (2 : Int32)), (.int c2_)]) (rest := []) (lenOf pd_13 rfl) rfl (by show 2 * 0 + _ ≤ _; exact Nat.le_of_eq rfl) (hb hby d_j52_14_20) (fun _ _ => ⟨rfl, e176, (by decide : 1 + 0 ≤ _), (by decide : 8 + 0 ≤ _)⟩)
  dsimp only [Pt.U, Pt.locs, Pt.cells, Pt.slots] at X180 l180 y180 z180 st180 hQ180
  subst l180 y180 z180
  generalize e180 : T180.heap = h180 at hQ180
  obtain ⟨rfl, N180q, K180q, Ay180⟩ := hQ180
  have N180 := Fr.app N176 N180q
  refine own_go st180 ?_
  have Z180 : n0 ≤ h180.size := (Nat.le_trans Z176 K180q.1)
  have K180 : Keep h0 h180 [] := K176.trans K180q (allS (Or.inr lo171) all0)
  refine own_go (fun t k => XS.iinc X180.here hx rfl (hb hby d_j52_14_23) rfl (l' := #[.val (.ref ua), .val (.int ((2 : Int32) + (1 : Int32))), .val (.int (4 : Int32)), .val (.ref uy171), .val (.int (2 : Int32))]) rfl k) ?_
  refine own_go (fun t k => XS.iinc X180.here hx rfl (hb hby d_j52_14_26) rfl (l' := #[.val (.ref ua), .val (.int (3 : Int32)), .val (.int (4 : Int32)), .val (.ref uy171), .val (.int ((2 : Int32) + (1 : Int32)))]) rfl k) ?_
  show own_Go _ _ _ _ (T180.setTop (mkF m 29 #[.val (.ref ua), .val (.int (3 : Int32)), .val (.int (4 : Int32)), .val (.ref uy171), .val (.int (3 : Int32))] []))
  refine own_go (fun t k => XS.goto X180.here hx rfl (pc0 := 29) (pc' := 8) rfl (hb hby d_j52_14_29) (by decide) (by decide) k) ?_
  refine own_go (fun t k => XS.iload X180.here hx rfl (hb hby d_j52_14_8) rfl k) ?_
  refine own_go (fun t k => XS.iloadN X180.here hx rfl (hb hby d_j52_14_10) rfl k) ?_
  show own_Go _ _ _ _ (T180.setTop (mkF m 11 #[.val (.ref ua), .val (.int (3 : Int32)), .val (.int (4 : Int32)), .val (.ref uy171), .val (.int (3 : Int32))] [(.int (4 : Int32)), (.int (3 : Int32))]))
  refine own_go (fun t k => XS.icmpNo X180.here hx rfl (hb hby d_j52_14_11) rfl (tlt (by decide : (3 : Int32) < (4 : Int32))).2.1 k) ?_
  refine own_go (fun t k => XS.aloadN X180.here hx rfl (hb hby d_j52_14_14) rfl rfl k) ?_
  refine own_go (fun t k => XS.iload X180.here hx rfl (hb hby d_j52_14_15) rfl k) ?_
  refine own_go (fun t k => XS.aloadN X180.here hx rfl (hb hby d_j52_14_17) rfl rfl k) ?_
  show own_Go _ _ _ _ (T180.setTop (mkF m 18 #[.val (.ref ua), .val (.int (3 : Int32)), .val (.int (4 : Int32)), .val (.ref uy171), .val (.int (3 : Int32))] [(.ref ua), (.int (3 : Int32)), (.ref uy171)]))
  refine own_go (fun t k => XS.iloadN X180.here hx rfl (hb hby d_j52_14_18) rfl k) ?_
  show own_Go _ _ _ _ (T180.setTop (mkF m 19 #[.val (.ref ua), .val (.int (3 : Int32)), .val (.int (4 : Int32)), .val (.ref uy171), .val (.int (3 : Int32))] [(.int (3 : Int32)), (.ref ua), (.int (3 : Int32)), (.ref uy171)]))
  have f181 := (f177.keep K180q (ninS (Nat.ne_of_lt (Nat.lt_of_lt_of_le Ac.lt lo171)) nin0))
  obtain ⟨cl182, Ar182, qk182, sz182, nn182, ha182, gf182⟩ := id f181
  have hin182 : ¬ ((3 : Int32) < 0 ∨ cl182.slots.size ≤ ((3 : Int32)).toNatClampNeg) := inb_of sz182 ⟨by decide, by decide⟩
  have hat182 : cl182.slots[((3 : Int32)).toNatClampNeg]? = some (.int (256 : Int32)) := ha182.at hin182 rfl
  refine own_go (X180.caload hx (j := (3 : Int32)) (v := (.int (256 : Int32))) (by rw [e180]; exact Ar182.1) (State.isArrayOf_alike hZ.alike Ar182.2.1) Ar182.2.2 hin182 hat182 (g := (mkF m 19 #[.val (.ref ua), .val (.int (3 : Int32)), .val (.int (4 : Int32)), .val (.ref uy171), .val (.int (3 : Int32))] [(.int (3 : Int32)), (.ref ua), (.int (3 : Int32)), (.ref uy171)])) rfl rfl (hb hby d_j52_14_19)) ?_
  obtain ⟨_, _, ⟨T183, L183, k183, n183⟩, -, X183, ⟨Lc183, hQ183, l183, y183, z183⟩, st183⟩ := Jvm.LawKit.callS X180 hx (y := (⟨"java/lang/StringUTF16", "putChar", "([BII)V"⟩ : MethodName)) hown (mvT hZ (w_40 hw)) (mvT hZ (w_41 hw)) (mvT hZ (w_24 hw)) (mvT hZ (w_42 hw)) (by decide) (backOf (W := 0) (rm_pc_4_3 l Z a0 hw [] uy171 ky171 (.int ((c0_ >>> ((0 : Int32) &&& 31)).toInt8.toInt32)) (.int ((c0_ >>> ((8 : Int32) &&& 31)).toInt8.toInt32)) (.int ((c1_ >>> ((0 : Int32) &&& 31)).toInt8.toInt32)) (.int ((c1_ >>> ((8 : Int32) &&& 31)).toInt8.toInt32)) (.int ((c2_ >>> ((0 : Int32) &&& 31)).toInt8.toInt32)) (.int ((c2_ >>> ((8 : Int32) &&& 31)).toInt8.toInt32)) (.int (0 : Int32)) (.int (0 : Int32)) (256 : Int32) zv gv h180 n0 Z180 q171 Ay180 (f179.keep K180q (allS q171 all0)) hzv S0 rgv G0 Sa Sh Sl) hZ (w_42 hw) (w_24 hw) (by decide) (by decide)) (g := (mkF m 20 #[.val (.ref ua), .val (.int (3 : Int32)), .val (.int (4 : Int32)), .val (.ref uy171), .val (.int (3 : Int32))] [(.int (256 : Int32)), (.int (3 : Int32)), (.ref uy171)])) rfl (by rw [hml]; rfl) (argsL := [(.ref uy171), (.int (3 : Int32)), (.int (256 : Int32))]) (rest := []) (lenOf pd_13 rfl) rfl (by show 2 * 0 + _ ≤ _; exact Nat.le_of_eq rfl) (hb hby d_j52_14_20) (fun _ _ => ⟨rfl, e180, (by decide : 1 + 0 ≤ _), (by decide : 8 + 0 ≤ _)⟩)
  dsimp only [Pt.U, Pt.locs, Pt.cells, Pt.slots] at X183 l183 y183 z183 st183 hQ183
  subst l183 y183 z183
  generalize e183 : T183.heap = h183 at hQ183
  obtain ⟨rfl, N183q, K183q, Ay183⟩ := hQ183
  have N183 := Fr.app N180 N183q
  refine own_go st183 ?_
  have Z183 : n0 ≤ h183.size := (Nat.le_trans Z180 K183q.1)
  have K183 : Keep h0 h183 [] := K180.trans K183q (allS (Or.inr lo171) all0)
  refine own_go (fun t k => XS.iinc X183.here hx rfl (hb hby d_j52_14_23) rfl (l' := #[.val (.ref ua), .val (.int ((3 : Int32) + (1 : Int32))), .val (.int (4 : Int32)), .val (.ref uy171), .val (.int (3 : Int32))]) rfl k) ?_
  refine own_go (fun t k => XS.iinc X183.here hx rfl (hb hby d_j52_14_26) rfl (l' := #[.val (.ref ua), .val (.int (4 : Int32)), .val (.int (4 : Int32)), .val (.ref uy171), .val (.int ((3 : Int32) + (1 : Int32)))]) rfl k) ?_
  show own_Go _ _ _ _ (T183.setTop (mkF m 29 #[.val (.ref ua), .val (.int (4 : Int32)), .val (.int (4 : Int32)), .val (.ref uy171), .val (.int (4 : Int32))] []))
  refine own_go (fun t k => XS.goto X183.here hx rfl (pc0 := 29) (pc' := 8) rfl (hb hby d_j52_14_29) (by decide) (by decide) k) ?_
  refine own_go (fun t k => XS.iload X183.here hx rfl (hb hby d_j52_14_8) rfl k) ?_
  refine own_go (fun t k => XS.iloadN X183.here hx rfl (hb hby d_j52_14_10) rfl k) ?_
  show own_Go _ _ _ _ (T183.setTop (mkF m 11 #[.val (.ref ua), .val (.int (4 : Int32)), .val (.int (4 : Int32)), .val (.ref uy171), .val (.int (4 : Int32))] [(.int (4 : Int32)), (.int (4 : Int32))]))
  refine own_go (fun t k => XS.icmpYes X183.here hx rfl (pc0 := 11) (pc' := 32) rfl (hb hby d_j52_14_11) rfl (flt (by decide : ¬ ((4 : Int32) < (4 : Int32)))).2.1 (by decide) (by decide) k) ?_
  refine own_go (fun t k => XS.aloadN X183.here hx rfl (hb hby d_j52_14_32) rfl rfl k) ?_
  show own_Go _ _ _ _ (T183.setTop (mkF m 33 #[.val (.ref ua), .val (.int (4 : Int32)), .val (.int (4 : Int32)), .val (.ref uy171), .val (.int (4 : Int32))] [(.ref uy171)]))
  refine own_ret X183 hx hlk hret rfl (Or.inr (Or.inr (Or.inr (Or.inr ⟨rfl, rfl, rfl⟩)))) (hb hby d_j52_14_33) ?_ (by decide) (by decide)
  rw [e183]
  exact ⟨uy171, ky171, rfl, N183, K183, lo171, q171, Ay183⟩
def Q_k5_4 (Z : State) (ua : Addr) (ka : ClassId) (ub : Addr) (kb : ClassId) (c0_ : Int32) (c1_ : Int32) (c2_ : Int32) (zv : Int32) (gv : Value) (h0 : Heap) (n0 : Nat) (v : Option Value) (h : Heap) (L : List Loc) : Prop := ∃ kv : Int32, v = some (.int kv) ∧ Fr n0 L ∧ Keep h0 h [ub] ∧ ((kv = 0 ∧ (255 : Int32) < c0_) ∨ (kv = 1 ∧ (255 : Int32) < c1_) ∨ (kv = 2 ∧ (255 : Int32) < c2_) ∨ (kv = 3 ∧ (255 : Int32) < (256 : Int32)))
theorem ef_k5_4 (m : MethodId) (ua : Addr) (ub : Addr) : entryFrame m #[(.ref ua), (.int (0 : Int32)), (.ref ub), (.int (0 : Int32)), (.int (4 : Int32))] 7 = mkF m 0 #[.val (.ref ua), .val (.int (0 : Int32)), .val (.ref ub), .val (.int (0 : Int32)), .val (.int (4 : Int32)), .unset, .unset] [] := by first | (simp [entryFrame, mkF, argsToLocals, Value.category]; done) | rfl
theorem d_j52_21_0 : decode jdk_52_method_21_code 0 = .ok (.iconst 0, 1) := by decide +kernel
theorem d_j52_21_1 : decode jdk_52_method_21_code 1 = .ok (.istore 5, 2) := by decide +kernel
theorem d_j52_21_3 : decode jdk_52_method_21_code 3 = .ok (.iload 5, 2) := by decide +kernel
theorem d_j52_21_5 : decode jdk_52_method_21_code 5 = .ok (.iload 4, 2) := by decide +kernel
theorem d_j52_21_7 : decode jdk_52_method_21_code 7 = .ok (.if_icmp .ge 37, 3) := by decide +kernel
theorem d_j52_21_10 : decode jdk_52_method_21_code 10 = .ok (.aload_n 0, 1) := by decide +kernel
theorem d_j52_21_11 : decode jdk_52_method_21_code 11 = .ok (.iload_n 1, 1) := by decide +kernel
theorem d_j52_21_12 : decode jdk_52_method_21_code 12 = .ok (.caload, 1) := by decide +kernel
theorem d_j52_21_13 : decode jdk_52_method_21_code 13 = .ok (.istore 6, 2) := by decide +kernel
theorem d_j52_21_15 : decode jdk_52_method_21_code 15 = .ok (.iload 6, 2) := by decide +kernel
theorem d_j52_21_17 : decode jdk_52_method_21_code 17 = .ok (.sipush 255, 3) := by decide +kernel
theorem d_j52_21_20 : decode jdk_52_method_21_code 20 = .ok (.if_icmp .le 6, 3) := by decide +kernel
theorem d_j52_21_23 : decode jdk_52_method_21_code 23 = .ok (.iload 5, 2) := by decide +kernel
theorem d_j52_21_25 : decode jdk_52_method_21_code 25 = .ok (.ireturn, 1) := by decide +kernel
theorem d_j52_21_26 : decode jdk_52_method_21_code 26 = .ok (.aload_n 2, 1) := by decide +kernel
theorem d_j52_21_27 : decode jdk_52_method_21_code 27 = .ok (.iload_n 3, 1) := by decide +kernel
theorem d_j52_21_28 : decode jdk_52_method_21_code 28 = .ok (.iload 6, 2) := by decide +kernel
theorem d_j52_21_30 : decode jdk_52_method_21_code 30 = .ok (.i2b, 1) := by decide +kernel
theorem d_j52_21_31 : decode jdk_52_method_21_code 31 = .ok (.bastore, 1) := by decide +kernel
theorem d_j52_21_32 : decode jdk_52_method_21_code 32 = .ok (.iinc 1 1, 3) := by decide +kernel
theorem d_j52_21_35 : decode jdk_52_method_21_code 35 = .ok (.iinc 3 1, 3) := by decide +kernel
theorem d_j52_21_38 : decode jdk_52_method_21_code 38 = .ok (.iinc 5 1, 3) := by decide +kernel
theorem d_j52_21_41 : decode jdk_52_method_21_code 41 = .ok (.goto (-38), 3) := by decide +kernel
set_option maxRecDepth 65536 in
set_option maxHeartbeats 40000000 in
theorem rm_k5_4 (l : Launch) (Z : State) (a0 : Array Value) (hw : ∀ d ∈ tables_1, d.before a0 Z = true) (ws : List Jvm.Cond) (ua : Addr) (ka : ClassId) (ub : Addr) (kb : ClassId) (c0_ c1_ c2_ zv : Int32) (gv : Value) (h0 : Heap) (n0 : Nat) (Z0 : n0 ≤ h0.size) (Ac : Arv Z h0 ua ka .char (4 : Int32) [(.int c0_), (.int c1_), (.int c2_), (.int (256 : Int32))] (.int (0 : Int32))) (q0 : n0 ≤ ub) (A0 : Arv Z h0 ub kb .byte (4 : Int32) [(.int (0 : Int32)), (.int (0 : Int32)), (.int (0 : Int32)), (.int (0 : Int32))] (.int (0 : Int32))) (nq : ua ≠ ub) (B0 : own_B9 c0_) (B1 : own_B9 c1_) (B2 : own_B9 c2_) (O0 : Old Z n0 h0) (hzv : ¬ zv = (0 : Int32)) (S0 : Sta Z Z.heap "java/lang/String" "COMPACT_STRINGS" "Z" (.int zv)) (rgv : gv.isRef = true) (G0 : Sta Z Z.heap "jdk/internal/util/Preconditions" "SIOOBE_FORMATTER" "Ljava/util/function/BiFunction;" gv) (Sa : Sta Z Z.heap "java/lang/StringUTF16" "$assertionsDisabled" "Z" (.int (1 : Int32))) (Sh : Sta Z Z.heap "java/lang/StringUTF16" "HI_BYTE_SHIFT" "I" (.int (0 : Int32))) (Sl : Sta Z Z.heap "java/lang/StringUTF16" "LO_BYTE_SHIFT" "I" (.int (8 : Int32))) :
    own_Met l Z (⟨"java/lang/StringUTF16", "compress", "([CI[BII)I"⟩ : MethodName) jdk_52_method_21_code 7 (some .int) ws ({ frames := 0, cells := 0, slots := 0, locals := 0 } : Room) #[(.ref ua), (.int (0 : Int32)), (.ref ub), (.int (0 : Int32)), (.int (4 : Int32))] h0 (Q_k5_4 Z ua ka ub kb c0_ c1_ c2_ zv gv h0 n0) := by
  refine own_enter (own := "java/lang/StringUTF16") (plainFor_of_name pn_4) rfl ?_
  intro p e s m below meth c s₁ hlk hret hx hby hml hown hnm hZ X0 e0
  have N0 := Fr.nil n0
  refine own_cast (ef_k5_4 m ua ub) ?_
  show own_Go _ _ _ _ (s₁.setTop (mkF m 0 #[.val (.ref ua), .val (.int (0 : Int32)), .val (.ref ub), .val (.int (0 : Int32)), .val (.int (4 : Int32)), .unset, .unset] []))
  refine own_go (fun t k => XS.iconst X0.here hx rfl (hb hby d_j52_21_0) k) ?_
  refine own_go (fun t k => XS.istore X0.here hx rfl (hb hby d_j52_21_1) rfl (l' := #[.val (.ref ua), .val (.int (0 : Int32)), .val (.ref ub), .val (.int (0 : Int32)), .val (.int (4 : Int32)), .val (.int (0 : Int32)), .unset]) rfl k) ?_
  refine own_go (fun t k => XS.iload X0.here hx rfl (hb hby d_j52_21_3) rfl k) ?_
  refine own_go (fun t k => XS.iload X0.here hx rfl (hb hby d_j52_21_5) rfl k) ?_
  show own_Go _ _ _ _ (s₁.setTop (mkF m 7 #[.val (.ref ua), .val (.int (0 : Int32)), .val (.ref ub), .val (.int (0 : Int32)), .val (.int (4 : Int32)), .val (.int (0 : Int32)), .unset] [(.int (4 : Int32)), (.int (0 : Int32))]))
  refine own_go (fun t k => XS.icmpNo X0.here hx rfl (hb hby d_j52_21_7) rfl (tlt (by decide : (0 : Int32) < (4 : Int32))).2.1 k) ?_
  refine own_go (fun t k => XS.aloadN X0.here hx rfl (hb hby d_j52_21_10) rfl rfl k) ?_
  refine own_go (fun t k => XS.iloadN X0.here hx rfl (hb hby d_j52_21_11) rfl k) ?_
  show own_Go _ _ _ _ (s₁.setTop (mkF m 12 #[.val (.ref ua), .val (.int (0 : Int32)), .val (.ref ub), .val (.int (0 : Int32)), .val (.int (4 : Int32)), .val (.int (0 : Int32)), .unset] [(.int (0 : Int32)), (.ref ua)]))
  obtain ⟨cl184, Ar184, qk184, sz184, nn184, ha184, gf184⟩ := id Ac
  have hin184 : ¬ ((0 : Int32) < 0 ∨ cl184.slots.size ≤ ((0 : Int32)).toNatClampNeg) := inb_of sz184 ⟨by decide, by decide⟩
  have hat184 : cl184.slots[((0 : Int32)).toNatClampNeg]? = some (.int c0_) := ha184.at hin184 rfl
  refine own_go (X0.caload hx (j := (0 : Int32)) (v := (.int c0_)) (by rw [e0]; exact Ar184.1) (State.isArrayOf_alike hZ.alike Ar184.2.1) Ar184.2.2 hin184 hat184 (g := (mkF m 12 #[.val (.ref ua), .val (.int (0 : Int32)), .val (.ref ub), .val (.int (0 : Int32)), .val (.int (4 : Int32)), .val (.int (0 : Int32)), .unset] [(.int (0 : Int32)), (.ref ua)])) rfl rfl (hb hby d_j52_21_12)) ?_
  refine own_go (fun t k => XS.istore X0.here hx rfl (hb hby d_j52_21_13) rfl (l' := #[.val (.ref ua), .val (.int (0 : Int32)), .val (.ref ub), .val (.int (0 : Int32)), .val (.int (4 : Int32)), .val (.int (0 : Int32)), .val (.int c0_)]) rfl k) ?_
  refine own_go (fun t k => XS.iload X0.here hx rfl (hb hby d_j52_21_15) rfl k) ?_
  refine own_go (fun t k => XS.sipush X0.here hx rfl (hb hby d_j52_21_17) k) ?_
  by_cases hc185 : (255 : Int32) < c0_
  · show own_Go _ _ _ _ (s₁.setTop (mkF m 20 #[.val (.ref ua), .val (.int (0 : Int32)), .val (.ref ub), .val (.int (0 : Int32)), .val (.int (4 : Int32)), .val (.int (0 : Int32)), .val (.int c0_)] [(.int (255 : Int32)), (.int c0_)]))
    refine own_go (fun t k => XS.icmpNo X0.here hx rfl (hb hby d_j52_21_20) rfl (tlt hc185).2.2.2 k) ?_
    refine own_go (fun t k => XS.iload X0.here hx rfl (hb hby d_j52_21_23) rfl k) ?_
    show own_Go _ _ _ _ (s₁.setTop (mkF m 25 #[.val (.ref ua), .val (.int (0 : Int32)), .val (.ref ub), .val (.int (0 : Int32)), .val (.int (4 : Int32)), .val (.int (0 : Int32)), .val (.int c0_)] [(.int (0 : Int32))]))
    refine own_ret X0 hx hlk hret rfl (Or.inl ⟨rfl, Or.inl rfl, _, rfl⟩) (hb hby d_j52_21_25) ?_ (by decide) (by decide)
    rw [e0]
    exact ⟨(0 : Int32), rfl, N0, (Keep.refl h0 [ub]), (Or.inl ⟨rfl, hc185⟩)⟩
  · show own_Go _ _ _ _ (s₁.setTop (mkF m 20 #[.val (.ref ua), .val (.int (0 : Int32)), .val (.ref ub), .val (.int (0 : Int32)), .val (.int (4 : Int32)), .val (.int (0 : Int32)), .val (.int c0_)] [(.int (255 : Int32)), (.int c0_)]))
    refine own_go (fun t k => XS.icmpYes X0.here hx rfl (pc0 := 20) (pc' := 26) rfl (hb hby d_j52_21_20) rfl (flt hc185).2.2.2 (by decide) (by decide) k) ?_
    refine own_go (fun t k => XS.aloadN X0.here hx rfl (hb hby d_j52_21_26) rfl rfl k) ?_
    refine own_go (fun t k => XS.iloadN X0.here hx rfl (hb hby d_j52_21_27) rfl k) ?_
    refine own_go (fun t k => XS.iload X0.here hx rfl (hb hby d_j52_21_28) rfl k) ?_
    show own_Go _ _ _ _ (s₁.setTop (mkF m 30 #[.val (.ref ua), .val (.int (0 : Int32)), .val (.ref ub), .val (.int (0 : Int32)), .val (.int (4 : Int32)), .val (.int (0 : Int32)), .val (.int c0_)] [(.int c0_), (.int (0 : Int32)), (.ref ub)]))
    refine own_go (fun t k => XS.i2b X0.here hx rfl (hb hby d_j52_21_30) rfl k) ?_
    show own_Go _ _ _ _ (s₁.setTop (mkF m 31 #[.val (.ref ua), .val (.int (0 : Int32)), .val (.ref ub), .val (.int (0 : Int32)), .val (.int (4 : Int32)), .val (.int (0 : Int32)), .val (.int c0_)] [(.int (c0_.toInt8.toInt32)), (.int (0 : Int32)), (.ref ub)]))
    obtain ⟨cl186, Ar186, qk186, sz186, nn186, ha186, gf186⟩ := id A0
    have hin186 : ¬ ((0 : Int32) < 0 ∨ cl186.slots.size ≤ ((0 : Int32)).toNatClampNeg) := inb_of sz186 ⟨by decide, by decide⟩
    obtain ⟨T187, h187, X187, e187, W187, st187⟩ := stB X0 hx hZ e0 Ar186 (j := (0 : Int32)) hin186 (g := (mkF m 31 #[.val (.ref ua), .val (.int (0 : Int32)), .val (.ref ub), .val (.int (0 : Int32)), .val (.int (4 : Int32)), .val (.int (0 : Int32)), .val (.int c0_)] [(.int (c0_.toInt8.toInt32)), (.int (0 : Int32)), (.ref ub)])) rfl rfl (hb hby d_j52_21_31)
    refine own_go st187 ?_
    rw [show nar .byte (c0_.toInt8.toInt32) = (c0_.toInt8.toInt32) from own_b8 _] at W187
    have V187 : Arv Z h187 ub kb .byte (4 : Int32) [(.int (c0_.toInt8.toInt32)), (.int (0 : Int32)), (.int (0 : Int32)), (.int (0 : Int32))] (.int (0 : Int32)) := Arv.set Ar186 qk186 sz186 nn186 ha186 gf186 (fits_nar_byte _) W187 0 rfl (Nat.le_of_ble_eq_true rfl)
    have Z187 : n0 ≤ h187.size := (Nat.le_trans Z0 (Nat.le_of_eq W187.size.symm))
    have N187 := Fr.snoc X187 N0 q0
    have K187 : Keep h0 h187 [ub] := (Keep.refl h0 [ub]).wr W187 (Or.inl (List.mem_of_getElem? (i := 0) rfl))
    refine own_go (fun t k => XS.iinc X187.here hx rfl (hb hby d_j52_21_32) rfl (l' := #[.val (.ref ua), .val (.int ((0 : Int32) + (1 : Int32))), .val (.ref ub), .val (.int (0 : Int32)), .val (.int (4 : Int32)), .val (.int (0 : Int32)), .val (.int c0_)]) rfl k) ?_
    refine own_go (fun t k => XS.iinc X187.here hx rfl (hb hby d_j52_21_35) rfl (l' := #[.val (.ref ua), .val (.int (1 : Int32)), .val (.ref ub), .val (.int ((0 : Int32) + (1 : Int32))), .val (.int (4 : Int32)), .val (.int (0 : Int32)), .val (.int c0_)]) rfl k) ?_
    refine own_go (fun t k => XS.iinc X187.here hx rfl (hb hby d_j52_21_38) rfl (l' := #[.val (.ref ua), .val (.int (1 : Int32)), .val (.ref ub), .val (.int (1 : Int32)), .val (.int (4 : Int32)), .val (.int ((0 : Int32) + (1 : Int32))), .val (.int c0_)]) rfl k) ?_
    show own_Go _ _ _ _ (T187.setTop (mkF m 41 #[.val (.ref ua), .val (.int (1 : Int32)), .val (.ref ub), .val (.int (1 : Int32)), .val (.int (4 : Int32)), .val (.int (1 : Int32)), .val (.int c0_)] []))
    refine own_go (fun t k => XS.goto X187.here hx rfl (pc0 := 41) (pc' := 3) rfl (hb hby d_j52_21_41) (by decide) (by decide) k) ?_
    refine own_go (fun t k => XS.iload X187.here hx rfl (hb hby d_j52_21_3) rfl k) ?_
    refine own_go (fun t k => XS.iload X187.here hx rfl (hb hby d_j52_21_5) rfl k) ?_
    show own_Go _ _ _ _ (T187.setTop (mkF m 7 #[.val (.ref ua), .val (.int (1 : Int32)), .val (.ref ub), .val (.int (1 : Int32)), .val (.int (4 : Int32)), .val (.int (1 : Int32)), .val (.int c0_)] [(.int (4 : Int32)), (.int (1 : Int32))]))
    refine own_go (fun t k => XS.icmpNo X187.here hx rfl (hb hby d_j52_21_7) rfl (tlt (by decide : (1 : Int32) < (4 : Int32))).2.1 k) ?_
    refine own_go (fun t k => XS.aloadN X187.here hx rfl (hb hby d_j52_21_10) rfl rfl k) ?_
    refine own_go (fun t k => XS.iloadN X187.here hx rfl (hb hby d_j52_21_11) rfl k) ?_
    show own_Go _ _ _ _ (T187.setTop (mkF m 12 #[.val (.ref ua), .val (.int (1 : Int32)), .val (.ref ub), .val (.int (1 : Int32)), .val (.int (4 : Int32)), .val (.int (1 : Int32)), .val (.int c0_)] [(.int (1 : Int32)), (.ref ua)]))
    obtain ⟨cl188, Ar188, qk188, sz188, nn188, ha188, gf188⟩ := id (Ac.other W187 nq)
    have hin188 : ¬ ((1 : Int32) < 0 ∨ cl188.slots.size ≤ ((1 : Int32)).toNatClampNeg) := inb_of sz188 ⟨by decide, by decide⟩
    have hat188 : cl188.slots[((1 : Int32)).toNatClampNeg]? = some (.int c1_) := ha188.at hin188 rfl
    refine own_go (X187.caload hx (j := (1 : Int32)) (v := (.int c1_)) (by rw [e187]; exact Ar188.1) (State.isArrayOf_alike hZ.alike Ar188.2.1) Ar188.2.2 hin188 hat188 (g := (mkF m 12 #[.val (.ref ua), .val (.int (1 : Int32)), .val (.ref ub), .val (.int (1 : Int32)), .val (.int (4 : Int32)), .val (.int (1 : Int32)), .val (.int c0_)] [(.int (1 : Int32)), (.ref ua)])) rfl rfl (hb hby d_j52_21_12)) ?_
    refine own_go (fun t k => XS.istore X187.here hx rfl (hb hby d_j52_21_13) rfl (l' := #[.val (.ref ua), .val (.int (1 : Int32)), .val (.ref ub), .val (.int (1 : Int32)), .val (.int (4 : Int32)), .val (.int (1 : Int32)), .val (.int c1_)]) rfl k) ?_
    refine own_go (fun t k => XS.iload X187.here hx rfl (hb hby d_j52_21_15) rfl k) ?_
    refine own_go (fun t k => XS.sipush X187.here hx rfl (hb hby d_j52_21_17) k) ?_
    by_cases hc189 : (255 : Int32) < c1_
    · show own_Go _ _ _ _ (T187.setTop (mkF m 20 #[.val (.ref ua), .val (.int (1 : Int32)), .val (.ref ub), .val (.int (1 : Int32)), .val (.int (4 : Int32)), .val (.int (1 : Int32)), .val (.int c1_)] [(.int (255 : Int32)), (.int c1_)]))
      refine own_go (fun t k => XS.icmpNo X187.here hx rfl (hb hby d_j52_21_20) rfl (tlt hc189).2.2.2 k) ?_
      refine own_go (fun t k => XS.iload X187.here hx rfl (hb hby d_j52_21_23) rfl k) ?_
      show own_Go _ _ _ _ (T187.setTop (mkF m 25 #[.val (.ref ua), .val (.int (1 : Int32)), .val (.ref ub), .val (.int (1 : Int32)), .val (.int (4 : Int32)), .val (.int (1 : Int32)), .val (.int c1_)] [(.int (1 : Int32))]))
      refine own_ret X187 hx hlk hret rfl (Or.inl ⟨rfl, Or.inl rfl, _, rfl⟩) (hb hby d_j52_21_25) ?_ (by decide) (by decide)
      rw [e187]
      exact ⟨(1 : Int32), rfl, N187, K187, (Or.inr (Or.inl ⟨rfl, hc189⟩))⟩
    · show own_Go _ _ _ _ (T187.setTop (mkF m 20 #[.val (.ref ua), .val (.int (1 : Int32)), .val (.ref ub), .val (.int (1 : Int32)), .val (.int (4 : Int32)), .val (.int (1 : Int32)), .val (.int c1_)] [(.int (255 : Int32)), (.int c1_)]))
      refine own_go (fun t k => XS.icmpYes X187.here hx rfl (pc0 := 20) (pc' := 26) rfl (hb hby d_j52_21_20) rfl (flt hc189).2.2.2 (by decide) (by decide) k) ?_
      refine own_go (fun t k => XS.aloadN X187.here hx rfl (hb hby d_j52_21_26) rfl rfl k) ?_
      refine own_go (fun t k => XS.iloadN X187.here hx rfl (hb hby d_j52_21_27) rfl k) ?_
      refine own_go (fun t k => XS.iload X187.here hx rfl (hb hby d_j52_21_28) rfl k) ?_
      show own_Go _ _ _ _ (T187.setTop (mkF m 30 #[.val (.ref ua), .val (.int (1 : Int32)), .val (.ref ub), .val (.int (1 : Int32)), .val (.int (4 : Int32)), .val (.int (1 : Int32)), .val (.int c1_)] [(.int c1_), (.int (1 : Int32)), (.ref ub)]))
      refine own_go (fun t k => XS.i2b X187.here hx rfl (hb hby d_j52_21_30) rfl k) ?_
      show own_Go _ _ _ _ (T187.setTop (mkF m 31 #[.val (.ref ua), .val (.int (1 : Int32)), .val (.ref ub), .val (.int (1 : Int32)), .val (.int (4 : Int32)), .val (.int (1 : Int32)), .val (.int c1_)] [(.int (c1_.toInt8.toInt32)), (.int (1 : Int32)), (.ref ub)]))
      obtain ⟨cl190, Ar190, qk190, sz190, nn190, ha190, gf190⟩ := id V187
      have hin190 : ¬ ((1 : Int32) < 0 ∨ cl190.slots.size ≤ ((1 : Int32)).toNatClampNeg) := inb_of sz190 ⟨by decide, by decide⟩
      obtain ⟨T191, h191, X191, e191, W191, st191⟩ := stB X187 hx hZ e187 Ar190 (j := (1 : Int32)) hin190 (g := (mkF m 31 #[.val (.ref ua), .val (.int (1 : Int32)), .val (.ref ub), .val (.int (1 : Int32)), .val (.int (4 : Int32)), .val (.int (1 : Int32)), .val (.int c1_)] [(.int (c1_.toInt8.toInt32)), (.int (1 : Int32)), (.ref ub)])) rfl rfl (hb hby d_j52_21_31)
      refine own_go st191 ?_
      rw [show nar .byte (c1_.toInt8.toInt32) = (c1_.toInt8.toInt32) from own_b8 _] at W191
      have V191 : Arv Z h191 ub kb .byte (4 : Int32) [(.int (c0_.toInt8.toInt32)), (.int (c1_.toInt8.toInt32)), (.int (0 : Int32)), (.int (0 : Int32))] (.int (0 : Int32)) := Arv.set Ar190 qk190 sz190 nn190 ha190 gf190 (fits_nar_byte _) W191 1 rfl (Nat.le_of_ble_eq_true rfl)
      have Z191 : n0 ≤ h191.size := (Nat.le_trans Z187 (Nat.le_of_eq W191.size.symm))
      have N191 := Fr.snoc X191 N187 q0
      have K191 : Keep h0 h191 [ub] := K187.wr W191 (Or.inl (List.mem_of_getElem? (i := 0) rfl))
      refine own_go (fun t k => XS.iinc X191.here hx rfl (hb hby d_j52_21_32) rfl (l' := #[.val (.ref ua), .val (.int ((1 : Int32) + (1 : Int32))), .val (.ref ub), .val (.int (1 : Int32)), .val (.int (4 : Int32)), .val (.int (1 : Int32)), .val (.int c1_)]) rfl k) ?_
      refine own_go (fun t k => XS.iinc X191.here hx rfl (hb hby d_j52_21_35) rfl (l' := #[.val (.ref ua), .val (.int (2 : Int32)), .val (.ref ub), .val (.int ((1 : Int32) + (1 : Int32))), .val (.int (4 : Int32)), .val (.int (1 : Int32)), .val (.int c1_)]) rfl k) ?_
      refine own_go (fun t k => XS.iinc X191.here hx rfl (hb hby d_j52_21_38) rfl (l' := #[.val (.ref ua), .val (.int (2 : Int32)), .val (.ref ub), .val (.int (2 : Int32)), .val (.int (4 : Int32)), .val (.int ((1 : Int32) + (1 : Int32))), .val (.int c1_)]) rfl k) ?_
      show own_Go _ _ _ _ (T191.setTop (mkF m 41 #[.val (.ref ua), .val (.int (2 : Int32)), .val (.ref ub), .val (.int (2 : Int32)), .val (.int (4 : Int32)), .val (.int (2 : Int32)), .val (.int c1_)] []))
      refine own_go (fun t k => XS.goto X191.here hx rfl (pc0 := 41) (pc' := 3) rfl (hb hby d_j52_21_41) (by decide) (by decide) k) ?_
      refine own_go (fun t k => XS.iload X191.here hx rfl (hb hby d_j52_21_3) rfl k) ?_
      refine own_go (fun t k => XS.iload X191.here hx rfl (hb hby d_j52_21_5) rfl k) ?_
      show own_Go _ _ _ _ (T191.setTop (mkF m 7 #[.val (.ref ua), .val (.int (2 : Int32)), .val (.ref ub), .val (.int (2 : Int32)), .val (.int (4 : Int32)), .val (.int (2 : Int32)), .val (.int c1_)] [(.int (4 : Int32)), (.int (2 : Int32))]))
      refine own_go (fun t k => XS.icmpNo X191.here hx rfl (hb hby d_j52_21_7) rfl (tlt (by decide : (2 : Int32) < (4 : Int32))).2.1 k) ?_
      refine own_go (fun t k => XS.aloadN X191.here hx rfl (hb hby d_j52_21_10) rfl rfl k) ?_
      refine own_go (fun t k => XS.iloadN X191.here hx rfl (hb hby d_j52_21_11) rfl k) ?_
      show own_Go _ _ _ _ (T191.setTop (mkF m 12 #[.val (.ref ua), .val (.int (2 : Int32)), .val (.ref ub), .val (.int (2 : Int32)), .val (.int (4 : Int32)), .val (.int (2 : Int32)), .val (.int c1_)] [(.int (2 : Int32)), (.ref ua)]))
      obtain ⟨cl192, Ar192, qk192, sz192, nn192, ha192, gf192⟩ := id ((Ac.other W187 nq).other W191 nq)
      have hin192 : ¬ ((2 : Int32) < 0 ∨ cl192.slots.size ≤ ((2 : Int32)).toNatClampNeg) := inb_of sz192 ⟨by decide, by decide⟩
      have hat192 : cl192.slots[((2 : Int32)).toNatClampNeg]? = some (.int c2_) := ha192.at hin192 rfl
      refine own_go (X191.caload hx (j := (2 : Int32)) (v := (.int c2_)) (by rw [e191]; exact Ar192.1) (State.isArrayOf_alike hZ.alike Ar192.2.1) Ar192.2.2 hin192 hat192 (g := (mkF m 12 #[.val (.ref ua), .val (.int (2 : Int32)), .val (.ref ub), .val (.int (2 : Int32)), .val (.int (4 : Int32)), .val (.int (2 : Int32)), .val (.int c1_)] [(.int (2 : Int32)), (.ref ua)])) rfl rfl (hb hby d_j52_21_12)) ?_
      refine own_go (fun t k => XS.istore X191.here hx rfl (hb hby d_j52_21_13) rfl (l' := #[.val (.ref ua), .val (.int (2 : Int32)), .val (.ref ub), .val (.int (2 : Int32)), .val (.int (4 : Int32)), .val (.int (2 : Int32)), .val (.int c2_)]) rfl k) ?_
      refine own_go (fun t k => XS.iload X191.here hx rfl (hb hby d_j52_21_15) rfl k) ?_
      refine own_go (fun t k => XS.sipush X191.here hx rfl (hb hby d_j52_21_17) k) ?_
      by_cases hc193 : (255 : Int32) < c2_
      · show own_Go _ _ _ _ (T191.setTop (mkF m 20 #[.val (.ref ua), .val (.int (2 : Int32)), .val (.ref ub), .val (.int (2 : Int32)), .val (.int (4 : Int32)), .val (.int (2 : Int32)), .val (.int c2_)] [(.int (255 : Int32)), (.int c2_)]))
        refine own_go (fun t k => XS.icmpNo X191.here hx rfl (hb hby d_j52_21_20) rfl (tlt hc193).2.2.2 k) ?_
        refine own_go (fun t k => XS.iload X191.here hx rfl (hb hby d_j52_21_23) rfl k) ?_
        show own_Go _ _ _ _ (T191.setTop (mkF m 25 #[.val (.ref ua), .val (.int (2 : Int32)), .val (.ref ub), .val (.int (2 : Int32)), .val (.int (4 : Int32)), .val (.int (2 : Int32)), .val (.int c2_)] [(.int (2 : Int32))]))
        refine own_ret X191 hx hlk hret rfl (Or.inl ⟨rfl, Or.inl rfl, _, rfl⟩) (hb hby d_j52_21_25) ?_ (by decide) (by decide)
        rw [e191]
        exact ⟨(2 : Int32), rfl, N191, K191, (Or.inr (Or.inr (Or.inl ⟨rfl, hc193⟩)))⟩
      · show own_Go _ _ _ _ (T191.setTop (mkF m 20 #[.val (.ref ua), .val (.int (2 : Int32)), .val (.ref ub), .val (.int (2 : Int32)), .val (.int (4 : Int32)), .val (.int (2 : Int32)), .val (.int c2_)] [(.int (255 : Int32)), (.int c2_)]))
        refine own_go (fun t k => XS.icmpYes X191.here hx rfl (pc0 := 20) (pc' := 26) rfl (hb hby d_j52_21_20) rfl (flt hc193).2.2.2 (by decide) (by decide) k) ?_
        refine own_go (fun t k => XS.aloadN X191.here hx rfl (hb hby d_j52_21_26) rfl rfl k) ?_
        refine own_go (fun t k => XS.iloadN X191.here hx rfl (hb hby d_j52_21_27) rfl k) ?_
        refine own_go (fun t k => XS.iload X191.here hx rfl (hb hby d_j52_21_28) rfl k) ?_
        show own_Go _ _ _ _ (T191.setTop (mkF m 30 #[.val (.ref ua), .val (.int (2 : Int32)), .val (.ref ub), .val (.int (2 : Int32)), .val (.int (4 : Int32)), .val (.int (2 : Int32)), .val (.int c2_)] [(.int c2_), (.int (2 : Int32)), (.ref ub)]))
        refine own_go (fun t k => XS.i2b X191.here hx rfl (hb hby d_j52_21_30) rfl k) ?_
        show own_Go _ _ _ _ (T191.setTop (mkF m 31 #[.val (.ref ua), .val (.int (2 : Int32)), .val (.ref ub), .val (.int (2 : Int32)), .val (.int (4 : Int32)), .val (.int (2 : Int32)), .val (.int c2_)] [(.int (c2_.toInt8.toInt32)), (.int (2 : Int32)), (.ref ub)]))
        obtain ⟨cl194, Ar194, qk194, sz194, nn194, ha194, gf194⟩ := id V191
        have hin194 : ¬ ((2 : Int32) < 0 ∨ cl194.slots.size ≤ ((2 : Int32)).toNatClampNeg) := inb_of sz194 ⟨by decide, by decide⟩
        obtain ⟨T195, h195, X195, e195, W195, st195⟩ := stB X191 hx hZ e191 Ar194 (j := (2 : Int32)) hin194 (g := (mkF m 31 #[.val (.ref ua), .val (.int (2 : Int32)), .val (.ref ub), .val (.int (2 : Int32)), .val (.int (4 : Int32)), .val (.int (2 : Int32)), .val (.int c2_)] [(.int (c2_.toInt8.toInt32)), (.int (2 : Int32)), (.ref ub)])) rfl rfl (hb hby d_j52_21_31)
        refine own_go st195 ?_
        rw [show nar .byte (c2_.toInt8.toInt32) = (c2_.toInt8.toInt32) from own_b8 _] at W195
        have V195 : Arv Z h195 ub kb .byte (4 : Int32) [(.int (c0_.toInt8.toInt32)), (.int (c1_.toInt8.toInt32)), (.int (c2_.toInt8.toInt32)), (.int (0 : Int32))] (.int (0 : Int32)) := Arv.set Ar194 qk194 sz194 nn194 ha194 gf194 (fits_nar_byte _) W195 2 rfl (Nat.le_of_ble_eq_true rfl)
        have Z195 : n0 ≤ h195.size := (Nat.le_trans Z191 (Nat.le_of_eq W195.size.symm))
        have N195 := Fr.snoc X195 N191 q0
        have K195 : Keep h0 h195 [ub] := K191.wr W195 (Or.inl (List.mem_of_getElem? (i := 0) rfl))
        refine own_go (fun t k => XS.iinc X195.here hx rfl (hb hby d_j52_21_32) rfl (l' := #[.val (.ref ua), .val (.int ((2 : Int32) + (1 : Int32))), .val (.ref ub), .val (.int (2 : Int32)), .val (.int (4 : Int32)), .val (.int (2 : Int32)), .val (.int c2_)]) rfl k) ?_
        refine own_go (fun t k => XS.iinc X195.here hx rfl (hb hby d_j52_21_35) rfl (l' := #[.val (.ref ua), .val (.int (3 : Int32)), .val (.ref ub), .val (.int ((2 : Int32) + (1 : Int32))), .val (.int (4 : Int32)), .val (.int (2 : Int32)), .val (.int c2_)]) rfl k) ?_
        refine own_go (fun t k => XS.iinc X195.here hx rfl (hb hby d_j52_21_38) rfl (l' := #[.val (.ref ua), .val (.int (3 : Int32)), .val (.ref ub), .val (.int (3 : Int32)), .val (.int (4 : Int32)), .val (.int ((2 : Int32) + (1 : Int32))), .val (.int c2_)]) rfl k) ?_
        show own_Go _ _ _ _ (T195.setTop (mkF m 41 #[.val (.ref ua), .val (.int (3 : Int32)), .val (.ref ub), .val (.int (3 : Int32)), .val (.int (4 : Int32)), .val (.int (3 : Int32)), .val (.int c2_)] []))
        refine own_go (fun t k => XS.goto X195.here hx rfl (pc0 := 41) (pc' := 3) rfl (hb hby d_j52_21_41) (by decide) (by decide) k) ?_
        refine own_go (fun t k => XS.iload X195.here hx rfl (hb hby d_j52_21_3) rfl k) ?_
        refine own_go (fun t k => XS.iload X195.here hx rfl (hb hby d_j52_21_5) rfl k) ?_
        show own_Go _ _ _ _ (T195.setTop (mkF m 7 #[.val (.ref ua), .val (.int (3 : Int32)), .val (.ref ub), .val (.int (3 : Int32)), .val (.int (4 : Int32)), .val (.int (3 : Int32)), .val (.int c2_)] [(.int (4 : Int32)), (.int (3 : Int32))]))
        refine own_go (fun t k => XS.icmpNo X195.here hx rfl (hb hby d_j52_21_7) rfl (tlt (by decide : (3 : Int32) < (4 : Int32))).2.1 k) ?_
        refine own_go (fun t k => XS.aloadN X195.here hx rfl (hb hby d_j52_21_10) rfl rfl k) ?_
        refine own_go (fun t k => XS.iloadN X195.here hx rfl (hb hby d_j52_21_11) rfl k) ?_
        show own_Go _ _ _ _ (T195.setTop (mkF m 12 #[.val (.ref ua), .val (.int (3 : Int32)), .val (.ref ub), .val (.int (3 : Int32)), .val (.int (4 : Int32)), .val (.int (3 : Int32)), .val (.int c2_)] [(.int (3 : Int32)), (.ref ua)]))
        obtain ⟨cl196, Ar196, qk196, sz196, nn196, ha196, gf196⟩ := id (((Ac.other W187 nq).other W191 nq).other W195 nq)
        have hin196 : ¬ ((3 : Int32) < 0 ∨ cl196.slots.size ≤ ((3 : Int32)).toNatClampNeg) := inb_of sz196 ⟨by decide, by decide⟩
        have hat196 : cl196.slots[((3 : Int32)).toNatClampNeg]? = some (.int (256 : Int32)) := ha196.at hin196 rfl
        refine own_go (X195.caload hx (j := (3 : Int32)) (v := (.int (256 : Int32))) (by rw [e195]; exact Ar196.1) (State.isArrayOf_alike hZ.alike Ar196.2.1) Ar196.2.2 hin196 hat196 (g := (mkF m 12 #[.val (.ref ua), .val (.int (3 : Int32)), .val (.ref ub), .val (.int (3 : Int32)), .val (.int (4 : Int32)), .val (.int (3 : Int32)), .val (.int c2_)] [(.int (3 : Int32)), (.ref ua)])) rfl rfl (hb hby d_j52_21_12)) ?_
        refine own_go (fun t k => XS.istore X195.here hx rfl (hb hby d_j52_21_13) rfl (l' := #[.val (.ref ua), .val (.int (3 : Int32)), .val (.ref ub), .val (.int (3 : Int32)), .val (.int (4 : Int32)), .val (.int (3 : Int32)), .val (.int (256 : Int32))]) rfl k) ?_
        refine own_go (fun t k => XS.iload X195.here hx rfl (hb hby d_j52_21_15) rfl k) ?_
        refine own_go (fun t k => XS.sipush X195.here hx rfl (hb hby d_j52_21_17) k) ?_
        show own_Go _ _ _ _ (T195.setTop (mkF m 20 #[.val (.ref ua), .val (.int (3 : Int32)), .val (.ref ub), .val (.int (3 : Int32)), .val (.int (4 : Int32)), .val (.int (3 : Int32)), .val (.int (256 : Int32))] [(.int (255 : Int32)), (.int (256 : Int32))]))
        refine own_go (fun t k => XS.icmpNo X195.here hx rfl (hb hby d_j52_21_20) rfl (tlt (by decide : (255 : Int32) < (256 : Int32))).2.2.2 k) ?_
        refine own_go (fun t k => XS.iload X195.here hx rfl (hb hby d_j52_21_23) rfl k) ?_
        show own_Go _ _ _ _ (T195.setTop (mkF m 25 #[.val (.ref ua), .val (.int (3 : Int32)), .val (.ref ub), .val (.int (3 : Int32)), .val (.int (4 : Int32)), .val (.int (3 : Int32)), .val (.int (256 : Int32))] [(.int (3 : Int32))]))
        refine own_ret X195 hx hlk hret rfl (Or.inl ⟨rfl, Or.inl rfl, _, rfl⟩) (hb hby d_j52_21_25) ?_ (by decide) (by decide)
        rw [e195]
        exact ⟨(3 : Int32), rfl, N195, K195, (Or.inr (Or.inr (Or.inr ⟨rfl, (by decide)⟩)))⟩
def Q_k3_4 (Z : State) (ua : Addr) (ka : ClassId) (c0_ : Int32) (c1_ : Int32) (c2_ : Int32) (zv : Int32) (gv : Value) (h0 : Heap) (n0 : Nat) (v : Option Value) (h : Heap) (L : List Loc) : Prop := ∃ (uy : Addr) (ky : ClassId), v = some (.ref uy) ∧ Fr n0 L ∧ Keep h0 h [] ∧ h0.size ≤ uy ∧ n0 ≤ uy ∧ Arv Z h uy ky .byte (8 : Int32) [(.int ((c0_ >>> ((0 : Int32) &&& 31)).toInt8.toInt32)), (.int ((c0_ >>> ((8 : Int32) &&& 31)).toInt8.toInt32)), (.int ((c1_ >>> ((0 : Int32) &&& 31)).toInt8.toInt32)), (.int ((c1_ >>> ((8 : Int32) &&& 31)).toInt8.toInt32)), (.int ((c2_ >>> ((0 : Int32) &&& 31)).toInt8.toInt32)), (.int ((c2_ >>> ((8 : Int32) &&& 31)).toInt8.toInt32)), (.int (((256 : Int32) >>> ((0 : Int32) &&& 31)).toInt8.toInt32)), (.int (((256 : Int32) >>> ((8 : Int32) &&& 31)).toInt8.toInt32))] (.int (0 : Int32))
theorem ef_k3_4 (m : MethodId) (ua : Addr) : entryFrame m #[(.ref ua), (.int (0 : Int32)), (.int (4 : Int32))] 6 = mkF m 0 #[.val (.ref ua), .val (.int (0 : Int32)), .val (.int (4 : Int32)), .unset, .unset, .unset] [] := by first | (simp [entryFrame, mkF, argsToLocals, Value.category]; done) | rfl
theorem d_j52_16_0 : decode jdk_52_method_16_code 0 = .ok (.iload_n 2, 1) := by decide +kernel
theorem d_j52_16_1 : decode jdk_52_method_16_code 1 = .ok (.newarray .byte, 2) := by decide +kernel
theorem d_j52_16_3 : decode jdk_52_method_16_code 3 = .ok (.astore_n 3, 1) := by decide +kernel
theorem d_j52_16_4 : decode jdk_52_method_16_code 4 = .ok (.aload_n 0, 1) := by decide +kernel
theorem d_j52_16_5 : decode jdk_52_method_16_code 5 = .ok (.iload_n 1, 1) := by decide +kernel
theorem d_j52_16_6 : decode jdk_52_method_16_code 6 = .ok (.aload_n 3, 1) := by decide +kernel
theorem d_j52_16_7 : decode jdk_52_method_16_code 7 = .ok (.iconst 0, 1) := by decide +kernel
theorem d_j52_16_8 : decode jdk_52_method_16_code 8 = .ok (.iload_n 2, 1) := by decide +kernel
theorem w_27 {Z : State} {a0 : Array Value} (hw : ∀ d ∈ tables_1, d.before a0 Z = true) : (Jvm.Cond.methodLink "java/lang/StringUTF16" (115 : Nat) ({ cls := "java/lang/StringUTF16", name := "compress", desc := "([CI[BII)I" } : Jvm.MethodName)).before a0 Z = true := hw _ (List.mem_of_getElem? (i := 27) rfl)
theorem w_29 {Z : State} {a0 : Array Value} (hw : ∀ d ∈ tables_1, d.before a0 Z = true) : (Jvm.Cond.code ({ cls := "java/lang/StringUTF16", name := "compress", desc := "([CI[BII)I" } : Jvm.MethodName) jdk_52_method_21_code (7 : Nat) (Option.some Jvm.ClassFile.FieldType.int)).before a0 Z = true := hw _ (List.mem_of_getElem? (i := 29) rfl)
theorem pd_14 : parseMethodDescriptor "([CI[BII)I" = some ⟨[(.array .char), .int, (.array .byte), .int, .int], some .int⟩ := by decide +kernel
theorem d_j52_16_9 : decode jdk_52_method_16_code 9 = .ok (.invokestatic 115, 3) := by decide +kernel
theorem w_28 {Z : State} {a0 : Array Value} (hw : ∀ d ∈ tables_1, d.before a0 Z = true) : (Jvm.Cond.static ({ cls := "java/lang/StringUTF16", name := "compress", desc := "([CI[BII)I" } : Jvm.MethodName)).before a0 Z = true := hw _ (List.mem_of_getElem? (i := 28) rfl)
theorem d_j52_16_12 : decode jdk_52_method_16_code 12 = .ok (.istore 4, 2) := by decide +kernel
theorem d_j52_16_14 : decode jdk_52_method_16_code 14 = .ok (.iload 4, 2) := by decide +kernel
theorem d_j52_16_16 : decode jdk_52_method_16_code 16 = .ok (.iload_n 2, 1) := by decide +kernel
theorem d_j52_16_17 : decode jdk_52_method_16_code 17 = .ok (.if_icmp .eq 40, 3) := by decide +kernel
theorem d_j52_16_20 : decode jdk_52_method_16_code 20 = .ok (.aload_n 0, 1) := by decide +kernel
theorem d_j52_16_21 : decode jdk_52_method_16_code 21 = .ok (.iload_n 1, 1) := by decide +kernel
theorem d_j52_16_22 : decode jdk_52_method_16_code 22 = .ok (.iload_n 2, 1) := by decide +kernel
theorem w_30 {Z : State} {a0 : Array Value} (hw : ∀ d ∈ tables_1, d.before a0 Z = true) : (Jvm.Cond.methodLink "java/lang/StringUTF16" (119 : Nat) ({ cls := "java/lang/StringUTF16", name := "toBytes", desc := "([CII)[B" } : Jvm.MethodName)).before a0 Z = true := hw _ (List.mem_of_getElem? (i := 30) rfl)
theorem w_32 {Z : State} {a0 : Array Value} (hw : ∀ d ∈ tables_1, d.before a0 Z = true) : (Jvm.Cond.code ({ cls := "java/lang/StringUTF16", name := "toBytes", desc := "([CII)[B" } : Jvm.MethodName) jdk_52_method_14_code (5 : Nat) (Option.some (Jvm.ClassFile.FieldType.array Jvm.ClassFile.FieldType.byte))).before a0 Z = true := hw _ (List.mem_of_getElem? (i := 32) rfl)
theorem pd_15 : parseMethodDescriptor "([CII)[B" = some ⟨[(.array .char), .int, .int], some (.array .byte)⟩ := by decide +kernel
theorem d_j52_16_23 : decode jdk_52_method_16_code 23 = .ok (.invokestatic 119, 3) := by decide +kernel
theorem w_31 {Z : State} {a0 : Array Value} (hw : ∀ d ∈ tables_1, d.before a0 Z = true) : (Jvm.Cond.static ({ cls := "java/lang/StringUTF16", name := "toBytes", desc := "([CII)[B" } : Jvm.MethodName)).before a0 Z = true := hw _ (List.mem_of_getElem? (i := 31) rfl)
theorem d_j52_16_26 : decode jdk_52_method_16_code 26 = .ok (.astore 5, 2) := by decide +kernel
theorem d_j52_16_28 : decode jdk_52_method_16_code 28 = .ok (.aload 5, 2) := by decide +kernel
theorem d_j52_16_30 : decode jdk_52_method_16_code 30 = .ok (.iload 4, 2) := by decide +kernel
theorem d_j52_16_32 : decode jdk_52_method_16_code 32 = .ok (.invokestatic 71, 3) := by decide +kernel
theorem d_j52_16_35 : decode jdk_52_method_16_code 35 = .ok (.sipush 255, 3) := by decide +kernel
theorem d_j52_16_38 : decode jdk_52_method_16_code 38 = .ok (.if_icmp .gt 16, 3) := by decide +kernel
theorem d_j52_16_54 : decode jdk_52_method_16_code 54 = .ok (.aload 5, 2) := by decide +kernel
theorem d_j52_16_56 : decode jdk_52_method_16_code 56 = .ok (.areturn, 1) := by decide +kernel
set_option maxRecDepth 65536 in
set_option maxHeartbeats 40000000 in
theorem rm_k3_4 (l : Launch) (Z : State) (a0 : Array Value) (hw : ∀ d ∈ tables_1, d.before a0 Z = true) (ws : List Jvm.Cond) (ua : Addr) (ka : ClassId) (c0_ c1_ c2_ zv : Int32) (gv : Value) (h0 : Heap) (n0 : Nat) (Z0 : n0 ≤ h0.size) (Ac : Arv Z h0 ua ka .char (4 : Int32) [(.int c0_), (.int c1_), (.int c2_), (.int (256 : Int32))] (.int (0 : Int32))) (B0 : own_B9 c0_) (B1 : own_B9 c1_) (B2 : own_B9 c2_) (O0 : Old Z n0 h0) (hzv : ¬ zv = (0 : Int32)) (S0 : Sta Z Z.heap "java/lang/String" "COMPACT_STRINGS" "Z" (.int zv)) (rgv : gv.isRef = true) (G0 : Sta Z Z.heap "jdk/internal/util/Preconditions" "SIOOBE_FORMATTER" "Ljava/util/function/BiFunction;" gv) (Sa : Sta Z Z.heap "java/lang/StringUTF16" "$assertionsDisabled" "Z" (.int (1 : Int32))) (Sh : Sta Z Z.heap "java/lang/StringUTF16" "HI_BYTE_SHIFT" "I" (.int (0 : Int32))) (Sl : Sta Z Z.heap "java/lang/StringUTF16" "LO_BYTE_SHIFT" "I" (.int (8 : Int32))) :
    own_Met l Z (⟨"java/lang/StringUTF16", "compress", "([CII)[B"⟩ : MethodName) jdk_52_method_16_code 6 (some (.array .byte)) ws ({ frames := 3, cells := 2, slots := 12, locals := 40 } : Room) #[(.ref ua), (.int (0 : Int32)), (.int (4 : Int32))] h0 (Q_k3_4 Z ua ka c0_ c1_ c2_ zv gv h0 n0) := by
  refine own_enter (own := "java/lang/StringUTF16") (plainFor_of_name pn_4) rfl ?_
  intro p e s m below meth c s₁ hlk hret hx hby hml hown hnm hZ X0 e0
  have N0 := Fr.nil n0
  refine own_cast (ef_k3_4 m ua) ?_
  show own_Go _ _ _ _ (s₁.setTop (mkF m 0 #[.val (.ref ua), .val (.int (0 : Int32)), .val (.int (4 : Int32)), .unset, .unset, .unset] []))
  refine own_go (fun t k => XS.iloadN X0.here hx rfl (hb hby d_j52_16_0) rfl k) ?_
  show own_Go _ _ _ _ (s₁.setTop (mkF m 1 #[.val (.ref ua), .val (.int (0 : Int32)), .val (.int (4 : Int32)), .unset, .unset, .unset] [(.int (4 : Int32))]))
  obtain ⟨T197, h197, k197, X197, e197, E197, A197, st197⟩ := newP (aty := .byte) X0 hx hZ (w_26 hw) e0 (n := (4 : Int32)) (rest := []) (g := (mkF m 1 #[.val (.ref ua), .val (.int (0 : Int32)), .val (.int (4 : Int32)), .unset, .unset, .unset] [(.int (4 : Int32))])) rfl (hb hby d_j52_16_1) rfl (by decide) (cap := 4) (by decide) (by decide) (by decide) (by decide)
  obtain ⟨b197, g197⟩ : ∃ z, z = h0.size := ⟨_, rfl⟩
  rw [← g197] at A197 st197
  refine own_go st197 ?_
  have Z197 : n0 ≤ h197.size := (Nat.le_trans Z0 E197.1)
  have K197 : Keep h0 h197 [] := (Keep.refl h0 []).ext E197
  have lo197 : h0.size ≤ b197 := Nat.le_of_eq g197.symm
  have q197 : n0 ≤ b197 := Nat.le_trans Z0 lo197
  have hi197 : b197 < h197.size := A197.lt
  have V197 : Arv Z h197 b197 k197 .byte (4 : Int32) [(.int (0 : Int32)), (.int (0 : Int32)), (.int (0 : Int32)), (.int (0 : Int32))] (.int (0 : Int32)) := (Arv.new A197 (by decide)).pad (pad_rep [] (.int (0 : Int32)) 4)
  refine own_go (fun t k => XS.astoreN X197.here hx rfl (hb hby d_j52_16_3) rfl rfl (l' := #[.val (.ref ua), .val (.int (0 : Int32)), .val (.int (4 : Int32)), .val (.ref b197), .unset, .unset]) rfl k) ?_
  refine own_go (fun t k => XS.aloadN X197.here hx rfl (hb hby d_j52_16_4) rfl rfl k) ?_
  refine own_go (fun t k => XS.iloadN X197.here hx rfl (hb hby d_j52_16_5) rfl k) ?_
  show own_Go _ _ _ _ (T197.setTop (mkF m 6 #[.val (.ref ua), .val (.int (0 : Int32)), .val (.int (4 : Int32)), .val (.ref b197), .unset, .unset] [(.int (0 : Int32)), (.ref ua)]))
  refine own_go (fun t k => XS.aloadN X197.here hx rfl (hb hby d_j52_16_6) rfl rfl k) ?_
  refine own_go (fun t k => XS.iconst X197.here hx rfl (hb hby d_j52_16_7) k) ?_
  refine own_go (fun t k => XS.iloadN X197.here hx rfl (hb hby d_j52_16_8) rfl k) ?_
  obtain ⟨_, _, ⟨T198, L198, k198, n198⟩, -, X198, ⟨Lc198, hQ198, l198, y198, z198⟩, st198⟩ := Jvm.LawKit.callS X197 hx (y := (⟨"java/lang/StringUTF16", "compress", "([CI[BII)I"⟩ : MethodName)) hown (mvT hZ (w_27 hw)) (mvT hZ (w_28 hw)) (mvT hZ (w_24 hw)) (mvT hZ (w_29 hw)) (by decide) (backOf (W := 0) (rm_k5_4 l Z a0 hw [] ua ka b197 k197 c0_ c1_ c2_ zv gv h197 n0 Z197 (Ac.ext E197) q197 V197 (Nat.ne_of_lt (Nat.lt_of_lt_of_le Ac.lt lo197)) B0 B1 B2 (O0.ext E197) hzv S0 rgv G0 Sa Sh Sl) hZ (w_29 hw) (w_24 hw) (by decide) (by decide)) (g := (mkF m 9 #[.val (.ref ua), .val (.int (0 : Int32)), .val (.int (4 : Int32)), .val (.ref b197), .unset, .unset] [(.int (4 : Int32)), (.int (0 : Int32)), (.ref b197), (.int (0 : Int32)), (.ref ua)])) rfl (by rw [hml]; rfl) (argsL := [(.ref ua), (.int (0 : Int32)), (.ref b197), (.int (0 : Int32)), (.int (4 : Int32))]) (rest := []) (lenOf pd_14 rfl) rfl (by show 2 * 0 + _ ≤ _; exact Nat.le_of_eq rfl) (hb hby d_j52_16_9) (fun _ _ => ⟨rfl, e197, (by decide : 1 + 0 ≤ _), (by decide : 4 + 0 ≤ _)⟩)
  dsimp only [Pt.U, Pt.locs, Pt.cells, Pt.slots] at X198 l198 y198 z198 st198 hQ198
  subst l198 y198 z198
  generalize e198 : T198.heap = h198 at hQ198
  obtain ⟨kv, rfl, N198q, K198q, hF⟩ := hQ198
  have N198 := Fr.app N0 N198q
  refine own_go st198 ?_
  have Z198 : n0 ≤ h198.size := (Nat.le_trans Z197 K198q.1)
  have K198 : Keep h0 h198 [] := K197.trans K198q (allS (Or.inr lo197) all0)
  show own_Go _ _ _ _ (T198.setTop (mkF m 12 #[.val (.ref ua), .val (.int (0 : Int32)), .val (.int (4 : Int32)), .val (.ref b197), .unset, .unset] [(.int kv)]))
  refine own_go (fun t k => XS.istore X198.here hx rfl (hb hby d_j52_16_12) rfl (l' := #[.val (.ref ua), .val (.int (0 : Int32)), .val (.int (4 : Int32)), .val (.ref b197), .val (.int kv), .unset]) rfl k) ?_
  refine own_go (fun t k => XS.iload X198.here hx rfl (hb hby d_j52_16_14) rfl k) ?_
  refine own_go (fun t k => XS.iloadN X198.here hx rfl (hb hby d_j52_16_16) rfl k) ?_
  show own_Go _ _ _ _ (T198.setTop (mkF m 17 #[.val (.ref ua), .val (.int (0 : Int32)), .val (.int (4 : Int32)), .val (.ref b197), .val (.int kv), .unset] [(.int (4 : Int32)), (.int kv)]))
  refine own_go (fun t k => XS.icmpNo X198.here hx rfl (hb hby d_j52_16_17) rfl (feq (by rcases hF with ⟨rfl, -⟩ | ⟨rfl, -⟩ | ⟨rfl, -⟩ | ⟨rfl, -⟩ <;> decide : ¬ kv = (4 : Int32))).1 k) ?_
  refine own_go (fun t k => XS.aloadN X198.here hx rfl (hb hby d_j52_16_20) rfl rfl k) ?_
  refine own_go (fun t k => XS.iloadN X198.here hx rfl (hb hby d_j52_16_21) rfl k) ?_
  refine own_go (fun t k => XS.iloadN X198.here hx rfl (hb hby d_j52_16_22) rfl k) ?_
  have f199 := ((Ac.ext E197).keep K198q (ninS (Nat.ne_of_lt (Nat.lt_of_lt_of_le Ac.lt lo197)) nin0))
  show own_Go _ _ _ _ (T198.setTop (mkF m 23 #[.val (.ref ua), .val (.int (0 : Int32)), .val (.int (4 : Int32)), .val (.ref b197), .val (.int kv), .unset] [(.int (4 : Int32)), (.int (0 : Int32)), (.ref ua)]))
  obtain ⟨_, _, ⟨T200, L200, k200, n200⟩, -, X200, ⟨Lc200, hQ200, l200, y200, z200⟩, st200⟩ := Jvm.LawKit.callS X198 hx (y := (⟨"java/lang/StringUTF16", "toBytes", "([CII)[B"⟩ : MethodName)) hown (mvT hZ (w_30 hw)) (mvT hZ (w_31 hw)) (mvT hZ (w_24 hw)) (mvT hZ (w_32 hw)) (by decide) (backOf (W := 0) (rm_tb_4 l Z a0 hw [] ua ka c0_ c1_ c2_ zv gv h198 n0 Z198 f199 B0 B1 B2 ((O0.ext E197).keep K198q (allS q197 all0)) hzv S0 rgv G0 Sa Sh Sl) hZ (w_32 hw) (w_24 hw) (by decide) (by decide)) (g := (mkF m 23 #[.val (.ref ua), .val (.int (0 : Int32)), .val (.int (4 : Int32)), .val (.ref b197), .val (.int kv), .unset] [(.int (4 : Int32)), (.int (0 : Int32)), (.ref ua)])) rfl (by rw [hml]; rfl) (argsL := [(.ref ua), (.int (0 : Int32)), (.int (4 : Int32))]) (rest := []) (lenOf pd_15 rfl) rfl (by show 2 * 0 + _ ≤ _; exact Nat.le_of_eq rfl) (hb hby d_j52_16_23) (fun _ _ => ⟨rfl, e198, (by decide : 1 + 1 ≤ _), (by decide : 4 + 8 ≤ _)⟩)
  dsimp only [Pt.U, Pt.locs, Pt.cells, Pt.slots] at X200 l200 y200 z200 st200 hQ200
  subst l200 y200 z200
  generalize e200 : T200.heap = h200 at hQ200
  obtain ⟨uy200, ky200, rfl, N200q, K200q, lo200, q200, Ay200⟩ := hQ200
  have N200 := Fr.app N198 N200q
  refine own_go st200 ?_
  have Z200 : n0 ≤ h200.size := (Nat.le_trans Z198 K200q.1)
  have K200 : Keep h0 h200 [] := K198.trans K200q all0
  have hi200 := Ay200.lt
  refine own_go (fun t k => XS.astore X200.here hx rfl (hb hby d_j52_16_26) rfl rfl (l' := #[.val (.ref ua), .val (.int (0 : Int32)), .val (.int (4 : Int32)), .val (.ref b197), .val (.int kv), .val (.ref uy200)]) rfl k) ?_
  refine own_go (fun t k => XS.aload X200.here hx rfl (hb hby d_j52_16_28) rfl rfl k) ?_
  refine own_go (fun t k => XS.iload X200.here hx rfl (hb hby d_j52_16_30) rfl k) ?_
  rcases hF with ⟨rfl, hc⟩ | ⟨rfl, hc⟩ | ⟨rfl, hc⟩ | ⟨rfl, hc⟩
  · have f201 := (((O0.ext E197).keep K198q (allS q197 all0)).keep K200q all0)
    show own_Go _ _ _ _ (T200.setTop (mkF m 32 #[.val (.ref ua), .val (.int (0 : Int32)), .val (.int (4 : Int32)), .val (.ref b197), .val (.int (0 : Int32)), .val (.ref uy200)] [(.int (0 : Int32)), (.ref uy200)]))
    obtain ⟨_, _, ⟨T202, L202, k202, n202⟩, -, X202, ⟨Lc202, hQ202, l202, y202, z202⟩, st202⟩ := Jvm.LawKit.callS X200 hx (y := (⟨"java/lang/StringUTF16", "getChar", "([BI)C"⟩ : MethodName)) hown (mvT hZ (w_46 hw)) (mvT hZ (w_47 hw)) (mvT hZ (w_24 hw)) (mvT hZ (w_48 hw)) (by decide) (backOf (W := 0) (rm_gc l Z a0 hw [] uy200 ky200 (8 : Int32) [(.int ((c0_ >>> ((0 : Int32) &&& 31)).toInt8.toInt32)), (.int ((c0_ >>> ((8 : Int32) &&& 31)).toInt8.toInt32)), (.int ((c1_ >>> ((0 : Int32) &&& 31)).toInt8.toInt32)), (.int ((c1_ >>> ((8 : Int32) &&& 31)).toInt8.toInt32)), (.int ((c2_ >>> ((0 : Int32) &&& 31)).toInt8.toInt32)), (.int ((c2_ >>> ((8 : Int32) &&& 31)).toInt8.toInt32)), (.int (((256 : Int32) >>> ((0 : Int32) &&& 31)).toInt8.toInt32)), (.int (((256 : Int32) >>> ((8 : Int32) &&& 31)).toInt8.toInt32))] (0 : Int32) (0 : Int32) (1 : Int32) ((c0_ >>> ((0 : Int32) &&& 31)).toInt8.toInt32) ((c0_ >>> ((8 : Int32) &&& 31)).toInt8.toInt32) c0_ zv gv h200 n0 Z200 Ay200 (by decide) (by decide) ⟨by decide, by decide⟩ ⟨by decide, by decide⟩ rfl rfl (own_pair9 B0) f201 hzv S0 rgv G0 Sa Sh Sl) hZ (w_48 hw) (w_24 hw) (by decide) (by decide)) (g := (mkF m 32 #[.val (.ref ua), .val (.int (0 : Int32)), .val (.int (4 : Int32)), .val (.ref b197), .val (.int (0 : Int32)), .val (.ref uy200)] [(.int (0 : Int32)), (.ref uy200)])) rfl (by rw [hml]; rfl) (argsL := [(.ref uy200), (.int (0 : Int32))]) (rest := []) (lenOf pd_6 rfl) rfl (by show 2 * 0 + _ ≤ _; exact Nat.le_of_eq rfl) (hb hby d_j52_16_32) (fun _ _ => ⟨rfl, e200, (by decide : 2 + 0 ≤ _), (by decide : 12 + 0 ≤ _)⟩)
    dsimp only [Pt.U, Pt.locs, Pt.cells, Pt.slots] at X202 l202 y202 z202 st202 hQ202
    subst l202 y202 z202
    obtain ⟨rfl, N202q, e202⟩ := hQ202
    have N202 := Fr.app N200 N202q
    refine own_go st202 ?_
    refine own_go (fun t k => XS.sipush X202.here hx rfl (hb hby d_j52_16_35) k) ?_
    show own_Go _ _ _ _ (T202.setTop (mkF m 38 #[.val (.ref ua), .val (.int (0 : Int32)), .val (.int (4 : Int32)), .val (.ref b197), .val (.int (0 : Int32)), .val (.ref uy200)] [(.int (255 : Int32)), (.int c0_)]))
    refine own_go (fun t k => XS.icmpYes X202.here hx rfl (pc0 := 38) (pc' := 54) rfl (hb hby d_j52_16_38) rfl (tlt hc).2.2.1 (by decide) (by decide) k) ?_
    refine own_go (fun t k => XS.aload X202.here hx rfl (hb hby d_j52_16_54) rfl rfl k) ?_
    show own_Go _ _ _ _ (T202.setTop (mkF m 56 #[.val (.ref ua), .val (.int (0 : Int32)), .val (.int (4 : Int32)), .val (.ref b197), .val (.int (0 : Int32)), .val (.ref uy200)] [(.ref uy200)]))
    refine own_ret X202 hx hlk hret rfl (Or.inr (Or.inr (Or.inr (Or.inr ⟨rfl, rfl, rfl⟩)))) (hb hby d_j52_16_56) ?_ (by decide) (by decide)
    rw [e202]
    exact ⟨uy200, ky200, rfl, N202, K200, (Nat.le_trans (Nat.le_trans E197.1 K198q.1) lo200), q200, Ay200⟩
  · have f203 := (((O0.ext E197).keep K198q (allS q197 all0)).keep K200q all0)
    show own_Go _ _ _ _ (T200.setTop (mkF m 32 #[.val (.ref ua), .val (.int (0 : Int32)), .val (.int (4 : Int32)), .val (.ref b197), .val (.int (1 : Int32)), .val (.ref uy200)] [(.int (1 : Int32)), (.ref uy200)]))
    obtain ⟨_, _, ⟨T204, L204, k204, n204⟩, -, X204, ⟨Lc204, hQ204, l204, y204, z204⟩, st204⟩ := Jvm.LawKit.callS X200 hx (y := (⟨"java/lang/StringUTF16", "getChar", "([BI)C"⟩ : MethodName)) hown (mvT hZ (w_46 hw)) (mvT hZ (w_47 hw)) (mvT hZ (w_24 hw)) (mvT hZ (w_48 hw)) (by decide) (backOf (W := 0) (rm_gc l Z a0 hw [] uy200 ky200 (8 : Int32) [(.int ((c0_ >>> ((0 : Int32) &&& 31)).toInt8.toInt32)), (.int ((c0_ >>> ((8 : Int32) &&& 31)).toInt8.toInt32)), (.int ((c1_ >>> ((0 : Int32) &&& 31)).toInt8.toInt32)), (.int ((c1_ >>> ((8 : Int32) &&& 31)).toInt8.toInt32)), (.int ((c2_ >>> ((0 : Int32) &&& 31)).toInt8.toInt32)), (.int ((c2_ >>> ((8 : Int32) &&& 31)).toInt8.toInt32)), (.int (((256 : Int32) >>> ((0 : Int32) &&& 31)).toInt8.toInt32)), (.int (((256 : Int32) >>> ((8 : Int32) &&& 31)).toInt8.toInt32))] (1 : Int32) (2 : Int32) (3 : Int32) ((c1_ >>> ((0 : Int32) &&& 31)).toInt8.toInt32) ((c1_ >>> ((8 : Int32) &&& 31)).toInt8.toInt32) c1_ zv gv h200 n0 Z200 Ay200 (by decide) (by decide) ⟨by decide, by decide⟩ ⟨by decide, by decide⟩ rfl rfl (own_pair9 B1) f203 hzv S0 rgv G0 Sa Sh Sl) hZ (w_48 hw) (w_24 hw) (by decide) (by decide)) (g := (mkF m 32 #[.val (.ref ua), .val (.int (0 : Int32)), .val (.int (4 : Int32)), .val (.ref b197), .val (.int (1 : Int32)), .val (.ref uy200)] [(.int (1 : Int32)), (.ref uy200)])) rfl (by rw [hml]; rfl) (argsL := [(.ref uy200), (.int (1 : Int32))]) (rest := []) (lenOf pd_6 rfl) rfl (by show 2 * 0 + _ ≤ _; exact Nat.le_of_eq rfl) (hb hby d_j52_16_32) (fun _ _ => ⟨rfl, e200, (by decide : 2 + 0 ≤ _), (by decide : 12 + 0 ≤ _)⟩)
    dsimp only [Pt.U, Pt.locs, Pt.cells, Pt.slots] at X204 l204 y204 z204 st204 hQ204
    subst l204 y204 z204
    obtain ⟨rfl, N204q, e204⟩ := hQ204
    have N204 := Fr.app N200 N204q
    refine own_go st204 ?_
    refine own_go (fun t k => XS.sipush X204.here hx rfl (hb hby d_j52_16_35) k) ?_
    show own_Go _ _ _ _ (T204.setTop (mkF m 38 #[.val (.ref ua), .val (.int (0 : Int32)), .val (.int (4 : Int32)), .val (.ref b197), .val (.int (1 : Int32)), .val (.ref uy200)] [(.int (255 : Int32)), (.int c1_)]))
    refine own_go (fun t k => XS.icmpYes X204.here hx rfl (pc0 := 38) (pc' := 54) rfl (hb hby d_j52_16_38) rfl (tlt hc).2.2.1 (by decide) (by decide) k) ?_
    refine own_go (fun t k => XS.aload X204.here hx rfl (hb hby d_j52_16_54) rfl rfl k) ?_
    show own_Go _ _ _ _ (T204.setTop (mkF m 56 #[.val (.ref ua), .val (.int (0 : Int32)), .val (.int (4 : Int32)), .val (.ref b197), .val (.int (1 : Int32)), .val (.ref uy200)] [(.ref uy200)]))
    refine own_ret X204 hx hlk hret rfl (Or.inr (Or.inr (Or.inr (Or.inr ⟨rfl, rfl, rfl⟩)))) (hb hby d_j52_16_56) ?_ (by decide) (by decide)
    rw [e204]
    exact ⟨uy200, ky200, rfl, N204, K200, (Nat.le_trans (Nat.le_trans E197.1 K198q.1) lo200), q200, Ay200⟩
  · have f205 := (((O0.ext E197).keep K198q (allS q197 all0)).keep K200q all0)
    show own_Go _ _ _ _ (T200.setTop (mkF m 32 #[.val (.ref ua), .val (.int (0 : Int32)), .val (.int (4 : Int32)), .val (.ref b197), .val (.int (2 : Int32)), .val (.ref uy200)] [(.int (2 : Int32)), (.ref uy200)]))
    obtain ⟨_, _, ⟨T206, L206, k206, n206⟩, -, X206, ⟨Lc206, hQ206, l206, y206, z206⟩, st206⟩ := Jvm.LawKit.callS X200 hx (y := (⟨"java/lang/StringUTF16", "getChar", "([BI)C"⟩ : MethodName)) hown (mvT hZ (w_46 hw)) (mvT hZ (w_47 hw)) (mvT hZ (w_24 hw)) (mvT hZ (w_48 hw)) (by decide) (backOf (W := 0) (rm_gc l Z a0 hw [] uy200 ky200 (8 : Int32) [(.int ((c0_ >>> ((0 : Int32) &&& 31)).toInt8.toInt32)), (.int ((c0_ >>> ((8 : Int32) &&& 31)).toInt8.toInt32)), (.int ((c1_ >>> ((0 : Int32) &&& 31)).toInt8.toInt32)), (.int ((c1_ >>> ((8 : Int32) &&& 31)).toInt8.toInt32)), (.int ((c2_ >>> ((0 : Int32) &&& 31)).toInt8.toInt32)), (.int ((c2_ >>> ((8 : Int32) &&& 31)).toInt8.toInt32)), (.int (((256 : Int32) >>> ((0 : Int32) &&& 31)).toInt8.toInt32)), (.int (((256 : Int32) >>> ((8 : Int32) &&& 31)).toInt8.toInt32))] (2 : Int32) (4 : Int32) (5 : Int32) ((c2_ >>> ((0 : Int32) &&& 31)).toInt8.toInt32) ((c2_ >>> ((8 : Int32) &&& 31)).toInt8.toInt32) c2_ zv gv h200 n0 Z200 Ay200 (by decide) (by decide) ⟨by decide, by decide⟩ ⟨by decide, by decide⟩ rfl rfl (own_pair9 B2) f205 hzv S0 rgv G0 Sa Sh Sl) hZ (w_48 hw) (w_24 hw) (by decide) (by decide)) (g := (mkF m 32 #[.val (.ref ua), .val (.int (0 : Int32)), .val (.int (4 : Int32)), .val (.ref b197), .val (.int (2 : Int32)), .val (.ref uy200)] [(.int (2 : Int32)), (.ref uy200)])) rfl (by rw [hml]; rfl) (argsL := [(.ref uy200), (.int (2 : Int32))]) (rest := []) (lenOf pd_6 rfl) rfl (by show 2 * 0 + _ ≤ _; exact Nat.le_of_eq rfl) (hb hby d_j52_16_32) (fun _ _ => ⟨rfl, e200, (by decide : 2 + 0 ≤ _), (by decide : 12 + 0 ≤ _)⟩)
    dsimp only [Pt.U, Pt.locs, Pt.cells, Pt.slots] at X206 l206 y206 z206 st206 hQ206
    subst l206 y206 z206
    obtain ⟨rfl, N206q, e206⟩ := hQ206
    have N206 := Fr.app N200 N206q
    refine own_go st206 ?_
    refine own_go (fun t k => XS.sipush X206.here hx rfl (hb hby d_j52_16_35) k) ?_
    show own_Go _ _ _ _ (T206.setTop (mkF m 38 #[.val (.ref ua), .val (.int (0 : Int32)), .val (.int (4 : Int32)), .val (.ref b197), .val (.int (2 : Int32)), .val (.ref uy200)] [(.int (255 : Int32)), (.int c2_)]))
    refine own_go (fun t k => XS.icmpYes X206.here hx rfl (pc0 := 38) (pc' := 54) rfl (hb hby d_j52_16_38) rfl (tlt hc).2.2.1 (by decide) (by decide) k) ?_
    refine own_go (fun t k => XS.aload X206.here hx rfl (hb hby d_j52_16_54) rfl rfl k) ?_
    show own_Go _ _ _ _ (T206.setTop (mkF m 56 #[.val (.ref ua), .val (.int (0 : Int32)), .val (.int (4 : Int32)), .val (.ref b197), .val (.int (2 : Int32)), .val (.ref uy200)] [(.ref uy200)]))
    refine own_ret X206 hx hlk hret rfl (Or.inr (Or.inr (Or.inr (Or.inr ⟨rfl, rfl, rfl⟩)))) (hb hby d_j52_16_56) ?_ (by decide) (by decide)
    rw [e206]
    exact ⟨uy200, ky200, rfl, N206, K200, (Nat.le_trans (Nat.le_trans E197.1 K198q.1) lo200), q200, Ay200⟩
  · have f207 := (((O0.ext E197).keep K198q (allS q197 all0)).keep K200q all0)
    show own_Go _ _ _ _ (T200.setTop (mkF m 32 #[.val (.ref ua), .val (.int (0 : Int32)), .val (.int (4 : Int32)), .val (.ref b197), .val (.int (3 : Int32)), .val (.ref uy200)] [(.int (3 : Int32)), (.ref uy200)]))
    obtain ⟨_, _, ⟨T208, L208, k208, n208⟩, -, X208, ⟨Lc208, hQ208, l208, y208, z208⟩, st208⟩ := Jvm.LawKit.callS X200 hx (y := (⟨"java/lang/StringUTF16", "getChar", "([BI)C"⟩ : MethodName)) hown (mvT hZ (w_46 hw)) (mvT hZ (w_47 hw)) (mvT hZ (w_24 hw)) (mvT hZ (w_48 hw)) (by decide) (backOf (W := 0) (rm_gc l Z a0 hw [] uy200 ky200 (8 : Int32) [(.int ((c0_ >>> ((0 : Int32) &&& 31)).toInt8.toInt32)), (.int ((c0_ >>> ((8 : Int32) &&& 31)).toInt8.toInt32)), (.int ((c1_ >>> ((0 : Int32) &&& 31)).toInt8.toInt32)), (.int ((c1_ >>> ((8 : Int32) &&& 31)).toInt8.toInt32)), (.int ((c2_ >>> ((0 : Int32) &&& 31)).toInt8.toInt32)), (.int ((c2_ >>> ((8 : Int32) &&& 31)).toInt8.toInt32)), (.int (((256 : Int32) >>> ((0 : Int32) &&& 31)).toInt8.toInt32)), (.int (((256 : Int32) >>> ((8 : Int32) &&& 31)).toInt8.toInt32))] (3 : Int32) (6 : Int32) (7 : Int32) (((256 : Int32) >>> ((0 : Int32) &&& 31)).toInt8.toInt32) (((256 : Int32) >>> ((8 : Int32) &&& 31)).toInt8.toInt32) (256 : Int32) zv gv h200 n0 Z200 Ay200 (by decide) (by decide) ⟨by decide, by decide⟩ ⟨by decide, by decide⟩ rfl rfl (own_pair9 own_B256) f207 hzv S0 rgv G0 Sa Sh Sl) hZ (w_48 hw) (w_24 hw) (by decide) (by decide)) (g := (mkF m 32 #[.val (.ref ua), .val (.int (0 : Int32)), .val (.int (4 : Int32)), .val (.ref b197), .val (.int (3 : Int32)), .val (.ref uy200)] [(.int (3 : Int32)), (.ref uy200)])) rfl (by rw [hml]; rfl) (argsL := [(.ref uy200), (.int (3 : Int32))]) (rest := []) (lenOf pd_6 rfl) rfl (by show 2 * 0 + _ ≤ _; exact Nat.le_of_eq rfl) (hb hby d_j52_16_32) (fun _ _ => ⟨rfl, e200, (by decide : 2 + 0 ≤ _), (by decide : 12 + 0 ≤ _)⟩)
    dsimp only [Pt.U, Pt.locs, Pt.cells, Pt.slots] at X208 l208 y208 z208 st208 hQ208
    subst l208 y208 z208
    obtain ⟨rfl, N208q, e208⟩ := hQ208
    have N208 := Fr.app N200 N208q
    refine own_go st208 ?_
    refine own_go (fun t k => XS.sipush X208.here hx rfl (hb hby d_j52_16_35) k) ?_
    show own_Go _ _ _ _ (T208.setTop (mkF m 38 #[.val (.ref ua), .val (.int (0 : Int32)), .val (.int (4 : Int32)), .val (.ref b197), .val (.int (3 : Int32)), .val (.ref uy200)] [(.int (255 : Int32)), (.int (256 : Int32))]))
    refine own_go (fun t k => XS.icmpYes X208.here hx rfl (pc0 := 38) (pc' := 54) rfl (hb hby d_j52_16_38) rfl (tlt (by decide : (255 : Int32) < (256 : Int32))).2.2.1 (by decide) (by decide) k) ?_
    refine own_go (fun t k => XS.aload X208.here hx rfl (hb hby d_j52_16_54) rfl rfl k) ?_
    show own_Go _ _ _ _ (T208.setTop (mkF m 56 #[.val (.ref ua), .val (.int (0 : Int32)), .val (.int (4 : Int32)), .val (.ref b197), .val (.int (3 : Int32)), .val (.ref uy200)] [(.ref uy200)]))
    refine own_ret X208 hx hlk hret rfl (Or.inr (Or.inr (Or.inr (Or.inr ⟨rfl, rfl, rfl⟩)))) (hb hby d_j52_16_56) ?_ (by decide) (by decide)
    rw [e208]
    exact ⟨uy200, ky200, rfl, N208, K200, (Nat.le_trans (Nat.le_trans E197.1 K198q.1) lo200), q200, Ay200⟩
def Q_cfl_4 (Z : State) (ub : Addr) (kb : ClassId) (vs : List Value) (h0 : Heap) (n0 : Nat) (v : Option Value) (h : Heap) (L : List Loc) : Prop := v = some (.int 1) ∧ Fr n0 L ∧ h = h0
theorem ef_cfl_4 (m : MethodId) (ub : Addr) : entryFrame m #[(.ref ub), (.int (4 : Int32))] 2 = mkF m 0 #[.val (.ref ub), .val (.int (4 : Int32))] [] := by first | (simp [entryFrame, mkF, argsToLocals, Value.category]; done) | rfl
theorem d_j52_15_0 : decode jdk_52_method_15_code 0 = .ok (.iload_n 1, 1) := by decide +kernel
theorem d_j52_15_1 : decode jdk_52_method_15_code 1 = .ok (.aload_n 0, 1) := by decide +kernel
theorem d_j52_15_2 : decode jdk_52_method_15_code 2 = .ok (.arraylength, 1) := by decide +kernel
theorem d_j52_15_3 : decode jdk_52_method_15_code 3 = .ok (.isub, 1) := by decide +kernel
theorem d_j52_15_4 : decode jdk_52_method_15_code 4 = .ok (.bipush 31, 2) := by decide +kernel
theorem d_j52_15_6 : decode jdk_52_method_15_code 6 = .ok (.iushr, 1) := by decide +kernel
theorem d_j52_15_7 : decode jdk_52_method_15_code 7 = .ok (.i2b, 1) := by decide +kernel
theorem d_j52_15_8 : decode jdk_52_method_15_code 8 = .ok (.ireturn, 1) := by decide +kernel
set_option maxRecDepth 65536 in
set_option maxHeartbeats 40000000 in
theorem rm_cfl_4 (l : Launch) (Z : State) (a0 : Array Value) (hw : ∀ d ∈ tables_1, d.before a0 Z = true) (ws : List Jvm.Cond) (ub : Addr) (kb : ClassId) (vs : List Value) (h0 : Heap) (n0 : Nat) (Z0 : n0 ≤ h0.size) (A0 : Arv Z h0 ub kb .byte (8 : Int32) vs (.int (0 : Int32))) :
    own_Met l Z (⟨"java/lang/StringUTF16", "coderFromArrayLen", "([BI)B"⟩ : MethodName) jdk_52_method_15_code 2 (some .byte) ws ({ frames := 0, cells := 0, slots := 0, locals := 0 } : Room) #[(.ref ub), (.int (4 : Int32))] h0 (Q_cfl_4 Z ub kb vs h0 n0) := by
  refine own_enter (own := "java/lang/StringUTF16") (plainFor_of_name pn_4) rfl ?_
  intro p e s m below meth c s₁ hlk hret hx hby hml hown hnm hZ X0 e0
  have N0 := Fr.nil n0
  refine own_cast (ef_cfl_4 m ub) ?_
  show own_Go _ _ _ _ (s₁.setTop (mkF m 0 #[.val (.ref ub), .val (.int (4 : Int32))] []))
  refine own_go (fun t k => XS.iloadN X0.here hx rfl (hb hby d_j52_15_0) rfl k) ?_
  refine own_go (fun t k => XS.aloadN X0.here hx rfl (hb hby d_j52_15_1) rfl rfl k) ?_
  show own_Go _ _ _ _ (s₁.setTop (mkF m 2 #[.val (.ref ub), .val (.int (4 : Int32))] [(.ref ub), (.int (4 : Int32))]))
  obtain ⟨cl209, Ar209, qk209, sz209, nn209, ha209, gf209⟩ := id A0
  refine own_go (X0.arraylength hx (by rw [e0]; exact Ar209.1) (State.isArrayOf_alike hZ.alike Ar209.2.1) (g := (mkF m 2 #[.val (.ref ub), .val (.int (4 : Int32))] [(.ref ub), (.int (4 : Int32))])) rfl rfl (hb hby d_j52_15_2)) ?_
  rw [len_of sz209 nn209]
  refine own_go (fun t k => XS.isub X0.here hx rfl (hb hby d_j52_15_3) rfl k) ?_
  refine own_go (fun t k => XS.bipush X0.here hx rfl (hb hby d_j52_15_4) k) ?_
  refine own_go (fun t k => XS.iushr X0.here hx rfl (hb hby d_j52_15_6) rfl k) ?_
  show own_Go _ _ _ _ (s₁.setTop (mkF m 7 #[.val (.ref ub), .val (.int (4 : Int32))] [(.int (1 : Int32))]))
  refine own_go (fun t k => XS.i2b X0.here hx rfl (hb hby d_j52_15_7) rfl k) ?_
  show own_Go _ _ _ _ (s₁.setTop (mkF m 8 #[.val (.ref ub), .val (.int (4 : Int32))] [(.int (1 : Int32))]))
  refine own_retN X0 hx hlk (t := .byte) hret (by simp) (hb hby d_j52_15_8) ?_ (by decide) (by decide)
  rw [e0]
  exact ⟨rfl, N0, rfl⟩
def Q_si_4 (Z : State) (us : Addr) (ua : Addr) (ka : ClassId) (c0_ : Int32) (c1_ : Int32) (c2_ : Int32) (zv : Int32) (gv : Value) (h0 : Heap) (n0 : Nat) (v : Option Value) (h : Heap) (L : List Loc) : Prop := ∃ (ub : Addr) (kb : ClassId), v = none ∧ Fr n0 L ∧ Keep h0 h [us] ∧ Fld Z h us "java/lang/String" "coder" "B" (.int (1 : Int32)) ∧ Fld Z h us "java/lang/String" "value" "[B" (.ref ub) ∧ h0.size ≤ ub ∧ n0 ≤ ub ∧ Arv Z h ub kb .byte (8 : Int32) [(.int ((c0_ >>> ((0 : Int32) &&& 31)).toInt8.toInt32)), (.int ((c0_ >>> ((8 : Int32) &&& 31)).toInt8.toInt32)), (.int ((c1_ >>> ((0 : Int32) &&& 31)).toInt8.toInt32)), (.int ((c1_ >>> ((8 : Int32) &&& 31)).toInt8.toInt32)), (.int ((c2_ >>> ((0 : Int32) &&& 31)).toInt8.toInt32)), (.int ((c2_ >>> ((8 : Int32) &&& 31)).toInt8.toInt32)), (.int (((256 : Int32) >>> ((0 : Int32) &&& 31)).toInt8.toInt32)), (.int (((256 : Int32) >>> ((8 : Int32) &&& 31)).toInt8.toInt32))] (.int (0 : Int32))
theorem ef_si_4 (m : MethodId) (us : Addr) (ua : Addr) : entryFrame m #[(.ref us), (.ref ua), (.int (0 : Int32)), (.int (4 : Int32)), .null] 6 = mkF m 0 #[.val (.ref us), .val (.ref ua), .val (.int (0 : Int32)), .val (.int (4 : Int32)), .val .null, .unset] [] := by first | (simp [entryFrame, mkF, argsToLocals, Value.category]; done) | rfl
theorem d_j42_149_0 : decode jdk_42_method_149_code 0 = .ok (.aload_n 0, 1) := by decide +kernel
theorem w_18 {Z : State} {a0 : Array Value} (hw : ∀ d ∈ tables_1, d.before a0 Z = true) : (Jvm.Cond.methodLink "java/lang/String" (1 : Nat) ({ cls := "java/lang/Object", name := "<init>", desc := "()V" } : Jvm.MethodName)).before a0 Z = true := hw _ (List.mem_of_getElem? (i := 18) rfl)
theorem w_20 {Z : State} {a0 : Array Value} (hw : ∀ d ∈ tables_1, d.before a0 Z = true) : (Jvm.Cond.code ({ cls := "java/lang/Object", name := "<init>", desc := "()V" } : Jvm.MethodName) object_method_1_code (1 : Nat) (Option.none : Option Jvm.ClassFile.FieldType)).before a0 Z = true := hw _ (List.mem_of_getElem? (i := 20) rfl)
theorem w_19 {Z : State} {a0 : Array Value} (hw : ∀ d ∈ tables_1, d.before a0 Z = true) : (Jvm.Cond.instanceMethod ({ cls := "java/lang/Object", name := "<init>", desc := "()V" } : Jvm.MethodName)).before a0 Z = true := hw _ (List.mem_of_getElem? (i := 19) rfl)
theorem d_j42_149_1 : decode jdk_42_method_149_code 1 = .ok (.invokespecial 1, 3) := by decide +kernel
theorem d_j42_149_4 : decode jdk_42_method_149_code 4 = .ok (.iload_n 3, 1) := by decide +kernel
theorem d_j42_149_5 : decode jdk_42_method_149_code 5 = .ok (.ifCond .ne 22, 3) := by decide +kernel
theorem d_j42_149_27 : decode jdk_42_method_149_code 27 = .ok (.getstatic 38, 3) := by decide +kernel
theorem d_j42_149_30 : decode jdk_42_method_149_code 30 = .ok (.ifCond .eq 28, 3) := by decide +kernel
theorem d_j42_149_33 : decode jdk_42_method_149_code 33 = .ok (.aload_n 1, 1) := by decide +kernel
theorem d_j42_149_34 : decode jdk_42_method_149_code 34 = .ok (.iload_n 2, 1) := by decide +kernel
theorem d_j42_149_35 : decode jdk_42_method_149_code 35 = .ok (.iload_n 3, 1) := by decide +kernel
theorem w_22 {Z : State} {a0 : Array Value} (hw : ∀ d ∈ tables_1, d.before a0 Z = true) : (Jvm.Cond.methodLink "java/lang/String" (177 : Nat) ({ cls := "java/lang/StringUTF16", name := "compress", desc := "([CII)[B" } : Jvm.MethodName)).before a0 Z = true := hw _ (List.mem_of_getElem? (i := 22) rfl)
theorem w_25 {Z : State} {a0 : Array Value} (hw : ∀ d ∈ tables_1, d.before a0 Z = true) : (Jvm.Cond.code ({ cls := "java/lang/StringUTF16", name := "compress", desc := "([CII)[B" } : Jvm.MethodName) jdk_52_method_16_code (6 : Nat) (Option.some (Jvm.ClassFile.FieldType.array Jvm.ClassFile.FieldType.byte))).before a0 Z = true := hw _ (List.mem_of_getElem? (i := 25) rfl)
theorem d_j42_149_36 : decode jdk_42_method_149_code 36 = .ok (.invokestatic 177, 3) := by decide +kernel
theorem w_23 {Z : State} {a0 : Array Value} (hw : ∀ d ∈ tables_1, d.before a0 Z = true) : (Jvm.Cond.static ({ cls := "java/lang/StringUTF16", name := "compress", desc := "([CII)[B" } : Jvm.MethodName)).before a0 Z = true := hw _ (List.mem_of_getElem? (i := 23) rfl)
theorem d_j42_149_39 : decode jdk_42_method_149_code 39 = .ok (.astore 5, 2) := by decide +kernel
theorem d_j42_149_41 : decode jdk_42_method_149_code 41 = .ok (.aload_n 0, 1) := by decide +kernel
theorem d_j42_149_42 : decode jdk_42_method_149_code 42 = .ok (.aload 5, 2) := by decide +kernel
theorem d_j42_149_44 : decode jdk_42_method_149_code 44 = .ok (.iload_n 3, 1) := by decide +kernel
theorem w_49 {Z : State} {a0 : Array Value} (hw : ∀ d ∈ tables_1, d.before a0 Z = true) : (Jvm.Cond.methodLink "java/lang/String" (47 : Nat) ({ cls := "java/lang/StringUTF16", name := "coderFromArrayLen", desc := "([BI)B" } : Jvm.MethodName)).before a0 Z = true := hw _ (List.mem_of_getElem? (i := 49) rfl)
theorem w_51 {Z : State} {a0 : Array Value} (hw : ∀ d ∈ tables_1, d.before a0 Z = true) : (Jvm.Cond.code ({ cls := "java/lang/StringUTF16", name := "coderFromArrayLen", desc := "([BI)B" } : Jvm.MethodName) jdk_52_method_15_code (2 : Nat) (Option.some Jvm.ClassFile.FieldType.byte)).before a0 Z = true := hw _ (List.mem_of_getElem? (i := 51) rfl)
theorem pd_16 : parseMethodDescriptor "([BI)B" = some ⟨[(.array .byte), .int], some .byte⟩ := by decide +kernel
theorem d_j42_149_45 : decode jdk_42_method_149_code 45 = .ok (.invokestatic 47, 3) := by decide +kernel
theorem w_50 {Z : State} {a0 : Array Value} (hw : ∀ d ∈ tables_1, d.before a0 Z = true) : (Jvm.Cond.static ({ cls := "java/lang/StringUTF16", name := "coderFromArrayLen", desc := "([BI)B" } : Jvm.MethodName)).before a0 Z = true := hw _ (List.mem_of_getElem? (i := 50) rfl)
theorem w_9 {Z : State} {a0 : Array Value} (hw : ∀ d ∈ tables_1, d.before a0 Z = true) : (Jvm.Cond.instantiable "java/lang/String" (4 : Nat)).before a0 Z = true := hw _ (List.mem_of_getElem? (i := 9) rfl)
theorem w_53 {Z : State} {a0 : Array Value} (hw : ∀ d ∈ tables_1, d.before a0 Z = true) : (Jvm.Cond.laysFinal "java/lang/String" "java/lang/String" "coder" "B").before a0 Z = true := hw _ (List.mem_of_getElem? (i := 53) rfl)
theorem d_j42_149_48 : decode jdk_42_method_149_code 48 = .ok (.putfield 15, 3) := by decide +kernel
theorem d_j42_149_51 : decode jdk_42_method_149_code 51 = .ok (.aload_n 0, 1) := by decide +kernel
theorem d_j42_149_52 : decode jdk_42_method_149_code 52 = .ok (.aload 5, 2) := by decide +kernel
theorem w_55 {Z : State} {a0 : Array Value} (hw : ∀ d ∈ tables_1, d.before a0 Z = true) : (Jvm.Cond.laysFinal "java/lang/String" "java/lang/String" "value" "[B").before a0 Z = true := hw _ (List.mem_of_getElem? (i := 55) rfl)
theorem d_j42_149_54 : decode jdk_42_method_149_code 54 = .ok (.putfield 9, 3) := by decide +kernel
theorem d_j42_149_57 : decode jdk_42_method_149_code 57 = .ok (.return_, 1) := by decide +kernel
set_option maxRecDepth 65536 in
set_option maxHeartbeats 40000000 in
theorem rm_si_4 (l : Launch) (Z : State) (a0 : Array Value) (hw : ∀ d ∈ tables_1, d.before a0 Z = true) (ws : List Jvm.Cond) (us ua : Addr) (ka : ClassId) (c0_ c1_ c2_ zv : Int32) (gv : Value) (h0 : Heap) (n0 : Nat) (Z0 : n0 ≤ h0.size) (q1 : n0 ≤ us) (Ex0 : Exa Z h0 us "java/lang/String") (Va1 : Fld Z h0 us "java/lang/String" "value" "[B" .null) (Cd1 : Fld Z h0 us "java/lang/String" "coder" "B" (.int (0 : Int32))) (Ac : Arv Z h0 ua ka .char (4 : Int32) [(.int c0_), (.int c1_), (.int c2_), (.int (256 : Int32))] (.int (0 : Int32))) (B0 : own_B9 c0_) (B1 : own_B9 c1_) (B2 : own_B9 c2_) (O0 : Old Z n0 h0) (hzv : ¬ zv = (0 : Int32)) (S0 : Sta Z Z.heap "java/lang/String" "COMPACT_STRINGS" "Z" (.int zv)) (rgv : gv.isRef = true) (G0 : Sta Z Z.heap "jdk/internal/util/Preconditions" "SIOOBE_FORMATTER" "Ljava/util/function/BiFunction;" gv) (Sa : Sta Z Z.heap "java/lang/StringUTF16" "$assertionsDisabled" "Z" (.int (1 : Int32))) (Sh : Sta Z Z.heap "java/lang/StringUTF16" "HI_BYTE_SHIFT" "I" (.int (0 : Int32))) (Sl : Sta Z Z.heap "java/lang/StringUTF16" "LO_BYTE_SHIFT" "I" (.int (8 : Int32))) :
    own_Met l Z (⟨"java/lang/String", "<init>", "([CIILjava/lang/Void;)V"⟩ : MethodName) jdk_42_method_149_code 6 none ws ({ frames := 4, cells := 2, slots := 12, locals := 57 } : Room) #[(.ref us), (.ref ua), (.int (0 : Int32)), (.int (4 : Int32)), .null] h0 (Q_si_4 Z us ua ka c0_ c1_ c2_ zv gv h0 n0) := by
  refine own_enter (own := "java/lang/String") (plainFor_of_name pn_3) rfl ?_
  intro p e s m below meth c s₁ hlk hret hx hby hml hown hnm hZ X0 e0
  have N0 := Fr.nil n0
  refine own_cast (ef_si_4 m us ua) ?_
  show own_Go _ _ _ _ (s₁.setTop (mkF m 0 #[.val (.ref us), .val (.ref ua), .val (.int (0 : Int32)), .val (.int (4 : Int32)), .val .null, .unset] []))
  refine own_go (fun t k => XS.aloadN X0.here hx rfl (hb hby d_j42_149_0) rfl rfl k) ?_
  show own_Go _ _ _ _ (s₁.setTop (mkF m 1 #[.val (.ref us), .val (.ref ua), .val (.int (0 : Int32)), .val (.int (4 : Int32)), .val .null, .unset] [(.ref us)]))
  obtain ⟨T210, X210, e210, st210⟩ := initO X0 hx hZ hown (w_18 hw) (w_19 hw) (w_20 hw) e0 (g := (mkF m 1 #[.val (.ref us), .val (.ref ua), .val (.int (0 : Int32)), .val (.int (4 : Int32)), .val .null, .unset] [(.ref us)])) rfl (by rw [hml]; rfl) rfl (hb hby d_j42_149_1) (by decide) (W := 0) (by show 2 * 0 + _ ≤ _; exact Nat.le_of_eq rfl) (by decide)
  refine own_go st210 ?_
  refine own_go (fun t k => XS.iloadN X210.here hx rfl (hb hby d_j42_149_4) rfl k) ?_
  show own_Go _ _ _ _ (T210.setTop (mkF m 5 #[.val (.ref us), .val (.ref ua), .val (.int (0 : Int32)), .val (.int (4 : Int32)), .val .null, .unset] [(.int (4 : Int32))]))
  refine own_go (fun t k => XS.ifYes X210.here hx rfl (pc0 := 5) (pc' := 27) rfl (hb hby d_j42_149_5) rfl ((if0 _ _).trans (feq (by decide : ¬ ((4 : Int32) = (0 : Int32)))).2) (by decide) (by decide) k) ?_
  show own_Go _ _ _ _ (T210.setTop (mkF m 27 #[.val (.ref us), .val (.ref ua), .val (.int (0 : Int32)), .val (.int (4 : Int32)), .val .null, .unset] []))
  obtain ⟨T211, X211, e211, st211⟩ := getS2 X210 hx hZ hown (host := "") (Or.inl (w_21 hw)) Via.refl e210 (S0.ext O0.2) (g := (mkF m 27 #[.val (.ref us), .val (.ref ua), .val (.int (0 : Int32)), .val (.int (4 : Int32)), .val .null, .unset] [])) rfl (hb hby d_j42_149_27)
  refine own_go st211 ?_
  show own_Go _ _ _ _ (T211.setTop (mkF m 30 #[.val (.ref us), .val (.ref ua), .val (.int (0 : Int32)), .val (.int (4 : Int32)), .val .null, .unset] [(.int zv)]))
  refine own_go (fun t k => XS.ifNo X211.here hx rfl (hb hby d_j42_149_30) rfl ((if0 _ _).trans (feq hzv).1) k) ?_
  refine own_go (fun t k => XS.aloadN X211.here hx rfl (hb hby d_j42_149_33) rfl rfl k) ?_
  refine own_go (fun t k => XS.iloadN X211.here hx rfl (hb hby d_j42_149_34) rfl k) ?_
  refine own_go (fun t k => XS.iloadN X211.here hx rfl (hb hby d_j42_149_35) rfl k) ?_
  show own_Go _ _ _ _ (T211.setTop (mkF m 36 #[.val (.ref us), .val (.ref ua), .val (.int (0 : Int32)), .val (.int (4 : Int32)), .val .null, .unset] [(.int (4 : Int32)), (.int (0 : Int32)), (.ref ua)]))
  obtain ⟨_, _, ⟨T212, L212, k212, n212⟩, -, X212, ⟨Lc212, hQ212, l212, y212, z212⟩, st212⟩ := Jvm.LawKit.callS X211 hx (y := (⟨"java/lang/StringUTF16", "compress", "([CII)[B"⟩ : MethodName)) hown (mvT hZ (w_22 hw)) (mvT hZ (w_23 hw)) (mvT hZ (w_24 hw)) (mvT hZ (w_25 hw)) (by decide) (backOf (W := 0) (rm_k3_4 l Z a0 hw [] ua ka c0_ c1_ c2_ zv gv h0 n0 Z0 Ac B0 B1 B2 O0 hzv S0 rgv G0 Sa Sh Sl) hZ (w_25 hw) (w_24 hw) (by decide) (by decide)) (g := (mkF m 36 #[.val (.ref us), .val (.ref ua), .val (.int (0 : Int32)), .val (.int (4 : Int32)), .val .null, .unset] [(.int (4 : Int32)), (.int (0 : Int32)), (.ref ua)])) rfl (by rw [hml]; rfl) (argsL := [(.ref ua), (.int (0 : Int32)), (.int (4 : Int32))]) (rest := []) (lenOf pd_15 rfl) rfl (by show 2 * 0 + _ ≤ _; exact Nat.le_of_eq rfl) (hb hby d_j42_149_36) (fun _ _ => ⟨rfl, e211, (by decide : 0 + 2 ≤ _), (by decide : 0 + 12 ≤ _)⟩)
  dsimp only [Pt.U, Pt.locs, Pt.cells, Pt.slots] at X212 l212 y212 z212 st212 hQ212
  subst l212 y212 z212
  generalize e212 : T212.heap = h212 at hQ212
  obtain ⟨uy212, ky212, rfl, N212q, K212q, lo212, q212, Ay212⟩ := hQ212
  have N212 := Fr.app N0 N212q
  refine own_go st212 ?_
  have Z212 : n0 ≤ h212.size := (Nat.le_trans Z0 K212q.1)
  have K212 : Keep h0 h212 [us] := (Keep.refl h0 [us]).trans K212q all0
  have hi212 := Ay212.lt
  refine own_go (fun t k => XS.astore X212.here hx rfl (hb hby d_j42_149_39) rfl rfl (l' := #[.val (.ref us), .val (.ref ua), .val (.int (0 : Int32)), .val (.int (4 : Int32)), .val .null, .val (.ref uy212)]) rfl k) ?_
  refine own_go (fun t k => XS.aloadN X212.here hx rfl (hb hby d_j42_149_41) rfl rfl k) ?_
  refine own_go (fun t k => XS.aload X212.here hx rfl (hb hby d_j42_149_42) rfl rfl k) ?_
  show own_Go _ _ _ _ (T212.setTop (mkF m 44 #[.val (.ref us), .val (.ref ua), .val (.int (0 : Int32)), .val (.int (4 : Int32)), .val .null, .val (.ref uy212)] [(.ref uy212), (.ref us)]))
  refine own_go (fun t k => XS.iloadN X212.here hx rfl (hb hby d_j42_149_44) rfl k) ?_
  obtain ⟨_, _, ⟨T213, L213, k213, n213⟩, -, X213, ⟨Lc213, hQ213, l213, y213, z213⟩, st213⟩ := Jvm.LawKit.callS X212 hx (y := (⟨"java/lang/StringUTF16", "coderFromArrayLen", "([BI)B"⟩ : MethodName)) hown (mvT hZ (w_49 hw)) (mvT hZ (w_50 hw)) (mvT hZ (w_24 hw)) (mvT hZ (w_51 hw)) (by decide) (backOf (W := 1) (rm_cfl_4 l Z a0 hw [] uy212 ky212 [(.int ((c0_ >>> ((0 : Int32) &&& 31)).toInt8.toInt32)), (.int ((c0_ >>> ((8 : Int32) &&& 31)).toInt8.toInt32)), (.int ((c1_ >>> ((0 : Int32) &&& 31)).toInt8.toInt32)), (.int ((c1_ >>> ((8 : Int32) &&& 31)).toInt8.toInt32)), (.int ((c2_ >>> ((0 : Int32) &&& 31)).toInt8.toInt32)), (.int ((c2_ >>> ((8 : Int32) &&& 31)).toInt8.toInt32)), (.int (((256 : Int32) >>> ((0 : Int32) &&& 31)).toInt8.toInt32)), (.int (((256 : Int32) >>> ((8 : Int32) &&& 31)).toInt8.toInt32))] h212 n0 Z212 Ay212) hZ (w_51 hw) (w_24 hw) (by decide) (by decide)) (g := (mkF m 45 #[.val (.ref us), .val (.ref ua), .val (.int (0 : Int32)), .val (.int (4 : Int32)), .val .null, .val (.ref uy212)] [(.int (4 : Int32)), (.ref uy212), (.ref us)])) rfl (by rw [hml]; rfl) (argsL := [(.ref uy212), (.int (4 : Int32))]) (rest := [(.ref us)]) (lenOf pd_16 rfl) rfl (by show 2 * 0 + _ ≤ _; exact Nat.le_of_eq rfl) (hb hby d_j42_149_45) (fun _ _ => ⟨rfl, e212, (by decide : 2 + 0 ≤ _), (by decide : 12 + 0 ≤ _)⟩)
  dsimp only [Pt.U, Pt.locs, Pt.cells, Pt.slots] at X213 l213 y213 z213 st213 hQ213
  subst l213 y213 z213
  obtain ⟨rfl, N213q, e213⟩ := hQ213
  have N213 := Fr.app N212 N213q
  refine own_go st213 ?_
  show own_Go _ _ _ _ (T213.setTop (mkF m 48 #[.val (.ref us), .val (.ref ua), .val (.int (0 : Int32)), .val (.int (4 : Int32)), .val .null, .val (.ref uy212)] [(.int (1 : Int32)), (.ref us)]))
  obtain ⟨T214, h214, X214, e214, W214, st214⟩ := putFN X213 hx hZ hown (w_52 hw) Via.refl e213 (Cd1.keep K212q nin0) (Ex0.keep K212q) (Or.inr ⟨(w_53 hw), rfl, hnm⟩) (w_9 hw) (ty := .byte) (v' := (.int (1 : Int32))) (by decide) rfl rfl (g := (mkF m 48 #[.val (.ref us), .val (.ref ua), .val (.int (0 : Int32)), .val (.int (4 : Int32)), .val .null, .val (.ref uy212)] [(.int (1 : Int32)), (.ref us)])) rfl rfl (hb hby d_j42_149_48)
  refine own_go st214 ?_
  have F214 := (Cd1.keep K212q nin0).same W214
  have Z214 : n0 ≤ h214.size := (Nat.le_trans Z212 (Nat.le_of_eq W214.size.symm))
  have N214 := Fr.snoc X214 N213 q1
  have K214 : Keep h0 h214 [us] := K212.wr W214 (Or.inl (List.mem_of_getElem? (i := 0) rfl))
  refine own_go (fun t k => XS.aloadN X214.here hx rfl (hb hby d_j42_149_51) rfl rfl k) ?_
  refine own_go (fun t k => XS.aload X214.here hx rfl (hb hby d_j42_149_52) rfl rfl k) ?_
  show own_Go _ _ _ _ (T214.setTop (mkF m 54 #[.val (.ref us), .val (.ref ua), .val (.int (0 : Int32)), .val (.int (4 : Int32)), .val .null, .val (.ref uy212)] [(.ref uy212), (.ref us)]))
  have f215 := ((Va1.keep K212q nin0).other W214 (Or.inr (slot_ne (Or.inr (w_55 hw)) (Or.inr (w_53 hw)) (by decide) (t := (.array .byte)) (t' := .byte) (by decide) (by decide))))
  obtain ⟨T216, h216, X216, e216, W216, st216⟩ := putF X214 hx hZ hown (host := "") (Or.inl (w_54 hw)) Via.refl e214 f215 ((Ex0.keep K212q).wr W214) (Or.inr ⟨(w_55 hw), rfl, hnm⟩) (w_9 hw) (ty := (.array .byte)) (by decide) rfl rfl (g := (mkF m 54 #[.val (.ref us), .val (.ref ua), .val (.int (0 : Int32)), .val (.int (4 : Int32)), .val .null, .val (.ref uy212)] [(.ref uy212), (.ref us)])) rfl rfl (hb hby d_j42_149_54)
  refine own_go st216 ?_
  have F216 := f215.same W216
  have Z216 : n0 ≤ h216.size := (Nat.le_trans Z214 (Nat.le_of_eq W216.size.symm))
  have N216 := Fr.snoc X216 N214 q1
  have K216 : Keep h0 h216 [us] := K214.wr W216 (Or.inl (List.mem_of_getElem? (i := 0) rfl))
  have f217 := (F214.other W216 (Or.inr (slot_ne (Or.inr (w_53 hw)) (Or.inr (w_55 hw)) (by decide) (t := .byte) (t' := (.array .byte)) (by decide) (by decide))))
  have f218 := ((Ay212.other W214 (Ne.symm (Nat.ne_of_lt (Nat.lt_of_lt_of_le Ex0.lt lo212)))).other W216 (Ne.symm (Nat.ne_of_lt (Nat.lt_of_lt_of_le Ex0.lt lo212))))
  show own_Go _ _ _ _ (T216.setTop (mkF m 57 #[.val (.ref us), .val (.ref ua), .val (.int (0 : Int32)), .val (.int (4 : Int32)), .val .null, .val (.ref uy212)] []))
  refine own_retV X216 hx hlk hret (hb hby d_j42_149_57) ?_ (by decide) (by decide)
  rw [e216]
  exact ⟨uy212, ky212, rfl, N216, K216, f217, F216, lo212, q212, f218⟩
def Q_s_4 (Z : State) (us : Addr) (ua : Addr) (ka : ClassId) (c0_ : Int32) (c1_ : Int32) (c2_ : Int32) (zv : Int32) (gv : Value) (h0 : Heap) (n0 : Nat) (v : Option Value) (h : Heap) (L : List Loc) : Prop := ∃ (ub : Addr) (kb : ClassId), v = none ∧ Fr n0 L ∧ Keep h0 h [us] ∧ Fld Z h us "java/lang/String" "coder" "B" (.int (1 : Int32)) ∧ Fld Z h us "java/lang/String" "value" "[B" (.ref ub) ∧ h0.size ≤ ub ∧ n0 ≤ ub ∧ Arv Z h ub kb .byte (8 : Int32) [(.int ((c0_ >>> ((0 : Int32) &&& 31)).toInt8.toInt32)), (.int ((c0_ >>> ((8 : Int32) &&& 31)).toInt8.toInt32)), (.int ((c1_ >>> ((0 : Int32) &&& 31)).toInt8.toInt32)), (.int ((c1_ >>> ((8 : Int32) &&& 31)).toInt8.toInt32)), (.int ((c2_ >>> ((0 : Int32) &&& 31)).toInt8.toInt32)), (.int ((c2_ >>> ((8 : Int32) &&& 31)).toInt8.toInt32)), (.int (((256 : Int32) >>> ((0 : Int32) &&& 31)).toInt8.toInt32)), (.int (((256 : Int32) >>> ((8 : Int32) &&& 31)).toInt8.toInt32))] (.int (0 : Int32))
theorem ef_s_4 (m : MethodId) (us : Addr) (ua : Addr) : entryFrame m #[(.ref us), (.ref ua)] 2 = mkF m 0 #[.val (.ref us), .val (.ref ua)] [] := by first | (simp [entryFrame, mkF, argsToLocals, Value.category]; done) | rfl
theorem d_j42_3_0 : decode jdk_42_method_3_code 0 = .ok (.aload_n 0, 1) := by decide +kernel
theorem d_j42_3_1 : decode jdk_42_method_3_code 1 = .ok (.aload_n 1, 1) := by decide +kernel
theorem d_j42_3_2 : decode jdk_42_method_3_code 2 = .ok (.iconst 0, 1) := by decide +kernel
theorem d_j42_3_3 : decode jdk_42_method_3_code 3 = .ok (.aload_n 1, 1) := by decide +kernel
theorem d_j42_3_4 : decode jdk_42_method_3_code 4 = .ok (.arraylength, 1) := by decide +kernel
theorem d_j42_3_5 : decode jdk_42_method_3_code 5 = .ok (.aconst_null, 1) := by decide +kernel
theorem w_14 {Z : State} {a0 : Array Value} (hw : ∀ d ∈ tables_1, d.before a0 Z = true) : (Jvm.Cond.methodLink "java/lang/String" (27 : Nat) ({ cls := "java/lang/String", name := "<init>", desc := "([CIILjava/lang/Void;)V" } : Jvm.MethodName)).before a0 Z = true := hw _ (List.mem_of_getElem? (i := 14) rfl)
theorem w_17 {Z : State} {a0 : Array Value} (hw : ∀ d ∈ tables_1, d.before a0 Z = true) : (Jvm.Cond.code ({ cls := "java/lang/String", name := "<init>", desc := "([CIILjava/lang/Void;)V" } : Jvm.MethodName) jdk_42_method_149_code (6 : Nat) (Option.none : Option Jvm.ClassFile.FieldType)).before a0 Z = true := hw _ (List.mem_of_getElem? (i := 17) rfl)
theorem pd_17 : parseMethodDescriptor "([CIILjava/lang/Void;)V" = some ⟨[(.array .char), .int, .int, (.object "java/lang/Void")], none⟩ := by decide +kernel
theorem d_j42_3_6 : decode jdk_42_method_3_code 6 = .ok (.invokespecial 27, 3) := by decide +kernel
theorem w_15 {Z : State} {a0 : Array Value} (hw : ∀ d ∈ tables_1, d.before a0 Z = true) : (Jvm.Cond.instanceMethod ({ cls := "java/lang/String", name := "<init>", desc := "([CIILjava/lang/Void;)V" } : Jvm.MethodName)).before a0 Z = true := hw _ (List.mem_of_getElem? (i := 15) rfl)
theorem d_j42_3_9 : decode jdk_42_method_3_code 9 = .ok (.return_, 1) := by decide +kernel
set_option maxRecDepth 65536 in
set_option maxHeartbeats 40000000 in
theorem rm_s_4 (l : Launch) (Z : State) (a0 : Array Value) (hw : ∀ d ∈ tables_1, d.before a0 Z = true) (ws : List Jvm.Cond) (us ua : Addr) (ka : ClassId) (c0_ c1_ c2_ zv : Int32) (gv : Value) (h0 : Heap) (n0 : Nat) (Z0 : n0 ≤ h0.size) (q1 : n0 ≤ us) (Ex0 : Exa Z h0 us "java/lang/String") (Va1 : Fld Z h0 us "java/lang/String" "value" "[B" .null) (Cd1 : Fld Z h0 us "java/lang/String" "coder" "B" (.int (0 : Int32))) (Ac : Arv Z h0 ua ka .char (4 : Int32) [(.int c0_), (.int c1_), (.int c2_), (.int (256 : Int32))] (.int (0 : Int32))) (B0 : own_B9 c0_) (B1 : own_B9 c1_) (B2 : own_B9 c2_) (O0 : Old Z n0 h0) (hzv : ¬ zv = (0 : Int32)) (S0 : Sta Z Z.heap "java/lang/String" "COMPACT_STRINGS" "Z" (.int zv)) (rgv : gv.isRef = true) (G0 : Sta Z Z.heap "jdk/internal/util/Preconditions" "SIOOBE_FORMATTER" "Ljava/util/function/BiFunction;" gv) (Sa : Sta Z Z.heap "java/lang/StringUTF16" "$assertionsDisabled" "Z" (.int (1 : Int32))) (Sh : Sta Z Z.heap "java/lang/StringUTF16" "HI_BYTE_SHIFT" "I" (.int (0 : Int32))) (Sl : Sta Z Z.heap "java/lang/StringUTF16" "LO_BYTE_SHIFT" "I" (.int (8 : Int32))) :
    own_Met l Z (⟨"java/lang/String", "<init>", "([C)V"⟩ : MethodName) jdk_42_method_3_code 2 none ws ({ frames := 5, cells := 2, slots := 12, locals := 74 } : Room) #[(.ref us), (.ref ua)] h0 (Q_s_4 Z us ua ka c0_ c1_ c2_ zv gv h0 n0) := by
  refine own_enter (own := "java/lang/String") (plainFor_of_name pn_3) rfl ?_
  intro p e s m below meth c s₁ hlk hret hx hby hml hown hnm hZ X0 e0
  have N0 := Fr.nil n0
  refine own_cast (ef_s_4 m us ua) ?_
  show own_Go _ _ _ _ (s₁.setTop (mkF m 0 #[.val (.ref us), .val (.ref ua)] []))
  refine own_go (fun t k => XS.aloadN X0.here hx rfl (hb hby d_j42_3_0) rfl rfl k) ?_
  refine own_go (fun t k => XS.aloadN X0.here hx rfl (hb hby d_j42_3_1) rfl rfl k) ?_
  refine own_go (fun t k => XS.iconst X0.here hx rfl (hb hby d_j42_3_2) k) ?_
  refine own_go (fun t k => XS.aloadN X0.here hx rfl (hb hby d_j42_3_3) rfl rfl k) ?_
  show own_Go _ _ _ _ (s₁.setTop (mkF m 4 #[.val (.ref us), .val (.ref ua)] [(.ref ua), (.int (0 : Int32)), (.ref ua), (.ref us)]))
  obtain ⟨cl219, Ar219, qk219, sz219, nn219, ha219, gf219⟩ := id Ac
  refine own_go (X0.arraylength hx (by rw [e0]; exact Ar219.1) (State.isArrayOf_alike hZ.alike Ar219.2.1) (g := (mkF m 4 #[.val (.ref us), .val (.ref ua)] [(.ref ua), (.int (0 : Int32)), (.ref ua), (.ref us)])) rfl rfl (hb hby d_j42_3_4)) ?_
  rw [len_of sz219 nn219]
  refine own_go (fun t k => XS.aconstNull X0.here hx rfl (hb hby d_j42_3_5) k) ?_
  obtain ⟨_, _, ⟨T220, L220, k220, n220⟩, -, X220, ⟨Lc220, hQ220, l220, y220, z220⟩, st220⟩ := X0.specialBack hx (y := (⟨"java/lang/String", "<init>", "([CIILjava/lang/Void;)V"⟩ : MethodName)) rfl hown (mvT hZ (w_14 hw)) (mvT hZ (w_15 hw)) (mvT hZ (w_17 hw)) (by decide) (backOf (W := 0) (rm_si_4 l Z a0 hw [] us ua ka c0_ c1_ c2_ zv gv h0 n0 Z0 q1 Ex0 Va1 Cd1 Ac B0 B1 B2 O0 hzv S0 rgv G0 Sa Sh Sl) hZ (w_17 hw) (w_10 hw) (by decide) (by decide)) (g := (mkF m 6 #[.val (.ref us), .val (.ref ua)] [.null, (.int (4 : Int32)), (.int (0 : Int32)), (.ref ua), (.ref us)])) rfl (by rw [hml]; rfl) (Steps.refl _) (a := us) (argsL := [(.ref ua), (.int (0 : Int32)), (.int (4 : Int32)), .null]) (rest := []) (lenOf pd_17 rfl) rfl (by show 2 * 0 + _ ≤ _; exact Nat.le_of_eq rfl) (hb hby d_j42_3_6) (fun _ _ => ⟨rfl, e0, (by decide : 0 + 2 ≤ _), (by decide : 0 + 12 ≤ _)⟩)
  dsimp only [Pt.U, Pt.locs, Pt.cells, Pt.slots] at X220 l220 y220 z220 st220 hQ220
  subst l220 y220 z220
  generalize e220 : T220.heap = h220 at hQ220
  obtain ⟨ub220, kb220, rfl, N220q, K220q, Ec220, Ev220, lo220, q220, Ek220⟩ := hQ220
  have N220 := Fr.app N0 N220q
  refine own_go (fun t k => st220.trans k) ?_
  have Z220 : n0 ≤ h220.size := (Nat.le_trans Z0 K220q.1)
  have K220 : Keep h0 h220 [us] := (Keep.refl h0 [us]).trans K220q (allS (Or.inl (List.mem_of_getElem? (i := 0) rfl)) all0)
  have hi220 := Ek220.lt
  show own_Go _ _ _ _ (T220.setTop (mkF m 9 #[.val (.ref us), .val (.ref ua)] []))
  refine own_retV X220 hx hlk hret (hb hby d_j42_3_9) ?_ (by decide) (by decide)
  rw [e220]
  exact ⟨ub220, kb220, rfl, N220, K220, Ec220, Ev220, lo220, q220, Ek220⟩
def Q_lp_7 (Z : State) (us : Addr) (ub : Addr) (kb : ClassId) (c0_ : Int32) (c1_ : Int32) (c2_ : Int32) (c3_ : Int32) (c4_ : Int32) (c5_ : Int32) (zv : Int32) (gv : Value) (h0 : Heap) (n0 : Nat) (v : Option Value) (h : Heap) (L : List Loc) : Prop := v = some (.int (own_p7 c0_ c1_ c2_ c3_ c4_ c5_)) ∧ Fr n0 L ∧ h = h0
theorem ef_lp_7 (m : MethodId) (us : Addr) : entryFrame m #[(.ref us)] 3 = mkF m 0 #[.val (.ref us), .unset, .unset] [] := by first | (simp [entryFrame, mkF, argsToLocals, Value.category]; done) | rfl
set_option maxRecDepth 65536 in
set_option maxHeartbeats 40000000 in
theorem rm_lp_7 (l : Launch) (Z : State) (a0 : Array Value) (hw : ∀ d ∈ tables_1, d.before a0 Z = true) (ws : List Jvm.Cond) (us ub : Addr) (kb : ClassId) (c0_ c1_ c2_ c3_ c4_ c5_ zv : Int32) (gv : Value) (h0 : Heap) (n0 : Nat) (Z0 : n0 ≤ h0.size) (Ex0 : Exa Z h0 us "java/lang/String") (Cd0 : Fld Z h0 us "java/lang/String" "coder" "B" (.int (1 : Int32))) (Va0 : Fld Z h0 us "java/lang/String" "value" "[B" (.ref ub)) (A0 : Arv Z h0 ub kb .byte (14 : Int32) [(.int ((c0_ >>> ((0 : Int32) &&& 31)).toInt8.toInt32)), (.int ((c0_ >>> ((8 : Int32) &&& 31)).toInt8.toInt32)), (.int ((c1_ >>> ((0 : Int32) &&& 31)).toInt8.toInt32)), (.int ((c1_ >>> ((8 : Int32) &&& 31)).toInt8.toInt32)), (.int ((c2_ >>> ((0 : Int32) &&& 31)).toInt8.toInt32)), (.int ((c2_ >>> ((8 : Int32) &&& 31)).toInt8.toInt32)), (.int ((c3_ >>> ((0 : Int32) &&& 31)).toInt8.toInt32)), (.int ((c3_ >>> ((8 : Int32) &&& 31)).toInt8.toInt32)), (.int ((c4_ >>> ((0 : Int32) &&& 31)).toInt8.toInt32)), (.int ((c4_ >>> ((8 : Int32) &&& 31)).toInt8.toInt32)), (.int ((c5_ >>> ((0 : Int32) &&& 31)).toInt8.toInt32)), (.int ((c5_ >>> ((8 : Int32) &&& 31)).toInt8.toInt32)), (.int (((256 : Int32) >>> ((0 : Int32) &&& 31)).toInt8.toInt32)), (.int (((256 : Int32) >>> ((8 : Int32) &&& 31)).toInt8.toInt32))] (.int (0 : Int32))) (B0 : own_B9 c0_) (B1 : own_B9 c1_) (B2 : own_B9 c2_) (B3 : own_B9 c3_) (B4 : own_B9 c4_) (B5 : own_B9 c5_) (O0 : Old Z n0 h0) (hzv : ¬ zv = (0 : Int32)) (S0 : Sta Z Z.heap "java/lang/String" "COMPACT_STRINGS" "Z" (.int zv)) (rgv : gv.isRef = true) (G0 : Sta Z Z.heap "jdk/internal/util/Preconditions" "SIOOBE_FORMATTER" "Ljava/util/function/BiFunction;" gv) (Sa : Sta Z Z.heap "java/lang/StringUTF16" "$assertionsDisabled" "Z" (.int (1 : Int32))) (Sh : Sta Z Z.heap "java/lang/StringUTF16" "HI_BYTE_SHIFT" "I" (.int (0 : Int32))) (Sl : Sta Z Z.heap "java/lang/StringUTF16" "LO_BYTE_SHIFT" "I" (.int (8 : Int32))) :
    own_Met l Z (⟨"com/example/compact_transform/compacttransform/tree/StringFootprint", "latin1Prefix", "(Ljava/lang/String;)I"⟩ : MethodName) prog_118_method_4_code 3 (some .int) ws ({ frames := 5, cells := 0, slots := 0, locals := 66 } : Room) #[(.ref us)] h0 (Q_lp_7 Z us ub kb c0_ c1_ c2_ c3_ c4_ c5_ zv gv h0 n0) := by
  refine own_enter (own := "com/example/compact_transform/compacttransform/tree/StringFootprint") (plainFor_of_name pn_1) rfl ?_
  intro p e s m below meth c s₁ hlk hret hx hby hml hown hnm hZ X0 e0
  have N0 := Fr.nil n0
  refine own_cast (ef_lp_7 m us) ?_
  show own_Go _ _ _ _ (s₁.setTop (mkF m 0 #[.val (.ref us), .unset, .unset] []))
  refine own_go (fun t k => XS.aloadN X0.here hx rfl (hb hby d_p118_4_0) rfl rfl k) ?_
  obtain ⟨cq221, kq221, q221a, q221b, q221c⟩ := isOf hZ e0 Ex0
  obtain ⟨_, _, ⟨T221, L221, k221, n221⟩, -, X221, ⟨Lc221, hQ221, l221, y221, z221⟩, st221⟩ := X0.virtualBack hx (y := (⟨"java/lang/String", "length", "()I"⟩ : MethodName)) (z := (⟨"java/lang/String", "length", "()I"⟩ : MethodName)) hown (mvT hZ (w_60 hw)) (mvT hZ (w_61 hw)) (notFace_of_selects (args := #[]) (mvT hZ (w_63 hw))) (mvT hZ (w_63 hw)) (mvT hZ (w_62 hw)) (by decide) (backOf (W := 0) (rm_len l Z a0 hw [] us ub kb (14 : Int32) [(.int ((c0_ >>> ((0 : Int32) &&& 31)).toInt8.toInt32)), (.int ((c0_ >>> ((8 : Int32) &&& 31)).toInt8.toInt32)), (.int ((c1_ >>> ((0 : Int32) &&& 31)).toInt8.toInt32)), (.int ((c1_ >>> ((8 : Int32) &&& 31)).toInt8.toInt32)), (.int ((c2_ >>> ((0 : Int32) &&& 31)).toInt8.toInt32)), (.int ((c2_ >>> ((8 : Int32) &&& 31)).toInt8.toInt32)), (.int ((c3_ >>> ((0 : Int32) &&& 31)).toInt8.toInt32)), (.int ((c3_ >>> ((8 : Int32) &&& 31)).toInt8.toInt32)), (.int ((c4_ >>> ((0 : Int32) &&& 31)).toInt8.toInt32)), (.int ((c4_ >>> ((8 : Int32) &&& 31)).toInt8.toInt32)), (.int ((c5_ >>> ((0 : Int32) &&& 31)).toInt8.toInt32)), (.int ((c5_ >>> ((8 : Int32) &&& 31)).toInt8.toInt32)), (.int (((256 : Int32) >>> ((0 : Int32) &&& 31)).toInt8.toInt32)), (.int (((256 : Int32) >>> ((8 : Int32) &&& 31)).toInt8.toInt32))] (7 : Int32) zv gv h0 n0 Z0 Ex0 Cd0 Va0 A0 (by decide) O0 hzv S0 rgv G0 Sa Sh Sl) hZ (w_64 hw) (w_10 hw) (by decide) (by decide)) q221a q221c (g := (mkF m 1 #[.val (.ref us), .unset, .unset] [(.ref us)])) rfl (by rw [hml]; rfl) (Steps.refl _) (argsL := []) (rest := []) (lenOf pd_9 rfl) rfl (by show 2 * 0 + _ ≤ _; exact Nat.le_of_eq rfl) (hb hby d_p118_4_1) (fun _ _ => ⟨rfl, e0, (by decide : 0 + 0 ≤ _), (by decide : 0 + 0 ≤ _)⟩)
  dsimp only [Pt.U, Pt.locs, Pt.cells, Pt.slots] at X221 l221 y221 z221 st221 hQ221
  subst l221 y221 z221
  obtain ⟨rfl, N221q, e221⟩ := hQ221
  have N221 := Fr.app N0 N221q
  refine own_go (fun t k => st221.trans k) ?_
  refine own_go (fun t k => XS.istoreN X221.here hx rfl (hb hby d_p118_4_4) rfl (l' := #[.val (.ref us), .val (.int (7 : Int32)), .unset]) rfl k) ?_
  refine own_go (fun t k => XS.iconst X221.here hx rfl (hb hby d_p118_4_5) k) ?_
  show own_Go _ _ _ _ (T221.setTop (mkF m 6 #[.val (.ref us), .val (.int (7 : Int32)), .unset] [(.int (0 : Int32))]))
  refine own_go (fun t k => XS.istoreN X221.here hx rfl (hb hby d_p118_4_6) rfl (l' := #[.val (.ref us), .val (.int (7 : Int32)), .val (.int (0 : Int32))]) rfl k) ?_
  refine own_go (fun t k => XS.iloadN X221.here hx rfl (hb hby d_p118_4_7) rfl k) ?_
  refine own_go (fun t k => XS.iloadN X221.here hx rfl (hb hby d_p118_4_8) rfl k) ?_
  show own_Go _ _ _ _ (T221.setTop (mkF m 9 #[.val (.ref us), .val (.int (7 : Int32)), .val (.int (0 : Int32))] [(.int (7 : Int32)), (.int (0 : Int32))]))
  refine own_go (fun t k => XS.icmpNo X221.here hx rfl (hb hby d_p118_4_9) rfl (tlt (by decide : (0 : Int32) < (7 : Int32))).2.1 k) ?_
  refine own_go (fun t k => XS.aloadN X221.here hx rfl (hb hby d_p118_4_12) rfl rfl k) ?_
  refine own_go (fun t k => XS.iloadN X221.here hx rfl (hb hby d_p118_4_13) rfl k) ?_
  obtain ⟨cq222, kq222, q222a, q222b, q222c⟩ := isOf hZ e221 Ex0
  obtain ⟨_, _, ⟨T222, L222, k222, n222⟩, -, X222, ⟨Lc222, hQ222, l222, y222, z222⟩, st222⟩ := X221.virtualBack hx (y := (⟨"java/lang/String", "charAt", "(I)C"⟩ : MethodName)) (z := (⟨"java/lang/String", "charAt", "(I)C"⟩ : MethodName)) hown (mvT hZ (w_70 hw)) (mvT hZ (w_71 hw)) (notFace_of_selects (args := #[]) (mvT hZ (w_73 hw))) (mvT hZ (w_73 hw)) (mvT hZ (w_72 hw)) (by decide) (backOf (W := 0) (rm_ca l Z a0 hw [] us ub kb (14 : Int32) [(.int ((c0_ >>> ((0 : Int32) &&& 31)).toInt8.toInt32)), (.int ((c0_ >>> ((8 : Int32) &&& 31)).toInt8.toInt32)), (.int ((c1_ >>> ((0 : Int32) &&& 31)).toInt8.toInt32)), (.int ((c1_ >>> ((8 : Int32) &&& 31)).toInt8.toInt32)), (.int ((c2_ >>> ((0 : Int32) &&& 31)).toInt8.toInt32)), (.int ((c2_ >>> ((8 : Int32) &&& 31)).toInt8.toInt32)), (.int ((c3_ >>> ((0 : Int32) &&& 31)).toInt8.toInt32)), (.int ((c3_ >>> ((8 : Int32) &&& 31)).toInt8.toInt32)), (.int ((c4_ >>> ((0 : Int32) &&& 31)).toInt8.toInt32)), (.int ((c4_ >>> ((8 : Int32) &&& 31)).toInt8.toInt32)), (.int ((c5_ >>> ((0 : Int32) &&& 31)).toInt8.toInt32)), (.int ((c5_ >>> ((8 : Int32) &&& 31)).toInt8.toInt32)), (.int (((256 : Int32) >>> ((0 : Int32) &&& 31)).toInt8.toInt32)), (.int (((256 : Int32) >>> ((8 : Int32) &&& 31)).toInt8.toInt32))] (0 : Int32) (0 : Int32) (1 : Int32) ((c0_ >>> ((0 : Int32) &&& 31)).toInt8.toInt32) ((c0_ >>> ((8 : Int32) &&& 31)).toInt8.toInt32) c0_ (7 : Int32) zv gv h0 n0 Z0 Ex0 Cd0 Va0 A0 (by decide) (by decide) ⟨by decide, by decide⟩ ⟨by decide, by decide⟩ rfl rfl (own_pair9 B0) (by decide) (by decide) (by decide) (own_nc9 B0) O0 hzv S0 rgv G0 Sa Sh Sl) hZ (w_74 hw) (w_10 hw) (by decide) (by decide)) q222a q222c (g := (mkF m 14 #[.val (.ref us), .val (.int (7 : Int32)), .val (.int (0 : Int32))] [(.int (0 : Int32)), (.ref us)])) rfl (by rw [hml]; rfl) (Steps.refl _) (argsL := [(.int (0 : Int32))]) (rest := []) (lenOf pd_10 rfl) rfl (by show 2 * 0 + _ ≤ _; exact Nat.le_of_eq rfl) (hb hby d_p118_4_14) (fun _ _ => ⟨rfl, e221, (by decide : 0 + 0 ≤ _), (by decide : 0 + 0 ≤ _)⟩)
  dsimp only [Pt.U, Pt.locs, Pt.cells, Pt.slots] at X222 l222 y222 z222 st222 hQ222
  subst l222 y222 z222
  obtain ⟨rfl, N222q, e222⟩ := hQ222
  have N222 := Fr.app N221 N222q
  refine own_go (fun t k => st222.trans k) ?_
  show own_Go _ _ _ _ (T222.setTop (mkF m 17 #[.val (.ref us), .val (.int (7 : Int32)), .val (.int (0 : Int32))] [(.int c0_)]))
  refine own_go (fun t k => XS.sipush X222.here hx rfl (hb hby d_p118_4_17) k) ?_
  by_cases hc223 : (255 : Int32) < c0_
  · show own_Go _ _ _ _ (T222.setTop (mkF m 20 #[.val (.ref us), .val (.int (7 : Int32)), .val (.int (0 : Int32))] [(.int (255 : Int32)), (.int c0_)]))
    refine own_go (fun t k => XS.icmpNo X222.here hx rfl (hb hby d_p118_4_20) rfl (tlt hc223).2.2.2 k) ?_
    refine own_go (fun t k => XS.iloadN X222.here hx rfl (hb hby d_p118_4_23) rfl k) ?_
    show own_Go _ _ _ _ (T222.setTop (mkF m 24 #[.val (.ref us), .val (.int (7 : Int32)), .val (.int (0 : Int32))] [(.int (0 : Int32))]))
    refine own_ret X222 hx hlk hret rfl (Or.inl ⟨rfl, Or.inl rfl, _, rfl⟩) (hb hby d_p118_4_24) ?_ (by decide) (by decide)
    rw [e222]
    exact ⟨by simp [own_p7, hc223], N222, rfl⟩
  · show own_Go _ _ _ _ (T222.setTop (mkF m 20 #[.val (.ref us), .val (.int (7 : Int32)), .val (.int (0 : Int32))] [(.int (255 : Int32)), (.int c0_)]))
    refine own_go (fun t k => XS.icmpYes X222.here hx rfl (pc0 := 20) (pc' := 25) rfl (hb hby d_p118_4_20) rfl (flt hc223).2.2.2 (by decide) (by decide) k) ?_
    refine own_go (fun t k => XS.iinc X222.here hx rfl (hb hby d_p118_4_25) rfl (l' := #[.val (.ref us), .val (.int (7 : Int32)), .val (.int ((0 : Int32) + (1 : Int32)))]) rfl k) ?_
    refine own_go (fun t k => XS.goto X222.here hx rfl (pc0 := 28) (pc' := 7) rfl (hb hby d_p118_4_28) (by decide) (by decide) k) ?_
    refine own_go (fun t k => XS.iloadN X222.here hx rfl (hb hby d_p118_4_7) rfl k) ?_
    show own_Go _ _ _ _ (T222.setTop (mkF m 8 #[.val (.ref us), .val (.int (7 : Int32)), .val (.int (1 : Int32))] [(.int (1 : Int32))]))
    refine own_go (fun t k => XS.iloadN X222.here hx rfl (hb hby d_p118_4_8) rfl k) ?_
    show own_Go _ _ _ _ (T222.setTop (mkF m 9 #[.val (.ref us), .val (.int (7 : Int32)), .val (.int (1 : Int32))] [(.int (7 : Int32)), (.int (1 : Int32))]))
    refine own_go (fun t k => XS.icmpNo X222.here hx rfl (hb hby d_p118_4_9) rfl (tlt (by decide : (1 : Int32) < (7 : Int32))).2.1 k) ?_
    refine own_go (fun t k => XS.aloadN X222.here hx rfl (hb hby d_p118_4_12) rfl rfl k) ?_
    refine own_go (fun t k => XS.iloadN X222.here hx rfl (hb hby d_p118_4_13) rfl k) ?_
    obtain ⟨cq224, kq224, q224a, q224b, q224c⟩ := isOf hZ e222 Ex0
    obtain ⟨_, _, ⟨T224, L224, k224, n224⟩, -, X224, ⟨Lc224, hQ224, l224, y224, z224⟩, st224⟩ := X222.virtualBack hx (y := (⟨"java/lang/String", "charAt", "(I)C"⟩ : MethodName)) (z := (⟨"java/lang/String", "charAt", "(I)C"⟩ : MethodName)) hown (mvT hZ (w_70 hw)) (mvT hZ (w_71 hw)) (notFace_of_selects (args := #[]) (mvT hZ (w_73 hw))) (mvT hZ (w_73 hw)) (mvT hZ (w_72 hw)) (by decide) (backOf (W := 0) (rm_ca l Z a0 hw [] us ub kb (14 : Int32) [(.int ((c0_ >>> ((0 : Int32) &&& 31)).toInt8.toInt32)), (.int ((c0_ >>> ((8 : Int32) &&& 31)).toInt8.toInt32)), (.int ((c1_ >>> ((0 : Int32) &&& 31)).toInt8.toInt32)), (.int ((c1_ >>> ((8 : Int32) &&& 31)).toInt8.toInt32)), (.int ((c2_ >>> ((0 : Int32) &&& 31)).toInt8.toInt32)), (.int ((c2_ >>> ((8 : Int32) &&& 31)).toInt8.toInt32)), (.int ((c3_ >>> ((0 : Int32) &&& 31)).toInt8.toInt32)), (.int ((c3_ >>> ((8 : Int32) &&& 31)).toInt8.toInt32)), (.int ((c4_ >>> ((0 : Int32) &&& 31)).toInt8.toInt32)), (.int ((c4_ >>> ((8 : Int32) &&& 31)).toInt8.toInt32)), (.int ((c5_ >>> ((0 : Int32) &&& 31)).toInt8.toInt32)), (.int ((c5_ >>> ((8 : Int32) &&& 31)).toInt8.toInt32)), (.int (((256 : Int32) >>> ((0 : Int32) &&& 31)).toInt8.toInt32)), (.int (((256 : Int32) >>> ((8 : Int32) &&& 31)).toInt8.toInt32))] (1 : Int32) (2 : Int32) (3 : Int32) ((c1_ >>> ((0 : Int32) &&& 31)).toInt8.toInt32) ((c1_ >>> ((8 : Int32) &&& 31)).toInt8.toInt32) c1_ (7 : Int32) zv gv h0 n0 Z0 Ex0 Cd0 Va0 A0 (by decide) (by decide) ⟨by decide, by decide⟩ ⟨by decide, by decide⟩ rfl rfl (own_pair9 B1) (by decide) (by decide) (by decide) (own_nc9 B1) O0 hzv S0 rgv G0 Sa Sh Sl) hZ (w_74 hw) (w_10 hw) (by decide) (by decide)) q224a q224c (g := (mkF m 14 #[.val (.ref us), .val (.int (7 : Int32)), .val (.int (1 : Int32))] [(.int (1 : Int32)), (.ref us)])) rfl (by rw [hml]; rfl) (Steps.refl _) (argsL := [(.int (1 : Int32))]) (rest := []) (lenOf pd_10 rfl) rfl (by show 2 * 0 + _ ≤ _; exact Nat.le_of_eq rfl) (hb hby d_p118_4_14) (fun _ _ => ⟨rfl, e222, (by decide : 0 + 0 ≤ _), (by decide : 0 + 0 ≤ _)⟩)
    dsimp only [Pt.U, Pt.locs, Pt.cells, Pt.slots] at X224 l224 y224 z224 st224 hQ224
    subst l224 y224 z224
    obtain ⟨rfl, N224q, e224⟩ := hQ224
    have N224 := Fr.app N222 N224q
    refine own_go (fun t k => st224.trans k) ?_
    show own_Go _ _ _ _ (T224.setTop (mkF m 17 #[.val (.ref us), .val (.int (7 : Int32)), .val (.int (1 : Int32))] [(.int c1_)]))
    refine own_go (fun t k => XS.sipush X224.here hx rfl (hb hby d_p118_4_17) k) ?_
    by_cases hc225 : (255 : Int32) < c1_
    · show own_Go _ _ _ _ (T224.setTop (mkF m 20 #[.val (.ref us), .val (.int (7 : Int32)), .val (.int (1 : Int32))] [(.int (255 : Int32)), (.int c1_)]))
      refine own_go (fun t k => XS.icmpNo X224.here hx rfl (hb hby d_p118_4_20) rfl (tlt hc225).2.2.2 k) ?_
      refine own_go (fun t k => XS.iloadN X224.here hx rfl (hb hby d_p118_4_23) rfl k) ?_
      show own_Go _ _ _ _ (T224.setTop (mkF m 24 #[.val (.ref us), .val (.int (7 : Int32)), .val (.int (1 : Int32))] [(.int (1 : Int32))]))
      refine own_ret X224 hx hlk hret rfl (Or.inl ⟨rfl, Or.inl rfl, _, rfl⟩) (hb hby d_p118_4_24) ?_ (by decide) (by decide)
      rw [e224]
      exact ⟨by simp [own_p7, hc223, hc225], N224, rfl⟩
    · show own_Go _ _ _ _ (T224.setTop (mkF m 20 #[.val (.ref us), .val (.int (7 : Int32)), .val (.int (1 : Int32))] [(.int (255 : Int32)), (.int c1_)]))
      refine own_go (fun t k => XS.icmpYes X224.here hx rfl (pc0 := 20) (pc' := 25) rfl (hb hby d_p118_4_20) rfl (flt hc225).2.2.2 (by decide) (by decide) k) ?_
      refine own_go (fun t k => XS.iinc X224.here hx rfl (hb hby d_p118_4_25) rfl (l' := #[.val (.ref us), .val (.int (7 : Int32)), .val (.int ((1 : Int32) + (1 : Int32)))]) rfl k) ?_
      refine own_go (fun t k => XS.goto X224.here hx rfl (pc0 := 28) (pc' := 7) rfl (hb hby d_p118_4_28) (by decide) (by decide) k) ?_
      refine own_go (fun t k => XS.iloadN X224.here hx rfl (hb hby d_p118_4_7) rfl k) ?_
      show own_Go _ _ _ _ (T224.setTop (mkF m 8 #[.val (.ref us), .val (.int (7 : Int32)), .val (.int (2 : Int32))] [(.int (2 : Int32))]))
      refine own_go (fun t k => XS.iloadN X224.here hx rfl (hb hby d_p118_4_8) rfl k) ?_
      show own_Go _ _ _ _ (T224.setTop (mkF m 9 #[.val (.ref us), .val (.int (7 : Int32)), .val (.int (2 : Int32))] [(.int (7 : Int32)), (.int (2 : Int32))]))
      refine own_go (fun t k => XS.icmpNo X224.here hx rfl (hb hby d_p118_4_9) rfl (tlt (by decide : (2 : Int32) < (7 : Int32))).2.1 k) ?_
      refine own_go (fun t k => XS.aloadN X224.here hx rfl (hb hby d_p118_4_12) rfl rfl k) ?_
      refine own_go (fun t k => XS.iloadN X224.here hx rfl (hb hby d_p118_4_13) rfl k) ?_
      obtain ⟨cq226, kq226, q226a, q226b, q226c⟩ := isOf hZ e224 Ex0
      obtain ⟨_, _, ⟨T226, L226, k226, n226⟩, -, X226, ⟨Lc226, hQ226, l226, y226, z226⟩, st226⟩ := X224.virtualBack hx (y := (⟨"java/lang/String", "charAt", "(I)C"⟩ : MethodName)) (z := (⟨"java/lang/String", "charAt", "(I)C"⟩ : MethodName)) hown (mvT hZ (w_70 hw)) (mvT hZ (w_71 hw)) (notFace_of_selects (args := #[]) (mvT hZ (w_73 hw))) (mvT hZ (w_73 hw)) (mvT hZ (w_72 hw)) (by decide) (backOf (W := 0) (rm_ca l Z a0 hw [] us ub kb (14 : Int32) [(.int ((c0_ >>> ((0 : Int32) &&& 31)).toInt8.toInt32)), (.int ((c0_ >>> ((8 : Int32) &&& 31)).toInt8.toInt32)), (.int ((c1_ >>> ((0 : Int32) &&& 31)).toInt8.toInt32)), (.int ((c1_ >>> ((8 : Int32) &&& 31)).toInt8.toInt32)), (.int ((c2_ >>> ((0 : Int32) &&& 31)).toInt8.toInt32)), (.int ((c2_ >>> ((8 : Int32) &&& 31)).toInt8.toInt32)), (.int ((c3_ >>> ((0 : Int32) &&& 31)).toInt8.toInt32)), (.int ((c3_ >>> ((8 : Int32) &&& 31)).toInt8.toInt32)), (.int ((c4_ >>> ((0 : Int32) &&& 31)).toInt8.toInt32)), (.int ((c4_ >>> ((8 : Int32) &&& 31)).toInt8.toInt32)), (.int ((c5_ >>> ((0 : Int32) &&& 31)).toInt8.toInt32)), (.int ((c5_ >>> ((8 : Int32) &&& 31)).toInt8.toInt32)), (.int (((256 : Int32) >>> ((0 : Int32) &&& 31)).toInt8.toInt32)), (.int (((256 : Int32) >>> ((8 : Int32) &&& 31)).toInt8.toInt32))] (2 : Int32) (4 : Int32) (5 : Int32) ((c2_ >>> ((0 : Int32) &&& 31)).toInt8.toInt32) ((c2_ >>> ((8 : Int32) &&& 31)).toInt8.toInt32) c2_ (7 : Int32) zv gv h0 n0 Z0 Ex0 Cd0 Va0 A0 (by decide) (by decide) ⟨by decide, by decide⟩ ⟨by decide, by decide⟩ rfl rfl (own_pair9 B2) (by decide) (by decide) (by decide) (own_nc9 B2) O0 hzv S0 rgv G0 Sa Sh Sl) hZ (w_74 hw) (w_10 hw) (by decide) (by decide)) q226a q226c (g := (mkF m 14 #[.val (.ref us), .val (.int (7 : Int32)), .val (.int (2 : Int32))] [(.int (2 : Int32)), (.ref us)])) rfl (by rw [hml]; rfl) (Steps.refl _) (argsL := [(.int (2 : Int32))]) (rest := []) (lenOf pd_10 rfl) rfl (by show 2 * 0 + _ ≤ _; exact Nat.le_of_eq rfl) (hb hby d_p118_4_14) (fun _ _ => ⟨rfl, e224, (by decide : 0 + 0 ≤ _), (by decide : 0 + 0 ≤ _)⟩)
      dsimp only [Pt.U, Pt.locs, Pt.cells, Pt.slots] at X226 l226 y226 z226 st226 hQ226
      subst l226 y226 z226
      obtain ⟨rfl, N226q, e226⟩ := hQ226
      have N226 := Fr.app N224 N226q
      refine own_go (fun t k => st226.trans k) ?_
      show own_Go _ _ _ _ (T226.setTop (mkF m 17 #[.val (.ref us), .val (.int (7 : Int32)), .val (.int (2 : Int32))] [(.int c2_)]))
      refine own_go (fun t k => XS.sipush X226.here hx rfl (hb hby d_p118_4_17) k) ?_
      by_cases hc227 : (255 : Int32) < c2_
      · show own_Go _ _ _ _ (T226.setTop (mkF m 20 #[.val (.ref us), .val (.int (7 : Int32)), .val (.int (2 : Int32))] [(.int (255 : Int32)), (.int c2_)]))
        refine own_go (fun t k => XS.icmpNo X226.here hx rfl (hb hby d_p118_4_20) rfl (tlt hc227).2.2.2 k) ?_
        refine own_go (fun t k => XS.iloadN X226.here hx rfl (hb hby d_p118_4_23) rfl k) ?_
        show own_Go _ _ _ _ (T226.setTop (mkF m 24 #[.val (.ref us), .val (.int (7 : Int32)), .val (.int (2 : Int32))] [(.int (2 : Int32))]))
        refine own_ret X226 hx hlk hret rfl (Or.inl ⟨rfl, Or.inl rfl, _, rfl⟩) (hb hby d_p118_4_24) ?_ (by decide) (by decide)
        rw [e226]
        exact ⟨by simp [own_p7, hc223, hc225, hc227], N226, rfl⟩
      · show own_Go _ _ _ _ (T226.setTop (mkF m 20 #[.val (.ref us), .val (.int (7 : Int32)), .val (.int (2 : Int32))] [(.int (255 : Int32)), (.int c2_)]))
        refine own_go (fun t k => XS.icmpYes X226.here hx rfl (pc0 := 20) (pc' := 25) rfl (hb hby d_p118_4_20) rfl (flt hc227).2.2.2 (by decide) (by decide) k) ?_
        refine own_go (fun t k => XS.iinc X226.here hx rfl (hb hby d_p118_4_25) rfl (l' := #[.val (.ref us), .val (.int (7 : Int32)), .val (.int ((2 : Int32) + (1 : Int32)))]) rfl k) ?_
        refine own_go (fun t k => XS.goto X226.here hx rfl (pc0 := 28) (pc' := 7) rfl (hb hby d_p118_4_28) (by decide) (by decide) k) ?_
        refine own_go (fun t k => XS.iloadN X226.here hx rfl (hb hby d_p118_4_7) rfl k) ?_
        show own_Go _ _ _ _ (T226.setTop (mkF m 8 #[.val (.ref us), .val (.int (7 : Int32)), .val (.int (3 : Int32))] [(.int (3 : Int32))]))
        refine own_go (fun t k => XS.iloadN X226.here hx rfl (hb hby d_p118_4_8) rfl k) ?_
        show own_Go _ _ _ _ (T226.setTop (mkF m 9 #[.val (.ref us), .val (.int (7 : Int32)), .val (.int (3 : Int32))] [(.int (7 : Int32)), (.int (3 : Int32))]))
        refine own_go (fun t k => XS.icmpNo X226.here hx rfl (hb hby d_p118_4_9) rfl (tlt (by decide : (3 : Int32) < (7 : Int32))).2.1 k) ?_
        refine own_go (fun t k => XS.aloadN X226.here hx rfl (hb hby d_p118_4_12) rfl rfl k) ?_
        refine own_go (fun t k => XS.iloadN X226.here hx rfl (hb hby d_p118_4_13) rfl k) ?_
        obtain ⟨cq228, kq228, q228a, q228b, q228c⟩ := isOf hZ e226 Ex0
        obtain ⟨_, _, ⟨T228, L228, k228, n228⟩, -, X228, ⟨Lc228, hQ228, l228, y228, z228⟩, st228⟩ := X226.virtualBack hx (y := (⟨"java/lang/String", "charAt", "(I)C"⟩ : MethodName)) (z := (⟨"java/lang/String", "charAt", "(I)C"⟩ : MethodName)) hown (mvT hZ (w_70 hw)) (mvT hZ (w_71 hw)) (notFace_of_selects (args := #[]) (mvT hZ (w_73 hw))) (mvT hZ (w_73 hw)) (mvT hZ (w_72 hw)) (by decide) (backOf (W := 0) (rm_ca l Z a0 hw [] us ub kb (14 : Int32) [(.int ((c0_ >>> ((0 : Int32) &&& 31)).toInt8.toInt32)), (.int ((c0_ >>> ((8 : Int32) &&& 31)).toInt8.toInt32)), (.int ((c1_ >>> ((0 : Int32) &&& 31)).toInt8.toInt32)), (.int ((c1_ >>> ((8 : Int32) &&& 31)).toInt8.toInt32)), (.int ((c2_ >>> ((0 : Int32) &&& 31)).toInt8.toInt32)), (.int ((c2_ >>> ((8 : Int32) &&& 31)).toInt8.toInt32)), (.int ((c3_ >>> ((0 : Int32) &&& 31)).toInt8.toInt32)), (.int ((c3_ >>> ((8 : Int32) &&& 31)).toInt8.toInt32)), (.int ((c4_ >>> ((0 : Int32) &&& 31)).toInt8.toInt32)), (.int ((c4_ >>> ((8 : Int32) &&& 31)).toInt8.toInt32)), (.int ((c5_ >>> ((0 : Int32) &&& 31)).toInt8.toInt32)), (.int ((c5_ >>> ((8 : Int32) &&& 31)).toInt8.toInt32)), (.int (((256 : Int32) >>> ((0 : Int32) &&& 31)).toInt8.toInt32)), (.int (((256 : Int32) >>> ((8 : Int32) &&& 31)).toInt8.toInt32))] (3 : Int32) (6 : Int32) (7 : Int32) ((c3_ >>> ((0 : Int32) &&& 31)).toInt8.toInt32) ((c3_ >>> ((8 : Int32) &&& 31)).toInt8.toInt32) c3_ (7 : Int32) zv gv h0 n0 Z0 Ex0 Cd0 Va0 A0 (by decide) (by decide) ⟨by decide, by decide⟩ ⟨by decide, by decide⟩ rfl rfl (own_pair9 B3) (by decide) (by decide) (by decide) (own_nc9 B3) O0 hzv S0 rgv G0 Sa Sh Sl) hZ (w_74 hw) (w_10 hw) (by decide) (by decide)) q228a q228c (g := (mkF m 14 #[.val (.ref us), .val (.int (7 : Int32)), .val (.int (3 : Int32))] [(.int (3 : Int32)), (.ref us)])) rfl (by rw [hml]; rfl) (Steps.refl _) (argsL := [(.int (3 : Int32))]) (rest := []) (lenOf pd_10 rfl) rfl (by show 2 * 0 + _ ≤ _; exact Nat.le_of_eq rfl) (hb hby d_p118_4_14) (fun _ _ => ⟨rfl, e226, (by decide : 0 + 0 ≤ _), (by decide : 0 + 0 ≤ _)⟩)
        dsimp only [Pt.U, Pt.locs, Pt.cells, Pt.slots] at X228 l228 y228 z228 st228 hQ228
        subst l228 y228 z228
        obtain ⟨rfl, N228q, e228⟩ := hQ228
        have N228 := Fr.app N226 N228q
        refine own_go (fun t k => st228.trans k) ?_
        show own_Go _ _ _ _ (T228.setTop (mkF m 17 #[.val (.ref us), .val (.int (7 : Int32)), .val (.int (3 : Int32))] [(.int c3_)]))
        refine own_go (fun t k => XS.sipush X228.here hx rfl (hb hby d_p118_4_17) k) ?_
        by_cases hc229 : (255 : Int32) < c3_
        · show own_Go _ _ _ _ (T228.setTop (mkF m 20 #[.val (.ref us), .val (.int (7 : Int32)), .val (.int (3 : Int32))] [(.int (255 : Int32)), (.int c3_)]))
          refine own_go (fun t k => XS.icmpNo X228.here hx rfl (hb hby d_p118_4_20) rfl (tlt hc229).2.2.2 k) ?_
          refine own_go (fun t k => XS.iloadN X228.here hx rfl (hb hby d_p118_4_23) rfl k) ?_
          show own_Go _ _ _ _ (T228.setTop (mkF m 24 #[.val (.ref us), .val (.int (7 : Int32)), .val (.int (3 : Int32))] [(.int (3 : Int32))]))
          refine own_ret X228 hx hlk hret rfl (Or.inl ⟨rfl, Or.inl rfl, _, rfl⟩) (hb hby d_p118_4_24) ?_ (by decide) (by decide)
          rw [e228]
          exact ⟨by simp [own_p7, hc223, hc225, hc227, hc229], N228, rfl⟩
        · show own_Go _ _ _ _ (T228.setTop (mkF m 20 #[.val (.ref us), .val (.int (7 : Int32)), .val (.int (3 : Int32))] [(.int (255 : Int32)), (.int c3_)]))
          refine own_go (fun t k => XS.icmpYes X228.here hx rfl (pc0 := 20) (pc' := 25) rfl (hb hby d_p118_4_20) rfl (flt hc229).2.2.2 (by decide) (by decide) k) ?_
          refine own_go (fun t k => XS.iinc X228.here hx rfl (hb hby d_p118_4_25) rfl (l' := #[.val (.ref us), .val (.int (7 : Int32)), .val (.int ((3 : Int32) + (1 : Int32)))]) rfl k) ?_
          refine own_go (fun t k => XS.goto X228.here hx rfl (pc0 := 28) (pc' := 7) rfl (hb hby d_p118_4_28) (by decide) (by decide) k) ?_
          refine own_go (fun t k => XS.iloadN X228.here hx rfl (hb hby d_p118_4_7) rfl k) ?_
          show own_Go _ _ _ _ (T228.setTop (mkF m 8 #[.val (.ref us), .val (.int (7 : Int32)), .val (.int (4 : Int32))] [(.int (4 : Int32))]))
          refine own_go (fun t k => XS.iloadN X228.here hx rfl (hb hby d_p118_4_8) rfl k) ?_
          show own_Go _ _ _ _ (T228.setTop (mkF m 9 #[.val (.ref us), .val (.int (7 : Int32)), .val (.int (4 : Int32))] [(.int (7 : Int32)), (.int (4 : Int32))]))
          refine own_go (fun t k => XS.icmpNo X228.here hx rfl (hb hby d_p118_4_9) rfl (tlt (by decide : (4 : Int32) < (7 : Int32))).2.1 k) ?_
          refine own_go (fun t k => XS.aloadN X228.here hx rfl (hb hby d_p118_4_12) rfl rfl k) ?_
          refine own_go (fun t k => XS.iloadN X228.here hx rfl (hb hby d_p118_4_13) rfl k) ?_
          obtain ⟨cq230, kq230, q230a, q230b, q230c⟩ := isOf hZ e228 Ex0
          obtain ⟨_, _, ⟨T230, L230, k230, n230⟩, -, X230, ⟨Lc230, hQ230, l230, y230, z230⟩, st230⟩ := X228.virtualBack hx (y := (⟨"java/lang/String", "charAt", "(I)C"⟩ : MethodName)) (z := (⟨"java/lang/String", "charAt", "(I)C"⟩ : MethodName)) hown (mvT hZ (w_70 hw)) (mvT hZ (w_71 hw)) (notFace_of_selects (args := #[]) (mvT hZ (w_73 hw))) (mvT hZ (w_73 hw)) (mvT hZ (w_72 hw)) (by decide) (backOf (W := 0) (rm_ca l Z a0 hw [] us ub kb (14 : Int32) [(.int ((c0_ >>> ((0 : Int32) &&& 31)).toInt8.toInt32)), (.int ((c0_ >>> ((8 : Int32) &&& 31)).toInt8.toInt32)), (.int ((c1_ >>> ((0 : Int32) &&& 31)).toInt8.toInt32)), (.int ((c1_ >>> ((8 : Int32) &&& 31)).toInt8.toInt32)), (.int ((c2_ >>> ((0 : Int32) &&& 31)).toInt8.toInt32)), (.int ((c2_ >>> ((8 : Int32) &&& 31)).toInt8.toInt32)), (.int ((c3_ >>> ((0 : Int32) &&& 31)).toInt8.toInt32)), (.int ((c3_ >>> ((8 : Int32) &&& 31)).toInt8.toInt32)), (.int ((c4_ >>> ((0 : Int32) &&& 31)).toInt8.toInt32)), (.int ((c4_ >>> ((8 : Int32) &&& 31)).toInt8.toInt32)), (.int ((c5_ >>> ((0 : Int32) &&& 31)).toInt8.toInt32)), (.int ((c5_ >>> ((8 : Int32) &&& 31)).toInt8.toInt32)), (.int (((256 : Int32) >>> ((0 : Int32) &&& 31)).toInt8.toInt32)), (.int (((256 : Int32) >>> ((8 : Int32) &&& 31)).toInt8.toInt32))] (4 : Int32) (8 : Int32) (9 : Int32) ((c4_ >>> ((0 : Int32) &&& 31)).toInt8.toInt32) ((c4_ >>> ((8 : Int32) &&& 31)).toInt8.toInt32) c4_ (7 : Int32) zv gv h0 n0 Z0 Ex0 Cd0 Va0 A0 (by decide) (by decide) ⟨by decide, by decide⟩ ⟨by decide, by decide⟩ rfl rfl (own_pair9 B4) (by decide) (by decide) (by decide) (own_nc9 B4) O0 hzv S0 rgv G0 Sa Sh Sl) hZ (w_74 hw) (w_10 hw) (by decide) (by decide)) q230a q230c (g := (mkF m 14 #[.val (.ref us), .val (.int (7 : Int32)), .val (.int (4 : Int32))] [(.int (4 : Int32)), (.ref us)])) rfl (by rw [hml]; rfl) (Steps.refl _) (argsL := [(.int (4 : Int32))]) (rest := []) (lenOf pd_10 rfl) rfl (by show 2 * 0 + _ ≤ _; exact Nat.le_of_eq rfl) (hb hby d_p118_4_14) (fun _ _ => ⟨rfl, e228, (by decide : 0 + 0 ≤ _), (by decide : 0 + 0 ≤ _)⟩)
          dsimp only [Pt.U, Pt.locs, Pt.cells, Pt.slots] at X230 l230 y230 z230 st230 hQ230
          subst l230 y230 z230
          obtain ⟨rfl, N230q, e230⟩ := hQ230
          have N230 := Fr.app N228 N230q
          refine own_go (fun t k => st230.trans k) ?_
          show own_Go _ _ _ _ (T230.setTop (mkF m 17 #[.val (.ref us), .val (.int (7 : Int32)), .val (.int (4 : Int32))] [(.int c4_)]))
          refine own_go (fun t k => XS.sipush X230.here hx rfl (hb hby d_p118_4_17) k) ?_
          by_cases hc231 : (255 : Int32) < c4_
          · show own_Go _ _ _ _ (T230.setTop (mkF m 20 #[.val (.ref us), .val (.int (7 : Int32)), .val (.int (4 : Int32))] [(.int (255 : Int32)), (.int c4_)]))
            refine own_go (fun t k => XS.icmpNo X230.here hx rfl (hb hby d_p118_4_20) rfl (tlt hc231).2.2.2 k) ?_
            refine own_go (fun t k => XS.iloadN X230.here hx rfl (hb hby d_p118_4_23) rfl k) ?_
            show own_Go _ _ _ _ (T230.setTop (mkF m 24 #[.val (.ref us), .val (.int (7 : Int32)), .val (.int (4 : Int32))] [(.int (4 : Int32))]))
            refine own_ret X230 hx hlk hret rfl (Or.inl ⟨rfl, Or.inl rfl, _, rfl⟩) (hb hby d_p118_4_24) ?_ (by decide) (by decide)
            rw [e230]
            exact ⟨by simp [own_p7, hc223, hc225, hc227, hc229, hc231], N230, rfl⟩
          · show own_Go _ _ _ _ (T230.setTop (mkF m 20 #[.val (.ref us), .val (.int (7 : Int32)), .val (.int (4 : Int32))] [(.int (255 : Int32)), (.int c4_)]))
            refine own_go (fun t k => XS.icmpYes X230.here hx rfl (pc0 := 20) (pc' := 25) rfl (hb hby d_p118_4_20) rfl (flt hc231).2.2.2 (by decide) (by decide) k) ?_
            refine own_go (fun t k => XS.iinc X230.here hx rfl (hb hby d_p118_4_25) rfl (l' := #[.val (.ref us), .val (.int (7 : Int32)), .val (.int ((4 : Int32) + (1 : Int32)))]) rfl k) ?_
            refine own_go (fun t k => XS.goto X230.here hx rfl (pc0 := 28) (pc' := 7) rfl (hb hby d_p118_4_28) (by decide) (by decide) k) ?_
            refine own_go (fun t k => XS.iloadN X230.here hx rfl (hb hby d_p118_4_7) rfl k) ?_
            show own_Go _ _ _ _ (T230.setTop (mkF m 8 #[.val (.ref us), .val (.int (7 : Int32)), .val (.int (5 : Int32))] [(.int (5 : Int32))]))
            refine own_go (fun t k => XS.iloadN X230.here hx rfl (hb hby d_p118_4_8) rfl k) ?_
            show own_Go _ _ _ _ (T230.setTop (mkF m 9 #[.val (.ref us), .val (.int (7 : Int32)), .val (.int (5 : Int32))] [(.int (7 : Int32)), (.int (5 : Int32))]))
            refine own_go (fun t k => XS.icmpNo X230.here hx rfl (hb hby d_p118_4_9) rfl (tlt (by decide : (5 : Int32) < (7 : Int32))).2.1 k) ?_
            refine own_go (fun t k => XS.aloadN X230.here hx rfl (hb hby d_p118_4_12) rfl rfl k) ?_
            refine own_go (fun t k => XS.iloadN X230.here hx rfl (hb hby d_p118_4_13) rfl k) ?_
            obtain ⟨cq232, kq232, q232a, q232b, q232c⟩ := isOf hZ e230 Ex0
            obtain ⟨_, _, ⟨T232, L232, k232, n232⟩, -, X232, ⟨Lc232, hQ232, l232, y232, z232⟩, st232⟩ := X230.virtualBack hx (y := (⟨"java/lang/String", "charAt", "(I)C"⟩ : MethodName)) (z := (⟨"java/lang/String", "charAt", "(I)C"⟩ : MethodName)) hown (mvT hZ (w_70 hw)) (mvT hZ (w_71 hw)) (notFace_of_selects (args := #[]) (mvT hZ (w_73 hw))) (mvT hZ (w_73 hw)) (mvT hZ (w_72 hw)) (by decide) (backOf (W := 0) (rm_ca l Z a0 hw [] us ub kb (14 : Int32) [(.int ((c0_ >>> ((0 : Int32) &&& 31)).toInt8.toInt32)), (.int ((c0_ >>> ((8 : Int32) &&& 31)).toInt8.toInt32)), (.int ((c1_ >>> ((0 : Int32) &&& 31)).toInt8.toInt32)), (.int ((c1_ >>> ((8 : Int32) &&& 31)).toInt8.toInt32)), (.int ((c2_ >>> ((0 : Int32) &&& 31)).toInt8.toInt32)), (.int ((c2_ >>> ((8 : Int32) &&& 31)).toInt8.toInt32)), (.int ((c3_ >>> ((0 : Int32) &&& 31)).toInt8.toInt32)), (.int ((c3_ >>> ((8 : Int32) &&& 31)).toInt8.toInt32)), (.int ((c4_ >>> ((0 : Int32) &&& 31)).toInt8.toInt32)), (.int ((c4_ >>> ((8 : Int32) &&& 31)).toInt8.toInt32)), (.int ((c5_ >>> ((0 : Int32) &&& 31)).toInt8.toInt32)), (.int ((c5_ >>> ((8 : Int32) &&& 31)).toInt8.toInt32)), (.int (((256 : Int32) >>> ((0 : Int32) &&& 31)).toInt8.toInt32)), (.int (((256 : Int32) >>> ((8 : Int32) &&& 31)).toInt8.toInt32))] (5 : Int32) (10 : Int32) (11 : Int32) ((c5_ >>> ((0 : Int32) &&& 31)).toInt8.toInt32) ((c5_ >>> ((8 : Int32) &&& 31)).toInt8.toInt32) c5_ (7 : Int32) zv gv h0 n0 Z0 Ex0 Cd0 Va0 A0 (by decide) (by decide) ⟨by decide, by decide⟩ ⟨by decide, by decide⟩ rfl rfl (own_pair9 B5) (by decide) (by decide) (by decide) (own_nc9 B5) O0 hzv S0 rgv G0 Sa Sh Sl) hZ (w_74 hw) (w_10 hw) (by decide) (by decide)) q232a q232c (g := (mkF m 14 #[.val (.ref us), .val (.int (7 : Int32)), .val (.int (5 : Int32))] [(.int (5 : Int32)), (.ref us)])) rfl (by rw [hml]; rfl) (Steps.refl _) (argsL := [(.int (5 : Int32))]) (rest := []) (lenOf pd_10 rfl) rfl (by show 2 * 0 + _ ≤ _; exact Nat.le_of_eq rfl) (hb hby d_p118_4_14) (fun _ _ => ⟨rfl, e230, (by decide : 0 + 0 ≤ _), (by decide : 0 + 0 ≤ _)⟩)
            dsimp only [Pt.U, Pt.locs, Pt.cells, Pt.slots] at X232 l232 y232 z232 st232 hQ232
            subst l232 y232 z232
            obtain ⟨rfl, N232q, e232⟩ := hQ232
            have N232 := Fr.app N230 N232q
            refine own_go (fun t k => st232.trans k) ?_
            show own_Go _ _ _ _ (T232.setTop (mkF m 17 #[.val (.ref us), .val (.int (7 : Int32)), .val (.int (5 : Int32))] [(.int c5_)]))
            refine own_go (fun t k => XS.sipush X232.here hx rfl (hb hby d_p118_4_17) k) ?_
            by_cases hc233 : (255 : Int32) < c5_
            · show own_Go _ _ _ _ (T232.setTop (mkF m 20 #[.val (.ref us), .val (.int (7 : Int32)), .val (.int (5 : Int32))] [(.int (255 : Int32)), (.int c5_)]))
              refine own_go (fun t k => XS.icmpNo X232.here hx rfl (hb hby d_p118_4_20) rfl (tlt hc233).2.2.2 k) ?_
              refine own_go (fun t k => XS.iloadN X232.here hx rfl (hb hby d_p118_4_23) rfl k) ?_
              show own_Go _ _ _ _ (T232.setTop (mkF m 24 #[.val (.ref us), .val (.int (7 : Int32)), .val (.int (5 : Int32))] [(.int (5 : Int32))]))
              refine own_ret X232 hx hlk hret rfl (Or.inl ⟨rfl, Or.inl rfl, _, rfl⟩) (hb hby d_p118_4_24) ?_ (by decide) (by decide)
              rw [e232]
              exact ⟨by simp [own_p7, hc223, hc225, hc227, hc229, hc231, hc233], N232, rfl⟩
            · show own_Go _ _ _ _ (T232.setTop (mkF m 20 #[.val (.ref us), .val (.int (7 : Int32)), .val (.int (5 : Int32))] [(.int (255 : Int32)), (.int c5_)]))
              refine own_go (fun t k => XS.icmpYes X232.here hx rfl (pc0 := 20) (pc' := 25) rfl (hb hby d_p118_4_20) rfl (flt hc233).2.2.2 (by decide) (by decide) k) ?_
              refine own_go (fun t k => XS.iinc X232.here hx rfl (hb hby d_p118_4_25) rfl (l' := #[.val (.ref us), .val (.int (7 : Int32)), .val (.int ((5 : Int32) + (1 : Int32)))]) rfl k) ?_
              refine own_go (fun t k => XS.goto X232.here hx rfl (pc0 := 28) (pc' := 7) rfl (hb hby d_p118_4_28) (by decide) (by decide) k) ?_
              refine own_go (fun t k => XS.iloadN X232.here hx rfl (hb hby d_p118_4_7) rfl k) ?_
              show own_Go _ _ _ _ (T232.setTop (mkF m 8 #[.val (.ref us), .val (.int (7 : Int32)), .val (.int (6 : Int32))] [(.int (6 : Int32))]))
              refine own_go (fun t k => XS.iloadN X232.here hx rfl (hb hby d_p118_4_8) rfl k) ?_
              show own_Go _ _ _ _ (T232.setTop (mkF m 9 #[.val (.ref us), .val (.int (7 : Int32)), .val (.int (6 : Int32))] [(.int (7 : Int32)), (.int (6 : Int32))]))
              refine own_go (fun t k => XS.icmpNo X232.here hx rfl (hb hby d_p118_4_9) rfl (tlt (by decide : (6 : Int32) < (7 : Int32))).2.1 k) ?_
              refine own_go (fun t k => XS.aloadN X232.here hx rfl (hb hby d_p118_4_12) rfl rfl k) ?_
              refine own_go (fun t k => XS.iloadN X232.here hx rfl (hb hby d_p118_4_13) rfl k) ?_
              obtain ⟨cq234, kq234, q234a, q234b, q234c⟩ := isOf hZ e232 Ex0
              obtain ⟨_, _, ⟨T234, L234, k234, n234⟩, -, X234, ⟨Lc234, hQ234, l234, y234, z234⟩, st234⟩ := X232.virtualBack hx (y := (⟨"java/lang/String", "charAt", "(I)C"⟩ : MethodName)) (z := (⟨"java/lang/String", "charAt", "(I)C"⟩ : MethodName)) hown (mvT hZ (w_70 hw)) (mvT hZ (w_71 hw)) (notFace_of_selects (args := #[]) (mvT hZ (w_73 hw))) (mvT hZ (w_73 hw)) (mvT hZ (w_72 hw)) (by decide) (backOf (W := 0) (rm_ca l Z a0 hw [] us ub kb (14 : Int32) [(.int ((c0_ >>> ((0 : Int32) &&& 31)).toInt8.toInt32)), (.int ((c0_ >>> ((8 : Int32) &&& 31)).toInt8.toInt32)), (.int ((c1_ >>> ((0 : Int32) &&& 31)).toInt8.toInt32)), (.int ((c1_ >>> ((8 : Int32) &&& 31)).toInt8.toInt32)), (.int ((c2_ >>> ((0 : Int32) &&& 31)).toInt8.toInt32)), (.int ((c2_ >>> ((8 : Int32) &&& 31)).toInt8.toInt32)), (.int ((c3_ >>> ((0 : Int32) &&& 31)).toInt8.toInt32)), (.int ((c3_ >>> ((8 : Int32) &&& 31)).toInt8.toInt32)), (.int ((c4_ >>> ((0 : Int32) &&& 31)).toInt8.toInt32)), (.int ((c4_ >>> ((8 : Int32) &&& 31)).toInt8.toInt32)), (.int ((c5_ >>> ((0 : Int32) &&& 31)).toInt8.toInt32)), (.int ((c5_ >>> ((8 : Int32) &&& 31)).toInt8.toInt32)), (.int (((256 : Int32) >>> ((0 : Int32) &&& 31)).toInt8.toInt32)), (.int (((256 : Int32) >>> ((8 : Int32) &&& 31)).toInt8.toInt32))] (6 : Int32) (12 : Int32) (13 : Int32) (((256 : Int32) >>> ((0 : Int32) &&& 31)).toInt8.toInt32) (((256 : Int32) >>> ((8 : Int32) &&& 31)).toInt8.toInt32) (256 : Int32) (7 : Int32) zv gv h0 n0 Z0 Ex0 Cd0 Va0 A0 (by decide) (by decide) ⟨by decide, by decide⟩ ⟨by decide, by decide⟩ rfl rfl (own_pair9 own_B256) (by decide) (by decide) (by decide) (own_nc9 own_B256) O0 hzv S0 rgv G0 Sa Sh Sl) hZ (w_74 hw) (w_10 hw) (by decide) (by decide)) q234a q234c (g := (mkF m 14 #[.val (.ref us), .val (.int (7 : Int32)), .val (.int (6 : Int32))] [(.int (6 : Int32)), (.ref us)])) rfl (by rw [hml]; rfl) (Steps.refl _) (argsL := [(.int (6 : Int32))]) (rest := []) (lenOf pd_10 rfl) rfl (by show 2 * 0 + _ ≤ _; exact Nat.le_of_eq rfl) (hb hby d_p118_4_14) (fun _ _ => ⟨rfl, e232, (by decide : 0 + 0 ≤ _), (by decide : 0 + 0 ≤ _)⟩)
              dsimp only [Pt.U, Pt.locs, Pt.cells, Pt.slots] at X234 l234 y234 z234 st234 hQ234
              subst l234 y234 z234
              obtain ⟨rfl, N234q, e234⟩ := hQ234
              have N234 := Fr.app N232 N234q
              refine own_go (fun t k => st234.trans k) ?_
              show own_Go _ _ _ _ (T234.setTop (mkF m 17 #[.val (.ref us), .val (.int (7 : Int32)), .val (.int (6 : Int32))] [(.int (256 : Int32))]))
              refine own_go (fun t k => XS.sipush X234.here hx rfl (hb hby d_p118_4_17) k) ?_
              show own_Go _ _ _ _ (T234.setTop (mkF m 20 #[.val (.ref us), .val (.int (7 : Int32)), .val (.int (6 : Int32))] [(.int (255 : Int32)), (.int (256 : Int32))]))
              refine own_go (fun t k => XS.icmpNo X234.here hx rfl (hb hby d_p118_4_20) rfl (tlt (by decide : (255 : Int32) < (256 : Int32))).2.2.2 k) ?_
              refine own_go (fun t k => XS.iloadN X234.here hx rfl (hb hby d_p118_4_23) rfl k) ?_
              show own_Go _ _ _ _ (T234.setTop (mkF m 24 #[.val (.ref us), .val (.int (7 : Int32)), .val (.int (6 : Int32))] [(.int (6 : Int32))]))
              refine own_ret X234 hx hlk hret rfl (Or.inl ⟨rfl, Or.inl rfl, _, rfl⟩) (hb hby d_p118_4_24) ?_ (by decide) (by decide)
              rw [e234]
              exact ⟨by simp [own_p7, hc223, hc225, hc227, hc229, hc231, hc233], N234, rfl⟩
def Q_nbl_7 (Z : State)  (h0 : Heap) (n0 : Nat) (v : Option Value) (h : Heap) (L : List Loc) : Prop := v = some (.int (14 : Int32)) ∧ Fr n0 L ∧ h = h0
theorem ef_nbl_7 (m : MethodId)  : entryFrame m #[(.int (7 : Int32))] 1 = mkF m 0 #[.val (.int (7 : Int32))] [] := by first | (simp [entryFrame, mkF, argsToLocals, Value.category]; done) | rfl
set_option maxRecDepth 65536 in
set_option maxHeartbeats 40000000 in
theorem rm_nbl_7 (l : Launch) (Z : State) (a0 : Array Value) (hw : ∀ d ∈ tables_1, d.before a0 Z = true) (ws : List Jvm.Cond)  (h0 : Heap) (n0 : Nat) (Z0 : n0 ≤ h0.size) :
    own_Met l Z (⟨"java/lang/StringUTF16", "newBytesLength", "(I)I"⟩ : MethodName) jdk_52_method_3_code 1 (some .int) ws ({ frames := 0, cells := 0, slots := 0, locals := 0 } : Room) #[(.int (7 : Int32))] h0 (Q_nbl_7 Z  h0 n0) := by
  refine own_enter (own := "java/lang/StringUTF16") (plainFor_of_name pn_4) rfl ?_
  intro p e s m below meth c s₁ hlk hret hx hby hml hown hnm hZ X0 e0
  have N0 := Fr.nil n0
  refine own_cast (ef_nbl_7 m ) ?_
  show own_Go _ _ _ _ (s₁.setTop (mkF m 0 #[.val (.int (7 : Int32))] []))
  refine own_go (fun t k => XS.iloadN X0.here hx rfl (hb hby d_j52_3_0) rfl k) ?_
  show own_Go _ _ _ _ (s₁.setTop (mkF m 1 #[.val (.int (7 : Int32))] [(.int (7 : Int32))]))
  refine own_go (fun t k => XS.ifYes X0.here hx rfl (pc0 := 1) (pc' := 12) rfl (hb hby d_j52_3_1) rfl ((if0 _ _).trans (flt (by decide : ¬ ((7 : Int32) < (0 : Int32)))).2.1) (by decide) (by decide) k) ?_
  refine own_go (fun t k => XS.iloadN X0.here hx rfl (hb hby d_j52_3_12) rfl k) ?_
  show own_Go _ _ _ _ (s₁.setTop (mkF m 13 #[.val (.int (7 : Int32))] [(.int (7 : Int32))]))
  refine own_go (X0.ldcInt hx hown (mvT hZ (w_39 hw)) (g := (mkF m 13 #[.val (.int (7 : Int32))] [(.int (7 : Int32))])) rfl (hb hby d_j52_3_13)) ?_
  show own_Go _ _ _ _ (s₁.setTop (mkF m 15 #[.val (.int (7 : Int32))] [(.int (1073741823 : Int32)), (.int (7 : Int32))]))
  refine own_go (fun t k => XS.icmpYes X0.here hx rfl (pc0 := 15) (pc' := 55) rfl (hb hby d_j52_3_15) rfl (tlt (by decide : (7 : Int32) < (1073741823 : Int32))).1 (by decide) (by decide) k) ?_
  refine own_go (fun t k => XS.iloadN X0.here hx rfl (hb hby d_j52_3_55) rfl k) ?_
  refine own_go (fun t k => XS.iconst X0.here hx rfl (hb hby d_j52_3_56) k) ?_
  refine own_go (fun t k => XS.ishl X0.here hx rfl (hb hby d_j52_3_57) rfl k) ?_
  show own_Go _ _ _ _ (s₁.setTop (mkF m 58 #[.val (.int (7 : Int32))] [(.int (14 : Int32))]))
  refine own_ret X0 hx hlk hret rfl (Or.inl ⟨rfl, Or.inl rfl, _, rfl⟩) (hb hby d_j52_3_58) ?_ (by decide) (by decide)
  rw [e0]
  exact ⟨rfl, N0, rfl⟩
def Q_nbf_7 (Z : State)  (h0 : Heap) (n0 : Nat) (v : Option Value) (h : Heap) (L : List Loc) : Prop := ∃ (uy : Addr) (ky : ClassId), v = some (.ref uy) ∧ Fr n0 L ∧ Keep h0 h [] ∧ h0.size ≤ uy ∧ n0 ≤ uy ∧ Arv Z h uy ky .byte (14 : Int32) [(.int (0 : Int32)), (.int (0 : Int32)), (.int (0 : Int32)), (.int (0 : Int32)), (.int (0 : Int32)), (.int (0 : Int32)), (.int (0 : Int32)), (.int (0 : Int32)), (.int (0 : Int32)), (.int (0 : Int32)), (.int (0 : Int32)), (.int (0 : Int32)), (.int (0 : Int32)), (.int (0 : Int32))] (.int (0 : Int32))
theorem ef_nbf_7 (m : MethodId)  : entryFrame m #[(.int (7 : Int32))] 1 = mkF m 0 #[.val (.int (7 : Int32))] [] := by first | (simp [entryFrame, mkF, argsToLocals, Value.category]; done) | rfl
set_option maxRecDepth 65536 in
set_option maxHeartbeats 40000000 in
theorem rm_nbf_7 (l : Launch) (Z : State) (a0 : Array Value) (hw : ∀ d ∈ tables_1, d.before a0 Z = true) (ws : List Jvm.Cond)  (h0 : Heap) (n0 : Nat) (Z0 : n0 ≤ h0.size) :
    own_Met l Z (⟨"java/lang/StringUTF16", "newBytesFor", "(I)[B"⟩ : MethodName) jdk_52_method_2_code 1 (some (.array .byte)) ws ({ frames := 1, cells := 1, slots := 14, locals := 12 } : Room) #[(.int (7 : Int32))] h0 (Q_nbf_7 Z  h0 n0) := by
  refine own_enter (own := "java/lang/StringUTF16") (plainFor_of_name pn_4) rfl ?_
  intro p e s m below meth c s₁ hlk hret hx hby hml hown hnm hZ X0 e0
  have N0 := Fr.nil n0
  refine own_cast (ef_nbf_7 m ) ?_
  show own_Go _ _ _ _ (s₁.setTop (mkF m 0 #[.val (.int (7 : Int32))] []))
  refine own_go (fun t k => XS.iloadN X0.here hx rfl (hb hby d_j52_2_0) rfl k) ?_
  obtain ⟨_, _, ⟨T235, L235, k235, n235⟩, -, X235, ⟨Lc235, hQ235, l235, y235, z235⟩, st235⟩ := Jvm.LawKit.callS X0 hx (y := (⟨"java/lang/StringUTF16", "newBytesLength", "(I)I"⟩ : MethodName)) hown (mvT hZ (w_36 hw)) (mvT hZ (w_37 hw)) (mvT hZ (w_24 hw)) (mvT hZ (w_38 hw)) (by decide) (backOf (W := 0) (rm_nbl_7 l Z a0 hw []  h0 n0 Z0 ) hZ (w_38 hw) (w_24 hw) (by decide) (by decide)) (g := (mkF m 1 #[.val (.int (7 : Int32))] [(.int (7 : Int32))])) rfl (by rw [hml]; rfl) (argsL := [(.int (7 : Int32))]) (rest := []) (lenOf pd_11 rfl) rfl (by show 2 * 0 + _ ≤ _; exact Nat.le_of_eq rfl) (hb hby d_j52_2_1) (fun _ _ => ⟨rfl, e0, (by decide : 0 + 0 ≤ _), (by decide : 0 + 0 ≤ _)⟩)
  dsimp only [Pt.U, Pt.locs, Pt.cells, Pt.slots] at X235 l235 y235 z235 st235 hQ235
  subst l235 y235 z235
  obtain ⟨rfl, N235q, e235⟩ := hQ235
  have N235 := Fr.app N0 N235q
  refine own_go st235 ?_
  show own_Go _ _ _ _ (T235.setTop (mkF m 4 #[.val (.int (7 : Int32))] [(.int (14 : Int32))]))
  obtain ⟨T236, h236, k236, X236, e236, E236, A236, st236⟩ := newP (aty := .byte) X235 hx hZ (w_26 hw) e235 (n := (14 : Int32)) (rest := []) (g := (mkF m 4 #[.val (.int (7 : Int32))] [(.int (14 : Int32))])) rfl (hb hby d_j52_2_4) rfl (by decide) (cap := 14) (by decide) (by decide) (by decide) (by decide)
  obtain ⟨b236, g236⟩ : ∃ z, z = h0.size := ⟨_, rfl⟩
  rw [← g236] at A236 st236
  refine own_go st236 ?_
  have Z236 : n0 ≤ h236.size := (Nat.le_trans Z0 E236.1)
  have K236 : Keep h0 h236 [] := (Keep.refl h0 []).ext E236
  have lo236 : h0.size ≤ b236 := Nat.le_of_eq g236.symm
  have q236 : n0 ≤ b236 := Nat.le_trans Z0 lo236
  have hi236 : b236 < h236.size := A236.lt
  have V236 : Arv Z h236 b236 k236 .byte (14 : Int32) [(.int (0 : Int32)), (.int (0 : Int32)), (.int (0 : Int32)), (.int (0 : Int32)), (.int (0 : Int32)), (.int (0 : Int32)), (.int (0 : Int32)), (.int (0 : Int32)), (.int (0 : Int32)), (.int (0 : Int32)), (.int (0 : Int32)), (.int (0 : Int32)), (.int (0 : Int32)), (.int (0 : Int32))] (.int (0 : Int32)) := (Arv.new A236 (by decide)).pad (pad_rep [] (.int (0 : Int32)) 14)
  show own_Go _ _ _ _ (T236.setTop (mkF m 6 #[.val (.int (7 : Int32))] [(.ref b236)]))
  refine own_ret X236 hx hlk hret rfl (Or.inr (Or.inr (Or.inr (Or.inr ⟨rfl, rfl, rfl⟩)))) (hb hby d_j52_2_6) ?_ (by decide) (by decide)
  rw [e236]
  exact ⟨b236, k236, rfl, N235, K236, lo236, q236, V236⟩
def Q_pc_7_0 (Z : State) (ub : Addr) (kb : ClassId) (v0_ : Value) (v1_ : Value) (v2_ : Value) (v3_ : Value) (v4_ : Value) (v5_ : Value) (v6_ : Value) (v7_ : Value) (v8_ : Value) (v9_ : Value) (v10_ : Value) (v11_ : Value) (v12_ : Value) (v13_ : Value) (cv : Int32) (zv : Int32) (gv : Value) (h0 : Heap) (n0 : Nat) (v : Option Value) (h : Heap) (L : List Loc) : Prop := v = none ∧ Fr n0 L ∧ Keep h0 h [ub] ∧ Arv Z h ub kb .byte (14 : Int32) [(.int ((cv >>> ((0 : Int32) &&& 31)).toInt8.toInt32)), (.int ((cv >>> ((8 : Int32) &&& 31)).toInt8.toInt32)), v2_, v3_, v4_, v5_, v6_, v7_, v8_, v9_, v10_, v11_, v12_, v13_] (.int (0 : Int32))
theorem ef_pc_7_0 (m : MethodId) (ub : Addr) (cv : Int32) : entryFrame m #[(.ref ub), (.int (0 : Int32)), (.int cv)] 3 = mkF m 0 #[.val (.ref ub), .val (.int (0 : Int32)), .val (.int cv)] [] := by first | (simp [entryFrame, mkF, argsToLocals, Value.category]; done) | rfl
set_option maxRecDepth 65536 in
set_option maxHeartbeats 40000000 in
theorem rm_pc_7_0 (l : Launch) (Z : State) (a0 : Array Value) (hw : ∀ d ∈ tables_1, d.before a0 Z = true) (ws : List Jvm.Cond) (ub : Addr) (kb : ClassId) (v0_ v1_ v2_ v3_ v4_ v5_ v6_ v7_ v8_ v9_ v10_ v11_ v12_ v13_ : Value) (cv zv : Int32) (gv : Value) (h0 : Heap) (n0 : Nat) (Z0 : n0 ≤ h0.size) (q0 : n0 ≤ ub) (A0 : Arv Z h0 ub kb .byte (14 : Int32) [v0_, v1_, v2_, v3_, v4_, v5_, v6_, v7_, v8_, v9_, v10_, v11_, v12_, v13_] (.int (0 : Int32))) (O0 : Old Z n0 h0) (hzv : ¬ zv = (0 : Int32)) (S0 : Sta Z Z.heap "java/lang/String" "COMPACT_STRINGS" "Z" (.int zv)) (rgv : gv.isRef = true) (G0 : Sta Z Z.heap "jdk/internal/util/Preconditions" "SIOOBE_FORMATTER" "Ljava/util/function/BiFunction;" gv) (Sa : Sta Z Z.heap "java/lang/StringUTF16" "$assertionsDisabled" "Z" (.int (1 : Int32))) (Sh : Sta Z Z.heap "java/lang/StringUTF16" "HI_BYTE_SHIFT" "I" (.int (0 : Int32))) (Sl : Sta Z Z.heap "java/lang/StringUTF16" "LO_BYTE_SHIFT" "I" (.int (8 : Int32))) :
    own_Met l Z (⟨"java/lang/StringUTF16", "putChar", "([BII)V"⟩ : MethodName) jdk_52_method_4_code 3 none ws ({ frames := 0, cells := 0, slots := 0, locals := 0 } : Room) #[(.ref ub), (.int (0 : Int32)), (.int cv)] h0 (Q_pc_7_0 Z ub kb v0_ v1_ v2_ v3_ v4_ v5_ v6_ v7_ v8_ v9_ v10_ v11_ v12_ v13_ cv zv gv h0 n0) := by
  refine own_enter (own := "java/lang/StringUTF16") (plainFor_of_name pn_4) rfl ?_
  intro p e s m below meth c s₁ hlk hret hx hby hml hown hnm hZ X0 e0
  have N0 := Fr.nil n0
  refine own_cast (ef_pc_7_0 m ub cv) ?_
  show own_Go _ _ _ _ (s₁.setTop (mkF m 0 #[.val (.ref ub), .val (.int (0 : Int32)), .val (.int cv)] []))
  obtain ⟨T237, X237, e237, st237⟩ := getS2 X0 hx hZ hown (host := "") (Or.inl (w_43 hw)) Via.refl e0 (Sa.ext O0.2) (g := (mkF m 0 #[.val (.ref ub), .val (.int (0 : Int32)), .val (.int cv)] [])) rfl (hb hby d_j52_4_0)
  refine own_go st237 ?_
  show own_Go _ _ _ _ (T237.setTop (mkF m 3 #[.val (.ref ub), .val (.int (0 : Int32)), .val (.int cv)] [(.int (1 : Int32))]))
  refine own_go (fun t k => XS.ifYes X237.here hx rfl (pc0 := 3) (pc' := 28) rfl (hb hby d_j52_4_3) rfl ((if0 _ _).trans (feq (by decide : ¬ ((1 : Int32) = (0 : Int32)))).2) (by decide) (by decide) k) ?_
  refine own_go (fun t k => XS.iloadN X237.here hx rfl (hb hby d_j52_4_28) rfl k) ?_
  refine own_go (fun t k => XS.iconst X237.here hx rfl (hb hby d_j52_4_29) k) ?_
  refine own_go (fun t k => XS.ishl X237.here hx rfl (hb hby d_j52_4_30) rfl k) ?_
  show own_Go _ _ _ _ (T237.setTop (mkF m 31 #[.val (.ref ub), .val (.int (0 : Int32)), .val (.int cv)] [(.int (0 : Int32))]))
  refine own_go (fun t k => XS.istoreN X237.here hx rfl (hb hby d_j52_4_31) rfl (l' := #[.val (.ref ub), .val (.int (0 : Int32)), .val (.int cv)]) rfl k) ?_
  refine own_go (fun t k => XS.aloadN X237.here hx rfl (hb hby d_j52_4_32) rfl rfl k) ?_
  refine own_go (fun t k => XS.iloadN X237.here hx rfl (hb hby d_j52_4_33) rfl k) ?_
  refine own_go (fun t k => XS.iinc X237.here hx rfl (hb hby d_j52_4_34) rfl (l' := #[.val (.ref ub), .val (.int ((0 : Int32) + (1 : Int32))), .val (.int cv)]) rfl k) ?_
  show own_Go _ _ _ _ (T237.setTop (mkF m 37 #[.val (.ref ub), .val (.int (1 : Int32)), .val (.int cv)] [(.int (0 : Int32)), (.ref ub)]))
  refine own_go (fun t k => XS.iloadN X237.here hx rfl (hb hby d_j52_4_37) rfl k) ?_
  show own_Go _ _ _ _ (T237.setTop (mkF m 38 #[.val (.ref ub), .val (.int (1 : Int32)), .val (.int cv)] [(.int cv), (.int (0 : Int32)), (.ref ub)]))
  obtain ⟨T238, X238, e238, st238⟩ := getS2 X237 hx hZ hown (host := "") (Or.inl (w_44 hw)) Via.refl e237 (Sh.ext O0.2) (g := (mkF m 38 #[.val (.ref ub), .val (.int (1 : Int32)), .val (.int cv)] [(.int cv), (.int (0 : Int32)), (.ref ub)])) rfl (hb hby d_j52_4_38)
  refine own_go st238 ?_
  refine own_go (fun t k => XS.ishr X238.here hx rfl (hb hby d_j52_4_41) rfl k) ?_
  refine own_go (fun t k => XS.i2b X238.here hx rfl (hb hby d_j52_4_42) rfl k) ?_
  show own_Go _ _ _ _ (T238.setTop (mkF m 43 #[.val (.ref ub), .val (.int (1 : Int32)), .val (.int cv)] [(.int ((cv >>> ((0 : Int32) &&& 31)).toInt8.toInt32)), (.int (0 : Int32)), (.ref ub)]))
  obtain ⟨cl239, Ar239, qk239, sz239, nn239, ha239, gf239⟩ := id A0
  have hin239 : ¬ ((0 : Int32) < 0 ∨ cl239.slots.size ≤ ((0 : Int32)).toNatClampNeg) := inb_of sz239 ⟨by decide, by decide⟩
  obtain ⟨T240, h240, X240, e240, W240, st240⟩ := stB X238 hx hZ e238 Ar239 (j := (0 : Int32)) hin239 (g := (mkF m 43 #[.val (.ref ub), .val (.int (1 : Int32)), .val (.int cv)] [(.int ((cv >>> ((0 : Int32) &&& 31)).toInt8.toInt32)), (.int (0 : Int32)), (.ref ub)])) rfl rfl (hb hby d_j52_4_43)
  refine own_go st240 ?_
  rw [show nar .byte ((cv >>> ((0 : Int32) &&& 31)).toInt8.toInt32) = ((cv >>> ((0 : Int32) &&& 31)).toInt8.toInt32) from own_b8 _] at W240
  have V240 : Arv Z h240 ub kb .byte (14 : Int32) [(.int ((cv >>> ((0 : Int32) &&& 31)).toInt8.toInt32)), v1_, v2_, v3_, v4_, v5_, v6_, v7_, v8_, v9_, v10_, v11_, v12_, v13_] (.int (0 : Int32)) := Arv.set Ar239 qk239 sz239 nn239 ha239 gf239 (fits_nar_byte _) W240 0 rfl (Nat.le_of_ble_eq_true rfl)
  have Z240 : n0 ≤ h240.size := (Nat.le_trans Z0 (Nat.le_of_eq W240.size.symm))
  have N240 := Fr.snoc X240 N0 q0
  have K240 : Keep h0 h240 [ub] := (Keep.refl h0 [ub]).wr W240 (Or.inl (List.mem_of_getElem? (i := 0) rfl))
  refine own_go (fun t k => XS.aloadN X240.here hx rfl (hb hby d_j52_4_44) rfl rfl k) ?_
  refine own_go (fun t k => XS.iloadN X240.here hx rfl (hb hby d_j52_4_45) rfl k) ?_
  refine own_go (fun t k => XS.iloadN X240.here hx rfl (hb hby d_j52_4_46) rfl k) ?_
  show own_Go _ _ _ _ (T240.setTop (mkF m 47 #[.val (.ref ub), .val (.int (1 : Int32)), .val (.int cv)] [(.int cv), (.int (1 : Int32)), (.ref ub)]))
  obtain ⟨T241, X241, e241, st241⟩ := getS2 X240 hx hZ hown (host := "") (Or.inl (w_45 hw)) Via.refl e240 (Sl.ext (O0.wr W240 q0).2) (g := (mkF m 47 #[.val (.ref ub), .val (.int (1 : Int32)), .val (.int cv)] [(.int cv), (.int (1 : Int32)), (.ref ub)])) rfl (hb hby d_j52_4_47)
  refine own_go st241 ?_
  refine own_go (fun t k => XS.ishr X241.here hx rfl (hb hby d_j52_4_50) rfl k) ?_
  refine own_go (fun t k => XS.i2b X241.here hx rfl (hb hby d_j52_4_51) rfl k) ?_
  show own_Go _ _ _ _ (T241.setTop (mkF m 52 #[.val (.ref ub), .val (.int (1 : Int32)), .val (.int cv)] [(.int ((cv >>> ((8 : Int32) &&& 31)).toInt8.toInt32)), (.int (1 : Int32)), (.ref ub)]))
  obtain ⟨cl242, Ar242, qk242, sz242, nn242, ha242, gf242⟩ := id V240
  have hin242 : ¬ ((1 : Int32) < 0 ∨ cl242.slots.size ≤ ((1 : Int32)).toNatClampNeg) := inb_of sz242 ⟨by decide, by decide⟩
  obtain ⟨T243, h243, X243, e243, W243, st243⟩ := stB X241 hx hZ e241 Ar242 (j := (1 : Int32)) hin242 (g := (mkF m 52 #[.val (.ref ub), .val (.int (1 : Int32)), .val (.int cv)] [(.int ((cv >>> ((8 : Int32) &&& 31)).toInt8.toInt32)), (.int (1 : Int32)), (.ref ub)])) rfl rfl (hb hby d_j52_4_52)
  refine own_go st243 ?_
  rw [show nar .byte ((cv >>> ((8 : Int32) &&& 31)).toInt8.toInt32) = ((cv >>> ((8 : Int32) &&& 31)).toInt8.toInt32) from own_b8 _] at W243
  have V243 : Arv Z h243 ub kb .byte (14 : Int32) [(.int ((cv >>> ((0 : Int32) &&& 31)).toInt8.toInt32)), (.int ((cv >>> ((8 : Int32) &&& 31)).toInt8.toInt32)), v2_, v3_, v4_, v5_, v6_, v7_, v8_, v9_, v10_, v11_, v12_, v13_] (.int (0 : Int32)) := Arv.set Ar242 qk242 sz242 nn242 ha242 gf242 (fits_nar_byte _) W243 1 rfl (Nat.le_of_ble_eq_true rfl)
  have Z243 : n0 ≤ h243.size := (Nat.le_trans Z240 (Nat.le_of_eq W243.size.symm))
  have N243 := Fr.snoc X243 N240 q0
  have K243 : Keep h0 h243 [ub] := K240.wr W243 (Or.inl (List.mem_of_getElem? (i := 0) rfl))
  show own_Go _ _ _ _ (T243.setTop (mkF m 53 #[.val (.ref ub), .val (.int (1 : Int32)), .val (.int cv)] []))
  refine own_retV X243 hx hlk hret (hb hby d_j52_4_53) ?_ (by decide) (by decide)
  rw [e243]
  exact ⟨rfl, N243, K243, V243⟩
def Q_pc_7_1 (Z : State) (ub : Addr) (kb : ClassId) (v0_ : Value) (v1_ : Value) (v2_ : Value) (v3_ : Value) (v4_ : Value) (v5_ : Value) (v6_ : Value) (v7_ : Value) (v8_ : Value) (v9_ : Value) (v10_ : Value) (v11_ : Value) (v12_ : Value) (v13_ : Value) (cv : Int32) (zv : Int32) (gv : Value) (h0 : Heap) (n0 : Nat) (v : Option Value) (h : Heap) (L : List Loc) : Prop := v = none ∧ Fr n0 L ∧ Keep h0 h [ub] ∧ Arv Z h ub kb .byte (14 : Int32) [v0_, v1_, (.int ((cv >>> ((0 : Int32) &&& 31)).toInt8.toInt32)), (.int ((cv >>> ((8 : Int32) &&& 31)).toInt8.toInt32)), v4_, v5_, v6_, v7_, v8_, v9_, v10_, v11_, v12_, v13_] (.int (0 : Int32))
theorem ef_pc_7_1 (m : MethodId) (ub : Addr) (cv : Int32) : entryFrame m #[(.ref ub), (.int (1 : Int32)), (.int cv)] 3 = mkF m 0 #[.val (.ref ub), .val (.int (1 : Int32)), .val (.int cv)] [] := by first | (simp [entryFrame, mkF, argsToLocals, Value.category]; done) | rfl
set_option maxRecDepth 65536 in
set_option maxHeartbeats 40000000 in
theorem rm_pc_7_1 (l : Launch) (Z : State) (a0 : Array Value) (hw : ∀ d ∈ tables_1, d.before a0 Z = true) (ws : List Jvm.Cond) (ub : Addr) (kb : ClassId) (v0_ v1_ v2_ v3_ v4_ v5_ v6_ v7_ v8_ v9_ v10_ v11_ v12_ v13_ : Value) (cv zv : Int32) (gv : Value) (h0 : Heap) (n0 : Nat) (Z0 : n0 ≤ h0.size) (q0 : n0 ≤ ub) (A0 : Arv Z h0 ub kb .byte (14 : Int32) [v0_, v1_, v2_, v3_, v4_, v5_, v6_, v7_, v8_, v9_, v10_, v11_, v12_, v13_] (.int (0 : Int32))) (O0 : Old Z n0 h0) (hzv : ¬ zv = (0 : Int32)) (S0 : Sta Z Z.heap "java/lang/String" "COMPACT_STRINGS" "Z" (.int zv)) (rgv : gv.isRef = true) (G0 : Sta Z Z.heap "jdk/internal/util/Preconditions" "SIOOBE_FORMATTER" "Ljava/util/function/BiFunction;" gv) (Sa : Sta Z Z.heap "java/lang/StringUTF16" "$assertionsDisabled" "Z" (.int (1 : Int32))) (Sh : Sta Z Z.heap "java/lang/StringUTF16" "HI_BYTE_SHIFT" "I" (.int (0 : Int32))) (Sl : Sta Z Z.heap "java/lang/StringUTF16" "LO_BYTE_SHIFT" "I" (.int (8 : Int32))) :
    own_Met l Z (⟨"java/lang/StringUTF16", "putChar", "([BII)V"⟩ : MethodName) jdk_52_method_4_code 3 none ws ({ frames := 0, cells := 0, slots := 0, locals := 0 } : Room) #[(.ref ub), (.int (1 : Int32)), (.int cv)] h0 (Q_pc_7_1 Z ub kb v0_ v1_ v2_ v3_ v4_ v5_ v6_ v7_ v8_ v9_ v10_ v11_ v12_ v13_ cv zv gv h0 n0) := by
  refine own_enter (own := "java/lang/StringUTF16") (plainFor_of_name pn_4) rfl ?_
  intro p e s m below meth c s₁ hlk hret hx hby hml hown hnm hZ X0 e0
  have N0 := Fr.nil n0
  refine own_cast (ef_pc_7_1 m ub cv) ?_
  show own_Go _ _ _ _ (s₁.setTop (mkF m 0 #[.val (.ref ub), .val (.int (1 : Int32)), .val (.int cv)] []))
  obtain ⟨T244, X244, e244, st244⟩ := getS2 X0 hx hZ hown (host := "") (Or.inl (w_43 hw)) Via.refl e0 (Sa.ext O0.2) (g := (mkF m 0 #[.val (.ref ub), .val (.int (1 : Int32)), .val (.int cv)] [])) rfl (hb hby d_j52_4_0)
  refine own_go st244 ?_
  show own_Go _ _ _ _ (T244.setTop (mkF m 3 #[.val (.ref ub), .val (.int (1 : Int32)), .val (.int cv)] [(.int (1 : Int32))]))
  refine own_go (fun t k => XS.ifYes X244.here hx rfl (pc0 := 3) (pc' := 28) rfl (hb hby d_j52_4_3) rfl ((if0 _ _).trans (feq (by decide : ¬ ((1 : Int32) = (0 : Int32)))).2) (by decide) (by decide) k) ?_
  refine own_go (fun t k => XS.iloadN X244.here hx rfl (hb hby d_j52_4_28) rfl k) ?_
  refine own_go (fun t k => XS.iconst X244.here hx rfl (hb hby d_j52_4_29) k) ?_
  refine own_go (fun t k => XS.ishl X244.here hx rfl (hb hby d_j52_4_30) rfl k) ?_
  show own_Go _ _ _ _ (T244.setTop (mkF m 31 #[.val (.ref ub), .val (.int (1 : Int32)), .val (.int cv)] [(.int (2 : Int32))]))
  refine own_go (fun t k => XS.istoreN X244.here hx rfl (hb hby d_j52_4_31) rfl (l' := #[.val (.ref ub), .val (.int (2 : Int32)), .val (.int cv)]) rfl k) ?_
  refine own_go (fun t k => XS.aloadN X244.here hx rfl (hb hby d_j52_4_32) rfl rfl k) ?_
  refine own_go (fun t k => XS.iloadN X244.here hx rfl (hb hby d_j52_4_33) rfl k) ?_
  refine own_go (fun t k => XS.iinc X244.here hx rfl (hb hby d_j52_4_34) rfl (l' := #[.val (.ref ub), .val (.int ((2 : Int32) + (1 : Int32))), .val (.int cv)]) rfl k) ?_
  show own_Go _ _ _ _ (T244.setTop (mkF m 37 #[.val (.ref ub), .val (.int (3 : Int32)), .val (.int cv)] [(.int (2 : Int32)), (.ref ub)]))
  refine own_go (fun t k => XS.iloadN X244.here hx rfl (hb hby d_j52_4_37) rfl k) ?_
  show own_Go _ _ _ _ (T244.setTop (mkF m 38 #[.val (.ref ub), .val (.int (3 : Int32)), .val (.int cv)] [(.int cv), (.int (2 : Int32)), (.ref ub)]))
  obtain ⟨T245, X245, e245, st245⟩ := getS2 X244 hx hZ hown (host := "") (Or.inl (w_44 hw)) Via.refl e244 (Sh.ext O0.2) (g := (mkF m 38 #[.val (.ref ub), .val (.int (3 : Int32)), .val (.int cv)] [(.int cv), (.int (2 : Int32)), (.ref ub)])) rfl (hb hby d_j52_4_38)
  refine own_go st245 ?_
  refine own_go (fun t k => XS.ishr X245.here hx rfl (hb hby d_j52_4_41) rfl k) ?_
  refine own_go (fun t k => XS.i2b X245.here hx rfl (hb hby d_j52_4_42) rfl k) ?_
  show own_Go _ _ _ _ (T245.setTop (mkF m 43 #[.val (.ref ub), .val (.int (3 : Int32)), .val (.int cv)] [(.int ((cv >>> ((0 : Int32) &&& 31)).toInt8.toInt32)), (.int (2 : Int32)), (.ref ub)]))
  obtain ⟨cl246, Ar246, qk246, sz246, nn246, ha246, gf246⟩ := id A0
  have hin246 : ¬ ((2 : Int32) < 0 ∨ cl246.slots.size ≤ ((2 : Int32)).toNatClampNeg) := inb_of sz246 ⟨by decide, by decide⟩
  obtain ⟨T247, h247, X247, e247, W247, st247⟩ := stB X245 hx hZ e245 Ar246 (j := (2 : Int32)) hin246 (g := (mkF m 43 #[.val (.ref ub), .val (.int (3 : Int32)), .val (.int cv)] [(.int ((cv >>> ((0 : Int32) &&& 31)).toInt8.toInt32)), (.int (2 : Int32)), (.ref ub)])) rfl rfl (hb hby d_j52_4_43)
  refine own_go st247 ?_
  rw [show nar .byte ((cv >>> ((0 : Int32) &&& 31)).toInt8.toInt32) = ((cv >>> ((0 : Int32) &&& 31)).toInt8.toInt32) from own_b8 _] at W247
  have V247 : Arv Z h247 ub kb .byte (14 : Int32) [v0_, v1_, (.int ((cv >>> ((0 : Int32) &&& 31)).toInt8.toInt32)), v3_, v4_, v5_, v6_, v7_, v8_, v9_, v10_, v11_, v12_, v13_] (.int (0 : Int32)) := Arv.set Ar246 qk246 sz246 nn246 ha246 gf246 (fits_nar_byte _) W247 2 rfl (Nat.le_of_ble_eq_true rfl)
  have Z247 : n0 ≤ h247.size := (Nat.le_trans Z0 (Nat.le_of_eq W247.size.symm))
  have N247 := Fr.snoc X247 N0 q0
  have K247 : Keep h0 h247 [ub] := (Keep.refl h0 [ub]).wr W247 (Or.inl (List.mem_of_getElem? (i := 0) rfl))
  refine own_go (fun t k => XS.aloadN X247.here hx rfl (hb hby d_j52_4_44) rfl rfl k) ?_
  refine own_go (fun t k => XS.iloadN X247.here hx rfl (hb hby d_j52_4_45) rfl k) ?_
  refine own_go (fun t k => XS.iloadN X247.here hx rfl (hb hby d_j52_4_46) rfl k) ?_
  show own_Go _ _ _ _ (T247.setTop (mkF m 47 #[.val (.ref ub), .val (.int (3 : Int32)), .val (.int cv)] [(.int cv), (.int (3 : Int32)), (.ref ub)]))
  obtain ⟨T248, X248, e248, st248⟩ := getS2 X247 hx hZ hown (host := "") (Or.inl (w_45 hw)) Via.refl e247 (Sl.ext (O0.wr W247 q0).2) (g := (mkF m 47 #[.val (.ref ub), .val (.int (3 : Int32)), .val (.int cv)] [(.int cv), (.int (3 : Int32)), (.ref ub)])) rfl (hb hby d_j52_4_47)
  refine own_go st248 ?_
  refine own_go (fun t k => XS.ishr X248.here hx rfl (hb hby d_j52_4_50) rfl k) ?_
  refine own_go (fun t k => XS.i2b X248.here hx rfl (hb hby d_j52_4_51) rfl k) ?_
  show own_Go _ _ _ _ (T248.setTop (mkF m 52 #[.val (.ref ub), .val (.int (3 : Int32)), .val (.int cv)] [(.int ((cv >>> ((8 : Int32) &&& 31)).toInt8.toInt32)), (.int (3 : Int32)), (.ref ub)]))
  obtain ⟨cl249, Ar249, qk249, sz249, nn249, ha249, gf249⟩ := id V247
  have hin249 : ¬ ((3 : Int32) < 0 ∨ cl249.slots.size ≤ ((3 : Int32)).toNatClampNeg) := inb_of sz249 ⟨by decide, by decide⟩
  obtain ⟨T250, h250, X250, e250, W250, st250⟩ := stB X248 hx hZ e248 Ar249 (j := (3 : Int32)) hin249 (g := (mkF m 52 #[.val (.ref ub), .val (.int (3 : Int32)), .val (.int cv)] [(.int ((cv >>> ((8 : Int32) &&& 31)).toInt8.toInt32)), (.int (3 : Int32)), (.ref ub)])) rfl rfl (hb hby d_j52_4_52)
  refine own_go st250 ?_
  rw [show nar .byte ((cv >>> ((8 : Int32) &&& 31)).toInt8.toInt32) = ((cv >>> ((8 : Int32) &&& 31)).toInt8.toInt32) from own_b8 _] at W250
  have V250 : Arv Z h250 ub kb .byte (14 : Int32) [v0_, v1_, (.int ((cv >>> ((0 : Int32) &&& 31)).toInt8.toInt32)), (.int ((cv >>> ((8 : Int32) &&& 31)).toInt8.toInt32)), v4_, v5_, v6_, v7_, v8_, v9_, v10_, v11_, v12_, v13_] (.int (0 : Int32)) := Arv.set Ar249 qk249 sz249 nn249 ha249 gf249 (fits_nar_byte _) W250 3 rfl (Nat.le_of_ble_eq_true rfl)
  have Z250 : n0 ≤ h250.size := (Nat.le_trans Z247 (Nat.le_of_eq W250.size.symm))
  have N250 := Fr.snoc X250 N247 q0
  have K250 : Keep h0 h250 [ub] := K247.wr W250 (Or.inl (List.mem_of_getElem? (i := 0) rfl))
  show own_Go _ _ _ _ (T250.setTop (mkF m 53 #[.val (.ref ub), .val (.int (3 : Int32)), .val (.int cv)] []))
  refine own_retV X250 hx hlk hret (hb hby d_j52_4_53) ?_ (by decide) (by decide)
  rw [e250]
  exact ⟨rfl, N250, K250, V250⟩
def Q_pc_7_2 (Z : State) (ub : Addr) (kb : ClassId) (v0_ : Value) (v1_ : Value) (v2_ : Value) (v3_ : Value) (v4_ : Value) (v5_ : Value) (v6_ : Value) (v7_ : Value) (v8_ : Value) (v9_ : Value) (v10_ : Value) (v11_ : Value) (v12_ : Value) (v13_ : Value) (cv : Int32) (zv : Int32) (gv : Value) (h0 : Heap) (n0 : Nat) (v : Option Value) (h : Heap) (L : List Loc) : Prop := v = none ∧ Fr n0 L ∧ Keep h0 h [ub] ∧ Arv Z h ub kb .byte (14 : Int32) [v0_, v1_, v2_, v3_, (.int ((cv >>> ((0 : Int32) &&& 31)).toInt8.toInt32)), (.int ((cv >>> ((8 : Int32) &&& 31)).toInt8.toInt32)), v6_, v7_, v8_, v9_, v10_, v11_, v12_, v13_] (.int (0 : Int32))
theorem ef_pc_7_2 (m : MethodId) (ub : Addr) (cv : Int32) : entryFrame m #[(.ref ub), (.int (2 : Int32)), (.int cv)] 3 = mkF m 0 #[.val (.ref ub), .val (.int (2 : Int32)), .val (.int cv)] [] := by first | (simp [entryFrame, mkF, argsToLocals, Value.category]; done) | rfl
set_option maxRecDepth 65536 in
set_option maxHeartbeats 40000000 in
theorem rm_pc_7_2 (l : Launch) (Z : State) (a0 : Array Value) (hw : ∀ d ∈ tables_1, d.before a0 Z = true) (ws : List Jvm.Cond) (ub : Addr) (kb : ClassId) (v0_ v1_ v2_ v3_ v4_ v5_ v6_ v7_ v8_ v9_ v10_ v11_ v12_ v13_ : Value) (cv zv : Int32) (gv : Value) (h0 : Heap) (n0 : Nat) (Z0 : n0 ≤ h0.size) (q0 : n0 ≤ ub) (A0 : Arv Z h0 ub kb .byte (14 : Int32) [v0_, v1_, v2_, v3_, v4_, v5_, v6_, v7_, v8_, v9_, v10_, v11_, v12_, v13_] (.int (0 : Int32))) (O0 : Old Z n0 h0) (hzv : ¬ zv = (0 : Int32)) (S0 : Sta Z Z.heap "java/lang/String" "COMPACT_STRINGS" "Z" (.int zv)) (rgv : gv.isRef = true) (G0 : Sta Z Z.heap "jdk/internal/util/Preconditions" "SIOOBE_FORMATTER" "Ljava/util/function/BiFunction;" gv) (Sa : Sta Z Z.heap "java/lang/StringUTF16" "$assertionsDisabled" "Z" (.int (1 : Int32))) (Sh : Sta Z Z.heap "java/lang/StringUTF16" "HI_BYTE_SHIFT" "I" (.int (0 : Int32))) (Sl : Sta Z Z.heap "java/lang/StringUTF16" "LO_BYTE_SHIFT" "I" (.int (8 : Int32))) :
    own_Met l Z (⟨"java/lang/StringUTF16", "putChar", "([BII)V"⟩ : MethodName) jdk_52_method_4_code 3 none ws ({ frames := 0, cells := 0, slots := 0, locals := 0 } : Room) #[(.ref ub), (.int (2 : Int32)), (.int cv)] h0 (Q_pc_7_2 Z ub kb v0_ v1_ v2_ v3_ v4_ v5_ v6_ v7_ v8_ v9_ v10_ v11_ v12_ v13_ cv zv gv h0 n0) := by
  refine own_enter (own := "java/lang/StringUTF16") (plainFor_of_name pn_4) rfl ?_
  intro p e s m below meth c s₁ hlk hret hx hby hml hown hnm hZ X0 e0
  have N0 := Fr.nil n0
  refine own_cast (ef_pc_7_2 m ub cv) ?_
  show own_Go _ _ _ _ (s₁.setTop (mkF m 0 #[.val (.ref ub), .val (.int (2 : Int32)), .val (.int cv)] []))
  obtain ⟨T251, X251, e251, st251⟩ := getS2 X0 hx hZ hown (host := "") (Or.inl (w_43 hw)) Via.refl e0 (Sa.ext O0.2) (g := (mkF m 0 #[.val (.ref ub), .val (.int (2 : Int32)), .val (.int cv)] [])) rfl (hb hby d_j52_4_0)
  refine own_go st251 ?_
  show own_Go _ _ _ _ (T251.setTop (mkF m 3 #[.val (.ref ub), .val (.int (2 : Int32)), .val (.int cv)] [(.int (1 : Int32))]))
  refine own_go (fun t k => XS.ifYes X251.here hx rfl (pc0 := 3) (pc' := 28) rfl (hb hby d_j52_4_3) rfl ((if0 _ _).trans (feq (by decide : ¬ ((1 : Int32) = (0 : Int32)))).2) (by decide) (by decide) k) ?_
  refine own_go (fun t k => XS.iloadN X251.here hx rfl (hb hby d_j52_4_28) rfl k) ?_
  refine own_go (fun t k => XS.iconst X251.here hx rfl (hb hby d_j52_4_29) k) ?_
  refine own_go (fun t k => XS.ishl X251.here hx rfl (hb hby d_j52_4_30) rfl k) ?_
  show own_Go _ _ _ _ (T251.setTop (mkF m 31 #[.val (.ref ub), .val (.int (2 : Int32)), .val (.int cv)] [(.int (4 : Int32))]))
  refine own_go (fun t k => XS.istoreN X251.here hx rfl (hb hby d_j52_4_31) rfl (l' := #[.val (.ref ub), .val (.int (4 : Int32)), .val (.int cv)]) rfl k) ?_
  refine own_go (fun t k => XS.aloadN X251.here hx rfl (hb hby d_j52_4_32) rfl rfl k) ?_
  refine own_go (fun t k => XS.iloadN X251.here hx rfl (hb hby d_j52_4_33) rfl k) ?_
  refine own_go (fun t k => XS.iinc X251.here hx rfl (hb hby d_j52_4_34) rfl (l' := #[.val (.ref ub), .val (.int ((4 : Int32) + (1 : Int32))), .val (.int cv)]) rfl k) ?_
  show own_Go _ _ _ _ (T251.setTop (mkF m 37 #[.val (.ref ub), .val (.int (5 : Int32)), .val (.int cv)] [(.int (4 : Int32)), (.ref ub)]))
  refine own_go (fun t k => XS.iloadN X251.here hx rfl (hb hby d_j52_4_37) rfl k) ?_
  show own_Go _ _ _ _ (T251.setTop (mkF m 38 #[.val (.ref ub), .val (.int (5 : Int32)), .val (.int cv)] [(.int cv), (.int (4 : Int32)), (.ref ub)]))
  obtain ⟨T252, X252, e252, st252⟩ := getS2 X251 hx hZ hown (host := "") (Or.inl (w_44 hw)) Via.refl e251 (Sh.ext O0.2) (g := (mkF m 38 #[.val (.ref ub), .val (.int (5 : Int32)), .val (.int cv)] [(.int cv), (.int (4 : Int32)), (.ref ub)])) rfl (hb hby d_j52_4_38)
  refine own_go st252 ?_
  refine own_go (fun t k => XS.ishr X252.here hx rfl (hb hby d_j52_4_41) rfl k) ?_
  refine own_go (fun t k => XS.i2b X252.here hx rfl (hb hby d_j52_4_42) rfl k) ?_
  show own_Go _ _ _ _ (T252.setTop (mkF m 43 #[.val (.ref ub), .val (.int (5 : Int32)), .val (.int cv)] [(.int ((cv >>> ((0 : Int32) &&& 31)).toInt8.toInt32)), (.int (4 : Int32)), (.ref ub)]))
  obtain ⟨cl253, Ar253, qk253, sz253, nn253, ha253, gf253⟩ := id A0
  have hin253 : ¬ ((4 : Int32) < 0 ∨ cl253.slots.size ≤ ((4 : Int32)).toNatClampNeg) := inb_of sz253 ⟨by decide, by decide⟩
  obtain ⟨T254, h254, X254, e254, W254, st254⟩ := stB X252 hx hZ e252 Ar253 (j := (4 : Int32)) hin253 (g := (mkF m 43 #[.val (.ref ub), .val (.int (5 : Int32)), .val (.int cv)] [(.int ((cv >>> ((0 : Int32) &&& 31)).toInt8.toInt32)), (.int (4 : Int32)), (.ref ub)])) rfl rfl (hb hby d_j52_4_43)
  refine own_go st254 ?_
  rw [show nar .byte ((cv >>> ((0 : Int32) &&& 31)).toInt8.toInt32) = ((cv >>> ((0 : Int32) &&& 31)).toInt8.toInt32) from own_b8 _] at W254
  have V254 : Arv Z h254 ub kb .byte (14 : Int32) [v0_, v1_, v2_, v3_, (.int ((cv >>> ((0 : Int32) &&& 31)).toInt8.toInt32)), v5_, v6_, v7_, v8_, v9_, v10_, v11_, v12_, v13_] (.int (0 : Int32)) := Arv.set Ar253 qk253 sz253 nn253 ha253 gf253 (fits_nar_byte _) W254 4 rfl (Nat.le_of_ble_eq_true rfl)
  have Z254 : n0 ≤ h254.size := (Nat.le_trans Z0 (Nat.le_of_eq W254.size.symm))
  have N254 := Fr.snoc X254 N0 q0
  have K254 : Keep h0 h254 [ub] := (Keep.refl h0 [ub]).wr W254 (Or.inl (List.mem_of_getElem? (i := 0) rfl))
  refine own_go (fun t k => XS.aloadN X254.here hx rfl (hb hby d_j52_4_44) rfl rfl k) ?_
  refine own_go (fun t k => XS.iloadN X254.here hx rfl (hb hby d_j52_4_45) rfl k) ?_
  refine own_go (fun t k => XS.iloadN X254.here hx rfl (hb hby d_j52_4_46) rfl k) ?_
  show own_Go _ _ _ _ (T254.setTop (mkF m 47 #[.val (.ref ub), .val (.int (5 : Int32)), .val (.int cv)] [(.int cv), (.int (5 : Int32)), (.ref ub)]))
  obtain ⟨T255, X255, e255, st255⟩ := getS2 X254 hx hZ hown (host := "") (Or.inl (w_45 hw)) Via.refl e254 (Sl.ext (O0.wr W254 q0).2) (g := (mkF m 47 #[.val (.ref ub), .val (.int (5 : Int32)), .val (.int cv)] [(.int cv), (.int (5 : Int32)), (.ref ub)])) rfl (hb hby d_j52_4_47)
  refine own_go st255 ?_
  refine own_go (fun t k => XS.ishr X255.here hx rfl (hb hby d_j52_4_50) rfl k) ?_
  refine own_go (fun t k => XS.i2b X255.here hx rfl (hb hby d_j52_4_51) rfl k) ?_
  show own_Go _ _ _ _ (T255.setTop (mkF m 52 #[.val (.ref ub), .val (.int (5 : Int32)), .val (.int cv)] [(.int ((cv >>> ((8 : Int32) &&& 31)).toInt8.toInt32)), (.int (5 : Int32)), (.ref ub)]))
  obtain ⟨cl256, Ar256, qk256, sz256, nn256, ha256, gf256⟩ := id V254
  have hin256 : ¬ ((5 : Int32) < 0 ∨ cl256.slots.size ≤ ((5 : Int32)).toNatClampNeg) := inb_of sz256 ⟨by decide, by decide⟩
  obtain ⟨T257, h257, X257, e257, W257, st257⟩ := stB X255 hx hZ e255 Ar256 (j := (5 : Int32)) hin256 (g := (mkF m 52 #[.val (.ref ub), .val (.int (5 : Int32)), .val (.int cv)] [(.int ((cv >>> ((8 : Int32) &&& 31)).toInt8.toInt32)), (.int (5 : Int32)), (.ref ub)])) rfl rfl (hb hby d_j52_4_52)
  refine own_go st257 ?_
  rw [show nar .byte ((cv >>> ((8 : Int32) &&& 31)).toInt8.toInt32) = ((cv >>> ((8 : Int32) &&& 31)).toInt8.toInt32) from own_b8 _] at W257
  have V257 : Arv Z h257 ub kb .byte (14 : Int32) [v0_, v1_, v2_, v3_, (.int ((cv >>> ((0 : Int32) &&& 31)).toInt8.toInt32)), (.int ((cv >>> ((8 : Int32) &&& 31)).toInt8.toInt32)), v6_, v7_, v8_, v9_, v10_, v11_, v12_, v13_] (.int (0 : Int32)) := Arv.set Ar256 qk256 sz256 nn256 ha256 gf256 (fits_nar_byte _) W257 5 rfl (Nat.le_of_ble_eq_true rfl)
  have Z257 : n0 ≤ h257.size := (Nat.le_trans Z254 (Nat.le_of_eq W257.size.symm))
  have N257 := Fr.snoc X257 N254 q0
  have K257 : Keep h0 h257 [ub] := K254.wr W257 (Or.inl (List.mem_of_getElem? (i := 0) rfl))
  show own_Go _ _ _ _ (T257.setTop (mkF m 53 #[.val (.ref ub), .val (.int (5 : Int32)), .val (.int cv)] []))
  refine own_retV X257 hx hlk hret (hb hby d_j52_4_53) ?_ (by decide) (by decide)
  rw [e257]
  exact ⟨rfl, N257, K257, V257⟩
def Q_pc_7_3 (Z : State) (ub : Addr) (kb : ClassId) (v0_ : Value) (v1_ : Value) (v2_ : Value) (v3_ : Value) (v4_ : Value) (v5_ : Value) (v6_ : Value) (v7_ : Value) (v8_ : Value) (v9_ : Value) (v10_ : Value) (v11_ : Value) (v12_ : Value) (v13_ : Value) (cv : Int32) (zv : Int32) (gv : Value) (h0 : Heap) (n0 : Nat) (v : Option Value) (h : Heap) (L : List Loc) : Prop := v = none ∧ Fr n0 L ∧ Keep h0 h [ub] ∧ Arv Z h ub kb .byte (14 : Int32) [v0_, v1_, v2_, v3_, v4_, v5_, (.int ((cv >>> ((0 : Int32) &&& 31)).toInt8.toInt32)), (.int ((cv >>> ((8 : Int32) &&& 31)).toInt8.toInt32)), v8_, v9_, v10_, v11_, v12_, v13_] (.int (0 : Int32))
theorem ef_pc_7_3 (m : MethodId) (ub : Addr) (cv : Int32) : entryFrame m #[(.ref ub), (.int (3 : Int32)), (.int cv)] 3 = mkF m 0 #[.val (.ref ub), .val (.int (3 : Int32)), .val (.int cv)] [] := by first | (simp [entryFrame, mkF, argsToLocals, Value.category]; done) | rfl
set_option maxRecDepth 65536 in
set_option maxHeartbeats 40000000 in
theorem rm_pc_7_3 (l : Launch) (Z : State) (a0 : Array Value) (hw : ∀ d ∈ tables_1, d.before a0 Z = true) (ws : List Jvm.Cond) (ub : Addr) (kb : ClassId) (v0_ v1_ v2_ v3_ v4_ v5_ v6_ v7_ v8_ v9_ v10_ v11_ v12_ v13_ : Value) (cv zv : Int32) (gv : Value) (h0 : Heap) (n0 : Nat) (Z0 : n0 ≤ h0.size) (q0 : n0 ≤ ub) (A0 : Arv Z h0 ub kb .byte (14 : Int32) [v0_, v1_, v2_, v3_, v4_, v5_, v6_, v7_, v8_, v9_, v10_, v11_, v12_, v13_] (.int (0 : Int32))) (O0 : Old Z n0 h0) (hzv : ¬ zv = (0 : Int32)) (S0 : Sta Z Z.heap "java/lang/String" "COMPACT_STRINGS" "Z" (.int zv)) (rgv : gv.isRef = true) (G0 : Sta Z Z.heap "jdk/internal/util/Preconditions" "SIOOBE_FORMATTER" "Ljava/util/function/BiFunction;" gv) (Sa : Sta Z Z.heap "java/lang/StringUTF16" "$assertionsDisabled" "Z" (.int (1 : Int32))) (Sh : Sta Z Z.heap "java/lang/StringUTF16" "HI_BYTE_SHIFT" "I" (.int (0 : Int32))) (Sl : Sta Z Z.heap "java/lang/StringUTF16" "LO_BYTE_SHIFT" "I" (.int (8 : Int32))) :
    own_Met l Z (⟨"java/lang/StringUTF16", "putChar", "([BII)V"⟩ : MethodName) jdk_52_method_4_code 3 none ws ({ frames := 0, cells := 0, slots := 0, locals := 0 } : Room) #[(.ref ub), (.int (3 : Int32)), (.int cv)] h0 (Q_pc_7_3 Z ub kb v0_ v1_ v2_ v3_ v4_ v5_ v6_ v7_ v8_ v9_ v10_ v11_ v12_ v13_ cv zv gv h0 n0) := by
  refine own_enter (own := "java/lang/StringUTF16") (plainFor_of_name pn_4) rfl ?_
  intro p e s m below meth c s₁ hlk hret hx hby hml hown hnm hZ X0 e0
  have N0 := Fr.nil n0
  refine own_cast (ef_pc_7_3 m ub cv) ?_
  show own_Go _ _ _ _ (s₁.setTop (mkF m 0 #[.val (.ref ub), .val (.int (3 : Int32)), .val (.int cv)] []))
  obtain ⟨T258, X258, e258, st258⟩ := getS2 X0 hx hZ hown (host := "") (Or.inl (w_43 hw)) Via.refl e0 (Sa.ext O0.2) (g := (mkF m 0 #[.val (.ref ub), .val (.int (3 : Int32)), .val (.int cv)] [])) rfl (hb hby d_j52_4_0)
  refine own_go st258 ?_
  show own_Go _ _ _ _ (T258.setTop (mkF m 3 #[.val (.ref ub), .val (.int (3 : Int32)), .val (.int cv)] [(.int (1 : Int32))]))
  refine own_go (fun t k => XS.ifYes X258.here hx rfl (pc0 := 3) (pc' := 28) rfl (hb hby d_j52_4_3) rfl ((if0 _ _).trans (feq (by decide : ¬ ((1 : Int32) = (0 : Int32)))).2) (by decide) (by decide) k) ?_
  refine own_go (fun t k => XS.iloadN X258.here hx rfl (hb hby d_j52_4_28) rfl k) ?_
  refine own_go (fun t k => XS.iconst X258.here hx rfl (hb hby d_j52_4_29) k) ?_
  refine own_go (fun t k => XS.ishl X258.here hx rfl (hb hby d_j52_4_30) rfl k) ?_
  show own_Go _ _ _ _ (T258.setTop (mkF m 31 #[.val (.ref ub), .val (.int (3 : Int32)), .val (.int cv)] [(.int (6 : Int32))]))
  refine own_go (fun t k => XS.istoreN X258.here hx rfl (hb hby d_j52_4_31) rfl (l' := #[.val (.ref ub), .val (.int (6 : Int32)), .val (.int cv)]) rfl k) ?_
  refine own_go (fun t k => XS.aloadN X258.here hx rfl (hb hby d_j52_4_32) rfl rfl k) ?_
  refine own_go (fun t k => XS.iloadN X258.here hx rfl (hb hby d_j52_4_33) rfl k) ?_
  refine own_go (fun t k => XS.iinc X258.here hx rfl (hb hby d_j52_4_34) rfl (l' := #[.val (.ref ub), .val (.int ((6 : Int32) + (1 : Int32))), .val (.int cv)]) rfl k) ?_
  show own_Go _ _ _ _ (T258.setTop (mkF m 37 #[.val (.ref ub), .val (.int (7 : Int32)), .val (.int cv)] [(.int (6 : Int32)), (.ref ub)]))
  refine own_go (fun t k => XS.iloadN X258.here hx rfl (hb hby d_j52_4_37) rfl k) ?_
  show own_Go _ _ _ _ (T258.setTop (mkF m 38 #[.val (.ref ub), .val (.int (7 : Int32)), .val (.int cv)] [(.int cv), (.int (6 : Int32)), (.ref ub)]))
  obtain ⟨T259, X259, e259, st259⟩ := getS2 X258 hx hZ hown (host := "") (Or.inl (w_44 hw)) Via.refl e258 (Sh.ext O0.2) (g := (mkF m 38 #[.val (.ref ub), .val (.int (7 : Int32)), .val (.int cv)] [(.int cv), (.int (6 : Int32)), (.ref ub)])) rfl (hb hby d_j52_4_38)
  refine own_go st259 ?_
  refine own_go (fun t k => XS.ishr X259.here hx rfl (hb hby d_j52_4_41) rfl k) ?_
  refine own_go (fun t k => XS.i2b X259.here hx rfl (hb hby d_j52_4_42) rfl k) ?_
  show own_Go _ _ _ _ (T259.setTop (mkF m 43 #[.val (.ref ub), .val (.int (7 : Int32)), .val (.int cv)] [(.int ((cv >>> ((0 : Int32) &&& 31)).toInt8.toInt32)), (.int (6 : Int32)), (.ref ub)]))
  obtain ⟨cl260, Ar260, qk260, sz260, nn260, ha260, gf260⟩ := id A0
  have hin260 : ¬ ((6 : Int32) < 0 ∨ cl260.slots.size ≤ ((6 : Int32)).toNatClampNeg) := inb_of sz260 ⟨by decide, by decide⟩
  obtain ⟨T261, h261, X261, e261, W261, st261⟩ := stB X259 hx hZ e259 Ar260 (j := (6 : Int32)) hin260 (g := (mkF m 43 #[.val (.ref ub), .val (.int (7 : Int32)), .val (.int cv)] [(.int ((cv >>> ((0 : Int32) &&& 31)).toInt8.toInt32)), (.int (6 : Int32)), (.ref ub)])) rfl rfl (hb hby d_j52_4_43)
  refine own_go st261 ?_
  rw [show nar .byte ((cv >>> ((0 : Int32) &&& 31)).toInt8.toInt32) = ((cv >>> ((0 : Int32) &&& 31)).toInt8.toInt32) from own_b8 _] at W261
  have V261 : Arv Z h261 ub kb .byte (14 : Int32) [v0_, v1_, v2_, v3_, v4_, v5_, (.int ((cv >>> ((0 : Int32) &&& 31)).toInt8.toInt32)), v7_, v8_, v9_, v10_, v11_, v12_, v13_] (.int (0 : Int32)) := Arv.set Ar260 qk260 sz260 nn260 ha260 gf260 (fits_nar_byte _) W261 6 rfl (Nat.le_of_ble_eq_true rfl)
  have Z261 : n0 ≤ h261.size := (Nat.le_trans Z0 (Nat.le_of_eq W261.size.symm))
  have N261 := Fr.snoc X261 N0 q0
  have K261 : Keep h0 h261 [ub] := (Keep.refl h0 [ub]).wr W261 (Or.inl (List.mem_of_getElem? (i := 0) rfl))
  refine own_go (fun t k => XS.aloadN X261.here hx rfl (hb hby d_j52_4_44) rfl rfl k) ?_
  refine own_go (fun t k => XS.iloadN X261.here hx rfl (hb hby d_j52_4_45) rfl k) ?_
  refine own_go (fun t k => XS.iloadN X261.here hx rfl (hb hby d_j52_4_46) rfl k) ?_
  show own_Go _ _ _ _ (T261.setTop (mkF m 47 #[.val (.ref ub), .val (.int (7 : Int32)), .val (.int cv)] [(.int cv), (.int (7 : Int32)), (.ref ub)]))
  obtain ⟨T262, X262, e262, st262⟩ := getS2 X261 hx hZ hown (host := "") (Or.inl (w_45 hw)) Via.refl e261 (Sl.ext (O0.wr W261 q0).2) (g := (mkF m 47 #[.val (.ref ub), .val (.int (7 : Int32)), .val (.int cv)] [(.int cv), (.int (7 : Int32)), (.ref ub)])) rfl (hb hby d_j52_4_47)
  refine own_go st262 ?_
  refine own_go (fun t k => XS.ishr X262.here hx rfl (hb hby d_j52_4_50) rfl k) ?_
  refine own_go (fun t k => XS.i2b X262.here hx rfl (hb hby d_j52_4_51) rfl k) ?_
  show own_Go _ _ _ _ (T262.setTop (mkF m 52 #[.val (.ref ub), .val (.int (7 : Int32)), .val (.int cv)] [(.int ((cv >>> ((8 : Int32) &&& 31)).toInt8.toInt32)), (.int (7 : Int32)), (.ref ub)]))
  obtain ⟨cl263, Ar263, qk263, sz263, nn263, ha263, gf263⟩ := id V261
  have hin263 : ¬ ((7 : Int32) < 0 ∨ cl263.slots.size ≤ ((7 : Int32)).toNatClampNeg) := inb_of sz263 ⟨by decide, by decide⟩
  obtain ⟨T264, h264, X264, e264, W264, st264⟩ := stB X262 hx hZ e262 Ar263 (j := (7 : Int32)) hin263 (g := (mkF m 52 #[.val (.ref ub), .val (.int (7 : Int32)), .val (.int cv)] [(.int ((cv >>> ((8 : Int32) &&& 31)).toInt8.toInt32)), (.int (7 : Int32)), (.ref ub)])) rfl rfl (hb hby d_j52_4_52)
  refine own_go st264 ?_
  rw [show nar .byte ((cv >>> ((8 : Int32) &&& 31)).toInt8.toInt32) = ((cv >>> ((8 : Int32) &&& 31)).toInt8.toInt32) from own_b8 _] at W264
  have V264 : Arv Z h264 ub kb .byte (14 : Int32) [v0_, v1_, v2_, v3_, v4_, v5_, (.int ((cv >>> ((0 : Int32) &&& 31)).toInt8.toInt32)), (.int ((cv >>> ((8 : Int32) &&& 31)).toInt8.toInt32)), v8_, v9_, v10_, v11_, v12_, v13_] (.int (0 : Int32)) := Arv.set Ar263 qk263 sz263 nn263 ha263 gf263 (fits_nar_byte _) W264 7 rfl (Nat.le_of_ble_eq_true rfl)
  have Z264 : n0 ≤ h264.size := (Nat.le_trans Z261 (Nat.le_of_eq W264.size.symm))
  have N264 := Fr.snoc X264 N261 q0
  have K264 : Keep h0 h264 [ub] := K261.wr W264 (Or.inl (List.mem_of_getElem? (i := 0) rfl))
  show own_Go _ _ _ _ (T264.setTop (mkF m 53 #[.val (.ref ub), .val (.int (7 : Int32)), .val (.int cv)] []))
  refine own_retV X264 hx hlk hret (hb hby d_j52_4_53) ?_ (by decide) (by decide)
  rw [e264]
  exact ⟨rfl, N264, K264, V264⟩
def Q_pc_7_4 (Z : State) (ub : Addr) (kb : ClassId) (v0_ : Value) (v1_ : Value) (v2_ : Value) (v3_ : Value) (v4_ : Value) (v5_ : Value) (v6_ : Value) (v7_ : Value) (v8_ : Value) (v9_ : Value) (v10_ : Value) (v11_ : Value) (v12_ : Value) (v13_ : Value) (cv : Int32) (zv : Int32) (gv : Value) (h0 : Heap) (n0 : Nat) (v : Option Value) (h : Heap) (L : List Loc) : Prop := v = none ∧ Fr n0 L ∧ Keep h0 h [ub] ∧ Arv Z h ub kb .byte (14 : Int32) [v0_, v1_, v2_, v3_, v4_, v5_, v6_, v7_, (.int ((cv >>> ((0 : Int32) &&& 31)).toInt8.toInt32)), (.int ((cv >>> ((8 : Int32) &&& 31)).toInt8.toInt32)), v10_, v11_, v12_, v13_] (.int (0 : Int32))
theorem ef_pc_7_4 (m : MethodId) (ub : Addr) (cv : Int32) : entryFrame m #[(.ref ub), (.int (4 : Int32)), (.int cv)] 3 = mkF m 0 #[.val (.ref ub), .val (.int (4 : Int32)), .val (.int cv)] [] := by first | (simp [entryFrame, mkF, argsToLocals, Value.category]; done) | rfl
set_option maxRecDepth 65536 in
set_option maxHeartbeats 40000000 in
theorem rm_pc_7_4 (l : Launch) (Z : State) (a0 : Array Value) (hw : ∀ d ∈ tables_1, d.before a0 Z = true) (ws : List Jvm.Cond) (ub : Addr) (kb : ClassId) (v0_ v1_ v2_ v3_ v4_ v5_ v6_ v7_ v8_ v9_ v10_ v11_ v12_ v13_ : Value) (cv zv : Int32) (gv : Value) (h0 : Heap) (n0 : Nat) (Z0 : n0 ≤ h0.size) (q0 : n0 ≤ ub) (A0 : Arv Z h0 ub kb .byte (14 : Int32) [v0_, v1_, v2_, v3_, v4_, v5_, v6_, v7_, v8_, v9_, v10_, v11_, v12_, v13_] (.int (0 : Int32))) (O0 : Old Z n0 h0) (hzv : ¬ zv = (0 : Int32)) (S0 : Sta Z Z.heap "java/lang/String" "COMPACT_STRINGS" "Z" (.int zv)) (rgv : gv.isRef = true) (G0 : Sta Z Z.heap "jdk/internal/util/Preconditions" "SIOOBE_FORMATTER" "Ljava/util/function/BiFunction;" gv) (Sa : Sta Z Z.heap "java/lang/StringUTF16" "$assertionsDisabled" "Z" (.int (1 : Int32))) (Sh : Sta Z Z.heap "java/lang/StringUTF16" "HI_BYTE_SHIFT" "I" (.int (0 : Int32))) (Sl : Sta Z Z.heap "java/lang/StringUTF16" "LO_BYTE_SHIFT" "I" (.int (8 : Int32))) :
    own_Met l Z (⟨"java/lang/StringUTF16", "putChar", "([BII)V"⟩ : MethodName) jdk_52_method_4_code 3 none ws ({ frames := 0, cells := 0, slots := 0, locals := 0 } : Room) #[(.ref ub), (.int (4 : Int32)), (.int cv)] h0 (Q_pc_7_4 Z ub kb v0_ v1_ v2_ v3_ v4_ v5_ v6_ v7_ v8_ v9_ v10_ v11_ v12_ v13_ cv zv gv h0 n0) := by
  refine own_enter (own := "java/lang/StringUTF16") (plainFor_of_name pn_4) rfl ?_
  intro p e s m below meth c s₁ hlk hret hx hby hml hown hnm hZ X0 e0
  have N0 := Fr.nil n0
  refine own_cast (ef_pc_7_4 m ub cv) ?_
  show own_Go _ _ _ _ (s₁.setTop (mkF m 0 #[.val (.ref ub), .val (.int (4 : Int32)), .val (.int cv)] []))
  obtain ⟨T265, X265, e265, st265⟩ := getS2 X0 hx hZ hown (host := "") (Or.inl (w_43 hw)) Via.refl e0 (Sa.ext O0.2) (g := (mkF m 0 #[.val (.ref ub), .val (.int (4 : Int32)), .val (.int cv)] [])) rfl (hb hby d_j52_4_0)
  refine own_go st265 ?_
  show own_Go _ _ _ _ (T265.setTop (mkF m 3 #[.val (.ref ub), .val (.int (4 : Int32)), .val (.int cv)] [(.int (1 : Int32))]))
  refine own_go (fun t k => XS.ifYes X265.here hx rfl (pc0 := 3) (pc' := 28) rfl (hb hby d_j52_4_3) rfl ((if0 _ _).trans (feq (by decide : ¬ ((1 : Int32) = (0 : Int32)))).2) (by decide) (by decide) k) ?_
  refine own_go (fun t k => XS.iloadN X265.here hx rfl (hb hby d_j52_4_28) rfl k) ?_
  refine own_go (fun t k => XS.iconst X265.here hx rfl (hb hby d_j52_4_29) k) ?_
  refine own_go (fun t k => XS.ishl X265.here hx rfl (hb hby d_j52_4_30) rfl k) ?_
  show own_Go _ _ _ _ (T265.setTop (mkF m 31 #[.val (.ref ub), .val (.int (4 : Int32)), .val (.int cv)] [(.int (8 : Int32))]))
  refine own_go (fun t k => XS.istoreN X265.here hx rfl (hb hby d_j52_4_31) rfl (l' := #[.val (.ref ub), .val (.int (8 : Int32)), .val (.int cv)]) rfl k) ?_
  refine own_go (fun t k => XS.aloadN X265.here hx rfl (hb hby d_j52_4_32) rfl rfl k) ?_
  refine own_go (fun t k => XS.iloadN X265.here hx rfl (hb hby d_j52_4_33) rfl k) ?_
  refine own_go (fun t k => XS.iinc X265.here hx rfl (hb hby d_j52_4_34) rfl (l' := #[.val (.ref ub), .val (.int ((8 : Int32) + (1 : Int32))), .val (.int cv)]) rfl k) ?_
  show own_Go _ _ _ _ (T265.setTop (mkF m 37 #[.val (.ref ub), .val (.int (9 : Int32)), .val (.int cv)] [(.int (8 : Int32)), (.ref ub)]))
  refine own_go (fun t k => XS.iloadN X265.here hx rfl (hb hby d_j52_4_37) rfl k) ?_
  show own_Go _ _ _ _ (T265.setTop (mkF m 38 #[.val (.ref ub), .val (.int (9 : Int32)), .val (.int cv)] [(.int cv), (.int (8 : Int32)), (.ref ub)]))
  obtain ⟨T266, X266, e266, st266⟩ := getS2 X265 hx hZ hown (host := "") (Or.inl (w_44 hw)) Via.refl e265 (Sh.ext O0.2) (g := (mkF m 38 #[.val (.ref ub), .val (.int (9 : Int32)), .val (.int cv)] [(.int cv), (.int (8 : Int32)), (.ref ub)])) rfl (hb hby d_j52_4_38)
  refine own_go st266 ?_
  refine own_go (fun t k => XS.ishr X266.here hx rfl (hb hby d_j52_4_41) rfl k) ?_
  refine own_go (fun t k => XS.i2b X266.here hx rfl (hb hby d_j52_4_42) rfl k) ?_
  show own_Go _ _ _ _ (T266.setTop (mkF m 43 #[.val (.ref ub), .val (.int (9 : Int32)), .val (.int cv)] [(.int ((cv >>> ((0 : Int32) &&& 31)).toInt8.toInt32)), (.int (8 : Int32)), (.ref ub)]))
  obtain ⟨cl267, Ar267, qk267, sz267, nn267, ha267, gf267⟩ := id A0
  have hin267 : ¬ ((8 : Int32) < 0 ∨ cl267.slots.size ≤ ((8 : Int32)).toNatClampNeg) := inb_of sz267 ⟨by decide, by decide⟩
  obtain ⟨T268, h268, X268, e268, W268, st268⟩ := stB X266 hx hZ e266 Ar267 (j := (8 : Int32)) hin267 (g := (mkF m 43 #[.val (.ref ub), .val (.int (9 : Int32)), .val (.int cv)] [(.int ((cv >>> ((0 : Int32) &&& 31)).toInt8.toInt32)), (.int (8 : Int32)), (.ref ub)])) rfl rfl (hb hby d_j52_4_43)
  refine own_go st268 ?_
  rw [show nar .byte ((cv >>> ((0 : Int32) &&& 31)).toInt8.toInt32) = ((cv >>> ((0 : Int32) &&& 31)).toInt8.toInt32) from own_b8 _] at W268
  have V268 : Arv Z h268 ub kb .byte (14 : Int32) [v0_, v1_, v2_, v3_, v4_, v5_, v6_, v7_, (.int ((cv >>> ((0 : Int32) &&& 31)).toInt8.toInt32)), v9_, v10_, v11_, v12_, v13_] (.int (0 : Int32)) := Arv.set Ar267 qk267 sz267 nn267 ha267 gf267 (fits_nar_byte _) W268 8 rfl (Nat.le_of_ble_eq_true rfl)
  have Z268 : n0 ≤ h268.size := (Nat.le_trans Z0 (Nat.le_of_eq W268.size.symm))
  have N268 := Fr.snoc X268 N0 q0
  have K268 : Keep h0 h268 [ub] := (Keep.refl h0 [ub]).wr W268 (Or.inl (List.mem_of_getElem? (i := 0) rfl))
  refine own_go (fun t k => XS.aloadN X268.here hx rfl (hb hby d_j52_4_44) rfl rfl k) ?_
  refine own_go (fun t k => XS.iloadN X268.here hx rfl (hb hby d_j52_4_45) rfl k) ?_
  refine own_go (fun t k => XS.iloadN X268.here hx rfl (hb hby d_j52_4_46) rfl k) ?_
  show own_Go _ _ _ _ (T268.setTop (mkF m 47 #[.val (.ref ub), .val (.int (9 : Int32)), .val (.int cv)] [(.int cv), (.int (9 : Int32)), (.ref ub)]))
  obtain ⟨T269, X269, e269, st269⟩ := getS2 X268 hx hZ hown (host := "") (Or.inl (w_45 hw)) Via.refl e268 (Sl.ext (O0.wr W268 q0).2) (g := (mkF m 47 #[.val (.ref ub), .val (.int (9 : Int32)), .val (.int cv)] [(.int cv), (.int (9 : Int32)), (.ref ub)])) rfl (hb hby d_j52_4_47)
  refine own_go st269 ?_
  refine own_go (fun t k => XS.ishr X269.here hx rfl (hb hby d_j52_4_50) rfl k) ?_
  refine own_go (fun t k => XS.i2b X269.here hx rfl (hb hby d_j52_4_51) rfl k) ?_
  show own_Go _ _ _ _ (T269.setTop (mkF m 52 #[.val (.ref ub), .val (.int (9 : Int32)), .val (.int cv)] [(.int ((cv >>> ((8 : Int32) &&& 31)).toInt8.toInt32)), (.int (9 : Int32)), (.ref ub)]))
  obtain ⟨cl270, Ar270, qk270, sz270, nn270, ha270, gf270⟩ := id V268
  have hin270 : ¬ ((9 : Int32) < 0 ∨ cl270.slots.size ≤ ((9 : Int32)).toNatClampNeg) := inb_of sz270 ⟨by decide, by decide⟩
  obtain ⟨T271, h271, X271, e271, W271, st271⟩ := stB X269 hx hZ e269 Ar270 (j := (9 : Int32)) hin270 (g := (mkF m 52 #[.val (.ref ub), .val (.int (9 : Int32)), .val (.int cv)] [(.int ((cv >>> ((8 : Int32) &&& 31)).toInt8.toInt32)), (.int (9 : Int32)), (.ref ub)])) rfl rfl (hb hby d_j52_4_52)
  refine own_go st271 ?_
  rw [show nar .byte ((cv >>> ((8 : Int32) &&& 31)).toInt8.toInt32) = ((cv >>> ((8 : Int32) &&& 31)).toInt8.toInt32) from own_b8 _] at W271
  have V271 : Arv Z h271 ub kb .byte (14 : Int32) [v0_, v1_, v2_, v3_, v4_, v5_, v6_, v7_, (.int ((cv >>> ((0 : Int32) &&& 31)).toInt8.toInt32)), (.int ((cv >>> ((8 : Int32) &&& 31)).toInt8.toInt32)), v10_, v11_, v12_, v13_] (.int (0 : Int32)) := Arv.set Ar270 qk270 sz270 nn270 ha270 gf270 (fits_nar_byte _) W271 9 rfl (Nat.le_of_ble_eq_true rfl)
  have Z271 : n0 ≤ h271.size := (Nat.le_trans Z268 (Nat.le_of_eq W271.size.symm))
  have N271 := Fr.snoc X271 N268 q0
  have K271 : Keep h0 h271 [ub] := K268.wr W271 (Or.inl (List.mem_of_getElem? (i := 0) rfl))
  show own_Go _ _ _ _ (T271.setTop (mkF m 53 #[.val (.ref ub), .val (.int (9 : Int32)), .val (.int cv)] []))
  refine own_retV X271 hx hlk hret (hb hby d_j52_4_53) ?_ (by decide) (by decide)
  rw [e271]
  exact ⟨rfl, N271, K271, V271⟩
def Q_pc_7_5 (Z : State) (ub : Addr) (kb : ClassId) (v0_ : Value) (v1_ : Value) (v2_ : Value) (v3_ : Value) (v4_ : Value) (v5_ : Value) (v6_ : Value) (v7_ : Value) (v8_ : Value) (v9_ : Value) (v10_ : Value) (v11_ : Value) (v12_ : Value) (v13_ : Value) (cv : Int32) (zv : Int32) (gv : Value) (h0 : Heap) (n0 : Nat) (v : Option Value) (h : Heap) (L : List Loc) : Prop := v = none ∧ Fr n0 L ∧ Keep h0 h [ub] ∧ Arv Z h ub kb .byte (14 : Int32) [v0_, v1_, v2_, v3_, v4_, v5_, v6_, v7_, v8_, v9_, (.int ((cv >>> ((0 : Int32) &&& 31)).toInt8.toInt32)), (.int ((cv >>> ((8 : Int32) &&& 31)).toInt8.toInt32)), v12_, v13_] (.int (0 : Int32))
theorem ef_pc_7_5 (m : MethodId) (ub : Addr) (cv : Int32) : entryFrame m #[(.ref ub), (.int (5 : Int32)), (.int cv)] 3 = mkF m 0 #[.val (.ref ub), .val (.int (5 : Int32)), .val (.int cv)] [] := by first | (simp [entryFrame, mkF, argsToLocals, Value.category]; done) | rfl
set_option maxRecDepth 65536 in
set_option maxHeartbeats 40000000 in
theorem rm_pc_7_5 (l : Launch) (Z : State) (a0 : Array Value) (hw : ∀ d ∈ tables_1, d.before a0 Z = true) (ws : List Jvm.Cond) (ub : Addr) (kb : ClassId) (v0_ v1_ v2_ v3_ v4_ v5_ v6_ v7_ v8_ v9_ v10_ v11_ v12_ v13_ : Value) (cv zv : Int32) (gv : Value) (h0 : Heap) (n0 : Nat) (Z0 : n0 ≤ h0.size) (q0 : n0 ≤ ub) (A0 : Arv Z h0 ub kb .byte (14 : Int32) [v0_, v1_, v2_, v3_, v4_, v5_, v6_, v7_, v8_, v9_, v10_, v11_, v12_, v13_] (.int (0 : Int32))) (O0 : Old Z n0 h0) (hzv : ¬ zv = (0 : Int32)) (S0 : Sta Z Z.heap "java/lang/String" "COMPACT_STRINGS" "Z" (.int zv)) (rgv : gv.isRef = true) (G0 : Sta Z Z.heap "jdk/internal/util/Preconditions" "SIOOBE_FORMATTER" "Ljava/util/function/BiFunction;" gv) (Sa : Sta Z Z.heap "java/lang/StringUTF16" "$assertionsDisabled" "Z" (.int (1 : Int32))) (Sh : Sta Z Z.heap "java/lang/StringUTF16" "HI_BYTE_SHIFT" "I" (.int (0 : Int32))) (Sl : Sta Z Z.heap "java/lang/StringUTF16" "LO_BYTE_SHIFT" "I" (.int (8 : Int32))) :
    own_Met l Z (⟨"java/lang/StringUTF16", "putChar", "([BII)V"⟩ : MethodName) jdk_52_method_4_code 3 none ws ({ frames := 0, cells := 0, slots := 0, locals := 0 } : Room) #[(.ref ub), (.int (5 : Int32)), (.int cv)] h0 (Q_pc_7_5 Z ub kb v0_ v1_ v2_ v3_ v4_ v5_ v6_ v7_ v8_ v9_ v10_ v11_ v12_ v13_ cv zv gv h0 n0) := by
  refine own_enter (own := "java/lang/StringUTF16") (plainFor_of_name pn_4) rfl ?_
  intro p e s m below meth c s₁ hlk hret hx hby hml hown hnm hZ X0 e0
  have N0 := Fr.nil n0
  refine own_cast (ef_pc_7_5 m ub cv) ?_
  show own_Go _ _ _ _ (s₁.setTop (mkF m 0 #[.val (.ref ub), .val (.int (5 : Int32)), .val (.int cv)] []))
  obtain ⟨T272, X272, e272, st272⟩ := getS2 X0 hx hZ hown (host := "") (Or.inl (w_43 hw)) Via.refl e0 (Sa.ext O0.2) (g := (mkF m 0 #[.val (.ref ub), .val (.int (5 : Int32)), .val (.int cv)] [])) rfl (hb hby d_j52_4_0)
  refine own_go st272 ?_
  show own_Go _ _ _ _ (T272.setTop (mkF m 3 #[.val (.ref ub), .val (.int (5 : Int32)), .val (.int cv)] [(.int (1 : Int32))]))
  refine own_go (fun t k => XS.ifYes X272.here hx rfl (pc0 := 3) (pc' := 28) rfl (hb hby d_j52_4_3) rfl ((if0 _ _).trans (feq (by decide : ¬ ((1 : Int32) = (0 : Int32)))).2) (by decide) (by decide) k) ?_
  refine own_go (fun t k => XS.iloadN X272.here hx rfl (hb hby d_j52_4_28) rfl k) ?_
  refine own_go (fun t k => XS.iconst X272.here hx rfl (hb hby d_j52_4_29) k) ?_
  refine own_go (fun t k => XS.ishl X272.here hx rfl (hb hby d_j52_4_30) rfl k) ?_
  show own_Go _ _ _ _ (T272.setTop (mkF m 31 #[.val (.ref ub), .val (.int (5 : Int32)), .val (.int cv)] [(.int (10 : Int32))]))
  refine own_go (fun t k => XS.istoreN X272.here hx rfl (hb hby d_j52_4_31) rfl (l' := #[.val (.ref ub), .val (.int (10 : Int32)), .val (.int cv)]) rfl k) ?_
  refine own_go (fun t k => XS.aloadN X272.here hx rfl (hb hby d_j52_4_32) rfl rfl k) ?_
  refine own_go (fun t k => XS.iloadN X272.here hx rfl (hb hby d_j52_4_33) rfl k) ?_
  refine own_go (fun t k => XS.iinc X272.here hx rfl (hb hby d_j52_4_34) rfl (l' := #[.val (.ref ub), .val (.int ((10 : Int32) + (1 : Int32))), .val (.int cv)]) rfl k) ?_
  show own_Go _ _ _ _ (T272.setTop (mkF m 37 #[.val (.ref ub), .val (.int (11 : Int32)), .val (.int cv)] [(.int (10 : Int32)), (.ref ub)]))
  refine own_go (fun t k => XS.iloadN X272.here hx rfl (hb hby d_j52_4_37) rfl k) ?_
  show own_Go _ _ _ _ (T272.setTop (mkF m 38 #[.val (.ref ub), .val (.int (11 : Int32)), .val (.int cv)] [(.int cv), (.int (10 : Int32)), (.ref ub)]))
  obtain ⟨T273, X273, e273, st273⟩ := getS2 X272 hx hZ hown (host := "") (Or.inl (w_44 hw)) Via.refl e272 (Sh.ext O0.2) (g := (mkF m 38 #[.val (.ref ub), .val (.int (11 : Int32)), .val (.int cv)] [(.int cv), (.int (10 : Int32)), (.ref ub)])) rfl (hb hby d_j52_4_38)
  refine own_go st273 ?_
  refine own_go (fun t k => XS.ishr X273.here hx rfl (hb hby d_j52_4_41) rfl k) ?_
  refine own_go (fun t k => XS.i2b X273.here hx rfl (hb hby d_j52_4_42) rfl k) ?_
  show own_Go _ _ _ _ (T273.setTop (mkF m 43 #[.val (.ref ub), .val (.int (11 : Int32)), .val (.int cv)] [(.int ((cv >>> ((0 : Int32) &&& 31)).toInt8.toInt32)), (.int (10 : Int32)), (.ref ub)]))
  obtain ⟨cl274, Ar274, qk274, sz274, nn274, ha274, gf274⟩ := id A0
  have hin274 : ¬ ((10 : Int32) < 0 ∨ cl274.slots.size ≤ ((10 : Int32)).toNatClampNeg) := inb_of sz274 ⟨by decide, by decide⟩
  obtain ⟨T275, h275, X275, e275, W275, st275⟩ := stB X273 hx hZ e273 Ar274 (j := (10 : Int32)) hin274 (g := (mkF m 43 #[.val (.ref ub), .val (.int (11 : Int32)), .val (.int cv)] [(.int ((cv >>> ((0 : Int32) &&& 31)).toInt8.toInt32)), (.int (10 : Int32)), (.ref ub)])) rfl rfl (hb hby d_j52_4_43)
  refine own_go st275 ?_
  rw [show nar .byte ((cv >>> ((0 : Int32) &&& 31)).toInt8.toInt32) = ((cv >>> ((0 : Int32) &&& 31)).toInt8.toInt32) from own_b8 _] at W275
  have V275 : Arv Z h275 ub kb .byte (14 : Int32) [v0_, v1_, v2_, v3_, v4_, v5_, v6_, v7_, v8_, v9_, (.int ((cv >>> ((0 : Int32) &&& 31)).toInt8.toInt32)), v11_, v12_, v13_] (.int (0 : Int32)) := Arv.set Ar274 qk274 sz274 nn274 ha274 gf274 (fits_nar_byte _) W275 10 rfl (Nat.le_of_ble_eq_true rfl)
  have Z275 : n0 ≤ h275.size := (Nat.le_trans Z0 (Nat.le_of_eq W275.size.symm))
  have N275 := Fr.snoc X275 N0 q0
  have K275 : Keep h0 h275 [ub] := (Keep.refl h0 [ub]).wr W275 (Or.inl (List.mem_of_getElem? (i := 0) rfl))
  refine own_go (fun t k => XS.aloadN X275.here hx rfl (hb hby d_j52_4_44) rfl rfl k) ?_
  refine own_go (fun t k => XS.iloadN X275.here hx rfl (hb hby d_j52_4_45) rfl k) ?_
  refine own_go (fun t k => XS.iloadN X275.here hx rfl (hb hby d_j52_4_46) rfl k) ?_
  show own_Go _ _ _ _ (T275.setTop (mkF m 47 #[.val (.ref ub), .val (.int (11 : Int32)), .val (.int cv)] [(.int cv), (.int (11 : Int32)), (.ref ub)]))
  obtain ⟨T276, X276, e276, st276⟩ := getS2 X275 hx hZ hown (host := "") (Or.inl (w_45 hw)) Via.refl e275 (Sl.ext (O0.wr W275 q0).2) (g := (mkF m 47 #[.val (.ref ub), .val (.int (11 : Int32)), .val (.int cv)] [(.int cv), (.int (11 : Int32)), (.ref ub)])) rfl (hb hby d_j52_4_47)
  refine own_go st276 ?_
  refine own_go (fun t k => XS.ishr X276.here hx rfl (hb hby d_j52_4_50) rfl k) ?_
  refine own_go (fun t k => XS.i2b X276.here hx rfl (hb hby d_j52_4_51) rfl k) ?_
  show own_Go _ _ _ _ (T276.setTop (mkF m 52 #[.val (.ref ub), .val (.int (11 : Int32)), .val (.int cv)] [(.int ((cv >>> ((8 : Int32) &&& 31)).toInt8.toInt32)), (.int (11 : Int32)), (.ref ub)]))
  obtain ⟨cl277, Ar277, qk277, sz277, nn277, ha277, gf277⟩ := id V275
  have hin277 : ¬ ((11 : Int32) < 0 ∨ cl277.slots.size ≤ ((11 : Int32)).toNatClampNeg) := inb_of sz277 ⟨by decide, by decide⟩
  obtain ⟨T278, h278, X278, e278, W278, st278⟩ := stB X276 hx hZ e276 Ar277 (j := (11 : Int32)) hin277 (g := (mkF m 52 #[.val (.ref ub), .val (.int (11 : Int32)), .val (.int cv)] [(.int ((cv >>> ((8 : Int32) &&& 31)).toInt8.toInt32)), (.int (11 : Int32)), (.ref ub)])) rfl rfl (hb hby d_j52_4_52)
  refine own_go st278 ?_
  rw [show nar .byte ((cv >>> ((8 : Int32) &&& 31)).toInt8.toInt32) = ((cv >>> ((8 : Int32) &&& 31)).toInt8.toInt32) from own_b8 _] at W278
  have V278 : Arv Z h278 ub kb .byte (14 : Int32) [v0_, v1_, v2_, v3_, v4_, v5_, v6_, v7_, v8_, v9_, (.int ((cv >>> ((0 : Int32) &&& 31)).toInt8.toInt32)), (.int ((cv >>> ((8 : Int32) &&& 31)).toInt8.toInt32)), v12_, v13_] (.int (0 : Int32)) := Arv.set Ar277 qk277 sz277 nn277 ha277 gf277 (fits_nar_byte _) W278 11 rfl (Nat.le_of_ble_eq_true rfl)
  have Z278 : n0 ≤ h278.size := (Nat.le_trans Z275 (Nat.le_of_eq W278.size.symm))
  have N278 := Fr.snoc X278 N275 q0
  have K278 : Keep h0 h278 [ub] := K275.wr W278 (Or.inl (List.mem_of_getElem? (i := 0) rfl))
  show own_Go _ _ _ _ (T278.setTop (mkF m 53 #[.val (.ref ub), .val (.int (11 : Int32)), .val (.int cv)] []))
  refine own_retV X278 hx hlk hret (hb hby d_j52_4_53) ?_ (by decide) (by decide)
  rw [e278]
  exact ⟨rfl, N278, K278, V278⟩
def Q_pc_7_6 (Z : State) (ub : Addr) (kb : ClassId) (v0_ : Value) (v1_ : Value) (v2_ : Value) (v3_ : Value) (v4_ : Value) (v5_ : Value) (v6_ : Value) (v7_ : Value) (v8_ : Value) (v9_ : Value) (v10_ : Value) (v11_ : Value) (v12_ : Value) (v13_ : Value) (cv : Int32) (zv : Int32) (gv : Value) (h0 : Heap) (n0 : Nat) (v : Option Value) (h : Heap) (L : List Loc) : Prop := v = none ∧ Fr n0 L ∧ Keep h0 h [ub] ∧ Arv Z h ub kb .byte (14 : Int32) [v0_, v1_, v2_, v3_, v4_, v5_, v6_, v7_, v8_, v9_, v10_, v11_, (.int ((cv >>> ((0 : Int32) &&& 31)).toInt8.toInt32)), (.int ((cv >>> ((8 : Int32) &&& 31)).toInt8.toInt32))] (.int (0 : Int32))
theorem ef_pc_7_6 (m : MethodId) (ub : Addr) (cv : Int32) : entryFrame m #[(.ref ub), (.int (6 : Int32)), (.int cv)] 3 = mkF m 0 #[.val (.ref ub), .val (.int (6 : Int32)), .val (.int cv)] [] := by first | (simp [entryFrame, mkF, argsToLocals, Value.category]; done) | rfl
set_option maxRecDepth 65536 in
set_option maxHeartbeats 40000000 in
theorem rm_pc_7_6 (l : Launch) (Z : State) (a0 : Array Value) (hw : ∀ d ∈ tables_1, d.before a0 Z = true) (ws : List Jvm.Cond) (ub : Addr) (kb : ClassId) (v0_ v1_ v2_ v3_ v4_ v5_ v6_ v7_ v8_ v9_ v10_ v11_ v12_ v13_ : Value) (cv zv : Int32) (gv : Value) (h0 : Heap) (n0 : Nat) (Z0 : n0 ≤ h0.size) (q0 : n0 ≤ ub) (A0 : Arv Z h0 ub kb .byte (14 : Int32) [v0_, v1_, v2_, v3_, v4_, v5_, v6_, v7_, v8_, v9_, v10_, v11_, v12_, v13_] (.int (0 : Int32))) (O0 : Old Z n0 h0) (hzv : ¬ zv = (0 : Int32)) (S0 : Sta Z Z.heap "java/lang/String" "COMPACT_STRINGS" "Z" (.int zv)) (rgv : gv.isRef = true) (G0 : Sta Z Z.heap "jdk/internal/util/Preconditions" "SIOOBE_FORMATTER" "Ljava/util/function/BiFunction;" gv) (Sa : Sta Z Z.heap "java/lang/StringUTF16" "$assertionsDisabled" "Z" (.int (1 : Int32))) (Sh : Sta Z Z.heap "java/lang/StringUTF16" "HI_BYTE_SHIFT" "I" (.int (0 : Int32))) (Sl : Sta Z Z.heap "java/lang/StringUTF16" "LO_BYTE_SHIFT" "I" (.int (8 : Int32))) :
    own_Met l Z (⟨"java/lang/StringUTF16", "putChar", "([BII)V"⟩ : MethodName) jdk_52_method_4_code 3 none ws ({ frames := 0, cells := 0, slots := 0, locals := 0 } : Room) #[(.ref ub), (.int (6 : Int32)), (.int cv)] h0 (Q_pc_7_6 Z ub kb v0_ v1_ v2_ v3_ v4_ v5_ v6_ v7_ v8_ v9_ v10_ v11_ v12_ v13_ cv zv gv h0 n0) := by
  refine own_enter (own := "java/lang/StringUTF16") (plainFor_of_name pn_4) rfl ?_
  intro p e s m below meth c s₁ hlk hret hx hby hml hown hnm hZ X0 e0
  have N0 := Fr.nil n0
  refine own_cast (ef_pc_7_6 m ub cv) ?_
  show own_Go _ _ _ _ (s₁.setTop (mkF m 0 #[.val (.ref ub), .val (.int (6 : Int32)), .val (.int cv)] []))
  obtain ⟨T279, X279, e279, st279⟩ := getS2 X0 hx hZ hown (host := "") (Or.inl (w_43 hw)) Via.refl e0 (Sa.ext O0.2) (g := (mkF m 0 #[.val (.ref ub), .val (.int (6 : Int32)), .val (.int cv)] [])) rfl (hb hby d_j52_4_0)
  refine own_go st279 ?_
  show own_Go _ _ _ _ (T279.setTop (mkF m 3 #[.val (.ref ub), .val (.int (6 : Int32)), .val (.int cv)] [(.int (1 : Int32))]))
  refine own_go (fun t k => XS.ifYes X279.here hx rfl (pc0 := 3) (pc' := 28) rfl (hb hby d_j52_4_3) rfl ((if0 _ _).trans (feq (by decide : ¬ ((1 : Int32) = (0 : Int32)))).2) (by decide) (by decide) k) ?_
  refine own_go (fun t k => XS.iloadN X279.here hx rfl (hb hby d_j52_4_28) rfl k) ?_
  refine own_go (fun t k => XS.iconst X279.here hx rfl (hb hby d_j52_4_29) k) ?_
  refine own_go (fun t k => XS.ishl X279.here hx rfl (hb hby d_j52_4_30) rfl k) ?_
  show own_Go _ _ _ _ (T279.setTop (mkF m 31 #[.val (.ref ub), .val (.int (6 : Int32)), .val (.int cv)] [(.int (12 : Int32))]))
  refine own_go (fun t k => XS.istoreN X279.here hx rfl (hb hby d_j52_4_31) rfl (l' := #[.val (.ref ub), .val (.int (12 : Int32)), .val (.int cv)]) rfl k) ?_
  refine own_go (fun t k => XS.aloadN X279.here hx rfl (hb hby d_j52_4_32) rfl rfl k) ?_
  refine own_go (fun t k => XS.iloadN X279.here hx rfl (hb hby d_j52_4_33) rfl k) ?_
  refine own_go (fun t k => XS.iinc X279.here hx rfl (hb hby d_j52_4_34) rfl (l' := #[.val (.ref ub), .val (.int ((12 : Int32) + (1 : Int32))), .val (.int cv)]) rfl k) ?_
  show own_Go _ _ _ _ (T279.setTop (mkF m 37 #[.val (.ref ub), .val (.int (13 : Int32)), .val (.int cv)] [(.int (12 : Int32)), (.ref ub)]))
  refine own_go (fun t k => XS.iloadN X279.here hx rfl (hb hby d_j52_4_37) rfl k) ?_
  show own_Go _ _ _ _ (T279.setTop (mkF m 38 #[.val (.ref ub), .val (.int (13 : Int32)), .val (.int cv)] [(.int cv), (.int (12 : Int32)), (.ref ub)]))
  obtain ⟨T280, X280, e280, st280⟩ := getS2 X279 hx hZ hown (host := "") (Or.inl (w_44 hw)) Via.refl e279 (Sh.ext O0.2) (g := (mkF m 38 #[.val (.ref ub), .val (.int (13 : Int32)), .val (.int cv)] [(.int cv), (.int (12 : Int32)), (.ref ub)])) rfl (hb hby d_j52_4_38)
  refine own_go st280 ?_
  refine own_go (fun t k => XS.ishr X280.here hx rfl (hb hby d_j52_4_41) rfl k) ?_
  refine own_go (fun t k => XS.i2b X280.here hx rfl (hb hby d_j52_4_42) rfl k) ?_
  show own_Go _ _ _ _ (T280.setTop (mkF m 43 #[.val (.ref ub), .val (.int (13 : Int32)), .val (.int cv)] [(.int ((cv >>> ((0 : Int32) &&& 31)).toInt8.toInt32)), (.int (12 : Int32)), (.ref ub)]))
  obtain ⟨cl281, Ar281, qk281, sz281, nn281, ha281, gf281⟩ := id A0
  have hin281 : ¬ ((12 : Int32) < 0 ∨ cl281.slots.size ≤ ((12 : Int32)).toNatClampNeg) := inb_of sz281 ⟨by decide, by decide⟩
  obtain ⟨T282, h282, X282, e282, W282, st282⟩ := stB X280 hx hZ e280 Ar281 (j := (12 : Int32)) hin281 (g := (mkF m 43 #[.val (.ref ub), .val (.int (13 : Int32)), .val (.int cv)] [(.int ((cv >>> ((0 : Int32) &&& 31)).toInt8.toInt32)), (.int (12 : Int32)), (.ref ub)])) rfl rfl (hb hby d_j52_4_43)
  refine own_go st282 ?_
  rw [show nar .byte ((cv >>> ((0 : Int32) &&& 31)).toInt8.toInt32) = ((cv >>> ((0 : Int32) &&& 31)).toInt8.toInt32) from own_b8 _] at W282
  have V282 : Arv Z h282 ub kb .byte (14 : Int32) [v0_, v1_, v2_, v3_, v4_, v5_, v6_, v7_, v8_, v9_, v10_, v11_, (.int ((cv >>> ((0 : Int32) &&& 31)).toInt8.toInt32)), v13_] (.int (0 : Int32)) := Arv.set Ar281 qk281 sz281 nn281 ha281 gf281 (fits_nar_byte _) W282 12 rfl (Nat.le_of_ble_eq_true rfl)
  have Z282 : n0 ≤ h282.size := (Nat.le_trans Z0 (Nat.le_of_eq W282.size.symm))
  have N282 := Fr.snoc X282 N0 q0
  have K282 : Keep h0 h282 [ub] := (Keep.refl h0 [ub]).wr W282 (Or.inl (List.mem_of_getElem? (i := 0) rfl))
  refine own_go (fun t k => XS.aloadN X282.here hx rfl (hb hby d_j52_4_44) rfl rfl k) ?_
  refine own_go (fun t k => XS.iloadN X282.here hx rfl (hb hby d_j52_4_45) rfl k) ?_
  refine own_go (fun t k => XS.iloadN X282.here hx rfl (hb hby d_j52_4_46) rfl k) ?_
  show own_Go _ _ _ _ (T282.setTop (mkF m 47 #[.val (.ref ub), .val (.int (13 : Int32)), .val (.int cv)] [(.int cv), (.int (13 : Int32)), (.ref ub)]))
  obtain ⟨T283, X283, e283, st283⟩ := getS2 X282 hx hZ hown (host := "") (Or.inl (w_45 hw)) Via.refl e282 (Sl.ext (O0.wr W282 q0).2) (g := (mkF m 47 #[.val (.ref ub), .val (.int (13 : Int32)), .val (.int cv)] [(.int cv), (.int (13 : Int32)), (.ref ub)])) rfl (hb hby d_j52_4_47)
  refine own_go st283 ?_
  refine own_go (fun t k => XS.ishr X283.here hx rfl (hb hby d_j52_4_50) rfl k) ?_
  refine own_go (fun t k => XS.i2b X283.here hx rfl (hb hby d_j52_4_51) rfl k) ?_
  show own_Go _ _ _ _ (T283.setTop (mkF m 52 #[.val (.ref ub), .val (.int (13 : Int32)), .val (.int cv)] [(.int ((cv >>> ((8 : Int32) &&& 31)).toInt8.toInt32)), (.int (13 : Int32)), (.ref ub)]))
  obtain ⟨cl284, Ar284, qk284, sz284, nn284, ha284, gf284⟩ := id V282
  have hin284 : ¬ ((13 : Int32) < 0 ∨ cl284.slots.size ≤ ((13 : Int32)).toNatClampNeg) := inb_of sz284 ⟨by decide, by decide⟩
  obtain ⟨T285, h285, X285, e285, W285, st285⟩ := stB X283 hx hZ e283 Ar284 (j := (13 : Int32)) hin284 (g := (mkF m 52 #[.val (.ref ub), .val (.int (13 : Int32)), .val (.int cv)] [(.int ((cv >>> ((8 : Int32) &&& 31)).toInt8.toInt32)), (.int (13 : Int32)), (.ref ub)])) rfl rfl (hb hby d_j52_4_52)
  refine own_go st285 ?_
  rw [show nar .byte ((cv >>> ((8 : Int32) &&& 31)).toInt8.toInt32) = ((cv >>> ((8 : Int32) &&& 31)).toInt8.toInt32) from own_b8 _] at W285
  have V285 : Arv Z h285 ub kb .byte (14 : Int32) [v0_, v1_, v2_, v3_, v4_, v5_, v6_, v7_, v8_, v9_, v10_, v11_, (.int ((cv >>> ((0 : Int32) &&& 31)).toInt8.toInt32)), (.int ((cv >>> ((8 : Int32) &&& 31)).toInt8.toInt32))] (.int (0 : Int32)) := Arv.set Ar284 qk284 sz284 nn284 ha284 gf284 (fits_nar_byte _) W285 13 rfl (Nat.le_of_ble_eq_true rfl)
  have Z285 : n0 ≤ h285.size := (Nat.le_trans Z282 (Nat.le_of_eq W285.size.symm))
  have N285 := Fr.snoc X285 N282 q0
  have K285 : Keep h0 h285 [ub] := K282.wr W285 (Or.inl (List.mem_of_getElem? (i := 0) rfl))
  show own_Go _ _ _ _ (T285.setTop (mkF m 53 #[.val (.ref ub), .val (.int (13 : Int32)), .val (.int cv)] []))
  refine own_retV X285 hx hlk hret (hb hby d_j52_4_53) ?_ (by decide) (by decide)
  rw [e285]
  exact ⟨rfl, N285, K285, V285⟩
def Q_tb_7 (Z : State) (ua : Addr) (ka : ClassId) (c0_ : Int32) (c1_ : Int32) (c2_ : Int32) (c3_ : Int32) (c4_ : Int32) (c5_ : Int32) (zv : Int32) (gv : Value) (h0 : Heap) (n0 : Nat) (v : Option Value) (h : Heap) (L : List Loc) : Prop := ∃ (uy : Addr) (ky : ClassId), v = some (.ref uy) ∧ Fr n0 L ∧ Keep h0 h [] ∧ h0.size ≤ uy ∧ n0 ≤ uy ∧ Arv Z h uy ky .byte (14 : Int32) [(.int ((c0_ >>> ((0 : Int32) &&& 31)).toInt8.toInt32)), (.int ((c0_ >>> ((8 : Int32) &&& 31)).toInt8.toInt32)), (.int ((c1_ >>> ((0 : Int32) &&& 31)).toInt8.toInt32)), (.int ((c1_ >>> ((8 : Int32) &&& 31)).toInt8.toInt32)), (.int ((c2_ >>> ((0 : Int32) &&& 31)).toInt8.toInt32)), (.int ((c2_ >>> ((8 : Int32) &&& 31)).toInt8.toInt32)), (.int ((c3_ >>> ((0 : Int32) &&& 31)).toInt8.toInt32)), (.int ((c3_ >>> ((8 : Int32) &&& 31)).toInt8.toInt32)), (.int ((c4_ >>> ((0 : Int32) &&& 31)).toInt8.toInt32)), (.int ((c4_ >>> ((8 : Int32) &&& 31)).toInt8.toInt32)), (.int ((c5_ >>> ((0 : Int32) &&& 31)).toInt8.toInt32)), (.int ((c5_ >>> ((8 : Int32) &&& 31)).toInt8.toInt32)), (.int (((256 : Int32) >>> ((0 : Int32) &&& 31)).toInt8.toInt32)), (.int (((256 : Int32) >>> ((8 : Int32) &&& 31)).toInt8.toInt32))] (.int (0 : Int32))
theorem ef_tb_7 (m : MethodId) (ua : Addr) : entryFrame m #[(.ref ua), (.int (0 : Int32)), (.int (7 : Int32))] 5 = mkF m 0 #[.val (.ref ua), .val (.int (0 : Int32)), .val (.int (7 : Int32)), .unset, .unset] [] := by first | (simp [entryFrame, mkF, argsToLocals, Value.category]; done) | rfl
set_option maxRecDepth 65536 in
set_option maxHeartbeats 40000000 in
theorem rm_tb_7 (l : Launch) (Z : State) (a0 : Array Value) (hw : ∀ d ∈ tables_1, d.before a0 Z = true) (ws : List Jvm.Cond) (ua : Addr) (ka : ClassId) (c0_ c1_ c2_ c3_ c4_ c5_ zv : Int32) (gv : Value) (h0 : Heap) (n0 : Nat) (Z0 : n0 ≤ h0.size) (Ac : Arv Z h0 ua ka .char (7 : Int32) [(.int c0_), (.int c1_), (.int c2_), (.int c3_), (.int c4_), (.int c5_), (.int (256 : Int32))] (.int (0 : Int32))) (B0 : own_B9 c0_) (B1 : own_B9 c1_) (B2 : own_B9 c2_) (B3 : own_B9 c3_) (B4 : own_B9 c4_) (B5 : own_B9 c5_) (O0 : Old Z n0 h0) (hzv : ¬ zv = (0 : Int32)) (S0 : Sta Z Z.heap "java/lang/String" "COMPACT_STRINGS" "Z" (.int zv)) (rgv : gv.isRef = true) (G0 : Sta Z Z.heap "jdk/internal/util/Preconditions" "SIOOBE_FORMATTER" "Ljava/util/function/BiFunction;" gv) (Sa : Sta Z Z.heap "java/lang/StringUTF16" "$assertionsDisabled" "Z" (.int (1 : Int32))) (Sh : Sta Z Z.heap "java/lang/StringUTF16" "HI_BYTE_SHIFT" "I" (.int (0 : Int32))) (Sl : Sta Z Z.heap "java/lang/StringUTF16" "LO_BYTE_SHIFT" "I" (.int (8 : Int32))) :
    own_Met l Z (⟨"java/lang/StringUTF16", "toBytes", "([CII)[B"⟩ : MethodName) jdk_52_method_14_code 5 (some (.array .byte)) ws ({ frames := 2, cells := 1, slots := 14, locals := 24 } : Room) #[(.ref ua), (.int (0 : Int32)), (.int (7 : Int32))] h0 (Q_tb_7 Z ua ka c0_ c1_ c2_ c3_ c4_ c5_ zv gv h0 n0) := by
  refine own_enter (own := "java/lang/StringUTF16") (plainFor_of_name pn_4) rfl ?_
  intro p e s m below meth c s₁ hlk hret hx hby hml hown hnm hZ X0 e0
  have N0 := Fr.nil n0
  refine own_cast (ef_tb_7 m ua) ?_
  show own_Go _ _ _ _ (s₁.setTop (mkF m 0 #[.val (.ref ua), .val (.int (0 : Int32)), .val (.int (7 : Int32)), .unset, .unset] []))
  refine own_go (fun t k => XS.iloadN X0.here hx rfl (hb hby d_j52_14_0) rfl k) ?_
  obtain ⟨_, _, ⟨T286, L286, k286, n286⟩, -, X286, ⟨Lc286, hQ286, l286, y286, z286⟩, st286⟩ := Jvm.LawKit.callS X0 hx (y := (⟨"java/lang/StringUTF16", "newBytesFor", "(I)[B"⟩ : MethodName)) hown (mvT hZ (w_33 hw)) (mvT hZ (w_34 hw)) (mvT hZ (w_24 hw)) (mvT hZ (w_35 hw)) (by decide) (backOf (W := 0) (rm_nbf_7 l Z a0 hw []  h0 n0 Z0 ) hZ (w_35 hw) (w_24 hw) (by decide) (by decide)) (g := (mkF m 1 #[.val (.ref ua), .val (.int (0 : Int32)), .val (.int (7 : Int32)), .unset, .unset] [(.int (7 : Int32))])) rfl (by rw [hml]; rfl) (argsL := [(.int (7 : Int32))]) (rest := []) (lenOf pd_12 rfl) rfl (by show 2 * 0 + _ ≤ _; exact Nat.le_of_eq rfl) (hb hby d_j52_14_1) (fun _ _ => ⟨rfl, e0, (by decide : 0 + 1 ≤ _), (by decide : 0 + 14 ≤ _)⟩)
  dsimp only [Pt.U, Pt.locs, Pt.cells, Pt.slots] at X286 l286 y286 z286 st286 hQ286
  subst l286 y286 z286
  generalize e286 : T286.heap = h286 at hQ286
  obtain ⟨uy286, ky286, rfl, N286q, K286q, lo286, q286, Ay286⟩ := hQ286
  have N286 := Fr.app N0 N286q
  refine own_go st286 ?_
  have Z286 : n0 ≤ h286.size := (Nat.le_trans Z0 K286q.1)
  have K286 : Keep h0 h286 [] := (Keep.refl h0 []).trans K286q all0
  have hi286 := Ay286.lt
  refine own_go (fun t k => XS.astoreN X286.here hx rfl (hb hby d_j52_14_4) rfl rfl (l' := #[.val (.ref ua), .val (.int (0 : Int32)), .val (.int (7 : Int32)), .val (.ref uy286), .unset]) rfl k) ?_
  refine own_go (fun t k => XS.iconst X286.here hx rfl (hb hby d_j52_14_5) k) ?_
  show own_Go _ _ _ _ (T286.setTop (mkF m 6 #[.val (.ref ua), .val (.int (0 : Int32)), .val (.int (7 : Int32)), .val (.ref uy286), .unset] [(.int (0 : Int32))]))
  refine own_go (fun t k => XS.istore X286.here hx rfl (hb hby d_j52_14_6) rfl (l' := #[.val (.ref ua), .val (.int (0 : Int32)), .val (.int (7 : Int32)), .val (.ref uy286), .val (.int (0 : Int32))]) rfl k) ?_
  refine own_go (fun t k => XS.iload X286.here hx rfl (hb hby d_j52_14_8) rfl k) ?_
  refine own_go (fun t k => XS.iloadN X286.here hx rfl (hb hby d_j52_14_10) rfl k) ?_
  show own_Go _ _ _ _ (T286.setTop (mkF m 11 #[.val (.ref ua), .val (.int (0 : Int32)), .val (.int (7 : Int32)), .val (.ref uy286), .val (.int (0 : Int32))] [(.int (7 : Int32)), (.int (0 : Int32))]))
  refine own_go (fun t k => XS.icmpNo X286.here hx rfl (hb hby d_j52_14_11) rfl (tlt (by decide : (0 : Int32) < (7 : Int32))).2.1 k) ?_
  refine own_go (fun t k => XS.aloadN X286.here hx rfl (hb hby d_j52_14_14) rfl rfl k) ?_
  refine own_go (fun t k => XS.iload X286.here hx rfl (hb hby d_j52_14_15) rfl k) ?_
  refine own_go (fun t k => XS.aloadN X286.here hx rfl (hb hby d_j52_14_17) rfl rfl k) ?_
  show own_Go _ _ _ _ (T286.setTop (mkF m 18 #[.val (.ref ua), .val (.int (0 : Int32)), .val (.int (7 : Int32)), .val (.ref uy286), .val (.int (0 : Int32))] [(.ref ua), (.int (0 : Int32)), (.ref uy286)]))
  refine own_go (fun t k => XS.iloadN X286.here hx rfl (hb hby d_j52_14_18) rfl k) ?_
  show own_Go _ _ _ _ (T286.setTop (mkF m 19 #[.val (.ref ua), .val (.int (0 : Int32)), .val (.int (7 : Int32)), .val (.ref uy286), .val (.int (0 : Int32))] [(.int (0 : Int32)), (.ref ua), (.int (0 : Int32)), (.ref uy286)]))
  obtain ⟨cl287, Ar287, qk287, sz287, nn287, ha287, gf287⟩ := id (Ac.keep K286q nin0)
  have hin287 : ¬ ((0 : Int32) < 0 ∨ cl287.slots.size ≤ ((0 : Int32)).toNatClampNeg) := inb_of sz287 ⟨by decide, by decide⟩
  have hat287 : cl287.slots[((0 : Int32)).toNatClampNeg]? = some (.int c0_) := ha287.at hin287 rfl
  refine own_go (X286.caload hx (j := (0 : Int32)) (v := (.int c0_)) (by rw [e286]; exact Ar287.1) (State.isArrayOf_alike hZ.alike Ar287.2.1) Ar287.2.2 hin287 hat287 (g := (mkF m 19 #[.val (.ref ua), .val (.int (0 : Int32)), .val (.int (7 : Int32)), .val (.ref uy286), .val (.int (0 : Int32))] [(.int (0 : Int32)), (.ref ua), (.int (0 : Int32)), (.ref uy286)])) rfl rfl (hb hby d_j52_14_19)) ?_
  obtain ⟨_, _, ⟨T288, L288, k288, n288⟩, -, X288, ⟨Lc288, hQ288, l288, y288, z288⟩, st288⟩ := Jvm.LawKit.callS X286 hx (y := (⟨"java/lang/StringUTF16", "putChar", "([BII)V"⟩ : MethodName)) hown (mvT hZ (w_40 hw)) (mvT hZ (w_41 hw)) (mvT hZ (w_24 hw)) (mvT hZ (w_42 hw)) (by decide) (backOf (W := 0) (rm_pc_7_0 l Z a0 hw [] uy286 ky286 (.int (0 : Int32)) (.int (0 : Int32)) (.int (0 : Int32)) (.int (0 : Int32)) (.int (0 : Int32)) (.int (0 : Int32)) (.int (0 : Int32)) (.int (0 : Int32)) (.int (0 : Int32)) (.int (0 : Int32)) (.int (0 : Int32)) (.int (0 : Int32)) (.int (0 : Int32)) (.int (0 : Int32)) c0_ zv gv h286 n0 Z286 q286 Ay286 (O0.keep K286q all0) hzv S0 rgv G0 Sa Sh Sl) hZ (w_42 hw) (w_24 hw) (by decide) (by decide)) (g := (mkF m 20 #[.val (.ref ua), .val (.int (0 : Int32)), .val (.int (7 : Int32)), .val (.ref uy286), .val (.int (0 : Int32))] [(.int c0_), (.int (0 : Int32)), (.ref uy286)])) rfl (by rw [hml]; rfl) (argsL := [(.ref uy286), (.int (0 : Int32)), (.int c0_)]) (rest := []) (lenOf pd_13 rfl) rfl (by show 2 * 0 + _ ≤ _; exact Nat.le_of_eq rfl) (hb hby d_j52_14_20) (fun _ _ => ⟨rfl, e286, (by decide : 1 + 0 ≤ _), (by decide : 14 + 0 ≤ _)⟩)
  dsimp only [Pt.U, Pt.locs, Pt.cells, Pt.slots] at X288 l288 y288 z288 st288 hQ288
  subst l288 y288 z288
  generalize e288 : T288.heap = h288 at hQ288
  obtain ⟨rfl, N288q, K288q, Ay288⟩ := hQ288
  have N288 := Fr.app N286 N288q
  refine own_go st288 ?_
  have Z288 : n0 ≤ h288.size := (Nat.le_trans Z286 K288q.1)
  have K288 : Keep h0 h288 [] := K286.trans K288q (allS (Or.inr lo286) all0)
  refine own_go (fun t k => XS.iinc X288.here hx rfl (hb hby d_j52_14_23) rfl (l' := #[.val (.ref ua), .val (.int ((0 : Int32) + (1 : Int32))), .val (.int (7 : Int32)), .val (.ref uy286), .val (.int (0 : Int32))]) rfl k) ?_
  refine own_go (fun t k => XS.iinc X288.here hx rfl (hb hby d_j52_14_26) rfl (l' := #[.val (.ref ua), .val (.int (1 : Int32)), .val (.int (7 : Int32)), .val (.ref uy286), .val (.int ((0 : Int32) + (1 : Int32)))]) rfl k) ?_
  show own_Go _ _ _ _ (T288.setTop (mkF m 29 #[.val (.ref ua), .val (.int (1 : Int32)), .val (.int (7 : Int32)), .val (.ref uy286), .val (.int (1 : Int32))] []))
  refine own_go (fun t k => XS.goto X288.here hx rfl (pc0 := 29) (pc' := 8) rfl (hb hby d_j52_14_29) (by decide) (by decide) k) ?_
  refine own_go (fun t k => XS.iload X288.here hx rfl (hb hby d_j52_14_8) rfl k) ?_
  refine own_go (fun t k => XS.iloadN X288.here hx rfl (hb hby d_j52_14_10) rfl k) ?_
  show own_Go _ _ _ _ (T288.setTop (mkF m 11 #[.val (.ref ua), .val (.int (1 : Int32)), .val (.int (7 : Int32)), .val (.ref uy286), .val (.int (1 : Int32))] [(.int (7 : Int32)), (.int (1 : Int32))]))
  refine own_go (fun t k => XS.icmpNo X288.here hx rfl (hb hby d_j52_14_11) rfl (tlt (by decide : (1 : Int32) < (7 : Int32))).2.1 k) ?_
  refine own_go (fun t k => XS.aloadN X288.here hx rfl (hb hby d_j52_14_14) rfl rfl k) ?_
  refine own_go (fun t k => XS.iload X288.here hx rfl (hb hby d_j52_14_15) rfl k) ?_
  refine own_go (fun t k => XS.aloadN X288.here hx rfl (hb hby d_j52_14_17) rfl rfl k) ?_
  show own_Go _ _ _ _ (T288.setTop (mkF m 18 #[.val (.ref ua), .val (.int (1 : Int32)), .val (.int (7 : Int32)), .val (.ref uy286), .val (.int (1 : Int32))] [(.ref ua), (.int (1 : Int32)), (.ref uy286)]))
  refine own_go (fun t k => XS.iloadN X288.here hx rfl (hb hby d_j52_14_18) rfl k) ?_
  show own_Go _ _ _ _ (T288.setTop (mkF m 19 #[.val (.ref ua), .val (.int (1 : Int32)), .val (.int (7 : Int32)), .val (.ref uy286), .val (.int (1 : Int32))] [(.int (1 : Int32)), (.ref ua), (.int (1 : Int32)), (.ref uy286)]))
  have f289 := ((Ac.keep K286q nin0).keep K288q (ninS (Nat.ne_of_lt (Nat.lt_of_lt_of_le Ac.lt lo286)) nin0))
  obtain ⟨cl290, Ar290, qk290, sz290, nn290, ha290, gf290⟩ := id f289
  have hin290 : ¬ ((1 : Int32) < 0 ∨ cl290.slots.size ≤ ((1 : Int32)).toNatClampNeg) := inb_of sz290 ⟨by decide, by decide⟩
  have hat290 : cl290.slots[((1 : Int32)).toNatClampNeg]? = some (.int c1_) := ha290.at hin290 rfl
  refine own_go (X288.caload hx (j := (1 : Int32)) (v := (.int c1_)) (by rw [e288]; exact Ar290.1) (State.isArrayOf_alike hZ.alike Ar290.2.1) Ar290.2.2 hin290 hat290 (g := (mkF m 19 #[.val (.ref ua), .val (.int (1 : Int32)), .val (.int (7 : Int32)), .val (.ref uy286), .val (.int (1 : Int32))] [(.int (1 : Int32)), (.ref ua), (.int (1 : Int32)), (.ref uy286)])) rfl rfl (hb hby d_j52_14_19)) ?_
  obtain ⟨_, _, ⟨T291, L291, k291, n291⟩, -, X291, ⟨Lc291, hQ291, l291, y291, z291⟩, st291⟩ := Jvm.LawKit.callS X288 hx (y := (⟨"java/lang/StringUTF16", "putChar", "([BII)V"⟩ : MethodName)) hown (mvT hZ (w_40 hw)) (mvT hZ (w_41 hw)) (mvT hZ (w_24 hw)) (mvT hZ (w_42 hw)) (by decide) (backOf (W := 0) (rm_pc_7_1 l Z a0 hw [] uy286 ky286 (.int ((c0_ >>> ((0 : Int32) &&& 31)).toInt8.toInt32)) (.int ((c0_ >>> ((8 : Int32) &&& 31)).toInt8.toInt32)) (.int (0 : Int32)) (.int (0 : Int32)) (.int (0 : Int32)) (.int (0 : Int32)) (.int (0 : Int32)) (.int (0 : Int32)) (.int (0 : Int32)) (.int (0 : Int32)) (.int (0 : Int32)) (.int (0 : Int32)) (.int (0 : Int32)) (.int (0 : Int32)) c1_ zv gv h288 n0 Z288 q286 Ay288 ((O0.keep K286q all0).keep K288q (allS q286 all0)) hzv S0 rgv G0 Sa Sh Sl) hZ (w_42 hw) (w_24 hw) (by decide) (by decide)) (g := (mkF m 20 #[.val (.ref ua), .val (.int (1 : Int32)), .val (.int (7 : Int32)), .val (.ref uy286), .val (.int (1 : Int32))] [(.int c1_), (.int (1 : Int32)), (.ref uy286)])) rfl (by rw [hml]; rfl) (argsL := [(.ref uy286), (.int (1 : Int32)), (.int c1_)]) (rest := []) (lenOf pd_13 rfl) rfl (by show 2 * 0 + _ ≤ _; exact Nat.le_of_eq rfl) (hb hby d_j52_14_20) (fun _ _ => ⟨rfl, e288, (by decide : 1 + 0 ≤ _), (by decide : 14 + 0 ≤ _)⟩)
  dsimp only [Pt.U, Pt.locs, Pt.cells, Pt.slots] at X291 l291 y291 z291 st291 hQ291
  subst l291 y291 z291
  generalize e291 : T291.heap = h291 at hQ291
  obtain ⟨rfl, N291q, K291q, Ay291⟩ := hQ291
  have N291 := Fr.app N288 N291q
  refine own_go st291 ?_
  have Z291 : n0 ≤ h291.size := (Nat.le_trans Z288 K291q.1)
  have K291 : Keep h0 h291 [] := K288.trans K291q (allS (Or.inr lo286) all0)
  refine own_go (fun t k => XS.iinc X291.here hx rfl (hb hby d_j52_14_23) rfl (l' := #[.val (.ref ua), .val (.int ((1 : Int32) + (1 : Int32))), .val (.int (7 : Int32)), .val (.ref uy286), .val (.int (1 : Int32))]) rfl k) ?_
  refine own_go (fun t k => XS.iinc X291.here hx rfl (hb hby d_j52_14_26) rfl (l' := #[.val (.ref ua), .val (.int (2 : Int32)), .val (.int (7 : Int32)), .val (.ref uy286), .val (.int ((1 : Int32) + (1 : Int32)))]) rfl k) ?_
  show own_Go _ _ _ _ (T291.setTop (mkF m 29 #[.val (.ref ua), .val (.int (2 : Int32)), .val (.int (7 : Int32)), .val (.ref uy286), .val (.int (2 : Int32))] []))
  refine own_go (fun t k => XS.goto X291.here hx rfl (pc0 := 29) (pc' := 8) rfl (hb hby d_j52_14_29) (by decide) (by decide) k) ?_
  refine own_go (fun t k => XS.iload X291.here hx rfl (hb hby d_j52_14_8) rfl k) ?_
  refine own_go (fun t k => XS.iloadN X291.here hx rfl (hb hby d_j52_14_10) rfl k) ?_
  show own_Go _ _ _ _ (T291.setTop (mkF m 11 #[.val (.ref ua), .val (.int (2 : Int32)), .val (.int (7 : Int32)), .val (.ref uy286), .val (.int (2 : Int32))] [(.int (7 : Int32)), (.int (2 : Int32))]))
  refine own_go (fun t k => XS.icmpNo X291.here hx rfl (hb hby d_j52_14_11) rfl (tlt (by decide : (2 : Int32) < (7 : Int32))).2.1 k) ?_
  refine own_go (fun t k => XS.aloadN X291.here hx rfl (hb hby d_j52_14_14) rfl rfl k) ?_
  refine own_go (fun t k => XS.iload X291.here hx rfl (hb hby d_j52_14_15) rfl k) ?_
  refine own_go (fun t k => XS.aloadN X291.here hx rfl (hb hby d_j52_14_17) rfl rfl k) ?_
  show own_Go _ _ _ _ (T291.setTop (mkF m 18 #[.val (.ref ua), .val (.int (2 : Int32)), .val (.int (7 : Int32)), .val (.ref uy286), .val (.int (2 : Int32))] [(.ref ua), (.int (2 : Int32)), (.ref uy286)]))
  refine own_go (fun t k => XS.iloadN X291.here hx rfl (hb hby d_j52_14_18) rfl k) ?_
  show own_Go _ _ _ _ (T291.setTop (mkF m 19 #[.val (.ref ua), .val (.int (2 : Int32)), .val (.int (7 : Int32)), .val (.ref uy286), .val (.int (2 : Int32))] [(.int (2 : Int32)), (.ref ua), (.int (2 : Int32)), (.ref uy286)]))
  have f292 := (f289.keep K291q (ninS (Nat.ne_of_lt (Nat.lt_of_lt_of_le Ac.lt lo286)) nin0))
  obtain ⟨cl293, Ar293, qk293, sz293, nn293, ha293, gf293⟩ := id f292
  have hin293 : ¬ ((2 : Int32) < 0 ∨ cl293.slots.size ≤ ((2 : Int32)).toNatClampNeg) := inb_of sz293 ⟨by decide, by decide⟩
  have hat293 : cl293.slots[((2 : Int32)).toNatClampNeg]? = some (.int c2_) := ha293.at hin293 rfl
  refine own_go (X291.caload hx (j := (2 : Int32)) (v := (.int c2_)) (by rw [e291]; exact Ar293.1) (State.isArrayOf_alike hZ.alike Ar293.2.1) Ar293.2.2 hin293 hat293 (g := (mkF m 19 #[.val (.ref ua), .val (.int (2 : Int32)), .val (.int (7 : Int32)), .val (.ref uy286), .val (.int (2 : Int32))] [(.int (2 : Int32)), (.ref ua), (.int (2 : Int32)), (.ref uy286)])) rfl rfl (hb hby d_j52_14_19)) ?_
  have f294 := (((O0.keep K286q all0).keep K288q (allS q286 all0)).keep K291q (allS q286 all0))
  obtain ⟨_, _, ⟨T295, L295, k295, n295⟩, -, X295, ⟨Lc295, hQ295, l295, y295, z295⟩, st295⟩ := Jvm.LawKit.callS X291 hx (y := (⟨"java/lang/StringUTF16", "putChar", "([BII)V"⟩ : MethodName)) hown (mvT hZ (w_40 hw)) (mvT hZ (w_41 hw)) (mvT hZ (w_24 hw)) (mvT hZ (w_42 hw)) (by decide) (backOf (W := 0) (rm_pc_7_2 l Z a0 hw [] uy286 ky286 (.int ((c0_ >>> ((0 : Int32) &&& 31)).toInt8.toInt32)) (.int ((c0_ >>> ((8 : Int32) &&& 31)).toInt8.toInt32)) (.int ((c1_ >>> ((0 : Int32) &&& 31)).toInt8.toInt32)) (.int ((c1_ >>> ((8 : Int32) &&& 31)).toInt8.toInt32)) (.int (0 : Int32)) (.int (0 : Int32)) (.int (0 : Int32)) (.int (0 : Int32)) (.int (0 : Int32)) (.int (0 : Int32)) (.int (0 : Int32)) (.int (0 : Int32)) (.int (0 : Int32)) (.int (0 : Int32)) c2_ zv gv h291 n0 Z291 q286 Ay291 f294 hzv S0 rgv G0 Sa Sh Sl) hZ (w_42 hw) (w_24 hw) (by decide) (by decide)) (g := (mkF m 20 #[.val (.ref ua), .val (.int (2 : Int32)), .val (.int (7 : Int32)), .val (.ref uy286), .val (.int (2 : Int32))] [(.int c2_), (.int (2 : Int32)), (.ref uy286)])) rfl (by rw [hml]; rfl) (argsL := [(.ref uy286), (.int (2 : Int32)), (.int c2_)]) (rest := []) (lenOf pd_13 rfl) rfl (by show 2 * 0 + _ ≤ _; exact Nat.le_of_eq rfl) (hb hby d_j52_14_20) (fun _ _ => ⟨rfl, e291, (by decide : 1 + 0 ≤ _), (by decide : 14 + 0 ≤ _)⟩)
  dsimp only [Pt.U, Pt.locs, Pt.cells, Pt.slots] at X295 l295 y295 z295 st295 hQ295
  subst l295 y295 z295
  generalize e295 : T295.heap = h295 at hQ295
  obtain ⟨rfl, N295q, K295q, Ay295⟩ := hQ295
  have N295 := Fr.app N291 N295q
  refine own_go st295 ?_
  have Z295 : n0 ≤ h295.size := (Nat.le_trans Z291 K295q.1)
  have K295 : Keep h0 h295 [] := K291.trans K295q (allS (Or.inr lo286) all0)
  refine own_go (fun t k => XS.iinc X295.here hx rfl (hb hby d_j52_14_23) rfl (l' := #[.val (.ref ua), .val (.int ((2 : Int32) + (1 : Int32))), .val (.int (7 : Int32)), .val (.ref uy286), .val (.int (2 : Int32))]) rfl k) ?_
  refine own_go (fun t k => XS.iinc X295.here hx rfl (hb hby d_j52_14_26) rfl (l' := #[.val (.ref ua), .val (.int (3 : Int32)), .val (.int (7 : Int32)), .val (.ref uy286), .val (.int ((2 : Int32) + (1 : Int32)))]) rfl k) ?_
  show own_Go _ _ _ _ (T295.setTop (mkF m 29 #[.val (.ref ua), .val (.int (3 : Int32)), .val (.int (7 : Int32)), .val (.ref uy286), .val (.int (3 : Int32))] []))
  refine own_go (fun t k => XS.goto X295.here hx rfl (pc0 := 29) (pc' := 8) rfl (hb hby d_j52_14_29) (by decide) (by decide) k) ?_
  refine own_go (fun t k => XS.iload X295.here hx rfl (hb hby d_j52_14_8) rfl k) ?_
  refine own_go (fun t k => XS.iloadN X295.here hx rfl (hb hby d_j52_14_10) rfl k) ?_
  show own_Go _ _ _ _ (T295.setTop (mkF m 11 #[.val (.ref ua), .val (.int (3 : Int32)), .val (.int (7 : Int32)), .val (.ref uy286), .val (.int (3 : Int32))] [(.int (7 : Int32)), (.int (3 : Int32))]))
  refine own_go (fun t k => XS.icmpNo X295.here hx rfl (hb hby d_j52_14_11) rfl (tlt (by decide : (3 : Int32) < (7 : Int32))).2.1 k) ?_
  refine own_go (fun t k => XS.aloadN X295.here hx rfl (hb hby d_j52_14_14) rfl rfl k) ?_
  refine own_go (fun t k => XS.iload X295.here hx rfl (hb hby d_j52_14_15) rfl k) ?_
  refine own_go (fun t k => XS.aloadN X295.here hx rfl (hb hby d_j52_14_17) rfl rfl k) ?_
  show own_Go _ _ _ _ (T295.setTop (mkF m 18 #[.val (.ref ua), .val (.int (3 : Int32)), .val (.int (7 : Int32)), .val (.ref uy286), .val (.int (3 : Int32))] [(.ref ua), (.int (3 : Int32)), (.ref uy286)]))
  refine own_go (fun t k => XS.iloadN X295.here hx rfl (hb hby d_j52_14_18) rfl k) ?_
  show own_Go _ _ _ _ (T295.setTop (mkF m 19 #[.val (.ref ua), .val (.int (3 : Int32)), .val (.int (7 : Int32)), .val (.ref uy286), .val (.int (3 : Int32))] [(.int (3 : Int32)), (.ref ua), (.int (3 : Int32)), (.ref uy286)]))
  have f296 := (f292.keep K295q (ninS (Nat.ne_of_lt (Nat.lt_of_lt_of_le Ac.lt lo286)) nin0))
  obtain ⟨cl297, Ar297, qk297, sz297, nn297, ha297, gf297⟩ := id f296
  have hin297 : ¬ ((3 : Int32) < 0 ∨ cl297.slots.size ≤ ((3 : Int32)).toNatClampNeg) := inb_of sz297 ⟨by decide, by decide⟩
  have hat297 : cl297.slots[((3 : Int32)).toNatClampNeg]? = some (.int c3_) := ha297.at hin297 rfl
  refine own_go (X295.caload hx (j := (3 : Int32)) (v := (.int c3_)) (by rw [e295]; exact Ar297.1) (State.isArrayOf_alike hZ.alike Ar297.2.1) Ar297.2.2 hin297 hat297 (g := (mkF m 19 #[.val (.ref ua), .val (.int (3 : Int32)), .val (.int (7 : Int32)), .val (.ref uy286), .val (.int (3 : Int32))] [(.int (3 : Int32)), (.ref ua), (.int (3 : Int32)), (.ref uy286)])) rfl rfl (hb hby d_j52_14_19)) ?_
  obtain ⟨_, _, ⟨T298, L298, k298, n298⟩, -, X298, ⟨Lc298, hQ298, l298, y298, z298⟩, st298⟩ := Jvm.LawKit.callS X295 hx (y := (⟨"java/lang/StringUTF16", "putChar", "([BII)V"⟩ : MethodName)) hown (mvT hZ (w_40 hw)) (mvT hZ (w_41 hw)) (mvT hZ (w_24 hw)) (mvT hZ (w_42 hw)) (by decide) (backOf (W := 0) (rm_pc_7_3 l Z a0 hw [] uy286 ky286 (.int ((c0_ >>> ((0 : Int32) &&& 31)).toInt8.toInt32)) (.int ((c0_ >>> ((8 : Int32) &&& 31)).toInt8.toInt32)) (.int ((c1_ >>> ((0 : Int32) &&& 31)).toInt8.toInt32)) (.int ((c1_ >>> ((8 : Int32) &&& 31)).toInt8.toInt32)) (.int ((c2_ >>> ((0 : Int32) &&& 31)).toInt8.toInt32)) (.int ((c2_ >>> ((8 : Int32) &&& 31)).toInt8.toInt32)) (.int (0 : Int32)) (.int (0 : Int32)) (.int (0 : Int32)) (.int (0 : Int32)) (.int (0 : Int32)) (.int (0 : Int32)) (.int (0 : Int32)) (.int (0 : Int32)) c3_ zv gv h295 n0 Z295 q286 Ay295 (f294.keep K295q (allS q286 all0)) hzv S0 rgv G0 Sa Sh Sl) hZ (w_42 hw) (w_24 hw) (by decide) (by decide)) (g := (mkF m 20 #[.val (.ref ua), .val (.int (3 : Int32)), .val (.int (7 : Int32)), .val (.ref uy286), .val (.int (3 : Int32))] [(.int c3_), (.int (3 : Int32)), (.ref uy286)])) rfl (by rw [hml]; rfl) (argsL := [(.ref uy286), (.int (3 : Int32)), (.int c3_)]) (rest := []) (lenOf pd_13 rfl) rfl (by show 2 * 0 + _ ≤ _; exact Nat.le_of_eq rfl) (hb hby d_j52_14_20) (fun _ _ => ⟨rfl, e295, (by decide : 1 + 0 ≤ _), (by decide : 14 + 0 ≤ _)⟩)
  dsimp only [Pt.U, Pt.locs, Pt.cells, Pt.slots] at X298 l298 y298 z298 st298 hQ298
  subst l298 y298 z298
  generalize e298 : T298.heap = h298 at hQ298
  obtain ⟨rfl, N298q, K298q, Ay298⟩ := hQ298
  have N298 := Fr.app N295 N298q
  refine own_go st298 ?_
  have Z298 : n0 ≤ h298.size := (Nat.le_trans Z295 K298q.1)
  have K298 : Keep h0 h298 [] := K295.trans K298q (allS (Or.inr lo286) all0)
  refine own_go (fun t k => XS.iinc X298.here hx rfl (hb hby d_j52_14_23) rfl (l' := #[.val (.ref ua), .val (.int ((3 : Int32) + (1 : Int32))), .val (.int (7 : Int32)), .val (.ref uy286), .val (.int (3 : Int32))]) rfl k) ?_
  refine own_go (fun t k => XS.iinc X298.here hx rfl (hb hby d_j52_14_26) rfl (l' := #[.val (.ref ua), .val (.int (4 : Int32)), .val (.int (7 : Int32)), .val (.ref uy286), .val (.int ((3 : Int32) + (1 : Int32)))]) rfl k) ?_
  show own_Go _ _ _ _ (T298.setTop (mkF m 29 #[.val (.ref ua), .val (.int (4 : Int32)), .val (.int (7 : Int32)), .val (.ref uy286), .val (.int (4 : Int32))] []))
  refine own_go (fun t k => XS.goto X298.here hx rfl (pc0 := 29) (pc' := 8) rfl (hb hby d_j52_14_29) (by decide) (by decide) k) ?_
  refine own_go (fun t k => XS.iload X298.here hx rfl (hb hby d_j52_14_8) rfl k) ?_
  refine own_go (fun t k => XS.iloadN X298.here hx rfl (hb hby d_j52_14_10) rfl k) ?_
  show own_Go _ _ _ _ (T298.setTop (mkF m 11 #[.val (.ref ua), .val (.int (4 : Int32)), .val (.int (7 : Int32)), .val (.ref uy286), .val (.int (4 : Int32))] [(.int (7 : Int32)), (.int (4 : Int32))]))
  refine own_go (fun t k => XS.icmpNo X298.here hx rfl (hb hby d_j52_14_11) rfl (tlt (by decide : (4 : Int32) < (7 : Int32))).2.1 k) ?_
  refine own_go (fun t k => XS.aloadN X298.here hx rfl (hb hby d_j52_14_14) rfl rfl k) ?_
  refine own_go (fun t k => XS.iload X298.here hx rfl (hb hby d_j52_14_15) rfl k) ?_
  refine own_go (fun t k => XS.aloadN X298.here hx rfl (hb hby d_j52_14_17) rfl rfl k) ?_
  show own_Go _ _ _ _ (T298.setTop (mkF m 18 #[.val (.ref ua), .val (.int (4 : Int32)), .val (.int (7 : Int32)), .val (.ref uy286), .val (.int (4 : Int32))] [(.ref ua), (.int (4 : Int32)), (.ref uy286)]))
  refine own_go (fun t k => XS.iloadN X298.here hx rfl (hb hby d_j52_14_18) rfl k) ?_
  show own_Go _ _ _ _ (T298.setTop (mkF m 19 #[.val (.ref ua), .val (.int (4 : Int32)), .val (.int (7 : Int32)), .val (.ref uy286), .val (.int (4 : Int32))] [(.int (4 : Int32)), (.ref ua), (.int (4 : Int32)), (.ref uy286)]))
  have f299 := (f296.keep K298q (ninS (Nat.ne_of_lt (Nat.lt_of_lt_of_le Ac.lt lo286)) nin0))
  obtain ⟨cl300, Ar300, qk300, sz300, nn300, ha300, gf300⟩ := id f299
  have hin300 : ¬ ((4 : Int32) < 0 ∨ cl300.slots.size ≤ ((4 : Int32)).toNatClampNeg) := inb_of sz300 ⟨by decide, by decide⟩
  have hat300 : cl300.slots[((4 : Int32)).toNatClampNeg]? = some (.int c4_) := ha300.at hin300 rfl
  refine own_go (X298.caload hx (j := (4 : Int32)) (v := (.int c4_)) (by rw [e298]; exact Ar300.1) (State.isArrayOf_alike hZ.alike Ar300.2.1) Ar300.2.2 hin300 hat300 (g := (mkF m 19 #[.val (.ref ua), .val (.int (4 : Int32)), .val (.int (7 : Int32)), .val (.ref uy286), .val (.int (4 : Int32))] [(.int (4 : Int32)), (.ref ua), (.int (4 : Int32)), (.ref uy286)])) rfl rfl (hb hby d_j52_14_19)) ?_
  have f301 := ((f294.keep K295q (allS q286 all0)).keep K298q (allS q286 all0))
  obtain ⟨_, _, ⟨T302, L302, k302, n302⟩, -, X302, ⟨Lc302, hQ302, l302, y302, z302⟩, st302⟩ := Jvm.LawKit.callS X298 hx (y := (⟨"java/lang/StringUTF16", "putChar", "([BII)V"⟩ : MethodName)) hown (mvT hZ (w_40 hw)) (mvT hZ (w_41 hw)) (mvT hZ (w_24 hw)) (mvT hZ (w_42 hw)) (by decide) (backOf (W := 0) (rm_pc_7_4 l Z a0 hw [] uy286 ky286 (.int ((c0_ >>> ((0 : Int32) &&& 31)).toInt8.toInt32)) (.int ((c0_ >>> ((8 : Int32) &&& 31)).toInt8.toInt32)) (.int ((c1_ >>> ((0 : Int32) &&& 31)).toInt8.toInt32)) (.int ((c1_ >>> ((8 : Int32) &&& 31)).toInt8.toInt32)) (.int ((c2_ >>> ((0 : Int32) &&& 31)).toInt8.toInt32)) (.int ((c2_ >>> ((8 : Int32) &&& 31)).toInt8.toInt32)) (.int ((c3_ >>> ((0 : Int32) &&& 31)).toInt8.toInt32)) (.int ((c3_ >>> ((8 : Int32) &&& 31)).toInt8.toInt32)) (.int (0 : Int32)) (.int (0 : Int32)) (.int (0 : Int32)) (.int (0 : Int32)) (.int (0 : Int32)) (.int (0 : Int32)) c4_ zv gv h298 n0 Z298 q286 Ay298 f301 hzv S0 rgv G0 Sa Sh Sl) hZ (w_42 hw) (w_24 hw) (by decide) (by decide)) (g := (mkF m 20 #[.val (.ref ua), .val (.int (4 : Int32)), .val (.int (7 : Int32)), .val (.ref uy286), .val (.int (4 : Int32))] [(.int c4_), (.int (4 : Int32)), (.ref uy286)])) rfl (by rw [hml]; rfl) (argsL := [(.ref uy286), (.int (4 : Int32)), (.int c4_)]) (rest := []) (lenOf pd_13 rfl) rfl (by show 2 * 0 + _ ≤ _; exact Nat.le_of_eq rfl) (hb hby d_j52_14_20) (fun _ _ => ⟨rfl, e298, (by decide : 1 + 0 ≤ _), (by decide : 14 + 0 ≤ _)⟩)
  dsimp only [Pt.U, Pt.locs, Pt.cells, Pt.slots] at X302 l302 y302 z302 st302 hQ302
  subst l302 y302 z302
  generalize e302 : T302.heap = h302 at hQ302
  obtain ⟨rfl, N302q, K302q, Ay302⟩ := hQ302
  have N302 := Fr.app N298 N302q
  refine own_go st302 ?_
  have Z302 : n0 ≤ h302.size := (Nat.le_trans Z298 K302q.1)
  have K302 : Keep h0 h302 [] := K298.trans K302q (allS (Or.inr lo286) all0)
  refine own_go (fun t k => XS.iinc X302.here hx rfl (hb hby d_j52_14_23) rfl (l' := #[.val (.ref ua), .val (.int ((4 : Int32) + (1 : Int32))), .val (.int (7 : Int32)), .val (.ref uy286), .val (.int (4 : Int32))]) rfl k) ?_
  refine own_go (fun t k => XS.iinc X302.here hx rfl (hb hby d_j52_14_26) rfl (l' := #[.val (.ref ua), .val (.int (5 : Int32)), .val (.int (7 : Int32)), .val (.ref uy286), .val (.int ((4 : Int32) + (1 : Int32)))]) rfl k) ?_
  show own_Go _ _ _ _ (T302.setTop (mkF m 29 #[.val (.ref ua), .val (.int (5 : Int32)), .val (.int (7 : Int32)), .val (.ref uy286), .val (.int (5 : Int32))] []))
  refine own_go (fun t k => XS.goto X302.here hx rfl (pc0 := 29) (pc' := 8) rfl (hb hby d_j52_14_29) (by decide) (by decide) k) ?_
  refine own_go (fun t k => XS.iload X302.here hx rfl (hb hby d_j52_14_8) rfl k) ?_
  refine own_go (fun t k => XS.iloadN X302.here hx rfl (hb hby d_j52_14_10) rfl k) ?_
  show own_Go _ _ _ _ (T302.setTop (mkF m 11 #[.val (.ref ua), .val (.int (5 : Int32)), .val (.int (7 : Int32)), .val (.ref uy286), .val (.int (5 : Int32))] [(.int (7 : Int32)), (.int (5 : Int32))]))
  refine own_go (fun t k => XS.icmpNo X302.here hx rfl (hb hby d_j52_14_11) rfl (tlt (by decide : (5 : Int32) < (7 : Int32))).2.1 k) ?_
  refine own_go (fun t k => XS.aloadN X302.here hx rfl (hb hby d_j52_14_14) rfl rfl k) ?_
  refine own_go (fun t k => XS.iload X302.here hx rfl (hb hby d_j52_14_15) rfl k) ?_
  refine own_go (fun t k => XS.aloadN X302.here hx rfl (hb hby d_j52_14_17) rfl rfl k) ?_
  show own_Go _ _ _ _ (T302.setTop (mkF m 18 #[.val (.ref ua), .val (.int (5 : Int32)), .val (.int (7 : Int32)), .val (.ref uy286), .val (.int (5 : Int32))] [(.ref ua), (.int (5 : Int32)), (.ref uy286)]))
  refine own_go (fun t k => XS.iloadN X302.here hx rfl (hb hby d_j52_14_18) rfl k) ?_
  show own_Go _ _ _ _ (T302.setTop (mkF m 19 #[.val (.ref ua), .val (.int (5 : Int32)), .val (.int (7 : Int32)), .val (.ref uy286), .val (.int (5 : Int32))] [(.int (5 : Int32)), (.ref ua), (.int (5 : Int32)), (.ref uy286)]))
  have f303 := (f299.keep K302q (ninS (Nat.ne_of_lt (Nat.lt_of_lt_of_le Ac.lt lo286)) nin0))
  obtain ⟨cl304, Ar304, qk304, sz304, nn304, ha304, gf304⟩ := id f303
  have hin304 : ¬ ((5 : Int32) < 0 ∨ cl304.slots.size ≤ ((5 : Int32)).toNatClampNeg) := inb_of sz304 ⟨by decide, by decide⟩
  have hat304 : cl304.slots[((5 : Int32)).toNatClampNeg]? = some (.int c5_) := ha304.at hin304 rfl
  refine own_go (X302.caload hx (j := (5 : Int32)) (v := (.int c5_)) (by rw [e302]; exact Ar304.1) (State.isArrayOf_alike hZ.alike Ar304.2.1) Ar304.2.2 hin304 hat304 (g := (mkF m 19 #[.val (.ref ua), .val (.int (5 : Int32)), .val (.int (7 : Int32)), .val (.ref uy286), .val (.int (5 : Int32))] [(.int (5 : Int32)), (.ref ua), (.int (5 : Int32)), (.ref uy286)])) rfl rfl (hb hby d_j52_14_19)) ?_
  obtain ⟨_, _, ⟨T305, L305, k305, n305⟩, -, X305, ⟨Lc305, hQ305, l305, y305, z305⟩, st305⟩ := Jvm.LawKit.callS X302 hx (y := (⟨"java/lang/StringUTF16", "putChar", "([BII)V"⟩ : MethodName)) hown (mvT hZ (w_40 hw)) (mvT hZ (w_41 hw)) (mvT hZ (w_24 hw)) (mvT hZ (w_42 hw)) (by decide) (backOf (W := 0) (rm_pc_7_5 l Z a0 hw [] uy286 ky286 (.int ((c0_ >>> ((0 : Int32) &&& 31)).toInt8.toInt32)) (.int ((c0_ >>> ((8 : Int32) &&& 31)).toInt8.toInt32)) (.int ((c1_ >>> ((0 : Int32) &&& 31)).toInt8.toInt32)) (.int ((c1_ >>> ((8 : Int32) &&& 31)).toInt8.toInt32)) (.int ((c2_ >>> ((0 : Int32) &&& 31)).toInt8.toInt32)) (.int ((c2_ >>> ((8 : Int32) &&& 31)).toInt8.toInt32)) (.int ((c3_ >>> ((0 : Int32) &&& 31)).toInt8.toInt32)) (.int ((c3_ >>> ((8 : Int32) &&& 31)).toInt8.toInt32)) (.int ((c4_ >>> ((0 : Int32) &&& 31)).toInt8.toInt32)) (.int ((c4_ >>> ((8 : Int32) &&& 31)).toInt8.toInt32)) (.int (0 : Int32)) (.int (0 : Int32)) (.int (0 : Int32)) (.int (0 : Int32)) c5_ zv gv h302 n0 Z302 q286 Ay302 (f301.keep K302q (allS q286 all0)) hzv S0 rgv G0 Sa Sh Sl) hZ (w_42 hw) (w_24 hw) (by decide) (by decide)) (g := (mkF m 20 #[.val (.ref ua), .val (.int (5 : Int32)), .val (.int (7 : Int32)), .val (.ref uy286), .val (.int (5 : Int32))] [(.int c5_), (.int (5 : Int32)), (.ref uy286)])) rfl (by rw [hml]; rfl) (argsL := [(.ref uy286), (.int (5 : Int32)), (.int c5_)]) (rest := []) (lenOf pd_13 rfl) rfl (by show 2 * 0 + _ ≤ _; exact Nat.le_of_eq rfl) (hb hby d_j52_14_20) (fun _ _ => ⟨rfl, e302, (by decide : 1 + 0 ≤ _), (by decide : 14 + 0 ≤ _)⟩)
  dsimp only [Pt.U, Pt.locs, Pt.cells, Pt.slots] at X305 l305 y305 z305 st305 hQ305
  subst l305 y305 z305
  generalize e305 : T305.heap = h305 at hQ305
  obtain ⟨rfl, N305q, K305q, Ay305⟩ := hQ305
  have N305 := Fr.app N302 N305q
  refine own_go st305 ?_
  have Z305 : n0 ≤ h305.size := (Nat.le_trans Z302 K305q.1)
  have K305 : Keep h0 h305 [] := K302.trans K305q (allS (Or.inr lo286) all0)
  refine own_go (fun t k => XS.iinc X305.here hx rfl (hb hby d_j52_14_23) rfl (l' := #[.val (.ref ua), .val (.int ((5 : Int32) + (1 : Int32))), .val (.int (7 : Int32)), .val (.ref uy286), .val (.int (5 : Int32))]) rfl k) ?_
  refine own_go (fun t k => XS.iinc X305.here hx rfl (hb hby d_j52_14_26) rfl (l' := #[.val (.ref ua), .val (.int (6 : Int32)), .val (.int (7 : Int32)), .val (.ref uy286), .val (.int ((5 : Int32) + (1 : Int32)))]) rfl k) ?_
  show own_Go _ _ _ _ (T305.setTop (mkF m 29 #[.val (.ref ua), .val (.int (6 : Int32)), .val (.int (7 : Int32)), .val (.ref uy286), .val (.int (6 : Int32))] []))
  refine own_go (fun t k => XS.goto X305.here hx rfl (pc0 := 29) (pc' := 8) rfl (hb hby d_j52_14_29) (by decide) (by decide) k) ?_
  refine own_go (fun t k => XS.iload X305.here hx rfl (hb hby d_j52_14_8) rfl k) ?_
  refine own_go (fun t k => XS.iloadN X305.here hx rfl (hb hby d_j52_14_10) rfl k) ?_
  show own_Go _ _ _ _ (T305.setTop (mkF m 11 #[.val (.ref ua), .val (.int (6 : Int32)), .val (.int (7 : Int32)), .val (.ref uy286), .val (.int (6 : Int32))] [(.int (7 : Int32)), (.int (6 : Int32))]))
  refine own_go (fun t k => XS.icmpNo X305.here hx rfl (hb hby d_j52_14_11) rfl (tlt (by decide : (6 : Int32) < (7 : Int32))).2.1 k) ?_
  refine own_go (fun t k => XS.aloadN X305.here hx rfl (hb hby d_j52_14_14) rfl rfl k) ?_
  refine own_go (fun t k => XS.iload X305.here hx rfl (hb hby d_j52_14_15) rfl k) ?_
  refine own_go (fun t k => XS.aloadN X305.here hx rfl (hb hby d_j52_14_17) rfl rfl k) ?_
  show own_Go _ _ _ _ (T305.setTop (mkF m 18 #[.val (.ref ua), .val (.int (6 : Int32)), .val (.int (7 : Int32)), .val (.ref uy286), .val (.int (6 : Int32))] [(.ref ua), (.int (6 : Int32)), (.ref uy286)]))
  refine own_go (fun t k => XS.iloadN X305.here hx rfl (hb hby d_j52_14_18) rfl k) ?_
  show own_Go _ _ _ _ (T305.setTop (mkF m 19 #[.val (.ref ua), .val (.int (6 : Int32)), .val (.int (7 : Int32)), .val (.ref uy286), .val (.int (6 : Int32))] [(.int (6 : Int32)), (.ref ua), (.int (6 : Int32)), (.ref uy286)]))
  have f306 := (f303.keep K305q (ninS (Nat.ne_of_lt (Nat.lt_of_lt_of_le Ac.lt lo286)) nin0))
  obtain ⟨cl307, Ar307, qk307, sz307, nn307, ha307, gf307⟩ := id f306
  have hin307 : ¬ ((6 : Int32) < 0 ∨ cl307.slots.size ≤ ((6 : Int32)).toNatClampNeg) := inb_of sz307 ⟨by decide, by decide⟩
  have hat307 : cl307.slots[((6 : Int32)).toNatClampNeg]? = some (.int (256 : Int32)) := ha307.at hin307 rfl
  refine own_go (X305.caload hx (j := (6 : Int32)) (v := (.int (256 : Int32))) (by rw [e305]; exact Ar307.1) (State.isArrayOf_alike hZ.alike Ar307.2.1) Ar307.2.2 hin307 hat307 (g := (mkF m 19 #[.val (.ref ua), .val (.int (6 : Int32)), .val (.int (7 : Int32)), .val (.ref uy286), .val (.int (6 : Int32))] [(.int (6 : Int32)), (.ref ua), (.int (6 : Int32)), (.ref uy286)])) rfl rfl (hb hby d_j52_14_19)) ?_
  have f308 := ((f301.keep K302q (allS q286 all0)).keep K305q (allS q286 all0))
  obtain ⟨_, _, ⟨T309, L309, k309, n309⟩, -, X309, ⟨Lc309, hQ309, l309, y309, z309⟩, st309⟩ := Jvm.LawKit.callS X305 hx (y := (⟨"java/lang/StringUTF16", "putChar", "([BII)V"⟩ : MethodName)) hown (mvT hZ (w_40 hw)) (mvT hZ (w_41 hw)) (mvT hZ (w_24 hw)) (mvT hZ (w_42 hw)) (by decide) (backOf (W := 0) (rm_pc_7_6 l Z a0 hw [] uy286 ky286 (.int ((c0_ >>> ((0 : Int32) &&& 31)).toInt8.toInt32)) (.int ((c0_ >>> ((8 : Int32) &&& 31)).toInt8.toInt32)) (.int ((c1_ >>> ((0 : Int32) &&& 31)).toInt8.toInt32)) (.int ((c1_ >>> ((8 : Int32) &&& 31)).toInt8.toInt32)) (.int ((c2_ >>> ((0 : Int32) &&& 31)).toInt8.toInt32)) (.int ((c2_ >>> ((8 : Int32) &&& 31)).toInt8.toInt32)) (.int ((c3_ >>> ((0 : Int32) &&& 31)).toInt8.toInt32)) (.int ((c3_ >>> ((8 : Int32) &&& 31)).toInt8.toInt32)) (.int ((c4_ >>> ((0 : Int32) &&& 31)).toInt8.toInt32)) (.int ((c4_ >>> ((8 : Int32) &&& 31)).toInt8.toInt32)) (.int ((c5_ >>> ((0 : Int32) &&& 31)).toInt8.toInt32)) (.int ((c5_ >>> ((8 : Int32) &&& 31)).toInt8.toInt32)) (.int (0 : Int32)) (.int (0 : Int32)) (256 : Int32) zv gv h305 n0 Z305 q286 Ay305 f308 hzv S0 rgv G0 Sa Sh Sl) hZ (w_42 hw) (w_24 hw) (by decide) (by decide)) (g := (mkF m 20 #[.val (.ref ua), .val (.int (6 : Int32)), .val (.int (7 : Int32)), .val (.ref uy286), .val (.int (6 : Int32))] [(.int (256 : Int32)), (.int (6 : Int32)), (.ref uy286)])) rfl (by rw [hml]; rfl) (argsL := [(.ref uy286), (.int (6 : Int32)), (.int (256 : Int32))]) (rest := []) (lenOf pd_13 rfl) rfl (by show 2 * 0 + _ ≤ _; exact Nat.le_of_eq rfl) (hb hby d_j52_14_20) (fun _ _ => ⟨rfl, e305, (by decide : 1 + 0 ≤ _), (by decide : 14 + 0 ≤ _)⟩)
  dsimp only [Pt.U, Pt.locs, Pt.cells, Pt.slots] at X309 l309 y309 z309 st309 hQ309
  subst l309 y309 z309
  generalize e309 : T309.heap = h309 at hQ309
  obtain ⟨rfl, N309q, K309q, Ay309⟩ := hQ309
  have N309 := Fr.app N305 N309q
  refine own_go st309 ?_
  have Z309 : n0 ≤ h309.size := (Nat.le_trans Z305 K309q.1)
  have K309 : Keep h0 h309 [] := K305.trans K309q (allS (Or.inr lo286) all0)
  refine own_go (fun t k => XS.iinc X309.here hx rfl (hb hby d_j52_14_23) rfl (l' := #[.val (.ref ua), .val (.int ((6 : Int32) + (1 : Int32))), .val (.int (7 : Int32)), .val (.ref uy286), .val (.int (6 : Int32))]) rfl k) ?_
  refine own_go (fun t k => XS.iinc X309.here hx rfl (hb hby d_j52_14_26) rfl (l' := #[.val (.ref ua), .val (.int (7 : Int32)), .val (.int (7 : Int32)), .val (.ref uy286), .val (.int ((6 : Int32) + (1 : Int32)))]) rfl k) ?_
  show own_Go _ _ _ _ (T309.setTop (mkF m 29 #[.val (.ref ua), .val (.int (7 : Int32)), .val (.int (7 : Int32)), .val (.ref uy286), .val (.int (7 : Int32))] []))
  refine own_go (fun t k => XS.goto X309.here hx rfl (pc0 := 29) (pc' := 8) rfl (hb hby d_j52_14_29) (by decide) (by decide) k) ?_
  refine own_go (fun t k => XS.iload X309.here hx rfl (hb hby d_j52_14_8) rfl k) ?_
  refine own_go (fun t k => XS.iloadN X309.here hx rfl (hb hby d_j52_14_10) rfl k) ?_
  show own_Go _ _ _ _ (T309.setTop (mkF m 11 #[.val (.ref ua), .val (.int (7 : Int32)), .val (.int (7 : Int32)), .val (.ref uy286), .val (.int (7 : Int32))] [(.int (7 : Int32)), (.int (7 : Int32))]))
  refine own_go (fun t k => XS.icmpYes X309.here hx rfl (pc0 := 11) (pc' := 32) rfl (hb hby d_j52_14_11) rfl (flt (by decide : ¬ ((7 : Int32) < (7 : Int32)))).2.1 (by decide) (by decide) k) ?_
  refine own_go (fun t k => XS.aloadN X309.here hx rfl (hb hby d_j52_14_32) rfl rfl k) ?_
  show own_Go _ _ _ _ (T309.setTop (mkF m 33 #[.val (.ref ua), .val (.int (7 : Int32)), .val (.int (7 : Int32)), .val (.ref uy286), .val (.int (7 : Int32))] [(.ref uy286)]))
  refine own_ret X309 hx hlk hret rfl (Or.inr (Or.inr (Or.inr (Or.inr ⟨rfl, rfl, rfl⟩)))) (hb hby d_j52_14_33) ?_ (by decide) (by decide)
  rw [e309]
  exact ⟨uy286, ky286, rfl, N309, K309, lo286, q286, Ay309⟩
def Q_k5_7 (Z : State) (ua : Addr) (ka : ClassId) (ub : Addr) (kb : ClassId) (c0_ : Int32) (c1_ : Int32) (c2_ : Int32) (c3_ : Int32) (c4_ : Int32) (c5_ : Int32) (zv : Int32) (gv : Value) (h0 : Heap) (n0 : Nat) (v : Option Value) (h : Heap) (L : List Loc) : Prop := ∃ kv : Int32, v = some (.int kv) ∧ Fr n0 L ∧ Keep h0 h [ub] ∧ ((kv = 0 ∧ (255 : Int32) < c0_) ∨ (kv = 1 ∧ (255 : Int32) < c1_) ∨ (kv = 2 ∧ (255 : Int32) < c2_) ∨ (kv = 3 ∧ (255 : Int32) < c3_) ∨ (kv = 4 ∧ (255 : Int32) < c4_) ∨ (kv = 5 ∧ (255 : Int32) < c5_) ∨ (kv = 6 ∧ (255 : Int32) < (256 : Int32)))
theorem ef_k5_7 (m : MethodId) (ua : Addr) (ub : Addr) : entryFrame m #[(.ref ua), (.int (0 : Int32)), (.ref ub), (.int (0 : Int32)), (.int (7 : Int32))] 7 = mkF m 0 #[.val (.ref ua), .val (.int (0 : Int32)), .val (.ref ub), .val (.int (0 : Int32)), .val (.int (7 : Int32)), .unset, .unset] [] := by first | (simp [entryFrame, mkF, argsToLocals, Value.category]; done) | rfl
set_option maxRecDepth 65536 in
set_option maxHeartbeats 40000000 in
theorem rm_k5_7 (l : Launch) (Z : State) (a0 : Array Value) (hw : ∀ d ∈ tables_1, d.before a0 Z = true) (ws : List Jvm.Cond) (ua : Addr) (ka : ClassId) (ub : Addr) (kb : ClassId) (c0_ c1_ c2_ c3_ c4_ c5_ zv : Int32) (gv : Value) (h0 : Heap) (n0 : Nat) (Z0 : n0 ≤ h0.size) (Ac : Arv Z h0 ua ka .char (7 : Int32) [(.int c0_), (.int c1_), (.int c2_), (.int c3_), (.int c4_), (.int c5_), (.int (256 : Int32))] (.int (0 : Int32))) (q0 : n0 ≤ ub) (A0 : Arv Z h0 ub kb .byte (7 : Int32) [(.int (0 : Int32)), (.int (0 : Int32)), (.int (0 : Int32)), (.int (0 : Int32)), (.int (0 : Int32)), (.int (0 : Int32)), (.int (0 : Int32))] (.int (0 : Int32))) (nq : ua ≠ ub) (B0 : own_B9 c0_) (B1 : own_B9 c1_) (B2 : own_B9 c2_) (B3 : own_B9 c3_) (B4 : own_B9 c4_) (B5 : own_B9 c5_) (O0 : Old Z n0 h0) (hzv : ¬ zv = (0 : Int32)) (S0 : Sta Z Z.heap "java/lang/String" "COMPACT_STRINGS" "Z" (.int zv)) (rgv : gv.isRef = true) (G0 : Sta Z Z.heap "jdk/internal/util/Preconditions" "SIOOBE_FORMATTER" "Ljava/util/function/BiFunction;" gv) (Sa : Sta Z Z.heap "java/lang/StringUTF16" "$assertionsDisabled" "Z" (.int (1 : Int32))) (Sh : Sta Z Z.heap "java/lang/StringUTF16" "HI_BYTE_SHIFT" "I" (.int (0 : Int32))) (Sl : Sta Z Z.heap "java/lang/StringUTF16" "LO_BYTE_SHIFT" "I" (.int (8 : Int32))) :
    own_Met l Z (⟨"java/lang/StringUTF16", "compress", "([CI[BII)I"⟩ : MethodName) jdk_52_method_21_code 7 (some .int) ws ({ frames := 0, cells := 0, slots := 0, locals := 0 } : Room) #[(.ref ua), (.int (0 : Int32)), (.ref ub), (.int (0 : Int32)), (.int (7 : Int32))] h0 (Q_k5_7 Z ua ka ub kb c0_ c1_ c2_ c3_ c4_ c5_ zv gv h0 n0) := by
  refine own_enter (own := "java/lang/StringUTF16") (plainFor_of_name pn_4) rfl ?_
  intro p e s m below meth c s₁ hlk hret hx hby hml hown hnm hZ X0 e0
  have N0 := Fr.nil n0
  refine own_cast (ef_k5_7 m ua ub) ?_
  show own_Go _ _ _ _ (s₁.setTop (mkF m 0 #[.val (.ref ua), .val (.int (0 : Int32)), .val (.ref ub), .val (.int (0 : Int32)), .val (.int (7 : Int32)), .unset, .unset] []))
  refine own_go (fun t k => XS.iconst X0.here hx rfl (hb hby d_j52_21_0) k) ?_
  refine own_go (fun t k => XS.istore X0.here hx rfl (hb hby d_j52_21_1) rfl (l' := #[.val (.ref ua), .val (.int (0 : Int32)), .val (.ref ub), .val (.int (0 : Int32)), .val (.int (7 : Int32)), .val (.int (0 : Int32)), .unset]) rfl k) ?_
  refine own_go (fun t k => XS.iload X0.here hx rfl (hb hby d_j52_21_3) rfl k) ?_
  refine own_go (fun t k => XS.iload X0.here hx rfl (hb hby d_j52_21_5) rfl k) ?_
  show own_Go _ _ _ _ (s₁.setTop (mkF m 7 #[.val (.ref ua), .val (.int (0 : Int32)), .val (.ref ub), .val (.int (0 : Int32)), .val (.int (7 : Int32)), .val (.int (0 : Int32)), .unset] [(.int (7 : Int32)), (.int (0 : Int32))]))
  refine own_go (fun t k => XS.icmpNo X0.here hx rfl (hb hby d_j52_21_7) rfl (tlt (by decide : (0 : Int32) < (7 : Int32))).2.1 k) ?_
  refine own_go (fun t k => XS.aloadN X0.here hx rfl (hb hby d_j52_21_10) rfl rfl k) ?_
  refine own_go (fun t k => XS.iloadN X0.here hx rfl (hb hby d_j52_21_11) rfl k) ?_
  show own_Go _ _ _ _ (s₁.setTop (mkF m 12 #[.val (.ref ua), .val (.int (0 : Int32)), .val (.ref ub), .val (.int (0 : Int32)), .val (.int (7 : Int32)), .val (.int (0 : Int32)), .unset] [(.int (0 : Int32)), (.ref ua)]))
  obtain ⟨cl310, Ar310, qk310, sz310, nn310, ha310, gf310⟩ := id Ac
  have hin310 : ¬ ((0 : Int32) < 0 ∨ cl310.slots.size ≤ ((0 : Int32)).toNatClampNeg) := inb_of sz310 ⟨by decide, by decide⟩
  have hat310 : cl310.slots[((0 : Int32)).toNatClampNeg]? = some (.int c0_) := ha310.at hin310 rfl
  refine own_go (X0.caload hx (j := (0 : Int32)) (v := (.int c0_)) (by rw [e0]; exact Ar310.1) (State.isArrayOf_alike hZ.alike Ar310.2.1) Ar310.2.2 hin310 hat310 (g := (mkF m 12 #[.val (.ref ua), .val (.int (0 : Int32)), .val (.ref ub), .val (.int (0 : Int32)), .val (.int (7 : Int32)), .val (.int (0 : Int32)), .unset] [(.int (0 : Int32)), (.ref ua)])) rfl rfl (hb hby d_j52_21_12)) ?_
  refine own_go (fun t k => XS.istore X0.here hx rfl (hb hby d_j52_21_13) rfl (l' := #[.val (.ref ua), .val (.int (0 : Int32)), .val (.ref ub), .val (.int (0 : Int32)), .val (.int (7 : Int32)), .val (.int (0 : Int32)), .val (.int c0_)]) rfl k) ?_
  refine own_go (fun t k => XS.iload X0.here hx rfl (hb hby d_j52_21_15) rfl k) ?_
  refine own_go (fun t k => XS.sipush X0.here hx rfl (hb hby d_j52_21_17) k) ?_
  by_cases hc311 : (255 : Int32) < c0_
  · show own_Go _ _ _ _ (s₁.setTop (mkF m 20 #[.val (.ref ua), .val (.int (0 : Int32)), .val (.ref ub), .val (.int (0 : Int32)), .val (.int (7 : Int32)), .val (.int (0 : Int32)), .val (.int c0_)] [(.int (255 : Int32)), (.int c0_)]))
    refine own_go (fun t k => XS.icmpNo X0.here hx rfl (hb hby d_j52_21_20) rfl (tlt hc311).2.2.2 k) ?_
    refine own_go (fun t k => XS.iload X0.here hx rfl (hb hby d_j52_21_23) rfl k) ?_
    show own_Go _ _ _ _ (s₁.setTop (mkF m 25 #[.val (.ref ua), .val (.int (0 : Int32)), .val (.ref ub), .val (.int (0 : Int32)), .val (.int (7 : Int32)), .val (.int (0 : Int32)), .val (.int c0_)] [(.int (0 : Int32))]))
    refine own_ret X0 hx hlk hret rfl (Or.inl ⟨rfl, Or.inl rfl, _, rfl⟩) (hb hby d_j52_21_25) ?_ (by decide) (by decide)
    rw [e0]
    exact ⟨(0 : Int32), rfl, N0, (Keep.refl h0 [ub]), (Or.inl ⟨rfl, hc311⟩)⟩
  · show own_Go _ _ _ _ (s₁.setTop (mkF m 20 #[.val (.ref ua), .val (.int (0 : Int32)), .val (.ref ub), .val (.int (0 : Int32)), .val (.int (7 : Int32)), .val (.int (0 : Int32)), .val (.int c0_)] [(.int (255 : Int32)), (.int c0_)]))
    refine own_go (fun t k => XS.icmpYes X0.here hx rfl (pc0 := 20) (pc' := 26) rfl (hb hby d_j52_21_20) rfl (flt hc311).2.2.2 (by decide) (by decide) k) ?_
    refine own_go (fun t k => XS.aloadN X0.here hx rfl (hb hby d_j52_21_26) rfl rfl k) ?_
    refine own_go (fun t k => XS.iloadN X0.here hx rfl (hb hby d_j52_21_27) rfl k) ?_
    refine own_go (fun t k => XS.iload X0.here hx rfl (hb hby d_j52_21_28) rfl k) ?_
    show own_Go _ _ _ _ (s₁.setTop (mkF m 30 #[.val (.ref ua), .val (.int (0 : Int32)), .val (.ref ub), .val (.int (0 : Int32)), .val (.int (7 : Int32)), .val (.int (0 : Int32)), .val (.int c0_)] [(.int c0_), (.int (0 : Int32)), (.ref ub)]))
    refine own_go (fun t k => XS.i2b X0.here hx rfl (hb hby d_j52_21_30) rfl k) ?_
    show own_Go _ _ _ _ (s₁.setTop (mkF m 31 #[.val (.ref ua), .val (.int (0 : Int32)), .val (.ref ub), .val (.int (0 : Int32)), .val (.int (7 : Int32)), .val (.int (0 : Int32)), .val (.int c0_)] [(.int (c0_.toInt8.toInt32)), (.int (0 : Int32)), (.ref ub)]))
    obtain ⟨cl312, Ar312, qk312, sz312, nn312, ha312, gf312⟩ := id A0
    have hin312 : ¬ ((0 : Int32) < 0 ∨ cl312.slots.size ≤ ((0 : Int32)).toNatClampNeg) := inb_of sz312 ⟨by decide, by decide⟩
    obtain ⟨T313, h313, X313, e313, W313, st313⟩ := stB X0 hx hZ e0 Ar312 (j := (0 : Int32)) hin312 (g := (mkF m 31 #[.val (.ref ua), .val (.int (0 : Int32)), .val (.ref ub), .val (.int (0 : Int32)), .val (.int (7 : Int32)), .val (.int (0 : Int32)), .val (.int c0_)] [(.int (c0_.toInt8.toInt32)), (.int (0 : Int32)), (.ref ub)])) rfl rfl (hb hby d_j52_21_31)
    refine own_go st313 ?_
    rw [show nar .byte (c0_.toInt8.toInt32) = (c0_.toInt8.toInt32) from own_b8 _] at W313
    have V313 : Arv Z h313 ub kb .byte (7 : Int32) [(.int (c0_.toInt8.toInt32)), (.int (0 : Int32)), (.int (0 : Int32)), (.int (0 : Int32)), (.int (0 : Int32)), (.int (0 : Int32)), (.int (0 : Int32))] (.int (0 : Int32)) := Arv.set Ar312 qk312 sz312 nn312 ha312 gf312 (fits_nar_byte _) W313 0 rfl (Nat.le_of_ble_eq_true rfl)
    have Z313 : n0 ≤ h313.size := (Nat.le_trans Z0 (Nat.le_of_eq W313.size.symm))
    have N313 := Fr.snoc X313 N0 q0
    have K313 : Keep h0 h313 [ub] := (Keep.refl h0 [ub]).wr W313 (Or.inl (List.mem_of_getElem? (i := 0) rfl))
    refine own_go (fun t k => XS.iinc X313.here hx rfl (hb hby d_j52_21_32) rfl (l' := #[.val (.ref ua), .val (.int ((0 : Int32) + (1 : Int32))), .val (.ref ub), .val (.int (0 : Int32)), .val (.int (7 : Int32)), .val (.int (0 : Int32)), .val (.int c0_)]) rfl k) ?_
    refine own_go (fun t k => XS.iinc X313.here hx rfl (hb hby d_j52_21_35) rfl (l' := #[.val (.ref ua), .val (.int (1 : Int32)), .val (.ref ub), .val (.int ((0 : Int32) + (1 : Int32))), .val (.int (7 : Int32)), .val (.int (0 : Int32)), .val (.int c0_)]) rfl k) ?_
    refine own_go (fun t k => XS.iinc X313.here hx rfl (hb hby d_j52_21_38) rfl (l' := #[.val (.ref ua), .val (.int (1 : Int32)), .val (.ref ub), .val (.int (1 : Int32)), .val (.int (7 : Int32)), .val (.int ((0 : Int32) + (1 : Int32))), .val (.int c0_)]) rfl k) ?_
    show own_Go _ _ _ _ (T313.setTop (mkF m 41 #[.val (.ref ua), .val (.int (1 : Int32)), .val (.ref ub), .val (.int (1 : Int32)), .val (.int (7 : Int32)), .val (.int (1 : Int32)), .val (.int c0_)] []))
    refine own_go (fun t k => XS.goto X313.here hx rfl (pc0 := 41) (pc' := 3) rfl (hb hby d_j52_21_41) (by decide) (by decide) k) ?_
    refine own_go (fun t k => XS.iload X313.here hx rfl (hb hby d_j52_21_3) rfl k) ?_
    refine own_go (fun t k => XS.iload X313.here hx rfl (hb hby d_j52_21_5) rfl k) ?_
    show own_Go _ _ _ _ (T313.setTop (mkF m 7 #[.val (.ref ua), .val (.int (1 : Int32)), .val (.ref ub), .val (.int (1 : Int32)), .val (.int (7 : Int32)), .val (.int (1 : Int32)), .val (.int c0_)] [(.int (7 : Int32)), (.int (1 : Int32))]))
    refine own_go (fun t k => XS.icmpNo X313.here hx rfl (hb hby d_j52_21_7) rfl (tlt (by decide : (1 : Int32) < (7 : Int32))).2.1 k) ?_
    refine own_go (fun t k => XS.aloadN X313.here hx rfl (hb hby d_j52_21_10) rfl rfl k) ?_
    refine own_go (fun t k => XS.iloadN X313.here hx rfl (hb hby d_j52_21_11) rfl k) ?_
    show own_Go _ _ _ _ (T313.setTop (mkF m 12 #[.val (.ref ua), .val (.int (1 : Int32)), .val (.ref ub), .val (.int (1 : Int32)), .val (.int (7 : Int32)), .val (.int (1 : Int32)), .val (.int c0_)] [(.int (1 : Int32)), (.ref ua)]))
    obtain ⟨cl314, Ar314, qk314, sz314, nn314, ha314, gf314⟩ := id (Ac.other W313 nq)
    have hin314 : ¬ ((1 : Int32) < 0 ∨ cl314.slots.size ≤ ((1 : Int32)).toNatClampNeg) := inb_of sz314 ⟨by decide, by decide⟩
    have hat314 : cl314.slots[((1 : Int32)).toNatClampNeg]? = some (.int c1_) := ha314.at hin314 rfl
    refine own_go (X313.caload hx (j := (1 : Int32)) (v := (.int c1_)) (by rw [e313]; exact Ar314.1) (State.isArrayOf_alike hZ.alike Ar314.2.1) Ar314.2.2 hin314 hat314 (g := (mkF m 12 #[.val (.ref ua), .val (.int (1 : Int32)), .val (.ref ub), .val (.int (1 : Int32)), .val (.int (7 : Int32)), .val (.int (1 : Int32)), .val (.int c0_)] [(.int (1 : Int32)), (.ref ua)])) rfl rfl (hb hby d_j52_21_12)) ?_
    refine own_go (fun t k => XS.istore X313.here hx rfl (hb hby d_j52_21_13) rfl (l' := #[.val (.ref ua), .val (.int (1 : Int32)), .val (.ref ub), .val (.int (1 : Int32)), .val (.int (7 : Int32)), .val (.int (1 : Int32)), .val (.int c1_)]) rfl k) ?_
    refine own_go (fun t k => XS.iload X313.here hx rfl (hb hby d_j52_21_15) rfl k) ?_
    refine own_go (fun t k => XS.sipush X313.here hx rfl (hb hby d_j52_21_17) k) ?_
    by_cases hc315 : (255 : Int32) < c1_
    · show own_Go _ _ _ _ (T313.setTop (mkF m 20 #[.val (.ref ua), .val (.int (1 : Int32)), .val (.ref ub), .val (.int (1 : Int32)), .val (.int (7 : Int32)), .val (.int (1 : Int32)), .val (.int c1_)] [(.int (255 : Int32)), (.int c1_)]))
      refine own_go (fun t k => XS.icmpNo X313.here hx rfl (hb hby d_j52_21_20) rfl (tlt hc315).2.2.2 k) ?_
      refine own_go (fun t k => XS.iload X313.here hx rfl (hb hby d_j52_21_23) rfl k) ?_
      show own_Go _ _ _ _ (T313.setTop (mkF m 25 #[.val (.ref ua), .val (.int (1 : Int32)), .val (.ref ub), .val (.int (1 : Int32)), .val (.int (7 : Int32)), .val (.int (1 : Int32)), .val (.int c1_)] [(.int (1 : Int32))]))
      refine own_ret X313 hx hlk hret rfl (Or.inl ⟨rfl, Or.inl rfl, _, rfl⟩) (hb hby d_j52_21_25) ?_ (by decide) (by decide)
      rw [e313]
      exact ⟨(1 : Int32), rfl, N313, K313, (Or.inr (Or.inl ⟨rfl, hc315⟩))⟩
    · show own_Go _ _ _ _ (T313.setTop (mkF m 20 #[.val (.ref ua), .val (.int (1 : Int32)), .val (.ref ub), .val (.int (1 : Int32)), .val (.int (7 : Int32)), .val (.int (1 : Int32)), .val (.int c1_)] [(.int (255 : Int32)), (.int c1_)]))
      refine own_go (fun t k => XS.icmpYes X313.here hx rfl (pc0 := 20) (pc' := 26) rfl (hb hby d_j52_21_20) rfl (flt hc315).2.2.2 (by decide) (by decide) k) ?_
      refine own_go (fun t k => XS.aloadN X313.here hx rfl (hb hby d_j52_21_26) rfl rfl k) ?_
      refine own_go (fun t k => XS.iloadN X313.here hx rfl (hb hby d_j52_21_27) rfl k) ?_
      refine own_go (fun t k => XS.iload X313.here hx rfl (hb hby d_j52_21_28) rfl k) ?_
      show own_Go _ _ _ _ (T313.setTop (mkF m 30 #[.val (.ref ua), .val (.int (1 : Int32)), .val (.ref ub), .val (.int (1 : Int32)), .val (.int (7 : Int32)), .val (.int (1 : Int32)), .val (.int c1_)] [(.int c1_), (.int (1 : Int32)), (.ref ub)]))
      refine own_go (fun t k => XS.i2b X313.here hx rfl (hb hby d_j52_21_30) rfl k) ?_
      show own_Go _ _ _ _ (T313.setTop (mkF m 31 #[.val (.ref ua), .val (.int (1 : Int32)), .val (.ref ub), .val (.int (1 : Int32)), .val (.int (7 : Int32)), .val (.int (1 : Int32)), .val (.int c1_)] [(.int (c1_.toInt8.toInt32)), (.int (1 : Int32)), (.ref ub)]))
      obtain ⟨cl316, Ar316, qk316, sz316, nn316, ha316, gf316⟩ := id V313
      have hin316 : ¬ ((1 : Int32) < 0 ∨ cl316.slots.size ≤ ((1 : Int32)).toNatClampNeg) := inb_of sz316 ⟨by decide, by decide⟩
      obtain ⟨T317, h317, X317, e317, W317, st317⟩ := stB X313 hx hZ e313 Ar316 (j := (1 : Int32)) hin316 (g := (mkF m 31 #[.val (.ref ua), .val (.int (1 : Int32)), .val (.ref ub), .val (.int (1 : Int32)), .val (.int (7 : Int32)), .val (.int (1 : Int32)), .val (.int c1_)] [(.int (c1_.toInt8.toInt32)), (.int (1 : Int32)), (.ref ub)])) rfl rfl (hb hby d_j52_21_31)
      refine own_go st317 ?_
      rw [show nar .byte (c1_.toInt8.toInt32) = (c1_.toInt8.toInt32) from own_b8 _] at W317
      have V317 : Arv Z h317 ub kb .byte (7 : Int32) [(.int (c0_.toInt8.toInt32)), (.int (c1_.toInt8.toInt32)), (.int (0 : Int32)), (.int (0 : Int32)), (.int (0 : Int32)), (.int (0 : Int32)), (.int (0 : Int32))] (.int (0 : Int32)) := Arv.set Ar316 qk316 sz316 nn316 ha316 gf316 (fits_nar_byte _) W317 1 rfl (Nat.le_of_ble_eq_true rfl)
      have Z317 : n0 ≤ h317.size := (Nat.le_trans Z313 (Nat.le_of_eq W317.size.symm))
      have N317 := Fr.snoc X317 N313 q0
      have K317 : Keep h0 h317 [ub] := K313.wr W317 (Or.inl (List.mem_of_getElem? (i := 0) rfl))
      refine own_go (fun t k => XS.iinc X317.here hx rfl (hb hby d_j52_21_32) rfl (l' := #[.val (.ref ua), .val (.int ((1 : Int32) + (1 : Int32))), .val (.ref ub), .val (.int (1 : Int32)), .val (.int (7 : Int32)), .val (.int (1 : Int32)), .val (.int c1_)]) rfl k) ?_
      refine own_go (fun t k => XS.iinc X317.here hx rfl (hb hby d_j52_21_35) rfl (l' := #[.val (.ref ua), .val (.int (2 : Int32)), .val (.ref ub), .val (.int ((1 : Int32) + (1 : Int32))), .val (.int (7 : Int32)), .val (.int (1 : Int32)), .val (.int c1_)]) rfl k) ?_
      refine own_go (fun t k => XS.iinc X317.here hx rfl (hb hby d_j52_21_38) rfl (l' := #[.val (.ref ua), .val (.int (2 : Int32)), .val (.ref ub), .val (.int (2 : Int32)), .val (.int (7 : Int32)), .val (.int ((1 : Int32) + (1 : Int32))), .val (.int c1_)]) rfl k) ?_
      show own_Go _ _ _ _ (T317.setTop (mkF m 41 #[.val (.ref ua), .val (.int (2 : Int32)), .val (.ref ub), .val (.int (2 : Int32)), .val (.int (7 : Int32)), .val (.int (2 : Int32)), .val (.int c1_)] []))
      refine own_go (fun t k => XS.goto X317.here hx rfl (pc0 := 41) (pc' := 3) rfl (hb hby d_j52_21_41) (by decide) (by decide) k) ?_
      refine own_go (fun t k => XS.iload X317.here hx rfl (hb hby d_j52_21_3) rfl k) ?_
      refine own_go (fun t k => XS.iload X317.here hx rfl (hb hby d_j52_21_5) rfl k) ?_
      show own_Go _ _ _ _ (T317.setTop (mkF m 7 #[.val (.ref ua), .val (.int (2 : Int32)), .val (.ref ub), .val (.int (2 : Int32)), .val (.int (7 : Int32)), .val (.int (2 : Int32)), .val (.int c1_)] [(.int (7 : Int32)), (.int (2 : Int32))]))
      refine own_go (fun t k => XS.icmpNo X317.here hx rfl (hb hby d_j52_21_7) rfl (tlt (by decide : (2 : Int32) < (7 : Int32))).2.1 k) ?_
      refine own_go (fun t k => XS.aloadN X317.here hx rfl (hb hby d_j52_21_10) rfl rfl k) ?_
      refine own_go (fun t k => XS.iloadN X317.here hx rfl (hb hby d_j52_21_11) rfl k) ?_
      show own_Go _ _ _ _ (T317.setTop (mkF m 12 #[.val (.ref ua), .val (.int (2 : Int32)), .val (.ref ub), .val (.int (2 : Int32)), .val (.int (7 : Int32)), .val (.int (2 : Int32)), .val (.int c1_)] [(.int (2 : Int32)), (.ref ua)]))
      obtain ⟨cl318, Ar318, qk318, sz318, nn318, ha318, gf318⟩ := id ((Ac.other W313 nq).other W317 nq)
      have hin318 : ¬ ((2 : Int32) < 0 ∨ cl318.slots.size ≤ ((2 : Int32)).toNatClampNeg) := inb_of sz318 ⟨by decide, by decide⟩
      have hat318 : cl318.slots[((2 : Int32)).toNatClampNeg]? = some (.int c2_) := ha318.at hin318 rfl
      refine own_go (X317.caload hx (j := (2 : Int32)) (v := (.int c2_)) (by rw [e317]; exact Ar318.1) (State.isArrayOf_alike hZ.alike Ar318.2.1) Ar318.2.2 hin318 hat318 (g := (mkF m 12 #[.val (.ref ua), .val (.int (2 : Int32)), .val (.ref ub), .val (.int (2 : Int32)), .val (.int (7 : Int32)), .val (.int (2 : Int32)), .val (.int c1_)] [(.int (2 : Int32)), (.ref ua)])) rfl rfl (hb hby d_j52_21_12)) ?_
      refine own_go (fun t k => XS.istore X317.here hx rfl (hb hby d_j52_21_13) rfl (l' := #[.val (.ref ua), .val (.int (2 : Int32)), .val (.ref ub), .val (.int (2 : Int32)), .val (.int (7 : Int32)), .val (.int (2 : Int32)), .val (.int c2_)]) rfl k) ?_
      refine own_go (fun t k => XS.iload X317.here hx rfl (hb hby d_j52_21_15) rfl k) ?_
      refine own_go (fun t k => XS.sipush X317.here hx rfl (hb hby d_j52_21_17) k) ?_
      by_cases hc319 : (255 : Int32) < c2_
      · show own_Go _ _ _ _ (T317.setTop (mkF m 20 #[.val (.ref ua), .val (.int (2 : Int32)), .val (.ref ub), .val (.int (2 : Int32)), .val (.int (7 : Int32)), .val (.int (2 : Int32)), .val (.int c2_)] [(.int (255 : Int32)), (.int c2_)]))
        refine own_go (fun t k => XS.icmpNo X317.here hx rfl (hb hby d_j52_21_20) rfl (tlt hc319).2.2.2 k) ?_
        refine own_go (fun t k => XS.iload X317.here hx rfl (hb hby d_j52_21_23) rfl k) ?_
        show own_Go _ _ _ _ (T317.setTop (mkF m 25 #[.val (.ref ua), .val (.int (2 : Int32)), .val (.ref ub), .val (.int (2 : Int32)), .val (.int (7 : Int32)), .val (.int (2 : Int32)), .val (.int c2_)] [(.int (2 : Int32))]))
        refine own_ret X317 hx hlk hret rfl (Or.inl ⟨rfl, Or.inl rfl, _, rfl⟩) (hb hby d_j52_21_25) ?_ (by decide) (by decide)
        rw [e317]
        exact ⟨(2 : Int32), rfl, N317, K317, (Or.inr (Or.inr (Or.inl ⟨rfl, hc319⟩)))⟩
      · show own_Go _ _ _ _ (T317.setTop (mkF m 20 #[.val (.ref ua), .val (.int (2 : Int32)), .val (.ref ub), .val (.int (2 : Int32)), .val (.int (7 : Int32)), .val (.int (2 : Int32)), .val (.int c2_)] [(.int (255 : Int32)), (.int c2_)]))
        refine own_go (fun t k => XS.icmpYes X317.here hx rfl (pc0 := 20) (pc' := 26) rfl (hb hby d_j52_21_20) rfl (flt hc319).2.2.2 (by decide) (by decide) k) ?_
        refine own_go (fun t k => XS.aloadN X317.here hx rfl (hb hby d_j52_21_26) rfl rfl k) ?_
        refine own_go (fun t k => XS.iloadN X317.here hx rfl (hb hby d_j52_21_27) rfl k) ?_
        refine own_go (fun t k => XS.iload X317.here hx rfl (hb hby d_j52_21_28) rfl k) ?_
        show own_Go _ _ _ _ (T317.setTop (mkF m 30 #[.val (.ref ua), .val (.int (2 : Int32)), .val (.ref ub), .val (.int (2 : Int32)), .val (.int (7 : Int32)), .val (.int (2 : Int32)), .val (.int c2_)] [(.int c2_), (.int (2 : Int32)), (.ref ub)]))
        refine own_go (fun t k => XS.i2b X317.here hx rfl (hb hby d_j52_21_30) rfl k) ?_
        show own_Go _ _ _ _ (T317.setTop (mkF m 31 #[.val (.ref ua), .val (.int (2 : Int32)), .val (.ref ub), .val (.int (2 : Int32)), .val (.int (7 : Int32)), .val (.int (2 : Int32)), .val (.int c2_)] [(.int (c2_.toInt8.toInt32)), (.int (2 : Int32)), (.ref ub)]))
        obtain ⟨cl320, Ar320, qk320, sz320, nn320, ha320, gf320⟩ := id V317
        have hin320 : ¬ ((2 : Int32) < 0 ∨ cl320.slots.size ≤ ((2 : Int32)).toNatClampNeg) := inb_of sz320 ⟨by decide, by decide⟩
        obtain ⟨T321, h321, X321, e321, W321, st321⟩ := stB X317 hx hZ e317 Ar320 (j := (2 : Int32)) hin320 (g := (mkF m 31 #[.val (.ref ua), .val (.int (2 : Int32)), .val (.ref ub), .val (.int (2 : Int32)), .val (.int (7 : Int32)), .val (.int (2 : Int32)), .val (.int c2_)] [(.int (c2_.toInt8.toInt32)), (.int (2 : Int32)), (.ref ub)])) rfl rfl (hb hby d_j52_21_31)
        refine own_go st321 ?_
        rw [show nar .byte (c2_.toInt8.toInt32) = (c2_.toInt8.toInt32) from own_b8 _] at W321
        have V321 : Arv Z h321 ub kb .byte (7 : Int32) [(.int (c0_.toInt8.toInt32)), (.int (c1_.toInt8.toInt32)), (.int (c2_.toInt8.toInt32)), (.int (0 : Int32)), (.int (0 : Int32)), (.int (0 : Int32)), (.int (0 : Int32))] (.int (0 : Int32)) := Arv.set Ar320 qk320 sz320 nn320 ha320 gf320 (fits_nar_byte _) W321 2 rfl (Nat.le_of_ble_eq_true rfl)
        have Z321 : n0 ≤ h321.size := (Nat.le_trans Z317 (Nat.le_of_eq W321.size.symm))
        have N321 := Fr.snoc X321 N317 q0
        have K321 : Keep h0 h321 [ub] := K317.wr W321 (Or.inl (List.mem_of_getElem? (i := 0) rfl))
        refine own_go (fun t k => XS.iinc X321.here hx rfl (hb hby d_j52_21_32) rfl (l' := #[.val (.ref ua), .val (.int ((2 : Int32) + (1 : Int32))), .val (.ref ub), .val (.int (2 : Int32)), .val (.int (7 : Int32)), .val (.int (2 : Int32)), .val (.int c2_)]) rfl k) ?_
        refine own_go (fun t k => XS.iinc X321.here hx rfl (hb hby d_j52_21_35) rfl (l' := #[.val (.ref ua), .val (.int (3 : Int32)), .val (.ref ub), .val (.int ((2 : Int32) + (1 : Int32))), .val (.int (7 : Int32)), .val (.int (2 : Int32)), .val (.int c2_)]) rfl k) ?_
        refine own_go (fun t k => XS.iinc X321.here hx rfl (hb hby d_j52_21_38) rfl (l' := #[.val (.ref ua), .val (.int (3 : Int32)), .val (.ref ub), .val (.int (3 : Int32)), .val (.int (7 : Int32)), .val (.int ((2 : Int32) + (1 : Int32))), .val (.int c2_)]) rfl k) ?_
        show own_Go _ _ _ _ (T321.setTop (mkF m 41 #[.val (.ref ua), .val (.int (3 : Int32)), .val (.ref ub), .val (.int (3 : Int32)), .val (.int (7 : Int32)), .val (.int (3 : Int32)), .val (.int c2_)] []))
        refine own_go (fun t k => XS.goto X321.here hx rfl (pc0 := 41) (pc' := 3) rfl (hb hby d_j52_21_41) (by decide) (by decide) k) ?_
        refine own_go (fun t k => XS.iload X321.here hx rfl (hb hby d_j52_21_3) rfl k) ?_
        refine own_go (fun t k => XS.iload X321.here hx rfl (hb hby d_j52_21_5) rfl k) ?_
        show own_Go _ _ _ _ (T321.setTop (mkF m 7 #[.val (.ref ua), .val (.int (3 : Int32)), .val (.ref ub), .val (.int (3 : Int32)), .val (.int (7 : Int32)), .val (.int (3 : Int32)), .val (.int c2_)] [(.int (7 : Int32)), (.int (3 : Int32))]))
        refine own_go (fun t k => XS.icmpNo X321.here hx rfl (hb hby d_j52_21_7) rfl (tlt (by decide : (3 : Int32) < (7 : Int32))).2.1 k) ?_
        refine own_go (fun t k => XS.aloadN X321.here hx rfl (hb hby d_j52_21_10) rfl rfl k) ?_
        refine own_go (fun t k => XS.iloadN X321.here hx rfl (hb hby d_j52_21_11) rfl k) ?_
        show own_Go _ _ _ _ (T321.setTop (mkF m 12 #[.val (.ref ua), .val (.int (3 : Int32)), .val (.ref ub), .val (.int (3 : Int32)), .val (.int (7 : Int32)), .val (.int (3 : Int32)), .val (.int c2_)] [(.int (3 : Int32)), (.ref ua)]))
        obtain ⟨cl322, Ar322, qk322, sz322, nn322, ha322, gf322⟩ := id (((Ac.other W313 nq).other W317 nq).other W321 nq)
        have hin322 : ¬ ((3 : Int32) < 0 ∨ cl322.slots.size ≤ ((3 : Int32)).toNatClampNeg) := inb_of sz322 ⟨by decide, by decide⟩
        have hat322 : cl322.slots[((3 : Int32)).toNatClampNeg]? = some (.int c3_) := ha322.at hin322 rfl
        refine own_go (X321.caload hx (j := (3 : Int32)) (v := (.int c3_)) (by rw [e321]; exact Ar322.1) (State.isArrayOf_alike hZ.alike Ar322.2.1) Ar322.2.2 hin322 hat322 (g := (mkF m 12 #[.val (.ref ua), .val (.int (3 : Int32)), .val (.ref ub), .val (.int (3 : Int32)), .val (.int (7 : Int32)), .val (.int (3 : Int32)), .val (.int c2_)] [(.int (3 : Int32)), (.ref ua)])) rfl rfl (hb hby d_j52_21_12)) ?_
        refine own_go (fun t k => XS.istore X321.here hx rfl (hb hby d_j52_21_13) rfl (l' := #[.val (.ref ua), .val (.int (3 : Int32)), .val (.ref ub), .val (.int (3 : Int32)), .val (.int (7 : Int32)), .val (.int (3 : Int32)), .val (.int c3_)]) rfl k) ?_
        refine own_go (fun t k => XS.iload X321.here hx rfl (hb hby d_j52_21_15) rfl k) ?_
        refine own_go (fun t k => XS.sipush X321.here hx rfl (hb hby d_j52_21_17) k) ?_
        by_cases hc323 : (255 : Int32) < c3_
        · show own_Go _ _ _ _ (T321.setTop (mkF m 20 #[.val (.ref ua), .val (.int (3 : Int32)), .val (.ref ub), .val (.int (3 : Int32)), .val (.int (7 : Int32)), .val (.int (3 : Int32)), .val (.int c3_)] [(.int (255 : Int32)), (.int c3_)]))
          refine own_go (fun t k => XS.icmpNo X321.here hx rfl (hb hby d_j52_21_20) rfl (tlt hc323).2.2.2 k) ?_
          refine own_go (fun t k => XS.iload X321.here hx rfl (hb hby d_j52_21_23) rfl k) ?_
          show own_Go _ _ _ _ (T321.setTop (mkF m 25 #[.val (.ref ua), .val (.int (3 : Int32)), .val (.ref ub), .val (.int (3 : Int32)), .val (.int (7 : Int32)), .val (.int (3 : Int32)), .val (.int c3_)] [(.int (3 : Int32))]))
          refine own_ret X321 hx hlk hret rfl (Or.inl ⟨rfl, Or.inl rfl, _, rfl⟩) (hb hby d_j52_21_25) ?_ (by decide) (by decide)
          rw [e321]
          exact ⟨(3 : Int32), rfl, N321, K321, (Or.inr (Or.inr (Or.inr (Or.inl ⟨rfl, hc323⟩))))⟩
        · show own_Go _ _ _ _ (T321.setTop (mkF m 20 #[.val (.ref ua), .val (.int (3 : Int32)), .val (.ref ub), .val (.int (3 : Int32)), .val (.int (7 : Int32)), .val (.int (3 : Int32)), .val (.int c3_)] [(.int (255 : Int32)), (.int c3_)]))
          refine own_go (fun t k => XS.icmpYes X321.here hx rfl (pc0 := 20) (pc' := 26) rfl (hb hby d_j52_21_20) rfl (flt hc323).2.2.2 (by decide) (by decide) k) ?_
          refine own_go (fun t k => XS.aloadN X321.here hx rfl (hb hby d_j52_21_26) rfl rfl k) ?_
          refine own_go (fun t k => XS.iloadN X321.here hx rfl (hb hby d_j52_21_27) rfl k) ?_
          refine own_go (fun t k => XS.iload X321.here hx rfl (hb hby d_j52_21_28) rfl k) ?_
          show own_Go _ _ _ _ (T321.setTop (mkF m 30 #[.val (.ref ua), .val (.int (3 : Int32)), .val (.ref ub), .val (.int (3 : Int32)), .val (.int (7 : Int32)), .val (.int (3 : Int32)), .val (.int c3_)] [(.int c3_), (.int (3 : Int32)), (.ref ub)]))
          refine own_go (fun t k => XS.i2b X321.here hx rfl (hb hby d_j52_21_30) rfl k) ?_
          show own_Go _ _ _ _ (T321.setTop (mkF m 31 #[.val (.ref ua), .val (.int (3 : Int32)), .val (.ref ub), .val (.int (3 : Int32)), .val (.int (7 : Int32)), .val (.int (3 : Int32)), .val (.int c3_)] [(.int (c3_.toInt8.toInt32)), (.int (3 : Int32)), (.ref ub)]))
          obtain ⟨cl324, Ar324, qk324, sz324, nn324, ha324, gf324⟩ := id V321
          have hin324 : ¬ ((3 : Int32) < 0 ∨ cl324.slots.size ≤ ((3 : Int32)).toNatClampNeg) := inb_of sz324 ⟨by decide, by decide⟩
          obtain ⟨T325, h325, X325, e325, W325, st325⟩ := stB X321 hx hZ e321 Ar324 (j := (3 : Int32)) hin324 (g := (mkF m 31 #[.val (.ref ua), .val (.int (3 : Int32)), .val (.ref ub), .val (.int (3 : Int32)), .val (.int (7 : Int32)), .val (.int (3 : Int32)), .val (.int c3_)] [(.int (c3_.toInt8.toInt32)), (.int (3 : Int32)), (.ref ub)])) rfl rfl (hb hby d_j52_21_31)
          refine own_go st325 ?_
          rw [show nar .byte (c3_.toInt8.toInt32) = (c3_.toInt8.toInt32) from own_b8 _] at W325
          have V325 : Arv Z h325 ub kb .byte (7 : Int32) [(.int (c0_.toInt8.toInt32)), (.int (c1_.toInt8.toInt32)), (.int (c2_.toInt8.toInt32)), (.int (c3_.toInt8.toInt32)), (.int (0 : Int32)), (.int (0 : Int32)), (.int (0 : Int32))] (.int (0 : Int32)) := Arv.set Ar324 qk324 sz324 nn324 ha324 gf324 (fits_nar_byte _) W325 3 rfl (Nat.le_of_ble_eq_true rfl)
          have Z325 : n0 ≤ h325.size := (Nat.le_trans Z321 (Nat.le_of_eq W325.size.symm))
          have N325 := Fr.snoc X325 N321 q0
          have K325 : Keep h0 h325 [ub] := K321.wr W325 (Or.inl (List.mem_of_getElem? (i := 0) rfl))
          refine own_go (fun t k => XS.iinc X325.here hx rfl (hb hby d_j52_21_32) rfl (l' := #[.val (.ref ua), .val (.int ((3 : Int32) + (1 : Int32))), .val (.ref ub), .val (.int (3 : Int32)), .val (.int (7 : Int32)), .val (.int (3 : Int32)), .val (.int c3_)]) rfl k) ?_
          refine own_go (fun t k => XS.iinc X325.here hx rfl (hb hby d_j52_21_35) rfl (l' := #[.val (.ref ua), .val (.int (4 : Int32)), .val (.ref ub), .val (.int ((3 : Int32) + (1 : Int32))), .val (.int (7 : Int32)), .val (.int (3 : Int32)), .val (.int c3_)]) rfl k) ?_
          refine own_go (fun t k => XS.iinc X325.here hx rfl (hb hby d_j52_21_38) rfl (l' := #[.val (.ref ua), .val (.int (4 : Int32)), .val (.ref ub), .val (.int (4 : Int32)), .val (.int (7 : Int32)), .val (.int ((3 : Int32) + (1 : Int32))), .val (.int c3_)]) rfl k) ?_
          show own_Go _ _ _ _ (T325.setTop (mkF m 41 #[.val (.ref ua), .val (.int (4 : Int32)), .val (.ref ub), .val (.int (4 : Int32)), .val (.int (7 : Int32)), .val (.int (4 : Int32)), .val (.int c3_)] []))
          refine own_go (fun t k => XS.goto X325.here hx rfl (pc0 := 41) (pc' := 3) rfl (hb hby d_j52_21_41) (by decide) (by decide) k) ?_
          refine own_go (fun t k => XS.iload X325.here hx rfl (hb hby d_j52_21_3) rfl k) ?_
          refine own_go (fun t k => XS.iload X325.here hx rfl (hb hby d_j52_21_5) rfl k) ?_
          show own_Go _ _ _ _ (T325.setTop (mkF m 7 #[.val (.ref ua), .val (.int (4 : Int32)), .val (.ref ub), .val (.int (4 : Int32)), .val (.int (7 : Int32)), .val (.int (4 : Int32)), .val (.int c3_)] [(.int (7 : Int32)), (.int (4 : Int32))]))
          refine own_go (fun t k => XS.icmpNo X325.here hx rfl (hb hby d_j52_21_7) rfl (tlt (by decide : (4 : Int32) < (7 : Int32))).2.1 k) ?_
          refine own_go (fun t k => XS.aloadN X325.here hx rfl (hb hby d_j52_21_10) rfl rfl k) ?_
          refine own_go (fun t k => XS.iloadN X325.here hx rfl (hb hby d_j52_21_11) rfl k) ?_
          show own_Go _ _ _ _ (T325.setTop (mkF m 12 #[.val (.ref ua), .val (.int (4 : Int32)), .val (.ref ub), .val (.int (4 : Int32)), .val (.int (7 : Int32)), .val (.int (4 : Int32)), .val (.int c3_)] [(.int (4 : Int32)), (.ref ua)]))
          have f326 := ((((Ac.other W313 nq).other W317 nq).other W321 nq).other W325 nq)
          obtain ⟨cl327, Ar327, qk327, sz327, nn327, ha327, gf327⟩ := id f326
          have hin327 : ¬ ((4 : Int32) < 0 ∨ cl327.slots.size ≤ ((4 : Int32)).toNatClampNeg) := inb_of sz327 ⟨by decide, by decide⟩
          have hat327 : cl327.slots[((4 : Int32)).toNatClampNeg]? = some (.int c4_) := ha327.at hin327 rfl
          refine own_go (X325.caload hx (j := (4 : Int32)) (v := (.int c4_)) (by rw [e325]; exact Ar327.1) (State.isArrayOf_alike hZ.alike Ar327.2.1) Ar327.2.2 hin327 hat327 (g := (mkF m 12 #[.val (.ref ua), .val (.int (4 : Int32)), .val (.ref ub), .val (.int (4 : Int32)), .val (.int (7 : Int32)), .val (.int (4 : Int32)), .val (.int c3_)] [(.int (4 : Int32)), (.ref ua)])) rfl rfl (hb hby d_j52_21_12)) ?_
          refine own_go (fun t k => XS.istore X325.here hx rfl (hb hby d_j52_21_13) rfl (l' := #[.val (.ref ua), .val (.int (4 : Int32)), .val (.ref ub), .val (.int (4 : Int32)), .val (.int (7 : Int32)), .val (.int (4 : Int32)), .val (.int c4_)]) rfl k) ?_
          refine own_go (fun t k => XS.iload X325.here hx rfl (hb hby d_j52_21_15) rfl k) ?_
          refine own_go (fun t k => XS.sipush X325.here hx rfl (hb hby d_j52_21_17) k) ?_
          by_cases hc328 : (255 : Int32) < c4_
          · show own_Go _ _ _ _ (T325.setTop (mkF m 20 #[.val (.ref ua), .val (.int (4 : Int32)), .val (.ref ub), .val (.int (4 : Int32)), .val (.int (7 : Int32)), .val (.int (4 : Int32)), .val (.int c4_)] [(.int (255 : Int32)), (.int c4_)]))
            refine own_go (fun t k => XS.icmpNo X325.here hx rfl (hb hby d_j52_21_20) rfl (tlt hc328).2.2.2 k) ?_
            refine own_go (fun t k => XS.iload X325.here hx rfl (hb hby d_j52_21_23) rfl k) ?_
            show own_Go _ _ _ _ (T325.setTop (mkF m 25 #[.val (.ref ua), .val (.int (4 : Int32)), .val (.ref ub), .val (.int (4 : Int32)), .val (.int (7 : Int32)), .val (.int (4 : Int32)), .val (.int c4_)] [(.int (4 : Int32))]))
            refine own_ret X325 hx hlk hret rfl (Or.inl ⟨rfl, Or.inl rfl, _, rfl⟩) (hb hby d_j52_21_25) ?_ (by decide) (by decide)
            rw [e325]
            exact ⟨(4 : Int32), rfl, N325, K325, (Or.inr (Or.inr (Or.inr (Or.inr (Or.inl ⟨rfl, hc328⟩)))))⟩
          · show own_Go _ _ _ _ (T325.setTop (mkF m 20 #[.val (.ref ua), .val (.int (4 : Int32)), .val (.ref ub), .val (.int (4 : Int32)), .val (.int (7 : Int32)), .val (.int (4 : Int32)), .val (.int c4_)] [(.int (255 : Int32)), (.int c4_)]))
            refine own_go (fun t k => XS.icmpYes X325.here hx rfl (pc0 := 20) (pc' := 26) rfl (hb hby d_j52_21_20) rfl (flt hc328).2.2.2 (by decide) (by decide) k) ?_
            refine own_go (fun t k => XS.aloadN X325.here hx rfl (hb hby d_j52_21_26) rfl rfl k) ?_
            refine own_go (fun t k => XS.iloadN X325.here hx rfl (hb hby d_j52_21_27) rfl k) ?_
            refine own_go (fun t k => XS.iload X325.here hx rfl (hb hby d_j52_21_28) rfl k) ?_
            show own_Go _ _ _ _ (T325.setTop (mkF m 30 #[.val (.ref ua), .val (.int (4 : Int32)), .val (.ref ub), .val (.int (4 : Int32)), .val (.int (7 : Int32)), .val (.int (4 : Int32)), .val (.int c4_)] [(.int c4_), (.int (4 : Int32)), (.ref ub)]))
            refine own_go (fun t k => XS.i2b X325.here hx rfl (hb hby d_j52_21_30) rfl k) ?_
            show own_Go _ _ _ _ (T325.setTop (mkF m 31 #[.val (.ref ua), .val (.int (4 : Int32)), .val (.ref ub), .val (.int (4 : Int32)), .val (.int (7 : Int32)), .val (.int (4 : Int32)), .val (.int c4_)] [(.int (c4_.toInt8.toInt32)), (.int (4 : Int32)), (.ref ub)]))
            obtain ⟨cl329, Ar329, qk329, sz329, nn329, ha329, gf329⟩ := id V325
            have hin329 : ¬ ((4 : Int32) < 0 ∨ cl329.slots.size ≤ ((4 : Int32)).toNatClampNeg) := inb_of sz329 ⟨by decide, by decide⟩
            obtain ⟨T330, h330, X330, e330, W330, st330⟩ := stB X325 hx hZ e325 Ar329 (j := (4 : Int32)) hin329 (g := (mkF m 31 #[.val (.ref ua), .val (.int (4 : Int32)), .val (.ref ub), .val (.int (4 : Int32)), .val (.int (7 : Int32)), .val (.int (4 : Int32)), .val (.int c4_)] [(.int (c4_.toInt8.toInt32)), (.int (4 : Int32)), (.ref ub)])) rfl rfl (hb hby d_j52_21_31)
            refine own_go st330 ?_
            rw [show nar .byte (c4_.toInt8.toInt32) = (c4_.toInt8.toInt32) from own_b8 _] at W330
            have V330 : Arv Z h330 ub kb .byte (7 : Int32) [(.int (c0_.toInt8.toInt32)), (.int (c1_.toInt8.toInt32)), (.int (c2_.toInt8.toInt32)), (.int (c3_.toInt8.toInt32)), (.int (c4_.toInt8.toInt32)), (.int (0 : Int32)), (.int (0 : Int32))] (.int (0 : Int32)) := Arv.set Ar329 qk329 sz329 nn329 ha329 gf329 (fits_nar_byte _) W330 4 rfl (Nat.le_of_ble_eq_true rfl)
            have Z330 : n0 ≤ h330.size := (Nat.le_trans Z325 (Nat.le_of_eq W330.size.symm))
            have N330 := Fr.snoc X330 N325 q0
            have K330 : Keep h0 h330 [ub] := K325.wr W330 (Or.inl (List.mem_of_getElem? (i := 0) rfl))
            refine own_go (fun t k => XS.iinc X330.here hx rfl (hb hby d_j52_21_32) rfl (l' := #[.val (.ref ua), .val (.int ((4 : Int32) + (1 : Int32))), .val (.ref ub), .val (.int (4 : Int32)), .val (.int (7 : Int32)), .val (.int (4 : Int32)), .val (.int c4_)]) rfl k) ?_
            refine own_go (fun t k => XS.iinc X330.here hx rfl (hb hby d_j52_21_35) rfl (l' := #[.val (.ref ua), .val (.int (5 : Int32)), .val (.ref ub), .val (.int ((4 : Int32) + (1 : Int32))), .val (.int (7 : Int32)), .val (.int (4 : Int32)), .val (.int c4_)]) rfl k) ?_
            refine own_go (fun t k => XS.iinc X330.here hx rfl (hb hby d_j52_21_38) rfl (l' := #[.val (.ref ua), .val (.int (5 : Int32)), .val (.ref ub), .val (.int (5 : Int32)), .val (.int (7 : Int32)), .val (.int ((4 : Int32) + (1 : Int32))), .val (.int c4_)]) rfl k) ?_
            show own_Go _ _ _ _ (T330.setTop (mkF m 41 #[.val (.ref ua), .val (.int (5 : Int32)), .val (.ref ub), .val (.int (5 : Int32)), .val (.int (7 : Int32)), .val (.int (5 : Int32)), .val (.int c4_)] []))
            refine own_go (fun t k => XS.goto X330.here hx rfl (pc0 := 41) (pc' := 3) rfl (hb hby d_j52_21_41) (by decide) (by decide) k) ?_
            refine own_go (fun t k => XS.iload X330.here hx rfl (hb hby d_j52_21_3) rfl k) ?_
            refine own_go (fun t k => XS.iload X330.here hx rfl (hb hby d_j52_21_5) rfl k) ?_
            show own_Go _ _ _ _ (T330.setTop (mkF m 7 #[.val (.ref ua), .val (.int (5 : Int32)), .val (.ref ub), .val (.int (5 : Int32)), .val (.int (7 : Int32)), .val (.int (5 : Int32)), .val (.int c4_)] [(.int (7 : Int32)), (.int (5 : Int32))]))
            refine own_go (fun t k => XS.icmpNo X330.here hx rfl (hb hby d_j52_21_7) rfl (tlt (by decide : (5 : Int32) < (7 : Int32))).2.1 k) ?_
            refine own_go (fun t k => XS.aloadN X330.here hx rfl (hb hby d_j52_21_10) rfl rfl k) ?_
            refine own_go (fun t k => XS.iloadN X330.here hx rfl (hb hby d_j52_21_11) rfl k) ?_
            show own_Go _ _ _ _ (T330.setTop (mkF m 12 #[.val (.ref ua), .val (.int (5 : Int32)), .val (.ref ub), .val (.int (5 : Int32)), .val (.int (7 : Int32)), .val (.int (5 : Int32)), .val (.int c4_)] [(.int (5 : Int32)), (.ref ua)]))
            obtain ⟨cl331, Ar331, qk331, sz331, nn331, ha331, gf331⟩ := id (f326.other W330 nq)
            have hin331 : ¬ ((5 : Int32) < 0 ∨ cl331.slots.size ≤ ((5 : Int32)).toNatClampNeg) := inb_of sz331 ⟨by decide, by decide⟩
            have hat331 : cl331.slots[((5 : Int32)).toNatClampNeg]? = some (.int c5_) := ha331.at hin331 rfl
            refine own_go (X330.caload hx (j := (5 : Int32)) (v := (.int c5_)) (by rw [e330]; exact Ar331.1) (State.isArrayOf_alike hZ.alike Ar331.2.1) Ar331.2.2 hin331 hat331 (g := (mkF m 12 #[.val (.ref ua), .val (.int (5 : Int32)), .val (.ref ub), .val (.int (5 : Int32)), .val (.int (7 : Int32)), .val (.int (5 : Int32)), .val (.int c4_)] [(.int (5 : Int32)), (.ref ua)])) rfl rfl (hb hby d_j52_21_12)) ?_
            refine own_go (fun t k => XS.istore X330.here hx rfl (hb hby d_j52_21_13) rfl (l' := #[.val (.ref ua), .val (.int (5 : Int32)), .val (.ref ub), .val (.int (5 : Int32)), .val (.int (7 : Int32)), .val (.int (5 : Int32)), .val (.int c5_)]) rfl k) ?_
            refine own_go (fun t k => XS.iload X330.here hx rfl (hb hby d_j52_21_15) rfl k) ?_
            refine own_go (fun t k => XS.sipush X330.here hx rfl (hb hby d_j52_21_17) k) ?_
            by_cases hc332 : (255 : Int32) < c5_
            · show own_Go _ _ _ _ (T330.setTop (mkF m 20 #[.val (.ref ua), .val (.int (5 : Int32)), .val (.ref ub), .val (.int (5 : Int32)), .val (.int (7 : Int32)), .val (.int (5 : Int32)), .val (.int c5_)] [(.int (255 : Int32)), (.int c5_)]))
              refine own_go (fun t k => XS.icmpNo X330.here hx rfl (hb hby d_j52_21_20) rfl (tlt hc332).2.2.2 k) ?_
              refine own_go (fun t k => XS.iload X330.here hx rfl (hb hby d_j52_21_23) rfl k) ?_
              show own_Go _ _ _ _ (T330.setTop (mkF m 25 #[.val (.ref ua), .val (.int (5 : Int32)), .val (.ref ub), .val (.int (5 : Int32)), .val (.int (7 : Int32)), .val (.int (5 : Int32)), .val (.int c5_)] [(.int (5 : Int32))]))
              refine own_ret X330 hx hlk hret rfl (Or.inl ⟨rfl, Or.inl rfl, _, rfl⟩) (hb hby d_j52_21_25) ?_ (by decide) (by decide)
              rw [e330]
              exact ⟨(5 : Int32), rfl, N330, K330, (Or.inr (Or.inr (Or.inr (Or.inr (Or.inr (Or.inl ⟨rfl, hc332⟩))))))⟩
            · show own_Go _ _ _ _ (T330.setTop (mkF m 20 #[.val (.ref ua), .val (.int (5 : Int32)), .val (.ref ub), .val (.int (5 : Int32)), .val (.int (7 : Int32)), .val (.int (5 : Int32)), .val (.int c5_)] [(.int (255 : Int32)), (.int c5_)]))
              refine own_go (fun t k => XS.icmpYes X330.here hx rfl (pc0 := 20) (pc' := 26) rfl (hb hby d_j52_21_20) rfl (flt hc332).2.2.2 (by decide) (by decide) k) ?_
              refine own_go (fun t k => XS.aloadN X330.here hx rfl (hb hby d_j52_21_26) rfl rfl k) ?_
              refine own_go (fun t k => XS.iloadN X330.here hx rfl (hb hby d_j52_21_27) rfl k) ?_
              refine own_go (fun t k => XS.iload X330.here hx rfl (hb hby d_j52_21_28) rfl k) ?_
              show own_Go _ _ _ _ (T330.setTop (mkF m 30 #[.val (.ref ua), .val (.int (5 : Int32)), .val (.ref ub), .val (.int (5 : Int32)), .val (.int (7 : Int32)), .val (.int (5 : Int32)), .val (.int c5_)] [(.int c5_), (.int (5 : Int32)), (.ref ub)]))
              refine own_go (fun t k => XS.i2b X330.here hx rfl (hb hby d_j52_21_30) rfl k) ?_
              show own_Go _ _ _ _ (T330.setTop (mkF m 31 #[.val (.ref ua), .val (.int (5 : Int32)), .val (.ref ub), .val (.int (5 : Int32)), .val (.int (7 : Int32)), .val (.int (5 : Int32)), .val (.int c5_)] [(.int (c5_.toInt8.toInt32)), (.int (5 : Int32)), (.ref ub)]))
              obtain ⟨cl333, Ar333, qk333, sz333, nn333, ha333, gf333⟩ := id V330
              have hin333 : ¬ ((5 : Int32) < 0 ∨ cl333.slots.size ≤ ((5 : Int32)).toNatClampNeg) := inb_of sz333 ⟨by decide, by decide⟩
              obtain ⟨T334, h334, X334, e334, W334, st334⟩ := stB X330 hx hZ e330 Ar333 (j := (5 : Int32)) hin333 (g := (mkF m 31 #[.val (.ref ua), .val (.int (5 : Int32)), .val (.ref ub), .val (.int (5 : Int32)), .val (.int (7 : Int32)), .val (.int (5 : Int32)), .val (.int c5_)] [(.int (c5_.toInt8.toInt32)), (.int (5 : Int32)), (.ref ub)])) rfl rfl (hb hby d_j52_21_31)
              refine own_go st334 ?_
              rw [show nar .byte (c5_.toInt8.toInt32) = (c5_.toInt8.toInt32) from own_b8 _] at W334
              have V334 : Arv Z h334 ub kb .byte (7 : Int32) [(.int (c0_.toInt8.toInt32)), (.int (c1_.toInt8.toInt32)), (.int (c2_.toInt8.toInt32)), (.int (c3_.toInt8.toInt32)), (.int (c4_.toInt8.toInt32)), (.int (c5_.toInt8.toInt32)), (.int (0 : Int32))] (.int (0 : Int32)) := Arv.set Ar333 qk333 sz333 nn333 ha333 gf333 (fits_nar_byte _) W334 5 rfl (Nat.le_of_ble_eq_true rfl)
              have Z334 : n0 ≤ h334.size := (Nat.le_trans Z330 (Nat.le_of_eq W334.size.symm))
              have N334 := Fr.snoc X334 N330 q0
              have K334 : Keep h0 h334 [ub] := K330.wr W334 (Or.inl (List.mem_of_getElem? (i := 0) rfl))
              refine own_go (fun t k => XS.iinc X334.here hx rfl (hb hby d_j52_21_32) rfl (l' := #[.val (.ref ua), .val (.int ((5 : Int32) + (1 : Int32))), .val (.ref ub), .val (.int (5 : Int32)), .val (.int (7 : Int32)), .val (.int (5 : Int32)), .val (.int c5_)]) rfl k) ?_
              refine own_go (fun t k => XS.iinc X334.here hx rfl (hb hby d_j52_21_35) rfl (l' := #[.val (.ref ua), .val (.int (6 : Int32)), .val (.ref ub), .val (.int ((5 : Int32) + (1 : Int32))), .val (.int (7 : Int32)), .val (.int (5 : Int32)), .val (.int c5_)]) rfl k) ?_
              refine own_go (fun t k => XS.iinc X334.here hx rfl (hb hby d_j52_21_38) rfl (l' := #[.val (.ref ua), .val (.int (6 : Int32)), .val (.ref ub), .val (.int (6 : Int32)), .val (.int (7 : Int32)), .val (.int ((5 : Int32) + (1 : Int32))), .val (.int c5_)]) rfl k) ?_
              show own_Go _ _ _ _ (T334.setTop (mkF m 41 #[.val (.ref ua), .val (.int (6 : Int32)), .val (.ref ub), .val (.int (6 : Int32)), .val (.int (7 : Int32)), .val (.int (6 : Int32)), .val (.int c5_)] []))
              refine own_go (fun t k => XS.goto X334.here hx rfl (pc0 := 41) (pc' := 3) rfl (hb hby d_j52_21_41) (by decide) (by decide) k) ?_
              refine own_go (fun t k => XS.iload X334.here hx rfl (hb hby d_j52_21_3) rfl k) ?_
              refine own_go (fun t k => XS.iload X334.here hx rfl (hb hby d_j52_21_5) rfl k) ?_
              show own_Go _ _ _ _ (T334.setTop (mkF m 7 #[.val (.ref ua), .val (.int (6 : Int32)), .val (.ref ub), .val (.int (6 : Int32)), .val (.int (7 : Int32)), .val (.int (6 : Int32)), .val (.int c5_)] [(.int (7 : Int32)), (.int (6 : Int32))]))
              refine own_go (fun t k => XS.icmpNo X334.here hx rfl (hb hby d_j52_21_7) rfl (tlt (by decide : (6 : Int32) < (7 : Int32))).2.1 k) ?_
              refine own_go (fun t k => XS.aloadN X334.here hx rfl (hb hby d_j52_21_10) rfl rfl k) ?_
              refine own_go (fun t k => XS.iloadN X334.here hx rfl (hb hby d_j52_21_11) rfl k) ?_
              show own_Go _ _ _ _ (T334.setTop (mkF m 12 #[.val (.ref ua), .val (.int (6 : Int32)), .val (.ref ub), .val (.int (6 : Int32)), .val (.int (7 : Int32)), .val (.int (6 : Int32)), .val (.int c5_)] [(.int (6 : Int32)), (.ref ua)]))
              obtain ⟨cl335, Ar335, qk335, sz335, nn335, ha335, gf335⟩ := id ((f326.other W330 nq).other W334 nq)
              have hin335 : ¬ ((6 : Int32) < 0 ∨ cl335.slots.size ≤ ((6 : Int32)).toNatClampNeg) := inb_of sz335 ⟨by decide, by decide⟩
              have hat335 : cl335.slots[((6 : Int32)).toNatClampNeg]? = some (.int (256 : Int32)) := ha335.at hin335 rfl
              refine own_go (X334.caload hx (j := (6 : Int32)) (v := (.int (256 : Int32))) (by rw [e334]; exact Ar335.1) (State.isArrayOf_alike hZ.alike Ar335.2.1) Ar335.2.2 hin335 hat335 (g := (mkF m 12 #[.val (.ref ua), .val (.int (6 : Int32)), .val (.ref ub), .val (.int (6 : Int32)), .val (.int (7 : Int32)), .val (.int (6 : Int32)), .val (.int c5_)] [(.int (6 : Int32)), (.ref ua)])) rfl rfl (hb hby d_j52_21_12)) ?_
              refine own_go (fun t k => XS.istore X334.here hx rfl (hb hby d_j52_21_13) rfl (l' := #[.val (.ref ua), .val (.int (6 : Int32)), .val (.ref ub), .val (.int (6 : Int32)), .val (.int (7 : Int32)), .val (.int (6 : Int32)), .val (.int (256 : Int32))]) rfl k) ?_
              refine own_go (fun t k => XS.iload X334.here hx rfl (hb hby d_j52_21_15) rfl k) ?_
              refine own_go (fun t k => XS.sipush X334.here hx rfl (hb hby d_j52_21_17) k) ?_
              show own_Go _ _ _ _ (T334.setTop (mkF m 20 #[.val (.ref ua), .val (.int (6 : Int32)), .val (.ref ub), .val (.int (6 : Int32)), .val (.int (7 : Int32)), .val (.int (6 : Int32)), .val (.int (256 : Int32))] [(.int (255 : Int32)), (.int (256 : Int32))]))
              refine own_go (fun t k => XS.icmpNo X334.here hx rfl (hb hby d_j52_21_20) rfl (tlt (by decide : (255 : Int32) < (256 : Int32))).2.2.2 k) ?_
              refine own_go (fun t k => XS.iload X334.here hx rfl (hb hby d_j52_21_23) rfl k) ?_
              show own_Go _ _ _ _ (T334.setTop (mkF m 25 #[.val (.ref ua), .val (.int (6 : Int32)), .val (.ref ub), .val (.int (6 : Int32)), .val (.int (7 : Int32)), .val (.int (6 : Int32)), .val (.int (256 : Int32))] [(.int (6 : Int32))]))
              refine own_ret X334 hx hlk hret rfl (Or.inl ⟨rfl, Or.inl rfl, _, rfl⟩) (hb hby d_j52_21_25) ?_ (by decide) (by decide)
              rw [e334]
              exact ⟨(6 : Int32), rfl, N334, K334, (Or.inr (Or.inr (Or.inr (Or.inr (Or.inr (Or.inr ⟨rfl, (by decide)⟩))))))⟩
def Q_k3_7 (Z : State) (ua : Addr) (ka : ClassId) (c0_ : Int32) (c1_ : Int32) (c2_ : Int32) (c3_ : Int32) (c4_ : Int32) (c5_ : Int32) (zv : Int32) (gv : Value) (h0 : Heap) (n0 : Nat) (v : Option Value) (h : Heap) (L : List Loc) : Prop := ∃ (uy : Addr) (ky : ClassId), v = some (.ref uy) ∧ Fr n0 L ∧ Keep h0 h [] ∧ h0.size ≤ uy ∧ n0 ≤ uy ∧ Arv Z h uy ky .byte (14 : Int32) [(.int ((c0_ >>> ((0 : Int32) &&& 31)).toInt8.toInt32)), (.int ((c0_ >>> ((8 : Int32) &&& 31)).toInt8.toInt32)), (.int ((c1_ >>> ((0 : Int32) &&& 31)).toInt8.toInt32)), (.int ((c1_ >>> ((8 : Int32) &&& 31)).toInt8.toInt32)), (.int ((c2_ >>> ((0 : Int32) &&& 31)).toInt8.toInt32)), (.int ((c2_ >>> ((8 : Int32) &&& 31)).toInt8.toInt32)), (.int ((c3_ >>> ((0 : Int32) &&& 31)).toInt8.toInt32)), (.int ((c3_ >>> ((8 : Int32) &&& 31)).toInt8.toInt32)), (.int ((c4_ >>> ((0 : Int32) &&& 31)).toInt8.toInt32)), (.int ((c4_ >>> ((8 : Int32) &&& 31)).toInt8.toInt32)), (.int ((c5_ >>> ((0 : Int32) &&& 31)).toInt8.toInt32)), (.int ((c5_ >>> ((8 : Int32) &&& 31)).toInt8.toInt32)), (.int (((256 : Int32) >>> ((0 : Int32) &&& 31)).toInt8.toInt32)), (.int (((256 : Int32) >>> ((8 : Int32) &&& 31)).toInt8.toInt32))] (.int (0 : Int32))
theorem ef_k3_7 (m : MethodId) (ua : Addr) : entryFrame m #[(.ref ua), (.int (0 : Int32)), (.int (7 : Int32))] 6 = mkF m 0 #[.val (.ref ua), .val (.int (0 : Int32)), .val (.int (7 : Int32)), .unset, .unset, .unset] [] := by first | (simp [entryFrame, mkF, argsToLocals, Value.category]; done) | rfl
set_option maxRecDepth 65536 in
set_option maxHeartbeats 40000000 in
theorem rm_k3_7 (l : Launch) (Z : State) (a0 : Array Value) (hw : ∀ d ∈ tables_1, d.before a0 Z = true) (ws : List Jvm.Cond) (ua : Addr) (ka : ClassId) (c0_ c1_ c2_ c3_ c4_ c5_ zv : Int32) (gv : Value) (h0 : Heap) (n0 : Nat) (Z0 : n0 ≤ h0.size) (Ac : Arv Z h0 ua ka .char (7 : Int32) [(.int c0_), (.int c1_), (.int c2_), (.int c3_), (.int c4_), (.int c5_), (.int (256 : Int32))] (.int (0 : Int32))) (B0 : own_B9 c0_) (B1 : own_B9 c1_) (B2 : own_B9 c2_) (B3 : own_B9 c3_) (B4 : own_B9 c4_) (B5 : own_B9 c5_) (O0 : Old Z n0 h0) (hzv : ¬ zv = (0 : Int32)) (S0 : Sta Z Z.heap "java/lang/String" "COMPACT_STRINGS" "Z" (.int zv)) (rgv : gv.isRef = true) (G0 : Sta Z Z.heap "jdk/internal/util/Preconditions" "SIOOBE_FORMATTER" "Ljava/util/function/BiFunction;" gv) (Sa : Sta Z Z.heap "java/lang/StringUTF16" "$assertionsDisabled" "Z" (.int (1 : Int32))) (Sh : Sta Z Z.heap "java/lang/StringUTF16" "HI_BYTE_SHIFT" "I" (.int (0 : Int32))) (Sl : Sta Z Z.heap "java/lang/StringUTF16" "LO_BYTE_SHIFT" "I" (.int (8 : Int32))) :
    own_Met l Z (⟨"java/lang/StringUTF16", "compress", "([CII)[B"⟩ : MethodName) jdk_52_method_16_code 6 (some (.array .byte)) ws ({ frames := 3, cells := 2, slots := 21, locals := 40 } : Room) #[(.ref ua), (.int (0 : Int32)), (.int (7 : Int32))] h0 (Q_k3_7 Z ua ka c0_ c1_ c2_ c3_ c4_ c5_ zv gv h0 n0) := by
  refine own_enter (own := "java/lang/StringUTF16") (plainFor_of_name pn_4) rfl ?_
  intro p e s m below meth c s₁ hlk hret hx hby hml hown hnm hZ X0 e0
  have N0 := Fr.nil n0
  refine own_cast (ef_k3_7 m ua) ?_
  show own_Go _ _ _ _ (s₁.setTop (mkF m 0 #[.val (.ref ua), .val (.int (0 : Int32)), .val (.int (7 : Int32)), .unset, .unset, .unset] []))
  refine own_go (fun t k => XS.iloadN X0.here hx rfl (hb hby d_j52_16_0) rfl k) ?_
  show own_Go _ _ _ _ (s₁.setTop (mkF m 1 #[.val (.ref ua), .val (.int (0 : Int32)), .val (.int (7 : Int32)), .unset, .unset, .unset] [(.int (7 : Int32))]))
  obtain ⟨T336, h336, k336, X336, e336, E336, A336, st336⟩ := newP (aty := .byte) X0 hx hZ (w_26 hw) e0 (n := (7 : Int32)) (rest := []) (g := (mkF m 1 #[.val (.ref ua), .val (.int (0 : Int32)), .val (.int (7 : Int32)), .unset, .unset, .unset] [(.int (7 : Int32))])) rfl (hb hby d_j52_16_1) rfl (by decide) (cap := 7) (by decide) (by decide) (by decide) (by decide)
  obtain ⟨b336, g336⟩ : ∃ z, z = h0.size := ⟨_, rfl⟩
  rw [← g336] at A336 st336
  refine own_go st336 ?_
  have Z336 : n0 ≤ h336.size := (Nat.le_trans Z0 E336.1)
  have K336 : Keep h0 h336 [] := (Keep.refl h0 []).ext E336
  have lo336 : h0.size ≤ b336 := Nat.le_of_eq g336.symm
  have q336 : n0 ≤ b336 := Nat.le_trans Z0 lo336
  have hi336 : b336 < h336.size := A336.lt
  have V336 : Arv Z h336 b336 k336 .byte (7 : Int32) [(.int (0 : Int32)), (.int (0 : Int32)), (.int (0 : Int32)), (.int (0 : Int32)), (.int (0 : Int32)), (.int (0 : Int32)), (.int (0 : Int32))] (.int (0 : Int32)) := (Arv.new A336 (by decide)).pad (pad_rep [] (.int (0 : Int32)) 7)
  refine own_go (fun t k => XS.astoreN X336.here hx rfl (hb hby d_j52_16_3) rfl rfl (l' := #[.val (.ref ua), .val (.int (0 : Int32)), .val (.int (7 : Int32)), .val (.ref b336), .unset, .unset]) rfl k) ?_
  refine own_go (fun t k => XS.aloadN X336.here hx rfl (hb hby d_j52_16_4) rfl rfl k) ?_
  refine own_go (fun t k => XS.iloadN X336.here hx rfl (hb hby d_j52_16_5) rfl k) ?_
  show own_Go _ _ _ _ (T336.setTop (mkF m 6 #[.val (.ref ua), .val (.int (0 : Int32)), .val (.int (7 : Int32)), .val (.ref b336), .unset, .unset] [(.int (0 : Int32)), (.ref ua)]))
  refine own_go (fun t k => XS.aloadN X336.here hx rfl (hb hby d_j52_16_6) rfl rfl k) ?_
  refine own_go (fun t k => XS.iconst X336.here hx rfl (hb hby d_j52_16_7) k) ?_
  refine own_go (fun t k => XS.iloadN X336.here hx rfl (hb hby d_j52_16_8) rfl k) ?_
  obtain ⟨_, _, ⟨T337, L337, k337, n337⟩, -, X337, ⟨Lc337, hQ337, l337, y337, z337⟩, st337⟩ := Jvm.LawKit.callS X336 hx (y := (⟨"java/lang/StringUTF16", "compress", "([CI[BII)I"⟩ : MethodName)) hown (mvT hZ (w_27 hw)) (mvT hZ (w_28 hw)) (mvT hZ (w_24 hw)) (mvT hZ (w_29 hw)) (by decide) (backOf (W := 0) (rm_k5_7 l Z a0 hw [] ua ka b336 k336 c0_ c1_ c2_ c3_ c4_ c5_ zv gv h336 n0 Z336 (Ac.ext E336) q336 V336 (Nat.ne_of_lt (Nat.lt_of_lt_of_le Ac.lt lo336)) B0 B1 B2 B3 B4 B5 (O0.ext E336) hzv S0 rgv G0 Sa Sh Sl) hZ (w_29 hw) (w_24 hw) (by decide) (by decide)) (g := (mkF m 9 #[.val (.ref ua), .val (.int (0 : Int32)), .val (.int (7 : Int32)), .val (.ref b336), .unset, .unset] [(.int (7 : Int32)), (.int (0 : Int32)), (.ref b336), (.int (0 : Int32)), (.ref ua)])) rfl (by rw [hml]; rfl) (argsL := [(.ref ua), (.int (0 : Int32)), (.ref b336), (.int (0 : Int32)), (.int (7 : Int32))]) (rest := []) (lenOf pd_14 rfl) rfl (by show 2 * 0 + _ ≤ _; exact Nat.le_of_eq rfl) (hb hby d_j52_16_9) (fun _ _ => ⟨rfl, e336, (by decide : 1 + 0 ≤ _), (by decide : 7 + 0 ≤ _)⟩)
  dsimp only [Pt.U, Pt.locs, Pt.cells, Pt.slots] at X337 l337 y337 z337 st337 hQ337
  subst l337 y337 z337
  generalize e337 : T337.heap = h337 at hQ337
  obtain ⟨kv, rfl, N337q, K337q, hF⟩ := hQ337
  have N337 := Fr.app N0 N337q
  refine own_go st337 ?_
  have Z337 : n0 ≤ h337.size := (Nat.le_trans Z336 K337q.1)
  have K337 : Keep h0 h337 [] := K336.trans K337q (allS (Or.inr lo336) all0)
  show own_Go _ _ _ _ (T337.setTop (mkF m 12 #[.val (.ref ua), .val (.int (0 : Int32)), .val (.int (7 : Int32)), .val (.ref b336), .unset, .unset] [(.int kv)]))
  refine own_go (fun t k => XS.istore X337.here hx rfl (hb hby d_j52_16_12) rfl (l' := #[.val (.ref ua), .val (.int (0 : Int32)), .val (.int (7 : Int32)), .val (.ref b336), .val (.int kv), .unset]) rfl k) ?_
  refine own_go (fun t k => XS.iload X337.here hx rfl (hb hby d_j52_16_14) rfl k) ?_
  refine own_go (fun t k => XS.iloadN X337.here hx rfl (hb hby d_j52_16_16) rfl k) ?_
  show own_Go _ _ _ _ (T337.setTop (mkF m 17 #[.val (.ref ua), .val (.int (0 : Int32)), .val (.int (7 : Int32)), .val (.ref b336), .val (.int kv), .unset] [(.int (7 : Int32)), (.int kv)]))
  refine own_go (fun t k => XS.icmpNo X337.here hx rfl (hb hby d_j52_16_17) rfl (feq (by rcases hF with ⟨rfl, -⟩ | ⟨rfl, -⟩ | ⟨rfl, -⟩ | ⟨rfl, -⟩ | ⟨rfl, -⟩ | ⟨rfl, -⟩ | ⟨rfl, -⟩ <;> decide : ¬ kv = (7 : Int32))).1 k) ?_
  refine own_go (fun t k => XS.aloadN X337.here hx rfl (hb hby d_j52_16_20) rfl rfl k) ?_
  refine own_go (fun t k => XS.iloadN X337.here hx rfl (hb hby d_j52_16_21) rfl k) ?_
  refine own_go (fun t k => XS.iloadN X337.here hx rfl (hb hby d_j52_16_22) rfl k) ?_
  have f338 := ((Ac.ext E336).keep K337q (ninS (Nat.ne_of_lt (Nat.lt_of_lt_of_le Ac.lt lo336)) nin0))
  show own_Go _ _ _ _ (T337.setTop (mkF m 23 #[.val (.ref ua), .val (.int (0 : Int32)), .val (.int (7 : Int32)), .val (.ref b336), .val (.int kv), .unset] [(.int (7 : Int32)), (.int (0 : Int32)), (.ref ua)]))
  obtain ⟨_, _, ⟨T339, L339, k339, n339⟩, -, X339, ⟨Lc339, hQ339, l339, y339, z339⟩, st339⟩ := Jvm.LawKit.callS X337 hx (y := (⟨"java/lang/StringUTF16", "toBytes", "([CII)[B"⟩ : MethodName)) hown (mvT hZ (w_30 hw)) (mvT hZ (w_31 hw)) (mvT hZ (w_24 hw)) (mvT hZ (w_32 hw)) (by decide) (backOf (W := 0) (rm_tb_7 l Z a0 hw [] ua ka c0_ c1_ c2_ c3_ c4_ c5_ zv gv h337 n0 Z337 f338 B0 B1 B2 B3 B4 B5 ((O0.ext E336).keep K337q (allS q336 all0)) hzv S0 rgv G0 Sa Sh Sl) hZ (w_32 hw) (w_24 hw) (by decide) (by decide)) (g := (mkF m 23 #[.val (.ref ua), .val (.int (0 : Int32)), .val (.int (7 : Int32)), .val (.ref b336), .val (.int kv), .unset] [(.int (7 : Int32)), (.int (0 : Int32)), (.ref ua)])) rfl (by rw [hml]; rfl) (argsL := [(.ref ua), (.int (0 : Int32)), (.int (7 : Int32))]) (rest := []) (lenOf pd_15 rfl) rfl (by show 2 * 0 + _ ≤ _; exact Nat.le_of_eq rfl) (hb hby d_j52_16_23) (fun _ _ => ⟨rfl, e337, (by decide : 1 + 1 ≤ _), (by decide : 7 + 14 ≤ _)⟩)
  dsimp only [Pt.U, Pt.locs, Pt.cells, Pt.slots] at X339 l339 y339 z339 st339 hQ339
  subst l339 y339 z339
  generalize e339 : T339.heap = h339 at hQ339
  obtain ⟨uy339, ky339, rfl, N339q, K339q, lo339, q339, Ay339⟩ := hQ339
  have N339 := Fr.app N337 N339q
  refine own_go st339 ?_
  have Z339 : n0 ≤ h339.size := (Nat.le_trans Z337 K339q.1)
  have K339 : Keep h0 h339 [] := K337.trans K339q all0
  have hi339 := Ay339.lt
  refine own_go (fun t k => XS.astore X339.here hx rfl (hb hby d_j52_16_26) rfl rfl (l' := #[.val (.ref ua), .val (.int (0 : Int32)), .val (.int (7 : Int32)), .val (.ref b336), .val (.int kv), .val (.ref uy339)]) rfl k) ?_
  refine own_go (fun t k => XS.aload X339.here hx rfl (hb hby d_j52_16_28) rfl rfl k) ?_
  refine own_go (fun t k => XS.iload X339.here hx rfl (hb hby d_j52_16_30) rfl k) ?_
  rcases hF with ⟨rfl, hc⟩ | ⟨rfl, hc⟩ | ⟨rfl, hc⟩ | ⟨rfl, hc⟩ | ⟨rfl, hc⟩ | ⟨rfl, hc⟩ | ⟨rfl, hc⟩
  · have f340 := (((O0.ext E336).keep K337q (allS q336 all0)).keep K339q all0)
    show own_Go _ _ _ _ (T339.setTop (mkF m 32 #[.val (.ref ua), .val (.int (0 : Int32)), .val (.int (7 : Int32)), .val (.ref b336), .val (.int (0 : Int32)), .val (.ref uy339)] [(.int (0 : Int32)), (.ref uy339)]))
    obtain ⟨_, _, ⟨T341, L341, k341, n341⟩, -, X341, ⟨Lc341, hQ341, l341, y341, z341⟩, st341⟩ := Jvm.LawKit.callS X339 hx (y := (⟨"java/lang/StringUTF16", "getChar", "([BI)C"⟩ : MethodName)) hown (mvT hZ (w_46 hw)) (mvT hZ (w_47 hw)) (mvT hZ (w_24 hw)) (mvT hZ (w_48 hw)) (by decide) (backOf (W := 0) (rm_gc l Z a0 hw [] uy339 ky339 (14 : Int32) [(.int ((c0_ >>> ((0 : Int32) &&& 31)).toInt8.toInt32)), (.int ((c0_ >>> ((8 : Int32) &&& 31)).toInt8.toInt32)), (.int ((c1_ >>> ((0 : Int32) &&& 31)).toInt8.toInt32)), (.int ((c1_ >>> ((8 : Int32) &&& 31)).toInt8.toInt32)), (.int ((c2_ >>> ((0 : Int32) &&& 31)).toInt8.toInt32)), (.int ((c2_ >>> ((8 : Int32) &&& 31)).toInt8.toInt32)), (.int ((c3_ >>> ((0 : Int32) &&& 31)).toInt8.toInt32)), (.int ((c3_ >>> ((8 : Int32) &&& 31)).toInt8.toInt32)), (.int ((c4_ >>> ((0 : Int32) &&& 31)).toInt8.toInt32)), (.int ((c4_ >>> ((8 : Int32) &&& 31)).toInt8.toInt32)), (.int ((c5_ >>> ((0 : Int32) &&& 31)).toInt8.toInt32)), (.int ((c5_ >>> ((8 : Int32) &&& 31)).toInt8.toInt32)), (.int (((256 : Int32) >>> ((0 : Int32) &&& 31)).toInt8.toInt32)), (.int (((256 : Int32) >>> ((8 : Int32) &&& 31)).toInt8.toInt32))] (0 : Int32) (0 : Int32) (1 : Int32) ((c0_ >>> ((0 : Int32) &&& 31)).toInt8.toInt32) ((c0_ >>> ((8 : Int32) &&& 31)).toInt8.toInt32) c0_ zv gv h339 n0 Z339 Ay339 (by decide) (by decide) ⟨by decide, by decide⟩ ⟨by decide, by decide⟩ rfl rfl (own_pair9 B0) f340 hzv S0 rgv G0 Sa Sh Sl) hZ (w_48 hw) (w_24 hw) (by decide) (by decide)) (g := (mkF m 32 #[.val (.ref ua), .val (.int (0 : Int32)), .val (.int (7 : Int32)), .val (.ref b336), .val (.int (0 : Int32)), .val (.ref uy339)] [(.int (0 : Int32)), (.ref uy339)])) rfl (by rw [hml]; rfl) (argsL := [(.ref uy339), (.int (0 : Int32))]) (rest := []) (lenOf pd_6 rfl) rfl (by show 2 * 0 + _ ≤ _; exact Nat.le_of_eq rfl) (hb hby d_j52_16_32) (fun _ _ => ⟨rfl, e339, (by decide : 2 + 0 ≤ _), (by decide : 21 + 0 ≤ _)⟩)
    dsimp only [Pt.U, Pt.locs, Pt.cells, Pt.slots] at X341 l341 y341 z341 st341 hQ341
    subst l341 y341 z341
    obtain ⟨rfl, N341q, e341⟩ := hQ341
    have N341 := Fr.app N339 N341q
    refine own_go st341 ?_
    refine own_go (fun t k => XS.sipush X341.here hx rfl (hb hby d_j52_16_35) k) ?_
    show own_Go _ _ _ _ (T341.setTop (mkF m 38 #[.val (.ref ua), .val (.int (0 : Int32)), .val (.int (7 : Int32)), .val (.ref b336), .val (.int (0 : Int32)), .val (.ref uy339)] [(.int (255 : Int32)), (.int c0_)]))
    refine own_go (fun t k => XS.icmpYes X341.here hx rfl (pc0 := 38) (pc' := 54) rfl (hb hby d_j52_16_38) rfl (tlt hc).2.2.1 (by decide) (by decide) k) ?_
    refine own_go (fun t k => XS.aload X341.here hx rfl (hb hby d_j52_16_54) rfl rfl k) ?_
    show own_Go _ _ _ _ (T341.setTop (mkF m 56 #[.val (.ref ua), .val (.int (0 : Int32)), .val (.int (7 : Int32)), .val (.ref b336), .val (.int (0 : Int32)), .val (.ref uy339)] [(.ref uy339)]))
    refine own_ret X341 hx hlk hret rfl (Or.inr (Or.inr (Or.inr (Or.inr ⟨rfl, rfl, rfl⟩)))) (hb hby d_j52_16_56) ?_ (by decide) (by decide)
    rw [e341]
    exact ⟨uy339, ky339, rfl, N341, K339, (Nat.le_trans (Nat.le_trans E336.1 K337q.1) lo339), q339, Ay339⟩
  · have f342 := (((O0.ext E336).keep K337q (allS q336 all0)).keep K339q all0)
    show own_Go _ _ _ _ (T339.setTop (mkF m 32 #[.val (.ref ua), .val (.int (0 : Int32)), .val (.int (7 : Int32)), .val (.ref b336), .val (.int (1 : Int32)), .val (.ref uy339)] [(.int (1 : Int32)), (.ref uy339)]))
    obtain ⟨_, _, ⟨T343, L343, k343, n343⟩, -, X343, ⟨Lc343, hQ343, l343, y343, z343⟩, st343⟩ := Jvm.LawKit.callS X339 hx (y := (⟨"java/lang/StringUTF16", "getChar", "([BI)C"⟩ : MethodName)) hown (mvT hZ (w_46 hw)) (mvT hZ (w_47 hw)) (mvT hZ (w_24 hw)) (mvT hZ (w_48 hw)) (by decide) (backOf (W := 0) (rm_gc l Z a0 hw [] uy339 ky339 (14 : Int32) [(.int ((c0_ >>> ((0 : Int32) &&& 31)).toInt8.toInt32)), (.int ((c0_ >>> ((8 : Int32) &&& 31)).toInt8.toInt32)), (.int ((c1_ >>> ((0 : Int32) &&& 31)).toInt8.toInt32)), (.int ((c1_ >>> ((8 : Int32) &&& 31)).toInt8.toInt32)), (.int ((c2_ >>> ((0 : Int32) &&& 31)).toInt8.toInt32)), (.int ((c2_ >>> ((8 : Int32) &&& 31)).toInt8.toInt32)), (.int ((c3_ >>> ((0 : Int32) &&& 31)).toInt8.toInt32)), (.int ((c3_ >>> ((8 : Int32) &&& 31)).toInt8.toInt32)), (.int ((c4_ >>> ((0 : Int32) &&& 31)).toInt8.toInt32)), (.int ((c4_ >>> ((8 : Int32) &&& 31)).toInt8.toInt32)), (.int ((c5_ >>> ((0 : Int32) &&& 31)).toInt8.toInt32)), (.int ((c5_ >>> ((8 : Int32) &&& 31)).toInt8.toInt32)), (.int (((256 : Int32) >>> ((0 : Int32) &&& 31)).toInt8.toInt32)), (.int (((256 : Int32) >>> ((8 : Int32) &&& 31)).toInt8.toInt32))] (1 : Int32) (2 : Int32) (3 : Int32) ((c1_ >>> ((0 : Int32) &&& 31)).toInt8.toInt32) ((c1_ >>> ((8 : Int32) &&& 31)).toInt8.toInt32) c1_ zv gv h339 n0 Z339 Ay339 (by decide) (by decide) ⟨by decide, by decide⟩ ⟨by decide, by decide⟩ rfl rfl (own_pair9 B1) f342 hzv S0 rgv G0 Sa Sh Sl) hZ (w_48 hw) (w_24 hw) (by decide) (by decide)) (g := (mkF m 32 #[.val (.ref ua), .val (.int (0 : Int32)), .val (.int (7 : Int32)), .val (.ref b336), .val (.int (1 : Int32)), .val (.ref uy339)] [(.int (1 : Int32)), (.ref uy339)])) rfl (by rw [hml]; rfl) (argsL := [(.ref uy339), (.int (1 : Int32))]) (rest := []) (lenOf pd_6 rfl) rfl (by show 2 * 0 + _ ≤ _; exact Nat.le_of_eq rfl) (hb hby d_j52_16_32) (fun _ _ => ⟨rfl, e339, (by decide : 2 + 0 ≤ _), (by decide : 21 + 0 ≤ _)⟩)
    dsimp only [Pt.U, Pt.locs, Pt.cells, Pt.slots] at X343 l343 y343 z343 st343 hQ343
    subst l343 y343 z343
    obtain ⟨rfl, N343q, e343⟩ := hQ343
    have N343 := Fr.app N339 N343q
    refine own_go st343 ?_
    refine own_go (fun t k => XS.sipush X343.here hx rfl (hb hby d_j52_16_35) k) ?_
    show own_Go _ _ _ _ (T343.setTop (mkF m 38 #[.val (.ref ua), .val (.int (0 : Int32)), .val (.int (7 : Int32)), .val (.ref b336), .val (.int (1 : Int32)), .val (.ref uy339)] [(.int (255 : Int32)), (.int c1_)]))
    refine own_go (fun t k => XS.icmpYes X343.here hx rfl (pc0 := 38) (pc' := 54) rfl (hb hby d_j52_16_38) rfl (tlt hc).2.2.1 (by decide) (by decide) k) ?_
    refine own_go (fun t k => XS.aload X343.here hx rfl (hb hby d_j52_16_54) rfl rfl k) ?_
    show own_Go _ _ _ _ (T343.setTop (mkF m 56 #[.val (.ref ua), .val (.int (0 : Int32)), .val (.int (7 : Int32)), .val (.ref b336), .val (.int (1 : Int32)), .val (.ref uy339)] [(.ref uy339)]))
    refine own_ret X343 hx hlk hret rfl (Or.inr (Or.inr (Or.inr (Or.inr ⟨rfl, rfl, rfl⟩)))) (hb hby d_j52_16_56) ?_ (by decide) (by decide)
    rw [e343]
    exact ⟨uy339, ky339, rfl, N343, K339, (Nat.le_trans (Nat.le_trans E336.1 K337q.1) lo339), q339, Ay339⟩
  · have f344 := (((O0.ext E336).keep K337q (allS q336 all0)).keep K339q all0)
    show own_Go _ _ _ _ (T339.setTop (mkF m 32 #[.val (.ref ua), .val (.int (0 : Int32)), .val (.int (7 : Int32)), .val (.ref b336), .val (.int (2 : Int32)), .val (.ref uy339)] [(.int (2 : Int32)), (.ref uy339)]))
    obtain ⟨_, _, ⟨T345, L345, k345, n345⟩, -, X345, ⟨Lc345, hQ345, l345, y345, z345⟩, st345⟩ := Jvm.LawKit.callS X339 hx (y := (⟨"java/lang/StringUTF16", "getChar", "([BI)C"⟩ : MethodName)) hown (mvT hZ (w_46 hw)) (mvT hZ (w_47 hw)) (mvT hZ (w_24 hw)) (mvT hZ (w_48 hw)) (by decide) (backOf (W := 0) (rm_gc l Z a0 hw [] uy339 ky339 (14 : Int32) [(.int ((c0_ >>> ((0 : Int32) &&& 31)).toInt8.toInt32)), (.int ((c0_ >>> ((8 : Int32) &&& 31)).toInt8.toInt32)), (.int ((c1_ >>> ((0 : Int32) &&& 31)).toInt8.toInt32)), (.int ((c1_ >>> ((8 : Int32) &&& 31)).toInt8.toInt32)), (.int ((c2_ >>> ((0 : Int32) &&& 31)).toInt8.toInt32)), (.int ((c2_ >>> ((8 : Int32) &&& 31)).toInt8.toInt32)), (.int ((c3_ >>> ((0 : Int32) &&& 31)).toInt8.toInt32)), (.int ((c3_ >>> ((8 : Int32) &&& 31)).toInt8.toInt32)), (.int ((c4_ >>> ((0 : Int32) &&& 31)).toInt8.toInt32)), (.int ((c4_ >>> ((8 : Int32) &&& 31)).toInt8.toInt32)), (.int ((c5_ >>> ((0 : Int32) &&& 31)).toInt8.toInt32)), (.int ((c5_ >>> ((8 : Int32) &&& 31)).toInt8.toInt32)), (.int (((256 : Int32) >>> ((0 : Int32) &&& 31)).toInt8.toInt32)), (.int (((256 : Int32) >>> ((8 : Int32) &&& 31)).toInt8.toInt32))] (2 : Int32) (4 : Int32) (5 : Int32) ((c2_ >>> ((0 : Int32) &&& 31)).toInt8.toInt32) ((c2_ >>> ((8 : Int32) &&& 31)).toInt8.toInt32) c2_ zv gv h339 n0 Z339 Ay339 (by decide) (by decide) ⟨by decide, by decide⟩ ⟨by decide, by decide⟩ rfl rfl (own_pair9 B2) f344 hzv S0 rgv G0 Sa Sh Sl) hZ (w_48 hw) (w_24 hw) (by decide) (by decide)) (g := (mkF m 32 #[.val (.ref ua), .val (.int (0 : Int32)), .val (.int (7 : Int32)), .val (.ref b336), .val (.int (2 : Int32)), .val (.ref uy339)] [(.int (2 : Int32)), (.ref uy339)])) rfl (by rw [hml]; rfl) (argsL := [(.ref uy339), (.int (2 : Int32))]) (rest := []) (lenOf pd_6 rfl) rfl (by show 2 * 0 + _ ≤ _; exact Nat.le_of_eq rfl) (hb hby d_j52_16_32) (fun _ _ => ⟨rfl, e339, (by decide : 2 + 0 ≤ _), (by decide : 21 + 0 ≤ _)⟩)
    dsimp only [Pt.U, Pt.locs, Pt.cells, Pt.slots] at X345 l345 y345 z345 st345 hQ345
    subst l345 y345 z345
    obtain ⟨rfl, N345q, e345⟩ := hQ345
    have N345 := Fr.app N339 N345q
    refine own_go st345 ?_
    refine own_go (fun t k => XS.sipush X345.here hx rfl (hb hby d_j52_16_35) k) ?_
    show own_Go _ _ _ _ (T345.setTop (mkF m 38 #[.val (.ref ua), .val (.int (0 : Int32)), .val (.int (7 : Int32)), .val (.ref b336), .val (.int (2 : Int32)), .val (.ref uy339)] [(.int (255 : Int32)), (.int c2_)]))
    refine own_go (fun t k => XS.icmpYes X345.here hx rfl (pc0 := 38) (pc' := 54) rfl (hb hby d_j52_16_38) rfl (tlt hc).2.2.1 (by decide) (by decide) k) ?_
    refine own_go (fun t k => XS.aload X345.here hx rfl (hb hby d_j52_16_54) rfl rfl k) ?_
    show own_Go _ _ _ _ (T345.setTop (mkF m 56 #[.val (.ref ua), .val (.int (0 : Int32)), .val (.int (7 : Int32)), .val (.ref b336), .val (.int (2 : Int32)), .val (.ref uy339)] [(.ref uy339)]))
    refine own_ret X345 hx hlk hret rfl (Or.inr (Or.inr (Or.inr (Or.inr ⟨rfl, rfl, rfl⟩)))) (hb hby d_j52_16_56) ?_ (by decide) (by decide)
    rw [e345]
    exact ⟨uy339, ky339, rfl, N345, K339, (Nat.le_trans (Nat.le_trans E336.1 K337q.1) lo339), q339, Ay339⟩
  · have f346 := (((O0.ext E336).keep K337q (allS q336 all0)).keep K339q all0)
    show own_Go _ _ _ _ (T339.setTop (mkF m 32 #[.val (.ref ua), .val (.int (0 : Int32)), .val (.int (7 : Int32)), .val (.ref b336), .val (.int (3 : Int32)), .val (.ref uy339)] [(.int (3 : Int32)), (.ref uy339)]))
    obtain ⟨_, _, ⟨T347, L347, k347, n347⟩, -, X347, ⟨Lc347, hQ347, l347, y347, z347⟩, st347⟩ := Jvm.LawKit.callS X339 hx (y := (⟨"java/lang/StringUTF16", "getChar", "([BI)C"⟩ : MethodName)) hown (mvT hZ (w_46 hw)) (mvT hZ (w_47 hw)) (mvT hZ (w_24 hw)) (mvT hZ (w_48 hw)) (by decide) (backOf (W := 0) (rm_gc l Z a0 hw [] uy339 ky339 (14 : Int32) [(.int ((c0_ >>> ((0 : Int32) &&& 31)).toInt8.toInt32)), (.int ((c0_ >>> ((8 : Int32) &&& 31)).toInt8.toInt32)), (.int ((c1_ >>> ((0 : Int32) &&& 31)).toInt8.toInt32)), (.int ((c1_ >>> ((8 : Int32) &&& 31)).toInt8.toInt32)), (.int ((c2_ >>> ((0 : Int32) &&& 31)).toInt8.toInt32)), (.int ((c2_ >>> ((8 : Int32) &&& 31)).toInt8.toInt32)), (.int ((c3_ >>> ((0 : Int32) &&& 31)).toInt8.toInt32)), (.int ((c3_ >>> ((8 : Int32) &&& 31)).toInt8.toInt32)), (.int ((c4_ >>> ((0 : Int32) &&& 31)).toInt8.toInt32)), (.int ((c4_ >>> ((8 : Int32) &&& 31)).toInt8.toInt32)), (.int ((c5_ >>> ((0 : Int32) &&& 31)).toInt8.toInt32)), (.int ((c5_ >>> ((8 : Int32) &&& 31)).toInt8.toInt32)), (.int (((256 : Int32) >>> ((0 : Int32) &&& 31)).toInt8.toInt32)), (.int (((256 : Int32) >>> ((8 : Int32) &&& 31)).toInt8.toInt32))] (3 : Int32) (6 : Int32) (7 : Int32) ((c3_ >>> ((0 : Int32) &&& 31)).toInt8.toInt32) ((c3_ >>> ((8 : Int32) &&& 31)).toInt8.toInt32) c3_ zv gv h339 n0 Z339 Ay339 (by decide) (by decide) ⟨by decide, by decide⟩ ⟨by decide, by decide⟩ rfl rfl (own_pair9 B3) f346 hzv S0 rgv G0 Sa Sh Sl) hZ (w_48 hw) (w_24 hw) (by decide) (by decide)) (g := (mkF m 32 #[.val (.ref ua), .val (.int (0 : Int32)), .val (.int (7 : Int32)), .val (.ref b336), .val (.int (3 : Int32)), .val (.ref uy339)] [(.int (3 : Int32)), (.ref uy339)])) rfl (by rw [hml]; rfl) (argsL := [(.ref uy339), (.int (3 : Int32))]) (rest := []) (lenOf pd_6 rfl) rfl (by show 2 * 0 + _ ≤ _; exact Nat.le_of_eq rfl) (hb hby d_j52_16_32) (fun _ _ => ⟨rfl, e339, (by decide : 2 + 0 ≤ _), (by decide : 21 + 0 ≤ _)⟩)
    dsimp only [Pt.U, Pt.locs, Pt.cells, Pt.slots] at X347 l347 y347 z347 st347 hQ347
    subst l347 y347 z347
    obtain ⟨rfl, N347q, e347⟩ := hQ347
    have N347 := Fr.app N339 N347q
    refine own_go st347 ?_
    refine own_go (fun t k => XS.sipush X347.here hx rfl (hb hby d_j52_16_35) k) ?_
    show own_Go _ _ _ _ (T347.setTop (mkF m 38 #[.val (.ref ua), .val (.int (0 : Int32)), .val (.int (7 : Int32)), .val (.ref b336), .val (.int (3 : Int32)), .val (.ref uy339)] [(.int (255 : Int32)), (.int c3_)]))
    refine own_go (fun t k => XS.icmpYes X347.here hx rfl (pc0 := 38) (pc' := 54) rfl (hb hby d_j52_16_38) rfl (tlt hc).2.2.1 (by decide) (by decide) k) ?_
    refine own_go (fun t k => XS.aload X347.here hx rfl (hb hby d_j52_16_54) rfl rfl k) ?_
    show own_Go _ _ _ _ (T347.setTop (mkF m 56 #[.val (.ref ua), .val (.int (0 : Int32)), .val (.int (7 : Int32)), .val (.ref b336), .val (.int (3 : Int32)), .val (.ref uy339)] [(.ref uy339)]))
    refine own_ret X347 hx hlk hret rfl (Or.inr (Or.inr (Or.inr (Or.inr ⟨rfl, rfl, rfl⟩)))) (hb hby d_j52_16_56) ?_ (by decide) (by decide)
    rw [e347]
    exact ⟨uy339, ky339, rfl, N347, K339, (Nat.le_trans (Nat.le_trans E336.1 K337q.1) lo339), q339, Ay339⟩
  · have f348 := (((O0.ext E336).keep K337q (allS q336 all0)).keep K339q all0)
    show own_Go _ _ _ _ (T339.setTop (mkF m 32 #[.val (.ref ua), .val (.int (0 : Int32)), .val (.int (7 : Int32)), .val (.ref b336), .val (.int (4 : Int32)), .val (.ref uy339)] [(.int (4 : Int32)), (.ref uy339)]))
    obtain ⟨_, _, ⟨T349, L349, k349, n349⟩, -, X349, ⟨Lc349, hQ349, l349, y349, z349⟩, st349⟩ := Jvm.LawKit.callS X339 hx (y := (⟨"java/lang/StringUTF16", "getChar", "([BI)C"⟩ : MethodName)) hown (mvT hZ (w_46 hw)) (mvT hZ (w_47 hw)) (mvT hZ (w_24 hw)) (mvT hZ (w_48 hw)) (by decide) (backOf (W := 0) (rm_gc l Z a0 hw [] uy339 ky339 (14 : Int32) [(.int ((c0_ >>> ((0 : Int32) &&& 31)).toInt8.toInt32)), (.int ((c0_ >>> ((8 : Int32) &&& 31)).toInt8.toInt32)), (.int ((c1_ >>> ((0 : Int32) &&& 31)).toInt8.toInt32)), (.int ((c1_ >>> ((8 : Int32) &&& 31)).toInt8.toInt32)), (.int ((c2_ >>> ((0 : Int32) &&& 31)).toInt8.toInt32)), (.int ((c2_ >>> ((8 : Int32) &&& 31)).toInt8.toInt32)), (.int ((c3_ >>> ((0 : Int32) &&& 31)).toInt8.toInt32)), (.int ((c3_ >>> ((8 : Int32) &&& 31)).toInt8.toInt32)), (.int ((c4_ >>> ((0 : Int32) &&& 31)).toInt8.toInt32)), (.int ((c4_ >>> ((8 : Int32) &&& 31)).toInt8.toInt32)), (.int ((c5_ >>> ((0 : Int32) &&& 31)).toInt8.toInt32)), (.int ((c5_ >>> ((8 : Int32) &&& 31)).toInt8.toInt32)), (.int (((256 : Int32) >>> ((0 : Int32) &&& 31)).toInt8.toInt32)), (.int (((256 : Int32) >>> ((8 : Int32) &&& 31)).toInt8.toInt32))] (4 : Int32) (8 : Int32) (9 : Int32) ((c4_ >>> ((0 : Int32) &&& 31)).toInt8.toInt32) ((c4_ >>> ((8 : Int32) &&& 31)).toInt8.toInt32) c4_ zv gv h339 n0 Z339 Ay339 (by decide) (by decide) ⟨by decide, by decide⟩ ⟨by decide, by decide⟩ rfl rfl (own_pair9 B4) f348 hzv S0 rgv G0 Sa Sh Sl) hZ (w_48 hw) (w_24 hw) (by decide) (by decide)) (g := (mkF m 32 #[.val (.ref ua), .val (.int (0 : Int32)), .val (.int (7 : Int32)), .val (.ref b336), .val (.int (4 : Int32)), .val (.ref uy339)] [(.int (4 : Int32)), (.ref uy339)])) rfl (by rw [hml]; rfl) (argsL := [(.ref uy339), (.int (4 : Int32))]) (rest := []) (lenOf pd_6 rfl) rfl (by show 2 * 0 + _ ≤ _; exact Nat.le_of_eq rfl) (hb hby d_j52_16_32) (fun _ _ => ⟨rfl, e339, (by decide : 2 + 0 ≤ _), (by decide : 21 + 0 ≤ _)⟩)
    dsimp only [Pt.U, Pt.locs, Pt.cells, Pt.slots] at X349 l349 y349 z349 st349 hQ349
    subst l349 y349 z349
    obtain ⟨rfl, N349q, e349⟩ := hQ349
    have N349 := Fr.app N339 N349q
    refine own_go st349 ?_
    refine own_go (fun t k => XS.sipush X349.here hx rfl (hb hby d_j52_16_35) k) ?_
    show own_Go _ _ _ _ (T349.setTop (mkF m 38 #[.val (.ref ua), .val (.int (0 : Int32)), .val (.int (7 : Int32)), .val (.ref b336), .val (.int (4 : Int32)), .val (.ref uy339)] [(.int (255 : Int32)), (.int c4_)]))
    refine own_go (fun t k => XS.icmpYes X349.here hx rfl (pc0 := 38) (pc' := 54) rfl (hb hby d_j52_16_38) rfl (tlt hc).2.2.1 (by decide) (by decide) k) ?_
    refine own_go (fun t k => XS.aload X349.here hx rfl (hb hby d_j52_16_54) rfl rfl k) ?_
    show own_Go _ _ _ _ (T349.setTop (mkF m 56 #[.val (.ref ua), .val (.int (0 : Int32)), .val (.int (7 : Int32)), .val (.ref b336), .val (.int (4 : Int32)), .val (.ref uy339)] [(.ref uy339)]))
    refine own_ret X349 hx hlk hret rfl (Or.inr (Or.inr (Or.inr (Or.inr ⟨rfl, rfl, rfl⟩)))) (hb hby d_j52_16_56) ?_ (by decide) (by decide)
    rw [e349]
    exact ⟨uy339, ky339, rfl, N349, K339, (Nat.le_trans (Nat.le_trans E336.1 K337q.1) lo339), q339, Ay339⟩
  · have f350 := (((O0.ext E336).keep K337q (allS q336 all0)).keep K339q all0)
    show own_Go _ _ _ _ (T339.setTop (mkF m 32 #[.val (.ref ua), .val (.int (0 : Int32)), .val (.int (7 : Int32)), .val (.ref b336), .val (.int (5 : Int32)), .val (.ref uy339)] [(.int (5 : Int32)), (.ref uy339)]))
    obtain ⟨_, _, ⟨T351, L351, k351, n351⟩, -, X351, ⟨Lc351, hQ351, l351, y351, z351⟩, st351⟩ := Jvm.LawKit.callS X339 hx (y := (⟨"java/lang/StringUTF16", "getChar", "([BI)C"⟩ : MethodName)) hown (mvT hZ (w_46 hw)) (mvT hZ (w_47 hw)) (mvT hZ (w_24 hw)) (mvT hZ (w_48 hw)) (by decide) (backOf (W := 0) (rm_gc l Z a0 hw [] uy339 ky339 (14 : Int32) [(.int ((c0_ >>> ((0 : Int32) &&& 31)).toInt8.toInt32)), (.int ((c0_ >>> ((8 : Int32) &&& 31)).toInt8.toInt32)), (.int ((c1_ >>> ((0 : Int32) &&& 31)).toInt8.toInt32)), (.int ((c1_ >>> ((8 : Int32) &&& 31)).toInt8.toInt32)), (.int ((c2_ >>> ((0 : Int32) &&& 31)).toInt8.toInt32)), (.int ((c2_ >>> ((8 : Int32) &&& 31)).toInt8.toInt32)), (.int ((c3_ >>> ((0 : Int32) &&& 31)).toInt8.toInt32)), (.int ((c3_ >>> ((8 : Int32) &&& 31)).toInt8.toInt32)), (.int ((c4_ >>> ((0 : Int32) &&& 31)).toInt8.toInt32)), (.int ((c4_ >>> ((8 : Int32) &&& 31)).toInt8.toInt32)), (.int ((c5_ >>> ((0 : Int32) &&& 31)).toInt8.toInt32)), (.int ((c5_ >>> ((8 : Int32) &&& 31)).toInt8.toInt32)), (.int (((256 : Int32) >>> ((0 : Int32) &&& 31)).toInt8.toInt32)), (.int (((256 : Int32) >>> ((8 : Int32) &&& 31)).toInt8.toInt32))] (5 : Int32) (10 : Int32) (11 : Int32) ((c5_ >>> ((0 : Int32) &&& 31)).toInt8.toInt32) ((c5_ >>> ((8 : Int32) &&& 31)).toInt8.toInt32) c5_ zv gv h339 n0 Z339 Ay339 (by decide) (by decide) ⟨by decide, by decide⟩ ⟨by decide, by decide⟩ rfl rfl (own_pair9 B5) f350 hzv S0 rgv G0 Sa Sh Sl) hZ (w_48 hw) (w_24 hw) (by decide) (by decide)) (g := (mkF m 32 #[.val (.ref ua), .val (.int (0 : Int32)), .val (.int (7 : Int32)), .val (.ref b336), .val (.int (5 : Int32)), .val (.ref uy339)] [(.int (5 : Int32)), (.ref uy339)])) rfl (by rw [hml]; rfl) (argsL := [(.ref uy339), (.int (5 : Int32))]) (rest := []) (lenOf pd_6 rfl) rfl (by show 2 * 0 + _ ≤ _; exact Nat.le_of_eq rfl) (hb hby d_j52_16_32) (fun _ _ => ⟨rfl, e339, (by decide : 2 + 0 ≤ _), (by decide : 21 + 0 ≤ _)⟩)
    dsimp only [Pt.U, Pt.locs, Pt.cells, Pt.slots] at X351 l351 y351 z351 st351 hQ351
    subst l351 y351 z351
    obtain ⟨rfl, N351q, e351⟩ := hQ351
    have N351 := Fr.app N339 N351q
    refine own_go st351 ?_
    refine own_go (fun t k => XS.sipush X351.here hx rfl (hb hby d_j52_16_35) k) ?_
    show own_Go _ _ _ _ (T351.setTop (mkF m 38 #[.val (.ref ua), .val (.int (0 : Int32)), .val (.int (7 : Int32)), .val (.ref b336), .val (.int (5 : Int32)), .val (.ref uy339)] [(.int (255 : Int32)), (.int c5_)]))
    refine own_go (fun t k => XS.icmpYes X351.here hx rfl (pc0 := 38) (pc' := 54) rfl (hb hby d_j52_16_38) rfl (tlt hc).2.2.1 (by decide) (by decide) k) ?_
    refine own_go (fun t k => XS.aload X351.here hx rfl (hb hby d_j52_16_54) rfl rfl k) ?_
    show own_Go _ _ _ _ (T351.setTop (mkF m 56 #[.val (.ref ua), .val (.int (0 : Int32)), .val (.int (7 : Int32)), .val (.ref b336), .val (.int (5 : Int32)), .val (.ref uy339)] [(.ref uy339)]))
    refine own_ret X351 hx hlk hret rfl (Or.inr (Or.inr (Or.inr (Or.inr ⟨rfl, rfl, rfl⟩)))) (hb hby d_j52_16_56) ?_ (by decide) (by decide)
    rw [e351]
    exact ⟨uy339, ky339, rfl, N351, K339, (Nat.le_trans (Nat.le_trans E336.1 K337q.1) lo339), q339, Ay339⟩
  · have f352 := (((O0.ext E336).keep K337q (allS q336 all0)).keep K339q all0)
    show own_Go _ _ _ _ (T339.setTop (mkF m 32 #[.val (.ref ua), .val (.int (0 : Int32)), .val (.int (7 : Int32)), .val (.ref b336), .val (.int (6 : Int32)), .val (.ref uy339)] [(.int (6 : Int32)), (.ref uy339)]))
    obtain ⟨_, _, ⟨T353, L353, k353, n353⟩, -, X353, ⟨Lc353, hQ353, l353, y353, z353⟩, st353⟩ := Jvm.LawKit.callS X339 hx (y := (⟨"java/lang/StringUTF16", "getChar", "([BI)C"⟩ : MethodName)) hown (mvT hZ (w_46 hw)) (mvT hZ (w_47 hw)) (mvT hZ (w_24 hw)) (mvT hZ (w_48 hw)) (by decide) (backOf (W := 0) (rm_gc l Z a0 hw [] uy339 ky339 (14 : Int32) [(.int ((c0_ >>> ((0 : Int32) &&& 31)).toInt8.toInt32)), (.int ((c0_ >>> ((8 : Int32) &&& 31)).toInt8.toInt32)), (.int ((c1_ >>> ((0 : Int32) &&& 31)).toInt8.toInt32)), (.int ((c1_ >>> ((8 : Int32) &&& 31)).toInt8.toInt32)), (.int ((c2_ >>> ((0 : Int32) &&& 31)).toInt8.toInt32)), (.int ((c2_ >>> ((8 : Int32) &&& 31)).toInt8.toInt32)), (.int ((c3_ >>> ((0 : Int32) &&& 31)).toInt8.toInt32)), (.int ((c3_ >>> ((8 : Int32) &&& 31)).toInt8.toInt32)), (.int ((c4_ >>> ((0 : Int32) &&& 31)).toInt8.toInt32)), (.int ((c4_ >>> ((8 : Int32) &&& 31)).toInt8.toInt32)), (.int ((c5_ >>> ((0 : Int32) &&& 31)).toInt8.toInt32)), (.int ((c5_ >>> ((8 : Int32) &&& 31)).toInt8.toInt32)), (.int (((256 : Int32) >>> ((0 : Int32) &&& 31)).toInt8.toInt32)), (.int (((256 : Int32) >>> ((8 : Int32) &&& 31)).toInt8.toInt32))] (6 : Int32) (12 : Int32) (13 : Int32) (((256 : Int32) >>> ((0 : Int32) &&& 31)).toInt8.toInt32) (((256 : Int32) >>> ((8 : Int32) &&& 31)).toInt8.toInt32) (256 : Int32) zv gv h339 n0 Z339 Ay339 (by decide) (by decide) ⟨by decide, by decide⟩ ⟨by decide, by decide⟩ rfl rfl (own_pair9 own_B256) f352 hzv S0 rgv G0 Sa Sh Sl) hZ (w_48 hw) (w_24 hw) (by decide) (by decide)) (g := (mkF m 32 #[.val (.ref ua), .val (.int (0 : Int32)), .val (.int (7 : Int32)), .val (.ref b336), .val (.int (6 : Int32)), .val (.ref uy339)] [(.int (6 : Int32)), (.ref uy339)])) rfl (by rw [hml]; rfl) (argsL := [(.ref uy339), (.int (6 : Int32))]) (rest := []) (lenOf pd_6 rfl) rfl (by show 2 * 0 + _ ≤ _; exact Nat.le_of_eq rfl) (hb hby d_j52_16_32) (fun _ _ => ⟨rfl, e339, (by decide : 2 + 0 ≤ _), (by decide : 21 + 0 ≤ _)⟩)
    dsimp only [Pt.U, Pt.locs, Pt.cells, Pt.slots] at X353 l353 y353 z353 st353 hQ353
    subst l353 y353 z353
    obtain ⟨rfl, N353q, e353⟩ := hQ353
    have N353 := Fr.app N339 N353q
    refine own_go st353 ?_
    refine own_go (fun t k => XS.sipush X353.here hx rfl (hb hby d_j52_16_35) k) ?_
    show own_Go _ _ _ _ (T353.setTop (mkF m 38 #[.val (.ref ua), .val (.int (0 : Int32)), .val (.int (7 : Int32)), .val (.ref b336), .val (.int (6 : Int32)), .val (.ref uy339)] [(.int (255 : Int32)), (.int (256 : Int32))]))
    refine own_go (fun t k => XS.icmpYes X353.here hx rfl (pc0 := 38) (pc' := 54) rfl (hb hby d_j52_16_38) rfl (tlt (by decide : (255 : Int32) < (256 : Int32))).2.2.1 (by decide) (by decide) k) ?_
    refine own_go (fun t k => XS.aload X353.here hx rfl (hb hby d_j52_16_54) rfl rfl k) ?_
    show own_Go _ _ _ _ (T353.setTop (mkF m 56 #[.val (.ref ua), .val (.int (0 : Int32)), .val (.int (7 : Int32)), .val (.ref b336), .val (.int (6 : Int32)), .val (.ref uy339)] [(.ref uy339)]))
    refine own_ret X353 hx hlk hret rfl (Or.inr (Or.inr (Or.inr (Or.inr ⟨rfl, rfl, rfl⟩)))) (hb hby d_j52_16_56) ?_ (by decide) (by decide)
    rw [e353]
    exact ⟨uy339, ky339, rfl, N353, K339, (Nat.le_trans (Nat.le_trans E336.1 K337q.1) lo339), q339, Ay339⟩
def Q_cfl_7 (Z : State) (ub : Addr) (kb : ClassId) (vs : List Value) (h0 : Heap) (n0 : Nat) (v : Option Value) (h : Heap) (L : List Loc) : Prop := v = some (.int 1) ∧ Fr n0 L ∧ h = h0
theorem ef_cfl_7 (m : MethodId) (ub : Addr) : entryFrame m #[(.ref ub), (.int (7 : Int32))] 2 = mkF m 0 #[.val (.ref ub), .val (.int (7 : Int32))] [] := by first | (simp [entryFrame, mkF, argsToLocals, Value.category]; done) | rfl
set_option maxRecDepth 65536 in
set_option maxHeartbeats 40000000 in
theorem rm_cfl_7 (l : Launch) (Z : State) (a0 : Array Value) (hw : ∀ d ∈ tables_1, d.before a0 Z = true) (ws : List Jvm.Cond) (ub : Addr) (kb : ClassId) (vs : List Value) (h0 : Heap) (n0 : Nat) (Z0 : n0 ≤ h0.size) (A0 : Arv Z h0 ub kb .byte (14 : Int32) vs (.int (0 : Int32))) :
    own_Met l Z (⟨"java/lang/StringUTF16", "coderFromArrayLen", "([BI)B"⟩ : MethodName) jdk_52_method_15_code 2 (some .byte) ws ({ frames := 0, cells := 0, slots := 0, locals := 0 } : Room) #[(.ref ub), (.int (7 : Int32))] h0 (Q_cfl_7 Z ub kb vs h0 n0) := by
  refine own_enter (own := "java/lang/StringUTF16") (plainFor_of_name pn_4) rfl ?_
  intro p e s m below meth c s₁ hlk hret hx hby hml hown hnm hZ X0 e0
  have N0 := Fr.nil n0
  refine own_cast (ef_cfl_7 m ub) ?_
  show own_Go _ _ _ _ (s₁.setTop (mkF m 0 #[.val (.ref ub), .val (.int (7 : Int32))] []))
  refine own_go (fun t k => XS.iloadN X0.here hx rfl (hb hby d_j52_15_0) rfl k) ?_
  refine own_go (fun t k => XS.aloadN X0.here hx rfl (hb hby d_j52_15_1) rfl rfl k) ?_
  show own_Go _ _ _ _ (s₁.setTop (mkF m 2 #[.val (.ref ub), .val (.int (7 : Int32))] [(.ref ub), (.int (7 : Int32))]))
  obtain ⟨cl354, Ar354, qk354, sz354, nn354, ha354, gf354⟩ := id A0
  refine own_go (X0.arraylength hx (by rw [e0]; exact Ar354.1) (State.isArrayOf_alike hZ.alike Ar354.2.1) (g := (mkF m 2 #[.val (.ref ub), .val (.int (7 : Int32))] [(.ref ub), (.int (7 : Int32))])) rfl rfl (hb hby d_j52_15_2)) ?_
  rw [len_of sz354 nn354]
  refine own_go (fun t k => XS.isub X0.here hx rfl (hb hby d_j52_15_3) rfl k) ?_
  refine own_go (fun t k => XS.bipush X0.here hx rfl (hb hby d_j52_15_4) k) ?_
  refine own_go (fun t k => XS.iushr X0.here hx rfl (hb hby d_j52_15_6) rfl k) ?_
  show own_Go _ _ _ _ (s₁.setTop (mkF m 7 #[.val (.ref ub), .val (.int (7 : Int32))] [(.int (1 : Int32))]))
  refine own_go (fun t k => XS.i2b X0.here hx rfl (hb hby d_j52_15_7) rfl k) ?_
  show own_Go _ _ _ _ (s₁.setTop (mkF m 8 #[.val (.ref ub), .val (.int (7 : Int32))] [(.int (1 : Int32))]))
  refine own_retN X0 hx hlk (t := .byte) hret (by simp) (hb hby d_j52_15_8) ?_ (by decide) (by decide)
  rw [e0]
  exact ⟨rfl, N0, rfl⟩
def Q_si_7 (Z : State) (us : Addr) (ua : Addr) (ka : ClassId) (c0_ : Int32) (c1_ : Int32) (c2_ : Int32) (c3_ : Int32) (c4_ : Int32) (c5_ : Int32) (zv : Int32) (gv : Value) (h0 : Heap) (n0 : Nat) (v : Option Value) (h : Heap) (L : List Loc) : Prop := ∃ (ub : Addr) (kb : ClassId), v = none ∧ Fr n0 L ∧ Keep h0 h [us] ∧ Fld Z h us "java/lang/String" "coder" "B" (.int (1 : Int32)) ∧ Fld Z h us "java/lang/String" "value" "[B" (.ref ub) ∧ h0.size ≤ ub ∧ n0 ≤ ub ∧ Arv Z h ub kb .byte (14 : Int32) [(.int ((c0_ >>> ((0 : Int32) &&& 31)).toInt8.toInt32)), (.int ((c0_ >>> ((8 : Int32) &&& 31)).toInt8.toInt32)), (.int ((c1_ >>> ((0 : Int32) &&& 31)).toInt8.toInt32)), (.int ((c1_ >>> ((8 : Int32) &&& 31)).toInt8.toInt32)), (.int ((c2_ >>> ((0 : Int32) &&& 31)).toInt8.toInt32)), (.int ((c2_ >>> ((8 : Int32) &&& 31)).toInt8.toInt32)), (.int ((c3_ >>> ((0 : Int32) &&& 31)).toInt8.toInt32)), (.int ((c3_ >>> ((8 : Int32) &&& 31)).toInt8.toInt32)), (.int ((c4_ >>> ((0 : Int32) &&& 31)).toInt8.toInt32)), (.int ((c4_ >>> ((8 : Int32) &&& 31)).toInt8.toInt32)), (.int ((c5_ >>> ((0 : Int32) &&& 31)).toInt8.toInt32)), (.int ((c5_ >>> ((8 : Int32) &&& 31)).toInt8.toInt32)), (.int (((256 : Int32) >>> ((0 : Int32) &&& 31)).toInt8.toInt32)), (.int (((256 : Int32) >>> ((8 : Int32) &&& 31)).toInt8.toInt32))] (.int (0 : Int32))
theorem ef_si_7 (m : MethodId) (us : Addr) (ua : Addr) : entryFrame m #[(.ref us), (.ref ua), (.int (0 : Int32)), (.int (7 : Int32)), .null] 6 = mkF m 0 #[.val (.ref us), .val (.ref ua), .val (.int (0 : Int32)), .val (.int (7 : Int32)), .val .null, .unset] [] := by first | (simp [entryFrame, mkF, argsToLocals, Value.category]; done) | rfl
set_option maxRecDepth 65536 in
set_option maxHeartbeats 40000000 in
theorem rm_si_7 (l : Launch) (Z : State) (a0 : Array Value) (hw : ∀ d ∈ tables_1, d.before a0 Z = true) (ws : List Jvm.Cond) (us ua : Addr) (ka : ClassId) (c0_ c1_ c2_ c3_ c4_ c5_ zv : Int32) (gv : Value) (h0 : Heap) (n0 : Nat) (Z0 : n0 ≤ h0.size) (q1 : n0 ≤ us) (Ex0 : Exa Z h0 us "java/lang/String") (Va1 : Fld Z h0 us "java/lang/String" "value" "[B" .null) (Cd1 : Fld Z h0 us "java/lang/String" "coder" "B" (.int (0 : Int32))) (Ac : Arv Z h0 ua ka .char (7 : Int32) [(.int c0_), (.int c1_), (.int c2_), (.int c3_), (.int c4_), (.int c5_), (.int (256 : Int32))] (.int (0 : Int32))) (B0 : own_B9 c0_) (B1 : own_B9 c1_) (B2 : own_B9 c2_) (B3 : own_B9 c3_) (B4 : own_B9 c4_) (B5 : own_B9 c5_) (O0 : Old Z n0 h0) (hzv : ¬ zv = (0 : Int32)) (S0 : Sta Z Z.heap "java/lang/String" "COMPACT_STRINGS" "Z" (.int zv)) (rgv : gv.isRef = true) (G0 : Sta Z Z.heap "jdk/internal/util/Preconditions" "SIOOBE_FORMATTER" "Ljava/util/function/BiFunction;" gv) (Sa : Sta Z Z.heap "java/lang/StringUTF16" "$assertionsDisabled" "Z" (.int (1 : Int32))) (Sh : Sta Z Z.heap "java/lang/StringUTF16" "HI_BYTE_SHIFT" "I" (.int (0 : Int32))) (Sl : Sta Z Z.heap "java/lang/StringUTF16" "LO_BYTE_SHIFT" "I" (.int (8 : Int32))) :
    own_Met l Z (⟨"java/lang/String", "<init>", "([CIILjava/lang/Void;)V"⟩ : MethodName) jdk_42_method_149_code 6 none ws ({ frames := 4, cells := 2, slots := 21, locals := 57 } : Room) #[(.ref us), (.ref ua), (.int (0 : Int32)), (.int (7 : Int32)), .null] h0 (Q_si_7 Z us ua ka c0_ c1_ c2_ c3_ c4_ c5_ zv gv h0 n0) := by
  refine own_enter (own := "java/lang/String") (plainFor_of_name pn_3) rfl ?_
  intro p e s m below meth c s₁ hlk hret hx hby hml hown hnm hZ X0 e0
  have N0 := Fr.nil n0
  refine own_cast (ef_si_7 m us ua) ?_
  show own_Go _ _ _ _ (s₁.setTop (mkF m 0 #[.val (.ref us), .val (.ref ua), .val (.int (0 : Int32)), .val (.int (7 : Int32)), .val .null, .unset] []))
  refine own_go (fun t k => XS.aloadN X0.here hx rfl (hb hby d_j42_149_0) rfl rfl k) ?_
  show own_Go _ _ _ _ (s₁.setTop (mkF m 1 #[.val (.ref us), .val (.ref ua), .val (.int (0 : Int32)), .val (.int (7 : Int32)), .val .null, .unset] [(.ref us)]))
  obtain ⟨T355, X355, e355, st355⟩ := initO X0 hx hZ hown (w_18 hw) (w_19 hw) (w_20 hw) e0 (g := (mkF m 1 #[.val (.ref us), .val (.ref ua), .val (.int (0 : Int32)), .val (.int (7 : Int32)), .val .null, .unset] [(.ref us)])) rfl (by rw [hml]; rfl) rfl (hb hby d_j42_149_1) (by decide) (W := 0) (by show 2 * 0 + _ ≤ _; exact Nat.le_of_eq rfl) (by decide)
  refine own_go st355 ?_
  refine own_go (fun t k => XS.iloadN X355.here hx rfl (hb hby d_j42_149_4) rfl k) ?_
  show own_Go _ _ _ _ (T355.setTop (mkF m 5 #[.val (.ref us), .val (.ref ua), .val (.int (0 : Int32)), .val (.int (7 : Int32)), .val .null, .unset] [(.int (7 : Int32))]))
  refine own_go (fun t k => XS.ifYes X355.here hx rfl (pc0 := 5) (pc' := 27) rfl (hb hby d_j42_149_5) rfl ((if0 _ _).trans (feq (by decide : ¬ ((7 : Int32) = (0 : Int32)))).2) (by decide) (by decide) k) ?_
  show own_Go _ _ _ _ (T355.setTop (mkF m 27 #[.val (.ref us), .val (.ref ua), .val (.int (0 : Int32)), .val (.int (7 : Int32)), .val .null, .unset] []))
  obtain ⟨T356, X356, e356, st356⟩ := getS2 X355 hx hZ hown (host := "") (Or.inl (w_21 hw)) Via.refl e355 (S0.ext O0.2) (g := (mkF m 27 #[.val (.ref us), .val (.ref ua), .val (.int (0 : Int32)), .val (.int (7 : Int32)), .val .null, .unset] [])) rfl (hb hby d_j42_149_27)
  refine own_go st356 ?_
  show own_Go _ _ _ _ (T356.setTop (mkF m 30 #[.val (.ref us), .val (.ref ua), .val (.int (0 : Int32)), .val (.int (7 : Int32)), .val .null, .unset] [(.int zv)]))
  refine own_go (fun t k => XS.ifNo X356.here hx rfl (hb hby d_j42_149_30) rfl ((if0 _ _).trans (feq hzv).1) k) ?_
  refine own_go (fun t k => XS.aloadN X356.here hx rfl (hb hby d_j42_149_33) rfl rfl k) ?_
  refine own_go (fun t k => XS.iloadN X356.here hx rfl (hb hby d_j42_149_34) rfl k) ?_
  refine own_go (fun t k => XS.iloadN X356.here hx rfl (hb hby d_j42_149_35) rfl k) ?_
  show own_Go _ _ _ _ (T356.setTop (mkF m 36 #[.val (.ref us), .val (.ref ua), .val (.int (0 : Int32)), .val (.int (7 : Int32)), .val .null, .unset] [(.int (7 : Int32)), (.int (0 : Int32)), (.ref ua)]))
  obtain ⟨_, _, ⟨T357, L357, k357, n357⟩, -, X357, ⟨Lc357, hQ357, l357, y357, z357⟩, st357⟩ := Jvm.LawKit.callS X356 hx (y := (⟨"java/lang/StringUTF16", "compress", "([CII)[B"⟩ : MethodName)) hown (mvT hZ (w_22 hw)) (mvT hZ (w_23 hw)) (mvT hZ (w_24 hw)) (mvT hZ (w_25 hw)) (by decide) (backOf (W := 0) (rm_k3_7 l Z a0 hw [] ua ka c0_ c1_ c2_ c3_ c4_ c5_ zv gv h0 n0 Z0 Ac B0 B1 B2 B3 B4 B5 O0 hzv S0 rgv G0 Sa Sh Sl) hZ (w_25 hw) (w_24 hw) (by decide) (by decide)) (g := (mkF m 36 #[.val (.ref us), .val (.ref ua), .val (.int (0 : Int32)), .val (.int (7 : Int32)), .val .null, .unset] [(.int (7 : Int32)), (.int (0 : Int32)), (.ref ua)])) rfl (by rw [hml]; rfl) (argsL := [(.ref ua), (.int (0 : Int32)), (.int (7 : Int32))]) (rest := []) (lenOf pd_15 rfl) rfl (by show 2 * 0 + _ ≤ _; exact Nat.le_of_eq rfl) (hb hby d_j42_149_36) (fun _ _ => ⟨rfl, e356, (by decide : 0 + 2 ≤ _), (by decide : 0 + 21 ≤ _)⟩)
  dsimp only [Pt.U, Pt.locs, Pt.cells, Pt.slots] at X357 l357 y357 z357 st357 hQ357
  subst l357 y357 z357
  generalize e357 : T357.heap = h357 at hQ357
  obtain ⟨uy357, ky357, rfl, N357q, K357q, lo357, q357, Ay357⟩ := hQ357
  have N357 := Fr.app N0 N357q
  refine own_go st357 ?_
  have Z357 : n0 ≤ h357.size := (Nat.le_trans Z0 K357q.1)
  have K357 : Keep h0 h357 [us] := (Keep.refl h0 [us]).trans K357q all0
  have hi357 := Ay357.lt
  refine own_go (fun t k => XS.astore X357.here hx rfl (hb hby d_j42_149_39) rfl rfl (l' := #[.val (.ref us), .val (.ref ua), .val (.int (0 : Int32)), .val (.int (7 : Int32)), .val .null, .val (.ref uy357)]) rfl k) ?_
  refine own_go (fun t k => XS.aloadN X357.here hx rfl (hb hby d_j42_149_41) rfl rfl k) ?_
  refine own_go (fun t k => XS.aload X357.here hx rfl (hb hby d_j42_149_42) rfl rfl k) ?_
  show own_Go _ _ _ _ (T357.setTop (mkF m 44 #[.val (.ref us), .val (.ref ua), .val (.int (0 : Int32)), .val (.int (7 : Int32)), .val .null, .val (.ref uy357)] [(.ref uy357), (.ref us)]))
  refine own_go (fun t k => XS.iloadN X357.here hx rfl (hb hby d_j42_149_44) rfl k) ?_
  obtain ⟨_, _, ⟨T358, L358, k358, n358⟩, -, X358, ⟨Lc358, hQ358, l358, y358, z358⟩, st358⟩ := Jvm.LawKit.callS X357 hx (y := (⟨"java/lang/StringUTF16", "coderFromArrayLen", "([BI)B"⟩ : MethodName)) hown (mvT hZ (w_49 hw)) (mvT hZ (w_50 hw)) (mvT hZ (w_24 hw)) (mvT hZ (w_51 hw)) (by decide) (backOf (W := 1) (rm_cfl_7 l Z a0 hw [] uy357 ky357 [(.int ((c0_ >>> ((0 : Int32) &&& 31)).toInt8.toInt32)), (.int ((c0_ >>> ((8 : Int32) &&& 31)).toInt8.toInt32)), (.int ((c1_ >>> ((0 : Int32) &&& 31)).toInt8.toInt32)), (.int ((c1_ >>> ((8 : Int32) &&& 31)).toInt8.toInt32)), (.int ((c2_ >>> ((0 : Int32) &&& 31)).toInt8.toInt32)), (.int ((c2_ >>> ((8 : Int32) &&& 31)).toInt8.toInt32)), (.int ((c3_ >>> ((0 : Int32) &&& 31)).toInt8.toInt32)), (.int ((c3_ >>> ((8 : Int32) &&& 31)).toInt8.toInt32)), (.int ((c4_ >>> ((0 : Int32) &&& 31)).toInt8.toInt32)), (.int ((c4_ >>> ((8 : Int32) &&& 31)).toInt8.toInt32)), (.int ((c5_ >>> ((0 : Int32) &&& 31)).toInt8.toInt32)), (.int ((c5_ >>> ((8 : Int32) &&& 31)).toInt8.toInt32)), (.int (((256 : Int32) >>> ((0 : Int32) &&& 31)).toInt8.toInt32)), (.int (((256 : Int32) >>> ((8 : Int32) &&& 31)).toInt8.toInt32))] h357 n0 Z357 Ay357) hZ (w_51 hw) (w_24 hw) (by decide) (by decide)) (g := (mkF m 45 #[.val (.ref us), .val (.ref ua), .val (.int (0 : Int32)), .val (.int (7 : Int32)), .val .null, .val (.ref uy357)] [(.int (7 : Int32)), (.ref uy357), (.ref us)])) rfl (by rw [hml]; rfl) (argsL := [(.ref uy357), (.int (7 : Int32))]) (rest := [(.ref us)]) (lenOf pd_16 rfl) rfl (by show 2 * 0 + _ ≤ _; exact Nat.le_of_eq rfl) (hb hby d_j42_149_45) (fun _ _ => ⟨rfl, e357, (by decide : 2 + 0 ≤ _), (by decide : 21 + 0 ≤ _)⟩)
  dsimp only [Pt.U, Pt.locs, Pt.cells, Pt.slots] at X358 l358 y358 z358 st358 hQ358
  subst l358 y358 z358
  obtain ⟨rfl, N358q, e358⟩ := hQ358
  have N358 := Fr.app N357 N358q
  refine own_go st358 ?_
  show own_Go _ _ _ _ (T358.setTop (mkF m 48 #[.val (.ref us), .val (.ref ua), .val (.int (0 : Int32)), .val (.int (7 : Int32)), .val .null, .val (.ref uy357)] [(.int (1 : Int32)), (.ref us)]))
  obtain ⟨T359, h359, X359, e359, W359, st359⟩ := putFN X358 hx hZ hown (w_52 hw) Via.refl e358 (Cd1.keep K357q nin0) (Ex0.keep K357q) (Or.inr ⟨(w_53 hw), rfl, hnm⟩) (w_9 hw) (ty := .byte) (v' := (.int (1 : Int32))) (by decide) rfl rfl (g := (mkF m 48 #[.val (.ref us), .val (.ref ua), .val (.int (0 : Int32)), .val (.int (7 : Int32)), .val .null, .val (.ref uy357)] [(.int (1 : Int32)), (.ref us)])) rfl rfl (hb hby d_j42_149_48)
  refine own_go st359 ?_
  have F359 := (Cd1.keep K357q nin0).same W359
  have Z359 : n0 ≤ h359.size := (Nat.le_trans Z357 (Nat.le_of_eq W359.size.symm))
  have N359 := Fr.snoc X359 N358 q1
  have K359 : Keep h0 h359 [us] := K357.wr W359 (Or.inl (List.mem_of_getElem? (i := 0) rfl))
  refine own_go (fun t k => XS.aloadN X359.here hx rfl (hb hby d_j42_149_51) rfl rfl k) ?_
  refine own_go (fun t k => XS.aload X359.here hx rfl (hb hby d_j42_149_52) rfl rfl k) ?_
  show own_Go _ _ _ _ (T359.setTop (mkF m 54 #[.val (.ref us), .val (.ref ua), .val (.int (0 : Int32)), .val (.int (7 : Int32)), .val .null, .val (.ref uy357)] [(.ref uy357), (.ref us)]))
  have f360 := ((Va1.keep K357q nin0).other W359 (Or.inr (slot_ne (Or.inr (w_55 hw)) (Or.inr (w_53 hw)) (by decide) (t := (.array .byte)) (t' := .byte) (by decide) (by decide))))
  obtain ⟨T361, h361, X361, e361, W361, st361⟩ := putF X359 hx hZ hown (host := "") (Or.inl (w_54 hw)) Via.refl e359 f360 ((Ex0.keep K357q).wr W359) (Or.inr ⟨(w_55 hw), rfl, hnm⟩) (w_9 hw) (ty := (.array .byte)) (by decide) rfl rfl (g := (mkF m 54 #[.val (.ref us), .val (.ref ua), .val (.int (0 : Int32)), .val (.int (7 : Int32)), .val .null, .val (.ref uy357)] [(.ref uy357), (.ref us)])) rfl rfl (hb hby d_j42_149_54)
  refine own_go st361 ?_
  have F361 := f360.same W361
  have Z361 : n0 ≤ h361.size := (Nat.le_trans Z359 (Nat.le_of_eq W361.size.symm))
  have N361 := Fr.snoc X361 N359 q1
  have K361 : Keep h0 h361 [us] := K359.wr W361 (Or.inl (List.mem_of_getElem? (i := 0) rfl))
  have f362 := (F359.other W361 (Or.inr (slot_ne (Or.inr (w_53 hw)) (Or.inr (w_55 hw)) (by decide) (t := .byte) (t' := (.array .byte)) (by decide) (by decide))))
  have f363 := ((Ay357.other W359 (Ne.symm (Nat.ne_of_lt (Nat.lt_of_lt_of_le Ex0.lt lo357)))).other W361 (Ne.symm (Nat.ne_of_lt (Nat.lt_of_lt_of_le Ex0.lt lo357))))
  show own_Go _ _ _ _ (T361.setTop (mkF m 57 #[.val (.ref us), .val (.ref ua), .val (.int (0 : Int32)), .val (.int (7 : Int32)), .val .null, .val (.ref uy357)] []))
  refine own_retV X361 hx hlk hret (hb hby d_j42_149_57) ?_ (by decide) (by decide)
  rw [e361]
  exact ⟨uy357, ky357, rfl, N361, K361, f362, F361, lo357, q357, f363⟩
def Q_s_7 (Z : State) (us : Addr) (ua : Addr) (ka : ClassId) (c0_ : Int32) (c1_ : Int32) (c2_ : Int32) (c3_ : Int32) (c4_ : Int32) (c5_ : Int32) (zv : Int32) (gv : Value) (h0 : Heap) (n0 : Nat) (v : Option Value) (h : Heap) (L : List Loc) : Prop := ∃ (ub : Addr) (kb : ClassId), v = none ∧ Fr n0 L ∧ Keep h0 h [us] ∧ Fld Z h us "java/lang/String" "coder" "B" (.int (1 : Int32)) ∧ Fld Z h us "java/lang/String" "value" "[B" (.ref ub) ∧ h0.size ≤ ub ∧ n0 ≤ ub ∧ Arv Z h ub kb .byte (14 : Int32) [(.int ((c0_ >>> ((0 : Int32) &&& 31)).toInt8.toInt32)), (.int ((c0_ >>> ((8 : Int32) &&& 31)).toInt8.toInt32)), (.int ((c1_ >>> ((0 : Int32) &&& 31)).toInt8.toInt32)), (.int ((c1_ >>> ((8 : Int32) &&& 31)).toInt8.toInt32)), (.int ((c2_ >>> ((0 : Int32) &&& 31)).toInt8.toInt32)), (.int ((c2_ >>> ((8 : Int32) &&& 31)).toInt8.toInt32)), (.int ((c3_ >>> ((0 : Int32) &&& 31)).toInt8.toInt32)), (.int ((c3_ >>> ((8 : Int32) &&& 31)).toInt8.toInt32)), (.int ((c4_ >>> ((0 : Int32) &&& 31)).toInt8.toInt32)), (.int ((c4_ >>> ((8 : Int32) &&& 31)).toInt8.toInt32)), (.int ((c5_ >>> ((0 : Int32) &&& 31)).toInt8.toInt32)), (.int ((c5_ >>> ((8 : Int32) &&& 31)).toInt8.toInt32)), (.int (((256 : Int32) >>> ((0 : Int32) &&& 31)).toInt8.toInt32)), (.int (((256 : Int32) >>> ((8 : Int32) &&& 31)).toInt8.toInt32))] (.int (0 : Int32))
theorem ef_s_7 (m : MethodId) (us : Addr) (ua : Addr) : entryFrame m #[(.ref us), (.ref ua)] 2 = mkF m 0 #[.val (.ref us), .val (.ref ua)] [] := by first | (simp [entryFrame, mkF, argsToLocals, Value.category]; done) | rfl
set_option maxRecDepth 65536 in
set_option maxHeartbeats 40000000 in
theorem rm_s_7 (l : Launch) (Z : State) (a0 : Array Value) (hw : ∀ d ∈ tables_1, d.before a0 Z = true) (ws : List Jvm.Cond) (us ua : Addr) (ka : ClassId) (c0_ c1_ c2_ c3_ c4_ c5_ zv : Int32) (gv : Value) (h0 : Heap) (n0 : Nat) (Z0 : n0 ≤ h0.size) (q1 : n0 ≤ us) (Ex0 : Exa Z h0 us "java/lang/String") (Va1 : Fld Z h0 us "java/lang/String" "value" "[B" .null) (Cd1 : Fld Z h0 us "java/lang/String" "coder" "B" (.int (0 : Int32))) (Ac : Arv Z h0 ua ka .char (7 : Int32) [(.int c0_), (.int c1_), (.int c2_), (.int c3_), (.int c4_), (.int c5_), (.int (256 : Int32))] (.int (0 : Int32))) (B0 : own_B9 c0_) (B1 : own_B9 c1_) (B2 : own_B9 c2_) (B3 : own_B9 c3_) (B4 : own_B9 c4_) (B5 : own_B9 c5_) (O0 : Old Z n0 h0) (hzv : ¬ zv = (0 : Int32)) (S0 : Sta Z Z.heap "java/lang/String" "COMPACT_STRINGS" "Z" (.int zv)) (rgv : gv.isRef = true) (G0 : Sta Z Z.heap "jdk/internal/util/Preconditions" "SIOOBE_FORMATTER" "Ljava/util/function/BiFunction;" gv) (Sa : Sta Z Z.heap "java/lang/StringUTF16" "$assertionsDisabled" "Z" (.int (1 : Int32))) (Sh : Sta Z Z.heap "java/lang/StringUTF16" "HI_BYTE_SHIFT" "I" (.int (0 : Int32))) (Sl : Sta Z Z.heap "java/lang/StringUTF16" "LO_BYTE_SHIFT" "I" (.int (8 : Int32))) :
    own_Met l Z (⟨"java/lang/String", "<init>", "([C)V"⟩ : MethodName) jdk_42_method_3_code 2 none ws ({ frames := 5, cells := 2, slots := 21, locals := 74 } : Room) #[(.ref us), (.ref ua)] h0 (Q_s_7 Z us ua ka c0_ c1_ c2_ c3_ c4_ c5_ zv gv h0 n0) := by
  refine own_enter (own := "java/lang/String") (plainFor_of_name pn_3) rfl ?_
  intro p e s m below meth c s₁ hlk hret hx hby hml hown hnm hZ X0 e0
  have N0 := Fr.nil n0
  refine own_cast (ef_s_7 m us ua) ?_
  show own_Go _ _ _ _ (s₁.setTop (mkF m 0 #[.val (.ref us), .val (.ref ua)] []))
  refine own_go (fun t k => XS.aloadN X0.here hx rfl (hb hby d_j42_3_0) rfl rfl k) ?_
  refine own_go (fun t k => XS.aloadN X0.here hx rfl (hb hby d_j42_3_1) rfl rfl k) ?_
  refine own_go (fun t k => XS.iconst X0.here hx rfl (hb hby d_j42_3_2) k) ?_
  refine own_go (fun t k => XS.aloadN X0.here hx rfl (hb hby d_j42_3_3) rfl rfl k) ?_
  show own_Go _ _ _ _ (s₁.setTop (mkF m 4 #[.val (.ref us), .val (.ref ua)] [(.ref ua), (.int (0 : Int32)), (.ref ua), (.ref us)]))
  obtain ⟨cl364, Ar364, qk364, sz364, nn364, ha364, gf364⟩ := id Ac
  refine own_go (X0.arraylength hx (by rw [e0]; exact Ar364.1) (State.isArrayOf_alike hZ.alike Ar364.2.1) (g := (mkF m 4 #[.val (.ref us), .val (.ref ua)] [(.ref ua), (.int (0 : Int32)), (.ref ua), (.ref us)])) rfl rfl (hb hby d_j42_3_4)) ?_
  rw [len_of sz364 nn364]
  refine own_go (fun t k => XS.aconstNull X0.here hx rfl (hb hby d_j42_3_5) k) ?_
  obtain ⟨_, _, ⟨T365, L365, k365, n365⟩, -, X365, ⟨Lc365, hQ365, l365, y365, z365⟩, st365⟩ := X0.specialBack hx (y := (⟨"java/lang/String", "<init>", "([CIILjava/lang/Void;)V"⟩ : MethodName)) rfl hown (mvT hZ (w_14 hw)) (mvT hZ (w_15 hw)) (mvT hZ (w_17 hw)) (by decide) (backOf (W := 0) (rm_si_7 l Z a0 hw [] us ua ka c0_ c1_ c2_ c3_ c4_ c5_ zv gv h0 n0 Z0 q1 Ex0 Va1 Cd1 Ac B0 B1 B2 B3 B4 B5 O0 hzv S0 rgv G0 Sa Sh Sl) hZ (w_17 hw) (w_10 hw) (by decide) (by decide)) (g := (mkF m 6 #[.val (.ref us), .val (.ref ua)] [.null, (.int (7 : Int32)), (.int (0 : Int32)), (.ref ua), (.ref us)])) rfl (by rw [hml]; rfl) (Steps.refl _) (a := us) (argsL := [(.ref ua), (.int (0 : Int32)), (.int (7 : Int32)), .null]) (rest := []) (lenOf pd_17 rfl) rfl (by show 2 * 0 + _ ≤ _; exact Nat.le_of_eq rfl) (hb hby d_j42_3_6) (fun _ _ => ⟨rfl, e0, (by decide : 0 + 2 ≤ _), (by decide : 0 + 21 ≤ _)⟩)
  dsimp only [Pt.U, Pt.locs, Pt.cells, Pt.slots] at X365 l365 y365 z365 st365 hQ365
  subst l365 y365 z365
  generalize e365 : T365.heap = h365 at hQ365
  obtain ⟨ub365, kb365, rfl, N365q, K365q, Ec365, Ev365, lo365, q365, Ek365⟩ := hQ365
  have N365 := Fr.app N0 N365q
  refine own_go (fun t k => st365.trans k) ?_
  have Z365 : n0 ≤ h365.size := (Nat.le_trans Z0 K365q.1)
  have K365 : Keep h0 h365 [us] := (Keep.refl h0 [us]).trans K365q (allS (Or.inl (List.mem_of_getElem? (i := 0) rfl)) all0)
  have hi365 := Ek365.lt
  show own_Go _ _ _ _ (T365.setTop (mkF m 9 #[.val (.ref us), .val (.ref ua)] []))
  refine own_retV X365 hx hlk hret (hb hby d_j42_3_9) ?_ (by decide) (by decide)
  rw [e365]
  exact ⟨ub365, kb365, rfl, N365, K365, Ec365, Ev365, lo365, q365, Ek365⟩
def Q_law (Z : State) (iv : Int32) (bv : Int64) (zv : Int32) (gv : Value) (h0 : Heap) (n0 : Nat) (v : Option Value) (h : Heap) (L : List Loc) : Prop := v = some (.int 1) ∧ Fr n0 L
theorem w_97 {Z : State} {a0 : Array Value} (hw : ∀ d ∈ tables_1, d.before a0 Z = true) : (Jvm.Cond.methodLink "com/example/compact_transform/compacttransform/tree/StringFootprintLatin1PrefixOfJoinPinLaw" (33 : Nat) ({ cls := "com/example/compact_transform/compacttransform/tree/StringFootprint", name := "latin1PrefixOfJoin", desc := "(III)I" } : Jvm.MethodName)).before a0 Z = true := hw _ (List.mem_of_getElem? (i := 97) rfl)
theorem w_99 {Z : State} {a0 : Array Value} (hw : ∀ d ∈ tables_1, d.before a0 Z = true) : (Jvm.Cond.code ({ cls := "com/example/compact_transform/compacttransform/tree/StringFootprint", name := "latin1PrefixOfJoin", desc := "(III)I" } : Jvm.MethodName) prog_118_method_7_code (4 : Nat) (Option.some Jvm.ClassFile.FieldType.int)).before a0 Z = true := hw _ (List.mem_of_getElem? (i := 99) rfl)
theorem w_58 {Z : State} {a0 : Array Value} (hw : ∀ d ∈ tables_1, d.before a0 Z = true) : (Jvm.Cond.initialized "com/example/compact_transform/compacttransform/tree/StringFootprint").before a0 Z = true := hw _ (List.mem_of_getElem? (i := 58) rfl)
theorem pd_18 : parseMethodDescriptor "(III)I" = some ⟨[.int, .int, .int], some .int⟩ := by decide +kernel
theorem w_98 {Z : State} {a0 : Array Value} (hw : ∀ d ∈ tables_1, d.before a0 Z = true) : (Jvm.Cond.static ({ cls := "com/example/compact_transform/compacttransform/tree/StringFootprint", name := "latin1PrefixOfJoin", desc := "(III)I" } : Jvm.MethodName)).before a0 Z = true := hw _ (List.mem_of_getElem? (i := 98) rfl)
set_option maxRecDepth 65536 in
set_option maxHeartbeats 40000000 in
theorem sg_tl {p : Program} {l : Launch} {e : Env} {s : State} {m : MethodId} {args : Array Value} {below : List Frame} {meth : Method} {c : Code} {T0 : State} {locs : List Loc} {cells slots : Nat} {Z : State} {a0 : Array Value} (hw : ∀ d ∈ tables_1, d.before a0 Z = true) {s0_ s1_ s2_ s4_ s7_ s8_ s9_ : Slot} {h0 : Heap} {n0 : Nat} (X0 : Stand p l e room_1 s m args below meth c T0 locs cells slots) (hlk : meth.locks = false) (hret : meth.sig.returnType = ret) (hx : p.tables.exec = Jvm.exec) (hby : c.code = code) (hml : c.maxLocals = maxLocals) (hown : s.vm.findClass "com/example/compact_transform/compacttransform/tree/StringFootprintLatin1PrefixOfJoinPinLaw" = some m.cls) (hZ : Z.Warmed39 s.vm) (e0 : T0.heap = h0) (N0 : Fr n0 locs) (Z0 : n0 ≤ h0.size)
    (iv : Int32) (bv : Int64) (zv : Int32) (gv : Value) (hq : Heap) (n1 f1 f2 a0_ a1_ a2_ e0_ e1_ e2_ j0_ j1_ j2_ j3_ j4_ j5_ : Int32) (hf1 : f1 = 0 ∨ f1 = 1) (hf2 : f2 = 0 ∨ f2 = 1) (hJ : (own_p7 j0_ j1_ j2_ j3_ j4_ j5_) = if (own_p4 a0_ a1_ a2_) < n1 then (own_p4 a0_ a1_ a2_) else n1 + (own_p4 e0_ e1_ e2_)) (hcc : cells + 0 ≤ 32) (hss : slots + 0 ≤ 256) :
    own_Go p e below (own_Fin s room_1.cells room_1.slots (Q_law Z iv bv zv gv hq n0)) (T0.setTop (mkF m 247 #[s0_, s1_, s2_, .val (.int n1), s4_, .val (.int f1), .val (.int f2), s7_, s8_, s9_, .val (.int (own_p4 a0_ a1_ a2_)), .val (.int (own_p4 e0_ e1_ e2_)), .val (.int (own_p7 j0_ j1_ j2_ j3_ j4_ j5_)), .unset, .unset, .unset, .unset] [])) := by
  show own_Go _ _ _ _ (T0.setTop (mkF m 247 #[s0_, s1_, s2_, .val (.int n1), s4_, .val (.int f1), .val (.int f2), s7_, s8_, s9_, .val (.int (own_p4 a0_ a1_ a2_)), .val (.int (own_p4 e0_ e1_ e2_)), .val (.int (own_p7 j0_ j1_ j2_ j3_ j4_ j5_)), .unset, .unset, .unset, .unset] []))
  refine own_go (fun t k => XS.iload X0.here hx rfl (hb hby at_247) rfl k) ?_
  rcases hf1 with rfl | rfl
  · show own_Go _ _ _ _ (T0.setTop (mkF m 249 #[s0_, s1_, s2_, .val (.int n1), s4_, .val (.int (0 : Int32)), .val (.int f2), s7_, s8_, s9_, .val (.int (own_p4 a0_ a1_ a2_)), .val (.int (own_p4 e0_ e1_ e2_)), .val (.int (own_p7 j0_ j1_ j2_ j3_ j4_ j5_)), .unset, .unset, .unset, .unset] [(.int (0 : Int32))]))
    refine own_go (fun t k => XS.ifYes X0.here hx rfl (pc0 := 249) (pc' := 256) rfl (hb hby at_249) rfl ((if0 _ _).trans (teq (by decide : (0 : Int32) = (0 : Int32))).1) (by decide) (by decide) k) ?_
    refine own_go (fun t k => XS.iload X0.here hx rfl (hb hby at_256) rfl k) ?_
    refine own_go (fun t k => XS.istore X0.here hx rfl (hb hby at_258) rfl (l' := #[s0_, s1_, s2_, .val (.int n1), s4_, .val (.int (0 : Int32)), .val (.int f2), s7_, s8_, s9_, .val (.int (own_p4 a0_ a1_ a2_)), .val (.int (own_p4 e0_ e1_ e2_)), .val (.int (own_p7 j0_ j1_ j2_ j3_ j4_ j5_)), .val (.int (own_p4 a0_ a1_ a2_)), .unset, .unset, .unset]) rfl k) ?_
    refine own_go (fun t k => XS.iload X0.here hx rfl (hb hby at_260) rfl k) ?_
    rcases hf2 with rfl | rfl
    · show own_Go _ _ _ _ (T0.setTop (mkF m 262 #[s0_, s1_, s2_, .val (.int n1), s4_, .val (.int (0 : Int32)), .val (.int (0 : Int32)), s7_, s8_, s9_, .val (.int (own_p4 a0_ a1_ a2_)), .val (.int (own_p4 e0_ e1_ e2_)), .val (.int (own_p7 j0_ j1_ j2_ j3_ j4_ j5_)), .val (.int (own_p4 a0_ a1_ a2_)), .unset, .unset, .unset] [(.int (0 : Int32))]))
      refine own_go (fun t k => XS.ifYes X0.here hx rfl (pc0 := 262) (pc' := 269) rfl (hb hby at_262) rfl ((if0 _ _).trans (teq (by decide : (0 : Int32) = (0 : Int32))).1) (by decide) (by decide) k) ?_
      refine own_go (fun t k => XS.iload X0.here hx rfl (hb hby at_269) rfl k) ?_
      refine own_go (fun t k => XS.istore X0.here hx rfl (hb hby at_271) rfl (l' := #[s0_, s1_, s2_, .val (.int n1), s4_, .val (.int (0 : Int32)), .val (.int (0 : Int32)), s7_, s8_, s9_, .val (.int (own_p4 a0_ a1_ a2_)), .val (.int (own_p4 e0_ e1_ e2_)), .val (.int (own_p7 j0_ j1_ j2_ j3_ j4_ j5_)), .val (.int (own_p4 a0_ a1_ a2_)), .val (.int (own_p4 e0_ e1_ e2_)), .unset, .unset]) rfl k) ?_
      refine own_go (fun t k => XS.iload X0.here hx rfl (hb hby at_273) rfl k) ?_
      show own_Go _ _ _ _ (T0.setTop (mkF m 275 #[s0_, s1_, s2_, .val (.int n1), s4_, .val (.int (0 : Int32)), .val (.int (0 : Int32)), s7_, s8_, s9_, .val (.int (own_p4 a0_ a1_ a2_)), .val (.int (own_p4 e0_ e1_ e2_)), .val (.int (own_p7 j0_ j1_ j2_ j3_ j4_ j5_)), .val (.int (own_p4 a0_ a1_ a2_)), .val (.int (own_p4 e0_ e1_ e2_)), .unset, .unset] [(.int (own_p4 a0_ a1_ a2_))]))
      refine own_go (fun t k => XS.iloadN X0.here hx rfl (hb hby at_275) rfl k) ?_
      refine own_go (fun t k => XS.iload X0.here hx rfl (hb hby at_276) rfl k) ?_
      obtain ⟨_, _, ⟨T366, L366, k366, n366⟩, -, X366, ⟨Lc366, hQ366, l366, y366, z366⟩, st366⟩ := Jvm.LawKit.callS X0 hx (y := (⟨"com/example/compact_transform/compacttransform/tree/StringFootprint", "latin1PrefixOfJoin", "(III)I"⟩ : MethodName)) hown (mvT hZ (w_97 hw)) (mvT hZ (w_98 hw)) (mvT hZ (w_58 hw)) (mvT hZ (w_99 hw)) (by decide) (backOf (W := 0) (rm_lpj l Z a0 hw [] (own_p4 a0_ a1_ a2_) n1 (own_p4 e0_ e1_ e2_) h0 n0 Z0 ) hZ (w_99 hw) (w_58 hw) (by decide) (by decide)) (g := (mkF m 278 #[s0_, s1_, s2_, .val (.int n1), s4_, .val (.int (0 : Int32)), .val (.int (0 : Int32)), s7_, s8_, s9_, .val (.int (own_p4 a0_ a1_ a2_)), .val (.int (own_p4 e0_ e1_ e2_)), .val (.int (own_p7 j0_ j1_ j2_ j3_ j4_ j5_)), .val (.int (own_p4 a0_ a1_ a2_)), .val (.int (own_p4 e0_ e1_ e2_)), .unset, .unset] [(.int (own_p4 e0_ e1_ e2_)), (.int n1), (.int (own_p4 a0_ a1_ a2_))])) rfl (by rw [hml]; rfl) (argsL := [(.int (own_p4 a0_ a1_ a2_)), (.int n1), (.int (own_p4 e0_ e1_ e2_))]) (rest := []) (lenOf pd_18 rfl) rfl (by show 2 * 0 + _ ≤ _; exact Nat.le_of_eq rfl) (hb hby at_278) (fun _ _ => ⟨rfl, e0, (by show _ ≤ 32; omega), (by show _ ≤ 256; omega)⟩)
      dsimp only [Pt.U, Pt.locs, Pt.cells, Pt.slots] at X366 l366 y366 z366 st366 hQ366
      subst l366 y366 z366
      obtain ⟨rfl, N366q, e366⟩ := hQ366
      have N366 := Fr.app N0 N366q
      refine own_go st366 ?_
      refine own_go (fun t k => XS.istore X366.here hx rfl (hb hby at_281) rfl (l' := #[s0_, s1_, s2_, .val (.int n1), s4_, .val (.int (0 : Int32)), .val (.int (0 : Int32)), s7_, s8_, s9_, .val (.int (own_p4 a0_ a1_ a2_)), .val (.int (own_p4 e0_ e1_ e2_)), .val (.int (own_p7 j0_ j1_ j2_ j3_ j4_ j5_)), .val (.int (own_p4 a0_ a1_ a2_)), .val (.int (own_p4 e0_ e1_ e2_)), .val (.int (own_lpj (own_p4 a0_ a1_ a2_) n1 (own_p4 e0_ e1_ e2_))), .unset]) rfl k) ?_
      show own_Go _ _ _ _ (T366.setTop (mkF m 283 #[s0_, s1_, s2_, .val (.int n1), s4_, .val (.int (0 : Int32)), .val (.int (0 : Int32)), s7_, s8_, s9_, .val (.int (own_p4 a0_ a1_ a2_)), .val (.int (own_p4 e0_ e1_ e2_)), .val (.int (own_p7 j0_ j1_ j2_ j3_ j4_ j5_)), .val (.int (own_p4 a0_ a1_ a2_)), .val (.int (own_p4 e0_ e1_ e2_)), .val (.int (own_lpj (own_p4 a0_ a1_ a2_) n1 (own_p4 e0_ e1_ e2_))), .unset] []))
      refine own_go (fun t k => XS.iload X366.here hx rfl (hb hby at_283) rfl k) ?_
      show own_Go _ _ _ _ (T366.setTop (mkF m 285 #[s0_, s1_, s2_, .val (.int n1), s4_, .val (.int (0 : Int32)), .val (.int (0 : Int32)), s7_, s8_, s9_, .val (.int (own_p4 a0_ a1_ a2_)), .val (.int (own_p4 e0_ e1_ e2_)), .val (.int (own_p7 j0_ j1_ j2_ j3_ j4_ j5_)), .val (.int (own_p4 a0_ a1_ a2_)), .val (.int (own_p4 e0_ e1_ e2_)), .val (.int (own_lpj (own_p4 a0_ a1_ a2_) n1 (own_p4 e0_ e1_ e2_))), .unset] [(.int (0 : Int32))]))
      refine own_go (fun t k => XS.ifNo X366.here hx rfl (hb hby at_285) rfl ((if0 _ _).trans (teq (by decide : (0 : Int32) = (0 : Int32))).2) k) ?_
      refine own_go (fun t k => XS.iload X366.here hx rfl (hb hby at_288) rfl k) ?_
      refine own_go (fun t k => XS.iloadN X366.here hx rfl (hb hby at_290) rfl k) ?_
      by_cases hp : (own_p4 a0_ a1_ a2_) < n1
      · show own_Go _ _ _ _ (T366.setTop (mkF m 291 #[s0_, s1_, s2_, .val (.int n1), s4_, .val (.int (0 : Int32)), .val (.int (0 : Int32)), s7_, s8_, s9_, .val (.int (own_p4 a0_ a1_ a2_)), .val (.int (own_p4 e0_ e1_ e2_)), .val (.int (own_p7 j0_ j1_ j2_ j3_ j4_ j5_)), .val (.int (own_p4 a0_ a1_ a2_)), .val (.int (own_p4 e0_ e1_ e2_)), .val (.int (own_lpj (own_p4 a0_ a1_ a2_) n1 (own_p4 e0_ e1_ e2_))), .unset] [(.int n1), (.int (own_p4 a0_ a1_ a2_))]))
        refine own_go (fun t k => XS.icmpYes X366.here hx rfl (pc0 := 291) (pc' := 299) rfl (hb hby at_291) rfl (tlt hp).1 (by decide) (by decide) k) ?_
        refine own_go (fun t k => XS.iconst X366.here hx rfl (hb hby at_299) k) ?_
        refine own_go (fun t k => XS.goto X366.here hx rfl (pc0 := 300) (pc' := 304) rfl (hb hby at_300) (by decide) (by decide) k) ?_
        refine own_go (fun t k => XS.istore X366.here hx rfl (hb hby at_304) rfl (l' := #[s0_, s1_, s2_, .val (.int n1), s4_, .val (.int (0 : Int32)), .val (.int (0 : Int32)), s7_, s8_, s9_, .val (.int (own_p4 a0_ a1_ a2_)), .val (.int (own_p4 e0_ e1_ e2_)), .val (.int (own_p7 j0_ j1_ j2_ j3_ j4_ j5_)), .val (.int (own_p4 a0_ a1_ a2_)), .val (.int (own_p4 e0_ e1_ e2_)), .val (.int (own_lpj (own_p4 a0_ a1_ a2_) n1 (own_p4 e0_ e1_ e2_))), .val (.int (1 : Int32))]) rfl k) ?_
        show own_Go _ _ _ _ (T366.setTop (mkF m 306 #[s0_, s1_, s2_, .val (.int n1), s4_, .val (.int (0 : Int32)), .val (.int (0 : Int32)), s7_, s8_, s9_, .val (.int (own_p4 a0_ a1_ a2_)), .val (.int (own_p4 e0_ e1_ e2_)), .val (.int (own_p7 j0_ j1_ j2_ j3_ j4_ j5_)), .val (.int (own_p4 a0_ a1_ a2_)), .val (.int (own_p4 e0_ e1_ e2_)), .val (.int (own_lpj (own_p4 a0_ a1_ a2_) n1 (own_p4 e0_ e1_ e2_))), .val (.int (1 : Int32))] []))
        refine own_go (fun t k => XS.iload X366.here hx rfl (hb hby at_306) rfl k) ?_
        show own_Go _ _ _ _ (T366.setTop (mkF m 308 #[s0_, s1_, s2_, .val (.int n1), s4_, .val (.int (0 : Int32)), .val (.int (0 : Int32)), s7_, s8_, s9_, .val (.int (own_p4 a0_ a1_ a2_)), .val (.int (own_p4 e0_ e1_ e2_)), .val (.int (own_p7 j0_ j1_ j2_ j3_ j4_ j5_)), .val (.int (own_p4 a0_ a1_ a2_)), .val (.int (own_p4 e0_ e1_ e2_)), .val (.int (own_lpj (own_p4 a0_ a1_ a2_) n1 (own_p4 e0_ e1_ e2_))), .val (.int (1 : Int32))] [(.int (1 : Int32))]))
        refine own_go (fun t k => XS.ifNo X366.here hx rfl (hb hby at_308) rfl ((if0 _ _).trans (feq (by decide : ¬ ((1 : Int32) = (0 : Int32)))).1) k) ?_
        refine own_go (fun t k => XS.iload X366.here hx rfl (hb hby at_311) rfl k) ?_
        refine own_go (fun t k => XS.iload X366.here hx rfl (hb hby at_313) rfl k) ?_
        show own_Go _ _ _ _ (T366.setTop (mkF m 315 #[s0_, s1_, s2_, .val (.int n1), s4_, .val (.int (0 : Int32)), .val (.int (0 : Int32)), s7_, s8_, s9_, .val (.int (own_p4 a0_ a1_ a2_)), .val (.int (own_p4 e0_ e1_ e2_)), .val (.int (own_p7 j0_ j1_ j2_ j3_ j4_ j5_)), .val (.int (own_p4 a0_ a1_ a2_)), .val (.int (own_p4 e0_ e1_ e2_)), .val (.int (own_lpj (own_p4 a0_ a1_ a2_) n1 (own_p4 e0_ e1_ e2_))), .val (.int (1 : Int32))] [(.int (own_p7 j0_ j1_ j2_ j3_ j4_ j5_)), (.int (own_lpj (own_p4 a0_ a1_ a2_) n1 (own_p4 e0_ e1_ e2_)))]))
        refine own_go (fun t k => XS.icmpNo X366.here hx rfl (hb hby at_315) rfl (teq (by rw [hJ]; simp [own_lpj, hp, own_p4n] : (own_lpj (own_p4 a0_ a1_ a2_) n1 (own_p4 e0_ e1_ e2_)) = (own_p7 j0_ j1_ j2_ j3_ j4_ j5_))).2 k) ?_
        refine own_go (fun t k => XS.iconst X366.here hx rfl (hb hby at_318) k) ?_
        refine own_go (fun t k => XS.goto X366.here hx rfl (pc0 := 319) (pc' := 323) rfl (hb hby at_319) (by decide) (by decide) k) ?_
        show own_Go _ _ _ _ (T366.setTop (mkF m 323 #[s0_, s1_, s2_, .val (.int n1), s4_, .val (.int (0 : Int32)), .val (.int (0 : Int32)), s7_, s8_, s9_, .val (.int (own_p4 a0_ a1_ a2_)), .val (.int (own_p4 e0_ e1_ e2_)), .val (.int (own_p7 j0_ j1_ j2_ j3_ j4_ j5_)), .val (.int (own_p4 a0_ a1_ a2_)), .val (.int (own_p4 e0_ e1_ e2_)), .val (.int (own_lpj (own_p4 a0_ a1_ a2_) n1 (own_p4 e0_ e1_ e2_))), .val (.int (1 : Int32))] [(.int (1 : Int32))]))
        refine own_retN X366 hx hlk (t := .boolean) hret (by simp) (hb hby at_323) ?_ (by show _ ≤ 32; omega) (by show _ ≤ 256; omega)
        rw [e366]
        exact ⟨rfl, N366⟩
      · show own_Go _ _ _ _ (T366.setTop (mkF m 291 #[s0_, s1_, s2_, .val (.int n1), s4_, .val (.int (0 : Int32)), .val (.int (0 : Int32)), s7_, s8_, s9_, .val (.int (own_p4 a0_ a1_ a2_)), .val (.int (own_p4 e0_ e1_ e2_)), .val (.int (own_p7 j0_ j1_ j2_ j3_ j4_ j5_)), .val (.int (own_p4 a0_ a1_ a2_)), .val (.int (own_p4 e0_ e1_ e2_)), .val (.int (own_lpj (own_p4 a0_ a1_ a2_) n1 (own_p4 e0_ e1_ e2_))), .unset] [(.int n1), (.int (own_p4 a0_ a1_ a2_))]))
        refine own_go (fun t k => XS.icmpNo X366.here hx rfl (hb hby at_291) rfl (flt hp).1 k) ?_
        refine own_go (fun t k => XS.iload X366.here hx rfl (hb hby at_294) rfl k) ?_
        show own_Go _ _ _ _ (T366.setTop (mkF m 296 #[s0_, s1_, s2_, .val (.int n1), s4_, .val (.int (0 : Int32)), .val (.int (0 : Int32)), s7_, s8_, s9_, .val (.int (own_p4 a0_ a1_ a2_)), .val (.int (own_p4 e0_ e1_ e2_)), .val (.int (own_p7 j0_ j1_ j2_ j3_ j4_ j5_)), .val (.int (own_p4 a0_ a1_ a2_)), .val (.int (own_p4 e0_ e1_ e2_)), .val (.int (own_lpj (own_p4 a0_ a1_ a2_) n1 (own_p4 e0_ e1_ e2_))), .unset] [(.int (0 : Int32))]))
        refine own_go (fun t k => XS.ifNo X366.here hx rfl (hb hby at_296) rfl ((if0 _ _).trans (teq (by decide : (0 : Int32) = (0 : Int32))).2) k) ?_
        refine own_go (fun t k => XS.iconst X366.here hx rfl (hb hby at_299) k) ?_
        refine own_go (fun t k => XS.goto X366.here hx rfl (pc0 := 300) (pc' := 304) rfl (hb hby at_300) (by decide) (by decide) k) ?_
        refine own_go (fun t k => XS.istore X366.here hx rfl (hb hby at_304) rfl (l' := #[s0_, s1_, s2_, .val (.int n1), s4_, .val (.int (0 : Int32)), .val (.int (0 : Int32)), s7_, s8_, s9_, .val (.int (own_p4 a0_ a1_ a2_)), .val (.int (own_p4 e0_ e1_ e2_)), .val (.int (own_p7 j0_ j1_ j2_ j3_ j4_ j5_)), .val (.int (own_p4 a0_ a1_ a2_)), .val (.int (own_p4 e0_ e1_ e2_)), .val (.int (own_lpj (own_p4 a0_ a1_ a2_) n1 (own_p4 e0_ e1_ e2_))), .val (.int (1 : Int32))]) rfl k) ?_
        show own_Go _ _ _ _ (T366.setTop (mkF m 306 #[s0_, s1_, s2_, .val (.int n1), s4_, .val (.int (0 : Int32)), .val (.int (0 : Int32)), s7_, s8_, s9_, .val (.int (own_p4 a0_ a1_ a2_)), .val (.int (own_p4 e0_ e1_ e2_)), .val (.int (own_p7 j0_ j1_ j2_ j3_ j4_ j5_)), .val (.int (own_p4 a0_ a1_ a2_)), .val (.int (own_p4 e0_ e1_ e2_)), .val (.int (own_lpj (own_p4 a0_ a1_ a2_) n1 (own_p4 e0_ e1_ e2_))), .val (.int (1 : Int32))] []))
        refine own_go (fun t k => XS.iload X366.here hx rfl (hb hby at_306) rfl k) ?_
        show own_Go _ _ _ _ (T366.setTop (mkF m 308 #[s0_, s1_, s2_, .val (.int n1), s4_, .val (.int (0 : Int32)), .val (.int (0 : Int32)), s7_, s8_, s9_, .val (.int (own_p4 a0_ a1_ a2_)), .val (.int (own_p4 e0_ e1_ e2_)), .val (.int (own_p7 j0_ j1_ j2_ j3_ j4_ j5_)), .val (.int (own_p4 a0_ a1_ a2_)), .val (.int (own_p4 e0_ e1_ e2_)), .val (.int (own_lpj (own_p4 a0_ a1_ a2_) n1 (own_p4 e0_ e1_ e2_))), .val (.int (1 : Int32))] [(.int (1 : Int32))]))
        refine own_go (fun t k => XS.ifNo X366.here hx rfl (hb hby at_308) rfl ((if0 _ _).trans (feq (by decide : ¬ ((1 : Int32) = (0 : Int32)))).1) k) ?_
        refine own_go (fun t k => XS.iload X366.here hx rfl (hb hby at_311) rfl k) ?_
        refine own_go (fun t k => XS.iload X366.here hx rfl (hb hby at_313) rfl k) ?_
        show own_Go _ _ _ _ (T366.setTop (mkF m 315 #[s0_, s1_, s2_, .val (.int n1), s4_, .val (.int (0 : Int32)), .val (.int (0 : Int32)), s7_, s8_, s9_, .val (.int (own_p4 a0_ a1_ a2_)), .val (.int (own_p4 e0_ e1_ e2_)), .val (.int (own_p7 j0_ j1_ j2_ j3_ j4_ j5_)), .val (.int (own_p4 a0_ a1_ a2_)), .val (.int (own_p4 e0_ e1_ e2_)), .val (.int (own_lpj (own_p4 a0_ a1_ a2_) n1 (own_p4 e0_ e1_ e2_))), .val (.int (1 : Int32))] [(.int (own_p7 j0_ j1_ j2_ j3_ j4_ j5_)), (.int (own_lpj (own_p4 a0_ a1_ a2_) n1 (own_p4 e0_ e1_ e2_)))]))
        refine own_go (fun t k => XS.icmpNo X366.here hx rfl (hb hby at_315) rfl (teq (by rw [hJ]; simp [own_lpj, hp, own_p4n] : (own_lpj (own_p4 a0_ a1_ a2_) n1 (own_p4 e0_ e1_ e2_)) = (own_p7 j0_ j1_ j2_ j3_ j4_ j5_))).2 k) ?_
        refine own_go (fun t k => XS.iconst X366.here hx rfl (hb hby at_318) k) ?_
        refine own_go (fun t k => XS.goto X366.here hx rfl (pc0 := 319) (pc' := 323) rfl (hb hby at_319) (by decide) (by decide) k) ?_
        show own_Go _ _ _ _ (T366.setTop (mkF m 323 #[s0_, s1_, s2_, .val (.int n1), s4_, .val (.int (0 : Int32)), .val (.int (0 : Int32)), s7_, s8_, s9_, .val (.int (own_p4 a0_ a1_ a2_)), .val (.int (own_p4 e0_ e1_ e2_)), .val (.int (own_p7 j0_ j1_ j2_ j3_ j4_ j5_)), .val (.int (own_p4 a0_ a1_ a2_)), .val (.int (own_p4 e0_ e1_ e2_)), .val (.int (own_lpj (own_p4 a0_ a1_ a2_) n1 (own_p4 e0_ e1_ e2_))), .val (.int (1 : Int32))] [(.int (1 : Int32))]))
        refine own_retN X366 hx hlk (t := .boolean) hret (by simp) (hb hby at_323) ?_ (by show _ ≤ 32; omega) (by show _ ≤ 256; omega)
        rw [e366]
        exact ⟨rfl, N366⟩
    · show own_Go _ _ _ _ (T0.setTop (mkF m 262 #[s0_, s1_, s2_, .val (.int n1), s4_, .val (.int (0 : Int32)), .val (.int (1 : Int32)), s7_, s8_, s9_, .val (.int (own_p4 a0_ a1_ a2_)), .val (.int (own_p4 e0_ e1_ e2_)), .val (.int (own_p7 j0_ j1_ j2_ j3_ j4_ j5_)), .val (.int (own_p4 a0_ a1_ a2_)), .unset, .unset, .unset] [(.int (1 : Int32))]))
      refine own_go (fun t k => XS.ifNo X0.here hx rfl (hb hby at_262) rfl ((if0 _ _).trans (feq (by decide : ¬ ((1 : Int32) = (0 : Int32)))).1) k) ?_
      refine own_go (fun t k => XS.iconst X0.here hx rfl (hb hby at_265) k) ?_
      refine own_go (fun t k => XS.goto X0.here hx rfl (pc0 := 266) (pc' := 271) rfl (hb hby at_266) (by decide) (by decide) k) ?_
      refine own_go (fun t k => XS.istore X0.here hx rfl (hb hby at_271) rfl (l' := #[s0_, s1_, s2_, .val (.int n1), s4_, .val (.int (0 : Int32)), .val (.int (1 : Int32)), s7_, s8_, s9_, .val (.int (own_p4 a0_ a1_ a2_)), .val (.int (own_p4 e0_ e1_ e2_)), .val (.int (own_p7 j0_ j1_ j2_ j3_ j4_ j5_)), .val (.int (own_p4 a0_ a1_ a2_)), .val (.int (-1 : Int32)), .unset, .unset]) rfl k) ?_
      show own_Go _ _ _ _ (T0.setTop (mkF m 273 #[s0_, s1_, s2_, .val (.int n1), s4_, .val (.int (0 : Int32)), .val (.int (1 : Int32)), s7_, s8_, s9_, .val (.int (own_p4 a0_ a1_ a2_)), .val (.int (own_p4 e0_ e1_ e2_)), .val (.int (own_p7 j0_ j1_ j2_ j3_ j4_ j5_)), .val (.int (own_p4 a0_ a1_ a2_)), .val (.int (-1 : Int32)), .unset, .unset] []))
      refine own_go (fun t k => XS.iload X0.here hx rfl (hb hby at_273) rfl k) ?_
      refine own_go (fun t k => XS.iloadN X0.here hx rfl (hb hby at_275) rfl k) ?_
      refine own_go (fun t k => XS.iload X0.here hx rfl (hb hby at_276) rfl k) ?_
      obtain ⟨_, _, ⟨T367, L367, k367, n367⟩, -, X367, ⟨Lc367, hQ367, l367, y367, z367⟩, st367⟩ := Jvm.LawKit.callS X0 hx (y := (⟨"com/example/compact_transform/compacttransform/tree/StringFootprint", "latin1PrefixOfJoin", "(III)I"⟩ : MethodName)) hown (mvT hZ (w_97 hw)) (mvT hZ (w_98 hw)) (mvT hZ (w_58 hw)) (mvT hZ (w_99 hw)) (by decide) (backOf (W := 0) (rm_lpj l Z a0 hw [] (own_p4 a0_ a1_ a2_) n1 (-1 : Int32) h0 n0 Z0 ) hZ (w_99 hw) (w_58 hw) (by decide) (by decide)) (g := (mkF m 278 #[s0_, s1_, s2_, .val (.int n1), s4_, .val (.int (0 : Int32)), .val (.int (1 : Int32)), s7_, s8_, s9_, .val (.int (own_p4 a0_ a1_ a2_)), .val (.int (own_p4 e0_ e1_ e2_)), .val (.int (own_p7 j0_ j1_ j2_ j3_ j4_ j5_)), .val (.int (own_p4 a0_ a1_ a2_)), .val (.int (-1 : Int32)), .unset, .unset] [(.int (-1 : Int32)), (.int n1), (.int (own_p4 a0_ a1_ a2_))])) rfl (by rw [hml]; rfl) (argsL := [(.int (own_p4 a0_ a1_ a2_)), (.int n1), (.int (-1 : Int32))]) (rest := []) (lenOf pd_18 rfl) rfl (by show 2 * 0 + _ ≤ _; exact Nat.le_of_eq rfl) (hb hby at_278) (fun _ _ => ⟨rfl, e0, (by show _ ≤ 32; omega), (by show _ ≤ 256; omega)⟩)
      dsimp only [Pt.U, Pt.locs, Pt.cells, Pt.slots] at X367 l367 y367 z367 st367 hQ367
      subst l367 y367 z367
      obtain ⟨rfl, N367q, e367⟩ := hQ367
      have N367 := Fr.app N0 N367q
      refine own_go st367 ?_
      show own_Go _ _ _ _ (T367.setTop (mkF m 281 #[s0_, s1_, s2_, .val (.int n1), s4_, .val (.int (0 : Int32)), .val (.int (1 : Int32)), s7_, s8_, s9_, .val (.int (own_p4 a0_ a1_ a2_)), .val (.int (own_p4 e0_ e1_ e2_)), .val (.int (own_p7 j0_ j1_ j2_ j3_ j4_ j5_)), .val (.int (own_p4 a0_ a1_ a2_)), .val (.int (-1 : Int32)), .unset, .unset] [(.int (own_lpj (own_p4 a0_ a1_ a2_) n1 (-1 : Int32)))]))
      refine own_go (fun t k => XS.istore X367.here hx rfl (hb hby at_281) rfl (l' := #[s0_, s1_, s2_, .val (.int n1), s4_, .val (.int (0 : Int32)), .val (.int (1 : Int32)), s7_, s8_, s9_, .val (.int (own_p4 a0_ a1_ a2_)), .val (.int (own_p4 e0_ e1_ e2_)), .val (.int (own_p7 j0_ j1_ j2_ j3_ j4_ j5_)), .val (.int (own_p4 a0_ a1_ a2_)), .val (.int (-1 : Int32)), .val (.int (own_lpj (own_p4 a0_ a1_ a2_) n1 (-1 : Int32))), .unset]) rfl k) ?_
      refine own_go (fun t k => XS.iload X367.here hx rfl (hb hby at_283) rfl k) ?_
      show own_Go _ _ _ _ (T367.setTop (mkF m 285 #[s0_, s1_, s2_, .val (.int n1), s4_, .val (.int (0 : Int32)), .val (.int (1 : Int32)), s7_, s8_, s9_, .val (.int (own_p4 a0_ a1_ a2_)), .val (.int (own_p4 e0_ e1_ e2_)), .val (.int (own_p7 j0_ j1_ j2_ j3_ j4_ j5_)), .val (.int (own_p4 a0_ a1_ a2_)), .val (.int (-1 : Int32)), .val (.int (own_lpj (own_p4 a0_ a1_ a2_) n1 (-1 : Int32))), .unset] [(.int (0 : Int32))]))
      refine own_go (fun t k => XS.ifNo X367.here hx rfl (hb hby at_285) rfl ((if0 _ _).trans (teq (by decide : (0 : Int32) = (0 : Int32))).2) k) ?_
      refine own_go (fun t k => XS.iload X367.here hx rfl (hb hby at_288) rfl k) ?_
      refine own_go (fun t k => XS.iloadN X367.here hx rfl (hb hby at_290) rfl k) ?_
      by_cases hp : (own_p4 a0_ a1_ a2_) < n1
      · show own_Go _ _ _ _ (T367.setTop (mkF m 291 #[s0_, s1_, s2_, .val (.int n1), s4_, .val (.int (0 : Int32)), .val (.int (1 : Int32)), s7_, s8_, s9_, .val (.int (own_p4 a0_ a1_ a2_)), .val (.int (own_p4 e0_ e1_ e2_)), .val (.int (own_p7 j0_ j1_ j2_ j3_ j4_ j5_)), .val (.int (own_p4 a0_ a1_ a2_)), .val (.int (-1 : Int32)), .val (.int (own_lpj (own_p4 a0_ a1_ a2_) n1 (-1 : Int32))), .unset] [(.int n1), (.int (own_p4 a0_ a1_ a2_))]))
        refine own_go (fun t k => XS.icmpYes X367.here hx rfl (pc0 := 291) (pc' := 299) rfl (hb hby at_291) rfl (tlt hp).1 (by decide) (by decide) k) ?_
        refine own_go (fun t k => XS.iconst X367.here hx rfl (hb hby at_299) k) ?_
        refine own_go (fun t k => XS.goto X367.here hx rfl (pc0 := 300) (pc' := 304) rfl (hb hby at_300) (by decide) (by decide) k) ?_
        refine own_go (fun t k => XS.istore X367.here hx rfl (hb hby at_304) rfl (l' := #[s0_, s1_, s2_, .val (.int n1), s4_, .val (.int (0 : Int32)), .val (.int (1 : Int32)), s7_, s8_, s9_, .val (.int (own_p4 a0_ a1_ a2_)), .val (.int (own_p4 e0_ e1_ e2_)), .val (.int (own_p7 j0_ j1_ j2_ j3_ j4_ j5_)), .val (.int (own_p4 a0_ a1_ a2_)), .val (.int (-1 : Int32)), .val (.int (own_lpj (own_p4 a0_ a1_ a2_) n1 (-1 : Int32))), .val (.int (1 : Int32))]) rfl k) ?_
        show own_Go _ _ _ _ (T367.setTop (mkF m 306 #[s0_, s1_, s2_, .val (.int n1), s4_, .val (.int (0 : Int32)), .val (.int (1 : Int32)), s7_, s8_, s9_, .val (.int (own_p4 a0_ a1_ a2_)), .val (.int (own_p4 e0_ e1_ e2_)), .val (.int (own_p7 j0_ j1_ j2_ j3_ j4_ j5_)), .val (.int (own_p4 a0_ a1_ a2_)), .val (.int (-1 : Int32)), .val (.int (own_lpj (own_p4 a0_ a1_ a2_) n1 (-1 : Int32))), .val (.int (1 : Int32))] []))
        refine own_go (fun t k => XS.iload X367.here hx rfl (hb hby at_306) rfl k) ?_
        show own_Go _ _ _ _ (T367.setTop (mkF m 308 #[s0_, s1_, s2_, .val (.int n1), s4_, .val (.int (0 : Int32)), .val (.int (1 : Int32)), s7_, s8_, s9_, .val (.int (own_p4 a0_ a1_ a2_)), .val (.int (own_p4 e0_ e1_ e2_)), .val (.int (own_p7 j0_ j1_ j2_ j3_ j4_ j5_)), .val (.int (own_p4 a0_ a1_ a2_)), .val (.int (-1 : Int32)), .val (.int (own_lpj (own_p4 a0_ a1_ a2_) n1 (-1 : Int32))), .val (.int (1 : Int32))] [(.int (1 : Int32))]))
        refine own_go (fun t k => XS.ifNo X367.here hx rfl (hb hby at_308) rfl ((if0 _ _).trans (feq (by decide : ¬ ((1 : Int32) = (0 : Int32)))).1) k) ?_
        refine own_go (fun t k => XS.iload X367.here hx rfl (hb hby at_311) rfl k) ?_
        refine own_go (fun t k => XS.iload X367.here hx rfl (hb hby at_313) rfl k) ?_
        show own_Go _ _ _ _ (T367.setTop (mkF m 315 #[s0_, s1_, s2_, .val (.int n1), s4_, .val (.int (0 : Int32)), .val (.int (1 : Int32)), s7_, s8_, s9_, .val (.int (own_p4 a0_ a1_ a2_)), .val (.int (own_p4 e0_ e1_ e2_)), .val (.int (own_p7 j0_ j1_ j2_ j3_ j4_ j5_)), .val (.int (own_p4 a0_ a1_ a2_)), .val (.int (-1 : Int32)), .val (.int (own_lpj (own_p4 a0_ a1_ a2_) n1 (-1 : Int32))), .val (.int (1 : Int32))] [(.int (own_p7 j0_ j1_ j2_ j3_ j4_ j5_)), (.int (own_lpj (own_p4 a0_ a1_ a2_) n1 (-1 : Int32)))]))
        refine own_go (fun t k => XS.icmpNo X367.here hx rfl (hb hby at_315) rfl (teq (by rw [hJ]; simp [own_lpj, hp, own_p4n] : (own_lpj (own_p4 a0_ a1_ a2_) n1 (-1 : Int32)) = (own_p7 j0_ j1_ j2_ j3_ j4_ j5_))).2 k) ?_
        refine own_go (fun t k => XS.iconst X367.here hx rfl (hb hby at_318) k) ?_
        refine own_go (fun t k => XS.goto X367.here hx rfl (pc0 := 319) (pc' := 323) rfl (hb hby at_319) (by decide) (by decide) k) ?_
        show own_Go _ _ _ _ (T367.setTop (mkF m 323 #[s0_, s1_, s2_, .val (.int n1), s4_, .val (.int (0 : Int32)), .val (.int (1 : Int32)), s7_, s8_, s9_, .val (.int (own_p4 a0_ a1_ a2_)), .val (.int (own_p4 e0_ e1_ e2_)), .val (.int (own_p7 j0_ j1_ j2_ j3_ j4_ j5_)), .val (.int (own_p4 a0_ a1_ a2_)), .val (.int (-1 : Int32)), .val (.int (own_lpj (own_p4 a0_ a1_ a2_) n1 (-1 : Int32))), .val (.int (1 : Int32))] [(.int (1 : Int32))]))
        refine own_retN X367 hx hlk (t := .boolean) hret (by simp) (hb hby at_323) ?_ (by show _ ≤ 32; omega) (by show _ ≤ 256; omega)
        rw [e367]
        exact ⟨rfl, N367⟩
      · show own_Go _ _ _ _ (T367.setTop (mkF m 291 #[s0_, s1_, s2_, .val (.int n1), s4_, .val (.int (0 : Int32)), .val (.int (1 : Int32)), s7_, s8_, s9_, .val (.int (own_p4 a0_ a1_ a2_)), .val (.int (own_p4 e0_ e1_ e2_)), .val (.int (own_p7 j0_ j1_ j2_ j3_ j4_ j5_)), .val (.int (own_p4 a0_ a1_ a2_)), .val (.int (-1 : Int32)), .val (.int (own_lpj (own_p4 a0_ a1_ a2_) n1 (-1 : Int32))), .unset] [(.int n1), (.int (own_p4 a0_ a1_ a2_))]))
        refine own_go (fun t k => XS.icmpNo X367.here hx rfl (hb hby at_291) rfl (flt hp).1 k) ?_
        refine own_go (fun t k => XS.iload X367.here hx rfl (hb hby at_294) rfl k) ?_
        show own_Go _ _ _ _ (T367.setTop (mkF m 296 #[s0_, s1_, s2_, .val (.int n1), s4_, .val (.int (0 : Int32)), .val (.int (1 : Int32)), s7_, s8_, s9_, .val (.int (own_p4 a0_ a1_ a2_)), .val (.int (own_p4 e0_ e1_ e2_)), .val (.int (own_p7 j0_ j1_ j2_ j3_ j4_ j5_)), .val (.int (own_p4 a0_ a1_ a2_)), .val (.int (-1 : Int32)), .val (.int (own_lpj (own_p4 a0_ a1_ a2_) n1 (-1 : Int32))), .unset] [(.int (1 : Int32))]))
        refine own_go (fun t k => XS.ifYes X367.here hx rfl (pc0 := 296) (pc' := 303) rfl (hb hby at_296) rfl ((if0 _ _).trans (feq (by decide : ¬ ((1 : Int32) = (0 : Int32)))).2) (by decide) (by decide) k) ?_
        refine own_go (fun t k => XS.iconst X367.here hx rfl (hb hby at_303) k) ?_
        refine own_go (fun t k => XS.istore X367.here hx rfl (hb hby at_304) rfl (l' := #[s0_, s1_, s2_, .val (.int n1), s4_, .val (.int (0 : Int32)), .val (.int (1 : Int32)), s7_, s8_, s9_, .val (.int (own_p4 a0_ a1_ a2_)), .val (.int (own_p4 e0_ e1_ e2_)), .val (.int (own_p7 j0_ j1_ j2_ j3_ j4_ j5_)), .val (.int (own_p4 a0_ a1_ a2_)), .val (.int (-1 : Int32)), .val (.int (own_lpj (own_p4 a0_ a1_ a2_) n1 (-1 : Int32))), .val (.int (0 : Int32))]) rfl k) ?_
        refine own_go (fun t k => XS.iload X367.here hx rfl (hb hby at_306) rfl k) ?_
        show own_Go _ _ _ _ (T367.setTop (mkF m 308 #[s0_, s1_, s2_, .val (.int n1), s4_, .val (.int (0 : Int32)), .val (.int (1 : Int32)), s7_, s8_, s9_, .val (.int (own_p4 a0_ a1_ a2_)), .val (.int (own_p4 e0_ e1_ e2_)), .val (.int (own_p7 j0_ j1_ j2_ j3_ j4_ j5_)), .val (.int (own_p4 a0_ a1_ a2_)), .val (.int (-1 : Int32)), .val (.int (own_lpj (own_p4 a0_ a1_ a2_) n1 (-1 : Int32))), .val (.int (0 : Int32))] [(.int (0 : Int32))]))
        refine own_go (fun t k => XS.ifYes X367.here hx rfl (pc0 := 308) (pc' := 324) rfl (hb hby at_308) rfl ((if0 _ _).trans (teq (by decide : (0 : Int32) = (0 : Int32))).1) (by decide) (by decide) k) ?_
        refine own_go (fun t k => XS.iload X367.here hx rfl (hb hby at_324) rfl k) ?_
        refine own_go (fun t k => XS.iconst X367.here hx rfl (hb hby at_326) k) ?_
        show own_Go _ _ _ _ (T367.setTop (mkF m 327 #[s0_, s1_, s2_, .val (.int n1), s4_, .val (.int (0 : Int32)), .val (.int (1 : Int32)), s7_, s8_, s9_, .val (.int (own_p4 a0_ a1_ a2_)), .val (.int (own_p4 e0_ e1_ e2_)), .val (.int (own_p7 j0_ j1_ j2_ j3_ j4_ j5_)), .val (.int (own_p4 a0_ a1_ a2_)), .val (.int (-1 : Int32)), .val (.int (own_lpj (own_p4 a0_ a1_ a2_) n1 (-1 : Int32))), .val (.int (0 : Int32))] [(.int (-1 : Int32)), (.int (own_lpj (own_p4 a0_ a1_ a2_) n1 (-1 : Int32)))]))
        refine own_go (fun t k => XS.icmpNo X367.here hx rfl (hb hby at_327) rfl (teq (by simp [own_lpj, hp, own_p4n] : (own_lpj (own_p4 a0_ a1_ a2_) n1 (-1 : Int32)) = -1)).2 k) ?_
        refine own_go (fun t k => XS.iconst X367.here hx rfl (hb hby at_330) k) ?_
        refine own_go (fun t k => XS.goto X367.here hx rfl (pc0 := 331) (pc' := 335) rfl (hb hby at_331) (by decide) (by decide) k) ?_
        show own_Go _ _ _ _ (T367.setTop (mkF m 335 #[s0_, s1_, s2_, .val (.int n1), s4_, .val (.int (0 : Int32)), .val (.int (1 : Int32)), s7_, s8_, s9_, .val (.int (own_p4 a0_ a1_ a2_)), .val (.int (own_p4 e0_ e1_ e2_)), .val (.int (own_p7 j0_ j1_ j2_ j3_ j4_ j5_)), .val (.int (own_p4 a0_ a1_ a2_)), .val (.int (-1 : Int32)), .val (.int (own_lpj (own_p4 a0_ a1_ a2_) n1 (-1 : Int32))), .val (.int (0 : Int32))] [(.int (1 : Int32))]))
        refine own_retN X367 hx hlk (t := .boolean) hret (by simp) (hb hby at_335) ?_ (by show _ ≤ 32; omega) (by show _ ≤ 256; omega)
        rw [e367]
        exact ⟨rfl, N367⟩
  · show own_Go _ _ _ _ (T0.setTop (mkF m 249 #[s0_, s1_, s2_, .val (.int n1), s4_, .val (.int (1 : Int32)), .val (.int f2), s7_, s8_, s9_, .val (.int (own_p4 a0_ a1_ a2_)), .val (.int (own_p4 e0_ e1_ e2_)), .val (.int (own_p7 j0_ j1_ j2_ j3_ j4_ j5_)), .unset, .unset, .unset, .unset] [(.int (1 : Int32))]))
    refine own_go (fun t k => XS.ifNo X0.here hx rfl (hb hby at_249) rfl ((if0 _ _).trans (feq (by decide : ¬ ((1 : Int32) = (0 : Int32)))).1) k) ?_
    refine own_go (fun t k => XS.iconst X0.here hx rfl (hb hby at_252) k) ?_
    refine own_go (fun t k => XS.goto X0.here hx rfl (pc0 := 253) (pc' := 258) rfl (hb hby at_253) (by decide) (by decide) k) ?_
    refine own_go (fun t k => XS.istore X0.here hx rfl (hb hby at_258) rfl (l' := #[s0_, s1_, s2_, .val (.int n1), s4_, .val (.int (1 : Int32)), .val (.int f2), s7_, s8_, s9_, .val (.int (own_p4 a0_ a1_ a2_)), .val (.int (own_p4 e0_ e1_ e2_)), .val (.int (own_p7 j0_ j1_ j2_ j3_ j4_ j5_)), .val (.int (-1 : Int32)), .unset, .unset, .unset]) rfl k) ?_
    show own_Go _ _ _ _ (T0.setTop (mkF m 260 #[s0_, s1_, s2_, .val (.int n1), s4_, .val (.int (1 : Int32)), .val (.int f2), s7_, s8_, s9_, .val (.int (own_p4 a0_ a1_ a2_)), .val (.int (own_p4 e0_ e1_ e2_)), .val (.int (own_p7 j0_ j1_ j2_ j3_ j4_ j5_)), .val (.int (-1 : Int32)), .unset, .unset, .unset] []))
    refine own_go (fun t k => XS.iload X0.here hx rfl (hb hby at_260) rfl k) ?_
    rcases hf2 with rfl | rfl
    · show own_Go _ _ _ _ (T0.setTop (mkF m 262 #[s0_, s1_, s2_, .val (.int n1), s4_, .val (.int (1 : Int32)), .val (.int (0 : Int32)), s7_, s8_, s9_, .val (.int (own_p4 a0_ a1_ a2_)), .val (.int (own_p4 e0_ e1_ e2_)), .val (.int (own_p7 j0_ j1_ j2_ j3_ j4_ j5_)), .val (.int (-1 : Int32)), .unset, .unset, .unset] [(.int (0 : Int32))]))
      refine own_go (fun t k => XS.ifYes X0.here hx rfl (pc0 := 262) (pc' := 269) rfl (hb hby at_262) rfl ((if0 _ _).trans (teq (by decide : (0 : Int32) = (0 : Int32))).1) (by decide) (by decide) k) ?_
      refine own_go (fun t k => XS.iload X0.here hx rfl (hb hby at_269) rfl k) ?_
      refine own_go (fun t k => XS.istore X0.here hx rfl (hb hby at_271) rfl (l' := #[s0_, s1_, s2_, .val (.int n1), s4_, .val (.int (1 : Int32)), .val (.int (0 : Int32)), s7_, s8_, s9_, .val (.int (own_p4 a0_ a1_ a2_)), .val (.int (own_p4 e0_ e1_ e2_)), .val (.int (own_p7 j0_ j1_ j2_ j3_ j4_ j5_)), .val (.int (-1 : Int32)), .val (.int (own_p4 e0_ e1_ e2_)), .unset, .unset]) rfl k) ?_
      refine own_go (fun t k => XS.iload X0.here hx rfl (hb hby at_273) rfl k) ?_
      show own_Go _ _ _ _ (T0.setTop (mkF m 275 #[s0_, s1_, s2_, .val (.int n1), s4_, .val (.int (1 : Int32)), .val (.int (0 : Int32)), s7_, s8_, s9_, .val (.int (own_p4 a0_ a1_ a2_)), .val (.int (own_p4 e0_ e1_ e2_)), .val (.int (own_p7 j0_ j1_ j2_ j3_ j4_ j5_)), .val (.int (-1 : Int32)), .val (.int (own_p4 e0_ e1_ e2_)), .unset, .unset] [(.int (-1 : Int32))]))
      refine own_go (fun t k => XS.iloadN X0.here hx rfl (hb hby at_275) rfl k) ?_
      refine own_go (fun t k => XS.iload X0.here hx rfl (hb hby at_276) rfl k) ?_
      obtain ⟨_, _, ⟨T368, L368, k368, n368⟩, -, X368, ⟨Lc368, hQ368, l368, y368, z368⟩, st368⟩ := Jvm.LawKit.callS X0 hx (y := (⟨"com/example/compact_transform/compacttransform/tree/StringFootprint", "latin1PrefixOfJoin", "(III)I"⟩ : MethodName)) hown (mvT hZ (w_97 hw)) (mvT hZ (w_98 hw)) (mvT hZ (w_58 hw)) (mvT hZ (w_99 hw)) (by decide) (backOf (W := 0) (rm_lpj l Z a0 hw [] (-1 : Int32) n1 (own_p4 e0_ e1_ e2_) h0 n0 Z0 ) hZ (w_99 hw) (w_58 hw) (by decide) (by decide)) (g := (mkF m 278 #[s0_, s1_, s2_, .val (.int n1), s4_, .val (.int (1 : Int32)), .val (.int (0 : Int32)), s7_, s8_, s9_, .val (.int (own_p4 a0_ a1_ a2_)), .val (.int (own_p4 e0_ e1_ e2_)), .val (.int (own_p7 j0_ j1_ j2_ j3_ j4_ j5_)), .val (.int (-1 : Int32)), .val (.int (own_p4 e0_ e1_ e2_)), .unset, .unset] [(.int (own_p4 e0_ e1_ e2_)), (.int n1), (.int (-1 : Int32))])) rfl (by rw [hml]; rfl) (argsL := [(.int (-1 : Int32)), (.int n1), (.int (own_p4 e0_ e1_ e2_))]) (rest := []) (lenOf pd_18 rfl) rfl (by show 2 * 0 + _ ≤ _; exact Nat.le_of_eq rfl) (hb hby at_278) (fun _ _ => ⟨rfl, e0, (by show _ ≤ 32; omega), (by show _ ≤ 256; omega)⟩)
      dsimp only [Pt.U, Pt.locs, Pt.cells, Pt.slots] at X368 l368 y368 z368 st368 hQ368
      subst l368 y368 z368
      obtain ⟨rfl, N368q, e368⟩ := hQ368
      have N368 := Fr.app N0 N368q
      refine own_go st368 ?_
      refine own_go (fun t k => XS.istore X368.here hx rfl (hb hby at_281) rfl (l' := #[s0_, s1_, s2_, .val (.int n1), s4_, .val (.int (1 : Int32)), .val (.int (0 : Int32)), s7_, s8_, s9_, .val (.int (own_p4 a0_ a1_ a2_)), .val (.int (own_p4 e0_ e1_ e2_)), .val (.int (own_p7 j0_ j1_ j2_ j3_ j4_ j5_)), .val (.int (-1 : Int32)), .val (.int (own_p4 e0_ e1_ e2_)), .val (.int (own_lpj (-1 : Int32) n1 (own_p4 e0_ e1_ e2_))), .unset]) rfl k) ?_
      show own_Go _ _ _ _ (T368.setTop (mkF m 283 #[s0_, s1_, s2_, .val (.int n1), s4_, .val (.int (1 : Int32)), .val (.int (0 : Int32)), s7_, s8_, s9_, .val (.int (own_p4 a0_ a1_ a2_)), .val (.int (own_p4 e0_ e1_ e2_)), .val (.int (own_p7 j0_ j1_ j2_ j3_ j4_ j5_)), .val (.int (-1 : Int32)), .val (.int (own_p4 e0_ e1_ e2_)), .val (.int (own_lpj (-1 : Int32) n1 (own_p4 e0_ e1_ e2_))), .unset] []))
      refine own_go (fun t k => XS.iload X368.here hx rfl (hb hby at_283) rfl k) ?_
      show own_Go _ _ _ _ (T368.setTop (mkF m 285 #[s0_, s1_, s2_, .val (.int n1), s4_, .val (.int (1 : Int32)), .val (.int (0 : Int32)), s7_, s8_, s9_, .val (.int (own_p4 a0_ a1_ a2_)), .val (.int (own_p4 e0_ e1_ e2_)), .val (.int (own_p7 j0_ j1_ j2_ j3_ j4_ j5_)), .val (.int (-1 : Int32)), .val (.int (own_p4 e0_ e1_ e2_)), .val (.int (own_lpj (-1 : Int32) n1 (own_p4 e0_ e1_ e2_))), .unset] [(.int (1 : Int32))]))
      refine own_go (fun t k => XS.ifYes X368.here hx rfl (pc0 := 285) (pc' := 303) rfl (hb hby at_285) rfl ((if0 _ _).trans (feq (by decide : ¬ ((1 : Int32) = (0 : Int32)))).2) (by decide) (by decide) k) ?_
      refine own_go (fun t k => XS.iconst X368.here hx rfl (hb hby at_303) k) ?_
      refine own_go (fun t k => XS.istore X368.here hx rfl (hb hby at_304) rfl (l' := #[s0_, s1_, s2_, .val (.int n1), s4_, .val (.int (1 : Int32)), .val (.int (0 : Int32)), s7_, s8_, s9_, .val (.int (own_p4 a0_ a1_ a2_)), .val (.int (own_p4 e0_ e1_ e2_)), .val (.int (own_p7 j0_ j1_ j2_ j3_ j4_ j5_)), .val (.int (-1 : Int32)), .val (.int (own_p4 e0_ e1_ e2_)), .val (.int (own_lpj (-1 : Int32) n1 (own_p4 e0_ e1_ e2_))), .val (.int (0 : Int32))]) rfl k) ?_
      refine own_go (fun t k => XS.iload X368.here hx rfl (hb hby at_306) rfl k) ?_
      show own_Go _ _ _ _ (T368.setTop (mkF m 308 #[s0_, s1_, s2_, .val (.int n1), s4_, .val (.int (1 : Int32)), .val (.int (0 : Int32)), s7_, s8_, s9_, .val (.int (own_p4 a0_ a1_ a2_)), .val (.int (own_p4 e0_ e1_ e2_)), .val (.int (own_p7 j0_ j1_ j2_ j3_ j4_ j5_)), .val (.int (-1 : Int32)), .val (.int (own_p4 e0_ e1_ e2_)), .val (.int (own_lpj (-1 : Int32) n1 (own_p4 e0_ e1_ e2_))), .val (.int (0 : Int32))] [(.int (0 : Int32))]))
      refine own_go (fun t k => XS.ifYes X368.here hx rfl (pc0 := 308) (pc' := 324) rfl (hb hby at_308) rfl ((if0 _ _).trans (teq (by decide : (0 : Int32) = (0 : Int32))).1) (by decide) (by decide) k) ?_
      refine own_go (fun t k => XS.iload X368.here hx rfl (hb hby at_324) rfl k) ?_
      refine own_go (fun t k => XS.iconst X368.here hx rfl (hb hby at_326) k) ?_
      show own_Go _ _ _ _ (T368.setTop (mkF m 327 #[s0_, s1_, s2_, .val (.int n1), s4_, .val (.int (1 : Int32)), .val (.int (0 : Int32)), s7_, s8_, s9_, .val (.int (own_p4 a0_ a1_ a2_)), .val (.int (own_p4 e0_ e1_ e2_)), .val (.int (own_p7 j0_ j1_ j2_ j3_ j4_ j5_)), .val (.int (-1 : Int32)), .val (.int (own_p4 e0_ e1_ e2_)), .val (.int (own_lpj (-1 : Int32) n1 (own_p4 e0_ e1_ e2_))), .val (.int (0 : Int32))] [(.int (-1 : Int32)), (.int (own_lpj (-1 : Int32) n1 (own_p4 e0_ e1_ e2_)))]))
      refine own_go (fun t k => XS.icmpNo X368.here hx rfl (hb hby at_327) rfl (teq (by simp [own_lpj] : (own_lpj (-1 : Int32) n1 (own_p4 e0_ e1_ e2_)) = -1)).2 k) ?_
      refine own_go (fun t k => XS.iconst X368.here hx rfl (hb hby at_330) k) ?_
      refine own_go (fun t k => XS.goto X368.here hx rfl (pc0 := 331) (pc' := 335) rfl (hb hby at_331) (by decide) (by decide) k) ?_
      show own_Go _ _ _ _ (T368.setTop (mkF m 335 #[s0_, s1_, s2_, .val (.int n1), s4_, .val (.int (1 : Int32)), .val (.int (0 : Int32)), s7_, s8_, s9_, .val (.int (own_p4 a0_ a1_ a2_)), .val (.int (own_p4 e0_ e1_ e2_)), .val (.int (own_p7 j0_ j1_ j2_ j3_ j4_ j5_)), .val (.int (-1 : Int32)), .val (.int (own_p4 e0_ e1_ e2_)), .val (.int (own_lpj (-1 : Int32) n1 (own_p4 e0_ e1_ e2_))), .val (.int (0 : Int32))] [(.int (1 : Int32))]))
      refine own_retN X368 hx hlk (t := .boolean) hret (by simp) (hb hby at_335) ?_ (by show _ ≤ 32; omega) (by show _ ≤ 256; omega)
      rw [e368]
      exact ⟨rfl, N368⟩
    · show own_Go _ _ _ _ (T0.setTop (mkF m 262 #[s0_, s1_, s2_, .val (.int n1), s4_, .val (.int (1 : Int32)), .val (.int (1 : Int32)), s7_, s8_, s9_, .val (.int (own_p4 a0_ a1_ a2_)), .val (.int (own_p4 e0_ e1_ e2_)), .val (.int (own_p7 j0_ j1_ j2_ j3_ j4_ j5_)), .val (.int (-1 : Int32)), .unset, .unset, .unset] [(.int (1 : Int32))]))
      refine own_go (fun t k => XS.ifNo X0.here hx rfl (hb hby at_262) rfl ((if0 _ _).trans (feq (by decide : ¬ ((1 : Int32) = (0 : Int32)))).1) k) ?_
      refine own_go (fun t k => XS.iconst X0.here hx rfl (hb hby at_265) k) ?_
      refine own_go (fun t k => XS.goto X0.here hx rfl (pc0 := 266) (pc' := 271) rfl (hb hby at_266) (by decide) (by decide) k) ?_
      refine own_go (fun t k => XS.istore X0.here hx rfl (hb hby at_271) rfl (l' := #[s0_, s1_, s2_, .val (.int n1), s4_, .val (.int (1 : Int32)), .val (.int (1 : Int32)), s7_, s8_, s9_, .val (.int (own_p4 a0_ a1_ a2_)), .val (.int (own_p4 e0_ e1_ e2_)), .val (.int (own_p7 j0_ j1_ j2_ j3_ j4_ j5_)), .val (.int (-1 : Int32)), .val (.int (-1 : Int32)), .unset, .unset]) rfl k) ?_
      show own_Go _ _ _ _ (T0.setTop (mkF m 273 #[s0_, s1_, s2_, .val (.int n1), s4_, .val (.int (1 : Int32)), .val (.int (1 : Int32)), s7_, s8_, s9_, .val (.int (own_p4 a0_ a1_ a2_)), .val (.int (own_p4 e0_ e1_ e2_)), .val (.int (own_p7 j0_ j1_ j2_ j3_ j4_ j5_)), .val (.int (-1 : Int32)), .val (.int (-1 : Int32)), .unset, .unset] []))
      refine own_go (fun t k => XS.iload X0.here hx rfl (hb hby at_273) rfl k) ?_
      refine own_go (fun t k => XS.iloadN X0.here hx rfl (hb hby at_275) rfl k) ?_
      refine own_go (fun t k => XS.iload X0.here hx rfl (hb hby at_276) rfl k) ?_
      obtain ⟨_, _, ⟨T369, L369, k369, n369⟩, -, X369, ⟨Lc369, hQ369, l369, y369, z369⟩, st369⟩ := Jvm.LawKit.callS X0 hx (y := (⟨"com/example/compact_transform/compacttransform/tree/StringFootprint", "latin1PrefixOfJoin", "(III)I"⟩ : MethodName)) hown (mvT hZ (w_97 hw)) (mvT hZ (w_98 hw)) (mvT hZ (w_58 hw)) (mvT hZ (w_99 hw)) (by decide) (backOf (W := 0) (rm_lpj l Z a0 hw [] (-1 : Int32) n1 (-1 : Int32) h0 n0 Z0 ) hZ (w_99 hw) (w_58 hw) (by decide) (by decide)) (g := (mkF m 278 #[s0_, s1_, s2_, .val (.int n1), s4_, .val (.int (1 : Int32)), .val (.int (1 : Int32)), s7_, s8_, s9_, .val (.int (own_p4 a0_ a1_ a2_)), .val (.int (own_p4 e0_ e1_ e2_)), .val (.int (own_p7 j0_ j1_ j2_ j3_ j4_ j5_)), .val (.int (-1 : Int32)), .val (.int (-1 : Int32)), .unset, .unset] [(.int (-1 : Int32)), (.int n1), (.int (-1 : Int32))])) rfl (by rw [hml]; rfl) (argsL := [(.int (-1 : Int32)), (.int n1), (.int (-1 : Int32))]) (rest := []) (lenOf pd_18 rfl) rfl (by show 2 * 0 + _ ≤ _; exact Nat.le_of_eq rfl) (hb hby at_278) (fun _ _ => ⟨rfl, e0, (by show _ ≤ 32; omega), (by show _ ≤ 256; omega)⟩)
      dsimp only [Pt.U, Pt.locs, Pt.cells, Pt.slots] at X369 l369 y369 z369 st369 hQ369
      subst l369 y369 z369
      obtain ⟨rfl, N369q, e369⟩ := hQ369
      have N369 := Fr.app N0 N369q
      refine own_go st369 ?_
      show own_Go _ _ _ _ (T369.setTop (mkF m 281 #[s0_, s1_, s2_, .val (.int n1), s4_, .val (.int (1 : Int32)), .val (.int (1 : Int32)), s7_, s8_, s9_, .val (.int (own_p4 a0_ a1_ a2_)), .val (.int (own_p4 e0_ e1_ e2_)), .val (.int (own_p7 j0_ j1_ j2_ j3_ j4_ j5_)), .val (.int (-1 : Int32)), .val (.int (-1 : Int32)), .unset, .unset] [(.int (own_lpj (-1 : Int32) n1 (-1 : Int32)))]))
      refine own_go (fun t k => XS.istore X369.here hx rfl (hb hby at_281) rfl (l' := #[s0_, s1_, s2_, .val (.int n1), s4_, .val (.int (1 : Int32)), .val (.int (1 : Int32)), s7_, s8_, s9_, .val (.int (own_p4 a0_ a1_ a2_)), .val (.int (own_p4 e0_ e1_ e2_)), .val (.int (own_p7 j0_ j1_ j2_ j3_ j4_ j5_)), .val (.int (-1 : Int32)), .val (.int (-1 : Int32)), .val (.int (own_lpj (-1 : Int32) n1 (-1 : Int32))), .unset]) rfl k) ?_
      refine own_go (fun t k => XS.iload X369.here hx rfl (hb hby at_283) rfl k) ?_
      show own_Go _ _ _ _ (T369.setTop (mkF m 285 #[s0_, s1_, s2_, .val (.int n1), s4_, .val (.int (1 : Int32)), .val (.int (1 : Int32)), s7_, s8_, s9_, .val (.int (own_p4 a0_ a1_ a2_)), .val (.int (own_p4 e0_ e1_ e2_)), .val (.int (own_p7 j0_ j1_ j2_ j3_ j4_ j5_)), .val (.int (-1 : Int32)), .val (.int (-1 : Int32)), .val (.int (own_lpj (-1 : Int32) n1 (-1 : Int32))), .unset] [(.int (1 : Int32))]))
      refine own_go (fun t k => XS.ifYes X369.here hx rfl (pc0 := 285) (pc' := 303) rfl (hb hby at_285) rfl ((if0 _ _).trans (feq (by decide : ¬ ((1 : Int32) = (0 : Int32)))).2) (by decide) (by decide) k) ?_
      refine own_go (fun t k => XS.iconst X369.here hx rfl (hb hby at_303) k) ?_
      refine own_go (fun t k => XS.istore X369.here hx rfl (hb hby at_304) rfl (l' := #[s0_, s1_, s2_, .val (.int n1), s4_, .val (.int (1 : Int32)), .val (.int (1 : Int32)), s7_, s8_, s9_, .val (.int (own_p4 a0_ a1_ a2_)), .val (.int (own_p4 e0_ e1_ e2_)), .val (.int (own_p7 j0_ j1_ j2_ j3_ j4_ j5_)), .val (.int (-1 : Int32)), .val (.int (-1 : Int32)), .val (.int (own_lpj (-1 : Int32) n1 (-1 : Int32))), .val (.int (0 : Int32))]) rfl k) ?_
      refine own_go (fun t k => XS.iload X369.here hx rfl (hb hby at_306) rfl k) ?_
      show own_Go _ _ _ _ (T369.setTop (mkF m 308 #[s0_, s1_, s2_, .val (.int n1), s4_, .val (.int (1 : Int32)), .val (.int (1 : Int32)), s7_, s8_, s9_, .val (.int (own_p4 a0_ a1_ a2_)), .val (.int (own_p4 e0_ e1_ e2_)), .val (.int (own_p7 j0_ j1_ j2_ j3_ j4_ j5_)), .val (.int (-1 : Int32)), .val (.int (-1 : Int32)), .val (.int (own_lpj (-1 : Int32) n1 (-1 : Int32))), .val (.int (0 : Int32))] [(.int (0 : Int32))]))
      refine own_go (fun t k => XS.ifYes X369.here hx rfl (pc0 := 308) (pc' := 324) rfl (hb hby at_308) rfl ((if0 _ _).trans (teq (by decide : (0 : Int32) = (0 : Int32))).1) (by decide) (by decide) k) ?_
      refine own_go (fun t k => XS.iload X369.here hx rfl (hb hby at_324) rfl k) ?_
      refine own_go (fun t k => XS.iconst X369.here hx rfl (hb hby at_326) k) ?_
      show own_Go _ _ _ _ (T369.setTop (mkF m 327 #[s0_, s1_, s2_, .val (.int n1), s4_, .val (.int (1 : Int32)), .val (.int (1 : Int32)), s7_, s8_, s9_, .val (.int (own_p4 a0_ a1_ a2_)), .val (.int (own_p4 e0_ e1_ e2_)), .val (.int (own_p7 j0_ j1_ j2_ j3_ j4_ j5_)), .val (.int (-1 : Int32)), .val (.int (-1 : Int32)), .val (.int (own_lpj (-1 : Int32) n1 (-1 : Int32))), .val (.int (0 : Int32))] [(.int (-1 : Int32)), (.int (own_lpj (-1 : Int32) n1 (-1 : Int32)))]))
      refine own_go (fun t k => XS.icmpNo X369.here hx rfl (hb hby at_327) rfl (teq (by simp [own_lpj] : (own_lpj (-1 : Int32) n1 (-1 : Int32)) = -1)).2 k) ?_
      refine own_go (fun t k => XS.iconst X369.here hx rfl (hb hby at_330) k) ?_
      refine own_go (fun t k => XS.goto X369.here hx rfl (pc0 := 331) (pc' := 335) rfl (hb hby at_331) (by decide) (by decide) k) ?_
      show own_Go _ _ _ _ (T369.setTop (mkF m 335 #[s0_, s1_, s2_, .val (.int n1), s4_, .val (.int (1 : Int32)), .val (.int (1 : Int32)), s7_, s8_, s9_, .val (.int (own_p4 a0_ a1_ a2_)), .val (.int (own_p4 e0_ e1_ e2_)), .val (.int (own_p7 j0_ j1_ j2_ j3_ j4_ j5_)), .val (.int (-1 : Int32)), .val (.int (-1 : Int32)), .val (.int (own_lpj (-1 : Int32) n1 (-1 : Int32))), .val (.int (0 : Int32))] [(.int (1 : Int32))]))
      refine own_retN X369 hx hlk (t := .boolean) hret (by simp) (hb hby at_335) ?_ (by show _ ≤ 32; omega) (by show _ ≤ 256; omega)
      rw [e369]
      exact ⟨rfl, N369⟩
theorem w_0 {Z : State} {a0 : Array Value} (hw : ∀ d ∈ tables_1, d.before a0 Z = true) : (Jvm.Cond.arrayClass Jvm.ClassFile.FieldType.char).before a0 Z = true := hw _ (List.mem_of_getElem? (i := 0) rfl)
theorem w_5 {Z : State} {a0 : Array Value} (hw : ∀ d ∈ tables_1, d.before a0 Z = true) : (Jvm.Cond.methodLink "com/example/compact_transform/compacttransform/tree/StringFootprintLatin1PrefixOfJoinPinLaw" (19 : Nat) ({ cls := "com/example/compact_transform/compacttransform/tree/StringFootprintLatin1PrefixOfJoinPinLaw", name := "joinedAt", desc := "(JIII)C" } : Jvm.MethodName)).before a0 Z = true := hw _ (List.mem_of_getElem? (i := 5) rfl)
theorem w_7 {Z : State} {a0 : Array Value} (hw : ∀ d ∈ tables_1, d.before a0 Z = true) : (Jvm.Cond.code ({ cls := "com/example/compact_transform/compacttransform/tree/StringFootprintLatin1PrefixOfJoinPinLaw", name := "joinedAt", desc := "(JIII)C" } : Jvm.MethodName) method_4_code (5 : Nat) (Option.some Jvm.ClassFile.FieldType.char)).before a0 Z = true := hw _ (List.mem_of_getElem? (i := 7) rfl)
theorem w_6 {Z : State} {a0 : Array Value} (hw : ∀ d ∈ tables_1, d.before a0 Z = true) : (Jvm.Cond.static ({ cls := "com/example/compact_transform/compacttransform/tree/StringFootprintLatin1PrefixOfJoinPinLaw", name := "joinedAt", desc := "(JIII)C" } : Jvm.MethodName)).before a0 Z = true := hw _ (List.mem_of_getElem? (i := 6) rfl)
theorem w_8 {Z : State} {a0 : Array Value} (hw : ∀ d ∈ tables_1, d.before a0 Z = true) : (Jvm.Cond.classLink "com/example/compact_transform/compacttransform/tree/StringFootprintLatin1PrefixOfJoinPinLaw" (22 : Nat) "java/lang/String").before a0 Z = true := hw _ (List.mem_of_getElem? (i := 8) rfl)
theorem w_11 {Z : State} {a0 : Array Value} (hw : ∀ d ∈ tables_1, d.before a0 Z = true) : (Jvm.Cond.methodLink "com/example/compact_transform/compacttransform/tree/StringFootprintLatin1PrefixOfJoinPinLaw" (24 : Nat) ({ cls := "java/lang/String", name := "<init>", desc := "([C)V" } : Jvm.MethodName)).before a0 Z = true := hw _ (List.mem_of_getElem? (i := 11) rfl)
theorem w_13 {Z : State} {a0 : Array Value} (hw : ∀ d ∈ tables_1, d.before a0 Z = true) : (Jvm.Cond.code ({ cls := "java/lang/String", name := "<init>", desc := "([C)V" } : Jvm.MethodName) jdk_42_method_3_code (2 : Nat) (Option.none : Option Jvm.ClassFile.FieldType)).before a0 Z = true := hw _ (List.mem_of_getElem? (i := 13) rfl)
theorem pd_19 : parseMethodDescriptor "([C)V" = some ⟨[(.array .char)], none⟩ := by decide +kernel
theorem w_12 {Z : State} {a0 : Array Value} (hw : ∀ d ∈ tables_1, d.before a0 Z = true) : (Jvm.Cond.instanceMethod ({ cls := "java/lang/String", name := "<init>", desc := "([C)V" } : Jvm.MethodName)).before a0 Z = true := hw _ (List.mem_of_getElem? (i := 12) rfl)
theorem w_56 {Z : State} {a0 : Array Value} (hw : ∀ d ∈ tables_1, d.before a0 Z = true) : (Jvm.Cond.methodLink "com/example/compact_transform/compacttransform/tree/StringFootprintLatin1PrefixOfJoinPinLaw" (27 : Nat) ({ cls := "com/example/compact_transform/compacttransform/tree/StringFootprint", name := "latin1Prefix", desc := "(Ljava/lang/String;)I" } : Jvm.MethodName)).before a0 Z = true := hw _ (List.mem_of_getElem? (i := 56) rfl)
theorem w_59 {Z : State} {a0 : Array Value} (hw : ∀ d ∈ tables_1, d.before a0 Z = true) : (Jvm.Cond.code ({ cls := "com/example/compact_transform/compacttransform/tree/StringFootprint", name := "latin1Prefix", desc := "(Ljava/lang/String;)I" } : Jvm.MethodName) prog_118_method_4_code (3 : Nat) (Option.some Jvm.ClassFile.FieldType.int)).before a0 Z = true := hw _ (List.mem_of_getElem? (i := 59) rfl)
theorem pd_20 : parseMethodDescriptor "(Ljava/lang/String;)I" = some ⟨[(.object "java/lang/String")], some .int⟩ := by decide +kernel
theorem w_57 {Z : State} {a0 : Array Value} (hw : ∀ d ∈ tables_1, d.before a0 Z = true) : (Jvm.Cond.static ({ cls := "com/example/compact_transform/compacttransform/tree/StringFootprint", name := "latin1Prefix", desc := "(Ljava/lang/String;)I" } : Jvm.MethodName)).before a0 Z = true := hw _ (List.mem_of_getElem? (i := 57) rfl)
set_option maxRecDepth 65536 in
set_option maxHeartbeats 40000000 in
theorem sg_sB {p : Program} {l : Launch} {e : Env} {s : State} {m : MethodId} {args : Array Value} {below : List Frame} {meth : Method} {c : Code} {T0 : State} {locs : List Loc} {cells slots : Nat} {Z : State} {a0 : Array Value} (hw : ∀ d ∈ tables_1, d.before a0 Z = true)  {h0 : Heap} {n0 : Nat} (X0 : Stand p l e room_1 s m args below meth c T0 locs cells slots) (hlk : meth.locks = false) (hret : meth.sig.returnType = ret) (hx : p.tables.exec = Jvm.exec) (hby : c.code = code) (hml : c.maxLocals = maxLocals) (hown : s.vm.findClass "com/example/compact_transform/compacttransform/tree/StringFootprintLatin1PrefixOfJoinPinLaw" = some m.cls) (hZ : Z.Warmed39 s.vm) (e0 : T0.heap = h0) (N0 : Fr n0 locs) (Z0 : n0 ≤ h0.size)
    (iv : Int32) (bv : Int64) (zv : Int32) (gv : Value) (hq : Heap) (n1 n2 f1 f2 : Int32) (O0 : Old Z n0 h0) (hzv : ¬ zv = (0 : Int32)) (S0 : Sta Z Z.heap "java/lang/String" "COMPACT_STRINGS" "Z" (.int zv)) (rgv : gv.isRef = true) (G0 : Sta Z Z.heap "jdk/internal/util/Preconditions" "SIOOBE_FORMATTER" "Ljava/util/function/BiFunction;" gv) (Sa : Sta Z Z.heap "java/lang/StringUTF16" "$assertionsDisabled" "Z" (.int (1 : Int32))) (Sh : Sta Z Z.heap "java/lang/StringUTF16" "HI_BYTE_SHIFT" "I" (.int (0 : Int32))) (Sl : Sta Z Z.heap "java/lang/StringUTF16" "LO_BYTE_SHIFT" "I" (.int (8 : Int32))) (hn1 : n1 = 0 ∨ n1 = 1 ∨ n1 = 2 ∨ n1 = 3) (hn2 : n2 = 0 ∨ n2 = 1 ∨ n2 = 2 ∨ n2 = 3) (hf1 : f1 = 0 ∨ f1 = 1) (hf2 : f2 = 0 ∨ f2 = 1) (hcc : cells + 12 ≤ 32) (hss : slots + 72 ≤ 256) :
    own_Go p e below (own_Fin s room_1.cells room_1.slots (Q_law Z iv bv zv gv hq n0)) (T0.setTop (mkF m 39 #[.val (.int iv), .val (.long bv), .second, .val (.int n1), .val (.int n2), .val (.int f1), .unset, .unset, .unset, .unset, .unset, .unset, .unset, .unset, .unset, .unset, .unset] [(.int f2)])) := by
  show own_Go _ _ _ _ (T0.setTop (mkF m 39 #[.val (.int iv), .val (.long bv), .second, .val (.int n1), .val (.int n2), .val (.int f1), .unset, .unset, .unset, .unset, .unset, .unset, .unset, .unset, .unset, .unset, .unset] [(.int f2)]))
  refine own_go (fun t k => XS.istore X0.here hx rfl (hb hby at_39) rfl (l' := #[.val (.int iv), .val (.long bv), .second, .val (.int n1), .val (.int n2), .val (.int f1), .val (.int f2), .unset, .unset, .unset, .unset, .unset, .unset, .unset, .unset, .unset, .unset]) rfl k) ?_
  refine own_go (fun t k => XS.iconst X0.here hx rfl (hb hby at_41) k) ?_
  show own_Go _ _ _ _ (T0.setTop (mkF m 42 #[.val (.int iv), .val (.long bv), .second, .val (.int n1), .val (.int n2), .val (.int f1), .val (.int f2), .unset, .unset, .unset, .unset, .unset, .unset, .unset, .unset, .unset, .unset] [(.int (4 : Int32))]))
  obtain ⟨T370, h370, k370, X370, e370, E370, A370, st370⟩ := newP (aty := .char) X0 hx hZ (w_0 hw) e0 (n := (4 : Int32)) (rest := []) (g := (mkF m 42 #[.val (.int iv), .val (.long bv), .second, .val (.int n1), .val (.int n2), .val (.int f1), .val (.int f2), .unset, .unset, .unset, .unset, .unset, .unset, .unset, .unset, .unset, .unset] [(.int (4 : Int32))])) rfl (hb hby at_42) rfl (by decide) (cap := 4) (by decide) (by decide) (own_rm hcc (by decide) : cells + 1 ≤ 32) (own_rm hss (by decide) : slots + 4 ≤ 256)
  obtain ⟨b370, g370⟩ : ∃ z, z = h0.size := ⟨_, rfl⟩
  rw [← g370] at A370 st370
  refine own_go st370 ?_
  have Z370 : n0 ≤ h370.size := (Nat.le_trans Z0 E370.1)
  have lo370 : h0.size ≤ b370 := Nat.le_of_eq g370.symm
  have q370 : n0 ≤ b370 := Nat.le_trans Z0 lo370
  have hi370 : b370 < h370.size := A370.lt
  have V370 : Arv Z h370 b370 k370 .char (4 : Int32) [(.int (0 : Int32)), (.int (0 : Int32)), (.int (0 : Int32)), (.int (0 : Int32))] (.int (0 : Int32)) := (Arv.new A370 (by decide)).pad (pad_rep [] (.int (0 : Int32)) 4)
  refine own_go (fun t k => XS.dup X370.here hx rfl (hb hby at_44) rfl rfl k) ?_
  refine own_go (fun t k => XS.iconst X370.here hx rfl (hb hby at_45) k) ?_
  refine own_go (fun t k => XS.lloadN X370.here hx rfl (hb hby at_46) rfl k) ?_
  show own_Go _ _ _ _ (T370.setTop (mkF m 47 #[.val (.int iv), .val (.long bv), .second, .val (.int n1), .val (.int n2), .val (.int f1), .val (.int f2), .unset, .unset, .unset, .unset, .unset, .unset, .unset, .unset, .unset, .unset] [(.long bv), (.int (0 : Int32)), (.ref b370), (.ref b370)]))
  refine own_go (fun t k => XS.iconst X370.here hx rfl (hb hby at_47) k) ?_
  refine own_go (fun t k => XS.iloadN X370.here hx rfl (hb hby at_48) rfl k) ?_
  refine own_go (fun t k => XS.iconst X370.here hx rfl (hb hby at_49) k) ?_
  obtain ⟨_, _, ⟨T371, L371, k371, n371⟩, -, X371, ⟨Lc371, hQ371, l371, y371, z371⟩, st371⟩ := Jvm.LawKit.callS X370 hx (y := (⟨"com/example/compact_transform/compacttransform/tree/StringFootprintLatin1PrefixOfJoinPinLaw", "at", "(JIII)C"⟩ : MethodName)) hown (mvT hZ (w_1 hw)) (mvT hZ (w_2 hw)) (mvT hZ (w_3 hw)) (mvT hZ (w_4 hw)) (by decide) (backOf (W := 3) (rm_at l Z a0 hw [] bv (0 : Int32) n1 (0 : Int32) h370 n0 Z370 ) hZ (w_4 hw) (w_3 hw) (by decide) (by decide)) (g := (mkF m 50 #[.val (.int iv), .val (.long bv), .second, .val (.int n1), .val (.int n2), .val (.int f1), .val (.int f2), .unset, .unset, .unset, .unset, .unset, .unset, .unset, .unset, .unset, .unset] [(.int (0 : Int32)), (.int n1), (.int (0 : Int32)), (.long bv), (.int (0 : Int32)), (.ref b370), (.ref b370)])) rfl (by rw [hml]; rfl) (argsL := [(.long bv), (.int (0 : Int32)), (.int n1), (.int (0 : Int32))]) (rest := [(.int (0 : Int32)), (.ref b370), (.ref b370)]) (lenOf pd_1 rfl) rfl (by show 2 * 0 + _ ≤ _; exact Nat.le_of_eq rfl) (hb hby at_50) (fun _ _ => ⟨rfl, e370, (own_rm hcc (by decide) : cells + 1 ≤ 32), (own_rm hss (by decide) : slots + 4 ≤ 256)⟩)
  dsimp only [Pt.U, Pt.locs, Pt.cells, Pt.slots] at X371 l371 y371 z371 st371 hQ371
  rw [Nat.add_zero] at y371 z371
  subst y371 z371
  obtain ⟨rfl, N371q, e371⟩ := hQ371
  have N371 : Fr n0 L371 := by rw [l371]; exact Fr.app N0 N371q
  clear l371
  obtain ⟨a0_, ea0_⟩ : ∃ z, z = own_at9 bv (0 : Int32) n1 (0 : Int32) := ⟨_, rfl⟩
  rw [← ea0_] at st371
  have Ba0_ : own_B9 a0_ := ea0_ ▸ own_at9B _ _ _ _
  refine own_go st371 ?_
  show own_Go _ _ _ _ (T371.setTop (mkF m 53 #[.val (.int iv), .val (.long bv), .second, .val (.int n1), .val (.int n2), .val (.int f1), .val (.int f2), .unset, .unset, .unset, .unset, .unset, .unset, .unset, .unset, .unset, .unset] [(.int a0_), (.int (0 : Int32)), (.ref b370), (.ref b370)]))
  obtain ⟨cl372, Ar372, qk372, sz372, nn372, ha372, gf372⟩ := id V370
  have hin372 : ¬ ((0 : Int32) < 0 ∨ cl372.slots.size ≤ ((0 : Int32)).toNatClampNeg) := inb_of sz372 ⟨by decide, by decide⟩
  obtain ⟨T373, h373, X373, e373, W373, st373⟩ := stC X371 hx hZ e371 Ar372 (j := (0 : Int32)) hin372 (g := (mkF m 53 #[.val (.int iv), .val (.long bv), .second, .val (.int n1), .val (.int n2), .val (.int f1), .val (.int f2), .unset, .unset, .unset, .unset, .unset, .unset, .unset, .unset, .unset, .unset] [(.int a0_), (.int (0 : Int32)), (.ref b370), (.ref b370)])) rfl rfl (hb hby at_53)
  refine own_go st373 ?_
  rw [(own_nc9 Ba0_)] at W373
  have V373 : Arv Z h373 b370 k370 .char (4 : Int32) [(.int a0_), (.int (0 : Int32)), (.int (0 : Int32)), (.int (0 : Int32))] (.int (0 : Int32)) := Arv.set Ar372 qk372 sz372 nn372 ha372 gf372 (own_fc9 Ba0_) W373 0 rfl (Nat.le_of_ble_eq_true rfl)
  have Z373 : n0 ≤ h373.size := (Nat.le_trans Z370 (Nat.le_of_eq W373.size.symm))
  have N373 := Fr.snoc X373 N371 q370
  refine own_go (fun t k => XS.dup X373.here hx rfl (hb hby at_54) rfl rfl k) ?_
  refine own_go (fun t k => XS.iconst X373.here hx rfl (hb hby at_55) k) ?_
  refine own_go (fun t k => XS.lloadN X373.here hx rfl (hb hby at_56) rfl k) ?_
  show own_Go _ _ _ _ (T373.setTop (mkF m 57 #[.val (.int iv), .val (.long bv), .second, .val (.int n1), .val (.int n2), .val (.int f1), .val (.int f2), .unset, .unset, .unset, .unset, .unset, .unset, .unset, .unset, .unset, .unset] [(.long bv), (.int (1 : Int32)), (.ref b370), (.ref b370)]))
  refine own_go (fun t k => XS.iconst X373.here hx rfl (hb hby at_57) k) ?_
  refine own_go (fun t k => XS.iloadN X373.here hx rfl (hb hby at_58) rfl k) ?_
  refine own_go (fun t k => XS.iconst X373.here hx rfl (hb hby at_59) k) ?_
  obtain ⟨_, _, ⟨T374, L374, k374, n374⟩, -, X374, ⟨Lc374, hQ374, l374, y374, z374⟩, st374⟩ := Jvm.LawKit.callS X373 hx (y := (⟨"com/example/compact_transform/compacttransform/tree/StringFootprintLatin1PrefixOfJoinPinLaw", "at", "(JIII)C"⟩ : MethodName)) hown (mvT hZ (w_1 hw)) (mvT hZ (w_2 hw)) (mvT hZ (w_3 hw)) (mvT hZ (w_4 hw)) (by decide) (backOf (W := 3) (rm_at l Z a0 hw [] bv (0 : Int32) n1 (1 : Int32) h373 n0 Z373 ) hZ (w_4 hw) (w_3 hw) (by decide) (by decide)) (g := (mkF m 60 #[.val (.int iv), .val (.long bv), .second, .val (.int n1), .val (.int n2), .val (.int f1), .val (.int f2), .unset, .unset, .unset, .unset, .unset, .unset, .unset, .unset, .unset, .unset] [(.int (1 : Int32)), (.int n1), (.int (0 : Int32)), (.long bv), (.int (1 : Int32)), (.ref b370), (.ref b370)])) rfl (by rw [hml]; rfl) (argsL := [(.long bv), (.int (0 : Int32)), (.int n1), (.int (1 : Int32))]) (rest := [(.int (1 : Int32)), (.ref b370), (.ref b370)]) (lenOf pd_1 rfl) rfl (by show 2 * 0 + _ ≤ _; exact Nat.le_of_eq rfl) (hb hby at_60) (fun _ _ => ⟨rfl, e373, (own_rm hcc (by decide) : cells + 1 ≤ 32), (own_rm hss (by decide) : slots + 4 ≤ 256)⟩)
  dsimp only [Pt.U, Pt.locs, Pt.cells, Pt.slots] at X374 l374 y374 z374 st374 hQ374
  rw [Nat.add_zero] at y374 z374
  subst y374 z374
  obtain ⟨rfl, N374q, e374⟩ := hQ374
  have N374 : Fr n0 L374 := by rw [l374]; exact Fr.app N373 N374q
  clear l374
  obtain ⟨a1_, ea1_⟩ : ∃ z, z = own_at9 bv (0 : Int32) n1 (1 : Int32) := ⟨_, rfl⟩
  rw [← ea1_] at st374
  have Ba1_ : own_B9 a1_ := ea1_ ▸ own_at9B _ _ _ _
  refine own_go st374 ?_
  show own_Go _ _ _ _ (T374.setTop (mkF m 63 #[.val (.int iv), .val (.long bv), .second, .val (.int n1), .val (.int n2), .val (.int f1), .val (.int f2), .unset, .unset, .unset, .unset, .unset, .unset, .unset, .unset, .unset, .unset] [(.int a1_), (.int (1 : Int32)), (.ref b370), (.ref b370)]))
  obtain ⟨cl375, Ar375, qk375, sz375, nn375, ha375, gf375⟩ := id V373
  have hin375 : ¬ ((1 : Int32) < 0 ∨ cl375.slots.size ≤ ((1 : Int32)).toNatClampNeg) := inb_of sz375 ⟨by decide, by decide⟩
  obtain ⟨T376, h376, X376, e376, W376, st376⟩ := stC X374 hx hZ e374 Ar375 (j := (1 : Int32)) hin375 (g := (mkF m 63 #[.val (.int iv), .val (.long bv), .second, .val (.int n1), .val (.int n2), .val (.int f1), .val (.int f2), .unset, .unset, .unset, .unset, .unset, .unset, .unset, .unset, .unset, .unset] [(.int a1_), (.int (1 : Int32)), (.ref b370), (.ref b370)])) rfl rfl (hb hby at_63)
  refine own_go st376 ?_
  rw [(own_nc9 Ba1_)] at W376
  have V376 : Arv Z h376 b370 k370 .char (4 : Int32) [(.int a0_), (.int a1_), (.int (0 : Int32)), (.int (0 : Int32))] (.int (0 : Int32)) := Arv.set Ar375 qk375 sz375 nn375 ha375 gf375 (own_fc9 Ba1_) W376 1 rfl (Nat.le_of_ble_eq_true rfl)
  have Z376 : n0 ≤ h376.size := (Nat.le_trans Z373 (Nat.le_of_eq W376.size.symm))
  have N376 := Fr.snoc X376 N374 q370
  refine own_go (fun t k => XS.dup X376.here hx rfl (hb hby at_64) rfl rfl k) ?_
  refine own_go (fun t k => XS.iconst X376.here hx rfl (hb hby at_65) k) ?_
  refine own_go (fun t k => XS.lloadN X376.here hx rfl (hb hby at_66) rfl k) ?_
  show own_Go _ _ _ _ (T376.setTop (mkF m 67 #[.val (.int iv), .val (.long bv), .second, .val (.int n1), .val (.int n2), .val (.int f1), .val (.int f2), .unset, .unset, .unset, .unset, .unset, .unset, .unset, .unset, .unset, .unset] [(.long bv), (.int (2 : Int32)), (.ref b370), (.ref b370)]))
  refine own_go (fun t k => XS.iconst X376.here hx rfl (hb hby at_67) k) ?_
  refine own_go (fun t k => XS.iloadN X376.here hx rfl (hb hby at_68) rfl k) ?_
  refine own_go (fun t k => XS.iconst X376.here hx rfl (hb hby at_69) k) ?_
  obtain ⟨_, _, ⟨T377, L377, k377, n377⟩, -, X377, ⟨Lc377, hQ377, l377, y377, z377⟩, st377⟩ := Jvm.LawKit.callS X376 hx (y := (⟨"com/example/compact_transform/compacttransform/tree/StringFootprintLatin1PrefixOfJoinPinLaw", "at", "(JIII)C"⟩ : MethodName)) hown (mvT hZ (w_1 hw)) (mvT hZ (w_2 hw)) (mvT hZ (w_3 hw)) (mvT hZ (w_4 hw)) (by decide) (backOf (W := 3) (rm_at l Z a0 hw [] bv (0 : Int32) n1 (2 : Int32) h376 n0 Z376 ) hZ (w_4 hw) (w_3 hw) (by decide) (by decide)) (g := (mkF m 70 #[.val (.int iv), .val (.long bv), .second, .val (.int n1), .val (.int n2), .val (.int f1), .val (.int f2), .unset, .unset, .unset, .unset, .unset, .unset, .unset, .unset, .unset, .unset] [(.int (2 : Int32)), (.int n1), (.int (0 : Int32)), (.long bv), (.int (2 : Int32)), (.ref b370), (.ref b370)])) rfl (by rw [hml]; rfl) (argsL := [(.long bv), (.int (0 : Int32)), (.int n1), (.int (2 : Int32))]) (rest := [(.int (2 : Int32)), (.ref b370), (.ref b370)]) (lenOf pd_1 rfl) rfl (by show 2 * 0 + _ ≤ _; exact Nat.le_of_eq rfl) (hb hby at_70) (fun _ _ => ⟨rfl, e376, (own_rm hcc (by decide) : cells + 1 ≤ 32), (own_rm hss (by decide) : slots + 4 ≤ 256)⟩)
  dsimp only [Pt.U, Pt.locs, Pt.cells, Pt.slots] at X377 l377 y377 z377 st377 hQ377
  rw [Nat.add_zero] at y377 z377
  subst y377 z377
  obtain ⟨rfl, N377q, e377⟩ := hQ377
  have N377 : Fr n0 L377 := by rw [l377]; exact Fr.app N376 N377q
  clear l377
  obtain ⟨a2_, ea2_⟩ : ∃ z, z = own_at9 bv (0 : Int32) n1 (2 : Int32) := ⟨_, rfl⟩
  rw [← ea2_] at st377
  have Ba2_ : own_B9 a2_ := ea2_ ▸ own_at9B _ _ _ _
  refine own_go st377 ?_
  show own_Go _ _ _ _ (T377.setTop (mkF m 73 #[.val (.int iv), .val (.long bv), .second, .val (.int n1), .val (.int n2), .val (.int f1), .val (.int f2), .unset, .unset, .unset, .unset, .unset, .unset, .unset, .unset, .unset, .unset] [(.int a2_), (.int (2 : Int32)), (.ref b370), (.ref b370)]))
  obtain ⟨cl378, Ar378, qk378, sz378, nn378, ha378, gf378⟩ := id V376
  have hin378 : ¬ ((2 : Int32) < 0 ∨ cl378.slots.size ≤ ((2 : Int32)).toNatClampNeg) := inb_of sz378 ⟨by decide, by decide⟩
  obtain ⟨T379, h379, X379, e379, W379, st379⟩ := stC X377 hx hZ e377 Ar378 (j := (2 : Int32)) hin378 (g := (mkF m 73 #[.val (.int iv), .val (.long bv), .second, .val (.int n1), .val (.int n2), .val (.int f1), .val (.int f2), .unset, .unset, .unset, .unset, .unset, .unset, .unset, .unset, .unset, .unset] [(.int a2_), (.int (2 : Int32)), (.ref b370), (.ref b370)])) rfl rfl (hb hby at_73)
  refine own_go st379 ?_
  rw [(own_nc9 Ba2_)] at W379
  have V379 : Arv Z h379 b370 k370 .char (4 : Int32) [(.int a0_), (.int a1_), (.int a2_), (.int (0 : Int32))] (.int (0 : Int32)) := Arv.set Ar378 qk378 sz378 nn378 ha378 gf378 (own_fc9 Ba2_) W379 2 rfl (Nat.le_of_ble_eq_true rfl)
  have Z379 : n0 ≤ h379.size := (Nat.le_trans Z376 (Nat.le_of_eq W379.size.symm))
  have N379 := Fr.snoc X379 N377 q370
  refine own_go (fun t k => XS.dup X379.here hx rfl (hb hby at_74) rfl rfl k) ?_
  refine own_go (fun t k => XS.iconst X379.here hx rfl (hb hby at_75) k) ?_
  refine own_go (fun t k => XS.sipush X379.here hx rfl (hb hby at_76) k) ?_
  show own_Go _ _ _ _ (T379.setTop (mkF m 79 #[.val (.int iv), .val (.long bv), .second, .val (.int n1), .val (.int n2), .val (.int f1), .val (.int f2), .unset, .unset, .unset, .unset, .unset, .unset, .unset, .unset, .unset, .unset] [(.int (256 : Int32)), (.int (3 : Int32)), (.ref b370), (.ref b370)]))
  obtain ⟨cl380, Ar380, qk380, sz380, nn380, ha380, gf380⟩ := id V379
  have hin380 : ¬ ((3 : Int32) < 0 ∨ cl380.slots.size ≤ ((3 : Int32)).toNatClampNeg) := inb_of sz380 ⟨by decide, by decide⟩
  obtain ⟨T381, h381, X381, e381, W381, st381⟩ := stC X379 hx hZ e379 Ar380 (j := (3 : Int32)) hin380 (g := (mkF m 79 #[.val (.int iv), .val (.long bv), .second, .val (.int n1), .val (.int n2), .val (.int f1), .val (.int f2), .unset, .unset, .unset, .unset, .unset, .unset, .unset, .unset, .unset, .unset] [(.int (256 : Int32)), (.int (3 : Int32)), (.ref b370), (.ref b370)])) rfl rfl (hb hby at_79)
  refine own_go st381 ?_
  have V381 : Arv Z h381 b370 k370 .char (4 : Int32) [(.int a0_), (.int a1_), (.int a2_), (.int (256 : Int32))] (.int (0 : Int32)) := Arv.set Ar380 qk380 sz380 nn380 ha380 gf380 rfl W381 3 rfl (Nat.le_of_ble_eq_true rfl)
  have Z381 : n0 ≤ h381.size := (Nat.le_trans Z379 (Nat.le_of_eq W381.size.symm))
  have N381 := Fr.snoc X381 N379 q370
  refine own_go (fun t k => XS.astore X381.here hx rfl (hb hby at_80) rfl rfl (l' := #[.val (.int iv), .val (.long bv), .second, .val (.int n1), .val (.int n2), .val (.int f1), .val (.int f2), .val (.ref b370), .unset, .unset, .unset, .unset, .unset, .unset, .unset, .unset, .unset]) rfl k) ?_
  refine own_go (fun t k => XS.iconst X381.here hx rfl (hb hby at_82) k) ?_
  show own_Go _ _ _ _ (T381.setTop (mkF m 83 #[.val (.int iv), .val (.long bv), .second, .val (.int n1), .val (.int n2), .val (.int f1), .val (.int f2), .val (.ref b370), .unset, .unset, .unset, .unset, .unset, .unset, .unset, .unset, .unset] [(.int (4 : Int32))]))
  obtain ⟨T382, h382, k382, X382, e382, E382, A382, st382⟩ := newP (aty := .char) X381 hx hZ (w_0 hw) e381 (n := (4 : Int32)) (rest := []) (g := (mkF m 83 #[.val (.int iv), .val (.long bv), .second, .val (.int n1), .val (.int n2), .val (.int f1), .val (.int f2), .val (.ref b370), .unset, .unset, .unset, .unset, .unset, .unset, .unset, .unset, .unset] [(.int (4 : Int32))])) rfl (hb hby at_83) rfl (by decide) (cap := 4) (by decide) (by decide) (own_rm hcc (by decide) : cells + 2 ≤ 32) (own_rm hss (by decide) : slots + 8 ≤ 256)
  obtain ⟨b382, g382⟩ : ∃ z, z = h381.size := ⟨_, rfl⟩
  rw [← g382] at A382 st382
  refine own_go st382 ?_
  have Z382 : n0 ≤ h382.size := (Nat.le_trans Z381 E382.1)
  have lo382 : h381.size ≤ b382 := Nat.le_of_eq g382.symm
  have q382 : n0 ≤ b382 := Nat.le_trans Z381 lo382
  have hi382 : b382 < h382.size := A382.lt
  have V382 : Arv Z h382 b382 k382 .char (4 : Int32) [(.int (0 : Int32)), (.int (0 : Int32)), (.int (0 : Int32)), (.int (0 : Int32))] (.int (0 : Int32)) := (Arv.new A382 (by decide)).pad (pad_rep [] (.int (0 : Int32)) 4)
  refine own_go (fun t k => XS.dup X382.here hx rfl (hb hby at_85) rfl rfl k) ?_
  refine own_go (fun t k => XS.iconst X382.here hx rfl (hb hby at_86) k) ?_
  refine own_go (fun t k => XS.lloadN X382.here hx rfl (hb hby at_87) rfl k) ?_
  show own_Go _ _ _ _ (T382.setTop (mkF m 88 #[.val (.int iv), .val (.long bv), .second, .val (.int n1), .val (.int n2), .val (.int f1), .val (.int f2), .val (.ref b370), .unset, .unset, .unset, .unset, .unset, .unset, .unset, .unset, .unset] [(.long bv), (.int (0 : Int32)), (.ref b382), (.ref b382)]))
  refine own_go (fun t k => XS.iconst X382.here hx rfl (hb hby at_88) k) ?_
  refine own_go (fun t k => XS.iload X382.here hx rfl (hb hby at_89) rfl k) ?_
  refine own_go (fun t k => XS.iconst X382.here hx rfl (hb hby at_91) k) ?_
  obtain ⟨_, _, ⟨T383, L383, k383, n383⟩, -, X383, ⟨Lc383, hQ383, l383, y383, z383⟩, st383⟩ := Jvm.LawKit.callS X382 hx (y := (⟨"com/example/compact_transform/compacttransform/tree/StringFootprintLatin1PrefixOfJoinPinLaw", "at", "(JIII)C"⟩ : MethodName)) hown (mvT hZ (w_1 hw)) (mvT hZ (w_2 hw)) (mvT hZ (w_3 hw)) (mvT hZ (w_4 hw)) (by decide) (backOf (W := 3) (rm_at l Z a0 hw [] bv (3 : Int32) n2 (0 : Int32) h382 n0 Z382 ) hZ (w_4 hw) (w_3 hw) (by decide) (by decide)) (g := (mkF m 92 #[.val (.int iv), .val (.long bv), .second, .val (.int n1), .val (.int n2), .val (.int f1), .val (.int f2), .val (.ref b370), .unset, .unset, .unset, .unset, .unset, .unset, .unset, .unset, .unset] [(.int (0 : Int32)), (.int n2), (.int (3 : Int32)), (.long bv), (.int (0 : Int32)), (.ref b382), (.ref b382)])) rfl (by rw [hml]; rfl) (argsL := [(.long bv), (.int (3 : Int32)), (.int n2), (.int (0 : Int32))]) (rest := [(.int (0 : Int32)), (.ref b382), (.ref b382)]) (lenOf pd_1 rfl) rfl (by show 2 * 0 + _ ≤ _; exact Nat.le_of_eq rfl) (hb hby at_92) (fun _ _ => ⟨rfl, e382, (own_rm hcc (by decide) : cells + 2 ≤ 32), (own_rm hss (by decide) : slots + 8 ≤ 256)⟩)
  dsimp only [Pt.U, Pt.locs, Pt.cells, Pt.slots] at X383 l383 y383 z383 st383 hQ383
  rw [Nat.add_zero] at y383 z383
  subst y383 z383
  obtain ⟨rfl, N383q, e383⟩ := hQ383
  have N383 : Fr n0 L383 := by rw [l383]; exact Fr.app N381 N383q
  clear l383
  obtain ⟨e0_, ee0_⟩ : ∃ z, z = own_at9 bv (3 : Int32) n2 (0 : Int32) := ⟨_, rfl⟩
  rw [← ee0_] at st383
  have Be0_ : own_B9 e0_ := ee0_ ▸ own_at9B _ _ _ _
  refine own_go st383 ?_
  show own_Go _ _ _ _ (T383.setTop (mkF m 95 #[.val (.int iv), .val (.long bv), .second, .val (.int n1), .val (.int n2), .val (.int f1), .val (.int f2), .val (.ref b370), .unset, .unset, .unset, .unset, .unset, .unset, .unset, .unset, .unset] [(.int e0_), (.int (0 : Int32)), (.ref b382), (.ref b382)]))
  obtain ⟨cl384, Ar384, qk384, sz384, nn384, ha384, gf384⟩ := id V382
  have hin384 : ¬ ((0 : Int32) < 0 ∨ cl384.slots.size ≤ ((0 : Int32)).toNatClampNeg) := inb_of sz384 ⟨by decide, by decide⟩
  obtain ⟨T385, h385, X385, e385, W385, st385⟩ := stC X383 hx hZ e383 Ar384 (j := (0 : Int32)) hin384 (g := (mkF m 95 #[.val (.int iv), .val (.long bv), .second, .val (.int n1), .val (.int n2), .val (.int f1), .val (.int f2), .val (.ref b370), .unset, .unset, .unset, .unset, .unset, .unset, .unset, .unset, .unset] [(.int e0_), (.int (0 : Int32)), (.ref b382), (.ref b382)])) rfl rfl (hb hby at_95)
  refine own_go st385 ?_
  rw [(own_nc9 Be0_)] at W385
  have V385 : Arv Z h385 b382 k382 .char (4 : Int32) [(.int e0_), (.int (0 : Int32)), (.int (0 : Int32)), (.int (0 : Int32))] (.int (0 : Int32)) := Arv.set Ar384 qk384 sz384 nn384 ha384 gf384 (own_fc9 Be0_) W385 0 rfl (Nat.le_of_ble_eq_true rfl)
  have Z385 : n0 ≤ h385.size := (Nat.le_trans Z382 (Nat.le_of_eq W385.size.symm))
  have N385 := Fr.snoc X385 N383 q382
  refine own_go (fun t k => XS.dup X385.here hx rfl (hb hby at_96) rfl rfl k) ?_
  refine own_go (fun t k => XS.iconst X385.here hx rfl (hb hby at_97) k) ?_
  refine own_go (fun t k => XS.lloadN X385.here hx rfl (hb hby at_98) rfl k) ?_
  show own_Go _ _ _ _ (T385.setTop (mkF m 99 #[.val (.int iv), .val (.long bv), .second, .val (.int n1), .val (.int n2), .val (.int f1), .val (.int f2), .val (.ref b370), .unset, .unset, .unset, .unset, .unset, .unset, .unset, .unset, .unset] [(.long bv), (.int (1 : Int32)), (.ref b382), (.ref b382)]))
  refine own_go (fun t k => XS.iconst X385.here hx rfl (hb hby at_99) k) ?_
  refine own_go (fun t k => XS.iload X385.here hx rfl (hb hby at_100) rfl k) ?_
  refine own_go (fun t k => XS.iconst X385.here hx rfl (hb hby at_102) k) ?_
  obtain ⟨_, _, ⟨T386, L386, k386, n386⟩, -, X386, ⟨Lc386, hQ386, l386, y386, z386⟩, st386⟩ := Jvm.LawKit.callS X385 hx (y := (⟨"com/example/compact_transform/compacttransform/tree/StringFootprintLatin1PrefixOfJoinPinLaw", "at", "(JIII)C"⟩ : MethodName)) hown (mvT hZ (w_1 hw)) (mvT hZ (w_2 hw)) (mvT hZ (w_3 hw)) (mvT hZ (w_4 hw)) (by decide) (backOf (W := 3) (rm_at l Z a0 hw [] bv (3 : Int32) n2 (1 : Int32) h385 n0 Z385 ) hZ (w_4 hw) (w_3 hw) (by decide) (by decide)) (g := (mkF m 103 #[.val (.int iv), .val (.long bv), .second, .val (.int n1), .val (.int n2), .val (.int f1), .val (.int f2), .val (.ref b370), .unset, .unset, .unset, .unset, .unset, .unset, .unset, .unset, .unset] [(.int (1 : Int32)), (.int n2), (.int (3 : Int32)), (.long bv), (.int (1 : Int32)), (.ref b382), (.ref b382)])) rfl (by rw [hml]; rfl) (argsL := [(.long bv), (.int (3 : Int32)), (.int n2), (.int (1 : Int32))]) (rest := [(.int (1 : Int32)), (.ref b382), (.ref b382)]) (lenOf pd_1 rfl) rfl (by show 2 * 0 + _ ≤ _; exact Nat.le_of_eq rfl) (hb hby at_103) (fun _ _ => ⟨rfl, e385, (own_rm hcc (by decide) : cells + 2 ≤ 32), (own_rm hss (by decide) : slots + 8 ≤ 256)⟩)
  dsimp only [Pt.U, Pt.locs, Pt.cells, Pt.slots] at X386 l386 y386 z386 st386 hQ386
  rw [Nat.add_zero] at y386 z386
  subst y386 z386
  obtain ⟨rfl, N386q, e386⟩ := hQ386
  have N386 : Fr n0 L386 := by rw [l386]; exact Fr.app N385 N386q
  clear l386
  obtain ⟨e1_, ee1_⟩ : ∃ z, z = own_at9 bv (3 : Int32) n2 (1 : Int32) := ⟨_, rfl⟩
  rw [← ee1_] at st386
  have Be1_ : own_B9 e1_ := ee1_ ▸ own_at9B _ _ _ _
  refine own_go st386 ?_
  show own_Go _ _ _ _ (T386.setTop (mkF m 106 #[.val (.int iv), .val (.long bv), .second, .val (.int n1), .val (.int n2), .val (.int f1), .val (.int f2), .val (.ref b370), .unset, .unset, .unset, .unset, .unset, .unset, .unset, .unset, .unset] [(.int e1_), (.int (1 : Int32)), (.ref b382), (.ref b382)]))
  obtain ⟨cl387, Ar387, qk387, sz387, nn387, ha387, gf387⟩ := id V385
  have hin387 : ¬ ((1 : Int32) < 0 ∨ cl387.slots.size ≤ ((1 : Int32)).toNatClampNeg) := inb_of sz387 ⟨by decide, by decide⟩
  obtain ⟨T388, h388, X388, e388, W388, st388⟩ := stC X386 hx hZ e386 Ar387 (j := (1 : Int32)) hin387 (g := (mkF m 106 #[.val (.int iv), .val (.long bv), .second, .val (.int n1), .val (.int n2), .val (.int f1), .val (.int f2), .val (.ref b370), .unset, .unset, .unset, .unset, .unset, .unset, .unset, .unset, .unset] [(.int e1_), (.int (1 : Int32)), (.ref b382), (.ref b382)])) rfl rfl (hb hby at_106)
  refine own_go st388 ?_
  rw [(own_nc9 Be1_)] at W388
  have V388 : Arv Z h388 b382 k382 .char (4 : Int32) [(.int e0_), (.int e1_), (.int (0 : Int32)), (.int (0 : Int32))] (.int (0 : Int32)) := Arv.set Ar387 qk387 sz387 nn387 ha387 gf387 (own_fc9 Be1_) W388 1 rfl (Nat.le_of_ble_eq_true rfl)
  have Z388 : n0 ≤ h388.size := (Nat.le_trans Z385 (Nat.le_of_eq W388.size.symm))
  have N388 := Fr.snoc X388 N386 q382
  refine own_go (fun t k => XS.dup X388.here hx rfl (hb hby at_107) rfl rfl k) ?_
  refine own_go (fun t k => XS.iconst X388.here hx rfl (hb hby at_108) k) ?_
  refine own_go (fun t k => XS.lloadN X388.here hx rfl (hb hby at_109) rfl k) ?_
  show own_Go _ _ _ _ (T388.setTop (mkF m 110 #[.val (.int iv), .val (.long bv), .second, .val (.int n1), .val (.int n2), .val (.int f1), .val (.int f2), .val (.ref b370), .unset, .unset, .unset, .unset, .unset, .unset, .unset, .unset, .unset] [(.long bv), (.int (2 : Int32)), (.ref b382), (.ref b382)]))
  refine own_go (fun t k => XS.iconst X388.here hx rfl (hb hby at_110) k) ?_
  refine own_go (fun t k => XS.iload X388.here hx rfl (hb hby at_111) rfl k) ?_
  refine own_go (fun t k => XS.iconst X388.here hx rfl (hb hby at_113) k) ?_
  obtain ⟨_, _, ⟨T389, L389, k389, n389⟩, -, X389, ⟨Lc389, hQ389, l389, y389, z389⟩, st389⟩ := Jvm.LawKit.callS X388 hx (y := (⟨"com/example/compact_transform/compacttransform/tree/StringFootprintLatin1PrefixOfJoinPinLaw", "at", "(JIII)C"⟩ : MethodName)) hown (mvT hZ (w_1 hw)) (mvT hZ (w_2 hw)) (mvT hZ (w_3 hw)) (mvT hZ (w_4 hw)) (by decide) (backOf (W := 3) (rm_at l Z a0 hw [] bv (3 : Int32) n2 (2 : Int32) h388 n0 Z388 ) hZ (w_4 hw) (w_3 hw) (by decide) (by decide)) (g := (mkF m 114 #[.val (.int iv), .val (.long bv), .second, .val (.int n1), .val (.int n2), .val (.int f1), .val (.int f2), .val (.ref b370), .unset, .unset, .unset, .unset, .unset, .unset, .unset, .unset, .unset] [(.int (2 : Int32)), (.int n2), (.int (3 : Int32)), (.long bv), (.int (2 : Int32)), (.ref b382), (.ref b382)])) rfl (by rw [hml]; rfl) (argsL := [(.long bv), (.int (3 : Int32)), (.int n2), (.int (2 : Int32))]) (rest := [(.int (2 : Int32)), (.ref b382), (.ref b382)]) (lenOf pd_1 rfl) rfl (by show 2 * 0 + _ ≤ _; exact Nat.le_of_eq rfl) (hb hby at_114) (fun _ _ => ⟨rfl, e388, (own_rm hcc (by decide) : cells + 2 ≤ 32), (own_rm hss (by decide) : slots + 8 ≤ 256)⟩)
  dsimp only [Pt.U, Pt.locs, Pt.cells, Pt.slots] at X389 l389 y389 z389 st389 hQ389
  rw [Nat.add_zero] at y389 z389
  subst y389 z389
  obtain ⟨rfl, N389q, e389⟩ := hQ389
  have N389 : Fr n0 L389 := by rw [l389]; exact Fr.app N388 N389q
  clear l389
  obtain ⟨e2_, ee2_⟩ : ∃ z, z = own_at9 bv (3 : Int32) n2 (2 : Int32) := ⟨_, rfl⟩
  rw [← ee2_] at st389
  have Be2_ : own_B9 e2_ := ee2_ ▸ own_at9B _ _ _ _
  refine own_go st389 ?_
  show own_Go _ _ _ _ (T389.setTop (mkF m 117 #[.val (.int iv), .val (.long bv), .second, .val (.int n1), .val (.int n2), .val (.int f1), .val (.int f2), .val (.ref b370), .unset, .unset, .unset, .unset, .unset, .unset, .unset, .unset, .unset] [(.int e2_), (.int (2 : Int32)), (.ref b382), (.ref b382)]))
  obtain ⟨cl390, Ar390, qk390, sz390, nn390, ha390, gf390⟩ := id V388
  have hin390 : ¬ ((2 : Int32) < 0 ∨ cl390.slots.size ≤ ((2 : Int32)).toNatClampNeg) := inb_of sz390 ⟨by decide, by decide⟩
  obtain ⟨T391, h391, X391, e391, W391, st391⟩ := stC X389 hx hZ e389 Ar390 (j := (2 : Int32)) hin390 (g := (mkF m 117 #[.val (.int iv), .val (.long bv), .second, .val (.int n1), .val (.int n2), .val (.int f1), .val (.int f2), .val (.ref b370), .unset, .unset, .unset, .unset, .unset, .unset, .unset, .unset, .unset] [(.int e2_), (.int (2 : Int32)), (.ref b382), (.ref b382)])) rfl rfl (hb hby at_117)
  refine own_go st391 ?_
  rw [(own_nc9 Be2_)] at W391
  have V391 : Arv Z h391 b382 k382 .char (4 : Int32) [(.int e0_), (.int e1_), (.int e2_), (.int (0 : Int32))] (.int (0 : Int32)) := Arv.set Ar390 qk390 sz390 nn390 ha390 gf390 (own_fc9 Be2_) W391 2 rfl (Nat.le_of_ble_eq_true rfl)
  have Z391 : n0 ≤ h391.size := (Nat.le_trans Z388 (Nat.le_of_eq W391.size.symm))
  have N391 := Fr.snoc X391 N389 q382
  refine own_go (fun t k => XS.dup X391.here hx rfl (hb hby at_118) rfl rfl k) ?_
  refine own_go (fun t k => XS.iconst X391.here hx rfl (hb hby at_119) k) ?_
  refine own_go (fun t k => XS.sipush X391.here hx rfl (hb hby at_120) k) ?_
  show own_Go _ _ _ _ (T391.setTop (mkF m 123 #[.val (.int iv), .val (.long bv), .second, .val (.int n1), .val (.int n2), .val (.int f1), .val (.int f2), .val (.ref b370), .unset, .unset, .unset, .unset, .unset, .unset, .unset, .unset, .unset] [(.int (256 : Int32)), (.int (3 : Int32)), (.ref b382), (.ref b382)]))
  obtain ⟨cl392, Ar392, qk392, sz392, nn392, ha392, gf392⟩ := id V391
  have hin392 : ¬ ((3 : Int32) < 0 ∨ cl392.slots.size ≤ ((3 : Int32)).toNatClampNeg) := inb_of sz392 ⟨by decide, by decide⟩
  obtain ⟨T393, h393, X393, e393, W393, st393⟩ := stC X391 hx hZ e391 Ar392 (j := (3 : Int32)) hin392 (g := (mkF m 123 #[.val (.int iv), .val (.long bv), .second, .val (.int n1), .val (.int n2), .val (.int f1), .val (.int f2), .val (.ref b370), .unset, .unset, .unset, .unset, .unset, .unset, .unset, .unset, .unset] [(.int (256 : Int32)), (.int (3 : Int32)), (.ref b382), (.ref b382)])) rfl rfl (hb hby at_123)
  refine own_go st393 ?_
  have V393 : Arv Z h393 b382 k382 .char (4 : Int32) [(.int e0_), (.int e1_), (.int e2_), (.int (256 : Int32))] (.int (0 : Int32)) := Arv.set Ar392 qk392 sz392 nn392 ha392 gf392 rfl W393 3 rfl (Nat.le_of_ble_eq_true rfl)
  have Z393 : n0 ≤ h393.size := (Nat.le_trans Z391 (Nat.le_of_eq W393.size.symm))
  have N393 := Fr.snoc X393 N391 q382
  refine own_go (fun t k => XS.astore X393.here hx rfl (hb hby at_124) rfl rfl (l' := #[.val (.int iv), .val (.long bv), .second, .val (.int n1), .val (.int n2), .val (.int f1), .val (.int f2), .val (.ref b370), .val (.ref b382), .unset, .unset, .unset, .unset, .unset, .unset, .unset, .unset]) rfl k) ?_
  refine own_go (fun t k => XS.bipush X393.here hx rfl (hb hby at_126) k) ?_
  show own_Go _ _ _ _ (T393.setTop (mkF m 128 #[.val (.int iv), .val (.long bv), .second, .val (.int n1), .val (.int n2), .val (.int f1), .val (.int f2), .val (.ref b370), .val (.ref b382), .unset, .unset, .unset, .unset, .unset, .unset, .unset, .unset] [(.int (7 : Int32))]))
  obtain ⟨T394, h394, k394, X394, e394, E394, A394, st394⟩ := newP (aty := .char) X393 hx hZ (w_0 hw) e393 (n := (7 : Int32)) (rest := []) (g := (mkF m 128 #[.val (.int iv), .val (.long bv), .second, .val (.int n1), .val (.int n2), .val (.int f1), .val (.int f2), .val (.ref b370), .val (.ref b382), .unset, .unset, .unset, .unset, .unset, .unset, .unset, .unset] [(.int (7 : Int32))])) rfl (hb hby at_128) rfl (by decide) (cap := 7) (by decide) (by decide) (own_rm hcc (by decide) : cells + 3 ≤ 32) (own_rm hss (by decide) : slots + 15 ≤ 256)
  obtain ⟨b394, g394⟩ : ∃ z, z = h393.size := ⟨_, rfl⟩
  rw [← g394] at A394 st394
  refine own_go st394 ?_
  have Z394 : n0 ≤ h394.size := (Nat.le_trans Z393 E394.1)
  have lo394 : h393.size ≤ b394 := Nat.le_of_eq g394.symm
  have q394 : n0 ≤ b394 := Nat.le_trans Z393 lo394
  have hi394 : b394 < h394.size := A394.lt
  have V394 : Arv Z h394 b394 k394 .char (7 : Int32) [(.int (0 : Int32)), (.int (0 : Int32)), (.int (0 : Int32)), (.int (0 : Int32)), (.int (0 : Int32)), (.int (0 : Int32)), (.int (0 : Int32))] (.int (0 : Int32)) := (Arv.new A394 (by decide)).pad (pad_rep [] (.int (0 : Int32)) 7)
  refine own_go (fun t k => XS.dup X394.here hx rfl (hb hby at_130) rfl rfl k) ?_
  refine own_go (fun t k => XS.iconst X394.here hx rfl (hb hby at_131) k) ?_
  refine own_go (fun t k => XS.lloadN X394.here hx rfl (hb hby at_132) rfl k) ?_
  show own_Go _ _ _ _ (T394.setTop (mkF m 133 #[.val (.int iv), .val (.long bv), .second, .val (.int n1), .val (.int n2), .val (.int f1), .val (.int f2), .val (.ref b370), .val (.ref b382), .unset, .unset, .unset, .unset, .unset, .unset, .unset, .unset] [(.long bv), (.int (0 : Int32)), (.ref b394), (.ref b394)]))
  refine own_go (fun t k => XS.iloadN X394.here hx rfl (hb hby at_133) rfl k) ?_
  refine own_go (fun t k => XS.iload X394.here hx rfl (hb hby at_134) rfl k) ?_
  refine own_go (fun t k => XS.iconst X394.here hx rfl (hb hby at_136) k) ?_
  obtain ⟨_, _, ⟨T395, L395, k395, n395⟩, -, X395, ⟨Lc395, hQ395, l395, y395, z395⟩, st395⟩ := Jvm.LawKit.callS X394 hx (y := (⟨"com/example/compact_transform/compacttransform/tree/StringFootprintLatin1PrefixOfJoinPinLaw", "joinedAt", "(JIII)C"⟩ : MethodName)) hown (mvT hZ (w_5 hw)) (mvT hZ (w_6 hw)) (mvT hZ (w_3 hw)) (mvT hZ (w_7 hw)) (by decide) (backOf (W := 3) (rm_jat l Z a0 hw [] bv n1 n2 (0 : Int32) h394 n0 Z394 ) hZ (w_7 hw) (w_3 hw) (by decide) (by decide)) (g := (mkF m 137 #[.val (.int iv), .val (.long bv), .second, .val (.int n1), .val (.int n2), .val (.int f1), .val (.int f2), .val (.ref b370), .val (.ref b382), .unset, .unset, .unset, .unset, .unset, .unset, .unset, .unset] [(.int (0 : Int32)), (.int n2), (.int n1), (.long bv), (.int (0 : Int32)), (.ref b394), (.ref b394)])) rfl (by rw [hml]; rfl) (argsL := [(.long bv), (.int n1), (.int n2), (.int (0 : Int32))]) (rest := [(.int (0 : Int32)), (.ref b394), (.ref b394)]) (lenOf pd_1 rfl) rfl (by show 2 * 0 + _ ≤ _; exact Nat.le_of_eq rfl) (hb hby at_137) (fun _ _ => ⟨rfl, e394, (own_rm hcc (by decide) : cells + 3 ≤ 32), (own_rm hss (by decide) : slots + 15 ≤ 256)⟩)
  dsimp only [Pt.U, Pt.locs, Pt.cells, Pt.slots] at X395 l395 y395 z395 st395 hQ395
  rw [Nat.add_zero] at y395 z395
  subst y395 z395
  obtain ⟨rfl, N395q, e395⟩ := hQ395
  have N395 : Fr n0 L395 := by rw [l395]; exact Fr.app N393 N395q
  clear l395
  obtain ⟨j0_, ej0_⟩ : ∃ z, z = own_j9 bv n1 n2 (0 : Int32) := ⟨_, rfl⟩
  rw [← ej0_] at st395
  have Bj0_ : own_B9 j0_ := ej0_ ▸ own_j9B _ _ _ _
  refine own_go st395 ?_
  show own_Go _ _ _ _ (T395.setTop (mkF m 140 #[.val (.int iv), .val (.long bv), .second, .val (.int n1), .val (.int n2), .val (.int f1), .val (.int f2), .val (.ref b370), .val (.ref b382), .unset, .unset, .unset, .unset, .unset, .unset, .unset, .unset] [(.int j0_), (.int (0 : Int32)), (.ref b394), (.ref b394)]))
  obtain ⟨cl396, Ar396, qk396, sz396, nn396, ha396, gf396⟩ := id V394
  have hin396 : ¬ ((0 : Int32) < 0 ∨ cl396.slots.size ≤ ((0 : Int32)).toNatClampNeg) := inb_of sz396 ⟨by decide, by decide⟩
  obtain ⟨T397, h397, X397, e397, W397, st397⟩ := stC X395 hx hZ e395 Ar396 (j := (0 : Int32)) hin396 (g := (mkF m 140 #[.val (.int iv), .val (.long bv), .second, .val (.int n1), .val (.int n2), .val (.int f1), .val (.int f2), .val (.ref b370), .val (.ref b382), .unset, .unset, .unset, .unset, .unset, .unset, .unset, .unset] [(.int j0_), (.int (0 : Int32)), (.ref b394), (.ref b394)])) rfl rfl (hb hby at_140)
  refine own_go st397 ?_
  rw [(own_nc9 Bj0_)] at W397
  have V397 : Arv Z h397 b394 k394 .char (7 : Int32) [(.int j0_), (.int (0 : Int32)), (.int (0 : Int32)), (.int (0 : Int32)), (.int (0 : Int32)), (.int (0 : Int32)), (.int (0 : Int32))] (.int (0 : Int32)) := Arv.set Ar396 qk396 sz396 nn396 ha396 gf396 (own_fc9 Bj0_) W397 0 rfl (Nat.le_of_ble_eq_true rfl)
  have Z397 : n0 ≤ h397.size := (Nat.le_trans Z394 (Nat.le_of_eq W397.size.symm))
  have N397 := Fr.snoc X397 N395 q394
  refine own_go (fun t k => XS.dup X397.here hx rfl (hb hby at_141) rfl rfl k) ?_
  refine own_go (fun t k => XS.iconst X397.here hx rfl (hb hby at_142) k) ?_
  refine own_go (fun t k => XS.lloadN X397.here hx rfl (hb hby at_143) rfl k) ?_
  show own_Go _ _ _ _ (T397.setTop (mkF m 144 #[.val (.int iv), .val (.long bv), .second, .val (.int n1), .val (.int n2), .val (.int f1), .val (.int f2), .val (.ref b370), .val (.ref b382), .unset, .unset, .unset, .unset, .unset, .unset, .unset, .unset] [(.long bv), (.int (1 : Int32)), (.ref b394), (.ref b394)]))
  refine own_go (fun t k => XS.iloadN X397.here hx rfl (hb hby at_144) rfl k) ?_
  refine own_go (fun t k => XS.iload X397.here hx rfl (hb hby at_145) rfl k) ?_
  refine own_go (fun t k => XS.iconst X397.here hx rfl (hb hby at_147) k) ?_
  obtain ⟨_, _, ⟨T398, L398, k398, n398⟩, -, X398, ⟨Lc398, hQ398, l398, y398, z398⟩, st398⟩ := Jvm.LawKit.callS X397 hx (y := (⟨"com/example/compact_transform/compacttransform/tree/StringFootprintLatin1PrefixOfJoinPinLaw", "joinedAt", "(JIII)C"⟩ : MethodName)) hown (mvT hZ (w_5 hw)) (mvT hZ (w_6 hw)) (mvT hZ (w_3 hw)) (mvT hZ (w_7 hw)) (by decide) (backOf (W := 3) (rm_jat l Z a0 hw [] bv n1 n2 (1 : Int32) h397 n0 Z397 ) hZ (w_7 hw) (w_3 hw) (by decide) (by decide)) (g := (mkF m 148 #[.val (.int iv), .val (.long bv), .second, .val (.int n1), .val (.int n2), .val (.int f1), .val (.int f2), .val (.ref b370), .val (.ref b382), .unset, .unset, .unset, .unset, .unset, .unset, .unset, .unset] [(.int (1 : Int32)), (.int n2), (.int n1), (.long bv), (.int (1 : Int32)), (.ref b394), (.ref b394)])) rfl (by rw [hml]; rfl) (argsL := [(.long bv), (.int n1), (.int n2), (.int (1 : Int32))]) (rest := [(.int (1 : Int32)), (.ref b394), (.ref b394)]) (lenOf pd_1 rfl) rfl (by show 2 * 0 + _ ≤ _; exact Nat.le_of_eq rfl) (hb hby at_148) (fun _ _ => ⟨rfl, e397, (own_rm hcc (by decide) : cells + 3 ≤ 32), (own_rm hss (by decide) : slots + 15 ≤ 256)⟩)
  dsimp only [Pt.U, Pt.locs, Pt.cells, Pt.slots] at X398 l398 y398 z398 st398 hQ398
  rw [Nat.add_zero] at y398 z398
  subst y398 z398
  obtain ⟨rfl, N398q, e398⟩ := hQ398
  have N398 : Fr n0 L398 := by rw [l398]; exact Fr.app N397 N398q
  clear l398
  obtain ⟨j1_, ej1_⟩ : ∃ z, z = own_j9 bv n1 n2 (1 : Int32) := ⟨_, rfl⟩
  rw [← ej1_] at st398
  have Bj1_ : own_B9 j1_ := ej1_ ▸ own_j9B _ _ _ _
  refine own_go st398 ?_
  show own_Go _ _ _ _ (T398.setTop (mkF m 151 #[.val (.int iv), .val (.long bv), .second, .val (.int n1), .val (.int n2), .val (.int f1), .val (.int f2), .val (.ref b370), .val (.ref b382), .unset, .unset, .unset, .unset, .unset, .unset, .unset, .unset] [(.int j1_), (.int (1 : Int32)), (.ref b394), (.ref b394)]))
  obtain ⟨cl399, Ar399, qk399, sz399, nn399, ha399, gf399⟩ := id V397
  have hin399 : ¬ ((1 : Int32) < 0 ∨ cl399.slots.size ≤ ((1 : Int32)).toNatClampNeg) := inb_of sz399 ⟨by decide, by decide⟩
  obtain ⟨T400, h400, X400, e400, W400, st400⟩ := stC X398 hx hZ e398 Ar399 (j := (1 : Int32)) hin399 (g := (mkF m 151 #[.val (.int iv), .val (.long bv), .second, .val (.int n1), .val (.int n2), .val (.int f1), .val (.int f2), .val (.ref b370), .val (.ref b382), .unset, .unset, .unset, .unset, .unset, .unset, .unset, .unset] [(.int j1_), (.int (1 : Int32)), (.ref b394), (.ref b394)])) rfl rfl (hb hby at_151)
  refine own_go st400 ?_
  rw [(own_nc9 Bj1_)] at W400
  have V400 : Arv Z h400 b394 k394 .char (7 : Int32) [(.int j0_), (.int j1_), (.int (0 : Int32)), (.int (0 : Int32)), (.int (0 : Int32)), (.int (0 : Int32)), (.int (0 : Int32))] (.int (0 : Int32)) := Arv.set Ar399 qk399 sz399 nn399 ha399 gf399 (own_fc9 Bj1_) W400 1 rfl (Nat.le_of_ble_eq_true rfl)
  have Z400 : n0 ≤ h400.size := (Nat.le_trans Z397 (Nat.le_of_eq W400.size.symm))
  have N400 := Fr.snoc X400 N398 q394
  refine own_go (fun t k => XS.dup X400.here hx rfl (hb hby at_152) rfl rfl k) ?_
  refine own_go (fun t k => XS.iconst X400.here hx rfl (hb hby at_153) k) ?_
  refine own_go (fun t k => XS.lloadN X400.here hx rfl (hb hby at_154) rfl k) ?_
  show own_Go _ _ _ _ (T400.setTop (mkF m 155 #[.val (.int iv), .val (.long bv), .second, .val (.int n1), .val (.int n2), .val (.int f1), .val (.int f2), .val (.ref b370), .val (.ref b382), .unset, .unset, .unset, .unset, .unset, .unset, .unset, .unset] [(.long bv), (.int (2 : Int32)), (.ref b394), (.ref b394)]))
  refine own_go (fun t k => XS.iloadN X400.here hx rfl (hb hby at_155) rfl k) ?_
  refine own_go (fun t k => XS.iload X400.here hx rfl (hb hby at_156) rfl k) ?_
  refine own_go (fun t k => XS.iconst X400.here hx rfl (hb hby at_158) k) ?_
  obtain ⟨_, _, ⟨T401, L401, k401, n401⟩, -, X401, ⟨Lc401, hQ401, l401, y401, z401⟩, st401⟩ := Jvm.LawKit.callS X400 hx (y := (⟨"com/example/compact_transform/compacttransform/tree/StringFootprintLatin1PrefixOfJoinPinLaw", "joinedAt", "(JIII)C"⟩ : MethodName)) hown (mvT hZ (w_5 hw)) (mvT hZ (w_6 hw)) (mvT hZ (w_3 hw)) (mvT hZ (w_7 hw)) (by decide) (backOf (W := 3) (rm_jat l Z a0 hw [] bv n1 n2 (2 : Int32) h400 n0 Z400 ) hZ (w_7 hw) (w_3 hw) (by decide) (by decide)) (g := (mkF m 159 #[.val (.int iv), .val (.long bv), .second, .val (.int n1), .val (.int n2), .val (.int f1), .val (.int f2), .val (.ref b370), .val (.ref b382), .unset, .unset, .unset, .unset, .unset, .unset, .unset, .unset] [(.int (2 : Int32)), (.int n2), (.int n1), (.long bv), (.int (2 : Int32)), (.ref b394), (.ref b394)])) rfl (by rw [hml]; rfl) (argsL := [(.long bv), (.int n1), (.int n2), (.int (2 : Int32))]) (rest := [(.int (2 : Int32)), (.ref b394), (.ref b394)]) (lenOf pd_1 rfl) rfl (by show 2 * 0 + _ ≤ _; exact Nat.le_of_eq rfl) (hb hby at_159) (fun _ _ => ⟨rfl, e400, (own_rm hcc (by decide) : cells + 3 ≤ 32), (own_rm hss (by decide) : slots + 15 ≤ 256)⟩)
  dsimp only [Pt.U, Pt.locs, Pt.cells, Pt.slots] at X401 l401 y401 z401 st401 hQ401
  rw [Nat.add_zero] at y401 z401
  subst y401 z401
  obtain ⟨rfl, N401q, e401⟩ := hQ401
  have N401 : Fr n0 L401 := by rw [l401]; exact Fr.app N400 N401q
  clear l401
  obtain ⟨j2_, ej2_⟩ : ∃ z, z = own_j9 bv n1 n2 (2 : Int32) := ⟨_, rfl⟩
  rw [← ej2_] at st401
  have Bj2_ : own_B9 j2_ := ej2_ ▸ own_j9B _ _ _ _
  refine own_go st401 ?_
  show own_Go _ _ _ _ (T401.setTop (mkF m 162 #[.val (.int iv), .val (.long bv), .second, .val (.int n1), .val (.int n2), .val (.int f1), .val (.int f2), .val (.ref b370), .val (.ref b382), .unset, .unset, .unset, .unset, .unset, .unset, .unset, .unset] [(.int j2_), (.int (2 : Int32)), (.ref b394), (.ref b394)]))
  obtain ⟨cl402, Ar402, qk402, sz402, nn402, ha402, gf402⟩ := id V400
  have hin402 : ¬ ((2 : Int32) < 0 ∨ cl402.slots.size ≤ ((2 : Int32)).toNatClampNeg) := inb_of sz402 ⟨by decide, by decide⟩
  obtain ⟨T403, h403, X403, e403, W403, st403⟩ := stC X401 hx hZ e401 Ar402 (j := (2 : Int32)) hin402 (g := (mkF m 162 #[.val (.int iv), .val (.long bv), .second, .val (.int n1), .val (.int n2), .val (.int f1), .val (.int f2), .val (.ref b370), .val (.ref b382), .unset, .unset, .unset, .unset, .unset, .unset, .unset, .unset] [(.int j2_), (.int (2 : Int32)), (.ref b394), (.ref b394)])) rfl rfl (hb hby at_162)
  refine own_go st403 ?_
  rw [(own_nc9 Bj2_)] at W403
  have V403 : Arv Z h403 b394 k394 .char (7 : Int32) [(.int j0_), (.int j1_), (.int j2_), (.int (0 : Int32)), (.int (0 : Int32)), (.int (0 : Int32)), (.int (0 : Int32))] (.int (0 : Int32)) := Arv.set Ar402 qk402 sz402 nn402 ha402 gf402 (own_fc9 Bj2_) W403 2 rfl (Nat.le_of_ble_eq_true rfl)
  have Z403 : n0 ≤ h403.size := (Nat.le_trans Z400 (Nat.le_of_eq W403.size.symm))
  have N403 := Fr.snoc X403 N401 q394
  refine own_go (fun t k => XS.dup X403.here hx rfl (hb hby at_163) rfl rfl k) ?_
  refine own_go (fun t k => XS.iconst X403.here hx rfl (hb hby at_164) k) ?_
  refine own_go (fun t k => XS.lloadN X403.here hx rfl (hb hby at_165) rfl k) ?_
  show own_Go _ _ _ _ (T403.setTop (mkF m 166 #[.val (.int iv), .val (.long bv), .second, .val (.int n1), .val (.int n2), .val (.int f1), .val (.int f2), .val (.ref b370), .val (.ref b382), .unset, .unset, .unset, .unset, .unset, .unset, .unset, .unset] [(.long bv), (.int (3 : Int32)), (.ref b394), (.ref b394)]))
  refine own_go (fun t k => XS.iloadN X403.here hx rfl (hb hby at_166) rfl k) ?_
  refine own_go (fun t k => XS.iload X403.here hx rfl (hb hby at_167) rfl k) ?_
  refine own_go (fun t k => XS.iconst X403.here hx rfl (hb hby at_169) k) ?_
  obtain ⟨_, _, ⟨T404, L404, k404, n404⟩, -, X404, ⟨Lc404, hQ404, l404, y404, z404⟩, st404⟩ := Jvm.LawKit.callS X403 hx (y := (⟨"com/example/compact_transform/compacttransform/tree/StringFootprintLatin1PrefixOfJoinPinLaw", "joinedAt", "(JIII)C"⟩ : MethodName)) hown (mvT hZ (w_5 hw)) (mvT hZ (w_6 hw)) (mvT hZ (w_3 hw)) (mvT hZ (w_7 hw)) (by decide) (backOf (W := 3) (rm_jat l Z a0 hw [] bv n1 n2 (3 : Int32) h403 n0 Z403 ) hZ (w_7 hw) (w_3 hw) (by decide) (by decide)) (g := (mkF m 170 #[.val (.int iv), .val (.long bv), .second, .val (.int n1), .val (.int n2), .val (.int f1), .val (.int f2), .val (.ref b370), .val (.ref b382), .unset, .unset, .unset, .unset, .unset, .unset, .unset, .unset] [(.int (3 : Int32)), (.int n2), (.int n1), (.long bv), (.int (3 : Int32)), (.ref b394), (.ref b394)])) rfl (by rw [hml]; rfl) (argsL := [(.long bv), (.int n1), (.int n2), (.int (3 : Int32))]) (rest := [(.int (3 : Int32)), (.ref b394), (.ref b394)]) (lenOf pd_1 rfl) rfl (by show 2 * 0 + _ ≤ _; exact Nat.le_of_eq rfl) (hb hby at_170) (fun _ _ => ⟨rfl, e403, (own_rm hcc (by decide) : cells + 3 ≤ 32), (own_rm hss (by decide) : slots + 15 ≤ 256)⟩)
  dsimp only [Pt.U, Pt.locs, Pt.cells, Pt.slots] at X404 l404 y404 z404 st404 hQ404
  rw [Nat.add_zero] at y404 z404
  subst y404 z404
  obtain ⟨rfl, N404q, e404⟩ := hQ404
  have N404 : Fr n0 L404 := by rw [l404]; exact Fr.app N403 N404q
  clear l404
  obtain ⟨j3_, ej3_⟩ : ∃ z, z = own_j9 bv n1 n2 (3 : Int32) := ⟨_, rfl⟩
  rw [← ej3_] at st404
  have Bj3_ : own_B9 j3_ := ej3_ ▸ own_j9B _ _ _ _
  refine own_go st404 ?_
  show own_Go _ _ _ _ (T404.setTop (mkF m 173 #[.val (.int iv), .val (.long bv), .second, .val (.int n1), .val (.int n2), .val (.int f1), .val (.int f2), .val (.ref b370), .val (.ref b382), .unset, .unset, .unset, .unset, .unset, .unset, .unset, .unset] [(.int j3_), (.int (3 : Int32)), (.ref b394), (.ref b394)]))
  obtain ⟨cl405, Ar405, qk405, sz405, nn405, ha405, gf405⟩ := id V403
  have hin405 : ¬ ((3 : Int32) < 0 ∨ cl405.slots.size ≤ ((3 : Int32)).toNatClampNeg) := inb_of sz405 ⟨by decide, by decide⟩
  obtain ⟨T406, h406, X406, e406, W406, st406⟩ := stC X404 hx hZ e404 Ar405 (j := (3 : Int32)) hin405 (g := (mkF m 173 #[.val (.int iv), .val (.long bv), .second, .val (.int n1), .val (.int n2), .val (.int f1), .val (.int f2), .val (.ref b370), .val (.ref b382), .unset, .unset, .unset, .unset, .unset, .unset, .unset, .unset] [(.int j3_), (.int (3 : Int32)), (.ref b394), (.ref b394)])) rfl rfl (hb hby at_173)
  refine own_go st406 ?_
  rw [(own_nc9 Bj3_)] at W406
  have V406 : Arv Z h406 b394 k394 .char (7 : Int32) [(.int j0_), (.int j1_), (.int j2_), (.int j3_), (.int (0 : Int32)), (.int (0 : Int32)), (.int (0 : Int32))] (.int (0 : Int32)) := Arv.set Ar405 qk405 sz405 nn405 ha405 gf405 (own_fc9 Bj3_) W406 3 rfl (Nat.le_of_ble_eq_true rfl)
  have Z406 : n0 ≤ h406.size := (Nat.le_trans Z403 (Nat.le_of_eq W406.size.symm))
  have N406 := Fr.snoc X406 N404 q394
  refine own_go (fun t k => XS.dup X406.here hx rfl (hb hby at_174) rfl rfl k) ?_
  refine own_go (fun t k => XS.iconst X406.here hx rfl (hb hby at_175) k) ?_
  refine own_go (fun t k => XS.lloadN X406.here hx rfl (hb hby at_176) rfl k) ?_
  show own_Go _ _ _ _ (T406.setTop (mkF m 177 #[.val (.int iv), .val (.long bv), .second, .val (.int n1), .val (.int n2), .val (.int f1), .val (.int f2), .val (.ref b370), .val (.ref b382), .unset, .unset, .unset, .unset, .unset, .unset, .unset, .unset] [(.long bv), (.int (4 : Int32)), (.ref b394), (.ref b394)]))
  refine own_go (fun t k => XS.iloadN X406.here hx rfl (hb hby at_177) rfl k) ?_
  refine own_go (fun t k => XS.iload X406.here hx rfl (hb hby at_178) rfl k) ?_
  refine own_go (fun t k => XS.iconst X406.here hx rfl (hb hby at_180) k) ?_
  obtain ⟨_, _, ⟨T407, L407, k407, n407⟩, -, X407, ⟨Lc407, hQ407, l407, y407, z407⟩, st407⟩ := Jvm.LawKit.callS X406 hx (y := (⟨"com/example/compact_transform/compacttransform/tree/StringFootprintLatin1PrefixOfJoinPinLaw", "joinedAt", "(JIII)C"⟩ : MethodName)) hown (mvT hZ (w_5 hw)) (mvT hZ (w_6 hw)) (mvT hZ (w_3 hw)) (mvT hZ (w_7 hw)) (by decide) (backOf (W := 3) (rm_jat l Z a0 hw [] bv n1 n2 (4 : Int32) h406 n0 Z406 ) hZ (w_7 hw) (w_3 hw) (by decide) (by decide)) (g := (mkF m 181 #[.val (.int iv), .val (.long bv), .second, .val (.int n1), .val (.int n2), .val (.int f1), .val (.int f2), .val (.ref b370), .val (.ref b382), .unset, .unset, .unset, .unset, .unset, .unset, .unset, .unset] [(.int (4 : Int32)), (.int n2), (.int n1), (.long bv), (.int (4 : Int32)), (.ref b394), (.ref b394)])) rfl (by rw [hml]; rfl) (argsL := [(.long bv), (.int n1), (.int n2), (.int (4 : Int32))]) (rest := [(.int (4 : Int32)), (.ref b394), (.ref b394)]) (lenOf pd_1 rfl) rfl (by show 2 * 0 + _ ≤ _; exact Nat.le_of_eq rfl) (hb hby at_181) (fun _ _ => ⟨rfl, e406, (own_rm hcc (by decide) : cells + 3 ≤ 32), (own_rm hss (by decide) : slots + 15 ≤ 256)⟩)
  dsimp only [Pt.U, Pt.locs, Pt.cells, Pt.slots] at X407 l407 y407 z407 st407 hQ407
  rw [Nat.add_zero] at y407 z407
  subst y407 z407
  obtain ⟨rfl, N407q, e407⟩ := hQ407
  have N407 : Fr n0 L407 := by rw [l407]; exact Fr.app N406 N407q
  clear l407
  obtain ⟨j4_, ej4_⟩ : ∃ z, z = own_j9 bv n1 n2 (4 : Int32) := ⟨_, rfl⟩
  rw [← ej4_] at st407
  have Bj4_ : own_B9 j4_ := ej4_ ▸ own_j9B _ _ _ _
  refine own_go st407 ?_
  show own_Go _ _ _ _ (T407.setTop (mkF m 184 #[.val (.int iv), .val (.long bv), .second, .val (.int n1), .val (.int n2), .val (.int f1), .val (.int f2), .val (.ref b370), .val (.ref b382), .unset, .unset, .unset, .unset, .unset, .unset, .unset, .unset] [(.int j4_), (.int (4 : Int32)), (.ref b394), (.ref b394)]))
  obtain ⟨cl408, Ar408, qk408, sz408, nn408, ha408, gf408⟩ := id V406
  have hin408 : ¬ ((4 : Int32) < 0 ∨ cl408.slots.size ≤ ((4 : Int32)).toNatClampNeg) := inb_of sz408 ⟨by decide, by decide⟩
  obtain ⟨T409, h409, X409, e409, W409, st409⟩ := stC X407 hx hZ e407 Ar408 (j := (4 : Int32)) hin408 (g := (mkF m 184 #[.val (.int iv), .val (.long bv), .second, .val (.int n1), .val (.int n2), .val (.int f1), .val (.int f2), .val (.ref b370), .val (.ref b382), .unset, .unset, .unset, .unset, .unset, .unset, .unset, .unset] [(.int j4_), (.int (4 : Int32)), (.ref b394), (.ref b394)])) rfl rfl (hb hby at_184)
  refine own_go st409 ?_
  rw [(own_nc9 Bj4_)] at W409
  have V409 : Arv Z h409 b394 k394 .char (7 : Int32) [(.int j0_), (.int j1_), (.int j2_), (.int j3_), (.int j4_), (.int (0 : Int32)), (.int (0 : Int32))] (.int (0 : Int32)) := Arv.set Ar408 qk408 sz408 nn408 ha408 gf408 (own_fc9 Bj4_) W409 4 rfl (Nat.le_of_ble_eq_true rfl)
  have Z409 : n0 ≤ h409.size := (Nat.le_trans Z406 (Nat.le_of_eq W409.size.symm))
  have N409 := Fr.snoc X409 N407 q394
  refine own_go (fun t k => XS.dup X409.here hx rfl (hb hby at_185) rfl rfl k) ?_
  refine own_go (fun t k => XS.iconst X409.here hx rfl (hb hby at_186) k) ?_
  refine own_go (fun t k => XS.lloadN X409.here hx rfl (hb hby at_187) rfl k) ?_
  show own_Go _ _ _ _ (T409.setTop (mkF m 188 #[.val (.int iv), .val (.long bv), .second, .val (.int n1), .val (.int n2), .val (.int f1), .val (.int f2), .val (.ref b370), .val (.ref b382), .unset, .unset, .unset, .unset, .unset, .unset, .unset, .unset] [(.long bv), (.int (5 : Int32)), (.ref b394), (.ref b394)]))
  refine own_go (fun t k => XS.iloadN X409.here hx rfl (hb hby at_188) rfl k) ?_
  refine own_go (fun t k => XS.iload X409.here hx rfl (hb hby at_189) rfl k) ?_
  refine own_go (fun t k => XS.iconst X409.here hx rfl (hb hby at_191) k) ?_
  obtain ⟨_, _, ⟨T410, L410, k410, n410⟩, -, X410, ⟨Lc410, hQ410, l410, y410, z410⟩, st410⟩ := Jvm.LawKit.callS X409 hx (y := (⟨"com/example/compact_transform/compacttransform/tree/StringFootprintLatin1PrefixOfJoinPinLaw", "joinedAt", "(JIII)C"⟩ : MethodName)) hown (mvT hZ (w_5 hw)) (mvT hZ (w_6 hw)) (mvT hZ (w_3 hw)) (mvT hZ (w_7 hw)) (by decide) (backOf (W := 3) (rm_jat l Z a0 hw [] bv n1 n2 (5 : Int32) h409 n0 Z409 ) hZ (w_7 hw) (w_3 hw) (by decide) (by decide)) (g := (mkF m 192 #[.val (.int iv), .val (.long bv), .second, .val (.int n1), .val (.int n2), .val (.int f1), .val (.int f2), .val (.ref b370), .val (.ref b382), .unset, .unset, .unset, .unset, .unset, .unset, .unset, .unset] [(.int (5 : Int32)), (.int n2), (.int n1), (.long bv), (.int (5 : Int32)), (.ref b394), (.ref b394)])) rfl (by rw [hml]; rfl) (argsL := [(.long bv), (.int n1), (.int n2), (.int (5 : Int32))]) (rest := [(.int (5 : Int32)), (.ref b394), (.ref b394)]) (lenOf pd_1 rfl) rfl (by show 2 * 0 + _ ≤ _; exact Nat.le_of_eq rfl) (hb hby at_192) (fun _ _ => ⟨rfl, e409, (own_rm hcc (by decide) : cells + 3 ≤ 32), (own_rm hss (by decide) : slots + 15 ≤ 256)⟩)
  dsimp only [Pt.U, Pt.locs, Pt.cells, Pt.slots] at X410 l410 y410 z410 st410 hQ410
  rw [Nat.add_zero] at y410 z410
  subst y410 z410
  obtain ⟨rfl, N410q, e410⟩ := hQ410
  have N410 : Fr n0 L410 := by rw [l410]; exact Fr.app N409 N410q
  clear l410
  obtain ⟨j5_, ej5_⟩ : ∃ z, z = own_j9 bv n1 n2 (5 : Int32) := ⟨_, rfl⟩
  rw [← ej5_] at st410
  have Bj5_ : own_B9 j5_ := ej5_ ▸ own_j9B _ _ _ _
  refine own_go st410 ?_
  show own_Go _ _ _ _ (T410.setTop (mkF m 195 #[.val (.int iv), .val (.long bv), .second, .val (.int n1), .val (.int n2), .val (.int f1), .val (.int f2), .val (.ref b370), .val (.ref b382), .unset, .unset, .unset, .unset, .unset, .unset, .unset, .unset] [(.int j5_), (.int (5 : Int32)), (.ref b394), (.ref b394)]))
  obtain ⟨cl411, Ar411, qk411, sz411, nn411, ha411, gf411⟩ := id V409
  have hin411 : ¬ ((5 : Int32) < 0 ∨ cl411.slots.size ≤ ((5 : Int32)).toNatClampNeg) := inb_of sz411 ⟨by decide, by decide⟩
  obtain ⟨T412, h412, X412, e412, W412, st412⟩ := stC X410 hx hZ e410 Ar411 (j := (5 : Int32)) hin411 (g := (mkF m 195 #[.val (.int iv), .val (.long bv), .second, .val (.int n1), .val (.int n2), .val (.int f1), .val (.int f2), .val (.ref b370), .val (.ref b382), .unset, .unset, .unset, .unset, .unset, .unset, .unset, .unset] [(.int j5_), (.int (5 : Int32)), (.ref b394), (.ref b394)])) rfl rfl (hb hby at_195)
  refine own_go st412 ?_
  rw [(own_nc9 Bj5_)] at W412
  have V412 : Arv Z h412 b394 k394 .char (7 : Int32) [(.int j0_), (.int j1_), (.int j2_), (.int j3_), (.int j4_), (.int j5_), (.int (0 : Int32))] (.int (0 : Int32)) := Arv.set Ar411 qk411 sz411 nn411 ha411 gf411 (own_fc9 Bj5_) W412 5 rfl (Nat.le_of_ble_eq_true rfl)
  have Z412 : n0 ≤ h412.size := (Nat.le_trans Z409 (Nat.le_of_eq W412.size.symm))
  have N412 := Fr.snoc X412 N410 q394
  refine own_go (fun t k => XS.dup X412.here hx rfl (hb hby at_196) rfl rfl k) ?_
  refine own_go (fun t k => XS.bipush X412.here hx rfl (hb hby at_197) k) ?_
  refine own_go (fun t k => XS.sipush X412.here hx rfl (hb hby at_199) k) ?_
  show own_Go _ _ _ _ (T412.setTop (mkF m 202 #[.val (.int iv), .val (.long bv), .second, .val (.int n1), .val (.int n2), .val (.int f1), .val (.int f2), .val (.ref b370), .val (.ref b382), .unset, .unset, .unset, .unset, .unset, .unset, .unset, .unset] [(.int (256 : Int32)), (.int (6 : Int32)), (.ref b394), (.ref b394)]))
  obtain ⟨cl413, Ar413, qk413, sz413, nn413, ha413, gf413⟩ := id V412
  have hin413 : ¬ ((6 : Int32) < 0 ∨ cl413.slots.size ≤ ((6 : Int32)).toNatClampNeg) := inb_of sz413 ⟨by decide, by decide⟩
  obtain ⟨T414, h414, X414, e414, W414, st414⟩ := stC X412 hx hZ e412 Ar413 (j := (6 : Int32)) hin413 (g := (mkF m 202 #[.val (.int iv), .val (.long bv), .second, .val (.int n1), .val (.int n2), .val (.int f1), .val (.int f2), .val (.ref b370), .val (.ref b382), .unset, .unset, .unset, .unset, .unset, .unset, .unset, .unset] [(.int (256 : Int32)), (.int (6 : Int32)), (.ref b394), (.ref b394)])) rfl rfl (hb hby at_202)
  refine own_go st414 ?_
  have V414 : Arv Z h414 b394 k394 .char (7 : Int32) [(.int j0_), (.int j1_), (.int j2_), (.int j3_), (.int j4_), (.int j5_), (.int (256 : Int32))] (.int (0 : Int32)) := Arv.set Ar413 qk413 sz413 nn413 ha413 gf413 rfl W414 6 rfl (Nat.le_of_ble_eq_true rfl)
  have Z414 : n0 ≤ h414.size := (Nat.le_trans Z412 (Nat.le_of_eq W414.size.symm))
  have N414 := Fr.snoc X414 N412 q394
  refine own_go (fun t k => XS.astore X414.here hx rfl (hb hby at_203) rfl rfl (l' := #[.val (.int iv), .val (.long bv), .second, .val (.int n1), .val (.int n2), .val (.int f1), .val (.int f2), .val (.ref b370), .val (.ref b382), .val (.ref b394), .unset, .unset, .unset, .unset, .unset, .unset, .unset]) rfl k) ?_
  show own_Go _ _ _ _ (T414.setTop (mkF m 205 #[.val (.int iv), .val (.long bv), .second, .val (.int n1), .val (.int n2), .val (.int f1), .val (.int f2), .val (.ref b370), .val (.ref b382), .val (.ref b394), .unset, .unset, .unset, .unset, .unset, .unset, .unset] []))
  obtain ⟨T415, h415, X415, e415, E415, A415, D415, -, st415⟩ := newO X414 hx hZ hown (w_8 hw) (w_9 hw) (w_10 hw) e414 (g := (mkF m 205 #[.val (.int iv), .val (.long bv), .second, .val (.int n1), .val (.int n2), .val (.int f1), .val (.int f2), .val (.ref b370), .val (.ref b382), .val (.ref b394), .unset, .unset, .unset, .unset, .unset, .unset, .unset] [])) rfl (hb hby at_205) (own_rm hcc (by decide) : cells + 4 ≤ 32) (own_rm hss (by decide) : slots + 19 ≤ 256)
  obtain ⟨b415, g415⟩ : ∃ z, z = h414.size := ⟨_, rfl⟩
  rw [← g415] at A415 D415 st415
  refine own_go st415 ?_
  have Z415 : n0 ≤ h415.size := (Nat.le_trans Z414 E415.1)
  have lo415 : h414.size ≤ b415 := Nat.le_of_eq g415.symm
  have q415 : n0 ≤ b415 := Nat.le_trans Z414 lo415
  have hi415 : b415 < h415.size := A415.lt
  have F415_53 : Fld Z h415 b415 "java/lang/String" "coder" "B" (.int (0 : Int32)) := D415 (Or.inr (w_53 hw)) (ty := .byte) (by decide)
  have F415_55 : Fld Z h415 b415 "java/lang/String" "value" "[B" .null := D415 (Or.inr (w_55 hw)) (ty := (.array .byte)) (by decide)
  refine own_go (fun t k => XS.dup X415.here hx rfl (hb hby at_208) rfl rfl k) ?_
  refine own_go (fun t k => XS.aload X415.here hx rfl (hb hby at_209) rfl rfl k) ?_
  have f416 := ((((((((((((((V381.ext E382).other W385 (Nat.ne_of_lt (Nat.lt_of_lt_of_le hi370 (Nat.le_trans (Nat.le_trans (Nat.le_trans (Nat.le_trans (Nat.le_of_eq W373.size.symm) (Nat.le_of_eq W376.size.symm)) (Nat.le_of_eq W379.size.symm)) (Nat.le_of_eq W381.size.symm)) lo382)))).other W388 (Nat.ne_of_lt (Nat.lt_of_lt_of_le hi370 (Nat.le_trans (Nat.le_trans (Nat.le_trans (Nat.le_trans (Nat.le_of_eq W373.size.symm) (Nat.le_of_eq W376.size.symm)) (Nat.le_of_eq W379.size.symm)) (Nat.le_of_eq W381.size.symm)) lo382)))).other W391 (Nat.ne_of_lt (Nat.lt_of_lt_of_le hi370 (Nat.le_trans (Nat.le_trans (Nat.le_trans (Nat.le_trans (Nat.le_of_eq W373.size.symm) (Nat.le_of_eq W376.size.symm)) (Nat.le_of_eq W379.size.symm)) (Nat.le_of_eq W381.size.symm)) lo382)))).other W393 (Nat.ne_of_lt (Nat.lt_of_lt_of_le hi370 (Nat.le_trans (Nat.le_trans (Nat.le_trans (Nat.le_trans (Nat.le_of_eq W373.size.symm) (Nat.le_of_eq W376.size.symm)) (Nat.le_of_eq W379.size.symm)) (Nat.le_of_eq W381.size.symm)) lo382)))).ext E394).other W397 (Nat.ne_of_lt (Nat.lt_of_lt_of_le hi370 (Nat.le_trans (Nat.le_trans (Nat.le_trans (Nat.le_trans (Nat.le_trans (Nat.le_trans (Nat.le_trans (Nat.le_trans (Nat.le_trans (Nat.le_of_eq W373.size.symm) (Nat.le_of_eq W376.size.symm)) (Nat.le_of_eq W379.size.symm)) (Nat.le_of_eq W381.size.symm)) E382.1) (Nat.le_of_eq W385.size.symm)) (Nat.le_of_eq W388.size.symm)) (Nat.le_of_eq W391.size.symm)) (Nat.le_of_eq W393.size.symm)) lo394)))).other W400 (Nat.ne_of_lt (Nat.lt_of_lt_of_le hi370 (Nat.le_trans (Nat.le_trans (Nat.le_trans (Nat.le_trans (Nat.le_trans (Nat.le_trans (Nat.le_trans (Nat.le_trans (Nat.le_trans (Nat.le_of_eq W373.size.symm) (Nat.le_of_eq W376.size.symm)) (Nat.le_of_eq W379.size.symm)) (Nat.le_of_eq W381.size.symm)) E382.1) (Nat.le_of_eq W385.size.symm)) (Nat.le_of_eq W388.size.symm)) (Nat.le_of_eq W391.size.symm)) (Nat.le_of_eq W393.size.symm)) lo394)))).other W403 (Nat.ne_of_lt (Nat.lt_of_lt_of_le hi370 (Nat.le_trans (Nat.le_trans (Nat.le_trans (Nat.le_trans (Nat.le_trans (Nat.le_trans (Nat.le_trans (Nat.le_trans (Nat.le_trans (Nat.le_of_eq W373.size.symm) (Nat.le_of_eq W376.size.symm)) (Nat.le_of_eq W379.size.symm)) (Nat.le_of_eq W381.size.symm)) E382.1) (Nat.le_of_eq W385.size.symm)) (Nat.le_of_eq W388.size.symm)) (Nat.le_of_eq W391.size.symm)) (Nat.le_of_eq W393.size.symm)) lo394)))).other W406 (Nat.ne_of_lt (Nat.lt_of_lt_of_le hi370 (Nat.le_trans (Nat.le_trans (Nat.le_trans (Nat.le_trans (Nat.le_trans (Nat.le_trans (Nat.le_trans (Nat.le_trans (Nat.le_trans (Nat.le_of_eq W373.size.symm) (Nat.le_of_eq W376.size.symm)) (Nat.le_of_eq W379.size.symm)) (Nat.le_of_eq W381.size.symm)) E382.1) (Nat.le_of_eq W385.size.symm)) (Nat.le_of_eq W388.size.symm)) (Nat.le_of_eq W391.size.symm)) (Nat.le_of_eq W393.size.symm)) lo394)))).other W409 (Nat.ne_of_lt (Nat.lt_of_lt_of_le hi370 (Nat.le_trans (Nat.le_trans (Nat.le_trans (Nat.le_trans (Nat.le_trans (Nat.le_trans (Nat.le_trans (Nat.le_trans (Nat.le_trans (Nat.le_of_eq W373.size.symm) (Nat.le_of_eq W376.size.symm)) (Nat.le_of_eq W379.size.symm)) (Nat.le_of_eq W381.size.symm)) E382.1) (Nat.le_of_eq W385.size.symm)) (Nat.le_of_eq W388.size.symm)) (Nat.le_of_eq W391.size.symm)) (Nat.le_of_eq W393.size.symm)) lo394)))).other W412 (Nat.ne_of_lt (Nat.lt_of_lt_of_le hi370 (Nat.le_trans (Nat.le_trans (Nat.le_trans (Nat.le_trans (Nat.le_trans (Nat.le_trans (Nat.le_trans (Nat.le_trans (Nat.le_trans (Nat.le_of_eq W373.size.symm) (Nat.le_of_eq W376.size.symm)) (Nat.le_of_eq W379.size.symm)) (Nat.le_of_eq W381.size.symm)) E382.1) (Nat.le_of_eq W385.size.symm)) (Nat.le_of_eq W388.size.symm)) (Nat.le_of_eq W391.size.symm)) (Nat.le_of_eq W393.size.symm)) lo394)))).other W414 (Nat.ne_of_lt (Nat.lt_of_lt_of_le hi370 (Nat.le_trans (Nat.le_trans (Nat.le_trans (Nat.le_trans (Nat.le_trans (Nat.le_trans (Nat.le_trans (Nat.le_trans (Nat.le_trans (Nat.le_of_eq W373.size.symm) (Nat.le_of_eq W376.size.symm)) (Nat.le_of_eq W379.size.symm)) (Nat.le_of_eq W381.size.symm)) E382.1) (Nat.le_of_eq W385.size.symm)) (Nat.le_of_eq W388.size.symm)) (Nat.le_of_eq W391.size.symm)) (Nat.le_of_eq W393.size.symm)) lo394)))).ext E415)
  have f417 := (((((((((((((((((((O0.ext E370).wr W373 q370).wr W376 q370).wr W379 q370).wr W381 q370).ext E382).wr W385 q382).wr W388 q382).wr W391 q382).wr W393 q382).ext E394).wr W397 q394).wr W400 q394).wr W403 q394).wr W406 q394).wr W409 q394).wr W412 q394).wr W414 q394).ext E415)
  obtain ⟨_, _, ⟨T418, L418, k418, n418⟩, -, X418, ⟨Lc418, hQ418, l418, y418, z418⟩, st418⟩ := X415.specialBack hx (y := (⟨"java/lang/String", "<init>", "([C)V"⟩ : MethodName)) rfl hown (mvT hZ (w_11 hw)) (mvT hZ (w_12 hw)) (mvT hZ (w_13 hw)) (by decide) (backOf (W := 1) (rm_s_4 l Z a0 hw [] b415 b370 k370 a0_ a1_ a2_ zv gv h415 n0 Z415 q415 A415 F415_55 F415_53 f416 Ba0_ Ba1_ Ba2_ f417 hzv S0 rgv G0 Sa Sh Sl) hZ (w_13 hw) (w_10 hw) (by decide) (by decide)) (g := (mkF m 211 #[.val (.int iv), .val (.long bv), .second, .val (.int n1), .val (.int n2), .val (.int f1), .val (.int f2), .val (.ref b370), .val (.ref b382), .val (.ref b394), .unset, .unset, .unset, .unset, .unset, .unset, .unset] [(.ref b370), (.ref b415), (.ref b415)])) rfl (by rw [hml]; rfl) (Steps.refl _) (a := b415) (argsL := [(.ref b370)]) (rest := [(.ref b415)]) (lenOf pd_19 rfl) rfl (by show 2 * 0 + _ ≤ _; exact Nat.le_of_eq rfl) (hb hby at_211) (fun _ _ => ⟨rfl, e415, (own_rm hcc (by decide) : cells + 6 ≤ 32), (own_rm hss (by decide) : slots + 31 ≤ 256)⟩)
  dsimp only [Pt.U, Pt.locs, Pt.cells, Pt.slots] at X418 l418 y418 z418 st418 hQ418
  subst y418 z418
  generalize e418 : T418.heap = h418 at hQ418
  obtain ⟨ub418, kb418, rfl, N418q, K418q, Ec418, Ev418, lo418, q418, Ek418⟩ := hQ418
  have N418 : Fr n0 L418 := by rw [l418]; exact Fr.app N414 N418q
  clear l418
  refine own_go (fun t k => st418.trans k) ?_
  have Z418 : n0 ≤ h418.size := (Nat.le_trans Z415 K418q.1)
  have hi418 := Ek418.lt
  show own_Go _ _ _ _ (T418.setTop (mkF m 214 #[.val (.int iv), .val (.long bv), .second, .val (.int n1), .val (.int n2), .val (.int f1), .val (.int f2), .val (.ref b370), .val (.ref b382), .val (.ref b394), .unset, .unset, .unset, .unset, .unset, .unset, .unset] [(.ref b415)]))
  obtain ⟨_, _, ⟨T419, L419, k419, n419⟩, -, X419, ⟨Lc419, hQ419, l419, y419, z419⟩, st419⟩ := Jvm.LawKit.callS X418 hx (y := (⟨"com/example/compact_transform/compacttransform/tree/StringFootprint", "latin1Prefix", "(Ljava/lang/String;)I"⟩ : MethodName)) hown (mvT hZ (w_56 hw)) (mvT hZ (w_57 hw)) (mvT hZ (w_58 hw)) (mvT hZ (w_59 hw)) (by decide) (backOf (W := 0) (rm_lp_4 l Z a0 hw [] b415 ub418 kb418 a0_ a1_ a2_ zv gv h418 n0 Z418 (A415.keep K418q) Ec418 Ev418 Ek418 Ba0_ Ba1_ Ba2_ (f417.keep K418q (allS q415 all0)) hzv S0 rgv G0 Sa Sh Sl) hZ (w_59 hw) (w_58 hw) (by decide) (by decide)) (g := (mkF m 214 #[.val (.int iv), .val (.long bv), .second, .val (.int n1), .val (.int n2), .val (.int f1), .val (.int f2), .val (.ref b370), .val (.ref b382), .val (.ref b394), .unset, .unset, .unset, .unset, .unset, .unset, .unset] [(.ref b415)])) rfl (by rw [hml]; rfl) (argsL := [(.ref b415)]) (rest := []) (lenOf pd_20 rfl) rfl (by show 2 * 0 + _ ≤ _; exact Nat.le_of_eq rfl) (hb hby at_214) (fun _ _ => ⟨rfl, e418, (own_rm hcc (by decide) : cells + 6 ≤ 32), (own_rm hss (by decide) : slots + 31 ≤ 256)⟩)
  dsimp only [Pt.U, Pt.locs, Pt.cells, Pt.slots] at X419 l419 y419 z419 st419 hQ419
  rw [Nat.add_zero] at y419 z419
  subst y419 z419
  obtain ⟨rfl, N419q, e419⟩ := hQ419
  have N419 : Fr n0 L419 := by rw [l419]; exact Fr.app N418 N419q
  clear l419
  refine own_go st419 ?_
  refine own_go (fun t k => XS.istore X419.here hx rfl (hb hby at_217) rfl (l' := #[.val (.int iv), .val (.long bv), .second, .val (.int n1), .val (.int n2), .val (.int f1), .val (.int f2), .val (.ref b370), .val (.ref b382), .val (.ref b394), .val (.int (own_p4 a0_ a1_ a2_)), .unset, .unset, .unset, .unset, .unset, .unset]) rfl k) ?_
  show own_Go _ _ _ _ (T419.setTop (mkF m 219 #[.val (.int iv), .val (.long bv), .second, .val (.int n1), .val (.int n2), .val (.int f1), .val (.int f2), .val (.ref b370), .val (.ref b382), .val (.ref b394), .val (.int (own_p4 a0_ a1_ a2_)), .unset, .unset, .unset, .unset, .unset, .unset] []))
  obtain ⟨T420, h420, X420, e420, E420, A420, D420, -, st420⟩ := newO X419 hx hZ hown (w_8 hw) (w_9 hw) (w_10 hw) e419 (g := (mkF m 219 #[.val (.int iv), .val (.long bv), .second, .val (.int n1), .val (.int n2), .val (.int f1), .val (.int f2), .val (.ref b370), .val (.ref b382), .val (.ref b394), .val (.int (own_p4 a0_ a1_ a2_)), .unset, .unset, .unset, .unset, .unset, .unset] [])) rfl (hb hby at_219) (own_rm hcc (by decide) : cells + 7 ≤ 32) (own_rm hss (by decide) : slots + 35 ≤ 256)
  obtain ⟨b420, g420⟩ : ∃ z, z = h418.size := ⟨_, rfl⟩
  rw [← g420] at A420 D420 st420
  refine own_go st420 ?_
  have Z420 : n0 ≤ h420.size := (Nat.le_trans Z418 E420.1)
  have lo420 : h418.size ≤ b420 := Nat.le_of_eq g420.symm
  have q420 : n0 ≤ b420 := Nat.le_trans Z418 lo420
  have hi420 : b420 < h420.size := A420.lt
  have F420_53 : Fld Z h420 b420 "java/lang/String" "coder" "B" (.int (0 : Int32)) := D420 (Or.inr (w_53 hw)) (ty := .byte) (by decide)
  have F420_55 : Fld Z h420 b420 "java/lang/String" "value" "[B" .null := D420 (Or.inr (w_55 hw)) (ty := (.array .byte)) (by decide)
  refine own_go (fun t k => XS.dup X420.here hx rfl (hb hby at_222) rfl rfl k) ?_
  refine own_go (fun t k => XS.aload X420.here hx rfl (hb hby at_223) rfl rfl k) ?_
  have f421 := (((((((((((V393.ext E394).other W397 (Nat.ne_of_lt (Nat.lt_of_lt_of_le hi382 (Nat.le_trans (Nat.le_trans (Nat.le_trans (Nat.le_trans (Nat.le_of_eq W385.size.symm) (Nat.le_of_eq W388.size.symm)) (Nat.le_of_eq W391.size.symm)) (Nat.le_of_eq W393.size.symm)) lo394)))).other W400 (Nat.ne_of_lt (Nat.lt_of_lt_of_le hi382 (Nat.le_trans (Nat.le_trans (Nat.le_trans (Nat.le_trans (Nat.le_of_eq W385.size.symm) (Nat.le_of_eq W388.size.symm)) (Nat.le_of_eq W391.size.symm)) (Nat.le_of_eq W393.size.symm)) lo394)))).other W403 (Nat.ne_of_lt (Nat.lt_of_lt_of_le hi382 (Nat.le_trans (Nat.le_trans (Nat.le_trans (Nat.le_trans (Nat.le_of_eq W385.size.symm) (Nat.le_of_eq W388.size.symm)) (Nat.le_of_eq W391.size.symm)) (Nat.le_of_eq W393.size.symm)) lo394)))).other W406 (Nat.ne_of_lt (Nat.lt_of_lt_of_le hi382 (Nat.le_trans (Nat.le_trans (Nat.le_trans (Nat.le_trans (Nat.le_of_eq W385.size.symm) (Nat.le_of_eq W388.size.symm)) (Nat.le_of_eq W391.size.symm)) (Nat.le_of_eq W393.size.symm)) lo394)))).other W409 (Nat.ne_of_lt (Nat.lt_of_lt_of_le hi382 (Nat.le_trans (Nat.le_trans (Nat.le_trans (Nat.le_trans (Nat.le_of_eq W385.size.symm) (Nat.le_of_eq W388.size.symm)) (Nat.le_of_eq W391.size.symm)) (Nat.le_of_eq W393.size.symm)) lo394)))).other W412 (Nat.ne_of_lt (Nat.lt_of_lt_of_le hi382 (Nat.le_trans (Nat.le_trans (Nat.le_trans (Nat.le_trans (Nat.le_of_eq W385.size.symm) (Nat.le_of_eq W388.size.symm)) (Nat.le_of_eq W391.size.symm)) (Nat.le_of_eq W393.size.symm)) lo394)))).other W414 (Nat.ne_of_lt (Nat.lt_of_lt_of_le hi382 (Nat.le_trans (Nat.le_trans (Nat.le_trans (Nat.le_trans (Nat.le_of_eq W385.size.symm) (Nat.le_of_eq W388.size.symm)) (Nat.le_of_eq W391.size.symm)) (Nat.le_of_eq W393.size.symm)) lo394)))).ext E415).keep K418q (ninS (Nat.ne_of_lt (Nat.lt_of_lt_of_le hi382 (Nat.le_trans (Nat.le_trans (Nat.le_trans (Nat.le_trans (Nat.le_trans (Nat.le_trans (Nat.le_trans (Nat.le_trans (Nat.le_trans (Nat.le_trans (Nat.le_trans (Nat.le_trans (Nat.le_of_eq W385.size.symm) (Nat.le_of_eq W388.size.symm)) (Nat.le_of_eq W391.size.symm)) (Nat.le_of_eq W393.size.symm)) E394.1) (Nat.le_of_eq W397.size.symm)) (Nat.le_of_eq W400.size.symm)) (Nat.le_of_eq W403.size.symm)) (Nat.le_of_eq W406.size.symm)) (Nat.le_of_eq W409.size.symm)) (Nat.le_of_eq W412.size.symm)) (Nat.le_of_eq W414.size.symm)) lo415))) nin0)).ext E420)
  obtain ⟨_, _, ⟨T422, L422, k422, n422⟩, -, X422, ⟨Lc422, hQ422, l422, y422, z422⟩, st422⟩ := X420.specialBack hx (y := (⟨"java/lang/String", "<init>", "([C)V"⟩ : MethodName)) rfl hown (mvT hZ (w_11 hw)) (mvT hZ (w_12 hw)) (mvT hZ (w_13 hw)) (by decide) (backOf (W := 1) (rm_s_4 l Z a0 hw [] b420 b382 k382 e0_ e1_ e2_ zv gv h420 n0 Z420 q420 A420 F420_55 F420_53 f421 Be0_ Be1_ Be2_ ((f417.keep K418q (allS q415 all0)).ext E420) hzv S0 rgv G0 Sa Sh Sl) hZ (w_13 hw) (w_10 hw) (by decide) (by decide)) (g := (mkF m 225 #[.val (.int iv), .val (.long bv), .second, .val (.int n1), .val (.int n2), .val (.int f1), .val (.int f2), .val (.ref b370), .val (.ref b382), .val (.ref b394), .val (.int (own_p4 a0_ a1_ a2_)), .unset, .unset, .unset, .unset, .unset, .unset] [(.ref b382), (.ref b420), (.ref b420)])) rfl (by rw [hml]; rfl) (Steps.refl _) (a := b420) (argsL := [(.ref b382)]) (rest := [(.ref b420)]) (lenOf pd_19 rfl) rfl (by show 2 * 0 + _ ≤ _; exact Nat.le_of_eq rfl) (hb hby at_225) (fun _ _ => ⟨rfl, e420, (own_rm hcc (by decide) : cells + 9 ≤ 32), (own_rm hss (by decide) : slots + 47 ≤ 256)⟩)
  dsimp only [Pt.U, Pt.locs, Pt.cells, Pt.slots] at X422 l422 y422 z422 st422 hQ422
  subst y422 z422
  generalize e422 : T422.heap = h422 at hQ422
  obtain ⟨ub422, kb422, rfl, N422q, K422q, Ec422, Ev422, lo422, q422, Ek422⟩ := hQ422
  have N422 : Fr n0 L422 := by rw [l422]; exact Fr.app N419 N422q
  clear l422
  refine own_go (fun t k => st422.trans k) ?_
  have Z422 : n0 ≤ h422.size := (Nat.le_trans Z420 K422q.1)
  have hi422 := Ek422.lt
  have f423 := (((f417.keep K418q (allS q415 all0)).ext E420).keep K422q (allS q420 all0))
  show own_Go _ _ _ _ (T422.setTop (mkF m 228 #[.val (.int iv), .val (.long bv), .second, .val (.int n1), .val (.int n2), .val (.int f1), .val (.int f2), .val (.ref b370), .val (.ref b382), .val (.ref b394), .val (.int (own_p4 a0_ a1_ a2_)), .unset, .unset, .unset, .unset, .unset, .unset] [(.ref b420)]))
  obtain ⟨_, _, ⟨T424, L424, k424, n424⟩, -, X424, ⟨Lc424, hQ424, l424, y424, z424⟩, st424⟩ := Jvm.LawKit.callS X422 hx (y := (⟨"com/example/compact_transform/compacttransform/tree/StringFootprint", "latin1Prefix", "(Ljava/lang/String;)I"⟩ : MethodName)) hown (mvT hZ (w_56 hw)) (mvT hZ (w_57 hw)) (mvT hZ (w_58 hw)) (mvT hZ (w_59 hw)) (by decide) (backOf (W := 0) (rm_lp_4 l Z a0 hw [] b420 ub422 kb422 e0_ e1_ e2_ zv gv h422 n0 Z422 (A420.keep K422q) Ec422 Ev422 Ek422 Be0_ Be1_ Be2_ f423 hzv S0 rgv G0 Sa Sh Sl) hZ (w_59 hw) (w_58 hw) (by decide) (by decide)) (g := (mkF m 228 #[.val (.int iv), .val (.long bv), .second, .val (.int n1), .val (.int n2), .val (.int f1), .val (.int f2), .val (.ref b370), .val (.ref b382), .val (.ref b394), .val (.int (own_p4 a0_ a1_ a2_)), .unset, .unset, .unset, .unset, .unset, .unset] [(.ref b420)])) rfl (by rw [hml]; rfl) (argsL := [(.ref b420)]) (rest := []) (lenOf pd_20 rfl) rfl (by show 2 * 0 + _ ≤ _; exact Nat.le_of_eq rfl) (hb hby at_228) (fun _ _ => ⟨rfl, e422, (own_rm hcc (by decide) : cells + 9 ≤ 32), (own_rm hss (by decide) : slots + 47 ≤ 256)⟩)
  dsimp only [Pt.U, Pt.locs, Pt.cells, Pt.slots] at X424 l424 y424 z424 st424 hQ424
  rw [Nat.add_zero] at y424 z424
  subst y424 z424
  obtain ⟨rfl, N424q, e424⟩ := hQ424
  have N424 : Fr n0 L424 := by rw [l424]; exact Fr.app N422 N424q
  clear l424
  refine own_go st424 ?_
  refine own_go (fun t k => XS.istore X424.here hx rfl (hb hby at_231) rfl (l' := #[.val (.int iv), .val (.long bv), .second, .val (.int n1), .val (.int n2), .val (.int f1), .val (.int f2), .val (.ref b370), .val (.ref b382), .val (.ref b394), .val (.int (own_p4 a0_ a1_ a2_)), .val (.int (own_p4 e0_ e1_ e2_)), .unset, .unset, .unset, .unset, .unset]) rfl k) ?_
  show own_Go _ _ _ _ (T424.setTop (mkF m 233 #[.val (.int iv), .val (.long bv), .second, .val (.int n1), .val (.int n2), .val (.int f1), .val (.int f2), .val (.ref b370), .val (.ref b382), .val (.ref b394), .val (.int (own_p4 a0_ a1_ a2_)), .val (.int (own_p4 e0_ e1_ e2_)), .unset, .unset, .unset, .unset, .unset] []))
  obtain ⟨T425, h425, X425, e425, E425, A425, D425, -, st425⟩ := newO X424 hx hZ hown (w_8 hw) (w_9 hw) (w_10 hw) e424 (g := (mkF m 233 #[.val (.int iv), .val (.long bv), .second, .val (.int n1), .val (.int n2), .val (.int f1), .val (.int f2), .val (.ref b370), .val (.ref b382), .val (.ref b394), .val (.int (own_p4 a0_ a1_ a2_)), .val (.int (own_p4 e0_ e1_ e2_)), .unset, .unset, .unset, .unset, .unset] [])) rfl (hb hby at_233) (own_rm hcc (by decide) : cells + 10 ≤ 32) (own_rm hss (by decide) : slots + 51 ≤ 256)
  obtain ⟨b425, g425⟩ : ∃ z, z = h422.size := ⟨_, rfl⟩
  rw [← g425] at A425 D425 st425
  refine own_go st425 ?_
  have Z425 : n0 ≤ h425.size := (Nat.le_trans Z422 E425.1)
  have lo425 : h422.size ≤ b425 := Nat.le_of_eq g425.symm
  have q425 : n0 ≤ b425 := Nat.le_trans Z422 lo425
  have hi425 : b425 < h425.size := A425.lt
  have F425_53 : Fld Z h425 b425 "java/lang/String" "coder" "B" (.int (0 : Int32)) := D425 (Or.inr (w_53 hw)) (ty := .byte) (by decide)
  have F425_55 : Fld Z h425 b425 "java/lang/String" "value" "[B" .null := D425 (Or.inr (w_55 hw)) (ty := (.array .byte)) (by decide)
  refine own_go (fun t k => XS.dup X425.here hx rfl (hb hby at_236) rfl rfl k) ?_
  refine own_go (fun t k => XS.aload X425.here hx rfl (hb hby at_237) rfl rfl k) ?_
  have f426 := (((((V414.ext E415).keep K418q (ninS (Nat.ne_of_lt (Nat.lt_of_lt_of_le hi394 (Nat.le_trans (Nat.le_trans (Nat.le_trans (Nat.le_trans (Nat.le_trans (Nat.le_trans (Nat.le_trans (Nat.le_of_eq W397.size.symm) (Nat.le_of_eq W400.size.symm)) (Nat.le_of_eq W403.size.symm)) (Nat.le_of_eq W406.size.symm)) (Nat.le_of_eq W409.size.symm)) (Nat.le_of_eq W412.size.symm)) (Nat.le_of_eq W414.size.symm)) lo415))) nin0)).ext E420).keep K422q (ninS (Nat.ne_of_lt (Nat.lt_of_lt_of_le hi394 (Nat.le_trans (Nat.le_trans (Nat.le_trans (Nat.le_trans (Nat.le_trans (Nat.le_trans (Nat.le_trans (Nat.le_trans (Nat.le_trans (Nat.le_of_eq W397.size.symm) (Nat.le_of_eq W400.size.symm)) (Nat.le_of_eq W403.size.symm)) (Nat.le_of_eq W406.size.symm)) (Nat.le_of_eq W409.size.symm)) (Nat.le_of_eq W412.size.symm)) (Nat.le_of_eq W414.size.symm)) E415.1) K418q.1) lo420))) nin0)).ext E425)
  obtain ⟨_, _, ⟨T427, L427, k427, n427⟩, -, X427, ⟨Lc427, hQ427, l427, y427, z427⟩, st427⟩ := X425.specialBack hx (y := (⟨"java/lang/String", "<init>", "([C)V"⟩ : MethodName)) rfl hown (mvT hZ (w_11 hw)) (mvT hZ (w_12 hw)) (mvT hZ (w_13 hw)) (by decide) (backOf (W := 1) (rm_s_7 l Z a0 hw [] b425 b394 k394 j0_ j1_ j2_ j3_ j4_ j5_ zv gv h425 n0 Z425 q425 A425 F425_55 F425_53 f426 Bj0_ Bj1_ Bj2_ Bj3_ Bj4_ Bj5_ (f423.ext E425) hzv S0 rgv G0 Sa Sh Sl) hZ (w_13 hw) (w_10 hw) (by decide) (by decide)) (g := (mkF m 239 #[.val (.int iv), .val (.long bv), .second, .val (.int n1), .val (.int n2), .val (.int f1), .val (.int f2), .val (.ref b370), .val (.ref b382), .val (.ref b394), .val (.int (own_p4 a0_ a1_ a2_)), .val (.int (own_p4 e0_ e1_ e2_)), .unset, .unset, .unset, .unset, .unset] [(.ref b394), (.ref b425), (.ref b425)])) rfl (by rw [hml]; rfl) (Steps.refl _) (a := b425) (argsL := [(.ref b394)]) (rest := [(.ref b425)]) (lenOf pd_19 rfl) rfl (by show 2 * 0 + _ ≤ _; exact Nat.le_of_eq rfl) (hb hby at_239) (fun _ _ => ⟨rfl, e425, (own_rm hcc (by decide) : cells + 12 ≤ 32), (own_rm hss (by decide) : slots + 72 ≤ 256)⟩)
  dsimp only [Pt.U, Pt.locs, Pt.cells, Pt.slots] at X427 l427 y427 z427 st427 hQ427
  subst y427 z427
  generalize e427 : T427.heap = h427 at hQ427
  obtain ⟨ub427, kb427, rfl, N427q, K427q, Ec427, Ev427, lo427, q427, Ek427⟩ := hQ427
  have N427 : Fr n0 L427 := by rw [l427]; exact Fr.app N424 N427q
  clear l427
  refine own_go (fun t k => st427.trans k) ?_
  have Z427 : n0 ≤ h427.size := (Nat.le_trans Z425 K427q.1)
  have hi427 := Ek427.lt
  show own_Go _ _ _ _ (T427.setTop (mkF m 242 #[.val (.int iv), .val (.long bv), .second, .val (.int n1), .val (.int n2), .val (.int f1), .val (.int f2), .val (.ref b370), .val (.ref b382), .val (.ref b394), .val (.int (own_p4 a0_ a1_ a2_)), .val (.int (own_p4 e0_ e1_ e2_)), .unset, .unset, .unset, .unset, .unset] [(.ref b425)]))
  obtain ⟨_, _, ⟨T428, L428, k428, n428⟩, -, X428, ⟨Lc428, hQ428, l428, y428, z428⟩, st428⟩ := Jvm.LawKit.callS X427 hx (y := (⟨"com/example/compact_transform/compacttransform/tree/StringFootprint", "latin1Prefix", "(Ljava/lang/String;)I"⟩ : MethodName)) hown (mvT hZ (w_56 hw)) (mvT hZ (w_57 hw)) (mvT hZ (w_58 hw)) (mvT hZ (w_59 hw)) (by decide) (backOf (W := 0) (rm_lp_7 l Z a0 hw [] b425 ub427 kb427 j0_ j1_ j2_ j3_ j4_ j5_ zv gv h427 n0 Z427 (A425.keep K427q) Ec427 Ev427 Ek427 Bj0_ Bj1_ Bj2_ Bj3_ Bj4_ Bj5_ ((f423.ext E425).keep K427q (allS q425 all0)) hzv S0 rgv G0 Sa Sh Sl) hZ (w_59 hw) (w_58 hw) (by decide) (by decide)) (g := (mkF m 242 #[.val (.int iv), .val (.long bv), .second, .val (.int n1), .val (.int n2), .val (.int f1), .val (.int f2), .val (.ref b370), .val (.ref b382), .val (.ref b394), .val (.int (own_p4 a0_ a1_ a2_)), .val (.int (own_p4 e0_ e1_ e2_)), .unset, .unset, .unset, .unset, .unset] [(.ref b425)])) rfl (by rw [hml]; rfl) (argsL := [(.ref b425)]) (rest := []) (lenOf pd_20 rfl) rfl (by show 2 * 0 + _ ≤ _; exact Nat.le_of_eq rfl) (hb hby at_242) (fun _ _ => ⟨rfl, e427, (own_rm hcc (by decide) : cells + 12 ≤ 32), (own_rm hss (by decide) : slots + 72 ≤ 256)⟩)
  dsimp only [Pt.U, Pt.locs, Pt.cells, Pt.slots] at X428 l428 y428 z428 st428 hQ428
  rw [Nat.add_zero] at y428 z428
  subst y428 z428
  obtain ⟨rfl, N428q, e428⟩ := hQ428
  have N428 : Fr n0 L428 := by rw [l428]; exact Fr.app N427 N428q
  clear l428
  refine own_go st428 ?_
  refine own_go (fun t k => XS.istore X428.here hx rfl (hb hby at_245) rfl (l' := #[.val (.int iv), .val (.long bv), .second, .val (.int n1), .val (.int n2), .val (.int f1), .val (.int f2), .val (.ref b370), .val (.ref b382), .val (.ref b394), .val (.int (own_p4 a0_ a1_ a2_)), .val (.int (own_p4 e0_ e1_ e2_)), .val (.int (own_p7 j0_ j1_ j2_ j3_ j4_ j5_)), .unset, .unset, .unset, .unset]) rfl k) ?_
  show own_Go _ _ _ _ (T428.setTop (mkF m 247 #[.val (.int iv), .val (.long bv), .second, .val (.int n1), .val (.int n2), .val (.int f1), .val (.int f2), .val (.ref b370), .val (.ref b382), .val (.ref b394), .val (.int (own_p4 a0_ a1_ a2_)), .val (.int (own_p4 e0_ e1_ e2_)), .val (.int (own_p7 j0_ j1_ j2_ j3_ j4_ j5_)), .unset, .unset, .unset, .unset] []))
  exact sg_tl hw X428 hlk hret hx hby hml hown hZ e428 N428 Z427 iv bv zv gv hq n1 f1 f2 a0_ a1_ a2_ e0_ e1_ e2_ j0_ j1_ j2_ j3_ j4_ j5_ hf1 hf2 (own_join bv hn1 hn2 ea0_ ea1_ ea2_ ee0_ ee1_ ee2_ ej0_ ej1_ ej2_ ej3_ ej4_ ej5_) (own_rm hcc (by decide) : cells + 12 ≤ 32) (own_rm hss (by decide) : slots + 72 ≤ 256)
set_option maxRecDepth 65536 in
set_option maxHeartbeats 40000000 in
theorem sg_sA {p : Program} {l : Launch} {e : Env} {s : State} {m : MethodId} {args : Array Value} {below : List Frame} {meth : Method} {c : Code} {T0 : State} {locs : List Loc} {cells slots : Nat} {Z : State} {a0 : Array Value} (hw : ∀ d ∈ tables_1, d.before a0 Z = true)  {h0 : Heap} {n0 : Nat} (X0 : Stand p l e room_1 s m args below meth c T0 locs cells slots) (hlk : meth.locks = false) (hret : meth.sig.returnType = ret) (hx : p.tables.exec = Jvm.exec) (hby : c.code = code) (hml : c.maxLocals = maxLocals) (hown : s.vm.findClass "com/example/compact_transform/compacttransform/tree/StringFootprintLatin1PrefixOfJoinPinLaw" = some m.cls) (hZ : Z.Warmed39 s.vm) (e0 : T0.heap = h0) (N0 : Fr n0 locs) (Z0 : n0 ≤ h0.size)
    (iv : Int32) (bv : Int64) (zv : Int32) (gv : Value) (hq : Heap) (n1 n2 f1 : Int32) (O0 : Old Z n0 h0) (hzv : ¬ zv = (0 : Int32)) (S0 : Sta Z Z.heap "java/lang/String" "COMPACT_STRINGS" "Z" (.int zv)) (rgv : gv.isRef = true) (G0 : Sta Z Z.heap "jdk/internal/util/Preconditions" "SIOOBE_FORMATTER" "Ljava/util/function/BiFunction;" gv) (Sa : Sta Z Z.heap "java/lang/StringUTF16" "$assertionsDisabled" "Z" (.int (1 : Int32))) (Sh : Sta Z Z.heap "java/lang/StringUTF16" "HI_BYTE_SHIFT" "I" (.int (0 : Int32))) (Sl : Sta Z Z.heap "java/lang/StringUTF16" "LO_BYTE_SHIFT" "I" (.int (8 : Int32))) (hn1 : n1 = 0 ∨ n1 = 1 ∨ n1 = 2 ∨ n1 = 3) (hn2 : n2 = 0 ∨ n2 = 1 ∨ n2 = 2 ∨ n2 = 3) (hf1 : f1 = 0 ∨ f1 = 1) (hcc : cells + 12 ≤ 32) (hss : slots + 72 ≤ 256) :
    own_Go p e below (own_Fin s room_1.cells room_1.slots (Q_law Z iv bv zv gv hq n0)) (T0.setTop (mkF m 24 #[.val (.int iv), .val (.long bv), .second, .val (.int n1), .val (.int n2), .unset, .unset, .unset, .unset, .unset, .unset, .unset, .unset, .unset, .unset, .unset, .unset] [(.int f1)])) := by
  show own_Go _ _ _ _ (T0.setTop (mkF m 24 #[.val (.int iv), .val (.long bv), .second, .val (.int n1), .val (.int n2), .unset, .unset, .unset, .unset, .unset, .unset, .unset, .unset, .unset, .unset, .unset, .unset] [(.int f1)]))
  refine own_go (fun t k => XS.istore X0.here hx rfl (hb hby at_24) rfl (l' := #[.val (.int iv), .val (.long bv), .second, .val (.int n1), .val (.int n2), .val (.int f1), .unset, .unset, .unset, .unset, .unset, .unset, .unset, .unset, .unset, .unset, .unset]) rfl k) ?_
  refine own_go (fun t k => XS.iloadN X0.here hx rfl (hb hby at_26) rfl k) ?_
  refine own_go (fun t k => XS.iconst X0.here hx rfl (hb hby at_27) k) ?_
  refine own_go (fun t k => XS.iushr X0.here hx rfl (hb hby at_28) rfl k) ?_
  show own_Go _ _ _ _ (T0.setTop (mkF m 29 #[.val (.int iv), .val (.long bv), .second, .val (.int n1), .val (.int n2), .val (.int f1), .unset, .unset, .unset, .unset, .unset, .unset, .unset, .unset, .unset, .unset, .unset] [(.int ((iv.toUInt32 >>> ((5 : Int32) &&& 31).toUInt32).toInt32))]))
  refine own_go (fun t k => XS.iconst X0.here hx rfl (hb hby at_29) k) ?_
  refine own_go (fun t k => XS.iand X0.here hx rfl (hb hby at_30) rfl k) ?_
  by_cases hc429 : (((iv.toUInt32 >>> ((5 : Int32) &&& 31).toUInt32).toInt32) &&& (1 : Int32)) = (0 : Int32)
  · show own_Go _ _ _ _ (T0.setTop (mkF m 31 #[.val (.int iv), .val (.long bv), .second, .val (.int n1), .val (.int n2), .val (.int f1), .unset, .unset, .unset, .unset, .unset, .unset, .unset, .unset, .unset, .unset, .unset] [(.int (((iv.toUInt32 >>> ((5 : Int32) &&& 31).toUInt32).toInt32) &&& (1 : Int32)))]))
    refine own_go (fun t k => XS.ifYes X0.here hx rfl (pc0 := 31) (pc' := 38) rfl (hb hby at_31) rfl ((if0 _ _).trans (teq hc429).1) (by decide) (by decide) k) ?_
    refine own_go (fun t k => XS.iconst X0.here hx rfl (hb hby at_38) k) ?_
    show own_Go _ _ _ _ (T0.setTop (mkF m 39 #[.val (.int iv), .val (.long bv), .second, .val (.int n1), .val (.int n2), .val (.int f1), .unset, .unset, .unset, .unset, .unset, .unset, .unset, .unset, .unset, .unset, .unset] [(.int (0 : Int32))]))
    exact sg_sB hw X0 hlk hret hx hby hml hown hZ e0 N0 Z0 iv bv zv gv hq n1 n2 f1 (0 : Int32) O0 hzv S0 rgv G0 Sa Sh Sl hn1 hn2 hf1 (Or.inl rfl) (own_rm hcc (by decide) : cells + 12 ≤ 32) (own_rm hss (by decide) : slots + 72 ≤ 256)
  · show own_Go _ _ _ _ (T0.setTop (mkF m 31 #[.val (.int iv), .val (.long bv), .second, .val (.int n1), .val (.int n2), .val (.int f1), .unset, .unset, .unset, .unset, .unset, .unset, .unset, .unset, .unset, .unset, .unset] [(.int (((iv.toUInt32 >>> ((5 : Int32) &&& 31).toUInt32).toInt32) &&& (1 : Int32)))]))
    refine own_go (fun t k => XS.ifNo X0.here hx rfl (hb hby at_31) rfl ((if0 _ _).trans (feq hc429).1) k) ?_
    refine own_go (fun t k => XS.iconst X0.here hx rfl (hb hby at_34) k) ?_
    refine own_go (fun t k => XS.goto X0.here hx rfl (pc0 := 35) (pc' := 39) rfl (hb hby at_35) (by decide) (by decide) k) ?_
    show own_Go _ _ _ _ (T0.setTop (mkF m 39 #[.val (.int iv), .val (.long bv), .second, .val (.int n1), .val (.int n2), .val (.int f1), .unset, .unset, .unset, .unset, .unset, .unset, .unset, .unset, .unset, .unset, .unset] [(.int (1 : Int32))]))
    exact sg_sB hw X0 hlk hret hx hby hml hown hZ e0 N0 Z0 iv bv zv gv hq n1 n2 f1 (1 : Int32) O0 hzv S0 rgv G0 Sa Sh Sl hn1 hn2 hf1 (Or.inr rfl) (own_rm hcc (by decide) : cells + 12 ≤ 32) (own_rm hss (by decide) : slots + 72 ≤ 256)
theorem ef_law (m : MethodId) (iv : Int32) (bv : Int64) : entryFrame m #[(.int iv), (.long bv)] maxLocals = mkF m 0 #[.val (.int iv), .val (.long bv), .second, .unset, .unset, .unset, .unset, .unset, .unset, .unset, .unset, .unset, .unset, .unset, .unset, .unset, .unset] [] := by first | (simp [entryFrame, mkF, argsToLocals, Value.category, maxLocals]; done) | rfl
set_option maxRecDepth 65536 in
set_option maxHeartbeats 40000000 in
theorem rm_law (l : Launch) (Z : State) (a0 : Array Value) (hw : ∀ d ∈ tables_1, d.before a0 Z = true) (ws : List Jvm.Cond) (iv : Int32) (bv : Int64) (zv : Int32) (gv : Value) (h0 : Heap) (n0 : Nat) (Z0 : n0 ≤ h0.size) (O0 : Old Z n0 h0) (hzv : ¬ zv = (0 : Int32)) (S0 : Sta Z Z.heap "java/lang/String" "COMPACT_STRINGS" "Z" (.int zv)) (rgv : gv.isRef = true) (G0 : Sta Z Z.heap "jdk/internal/util/Preconditions" "SIOOBE_FORMATTER" "Ljava/util/function/BiFunction;" gv) (Sa : Sta Z Z.heap "java/lang/StringUTF16" "$assertionsDisabled" "Z" (.int (1 : Int32))) (Sh : Sta Z Z.heap "java/lang/StringUTF16" "HI_BYTE_SHIFT" "I" (.int (0 : Int32))) (Sl : Sta Z Z.heap "java/lang/StringUTF16" "LO_BYTE_SHIFT" "I" (.int (8 : Int32))) :
    own_Met l Z x code maxLocals ret ws room_1 #[(.int iv), (.long bv)] h0 (Q_law Z iv bv zv gv h0 n0) := by
  refine own_enter (own := "com/example/compact_transform/compacttransform/tree/StringFootprintLatin1PrefixOfJoinPinLaw") (plainFor_of_name pn_0) rfl ?_
  intro p e s m below meth c s₁ hlk hret hx hby hml hown hnm hZ X0 e0
  have N0 := Fr.nil n0
  refine own_cast (ef_law m iv bv) ?_
  show own_Go _ _ _ _ (s₁.setTop (mkF m 0 #[.val (.int iv), .val (.long bv), .second, .unset, .unset, .unset, .unset, .unset, .unset, .unset, .unset, .unset, .unset, .unset, .unset, .unset, .unset] []))
  refine own_go (fun t k => XS.iloadN X0.here hx rfl (hb hby at_0) rfl k) ?_
  refine own_go (fun t k => XS.iconst X0.here hx rfl (hb hby at_1) k) ?_
  refine own_go (fun t k => XS.iand X0.here hx rfl (hb hby at_2) rfl k) ?_
  show own_Go _ _ _ _ (s₁.setTop (mkF m 3 #[.val (.int iv), .val (.long bv), .second, .unset, .unset, .unset, .unset, .unset, .unset, .unset, .unset, .unset, .unset, .unset, .unset, .unset, .unset] [(.int (iv &&& (3 : Int32)))]))
  obtain ⟨n1, en1⟩ : ∃ z, z = iv &&& (3 : Int32) := ⟨_, rfl⟩
  rw [← en1]
  have hn1 : n1 = 0 ∨ n1 = 1 ∨ n1 = 2 ∨ n1 = 3 := en1 ▸ own_four iv
  show own_Go _ _ _ _ (s₁.setTop (mkF m 3 #[.val (.int iv), .val (.long bv), .second, .unset, .unset, .unset, .unset, .unset, .unset, .unset, .unset, .unset, .unset, .unset, .unset, .unset, .unset] [(.int n1)]))
  refine own_go (fun t k => XS.istoreN X0.here hx rfl (hb hby at_3) rfl (l' := #[.val (.int iv), .val (.long bv), .second, .val (.int n1), .unset, .unset, .unset, .unset, .unset, .unset, .unset, .unset, .unset, .unset, .unset, .unset, .unset]) rfl k) ?_
  refine own_go (fun t k => XS.iloadN X0.here hx rfl (hb hby at_4) rfl k) ?_
  refine own_go (fun t k => XS.iconst X0.here hx rfl (hb hby at_5) k) ?_
  refine own_go (fun t k => XS.iushr X0.here hx rfl (hb hby at_6) rfl k) ?_
  show own_Go _ _ _ _ (s₁.setTop (mkF m 7 #[.val (.int iv), .val (.long bv), .second, .val (.int n1), .unset, .unset, .unset, .unset, .unset, .unset, .unset, .unset, .unset, .unset, .unset, .unset, .unset] [(.int ((iv.toUInt32 >>> ((2 : Int32) &&& 31).toUInt32).toInt32))]))
  refine own_go (fun t k => XS.iconst X0.here hx rfl (hb hby at_7) k) ?_
  refine own_go (fun t k => XS.iand X0.here hx rfl (hb hby at_8) rfl k) ?_
  show own_Go _ _ _ _ (s₁.setTop (mkF m 9 #[.val (.int iv), .val (.long bv), .second, .val (.int n1), .unset, .unset, .unset, .unset, .unset, .unset, .unset, .unset, .unset, .unset, .unset, .unset, .unset] [(.int (((iv.toUInt32 >>> ((2 : Int32) &&& 31).toUInt32).toInt32) &&& (3 : Int32)))]))
  obtain ⟨n2, en2⟩ : ∃ z, z = ((iv.toUInt32 >>> ((2 : Int32) &&& 31).toUInt32).toInt32) &&& (3 : Int32) := ⟨_, rfl⟩
  rw [← en2]
  have hn2 : n2 = 0 ∨ n2 = 1 ∨ n2 = 2 ∨ n2 = 3 := en2 ▸ own_four ((iv.toUInt32 >>> ((2 : Int32) &&& 31).toUInt32).toInt32)
  show own_Go _ _ _ _ (s₁.setTop (mkF m 9 #[.val (.int iv), .val (.long bv), .second, .val (.int n1), .unset, .unset, .unset, .unset, .unset, .unset, .unset, .unset, .unset, .unset, .unset, .unset, .unset] [(.int n2)]))
  refine own_go (fun t k => XS.istore X0.here hx rfl (hb hby at_9) rfl (l' := #[.val (.int iv), .val (.long bv), .second, .val (.int n1), .val (.int n2), .unset, .unset, .unset, .unset, .unset, .unset, .unset, .unset, .unset, .unset, .unset, .unset]) rfl k) ?_
  refine own_go (fun t k => XS.iloadN X0.here hx rfl (hb hby at_11) rfl k) ?_
  refine own_go (fun t k => XS.iconst X0.here hx rfl (hb hby at_12) k) ?_
  refine own_go (fun t k => XS.iushr X0.here hx rfl (hb hby at_13) rfl k) ?_
  show own_Go _ _ _ _ (s₁.setTop (mkF m 14 #[.val (.int iv), .val (.long bv), .second, .val (.int n1), .val (.int n2), .unset, .unset, .unset, .unset, .unset, .unset, .unset, .unset, .unset, .unset, .unset, .unset] [(.int ((iv.toUInt32 >>> ((4 : Int32) &&& 31).toUInt32).toInt32))]))
  refine own_go (fun t k => XS.iconst X0.here hx rfl (hb hby at_14) k) ?_
  refine own_go (fun t k => XS.iand X0.here hx rfl (hb hby at_15) rfl k) ?_
  by_cases hc430 : (((iv.toUInt32 >>> ((4 : Int32) &&& 31).toUInt32).toInt32) &&& (1 : Int32)) = (0 : Int32)
  · show own_Go _ _ _ _ (s₁.setTop (mkF m 16 #[.val (.int iv), .val (.long bv), .second, .val (.int n1), .val (.int n2), .unset, .unset, .unset, .unset, .unset, .unset, .unset, .unset, .unset, .unset, .unset, .unset] [(.int (((iv.toUInt32 >>> ((4 : Int32) &&& 31).toUInt32).toInt32) &&& (1 : Int32)))]))
    refine own_go (fun t k => XS.ifYes X0.here hx rfl (pc0 := 16) (pc' := 23) rfl (hb hby at_16) rfl ((if0 _ _).trans (teq hc430).1) (by decide) (by decide) k) ?_
    refine own_go (fun t k => XS.iconst X0.here hx rfl (hb hby at_23) k) ?_
    show own_Go _ _ _ _ (s₁.setTop (mkF m 24 #[.val (.int iv), .val (.long bv), .second, .val (.int n1), .val (.int n2), .unset, .unset, .unset, .unset, .unset, .unset, .unset, .unset, .unset, .unset, .unset, .unset] [(.int (0 : Int32))]))
    exact sg_sA hw X0 hlk hret hx hby hml hown hZ e0 N0 Z0 iv bv zv gv h0 n1 n2 (0 : Int32) O0 hzv S0 rgv G0 Sa Sh Sl hn1 hn2 (Or.inl rfl) (by decide) (by decide)
  · show own_Go _ _ _ _ (s₁.setTop (mkF m 16 #[.val (.int iv), .val (.long bv), .second, .val (.int n1), .val (.int n2), .unset, .unset, .unset, .unset, .unset, .unset, .unset, .unset, .unset, .unset, .unset, .unset] [(.int (((iv.toUInt32 >>> ((4 : Int32) &&& 31).toUInt32).toInt32) &&& (1 : Int32)))]))
    refine own_go (fun t k => XS.ifNo X0.here hx rfl (hb hby at_16) rfl ((if0 _ _).trans (feq hc430).1) k) ?_
    refine own_go (fun t k => XS.iconst X0.here hx rfl (hb hby at_19) k) ?_
    refine own_go (fun t k => XS.goto X0.here hx rfl (pc0 := 20) (pc' := 24) rfl (hb hby at_20) (by decide) (by decide) k) ?_
    show own_Go _ _ _ _ (s₁.setTop (mkF m 24 #[.val (.int iv), .val (.long bv), .second, .val (.int n1), .val (.int n2), .unset, .unset, .unset, .unset, .unset, .unset, .unset, .unset, .unset, .unset, .unset, .unset] [(.int (1 : Int32))]))
    exact sg_sA hw X0 hlk hret hx hby hml hown hZ e0 N0 Z0 iv bv zv gv h0 n1 n2 (1 : Int32) O0 hzv S0 rgv G0 Sa Sh Sl hn1 hn2 (Or.inr rfl) (by decide) (by decide)
set_option maxRecDepth 65536 in
set_option maxHeartbeats 40000000 in
theorem comes_1 {Post : Tables → Env → Array Value → State → Outcome → State → Prop} (hpost : ∀ tb e args s v u, (limb_1_1.after args s (.returned v) u = true ∧ limb_1_2.after args s (.returned v) u = true ∧ True) → FrameEnd s (.returned v) u (Jvm.fieldLocs frame_1_writes args s ++ Jvm.arrayLocs frame_1_arrays args s ++ Jvm.staticLocs frame_1_statics s) 32 256 → Post tb e args s (.returned v) u) :
    ArmFor flags0 classFile x code maxLocals ret World_1 tables_1 room_1 Calls_1 rest_1 Pre_1 Post := by
  intro l hfl _ _ p e ha hc hk s m args below hf hA hF happ hP
  obtain ⟨hcalls, hrest, hpre⟩ := hP
  obtain ⟨-, -, -, hnamed, -, -, -, hat⟩ := (Spec.applies_iff hf).mp happ
  obtain ⟨hg, hn⟩ := and_e (Cond.before_iff.mp (show (Jvm.Cond.and given_1 narrow_1).before args s = true from hpre))
  obtain ⟨g1, g2⟩ := and_e hg
  obtain ⟨g3, g4⟩ := and_e g2
  obtain ⟨w0, w1, rfl⟩ : ∃ w0 w1 : Value, args = #[w0, w1] := by
    have hs : args.size = 2 := by simpa [Cond.value, given_1] using g1
    obtain ⟨L⟩ := args
    match L, hs with
    | [w0, w1], _ => exact ⟨w0, w1, rfl⟩
  have hw := fun d (hd : d ∈ tables_1) => atoms_spec (ws := Jvm.Cond.code x code maxLocals ret :: tables_1) hat d (List.mem_cons_of_mem _ hd)
  have hfit : Fit s := fun {y c} hc i hi => by
    obtain ⟨ha, rfl⟩ := Array.getElem?_eq_some_iff.mp hc
    have q := List.all_eq_true.mp ((Array.all_eq_true_iff_forall_mem.mp hF) _ (Array.getElem_mem ha)) i (List.mem_range.mpr hi)
    simpa [Array.getElem?_eq_getElem hi] using q
  obtain ⟨hsets, hown0⟩ := atoms_of _ (rest_1_c_eq ▸ (show rest_1_c.before _ s = true from hrest))
  have hr0 := Cond.before_iff.mp hown0
  obtain ⟨i0, ei0⟩ := is_v g3
  obtain rfl : w0 = (.int i0) := Option.some.inj ei0
  obtain ⟨i1, ei1⟩ := isL_v g4
  obtain rfl : w1 = (.long i1) := Option.some.inj ei1
  obtain ⟨zv, ezv⟩ := is_v (Cond.before_iff.mp (hsets _ (List.mem_of_getElem? (i := 1) rfl)))
  have hzv : ¬ zv = (0 : Int32) := gotF (Cond.eq_ints ezv (Term.int_eval (0))) (not_v (Cond.before_iff.mp (hsets _ (List.mem_of_getElem? (i := 2) rfl))))
  have S0 := Sta.start ezv (Or.inl (hsets _ (List.mem_of_getElem? (i := 0) rfl)))
  obtain ⟨gv, egv, rgv⟩ := isR_v (Cond.before_iff.mp (hsets _ (List.mem_of_getElem? (i := 8) rfl)))
  have G0 := Sta.start egv (Or.inl (hsets _ (List.mem_of_getElem? (i := 7) rfl)))
  have Sa := Sta.start (own_cmp_int (Cond.before_iff.mp (hsets _ (List.mem_of_getElem? (i := 12) rfl)))) (Or.inl (hsets _ (List.mem_of_getElem? (i := 11) rfl)))
  have Sh := Sta.start (own_cmp_int (Cond.before_iff.mp (hsets _ (List.mem_of_getElem? (i := 15) rfl)))) (Or.inl (hsets _ (List.mem_of_getElem? (i := 14) rfl)))
  have Sl := Sta.start (own_cmp_int (Cond.before_iff.mp (hsets _ (List.mem_of_getElem? (i := 18) rfl)))) (Or.inl (hsets _ (List.mem_of_getElem? (i := 17) rfl)))
  obtain ⟨n, o, h1, h2, h3, _, L, rfl, ⟨rfl, N⟩, hq⟩ := rm_law l s _ hw tables_1 i0 i1 zv gv s.heap s.heap.size (Nat.le_refl _) (Old.start s) hzv S0 rgv G0 Sa Sh Sl p e ha hc hk s m _ below hf ((Spec.applies_iff_loose hf).mp happ).1 ⟨rfl, State.Warmed39.refl s, rfl⟩ trivial
  refine ⟨n, _, h1, h2, h3, hpost _ _ _ _ _ _ ⟨Cond.after_iff.mpr rfl, Cond.after_iff.mpr (eq_i res_at (Term.int_eval (1)) rfl), trivial⟩ ⟨hq.1, hq.2.1, (hq.2.2.sift fun y hy => Or.inr (N y hy)).mono (by decide) (by decide)⟩⟩
theorem main_1_1 : Claimed_1_1 := comes_1 fun _ _ _ _ _ _ h hF => ⟨h.1, hF⟩
theorem main_1_2 : Claimed_1_2 := comes_1 fun _ _ _ _ _ _ h hF => ⟨h.2.1, hF⟩
end Jvm.Pilot.@@N@@
namespace Jvm.Pilot.@@N@@
open Jvm Jvm.ClassFile Sem Op Lib Jvm.Free Jvm.Stand Jvm.Pilot.@@N@@.Jvm.D
/-! MADE BY PROGRAM (witnessworld.py) out of the Statement's table words and the real class files: 20 classes; the members and pool entries that the words name. The judged class is class 1, her method 4. -/
namespace start1
open Jvm.ClassFile
def u (s : String) : CpInfo := .utf8 (stringToUtf16 s)
/-- a pool by its gaps: so many unusable entries, then the entry; so many at the end -/
def gap : Nat → List CpInfo → List CpInfo
  | 0, r => r
  | n + 1, r => .unusable :: gap n r
def poolList (es : List (Nat × CpInfo)) (last : Nat) : List CpInfo := es.foldr (fun e r => gap e.1 (e.2 :: r)) (gap last [])
def pool (es : List (Nat × CpInfo)) (last : Nat) : Array CpInfo := ⟨poolList es last⟩
def fileOf (pool : Array CpInfo) (this : Nat) (attrs : Array Attribute := #[]) (ms : Array MethodInfo := #[]) (fl : Nat := 33) (sup : Nat := 0) (ifs : Array Nat := #[]) (fds : Array FieldInfo := #[]) : ClassFile where
  minorVersion := 0
  majorVersion := 65
  constantPool := pool
  accessFlags := fl
  thisClass := this
  superClass := sup
  interfaces := ifs
  fields := fds
  methods := ms
  attributes := attrs
def plain (name : String) (sup : Option ClassId) : Class where
  name := name
  kind := .ordinary
  loader := none
  accessFlags := 33
  super := sup
  interfaces := #[]
  cf := none
  fields := #[]
  methods := #[]
  instanceTypes := #[]
  staticTypes := #[]
  resolved := #[]
  callSites := []
  init := .initialized
  statics := none
  mirror := none

def pool0 : Array CpInfo := pool [(5, u "<init>"), (0, u "()V"), (1, .class_ 10), (1, u "java/lang/Object")] 113

def k0c0 : Code := { maxStack := 0, maxLocals := 1, code := object_method_1_code, exceptionTable := #[], attributes := #[] }
def k0m0 : Method := { name := "<init>", desc := "()V", sig := { parameters := [], returnType := none }, accessFlags := 1, code := some k0c0 }
/-- java/lang/Object -/
def k0 : Class := { plain "java/lang/Object" none with
  accessFlags := 33
  interfaces := #[]
  cf := some (fileOf pool0 8 #[] #[{ accessFlags := 1, nameIndex := 5, descriptorIndex := 6, attributes := #[] }] 33 0 #[] #[])
  fields := #[]
  methods := #[k0m0]
  instanceTypes := #[]
  staticTypes := #[]
  resolved := Array.replicate 124 none
  statics := none }

def pool1 : Array CpInfo := pool [(2, .class_ 4), (1, u "java/lang/Object"), (0, u "<init>"), (0, u "()V"), (0, .long 511), (1, .methodref 10 11), (0, .class_ 12), (0, .nameAndType 13 14), (0, u "com/example/compact_transform/compacttransform/tree/StringFootprintLatin1PrefixOfJoinPinLaw"), (0, u "ch"), (0, u "(JI)C"), (0, .methodref 10 16), (0, .nameAndType 17 18), (0, u "at"), (0, u "(JIII)C"), (0, .methodref 10 20), (0, .nameAndType 21 18), (0, u "joinedAt"), (0, .class_ 23), (0, u "java/lang/String"), (0, .methodref 22 25), (0, .nameAndType 5 26), (0, u "([C)V"), (0, .methodref 28 29), (0, .class_ 30), (0, .nameAndType 31 32), (0, u "com/example/compact_transform/compacttransform/tree/StringFootprint"), (0, u "latin1Prefix"), (0, u "(Ljava/lang/String;)I"), (0, .methodref 28 34), (0, .nameAndType 35 36), (0, u "latin1PrefixOfJoin"), (0, u "(III)I"), (0, u "PAD"), (0, u "C"), (5, u "law"), (0, u "(IJ)Z")] 4

def k1m0 : Method := { name := "<init>", desc := "()V", sig := { parameters := [], returnType := none }, accessFlags := 1, code := none }
def k1c1 : Code := { maxStack := 4, maxLocals := 3, code := method_2_code, exceptionTable := #[], attributes := #[] }
def k1m1 : Method := { name := "ch", desc := "(JI)C", sig := { parameters := [.long, .int], returnType := some .char }, accessFlags := 10, code := some k1c1 }
def k1c2 : Code := { maxStack := 4, maxLocals := 5, code := method_3_code, exceptionTable := #[], attributes := #[] }
def k1m2 : Method := { name := "at", desc := "(JIII)C", sig := { parameters := [.long, .int, .int, .int], returnType := some .char }, accessFlags := 10, code := some k1c2 }
def k1c3 : Code := { maxStack := 6, maxLocals := 5, code := method_4_code, exceptionTable := #[], attributes := #[] }
def k1m3 : Method := { name := "joinedAt", desc := "(JIII)C", sig := { parameters := [.long, .int, .int, .int], returnType := some .char }, accessFlags := 10, code := some k1c3 }
def k1c4 : Code := { maxStack := 8, maxLocals := 17, code := code, exceptionTable := #[], attributes := #[] }
def k1m4 : Method := { name := "law", desc := "(IJ)Z", sig := { parameters := [.int, .long], returnType := some .boolean }, accessFlags := 9, code := some k1c4 }
/-- com/example/compact_transform/compacttransform/tree/StringFootprintLatin1PrefixOfJoinPinLaw -/
def k1 : Class := { plain "com/example/compact_transform/compacttransform/tree/StringFootprintLatin1PrefixOfJoinPinLaw" (some 0) with
  accessFlags := 49
  interfaces := #[]
  cf := some (fileOf pool1 10 #[] #[{ accessFlags := 1, nameIndex := 5, descriptorIndex := 6, attributes := #[] }, { accessFlags := 10, nameIndex := 13, descriptorIndex := 14, attributes := #[] }, { accessFlags := 10, nameIndex := 17, descriptorIndex := 18, attributes := #[] }, { accessFlags := 10, nameIndex := 21, descriptorIndex := 18, attributes := #[] }, { accessFlags := 9, nameIndex := 44, descriptorIndex := 45, attributes := #[] }] 49 2 #[] #[{ accessFlags := 26, nameIndex := 37, descriptorIndex := 38, attributes := #[] }])
  fields := #[{ name := "PAD", type := .char, accessFlags := 26, slot := 0, constantValue := 0 }]
  methods := #[k1m0, k1m1, k1m2, k1m3, k1m4]
  instanceTypes := #[]
  staticTypes := #[.char]
  resolved := Array.replicate 50 none
  statics := none }

def pool2 : Array CpInfo := pool [(1, .class_ 2), (0, u "java/io/Serializable"), (0, .class_ 4), (0, u "java/lang/Object")] 2

/-- java/io/Serializable -/
def k2 : Class := { plain "java/io/Serializable" (some 0) with
  accessFlags := 1537
  interfaces := #[]
  cf := some (fileOf pool2 1 #[] #[] 1537 3 #[] #[])
  fields := #[]
  methods := #[]
  instanceTypes := #[]
  staticTypes := #[]
  resolved := Array.replicate 7 none
  statics := none }

def pool3 : Array CpInfo := pool [(1, .class_ 2), (0, u "java/lang/Comparable"), (0, .class_ 4), (0, u "java/lang/Object")] 7

/-- java/lang/Comparable -/
def k3 : Class := { plain "java/lang/Comparable" (some 0) with
  accessFlags := 1537
  interfaces := #[]
  cf := some (fileOf pool3 1 #[] #[] 1537 3 #[] #[])
  fields := #[]
  methods := #[]
  instanceTypes := #[]
  staticTypes := #[]
  resolved := Array.replicate 12 none
  statics := none }

def pool4 : Array CpInfo := pool [(2, .class_ 4), (1, u "java/lang/CharSequence"), (42, .class_ 48), (0, u "java/lang/CharSequence$1CodePointIterator"), (10, .class_ 60), (0, u "java/lang/CharSequence$1CharIterator"), (5, .class_ 67), (0, u "java/lang/Object")] 63

/-- java/lang/CharSequence -/
def k4 : Class := { plain "java/lang/CharSequence" (some 0) with
  accessFlags := 1537
  interfaces := #[]
  cf := some (fileOf pool4 2 #[.nestMembers #[47, 59]] #[] 1537 66 #[] #[])
  fields := #[]
  methods := #[]
  instanceTypes := #[]
  staticTypes := #[]
  resolved := Array.replicate 131 none
  statics := none }

def pool5 : Array CpInfo := pool [(1, .class_ 2), (0, u "java/lang/constant/Constable"), (0, .class_ 4), (0, u "java/lang/Object")] 6

/-- java/lang/constant/Constable -/
def k5 : Class := { plain "java/lang/constant/Constable" (some 0) with
  accessFlags := 1537
  interfaces := #[]
  cf := some (fileOf pool5 1 #[] #[] 1537 3 #[] #[])
  fields := #[]
  methods := #[]
  instanceTypes := #[]
  staticTypes := #[]
  resolved := Array.replicate 11 none
  statics := none }

def pool6 : Array CpInfo := pool [(1, .class_ 2), (0, u "java/lang/constant/ConstantDesc"), (0, .class_ 4), (0, u "java/lang/Object")] 32

/-- java/lang/constant/ConstantDesc -/
def k6 : Class := { plain "java/lang/constant/ConstantDesc" (some 0) with
  accessFlags := 1537
  interfaces := #[]
  cf := some (fileOf pool6 1 #[] #[] 1537 3 #[] #[])
  fields := #[]
  methods := #[]
  instanceTypes := #[]
  staticTypes := #[]
  resolved := Array.replicate 37 none
  statics := none }

def pool7 : Array CpInfo := pool [(1, .methodref 2 3), (0, .class_ 4), (0, .nameAndType 5 6), (0, u "java/lang/Object"), (0, u "<init>"), (0, u "()V"), (2, .fieldref 10 11), (0, .class_ 12), (0, .nameAndType 13 14), (0, u "java/lang/String"), (0, u "value"), (0, u "[B"), (0, .fieldref 10 16), (0, .nameAndType 17 18), (0, u "coder"), (0, u "B"), (2, u "hash"), (0, u "I"), (2, u "hashIsZero"), (0, u "Z"), (0, .methodref 10 28), (0, .nameAndType 5 29), (0, u "([CIILjava/lang/Void;)V"), (8, .fieldref 10 39), (0, .nameAndType 40 26), (0, u "COMPACT_STRINGS"), (1, .class_ 44), (1, u "java/lang/StringUTF16"), (0, u "compress"), (1, .methodref 42 48), (0, .nameAndType 49 50), (0, u "coderFromArrayLen"), (0, u "([BI)B"), (91, u "()Z"), (34, .methodref 42 178), (0, .nameAndType 45 179), (0, u "([CII)[B"), (154, u "()I"), (0, .methodref 10 336), (0, .nameAndType 17 337), (0, u "()B"), (25, u "([BI)C"), (27, u "(II)V"), (35, u "(I)C"), (64, .methodref 10 493), (0, .nameAndType 494 142), (0, u "isLatin1"), (1, .nameAndType 497 363), (0, u "charAt"), (0, .methodref 42 496), (2, u "checkIndex"), (5, u "length"), (67, .class_ 576), (0, u "java/lang/CharSequence"), (22, u "CASE_INSENSITIVE_ORDER"), (0, u "Ljava/util/Comparator;"), (409, u "([C)V"), (42, .fieldref 1054 1055), (0, .class_ 1056), (0, .nameAndType 1057 1058), (0, u "jdk/internal/util/Preconditions"), (0, u "SIOOBE_FORMATTER"), (0, u "Ljava/util/function/BiFunction;"), (0, .methodref 1054 1060), (0, .nameAndType 501 1061), (0, u "(IILjava/util/function/BiFunction;)I"), (39, u "serialPersistentFields"), (0, u "[Ljava/io/ObjectStreamField;"), (0, .class_ 1104), (0, u "java/lang/String$CaseInsensitiveComparator"), (1, .class_ 1107), (0, u "java/io/Serializable"), (0, .class_ 1109), (0, u "java/lang/Comparable"), (0, .class_ 1111), (0, u "java/lang/constant/Constable"), (0, .class_ 1113), (0, u "java/lang/constant/ConstantDesc"), (2, u "serialVersionUID"), (0, u "J"), (3, u "REPL"), (0, u "C"), (2, u "LATIN1"), (1, u "UTF16")] 323

def k7m0 : Method := { name := "<init>", desc := "()V", sig := { parameters := [], returnType := none }, accessFlags := 1, code := none }
def k7c1 : Code := { maxStack := 5, maxLocals := 2, code := jdk_42_method_3_code, exceptionTable := #[], attributes := #[] }
def k7m1 : Method := { name := "<init>", desc := "([C)V", sig := { parameters := [(.array .char)], returnType := none }, accessFlags := 1, code := some k7c1 }
def k7c2 : Code := { maxStack := 2, maxLocals := 1, code := jdk_42_method_54_code, exceptionTable := #[], attributes := #[] }
def k7m2 : Method := { name := "length", desc := "()I", sig := { parameters := [], returnType := some .int }, accessFlags := 1, code := some k7c2 }
def k7c3 : Code := { maxStack := 2, maxLocals := 2, code := jdk_42_method_56_code, exceptionTable := #[], attributes := #[] }
def k7m3 : Method := { name := "charAt", desc := "(I)C", sig := { parameters := [.int], returnType := some .char }, accessFlags := 1, code := some k7c3 }
def k7c4 : Code := { maxStack := 4, maxLocals := 6, code := jdk_42_method_149_code, exceptionTable := #[], attributes := #[] }
def k7m4 : Method := { name := "<init>", desc := "([CIILjava/lang/Void;)V", sig := { parameters := [(.array .char), .int, .int, (.object "java/lang/Void")], returnType := none }, accessFlags := 2, code := some k7c4 }
def k7c5 : Code := { maxStack := 1, maxLocals := 1, code := jdk_42_method_152_code, exceptionTable := #[], attributes := #[] }
def k7m5 : Method := { name := "coder", desc := "()B", sig := { parameters := [], returnType := some .byte }, accessFlags := 0, code := some k7c5 }
def k7c6 : Code := { maxStack := 1, maxLocals := 1, code := jdk_42_method_154_code, exceptionTable := #[], attributes := #[] }
def k7m6 : Method := { name := "isLatin1", desc := "()Z", sig := { parameters := [], returnType := some .boolean }, accessFlags := 0, code := some k7c6 }
def k7c7 : Code := { maxStack := 3, maxLocals := 2, code := jdk_42_method_155_code, exceptionTable := #[], attributes := #[] }
def k7m7 : Method := { name := "checkIndex", desc := "(II)V", sig := { parameters := [.int, .int], returnType := none }, accessFlags := 8, code := some k7c7 }
/-- java/lang/String -/
def k7 : Class := { plain "java/lang/String" (some 0) with
  accessFlags := 49
  interfaces := #[2, 3, 4, 5, 6]
  cf := some (fileOf pool7 10 #[.nestMembers #[1103]] #[{ accessFlags := 1, nameIndex := 5, descriptorIndex := 6, attributes := #[] }, { accessFlags := 1, nameIndex := 5, descriptorIndex := 1010, attributes := #[] }, { accessFlags := 1, nameIndex := 507, descriptorIndex := 334, attributes := #[] }, { accessFlags := 1, nameIndex := 497, descriptorIndex := 427, attributes := #[] }, { accessFlags := 2, nameIndex := 5, descriptorIndex := 29, attributes := #[] }, { accessFlags := 0, nameIndex := 17, descriptorIndex := 337, attributes := #[] }, { accessFlags := 0, nameIndex := 494, descriptorIndex := 142, attributes := #[] }, { accessFlags := 8, nameIndex := 501, descriptorIndex := 391, attributes := #[] }] 49 2 #[1106, 1108, 575, 1110, 1112] #[{ accessFlags := 18, nameIndex := 13, descriptorIndex := 14, attributes := #[] }, { accessFlags := 18, nameIndex := 17, descriptorIndex := 18, attributes := #[] }, { accessFlags := 2, nameIndex := 21, descriptorIndex := 22, attributes := #[] }, { accessFlags := 2, nameIndex := 25, descriptorIndex := 26, attributes := #[] }, { accessFlags := 26, nameIndex := 1116, descriptorIndex := 1117, attributes := #[] }, { accessFlags := 24, nameIndex := 40, descriptorIndex := 26, attributes := #[] }, { accessFlags := 26, nameIndex := 1101, descriptorIndex := 1102, attributes := #[] }, { accessFlags := 26, nameIndex := 1121, descriptorIndex := 1122, attributes := #[] }, { accessFlags := 25, nameIndex := 599, descriptorIndex := 600, attributes := #[] }, { accessFlags := 24, nameIndex := 1125, descriptorIndex := 18, attributes := #[] }, { accessFlags := 24, nameIndex := 1127, descriptorIndex := 18, attributes := #[] }])
  fields := #[{ name := "value", type := (.array .byte), accessFlags := 18, slot := 0, constantValue := 0 }, { name := "coder", type := .byte, accessFlags := 18, slot := 1, constantValue := 0 }, { name := "hash", type := .int, accessFlags := 2, slot := 2, constantValue := 0 }, { name := "hashIsZero", type := .boolean, accessFlags := 2, slot := 3, constantValue := 0 }, { name := "serialVersionUID", type := .long, accessFlags := 26, slot := 0, constantValue := 0 }, { name := "COMPACT_STRINGS", type := .boolean, accessFlags := 24, slot := 1, constantValue := 0 }, { name := "serialPersistentFields", type := (.array (.object "java/io/ObjectStreamField")), accessFlags := 26, slot := 2, constantValue := 0 }, { name := "REPL", type := .char, accessFlags := 26, slot := 3, constantValue := 0 }, { name := "CASE_INSENSITIVE_ORDER", type := (.object "java/util/Comparator"), accessFlags := 25, slot := 4, constantValue := 0 }, { name := "LATIN1", type := .byte, accessFlags := 24, slot := 5, constantValue := 0 }, { name := "UTF16", type := .byte, accessFlags := 24, slot := 6, constantValue := 0 }]
  methods := #[k7m0, k7m1, k7m2, k7m3, k7m4, k7m5, k7m6, k7m7]
  instanceTypes := #[(.array .byte), .byte, .int, .boolean]
  staticTypes := #[.long, .boolean, (.array (.object "java/io/ObjectStreamField")), .char, (.object "java/util/Comparator"), .byte, .byte]
  resolved := Array.replicate 1451 none
  statics := some 0 }

def pool8 : Array CpInfo := pool [(3, .class_ 4), (0, u "java/lang/String"), (1, .class_ 8), (1, u "java/lang/Object"), (0, u "<init>"), (0, u "()V"), (0, .methodref 12 13), (0, .class_ 14), (0, .nameAndType 15 16), (0, u "java/lang/StringUTF16"), (0, u "newBytesLength"), (0, u "(I)I"), (3, .integer 1073741823), (23, .fieldref 12 45), (0, .nameAndType 46 47), (0, u "$assertionsDisabled"), (0, u "Z"), (0, .methodref 12 49), (0, .nameAndType 50 51), (0, u "length"), (0, u "([B)I"), (7, .fieldref 12 60), (0, .nameAndType 61 62), (0, u "HI_BYTE_SHIFT"), (0, u "I"), (0, .fieldref 12 64), (0, .nameAndType 65 62), (0, u "LO_BYTE_SHIFT"), (1, .methodref 12 68), (0, .nameAndType 69 70), (0, u "checkIndex"), (0, u "(I[B)V"), (0, .methodref 12 72), (0, .nameAndType 73 74), (0, u "getChar"), (0, u "([BI)C"), (32, .methodref 12 108), (0, .nameAndType 109 110), (0, u "newBytesFor"), (0, u "(I)[B"), (0, .methodref 12 112), (0, .nameAndType 113 114), (0, u "putChar"), (0, u "([BII)V"), (0, .methodref 12 116), (0, .nameAndType 117 118), (0, u "compress"), (0, u "([CI[BII)I"), (0, .methodref 12 120), (0, .nameAndType 121 122), (0, u "toBytes"), (0, u "([CII)[B"), (138, u "coderFromArrayLen"), (0, u "([BI)B"), (106, .class_ 371), (1, u "java/lang/StringUTF16$LinesSpliterator"), (20, u "charAt"), (21, .methodref 3 415), (0, .nameAndType 69 416), (0, u "(II)V"), (13, u "MAX_LENGTH"), (196, .class_ 628), (0, u "java/lang/StringUTF16$CodePointsSpliterator"), (0, .class_ 630), (0, u "java/lang/StringUTF16$CharsSpliterator")] 4

def k8m0 : Method := { name := "<init>", desc := "()V", sig := { parameters := [], returnType := none }, accessFlags := 0, code := none }
def k8c1 : Code := { maxStack := 1, maxLocals := 1, code := jdk_52_method_2_code, exceptionTable := #[], attributes := #[] }
def k8m1 : Method := { name := "newBytesFor", desc := "(I)[B", sig := { parameters := [.int], returnType := some (.array .byte) }, accessFlags := 9, code := some k8c1 }
def k8c2 : Code := { maxStack := 4, maxLocals := 1, code := jdk_52_method_3_code, exceptionTable := #[], attributes := #[] }
def k8m2 : Method := { name := "newBytesLength", desc := "(I)I", sig := { parameters := [.int], returnType := some .int }, accessFlags := 9, code := some k8c2 }
def k8c3 : Code := { maxStack := 4, maxLocals := 3, code := jdk_52_method_4_code, exceptionTable := #[], attributes := #[] }
def k8m3 : Method := { name := "putChar", desc := "([BII)V", sig := { parameters := [(.array .byte), .int, .int], returnType := none }, accessFlags := 8, code := some k8c3 }
def k8c4 : Code := { maxStack := 3, maxLocals := 2, code := jdk_52_method_5_code, exceptionTable := #[], attributes := #[] }
def k8m4 : Method := { name := "getChar", desc := "([BI)C", sig := { parameters := [(.array .byte), .int], returnType := some .char }, accessFlags := 8, code := some k8c4 }
def k8c5 : Code := { maxStack := 2, maxLocals := 1, code := jdk_52_method_6_code, exceptionTable := #[], attributes := #[] }
def k8m5 : Method := { name := "length", desc := "([B)I", sig := { parameters := [(.array .byte)], returnType := some .int }, accessFlags := 9, code := some k8c5 }
def k8c6 : Code := { maxStack := 4, maxLocals := 5, code := jdk_52_method_14_code, exceptionTable := #[], attributes := #[] }
def k8m6 : Method := { name := "toBytes", desc := "([CII)[B", sig := { parameters := [(.array .char), .int, .int], returnType := some (.array .byte) }, accessFlags := 9, code := some k8c6 }
def k8c7 : Code := { maxStack := 2, maxLocals := 2, code := jdk_52_method_15_code, exceptionTable := #[], attributes := #[] }
def k8m7 : Method := { name := "coderFromArrayLen", desc := "([BI)B", sig := { parameters := [(.array .byte), .int], returnType := some .byte }, accessFlags := 8, code := some k8c7 }
def k8c8 : Code := { maxStack := 5, maxLocals := 6, code := jdk_52_method_16_code, exceptionTable := #[], attributes := #[] }
def k8m8 : Method := { name := "compress", desc := "([CII)[B", sig := { parameters := [(.array .char), .int, .int], returnType := some (.array .byte) }, accessFlags := 9, code := some k8c8 }
def k8c9 : Code := { maxStack := 3, maxLocals := 7, code := jdk_52_method_21_code, exceptionTable := #[], attributes := #[] }
def k8m9 : Method := { name := "compress", desc := "([CI[BII)I", sig := { parameters := [(.array .char), .int, (.array .byte), .int, .int], returnType := some .int }, accessFlags := 9, code := some k8c9 }
def k8c10 : Code := { maxStack := 2, maxLocals := 2, code := jdk_52_method_83_code, exceptionTable := #[], attributes := #[] }
def k8m10 : Method := { name := "charAt", desc := "([BI)C", sig := { parameters := [(.array .byte), .int], returnType := some .char }, accessFlags := 9, code := some k8c10 }
def k8c11 : Code := { maxStack := 2, maxLocals := 2, code := jdk_52_method_91_code, exceptionTable := #[], attributes := #[] }
def k8m11 : Method := { name := "checkIndex", desc := "(I[B)V", sig := { parameters := [.int, (.array .byte)], returnType := none }, accessFlags := 9, code := some k8c11 }
/-- java/lang/StringUTF16 -/
def k8 : Class := { plain "java/lang/StringUTF16" (some 0) with
  accessFlags := 48
  interfaces := #[]
  cf := some (fileOf pool8 12 #[.nestMembers #[627, 629, 369]] #[{ accessFlags := 0, nameIndex := 9, descriptorIndex := 10, attributes := #[] }, { accessFlags := 9, nameIndex := 109, descriptorIndex := 110, attributes := #[] }, { accessFlags := 9, nameIndex := 15, descriptorIndex := 16, attributes := #[] }, { accessFlags := 8, nameIndex := 113, descriptorIndex := 114, attributes := #[] }, { accessFlags := 8, nameIndex := 73, descriptorIndex := 74, attributes := #[] }, { accessFlags := 9, nameIndex := 50, descriptorIndex := 51, attributes := #[] }, { accessFlags := 9, nameIndex := 121, descriptorIndex := 122, attributes := #[] }, { accessFlags := 8, nameIndex := 261, descriptorIndex := 262, attributes := #[] }, { accessFlags := 9, nameIndex := 117, descriptorIndex := 122, attributes := #[] }, { accessFlags := 9, nameIndex := 117, descriptorIndex := 118, attributes := #[] }, { accessFlags := 9, nameIndex := 392, descriptorIndex := 74, attributes := #[] }, { accessFlags := 9, nameIndex := 69, descriptorIndex := 70, attributes := #[] }] 48 6 #[] #[{ accessFlags := 26, nameIndex := 61, descriptorIndex := 62, attributes := #[] }, { accessFlags := 26, nameIndex := 65, descriptorIndex := 62, attributes := #[] }, { accessFlags := 24, nameIndex := 430, descriptorIndex := 62, attributes := #[] }, { accessFlags := 4120, nameIndex := 46, descriptorIndex := 47, attributes := #[] }])
  fields := #[{ name := "HI_BYTE_SHIFT", type := .int, accessFlags := 26, slot := 0, constantValue := 0 }, { name := "LO_BYTE_SHIFT", type := .int, accessFlags := 26, slot := 1, constantValue := 0 }, { name := "MAX_LENGTH", type := .int, accessFlags := 24, slot := 2, constantValue := 0 }, { name := "$assertionsDisabled", type := .boolean, accessFlags := 4120, slot := 3, constantValue := 0 }]
  methods := #[k8m0, k8m1, k8m2, k8m3, k8m4, k8m5, k8m6, k8m7, k8m8, k8m9, k8m10, k8m11]
  instanceTypes := #[]
  staticTypes := #[.int, .int, .int, .boolean]
  resolved := Array.replicate 635 none
  statics := some 1 }

def pool9 : Array CpInfo := pool [(2, .class_ 4), (1, u "java/lang/Object"), (0, u "<init>"), (0, u "()V"), (1, .class_ 10), (1, u "com/example/compact_transform/compacttransform/tree/StringFootprint"), (0, u "OBJECT_BYTES"), (0, u "J"), (6, .methodref 20 21), (0, .class_ 22), (0, .nameAndType 23 24), (0, u "java/lang/String"), (0, u "length"), (0, u "()I"), (0, .methodref 20 26), (0, .nameAndType 27 28), (0, u "charAt"), (0, u "(I)C"), (2, u "latin1Prefix"), (0, u "(Ljava/lang/String;)I"), (10, u "UNREAD"), (0, u "I"), (2, u "LATIN_1_LAST"), (0, u "C"), (1, u "LONGEST_SHORT_STRING"), (7, u "(III)I"), (0, u "latin1PrefixOfJoin")] 6

def k9m0 : Method := { name := "<init>", desc := "()V", sig := { parameters := [], returnType := none }, accessFlags := 2, code := none }
def k9c1 : Code := { maxStack := 2, maxLocals := 3, code := prog_118_method_4_code, exceptionTable := #[], attributes := #[] }
def k9m1 : Method := { name := "latin1Prefix", desc := "(Ljava/lang/String;)I", sig := { parameters := [(.object "java/lang/String")], returnType := some .int }, accessFlags := 9, code := some k9c1 }
def k9c2 : Code := { maxStack := 2, maxLocals := 4, code := prog_118_method_7_code, exceptionTable := #[], attributes := #[] }
def k9m2 : Method := { name := "latin1PrefixOfJoin", desc := "(III)I", sig := { parameters := [.int, .int, .int], returnType := some .int }, accessFlags := 9, code := some k9c2 }
/-- com/example/compact_transform/compacttransform/tree/StringFootprint -/
def k9 : Class := { plain "com/example/compact_transform/compacttransform/tree/StringFootprint" (some 0) with
  accessFlags := 49
  interfaces := #[]
  cf := some (fileOf pool9 8 #[] #[{ accessFlags := 2, nameIndex := 5, descriptorIndex := 6, attributes := #[] }, { accessFlags := 9, nameIndex := 31, descriptorIndex := 32, attributes := #[] }, { accessFlags := 9, nameIndex := 59, descriptorIndex := 58, attributes := #[] }] 49 2 #[] #[{ accessFlags := 24, nameIndex := 11, descriptorIndex := 12, attributes := #[] }, { accessFlags := 25, nameIndex := 43, descriptorIndex := 44, attributes := #[] }, { accessFlags := 26, nameIndex := 47, descriptorIndex := 48, attributes := #[] }, { accessFlags := 26, nameIndex := 50, descriptorIndex := 44, attributes := #[] }])
  fields := #[{ name := "OBJECT_BYTES", type := .long, accessFlags := 24, slot := 0, constantValue := 0 }, { name := "UNREAD", type := .int, accessFlags := 25, slot := 1, constantValue := 0 }, { name := "LATIN_1_LAST", type := .char, accessFlags := 26, slot := 2, constantValue := 0 }, { name := "LONGEST_SHORT_STRING", type := .int, accessFlags := 26, slot := 3, constantValue := 0 }]
  methods := #[k9m0, k9m1, k9m2]
  instanceTypes := #[]
  staticTypes := #[.long, .int, .char, .int]
  resolved := Array.replicate 66 none
  statics := none }

def pool10 : Array CpInfo := pool [(2, .class_ 4), (1, u "java/lang/Object"), (0, u "<init>"), (0, u "()V"), (17, .class_ 26), (1, u "jdk/internal/util/Preconditions"), (6, u "checkIndex"), (21, .class_ 56), (0, u "jdk/internal/util/Preconditions$4"), (57, .class_ 115), (0, u "jdk/internal/util/Preconditions$1"), (7, u "SIOOBE_FORMATTER"), (0, u "Ljava/util/function/BiFunction;"), (0, .class_ 126), (0, u "jdk/internal/util/Preconditions$2"), (3, u "AIOOBE_FORMATTER"), (0, .class_ 132), (0, u "jdk/internal/util/Preconditions$3"), (3, u "IOOBE_FORMATTER"), (41, u "(IILjava/util/function/BiFunction;)I")] 15

def k10m0 : Method := { name := "<init>", desc := "()V", sig := { parameters := [], returnType := none }, accessFlags := 1, code := none }
def k10c1 : Code := { maxStack := 3, maxLocals := 3, code := jdk_41_method_11_code, exceptionTable := #[], attributes := #[] }
def k10m1 : Method := { name := "checkIndex", desc := "(IILjava/util/function/BiFunction;)I", sig := { parameters := [.int, .int, (.object "java/util/function/BiFunction")], returnType := some .int }, accessFlags := 9, code := some k10c1 }
/-- jdk/internal/util/Preconditions -/
def k10 : Class := { plain "jdk/internal/util/Preconditions" (some 0) with
  accessFlags := 33
  interfaces := #[]
  cf := some (fileOf pool10 24 #[.nestMembers #[55, 131, 125, 114]] #[{ accessFlags := 1, nameIndex := 5, descriptorIndex := 6, attributes := #[] }, { accessFlags := 9, nameIndex := 33, descriptorIndex := 178, attributes := #[] }] 33 2 #[] #[{ accessFlags := 25, nameIndex := 123, descriptorIndex := 124, attributes := #[] }, { accessFlags := 25, nameIndex := 130, descriptorIndex := 124, attributes := #[] }, { accessFlags := 25, nameIndex := 136, descriptorIndex := 124, attributes := #[] }])
  fields := #[{ name := "SIOOBE_FORMATTER", type := (.object "java/util/function/BiFunction"), accessFlags := 25, slot := 0, constantValue := 0 }, { name := "AIOOBE_FORMATTER", type := (.object "java/util/function/BiFunction"), accessFlags := 25, slot := 1, constantValue := 0 }, { name := "IOOBE_FORMATTER", type := (.object "java/util/function/BiFunction"), accessFlags := 25, slot := 2, constantValue := 0 }]
  methods := #[k10m0, k10m1]
  instanceTypes := #[]
  staticTypes := #[(.object "java/util/function/BiFunction"), (.object "java/util/function/BiFunction"), (.object "java/util/function/BiFunction")]
  resolved := Array.replicate 194 none
  statics := some 2 }

def pool11 : Array CpInfo := pool [(4, .class_ 6), (1, u "java/lang/Object"), (0, u "<init>"), (0, u "()V"), (5, .class_ 16), (1, u "java/lang/StringLatin1"), (104, u "$assertionsDisabled"), (0, u "Z"), (98, .class_ 223), (1, u "java/lang/StringLatin1$LinesSpliterator"), (166, .class_ 391), (0, u "java/lang/StringLatin1$CharsSpliterator")] 3

def k11m0 : Method := { name := "<init>", desc := "()V", sig := { parameters := [], returnType := none }, accessFlags := 0, code := none }
/-- java/lang/StringLatin1 -/
def k11 : Class := { plain "java/lang/StringLatin1" (some 0) with
  accessFlags := 48
  interfaces := #[]
  cf := some (fileOf pool11 14 #[.nestMembers #[390, 221]] #[{ accessFlags := 0, nameIndex := 7, descriptorIndex := 8, attributes := #[] }] 48 4 #[] #[{ accessFlags := 4120, nameIndex := 121, descriptorIndex := 122, attributes := #[] }])
  fields := #[{ name := "$assertionsDisabled", type := .boolean, accessFlags := 4120, slot := 0, constantValue := 0 }]
  methods := #[k11m0]
  instanceTypes := #[]
  staticTypes := #[.boolean]
  resolved := Array.replicate 395 none
  statics := none }

def pool12 : Array CpInfo := pool [(9, u "<init>"), (6, .class_ 18), (1, u "java/lang/Object"), (0, u "()V"), (1, .class_ 23), (1, u "jdk/internal/util/ArraysSupport"), (0, u "LOG2_ARRAY_LONG_INDEX_SCALE"), (0, u "I"), (2, u "U"), (0, u "Ljdk/internal/misc/Unsafe;"), (8, u "BIG_ENDIAN"), (0, u "Z"), (8, u "LOG2_BYTE_BIT_SIZE"), (4, u "LOG2_ARRAY_INT_INDEX_SCALE"), (54, u "JLA"), (0, u "Ljdk/internal/access/JavaLangAccess;"), (11, u "LOG2_ARRAY_BOOLEAN_INDEX_SCALE"), (9, u "LOG2_ARRAY_BYTE_INDEX_SCALE"), (5, u "LOG2_ARRAY_CHAR_INDEX_SCALE"), (5, u "LOG2_ARRAY_SHORT_INDEX_SCALE"), (18, u "LOG2_ARRAY_FLOAT_INDEX_SCALE"), (24, u "LOG2_ARRAY_DOUBLE_INDEX_SCALE"), (89, u "T_BOOLEAN"), (2, u "T_CHAR"), (1, u "T_FLOAT"), (1, u "T_DOUBLE"), (1, u "T_BYTE"), (1, u "T_SHORT"), (1, u "T_INT"), (1, u "T_LONG"), (1, u "SOFT_MAX_ARRAY_LENGTH")] 83

def k12m0 : Method := { name := "<init>", desc := "()V", sig := { parameters := [], returnType := none }, accessFlags := 2, code := none }
/-- jdk/internal/util/ArraysSupport -/
def k12 : Class := { plain "jdk/internal/util/ArraysSupport" (some 0) with
  accessFlags := 33
  interfaces := #[]
  cf := some (fileOf pool12 21 #[] #[{ accessFlags := 2, nameIndex := 9, descriptorIndex := 19, attributes := #[] }] 33 16 #[] #[{ accessFlags := 24, nameIndex := 28, descriptorIndex := 29, attributes := #[] }, { accessFlags := 26, nameIndex := 38, descriptorIndex := 39, attributes := #[] }, { accessFlags := 25, nameIndex := 121, descriptorIndex := 25, attributes := #[] }, { accessFlags := 25, nameIndex := 131, descriptorIndex := 25, attributes := #[] }, { accessFlags := 25, nameIndex := 137, descriptorIndex := 25, attributes := #[] }, { accessFlags := 25, nameIndex := 143, descriptorIndex := 25, attributes := #[] }, { accessFlags := 25, nameIndex := 53, descriptorIndex := 25, attributes := #[] }, { accessFlags := 25, nameIndex := 24, descriptorIndex := 25, attributes := #[] }, { accessFlags := 25, nameIndex := 162, descriptorIndex := 25, attributes := #[] }, { accessFlags := 25, nameIndex := 187, descriptorIndex := 25, attributes := #[] }, { accessFlags := 26, nameIndex := 48, descriptorIndex := 25, attributes := #[] }, { accessFlags := 25, nameIndex := 277, descriptorIndex := 25, attributes := #[] }, { accessFlags := 25, nameIndex := 280, descriptorIndex := 25, attributes := #[] }, { accessFlags := 25, nameIndex := 282, descriptorIndex := 25, attributes := #[] }, { accessFlags := 25, nameIndex := 284, descriptorIndex := 25, attributes := #[] }, { accessFlags := 25, nameIndex := 286, descriptorIndex := 25, attributes := #[] }, { accessFlags := 25, nameIndex := 288, descriptorIndex := 25, attributes := #[] }, { accessFlags := 25, nameIndex := 290, descriptorIndex := 25, attributes := #[] }, { accessFlags := 25, nameIndex := 292, descriptorIndex := 25, attributes := #[] }, { accessFlags := 26, nameIndex := 108, descriptorIndex := 109, attributes := #[] }, { accessFlags := 25, nameIndex := 294, descriptorIndex := 25, attributes := #[] }])
  fields := #[{ name := "U", type := (.object "jdk/internal/misc/Unsafe"), accessFlags := 24, slot := 0, constantValue := 0 }, { name := "BIG_ENDIAN", type := .boolean, accessFlags := 26, slot := 1, constantValue := 0 }, { name := "LOG2_ARRAY_BOOLEAN_INDEX_SCALE", type := .int, accessFlags := 25, slot := 2, constantValue := 0 }, { name := "LOG2_ARRAY_BYTE_INDEX_SCALE", type := .int, accessFlags := 25, slot := 3, constantValue := 0 }, { name := "LOG2_ARRAY_CHAR_INDEX_SCALE", type := .int, accessFlags := 25, slot := 4, constantValue := 0 }, { name := "LOG2_ARRAY_SHORT_INDEX_SCALE", type := .int, accessFlags := 25, slot := 5, constantValue := 0 }, { name := "LOG2_ARRAY_INT_INDEX_SCALE", type := .int, accessFlags := 25, slot := 6, constantValue := 0 }, { name := "LOG2_ARRAY_LONG_INDEX_SCALE", type := .int, accessFlags := 25, slot := 7, constantValue := 0 }, { name := "LOG2_ARRAY_FLOAT_INDEX_SCALE", type := .int, accessFlags := 25, slot := 8, constantValue := 0 }, { name := "LOG2_ARRAY_DOUBLE_INDEX_SCALE", type := .int, accessFlags := 25, slot := 9, constantValue := 0 }, { name := "LOG2_BYTE_BIT_SIZE", type := .int, accessFlags := 26, slot := 10, constantValue := 0 }, { name := "T_BOOLEAN", type := .int, accessFlags := 25, slot := 11, constantValue := 0 }, { name := "T_CHAR", type := .int, accessFlags := 25, slot := 12, constantValue := 0 }, { name := "T_FLOAT", type := .int, accessFlags := 25, slot := 13, constantValue := 0 }, { name := "T_DOUBLE", type := .int, accessFlags := 25, slot := 14, constantValue := 0 }, { name := "T_BYTE", type := .int, accessFlags := 25, slot := 15, constantValue := 0 }, { name := "T_SHORT", type := .int, accessFlags := 25, slot := 16, constantValue := 0 }, { name := "T_INT", type := .int, accessFlags := 25, slot := 17, constantValue := 0 }, { name := "T_LONG", type := .int, accessFlags := 25, slot := 18, constantValue := 0 }, { name := "JLA", type := (.object "jdk/internal/access/JavaLangAccess"), accessFlags := 26, slot := 19, constantValue := 0 }, { name := "SOFT_MAX_ARRAY_LENGTH", type := .int, accessFlags := 25, slot := 20, constantValue := 0 }]
  methods := #[k12m0]
  instanceTypes := #[]
  staticTypes := #[(.object "jdk/internal/misc/Unsafe"), .boolean, .int, .int, .int, .int, .int, .int, .int, .int, .int, .int, .int, .int, .int, .int, .int, .int, .int, (.object "jdk/internal/access/JavaLangAccess"), .int]
  resolved := Array.replicate 378 none
  statics := none }

def pool13 : Array CpInfo := pool [(1, u "java/lang/Cloneable"), (0, .class_ 1), (0, u "java/lang/Object"), (0, .class_ 3)] 3

/-- java/lang/Cloneable -/
def k13 : Class := { plain "java/lang/Cloneable" (some 0) with
  accessFlags := 1537
  interfaces := #[]
  cf := some (fileOf pool13 2 #[] #[] 1537 4 #[] #[])
  fields := #[]
  methods := #[]
  instanceTypes := #[]
  staticTypes := #[]
  resolved := Array.replicate 8 none
  statics := none }

/-- the primitive byte -/
def k14 : Class := { plain "byte" none with kind := .primitive 'B', accessFlags := 0x411 }
/-- [B -/
def k15 : Class := { plain "[B" (some 0) with kind := .array 14 .byte, interfaces := #[13, 2], accessFlags := 1041 }

/-- the primitive char -/
def k16 : Class := { plain "char" none with kind := .primitive 'C', accessFlags := 0x411 }
/-- [C -/
def k17 : Class := { plain "[C" (some 0) with kind := .array 16 .char, interfaces := #[13, 2], accessFlags := 1041 }

/-- the primitive int -/
def k18 : Class := { plain "int" none with kind := .primitive 'I', accessFlags := 0x411 }
/-- [I -/
def k19 : Class := { plain "[I" (some 0) with kind := .array 18 .int, interfaces := #[13, 2], accessFlags := 1041 }

def heap : Heap := #[{ cls := 7, slots := #[.long 0, .int 1, .null, .int 0, .null, .int 0, .int 0], vm := .statics 7 },
  { cls := 8, slots := #[.int 0, .int 8, .int 0, .int 1], vm := .statics 8 },
  { cls := 10, slots := #[.null, .null, .null], vm := .statics 10 }]
def classes : Array Class := #[k0, k1, k2, k3, k4, k5, k6, k7, k8, k9, k10, k11, k12, k13, k14, k15, k16, k17, k18, k19]
def interned : List (Array UInt16 × Addr) := []
def slotsUsed : Nat := 14
def theMethod : MethodId := ⟨1, 4⟩
def args0 : Array Value := #[.int 5, .long 77]
def aboutOver (below : List Frame) : State where
  vm := { classes := classes, interned := interned.toArray }
  heap := heap
  slotsUsed := slotsUsed
  threads := #[{ frames := .invoking theMethod args0 :: below }]
def below0 : List Frame := [.native { method := ⟨0, 0⟩, args := #[] }]
def about1 : State := aboutOver below0
def p0 : Program := .bare "" "" ""
def e0 : Env := launch0.env 0 0 0
theorem w_frames : about1.frames = Frame.invoking theMethod args0 :: below0 := rfl
set_option maxRecDepth 65536 in
theorem w_args : argsFit about1.vm theMethod args0 = true := by decide +kernel
set_option maxRecDepth 65536 in
theorem w_heap : heapFits about1 = true := by decide +kernel
set_option maxRecDepth 65536 in
theorem w_runnable : about1.curStatus? = some .runnable := by decide +kernel
set_option maxRecDepth 65536 in
theorem w_alone : about1.alone = true := by decide +kernel
set_option maxRecDepth 65536 in
theorem w_named : about1.methodNamed? x = some theMethod := by decide +kernel
set_option maxRecDepth 65536 in
theorem w_hears : about1.hears theMethod below0 = true := by decide +kernel
set_option maxRecDepth 65536 in
theorem w_ripe : about1.ripe theMethod args0 below0 = true := by decide +kernel
theorem w_running : about1.status = .running := rfl
set_option maxRecDepth 65536 in
theorem w_room : about1.hasRoom e0.platform room_1 = true :=
  launch0.hasRoom_least _ room_1 (by decide +kernel) (by decide +kernel) (by decide +kernel) (by decide +kernel) (by decide +kernel) (by decide +kernel)
theorem allAtoms_all (ts : List Jvm.Cond) (a : Array Jvm.Value) (st : Jvm.State) : (allAtoms ts).before a st = ts.all (fun c => c.before a st) := by
  induction ts with
  | nil => rfl
  | cons c t ih =>
    show (Jvm.Cond.and c (allAtoms t)).before a st = _
    rw [Jvm.Cond.before_and, ih, List.all_cons]
def words1 : List Jvm.Cond := Jvm.Cond.code x code maxLocals ret :: tables_1
/-- a 'code' word, met by the world's own term for the bytes: nothing is compared byte by byte -/
theorem code_word {y : MethodName} {bytes : ByteArray} {mx : Nat} {rt : Option FieldType} {a : Array Value} {s : State} {m : MethodId} {meth : Method} {c : Code} (h1 : s.methodNamed? y = some m) (h2 : s.vm.method? m = some meth) (h3 : meth.code = some c) (h4 : c.code = bytes)
    (h5 : (c.maxLocals == mx && c.exceptionTable.isEmpty && decide (c.maxStack ≤ mostOperands) && decide (meth.sig.returnType = rt) && !meth.locks && decide (parseMethodDescriptor y.desc = some meth.sig)) = true) : (Jvm.Cond.code y bytes mx rt).before a s = true := by
  simp only [Bool.and_eq_true, beq_iff_eq, Bool.not_eq_true', decide_eq_true_eq] at h5
  obtain ⟨⟨⟨⟨⟨g1, g2⟩, g3⟩, g4⟩, g5⟩, g6⟩ := h5
  simp [Cond.before, Cond.holds, Cond.value, h1, h2, h3, h4, g1, g2, g3, g4, g5, g6]
def isCode : Jvm.Cond → Bool
  | .code _ _ _ _ => true
  | _ => false
theorem all_split {L : List Jvm.Cond} {P : Jvm.Cond → Bool} (h1 : L.all (fun c => isCode c || P c) = true) (h2 : ∀ c ∈ L.filter isCode, P c = true) : L.all P = true := by
  refine List.all_eq_true.mpr fun c hc => ?_
  have h := List.all_eq_true.mp h1 c hc
  rcases Bool.eq_false_or_eq_true (isCode c) with hi | hi
  · exact h2 c (List.mem_filter.mpr ⟨hc, hi⟩)
  · simpa [hi] using h
set_option maxRecDepth 65536 in
theorem w_c0 : (Jvm.Cond.code x code maxLocals ret).before args0 about1 = true := code_word (m := ⟨1, 4⟩) (meth := k1m4) (c := k1c4) (by decide +kernel) rfl rfl rfl (by decide +kernel)
set_option maxRecDepth 65536 in
theorem w_c1 : (Jvm.Cond.code ({ cls := "com/example/compact_transform/compacttransform/tree/StringFootprintLatin1PrefixOfJoinPinLaw", name := "at", desc := "(JIII)C" } : Jvm.MethodName) method_3_code (5 : Nat) (Option.some Jvm.ClassFile.FieldType.char)).before args0 about1 = true := code_word (m := ⟨1, 2⟩) (meth := k1m2) (c := k1c2) (by decide +kernel) rfl rfl rfl (by decide +kernel)
set_option maxRecDepth 65536 in
theorem w_c2 : (Jvm.Cond.code ({ cls := "com/example/compact_transform/compacttransform/tree/StringFootprintLatin1PrefixOfJoinPinLaw", name := "joinedAt", desc := "(JIII)C" } : Jvm.MethodName) method_4_code (5 : Nat) (Option.some Jvm.ClassFile.FieldType.char)).before args0 about1 = true := code_word (m := ⟨1, 3⟩) (meth := k1m3) (c := k1c3) (by decide +kernel) rfl rfl rfl (by decide +kernel)
set_option maxRecDepth 65536 in
theorem w_c3 : (Jvm.Cond.code ({ cls := "java/lang/String", name := "<init>", desc := "([C)V" } : Jvm.MethodName) jdk_42_method_3_code (2 : Nat) (Option.none : Option Jvm.ClassFile.FieldType)).before args0 about1 = true := code_word (m := ⟨7, 1⟩) (meth := k7m1) (c := k7c1) (by decide +kernel) rfl rfl rfl (by decide +kernel)
set_option maxRecDepth 65536 in
theorem w_c4 : (Jvm.Cond.code ({ cls := "java/lang/String", name := "<init>", desc := "([CIILjava/lang/Void;)V" } : Jvm.MethodName) jdk_42_method_149_code (6 : Nat) (Option.none : Option Jvm.ClassFile.FieldType)).before args0 about1 = true := code_word (m := ⟨7, 4⟩) (meth := k7m4) (c := k7c4) (by decide +kernel) rfl rfl rfl (by decide +kernel)
set_option maxRecDepth 65536 in
theorem w_c5 : (Jvm.Cond.code ({ cls := "java/lang/Object", name := "<init>", desc := "()V" } : Jvm.MethodName) object_method_1_code (1 : Nat) (Option.none : Option Jvm.ClassFile.FieldType)).before args0 about1 = true := code_word (m := ⟨0, 0⟩) (meth := k0m0) (c := k0c0) (by decide +kernel) rfl rfl rfl (by decide +kernel)
set_option maxRecDepth 65536 in
theorem w_c6 : (Jvm.Cond.code ({ cls := "java/lang/StringUTF16", name := "compress", desc := "([CII)[B" } : Jvm.MethodName) jdk_52_method_16_code (6 : Nat) (Option.some (Jvm.ClassFile.FieldType.array Jvm.ClassFile.FieldType.byte))).before args0 about1 = true := code_word (m := ⟨8, 8⟩) (meth := k8m8) (c := k8c8) (by decide +kernel) rfl rfl rfl (by decide +kernel)
set_option maxRecDepth 65536 in
theorem w_c7 : (Jvm.Cond.code ({ cls := "java/lang/StringUTF16", name := "compress", desc := "([CI[BII)I" } : Jvm.MethodName) jdk_52_method_21_code (7 : Nat) (Option.some Jvm.ClassFile.FieldType.int)).before args0 about1 = true := code_word (m := ⟨8, 9⟩) (meth := k8m9) (c := k8c9) (by decide +kernel) rfl rfl rfl (by decide +kernel)
set_option maxRecDepth 65536 in
theorem w_c8 : (Jvm.Cond.code ({ cls := "java/lang/StringUTF16", name := "toBytes", desc := "([CII)[B" } : Jvm.MethodName) jdk_52_method_14_code (5 : Nat) (Option.some (Jvm.ClassFile.FieldType.array Jvm.ClassFile.FieldType.byte))).before args0 about1 = true := code_word (m := ⟨8, 6⟩) (meth := k8m6) (c := k8c6) (by decide +kernel) rfl rfl rfl (by decide +kernel)
set_option maxRecDepth 65536 in
theorem w_c9 : (Jvm.Cond.code ({ cls := "java/lang/StringUTF16", name := "newBytesFor", desc := "(I)[B" } : Jvm.MethodName) jdk_52_method_2_code (1 : Nat) (Option.some (Jvm.ClassFile.FieldType.array Jvm.ClassFile.FieldType.byte))).before args0 about1 = true := code_word (m := ⟨8, 1⟩) (meth := k8m1) (c := k8c1) (by decide +kernel) rfl rfl rfl (by decide +kernel)
set_option maxRecDepth 65536 in
theorem w_c10 : (Jvm.Cond.code ({ cls := "java/lang/StringUTF16", name := "newBytesLength", desc := "(I)I" } : Jvm.MethodName) jdk_52_method_3_code (1 : Nat) (Option.some Jvm.ClassFile.FieldType.int)).before args0 about1 = true := code_word (m := ⟨8, 2⟩) (meth := k8m2) (c := k8c2) (by decide +kernel) rfl rfl rfl (by decide +kernel)
set_option maxRecDepth 65536 in
theorem w_c11 : (Jvm.Cond.code ({ cls := "java/lang/StringUTF16", name := "putChar", desc := "([BII)V" } : Jvm.MethodName) jdk_52_method_4_code (3 : Nat) (Option.none : Option Jvm.ClassFile.FieldType)).before args0 about1 = true := code_word (m := ⟨8, 3⟩) (meth := k8m3) (c := k8c3) (by decide +kernel) rfl rfl rfl (by decide +kernel)
set_option maxRecDepth 65536 in
theorem w_c12 : (Jvm.Cond.code ({ cls := "java/lang/StringUTF16", name := "getChar", desc := "([BI)C" } : Jvm.MethodName) jdk_52_method_5_code (2 : Nat) (Option.some Jvm.ClassFile.FieldType.char)).before args0 about1 = true := code_word (m := ⟨8, 4⟩) (meth := k8m4) (c := k8c4) (by decide +kernel) rfl rfl rfl (by decide +kernel)
set_option maxRecDepth 65536 in
theorem w_c13 : (Jvm.Cond.code ({ cls := "java/lang/StringUTF16", name := "coderFromArrayLen", desc := "([BI)B" } : Jvm.MethodName) jdk_52_method_15_code (2 : Nat) (Option.some Jvm.ClassFile.FieldType.byte)).before args0 about1 = true := code_word (m := ⟨8, 7⟩) (meth := k8m7) (c := k8c7) (by decide +kernel) rfl rfl rfl (by decide +kernel)
set_option maxRecDepth 65536 in
theorem w_c14 : (Jvm.Cond.code ({ cls := "com/example/compact_transform/compacttransform/tree/StringFootprint", name := "latin1Prefix", desc := "(Ljava/lang/String;)I" } : Jvm.MethodName) prog_118_method_4_code (3 : Nat) (Option.some Jvm.ClassFile.FieldType.int)).before args0 about1 = true := code_word (m := ⟨9, 1⟩) (meth := k9m1) (c := k9c1) (by decide +kernel) rfl rfl rfl (by decide +kernel)
set_option maxRecDepth 65536 in
theorem w_c15 : (Jvm.Cond.code ({ cls := "java/lang/String", name := "length", desc := "()I" } : Jvm.MethodName) jdk_42_method_54_code (1 : Nat) (Option.some Jvm.ClassFile.FieldType.int)).before args0 about1 = true := code_word (m := ⟨7, 2⟩) (meth := k7m2) (c := k7c2) (by decide +kernel) rfl rfl rfl (by decide +kernel)
set_option maxRecDepth 65536 in
theorem w_c16 : (Jvm.Cond.code ({ cls := "java/lang/String", name := "coder", desc := "()B" } : Jvm.MethodName) jdk_42_method_152_code (1 : Nat) (Option.some Jvm.ClassFile.FieldType.byte)).before args0 about1 = true := code_word (m := ⟨7, 5⟩) (meth := k7m5) (c := k7c5) (by decide +kernel) rfl rfl rfl (by decide +kernel)
set_option maxRecDepth 65536 in
theorem w_c17 : (Jvm.Cond.code ({ cls := "java/lang/String", name := "charAt", desc := "(I)C" } : Jvm.MethodName) jdk_42_method_56_code (2 : Nat) (Option.some Jvm.ClassFile.FieldType.char)).before args0 about1 = true := code_word (m := ⟨7, 3⟩) (meth := k7m3) (c := k7c3) (by decide +kernel) rfl rfl rfl (by decide +kernel)
set_option maxRecDepth 65536 in
theorem w_c18 : (Jvm.Cond.code ({ cls := "java/lang/String", name := "isLatin1", desc := "()Z" } : Jvm.MethodName) jdk_42_method_154_code (1 : Nat) (Option.some Jvm.ClassFile.FieldType.boolean)).before args0 about1 = true := code_word (m := ⟨7, 6⟩) (meth := k7m6) (c := k7c6) (by decide +kernel) rfl rfl rfl (by decide +kernel)
set_option maxRecDepth 65536 in
theorem w_c19 : (Jvm.Cond.code ({ cls := "java/lang/StringUTF16", name := "charAt", desc := "([BI)C" } : Jvm.MethodName) jdk_52_method_83_code (2 : Nat) (Option.some Jvm.ClassFile.FieldType.char)).before args0 about1 = true := code_word (m := ⟨8, 10⟩) (meth := k8m10) (c := k8c10) (by decide +kernel) rfl rfl rfl (by decide +kernel)
set_option maxRecDepth 65536 in
theorem w_c20 : (Jvm.Cond.code ({ cls := "java/lang/StringUTF16", name := "checkIndex", desc := "(I[B)V" } : Jvm.MethodName) jdk_52_method_91_code (2 : Nat) (Option.none : Option Jvm.ClassFile.FieldType)).before args0 about1 = true := code_word (m := ⟨8, 11⟩) (meth := k8m11) (c := k8c11) (by decide +kernel) rfl rfl rfl (by decide +kernel)
set_option maxRecDepth 65536 in
theorem w_c21 : (Jvm.Cond.code ({ cls := "java/lang/StringUTF16", name := "length", desc := "([B)I" } : Jvm.MethodName) jdk_52_method_6_code (1 : Nat) (Option.some Jvm.ClassFile.FieldType.int)).before args0 about1 = true := code_word (m := ⟨8, 5⟩) (meth := k8m5) (c := k8c5) (by decide +kernel) rfl rfl rfl (by decide +kernel)
set_option maxRecDepth 65536 in
theorem w_c22 : (Jvm.Cond.code ({ cls := "java/lang/String", name := "checkIndex", desc := "(II)V" } : Jvm.MethodName) jdk_42_method_155_code (2 : Nat) (Option.none : Option Jvm.ClassFile.FieldType)).before args0 about1 = true := code_word (m := ⟨7, 7⟩) (meth := k7m7) (c := k7c7) (by decide +kernel) rfl rfl rfl (by decide +kernel)
set_option maxRecDepth 65536 in
theorem w_c23 : (Jvm.Cond.code ({ cls := "jdk/internal/util/Preconditions", name := "checkIndex", desc := "(IILjava/util/function/BiFunction;)I" } : Jvm.MethodName) jdk_41_method_11_code (3 : Nat) (Option.some Jvm.ClassFile.FieldType.int)).before args0 about1 = true := code_word (m := ⟨10, 1⟩) (meth := k10m1) (c := k10c1) (by decide +kernel) rfl rfl rfl (by decide +kernel)
set_option maxRecDepth 65536 in
theorem w_c24 : (Jvm.Cond.code ({ cls := "com/example/compact_transform/compacttransform/tree/StringFootprint", name := "latin1PrefixOfJoin", desc := "(III)I" } : Jvm.MethodName) prog_118_method_7_code (4 : Nat) (Option.some Jvm.ClassFile.FieldType.int)).before args0 about1 = true := code_word (m := ⟨9, 2⟩) (meth := k9m2) (c := k9c2) (by decide +kernel) rfl rfl rfl (by decide +kernel)
set_option maxRecDepth 65536 in
theorem w_c25 : (Jvm.Cond.code ({ cls := "com/example/compact_transform/compacttransform/tree/StringFootprintLatin1PrefixOfJoinPinLaw", name := "ch", desc := "(JI)C" } : Jvm.MethodName) method_2_code (3 : Nat) (Option.some Jvm.ClassFile.FieldType.char)).before args0 about1 = true := code_word (m := ⟨1, 1⟩) (meth := k1m1) (c := k1c1) (by decide +kernel) rfl rfl rfl (by decide +kernel)
def codes1 : List Jvm.Cond := [Jvm.Cond.code x code maxLocals ret, Jvm.Cond.code ({ cls := "com/example/compact_transform/compacttransform/tree/StringFootprintLatin1PrefixOfJoinPinLaw", name := "at", desc := "(JIII)C" } : Jvm.MethodName) method_3_code (5 : Nat) (Option.some Jvm.ClassFile.FieldType.char), Jvm.Cond.code ({ cls := "com/example/compact_transform/compacttransform/tree/StringFootprintLatin1PrefixOfJoinPinLaw", name := "joinedAt", desc := "(JIII)C" } : Jvm.MethodName) method_4_code (5 : Nat) (Option.some Jvm.ClassFile.FieldType.char), Jvm.Cond.code ({ cls := "java/lang/String", name := "<init>", desc := "([C)V" } : Jvm.MethodName) jdk_42_method_3_code (2 : Nat) (Option.none : Option Jvm.ClassFile.FieldType), Jvm.Cond.code ({ cls := "java/lang/String", name := "<init>", desc := "([CIILjava/lang/Void;)V" } : Jvm.MethodName) jdk_42_method_149_code (6 : Nat) (Option.none : Option Jvm.ClassFile.FieldType), Jvm.Cond.code ({ cls := "java/lang/Object", name := "<init>", desc := "()V" } : Jvm.MethodName) object_method_1_code (1 : Nat) (Option.none : Option Jvm.ClassFile.FieldType), Jvm.Cond.code ({ cls := "java/lang/StringUTF16", name := "compress", desc := "([CII)[B" } : Jvm.MethodName) jdk_52_method_16_code (6 : Nat) (Option.some (Jvm.ClassFile.FieldType.array Jvm.ClassFile.FieldType.byte)), Jvm.Cond.code ({ cls := "java/lang/StringUTF16", name := "compress", desc := "([CI[BII)I" } : Jvm.MethodName) jdk_52_method_21_code (7 : Nat) (Option.some Jvm.ClassFile.FieldType.int), Jvm.Cond.code ({ cls := "java/lang/StringUTF16", name := "toBytes", desc := "([CII)[B" } : Jvm.MethodName) jdk_52_method_14_code (5 : Nat) (Option.some (Jvm.ClassFile.FieldType.array Jvm.ClassFile.FieldType.byte)), Jvm.Cond.code ({ cls := "java/lang/StringUTF16", name := "newBytesFor", desc := "(I)[B" } : Jvm.MethodName) jdk_52_method_2_code (1 : Nat) (Option.some (Jvm.ClassFile.FieldType.array Jvm.ClassFile.FieldType.byte)), Jvm.Cond.code ({ cls := "java/lang/StringUTF16", name := "newBytesLength", desc := "(I)I" } : Jvm.MethodName) jdk_52_method_3_code (1 : Nat) (Option.some Jvm.ClassFile.FieldType.int), Jvm.Cond.code ({ cls := "java/lang/StringUTF16", name := "putChar", desc := "([BII)V" } : Jvm.MethodName) jdk_52_method_4_code (3 : Nat) (Option.none : Option Jvm.ClassFile.FieldType), Jvm.Cond.code ({ cls := "java/lang/StringUTF16", name := "getChar", desc := "([BI)C" } : Jvm.MethodName) jdk_52_method_5_code (2 : Nat) (Option.some Jvm.ClassFile.FieldType.char), Jvm.Cond.code ({ cls := "java/lang/StringUTF16", name := "coderFromArrayLen", desc := "([BI)B" } : Jvm.MethodName) jdk_52_method_15_code (2 : Nat) (Option.some Jvm.ClassFile.FieldType.byte), Jvm.Cond.code ({ cls := "com/example/compact_transform/compacttransform/tree/StringFootprint", name := "latin1Prefix", desc := "(Ljava/lang/String;)I" } : Jvm.MethodName) prog_118_method_4_code (3 : Nat) (Option.some Jvm.ClassFile.FieldType.int), Jvm.Cond.code ({ cls := "java/lang/String", name := "length", desc := "()I" } : Jvm.MethodName) jdk_42_method_54_code (1 : Nat) (Option.some Jvm.ClassFile.FieldType.int), Jvm.Cond.code ({ cls := "java/lang/String", name := "coder", desc := "()B" } : Jvm.MethodName) jdk_42_method_152_code (1 : Nat) (Option.some Jvm.ClassFile.FieldType.byte), Jvm.Cond.code ({ cls := "java/lang/String", name := "charAt", desc := "(I)C" } : Jvm.MethodName) jdk_42_method_56_code (2 : Nat) (Option.some Jvm.ClassFile.FieldType.char), Jvm.Cond.code ({ cls := "java/lang/String", name := "isLatin1", desc := "()Z" } : Jvm.MethodName) jdk_42_method_154_code (1 : Nat) (Option.some Jvm.ClassFile.FieldType.boolean), Jvm.Cond.code ({ cls := "java/lang/StringUTF16", name := "charAt", desc := "([BI)C" } : Jvm.MethodName) jdk_52_method_83_code (2 : Nat) (Option.some Jvm.ClassFile.FieldType.char), Jvm.Cond.code ({ cls := "java/lang/StringUTF16", name := "checkIndex", desc := "(I[B)V" } : Jvm.MethodName) jdk_52_method_91_code (2 : Nat) (Option.none : Option Jvm.ClassFile.FieldType), Jvm.Cond.code ({ cls := "java/lang/StringUTF16", name := "length", desc := "([B)I" } : Jvm.MethodName) jdk_52_method_6_code (1 : Nat) (Option.some Jvm.ClassFile.FieldType.int), Jvm.Cond.code ({ cls := "java/lang/String", name := "checkIndex", desc := "(II)V" } : Jvm.MethodName) jdk_42_method_155_code (2 : Nat) (Option.none : Option Jvm.ClassFile.FieldType), Jvm.Cond.code ({ cls := "jdk/internal/util/Preconditions", name := "checkIndex", desc := "(IILjava/util/function/BiFunction;)I" } : Jvm.MethodName) jdk_41_method_11_code (3 : Nat) (Option.some Jvm.ClassFile.FieldType.int), Jvm.Cond.code ({ cls := "com/example/compact_transform/compacttransform/tree/StringFootprint", name := "latin1PrefixOfJoin", desc := "(III)I" } : Jvm.MethodName) prog_118_method_7_code (4 : Nat) (Option.some Jvm.ClassFile.FieldType.int), Jvm.Cond.code ({ cls := "com/example/compact_transform/compacttransform/tree/StringFootprintLatin1PrefixOfJoinPinLaw", name := "ch", desc := "(JI)C" } : Jvm.MethodName) method_2_code (3 : Nat) (Option.some Jvm.ClassFile.FieldType.char)]
set_option maxRecDepth 65536 in
theorem codes_eq : words1.filter isCode = codes1 := rfl
theorem w_codes : ∀ c ∈ words1.filter isCode, c.before args0 about1 = true := by
  rw [codes_eq]
  intro c hc
  simp only [codes1, List.mem_cons, List.not_mem_nil, or_false] at hc
  rcases hc with rfl | rfl | rfl | rfl | rfl | rfl | rfl | rfl | rfl | rfl | rfl | rfl | rfl | rfl | rfl | rfl | rfl | rfl | rfl | rfl | rfl | rfl | rfl | rfl | rfl | rfl
  · exact w_c0
  · exact w_c1
  · exact w_c2
  · exact w_c3
  · exact w_c4
  · exact w_c5
  · exact w_c6
  · exact w_c7
  · exact w_c8
  · exact w_c9
  · exact w_c10
  · exact w_c11
  · exact w_c12
  · exact w_c13
  · exact w_c14
  · exact w_c15
  · exact w_c16
  · exact w_c17
  · exact w_c18
  · exact w_c19
  · exact w_c20
  · exact w_c21
  · exact w_c22
  · exact w_c23
  · exact w_c24
  · exact w_c25
set_option maxRecDepth 65536 in
theorem w_t1 : (words1.take 24).all (fun c => isCode c || c.before args0 about1) = true := by decide +kernel
set_option maxRecDepth 65536 in
theorem w_t2 : ((words1.drop 24).take 24).all (fun c => isCode c || c.before args0 about1) = true := by decide +kernel
set_option maxRecDepth 65536 in
theorem w_t3 : (((words1.drop 24).drop 24).take 24).all (fun c => isCode c || c.before args0 about1) = true := by decide +kernel
set_option maxRecDepth 65536 in
theorem w_t4 : ((((words1.drop 24).drop 24).drop 24).take 24).all (fun c => isCode c || c.before args0 about1) = true := by decide +kernel
set_option maxRecDepth 65536 in
theorem w_t5 : ((((words1.drop 24).drop 24).drop 24).drop 24).all (fun c => isCode c || c.before args0 about1) = true := by decide +kernel
theorem w_tables : (allAtoms (Jvm.Cond.code x code maxLocals ret :: tables_1)).before args0 about1 = true := by
  rw [allAtoms_all]
  show words1.all (fun c => c.before args0 about1) = true
  refine all_split ?_ w_codes
  rw [← List.take_append_drop 24 words1, List.all_append, w_t1, ← List.take_append_drop 24 (words1.drop 24), List.all_append, w_t2, ← List.take_append_drop 24 ((words1.drop 24).drop 24), List.all_append, w_t3, ← List.take_append_drop 24 (((words1.drop 24).drop 24).drop 24), List.all_append, w_t4, w_t5]
  rfl
set_option maxRecDepth 65536 in
theorem w_rest : rest_1_c.before args0 about1 = true := by decide +kernel
set_option maxRecDepth 65536 in
theorem w_case : (Jvm.Cond.and given_1 narrow_1).before args0 about1 = true := by decide +kernel
theorem w_applies : (headSpec (Jvm.Cond.code x code maxLocals ret :: tables_1) room_1).applies x e0.platform about1 = true :=
  (Spec.applies_iff w_frames).mpr ⟨w_running, w_runnable, w_alone, w_named, w_hears, w_ripe, w_room, w_tables⟩
theorem atStart : AtStart classFile x code maxLocals ret World_1 tables_1 room_1 Calls_1 rest_1 Pre_1 launch0 p0 e0 about1 theMethod args0 below0 :=
  ⟨lists_1, trivial, launch0.admits_env _ _ _, launch0.least_env, fairChoices_fair.cas, fairChoices_fair.clock, w_frames, w_args, w_heap, w_applies, trivial, w_rest, w_case⟩
end start1
theorem witness_1 : WitnessClaimed_1 := ⟨start1.p0, start1.e0, start1.about1, start1.theMethod, start1.args0, start1.below0, start1.atStart⟩
end Jvm.Pilot.@@N@@
