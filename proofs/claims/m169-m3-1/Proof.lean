import JvmDerived
import JvmDerived.Pilot.@@N@@Statement
import JvmDerived.Pilot.@@N@@Code
set_option linter.unusedVariables false
set_option linter.unusedSimpArgs false
namespace Jvm.RoadKit
open Sem ClassFile Op Lib Jvm.Stand Jvm.Free Jvm.LawKit
section Own
variable {p : Program} {l : Launch} {e : Env} {R : Room} {s : State} {m : MethodId} {args : Array Value} {below : List Frame} {meth : Method} {c : Code} {T : State} {locs : List Loc} {cells slots : Nat}
def own_Go (p : Program) (e : Env) (below : List Frame) (F : Outcome → State → Prop) (U : State) : Prop := ∃ s₂ o, Steps p.tables e below U s₂ ∧ s₂.status = .running ∧ Ended s₂ below o ∧ F o s₂
def own_Fin (s : State) (C S : Nat) (Q : Option Value → Heap → List Loc → Prop) (o : Outcome) (U' : State) : Prop := ∃ v L, o = .returned v ∧ Q v U'.heap L ∧ FrameEnd s o U' L C S
theorem own_go {F : Outcome → State → Prop} {U U' : State} (h : ∀ t, Steps p.tables e below U' t → Steps p.tables e below U t) (g : own_Go p e below F U') : own_Go p e below F U := by
  obtain ⟨s₂, o, h1, h2⟩ := g
  exact ⟨s₂, o, h _ h1, h2⟩
theorem own_cast {F : Outcome → State → Prop} {g g' : JFrame} (q : g = g') (k : own_Go p e below F (T.setTop g')) : own_Go p e below F (T.setTop g) := q ▸ k
theorem own_ret (X : Stand p l e R s m args below meth c T locs cells slots) (hx : p.tables.exec = Jvm.exec) (hlk : meth.locks = false) {pc : Nat} {Ls : Array Slot} {w : Value} {t : FieldType} {i : Instr} {rest : List Value} (hret : meth.sig.returnType = some t) (hn : narrow t w = w)
    (hi : (i = .ireturn ∧ (t = .int ∨ t = .boolean ∨ t = .byte ∨ t = .char ∨ t = .short) ∧ ∃ z, w = .int z) ∨ (i = .lreturn ∧ t = .long ∧ ∃ z, w = .long z) ∨ (i = .dreturn ∧ t = .double ∧ ∃ z, w = .double z) ∨ (i = .freturn ∧ t = .float ∧ ∃ z, w = .float z) ∨ (i = .areturn ∧ t.isReference = true ∧ w.isRef = true))
    (hd : decode c.code pc = .ok (i, 1)) {Q : Option Value → Heap → List Loc → Prop} (hQ : Q (some w) T.heap locs) {C S : Nat} (hc : cells ≤ C) (hs : slots ≤ S) : own_Go p e below (own_Fin s C S Q) (T.setTop (mkF m pc Ls (w :: rest))) := by
  obtain ⟨fs, hr, hrun, hended, hW, hsame⟩ := X.leave (v := some w) (fun h => by rw [hret] at h; cases h) hlk
  exact ⟨_, _, retOut X hx hret hn hi hd hr, hrun, hended, _, _, rfl, hQ, ⟨_, rfl⟩, hW, hsame.mono hc hs⟩
theorem own_retN (X : Stand p l e R s m args below meth c T locs cells slots) (hx : p.tables.exec = Jvm.exec) (hlk : meth.locks = false) {pc : Nat} {Ls : Array Slot} {z : Int32} {t : FieldType} {rest : List Value} (hret : meth.sig.returnType = some t) (ht : t = .boolean ∨ t = .byte ∨ t = .char ∨ t = .short)
    (hd : decode c.code pc = .ok (.ireturn, 1)) {Q : Option Value → Heap → List Loc → Prop} (hQ : Q (some (.int (nar t z))) T.heap locs) {C S : Nat} (hc : cells ≤ C) (hs : slots ≤ S) : own_Go p e below (own_Fin s C S Q) (T.setTop (mkF m pc Ls (.int z :: rest))) := by
  obtain ⟨fs, hr, hrun, hended, hW, hsame⟩ := X.leave (v := some (.int (nar t z))) (fun h => by rw [hret] at h; cases h) hlk
  exact ⟨_, _, retN X hx hret ht hd hr, hrun, hended, _, _, rfl, hQ, ⟨_, rfl⟩, hW, hsame.mono hc hs⟩
theorem own_retV (X : Stand p l e R s m args below meth c T locs cells slots) (hx : p.tables.exec = Jvm.exec) (hlk : meth.locks = false) {pc : Nat} {Ls : Array Slot} (hret : meth.sig.returnType = none)
    (hd : decode c.code pc = .ok (.return_, 1)) {Q : Option Value → Heap → List Loc → Prop} (hQ : Q none T.heap locs) {C S : Nat} (hc : cells ≤ C) (hs : slots ≤ S) : own_Go p e below (own_Fin s C S Q) (T.setTop (mkF m pc Ls [])) := by
  obtain ⟨fs, hr, hrun, hended, hW, hsame⟩ := X.leave (v := none) (fun _ => rfl) hlk
  exact ⟨_, _, X.returnOut hx hret hd hr, hrun, hended, _, _, rfl, hQ, ⟨_, rfl⟩, hW, hsame.mono hc hs⟩
def own_FinW (s : State) (C S : Nat) (Q : Option Value → Heap → List Loc → Prop) (o : Outcome) (U' : State) : Prop := ∃ v L, o = .returned v ∧ Q v U'.heap L ∧ ReturnedEndW s o U' L C S
theorem own_monoW {t : State} {o : Outcome} {L : List Loc} {k n C S : Nat} (h : ReturnedEndW s o t L k n) (hc : k ≤ C) (hs : n ≤ S) : ReturnedEndW s o t L C S := ⟨h.1, h.2.1, h.2.2.1, h.2.2.2.mono hc hs⟩
theorem own_retW {vm₁ : Vm} (X : Stand p l e R (s.setVm vm₁) m args below meth c T locs cells slots) (hx : p.tables.exec = Jvm.exec) {n : Nat} (hS : s.Since vm₁ n) (hk : n ≤ T.heap.size) (hlk : meth.locks = false) {pc : Nat} {Ls : Array Slot} {w : Value} {t : FieldType} {i : Instr} {rest : List Value} (hret : meth.sig.returnType = some t) (hn : narrow t w = w)
    (hi : (i = .ireturn ∧ (t = .int ∨ t = .boolean ∨ t = .byte ∨ t = .char ∨ t = .short) ∧ ∃ z, w = .int z) ∨ (i = .lreturn ∧ t = .long ∧ ∃ z, w = .long z) ∨ (i = .dreturn ∧ t = .double ∧ ∃ z, w = .double z) ∨ (i = .freturn ∧ t = .float ∧ ∃ z, w = .float z) ∨ (i = .areturn ∧ t.isReference = true ∧ w.isRef = true))
    (hd : decode c.code pc = .ok (i, 1)) {Q : Option Value → Heap → List Loc → Prop} (hQ : Q (some w) T.heap locs) {C S : Nat} (hc : cells ≤ C) (hs : slots ≤ S) : own_Go p e below (own_FinW s C S Q) (T.setTop (mkF m pc Ls (w :: rest))) := by
  obtain ⟨fs, hr, hrun, hended, hW⟩ := X.leaveW hS hk (v := some w) (fun h => by rw [hret] at h; cases h) hlk
  exact ⟨_, _, retOut X hx hret hn hi hd hr, hrun, hended, _, _, rfl, hQ, own_monoW hW hc hs⟩
theorem own_retNW {vm₁ : Vm} (X : Stand p l e R (s.setVm vm₁) m args below meth c T locs cells slots) (hx : p.tables.exec = Jvm.exec) {n : Nat} (hS : s.Since vm₁ n) (hk : n ≤ T.heap.size) (hlk : meth.locks = false) {pc : Nat} {Ls : Array Slot} {z : Int32} {t : FieldType} {rest : List Value} (hret : meth.sig.returnType = some t) (ht : t = .boolean ∨ t = .byte ∨ t = .char ∨ t = .short)
    (hd : decode c.code pc = .ok (.ireturn, 1)) {Q : Option Value → Heap → List Loc → Prop} (hQ : Q (some (.int (nar t z))) T.heap locs) {C S : Nat} (hc : cells ≤ C) (hs : slots ≤ S) : own_Go p e below (own_FinW s C S Q) (T.setTop (mkF m pc Ls (.int z :: rest))) := by
  obtain ⟨fs, hr, hrun, hended, hW⟩ := X.leaveW hS hk (v := some (.int (nar t z))) (fun h => by rw [hret] at h; cases h) hlk
  exact ⟨_, _, retN X hx hret ht hd hr, hrun, hended, _, _, rfl, hQ, own_monoW hW hc hs⟩
theorem own_retVW {vm₁ : Vm} (X : Stand p l e R (s.setVm vm₁) m args below meth c T locs cells slots) (hx : p.tables.exec = Jvm.exec) {n : Nat} (hS : s.Since vm₁ n) (hk : n ≤ T.heap.size) (hlk : meth.locks = false) {pc : Nat} {Ls : Array Slot} (hret : meth.sig.returnType = none)
    (hd : decode c.code pc = .ok (.return_, 1)) {Q : Option Value → Heap → List Loc → Prop} (hQ : Q none T.heap locs) {C S : Nat} (hc : cells ≤ C) (hs : slots ≤ S) : own_Go p e below (own_FinW s C S Q) (T.setTop (mkF m pc Ls [])) := by
  obtain ⟨fs, hr, hrun, hended, hW⟩ := X.leaveW hS hk (v := none) (fun _ => rfl) hlk
  exact ⟨_, _, X.returnOut hx hret hd hr, hrun, hended, _, _, rfl, hQ, own_monoW hW hc hs⟩
def own_FinH (Z : State) (EL : List (String × Nat)) (s : State) (C S : Nat) (Q : Option Value → Heap → List Loc → Prop) (o : Outcome) (U' : State) : Prop := ∃ v L, o = .returned v ∧ Q v U'.heap L ∧ CHr Z EL s.vm s.heap U'.vm U'.heap ∧ ReturnedEndW s o U' L C S
theorem own_retH {Z : State} {EL : List (String × Nat)} {vm₁ : Vm} (X : Stand p l e R (s.setVm vm₁) m args below meth c T locs cells slots) (hx : p.tables.exec = Jvm.exec) {n : Nat} (hS : s.Since vm₁ n) (hk : n ≤ T.heap.size) (hC : CHr Z EL s.vm s.heap T.vm T.heap) (hlk : meth.locks = false) {pc : Nat} {Ls : Array Slot} {w : Value} {t : FieldType} {i : Instr} {rest : List Value} (hret : meth.sig.returnType = some t) (hn : narrow t w = w)
    (hi : (i = .ireturn ∧ (t = .int ∨ t = .boolean ∨ t = .byte ∨ t = .char ∨ t = .short) ∧ ∃ z, w = .int z) ∨ (i = .lreturn ∧ t = .long ∧ ∃ z, w = .long z) ∨ (i = .dreturn ∧ t = .double ∧ ∃ z, w = .double z) ∨ (i = .freturn ∧ t = .float ∧ ∃ z, w = .float z) ∨ (i = .areturn ∧ t.isReference = true ∧ w.isRef = true))
    (hd : decode c.code pc = .ok (i, 1)) {Q : Option Value → Heap → List Loc → Prop} (hQ : Q (some w) T.heap locs) {C S : Nat} (hc : cells ≤ C) (hs : slots ≤ S) : own_Go p e below (own_FinH Z EL s C S Q) (T.setTop (mkF m pc Ls (w :: rest))) := by
  obtain ⟨fs, hr, hrun, hended, hW⟩ := X.leaveW hS hk (v := some w) (fun h => by rw [hret] at h; cases h) hlk
  exact ⟨_, _, retOut X hx hret hn hi hd hr, hrun, hended, _, _, rfl, hQ, hC, own_monoW hW hc hs⟩
theorem own_retNH {Z : State} {EL : List (String × Nat)} {vm₁ : Vm} (X : Stand p l e R (s.setVm vm₁) m args below meth c T locs cells slots) (hx : p.tables.exec = Jvm.exec) {n : Nat} (hS : s.Since vm₁ n) (hk : n ≤ T.heap.size) (hC : CHr Z EL s.vm s.heap T.vm T.heap) (hlk : meth.locks = false) {pc : Nat} {Ls : Array Slot} {z : Int32} {t : FieldType} {rest : List Value} (hret : meth.sig.returnType = some t) (ht : t = .boolean ∨ t = .byte ∨ t = .char ∨ t = .short)
    (hd : decode c.code pc = .ok (.ireturn, 1)) {Q : Option Value → Heap → List Loc → Prop} (hQ : Q (some (.int (nar t z))) T.heap locs) {C S : Nat} (hc : cells ≤ C) (hs : slots ≤ S) : own_Go p e below (own_FinH Z EL s C S Q) (T.setTop (mkF m pc Ls (.int z :: rest))) := by
  obtain ⟨fs, hr, hrun, hended, hW⟩ := X.leaveW hS hk (v := some (.int (nar t z))) (fun h => by rw [hret] at h; cases h) hlk
  exact ⟨_, _, retN X hx hret ht hd hr, hrun, hended, _, _, rfl, hQ, hC, own_monoW hW hc hs⟩
theorem own_retVH {Z : State} {EL : List (String × Nat)} {vm₁ : Vm} (X : Stand p l e R (s.setVm vm₁) m args below meth c T locs cells slots) (hx : p.tables.exec = Jvm.exec) {n : Nat} (hS : s.Since vm₁ n) (hk : n ≤ T.heap.size) (hC : CHr Z EL s.vm s.heap T.vm T.heap) (hlk : meth.locks = false) {pc : Nat} {Ls : Array Slot} (hret : meth.sig.returnType = none)
    (hd : decode c.code pc = .ok (.return_, 1)) {Q : Option Value → Heap → List Loc → Prop} (hQ : Q none T.heap locs) {C S : Nat} (hc : cells ≤ C) (hs : slots ≤ S) : own_Go p e below (own_FinH Z EL s C S Q) (T.setTop (mkF m pc Ls [])) := by
  obtain ⟨fs, hr, hrun, hended, hW⟩ := X.leaveW hS hk (v := none) (fun _ => rfl) hlk
  exact ⟨_, _, X.returnOut hx hret hd hr, hrun, hended, _, _, rfl, hQ, hC, own_monoW hW hc hs⟩
theorem own_safe_null {Z : State} {EL : List (String × Nat)} {vm : Vm} {h : Heap} {x : Addr} (hal : Z.vm.Alike vm) (E : Exa Z h x "java/lang/String") (F : Fld Z h x "java/lang/String" "value" "[B" .null) : Safe Z EL vm h x := fun B => by
  obtain ⟨p, -, u, a, -, q, -, G, rfl | rfl⟩ := B
  · obtain ⟨cell, cf, k, i, f, f1, f2, -, -, -, -, f7⟩ := F
    cases (show h[q.sa]? = some q.sC from G.ha).symm.trans f1
    obtain ⟨cS, ⟨⟨-, -, -, ⟨cv, kv, iv, s4, -⟩, -, -, -, s8, -⟩, -⟩, -⟩ := G
    obtain ⟨k', hi, -⟩ := State.fieldFound?_setVm (s := Z) hal f2
    have s4' : (Z.setVm vm).fieldFound? "java/lang/String" "value" "[B" = some (cv, kv, iv, q.fSV) := s4
    cases hi.symm.trans s4'
    rw [f7] at s8
    cases s8
  · obtain ⟨cell, k, e1, e2, e3, -, -⟩ := E
    cases (show h[q.sd]? = some q.SA from G.hd).symm.trans e1
    obtain ⟨cS, -, -, f, -⟩ := G
    have f' : vm.findClass "[B" = some q.SA.cls := f
    rw [hal.findClass] at f'
    obtain ⟨k1, q1, q2⟩ := Vm.findClass_spec f'
    obtain ⟨k2, q3, q4⟩ := Vm.findClass_spec e2
    cases q1.symm.trans q3
    exact absurd (q2.symm.trans q4) (by decide)
def own_Met (l : Launch) (Z : State) (y : MethodName) (bytes : ByteArray) (maxL : Nat) (ret : Option FieldType) (ws : List Jvm.Cond) (rm : Room) (as : Array Value) (h0 : Heap) (Q : Option Value → Heap → List Loc → Prop) : Prop :=
  MetFree l y (head1 (Jvm.Cond.code y bytes maxL ret :: ws) rm) (fun a U => a = as ∧ Z.Warmed39 U.vm ∧ U.heap = h0) (fun _ _ _ _ _ => True) (fun _ U o U' => ∃ v L, o = .returned v ∧ Q v U'.heap L ∧ FrameEnd U o U' L rm.cells rm.slots)
def own_MetW (l : Launch) (Z : State) (y : MethodName) (bytes : ByteArray) (maxL : Nat) (ret : Option FieldType) (ws : List Jvm.Cond) (rm : Room) (as : Array Value) (h0 : Heap) (Q : Option Value → Heap → List Loc → Prop) : Prop :=
  MetFree l y (head1 (Jvm.Cond.code y bytes maxL ret :: ws) rm) (fun a U => a = as ∧ Z.Warmed39 U.vm ∧ U.heap = h0) (fun _ _ _ _ _ => True) (fun _ U o U' => ∃ v L, o = .returned v ∧ Q v U'.heap L ∧ ReturnedEndW U o U' L rm.cells rm.slots)
def own_MetH (l : Launch) (Z : State) (EL : List (String × Nat)) (y : MethodName) (bytes : ByteArray) (maxL : Nat) (ret : Option FieldType) (ws : List Jvm.Cond) (rm : Room) (as : Array Value) (h0 : Heap) (Q : Option Value → Heap → List Loc → Prop) : Prop :=
  MetFree l y (head1 (Jvm.Cond.code y bytes maxL ret :: ws) rm) (fun a U => a = as ∧ Z.Warmed39 U.vm ∧ U.heap = h0 ∧ CHv Z EL U.vm h0) (fun _ _ _ _ _ => True) (fun _ U o U' => ∃ v L, o = .returned v ∧ Q v U'.heap L ∧ CHr Z EL U.vm U.heap U'.vm U'.heap ∧ ReturnedEndW U o U' L rm.cells rm.slots)
theorem own_enter {Z : State} {y : MethodName} {bytes : ByteArray} {maxL : Nat} {ret : Option FieldType} {ws : List Jvm.Cond} {rm : Room} {as : Array Value} {h0 : Heap} {Q : Option Value → Heap → List Loc → Prop} {own : String} (hpl : plainFor y = true) (ho : y.cls = own)
    (H : ∀ (p : Program) (e : Env) (s : State) (m : MethodId) (below : List Frame) (meth : Method) (c : Code) (s₁ : State), meth.locks = false → meth.sig.returnType = ret → p.tables.exec = Jvm.exec → c.code = bytes → c.maxLocals = maxL → s.vm.findClass own = some m.cls → meth.name = y.name → Z.Warmed39 s.vm → Stand p l e rm s m as below meth c s₁ [] 0 0 → s₁.heap = h0 → own_Go p e below (own_Fin s rm.cells rm.slots Q) (s₁.setTop (entryFrame m as maxL))) :
    own_Met l Z y bytes maxL ret ws rm as h0 Q := by
  refine MetFree.of_bodySF hpl hisR ?_
  intro p e s m args below meth c s₁ Bd hml0 hP hK
  obtain ⟨rfl, hZ, hh⟩ := hP
  subst ho
  exact H p e s m below meth c s₁ Bd.notSynchronized Bd.returns Bd.exec Bd.bytes hml0 (findClass_of_methodNamed Bd.named) (name_of_methodNamed Bd.named Bd.method).1 hZ (Stand.of_body Bd) (by rw [← hh, Bd.state]; rfl)
theorem own_enterW {Z : State} {y : MethodName} {bytes : ByteArray} {maxL : Nat} {ret : Option FieldType} {ws : List Jvm.Cond} {rm : Room} {as : Array Value} {h0 : Heap} {Q : Option Value → Heap → List Loc → Prop} {own : String} (hpl : plainFor y = true) (ho : y.cls = own)
    (H : ∀ (p : Program) (e : Env) (s : State) (m : MethodId) (below : List Frame) (meth : Method) (c : Code) (s₁ : State), meth.locks = false → meth.sig.returnType = ret → p.tables.exec = Jvm.exec → c.code = bytes → c.maxLocals = maxL → s.vm.findClass own = some m.cls → meth.name = y.name → Z.Warmed39 s.vm → Stand p l e rm (s.setVm s.vm) m as below meth c s₁ [] 0 0 → s₁.heap = h0 → own_Go p e below (own_FinW s rm.cells rm.slots Q) (s₁.setTop (entryFrame m as maxL))) :
    own_MetW l Z y bytes maxL ret ws rm as h0 Q := by
  refine MetFree.of_bodySF hpl hisR ?_
  intro p e s m args below meth c s₁ Bd hml0 hP hK
  obtain ⟨rfl, hZ, hh⟩ := hP
  subst ho
  exact H p e s m below meth c s₁ Bd.notSynchronized Bd.returns Bd.exec Bd.bytes hml0 (findClass_of_methodNamed Bd.named) (name_of_methodNamed Bd.named Bd.method).1 hZ (Stand.of_body Bd) (by rw [← hh, Bd.state]; rfl)
theorem own_enterH {Z : State} {EL : List (String × Nat)} {y : MethodName} {bytes : ByteArray} {maxL : Nat} {ret : Option FieldType} {ws : List Jvm.Cond} {rm : Room} {as : Array Value} {h0 : Heap} {Q : Option Value → Heap → List Loc → Prop} {own : String} (hpl : plainFor y = true) (ho : y.cls = own)
    (H : ∀ (p : Program) (e : Env) (s : State) (m : MethodId) (below : List Frame) (meth : Method) (c : Code) (s₁ : State), meth.locks = false → meth.sig.returnType = ret → p.tables.exec = Jvm.exec → c.code = bytes → c.maxLocals = maxL → s.vm.findClass own = some m.cls → meth.name = y.name → Z.Warmed39 s.vm → s.heap = h0 → CHv Z EL s.vm h0 → Stand p l e rm (s.setVm s.vm) m as below meth c s₁ [] 0 0 → s₁.heap = h0 → own_Go p e below (own_FinH Z EL s rm.cells rm.slots Q) (s₁.setTop (entryFrame m as maxL))) :
    own_MetH l Z EL y bytes maxL ret ws rm as h0 Q := by
  refine MetFree.of_bodySF hpl hisR ?_
  intro p e s m args below meth c s₁ Bd hml0 hP hK
  obtain ⟨rfl, hZ, hh, hH⟩ := hP
  subst ho
  exact H p e s m below meth c s₁ Bd.notSynchronized Bd.returns Bd.exec Bd.bytes hml0 (findClass_of_methodNamed Bd.named) (name_of_methodNamed Bd.named Bd.method).1 hZ hh hH (Stand.of_body Bd) (by rw [← hh, Bd.state]; rfl)
end Own
end Jvm.RoadKit
namespace Jvm.Pilot.@@N@@
open Jvm Jvm.ClassFile Sem Op Lib Jvm.Free Jvm.Stand Jvm.LawKit Jvm.RoadKit Bundle Jvm.Pilot.@@N@@.Jvm.D
section Own
variable {t u : Term} {C n d : String} {a b : Addr} {z j : Int32} {args : Array Value} {s : State} {cl : Cell} {ty : FieldType}
theorem own_cmp_int (h : (Jvm.Cond.eq t (Term.int z)).value args s none s [] = some true) : t.eval args s none [] s = some (.int z) := by
  have e2 : (Term.int z).eval args s none [] s = some (.int z) := Term.int_eval z
  obtain ⟨u, w, f1, f2, k1, k2⟩ := cmp_v (Or.inl h)
  cases f2.symm.trans e2
  obtain ⟨q, rfl⟩ : ∃ q, u = .int q := k2
  have : (Jvm.Cond.eq t (Term.int z)).value args s none s [] = some (decide (q = z)) := by simp [Cond.value, f1, e2]
  rw [f1, gotT this h]
theorem own_fld (ht : t.eval args s none [] s = some (.ref a)) (h : (Jvm.Cond.eq (Term.field t C n d) (Term.int z)).value args s none s [] = some true) : Fld s s.heap a C n d (.int z) :=
  Fld.start ((fld_at ht).symm.trans (own_cmp_int h))
theorem own_fldR (ht : t.eval args s none [] s = some (.ref a)) (h : (Term.field t C n d).eval args s none [] s = some (.ref b)) : Fld s s.heap a C n d (.ref b) :=
  Fld.start ((fld_at ht).symm.trans h)
theorem own_len (ht : t.eval args s none [] s = some (.ref a)) (A : Arr s s.heap a cl ty) (h : (Jvm.Cond.eq (Term.length t) (Term.int z)).value args s none s [] = some true) : cl.slots.size < 2 ^ 31 ∧ cl.slots.size.toInt32 = z := by
  have e := own_cmp_int h
  have ha : s.arrayAt? a = some cl := A.fin (Vm.Alike.refl _)
  simp only [Term.eval, ht, ha, Option.bind_eq_bind, Option.bind_some] at e
  split at e
  · rename_i q
    cases e
    exact ⟨q, rfl⟩
  · cases e
theorem own_el (ht : t.eval args s none [] s = some (.ref a)) (A : Arr s s.heap a cl ty) (h : (Jvm.Cond.eq (Term.elem t (Term.int j)) (Term.int z)).value args s none s [] = some true) : cl.slots[j.toNatClampNeg]? = some (.int z) :=
  (elem_in (own_cmp_int h) ht (Term.int_eval j) A.1).2
theorem own_elR (hu : u.eval args s none [] s = some (.ref b)) (ht : t.eval args s none [] s = some (.ref a)) (A : Arr s s.heap a cl ty) (h : (Jvm.Cond.eq (Term.elem t (Term.int j)) u).value args s none s [] = some true) : cl.slots[j.toNatClampNeg]? = some (.ref b) := by
  obtain ⟨x, w, f1, f2, k1, k2⟩ := cmp_v (Or.inl h)
  cases f2.symm.trans hu
  have hx : x.isRef = true := k2.2
  have q := gotT (eq_R f1 hu hx rfl) h
  subst q
  exact (elem_in f1 ht (Term.int_eval j) A.1).2
end Own
theorem own_b8 (c : Int32) : c.toInt8.toInt32.toInt8.toInt32 = c.toInt8.toInt32 := by simp
theorem own_mask {P : Int32 → Prop} (M : Nat) (m : Int32) (hm : m.toBitVec.toNat < M) (h : ∀ k : Fin M, P (Int32.ofNat k.val)) (x : Int32) : P (x &&& m) := by
  have h1 : (x &&& m).toBitVec.toNat < M := by
    simp only [Int32.toBitVec_and, BitVec.toNat_and]
    exact Nat.lt_of_le_of_lt Nat.and_le_right hm
  have e : (x &&& m) = Int32.ofNat (x &&& m).toBitVec.toNat := by
    apply Int32.toBitVec_inj.mp
    show _ = BitVec.ofNat 32 _
    rw [BitVec.ofNat_toNat]; simp
  rw [e]
  exact h ⟨_, h1⟩
theorem own_mir {Z s : State} {C : String} {mr : Addr} {args : Array Value} (hZ : Z.Warmed39 s.vm) (M : Mir Z C mr) : (Term.mirror C).eval args s none [] s = some (.ref mr) := by
  obtain ⟨c, k, h1, h2, h3, -⟩ := M
  obtain ⟨k', q, ek⟩ := hZ.alike.2.2 _ _ h2
  have h1' : s.vm.findClass C = some c := by rw [hZ.alike.findClass]; exact h1
  have h3' : k'.mirror = some mr := by rw [ek]; exact h3
  simp [Term.eval, h1', q, h3']
theorem own_mvL {Z s : State} {a0 args : Array Value} {own host : String} {y : MethodName} {index : Nat} (hZ : Z.Warmed39 s.vm) (w : (Cond.methodLinkNest own index y host).before a0 Z = true) : (Cond.methodLinkNest own index y host).before args s = true := (Cond.methodLinkNest_wide hZ w :)
theorem own_NSroot {Z : State} {a0 : Array Value} {O K : String} {n : Nat} (w : (Cond.noSuperclass O).before a0 Z = true) (wk : (Cond.instantiable K n).before a0 Z = true) (hn : O ≠ K) : NS Z O K := by
  obtain ⟨c, k, h1, h2, h3, -, -⟩ := Cond.noSuperclass_spec w
  obtain ⟨t, k', g1, -⟩ := Cond.instantiable_spec wk
  have ne := ids_ne h1 g1 hn
  refine ⟨c, t, h1, g1, fun fuel => ?_⟩
  cases fuel with
  | zero => rfl
  | succ f => simp [Vm.isSubclassAux, ne, h2, h3]
theorem own_NSno {Z : State} {a0 : Array Value} {C S K : String} {n : Nat} (w : (Cond.superclass C S).before a0 Z = true) (wk : (Cond.instantiable K n).before a0 Z = true) (m : NS Z C K) (hn : C ≠ K) : ∃ c t, Z.vm.findClass C = some c ∧ Z.vm.findClass K = some t ∧ Z.vm.assignable c t = false := by
  obtain ⟨c, t, h0, g0, n3⟩ := m
  obtain ⟨p, k, kp, h1, h2, h3, h4, h5, -, h7⟩ := Cond.superclass_spec h0 w
  obtain ⟨t', k', g1, g2, g5, g6, -⟩ := Cond.instantiable_spec wk
  cases g0.symm.trans g1
  have g7 : k'.isInterface = false := by cases hi : k'.isInterface <;> simp_all
  have ne := ids_ne h0 g0 hn
  refine ⟨c, t, h0, g0, ?_⟩
  show Z.vm.assignableAux (255 + 1) c t = false
  simp [Vm.assignableAux, ne, h2, g2, h5, g5, g7, Vm.isSubclass, n3]

def own_Fac (Z : State) (ue : Addr) (ude : Addr) (kde : ClassId) (uel : Addr) (uem : Addr) (kem : ClassId) (uemp : Addr) (urec : Addr) (umi : Addr) : Prop := Sta Z Z.heap "com/example/grantfold/grantfold/model/Scope" "EVERY_RECORD" "Lcom/example/grantfold/grantfold/model/Scope;" (.ref ue) ∧ Exa Z Z.heap ue "com/example/grantfold/grantfold/model/Scope" ∧ Sta Z Z.heap "java/util/ArrayList" "DEFAULTCAPACITY_EMPTY_ELEMENTDATA" "[Ljava/lang/Object;" (.ref ude) ∧ Arv Z Z.heap ude kde (.object "java/lang/Object") (0 : Int32) [] .null ∧ Sta Z Z.heap "java/util/ImmutableCollections" "EMPTY_LIST" "Ljava/util/ImmutableCollections$ListN;" (.ref uel) ∧ Exa Z Z.heap uel "java/util/ImmutableCollections$ListN" ∧ Fld Z Z.heap uel "java/util/ImmutableCollections$ListN" "elements" "[Ljava/lang/Object;" (.ref uem) ∧ Arv Z Z.heap uem kem (.object "java/lang/Object") (0 : Int32) [] .null ∧ Sta Z Z.heap "java/util/ImmutableCollections" "EMPTY" "Ljava/lang/Object;" (.ref uemp) ∧ Exa Z Z.heap uemp "java/lang/Object" ∧ Sta Z Z.heap "com/example/grantfold/grantfold/model/Setting" "EVERY_RECORD" "Ljava/util/List;" (.ref urec) ∧ Exa Z Z.heap urec "java/util/ImmutableCollections$List12" ∧ Fld Z Z.heap urec "java/util/ImmutableCollections$List12" "e1" "Ljava/lang/Object;" (.ref uemp) ∧ Fld Z Z.heap urec "java/util/ImmutableCollections$List12" "e0" "Ljava/lang/Object;" (.ref ue) ∧ Mir Z "[Ljava/lang/Object;" umi
def Q_abc (Z : State) (ua : Addr) (h0 : Heap) (n0 : Nat) (v : Option Value) (h : Heap) (L : List Loc) : Prop := v = none ∧ Fr n0 L ∧ h = h0
theorem ef_abc (m : MethodId) (ua : Addr) : entryFrame m #[(.ref ua)] 1 = mkF m 0 #[.val (.ref ua)] [] := by first | (simp [entryFrame, mkF, argsToLocals, Value.category]; done) | rfl
theorem pn_0 : plainName "java/util/AbstractCollection" = true := by first | (simp [plainName, overriddenIn]; done) | decide +kernel
theorem d_j22_1_0 : decode jdk_22_method_1_code 0 = .ok (.aload_n 0, 1) := by decide +kernel
theorem w_18 {Z : State} {a0 : Array Value} (hw : ∀ d ∈ tables_1, d.before a0 Z = true) : (Jvm.Cond.methodLink "java/util/AbstractCollection" (1 : Nat) ({ cls := "java/lang/Object", name := "<init>", desc := "()V" } : Jvm.MethodName)).before a0 Z = true := hw _ (List.mem_of_getElem? (i := 18) rfl)
theorem w_20 {Z : State} {a0 : Array Value} (hw : ∀ d ∈ tables_1, d.before a0 Z = true) : (Jvm.Cond.code ({ cls := "java/lang/Object", name := "<init>", desc := "()V" } : Jvm.MethodName) object_method_1_code (1 : Nat) (Option.none : Option Jvm.ClassFile.FieldType)).before a0 Z = true := hw _ (List.mem_of_getElem? (i := 20) rfl)
theorem w_19 {Z : State} {a0 : Array Value} (hw : ∀ d ∈ tables_1, d.before a0 Z = true) : (Jvm.Cond.instanceMethod ({ cls := "java/lang/Object", name := "<init>", desc := "()V" } : Jvm.MethodName)).before a0 Z = true := hw _ (List.mem_of_getElem? (i := 19) rfl)
theorem d_j22_1_1 : decode jdk_22_method_1_code 1 = .ok (.invokespecial 1, 3) := by decide +kernel
theorem d_j22_1_4 : decode jdk_22_method_1_code 4 = .ok (.return_, 1) := by decide +kernel
set_option maxRecDepth 65536 in
set_option maxHeartbeats 40000000 in
theorem rm_abc (l : Launch) (Z : State) (a0 : Array Value) (hw : ∀ d ∈ tables_1, d.before a0 Z = true) (ws : List Jvm.Cond) (ua : Addr) (h0 : Heap) (n0 : Nat) (Z0 : n0 ≤ h0.size) :
    own_Met l Z (⟨"java/util/AbstractCollection", "<init>", "()V"⟩ : MethodName) jdk_22_method_1_code 1 none ws ({ frames := 1, cells := 0, slots := 0, locals := 12 } : Room) #[(.ref ua)] h0 (Q_abc Z ua h0 n0) := by
  refine own_enter (own := "java/util/AbstractCollection") (plainFor_of_name pn_0) rfl ?_
  intro p e s m below meth c s₁ hlk hret hx hby hml hown hnm hZ X0 e0
  have N0 := Fr.nil n0
  refine own_cast (ef_abc m ua) ?_
  show own_Go _ _ _ _ (s₁.setTop (mkF m 0 #[.val (.ref ua)] []))
  refine own_go (fun t k => XS.aloadN X0.here hx rfl (hb hby d_j22_1_0) rfl rfl k) ?_
  show own_Go _ _ _ _ (s₁.setTop (mkF m 1 #[.val (.ref ua)] [(.ref ua)]))
  obtain ⟨T101, X101, e101, st101⟩ := initO X0 hx hZ hown (w_18 hw) (w_19 hw) (w_20 hw) e0 (g := (mkF m 1 #[.val (.ref ua)] [(.ref ua)])) rfl (by rw [hml]; rfl) rfl (hb hby d_j22_1_1) (by decide) (W := 0) (by show 2 * 0 + _ ≤ _; exact Nat.le_of_eq rfl) (by decide)
  refine own_go st101 ?_
  show own_Go _ _ _ _ (T101.setTop (mkF m 4 #[.val (.ref ua)] []))
  refine own_retV X101 hx hlk hret (hb hby d_j22_1_4) ?_ (by decide) (by decide)
  rw [e101]
  exact ⟨rfl, N0, rfl⟩
def Q_aic (Z : State) (ua : Addr) (h0 : Heap) (n0 : Nat) (v : Option Value) (h : Heap) (L : List Loc) : Prop := v = none ∧ Fr n0 L ∧ h = h0
theorem ef_aic (m : MethodId) (ua : Addr) : entryFrame m #[(.ref ua)] 1 = mkF m 0 #[.val (.ref ua)] [] := by first | (simp [entryFrame, mkF, argsToLocals, Value.category]; done) | rfl
theorem pn_1 : plainName "java/util/ImmutableCollections$AbstractImmutableCollection" = true := by first | (simp [plainName, overriddenIn]; done) | decide +kernel
theorem d_j47_1_0 : decode jdk_47_method_1_code 0 = .ok (.aload_n 0, 1) := by decide +kernel
theorem w_208 {Z : State} {a0 : Array Value} (hw : ∀ d ∈ tables_1, d.before a0 Z = true) : (Jvm.Cond.methodLink "java/util/ImmutableCollections$AbstractImmutableCollection" (1 : Nat) ({ cls := "java/util/AbstractCollection", name := "<init>", desc := "()V" } : Jvm.MethodName)).before a0 Z = true := hw _ (List.mem_of_getElem? (i := 208) rfl)
theorem w_17 {Z : State} {a0 : Array Value} (hw : ∀ d ∈ tables_1, d.before a0 Z = true) : (Jvm.Cond.code ({ cls := "java/util/AbstractCollection", name := "<init>", desc := "()V" } : Jvm.MethodName) jdk_22_method_1_code (1 : Nat) (Option.none : Option Jvm.ClassFile.FieldType)).before a0 Z = true := hw _ (List.mem_of_getElem? (i := 17) rfl)
theorem w_16 {Z : State} {a0 : Array Value} (hw : ∀ d ∈ tables_1, d.before a0 Z = true) : (Jvm.Cond.initialized "java/util/AbstractCollection").before a0 Z = true := hw _ (List.mem_of_getElem? (i := 16) rfl)
theorem pd_0 : parseMethodDescriptor "()V" = some ⟨[], none⟩ := by decide +kernel
theorem d_j47_1_1 : decode jdk_47_method_1_code 1 = .ok (.invokespecial 1, 3) := by decide +kernel
theorem w_13 {Z : State} {a0 : Array Value} (hw : ∀ d ∈ tables_1, d.before a0 Z = true) : (Jvm.Cond.instanceMethod ({ cls := "java/util/AbstractCollection", name := "<init>", desc := "()V" } : Jvm.MethodName)).before a0 Z = true := hw _ (List.mem_of_getElem? (i := 13) rfl)
theorem d_j47_1_4 : decode jdk_47_method_1_code 4 = .ok (.return_, 1) := by decide +kernel
set_option maxRecDepth 65536 in
set_option maxHeartbeats 40000000 in
theorem rm_aic (l : Launch) (Z : State) (a0 : Array Value) (hw : ∀ d ∈ tables_1, d.before a0 Z = true) (ws : List Jvm.Cond) (ua : Addr) (h0 : Heap) (n0 : Nat) (Z0 : n0 ≤ h0.size) :
    own_Met l Z (⟨"java/util/ImmutableCollections$AbstractImmutableCollection", "<init>", "()V"⟩ : MethodName) jdk_47_method_1_code 1 none ws ({ frames := 2, cells := 0, slots := 0, locals := 24 } : Room) #[(.ref ua)] h0 (Q_aic Z ua h0 n0) := by
  refine own_enter (own := "java/util/ImmutableCollections$AbstractImmutableCollection") (plainFor_of_name pn_1) rfl ?_
  intro p e s m below meth c s₁ hlk hret hx hby hml hown hnm hZ X0 e0
  have N0 := Fr.nil n0
  refine own_cast (ef_aic m ua) ?_
  show own_Go _ _ _ _ (s₁.setTop (mkF m 0 #[.val (.ref ua)] []))
  refine own_go (fun t k => XS.aloadN X0.here hx rfl (hb hby d_j47_1_0) rfl rfl k) ?_
  show own_Go _ _ _ _ (s₁.setTop (mkF m 1 #[.val (.ref ua)] [(.ref ua)]))
  obtain ⟨_, _, ⟨T102, L102, k102, n102⟩, -, X102, ⟨Lc102, hQ102, l102, y102, z102⟩, st102⟩ := X0.specialBack hx (y := (⟨"java/util/AbstractCollection", "<init>", "()V"⟩ : MethodName)) rfl hown (mvT hZ (w_208 hw)) (mvT hZ (w_13 hw)) (mvT hZ (w_17 hw)) (by decide) (backOf (W := 0) (rm_abc l Z a0 hw [] ua h0 n0 Z0 ) hZ (w_17 hw) (w_16 hw) (by decide) (by decide)) (g := (mkF m 1 #[.val (.ref ua)] [(.ref ua)])) rfl (by rw [hml]; rfl) (Steps.refl _) (a := ua) (argsL := []) (rest := []) (lenOf pd_0 rfl) rfl (by show 2 * 0 + _ ≤ _; exact Nat.le_of_eq rfl) (hb hby d_j47_1_1) (fun _ _ => ⟨rfl, e0, (by decide : 0 + 0 ≤ _), (by decide : 0 + 0 ≤ _)⟩)
  dsimp only [Pt.U, Pt.locs, Pt.cells, Pt.slots] at X102 l102 y102 z102 st102 hQ102
  subst l102 y102 z102
  obtain ⟨rfl, N102q, e102⟩ := hQ102
  have N102 := Fr.app N0 N102q
  refine own_go (fun t k => st102.trans k) ?_
  show own_Go _ _ _ _ (T102.setTop (mkF m 4 #[.val (.ref ua)] []))
  refine own_retV X102 hx hlk hret (hb hby d_j47_1_4) ?_ (by decide) (by decide)
  rw [e102]
  exact ⟨rfl, N102, rfl⟩
def Q_ail (Z : State) (ua : Addr) (h0 : Heap) (n0 : Nat) (v : Option Value) (h : Heap) (L : List Loc) : Prop := v = none ∧ Fr n0 L ∧ h = h0
theorem ef_ail (m : MethodId) (ua : Addr) : entryFrame m #[(.ref ua)] 1 = mkF m 0 #[.val (.ref ua)] [] := by first | (simp [entryFrame, mkF, argsToLocals, Value.category]; done) | rfl
theorem pn_2 : plainName "java/util/ImmutableCollections$AbstractImmutableList" = true := by first | (simp [plainName, overriddenIn]; done) | decide +kernel
theorem d_j46_1_0 : decode jdk_46_method_1_code 0 = .ok (.aload_n 0, 1) := by decide +kernel
theorem w_202 {Z : State} {a0 : Array Value} (hw : ∀ d ∈ tables_1, d.before a0 Z = true) : (Jvm.Cond.methodLink "java/util/ImmutableCollections$AbstractImmutableList" (1 : Nat) ({ cls := "java/util/ImmutableCollections$AbstractImmutableCollection", name := "<init>", desc := "()V" } : Jvm.MethodName)).before a0 Z = true := hw _ (List.mem_of_getElem? (i := 202) rfl)
theorem w_207 {Z : State} {a0 : Array Value} (hw : ∀ d ∈ tables_1, d.before a0 Z = true) : (Jvm.Cond.code ({ cls := "java/util/ImmutableCollections$AbstractImmutableCollection", name := "<init>", desc := "()V" } : Jvm.MethodName) jdk_47_method_1_code (1 : Nat) (Option.none : Option Jvm.ClassFile.FieldType)).before a0 Z = true := hw _ (List.mem_of_getElem? (i := 207) rfl)
theorem w_206 {Z : State} {a0 : Array Value} (hw : ∀ d ∈ tables_1, d.before a0 Z = true) : (Jvm.Cond.initialized "java/util/ImmutableCollections$AbstractImmutableCollection").before a0 Z = true := hw _ (List.mem_of_getElem? (i := 206) rfl)
theorem d_j46_1_1 : decode jdk_46_method_1_code 1 = .ok (.invokespecial 1, 3) := by decide +kernel
theorem w_203 {Z : State} {a0 : Array Value} (hw : ∀ d ∈ tables_1, d.before a0 Z = true) : (Jvm.Cond.instanceMethod ({ cls := "java/util/ImmutableCollections$AbstractImmutableCollection", name := "<init>", desc := "()V" } : Jvm.MethodName)).before a0 Z = true := hw _ (List.mem_of_getElem? (i := 203) rfl)
theorem d_j46_1_4 : decode jdk_46_method_1_code 4 = .ok (.return_, 1) := by decide +kernel
set_option maxRecDepth 65536 in
set_option maxHeartbeats 40000000 in
theorem rm_ail (l : Launch) (Z : State) (a0 : Array Value) (hw : ∀ d ∈ tables_1, d.before a0 Z = true) (ws : List Jvm.Cond) (ua : Addr) (h0 : Heap) (n0 : Nat) (Z0 : n0 ≤ h0.size) :
    own_Met l Z (⟨"java/util/ImmutableCollections$AbstractImmutableList", "<init>", "()V"⟩ : MethodName) jdk_46_method_1_code 1 none ws ({ frames := 3, cells := 0, slots := 0, locals := 36 } : Room) #[(.ref ua)] h0 (Q_ail Z ua h0 n0) := by
  refine own_enter (own := "java/util/ImmutableCollections$AbstractImmutableList") (plainFor_of_name pn_2) rfl ?_
  intro p e s m below meth c s₁ hlk hret hx hby hml hown hnm hZ X0 e0
  have N0 := Fr.nil n0
  refine own_cast (ef_ail m ua) ?_
  show own_Go _ _ _ _ (s₁.setTop (mkF m 0 #[.val (.ref ua)] []))
  refine own_go (fun t k => XS.aloadN X0.here hx rfl (hb hby d_j46_1_0) rfl rfl k) ?_
  show own_Go _ _ _ _ (s₁.setTop (mkF m 1 #[.val (.ref ua)] [(.ref ua)]))
  obtain ⟨_, _, ⟨T103, L103, k103, n103⟩, -, X103, ⟨Lc103, hQ103, l103, y103, z103⟩, st103⟩ := X0.specialBack hx (y := (⟨"java/util/ImmutableCollections$AbstractImmutableCollection", "<init>", "()V"⟩ : MethodName)) rfl hown (mvT hZ (w_202 hw)) (mvT hZ (w_203 hw)) (mvT hZ (w_207 hw)) (by decide) (backOf (W := 0) (rm_aic l Z a0 hw [] ua h0 n0 Z0 ) hZ (w_207 hw) (w_206 hw) (by decide) (by decide)) (g := (mkF m 1 #[.val (.ref ua)] [(.ref ua)])) rfl (by rw [hml]; rfl) (Steps.refl _) (a := ua) (argsL := []) (rest := []) (lenOf pd_0 rfl) rfl (by show 2 * 0 + _ ≤ _; exact Nat.le_of_eq rfl) (hb hby d_j46_1_1) (fun _ _ => ⟨rfl, e0, (by decide : 0 + 0 ≤ _), (by decide : 0 + 0 ≤ _)⟩)
  dsimp only [Pt.U, Pt.locs, Pt.cells, Pt.slots] at X103 l103 y103 z103 st103 hQ103
  subst l103 y103 z103
  obtain ⟨rfl, N103q, e103⟩ := hQ103
  have N103 := Fr.app N0 N103q
  refine own_go (fun t k => st103.trans k) ?_
  show own_Go _ _ _ _ (T103.setTop (mkF m 4 #[.val (.ref ua)] []))
  refine own_retV X103 hx hlk hret (hb hby d_j46_1_4) ?_ (by decide) (by decide)
  rw [e103]
  exact ⟨rfl, N103, rfl⟩
def Q_rec (Z : State) (ua : Addr) (h0 : Heap) (n0 : Nat) (v : Option Value) (h : Heap) (L : List Loc) : Prop := v = none ∧ Fr n0 L ∧ h = h0
theorem ef_rec (m : MethodId) (ua : Addr) : entryFrame m #[(.ref ua)] 1 = mkF m 0 #[.val (.ref ua)] [] := by first | (simp [entryFrame, mkF, argsToLocals, Value.category]; done) | rfl
theorem pn_3 : plainName "java/lang/Record" = true := by first | (simp [plainName, overriddenIn]; done) | decide +kernel
theorem d_j30_1_0 : decode jdk_30_method_1_code 0 = .ok (.aload_n 0, 1) := by decide +kernel
theorem w_37 {Z : State} {a0 : Array Value} (hw : ∀ d ∈ tables_1, d.before a0 Z = true) : (Jvm.Cond.methodLink "java/lang/Record" (1 : Nat) ({ cls := "java/lang/Object", name := "<init>", desc := "()V" } : Jvm.MethodName)).before a0 Z = true := hw _ (List.mem_of_getElem? (i := 37) rfl)
theorem d_j30_1_1 : decode jdk_30_method_1_code 1 = .ok (.invokespecial 1, 3) := by decide +kernel
theorem d_j30_1_4 : decode jdk_30_method_1_code 4 = .ok (.return_, 1) := by decide +kernel
set_option maxRecDepth 65536 in
set_option maxHeartbeats 40000000 in
theorem rm_rec (l : Launch) (Z : State) (a0 : Array Value) (hw : ∀ d ∈ tables_1, d.before a0 Z = true) (ws : List Jvm.Cond) (ua : Addr) (h0 : Heap) (n0 : Nat) (Z0 : n0 ≤ h0.size) :
    own_Met l Z (⟨"java/lang/Record", "<init>", "()V"⟩ : MethodName) jdk_30_method_1_code 1 none ws ({ frames := 1, cells := 0, slots := 0, locals := 12 } : Room) #[(.ref ua)] h0 (Q_rec Z ua h0 n0) := by
  refine own_enter (own := "java/lang/Record") (plainFor_of_name pn_3) rfl ?_
  intro p e s m below meth c s₁ hlk hret hx hby hml hown hnm hZ X0 e0
  have N0 := Fr.nil n0
  refine own_cast (ef_rec m ua) ?_
  show own_Go _ _ _ _ (s₁.setTop (mkF m 0 #[.val (.ref ua)] []))
  refine own_go (fun t k => XS.aloadN X0.here hx rfl (hb hby d_j30_1_0) rfl rfl k) ?_
  show own_Go _ _ _ _ (s₁.setTop (mkF m 1 #[.val (.ref ua)] [(.ref ua)]))
  obtain ⟨T104, X104, e104, st104⟩ := initO X0 hx hZ hown (w_37 hw) (w_19 hw) (w_20 hw) e0 (g := (mkF m 1 #[.val (.ref ua)] [(.ref ua)])) rfl (by rw [hml]; rfl) rfl (hb hby d_j30_1_1) (by decide) (W := 0) (by show 2 * 0 + _ ≤ _; exact Nat.le_of_eq rfl) (by decide)
  refine own_go st104 ?_
  show own_Go _ _ _ _ (T104.setTop (mkF m 4 #[.val (.ref ua)] []))
  refine own_retV X104 hx hlk hret (hb hby d_j30_1_4) ?_ (by decide) (by decide)
  rw [e104]
  exact ⟨rfl, N0, rfl⟩
def Q_rnn (Z : State) (ua : Addr) (h0 : Heap) (n0 : Nat) (v : Option Value) (h : Heap) (L : List Loc) : Prop := v = some (.ref ua) ∧ Fr n0 L ∧ h = h0
theorem ef_rnn (m : MethodId) (ua : Addr) : entryFrame m #[(.ref ua)] 1 = mkF m 0 #[.val (.ref ua)] [] := by first | (simp [entryFrame, mkF, argsToLocals, Value.category]; done) | rfl
theorem pn_4 : plainName "java/util/Objects" = true := by first | (simp [plainName, overriddenIn]; done) | decide +kernel
theorem d_j31_10_0 : decode jdk_31_method_10_code 0 = .ok (.aload_n 0, 1) := by decide +kernel
theorem d_j31_10_1 : decode jdk_31_method_10_code 1 = .ok (.ifnonnull 11, 3) := by decide +kernel
theorem d_j31_10_12 : decode jdk_31_method_10_code 12 = .ok (.aload_n 0, 1) := by decide +kernel
theorem d_j31_10_13 : decode jdk_31_method_10_code 13 = .ok (.areturn, 1) := by decide +kernel
set_option maxRecDepth 65536 in
set_option maxHeartbeats 40000000 in
theorem rm_rnn (l : Launch) (Z : State) (a0 : Array Value) (hw : ∀ d ∈ tables_1, d.before a0 Z = true) (ws : List Jvm.Cond) (ua : Addr) (h0 : Heap) (n0 : Nat) (Z0 : n0 ≤ h0.size) :
    own_Met l Z (⟨"java/util/Objects", "requireNonNull", "(Ljava/lang/Object;)Ljava/lang/Object;"⟩ : MethodName) jdk_31_method_10_code 1 (some (.object "java/lang/Object")) ws ({ frames := 0, cells := 0, slots := 0, locals := 0 } : Room) #[(.ref ua)] h0 (Q_rnn Z ua h0 n0) := by
  refine own_enter (own := "java/util/Objects") (plainFor_of_name pn_4) rfl ?_
  intro p e s m below meth c s₁ hlk hret hx hby hml hown hnm hZ X0 e0
  have N0 := Fr.nil n0
  refine own_cast (ef_rnn m ua) ?_
  show own_Go _ _ _ _ (s₁.setTop (mkF m 0 #[.val (.ref ua)] []))
  refine own_go (fun t k => XS.aloadN X0.here hx rfl (hb hby d_j31_10_0) rfl rfl k) ?_
  show own_Go _ _ _ _ (s₁.setTop (mkF m 1 #[.val (.ref ua)] [(.ref ua)]))
  refine own_go (fun t k => XS.ifnonnullYes X0.here hx rfl (pc0 := 1) (pc' := 12) rfl (hb hby d_j31_10_1) rfl (by decide) (by decide) k) ?_
  show own_Go _ _ _ _ (s₁.setTop (mkF m 12 #[.val (.ref ua)] []))
  refine own_go (fun t k => XS.aloadN X0.here hx rfl (hb hby d_j31_10_12) rfl rfl k) ?_
  show own_Go _ _ _ _ (s₁.setTop (mkF m 13 #[.val (.ref ua)] [(.ref ua)]))
  refine own_ret X0 hx hlk hret rfl (Or.inr (Or.inr (Or.inr (Or.inr ⟨rfl, rfl, rfl⟩)))) (hb hby d_j31_10_13) ?_ (by decide) (by decide)
  rw [e0]
  exact ⟨rfl, N0, rfl⟩
def Q_abl (Z : State) (ua : Addr) (h0 : Heap) (n0 : Nat) (v : Option Value) (h : Heap) (L : List Loc) : Prop := v = none ∧ Fr n0 L ∧ Keep h0 h [ua] ∧ Fld Z h ua "java/util/AbstractList" "modCount" "I" (.int (0 : Int32)) ∧ Fld Z h ua "java/util/ArrayList" "elementData" "[Ljava/lang/Object;" .null ∧ Fld Z h ua "java/util/ArrayList" "size" "I" (.int (0 : Int32))
theorem ef_abl (m : MethodId) (ua : Addr) : entryFrame m #[(.ref ua)] 1 = mkF m 0 #[.val (.ref ua)] [] := by first | (simp [entryFrame, mkF, argsToLocals, Value.category]; done) | rfl
theorem pn_5 : plainName "java/util/AbstractList" = true := by first | (simp [plainName, overriddenIn]; done) | decide +kernel
theorem d_j39_1_0 : decode jdk_39_method_1_code 0 = .ok (.aload_n 0, 1) := by decide +kernel
theorem w_12 {Z : State} {a0 : Array Value} (hw : ∀ d ∈ tables_1, d.before a0 Z = true) : (Jvm.Cond.methodLink "java/util/AbstractList" (1 : Nat) ({ cls := "java/util/AbstractCollection", name := "<init>", desc := "()V" } : Jvm.MethodName)).before a0 Z = true := hw _ (List.mem_of_getElem? (i := 12) rfl)
theorem d_j39_1_1 : decode jdk_39_method_1_code 1 = .ok (.invokespecial 1, 3) := by decide +kernel
theorem d_j39_1_4 : decode jdk_39_method_1_code 4 = .ok (.aload_n 0, 1) := by decide +kernel
theorem d_j39_1_5 : decode jdk_39_method_1_code 5 = .ok (.iconst 0, 1) := by decide +kernel
theorem w_21 {Z : State} {a0 : Array Value} (hw : ∀ d ∈ tables_1, d.before a0 Z = true) : (Jvm.Cond.fieldLink "java/util/AbstractList" (7 : Nat) "java/util/AbstractList" "modCount" "I").before a0 Z = true := hw _ (List.mem_of_getElem? (i := 21) rfl)
theorem w_1 {Z : State} {a0 : Array Value} (hw : ∀ d ∈ tables_1, d.before a0 Z = true) : (Jvm.Cond.instantiable "java/util/ArrayList" (3 : Nat)).before a0 Z = true := hw _ (List.mem_of_getElem? (i := 1) rfl)
theorem w_22 {Z : State} {a0 : Array Value} (hw : ∀ d ∈ tables_1, d.before a0 Z = true) : (Jvm.Cond.lays "java/util/ArrayList" "java/util/AbstractList" "modCount" "I").before a0 Z = true := hw _ (List.mem_of_getElem? (i := 22) rfl)
theorem d_j39_1_6 : decode jdk_39_method_1_code 6 = .ok (.putfield 7, 3) := by decide +kernel
theorem w_25 {Z : State} {a0 : Array Value} (hw : ∀ d ∈ tables_1, d.before a0 Z = true) : (Jvm.Cond.lays "java/util/ArrayList" "java/util/ArrayList" "elementData" "[Ljava/lang/Object;").before a0 Z = true := hw _ (List.mem_of_getElem? (i := 25) rfl)
theorem w_62 {Z : State} {a0 : Array Value} (hw : ∀ d ∈ tables_1, d.before a0 Z = true) : (Jvm.Cond.lays "java/util/ArrayList" "java/util/ArrayList" "size" "I").before a0 Z = true := hw _ (List.mem_of_getElem? (i := 62) rfl)
theorem d_j39_1_9 : decode jdk_39_method_1_code 9 = .ok (.return_, 1) := by decide +kernel
set_option maxRecDepth 65536 in
set_option maxHeartbeats 40000000 in
theorem rm_abl (l : Launch) (Z : State) (a0 : Array Value) (hw : ∀ d ∈ tables_1, d.before a0 Z = true) (ws : List Jvm.Cond) (ua : Addr) (h0 : Heap) (n0 : Nat) (Z0 : n0 ≤ h0.size) (q0 : n0 ≤ ua) (E0 : Exa Z h0 ua "java/util/ArrayList") (F0 : Fld Z h0 ua "java/util/AbstractList" "modCount" "I" (.int (0 : Int32))) (F1 : Fld Z h0 ua "java/util/ArrayList" "elementData" "[Ljava/lang/Object;" .null) (F2 : Fld Z h0 ua "java/util/ArrayList" "size" "I" (.int (0 : Int32))) :
    own_Met l Z (⟨"java/util/AbstractList", "<init>", "()V"⟩ : MethodName) jdk_39_method_1_code 1 none ws ({ frames := 2, cells := 0, slots := 0, locals := 24 } : Room) #[(.ref ua)] h0 (Q_abl Z ua h0 n0) := by
  refine own_enter (own := "java/util/AbstractList") (plainFor_of_name pn_5) rfl ?_
  intro p e s m below meth c s₁ hlk hret hx hby hml hown hnm hZ X0 e0
  have N0 := Fr.nil n0
  refine own_cast (ef_abl m ua) ?_
  show own_Go _ _ _ _ (s₁.setTop (mkF m 0 #[.val (.ref ua)] []))
  refine own_go (fun t k => XS.aloadN X0.here hx rfl (hb hby d_j39_1_0) rfl rfl k) ?_
  show own_Go _ _ _ _ (s₁.setTop (mkF m 1 #[.val (.ref ua)] [(.ref ua)]))
  obtain ⟨_, _, ⟨T105, L105, k105, n105⟩, -, X105, ⟨Lc105, hQ105, l105, y105, z105⟩, st105⟩ := X0.specialBack hx (y := (⟨"java/util/AbstractCollection", "<init>", "()V"⟩ : MethodName)) rfl hown (mvT hZ (w_12 hw)) (mvT hZ (w_13 hw)) (mvT hZ (w_17 hw)) (by decide) (backOf (W := 0) (rm_abc l Z a0 hw [] ua h0 n0 Z0 ) hZ (w_17 hw) (w_16 hw) (by decide) (by decide)) (g := (mkF m 1 #[.val (.ref ua)] [(.ref ua)])) rfl (by rw [hml]; rfl) (Steps.refl _) (a := ua) (argsL := []) (rest := []) (lenOf pd_0 rfl) rfl (by show 2 * 0 + _ ≤ _; exact Nat.le_of_eq rfl) (hb hby d_j39_1_1) (fun _ _ => ⟨rfl, e0, (by decide : 0 + 0 ≤ _), (by decide : 0 + 0 ≤ _)⟩)
  dsimp only [Pt.U, Pt.locs, Pt.cells, Pt.slots] at X105 l105 y105 z105 st105 hQ105
  subst l105 y105 z105
  obtain ⟨rfl, N105q, e105⟩ := hQ105
  have N105 := Fr.app N0 N105q
  refine own_go (fun t k => st105.trans k) ?_
  show own_Go _ _ _ _ (T105.setTop (mkF m 4 #[.val (.ref ua)] []))
  refine own_go (fun t k => XS.aloadN X105.here hx rfl (hb hby d_j39_1_4) rfl rfl k) ?_
  show own_Go _ _ _ _ (T105.setTop (mkF m 5 #[.val (.ref ua)] [(.ref ua)]))
  refine own_go (fun t k => XS.iconst X105.here hx rfl (hb hby d_j39_1_5) k) ?_
  show own_Go _ _ _ _ (T105.setTop (mkF m 6 #[.val (.ref ua)] [(.int (0 : Int32)), (.ref ua)]))
  obtain ⟨T106, h106, X106, e106, W106, st106⟩ := putF X105 hx hZ hown (host := "") (Or.inl (w_21 hw)) Via.refl e105 F0 E0 (Or.inl (w_22 hw)) (w_1 hw) (ty := .int) (by decide) rfl rfl (g := (mkF m 6 #[.val (.ref ua)] [(.int (0 : Int32)), (.ref ua)])) rfl rfl (hb hby d_j39_1_6)
  refine own_go st106 ?_
  have F106 := F0.same W106
  have Z106 : n0 ≤ h106.size := (Nat.le_trans Z0 (Nat.le_of_eq W106.size.symm))
  have N106 := Fr.snoc X106 N105 q0
  have K106 : Keep h0 h106 [ua] := (Keep.refl h0 [ua]).wr W106 (Or.inl (List.mem_of_getElem? (i := 0) rfl))
  have f107 := (F1.other W106 (Or.inr (slot_ne (Or.inl (w_25 hw)) (Or.inl (w_22 hw)) (by decide) (t := (.array (.object "java/lang/Object"))) (t' := .int) (by decide) (by decide))))
  have f108 := (F2.other W106 (Or.inr (slot_ne (Or.inl (w_62 hw)) (Or.inl (w_22 hw)) (by decide) (t := .int) (t' := .int) (by decide) (by decide))))
  show own_Go _ _ _ _ (T106.setTop (mkF m 9 #[.val (.ref ua)] []))
  refine own_retV X106 hx hlk hret (hb hby d_j39_1_9) ?_ (by decide) (by decide)
  rw [e106]
  exact ⟨rfl, N106, K106, F106, f107, f108⟩
def Q_ali (Z : State) (ua : Addr) (ue : Addr) (ude : Addr) (kde : ClassId) (uel : Addr) (uem : Addr) (kem : ClassId) (uemp : Addr) (urec : Addr) (umi : Addr) (h0 : Heap) (n0 : Nat) (v : Option Value) (h : Heap) (L : List Loc) : Prop := v = none ∧ Fr n0 L ∧ Keep h0 h [ua] ∧ Fld Z h ua "java/util/AbstractList" "modCount" "I" (.int (0 : Int32)) ∧ Fld Z h ua "java/util/ArrayList" "elementData" "[Ljava/lang/Object;" (.ref ude) ∧ Fld Z h ua "java/util/ArrayList" "size" "I" (.int (0 : Int32))
theorem ef_ali (m : MethodId) (ua : Addr) : entryFrame m #[(.ref ua)] 1 = mkF m 0 #[.val (.ref ua)] [] := by first | (simp [entryFrame, mkF, argsToLocals, Value.category]; done) | rfl
theorem pn_6 : plainName "java/util/ArrayList" = true := by first | (simp [plainName, overriddenIn]; done) | decide +kernel
theorem d_j38_2_0 : decode jdk_38_method_2_code 0 = .ok (.aload_n 0, 1) := by decide +kernel
theorem w_6 {Z : State} {a0 : Array Value} (hw : ∀ d ∈ tables_1, d.before a0 Z = true) : (Jvm.Cond.methodLink "java/util/ArrayList" (1 : Nat) ({ cls := "java/util/AbstractList", name := "<init>", desc := "()V" } : Jvm.MethodName)).before a0 Z = true := hw _ (List.mem_of_getElem? (i := 6) rfl)
theorem w_11 {Z : State} {a0 : Array Value} (hw : ∀ d ∈ tables_1, d.before a0 Z = true) : (Jvm.Cond.code ({ cls := "java/util/AbstractList", name := "<init>", desc := "()V" } : Jvm.MethodName) jdk_39_method_1_code (1 : Nat) (Option.none : Option Jvm.ClassFile.FieldType)).before a0 Z = true := hw _ (List.mem_of_getElem? (i := 11) rfl)
theorem w_10 {Z : State} {a0 : Array Value} (hw : ∀ d ∈ tables_1, d.before a0 Z = true) : (Jvm.Cond.initialized "java/util/AbstractList").before a0 Z = true := hw _ (List.mem_of_getElem? (i := 10) rfl)
theorem d_j38_2_1 : decode jdk_38_method_2_code 1 = .ok (.invokespecial 1, 3) := by decide +kernel
theorem w_7 {Z : State} {a0 : Array Value} (hw : ∀ d ∈ tables_1, d.before a0 Z = true) : (Jvm.Cond.instanceMethod ({ cls := "java/util/AbstractList", name := "<init>", desc := "()V" } : Jvm.MethodName)).before a0 Z = true := hw _ (List.mem_of_getElem? (i := 7) rfl)
theorem d_j38_2_4 : decode jdk_38_method_2_code 4 = .ok (.aload_n 0, 1) := by decide +kernel
theorem w_23 {Z : State} {a0 : Array Value} (hw : ∀ d ∈ tables_1, d.before a0 Z = true) : (Jvm.Cond.fieldLink "java/util/ArrayList" (39 : Nat) "java/util/ArrayList" "DEFAULTCAPACITY_EMPTY_ELEMENTDATA" "[Ljava/lang/Object;").before a0 Z = true := hw _ (List.mem_of_getElem? (i := 23) rfl)
theorem d_j38_2_5 : decode jdk_38_method_2_code 5 = .ok (.getstatic 39, 3) := by decide +kernel
theorem w_24 {Z : State} {a0 : Array Value} (hw : ∀ d ∈ tables_1, d.before a0 Z = true) : (Jvm.Cond.fieldLink "java/util/ArrayList" (9 : Nat) "java/util/ArrayList" "elementData" "[Ljava/lang/Object;").before a0 Z = true := hw _ (List.mem_of_getElem? (i := 24) rfl)
theorem d_j38_2_8 : decode jdk_38_method_2_code 8 = .ok (.putfield 9, 3) := by decide +kernel
theorem d_j38_2_11 : decode jdk_38_method_2_code 11 = .ok (.return_, 1) := by decide +kernel
set_option maxRecDepth 65536 in
set_option maxHeartbeats 40000000 in
theorem rm_ali (l : Launch) (Z : State) (a0 : Array Value) (hw : ∀ d ∈ tables_1, d.before a0 Z = true) (ws : List Jvm.Cond) (ua ue ude : Addr) (kde : ClassId) (uel uem : Addr) (kem : ClassId) (uemp urec umi : Addr) (h0 : Heap) (n0 : Nat) (Z0 : n0 ≤ h0.size) (q0 : n0 ≤ ua) (E0 : Exa Z h0 ua "java/util/ArrayList") (F0 : Fld Z h0 ua "java/util/AbstractList" "modCount" "I" (.int (0 : Int32))) (F1 : Fld Z h0 ua "java/util/ArrayList" "elementData" "[Ljava/lang/Object;" .null) (F2 : Fld Z h0 ua "java/util/ArrayList" "size" "I" (.int (0 : Int32))) (O0 : Old Z n0 h0) (hF : own_Fac Z ue ude kde uel uem kem uemp urec umi) :
    own_Met l Z (⟨"java/util/ArrayList", "<init>", "()V"⟩ : MethodName) jdk_38_method_2_code 1 none ws ({ frames := 3, cells := 0, slots := 0, locals := 36 } : Room) #[(.ref ua)] h0 (Q_ali Z ua ue ude kde uel uem kem uemp urec umi h0 n0) := by
  refine own_enter (own := "java/util/ArrayList") (plainFor_of_name pn_6) rfl ?_
  intro p e s m below meth c s₁ hlk hret hx hby hml hown hnm hZ X0 e0
  have N0 := Fr.nil n0
  refine own_cast (ef_ali m ua) ?_
  obtain ⟨Se, Ee, Sd, Ad, Sl, El, Fl, Am, Sm, Em, Sr, Er, Fr1, Fr0, Mi⟩ := id hF
  show own_Go _ _ _ _ (s₁.setTop (mkF m 0 #[.val (.ref ua)] []))
  refine own_go (fun t k => XS.aloadN X0.here hx rfl (hb hby d_j38_2_0) rfl rfl k) ?_
  show own_Go _ _ _ _ (s₁.setTop (mkF m 1 #[.val (.ref ua)] [(.ref ua)]))
  obtain ⟨_, _, ⟨T109, L109, k109, n109⟩, -, X109, ⟨Lc109, hQ109, l109, y109, z109⟩, st109⟩ := X0.specialBack hx (y := (⟨"java/util/AbstractList", "<init>", "()V"⟩ : MethodName)) rfl hown (mvT hZ (w_6 hw)) (mvT hZ (w_7 hw)) (mvT hZ (w_11 hw)) (by decide) (backOf (W := 0) (rm_abl l Z a0 hw [] ua h0 n0 Z0 q0 E0 F0 F1 F2) hZ (w_11 hw) (w_10 hw) (by decide) (by decide)) (g := (mkF m 1 #[.val (.ref ua)] [(.ref ua)])) rfl (by rw [hml]; rfl) (Steps.refl _) (a := ua) (argsL := []) (rest := []) (lenOf pd_0 rfl) rfl (by show 2 * 0 + _ ≤ _; exact Nat.le_of_eq rfl) (hb hby d_j38_2_1) (fun _ _ => ⟨rfl, e0, (by decide : 0 + 0 ≤ _), (by decide : 0 + 0 ≤ _)⟩)
  dsimp only [Pt.U, Pt.locs, Pt.cells, Pt.slots] at X109 l109 y109 z109 st109 hQ109
  subst l109 y109 z109
  generalize e109 : T109.heap = h109 at hQ109
  obtain ⟨rfl, N109q, K109q, Fa109, Fb109, Fc109⟩ := hQ109
  have N109 := Fr.app N0 N109q
  refine own_go (fun t k => st109.trans k) ?_
  have Z109 : n0 ≤ h109.size := (Nat.le_trans Z0 K109q.1)
  have K109 : Keep h0 h109 [ua] := (Keep.refl h0 [ua]).trans K109q (allS (Or.inl (List.mem_of_getElem? (i := 0) rfl)) all0)
  show own_Go _ _ _ _ (T109.setTop (mkF m 4 #[.val (.ref ua)] []))
  refine own_go (fun t k => XS.aloadN X109.here hx rfl (hb hby d_j38_2_4) rfl rfl k) ?_
  show own_Go _ _ _ _ (T109.setTop (mkF m 5 #[.val (.ref ua)] [(.ref ua)]))
  obtain ⟨T110, X110, e110, st110⟩ := getS2 X109 hx hZ hown (host := "") (Or.inl (w_23 hw)) Via.refl e109 (Sd.ext (O0.keep K109q (allS q0 all0)).2) (g := (mkF m 5 #[.val (.ref ua)] [(.ref ua)])) rfl (hb hby d_j38_2_5)
  refine own_go st110 ?_
  show own_Go _ _ _ _ (T110.setTop (mkF m 8 #[.val (.ref ua)] [(.ref ude), (.ref ua)]))
  obtain ⟨T111, h111, X111, e111, W111, st111⟩ := putF X110 hx hZ hown (host := "") (Or.inl (w_24 hw)) Via.refl e110 Fb109 (E0.keep K109q) (Or.inl (w_25 hw)) (w_1 hw) (ty := (.array (.object "java/lang/Object"))) (by decide) rfl rfl (g := (mkF m 8 #[.val (.ref ua)] [(.ref ude), (.ref ua)])) rfl rfl (hb hby d_j38_2_8)
  refine own_go st111 ?_
  have F111 := Fb109.same W111
  have Z111 : n0 ≤ h111.size := (Nat.le_trans Z109 (Nat.le_of_eq W111.size.symm))
  have N111 := Fr.snoc X111 N109 q0
  have K111 : Keep h0 h111 [ua] := K109.wr W111 (Or.inl (List.mem_of_getElem? (i := 0) rfl))
  have f112 := (Fa109.other W111 (Or.inr (slot_ne (Or.inl (w_22 hw)) (Or.inl (w_25 hw)) (by decide) (t := .int) (t' := (.array (.object "java/lang/Object"))) (by decide) (by decide))))
  have f113 := (Fc109.other W111 (Or.inr (slot_ne (Or.inl (w_62 hw)) (Or.inl (w_25 hw)) (by decide) (t := .int) (t' := (.array (.object "java/lang/Object"))) (by decide) (by decide))))
  show own_Go _ _ _ _ (T111.setTop (mkF m 11 #[.val (.ref ua)] []))
  refine own_retV X111 hx hlk hret (hb hby d_j38_2_11) ?_ (by decide) (by decide)
  rw [e111]
  exact ⟨rfl, N111, K111, f112, F111, f113⟩
def Q_max (Z : State)  (h0 : Heap) (n0 : Nat) (v : Option Value) (h : Heap) (L : List Loc) : Prop := v = some (.int 10) ∧ Fr n0 L ∧ h = h0
theorem ef_max (m : MethodId)  : entryFrame m #[(.int (10 : Int32)), (.int (1 : Int32))] 2 = mkF m 0 #[.val (.int (10 : Int32)), .val (.int (1 : Int32))] [] := by first | (simp [entryFrame, mkF, argsToLocals, Value.category]; done) | rfl
theorem d_j29_65_0 : decode jdk_29_method_65_code 0 = .ok (.iload_n 0, 1) := by decide +kernel
theorem d_j29_65_1 : decode jdk_29_method_65_code 1 = .ok (.iload_n 1, 1) := by decide +kernel
theorem d_j29_65_2 : decode jdk_29_method_65_code 2 = .ok (.if_icmp .lt 7, 3) := by decide +kernel
theorem d_j29_65_5 : decode jdk_29_method_65_code 5 = .ok (.iload_n 0, 1) := by decide +kernel
theorem d_j29_65_6 : decode jdk_29_method_65_code 6 = .ok (.goto 4, 3) := by decide +kernel
theorem d_j29_65_10 : decode jdk_29_method_65_code 10 = .ok (.ireturn, 1) := by decide +kernel
set_option maxRecDepth 65536 in
set_option maxHeartbeats 40000000 in
theorem rm_max (l : Launch) (Z : State) (a0 : Array Value) (hw : ∀ d ∈ tables_1, d.before a0 Z = true) (ws : List Jvm.Cond)  (h0 : Heap) (n0 : Nat) (Z0 : n0 ≤ h0.size) :
    own_Met l Z (⟨"java/lang/Math", "max", "(II)I"⟩ : MethodName) jdk_29_method_65_code 2 (some .int) ws ({ frames := 0, cells := 0, slots := 0, locals := 0 } : Room) #[(.int (10 : Int32)), (.int (1 : Int32))] h0 (Q_max Z  h0 n0) := by
  refine own_enter (own := "java/lang/Math") (Jvm.Free.JP.mathPlain rfl (by decide +kernel)) rfl ?_
  intro p e s m below meth c s₁ hlk hret hx hby hml hown hnm hZ X0 e0
  have N0 := Fr.nil n0
  refine own_cast (ef_max m ) ?_
  show own_Go _ _ _ _ (s₁.setTop (mkF m 0 #[.val (.int (10 : Int32)), .val (.int (1 : Int32))] []))
  refine own_go (fun t k => XS.iloadN X0.here hx rfl (hb hby d_j29_65_0) rfl k) ?_
  show own_Go _ _ _ _ (s₁.setTop (mkF m 1 #[.val (.int (10 : Int32)), .val (.int (1 : Int32))] [(.int (10 : Int32))]))
  refine own_go (fun t k => XS.iloadN X0.here hx rfl (hb hby d_j29_65_1) rfl k) ?_
  show own_Go _ _ _ _ (s₁.setTop (mkF m 2 #[.val (.int (10 : Int32)), .val (.int (1 : Int32))] [(.int (1 : Int32)), (.int (10 : Int32))]))
  refine own_go (fun t k => XS.icmpNo X0.here hx rfl (hb hby d_j29_65_2) rfl (flt (by decide : ¬ ((10 : Int32) < (1 : Int32)))).1 k) ?_
  show own_Go _ _ _ _ (s₁.setTop (mkF m 5 #[.val (.int (10 : Int32)), .val (.int (1 : Int32))] []))
  refine own_go (fun t k => XS.iloadN X0.here hx rfl (hb hby d_j29_65_5) rfl k) ?_
  show own_Go _ _ _ _ (s₁.setTop (mkF m 6 #[.val (.int (10 : Int32)), .val (.int (1 : Int32))] [(.int (10 : Int32))]))
  refine own_go (fun t k => XS.goto X0.here hx rfl (pc0 := 6) (pc' := 10) rfl (hb hby d_j29_65_6) (by decide) (by decide) k) ?_
  show own_Go _ _ _ _ (s₁.setTop (mkF m 10 #[.val (.int (10 : Int32)), .val (.int (1 : Int32))] [(.int (10 : Int32))]))
  refine own_ret X0 hx hlk hret rfl (Or.inl ⟨rfl, Or.inl rfl, _, rfl⟩) (hb hby d_j29_65_10) ?_ (by decide) (by decide)
  rw [e0]
  exact ⟨rfl, N0, rfl⟩
def Q_gr1 (Z : State) (ua : Addr) (ue : Addr) (ude : Addr) (kde : ClassId) (uel : Addr) (uem : Addr) (kem : ClassId) (uemp : Addr) (urec : Addr) (umi : Addr) (h0 : Heap) (n0 : Nat) (v : Option Value) (h : Heap) (L : List Loc) : Prop := ∃ (ub : Addr) (kb : ClassId), v = some (.ref ub) ∧ Fr n0 L ∧ Keep h0 h [ua] ∧ h0.size ≤ ub ∧ n0 ≤ ub ∧ Ovr Z kb "java/lang/Object" ∧ Exa Z h ub "[Ljava/lang/Object;" ∧ Arv Z h ub kb (.object "java/lang/Object") (10 : Int32) [.null, .null, .null, .null, .null, .null, .null, .null, .null, .null] .null ∧ Fld Z h ua "java/util/AbstractList" "modCount" "I" (.int (1 : Int32)) ∧ Fld Z h ua "java/util/ArrayList" "elementData" "[Ljava/lang/Object;" (.ref ub) ∧ Fld Z h ua "java/util/ArrayList" "size" "I" (.int (0 : Int32))
theorem ef_gr1 (m : MethodId) (ua : Addr) : entryFrame m #[(.ref ua), (.int (1 : Int32))] 4 = mkF m 0 #[.val (.ref ua), .val (.int (1 : Int32)), .unset, .unset] [] := by first | (simp [entryFrame, mkF, argsToLocals, Value.category]; done) | rfl
theorem d_j38_6_0 : decode jdk_38_method_6_code 0 = .ok (.aload_n 0, 1) := by decide +kernel
theorem d_j38_6_1 : decode jdk_38_method_6_code 1 = .ok (.getfield 9, 3) := by decide +kernel
theorem d_j38_6_4 : decode jdk_38_method_6_code 4 = .ok (.arraylength, 1) := by decide +kernel
theorem d_j38_6_5 : decode jdk_38_method_6_code 5 = .ok (.istore_n 2, 1) := by decide +kernel
theorem d_j38_6_6 : decode jdk_38_method_6_code 6 = .ok (.iload_n 2, 1) := by decide +kernel
theorem d_j38_6_7 : decode jdk_38_method_6_code 7 = .ok (.ifCond .gt 13, 3) := by decide +kernel
theorem d_j38_6_10 : decode jdk_38_method_6_code 10 = .ok (.aload_n 0, 1) := by decide +kernel
theorem d_j38_6_11 : decode jdk_38_method_6_code 11 = .ok (.getfield 9, 3) := by decide +kernel
theorem d_j38_6_14 : decode jdk_38_method_6_code 14 = .ok (.getstatic 39, 3) := by decide +kernel
theorem d_j38_6_17 : decode jdk_38_method_6_code 17 = .ok (.if_acmp .eq 28, 3) := by decide +kernel
theorem d_j38_6_45 : decode jdk_38_method_6_code 45 = .ok (.aload_n 0, 1) := by decide +kernel
theorem d_j38_6_46 : decode jdk_38_method_6_code 46 = .ok (.bipush 10, 2) := by decide +kernel
theorem d_j38_6_48 : decode jdk_38_method_6_code 48 = .ok (.iload_n 1, 1) := by decide +kernel
theorem w_98 {Z : State} {a0 : Array Value} (hw : ∀ d ∈ tables_1, d.before a0 Z = true) : (Jvm.Cond.methodLink "java/util/ArrayList" (79 : Nat) ({ cls := "java/lang/Math", name := "max", desc := "(II)I" } : Jvm.MethodName)).before a0 Z = true := hw _ (List.mem_of_getElem? (i := 98) rfl)
theorem w_101 {Z : State} {a0 : Array Value} (hw : ∀ d ∈ tables_1, d.before a0 Z = true) : (Jvm.Cond.code ({ cls := "java/lang/Math", name := "max", desc := "(II)I" } : Jvm.MethodName) jdk_29_method_65_code (2 : Nat) (Option.some Jvm.ClassFile.FieldType.int)).before a0 Z = true := hw _ (List.mem_of_getElem? (i := 101) rfl)
theorem w_100 {Z : State} {a0 : Array Value} (hw : ∀ d ∈ tables_1, d.before a0 Z = true) : (Jvm.Cond.initialized "java/lang/Math").before a0 Z = true := hw _ (List.mem_of_getElem? (i := 100) rfl)
theorem pd_1 : parseMethodDescriptor "(II)I" = some ⟨[.int, .int], some .int⟩ := by decide +kernel
theorem d_j38_6_49 : decode jdk_38_method_6_code 49 = .ok (.invokestatic 79, 3) := by decide +kernel
theorem w_99 {Z : State} {a0 : Array Value} (hw : ∀ d ∈ tables_1, d.before a0 Z = true) : (Jvm.Cond.static ({ cls := "java/lang/Math", name := "max", desc := "(II)I" } : Jvm.MethodName)).before a0 Z = true := hw _ (List.mem_of_getElem? (i := 99) rfl)
theorem w_102 {Z : State} {a0 : Array Value} (hw : ∀ d ∈ tables_1, d.before a0 Z = true) : (Jvm.Cond.classLink "java/util/ArrayList" (7 : Nat) "java/lang/Object").before a0 Z = true := hw _ (List.mem_of_getElem? (i := 102) rfl)
theorem w_103 {Z : State} {a0 : Array Value} (hw : ∀ d ∈ tables_1, d.before a0 Z = true) : (Jvm.Cond.arrayOver (Jvm.ClassFile.FieldType.object "java/lang/Object")).before a0 Z = true := hw _ (List.mem_of_getElem? (i := 103) rfl)
theorem d_j38_6_52 : decode jdk_38_method_6_code 52 = .ok (.anewarray 7, 3) := by decide +kernel
theorem d_j38_6_55 : decode jdk_38_method_6_code 55 = .ok (.dup_x1, 1) := by decide +kernel
theorem d_j38_6_56 : decode jdk_38_method_6_code 56 = .ok (.putfield 9, 3) := by decide +kernel
theorem d_j38_6_59 : decode jdk_38_method_6_code 59 = .ok (.areturn, 1) := by decide +kernel
set_option maxRecDepth 65536 in
set_option maxHeartbeats 40000000 in
theorem rm_gr1 (l : Launch) (Z : State) (a0 : Array Value) (hw : ∀ d ∈ tables_1, d.before a0 Z = true) (ws : List Jvm.Cond) (ua ue ude : Addr) (kde : ClassId) (uel uem : Addr) (kem : ClassId) (uemp urec umi : Addr) (h0 : Heap) (n0 : Nat) (Z0 : n0 ≤ h0.size) (q0 : n0 ≤ ua) (E0 : Exa Z h0 ua "java/util/ArrayList") (F0 : Fld Z h0 ua "java/util/AbstractList" "modCount" "I" (.int (1 : Int32))) (F1 : Fld Z h0 ua "java/util/ArrayList" "elementData" "[Ljava/lang/Object;" (.ref ude)) (F2 : Fld Z h0 ua "java/util/ArrayList" "size" "I" (.int (0 : Int32))) (O0 : Old Z n0 h0) (hF : own_Fac Z ue ude kde uel uem kem uemp urec umi) :
    own_Met l Z (⟨"java/util/ArrayList", "grow", "(I)[Ljava/lang/Object;"⟩ : MethodName) jdk_38_method_6_code 4 (some (.array (.object "java/lang/Object"))) ws ({ frames := 1, cells := 1, slots := 10, locals := 14 } : Room) #[(.ref ua), (.int (1 : Int32))] h0 (Q_gr1 Z ua ue ude kde uel uem kem uemp urec umi h0 n0) := by
  refine own_enter (own := "java/util/ArrayList") (plainFor_of_name pn_6) rfl ?_
  intro p e s m below meth c s₁ hlk hret hx hby hml hown hnm hZ X0 e0
  have N0 := Fr.nil n0
  refine own_cast (ef_gr1 m ua) ?_
  obtain ⟨Se, Ee, Sd, Ad, Sl, El, Fl, Am, Sm, Em, Sr, Er, Fr1, Fr0, Mi⟩ := id hF
  show own_Go _ _ _ _ (s₁.setTop (mkF m 0 #[.val (.ref ua), .val (.int (1 : Int32)), .unset, .unset] []))
  refine own_go (fun t k => XS.aloadN X0.here hx rfl (hb hby d_j38_6_0) rfl rfl k) ?_
  show own_Go _ _ _ _ (s₁.setTop (mkF m 1 #[.val (.ref ua), .val (.int (1 : Int32)), .unset, .unset] [(.ref ua)]))
  obtain ⟨T114, X114, e114, st114⟩ := getF X0 hx hZ hown (host := "") (Or.inl (w_24 hw)) Via.refl e0 F1 (g := (mkF m 1 #[.val (.ref ua), .val (.int (1 : Int32)), .unset, .unset] [(.ref ua)])) rfl rfl (hb hby d_j38_6_1)
  refine own_go st114 ?_
  show own_Go _ _ _ _ (T114.setTop (mkF m 4 #[.val (.ref ua), .val (.int (1 : Int32)), .unset, .unset] [(.ref ude)]))
  obtain ⟨cl115, Ar115, qk115, sz115, nn115, ha115, gf115⟩ := id (Ad.ext O0.2)
  refine own_go (X114.arraylength hx (by rw [e114]; exact Ar115.1) (State.isArrayOf_alike hZ.alike Ar115.2.1) (g := (mkF m 4 #[.val (.ref ua), .val (.int (1 : Int32)), .unset, .unset] [(.ref ude)])) rfl rfl (hb hby d_j38_6_4)) ?_
  rw [len_of sz115 nn115]
  show own_Go _ _ _ _ (T114.setTop (mkF m 5 #[.val (.ref ua), .val (.int (1 : Int32)), .unset, .unset] [(.int (0 : Int32))]))
  refine own_go (fun t k => XS.istoreN X114.here hx rfl (hb hby d_j38_6_5) rfl (l' := #[.val (.ref ua), .val (.int (1 : Int32)), .val (.int (0 : Int32)), .unset]) rfl k) ?_
  show own_Go _ _ _ _ (T114.setTop (mkF m 6 #[.val (.ref ua), .val (.int (1 : Int32)), .val (.int (0 : Int32)), .unset] []))
  refine own_go (fun t k => XS.iloadN X114.here hx rfl (hb hby d_j38_6_6) rfl k) ?_
  show own_Go _ _ _ _ (T114.setTop (mkF m 7 #[.val (.ref ua), .val (.int (1 : Int32)), .val (.int (0 : Int32)), .unset] [(.int (0 : Int32))]))
  refine own_go (fun t k => XS.ifNo X114.here hx rfl (hb hby d_j38_6_7) rfl ((if0 _ _).trans (flt (by decide : ¬ ((0 : Int32) < (0 : Int32)))).2.2.1) k) ?_
  show own_Go _ _ _ _ (T114.setTop (mkF m 10 #[.val (.ref ua), .val (.int (1 : Int32)), .val (.int (0 : Int32)), .unset] []))
  refine own_go (fun t k => XS.aloadN X114.here hx rfl (hb hby d_j38_6_10) rfl rfl k) ?_
  show own_Go _ _ _ _ (T114.setTop (mkF m 11 #[.val (.ref ua), .val (.int (1 : Int32)), .val (.int (0 : Int32)), .unset] [(.ref ua)]))
  obtain ⟨T116, X116, e116, st116⟩ := getF X114 hx hZ hown (host := "") (Or.inl (w_24 hw)) Via.refl e114 F1 (g := (mkF m 11 #[.val (.ref ua), .val (.int (1 : Int32)), .val (.int (0 : Int32)), .unset] [(.ref ua)])) rfl rfl (hb hby d_j38_6_11)
  refine own_go st116 ?_
  show own_Go _ _ _ _ (T116.setTop (mkF m 14 #[.val (.ref ua), .val (.int (1 : Int32)), .val (.int (0 : Int32)), .unset] [(.ref ude)]))
  obtain ⟨T117, X117, e117, st117⟩ := getS2 X116 hx hZ hown (host := "") (Or.inl (w_23 hw)) Via.refl e116 (Sd.ext O0.2) (g := (mkF m 14 #[.val (.ref ua), .val (.int (1 : Int32)), .val (.int (0 : Int32)), .unset] [(.ref ude)])) rfl (hb hby d_j38_6_14)
  refine own_go st117 ?_
  show own_Go _ _ _ _ (T117.setTop (mkF m 17 #[.val (.ref ua), .val (.int (1 : Int32)), .val (.int (0 : Int32)), .unset] [(.ref ude), (.ref ude)]))
  refine own_go (fun t k => Jvm.RoadKit.acmp (g := (mkF m 17 #[.val (.ref ua), .val (.int (1 : Int32)), .val (.int (0 : Int32)), .unset] [(.ref ude), (.ref ude)])) X117 hx rfl rfl rfl (pc0 := 17) (pc' := 45) (same := true) rfl (hb hby d_j38_6_17) rfl (decide_eq_true rfl) (by decide) (by decide) k) ?_
  show own_Go _ _ _ _ (T117.setTop (mkF m 45 #[.val (.ref ua), .val (.int (1 : Int32)), .val (.int (0 : Int32)), .unset] []))
  refine own_go (fun t k => XS.aloadN X117.here hx rfl (hb hby d_j38_6_45) rfl rfl k) ?_
  show own_Go _ _ _ _ (T117.setTop (mkF m 46 #[.val (.ref ua), .val (.int (1 : Int32)), .val (.int (0 : Int32)), .unset] [(.ref ua)]))
  refine own_go (fun t k => XS.bipush X117.here hx rfl (hb hby d_j38_6_46) k) ?_
  show own_Go _ _ _ _ (T117.setTop (mkF m 48 #[.val (.ref ua), .val (.int (1 : Int32)), .val (.int (0 : Int32)), .unset] [(.int (10 : Int32)), (.ref ua)]))
  refine own_go (fun t k => XS.iloadN X117.here hx rfl (hb hby d_j38_6_48) rfl k) ?_
  show own_Go _ _ _ _ (T117.setTop (mkF m 49 #[.val (.ref ua), .val (.int (1 : Int32)), .val (.int (0 : Int32)), .unset] [(.int (1 : Int32)), (.int (10 : Int32)), (.ref ua)]))
  obtain ⟨_, _, ⟨T118, L118, k118, n118⟩, -, X118, ⟨Lc118, hQ118, l118, y118, z118⟩, st118⟩ := Jvm.LawKit.callS X117 hx (y := (⟨"java/lang/Math", "max", "(II)I"⟩ : MethodName)) hown (mvT hZ (w_98 hw)) (mvT hZ (w_99 hw)) (mvT hZ (w_100 hw)) (mvT hZ (w_101 hw)) (by decide) (backOf (W := 1) (rm_max l Z a0 hw []  h0 n0 Z0 ) hZ (w_101 hw) (w_100 hw) (by decide) (by decide)) (g := (mkF m 49 #[.val (.ref ua), .val (.int (1 : Int32)), .val (.int (0 : Int32)), .unset] [(.int (1 : Int32)), (.int (10 : Int32)), (.ref ua)])) rfl (by rw [hml]; rfl) (argsL := [(.int (10 : Int32)), (.int (1 : Int32))]) (rest := [(.ref ua)]) (lenOf pd_1 rfl) rfl (by show 2 * 0 + _ ≤ _; exact Nat.le_of_eq rfl) (hb hby d_j38_6_49) (fun _ _ => ⟨rfl, e117, (by decide : 0 + 0 ≤ _), (by decide : 0 + 0 ≤ _)⟩)
  dsimp only [Pt.U, Pt.locs, Pt.cells, Pt.slots] at X118 l118 y118 z118 st118 hQ118
  subst l118 y118 z118
  obtain ⟨rfl, N118q, e118⟩ := hQ118
  have N118 := Fr.app N0 N118q
  refine own_go st118 ?_
  show own_Go _ _ _ _ (T118.setTop (mkF m 52 #[.val (.ref ua), .val (.int (1 : Int32)), .val (.int (0 : Int32)), .unset] [(.int (10 : Int32)), (.ref ua)]))
  obtain ⟨T119, h119, k119, X119, e119, E119, A119, B119, O119, st119⟩ := newRE X118 hx hZ hown (w_102 hw) (w_103 hw) e118 (g := (mkF m 52 #[.val (.ref ua), .val (.int (1 : Int32)), .val (.int (0 : Int32)), .unset] [(.int (10 : Int32)), (.ref ua)])) rfl (hb hby d_j38_6_52) rfl (by decide) (cap := 10) (by decide) (by decide) (by decide) (by decide) (ad := "[Ljava/lang/Object;") (by decide +kernel)
  obtain ⟨b119, g119⟩ : ∃ z, z = h0.size := ⟨_, rfl⟩
  rw [← g119] at A119 B119 st119
  refine own_go st119 ?_
  have Z119 : n0 ≤ h119.size := (Nat.le_trans Z0 E119.1)
  have K119 : Keep h0 h119 [ua] := (Keep.refl h0 [ua]).ext E119
  have lo119 : h0.size ≤ b119 := Nat.le_of_eq g119.symm
  have q119 : n0 ≤ b119 := Nat.le_trans Z0 lo119
  have hi119 : b119 < h119.size := A119.lt
  have V119 : Arv Z h119 b119 k119 (.object "java/lang/Object") (10 : Int32) [.null, .null, .null, .null, .null, .null, .null, .null, .null, .null] .null := (Arv.new A119 (by decide)).pad (pad_rep [] .null 10)
  show own_Go _ _ _ _ (T119.setTop (mkF m 55 #[.val (.ref ua), .val (.int (1 : Int32)), .val (.int (0 : Int32)), .unset] [(.ref b119), (.ref ua)]))
  refine own_go (fun t k => XS.dupX1 X119.here hx rfl (hb hby d_j38_6_55) rfl rfl rfl k) ?_
  show own_Go _ _ _ _ (T119.setTop (mkF m 56 #[.val (.ref ua), .val (.int (1 : Int32)), .val (.int (0 : Int32)), .unset] [(.ref b119), (.ref ua), (.ref b119)]))
  obtain ⟨T120, h120, X120, e120, W120, st120⟩ := putF X119 hx hZ hown (host := "") (Or.inl (w_24 hw)) Via.refl e119 (F1.ext E119) (E0.ext E119) (Or.inl (w_25 hw)) (w_1 hw) (ty := (.array (.object "java/lang/Object"))) (by decide) rfl rfl (g := (mkF m 56 #[.val (.ref ua), .val (.int (1 : Int32)), .val (.int (0 : Int32)), .unset] [(.ref b119), (.ref ua), (.ref b119)])) rfl rfl (hb hby d_j38_6_56)
  refine own_go st120 ?_
  have F120 := (F1.ext E119).same W120
  have Z120 : n0 ≤ h120.size := (Nat.le_trans Z119 (Nat.le_of_eq W120.size.symm))
  have N120 := Fr.snoc X120 N118 q0
  have K120 : Keep h0 h120 [ua] := K119.wr W120 (Or.inl (List.mem_of_getElem? (i := 0) rfl))
  have f121 := (V119.other W120 (Ne.symm (Nat.ne_of_lt (Nat.lt_of_lt_of_le E0.lt lo119))))
  have f122 := ((F0.ext E119).other W120 (Or.inr (slot_ne (Or.inl (w_22 hw)) (Or.inl (w_25 hw)) (by decide) (t := .int) (t' := (.array (.object "java/lang/Object"))) (by decide) (by decide))))
  have f123 := ((F2.ext E119).other W120 (Or.inr (slot_ne (Or.inl (w_62 hw)) (Or.inl (w_25 hw)) (by decide) (t := .int) (t' := (.array (.object "java/lang/Object"))) (by decide) (by decide))))
  show own_Go _ _ _ _ (T120.setTop (mkF m 59 #[.val (.ref ua), .val (.int (1 : Int32)), .val (.int (0 : Int32)), .unset] [(.ref b119)]))
  refine own_ret X120 hx hlk hret rfl (Or.inr (Or.inr (Or.inr (Or.inr ⟨rfl, rfl, rfl⟩)))) (hb hby d_j38_6_59) ?_ (by decide) (by decide)
  rw [e120]
  exact ⟨b119, k119, rfl, N120, K120, lo119, q119, O119, (B119.wr W120), f121, f122, F120, f123⟩
def Q_gr0 (Z : State) (ua : Addr) (ue : Addr) (ude : Addr) (kde : ClassId) (uel : Addr) (uem : Addr) (kem : ClassId) (uemp : Addr) (urec : Addr) (umi : Addr) (h0 : Heap) (n0 : Nat) (v : Option Value) (h : Heap) (L : List Loc) : Prop := ∃ (ub : Addr) (kb : ClassId), v = some (.ref ub) ∧ Fr n0 L ∧ Keep h0 h [ua] ∧ h0.size ≤ ub ∧ n0 ≤ ub ∧ Ovr Z kb "java/lang/Object" ∧ Exa Z h ub "[Ljava/lang/Object;" ∧ Arv Z h ub kb (.object "java/lang/Object") (10 : Int32) [.null, .null, .null, .null, .null, .null, .null, .null, .null, .null] .null ∧ Fld Z h ua "java/util/AbstractList" "modCount" "I" (.int (1 : Int32)) ∧ Fld Z h ua "java/util/ArrayList" "elementData" "[Ljava/lang/Object;" (.ref ub) ∧ Fld Z h ua "java/util/ArrayList" "size" "I" (.int (0 : Int32))
theorem ef_gr0 (m : MethodId) (ua : Addr) : entryFrame m #[(.ref ua)] 1 = mkF m 0 #[.val (.ref ua)] [] := by first | (simp [entryFrame, mkF, argsToLocals, Value.category]; done) | rfl
theorem d_j38_7_0 : decode jdk_38_method_7_code 0 = .ok (.aload_n 0, 1) := by decide +kernel
theorem d_j38_7_1 : decode jdk_38_method_7_code 1 = .ok (.aload_n 0, 1) := by decide +kernel
theorem w_61 {Z : State} {a0 : Array Value} (hw : ∀ d ∈ tables_1, d.before a0 Z = true) : (Jvm.Cond.fieldLink "java/util/ArrayList" (48 : Nat) "java/util/ArrayList" "size" "I").before a0 Z = true := hw _ (List.mem_of_getElem? (i := 61) rfl)
theorem d_j38_7_2 : decode jdk_38_method_7_code 2 = .ok (.getfield 48, 3) := by decide +kernel
theorem d_j38_7_5 : decode jdk_38_method_7_code 5 = .ok (.iconst 1, 1) := by decide +kernel
theorem d_j38_7_6 : decode jdk_38_method_7_code 6 = .ok (.iadd, 1) := by decide +kernel
theorem w_93 {Z : State} {a0 : Array Value} (hw : ∀ d ∈ tables_1, d.before a0 Z = true) : (Jvm.Cond.methodLink "java/util/ArrayList" (69 : Nat) ({ cls := "java/util/ArrayList", name := "grow", desc := "(I)[Ljava/lang/Object;" } : Jvm.MethodName)).before a0 Z = true := hw _ (List.mem_of_getElem? (i := 93) rfl)
theorem w_97 {Z : State} {a0 : Array Value} (hw : ∀ d ∈ tables_1, d.before a0 Z = true) : (Jvm.Cond.code ({ cls := "java/util/ArrayList", name := "grow", desc := "(I)[Ljava/lang/Object;" } : Jvm.MethodName) jdk_38_method_6_code (4 : Nat) (Option.some (Jvm.ClassFile.FieldType.array (Jvm.ClassFile.FieldType.object "java/lang/Object")))).before a0 Z = true := hw _ (List.mem_of_getElem? (i := 97) rfl)
theorem w_2 {Z : State} {a0 : Array Value} (hw : ∀ d ∈ tables_1, d.before a0 Z = true) : (Jvm.Cond.initialized "java/util/ArrayList").before a0 Z = true := hw _ (List.mem_of_getElem? (i := 2) rfl)
theorem pd_2 : parseMethodDescriptor "(I)[Ljava/lang/Object;" = some ⟨[.int], some (.array (.object "java/lang/Object"))⟩ := by decide +kernel
theorem d_j38_7_7 : decode jdk_38_method_7_code 7 = .ok (.invokevirtual 69, 3) := by decide +kernel
theorem w_95 {Z : State} {a0 : Array Value} (hw : ∀ d ∈ tables_1, d.before a0 Z = true) : (Jvm.Cond.privateMethod ({ cls := "java/util/ArrayList", name := "grow", desc := "(I)[Ljava/lang/Object;" } : Jvm.MethodName)).before a0 Z = true := hw _ (List.mem_of_getElem? (i := 95) rfl)
theorem w_94 {Z : State} {a0 : Array Value} (hw : ∀ d ∈ tables_1, d.before a0 Z = true) : (Jvm.Cond.instanceMethod ({ cls := "java/util/ArrayList", name := "grow", desc := "(I)[Ljava/lang/Object;" } : Jvm.MethodName)).before a0 Z = true := hw _ (List.mem_of_getElem? (i := 94) rfl)
theorem w_96 {Z : State} {a0 : Array Value} (hw : ∀ d ∈ tables_1, d.before a0 Z = true) : (Jvm.Cond.selects "java/util/ArrayList" ({ cls := "java/util/ArrayList", name := "grow", desc := "(I)[Ljava/lang/Object;" } : Jvm.MethodName) ({ cls := "java/util/ArrayList", name := "grow", desc := "(I)[Ljava/lang/Object;" } : Jvm.MethodName)).before a0 Z = true := hw _ (List.mem_of_getElem? (i := 96) rfl)
theorem d_j38_7_10 : decode jdk_38_method_7_code 10 = .ok (.areturn, 1) := by decide +kernel
set_option maxRecDepth 65536 in
set_option maxHeartbeats 40000000 in
theorem rm_gr0 (l : Launch) (Z : State) (a0 : Array Value) (hw : ∀ d ∈ tables_1, d.before a0 Z = true) (ws : List Jvm.Cond) (ua ue ude : Addr) (kde : ClassId) (uel uem : Addr) (kem : ClassId) (uemp urec umi : Addr) (h0 : Heap) (n0 : Nat) (Z0 : n0 ≤ h0.size) (q0 : n0 ≤ ua) (E0 : Exa Z h0 ua "java/util/ArrayList") (F0 : Fld Z h0 ua "java/util/AbstractList" "modCount" "I" (.int (1 : Int32))) (F1 : Fld Z h0 ua "java/util/ArrayList" "elementData" "[Ljava/lang/Object;" (.ref ude)) (F2 : Fld Z h0 ua "java/util/ArrayList" "size" "I" (.int (0 : Int32))) (O0 : Old Z n0 h0) (hF : own_Fac Z ue ude kde uel uem kem uemp urec umi) :
    own_Met l Z (⟨"java/util/ArrayList", "grow", "()[Ljava/lang/Object;"⟩ : MethodName) jdk_38_method_7_code 1 (some (.array (.object "java/lang/Object"))) ws ({ frames := 2, cells := 1, slots := 10, locals := 29 } : Room) #[(.ref ua)] h0 (Q_gr0 Z ua ue ude kde uel uem kem uemp urec umi h0 n0) := by
  refine own_enter (own := "java/util/ArrayList") (plainFor_of_name pn_6) rfl ?_
  intro p e s m below meth c s₁ hlk hret hx hby hml hown hnm hZ X0 e0
  have N0 := Fr.nil n0
  refine own_cast (ef_gr0 m ua) ?_
  obtain ⟨Se, Ee, Sd, Ad, Sl, El, Fl, Am, Sm, Em, Sr, Er, Fr1, Fr0, Mi⟩ := id hF
  show own_Go _ _ _ _ (s₁.setTop (mkF m 0 #[.val (.ref ua)] []))
  refine own_go (fun t k => XS.aloadN X0.here hx rfl (hb hby d_j38_7_0) rfl rfl k) ?_
  show own_Go _ _ _ _ (s₁.setTop (mkF m 1 #[.val (.ref ua)] [(.ref ua)]))
  refine own_go (fun t k => XS.aloadN X0.here hx rfl (hb hby d_j38_7_1) rfl rfl k) ?_
  show own_Go _ _ _ _ (s₁.setTop (mkF m 2 #[.val (.ref ua)] [(.ref ua), (.ref ua)]))
  obtain ⟨T124, X124, e124, st124⟩ := getF X0 hx hZ hown (host := "") (Or.inl (w_61 hw)) Via.refl e0 F2 (g := (mkF m 2 #[.val (.ref ua)] [(.ref ua), (.ref ua)])) rfl rfl (hb hby d_j38_7_2)
  refine own_go st124 ?_
  show own_Go _ _ _ _ (T124.setTop (mkF m 5 #[.val (.ref ua)] [(.int (0 : Int32)), (.ref ua)]))
  refine own_go (fun t k => XS.iconst X124.here hx rfl (hb hby d_j38_7_5) k) ?_
  show own_Go _ _ _ _ (T124.setTop (mkF m 6 #[.val (.ref ua)] [(.int (1 : Int32)), (.int (0 : Int32)), (.ref ua)]))
  refine own_go (fun t k => XS.iadd X124.here hx rfl (hb hby d_j38_7_6) rfl k) ?_
  show own_Go _ _ _ _ (T124.setTop (mkF m 7 #[.val (.ref ua)] [(.int (1 : Int32)), (.ref ua)]))
  obtain ⟨cq125, q125, q125'⟩ := E0.cell
  obtain ⟨_, _, ⟨T125, L125, k125, n125⟩, -, X125, ⟨Lc125, hQ125, l125, y125, z125⟩, st125⟩ := X124.privateBack hx (y := (⟨"java/util/ArrayList", "grow", "(I)[Ljava/lang/Object;"⟩ : MethodName)) hown (mvT hZ (w_93 hw)) (mvT hZ (w_94 hw)) (mvT hZ (w_96 hw)) (Cond.privateMethod_at (mvP hZ (w_95 hw) (args := #[]))) (mvT hZ (w_97 hw)) (by decide) (backOf (W := 0) (rm_gr1 l Z a0 hw [] ua ue ude kde uel uem kem uemp urec umi h0 n0 Z0 q0 E0 F0 F1 F2 O0 hF) hZ (w_97 hw) (w_2 hw) (by decide) (by decide)) (g := (mkF m 7 #[.val (.ref ua)] [(.int (1 : Int32)), (.ref ua)])) rfl (by rw [hml]; rfl) (Steps.refl _) (a := ua) (by rw [e124]; exact q125) q125' (argsL := [(.int (1 : Int32))]) (rest := []) (lenOf pd_2 rfl) rfl (by show 2 * 0 + _ ≤ _; exact Nat.le_of_eq rfl) (hb hby d_j38_7_7) (fun _ _ => ⟨rfl, e124, (by decide : 0 + 1 ≤ _), (by decide : 0 + 10 ≤ _)⟩)
  dsimp only [Pt.U, Pt.locs, Pt.cells, Pt.slots] at X125 l125 y125 z125 st125 hQ125
  subst l125 y125 z125
  generalize e125 : T125.heap = h125 at hQ125
  obtain ⟨ub125, kb125, rfl, N125q, K125q, lo125, q125, O125, Eb125, A125, Fa125, Fb125, Fc125⟩ := hQ125
  have N125 := Fr.app N0 N125q
  refine own_go (fun t k => st125.trans k) ?_
  have Z125 : n0 ≤ h125.size := (Nat.le_trans Z0 K125q.1)
  have K125 : Keep h0 h125 [ua] := (Keep.refl h0 [ua]).trans K125q (allS (Or.inl (List.mem_of_getElem? (i := 0) rfl)) all0)
  have hi125 := A125.lt
  show own_Go _ _ _ _ (T125.setTop (mkF m 10 #[.val (.ref ua)] [(.ref ub125)]))
  refine own_ret X125 hx hlk hret rfl (Or.inr (Or.inr (Or.inr (Or.inr ⟨rfl, rfl, rfl⟩)))) (hb hby d_j38_7_10) ?_ (by decide) (by decide)
  rw [e125]
  exact ⟨ub125, kb125, rfl, N125, K125, lo125, q125, O125, Eb125, A125, Fa125, Fb125, Fc125⟩
def Q_ad3_0 (Z : State) (ua : Addr) (ue : Addr) (ude : Addr) (kde : ClassId) (uel : Addr) (uem : Addr) (kem : ClassId) (uemp : Addr) (urec : Addr) (umi : Addr) (h0 : Heap) (n0 : Nat) (v : Option Value) (h : Heap) (L : List Loc) : Prop := ∃ (ub : Addr) (kb : ClassId), v = none ∧ Fr n0 L ∧ Keep h0 h [ua] ∧ h0.size ≤ ub ∧ n0 ≤ ub ∧ Ovr Z kb "java/lang/Object" ∧ Exa Z h ub "[Ljava/lang/Object;" ∧ Arv Z h ub kb (.object "java/lang/Object") (10 : Int32) [(.ref ue), .null, .null, .null, .null, .null, .null, .null, .null, .null] .null ∧ Fld Z h ua "java/util/AbstractList" "modCount" "I" (.int (1 : Int32)) ∧ Fld Z h ua "java/util/ArrayList" "elementData" "[Ljava/lang/Object;" (.ref ub) ∧ Fld Z h ua "java/util/ArrayList" "size" "I" (.int (1 : Int32))
theorem ef_ad3_0 (m : MethodId) (ua : Addr) (ue : Addr) (ude : Addr) : entryFrame m #[(.ref ua), (.ref ue), (.ref ude), (.int (0 : Int32))] 4 = mkF m 0 #[.val (.ref ua), .val (.ref ue), .val (.ref ude), .val (.int (0 : Int32))] [] := by first | (simp [entryFrame, mkF, argsToLocals, Value.category]; done) | rfl
theorem d_j38_24_0 : decode jdk_38_method_24_code 0 = .ok (.iload_n 3, 1) := by decide +kernel
theorem d_j38_24_1 : decode jdk_38_method_24_code 1 = .ok (.aload_n 2, 1) := by decide +kernel
theorem d_j38_24_2 : decode jdk_38_method_24_code 2 = .ok (.arraylength, 1) := by decide +kernel
theorem d_j38_24_3 : decode jdk_38_method_24_code 3 = .ok (.if_icmp .ne 8, 3) := by decide +kernel
theorem d_j38_24_6 : decode jdk_38_method_24_code 6 = .ok (.aload_n 0, 1) := by decide +kernel
theorem w_88 {Z : State} {a0 : Array Value} (hw : ∀ d ∈ tables_1, d.before a0 Z = true) : (Jvm.Cond.methodLink "java/util/ArrayList" (129 : Nat) ({ cls := "java/util/ArrayList", name := "grow", desc := "()[Ljava/lang/Object;" } : Jvm.MethodName)).before a0 Z = true := hw _ (List.mem_of_getElem? (i := 88) rfl)
theorem w_92 {Z : State} {a0 : Array Value} (hw : ∀ d ∈ tables_1, d.before a0 Z = true) : (Jvm.Cond.code ({ cls := "java/util/ArrayList", name := "grow", desc := "()[Ljava/lang/Object;" } : Jvm.MethodName) jdk_38_method_7_code (1 : Nat) (Option.some (Jvm.ClassFile.FieldType.array (Jvm.ClassFile.FieldType.object "java/lang/Object")))).before a0 Z = true := hw _ (List.mem_of_getElem? (i := 92) rfl)
theorem pd_3 : parseMethodDescriptor "()[Ljava/lang/Object;" = some ⟨[], some (.array (.object "java/lang/Object"))⟩ := by decide +kernel
theorem d_j38_24_7 : decode jdk_38_method_24_code 7 = .ok (.invokevirtual 129, 3) := by decide +kernel
theorem w_90 {Z : State} {a0 : Array Value} (hw : ∀ d ∈ tables_1, d.before a0 Z = true) : (Jvm.Cond.privateMethod ({ cls := "java/util/ArrayList", name := "grow", desc := "()[Ljava/lang/Object;" } : Jvm.MethodName)).before a0 Z = true := hw _ (List.mem_of_getElem? (i := 90) rfl)
theorem w_89 {Z : State} {a0 : Array Value} (hw : ∀ d ∈ tables_1, d.before a0 Z = true) : (Jvm.Cond.instanceMethod ({ cls := "java/util/ArrayList", name := "grow", desc := "()[Ljava/lang/Object;" } : Jvm.MethodName)).before a0 Z = true := hw _ (List.mem_of_getElem? (i := 89) rfl)
theorem w_91 {Z : State} {a0 : Array Value} (hw : ∀ d ∈ tables_1, d.before a0 Z = true) : (Jvm.Cond.selects "java/util/ArrayList" ({ cls := "java/util/ArrayList", name := "grow", desc := "()[Ljava/lang/Object;" } : Jvm.MethodName) ({ cls := "java/util/ArrayList", name := "grow", desc := "()[Ljava/lang/Object;" } : Jvm.MethodName)).before a0 Z = true := hw _ (List.mem_of_getElem? (i := 91) rfl)
theorem d_j38_24_10 : decode jdk_38_method_24_code 10 = .ok (.astore_n 2, 1) := by decide +kernel
theorem d_j38_24_11 : decode jdk_38_method_24_code 11 = .ok (.aload_n 2, 1) := by decide +kernel
theorem d_j38_24_12 : decode jdk_38_method_24_code 12 = .ok (.iload_n 3, 1) := by decide +kernel
theorem d_j38_24_13 : decode jdk_38_method_24_code 13 = .ok (.aload_n 1, 1) := by decide +kernel
theorem w_104 {Z : State} {a0 : Array Value} (hw : ∀ d ∈ tables_1, d.before a0 Z = true) : (Jvm.Cond.castable "com/example/grantfold/grantfold/model/Scope" "java/lang/Object").before a0 Z = true := hw _ (List.mem_of_getElem? (i := 104) rfl)
theorem d_j38_24_14 : decode jdk_38_method_24_code 14 = .ok (.aastore, 1) := by decide +kernel
theorem d_j38_24_15 : decode jdk_38_method_24_code 15 = .ok (.aload_n 0, 1) := by decide +kernel
theorem d_j38_24_16 : decode jdk_38_method_24_code 16 = .ok (.iload_n 3, 1) := by decide +kernel
theorem d_j38_24_17 : decode jdk_38_method_24_code 17 = .ok (.iconst 1, 1) := by decide +kernel
theorem d_j38_24_18 : decode jdk_38_method_24_code 18 = .ok (.iadd, 1) := by decide +kernel
theorem d_j38_24_19 : decode jdk_38_method_24_code 19 = .ok (.putfield 48, 3) := by decide +kernel
theorem d_j38_24_22 : decode jdk_38_method_24_code 22 = .ok (.return_, 1) := by decide +kernel
set_option maxRecDepth 65536 in
set_option maxHeartbeats 40000000 in
theorem rm_ad3_0 (l : Launch) (Z : State) (a0 : Array Value) (hw : ∀ d ∈ tables_1, d.before a0 Z = true) (ws : List Jvm.Cond) (ua ue ude : Addr) (kde : ClassId) (uel uem : Addr) (kem : ClassId) (uemp urec umi : Addr) (h0 : Heap) (n0 : Nat) (Z0 : n0 ≤ h0.size) (q0 : n0 ≤ ua) (E0 : Exa Z h0 ua "java/util/ArrayList") (F0 : Fld Z h0 ua "java/util/AbstractList" "modCount" "I" (.int (1 : Int32))) (F1 : Fld Z h0 ua "java/util/ArrayList" "elementData" "[Ljava/lang/Object;" (.ref ude)) (F2 : Fld Z h0 ua "java/util/ArrayList" "size" "I" (.int (0 : Int32))) (O0 : Old Z n0 h0) (hF : own_Fac Z ue ude kde uel uem kem uemp urec umi) :
    own_Met l Z (⟨"java/util/ArrayList", "add", "(Ljava/lang/Object;[Ljava/lang/Object;I)V"⟩ : MethodName) jdk_38_method_24_code 4 none ws ({ frames := 3, cells := 1, slots := 10, locals := 41 } : Room) #[(.ref ua), (.ref ue), (.ref ude), (.int (0 : Int32))] h0 (Q_ad3_0 Z ua ue ude kde uel uem kem uemp urec umi h0 n0) := by
  refine own_enter (own := "java/util/ArrayList") (plainFor_of_name pn_6) rfl ?_
  intro p e s m below meth c s₁ hlk hret hx hby hml hown hnm hZ X0 e0
  have N0 := Fr.nil n0
  refine own_cast (ef_ad3_0 m ua ue ude) ?_
  obtain ⟨Se, Ee, Sd, Ad, Sl, El, Fl, Am, Sm, Em, Sr, Er, Fr1, Fr0, Mi⟩ := id hF
  show own_Go _ _ _ _ (s₁.setTop (mkF m 0 #[.val (.ref ua), .val (.ref ue), .val (.ref ude), .val (.int (0 : Int32))] []))
  refine own_go (fun t k => XS.iloadN X0.here hx rfl (hb hby d_j38_24_0) rfl k) ?_
  show own_Go _ _ _ _ (s₁.setTop (mkF m 1 #[.val (.ref ua), .val (.ref ue), .val (.ref ude), .val (.int (0 : Int32))] [(.int (0 : Int32))]))
  refine own_go (fun t k => XS.aloadN X0.here hx rfl (hb hby d_j38_24_1) rfl rfl k) ?_
  show own_Go _ _ _ _ (s₁.setTop (mkF m 2 #[.val (.ref ua), .val (.ref ue), .val (.ref ude), .val (.int (0 : Int32))] [(.ref ude), (.int (0 : Int32))]))
  obtain ⟨cl126, Ar126, qk126, sz126, nn126, ha126, gf126⟩ := id (Ad.ext O0.2)
  refine own_go (X0.arraylength hx (by rw [e0]; exact Ar126.1) (State.isArrayOf_alike hZ.alike Ar126.2.1) (g := (mkF m 2 #[.val (.ref ua), .val (.ref ue), .val (.ref ude), .val (.int (0 : Int32))] [(.ref ude), (.int (0 : Int32))])) rfl rfl (hb hby d_j38_24_2)) ?_
  rw [len_of sz126 nn126]
  show own_Go _ _ _ _ (s₁.setTop (mkF m 3 #[.val (.ref ua), .val (.ref ue), .val (.ref ude), .val (.int (0 : Int32))] [(.int (0 : Int32)), (.int (0 : Int32))]))
  refine own_go (fun t k => XS.icmpNo X0.here hx rfl (hb hby d_j38_24_3) rfl (teq (by decide : (0 : Int32) = (0 : Int32))).2 k) ?_
  show own_Go _ _ _ _ (s₁.setTop (mkF m 6 #[.val (.ref ua), .val (.ref ue), .val (.ref ude), .val (.int (0 : Int32))] []))
  refine own_go (fun t k => XS.aloadN X0.here hx rfl (hb hby d_j38_24_6) rfl rfl k) ?_
  show own_Go _ _ _ _ (s₁.setTop (mkF m 7 #[.val (.ref ua), .val (.ref ue), .val (.ref ude), .val (.int (0 : Int32))] [(.ref ua)]))
  obtain ⟨cq127, q127, q127'⟩ := E0.cell
  obtain ⟨_, _, ⟨T127, L127, k127, n127⟩, -, X127, ⟨Lc127, hQ127, l127, y127, z127⟩, st127⟩ := X0.privateBack hx (y := (⟨"java/util/ArrayList", "grow", "()[Ljava/lang/Object;"⟩ : MethodName)) hown (mvT hZ (w_88 hw)) (mvT hZ (w_89 hw)) (mvT hZ (w_91 hw)) (Cond.privateMethod_at (mvP hZ (w_90 hw) (args := #[]))) (mvT hZ (w_92 hw)) (by decide) (backOf (W := 0) (rm_gr0 l Z a0 hw [] ua ue ude kde uel uem kem uemp urec umi h0 n0 Z0 q0 E0 F0 F1 F2 O0 hF) hZ (w_92 hw) (w_2 hw) (by decide) (by decide)) (g := (mkF m 7 #[.val (.ref ua), .val (.ref ue), .val (.ref ude), .val (.int (0 : Int32))] [(.ref ua)])) rfl (by rw [hml]; rfl) (Steps.refl _) (a := ua) (by rw [e0]; exact q127) q127' (argsL := []) (rest := []) (lenOf pd_3 rfl) rfl (by show 2 * 0 + _ ≤ _; exact Nat.le_of_eq rfl) (hb hby d_j38_24_7) (fun _ _ => ⟨rfl, e0, (by decide : 0 + 1 ≤ _), (by decide : 0 + 10 ≤ _)⟩)
  dsimp only [Pt.U, Pt.locs, Pt.cells, Pt.slots] at X127 l127 y127 z127 st127 hQ127
  subst l127 y127 z127
  generalize e127 : T127.heap = h127 at hQ127
  obtain ⟨ub127, kb127, rfl, N127q, K127q, lo127, q127, O127, Eb127, A127, Fa127, Fb127, Fc127⟩ := hQ127
  have N127 := Fr.app N0 N127q
  refine own_go (fun t k => st127.trans k) ?_
  have Z127 : n0 ≤ h127.size := (Nat.le_trans Z0 K127q.1)
  have K127 : Keep h0 h127 [ua] := (Keep.refl h0 [ua]).trans K127q (allS (Or.inl (List.mem_of_getElem? (i := 0) rfl)) all0)
  have hi127 := A127.lt
  show own_Go _ _ _ _ (T127.setTop (mkF m 10 #[.val (.ref ua), .val (.ref ue), .val (.ref ude), .val (.int (0 : Int32))] [(.ref ub127)]))
  refine own_go (fun t k => XS.astoreN X127.here hx rfl (hb hby d_j38_24_10) rfl rfl (l' := #[.val (.ref ua), .val (.ref ue), .val (.ref ub127), .val (.int (0 : Int32))]) rfl k) ?_
  show own_Go _ _ _ _ (T127.setTop (mkF m 11 #[.val (.ref ua), .val (.ref ue), .val (.ref ub127), .val (.int (0 : Int32))] []))
  refine own_go (fun t k => XS.aloadN X127.here hx rfl (hb hby d_j38_24_11) rfl rfl k) ?_
  show own_Go _ _ _ _ (T127.setTop (mkF m 12 #[.val (.ref ua), .val (.ref ue), .val (.ref ub127), .val (.int (0 : Int32))] [(.ref ub127)]))
  refine own_go (fun t k => XS.iloadN X127.here hx rfl (hb hby d_j38_24_12) rfl k) ?_
  show own_Go _ _ _ _ (T127.setTop (mkF m 13 #[.val (.ref ua), .val (.ref ue), .val (.ref ub127), .val (.int (0 : Int32))] [(.int (0 : Int32)), (.ref ub127)]))
  refine own_go (fun t k => XS.aloadN X127.here hx rfl (hb hby d_j38_24_13) rfl rfl k) ?_
  show own_Go _ _ _ _ (T127.setTop (mkF m 14 #[.val (.ref ua), .val (.ref ue), .val (.ref ub127), .val (.int (0 : Int32))] [(.ref ue), (.int (0 : Int32)), (.ref ub127)]))
  obtain ⟨cl128, Ar128, qk128, sz128, nn128, ha128, gf128⟩ := id A127
  have hin128 : ¬ ((0 : Int32) < 0 ∨ cl128.slots.size ≤ ((0 : Int32)).toNatClampNeg) := inb_of sz128 ⟨by decide, by decide⟩
  obtain ⟨T129, h129, X129, e129, W129, st129⟩ := stR X127 hx hZ e127 Ar128 (j := (0 : Int32)) hin128 rfl (Sto.ofV Ar128 qk128 O127 (Ins.of_exa (Ee.ext (O0.keep K127q (allS q0 all0)).2) (w_104 hw))) (g := (mkF m 14 #[.val (.ref ua), .val (.ref ue), .val (.ref ub127), .val (.int (0 : Int32))] [(.ref ue), (.int (0 : Int32)), (.ref ub127)])) rfl rfl (hb hby d_j38_24_14)
  refine own_go st129 ?_
  have V129 : Arv Z h129 ub127 kb127 (.object "java/lang/Object") (10 : Int32) [(.ref ue), .null, .null, .null, .null, .null, .null, .null, .null, .null] .null := Arv.set Ar128 qk128 sz128 nn128 ha128 gf128 rfl W129 0 rfl (Nat.le_of_ble_eq_true rfl)
  have Z129 : n0 ≤ h129.size := (Nat.le_trans Z127 (Nat.le_of_eq W129.size.symm))
  have N129 := Fr.snoc X129 N127 q127
  have K129 : Keep h0 h129 [ua] := K127.wr W129 (Or.inr lo127)
  show own_Go _ _ _ _ (T129.setTop (mkF m 15 #[.val (.ref ua), .val (.ref ue), .val (.ref ub127), .val (.int (0 : Int32))] []))
  refine own_go (fun t k => XS.aloadN X129.here hx rfl (hb hby d_j38_24_15) rfl rfl k) ?_
  show own_Go _ _ _ _ (T129.setTop (mkF m 16 #[.val (.ref ua), .val (.ref ue), .val (.ref ub127), .val (.int (0 : Int32))] [(.ref ua)]))
  refine own_go (fun t k => XS.iloadN X129.here hx rfl (hb hby d_j38_24_16) rfl k) ?_
  show own_Go _ _ _ _ (T129.setTop (mkF m 17 #[.val (.ref ua), .val (.ref ue), .val (.ref ub127), .val (.int (0 : Int32))] [(.int (0 : Int32)), (.ref ua)]))
  refine own_go (fun t k => XS.iconst X129.here hx rfl (hb hby d_j38_24_17) k) ?_
  show own_Go _ _ _ _ (T129.setTop (mkF m 18 #[.val (.ref ua), .val (.ref ue), .val (.ref ub127), .val (.int (0 : Int32))] [(.int (1 : Int32)), (.int (0 : Int32)), (.ref ua)]))
  refine own_go (fun t k => XS.iadd X129.here hx rfl (hb hby d_j38_24_18) rfl k) ?_
  show own_Go _ _ _ _ (T129.setTop (mkF m 19 #[.val (.ref ua), .val (.ref ue), .val (.ref ub127), .val (.int (0 : Int32))] [(.int (1 : Int32)), (.ref ua)]))
  have f130 := (Fc127.other W129 (Or.inl (Nat.ne_of_lt (Nat.lt_of_lt_of_le E0.lt lo127))))
  obtain ⟨T131, h131, X131, e131, W131, st131⟩ := putF X129 hx hZ hown (host := "") (Or.inl (w_61 hw)) Via.refl e129 f130 ((E0.keep K127q).wr W129) (Or.inl (w_62 hw)) (w_1 hw) (ty := .int) (by decide) rfl rfl (g := (mkF m 19 #[.val (.ref ua), .val (.ref ue), .val (.ref ub127), .val (.int (0 : Int32))] [(.int (1 : Int32)), (.ref ua)])) rfl rfl (hb hby d_j38_24_19)
  refine own_go st131 ?_
  have F131 := f130.same W131
  have Z131 : n0 ≤ h131.size := (Nat.le_trans Z129 (Nat.le_of_eq W131.size.symm))
  have N131 := Fr.snoc X131 N129 q0
  have K131 : Keep h0 h131 [ua] := K129.wr W131 (Or.inl (List.mem_of_getElem? (i := 0) rfl))
  have f132 := ((Fb127.other W129 (Or.inl (Nat.ne_of_lt (Nat.lt_of_lt_of_le E0.lt lo127)))).other W131 (Or.inr (slot_ne (Or.inl (w_25 hw)) (Or.inl (w_62 hw)) (by decide) (t := (.array (.object "java/lang/Object"))) (t' := .int) (by decide) (by decide))))
  have f133 := (V129.other W131 (Ne.symm (Nat.ne_of_lt (Nat.lt_of_lt_of_le E0.lt lo127))))
  have f134 := ((Fa127.other W129 (Or.inl (Nat.ne_of_lt (Nat.lt_of_lt_of_le E0.lt lo127)))).other W131 (Or.inr (slot_ne (Or.inl (w_22 hw)) (Or.inl (w_62 hw)) (by decide) (t := .int) (t' := .int) (by decide) (by decide))))
  show own_Go _ _ _ _ (T131.setTop (mkF m 22 #[.val (.ref ua), .val (.ref ue), .val (.ref ub127), .val (.int (0 : Int32))] []))
  refine own_retV X131 hx hlk hret (hb hby d_j38_24_22) ?_ (by decide) (by decide)
  rw [e131]
  exact ⟨ub127, kb127, rfl, N131, K131, lo127, q127, O127, ((Eb127.wr W129).wr W131), f133, f134, f132, F131⟩
def Q_ad3_1 (Z : State) (ua : Addr) (ub : Addr) (kb : ClassId) (ue : Addr) (ude : Addr) (kde : ClassId) (uel : Addr) (uem : Addr) (kem : ClassId) (uemp : Addr) (urec : Addr) (umi : Addr) (h0 : Heap) (n0 : Nat) (v : Option Value) (h : Heap) (L : List Loc) : Prop := v = none ∧ Fr n0 L ∧ Keep h0 h [ua, ub] ∧ Arv Z h ub kb (.object "java/lang/Object") (10 : Int32) [(.ref ue), (.ref ue), .null, .null, .null, .null, .null, .null, .null, .null] .null ∧ Fld Z h ua "java/util/AbstractList" "modCount" "I" (.int (2 : Int32)) ∧ Fld Z h ua "java/util/ArrayList" "elementData" "[Ljava/lang/Object;" (.ref ub) ∧ Fld Z h ua "java/util/ArrayList" "size" "I" (.int (2 : Int32))
theorem ef_ad3_1 (m : MethodId) (ua : Addr) (ue : Addr) (ub : Addr) : entryFrame m #[(.ref ua), (.ref ue), (.ref ub), (.int (1 : Int32))] 4 = mkF m 0 #[.val (.ref ua), .val (.ref ue), .val (.ref ub), .val (.int (1 : Int32))] [] := by first | (simp [entryFrame, mkF, argsToLocals, Value.category]; done) | rfl
set_option maxRecDepth 65536 in
set_option maxHeartbeats 40000000 in
theorem rm_ad3_1 (l : Launch) (Z : State) (a0 : Array Value) (hw : ∀ d ∈ tables_1, d.before a0 Z = true) (ws : List Jvm.Cond) (ua ub : Addr) (kb : ClassId) (ue ude : Addr) (kde : ClassId) (uel uem : Addr) (kem : ClassId) (uemp urec umi : Addr) (h0 : Heap) (n0 : Nat) (Z0 : n0 ≤ h0.size) (q0 : n0 ≤ ua) (E0 : Exa Z h0 ua "java/util/ArrayList") (F0 : Fld Z h0 ua "java/util/AbstractList" "modCount" "I" (.int (2 : Int32))) (F1 : Fld Z h0 ua "java/util/ArrayList" "elementData" "[Ljava/lang/Object;" (.ref ub)) (F2 : Fld Z h0 ua "java/util/ArrayList" "size" "I" (.int (1 : Int32))) (B0 : Arv Z h0 ub kb (.object "java/lang/Object") (10 : Int32) [(.ref ue), .null, .null, .null, .null, .null, .null, .null, .null, .null] .null) (q1 : n0 ≤ ub) (O1 : Ovr Z kb "java/lang/Object") (nq : ua ≠ ub) (O0 : Old Z n0 h0) (hF : own_Fac Z ue ude kde uel uem kem uemp urec umi) :
    own_Met l Z (⟨"java/util/ArrayList", "add", "(Ljava/lang/Object;[Ljava/lang/Object;I)V"⟩ : MethodName) jdk_38_method_24_code 4 none ws ({ frames := 0, cells := 0, slots := 0, locals := 0 } : Room) #[(.ref ua), (.ref ue), (.ref ub), (.int (1 : Int32))] h0 (Q_ad3_1 Z ua ub kb ue ude kde uel uem kem uemp urec umi h0 n0) := by
  refine own_enter (own := "java/util/ArrayList") (plainFor_of_name pn_6) rfl ?_
  intro p e s m below meth c s₁ hlk hret hx hby hml hown hnm hZ X0 e0
  have N0 := Fr.nil n0
  refine own_cast (ef_ad3_1 m ua ue ub) ?_
  obtain ⟨Se, Ee, Sd, Ad, Sl, El, Fl, Am, Sm, Em, Sr, Er, Fr1, Fr0, Mi⟩ := id hF
  show own_Go _ _ _ _ (s₁.setTop (mkF m 0 #[.val (.ref ua), .val (.ref ue), .val (.ref ub), .val (.int (1 : Int32))] []))
  refine own_go (fun t k => XS.iloadN X0.here hx rfl (hb hby d_j38_24_0) rfl k) ?_
  show own_Go _ _ _ _ (s₁.setTop (mkF m 1 #[.val (.ref ua), .val (.ref ue), .val (.ref ub), .val (.int (1 : Int32))] [(.int (1 : Int32))]))
  refine own_go (fun t k => XS.aloadN X0.here hx rfl (hb hby d_j38_24_1) rfl rfl k) ?_
  show own_Go _ _ _ _ (s₁.setTop (mkF m 2 #[.val (.ref ua), .val (.ref ue), .val (.ref ub), .val (.int (1 : Int32))] [(.ref ub), (.int (1 : Int32))]))
  obtain ⟨cl135, Ar135, qk135, sz135, nn135, ha135, gf135⟩ := id B0
  refine own_go (X0.arraylength hx (by rw [e0]; exact Ar135.1) (State.isArrayOf_alike hZ.alike Ar135.2.1) (g := (mkF m 2 #[.val (.ref ua), .val (.ref ue), .val (.ref ub), .val (.int (1 : Int32))] [(.ref ub), (.int (1 : Int32))])) rfl rfl (hb hby d_j38_24_2)) ?_
  rw [len_of sz135 nn135]
  show own_Go _ _ _ _ (s₁.setTop (mkF m 3 #[.val (.ref ua), .val (.ref ue), .val (.ref ub), .val (.int (1 : Int32))] [(.int (10 : Int32)), (.int (1 : Int32))]))
  refine own_go (fun t k => XS.icmpYes X0.here hx rfl (pc0 := 3) (pc' := 11) rfl (hb hby d_j38_24_3) rfl (feq (by decide : ¬ ((1 : Int32) = (10 : Int32)))).2 (by decide) (by decide) k) ?_
  show own_Go _ _ _ _ (s₁.setTop (mkF m 11 #[.val (.ref ua), .val (.ref ue), .val (.ref ub), .val (.int (1 : Int32))] []))
  refine own_go (fun t k => XS.aloadN X0.here hx rfl (hb hby d_j38_24_11) rfl rfl k) ?_
  show own_Go _ _ _ _ (s₁.setTop (mkF m 12 #[.val (.ref ua), .val (.ref ue), .val (.ref ub), .val (.int (1 : Int32))] [(.ref ub)]))
  refine own_go (fun t k => XS.iloadN X0.here hx rfl (hb hby d_j38_24_12) rfl k) ?_
  show own_Go _ _ _ _ (s₁.setTop (mkF m 13 #[.val (.ref ua), .val (.ref ue), .val (.ref ub), .val (.int (1 : Int32))] [(.int (1 : Int32)), (.ref ub)]))
  refine own_go (fun t k => XS.aloadN X0.here hx rfl (hb hby d_j38_24_13) rfl rfl k) ?_
  show own_Go _ _ _ _ (s₁.setTop (mkF m 14 #[.val (.ref ua), .val (.ref ue), .val (.ref ub), .val (.int (1 : Int32))] [(.ref ue), (.int (1 : Int32)), (.ref ub)]))
  obtain ⟨cl136, Ar136, qk136, sz136, nn136, ha136, gf136⟩ := id B0
  have hin136 : ¬ ((1 : Int32) < 0 ∨ cl136.slots.size ≤ ((1 : Int32)).toNatClampNeg) := inb_of sz136 ⟨by decide, by decide⟩
  obtain ⟨T137, h137, X137, e137, W137, st137⟩ := stR X0 hx hZ e0 Ar136 (j := (1 : Int32)) hin136 rfl (Sto.ofV Ar136 qk136 O1 (Ins.of_exa (Ee.ext O0.2) (w_104 hw))) (g := (mkF m 14 #[.val (.ref ua), .val (.ref ue), .val (.ref ub), .val (.int (1 : Int32))] [(.ref ue), (.int (1 : Int32)), (.ref ub)])) rfl rfl (hb hby d_j38_24_14)
  refine own_go st137 ?_
  have V137 : Arv Z h137 ub kb (.object "java/lang/Object") (10 : Int32) [(.ref ue), (.ref ue), .null, .null, .null, .null, .null, .null, .null, .null] .null := Arv.set Ar136 qk136 sz136 nn136 ha136 gf136 rfl W137 1 rfl (Nat.le_of_ble_eq_true rfl)
  have Z137 : n0 ≤ h137.size := (Nat.le_trans Z0 (Nat.le_of_eq W137.size.symm))
  have N137 := Fr.snoc X137 N0 q1
  have K137 : Keep h0 h137 [ua, ub] := (Keep.refl h0 [ua, ub]).wr W137 (Or.inl (List.mem_of_getElem? (i := 1) rfl))
  show own_Go _ _ _ _ (T137.setTop (mkF m 15 #[.val (.ref ua), .val (.ref ue), .val (.ref ub), .val (.int (1 : Int32))] []))
  refine own_go (fun t k => XS.aloadN X137.here hx rfl (hb hby d_j38_24_15) rfl rfl k) ?_
  show own_Go _ _ _ _ (T137.setTop (mkF m 16 #[.val (.ref ua), .val (.ref ue), .val (.ref ub), .val (.int (1 : Int32))] [(.ref ua)]))
  refine own_go (fun t k => XS.iloadN X137.here hx rfl (hb hby d_j38_24_16) rfl k) ?_
  show own_Go _ _ _ _ (T137.setTop (mkF m 17 #[.val (.ref ua), .val (.ref ue), .val (.ref ub), .val (.int (1 : Int32))] [(.int (1 : Int32)), (.ref ua)]))
  refine own_go (fun t k => XS.iconst X137.here hx rfl (hb hby d_j38_24_17) k) ?_
  show own_Go _ _ _ _ (T137.setTop (mkF m 18 #[.val (.ref ua), .val (.ref ue), .val (.ref ub), .val (.int (1 : Int32))] [(.int (1 : Int32)), (.int (1 : Int32)), (.ref ua)]))
  refine own_go (fun t k => XS.iadd X137.here hx rfl (hb hby d_j38_24_18) rfl k) ?_
  show own_Go _ _ _ _ (T137.setTop (mkF m 19 #[.val (.ref ua), .val (.ref ue), .val (.ref ub), .val (.int (1 : Int32))] [(.int (2 : Int32)), (.ref ua)]))
  obtain ⟨T138, h138, X138, e138, W138, st138⟩ := putF X137 hx hZ hown (host := "") (Or.inl (w_61 hw)) Via.refl e137 (F2.other W137 (Or.inl nq)) (E0.wr W137) (Or.inl (w_62 hw)) (w_1 hw) (ty := .int) (by decide) rfl rfl (g := (mkF m 19 #[.val (.ref ua), .val (.ref ue), .val (.ref ub), .val (.int (1 : Int32))] [(.int (2 : Int32)), (.ref ua)])) rfl rfl (hb hby d_j38_24_19)
  refine own_go st138 ?_
  have F138 := (F2.other W137 (Or.inl nq)).same W138
  have Z138 : n0 ≤ h138.size := (Nat.le_trans Z137 (Nat.le_of_eq W138.size.symm))
  have N138 := Fr.snoc X138 N137 q0
  have K138 : Keep h0 h138 [ua, ub] := K137.wr W138 (Or.inl (List.mem_of_getElem? (i := 0) rfl))
  have f139 := ((F1.other W137 (Or.inl nq)).other W138 (Or.inr (slot_ne (Or.inl (w_25 hw)) (Or.inl (w_62 hw)) (by decide) (t := (.array (.object "java/lang/Object"))) (t' := .int) (by decide) (by decide))))
  have f140 := ((F0.other W137 (Or.inl nq)).other W138 (Or.inr (slot_ne (Or.inl (w_22 hw)) (Or.inl (w_62 hw)) (by decide) (t := .int) (t' := .int) (by decide) (by decide))))
  show own_Go _ _ _ _ (T138.setTop (mkF m 22 #[.val (.ref ua), .val (.ref ue), .val (.ref ub), .val (.int (1 : Int32))] []))
  refine own_retV X138 hx hlk hret (hb hby d_j38_24_22) ?_ (by decide) (by decide)
  rw [e138]
  exact ⟨rfl, N138, K138, (V137.other W138 (Ne.symm nq)), f140, f139, F138⟩
def Q_ad3_2 (Z : State) (ua : Addr) (ub : Addr) (kb : ClassId) (ue : Addr) (ude : Addr) (kde : ClassId) (uel : Addr) (uem : Addr) (kem : ClassId) (uemp : Addr) (urec : Addr) (umi : Addr) (h0 : Heap) (n0 : Nat) (v : Option Value) (h : Heap) (L : List Loc) : Prop := v = none ∧ Fr n0 L ∧ Keep h0 h [ua, ub] ∧ Arv Z h ub kb (.object "java/lang/Object") (10 : Int32) [(.ref ue), (.ref ue), (.ref ue), .null, .null, .null, .null, .null, .null, .null] .null ∧ Fld Z h ua "java/util/AbstractList" "modCount" "I" (.int (3 : Int32)) ∧ Fld Z h ua "java/util/ArrayList" "elementData" "[Ljava/lang/Object;" (.ref ub) ∧ Fld Z h ua "java/util/ArrayList" "size" "I" (.int (3 : Int32))
theorem ef_ad3_2 (m : MethodId) (ua : Addr) (ue : Addr) (ub : Addr) : entryFrame m #[(.ref ua), (.ref ue), (.ref ub), (.int (2 : Int32))] 4 = mkF m 0 #[.val (.ref ua), .val (.ref ue), .val (.ref ub), .val (.int (2 : Int32))] [] := by first | (simp [entryFrame, mkF, argsToLocals, Value.category]; done) | rfl
set_option maxRecDepth 65536 in
set_option maxHeartbeats 40000000 in
theorem rm_ad3_2 (l : Launch) (Z : State) (a0 : Array Value) (hw : ∀ d ∈ tables_1, d.before a0 Z = true) (ws : List Jvm.Cond) (ua ub : Addr) (kb : ClassId) (ue ude : Addr) (kde : ClassId) (uel uem : Addr) (kem : ClassId) (uemp urec umi : Addr) (h0 : Heap) (n0 : Nat) (Z0 : n0 ≤ h0.size) (q0 : n0 ≤ ua) (E0 : Exa Z h0 ua "java/util/ArrayList") (F0 : Fld Z h0 ua "java/util/AbstractList" "modCount" "I" (.int (3 : Int32))) (F1 : Fld Z h0 ua "java/util/ArrayList" "elementData" "[Ljava/lang/Object;" (.ref ub)) (F2 : Fld Z h0 ua "java/util/ArrayList" "size" "I" (.int (2 : Int32))) (B0 : Arv Z h0 ub kb (.object "java/lang/Object") (10 : Int32) [(.ref ue), (.ref ue), .null, .null, .null, .null, .null, .null, .null, .null] .null) (q1 : n0 ≤ ub) (O1 : Ovr Z kb "java/lang/Object") (nq : ua ≠ ub) (O0 : Old Z n0 h0) (hF : own_Fac Z ue ude kde uel uem kem uemp urec umi) :
    own_Met l Z (⟨"java/util/ArrayList", "add", "(Ljava/lang/Object;[Ljava/lang/Object;I)V"⟩ : MethodName) jdk_38_method_24_code 4 none ws ({ frames := 0, cells := 0, slots := 0, locals := 0 } : Room) #[(.ref ua), (.ref ue), (.ref ub), (.int (2 : Int32))] h0 (Q_ad3_2 Z ua ub kb ue ude kde uel uem kem uemp urec umi h0 n0) := by
  refine own_enter (own := "java/util/ArrayList") (plainFor_of_name pn_6) rfl ?_
  intro p e s m below meth c s₁ hlk hret hx hby hml hown hnm hZ X0 e0
  have N0 := Fr.nil n0
  refine own_cast (ef_ad3_2 m ua ue ub) ?_
  obtain ⟨Se, Ee, Sd, Ad, Sl, El, Fl, Am, Sm, Em, Sr, Er, Fr1, Fr0, Mi⟩ := id hF
  show own_Go _ _ _ _ (s₁.setTop (mkF m 0 #[.val (.ref ua), .val (.ref ue), .val (.ref ub), .val (.int (2 : Int32))] []))
  refine own_go (fun t k => XS.iloadN X0.here hx rfl (hb hby d_j38_24_0) rfl k) ?_
  show own_Go _ _ _ _ (s₁.setTop (mkF m 1 #[.val (.ref ua), .val (.ref ue), .val (.ref ub), .val (.int (2 : Int32))] [(.int (2 : Int32))]))
  refine own_go (fun t k => XS.aloadN X0.here hx rfl (hb hby d_j38_24_1) rfl rfl k) ?_
  show own_Go _ _ _ _ (s₁.setTop (mkF m 2 #[.val (.ref ua), .val (.ref ue), .val (.ref ub), .val (.int (2 : Int32))] [(.ref ub), (.int (2 : Int32))]))
  obtain ⟨cl141, Ar141, qk141, sz141, nn141, ha141, gf141⟩ := id B0
  refine own_go (X0.arraylength hx (by rw [e0]; exact Ar141.1) (State.isArrayOf_alike hZ.alike Ar141.2.1) (g := (mkF m 2 #[.val (.ref ua), .val (.ref ue), .val (.ref ub), .val (.int (2 : Int32))] [(.ref ub), (.int (2 : Int32))])) rfl rfl (hb hby d_j38_24_2)) ?_
  rw [len_of sz141 nn141]
  show own_Go _ _ _ _ (s₁.setTop (mkF m 3 #[.val (.ref ua), .val (.ref ue), .val (.ref ub), .val (.int (2 : Int32))] [(.int (10 : Int32)), (.int (2 : Int32))]))
  refine own_go (fun t k => XS.icmpYes X0.here hx rfl (pc0 := 3) (pc' := 11) rfl (hb hby d_j38_24_3) rfl (feq (by decide : ¬ ((2 : Int32) = (10 : Int32)))).2 (by decide) (by decide) k) ?_
  show own_Go _ _ _ _ (s₁.setTop (mkF m 11 #[.val (.ref ua), .val (.ref ue), .val (.ref ub), .val (.int (2 : Int32))] []))
  refine own_go (fun t k => XS.aloadN X0.here hx rfl (hb hby d_j38_24_11) rfl rfl k) ?_
  show own_Go _ _ _ _ (s₁.setTop (mkF m 12 #[.val (.ref ua), .val (.ref ue), .val (.ref ub), .val (.int (2 : Int32))] [(.ref ub)]))
  refine own_go (fun t k => XS.iloadN X0.here hx rfl (hb hby d_j38_24_12) rfl k) ?_
  show own_Go _ _ _ _ (s₁.setTop (mkF m 13 #[.val (.ref ua), .val (.ref ue), .val (.ref ub), .val (.int (2 : Int32))] [(.int (2 : Int32)), (.ref ub)]))
  refine own_go (fun t k => XS.aloadN X0.here hx rfl (hb hby d_j38_24_13) rfl rfl k) ?_
  show own_Go _ _ _ _ (s₁.setTop (mkF m 14 #[.val (.ref ua), .val (.ref ue), .val (.ref ub), .val (.int (2 : Int32))] [(.ref ue), (.int (2 : Int32)), (.ref ub)]))
  obtain ⟨cl142, Ar142, qk142, sz142, nn142, ha142, gf142⟩ := id B0
  have hin142 : ¬ ((2 : Int32) < 0 ∨ cl142.slots.size ≤ ((2 : Int32)).toNatClampNeg) := inb_of sz142 ⟨by decide, by decide⟩
  obtain ⟨T143, h143, X143, e143, W143, st143⟩ := stR X0 hx hZ e0 Ar142 (j := (2 : Int32)) hin142 rfl (Sto.ofV Ar142 qk142 O1 (Ins.of_exa (Ee.ext O0.2) (w_104 hw))) (g := (mkF m 14 #[.val (.ref ua), .val (.ref ue), .val (.ref ub), .val (.int (2 : Int32))] [(.ref ue), (.int (2 : Int32)), (.ref ub)])) rfl rfl (hb hby d_j38_24_14)
  refine own_go st143 ?_
  have V143 : Arv Z h143 ub kb (.object "java/lang/Object") (10 : Int32) [(.ref ue), (.ref ue), (.ref ue), .null, .null, .null, .null, .null, .null, .null] .null := Arv.set Ar142 qk142 sz142 nn142 ha142 gf142 rfl W143 2 rfl (Nat.le_of_ble_eq_true rfl)
  have Z143 : n0 ≤ h143.size := (Nat.le_trans Z0 (Nat.le_of_eq W143.size.symm))
  have N143 := Fr.snoc X143 N0 q1
  have K143 : Keep h0 h143 [ua, ub] := (Keep.refl h0 [ua, ub]).wr W143 (Or.inl (List.mem_of_getElem? (i := 1) rfl))
  show own_Go _ _ _ _ (T143.setTop (mkF m 15 #[.val (.ref ua), .val (.ref ue), .val (.ref ub), .val (.int (2 : Int32))] []))
  refine own_go (fun t k => XS.aloadN X143.here hx rfl (hb hby d_j38_24_15) rfl rfl k) ?_
  show own_Go _ _ _ _ (T143.setTop (mkF m 16 #[.val (.ref ua), .val (.ref ue), .val (.ref ub), .val (.int (2 : Int32))] [(.ref ua)]))
  refine own_go (fun t k => XS.iloadN X143.here hx rfl (hb hby d_j38_24_16) rfl k) ?_
  show own_Go _ _ _ _ (T143.setTop (mkF m 17 #[.val (.ref ua), .val (.ref ue), .val (.ref ub), .val (.int (2 : Int32))] [(.int (2 : Int32)), (.ref ua)]))
  refine own_go (fun t k => XS.iconst X143.here hx rfl (hb hby d_j38_24_17) k) ?_
  show own_Go _ _ _ _ (T143.setTop (mkF m 18 #[.val (.ref ua), .val (.ref ue), .val (.ref ub), .val (.int (2 : Int32))] [(.int (1 : Int32)), (.int (2 : Int32)), (.ref ua)]))
  refine own_go (fun t k => XS.iadd X143.here hx rfl (hb hby d_j38_24_18) rfl k) ?_
  show own_Go _ _ _ _ (T143.setTop (mkF m 19 #[.val (.ref ua), .val (.ref ue), .val (.ref ub), .val (.int (2 : Int32))] [(.int (3 : Int32)), (.ref ua)]))
  obtain ⟨T144, h144, X144, e144, W144, st144⟩ := putF X143 hx hZ hown (host := "") (Or.inl (w_61 hw)) Via.refl e143 (F2.other W143 (Or.inl nq)) (E0.wr W143) (Or.inl (w_62 hw)) (w_1 hw) (ty := .int) (by decide) rfl rfl (g := (mkF m 19 #[.val (.ref ua), .val (.ref ue), .val (.ref ub), .val (.int (2 : Int32))] [(.int (3 : Int32)), (.ref ua)])) rfl rfl (hb hby d_j38_24_19)
  refine own_go st144 ?_
  have F144 := (F2.other W143 (Or.inl nq)).same W144
  have Z144 : n0 ≤ h144.size := (Nat.le_trans Z143 (Nat.le_of_eq W144.size.symm))
  have N144 := Fr.snoc X144 N143 q0
  have K144 : Keep h0 h144 [ua, ub] := K143.wr W144 (Or.inl (List.mem_of_getElem? (i := 0) rfl))
  have f145 := ((F1.other W143 (Or.inl nq)).other W144 (Or.inr (slot_ne (Or.inl (w_25 hw)) (Or.inl (w_62 hw)) (by decide) (t := (.array (.object "java/lang/Object"))) (t' := .int) (by decide) (by decide))))
  have f146 := ((F0.other W143 (Or.inl nq)).other W144 (Or.inr (slot_ne (Or.inl (w_22 hw)) (Or.inl (w_62 hw)) (by decide) (t := .int) (t' := .int) (by decide) (by decide))))
  show own_Go _ _ _ _ (T144.setTop (mkF m 22 #[.val (.ref ua), .val (.ref ue), .val (.ref ub), .val (.int (2 : Int32))] []))
  refine own_retV X144 hx hlk hret (hb hby d_j38_24_22) ?_ (by decide) (by decide)
  rw [e144]
  exact ⟨rfl, N144, K144, (V143.other W144 (Ne.symm nq)), f146, f145, F144⟩
def Q_ad3_3 (Z : State) (ua : Addr) (ub : Addr) (kb : ClassId) (ue : Addr) (ude : Addr) (kde : ClassId) (uel : Addr) (uem : Addr) (kem : ClassId) (uemp : Addr) (urec : Addr) (umi : Addr) (h0 : Heap) (n0 : Nat) (v : Option Value) (h : Heap) (L : List Loc) : Prop := v = none ∧ Fr n0 L ∧ Keep h0 h [ua, ub] ∧ Arv Z h ub kb (.object "java/lang/Object") (10 : Int32) [(.ref ue), (.ref ue), (.ref ue), (.ref ue), .null, .null, .null, .null, .null, .null] .null ∧ Fld Z h ua "java/util/AbstractList" "modCount" "I" (.int (4 : Int32)) ∧ Fld Z h ua "java/util/ArrayList" "elementData" "[Ljava/lang/Object;" (.ref ub) ∧ Fld Z h ua "java/util/ArrayList" "size" "I" (.int (4 : Int32))
theorem ef_ad3_3 (m : MethodId) (ua : Addr) (ue : Addr) (ub : Addr) : entryFrame m #[(.ref ua), (.ref ue), (.ref ub), (.int (3 : Int32))] 4 = mkF m 0 #[.val (.ref ua), .val (.ref ue), .val (.ref ub), .val (.int (3 : Int32))] [] := by first | (simp [entryFrame, mkF, argsToLocals, Value.category]; done) | rfl
set_option maxRecDepth 65536 in
set_option maxHeartbeats 40000000 in
theorem rm_ad3_3 (l : Launch) (Z : State) (a0 : Array Value) (hw : ∀ d ∈ tables_1, d.before a0 Z = true) (ws : List Jvm.Cond) (ua ub : Addr) (kb : ClassId) (ue ude : Addr) (kde : ClassId) (uel uem : Addr) (kem : ClassId) (uemp urec umi : Addr) (h0 : Heap) (n0 : Nat) (Z0 : n0 ≤ h0.size) (q0 : n0 ≤ ua) (E0 : Exa Z h0 ua "java/util/ArrayList") (F0 : Fld Z h0 ua "java/util/AbstractList" "modCount" "I" (.int (4 : Int32))) (F1 : Fld Z h0 ua "java/util/ArrayList" "elementData" "[Ljava/lang/Object;" (.ref ub)) (F2 : Fld Z h0 ua "java/util/ArrayList" "size" "I" (.int (3 : Int32))) (B0 : Arv Z h0 ub kb (.object "java/lang/Object") (10 : Int32) [(.ref ue), (.ref ue), (.ref ue), .null, .null, .null, .null, .null, .null, .null] .null) (q1 : n0 ≤ ub) (O1 : Ovr Z kb "java/lang/Object") (nq : ua ≠ ub) (O0 : Old Z n0 h0) (hF : own_Fac Z ue ude kde uel uem kem uemp urec umi) :
    own_Met l Z (⟨"java/util/ArrayList", "add", "(Ljava/lang/Object;[Ljava/lang/Object;I)V"⟩ : MethodName) jdk_38_method_24_code 4 none ws ({ frames := 0, cells := 0, slots := 0, locals := 0 } : Room) #[(.ref ua), (.ref ue), (.ref ub), (.int (3 : Int32))] h0 (Q_ad3_3 Z ua ub kb ue ude kde uel uem kem uemp urec umi h0 n0) := by
  refine own_enter (own := "java/util/ArrayList") (plainFor_of_name pn_6) rfl ?_
  intro p e s m below meth c s₁ hlk hret hx hby hml hown hnm hZ X0 e0
  have N0 := Fr.nil n0
  refine own_cast (ef_ad3_3 m ua ue ub) ?_
  obtain ⟨Se, Ee, Sd, Ad, Sl, El, Fl, Am, Sm, Em, Sr, Er, Fr1, Fr0, Mi⟩ := id hF
  show own_Go _ _ _ _ (s₁.setTop (mkF m 0 #[.val (.ref ua), .val (.ref ue), .val (.ref ub), .val (.int (3 : Int32))] []))
  refine own_go (fun t k => XS.iloadN X0.here hx rfl (hb hby d_j38_24_0) rfl k) ?_
  show own_Go _ _ _ _ (s₁.setTop (mkF m 1 #[.val (.ref ua), .val (.ref ue), .val (.ref ub), .val (.int (3 : Int32))] [(.int (3 : Int32))]))
  refine own_go (fun t k => XS.aloadN X0.here hx rfl (hb hby d_j38_24_1) rfl rfl k) ?_
  show own_Go _ _ _ _ (s₁.setTop (mkF m 2 #[.val (.ref ua), .val (.ref ue), .val (.ref ub), .val (.int (3 : Int32))] [(.ref ub), (.int (3 : Int32))]))
  obtain ⟨cl147, Ar147, qk147, sz147, nn147, ha147, gf147⟩ := id B0
  refine own_go (X0.arraylength hx (by rw [e0]; exact Ar147.1) (State.isArrayOf_alike hZ.alike Ar147.2.1) (g := (mkF m 2 #[.val (.ref ua), .val (.ref ue), .val (.ref ub), .val (.int (3 : Int32))] [(.ref ub), (.int (3 : Int32))])) rfl rfl (hb hby d_j38_24_2)) ?_
  rw [len_of sz147 nn147]
  show own_Go _ _ _ _ (s₁.setTop (mkF m 3 #[.val (.ref ua), .val (.ref ue), .val (.ref ub), .val (.int (3 : Int32))] [(.int (10 : Int32)), (.int (3 : Int32))]))
  refine own_go (fun t k => XS.icmpYes X0.here hx rfl (pc0 := 3) (pc' := 11) rfl (hb hby d_j38_24_3) rfl (feq (by decide : ¬ ((3 : Int32) = (10 : Int32)))).2 (by decide) (by decide) k) ?_
  show own_Go _ _ _ _ (s₁.setTop (mkF m 11 #[.val (.ref ua), .val (.ref ue), .val (.ref ub), .val (.int (3 : Int32))] []))
  refine own_go (fun t k => XS.aloadN X0.here hx rfl (hb hby d_j38_24_11) rfl rfl k) ?_
  show own_Go _ _ _ _ (s₁.setTop (mkF m 12 #[.val (.ref ua), .val (.ref ue), .val (.ref ub), .val (.int (3 : Int32))] [(.ref ub)]))
  refine own_go (fun t k => XS.iloadN X0.here hx rfl (hb hby d_j38_24_12) rfl k) ?_
  show own_Go _ _ _ _ (s₁.setTop (mkF m 13 #[.val (.ref ua), .val (.ref ue), .val (.ref ub), .val (.int (3 : Int32))] [(.int (3 : Int32)), (.ref ub)]))
  refine own_go (fun t k => XS.aloadN X0.here hx rfl (hb hby d_j38_24_13) rfl rfl k) ?_
  show own_Go _ _ _ _ (s₁.setTop (mkF m 14 #[.val (.ref ua), .val (.ref ue), .val (.ref ub), .val (.int (3 : Int32))] [(.ref ue), (.int (3 : Int32)), (.ref ub)]))
  obtain ⟨cl148, Ar148, qk148, sz148, nn148, ha148, gf148⟩ := id B0
  have hin148 : ¬ ((3 : Int32) < 0 ∨ cl148.slots.size ≤ ((3 : Int32)).toNatClampNeg) := inb_of sz148 ⟨by decide, by decide⟩
  obtain ⟨T149, h149, X149, e149, W149, st149⟩ := stR X0 hx hZ e0 Ar148 (j := (3 : Int32)) hin148 rfl (Sto.ofV Ar148 qk148 O1 (Ins.of_exa (Ee.ext O0.2) (w_104 hw))) (g := (mkF m 14 #[.val (.ref ua), .val (.ref ue), .val (.ref ub), .val (.int (3 : Int32))] [(.ref ue), (.int (3 : Int32)), (.ref ub)])) rfl rfl (hb hby d_j38_24_14)
  refine own_go st149 ?_
  have V149 : Arv Z h149 ub kb (.object "java/lang/Object") (10 : Int32) [(.ref ue), (.ref ue), (.ref ue), (.ref ue), .null, .null, .null, .null, .null, .null] .null := Arv.set Ar148 qk148 sz148 nn148 ha148 gf148 rfl W149 3 rfl (Nat.le_of_ble_eq_true rfl)
  have Z149 : n0 ≤ h149.size := (Nat.le_trans Z0 (Nat.le_of_eq W149.size.symm))
  have N149 := Fr.snoc X149 N0 q1
  have K149 : Keep h0 h149 [ua, ub] := (Keep.refl h0 [ua, ub]).wr W149 (Or.inl (List.mem_of_getElem? (i := 1) rfl))
  show own_Go _ _ _ _ (T149.setTop (mkF m 15 #[.val (.ref ua), .val (.ref ue), .val (.ref ub), .val (.int (3 : Int32))] []))
  refine own_go (fun t k => XS.aloadN X149.here hx rfl (hb hby d_j38_24_15) rfl rfl k) ?_
  show own_Go _ _ _ _ (T149.setTop (mkF m 16 #[.val (.ref ua), .val (.ref ue), .val (.ref ub), .val (.int (3 : Int32))] [(.ref ua)]))
  refine own_go (fun t k => XS.iloadN X149.here hx rfl (hb hby d_j38_24_16) rfl k) ?_
  show own_Go _ _ _ _ (T149.setTop (mkF m 17 #[.val (.ref ua), .val (.ref ue), .val (.ref ub), .val (.int (3 : Int32))] [(.int (3 : Int32)), (.ref ua)]))
  refine own_go (fun t k => XS.iconst X149.here hx rfl (hb hby d_j38_24_17) k) ?_
  show own_Go _ _ _ _ (T149.setTop (mkF m 18 #[.val (.ref ua), .val (.ref ue), .val (.ref ub), .val (.int (3 : Int32))] [(.int (1 : Int32)), (.int (3 : Int32)), (.ref ua)]))
  refine own_go (fun t k => XS.iadd X149.here hx rfl (hb hby d_j38_24_18) rfl k) ?_
  show own_Go _ _ _ _ (T149.setTop (mkF m 19 #[.val (.ref ua), .val (.ref ue), .val (.ref ub), .val (.int (3 : Int32))] [(.int (4 : Int32)), (.ref ua)]))
  obtain ⟨T150, h150, X150, e150, W150, st150⟩ := putF X149 hx hZ hown (host := "") (Or.inl (w_61 hw)) Via.refl e149 (F2.other W149 (Or.inl nq)) (E0.wr W149) (Or.inl (w_62 hw)) (w_1 hw) (ty := .int) (by decide) rfl rfl (g := (mkF m 19 #[.val (.ref ua), .val (.ref ue), .val (.ref ub), .val (.int (3 : Int32))] [(.int (4 : Int32)), (.ref ua)])) rfl rfl (hb hby d_j38_24_19)
  refine own_go st150 ?_
  have F150 := (F2.other W149 (Or.inl nq)).same W150
  have Z150 : n0 ≤ h150.size := (Nat.le_trans Z149 (Nat.le_of_eq W150.size.symm))
  have N150 := Fr.snoc X150 N149 q0
  have K150 : Keep h0 h150 [ua, ub] := K149.wr W150 (Or.inl (List.mem_of_getElem? (i := 0) rfl))
  have f151 := ((F1.other W149 (Or.inl nq)).other W150 (Or.inr (slot_ne (Or.inl (w_25 hw)) (Or.inl (w_62 hw)) (by decide) (t := (.array (.object "java/lang/Object"))) (t' := .int) (by decide) (by decide))))
  have f152 := ((F0.other W149 (Or.inl nq)).other W150 (Or.inr (slot_ne (Or.inl (w_22 hw)) (Or.inl (w_62 hw)) (by decide) (t := .int) (t' := .int) (by decide) (by decide))))
  show own_Go _ _ _ _ (T150.setTop (mkF m 22 #[.val (.ref ua), .val (.ref ue), .val (.ref ub), .val (.int (3 : Int32))] []))
  refine own_retV X150 hx hlk hret (hb hby d_j38_24_22) ?_ (by decide) (by decide)
  rw [e150]
  exact ⟨rfl, N150, K150, (V149.other W150 (Ne.symm nq)), f152, f151, F150⟩
def Q_ad1_0 (Z : State) (ua : Addr) (ue : Addr) (ude : Addr) (kde : ClassId) (uel : Addr) (uem : Addr) (kem : ClassId) (uemp : Addr) (urec : Addr) (umi : Addr) (h0 : Heap) (n0 : Nat) (v : Option Value) (h : Heap) (L : List Loc) : Prop := ∃ (ub : Addr) (kb : ClassId), v = some (.int 1) ∧ Fr n0 L ∧ Keep h0 h [ua] ∧ h0.size ≤ ub ∧ n0 ≤ ub ∧ Ovr Z kb "java/lang/Object" ∧ Exa Z h ub "[Ljava/lang/Object;" ∧ Arv Z h ub kb (.object "java/lang/Object") (10 : Int32) [(.ref ue), .null, .null, .null, .null, .null, .null, .null, .null, .null] .null ∧ Fld Z h ua "java/util/AbstractList" "modCount" "I" (.int (1 : Int32)) ∧ Fld Z h ua "java/util/ArrayList" "elementData" "[Ljava/lang/Object;" (.ref ub) ∧ Fld Z h ua "java/util/ArrayList" "size" "I" (.int (1 : Int32))
theorem ef_ad1_0 (m : MethodId) (ua : Addr) (ue : Addr) : entryFrame m #[(.ref ua), (.ref ue)] 2 = mkF m 0 #[.val (.ref ua), .val (.ref ue)] [] := by first | (simp [entryFrame, mkF, argsToLocals, Value.category]; done) | rfl
theorem d_j38_25_0 : decode jdk_38_method_25_code 0 = .ok (.aload_n 0, 1) := by decide +kernel
theorem d_j38_25_1 : decode jdk_38_method_25_code 1 = .ok (.dup, 1) := by decide +kernel
theorem w_81 {Z : State} {a0 : Array Value} (hw : ∀ d ∈ tables_1, d.before a0 Z = true) : (Jvm.Cond.fieldLink "java/util/ArrayList" (63 : Nat) "java/util/ArrayList" "modCount" "I").before a0 Z = true := hw _ (List.mem_of_getElem? (i := 81) rfl)
theorem w_82 {Z : State} {a0 : Array Value} (hw : ∀ d ∈ tables_1, d.before a0 Z = true) : (Jvm.Cond.sameField "java/util/ArrayList" "java/util/AbstractList" "modCount" "I").before a0 Z = true := hw _ (List.mem_of_getElem? (i := 82) rfl)
theorem d_j38_25_2 : decode jdk_38_method_25_code 2 = .ok (.getfield 63, 3) := by decide +kernel
theorem d_j38_25_5 : decode jdk_38_method_25_code 5 = .ok (.iconst 1, 1) := by decide +kernel
theorem d_j38_25_6 : decode jdk_38_method_25_code 6 = .ok (.iadd, 1) := by decide +kernel
theorem d_j38_25_7 : decode jdk_38_method_25_code 7 = .ok (.putfield 63, 3) := by decide +kernel
theorem d_j38_25_10 : decode jdk_38_method_25_code 10 = .ok (.aload_n 0, 1) := by decide +kernel
theorem d_j38_25_11 : decode jdk_38_method_25_code 11 = .ok (.aload_n 1, 1) := by decide +kernel
theorem d_j38_25_12 : decode jdk_38_method_25_code 12 = .ok (.aload_n 0, 1) := by decide +kernel
theorem d_j38_25_13 : decode jdk_38_method_25_code 13 = .ok (.getfield 9, 3) := by decide +kernel
theorem d_j38_25_16 : decode jdk_38_method_25_code 16 = .ok (.aload_n 0, 1) := by decide +kernel
theorem d_j38_25_17 : decode jdk_38_method_25_code 17 = .ok (.getfield 48, 3) := by decide +kernel
theorem w_83 {Z : State} {a0 : Array Value} (hw : ∀ d ∈ tables_1, d.before a0 Z = true) : (Jvm.Cond.methodLink "java/util/ArrayList" (131 : Nat) ({ cls := "java/util/ArrayList", name := "add", desc := "(Ljava/lang/Object;[Ljava/lang/Object;I)V" } : Jvm.MethodName)).before a0 Z = true := hw _ (List.mem_of_getElem? (i := 83) rfl)
theorem w_87 {Z : State} {a0 : Array Value} (hw : ∀ d ∈ tables_1, d.before a0 Z = true) : (Jvm.Cond.code ({ cls := "java/util/ArrayList", name := "add", desc := "(Ljava/lang/Object;[Ljava/lang/Object;I)V" } : Jvm.MethodName) jdk_38_method_24_code (4 : Nat) (Option.none : Option Jvm.ClassFile.FieldType)).before a0 Z = true := hw _ (List.mem_of_getElem? (i := 87) rfl)
theorem pd_4 : parseMethodDescriptor "(Ljava/lang/Object;[Ljava/lang/Object;I)V" = some ⟨[(.object "java/lang/Object"), (.array (.object "java/lang/Object")), .int], none⟩ := by decide +kernel
theorem d_j38_25_20 : decode jdk_38_method_25_code 20 = .ok (.invokevirtual 131, 3) := by decide +kernel
theorem w_85 {Z : State} {a0 : Array Value} (hw : ∀ d ∈ tables_1, d.before a0 Z = true) : (Jvm.Cond.privateMethod ({ cls := "java/util/ArrayList", name := "add", desc := "(Ljava/lang/Object;[Ljava/lang/Object;I)V" } : Jvm.MethodName)).before a0 Z = true := hw _ (List.mem_of_getElem? (i := 85) rfl)
theorem w_84 {Z : State} {a0 : Array Value} (hw : ∀ d ∈ tables_1, d.before a0 Z = true) : (Jvm.Cond.instanceMethod ({ cls := "java/util/ArrayList", name := "add", desc := "(Ljava/lang/Object;[Ljava/lang/Object;I)V" } : Jvm.MethodName)).before a0 Z = true := hw _ (List.mem_of_getElem? (i := 84) rfl)
theorem w_86 {Z : State} {a0 : Array Value} (hw : ∀ d ∈ tables_1, d.before a0 Z = true) : (Jvm.Cond.selects "java/util/ArrayList" ({ cls := "java/util/ArrayList", name := "add", desc := "(Ljava/lang/Object;[Ljava/lang/Object;I)V" } : Jvm.MethodName) ({ cls := "java/util/ArrayList", name := "add", desc := "(Ljava/lang/Object;[Ljava/lang/Object;I)V" } : Jvm.MethodName)).before a0 Z = true := hw _ (List.mem_of_getElem? (i := 86) rfl)
theorem d_j38_25_23 : decode jdk_38_method_25_code 23 = .ok (.iconst 1, 1) := by decide +kernel
theorem d_j38_25_24 : decode jdk_38_method_25_code 24 = .ok (.ireturn, 1) := by decide +kernel
set_option maxRecDepth 65536 in
set_option maxHeartbeats 40000000 in
theorem rm_ad1_0 (l : Launch) (Z : State) (a0 : Array Value) (hw : ∀ d ∈ tables_1, d.before a0 Z = true) (ws : List Jvm.Cond) (ua ue ude : Addr) (kde : ClassId) (uel uem : Addr) (kem : ClassId) (uemp urec umi : Addr) (h0 : Heap) (n0 : Nat) (Z0 : n0 ≤ h0.size) (q0 : n0 ≤ ua) (E0 : Exa Z h0 ua "java/util/ArrayList") (F0 : Fld Z h0 ua "java/util/AbstractList" "modCount" "I" (.int (0 : Int32))) (F1 : Fld Z h0 ua "java/util/ArrayList" "elementData" "[Ljava/lang/Object;" (.ref ude)) (F2 : Fld Z h0 ua "java/util/ArrayList" "size" "I" (.int (0 : Int32))) (O0 : Old Z n0 h0) (hF : own_Fac Z ue ude kde uel uem kem uemp urec umi) :
    own_Met l Z (⟨"java/util/ArrayList", "add", "(Ljava/lang/Object;)Z"⟩ : MethodName) jdk_38_method_25_code 2 (some .boolean) ws ({ frames := 4, cells := 1, slots := 10, locals := 56 } : Room) #[(.ref ua), (.ref ue)] h0 (Q_ad1_0 Z ua ue ude kde uel uem kem uemp urec umi h0 n0) := by
  refine own_enter (own := "java/util/ArrayList") (plainFor_of_name pn_6) rfl ?_
  intro p e s m below meth c s₁ hlk hret hx hby hml hown hnm hZ X0 e0
  have N0 := Fr.nil n0
  refine own_cast (ef_ad1_0 m ua ue) ?_
  obtain ⟨Se, Ee, Sd, Ad, Sl, El, Fl, Am, Sm, Em, Sr, Er, Fr1, Fr0, Mi⟩ := id hF
  show own_Go _ _ _ _ (s₁.setTop (mkF m 0 #[.val (.ref ua), .val (.ref ue)] []))
  refine own_go (fun t k => XS.aloadN X0.here hx rfl (hb hby d_j38_25_0) rfl rfl k) ?_
  show own_Go _ _ _ _ (s₁.setTop (mkF m 1 #[.val (.ref ua), .val (.ref ue)] [(.ref ua)]))
  refine own_go (fun t k => XS.dup X0.here hx rfl (hb hby d_j38_25_1) rfl rfl k) ?_
  show own_Go _ _ _ _ (s₁.setTop (mkF m 2 #[.val (.ref ua), .val (.ref ue)] [(.ref ua), (.ref ua)]))
  obtain ⟨T153, X153, e153, st153⟩ := getF X0 hx hZ hown (host := "") (Or.inl (w_81 hw)) (Via.of (w_82 hw)) e0 F0 (g := (mkF m 2 #[.val (.ref ua), .val (.ref ue)] [(.ref ua), (.ref ua)])) rfl rfl (hb hby d_j38_25_2)
  refine own_go st153 ?_
  show own_Go _ _ _ _ (T153.setTop (mkF m 5 #[.val (.ref ua), .val (.ref ue)] [(.int (0 : Int32)), (.ref ua)]))
  refine own_go (fun t k => XS.iconst X153.here hx rfl (hb hby d_j38_25_5) k) ?_
  show own_Go _ _ _ _ (T153.setTop (mkF m 6 #[.val (.ref ua), .val (.ref ue)] [(.int (1 : Int32)), (.int (0 : Int32)), (.ref ua)]))
  refine own_go (fun t k => XS.iadd X153.here hx rfl (hb hby d_j38_25_6) rfl k) ?_
  show own_Go _ _ _ _ (T153.setTop (mkF m 7 #[.val (.ref ua), .val (.ref ue)] [(.int (1 : Int32)), (.ref ua)]))
  obtain ⟨T154, h154, X154, e154, W154, st154⟩ := putF X153 hx hZ hown (host := "") (Or.inl (w_81 hw)) (Via.of (w_82 hw)) e153 F0 E0 (Or.inl (w_22 hw)) (w_1 hw) (ty := .int) (by decide) rfl rfl (g := (mkF m 7 #[.val (.ref ua), .val (.ref ue)] [(.int (1 : Int32)), (.ref ua)])) rfl rfl (hb hby d_j38_25_7)
  refine own_go st154 ?_
  have F154 := F0.same W154
  have Z154 : n0 ≤ h154.size := (Nat.le_trans Z0 (Nat.le_of_eq W154.size.symm))
  have N154 := Fr.snoc X154 N0 q0
  have K154 : Keep h0 h154 [ua] := (Keep.refl h0 [ua]).wr W154 (Or.inl (List.mem_of_getElem? (i := 0) rfl))
  show own_Go _ _ _ _ (T154.setTop (mkF m 10 #[.val (.ref ua), .val (.ref ue)] []))
  refine own_go (fun t k => XS.aloadN X154.here hx rfl (hb hby d_j38_25_10) rfl rfl k) ?_
  show own_Go _ _ _ _ (T154.setTop (mkF m 11 #[.val (.ref ua), .val (.ref ue)] [(.ref ua)]))
  refine own_go (fun t k => XS.aloadN X154.here hx rfl (hb hby d_j38_25_11) rfl rfl k) ?_
  show own_Go _ _ _ _ (T154.setTop (mkF m 12 #[.val (.ref ua), .val (.ref ue)] [(.ref ue), (.ref ua)]))
  refine own_go (fun t k => XS.aloadN X154.here hx rfl (hb hby d_j38_25_12) rfl rfl k) ?_
  show own_Go _ _ _ _ (T154.setTop (mkF m 13 #[.val (.ref ua), .val (.ref ue)] [(.ref ua), (.ref ue), (.ref ua)]))
  have f155 := (F1.other W154 (Or.inr (slot_ne (Or.inl (w_25 hw)) (Or.inl (w_22 hw)) (by decide) (t := (.array (.object "java/lang/Object"))) (t' := .int) (by decide) (by decide))))
  obtain ⟨T156, X156, e156, st156⟩ := getF X154 hx hZ hown (host := "") (Or.inl (w_24 hw)) Via.refl e154 f155 (g := (mkF m 13 #[.val (.ref ua), .val (.ref ue)] [(.ref ua), (.ref ue), (.ref ua)])) rfl rfl (hb hby d_j38_25_13)
  refine own_go st156 ?_
  show own_Go _ _ _ _ (T156.setTop (mkF m 16 #[.val (.ref ua), .val (.ref ue)] [(.ref ude), (.ref ue), (.ref ua)]))
  refine own_go (fun t k => XS.aloadN X156.here hx rfl (hb hby d_j38_25_16) rfl rfl k) ?_
  show own_Go _ _ _ _ (T156.setTop (mkF m 17 #[.val (.ref ua), .val (.ref ue)] [(.ref ua), (.ref ude), (.ref ue), (.ref ua)]))
  have f157 := (F2.other W154 (Or.inr (slot_ne (Or.inl (w_62 hw)) (Or.inl (w_22 hw)) (by decide) (t := .int) (t' := .int) (by decide) (by decide))))
  obtain ⟨T158, X158, e158, st158⟩ := getF X156 hx hZ hown (host := "") (Or.inl (w_61 hw)) Via.refl e156 f157 (g := (mkF m 17 #[.val (.ref ua), .val (.ref ue)] [(.ref ua), (.ref ude), (.ref ue), (.ref ua)])) rfl rfl (hb hby d_j38_25_17)
  refine own_go st158 ?_
  show own_Go _ _ _ _ (T158.setTop (mkF m 20 #[.val (.ref ua), .val (.ref ue)] [(.int (0 : Int32)), (.ref ude), (.ref ue), (.ref ua)]))
  obtain ⟨cq159, q159, q159'⟩ := (E0.wr W154).cell
  obtain ⟨_, _, ⟨T159, L159, k159, n159⟩, -, X159, ⟨Lc159, hQ159, l159, y159, z159⟩, st159⟩ := X158.privateBack hx (y := (⟨"java/util/ArrayList", "add", "(Ljava/lang/Object;[Ljava/lang/Object;I)V"⟩ : MethodName)) hown (mvT hZ (w_83 hw)) (mvT hZ (w_84 hw)) (mvT hZ (w_86 hw)) (Cond.privateMethod_at (mvP hZ (w_85 hw) (args := #[]))) (mvT hZ (w_87 hw)) (by decide) (backOf (W := 0) (rm_ad3_0 l Z a0 hw [] ua ue ude kde uel uem kem uemp urec umi h154 n0 Z154 q0 (E0.wr W154) F154 f155 f157 (O0.wr W154 q0) hF) hZ (w_87 hw) (w_2 hw) (by decide) (by decide)) (g := (mkF m 20 #[.val (.ref ua), .val (.ref ue)] [(.int (0 : Int32)), (.ref ude), (.ref ue), (.ref ua)])) rfl (by rw [hml]; rfl) (Steps.refl _) (a := ua) (by rw [e158]; exact q159) q159' (argsL := [(.ref ue), (.ref ude), (.int (0 : Int32))]) (rest := []) (lenOf pd_4 rfl) rfl (by show 2 * 0 + _ ≤ _; exact Nat.le_of_eq rfl) (hb hby d_j38_25_20) (fun _ _ => ⟨rfl, e158, (by decide : 0 + 1 ≤ _), (by decide : 0 + 10 ≤ _)⟩)
  dsimp only [Pt.U, Pt.locs, Pt.cells, Pt.slots] at X159 l159 y159 z159 st159 hQ159
  subst l159 y159 z159
  generalize e159 : T159.heap = h159 at hQ159
  obtain ⟨ub159, kb159, rfl, N159q, K159q, lo159, q159, O159, Eb159, A159, Fa159, Fb159, Fc159⟩ := hQ159
  have N159 := Fr.app N154 N159q
  refine own_go (fun t k => st159.trans k) ?_
  have Z159 : n0 ≤ h159.size := (Nat.le_trans Z154 K159q.1)
  have K159 : Keep h0 h159 [ua] := K154.trans K159q (allS (Or.inl (List.mem_of_getElem? (i := 0) rfl)) all0)
  have hi159 := A159.lt
  show own_Go _ _ _ _ (T159.setTop (mkF m 23 #[.val (.ref ua), .val (.ref ue)] []))
  refine own_go (fun t k => XS.iconst X159.here hx rfl (hb hby d_j38_25_23) k) ?_
  show own_Go _ _ _ _ (T159.setTop (mkF m 24 #[.val (.ref ua), .val (.ref ue)] [(.int (1 : Int32))]))
  refine own_retN X159 hx hlk (t := .boolean) hret (by simp) (hb hby d_j38_25_24) ?_ (by decide) (by decide)
  rw [e159]
  exact ⟨ub159, kb159, rfl, N159, K159, (Nat.le_trans (Nat.le_of_eq W154.size.symm) lo159), q159, O159, Eb159, A159, Fa159, Fb159, Fc159⟩
def Q_ad1_1 (Z : State) (ua : Addr) (ub : Addr) (kb : ClassId) (ue : Addr) (ude : Addr) (kde : ClassId) (uel : Addr) (uem : Addr) (kem : ClassId) (uemp : Addr) (urec : Addr) (umi : Addr) (h0 : Heap) (n0 : Nat) (v : Option Value) (h : Heap) (L : List Loc) : Prop := v = some (.int 1) ∧ Fr n0 L ∧ Keep h0 h [ua, ub] ∧ Arv Z h ub kb (.object "java/lang/Object") (10 : Int32) [(.ref ue), (.ref ue), .null, .null, .null, .null, .null, .null, .null, .null] .null ∧ Fld Z h ua "java/util/AbstractList" "modCount" "I" (.int (2 : Int32)) ∧ Fld Z h ua "java/util/ArrayList" "elementData" "[Ljava/lang/Object;" (.ref ub) ∧ Fld Z h ua "java/util/ArrayList" "size" "I" (.int (2 : Int32))
theorem ef_ad1_1 (m : MethodId) (ua : Addr) (ue : Addr) : entryFrame m #[(.ref ua), (.ref ue)] 2 = mkF m 0 #[.val (.ref ua), .val (.ref ue)] [] := by first | (simp [entryFrame, mkF, argsToLocals, Value.category]; done) | rfl
set_option maxRecDepth 65536 in
set_option maxHeartbeats 40000000 in
theorem rm_ad1_1 (l : Launch) (Z : State) (a0 : Array Value) (hw : ∀ d ∈ tables_1, d.before a0 Z = true) (ws : List Jvm.Cond) (ua ub : Addr) (kb : ClassId) (ue ude : Addr) (kde : ClassId) (uel uem : Addr) (kem : ClassId) (uemp urec umi : Addr) (h0 : Heap) (n0 : Nat) (Z0 : n0 ≤ h0.size) (q0 : n0 ≤ ua) (E0 : Exa Z h0 ua "java/util/ArrayList") (F0 : Fld Z h0 ua "java/util/AbstractList" "modCount" "I" (.int (1 : Int32))) (F1 : Fld Z h0 ua "java/util/ArrayList" "elementData" "[Ljava/lang/Object;" (.ref ub)) (F2 : Fld Z h0 ua "java/util/ArrayList" "size" "I" (.int (1 : Int32))) (B0 : Arv Z h0 ub kb (.object "java/lang/Object") (10 : Int32) [(.ref ue), .null, .null, .null, .null, .null, .null, .null, .null, .null] .null) (q1 : n0 ≤ ub) (O1 : Ovr Z kb "java/lang/Object") (nq : ua ≠ ub) (O0 : Old Z n0 h0) (hF : own_Fac Z ue ude kde uel uem kem uemp urec umi) :
    own_Met l Z (⟨"java/util/ArrayList", "add", "(Ljava/lang/Object;)Z"⟩ : MethodName) jdk_38_method_25_code 2 (some .boolean) ws ({ frames := 1, cells := 0, slots := 0, locals := 15 } : Room) #[(.ref ua), (.ref ue)] h0 (Q_ad1_1 Z ua ub kb ue ude kde uel uem kem uemp urec umi h0 n0) := by
  refine own_enter (own := "java/util/ArrayList") (plainFor_of_name pn_6) rfl ?_
  intro p e s m below meth c s₁ hlk hret hx hby hml hown hnm hZ X0 e0
  have N0 := Fr.nil n0
  refine own_cast (ef_ad1_1 m ua ue) ?_
  obtain ⟨Se, Ee, Sd, Ad, Sl, El, Fl, Am, Sm, Em, Sr, Er, Fr1, Fr0, Mi⟩ := id hF
  show own_Go _ _ _ _ (s₁.setTop (mkF m 0 #[.val (.ref ua), .val (.ref ue)] []))
  refine own_go (fun t k => XS.aloadN X0.here hx rfl (hb hby d_j38_25_0) rfl rfl k) ?_
  show own_Go _ _ _ _ (s₁.setTop (mkF m 1 #[.val (.ref ua), .val (.ref ue)] [(.ref ua)]))
  refine own_go (fun t k => XS.dup X0.here hx rfl (hb hby d_j38_25_1) rfl rfl k) ?_
  show own_Go _ _ _ _ (s₁.setTop (mkF m 2 #[.val (.ref ua), .val (.ref ue)] [(.ref ua), (.ref ua)]))
  obtain ⟨T160, X160, e160, st160⟩ := getF X0 hx hZ hown (host := "") (Or.inl (w_81 hw)) (Via.of (w_82 hw)) e0 F0 (g := (mkF m 2 #[.val (.ref ua), .val (.ref ue)] [(.ref ua), (.ref ua)])) rfl rfl (hb hby d_j38_25_2)
  refine own_go st160 ?_
  show own_Go _ _ _ _ (T160.setTop (mkF m 5 #[.val (.ref ua), .val (.ref ue)] [(.int (1 : Int32)), (.ref ua)]))
  refine own_go (fun t k => XS.iconst X160.here hx rfl (hb hby d_j38_25_5) k) ?_
  show own_Go _ _ _ _ (T160.setTop (mkF m 6 #[.val (.ref ua), .val (.ref ue)] [(.int (1 : Int32)), (.int (1 : Int32)), (.ref ua)]))
  refine own_go (fun t k => XS.iadd X160.here hx rfl (hb hby d_j38_25_6) rfl k) ?_
  show own_Go _ _ _ _ (T160.setTop (mkF m 7 #[.val (.ref ua), .val (.ref ue)] [(.int (2 : Int32)), (.ref ua)]))
  obtain ⟨T161, h161, X161, e161, W161, st161⟩ := putF X160 hx hZ hown (host := "") (Or.inl (w_81 hw)) (Via.of (w_82 hw)) e160 F0 E0 (Or.inl (w_22 hw)) (w_1 hw) (ty := .int) (by decide) rfl rfl (g := (mkF m 7 #[.val (.ref ua), .val (.ref ue)] [(.int (2 : Int32)), (.ref ua)])) rfl rfl (hb hby d_j38_25_7)
  refine own_go st161 ?_
  have F161 := F0.same W161
  have Z161 : n0 ≤ h161.size := (Nat.le_trans Z0 (Nat.le_of_eq W161.size.symm))
  have N161 := Fr.snoc X161 N0 q0
  have K161 : Keep h0 h161 [ua, ub] := (Keep.refl h0 [ua, ub]).wr W161 (Or.inl (List.mem_of_getElem? (i := 0) rfl))
  show own_Go _ _ _ _ (T161.setTop (mkF m 10 #[.val (.ref ua), .val (.ref ue)] []))
  refine own_go (fun t k => XS.aloadN X161.here hx rfl (hb hby d_j38_25_10) rfl rfl k) ?_
  show own_Go _ _ _ _ (T161.setTop (mkF m 11 #[.val (.ref ua), .val (.ref ue)] [(.ref ua)]))
  refine own_go (fun t k => XS.aloadN X161.here hx rfl (hb hby d_j38_25_11) rfl rfl k) ?_
  show own_Go _ _ _ _ (T161.setTop (mkF m 12 #[.val (.ref ua), .val (.ref ue)] [(.ref ue), (.ref ua)]))
  refine own_go (fun t k => XS.aloadN X161.here hx rfl (hb hby d_j38_25_12) rfl rfl k) ?_
  show own_Go _ _ _ _ (T161.setTop (mkF m 13 #[.val (.ref ua), .val (.ref ue)] [(.ref ua), (.ref ue), (.ref ua)]))
  have f162 := (F1.other W161 (Or.inr (slot_ne (Or.inl (w_25 hw)) (Or.inl (w_22 hw)) (by decide) (t := (.array (.object "java/lang/Object"))) (t' := .int) (by decide) (by decide))))
  obtain ⟨T163, X163, e163, st163⟩ := getF X161 hx hZ hown (host := "") (Or.inl (w_24 hw)) Via.refl e161 f162 (g := (mkF m 13 #[.val (.ref ua), .val (.ref ue)] [(.ref ua), (.ref ue), (.ref ua)])) rfl rfl (hb hby d_j38_25_13)
  refine own_go st163 ?_
  show own_Go _ _ _ _ (T163.setTop (mkF m 16 #[.val (.ref ua), .val (.ref ue)] [(.ref ub), (.ref ue), (.ref ua)]))
  refine own_go (fun t k => XS.aloadN X163.here hx rfl (hb hby d_j38_25_16) rfl rfl k) ?_
  show own_Go _ _ _ _ (T163.setTop (mkF m 17 #[.val (.ref ua), .val (.ref ue)] [(.ref ua), (.ref ub), (.ref ue), (.ref ua)]))
  have f164 := (F2.other W161 (Or.inr (slot_ne (Or.inl (w_62 hw)) (Or.inl (w_22 hw)) (by decide) (t := .int) (t' := .int) (by decide) (by decide))))
  obtain ⟨T165, X165, e165, st165⟩ := getF X163 hx hZ hown (host := "") (Or.inl (w_61 hw)) Via.refl e163 f164 (g := (mkF m 17 #[.val (.ref ua), .val (.ref ue)] [(.ref ua), (.ref ub), (.ref ue), (.ref ua)])) rfl rfl (hb hby d_j38_25_17)
  refine own_go st165 ?_
  show own_Go _ _ _ _ (T165.setTop (mkF m 20 #[.val (.ref ua), .val (.ref ue)] [(.int (1 : Int32)), (.ref ub), (.ref ue), (.ref ua)]))
  obtain ⟨cq166, q166, q166'⟩ := (E0.wr W161).cell
  obtain ⟨_, _, ⟨T166, L166, k166, n166⟩, -, X166, ⟨Lc166, hQ166, l166, y166, z166⟩, st166⟩ := X165.privateBack hx (y := (⟨"java/util/ArrayList", "add", "(Ljava/lang/Object;[Ljava/lang/Object;I)V"⟩ : MethodName)) hown (mvT hZ (w_83 hw)) (mvT hZ (w_84 hw)) (mvT hZ (w_86 hw)) (Cond.privateMethod_at (mvP hZ (w_85 hw) (args := #[]))) (mvT hZ (w_87 hw)) (by decide) (backOf (W := 0) (rm_ad3_1 l Z a0 hw [] ua ub kb ue ude kde uel uem kem uemp urec umi h161 n0 Z161 q0 (E0.wr W161) F161 f162 f164 (B0.other W161 (Ne.symm nq)) q1 O1 nq (O0.wr W161 q0) hF) hZ (w_87 hw) (w_2 hw) (by decide) (by decide)) (g := (mkF m 20 #[.val (.ref ua), .val (.ref ue)] [(.int (1 : Int32)), (.ref ub), (.ref ue), (.ref ua)])) rfl (by rw [hml]; rfl) (Steps.refl _) (a := ua) (by rw [e165]; exact q166) q166' (argsL := [(.ref ue), (.ref ub), (.int (1 : Int32))]) (rest := []) (lenOf pd_4 rfl) rfl (by show 2 * 0 + _ ≤ _; exact Nat.le_of_eq rfl) (hb hby d_j38_25_20) (fun _ _ => ⟨rfl, e165, (by decide : 0 + 0 ≤ _), (by decide : 0 + 0 ≤ _)⟩)
  dsimp only [Pt.U, Pt.locs, Pt.cells, Pt.slots] at X166 l166 y166 z166 st166 hQ166
  subst l166 y166 z166
  generalize e166 : T166.heap = h166 at hQ166
  obtain ⟨rfl, N166q, K166q, A166, Fa166, Fb166, Fc166⟩ := hQ166
  have N166 := Fr.app N161 N166q
  refine own_go (fun t k => st166.trans k) ?_
  have Z166 : n0 ≤ h166.size := (Nat.le_trans Z161 K166q.1)
  have K166 : Keep h0 h166 [ua, ub] := K161.trans K166q (allS (Or.inl (List.mem_of_getElem? (i := 0) rfl)) (allS (Or.inl (List.mem_of_getElem? (i := 1) rfl)) all0))
  show own_Go _ _ _ _ (T166.setTop (mkF m 23 #[.val (.ref ua), .val (.ref ue)] []))
  refine own_go (fun t k => XS.iconst X166.here hx rfl (hb hby d_j38_25_23) k) ?_
  show own_Go _ _ _ _ (T166.setTop (mkF m 24 #[.val (.ref ua), .val (.ref ue)] [(.int (1 : Int32))]))
  refine own_retN X166 hx hlk (t := .boolean) hret (by simp) (hb hby d_j38_25_24) ?_ (by decide) (by decide)
  rw [e166]
  exact ⟨rfl, N166, K166, A166, Fa166, Fb166, Fc166⟩
def Q_ad1_2 (Z : State) (ua : Addr) (ub : Addr) (kb : ClassId) (ue : Addr) (ude : Addr) (kde : ClassId) (uel : Addr) (uem : Addr) (kem : ClassId) (uemp : Addr) (urec : Addr) (umi : Addr) (h0 : Heap) (n0 : Nat) (v : Option Value) (h : Heap) (L : List Loc) : Prop := v = some (.int 1) ∧ Fr n0 L ∧ Keep h0 h [ua, ub] ∧ Arv Z h ub kb (.object "java/lang/Object") (10 : Int32) [(.ref ue), (.ref ue), (.ref ue), .null, .null, .null, .null, .null, .null, .null] .null ∧ Fld Z h ua "java/util/AbstractList" "modCount" "I" (.int (3 : Int32)) ∧ Fld Z h ua "java/util/ArrayList" "elementData" "[Ljava/lang/Object;" (.ref ub) ∧ Fld Z h ua "java/util/ArrayList" "size" "I" (.int (3 : Int32))
theorem ef_ad1_2 (m : MethodId) (ua : Addr) (ue : Addr) : entryFrame m #[(.ref ua), (.ref ue)] 2 = mkF m 0 #[.val (.ref ua), .val (.ref ue)] [] := by first | (simp [entryFrame, mkF, argsToLocals, Value.category]; done) | rfl
set_option maxRecDepth 65536 in
set_option maxHeartbeats 40000000 in
theorem rm_ad1_2 (l : Launch) (Z : State) (a0 : Array Value) (hw : ∀ d ∈ tables_1, d.before a0 Z = true) (ws : List Jvm.Cond) (ua ub : Addr) (kb : ClassId) (ue ude : Addr) (kde : ClassId) (uel uem : Addr) (kem : ClassId) (uemp urec umi : Addr) (h0 : Heap) (n0 : Nat) (Z0 : n0 ≤ h0.size) (q0 : n0 ≤ ua) (E0 : Exa Z h0 ua "java/util/ArrayList") (F0 : Fld Z h0 ua "java/util/AbstractList" "modCount" "I" (.int (2 : Int32))) (F1 : Fld Z h0 ua "java/util/ArrayList" "elementData" "[Ljava/lang/Object;" (.ref ub)) (F2 : Fld Z h0 ua "java/util/ArrayList" "size" "I" (.int (2 : Int32))) (B0 : Arv Z h0 ub kb (.object "java/lang/Object") (10 : Int32) [(.ref ue), (.ref ue), .null, .null, .null, .null, .null, .null, .null, .null] .null) (q1 : n0 ≤ ub) (O1 : Ovr Z kb "java/lang/Object") (nq : ua ≠ ub) (O0 : Old Z n0 h0) (hF : own_Fac Z ue ude kde uel uem kem uemp urec umi) :
    own_Met l Z (⟨"java/util/ArrayList", "add", "(Ljava/lang/Object;)Z"⟩ : MethodName) jdk_38_method_25_code 2 (some .boolean) ws ({ frames := 1, cells := 0, slots := 0, locals := 15 } : Room) #[(.ref ua), (.ref ue)] h0 (Q_ad1_2 Z ua ub kb ue ude kde uel uem kem uemp urec umi h0 n0) := by
  refine own_enter (own := "java/util/ArrayList") (plainFor_of_name pn_6) rfl ?_
  intro p e s m below meth c s₁ hlk hret hx hby hml hown hnm hZ X0 e0
  have N0 := Fr.nil n0
  refine own_cast (ef_ad1_2 m ua ue) ?_
  obtain ⟨Se, Ee, Sd, Ad, Sl, El, Fl, Am, Sm, Em, Sr, Er, Fr1, Fr0, Mi⟩ := id hF
  show own_Go _ _ _ _ (s₁.setTop (mkF m 0 #[.val (.ref ua), .val (.ref ue)] []))
  refine own_go (fun t k => XS.aloadN X0.here hx rfl (hb hby d_j38_25_0) rfl rfl k) ?_
  show own_Go _ _ _ _ (s₁.setTop (mkF m 1 #[.val (.ref ua), .val (.ref ue)] [(.ref ua)]))
  refine own_go (fun t k => XS.dup X0.here hx rfl (hb hby d_j38_25_1) rfl rfl k) ?_
  show own_Go _ _ _ _ (s₁.setTop (mkF m 2 #[.val (.ref ua), .val (.ref ue)] [(.ref ua), (.ref ua)]))
  obtain ⟨T167, X167, e167, st167⟩ := getF X0 hx hZ hown (host := "") (Or.inl (w_81 hw)) (Via.of (w_82 hw)) e0 F0 (g := (mkF m 2 #[.val (.ref ua), .val (.ref ue)] [(.ref ua), (.ref ua)])) rfl rfl (hb hby d_j38_25_2)
  refine own_go st167 ?_
  show own_Go _ _ _ _ (T167.setTop (mkF m 5 #[.val (.ref ua), .val (.ref ue)] [(.int (2 : Int32)), (.ref ua)]))
  refine own_go (fun t k => XS.iconst X167.here hx rfl (hb hby d_j38_25_5) k) ?_
  show own_Go _ _ _ _ (T167.setTop (mkF m 6 #[.val (.ref ua), .val (.ref ue)] [(.int (1 : Int32)), (.int (2 : Int32)), (.ref ua)]))
  refine own_go (fun t k => XS.iadd X167.here hx rfl (hb hby d_j38_25_6) rfl k) ?_
  show own_Go _ _ _ _ (T167.setTop (mkF m 7 #[.val (.ref ua), .val (.ref ue)] [(.int (3 : Int32)), (.ref ua)]))
  obtain ⟨T168, h168, X168, e168, W168, st168⟩ := putF X167 hx hZ hown (host := "") (Or.inl (w_81 hw)) (Via.of (w_82 hw)) e167 F0 E0 (Or.inl (w_22 hw)) (w_1 hw) (ty := .int) (by decide) rfl rfl (g := (mkF m 7 #[.val (.ref ua), .val (.ref ue)] [(.int (3 : Int32)), (.ref ua)])) rfl rfl (hb hby d_j38_25_7)
  refine own_go st168 ?_
  have F168 := F0.same W168
  have Z168 : n0 ≤ h168.size := (Nat.le_trans Z0 (Nat.le_of_eq W168.size.symm))
  have N168 := Fr.snoc X168 N0 q0
  have K168 : Keep h0 h168 [ua, ub] := (Keep.refl h0 [ua, ub]).wr W168 (Or.inl (List.mem_of_getElem? (i := 0) rfl))
  show own_Go _ _ _ _ (T168.setTop (mkF m 10 #[.val (.ref ua), .val (.ref ue)] []))
  refine own_go (fun t k => XS.aloadN X168.here hx rfl (hb hby d_j38_25_10) rfl rfl k) ?_
  show own_Go _ _ _ _ (T168.setTop (mkF m 11 #[.val (.ref ua), .val (.ref ue)] [(.ref ua)]))
  refine own_go (fun t k => XS.aloadN X168.here hx rfl (hb hby d_j38_25_11) rfl rfl k) ?_
  show own_Go _ _ _ _ (T168.setTop (mkF m 12 #[.val (.ref ua), .val (.ref ue)] [(.ref ue), (.ref ua)]))
  refine own_go (fun t k => XS.aloadN X168.here hx rfl (hb hby d_j38_25_12) rfl rfl k) ?_
  show own_Go _ _ _ _ (T168.setTop (mkF m 13 #[.val (.ref ua), .val (.ref ue)] [(.ref ua), (.ref ue), (.ref ua)]))
  have f169 := (F1.other W168 (Or.inr (slot_ne (Or.inl (w_25 hw)) (Or.inl (w_22 hw)) (by decide) (t := (.array (.object "java/lang/Object"))) (t' := .int) (by decide) (by decide))))
  obtain ⟨T170, X170, e170, st170⟩ := getF X168 hx hZ hown (host := "") (Or.inl (w_24 hw)) Via.refl e168 f169 (g := (mkF m 13 #[.val (.ref ua), .val (.ref ue)] [(.ref ua), (.ref ue), (.ref ua)])) rfl rfl (hb hby d_j38_25_13)
  refine own_go st170 ?_
  show own_Go _ _ _ _ (T170.setTop (mkF m 16 #[.val (.ref ua), .val (.ref ue)] [(.ref ub), (.ref ue), (.ref ua)]))
  refine own_go (fun t k => XS.aloadN X170.here hx rfl (hb hby d_j38_25_16) rfl rfl k) ?_
  show own_Go _ _ _ _ (T170.setTop (mkF m 17 #[.val (.ref ua), .val (.ref ue)] [(.ref ua), (.ref ub), (.ref ue), (.ref ua)]))
  have f171 := (F2.other W168 (Or.inr (slot_ne (Or.inl (w_62 hw)) (Or.inl (w_22 hw)) (by decide) (t := .int) (t' := .int) (by decide) (by decide))))
  obtain ⟨T172, X172, e172, st172⟩ := getF X170 hx hZ hown (host := "") (Or.inl (w_61 hw)) Via.refl e170 f171 (g := (mkF m 17 #[.val (.ref ua), .val (.ref ue)] [(.ref ua), (.ref ub), (.ref ue), (.ref ua)])) rfl rfl (hb hby d_j38_25_17)
  refine own_go st172 ?_
  show own_Go _ _ _ _ (T172.setTop (mkF m 20 #[.val (.ref ua), .val (.ref ue)] [(.int (2 : Int32)), (.ref ub), (.ref ue), (.ref ua)]))
  obtain ⟨cq173, q173, q173'⟩ := (E0.wr W168).cell
  obtain ⟨_, _, ⟨T173, L173, k173, n173⟩, -, X173, ⟨Lc173, hQ173, l173, y173, z173⟩, st173⟩ := X172.privateBack hx (y := (⟨"java/util/ArrayList", "add", "(Ljava/lang/Object;[Ljava/lang/Object;I)V"⟩ : MethodName)) hown (mvT hZ (w_83 hw)) (mvT hZ (w_84 hw)) (mvT hZ (w_86 hw)) (Cond.privateMethod_at (mvP hZ (w_85 hw) (args := #[]))) (mvT hZ (w_87 hw)) (by decide) (backOf (W := 0) (rm_ad3_2 l Z a0 hw [] ua ub kb ue ude kde uel uem kem uemp urec umi h168 n0 Z168 q0 (E0.wr W168) F168 f169 f171 (B0.other W168 (Ne.symm nq)) q1 O1 nq (O0.wr W168 q0) hF) hZ (w_87 hw) (w_2 hw) (by decide) (by decide)) (g := (mkF m 20 #[.val (.ref ua), .val (.ref ue)] [(.int (2 : Int32)), (.ref ub), (.ref ue), (.ref ua)])) rfl (by rw [hml]; rfl) (Steps.refl _) (a := ua) (by rw [e172]; exact q173) q173' (argsL := [(.ref ue), (.ref ub), (.int (2 : Int32))]) (rest := []) (lenOf pd_4 rfl) rfl (by show 2 * 0 + _ ≤ _; exact Nat.le_of_eq rfl) (hb hby d_j38_25_20) (fun _ _ => ⟨rfl, e172, (by decide : 0 + 0 ≤ _), (by decide : 0 + 0 ≤ _)⟩)
  dsimp only [Pt.U, Pt.locs, Pt.cells, Pt.slots] at X173 l173 y173 z173 st173 hQ173
  subst l173 y173 z173
  generalize e173 : T173.heap = h173 at hQ173
  obtain ⟨rfl, N173q, K173q, A173, Fa173, Fb173, Fc173⟩ := hQ173
  have N173 := Fr.app N168 N173q
  refine own_go (fun t k => st173.trans k) ?_
  have Z173 : n0 ≤ h173.size := (Nat.le_trans Z168 K173q.1)
  have K173 : Keep h0 h173 [ua, ub] := K168.trans K173q (allS (Or.inl (List.mem_of_getElem? (i := 0) rfl)) (allS (Or.inl (List.mem_of_getElem? (i := 1) rfl)) all0))
  show own_Go _ _ _ _ (T173.setTop (mkF m 23 #[.val (.ref ua), .val (.ref ue)] []))
  refine own_go (fun t k => XS.iconst X173.here hx rfl (hb hby d_j38_25_23) k) ?_
  show own_Go _ _ _ _ (T173.setTop (mkF m 24 #[.val (.ref ua), .val (.ref ue)] [(.int (1 : Int32))]))
  refine own_retN X173 hx hlk (t := .boolean) hret (by simp) (hb hby d_j38_25_24) ?_ (by decide) (by decide)
  rw [e173]
  exact ⟨rfl, N173, K173, A173, Fa173, Fb173, Fc173⟩
def Q_ad1_3 (Z : State) (ua : Addr) (ub : Addr) (kb : ClassId) (ue : Addr) (ude : Addr) (kde : ClassId) (uel : Addr) (uem : Addr) (kem : ClassId) (uemp : Addr) (urec : Addr) (umi : Addr) (h0 : Heap) (n0 : Nat) (v : Option Value) (h : Heap) (L : List Loc) : Prop := v = some (.int 1) ∧ Fr n0 L ∧ Keep h0 h [ua, ub] ∧ Arv Z h ub kb (.object "java/lang/Object") (10 : Int32) [(.ref ue), (.ref ue), (.ref ue), (.ref ue), .null, .null, .null, .null, .null, .null] .null ∧ Fld Z h ua "java/util/AbstractList" "modCount" "I" (.int (4 : Int32)) ∧ Fld Z h ua "java/util/ArrayList" "elementData" "[Ljava/lang/Object;" (.ref ub) ∧ Fld Z h ua "java/util/ArrayList" "size" "I" (.int (4 : Int32))
theorem ef_ad1_3 (m : MethodId) (ua : Addr) (ue : Addr) : entryFrame m #[(.ref ua), (.ref ue)] 2 = mkF m 0 #[.val (.ref ua), .val (.ref ue)] [] := by first | (simp [entryFrame, mkF, argsToLocals, Value.category]; done) | rfl
set_option maxRecDepth 65536 in
set_option maxHeartbeats 40000000 in
theorem rm_ad1_3 (l : Launch) (Z : State) (a0 : Array Value) (hw : ∀ d ∈ tables_1, d.before a0 Z = true) (ws : List Jvm.Cond) (ua ub : Addr) (kb : ClassId) (ue ude : Addr) (kde : ClassId) (uel uem : Addr) (kem : ClassId) (uemp urec umi : Addr) (h0 : Heap) (n0 : Nat) (Z0 : n0 ≤ h0.size) (q0 : n0 ≤ ua) (E0 : Exa Z h0 ua "java/util/ArrayList") (F0 : Fld Z h0 ua "java/util/AbstractList" "modCount" "I" (.int (3 : Int32))) (F1 : Fld Z h0 ua "java/util/ArrayList" "elementData" "[Ljava/lang/Object;" (.ref ub)) (F2 : Fld Z h0 ua "java/util/ArrayList" "size" "I" (.int (3 : Int32))) (B0 : Arv Z h0 ub kb (.object "java/lang/Object") (10 : Int32) [(.ref ue), (.ref ue), (.ref ue), .null, .null, .null, .null, .null, .null, .null] .null) (q1 : n0 ≤ ub) (O1 : Ovr Z kb "java/lang/Object") (nq : ua ≠ ub) (O0 : Old Z n0 h0) (hF : own_Fac Z ue ude kde uel uem kem uemp urec umi) :
    own_Met l Z (⟨"java/util/ArrayList", "add", "(Ljava/lang/Object;)Z"⟩ : MethodName) jdk_38_method_25_code 2 (some .boolean) ws ({ frames := 1, cells := 0, slots := 0, locals := 15 } : Room) #[(.ref ua), (.ref ue)] h0 (Q_ad1_3 Z ua ub kb ue ude kde uel uem kem uemp urec umi h0 n0) := by
  refine own_enter (own := "java/util/ArrayList") (plainFor_of_name pn_6) rfl ?_
  intro p e s m below meth c s₁ hlk hret hx hby hml hown hnm hZ X0 e0
  have N0 := Fr.nil n0
  refine own_cast (ef_ad1_3 m ua ue) ?_
  obtain ⟨Se, Ee, Sd, Ad, Sl, El, Fl, Am, Sm, Em, Sr, Er, Fr1, Fr0, Mi⟩ := id hF
  show own_Go _ _ _ _ (s₁.setTop (mkF m 0 #[.val (.ref ua), .val (.ref ue)] []))
  refine own_go (fun t k => XS.aloadN X0.here hx rfl (hb hby d_j38_25_0) rfl rfl k) ?_
  show own_Go _ _ _ _ (s₁.setTop (mkF m 1 #[.val (.ref ua), .val (.ref ue)] [(.ref ua)]))
  refine own_go (fun t k => XS.dup X0.here hx rfl (hb hby d_j38_25_1) rfl rfl k) ?_
  show own_Go _ _ _ _ (s₁.setTop (mkF m 2 #[.val (.ref ua), .val (.ref ue)] [(.ref ua), (.ref ua)]))
  obtain ⟨T174, X174, e174, st174⟩ := getF X0 hx hZ hown (host := "") (Or.inl (w_81 hw)) (Via.of (w_82 hw)) e0 F0 (g := (mkF m 2 #[.val (.ref ua), .val (.ref ue)] [(.ref ua), (.ref ua)])) rfl rfl (hb hby d_j38_25_2)
  refine own_go st174 ?_
  show own_Go _ _ _ _ (T174.setTop (mkF m 5 #[.val (.ref ua), .val (.ref ue)] [(.int (3 : Int32)), (.ref ua)]))
  refine own_go (fun t k => XS.iconst X174.here hx rfl (hb hby d_j38_25_5) k) ?_
  show own_Go _ _ _ _ (T174.setTop (mkF m 6 #[.val (.ref ua), .val (.ref ue)] [(.int (1 : Int32)), (.int (3 : Int32)), (.ref ua)]))
  refine own_go (fun t k => XS.iadd X174.here hx rfl (hb hby d_j38_25_6) rfl k) ?_
  show own_Go _ _ _ _ (T174.setTop (mkF m 7 #[.val (.ref ua), .val (.ref ue)] [(.int (4 : Int32)), (.ref ua)]))
  obtain ⟨T175, h175, X175, e175, W175, st175⟩ := putF X174 hx hZ hown (host := "") (Or.inl (w_81 hw)) (Via.of (w_82 hw)) e174 F0 E0 (Or.inl (w_22 hw)) (w_1 hw) (ty := .int) (by decide) rfl rfl (g := (mkF m 7 #[.val (.ref ua), .val (.ref ue)] [(.int (4 : Int32)), (.ref ua)])) rfl rfl (hb hby d_j38_25_7)
  refine own_go st175 ?_
  have F175 := F0.same W175
  have Z175 : n0 ≤ h175.size := (Nat.le_trans Z0 (Nat.le_of_eq W175.size.symm))
  have N175 := Fr.snoc X175 N0 q0
  have K175 : Keep h0 h175 [ua, ub] := (Keep.refl h0 [ua, ub]).wr W175 (Or.inl (List.mem_of_getElem? (i := 0) rfl))
  show own_Go _ _ _ _ (T175.setTop (mkF m 10 #[.val (.ref ua), .val (.ref ue)] []))
  refine own_go (fun t k => XS.aloadN X175.here hx rfl (hb hby d_j38_25_10) rfl rfl k) ?_
  show own_Go _ _ _ _ (T175.setTop (mkF m 11 #[.val (.ref ua), .val (.ref ue)] [(.ref ua)]))
  refine own_go (fun t k => XS.aloadN X175.here hx rfl (hb hby d_j38_25_11) rfl rfl k) ?_
  show own_Go _ _ _ _ (T175.setTop (mkF m 12 #[.val (.ref ua), .val (.ref ue)] [(.ref ue), (.ref ua)]))
  refine own_go (fun t k => XS.aloadN X175.here hx rfl (hb hby d_j38_25_12) rfl rfl k) ?_
  show own_Go _ _ _ _ (T175.setTop (mkF m 13 #[.val (.ref ua), .val (.ref ue)] [(.ref ua), (.ref ue), (.ref ua)]))
  have f176 := (F1.other W175 (Or.inr (slot_ne (Or.inl (w_25 hw)) (Or.inl (w_22 hw)) (by decide) (t := (.array (.object "java/lang/Object"))) (t' := .int) (by decide) (by decide))))
  obtain ⟨T177, X177, e177, st177⟩ := getF X175 hx hZ hown (host := "") (Or.inl (w_24 hw)) Via.refl e175 f176 (g := (mkF m 13 #[.val (.ref ua), .val (.ref ue)] [(.ref ua), (.ref ue), (.ref ua)])) rfl rfl (hb hby d_j38_25_13)
  refine own_go st177 ?_
  show own_Go _ _ _ _ (T177.setTop (mkF m 16 #[.val (.ref ua), .val (.ref ue)] [(.ref ub), (.ref ue), (.ref ua)]))
  refine own_go (fun t k => XS.aloadN X177.here hx rfl (hb hby d_j38_25_16) rfl rfl k) ?_
  show own_Go _ _ _ _ (T177.setTop (mkF m 17 #[.val (.ref ua), .val (.ref ue)] [(.ref ua), (.ref ub), (.ref ue), (.ref ua)]))
  have f178 := (F2.other W175 (Or.inr (slot_ne (Or.inl (w_62 hw)) (Or.inl (w_22 hw)) (by decide) (t := .int) (t' := .int) (by decide) (by decide))))
  obtain ⟨T179, X179, e179, st179⟩ := getF X177 hx hZ hown (host := "") (Or.inl (w_61 hw)) Via.refl e177 f178 (g := (mkF m 17 #[.val (.ref ua), .val (.ref ue)] [(.ref ua), (.ref ub), (.ref ue), (.ref ua)])) rfl rfl (hb hby d_j38_25_17)
  refine own_go st179 ?_
  show own_Go _ _ _ _ (T179.setTop (mkF m 20 #[.val (.ref ua), .val (.ref ue)] [(.int (3 : Int32)), (.ref ub), (.ref ue), (.ref ua)]))
  obtain ⟨cq180, q180, q180'⟩ := (E0.wr W175).cell
  obtain ⟨_, _, ⟨T180, L180, k180, n180⟩, -, X180, ⟨Lc180, hQ180, l180, y180, z180⟩, st180⟩ := X179.privateBack hx (y := (⟨"java/util/ArrayList", "add", "(Ljava/lang/Object;[Ljava/lang/Object;I)V"⟩ : MethodName)) hown (mvT hZ (w_83 hw)) (mvT hZ (w_84 hw)) (mvT hZ (w_86 hw)) (Cond.privateMethod_at (mvP hZ (w_85 hw) (args := #[]))) (mvT hZ (w_87 hw)) (by decide) (backOf (W := 0) (rm_ad3_3 l Z a0 hw [] ua ub kb ue ude kde uel uem kem uemp urec umi h175 n0 Z175 q0 (E0.wr W175) F175 f176 f178 (B0.other W175 (Ne.symm nq)) q1 O1 nq (O0.wr W175 q0) hF) hZ (w_87 hw) (w_2 hw) (by decide) (by decide)) (g := (mkF m 20 #[.val (.ref ua), .val (.ref ue)] [(.int (3 : Int32)), (.ref ub), (.ref ue), (.ref ua)])) rfl (by rw [hml]; rfl) (Steps.refl _) (a := ua) (by rw [e179]; exact q180) q180' (argsL := [(.ref ue), (.ref ub), (.int (3 : Int32))]) (rest := []) (lenOf pd_4 rfl) rfl (by show 2 * 0 + _ ≤ _; exact Nat.le_of_eq rfl) (hb hby d_j38_25_20) (fun _ _ => ⟨rfl, e179, (by decide : 0 + 0 ≤ _), (by decide : 0 + 0 ≤ _)⟩)
  dsimp only [Pt.U, Pt.locs, Pt.cells, Pt.slots] at X180 l180 y180 z180 st180 hQ180
  subst l180 y180 z180
  generalize e180 : T180.heap = h180 at hQ180
  obtain ⟨rfl, N180q, K180q, A180, Fa180, Fb180, Fc180⟩ := hQ180
  have N180 := Fr.app N175 N180q
  refine own_go (fun t k => st180.trans k) ?_
  have Z180 : n0 ≤ h180.size := (Nat.le_trans Z175 K180q.1)
  have K180 : Keep h0 h180 [ua, ub] := K175.trans K180q (allS (Or.inl (List.mem_of_getElem? (i := 0) rfl)) (allS (Or.inl (List.mem_of_getElem? (i := 1) rfl)) all0))
  show own_Go _ _ _ _ (T180.setTop (mkF m 23 #[.val (.ref ua), .val (.ref ue)] []))
  refine own_go (fun t k => XS.iconst X180.here hx rfl (hb hby d_j38_25_23) k) ?_
  show own_Go _ _ _ _ (T180.setTop (mkF m 24 #[.val (.ref ua), .val (.ref ue)] [(.int (1 : Int32))]))
  refine own_retN X180 hx hlk (t := .boolean) hret (by simp) (hb hby d_j38_25_24) ?_ (by decide) (by decide)
  rw [e180]
  exact ⟨rfl, N180, K180, A180, Fa180, Fb180, Fc180⟩
def Q_emp_0 (Z : State) (ua : Addr) (h0 : Heap) (n0 : Nat) (v : Option Value) (h : Heap) (L : List Loc) : Prop := v = some (.int 1) ∧ Fr n0 L ∧ h = h0
theorem ef_emp_0 (m : MethodId) (ua : Addr) : entryFrame m #[(.ref ua)] 1 = mkF m 0 #[.val (.ref ua)] [] := by first | (simp [entryFrame, mkF, argsToLocals, Value.category]; done) | rfl
theorem d_j38_9_0 : decode jdk_38_method_9_code 0 = .ok (.aload_n 0, 1) := by decide +kernel
theorem d_j38_9_1 : decode jdk_38_method_9_code 1 = .ok (.getfield 48, 3) := by decide +kernel
theorem d_j38_9_4 : decode jdk_38_method_9_code 4 = .ok (.ifCond .ne 7, 3) := by decide +kernel
theorem d_j38_9_7 : decode jdk_38_method_9_code 7 = .ok (.iconst 1, 1) := by decide +kernel
theorem d_j38_9_8 : decode jdk_38_method_9_code 8 = .ok (.goto 4, 3) := by decide +kernel
theorem d_j38_9_12 : decode jdk_38_method_9_code 12 = .ok (.ireturn, 1) := by decide +kernel
set_option maxRecDepth 65536 in
set_option maxHeartbeats 40000000 in
theorem rm_emp_0 (l : Launch) (Z : State) (a0 : Array Value) (hw : ∀ d ∈ tables_1, d.before a0 Z = true) (ws : List Jvm.Cond) (ua : Addr) (h0 : Heap) (n0 : Nat) (Z0 : n0 ≤ h0.size) (F2 : Fld Z h0 ua "java/util/ArrayList" "size" "I" (.int (0 : Int32))) :
    own_Met l Z (⟨"java/util/ArrayList", "isEmpty", "()Z"⟩ : MethodName) jdk_38_method_9_code 1 (some .boolean) ws ({ frames := 0, cells := 0, slots := 0, locals := 0 } : Room) #[(.ref ua)] h0 (Q_emp_0 Z ua h0 n0) := by
  refine own_enter (own := "java/util/ArrayList") (plainFor_of_name pn_6) rfl ?_
  intro p e s m below meth c s₁ hlk hret hx hby hml hown hnm hZ X0 e0
  have N0 := Fr.nil n0
  refine own_cast (ef_emp_0 m ua) ?_
  show own_Go _ _ _ _ (s₁.setTop (mkF m 0 #[.val (.ref ua)] []))
  refine own_go (fun t k => XS.aloadN X0.here hx rfl (hb hby d_j38_9_0) rfl rfl k) ?_
  show own_Go _ _ _ _ (s₁.setTop (mkF m 1 #[.val (.ref ua)] [(.ref ua)]))
  obtain ⟨T181, X181, e181, st181⟩ := getF X0 hx hZ hown (host := "") (Or.inl (w_61 hw)) Via.refl e0 F2 (g := (mkF m 1 #[.val (.ref ua)] [(.ref ua)])) rfl rfl (hb hby d_j38_9_1)
  refine own_go st181 ?_
  show own_Go _ _ _ _ (T181.setTop (mkF m 4 #[.val (.ref ua)] [(.int (0 : Int32))]))
  refine own_go (fun t k => XS.ifNo X181.here hx rfl (hb hby d_j38_9_4) rfl ((if0 _ _).trans (teq (by decide : (0 : Int32) = (0 : Int32))).2) k) ?_
  show own_Go _ _ _ _ (T181.setTop (mkF m 7 #[.val (.ref ua)] []))
  refine own_go (fun t k => XS.iconst X181.here hx rfl (hb hby d_j38_9_7) k) ?_
  show own_Go _ _ _ _ (T181.setTop (mkF m 8 #[.val (.ref ua)] [(.int (1 : Int32))]))
  refine own_go (fun t k => XS.goto X181.here hx rfl (pc0 := 8) (pc' := 12) rfl (hb hby d_j38_9_8) (by decide) (by decide) k) ?_
  show own_Go _ _ _ _ (T181.setTop (mkF m 12 #[.val (.ref ua)] [(.int (1 : Int32))]))
  refine own_retN X181 hx hlk (t := .boolean) hret (by simp) (hb hby d_j38_9_12) ?_ (by decide) (by decide)
  rw [e181]
  exact ⟨rfl, N0, rfl⟩
def Q_emp_1 (Z : State) (ua : Addr) (h0 : Heap) (n0 : Nat) (v : Option Value) (h : Heap) (L : List Loc) : Prop := v = some (.int 0) ∧ Fr n0 L ∧ h = h0
theorem ef_emp_1 (m : MethodId) (ua : Addr) : entryFrame m #[(.ref ua)] 1 = mkF m 0 #[.val (.ref ua)] [] := by first | (simp [entryFrame, mkF, argsToLocals, Value.category]; done) | rfl
theorem d_j38_9_11 : decode jdk_38_method_9_code 11 = .ok (.iconst 0, 1) := by decide +kernel
set_option maxRecDepth 65536 in
set_option maxHeartbeats 40000000 in
theorem rm_emp_1 (l : Launch) (Z : State) (a0 : Array Value) (hw : ∀ d ∈ tables_1, d.before a0 Z = true) (ws : List Jvm.Cond) (ua : Addr) (h0 : Heap) (n0 : Nat) (Z0 : n0 ≤ h0.size) (F2 : Fld Z h0 ua "java/util/ArrayList" "size" "I" (.int (1 : Int32))) :
    own_Met l Z (⟨"java/util/ArrayList", "isEmpty", "()Z"⟩ : MethodName) jdk_38_method_9_code 1 (some .boolean) ws ({ frames := 0, cells := 0, slots := 0, locals := 0 } : Room) #[(.ref ua)] h0 (Q_emp_1 Z ua h0 n0) := by
  refine own_enter (own := "java/util/ArrayList") (plainFor_of_name pn_6) rfl ?_
  intro p e s m below meth c s₁ hlk hret hx hby hml hown hnm hZ X0 e0
  have N0 := Fr.nil n0
  refine own_cast (ef_emp_1 m ua) ?_
  show own_Go _ _ _ _ (s₁.setTop (mkF m 0 #[.val (.ref ua)] []))
  refine own_go (fun t k => XS.aloadN X0.here hx rfl (hb hby d_j38_9_0) rfl rfl k) ?_
  show own_Go _ _ _ _ (s₁.setTop (mkF m 1 #[.val (.ref ua)] [(.ref ua)]))
  obtain ⟨T182, X182, e182, st182⟩ := getF X0 hx hZ hown (host := "") (Or.inl (w_61 hw)) Via.refl e0 F2 (g := (mkF m 1 #[.val (.ref ua)] [(.ref ua)])) rfl rfl (hb hby d_j38_9_1)
  refine own_go st182 ?_
  show own_Go _ _ _ _ (T182.setTop (mkF m 4 #[.val (.ref ua)] [(.int (1 : Int32))]))
  refine own_go (fun t k => XS.ifYes X182.here hx rfl (pc0 := 4) (pc' := 11) rfl (hb hby d_j38_9_4) rfl ((if0 _ _).trans (feq (by decide : ¬ ((1 : Int32) = (0 : Int32)))).2) (by decide) (by decide) k) ?_
  show own_Go _ _ _ _ (T182.setTop (mkF m 11 #[.val (.ref ua)] []))
  refine own_go (fun t k => XS.iconst X182.here hx rfl (hb hby d_j38_9_11) k) ?_
  show own_Go _ _ _ _ (T182.setTop (mkF m 12 #[.val (.ref ua)] [(.int (0 : Int32))]))
  refine own_retN X182 hx hlk (t := .boolean) hret (by simp) (hb hby d_j38_9_12) ?_ (by decide) (by decide)
  rw [e182]
  exact ⟨rfl, N0, rfl⟩
def Q_min_1 (Z : State)  (h0 : Heap) (n0 : Nat) (v : Option Value) (h : Heap) (L : List Loc) : Prop := v = some (.int 1) ∧ Fr n0 L ∧ h = h0
theorem ef_min_1 (m : MethodId)  : entryFrame m #[(.int (10 : Int32)), (.int (1 : Int32))] 2 = mkF m 0 #[.val (.int (10 : Int32)), .val (.int (1 : Int32))] [] := by first | (simp [entryFrame, mkF, argsToLocals, Value.category]; done) | rfl
theorem d_j29_69_0 : decode jdk_29_method_69_code 0 = .ok (.iload_n 0, 1) := by decide +kernel
theorem d_j29_69_1 : decode jdk_29_method_69_code 1 = .ok (.iload_n 1, 1) := by decide +kernel
theorem d_j29_69_2 : decode jdk_29_method_69_code 2 = .ok (.if_icmp .gt 7, 3) := by decide +kernel
theorem d_j29_69_9 : decode jdk_29_method_69_code 9 = .ok (.iload_n 1, 1) := by decide +kernel
theorem d_j29_69_10 : decode jdk_29_method_69_code 10 = .ok (.ireturn, 1) := by decide +kernel
set_option maxRecDepth 65536 in
set_option maxHeartbeats 40000000 in
theorem rm_min_1 (l : Launch) (Z : State) (a0 : Array Value) (hw : ∀ d ∈ tables_1, d.before a0 Z = true) (ws : List Jvm.Cond)  (h0 : Heap) (n0 : Nat) (Z0 : n0 ≤ h0.size) :
    own_Met l Z (⟨"java/lang/Math", "min", "(II)I"⟩ : MethodName) jdk_29_method_69_code 2 (some .int) ws ({ frames := 0, cells := 0, slots := 0, locals := 0 } : Room) #[(.int (10 : Int32)), (.int (1 : Int32))] h0 (Q_min_1 Z  h0 n0) := by
  refine own_enter (own := "java/lang/Math") (Jvm.Free.JP.mathPlain rfl (by decide +kernel)) rfl ?_
  intro p e s m below meth c s₁ hlk hret hx hby hml hown hnm hZ X0 e0
  have N0 := Fr.nil n0
  refine own_cast (ef_min_1 m ) ?_
  show own_Go _ _ _ _ (s₁.setTop (mkF m 0 #[.val (.int (10 : Int32)), .val (.int (1 : Int32))] []))
  refine own_go (fun t k => XS.iloadN X0.here hx rfl (hb hby d_j29_69_0) rfl k) ?_
  show own_Go _ _ _ _ (s₁.setTop (mkF m 1 #[.val (.int (10 : Int32)), .val (.int (1 : Int32))] [(.int (10 : Int32))]))
  refine own_go (fun t k => XS.iloadN X0.here hx rfl (hb hby d_j29_69_1) rfl k) ?_
  show own_Go _ _ _ _ (s₁.setTop (mkF m 2 #[.val (.int (10 : Int32)), .val (.int (1 : Int32))] [(.int (1 : Int32)), (.int (10 : Int32))]))
  refine own_go (fun t k => XS.icmpYes X0.here hx rfl (pc0 := 2) (pc' := 9) rfl (hb hby d_j29_69_2) rfl (tlt (by decide : (1 : Int32) < (10 : Int32))).2.2.1 (by decide) (by decide) k) ?_
  show own_Go _ _ _ _ (s₁.setTop (mkF m 9 #[.val (.int (10 : Int32)), .val (.int (1 : Int32))] []))
  refine own_go (fun t k => XS.iloadN X0.here hx rfl (hb hby d_j29_69_9) rfl k) ?_
  show own_Go _ _ _ _ (s₁.setTop (mkF m 10 #[.val (.int (10 : Int32)), .val (.int (1 : Int32))] [(.int (1 : Int32))]))
  refine own_ret X0 hx hlk hret rfl (Or.inl ⟨rfl, Or.inl rfl, _, rfl⟩) (hb hby d_j29_69_10) ?_ (by decide) (by decide)
  rw [e0]
  exact ⟨rfl, N0, rfl⟩
def Q_cp3_1 (Z : State) (ub : Addr) (kb : ClassId) (ue : Addr) (ude : Addr) (kde : ClassId) (uel : Addr) (uem : Addr) (kem : ClassId) (uemp : Addr) (urec : Addr) (umi : Addr) (h0 : Heap) (n0 : Nat) (v : Option Value) (h : Heap) (L : List Loc) : Prop := ∃ (uc : Addr) (kc : ClassId), v = some (.ref uc) ∧ Fr n0 L ∧ Keep h0 h [] ∧ h0.size ≤ uc ∧ n0 ≤ uc ∧ Arv Z h uc kc (.object "java/lang/Object") (1 : Int32) [(.ref ue)] .null
theorem ef_cp3_1 (m : MethodId) (ub : Addr) (umi : Addr) : entryFrame m #[(.ref ub), (.int (1 : Int32)), (.ref umi)] 4 = mkF m 0 #[.val (.ref ub), .val (.int (1 : Int32)), .val (.ref umi), .unset] [] := by first | (simp [entryFrame, mkF, argsToLocals, Value.category]; done) | rfl
theorem pn_7 : plainName "java/util/Arrays" = true := by first | (simp [plainName, overriddenIn]; done) | decide +kernel
theorem d_j65_120_0 : decode jdk_65_method_120_code 0 = .ok (.aload_n 2, 1) := by decide +kernel
theorem w_178 {Z : State} {a0 : Array Value} (hw : ∀ d ∈ tables_1, d.before a0 Z = true) : (Jvm.Cond.classLink "java/util/Arrays" (110 : Nat) "[Ljava/lang/Object;").before a0 Z = true := hw _ (List.mem_of_getElem? (i := 178) rfl)
theorem d_j65_120_1 : decode jdk_65_method_120_code 1 = .ok (.ldc 110, 2) := by decide +kernel
theorem d_j65_120_3 : decode jdk_65_method_120_code 3 = .ok (.if_acmp .ne 10, 3) := by decide +kernel
theorem d_j65_120_6 : decode jdk_65_method_120_code 6 = .ok (.iload_n 1, 1) := by decide +kernel
theorem w_179 {Z : State} {a0 : Array Value} (hw : ∀ d ∈ tables_1, d.before a0 Z = true) : (Jvm.Cond.classLink "java/util/Arrays" (2 : Nat) "java/lang/Object").before a0 Z = true := hw _ (List.mem_of_getElem? (i := 179) rfl)
theorem d_j65_120_7 : decode jdk_65_method_120_code 7 = .ok (.anewarray 2, 3) := by decide +kernel
theorem d_j65_120_10 : decode jdk_65_method_120_code 10 = .ok (.goto 14, 3) := by decide +kernel
theorem d_j65_120_24 : decode jdk_65_method_120_code 24 = .ok (.astore_n 3, 1) := by decide +kernel
theorem d_j65_120_25 : decode jdk_65_method_120_code 25 = .ok (.aload_n 0, 1) := by decide +kernel
theorem d_j65_120_26 : decode jdk_65_method_120_code 26 = .ok (.iconst 0, 1) := by decide +kernel
theorem d_j65_120_27 : decode jdk_65_method_120_code 27 = .ok (.aload_n 3, 1) := by decide +kernel
theorem d_j65_120_28 : decode jdk_65_method_120_code 28 = .ok (.iconst 0, 1) := by decide +kernel
theorem d_j65_120_29 : decode jdk_65_method_120_code 29 = .ok (.aload_n 0, 1) := by decide +kernel
theorem d_j65_120_30 : decode jdk_65_method_120_code 30 = .ok (.arraylength, 1) := by decide +kernel
theorem d_j65_120_31 : decode jdk_65_method_120_code 31 = .ok (.iload_n 1, 1) := by decide +kernel
theorem w_180 {Z : State} {a0 : Array Value} (hw : ∀ d ∈ tables_1, d.before a0 Z = true) : (Jvm.Cond.methodLink "java/util/Arrays" (304 : Nat) ({ cls := "java/lang/Math", name := "min", desc := "(II)I" } : Jvm.MethodName)).before a0 Z = true := hw _ (List.mem_of_getElem? (i := 180) rfl)
theorem w_182 {Z : State} {a0 : Array Value} (hw : ∀ d ∈ tables_1, d.before a0 Z = true) : (Jvm.Cond.code ({ cls := "java/lang/Math", name := "min", desc := "(II)I" } : Jvm.MethodName) jdk_29_method_69_code (2 : Nat) (Option.some Jvm.ClassFile.FieldType.int)).before a0 Z = true := hw _ (List.mem_of_getElem? (i := 182) rfl)
theorem d_j65_120_32 : decode jdk_65_method_120_code 32 = .ok (.invokestatic 304, 3) := by decide +kernel
theorem w_181 {Z : State} {a0 : Array Value} (hw : ∀ d ∈ tables_1, d.before a0 Z = true) : (Jvm.Cond.static ({ cls := "java/lang/Math", name := "min", desc := "(II)I" } : Jvm.MethodName)).before a0 Z = true := hw _ (List.mem_of_getElem? (i := 181) rfl)
theorem w_183 {Z : State} {a0 : Array Value} (hw : ∀ d ∈ tables_1, d.before a0 Z = true) : (Jvm.Cond.methodLink "java/util/Arrays" (150 : Nat) ({ cls := "java/lang/System", name := "arraycopy", desc := "(Ljava/lang/Object;ILjava/lang/Object;II)V" } : Jvm.MethodName)).before a0 Z = true := hw _ (List.mem_of_getElem? (i := 183) rfl)
theorem w_186 {Z : State} {a0 : Array Value} (hw : ∀ d ∈ tables_1, d.before a0 Z = true) : (Jvm.Cond.native ({ cls := "java/lang/System", name := "arraycopy", desc := "(Ljava/lang/Object;ILjava/lang/Object;II)V" } : Jvm.MethodName)).before a0 Z = true := hw _ (List.mem_of_getElem? (i := 186) rfl)
theorem w_184 {Z : State} {a0 : Array Value} (hw : ∀ d ∈ tables_1, d.before a0 Z = true) : (Jvm.Cond.static ({ cls := "java/lang/System", name := "arraycopy", desc := "(Ljava/lang/Object;ILjava/lang/Object;II)V" } : Jvm.MethodName)).before a0 Z = true := hw _ (List.mem_of_getElem? (i := 184) rfl)
theorem w_185 {Z : State} {a0 : Array Value} (hw : ∀ d ∈ tables_1, d.before a0 Z = true) : (Jvm.Cond.initialized "java/lang/System").before a0 Z = true := hw _ (List.mem_of_getElem? (i := 185) rfl)
theorem d_j65_120_35 : decode jdk_65_method_120_code 35 = .ok (.invokestatic 150, 3) := by decide +kernel
theorem d_j65_120_38 : decode jdk_65_method_120_code 38 = .ok (.aload_n 3, 1) := by decide +kernel
theorem d_j65_120_39 : decode jdk_65_method_120_code 39 = .ok (.areturn, 1) := by decide +kernel
set_option maxRecDepth 65536 in
set_option maxHeartbeats 40000000 in
theorem rm_cp3_1 (l : Launch) (Z : State) (a0 : Array Value) (hw : ∀ d ∈ tables_1, d.before a0 Z = true) (ws : List Jvm.Cond) (ub : Addr) (kb : ClassId) (ue ude : Addr) (kde : ClassId) (uel uem : Addr) (kem : ClassId) (uemp urec umi : Addr) (h0 : Heap) (n0 : Nat) (Z0 : n0 ≤ h0.size) (B0 : Arv Z h0 ub kb (.object "java/lang/Object") (10 : Int32) [(.ref ue), .null, .null, .null, .null, .null, .null, .null, .null, .null] .null) (Eb : Exa Z h0 ub "[Ljava/lang/Object;") (O0 : Old Z n0 h0) (hF : own_Fac Z ue ude kde uel uem kem uemp urec umi) :
    own_Met l Z (⟨"java/util/Arrays", "copyOf", "([Ljava/lang/Object;ILjava/lang/Class;)[Ljava/lang/Object;"⟩ : MethodName) jdk_65_method_120_code 4 (some (.array (.object "java/lang/Object"))) ws ({ frames := 1, cells := 1, slots := 1, locals := 18 } : Room) #[(.ref ub), (.int (1 : Int32)), (.ref umi)] h0 (Q_cp3_1 Z ub kb ue ude kde uel uem kem uemp urec umi h0 n0) := by
  refine own_enter (own := "java/util/Arrays") (plainFor_of_name pn_7) rfl ?_
  intro p e s m below meth c s₁ hlk hret hx hby hml hown hnm hZ X0 e0
  have N0 := Fr.nil n0
  refine own_cast (ef_cp3_1 m ub umi) ?_
  obtain ⟨Se, Ee, Sd, Ad, Sl, El, Fl, Am, Sm, Em, Sr, Er, Fr1, Fr0, Mi⟩ := id hF
  show own_Go _ _ _ _ (s₁.setTop (mkF m 0 #[.val (.ref ub), .val (.int (1 : Int32)), .val (.ref umi), .unset] []))
  refine own_go (fun t k => XS.aloadN X0.here hx rfl (hb hby d_j65_120_0) rfl rfl k) ?_
  show own_Go _ _ _ _ (s₁.setTop (mkF m 1 #[.val (.ref ub), .val (.int (1 : Int32)), .val (.ref umi), .unset] [(.ref umi)]))
  obtain ⟨vm183, X183, st183⟩ := X0.ldcMirror hx (own := "java/util/Arrays") (C := "[Ljava/lang/Object;") hown (mvT hZ (w_178 hw)) (own_mir hZ Mi) (g := (mkF m 1 #[.val (.ref ub), .val (.int (1 : Int32)), .val (.ref umi), .unset] [(.ref umi)])) rfl (hb hby d_j65_120_1)
  obtain ⟨T183, eT183⟩ : ∃ z, z = s₁.setVm vm183 := ⟨_, rfl⟩
  rw [← eT183] at X183 st183
  have e183 : T183.heap = h0 := by rw [eT183]; exact e0
  refine own_go st183 ?_
  show own_Go _ _ _ _ (T183.setTop (mkF m 3 #[.val (.ref ub), .val (.int (1 : Int32)), .val (.ref umi), .unset] [(.ref umi), (.ref umi)]))
  refine own_go (fun t k => Jvm.RoadKit.acmp (g := (mkF m 3 #[.val (.ref ub), .val (.int (1 : Int32)), .val (.ref umi), .unset] [(.ref umi), (.ref umi)])) X183 hx rfl rfl rfl (pc0 := 3) (pc' := 6) (same := true) rfl (hb hby d_j65_120_3) rfl (decide_eq_true rfl) (by decide) (by decide) k) ?_
  show own_Go _ _ _ _ (T183.setTop (mkF m 6 #[.val (.ref ub), .val (.int (1 : Int32)), .val (.ref umi), .unset] []))
  refine own_go (fun t k => XS.iloadN X183.here hx rfl (hb hby d_j65_120_6) rfl k) ?_
  show own_Go _ _ _ _ (T183.setTop (mkF m 7 #[.val (.ref ub), .val (.int (1 : Int32)), .val (.ref umi), .unset] [(.int (1 : Int32))]))
  obtain ⟨T184, h184, k184, X184, e184, E184, A184, B184, O184, st184⟩ := newRE X183 hx hZ hown (w_179 hw) (w_103 hw) e183 (g := (mkF m 7 #[.val (.ref ub), .val (.int (1 : Int32)), .val (.ref umi), .unset] [(.int (1 : Int32))])) rfl (hb hby d_j65_120_7) rfl (by decide) (cap := 1) (by decide) (by decide) (by decide) (by decide) (ad := "[Ljava/lang/Object;") (by decide +kernel)
  obtain ⟨b184, g184⟩ : ∃ z, z = h0.size := ⟨_, rfl⟩
  rw [← g184] at A184 B184 st184
  refine own_go st184 ?_
  have Z184 : n0 ≤ h184.size := (Nat.le_trans Z0 E184.1)
  have K184 : Keep h0 h184 [] := (Keep.refl h0 []).ext E184
  have lo184 : h0.size ≤ b184 := Nat.le_of_eq g184.symm
  have q184 : n0 ≤ b184 := Nat.le_trans Z0 lo184
  have hi184 : b184 < h184.size := A184.lt
  have V184 : Arv Z h184 b184 k184 (.object "java/lang/Object") (1 : Int32) [.null] .null := (Arv.new A184 (by decide)).pad (pad_rep [] .null 1)
  show own_Go _ _ _ _ (T184.setTop (mkF m 10 #[.val (.ref ub), .val (.int (1 : Int32)), .val (.ref umi), .unset] [(.ref b184)]))
  refine own_go (fun t k => XS.goto X184.here hx rfl (pc0 := 10) (pc' := 24) rfl (hb hby d_j65_120_10) (by decide) (by decide) k) ?_
  show own_Go _ _ _ _ (T184.setTop (mkF m 24 #[.val (.ref ub), .val (.int (1 : Int32)), .val (.ref umi), .unset] [(.ref b184)]))
  refine own_go (fun t k => XS.astoreN X184.here hx rfl (hb hby d_j65_120_24) rfl rfl (l' := #[.val (.ref ub), .val (.int (1 : Int32)), .val (.ref umi), .val (.ref b184)]) rfl k) ?_
  show own_Go _ _ _ _ (T184.setTop (mkF m 25 #[.val (.ref ub), .val (.int (1 : Int32)), .val (.ref umi), .val (.ref b184)] []))
  refine own_go (fun t k => XS.aloadN X184.here hx rfl (hb hby d_j65_120_25) rfl rfl k) ?_
  show own_Go _ _ _ _ (T184.setTop (mkF m 26 #[.val (.ref ub), .val (.int (1 : Int32)), .val (.ref umi), .val (.ref b184)] [(.ref ub)]))
  refine own_go (fun t k => XS.iconst X184.here hx rfl (hb hby d_j65_120_26) k) ?_
  show own_Go _ _ _ _ (T184.setTop (mkF m 27 #[.val (.ref ub), .val (.int (1 : Int32)), .val (.ref umi), .val (.ref b184)] [(.int (0 : Int32)), (.ref ub)]))
  refine own_go (fun t k => XS.aloadN X184.here hx rfl (hb hby d_j65_120_27) rfl rfl k) ?_
  show own_Go _ _ _ _ (T184.setTop (mkF m 28 #[.val (.ref ub), .val (.int (1 : Int32)), .val (.ref umi), .val (.ref b184)] [(.ref b184), (.int (0 : Int32)), (.ref ub)]))
  refine own_go (fun t k => XS.iconst X184.here hx rfl (hb hby d_j65_120_28) k) ?_
  show own_Go _ _ _ _ (T184.setTop (mkF m 29 #[.val (.ref ub), .val (.int (1 : Int32)), .val (.ref umi), .val (.ref b184)] [(.int (0 : Int32)), (.ref b184), (.int (0 : Int32)), (.ref ub)]))
  refine own_go (fun t k => XS.aloadN X184.here hx rfl (hb hby d_j65_120_29) rfl rfl k) ?_
  show own_Go _ _ _ _ (T184.setTop (mkF m 30 #[.val (.ref ub), .val (.int (1 : Int32)), .val (.ref umi), .val (.ref b184)] [(.ref ub), (.int (0 : Int32)), (.ref b184), (.int (0 : Int32)), (.ref ub)]))
  obtain ⟨cl185, Ar185, qk185, sz185, nn185, ha185, gf185⟩ := id (B0.ext E184)
  refine own_go (X184.arraylength hx (by rw [e184]; exact Ar185.1) (State.isArrayOf_alike hZ.alike Ar185.2.1) (g := (mkF m 30 #[.val (.ref ub), .val (.int (1 : Int32)), .val (.ref umi), .val (.ref b184)] [(.ref ub), (.int (0 : Int32)), (.ref b184), (.int (0 : Int32)), (.ref ub)])) rfl rfl (hb hby d_j65_120_30)) ?_
  rw [len_of sz185 nn185]
  show own_Go _ _ _ _ (T184.setTop (mkF m 31 #[.val (.ref ub), .val (.int (1 : Int32)), .val (.ref umi), .val (.ref b184)] [(.int (10 : Int32)), (.int (0 : Int32)), (.ref b184), (.int (0 : Int32)), (.ref ub)]))
  refine own_go (fun t k => XS.iloadN X184.here hx rfl (hb hby d_j65_120_31) rfl k) ?_
  show own_Go _ _ _ _ (T184.setTop (mkF m 32 #[.val (.ref ub), .val (.int (1 : Int32)), .val (.ref umi), .val (.ref b184)] [(.int (1 : Int32)), (.int (10 : Int32)), (.int (0 : Int32)), (.ref b184), (.int (0 : Int32)), (.ref ub)]))
  obtain ⟨_, _, ⟨T186, L186, k186, n186⟩, -, X186, ⟨Lc186, hQ186, l186, y186, z186⟩, st186⟩ := Jvm.LawKit.callS X184 hx (y := (⟨"java/lang/Math", "min", "(II)I"⟩ : MethodName)) hown (mvT hZ (w_180 hw)) (mvT hZ (w_181 hw)) (mvT hZ (w_100 hw)) (mvT hZ (w_182 hw)) (by decide) (backOf (W := 4) (rm_min_1 l Z a0 hw []  h184 n0 Z184 ) hZ (w_182 hw) (w_100 hw) (by decide) (by decide)) (g := (mkF m 32 #[.val (.ref ub), .val (.int (1 : Int32)), .val (.ref umi), .val (.ref b184)] [(.int (1 : Int32)), (.int (10 : Int32)), (.int (0 : Int32)), (.ref b184), (.int (0 : Int32)), (.ref ub)])) rfl (by rw [hml]; rfl) (argsL := [(.int (10 : Int32)), (.int (1 : Int32))]) (rest := [(.int (0 : Int32)), (.ref b184), (.int (0 : Int32)), (.ref ub)]) (lenOf pd_1 rfl) rfl (by show 2 * 0 + _ ≤ _; exact Nat.le_of_eq rfl) (hb hby d_j65_120_32) (fun _ _ => ⟨rfl, e184, (by decide : 1 + 0 ≤ _), (by decide : 1 + 0 ≤ _)⟩)
  dsimp only [Pt.U, Pt.locs, Pt.cells, Pt.slots] at X186 l186 y186 z186 st186 hQ186
  subst l186 y186 z186
  obtain ⟨rfl, N186q, e186⟩ := hQ186
  have N186 := Fr.app N0 N186q
  refine own_go st186 ?_
  show own_Go _ _ _ _ (T186.setTop (mkF m 35 #[.val (.ref ub), .val (.int (1 : Int32)), .val (.ref umi), .val (.ref b184)] [(.int (1 : Int32)), (.int (0 : Int32)), (.ref b184), (.int (0 : Int32)), (.ref ub)]))
  obtain ⟨cl187, Ar187, qk187, sz187, nn187, ha187, gf187⟩ := id V184
  obtain ⟨T188, h188, L188, X188, e188, N188, K188q, V188, st188⟩ := cpA X186 hx hZ hown (w_183 hw) (w_186 hw) (w_184 hw) (w_185 hw) e186 (sp := (0 : Int32)) (dp := (0 : Int32)) (nn := (1 : Int32)) (us := [(.ref ue)]) (B0.ext E184) V184 (Or.inr ⟨rfl, rfl, ⟨(Sto.ofV Ar187 qk187 O184 (Ins.of_exa (Ee.ext (O0.ext E184).2) (w_104 hw))), trivial⟩⟩) (by decide) (by decide) (by decide) (by decide) (by decide) rfl (by decide) N186 q184 (g := (mkF m 35 #[.val (.ref ub), .val (.int (1 : Int32)), .val (.ref umi), .val (.ref b184)] [(.int (1 : Int32)), (.int (0 : Int32)), (.ref b184), (.int (0 : Int32)), (.ref ub)])) rfl (by rw [hml]; rfl) rfl (hb hby d_j65_120_35) (by decide) (W := 0) (by show 2 * 0 + _ ≤ _; exact Nat.le_of_eq rfl) (by decide)
  refine own_go st188 ?_
  replace V188 : Arv Z h188 b184 k184 (.object "java/lang/Object") (1 : Int32) [(.ref ue)] .null := V188
  have Z188 : n0 ≤ h188.size := (Nat.le_trans Z184 K188q.1)
  have K188 : Keep h0 h188 [] := K184.trans K188q (allS (Or.inr lo184) all0)
  show own_Go _ _ _ _ (T188.setTop (mkF m 38 #[.val (.ref ub), .val (.int (1 : Int32)), .val (.ref umi), .val (.ref b184)] []))
  refine own_go (fun t k => XS.aloadN X188.here hx rfl (hb hby d_j65_120_38) rfl rfl k) ?_
  show own_Go _ _ _ _ (T188.setTop (mkF m 39 #[.val (.ref ub), .val (.int (1 : Int32)), .val (.ref umi), .val (.ref b184)] [(.ref b184)]))
  refine own_ret X188 hx hlk hret rfl (Or.inr (Or.inr (Or.inr (Or.inr ⟨rfl, rfl, rfl⟩)))) (hb hby d_j65_120_39) ?_ (by decide) (by decide)
  rw [e188]
  exact ⟨b184, k184, rfl, N188, K188, lo184, q184, V188⟩
def Q_cp2_1 (Z : State) (ub : Addr) (kb : ClassId) (ue : Addr) (ude : Addr) (kde : ClassId) (uel : Addr) (uem : Addr) (kem : ClassId) (uemp : Addr) (urec : Addr) (umi : Addr) (h0 : Heap) (n0 : Nat) (v : Option Value) (h : Heap) (L : List Loc) : Prop := ∃ (uc : Addr) (kc : ClassId), v = some (.ref uc) ∧ Fr n0 L ∧ Keep h0 h [] ∧ h0.size ≤ uc ∧ n0 ≤ uc ∧ Arv Z h uc kc (.object "java/lang/Object") (1 : Int32) [(.ref ue)] .null
theorem ef_cp2_1 (m : MethodId) (ub : Addr) : entryFrame m #[(.ref ub), (.int (1 : Int32))] 2 = mkF m 0 #[.val (.ref ub), .val (.int (1 : Int32))] [] := by first | (simp [entryFrame, mkF, argsToLocals, Value.category]; done) | rfl
theorem d_j65_119_0 : decode jdk_65_method_119_code 0 = .ok (.aload_n 0, 1) := by decide +kernel
theorem d_j65_119_1 : decode jdk_65_method_119_code 1 = .ok (.iload_n 1, 1) := by decide +kernel
theorem d_j65_119_2 : decode jdk_65_method_119_code 2 = .ok (.aload_n 0, 1) := by decide +kernel
theorem w_169 {Z : State} {a0 : Array Value} (hw : ∀ d ∈ tables_1, d.before a0 Z = true) : (Jvm.Cond.methodLink "java/util/Arrays" (86 : Nat) ({ cls := "java/lang/Object", name := "getClass", desc := "()Ljava/lang/Class;" } : Jvm.MethodName)).before a0 Z = true := hw _ (List.mem_of_getElem? (i := 169) rfl)
theorem w_170 {Z : State} {a0 : Array Value} (hw : ∀ d ∈ tables_1, d.before a0 Z = true) : (Jvm.Cond.declares ({ cls := "java/lang/Object", name := "getClass", desc := "()Ljava/lang/Class;" } : Jvm.MethodName)).before a0 Z = true := hw _ (List.mem_of_getElem? (i := 170) rfl)
theorem w_50 {Z : State} {a0 : Array Value} (hw : ∀ d ∈ tables_1, d.before a0 Z = true) : (Jvm.Cond.noSuperclass "java/lang/Object").before a0 Z = true := hw _ (List.mem_of_getElem? (i := 50) rfl)
theorem w_172 {Z : State} {a0 : Array Value} (hw : ∀ d ∈ tables_1, d.before a0 Z = true) : (Jvm.Cond.selects "[Ljava/lang/Object;" ({ cls := "java/lang/Object", name := "getClass", desc := "()Ljava/lang/Class;" } : Jvm.MethodName) ({ cls := "java/lang/Object", name := "getClass", desc := "()Ljava/lang/Class;" } : Jvm.MethodName)).before a0 Z = true := hw _ (List.mem_of_getElem? (i := 172) rfl)
theorem w_171 {Z : State} {a0 : Array Value} (hw : ∀ d ∈ tables_1, d.before a0 Z = true) : (Jvm.Cond.instanceMethod ({ cls := "java/lang/Object", name := "getClass", desc := "()Ljava/lang/Class;" } : Jvm.MethodName)).before a0 Z = true := hw _ (List.mem_of_getElem? (i := 171) rfl)
theorem w_173 {Z : State} {a0 : Array Value} (hw : ∀ d ∈ tables_1, d.before a0 Z = true) : (Jvm.Cond.native ({ cls := "java/lang/Object", name := "getClass", desc := "()Ljava/lang/Class;" } : Jvm.MethodName)).before a0 Z = true := hw _ (List.mem_of_getElem? (i := 173) rfl)
theorem d_j65_119_3 : decode jdk_65_method_119_code 3 = .ok (.invokevirtual 86, 3) := by decide +kernel
theorem w_175 {Z : State} {a0 : Array Value} (hw : ∀ d ∈ tables_1, d.before a0 Z = true) : (Jvm.Cond.methodLink "java/util/Arrays" (300 : Nat) ({ cls := "java/util/Arrays", name := "copyOf", desc := "([Ljava/lang/Object;ILjava/lang/Class;)[Ljava/lang/Object;" } : Jvm.MethodName)).before a0 Z = true := hw _ (List.mem_of_getElem? (i := 175) rfl)
theorem w_177 {Z : State} {a0 : Array Value} (hw : ∀ d ∈ tables_1, d.before a0 Z = true) : (Jvm.Cond.code ({ cls := "java/util/Arrays", name := "copyOf", desc := "([Ljava/lang/Object;ILjava/lang/Class;)[Ljava/lang/Object;" } : Jvm.MethodName) jdk_65_method_120_code (4 : Nat) (Option.some (Jvm.ClassFile.FieldType.array (Jvm.ClassFile.FieldType.object "java/lang/Object")))).before a0 Z = true := hw _ (List.mem_of_getElem? (i := 177) rfl)
theorem w_167 {Z : State} {a0 : Array Value} (hw : ∀ d ∈ tables_1, d.before a0 Z = true) : (Jvm.Cond.initialized "java/util/Arrays").before a0 Z = true := hw _ (List.mem_of_getElem? (i := 167) rfl)
theorem pd_5 : parseMethodDescriptor "([Ljava/lang/Object;ILjava/lang/Class;)[Ljava/lang/Object;" = some ⟨[(.array (.object "java/lang/Object")), .int, (.object "java/lang/Class")], some (.array (.object "java/lang/Object"))⟩ := by decide +kernel
theorem d_j65_119_6 : decode jdk_65_method_119_code 6 = .ok (.invokestatic 300, 3) := by decide +kernel
theorem w_176 {Z : State} {a0 : Array Value} (hw : ∀ d ∈ tables_1, d.before a0 Z = true) : (Jvm.Cond.static ({ cls := "java/util/Arrays", name := "copyOf", desc := "([Ljava/lang/Object;ILjava/lang/Class;)[Ljava/lang/Object;" } : Jvm.MethodName)).before a0 Z = true := hw _ (List.mem_of_getElem? (i := 176) rfl)
theorem d_j65_119_9 : decode jdk_65_method_119_code 9 = .ok (.areturn, 1) := by decide +kernel
set_option maxRecDepth 65536 in
set_option maxHeartbeats 40000000 in
theorem rm_cp2_1 (l : Launch) (Z : State) (a0 : Array Value) (hw : ∀ d ∈ tables_1, d.before a0 Z = true) (ws : List Jvm.Cond) (ub : Addr) (kb : ClassId) (ue ude : Addr) (kde : ClassId) (uel uem : Addr) (kem : ClassId) (uemp urec umi : Addr) (h0 : Heap) (n0 : Nat) (Z0 : n0 ≤ h0.size) (B0 : Arv Z h0 ub kb (.object "java/lang/Object") (10 : Int32) [(.ref ue), .null, .null, .null, .null, .null, .null, .null, .null, .null] .null) (Eb : Exa Z h0 ub "[Ljava/lang/Object;") (O0 : Old Z n0 h0) (hF : own_Fac Z ue ude kde uel uem kem uemp urec umi) :
    own_Met l Z (⟨"java/util/Arrays", "copyOf", "([Ljava/lang/Object;I)[Ljava/lang/Object;"⟩ : MethodName) jdk_65_method_119_code 2 (some (.array (.object "java/lang/Object"))) ws ({ frames := 2, cells := 1, slots := 1, locals := 33 } : Room) #[(.ref ub), (.int (1 : Int32))] h0 (Q_cp2_1 Z ub kb ue ude kde uel uem kem uemp urec umi h0 n0) := by
  refine own_enter (own := "java/util/Arrays") (plainFor_of_name pn_7) rfl ?_
  intro p e s m below meth c s₁ hlk hret hx hby hml hown hnm hZ X0 e0
  have N0 := Fr.nil n0
  refine own_cast (ef_cp2_1 m ub) ?_
  obtain ⟨Se, Ee, Sd, Ad, Sl, El, Fl, Am, Sm, Em, Sr, Er, Fr1, Fr0, Mi⟩ := id hF
  show own_Go _ _ _ _ (s₁.setTop (mkF m 0 #[.val (.ref ub), .val (.int (1 : Int32))] []))
  refine own_go (fun t k => XS.aloadN X0.here hx rfl (hb hby d_j65_119_0) rfl rfl k) ?_
  show own_Go _ _ _ _ (s₁.setTop (mkF m 1 #[.val (.ref ub), .val (.int (1 : Int32))] [(.ref ub)]))
  refine own_go (fun t k => XS.iloadN X0.here hx rfl (hb hby d_j65_119_1) rfl k) ?_
  show own_Go _ _ _ _ (s₁.setTop (mkF m 2 #[.val (.ref ub), .val (.int (1 : Int32))] [(.int (1 : Int32)), (.ref ub)]))
  refine own_go (fun t k => XS.aloadN X0.here hx rfl (hb hby d_j65_119_2) rfl rfl k) ?_
  show own_Go _ _ _ _ (s₁.setTop (mkF m 3 #[.val (.ref ub), .val (.int (1 : Int32))] [(.ref ub), (.int (1 : Int32)), (.ref ub)]))
  obtain ⟨T189, X189, e189, st189⟩ := gcls X0 hx hZ hown (w_169 hw) (w_170 hw) (w_50 hw) (w_172 hw) (w_171 hw) (w_173 hw) e0 Eb Mi (g := (mkF m 3 #[.val (.ref ub), .val (.int (1 : Int32))] [(.ref ub), (.int (1 : Int32)), (.ref ub)])) rfl (by rw [hml]; rfl) rfl (hb hby d_j65_119_3) (by decide) (W := 2) (by show 2 * 0 + _ ≤ _; exact Nat.le_of_eq rfl) (by decide)
  refine own_go st189 ?_
  show own_Go _ _ _ _ (T189.setTop (mkF m 6 #[.val (.ref ub), .val (.int (1 : Int32))] [(.ref umi), (.int (1 : Int32)), (.ref ub)]))
  obtain ⟨_, _, ⟨T190, L190, k190, n190⟩, -, X190, ⟨Lc190, hQ190, l190, y190, z190⟩, st190⟩ := Jvm.LawKit.callS X189 hx (y := (⟨"java/util/Arrays", "copyOf", "([Ljava/lang/Object;ILjava/lang/Class;)[Ljava/lang/Object;"⟩ : MethodName)) hown (mvT hZ (w_175 hw)) (mvT hZ (w_176 hw)) (mvT hZ (w_167 hw)) (mvT hZ (w_177 hw)) (by decide) (backOf (W := 0) (rm_cp3_1 l Z a0 hw [] ub kb ue ude kde uel uem kem uemp urec umi h0 n0 Z0 B0 Eb O0 hF) hZ (w_177 hw) (w_167 hw) (by decide) (by decide)) (g := (mkF m 6 #[.val (.ref ub), .val (.int (1 : Int32))] [(.ref umi), (.int (1 : Int32)), (.ref ub)])) rfl (by rw [hml]; rfl) (argsL := [(.ref ub), (.int (1 : Int32)), (.ref umi)]) (rest := []) (lenOf pd_5 rfl) rfl (by show 2 * 0 + _ ≤ _; exact Nat.le_of_eq rfl) (hb hby d_j65_119_6) (fun _ _ => ⟨rfl, e189, (by decide : 0 + 1 ≤ _), (by decide : 0 + 1 ≤ _)⟩)
  dsimp only [Pt.U, Pt.locs, Pt.cells, Pt.slots] at X190 l190 y190 z190 st190 hQ190
  subst l190 y190 z190
  generalize e190 : T190.heap = h190 at hQ190
  obtain ⟨uc190, kc190, rfl, N190q, K190q, lo190, q190, A190⟩ := hQ190
  have N190 := Fr.app N0 N190q
  refine own_go st190 ?_
  have Z190 : n0 ≤ h190.size := (Nat.le_trans Z0 K190q.1)
  have K190 : Keep h0 h190 [] := (Keep.refl h0 []).trans K190q all0
  have hi190 := A190.lt
  show own_Go _ _ _ _ (T190.setTop (mkF m 9 #[.val (.ref ub), .val (.int (1 : Int32))] [(.ref uc190)]))
  refine own_ret X190 hx hlk hret rfl (Or.inr (Or.inr (Or.inr (Or.inr ⟨rfl, rfl, rfl⟩)))) (hb hby d_j65_119_9) ?_ (by decide) (by decide)
  rw [e190]
  exact ⟨uc190, kc190, rfl, N190, K190, lo190, q190, A190⟩
def Q_toa_1 (Z : State) (ua : Addr) (ub : Addr) (kb : ClassId) (ue : Addr) (ude : Addr) (kde : ClassId) (uel : Addr) (uem : Addr) (kem : ClassId) (uemp : Addr) (urec : Addr) (umi : Addr) (h0 : Heap) (n0 : Nat) (v : Option Value) (h : Heap) (L : List Loc) : Prop := ∃ (uc : Addr) (kc : ClassId), v = some (.ref uc) ∧ Fr n0 L ∧ Keep h0 h [] ∧ h0.size ≤ uc ∧ n0 ≤ uc ∧ Arv Z h uc kc (.object "java/lang/Object") (1 : Int32) [(.ref ue)] .null
theorem ef_toa_1 (m : MethodId) (ua : Addr) : entryFrame m #[(.ref ua)] 1 = mkF m 0 #[.val (.ref ua)] [] := by first | (simp [entryFrame, mkF, argsToLocals, Value.category]; done) | rfl
theorem d_j38_16_0 : decode jdk_38_method_16_code 0 = .ok (.aload_n 0, 1) := by decide +kernel
theorem d_j38_16_1 : decode jdk_38_method_16_code 1 = .ok (.getfield 9, 3) := by decide +kernel
theorem d_j38_16_4 : decode jdk_38_method_16_code 4 = .ok (.aload_n 0, 1) := by decide +kernel
theorem d_j38_16_5 : decode jdk_38_method_16_code 5 = .ok (.getfield 48, 3) := by decide +kernel
theorem w_165 {Z : State} {a0 : Array Value} (hw : ∀ d ∈ tables_1, d.before a0 Z = true) : (Jvm.Cond.methodLink "java/util/ArrayList" (66 : Nat) ({ cls := "java/util/Arrays", name := "copyOf", desc := "([Ljava/lang/Object;I)[Ljava/lang/Object;" } : Jvm.MethodName)).before a0 Z = true := hw _ (List.mem_of_getElem? (i := 165) rfl)
theorem w_168 {Z : State} {a0 : Array Value} (hw : ∀ d ∈ tables_1, d.before a0 Z = true) : (Jvm.Cond.code ({ cls := "java/util/Arrays", name := "copyOf", desc := "([Ljava/lang/Object;I)[Ljava/lang/Object;" } : Jvm.MethodName) jdk_65_method_119_code (2 : Nat) (Option.some (Jvm.ClassFile.FieldType.array (Jvm.ClassFile.FieldType.object "java/lang/Object")))).before a0 Z = true := hw _ (List.mem_of_getElem? (i := 168) rfl)
theorem pd_6 : parseMethodDescriptor "([Ljava/lang/Object;I)[Ljava/lang/Object;" = some ⟨[(.array (.object "java/lang/Object")), .int], some (.array (.object "java/lang/Object"))⟩ := by decide +kernel
theorem d_j38_16_8 : decode jdk_38_method_16_code 8 = .ok (.invokestatic 66, 3) := by decide +kernel
theorem w_166 {Z : State} {a0 : Array Value} (hw : ∀ d ∈ tables_1, d.before a0 Z = true) : (Jvm.Cond.static ({ cls := "java/util/Arrays", name := "copyOf", desc := "([Ljava/lang/Object;I)[Ljava/lang/Object;" } : Jvm.MethodName)).before a0 Z = true := hw _ (List.mem_of_getElem? (i := 166) rfl)
theorem d_j38_16_11 : decode jdk_38_method_16_code 11 = .ok (.areturn, 1) := by decide +kernel
set_option maxRecDepth 65536 in
set_option maxHeartbeats 40000000 in
theorem rm_toa_1 (l : Launch) (Z : State) (a0 : Array Value) (hw : ∀ d ∈ tables_1, d.before a0 Z = true) (ws : List Jvm.Cond) (ua ub : Addr) (kb : ClassId) (ue ude : Addr) (kde : ClassId) (uel uem : Addr) (kem : ClassId) (uemp urec umi : Addr) (h0 : Heap) (n0 : Nat) (Z0 : n0 ≤ h0.size) (F1 : Fld Z h0 ua "java/util/ArrayList" "elementData" "[Ljava/lang/Object;" (.ref ub)) (F2 : Fld Z h0 ua "java/util/ArrayList" "size" "I" (.int (1 : Int32))) (B0 : Arv Z h0 ub kb (.object "java/lang/Object") (10 : Int32) [(.ref ue), .null, .null, .null, .null, .null, .null, .null, .null, .null] .null) (Eb : Exa Z h0 ub "[Ljava/lang/Object;") (O0 : Old Z n0 h0) (hF : own_Fac Z ue ude kde uel uem kem uemp urec umi) :
    own_Met l Z (⟨"java/util/ArrayList", "toArray", "()[Ljava/lang/Object;"⟩ : MethodName) jdk_38_method_16_code 1 (some (.array (.object "java/lang/Object"))) ws ({ frames := 3, cells := 1, slots := 1, locals := 46 } : Room) #[(.ref ua)] h0 (Q_toa_1 Z ua ub kb ue ude kde uel uem kem uemp urec umi h0 n0) := by
  refine own_enter (own := "java/util/ArrayList") (plainFor_of_name pn_6) rfl ?_
  intro p e s m below meth c s₁ hlk hret hx hby hml hown hnm hZ X0 e0
  have N0 := Fr.nil n0
  refine own_cast (ef_toa_1 m ua) ?_
  obtain ⟨Se, Ee, Sd, Ad, Sl, El, Fl, Am, Sm, Em, Sr, Er, Fr1, Fr0, Mi⟩ := id hF
  show own_Go _ _ _ _ (s₁.setTop (mkF m 0 #[.val (.ref ua)] []))
  refine own_go (fun t k => XS.aloadN X0.here hx rfl (hb hby d_j38_16_0) rfl rfl k) ?_
  show own_Go _ _ _ _ (s₁.setTop (mkF m 1 #[.val (.ref ua)] [(.ref ua)]))
  obtain ⟨T191, X191, e191, st191⟩ := getF X0 hx hZ hown (host := "") (Or.inl (w_24 hw)) Via.refl e0 F1 (g := (mkF m 1 #[.val (.ref ua)] [(.ref ua)])) rfl rfl (hb hby d_j38_16_1)
  refine own_go st191 ?_
  show own_Go _ _ _ _ (T191.setTop (mkF m 4 #[.val (.ref ua)] [(.ref ub)]))
  refine own_go (fun t k => XS.aloadN X191.here hx rfl (hb hby d_j38_16_4) rfl rfl k) ?_
  show own_Go _ _ _ _ (T191.setTop (mkF m 5 #[.val (.ref ua)] [(.ref ua), (.ref ub)]))
  obtain ⟨T192, X192, e192, st192⟩ := getF X191 hx hZ hown (host := "") (Or.inl (w_61 hw)) Via.refl e191 F2 (g := (mkF m 5 #[.val (.ref ua)] [(.ref ua), (.ref ub)])) rfl rfl (hb hby d_j38_16_5)
  refine own_go st192 ?_
  show own_Go _ _ _ _ (T192.setTop (mkF m 8 #[.val (.ref ua)] [(.int (1 : Int32)), (.ref ub)]))
  obtain ⟨_, _, ⟨T193, L193, k193, n193⟩, -, X193, ⟨Lc193, hQ193, l193, y193, z193⟩, st193⟩ := Jvm.LawKit.callS X192 hx (y := (⟨"java/util/Arrays", "copyOf", "([Ljava/lang/Object;I)[Ljava/lang/Object;"⟩ : MethodName)) hown (mvT hZ (w_165 hw)) (mvT hZ (w_166 hw)) (mvT hZ (w_167 hw)) (mvT hZ (w_168 hw)) (by decide) (backOf (W := 0) (rm_cp2_1 l Z a0 hw [] ub kb ue ude kde uel uem kem uemp urec umi h0 n0 Z0 B0 Eb O0 hF) hZ (w_168 hw) (w_167 hw) (by decide) (by decide)) (g := (mkF m 8 #[.val (.ref ua)] [(.int (1 : Int32)), (.ref ub)])) rfl (by rw [hml]; rfl) (argsL := [(.ref ub), (.int (1 : Int32))]) (rest := []) (lenOf pd_6 rfl) rfl (by show 2 * 0 + _ ≤ _; exact Nat.le_of_eq rfl) (hb hby d_j38_16_8) (fun _ _ => ⟨rfl, e192, (by decide : 0 + 1 ≤ _), (by decide : 0 + 1 ≤ _)⟩)
  dsimp only [Pt.U, Pt.locs, Pt.cells, Pt.slots] at X193 l193 y193 z193 st193 hQ193
  subst l193 y193 z193
  generalize e193 : T193.heap = h193 at hQ193
  obtain ⟨uc193, kc193, rfl, N193q, K193q, lo193, q193, A193⟩ := hQ193
  have N193 := Fr.app N0 N193q
  refine own_go st193 ?_
  have Z193 : n0 ≤ h193.size := (Nat.le_trans Z0 K193q.1)
  have K193 : Keep h0 h193 [] := (Keep.refl h0 []).trans K193q all0
  have hi193 := A193.lt
  show own_Go _ _ _ _ (T193.setTop (mkF m 11 #[.val (.ref ua)] [(.ref uc193)]))
  refine own_ret X193 hx hlk hret rfl (Or.inr (Or.inr (Or.inr (Or.inr ⟨rfl, rfl, rfl⟩)))) (hb hby d_j38_16_11) ?_ (by decide) (by decide)
  rw [e193]
  exact ⟨uc193, kc193, rfl, N193, K193, lo193, q193, A193⟩
def Q_emp_2 (Z : State) (ua : Addr) (h0 : Heap) (n0 : Nat) (v : Option Value) (h : Heap) (L : List Loc) : Prop := v = some (.int 0) ∧ Fr n0 L ∧ h = h0
theorem ef_emp_2 (m : MethodId) (ua : Addr) : entryFrame m #[(.ref ua)] 1 = mkF m 0 #[.val (.ref ua)] [] := by first | (simp [entryFrame, mkF, argsToLocals, Value.category]; done) | rfl
set_option maxRecDepth 65536 in
set_option maxHeartbeats 40000000 in
theorem rm_emp_2 (l : Launch) (Z : State) (a0 : Array Value) (hw : ∀ d ∈ tables_1, d.before a0 Z = true) (ws : List Jvm.Cond) (ua : Addr) (h0 : Heap) (n0 : Nat) (Z0 : n0 ≤ h0.size) (F2 : Fld Z h0 ua "java/util/ArrayList" "size" "I" (.int (2 : Int32))) :
    own_Met l Z (⟨"java/util/ArrayList", "isEmpty", "()Z"⟩ : MethodName) jdk_38_method_9_code 1 (some .boolean) ws ({ frames := 0, cells := 0, slots := 0, locals := 0 } : Room) #[(.ref ua)] h0 (Q_emp_2 Z ua h0 n0) := by
  refine own_enter (own := "java/util/ArrayList") (plainFor_of_name pn_6) rfl ?_
  intro p e s m below meth c s₁ hlk hret hx hby hml hown hnm hZ X0 e0
  have N0 := Fr.nil n0
  refine own_cast (ef_emp_2 m ua) ?_
  show own_Go _ _ _ _ (s₁.setTop (mkF m 0 #[.val (.ref ua)] []))
  refine own_go (fun t k => XS.aloadN X0.here hx rfl (hb hby d_j38_9_0) rfl rfl k) ?_
  show own_Go _ _ _ _ (s₁.setTop (mkF m 1 #[.val (.ref ua)] [(.ref ua)]))
  obtain ⟨T194, X194, e194, st194⟩ := getF X0 hx hZ hown (host := "") (Or.inl (w_61 hw)) Via.refl e0 F2 (g := (mkF m 1 #[.val (.ref ua)] [(.ref ua)])) rfl rfl (hb hby d_j38_9_1)
  refine own_go st194 ?_
  show own_Go _ _ _ _ (T194.setTop (mkF m 4 #[.val (.ref ua)] [(.int (2 : Int32))]))
  refine own_go (fun t k => XS.ifYes X194.here hx rfl (pc0 := 4) (pc' := 11) rfl (hb hby d_j38_9_4) rfl ((if0 _ _).trans (feq (by decide : ¬ ((2 : Int32) = (0 : Int32)))).2) (by decide) (by decide) k) ?_
  show own_Go _ _ _ _ (T194.setTop (mkF m 11 #[.val (.ref ua)] []))
  refine own_go (fun t k => XS.iconst X194.here hx rfl (hb hby d_j38_9_11) k) ?_
  show own_Go _ _ _ _ (T194.setTop (mkF m 12 #[.val (.ref ua)] [(.int (0 : Int32))]))
  refine own_retN X194 hx hlk (t := .boolean) hret (by simp) (hb hby d_j38_9_12) ?_ (by decide) (by decide)
  rw [e194]
  exact ⟨rfl, N0, rfl⟩
def Q_min_2 (Z : State)  (h0 : Heap) (n0 : Nat) (v : Option Value) (h : Heap) (L : List Loc) : Prop := v = some (.int 2) ∧ Fr n0 L ∧ h = h0
theorem ef_min_2 (m : MethodId)  : entryFrame m #[(.int (10 : Int32)), (.int (2 : Int32))] 2 = mkF m 0 #[.val (.int (10 : Int32)), .val (.int (2 : Int32))] [] := by first | (simp [entryFrame, mkF, argsToLocals, Value.category]; done) | rfl
set_option maxRecDepth 65536 in
set_option maxHeartbeats 40000000 in
theorem rm_min_2 (l : Launch) (Z : State) (a0 : Array Value) (hw : ∀ d ∈ tables_1, d.before a0 Z = true) (ws : List Jvm.Cond)  (h0 : Heap) (n0 : Nat) (Z0 : n0 ≤ h0.size) :
    own_Met l Z (⟨"java/lang/Math", "min", "(II)I"⟩ : MethodName) jdk_29_method_69_code 2 (some .int) ws ({ frames := 0, cells := 0, slots := 0, locals := 0 } : Room) #[(.int (10 : Int32)), (.int (2 : Int32))] h0 (Q_min_2 Z  h0 n0) := by
  refine own_enter (own := "java/lang/Math") (Jvm.Free.JP.mathPlain rfl (by decide +kernel)) rfl ?_
  intro p e s m below meth c s₁ hlk hret hx hby hml hown hnm hZ X0 e0
  have N0 := Fr.nil n0
  refine own_cast (ef_min_2 m ) ?_
  show own_Go _ _ _ _ (s₁.setTop (mkF m 0 #[.val (.int (10 : Int32)), .val (.int (2 : Int32))] []))
  refine own_go (fun t k => XS.iloadN X0.here hx rfl (hb hby d_j29_69_0) rfl k) ?_
  show own_Go _ _ _ _ (s₁.setTop (mkF m 1 #[.val (.int (10 : Int32)), .val (.int (2 : Int32))] [(.int (10 : Int32))]))
  refine own_go (fun t k => XS.iloadN X0.here hx rfl (hb hby d_j29_69_1) rfl k) ?_
  show own_Go _ _ _ _ (s₁.setTop (mkF m 2 #[.val (.int (10 : Int32)), .val (.int (2 : Int32))] [(.int (2 : Int32)), (.int (10 : Int32))]))
  refine own_go (fun t k => XS.icmpYes X0.here hx rfl (pc0 := 2) (pc' := 9) rfl (hb hby d_j29_69_2) rfl (tlt (by decide : (2 : Int32) < (10 : Int32))).2.2.1 (by decide) (by decide) k) ?_
  show own_Go _ _ _ _ (s₁.setTop (mkF m 9 #[.val (.int (10 : Int32)), .val (.int (2 : Int32))] []))
  refine own_go (fun t k => XS.iloadN X0.here hx rfl (hb hby d_j29_69_9) rfl k) ?_
  show own_Go _ _ _ _ (s₁.setTop (mkF m 10 #[.val (.int (10 : Int32)), .val (.int (2 : Int32))] [(.int (2 : Int32))]))
  refine own_ret X0 hx hlk hret rfl (Or.inl ⟨rfl, Or.inl rfl, _, rfl⟩) (hb hby d_j29_69_10) ?_ (by decide) (by decide)
  rw [e0]
  exact ⟨rfl, N0, rfl⟩
def Q_cp3_2 (Z : State) (ub : Addr) (kb : ClassId) (ue : Addr) (ude : Addr) (kde : ClassId) (uel : Addr) (uem : Addr) (kem : ClassId) (uemp : Addr) (urec : Addr) (umi : Addr) (h0 : Heap) (n0 : Nat) (v : Option Value) (h : Heap) (L : List Loc) : Prop := ∃ (uc : Addr) (kc : ClassId), v = some (.ref uc) ∧ Fr n0 L ∧ Keep h0 h [] ∧ h0.size ≤ uc ∧ n0 ≤ uc ∧ Arv Z h uc kc (.object "java/lang/Object") (2 : Int32) [(.ref ue), (.ref ue)] .null
theorem ef_cp3_2 (m : MethodId) (ub : Addr) (umi : Addr) : entryFrame m #[(.ref ub), (.int (2 : Int32)), (.ref umi)] 4 = mkF m 0 #[.val (.ref ub), .val (.int (2 : Int32)), .val (.ref umi), .unset] [] := by first | (simp [entryFrame, mkF, argsToLocals, Value.category]; done) | rfl
set_option maxRecDepth 65536 in
set_option maxHeartbeats 40000000 in
theorem rm_cp3_2 (l : Launch) (Z : State) (a0 : Array Value) (hw : ∀ d ∈ tables_1, d.before a0 Z = true) (ws : List Jvm.Cond) (ub : Addr) (kb : ClassId) (ue ude : Addr) (kde : ClassId) (uel uem : Addr) (kem : ClassId) (uemp urec umi : Addr) (h0 : Heap) (n0 : Nat) (Z0 : n0 ≤ h0.size) (B0 : Arv Z h0 ub kb (.object "java/lang/Object") (10 : Int32) [(.ref ue), (.ref ue), .null, .null, .null, .null, .null, .null, .null, .null] .null) (Eb : Exa Z h0 ub "[Ljava/lang/Object;") (O0 : Old Z n0 h0) (hF : own_Fac Z ue ude kde uel uem kem uemp urec umi) :
    own_Met l Z (⟨"java/util/Arrays", "copyOf", "([Ljava/lang/Object;ILjava/lang/Class;)[Ljava/lang/Object;"⟩ : MethodName) jdk_65_method_120_code 4 (some (.array (.object "java/lang/Object"))) ws ({ frames := 1, cells := 1, slots := 2, locals := 18 } : Room) #[(.ref ub), (.int (2 : Int32)), (.ref umi)] h0 (Q_cp3_2 Z ub kb ue ude kde uel uem kem uemp urec umi h0 n0) := by
  refine own_enter (own := "java/util/Arrays") (plainFor_of_name pn_7) rfl ?_
  intro p e s m below meth c s₁ hlk hret hx hby hml hown hnm hZ X0 e0
  have N0 := Fr.nil n0
  refine own_cast (ef_cp3_2 m ub umi) ?_
  obtain ⟨Se, Ee, Sd, Ad, Sl, El, Fl, Am, Sm, Em, Sr, Er, Fr1, Fr0, Mi⟩ := id hF
  show own_Go _ _ _ _ (s₁.setTop (mkF m 0 #[.val (.ref ub), .val (.int (2 : Int32)), .val (.ref umi), .unset] []))
  refine own_go (fun t k => XS.aloadN X0.here hx rfl (hb hby d_j65_120_0) rfl rfl k) ?_
  show own_Go _ _ _ _ (s₁.setTop (mkF m 1 #[.val (.ref ub), .val (.int (2 : Int32)), .val (.ref umi), .unset] [(.ref umi)]))
  obtain ⟨vm195, X195, st195⟩ := X0.ldcMirror hx (own := "java/util/Arrays") (C := "[Ljava/lang/Object;") hown (mvT hZ (w_178 hw)) (own_mir hZ Mi) (g := (mkF m 1 #[.val (.ref ub), .val (.int (2 : Int32)), .val (.ref umi), .unset] [(.ref umi)])) rfl (hb hby d_j65_120_1)
  obtain ⟨T195, eT195⟩ : ∃ z, z = s₁.setVm vm195 := ⟨_, rfl⟩
  rw [← eT195] at X195 st195
  have e195 : T195.heap = h0 := by rw [eT195]; exact e0
  refine own_go st195 ?_
  show own_Go _ _ _ _ (T195.setTop (mkF m 3 #[.val (.ref ub), .val (.int (2 : Int32)), .val (.ref umi), .unset] [(.ref umi), (.ref umi)]))
  refine own_go (fun t k => Jvm.RoadKit.acmp (g := (mkF m 3 #[.val (.ref ub), .val (.int (2 : Int32)), .val (.ref umi), .unset] [(.ref umi), (.ref umi)])) X195 hx rfl rfl rfl (pc0 := 3) (pc' := 6) (same := true) rfl (hb hby d_j65_120_3) rfl (decide_eq_true rfl) (by decide) (by decide) k) ?_
  show own_Go _ _ _ _ (T195.setTop (mkF m 6 #[.val (.ref ub), .val (.int (2 : Int32)), .val (.ref umi), .unset] []))
  refine own_go (fun t k => XS.iloadN X195.here hx rfl (hb hby d_j65_120_6) rfl k) ?_
  show own_Go _ _ _ _ (T195.setTop (mkF m 7 #[.val (.ref ub), .val (.int (2 : Int32)), .val (.ref umi), .unset] [(.int (2 : Int32))]))
  obtain ⟨T196, h196, k196, X196, e196, E196, A196, B196, O196, st196⟩ := newRE X195 hx hZ hown (w_179 hw) (w_103 hw) e195 (g := (mkF m 7 #[.val (.ref ub), .val (.int (2 : Int32)), .val (.ref umi), .unset] [(.int (2 : Int32))])) rfl (hb hby d_j65_120_7) rfl (by decide) (cap := 2) (by decide) (by decide) (by decide) (by decide) (ad := "[Ljava/lang/Object;") (by decide +kernel)
  obtain ⟨b196, g196⟩ : ∃ z, z = h0.size := ⟨_, rfl⟩
  rw [← g196] at A196 B196 st196
  refine own_go st196 ?_
  have Z196 : n0 ≤ h196.size := (Nat.le_trans Z0 E196.1)
  have K196 : Keep h0 h196 [] := (Keep.refl h0 []).ext E196
  have lo196 : h0.size ≤ b196 := Nat.le_of_eq g196.symm
  have q196 : n0 ≤ b196 := Nat.le_trans Z0 lo196
  have hi196 : b196 < h196.size := A196.lt
  have V196 : Arv Z h196 b196 k196 (.object "java/lang/Object") (2 : Int32) [.null, .null] .null := (Arv.new A196 (by decide)).pad (pad_rep [] .null 2)
  show own_Go _ _ _ _ (T196.setTop (mkF m 10 #[.val (.ref ub), .val (.int (2 : Int32)), .val (.ref umi), .unset] [(.ref b196)]))
  refine own_go (fun t k => XS.goto X196.here hx rfl (pc0 := 10) (pc' := 24) rfl (hb hby d_j65_120_10) (by decide) (by decide) k) ?_
  show own_Go _ _ _ _ (T196.setTop (mkF m 24 #[.val (.ref ub), .val (.int (2 : Int32)), .val (.ref umi), .unset] [(.ref b196)]))
  refine own_go (fun t k => XS.astoreN X196.here hx rfl (hb hby d_j65_120_24) rfl rfl (l' := #[.val (.ref ub), .val (.int (2 : Int32)), .val (.ref umi), .val (.ref b196)]) rfl k) ?_
  show own_Go _ _ _ _ (T196.setTop (mkF m 25 #[.val (.ref ub), .val (.int (2 : Int32)), .val (.ref umi), .val (.ref b196)] []))
  refine own_go (fun t k => XS.aloadN X196.here hx rfl (hb hby d_j65_120_25) rfl rfl k) ?_
  show own_Go _ _ _ _ (T196.setTop (mkF m 26 #[.val (.ref ub), .val (.int (2 : Int32)), .val (.ref umi), .val (.ref b196)] [(.ref ub)]))
  refine own_go (fun t k => XS.iconst X196.here hx rfl (hb hby d_j65_120_26) k) ?_
  show own_Go _ _ _ _ (T196.setTop (mkF m 27 #[.val (.ref ub), .val (.int (2 : Int32)), .val (.ref umi), .val (.ref b196)] [(.int (0 : Int32)), (.ref ub)]))
  refine own_go (fun t k => XS.aloadN X196.here hx rfl (hb hby d_j65_120_27) rfl rfl k) ?_
  show own_Go _ _ _ _ (T196.setTop (mkF m 28 #[.val (.ref ub), .val (.int (2 : Int32)), .val (.ref umi), .val (.ref b196)] [(.ref b196), (.int (0 : Int32)), (.ref ub)]))
  refine own_go (fun t k => XS.iconst X196.here hx rfl (hb hby d_j65_120_28) k) ?_
  show own_Go _ _ _ _ (T196.setTop (mkF m 29 #[.val (.ref ub), .val (.int (2 : Int32)), .val (.ref umi), .val (.ref b196)] [(.int (0 : Int32)), (.ref b196), (.int (0 : Int32)), (.ref ub)]))
  refine own_go (fun t k => XS.aloadN X196.here hx rfl (hb hby d_j65_120_29) rfl rfl k) ?_
  show own_Go _ _ _ _ (T196.setTop (mkF m 30 #[.val (.ref ub), .val (.int (2 : Int32)), .val (.ref umi), .val (.ref b196)] [(.ref ub), (.int (0 : Int32)), (.ref b196), (.int (0 : Int32)), (.ref ub)]))
  obtain ⟨cl197, Ar197, qk197, sz197, nn197, ha197, gf197⟩ := id (B0.ext E196)
  refine own_go (X196.arraylength hx (by rw [e196]; exact Ar197.1) (State.isArrayOf_alike hZ.alike Ar197.2.1) (g := (mkF m 30 #[.val (.ref ub), .val (.int (2 : Int32)), .val (.ref umi), .val (.ref b196)] [(.ref ub), (.int (0 : Int32)), (.ref b196), (.int (0 : Int32)), (.ref ub)])) rfl rfl (hb hby d_j65_120_30)) ?_
  rw [len_of sz197 nn197]
  show own_Go _ _ _ _ (T196.setTop (mkF m 31 #[.val (.ref ub), .val (.int (2 : Int32)), .val (.ref umi), .val (.ref b196)] [(.int (10 : Int32)), (.int (0 : Int32)), (.ref b196), (.int (0 : Int32)), (.ref ub)]))
  refine own_go (fun t k => XS.iloadN X196.here hx rfl (hb hby d_j65_120_31) rfl k) ?_
  show own_Go _ _ _ _ (T196.setTop (mkF m 32 #[.val (.ref ub), .val (.int (2 : Int32)), .val (.ref umi), .val (.ref b196)] [(.int (2 : Int32)), (.int (10 : Int32)), (.int (0 : Int32)), (.ref b196), (.int (0 : Int32)), (.ref ub)]))
  obtain ⟨_, _, ⟨T198, L198, k198, n198⟩, -, X198, ⟨Lc198, hQ198, l198, y198, z198⟩, st198⟩ := Jvm.LawKit.callS X196 hx (y := (⟨"java/lang/Math", "min", "(II)I"⟩ : MethodName)) hown (mvT hZ (w_180 hw)) (mvT hZ (w_181 hw)) (mvT hZ (w_100 hw)) (mvT hZ (w_182 hw)) (by decide) (backOf (W := 4) (rm_min_2 l Z a0 hw []  h196 n0 Z196 ) hZ (w_182 hw) (w_100 hw) (by decide) (by decide)) (g := (mkF m 32 #[.val (.ref ub), .val (.int (2 : Int32)), .val (.ref umi), .val (.ref b196)] [(.int (2 : Int32)), (.int (10 : Int32)), (.int (0 : Int32)), (.ref b196), (.int (0 : Int32)), (.ref ub)])) rfl (by rw [hml]; rfl) (argsL := [(.int (10 : Int32)), (.int (2 : Int32))]) (rest := [(.int (0 : Int32)), (.ref b196), (.int (0 : Int32)), (.ref ub)]) (lenOf pd_1 rfl) rfl (by show 2 * 0 + _ ≤ _; exact Nat.le_of_eq rfl) (hb hby d_j65_120_32) (fun _ _ => ⟨rfl, e196, (by decide : 1 + 0 ≤ _), (by decide : 2 + 0 ≤ _)⟩)
  dsimp only [Pt.U, Pt.locs, Pt.cells, Pt.slots] at X198 l198 y198 z198 st198 hQ198
  subst l198 y198 z198
  obtain ⟨rfl, N198q, e198⟩ := hQ198
  have N198 := Fr.app N0 N198q
  refine own_go st198 ?_
  show own_Go _ _ _ _ (T198.setTop (mkF m 35 #[.val (.ref ub), .val (.int (2 : Int32)), .val (.ref umi), .val (.ref b196)] [(.int (2 : Int32)), (.int (0 : Int32)), (.ref b196), (.int (0 : Int32)), (.ref ub)]))
  obtain ⟨cl199, Ar199, qk199, sz199, nn199, ha199, gf199⟩ := id V196
  obtain ⟨T200, h200, L200, X200, e200, N200, K200q, V200, st200⟩ := cpA X198 hx hZ hown (w_183 hw) (w_186 hw) (w_184 hw) (w_185 hw) e198 (sp := (0 : Int32)) (dp := (0 : Int32)) (nn := (2 : Int32)) (us := [(.ref ue), (.ref ue)]) (B0.ext E196) V196 (Or.inr ⟨rfl, rfl, ⟨(Sto.ofV Ar199 qk199 O196 (Ins.of_exa (Ee.ext (O0.ext E196).2) (w_104 hw))), (Sto.ofV Ar199 qk199 O196 (Ins.of_exa (Ee.ext (O0.ext E196).2) (w_104 hw))), trivial⟩⟩) (by decide) (by decide) (by decide) (by decide) (by decide) rfl (by decide) N198 q196 (g := (mkF m 35 #[.val (.ref ub), .val (.int (2 : Int32)), .val (.ref umi), .val (.ref b196)] [(.int (2 : Int32)), (.int (0 : Int32)), (.ref b196), (.int (0 : Int32)), (.ref ub)])) rfl (by rw [hml]; rfl) rfl (hb hby d_j65_120_35) (by decide) (W := 0) (by show 2 * 0 + _ ≤ _; exact Nat.le_of_eq rfl) (by decide)
  refine own_go st200 ?_
  replace V200 : Arv Z h200 b196 k196 (.object "java/lang/Object") (2 : Int32) [(.ref ue), (.ref ue)] .null := V200
  have Z200 : n0 ≤ h200.size := (Nat.le_trans Z196 K200q.1)
  have K200 : Keep h0 h200 [] := K196.trans K200q (allS (Or.inr lo196) all0)
  show own_Go _ _ _ _ (T200.setTop (mkF m 38 #[.val (.ref ub), .val (.int (2 : Int32)), .val (.ref umi), .val (.ref b196)] []))
  refine own_go (fun t k => XS.aloadN X200.here hx rfl (hb hby d_j65_120_38) rfl rfl k) ?_
  show own_Go _ _ _ _ (T200.setTop (mkF m 39 #[.val (.ref ub), .val (.int (2 : Int32)), .val (.ref umi), .val (.ref b196)] [(.ref b196)]))
  refine own_ret X200 hx hlk hret rfl (Or.inr (Or.inr (Or.inr (Or.inr ⟨rfl, rfl, rfl⟩)))) (hb hby d_j65_120_39) ?_ (by decide) (by decide)
  rw [e200]
  exact ⟨b196, k196, rfl, N200, K200, lo196, q196, V200⟩
def Q_cp2_2 (Z : State) (ub : Addr) (kb : ClassId) (ue : Addr) (ude : Addr) (kde : ClassId) (uel : Addr) (uem : Addr) (kem : ClassId) (uemp : Addr) (urec : Addr) (umi : Addr) (h0 : Heap) (n0 : Nat) (v : Option Value) (h : Heap) (L : List Loc) : Prop := ∃ (uc : Addr) (kc : ClassId), v = some (.ref uc) ∧ Fr n0 L ∧ Keep h0 h [] ∧ h0.size ≤ uc ∧ n0 ≤ uc ∧ Arv Z h uc kc (.object "java/lang/Object") (2 : Int32) [(.ref ue), (.ref ue)] .null
theorem ef_cp2_2 (m : MethodId) (ub : Addr) : entryFrame m #[(.ref ub), (.int (2 : Int32))] 2 = mkF m 0 #[.val (.ref ub), .val (.int (2 : Int32))] [] := by first | (simp [entryFrame, mkF, argsToLocals, Value.category]; done) | rfl
set_option maxRecDepth 65536 in
set_option maxHeartbeats 40000000 in
theorem rm_cp2_2 (l : Launch) (Z : State) (a0 : Array Value) (hw : ∀ d ∈ tables_1, d.before a0 Z = true) (ws : List Jvm.Cond) (ub : Addr) (kb : ClassId) (ue ude : Addr) (kde : ClassId) (uel uem : Addr) (kem : ClassId) (uemp urec umi : Addr) (h0 : Heap) (n0 : Nat) (Z0 : n0 ≤ h0.size) (B0 : Arv Z h0 ub kb (.object "java/lang/Object") (10 : Int32) [(.ref ue), (.ref ue), .null, .null, .null, .null, .null, .null, .null, .null] .null) (Eb : Exa Z h0 ub "[Ljava/lang/Object;") (O0 : Old Z n0 h0) (hF : own_Fac Z ue ude kde uel uem kem uemp urec umi) :
    own_Met l Z (⟨"java/util/Arrays", "copyOf", "([Ljava/lang/Object;I)[Ljava/lang/Object;"⟩ : MethodName) jdk_65_method_119_code 2 (some (.array (.object "java/lang/Object"))) ws ({ frames := 2, cells := 1, slots := 2, locals := 33 } : Room) #[(.ref ub), (.int (2 : Int32))] h0 (Q_cp2_2 Z ub kb ue ude kde uel uem kem uemp urec umi h0 n0) := by
  refine own_enter (own := "java/util/Arrays") (plainFor_of_name pn_7) rfl ?_
  intro p e s m below meth c s₁ hlk hret hx hby hml hown hnm hZ X0 e0
  have N0 := Fr.nil n0
  refine own_cast (ef_cp2_2 m ub) ?_
  obtain ⟨Se, Ee, Sd, Ad, Sl, El, Fl, Am, Sm, Em, Sr, Er, Fr1, Fr0, Mi⟩ := id hF
  show own_Go _ _ _ _ (s₁.setTop (mkF m 0 #[.val (.ref ub), .val (.int (2 : Int32))] []))
  refine own_go (fun t k => XS.aloadN X0.here hx rfl (hb hby d_j65_119_0) rfl rfl k) ?_
  show own_Go _ _ _ _ (s₁.setTop (mkF m 1 #[.val (.ref ub), .val (.int (2 : Int32))] [(.ref ub)]))
  refine own_go (fun t k => XS.iloadN X0.here hx rfl (hb hby d_j65_119_1) rfl k) ?_
  show own_Go _ _ _ _ (s₁.setTop (mkF m 2 #[.val (.ref ub), .val (.int (2 : Int32))] [(.int (2 : Int32)), (.ref ub)]))
  refine own_go (fun t k => XS.aloadN X0.here hx rfl (hb hby d_j65_119_2) rfl rfl k) ?_
  show own_Go _ _ _ _ (s₁.setTop (mkF m 3 #[.val (.ref ub), .val (.int (2 : Int32))] [(.ref ub), (.int (2 : Int32)), (.ref ub)]))
  obtain ⟨T201, X201, e201, st201⟩ := gcls X0 hx hZ hown (w_169 hw) (w_170 hw) (w_50 hw) (w_172 hw) (w_171 hw) (w_173 hw) e0 Eb Mi (g := (mkF m 3 #[.val (.ref ub), .val (.int (2 : Int32))] [(.ref ub), (.int (2 : Int32)), (.ref ub)])) rfl (by rw [hml]; rfl) rfl (hb hby d_j65_119_3) (by decide) (W := 2) (by show 2 * 0 + _ ≤ _; exact Nat.le_of_eq rfl) (by decide)
  refine own_go st201 ?_
  show own_Go _ _ _ _ (T201.setTop (mkF m 6 #[.val (.ref ub), .val (.int (2 : Int32))] [(.ref umi), (.int (2 : Int32)), (.ref ub)]))
  obtain ⟨_, _, ⟨T202, L202, k202, n202⟩, -, X202, ⟨Lc202, hQ202, l202, y202, z202⟩, st202⟩ := Jvm.LawKit.callS X201 hx (y := (⟨"java/util/Arrays", "copyOf", "([Ljava/lang/Object;ILjava/lang/Class;)[Ljava/lang/Object;"⟩ : MethodName)) hown (mvT hZ (w_175 hw)) (mvT hZ (w_176 hw)) (mvT hZ (w_167 hw)) (mvT hZ (w_177 hw)) (by decide) (backOf (W := 0) (rm_cp3_2 l Z a0 hw [] ub kb ue ude kde uel uem kem uemp urec umi h0 n0 Z0 B0 Eb O0 hF) hZ (w_177 hw) (w_167 hw) (by decide) (by decide)) (g := (mkF m 6 #[.val (.ref ub), .val (.int (2 : Int32))] [(.ref umi), (.int (2 : Int32)), (.ref ub)])) rfl (by rw [hml]; rfl) (argsL := [(.ref ub), (.int (2 : Int32)), (.ref umi)]) (rest := []) (lenOf pd_5 rfl) rfl (by show 2 * 0 + _ ≤ _; exact Nat.le_of_eq rfl) (hb hby d_j65_119_6) (fun _ _ => ⟨rfl, e201, (by decide : 0 + 1 ≤ _), (by decide : 0 + 2 ≤ _)⟩)
  dsimp only [Pt.U, Pt.locs, Pt.cells, Pt.slots] at X202 l202 y202 z202 st202 hQ202
  subst l202 y202 z202
  generalize e202 : T202.heap = h202 at hQ202
  obtain ⟨uc202, kc202, rfl, N202q, K202q, lo202, q202, A202⟩ := hQ202
  have N202 := Fr.app N0 N202q
  refine own_go st202 ?_
  have Z202 : n0 ≤ h202.size := (Nat.le_trans Z0 K202q.1)
  have K202 : Keep h0 h202 [] := (Keep.refl h0 []).trans K202q all0
  have hi202 := A202.lt
  show own_Go _ _ _ _ (T202.setTop (mkF m 9 #[.val (.ref ub), .val (.int (2 : Int32))] [(.ref uc202)]))
  refine own_ret X202 hx hlk hret rfl (Or.inr (Or.inr (Or.inr (Or.inr ⟨rfl, rfl, rfl⟩)))) (hb hby d_j65_119_9) ?_ (by decide) (by decide)
  rw [e202]
  exact ⟨uc202, kc202, rfl, N202, K202, lo202, q202, A202⟩
def Q_toa_2 (Z : State) (ua : Addr) (ub : Addr) (kb : ClassId) (ue : Addr) (ude : Addr) (kde : ClassId) (uel : Addr) (uem : Addr) (kem : ClassId) (uemp : Addr) (urec : Addr) (umi : Addr) (h0 : Heap) (n0 : Nat) (v : Option Value) (h : Heap) (L : List Loc) : Prop := ∃ (uc : Addr) (kc : ClassId), v = some (.ref uc) ∧ Fr n0 L ∧ Keep h0 h [] ∧ h0.size ≤ uc ∧ n0 ≤ uc ∧ Arv Z h uc kc (.object "java/lang/Object") (2 : Int32) [(.ref ue), (.ref ue)] .null
theorem ef_toa_2 (m : MethodId) (ua : Addr) : entryFrame m #[(.ref ua)] 1 = mkF m 0 #[.val (.ref ua)] [] := by first | (simp [entryFrame, mkF, argsToLocals, Value.category]; done) | rfl
set_option maxRecDepth 65536 in
set_option maxHeartbeats 40000000 in
theorem rm_toa_2 (l : Launch) (Z : State) (a0 : Array Value) (hw : ∀ d ∈ tables_1, d.before a0 Z = true) (ws : List Jvm.Cond) (ua ub : Addr) (kb : ClassId) (ue ude : Addr) (kde : ClassId) (uel uem : Addr) (kem : ClassId) (uemp urec umi : Addr) (h0 : Heap) (n0 : Nat) (Z0 : n0 ≤ h0.size) (F1 : Fld Z h0 ua "java/util/ArrayList" "elementData" "[Ljava/lang/Object;" (.ref ub)) (F2 : Fld Z h0 ua "java/util/ArrayList" "size" "I" (.int (2 : Int32))) (B0 : Arv Z h0 ub kb (.object "java/lang/Object") (10 : Int32) [(.ref ue), (.ref ue), .null, .null, .null, .null, .null, .null, .null, .null] .null) (Eb : Exa Z h0 ub "[Ljava/lang/Object;") (O0 : Old Z n0 h0) (hF : own_Fac Z ue ude kde uel uem kem uemp urec umi) :
    own_Met l Z (⟨"java/util/ArrayList", "toArray", "()[Ljava/lang/Object;"⟩ : MethodName) jdk_38_method_16_code 1 (some (.array (.object "java/lang/Object"))) ws ({ frames := 3, cells := 1, slots := 2, locals := 46 } : Room) #[(.ref ua)] h0 (Q_toa_2 Z ua ub kb ue ude kde uel uem kem uemp urec umi h0 n0) := by
  refine own_enter (own := "java/util/ArrayList") (plainFor_of_name pn_6) rfl ?_
  intro p e s m below meth c s₁ hlk hret hx hby hml hown hnm hZ X0 e0
  have N0 := Fr.nil n0
  refine own_cast (ef_toa_2 m ua) ?_
  obtain ⟨Se, Ee, Sd, Ad, Sl, El, Fl, Am, Sm, Em, Sr, Er, Fr1, Fr0, Mi⟩ := id hF
  show own_Go _ _ _ _ (s₁.setTop (mkF m 0 #[.val (.ref ua)] []))
  refine own_go (fun t k => XS.aloadN X0.here hx rfl (hb hby d_j38_16_0) rfl rfl k) ?_
  show own_Go _ _ _ _ (s₁.setTop (mkF m 1 #[.val (.ref ua)] [(.ref ua)]))
  obtain ⟨T203, X203, e203, st203⟩ := getF X0 hx hZ hown (host := "") (Or.inl (w_24 hw)) Via.refl e0 F1 (g := (mkF m 1 #[.val (.ref ua)] [(.ref ua)])) rfl rfl (hb hby d_j38_16_1)
  refine own_go st203 ?_
  show own_Go _ _ _ _ (T203.setTop (mkF m 4 #[.val (.ref ua)] [(.ref ub)]))
  refine own_go (fun t k => XS.aloadN X203.here hx rfl (hb hby d_j38_16_4) rfl rfl k) ?_
  show own_Go _ _ _ _ (T203.setTop (mkF m 5 #[.val (.ref ua)] [(.ref ua), (.ref ub)]))
  obtain ⟨T204, X204, e204, st204⟩ := getF X203 hx hZ hown (host := "") (Or.inl (w_61 hw)) Via.refl e203 F2 (g := (mkF m 5 #[.val (.ref ua)] [(.ref ua), (.ref ub)])) rfl rfl (hb hby d_j38_16_5)
  refine own_go st204 ?_
  show own_Go _ _ _ _ (T204.setTop (mkF m 8 #[.val (.ref ua)] [(.int (2 : Int32)), (.ref ub)]))
  obtain ⟨_, _, ⟨T205, L205, k205, n205⟩, -, X205, ⟨Lc205, hQ205, l205, y205, z205⟩, st205⟩ := Jvm.LawKit.callS X204 hx (y := (⟨"java/util/Arrays", "copyOf", "([Ljava/lang/Object;I)[Ljava/lang/Object;"⟩ : MethodName)) hown (mvT hZ (w_165 hw)) (mvT hZ (w_166 hw)) (mvT hZ (w_167 hw)) (mvT hZ (w_168 hw)) (by decide) (backOf (W := 0) (rm_cp2_2 l Z a0 hw [] ub kb ue ude kde uel uem kem uemp urec umi h0 n0 Z0 B0 Eb O0 hF) hZ (w_168 hw) (w_167 hw) (by decide) (by decide)) (g := (mkF m 8 #[.val (.ref ua)] [(.int (2 : Int32)), (.ref ub)])) rfl (by rw [hml]; rfl) (argsL := [(.ref ub), (.int (2 : Int32))]) (rest := []) (lenOf pd_6 rfl) rfl (by show 2 * 0 + _ ≤ _; exact Nat.le_of_eq rfl) (hb hby d_j38_16_8) (fun _ _ => ⟨rfl, e204, (by decide : 0 + 1 ≤ _), (by decide : 0 + 2 ≤ _)⟩)
  dsimp only [Pt.U, Pt.locs, Pt.cells, Pt.slots] at X205 l205 y205 z205 st205 hQ205
  subst l205 y205 z205
  generalize e205 : T205.heap = h205 at hQ205
  obtain ⟨uc205, kc205, rfl, N205q, K205q, lo205, q205, A205⟩ := hQ205
  have N205 := Fr.app N0 N205q
  refine own_go st205 ?_
  have Z205 : n0 ≤ h205.size := (Nat.le_trans Z0 K205q.1)
  have K205 : Keep h0 h205 [] := (Keep.refl h0 []).trans K205q all0
  have hi205 := A205.lt
  show own_Go _ _ _ _ (T205.setTop (mkF m 11 #[.val (.ref ua)] [(.ref uc205)]))
  refine own_ret X205 hx hlk hret rfl (Or.inr (Or.inr (Or.inr (Or.inr ⟨rfl, rfl, rfl⟩)))) (hb hby d_j38_16_11) ?_ (by decide) (by decide)
  rw [e205]
  exact ⟨uc205, kc205, rfl, N205, K205, lo205, q205, A205⟩
def Q_emp_3 (Z : State) (ua : Addr) (h0 : Heap) (n0 : Nat) (v : Option Value) (h : Heap) (L : List Loc) : Prop := v = some (.int 0) ∧ Fr n0 L ∧ h = h0
theorem ef_emp_3 (m : MethodId) (ua : Addr) : entryFrame m #[(.ref ua)] 1 = mkF m 0 #[.val (.ref ua)] [] := by first | (simp [entryFrame, mkF, argsToLocals, Value.category]; done) | rfl
set_option maxRecDepth 65536 in
set_option maxHeartbeats 40000000 in
theorem rm_emp_3 (l : Launch) (Z : State) (a0 : Array Value) (hw : ∀ d ∈ tables_1, d.before a0 Z = true) (ws : List Jvm.Cond) (ua : Addr) (h0 : Heap) (n0 : Nat) (Z0 : n0 ≤ h0.size) (F2 : Fld Z h0 ua "java/util/ArrayList" "size" "I" (.int (3 : Int32))) :
    own_Met l Z (⟨"java/util/ArrayList", "isEmpty", "()Z"⟩ : MethodName) jdk_38_method_9_code 1 (some .boolean) ws ({ frames := 0, cells := 0, slots := 0, locals := 0 } : Room) #[(.ref ua)] h0 (Q_emp_3 Z ua h0 n0) := by
  refine own_enter (own := "java/util/ArrayList") (plainFor_of_name pn_6) rfl ?_
  intro p e s m below meth c s₁ hlk hret hx hby hml hown hnm hZ X0 e0
  have N0 := Fr.nil n0
  refine own_cast (ef_emp_3 m ua) ?_
  show own_Go _ _ _ _ (s₁.setTop (mkF m 0 #[.val (.ref ua)] []))
  refine own_go (fun t k => XS.aloadN X0.here hx rfl (hb hby d_j38_9_0) rfl rfl k) ?_
  show own_Go _ _ _ _ (s₁.setTop (mkF m 1 #[.val (.ref ua)] [(.ref ua)]))
  obtain ⟨T206, X206, e206, st206⟩ := getF X0 hx hZ hown (host := "") (Or.inl (w_61 hw)) Via.refl e0 F2 (g := (mkF m 1 #[.val (.ref ua)] [(.ref ua)])) rfl rfl (hb hby d_j38_9_1)
  refine own_go st206 ?_
  show own_Go _ _ _ _ (T206.setTop (mkF m 4 #[.val (.ref ua)] [(.int (3 : Int32))]))
  refine own_go (fun t k => XS.ifYes X206.here hx rfl (pc0 := 4) (pc' := 11) rfl (hb hby d_j38_9_4) rfl ((if0 _ _).trans (feq (by decide : ¬ ((3 : Int32) = (0 : Int32)))).2) (by decide) (by decide) k) ?_
  show own_Go _ _ _ _ (T206.setTop (mkF m 11 #[.val (.ref ua)] []))
  refine own_go (fun t k => XS.iconst X206.here hx rfl (hb hby d_j38_9_11) k) ?_
  show own_Go _ _ _ _ (T206.setTop (mkF m 12 #[.val (.ref ua)] [(.int (0 : Int32))]))
  refine own_retN X206 hx hlk (t := .boolean) hret (by simp) (hb hby d_j38_9_12) ?_ (by decide) (by decide)
  rw [e206]
  exact ⟨rfl, N0, rfl⟩
def Q_min_3 (Z : State)  (h0 : Heap) (n0 : Nat) (v : Option Value) (h : Heap) (L : List Loc) : Prop := v = some (.int 3) ∧ Fr n0 L ∧ h = h0
theorem ef_min_3 (m : MethodId)  : entryFrame m #[(.int (10 : Int32)), (.int (3 : Int32))] 2 = mkF m 0 #[.val (.int (10 : Int32)), .val (.int (3 : Int32))] [] := by first | (simp [entryFrame, mkF, argsToLocals, Value.category]; done) | rfl
set_option maxRecDepth 65536 in
set_option maxHeartbeats 40000000 in
theorem rm_min_3 (l : Launch) (Z : State) (a0 : Array Value) (hw : ∀ d ∈ tables_1, d.before a0 Z = true) (ws : List Jvm.Cond)  (h0 : Heap) (n0 : Nat) (Z0 : n0 ≤ h0.size) :
    own_Met l Z (⟨"java/lang/Math", "min", "(II)I"⟩ : MethodName) jdk_29_method_69_code 2 (some .int) ws ({ frames := 0, cells := 0, slots := 0, locals := 0 } : Room) #[(.int (10 : Int32)), (.int (3 : Int32))] h0 (Q_min_3 Z  h0 n0) := by
  refine own_enter (own := "java/lang/Math") (Jvm.Free.JP.mathPlain rfl (by decide +kernel)) rfl ?_
  intro p e s m below meth c s₁ hlk hret hx hby hml hown hnm hZ X0 e0
  have N0 := Fr.nil n0
  refine own_cast (ef_min_3 m ) ?_
  show own_Go _ _ _ _ (s₁.setTop (mkF m 0 #[.val (.int (10 : Int32)), .val (.int (3 : Int32))] []))
  refine own_go (fun t k => XS.iloadN X0.here hx rfl (hb hby d_j29_69_0) rfl k) ?_
  show own_Go _ _ _ _ (s₁.setTop (mkF m 1 #[.val (.int (10 : Int32)), .val (.int (3 : Int32))] [(.int (10 : Int32))]))
  refine own_go (fun t k => XS.iloadN X0.here hx rfl (hb hby d_j29_69_1) rfl k) ?_
  show own_Go _ _ _ _ (s₁.setTop (mkF m 2 #[.val (.int (10 : Int32)), .val (.int (3 : Int32))] [(.int (3 : Int32)), (.int (10 : Int32))]))
  refine own_go (fun t k => XS.icmpYes X0.here hx rfl (pc0 := 2) (pc' := 9) rfl (hb hby d_j29_69_2) rfl (tlt (by decide : (3 : Int32) < (10 : Int32))).2.2.1 (by decide) (by decide) k) ?_
  show own_Go _ _ _ _ (s₁.setTop (mkF m 9 #[.val (.int (10 : Int32)), .val (.int (3 : Int32))] []))
  refine own_go (fun t k => XS.iloadN X0.here hx rfl (hb hby d_j29_69_9) rfl k) ?_
  show own_Go _ _ _ _ (s₁.setTop (mkF m 10 #[.val (.int (10 : Int32)), .val (.int (3 : Int32))] [(.int (3 : Int32))]))
  refine own_ret X0 hx hlk hret rfl (Or.inl ⟨rfl, Or.inl rfl, _, rfl⟩) (hb hby d_j29_69_10) ?_ (by decide) (by decide)
  rw [e0]
  exact ⟨rfl, N0, rfl⟩
def Q_cp3_3 (Z : State) (ub : Addr) (kb : ClassId) (ue : Addr) (ude : Addr) (kde : ClassId) (uel : Addr) (uem : Addr) (kem : ClassId) (uemp : Addr) (urec : Addr) (umi : Addr) (h0 : Heap) (n0 : Nat) (v : Option Value) (h : Heap) (L : List Loc) : Prop := ∃ (uc : Addr) (kc : ClassId), v = some (.ref uc) ∧ Fr n0 L ∧ Keep h0 h [] ∧ h0.size ≤ uc ∧ n0 ≤ uc ∧ Arv Z h uc kc (.object "java/lang/Object") (3 : Int32) [(.ref ue), (.ref ue), (.ref ue)] .null
theorem ef_cp3_3 (m : MethodId) (ub : Addr) (umi : Addr) : entryFrame m #[(.ref ub), (.int (3 : Int32)), (.ref umi)] 4 = mkF m 0 #[.val (.ref ub), .val (.int (3 : Int32)), .val (.ref umi), .unset] [] := by first | (simp [entryFrame, mkF, argsToLocals, Value.category]; done) | rfl
set_option maxRecDepth 65536 in
set_option maxHeartbeats 40000000 in
theorem rm_cp3_3 (l : Launch) (Z : State) (a0 : Array Value) (hw : ∀ d ∈ tables_1, d.before a0 Z = true) (ws : List Jvm.Cond) (ub : Addr) (kb : ClassId) (ue ude : Addr) (kde : ClassId) (uel uem : Addr) (kem : ClassId) (uemp urec umi : Addr) (h0 : Heap) (n0 : Nat) (Z0 : n0 ≤ h0.size) (B0 : Arv Z h0 ub kb (.object "java/lang/Object") (10 : Int32) [(.ref ue), (.ref ue), (.ref ue), .null, .null, .null, .null, .null, .null, .null] .null) (Eb : Exa Z h0 ub "[Ljava/lang/Object;") (O0 : Old Z n0 h0) (hF : own_Fac Z ue ude kde uel uem kem uemp urec umi) :
    own_Met l Z (⟨"java/util/Arrays", "copyOf", "([Ljava/lang/Object;ILjava/lang/Class;)[Ljava/lang/Object;"⟩ : MethodName) jdk_65_method_120_code 4 (some (.array (.object "java/lang/Object"))) ws ({ frames := 1, cells := 1, slots := 3, locals := 18 } : Room) #[(.ref ub), (.int (3 : Int32)), (.ref umi)] h0 (Q_cp3_3 Z ub kb ue ude kde uel uem kem uemp urec umi h0 n0) := by
  refine own_enter (own := "java/util/Arrays") (plainFor_of_name pn_7) rfl ?_
  intro p e s m below meth c s₁ hlk hret hx hby hml hown hnm hZ X0 e0
  have N0 := Fr.nil n0
  refine own_cast (ef_cp3_3 m ub umi) ?_
  obtain ⟨Se, Ee, Sd, Ad, Sl, El, Fl, Am, Sm, Em, Sr, Er, Fr1, Fr0, Mi⟩ := id hF
  show own_Go _ _ _ _ (s₁.setTop (mkF m 0 #[.val (.ref ub), .val (.int (3 : Int32)), .val (.ref umi), .unset] []))
  refine own_go (fun t k => XS.aloadN X0.here hx rfl (hb hby d_j65_120_0) rfl rfl k) ?_
  show own_Go _ _ _ _ (s₁.setTop (mkF m 1 #[.val (.ref ub), .val (.int (3 : Int32)), .val (.ref umi), .unset] [(.ref umi)]))
  obtain ⟨vm207, X207, st207⟩ := X0.ldcMirror hx (own := "java/util/Arrays") (C := "[Ljava/lang/Object;") hown (mvT hZ (w_178 hw)) (own_mir hZ Mi) (g := (mkF m 1 #[.val (.ref ub), .val (.int (3 : Int32)), .val (.ref umi), .unset] [(.ref umi)])) rfl (hb hby d_j65_120_1)
  obtain ⟨T207, eT207⟩ : ∃ z, z = s₁.setVm vm207 := ⟨_, rfl⟩
  rw [← eT207] at X207 st207
  have e207 : T207.heap = h0 := by rw [eT207]; exact e0
  refine own_go st207 ?_
  show own_Go _ _ _ _ (T207.setTop (mkF m 3 #[.val (.ref ub), .val (.int (3 : Int32)), .val (.ref umi), .unset] [(.ref umi), (.ref umi)]))
  refine own_go (fun t k => Jvm.RoadKit.acmp (g := (mkF m 3 #[.val (.ref ub), .val (.int (3 : Int32)), .val (.ref umi), .unset] [(.ref umi), (.ref umi)])) X207 hx rfl rfl rfl (pc0 := 3) (pc' := 6) (same := true) rfl (hb hby d_j65_120_3) rfl (decide_eq_true rfl) (by decide) (by decide) k) ?_
  show own_Go _ _ _ _ (T207.setTop (mkF m 6 #[.val (.ref ub), .val (.int (3 : Int32)), .val (.ref umi), .unset] []))
  refine own_go (fun t k => XS.iloadN X207.here hx rfl (hb hby d_j65_120_6) rfl k) ?_
  show own_Go _ _ _ _ (T207.setTop (mkF m 7 #[.val (.ref ub), .val (.int (3 : Int32)), .val (.ref umi), .unset] [(.int (3 : Int32))]))
  obtain ⟨T208, h208, k208, X208, e208, E208, A208, B208, O208, st208⟩ := newRE X207 hx hZ hown (w_179 hw) (w_103 hw) e207 (g := (mkF m 7 #[.val (.ref ub), .val (.int (3 : Int32)), .val (.ref umi), .unset] [(.int (3 : Int32))])) rfl (hb hby d_j65_120_7) rfl (by decide) (cap := 3) (by decide) (by decide) (by decide) (by decide) (ad := "[Ljava/lang/Object;") (by decide +kernel)
  obtain ⟨b208, g208⟩ : ∃ z, z = h0.size := ⟨_, rfl⟩
  rw [← g208] at A208 B208 st208
  refine own_go st208 ?_
  have Z208 : n0 ≤ h208.size := (Nat.le_trans Z0 E208.1)
  have K208 : Keep h0 h208 [] := (Keep.refl h0 []).ext E208
  have lo208 : h0.size ≤ b208 := Nat.le_of_eq g208.symm
  have q208 : n0 ≤ b208 := Nat.le_trans Z0 lo208
  have hi208 : b208 < h208.size := A208.lt
  have V208 : Arv Z h208 b208 k208 (.object "java/lang/Object") (3 : Int32) [.null, .null, .null] .null := (Arv.new A208 (by decide)).pad (pad_rep [] .null 3)
  show own_Go _ _ _ _ (T208.setTop (mkF m 10 #[.val (.ref ub), .val (.int (3 : Int32)), .val (.ref umi), .unset] [(.ref b208)]))
  refine own_go (fun t k => XS.goto X208.here hx rfl (pc0 := 10) (pc' := 24) rfl (hb hby d_j65_120_10) (by decide) (by decide) k) ?_
  show own_Go _ _ _ _ (T208.setTop (mkF m 24 #[.val (.ref ub), .val (.int (3 : Int32)), .val (.ref umi), .unset] [(.ref b208)]))
  refine own_go (fun t k => XS.astoreN X208.here hx rfl (hb hby d_j65_120_24) rfl rfl (l' := #[.val (.ref ub), .val (.int (3 : Int32)), .val (.ref umi), .val (.ref b208)]) rfl k) ?_
  show own_Go _ _ _ _ (T208.setTop (mkF m 25 #[.val (.ref ub), .val (.int (3 : Int32)), .val (.ref umi), .val (.ref b208)] []))
  refine own_go (fun t k => XS.aloadN X208.here hx rfl (hb hby d_j65_120_25) rfl rfl k) ?_
  show own_Go _ _ _ _ (T208.setTop (mkF m 26 #[.val (.ref ub), .val (.int (3 : Int32)), .val (.ref umi), .val (.ref b208)] [(.ref ub)]))
  refine own_go (fun t k => XS.iconst X208.here hx rfl (hb hby d_j65_120_26) k) ?_
  show own_Go _ _ _ _ (T208.setTop (mkF m 27 #[.val (.ref ub), .val (.int (3 : Int32)), .val (.ref umi), .val (.ref b208)] [(.int (0 : Int32)), (.ref ub)]))
  refine own_go (fun t k => XS.aloadN X208.here hx rfl (hb hby d_j65_120_27) rfl rfl k) ?_
  show own_Go _ _ _ _ (T208.setTop (mkF m 28 #[.val (.ref ub), .val (.int (3 : Int32)), .val (.ref umi), .val (.ref b208)] [(.ref b208), (.int (0 : Int32)), (.ref ub)]))
  refine own_go (fun t k => XS.iconst X208.here hx rfl (hb hby d_j65_120_28) k) ?_
  show own_Go _ _ _ _ (T208.setTop (mkF m 29 #[.val (.ref ub), .val (.int (3 : Int32)), .val (.ref umi), .val (.ref b208)] [(.int (0 : Int32)), (.ref b208), (.int (0 : Int32)), (.ref ub)]))
  refine own_go (fun t k => XS.aloadN X208.here hx rfl (hb hby d_j65_120_29) rfl rfl k) ?_
  show own_Go _ _ _ _ (T208.setTop (mkF m 30 #[.val (.ref ub), .val (.int (3 : Int32)), .val (.ref umi), .val (.ref b208)] [(.ref ub), (.int (0 : Int32)), (.ref b208), (.int (0 : Int32)), (.ref ub)]))
  obtain ⟨cl209, Ar209, qk209, sz209, nn209, ha209, gf209⟩ := id (B0.ext E208)
  refine own_go (X208.arraylength hx (by rw [e208]; exact Ar209.1) (State.isArrayOf_alike hZ.alike Ar209.2.1) (g := (mkF m 30 #[.val (.ref ub), .val (.int (3 : Int32)), .val (.ref umi), .val (.ref b208)] [(.ref ub), (.int (0 : Int32)), (.ref b208), (.int (0 : Int32)), (.ref ub)])) rfl rfl (hb hby d_j65_120_30)) ?_
  rw [len_of sz209 nn209]
  show own_Go _ _ _ _ (T208.setTop (mkF m 31 #[.val (.ref ub), .val (.int (3 : Int32)), .val (.ref umi), .val (.ref b208)] [(.int (10 : Int32)), (.int (0 : Int32)), (.ref b208), (.int (0 : Int32)), (.ref ub)]))
  refine own_go (fun t k => XS.iloadN X208.here hx rfl (hb hby d_j65_120_31) rfl k) ?_
  show own_Go _ _ _ _ (T208.setTop (mkF m 32 #[.val (.ref ub), .val (.int (3 : Int32)), .val (.ref umi), .val (.ref b208)] [(.int (3 : Int32)), (.int (10 : Int32)), (.int (0 : Int32)), (.ref b208), (.int (0 : Int32)), (.ref ub)]))
  obtain ⟨_, _, ⟨T210, L210, k210, n210⟩, -, X210, ⟨Lc210, hQ210, l210, y210, z210⟩, st210⟩ := Jvm.LawKit.callS X208 hx (y := (⟨"java/lang/Math", "min", "(II)I"⟩ : MethodName)) hown (mvT hZ (w_180 hw)) (mvT hZ (w_181 hw)) (mvT hZ (w_100 hw)) (mvT hZ (w_182 hw)) (by decide) (backOf (W := 4) (rm_min_3 l Z a0 hw []  h208 n0 Z208 ) hZ (w_182 hw) (w_100 hw) (by decide) (by decide)) (g := (mkF m 32 #[.val (.ref ub), .val (.int (3 : Int32)), .val (.ref umi), .val (.ref b208)] [(.int (3 : Int32)), (.int (10 : Int32)), (.int (0 : Int32)), (.ref b208), (.int (0 : Int32)), (.ref ub)])) rfl (by rw [hml]; rfl) (argsL := [(.int (10 : Int32)), (.int (3 : Int32))]) (rest := [(.int (0 : Int32)), (.ref b208), (.int (0 : Int32)), (.ref ub)]) (lenOf pd_1 rfl) rfl (by show 2 * 0 + _ ≤ _; exact Nat.le_of_eq rfl) (hb hby d_j65_120_32) (fun _ _ => ⟨rfl, e208, (by decide : 1 + 0 ≤ _), (by decide : 3 + 0 ≤ _)⟩)
  dsimp only [Pt.U, Pt.locs, Pt.cells, Pt.slots] at X210 l210 y210 z210 st210 hQ210
  subst l210 y210 z210
  obtain ⟨rfl, N210q, e210⟩ := hQ210
  have N210 := Fr.app N0 N210q
  refine own_go st210 ?_
  show own_Go _ _ _ _ (T210.setTop (mkF m 35 #[.val (.ref ub), .val (.int (3 : Int32)), .val (.ref umi), .val (.ref b208)] [(.int (3 : Int32)), (.int (0 : Int32)), (.ref b208), (.int (0 : Int32)), (.ref ub)]))
  obtain ⟨cl211, Ar211, qk211, sz211, nn211, ha211, gf211⟩ := id V208
  obtain ⟨T212, h212, L212, X212, e212, N212, K212q, V212, st212⟩ := cpA X210 hx hZ hown (w_183 hw) (w_186 hw) (w_184 hw) (w_185 hw) e210 (sp := (0 : Int32)) (dp := (0 : Int32)) (nn := (3 : Int32)) (us := [(.ref ue), (.ref ue), (.ref ue)]) (B0.ext E208) V208 (Or.inr ⟨rfl, rfl, ⟨(Sto.ofV Ar211 qk211 O208 (Ins.of_exa (Ee.ext (O0.ext E208).2) (w_104 hw))), (Sto.ofV Ar211 qk211 O208 (Ins.of_exa (Ee.ext (O0.ext E208).2) (w_104 hw))), (Sto.ofV Ar211 qk211 O208 (Ins.of_exa (Ee.ext (O0.ext E208).2) (w_104 hw))), trivial⟩⟩) (by decide) (by decide) (by decide) (by decide) (by decide) rfl (by decide) N210 q208 (g := (mkF m 35 #[.val (.ref ub), .val (.int (3 : Int32)), .val (.ref umi), .val (.ref b208)] [(.int (3 : Int32)), (.int (0 : Int32)), (.ref b208), (.int (0 : Int32)), (.ref ub)])) rfl (by rw [hml]; rfl) rfl (hb hby d_j65_120_35) (by decide) (W := 0) (by show 2 * 0 + _ ≤ _; exact Nat.le_of_eq rfl) (by decide)
  refine own_go st212 ?_
  replace V212 : Arv Z h212 b208 k208 (.object "java/lang/Object") (3 : Int32) [(.ref ue), (.ref ue), (.ref ue)] .null := V212
  have Z212 : n0 ≤ h212.size := (Nat.le_trans Z208 K212q.1)
  have K212 : Keep h0 h212 [] := K208.trans K212q (allS (Or.inr lo208) all0)
  show own_Go _ _ _ _ (T212.setTop (mkF m 38 #[.val (.ref ub), .val (.int (3 : Int32)), .val (.ref umi), .val (.ref b208)] []))
  refine own_go (fun t k => XS.aloadN X212.here hx rfl (hb hby d_j65_120_38) rfl rfl k) ?_
  show own_Go _ _ _ _ (T212.setTop (mkF m 39 #[.val (.ref ub), .val (.int (3 : Int32)), .val (.ref umi), .val (.ref b208)] [(.ref b208)]))
  refine own_ret X212 hx hlk hret rfl (Or.inr (Or.inr (Or.inr (Or.inr ⟨rfl, rfl, rfl⟩)))) (hb hby d_j65_120_39) ?_ (by decide) (by decide)
  rw [e212]
  exact ⟨b208, k208, rfl, N212, K212, lo208, q208, V212⟩
def Q_cp2_3 (Z : State) (ub : Addr) (kb : ClassId) (ue : Addr) (ude : Addr) (kde : ClassId) (uel : Addr) (uem : Addr) (kem : ClassId) (uemp : Addr) (urec : Addr) (umi : Addr) (h0 : Heap) (n0 : Nat) (v : Option Value) (h : Heap) (L : List Loc) : Prop := ∃ (uc : Addr) (kc : ClassId), v = some (.ref uc) ∧ Fr n0 L ∧ Keep h0 h [] ∧ h0.size ≤ uc ∧ n0 ≤ uc ∧ Arv Z h uc kc (.object "java/lang/Object") (3 : Int32) [(.ref ue), (.ref ue), (.ref ue)] .null
theorem ef_cp2_3 (m : MethodId) (ub : Addr) : entryFrame m #[(.ref ub), (.int (3 : Int32))] 2 = mkF m 0 #[.val (.ref ub), .val (.int (3 : Int32))] [] := by first | (simp [entryFrame, mkF, argsToLocals, Value.category]; done) | rfl
set_option maxRecDepth 65536 in
set_option maxHeartbeats 40000000 in
theorem rm_cp2_3 (l : Launch) (Z : State) (a0 : Array Value) (hw : ∀ d ∈ tables_1, d.before a0 Z = true) (ws : List Jvm.Cond) (ub : Addr) (kb : ClassId) (ue ude : Addr) (kde : ClassId) (uel uem : Addr) (kem : ClassId) (uemp urec umi : Addr) (h0 : Heap) (n0 : Nat) (Z0 : n0 ≤ h0.size) (B0 : Arv Z h0 ub kb (.object "java/lang/Object") (10 : Int32) [(.ref ue), (.ref ue), (.ref ue), .null, .null, .null, .null, .null, .null, .null] .null) (Eb : Exa Z h0 ub "[Ljava/lang/Object;") (O0 : Old Z n0 h0) (hF : own_Fac Z ue ude kde uel uem kem uemp urec umi) :
    own_Met l Z (⟨"java/util/Arrays", "copyOf", "([Ljava/lang/Object;I)[Ljava/lang/Object;"⟩ : MethodName) jdk_65_method_119_code 2 (some (.array (.object "java/lang/Object"))) ws ({ frames := 2, cells := 1, slots := 3, locals := 33 } : Room) #[(.ref ub), (.int (3 : Int32))] h0 (Q_cp2_3 Z ub kb ue ude kde uel uem kem uemp urec umi h0 n0) := by
  refine own_enter (own := "java/util/Arrays") (plainFor_of_name pn_7) rfl ?_
  intro p e s m below meth c s₁ hlk hret hx hby hml hown hnm hZ X0 e0
  have N0 := Fr.nil n0
  refine own_cast (ef_cp2_3 m ub) ?_
  obtain ⟨Se, Ee, Sd, Ad, Sl, El, Fl, Am, Sm, Em, Sr, Er, Fr1, Fr0, Mi⟩ := id hF
  show own_Go _ _ _ _ (s₁.setTop (mkF m 0 #[.val (.ref ub), .val (.int (3 : Int32))] []))
  refine own_go (fun t k => XS.aloadN X0.here hx rfl (hb hby d_j65_119_0) rfl rfl k) ?_
  show own_Go _ _ _ _ (s₁.setTop (mkF m 1 #[.val (.ref ub), .val (.int (3 : Int32))] [(.ref ub)]))
  refine own_go (fun t k => XS.iloadN X0.here hx rfl (hb hby d_j65_119_1) rfl k) ?_
  show own_Go _ _ _ _ (s₁.setTop (mkF m 2 #[.val (.ref ub), .val (.int (3 : Int32))] [(.int (3 : Int32)), (.ref ub)]))
  refine own_go (fun t k => XS.aloadN X0.here hx rfl (hb hby d_j65_119_2) rfl rfl k) ?_
  show own_Go _ _ _ _ (s₁.setTop (mkF m 3 #[.val (.ref ub), .val (.int (3 : Int32))] [(.ref ub), (.int (3 : Int32)), (.ref ub)]))
  obtain ⟨T213, X213, e213, st213⟩ := gcls X0 hx hZ hown (w_169 hw) (w_170 hw) (w_50 hw) (w_172 hw) (w_171 hw) (w_173 hw) e0 Eb Mi (g := (mkF m 3 #[.val (.ref ub), .val (.int (3 : Int32))] [(.ref ub), (.int (3 : Int32)), (.ref ub)])) rfl (by rw [hml]; rfl) rfl (hb hby d_j65_119_3) (by decide) (W := 2) (by show 2 * 0 + _ ≤ _; exact Nat.le_of_eq rfl) (by decide)
  refine own_go st213 ?_
  show own_Go _ _ _ _ (T213.setTop (mkF m 6 #[.val (.ref ub), .val (.int (3 : Int32))] [(.ref umi), (.int (3 : Int32)), (.ref ub)]))
  obtain ⟨_, _, ⟨T214, L214, k214, n214⟩, -, X214, ⟨Lc214, hQ214, l214, y214, z214⟩, st214⟩ := Jvm.LawKit.callS X213 hx (y := (⟨"java/util/Arrays", "copyOf", "([Ljava/lang/Object;ILjava/lang/Class;)[Ljava/lang/Object;"⟩ : MethodName)) hown (mvT hZ (w_175 hw)) (mvT hZ (w_176 hw)) (mvT hZ (w_167 hw)) (mvT hZ (w_177 hw)) (by decide) (backOf (W := 0) (rm_cp3_3 l Z a0 hw [] ub kb ue ude kde uel uem kem uemp urec umi h0 n0 Z0 B0 Eb O0 hF) hZ (w_177 hw) (w_167 hw) (by decide) (by decide)) (g := (mkF m 6 #[.val (.ref ub), .val (.int (3 : Int32))] [(.ref umi), (.int (3 : Int32)), (.ref ub)])) rfl (by rw [hml]; rfl) (argsL := [(.ref ub), (.int (3 : Int32)), (.ref umi)]) (rest := []) (lenOf pd_5 rfl) rfl (by show 2 * 0 + _ ≤ _; exact Nat.le_of_eq rfl) (hb hby d_j65_119_6) (fun _ _ => ⟨rfl, e213, (by decide : 0 + 1 ≤ _), (by decide : 0 + 3 ≤ _)⟩)
  dsimp only [Pt.U, Pt.locs, Pt.cells, Pt.slots] at X214 l214 y214 z214 st214 hQ214
  subst l214 y214 z214
  generalize e214 : T214.heap = h214 at hQ214
  obtain ⟨uc214, kc214, rfl, N214q, K214q, lo214, q214, A214⟩ := hQ214
  have N214 := Fr.app N0 N214q
  refine own_go st214 ?_
  have Z214 : n0 ≤ h214.size := (Nat.le_trans Z0 K214q.1)
  have K214 : Keep h0 h214 [] := (Keep.refl h0 []).trans K214q all0
  have hi214 := A214.lt
  show own_Go _ _ _ _ (T214.setTop (mkF m 9 #[.val (.ref ub), .val (.int (3 : Int32))] [(.ref uc214)]))
  refine own_ret X214 hx hlk hret rfl (Or.inr (Or.inr (Or.inr (Or.inr ⟨rfl, rfl, rfl⟩)))) (hb hby d_j65_119_9) ?_ (by decide) (by decide)
  rw [e214]
  exact ⟨uc214, kc214, rfl, N214, K214, lo214, q214, A214⟩
def Q_toa_3 (Z : State) (ua : Addr) (ub : Addr) (kb : ClassId) (ue : Addr) (ude : Addr) (kde : ClassId) (uel : Addr) (uem : Addr) (kem : ClassId) (uemp : Addr) (urec : Addr) (umi : Addr) (h0 : Heap) (n0 : Nat) (v : Option Value) (h : Heap) (L : List Loc) : Prop := ∃ (uc : Addr) (kc : ClassId), v = some (.ref uc) ∧ Fr n0 L ∧ Keep h0 h [] ∧ h0.size ≤ uc ∧ n0 ≤ uc ∧ Arv Z h uc kc (.object "java/lang/Object") (3 : Int32) [(.ref ue), (.ref ue), (.ref ue)] .null
theorem ef_toa_3 (m : MethodId) (ua : Addr) : entryFrame m #[(.ref ua)] 1 = mkF m 0 #[.val (.ref ua)] [] := by first | (simp [entryFrame, mkF, argsToLocals, Value.category]; done) | rfl
set_option maxRecDepth 65536 in
set_option maxHeartbeats 40000000 in
theorem rm_toa_3 (l : Launch) (Z : State) (a0 : Array Value) (hw : ∀ d ∈ tables_1, d.before a0 Z = true) (ws : List Jvm.Cond) (ua ub : Addr) (kb : ClassId) (ue ude : Addr) (kde : ClassId) (uel uem : Addr) (kem : ClassId) (uemp urec umi : Addr) (h0 : Heap) (n0 : Nat) (Z0 : n0 ≤ h0.size) (F1 : Fld Z h0 ua "java/util/ArrayList" "elementData" "[Ljava/lang/Object;" (.ref ub)) (F2 : Fld Z h0 ua "java/util/ArrayList" "size" "I" (.int (3 : Int32))) (B0 : Arv Z h0 ub kb (.object "java/lang/Object") (10 : Int32) [(.ref ue), (.ref ue), (.ref ue), .null, .null, .null, .null, .null, .null, .null] .null) (Eb : Exa Z h0 ub "[Ljava/lang/Object;") (O0 : Old Z n0 h0) (hF : own_Fac Z ue ude kde uel uem kem uemp urec umi) :
    own_Met l Z (⟨"java/util/ArrayList", "toArray", "()[Ljava/lang/Object;"⟩ : MethodName) jdk_38_method_16_code 1 (some (.array (.object "java/lang/Object"))) ws ({ frames := 3, cells := 1, slots := 3, locals := 46 } : Room) #[(.ref ua)] h0 (Q_toa_3 Z ua ub kb ue ude kde uel uem kem uemp urec umi h0 n0) := by
  refine own_enter (own := "java/util/ArrayList") (plainFor_of_name pn_6) rfl ?_
  intro p e s m below meth c s₁ hlk hret hx hby hml hown hnm hZ X0 e0
  have N0 := Fr.nil n0
  refine own_cast (ef_toa_3 m ua) ?_
  obtain ⟨Se, Ee, Sd, Ad, Sl, El, Fl, Am, Sm, Em, Sr, Er, Fr1, Fr0, Mi⟩ := id hF
  show own_Go _ _ _ _ (s₁.setTop (mkF m 0 #[.val (.ref ua)] []))
  refine own_go (fun t k => XS.aloadN X0.here hx rfl (hb hby d_j38_16_0) rfl rfl k) ?_
  show own_Go _ _ _ _ (s₁.setTop (mkF m 1 #[.val (.ref ua)] [(.ref ua)]))
  obtain ⟨T215, X215, e215, st215⟩ := getF X0 hx hZ hown (host := "") (Or.inl (w_24 hw)) Via.refl e0 F1 (g := (mkF m 1 #[.val (.ref ua)] [(.ref ua)])) rfl rfl (hb hby d_j38_16_1)
  refine own_go st215 ?_
  show own_Go _ _ _ _ (T215.setTop (mkF m 4 #[.val (.ref ua)] [(.ref ub)]))
  refine own_go (fun t k => XS.aloadN X215.here hx rfl (hb hby d_j38_16_4) rfl rfl k) ?_
  show own_Go _ _ _ _ (T215.setTop (mkF m 5 #[.val (.ref ua)] [(.ref ua), (.ref ub)]))
  obtain ⟨T216, X216, e216, st216⟩ := getF X215 hx hZ hown (host := "") (Or.inl (w_61 hw)) Via.refl e215 F2 (g := (mkF m 5 #[.val (.ref ua)] [(.ref ua), (.ref ub)])) rfl rfl (hb hby d_j38_16_5)
  refine own_go st216 ?_
  show own_Go _ _ _ _ (T216.setTop (mkF m 8 #[.val (.ref ua)] [(.int (3 : Int32)), (.ref ub)]))
  obtain ⟨_, _, ⟨T217, L217, k217, n217⟩, -, X217, ⟨Lc217, hQ217, l217, y217, z217⟩, st217⟩ := Jvm.LawKit.callS X216 hx (y := (⟨"java/util/Arrays", "copyOf", "([Ljava/lang/Object;I)[Ljava/lang/Object;"⟩ : MethodName)) hown (mvT hZ (w_165 hw)) (mvT hZ (w_166 hw)) (mvT hZ (w_167 hw)) (mvT hZ (w_168 hw)) (by decide) (backOf (W := 0) (rm_cp2_3 l Z a0 hw [] ub kb ue ude kde uel uem kem uemp urec umi h0 n0 Z0 B0 Eb O0 hF) hZ (w_168 hw) (w_167 hw) (by decide) (by decide)) (g := (mkF m 8 #[.val (.ref ua)] [(.int (3 : Int32)), (.ref ub)])) rfl (by rw [hml]; rfl) (argsL := [(.ref ub), (.int (3 : Int32))]) (rest := []) (lenOf pd_6 rfl) rfl (by show 2 * 0 + _ ≤ _; exact Nat.le_of_eq rfl) (hb hby d_j38_16_8) (fun _ _ => ⟨rfl, e216, (by decide : 0 + 1 ≤ _), (by decide : 0 + 3 ≤ _)⟩)
  dsimp only [Pt.U, Pt.locs, Pt.cells, Pt.slots] at X217 l217 y217 z217 st217 hQ217
  subst l217 y217 z217
  generalize e217 : T217.heap = h217 at hQ217
  obtain ⟨uc217, kc217, rfl, N217q, K217q, lo217, q217, A217⟩ := hQ217
  have N217 := Fr.app N0 N217q
  refine own_go st217 ?_
  have Z217 : n0 ≤ h217.size := (Nat.le_trans Z0 K217q.1)
  have K217 : Keep h0 h217 [] := (Keep.refl h0 []).trans K217q all0
  have hi217 := A217.lt
  show own_Go _ _ _ _ (T217.setTop (mkF m 11 #[.val (.ref ua)] [(.ref uc217)]))
  refine own_ret X217 hx hlk hret rfl (Or.inr (Or.inr (Or.inr (Or.inr ⟨rfl, rfl, rfl⟩)))) (hb hby d_j38_16_11) ?_ (by decide) (by decide)
  rw [e217]
  exact ⟨uc217, kc217, rfl, N217, K217, lo217, q217, A217⟩
def Q_i1 (Z : State) (ux : Addr) (ue : Addr) (ude : Addr) (kde : ClassId) (uel : Addr) (uem : Addr) (kem : ClassId) (uemp : Addr) (urec : Addr) (umi : Addr) (h0 : Heap) (n0 : Nat) (v : Option Value) (h : Heap) (L : List Loc) : Prop := v = none ∧ Fr n0 L ∧ Keep h0 h [ux] ∧ Fld Z h ux "java/util/ImmutableCollections$List12" "e0" "Ljava/lang/Object;" (.ref ue) ∧ Fld Z h ux "java/util/ImmutableCollections$List12" "e1" "Ljava/lang/Object;" (.ref uemp)
theorem ef_i1 (m : MethodId) (ux : Addr) (ue : Addr) : entryFrame m #[(.ref ux), (.ref ue)] 2 = mkF m 0 #[.val (.ref ux), .val (.ref ue)] [] := by first | (simp [entryFrame, mkF, argsToLocals, Value.category]; done) | rfl
theorem pn_8 : plainName "java/util/ImmutableCollections$List12" = true := by first | (simp [plainName, overriddenIn]; done) | decide +kernel
theorem d_j44_1_0 : decode jdk_44_method_1_code 0 = .ok (.aload_n 0, 1) := by decide +kernel
theorem w_196 {Z : State} {a0 : Array Value} (hw : ∀ d ∈ tables_1, d.before a0 Z = true) : (Jvm.Cond.methodLink "java/util/ImmutableCollections$List12" (1 : Nat) ({ cls := "java/util/ImmutableCollections$AbstractImmutableList", name := "<init>", desc := "()V" } : Jvm.MethodName)).before a0 Z = true := hw _ (List.mem_of_getElem? (i := 196) rfl)
theorem w_201 {Z : State} {a0 : Array Value} (hw : ∀ d ∈ tables_1, d.before a0 Z = true) : (Jvm.Cond.code ({ cls := "java/util/ImmutableCollections$AbstractImmutableList", name := "<init>", desc := "()V" } : Jvm.MethodName) jdk_46_method_1_code (1 : Nat) (Option.none : Option Jvm.ClassFile.FieldType)).before a0 Z = true := hw _ (List.mem_of_getElem? (i := 201) rfl)
theorem w_200 {Z : State} {a0 : Array Value} (hw : ∀ d ∈ tables_1, d.before a0 Z = true) : (Jvm.Cond.initialized "java/util/ImmutableCollections$AbstractImmutableList").before a0 Z = true := hw _ (List.mem_of_getElem? (i := 200) rfl)
theorem d_j44_1_1 : decode jdk_44_method_1_code 1 = .ok (.invokespecial 1, 3) := by decide +kernel
theorem w_197 {Z : State} {a0 : Array Value} (hw : ∀ d ∈ tables_1, d.before a0 Z = true) : (Jvm.Cond.instanceMethod ({ cls := "java/util/ImmutableCollections$AbstractImmutableList", name := "<init>", desc := "()V" } : Jvm.MethodName)).before a0 Z = true := hw _ (List.mem_of_getElem? (i := 197) rfl)
theorem d_j44_1_4 : decode jdk_44_method_1_code 4 = .ok (.aload_n 0, 1) := by decide +kernel
theorem d_j44_1_5 : decode jdk_44_method_1_code 5 = .ok (.aload_n 1, 1) := by decide +kernel
theorem w_210 {Z : State} {a0 : Array Value} (hw : ∀ d ∈ tables_1, d.before a0 Z = true) : (Jvm.Cond.methodLink "java/util/ImmutableCollections$List12" (7 : Nat) ({ cls := "java/util/Objects", name := "requireNonNull", desc := "(Ljava/lang/Object;)Ljava/lang/Object;" } : Jvm.MethodName)).before a0 Z = true := hw _ (List.mem_of_getElem? (i := 210) rfl)
theorem w_213 {Z : State} {a0 : Array Value} (hw : ∀ d ∈ tables_1, d.before a0 Z = true) : (Jvm.Cond.code ({ cls := "java/util/Objects", name := "requireNonNull", desc := "(Ljava/lang/Object;)Ljava/lang/Object;" } : Jvm.MethodName) jdk_31_method_10_code (1 : Nat) (Option.some (Jvm.ClassFile.FieldType.object "java/lang/Object"))).before a0 Z = true := hw _ (List.mem_of_getElem? (i := 213) rfl)
theorem w_212 {Z : State} {a0 : Array Value} (hw : ∀ d ∈ tables_1, d.before a0 Z = true) : (Jvm.Cond.initialized "java/util/Objects").before a0 Z = true := hw _ (List.mem_of_getElem? (i := 212) rfl)
theorem pd_7 : parseMethodDescriptor "(Ljava/lang/Object;)Ljava/lang/Object;" = some ⟨[(.object "java/lang/Object")], some (.object "java/lang/Object")⟩ := by decide +kernel
theorem d_j44_1_6 : decode jdk_44_method_1_code 6 = .ok (.invokestatic 7, 3) := by decide +kernel
theorem w_211 {Z : State} {a0 : Array Value} (hw : ∀ d ∈ tables_1, d.before a0 Z = true) : (Jvm.Cond.static ({ cls := "java/util/Objects", name := "requireNonNull", desc := "(Ljava/lang/Object;)Ljava/lang/Object;" } : Jvm.MethodName)).before a0 Z = true := hw _ (List.mem_of_getElem? (i := 211) rfl)
theorem w_145 {Z : State} {a0 : Array Value} (hw : ∀ d ∈ tables_1, d.before a0 Z = true) : (Jvm.Cond.fieldLink "java/util/ImmutableCollections$List12" (13 : Nat) "java/util/ImmutableCollections$List12" "e0" "Ljava/lang/Object;").before a0 Z = true := hw _ (List.mem_of_getElem? (i := 145) rfl)
theorem w_191 {Z : State} {a0 : Array Value} (hw : ∀ d ∈ tables_1, d.before a0 Z = true) : (Jvm.Cond.instantiable "java/util/ImmutableCollections$List12" (2 : Nat)).before a0 Z = true := hw _ (List.mem_of_getElem? (i := 191) rfl)
theorem w_146 {Z : State} {a0 : Array Value} (hw : ∀ d ∈ tables_1, d.before a0 Z = true) : (Jvm.Cond.laysFinal "java/util/ImmutableCollections$List12" "java/util/ImmutableCollections$List12" "e0" "Ljava/lang/Object;").before a0 Z = true := hw _ (List.mem_of_getElem? (i := 146) rfl)
theorem d_j44_1_9 : decode jdk_44_method_1_code 9 = .ok (.putfield 13, 3) := by decide +kernel
theorem d_j44_1_12 : decode jdk_44_method_1_code 12 = .ok (.aload_n 0, 1) := by decide +kernel
theorem w_136 {Z : State} {a0 : Array Value} (hw : ∀ d ∈ tables_1, d.before a0 Z = true) : (Jvm.Cond.fieldLinkNest "java/util/ImmutableCollections$List12" (19 : Nat) "java/util/ImmutableCollections" "EMPTY" "Ljava/lang/Object;" "java/util/ImmutableCollections").before a0 Z = true := hw _ (List.mem_of_getElem? (i := 136) rfl)
theorem d_j44_1_13 : decode jdk_44_method_1_code 13 = .ok (.getstatic 19, 3) := by decide +kernel
theorem w_134 {Z : State} {a0 : Array Value} (hw : ∀ d ∈ tables_1, d.before a0 Z = true) : (Jvm.Cond.fieldLink "java/util/ImmutableCollections$List12" (24 : Nat) "java/util/ImmutableCollections$List12" "e1" "Ljava/lang/Object;").before a0 Z = true := hw _ (List.mem_of_getElem? (i := 134) rfl)
theorem w_135 {Z : State} {a0 : Array Value} (hw : ∀ d ∈ tables_1, d.before a0 Z = true) : (Jvm.Cond.laysFinal "java/util/ImmutableCollections$List12" "java/util/ImmutableCollections$List12" "e1" "Ljava/lang/Object;").before a0 Z = true := hw _ (List.mem_of_getElem? (i := 135) rfl)
theorem d_j44_1_16 : decode jdk_44_method_1_code 16 = .ok (.putfield 24, 3) := by decide +kernel
theorem d_j44_1_19 : decode jdk_44_method_1_code 19 = .ok (.return_, 1) := by decide +kernel
set_option maxRecDepth 65536 in
set_option maxHeartbeats 40000000 in
theorem rm_i1 (l : Launch) (Z : State) (a0 : Array Value) (hw : ∀ d ∈ tables_1, d.before a0 Z = true) (ws : List Jvm.Cond) (ux ue ude : Addr) (kde : ClassId) (uel uem : Addr) (kem : ClassId) (uemp urec umi : Addr) (h0 : Heap) (n0 : Nat) (Z0 : n0 ≤ h0.size) (q0 : n0 ≤ ux) (E0 : Exa Z h0 ux "java/util/ImmutableCollections$List12") (F0 : Fld Z h0 ux "java/util/ImmutableCollections$List12" "e0" "Ljava/lang/Object;" .null) (F1 : Fld Z h0 ux "java/util/ImmutableCollections$List12" "e1" "Ljava/lang/Object;" .null) (O0 : Old Z n0 h0) (hF : own_Fac Z ue ude kde uel uem kem uemp urec umi) :
    own_Met l Z (⟨"java/util/ImmutableCollections$List12", "<init>", "(Ljava/lang/Object;)V"⟩ : MethodName) jdk_44_method_1_code 2 none ws ({ frames := 4, cells := 0, slots := 0, locals := 48 } : Room) #[(.ref ux), (.ref ue)] h0 (Q_i1 Z ux ue ude kde uel uem kem uemp urec umi h0 n0) := by
  refine own_enter (own := "java/util/ImmutableCollections$List12") (plainFor_of_name pn_8) rfl ?_
  intro p e s m below meth c s₁ hlk hret hx hby hml hown hnm hZ X0 e0
  have N0 := Fr.nil n0
  refine own_cast (ef_i1 m ux ue) ?_
  obtain ⟨Se, Ee, Sd, Ad, Sl, El, Fl, Am, Sm, Em, Sr, Er, Fr1, Fr0, Mi⟩ := id hF
  show own_Go _ _ _ _ (s₁.setTop (mkF m 0 #[.val (.ref ux), .val (.ref ue)] []))
  refine own_go (fun t k => XS.aloadN X0.here hx rfl (hb hby d_j44_1_0) rfl rfl k) ?_
  show own_Go _ _ _ _ (s₁.setTop (mkF m 1 #[.val (.ref ux), .val (.ref ue)] [(.ref ux)]))
  obtain ⟨_, _, ⟨T218, L218, k218, n218⟩, -, X218, ⟨Lc218, hQ218, l218, y218, z218⟩, st218⟩ := X0.specialBack hx (y := (⟨"java/util/ImmutableCollections$AbstractImmutableList", "<init>", "()V"⟩ : MethodName)) rfl hown (mvT hZ (w_196 hw)) (mvT hZ (w_197 hw)) (mvT hZ (w_201 hw)) (by decide) (backOf (W := 0) (rm_ail l Z a0 hw [] ux h0 n0 Z0 ) hZ (w_201 hw) (w_200 hw) (by decide) (by decide)) (g := (mkF m 1 #[.val (.ref ux), .val (.ref ue)] [(.ref ux)])) rfl (by rw [hml]; rfl) (Steps.refl _) (a := ux) (argsL := []) (rest := []) (lenOf pd_0 rfl) rfl (by show 2 * 0 + _ ≤ _; exact Nat.le_of_eq rfl) (hb hby d_j44_1_1) (fun _ _ => ⟨rfl, e0, (by decide : 0 + 0 ≤ _), (by decide : 0 + 0 ≤ _)⟩)
  dsimp only [Pt.U, Pt.locs, Pt.cells, Pt.slots] at X218 l218 y218 z218 st218 hQ218
  subst l218 y218 z218
  obtain ⟨rfl, N218q, e218⟩ := hQ218
  have N218 := Fr.app N0 N218q
  refine own_go (fun t k => st218.trans k) ?_
  show own_Go _ _ _ _ (T218.setTop (mkF m 4 #[.val (.ref ux), .val (.ref ue)] []))
  refine own_go (fun t k => XS.aloadN X218.here hx rfl (hb hby d_j44_1_4) rfl rfl k) ?_
  show own_Go _ _ _ _ (T218.setTop (mkF m 5 #[.val (.ref ux), .val (.ref ue)] [(.ref ux)]))
  refine own_go (fun t k => XS.aloadN X218.here hx rfl (hb hby d_j44_1_5) rfl rfl k) ?_
  show own_Go _ _ _ _ (T218.setTop (mkF m 6 #[.val (.ref ux), .val (.ref ue)] [(.ref ue), (.ref ux)]))
  obtain ⟨_, _, ⟨T219, L219, k219, n219⟩, -, X219, ⟨Lc219, hQ219, l219, y219, z219⟩, st219⟩ := Jvm.LawKit.callS X218 hx (y := (⟨"java/util/Objects", "requireNonNull", "(Ljava/lang/Object;)Ljava/lang/Object;"⟩ : MethodName)) hown (mvT hZ (w_210 hw)) (mvT hZ (w_211 hw)) (mvT hZ (w_212 hw)) (mvT hZ (w_213 hw)) (by decide) (backOf (W := 1) (rm_rnn l Z a0 hw [] ue h0 n0 Z0 ) hZ (w_213 hw) (w_212 hw) (by decide) (by decide)) (g := (mkF m 6 #[.val (.ref ux), .val (.ref ue)] [(.ref ue), (.ref ux)])) rfl (by rw [hml]; rfl) (argsL := [(.ref ue)]) (rest := [(.ref ux)]) (lenOf pd_7 rfl) rfl (by show 2 * 0 + _ ≤ _; exact Nat.le_of_eq rfl) (hb hby d_j44_1_6) (fun _ _ => ⟨rfl, e218, (by decide : 0 + 0 ≤ _), (by decide : 0 + 0 ≤ _)⟩)
  dsimp only [Pt.U, Pt.locs, Pt.cells, Pt.slots] at X219 l219 y219 z219 st219 hQ219
  subst l219 y219 z219
  obtain ⟨rfl, N219q, e219⟩ := hQ219
  have N219 := Fr.app N218 N219q
  refine own_go st219 ?_
  show own_Go _ _ _ _ (T219.setTop (mkF m 9 #[.val (.ref ux), .val (.ref ue)] [(.ref ue), (.ref ux)]))
  obtain ⟨T220, h220, X220, e220, W220, st220⟩ := putF X219 hx hZ hown (host := "") (Or.inl (w_145 hw)) Via.refl e219 F0 E0 (Or.inr ⟨(w_146 hw), rfl, hnm⟩) (w_191 hw) (ty := (.object "java/lang/Object")) (by decide) rfl rfl (g := (mkF m 9 #[.val (.ref ux), .val (.ref ue)] [(.ref ue), (.ref ux)])) rfl rfl (hb hby d_j44_1_9)
  refine own_go st220 ?_
  have F220 := F0.same W220
  have Z220 : n0 ≤ h220.size := (Nat.le_trans Z0 (Nat.le_of_eq W220.size.symm))
  have N220 := Fr.snoc X220 N219 q0
  have K220 : Keep h0 h220 [ux] := (Keep.refl h0 [ux]).wr W220 (Or.inl (List.mem_of_getElem? (i := 0) rfl))
  show own_Go _ _ _ _ (T220.setTop (mkF m 12 #[.val (.ref ux), .val (.ref ue)] []))
  refine own_go (fun t k => XS.aloadN X220.here hx rfl (hb hby d_j44_1_12) rfl rfl k) ?_
  show own_Go _ _ _ _ (T220.setTop (mkF m 13 #[.val (.ref ux), .val (.ref ue)] [(.ref ux)]))
  obtain ⟨T221, X221, e221, st221⟩ := getS2 X220 hx hZ hown (Or.inr (w_136 hw)) Via.refl e220 (Sm.ext (O0.wr W220 q0).2) (g := (mkF m 13 #[.val (.ref ux), .val (.ref ue)] [(.ref ux)])) rfl (hb hby d_j44_1_13)
  refine own_go st221 ?_
  show own_Go _ _ _ _ (T221.setTop (mkF m 16 #[.val (.ref ux), .val (.ref ue)] [(.ref uemp), (.ref ux)]))
  have f222 := (F1.other W220 (Or.inr (slot_ne (Or.inr (w_135 hw)) (Or.inr (w_146 hw)) (by decide) (t := (.object "java/lang/Object")) (t' := (.object "java/lang/Object")) (by decide) (by decide))))
  obtain ⟨T223, h223, X223, e223, W223, st223⟩ := putF X221 hx hZ hown (host := "") (Or.inl (w_134 hw)) Via.refl e221 f222 (E0.wr W220) (Or.inr ⟨(w_135 hw), rfl, hnm⟩) (w_191 hw) (ty := (.object "java/lang/Object")) (by decide) rfl rfl (g := (mkF m 16 #[.val (.ref ux), .val (.ref ue)] [(.ref uemp), (.ref ux)])) rfl rfl (hb hby d_j44_1_16)
  refine own_go st223 ?_
  have F223 := f222.same W223
  have Z223 : n0 ≤ h223.size := (Nat.le_trans Z220 (Nat.le_of_eq W223.size.symm))
  have N223 := Fr.snoc X223 N220 q0
  have K223 : Keep h0 h223 [ux] := K220.wr W223 (Or.inl (List.mem_of_getElem? (i := 0) rfl))
  have f224 := (F220.other W223 (Or.inr (slot_ne (Or.inr (w_146 hw)) (Or.inr (w_135 hw)) (by decide) (t := (.object "java/lang/Object")) (t' := (.object "java/lang/Object")) (by decide) (by decide))))
  show own_Go _ _ _ _ (T223.setTop (mkF m 19 #[.val (.ref ux), .val (.ref ue)] []))
  refine own_retV X223 hx hlk hret (hb hby d_j44_1_19) ?_ (by decide) (by decide)
  rw [e223]
  exact ⟨rfl, N223, K223, f224, F223⟩
def Q_i2 (Z : State) (ux : Addr) (ue : Addr) (ude : Addr) (kde : ClassId) (uel : Addr) (uem : Addr) (kem : ClassId) (uemp : Addr) (urec : Addr) (umi : Addr) (h0 : Heap) (n0 : Nat) (v : Option Value) (h : Heap) (L : List Loc) : Prop := v = none ∧ Fr n0 L ∧ Keep h0 h [ux] ∧ Fld Z h ux "java/util/ImmutableCollections$List12" "e0" "Ljava/lang/Object;" (.ref ue) ∧ Fld Z h ux "java/util/ImmutableCollections$List12" "e1" "Ljava/lang/Object;" (.ref ue)
theorem ef_i2 (m : MethodId) (ux : Addr) (ue : Addr) : entryFrame m #[(.ref ux), (.ref ue), (.ref ue)] 3 = mkF m 0 #[.val (.ref ux), .val (.ref ue), .val (.ref ue)] [] := by first | (simp [entryFrame, mkF, argsToLocals, Value.category]; done) | rfl
theorem d_j44_2_0 : decode jdk_44_method_2_code 0 = .ok (.aload_n 0, 1) := by decide +kernel
theorem d_j44_2_1 : decode jdk_44_method_2_code 1 = .ok (.invokespecial 1, 3) := by decide +kernel
theorem d_j44_2_4 : decode jdk_44_method_2_code 4 = .ok (.aload_n 0, 1) := by decide +kernel
theorem d_j44_2_5 : decode jdk_44_method_2_code 5 = .ok (.aload_n 1, 1) := by decide +kernel
theorem d_j44_2_6 : decode jdk_44_method_2_code 6 = .ok (.invokestatic 7, 3) := by decide +kernel
theorem d_j44_2_9 : decode jdk_44_method_2_code 9 = .ok (.putfield 13, 3) := by decide +kernel
theorem d_j44_2_12 : decode jdk_44_method_2_code 12 = .ok (.aload_n 0, 1) := by decide +kernel
theorem d_j44_2_13 : decode jdk_44_method_2_code 13 = .ok (.aload_n 2, 1) := by decide +kernel
theorem d_j44_2_14 : decode jdk_44_method_2_code 14 = .ok (.invokestatic 7, 3) := by decide +kernel
theorem d_j44_2_17 : decode jdk_44_method_2_code 17 = .ok (.putfield 24, 3) := by decide +kernel
theorem d_j44_2_20 : decode jdk_44_method_2_code 20 = .ok (.return_, 1) := by decide +kernel
set_option maxRecDepth 65536 in
set_option maxHeartbeats 40000000 in
theorem rm_i2 (l : Launch) (Z : State) (a0 : Array Value) (hw : ∀ d ∈ tables_1, d.before a0 Z = true) (ws : List Jvm.Cond) (ux ue ude : Addr) (kde : ClassId) (uel uem : Addr) (kem : ClassId) (uemp urec umi : Addr) (h0 : Heap) (n0 : Nat) (Z0 : n0 ≤ h0.size) (q0 : n0 ≤ ux) (E0 : Exa Z h0 ux "java/util/ImmutableCollections$List12") (F0 : Fld Z h0 ux "java/util/ImmutableCollections$List12" "e0" "Ljava/lang/Object;" .null) (F1 : Fld Z h0 ux "java/util/ImmutableCollections$List12" "e1" "Ljava/lang/Object;" .null) (O0 : Old Z n0 h0) (hF : own_Fac Z ue ude kde uel uem kem uemp urec umi) :
    own_Met l Z (⟨"java/util/ImmutableCollections$List12", "<init>", "(Ljava/lang/Object;Ljava/lang/Object;)V"⟩ : MethodName) jdk_44_method_2_code 3 none ws ({ frames := 4, cells := 0, slots := 0, locals := 48 } : Room) #[(.ref ux), (.ref ue), (.ref ue)] h0 (Q_i2 Z ux ue ude kde uel uem kem uemp urec umi h0 n0) := by
  refine own_enter (own := "java/util/ImmutableCollections$List12") (plainFor_of_name pn_8) rfl ?_
  intro p e s m below meth c s₁ hlk hret hx hby hml hown hnm hZ X0 e0
  have N0 := Fr.nil n0
  refine own_cast (ef_i2 m ux ue) ?_
  obtain ⟨Se, Ee, Sd, Ad, Sl, El, Fl, Am, Sm, Em, Sr, Er, Fr1, Fr0, Mi⟩ := id hF
  show own_Go _ _ _ _ (s₁.setTop (mkF m 0 #[.val (.ref ux), .val (.ref ue), .val (.ref ue)] []))
  refine own_go (fun t k => XS.aloadN X0.here hx rfl (hb hby d_j44_2_0) rfl rfl k) ?_
  show own_Go _ _ _ _ (s₁.setTop (mkF m 1 #[.val (.ref ux), .val (.ref ue), .val (.ref ue)] [(.ref ux)]))
  obtain ⟨_, _, ⟨T225, L225, k225, n225⟩, -, X225, ⟨Lc225, hQ225, l225, y225, z225⟩, st225⟩ := X0.specialBack hx (y := (⟨"java/util/ImmutableCollections$AbstractImmutableList", "<init>", "()V"⟩ : MethodName)) rfl hown (mvT hZ (w_196 hw)) (mvT hZ (w_197 hw)) (mvT hZ (w_201 hw)) (by decide) (backOf (W := 0) (rm_ail l Z a0 hw [] ux h0 n0 Z0 ) hZ (w_201 hw) (w_200 hw) (by decide) (by decide)) (g := (mkF m 1 #[.val (.ref ux), .val (.ref ue), .val (.ref ue)] [(.ref ux)])) rfl (by rw [hml]; rfl) (Steps.refl _) (a := ux) (argsL := []) (rest := []) (lenOf pd_0 rfl) rfl (by show 2 * 0 + _ ≤ _; exact Nat.le_of_eq rfl) (hb hby d_j44_2_1) (fun _ _ => ⟨rfl, e0, (by decide : 0 + 0 ≤ _), (by decide : 0 + 0 ≤ _)⟩)
  dsimp only [Pt.U, Pt.locs, Pt.cells, Pt.slots] at X225 l225 y225 z225 st225 hQ225
  subst l225 y225 z225
  obtain ⟨rfl, N225q, e225⟩ := hQ225
  have N225 := Fr.app N0 N225q
  refine own_go (fun t k => st225.trans k) ?_
  show own_Go _ _ _ _ (T225.setTop (mkF m 4 #[.val (.ref ux), .val (.ref ue), .val (.ref ue)] []))
  refine own_go (fun t k => XS.aloadN X225.here hx rfl (hb hby d_j44_2_4) rfl rfl k) ?_
  show own_Go _ _ _ _ (T225.setTop (mkF m 5 #[.val (.ref ux), .val (.ref ue), .val (.ref ue)] [(.ref ux)]))
  refine own_go (fun t k => XS.aloadN X225.here hx rfl (hb hby d_j44_2_5) rfl rfl k) ?_
  show own_Go _ _ _ _ (T225.setTop (mkF m 6 #[.val (.ref ux), .val (.ref ue), .val (.ref ue)] [(.ref ue), (.ref ux)]))
  obtain ⟨_, _, ⟨T226, L226, k226, n226⟩, -, X226, ⟨Lc226, hQ226, l226, y226, z226⟩, st226⟩ := Jvm.LawKit.callS X225 hx (y := (⟨"java/util/Objects", "requireNonNull", "(Ljava/lang/Object;)Ljava/lang/Object;"⟩ : MethodName)) hown (mvT hZ (w_210 hw)) (mvT hZ (w_211 hw)) (mvT hZ (w_212 hw)) (mvT hZ (w_213 hw)) (by decide) (backOf (W := 1) (rm_rnn l Z a0 hw [] ue h0 n0 Z0 ) hZ (w_213 hw) (w_212 hw) (by decide) (by decide)) (g := (mkF m 6 #[.val (.ref ux), .val (.ref ue), .val (.ref ue)] [(.ref ue), (.ref ux)])) rfl (by rw [hml]; rfl) (argsL := [(.ref ue)]) (rest := [(.ref ux)]) (lenOf pd_7 rfl) rfl (by show 2 * 0 + _ ≤ _; exact Nat.le_of_eq rfl) (hb hby d_j44_2_6) (fun _ _ => ⟨rfl, e225, (by decide : 0 + 0 ≤ _), (by decide : 0 + 0 ≤ _)⟩)
  dsimp only [Pt.U, Pt.locs, Pt.cells, Pt.slots] at X226 l226 y226 z226 st226 hQ226
  subst l226 y226 z226
  obtain ⟨rfl, N226q, e226⟩ := hQ226
  have N226 := Fr.app N225 N226q
  refine own_go st226 ?_
  show own_Go _ _ _ _ (T226.setTop (mkF m 9 #[.val (.ref ux), .val (.ref ue), .val (.ref ue)] [(.ref ue), (.ref ux)]))
  obtain ⟨T227, h227, X227, e227, W227, st227⟩ := putF X226 hx hZ hown (host := "") (Or.inl (w_145 hw)) Via.refl e226 F0 E0 (Or.inr ⟨(w_146 hw), rfl, hnm⟩) (w_191 hw) (ty := (.object "java/lang/Object")) (by decide) rfl rfl (g := (mkF m 9 #[.val (.ref ux), .val (.ref ue), .val (.ref ue)] [(.ref ue), (.ref ux)])) rfl rfl (hb hby d_j44_2_9)
  refine own_go st227 ?_
  have F227 := F0.same W227
  have Z227 : n0 ≤ h227.size := (Nat.le_trans Z0 (Nat.le_of_eq W227.size.symm))
  have N227 := Fr.snoc X227 N226 q0
  have K227 : Keep h0 h227 [ux] := (Keep.refl h0 [ux]).wr W227 (Or.inl (List.mem_of_getElem? (i := 0) rfl))
  show own_Go _ _ _ _ (T227.setTop (mkF m 12 #[.val (.ref ux), .val (.ref ue), .val (.ref ue)] []))
  refine own_go (fun t k => XS.aloadN X227.here hx rfl (hb hby d_j44_2_12) rfl rfl k) ?_
  show own_Go _ _ _ _ (T227.setTop (mkF m 13 #[.val (.ref ux), .val (.ref ue), .val (.ref ue)] [(.ref ux)]))
  refine own_go (fun t k => XS.aloadN X227.here hx rfl (hb hby d_j44_2_13) rfl rfl k) ?_
  show own_Go _ _ _ _ (T227.setTop (mkF m 14 #[.val (.ref ux), .val (.ref ue), .val (.ref ue)] [(.ref ue), (.ref ux)]))
  obtain ⟨_, _, ⟨T228, L228, k228, n228⟩, -, X228, ⟨Lc228, hQ228, l228, y228, z228⟩, st228⟩ := Jvm.LawKit.callS X227 hx (y := (⟨"java/util/Objects", "requireNonNull", "(Ljava/lang/Object;)Ljava/lang/Object;"⟩ : MethodName)) hown (mvT hZ (w_210 hw)) (mvT hZ (w_211 hw)) (mvT hZ (w_212 hw)) (mvT hZ (w_213 hw)) (by decide) (backOf (W := 1) (rm_rnn l Z a0 hw [] ue h227 n0 Z227 ) hZ (w_213 hw) (w_212 hw) (by decide) (by decide)) (g := (mkF m 14 #[.val (.ref ux), .val (.ref ue), .val (.ref ue)] [(.ref ue), (.ref ux)])) rfl (by rw [hml]; rfl) (argsL := [(.ref ue)]) (rest := [(.ref ux)]) (lenOf pd_7 rfl) rfl (by show 2 * 0 + _ ≤ _; exact Nat.le_of_eq rfl) (hb hby d_j44_2_14) (fun _ _ => ⟨rfl, e227, (by decide : 0 + 0 ≤ _), (by decide : 0 + 0 ≤ _)⟩)
  dsimp only [Pt.U, Pt.locs, Pt.cells, Pt.slots] at X228 l228 y228 z228 st228 hQ228
  subst l228 y228 z228
  obtain ⟨rfl, N228q, e228⟩ := hQ228
  have N228 := Fr.app N227 N228q
  refine own_go st228 ?_
  show own_Go _ _ _ _ (T228.setTop (mkF m 17 #[.val (.ref ux), .val (.ref ue), .val (.ref ue)] [(.ref ue), (.ref ux)]))
  have f229 := (F1.other W227 (Or.inr (slot_ne (Or.inr (w_135 hw)) (Or.inr (w_146 hw)) (by decide) (t := (.object "java/lang/Object")) (t' := (.object "java/lang/Object")) (by decide) (by decide))))
  obtain ⟨T230, h230, X230, e230, W230, st230⟩ := putF X228 hx hZ hown (host := "") (Or.inl (w_134 hw)) Via.refl e228 f229 (E0.wr W227) (Or.inr ⟨(w_135 hw), rfl, hnm⟩) (w_191 hw) (ty := (.object "java/lang/Object")) (by decide) rfl rfl (g := (mkF m 17 #[.val (.ref ux), .val (.ref ue), .val (.ref ue)] [(.ref ue), (.ref ux)])) rfl rfl (hb hby d_j44_2_17)
  refine own_go st230 ?_
  have F230 := f229.same W230
  have Z230 : n0 ≤ h230.size := (Nat.le_trans Z227 (Nat.le_of_eq W230.size.symm))
  have N230 := Fr.snoc X230 N228 q0
  have K230 : Keep h0 h230 [ux] := K227.wr W230 (Or.inl (List.mem_of_getElem? (i := 0) rfl))
  have f231 := (F227.other W230 (Or.inr (slot_ne (Or.inr (w_146 hw)) (Or.inr (w_135 hw)) (by decide) (t := (.object "java/lang/Object")) (t' := (.object "java/lang/Object")) (by decide) (by decide))))
  show own_Go _ _ _ _ (T230.setTop (mkF m 20 #[.val (.ref ux), .val (.ref ue), .val (.ref ue)] []))
  refine own_retV X230 hx hlk hret (hb hby d_j44_2_20) ?_ (by decide) (by decide)
  rw [e230]
  exact ⟨rfl, N230, K230, f231, F230⟩
def Q_iN (Z : State) (ux : Addr) (uc : Addr) (h0 : Heap) (n0 : Nat) (v : Option Value) (h : Heap) (L : List Loc) : Prop := v = none ∧ Fr n0 L ∧ Keep h0 h [ux] ∧ Fld Z h ux "java/util/ImmutableCollections$ListN" "elements" "[Ljava/lang/Object;" (.ref uc)
theorem ef_iN (m : MethodId) (ux : Addr) (uc : Addr) : entryFrame m #[(.ref ux), (.ref uc), (.int (0 : Int32))] 3 = mkF m 0 #[.val (.ref ux), .val (.ref uc), .val (.int (0 : Int32))] [] := by first | (simp [entryFrame, mkF, argsToLocals, Value.category]; done) | rfl
theorem pn_9 : plainName "java/util/ImmutableCollections$ListN" = true := by first | (simp [plainName, overriddenIn]; done) | decide +kernel
theorem d_j45_1_0 : decode jdk_45_method_1_code 0 = .ok (.aload_n 0, 1) := by decide +kernel
theorem w_229 {Z : State} {a0 : Array Value} (hw : ∀ d ∈ tables_1, d.before a0 Z = true) : (Jvm.Cond.methodLink "java/util/ImmutableCollections$ListN" (1 : Nat) ({ cls := "java/util/ImmutableCollections$AbstractImmutableList", name := "<init>", desc := "()V" } : Jvm.MethodName)).before a0 Z = true := hw _ (List.mem_of_getElem? (i := 229) rfl)
theorem d_j45_1_1 : decode jdk_45_method_1_code 1 = .ok (.invokespecial 1, 3) := by decide +kernel
theorem d_j45_1_4 : decode jdk_45_method_1_code 4 = .ok (.aload_n 0, 1) := by decide +kernel
theorem d_j45_1_5 : decode jdk_45_method_1_code 5 = .ok (.aload_n 1, 1) := by decide +kernel
theorem w_120 {Z : State} {a0 : Array Value} (hw : ∀ d ∈ tables_1, d.before a0 Z = true) : (Jvm.Cond.fieldLink "java/util/ImmutableCollections$ListN" (7 : Nat) "java/util/ImmutableCollections$ListN" "elements" "[Ljava/lang/Object;").before a0 Z = true := hw _ (List.mem_of_getElem? (i := 120) rfl)
theorem w_224 {Z : State} {a0 : Array Value} (hw : ∀ d ∈ tables_1, d.before a0 Z = true) : (Jvm.Cond.instantiable "java/util/ImmutableCollections$ListN" (2 : Nat)).before a0 Z = true := hw _ (List.mem_of_getElem? (i := 224) rfl)
theorem w_121 {Z : State} {a0 : Array Value} (hw : ∀ d ∈ tables_1, d.before a0 Z = true) : (Jvm.Cond.laysFinal "java/util/ImmutableCollections$ListN" "java/util/ImmutableCollections$ListN" "elements" "[Ljava/lang/Object;").before a0 Z = true := hw _ (List.mem_of_getElem? (i := 121) rfl)
theorem d_j45_1_6 : decode jdk_45_method_1_code 6 = .ok (.putfield 7, 3) := by decide +kernel
theorem d_j45_1_9 : decode jdk_45_method_1_code 9 = .ok (.aload_n 0, 1) := by decide +kernel
theorem d_j45_1_10 : decode jdk_45_method_1_code 10 = .ok (.iload_n 2, 1) := by decide +kernel
theorem w_233 {Z : State} {a0 : Array Value} (hw : ∀ d ∈ tables_1, d.before a0 Z = true) : (Jvm.Cond.fieldLink "java/util/ImmutableCollections$ListN" (13 : Nat) "java/util/ImmutableCollections$ListN" "allowNulls" "Z").before a0 Z = true := hw _ (List.mem_of_getElem? (i := 233) rfl)
theorem w_234 {Z : State} {a0 : Array Value} (hw : ∀ d ∈ tables_1, d.before a0 Z = true) : (Jvm.Cond.laysFinal "java/util/ImmutableCollections$ListN" "java/util/ImmutableCollections$ListN" "allowNulls" "Z").before a0 Z = true := hw _ (List.mem_of_getElem? (i := 234) rfl)
theorem d_j45_1_11 : decode jdk_45_method_1_code 11 = .ok (.putfield 13, 3) := by decide +kernel
theorem d_j45_1_14 : decode jdk_45_method_1_code 14 = .ok (.return_, 1) := by decide +kernel
set_option maxRecDepth 65536 in
set_option maxHeartbeats 40000000 in
theorem rm_iN (l : Launch) (Z : State) (a0 : Array Value) (hw : ∀ d ∈ tables_1, d.before a0 Z = true) (ws : List Jvm.Cond) (ux uc : Addr) (h0 : Heap) (n0 : Nat) (Z0 : n0 ≤ h0.size) (q0 : n0 ≤ ux) (E0 : Exa Z h0 ux "java/util/ImmutableCollections$ListN") (F0 : Fld Z h0 ux "java/util/ImmutableCollections$ListN" "elements" "[Ljava/lang/Object;" .null) (F1 : Fld Z h0 ux "java/util/ImmutableCollections$ListN" "allowNulls" "Z" (.int (0 : Int32))) :
    own_Met l Z (⟨"java/util/ImmutableCollections$ListN", "<init>", "([Ljava/lang/Object;Z)V"⟩ : MethodName) jdk_45_method_1_code 3 none ws ({ frames := 4, cells := 0, slots := 0, locals := 48 } : Room) #[(.ref ux), (.ref uc), (.int (0 : Int32))] h0 (Q_iN Z ux uc h0 n0) := by
  refine own_enter (own := "java/util/ImmutableCollections$ListN") (plainFor_of_name pn_9) rfl ?_
  intro p e s m below meth c s₁ hlk hret hx hby hml hown hnm hZ X0 e0
  have N0 := Fr.nil n0
  refine own_cast (ef_iN m ux uc) ?_
  show own_Go _ _ _ _ (s₁.setTop (mkF m 0 #[.val (.ref ux), .val (.ref uc), .val (.int (0 : Int32))] []))
  refine own_go (fun t k => XS.aloadN X0.here hx rfl (hb hby d_j45_1_0) rfl rfl k) ?_
  show own_Go _ _ _ _ (s₁.setTop (mkF m 1 #[.val (.ref ux), .val (.ref uc), .val (.int (0 : Int32))] [(.ref ux)]))
  obtain ⟨_, _, ⟨T232, L232, k232, n232⟩, -, X232, ⟨Lc232, hQ232, l232, y232, z232⟩, st232⟩ := X0.specialBack hx (y := (⟨"java/util/ImmutableCollections$AbstractImmutableList", "<init>", "()V"⟩ : MethodName)) rfl hown (mvT hZ (w_229 hw)) (mvT hZ (w_197 hw)) (mvT hZ (w_201 hw)) (by decide) (backOf (W := 0) (rm_ail l Z a0 hw [] ux h0 n0 Z0 ) hZ (w_201 hw) (w_200 hw) (by decide) (by decide)) (g := (mkF m 1 #[.val (.ref ux), .val (.ref uc), .val (.int (0 : Int32))] [(.ref ux)])) rfl (by rw [hml]; rfl) (Steps.refl _) (a := ux) (argsL := []) (rest := []) (lenOf pd_0 rfl) rfl (by show 2 * 0 + _ ≤ _; exact Nat.le_of_eq rfl) (hb hby d_j45_1_1) (fun _ _ => ⟨rfl, e0, (by decide : 0 + 0 ≤ _), (by decide : 0 + 0 ≤ _)⟩)
  dsimp only [Pt.U, Pt.locs, Pt.cells, Pt.slots] at X232 l232 y232 z232 st232 hQ232
  subst l232 y232 z232
  obtain ⟨rfl, N232q, e232⟩ := hQ232
  have N232 := Fr.app N0 N232q
  refine own_go (fun t k => st232.trans k) ?_
  show own_Go _ _ _ _ (T232.setTop (mkF m 4 #[.val (.ref ux), .val (.ref uc), .val (.int (0 : Int32))] []))
  refine own_go (fun t k => XS.aloadN X232.here hx rfl (hb hby d_j45_1_4) rfl rfl k) ?_
  show own_Go _ _ _ _ (T232.setTop (mkF m 5 #[.val (.ref ux), .val (.ref uc), .val (.int (0 : Int32))] [(.ref ux)]))
  refine own_go (fun t k => XS.aloadN X232.here hx rfl (hb hby d_j45_1_5) rfl rfl k) ?_
  show own_Go _ _ _ _ (T232.setTop (mkF m 6 #[.val (.ref ux), .val (.ref uc), .val (.int (0 : Int32))] [(.ref uc), (.ref ux)]))
  obtain ⟨T233, h233, X233, e233, W233, st233⟩ := putF X232 hx hZ hown (host := "") (Or.inl (w_120 hw)) Via.refl e232 F0 E0 (Or.inr ⟨(w_121 hw), rfl, hnm⟩) (w_224 hw) (ty := (.array (.object "java/lang/Object"))) (by decide) rfl rfl (g := (mkF m 6 #[.val (.ref ux), .val (.ref uc), .val (.int (0 : Int32))] [(.ref uc), (.ref ux)])) rfl rfl (hb hby d_j45_1_6)
  refine own_go st233 ?_
  have F233 := F0.same W233
  have Z233 : n0 ≤ h233.size := (Nat.le_trans Z0 (Nat.le_of_eq W233.size.symm))
  have N233 := Fr.snoc X233 N232 q0
  have K233 : Keep h0 h233 [ux] := (Keep.refl h0 [ux]).wr W233 (Or.inl (List.mem_of_getElem? (i := 0) rfl))
  show own_Go _ _ _ _ (T233.setTop (mkF m 9 #[.val (.ref ux), .val (.ref uc), .val (.int (0 : Int32))] []))
  refine own_go (fun t k => XS.aloadN X233.here hx rfl (hb hby d_j45_1_9) rfl rfl k) ?_
  show own_Go _ _ _ _ (T233.setTop (mkF m 10 #[.val (.ref ux), .val (.ref uc), .val (.int (0 : Int32))] [(.ref ux)]))
  refine own_go (fun t k => XS.iloadN X233.here hx rfl (hb hby d_j45_1_10) rfl k) ?_
  show own_Go _ _ _ _ (T233.setTop (mkF m 11 #[.val (.ref ux), .val (.ref uc), .val (.int (0 : Int32))] [(.int (0 : Int32)), (.ref ux)]))
  have f234 := (F1.other W233 (Or.inr (slot_ne (Or.inr (w_234 hw)) (Or.inr (w_121 hw)) (by decide) (t := .boolean) (t' := (.array (.object "java/lang/Object"))) (by decide) (by decide))))
  obtain ⟨T235, h235, X235, e235, W235, st235⟩ := putFN X233 hx hZ hown (w_233 hw) Via.refl e233 f234 (E0.wr W233) (Or.inr ⟨(w_234 hw), rfl, hnm⟩) (w_224 hw) (ty := .boolean) (v' := (.int (0 : Int32))) (by decide) rfl rfl (g := (mkF m 11 #[.val (.ref ux), .val (.ref uc), .val (.int (0 : Int32))] [(.int (0 : Int32)), (.ref ux)])) rfl rfl (hb hby d_j45_1_11)
  refine own_go st235 ?_
  have F235 := f234.same W235
  have Z235 : n0 ≤ h235.size := (Nat.le_trans Z233 (Nat.le_of_eq W235.size.symm))
  have N235 := Fr.snoc X235 N233 q0
  have K235 : Keep h0 h235 [ux] := K233.wr W235 (Or.inl (List.mem_of_getElem? (i := 0) rfl))
  have f236 := (F233.other W235 (Or.inr (slot_ne (Or.inr (w_121 hw)) (Or.inr (w_234 hw)) (by decide) (t := (.array (.object "java/lang/Object"))) (t' := .boolean) (by decide) (by decide))))
  show own_Go _ _ _ _ (T235.setTop (mkF m 14 #[.val (.ref ux), .val (.ref uc), .val (.int (0 : Int32))] []))
  refine own_retV X235 hx hlk hret (hb hby d_j45_1_14) ?_ (by decide) (by decide)
  rw [e235]
  exact ⟨rfl, N235, K235, f236⟩
def Q_lfa (Z : State) (uc : Addr) (kc : ClassId) (ue : Addr) (ude : Addr) (kde : ClassId) (uel : Addr) (uem : Addr) (kem : ClassId) (uemp : Addr) (urec : Addr) (umi : Addr) (h0 : Heap) (n0 : Nat) (v : Option Value) (h : Heap) (L : List Loc) : Prop := ∃ ux : Addr, v = some (.ref ux) ∧ Fr n0 L ∧ Keep h0 h [] ∧ h0.size ≤ ux ∧ n0 ≤ ux ∧ ∃ (uy : Addr) (ky : ClassId), n0 ≤ uy ∧ h0.size ≤ uy ∧ Exa Z h ux "java/util/ImmutableCollections$ListN" ∧ Fld Z h ux "java/util/ImmutableCollections$ListN" "elements" "[Ljava/lang/Object;" (.ref uy) ∧ Arv Z h uy ky (.object "java/lang/Object") (3 : Int32) [(.ref ue), (.ref ue), (.ref ue)] .null
theorem ef_lfa (m : MethodId) (uc : Addr) : entryFrame m #[(.ref uc)] 3 = mkF m 0 #[.val (.ref uc), .unset, .unset] [] := by first | (simp [entryFrame, mkF, argsToLocals, Value.category]; done) | rfl
theorem pn_10 : plainName "java/util/ImmutableCollections" = true := by first | (simp [plainName, overriddenIn]; done) | decide +kernel
theorem d_j56_4_0 : decode jdk_56_method_4_code 0 = .ok (.aload_n 0, 1) := by decide +kernel
theorem d_j56_4_1 : decode jdk_56_method_4_code 1 = .ok (.arraylength, 1) := by decide +kernel
theorem w_222 {Z : State} {a0 : Array Value} (hw : ∀ d ∈ tables_1, d.before a0 Z = true) : (Jvm.Cond.classLink "java/util/ImmutableCollections" (2 : Nat) "java/lang/Object").before a0 Z = true := hw _ (List.mem_of_getElem? (i := 222) rfl)
theorem d_j56_4_2 : decode jdk_56_method_4_code 2 = .ok (.anewarray 2, 3) := by decide +kernel
theorem d_j56_4_5 : decode jdk_56_method_4_code 5 = .ok (.astore_n 1, 1) := by decide +kernel
theorem d_j56_4_6 : decode jdk_56_method_4_code 6 = .ok (.iconst 0, 1) := by decide +kernel
theorem d_j56_4_7 : decode jdk_56_method_4_code 7 = .ok (.istore_n 2, 1) := by decide +kernel
theorem d_j56_4_8 : decode jdk_56_method_4_code 8 = .ok (.iload_n 2, 1) := by decide +kernel
theorem d_j56_4_9 : decode jdk_56_method_4_code 9 = .ok (.aload_n 0, 1) := by decide +kernel
theorem d_j56_4_10 : decode jdk_56_method_4_code 10 = .ok (.arraylength, 1) := by decide +kernel
theorem d_j56_4_11 : decode jdk_56_method_4_code 11 = .ok (.if_icmp .ge 18, 3) := by decide +kernel
theorem d_j56_4_14 : decode jdk_56_method_4_code 14 = .ok (.aload_n 1, 1) := by decide +kernel
theorem d_j56_4_15 : decode jdk_56_method_4_code 15 = .ok (.iload_n 2, 1) := by decide +kernel
theorem d_j56_4_16 : decode jdk_56_method_4_code 16 = .ok (.aload_n 0, 1) := by decide +kernel
theorem d_j56_4_17 : decode jdk_56_method_4_code 17 = .ok (.iload_n 2, 1) := by decide +kernel
theorem d_j56_4_18 : decode jdk_56_method_4_code 18 = .ok (.aaload, 1) := by decide +kernel
theorem w_223 {Z : State} {a0 : Array Value} (hw : ∀ d ∈ tables_1, d.before a0 Z = true) : (Jvm.Cond.methodLink "java/util/ImmutableCollections" (37 : Nat) ({ cls := "java/util/Objects", name := "requireNonNull", desc := "(Ljava/lang/Object;)Ljava/lang/Object;" } : Jvm.MethodName)).before a0 Z = true := hw _ (List.mem_of_getElem? (i := 223) rfl)
theorem d_j56_4_19 : decode jdk_56_method_4_code 19 = .ok (.invokestatic 37, 3) := by decide +kernel
theorem d_j56_4_22 : decode jdk_56_method_4_code 22 = .ok (.aastore, 1) := by decide +kernel
theorem d_j56_4_23 : decode jdk_56_method_4_code 23 = .ok (.iinc 2 1, 3) := by decide +kernel
theorem d_j56_4_26 : decode jdk_56_method_4_code 26 = .ok (.goto (-18), 3) := by decide +kernel
theorem w_51 {Z : State} {a0 : Array Value} (hw : ∀ d ∈ tables_1, d.before a0 Z = true) : (Jvm.Cond.classLink "java/util/ImmutableCollections" (12 : Nat) "java/util/ImmutableCollections$ListN").before a0 Z = true := hw _ (List.mem_of_getElem? (i := 51) rfl)
theorem w_118 {Z : State} {a0 : Array Value} (hw : ∀ d ∈ tables_1, d.before a0 Z = true) : (Jvm.Cond.initialized "java/util/ImmutableCollections$ListN").before a0 Z = true := hw _ (List.mem_of_getElem? (i := 118) rfl)
theorem d_j56_4_29 : decode jdk_56_method_4_code 29 = .ok (.new 12, 3) := by decide +kernel
theorem d_j56_4_32 : decode jdk_56_method_4_code 32 = .ok (.dup, 1) := by decide +kernel
theorem d_j56_4_33 : decode jdk_56_method_4_code 33 = .ok (.aload_n 1, 1) := by decide +kernel
theorem d_j56_4_34 : decode jdk_56_method_4_code 34 = .ok (.iconst 0, 1) := by decide +kernel
theorem w_225 {Z : State} {a0 : Array Value} (hw : ∀ d ∈ tables_1, d.before a0 Z = true) : (Jvm.Cond.methodLinkNest "java/util/ImmutableCollections" (43 : Nat) ({ cls := "java/util/ImmutableCollections$ListN", name := "<init>", desc := "([Ljava/lang/Object;Z)V" } : Jvm.MethodName) "java/util/ImmutableCollections").before a0 Z = true := hw _ (List.mem_of_getElem? (i := 225) rfl)
theorem w_228 {Z : State} {a0 : Array Value} (hw : ∀ d ∈ tables_1, d.before a0 Z = true) : (Jvm.Cond.code ({ cls := "java/util/ImmutableCollections$ListN", name := "<init>", desc := "([Ljava/lang/Object;Z)V" } : Jvm.MethodName) jdk_45_method_1_code (3 : Nat) (Option.none : Option Jvm.ClassFile.FieldType)).before a0 Z = true := hw _ (List.mem_of_getElem? (i := 228) rfl)
theorem pd_8 : parseMethodDescriptor "([Ljava/lang/Object;Z)V" = some ⟨[(.array (.object "java/lang/Object")), .boolean], none⟩ := by decide +kernel
theorem d_j56_4_35 : decode jdk_56_method_4_code 35 = .ok (.invokespecial 43, 3) := by decide +kernel
theorem w_226 {Z : State} {a0 : Array Value} (hw : ∀ d ∈ tables_1, d.before a0 Z = true) : (Jvm.Cond.instanceMethod ({ cls := "java/util/ImmutableCollections$ListN", name := "<init>", desc := "([Ljava/lang/Object;Z)V" } : Jvm.MethodName)).before a0 Z = true := hw _ (List.mem_of_getElem? (i := 226) rfl)
theorem d_j56_4_38 : decode jdk_56_method_4_code 38 = .ok (.areturn, 1) := by decide +kernel
set_option maxRecDepth 65536 in
set_option maxHeartbeats 40000000 in
theorem rm_lfa (l : Launch) (Z : State) (a0 : Array Value) (hw : ∀ d ∈ tables_1, d.before a0 Z = true) (ws : List Jvm.Cond) (uc : Addr) (kc : ClassId) (ue ude : Addr) (kde : ClassId) (uel uem : Addr) (kem : ClassId) (uemp urec umi : Addr) (h0 : Heap) (n0 : Nat) (Z0 : n0 ≤ h0.size) (A0 : Arv Z h0 uc kc (.object "java/lang/Object") (3 : Int32) [(.ref ue), (.ref ue), (.ref ue)] .null) (O0 : Old Z n0 h0) (hF : own_Fac Z ue ude kde uel uem kem uemp urec umi) :
    own_Met l Z (⟨"java/util/ImmutableCollections", "listFromArray", "([Ljava/lang/Object;)Ljava/util/List;"⟩ : MethodName) jdk_56_method_4_code 3 (some (.object "java/util/List")) ws ({ frames := 5, cells := 2, slots := 5, locals := 63 } : Room) #[(.ref uc)] h0 (Q_lfa Z uc kc ue ude kde uel uem kem uemp urec umi h0 n0) := by
  refine own_enter (own := "java/util/ImmutableCollections") (plainFor_of_name pn_10) rfl ?_
  intro p e s m below meth c s₁ hlk hret hx hby hml hown hnm hZ X0 e0
  have N0 := Fr.nil n0
  refine own_cast (ef_lfa m uc) ?_
  obtain ⟨Se, Ee, Sd, Ad, Sl, El, Fl, Am, Sm, Em, Sr, Er, Fr1, Fr0, Mi⟩ := id hF
  show own_Go _ _ _ _ (s₁.setTop (mkF m 0 #[.val (.ref uc), .unset, .unset] []))
  refine own_go (fun t k => XS.aloadN X0.here hx rfl (hb hby d_j56_4_0) rfl rfl k) ?_
  show own_Go _ _ _ _ (s₁.setTop (mkF m 1 #[.val (.ref uc), .unset, .unset] [(.ref uc)]))
  obtain ⟨cl237, Ar237, qk237, sz237, nn237, ha237, gf237⟩ := id A0
  refine own_go (X0.arraylength hx (by rw [e0]; exact Ar237.1) (State.isArrayOf_alike hZ.alike Ar237.2.1) (g := (mkF m 1 #[.val (.ref uc), .unset, .unset] [(.ref uc)])) rfl rfl (hb hby d_j56_4_1)) ?_
  rw [len_of sz237 nn237]
  show own_Go _ _ _ _ (s₁.setTop (mkF m 2 #[.val (.ref uc), .unset, .unset] [(.int (3 : Int32))]))
  obtain ⟨T238, h238, k238, X238, e238, E238, A238, B238, O238, st238⟩ := newRE X0 hx hZ hown (w_222 hw) (w_103 hw) e0 (g := (mkF m 2 #[.val (.ref uc), .unset, .unset] [(.int (3 : Int32))])) rfl (hb hby d_j56_4_2) rfl (by decide) (cap := 3) (by decide) (by decide) (by decide) (by decide) (ad := "[Ljava/lang/Object;") (by decide +kernel)
  obtain ⟨b238, g238⟩ : ∃ z, z = h0.size := ⟨_, rfl⟩
  rw [← g238] at A238 B238 st238
  refine own_go st238 ?_
  have Z238 : n0 ≤ h238.size := (Nat.le_trans Z0 E238.1)
  have K238 : Keep h0 h238 [] := (Keep.refl h0 []).ext E238
  have lo238 : h0.size ≤ b238 := Nat.le_of_eq g238.symm
  have q238 : n0 ≤ b238 := Nat.le_trans Z0 lo238
  have hi238 : b238 < h238.size := A238.lt
  have V238 : Arv Z h238 b238 k238 (.object "java/lang/Object") (3 : Int32) [.null, .null, .null] .null := (Arv.new A238 (by decide)).pad (pad_rep [] .null 3)
  show own_Go _ _ _ _ (T238.setTop (mkF m 5 #[.val (.ref uc), .unset, .unset] [(.ref b238)]))
  refine own_go (fun t k => XS.astoreN X238.here hx rfl (hb hby d_j56_4_5) rfl rfl (l' := #[.val (.ref uc), .val (.ref b238), .unset]) rfl k) ?_
  show own_Go _ _ _ _ (T238.setTop (mkF m 6 #[.val (.ref uc), .val (.ref b238), .unset] []))
  refine own_go (fun t k => XS.iconst X238.here hx rfl (hb hby d_j56_4_6) k) ?_
  show own_Go _ _ _ _ (T238.setTop (mkF m 7 #[.val (.ref uc), .val (.ref b238), .unset] [(.int (0 : Int32))]))
  refine own_go (fun t k => XS.istoreN X238.here hx rfl (hb hby d_j56_4_7) rfl (l' := #[.val (.ref uc), .val (.ref b238), .val (.int (0 : Int32))]) rfl k) ?_
  show own_Go _ _ _ _ (T238.setTop (mkF m 8 #[.val (.ref uc), .val (.ref b238), .val (.int (0 : Int32))] []))
  refine own_go (fun t k => XS.iloadN X238.here hx rfl (hb hby d_j56_4_8) rfl k) ?_
  show own_Go _ _ _ _ (T238.setTop (mkF m 9 #[.val (.ref uc), .val (.ref b238), .val (.int (0 : Int32))] [(.int (0 : Int32))]))
  refine own_go (fun t k => XS.aloadN X238.here hx rfl (hb hby d_j56_4_9) rfl rfl k) ?_
  show own_Go _ _ _ _ (T238.setTop (mkF m 10 #[.val (.ref uc), .val (.ref b238), .val (.int (0 : Int32))] [(.ref uc), (.int (0 : Int32))]))
  obtain ⟨cl239, Ar239, qk239, sz239, nn239, ha239, gf239⟩ := id (A0.ext E238)
  refine own_go (X238.arraylength hx (by rw [e238]; exact Ar239.1) (State.isArrayOf_alike hZ.alike Ar239.2.1) (g := (mkF m 10 #[.val (.ref uc), .val (.ref b238), .val (.int (0 : Int32))] [(.ref uc), (.int (0 : Int32))])) rfl rfl (hb hby d_j56_4_10)) ?_
  rw [len_of sz239 nn239]
  show own_Go _ _ _ _ (T238.setTop (mkF m 11 #[.val (.ref uc), .val (.ref b238), .val (.int (0 : Int32))] [(.int (3 : Int32)), (.int (0 : Int32))]))
  refine own_go (fun t k => XS.icmpNo X238.here hx rfl (hb hby d_j56_4_11) rfl (tlt (by decide : (0 : Int32) < (3 : Int32))).2.1 k) ?_
  show own_Go _ _ _ _ (T238.setTop (mkF m 14 #[.val (.ref uc), .val (.ref b238), .val (.int (0 : Int32))] []))
  refine own_go (fun t k => XS.aloadN X238.here hx rfl (hb hby d_j56_4_14) rfl rfl k) ?_
  show own_Go _ _ _ _ (T238.setTop (mkF m 15 #[.val (.ref uc), .val (.ref b238), .val (.int (0 : Int32))] [(.ref b238)]))
  refine own_go (fun t k => XS.iloadN X238.here hx rfl (hb hby d_j56_4_15) rfl k) ?_
  show own_Go _ _ _ _ (T238.setTop (mkF m 16 #[.val (.ref uc), .val (.ref b238), .val (.int (0 : Int32))] [(.int (0 : Int32)), (.ref b238)]))
  refine own_go (fun t k => XS.aloadN X238.here hx rfl (hb hby d_j56_4_16) rfl rfl k) ?_
  show own_Go _ _ _ _ (T238.setTop (mkF m 17 #[.val (.ref uc), .val (.ref b238), .val (.int (0 : Int32))] [(.ref uc), (.int (0 : Int32)), (.ref b238)]))
  refine own_go (fun t k => XS.iloadN X238.here hx rfl (hb hby d_j56_4_17) rfl k) ?_
  show own_Go _ _ _ _ (T238.setTop (mkF m 18 #[.val (.ref uc), .val (.ref b238), .val (.int (0 : Int32))] [(.int (0 : Int32)), (.ref uc), (.int (0 : Int32)), (.ref b238)]))
  obtain ⟨cl240, Ar240, qk240, sz240, nn240, ha240, gf240⟩ := id (A0.ext E238)
  have hin240 : ¬ ((0 : Int32) < 0 ∨ cl240.slots.size ≤ ((0 : Int32)).toNatClampNeg) := inb_of sz240 ⟨by decide, by decide⟩
  have hat240 : cl240.slots[((0 : Int32)).toNatClampNeg]? = some (.ref ue) := ha240.at hin240 rfl
  refine own_go (X238.aaload hx (j := (0 : Int32)) (v := (.ref ue)) (by rw [e238]; exact Ar240.1) (State.isArrayOf_alike hZ.alike Ar240.2.1) rfl Ar240.2.2 hin240 hat240 (g := (mkF m 18 #[.val (.ref uc), .val (.ref b238), .val (.int (0 : Int32))] [(.int (0 : Int32)), (.ref uc), (.int (0 : Int32)), (.ref b238)])) rfl rfl (hb hby d_j56_4_18)) ?_
  show own_Go _ _ _ _ (T238.setTop (mkF m 19 #[.val (.ref uc), .val (.ref b238), .val (.int (0 : Int32))] [(.ref ue), (.int (0 : Int32)), (.ref b238)]))
  obtain ⟨_, _, ⟨T241, L241, k241, n241⟩, -, X241, ⟨Lc241, hQ241, l241, y241, z241⟩, st241⟩ := Jvm.LawKit.callS X238 hx (y := (⟨"java/util/Objects", "requireNonNull", "(Ljava/lang/Object;)Ljava/lang/Object;"⟩ : MethodName)) hown (mvT hZ (w_223 hw)) (mvT hZ (w_211 hw)) (mvT hZ (w_212 hw)) (mvT hZ (w_213 hw)) (by decide) (backOf (W := 2) (rm_rnn l Z a0 hw [] ue h238 n0 Z238 ) hZ (w_213 hw) (w_212 hw) (by decide) (by decide)) (g := (mkF m 19 #[.val (.ref uc), .val (.ref b238), .val (.int (0 : Int32))] [(.ref ue), (.int (0 : Int32)), (.ref b238)])) rfl (by rw [hml]; rfl) (argsL := [(.ref ue)]) (rest := [(.int (0 : Int32)), (.ref b238)]) (lenOf pd_7 rfl) rfl (by show 2 * 0 + _ ≤ _; exact Nat.le_of_eq rfl) (hb hby d_j56_4_19) (fun _ _ => ⟨rfl, e238, (by decide : 1 + 0 ≤ _), (by decide : 3 + 0 ≤ _)⟩)
  dsimp only [Pt.U, Pt.locs, Pt.cells, Pt.slots] at X241 l241 y241 z241 st241 hQ241
  subst l241 y241 z241
  obtain ⟨rfl, N241q, e241⟩ := hQ241
  have N241 := Fr.app N0 N241q
  refine own_go st241 ?_
  show own_Go _ _ _ _ (T241.setTop (mkF m 22 #[.val (.ref uc), .val (.ref b238), .val (.int (0 : Int32))] [(.ref ue), (.int (0 : Int32)), (.ref b238)]))
  obtain ⟨cl242, Ar242, qk242, sz242, nn242, ha242, gf242⟩ := id V238
  have hin242 : ¬ ((0 : Int32) < 0 ∨ cl242.slots.size ≤ ((0 : Int32)).toNatClampNeg) := inb_of sz242 ⟨by decide, by decide⟩
  obtain ⟨T243, h243, X243, e243, W243, st243⟩ := stR X241 hx hZ e241 Ar242 (j := (0 : Int32)) hin242 rfl (Sto.ofV Ar242 qk242 O238 (Ins.of_exa (Ee.ext (O0.ext E238).2) (w_104 hw))) (g := (mkF m 22 #[.val (.ref uc), .val (.ref b238), .val (.int (0 : Int32))] [(.ref ue), (.int (0 : Int32)), (.ref b238)])) rfl rfl (hb hby d_j56_4_22)
  refine own_go st243 ?_
  have V243 : Arv Z h243 b238 k238 (.object "java/lang/Object") (3 : Int32) [(.ref ue), .null, .null] .null := Arv.set Ar242 qk242 sz242 nn242 ha242 gf242 rfl W243 0 rfl (Nat.le_of_ble_eq_true rfl)
  have Z243 : n0 ≤ h243.size := (Nat.le_trans Z238 (Nat.le_of_eq W243.size.symm))
  have N243 := Fr.snoc X243 N241 q238
  have K243 : Keep h0 h243 [] := K238.wr W243 (Or.inr lo238)
  show own_Go _ _ _ _ (T243.setTop (mkF m 23 #[.val (.ref uc), .val (.ref b238), .val (.int (0 : Int32))] []))
  refine own_go (fun t k => XS.iinc X243.here hx rfl (hb hby d_j56_4_23) rfl (l' := #[.val (.ref uc), .val (.ref b238), .val (.int ((0 : Int32) + (1 : Int32)))]) rfl k) ?_
  show own_Go _ _ _ _ (T243.setTop (mkF m 26 #[.val (.ref uc), .val (.ref b238), .val (.int (1 : Int32))] []))
  refine own_go (fun t k => XS.goto X243.here hx rfl (pc0 := 26) (pc' := 8) rfl (hb hby d_j56_4_26) (by decide) (by decide) k) ?_
  show own_Go _ _ _ _ (T243.setTop (mkF m 8 #[.val (.ref uc), .val (.ref b238), .val (.int (1 : Int32))] []))
  refine own_go (fun t k => XS.iloadN X243.here hx rfl (hb hby d_j56_4_8) rfl k) ?_
  show own_Go _ _ _ _ (T243.setTop (mkF m 9 #[.val (.ref uc), .val (.ref b238), .val (.int (1 : Int32))] [(.int (1 : Int32))]))
  refine own_go (fun t k => XS.aloadN X243.here hx rfl (hb hby d_j56_4_9) rfl rfl k) ?_
  show own_Go _ _ _ _ (T243.setTop (mkF m 10 #[.val (.ref uc), .val (.ref b238), .val (.int (1 : Int32))] [(.ref uc), (.int (1 : Int32))]))
  have f244 := ((A0.ext E238).other W243 (Nat.ne_of_lt (Nat.lt_of_lt_of_le A0.lt lo238)))
  obtain ⟨cl245, Ar245, qk245, sz245, nn245, ha245, gf245⟩ := id f244
  refine own_go (X243.arraylength hx (by rw [e243]; exact Ar245.1) (State.isArrayOf_alike hZ.alike Ar245.2.1) (g := (mkF m 10 #[.val (.ref uc), .val (.ref b238), .val (.int (1 : Int32))] [(.ref uc), (.int (1 : Int32))])) rfl rfl (hb hby d_j56_4_10)) ?_
  rw [len_of sz245 nn245]
  show own_Go _ _ _ _ (T243.setTop (mkF m 11 #[.val (.ref uc), .val (.ref b238), .val (.int (1 : Int32))] [(.int (3 : Int32)), (.int (1 : Int32))]))
  refine own_go (fun t k => XS.icmpNo X243.here hx rfl (hb hby d_j56_4_11) rfl (tlt (by decide : (1 : Int32) < (3 : Int32))).2.1 k) ?_
  show own_Go _ _ _ _ (T243.setTop (mkF m 14 #[.val (.ref uc), .val (.ref b238), .val (.int (1 : Int32))] []))
  refine own_go (fun t k => XS.aloadN X243.here hx rfl (hb hby d_j56_4_14) rfl rfl k) ?_
  show own_Go _ _ _ _ (T243.setTop (mkF m 15 #[.val (.ref uc), .val (.ref b238), .val (.int (1 : Int32))] [(.ref b238)]))
  refine own_go (fun t k => XS.iloadN X243.here hx rfl (hb hby d_j56_4_15) rfl k) ?_
  show own_Go _ _ _ _ (T243.setTop (mkF m 16 #[.val (.ref uc), .val (.ref b238), .val (.int (1 : Int32))] [(.int (1 : Int32)), (.ref b238)]))
  refine own_go (fun t k => XS.aloadN X243.here hx rfl (hb hby d_j56_4_16) rfl rfl k) ?_
  show own_Go _ _ _ _ (T243.setTop (mkF m 17 #[.val (.ref uc), .val (.ref b238), .val (.int (1 : Int32))] [(.ref uc), (.int (1 : Int32)), (.ref b238)]))
  refine own_go (fun t k => XS.iloadN X243.here hx rfl (hb hby d_j56_4_17) rfl k) ?_
  show own_Go _ _ _ _ (T243.setTop (mkF m 18 #[.val (.ref uc), .val (.ref b238), .val (.int (1 : Int32))] [(.int (1 : Int32)), (.ref uc), (.int (1 : Int32)), (.ref b238)]))
  obtain ⟨cl246, Ar246, qk246, sz246, nn246, ha246, gf246⟩ := id f244
  have hin246 : ¬ ((1 : Int32) < 0 ∨ cl246.slots.size ≤ ((1 : Int32)).toNatClampNeg) := inb_of sz246 ⟨by decide, by decide⟩
  have hat246 : cl246.slots[((1 : Int32)).toNatClampNeg]? = some (.ref ue) := ha246.at hin246 rfl
  refine own_go (X243.aaload hx (j := (1 : Int32)) (v := (.ref ue)) (by rw [e243]; exact Ar246.1) (State.isArrayOf_alike hZ.alike Ar246.2.1) rfl Ar246.2.2 hin246 hat246 (g := (mkF m 18 #[.val (.ref uc), .val (.ref b238), .val (.int (1 : Int32))] [(.int (1 : Int32)), (.ref uc), (.int (1 : Int32)), (.ref b238)])) rfl rfl (hb hby d_j56_4_18)) ?_
  show own_Go _ _ _ _ (T243.setTop (mkF m 19 #[.val (.ref uc), .val (.ref b238), .val (.int (1 : Int32))] [(.ref ue), (.int (1 : Int32)), (.ref b238)]))
  obtain ⟨_, _, ⟨T247, L247, k247, n247⟩, -, X247, ⟨Lc247, hQ247, l247, y247, z247⟩, st247⟩ := Jvm.LawKit.callS X243 hx (y := (⟨"java/util/Objects", "requireNonNull", "(Ljava/lang/Object;)Ljava/lang/Object;"⟩ : MethodName)) hown (mvT hZ (w_223 hw)) (mvT hZ (w_211 hw)) (mvT hZ (w_212 hw)) (mvT hZ (w_213 hw)) (by decide) (backOf (W := 2) (rm_rnn l Z a0 hw [] ue h243 n0 Z243 ) hZ (w_213 hw) (w_212 hw) (by decide) (by decide)) (g := (mkF m 19 #[.val (.ref uc), .val (.ref b238), .val (.int (1 : Int32))] [(.ref ue), (.int (1 : Int32)), (.ref b238)])) rfl (by rw [hml]; rfl) (argsL := [(.ref ue)]) (rest := [(.int (1 : Int32)), (.ref b238)]) (lenOf pd_7 rfl) rfl (by show 2 * 0 + _ ≤ _; exact Nat.le_of_eq rfl) (hb hby d_j56_4_19) (fun _ _ => ⟨rfl, e243, (by decide : 1 + 0 ≤ _), (by decide : 3 + 0 ≤ _)⟩)
  dsimp only [Pt.U, Pt.locs, Pt.cells, Pt.slots] at X247 l247 y247 z247 st247 hQ247
  subst l247 y247 z247
  obtain ⟨rfl, N247q, e247⟩ := hQ247
  have N247 := Fr.app N243 N247q
  refine own_go st247 ?_
  show own_Go _ _ _ _ (T247.setTop (mkF m 22 #[.val (.ref uc), .val (.ref b238), .val (.int (1 : Int32))] [(.ref ue), (.int (1 : Int32)), (.ref b238)]))
  obtain ⟨cl248, Ar248, qk248, sz248, nn248, ha248, gf248⟩ := id V243
  have hin248 : ¬ ((1 : Int32) < 0 ∨ cl248.slots.size ≤ ((1 : Int32)).toNatClampNeg) := inb_of sz248 ⟨by decide, by decide⟩
  obtain ⟨T249, h249, X249, e249, W249, st249⟩ := stR X247 hx hZ e247 Ar248 (j := (1 : Int32)) hin248 rfl (Sto.ofV Ar248 qk248 O238 (Ins.of_exa (Ee.ext ((O0.ext E238).wr W243 q238).2) (w_104 hw))) (g := (mkF m 22 #[.val (.ref uc), .val (.ref b238), .val (.int (1 : Int32))] [(.ref ue), (.int (1 : Int32)), (.ref b238)])) rfl rfl (hb hby d_j56_4_22)
  refine own_go st249 ?_
  have V249 : Arv Z h249 b238 k238 (.object "java/lang/Object") (3 : Int32) [(.ref ue), (.ref ue), .null] .null := Arv.set Ar248 qk248 sz248 nn248 ha248 gf248 rfl W249 1 rfl (Nat.le_of_ble_eq_true rfl)
  have Z249 : n0 ≤ h249.size := (Nat.le_trans Z243 (Nat.le_of_eq W249.size.symm))
  have N249 := Fr.snoc X249 N247 q238
  have K249 : Keep h0 h249 [] := K243.wr W249 (Or.inr lo238)
  show own_Go _ _ _ _ (T249.setTop (mkF m 23 #[.val (.ref uc), .val (.ref b238), .val (.int (1 : Int32))] []))
  refine own_go (fun t k => XS.iinc X249.here hx rfl (hb hby d_j56_4_23) rfl (l' := #[.val (.ref uc), .val (.ref b238), .val (.int ((1 : Int32) + (1 : Int32)))]) rfl k) ?_
  show own_Go _ _ _ _ (T249.setTop (mkF m 26 #[.val (.ref uc), .val (.ref b238), .val (.int (2 : Int32))] []))
  refine own_go (fun t k => XS.goto X249.here hx rfl (pc0 := 26) (pc' := 8) rfl (hb hby d_j56_4_26) (by decide) (by decide) k) ?_
  show own_Go _ _ _ _ (T249.setTop (mkF m 8 #[.val (.ref uc), .val (.ref b238), .val (.int (2 : Int32))] []))
  refine own_go (fun t k => XS.iloadN X249.here hx rfl (hb hby d_j56_4_8) rfl k) ?_
  show own_Go _ _ _ _ (T249.setTop (mkF m 9 #[.val (.ref uc), .val (.ref b238), .val (.int (2 : Int32))] [(.int (2 : Int32))]))
  refine own_go (fun t k => XS.aloadN X249.here hx rfl (hb hby d_j56_4_9) rfl rfl k) ?_
  show own_Go _ _ _ _ (T249.setTop (mkF m 10 #[.val (.ref uc), .val (.ref b238), .val (.int (2 : Int32))] [(.ref uc), (.int (2 : Int32))]))
  have f250 := (f244.other W249 (Nat.ne_of_lt (Nat.lt_of_lt_of_le A0.lt lo238)))
  obtain ⟨cl251, Ar251, qk251, sz251, nn251, ha251, gf251⟩ := id f250
  refine own_go (X249.arraylength hx (by rw [e249]; exact Ar251.1) (State.isArrayOf_alike hZ.alike Ar251.2.1) (g := (mkF m 10 #[.val (.ref uc), .val (.ref b238), .val (.int (2 : Int32))] [(.ref uc), (.int (2 : Int32))])) rfl rfl (hb hby d_j56_4_10)) ?_
  rw [len_of sz251 nn251]
  show own_Go _ _ _ _ (T249.setTop (mkF m 11 #[.val (.ref uc), .val (.ref b238), .val (.int (2 : Int32))] [(.int (3 : Int32)), (.int (2 : Int32))]))
  refine own_go (fun t k => XS.icmpNo X249.here hx rfl (hb hby d_j56_4_11) rfl (tlt (by decide : (2 : Int32) < (3 : Int32))).2.1 k) ?_
  show own_Go _ _ _ _ (T249.setTop (mkF m 14 #[.val (.ref uc), .val (.ref b238), .val (.int (2 : Int32))] []))
  refine own_go (fun t k => XS.aloadN X249.here hx rfl (hb hby d_j56_4_14) rfl rfl k) ?_
  show own_Go _ _ _ _ (T249.setTop (mkF m 15 #[.val (.ref uc), .val (.ref b238), .val (.int (2 : Int32))] [(.ref b238)]))
  refine own_go (fun t k => XS.iloadN X249.here hx rfl (hb hby d_j56_4_15) rfl k) ?_
  show own_Go _ _ _ _ (T249.setTop (mkF m 16 #[.val (.ref uc), .val (.ref b238), .val (.int (2 : Int32))] [(.int (2 : Int32)), (.ref b238)]))
  refine own_go (fun t k => XS.aloadN X249.here hx rfl (hb hby d_j56_4_16) rfl rfl k) ?_
  show own_Go _ _ _ _ (T249.setTop (mkF m 17 #[.val (.ref uc), .val (.ref b238), .val (.int (2 : Int32))] [(.ref uc), (.int (2 : Int32)), (.ref b238)]))
  refine own_go (fun t k => XS.iloadN X249.here hx rfl (hb hby d_j56_4_17) rfl k) ?_
  show own_Go _ _ _ _ (T249.setTop (mkF m 18 #[.val (.ref uc), .val (.ref b238), .val (.int (2 : Int32))] [(.int (2 : Int32)), (.ref uc), (.int (2 : Int32)), (.ref b238)]))
  obtain ⟨cl252, Ar252, qk252, sz252, nn252, ha252, gf252⟩ := id f250
  have hin252 : ¬ ((2 : Int32) < 0 ∨ cl252.slots.size ≤ ((2 : Int32)).toNatClampNeg) := inb_of sz252 ⟨by decide, by decide⟩
  have hat252 : cl252.slots[((2 : Int32)).toNatClampNeg]? = some (.ref ue) := ha252.at hin252 rfl
  refine own_go (X249.aaload hx (j := (2 : Int32)) (v := (.ref ue)) (by rw [e249]; exact Ar252.1) (State.isArrayOf_alike hZ.alike Ar252.2.1) rfl Ar252.2.2 hin252 hat252 (g := (mkF m 18 #[.val (.ref uc), .val (.ref b238), .val (.int (2 : Int32))] [(.int (2 : Int32)), (.ref uc), (.int (2 : Int32)), (.ref b238)])) rfl rfl (hb hby d_j56_4_18)) ?_
  show own_Go _ _ _ _ (T249.setTop (mkF m 19 #[.val (.ref uc), .val (.ref b238), .val (.int (2 : Int32))] [(.ref ue), (.int (2 : Int32)), (.ref b238)]))
  obtain ⟨_, _, ⟨T253, L253, k253, n253⟩, -, X253, ⟨Lc253, hQ253, l253, y253, z253⟩, st253⟩ := Jvm.LawKit.callS X249 hx (y := (⟨"java/util/Objects", "requireNonNull", "(Ljava/lang/Object;)Ljava/lang/Object;"⟩ : MethodName)) hown (mvT hZ (w_223 hw)) (mvT hZ (w_211 hw)) (mvT hZ (w_212 hw)) (mvT hZ (w_213 hw)) (by decide) (backOf (W := 2) (rm_rnn l Z a0 hw [] ue h249 n0 Z249 ) hZ (w_213 hw) (w_212 hw) (by decide) (by decide)) (g := (mkF m 19 #[.val (.ref uc), .val (.ref b238), .val (.int (2 : Int32))] [(.ref ue), (.int (2 : Int32)), (.ref b238)])) rfl (by rw [hml]; rfl) (argsL := [(.ref ue)]) (rest := [(.int (2 : Int32)), (.ref b238)]) (lenOf pd_7 rfl) rfl (by show 2 * 0 + _ ≤ _; exact Nat.le_of_eq rfl) (hb hby d_j56_4_19) (fun _ _ => ⟨rfl, e249, (by decide : 1 + 0 ≤ _), (by decide : 3 + 0 ≤ _)⟩)
  dsimp only [Pt.U, Pt.locs, Pt.cells, Pt.slots] at X253 l253 y253 z253 st253 hQ253
  subst l253 y253 z253
  obtain ⟨rfl, N253q, e253⟩ := hQ253
  have N253 := Fr.app N249 N253q
  refine own_go st253 ?_
  show own_Go _ _ _ _ (T253.setTop (mkF m 22 #[.val (.ref uc), .val (.ref b238), .val (.int (2 : Int32))] [(.ref ue), (.int (2 : Int32)), (.ref b238)]))
  obtain ⟨cl254, Ar254, qk254, sz254, nn254, ha254, gf254⟩ := id V249
  have hin254 : ¬ ((2 : Int32) < 0 ∨ cl254.slots.size ≤ ((2 : Int32)).toNatClampNeg) := inb_of sz254 ⟨by decide, by decide⟩
  obtain ⟨T255, h255, X255, e255, W255, st255⟩ := stR X253 hx hZ e253 Ar254 (j := (2 : Int32)) hin254 rfl (Sto.ofV Ar254 qk254 O238 (Ins.of_exa (Ee.ext (((O0.ext E238).wr W243 q238).wr W249 q238).2) (w_104 hw))) (g := (mkF m 22 #[.val (.ref uc), .val (.ref b238), .val (.int (2 : Int32))] [(.ref ue), (.int (2 : Int32)), (.ref b238)])) rfl rfl (hb hby d_j56_4_22)
  refine own_go st255 ?_
  have V255 : Arv Z h255 b238 k238 (.object "java/lang/Object") (3 : Int32) [(.ref ue), (.ref ue), (.ref ue)] .null := Arv.set Ar254 qk254 sz254 nn254 ha254 gf254 rfl W255 2 rfl (Nat.le_of_ble_eq_true rfl)
  have Z255 : n0 ≤ h255.size := (Nat.le_trans Z249 (Nat.le_of_eq W255.size.symm))
  have N255 := Fr.snoc X255 N253 q238
  have K255 : Keep h0 h255 [] := K249.wr W255 (Or.inr lo238)
  show own_Go _ _ _ _ (T255.setTop (mkF m 23 #[.val (.ref uc), .val (.ref b238), .val (.int (2 : Int32))] []))
  refine own_go (fun t k => XS.iinc X255.here hx rfl (hb hby d_j56_4_23) rfl (l' := #[.val (.ref uc), .val (.ref b238), .val (.int ((2 : Int32) + (1 : Int32)))]) rfl k) ?_
  show own_Go _ _ _ _ (T255.setTop (mkF m 26 #[.val (.ref uc), .val (.ref b238), .val (.int (3 : Int32))] []))
  refine own_go (fun t k => XS.goto X255.here hx rfl (pc0 := 26) (pc' := 8) rfl (hb hby d_j56_4_26) (by decide) (by decide) k) ?_
  show own_Go _ _ _ _ (T255.setTop (mkF m 8 #[.val (.ref uc), .val (.ref b238), .val (.int (3 : Int32))] []))
  refine own_go (fun t k => XS.iloadN X255.here hx rfl (hb hby d_j56_4_8) rfl k) ?_
  show own_Go _ _ _ _ (T255.setTop (mkF m 9 #[.val (.ref uc), .val (.ref b238), .val (.int (3 : Int32))] [(.int (3 : Int32))]))
  refine own_go (fun t k => XS.aloadN X255.here hx rfl (hb hby d_j56_4_9) rfl rfl k) ?_
  show own_Go _ _ _ _ (T255.setTop (mkF m 10 #[.val (.ref uc), .val (.ref b238), .val (.int (3 : Int32))] [(.ref uc), (.int (3 : Int32))]))
  have f256 := (f250.other W255 (Nat.ne_of_lt (Nat.lt_of_lt_of_le A0.lt lo238)))
  obtain ⟨cl257, Ar257, qk257, sz257, nn257, ha257, gf257⟩ := id f256
  refine own_go (X255.arraylength hx (by rw [e255]; exact Ar257.1) (State.isArrayOf_alike hZ.alike Ar257.2.1) (g := (mkF m 10 #[.val (.ref uc), .val (.ref b238), .val (.int (3 : Int32))] [(.ref uc), (.int (3 : Int32))])) rfl rfl (hb hby d_j56_4_10)) ?_
  rw [len_of sz257 nn257]
  show own_Go _ _ _ _ (T255.setTop (mkF m 11 #[.val (.ref uc), .val (.ref b238), .val (.int (3 : Int32))] [(.int (3 : Int32)), (.int (3 : Int32))]))
  refine own_go (fun t k => XS.icmpYes X255.here hx rfl (pc0 := 11) (pc' := 29) rfl (hb hby d_j56_4_11) rfl (flt (by decide : ¬ ((3 : Int32) < (3 : Int32)))).2.1 (by decide) (by decide) k) ?_
  show own_Go _ _ _ _ (T255.setTop (mkF m 29 #[.val (.ref uc), .val (.ref b238), .val (.int (3 : Int32))] []))
  obtain ⟨T258, h258, X258, e258, E258, A258, D258, -, st258⟩ := newO X255 hx hZ hown (w_51 hw) (w_224 hw) (w_118 hw) e255 (g := (mkF m 29 #[.val (.ref uc), .val (.ref b238), .val (.int (3 : Int32))] [])) rfl (hb hby d_j56_4_29) (by decide) (by decide)
  obtain ⟨b258, g258⟩ : ∃ z, z = h255.size := ⟨_, rfl⟩
  rw [← g258] at A258 D258 st258
  refine own_go st258 ?_
  have Z258 : n0 ≤ h258.size := (Nat.le_trans Z255 E258.1)
  have K258 : Keep h0 h258 [] := K255.ext E258
  have lo258 : h255.size ≤ b258 := Nat.le_of_eq g258.symm
  have q258 : n0 ≤ b258 := Nat.le_trans Z255 lo258
  have hi258 : b258 < h258.size := A258.lt
  have F258_121 : Fld Z h258 b258 "java/util/ImmutableCollections$ListN" "elements" "[Ljava/lang/Object;" .null := D258 (Or.inr (w_121 hw)) (ty := (.array (.object "java/lang/Object"))) (by decide)
  have F258_234 : Fld Z h258 b258 "java/util/ImmutableCollections$ListN" "allowNulls" "Z" (.int (0 : Int32)) := D258 (Or.inr (w_234 hw)) (ty := .boolean) (by decide)
  show own_Go _ _ _ _ (T258.setTop (mkF m 32 #[.val (.ref uc), .val (.ref b238), .val (.int (3 : Int32))] [(.ref b258)]))
  refine own_go (fun t k => XS.dup X258.here hx rfl (hb hby d_j56_4_32) rfl rfl k) ?_
  show own_Go _ _ _ _ (T258.setTop (mkF m 33 #[.val (.ref uc), .val (.ref b238), .val (.int (3 : Int32))] [(.ref b258), (.ref b258)]))
  refine own_go (fun t k => XS.aloadN X258.here hx rfl (hb hby d_j56_4_33) rfl rfl k) ?_
  show own_Go _ _ _ _ (T258.setTop (mkF m 34 #[.val (.ref uc), .val (.ref b238), .val (.int (3 : Int32))] [(.ref b238), (.ref b258), (.ref b258)]))
  refine own_go (fun t k => XS.iconst X258.here hx rfl (hb hby d_j56_4_34) k) ?_
  show own_Go _ _ _ _ (T258.setTop (mkF m 35 #[.val (.ref uc), .val (.ref b238), .val (.int (3 : Int32))] [(.int (0 : Int32)), (.ref b238), (.ref b258), (.ref b258)]))
  obtain ⟨_, _, ⟨T259, L259, k259, n259⟩, -, X259, ⟨Lc259, hQ259, l259, y259, z259⟩, st259⟩ := X258.specialBackNest hx (y := (⟨"java/util/ImmutableCollections$ListN", "<init>", "([Ljava/lang/Object;Z)V"⟩ : MethodName)) rfl hown (own_mvL hZ (w_225 hw)) (mvT hZ (w_226 hw)) (mvT hZ (w_228 hw)) (by decide) (backOf (W := 1) (rm_iN l Z a0 hw [] b258 b238 h258 n0 Z258 q258 A258 F258_121 F258_234) hZ (w_228 hw) (w_118 hw) (by decide) (by decide)) (g := (mkF m 35 #[.val (.ref uc), .val (.ref b238), .val (.int (3 : Int32))] [(.int (0 : Int32)), (.ref b238), (.ref b258), (.ref b258)])) rfl (by rw [hml]; rfl) (Steps.refl _) (a := b258) (argsL := [(.ref b238), (.int (0 : Int32))]) (rest := [(.ref b258)]) (lenOf pd_8 rfl) rfl (by show 2 * 0 + _ ≤ _; exact Nat.le_of_eq rfl) (hb hby d_j56_4_35) (fun _ _ => ⟨rfl, e258, (by decide : 2 + 0 ≤ _), (by decide : 5 + 0 ≤ _)⟩)
  dsimp only [Pt.U, Pt.locs, Pt.cells, Pt.slots] at X259 l259 y259 z259 st259 hQ259
  subst l259 y259 z259
  generalize e259 : T259.heap = h259 at hQ259
  obtain ⟨rfl, N259q, K259q, F0259⟩ := hQ259
  have N259 := Fr.app N255 N259q
  refine own_go (fun t k => st259.trans k) ?_
  have Z259 : n0 ≤ h259.size := (Nat.le_trans Z258 K259q.1)
  have K259 : Keep h0 h259 [] := K258.trans K259q (allS (Or.inr (Nat.le_trans (Nat.le_trans (Nat.le_trans (Nat.le_trans E238.1 (Nat.le_of_eq W243.size.symm)) (Nat.le_of_eq W249.size.symm)) (Nat.le_of_eq W255.size.symm)) lo258)) all0)
  have f260 := ((V255.ext E258).keep K259q (ninS (Nat.ne_of_lt (Nat.lt_of_lt_of_le hi238 (Nat.le_trans (Nat.le_trans (Nat.le_trans (Nat.le_of_eq W243.size.symm) (Nat.le_of_eq W249.size.symm)) (Nat.le_of_eq W255.size.symm)) lo258))) nin0))
  show own_Go _ _ _ _ (T259.setTop (mkF m 38 #[.val (.ref uc), .val (.ref b238), .val (.int (3 : Int32))] [(.ref b258)]))
  refine own_ret X259 hx hlk hret rfl (Or.inr (Or.inr (Or.inr (Or.inr ⟨rfl, rfl, rfl⟩)))) (hb hby d_j56_4_38) ?_ (by decide) (by decide)
  rw [e259]
  exact ⟨b258, rfl, N259, K259, (Nat.le_trans (Nat.le_trans (Nat.le_trans (Nat.le_trans E238.1 (Nat.le_of_eq W243.size.symm)) (Nat.le_of_eq W249.size.symm)) (Nat.le_of_eq W255.size.symm)) lo258), q258, b238, k238, q238, lo238, (A258.keep K259q), F0259, f260⟩
def Q_lof_1 (Z : State) (uc : Addr) (kc : ClassId) (ue : Addr) (ude : Addr) (kde : ClassId) (uel : Addr) (uem : Addr) (kem : ClassId) (uemp : Addr) (urec : Addr) (umi : Addr) (h0 : Heap) (n0 : Nat) (v : Option Value) (h : Heap) (L : List Loc) : Prop := ∃ ux : Addr, v = some (.ref ux) ∧ Fr n0 L ∧ Keep h0 h [] ∧ h0.size ≤ ux ∧ n0 ≤ ux ∧ Exa Z h ux "java/util/ImmutableCollections$List12" ∧ Fld Z h ux "java/util/ImmutableCollections$List12" "e0" "Ljava/lang/Object;" (.ref ue) ∧ Fld Z h ux "java/util/ImmutableCollections$List12" "e1" "Ljava/lang/Object;" (.ref uemp)
theorem ef_lof_1 (m : MethodId) (uc : Addr) : entryFrame m #[(.ref uc)] 2 = mkF m 0 #[.val (.ref uc), .unset] [] := by first | (simp [entryFrame, mkF, argsToLocals, Value.category]; done) | rfl
theorem pn_11 : plainName "java/util/List" = true := by first | (simp [plainName, overriddenIn]; done) | decide +kernel
theorem d_j40_47_0 : decode jdk_40_method_47_code 0 = .ok (.aload_n 0, 1) := by decide +kernel
theorem d_j40_47_1 : decode jdk_40_method_47_code 1 = .ok (.arraylength, 1) := by decide +kernel
theorem d_j40_47_2 : decode jdk_40_method_47_code 2 = .ok (.tableswitch 57 0 2 #[26, 32, 43], 26) := by decide +kernel
theorem w_190 {Z : State} {a0 : Array Value} (hw : ∀ d ∈ tables_1, d.before a0 Z = true) : (Jvm.Cond.classLink "java/util/List" (96 : Nat) "java/util/ImmutableCollections$List12").before a0 Z = true := hw _ (List.mem_of_getElem? (i := 190) rfl)
theorem w_132 {Z : State} {a0 : Array Value} (hw : ∀ d ∈ tables_1, d.before a0 Z = true) : (Jvm.Cond.initialized "java/util/ImmutableCollections$List12").before a0 Z = true := hw _ (List.mem_of_getElem? (i := 132) rfl)
theorem d_j40_47_34 : decode jdk_40_method_47_code 34 = .ok (.new 96, 3) := by decide +kernel
theorem d_j40_47_37 : decode jdk_40_method_47_code 37 = .ok (.dup, 1) := by decide +kernel
theorem d_j40_47_38 : decode jdk_40_method_47_code 38 = .ok (.aload_n 0, 1) := by decide +kernel
theorem d_j40_47_39 : decode jdk_40_method_47_code 39 = .ok (.iconst 0, 1) := by decide +kernel
theorem d_j40_47_40 : decode jdk_40_method_47_code 40 = .ok (.aaload, 1) := by decide +kernel
theorem w_192 {Z : State} {a0 : Array Value} (hw : ∀ d ∈ tables_1, d.before a0 Z = true) : (Jvm.Cond.methodLink "java/util/List" (98 : Nat) ({ cls := "java/util/ImmutableCollections$List12", name := "<init>", desc := "(Ljava/lang/Object;)V" } : Jvm.MethodName)).before a0 Z = true := hw _ (List.mem_of_getElem? (i := 192) rfl)
theorem w_195 {Z : State} {a0 : Array Value} (hw : ∀ d ∈ tables_1, d.before a0 Z = true) : (Jvm.Cond.code ({ cls := "java/util/ImmutableCollections$List12", name := "<init>", desc := "(Ljava/lang/Object;)V" } : Jvm.MethodName) jdk_44_method_1_code (2 : Nat) (Option.none : Option Jvm.ClassFile.FieldType)).before a0 Z = true := hw _ (List.mem_of_getElem? (i := 195) rfl)
theorem pd_9 : parseMethodDescriptor "(Ljava/lang/Object;)V" = some ⟨[(.object "java/lang/Object")], none⟩ := by decide +kernel
theorem d_j40_47_41 : decode jdk_40_method_47_code 41 = .ok (.invokespecial 98, 3) := by decide +kernel
theorem w_193 {Z : State} {a0 : Array Value} (hw : ∀ d ∈ tables_1, d.before a0 Z = true) : (Jvm.Cond.instanceMethod ({ cls := "java/util/ImmutableCollections$List12", name := "<init>", desc := "(Ljava/lang/Object;)V" } : Jvm.MethodName)).before a0 Z = true := hw _ (List.mem_of_getElem? (i := 193) rfl)
theorem d_j40_47_44 : decode jdk_40_method_47_code 44 = .ok (.areturn, 1) := by decide +kernel
set_option maxRecDepth 65536 in
set_option maxHeartbeats 40000000 in
theorem rm_lof_1 (l : Launch) (Z : State) (a0 : Array Value) (hw : ∀ d ∈ tables_1, d.before a0 Z = true) (ws : List Jvm.Cond) (uc : Addr) (kc : ClassId) (ue ude : Addr) (kde : ClassId) (uel uem : Addr) (kem : ClassId) (uemp urec umi : Addr) (h0 : Heap) (n0 : Nat) (Z0 : n0 ≤ h0.size) (A0 : Arv Z h0 uc kc (.object "java/lang/Object") (1 : Int32) [(.ref ue)] .null) (O0 : Old Z n0 h0) (hF : own_Fac Z ue ude kde uel uem kem uemp urec umi) :
    own_Met l Z (⟨"java/util/List", "of", "([Ljava/lang/Object;)Ljava/util/List;"⟩ : MethodName) jdk_40_method_47_code 2 (some (.object "java/util/List")) ws ({ frames := 5, cells := 1, slots := 2, locals := 62 } : Room) #[(.ref uc)] h0 (Q_lof_1 Z uc kc ue ude kde uel uem kem uemp urec umi h0 n0) := by
  refine own_enter (own := "java/util/List") (plainFor_of_name pn_11) rfl ?_
  intro p e s m below meth c s₁ hlk hret hx hby hml hown hnm hZ X0 e0
  have N0 := Fr.nil n0
  refine own_cast (ef_lof_1 m uc) ?_
  obtain ⟨Se, Ee, Sd, Ad, Sl, El, Fl, Am, Sm, Em, Sr, Er, Fr1, Fr0, Mi⟩ := id hF
  show own_Go _ _ _ _ (s₁.setTop (mkF m 0 #[.val (.ref uc), .unset] []))
  refine own_go (fun t k => XS.aloadN X0.here hx rfl (hb hby d_j40_47_0) rfl rfl k) ?_
  show own_Go _ _ _ _ (s₁.setTop (mkF m 1 #[.val (.ref uc), .unset] [(.ref uc)]))
  obtain ⟨cl261, Ar261, qk261, sz261, nn261, ha261, gf261⟩ := id A0
  refine own_go (X0.arraylength hx (by rw [e0]; exact Ar261.1) (State.isArrayOf_alike hZ.alike Ar261.2.1) (g := (mkF m 1 #[.val (.ref uc), .unset] [(.ref uc)])) rfl rfl (hb hby d_j40_47_1)) ?_
  rw [len_of sz261 nn261]
  show own_Go _ _ _ _ (s₁.setTop (mkF m 2 #[.val (.ref uc), .unset] [(.int (1 : Int32))]))
  refine own_go (fun t k => XS.tswIn X0.here hx rfl (pc0 := 2) (pc' := 34) rfl (hb hby d_j40_47_2) rfl (by decide) rfl (by decide) (by decide) k) ?_
  show own_Go _ _ _ _ (s₁.setTop (mkF m 34 #[.val (.ref uc), .unset] []))
  obtain ⟨T262, h262, X262, e262, E262, A262, D262, -, st262⟩ := newO X0 hx hZ hown (w_190 hw) (w_191 hw) (w_132 hw) e0 (g := (mkF m 34 #[.val (.ref uc), .unset] [])) rfl (hb hby d_j40_47_34) (by decide) (by decide)
  obtain ⟨b262, g262⟩ : ∃ z, z = h0.size := ⟨_, rfl⟩
  rw [← g262] at A262 D262 st262
  refine own_go st262 ?_
  have Z262 : n0 ≤ h262.size := (Nat.le_trans Z0 E262.1)
  have K262 : Keep h0 h262 [] := (Keep.refl h0 []).ext E262
  have lo262 : h0.size ≤ b262 := Nat.le_of_eq g262.symm
  have q262 : n0 ≤ b262 := Nat.le_trans Z0 lo262
  have hi262 : b262 < h262.size := A262.lt
  have F262_135 : Fld Z h262 b262 "java/util/ImmutableCollections$List12" "e1" "Ljava/lang/Object;" .null := D262 (Or.inr (w_135 hw)) (ty := (.object "java/lang/Object")) (by decide)
  have F262_146 : Fld Z h262 b262 "java/util/ImmutableCollections$List12" "e0" "Ljava/lang/Object;" .null := D262 (Or.inr (w_146 hw)) (ty := (.object "java/lang/Object")) (by decide)
  show own_Go _ _ _ _ (T262.setTop (mkF m 37 #[.val (.ref uc), .unset] [(.ref b262)]))
  refine own_go (fun t k => XS.dup X262.here hx rfl (hb hby d_j40_47_37) rfl rfl k) ?_
  show own_Go _ _ _ _ (T262.setTop (mkF m 38 #[.val (.ref uc), .unset] [(.ref b262), (.ref b262)]))
  refine own_go (fun t k => XS.aloadN X262.here hx rfl (hb hby d_j40_47_38) rfl rfl k) ?_
  show own_Go _ _ _ _ (T262.setTop (mkF m 39 #[.val (.ref uc), .unset] [(.ref uc), (.ref b262), (.ref b262)]))
  refine own_go (fun t k => XS.iconst X262.here hx rfl (hb hby d_j40_47_39) k) ?_
  show own_Go _ _ _ _ (T262.setTop (mkF m 40 #[.val (.ref uc), .unset] [(.int (0 : Int32)), (.ref uc), (.ref b262), (.ref b262)]))
  obtain ⟨cl263, Ar263, qk263, sz263, nn263, ha263, gf263⟩ := id (A0.ext E262)
  have hin263 : ¬ ((0 : Int32) < 0 ∨ cl263.slots.size ≤ ((0 : Int32)).toNatClampNeg) := inb_of sz263 ⟨by decide, by decide⟩
  have hat263 : cl263.slots[((0 : Int32)).toNatClampNeg]? = some (.ref ue) := ha263.at hin263 rfl
  refine own_go (X262.aaload hx (j := (0 : Int32)) (v := (.ref ue)) (by rw [e262]; exact Ar263.1) (State.isArrayOf_alike hZ.alike Ar263.2.1) rfl Ar263.2.2 hin263 hat263 (g := (mkF m 40 #[.val (.ref uc), .unset] [(.int (0 : Int32)), (.ref uc), (.ref b262), (.ref b262)])) rfl rfl (hb hby d_j40_47_40)) ?_
  show own_Go _ _ _ _ (T262.setTop (mkF m 41 #[.val (.ref uc), .unset] [(.ref ue), (.ref b262), (.ref b262)]))
  obtain ⟨_, _, ⟨T264, L264, k264, n264⟩, -, X264, ⟨Lc264, hQ264, l264, y264, z264⟩, st264⟩ := X262.specialBack hx (y := (⟨"java/util/ImmutableCollections$List12", "<init>", "(Ljava/lang/Object;)V"⟩ : MethodName)) rfl hown (mvT hZ (w_192 hw)) (mvT hZ (w_193 hw)) (mvT hZ (w_195 hw)) (by decide) (backOf (W := 1) (rm_i1 l Z a0 hw [] b262 ue ude kde uel uem kem uemp urec umi h262 n0 Z262 q262 A262 F262_146 F262_135 (O0.ext E262) hF) hZ (w_195 hw) (w_132 hw) (by decide) (by decide)) (g := (mkF m 41 #[.val (.ref uc), .unset] [(.ref ue), (.ref b262), (.ref b262)])) rfl (by rw [hml]; rfl) (Steps.refl _) (a := b262) (argsL := [(.ref ue)]) (rest := [(.ref b262)]) (lenOf pd_9 rfl) rfl (by show 2 * 0 + _ ≤ _; exact Nat.le_of_eq rfl) (hb hby d_j40_47_41) (fun _ _ => ⟨rfl, e262, (by decide : 1 + 0 ≤ _), (by decide : 2 + 0 ≤ _)⟩)
  dsimp only [Pt.U, Pt.locs, Pt.cells, Pt.slots] at X264 l264 y264 z264 st264 hQ264
  subst l264 y264 z264
  generalize e264 : T264.heap = h264 at hQ264
  obtain ⟨rfl, N264q, K264q, F0264, F1264⟩ := hQ264
  have N264 := Fr.app N0 N264q
  refine own_go (fun t k => st264.trans k) ?_
  have Z264 : n0 ≤ h264.size := (Nat.le_trans Z262 K264q.1)
  have K264 : Keep h0 h264 [] := K262.trans K264q (allS (Or.inr lo262) all0)
  show own_Go _ _ _ _ (T264.setTop (mkF m 44 #[.val (.ref uc), .unset] [(.ref b262)]))
  refine own_ret X264 hx hlk hret rfl (Or.inr (Or.inr (Or.inr (Or.inr ⟨rfl, rfl, rfl⟩)))) (hb hby d_j40_47_44) ?_ (by decide) (by decide)
  rw [e264]
  exact ⟨b262, rfl, N264, K264, lo262, q262, (A262.keep K264q), F0264, F1264⟩
def Q_lof_2 (Z : State) (uc : Addr) (kc : ClassId) (ue : Addr) (ude : Addr) (kde : ClassId) (uel : Addr) (uem : Addr) (kem : ClassId) (uemp : Addr) (urec : Addr) (umi : Addr) (h0 : Heap) (n0 : Nat) (v : Option Value) (h : Heap) (L : List Loc) : Prop := ∃ ux : Addr, v = some (.ref ux) ∧ Fr n0 L ∧ Keep h0 h [] ∧ h0.size ≤ ux ∧ n0 ≤ ux ∧ Exa Z h ux "java/util/ImmutableCollections$List12" ∧ Fld Z h ux "java/util/ImmutableCollections$List12" "e0" "Ljava/lang/Object;" (.ref ue) ∧ Fld Z h ux "java/util/ImmutableCollections$List12" "e1" "Ljava/lang/Object;" (.ref ue)
theorem ef_lof_2 (m : MethodId) (uc : Addr) : entryFrame m #[(.ref uc)] 2 = mkF m 0 #[.val (.ref uc), .unset] [] := by first | (simp [entryFrame, mkF, argsToLocals, Value.category]; done) | rfl
theorem d_j40_47_45 : decode jdk_40_method_47_code 45 = .ok (.new 96, 3) := by decide +kernel
theorem d_j40_47_48 : decode jdk_40_method_47_code 48 = .ok (.dup, 1) := by decide +kernel
theorem d_j40_47_49 : decode jdk_40_method_47_code 49 = .ok (.aload_n 0, 1) := by decide +kernel
theorem d_j40_47_50 : decode jdk_40_method_47_code 50 = .ok (.iconst 0, 1) := by decide +kernel
theorem d_j40_47_51 : decode jdk_40_method_47_code 51 = .ok (.aaload, 1) := by decide +kernel
theorem d_j40_47_52 : decode jdk_40_method_47_code 52 = .ok (.aload_n 0, 1) := by decide +kernel
theorem d_j40_47_53 : decode jdk_40_method_47_code 53 = .ok (.iconst 1, 1) := by decide +kernel
theorem d_j40_47_54 : decode jdk_40_method_47_code 54 = .ok (.aaload, 1) := by decide +kernel
theorem w_245 {Z : State} {a0 : Array Value} (hw : ∀ d ∈ tables_1, d.before a0 Z = true) : (Jvm.Cond.methodLink "java/util/List" (100 : Nat) ({ cls := "java/util/ImmutableCollections$List12", name := "<init>", desc := "(Ljava/lang/Object;Ljava/lang/Object;)V" } : Jvm.MethodName)).before a0 Z = true := hw _ (List.mem_of_getElem? (i := 245) rfl)
theorem w_247 {Z : State} {a0 : Array Value} (hw : ∀ d ∈ tables_1, d.before a0 Z = true) : (Jvm.Cond.code ({ cls := "java/util/ImmutableCollections$List12", name := "<init>", desc := "(Ljava/lang/Object;Ljava/lang/Object;)V" } : Jvm.MethodName) jdk_44_method_2_code (3 : Nat) (Option.none : Option Jvm.ClassFile.FieldType)).before a0 Z = true := hw _ (List.mem_of_getElem? (i := 247) rfl)
theorem pd_10 : parseMethodDescriptor "(Ljava/lang/Object;Ljava/lang/Object;)V" = some ⟨[(.object "java/lang/Object"), (.object "java/lang/Object")], none⟩ := by decide +kernel
theorem d_j40_47_55 : decode jdk_40_method_47_code 55 = .ok (.invokespecial 100, 3) := by decide +kernel
theorem w_246 {Z : State} {a0 : Array Value} (hw : ∀ d ∈ tables_1, d.before a0 Z = true) : (Jvm.Cond.instanceMethod ({ cls := "java/util/ImmutableCollections$List12", name := "<init>", desc := "(Ljava/lang/Object;Ljava/lang/Object;)V" } : Jvm.MethodName)).before a0 Z = true := hw _ (List.mem_of_getElem? (i := 246) rfl)
theorem d_j40_47_58 : decode jdk_40_method_47_code 58 = .ok (.areturn, 1) := by decide +kernel
set_option maxRecDepth 65536 in
set_option maxHeartbeats 40000000 in
theorem rm_lof_2 (l : Launch) (Z : State) (a0 : Array Value) (hw : ∀ d ∈ tables_1, d.before a0 Z = true) (ws : List Jvm.Cond) (uc : Addr) (kc : ClassId) (ue ude : Addr) (kde : ClassId) (uel uem : Addr) (kem : ClassId) (uemp urec umi : Addr) (h0 : Heap) (n0 : Nat) (Z0 : n0 ≤ h0.size) (A0 : Arv Z h0 uc kc (.object "java/lang/Object") (2 : Int32) [(.ref ue), (.ref ue)] .null) (O0 : Old Z n0 h0) (hF : own_Fac Z ue ude kde uel uem kem uemp urec umi) :
    own_Met l Z (⟨"java/util/List", "of", "([Ljava/lang/Object;)Ljava/util/List;"⟩ : MethodName) jdk_40_method_47_code 2 (some (.object "java/util/List")) ws ({ frames := 5, cells := 1, slots := 2, locals := 63 } : Room) #[(.ref uc)] h0 (Q_lof_2 Z uc kc ue ude kde uel uem kem uemp urec umi h0 n0) := by
  refine own_enter (own := "java/util/List") (plainFor_of_name pn_11) rfl ?_
  intro p e s m below meth c s₁ hlk hret hx hby hml hown hnm hZ X0 e0
  have N0 := Fr.nil n0
  refine own_cast (ef_lof_2 m uc) ?_
  obtain ⟨Se, Ee, Sd, Ad, Sl, El, Fl, Am, Sm, Em, Sr, Er, Fr1, Fr0, Mi⟩ := id hF
  show own_Go _ _ _ _ (s₁.setTop (mkF m 0 #[.val (.ref uc), .unset] []))
  refine own_go (fun t k => XS.aloadN X0.here hx rfl (hb hby d_j40_47_0) rfl rfl k) ?_
  show own_Go _ _ _ _ (s₁.setTop (mkF m 1 #[.val (.ref uc), .unset] [(.ref uc)]))
  obtain ⟨cl265, Ar265, qk265, sz265, nn265, ha265, gf265⟩ := id A0
  refine own_go (X0.arraylength hx (by rw [e0]; exact Ar265.1) (State.isArrayOf_alike hZ.alike Ar265.2.1) (g := (mkF m 1 #[.val (.ref uc), .unset] [(.ref uc)])) rfl rfl (hb hby d_j40_47_1)) ?_
  rw [len_of sz265 nn265]
  show own_Go _ _ _ _ (s₁.setTop (mkF m 2 #[.val (.ref uc), .unset] [(.int (2 : Int32))]))
  refine own_go (fun t k => XS.tswIn X0.here hx rfl (pc0 := 2) (pc' := 45) rfl (hb hby d_j40_47_2) rfl (by decide) rfl (by decide) (by decide) k) ?_
  show own_Go _ _ _ _ (s₁.setTop (mkF m 45 #[.val (.ref uc), .unset] []))
  obtain ⟨T266, h266, X266, e266, E266, A266, D266, -, st266⟩ := newO X0 hx hZ hown (w_190 hw) (w_191 hw) (w_132 hw) e0 (g := (mkF m 45 #[.val (.ref uc), .unset] [])) rfl (hb hby d_j40_47_45) (by decide) (by decide)
  obtain ⟨b266, g266⟩ : ∃ z, z = h0.size := ⟨_, rfl⟩
  rw [← g266] at A266 D266 st266
  refine own_go st266 ?_
  have Z266 : n0 ≤ h266.size := (Nat.le_trans Z0 E266.1)
  have K266 : Keep h0 h266 [] := (Keep.refl h0 []).ext E266
  have lo266 : h0.size ≤ b266 := Nat.le_of_eq g266.symm
  have q266 : n0 ≤ b266 := Nat.le_trans Z0 lo266
  have hi266 : b266 < h266.size := A266.lt
  have F266_135 : Fld Z h266 b266 "java/util/ImmutableCollections$List12" "e1" "Ljava/lang/Object;" .null := D266 (Or.inr (w_135 hw)) (ty := (.object "java/lang/Object")) (by decide)
  have F266_146 : Fld Z h266 b266 "java/util/ImmutableCollections$List12" "e0" "Ljava/lang/Object;" .null := D266 (Or.inr (w_146 hw)) (ty := (.object "java/lang/Object")) (by decide)
  show own_Go _ _ _ _ (T266.setTop (mkF m 48 #[.val (.ref uc), .unset] [(.ref b266)]))
  refine own_go (fun t k => XS.dup X266.here hx rfl (hb hby d_j40_47_48) rfl rfl k) ?_
  show own_Go _ _ _ _ (T266.setTop (mkF m 49 #[.val (.ref uc), .unset] [(.ref b266), (.ref b266)]))
  refine own_go (fun t k => XS.aloadN X266.here hx rfl (hb hby d_j40_47_49) rfl rfl k) ?_
  show own_Go _ _ _ _ (T266.setTop (mkF m 50 #[.val (.ref uc), .unset] [(.ref uc), (.ref b266), (.ref b266)]))
  refine own_go (fun t k => XS.iconst X266.here hx rfl (hb hby d_j40_47_50) k) ?_
  show own_Go _ _ _ _ (T266.setTop (mkF m 51 #[.val (.ref uc), .unset] [(.int (0 : Int32)), (.ref uc), (.ref b266), (.ref b266)]))
  obtain ⟨cl267, Ar267, qk267, sz267, nn267, ha267, gf267⟩ := id (A0.ext E266)
  have hin267 : ¬ ((0 : Int32) < 0 ∨ cl267.slots.size ≤ ((0 : Int32)).toNatClampNeg) := inb_of sz267 ⟨by decide, by decide⟩
  have hat267 : cl267.slots[((0 : Int32)).toNatClampNeg]? = some (.ref ue) := ha267.at hin267 rfl
  refine own_go (X266.aaload hx (j := (0 : Int32)) (v := (.ref ue)) (by rw [e266]; exact Ar267.1) (State.isArrayOf_alike hZ.alike Ar267.2.1) rfl Ar267.2.2 hin267 hat267 (g := (mkF m 51 #[.val (.ref uc), .unset] [(.int (0 : Int32)), (.ref uc), (.ref b266), (.ref b266)])) rfl rfl (hb hby d_j40_47_51)) ?_
  show own_Go _ _ _ _ (T266.setTop (mkF m 52 #[.val (.ref uc), .unset] [(.ref ue), (.ref b266), (.ref b266)]))
  refine own_go (fun t k => XS.aloadN X266.here hx rfl (hb hby d_j40_47_52) rfl rfl k) ?_
  show own_Go _ _ _ _ (T266.setTop (mkF m 53 #[.val (.ref uc), .unset] [(.ref uc), (.ref ue), (.ref b266), (.ref b266)]))
  refine own_go (fun t k => XS.iconst X266.here hx rfl (hb hby d_j40_47_53) k) ?_
  show own_Go _ _ _ _ (T266.setTop (mkF m 54 #[.val (.ref uc), .unset] [(.int (1 : Int32)), (.ref uc), (.ref ue), (.ref b266), (.ref b266)]))
  obtain ⟨cl268, Ar268, qk268, sz268, nn268, ha268, gf268⟩ := id (A0.ext E266)
  have hin268 : ¬ ((1 : Int32) < 0 ∨ cl268.slots.size ≤ ((1 : Int32)).toNatClampNeg) := inb_of sz268 ⟨by decide, by decide⟩
  have hat268 : cl268.slots[((1 : Int32)).toNatClampNeg]? = some (.ref ue) := ha268.at hin268 rfl
  refine own_go (X266.aaload hx (j := (1 : Int32)) (v := (.ref ue)) (by rw [e266]; exact Ar268.1) (State.isArrayOf_alike hZ.alike Ar268.2.1) rfl Ar268.2.2 hin268 hat268 (g := (mkF m 54 #[.val (.ref uc), .unset] [(.int (1 : Int32)), (.ref uc), (.ref ue), (.ref b266), (.ref b266)])) rfl rfl (hb hby d_j40_47_54)) ?_
  show own_Go _ _ _ _ (T266.setTop (mkF m 55 #[.val (.ref uc), .unset] [(.ref ue), (.ref ue), (.ref b266), (.ref b266)]))
  obtain ⟨_, _, ⟨T269, L269, k269, n269⟩, -, X269, ⟨Lc269, hQ269, l269, y269, z269⟩, st269⟩ := X266.specialBack hx (y := (⟨"java/util/ImmutableCollections$List12", "<init>", "(Ljava/lang/Object;Ljava/lang/Object;)V"⟩ : MethodName)) rfl hown (mvT hZ (w_245 hw)) (mvT hZ (w_246 hw)) (mvT hZ (w_247 hw)) (by decide) (backOf (W := 1) (rm_i2 l Z a0 hw [] b266 ue ude kde uel uem kem uemp urec umi h266 n0 Z266 q266 A266 F266_146 F266_135 (O0.ext E266) hF) hZ (w_247 hw) (w_132 hw) (by decide) (by decide)) (g := (mkF m 55 #[.val (.ref uc), .unset] [(.ref ue), (.ref ue), (.ref b266), (.ref b266)])) rfl (by rw [hml]; rfl) (Steps.refl _) (a := b266) (argsL := [(.ref ue), (.ref ue)]) (rest := [(.ref b266)]) (lenOf pd_10 rfl) rfl (by show 2 * 0 + _ ≤ _; exact Nat.le_of_eq rfl) (hb hby d_j40_47_55) (fun _ _ => ⟨rfl, e266, (by decide : 1 + 0 ≤ _), (by decide : 2 + 0 ≤ _)⟩)
  dsimp only [Pt.U, Pt.locs, Pt.cells, Pt.slots] at X269 l269 y269 z269 st269 hQ269
  subst l269 y269 z269
  generalize e269 : T269.heap = h269 at hQ269
  obtain ⟨rfl, N269q, K269q, F0269, F1269⟩ := hQ269
  have N269 := Fr.app N0 N269q
  refine own_go (fun t k => st269.trans k) ?_
  have Z269 : n0 ≤ h269.size := (Nat.le_trans Z266 K269q.1)
  have K269 : Keep h0 h269 [] := K266.trans K269q (allS (Or.inr lo266) all0)
  show own_Go _ _ _ _ (T269.setTop (mkF m 58 #[.val (.ref uc), .unset] [(.ref b266)]))
  refine own_ret X269 hx hlk hret rfl (Or.inr (Or.inr (Or.inr (Or.inr ⟨rfl, rfl, rfl⟩)))) (hb hby d_j40_47_58) ?_ (by decide) (by decide)
  rw [e269]
  exact ⟨b266, rfl, N269, K269, lo266, q266, (A266.keep K269q), F0269, F1269⟩
def Q_lof_3 (Z : State) (uc : Addr) (kc : ClassId) (ue : Addr) (ude : Addr) (kde : ClassId) (uel : Addr) (uem : Addr) (kem : ClassId) (uemp : Addr) (urec : Addr) (umi : Addr) (h0 : Heap) (n0 : Nat) (v : Option Value) (h : Heap) (L : List Loc) : Prop := ∃ ux : Addr, v = some (.ref ux) ∧ Fr n0 L ∧ Keep h0 h [] ∧ h0.size ≤ ux ∧ n0 ≤ ux ∧ ∃ (uy : Addr) (ky : ClassId), n0 ≤ uy ∧ h0.size ≤ uy ∧ Exa Z h ux "java/util/ImmutableCollections$ListN" ∧ Fld Z h ux "java/util/ImmutableCollections$ListN" "elements" "[Ljava/lang/Object;" (.ref uy) ∧ Arv Z h uy ky (.object "java/lang/Object") (3 : Int32) [(.ref ue), (.ref ue), (.ref ue)] .null
theorem ef_lof_3 (m : MethodId) (uc : Addr) : entryFrame m #[(.ref uc)] 2 = mkF m 0 #[.val (.ref uc), .unset] [] := by first | (simp [entryFrame, mkF, argsToLocals, Value.category]; done) | rfl
theorem d_j40_47_59 : decode jdk_40_method_47_code 59 = .ok (.aload_n 0, 1) := by decide +kernel
theorem w_219 {Z : State} {a0 : Array Value} (hw : ∀ d ∈ tables_1, d.before a0 Z = true) : (Jvm.Cond.methodLink "java/util/List" (109 : Nat) ({ cls := "java/util/ImmutableCollections", name := "listFromArray", desc := "([Ljava/lang/Object;)Ljava/util/List;" } : Jvm.MethodName)).before a0 Z = true := hw _ (List.mem_of_getElem? (i := 219) rfl)
theorem w_221 {Z : State} {a0 : Array Value} (hw : ∀ d ∈ tables_1, d.before a0 Z = true) : (Jvm.Cond.code ({ cls := "java/util/ImmutableCollections", name := "listFromArray", desc := "([Ljava/lang/Object;)Ljava/util/List;" } : Jvm.MethodName) jdk_56_method_4_code (3 : Nat) (Option.some (Jvm.ClassFile.FieldType.object "java/util/List"))).before a0 Z = true := hw _ (List.mem_of_getElem? (i := 221) rfl)
theorem w_44 {Z : State} {a0 : Array Value} (hw : ∀ d ∈ tables_1, d.before a0 Z = true) : (Jvm.Cond.initialized "java/util/ImmutableCollections").before a0 Z = true := hw _ (List.mem_of_getElem? (i := 44) rfl)
theorem pd_11 : parseMethodDescriptor "([Ljava/lang/Object;)Ljava/util/List;" = some ⟨[(.array (.object "java/lang/Object"))], some (.object "java/util/List")⟩ := by decide +kernel
theorem d_j40_47_60 : decode jdk_40_method_47_code 60 = .ok (.invokestatic 109, 3) := by decide +kernel
theorem w_220 {Z : State} {a0 : Array Value} (hw : ∀ d ∈ tables_1, d.before a0 Z = true) : (Jvm.Cond.static ({ cls := "java/util/ImmutableCollections", name := "listFromArray", desc := "([Ljava/lang/Object;)Ljava/util/List;" } : Jvm.MethodName)).before a0 Z = true := hw _ (List.mem_of_getElem? (i := 220) rfl)
theorem d_j40_47_63 : decode jdk_40_method_47_code 63 = .ok (.areturn, 1) := by decide +kernel
set_option maxRecDepth 65536 in
set_option maxHeartbeats 40000000 in
theorem rm_lof_3 (l : Launch) (Z : State) (a0 : Array Value) (hw : ∀ d ∈ tables_1, d.before a0 Z = true) (ws : List Jvm.Cond) (uc : Addr) (kc : ClassId) (ue ude : Addr) (kde : ClassId) (uel uem : Addr) (kem : ClassId) (uemp urec umi : Addr) (h0 : Heap) (n0 : Nat) (Z0 : n0 ≤ h0.size) (A0 : Arv Z h0 uc kc (.object "java/lang/Object") (3 : Int32) [(.ref ue), (.ref ue), (.ref ue)] .null) (O0 : Old Z n0 h0) (hF : own_Fac Z ue ude kde uel uem kem uemp urec umi) :
    own_Met l Z (⟨"java/util/List", "of", "([Ljava/lang/Object;)Ljava/util/List;"⟩ : MethodName) jdk_40_method_47_code 2 (some (.object "java/util/List")) ws ({ frames := 6, cells := 2, slots := 5, locals := 77 } : Room) #[(.ref uc)] h0 (Q_lof_3 Z uc kc ue ude kde uel uem kem uemp urec umi h0 n0) := by
  refine own_enter (own := "java/util/List") (plainFor_of_name pn_11) rfl ?_
  intro p e s m below meth c s₁ hlk hret hx hby hml hown hnm hZ X0 e0
  have N0 := Fr.nil n0
  refine own_cast (ef_lof_3 m uc) ?_
  obtain ⟨Se, Ee, Sd, Ad, Sl, El, Fl, Am, Sm, Em, Sr, Er, Fr1, Fr0, Mi⟩ := id hF
  show own_Go _ _ _ _ (s₁.setTop (mkF m 0 #[.val (.ref uc), .unset] []))
  refine own_go (fun t k => XS.aloadN X0.here hx rfl (hb hby d_j40_47_0) rfl rfl k) ?_
  show own_Go _ _ _ _ (s₁.setTop (mkF m 1 #[.val (.ref uc), .unset] [(.ref uc)]))
  obtain ⟨cl270, Ar270, qk270, sz270, nn270, ha270, gf270⟩ := id A0
  refine own_go (X0.arraylength hx (by rw [e0]; exact Ar270.1) (State.isArrayOf_alike hZ.alike Ar270.2.1) (g := (mkF m 1 #[.val (.ref uc), .unset] [(.ref uc)])) rfl rfl (hb hby d_j40_47_1)) ?_
  rw [len_of sz270 nn270]
  show own_Go _ _ _ _ (s₁.setTop (mkF m 2 #[.val (.ref uc), .unset] [(.int (3 : Int32))]))
  refine own_go (fun t k => XS.tswOut X0.here hx rfl (pc0 := 2) (pc' := 59) rfl (hb hby d_j40_47_2) rfl (by decide) (by decide) (by decide) k) ?_
  show own_Go _ _ _ _ (s₁.setTop (mkF m 59 #[.val (.ref uc), .unset] []))
  refine own_go (fun t k => XS.aloadN X0.here hx rfl (hb hby d_j40_47_59) rfl rfl k) ?_
  show own_Go _ _ _ _ (s₁.setTop (mkF m 60 #[.val (.ref uc), .unset] [(.ref uc)]))
  obtain ⟨_, _, ⟨T271, L271, k271, n271⟩, -, X271, ⟨Lc271, hQ271, l271, y271, z271⟩, st271⟩ := Jvm.LawKit.callS X0 hx (y := (⟨"java/util/ImmutableCollections", "listFromArray", "([Ljava/lang/Object;)Ljava/util/List;"⟩ : MethodName)) hown (mvT hZ (w_219 hw)) (mvT hZ (w_220 hw)) (mvT hZ (w_44 hw)) (mvT hZ (w_221 hw)) (by decide) (backOf (W := 0) (rm_lfa l Z a0 hw [] uc kc ue ude kde uel uem kem uemp urec umi h0 n0 Z0 A0 O0 hF) hZ (w_221 hw) (w_44 hw) (by decide) (by decide)) (g := (mkF m 60 #[.val (.ref uc), .unset] [(.ref uc)])) rfl (by rw [hml]; rfl) (argsL := [(.ref uc)]) (rest := []) (lenOf pd_11 rfl) rfl (by show 2 * 0 + _ ≤ _; exact Nat.le_of_eq rfl) (hb hby d_j40_47_60) (fun _ _ => ⟨rfl, e0, (by decide : 0 + 2 ≤ _), (by decide : 0 + 5 ≤ _)⟩)
  dsimp only [Pt.U, Pt.locs, Pt.cells, Pt.slots] at X271 l271 y271 z271 st271 hQ271
  subst l271 y271 z271
  generalize e271 : T271.heap = h271 at hQ271
  obtain ⟨ux271, rfl, N271q, K271q, lo271, q271, uy271, ky271, qy271, ly271, Ex271, Fx271, Ay271⟩ := hQ271
  have N271 := Fr.app N0 N271q
  refine own_go st271 ?_
  have Z271 : n0 ≤ h271.size := (Nat.le_trans Z0 K271q.1)
  have K271 : Keep h0 h271 [] := (Keep.refl h0 []).trans K271q all0
  have hi271 := Ex271.lt
  have hy271 := Ay271.lt
  show own_Go _ _ _ _ (T271.setTop (mkF m 63 #[.val (.ref uc), .unset] [(.ref ux271)]))
  refine own_ret X271 hx hlk hret rfl (Or.inr (Or.inr (Or.inr (Or.inr ⟨rfl, rfl, rfl⟩)))) (hb hby d_j40_47_63) ?_ (by decide) (by decide)
  rw [e271]
  exact ⟨ux271, rfl, N271, K271, lo271, q271, uy271, ky271, qy271, ly271, Ex271, Fx271, Ay271⟩
def Q_lof_0 (Z : State) (ue : Addr) (ude : Addr) (kde : ClassId) (uel : Addr) (uem : Addr) (kem : ClassId) (uemp : Addr) (urec : Addr) (umi : Addr) (h0 : Heap) (n0 : Nat) (v : Option Value) (h : Heap) (L : List Loc) : Prop := v = some (.ref uel) ∧ Fr n0 L ∧ h = h0
theorem ef_lof_0 (m : MethodId)  : entryFrame m #[] 0 = mkF m 0 #[] [] := by first | (simp [entryFrame, mkF, argsToLocals, Value.category]; done) | rfl
theorem w_66 {Z : State} {a0 : Array Value} (hw : ∀ d ∈ tables_1, d.before a0 Z = true) : (Jvm.Cond.fieldLink "java/util/List" (90 : Nat) "java/util/ImmutableCollections" "EMPTY_LIST" "Ljava/util/ImmutableCollections$ListN;").before a0 Z = true := hw _ (List.mem_of_getElem? (i := 66) rfl)
theorem d_j40_36_0 : decode jdk_40_method_36_code 0 = .ok (.getstatic 90, 3) := by decide +kernel
theorem d_j40_36_3 : decode jdk_40_method_36_code 3 = .ok (.areturn, 1) := by decide +kernel
set_option maxRecDepth 65536 in
set_option maxHeartbeats 40000000 in
theorem rm_lof_0 (l : Launch) (Z : State) (a0 : Array Value) (hw : ∀ d ∈ tables_1, d.before a0 Z = true) (ws : List Jvm.Cond) (ue ude : Addr) (kde : ClassId) (uel uem : Addr) (kem : ClassId) (uemp urec umi : Addr) (h0 : Heap) (n0 : Nat) (Z0 : n0 ≤ h0.size) (O0 : Old Z n0 h0) (hF : own_Fac Z ue ude kde uel uem kem uemp urec umi) :
    own_Met l Z (⟨"java/util/List", "of", "()Ljava/util/List;"⟩ : MethodName) jdk_40_method_36_code 0 (some (.object "java/util/List")) ws ({ frames := 0, cells := 0, slots := 0, locals := 0 } : Room) #[] h0 (Q_lof_0 Z ue ude kde uel uem kem uemp urec umi h0 n0) := by
  refine own_enter (own := "java/util/List") (plainFor_of_name pn_11) rfl ?_
  intro p e s m below meth c s₁ hlk hret hx hby hml hown hnm hZ X0 e0
  have N0 := Fr.nil n0
  refine own_cast (ef_lof_0 m ) ?_
  obtain ⟨Se, Ee, Sd, Ad, Sl, El, Fl, Am, Sm, Em, Sr, Er, Fr1, Fr0, Mi⟩ := id hF
  show own_Go _ _ _ _ (s₁.setTop (mkF m 0 #[] []))
  obtain ⟨T272, X272, e272, st272⟩ := getS2 X0 hx hZ hown (host := "") (Or.inl (w_66 hw)) Via.refl e0 (Sl.ext O0.2) (g := (mkF m 0 #[] [])) rfl (hb hby d_j40_36_0)
  refine own_go st272 ?_
  show own_Go _ _ _ _ (T272.setTop (mkF m 3 #[] [(.ref uel)]))
  refine own_ret X272 hx hlk hret rfl (Or.inr (Or.inr (Or.inr (Or.inr ⟨rfl, rfl, rfl⟩)))) (hb hby d_j40_36_3) ?_ (by decide) (by decide)
  rw [e272]
  exact ⟨rfl, N0, rfl⟩
def Q_lcp_0 (Z : State) (ua : Addr) (ue : Addr) (ude : Addr) (kde : ClassId) (uel : Addr) (uem : Addr) (kem : ClassId) (uemp : Addr) (urec : Addr) (umi : Addr) (h0 : Heap) (n0 : Nat) (v : Option Value) (h : Heap) (L : List Loc) : Prop := v = some (.ref uel) ∧ Fr n0 L ∧ h = h0
theorem ef_lcp_0 (m : MethodId) (ua : Addr) : entryFrame m #[(.ref ua)] 2 = mkF m 0 #[.val (.ref ua), .unset] [] := by first | (simp [entryFrame, mkF, argsToLocals, Value.category]; done) | rfl
theorem d_j56_3_0 : decode jdk_56_method_3_code 0 = .ok (.aload_n 0, 1) := by decide +kernel
theorem w_46 {Z : State} {a0 : Array Value} (hw : ∀ d ∈ tables_1, d.before a0 Z = true) : (Jvm.Cond.classLink "java/util/ImmutableCollections" (10 : Nat) "java/util/ImmutableCollections$List12").before a0 Z = true := hw _ (List.mem_of_getElem? (i := 46) rfl)
theorem w_47 {Z : State} {a0 : Array Value} (hw : ∀ d ∈ tables_1, d.before a0 Z = true) : (Jvm.Cond.superclass "java/util/ArrayList" "java/util/AbstractList").before a0 Z = true := hw _ (List.mem_of_getElem? (i := 47) rfl)
theorem w_48 {Z : State} {a0 : Array Value} (hw : ∀ d ∈ tables_1, d.before a0 Z = true) : (Jvm.Cond.superclass "java/util/AbstractList" "java/util/AbstractCollection").before a0 Z = true := hw _ (List.mem_of_getElem? (i := 48) rfl)
theorem w_49 {Z : State} {a0 : Array Value} (hw : ∀ d ∈ tables_1, d.before a0 Z = true) : (Jvm.Cond.superclass "java/util/AbstractCollection" "java/lang/Object").before a0 Z = true := hw _ (List.mem_of_getElem? (i := 49) rfl)
theorem d_j56_3_1 : decode jdk_56_method_3_code 1 = .ok (.instanceof 10, 3) := by decide +kernel
theorem d_j56_3_4 : decode jdk_56_method_3_code 4 = .ok (.ifCond .ne 22, 3) := by decide +kernel
theorem d_j56_3_7 : decode jdk_56_method_3_code 7 = .ok (.aload_n 0, 1) := by decide +kernel
theorem d_j56_3_8 : decode jdk_56_method_3_code 8 = .ok (.instanceof 12, 3) := by decide +kernel
theorem d_j56_3_11 : decode jdk_56_method_3_code 11 = .ok (.ifCond .eq 20, 3) := by decide +kernel
theorem d_j56_3_31 : decode jdk_56_method_3_code 31 = .ok (.aload_n 0, 1) := by decide +kernel
theorem w_52 {Z : State} {a0 : Array Value} (hw : ∀ d ∈ tables_1, d.before a0 Z = true) : (Jvm.Cond.methodLink "java/util/ImmutableCollections" (20 : Nat) ({ cls := "java/util/Collection", name := "isEmpty", desc := "()Z" } : Jvm.MethodName)).before a0 Z = true := hw _ (List.mem_of_getElem? (i := 52) rfl)
theorem w_60 {Z : State} {a0 : Array Value} (hw : ∀ d ∈ tables_1, d.before a0 Z = true) : (Jvm.Cond.code ({ cls := "java/util/ArrayList", name := "isEmpty", desc := "()Z" } : Jvm.MethodName) jdk_38_method_9_code (1 : Nat) (Option.some Jvm.ClassFile.FieldType.boolean)).before a0 Z = true := hw _ (List.mem_of_getElem? (i := 60) rfl)
theorem pd_12 : parseMethodDescriptor "()Z" = some ⟨[], some .boolean⟩ := by decide +kernel
theorem d_j56_3_32 : decode jdk_56_method_3_code 32 = .ok (.invokeinterface 20 1, 5) := by decide +kernel
theorem w_55 {Z : State} {a0 : Array Value} (hw : ∀ d ∈ tables_1, d.before a0 Z = true) : (Jvm.Cond.selects "java/util/ArrayList" ({ cls := "java/util/Collection", name := "isEmpty", desc := "()Z" } : Jvm.MethodName) ({ cls := "java/util/ArrayList", name := "isEmpty", desc := "()Z" } : Jvm.MethodName)).before a0 Z = true := hw _ (List.mem_of_getElem? (i := 55) rfl)
theorem w_53 {Z : State} {a0 : Array Value} (hw : ∀ d ∈ tables_1, d.before a0 Z = true) : (Jvm.Cond.declares ({ cls := "java/util/Collection", name := "isEmpty", desc := "()Z" } : Jvm.MethodName)).before a0 Z = true := hw _ (List.mem_of_getElem? (i := 53) rfl)
theorem w_54 {Z : State} {a0 : Array Value} (hw : ∀ d ∈ tables_1, d.before a0 Z = true) : (Jvm.Cond.interfaceMethod "java/util/Collection" "java/util/Collection" "isEmpty" "()Z").before a0 Z = true := hw _ (List.mem_of_getElem? (i := 54) rfl)
theorem w_56 {Z : State} {a0 : Array Value} (hw : ∀ d ∈ tables_1, d.before a0 Z = true) : (Jvm.Cond.instanceMethod ({ cls := "java/util/ArrayList", name := "isEmpty", desc := "()Z" } : Jvm.MethodName)).before a0 Z = true := hw _ (List.mem_of_getElem? (i := 56) rfl)
theorem w_57 {Z : State} {a0 : Array Value} (hw : ∀ d ∈ tables_1, d.before a0 Z = true) : (Jvm.Cond.publicMethod ({ cls := "java/util/ArrayList", name := "isEmpty", desc := "()Z" } : Jvm.MethodName)).before a0 Z = true := hw _ (List.mem_of_getElem? (i := 57) rfl)
theorem w_58 {Z : State} {a0 : Array Value} (hw : ∀ d ∈ tables_1, d.before a0 Z = true) : (Jvm.Cond.unhidden "java/util/ArrayList" "isEmpty" "()Z").before a0 Z = true := hw _ (List.mem_of_getElem? (i := 58) rfl)
theorem w_59 {Z : State} {a0 : Array Value} (hw : ∀ d ∈ tables_1, d.before a0 Z = true) : (Jvm.Cond.castable "java/util/ArrayList" "java/util/Collection").before a0 Z = true := hw _ (List.mem_of_getElem? (i := 59) rfl)
theorem d_j56_3_37 : decode jdk_56_method_3_code 37 = .ok (.ifCond .eq 7, 3) := by decide +kernel
theorem w_63 {Z : State} {a0 : Array Value} (hw : ∀ d ∈ tables_1, d.before a0 Z = true) : (Jvm.Cond.methodLink "java/util/ImmutableCollections" (26 : Nat) ({ cls := "java/util/List", name := "of", desc := "()Ljava/util/List;" } : Jvm.MethodName)).before a0 Z = true := hw _ (List.mem_of_getElem? (i := 63) rfl)
theorem w_65 {Z : State} {a0 : Array Value} (hw : ∀ d ∈ tables_1, d.before a0 Z = true) : (Jvm.Cond.code ({ cls := "java/util/List", name := "of", desc := "()Ljava/util/List;" } : Jvm.MethodName) jdk_40_method_36_code (0 : Nat) (Option.some (Jvm.ClassFile.FieldType.object "java/util/List"))).before a0 Z = true := hw _ (List.mem_of_getElem? (i := 65) rfl)
theorem w_40 {Z : State} {a0 : Array Value} (hw : ∀ d ∈ tables_1, d.before a0 Z = true) : (Jvm.Cond.initialized "java/util/List").before a0 Z = true := hw _ (List.mem_of_getElem? (i := 40) rfl)
theorem pd_13 : parseMethodDescriptor "()Ljava/util/List;" = some ⟨[], some (.object "java/util/List")⟩ := by decide +kernel
theorem d_j56_3_40 : decode jdk_56_method_3_code 40 = .ok (.invokestatic 26, 3) := by decide +kernel
theorem w_64 {Z : State} {a0 : Array Value} (hw : ∀ d ∈ tables_1, d.before a0 Z = true) : (Jvm.Cond.static ({ cls := "java/util/List", name := "of", desc := "()Ljava/util/List;" } : Jvm.MethodName)).before a0 Z = true := hw _ (List.mem_of_getElem? (i := 64) rfl)
theorem d_j56_3_43 : decode jdk_56_method_3_code 43 = .ok (.areturn, 1) := by decide +kernel
set_option maxRecDepth 65536 in
set_option maxHeartbeats 40000000 in
theorem rm_lcp_0 (l : Launch) (Z : State) (a0 : Array Value) (hw : ∀ d ∈ tables_1, d.before a0 Z = true) (ws : List Jvm.Cond) (ua ue ude : Addr) (kde : ClassId) (uel uem : Addr) (kem : ClassId) (uemp urec umi : Addr) (h0 : Heap) (n0 : Nat) (Z0 : n0 ≤ h0.size) (F2 : Fld Z h0 ua "java/util/ArrayList" "size" "I" (.int (0 : Int32))) (E0 : Exa Z h0 ua "java/util/ArrayList") (O0 : Old Z n0 h0) (hF : own_Fac Z ue ude kde uel uem kem uemp urec umi) :
    own_Met l Z (⟨"java/util/ImmutableCollections", "listCopy", "(Ljava/util/Collection;)Ljava/util/List;"⟩ : MethodName) jdk_56_method_3_code 2 (some (.object "java/util/List")) ws ({ frames := 1, cells := 0, slots := 0, locals := 12 } : Room) #[(.ref ua)] h0 (Q_lcp_0 Z ua ue ude kde uel uem kem uemp urec umi h0 n0) := by
  refine own_enter (own := "java/util/ImmutableCollections") (plainFor_of_name pn_10) rfl ?_
  intro p e s m below meth c s₁ hlk hret hx hby hml hown hnm hZ X0 e0
  have N0 := Fr.nil n0
  refine own_cast (ef_lcp_0 m ua) ?_
  obtain ⟨Se, Ee, Sd, Ad, Sl, El, Fl, Am, Sm, Em, Sr, Er, Fr1, Fr0, Mi⟩ := id hF
  show own_Go _ _ _ _ (s₁.setTop (mkF m 0 #[.val (.ref ua), .unset] []))
  refine own_go (fun t k => XS.aloadN X0.here hx rfl (hb hby d_j56_3_0) rfl rfl k) ?_
  show own_Go _ _ _ _ (s₁.setTop (mkF m 1 #[.val (.ref ua), .unset] [(.ref ua)]))
  obtain ⟨T273, X273, e273, st273⟩ := instNo X0 hx hZ hown (w_46 hw) e0 E0 (own_NSno (w_47 hw) (w_191 hw) (NS.step (w_47 hw) (NS.step (w_48 hw) (NS.step (w_49 hw) (own_NSroot (w_50 hw) (w_191 hw) (by decide)) (by decide)) (by decide)) (by decide)) (by decide)) (g := (mkF m 1 #[.val (.ref ua), .unset] [(.ref ua)])) rfl rfl (hb hby d_j56_3_1)
  refine own_go st273 ?_
  show own_Go _ _ _ _ (T273.setTop (mkF m 4 #[.val (.ref ua), .unset] [(.int (0 : Int32))]))
  refine own_go (fun t k => XS.ifNo X273.here hx rfl (hb hby d_j56_3_4) rfl ((if0 _ _).trans (teq (by decide : (0 : Int32) = (0 : Int32))).2) k) ?_
  show own_Go _ _ _ _ (T273.setTop (mkF m 7 #[.val (.ref ua), .unset] []))
  refine own_go (fun t k => XS.aloadN X273.here hx rfl (hb hby d_j56_3_7) rfl rfl k) ?_
  show own_Go _ _ _ _ (T273.setTop (mkF m 8 #[.val (.ref ua), .unset] [(.ref ua)]))
  obtain ⟨T274, X274, e274, st274⟩ := instNo X273 hx hZ hown (w_51 hw) e273 E0 (own_NSno (w_47 hw) (w_224 hw) (NS.step (w_47 hw) (NS.step (w_48 hw) (NS.step (w_49 hw) (own_NSroot (w_50 hw) (w_224 hw) (by decide)) (by decide)) (by decide)) (by decide)) (by decide)) (g := (mkF m 8 #[.val (.ref ua), .unset] [(.ref ua)])) rfl rfl (hb hby d_j56_3_8)
  refine own_go st274 ?_
  show own_Go _ _ _ _ (T274.setTop (mkF m 11 #[.val (.ref ua), .unset] [(.int (0 : Int32))]))
  refine own_go (fun t k => XS.ifYes X274.here hx rfl (pc0 := 11) (pc' := 31) rfl (hb hby d_j56_3_11) rfl ((if0 _ _).trans (teq (by decide : (0 : Int32) = (0 : Int32))).1) (by decide) (by decide) k) ?_
  show own_Go _ _ _ _ (T274.setTop (mkF m 31 #[.val (.ref ua), .unset] []))
  refine own_go (fun t k => XS.aloadN X274.here hx rfl (hb hby d_j56_3_31) rfl rfl k) ?_
  show own_Go _ _ _ _ (T274.setTop (mkF m 32 #[.val (.ref ua), .unset] [(.ref ua)]))
  obtain ⟨cq275, kq275, q275a, q275b, q275c⟩ := isOf hZ e274 E0
  obtain ⟨_, _, ⟨T275, L275, k275, n275⟩, -, X275, ⟨Lc275, hQ275, l275, y275, z275⟩, st275⟩ := X274.interfaceBack hx (xi := (⟨"java/util/Collection", "isEmpty", "()Z"⟩ : MethodName)) (y := (⟨"java/util/ArrayList", "isEmpty", "()Z"⟩ : MethodName)) hown (mvT hZ (w_52 hw)) (mvT hZ (w_53 hw)) (mvT hZ (w_54 hw)) (mvT hZ (w_55 hw)) (mvT hZ (w_56 hw)) (mvT hZ (w_57 hw)) (mvT hZ (w_58 hw)) (mvT hZ (w_59 hw)) (by decide) (backOf (W := 0) (rm_emp_0 l Z a0 hw [] ua h0 n0 Z0 F2) hZ (w_60 hw) (w_2 hw) (by decide) (by decide)) q275a q275b q275c (g := (mkF m 32 #[.val (.ref ua), .unset] [(.ref ua)])) rfl (by rw [hml]; rfl) (Steps.refl _) (argsL := []) (rest := []) (lenOf pd_12 rfl) rfl (by show 2 * 0 + _ ≤ _; exact Nat.le_of_eq rfl) (hb hby d_j56_3_32) (fun _ _ => ⟨rfl, e274, (by decide : 0 + 0 ≤ _), (by decide : 0 + 0 ≤ _)⟩)
  dsimp only [Pt.U, Pt.locs, Pt.cells, Pt.slots] at X275 l275 y275 z275 st275 hQ275
  subst l275 y275 z275
  obtain ⟨rfl, N275q, e275⟩ := hQ275
  have N275 := Fr.app N0 N275q
  refine own_go (fun t k => st275.trans k) ?_
  show own_Go _ _ _ _ (T275.setTop (mkF m 37 #[.val (.ref ua), .unset] [(.int (1 : Int32))]))
  refine own_go (fun t k => XS.ifNo X275.here hx rfl (hb hby d_j56_3_37) rfl ((if0 _ _).trans (feq (by decide : ¬ ((1 : Int32) = (0 : Int32)))).1) k) ?_
  show own_Go _ _ _ _ (T275.setTop (mkF m 40 #[.val (.ref ua), .unset] []))
  obtain ⟨_, _, ⟨T276, L276, k276, n276⟩, -, X276, ⟨Lc276, hQ276, l276, y276, z276⟩, st276⟩ := Jvm.LawKit.callS X275 hx (y := (⟨"java/util/List", "of", "()Ljava/util/List;"⟩ : MethodName)) hown (mvT hZ (w_63 hw)) (mvT hZ (w_64 hw)) (mvT hZ (w_40 hw)) (mvT hZ (w_65 hw)) (by decide) (backOf (W := 0) (rm_lof_0 l Z a0 hw [] ue ude kde uel uem kem uemp urec umi h0 n0 Z0 O0 hF) hZ (w_65 hw) (w_40 hw) (by decide) (by decide)) (g := (mkF m 40 #[.val (.ref ua), .unset] [])) rfl (by rw [hml]; rfl) (argsL := []) (rest := []) (lenOf pd_13 rfl) rfl (by show 2 * 0 + _ ≤ _; exact Nat.le_of_eq rfl) (hb hby d_j56_3_40) (fun _ _ => ⟨rfl, e275, (by decide : 0 + 0 ≤ _), (by decide : 0 + 0 ≤ _)⟩)
  dsimp only [Pt.U, Pt.locs, Pt.cells, Pt.slots] at X276 l276 y276 z276 st276 hQ276
  subst l276 y276 z276
  obtain ⟨rfl, N276q, e276⟩ := hQ276
  have N276 := Fr.app N275 N276q
  refine own_go st276 ?_
  show own_Go _ _ _ _ (T276.setTop (mkF m 43 #[.val (.ref ua), .unset] [(.ref uel)]))
  refine own_ret X276 hx hlk hret rfl (Or.inr (Or.inr (Or.inr (Or.inr ⟨rfl, rfl, rfl⟩)))) (hb hby d_j56_3_43) ?_ (by decide) (by decide)
  rw [e276]
  exact ⟨rfl, N276, rfl⟩
def Q_cop_0 (Z : State) (ua : Addr) (ue : Addr) (ude : Addr) (kde : ClassId) (uel : Addr) (uem : Addr) (kem : ClassId) (uemp : Addr) (urec : Addr) (umi : Addr) (h0 : Heap) (n0 : Nat) (v : Option Value) (h : Heap) (L : List Loc) : Prop := v = some (.ref uel) ∧ Fr n0 L ∧ h = h0
theorem ef_cop_0 (m : MethodId) (ua : Addr) : entryFrame m #[(.ref ua)] 1 = mkF m 0 #[.val (.ref ua)] [] := by first | (simp [entryFrame, mkF, argsToLocals, Value.category]; done) | rfl
theorem d_j40_48_0 : decode jdk_40_method_48_code 0 = .ok (.aload_n 0, 1) := by decide +kernel
theorem w_42 {Z : State} {a0 : Array Value} (hw : ∀ d ∈ tables_1, d.before a0 Z = true) : (Jvm.Cond.methodLink "java/util/List" (112 : Nat) ({ cls := "java/util/ImmutableCollections", name := "listCopy", desc := "(Ljava/util/Collection;)Ljava/util/List;" } : Jvm.MethodName)).before a0 Z = true := hw _ (List.mem_of_getElem? (i := 42) rfl)
theorem w_45 {Z : State} {a0 : Array Value} (hw : ∀ d ∈ tables_1, d.before a0 Z = true) : (Jvm.Cond.code ({ cls := "java/util/ImmutableCollections", name := "listCopy", desc := "(Ljava/util/Collection;)Ljava/util/List;" } : Jvm.MethodName) jdk_56_method_3_code (2 : Nat) (Option.some (Jvm.ClassFile.FieldType.object "java/util/List"))).before a0 Z = true := hw _ (List.mem_of_getElem? (i := 45) rfl)
theorem pd_14 : parseMethodDescriptor "(Ljava/util/Collection;)Ljava/util/List;" = some ⟨[(.object "java/util/Collection")], some (.object "java/util/List")⟩ := by decide +kernel
theorem d_j40_48_1 : decode jdk_40_method_48_code 1 = .ok (.invokestatic 112, 3) := by decide +kernel
theorem w_43 {Z : State} {a0 : Array Value} (hw : ∀ d ∈ tables_1, d.before a0 Z = true) : (Jvm.Cond.static ({ cls := "java/util/ImmutableCollections", name := "listCopy", desc := "(Ljava/util/Collection;)Ljava/util/List;" } : Jvm.MethodName)).before a0 Z = true := hw _ (List.mem_of_getElem? (i := 43) rfl)
theorem d_j40_48_4 : decode jdk_40_method_48_code 4 = .ok (.areturn, 1) := by decide +kernel
set_option maxRecDepth 65536 in
set_option maxHeartbeats 40000000 in
theorem rm_cop_0 (l : Launch) (Z : State) (a0 : Array Value) (hw : ∀ d ∈ tables_1, d.before a0 Z = true) (ws : List Jvm.Cond) (ua ue ude : Addr) (kde : ClassId) (uel uem : Addr) (kem : ClassId) (uemp urec umi : Addr) (h0 : Heap) (n0 : Nat) (Z0 : n0 ≤ h0.size) (F2 : Fld Z h0 ua "java/util/ArrayList" "size" "I" (.int (0 : Int32))) (E0 : Exa Z h0 ua "java/util/ArrayList") (O0 : Old Z n0 h0) (hF : own_Fac Z ue ude kde uel uem kem uemp urec umi) :
    own_Met l Z (⟨"java/util/List", "copyOf", "(Ljava/util/Collection;)Ljava/util/List;"⟩ : MethodName) jdk_40_method_48_code 1 (some (.object "java/util/List")) ws ({ frames := 2, cells := 0, slots := 0, locals := 25 } : Room) #[(.ref ua)] h0 (Q_cop_0 Z ua ue ude kde uel uem kem uemp urec umi h0 n0) := by
  refine own_enter (own := "java/util/List") (plainFor_of_name pn_11) rfl ?_
  intro p e s m below meth c s₁ hlk hret hx hby hml hown hnm hZ X0 e0
  have N0 := Fr.nil n0
  refine own_cast (ef_cop_0 m ua) ?_
  obtain ⟨Se, Ee, Sd, Ad, Sl, El, Fl, Am, Sm, Em, Sr, Er, Fr1, Fr0, Mi⟩ := id hF
  show own_Go _ _ _ _ (s₁.setTop (mkF m 0 #[.val (.ref ua)] []))
  refine own_go (fun t k => XS.aloadN X0.here hx rfl (hb hby d_j40_48_0) rfl rfl k) ?_
  show own_Go _ _ _ _ (s₁.setTop (mkF m 1 #[.val (.ref ua)] [(.ref ua)]))
  obtain ⟨_, _, ⟨T277, L277, k277, n277⟩, -, X277, ⟨Lc277, hQ277, l277, y277, z277⟩, st277⟩ := Jvm.LawKit.callS X0 hx (y := (⟨"java/util/ImmutableCollections", "listCopy", "(Ljava/util/Collection;)Ljava/util/List;"⟩ : MethodName)) hown (mvT hZ (w_42 hw)) (mvT hZ (w_43 hw)) (mvT hZ (w_44 hw)) (mvT hZ (w_45 hw)) (by decide) (backOf (W := 0) (rm_lcp_0 l Z a0 hw [] ua ue ude kde uel uem kem uemp urec umi h0 n0 Z0 F2 E0 O0 hF) hZ (w_45 hw) (w_44 hw) (by decide) (by decide)) (g := (mkF m 1 #[.val (.ref ua)] [(.ref ua)])) rfl (by rw [hml]; rfl) (argsL := [(.ref ua)]) (rest := []) (lenOf pd_14 rfl) rfl (by show 2 * 0 + _ ≤ _; exact Nat.le_of_eq rfl) (hb hby d_j40_48_1) (fun _ _ => ⟨rfl, e0, (by decide : 0 + 0 ≤ _), (by decide : 0 + 0 ≤ _)⟩)
  dsimp only [Pt.U, Pt.locs, Pt.cells, Pt.slots] at X277 l277 y277 z277 st277 hQ277
  subst l277 y277 z277
  obtain ⟨rfl, N277q, e277⟩ := hQ277
  have N277 := Fr.app N0 N277q
  refine own_go st277 ?_
  show own_Go _ _ _ _ (T277.setTop (mkF m 4 #[.val (.ref ua)] [(.ref uel)]))
  refine own_ret X277 hx hlk hret rfl (Or.inr (Or.inr (Or.inr (Or.inr ⟨rfl, rfl, rfl⟩)))) (hb hby d_j40_48_4) ?_ (by decide) (by decide)
  rw [e277]
  exact ⟨rfl, N277, rfl⟩
def Q_lcp_1 (Z : State) (ua : Addr) (ub : Addr) (kb : ClassId) (ue : Addr) (ude : Addr) (kde : ClassId) (uel : Addr) (uem : Addr) (kem : ClassId) (uemp : Addr) (urec : Addr) (umi : Addr) (h0 : Heap) (n0 : Nat) (v : Option Value) (h : Heap) (L : List Loc) : Prop := ∃ ux : Addr, v = some (.ref ux) ∧ Fr n0 L ∧ Keep h0 h [] ∧ h0.size ≤ ux ∧ n0 ≤ ux ∧ Exa Z h ux "java/util/ImmutableCollections$List12" ∧ Fld Z h ux "java/util/ImmutableCollections$List12" "e0" "Ljava/lang/Object;" (.ref ue) ∧ Fld Z h ux "java/util/ImmutableCollections$List12" "e1" "Ljava/lang/Object;" (.ref uemp)
theorem ef_lcp_1 (m : MethodId) (ua : Addr) : entryFrame m #[(.ref ua)] 2 = mkF m 0 #[.val (.ref ua), .unset] [] := by first | (simp [entryFrame, mkF, argsToLocals, Value.category]; done) | rfl
theorem d_j56_3_44 : decode jdk_56_method_3_code 44 = .ok (.aload_n 0, 1) := by decide +kernel
theorem w_157 {Z : State} {a0 : Array Value} (hw : ∀ d ∈ tables_1, d.before a0 Z = true) : (Jvm.Cond.methodLink "java/util/ImmutableCollections" (30 : Nat) ({ cls := "java/util/Collection", name := "toArray", desc := "()[Ljava/lang/Object;" } : Jvm.MethodName)).before a0 Z = true := hw _ (List.mem_of_getElem? (i := 157) rfl)
theorem w_164 {Z : State} {a0 : Array Value} (hw : ∀ d ∈ tables_1, d.before a0 Z = true) : (Jvm.Cond.code ({ cls := "java/util/ArrayList", name := "toArray", desc := "()[Ljava/lang/Object;" } : Jvm.MethodName) jdk_38_method_16_code (1 : Nat) (Option.some (Jvm.ClassFile.FieldType.array (Jvm.ClassFile.FieldType.object "java/lang/Object")))).before a0 Z = true := hw _ (List.mem_of_getElem? (i := 164) rfl)
theorem d_j56_3_45 : decode jdk_56_method_3_code 45 = .ok (.invokeinterface 30 1, 5) := by decide +kernel
theorem w_160 {Z : State} {a0 : Array Value} (hw : ∀ d ∈ tables_1, d.before a0 Z = true) : (Jvm.Cond.selects "java/util/ArrayList" ({ cls := "java/util/Collection", name := "toArray", desc := "()[Ljava/lang/Object;" } : Jvm.MethodName) ({ cls := "java/util/ArrayList", name := "toArray", desc := "()[Ljava/lang/Object;" } : Jvm.MethodName)).before a0 Z = true := hw _ (List.mem_of_getElem? (i := 160) rfl)
theorem w_158 {Z : State} {a0 : Array Value} (hw : ∀ d ∈ tables_1, d.before a0 Z = true) : (Jvm.Cond.declares ({ cls := "java/util/Collection", name := "toArray", desc := "()[Ljava/lang/Object;" } : Jvm.MethodName)).before a0 Z = true := hw _ (List.mem_of_getElem? (i := 158) rfl)
theorem w_159 {Z : State} {a0 : Array Value} (hw : ∀ d ∈ tables_1, d.before a0 Z = true) : (Jvm.Cond.interfaceMethod "java/util/Collection" "java/util/Collection" "toArray" "()[Ljava/lang/Object;").before a0 Z = true := hw _ (List.mem_of_getElem? (i := 159) rfl)
theorem w_161 {Z : State} {a0 : Array Value} (hw : ∀ d ∈ tables_1, d.before a0 Z = true) : (Jvm.Cond.instanceMethod ({ cls := "java/util/ArrayList", name := "toArray", desc := "()[Ljava/lang/Object;" } : Jvm.MethodName)).before a0 Z = true := hw _ (List.mem_of_getElem? (i := 161) rfl)
theorem w_162 {Z : State} {a0 : Array Value} (hw : ∀ d ∈ tables_1, d.before a0 Z = true) : (Jvm.Cond.publicMethod ({ cls := "java/util/ArrayList", name := "toArray", desc := "()[Ljava/lang/Object;" } : Jvm.MethodName)).before a0 Z = true := hw _ (List.mem_of_getElem? (i := 162) rfl)
theorem w_163 {Z : State} {a0 : Array Value} (hw : ∀ d ∈ tables_1, d.before a0 Z = true) : (Jvm.Cond.unhidden "java/util/ArrayList" "toArray" "()[Ljava/lang/Object;").before a0 Z = true := hw _ (List.mem_of_getElem? (i := 163) rfl)
theorem w_187 {Z : State} {a0 : Array Value} (hw : ∀ d ∈ tables_1, d.before a0 Z = true) : (Jvm.Cond.methodLink "java/util/ImmutableCollections" (34 : Nat) ({ cls := "java/util/List", name := "of", desc := "([Ljava/lang/Object;)Ljava/util/List;" } : Jvm.MethodName)).before a0 Z = true := hw _ (List.mem_of_getElem? (i := 187) rfl)
theorem w_189 {Z : State} {a0 : Array Value} (hw : ∀ d ∈ tables_1, d.before a0 Z = true) : (Jvm.Cond.code ({ cls := "java/util/List", name := "of", desc := "([Ljava/lang/Object;)Ljava/util/List;" } : Jvm.MethodName) jdk_40_method_47_code (2 : Nat) (Option.some (Jvm.ClassFile.FieldType.object "java/util/List"))).before a0 Z = true := hw _ (List.mem_of_getElem? (i := 189) rfl)
theorem d_j56_3_50 : decode jdk_56_method_3_code 50 = .ok (.invokestatic 34, 3) := by decide +kernel
theorem w_188 {Z : State} {a0 : Array Value} (hw : ∀ d ∈ tables_1, d.before a0 Z = true) : (Jvm.Cond.static ({ cls := "java/util/List", name := "of", desc := "([Ljava/lang/Object;)Ljava/util/List;" } : Jvm.MethodName)).before a0 Z = true := hw _ (List.mem_of_getElem? (i := 188) rfl)
theorem d_j56_3_53 : decode jdk_56_method_3_code 53 = .ok (.areturn, 1) := by decide +kernel
set_option maxRecDepth 65536 in
set_option maxHeartbeats 40000000 in
theorem rm_lcp_1 (l : Launch) (Z : State) (a0 : Array Value) (hw : ∀ d ∈ tables_1, d.before a0 Z = true) (ws : List Jvm.Cond) (ua ub : Addr) (kb : ClassId) (ue ude : Addr) (kde : ClassId) (uel uem : Addr) (kem : ClassId) (uemp urec umi : Addr) (h0 : Heap) (n0 : Nat) (Z0 : n0 ≤ h0.size) (F1 : Fld Z h0 ua "java/util/ArrayList" "elementData" "[Ljava/lang/Object;" (.ref ub)) (F2 : Fld Z h0 ua "java/util/ArrayList" "size" "I" (.int (1 : Int32))) (E0 : Exa Z h0 ua "java/util/ArrayList") (B0 : Arv Z h0 ub kb (.object "java/lang/Object") (10 : Int32) [(.ref ue), .null, .null, .null, .null, .null, .null, .null, .null, .null] .null) (Eb : Exa Z h0 ub "[Ljava/lang/Object;") (O0 : Old Z n0 h0) (hF : own_Fac Z ue ude kde uel uem kem uemp urec umi) :
    own_Met l Z (⟨"java/util/ImmutableCollections", "listCopy", "(Ljava/util/Collection;)Ljava/util/List;"⟩ : MethodName) jdk_56_method_3_code 2 (some (.object "java/util/List")) ws ({ frames := 6, cells := 2, slots := 3, locals := 75 } : Room) #[(.ref ua)] h0 (Q_lcp_1 Z ua ub kb ue ude kde uel uem kem uemp urec umi h0 n0) := by
  refine own_enter (own := "java/util/ImmutableCollections") (plainFor_of_name pn_10) rfl ?_
  intro p e s m below meth c s₁ hlk hret hx hby hml hown hnm hZ X0 e0
  have N0 := Fr.nil n0
  refine own_cast (ef_lcp_1 m ua) ?_
  obtain ⟨Se, Ee, Sd, Ad, Sl, El, Fl, Am, Sm, Em, Sr, Er, Fr1, Fr0, Mi⟩ := id hF
  show own_Go _ _ _ _ (s₁.setTop (mkF m 0 #[.val (.ref ua), .unset] []))
  refine own_go (fun t k => XS.aloadN X0.here hx rfl (hb hby d_j56_3_0) rfl rfl k) ?_
  show own_Go _ _ _ _ (s₁.setTop (mkF m 1 #[.val (.ref ua), .unset] [(.ref ua)]))
  obtain ⟨T278, X278, e278, st278⟩ := instNo X0 hx hZ hown (w_46 hw) e0 E0 (own_NSno (w_47 hw) (w_191 hw) (NS.step (w_47 hw) (NS.step (w_48 hw) (NS.step (w_49 hw) (own_NSroot (w_50 hw) (w_191 hw) (by decide)) (by decide)) (by decide)) (by decide)) (by decide)) (g := (mkF m 1 #[.val (.ref ua), .unset] [(.ref ua)])) rfl rfl (hb hby d_j56_3_1)
  refine own_go st278 ?_
  show own_Go _ _ _ _ (T278.setTop (mkF m 4 #[.val (.ref ua), .unset] [(.int (0 : Int32))]))
  refine own_go (fun t k => XS.ifNo X278.here hx rfl (hb hby d_j56_3_4) rfl ((if0 _ _).trans (teq (by decide : (0 : Int32) = (0 : Int32))).2) k) ?_
  show own_Go _ _ _ _ (T278.setTop (mkF m 7 #[.val (.ref ua), .unset] []))
  refine own_go (fun t k => XS.aloadN X278.here hx rfl (hb hby d_j56_3_7) rfl rfl k) ?_
  show own_Go _ _ _ _ (T278.setTop (mkF m 8 #[.val (.ref ua), .unset] [(.ref ua)]))
  obtain ⟨T279, X279, e279, st279⟩ := instNo X278 hx hZ hown (w_51 hw) e278 E0 (own_NSno (w_47 hw) (w_224 hw) (NS.step (w_47 hw) (NS.step (w_48 hw) (NS.step (w_49 hw) (own_NSroot (w_50 hw) (w_224 hw) (by decide)) (by decide)) (by decide)) (by decide)) (by decide)) (g := (mkF m 8 #[.val (.ref ua), .unset] [(.ref ua)])) rfl rfl (hb hby d_j56_3_8)
  refine own_go st279 ?_
  show own_Go _ _ _ _ (T279.setTop (mkF m 11 #[.val (.ref ua), .unset] [(.int (0 : Int32))]))
  refine own_go (fun t k => XS.ifYes X279.here hx rfl (pc0 := 11) (pc' := 31) rfl (hb hby d_j56_3_11) rfl ((if0 _ _).trans (teq (by decide : (0 : Int32) = (0 : Int32))).1) (by decide) (by decide) k) ?_
  show own_Go _ _ _ _ (T279.setTop (mkF m 31 #[.val (.ref ua), .unset] []))
  refine own_go (fun t k => XS.aloadN X279.here hx rfl (hb hby d_j56_3_31) rfl rfl k) ?_
  show own_Go _ _ _ _ (T279.setTop (mkF m 32 #[.val (.ref ua), .unset] [(.ref ua)]))
  obtain ⟨cq280, kq280, q280a, q280b, q280c⟩ := isOf hZ e279 E0
  obtain ⟨_, _, ⟨T280, L280, k280, n280⟩, -, X280, ⟨Lc280, hQ280, l280, y280, z280⟩, st280⟩ := X279.interfaceBack hx (xi := (⟨"java/util/Collection", "isEmpty", "()Z"⟩ : MethodName)) (y := (⟨"java/util/ArrayList", "isEmpty", "()Z"⟩ : MethodName)) hown (mvT hZ (w_52 hw)) (mvT hZ (w_53 hw)) (mvT hZ (w_54 hw)) (mvT hZ (w_55 hw)) (mvT hZ (w_56 hw)) (mvT hZ (w_57 hw)) (mvT hZ (w_58 hw)) (mvT hZ (w_59 hw)) (by decide) (backOf (W := 0) (rm_emp_1 l Z a0 hw [] ua h0 n0 Z0 F2) hZ (w_60 hw) (w_2 hw) (by decide) (by decide)) q280a q280b q280c (g := (mkF m 32 #[.val (.ref ua), .unset] [(.ref ua)])) rfl (by rw [hml]; rfl) (Steps.refl _) (argsL := []) (rest := []) (lenOf pd_12 rfl) rfl (by show 2 * 0 + _ ≤ _; exact Nat.le_of_eq rfl) (hb hby d_j56_3_32) (fun _ _ => ⟨rfl, e279, (by decide : 0 + 0 ≤ _), (by decide : 0 + 0 ≤ _)⟩)
  dsimp only [Pt.U, Pt.locs, Pt.cells, Pt.slots] at X280 l280 y280 z280 st280 hQ280
  subst l280 y280 z280
  obtain ⟨rfl, N280q, e280⟩ := hQ280
  have N280 := Fr.app N0 N280q
  refine own_go (fun t k => st280.trans k) ?_
  show own_Go _ _ _ _ (T280.setTop (mkF m 37 #[.val (.ref ua), .unset] [(.int (0 : Int32))]))
  refine own_go (fun t k => XS.ifYes X280.here hx rfl (pc0 := 37) (pc' := 44) rfl (hb hby d_j56_3_37) rfl ((if0 _ _).trans (teq (by decide : (0 : Int32) = (0 : Int32))).1) (by decide) (by decide) k) ?_
  show own_Go _ _ _ _ (T280.setTop (mkF m 44 #[.val (.ref ua), .unset] []))
  refine own_go (fun t k => XS.aloadN X280.here hx rfl (hb hby d_j56_3_44) rfl rfl k) ?_
  show own_Go _ _ _ _ (T280.setTop (mkF m 45 #[.val (.ref ua), .unset] [(.ref ua)]))
  obtain ⟨cq281, kq281, q281a, q281b, q281c⟩ := isOf hZ e280 E0
  obtain ⟨_, _, ⟨T281, L281, k281, n281⟩, -, X281, ⟨Lc281, hQ281, l281, y281, z281⟩, st281⟩ := X280.interfaceBack hx (xi := (⟨"java/util/Collection", "toArray", "()[Ljava/lang/Object;"⟩ : MethodName)) (y := (⟨"java/util/ArrayList", "toArray", "()[Ljava/lang/Object;"⟩ : MethodName)) hown (mvT hZ (w_157 hw)) (mvT hZ (w_158 hw)) (mvT hZ (w_159 hw)) (mvT hZ (w_160 hw)) (mvT hZ (w_161 hw)) (mvT hZ (w_162 hw)) (mvT hZ (w_163 hw)) (mvT hZ (w_59 hw)) (by decide) (backOf (W := 0) (rm_toa_1 l Z a0 hw [] ua ub kb ue ude kde uel uem kem uemp urec umi h0 n0 Z0 F1 F2 B0 Eb O0 hF) hZ (w_164 hw) (w_2 hw) (by decide) (by decide)) q281a q281b q281c (g := (mkF m 45 #[.val (.ref ua), .unset] [(.ref ua)])) rfl (by rw [hml]; rfl) (Steps.refl _) (argsL := []) (rest := []) (lenOf pd_3 rfl) rfl (by show 2 * 0 + _ ≤ _; exact Nat.le_of_eq rfl) (hb hby d_j56_3_45) (fun _ _ => ⟨rfl, e280, (by decide : 0 + 1 ≤ _), (by decide : 0 + 1 ≤ _)⟩)
  dsimp only [Pt.U, Pt.locs, Pt.cells, Pt.slots] at X281 l281 y281 z281 st281 hQ281
  subst l281 y281 z281
  generalize e281 : T281.heap = h281 at hQ281
  obtain ⟨uc281, kc281, rfl, N281q, K281q, lo281, q281, A281⟩ := hQ281
  have N281 := Fr.app N280 N281q
  refine own_go (fun t k => st281.trans k) ?_
  have Z281 : n0 ≤ h281.size := (Nat.le_trans Z0 K281q.1)
  have K281 : Keep h0 h281 [] := (Keep.refl h0 []).trans K281q all0
  have hi281 := A281.lt
  show own_Go _ _ _ _ (T281.setTop (mkF m 50 #[.val (.ref ua), .unset] [(.ref uc281)]))
  obtain ⟨_, _, ⟨T282, L282, k282, n282⟩, -, X282, ⟨Lc282, hQ282, l282, y282, z282⟩, st282⟩ := Jvm.LawKit.callS X281 hx (y := (⟨"java/util/List", "of", "([Ljava/lang/Object;)Ljava/util/List;"⟩ : MethodName)) hown (mvT hZ (w_187 hw)) (mvT hZ (w_188 hw)) (mvT hZ (w_40 hw)) (mvT hZ (w_189 hw)) (by decide) (backOf (W := 0) (rm_lof_1 l Z a0 hw [] uc281 kc281 ue ude kde uel uem kem uemp urec umi h281 n0 Z281 A281 (O0.keep K281q all0) hF) hZ (w_189 hw) (w_40 hw) (by decide) (by decide)) (g := (mkF m 50 #[.val (.ref ua), .unset] [(.ref uc281)])) rfl (by rw [hml]; rfl) (argsL := [(.ref uc281)]) (rest := []) (lenOf pd_11 rfl) rfl (by show 2 * 0 + _ ≤ _; exact Nat.le_of_eq rfl) (hb hby d_j56_3_50) (fun _ _ => ⟨rfl, e281, (by decide : 1 + 1 ≤ _), (by decide : 1 + 2 ≤ _)⟩)
  dsimp only [Pt.U, Pt.locs, Pt.cells, Pt.slots] at X282 l282 y282 z282 st282 hQ282
  subst l282 y282 z282
  generalize e282 : T282.heap = h282 at hQ282
  obtain ⟨ux282, rfl, N282q, K282q, lo282, q282, Ex282, Fx282, Fy282⟩ := hQ282
  have N282 := Fr.app N281 N282q
  refine own_go st282 ?_
  have Z282 : n0 ≤ h282.size := (Nat.le_trans Z281 K282q.1)
  have K282 : Keep h0 h282 [] := K281.trans K282q all0
  have hi282 := Ex282.lt
  show own_Go _ _ _ _ (T282.setTop (mkF m 53 #[.val (.ref ua), .unset] [(.ref ux282)]))
  refine own_ret X282 hx hlk hret rfl (Or.inr (Or.inr (Or.inr (Or.inr ⟨rfl, rfl, rfl⟩)))) (hb hby d_j56_3_53) ?_ (by decide) (by decide)
  rw [e282]
  exact ⟨ux282, rfl, N282, K282, (Nat.le_trans K281q.1 lo282), q282, Ex282, Fx282, Fy282⟩
def Q_cop_1 (Z : State) (ua : Addr) (ub : Addr) (kb : ClassId) (ue : Addr) (ude : Addr) (kde : ClassId) (uel : Addr) (uem : Addr) (kem : ClassId) (uemp : Addr) (urec : Addr) (umi : Addr) (h0 : Heap) (n0 : Nat) (v : Option Value) (h : Heap) (L : List Loc) : Prop := ∃ ux : Addr, v = some (.ref ux) ∧ Fr n0 L ∧ Keep h0 h [] ∧ h0.size ≤ ux ∧ n0 ≤ ux ∧ Exa Z h ux "java/util/ImmutableCollections$List12" ∧ Fld Z h ux "java/util/ImmutableCollections$List12" "e0" "Ljava/lang/Object;" (.ref ue) ∧ Fld Z h ux "java/util/ImmutableCollections$List12" "e1" "Ljava/lang/Object;" (.ref uemp)
theorem ef_cop_1 (m : MethodId) (ua : Addr) : entryFrame m #[(.ref ua)] 1 = mkF m 0 #[.val (.ref ua)] [] := by first | (simp [entryFrame, mkF, argsToLocals, Value.category]; done) | rfl
set_option maxRecDepth 65536 in
set_option maxHeartbeats 40000000 in
theorem rm_cop_1 (l : Launch) (Z : State) (a0 : Array Value) (hw : ∀ d ∈ tables_1, d.before a0 Z = true) (ws : List Jvm.Cond) (ua ub : Addr) (kb : ClassId) (ue ude : Addr) (kde : ClassId) (uel uem : Addr) (kem : ClassId) (uemp urec umi : Addr) (h0 : Heap) (n0 : Nat) (Z0 : n0 ≤ h0.size) (F1 : Fld Z h0 ua "java/util/ArrayList" "elementData" "[Ljava/lang/Object;" (.ref ub)) (F2 : Fld Z h0 ua "java/util/ArrayList" "size" "I" (.int (1 : Int32))) (E0 : Exa Z h0 ua "java/util/ArrayList") (B0 : Arv Z h0 ub kb (.object "java/lang/Object") (10 : Int32) [(.ref ue), .null, .null, .null, .null, .null, .null, .null, .null, .null] .null) (Eb : Exa Z h0 ub "[Ljava/lang/Object;") (O0 : Old Z n0 h0) (hF : own_Fac Z ue ude kde uel uem kem uemp urec umi) :
    own_Met l Z (⟨"java/util/List", "copyOf", "(Ljava/util/Collection;)Ljava/util/List;"⟩ : MethodName) jdk_40_method_48_code 1 (some (.object "java/util/List")) ws ({ frames := 7, cells := 2, slots := 3, locals := 88 } : Room) #[(.ref ua)] h0 (Q_cop_1 Z ua ub kb ue ude kde uel uem kem uemp urec umi h0 n0) := by
  refine own_enter (own := "java/util/List") (plainFor_of_name pn_11) rfl ?_
  intro p e s m below meth c s₁ hlk hret hx hby hml hown hnm hZ X0 e0
  have N0 := Fr.nil n0
  refine own_cast (ef_cop_1 m ua) ?_
  obtain ⟨Se, Ee, Sd, Ad, Sl, El, Fl, Am, Sm, Em, Sr, Er, Fr1, Fr0, Mi⟩ := id hF
  show own_Go _ _ _ _ (s₁.setTop (mkF m 0 #[.val (.ref ua)] []))
  refine own_go (fun t k => XS.aloadN X0.here hx rfl (hb hby d_j40_48_0) rfl rfl k) ?_
  show own_Go _ _ _ _ (s₁.setTop (mkF m 1 #[.val (.ref ua)] [(.ref ua)]))
  obtain ⟨_, _, ⟨T283, L283, k283, n283⟩, -, X283, ⟨Lc283, hQ283, l283, y283, z283⟩, st283⟩ := Jvm.LawKit.callS X0 hx (y := (⟨"java/util/ImmutableCollections", "listCopy", "(Ljava/util/Collection;)Ljava/util/List;"⟩ : MethodName)) hown (mvT hZ (w_42 hw)) (mvT hZ (w_43 hw)) (mvT hZ (w_44 hw)) (mvT hZ (w_45 hw)) (by decide) (backOf (W := 0) (rm_lcp_1 l Z a0 hw [] ua ub kb ue ude kde uel uem kem uemp urec umi h0 n0 Z0 F1 F2 E0 B0 Eb O0 hF) hZ (w_45 hw) (w_44 hw) (by decide) (by decide)) (g := (mkF m 1 #[.val (.ref ua)] [(.ref ua)])) rfl (by rw [hml]; rfl) (argsL := [(.ref ua)]) (rest := []) (lenOf pd_14 rfl) rfl (by show 2 * 0 + _ ≤ _; exact Nat.le_of_eq rfl) (hb hby d_j40_48_1) (fun _ _ => ⟨rfl, e0, (by decide : 0 + 2 ≤ _), (by decide : 0 + 3 ≤ _)⟩)
  dsimp only [Pt.U, Pt.locs, Pt.cells, Pt.slots] at X283 l283 y283 z283 st283 hQ283
  subst l283 y283 z283
  generalize e283 : T283.heap = h283 at hQ283
  obtain ⟨ux283, rfl, N283q, K283q, lo283, q283, Ex283, Fx283, Fy283⟩ := hQ283
  have N283 := Fr.app N0 N283q
  refine own_go st283 ?_
  have Z283 : n0 ≤ h283.size := (Nat.le_trans Z0 K283q.1)
  have K283 : Keep h0 h283 [] := (Keep.refl h0 []).trans K283q all0
  have hi283 := Ex283.lt
  show own_Go _ _ _ _ (T283.setTop (mkF m 4 #[.val (.ref ua)] [(.ref ux283)]))
  refine own_ret X283 hx hlk hret rfl (Or.inr (Or.inr (Or.inr (Or.inr ⟨rfl, rfl, rfl⟩)))) (hb hby d_j40_48_4) ?_ (by decide) (by decide)
  rw [e283]
  exact ⟨ux283, rfl, N283, K283, lo283, q283, Ex283, Fx283, Fy283⟩
def Q_lcp_2 (Z : State) (ua : Addr) (ub : Addr) (kb : ClassId) (ue : Addr) (ude : Addr) (kde : ClassId) (uel : Addr) (uem : Addr) (kem : ClassId) (uemp : Addr) (urec : Addr) (umi : Addr) (h0 : Heap) (n0 : Nat) (v : Option Value) (h : Heap) (L : List Loc) : Prop := ∃ ux : Addr, v = some (.ref ux) ∧ Fr n0 L ∧ Keep h0 h [] ∧ h0.size ≤ ux ∧ n0 ≤ ux ∧ Exa Z h ux "java/util/ImmutableCollections$List12" ∧ Fld Z h ux "java/util/ImmutableCollections$List12" "e0" "Ljava/lang/Object;" (.ref ue) ∧ Fld Z h ux "java/util/ImmutableCollections$List12" "e1" "Ljava/lang/Object;" (.ref ue)
theorem ef_lcp_2 (m : MethodId) (ua : Addr) : entryFrame m #[(.ref ua)] 2 = mkF m 0 #[.val (.ref ua), .unset] [] := by first | (simp [entryFrame, mkF, argsToLocals, Value.category]; done) | rfl
set_option maxRecDepth 65536 in
set_option maxHeartbeats 40000000 in
theorem rm_lcp_2 (l : Launch) (Z : State) (a0 : Array Value) (hw : ∀ d ∈ tables_1, d.before a0 Z = true) (ws : List Jvm.Cond) (ua ub : Addr) (kb : ClassId) (ue ude : Addr) (kde : ClassId) (uel uem : Addr) (kem : ClassId) (uemp urec umi : Addr) (h0 : Heap) (n0 : Nat) (Z0 : n0 ≤ h0.size) (F1 : Fld Z h0 ua "java/util/ArrayList" "elementData" "[Ljava/lang/Object;" (.ref ub)) (F2 : Fld Z h0 ua "java/util/ArrayList" "size" "I" (.int (2 : Int32))) (E0 : Exa Z h0 ua "java/util/ArrayList") (B0 : Arv Z h0 ub kb (.object "java/lang/Object") (10 : Int32) [(.ref ue), (.ref ue), .null, .null, .null, .null, .null, .null, .null, .null] .null) (Eb : Exa Z h0 ub "[Ljava/lang/Object;") (O0 : Old Z n0 h0) (hF : own_Fac Z ue ude kde uel uem kem uemp urec umi) :
    own_Met l Z (⟨"java/util/ImmutableCollections", "listCopy", "(Ljava/util/Collection;)Ljava/util/List;"⟩ : MethodName) jdk_56_method_3_code 2 (some (.object "java/util/List")) ws ({ frames := 6, cells := 2, slots := 4, locals := 76 } : Room) #[(.ref ua)] h0 (Q_lcp_2 Z ua ub kb ue ude kde uel uem kem uemp urec umi h0 n0) := by
  refine own_enter (own := "java/util/ImmutableCollections") (plainFor_of_name pn_10) rfl ?_
  intro p e s m below meth c s₁ hlk hret hx hby hml hown hnm hZ X0 e0
  have N0 := Fr.nil n0
  refine own_cast (ef_lcp_2 m ua) ?_
  obtain ⟨Se, Ee, Sd, Ad, Sl, El, Fl, Am, Sm, Em, Sr, Er, Fr1, Fr0, Mi⟩ := id hF
  show own_Go _ _ _ _ (s₁.setTop (mkF m 0 #[.val (.ref ua), .unset] []))
  refine own_go (fun t k => XS.aloadN X0.here hx rfl (hb hby d_j56_3_0) rfl rfl k) ?_
  show own_Go _ _ _ _ (s₁.setTop (mkF m 1 #[.val (.ref ua), .unset] [(.ref ua)]))
  obtain ⟨T284, X284, e284, st284⟩ := instNo X0 hx hZ hown (w_46 hw) e0 E0 (own_NSno (w_47 hw) (w_191 hw) (NS.step (w_47 hw) (NS.step (w_48 hw) (NS.step (w_49 hw) (own_NSroot (w_50 hw) (w_191 hw) (by decide)) (by decide)) (by decide)) (by decide)) (by decide)) (g := (mkF m 1 #[.val (.ref ua), .unset] [(.ref ua)])) rfl rfl (hb hby d_j56_3_1)
  refine own_go st284 ?_
  show own_Go _ _ _ _ (T284.setTop (mkF m 4 #[.val (.ref ua), .unset] [(.int (0 : Int32))]))
  refine own_go (fun t k => XS.ifNo X284.here hx rfl (hb hby d_j56_3_4) rfl ((if0 _ _).trans (teq (by decide : (0 : Int32) = (0 : Int32))).2) k) ?_
  show own_Go _ _ _ _ (T284.setTop (mkF m 7 #[.val (.ref ua), .unset] []))
  refine own_go (fun t k => XS.aloadN X284.here hx rfl (hb hby d_j56_3_7) rfl rfl k) ?_
  show own_Go _ _ _ _ (T284.setTop (mkF m 8 #[.val (.ref ua), .unset] [(.ref ua)]))
  obtain ⟨T285, X285, e285, st285⟩ := instNo X284 hx hZ hown (w_51 hw) e284 E0 (own_NSno (w_47 hw) (w_224 hw) (NS.step (w_47 hw) (NS.step (w_48 hw) (NS.step (w_49 hw) (own_NSroot (w_50 hw) (w_224 hw) (by decide)) (by decide)) (by decide)) (by decide)) (by decide)) (g := (mkF m 8 #[.val (.ref ua), .unset] [(.ref ua)])) rfl rfl (hb hby d_j56_3_8)
  refine own_go st285 ?_
  show own_Go _ _ _ _ (T285.setTop (mkF m 11 #[.val (.ref ua), .unset] [(.int (0 : Int32))]))
  refine own_go (fun t k => XS.ifYes X285.here hx rfl (pc0 := 11) (pc' := 31) rfl (hb hby d_j56_3_11) rfl ((if0 _ _).trans (teq (by decide : (0 : Int32) = (0 : Int32))).1) (by decide) (by decide) k) ?_
  show own_Go _ _ _ _ (T285.setTop (mkF m 31 #[.val (.ref ua), .unset] []))
  refine own_go (fun t k => XS.aloadN X285.here hx rfl (hb hby d_j56_3_31) rfl rfl k) ?_
  show own_Go _ _ _ _ (T285.setTop (mkF m 32 #[.val (.ref ua), .unset] [(.ref ua)]))
  obtain ⟨cq286, kq286, q286a, q286b, q286c⟩ := isOf hZ e285 E0
  obtain ⟨_, _, ⟨T286, L286, k286, n286⟩, -, X286, ⟨Lc286, hQ286, l286, y286, z286⟩, st286⟩ := X285.interfaceBack hx (xi := (⟨"java/util/Collection", "isEmpty", "()Z"⟩ : MethodName)) (y := (⟨"java/util/ArrayList", "isEmpty", "()Z"⟩ : MethodName)) hown (mvT hZ (w_52 hw)) (mvT hZ (w_53 hw)) (mvT hZ (w_54 hw)) (mvT hZ (w_55 hw)) (mvT hZ (w_56 hw)) (mvT hZ (w_57 hw)) (mvT hZ (w_58 hw)) (mvT hZ (w_59 hw)) (by decide) (backOf (W := 0) (rm_emp_2 l Z a0 hw [] ua h0 n0 Z0 F2) hZ (w_60 hw) (w_2 hw) (by decide) (by decide)) q286a q286b q286c (g := (mkF m 32 #[.val (.ref ua), .unset] [(.ref ua)])) rfl (by rw [hml]; rfl) (Steps.refl _) (argsL := []) (rest := []) (lenOf pd_12 rfl) rfl (by show 2 * 0 + _ ≤ _; exact Nat.le_of_eq rfl) (hb hby d_j56_3_32) (fun _ _ => ⟨rfl, e285, (by decide : 0 + 0 ≤ _), (by decide : 0 + 0 ≤ _)⟩)
  dsimp only [Pt.U, Pt.locs, Pt.cells, Pt.slots] at X286 l286 y286 z286 st286 hQ286
  subst l286 y286 z286
  obtain ⟨rfl, N286q, e286⟩ := hQ286
  have N286 := Fr.app N0 N286q
  refine own_go (fun t k => st286.trans k) ?_
  show own_Go _ _ _ _ (T286.setTop (mkF m 37 #[.val (.ref ua), .unset] [(.int (0 : Int32))]))
  refine own_go (fun t k => XS.ifYes X286.here hx rfl (pc0 := 37) (pc' := 44) rfl (hb hby d_j56_3_37) rfl ((if0 _ _).trans (teq (by decide : (0 : Int32) = (0 : Int32))).1) (by decide) (by decide) k) ?_
  show own_Go _ _ _ _ (T286.setTop (mkF m 44 #[.val (.ref ua), .unset] []))
  refine own_go (fun t k => XS.aloadN X286.here hx rfl (hb hby d_j56_3_44) rfl rfl k) ?_
  show own_Go _ _ _ _ (T286.setTop (mkF m 45 #[.val (.ref ua), .unset] [(.ref ua)]))
  obtain ⟨cq287, kq287, q287a, q287b, q287c⟩ := isOf hZ e286 E0
  obtain ⟨_, _, ⟨T287, L287, k287, n287⟩, -, X287, ⟨Lc287, hQ287, l287, y287, z287⟩, st287⟩ := X286.interfaceBack hx (xi := (⟨"java/util/Collection", "toArray", "()[Ljava/lang/Object;"⟩ : MethodName)) (y := (⟨"java/util/ArrayList", "toArray", "()[Ljava/lang/Object;"⟩ : MethodName)) hown (mvT hZ (w_157 hw)) (mvT hZ (w_158 hw)) (mvT hZ (w_159 hw)) (mvT hZ (w_160 hw)) (mvT hZ (w_161 hw)) (mvT hZ (w_162 hw)) (mvT hZ (w_163 hw)) (mvT hZ (w_59 hw)) (by decide) (backOf (W := 0) (rm_toa_2 l Z a0 hw [] ua ub kb ue ude kde uel uem kem uemp urec umi h0 n0 Z0 F1 F2 B0 Eb O0 hF) hZ (w_164 hw) (w_2 hw) (by decide) (by decide)) q287a q287b q287c (g := (mkF m 45 #[.val (.ref ua), .unset] [(.ref ua)])) rfl (by rw [hml]; rfl) (Steps.refl _) (argsL := []) (rest := []) (lenOf pd_3 rfl) rfl (by show 2 * 0 + _ ≤ _; exact Nat.le_of_eq rfl) (hb hby d_j56_3_45) (fun _ _ => ⟨rfl, e286, (by decide : 0 + 1 ≤ _), (by decide : 0 + 2 ≤ _)⟩)
  dsimp only [Pt.U, Pt.locs, Pt.cells, Pt.slots] at X287 l287 y287 z287 st287 hQ287
  subst l287 y287 z287
  generalize e287 : T287.heap = h287 at hQ287
  obtain ⟨uc287, kc287, rfl, N287q, K287q, lo287, q287, A287⟩ := hQ287
  have N287 := Fr.app N286 N287q
  refine own_go (fun t k => st287.trans k) ?_
  have Z287 : n0 ≤ h287.size := (Nat.le_trans Z0 K287q.1)
  have K287 : Keep h0 h287 [] := (Keep.refl h0 []).trans K287q all0
  have hi287 := A287.lt
  show own_Go _ _ _ _ (T287.setTop (mkF m 50 #[.val (.ref ua), .unset] [(.ref uc287)]))
  obtain ⟨_, _, ⟨T288, L288, k288, n288⟩, -, X288, ⟨Lc288, hQ288, l288, y288, z288⟩, st288⟩ := Jvm.LawKit.callS X287 hx (y := (⟨"java/util/List", "of", "([Ljava/lang/Object;)Ljava/util/List;"⟩ : MethodName)) hown (mvT hZ (w_187 hw)) (mvT hZ (w_188 hw)) (mvT hZ (w_40 hw)) (mvT hZ (w_189 hw)) (by decide) (backOf (W := 0) (rm_lof_2 l Z a0 hw [] uc287 kc287 ue ude kde uel uem kem uemp urec umi h287 n0 Z287 A287 (O0.keep K287q all0) hF) hZ (w_189 hw) (w_40 hw) (by decide) (by decide)) (g := (mkF m 50 #[.val (.ref ua), .unset] [(.ref uc287)])) rfl (by rw [hml]; rfl) (argsL := [(.ref uc287)]) (rest := []) (lenOf pd_11 rfl) rfl (by show 2 * 0 + _ ≤ _; exact Nat.le_of_eq rfl) (hb hby d_j56_3_50) (fun _ _ => ⟨rfl, e287, (by decide : 1 + 1 ≤ _), (by decide : 2 + 2 ≤ _)⟩)
  dsimp only [Pt.U, Pt.locs, Pt.cells, Pt.slots] at X288 l288 y288 z288 st288 hQ288
  subst l288 y288 z288
  generalize e288 : T288.heap = h288 at hQ288
  obtain ⟨ux288, rfl, N288q, K288q, lo288, q288, Ex288, Fx288, Fy288⟩ := hQ288
  have N288 := Fr.app N287 N288q
  refine own_go st288 ?_
  have Z288 : n0 ≤ h288.size := (Nat.le_trans Z287 K288q.1)
  have K288 : Keep h0 h288 [] := K287.trans K288q all0
  have hi288 := Ex288.lt
  show own_Go _ _ _ _ (T288.setTop (mkF m 53 #[.val (.ref ua), .unset] [(.ref ux288)]))
  refine own_ret X288 hx hlk hret rfl (Or.inr (Or.inr (Or.inr (Or.inr ⟨rfl, rfl, rfl⟩)))) (hb hby d_j56_3_53) ?_ (by decide) (by decide)
  rw [e288]
  exact ⟨ux288, rfl, N288, K288, (Nat.le_trans K287q.1 lo288), q288, Ex288, Fx288, Fy288⟩
def Q_cop_2 (Z : State) (ua : Addr) (ub : Addr) (kb : ClassId) (ue : Addr) (ude : Addr) (kde : ClassId) (uel : Addr) (uem : Addr) (kem : ClassId) (uemp : Addr) (urec : Addr) (umi : Addr) (h0 : Heap) (n0 : Nat) (v : Option Value) (h : Heap) (L : List Loc) : Prop := ∃ ux : Addr, v = some (.ref ux) ∧ Fr n0 L ∧ Keep h0 h [] ∧ h0.size ≤ ux ∧ n0 ≤ ux ∧ Exa Z h ux "java/util/ImmutableCollections$List12" ∧ Fld Z h ux "java/util/ImmutableCollections$List12" "e0" "Ljava/lang/Object;" (.ref ue) ∧ Fld Z h ux "java/util/ImmutableCollections$List12" "e1" "Ljava/lang/Object;" (.ref ue)
theorem ef_cop_2 (m : MethodId) (ua : Addr) : entryFrame m #[(.ref ua)] 1 = mkF m 0 #[.val (.ref ua)] [] := by first | (simp [entryFrame, mkF, argsToLocals, Value.category]; done) | rfl
set_option maxRecDepth 65536 in
set_option maxHeartbeats 40000000 in
theorem rm_cop_2 (l : Launch) (Z : State) (a0 : Array Value) (hw : ∀ d ∈ tables_1, d.before a0 Z = true) (ws : List Jvm.Cond) (ua ub : Addr) (kb : ClassId) (ue ude : Addr) (kde : ClassId) (uel uem : Addr) (kem : ClassId) (uemp urec umi : Addr) (h0 : Heap) (n0 : Nat) (Z0 : n0 ≤ h0.size) (F1 : Fld Z h0 ua "java/util/ArrayList" "elementData" "[Ljava/lang/Object;" (.ref ub)) (F2 : Fld Z h0 ua "java/util/ArrayList" "size" "I" (.int (2 : Int32))) (E0 : Exa Z h0 ua "java/util/ArrayList") (B0 : Arv Z h0 ub kb (.object "java/lang/Object") (10 : Int32) [(.ref ue), (.ref ue), .null, .null, .null, .null, .null, .null, .null, .null] .null) (Eb : Exa Z h0 ub "[Ljava/lang/Object;") (O0 : Old Z n0 h0) (hF : own_Fac Z ue ude kde uel uem kem uemp urec umi) :
    own_Met l Z (⟨"java/util/List", "copyOf", "(Ljava/util/Collection;)Ljava/util/List;"⟩ : MethodName) jdk_40_method_48_code 1 (some (.object "java/util/List")) ws ({ frames := 7, cells := 2, slots := 4, locals := 89 } : Room) #[(.ref ua)] h0 (Q_cop_2 Z ua ub kb ue ude kde uel uem kem uemp urec umi h0 n0) := by
  refine own_enter (own := "java/util/List") (plainFor_of_name pn_11) rfl ?_
  intro p e s m below meth c s₁ hlk hret hx hby hml hown hnm hZ X0 e0
  have N0 := Fr.nil n0
  refine own_cast (ef_cop_2 m ua) ?_
  obtain ⟨Se, Ee, Sd, Ad, Sl, El, Fl, Am, Sm, Em, Sr, Er, Fr1, Fr0, Mi⟩ := id hF
  show own_Go _ _ _ _ (s₁.setTop (mkF m 0 #[.val (.ref ua)] []))
  refine own_go (fun t k => XS.aloadN X0.here hx rfl (hb hby d_j40_48_0) rfl rfl k) ?_
  show own_Go _ _ _ _ (s₁.setTop (mkF m 1 #[.val (.ref ua)] [(.ref ua)]))
  obtain ⟨_, _, ⟨T289, L289, k289, n289⟩, -, X289, ⟨Lc289, hQ289, l289, y289, z289⟩, st289⟩ := Jvm.LawKit.callS X0 hx (y := (⟨"java/util/ImmutableCollections", "listCopy", "(Ljava/util/Collection;)Ljava/util/List;"⟩ : MethodName)) hown (mvT hZ (w_42 hw)) (mvT hZ (w_43 hw)) (mvT hZ (w_44 hw)) (mvT hZ (w_45 hw)) (by decide) (backOf (W := 0) (rm_lcp_2 l Z a0 hw [] ua ub kb ue ude kde uel uem kem uemp urec umi h0 n0 Z0 F1 F2 E0 B0 Eb O0 hF) hZ (w_45 hw) (w_44 hw) (by decide) (by decide)) (g := (mkF m 1 #[.val (.ref ua)] [(.ref ua)])) rfl (by rw [hml]; rfl) (argsL := [(.ref ua)]) (rest := []) (lenOf pd_14 rfl) rfl (by show 2 * 0 + _ ≤ _; exact Nat.le_of_eq rfl) (hb hby d_j40_48_1) (fun _ _ => ⟨rfl, e0, (by decide : 0 + 2 ≤ _), (by decide : 0 + 4 ≤ _)⟩)
  dsimp only [Pt.U, Pt.locs, Pt.cells, Pt.slots] at X289 l289 y289 z289 st289 hQ289
  subst l289 y289 z289
  generalize e289 : T289.heap = h289 at hQ289
  obtain ⟨ux289, rfl, N289q, K289q, lo289, q289, Ex289, Fx289, Fy289⟩ := hQ289
  have N289 := Fr.app N0 N289q
  refine own_go st289 ?_
  have Z289 : n0 ≤ h289.size := (Nat.le_trans Z0 K289q.1)
  have K289 : Keep h0 h289 [] := (Keep.refl h0 []).trans K289q all0
  have hi289 := Ex289.lt
  show own_Go _ _ _ _ (T289.setTop (mkF m 4 #[.val (.ref ua)] [(.ref ux289)]))
  refine own_ret X289 hx hlk hret rfl (Or.inr (Or.inr (Or.inr (Or.inr ⟨rfl, rfl, rfl⟩)))) (hb hby d_j40_48_4) ?_ (by decide) (by decide)
  rw [e289]
  exact ⟨ux289, rfl, N289, K289, lo289, q289, Ex289, Fx289, Fy289⟩
def Q_lcp_3 (Z : State) (ua : Addr) (ub : Addr) (kb : ClassId) (ue : Addr) (ude : Addr) (kde : ClassId) (uel : Addr) (uem : Addr) (kem : ClassId) (uemp : Addr) (urec : Addr) (umi : Addr) (h0 : Heap) (n0 : Nat) (v : Option Value) (h : Heap) (L : List Loc) : Prop := ∃ ux : Addr, v = some (.ref ux) ∧ Fr n0 L ∧ Keep h0 h [] ∧ h0.size ≤ ux ∧ n0 ≤ ux ∧ ∃ (uy : Addr) (ky : ClassId), n0 ≤ uy ∧ h0.size ≤ uy ∧ Exa Z h ux "java/util/ImmutableCollections$ListN" ∧ Fld Z h ux "java/util/ImmutableCollections$ListN" "elements" "[Ljava/lang/Object;" (.ref uy) ∧ Arv Z h uy ky (.object "java/lang/Object") (3 : Int32) [(.ref ue), (.ref ue), (.ref ue)] .null
theorem ef_lcp_3 (m : MethodId) (ua : Addr) : entryFrame m #[(.ref ua)] 2 = mkF m 0 #[.val (.ref ua), .unset] [] := by first | (simp [entryFrame, mkF, argsToLocals, Value.category]; done) | rfl
set_option maxRecDepth 65536 in
set_option maxHeartbeats 40000000 in
theorem rm_lcp_3 (l : Launch) (Z : State) (a0 : Array Value) (hw : ∀ d ∈ tables_1, d.before a0 Z = true) (ws : List Jvm.Cond) (ua ub : Addr) (kb : ClassId) (ue ude : Addr) (kde : ClassId) (uel uem : Addr) (kem : ClassId) (uemp urec umi : Addr) (h0 : Heap) (n0 : Nat) (Z0 : n0 ≤ h0.size) (F1 : Fld Z h0 ua "java/util/ArrayList" "elementData" "[Ljava/lang/Object;" (.ref ub)) (F2 : Fld Z h0 ua "java/util/ArrayList" "size" "I" (.int (3 : Int32))) (E0 : Exa Z h0 ua "java/util/ArrayList") (B0 : Arv Z h0 ub kb (.object "java/lang/Object") (10 : Int32) [(.ref ue), (.ref ue), (.ref ue), .null, .null, .null, .null, .null, .null, .null] .null) (Eb : Exa Z h0 ub "[Ljava/lang/Object;") (O0 : Old Z n0 h0) (hF : own_Fac Z ue ude kde uel uem kem uemp urec umi) :
    own_Met l Z (⟨"java/util/ImmutableCollections", "listCopy", "(Ljava/util/Collection;)Ljava/util/List;"⟩ : MethodName) jdk_56_method_3_code 2 (some (.object "java/util/List")) ws ({ frames := 7, cells := 3, slots := 8, locals := 90 } : Room) #[(.ref ua)] h0 (Q_lcp_3 Z ua ub kb ue ude kde uel uem kem uemp urec umi h0 n0) := by
  refine own_enter (own := "java/util/ImmutableCollections") (plainFor_of_name pn_10) rfl ?_
  intro p e s m below meth c s₁ hlk hret hx hby hml hown hnm hZ X0 e0
  have N0 := Fr.nil n0
  refine own_cast (ef_lcp_3 m ua) ?_
  obtain ⟨Se, Ee, Sd, Ad, Sl, El, Fl, Am, Sm, Em, Sr, Er, Fr1, Fr0, Mi⟩ := id hF
  show own_Go _ _ _ _ (s₁.setTop (mkF m 0 #[.val (.ref ua), .unset] []))
  refine own_go (fun t k => XS.aloadN X0.here hx rfl (hb hby d_j56_3_0) rfl rfl k) ?_
  show own_Go _ _ _ _ (s₁.setTop (mkF m 1 #[.val (.ref ua), .unset] [(.ref ua)]))
  obtain ⟨T290, X290, e290, st290⟩ := instNo X0 hx hZ hown (w_46 hw) e0 E0 (own_NSno (w_47 hw) (w_191 hw) (NS.step (w_47 hw) (NS.step (w_48 hw) (NS.step (w_49 hw) (own_NSroot (w_50 hw) (w_191 hw) (by decide)) (by decide)) (by decide)) (by decide)) (by decide)) (g := (mkF m 1 #[.val (.ref ua), .unset] [(.ref ua)])) rfl rfl (hb hby d_j56_3_1)
  refine own_go st290 ?_
  show own_Go _ _ _ _ (T290.setTop (mkF m 4 #[.val (.ref ua), .unset] [(.int (0 : Int32))]))
  refine own_go (fun t k => XS.ifNo X290.here hx rfl (hb hby d_j56_3_4) rfl ((if0 _ _).trans (teq (by decide : (0 : Int32) = (0 : Int32))).2) k) ?_
  show own_Go _ _ _ _ (T290.setTop (mkF m 7 #[.val (.ref ua), .unset] []))
  refine own_go (fun t k => XS.aloadN X290.here hx rfl (hb hby d_j56_3_7) rfl rfl k) ?_
  show own_Go _ _ _ _ (T290.setTop (mkF m 8 #[.val (.ref ua), .unset] [(.ref ua)]))
  obtain ⟨T291, X291, e291, st291⟩ := instNo X290 hx hZ hown (w_51 hw) e290 E0 (own_NSno (w_47 hw) (w_224 hw) (NS.step (w_47 hw) (NS.step (w_48 hw) (NS.step (w_49 hw) (own_NSroot (w_50 hw) (w_224 hw) (by decide)) (by decide)) (by decide)) (by decide)) (by decide)) (g := (mkF m 8 #[.val (.ref ua), .unset] [(.ref ua)])) rfl rfl (hb hby d_j56_3_8)
  refine own_go st291 ?_
  show own_Go _ _ _ _ (T291.setTop (mkF m 11 #[.val (.ref ua), .unset] [(.int (0 : Int32))]))
  refine own_go (fun t k => XS.ifYes X291.here hx rfl (pc0 := 11) (pc' := 31) rfl (hb hby d_j56_3_11) rfl ((if0 _ _).trans (teq (by decide : (0 : Int32) = (0 : Int32))).1) (by decide) (by decide) k) ?_
  show own_Go _ _ _ _ (T291.setTop (mkF m 31 #[.val (.ref ua), .unset] []))
  refine own_go (fun t k => XS.aloadN X291.here hx rfl (hb hby d_j56_3_31) rfl rfl k) ?_
  show own_Go _ _ _ _ (T291.setTop (mkF m 32 #[.val (.ref ua), .unset] [(.ref ua)]))
  obtain ⟨cq292, kq292, q292a, q292b, q292c⟩ := isOf hZ e291 E0
  obtain ⟨_, _, ⟨T292, L292, k292, n292⟩, -, X292, ⟨Lc292, hQ292, l292, y292, z292⟩, st292⟩ := X291.interfaceBack hx (xi := (⟨"java/util/Collection", "isEmpty", "()Z"⟩ : MethodName)) (y := (⟨"java/util/ArrayList", "isEmpty", "()Z"⟩ : MethodName)) hown (mvT hZ (w_52 hw)) (mvT hZ (w_53 hw)) (mvT hZ (w_54 hw)) (mvT hZ (w_55 hw)) (mvT hZ (w_56 hw)) (mvT hZ (w_57 hw)) (mvT hZ (w_58 hw)) (mvT hZ (w_59 hw)) (by decide) (backOf (W := 0) (rm_emp_3 l Z a0 hw [] ua h0 n0 Z0 F2) hZ (w_60 hw) (w_2 hw) (by decide) (by decide)) q292a q292b q292c (g := (mkF m 32 #[.val (.ref ua), .unset] [(.ref ua)])) rfl (by rw [hml]; rfl) (Steps.refl _) (argsL := []) (rest := []) (lenOf pd_12 rfl) rfl (by show 2 * 0 + _ ≤ _; exact Nat.le_of_eq rfl) (hb hby d_j56_3_32) (fun _ _ => ⟨rfl, e291, (by decide : 0 + 0 ≤ _), (by decide : 0 + 0 ≤ _)⟩)
  dsimp only [Pt.U, Pt.locs, Pt.cells, Pt.slots] at X292 l292 y292 z292 st292 hQ292
  subst l292 y292 z292
  obtain ⟨rfl, N292q, e292⟩ := hQ292
  have N292 := Fr.app N0 N292q
  refine own_go (fun t k => st292.trans k) ?_
  show own_Go _ _ _ _ (T292.setTop (mkF m 37 #[.val (.ref ua), .unset] [(.int (0 : Int32))]))
  refine own_go (fun t k => XS.ifYes X292.here hx rfl (pc0 := 37) (pc' := 44) rfl (hb hby d_j56_3_37) rfl ((if0 _ _).trans (teq (by decide : (0 : Int32) = (0 : Int32))).1) (by decide) (by decide) k) ?_
  show own_Go _ _ _ _ (T292.setTop (mkF m 44 #[.val (.ref ua), .unset] []))
  refine own_go (fun t k => XS.aloadN X292.here hx rfl (hb hby d_j56_3_44) rfl rfl k) ?_
  show own_Go _ _ _ _ (T292.setTop (mkF m 45 #[.val (.ref ua), .unset] [(.ref ua)]))
  obtain ⟨cq293, kq293, q293a, q293b, q293c⟩ := isOf hZ e292 E0
  obtain ⟨_, _, ⟨T293, L293, k293, n293⟩, -, X293, ⟨Lc293, hQ293, l293, y293, z293⟩, st293⟩ := X292.interfaceBack hx (xi := (⟨"java/util/Collection", "toArray", "()[Ljava/lang/Object;"⟩ : MethodName)) (y := (⟨"java/util/ArrayList", "toArray", "()[Ljava/lang/Object;"⟩ : MethodName)) hown (mvT hZ (w_157 hw)) (mvT hZ (w_158 hw)) (mvT hZ (w_159 hw)) (mvT hZ (w_160 hw)) (mvT hZ (w_161 hw)) (mvT hZ (w_162 hw)) (mvT hZ (w_163 hw)) (mvT hZ (w_59 hw)) (by decide) (backOf (W := 0) (rm_toa_3 l Z a0 hw [] ua ub kb ue ude kde uel uem kem uemp urec umi h0 n0 Z0 F1 F2 B0 Eb O0 hF) hZ (w_164 hw) (w_2 hw) (by decide) (by decide)) q293a q293b q293c (g := (mkF m 45 #[.val (.ref ua), .unset] [(.ref ua)])) rfl (by rw [hml]; rfl) (Steps.refl _) (argsL := []) (rest := []) (lenOf pd_3 rfl) rfl (by show 2 * 0 + _ ≤ _; exact Nat.le_of_eq rfl) (hb hby d_j56_3_45) (fun _ _ => ⟨rfl, e292, (by decide : 0 + 1 ≤ _), (by decide : 0 + 3 ≤ _)⟩)
  dsimp only [Pt.U, Pt.locs, Pt.cells, Pt.slots] at X293 l293 y293 z293 st293 hQ293
  subst l293 y293 z293
  generalize e293 : T293.heap = h293 at hQ293
  obtain ⟨uc293, kc293, rfl, N293q, K293q, lo293, q293, A293⟩ := hQ293
  have N293 := Fr.app N292 N293q
  refine own_go (fun t k => st293.trans k) ?_
  have Z293 : n0 ≤ h293.size := (Nat.le_trans Z0 K293q.1)
  have K293 : Keep h0 h293 [] := (Keep.refl h0 []).trans K293q all0
  have hi293 := A293.lt
  show own_Go _ _ _ _ (T293.setTop (mkF m 50 #[.val (.ref ua), .unset] [(.ref uc293)]))
  obtain ⟨_, _, ⟨T294, L294, k294, n294⟩, -, X294, ⟨Lc294, hQ294, l294, y294, z294⟩, st294⟩ := Jvm.LawKit.callS X293 hx (y := (⟨"java/util/List", "of", "([Ljava/lang/Object;)Ljava/util/List;"⟩ : MethodName)) hown (mvT hZ (w_187 hw)) (mvT hZ (w_188 hw)) (mvT hZ (w_40 hw)) (mvT hZ (w_189 hw)) (by decide) (backOf (W := 0) (rm_lof_3 l Z a0 hw [] uc293 kc293 ue ude kde uel uem kem uemp urec umi h293 n0 Z293 A293 (O0.keep K293q all0) hF) hZ (w_189 hw) (w_40 hw) (by decide) (by decide)) (g := (mkF m 50 #[.val (.ref ua), .unset] [(.ref uc293)])) rfl (by rw [hml]; rfl) (argsL := [(.ref uc293)]) (rest := []) (lenOf pd_11 rfl) rfl (by show 2 * 0 + _ ≤ _; exact Nat.le_of_eq rfl) (hb hby d_j56_3_50) (fun _ _ => ⟨rfl, e293, (by decide : 1 + 2 ≤ _), (by decide : 3 + 5 ≤ _)⟩)
  dsimp only [Pt.U, Pt.locs, Pt.cells, Pt.slots] at X294 l294 y294 z294 st294 hQ294
  subst l294 y294 z294
  generalize e294 : T294.heap = h294 at hQ294
  obtain ⟨ux294, rfl, N294q, K294q, lo294, q294, uy294, ky294, qy294, ly294, Ex294, Fx294, Ay294⟩ := hQ294
  have N294 := Fr.app N293 N294q
  refine own_go st294 ?_
  have Z294 : n0 ≤ h294.size := (Nat.le_trans Z293 K294q.1)
  have K294 : Keep h0 h294 [] := K293.trans K294q all0
  have hi294 := Ex294.lt
  have hy294 := Ay294.lt
  show own_Go _ _ _ _ (T294.setTop (mkF m 53 #[.val (.ref ua), .unset] [(.ref ux294)]))
  refine own_ret X294 hx hlk hret rfl (Or.inr (Or.inr (Or.inr (Or.inr ⟨rfl, rfl, rfl⟩)))) (hb hby d_j56_3_53) ?_ (by decide) (by decide)
  rw [e294]
  exact ⟨ux294, rfl, N294, K294, (Nat.le_trans K293q.1 lo294), q294, uy294, ky294, qy294, (Nat.le_trans K293q.1 ly294), Ex294, Fx294, Ay294⟩
def Q_cop_3 (Z : State) (ua : Addr) (ub : Addr) (kb : ClassId) (ue : Addr) (ude : Addr) (kde : ClassId) (uel : Addr) (uem : Addr) (kem : ClassId) (uemp : Addr) (urec : Addr) (umi : Addr) (h0 : Heap) (n0 : Nat) (v : Option Value) (h : Heap) (L : List Loc) : Prop := ∃ ux : Addr, v = some (.ref ux) ∧ Fr n0 L ∧ Keep h0 h [] ∧ h0.size ≤ ux ∧ n0 ≤ ux ∧ ∃ (uy : Addr) (ky : ClassId), n0 ≤ uy ∧ h0.size ≤ uy ∧ Exa Z h ux "java/util/ImmutableCollections$ListN" ∧ Fld Z h ux "java/util/ImmutableCollections$ListN" "elements" "[Ljava/lang/Object;" (.ref uy) ∧ Arv Z h uy ky (.object "java/lang/Object") (3 : Int32) [(.ref ue), (.ref ue), (.ref ue)] .null
theorem ef_cop_3 (m : MethodId) (ua : Addr) : entryFrame m #[(.ref ua)] 1 = mkF m 0 #[.val (.ref ua)] [] := by first | (simp [entryFrame, mkF, argsToLocals, Value.category]; done) | rfl
set_option maxRecDepth 65536 in
set_option maxHeartbeats 40000000 in
theorem rm_cop_3 (l : Launch) (Z : State) (a0 : Array Value) (hw : ∀ d ∈ tables_1, d.before a0 Z = true) (ws : List Jvm.Cond) (ua ub : Addr) (kb : ClassId) (ue ude : Addr) (kde : ClassId) (uel uem : Addr) (kem : ClassId) (uemp urec umi : Addr) (h0 : Heap) (n0 : Nat) (Z0 : n0 ≤ h0.size) (F1 : Fld Z h0 ua "java/util/ArrayList" "elementData" "[Ljava/lang/Object;" (.ref ub)) (F2 : Fld Z h0 ua "java/util/ArrayList" "size" "I" (.int (3 : Int32))) (E0 : Exa Z h0 ua "java/util/ArrayList") (B0 : Arv Z h0 ub kb (.object "java/lang/Object") (10 : Int32) [(.ref ue), (.ref ue), (.ref ue), .null, .null, .null, .null, .null, .null, .null] .null) (Eb : Exa Z h0 ub "[Ljava/lang/Object;") (O0 : Old Z n0 h0) (hF : own_Fac Z ue ude kde uel uem kem uemp urec umi) :
    own_Met l Z (⟨"java/util/List", "copyOf", "(Ljava/util/Collection;)Ljava/util/List;"⟩ : MethodName) jdk_40_method_48_code 1 (some (.object "java/util/List")) ws ({ frames := 8, cells := 3, slots := 8, locals := 103 } : Room) #[(.ref ua)] h0 (Q_cop_3 Z ua ub kb ue ude kde uel uem kem uemp urec umi h0 n0) := by
  refine own_enter (own := "java/util/List") (plainFor_of_name pn_11) rfl ?_
  intro p e s m below meth c s₁ hlk hret hx hby hml hown hnm hZ X0 e0
  have N0 := Fr.nil n0
  refine own_cast (ef_cop_3 m ua) ?_
  obtain ⟨Se, Ee, Sd, Ad, Sl, El, Fl, Am, Sm, Em, Sr, Er, Fr1, Fr0, Mi⟩ := id hF
  show own_Go _ _ _ _ (s₁.setTop (mkF m 0 #[.val (.ref ua)] []))
  refine own_go (fun t k => XS.aloadN X0.here hx rfl (hb hby d_j40_48_0) rfl rfl k) ?_
  show own_Go _ _ _ _ (s₁.setTop (mkF m 1 #[.val (.ref ua)] [(.ref ua)]))
  obtain ⟨_, _, ⟨T295, L295, k295, n295⟩, -, X295, ⟨Lc295, hQ295, l295, y295, z295⟩, st295⟩ := Jvm.LawKit.callS X0 hx (y := (⟨"java/util/ImmutableCollections", "listCopy", "(Ljava/util/Collection;)Ljava/util/List;"⟩ : MethodName)) hown (mvT hZ (w_42 hw)) (mvT hZ (w_43 hw)) (mvT hZ (w_44 hw)) (mvT hZ (w_45 hw)) (by decide) (backOf (W := 0) (rm_lcp_3 l Z a0 hw [] ua ub kb ue ude kde uel uem kem uemp urec umi h0 n0 Z0 F1 F2 E0 B0 Eb O0 hF) hZ (w_45 hw) (w_44 hw) (by decide) (by decide)) (g := (mkF m 1 #[.val (.ref ua)] [(.ref ua)])) rfl (by rw [hml]; rfl) (argsL := [(.ref ua)]) (rest := []) (lenOf pd_14 rfl) rfl (by show 2 * 0 + _ ≤ _; exact Nat.le_of_eq rfl) (hb hby d_j40_48_1) (fun _ _ => ⟨rfl, e0, (by decide : 0 + 3 ≤ _), (by decide : 0 + 8 ≤ _)⟩)
  dsimp only [Pt.U, Pt.locs, Pt.cells, Pt.slots] at X295 l295 y295 z295 st295 hQ295
  subst l295 y295 z295
  generalize e295 : T295.heap = h295 at hQ295
  obtain ⟨ux295, rfl, N295q, K295q, lo295, q295, uy295, ky295, qy295, ly295, Ex295, Fx295, Ay295⟩ := hQ295
  have N295 := Fr.app N0 N295q
  refine own_go st295 ?_
  have Z295 : n0 ≤ h295.size := (Nat.le_trans Z0 K295q.1)
  have K295 : Keep h0 h295 [] := (Keep.refl h0 []).trans K295q all0
  have hi295 := Ex295.lt
  have hy295 := Ay295.lt
  show own_Go _ _ _ _ (T295.setTop (mkF m 4 #[.val (.ref ua)] [(.ref ux295)]))
  refine own_ret X295 hx hlk hret rfl (Or.inr (Or.inr (Or.inr (Or.inr ⟨rfl, rfl, rfl⟩)))) (hb hby d_j40_48_4) ?_ (by decide) (by decide)
  rw [e295]
  exact ⟨ux295, rfl, N295, K295, lo295, q295, uy295, ky295, qy295, ly295, Ex295, Fx295, Ay295⟩
def Q_set_0 (Z : State) (us : Addr) (bv : Int32) (iv : Int32) (ua : Addr) (ue : Addr) (ude : Addr) (kde : ClassId) (uel : Addr) (uem : Addr) (kem : ClassId) (uemp : Addr) (urec : Addr) (umi : Addr) (h0 : Heap) (n0 : Nat) (v : Option Value) (h : Heap) (L : List Loc) : Prop := v = none ∧ Fr n0 L ∧ Keep h0 h [us] ∧ Fld Z h us "com/example/grantfold/grantfold/model/Setting" "allowed" "Z" (.int bv) ∧ Fld Z h us "com/example/grantfold/grantfold/model/Setting" "line" "I" (.int iv) ∧ Fld Z h us "com/example/grantfold/grantfold/model/Setting" "where" "Ljava/util/List;" (.ref uel)
theorem ef_set_0 (m : MethodId) (us : Addr) (bv : Int32) (iv : Int32) (ua : Addr) : entryFrame m #[(.ref us), (.int bv), (.int iv), (.ref ua)] 4 = mkF m 0 #[.val (.ref us), .val (.int bv), .val (.int iv), .val (.ref ua)] [] := by first | (simp [entryFrame, mkF, argsToLocals, Value.category]; done) | rfl
theorem pn_12 : plainName "com/example/grantfold/grantfold/model/Setting" = true := by first | (simp [plainName, overriddenIn]; done) | decide +kernel
theorem d_p25_1_0 : decode prog_25_method_1_code 0 = .ok (.aload_n 0, 1) := by decide +kernel
theorem w_32 {Z : State} {a0 : Array Value} (hw : ∀ d ∈ tables_1, d.before a0 Z = true) : (Jvm.Cond.methodLink "com/example/grantfold/grantfold/model/Setting" (1 : Nat) ({ cls := "java/lang/Record", name := "<init>", desc := "()V" } : Jvm.MethodName)).before a0 Z = true := hw _ (List.mem_of_getElem? (i := 32) rfl)
theorem w_36 {Z : State} {a0 : Array Value} (hw : ∀ d ∈ tables_1, d.before a0 Z = true) : (Jvm.Cond.code ({ cls := "java/lang/Record", name := "<init>", desc := "()V" } : Jvm.MethodName) jdk_30_method_1_code (1 : Nat) (Option.none : Option Jvm.ClassFile.FieldType)).before a0 Z = true := hw _ (List.mem_of_getElem? (i := 36) rfl)
theorem w_35 {Z : State} {a0 : Array Value} (hw : ∀ d ∈ tables_1, d.before a0 Z = true) : (Jvm.Cond.initialized "java/lang/Record").before a0 Z = true := hw _ (List.mem_of_getElem? (i := 35) rfl)
theorem d_p25_1_1 : decode prog_25_method_1_code 1 = .ok (.invokespecial 1, 3) := by decide +kernel
theorem w_33 {Z : State} {a0 : Array Value} (hw : ∀ d ∈ tables_1, d.before a0 Z = true) : (Jvm.Cond.instanceMethod ({ cls := "java/lang/Record", name := "<init>", desc := "()V" } : Jvm.MethodName)).before a0 Z = true := hw _ (List.mem_of_getElem? (i := 33) rfl)
theorem d_p25_1_4 : decode prog_25_method_1_code 4 = .ok (.aload_n 3, 1) := by decide +kernel
theorem w_38 {Z : State} {a0 : Array Value} (hw : ∀ d ∈ tables_1, d.before a0 Z = true) : (Jvm.Cond.methodLink "com/example/grantfold/grantfold/model/Setting" (7 : Nat) ({ cls := "java/util/List", name := "copyOf", desc := "(Ljava/util/Collection;)Ljava/util/List;" } : Jvm.MethodName)).before a0 Z = true := hw _ (List.mem_of_getElem? (i := 38) rfl)
theorem w_41 {Z : State} {a0 : Array Value} (hw : ∀ d ∈ tables_1, d.before a0 Z = true) : (Jvm.Cond.code ({ cls := "java/util/List", name := "copyOf", desc := "(Ljava/util/Collection;)Ljava/util/List;" } : Jvm.MethodName) jdk_40_method_48_code (1 : Nat) (Option.some (Jvm.ClassFile.FieldType.object "java/util/List"))).before a0 Z = true := hw _ (List.mem_of_getElem? (i := 41) rfl)
theorem d_p25_1_5 : decode prog_25_method_1_code 5 = .ok (.invokestatic 7, 3) := by decide +kernel
theorem w_39 {Z : State} {a0 : Array Value} (hw : ∀ d ∈ tables_1, d.before a0 Z = true) : (Jvm.Cond.static ({ cls := "java/util/List", name := "copyOf", desc := "(Ljava/util/Collection;)Ljava/util/List;" } : Jvm.MethodName)).before a0 Z = true := hw _ (List.mem_of_getElem? (i := 39) rfl)
theorem d_p25_1_8 : decode prog_25_method_1_code 8 = .ok (.astore_n 3, 1) := by decide +kernel
theorem d_p25_1_9 : decode prog_25_method_1_code 9 = .ok (.aload_n 0, 1) := by decide +kernel
theorem d_p25_1_10 : decode prog_25_method_1_code 10 = .ok (.iload_n 1, 1) := by decide +kernel
theorem w_67 {Z : State} {a0 : Array Value} (hw : ∀ d ∈ tables_1, d.before a0 Z = true) : (Jvm.Cond.fieldLink "com/example/grantfold/grantfold/model/Setting" (13 : Nat) "com/example/grantfold/grantfold/model/Setting" "allowed" "Z").before a0 Z = true := hw _ (List.mem_of_getElem? (i := 67) rfl)
theorem w_27 {Z : State} {a0 : Array Value} (hw : ∀ d ∈ tables_1, d.before a0 Z = true) : (Jvm.Cond.instantiable "com/example/grantfold/grantfold/model/Setting" (3 : Nat)).before a0 Z = true := hw _ (List.mem_of_getElem? (i := 27) rfl)
theorem w_68 {Z : State} {a0 : Array Value} (hw : ∀ d ∈ tables_1, d.before a0 Z = true) : (Jvm.Cond.laysFinal "com/example/grantfold/grantfold/model/Setting" "com/example/grantfold/grantfold/model/Setting" "allowed" "Z").before a0 Z = true := hw _ (List.mem_of_getElem? (i := 68) rfl)
theorem d_p25_1_11 : decode prog_25_method_1_code 11 = .ok (.putfield 13, 3) := by decide +kernel
theorem d_p25_1_14 : decode prog_25_method_1_code 14 = .ok (.aload_n 0, 1) := by decide +kernel
theorem d_p25_1_15 : decode prog_25_method_1_code 15 = .ok (.iload_n 2, 1) := by decide +kernel
theorem w_69 {Z : State} {a0 : Array Value} (hw : ∀ d ∈ tables_1, d.before a0 Z = true) : (Jvm.Cond.fieldLink "com/example/grantfold/grantfold/model/Setting" (19 : Nat) "com/example/grantfold/grantfold/model/Setting" "line" "I").before a0 Z = true := hw _ (List.mem_of_getElem? (i := 69) rfl)
theorem w_70 {Z : State} {a0 : Array Value} (hw : ∀ d ∈ tables_1, d.before a0 Z = true) : (Jvm.Cond.laysFinal "com/example/grantfold/grantfold/model/Setting" "com/example/grantfold/grantfold/model/Setting" "line" "I").before a0 Z = true := hw _ (List.mem_of_getElem? (i := 70) rfl)
theorem d_p25_1_16 : decode prog_25_method_1_code 16 = .ok (.putfield 19, 3) := by decide +kernel
theorem d_p25_1_19 : decode prog_25_method_1_code 19 = .ok (.aload_n 0, 1) := by decide +kernel
theorem d_p25_1_20 : decode prog_25_method_1_code 20 = .ok (.aload_n 3, 1) := by decide +kernel
theorem w_71 {Z : State} {a0 : Array Value} (hw : ∀ d ∈ tables_1, d.before a0 Z = true) : (Jvm.Cond.fieldLink "com/example/grantfold/grantfold/model/Setting" (23 : Nat) "com/example/grantfold/grantfold/model/Setting" "where" "Ljava/util/List;").before a0 Z = true := hw _ (List.mem_of_getElem? (i := 71) rfl)
theorem w_72 {Z : State} {a0 : Array Value} (hw : ∀ d ∈ tables_1, d.before a0 Z = true) : (Jvm.Cond.laysFinal "com/example/grantfold/grantfold/model/Setting" "com/example/grantfold/grantfold/model/Setting" "where" "Ljava/util/List;").before a0 Z = true := hw _ (List.mem_of_getElem? (i := 72) rfl)
theorem d_p25_1_21 : decode prog_25_method_1_code 21 = .ok (.putfield 23, 3) := by decide +kernel
theorem d_p25_1_24 : decode prog_25_method_1_code 24 = .ok (.return_, 1) := by decide +kernel
set_option maxRecDepth 65536 in
set_option maxHeartbeats 40000000 in
theorem rm_set_0 (l : Launch) (Z : State) (a0 : Array Value) (hw : ∀ d ∈ tables_1, d.before a0 Z = true) (ws : List Jvm.Cond) (us : Addr) (bv iv : Int32) (ua ue ude : Addr) (kde : ClassId) (uel uem : Addr) (kem : ClassId) (uemp urec umi : Addr) (h0 : Heap) (n0 : Nat) (Z0 : n0 ≤ h0.size) (q0 : n0 ≤ us) (Es : Exa Z h0 us "com/example/grantfold/grantfold/model/Setting") (G0 : Fld Z h0 us "com/example/grantfold/grantfold/model/Setting" "allowed" "Z" (.int (0 : Int32))) (G1 : Fld Z h0 us "com/example/grantfold/grantfold/model/Setting" "line" "I" (.int (0 : Int32))) (G2 : Fld Z h0 us "com/example/grantfold/grantfold/model/Setting" "where" "Ljava/util/List;" .null) (hbv : nar .boolean bv = bv) (F2 : Fld Z h0 ua "java/util/ArrayList" "size" "I" (.int (0 : Int32))) (E0 : Exa Z h0 ua "java/util/ArrayList") (O0 : Old Z n0 h0) (hF : own_Fac Z ue ude kde uel uem kem uemp urec umi) :
    own_Met l Z (⟨"com/example/grantfold/grantfold/model/Setting", "<init>", "(ZILjava/util/List;)V"⟩ : MethodName) prog_25_method_1_code 4 none ws ({ frames := 3, cells := 0, slots := 0, locals := 37 } : Room) #[(.ref us), (.int bv), (.int iv), (.ref ua)] h0 (Q_set_0 Z us bv iv ua ue ude kde uel uem kem uemp urec umi h0 n0) := by
  refine own_enter (own := "com/example/grantfold/grantfold/model/Setting") (plainFor_of_name pn_12) rfl ?_
  intro p e s m below meth c s₁ hlk hret hx hby hml hown hnm hZ X0 e0
  have N0 := Fr.nil n0
  refine own_cast (ef_set_0 m us bv iv ua) ?_
  obtain ⟨Se, Ee, Sd, Ad, Sl, El, Fl, Am, Sm, Em, Sr, Er, Fr1, Fr0, Mi⟩ := id hF
  show own_Go _ _ _ _ (s₁.setTop (mkF m 0 #[.val (.ref us), .val (.int bv), .val (.int iv), .val (.ref ua)] []))
  refine own_go (fun t k => XS.aloadN X0.here hx rfl (hb hby d_p25_1_0) rfl rfl k) ?_
  show own_Go _ _ _ _ (s₁.setTop (mkF m 1 #[.val (.ref us), .val (.int bv), .val (.int iv), .val (.ref ua)] [(.ref us)]))
  obtain ⟨_, _, ⟨T296, L296, k296, n296⟩, -, X296, ⟨Lc296, hQ296, l296, y296, z296⟩, st296⟩ := X0.specialBack hx (y := (⟨"java/lang/Record", "<init>", "()V"⟩ : MethodName)) rfl hown (mvT hZ (w_32 hw)) (mvT hZ (w_33 hw)) (mvT hZ (w_36 hw)) (by decide) (backOf (W := 0) (rm_rec l Z a0 hw [] us h0 n0 Z0 ) hZ (w_36 hw) (w_35 hw) (by decide) (by decide)) (g := (mkF m 1 #[.val (.ref us), .val (.int bv), .val (.int iv), .val (.ref ua)] [(.ref us)])) rfl (by rw [hml]; rfl) (Steps.refl _) (a := us) (argsL := []) (rest := []) (lenOf pd_0 rfl) rfl (by show 2 * 0 + _ ≤ _; exact Nat.le_of_eq rfl) (hb hby d_p25_1_1) (fun _ _ => ⟨rfl, e0, (by decide : 0 + 0 ≤ _), (by decide : 0 + 0 ≤ _)⟩)
  dsimp only [Pt.U, Pt.locs, Pt.cells, Pt.slots] at X296 l296 y296 z296 st296 hQ296
  subst l296 y296 z296
  obtain ⟨rfl, N296q, e296⟩ := hQ296
  have N296 := Fr.app N0 N296q
  refine own_go (fun t k => st296.trans k) ?_
  show own_Go _ _ _ _ (T296.setTop (mkF m 4 #[.val (.ref us), .val (.int bv), .val (.int iv), .val (.ref ua)] []))
  refine own_go (fun t k => XS.aloadN X296.here hx rfl (hb hby d_p25_1_4) rfl rfl k) ?_
  show own_Go _ _ _ _ (T296.setTop (mkF m 5 #[.val (.ref us), .val (.int bv), .val (.int iv), .val (.ref ua)] [(.ref ua)]))
  obtain ⟨_, _, ⟨T297, L297, k297, n297⟩, -, X297, ⟨Lc297, hQ297, l297, y297, z297⟩, st297⟩ := Jvm.LawKit.callS X296 hx (y := (⟨"java/util/List", "copyOf", "(Ljava/util/Collection;)Ljava/util/List;"⟩ : MethodName)) hown (mvT hZ (w_38 hw)) (mvT hZ (w_39 hw)) (mvT hZ (w_40 hw)) (mvT hZ (w_41 hw)) (by decide) (backOf (W := 0) (rm_cop_0 l Z a0 hw [] ua ue ude kde uel uem kem uemp urec umi h0 n0 Z0 F2 E0 O0 hF) hZ (w_41 hw) (w_40 hw) (by decide) (by decide)) (g := (mkF m 5 #[.val (.ref us), .val (.int bv), .val (.int iv), .val (.ref ua)] [(.ref ua)])) rfl (by rw [hml]; rfl) (argsL := [(.ref ua)]) (rest := []) (lenOf pd_14 rfl) rfl (by show 2 * 0 + _ ≤ _; exact Nat.le_of_eq rfl) (hb hby d_p25_1_5) (fun _ _ => ⟨rfl, e296, (by decide : 0 + 0 ≤ _), (by decide : 0 + 0 ≤ _)⟩)
  dsimp only [Pt.U, Pt.locs, Pt.cells, Pt.slots] at X297 l297 y297 z297 st297 hQ297
  subst l297 y297 z297
  obtain ⟨rfl, N297q, e297⟩ := hQ297
  have N297 := Fr.app N296 N297q
  refine own_go st297 ?_
  show own_Go _ _ _ _ (T297.setTop (mkF m 8 #[.val (.ref us), .val (.int bv), .val (.int iv), .val (.ref ua)] [(.ref uel)]))
  refine own_go (fun t k => XS.astoreN X297.here hx rfl (hb hby d_p25_1_8) rfl rfl (l' := #[.val (.ref us), .val (.int bv), .val (.int iv), .val (.ref uel)]) rfl k) ?_
  show own_Go _ _ _ _ (T297.setTop (mkF m 9 #[.val (.ref us), .val (.int bv), .val (.int iv), .val (.ref uel)] []))
  refine own_go (fun t k => XS.aloadN X297.here hx rfl (hb hby d_p25_1_9) rfl rfl k) ?_
  show own_Go _ _ _ _ (T297.setTop (mkF m 10 #[.val (.ref us), .val (.int bv), .val (.int iv), .val (.ref uel)] [(.ref us)]))
  refine own_go (fun t k => XS.iloadN X297.here hx rfl (hb hby d_p25_1_10) rfl k) ?_
  show own_Go _ _ _ _ (T297.setTop (mkF m 11 #[.val (.ref us), .val (.int bv), .val (.int iv), .val (.ref uel)] [(.int bv), (.ref us)]))
  obtain ⟨T298, h298, X298, e298, W298, st298⟩ := putFN X297 hx hZ hown (w_67 hw) Via.refl e297 G0 Es (Or.inr ⟨(w_68 hw), rfl, hnm⟩) (w_27 hw) (ty := .boolean) (v' := (.int bv)) (by decide) (by show Value.int (nar .boolean bv) = _; rw [hbv]) (hbv ▸ fits_nar_bool bv) (g := (mkF m 11 #[.val (.ref us), .val (.int bv), .val (.int iv), .val (.ref uel)] [(.int bv), (.ref us)])) rfl rfl (hb hby d_p25_1_11)
  refine own_go st298 ?_
  have F298 := G0.same W298
  have Z298 : n0 ≤ h298.size := (Nat.le_trans Z0 (Nat.le_of_eq W298.size.symm))
  have N298 := Fr.snoc X298 N297 q0
  have K298 : Keep h0 h298 [us] := (Keep.refl h0 [us]).wr W298 (Or.inl (List.mem_of_getElem? (i := 0) rfl))
  show own_Go _ _ _ _ (T298.setTop (mkF m 14 #[.val (.ref us), .val (.int bv), .val (.int iv), .val (.ref uel)] []))
  refine own_go (fun t k => XS.aloadN X298.here hx rfl (hb hby d_p25_1_14) rfl rfl k) ?_
  show own_Go _ _ _ _ (T298.setTop (mkF m 15 #[.val (.ref us), .val (.int bv), .val (.int iv), .val (.ref uel)] [(.ref us)]))
  refine own_go (fun t k => XS.iloadN X298.here hx rfl (hb hby d_p25_1_15) rfl k) ?_
  show own_Go _ _ _ _ (T298.setTop (mkF m 16 #[.val (.ref us), .val (.int bv), .val (.int iv), .val (.ref uel)] [(.int iv), (.ref us)]))
  have f299 := (G1.other W298 (Or.inr (slot_ne (Or.inr (w_70 hw)) (Or.inr (w_68 hw)) (by decide) (t := .int) (t' := .boolean) (by decide) (by decide))))
  obtain ⟨T300, h300, X300, e300, W300, st300⟩ := putF X298 hx hZ hown (host := "") (Or.inl (w_69 hw)) Via.refl e298 f299 (Es.wr W298) (Or.inr ⟨(w_70 hw), rfl, hnm⟩) (w_27 hw) (ty := .int) (by decide) rfl rfl (g := (mkF m 16 #[.val (.ref us), .val (.int bv), .val (.int iv), .val (.ref uel)] [(.int iv), (.ref us)])) rfl rfl (hb hby d_p25_1_16)
  refine own_go st300 ?_
  have F300 := f299.same W300
  have Z300 : n0 ≤ h300.size := (Nat.le_trans Z298 (Nat.le_of_eq W300.size.symm))
  have N300 := Fr.snoc X300 N298 q0
  have K300 : Keep h0 h300 [us] := K298.wr W300 (Or.inl (List.mem_of_getElem? (i := 0) rfl))
  show own_Go _ _ _ _ (T300.setTop (mkF m 19 #[.val (.ref us), .val (.int bv), .val (.int iv), .val (.ref uel)] []))
  refine own_go (fun t k => XS.aloadN X300.here hx rfl (hb hby d_p25_1_19) rfl rfl k) ?_
  show own_Go _ _ _ _ (T300.setTop (mkF m 20 #[.val (.ref us), .val (.int bv), .val (.int iv), .val (.ref uel)] [(.ref us)]))
  refine own_go (fun t k => XS.aloadN X300.here hx rfl (hb hby d_p25_1_20) rfl rfl k) ?_
  show own_Go _ _ _ _ (T300.setTop (mkF m 21 #[.val (.ref us), .val (.int bv), .val (.int iv), .val (.ref uel)] [(.ref uel), (.ref us)]))
  have f301 := ((G2.other W298 (Or.inr (slot_ne (Or.inr (w_72 hw)) (Or.inr (w_68 hw)) (by decide) (t := (.object "java/util/List")) (t' := .boolean) (by decide) (by decide)))).other W300 (Or.inr (slot_ne (Or.inr (w_72 hw)) (Or.inr (w_70 hw)) (by decide) (t := (.object "java/util/List")) (t' := .int) (by decide) (by decide))))
  obtain ⟨T302, h302, X302, e302, W302, st302⟩ := putF X300 hx hZ hown (host := "") (Or.inl (w_71 hw)) Via.refl e300 f301 ((Es.wr W298).wr W300) (Or.inr ⟨(w_72 hw), rfl, hnm⟩) (w_27 hw) (ty := (.object "java/util/List")) (by decide) rfl rfl (g := (mkF m 21 #[.val (.ref us), .val (.int bv), .val (.int iv), .val (.ref uel)] [(.ref uel), (.ref us)])) rfl rfl (hb hby d_p25_1_21)
  refine own_go st302 ?_
  have F302 := f301.same W302
  have Z302 : n0 ≤ h302.size := (Nat.le_trans Z300 (Nat.le_of_eq W302.size.symm))
  have N302 := Fr.snoc X302 N300 q0
  have K302 : Keep h0 h302 [us] := K300.wr W302 (Or.inl (List.mem_of_getElem? (i := 0) rfl))
  have f303 := ((F298.other W300 (Or.inr (slot_ne (Or.inr (w_68 hw)) (Or.inr (w_70 hw)) (by decide) (t := .boolean) (t' := .int) (by decide) (by decide)))).other W302 (Or.inr (slot_ne (Or.inr (w_68 hw)) (Or.inr (w_72 hw)) (by decide) (t := .boolean) (t' := (.object "java/util/List")) (by decide) (by decide))))
  have f304 := (F300.other W302 (Or.inr (slot_ne (Or.inr (w_70 hw)) (Or.inr (w_72 hw)) (by decide) (t := .int) (t' := (.object "java/util/List")) (by decide) (by decide))))
  show own_Go _ _ _ _ (T302.setTop (mkF m 24 #[.val (.ref us), .val (.int bv), .val (.int iv), .val (.ref uel)] []))
  refine own_retV X302 hx hlk hret (hb hby d_p25_1_24) ?_ (by decide) (by decide)
  rw [e302]
  exact ⟨rfl, N302, K302, f303, f304, F302⟩
def Q_set_1 (Z : State) (us : Addr) (bv : Int32) (iv : Int32) (ua : Addr) (ub : Addr) (kb : ClassId) (ue : Addr) (ude : Addr) (kde : ClassId) (uel : Addr) (uem : Addr) (kem : ClassId) (uemp : Addr) (urec : Addr) (umi : Addr) (h0 : Heap) (n0 : Nat) (v : Option Value) (h : Heap) (L : List Loc) : Prop := ∃ ux : Addr, v = none ∧ Fr n0 L ∧ Keep h0 h [us] ∧ (Fld Z h us "com/example/grantfold/grantfold/model/Setting" "allowed" "Z" (.int bv) ∧ Fld Z h us "com/example/grantfold/grantfold/model/Setting" "line" "I" (.int iv) ∧ Fld Z h us "com/example/grantfold/grantfold/model/Setting" "where" "Ljava/util/List;" (.ref ux)) ∧ h0.size ≤ ux ∧ n0 ≤ ux ∧ Exa Z h ux "java/util/ImmutableCollections$List12" ∧ Fld Z h ux "java/util/ImmutableCollections$List12" "e0" "Ljava/lang/Object;" (.ref ue) ∧ Fld Z h ux "java/util/ImmutableCollections$List12" "e1" "Ljava/lang/Object;" (.ref uemp)
theorem ef_set_1 (m : MethodId) (us : Addr) (bv : Int32) (iv : Int32) (ua : Addr) : entryFrame m #[(.ref us), (.int bv), (.int iv), (.ref ua)] 4 = mkF m 0 #[.val (.ref us), .val (.int bv), .val (.int iv), .val (.ref ua)] [] := by first | (simp [entryFrame, mkF, argsToLocals, Value.category]; done) | rfl
set_option maxRecDepth 65536 in
set_option maxHeartbeats 40000000 in
theorem rm_set_1 (l : Launch) (Z : State) (a0 : Array Value) (hw : ∀ d ∈ tables_1, d.before a0 Z = true) (ws : List Jvm.Cond) (us : Addr) (bv iv : Int32) (ua ub : Addr) (kb : ClassId) (ue ude : Addr) (kde : ClassId) (uel uem : Addr) (kem : ClassId) (uemp urec umi : Addr) (h0 : Heap) (n0 : Nat) (Z0 : n0 ≤ h0.size) (q0 : n0 ≤ us) (Es : Exa Z h0 us "com/example/grantfold/grantfold/model/Setting") (G0 : Fld Z h0 us "com/example/grantfold/grantfold/model/Setting" "allowed" "Z" (.int (0 : Int32))) (G1 : Fld Z h0 us "com/example/grantfold/grantfold/model/Setting" "line" "I" (.int (0 : Int32))) (G2 : Fld Z h0 us "com/example/grantfold/grantfold/model/Setting" "where" "Ljava/util/List;" .null) (hbv : nar .boolean bv = bv) (F1 : Fld Z h0 ua "java/util/ArrayList" "elementData" "[Ljava/lang/Object;" (.ref ub)) (F2 : Fld Z h0 ua "java/util/ArrayList" "size" "I" (.int (1 : Int32))) (E0 : Exa Z h0 ua "java/util/ArrayList") (B0 : Arv Z h0 ub kb (.object "java/lang/Object") (10 : Int32) [(.ref ue), .null, .null, .null, .null, .null, .null, .null, .null, .null] .null) (Eb : Exa Z h0 ub "[Ljava/lang/Object;") (O0 : Old Z n0 h0) (hF : own_Fac Z ue ude kde uel uem kem uemp urec umi) :
    own_Met l Z (⟨"com/example/grantfold/grantfold/model/Setting", "<init>", "(ZILjava/util/List;)V"⟩ : MethodName) prog_25_method_1_code 4 none ws ({ frames := 8, cells := 2, slots := 3, locals := 100 } : Room) #[(.ref us), (.int bv), (.int iv), (.ref ua)] h0 (Q_set_1 Z us bv iv ua ub kb ue ude kde uel uem kem uemp urec umi h0 n0) := by
  refine own_enter (own := "com/example/grantfold/grantfold/model/Setting") (plainFor_of_name pn_12) rfl ?_
  intro p e s m below meth c s₁ hlk hret hx hby hml hown hnm hZ X0 e0
  have N0 := Fr.nil n0
  refine own_cast (ef_set_1 m us bv iv ua) ?_
  obtain ⟨Se, Ee, Sd, Ad, Sl, El, Fl, Am, Sm, Em, Sr, Er, Fr1, Fr0, Mi⟩ := id hF
  show own_Go _ _ _ _ (s₁.setTop (mkF m 0 #[.val (.ref us), .val (.int bv), .val (.int iv), .val (.ref ua)] []))
  refine own_go (fun t k => XS.aloadN X0.here hx rfl (hb hby d_p25_1_0) rfl rfl k) ?_
  show own_Go _ _ _ _ (s₁.setTop (mkF m 1 #[.val (.ref us), .val (.int bv), .val (.int iv), .val (.ref ua)] [(.ref us)]))
  obtain ⟨_, _, ⟨T305, L305, k305, n305⟩, -, X305, ⟨Lc305, hQ305, l305, y305, z305⟩, st305⟩ := X0.specialBack hx (y := (⟨"java/lang/Record", "<init>", "()V"⟩ : MethodName)) rfl hown (mvT hZ (w_32 hw)) (mvT hZ (w_33 hw)) (mvT hZ (w_36 hw)) (by decide) (backOf (W := 0) (rm_rec l Z a0 hw [] us h0 n0 Z0 ) hZ (w_36 hw) (w_35 hw) (by decide) (by decide)) (g := (mkF m 1 #[.val (.ref us), .val (.int bv), .val (.int iv), .val (.ref ua)] [(.ref us)])) rfl (by rw [hml]; rfl) (Steps.refl _) (a := us) (argsL := []) (rest := []) (lenOf pd_0 rfl) rfl (by show 2 * 0 + _ ≤ _; exact Nat.le_of_eq rfl) (hb hby d_p25_1_1) (fun _ _ => ⟨rfl, e0, (by decide : 0 + 0 ≤ _), (by decide : 0 + 0 ≤ _)⟩)
  dsimp only [Pt.U, Pt.locs, Pt.cells, Pt.slots] at X305 l305 y305 z305 st305 hQ305
  subst l305 y305 z305
  obtain ⟨rfl, N305q, e305⟩ := hQ305
  have N305 := Fr.app N0 N305q
  refine own_go (fun t k => st305.trans k) ?_
  show own_Go _ _ _ _ (T305.setTop (mkF m 4 #[.val (.ref us), .val (.int bv), .val (.int iv), .val (.ref ua)] []))
  refine own_go (fun t k => XS.aloadN X305.here hx rfl (hb hby d_p25_1_4) rfl rfl k) ?_
  show own_Go _ _ _ _ (T305.setTop (mkF m 5 #[.val (.ref us), .val (.int bv), .val (.int iv), .val (.ref ua)] [(.ref ua)]))
  obtain ⟨_, _, ⟨T306, L306, k306, n306⟩, -, X306, ⟨Lc306, hQ306, l306, y306, z306⟩, st306⟩ := Jvm.LawKit.callS X305 hx (y := (⟨"java/util/List", "copyOf", "(Ljava/util/Collection;)Ljava/util/List;"⟩ : MethodName)) hown (mvT hZ (w_38 hw)) (mvT hZ (w_39 hw)) (mvT hZ (w_40 hw)) (mvT hZ (w_41 hw)) (by decide) (backOf (W := 0) (rm_cop_1 l Z a0 hw [] ua ub kb ue ude kde uel uem kem uemp urec umi h0 n0 Z0 F1 F2 E0 B0 Eb O0 hF) hZ (w_41 hw) (w_40 hw) (by decide) (by decide)) (g := (mkF m 5 #[.val (.ref us), .val (.int bv), .val (.int iv), .val (.ref ua)] [(.ref ua)])) rfl (by rw [hml]; rfl) (argsL := [(.ref ua)]) (rest := []) (lenOf pd_14 rfl) rfl (by show 2 * 0 + _ ≤ _; exact Nat.le_of_eq rfl) (hb hby d_p25_1_5) (fun _ _ => ⟨rfl, e305, (by decide : 0 + 2 ≤ _), (by decide : 0 + 3 ≤ _)⟩)
  dsimp only [Pt.U, Pt.locs, Pt.cells, Pt.slots] at X306 l306 y306 z306 st306 hQ306
  subst l306 y306 z306
  generalize e306 : T306.heap = h306 at hQ306
  obtain ⟨ux306, rfl, N306q, K306q, lo306, q306, Ex306, Fx306, Fy306⟩ := hQ306
  have N306 := Fr.app N305 N306q
  refine own_go st306 ?_
  have Z306 : n0 ≤ h306.size := (Nat.le_trans Z0 K306q.1)
  have K306 : Keep h0 h306 [us] := (Keep.refl h0 [us]).trans K306q all0
  have hi306 := Ex306.lt
  show own_Go _ _ _ _ (T306.setTop (mkF m 8 #[.val (.ref us), .val (.int bv), .val (.int iv), .val (.ref ua)] [(.ref ux306)]))
  refine own_go (fun t k => XS.astoreN X306.here hx rfl (hb hby d_p25_1_8) rfl rfl (l' := #[.val (.ref us), .val (.int bv), .val (.int iv), .val (.ref ux306)]) rfl k) ?_
  show own_Go _ _ _ _ (T306.setTop (mkF m 9 #[.val (.ref us), .val (.int bv), .val (.int iv), .val (.ref ux306)] []))
  refine own_go (fun t k => XS.aloadN X306.here hx rfl (hb hby d_p25_1_9) rfl rfl k) ?_
  show own_Go _ _ _ _ (T306.setTop (mkF m 10 #[.val (.ref us), .val (.int bv), .val (.int iv), .val (.ref ux306)] [(.ref us)]))
  refine own_go (fun t k => XS.iloadN X306.here hx rfl (hb hby d_p25_1_10) rfl k) ?_
  show own_Go _ _ _ _ (T306.setTop (mkF m 11 #[.val (.ref us), .val (.int bv), .val (.int iv), .val (.ref ux306)] [(.int bv), (.ref us)]))
  obtain ⟨T307, h307, X307, e307, W307, st307⟩ := putFN X306 hx hZ hown (w_67 hw) Via.refl e306 (G0.keep K306q nin0) (Es.keep K306q) (Or.inr ⟨(w_68 hw), rfl, hnm⟩) (w_27 hw) (ty := .boolean) (v' := (.int bv)) (by decide) (by show Value.int (nar .boolean bv) = _; rw [hbv]) (hbv ▸ fits_nar_bool bv) (g := (mkF m 11 #[.val (.ref us), .val (.int bv), .val (.int iv), .val (.ref ux306)] [(.int bv), (.ref us)])) rfl rfl (hb hby d_p25_1_11)
  refine own_go st307 ?_
  have F307 := (G0.keep K306q nin0).same W307
  have Z307 : n0 ≤ h307.size := (Nat.le_trans Z306 (Nat.le_of_eq W307.size.symm))
  have N307 := Fr.snoc X307 N306 q0
  have K307 : Keep h0 h307 [us] := K306.wr W307 (Or.inl (List.mem_of_getElem? (i := 0) rfl))
  show own_Go _ _ _ _ (T307.setTop (mkF m 14 #[.val (.ref us), .val (.int bv), .val (.int iv), .val (.ref ux306)] []))
  refine own_go (fun t k => XS.aloadN X307.here hx rfl (hb hby d_p25_1_14) rfl rfl k) ?_
  show own_Go _ _ _ _ (T307.setTop (mkF m 15 #[.val (.ref us), .val (.int bv), .val (.int iv), .val (.ref ux306)] [(.ref us)]))
  refine own_go (fun t k => XS.iloadN X307.here hx rfl (hb hby d_p25_1_15) rfl k) ?_
  show own_Go _ _ _ _ (T307.setTop (mkF m 16 #[.val (.ref us), .val (.int bv), .val (.int iv), .val (.ref ux306)] [(.int iv), (.ref us)]))
  have f308 := ((G1.keep K306q nin0).other W307 (Or.inr (slot_ne (Or.inr (w_70 hw)) (Or.inr (w_68 hw)) (by decide) (t := .int) (t' := .boolean) (by decide) (by decide))))
  obtain ⟨T309, h309, X309, e309, W309, st309⟩ := putF X307 hx hZ hown (host := "") (Or.inl (w_69 hw)) Via.refl e307 f308 ((Es.keep K306q).wr W307) (Or.inr ⟨(w_70 hw), rfl, hnm⟩) (w_27 hw) (ty := .int) (by decide) rfl rfl (g := (mkF m 16 #[.val (.ref us), .val (.int bv), .val (.int iv), .val (.ref ux306)] [(.int iv), (.ref us)])) rfl rfl (hb hby d_p25_1_16)
  refine own_go st309 ?_
  have F309 := f308.same W309
  have Z309 : n0 ≤ h309.size := (Nat.le_trans Z307 (Nat.le_of_eq W309.size.symm))
  have N309 := Fr.snoc X309 N307 q0
  have K309 : Keep h0 h309 [us] := K307.wr W309 (Or.inl (List.mem_of_getElem? (i := 0) rfl))
  show own_Go _ _ _ _ (T309.setTop (mkF m 19 #[.val (.ref us), .val (.int bv), .val (.int iv), .val (.ref ux306)] []))
  refine own_go (fun t k => XS.aloadN X309.here hx rfl (hb hby d_p25_1_19) rfl rfl k) ?_
  show own_Go _ _ _ _ (T309.setTop (mkF m 20 #[.val (.ref us), .val (.int bv), .val (.int iv), .val (.ref ux306)] [(.ref us)]))
  refine own_go (fun t k => XS.aloadN X309.here hx rfl (hb hby d_p25_1_20) rfl rfl k) ?_
  show own_Go _ _ _ _ (T309.setTop (mkF m 21 #[.val (.ref us), .val (.int bv), .val (.int iv), .val (.ref ux306)] [(.ref ux306), (.ref us)]))
  have f310 := (((G2.keep K306q nin0).other W307 (Or.inr (slot_ne (Or.inr (w_72 hw)) (Or.inr (w_68 hw)) (by decide) (t := (.object "java/util/List")) (t' := .boolean) (by decide) (by decide)))).other W309 (Or.inr (slot_ne (Or.inr (w_72 hw)) (Or.inr (w_70 hw)) (by decide) (t := (.object "java/util/List")) (t' := .int) (by decide) (by decide))))
  obtain ⟨T311, h311, X311, e311, W311, st311⟩ := putF X309 hx hZ hown (host := "") (Or.inl (w_71 hw)) Via.refl e309 f310 (((Es.keep K306q).wr W307).wr W309) (Or.inr ⟨(w_72 hw), rfl, hnm⟩) (w_27 hw) (ty := (.object "java/util/List")) (by decide) rfl rfl (g := (mkF m 21 #[.val (.ref us), .val (.int bv), .val (.int iv), .val (.ref ux306)] [(.ref ux306), (.ref us)])) rfl rfl (hb hby d_p25_1_21)
  refine own_go st311 ?_
  have F311 := f310.same W311
  have Z311 : n0 ≤ h311.size := (Nat.le_trans Z309 (Nat.le_of_eq W311.size.symm))
  have N311 := Fr.snoc X311 N309 q0
  have K311 : Keep h0 h311 [us] := K309.wr W311 (Or.inl (List.mem_of_getElem? (i := 0) rfl))
  have f312 := ((F307.other W309 (Or.inr (slot_ne (Or.inr (w_68 hw)) (Or.inr (w_70 hw)) (by decide) (t := .boolean) (t' := .int) (by decide) (by decide)))).other W311 (Or.inr (slot_ne (Or.inr (w_68 hw)) (Or.inr (w_72 hw)) (by decide) (t := .boolean) (t' := (.object "java/util/List")) (by decide) (by decide))))
  have f313 := (F309.other W311 (Or.inr (slot_ne (Or.inr (w_70 hw)) (Or.inr (w_72 hw)) (by decide) (t := .int) (t' := (.object "java/util/List")) (by decide) (by decide))))
  have f314 := (((Fx306.other W307 (Or.inl (Ne.symm (Nat.ne_of_lt (Nat.lt_of_lt_of_le Es.lt lo306))))).other W309 (Or.inl (Ne.symm (Nat.ne_of_lt (Nat.lt_of_lt_of_le Es.lt lo306))))).other W311 (Or.inl (Ne.symm (Nat.ne_of_lt (Nat.lt_of_lt_of_le Es.lt lo306)))))
  have f315 := (((Fy306.other W307 (Or.inl (Ne.symm (Nat.ne_of_lt (Nat.lt_of_lt_of_le Es.lt lo306))))).other W309 (Or.inl (Ne.symm (Nat.ne_of_lt (Nat.lt_of_lt_of_le Es.lt lo306))))).other W311 (Or.inl (Ne.symm (Nat.ne_of_lt (Nat.lt_of_lt_of_le Es.lt lo306)))))
  show own_Go _ _ _ _ (T311.setTop (mkF m 24 #[.val (.ref us), .val (.int bv), .val (.int iv), .val (.ref ux306)] []))
  refine own_retV X311 hx hlk hret (hb hby d_p25_1_24) ?_ (by decide) (by decide)
  rw [e311]
  exact ⟨ux306, rfl, N311, K311, ⟨f312, f313, F311⟩, lo306, q306, (((Ex306.wr W307).wr W309).wr W311), f314, f315⟩
def Q_set_2 (Z : State) (us : Addr) (bv : Int32) (iv : Int32) (ua : Addr) (ub : Addr) (kb : ClassId) (ue : Addr) (ude : Addr) (kde : ClassId) (uel : Addr) (uem : Addr) (kem : ClassId) (uemp : Addr) (urec : Addr) (umi : Addr) (h0 : Heap) (n0 : Nat) (v : Option Value) (h : Heap) (L : List Loc) : Prop := ∃ ux : Addr, v = none ∧ Fr n0 L ∧ Keep h0 h [us] ∧ (Fld Z h us "com/example/grantfold/grantfold/model/Setting" "allowed" "Z" (.int bv) ∧ Fld Z h us "com/example/grantfold/grantfold/model/Setting" "line" "I" (.int iv) ∧ Fld Z h us "com/example/grantfold/grantfold/model/Setting" "where" "Ljava/util/List;" (.ref ux)) ∧ h0.size ≤ ux ∧ n0 ≤ ux ∧ Exa Z h ux "java/util/ImmutableCollections$List12" ∧ Fld Z h ux "java/util/ImmutableCollections$List12" "e0" "Ljava/lang/Object;" (.ref ue) ∧ Fld Z h ux "java/util/ImmutableCollections$List12" "e1" "Ljava/lang/Object;" (.ref ue)
theorem ef_set_2 (m : MethodId) (us : Addr) (bv : Int32) (iv : Int32) (ua : Addr) : entryFrame m #[(.ref us), (.int bv), (.int iv), (.ref ua)] 4 = mkF m 0 #[.val (.ref us), .val (.int bv), .val (.int iv), .val (.ref ua)] [] := by first | (simp [entryFrame, mkF, argsToLocals, Value.category]; done) | rfl
set_option maxRecDepth 65536 in
set_option maxHeartbeats 40000000 in
theorem rm_set_2 (l : Launch) (Z : State) (a0 : Array Value) (hw : ∀ d ∈ tables_1, d.before a0 Z = true) (ws : List Jvm.Cond) (us : Addr) (bv iv : Int32) (ua ub : Addr) (kb : ClassId) (ue ude : Addr) (kde : ClassId) (uel uem : Addr) (kem : ClassId) (uemp urec umi : Addr) (h0 : Heap) (n0 : Nat) (Z0 : n0 ≤ h0.size) (q0 : n0 ≤ us) (Es : Exa Z h0 us "com/example/grantfold/grantfold/model/Setting") (G0 : Fld Z h0 us "com/example/grantfold/grantfold/model/Setting" "allowed" "Z" (.int (0 : Int32))) (G1 : Fld Z h0 us "com/example/grantfold/grantfold/model/Setting" "line" "I" (.int (0 : Int32))) (G2 : Fld Z h0 us "com/example/grantfold/grantfold/model/Setting" "where" "Ljava/util/List;" .null) (hbv : nar .boolean bv = bv) (F1 : Fld Z h0 ua "java/util/ArrayList" "elementData" "[Ljava/lang/Object;" (.ref ub)) (F2 : Fld Z h0 ua "java/util/ArrayList" "size" "I" (.int (2 : Int32))) (E0 : Exa Z h0 ua "java/util/ArrayList") (B0 : Arv Z h0 ub kb (.object "java/lang/Object") (10 : Int32) [(.ref ue), (.ref ue), .null, .null, .null, .null, .null, .null, .null, .null] .null) (Eb : Exa Z h0 ub "[Ljava/lang/Object;") (O0 : Old Z n0 h0) (hF : own_Fac Z ue ude kde uel uem kem uemp urec umi) :
    own_Met l Z (⟨"com/example/grantfold/grantfold/model/Setting", "<init>", "(ZILjava/util/List;)V"⟩ : MethodName) prog_25_method_1_code 4 none ws ({ frames := 8, cells := 2, slots := 4, locals := 101 } : Room) #[(.ref us), (.int bv), (.int iv), (.ref ua)] h0 (Q_set_2 Z us bv iv ua ub kb ue ude kde uel uem kem uemp urec umi h0 n0) := by
  refine own_enter (own := "com/example/grantfold/grantfold/model/Setting") (plainFor_of_name pn_12) rfl ?_
  intro p e s m below meth c s₁ hlk hret hx hby hml hown hnm hZ X0 e0
  have N0 := Fr.nil n0
  refine own_cast (ef_set_2 m us bv iv ua) ?_
  obtain ⟨Se, Ee, Sd, Ad, Sl, El, Fl, Am, Sm, Em, Sr, Er, Fr1, Fr0, Mi⟩ := id hF
  show own_Go _ _ _ _ (s₁.setTop (mkF m 0 #[.val (.ref us), .val (.int bv), .val (.int iv), .val (.ref ua)] []))
  refine own_go (fun t k => XS.aloadN X0.here hx rfl (hb hby d_p25_1_0) rfl rfl k) ?_
  show own_Go _ _ _ _ (s₁.setTop (mkF m 1 #[.val (.ref us), .val (.int bv), .val (.int iv), .val (.ref ua)] [(.ref us)]))
  obtain ⟨_, _, ⟨T316, L316, k316, n316⟩, -, X316, ⟨Lc316, hQ316, l316, y316, z316⟩, st316⟩ := X0.specialBack hx (y := (⟨"java/lang/Record", "<init>", "()V"⟩ : MethodName)) rfl hown (mvT hZ (w_32 hw)) (mvT hZ (w_33 hw)) (mvT hZ (w_36 hw)) (by decide) (backOf (W := 0) (rm_rec l Z a0 hw [] us h0 n0 Z0 ) hZ (w_36 hw) (w_35 hw) (by decide) (by decide)) (g := (mkF m 1 #[.val (.ref us), .val (.int bv), .val (.int iv), .val (.ref ua)] [(.ref us)])) rfl (by rw [hml]; rfl) (Steps.refl _) (a := us) (argsL := []) (rest := []) (lenOf pd_0 rfl) rfl (by show 2 * 0 + _ ≤ _; exact Nat.le_of_eq rfl) (hb hby d_p25_1_1) (fun _ _ => ⟨rfl, e0, (by decide : 0 + 0 ≤ _), (by decide : 0 + 0 ≤ _)⟩)
  dsimp only [Pt.U, Pt.locs, Pt.cells, Pt.slots] at X316 l316 y316 z316 st316 hQ316
  subst l316 y316 z316
  obtain ⟨rfl, N316q, e316⟩ := hQ316
  have N316 := Fr.app N0 N316q
  refine own_go (fun t k => st316.trans k) ?_
  show own_Go _ _ _ _ (T316.setTop (mkF m 4 #[.val (.ref us), .val (.int bv), .val (.int iv), .val (.ref ua)] []))
  refine own_go (fun t k => XS.aloadN X316.here hx rfl (hb hby d_p25_1_4) rfl rfl k) ?_
  show own_Go _ _ _ _ (T316.setTop (mkF m 5 #[.val (.ref us), .val (.int bv), .val (.int iv), .val (.ref ua)] [(.ref ua)]))
  obtain ⟨_, _, ⟨T317, L317, k317, n317⟩, -, X317, ⟨Lc317, hQ317, l317, y317, z317⟩, st317⟩ := Jvm.LawKit.callS X316 hx (y := (⟨"java/util/List", "copyOf", "(Ljava/util/Collection;)Ljava/util/List;"⟩ : MethodName)) hown (mvT hZ (w_38 hw)) (mvT hZ (w_39 hw)) (mvT hZ (w_40 hw)) (mvT hZ (w_41 hw)) (by decide) (backOf (W := 0) (rm_cop_2 l Z a0 hw [] ua ub kb ue ude kde uel uem kem uemp urec umi h0 n0 Z0 F1 F2 E0 B0 Eb O0 hF) hZ (w_41 hw) (w_40 hw) (by decide) (by decide)) (g := (mkF m 5 #[.val (.ref us), .val (.int bv), .val (.int iv), .val (.ref ua)] [(.ref ua)])) rfl (by rw [hml]; rfl) (argsL := [(.ref ua)]) (rest := []) (lenOf pd_14 rfl) rfl (by show 2 * 0 + _ ≤ _; exact Nat.le_of_eq rfl) (hb hby d_p25_1_5) (fun _ _ => ⟨rfl, e316, (by decide : 0 + 2 ≤ _), (by decide : 0 + 4 ≤ _)⟩)
  dsimp only [Pt.U, Pt.locs, Pt.cells, Pt.slots] at X317 l317 y317 z317 st317 hQ317
  subst l317 y317 z317
  generalize e317 : T317.heap = h317 at hQ317
  obtain ⟨ux317, rfl, N317q, K317q, lo317, q317, Ex317, Fx317, Fy317⟩ := hQ317
  have N317 := Fr.app N316 N317q
  refine own_go st317 ?_
  have Z317 : n0 ≤ h317.size := (Nat.le_trans Z0 K317q.1)
  have K317 : Keep h0 h317 [us] := (Keep.refl h0 [us]).trans K317q all0
  have hi317 := Ex317.lt
  show own_Go _ _ _ _ (T317.setTop (mkF m 8 #[.val (.ref us), .val (.int bv), .val (.int iv), .val (.ref ua)] [(.ref ux317)]))
  refine own_go (fun t k => XS.astoreN X317.here hx rfl (hb hby d_p25_1_8) rfl rfl (l' := #[.val (.ref us), .val (.int bv), .val (.int iv), .val (.ref ux317)]) rfl k) ?_
  show own_Go _ _ _ _ (T317.setTop (mkF m 9 #[.val (.ref us), .val (.int bv), .val (.int iv), .val (.ref ux317)] []))
  refine own_go (fun t k => XS.aloadN X317.here hx rfl (hb hby d_p25_1_9) rfl rfl k) ?_
  show own_Go _ _ _ _ (T317.setTop (mkF m 10 #[.val (.ref us), .val (.int bv), .val (.int iv), .val (.ref ux317)] [(.ref us)]))
  refine own_go (fun t k => XS.iloadN X317.here hx rfl (hb hby d_p25_1_10) rfl k) ?_
  show own_Go _ _ _ _ (T317.setTop (mkF m 11 #[.val (.ref us), .val (.int bv), .val (.int iv), .val (.ref ux317)] [(.int bv), (.ref us)]))
  obtain ⟨T318, h318, X318, e318, W318, st318⟩ := putFN X317 hx hZ hown (w_67 hw) Via.refl e317 (G0.keep K317q nin0) (Es.keep K317q) (Or.inr ⟨(w_68 hw), rfl, hnm⟩) (w_27 hw) (ty := .boolean) (v' := (.int bv)) (by decide) (by show Value.int (nar .boolean bv) = _; rw [hbv]) (hbv ▸ fits_nar_bool bv) (g := (mkF m 11 #[.val (.ref us), .val (.int bv), .val (.int iv), .val (.ref ux317)] [(.int bv), (.ref us)])) rfl rfl (hb hby d_p25_1_11)
  refine own_go st318 ?_
  have F318 := (G0.keep K317q nin0).same W318
  have Z318 : n0 ≤ h318.size := (Nat.le_trans Z317 (Nat.le_of_eq W318.size.symm))
  have N318 := Fr.snoc X318 N317 q0
  have K318 : Keep h0 h318 [us] := K317.wr W318 (Or.inl (List.mem_of_getElem? (i := 0) rfl))
  show own_Go _ _ _ _ (T318.setTop (mkF m 14 #[.val (.ref us), .val (.int bv), .val (.int iv), .val (.ref ux317)] []))
  refine own_go (fun t k => XS.aloadN X318.here hx rfl (hb hby d_p25_1_14) rfl rfl k) ?_
  show own_Go _ _ _ _ (T318.setTop (mkF m 15 #[.val (.ref us), .val (.int bv), .val (.int iv), .val (.ref ux317)] [(.ref us)]))
  refine own_go (fun t k => XS.iloadN X318.here hx rfl (hb hby d_p25_1_15) rfl k) ?_
  show own_Go _ _ _ _ (T318.setTop (mkF m 16 #[.val (.ref us), .val (.int bv), .val (.int iv), .val (.ref ux317)] [(.int iv), (.ref us)]))
  have f319 := ((G1.keep K317q nin0).other W318 (Or.inr (slot_ne (Or.inr (w_70 hw)) (Or.inr (w_68 hw)) (by decide) (t := .int) (t' := .boolean) (by decide) (by decide))))
  obtain ⟨T320, h320, X320, e320, W320, st320⟩ := putF X318 hx hZ hown (host := "") (Or.inl (w_69 hw)) Via.refl e318 f319 ((Es.keep K317q).wr W318) (Or.inr ⟨(w_70 hw), rfl, hnm⟩) (w_27 hw) (ty := .int) (by decide) rfl rfl (g := (mkF m 16 #[.val (.ref us), .val (.int bv), .val (.int iv), .val (.ref ux317)] [(.int iv), (.ref us)])) rfl rfl (hb hby d_p25_1_16)
  refine own_go st320 ?_
  have F320 := f319.same W320
  have Z320 : n0 ≤ h320.size := (Nat.le_trans Z318 (Nat.le_of_eq W320.size.symm))
  have N320 := Fr.snoc X320 N318 q0
  have K320 : Keep h0 h320 [us] := K318.wr W320 (Or.inl (List.mem_of_getElem? (i := 0) rfl))
  show own_Go _ _ _ _ (T320.setTop (mkF m 19 #[.val (.ref us), .val (.int bv), .val (.int iv), .val (.ref ux317)] []))
  refine own_go (fun t k => XS.aloadN X320.here hx rfl (hb hby d_p25_1_19) rfl rfl k) ?_
  show own_Go _ _ _ _ (T320.setTop (mkF m 20 #[.val (.ref us), .val (.int bv), .val (.int iv), .val (.ref ux317)] [(.ref us)]))
  refine own_go (fun t k => XS.aloadN X320.here hx rfl (hb hby d_p25_1_20) rfl rfl k) ?_
  show own_Go _ _ _ _ (T320.setTop (mkF m 21 #[.val (.ref us), .val (.int bv), .val (.int iv), .val (.ref ux317)] [(.ref ux317), (.ref us)]))
  have f321 := (((G2.keep K317q nin0).other W318 (Or.inr (slot_ne (Or.inr (w_72 hw)) (Or.inr (w_68 hw)) (by decide) (t := (.object "java/util/List")) (t' := .boolean) (by decide) (by decide)))).other W320 (Or.inr (slot_ne (Or.inr (w_72 hw)) (Or.inr (w_70 hw)) (by decide) (t := (.object "java/util/List")) (t' := .int) (by decide) (by decide))))
  obtain ⟨T322, h322, X322, e322, W322, st322⟩ := putF X320 hx hZ hown (host := "") (Or.inl (w_71 hw)) Via.refl e320 f321 (((Es.keep K317q).wr W318).wr W320) (Or.inr ⟨(w_72 hw), rfl, hnm⟩) (w_27 hw) (ty := (.object "java/util/List")) (by decide) rfl rfl (g := (mkF m 21 #[.val (.ref us), .val (.int bv), .val (.int iv), .val (.ref ux317)] [(.ref ux317), (.ref us)])) rfl rfl (hb hby d_p25_1_21)
  refine own_go st322 ?_
  have F322 := f321.same W322
  have Z322 : n0 ≤ h322.size := (Nat.le_trans Z320 (Nat.le_of_eq W322.size.symm))
  have N322 := Fr.snoc X322 N320 q0
  have K322 : Keep h0 h322 [us] := K320.wr W322 (Or.inl (List.mem_of_getElem? (i := 0) rfl))
  have f323 := ((F318.other W320 (Or.inr (slot_ne (Or.inr (w_68 hw)) (Or.inr (w_70 hw)) (by decide) (t := .boolean) (t' := .int) (by decide) (by decide)))).other W322 (Or.inr (slot_ne (Or.inr (w_68 hw)) (Or.inr (w_72 hw)) (by decide) (t := .boolean) (t' := (.object "java/util/List")) (by decide) (by decide))))
  have f324 := (F320.other W322 (Or.inr (slot_ne (Or.inr (w_70 hw)) (Or.inr (w_72 hw)) (by decide) (t := .int) (t' := (.object "java/util/List")) (by decide) (by decide))))
  have f325 := (((Fx317.other W318 (Or.inl (Ne.symm (Nat.ne_of_lt (Nat.lt_of_lt_of_le Es.lt lo317))))).other W320 (Or.inl (Ne.symm (Nat.ne_of_lt (Nat.lt_of_lt_of_le Es.lt lo317))))).other W322 (Or.inl (Ne.symm (Nat.ne_of_lt (Nat.lt_of_lt_of_le Es.lt lo317)))))
  have f326 := (((Fy317.other W318 (Or.inl (Ne.symm (Nat.ne_of_lt (Nat.lt_of_lt_of_le Es.lt lo317))))).other W320 (Or.inl (Ne.symm (Nat.ne_of_lt (Nat.lt_of_lt_of_le Es.lt lo317))))).other W322 (Or.inl (Ne.symm (Nat.ne_of_lt (Nat.lt_of_lt_of_le Es.lt lo317)))))
  show own_Go _ _ _ _ (T322.setTop (mkF m 24 #[.val (.ref us), .val (.int bv), .val (.int iv), .val (.ref ux317)] []))
  refine own_retV X322 hx hlk hret (hb hby d_p25_1_24) ?_ (by decide) (by decide)
  rw [e322]
  exact ⟨ux317, rfl, N322, K322, ⟨f323, f324, F322⟩, lo317, q317, (((Ex317.wr W318).wr W320).wr W322), f325, f326⟩
def Q_set_3 (Z : State) (us : Addr) (bv : Int32) (iv : Int32) (ua : Addr) (ub : Addr) (kb : ClassId) (ue : Addr) (ude : Addr) (kde : ClassId) (uel : Addr) (uem : Addr) (kem : ClassId) (uemp : Addr) (urec : Addr) (umi : Addr) (h0 : Heap) (n0 : Nat) (v : Option Value) (h : Heap) (L : List Loc) : Prop := ∃ ux : Addr, v = none ∧ Fr n0 L ∧ Keep h0 h [us] ∧ (Fld Z h us "com/example/grantfold/grantfold/model/Setting" "allowed" "Z" (.int bv) ∧ Fld Z h us "com/example/grantfold/grantfold/model/Setting" "line" "I" (.int iv) ∧ Fld Z h us "com/example/grantfold/grantfold/model/Setting" "where" "Ljava/util/List;" (.ref ux)) ∧ h0.size ≤ ux ∧ n0 ≤ ux ∧ ∃ (uy : Addr) (ky : ClassId), n0 ≤ uy ∧ h0.size ≤ uy ∧ Exa Z h ux "java/util/ImmutableCollections$ListN" ∧ Fld Z h ux "java/util/ImmutableCollections$ListN" "elements" "[Ljava/lang/Object;" (.ref uy) ∧ Arv Z h uy ky (.object "java/lang/Object") (3 : Int32) [(.ref ue), (.ref ue), (.ref ue)] .null
theorem ef_set_3 (m : MethodId) (us : Addr) (bv : Int32) (iv : Int32) (ua : Addr) : entryFrame m #[(.ref us), (.int bv), (.int iv), (.ref ua)] 4 = mkF m 0 #[.val (.ref us), .val (.int bv), .val (.int iv), .val (.ref ua)] [] := by first | (simp [entryFrame, mkF, argsToLocals, Value.category]; done) | rfl
set_option maxRecDepth 65536 in
set_option maxHeartbeats 40000000 in
theorem rm_set_3 (l : Launch) (Z : State) (a0 : Array Value) (hw : ∀ d ∈ tables_1, d.before a0 Z = true) (ws : List Jvm.Cond) (us : Addr) (bv iv : Int32) (ua ub : Addr) (kb : ClassId) (ue ude : Addr) (kde : ClassId) (uel uem : Addr) (kem : ClassId) (uemp urec umi : Addr) (h0 : Heap) (n0 : Nat) (Z0 : n0 ≤ h0.size) (q0 : n0 ≤ us) (Es : Exa Z h0 us "com/example/grantfold/grantfold/model/Setting") (G0 : Fld Z h0 us "com/example/grantfold/grantfold/model/Setting" "allowed" "Z" (.int (0 : Int32))) (G1 : Fld Z h0 us "com/example/grantfold/grantfold/model/Setting" "line" "I" (.int (0 : Int32))) (G2 : Fld Z h0 us "com/example/grantfold/grantfold/model/Setting" "where" "Ljava/util/List;" .null) (hbv : nar .boolean bv = bv) (F1 : Fld Z h0 ua "java/util/ArrayList" "elementData" "[Ljava/lang/Object;" (.ref ub)) (F2 : Fld Z h0 ua "java/util/ArrayList" "size" "I" (.int (3 : Int32))) (E0 : Exa Z h0 ua "java/util/ArrayList") (B0 : Arv Z h0 ub kb (.object "java/lang/Object") (10 : Int32) [(.ref ue), (.ref ue), (.ref ue), .null, .null, .null, .null, .null, .null, .null] .null) (Eb : Exa Z h0 ub "[Ljava/lang/Object;") (O0 : Old Z n0 h0) (hF : own_Fac Z ue ude kde uel uem kem uemp urec umi) :
    own_Met l Z (⟨"com/example/grantfold/grantfold/model/Setting", "<init>", "(ZILjava/util/List;)V"⟩ : MethodName) prog_25_method_1_code 4 none ws ({ frames := 9, cells := 3, slots := 8, locals := 115 } : Room) #[(.ref us), (.int bv), (.int iv), (.ref ua)] h0 (Q_set_3 Z us bv iv ua ub kb ue ude kde uel uem kem uemp urec umi h0 n0) := by
  refine own_enter (own := "com/example/grantfold/grantfold/model/Setting") (plainFor_of_name pn_12) rfl ?_
  intro p e s m below meth c s₁ hlk hret hx hby hml hown hnm hZ X0 e0
  have N0 := Fr.nil n0
  refine own_cast (ef_set_3 m us bv iv ua) ?_
  obtain ⟨Se, Ee, Sd, Ad, Sl, El, Fl, Am, Sm, Em, Sr, Er, Fr1, Fr0, Mi⟩ := id hF
  show own_Go _ _ _ _ (s₁.setTop (mkF m 0 #[.val (.ref us), .val (.int bv), .val (.int iv), .val (.ref ua)] []))
  refine own_go (fun t k => XS.aloadN X0.here hx rfl (hb hby d_p25_1_0) rfl rfl k) ?_
  show own_Go _ _ _ _ (s₁.setTop (mkF m 1 #[.val (.ref us), .val (.int bv), .val (.int iv), .val (.ref ua)] [(.ref us)]))
  obtain ⟨_, _, ⟨T327, L327, k327, n327⟩, -, X327, ⟨Lc327, hQ327, l327, y327, z327⟩, st327⟩ := X0.specialBack hx (y := (⟨"java/lang/Record", "<init>", "()V"⟩ : MethodName)) rfl hown (mvT hZ (w_32 hw)) (mvT hZ (w_33 hw)) (mvT hZ (w_36 hw)) (by decide) (backOf (W := 0) (rm_rec l Z a0 hw [] us h0 n0 Z0 ) hZ (w_36 hw) (w_35 hw) (by decide) (by decide)) (g := (mkF m 1 #[.val (.ref us), .val (.int bv), .val (.int iv), .val (.ref ua)] [(.ref us)])) rfl (by rw [hml]; rfl) (Steps.refl _) (a := us) (argsL := []) (rest := []) (lenOf pd_0 rfl) rfl (by show 2 * 0 + _ ≤ _; exact Nat.le_of_eq rfl) (hb hby d_p25_1_1) (fun _ _ => ⟨rfl, e0, (by decide : 0 + 0 ≤ _), (by decide : 0 + 0 ≤ _)⟩)
  dsimp only [Pt.U, Pt.locs, Pt.cells, Pt.slots] at X327 l327 y327 z327 st327 hQ327
  subst l327 y327 z327
  obtain ⟨rfl, N327q, e327⟩ := hQ327
  have N327 := Fr.app N0 N327q
  refine own_go (fun t k => st327.trans k) ?_
  show own_Go _ _ _ _ (T327.setTop (mkF m 4 #[.val (.ref us), .val (.int bv), .val (.int iv), .val (.ref ua)] []))
  refine own_go (fun t k => XS.aloadN X327.here hx rfl (hb hby d_p25_1_4) rfl rfl k) ?_
  show own_Go _ _ _ _ (T327.setTop (mkF m 5 #[.val (.ref us), .val (.int bv), .val (.int iv), .val (.ref ua)] [(.ref ua)]))
  obtain ⟨_, _, ⟨T328, L328, k328, n328⟩, -, X328, ⟨Lc328, hQ328, l328, y328, z328⟩, st328⟩ := Jvm.LawKit.callS X327 hx (y := (⟨"java/util/List", "copyOf", "(Ljava/util/Collection;)Ljava/util/List;"⟩ : MethodName)) hown (mvT hZ (w_38 hw)) (mvT hZ (w_39 hw)) (mvT hZ (w_40 hw)) (mvT hZ (w_41 hw)) (by decide) (backOf (W := 0) (rm_cop_3 l Z a0 hw [] ua ub kb ue ude kde uel uem kem uemp urec umi h0 n0 Z0 F1 F2 E0 B0 Eb O0 hF) hZ (w_41 hw) (w_40 hw) (by decide) (by decide)) (g := (mkF m 5 #[.val (.ref us), .val (.int bv), .val (.int iv), .val (.ref ua)] [(.ref ua)])) rfl (by rw [hml]; rfl) (argsL := [(.ref ua)]) (rest := []) (lenOf pd_14 rfl) rfl (by show 2 * 0 + _ ≤ _; exact Nat.le_of_eq rfl) (hb hby d_p25_1_5) (fun _ _ => ⟨rfl, e327, (by decide : 0 + 3 ≤ _), (by decide : 0 + 8 ≤ _)⟩)
  dsimp only [Pt.U, Pt.locs, Pt.cells, Pt.slots] at X328 l328 y328 z328 st328 hQ328
  subst l328 y328 z328
  generalize e328 : T328.heap = h328 at hQ328
  obtain ⟨ux328, rfl, N328q, K328q, lo328, q328, uy328, ky328, qy328, ly328, Ex328, Fx328, Ay328⟩ := hQ328
  have N328 := Fr.app N327 N328q
  refine own_go st328 ?_
  have Z328 : n0 ≤ h328.size := (Nat.le_trans Z0 K328q.1)
  have K328 : Keep h0 h328 [us] := (Keep.refl h0 [us]).trans K328q all0
  have hi328 := Ex328.lt
  have hy328 := Ay328.lt
  show own_Go _ _ _ _ (T328.setTop (mkF m 8 #[.val (.ref us), .val (.int bv), .val (.int iv), .val (.ref ua)] [(.ref ux328)]))
  refine own_go (fun t k => XS.astoreN X328.here hx rfl (hb hby d_p25_1_8) rfl rfl (l' := #[.val (.ref us), .val (.int bv), .val (.int iv), .val (.ref ux328)]) rfl k) ?_
  show own_Go _ _ _ _ (T328.setTop (mkF m 9 #[.val (.ref us), .val (.int bv), .val (.int iv), .val (.ref ux328)] []))
  refine own_go (fun t k => XS.aloadN X328.here hx rfl (hb hby d_p25_1_9) rfl rfl k) ?_
  show own_Go _ _ _ _ (T328.setTop (mkF m 10 #[.val (.ref us), .val (.int bv), .val (.int iv), .val (.ref ux328)] [(.ref us)]))
  refine own_go (fun t k => XS.iloadN X328.here hx rfl (hb hby d_p25_1_10) rfl k) ?_
  show own_Go _ _ _ _ (T328.setTop (mkF m 11 #[.val (.ref us), .val (.int bv), .val (.int iv), .val (.ref ux328)] [(.int bv), (.ref us)]))
  obtain ⟨T329, h329, X329, e329, W329, st329⟩ := putFN X328 hx hZ hown (w_67 hw) Via.refl e328 (G0.keep K328q nin0) (Es.keep K328q) (Or.inr ⟨(w_68 hw), rfl, hnm⟩) (w_27 hw) (ty := .boolean) (v' := (.int bv)) (by decide) (by show Value.int (nar .boolean bv) = _; rw [hbv]) (hbv ▸ fits_nar_bool bv) (g := (mkF m 11 #[.val (.ref us), .val (.int bv), .val (.int iv), .val (.ref ux328)] [(.int bv), (.ref us)])) rfl rfl (hb hby d_p25_1_11)
  refine own_go st329 ?_
  have F329 := (G0.keep K328q nin0).same W329
  have Z329 : n0 ≤ h329.size := (Nat.le_trans Z328 (Nat.le_of_eq W329.size.symm))
  have N329 := Fr.snoc X329 N328 q0
  have K329 : Keep h0 h329 [us] := K328.wr W329 (Or.inl (List.mem_of_getElem? (i := 0) rfl))
  show own_Go _ _ _ _ (T329.setTop (mkF m 14 #[.val (.ref us), .val (.int bv), .val (.int iv), .val (.ref ux328)] []))
  refine own_go (fun t k => XS.aloadN X329.here hx rfl (hb hby d_p25_1_14) rfl rfl k) ?_
  show own_Go _ _ _ _ (T329.setTop (mkF m 15 #[.val (.ref us), .val (.int bv), .val (.int iv), .val (.ref ux328)] [(.ref us)]))
  refine own_go (fun t k => XS.iloadN X329.here hx rfl (hb hby d_p25_1_15) rfl k) ?_
  show own_Go _ _ _ _ (T329.setTop (mkF m 16 #[.val (.ref us), .val (.int bv), .val (.int iv), .val (.ref ux328)] [(.int iv), (.ref us)]))
  have f330 := ((G1.keep K328q nin0).other W329 (Or.inr (slot_ne (Or.inr (w_70 hw)) (Or.inr (w_68 hw)) (by decide) (t := .int) (t' := .boolean) (by decide) (by decide))))
  obtain ⟨T331, h331, X331, e331, W331, st331⟩ := putF X329 hx hZ hown (host := "") (Or.inl (w_69 hw)) Via.refl e329 f330 ((Es.keep K328q).wr W329) (Or.inr ⟨(w_70 hw), rfl, hnm⟩) (w_27 hw) (ty := .int) (by decide) rfl rfl (g := (mkF m 16 #[.val (.ref us), .val (.int bv), .val (.int iv), .val (.ref ux328)] [(.int iv), (.ref us)])) rfl rfl (hb hby d_p25_1_16)
  refine own_go st331 ?_
  have F331 := f330.same W331
  have Z331 : n0 ≤ h331.size := (Nat.le_trans Z329 (Nat.le_of_eq W331.size.symm))
  have N331 := Fr.snoc X331 N329 q0
  have K331 : Keep h0 h331 [us] := K329.wr W331 (Or.inl (List.mem_of_getElem? (i := 0) rfl))
  show own_Go _ _ _ _ (T331.setTop (mkF m 19 #[.val (.ref us), .val (.int bv), .val (.int iv), .val (.ref ux328)] []))
  refine own_go (fun t k => XS.aloadN X331.here hx rfl (hb hby d_p25_1_19) rfl rfl k) ?_
  show own_Go _ _ _ _ (T331.setTop (mkF m 20 #[.val (.ref us), .val (.int bv), .val (.int iv), .val (.ref ux328)] [(.ref us)]))
  refine own_go (fun t k => XS.aloadN X331.here hx rfl (hb hby d_p25_1_20) rfl rfl k) ?_
  show own_Go _ _ _ _ (T331.setTop (mkF m 21 #[.val (.ref us), .val (.int bv), .val (.int iv), .val (.ref ux328)] [(.ref ux328), (.ref us)]))
  have f332 := (((G2.keep K328q nin0).other W329 (Or.inr (slot_ne (Or.inr (w_72 hw)) (Or.inr (w_68 hw)) (by decide) (t := (.object "java/util/List")) (t' := .boolean) (by decide) (by decide)))).other W331 (Or.inr (slot_ne (Or.inr (w_72 hw)) (Or.inr (w_70 hw)) (by decide) (t := (.object "java/util/List")) (t' := .int) (by decide) (by decide))))
  obtain ⟨T333, h333, X333, e333, W333, st333⟩ := putF X331 hx hZ hown (host := "") (Or.inl (w_71 hw)) Via.refl e331 f332 (((Es.keep K328q).wr W329).wr W331) (Or.inr ⟨(w_72 hw), rfl, hnm⟩) (w_27 hw) (ty := (.object "java/util/List")) (by decide) rfl rfl (g := (mkF m 21 #[.val (.ref us), .val (.int bv), .val (.int iv), .val (.ref ux328)] [(.ref ux328), (.ref us)])) rfl rfl (hb hby d_p25_1_21)
  refine own_go st333 ?_
  have F333 := f332.same W333
  have Z333 : n0 ≤ h333.size := (Nat.le_trans Z331 (Nat.le_of_eq W333.size.symm))
  have N333 := Fr.snoc X333 N331 q0
  have K333 : Keep h0 h333 [us] := K331.wr W333 (Or.inl (List.mem_of_getElem? (i := 0) rfl))
  have f334 := ((F329.other W331 (Or.inr (slot_ne (Or.inr (w_68 hw)) (Or.inr (w_70 hw)) (by decide) (t := .boolean) (t' := .int) (by decide) (by decide)))).other W333 (Or.inr (slot_ne (Or.inr (w_68 hw)) (Or.inr (w_72 hw)) (by decide) (t := .boolean) (t' := (.object "java/util/List")) (by decide) (by decide))))
  have f335 := (F331.other W333 (Or.inr (slot_ne (Or.inr (w_70 hw)) (Or.inr (w_72 hw)) (by decide) (t := .int) (t' := (.object "java/util/List")) (by decide) (by decide))))
  have f336 := (((Fx328.other W329 (Or.inl (Ne.symm (Nat.ne_of_lt (Nat.lt_of_lt_of_le Es.lt lo328))))).other W331 (Or.inl (Ne.symm (Nat.ne_of_lt (Nat.lt_of_lt_of_le Es.lt lo328))))).other W333 (Or.inl (Ne.symm (Nat.ne_of_lt (Nat.lt_of_lt_of_le Es.lt lo328)))))
  have f337 := (((Ay328.other W329 (Ne.symm (Nat.ne_of_lt (Nat.lt_of_lt_of_le Es.lt ly328)))).other W331 (Ne.symm (Nat.ne_of_lt (Nat.lt_of_lt_of_le Es.lt ly328)))).other W333 (Ne.symm (Nat.ne_of_lt (Nat.lt_of_lt_of_le Es.lt ly328))))
  show own_Go _ _ _ _ (T333.setTop (mkF m 24 #[.val (.ref us), .val (.int bv), .val (.int iv), .val (.ref ux328)] []))
  refine own_retV X333 hx hlk hret (hb hby d_p25_1_24) ?_ (by decide) (by decide)
  rw [e333]
  exact ⟨ux328, rfl, N333, K333, ⟨f334, f335, F333⟩, lo328, q328, uy328, ky328, qy328, ly328, (((Ex328.wr W329).wr W331).wr W333), f336, f337⟩
def Q_e12 (Z : State) (ux : Addr) (h0 : Heap) (n0 : Nat) (v : Option Value) (h : Heap) (L : List Loc) : Prop := v = some (.int 0) ∧ Fr n0 L ∧ h = h0
theorem ef_e12 (m : MethodId) (ux : Addr) : entryFrame m #[(.ref ux)] 1 = mkF m 0 #[.val (.ref ux)] [] := by first | (simp [entryFrame, mkF, argsToLocals, Value.category]; done) | rfl
theorem d_j44_4_0 : decode jdk_44_method_4_code 0 = .ok (.iconst 0, 1) := by decide +kernel
theorem d_j44_4_1 : decode jdk_44_method_4_code 1 = .ok (.ireturn, 1) := by decide +kernel
set_option maxRecDepth 65536 in
set_option maxHeartbeats 40000000 in
theorem rm_e12 (l : Launch) (Z : State) (a0 : Array Value) (hw : ∀ d ∈ tables_1, d.before a0 Z = true) (ws : List Jvm.Cond) (ux : Addr) (h0 : Heap) (n0 : Nat) (Z0 : n0 ≤ h0.size) :
    own_Met l Z (⟨"java/util/ImmutableCollections$List12", "isEmpty", "()Z"⟩ : MethodName) jdk_44_method_4_code 1 (some .boolean) ws ({ frames := 0, cells := 0, slots := 0, locals := 0 } : Room) #[(.ref ux)] h0 (Q_e12 Z ux h0 n0) := by
  refine own_enter (own := "java/util/ImmutableCollections$List12") (plainFor_of_name pn_8) rfl ?_
  intro p e s m below meth c s₁ hlk hret hx hby hml hown hnm hZ X0 e0
  have N0 := Fr.nil n0
  refine own_cast (ef_e12 m ux) ?_
  show own_Go _ _ _ _ (s₁.setTop (mkF m 0 #[.val (.ref ux)] []))
  refine own_go (fun t k => XS.iconst X0.here hx rfl (hb hby d_j44_4_0) k) ?_
  show own_Go _ _ _ _ (s₁.setTop (mkF m 1 #[.val (.ref ux)] [(.int (0 : Int32))]))
  refine own_retN X0 hx hlk (t := .boolean) hret (by simp) (hb hby d_j44_4_1) ?_ (by decide) (by decide)
  rw [e0]
  exact ⟨rfl, N0, rfl⟩
def Q_eN_0 (Z : State) (ux : Addr) (uy : Addr) (ky : ClassId) (ue : Addr) (h0 : Heap) (n0 : Nat) (v : Option Value) (h : Heap) (L : List Loc) : Prop := v = some (.int 1) ∧ Fr n0 L ∧ h = h0
theorem ef_eN_0 (m : MethodId) (ux : Addr) : entryFrame m #[(.ref ux)] 1 = mkF m 0 #[.val (.ref ux)] [] := by first | (simp [entryFrame, mkF, argsToLocals, Value.category]; done) | rfl
theorem d_j45_2_0 : decode jdk_45_method_2_code 0 = .ok (.aload_n 0, 1) := by decide +kernel
theorem d_j45_2_1 : decode jdk_45_method_2_code 1 = .ok (.getfield 7, 3) := by decide +kernel
theorem d_j45_2_4 : decode jdk_45_method_2_code 4 = .ok (.arraylength, 1) := by decide +kernel
theorem d_j45_2_5 : decode jdk_45_method_2_code 5 = .ok (.ifCond .ne 7, 3) := by decide +kernel
theorem d_j45_2_8 : decode jdk_45_method_2_code 8 = .ok (.iconst 1, 1) := by decide +kernel
theorem d_j45_2_9 : decode jdk_45_method_2_code 9 = .ok (.goto 4, 3) := by decide +kernel
theorem d_j45_2_13 : decode jdk_45_method_2_code 13 = .ok (.ireturn, 1) := by decide +kernel
set_option maxRecDepth 65536 in
set_option maxHeartbeats 40000000 in
theorem rm_eN_0 (l : Launch) (Z : State) (a0 : Array Value) (hw : ∀ d ∈ tables_1, d.before a0 Z = true) (ws : List Jvm.Cond) (ux uy : Addr) (ky : ClassId) (ue : Addr) (h0 : Heap) (n0 : Nat) (Z0 : n0 ≤ h0.size) (F0 : Fld Z h0 ux "java/util/ImmutableCollections$ListN" "elements" "[Ljava/lang/Object;" (.ref uy)) (A0 : Arv Z h0 uy ky (.object "java/lang/Object") (0 : Int32) [] .null) :
    own_Met l Z (⟨"java/util/ImmutableCollections$ListN", "isEmpty", "()Z"⟩ : MethodName) jdk_45_method_2_code 1 (some .boolean) ws ({ frames := 0, cells := 0, slots := 0, locals := 0 } : Room) #[(.ref ux)] h0 (Q_eN_0 Z ux uy ky ue h0 n0) := by
  refine own_enter (own := "java/util/ImmutableCollections$ListN") (plainFor_of_name pn_9) rfl ?_
  intro p e s m below meth c s₁ hlk hret hx hby hml hown hnm hZ X0 e0
  have N0 := Fr.nil n0
  refine own_cast (ef_eN_0 m ux) ?_
  show own_Go _ _ _ _ (s₁.setTop (mkF m 0 #[.val (.ref ux)] []))
  refine own_go (fun t k => XS.aloadN X0.here hx rfl (hb hby d_j45_2_0) rfl rfl k) ?_
  show own_Go _ _ _ _ (s₁.setTop (mkF m 1 #[.val (.ref ux)] [(.ref ux)]))
  obtain ⟨T338, X338, e338, st338⟩ := getF X0 hx hZ hown (host := "") (Or.inl (w_120 hw)) Via.refl e0 F0 (g := (mkF m 1 #[.val (.ref ux)] [(.ref ux)])) rfl rfl (hb hby d_j45_2_1)
  refine own_go st338 ?_
  show own_Go _ _ _ _ (T338.setTop (mkF m 4 #[.val (.ref ux)] [(.ref uy)]))
  obtain ⟨cl339, Ar339, qk339, sz339, nn339, ha339, gf339⟩ := id A0
  refine own_go (X338.arraylength hx (by rw [e338]; exact Ar339.1) (State.isArrayOf_alike hZ.alike Ar339.2.1) (g := (mkF m 4 #[.val (.ref ux)] [(.ref uy)])) rfl rfl (hb hby d_j45_2_4)) ?_
  rw [len_of sz339 nn339]
  show own_Go _ _ _ _ (T338.setTop (mkF m 5 #[.val (.ref ux)] [(.int (0 : Int32))]))
  refine own_go (fun t k => XS.ifNo X338.here hx rfl (hb hby d_j45_2_5) rfl ((if0 _ _).trans (teq (by decide : (0 : Int32) = (0 : Int32))).2) k) ?_
  show own_Go _ _ _ _ (T338.setTop (mkF m 8 #[.val (.ref ux)] []))
  refine own_go (fun t k => XS.iconst X338.here hx rfl (hb hby d_j45_2_8) k) ?_
  show own_Go _ _ _ _ (T338.setTop (mkF m 9 #[.val (.ref ux)] [(.int (1 : Int32))]))
  refine own_go (fun t k => XS.goto X338.here hx rfl (pc0 := 9) (pc' := 13) rfl (hb hby d_j45_2_9) (by decide) (by decide) k) ?_
  show own_Go _ _ _ _ (T338.setTop (mkF m 13 #[.val (.ref ux)] [(.int (1 : Int32))]))
  refine own_retN X338 hx hlk (t := .boolean) hret (by simp) (hb hby d_j45_2_13) ?_ (by decide) (by decide)
  rw [e338]
  exact ⟨rfl, N0, rfl⟩
def Q_eN_3 (Z : State) (ux : Addr) (uy : Addr) (ky : ClassId) (ue : Addr) (h0 : Heap) (n0 : Nat) (v : Option Value) (h : Heap) (L : List Loc) : Prop := v = some (.int 0) ∧ Fr n0 L ∧ h = h0
theorem ef_eN_3 (m : MethodId) (ux : Addr) : entryFrame m #[(.ref ux)] 1 = mkF m 0 #[.val (.ref ux)] [] := by first | (simp [entryFrame, mkF, argsToLocals, Value.category]; done) | rfl
theorem d_j45_2_12 : decode jdk_45_method_2_code 12 = .ok (.iconst 0, 1) := by decide +kernel
set_option maxRecDepth 65536 in
set_option maxHeartbeats 40000000 in
theorem rm_eN_3 (l : Launch) (Z : State) (a0 : Array Value) (hw : ∀ d ∈ tables_1, d.before a0 Z = true) (ws : List Jvm.Cond) (ux uy : Addr) (ky : ClassId) (ue : Addr) (h0 : Heap) (n0 : Nat) (Z0 : n0 ≤ h0.size) (F0 : Fld Z h0 ux "java/util/ImmutableCollections$ListN" "elements" "[Ljava/lang/Object;" (.ref uy)) (A0 : Arv Z h0 uy ky (.object "java/lang/Object") (3 : Int32) [(.ref ue), (.ref ue), (.ref ue)] .null) :
    own_Met l Z (⟨"java/util/ImmutableCollections$ListN", "isEmpty", "()Z"⟩ : MethodName) jdk_45_method_2_code 1 (some .boolean) ws ({ frames := 0, cells := 0, slots := 0, locals := 0 } : Room) #[(.ref ux)] h0 (Q_eN_3 Z ux uy ky ue h0 n0) := by
  refine own_enter (own := "java/util/ImmutableCollections$ListN") (plainFor_of_name pn_9) rfl ?_
  intro p e s m below meth c s₁ hlk hret hx hby hml hown hnm hZ X0 e0
  have N0 := Fr.nil n0
  refine own_cast (ef_eN_3 m ux) ?_
  show own_Go _ _ _ _ (s₁.setTop (mkF m 0 #[.val (.ref ux)] []))
  refine own_go (fun t k => XS.aloadN X0.here hx rfl (hb hby d_j45_2_0) rfl rfl k) ?_
  show own_Go _ _ _ _ (s₁.setTop (mkF m 1 #[.val (.ref ux)] [(.ref ux)]))
  obtain ⟨T340, X340, e340, st340⟩ := getF X0 hx hZ hown (host := "") (Or.inl (w_120 hw)) Via.refl e0 F0 (g := (mkF m 1 #[.val (.ref ux)] [(.ref ux)])) rfl rfl (hb hby d_j45_2_1)
  refine own_go st340 ?_
  show own_Go _ _ _ _ (T340.setTop (mkF m 4 #[.val (.ref ux)] [(.ref uy)]))
  obtain ⟨cl341, Ar341, qk341, sz341, nn341, ha341, gf341⟩ := id A0
  refine own_go (X340.arraylength hx (by rw [e340]; exact Ar341.1) (State.isArrayOf_alike hZ.alike Ar341.2.1) (g := (mkF m 4 #[.val (.ref ux)] [(.ref uy)])) rfl rfl (hb hby d_j45_2_4)) ?_
  rw [len_of sz341 nn341]
  show own_Go _ _ _ _ (T340.setTop (mkF m 5 #[.val (.ref ux)] [(.int (3 : Int32))]))
  refine own_go (fun t k => XS.ifYes X340.here hx rfl (pc0 := 5) (pc' := 12) rfl (hb hby d_j45_2_5) rfl ((if0 _ _).trans (feq (by decide : ¬ ((3 : Int32) = (0 : Int32)))).2) (by decide) (by decide) k) ?_
  show own_Go _ _ _ _ (T340.setTop (mkF m 12 #[.val (.ref ux)] []))
  refine own_go (fun t k => XS.iconst X340.here hx rfl (hb hby d_j45_2_12) k) ?_
  show own_Go _ _ _ _ (T340.setTop (mkF m 13 #[.val (.ref ux)] [(.int (0 : Int32))]))
  refine own_retN X340 hx hlk (t := .boolean) hret (by simp) (hb hby d_j45_2_13) ?_ (by decide) (by decide)
  rw [e340]
  exact ⟨rfl, N0, rfl⟩
def Q_sN (Z : State) (ux : Addr) (uy : Addr) (ky : ClassId) (ue : Addr) (h0 : Heap) (n0 : Nat) (v : Option Value) (h : Heap) (L : List Loc) : Prop := v = some (.int 3) ∧ Fr n0 L ∧ h = h0
theorem ef_sN (m : MethodId) (ux : Addr) : entryFrame m #[(.ref ux)] 1 = mkF m 0 #[.val (.ref ux)] [] := by first | (simp [entryFrame, mkF, argsToLocals, Value.category]; done) | rfl
theorem d_j45_3_0 : decode jdk_45_method_3_code 0 = .ok (.aload_n 0, 1) := by decide +kernel
theorem d_j45_3_1 : decode jdk_45_method_3_code 1 = .ok (.getfield 7, 3) := by decide +kernel
theorem d_j45_3_4 : decode jdk_45_method_3_code 4 = .ok (.arraylength, 1) := by decide +kernel
theorem d_j45_3_5 : decode jdk_45_method_3_code 5 = .ok (.ireturn, 1) := by decide +kernel
set_option maxRecDepth 65536 in
set_option maxHeartbeats 40000000 in
theorem rm_sN (l : Launch) (Z : State) (a0 : Array Value) (hw : ∀ d ∈ tables_1, d.before a0 Z = true) (ws : List Jvm.Cond) (ux uy : Addr) (ky : ClassId) (ue : Addr) (h0 : Heap) (n0 : Nat) (Z0 : n0 ≤ h0.size) (F0 : Fld Z h0 ux "java/util/ImmutableCollections$ListN" "elements" "[Ljava/lang/Object;" (.ref uy)) (A0 : Arv Z h0 uy ky (.object "java/lang/Object") (3 : Int32) [(.ref ue), (.ref ue), (.ref ue)] .null) :
    own_Met l Z (⟨"java/util/ImmutableCollections$ListN", "size", "()I"⟩ : MethodName) jdk_45_method_3_code 1 (some .int) ws ({ frames := 0, cells := 0, slots := 0, locals := 0 } : Room) #[(.ref ux)] h0 (Q_sN Z ux uy ky ue h0 n0) := by
  refine own_enter (own := "java/util/ImmutableCollections$ListN") (plainFor_of_name pn_9) rfl ?_
  intro p e s m below meth c s₁ hlk hret hx hby hml hown hnm hZ X0 e0
  have N0 := Fr.nil n0
  refine own_cast (ef_sN m ux) ?_
  show own_Go _ _ _ _ (s₁.setTop (mkF m 0 #[.val (.ref ux)] []))
  refine own_go (fun t k => XS.aloadN X0.here hx rfl (hb hby d_j45_3_0) rfl rfl k) ?_
  show own_Go _ _ _ _ (s₁.setTop (mkF m 1 #[.val (.ref ux)] [(.ref ux)]))
  obtain ⟨T342, X342, e342, st342⟩ := getF X0 hx hZ hown (host := "") (Or.inl (w_120 hw)) Via.refl e0 F0 (g := (mkF m 1 #[.val (.ref ux)] [(.ref ux)])) rfl rfl (hb hby d_j45_3_1)
  refine own_go st342 ?_
  show own_Go _ _ _ _ (T342.setTop (mkF m 4 #[.val (.ref ux)] [(.ref uy)]))
  obtain ⟨cl343, Ar343, qk343, sz343, nn343, ha343, gf343⟩ := id A0
  refine own_go (X342.arraylength hx (by rw [e342]; exact Ar343.1) (State.isArrayOf_alike hZ.alike Ar343.2.1) (g := (mkF m 4 #[.val (.ref ux)] [(.ref uy)])) rfl rfl (hb hby d_j45_3_4)) ?_
  rw [len_of sz343 nn343]
  show own_Go _ _ _ _ (T342.setTop (mkF m 5 #[.val (.ref ux)] [(.int (3 : Int32))]))
  refine own_ret X342 hx hlk hret rfl (Or.inl ⟨rfl, Or.inl rfl, _, rfl⟩) (hb hby d_j45_3_5) ?_ (by decide) (by decide)
  rw [e342]
  exact ⟨rfl, N0, rfl⟩
def Q_gN_0 (Z : State) (ux : Addr) (uy : Addr) (ky : ClassId) (ue : Addr) (h0 : Heap) (n0 : Nat) (v : Option Value) (h : Heap) (L : List Loc) : Prop := v = some (.ref ue) ∧ Fr n0 L ∧ h = h0
theorem ef_gN_0 (m : MethodId) (ux : Addr) : entryFrame m #[(.ref ux), (.int (0 : Int32))] 2 = mkF m 0 #[.val (.ref ux), .val (.int (0 : Int32))] [] := by first | (simp [entryFrame, mkF, argsToLocals, Value.category]; done) | rfl
theorem d_j45_4_0 : decode jdk_45_method_4_code 0 = .ok (.aload_n 0, 1) := by decide +kernel
theorem d_j45_4_1 : decode jdk_45_method_4_code 1 = .ok (.getfield 7, 3) := by decide +kernel
theorem d_j45_4_4 : decode jdk_45_method_4_code 4 = .ok (.iload_n 1, 1) := by decide +kernel
theorem d_j45_4_5 : decode jdk_45_method_4_code 5 = .ok (.aaload, 1) := by decide +kernel
theorem d_j45_4_6 : decode jdk_45_method_4_code 6 = .ok (.areturn, 1) := by decide +kernel
set_option maxRecDepth 65536 in
set_option maxHeartbeats 40000000 in
theorem rm_gN_0 (l : Launch) (Z : State) (a0 : Array Value) (hw : ∀ d ∈ tables_1, d.before a0 Z = true) (ws : List Jvm.Cond) (ux uy : Addr) (ky : ClassId) (ue : Addr) (h0 : Heap) (n0 : Nat) (Z0 : n0 ≤ h0.size) (F0 : Fld Z h0 ux "java/util/ImmutableCollections$ListN" "elements" "[Ljava/lang/Object;" (.ref uy)) (A0 : Arv Z h0 uy ky (.object "java/lang/Object") (3 : Int32) [(.ref ue), (.ref ue), (.ref ue)] .null) :
    own_Met l Z (⟨"java/util/ImmutableCollections$ListN", "get", "(I)Ljava/lang/Object;"⟩ : MethodName) jdk_45_method_4_code 2 (some (.object "java/lang/Object")) ws ({ frames := 0, cells := 0, slots := 0, locals := 0 } : Room) #[(.ref ux), (.int (0 : Int32))] h0 (Q_gN_0 Z ux uy ky ue h0 n0) := by
  refine own_enter (own := "java/util/ImmutableCollections$ListN") (plainFor_of_name pn_9) rfl ?_
  intro p e s m below meth c s₁ hlk hret hx hby hml hown hnm hZ X0 e0
  have N0 := Fr.nil n0
  refine own_cast (ef_gN_0 m ux) ?_
  show own_Go _ _ _ _ (s₁.setTop (mkF m 0 #[.val (.ref ux), .val (.int (0 : Int32))] []))
  refine own_go (fun t k => XS.aloadN X0.here hx rfl (hb hby d_j45_4_0) rfl rfl k) ?_
  show own_Go _ _ _ _ (s₁.setTop (mkF m 1 #[.val (.ref ux), .val (.int (0 : Int32))] [(.ref ux)]))
  obtain ⟨T344, X344, e344, st344⟩ := getF X0 hx hZ hown (host := "") (Or.inl (w_120 hw)) Via.refl e0 F0 (g := (mkF m 1 #[.val (.ref ux), .val (.int (0 : Int32))] [(.ref ux)])) rfl rfl (hb hby d_j45_4_1)
  refine own_go st344 ?_
  show own_Go _ _ _ _ (T344.setTop (mkF m 4 #[.val (.ref ux), .val (.int (0 : Int32))] [(.ref uy)]))
  refine own_go (fun t k => XS.iloadN X344.here hx rfl (hb hby d_j45_4_4) rfl k) ?_
  show own_Go _ _ _ _ (T344.setTop (mkF m 5 #[.val (.ref ux), .val (.int (0 : Int32))] [(.int (0 : Int32)), (.ref uy)]))
  obtain ⟨cl345, Ar345, qk345, sz345, nn345, ha345, gf345⟩ := id A0
  have hin345 : ¬ ((0 : Int32) < 0 ∨ cl345.slots.size ≤ ((0 : Int32)).toNatClampNeg) := inb_of sz345 ⟨by decide, by decide⟩
  have hat345 : cl345.slots[((0 : Int32)).toNatClampNeg]? = some (.ref ue) := ha345.at hin345 rfl
  refine own_go (X344.aaload hx (j := (0 : Int32)) (v := (.ref ue)) (by rw [e344]; exact Ar345.1) (State.isArrayOf_alike hZ.alike Ar345.2.1) rfl Ar345.2.2 hin345 hat345 (g := (mkF m 5 #[.val (.ref ux), .val (.int (0 : Int32))] [(.int (0 : Int32)), (.ref uy)])) rfl rfl (hb hby d_j45_4_5)) ?_
  show own_Go _ _ _ _ (T344.setTop (mkF m 6 #[.val (.ref ux), .val (.int (0 : Int32))] [(.ref ue)]))
  refine own_ret X344 hx hlk hret rfl (Or.inr (Or.inr (Or.inr (Or.inr ⟨rfl, rfl, rfl⟩)))) (hb hby d_j45_4_6) ?_ (by decide) (by decide)
  rw [e344]
  exact ⟨rfl, N0, rfl⟩
def Q_gN_1 (Z : State) (ux : Addr) (uy : Addr) (ky : ClassId) (ue : Addr) (h0 : Heap) (n0 : Nat) (v : Option Value) (h : Heap) (L : List Loc) : Prop := v = some (.ref ue) ∧ Fr n0 L ∧ h = h0
theorem ef_gN_1 (m : MethodId) (ux : Addr) : entryFrame m #[(.ref ux), (.int (1 : Int32))] 2 = mkF m 0 #[.val (.ref ux), .val (.int (1 : Int32))] [] := by first | (simp [entryFrame, mkF, argsToLocals, Value.category]; done) | rfl
set_option maxRecDepth 65536 in
set_option maxHeartbeats 40000000 in
theorem rm_gN_1 (l : Launch) (Z : State) (a0 : Array Value) (hw : ∀ d ∈ tables_1, d.before a0 Z = true) (ws : List Jvm.Cond) (ux uy : Addr) (ky : ClassId) (ue : Addr) (h0 : Heap) (n0 : Nat) (Z0 : n0 ≤ h0.size) (F0 : Fld Z h0 ux "java/util/ImmutableCollections$ListN" "elements" "[Ljava/lang/Object;" (.ref uy)) (A0 : Arv Z h0 uy ky (.object "java/lang/Object") (3 : Int32) [(.ref ue), (.ref ue), (.ref ue)] .null) :
    own_Met l Z (⟨"java/util/ImmutableCollections$ListN", "get", "(I)Ljava/lang/Object;"⟩ : MethodName) jdk_45_method_4_code 2 (some (.object "java/lang/Object")) ws ({ frames := 0, cells := 0, slots := 0, locals := 0 } : Room) #[(.ref ux), (.int (1 : Int32))] h0 (Q_gN_1 Z ux uy ky ue h0 n0) := by
  refine own_enter (own := "java/util/ImmutableCollections$ListN") (plainFor_of_name pn_9) rfl ?_
  intro p e s m below meth c s₁ hlk hret hx hby hml hown hnm hZ X0 e0
  have N0 := Fr.nil n0
  refine own_cast (ef_gN_1 m ux) ?_
  show own_Go _ _ _ _ (s₁.setTop (mkF m 0 #[.val (.ref ux), .val (.int (1 : Int32))] []))
  refine own_go (fun t k => XS.aloadN X0.here hx rfl (hb hby d_j45_4_0) rfl rfl k) ?_
  show own_Go _ _ _ _ (s₁.setTop (mkF m 1 #[.val (.ref ux), .val (.int (1 : Int32))] [(.ref ux)]))
  obtain ⟨T346, X346, e346, st346⟩ := getF X0 hx hZ hown (host := "") (Or.inl (w_120 hw)) Via.refl e0 F0 (g := (mkF m 1 #[.val (.ref ux), .val (.int (1 : Int32))] [(.ref ux)])) rfl rfl (hb hby d_j45_4_1)
  refine own_go st346 ?_
  show own_Go _ _ _ _ (T346.setTop (mkF m 4 #[.val (.ref ux), .val (.int (1 : Int32))] [(.ref uy)]))
  refine own_go (fun t k => XS.iloadN X346.here hx rfl (hb hby d_j45_4_4) rfl k) ?_
  show own_Go _ _ _ _ (T346.setTop (mkF m 5 #[.val (.ref ux), .val (.int (1 : Int32))] [(.int (1 : Int32)), (.ref uy)]))
  obtain ⟨cl347, Ar347, qk347, sz347, nn347, ha347, gf347⟩ := id A0
  have hin347 : ¬ ((1 : Int32) < 0 ∨ cl347.slots.size ≤ ((1 : Int32)).toNatClampNeg) := inb_of sz347 ⟨by decide, by decide⟩
  have hat347 : cl347.slots[((1 : Int32)).toNatClampNeg]? = some (.ref ue) := ha347.at hin347 rfl
  refine own_go (X346.aaload hx (j := (1 : Int32)) (v := (.ref ue)) (by rw [e346]; exact Ar347.1) (State.isArrayOf_alike hZ.alike Ar347.2.1) rfl Ar347.2.2 hin347 hat347 (g := (mkF m 5 #[.val (.ref ux), .val (.int (1 : Int32))] [(.int (1 : Int32)), (.ref uy)])) rfl rfl (hb hby d_j45_4_5)) ?_
  show own_Go _ _ _ _ (T346.setTop (mkF m 6 #[.val (.ref ux), .val (.int (1 : Int32))] [(.ref ue)]))
  refine own_ret X346 hx hlk hret rfl (Or.inr (Or.inr (Or.inr (Or.inr ⟨rfl, rfl, rfl⟩)))) (hb hby d_j45_4_6) ?_ (by decide) (by decide)
  rw [e346]
  exact ⟨rfl, N0, rfl⟩
def Q_gN_2 (Z : State) (ux : Addr) (uy : Addr) (ky : ClassId) (ue : Addr) (h0 : Heap) (n0 : Nat) (v : Option Value) (h : Heap) (L : List Loc) : Prop := v = some (.ref ue) ∧ Fr n0 L ∧ h = h0
theorem ef_gN_2 (m : MethodId) (ux : Addr) : entryFrame m #[(.ref ux), (.int (2 : Int32))] 2 = mkF m 0 #[.val (.ref ux), .val (.int (2 : Int32))] [] := by first | (simp [entryFrame, mkF, argsToLocals, Value.category]; done) | rfl
set_option maxRecDepth 65536 in
set_option maxHeartbeats 40000000 in
theorem rm_gN_2 (l : Launch) (Z : State) (a0 : Array Value) (hw : ∀ d ∈ tables_1, d.before a0 Z = true) (ws : List Jvm.Cond) (ux uy : Addr) (ky : ClassId) (ue : Addr) (h0 : Heap) (n0 : Nat) (Z0 : n0 ≤ h0.size) (F0 : Fld Z h0 ux "java/util/ImmutableCollections$ListN" "elements" "[Ljava/lang/Object;" (.ref uy)) (A0 : Arv Z h0 uy ky (.object "java/lang/Object") (3 : Int32) [(.ref ue), (.ref ue), (.ref ue)] .null) :
    own_Met l Z (⟨"java/util/ImmutableCollections$ListN", "get", "(I)Ljava/lang/Object;"⟩ : MethodName) jdk_45_method_4_code 2 (some (.object "java/lang/Object")) ws ({ frames := 0, cells := 0, slots := 0, locals := 0 } : Room) #[(.ref ux), (.int (2 : Int32))] h0 (Q_gN_2 Z ux uy ky ue h0 n0) := by
  refine own_enter (own := "java/util/ImmutableCollections$ListN") (plainFor_of_name pn_9) rfl ?_
  intro p e s m below meth c s₁ hlk hret hx hby hml hown hnm hZ X0 e0
  have N0 := Fr.nil n0
  refine own_cast (ef_gN_2 m ux) ?_
  show own_Go _ _ _ _ (s₁.setTop (mkF m 0 #[.val (.ref ux), .val (.int (2 : Int32))] []))
  refine own_go (fun t k => XS.aloadN X0.here hx rfl (hb hby d_j45_4_0) rfl rfl k) ?_
  show own_Go _ _ _ _ (s₁.setTop (mkF m 1 #[.val (.ref ux), .val (.int (2 : Int32))] [(.ref ux)]))
  obtain ⟨T348, X348, e348, st348⟩ := getF X0 hx hZ hown (host := "") (Or.inl (w_120 hw)) Via.refl e0 F0 (g := (mkF m 1 #[.val (.ref ux), .val (.int (2 : Int32))] [(.ref ux)])) rfl rfl (hb hby d_j45_4_1)
  refine own_go st348 ?_
  show own_Go _ _ _ _ (T348.setTop (mkF m 4 #[.val (.ref ux), .val (.int (2 : Int32))] [(.ref uy)]))
  refine own_go (fun t k => XS.iloadN X348.here hx rfl (hb hby d_j45_4_4) rfl k) ?_
  show own_Go _ _ _ _ (T348.setTop (mkF m 5 #[.val (.ref ux), .val (.int (2 : Int32))] [(.int (2 : Int32)), (.ref uy)]))
  obtain ⟨cl349, Ar349, qk349, sz349, nn349, ha349, gf349⟩ := id A0
  have hin349 : ¬ ((2 : Int32) < 0 ∨ cl349.slots.size ≤ ((2 : Int32)).toNatClampNeg) := inb_of sz349 ⟨by decide, by decide⟩
  have hat349 : cl349.slots[((2 : Int32)).toNatClampNeg]? = some (.ref ue) := ha349.at hin349 rfl
  refine own_go (X348.aaload hx (j := (2 : Int32)) (v := (.ref ue)) (by rw [e348]; exact Ar349.1) (State.isArrayOf_alike hZ.alike Ar349.2.1) rfl Ar349.2.2 hin349 hat349 (g := (mkF m 5 #[.val (.ref ux), .val (.int (2 : Int32))] [(.int (2 : Int32)), (.ref uy)])) rfl rfl (hb hby d_j45_4_5)) ?_
  show own_Go _ _ _ _ (T348.setTop (mkF m 6 #[.val (.ref ux), .val (.int (2 : Int32))] [(.ref ue)]))
  refine own_ret X348 hx hlk hret rfl (Or.inr (Or.inr (Or.inr (Or.inr ⟨rfl, rfl, rfl⟩)))) (hb hby d_j45_4_6) ?_ (by decide) (by decide)
  rw [e348]
  exact ⟨rfl, N0, rfl⟩
def Q_s12_1 (Z : State) (ux : Addr) (ue : Addr) (ude : Addr) (kde : ClassId) (uel : Addr) (uem : Addr) (kem : ClassId) (uemp : Addr) (urec : Addr) (umi : Addr) (h0 : Heap) (n0 : Nat) (v : Option Value) (h : Heap) (L : List Loc) : Prop := v = some (.int 1) ∧ Fr n0 L ∧ h = h0
theorem ef_s12_1 (m : MethodId) (ux : Addr) : entryFrame m #[(.ref ux)] 1 = mkF m 0 #[.val (.ref ux)] [] := by first | (simp [entryFrame, mkF, argsToLocals, Value.category]; done) | rfl
theorem d_j44_3_0 : decode jdk_44_method_3_code 0 = .ok (.aload_n 0, 1) := by decide +kernel
theorem d_j44_3_1 : decode jdk_44_method_3_code 1 = .ok (.getfield 24, 3) := by decide +kernel
theorem d_j44_3_4 : decode jdk_44_method_3_code 4 = .ok (.getstatic 19, 3) := by decide +kernel
theorem d_j44_3_7 : decode jdk_44_method_3_code 7 = .ok (.if_acmp .eq 7, 3) := by decide +kernel
theorem d_j44_3_14 : decode jdk_44_method_3_code 14 = .ok (.iconst 1, 1) := by decide +kernel
theorem d_j44_3_15 : decode jdk_44_method_3_code 15 = .ok (.ireturn, 1) := by decide +kernel
set_option maxRecDepth 65536 in
set_option maxHeartbeats 40000000 in
theorem rm_s12_1 (l : Launch) (Z : State) (a0 : Array Value) (hw : ∀ d ∈ tables_1, d.before a0 Z = true) (ws : List Jvm.Cond) (ux ue ude : Addr) (kde : ClassId) (uel uem : Addr) (kem : ClassId) (uemp urec umi : Addr) (h0 : Heap) (n0 : Nat) (Z0 : n0 ≤ h0.size) (X1 : Fld Z h0 ux "java/util/ImmutableCollections$List12" "e1" "Ljava/lang/Object;" (.ref uemp)) (Y0 : Fld Z h0 ux "java/util/ImmutableCollections$List12" "e0" "Ljava/lang/Object;" (.ref ue)) (O0 : Old Z n0 h0) (hF : own_Fac Z ue ude kde uel uem kem uemp urec umi) :
    own_Met l Z (⟨"java/util/ImmutableCollections$List12", "size", "()I"⟩ : MethodName) jdk_44_method_3_code 1 (some .int) ws ({ frames := 0, cells := 0, slots := 0, locals := 0 } : Room) #[(.ref ux)] h0 (Q_s12_1 Z ux ue ude kde uel uem kem uemp urec umi h0 n0) := by
  refine own_enter (own := "java/util/ImmutableCollections$List12") (plainFor_of_name pn_8) rfl ?_
  intro p e s m below meth c s₁ hlk hret hx hby hml hown hnm hZ X0 e0
  have N0 := Fr.nil n0
  refine own_cast (ef_s12_1 m ux) ?_
  obtain ⟨Se, Ee, Sd, Ad, Sl, El, Fl, Am, Sm, Em, Sr, Er, Fr1, Fr0, Mi⟩ := id hF
  show own_Go _ _ _ _ (s₁.setTop (mkF m 0 #[.val (.ref ux)] []))
  refine own_go (fun t k => XS.aloadN X0.here hx rfl (hb hby d_j44_3_0) rfl rfl k) ?_
  show own_Go _ _ _ _ (s₁.setTop (mkF m 1 #[.val (.ref ux)] [(.ref ux)]))
  obtain ⟨T350, X350, e350, st350⟩ := getF X0 hx hZ hown (host := "") (Or.inl (w_134 hw)) Via.refl e0 X1 (g := (mkF m 1 #[.val (.ref ux)] [(.ref ux)])) rfl rfl (hb hby d_j44_3_1)
  refine own_go st350 ?_
  show own_Go _ _ _ _ (T350.setTop (mkF m 4 #[.val (.ref ux)] [(.ref uemp)]))
  obtain ⟨T351, X351, e351, st351⟩ := getS2 X350 hx hZ hown (Or.inr (w_136 hw)) Via.refl e350 (Sm.ext O0.2) (g := (mkF m 4 #[.val (.ref ux)] [(.ref uemp)])) rfl (hb hby d_j44_3_4)
  refine own_go st351 ?_
  show own_Go _ _ _ _ (T351.setTop (mkF m 7 #[.val (.ref ux)] [(.ref uemp), (.ref uemp)]))
  refine own_go (fun t k => Jvm.RoadKit.acmp (g := (mkF m 7 #[.val (.ref ux)] [(.ref uemp), (.ref uemp)])) X351 hx rfl rfl rfl (pc0 := 7) (pc' := 14) (same := true) rfl (hb hby d_j44_3_7) rfl (decide_eq_true rfl) (by decide) (by decide) k) ?_
  show own_Go _ _ _ _ (T351.setTop (mkF m 14 #[.val (.ref ux)] []))
  refine own_go (fun t k => XS.iconst X351.here hx rfl (hb hby d_j44_3_14) k) ?_
  show own_Go _ _ _ _ (T351.setTop (mkF m 15 #[.val (.ref ux)] [(.int (1 : Int32))]))
  refine own_ret X351 hx hlk hret rfl (Or.inl ⟨rfl, Or.inl rfl, _, rfl⟩) (hb hby d_j44_3_15) ?_ (by decide) (by decide)
  rw [e351]
  exact ⟨rfl, N0, rfl⟩
def Q_g12_1_0 (Z : State) (ux : Addr) (ue : Addr) (ude : Addr) (kde : ClassId) (uel : Addr) (uem : Addr) (kem : ClassId) (uemp : Addr) (urec : Addr) (umi : Addr) (h0 : Heap) (n0 : Nat) (v : Option Value) (h : Heap) (L : List Loc) : Prop := v = some (.ref ue) ∧ Fr n0 L ∧ h = h0
theorem ef_g12_1_0 (m : MethodId) (ux : Addr) : entryFrame m #[(.ref ux), (.int (0 : Int32))] 2 = mkF m 0 #[.val (.ref ux), .val (.int (0 : Int32))] [] := by first | (simp [entryFrame, mkF, argsToLocals, Value.category]; done) | rfl
theorem d_j44_5_0 : decode jdk_44_method_5_code 0 = .ok (.iload_n 1, 1) := by decide +kernel
theorem d_j44_5_1 : decode jdk_44_method_5_code 1 = .ok (.ifCond .ne 8, 3) := by decide +kernel
theorem d_j44_5_4 : decode jdk_44_method_5_code 4 = .ok (.aload_n 0, 1) := by decide +kernel
theorem d_j44_5_5 : decode jdk_44_method_5_code 5 = .ok (.getfield 13, 3) := by decide +kernel
theorem d_j44_5_8 : decode jdk_44_method_5_code 8 = .ok (.areturn, 1) := by decide +kernel
set_option maxRecDepth 65536 in
set_option maxHeartbeats 40000000 in
theorem rm_g12_1_0 (l : Launch) (Z : State) (a0 : Array Value) (hw : ∀ d ∈ tables_1, d.before a0 Z = true) (ws : List Jvm.Cond) (ux ue ude : Addr) (kde : ClassId) (uel uem : Addr) (kem : ClassId) (uemp urec umi : Addr) (h0 : Heap) (n0 : Nat) (Z0 : n0 ≤ h0.size) (X1 : Fld Z h0 ux "java/util/ImmutableCollections$List12" "e1" "Ljava/lang/Object;" (.ref uemp)) (Y0 : Fld Z h0 ux "java/util/ImmutableCollections$List12" "e0" "Ljava/lang/Object;" (.ref ue)) (O0 : Old Z n0 h0) (hF : own_Fac Z ue ude kde uel uem kem uemp urec umi) :
    own_Met l Z (⟨"java/util/ImmutableCollections$List12", "get", "(I)Ljava/lang/Object;"⟩ : MethodName) jdk_44_method_5_code 2 (some (.object "java/lang/Object")) ws ({ frames := 0, cells := 0, slots := 0, locals := 0 } : Room) #[(.ref ux), (.int (0 : Int32))] h0 (Q_g12_1_0 Z ux ue ude kde uel uem kem uemp urec umi h0 n0) := by
  refine own_enter (own := "java/util/ImmutableCollections$List12") (plainFor_of_name pn_8) rfl ?_
  intro p e s m below meth c s₁ hlk hret hx hby hml hown hnm hZ X0 e0
  have N0 := Fr.nil n0
  refine own_cast (ef_g12_1_0 m ux) ?_
  obtain ⟨Se, Ee, Sd, Ad, Sl, El, Fl, Am, Sm, Em, Sr, Er, Fr1, Fr0, Mi⟩ := id hF
  show own_Go _ _ _ _ (s₁.setTop (mkF m 0 #[.val (.ref ux), .val (.int (0 : Int32))] []))
  refine own_go (fun t k => XS.iloadN X0.here hx rfl (hb hby d_j44_5_0) rfl k) ?_
  show own_Go _ _ _ _ (s₁.setTop (mkF m 1 #[.val (.ref ux), .val (.int (0 : Int32))] [(.int (0 : Int32))]))
  refine own_go (fun t k => XS.ifNo X0.here hx rfl (hb hby d_j44_5_1) rfl ((if0 _ _).trans (teq (by decide : (0 : Int32) = (0 : Int32))).2) k) ?_
  show own_Go _ _ _ _ (s₁.setTop (mkF m 4 #[.val (.ref ux), .val (.int (0 : Int32))] []))
  refine own_go (fun t k => XS.aloadN X0.here hx rfl (hb hby d_j44_5_4) rfl rfl k) ?_
  show own_Go _ _ _ _ (s₁.setTop (mkF m 5 #[.val (.ref ux), .val (.int (0 : Int32))] [(.ref ux)]))
  obtain ⟨T352, X352, e352, st352⟩ := getF X0 hx hZ hown (host := "") (Or.inl (w_145 hw)) Via.refl e0 Y0 (g := (mkF m 5 #[.val (.ref ux), .val (.int (0 : Int32))] [(.ref ux)])) rfl rfl (hb hby d_j44_5_5)
  refine own_go st352 ?_
  show own_Go _ _ _ _ (T352.setTop (mkF m 8 #[.val (.ref ux), .val (.int (0 : Int32))] [(.ref ue)]))
  refine own_ret X352 hx hlk hret rfl (Or.inr (Or.inr (Or.inr (Or.inr ⟨rfl, rfl, rfl⟩)))) (hb hby d_j44_5_8) ?_ (by decide) (by decide)
  rw [e352]
  exact ⟨rfl, N0, rfl⟩
def Q_s12_2 (Z : State) (ux : Addr) (ue : Addr) (ude : Addr) (kde : ClassId) (uel : Addr) (uem : Addr) (kem : ClassId) (uemp : Addr) (urec : Addr) (umi : Addr) (h0 : Heap) (n0 : Nat) (v : Option Value) (h : Heap) (L : List Loc) : Prop := v = some (.int 2) ∧ Fr n0 L ∧ h = h0
theorem ef_s12_2 (m : MethodId) (ux : Addr) : entryFrame m #[(.ref ux)] 1 = mkF m 0 #[.val (.ref ux)] [] := by first | (simp [entryFrame, mkF, argsToLocals, Value.category]; done) | rfl
theorem d_j44_3_10 : decode jdk_44_method_3_code 10 = .ok (.iconst 2, 1) := by decide +kernel
theorem d_j44_3_11 : decode jdk_44_method_3_code 11 = .ok (.goto 4, 3) := by decide +kernel
set_option maxRecDepth 65536 in
set_option maxHeartbeats 40000000 in
theorem rm_s12_2 (l : Launch) (Z : State) (a0 : Array Value) (hw : ∀ d ∈ tables_1, d.before a0 Z = true) (ws : List Jvm.Cond) (ux ue ude : Addr) (kde : ClassId) (uel uem : Addr) (kem : ClassId) (uemp urec umi : Addr) (h0 : Heap) (n0 : Nat) (Z0 : n0 ≤ h0.size) (X1 : Fld Z h0 ux "java/util/ImmutableCollections$List12" "e1" "Ljava/lang/Object;" (.ref ue)) (Y0 : Fld Z h0 ux "java/util/ImmutableCollections$List12" "e0" "Ljava/lang/Object;" (.ref ue)) (O0 : Old Z n0 h0) (hF : own_Fac Z ue ude kde uel uem kem uemp urec umi) :
    own_Met l Z (⟨"java/util/ImmutableCollections$List12", "size", "()I"⟩ : MethodName) jdk_44_method_3_code 1 (some .int) ws ({ frames := 0, cells := 0, slots := 0, locals := 0 } : Room) #[(.ref ux)] h0 (Q_s12_2 Z ux ue ude kde uel uem kem uemp urec umi h0 n0) := by
  refine own_enter (own := "java/util/ImmutableCollections$List12") (plainFor_of_name pn_8) rfl ?_
  intro p e s m below meth c s₁ hlk hret hx hby hml hown hnm hZ X0 e0
  have N0 := Fr.nil n0
  refine own_cast (ef_s12_2 m ux) ?_
  obtain ⟨Se, Ee, Sd, Ad, Sl, El, Fl, Am, Sm, Em, Sr, Er, Fr1, Fr0, Mi⟩ := id hF
  show own_Go _ _ _ _ (s₁.setTop (mkF m 0 #[.val (.ref ux)] []))
  refine own_go (fun t k => XS.aloadN X0.here hx rfl (hb hby d_j44_3_0) rfl rfl k) ?_
  show own_Go _ _ _ _ (s₁.setTop (mkF m 1 #[.val (.ref ux)] [(.ref ux)]))
  obtain ⟨T353, X353, e353, st353⟩ := getF X0 hx hZ hown (host := "") (Or.inl (w_134 hw)) Via.refl e0 X1 (g := (mkF m 1 #[.val (.ref ux)] [(.ref ux)])) rfl rfl (hb hby d_j44_3_1)
  refine own_go st353 ?_
  show own_Go _ _ _ _ (T353.setTop (mkF m 4 #[.val (.ref ux)] [(.ref ue)]))
  obtain ⟨T354, X354, e354, st354⟩ := getS2 X353 hx hZ hown (Or.inr (w_136 hw)) Via.refl e353 (Sm.ext O0.2) (g := (mkF m 4 #[.val (.ref ux)] [(.ref ue)])) rfl (hb hby d_j44_3_4)
  refine own_go st354 ?_
  show own_Go _ _ _ _ (T354.setTop (mkF m 7 #[.val (.ref ux)] [(.ref uemp), (.ref ue)]))
  refine own_go (fun t k => Jvm.RoadKit.acmp (g := (mkF m 7 #[.val (.ref ux)] [(.ref uemp), (.ref ue)])) X354 hx rfl rfl rfl (pc0 := 7) (pc' := 10) (same := false) rfl (hb hby d_j44_3_7) rfl (decide_eq_false fun q => (ne_exa Ee Em (by decide)) (Value.ref.inj q)) (by decide) (by decide) k) ?_
  show own_Go _ _ _ _ (T354.setTop (mkF m 10 #[.val (.ref ux)] []))
  refine own_go (fun t k => XS.iconst X354.here hx rfl (hb hby d_j44_3_10) k) ?_
  show own_Go _ _ _ _ (T354.setTop (mkF m 11 #[.val (.ref ux)] [(.int (2 : Int32))]))
  refine own_go (fun t k => XS.goto X354.here hx rfl (pc0 := 11) (pc' := 15) rfl (hb hby d_j44_3_11) (by decide) (by decide) k) ?_
  show own_Go _ _ _ _ (T354.setTop (mkF m 15 #[.val (.ref ux)] [(.int (2 : Int32))]))
  refine own_ret X354 hx hlk hret rfl (Or.inl ⟨rfl, Or.inl rfl, _, rfl⟩) (hb hby d_j44_3_15) ?_ (by decide) (by decide)
  rw [e354]
  exact ⟨rfl, N0, rfl⟩
def Q_g12_2_0 (Z : State) (ux : Addr) (ue : Addr) (ude : Addr) (kde : ClassId) (uel : Addr) (uem : Addr) (kem : ClassId) (uemp : Addr) (urec : Addr) (umi : Addr) (h0 : Heap) (n0 : Nat) (v : Option Value) (h : Heap) (L : List Loc) : Prop := v = some (.ref ue) ∧ Fr n0 L ∧ h = h0
theorem ef_g12_2_0 (m : MethodId) (ux : Addr) : entryFrame m #[(.ref ux), (.int (0 : Int32))] 2 = mkF m 0 #[.val (.ref ux), .val (.int (0 : Int32))] [] := by first | (simp [entryFrame, mkF, argsToLocals, Value.category]; done) | rfl
set_option maxRecDepth 65536 in
set_option maxHeartbeats 40000000 in
theorem rm_g12_2_0 (l : Launch) (Z : State) (a0 : Array Value) (hw : ∀ d ∈ tables_1, d.before a0 Z = true) (ws : List Jvm.Cond) (ux ue ude : Addr) (kde : ClassId) (uel uem : Addr) (kem : ClassId) (uemp urec umi : Addr) (h0 : Heap) (n0 : Nat) (Z0 : n0 ≤ h0.size) (X1 : Fld Z h0 ux "java/util/ImmutableCollections$List12" "e1" "Ljava/lang/Object;" (.ref ue)) (Y0 : Fld Z h0 ux "java/util/ImmutableCollections$List12" "e0" "Ljava/lang/Object;" (.ref ue)) (O0 : Old Z n0 h0) (hF : own_Fac Z ue ude kde uel uem kem uemp urec umi) :
    own_Met l Z (⟨"java/util/ImmutableCollections$List12", "get", "(I)Ljava/lang/Object;"⟩ : MethodName) jdk_44_method_5_code 2 (some (.object "java/lang/Object")) ws ({ frames := 0, cells := 0, slots := 0, locals := 0 } : Room) #[(.ref ux), (.int (0 : Int32))] h0 (Q_g12_2_0 Z ux ue ude kde uel uem kem uemp urec umi h0 n0) := by
  refine own_enter (own := "java/util/ImmutableCollections$List12") (plainFor_of_name pn_8) rfl ?_
  intro p e s m below meth c s₁ hlk hret hx hby hml hown hnm hZ X0 e0
  have N0 := Fr.nil n0
  refine own_cast (ef_g12_2_0 m ux) ?_
  obtain ⟨Se, Ee, Sd, Ad, Sl, El, Fl, Am, Sm, Em, Sr, Er, Fr1, Fr0, Mi⟩ := id hF
  show own_Go _ _ _ _ (s₁.setTop (mkF m 0 #[.val (.ref ux), .val (.int (0 : Int32))] []))
  refine own_go (fun t k => XS.iloadN X0.here hx rfl (hb hby d_j44_5_0) rfl k) ?_
  show own_Go _ _ _ _ (s₁.setTop (mkF m 1 #[.val (.ref ux), .val (.int (0 : Int32))] [(.int (0 : Int32))]))
  refine own_go (fun t k => XS.ifNo X0.here hx rfl (hb hby d_j44_5_1) rfl ((if0 _ _).trans (teq (by decide : (0 : Int32) = (0 : Int32))).2) k) ?_
  show own_Go _ _ _ _ (s₁.setTop (mkF m 4 #[.val (.ref ux), .val (.int (0 : Int32))] []))
  refine own_go (fun t k => XS.aloadN X0.here hx rfl (hb hby d_j44_5_4) rfl rfl k) ?_
  show own_Go _ _ _ _ (s₁.setTop (mkF m 5 #[.val (.ref ux), .val (.int (0 : Int32))] [(.ref ux)]))
  obtain ⟨T355, X355, e355, st355⟩ := getF X0 hx hZ hown (host := "") (Or.inl (w_145 hw)) Via.refl e0 Y0 (g := (mkF m 5 #[.val (.ref ux), .val (.int (0 : Int32))] [(.ref ux)])) rfl rfl (hb hby d_j44_5_5)
  refine own_go st355 ?_
  show own_Go _ _ _ _ (T355.setTop (mkF m 8 #[.val (.ref ux), .val (.int (0 : Int32))] [(.ref ue)]))
  refine own_ret X355 hx hlk hret rfl (Or.inr (Or.inr (Or.inr (Or.inr ⟨rfl, rfl, rfl⟩)))) (hb hby d_j44_5_8) ?_ (by decide) (by decide)
  rw [e355]
  exact ⟨rfl, N0, rfl⟩
def Q_g12_2_1 (Z : State) (ux : Addr) (ue : Addr) (ude : Addr) (kde : ClassId) (uel : Addr) (uem : Addr) (kem : ClassId) (uemp : Addr) (urec : Addr) (umi : Addr) (h0 : Heap) (n0 : Nat) (v : Option Value) (h : Heap) (L : List Loc) : Prop := v = some (.ref ue) ∧ Fr n0 L ∧ h = h0
theorem ef_g12_2_1 (m : MethodId) (ux : Addr) : entryFrame m #[(.ref ux), (.int (1 : Int32))] 2 = mkF m 0 #[.val (.ref ux), .val (.int (1 : Int32))] [] := by first | (simp [entryFrame, mkF, argsToLocals, Value.category]; done) | rfl
theorem d_j44_5_9 : decode jdk_44_method_5_code 9 = .ok (.iload_n 1, 1) := by decide +kernel
theorem d_j44_5_10 : decode jdk_44_method_5_code 10 = .ok (.iconst 1, 1) := by decide +kernel
theorem d_j44_5_11 : decode jdk_44_method_5_code 11 = .ok (.if_icmp .ne 18, 3) := by decide +kernel
theorem d_j44_5_14 : decode jdk_44_method_5_code 14 = .ok (.aload_n 0, 1) := by decide +kernel
theorem d_j44_5_15 : decode jdk_44_method_5_code 15 = .ok (.getfield 24, 3) := by decide +kernel
theorem d_j44_5_18 : decode jdk_44_method_5_code 18 = .ok (.getstatic 19, 3) := by decide +kernel
theorem d_j44_5_21 : decode jdk_44_method_5_code 21 = .ok (.if_acmp .eq 8, 3) := by decide +kernel
theorem d_j44_5_24 : decode jdk_44_method_5_code 24 = .ok (.aload_n 0, 1) := by decide +kernel
theorem d_j44_5_25 : decode jdk_44_method_5_code 25 = .ok (.getfield 24, 3) := by decide +kernel
theorem d_j44_5_28 : decode jdk_44_method_5_code 28 = .ok (.areturn, 1) := by decide +kernel
set_option maxRecDepth 65536 in
set_option maxHeartbeats 40000000 in
theorem rm_g12_2_1 (l : Launch) (Z : State) (a0 : Array Value) (hw : ∀ d ∈ tables_1, d.before a0 Z = true) (ws : List Jvm.Cond) (ux ue ude : Addr) (kde : ClassId) (uel uem : Addr) (kem : ClassId) (uemp urec umi : Addr) (h0 : Heap) (n0 : Nat) (Z0 : n0 ≤ h0.size) (X1 : Fld Z h0 ux "java/util/ImmutableCollections$List12" "e1" "Ljava/lang/Object;" (.ref ue)) (Y0 : Fld Z h0 ux "java/util/ImmutableCollections$List12" "e0" "Ljava/lang/Object;" (.ref ue)) (O0 : Old Z n0 h0) (hF : own_Fac Z ue ude kde uel uem kem uemp urec umi) :
    own_Met l Z (⟨"java/util/ImmutableCollections$List12", "get", "(I)Ljava/lang/Object;"⟩ : MethodName) jdk_44_method_5_code 2 (some (.object "java/lang/Object")) ws ({ frames := 0, cells := 0, slots := 0, locals := 0 } : Room) #[(.ref ux), (.int (1 : Int32))] h0 (Q_g12_2_1 Z ux ue ude kde uel uem kem uemp urec umi h0 n0) := by
  refine own_enter (own := "java/util/ImmutableCollections$List12") (plainFor_of_name pn_8) rfl ?_
  intro p e s m below meth c s₁ hlk hret hx hby hml hown hnm hZ X0 e0
  have N0 := Fr.nil n0
  refine own_cast (ef_g12_2_1 m ux) ?_
  obtain ⟨Se, Ee, Sd, Ad, Sl, El, Fl, Am, Sm, Em, Sr, Er, Fr1, Fr0, Mi⟩ := id hF
  show own_Go _ _ _ _ (s₁.setTop (mkF m 0 #[.val (.ref ux), .val (.int (1 : Int32))] []))
  refine own_go (fun t k => XS.iloadN X0.here hx rfl (hb hby d_j44_5_0) rfl k) ?_
  show own_Go _ _ _ _ (s₁.setTop (mkF m 1 #[.val (.ref ux), .val (.int (1 : Int32))] [(.int (1 : Int32))]))
  refine own_go (fun t k => XS.ifYes X0.here hx rfl (pc0 := 1) (pc' := 9) rfl (hb hby d_j44_5_1) rfl ((if0 _ _).trans (feq (by decide : ¬ ((1 : Int32) = (0 : Int32)))).2) (by decide) (by decide) k) ?_
  show own_Go _ _ _ _ (s₁.setTop (mkF m 9 #[.val (.ref ux), .val (.int (1 : Int32))] []))
  refine own_go (fun t k => XS.iloadN X0.here hx rfl (hb hby d_j44_5_9) rfl k) ?_
  show own_Go _ _ _ _ (s₁.setTop (mkF m 10 #[.val (.ref ux), .val (.int (1 : Int32))] [(.int (1 : Int32))]))
  refine own_go (fun t k => XS.iconst X0.here hx rfl (hb hby d_j44_5_10) k) ?_
  show own_Go _ _ _ _ (s₁.setTop (mkF m 11 #[.val (.ref ux), .val (.int (1 : Int32))] [(.int (1 : Int32)), (.int (1 : Int32))]))
  refine own_go (fun t k => XS.icmpNo X0.here hx rfl (hb hby d_j44_5_11) rfl (teq (by decide : (1 : Int32) = (1 : Int32))).2 k) ?_
  show own_Go _ _ _ _ (s₁.setTop (mkF m 14 #[.val (.ref ux), .val (.int (1 : Int32))] []))
  refine own_go (fun t k => XS.aloadN X0.here hx rfl (hb hby d_j44_5_14) rfl rfl k) ?_
  show own_Go _ _ _ _ (s₁.setTop (mkF m 15 #[.val (.ref ux), .val (.int (1 : Int32))] [(.ref ux)]))
  obtain ⟨T356, X356, e356, st356⟩ := getF X0 hx hZ hown (host := "") (Or.inl (w_134 hw)) Via.refl e0 X1 (g := (mkF m 15 #[.val (.ref ux), .val (.int (1 : Int32))] [(.ref ux)])) rfl rfl (hb hby d_j44_5_15)
  refine own_go st356 ?_
  show own_Go _ _ _ _ (T356.setTop (mkF m 18 #[.val (.ref ux), .val (.int (1 : Int32))] [(.ref ue)]))
  obtain ⟨T357, X357, e357, st357⟩ := getS2 X356 hx hZ hown (Or.inr (w_136 hw)) Via.refl e356 (Sm.ext O0.2) (g := (mkF m 18 #[.val (.ref ux), .val (.int (1 : Int32))] [(.ref ue)])) rfl (hb hby d_j44_5_18)
  refine own_go st357 ?_
  show own_Go _ _ _ _ (T357.setTop (mkF m 21 #[.val (.ref ux), .val (.int (1 : Int32))] [(.ref uemp), (.ref ue)]))
  refine own_go (fun t k => Jvm.RoadKit.acmp (g := (mkF m 21 #[.val (.ref ux), .val (.int (1 : Int32))] [(.ref uemp), (.ref ue)])) X357 hx rfl rfl rfl (pc0 := 21) (pc' := 24) (same := false) rfl (hb hby d_j44_5_21) rfl (decide_eq_false fun q => (ne_exa Ee Em (by decide)) (Value.ref.inj q)) (by decide) (by decide) k) ?_
  show own_Go _ _ _ _ (T357.setTop (mkF m 24 #[.val (.ref ux), .val (.int (1 : Int32))] []))
  refine own_go (fun t k => XS.aloadN X357.here hx rfl (hb hby d_j44_5_24) rfl rfl k) ?_
  show own_Go _ _ _ _ (T357.setTop (mkF m 25 #[.val (.ref ux), .val (.int (1 : Int32))] [(.ref ux)]))
  obtain ⟨T358, X358, e358, st358⟩ := getF X357 hx hZ hown (host := "") (Or.inl (w_134 hw)) Via.refl e357 X1 (g := (mkF m 25 #[.val (.ref ux), .val (.int (1 : Int32))] [(.ref ux)])) rfl rfl (hb hby d_j44_5_25)
  refine own_go st358 ?_
  show own_Go _ _ _ _ (T358.setTop (mkF m 28 #[.val (.ref ux), .val (.int (1 : Int32))] [(.ref ue)]))
  refine own_ret X358 hx hlk hret rfl (Or.inr (Or.inr (Or.inr (Or.inr ⟨rfl, rfl, rfl⟩)))) (hb hby d_j44_5_28) ?_ (by decide) (by decide)
  rw [e358]
  exact ⟨rfl, N0, rfl⟩
def Q_alw (Z : State) (us : Addr) (bv : Int32) (h0 : Heap) (n0 : Nat) (v : Option Value) (h : Heap) (L : List Loc) : Prop := v = some (.int bv) ∧ Fr n0 L ∧ h = h0
theorem ef_alw (m : MethodId) (us : Addr) : entryFrame m #[(.ref us)] 1 = mkF m 0 #[.val (.ref us)] [] := by first | (simp [entryFrame, mkF, argsToLocals, Value.category]; done) | rfl
theorem d_p25_7_0 : decode prog_25_method_7_code 0 = .ok (.aload_n 0, 1) := by decide +kernel
theorem d_p25_7_1 : decode prog_25_method_7_code 1 = .ok (.getfield 13, 3) := by decide +kernel
theorem d_p25_7_4 : decode prog_25_method_7_code 4 = .ok (.ireturn, 1) := by decide +kernel
set_option maxRecDepth 65536 in
set_option maxHeartbeats 40000000 in
theorem rm_alw (l : Launch) (Z : State) (a0 : Array Value) (hw : ∀ d ∈ tables_1, d.before a0 Z = true) (ws : List Jvm.Cond) (us : Addr) (bv : Int32) (h0 : Heap) (n0 : Nat) (Z0 : n0 ≤ h0.size) (G0 : Fld Z h0 us "com/example/grantfold/grantfold/model/Setting" "allowed" "Z" (.int bv)) (hbv : nar .boolean bv = bv) :
    own_Met l Z (⟨"com/example/grantfold/grantfold/model/Setting", "allowed", "()Z"⟩ : MethodName) prog_25_method_7_code 1 (some .boolean) ws ({ frames := 0, cells := 0, slots := 0, locals := 0 } : Room) #[(.ref us)] h0 (Q_alw Z us bv h0 n0) := by
  refine own_enter (own := "com/example/grantfold/grantfold/model/Setting") (plainFor_of_name pn_12) rfl ?_
  intro p e s m below meth c s₁ hlk hret hx hby hml hown hnm hZ X0 e0
  have N0 := Fr.nil n0
  refine own_cast (ef_alw m us) ?_
  show own_Go _ _ _ _ (s₁.setTop (mkF m 0 #[.val (.ref us)] []))
  refine own_go (fun t k => XS.aloadN X0.here hx rfl (hb hby d_p25_7_0) rfl rfl k) ?_
  show own_Go _ _ _ _ (s₁.setTop (mkF m 1 #[.val (.ref us)] [(.ref us)]))
  obtain ⟨T359, X359, e359, st359⟩ := getF X0 hx hZ hown (host := "") (Or.inl (w_67 hw)) Via.refl e0 G0 (g := (mkF m 1 #[.val (.ref us)] [(.ref us)])) rfl rfl (hb hby d_p25_7_1)
  refine own_go st359 ?_
  show own_Go _ _ _ _ (T359.setTop (mkF m 4 #[.val (.ref us)] [(.int bv)]))
  refine own_retN X359 hx hlk (t := .boolean) hret (by simp) (hb hby d_p25_7_4) ?_ (by decide) (by decide)
  rw [e359]
  exact ⟨by rw [hbv], N0, rfl⟩
def Q_lin (Z : State) (us : Addr) (iv : Int32) (h0 : Heap) (n0 : Nat) (v : Option Value) (h : Heap) (L : List Loc) : Prop := v = some (.int iv) ∧ Fr n0 L ∧ h = h0
theorem ef_lin (m : MethodId) (us : Addr) : entryFrame m #[(.ref us)] 1 = mkF m 0 #[.val (.ref us)] [] := by first | (simp [entryFrame, mkF, argsToLocals, Value.category]; done) | rfl
theorem d_p25_8_0 : decode prog_25_method_8_code 0 = .ok (.aload_n 0, 1) := by decide +kernel
theorem d_p25_8_1 : decode prog_25_method_8_code 1 = .ok (.getfield 19, 3) := by decide +kernel
theorem d_p25_8_4 : decode prog_25_method_8_code 4 = .ok (.ireturn, 1) := by decide +kernel
set_option maxRecDepth 65536 in
set_option maxHeartbeats 40000000 in
theorem rm_lin (l : Launch) (Z : State) (a0 : Array Value) (hw : ∀ d ∈ tables_1, d.before a0 Z = true) (ws : List Jvm.Cond) (us : Addr) (iv : Int32) (h0 : Heap) (n0 : Nat) (Z0 : n0 ≤ h0.size) (G0 : Fld Z h0 us "com/example/grantfold/grantfold/model/Setting" "line" "I" (.int iv)) :
    own_Met l Z (⟨"com/example/grantfold/grantfold/model/Setting", "line", "()I"⟩ : MethodName) prog_25_method_8_code 1 (some .int) ws ({ frames := 0, cells := 0, slots := 0, locals := 0 } : Room) #[(.ref us)] h0 (Q_lin Z us iv h0 n0) := by
  refine own_enter (own := "com/example/grantfold/grantfold/model/Setting") (plainFor_of_name pn_12) rfl ?_
  intro p e s m below meth c s₁ hlk hret hx hby hml hown hnm hZ X0 e0
  have N0 := Fr.nil n0
  refine own_cast (ef_lin m us) ?_
  show own_Go _ _ _ _ (s₁.setTop (mkF m 0 #[.val (.ref us)] []))
  refine own_go (fun t k => XS.aloadN X0.here hx rfl (hb hby d_p25_8_0) rfl rfl k) ?_
  show own_Go _ _ _ _ (s₁.setTop (mkF m 1 #[.val (.ref us)] [(.ref us)]))
  obtain ⟨T360, X360, e360, st360⟩ := getF X0 hx hZ hown (host := "") (Or.inl (w_69 hw)) Via.refl e0 G0 (g := (mkF m 1 #[.val (.ref us)] [(.ref us)])) rfl rfl (hb hby d_p25_8_1)
  refine own_go st360 ?_
  show own_Go _ _ _ _ (T360.setTop (mkF m 4 #[.val (.ref us)] [(.int iv)]))
  refine own_ret X360 hx hlk hret rfl (Or.inl ⟨rfl, Or.inl rfl, _, rfl⟩) (hb hby d_p25_8_4) ?_ (by decide) (by decide)
  rw [e360]
  exact ⟨rfl, N0, rfl⟩
def Q_scp_0 (Z : State) (us : Addr) (ux : Addr) (ue : Addr) (ude : Addr) (kde : ClassId) (uel : Addr) (uem : Addr) (kem : ClassId) (uemp : Addr) (urec : Addr) (umi : Addr) (h0 : Heap) (n0 : Nat) (v : Option Value) (h : Heap) (L : List Loc) : Prop := v = some (.ref urec) ∧ Fr n0 L ∧ h = h0
theorem ef_scp_0 (m : MethodId) (us : Addr) : entryFrame m #[(.ref us)] 1 = mkF m 0 #[.val (.ref us)] [] := by first | (simp [entryFrame, mkF, argsToLocals, Value.category]; done) | rfl
theorem d_p25_2_0 : decode prog_25_method_2_code 0 = .ok (.aload_n 0, 1) := by decide +kernel
theorem d_p25_2_1 : decode prog_25_method_2_code 1 = .ok (.getfield 23, 3) := by decide +kernel
theorem w_110 {Z : State} {a0 : Array Value} (hw : ∀ d ∈ tables_1, d.before a0 Z = true) : (Jvm.Cond.methodLink "com/example/grantfold/grantfold/model/Setting" (27 : Nat) ({ cls := "java/util/List", name := "isEmpty", desc := "()Z" } : Jvm.MethodName)).before a0 Z = true := hw _ (List.mem_of_getElem? (i := 110) rfl)
theorem w_119 {Z : State} {a0 : Array Value} (hw : ∀ d ∈ tables_1, d.before a0 Z = true) : (Jvm.Cond.code ({ cls := "java/util/ImmutableCollections$ListN", name := "isEmpty", desc := "()Z" } : Jvm.MethodName) jdk_45_method_2_code (1 : Nat) (Option.some Jvm.ClassFile.FieldType.boolean)).before a0 Z = true := hw _ (List.mem_of_getElem? (i := 119) rfl)
theorem d_p25_2_4 : decode prog_25_method_2_code 4 = .ok (.invokeinterface 27 1, 5) := by decide +kernel
theorem w_113 {Z : State} {a0 : Array Value} (hw : ∀ d ∈ tables_1, d.before a0 Z = true) : (Jvm.Cond.selects "java/util/ImmutableCollections$ListN" ({ cls := "java/util/List", name := "isEmpty", desc := "()Z" } : Jvm.MethodName) ({ cls := "java/util/ImmutableCollections$ListN", name := "isEmpty", desc := "()Z" } : Jvm.MethodName)).before a0 Z = true := hw _ (List.mem_of_getElem? (i := 113) rfl)
theorem w_111 {Z : State} {a0 : Array Value} (hw : ∀ d ∈ tables_1, d.before a0 Z = true) : (Jvm.Cond.declares ({ cls := "java/util/List", name := "isEmpty", desc := "()Z" } : Jvm.MethodName)).before a0 Z = true := hw _ (List.mem_of_getElem? (i := 111) rfl)
theorem w_112 {Z : State} {a0 : Array Value} (hw : ∀ d ∈ tables_1, d.before a0 Z = true) : (Jvm.Cond.interfaceMethod "java/util/List" "java/util/List" "isEmpty" "()Z").before a0 Z = true := hw _ (List.mem_of_getElem? (i := 112) rfl)
theorem w_114 {Z : State} {a0 : Array Value} (hw : ∀ d ∈ tables_1, d.before a0 Z = true) : (Jvm.Cond.instanceMethod ({ cls := "java/util/ImmutableCollections$ListN", name := "isEmpty", desc := "()Z" } : Jvm.MethodName)).before a0 Z = true := hw _ (List.mem_of_getElem? (i := 114) rfl)
theorem w_115 {Z : State} {a0 : Array Value} (hw : ∀ d ∈ tables_1, d.before a0 Z = true) : (Jvm.Cond.publicMethod ({ cls := "java/util/ImmutableCollections$ListN", name := "isEmpty", desc := "()Z" } : Jvm.MethodName)).before a0 Z = true := hw _ (List.mem_of_getElem? (i := 115) rfl)
theorem w_116 {Z : State} {a0 : Array Value} (hw : ∀ d ∈ tables_1, d.before a0 Z = true) : (Jvm.Cond.unhidden "java/util/ImmutableCollections$ListN" "isEmpty" "()Z").before a0 Z = true := hw _ (List.mem_of_getElem? (i := 116) rfl)
theorem w_117 {Z : State} {a0 : Array Value} (hw : ∀ d ∈ tables_1, d.before a0 Z = true) : (Jvm.Cond.castable "java/util/ImmutableCollections$ListN" "java/util/List").before a0 Z = true := hw _ (List.mem_of_getElem? (i := 117) rfl)
theorem d_p25_2_9 : decode prog_25_method_2_code 9 = .ok (.ifCond .eq 9, 3) := by decide +kernel
theorem w_122 {Z : State} {a0 : Array Value} (hw : ∀ d ∈ tables_1, d.before a0 Z = true) : (Jvm.Cond.fieldLink "com/example/grantfold/grantfold/model/Setting" (31 : Nat) "com/example/grantfold/grantfold/model/Setting" "EVERY_RECORD" "Ljava/util/List;").before a0 Z = true := hw _ (List.mem_of_getElem? (i := 122) rfl)
theorem d_p25_2_12 : decode prog_25_method_2_code 12 = .ok (.getstatic 31, 3) := by decide +kernel
theorem d_p25_2_15 : decode prog_25_method_2_code 15 = .ok (.goto 7, 3) := by decide +kernel
theorem d_p25_2_22 : decode prog_25_method_2_code 22 = .ok (.areturn, 1) := by decide +kernel
set_option maxRecDepth 65536 in
set_option maxHeartbeats 40000000 in
theorem rm_scp_0 (l : Launch) (Z : State) (a0 : Array Value) (hw : ∀ d ∈ tables_1, d.before a0 Z = true) (ws : List Jvm.Cond) (us ux ue ude : Addr) (kde : ClassId) (uel uem : Addr) (kem : ClassId) (uemp urec umi : Addr) (h0 : Heap) (n0 : Nat) (Z0 : n0 ≤ h0.size) (G0 : Fld Z h0 us "com/example/grantfold/grantfold/model/Setting" "where" "Ljava/util/List;" (.ref uel)) (O0 : Old Z n0 h0) (hF : own_Fac Z ue ude kde uel uem kem uemp urec umi) :
    own_Met l Z (⟨"com/example/grantfold/grantfold/model/Setting", "scopes", "()Ljava/util/List;"⟩ : MethodName) prog_25_method_2_code 1 (some (.object "java/util/List")) ws ({ frames := 1, cells := 0, slots := 0, locals := 12 } : Room) #[(.ref us)] h0 (Q_scp_0 Z us ux ue ude kde uel uem kem uemp urec umi h0 n0) := by
  refine own_enter (own := "com/example/grantfold/grantfold/model/Setting") (plainFor_of_name pn_12) rfl ?_
  intro p e s m below meth c s₁ hlk hret hx hby hml hown hnm hZ X0 e0
  have N0 := Fr.nil n0
  refine own_cast (ef_scp_0 m us) ?_
  obtain ⟨Se, Ee, Sd, Ad, Sl, El, Fl, Am, Sm, Em, Sr, Er, Fr1, Fr0, Mi⟩ := id hF
  show own_Go _ _ _ _ (s₁.setTop (mkF m 0 #[.val (.ref us)] []))
  refine own_go (fun t k => XS.aloadN X0.here hx rfl (hb hby d_p25_2_0) rfl rfl k) ?_
  show own_Go _ _ _ _ (s₁.setTop (mkF m 1 #[.val (.ref us)] [(.ref us)]))
  obtain ⟨T361, X361, e361, st361⟩ := getF X0 hx hZ hown (host := "") (Or.inl (w_71 hw)) Via.refl e0 G0 (g := (mkF m 1 #[.val (.ref us)] [(.ref us)])) rfl rfl (hb hby d_p25_2_1)
  refine own_go st361 ?_
  show own_Go _ _ _ _ (T361.setTop (mkF m 4 #[.val (.ref us)] [(.ref uel)]))
  obtain ⟨cq362, kq362, q362a, q362b, q362c⟩ := isOf hZ e361 (El.ext O0.2)
  obtain ⟨_, _, ⟨T362, L362, k362, n362⟩, -, X362, ⟨Lc362, hQ362, l362, y362, z362⟩, st362⟩ := X361.interfaceBack hx (xi := (⟨"java/util/List", "isEmpty", "()Z"⟩ : MethodName)) (y := (⟨"java/util/ImmutableCollections$ListN", "isEmpty", "()Z"⟩ : MethodName)) hown (mvT hZ (w_110 hw)) (mvT hZ (w_111 hw)) (mvT hZ (w_112 hw)) (mvT hZ (w_113 hw)) (mvT hZ (w_114 hw)) (mvT hZ (w_115 hw)) (mvT hZ (w_116 hw)) (mvT hZ (w_117 hw)) (by decide) (backOf (W := 0) (rm_eN_0 l Z a0 hw [] uel uem kem ue h0 n0 Z0 (Fl.ext O0.2) (Am.ext O0.2)) hZ (w_119 hw) (w_118 hw) (by decide) (by decide)) q362a q362b q362c (g := (mkF m 4 #[.val (.ref us)] [(.ref uel)])) rfl (by rw [hml]; rfl) (Steps.refl _) (argsL := []) (rest := []) (lenOf pd_12 rfl) rfl (by show 2 * 0 + _ ≤ _; exact Nat.le_of_eq rfl) (hb hby d_p25_2_4) (fun _ _ => ⟨rfl, e361, (by decide : 0 + 0 ≤ _), (by decide : 0 + 0 ≤ _)⟩)
  dsimp only [Pt.U, Pt.locs, Pt.cells, Pt.slots] at X362 l362 y362 z362 st362 hQ362
  subst l362 y362 z362
  obtain ⟨rfl, N362q, e362⟩ := hQ362
  have N362 := Fr.app N0 N362q
  refine own_go (fun t k => st362.trans k) ?_
  show own_Go _ _ _ _ (T362.setTop (mkF m 9 #[.val (.ref us)] [(.int (1 : Int32))]))
  refine own_go (fun t k => XS.ifNo X362.here hx rfl (hb hby d_p25_2_9) rfl ((if0 _ _).trans (feq (by decide : ¬ ((1 : Int32) = (0 : Int32)))).1) k) ?_
  show own_Go _ _ _ _ (T362.setTop (mkF m 12 #[.val (.ref us)] []))
  obtain ⟨T363, X363, e363, st363⟩ := getS2 X362 hx hZ hown (host := "") (Or.inl (w_122 hw)) Via.refl e362 (Sr.ext O0.2) (g := (mkF m 12 #[.val (.ref us)] [])) rfl (hb hby d_p25_2_12)
  refine own_go st363 ?_
  show own_Go _ _ _ _ (T363.setTop (mkF m 15 #[.val (.ref us)] [(.ref urec)]))
  refine own_go (fun t k => XS.goto X363.here hx rfl (pc0 := 15) (pc' := 22) rfl (hb hby d_p25_2_15) (by decide) (by decide) k) ?_
  show own_Go _ _ _ _ (T363.setTop (mkF m 22 #[.val (.ref us)] [(.ref urec)]))
  refine own_ret X363 hx hlk hret rfl (Or.inr (Or.inr (Or.inr (Or.inr ⟨rfl, rfl, rfl⟩)))) (hb hby d_p25_2_22) ?_ (by decide) (by decide)
  rw [e363]
  exact ⟨rfl, N362, rfl⟩
def Q_scp_1 (Z : State) (us : Addr) (ux : Addr) (ue : Addr) (ude : Addr) (kde : ClassId) (uel : Addr) (uem : Addr) (kem : ClassId) (uemp : Addr) (urec : Addr) (umi : Addr) (h0 : Heap) (n0 : Nat) (v : Option Value) (h : Heap) (L : List Loc) : Prop := v = some (.ref ux) ∧ Fr n0 L ∧ h = h0
theorem ef_scp_1 (m : MethodId) (us : Addr) : entryFrame m #[(.ref us)] 1 = mkF m 0 #[.val (.ref us)] [] := by first | (simp [entryFrame, mkF, argsToLocals, Value.category]; done) | rfl
theorem w_218 {Z : State} {a0 : Array Value} (hw : ∀ d ∈ tables_1, d.before a0 Z = true) : (Jvm.Cond.code ({ cls := "java/util/ImmutableCollections$List12", name := "isEmpty", desc := "()Z" } : Jvm.MethodName) jdk_44_method_4_code (1 : Nat) (Option.some Jvm.ClassFile.FieldType.boolean)).before a0 Z = true := hw _ (List.mem_of_getElem? (i := 218) rfl)
theorem w_214 {Z : State} {a0 : Array Value} (hw : ∀ d ∈ tables_1, d.before a0 Z = true) : (Jvm.Cond.selects "java/util/ImmutableCollections$List12" ({ cls := "java/util/List", name := "isEmpty", desc := "()Z" } : Jvm.MethodName) ({ cls := "java/util/ImmutableCollections$List12", name := "isEmpty", desc := "()Z" } : Jvm.MethodName)).before a0 Z = true := hw _ (List.mem_of_getElem? (i := 214) rfl)
theorem w_215 {Z : State} {a0 : Array Value} (hw : ∀ d ∈ tables_1, d.before a0 Z = true) : (Jvm.Cond.instanceMethod ({ cls := "java/util/ImmutableCollections$List12", name := "isEmpty", desc := "()Z" } : Jvm.MethodName)).before a0 Z = true := hw _ (List.mem_of_getElem? (i := 215) rfl)
theorem w_216 {Z : State} {a0 : Array Value} (hw : ∀ d ∈ tables_1, d.before a0 Z = true) : (Jvm.Cond.publicMethod ({ cls := "java/util/ImmutableCollections$List12", name := "isEmpty", desc := "()Z" } : Jvm.MethodName)).before a0 Z = true := hw _ (List.mem_of_getElem? (i := 216) rfl)
theorem w_217 {Z : State} {a0 : Array Value} (hw : ∀ d ∈ tables_1, d.before a0 Z = true) : (Jvm.Cond.unhidden "java/util/ImmutableCollections$List12" "isEmpty" "()Z").before a0 Z = true := hw _ (List.mem_of_getElem? (i := 217) rfl)
theorem w_131 {Z : State} {a0 : Array Value} (hw : ∀ d ∈ tables_1, d.before a0 Z = true) : (Jvm.Cond.castable "java/util/ImmutableCollections$List12" "java/util/List").before a0 Z = true := hw _ (List.mem_of_getElem? (i := 131) rfl)
theorem d_p25_2_18 : decode prog_25_method_2_code 18 = .ok (.aload_n 0, 1) := by decide +kernel
theorem d_p25_2_19 : decode prog_25_method_2_code 19 = .ok (.getfield 23, 3) := by decide +kernel
set_option maxRecDepth 65536 in
set_option maxHeartbeats 40000000 in
theorem rm_scp_1 (l : Launch) (Z : State) (a0 : Array Value) (hw : ∀ d ∈ tables_1, d.before a0 Z = true) (ws : List Jvm.Cond) (us ux ue ude : Addr) (kde : ClassId) (uel uem : Addr) (kem : ClassId) (uemp urec umi : Addr) (h0 : Heap) (n0 : Nat) (Z0 : n0 ≤ h0.size) (G0 : Fld Z h0 us "com/example/grantfold/grantfold/model/Setting" "where" "Ljava/util/List;" (.ref ux)) (E0 : Exa Z h0 ux "java/util/ImmutableCollections$List12") (O0 : Old Z n0 h0) (hF : own_Fac Z ue ude kde uel uem kem uemp urec umi) :
    own_Met l Z (⟨"com/example/grantfold/grantfold/model/Setting", "scopes", "()Ljava/util/List;"⟩ : MethodName) prog_25_method_2_code 1 (some (.object "java/util/List")) ws ({ frames := 1, cells := 0, slots := 0, locals := 12 } : Room) #[(.ref us)] h0 (Q_scp_1 Z us ux ue ude kde uel uem kem uemp urec umi h0 n0) := by
  refine own_enter (own := "com/example/grantfold/grantfold/model/Setting") (plainFor_of_name pn_12) rfl ?_
  intro p e s m below meth c s₁ hlk hret hx hby hml hown hnm hZ X0 e0
  have N0 := Fr.nil n0
  refine own_cast (ef_scp_1 m us) ?_
  obtain ⟨Se, Ee, Sd, Ad, Sl, El, Fl, Am, Sm, Em, Sr, Er, Fr1, Fr0, Mi⟩ := id hF
  show own_Go _ _ _ _ (s₁.setTop (mkF m 0 #[.val (.ref us)] []))
  refine own_go (fun t k => XS.aloadN X0.here hx rfl (hb hby d_p25_2_0) rfl rfl k) ?_
  show own_Go _ _ _ _ (s₁.setTop (mkF m 1 #[.val (.ref us)] [(.ref us)]))
  obtain ⟨T364, X364, e364, st364⟩ := getF X0 hx hZ hown (host := "") (Or.inl (w_71 hw)) Via.refl e0 G0 (g := (mkF m 1 #[.val (.ref us)] [(.ref us)])) rfl rfl (hb hby d_p25_2_1)
  refine own_go st364 ?_
  show own_Go _ _ _ _ (T364.setTop (mkF m 4 #[.val (.ref us)] [(.ref ux)]))
  obtain ⟨cq365, kq365, q365a, q365b, q365c⟩ := isOf hZ e364 E0
  obtain ⟨_, _, ⟨T365, L365, k365, n365⟩, -, X365, ⟨Lc365, hQ365, l365, y365, z365⟩, st365⟩ := X364.interfaceBack hx (xi := (⟨"java/util/List", "isEmpty", "()Z"⟩ : MethodName)) (y := (⟨"java/util/ImmutableCollections$List12", "isEmpty", "()Z"⟩ : MethodName)) hown (mvT hZ (w_110 hw)) (mvT hZ (w_111 hw)) (mvT hZ (w_112 hw)) (mvT hZ (w_214 hw)) (mvT hZ (w_215 hw)) (mvT hZ (w_216 hw)) (mvT hZ (w_217 hw)) (mvT hZ (w_131 hw)) (by decide) (backOf (W := 0) (rm_e12 l Z a0 hw [] ux h0 n0 Z0 ) hZ (w_218 hw) (w_132 hw) (by decide) (by decide)) q365a q365b q365c (g := (mkF m 4 #[.val (.ref us)] [(.ref ux)])) rfl (by rw [hml]; rfl) (Steps.refl _) (argsL := []) (rest := []) (lenOf pd_12 rfl) rfl (by show 2 * 0 + _ ≤ _; exact Nat.le_of_eq rfl) (hb hby d_p25_2_4) (fun _ _ => ⟨rfl, e364, (by decide : 0 + 0 ≤ _), (by decide : 0 + 0 ≤ _)⟩)
  dsimp only [Pt.U, Pt.locs, Pt.cells, Pt.slots] at X365 l365 y365 z365 st365 hQ365
  subst l365 y365 z365
  obtain ⟨rfl, N365q, e365⟩ := hQ365
  have N365 := Fr.app N0 N365q
  refine own_go (fun t k => st365.trans k) ?_
  show own_Go _ _ _ _ (T365.setTop (mkF m 9 #[.val (.ref us)] [(.int (0 : Int32))]))
  refine own_go (fun t k => XS.ifYes X365.here hx rfl (pc0 := 9) (pc' := 18) rfl (hb hby d_p25_2_9) rfl ((if0 _ _).trans (teq (by decide : (0 : Int32) = (0 : Int32))).1) (by decide) (by decide) k) ?_
  show own_Go _ _ _ _ (T365.setTop (mkF m 18 #[.val (.ref us)] []))
  refine own_go (fun t k => XS.aloadN X365.here hx rfl (hb hby d_p25_2_18) rfl rfl k) ?_
  show own_Go _ _ _ _ (T365.setTop (mkF m 19 #[.val (.ref us)] [(.ref us)]))
  obtain ⟨T366, X366, e366, st366⟩ := getF X365 hx hZ hown (host := "") (Or.inl (w_71 hw)) Via.refl e365 G0 (g := (mkF m 19 #[.val (.ref us)] [(.ref us)])) rfl rfl (hb hby d_p25_2_19)
  refine own_go st366 ?_
  show own_Go _ _ _ _ (T366.setTop (mkF m 22 #[.val (.ref us)] [(.ref ux)]))
  refine own_ret X366 hx hlk hret rfl (Or.inr (Or.inr (Or.inr (Or.inr ⟨rfl, rfl, rfl⟩)))) (hb hby d_p25_2_22) ?_ (by decide) (by decide)
  rw [e366]
  exact ⟨rfl, N365, rfl⟩
def Q_scp_2 (Z : State) (us : Addr) (ux : Addr) (ue : Addr) (ude : Addr) (kde : ClassId) (uel : Addr) (uem : Addr) (kem : ClassId) (uemp : Addr) (urec : Addr) (umi : Addr) (h0 : Heap) (n0 : Nat) (v : Option Value) (h : Heap) (L : List Loc) : Prop := v = some (.ref ux) ∧ Fr n0 L ∧ h = h0
theorem ef_scp_2 (m : MethodId) (us : Addr) : entryFrame m #[(.ref us)] 1 = mkF m 0 #[.val (.ref us)] [] := by first | (simp [entryFrame, mkF, argsToLocals, Value.category]; done) | rfl
set_option maxRecDepth 65536 in
set_option maxHeartbeats 40000000 in
theorem rm_scp_2 (l : Launch) (Z : State) (a0 : Array Value) (hw : ∀ d ∈ tables_1, d.before a0 Z = true) (ws : List Jvm.Cond) (us ux ue ude : Addr) (kde : ClassId) (uel uem : Addr) (kem : ClassId) (uemp urec umi : Addr) (h0 : Heap) (n0 : Nat) (Z0 : n0 ≤ h0.size) (G0 : Fld Z h0 us "com/example/grantfold/grantfold/model/Setting" "where" "Ljava/util/List;" (.ref ux)) (E0 : Exa Z h0 ux "java/util/ImmutableCollections$List12") (O0 : Old Z n0 h0) (hF : own_Fac Z ue ude kde uel uem kem uemp urec umi) :
    own_Met l Z (⟨"com/example/grantfold/grantfold/model/Setting", "scopes", "()Ljava/util/List;"⟩ : MethodName) prog_25_method_2_code 1 (some (.object "java/util/List")) ws ({ frames := 1, cells := 0, slots := 0, locals := 12 } : Room) #[(.ref us)] h0 (Q_scp_2 Z us ux ue ude kde uel uem kem uemp urec umi h0 n0) := by
  refine own_enter (own := "com/example/grantfold/grantfold/model/Setting") (plainFor_of_name pn_12) rfl ?_
  intro p e s m below meth c s₁ hlk hret hx hby hml hown hnm hZ X0 e0
  have N0 := Fr.nil n0
  refine own_cast (ef_scp_2 m us) ?_
  obtain ⟨Se, Ee, Sd, Ad, Sl, El, Fl, Am, Sm, Em, Sr, Er, Fr1, Fr0, Mi⟩ := id hF
  show own_Go _ _ _ _ (s₁.setTop (mkF m 0 #[.val (.ref us)] []))
  refine own_go (fun t k => XS.aloadN X0.here hx rfl (hb hby d_p25_2_0) rfl rfl k) ?_
  show own_Go _ _ _ _ (s₁.setTop (mkF m 1 #[.val (.ref us)] [(.ref us)]))
  obtain ⟨T367, X367, e367, st367⟩ := getF X0 hx hZ hown (host := "") (Or.inl (w_71 hw)) Via.refl e0 G0 (g := (mkF m 1 #[.val (.ref us)] [(.ref us)])) rfl rfl (hb hby d_p25_2_1)
  refine own_go st367 ?_
  show own_Go _ _ _ _ (T367.setTop (mkF m 4 #[.val (.ref us)] [(.ref ux)]))
  obtain ⟨cq368, kq368, q368a, q368b, q368c⟩ := isOf hZ e367 E0
  obtain ⟨_, _, ⟨T368, L368, k368, n368⟩, -, X368, ⟨Lc368, hQ368, l368, y368, z368⟩, st368⟩ := X367.interfaceBack hx (xi := (⟨"java/util/List", "isEmpty", "()Z"⟩ : MethodName)) (y := (⟨"java/util/ImmutableCollections$List12", "isEmpty", "()Z"⟩ : MethodName)) hown (mvT hZ (w_110 hw)) (mvT hZ (w_111 hw)) (mvT hZ (w_112 hw)) (mvT hZ (w_214 hw)) (mvT hZ (w_215 hw)) (mvT hZ (w_216 hw)) (mvT hZ (w_217 hw)) (mvT hZ (w_131 hw)) (by decide) (backOf (W := 0) (rm_e12 l Z a0 hw [] ux h0 n0 Z0 ) hZ (w_218 hw) (w_132 hw) (by decide) (by decide)) q368a q368b q368c (g := (mkF m 4 #[.val (.ref us)] [(.ref ux)])) rfl (by rw [hml]; rfl) (Steps.refl _) (argsL := []) (rest := []) (lenOf pd_12 rfl) rfl (by show 2 * 0 + _ ≤ _; exact Nat.le_of_eq rfl) (hb hby d_p25_2_4) (fun _ _ => ⟨rfl, e367, (by decide : 0 + 0 ≤ _), (by decide : 0 + 0 ≤ _)⟩)
  dsimp only [Pt.U, Pt.locs, Pt.cells, Pt.slots] at X368 l368 y368 z368 st368 hQ368
  subst l368 y368 z368
  obtain ⟨rfl, N368q, e368⟩ := hQ368
  have N368 := Fr.app N0 N368q
  refine own_go (fun t k => st368.trans k) ?_
  show own_Go _ _ _ _ (T368.setTop (mkF m 9 #[.val (.ref us)] [(.int (0 : Int32))]))
  refine own_go (fun t k => XS.ifYes X368.here hx rfl (pc0 := 9) (pc' := 18) rfl (hb hby d_p25_2_9) rfl ((if0 _ _).trans (teq (by decide : (0 : Int32) = (0 : Int32))).1) (by decide) (by decide) k) ?_
  show own_Go _ _ _ _ (T368.setTop (mkF m 18 #[.val (.ref us)] []))
  refine own_go (fun t k => XS.aloadN X368.here hx rfl (hb hby d_p25_2_18) rfl rfl k) ?_
  show own_Go _ _ _ _ (T368.setTop (mkF m 19 #[.val (.ref us)] [(.ref us)]))
  obtain ⟨T369, X369, e369, st369⟩ := getF X368 hx hZ hown (host := "") (Or.inl (w_71 hw)) Via.refl e368 G0 (g := (mkF m 19 #[.val (.ref us)] [(.ref us)])) rfl rfl (hb hby d_p25_2_19)
  refine own_go st369 ?_
  show own_Go _ _ _ _ (T369.setTop (mkF m 22 #[.val (.ref us)] [(.ref ux)]))
  refine own_ret X369 hx hlk hret rfl (Or.inr (Or.inr (Or.inr (Or.inr ⟨rfl, rfl, rfl⟩)))) (hb hby d_p25_2_22) ?_ (by decide) (by decide)
  rw [e369]
  exact ⟨rfl, N368, rfl⟩
def Q_scp_3 (Z : State) (us : Addr) (ux : Addr) (uy : Addr) (ky : ClassId) (ue : Addr) (ude : Addr) (kde : ClassId) (uel : Addr) (uem : Addr) (kem : ClassId) (uemp : Addr) (urec : Addr) (umi : Addr) (h0 : Heap) (n0 : Nat) (v : Option Value) (h : Heap) (L : List Loc) : Prop := v = some (.ref ux) ∧ Fr n0 L ∧ h = h0
theorem ef_scp_3 (m : MethodId) (us : Addr) : entryFrame m #[(.ref us)] 1 = mkF m 0 #[.val (.ref us)] [] := by first | (simp [entryFrame, mkF, argsToLocals, Value.category]; done) | rfl
set_option maxRecDepth 65536 in
set_option maxHeartbeats 40000000 in
theorem rm_scp_3 (l : Launch) (Z : State) (a0 : Array Value) (hw : ∀ d ∈ tables_1, d.before a0 Z = true) (ws : List Jvm.Cond) (us ux uy : Addr) (ky : ClassId) (ue ude : Addr) (kde : ClassId) (uel uem : Addr) (kem : ClassId) (uemp urec umi : Addr) (h0 : Heap) (n0 : Nat) (Z0 : n0 ≤ h0.size) (G0 : Fld Z h0 us "com/example/grantfold/grantfold/model/Setting" "where" "Ljava/util/List;" (.ref ux)) (E0 : Exa Z h0 ux "java/util/ImmutableCollections$ListN") (F0 : Fld Z h0 ux "java/util/ImmutableCollections$ListN" "elements" "[Ljava/lang/Object;" (.ref uy)) (A0 : Arv Z h0 uy ky (.object "java/lang/Object") (3 : Int32) [(.ref ue), (.ref ue), (.ref ue)] .null) (O0 : Old Z n0 h0) (hF : own_Fac Z ue ude kde uel uem kem uemp urec umi) :
    own_Met l Z (⟨"com/example/grantfold/grantfold/model/Setting", "scopes", "()Ljava/util/List;"⟩ : MethodName) prog_25_method_2_code 1 (some (.object "java/util/List")) ws ({ frames := 1, cells := 0, slots := 0, locals := 12 } : Room) #[(.ref us)] h0 (Q_scp_3 Z us ux uy ky ue ude kde uel uem kem uemp urec umi h0 n0) := by
  refine own_enter (own := "com/example/grantfold/grantfold/model/Setting") (plainFor_of_name pn_12) rfl ?_
  intro p e s m below meth c s₁ hlk hret hx hby hml hown hnm hZ X0 e0
  have N0 := Fr.nil n0
  refine own_cast (ef_scp_3 m us) ?_
  obtain ⟨Se, Ee, Sd, Ad, Sl, El, Fl, Am, Sm, Em, Sr, Er, Fr1, Fr0, Mi⟩ := id hF
  show own_Go _ _ _ _ (s₁.setTop (mkF m 0 #[.val (.ref us)] []))
  refine own_go (fun t k => XS.aloadN X0.here hx rfl (hb hby d_p25_2_0) rfl rfl k) ?_
  show own_Go _ _ _ _ (s₁.setTop (mkF m 1 #[.val (.ref us)] [(.ref us)]))
  obtain ⟨T370, X370, e370, st370⟩ := getF X0 hx hZ hown (host := "") (Or.inl (w_71 hw)) Via.refl e0 G0 (g := (mkF m 1 #[.val (.ref us)] [(.ref us)])) rfl rfl (hb hby d_p25_2_1)
  refine own_go st370 ?_
  show own_Go _ _ _ _ (T370.setTop (mkF m 4 #[.val (.ref us)] [(.ref ux)]))
  obtain ⟨cq371, kq371, q371a, q371b, q371c⟩ := isOf hZ e370 E0
  obtain ⟨_, _, ⟨T371, L371, k371, n371⟩, -, X371, ⟨Lc371, hQ371, l371, y371, z371⟩, st371⟩ := X370.interfaceBack hx (xi := (⟨"java/util/List", "isEmpty", "()Z"⟩ : MethodName)) (y := (⟨"java/util/ImmutableCollections$ListN", "isEmpty", "()Z"⟩ : MethodName)) hown (mvT hZ (w_110 hw)) (mvT hZ (w_111 hw)) (mvT hZ (w_112 hw)) (mvT hZ (w_113 hw)) (mvT hZ (w_114 hw)) (mvT hZ (w_115 hw)) (mvT hZ (w_116 hw)) (mvT hZ (w_117 hw)) (by decide) (backOf (W := 0) (rm_eN_3 l Z a0 hw [] ux uy ky ue h0 n0 Z0 F0 A0) hZ (w_119 hw) (w_118 hw) (by decide) (by decide)) q371a q371b q371c (g := (mkF m 4 #[.val (.ref us)] [(.ref ux)])) rfl (by rw [hml]; rfl) (Steps.refl _) (argsL := []) (rest := []) (lenOf pd_12 rfl) rfl (by show 2 * 0 + _ ≤ _; exact Nat.le_of_eq rfl) (hb hby d_p25_2_4) (fun _ _ => ⟨rfl, e370, (by decide : 0 + 0 ≤ _), (by decide : 0 + 0 ≤ _)⟩)
  dsimp only [Pt.U, Pt.locs, Pt.cells, Pt.slots] at X371 l371 y371 z371 st371 hQ371
  subst l371 y371 z371
  obtain ⟨rfl, N371q, e371⟩ := hQ371
  have N371 := Fr.app N0 N371q
  refine own_go (fun t k => st371.trans k) ?_
  show own_Go _ _ _ _ (T371.setTop (mkF m 9 #[.val (.ref us)] [(.int (0 : Int32))]))
  refine own_go (fun t k => XS.ifYes X371.here hx rfl (pc0 := 9) (pc' := 18) rfl (hb hby d_p25_2_9) rfl ((if0 _ _).trans (teq (by decide : (0 : Int32) = (0 : Int32))).1) (by decide) (by decide) k) ?_
  show own_Go _ _ _ _ (T371.setTop (mkF m 18 #[.val (.ref us)] []))
  refine own_go (fun t k => XS.aloadN X371.here hx rfl (hb hby d_p25_2_18) rfl rfl k) ?_
  show own_Go _ _ _ _ (T371.setTop (mkF m 19 #[.val (.ref us)] [(.ref us)]))
  obtain ⟨T372, X372, e372, st372⟩ := getF X371 hx hZ hown (host := "") (Or.inl (w_71 hw)) Via.refl e371 G0 (g := (mkF m 19 #[.val (.ref us)] [(.ref us)])) rfl rfl (hb hby d_p25_2_19)
  refine own_go st372 ?_
  show own_Go _ _ _ _ (T372.setTop (mkF m 22 #[.val (.ref us)] [(.ref ux)]))
  refine own_ret X372 hx hlk hret rfl (Or.inr (Or.inr (Or.inr (Or.inr ⟨rfl, rfl, rfl⟩)))) (hb hby d_p25_2_22) ?_ (by decide) (by decide)
  rw [e372]
  exact ⟨rfl, N371, rfl⟩
theorem own_four (x : Int32) : x &&& 3 = 0 ∨ x &&& 3 = 1 ∨ x &&& 3 = 2 ∨ x &&& 3 = 3 := own_mask (P := fun y => y = 0 ∨ y = 1 ∨ y = 2 ∨ y = 3) 4 3 (by decide) (by decide) x
def Q_law (Z : State) (cv : Int32) (iv : Int32) (fv : Int32) (ue : Addr) (ude : Addr) (kde : ClassId) (uel : Addr) (uem : Addr) (kem : ClassId) (uemp : Addr) (urec : Addr) (umi : Addr) (h0 : Heap) (n0 : Nat) (v : Option Value) (h : Heap) (L : List Loc) : Prop := v = some (.int 1) ∧ Fr n0 L
theorem ef_law (m : MethodId) (cv : Int32) (iv : Int32) (fv : Int32) : entryFrame m #[(.int cv), (.int iv), (.int fv)] maxLocals = mkF m 0 #[.val (.int cv), .val (.int iv), .val (.int fv), .unset, .unset, .unset, .unset, .unset, .unset, .unset] [] := by first | (simp [entryFrame, mkF, argsToLocals, Value.category, maxLocals]; done) | rfl
theorem pn_13 : plainName "com/example/grantfold/grantfold/model/SettingScopesPinLaw" = true := by first | (simp [plainName, overriddenIn]; done) | decide +kernel
theorem w_0 {Z : State} {a0 : Array Value} (hw : ∀ d ∈ tables_1, d.before a0 Z = true) : (Jvm.Cond.classLink "com/example/grantfold/grantfold/model/SettingScopesPinLaw" (7 : Nat) "java/util/ArrayList").before a0 Z = true := hw _ (List.mem_of_getElem? (i := 0) rfl)
theorem w_3 {Z : State} {a0 : Array Value} (hw : ∀ d ∈ tables_1, d.before a0 Z = true) : (Jvm.Cond.methodLink "com/example/grantfold/grantfold/model/SettingScopesPinLaw" (9 : Nat) ({ cls := "java/util/ArrayList", name := "<init>", desc := "()V" } : Jvm.MethodName)).before a0 Z = true := hw _ (List.mem_of_getElem? (i := 3) rfl)
theorem w_5 {Z : State} {a0 : Array Value} (hw : ∀ d ∈ tables_1, d.before a0 Z = true) : (Jvm.Cond.code ({ cls := "java/util/ArrayList", name := "<init>", desc := "()V" } : Jvm.MethodName) jdk_38_method_2_code (1 : Nat) (Option.none : Option Jvm.ClassFile.FieldType)).before a0 Z = true := hw _ (List.mem_of_getElem? (i := 5) rfl)
theorem w_4 {Z : State} {a0 : Array Value} (hw : ∀ d ∈ tables_1, d.before a0 Z = true) : (Jvm.Cond.instanceMethod ({ cls := "java/util/ArrayList", name := "<init>", desc := "()V" } : Jvm.MethodName)).before a0 Z = true := hw _ (List.mem_of_getElem? (i := 4) rfl)
theorem w_26 {Z : State} {a0 : Array Value} (hw : ∀ d ∈ tables_1, d.before a0 Z = true) : (Jvm.Cond.classLink "com/example/grantfold/grantfold/model/SettingScopesPinLaw" (20 : Nat) "com/example/grantfold/grantfold/model/Setting").before a0 Z = true := hw _ (List.mem_of_getElem? (i := 26) rfl)
theorem w_28 {Z : State} {a0 : Array Value} (hw : ∀ d ∈ tables_1, d.before a0 Z = true) : (Jvm.Cond.initialized "com/example/grantfold/grantfold/model/Setting").before a0 Z = true := hw _ (List.mem_of_getElem? (i := 28) rfl)
theorem w_29 {Z : State} {a0 : Array Value} (hw : ∀ d ∈ tables_1, d.before a0 Z = true) : (Jvm.Cond.methodLink "com/example/grantfold/grantfold/model/SettingScopesPinLaw" (22 : Nat) ({ cls := "com/example/grantfold/grantfold/model/Setting", name := "<init>", desc := "(ZILjava/util/List;)V" } : Jvm.MethodName)).before a0 Z = true := hw _ (List.mem_of_getElem? (i := 29) rfl)
theorem w_31 {Z : State} {a0 : Array Value} (hw : ∀ d ∈ tables_1, d.before a0 Z = true) : (Jvm.Cond.code ({ cls := "com/example/grantfold/grantfold/model/Setting", name := "<init>", desc := "(ZILjava/util/List;)V" } : Jvm.MethodName) prog_25_method_1_code (4 : Nat) (Option.none : Option Jvm.ClassFile.FieldType)).before a0 Z = true := hw _ (List.mem_of_getElem? (i := 31) rfl)
theorem pd_15 : parseMethodDescriptor "(ZILjava/util/List;)V" = some ⟨[.boolean, .int, (.object "java/util/List")], none⟩ := by decide +kernel
theorem w_30 {Z : State} {a0 : Array Value} (hw : ∀ d ∈ tables_1, d.before a0 Z = true) : (Jvm.Cond.instanceMethod ({ cls := "com/example/grantfold/grantfold/model/Setting", name := "<init>", desc := "(ZILjava/util/List;)V" } : Jvm.MethodName)).before a0 Z = true := hw _ (List.mem_of_getElem? (i := 30) rfl)
theorem w_73 {Z : State} {a0 : Array Value} (hw : ∀ d ∈ tables_1, d.before a0 Z = true) : (Jvm.Cond.fieldLink "com/example/grantfold/grantfold/model/SettingScopesPinLaw" (10 : Nat) "com/example/grantfold/grantfold/model/Scope" "EVERY_RECORD" "Lcom/example/grantfold/grantfold/model/Scope;").before a0 Z = true := hw _ (List.mem_of_getElem? (i := 73) rfl)
theorem w_76 {Z : State} {a0 : Array Value} (hw : ∀ d ∈ tables_1, d.before a0 Z = true) : (Jvm.Cond.methodLink "com/example/grantfold/grantfold/model/SettingScopesPinLaw" (16 : Nat) ({ cls := "java/util/ArrayList", name := "add", desc := "(Ljava/lang/Object;)Z" } : Jvm.MethodName)).before a0 Z = true := hw _ (List.mem_of_getElem? (i := 76) rfl)
theorem w_80 {Z : State} {a0 : Array Value} (hw : ∀ d ∈ tables_1, d.before a0 Z = true) : (Jvm.Cond.code ({ cls := "java/util/ArrayList", name := "add", desc := "(Ljava/lang/Object;)Z" } : Jvm.MethodName) jdk_38_method_25_code (2 : Nat) (Option.some Jvm.ClassFile.FieldType.boolean)).before a0 Z = true := hw _ (List.mem_of_getElem? (i := 80) rfl)
theorem pd_16 : parseMethodDescriptor "(Ljava/lang/Object;)Z" = some ⟨[(.object "java/lang/Object")], some .boolean⟩ := by decide +kernel
theorem w_79 {Z : State} {a0 : Array Value} (hw : ∀ d ∈ tables_1, d.before a0 Z = true) : (Jvm.Cond.selects "java/util/ArrayList" ({ cls := "java/util/ArrayList", name := "add", desc := "(Ljava/lang/Object;)Z" } : Jvm.MethodName) ({ cls := "java/util/ArrayList", name := "add", desc := "(Ljava/lang/Object;)Z" } : Jvm.MethodName)).before a0 Z = true := hw _ (List.mem_of_getElem? (i := 79) rfl)
theorem w_77 {Z : State} {a0 : Array Value} (hw : ∀ d ∈ tables_1, d.before a0 Z = true) : (Jvm.Cond.declares ({ cls := "java/util/ArrayList", name := "add", desc := "(Ljava/lang/Object;)Z" } : Jvm.MethodName)).before a0 Z = true := hw _ (List.mem_of_getElem? (i := 77) rfl)
theorem w_78 {Z : State} {a0 : Array Value} (hw : ∀ d ∈ tables_1, d.before a0 Z = true) : (Jvm.Cond.instanceMethod ({ cls := "java/util/ArrayList", name := "add", desc := "(Ljava/lang/Object;)Z" } : Jvm.MethodName)).before a0 Z = true := hw _ (List.mem_of_getElem? (i := 78) rfl)
theorem w_105 {Z : State} {a0 : Array Value} (hw : ∀ d ∈ tables_1, d.before a0 Z = true) : (Jvm.Cond.methodLink "com/example/grantfold/grantfold/model/SettingScopesPinLaw" (25 : Nat) ({ cls := "com/example/grantfold/grantfold/model/Setting", name := "scopes", desc := "()Ljava/util/List;" } : Jvm.MethodName)).before a0 Z = true := hw _ (List.mem_of_getElem? (i := 105) rfl)
theorem w_109 {Z : State} {a0 : Array Value} (hw : ∀ d ∈ tables_1, d.before a0 Z = true) : (Jvm.Cond.code ({ cls := "com/example/grantfold/grantfold/model/Setting", name := "scopes", desc := "()Ljava/util/List;" } : Jvm.MethodName) prog_25_method_2_code (1 : Nat) (Option.some (Jvm.ClassFile.FieldType.object "java/util/List"))).before a0 Z = true := hw _ (List.mem_of_getElem? (i := 109) rfl)
theorem w_108 {Z : State} {a0 : Array Value} (hw : ∀ d ∈ tables_1, d.before a0 Z = true) : (Jvm.Cond.selects "com/example/grantfold/grantfold/model/Setting" ({ cls := "com/example/grantfold/grantfold/model/Setting", name := "scopes", desc := "()Ljava/util/List;" } : Jvm.MethodName) ({ cls := "com/example/grantfold/grantfold/model/Setting", name := "scopes", desc := "()Ljava/util/List;" } : Jvm.MethodName)).before a0 Z = true := hw _ (List.mem_of_getElem? (i := 108) rfl)
theorem w_106 {Z : State} {a0 : Array Value} (hw : ∀ d ∈ tables_1, d.before a0 Z = true) : (Jvm.Cond.declares ({ cls := "com/example/grantfold/grantfold/model/Setting", name := "scopes", desc := "()Ljava/util/List;" } : Jvm.MethodName)).before a0 Z = true := hw _ (List.mem_of_getElem? (i := 106) rfl)
theorem w_107 {Z : State} {a0 : Array Value} (hw : ∀ d ∈ tables_1, d.before a0 Z = true) : (Jvm.Cond.instanceMethod ({ cls := "com/example/grantfold/grantfold/model/Setting", name := "scopes", desc := "()Ljava/util/List;" } : Jvm.MethodName)).before a0 Z = true := hw _ (List.mem_of_getElem? (i := 107) rfl)
theorem w_124 {Z : State} {a0 : Array Value} (hw : ∀ d ∈ tables_1, d.before a0 Z = true) : (Jvm.Cond.methodLink "com/example/grantfold/grantfold/model/SettingScopesPinLaw" (29 : Nat) ({ cls := "java/util/List", name := "size", desc := "()I" } : Jvm.MethodName)).before a0 Z = true := hw _ (List.mem_of_getElem? (i := 124) rfl)
theorem w_133 {Z : State} {a0 : Array Value} (hw : ∀ d ∈ tables_1, d.before a0 Z = true) : (Jvm.Cond.code ({ cls := "java/util/ImmutableCollections$List12", name := "size", desc := "()I" } : Jvm.MethodName) jdk_44_method_3_code (1 : Nat) (Option.some Jvm.ClassFile.FieldType.int)).before a0 Z = true := hw _ (List.mem_of_getElem? (i := 133) rfl)
theorem pd_17 : parseMethodDescriptor "()I" = some ⟨[], some .int⟩ := by decide +kernel
theorem w_127 {Z : State} {a0 : Array Value} (hw : ∀ d ∈ tables_1, d.before a0 Z = true) : (Jvm.Cond.selects "java/util/ImmutableCollections$List12" ({ cls := "java/util/List", name := "size", desc := "()I" } : Jvm.MethodName) ({ cls := "java/util/ImmutableCollections$List12", name := "size", desc := "()I" } : Jvm.MethodName)).before a0 Z = true := hw _ (List.mem_of_getElem? (i := 127) rfl)
theorem w_125 {Z : State} {a0 : Array Value} (hw : ∀ d ∈ tables_1, d.before a0 Z = true) : (Jvm.Cond.declares ({ cls := "java/util/List", name := "size", desc := "()I" } : Jvm.MethodName)).before a0 Z = true := hw _ (List.mem_of_getElem? (i := 125) rfl)
theorem w_126 {Z : State} {a0 : Array Value} (hw : ∀ d ∈ tables_1, d.before a0 Z = true) : (Jvm.Cond.interfaceMethod "java/util/List" "java/util/List" "size" "()I").before a0 Z = true := hw _ (List.mem_of_getElem? (i := 126) rfl)
theorem w_128 {Z : State} {a0 : Array Value} (hw : ∀ d ∈ tables_1, d.before a0 Z = true) : (Jvm.Cond.instanceMethod ({ cls := "java/util/ImmutableCollections$List12", name := "size", desc := "()I" } : Jvm.MethodName)).before a0 Z = true := hw _ (List.mem_of_getElem? (i := 128) rfl)
theorem w_129 {Z : State} {a0 : Array Value} (hw : ∀ d ∈ tables_1, d.before a0 Z = true) : (Jvm.Cond.publicMethod ({ cls := "java/util/ImmutableCollections$List12", name := "size", desc := "()I" } : Jvm.MethodName)).before a0 Z = true := hw _ (List.mem_of_getElem? (i := 129) rfl)
theorem w_130 {Z : State} {a0 : Array Value} (hw : ∀ d ∈ tables_1, d.before a0 Z = true) : (Jvm.Cond.unhidden "java/util/ImmutableCollections$List12" "size" "()I").before a0 Z = true := hw _ (List.mem_of_getElem? (i := 130) rfl)
theorem w_137 {Z : State} {a0 : Array Value} (hw : ∀ d ∈ tables_1, d.before a0 Z = true) : (Jvm.Cond.methodLink "com/example/grantfold/grantfold/model/SettingScopesPinLaw" (35 : Nat) ({ cls := "java/util/List", name := "get", desc := "(I)Ljava/lang/Object;" } : Jvm.MethodName)).before a0 Z = true := hw _ (List.mem_of_getElem? (i := 137) rfl)
theorem w_144 {Z : State} {a0 : Array Value} (hw : ∀ d ∈ tables_1, d.before a0 Z = true) : (Jvm.Cond.code ({ cls := "java/util/ImmutableCollections$List12", name := "get", desc := "(I)Ljava/lang/Object;" } : Jvm.MethodName) jdk_44_method_5_code (2 : Nat) (Option.some (Jvm.ClassFile.FieldType.object "java/lang/Object"))).before a0 Z = true := hw _ (List.mem_of_getElem? (i := 144) rfl)
theorem pd_18 : parseMethodDescriptor "(I)Ljava/lang/Object;" = some ⟨[.int], some (.object "java/lang/Object")⟩ := by decide +kernel
theorem w_140 {Z : State} {a0 : Array Value} (hw : ∀ d ∈ tables_1, d.before a0 Z = true) : (Jvm.Cond.selects "java/util/ImmutableCollections$List12" ({ cls := "java/util/List", name := "get", desc := "(I)Ljava/lang/Object;" } : Jvm.MethodName) ({ cls := "java/util/ImmutableCollections$List12", name := "get", desc := "(I)Ljava/lang/Object;" } : Jvm.MethodName)).before a0 Z = true := hw _ (List.mem_of_getElem? (i := 140) rfl)
theorem w_138 {Z : State} {a0 : Array Value} (hw : ∀ d ∈ tables_1, d.before a0 Z = true) : (Jvm.Cond.declares ({ cls := "java/util/List", name := "get", desc := "(I)Ljava/lang/Object;" } : Jvm.MethodName)).before a0 Z = true := hw _ (List.mem_of_getElem? (i := 138) rfl)
theorem w_139 {Z : State} {a0 : Array Value} (hw : ∀ d ∈ tables_1, d.before a0 Z = true) : (Jvm.Cond.interfaceMethod "java/util/List" "java/util/List" "get" "(I)Ljava/lang/Object;").before a0 Z = true := hw _ (List.mem_of_getElem? (i := 139) rfl)
theorem w_141 {Z : State} {a0 : Array Value} (hw : ∀ d ∈ tables_1, d.before a0 Z = true) : (Jvm.Cond.instanceMethod ({ cls := "java/util/ImmutableCollections$List12", name := "get", desc := "(I)Ljava/lang/Object;" } : Jvm.MethodName)).before a0 Z = true := hw _ (List.mem_of_getElem? (i := 141) rfl)
theorem w_142 {Z : State} {a0 : Array Value} (hw : ∀ d ∈ tables_1, d.before a0 Z = true) : (Jvm.Cond.publicMethod ({ cls := "java/util/ImmutableCollections$List12", name := "get", desc := "(I)Ljava/lang/Object;" } : Jvm.MethodName)).before a0 Z = true := hw _ (List.mem_of_getElem? (i := 142) rfl)
theorem w_143 {Z : State} {a0 : Array Value} (hw : ∀ d ∈ tables_1, d.before a0 Z = true) : (Jvm.Cond.unhidden "java/util/ImmutableCollections$List12" "get" "(I)Ljava/lang/Object;").before a0 Z = true := hw _ (List.mem_of_getElem? (i := 143) rfl)
theorem w_147 {Z : State} {a0 : Array Value} (hw : ∀ d ∈ tables_1, d.before a0 Z = true) : (Jvm.Cond.methodLink "com/example/grantfold/grantfold/model/SettingScopesPinLaw" (39 : Nat) ({ cls := "com/example/grantfold/grantfold/model/Setting", name := "allowed", desc := "()Z" } : Jvm.MethodName)).before a0 Z = true := hw _ (List.mem_of_getElem? (i := 147) rfl)
theorem w_151 {Z : State} {a0 : Array Value} (hw : ∀ d ∈ tables_1, d.before a0 Z = true) : (Jvm.Cond.code ({ cls := "com/example/grantfold/grantfold/model/Setting", name := "allowed", desc := "()Z" } : Jvm.MethodName) prog_25_method_7_code (1 : Nat) (Option.some Jvm.ClassFile.FieldType.boolean)).before a0 Z = true := hw _ (List.mem_of_getElem? (i := 151) rfl)
theorem w_150 {Z : State} {a0 : Array Value} (hw : ∀ d ∈ tables_1, d.before a0 Z = true) : (Jvm.Cond.selects "com/example/grantfold/grantfold/model/Setting" ({ cls := "com/example/grantfold/grantfold/model/Setting", name := "allowed", desc := "()Z" } : Jvm.MethodName) ({ cls := "com/example/grantfold/grantfold/model/Setting", name := "allowed", desc := "()Z" } : Jvm.MethodName)).before a0 Z = true := hw _ (List.mem_of_getElem? (i := 150) rfl)
theorem w_148 {Z : State} {a0 : Array Value} (hw : ∀ d ∈ tables_1, d.before a0 Z = true) : (Jvm.Cond.declares ({ cls := "com/example/grantfold/grantfold/model/Setting", name := "allowed", desc := "()Z" } : Jvm.MethodName)).before a0 Z = true := hw _ (List.mem_of_getElem? (i := 148) rfl)
theorem w_149 {Z : State} {a0 : Array Value} (hw : ∀ d ∈ tables_1, d.before a0 Z = true) : (Jvm.Cond.instanceMethod ({ cls := "com/example/grantfold/grantfold/model/Setting", name := "allowed", desc := "()Z" } : Jvm.MethodName)).before a0 Z = true := hw _ (List.mem_of_getElem? (i := 149) rfl)
theorem w_152 {Z : State} {a0 : Array Value} (hw : ∀ d ∈ tables_1, d.before a0 Z = true) : (Jvm.Cond.methodLink "com/example/grantfold/grantfold/model/SettingScopesPinLaw" (43 : Nat) ({ cls := "com/example/grantfold/grantfold/model/Setting", name := "line", desc := "()I" } : Jvm.MethodName)).before a0 Z = true := hw _ (List.mem_of_getElem? (i := 152) rfl)
theorem w_156 {Z : State} {a0 : Array Value} (hw : ∀ d ∈ tables_1, d.before a0 Z = true) : (Jvm.Cond.code ({ cls := "com/example/grantfold/grantfold/model/Setting", name := "line", desc := "()I" } : Jvm.MethodName) prog_25_method_8_code (1 : Nat) (Option.some Jvm.ClassFile.FieldType.int)).before a0 Z = true := hw _ (List.mem_of_getElem? (i := 156) rfl)
theorem w_155 {Z : State} {a0 : Array Value} (hw : ∀ d ∈ tables_1, d.before a0 Z = true) : (Jvm.Cond.selects "com/example/grantfold/grantfold/model/Setting" ({ cls := "com/example/grantfold/grantfold/model/Setting", name := "line", desc := "()I" } : Jvm.MethodName) ({ cls := "com/example/grantfold/grantfold/model/Setting", name := "line", desc := "()I" } : Jvm.MethodName)).before a0 Z = true := hw _ (List.mem_of_getElem? (i := 155) rfl)
theorem w_153 {Z : State} {a0 : Array Value} (hw : ∀ d ∈ tables_1, d.before a0 Z = true) : (Jvm.Cond.declares ({ cls := "com/example/grantfold/grantfold/model/Setting", name := "line", desc := "()I" } : Jvm.MethodName)).before a0 Z = true := hw _ (List.mem_of_getElem? (i := 153) rfl)
theorem w_154 {Z : State} {a0 : Array Value} (hw : ∀ d ∈ tables_1, d.before a0 Z = true) : (Jvm.Cond.instanceMethod ({ cls := "com/example/grantfold/grantfold/model/Setting", name := "line", desc := "()I" } : Jvm.MethodName)).before a0 Z = true := hw _ (List.mem_of_getElem? (i := 154) rfl)
theorem w_239 {Z : State} {a0 : Array Value} (hw : ∀ d ∈ tables_1, d.before a0 Z = true) : (Jvm.Cond.code ({ cls := "java/util/ImmutableCollections$ListN", name := "size", desc := "()I" } : Jvm.MethodName) jdk_45_method_3_code (1 : Nat) (Option.some Jvm.ClassFile.FieldType.int)).before a0 Z = true := hw _ (List.mem_of_getElem? (i := 239) rfl)
theorem w_235 {Z : State} {a0 : Array Value} (hw : ∀ d ∈ tables_1, d.before a0 Z = true) : (Jvm.Cond.selects "java/util/ImmutableCollections$ListN" ({ cls := "java/util/List", name := "size", desc := "()I" } : Jvm.MethodName) ({ cls := "java/util/ImmutableCollections$ListN", name := "size", desc := "()I" } : Jvm.MethodName)).before a0 Z = true := hw _ (List.mem_of_getElem? (i := 235) rfl)
theorem w_236 {Z : State} {a0 : Array Value} (hw : ∀ d ∈ tables_1, d.before a0 Z = true) : (Jvm.Cond.instanceMethod ({ cls := "java/util/ImmutableCollections$ListN", name := "size", desc := "()I" } : Jvm.MethodName)).before a0 Z = true := hw _ (List.mem_of_getElem? (i := 236) rfl)
theorem w_237 {Z : State} {a0 : Array Value} (hw : ∀ d ∈ tables_1, d.before a0 Z = true) : (Jvm.Cond.publicMethod ({ cls := "java/util/ImmutableCollections$ListN", name := "size", desc := "()I" } : Jvm.MethodName)).before a0 Z = true := hw _ (List.mem_of_getElem? (i := 237) rfl)
theorem w_238 {Z : State} {a0 : Array Value} (hw : ∀ d ∈ tables_1, d.before a0 Z = true) : (Jvm.Cond.unhidden "java/util/ImmutableCollections$ListN" "size" "()I").before a0 Z = true := hw _ (List.mem_of_getElem? (i := 238) rfl)
theorem w_244 {Z : State} {a0 : Array Value} (hw : ∀ d ∈ tables_1, d.before a0 Z = true) : (Jvm.Cond.code ({ cls := "java/util/ImmutableCollections$ListN", name := "get", desc := "(I)Ljava/lang/Object;" } : Jvm.MethodName) jdk_45_method_4_code (2 : Nat) (Option.some (Jvm.ClassFile.FieldType.object "java/lang/Object"))).before a0 Z = true := hw _ (List.mem_of_getElem? (i := 244) rfl)
theorem w_240 {Z : State} {a0 : Array Value} (hw : ∀ d ∈ tables_1, d.before a0 Z = true) : (Jvm.Cond.selects "java/util/ImmutableCollections$ListN" ({ cls := "java/util/List", name := "get", desc := "(I)Ljava/lang/Object;" } : Jvm.MethodName) ({ cls := "java/util/ImmutableCollections$ListN", name := "get", desc := "(I)Ljava/lang/Object;" } : Jvm.MethodName)).before a0 Z = true := hw _ (List.mem_of_getElem? (i := 240) rfl)
theorem w_241 {Z : State} {a0 : Array Value} (hw : ∀ d ∈ tables_1, d.before a0 Z = true) : (Jvm.Cond.instanceMethod ({ cls := "java/util/ImmutableCollections$ListN", name := "get", desc := "(I)Ljava/lang/Object;" } : Jvm.MethodName)).before a0 Z = true := hw _ (List.mem_of_getElem? (i := 241) rfl)
theorem w_242 {Z : State} {a0 : Array Value} (hw : ∀ d ∈ tables_1, d.before a0 Z = true) : (Jvm.Cond.publicMethod ({ cls := "java/util/ImmutableCollections$ListN", name := "get", desc := "(I)Ljava/lang/Object;" } : Jvm.MethodName)).before a0 Z = true := hw _ (List.mem_of_getElem? (i := 242) rfl)
theorem w_243 {Z : State} {a0 : Array Value} (hw : ∀ d ∈ tables_1, d.before a0 Z = true) : (Jvm.Cond.unhidden "java/util/ImmutableCollections$ListN" "get" "(I)Ljava/lang/Object;").before a0 Z = true := hw _ (List.mem_of_getElem? (i := 243) rfl)
set_option maxRecDepth 65536 in
set_option maxHeartbeats 40000000 in
theorem rm_law (l : Launch) (Z : State) (a0 : Array Value) (hw : ∀ d ∈ tables_1, d.before a0 Z = true) (ws : List Jvm.Cond) (cv iv fv : Int32) (ue ude : Addr) (kde : ClassId) (uel uem : Addr) (kem : ClassId) (uemp urec umi : Addr) (h0 : Heap) (n0 : Nat) (Z0 : n0 ≤ h0.size) (O0 : Old Z n0 h0) (hF : own_Fac Z ue ude kde uel uem kem uemp urec umi) :
    own_Met l Z x code maxLocals ret ws room_1 #[(.int cv), (.int iv), (.int fv)] h0 (Q_law Z cv iv fv ue ude kde uel uem kem uemp urec umi h0 n0) := by
  refine own_enter (own := "com/example/grantfold/grantfold/model/SettingScopesPinLaw") (plainFor_of_name pn_13) rfl ?_
  intro p e s m below meth c s₁ hlk hret hx hby hml hown hnm hZ X0 e0
  have N0 := Fr.nil n0
  refine own_cast (ef_law m cv iv fv) ?_
  obtain ⟨Se, Ee, Sd, Ad, Sl, El, Fl, Am, Sm, Em, Sr, Er, Fr1, Fr0, Mi⟩ := id hF
  show own_Go _ _ _ _ (s₁.setTop (mkF m 0 #[.val (.int cv), .val (.int iv), .val (.int fv), .unset, .unset, .unset, .unset, .unset, .unset, .unset] []))
  refine own_go (fun t k => XS.iloadN X0.here hx rfl (hb hby at_0) rfl k) ?_
  show own_Go _ _ _ _ (s₁.setTop (mkF m 1 #[.val (.int cv), .val (.int iv), .val (.int fv), .unset, .unset, .unset, .unset, .unset, .unset, .unset] [(.int cv)]))
  refine own_go (fun t k => XS.iconst X0.here hx rfl (hb hby at_1) k) ?_
  show own_Go _ _ _ _ (s₁.setTop (mkF m 2 #[.val (.int cv), .val (.int iv), .val (.int fv), .unset, .unset, .unset, .unset, .unset, .unset, .unset] [(.int (3 : Int32)), (.int cv)]))
  refine own_go (fun t k => XS.iand X0.here hx rfl (hb hby at_2) rfl k) ?_
  show own_Go _ _ _ _ (s₁.setTop (mkF m 3 #[.val (.int cv), .val (.int iv), .val (.int fv), .unset, .unset, .unset, .unset, .unset, .unset, .unset] [(.int (cv &&& (3 : Int32)))]))
  generalize hk : (cv &&& (3 : Int32)) = kk
  have hten : kk = 0 ∨ kk = 1 ∨ kk = 2 ∨ kk = 3 := hk ▸ own_four cv
  clear hk
  rcases hten with rfl | rfl | rfl | rfl
  · show own_Go _ _ _ _ (s₁.setTop (mkF m 3 #[.val (.int cv), .val (.int iv), .val (.int fv), .unset, .unset, .unset, .unset, .unset, .unset, .unset] [(.int (0 : Int32))]))
    refine own_go (fun t k => XS.istoreN X0.here hx rfl (hb hby at_3) rfl (l' := #[.val (.int cv), .val (.int iv), .val (.int fv), .val (.int (0 : Int32)), .unset, .unset, .unset, .unset, .unset, .unset]) rfl k) ?_
    have J : ∀ bv : Int32, nar .boolean bv = bv → own_Go p e below (own_Fin s room_1.cells room_1.slots (Q_law Z cv iv fv ue ude kde uel uem kem uemp urec umi h0 n0)) (s₁.setTop (mkF m 15 #[.val (.int cv), .val (.int iv), .val (.int fv), .val (.int (0 : Int32)), .unset, .unset, .unset, .unset, .unset, .unset] [(.int bv)])) := by
      intro bv hbv
      show own_Go _ _ _ _ (s₁.setTop (mkF m 15 #[.val (.int cv), .val (.int iv), .val (.int fv), .val (.int (0 : Int32)), .unset, .unset, .unset, .unset, .unset, .unset] [(.int bv)]))
      refine own_go (fun t k => XS.istore X0.here hx rfl (hb hby at_15) rfl (l' := #[.val (.int cv), .val (.int iv), .val (.int fv), .val (.int (0 : Int32)), .val (.int bv), .unset, .unset, .unset, .unset, .unset]) rfl k) ?_
      show own_Go _ _ _ _ (s₁.setTop (mkF m 17 #[.val (.int cv), .val (.int iv), .val (.int fv), .val (.int (0 : Int32)), .val (.int bv), .unset, .unset, .unset, .unset, .unset] []))
      obtain ⟨T373, h373, X373, e373, E373, A373, D373, -, st373⟩ := newO X0 hx hZ hown (w_0 hw) (w_1 hw) (w_2 hw) e0 (g := (mkF m 17 #[.val (.int cv), .val (.int iv), .val (.int fv), .val (.int (0 : Int32)), .val (.int bv), .unset, .unset, .unset, .unset, .unset] [])) rfl (hb hby at_17) (by decide) (by decide)
      obtain ⟨b373, g373⟩ : ∃ z, z = h0.size := ⟨_, rfl⟩
      rw [← g373] at A373 D373 st373
      refine own_go st373 ?_
      have Z373 : n0 ≤ h373.size := (Nat.le_trans Z0 E373.1)
      have lo373 : h0.size ≤ b373 := Nat.le_of_eq g373.symm
      have q373 : n0 ≤ b373 := Nat.le_trans Z0 lo373
      have hi373 : b373 < h373.size := A373.lt
      have F373_22 : Fld Z h373 b373 "java/util/AbstractList" "modCount" "I" (.int (0 : Int32)) := D373 (Or.inl (w_22 hw)) (ty := .int) (by decide)
      have F373_25 : Fld Z h373 b373 "java/util/ArrayList" "elementData" "[Ljava/lang/Object;" .null := D373 (Or.inl (w_25 hw)) (ty := (.array (.object "java/lang/Object"))) (by decide)
      have F373_62 : Fld Z h373 b373 "java/util/ArrayList" "size" "I" (.int (0 : Int32)) := D373 (Or.inl (w_62 hw)) (ty := .int) (by decide)
      show own_Go _ _ _ _ (T373.setTop (mkF m 20 #[.val (.int cv), .val (.int iv), .val (.int fv), .val (.int (0 : Int32)), .val (.int bv), .unset, .unset, .unset, .unset, .unset] [(.ref b373)]))
      refine own_go (fun t k => XS.dup X373.here hx rfl (hb hby at_20) rfl rfl k) ?_
      show own_Go _ _ _ _ (T373.setTop (mkF m 21 #[.val (.int cv), .val (.int iv), .val (.int fv), .val (.int (0 : Int32)), .val (.int bv), .unset, .unset, .unset, .unset, .unset] [(.ref b373), (.ref b373)]))
      obtain ⟨_, _, ⟨T374, L374, k374, n374⟩, -, X374, ⟨Lc374, hQ374, l374, y374, z374⟩, st374⟩ := X373.specialBack hx (y := (⟨"java/util/ArrayList", "<init>", "()V"⟩ : MethodName)) rfl hown (mvT hZ (w_3 hw)) (mvT hZ (w_4 hw)) (mvT hZ (w_5 hw)) (by decide) (backOf (W := 1) (rm_ali l Z a0 hw [] b373 ue ude kde uel uem kem uemp urec umi h373 n0 Z373 q373 A373 F373_22 F373_25 F373_62 (O0.ext E373) hF) hZ (w_5 hw) (w_2 hw) (by decide) (by decide)) (g := (mkF m 21 #[.val (.int cv), .val (.int iv), .val (.int fv), .val (.int (0 : Int32)), .val (.int bv), .unset, .unset, .unset, .unset, .unset] [(.ref b373), (.ref b373)])) rfl (by rw [hml]; rfl) (Steps.refl _) (a := b373) (argsL := []) (rest := [(.ref b373)]) (lenOf pd_0 rfl) rfl (by show 2 * 0 + _ ≤ _; exact Nat.le_of_eq rfl) (hb hby at_21) (fun _ _ => ⟨rfl, e373, (by decide : 1 + 0 ≤ _), (by decide : 3 + 0 ≤ _)⟩)
      dsimp only [Pt.U, Pt.locs, Pt.cells, Pt.slots] at X374 l374 y374 z374 st374 hQ374
      subst l374 y374 z374
      generalize e374 : T374.heap = h374 at hQ374
      obtain ⟨rfl, N374q, K374q, Fa374, Fb374, Fc374⟩ := hQ374
      have N374 := Fr.app N0 N374q
      refine own_go (fun t k => st374.trans k) ?_
      have Z374 : n0 ≤ h374.size := (Nat.le_trans Z373 K374q.1)
      show own_Go _ _ _ _ (T374.setTop (mkF m 24 #[.val (.int cv), .val (.int iv), .val (.int fv), .val (.int (0 : Int32)), .val (.int bv), .unset, .unset, .unset, .unset, .unset] [(.ref b373)]))
      refine own_go (fun t k => XS.astore X374.here hx rfl (hb hby at_24) rfl rfl (l' := #[.val (.int cv), .val (.int iv), .val (.int fv), .val (.int (0 : Int32)), .val (.int bv), .val (.ref b373), .unset, .unset, .unset, .unset]) rfl k) ?_
      show own_Go _ _ _ _ (T374.setTop (mkF m 26 #[.val (.int cv), .val (.int iv), .val (.int fv), .val (.int (0 : Int32)), .val (.int bv), .val (.ref b373), .unset, .unset, .unset, .unset] []))
      refine own_go (fun t k => XS.iloadN X374.here hx rfl (hb hby at_26) rfl k) ?_
      show own_Go _ _ _ _ (T374.setTop (mkF m 27 #[.val (.int cv), .val (.int iv), .val (.int fv), .val (.int (0 : Int32)), .val (.int bv), .val (.ref b373), .unset, .unset, .unset, .unset] [(.int (0 : Int32))]))
      refine own_go (fun t k => XS.iconst X374.here hx rfl (hb hby at_27) k) ?_
      show own_Go _ _ _ _ (T374.setTop (mkF m 28 #[.val (.int cv), .val (.int iv), .val (.int fv), .val (.int (0 : Int32)), .val (.int bv), .val (.ref b373), .unset, .unset, .unset, .unset] [(.int (1 : Int32)), (.int (0 : Int32))]))
      refine own_go (fun t k => XS.icmpYes X374.here hx rfl (pc0 := 28) (pc' := 40) rfl (hb hby at_28) rfl (tlt (by decide : (0 : Int32) < (1 : Int32))).1 (by decide) (by decide) k) ?_
      show own_Go _ _ _ _ (T374.setTop (mkF m 40 #[.val (.int cv), .val (.int iv), .val (.int fv), .val (.int (0 : Int32)), .val (.int bv), .val (.ref b373), .unset, .unset, .unset, .unset] []))
      refine own_go (fun t k => XS.iloadN X374.here hx rfl (hb hby at_40) rfl k) ?_
      show own_Go _ _ _ _ (T374.setTop (mkF m 41 #[.val (.int cv), .val (.int iv), .val (.int fv), .val (.int (0 : Int32)), .val (.int bv), .val (.ref b373), .unset, .unset, .unset, .unset] [(.int (0 : Int32))]))
      refine own_go (fun t k => XS.iconst X374.here hx rfl (hb hby at_41) k) ?_
      show own_Go _ _ _ _ (T374.setTop (mkF m 42 #[.val (.int cv), .val (.int iv), .val (.int fv), .val (.int (0 : Int32)), .val (.int bv), .val (.ref b373), .unset, .unset, .unset, .unset] [(.int (2 : Int32)), (.int (0 : Int32))]))
      refine own_go (fun t k => XS.icmpYes X374.here hx rfl (pc0 := 42) (pc' := 54) rfl (hb hby at_42) rfl (tlt (by decide : (0 : Int32) < (2 : Int32))).1 (by decide) (by decide) k) ?_
      show own_Go _ _ _ _ (T374.setTop (mkF m 54 #[.val (.int cv), .val (.int iv), .val (.int fv), .val (.int (0 : Int32)), .val (.int bv), .val (.ref b373), .unset, .unset, .unset, .unset] []))
      refine own_go (fun t k => XS.iloadN X374.here hx rfl (hb hby at_54) rfl k) ?_
      show own_Go _ _ _ _ (T374.setTop (mkF m 55 #[.val (.int cv), .val (.int iv), .val (.int fv), .val (.int (0 : Int32)), .val (.int bv), .val (.ref b373), .unset, .unset, .unset, .unset] [(.int (0 : Int32))]))
      refine own_go (fun t k => XS.iconst X374.here hx rfl (hb hby at_55) k) ?_
      show own_Go _ _ _ _ (T374.setTop (mkF m 56 #[.val (.int cv), .val (.int iv), .val (.int fv), .val (.int (0 : Int32)), .val (.int bv), .val (.ref b373), .unset, .unset, .unset, .unset] [(.int (3 : Int32)), (.int (0 : Int32))]))
      refine own_go (fun t k => XS.icmpYes X374.here hx rfl (pc0 := 56) (pc' := 68) rfl (hb hby at_56) rfl (tlt (by decide : (0 : Int32) < (3 : Int32))).1 (by decide) (by decide) k) ?_
      show own_Go _ _ _ _ (T374.setTop (mkF m 68 #[.val (.int cv), .val (.int iv), .val (.int fv), .val (.int (0 : Int32)), .val (.int bv), .val (.ref b373), .unset, .unset, .unset, .unset] []))
      obtain ⟨T375, h375, X375, e375, E375, A375, D375, -, st375⟩ := newO X374 hx hZ hown (w_26 hw) (w_27 hw) (w_28 hw) e374 (g := (mkF m 68 #[.val (.int cv), .val (.int iv), .val (.int fv), .val (.int (0 : Int32)), .val (.int bv), .val (.ref b373), .unset, .unset, .unset, .unset] [])) rfl (hb hby at_68) (by decide) (by decide)
      obtain ⟨b375, g375⟩ : ∃ z, z = h374.size := ⟨_, rfl⟩
      rw [← g375] at A375 D375 st375
      refine own_go st375 ?_
      have Z375 : n0 ≤ h375.size := (Nat.le_trans Z374 E375.1)
      have lo375 : h374.size ≤ b375 := Nat.le_of_eq g375.symm
      have q375 : n0 ≤ b375 := Nat.le_trans Z374 lo375
      have hi375 : b375 < h375.size := A375.lt
      have F375_68 : Fld Z h375 b375 "com/example/grantfold/grantfold/model/Setting" "allowed" "Z" (.int (0 : Int32)) := D375 (Or.inr (w_68 hw)) (ty := .boolean) (by decide)
      have F375_70 : Fld Z h375 b375 "com/example/grantfold/grantfold/model/Setting" "line" "I" (.int (0 : Int32)) := D375 (Or.inr (w_70 hw)) (ty := .int) (by decide)
      have F375_72 : Fld Z h375 b375 "com/example/grantfold/grantfold/model/Setting" "where" "Ljava/util/List;" .null := D375 (Or.inr (w_72 hw)) (ty := (.object "java/util/List")) (by decide)
      show own_Go _ _ _ _ (T375.setTop (mkF m 71 #[.val (.int cv), .val (.int iv), .val (.int fv), .val (.int (0 : Int32)), .val (.int bv), .val (.ref b373), .unset, .unset, .unset, .unset] [(.ref b375)]))
      refine own_go (fun t k => XS.dup X375.here hx rfl (hb hby at_71) rfl rfl k) ?_
      show own_Go _ _ _ _ (T375.setTop (mkF m 72 #[.val (.int cv), .val (.int iv), .val (.int fv), .val (.int (0 : Int32)), .val (.int bv), .val (.ref b373), .unset, .unset, .unset, .unset] [(.ref b375), (.ref b375)]))
      refine own_go (fun t k => XS.iload X375.here hx rfl (hb hby at_72) rfl k) ?_
      show own_Go _ _ _ _ (T375.setTop (mkF m 74 #[.val (.int cv), .val (.int iv), .val (.int fv), .val (.int (0 : Int32)), .val (.int bv), .val (.ref b373), .unset, .unset, .unset, .unset] [(.int bv), (.ref b375), (.ref b375)]))
      refine own_go (fun t k => XS.iloadN X375.here hx rfl (hb hby at_74) rfl k) ?_
      show own_Go _ _ _ _ (T375.setTop (mkF m 75 #[.val (.int cv), .val (.int iv), .val (.int fv), .val (.int (0 : Int32)), .val (.int bv), .val (.ref b373), .unset, .unset, .unset, .unset] [(.int iv), (.int bv), (.ref b375), (.ref b375)]))
      refine own_go (fun t k => XS.aload X375.here hx rfl (hb hby at_75) rfl rfl k) ?_
      show own_Go _ _ _ _ (T375.setTop (mkF m 77 #[.val (.int cv), .val (.int iv), .val (.int fv), .val (.int (0 : Int32)), .val (.int bv), .val (.ref b373), .unset, .unset, .unset, .unset] [(.ref b373), (.int iv), (.int bv), (.ref b375), (.ref b375)]))
      obtain ⟨_, _, ⟨T376, L376, k376, n376⟩, -, X376, ⟨Lc376, hQ376, l376, y376, z376⟩, st376⟩ := X375.specialBack hx (y := (⟨"com/example/grantfold/grantfold/model/Setting", "<init>", "(ZILjava/util/List;)V"⟩ : MethodName)) rfl hown (mvT hZ (w_29 hw)) (mvT hZ (w_30 hw)) (mvT hZ (w_31 hw)) (by decide) (backOf (W := 1) (rm_set_0 l Z a0 hw [] b375 bv iv b373 ue ude kde uel uem kem uemp urec umi h375 n0 Z375 q375 A375 F375_68 F375_70 F375_72 hbv (Fc374.ext E375) ((A373.keep K374q).ext E375) (((O0.ext E373).keep K374q (allS q373 all0)).ext E375) hF) hZ (w_31 hw) (w_28 hw) (by decide) (by decide)) (g := (mkF m 77 #[.val (.int cv), .val (.int iv), .val (.int fv), .val (.int (0 : Int32)), .val (.int bv), .val (.ref b373), .unset, .unset, .unset, .unset] [(.ref b373), (.int iv), (.int bv), (.ref b375), (.ref b375)])) rfl (by rw [hml]; rfl) (Steps.refl _) (a := b375) (argsL := [(.int bv), (.int iv), (.ref b373)]) (rest := [(.ref b375)]) (lenOf pd_15 rfl) rfl (by show 2 * 0 + _ ≤ _; exact Nat.le_of_eq rfl) (hb hby at_77) (fun _ _ => ⟨rfl, e375, (by decide : 2 + 0 ≤ _), (by decide : 6 + 0 ≤ _)⟩)
      dsimp only [Pt.U, Pt.locs, Pt.cells, Pt.slots] at X376 l376 y376 z376 st376 hQ376
      subst l376 y376 z376
      generalize e376 : T376.heap = h376 at hQ376
      obtain ⟨rfl, N376q, K376q, Ga376, Gb376, Gc376⟩ := hQ376
      have N376 := Fr.app N374 N376q
      refine own_go (fun t k => st376.trans k) ?_
      have Z376 : n0 ≤ h376.size := (Nat.le_trans Z375 K376q.1)
      show own_Go _ _ _ _ (T376.setTop (mkF m 80 #[.val (.int cv), .val (.int iv), .val (.int fv), .val (.int (0 : Int32)), .val (.int bv), .val (.ref b373), .unset, .unset, .unset, .unset] [(.ref b375)]))
      refine own_go (fun t k => XS.astore X376.here hx rfl (hb hby at_80) rfl rfl (l' := #[.val (.int cv), .val (.int iv), .val (.int fv), .val (.int (0 : Int32)), .val (.int bv), .val (.ref b373), .val (.ref b375), .unset, .unset, .unset]) rfl k) ?_
      show own_Go _ _ _ _ (T376.setTop (mkF m 82 #[.val (.int cv), .val (.int iv), .val (.int fv), .val (.int (0 : Int32)), .val (.int bv), .val (.ref b373), .val (.ref b375), .unset, .unset, .unset] []))
      refine own_go (fun t k => XS.aload X376.here hx rfl (hb hby at_82) rfl rfl k) ?_
      show own_Go _ _ _ _ (T376.setTop (mkF m 84 #[.val (.int cv), .val (.int iv), .val (.int fv), .val (.int (0 : Int32)), .val (.int bv), .val (.ref b373), .val (.ref b375), .unset, .unset, .unset] [(.ref b373)]))
      have f377 := ((((O0.ext E373).keep K374q (allS q373 all0)).ext E375).keep K376q (allS q375 all0))
      obtain ⟨T378, X378, e378, st378⟩ := getS2 X376 hx hZ hown (host := "") (Or.inl (w_73 hw)) Via.refl e376 (Se.ext f377.2) (g := (mkF m 84 #[.val (.int cv), .val (.int iv), .val (.int fv), .val (.int (0 : Int32)), .val (.int bv), .val (.ref b373), .val (.ref b375), .unset, .unset, .unset] [(.ref b373)])) rfl (hb hby at_84)
      refine own_go st378 ?_
      have f379 := ((Fc374.ext E375).keep K376q (ninS (Nat.ne_of_lt (Nat.lt_of_lt_of_le hi373 (Nat.le_trans K374q.1 lo375))) nin0))
      have f380 := ((Fb374.ext E375).keep K376q (ninS (Nat.ne_of_lt (Nat.lt_of_lt_of_le hi373 (Nat.le_trans K374q.1 lo375))) nin0))
      have f381 := ((Fa374.ext E375).keep K376q (ninS (Nat.ne_of_lt (Nat.lt_of_lt_of_le hi373 (Nat.le_trans K374q.1 lo375))) nin0))
      show own_Go _ _ _ _ (T378.setTop (mkF m 87 #[.val (.int cv), .val (.int iv), .val (.int fv), .val (.int (0 : Int32)), .val (.int bv), .val (.ref b373), .val (.ref b375), .unset, .unset, .unset] [(.ref ue), (.ref b373)]))
      obtain ⟨cq382, kq382, q382a, q382b, q382c⟩ := isOf hZ e378 (((A373.keep K374q).ext E375).keep K376q)
      obtain ⟨_, _, ⟨T382, L382, k382, n382⟩, -, X382, ⟨Lc382, hQ382, l382, y382, z382⟩, st382⟩ := X378.virtualBack hx (y := (⟨"java/util/ArrayList", "add", "(Ljava/lang/Object;)Z"⟩ : MethodName)) (z := (⟨"java/util/ArrayList", "add", "(Ljava/lang/Object;)Z"⟩ : MethodName)) hown (mvT hZ (w_76 hw)) (mvT hZ (w_77 hw)) (notFace_of_selects (args := #[]) (mvT hZ (w_79 hw))) (mvT hZ (w_79 hw)) (mvT hZ (w_78 hw)) (by decide) (backOf (W := 0) (rm_ad1_0 l Z a0 hw [] b373 ue ude kde uel uem kem uemp urec umi h376 n0 Z376 q373 (((A373.keep K374q).ext E375).keep K376q) f381 f380 f379 f377 hF) hZ (w_80 hw) (w_2 hw) (by decide) (by decide)) q382a q382c (g := (mkF m 87 #[.val (.int cv), .val (.int iv), .val (.int fv), .val (.int (0 : Int32)), .val (.int bv), .val (.ref b373), .val (.ref b375), .unset, .unset, .unset] [(.ref ue), (.ref b373)])) rfl (by rw [hml]; rfl) (Steps.refl _) (argsL := [(.ref ue)]) (rest := []) (lenOf pd_16 rfl) rfl (by show 2 * 0 + _ ≤ _; exact Nat.le_of_eq rfl) (hb hby at_87) (fun _ _ => ⟨rfl, e378, (by decide : 2 + 1 ≤ _), (by decide : 6 + 10 ≤ _)⟩)
      dsimp only [Pt.U, Pt.locs, Pt.cells, Pt.slots] at X382 l382 y382 z382 st382 hQ382
      subst l382 y382 z382
      generalize e382 : T382.heap = h382 at hQ382
      obtain ⟨ub382, kb382, rfl, N382q, K382q, lo382, q382, O382, Eb382, A382, Fa382, Fb382, Fc382⟩ := hQ382
      have N382 := Fr.app N376 N382q
      refine own_go (fun t k => st382.trans k) ?_
      have Z382 : n0 ≤ h382.size := (Nat.le_trans Z376 K382q.1)
      have hi382 := A382.lt
      show own_Go _ _ _ _ (T382.setTop (mkF m 90 #[.val (.int cv), .val (.int iv), .val (.int fv), .val (.int (0 : Int32)), .val (.int bv), .val (.ref b373), .val (.ref b375), .unset, .unset, .unset] [(.int (1 : Int32))]))
      refine own_go (fun t k => XS.pop X382.here hx rfl (hb hby at_90) rfl rfl k) ?_
      show own_Go _ _ _ _ (T382.setTop (mkF m 91 #[.val (.int cv), .val (.int iv), .val (.int fv), .val (.int (0 : Int32)), .val (.int bv), .val (.ref b373), .val (.ref b375), .unset, .unset, .unset] []))
      refine own_go (fun t k => XS.aload X382.here hx rfl (hb hby at_91) rfl rfl k) ?_
      have f383 := (Gc376.keep K382q (ninS (Ne.symm (Nat.ne_of_lt (Nat.lt_of_lt_of_le hi373 (Nat.le_trans K374q.1 lo375)))) nin0))
      show own_Go _ _ _ _ (T382.setTop (mkF m 93 #[.val (.int cv), .val (.int iv), .val (.int fv), .val (.int (0 : Int32)), .val (.int bv), .val (.ref b373), .val (.ref b375), .unset, .unset, .unset] [(.ref b375)]))
      obtain ⟨cq384, kq384, q384a, q384b, q384c⟩ := isOf hZ e382 ((A375.keep K376q).keep K382q)
      obtain ⟨_, _, ⟨T384, L384, k384, n384⟩, -, X384, ⟨Lc384, hQ384, l384, y384, z384⟩, st384⟩ := X382.virtualBack hx (y := (⟨"com/example/grantfold/grantfold/model/Setting", "scopes", "()Ljava/util/List;"⟩ : MethodName)) (z := (⟨"com/example/grantfold/grantfold/model/Setting", "scopes", "()Ljava/util/List;"⟩ : MethodName)) hown (mvT hZ (w_105 hw)) (mvT hZ (w_106 hw)) (notFace_of_selects (args := #[]) (mvT hZ (w_108 hw))) (mvT hZ (w_108 hw)) (mvT hZ (w_107 hw)) (by decide) (backOf (W := 0) (rm_scp_0 l Z a0 hw [] b375 uel ue ude kde uel uem kem uemp urec umi h382 n0 Z382 f383 (f377.keep K382q (allS q373 all0)) hF) hZ (w_109 hw) (w_28 hw) (by decide) (by decide)) q384a q384c (g := (mkF m 93 #[.val (.int cv), .val (.int iv), .val (.int fv), .val (.int (0 : Int32)), .val (.int bv), .val (.ref b373), .val (.ref b375), .unset, .unset, .unset] [(.ref b375)])) rfl (by rw [hml]; rfl) (Steps.refl _) (argsL := []) (rest := []) (lenOf pd_13 rfl) rfl (by show 2 * 0 + _ ≤ _; exact Nat.le_of_eq rfl) (hb hby at_93) (fun _ _ => ⟨rfl, e382, (by decide : 3 + 0 ≤ _), (by decide : 16 + 0 ≤ _)⟩)
      dsimp only [Pt.U, Pt.locs, Pt.cells, Pt.slots] at X384 l384 y384 z384 st384 hQ384
      subst l384 y384 z384
      obtain ⟨rfl, N384q, e384⟩ := hQ384
      have N384 := Fr.app N382 N384q
      refine own_go (fun t k => st384.trans k) ?_
      show own_Go _ _ _ _ (T384.setTop (mkF m 96 #[.val (.int cv), .val (.int iv), .val (.int fv), .val (.int (0 : Int32)), .val (.int bv), .val (.ref b373), .val (.ref b375), .unset, .unset, .unset] [(.ref urec)]))
      refine own_go (fun t k => XS.astore X384.here hx rfl (hb hby at_96) rfl rfl (l' := #[.val (.int cv), .val (.int iv), .val (.int fv), .val (.int (0 : Int32)), .val (.int bv), .val (.ref b373), .val (.ref b375), .val (.ref urec), .unset, .unset]) rfl k) ?_
      show own_Go _ _ _ _ (T384.setTop (mkF m 98 #[.val (.int cv), .val (.int iv), .val (.int fv), .val (.int (0 : Int32)), .val (.int bv), .val (.ref b373), .val (.ref b375), .val (.ref urec), .unset, .unset] []))
      refine own_go (fun t k => XS.iloadN X384.here hx rfl (hb hby at_98) rfl k) ?_
      show own_Go _ _ _ _ (T384.setTop (mkF m 99 #[.val (.int cv), .val (.int iv), .val (.int fv), .val (.int (0 : Int32)), .val (.int bv), .val (.ref b373), .val (.ref b375), .val (.ref urec), .unset, .unset] [(.int (0 : Int32))]))
      refine own_go (fun t k => XS.ifNo X384.here hx rfl (hb hby at_99) rfl ((if0 _ _).trans (teq (by decide : (0 : Int32) = (0 : Int32))).2) k) ?_
      show own_Go _ _ _ _ (T384.setTop (mkF m 102 #[.val (.int cv), .val (.int iv), .val (.int fv), .val (.int (0 : Int32)), .val (.int bv), .val (.ref b373), .val (.ref b375), .val (.ref urec), .unset, .unset] []))
      refine own_go (fun t k => XS.iconst X384.here hx rfl (hb hby at_102) k) ?_
      show own_Go _ _ _ _ (T384.setTop (mkF m 103 #[.val (.int cv), .val (.int iv), .val (.int fv), .val (.int (0 : Int32)), .val (.int bv), .val (.ref b373), .val (.ref b375), .val (.ref urec), .unset, .unset] [(.int (1 : Int32))]))
      refine own_go (fun t k => XS.goto X384.here hx rfl (pc0 := 103) (pc' := 107) rfl (hb hby at_103) (by decide) (by decide) k) ?_
      show own_Go _ _ _ _ (T384.setTop (mkF m 107 #[.val (.int cv), .val (.int iv), .val (.int fv), .val (.int (0 : Int32)), .val (.int bv), .val (.ref b373), .val (.ref b375), .val (.ref urec), .unset, .unset] [(.int (1 : Int32))]))
      refine own_go (fun t k => XS.istore X384.here hx rfl (hb hby at_107) rfl (l' := #[.val (.int cv), .val (.int iv), .val (.int fv), .val (.int (0 : Int32)), .val (.int bv), .val (.ref b373), .val (.ref b375), .val (.ref urec), .val (.int (1 : Int32)), .unset]) rfl k) ?_
      show own_Go _ _ _ _ (T384.setTop (mkF m 109 #[.val (.int cv), .val (.int iv), .val (.int fv), .val (.int (0 : Int32)), .val (.int bv), .val (.ref b373), .val (.ref b375), .val (.ref urec), .val (.int (1 : Int32)), .unset] []))
      refine own_go (fun t k => XS.aload X384.here hx rfl (hb hby at_109) rfl rfl k) ?_
      show own_Go _ _ _ _ (T384.setTop (mkF m 111 #[.val (.int cv), .val (.int iv), .val (.int fv), .val (.int (0 : Int32)), .val (.int bv), .val (.ref b373), .val (.ref b375), .val (.ref urec), .val (.int (1 : Int32)), .unset] [(.ref urec)]))
      obtain ⟨cq385, kq385, q385a, q385b, q385c⟩ := isOf hZ e384 (Er.ext (f377.keep K382q (allS q373 all0)).2)
      obtain ⟨_, _, ⟨T385, L385, k385, n385⟩, -, X385, ⟨Lc385, hQ385, l385, y385, z385⟩, st385⟩ := X384.interfaceBack hx (xi := (⟨"java/util/List", "size", "()I"⟩ : MethodName)) (y := (⟨"java/util/ImmutableCollections$List12", "size", "()I"⟩ : MethodName)) hown (mvT hZ (w_124 hw)) (mvT hZ (w_125 hw)) (mvT hZ (w_126 hw)) (mvT hZ (w_127 hw)) (mvT hZ (w_128 hw)) (mvT hZ (w_129 hw)) (mvT hZ (w_130 hw)) (mvT hZ (w_131 hw)) (by decide) (backOf (W := 0) (rm_s12_1 l Z a0 hw [] urec ue ude kde uel uem kem uemp urec umi h382 n0 Z382 (Fr1.ext (f377.keep K382q (allS q373 all0)).2) (Fr0.ext (f377.keep K382q (allS q373 all0)).2) (f377.keep K382q (allS q373 all0)) hF) hZ (w_133 hw) (w_132 hw) (by decide) (by decide)) q385a q385b q385c (g := (mkF m 111 #[.val (.int cv), .val (.int iv), .val (.int fv), .val (.int (0 : Int32)), .val (.int bv), .val (.ref b373), .val (.ref b375), .val (.ref urec), .val (.int (1 : Int32)), .unset] [(.ref urec)])) rfl (by rw [hml]; rfl) (Steps.refl _) (argsL := []) (rest := []) (lenOf pd_17 rfl) rfl (by show 2 * 0 + _ ≤ _; exact Nat.le_of_eq rfl) (hb hby at_111) (fun _ _ => ⟨rfl, e384, (by decide : 3 + 0 ≤ _), (by decide : 16 + 0 ≤ _)⟩)
      dsimp only [Pt.U, Pt.locs, Pt.cells, Pt.slots] at X385 l385 y385 z385 st385 hQ385
      subst l385 y385 z385
      obtain ⟨rfl, N385q, e385⟩ := hQ385
      have N385 := Fr.app N384 N385q
      refine own_go (fun t k => st385.trans k) ?_
      show own_Go _ _ _ _ (T385.setTop (mkF m 116 #[.val (.int cv), .val (.int iv), .val (.int fv), .val (.int (0 : Int32)), .val (.int bv), .val (.ref b373), .val (.ref b375), .val (.ref urec), .val (.int (1 : Int32)), .unset] [(.int (1 : Int32))]))
      refine own_go (fun t k => XS.iload X385.here hx rfl (hb hby at_116) rfl k) ?_
      show own_Go _ _ _ _ (T385.setTop (mkF m 118 #[.val (.int cv), .val (.int iv), .val (.int fv), .val (.int (0 : Int32)), .val (.int bv), .val (.ref b373), .val (.ref b375), .val (.ref urec), .val (.int (1 : Int32)), .unset] [(.int (1 : Int32)), (.int (1 : Int32))]))
      refine own_go (fun t k => XS.icmpYes X385.here hx rfl (pc0 := 118) (pc' := 123) rfl (hb hby at_118) rfl (teq (by decide : (1 : Int32) = (1 : Int32))).1 (by decide) (by decide) k) ?_
      show own_Go _ _ _ _ (T385.setTop (mkF m 123 #[.val (.int cv), .val (.int iv), .val (.int fv), .val (.int (0 : Int32)), .val (.int bv), .val (.ref b373), .val (.ref b375), .val (.ref urec), .val (.int (1 : Int32)), .unset] []))
      refine own_go (fun t k => XS.aload X385.here hx rfl (hb hby at_123) rfl rfl k) ?_
      show own_Go _ _ _ _ (T385.setTop (mkF m 125 #[.val (.int cv), .val (.int iv), .val (.int fv), .val (.int (0 : Int32)), .val (.int bv), .val (.ref b373), .val (.ref b375), .val (.ref urec), .val (.int (1 : Int32)), .unset] [(.ref urec)]))
      refine own_go (fun t k => XS.iconst X385.here hx rfl (hb hby at_125) k) ?_
      show own_Go _ _ _ _ (T385.setTop (mkF m 126 #[.val (.int cv), .val (.int iv), .val (.int fv), .val (.int (0 : Int32)), .val (.int bv), .val (.ref b373), .val (.ref b375), .val (.ref urec), .val (.int (1 : Int32)), .unset] [(.int (0 : Int32)), (.ref urec)]))
      obtain ⟨cq386, kq386, q386a, q386b, q386c⟩ := isOf hZ e385 (Er.ext (f377.keep K382q (allS q373 all0)).2)
      obtain ⟨_, _, ⟨T386, L386, k386, n386⟩, -, X386, ⟨Lc386, hQ386, l386, y386, z386⟩, st386⟩ := X385.interfaceBack hx (xi := (⟨"java/util/List", "get", "(I)Ljava/lang/Object;"⟩ : MethodName)) (y := (⟨"java/util/ImmutableCollections$List12", "get", "(I)Ljava/lang/Object;"⟩ : MethodName)) hown (mvT hZ (w_137 hw)) (mvT hZ (w_138 hw)) (mvT hZ (w_139 hw)) (mvT hZ (w_140 hw)) (mvT hZ (w_141 hw)) (mvT hZ (w_142 hw)) (mvT hZ (w_143 hw)) (mvT hZ (w_131 hw)) (by decide) (backOf (W := 0) (rm_g12_1_0 l Z a0 hw [] urec ue ude kde uel uem kem uemp urec umi h382 n0 Z382 (Fr1.ext (f377.keep K382q (allS q373 all0)).2) (Fr0.ext (f377.keep K382q (allS q373 all0)).2) (f377.keep K382q (allS q373 all0)) hF) hZ (w_144 hw) (w_132 hw) (by decide) (by decide)) q386a q386b q386c (g := (mkF m 126 #[.val (.int cv), .val (.int iv), .val (.int fv), .val (.int (0 : Int32)), .val (.int bv), .val (.ref b373), .val (.ref b375), .val (.ref urec), .val (.int (1 : Int32)), .unset] [(.int (0 : Int32)), (.ref urec)])) rfl (by rw [hml]; rfl) (Steps.refl _) (argsL := [(.int (0 : Int32))]) (rest := []) (lenOf pd_18 rfl) rfl (by show 2 * 0 + _ ≤ _; exact Nat.le_of_eq rfl) (hb hby at_126) (fun _ _ => ⟨rfl, e385, (by decide : 3 + 0 ≤ _), (by decide : 16 + 0 ≤ _)⟩)
      dsimp only [Pt.U, Pt.locs, Pt.cells, Pt.slots] at X386 l386 y386 z386 st386 hQ386
      subst l386 y386 z386
      obtain ⟨rfl, N386q, e386⟩ := hQ386
      have N386 := Fr.app N385 N386q
      refine own_go (fun t k => st386.trans k) ?_
      show own_Go _ _ _ _ (T386.setTop (mkF m 131 #[.val (.int cv), .val (.int iv), .val (.int fv), .val (.int (0 : Int32)), .val (.int bv), .val (.ref b373), .val (.ref b375), .val (.ref urec), .val (.int (1 : Int32)), .unset] [(.ref ue)]))
      obtain ⟨T387, X387, e387, st387⟩ := getS2 X386 hx hZ hown (host := "") (Or.inl (w_73 hw)) Via.refl e386 (Se.ext (f377.keep K382q (allS q373 all0)).2) (g := (mkF m 131 #[.val (.int cv), .val (.int iv), .val (.int fv), .val (.int (0 : Int32)), .val (.int bv), .val (.ref b373), .val (.ref b375), .val (.ref urec), .val (.int (1 : Int32)), .unset] [(.ref ue)])) rfl (hb hby at_131)
      refine own_go st387 ?_
      show own_Go _ _ _ _ (T387.setTop (mkF m 134 #[.val (.int cv), .val (.int iv), .val (.int fv), .val (.int (0 : Int32)), .val (.int bv), .val (.ref b373), .val (.ref b375), .val (.ref urec), .val (.int (1 : Int32)), .unset] [(.ref ue), (.ref ue)]))
      refine own_go (fun t k => Jvm.RoadKit.acmp (g := (mkF m 134 #[.val (.int cv), .val (.int iv), .val (.int fv), .val (.int (0 : Int32)), .val (.int bv), .val (.ref b373), .val (.ref b375), .val (.ref urec), .val (.int (1 : Int32)), .unset] [(.ref ue), (.ref ue)])) X387 hx rfl rfl rfl (pc0 := 134) (pc' := 137) (same := true) rfl (hb hby at_134) rfl (decide_eq_true rfl) (by decide) (by decide) k) ?_
      show own_Go _ _ _ _ (T387.setTop (mkF m 137 #[.val (.int cv), .val (.int iv), .val (.int fv), .val (.int (0 : Int32)), .val (.int bv), .val (.ref b373), .val (.ref b375), .val (.ref urec), .val (.int (1 : Int32)), .unset] []))
      refine own_go (fun t k => XS.iconst X387.here hx rfl (hb hby at_137) k) ?_
      show own_Go _ _ _ _ (T387.setTop (mkF m 138 #[.val (.int cv), .val (.int iv), .val (.int fv), .val (.int (0 : Int32)), .val (.int bv), .val (.ref b373), .val (.ref b375), .val (.ref urec), .val (.int (1 : Int32)), .unset] [(.int (1 : Int32))]))
      refine own_go (fun t k => XS.goto X387.here hx rfl (pc0 := 138) (pc' := 142) rfl (hb hby at_138) (by decide) (by decide) k) ?_
      show own_Go _ _ _ _ (T387.setTop (mkF m 142 #[.val (.int cv), .val (.int iv), .val (.int fv), .val (.int (0 : Int32)), .val (.int bv), .val (.ref b373), .val (.ref b375), .val (.ref urec), .val (.int (1 : Int32)), .unset] [(.int (1 : Int32))]))
      refine own_go (fun t k => XS.istore X387.here hx rfl (hb hby at_142) rfl (l' := #[.val (.int cv), .val (.int iv), .val (.int fv), .val (.int (0 : Int32)), .val (.int bv), .val (.ref b373), .val (.ref b375), .val (.ref urec), .val (.int (1 : Int32)), .val (.int (1 : Int32))]) rfl k) ?_
      show own_Go _ _ _ _ (T387.setTop (mkF m 144 #[.val (.int cv), .val (.int iv), .val (.int fv), .val (.int (0 : Int32)), .val (.int bv), .val (.ref b373), .val (.ref b375), .val (.ref urec), .val (.int (1 : Int32)), .val (.int (1 : Int32))] []))
      refine own_go (fun t k => XS.iload X387.here hx rfl (hb hby at_144) rfl k) ?_
      show own_Go _ _ _ _ (T387.setTop (mkF m 146 #[.val (.int cv), .val (.int iv), .val (.int fv), .val (.int (0 : Int32)), .val (.int bv), .val (.ref b373), .val (.ref b375), .val (.ref urec), .val (.int (1 : Int32)), .val (.int (1 : Int32))] [(.int (1 : Int32))]))
      refine own_go (fun t k => XS.iconst X387.here hx rfl (hb hby at_146) k) ?_
      show own_Go _ _ _ _ (T387.setTop (mkF m 147 #[.val (.int cv), .val (.int iv), .val (.int fv), .val (.int (0 : Int32)), .val (.int bv), .val (.ref b373), .val (.ref b375), .val (.ref urec), .val (.int (1 : Int32)), .val (.int (1 : Int32))] [(.int (2 : Int32)), (.int (1 : Int32))]))
      refine own_go (fun t k => XS.icmpYes X387.here hx rfl (pc0 := 147) (pc' := 176) rfl (hb hby at_147) rfl (tlt (by decide : (1 : Int32) < (2 : Int32))).1 (by decide) (by decide) k) ?_
      show own_Go _ _ _ _ (T387.setTop (mkF m 176 #[.val (.int cv), .val (.int iv), .val (.int fv), .val (.int (0 : Int32)), .val (.int bv), .val (.ref b373), .val (.ref b375), .val (.ref urec), .val (.int (1 : Int32)), .val (.int (1 : Int32))] []))
      refine own_go (fun t k => XS.iload X387.here hx rfl (hb hby at_176) rfl k) ?_
      show own_Go _ _ _ _ (T387.setTop (mkF m 178 #[.val (.int cv), .val (.int iv), .val (.int fv), .val (.int (0 : Int32)), .val (.int bv), .val (.ref b373), .val (.ref b375), .val (.ref urec), .val (.int (1 : Int32)), .val (.int (1 : Int32))] [(.int (1 : Int32))]))
      refine own_go (fun t k => XS.iconst X387.here hx rfl (hb hby at_178) k) ?_
      show own_Go _ _ _ _ (T387.setTop (mkF m 179 #[.val (.int cv), .val (.int iv), .val (.int fv), .val (.int (0 : Int32)), .val (.int bv), .val (.ref b373), .val (.ref b375), .val (.ref urec), .val (.int (1 : Int32)), .val (.int (1 : Int32))] [(.int (3 : Int32)), (.int (1 : Int32))]))
      refine own_go (fun t k => XS.icmpYes X387.here hx rfl (pc0 := 179) (pc' := 208) rfl (hb hby at_179) rfl (tlt (by decide : (1 : Int32) < (3 : Int32))).1 (by decide) (by decide) k) ?_
      show own_Go _ _ _ _ (T387.setTop (mkF m 208 #[.val (.int cv), .val (.int iv), .val (.int fv), .val (.int (0 : Int32)), .val (.int bv), .val (.ref b373), .val (.ref b375), .val (.ref urec), .val (.int (1 : Int32)), .val (.int (1 : Int32))] []))
      refine own_go (fun t k => XS.iload X387.here hx rfl (hb hby at_208) rfl k) ?_
      show own_Go _ _ _ _ (T387.setTop (mkF m 210 #[.val (.int cv), .val (.int iv), .val (.int fv), .val (.int (0 : Int32)), .val (.int bv), .val (.ref b373), .val (.ref b375), .val (.ref urec), .val (.int (1 : Int32)), .val (.int (1 : Int32))] [(.int (1 : Int32))]))
      refine own_go (fun t k => XS.ifNo X387.here hx rfl (hb hby at_210) rfl ((if0 _ _).trans (feq (by decide : ¬ ((1 : Int32) = (0 : Int32)))).1) k) ?_
      show own_Go _ _ _ _ (T387.setTop (mkF m 213 #[.val (.int cv), .val (.int iv), .val (.int fv), .val (.int (0 : Int32)), .val (.int bv), .val (.ref b373), .val (.ref b375), .val (.ref urec), .val (.int (1 : Int32)), .val (.int (1 : Int32))] []))
      refine own_go (fun t k => XS.aload X387.here hx rfl (hb hby at_213) rfl rfl k) ?_
      have f388 := (Ga376.keep K382q (ninS (Ne.symm (Nat.ne_of_lt (Nat.lt_of_lt_of_le hi373 (Nat.le_trans K374q.1 lo375)))) nin0))
      show own_Go _ _ _ _ (T387.setTop (mkF m 215 #[.val (.int cv), .val (.int iv), .val (.int fv), .val (.int (0 : Int32)), .val (.int bv), .val (.ref b373), .val (.ref b375), .val (.ref urec), .val (.int (1 : Int32)), .val (.int (1 : Int32))] [(.ref b375)]))
      obtain ⟨cq389, kq389, q389a, q389b, q389c⟩ := isOf hZ e387 ((A375.keep K376q).keep K382q)
      obtain ⟨_, _, ⟨T389, L389, k389, n389⟩, -, X389, ⟨Lc389, hQ389, l389, y389, z389⟩, st389⟩ := X387.virtualBack hx (y := (⟨"com/example/grantfold/grantfold/model/Setting", "allowed", "()Z"⟩ : MethodName)) (z := (⟨"com/example/grantfold/grantfold/model/Setting", "allowed", "()Z"⟩ : MethodName)) hown (mvT hZ (w_147 hw)) (mvT hZ (w_148 hw)) (notFace_of_selects (args := #[]) (mvT hZ (w_150 hw))) (mvT hZ (w_150 hw)) (mvT hZ (w_149 hw)) (by decide) (backOf (W := 0) (rm_alw l Z a0 hw [] b375 bv h382 n0 Z382 f388 hbv) hZ (w_151 hw) (w_28 hw) (by decide) (by decide)) q389a q389c (g := (mkF m 215 #[.val (.int cv), .val (.int iv), .val (.int fv), .val (.int (0 : Int32)), .val (.int bv), .val (.ref b373), .val (.ref b375), .val (.ref urec), .val (.int (1 : Int32)), .val (.int (1 : Int32))] [(.ref b375)])) rfl (by rw [hml]; rfl) (Steps.refl _) (argsL := []) (rest := []) (lenOf pd_12 rfl) rfl (by show 2 * 0 + _ ≤ _; exact Nat.le_of_eq rfl) (hb hby at_215) (fun _ _ => ⟨rfl, e387, (by decide : 3 + 0 ≤ _), (by decide : 16 + 0 ≤ _)⟩)
      dsimp only [Pt.U, Pt.locs, Pt.cells, Pt.slots] at X389 l389 y389 z389 st389 hQ389
      subst l389 y389 z389
      obtain ⟨rfl, N389q, e389⟩ := hQ389
      have N389 := Fr.app N386 N389q
      refine own_go (fun t k => st389.trans k) ?_
      show own_Go _ _ _ _ (T389.setTop (mkF m 218 #[.val (.int cv), .val (.int iv), .val (.int fv), .val (.int (0 : Int32)), .val (.int bv), .val (.ref b373), .val (.ref b375), .val (.ref urec), .val (.int (1 : Int32)), .val (.int (1 : Int32))] [(.int bv)]))
      refine own_go (fun t k => XS.iload X389.here hx rfl (hb hby at_218) rfl k) ?_
      show own_Go _ _ _ _ (T389.setTop (mkF m 220 #[.val (.int cv), .val (.int iv), .val (.int fv), .val (.int (0 : Int32)), .val (.int bv), .val (.ref b373), .val (.ref b375), .val (.ref urec), .val (.int (1 : Int32)), .val (.int (1 : Int32))] [(.int bv), (.int bv)]))
      refine own_go (fun t k => XS.icmpNo X389.here hx rfl (hb hby at_220) rfl (teq (rfl : bv = bv)).2 k) ?_
      show own_Go _ _ _ _ (T389.setTop (mkF m 223 #[.val (.int cv), .val (.int iv), .val (.int fv), .val (.int (0 : Int32)), .val (.int bv), .val (.ref b373), .val (.ref b375), .val (.ref urec), .val (.int (1 : Int32)), .val (.int (1 : Int32))] []))
      refine own_go (fun t k => XS.aload X389.here hx rfl (hb hby at_223) rfl rfl k) ?_
      have f390 := (Gb376.keep K382q (ninS (Ne.symm (Nat.ne_of_lt (Nat.lt_of_lt_of_le hi373 (Nat.le_trans K374q.1 lo375)))) nin0))
      show own_Go _ _ _ _ (T389.setTop (mkF m 225 #[.val (.int cv), .val (.int iv), .val (.int fv), .val (.int (0 : Int32)), .val (.int bv), .val (.ref b373), .val (.ref b375), .val (.ref urec), .val (.int (1 : Int32)), .val (.int (1 : Int32))] [(.ref b375)]))
      obtain ⟨cq391, kq391, q391a, q391b, q391c⟩ := isOf hZ e389 ((A375.keep K376q).keep K382q)
      obtain ⟨_, _, ⟨T391, L391, k391, n391⟩, -, X391, ⟨Lc391, hQ391, l391, y391, z391⟩, st391⟩ := X389.virtualBack hx (y := (⟨"com/example/grantfold/grantfold/model/Setting", "line", "()I"⟩ : MethodName)) (z := (⟨"com/example/grantfold/grantfold/model/Setting", "line", "()I"⟩ : MethodName)) hown (mvT hZ (w_152 hw)) (mvT hZ (w_153 hw)) (notFace_of_selects (args := #[]) (mvT hZ (w_155 hw))) (mvT hZ (w_155 hw)) (mvT hZ (w_154 hw)) (by decide) (backOf (W := 0) (rm_lin l Z a0 hw [] b375 iv h382 n0 Z382 f390) hZ (w_156 hw) (w_28 hw) (by decide) (by decide)) q391a q391c (g := (mkF m 225 #[.val (.int cv), .val (.int iv), .val (.int fv), .val (.int (0 : Int32)), .val (.int bv), .val (.ref b373), .val (.ref b375), .val (.ref urec), .val (.int (1 : Int32)), .val (.int (1 : Int32))] [(.ref b375)])) rfl (by rw [hml]; rfl) (Steps.refl _) (argsL := []) (rest := []) (lenOf pd_17 rfl) rfl (by show 2 * 0 + _ ≤ _; exact Nat.le_of_eq rfl) (hb hby at_225) (fun _ _ => ⟨rfl, e389, (by decide : 3 + 0 ≤ _), (by decide : 16 + 0 ≤ _)⟩)
      dsimp only [Pt.U, Pt.locs, Pt.cells, Pt.slots] at X391 l391 y391 z391 st391 hQ391
      subst l391 y391 z391
      obtain ⟨rfl, N391q, e391⟩ := hQ391
      have N391 := Fr.app N389 N391q
      refine own_go (fun t k => st391.trans k) ?_
      show own_Go _ _ _ _ (T391.setTop (mkF m 228 #[.val (.int cv), .val (.int iv), .val (.int fv), .val (.int (0 : Int32)), .val (.int bv), .val (.ref b373), .val (.ref b375), .val (.ref urec), .val (.int (1 : Int32)), .val (.int (1 : Int32))] [(.int iv)]))
      refine own_go (fun t k => XS.iloadN X391.here hx rfl (hb hby at_228) rfl k) ?_
      show own_Go _ _ _ _ (T391.setTop (mkF m 229 #[.val (.int cv), .val (.int iv), .val (.int fv), .val (.int (0 : Int32)), .val (.int bv), .val (.ref b373), .val (.ref b375), .val (.ref urec), .val (.int (1 : Int32)), .val (.int (1 : Int32))] [(.int iv), (.int iv)]))
      refine own_go (fun t k => XS.icmpNo X391.here hx rfl (hb hby at_229) rfl (teq (rfl : iv = iv)).2 k) ?_
      show own_Go _ _ _ _ (T391.setTop (mkF m 232 #[.val (.int cv), .val (.int iv), .val (.int fv), .val (.int (0 : Int32)), .val (.int bv), .val (.ref b373), .val (.ref b375), .val (.ref urec), .val (.int (1 : Int32)), .val (.int (1 : Int32))] []))
      refine own_go (fun t k => XS.iconst X391.here hx rfl (hb hby at_232) k) ?_
      show own_Go _ _ _ _ (T391.setTop (mkF m 233 #[.val (.int cv), .val (.int iv), .val (.int fv), .val (.int (0 : Int32)), .val (.int bv), .val (.ref b373), .val (.ref b375), .val (.ref urec), .val (.int (1 : Int32)), .val (.int (1 : Int32))] [(.int (1 : Int32))]))
      refine own_go (fun t k => XS.goto X391.here hx rfl (pc0 := 233) (pc' := 237) rfl (hb hby at_233) (by decide) (by decide) k) ?_
      show own_Go _ _ _ _ (T391.setTop (mkF m 237 #[.val (.int cv), .val (.int iv), .val (.int fv), .val (.int (0 : Int32)), .val (.int bv), .val (.ref b373), .val (.ref b375), .val (.ref urec), .val (.int (1 : Int32)), .val (.int (1 : Int32))] [(.int (1 : Int32))]))
      refine own_retN X391 hx hlk (t := .boolean) hret (by simp) (hb hby at_237) ?_ (by decide) (by decide)
      rw [e391]
      exact ⟨rfl, N391⟩
    show own_Go _ _ _ _ (s₁.setTop (mkF m 4 #[.val (.int cv), .val (.int iv), .val (.int fv), .val (.int (0 : Int32)), .unset, .unset, .unset, .unset, .unset, .unset] []))
    show own_Go _ _ _ _ (s₁.setTop (mkF m 4 #[.val (.int cv), .val (.int iv), .val (.int fv), .val (.int (0 : Int32)), .unset, .unset, .unset, .unset, .unset, .unset] []))
    refine own_go (fun t k => XS.iloadN X0.here hx rfl (hb hby at_4) rfl k) ?_
    show own_Go _ _ _ _ (s₁.setTop (mkF m 5 #[.val (.int cv), .val (.int iv), .val (.int fv), .val (.int (0 : Int32)), .unset, .unset, .unset, .unset, .unset, .unset] [(.int fv)]))
    refine own_go (fun t k => XS.iconst X0.here hx rfl (hb hby at_5) k) ?_
    show own_Go _ _ _ _ (s₁.setTop (mkF m 6 #[.val (.int cv), .val (.int iv), .val (.int fv), .val (.int (0 : Int32)), .unset, .unset, .unset, .unset, .unset, .unset] [(.int (1 : Int32)), (.int fv)]))
    refine own_go (fun t k => XS.iand X0.here hx rfl (hb hby at_6) rfl k) ?_
    by_cases hc392 : (fv &&& (1 : Int32)) = (0 : Int32)
    · show own_Go _ _ _ _ (s₁.setTop (mkF m 7 #[.val (.int cv), .val (.int iv), .val (.int fv), .val (.int (0 : Int32)), .unset, .unset, .unset, .unset, .unset, .unset] [(.int (fv &&& (1 : Int32)))]))
      refine own_go (fun t k => XS.ifYes X0.here hx rfl (pc0 := 7) (pc' := 14) rfl (hb hby at_7) rfl ((if0 _ _).trans (teq hc392).1) (by decide) (by decide) k) ?_
      show own_Go _ _ _ _ (s₁.setTop (mkF m 14 #[.val (.int cv), .val (.int iv), .val (.int fv), .val (.int (0 : Int32)), .unset, .unset, .unset, .unset, .unset, .unset] []))
      refine own_go (fun t k => XS.iconst X0.here hx rfl (hb hby at_14) k) ?_
      exact J _ (by decide)
    · show own_Go _ _ _ _ (s₁.setTop (mkF m 7 #[.val (.int cv), .val (.int iv), .val (.int fv), .val (.int (0 : Int32)), .unset, .unset, .unset, .unset, .unset, .unset] [(.int (fv &&& (1 : Int32)))]))
      refine own_go (fun t k => XS.ifNo X0.here hx rfl (hb hby at_7) rfl ((if0 _ _).trans (feq hc392).1) k) ?_
      show own_Go _ _ _ _ (s₁.setTop (mkF m 10 #[.val (.int cv), .val (.int iv), .val (.int fv), .val (.int (0 : Int32)), .unset, .unset, .unset, .unset, .unset, .unset] []))
      refine own_go (fun t k => XS.iconst X0.here hx rfl (hb hby at_10) k) ?_
      show own_Go _ _ _ _ (s₁.setTop (mkF m 11 #[.val (.int cv), .val (.int iv), .val (.int fv), .val (.int (0 : Int32)), .unset, .unset, .unset, .unset, .unset, .unset] [(.int (1 : Int32))]))
      refine own_go (fun t k => XS.goto X0.here hx rfl (pc0 := 11) (pc' := 15) rfl (hb hby at_11) (by decide) (by decide) k) ?_
      exact J _ (by decide)
  · show own_Go _ _ _ _ (s₁.setTop (mkF m 3 #[.val (.int cv), .val (.int iv), .val (.int fv), .unset, .unset, .unset, .unset, .unset, .unset, .unset] [(.int (1 : Int32))]))
    refine own_go (fun t k => XS.istoreN X0.here hx rfl (hb hby at_3) rfl (l' := #[.val (.int cv), .val (.int iv), .val (.int fv), .val (.int (1 : Int32)), .unset, .unset, .unset, .unset, .unset, .unset]) rfl k) ?_
    have J : ∀ bv : Int32, nar .boolean bv = bv → own_Go p e below (own_Fin s room_1.cells room_1.slots (Q_law Z cv iv fv ue ude kde uel uem kem uemp urec umi h0 n0)) (s₁.setTop (mkF m 15 #[.val (.int cv), .val (.int iv), .val (.int fv), .val (.int (1 : Int32)), .unset, .unset, .unset, .unset, .unset, .unset] [(.int bv)])) := by
      intro bv hbv
      show own_Go _ _ _ _ (s₁.setTop (mkF m 15 #[.val (.int cv), .val (.int iv), .val (.int fv), .val (.int (1 : Int32)), .unset, .unset, .unset, .unset, .unset, .unset] [(.int bv)]))
      refine own_go (fun t k => XS.istore X0.here hx rfl (hb hby at_15) rfl (l' := #[.val (.int cv), .val (.int iv), .val (.int fv), .val (.int (1 : Int32)), .val (.int bv), .unset, .unset, .unset, .unset, .unset]) rfl k) ?_
      show own_Go _ _ _ _ (s₁.setTop (mkF m 17 #[.val (.int cv), .val (.int iv), .val (.int fv), .val (.int (1 : Int32)), .val (.int bv), .unset, .unset, .unset, .unset, .unset] []))
      obtain ⟨T393, h393, X393, e393, E393, A393, D393, -, st393⟩ := newO X0 hx hZ hown (w_0 hw) (w_1 hw) (w_2 hw) e0 (g := (mkF m 17 #[.val (.int cv), .val (.int iv), .val (.int fv), .val (.int (1 : Int32)), .val (.int bv), .unset, .unset, .unset, .unset, .unset] [])) rfl (hb hby at_17) (by decide) (by decide)
      obtain ⟨b393, g393⟩ : ∃ z, z = h0.size := ⟨_, rfl⟩
      rw [← g393] at A393 D393 st393
      refine own_go st393 ?_
      have Z393 : n0 ≤ h393.size := (Nat.le_trans Z0 E393.1)
      have lo393 : h0.size ≤ b393 := Nat.le_of_eq g393.symm
      have q393 : n0 ≤ b393 := Nat.le_trans Z0 lo393
      have hi393 : b393 < h393.size := A393.lt
      have F393_22 : Fld Z h393 b393 "java/util/AbstractList" "modCount" "I" (.int (0 : Int32)) := D393 (Or.inl (w_22 hw)) (ty := .int) (by decide)
      have F393_25 : Fld Z h393 b393 "java/util/ArrayList" "elementData" "[Ljava/lang/Object;" .null := D393 (Or.inl (w_25 hw)) (ty := (.array (.object "java/lang/Object"))) (by decide)
      have F393_62 : Fld Z h393 b393 "java/util/ArrayList" "size" "I" (.int (0 : Int32)) := D393 (Or.inl (w_62 hw)) (ty := .int) (by decide)
      show own_Go _ _ _ _ (T393.setTop (mkF m 20 #[.val (.int cv), .val (.int iv), .val (.int fv), .val (.int (1 : Int32)), .val (.int bv), .unset, .unset, .unset, .unset, .unset] [(.ref b393)]))
      refine own_go (fun t k => XS.dup X393.here hx rfl (hb hby at_20) rfl rfl k) ?_
      show own_Go _ _ _ _ (T393.setTop (mkF m 21 #[.val (.int cv), .val (.int iv), .val (.int fv), .val (.int (1 : Int32)), .val (.int bv), .unset, .unset, .unset, .unset, .unset] [(.ref b393), (.ref b393)]))
      obtain ⟨_, _, ⟨T394, L394, k394, n394⟩, -, X394, ⟨Lc394, hQ394, l394, y394, z394⟩, st394⟩ := X393.specialBack hx (y := (⟨"java/util/ArrayList", "<init>", "()V"⟩ : MethodName)) rfl hown (mvT hZ (w_3 hw)) (mvT hZ (w_4 hw)) (mvT hZ (w_5 hw)) (by decide) (backOf (W := 1) (rm_ali l Z a0 hw [] b393 ue ude kde uel uem kem uemp urec umi h393 n0 Z393 q393 A393 F393_22 F393_25 F393_62 (O0.ext E393) hF) hZ (w_5 hw) (w_2 hw) (by decide) (by decide)) (g := (mkF m 21 #[.val (.int cv), .val (.int iv), .val (.int fv), .val (.int (1 : Int32)), .val (.int bv), .unset, .unset, .unset, .unset, .unset] [(.ref b393), (.ref b393)])) rfl (by rw [hml]; rfl) (Steps.refl _) (a := b393) (argsL := []) (rest := [(.ref b393)]) (lenOf pd_0 rfl) rfl (by show 2 * 0 + _ ≤ _; exact Nat.le_of_eq rfl) (hb hby at_21) (fun _ _ => ⟨rfl, e393, (by decide : 1 + 0 ≤ _), (by decide : 3 + 0 ≤ _)⟩)
      dsimp only [Pt.U, Pt.locs, Pt.cells, Pt.slots] at X394 l394 y394 z394 st394 hQ394
      subst l394 y394 z394
      generalize e394 : T394.heap = h394 at hQ394
      obtain ⟨rfl, N394q, K394q, Fa394, Fb394, Fc394⟩ := hQ394
      have N394 := Fr.app N0 N394q
      refine own_go (fun t k => st394.trans k) ?_
      have Z394 : n0 ≤ h394.size := (Nat.le_trans Z393 K394q.1)
      show own_Go _ _ _ _ (T394.setTop (mkF m 24 #[.val (.int cv), .val (.int iv), .val (.int fv), .val (.int (1 : Int32)), .val (.int bv), .unset, .unset, .unset, .unset, .unset] [(.ref b393)]))
      refine own_go (fun t k => XS.astore X394.here hx rfl (hb hby at_24) rfl rfl (l' := #[.val (.int cv), .val (.int iv), .val (.int fv), .val (.int (1 : Int32)), .val (.int bv), .val (.ref b393), .unset, .unset, .unset, .unset]) rfl k) ?_
      show own_Go _ _ _ _ (T394.setTop (mkF m 26 #[.val (.int cv), .val (.int iv), .val (.int fv), .val (.int (1 : Int32)), .val (.int bv), .val (.ref b393), .unset, .unset, .unset, .unset] []))
      refine own_go (fun t k => XS.iloadN X394.here hx rfl (hb hby at_26) rfl k) ?_
      show own_Go _ _ _ _ (T394.setTop (mkF m 27 #[.val (.int cv), .val (.int iv), .val (.int fv), .val (.int (1 : Int32)), .val (.int bv), .val (.ref b393), .unset, .unset, .unset, .unset] [(.int (1 : Int32))]))
      refine own_go (fun t k => XS.iconst X394.here hx rfl (hb hby at_27) k) ?_
      show own_Go _ _ _ _ (T394.setTop (mkF m 28 #[.val (.int cv), .val (.int iv), .val (.int fv), .val (.int (1 : Int32)), .val (.int bv), .val (.ref b393), .unset, .unset, .unset, .unset] [(.int (1 : Int32)), (.int (1 : Int32))]))
      refine own_go (fun t k => XS.icmpNo X394.here hx rfl (hb hby at_28) rfl (flt (by decide : ¬ ((1 : Int32) < (1 : Int32)))).1 k) ?_
      show own_Go _ _ _ _ (T394.setTop (mkF m 31 #[.val (.int cv), .val (.int iv), .val (.int fv), .val (.int (1 : Int32)), .val (.int bv), .val (.ref b393), .unset, .unset, .unset, .unset] []))
      refine own_go (fun t k => XS.aload X394.here hx rfl (hb hby at_31) rfl rfl k) ?_
      show own_Go _ _ _ _ (T394.setTop (mkF m 33 #[.val (.int cv), .val (.int iv), .val (.int fv), .val (.int (1 : Int32)), .val (.int bv), .val (.ref b393), .unset, .unset, .unset, .unset] [(.ref b393)]))
      obtain ⟨T395, X395, e395, st395⟩ := getS2 X394 hx hZ hown (host := "") (Or.inl (w_73 hw)) Via.refl e394 (Se.ext ((O0.ext E393).keep K394q (allS q393 all0)).2) (g := (mkF m 33 #[.val (.int cv), .val (.int iv), .val (.int fv), .val (.int (1 : Int32)), .val (.int bv), .val (.ref b393), .unset, .unset, .unset, .unset] [(.ref b393)])) rfl (hb hby at_33)
      refine own_go st395 ?_
      show own_Go _ _ _ _ (T395.setTop (mkF m 36 #[.val (.int cv), .val (.int iv), .val (.int fv), .val (.int (1 : Int32)), .val (.int bv), .val (.ref b393), .unset, .unset, .unset, .unset] [(.ref ue), (.ref b393)]))
      obtain ⟨cq396, kq396, q396a, q396b, q396c⟩ := isOf hZ e395 (A393.keep K394q)
      obtain ⟨_, _, ⟨T396, L396, k396, n396⟩, -, X396, ⟨Lc396, hQ396, l396, y396, z396⟩, st396⟩ := X395.virtualBack hx (y := (⟨"java/util/ArrayList", "add", "(Ljava/lang/Object;)Z"⟩ : MethodName)) (z := (⟨"java/util/ArrayList", "add", "(Ljava/lang/Object;)Z"⟩ : MethodName)) hown (mvT hZ (w_76 hw)) (mvT hZ (w_77 hw)) (notFace_of_selects (args := #[]) (mvT hZ (w_79 hw))) (mvT hZ (w_79 hw)) (mvT hZ (w_78 hw)) (by decide) (backOf (W := 0) (rm_ad1_0 l Z a0 hw [] b393 ue ude kde uel uem kem uemp urec umi h394 n0 Z394 q393 (A393.keep K394q) Fa394 Fb394 Fc394 ((O0.ext E393).keep K394q (allS q393 all0)) hF) hZ (w_80 hw) (w_2 hw) (by decide) (by decide)) q396a q396c (g := (mkF m 36 #[.val (.int cv), .val (.int iv), .val (.int fv), .val (.int (1 : Int32)), .val (.int bv), .val (.ref b393), .unset, .unset, .unset, .unset] [(.ref ue), (.ref b393)])) rfl (by rw [hml]; rfl) (Steps.refl _) (argsL := [(.ref ue)]) (rest := []) (lenOf pd_16 rfl) rfl (by show 2 * 0 + _ ≤ _; exact Nat.le_of_eq rfl) (hb hby at_36) (fun _ _ => ⟨rfl, e395, (by decide : 1 + 1 ≤ _), (by decide : 3 + 10 ≤ _)⟩)
      dsimp only [Pt.U, Pt.locs, Pt.cells, Pt.slots] at X396 l396 y396 z396 st396 hQ396
      subst l396 y396 z396
      generalize e396 : T396.heap = h396 at hQ396
      obtain ⟨ub396, kb396, rfl, N396q, K396q, lo396, q396, O396, Eb396, A396, Fa396, Fb396, Fc396⟩ := hQ396
      have N396 := Fr.app N394 N396q
      refine own_go (fun t k => st396.trans k) ?_
      have Z396 : n0 ≤ h396.size := (Nat.le_trans Z394 K396q.1)
      have hi396 := A396.lt
      show own_Go _ _ _ _ (T396.setTop (mkF m 39 #[.val (.int cv), .val (.int iv), .val (.int fv), .val (.int (1 : Int32)), .val (.int bv), .val (.ref b393), .unset, .unset, .unset, .unset] [(.int (1 : Int32))]))
      refine own_go (fun t k => XS.pop X396.here hx rfl (hb hby at_39) rfl rfl k) ?_
      show own_Go _ _ _ _ (T396.setTop (mkF m 40 #[.val (.int cv), .val (.int iv), .val (.int fv), .val (.int (1 : Int32)), .val (.int bv), .val (.ref b393), .unset, .unset, .unset, .unset] []))
      refine own_go (fun t k => XS.iloadN X396.here hx rfl (hb hby at_40) rfl k) ?_
      show own_Go _ _ _ _ (T396.setTop (mkF m 41 #[.val (.int cv), .val (.int iv), .val (.int fv), .val (.int (1 : Int32)), .val (.int bv), .val (.ref b393), .unset, .unset, .unset, .unset] [(.int (1 : Int32))]))
      refine own_go (fun t k => XS.iconst X396.here hx rfl (hb hby at_41) k) ?_
      show own_Go _ _ _ _ (T396.setTop (mkF m 42 #[.val (.int cv), .val (.int iv), .val (.int fv), .val (.int (1 : Int32)), .val (.int bv), .val (.ref b393), .unset, .unset, .unset, .unset] [(.int (2 : Int32)), (.int (1 : Int32))]))
      refine own_go (fun t k => XS.icmpYes X396.here hx rfl (pc0 := 42) (pc' := 54) rfl (hb hby at_42) rfl (tlt (by decide : (1 : Int32) < (2 : Int32))).1 (by decide) (by decide) k) ?_
      show own_Go _ _ _ _ (T396.setTop (mkF m 54 #[.val (.int cv), .val (.int iv), .val (.int fv), .val (.int (1 : Int32)), .val (.int bv), .val (.ref b393), .unset, .unset, .unset, .unset] []))
      refine own_go (fun t k => XS.iloadN X396.here hx rfl (hb hby at_54) rfl k) ?_
      show own_Go _ _ _ _ (T396.setTop (mkF m 55 #[.val (.int cv), .val (.int iv), .val (.int fv), .val (.int (1 : Int32)), .val (.int bv), .val (.ref b393), .unset, .unset, .unset, .unset] [(.int (1 : Int32))]))
      refine own_go (fun t k => XS.iconst X396.here hx rfl (hb hby at_55) k) ?_
      show own_Go _ _ _ _ (T396.setTop (mkF m 56 #[.val (.int cv), .val (.int iv), .val (.int fv), .val (.int (1 : Int32)), .val (.int bv), .val (.ref b393), .unset, .unset, .unset, .unset] [(.int (3 : Int32)), (.int (1 : Int32))]))
      refine own_go (fun t k => XS.icmpYes X396.here hx rfl (pc0 := 56) (pc' := 68) rfl (hb hby at_56) rfl (tlt (by decide : (1 : Int32) < (3 : Int32))).1 (by decide) (by decide) k) ?_
      show own_Go _ _ _ _ (T396.setTop (mkF m 68 #[.val (.int cv), .val (.int iv), .val (.int fv), .val (.int (1 : Int32)), .val (.int bv), .val (.ref b393), .unset, .unset, .unset, .unset] []))
      obtain ⟨T397, h397, X397, e397, E397, A397, D397, -, st397⟩ := newO X396 hx hZ hown (w_26 hw) (w_27 hw) (w_28 hw) e396 (g := (mkF m 68 #[.val (.int cv), .val (.int iv), .val (.int fv), .val (.int (1 : Int32)), .val (.int bv), .val (.ref b393), .unset, .unset, .unset, .unset] [])) rfl (hb hby at_68) (by decide) (by decide)
      obtain ⟨b397, g397⟩ : ∃ z, z = h396.size := ⟨_, rfl⟩
      rw [← g397] at A397 D397 st397
      refine own_go st397 ?_
      have Z397 : n0 ≤ h397.size := (Nat.le_trans Z396 E397.1)
      have lo397 : h396.size ≤ b397 := Nat.le_of_eq g397.symm
      have q397 : n0 ≤ b397 := Nat.le_trans Z396 lo397
      have hi397 : b397 < h397.size := A397.lt
      have F397_68 : Fld Z h397 b397 "com/example/grantfold/grantfold/model/Setting" "allowed" "Z" (.int (0 : Int32)) := D397 (Or.inr (w_68 hw)) (ty := .boolean) (by decide)
      have F397_70 : Fld Z h397 b397 "com/example/grantfold/grantfold/model/Setting" "line" "I" (.int (0 : Int32)) := D397 (Or.inr (w_70 hw)) (ty := .int) (by decide)
      have F397_72 : Fld Z h397 b397 "com/example/grantfold/grantfold/model/Setting" "where" "Ljava/util/List;" .null := D397 (Or.inr (w_72 hw)) (ty := (.object "java/util/List")) (by decide)
      show own_Go _ _ _ _ (T397.setTop (mkF m 71 #[.val (.int cv), .val (.int iv), .val (.int fv), .val (.int (1 : Int32)), .val (.int bv), .val (.ref b393), .unset, .unset, .unset, .unset] [(.ref b397)]))
      refine own_go (fun t k => XS.dup X397.here hx rfl (hb hby at_71) rfl rfl k) ?_
      show own_Go _ _ _ _ (T397.setTop (mkF m 72 #[.val (.int cv), .val (.int iv), .val (.int fv), .val (.int (1 : Int32)), .val (.int bv), .val (.ref b393), .unset, .unset, .unset, .unset] [(.ref b397), (.ref b397)]))
      refine own_go (fun t k => XS.iload X397.here hx rfl (hb hby at_72) rfl k) ?_
      show own_Go _ _ _ _ (T397.setTop (mkF m 74 #[.val (.int cv), .val (.int iv), .val (.int fv), .val (.int (1 : Int32)), .val (.int bv), .val (.ref b393), .unset, .unset, .unset, .unset] [(.int bv), (.ref b397), (.ref b397)]))
      refine own_go (fun t k => XS.iloadN X397.here hx rfl (hb hby at_74) rfl k) ?_
      show own_Go _ _ _ _ (T397.setTop (mkF m 75 #[.val (.int cv), .val (.int iv), .val (.int fv), .val (.int (1 : Int32)), .val (.int bv), .val (.ref b393), .unset, .unset, .unset, .unset] [(.int iv), (.int bv), (.ref b397), (.ref b397)]))
      refine own_go (fun t k => XS.aload X397.here hx rfl (hb hby at_75) rfl rfl k) ?_
      have f398 := ((((O0.ext E393).keep K394q (allS q393 all0)).keep K396q (allS q393 all0)).ext E397)
      show own_Go _ _ _ _ (T397.setTop (mkF m 77 #[.val (.int cv), .val (.int iv), .val (.int fv), .val (.int (1 : Int32)), .val (.int bv), .val (.ref b393), .unset, .unset, .unset, .unset] [(.ref b393), (.int iv), (.int bv), (.ref b397), (.ref b397)]))
      obtain ⟨_, _, ⟨T399, L399, k399, n399⟩, -, X399, ⟨Lc399, hQ399, l399, y399, z399⟩, st399⟩ := X397.specialBack hx (y := (⟨"com/example/grantfold/grantfold/model/Setting", "<init>", "(ZILjava/util/List;)V"⟩ : MethodName)) rfl hown (mvT hZ (w_29 hw)) (mvT hZ (w_30 hw)) (mvT hZ (w_31 hw)) (by decide) (backOf (W := 1) (rm_set_1 l Z a0 hw [] b397 bv iv b393 ub396 kb396 ue ude kde uel uem kem uemp urec umi h397 n0 Z397 q397 A397 F397_68 F397_70 F397_72 hbv (Fb396.ext E397) (Fc396.ext E397) (((A393.keep K394q).keep K396q).ext E397) (A396.ext E397) (Eb396.ext E397) f398 hF) hZ (w_31 hw) (w_28 hw) (by decide) (by decide)) (g := (mkF m 77 #[.val (.int cv), .val (.int iv), .val (.int fv), .val (.int (1 : Int32)), .val (.int bv), .val (.ref b393), .unset, .unset, .unset, .unset] [(.ref b393), (.int iv), (.int bv), (.ref b397), (.ref b397)])) rfl (by rw [hml]; rfl) (Steps.refl _) (a := b397) (argsL := [(.int bv), (.int iv), (.ref b393)]) (rest := [(.ref b397)]) (lenOf pd_15 rfl) rfl (by show 2 * 0 + _ ≤ _; exact Nat.le_of_eq rfl) (hb hby at_77) (fun _ _ => ⟨rfl, e397, (by decide : 3 + 2 ≤ _), (by decide : 16 + 3 ≤ _)⟩)
      dsimp only [Pt.U, Pt.locs, Pt.cells, Pt.slots] at X399 l399 y399 z399 st399 hQ399
      subst l399 y399 z399
      generalize e399 : T399.heap = h399 at hQ399
      obtain ⟨ux399, rfl, N399q, K399q, ⟨Ga399, Gb399, Gc399⟩, lo399, q399, Ex399, Fx399, Fy399⟩ := hQ399
      have N399 := Fr.app N396 N399q
      refine own_go (fun t k => st399.trans k) ?_
      have Z399 : n0 ≤ h399.size := (Nat.le_trans Z397 K399q.1)
      have hi399 := Ex399.lt
      show own_Go _ _ _ _ (T399.setTop (mkF m 80 #[.val (.int cv), .val (.int iv), .val (.int fv), .val (.int (1 : Int32)), .val (.int bv), .val (.ref b393), .unset, .unset, .unset, .unset] [(.ref b397)]))
      refine own_go (fun t k => XS.astore X399.here hx rfl (hb hby at_80) rfl rfl (l' := #[.val (.int cv), .val (.int iv), .val (.int fv), .val (.int (1 : Int32)), .val (.int bv), .val (.ref b393), .val (.ref b397), .unset, .unset, .unset]) rfl k) ?_
      show own_Go _ _ _ _ (T399.setTop (mkF m 82 #[.val (.int cv), .val (.int iv), .val (.int fv), .val (.int (1 : Int32)), .val (.int bv), .val (.ref b393), .val (.ref b397), .unset, .unset, .unset] []))
      refine own_go (fun t k => XS.aload X399.here hx rfl (hb hby at_82) rfl rfl k) ?_
      show own_Go _ _ _ _ (T399.setTop (mkF m 84 #[.val (.int cv), .val (.int iv), .val (.int fv), .val (.int (1 : Int32)), .val (.int bv), .val (.ref b393), .val (.ref b397), .unset, .unset, .unset] [(.ref b393)]))
      obtain ⟨T400, X400, e400, st400⟩ := getS2 X399 hx hZ hown (host := "") (Or.inl (w_73 hw)) Via.refl e399 (Se.ext (f398.keep K399q (allS q397 all0)).2) (g := (mkF m 84 #[.val (.int cv), .val (.int iv), .val (.int fv), .val (.int (1 : Int32)), .val (.int bv), .val (.ref b393), .val (.ref b397), .unset, .unset, .unset] [(.ref b393)])) rfl (hb hby at_84)
      refine own_go st400 ?_
      have f401 := ((Fc396.ext E397).keep K399q (ninS (Nat.ne_of_lt (Nat.lt_of_lt_of_le hi393 (Nat.le_trans (Nat.le_trans K394q.1 K396q.1) lo397))) nin0))
      have f402 := ((Fb396.ext E397).keep K399q (ninS (Nat.ne_of_lt (Nat.lt_of_lt_of_le hi393 (Nat.le_trans (Nat.le_trans K394q.1 K396q.1) lo397))) nin0))
      have f403 := ((A396.ext E397).keep K399q (ninS (Nat.ne_of_lt (Nat.lt_of_lt_of_le hi396 lo397)) nin0))
      have f404 := ((Fa396.ext E397).keep K399q (ninS (Nat.ne_of_lt (Nat.lt_of_lt_of_le hi393 (Nat.le_trans (Nat.le_trans K394q.1 K396q.1) lo397))) nin0))
      show own_Go _ _ _ _ (T400.setTop (mkF m 87 #[.val (.int cv), .val (.int iv), .val (.int fv), .val (.int (1 : Int32)), .val (.int bv), .val (.ref b393), .val (.ref b397), .unset, .unset, .unset] [(.ref ue), (.ref b393)]))
      obtain ⟨cq405, kq405, q405a, q405b, q405c⟩ := isOf hZ e400 ((((A393.keep K394q).keep K396q).ext E397).keep K399q)
      obtain ⟨_, _, ⟨T405, L405, k405, n405⟩, -, X405, ⟨Lc405, hQ405, l405, y405, z405⟩, st405⟩ := X400.virtualBack hx (y := (⟨"java/util/ArrayList", "add", "(Ljava/lang/Object;)Z"⟩ : MethodName)) (z := (⟨"java/util/ArrayList", "add", "(Ljava/lang/Object;)Z"⟩ : MethodName)) hown (mvT hZ (w_76 hw)) (mvT hZ (w_77 hw)) (notFace_of_selects (args := #[]) (mvT hZ (w_79 hw))) (mvT hZ (w_79 hw)) (mvT hZ (w_78 hw)) (by decide) (backOf (W := 0) (rm_ad1_1 l Z a0 hw [] b393 ub396 kb396 ue ude kde uel uem kem uemp urec umi h399 n0 Z399 q393 ((((A393.keep K394q).keep K396q).ext E397).keep K399q) f404 f402 f401 f403 q396 O396 (Nat.ne_of_lt (Nat.lt_of_lt_of_le hi393 (Nat.le_trans K394q.1 lo396))) (f398.keep K399q (allS q397 all0)) hF) hZ (w_80 hw) (w_2 hw) (by decide) (by decide)) q405a q405c (g := (mkF m 87 #[.val (.int cv), .val (.int iv), .val (.int fv), .val (.int (1 : Int32)), .val (.int bv), .val (.ref b393), .val (.ref b397), .unset, .unset, .unset] [(.ref ue), (.ref b393)])) rfl (by rw [hml]; rfl) (Steps.refl _) (argsL := [(.ref ue)]) (rest := []) (lenOf pd_16 rfl) rfl (by show 2 * 0 + _ ≤ _; exact Nat.le_of_eq rfl) (hb hby at_87) (fun _ _ => ⟨rfl, e400, (by decide : 5 + 0 ≤ _), (by decide : 19 + 0 ≤ _)⟩)
      dsimp only [Pt.U, Pt.locs, Pt.cells, Pt.slots] at X405 l405 y405 z405 st405 hQ405
      subst l405 y405 z405
      generalize e405 : T405.heap = h405 at hQ405
      obtain ⟨rfl, N405q, K405q, A405, Fa405, Fb405, Fc405⟩ := hQ405
      have N405 := Fr.app N399 N405q
      refine own_go (fun t k => st405.trans k) ?_
      have Z405 : n0 ≤ h405.size := (Nat.le_trans Z399 K405q.1)
      show own_Go _ _ _ _ (T405.setTop (mkF m 90 #[.val (.int cv), .val (.int iv), .val (.int fv), .val (.int (1 : Int32)), .val (.int bv), .val (.ref b393), .val (.ref b397), .unset, .unset, .unset] [(.int (1 : Int32))]))
      refine own_go (fun t k => XS.pop X405.here hx rfl (hb hby at_90) rfl rfl k) ?_
      show own_Go _ _ _ _ (T405.setTop (mkF m 91 #[.val (.int cv), .val (.int iv), .val (.int fv), .val (.int (1 : Int32)), .val (.int bv), .val (.ref b393), .val (.ref b397), .unset, .unset, .unset] []))
      refine own_go (fun t k => XS.aload X405.here hx rfl (hb hby at_91) rfl rfl k) ?_
      have f406 := (Gc399.keep K405q (ninS (Ne.symm (Nat.ne_of_lt (Nat.lt_of_lt_of_le hi393 (Nat.le_trans (Nat.le_trans K394q.1 K396q.1) lo397)))) (ninS (Ne.symm (Nat.ne_of_lt (Nat.lt_of_lt_of_le hi396 lo397))) nin0)))
      have f407 := ((f398.keep K399q (allS q397 all0)).keep K405q (allS q393 (allS q396 all0)))
      show own_Go _ _ _ _ (T405.setTop (mkF m 93 #[.val (.int cv), .val (.int iv), .val (.int fv), .val (.int (1 : Int32)), .val (.int bv), .val (.ref b393), .val (.ref b397), .unset, .unset, .unset] [(.ref b397)]))
      obtain ⟨cq408, kq408, q408a, q408b, q408c⟩ := isOf hZ e405 ((A397.keep K399q).keep K405q)
      obtain ⟨_, _, ⟨T408, L408, k408, n408⟩, -, X408, ⟨Lc408, hQ408, l408, y408, z408⟩, st408⟩ := X405.virtualBack hx (y := (⟨"com/example/grantfold/grantfold/model/Setting", "scopes", "()Ljava/util/List;"⟩ : MethodName)) (z := (⟨"com/example/grantfold/grantfold/model/Setting", "scopes", "()Ljava/util/List;"⟩ : MethodName)) hown (mvT hZ (w_105 hw)) (mvT hZ (w_106 hw)) (notFace_of_selects (args := #[]) (mvT hZ (w_108 hw))) (mvT hZ (w_108 hw)) (mvT hZ (w_107 hw)) (by decide) (backOf (W := 0) (rm_scp_1 l Z a0 hw [] b397 ux399 ue ude kde uel uem kem uemp urec umi h405 n0 Z405 f406 (Ex399.keep K405q) f407 hF) hZ (w_109 hw) (w_28 hw) (by decide) (by decide)) q408a q408c (g := (mkF m 93 #[.val (.int cv), .val (.int iv), .val (.int fv), .val (.int (1 : Int32)), .val (.int bv), .val (.ref b393), .val (.ref b397), .unset, .unset, .unset] [(.ref b397)])) rfl (by rw [hml]; rfl) (Steps.refl _) (argsL := []) (rest := []) (lenOf pd_13 rfl) rfl (by show 2 * 0 + _ ≤ _; exact Nat.le_of_eq rfl) (hb hby at_93) (fun _ _ => ⟨rfl, e405, (by decide : 5 + 0 ≤ _), (by decide : 19 + 0 ≤ _)⟩)
      dsimp only [Pt.U, Pt.locs, Pt.cells, Pt.slots] at X408 l408 y408 z408 st408 hQ408
      subst l408 y408 z408
      obtain ⟨rfl, N408q, e408⟩ := hQ408
      have N408 := Fr.app N405 N408q
      refine own_go (fun t k => st408.trans k) ?_
      show own_Go _ _ _ _ (T408.setTop (mkF m 96 #[.val (.int cv), .val (.int iv), .val (.int fv), .val (.int (1 : Int32)), .val (.int bv), .val (.ref b393), .val (.ref b397), .unset, .unset, .unset] [(.ref ux399)]))
      refine own_go (fun t k => XS.astore X408.here hx rfl (hb hby at_96) rfl rfl (l' := #[.val (.int cv), .val (.int iv), .val (.int fv), .val (.int (1 : Int32)), .val (.int bv), .val (.ref b393), .val (.ref b397), .val (.ref ux399), .unset, .unset]) rfl k) ?_
      show own_Go _ _ _ _ (T408.setTop (mkF m 98 #[.val (.int cv), .val (.int iv), .val (.int fv), .val (.int (1 : Int32)), .val (.int bv), .val (.ref b393), .val (.ref b397), .val (.ref ux399), .unset, .unset] []))
      refine own_go (fun t k => XS.iloadN X408.here hx rfl (hb hby at_98) rfl k) ?_
      show own_Go _ _ _ _ (T408.setTop (mkF m 99 #[.val (.int cv), .val (.int iv), .val (.int fv), .val (.int (1 : Int32)), .val (.int bv), .val (.ref b393), .val (.ref b397), .val (.ref ux399), .unset, .unset] [(.int (1 : Int32))]))
      refine own_go (fun t k => XS.ifYes X408.here hx rfl (pc0 := 99) (pc' := 106) rfl (hb hby at_99) rfl ((if0 _ _).trans (feq (by decide : ¬ ((1 : Int32) = (0 : Int32)))).2) (by decide) (by decide) k) ?_
      show own_Go _ _ _ _ (T408.setTop (mkF m 106 #[.val (.int cv), .val (.int iv), .val (.int fv), .val (.int (1 : Int32)), .val (.int bv), .val (.ref b393), .val (.ref b397), .val (.ref ux399), .unset, .unset] []))
      refine own_go (fun t k => XS.iloadN X408.here hx rfl (hb hby at_106) rfl k) ?_
      show own_Go _ _ _ _ (T408.setTop (mkF m 107 #[.val (.int cv), .val (.int iv), .val (.int fv), .val (.int (1 : Int32)), .val (.int bv), .val (.ref b393), .val (.ref b397), .val (.ref ux399), .unset, .unset] [(.int (1 : Int32))]))
      refine own_go (fun t k => XS.istore X408.here hx rfl (hb hby at_107) rfl (l' := #[.val (.int cv), .val (.int iv), .val (.int fv), .val (.int (1 : Int32)), .val (.int bv), .val (.ref b393), .val (.ref b397), .val (.ref ux399), .val (.int (1 : Int32)), .unset]) rfl k) ?_
      show own_Go _ _ _ _ (T408.setTop (mkF m 109 #[.val (.int cv), .val (.int iv), .val (.int fv), .val (.int (1 : Int32)), .val (.int bv), .val (.ref b393), .val (.ref b397), .val (.ref ux399), .val (.int (1 : Int32)), .unset] []))
      refine own_go (fun t k => XS.aload X408.here hx rfl (hb hby at_109) rfl rfl k) ?_
      have f409 := (Fy399.keep K405q (ninS (Ne.symm (Nat.ne_of_lt (Nat.lt_of_lt_of_le hi393 (Nat.le_trans (Nat.le_trans (Nat.le_trans K394q.1 K396q.1) E397.1) lo399)))) (ninS (Ne.symm (Nat.ne_of_lt (Nat.lt_of_lt_of_le hi396 (Nat.le_trans E397.1 lo399)))) nin0)))
      have f410 := (Fx399.keep K405q (ninS (Ne.symm (Nat.ne_of_lt (Nat.lt_of_lt_of_le hi393 (Nat.le_trans (Nat.le_trans (Nat.le_trans K394q.1 K396q.1) E397.1) lo399)))) (ninS (Ne.symm (Nat.ne_of_lt (Nat.lt_of_lt_of_le hi396 (Nat.le_trans E397.1 lo399)))) nin0)))
      show own_Go _ _ _ _ (T408.setTop (mkF m 111 #[.val (.int cv), .val (.int iv), .val (.int fv), .val (.int (1 : Int32)), .val (.int bv), .val (.ref b393), .val (.ref b397), .val (.ref ux399), .val (.int (1 : Int32)), .unset] [(.ref ux399)]))
      obtain ⟨cq411, kq411, q411a, q411b, q411c⟩ := isOf hZ e408 (Ex399.keep K405q)
      obtain ⟨_, _, ⟨T411, L411, k411, n411⟩, -, X411, ⟨Lc411, hQ411, l411, y411, z411⟩, st411⟩ := X408.interfaceBack hx (xi := (⟨"java/util/List", "size", "()I"⟩ : MethodName)) (y := (⟨"java/util/ImmutableCollections$List12", "size", "()I"⟩ : MethodName)) hown (mvT hZ (w_124 hw)) (mvT hZ (w_125 hw)) (mvT hZ (w_126 hw)) (mvT hZ (w_127 hw)) (mvT hZ (w_128 hw)) (mvT hZ (w_129 hw)) (mvT hZ (w_130 hw)) (mvT hZ (w_131 hw)) (by decide) (backOf (W := 0) (rm_s12_1 l Z a0 hw [] ux399 ue ude kde uel uem kem uemp urec umi h405 n0 Z405 f409 f410 f407 hF) hZ (w_133 hw) (w_132 hw) (by decide) (by decide)) q411a q411b q411c (g := (mkF m 111 #[.val (.int cv), .val (.int iv), .val (.int fv), .val (.int (1 : Int32)), .val (.int bv), .val (.ref b393), .val (.ref b397), .val (.ref ux399), .val (.int (1 : Int32)), .unset] [(.ref ux399)])) rfl (by rw [hml]; rfl) (Steps.refl _) (argsL := []) (rest := []) (lenOf pd_17 rfl) rfl (by show 2 * 0 + _ ≤ _; exact Nat.le_of_eq rfl) (hb hby at_111) (fun _ _ => ⟨rfl, e408, (by decide : 5 + 0 ≤ _), (by decide : 19 + 0 ≤ _)⟩)
      dsimp only [Pt.U, Pt.locs, Pt.cells, Pt.slots] at X411 l411 y411 z411 st411 hQ411
      subst l411 y411 z411
      obtain ⟨rfl, N411q, e411⟩ := hQ411
      have N411 := Fr.app N408 N411q
      refine own_go (fun t k => st411.trans k) ?_
      show own_Go _ _ _ _ (T411.setTop (mkF m 116 #[.val (.int cv), .val (.int iv), .val (.int fv), .val (.int (1 : Int32)), .val (.int bv), .val (.ref b393), .val (.ref b397), .val (.ref ux399), .val (.int (1 : Int32)), .unset] [(.int (1 : Int32))]))
      refine own_go (fun t k => XS.iload X411.here hx rfl (hb hby at_116) rfl k) ?_
      show own_Go _ _ _ _ (T411.setTop (mkF m 118 #[.val (.int cv), .val (.int iv), .val (.int fv), .val (.int (1 : Int32)), .val (.int bv), .val (.ref b393), .val (.ref b397), .val (.ref ux399), .val (.int (1 : Int32)), .unset] [(.int (1 : Int32)), (.int (1 : Int32))]))
      refine own_go (fun t k => XS.icmpYes X411.here hx rfl (pc0 := 118) (pc' := 123) rfl (hb hby at_118) rfl (teq (by decide : (1 : Int32) = (1 : Int32))).1 (by decide) (by decide) k) ?_
      show own_Go _ _ _ _ (T411.setTop (mkF m 123 #[.val (.int cv), .val (.int iv), .val (.int fv), .val (.int (1 : Int32)), .val (.int bv), .val (.ref b393), .val (.ref b397), .val (.ref ux399), .val (.int (1 : Int32)), .unset] []))
      refine own_go (fun t k => XS.aload X411.here hx rfl (hb hby at_123) rfl rfl k) ?_
      show own_Go _ _ _ _ (T411.setTop (mkF m 125 #[.val (.int cv), .val (.int iv), .val (.int fv), .val (.int (1 : Int32)), .val (.int bv), .val (.ref b393), .val (.ref b397), .val (.ref ux399), .val (.int (1 : Int32)), .unset] [(.ref ux399)]))
      refine own_go (fun t k => XS.iconst X411.here hx rfl (hb hby at_125) k) ?_
      show own_Go _ _ _ _ (T411.setTop (mkF m 126 #[.val (.int cv), .val (.int iv), .val (.int fv), .val (.int (1 : Int32)), .val (.int bv), .val (.ref b393), .val (.ref b397), .val (.ref ux399), .val (.int (1 : Int32)), .unset] [(.int (0 : Int32)), (.ref ux399)]))
      obtain ⟨cq412, kq412, q412a, q412b, q412c⟩ := isOf hZ e411 (Ex399.keep K405q)
      obtain ⟨_, _, ⟨T412, L412, k412, n412⟩, -, X412, ⟨Lc412, hQ412, l412, y412, z412⟩, st412⟩ := X411.interfaceBack hx (xi := (⟨"java/util/List", "get", "(I)Ljava/lang/Object;"⟩ : MethodName)) (y := (⟨"java/util/ImmutableCollections$List12", "get", "(I)Ljava/lang/Object;"⟩ : MethodName)) hown (mvT hZ (w_137 hw)) (mvT hZ (w_138 hw)) (mvT hZ (w_139 hw)) (mvT hZ (w_140 hw)) (mvT hZ (w_141 hw)) (mvT hZ (w_142 hw)) (mvT hZ (w_143 hw)) (mvT hZ (w_131 hw)) (by decide) (backOf (W := 0) (rm_g12_1_0 l Z a0 hw [] ux399 ue ude kde uel uem kem uemp urec umi h405 n0 Z405 f409 f410 f407 hF) hZ (w_144 hw) (w_132 hw) (by decide) (by decide)) q412a q412b q412c (g := (mkF m 126 #[.val (.int cv), .val (.int iv), .val (.int fv), .val (.int (1 : Int32)), .val (.int bv), .val (.ref b393), .val (.ref b397), .val (.ref ux399), .val (.int (1 : Int32)), .unset] [(.int (0 : Int32)), (.ref ux399)])) rfl (by rw [hml]; rfl) (Steps.refl _) (argsL := [(.int (0 : Int32))]) (rest := []) (lenOf pd_18 rfl) rfl (by show 2 * 0 + _ ≤ _; exact Nat.le_of_eq rfl) (hb hby at_126) (fun _ _ => ⟨rfl, e411, (by decide : 5 + 0 ≤ _), (by decide : 19 + 0 ≤ _)⟩)
      dsimp only [Pt.U, Pt.locs, Pt.cells, Pt.slots] at X412 l412 y412 z412 st412 hQ412
      subst l412 y412 z412
      obtain ⟨rfl, N412q, e412⟩ := hQ412
      have N412 := Fr.app N411 N412q
      refine own_go (fun t k => st412.trans k) ?_
      show own_Go _ _ _ _ (T412.setTop (mkF m 131 #[.val (.int cv), .val (.int iv), .val (.int fv), .val (.int (1 : Int32)), .val (.int bv), .val (.ref b393), .val (.ref b397), .val (.ref ux399), .val (.int (1 : Int32)), .unset] [(.ref ue)]))
      obtain ⟨T413, X413, e413, st413⟩ := getS2 X412 hx hZ hown (host := "") (Or.inl (w_73 hw)) Via.refl e412 (Se.ext f407.2) (g := (mkF m 131 #[.val (.int cv), .val (.int iv), .val (.int fv), .val (.int (1 : Int32)), .val (.int bv), .val (.ref b393), .val (.ref b397), .val (.ref ux399), .val (.int (1 : Int32)), .unset] [(.ref ue)])) rfl (hb hby at_131)
      refine own_go st413 ?_
      show own_Go _ _ _ _ (T413.setTop (mkF m 134 #[.val (.int cv), .val (.int iv), .val (.int fv), .val (.int (1 : Int32)), .val (.int bv), .val (.ref b393), .val (.ref b397), .val (.ref ux399), .val (.int (1 : Int32)), .unset] [(.ref ue), (.ref ue)]))
      refine own_go (fun t k => Jvm.RoadKit.acmp (g := (mkF m 134 #[.val (.int cv), .val (.int iv), .val (.int fv), .val (.int (1 : Int32)), .val (.int bv), .val (.ref b393), .val (.ref b397), .val (.ref ux399), .val (.int (1 : Int32)), .unset] [(.ref ue), (.ref ue)])) X413 hx rfl rfl rfl (pc0 := 134) (pc' := 137) (same := true) rfl (hb hby at_134) rfl (decide_eq_true rfl) (by decide) (by decide) k) ?_
      show own_Go _ _ _ _ (T413.setTop (mkF m 137 #[.val (.int cv), .val (.int iv), .val (.int fv), .val (.int (1 : Int32)), .val (.int bv), .val (.ref b393), .val (.ref b397), .val (.ref ux399), .val (.int (1 : Int32)), .unset] []))
      refine own_go (fun t k => XS.iconst X413.here hx rfl (hb hby at_137) k) ?_
      show own_Go _ _ _ _ (T413.setTop (mkF m 138 #[.val (.int cv), .val (.int iv), .val (.int fv), .val (.int (1 : Int32)), .val (.int bv), .val (.ref b393), .val (.ref b397), .val (.ref ux399), .val (.int (1 : Int32)), .unset] [(.int (1 : Int32))]))
      refine own_go (fun t k => XS.goto X413.here hx rfl (pc0 := 138) (pc' := 142) rfl (hb hby at_138) (by decide) (by decide) k) ?_
      show own_Go _ _ _ _ (T413.setTop (mkF m 142 #[.val (.int cv), .val (.int iv), .val (.int fv), .val (.int (1 : Int32)), .val (.int bv), .val (.ref b393), .val (.ref b397), .val (.ref ux399), .val (.int (1 : Int32)), .unset] [(.int (1 : Int32))]))
      refine own_go (fun t k => XS.istore X413.here hx rfl (hb hby at_142) rfl (l' := #[.val (.int cv), .val (.int iv), .val (.int fv), .val (.int (1 : Int32)), .val (.int bv), .val (.ref b393), .val (.ref b397), .val (.ref ux399), .val (.int (1 : Int32)), .val (.int (1 : Int32))]) rfl k) ?_
      show own_Go _ _ _ _ (T413.setTop (mkF m 144 #[.val (.int cv), .val (.int iv), .val (.int fv), .val (.int (1 : Int32)), .val (.int bv), .val (.ref b393), .val (.ref b397), .val (.ref ux399), .val (.int (1 : Int32)), .val (.int (1 : Int32))] []))
      refine own_go (fun t k => XS.iload X413.here hx rfl (hb hby at_144) rfl k) ?_
      show own_Go _ _ _ _ (T413.setTop (mkF m 146 #[.val (.int cv), .val (.int iv), .val (.int fv), .val (.int (1 : Int32)), .val (.int bv), .val (.ref b393), .val (.ref b397), .val (.ref ux399), .val (.int (1 : Int32)), .val (.int (1 : Int32))] [(.int (1 : Int32))]))
      refine own_go (fun t k => XS.iconst X413.here hx rfl (hb hby at_146) k) ?_
      show own_Go _ _ _ _ (T413.setTop (mkF m 147 #[.val (.int cv), .val (.int iv), .val (.int fv), .val (.int (1 : Int32)), .val (.int bv), .val (.ref b393), .val (.ref b397), .val (.ref ux399), .val (.int (1 : Int32)), .val (.int (1 : Int32))] [(.int (2 : Int32)), (.int (1 : Int32))]))
      refine own_go (fun t k => XS.icmpYes X413.here hx rfl (pc0 := 147) (pc' := 176) rfl (hb hby at_147) rfl (tlt (by decide : (1 : Int32) < (2 : Int32))).1 (by decide) (by decide) k) ?_
      show own_Go _ _ _ _ (T413.setTop (mkF m 176 #[.val (.int cv), .val (.int iv), .val (.int fv), .val (.int (1 : Int32)), .val (.int bv), .val (.ref b393), .val (.ref b397), .val (.ref ux399), .val (.int (1 : Int32)), .val (.int (1 : Int32))] []))
      refine own_go (fun t k => XS.iload X413.here hx rfl (hb hby at_176) rfl k) ?_
      show own_Go _ _ _ _ (T413.setTop (mkF m 178 #[.val (.int cv), .val (.int iv), .val (.int fv), .val (.int (1 : Int32)), .val (.int bv), .val (.ref b393), .val (.ref b397), .val (.ref ux399), .val (.int (1 : Int32)), .val (.int (1 : Int32))] [(.int (1 : Int32))]))
      refine own_go (fun t k => XS.iconst X413.here hx rfl (hb hby at_178) k) ?_
      show own_Go _ _ _ _ (T413.setTop (mkF m 179 #[.val (.int cv), .val (.int iv), .val (.int fv), .val (.int (1 : Int32)), .val (.int bv), .val (.ref b393), .val (.ref b397), .val (.ref ux399), .val (.int (1 : Int32)), .val (.int (1 : Int32))] [(.int (3 : Int32)), (.int (1 : Int32))]))
      refine own_go (fun t k => XS.icmpYes X413.here hx rfl (pc0 := 179) (pc' := 208) rfl (hb hby at_179) rfl (tlt (by decide : (1 : Int32) < (3 : Int32))).1 (by decide) (by decide) k) ?_
      show own_Go _ _ _ _ (T413.setTop (mkF m 208 #[.val (.int cv), .val (.int iv), .val (.int fv), .val (.int (1 : Int32)), .val (.int bv), .val (.ref b393), .val (.ref b397), .val (.ref ux399), .val (.int (1 : Int32)), .val (.int (1 : Int32))] []))
      refine own_go (fun t k => XS.iload X413.here hx rfl (hb hby at_208) rfl k) ?_
      show own_Go _ _ _ _ (T413.setTop (mkF m 210 #[.val (.int cv), .val (.int iv), .val (.int fv), .val (.int (1 : Int32)), .val (.int bv), .val (.ref b393), .val (.ref b397), .val (.ref ux399), .val (.int (1 : Int32)), .val (.int (1 : Int32))] [(.int (1 : Int32))]))
      refine own_go (fun t k => XS.ifNo X413.here hx rfl (hb hby at_210) rfl ((if0 _ _).trans (feq (by decide : ¬ ((1 : Int32) = (0 : Int32)))).1) k) ?_
      show own_Go _ _ _ _ (T413.setTop (mkF m 213 #[.val (.int cv), .val (.int iv), .val (.int fv), .val (.int (1 : Int32)), .val (.int bv), .val (.ref b393), .val (.ref b397), .val (.ref ux399), .val (.int (1 : Int32)), .val (.int (1 : Int32))] []))
      refine own_go (fun t k => XS.aload X413.here hx rfl (hb hby at_213) rfl rfl k) ?_
      have f414 := (Ga399.keep K405q (ninS (Ne.symm (Nat.ne_of_lt (Nat.lt_of_lt_of_le hi393 (Nat.le_trans (Nat.le_trans K394q.1 K396q.1) lo397)))) (ninS (Ne.symm (Nat.ne_of_lt (Nat.lt_of_lt_of_le hi396 lo397))) nin0)))
      show own_Go _ _ _ _ (T413.setTop (mkF m 215 #[.val (.int cv), .val (.int iv), .val (.int fv), .val (.int (1 : Int32)), .val (.int bv), .val (.ref b393), .val (.ref b397), .val (.ref ux399), .val (.int (1 : Int32)), .val (.int (1 : Int32))] [(.ref b397)]))
      obtain ⟨cq415, kq415, q415a, q415b, q415c⟩ := isOf hZ e413 ((A397.keep K399q).keep K405q)
      obtain ⟨_, _, ⟨T415, L415, k415, n415⟩, -, X415, ⟨Lc415, hQ415, l415, y415, z415⟩, st415⟩ := X413.virtualBack hx (y := (⟨"com/example/grantfold/grantfold/model/Setting", "allowed", "()Z"⟩ : MethodName)) (z := (⟨"com/example/grantfold/grantfold/model/Setting", "allowed", "()Z"⟩ : MethodName)) hown (mvT hZ (w_147 hw)) (mvT hZ (w_148 hw)) (notFace_of_selects (args := #[]) (mvT hZ (w_150 hw))) (mvT hZ (w_150 hw)) (mvT hZ (w_149 hw)) (by decide) (backOf (W := 0) (rm_alw l Z a0 hw [] b397 bv h405 n0 Z405 f414 hbv) hZ (w_151 hw) (w_28 hw) (by decide) (by decide)) q415a q415c (g := (mkF m 215 #[.val (.int cv), .val (.int iv), .val (.int fv), .val (.int (1 : Int32)), .val (.int bv), .val (.ref b393), .val (.ref b397), .val (.ref ux399), .val (.int (1 : Int32)), .val (.int (1 : Int32))] [(.ref b397)])) rfl (by rw [hml]; rfl) (Steps.refl _) (argsL := []) (rest := []) (lenOf pd_12 rfl) rfl (by show 2 * 0 + _ ≤ _; exact Nat.le_of_eq rfl) (hb hby at_215) (fun _ _ => ⟨rfl, e413, (by decide : 5 + 0 ≤ _), (by decide : 19 + 0 ≤ _)⟩)
      dsimp only [Pt.U, Pt.locs, Pt.cells, Pt.slots] at X415 l415 y415 z415 st415 hQ415
      subst l415 y415 z415
      obtain ⟨rfl, N415q, e415⟩ := hQ415
      have N415 := Fr.app N412 N415q
      refine own_go (fun t k => st415.trans k) ?_
      show own_Go _ _ _ _ (T415.setTop (mkF m 218 #[.val (.int cv), .val (.int iv), .val (.int fv), .val (.int (1 : Int32)), .val (.int bv), .val (.ref b393), .val (.ref b397), .val (.ref ux399), .val (.int (1 : Int32)), .val (.int (1 : Int32))] [(.int bv)]))
      refine own_go (fun t k => XS.iload X415.here hx rfl (hb hby at_218) rfl k) ?_
      show own_Go _ _ _ _ (T415.setTop (mkF m 220 #[.val (.int cv), .val (.int iv), .val (.int fv), .val (.int (1 : Int32)), .val (.int bv), .val (.ref b393), .val (.ref b397), .val (.ref ux399), .val (.int (1 : Int32)), .val (.int (1 : Int32))] [(.int bv), (.int bv)]))
      refine own_go (fun t k => XS.icmpNo X415.here hx rfl (hb hby at_220) rfl (teq (rfl : bv = bv)).2 k) ?_
      show own_Go _ _ _ _ (T415.setTop (mkF m 223 #[.val (.int cv), .val (.int iv), .val (.int fv), .val (.int (1 : Int32)), .val (.int bv), .val (.ref b393), .val (.ref b397), .val (.ref ux399), .val (.int (1 : Int32)), .val (.int (1 : Int32))] []))
      refine own_go (fun t k => XS.aload X415.here hx rfl (hb hby at_223) rfl rfl k) ?_
      have f416 := (Gb399.keep K405q (ninS (Ne.symm (Nat.ne_of_lt (Nat.lt_of_lt_of_le hi393 (Nat.le_trans (Nat.le_trans K394q.1 K396q.1) lo397)))) (ninS (Ne.symm (Nat.ne_of_lt (Nat.lt_of_lt_of_le hi396 lo397))) nin0)))
      show own_Go _ _ _ _ (T415.setTop (mkF m 225 #[.val (.int cv), .val (.int iv), .val (.int fv), .val (.int (1 : Int32)), .val (.int bv), .val (.ref b393), .val (.ref b397), .val (.ref ux399), .val (.int (1 : Int32)), .val (.int (1 : Int32))] [(.ref b397)]))
      obtain ⟨cq417, kq417, q417a, q417b, q417c⟩ := isOf hZ e415 ((A397.keep K399q).keep K405q)
      obtain ⟨_, _, ⟨T417, L417, k417, n417⟩, -, X417, ⟨Lc417, hQ417, l417, y417, z417⟩, st417⟩ := X415.virtualBack hx (y := (⟨"com/example/grantfold/grantfold/model/Setting", "line", "()I"⟩ : MethodName)) (z := (⟨"com/example/grantfold/grantfold/model/Setting", "line", "()I"⟩ : MethodName)) hown (mvT hZ (w_152 hw)) (mvT hZ (w_153 hw)) (notFace_of_selects (args := #[]) (mvT hZ (w_155 hw))) (mvT hZ (w_155 hw)) (mvT hZ (w_154 hw)) (by decide) (backOf (W := 0) (rm_lin l Z a0 hw [] b397 iv h405 n0 Z405 f416) hZ (w_156 hw) (w_28 hw) (by decide) (by decide)) q417a q417c (g := (mkF m 225 #[.val (.int cv), .val (.int iv), .val (.int fv), .val (.int (1 : Int32)), .val (.int bv), .val (.ref b393), .val (.ref b397), .val (.ref ux399), .val (.int (1 : Int32)), .val (.int (1 : Int32))] [(.ref b397)])) rfl (by rw [hml]; rfl) (Steps.refl _) (argsL := []) (rest := []) (lenOf pd_17 rfl) rfl (by show 2 * 0 + _ ≤ _; exact Nat.le_of_eq rfl) (hb hby at_225) (fun _ _ => ⟨rfl, e415, (by decide : 5 + 0 ≤ _), (by decide : 19 + 0 ≤ _)⟩)
      dsimp only [Pt.U, Pt.locs, Pt.cells, Pt.slots] at X417 l417 y417 z417 st417 hQ417
      subst l417 y417 z417
      obtain ⟨rfl, N417q, e417⟩ := hQ417
      have N417 := Fr.app N415 N417q
      refine own_go (fun t k => st417.trans k) ?_
      show own_Go _ _ _ _ (T417.setTop (mkF m 228 #[.val (.int cv), .val (.int iv), .val (.int fv), .val (.int (1 : Int32)), .val (.int bv), .val (.ref b393), .val (.ref b397), .val (.ref ux399), .val (.int (1 : Int32)), .val (.int (1 : Int32))] [(.int iv)]))
      refine own_go (fun t k => XS.iloadN X417.here hx rfl (hb hby at_228) rfl k) ?_
      show own_Go _ _ _ _ (T417.setTop (mkF m 229 #[.val (.int cv), .val (.int iv), .val (.int fv), .val (.int (1 : Int32)), .val (.int bv), .val (.ref b393), .val (.ref b397), .val (.ref ux399), .val (.int (1 : Int32)), .val (.int (1 : Int32))] [(.int iv), (.int iv)]))
      refine own_go (fun t k => XS.icmpNo X417.here hx rfl (hb hby at_229) rfl (teq (rfl : iv = iv)).2 k) ?_
      show own_Go _ _ _ _ (T417.setTop (mkF m 232 #[.val (.int cv), .val (.int iv), .val (.int fv), .val (.int (1 : Int32)), .val (.int bv), .val (.ref b393), .val (.ref b397), .val (.ref ux399), .val (.int (1 : Int32)), .val (.int (1 : Int32))] []))
      refine own_go (fun t k => XS.iconst X417.here hx rfl (hb hby at_232) k) ?_
      show own_Go _ _ _ _ (T417.setTop (mkF m 233 #[.val (.int cv), .val (.int iv), .val (.int fv), .val (.int (1 : Int32)), .val (.int bv), .val (.ref b393), .val (.ref b397), .val (.ref ux399), .val (.int (1 : Int32)), .val (.int (1 : Int32))] [(.int (1 : Int32))]))
      refine own_go (fun t k => XS.goto X417.here hx rfl (pc0 := 233) (pc' := 237) rfl (hb hby at_233) (by decide) (by decide) k) ?_
      show own_Go _ _ _ _ (T417.setTop (mkF m 237 #[.val (.int cv), .val (.int iv), .val (.int fv), .val (.int (1 : Int32)), .val (.int bv), .val (.ref b393), .val (.ref b397), .val (.ref ux399), .val (.int (1 : Int32)), .val (.int (1 : Int32))] [(.int (1 : Int32))]))
      refine own_retN X417 hx hlk (t := .boolean) hret (by simp) (hb hby at_237) ?_ (by decide) (by decide)
      rw [e417]
      exact ⟨rfl, N417⟩
    show own_Go _ _ _ _ (s₁.setTop (mkF m 4 #[.val (.int cv), .val (.int iv), .val (.int fv), .val (.int (1 : Int32)), .unset, .unset, .unset, .unset, .unset, .unset] []))
    show own_Go _ _ _ _ (s₁.setTop (mkF m 4 #[.val (.int cv), .val (.int iv), .val (.int fv), .val (.int (1 : Int32)), .unset, .unset, .unset, .unset, .unset, .unset] []))
    refine own_go (fun t k => XS.iloadN X0.here hx rfl (hb hby at_4) rfl k) ?_
    show own_Go _ _ _ _ (s₁.setTop (mkF m 5 #[.val (.int cv), .val (.int iv), .val (.int fv), .val (.int (1 : Int32)), .unset, .unset, .unset, .unset, .unset, .unset] [(.int fv)]))
    refine own_go (fun t k => XS.iconst X0.here hx rfl (hb hby at_5) k) ?_
    show own_Go _ _ _ _ (s₁.setTop (mkF m 6 #[.val (.int cv), .val (.int iv), .val (.int fv), .val (.int (1 : Int32)), .unset, .unset, .unset, .unset, .unset, .unset] [(.int (1 : Int32)), (.int fv)]))
    refine own_go (fun t k => XS.iand X0.here hx rfl (hb hby at_6) rfl k) ?_
    by_cases hc418 : (fv &&& (1 : Int32)) = (0 : Int32)
    · show own_Go _ _ _ _ (s₁.setTop (mkF m 7 #[.val (.int cv), .val (.int iv), .val (.int fv), .val (.int (1 : Int32)), .unset, .unset, .unset, .unset, .unset, .unset] [(.int (fv &&& (1 : Int32)))]))
      refine own_go (fun t k => XS.ifYes X0.here hx rfl (pc0 := 7) (pc' := 14) rfl (hb hby at_7) rfl ((if0 _ _).trans (teq hc418).1) (by decide) (by decide) k) ?_
      show own_Go _ _ _ _ (s₁.setTop (mkF m 14 #[.val (.int cv), .val (.int iv), .val (.int fv), .val (.int (1 : Int32)), .unset, .unset, .unset, .unset, .unset, .unset] []))
      refine own_go (fun t k => XS.iconst X0.here hx rfl (hb hby at_14) k) ?_
      exact J _ (by decide)
    · show own_Go _ _ _ _ (s₁.setTop (mkF m 7 #[.val (.int cv), .val (.int iv), .val (.int fv), .val (.int (1 : Int32)), .unset, .unset, .unset, .unset, .unset, .unset] [(.int (fv &&& (1 : Int32)))]))
      refine own_go (fun t k => XS.ifNo X0.here hx rfl (hb hby at_7) rfl ((if0 _ _).trans (feq hc418).1) k) ?_
      show own_Go _ _ _ _ (s₁.setTop (mkF m 10 #[.val (.int cv), .val (.int iv), .val (.int fv), .val (.int (1 : Int32)), .unset, .unset, .unset, .unset, .unset, .unset] []))
      refine own_go (fun t k => XS.iconst X0.here hx rfl (hb hby at_10) k) ?_
      show own_Go _ _ _ _ (s₁.setTop (mkF m 11 #[.val (.int cv), .val (.int iv), .val (.int fv), .val (.int (1 : Int32)), .unset, .unset, .unset, .unset, .unset, .unset] [(.int (1 : Int32))]))
      refine own_go (fun t k => XS.goto X0.here hx rfl (pc0 := 11) (pc' := 15) rfl (hb hby at_11) (by decide) (by decide) k) ?_
      exact J _ (by decide)
  · show own_Go _ _ _ _ (s₁.setTop (mkF m 3 #[.val (.int cv), .val (.int iv), .val (.int fv), .unset, .unset, .unset, .unset, .unset, .unset, .unset] [(.int (2 : Int32))]))
    refine own_go (fun t k => XS.istoreN X0.here hx rfl (hb hby at_3) rfl (l' := #[.val (.int cv), .val (.int iv), .val (.int fv), .val (.int (2 : Int32)), .unset, .unset, .unset, .unset, .unset, .unset]) rfl k) ?_
    have J : ∀ bv : Int32, nar .boolean bv = bv → own_Go p e below (own_Fin s room_1.cells room_1.slots (Q_law Z cv iv fv ue ude kde uel uem kem uemp urec umi h0 n0)) (s₁.setTop (mkF m 15 #[.val (.int cv), .val (.int iv), .val (.int fv), .val (.int (2 : Int32)), .unset, .unset, .unset, .unset, .unset, .unset] [(.int bv)])) := by
      intro bv hbv
      show own_Go _ _ _ _ (s₁.setTop (mkF m 15 #[.val (.int cv), .val (.int iv), .val (.int fv), .val (.int (2 : Int32)), .unset, .unset, .unset, .unset, .unset, .unset] [(.int bv)]))
      refine own_go (fun t k => XS.istore X0.here hx rfl (hb hby at_15) rfl (l' := #[.val (.int cv), .val (.int iv), .val (.int fv), .val (.int (2 : Int32)), .val (.int bv), .unset, .unset, .unset, .unset, .unset]) rfl k) ?_
      show own_Go _ _ _ _ (s₁.setTop (mkF m 17 #[.val (.int cv), .val (.int iv), .val (.int fv), .val (.int (2 : Int32)), .val (.int bv), .unset, .unset, .unset, .unset, .unset] []))
      obtain ⟨T419, h419, X419, e419, E419, A419, D419, -, st419⟩ := newO X0 hx hZ hown (w_0 hw) (w_1 hw) (w_2 hw) e0 (g := (mkF m 17 #[.val (.int cv), .val (.int iv), .val (.int fv), .val (.int (2 : Int32)), .val (.int bv), .unset, .unset, .unset, .unset, .unset] [])) rfl (hb hby at_17) (by decide) (by decide)
      obtain ⟨b419, g419⟩ : ∃ z, z = h0.size := ⟨_, rfl⟩
      rw [← g419] at A419 D419 st419
      refine own_go st419 ?_
      have Z419 : n0 ≤ h419.size := (Nat.le_trans Z0 E419.1)
      have lo419 : h0.size ≤ b419 := Nat.le_of_eq g419.symm
      have q419 : n0 ≤ b419 := Nat.le_trans Z0 lo419
      have hi419 : b419 < h419.size := A419.lt
      have F419_22 : Fld Z h419 b419 "java/util/AbstractList" "modCount" "I" (.int (0 : Int32)) := D419 (Or.inl (w_22 hw)) (ty := .int) (by decide)
      have F419_25 : Fld Z h419 b419 "java/util/ArrayList" "elementData" "[Ljava/lang/Object;" .null := D419 (Or.inl (w_25 hw)) (ty := (.array (.object "java/lang/Object"))) (by decide)
      have F419_62 : Fld Z h419 b419 "java/util/ArrayList" "size" "I" (.int (0 : Int32)) := D419 (Or.inl (w_62 hw)) (ty := .int) (by decide)
      show own_Go _ _ _ _ (T419.setTop (mkF m 20 #[.val (.int cv), .val (.int iv), .val (.int fv), .val (.int (2 : Int32)), .val (.int bv), .unset, .unset, .unset, .unset, .unset] [(.ref b419)]))
      refine own_go (fun t k => XS.dup X419.here hx rfl (hb hby at_20) rfl rfl k) ?_
      show own_Go _ _ _ _ (T419.setTop (mkF m 21 #[.val (.int cv), .val (.int iv), .val (.int fv), .val (.int (2 : Int32)), .val (.int bv), .unset, .unset, .unset, .unset, .unset] [(.ref b419), (.ref b419)]))
      obtain ⟨_, _, ⟨T420, L420, k420, n420⟩, -, X420, ⟨Lc420, hQ420, l420, y420, z420⟩, st420⟩ := X419.specialBack hx (y := (⟨"java/util/ArrayList", "<init>", "()V"⟩ : MethodName)) rfl hown (mvT hZ (w_3 hw)) (mvT hZ (w_4 hw)) (mvT hZ (w_5 hw)) (by decide) (backOf (W := 1) (rm_ali l Z a0 hw [] b419 ue ude kde uel uem kem uemp urec umi h419 n0 Z419 q419 A419 F419_22 F419_25 F419_62 (O0.ext E419) hF) hZ (w_5 hw) (w_2 hw) (by decide) (by decide)) (g := (mkF m 21 #[.val (.int cv), .val (.int iv), .val (.int fv), .val (.int (2 : Int32)), .val (.int bv), .unset, .unset, .unset, .unset, .unset] [(.ref b419), (.ref b419)])) rfl (by rw [hml]; rfl) (Steps.refl _) (a := b419) (argsL := []) (rest := [(.ref b419)]) (lenOf pd_0 rfl) rfl (by show 2 * 0 + _ ≤ _; exact Nat.le_of_eq rfl) (hb hby at_21) (fun _ _ => ⟨rfl, e419, (by decide : 1 + 0 ≤ _), (by decide : 3 + 0 ≤ _)⟩)
      dsimp only [Pt.U, Pt.locs, Pt.cells, Pt.slots] at X420 l420 y420 z420 st420 hQ420
      subst l420 y420 z420
      generalize e420 : T420.heap = h420 at hQ420
      obtain ⟨rfl, N420q, K420q, Fa420, Fb420, Fc420⟩ := hQ420
      have N420 := Fr.app N0 N420q
      refine own_go (fun t k => st420.trans k) ?_
      have Z420 : n0 ≤ h420.size := (Nat.le_trans Z419 K420q.1)
      show own_Go _ _ _ _ (T420.setTop (mkF m 24 #[.val (.int cv), .val (.int iv), .val (.int fv), .val (.int (2 : Int32)), .val (.int bv), .unset, .unset, .unset, .unset, .unset] [(.ref b419)]))
      refine own_go (fun t k => XS.astore X420.here hx rfl (hb hby at_24) rfl rfl (l' := #[.val (.int cv), .val (.int iv), .val (.int fv), .val (.int (2 : Int32)), .val (.int bv), .val (.ref b419), .unset, .unset, .unset, .unset]) rfl k) ?_
      show own_Go _ _ _ _ (T420.setTop (mkF m 26 #[.val (.int cv), .val (.int iv), .val (.int fv), .val (.int (2 : Int32)), .val (.int bv), .val (.ref b419), .unset, .unset, .unset, .unset] []))
      refine own_go (fun t k => XS.iloadN X420.here hx rfl (hb hby at_26) rfl k) ?_
      show own_Go _ _ _ _ (T420.setTop (mkF m 27 #[.val (.int cv), .val (.int iv), .val (.int fv), .val (.int (2 : Int32)), .val (.int bv), .val (.ref b419), .unset, .unset, .unset, .unset] [(.int (2 : Int32))]))
      refine own_go (fun t k => XS.iconst X420.here hx rfl (hb hby at_27) k) ?_
      show own_Go _ _ _ _ (T420.setTop (mkF m 28 #[.val (.int cv), .val (.int iv), .val (.int fv), .val (.int (2 : Int32)), .val (.int bv), .val (.ref b419), .unset, .unset, .unset, .unset] [(.int (1 : Int32)), (.int (2 : Int32))]))
      refine own_go (fun t k => XS.icmpNo X420.here hx rfl (hb hby at_28) rfl (flt (by decide : ¬ ((2 : Int32) < (1 : Int32)))).1 k) ?_
      show own_Go _ _ _ _ (T420.setTop (mkF m 31 #[.val (.int cv), .val (.int iv), .val (.int fv), .val (.int (2 : Int32)), .val (.int bv), .val (.ref b419), .unset, .unset, .unset, .unset] []))
      refine own_go (fun t k => XS.aload X420.here hx rfl (hb hby at_31) rfl rfl k) ?_
      show own_Go _ _ _ _ (T420.setTop (mkF m 33 #[.val (.int cv), .val (.int iv), .val (.int fv), .val (.int (2 : Int32)), .val (.int bv), .val (.ref b419), .unset, .unset, .unset, .unset] [(.ref b419)]))
      obtain ⟨T421, X421, e421, st421⟩ := getS2 X420 hx hZ hown (host := "") (Or.inl (w_73 hw)) Via.refl e420 (Se.ext ((O0.ext E419).keep K420q (allS q419 all0)).2) (g := (mkF m 33 #[.val (.int cv), .val (.int iv), .val (.int fv), .val (.int (2 : Int32)), .val (.int bv), .val (.ref b419), .unset, .unset, .unset, .unset] [(.ref b419)])) rfl (hb hby at_33)
      refine own_go st421 ?_
      show own_Go _ _ _ _ (T421.setTop (mkF m 36 #[.val (.int cv), .val (.int iv), .val (.int fv), .val (.int (2 : Int32)), .val (.int bv), .val (.ref b419), .unset, .unset, .unset, .unset] [(.ref ue), (.ref b419)]))
      obtain ⟨cq422, kq422, q422a, q422b, q422c⟩ := isOf hZ e421 (A419.keep K420q)
      obtain ⟨_, _, ⟨T422, L422, k422, n422⟩, -, X422, ⟨Lc422, hQ422, l422, y422, z422⟩, st422⟩ := X421.virtualBack hx (y := (⟨"java/util/ArrayList", "add", "(Ljava/lang/Object;)Z"⟩ : MethodName)) (z := (⟨"java/util/ArrayList", "add", "(Ljava/lang/Object;)Z"⟩ : MethodName)) hown (mvT hZ (w_76 hw)) (mvT hZ (w_77 hw)) (notFace_of_selects (args := #[]) (mvT hZ (w_79 hw))) (mvT hZ (w_79 hw)) (mvT hZ (w_78 hw)) (by decide) (backOf (W := 0) (rm_ad1_0 l Z a0 hw [] b419 ue ude kde uel uem kem uemp urec umi h420 n0 Z420 q419 (A419.keep K420q) Fa420 Fb420 Fc420 ((O0.ext E419).keep K420q (allS q419 all0)) hF) hZ (w_80 hw) (w_2 hw) (by decide) (by decide)) q422a q422c (g := (mkF m 36 #[.val (.int cv), .val (.int iv), .val (.int fv), .val (.int (2 : Int32)), .val (.int bv), .val (.ref b419), .unset, .unset, .unset, .unset] [(.ref ue), (.ref b419)])) rfl (by rw [hml]; rfl) (Steps.refl _) (argsL := [(.ref ue)]) (rest := []) (lenOf pd_16 rfl) rfl (by show 2 * 0 + _ ≤ _; exact Nat.le_of_eq rfl) (hb hby at_36) (fun _ _ => ⟨rfl, e421, (by decide : 1 + 1 ≤ _), (by decide : 3 + 10 ≤ _)⟩)
      dsimp only [Pt.U, Pt.locs, Pt.cells, Pt.slots] at X422 l422 y422 z422 st422 hQ422
      subst l422 y422 z422
      generalize e422 : T422.heap = h422 at hQ422
      obtain ⟨ub422, kb422, rfl, N422q, K422q, lo422, q422, O422, Eb422, A422, Fa422, Fb422, Fc422⟩ := hQ422
      have N422 := Fr.app N420 N422q
      refine own_go (fun t k => st422.trans k) ?_
      have Z422 : n0 ≤ h422.size := (Nat.le_trans Z420 K422q.1)
      have hi422 := A422.lt
      show own_Go _ _ _ _ (T422.setTop (mkF m 39 #[.val (.int cv), .val (.int iv), .val (.int fv), .val (.int (2 : Int32)), .val (.int bv), .val (.ref b419), .unset, .unset, .unset, .unset] [(.int (1 : Int32))]))
      refine own_go (fun t k => XS.pop X422.here hx rfl (hb hby at_39) rfl rfl k) ?_
      show own_Go _ _ _ _ (T422.setTop (mkF m 40 #[.val (.int cv), .val (.int iv), .val (.int fv), .val (.int (2 : Int32)), .val (.int bv), .val (.ref b419), .unset, .unset, .unset, .unset] []))
      refine own_go (fun t k => XS.iloadN X422.here hx rfl (hb hby at_40) rfl k) ?_
      show own_Go _ _ _ _ (T422.setTop (mkF m 41 #[.val (.int cv), .val (.int iv), .val (.int fv), .val (.int (2 : Int32)), .val (.int bv), .val (.ref b419), .unset, .unset, .unset, .unset] [(.int (2 : Int32))]))
      refine own_go (fun t k => XS.iconst X422.here hx rfl (hb hby at_41) k) ?_
      show own_Go _ _ _ _ (T422.setTop (mkF m 42 #[.val (.int cv), .val (.int iv), .val (.int fv), .val (.int (2 : Int32)), .val (.int bv), .val (.ref b419), .unset, .unset, .unset, .unset] [(.int (2 : Int32)), (.int (2 : Int32))]))
      refine own_go (fun t k => XS.icmpNo X422.here hx rfl (hb hby at_42) rfl (flt (by decide : ¬ ((2 : Int32) < (2 : Int32)))).1 k) ?_
      show own_Go _ _ _ _ (T422.setTop (mkF m 45 #[.val (.int cv), .val (.int iv), .val (.int fv), .val (.int (2 : Int32)), .val (.int bv), .val (.ref b419), .unset, .unset, .unset, .unset] []))
      refine own_go (fun t k => XS.aload X422.here hx rfl (hb hby at_45) rfl rfl k) ?_
      show own_Go _ _ _ _ (T422.setTop (mkF m 47 #[.val (.int cv), .val (.int iv), .val (.int fv), .val (.int (2 : Int32)), .val (.int bv), .val (.ref b419), .unset, .unset, .unset, .unset] [(.ref b419)]))
      have f423 := (((O0.ext E419).keep K420q (allS q419 all0)).keep K422q (allS q419 all0))
      obtain ⟨T424, X424, e424, st424⟩ := getS2 X422 hx hZ hown (host := "") (Or.inl (w_73 hw)) Via.refl e422 (Se.ext f423.2) (g := (mkF m 47 #[.val (.int cv), .val (.int iv), .val (.int fv), .val (.int (2 : Int32)), .val (.int bv), .val (.ref b419), .unset, .unset, .unset, .unset] [(.ref b419)])) rfl (hb hby at_47)
      refine own_go st424 ?_
      show own_Go _ _ _ _ (T424.setTop (mkF m 50 #[.val (.int cv), .val (.int iv), .val (.int fv), .val (.int (2 : Int32)), .val (.int bv), .val (.ref b419), .unset, .unset, .unset, .unset] [(.ref ue), (.ref b419)]))
      obtain ⟨cq425, kq425, q425a, q425b, q425c⟩ := isOf hZ e424 ((A419.keep K420q).keep K422q)
      obtain ⟨_, _, ⟨T425, L425, k425, n425⟩, -, X425, ⟨Lc425, hQ425, l425, y425, z425⟩, st425⟩ := X424.virtualBack hx (y := (⟨"java/util/ArrayList", "add", "(Ljava/lang/Object;)Z"⟩ : MethodName)) (z := (⟨"java/util/ArrayList", "add", "(Ljava/lang/Object;)Z"⟩ : MethodName)) hown (mvT hZ (w_76 hw)) (mvT hZ (w_77 hw)) (notFace_of_selects (args := #[]) (mvT hZ (w_79 hw))) (mvT hZ (w_79 hw)) (mvT hZ (w_78 hw)) (by decide) (backOf (W := 0) (rm_ad1_1 l Z a0 hw [] b419 ub422 kb422 ue ude kde uel uem kem uemp urec umi h422 n0 Z422 q419 ((A419.keep K420q).keep K422q) Fa422 Fb422 Fc422 A422 q422 O422 (Nat.ne_of_lt (Nat.lt_of_lt_of_le hi419 (Nat.le_trans K420q.1 lo422))) f423 hF) hZ (w_80 hw) (w_2 hw) (by decide) (by decide)) q425a q425c (g := (mkF m 50 #[.val (.int cv), .val (.int iv), .val (.int fv), .val (.int (2 : Int32)), .val (.int bv), .val (.ref b419), .unset, .unset, .unset, .unset] [(.ref ue), (.ref b419)])) rfl (by rw [hml]; rfl) (Steps.refl _) (argsL := [(.ref ue)]) (rest := []) (lenOf pd_16 rfl) rfl (by show 2 * 0 + _ ≤ _; exact Nat.le_of_eq rfl) (hb hby at_50) (fun _ _ => ⟨rfl, e424, (by decide : 2 + 0 ≤ _), (by decide : 13 + 0 ≤ _)⟩)
      dsimp only [Pt.U, Pt.locs, Pt.cells, Pt.slots] at X425 l425 y425 z425 st425 hQ425
      subst l425 y425 z425
      generalize e425 : T425.heap = h425 at hQ425
      obtain ⟨rfl, N425q, K425q, A425, Fa425, Fb425, Fc425⟩ := hQ425
      have N425 := Fr.app N422 N425q
      refine own_go (fun t k => st425.trans k) ?_
      have Z425 : n0 ≤ h425.size := (Nat.le_trans Z422 K425q.1)
      show own_Go _ _ _ _ (T425.setTop (mkF m 53 #[.val (.int cv), .val (.int iv), .val (.int fv), .val (.int (2 : Int32)), .val (.int bv), .val (.ref b419), .unset, .unset, .unset, .unset] [(.int (1 : Int32))]))
      refine own_go (fun t k => XS.pop X425.here hx rfl (hb hby at_53) rfl rfl k) ?_
      show own_Go _ _ _ _ (T425.setTop (mkF m 54 #[.val (.int cv), .val (.int iv), .val (.int fv), .val (.int (2 : Int32)), .val (.int bv), .val (.ref b419), .unset, .unset, .unset, .unset] []))
      refine own_go (fun t k => XS.iloadN X425.here hx rfl (hb hby at_54) rfl k) ?_
      show own_Go _ _ _ _ (T425.setTop (mkF m 55 #[.val (.int cv), .val (.int iv), .val (.int fv), .val (.int (2 : Int32)), .val (.int bv), .val (.ref b419), .unset, .unset, .unset, .unset] [(.int (2 : Int32))]))
      refine own_go (fun t k => XS.iconst X425.here hx rfl (hb hby at_55) k) ?_
      show own_Go _ _ _ _ (T425.setTop (mkF m 56 #[.val (.int cv), .val (.int iv), .val (.int fv), .val (.int (2 : Int32)), .val (.int bv), .val (.ref b419), .unset, .unset, .unset, .unset] [(.int (3 : Int32)), (.int (2 : Int32))]))
      refine own_go (fun t k => XS.icmpYes X425.here hx rfl (pc0 := 56) (pc' := 68) rfl (hb hby at_56) rfl (tlt (by decide : (2 : Int32) < (3 : Int32))).1 (by decide) (by decide) k) ?_
      show own_Go _ _ _ _ (T425.setTop (mkF m 68 #[.val (.int cv), .val (.int iv), .val (.int fv), .val (.int (2 : Int32)), .val (.int bv), .val (.ref b419), .unset, .unset, .unset, .unset] []))
      obtain ⟨T426, h426, X426, e426, E426, A426, D426, -, st426⟩ := newO X425 hx hZ hown (w_26 hw) (w_27 hw) (w_28 hw) e425 (g := (mkF m 68 #[.val (.int cv), .val (.int iv), .val (.int fv), .val (.int (2 : Int32)), .val (.int bv), .val (.ref b419), .unset, .unset, .unset, .unset] [])) rfl (hb hby at_68) (by decide) (by decide)
      obtain ⟨b426, g426⟩ : ∃ z, z = h425.size := ⟨_, rfl⟩
      rw [← g426] at A426 D426 st426
      refine own_go st426 ?_
      have Z426 : n0 ≤ h426.size := (Nat.le_trans Z425 E426.1)
      have lo426 : h425.size ≤ b426 := Nat.le_of_eq g426.symm
      have q426 : n0 ≤ b426 := Nat.le_trans Z425 lo426
      have hi426 : b426 < h426.size := A426.lt
      have F426_68 : Fld Z h426 b426 "com/example/grantfold/grantfold/model/Setting" "allowed" "Z" (.int (0 : Int32)) := D426 (Or.inr (w_68 hw)) (ty := .boolean) (by decide)
      have F426_70 : Fld Z h426 b426 "com/example/grantfold/grantfold/model/Setting" "line" "I" (.int (0 : Int32)) := D426 (Or.inr (w_70 hw)) (ty := .int) (by decide)
      have F426_72 : Fld Z h426 b426 "com/example/grantfold/grantfold/model/Setting" "where" "Ljava/util/List;" .null := D426 (Or.inr (w_72 hw)) (ty := (.object "java/util/List")) (by decide)
      show own_Go _ _ _ _ (T426.setTop (mkF m 71 #[.val (.int cv), .val (.int iv), .val (.int fv), .val (.int (2 : Int32)), .val (.int bv), .val (.ref b419), .unset, .unset, .unset, .unset] [(.ref b426)]))
      refine own_go (fun t k => XS.dup X426.here hx rfl (hb hby at_71) rfl rfl k) ?_
      show own_Go _ _ _ _ (T426.setTop (mkF m 72 #[.val (.int cv), .val (.int iv), .val (.int fv), .val (.int (2 : Int32)), .val (.int bv), .val (.ref b419), .unset, .unset, .unset, .unset] [(.ref b426), (.ref b426)]))
      refine own_go (fun t k => XS.iload X426.here hx rfl (hb hby at_72) rfl k) ?_
      show own_Go _ _ _ _ (T426.setTop (mkF m 74 #[.val (.int cv), .val (.int iv), .val (.int fv), .val (.int (2 : Int32)), .val (.int bv), .val (.ref b419), .unset, .unset, .unset, .unset] [(.int bv), (.ref b426), (.ref b426)]))
      refine own_go (fun t k => XS.iloadN X426.here hx rfl (hb hby at_74) rfl k) ?_
      show own_Go _ _ _ _ (T426.setTop (mkF m 75 #[.val (.int cv), .val (.int iv), .val (.int fv), .val (.int (2 : Int32)), .val (.int bv), .val (.ref b419), .unset, .unset, .unset, .unset] [(.int iv), (.int bv), (.ref b426), (.ref b426)]))
      refine own_go (fun t k => XS.aload X426.here hx rfl (hb hby at_75) rfl rfl k) ?_
      show own_Go _ _ _ _ (T426.setTop (mkF m 77 #[.val (.int cv), .val (.int iv), .val (.int fv), .val (.int (2 : Int32)), .val (.int bv), .val (.ref b419), .unset, .unset, .unset, .unset] [(.ref b419), (.int iv), (.int bv), (.ref b426), (.ref b426)]))
      obtain ⟨_, _, ⟨T427, L427, k427, n427⟩, -, X427, ⟨Lc427, hQ427, l427, y427, z427⟩, st427⟩ := X426.specialBack hx (y := (⟨"com/example/grantfold/grantfold/model/Setting", "<init>", "(ZILjava/util/List;)V"⟩ : MethodName)) rfl hown (mvT hZ (w_29 hw)) (mvT hZ (w_30 hw)) (mvT hZ (w_31 hw)) (by decide) (backOf (W := 1) (rm_set_2 l Z a0 hw [] b426 bv iv b419 ub422 kb422 ue ude kde uel uem kem uemp urec umi h426 n0 Z426 q426 A426 F426_68 F426_70 F426_72 hbv (Fb425.ext E426) (Fc425.ext E426) ((((A419.keep K420q).keep K422q).keep K425q).ext E426) (A425.ext E426) ((Eb422.keep K425q).ext E426) ((f423.keep K425q (allS q419 (allS q422 all0))).ext E426) hF) hZ (w_31 hw) (w_28 hw) (by decide) (by decide)) (g := (mkF m 77 #[.val (.int cv), .val (.int iv), .val (.int fv), .val (.int (2 : Int32)), .val (.int bv), .val (.ref b419), .unset, .unset, .unset, .unset] [(.ref b419), (.int iv), (.int bv), (.ref b426), (.ref b426)])) rfl (by rw [hml]; rfl) (Steps.refl _) (a := b426) (argsL := [(.int bv), (.int iv), (.ref b419)]) (rest := [(.ref b426)]) (lenOf pd_15 rfl) rfl (by show 2 * 0 + _ ≤ _; exact Nat.le_of_eq rfl) (hb hby at_77) (fun _ _ => ⟨rfl, e426, (by decide : 3 + 2 ≤ _), (by decide : 16 + 4 ≤ _)⟩)
      dsimp only [Pt.U, Pt.locs, Pt.cells, Pt.slots] at X427 l427 y427 z427 st427 hQ427
      subst l427 y427 z427
      generalize e427 : T427.heap = h427 at hQ427
      obtain ⟨ux427, rfl, N427q, K427q, ⟨Ga427, Gb427, Gc427⟩, lo427, q427, Ex427, Fx427, Fy427⟩ := hQ427
      have N427 := Fr.app N425 N427q
      refine own_go (fun t k => st427.trans k) ?_
      have Z427 : n0 ≤ h427.size := (Nat.le_trans Z426 K427q.1)
      have hi427 := Ex427.lt
      show own_Go _ _ _ _ (T427.setTop (mkF m 80 #[.val (.int cv), .val (.int iv), .val (.int fv), .val (.int (2 : Int32)), .val (.int bv), .val (.ref b419), .unset, .unset, .unset, .unset] [(.ref b426)]))
      refine own_go (fun t k => XS.astore X427.here hx rfl (hb hby at_80) rfl rfl (l' := #[.val (.int cv), .val (.int iv), .val (.int fv), .val (.int (2 : Int32)), .val (.int bv), .val (.ref b419), .val (.ref b426), .unset, .unset, .unset]) rfl k) ?_
      show own_Go _ _ _ _ (T427.setTop (mkF m 82 #[.val (.int cv), .val (.int iv), .val (.int fv), .val (.int (2 : Int32)), .val (.int bv), .val (.ref b419), .val (.ref b426), .unset, .unset, .unset] []))
      refine own_go (fun t k => XS.aload X427.here hx rfl (hb hby at_82) rfl rfl k) ?_
      show own_Go _ _ _ _ (T427.setTop (mkF m 84 #[.val (.int cv), .val (.int iv), .val (.int fv), .val (.int (2 : Int32)), .val (.int bv), .val (.ref b419), .val (.ref b426), .unset, .unset, .unset] [(.ref b419)]))
      have f428 := (((f423.keep K425q (allS q419 (allS q422 all0))).ext E426).keep K427q (allS q426 all0))
      obtain ⟨T429, X429, e429, st429⟩ := getS2 X427 hx hZ hown (host := "") (Or.inl (w_73 hw)) Via.refl e427 (Se.ext f428.2) (g := (mkF m 84 #[.val (.int cv), .val (.int iv), .val (.int fv), .val (.int (2 : Int32)), .val (.int bv), .val (.ref b419), .val (.ref b426), .unset, .unset, .unset] [(.ref b419)])) rfl (hb hby at_84)
      refine own_go st429 ?_
      have f430 := ((Fc425.ext E426).keep K427q (ninS (Nat.ne_of_lt (Nat.lt_of_lt_of_le hi419 (Nat.le_trans (Nat.le_trans (Nat.le_trans K420q.1 K422q.1) K425q.1) lo426))) nin0))
      have f431 := ((Fb425.ext E426).keep K427q (ninS (Nat.ne_of_lt (Nat.lt_of_lt_of_le hi419 (Nat.le_trans (Nat.le_trans (Nat.le_trans K420q.1 K422q.1) K425q.1) lo426))) nin0))
      have f432 := ((A425.ext E426).keep K427q (ninS (Nat.ne_of_lt (Nat.lt_of_lt_of_le hi422 (Nat.le_trans K425q.1 lo426))) nin0))
      have f433 := (((((A419.keep K420q).keep K422q).keep K425q).ext E426).keep K427q)
      have f434 := ((Fa425.ext E426).keep K427q (ninS (Nat.ne_of_lt (Nat.lt_of_lt_of_le hi419 (Nat.le_trans (Nat.le_trans (Nat.le_trans K420q.1 K422q.1) K425q.1) lo426))) nin0))
      show own_Go _ _ _ _ (T429.setTop (mkF m 87 #[.val (.int cv), .val (.int iv), .val (.int fv), .val (.int (2 : Int32)), .val (.int bv), .val (.ref b419), .val (.ref b426), .unset, .unset, .unset] [(.ref ue), (.ref b419)]))
      obtain ⟨cq435, kq435, q435a, q435b, q435c⟩ := isOf hZ e429 f433
      obtain ⟨_, _, ⟨T435, L435, k435, n435⟩, -, X435, ⟨Lc435, hQ435, l435, y435, z435⟩, st435⟩ := X429.virtualBack hx (y := (⟨"java/util/ArrayList", "add", "(Ljava/lang/Object;)Z"⟩ : MethodName)) (z := (⟨"java/util/ArrayList", "add", "(Ljava/lang/Object;)Z"⟩ : MethodName)) hown (mvT hZ (w_76 hw)) (mvT hZ (w_77 hw)) (notFace_of_selects (args := #[]) (mvT hZ (w_79 hw))) (mvT hZ (w_79 hw)) (mvT hZ (w_78 hw)) (by decide) (backOf (W := 0) (rm_ad1_2 l Z a0 hw [] b419 ub422 kb422 ue ude kde uel uem kem uemp urec umi h427 n0 Z427 q419 f433 f434 f431 f430 f432 q422 O422 (Nat.ne_of_lt (Nat.lt_of_lt_of_le hi419 (Nat.le_trans K420q.1 lo422))) f428 hF) hZ (w_80 hw) (w_2 hw) (by decide) (by decide)) q435a q435c (g := (mkF m 87 #[.val (.int cv), .val (.int iv), .val (.int fv), .val (.int (2 : Int32)), .val (.int bv), .val (.ref b419), .val (.ref b426), .unset, .unset, .unset] [(.ref ue), (.ref b419)])) rfl (by rw [hml]; rfl) (Steps.refl _) (argsL := [(.ref ue)]) (rest := []) (lenOf pd_16 rfl) rfl (by show 2 * 0 + _ ≤ _; exact Nat.le_of_eq rfl) (hb hby at_87) (fun _ _ => ⟨rfl, e429, (by decide : 5 + 0 ≤ _), (by decide : 20 + 0 ≤ _)⟩)
      dsimp only [Pt.U, Pt.locs, Pt.cells, Pt.slots] at X435 l435 y435 z435 st435 hQ435
      subst l435 y435 z435
      generalize e435 : T435.heap = h435 at hQ435
      obtain ⟨rfl, N435q, K435q, A435, Fa435, Fb435, Fc435⟩ := hQ435
      have N435 := Fr.app N427 N435q
      refine own_go (fun t k => st435.trans k) ?_
      have Z435 : n0 ≤ h435.size := (Nat.le_trans Z427 K435q.1)
      show own_Go _ _ _ _ (T435.setTop (mkF m 90 #[.val (.int cv), .val (.int iv), .val (.int fv), .val (.int (2 : Int32)), .val (.int bv), .val (.ref b419), .val (.ref b426), .unset, .unset, .unset] [(.int (1 : Int32))]))
      refine own_go (fun t k => XS.pop X435.here hx rfl (hb hby at_90) rfl rfl k) ?_
      show own_Go _ _ _ _ (T435.setTop (mkF m 91 #[.val (.int cv), .val (.int iv), .val (.int fv), .val (.int (2 : Int32)), .val (.int bv), .val (.ref b419), .val (.ref b426), .unset, .unset, .unset] []))
      refine own_go (fun t k => XS.aload X435.here hx rfl (hb hby at_91) rfl rfl k) ?_
      have f436 := (Gc427.keep K435q (ninS (Ne.symm (Nat.ne_of_lt (Nat.lt_of_lt_of_le hi419 (Nat.le_trans (Nat.le_trans (Nat.le_trans K420q.1 K422q.1) K425q.1) lo426)))) (ninS (Ne.symm (Nat.ne_of_lt (Nat.lt_of_lt_of_le hi422 (Nat.le_trans K425q.1 lo426)))) nin0)))
      show own_Go _ _ _ _ (T435.setTop (mkF m 93 #[.val (.int cv), .val (.int iv), .val (.int fv), .val (.int (2 : Int32)), .val (.int bv), .val (.ref b419), .val (.ref b426), .unset, .unset, .unset] [(.ref b426)]))
      obtain ⟨cq437, kq437, q437a, q437b, q437c⟩ := isOf hZ e435 ((A426.keep K427q).keep K435q)
      obtain ⟨_, _, ⟨T437, L437, k437, n437⟩, -, X437, ⟨Lc437, hQ437, l437, y437, z437⟩, st437⟩ := X435.virtualBack hx (y := (⟨"com/example/grantfold/grantfold/model/Setting", "scopes", "()Ljava/util/List;"⟩ : MethodName)) (z := (⟨"com/example/grantfold/grantfold/model/Setting", "scopes", "()Ljava/util/List;"⟩ : MethodName)) hown (mvT hZ (w_105 hw)) (mvT hZ (w_106 hw)) (notFace_of_selects (args := #[]) (mvT hZ (w_108 hw))) (mvT hZ (w_108 hw)) (mvT hZ (w_107 hw)) (by decide) (backOf (W := 0) (rm_scp_2 l Z a0 hw [] b426 ux427 ue ude kde uel uem kem uemp urec umi h435 n0 Z435 f436 (Ex427.keep K435q) (f428.keep K435q (allS q419 (allS q422 all0))) hF) hZ (w_109 hw) (w_28 hw) (by decide) (by decide)) q437a q437c (g := (mkF m 93 #[.val (.int cv), .val (.int iv), .val (.int fv), .val (.int (2 : Int32)), .val (.int bv), .val (.ref b419), .val (.ref b426), .unset, .unset, .unset] [(.ref b426)])) rfl (by rw [hml]; rfl) (Steps.refl _) (argsL := []) (rest := []) (lenOf pd_13 rfl) rfl (by show 2 * 0 + _ ≤ _; exact Nat.le_of_eq rfl) (hb hby at_93) (fun _ _ => ⟨rfl, e435, (by decide : 5 + 0 ≤ _), (by decide : 20 + 0 ≤ _)⟩)
      dsimp only [Pt.U, Pt.locs, Pt.cells, Pt.slots] at X437 l437 y437 z437 st437 hQ437
      subst l437 y437 z437
      obtain ⟨rfl, N437q, e437⟩ := hQ437
      have N437 := Fr.app N435 N437q
      refine own_go (fun t k => st437.trans k) ?_
      show own_Go _ _ _ _ (T437.setTop (mkF m 96 #[.val (.int cv), .val (.int iv), .val (.int fv), .val (.int (2 : Int32)), .val (.int bv), .val (.ref b419), .val (.ref b426), .unset, .unset, .unset] [(.ref ux427)]))
      refine own_go (fun t k => XS.astore X437.here hx rfl (hb hby at_96) rfl rfl (l' := #[.val (.int cv), .val (.int iv), .val (.int fv), .val (.int (2 : Int32)), .val (.int bv), .val (.ref b419), .val (.ref b426), .val (.ref ux427), .unset, .unset]) rfl k) ?_
      show own_Go _ _ _ _ (T437.setTop (mkF m 98 #[.val (.int cv), .val (.int iv), .val (.int fv), .val (.int (2 : Int32)), .val (.int bv), .val (.ref b419), .val (.ref b426), .val (.ref ux427), .unset, .unset] []))
      refine own_go (fun t k => XS.iloadN X437.here hx rfl (hb hby at_98) rfl k) ?_
      show own_Go _ _ _ _ (T437.setTop (mkF m 99 #[.val (.int cv), .val (.int iv), .val (.int fv), .val (.int (2 : Int32)), .val (.int bv), .val (.ref b419), .val (.ref b426), .val (.ref ux427), .unset, .unset] [(.int (2 : Int32))]))
      refine own_go (fun t k => XS.ifYes X437.here hx rfl (pc0 := 99) (pc' := 106) rfl (hb hby at_99) rfl ((if0 _ _).trans (feq (by decide : ¬ ((2 : Int32) = (0 : Int32)))).2) (by decide) (by decide) k) ?_
      show own_Go _ _ _ _ (T437.setTop (mkF m 106 #[.val (.int cv), .val (.int iv), .val (.int fv), .val (.int (2 : Int32)), .val (.int bv), .val (.ref b419), .val (.ref b426), .val (.ref ux427), .unset, .unset] []))
      refine own_go (fun t k => XS.iloadN X437.here hx rfl (hb hby at_106) rfl k) ?_
      show own_Go _ _ _ _ (T437.setTop (mkF m 107 #[.val (.int cv), .val (.int iv), .val (.int fv), .val (.int (2 : Int32)), .val (.int bv), .val (.ref b419), .val (.ref b426), .val (.ref ux427), .unset, .unset] [(.int (2 : Int32))]))
      refine own_go (fun t k => XS.istore X437.here hx rfl (hb hby at_107) rfl (l' := #[.val (.int cv), .val (.int iv), .val (.int fv), .val (.int (2 : Int32)), .val (.int bv), .val (.ref b419), .val (.ref b426), .val (.ref ux427), .val (.int (2 : Int32)), .unset]) rfl k) ?_
      show own_Go _ _ _ _ (T437.setTop (mkF m 109 #[.val (.int cv), .val (.int iv), .val (.int fv), .val (.int (2 : Int32)), .val (.int bv), .val (.ref b419), .val (.ref b426), .val (.ref ux427), .val (.int (2 : Int32)), .unset] []))
      refine own_go (fun t k => XS.aload X437.here hx rfl (hb hby at_109) rfl rfl k) ?_
      have f438 := (Fy427.keep K435q (ninS (Ne.symm (Nat.ne_of_lt (Nat.lt_of_lt_of_le hi419 (Nat.le_trans (Nat.le_trans (Nat.le_trans (Nat.le_trans K420q.1 K422q.1) K425q.1) E426.1) lo427)))) (ninS (Ne.symm (Nat.ne_of_lt (Nat.lt_of_lt_of_le hi422 (Nat.le_trans (Nat.le_trans K425q.1 E426.1) lo427)))) nin0)))
      have f439 := (Fx427.keep K435q (ninS (Ne.symm (Nat.ne_of_lt (Nat.lt_of_lt_of_le hi419 (Nat.le_trans (Nat.le_trans (Nat.le_trans (Nat.le_trans K420q.1 K422q.1) K425q.1) E426.1) lo427)))) (ninS (Ne.symm (Nat.ne_of_lt (Nat.lt_of_lt_of_le hi422 (Nat.le_trans (Nat.le_trans K425q.1 E426.1) lo427)))) nin0)))
      show own_Go _ _ _ _ (T437.setTop (mkF m 111 #[.val (.int cv), .val (.int iv), .val (.int fv), .val (.int (2 : Int32)), .val (.int bv), .val (.ref b419), .val (.ref b426), .val (.ref ux427), .val (.int (2 : Int32)), .unset] [(.ref ux427)]))
      obtain ⟨cq440, kq440, q440a, q440b, q440c⟩ := isOf hZ e437 (Ex427.keep K435q)
      obtain ⟨_, _, ⟨T440, L440, k440, n440⟩, -, X440, ⟨Lc440, hQ440, l440, y440, z440⟩, st440⟩ := X437.interfaceBack hx (xi := (⟨"java/util/List", "size", "()I"⟩ : MethodName)) (y := (⟨"java/util/ImmutableCollections$List12", "size", "()I"⟩ : MethodName)) hown (mvT hZ (w_124 hw)) (mvT hZ (w_125 hw)) (mvT hZ (w_126 hw)) (mvT hZ (w_127 hw)) (mvT hZ (w_128 hw)) (mvT hZ (w_129 hw)) (mvT hZ (w_130 hw)) (mvT hZ (w_131 hw)) (by decide) (backOf (W := 0) (rm_s12_2 l Z a0 hw [] ux427 ue ude kde uel uem kem uemp urec umi h435 n0 Z435 f438 f439 (f428.keep K435q (allS q419 (allS q422 all0))) hF) hZ (w_133 hw) (w_132 hw) (by decide) (by decide)) q440a q440b q440c (g := (mkF m 111 #[.val (.int cv), .val (.int iv), .val (.int fv), .val (.int (2 : Int32)), .val (.int bv), .val (.ref b419), .val (.ref b426), .val (.ref ux427), .val (.int (2 : Int32)), .unset] [(.ref ux427)])) rfl (by rw [hml]; rfl) (Steps.refl _) (argsL := []) (rest := []) (lenOf pd_17 rfl) rfl (by show 2 * 0 + _ ≤ _; exact Nat.le_of_eq rfl) (hb hby at_111) (fun _ _ => ⟨rfl, e437, (by decide : 5 + 0 ≤ _), (by decide : 20 + 0 ≤ _)⟩)
      dsimp only [Pt.U, Pt.locs, Pt.cells, Pt.slots] at X440 l440 y440 z440 st440 hQ440
      subst l440 y440 z440
      obtain ⟨rfl, N440q, e440⟩ := hQ440
      have N440 := Fr.app N437 N440q
      refine own_go (fun t k => st440.trans k) ?_
      show own_Go _ _ _ _ (T440.setTop (mkF m 116 #[.val (.int cv), .val (.int iv), .val (.int fv), .val (.int (2 : Int32)), .val (.int bv), .val (.ref b419), .val (.ref b426), .val (.ref ux427), .val (.int (2 : Int32)), .unset] [(.int (2 : Int32))]))
      refine own_go (fun t k => XS.iload X440.here hx rfl (hb hby at_116) rfl k) ?_
      show own_Go _ _ _ _ (T440.setTop (mkF m 118 #[.val (.int cv), .val (.int iv), .val (.int fv), .val (.int (2 : Int32)), .val (.int bv), .val (.ref b419), .val (.ref b426), .val (.ref ux427), .val (.int (2 : Int32)), .unset] [(.int (2 : Int32)), (.int (2 : Int32))]))
      refine own_go (fun t k => XS.icmpYes X440.here hx rfl (pc0 := 118) (pc' := 123) rfl (hb hby at_118) rfl (teq (by decide : (2 : Int32) = (2 : Int32))).1 (by decide) (by decide) k) ?_
      show own_Go _ _ _ _ (T440.setTop (mkF m 123 #[.val (.int cv), .val (.int iv), .val (.int fv), .val (.int (2 : Int32)), .val (.int bv), .val (.ref b419), .val (.ref b426), .val (.ref ux427), .val (.int (2 : Int32)), .unset] []))
      refine own_go (fun t k => XS.aload X440.here hx rfl (hb hby at_123) rfl rfl k) ?_
      show own_Go _ _ _ _ (T440.setTop (mkF m 125 #[.val (.int cv), .val (.int iv), .val (.int fv), .val (.int (2 : Int32)), .val (.int bv), .val (.ref b419), .val (.ref b426), .val (.ref ux427), .val (.int (2 : Int32)), .unset] [(.ref ux427)]))
      refine own_go (fun t k => XS.iconst X440.here hx rfl (hb hby at_125) k) ?_
      show own_Go _ _ _ _ (T440.setTop (mkF m 126 #[.val (.int cv), .val (.int iv), .val (.int fv), .val (.int (2 : Int32)), .val (.int bv), .val (.ref b419), .val (.ref b426), .val (.ref ux427), .val (.int (2 : Int32)), .unset] [(.int (0 : Int32)), (.ref ux427)]))
      obtain ⟨cq441, kq441, q441a, q441b, q441c⟩ := isOf hZ e440 (Ex427.keep K435q)
      obtain ⟨_, _, ⟨T441, L441, k441, n441⟩, -, X441, ⟨Lc441, hQ441, l441, y441, z441⟩, st441⟩ := X440.interfaceBack hx (xi := (⟨"java/util/List", "get", "(I)Ljava/lang/Object;"⟩ : MethodName)) (y := (⟨"java/util/ImmutableCollections$List12", "get", "(I)Ljava/lang/Object;"⟩ : MethodName)) hown (mvT hZ (w_137 hw)) (mvT hZ (w_138 hw)) (mvT hZ (w_139 hw)) (mvT hZ (w_140 hw)) (mvT hZ (w_141 hw)) (mvT hZ (w_142 hw)) (mvT hZ (w_143 hw)) (mvT hZ (w_131 hw)) (by decide) (backOf (W := 0) (rm_g12_2_0 l Z a0 hw [] ux427 ue ude kde uel uem kem uemp urec umi h435 n0 Z435 f438 f439 (f428.keep K435q (allS q419 (allS q422 all0))) hF) hZ (w_144 hw) (w_132 hw) (by decide) (by decide)) q441a q441b q441c (g := (mkF m 126 #[.val (.int cv), .val (.int iv), .val (.int fv), .val (.int (2 : Int32)), .val (.int bv), .val (.ref b419), .val (.ref b426), .val (.ref ux427), .val (.int (2 : Int32)), .unset] [(.int (0 : Int32)), (.ref ux427)])) rfl (by rw [hml]; rfl) (Steps.refl _) (argsL := [(.int (0 : Int32))]) (rest := []) (lenOf pd_18 rfl) rfl (by show 2 * 0 + _ ≤ _; exact Nat.le_of_eq rfl) (hb hby at_126) (fun _ _ => ⟨rfl, e440, (by decide : 5 + 0 ≤ _), (by decide : 20 + 0 ≤ _)⟩)
      dsimp only [Pt.U, Pt.locs, Pt.cells, Pt.slots] at X441 l441 y441 z441 st441 hQ441
      subst l441 y441 z441
      obtain ⟨rfl, N441q, e441⟩ := hQ441
      have N441 := Fr.app N440 N441q
      refine own_go (fun t k => st441.trans k) ?_
      show own_Go _ _ _ _ (T441.setTop (mkF m 131 #[.val (.int cv), .val (.int iv), .val (.int fv), .val (.int (2 : Int32)), .val (.int bv), .val (.ref b419), .val (.ref b426), .val (.ref ux427), .val (.int (2 : Int32)), .unset] [(.ref ue)]))
      obtain ⟨T442, X442, e442, st442⟩ := getS2 X441 hx hZ hown (host := "") (Or.inl (w_73 hw)) Via.refl e441 (Se.ext (f428.keep K435q (allS q419 (allS q422 all0))).2) (g := (mkF m 131 #[.val (.int cv), .val (.int iv), .val (.int fv), .val (.int (2 : Int32)), .val (.int bv), .val (.ref b419), .val (.ref b426), .val (.ref ux427), .val (.int (2 : Int32)), .unset] [(.ref ue)])) rfl (hb hby at_131)
      refine own_go st442 ?_
      show own_Go _ _ _ _ (T442.setTop (mkF m 134 #[.val (.int cv), .val (.int iv), .val (.int fv), .val (.int (2 : Int32)), .val (.int bv), .val (.ref b419), .val (.ref b426), .val (.ref ux427), .val (.int (2 : Int32)), .unset] [(.ref ue), (.ref ue)]))
      refine own_go (fun t k => Jvm.RoadKit.acmp (g := (mkF m 134 #[.val (.int cv), .val (.int iv), .val (.int fv), .val (.int (2 : Int32)), .val (.int bv), .val (.ref b419), .val (.ref b426), .val (.ref ux427), .val (.int (2 : Int32)), .unset] [(.ref ue), (.ref ue)])) X442 hx rfl rfl rfl (pc0 := 134) (pc' := 137) (same := true) rfl (hb hby at_134) rfl (decide_eq_true rfl) (by decide) (by decide) k) ?_
      show own_Go _ _ _ _ (T442.setTop (mkF m 137 #[.val (.int cv), .val (.int iv), .val (.int fv), .val (.int (2 : Int32)), .val (.int bv), .val (.ref b419), .val (.ref b426), .val (.ref ux427), .val (.int (2 : Int32)), .unset] []))
      refine own_go (fun t k => XS.iconst X442.here hx rfl (hb hby at_137) k) ?_
      show own_Go _ _ _ _ (T442.setTop (mkF m 138 #[.val (.int cv), .val (.int iv), .val (.int fv), .val (.int (2 : Int32)), .val (.int bv), .val (.ref b419), .val (.ref b426), .val (.ref ux427), .val (.int (2 : Int32)), .unset] [(.int (1 : Int32))]))
      refine own_go (fun t k => XS.goto X442.here hx rfl (pc0 := 138) (pc' := 142) rfl (hb hby at_138) (by decide) (by decide) k) ?_
      show own_Go _ _ _ _ (T442.setTop (mkF m 142 #[.val (.int cv), .val (.int iv), .val (.int fv), .val (.int (2 : Int32)), .val (.int bv), .val (.ref b419), .val (.ref b426), .val (.ref ux427), .val (.int (2 : Int32)), .unset] [(.int (1 : Int32))]))
      refine own_go (fun t k => XS.istore X442.here hx rfl (hb hby at_142) rfl (l' := #[.val (.int cv), .val (.int iv), .val (.int fv), .val (.int (2 : Int32)), .val (.int bv), .val (.ref b419), .val (.ref b426), .val (.ref ux427), .val (.int (2 : Int32)), .val (.int (1 : Int32))]) rfl k) ?_
      show own_Go _ _ _ _ (T442.setTop (mkF m 144 #[.val (.int cv), .val (.int iv), .val (.int fv), .val (.int (2 : Int32)), .val (.int bv), .val (.ref b419), .val (.ref b426), .val (.ref ux427), .val (.int (2 : Int32)), .val (.int (1 : Int32))] []))
      refine own_go (fun t k => XS.iload X442.here hx rfl (hb hby at_144) rfl k) ?_
      show own_Go _ _ _ _ (T442.setTop (mkF m 146 #[.val (.int cv), .val (.int iv), .val (.int fv), .val (.int (2 : Int32)), .val (.int bv), .val (.ref b419), .val (.ref b426), .val (.ref ux427), .val (.int (2 : Int32)), .val (.int (1 : Int32))] [(.int (2 : Int32))]))
      refine own_go (fun t k => XS.iconst X442.here hx rfl (hb hby at_146) k) ?_
      show own_Go _ _ _ _ (T442.setTop (mkF m 147 #[.val (.int cv), .val (.int iv), .val (.int fv), .val (.int (2 : Int32)), .val (.int bv), .val (.ref b419), .val (.ref b426), .val (.ref ux427), .val (.int (2 : Int32)), .val (.int (1 : Int32))] [(.int (2 : Int32)), (.int (2 : Int32))]))
      refine own_go (fun t k => XS.icmpNo X442.here hx rfl (hb hby at_147) rfl (flt (by decide : ¬ ((2 : Int32) < (2 : Int32)))).1 k) ?_
      show own_Go _ _ _ _ (T442.setTop (mkF m 150 #[.val (.int cv), .val (.int iv), .val (.int fv), .val (.int (2 : Int32)), .val (.int bv), .val (.ref b419), .val (.ref b426), .val (.ref ux427), .val (.int (2 : Int32)), .val (.int (1 : Int32))] []))
      refine own_go (fun t k => XS.iload X442.here hx rfl (hb hby at_150) rfl k) ?_
      show own_Go _ _ _ _ (T442.setTop (mkF m 152 #[.val (.int cv), .val (.int iv), .val (.int fv), .val (.int (2 : Int32)), .val (.int bv), .val (.ref b419), .val (.ref b426), .val (.ref ux427), .val (.int (2 : Int32)), .val (.int (1 : Int32))] [(.int (1 : Int32))]))
      refine own_go (fun t k => XS.ifNo X442.here hx rfl (hb hby at_152) rfl ((if0 _ _).trans (feq (by decide : ¬ ((1 : Int32) = (0 : Int32)))).1) k) ?_
      show own_Go _ _ _ _ (T442.setTop (mkF m 155 #[.val (.int cv), .val (.int iv), .val (.int fv), .val (.int (2 : Int32)), .val (.int bv), .val (.ref b419), .val (.ref b426), .val (.ref ux427), .val (.int (2 : Int32)), .val (.int (1 : Int32))] []))
      refine own_go (fun t k => XS.aload X442.here hx rfl (hb hby at_155) rfl rfl k) ?_
      show own_Go _ _ _ _ (T442.setTop (mkF m 157 #[.val (.int cv), .val (.int iv), .val (.int fv), .val (.int (2 : Int32)), .val (.int bv), .val (.ref b419), .val (.ref b426), .val (.ref ux427), .val (.int (2 : Int32)), .val (.int (1 : Int32))] [(.ref ux427)]))
      refine own_go (fun t k => XS.iconst X442.here hx rfl (hb hby at_157) k) ?_
      show own_Go _ _ _ _ (T442.setTop (mkF m 158 #[.val (.int cv), .val (.int iv), .val (.int fv), .val (.int (2 : Int32)), .val (.int bv), .val (.ref b419), .val (.ref b426), .val (.ref ux427), .val (.int (2 : Int32)), .val (.int (1 : Int32))] [(.int (1 : Int32)), (.ref ux427)]))
      obtain ⟨cq443, kq443, q443a, q443b, q443c⟩ := isOf hZ e442 (Ex427.keep K435q)
      obtain ⟨_, _, ⟨T443, L443, k443, n443⟩, -, X443, ⟨Lc443, hQ443, l443, y443, z443⟩, st443⟩ := X442.interfaceBack hx (xi := (⟨"java/util/List", "get", "(I)Ljava/lang/Object;"⟩ : MethodName)) (y := (⟨"java/util/ImmutableCollections$List12", "get", "(I)Ljava/lang/Object;"⟩ : MethodName)) hown (mvT hZ (w_137 hw)) (mvT hZ (w_138 hw)) (mvT hZ (w_139 hw)) (mvT hZ (w_140 hw)) (mvT hZ (w_141 hw)) (mvT hZ (w_142 hw)) (mvT hZ (w_143 hw)) (mvT hZ (w_131 hw)) (by decide) (backOf (W := 0) (rm_g12_2_1 l Z a0 hw [] ux427 ue ude kde uel uem kem uemp urec umi h435 n0 Z435 f438 f439 (f428.keep K435q (allS q419 (allS q422 all0))) hF) hZ (w_144 hw) (w_132 hw) (by decide) (by decide)) q443a q443b q443c (g := (mkF m 158 #[.val (.int cv), .val (.int iv), .val (.int fv), .val (.int (2 : Int32)), .val (.int bv), .val (.ref b419), .val (.ref b426), .val (.ref ux427), .val (.int (2 : Int32)), .val (.int (1 : Int32))] [(.int (1 : Int32)), (.ref ux427)])) rfl (by rw [hml]; rfl) (Steps.refl _) (argsL := [(.int (1 : Int32))]) (rest := []) (lenOf pd_18 rfl) rfl (by show 2 * 0 + _ ≤ _; exact Nat.le_of_eq rfl) (hb hby at_158) (fun _ _ => ⟨rfl, e442, (by decide : 5 + 0 ≤ _), (by decide : 20 + 0 ≤ _)⟩)
      dsimp only [Pt.U, Pt.locs, Pt.cells, Pt.slots] at X443 l443 y443 z443 st443 hQ443
      subst l443 y443 z443
      obtain ⟨rfl, N443q, e443⟩ := hQ443
      have N443 := Fr.app N441 N443q
      refine own_go (fun t k => st443.trans k) ?_
      show own_Go _ _ _ _ (T443.setTop (mkF m 163 #[.val (.int cv), .val (.int iv), .val (.int fv), .val (.int (2 : Int32)), .val (.int bv), .val (.ref b419), .val (.ref b426), .val (.ref ux427), .val (.int (2 : Int32)), .val (.int (1 : Int32))] [(.ref ue)]))
      obtain ⟨T444, X444, e444, st444⟩ := getS2 X443 hx hZ hown (host := "") (Or.inl (w_73 hw)) Via.refl e443 (Se.ext (f428.keep K435q (allS q419 (allS q422 all0))).2) (g := (mkF m 163 #[.val (.int cv), .val (.int iv), .val (.int fv), .val (.int (2 : Int32)), .val (.int bv), .val (.ref b419), .val (.ref b426), .val (.ref ux427), .val (.int (2 : Int32)), .val (.int (1 : Int32))] [(.ref ue)])) rfl (hb hby at_163)
      refine own_go st444 ?_
      show own_Go _ _ _ _ (T444.setTop (mkF m 166 #[.val (.int cv), .val (.int iv), .val (.int fv), .val (.int (2 : Int32)), .val (.int bv), .val (.ref b419), .val (.ref b426), .val (.ref ux427), .val (.int (2 : Int32)), .val (.int (1 : Int32))] [(.ref ue), (.ref ue)]))
      refine own_go (fun t k => Jvm.RoadKit.acmp (g := (mkF m 166 #[.val (.int cv), .val (.int iv), .val (.int fv), .val (.int (2 : Int32)), .val (.int bv), .val (.ref b419), .val (.ref b426), .val (.ref ux427), .val (.int (2 : Int32)), .val (.int (1 : Int32))] [(.ref ue), (.ref ue)])) X444 hx rfl rfl rfl (pc0 := 166) (pc' := 169) (same := true) rfl (hb hby at_166) rfl (decide_eq_true rfl) (by decide) (by decide) k) ?_
      show own_Go _ _ _ _ (T444.setTop (mkF m 169 #[.val (.int cv), .val (.int iv), .val (.int fv), .val (.int (2 : Int32)), .val (.int bv), .val (.ref b419), .val (.ref b426), .val (.ref ux427), .val (.int (2 : Int32)), .val (.int (1 : Int32))] []))
      refine own_go (fun t k => XS.iconst X444.here hx rfl (hb hby at_169) k) ?_
      show own_Go _ _ _ _ (T444.setTop (mkF m 170 #[.val (.int cv), .val (.int iv), .val (.int fv), .val (.int (2 : Int32)), .val (.int bv), .val (.ref b419), .val (.ref b426), .val (.ref ux427), .val (.int (2 : Int32)), .val (.int (1 : Int32))] [(.int (1 : Int32))]))
      refine own_go (fun t k => XS.goto X444.here hx rfl (pc0 := 170) (pc' := 174) rfl (hb hby at_170) (by decide) (by decide) k) ?_
      show own_Go _ _ _ _ (T444.setTop (mkF m 174 #[.val (.int cv), .val (.int iv), .val (.int fv), .val (.int (2 : Int32)), .val (.int bv), .val (.ref b419), .val (.ref b426), .val (.ref ux427), .val (.int (2 : Int32)), .val (.int (1 : Int32))] [(.int (1 : Int32))]))
      refine own_go (fun t k => XS.istore X444.here hx rfl (hb hby at_174) rfl (l' := #[.val (.int cv), .val (.int iv), .val (.int fv), .val (.int (2 : Int32)), .val (.int bv), .val (.ref b419), .val (.ref b426), .val (.ref ux427), .val (.int (2 : Int32)), .val (.int (1 : Int32))]) rfl k) ?_
      show own_Go _ _ _ _ (T444.setTop (mkF m 176 #[.val (.int cv), .val (.int iv), .val (.int fv), .val (.int (2 : Int32)), .val (.int bv), .val (.ref b419), .val (.ref b426), .val (.ref ux427), .val (.int (2 : Int32)), .val (.int (1 : Int32))] []))
      refine own_go (fun t k => XS.iload X444.here hx rfl (hb hby at_176) rfl k) ?_
      show own_Go _ _ _ _ (T444.setTop (mkF m 178 #[.val (.int cv), .val (.int iv), .val (.int fv), .val (.int (2 : Int32)), .val (.int bv), .val (.ref b419), .val (.ref b426), .val (.ref ux427), .val (.int (2 : Int32)), .val (.int (1 : Int32))] [(.int (2 : Int32))]))
      refine own_go (fun t k => XS.iconst X444.here hx rfl (hb hby at_178) k) ?_
      show own_Go _ _ _ _ (T444.setTop (mkF m 179 #[.val (.int cv), .val (.int iv), .val (.int fv), .val (.int (2 : Int32)), .val (.int bv), .val (.ref b419), .val (.ref b426), .val (.ref ux427), .val (.int (2 : Int32)), .val (.int (1 : Int32))] [(.int (3 : Int32)), (.int (2 : Int32))]))
      refine own_go (fun t k => XS.icmpYes X444.here hx rfl (pc0 := 179) (pc' := 208) rfl (hb hby at_179) rfl (tlt (by decide : (2 : Int32) < (3 : Int32))).1 (by decide) (by decide) k) ?_
      show own_Go _ _ _ _ (T444.setTop (mkF m 208 #[.val (.int cv), .val (.int iv), .val (.int fv), .val (.int (2 : Int32)), .val (.int bv), .val (.ref b419), .val (.ref b426), .val (.ref ux427), .val (.int (2 : Int32)), .val (.int (1 : Int32))] []))
      refine own_go (fun t k => XS.iload X444.here hx rfl (hb hby at_208) rfl k) ?_
      show own_Go _ _ _ _ (T444.setTop (mkF m 210 #[.val (.int cv), .val (.int iv), .val (.int fv), .val (.int (2 : Int32)), .val (.int bv), .val (.ref b419), .val (.ref b426), .val (.ref ux427), .val (.int (2 : Int32)), .val (.int (1 : Int32))] [(.int (1 : Int32))]))
      refine own_go (fun t k => XS.ifNo X444.here hx rfl (hb hby at_210) rfl ((if0 _ _).trans (feq (by decide : ¬ ((1 : Int32) = (0 : Int32)))).1) k) ?_
      show own_Go _ _ _ _ (T444.setTop (mkF m 213 #[.val (.int cv), .val (.int iv), .val (.int fv), .val (.int (2 : Int32)), .val (.int bv), .val (.ref b419), .val (.ref b426), .val (.ref ux427), .val (.int (2 : Int32)), .val (.int (1 : Int32))] []))
      refine own_go (fun t k => XS.aload X444.here hx rfl (hb hby at_213) rfl rfl k) ?_
      have f445 := (Ga427.keep K435q (ninS (Ne.symm (Nat.ne_of_lt (Nat.lt_of_lt_of_le hi419 (Nat.le_trans (Nat.le_trans (Nat.le_trans K420q.1 K422q.1) K425q.1) lo426)))) (ninS (Ne.symm (Nat.ne_of_lt (Nat.lt_of_lt_of_le hi422 (Nat.le_trans K425q.1 lo426)))) nin0)))
      show own_Go _ _ _ _ (T444.setTop (mkF m 215 #[.val (.int cv), .val (.int iv), .val (.int fv), .val (.int (2 : Int32)), .val (.int bv), .val (.ref b419), .val (.ref b426), .val (.ref ux427), .val (.int (2 : Int32)), .val (.int (1 : Int32))] [(.ref b426)]))
      obtain ⟨cq446, kq446, q446a, q446b, q446c⟩ := isOf hZ e444 ((A426.keep K427q).keep K435q)
      obtain ⟨_, _, ⟨T446, L446, k446, n446⟩, -, X446, ⟨Lc446, hQ446, l446, y446, z446⟩, st446⟩ := X444.virtualBack hx (y := (⟨"com/example/grantfold/grantfold/model/Setting", "allowed", "()Z"⟩ : MethodName)) (z := (⟨"com/example/grantfold/grantfold/model/Setting", "allowed", "()Z"⟩ : MethodName)) hown (mvT hZ (w_147 hw)) (mvT hZ (w_148 hw)) (notFace_of_selects (args := #[]) (mvT hZ (w_150 hw))) (mvT hZ (w_150 hw)) (mvT hZ (w_149 hw)) (by decide) (backOf (W := 0) (rm_alw l Z a0 hw [] b426 bv h435 n0 Z435 f445 hbv) hZ (w_151 hw) (w_28 hw) (by decide) (by decide)) q446a q446c (g := (mkF m 215 #[.val (.int cv), .val (.int iv), .val (.int fv), .val (.int (2 : Int32)), .val (.int bv), .val (.ref b419), .val (.ref b426), .val (.ref ux427), .val (.int (2 : Int32)), .val (.int (1 : Int32))] [(.ref b426)])) rfl (by rw [hml]; rfl) (Steps.refl _) (argsL := []) (rest := []) (lenOf pd_12 rfl) rfl (by show 2 * 0 + _ ≤ _; exact Nat.le_of_eq rfl) (hb hby at_215) (fun _ _ => ⟨rfl, e444, (by decide : 5 + 0 ≤ _), (by decide : 20 + 0 ≤ _)⟩)
      dsimp only [Pt.U, Pt.locs, Pt.cells, Pt.slots] at X446 l446 y446 z446 st446 hQ446
      subst l446 y446 z446
      obtain ⟨rfl, N446q, e446⟩ := hQ446
      have N446 := Fr.app N443 N446q
      refine own_go (fun t k => st446.trans k) ?_
      show own_Go _ _ _ _ (T446.setTop (mkF m 218 #[.val (.int cv), .val (.int iv), .val (.int fv), .val (.int (2 : Int32)), .val (.int bv), .val (.ref b419), .val (.ref b426), .val (.ref ux427), .val (.int (2 : Int32)), .val (.int (1 : Int32))] [(.int bv)]))
      refine own_go (fun t k => XS.iload X446.here hx rfl (hb hby at_218) rfl k) ?_
      show own_Go _ _ _ _ (T446.setTop (mkF m 220 #[.val (.int cv), .val (.int iv), .val (.int fv), .val (.int (2 : Int32)), .val (.int bv), .val (.ref b419), .val (.ref b426), .val (.ref ux427), .val (.int (2 : Int32)), .val (.int (1 : Int32))] [(.int bv), (.int bv)]))
      refine own_go (fun t k => XS.icmpNo X446.here hx rfl (hb hby at_220) rfl (teq (rfl : bv = bv)).2 k) ?_
      show own_Go _ _ _ _ (T446.setTop (mkF m 223 #[.val (.int cv), .val (.int iv), .val (.int fv), .val (.int (2 : Int32)), .val (.int bv), .val (.ref b419), .val (.ref b426), .val (.ref ux427), .val (.int (2 : Int32)), .val (.int (1 : Int32))] []))
      refine own_go (fun t k => XS.aload X446.here hx rfl (hb hby at_223) rfl rfl k) ?_
      have f447 := (Gb427.keep K435q (ninS (Ne.symm (Nat.ne_of_lt (Nat.lt_of_lt_of_le hi419 (Nat.le_trans (Nat.le_trans (Nat.le_trans K420q.1 K422q.1) K425q.1) lo426)))) (ninS (Ne.symm (Nat.ne_of_lt (Nat.lt_of_lt_of_le hi422 (Nat.le_trans K425q.1 lo426)))) nin0)))
      show own_Go _ _ _ _ (T446.setTop (mkF m 225 #[.val (.int cv), .val (.int iv), .val (.int fv), .val (.int (2 : Int32)), .val (.int bv), .val (.ref b419), .val (.ref b426), .val (.ref ux427), .val (.int (2 : Int32)), .val (.int (1 : Int32))] [(.ref b426)]))
      obtain ⟨cq448, kq448, q448a, q448b, q448c⟩ := isOf hZ e446 ((A426.keep K427q).keep K435q)
      obtain ⟨_, _, ⟨T448, L448, k448, n448⟩, -, X448, ⟨Lc448, hQ448, l448, y448, z448⟩, st448⟩ := X446.virtualBack hx (y := (⟨"com/example/grantfold/grantfold/model/Setting", "line", "()I"⟩ : MethodName)) (z := (⟨"com/example/grantfold/grantfold/model/Setting", "line", "()I"⟩ : MethodName)) hown (mvT hZ (w_152 hw)) (mvT hZ (w_153 hw)) (notFace_of_selects (args := #[]) (mvT hZ (w_155 hw))) (mvT hZ (w_155 hw)) (mvT hZ (w_154 hw)) (by decide) (backOf (W := 0) (rm_lin l Z a0 hw [] b426 iv h435 n0 Z435 f447) hZ (w_156 hw) (w_28 hw) (by decide) (by decide)) q448a q448c (g := (mkF m 225 #[.val (.int cv), .val (.int iv), .val (.int fv), .val (.int (2 : Int32)), .val (.int bv), .val (.ref b419), .val (.ref b426), .val (.ref ux427), .val (.int (2 : Int32)), .val (.int (1 : Int32))] [(.ref b426)])) rfl (by rw [hml]; rfl) (Steps.refl _) (argsL := []) (rest := []) (lenOf pd_17 rfl) rfl (by show 2 * 0 + _ ≤ _; exact Nat.le_of_eq rfl) (hb hby at_225) (fun _ _ => ⟨rfl, e446, (by decide : 5 + 0 ≤ _), (by decide : 20 + 0 ≤ _)⟩)
      dsimp only [Pt.U, Pt.locs, Pt.cells, Pt.slots] at X448 l448 y448 z448 st448 hQ448
      subst l448 y448 z448
      obtain ⟨rfl, N448q, e448⟩ := hQ448
      have N448 := Fr.app N446 N448q
      refine own_go (fun t k => st448.trans k) ?_
      show own_Go _ _ _ _ (T448.setTop (mkF m 228 #[.val (.int cv), .val (.int iv), .val (.int fv), .val (.int (2 : Int32)), .val (.int bv), .val (.ref b419), .val (.ref b426), .val (.ref ux427), .val (.int (2 : Int32)), .val (.int (1 : Int32))] [(.int iv)]))
      refine own_go (fun t k => XS.iloadN X448.here hx rfl (hb hby at_228) rfl k) ?_
      show own_Go _ _ _ _ (T448.setTop (mkF m 229 #[.val (.int cv), .val (.int iv), .val (.int fv), .val (.int (2 : Int32)), .val (.int bv), .val (.ref b419), .val (.ref b426), .val (.ref ux427), .val (.int (2 : Int32)), .val (.int (1 : Int32))] [(.int iv), (.int iv)]))
      refine own_go (fun t k => XS.icmpNo X448.here hx rfl (hb hby at_229) rfl (teq (rfl : iv = iv)).2 k) ?_
      show own_Go _ _ _ _ (T448.setTop (mkF m 232 #[.val (.int cv), .val (.int iv), .val (.int fv), .val (.int (2 : Int32)), .val (.int bv), .val (.ref b419), .val (.ref b426), .val (.ref ux427), .val (.int (2 : Int32)), .val (.int (1 : Int32))] []))
      refine own_go (fun t k => XS.iconst X448.here hx rfl (hb hby at_232) k) ?_
      show own_Go _ _ _ _ (T448.setTop (mkF m 233 #[.val (.int cv), .val (.int iv), .val (.int fv), .val (.int (2 : Int32)), .val (.int bv), .val (.ref b419), .val (.ref b426), .val (.ref ux427), .val (.int (2 : Int32)), .val (.int (1 : Int32))] [(.int (1 : Int32))]))
      refine own_go (fun t k => XS.goto X448.here hx rfl (pc0 := 233) (pc' := 237) rfl (hb hby at_233) (by decide) (by decide) k) ?_
      show own_Go _ _ _ _ (T448.setTop (mkF m 237 #[.val (.int cv), .val (.int iv), .val (.int fv), .val (.int (2 : Int32)), .val (.int bv), .val (.ref b419), .val (.ref b426), .val (.ref ux427), .val (.int (2 : Int32)), .val (.int (1 : Int32))] [(.int (1 : Int32))]))
      refine own_retN X448 hx hlk (t := .boolean) hret (by simp) (hb hby at_237) ?_ (by decide) (by decide)
      rw [e448]
      exact ⟨rfl, N448⟩
    show own_Go _ _ _ _ (s₁.setTop (mkF m 4 #[.val (.int cv), .val (.int iv), .val (.int fv), .val (.int (2 : Int32)), .unset, .unset, .unset, .unset, .unset, .unset] []))
    show own_Go _ _ _ _ (s₁.setTop (mkF m 4 #[.val (.int cv), .val (.int iv), .val (.int fv), .val (.int (2 : Int32)), .unset, .unset, .unset, .unset, .unset, .unset] []))
    refine own_go (fun t k => XS.iloadN X0.here hx rfl (hb hby at_4) rfl k) ?_
    show own_Go _ _ _ _ (s₁.setTop (mkF m 5 #[.val (.int cv), .val (.int iv), .val (.int fv), .val (.int (2 : Int32)), .unset, .unset, .unset, .unset, .unset, .unset] [(.int fv)]))
    refine own_go (fun t k => XS.iconst X0.here hx rfl (hb hby at_5) k) ?_
    show own_Go _ _ _ _ (s₁.setTop (mkF m 6 #[.val (.int cv), .val (.int iv), .val (.int fv), .val (.int (2 : Int32)), .unset, .unset, .unset, .unset, .unset, .unset] [(.int (1 : Int32)), (.int fv)]))
    refine own_go (fun t k => XS.iand X0.here hx rfl (hb hby at_6) rfl k) ?_
    by_cases hc449 : (fv &&& (1 : Int32)) = (0 : Int32)
    · show own_Go _ _ _ _ (s₁.setTop (mkF m 7 #[.val (.int cv), .val (.int iv), .val (.int fv), .val (.int (2 : Int32)), .unset, .unset, .unset, .unset, .unset, .unset] [(.int (fv &&& (1 : Int32)))]))
      refine own_go (fun t k => XS.ifYes X0.here hx rfl (pc0 := 7) (pc' := 14) rfl (hb hby at_7) rfl ((if0 _ _).trans (teq hc449).1) (by decide) (by decide) k) ?_
      show own_Go _ _ _ _ (s₁.setTop (mkF m 14 #[.val (.int cv), .val (.int iv), .val (.int fv), .val (.int (2 : Int32)), .unset, .unset, .unset, .unset, .unset, .unset] []))
      refine own_go (fun t k => XS.iconst X0.here hx rfl (hb hby at_14) k) ?_
      exact J _ (by decide)
    · show own_Go _ _ _ _ (s₁.setTop (mkF m 7 #[.val (.int cv), .val (.int iv), .val (.int fv), .val (.int (2 : Int32)), .unset, .unset, .unset, .unset, .unset, .unset] [(.int (fv &&& (1 : Int32)))]))
      refine own_go (fun t k => XS.ifNo X0.here hx rfl (hb hby at_7) rfl ((if0 _ _).trans (feq hc449).1) k) ?_
      show own_Go _ _ _ _ (s₁.setTop (mkF m 10 #[.val (.int cv), .val (.int iv), .val (.int fv), .val (.int (2 : Int32)), .unset, .unset, .unset, .unset, .unset, .unset] []))
      refine own_go (fun t k => XS.iconst X0.here hx rfl (hb hby at_10) k) ?_
      show own_Go _ _ _ _ (s₁.setTop (mkF m 11 #[.val (.int cv), .val (.int iv), .val (.int fv), .val (.int (2 : Int32)), .unset, .unset, .unset, .unset, .unset, .unset] [(.int (1 : Int32))]))
      refine own_go (fun t k => XS.goto X0.here hx rfl (pc0 := 11) (pc' := 15) rfl (hb hby at_11) (by decide) (by decide) k) ?_
      exact J _ (by decide)
  · show own_Go _ _ _ _ (s₁.setTop (mkF m 3 #[.val (.int cv), .val (.int iv), .val (.int fv), .unset, .unset, .unset, .unset, .unset, .unset, .unset] [(.int (3 : Int32))]))
    refine own_go (fun t k => XS.istoreN X0.here hx rfl (hb hby at_3) rfl (l' := #[.val (.int cv), .val (.int iv), .val (.int fv), .val (.int (3 : Int32)), .unset, .unset, .unset, .unset, .unset, .unset]) rfl k) ?_
    have J : ∀ bv : Int32, nar .boolean bv = bv → own_Go p e below (own_Fin s room_1.cells room_1.slots (Q_law Z cv iv fv ue ude kde uel uem kem uemp urec umi h0 n0)) (s₁.setTop (mkF m 15 #[.val (.int cv), .val (.int iv), .val (.int fv), .val (.int (3 : Int32)), .unset, .unset, .unset, .unset, .unset, .unset] [(.int bv)])) := by
      intro bv hbv
      show own_Go _ _ _ _ (s₁.setTop (mkF m 15 #[.val (.int cv), .val (.int iv), .val (.int fv), .val (.int (3 : Int32)), .unset, .unset, .unset, .unset, .unset, .unset] [(.int bv)]))
      refine own_go (fun t k => XS.istore X0.here hx rfl (hb hby at_15) rfl (l' := #[.val (.int cv), .val (.int iv), .val (.int fv), .val (.int (3 : Int32)), .val (.int bv), .unset, .unset, .unset, .unset, .unset]) rfl k) ?_
      show own_Go _ _ _ _ (s₁.setTop (mkF m 17 #[.val (.int cv), .val (.int iv), .val (.int fv), .val (.int (3 : Int32)), .val (.int bv), .unset, .unset, .unset, .unset, .unset] []))
      obtain ⟨T450, h450, X450, e450, E450, A450, D450, -, st450⟩ := newO X0 hx hZ hown (w_0 hw) (w_1 hw) (w_2 hw) e0 (g := (mkF m 17 #[.val (.int cv), .val (.int iv), .val (.int fv), .val (.int (3 : Int32)), .val (.int bv), .unset, .unset, .unset, .unset, .unset] [])) rfl (hb hby at_17) (by decide) (by decide)
      obtain ⟨b450, g450⟩ : ∃ z, z = h0.size := ⟨_, rfl⟩
      rw [← g450] at A450 D450 st450
      refine own_go st450 ?_
      have Z450 : n0 ≤ h450.size := (Nat.le_trans Z0 E450.1)
      have lo450 : h0.size ≤ b450 := Nat.le_of_eq g450.symm
      have q450 : n0 ≤ b450 := Nat.le_trans Z0 lo450
      have hi450 : b450 < h450.size := A450.lt
      have F450_22 : Fld Z h450 b450 "java/util/AbstractList" "modCount" "I" (.int (0 : Int32)) := D450 (Or.inl (w_22 hw)) (ty := .int) (by decide)
      have F450_25 : Fld Z h450 b450 "java/util/ArrayList" "elementData" "[Ljava/lang/Object;" .null := D450 (Or.inl (w_25 hw)) (ty := (.array (.object "java/lang/Object"))) (by decide)
      have F450_62 : Fld Z h450 b450 "java/util/ArrayList" "size" "I" (.int (0 : Int32)) := D450 (Or.inl (w_62 hw)) (ty := .int) (by decide)
      show own_Go _ _ _ _ (T450.setTop (mkF m 20 #[.val (.int cv), .val (.int iv), .val (.int fv), .val (.int (3 : Int32)), .val (.int bv), .unset, .unset, .unset, .unset, .unset] [(.ref b450)]))
      refine own_go (fun t k => XS.dup X450.here hx rfl (hb hby at_20) rfl rfl k) ?_
      show own_Go _ _ _ _ (T450.setTop (mkF m 21 #[.val (.int cv), .val (.int iv), .val (.int fv), .val (.int (3 : Int32)), .val (.int bv), .unset, .unset, .unset, .unset, .unset] [(.ref b450), (.ref b450)]))
      obtain ⟨_, _, ⟨T451, L451, k451, n451⟩, -, X451, ⟨Lc451, hQ451, l451, y451, z451⟩, st451⟩ := X450.specialBack hx (y := (⟨"java/util/ArrayList", "<init>", "()V"⟩ : MethodName)) rfl hown (mvT hZ (w_3 hw)) (mvT hZ (w_4 hw)) (mvT hZ (w_5 hw)) (by decide) (backOf (W := 1) (rm_ali l Z a0 hw [] b450 ue ude kde uel uem kem uemp urec umi h450 n0 Z450 q450 A450 F450_22 F450_25 F450_62 (O0.ext E450) hF) hZ (w_5 hw) (w_2 hw) (by decide) (by decide)) (g := (mkF m 21 #[.val (.int cv), .val (.int iv), .val (.int fv), .val (.int (3 : Int32)), .val (.int bv), .unset, .unset, .unset, .unset, .unset] [(.ref b450), (.ref b450)])) rfl (by rw [hml]; rfl) (Steps.refl _) (a := b450) (argsL := []) (rest := [(.ref b450)]) (lenOf pd_0 rfl) rfl (by show 2 * 0 + _ ≤ _; exact Nat.le_of_eq rfl) (hb hby at_21) (fun _ _ => ⟨rfl, e450, (by decide : 1 + 0 ≤ _), (by decide : 3 + 0 ≤ _)⟩)
      dsimp only [Pt.U, Pt.locs, Pt.cells, Pt.slots] at X451 l451 y451 z451 st451 hQ451
      subst l451 y451 z451
      generalize e451 : T451.heap = h451 at hQ451
      obtain ⟨rfl, N451q, K451q, Fa451, Fb451, Fc451⟩ := hQ451
      have N451 := Fr.app N0 N451q
      refine own_go (fun t k => st451.trans k) ?_
      have Z451 : n0 ≤ h451.size := (Nat.le_trans Z450 K451q.1)
      show own_Go _ _ _ _ (T451.setTop (mkF m 24 #[.val (.int cv), .val (.int iv), .val (.int fv), .val (.int (3 : Int32)), .val (.int bv), .unset, .unset, .unset, .unset, .unset] [(.ref b450)]))
      refine own_go (fun t k => XS.astore X451.here hx rfl (hb hby at_24) rfl rfl (l' := #[.val (.int cv), .val (.int iv), .val (.int fv), .val (.int (3 : Int32)), .val (.int bv), .val (.ref b450), .unset, .unset, .unset, .unset]) rfl k) ?_
      show own_Go _ _ _ _ (T451.setTop (mkF m 26 #[.val (.int cv), .val (.int iv), .val (.int fv), .val (.int (3 : Int32)), .val (.int bv), .val (.ref b450), .unset, .unset, .unset, .unset] []))
      refine own_go (fun t k => XS.iloadN X451.here hx rfl (hb hby at_26) rfl k) ?_
      show own_Go _ _ _ _ (T451.setTop (mkF m 27 #[.val (.int cv), .val (.int iv), .val (.int fv), .val (.int (3 : Int32)), .val (.int bv), .val (.ref b450), .unset, .unset, .unset, .unset] [(.int (3 : Int32))]))
      refine own_go (fun t k => XS.iconst X451.here hx rfl (hb hby at_27) k) ?_
      show own_Go _ _ _ _ (T451.setTop (mkF m 28 #[.val (.int cv), .val (.int iv), .val (.int fv), .val (.int (3 : Int32)), .val (.int bv), .val (.ref b450), .unset, .unset, .unset, .unset] [(.int (1 : Int32)), (.int (3 : Int32))]))
      refine own_go (fun t k => XS.icmpNo X451.here hx rfl (hb hby at_28) rfl (flt (by decide : ¬ ((3 : Int32) < (1 : Int32)))).1 k) ?_
      show own_Go _ _ _ _ (T451.setTop (mkF m 31 #[.val (.int cv), .val (.int iv), .val (.int fv), .val (.int (3 : Int32)), .val (.int bv), .val (.ref b450), .unset, .unset, .unset, .unset] []))
      refine own_go (fun t k => XS.aload X451.here hx rfl (hb hby at_31) rfl rfl k) ?_
      show own_Go _ _ _ _ (T451.setTop (mkF m 33 #[.val (.int cv), .val (.int iv), .val (.int fv), .val (.int (3 : Int32)), .val (.int bv), .val (.ref b450), .unset, .unset, .unset, .unset] [(.ref b450)]))
      obtain ⟨T452, X452, e452, st452⟩ := getS2 X451 hx hZ hown (host := "") (Or.inl (w_73 hw)) Via.refl e451 (Se.ext ((O0.ext E450).keep K451q (allS q450 all0)).2) (g := (mkF m 33 #[.val (.int cv), .val (.int iv), .val (.int fv), .val (.int (3 : Int32)), .val (.int bv), .val (.ref b450), .unset, .unset, .unset, .unset] [(.ref b450)])) rfl (hb hby at_33)
      refine own_go st452 ?_
      show own_Go _ _ _ _ (T452.setTop (mkF m 36 #[.val (.int cv), .val (.int iv), .val (.int fv), .val (.int (3 : Int32)), .val (.int bv), .val (.ref b450), .unset, .unset, .unset, .unset] [(.ref ue), (.ref b450)]))
      obtain ⟨cq453, kq453, q453a, q453b, q453c⟩ := isOf hZ e452 (A450.keep K451q)
      obtain ⟨_, _, ⟨T453, L453, k453, n453⟩, -, X453, ⟨Lc453, hQ453, l453, y453, z453⟩, st453⟩ := X452.virtualBack hx (y := (⟨"java/util/ArrayList", "add", "(Ljava/lang/Object;)Z"⟩ : MethodName)) (z := (⟨"java/util/ArrayList", "add", "(Ljava/lang/Object;)Z"⟩ : MethodName)) hown (mvT hZ (w_76 hw)) (mvT hZ (w_77 hw)) (notFace_of_selects (args := #[]) (mvT hZ (w_79 hw))) (mvT hZ (w_79 hw)) (mvT hZ (w_78 hw)) (by decide) (backOf (W := 0) (rm_ad1_0 l Z a0 hw [] b450 ue ude kde uel uem kem uemp urec umi h451 n0 Z451 q450 (A450.keep K451q) Fa451 Fb451 Fc451 ((O0.ext E450).keep K451q (allS q450 all0)) hF) hZ (w_80 hw) (w_2 hw) (by decide) (by decide)) q453a q453c (g := (mkF m 36 #[.val (.int cv), .val (.int iv), .val (.int fv), .val (.int (3 : Int32)), .val (.int bv), .val (.ref b450), .unset, .unset, .unset, .unset] [(.ref ue), (.ref b450)])) rfl (by rw [hml]; rfl) (Steps.refl _) (argsL := [(.ref ue)]) (rest := []) (lenOf pd_16 rfl) rfl (by show 2 * 0 + _ ≤ _; exact Nat.le_of_eq rfl) (hb hby at_36) (fun _ _ => ⟨rfl, e452, (by decide : 1 + 1 ≤ _), (by decide : 3 + 10 ≤ _)⟩)
      dsimp only [Pt.U, Pt.locs, Pt.cells, Pt.slots] at X453 l453 y453 z453 st453 hQ453
      subst l453 y453 z453
      generalize e453 : T453.heap = h453 at hQ453
      obtain ⟨ub453, kb453, rfl, N453q, K453q, lo453, q453, O453, Eb453, A453, Fa453, Fb453, Fc453⟩ := hQ453
      have N453 := Fr.app N451 N453q
      refine own_go (fun t k => st453.trans k) ?_
      have Z453 : n0 ≤ h453.size := (Nat.le_trans Z451 K453q.1)
      have hi453 := A453.lt
      show own_Go _ _ _ _ (T453.setTop (mkF m 39 #[.val (.int cv), .val (.int iv), .val (.int fv), .val (.int (3 : Int32)), .val (.int bv), .val (.ref b450), .unset, .unset, .unset, .unset] [(.int (1 : Int32))]))
      refine own_go (fun t k => XS.pop X453.here hx rfl (hb hby at_39) rfl rfl k) ?_
      show own_Go _ _ _ _ (T453.setTop (mkF m 40 #[.val (.int cv), .val (.int iv), .val (.int fv), .val (.int (3 : Int32)), .val (.int bv), .val (.ref b450), .unset, .unset, .unset, .unset] []))
      refine own_go (fun t k => XS.iloadN X453.here hx rfl (hb hby at_40) rfl k) ?_
      show own_Go _ _ _ _ (T453.setTop (mkF m 41 #[.val (.int cv), .val (.int iv), .val (.int fv), .val (.int (3 : Int32)), .val (.int bv), .val (.ref b450), .unset, .unset, .unset, .unset] [(.int (3 : Int32))]))
      refine own_go (fun t k => XS.iconst X453.here hx rfl (hb hby at_41) k) ?_
      show own_Go _ _ _ _ (T453.setTop (mkF m 42 #[.val (.int cv), .val (.int iv), .val (.int fv), .val (.int (3 : Int32)), .val (.int bv), .val (.ref b450), .unset, .unset, .unset, .unset] [(.int (2 : Int32)), (.int (3 : Int32))]))
      refine own_go (fun t k => XS.icmpNo X453.here hx rfl (hb hby at_42) rfl (flt (by decide : ¬ ((3 : Int32) < (2 : Int32)))).1 k) ?_
      show own_Go _ _ _ _ (T453.setTop (mkF m 45 #[.val (.int cv), .val (.int iv), .val (.int fv), .val (.int (3 : Int32)), .val (.int bv), .val (.ref b450), .unset, .unset, .unset, .unset] []))
      refine own_go (fun t k => XS.aload X453.here hx rfl (hb hby at_45) rfl rfl k) ?_
      show own_Go _ _ _ _ (T453.setTop (mkF m 47 #[.val (.int cv), .val (.int iv), .val (.int fv), .val (.int (3 : Int32)), .val (.int bv), .val (.ref b450), .unset, .unset, .unset, .unset] [(.ref b450)]))
      have f454 := (((O0.ext E450).keep K451q (allS q450 all0)).keep K453q (allS q450 all0))
      obtain ⟨T455, X455, e455, st455⟩ := getS2 X453 hx hZ hown (host := "") (Or.inl (w_73 hw)) Via.refl e453 (Se.ext f454.2) (g := (mkF m 47 #[.val (.int cv), .val (.int iv), .val (.int fv), .val (.int (3 : Int32)), .val (.int bv), .val (.ref b450), .unset, .unset, .unset, .unset] [(.ref b450)])) rfl (hb hby at_47)
      refine own_go st455 ?_
      show own_Go _ _ _ _ (T455.setTop (mkF m 50 #[.val (.int cv), .val (.int iv), .val (.int fv), .val (.int (3 : Int32)), .val (.int bv), .val (.ref b450), .unset, .unset, .unset, .unset] [(.ref ue), (.ref b450)]))
      obtain ⟨cq456, kq456, q456a, q456b, q456c⟩ := isOf hZ e455 ((A450.keep K451q).keep K453q)
      obtain ⟨_, _, ⟨T456, L456, k456, n456⟩, -, X456, ⟨Lc456, hQ456, l456, y456, z456⟩, st456⟩ := X455.virtualBack hx (y := (⟨"java/util/ArrayList", "add", "(Ljava/lang/Object;)Z"⟩ : MethodName)) (z := (⟨"java/util/ArrayList", "add", "(Ljava/lang/Object;)Z"⟩ : MethodName)) hown (mvT hZ (w_76 hw)) (mvT hZ (w_77 hw)) (notFace_of_selects (args := #[]) (mvT hZ (w_79 hw))) (mvT hZ (w_79 hw)) (mvT hZ (w_78 hw)) (by decide) (backOf (W := 0) (rm_ad1_1 l Z a0 hw [] b450 ub453 kb453 ue ude kde uel uem kem uemp urec umi h453 n0 Z453 q450 ((A450.keep K451q).keep K453q) Fa453 Fb453 Fc453 A453 q453 O453 (Nat.ne_of_lt (Nat.lt_of_lt_of_le hi450 (Nat.le_trans K451q.1 lo453))) f454 hF) hZ (w_80 hw) (w_2 hw) (by decide) (by decide)) q456a q456c (g := (mkF m 50 #[.val (.int cv), .val (.int iv), .val (.int fv), .val (.int (3 : Int32)), .val (.int bv), .val (.ref b450), .unset, .unset, .unset, .unset] [(.ref ue), (.ref b450)])) rfl (by rw [hml]; rfl) (Steps.refl _) (argsL := [(.ref ue)]) (rest := []) (lenOf pd_16 rfl) rfl (by show 2 * 0 + _ ≤ _; exact Nat.le_of_eq rfl) (hb hby at_50) (fun _ _ => ⟨rfl, e455, (by decide : 2 + 0 ≤ _), (by decide : 13 + 0 ≤ _)⟩)
      dsimp only [Pt.U, Pt.locs, Pt.cells, Pt.slots] at X456 l456 y456 z456 st456 hQ456
      subst l456 y456 z456
      generalize e456 : T456.heap = h456 at hQ456
      obtain ⟨rfl, N456q, K456q, A456, Fa456, Fb456, Fc456⟩ := hQ456
      have N456 := Fr.app N453 N456q
      refine own_go (fun t k => st456.trans k) ?_
      have Z456 : n0 ≤ h456.size := (Nat.le_trans Z453 K456q.1)
      show own_Go _ _ _ _ (T456.setTop (mkF m 53 #[.val (.int cv), .val (.int iv), .val (.int fv), .val (.int (3 : Int32)), .val (.int bv), .val (.ref b450), .unset, .unset, .unset, .unset] [(.int (1 : Int32))]))
      refine own_go (fun t k => XS.pop X456.here hx rfl (hb hby at_53) rfl rfl k) ?_
      show own_Go _ _ _ _ (T456.setTop (mkF m 54 #[.val (.int cv), .val (.int iv), .val (.int fv), .val (.int (3 : Int32)), .val (.int bv), .val (.ref b450), .unset, .unset, .unset, .unset] []))
      refine own_go (fun t k => XS.iloadN X456.here hx rfl (hb hby at_54) rfl k) ?_
      show own_Go _ _ _ _ (T456.setTop (mkF m 55 #[.val (.int cv), .val (.int iv), .val (.int fv), .val (.int (3 : Int32)), .val (.int bv), .val (.ref b450), .unset, .unset, .unset, .unset] [(.int (3 : Int32))]))
      refine own_go (fun t k => XS.iconst X456.here hx rfl (hb hby at_55) k) ?_
      show own_Go _ _ _ _ (T456.setTop (mkF m 56 #[.val (.int cv), .val (.int iv), .val (.int fv), .val (.int (3 : Int32)), .val (.int bv), .val (.ref b450), .unset, .unset, .unset, .unset] [(.int (3 : Int32)), (.int (3 : Int32))]))
      refine own_go (fun t k => XS.icmpNo X456.here hx rfl (hb hby at_56) rfl (flt (by decide : ¬ ((3 : Int32) < (3 : Int32)))).1 k) ?_
      show own_Go _ _ _ _ (T456.setTop (mkF m 59 #[.val (.int cv), .val (.int iv), .val (.int fv), .val (.int (3 : Int32)), .val (.int bv), .val (.ref b450), .unset, .unset, .unset, .unset] []))
      refine own_go (fun t k => XS.aload X456.here hx rfl (hb hby at_59) rfl rfl k) ?_
      show own_Go _ _ _ _ (T456.setTop (mkF m 61 #[.val (.int cv), .val (.int iv), .val (.int fv), .val (.int (3 : Int32)), .val (.int bv), .val (.ref b450), .unset, .unset, .unset, .unset] [(.ref b450)]))
      obtain ⟨T457, X457, e457, st457⟩ := getS2 X456 hx hZ hown (host := "") (Or.inl (w_73 hw)) Via.refl e456 (Se.ext (f454.keep K456q (allS q450 (allS q453 all0))).2) (g := (mkF m 61 #[.val (.int cv), .val (.int iv), .val (.int fv), .val (.int (3 : Int32)), .val (.int bv), .val (.ref b450), .unset, .unset, .unset, .unset] [(.ref b450)])) rfl (hb hby at_61)
      refine own_go st457 ?_
      show own_Go _ _ _ _ (T457.setTop (mkF m 64 #[.val (.int cv), .val (.int iv), .val (.int fv), .val (.int (3 : Int32)), .val (.int bv), .val (.ref b450), .unset, .unset, .unset, .unset] [(.ref ue), (.ref b450)]))
      obtain ⟨cq458, kq458, q458a, q458b, q458c⟩ := isOf hZ e457 (((A450.keep K451q).keep K453q).keep K456q)
      obtain ⟨_, _, ⟨T458, L458, k458, n458⟩, -, X458, ⟨Lc458, hQ458, l458, y458, z458⟩, st458⟩ := X457.virtualBack hx (y := (⟨"java/util/ArrayList", "add", "(Ljava/lang/Object;)Z"⟩ : MethodName)) (z := (⟨"java/util/ArrayList", "add", "(Ljava/lang/Object;)Z"⟩ : MethodName)) hown (mvT hZ (w_76 hw)) (mvT hZ (w_77 hw)) (notFace_of_selects (args := #[]) (mvT hZ (w_79 hw))) (mvT hZ (w_79 hw)) (mvT hZ (w_78 hw)) (by decide) (backOf (W := 0) (rm_ad1_2 l Z a0 hw [] b450 ub453 kb453 ue ude kde uel uem kem uemp urec umi h456 n0 Z456 q450 (((A450.keep K451q).keep K453q).keep K456q) Fa456 Fb456 Fc456 A456 q453 O453 (Nat.ne_of_lt (Nat.lt_of_lt_of_le hi450 (Nat.le_trans K451q.1 lo453))) (f454.keep K456q (allS q450 (allS q453 all0))) hF) hZ (w_80 hw) (w_2 hw) (by decide) (by decide)) q458a q458c (g := (mkF m 64 #[.val (.int cv), .val (.int iv), .val (.int fv), .val (.int (3 : Int32)), .val (.int bv), .val (.ref b450), .unset, .unset, .unset, .unset] [(.ref ue), (.ref b450)])) rfl (by rw [hml]; rfl) (Steps.refl _) (argsL := [(.ref ue)]) (rest := []) (lenOf pd_16 rfl) rfl (by show 2 * 0 + _ ≤ _; exact Nat.le_of_eq rfl) (hb hby at_64) (fun _ _ => ⟨rfl, e457, (by decide : 2 + 0 ≤ _), (by decide : 13 + 0 ≤ _)⟩)
      dsimp only [Pt.U, Pt.locs, Pt.cells, Pt.slots] at X458 l458 y458 z458 st458 hQ458
      subst l458 y458 z458
      generalize e458 : T458.heap = h458 at hQ458
      obtain ⟨rfl, N458q, K458q, A458, Fa458, Fb458, Fc458⟩ := hQ458
      have N458 := Fr.app N456 N458q
      refine own_go (fun t k => st458.trans k) ?_
      have Z458 : n0 ≤ h458.size := (Nat.le_trans Z456 K458q.1)
      show own_Go _ _ _ _ (T458.setTop (mkF m 67 #[.val (.int cv), .val (.int iv), .val (.int fv), .val (.int (3 : Int32)), .val (.int bv), .val (.ref b450), .unset, .unset, .unset, .unset] [(.int (1 : Int32))]))
      refine own_go (fun t k => XS.pop X458.here hx rfl (hb hby at_67) rfl rfl k) ?_
      show own_Go _ _ _ _ (T458.setTop (mkF m 68 #[.val (.int cv), .val (.int iv), .val (.int fv), .val (.int (3 : Int32)), .val (.int bv), .val (.ref b450), .unset, .unset, .unset, .unset] []))
      obtain ⟨T459, h459, X459, e459, E459, A459, D459, -, st459⟩ := newO X458 hx hZ hown (w_26 hw) (w_27 hw) (w_28 hw) e458 (g := (mkF m 68 #[.val (.int cv), .val (.int iv), .val (.int fv), .val (.int (3 : Int32)), .val (.int bv), .val (.ref b450), .unset, .unset, .unset, .unset] [])) rfl (hb hby at_68) (by decide) (by decide)
      obtain ⟨b459, g459⟩ : ∃ z, z = h458.size := ⟨_, rfl⟩
      rw [← g459] at A459 D459 st459
      refine own_go st459 ?_
      have Z459 : n0 ≤ h459.size := (Nat.le_trans Z458 E459.1)
      have lo459 : h458.size ≤ b459 := Nat.le_of_eq g459.symm
      have q459 : n0 ≤ b459 := Nat.le_trans Z458 lo459
      have hi459 : b459 < h459.size := A459.lt
      have F459_68 : Fld Z h459 b459 "com/example/grantfold/grantfold/model/Setting" "allowed" "Z" (.int (0 : Int32)) := D459 (Or.inr (w_68 hw)) (ty := .boolean) (by decide)
      have F459_70 : Fld Z h459 b459 "com/example/grantfold/grantfold/model/Setting" "line" "I" (.int (0 : Int32)) := D459 (Or.inr (w_70 hw)) (ty := .int) (by decide)
      have F459_72 : Fld Z h459 b459 "com/example/grantfold/grantfold/model/Setting" "where" "Ljava/util/List;" .null := D459 (Or.inr (w_72 hw)) (ty := (.object "java/util/List")) (by decide)
      show own_Go _ _ _ _ (T459.setTop (mkF m 71 #[.val (.int cv), .val (.int iv), .val (.int fv), .val (.int (3 : Int32)), .val (.int bv), .val (.ref b450), .unset, .unset, .unset, .unset] [(.ref b459)]))
      refine own_go (fun t k => XS.dup X459.here hx rfl (hb hby at_71) rfl rfl k) ?_
      show own_Go _ _ _ _ (T459.setTop (mkF m 72 #[.val (.int cv), .val (.int iv), .val (.int fv), .val (.int (3 : Int32)), .val (.int bv), .val (.ref b450), .unset, .unset, .unset, .unset] [(.ref b459), (.ref b459)]))
      refine own_go (fun t k => XS.iload X459.here hx rfl (hb hby at_72) rfl k) ?_
      show own_Go _ _ _ _ (T459.setTop (mkF m 74 #[.val (.int cv), .val (.int iv), .val (.int fv), .val (.int (3 : Int32)), .val (.int bv), .val (.ref b450), .unset, .unset, .unset, .unset] [(.int bv), (.ref b459), (.ref b459)]))
      refine own_go (fun t k => XS.iloadN X459.here hx rfl (hb hby at_74) rfl k) ?_
      show own_Go _ _ _ _ (T459.setTop (mkF m 75 #[.val (.int cv), .val (.int iv), .val (.int fv), .val (.int (3 : Int32)), .val (.int bv), .val (.ref b450), .unset, .unset, .unset, .unset] [(.int iv), (.int bv), (.ref b459), (.ref b459)]))
      refine own_go (fun t k => XS.aload X459.here hx rfl (hb hby at_75) rfl rfl k) ?_
      have f460 := (((((A450.keep K451q).keep K453q).keep K456q).keep K458q).ext E459)
      have f461 := (((f454.keep K456q (allS q450 (allS q453 all0))).keep K458q (allS q450 (allS q453 all0))).ext E459)
      show own_Go _ _ _ _ (T459.setTop (mkF m 77 #[.val (.int cv), .val (.int iv), .val (.int fv), .val (.int (3 : Int32)), .val (.int bv), .val (.ref b450), .unset, .unset, .unset, .unset] [(.ref b450), (.int iv), (.int bv), (.ref b459), (.ref b459)]))
      obtain ⟨_, _, ⟨T462, L462, k462, n462⟩, -, X462, ⟨Lc462, hQ462, l462, y462, z462⟩, st462⟩ := X459.specialBack hx (y := (⟨"com/example/grantfold/grantfold/model/Setting", "<init>", "(ZILjava/util/List;)V"⟩ : MethodName)) rfl hown (mvT hZ (w_29 hw)) (mvT hZ (w_30 hw)) (mvT hZ (w_31 hw)) (by decide) (backOf (W := 1) (rm_set_3 l Z a0 hw [] b459 bv iv b450 ub453 kb453 ue ude kde uel uem kem uemp urec umi h459 n0 Z459 q459 A459 F459_68 F459_70 F459_72 hbv (Fb458.ext E459) (Fc458.ext E459) f460 (A458.ext E459) (((Eb453.keep K456q).keep K458q).ext E459) f461 hF) hZ (w_31 hw) (w_28 hw) (by decide) (by decide)) (g := (mkF m 77 #[.val (.int cv), .val (.int iv), .val (.int fv), .val (.int (3 : Int32)), .val (.int bv), .val (.ref b450), .unset, .unset, .unset, .unset] [(.ref b450), (.int iv), (.int bv), (.ref b459), (.ref b459)])) rfl (by rw [hml]; rfl) (Steps.refl _) (a := b459) (argsL := [(.int bv), (.int iv), (.ref b450)]) (rest := [(.ref b459)]) (lenOf pd_15 rfl) rfl (by show 2 * 0 + _ ≤ _; exact Nat.le_of_eq rfl) (hb hby at_77) (fun _ _ => ⟨rfl, e459, (by decide : 3 + 3 ≤ _), (by decide : 16 + 8 ≤ _)⟩)
      dsimp only [Pt.U, Pt.locs, Pt.cells, Pt.slots] at X462 l462 y462 z462 st462 hQ462
      subst l462 y462 z462
      generalize e462 : T462.heap = h462 at hQ462
      obtain ⟨ux462, rfl, N462q, K462q, ⟨Ga462, Gb462, Gc462⟩, lo462, q462, uy462, ky462, qy462, ly462, Ex462, Fx462, Ay462⟩ := hQ462
      have N462 := Fr.app N458 N462q
      refine own_go (fun t k => st462.trans k) ?_
      have Z462 : n0 ≤ h462.size := (Nat.le_trans Z459 K462q.1)
      have hi462 := Ex462.lt
      have hy462 := Ay462.lt
      show own_Go _ _ _ _ (T462.setTop (mkF m 80 #[.val (.int cv), .val (.int iv), .val (.int fv), .val (.int (3 : Int32)), .val (.int bv), .val (.ref b450), .unset, .unset, .unset, .unset] [(.ref b459)]))
      refine own_go (fun t k => XS.astore X462.here hx rfl (hb hby at_80) rfl rfl (l' := #[.val (.int cv), .val (.int iv), .val (.int fv), .val (.int (3 : Int32)), .val (.int bv), .val (.ref b450), .val (.ref b459), .unset, .unset, .unset]) rfl k) ?_
      show own_Go _ _ _ _ (T462.setTop (mkF m 82 #[.val (.int cv), .val (.int iv), .val (.int fv), .val (.int (3 : Int32)), .val (.int bv), .val (.ref b450), .val (.ref b459), .unset, .unset, .unset] []))
      refine own_go (fun t k => XS.aload X462.here hx rfl (hb hby at_82) rfl rfl k) ?_
      show own_Go _ _ _ _ (T462.setTop (mkF m 84 #[.val (.int cv), .val (.int iv), .val (.int fv), .val (.int (3 : Int32)), .val (.int bv), .val (.ref b450), .val (.ref b459), .unset, .unset, .unset] [(.ref b450)]))
      obtain ⟨T463, X463, e463, st463⟩ := getS2 X462 hx hZ hown (host := "") (Or.inl (w_73 hw)) Via.refl e462 (Se.ext (f461.keep K462q (allS q459 all0)).2) (g := (mkF m 84 #[.val (.int cv), .val (.int iv), .val (.int fv), .val (.int (3 : Int32)), .val (.int bv), .val (.ref b450), .val (.ref b459), .unset, .unset, .unset] [(.ref b450)])) rfl (hb hby at_84)
      refine own_go st463 ?_
      have f464 := ((Fc458.ext E459).keep K462q (ninS (Nat.ne_of_lt (Nat.lt_of_lt_of_le hi450 (Nat.le_trans (Nat.le_trans (Nat.le_trans (Nat.le_trans K451q.1 K453q.1) K456q.1) K458q.1) lo459))) nin0))
      have f465 := ((Fb458.ext E459).keep K462q (ninS (Nat.ne_of_lt (Nat.lt_of_lt_of_le hi450 (Nat.le_trans (Nat.le_trans (Nat.le_trans (Nat.le_trans K451q.1 K453q.1) K456q.1) K458q.1) lo459))) nin0))
      have f466 := ((A458.ext E459).keep K462q (ninS (Nat.ne_of_lt (Nat.lt_of_lt_of_le hi453 (Nat.le_trans (Nat.le_trans K456q.1 K458q.1) lo459))) nin0))
      have f467 := ((Fa458.ext E459).keep K462q (ninS (Nat.ne_of_lt (Nat.lt_of_lt_of_le hi450 (Nat.le_trans (Nat.le_trans (Nat.le_trans (Nat.le_trans K451q.1 K453q.1) K456q.1) K458q.1) lo459))) nin0))
      show own_Go _ _ _ _ (T463.setTop (mkF m 87 #[.val (.int cv), .val (.int iv), .val (.int fv), .val (.int (3 : Int32)), .val (.int bv), .val (.ref b450), .val (.ref b459), .unset, .unset, .unset] [(.ref ue), (.ref b450)]))
      obtain ⟨cq468, kq468, q468a, q468b, q468c⟩ := isOf hZ e463 (f460.keep K462q)
      obtain ⟨_, _, ⟨T468, L468, k468, n468⟩, -, X468, ⟨Lc468, hQ468, l468, y468, z468⟩, st468⟩ := X463.virtualBack hx (y := (⟨"java/util/ArrayList", "add", "(Ljava/lang/Object;)Z"⟩ : MethodName)) (z := (⟨"java/util/ArrayList", "add", "(Ljava/lang/Object;)Z"⟩ : MethodName)) hown (mvT hZ (w_76 hw)) (mvT hZ (w_77 hw)) (notFace_of_selects (args := #[]) (mvT hZ (w_79 hw))) (mvT hZ (w_79 hw)) (mvT hZ (w_78 hw)) (by decide) (backOf (W := 0) (rm_ad1_3 l Z a0 hw [] b450 ub453 kb453 ue ude kde uel uem kem uemp urec umi h462 n0 Z462 q450 (f460.keep K462q) f467 f465 f464 f466 q453 O453 (Nat.ne_of_lt (Nat.lt_of_lt_of_le hi450 (Nat.le_trans K451q.1 lo453))) (f461.keep K462q (allS q459 all0)) hF) hZ (w_80 hw) (w_2 hw) (by decide) (by decide)) q468a q468c (g := (mkF m 87 #[.val (.int cv), .val (.int iv), .val (.int fv), .val (.int (3 : Int32)), .val (.int bv), .val (.ref b450), .val (.ref b459), .unset, .unset, .unset] [(.ref ue), (.ref b450)])) rfl (by rw [hml]; rfl) (Steps.refl _) (argsL := [(.ref ue)]) (rest := []) (lenOf pd_16 rfl) rfl (by show 2 * 0 + _ ≤ _; exact Nat.le_of_eq rfl) (hb hby at_87) (fun _ _ => ⟨rfl, e463, (by decide : 6 + 0 ≤ _), (by decide : 24 + 0 ≤ _)⟩)
      dsimp only [Pt.U, Pt.locs, Pt.cells, Pt.slots] at X468 l468 y468 z468 st468 hQ468
      subst l468 y468 z468
      generalize e468 : T468.heap = h468 at hQ468
      obtain ⟨rfl, N468q, K468q, A468, Fa468, Fb468, Fc468⟩ := hQ468
      have N468 := Fr.app N462 N468q
      refine own_go (fun t k => st468.trans k) ?_
      have Z468 : n0 ≤ h468.size := (Nat.le_trans Z462 K468q.1)
      show own_Go _ _ _ _ (T468.setTop (mkF m 90 #[.val (.int cv), .val (.int iv), .val (.int fv), .val (.int (3 : Int32)), .val (.int bv), .val (.ref b450), .val (.ref b459), .unset, .unset, .unset] [(.int (1 : Int32))]))
      refine own_go (fun t k => XS.pop X468.here hx rfl (hb hby at_90) rfl rfl k) ?_
      show own_Go _ _ _ _ (T468.setTop (mkF m 91 #[.val (.int cv), .val (.int iv), .val (.int fv), .val (.int (3 : Int32)), .val (.int bv), .val (.ref b450), .val (.ref b459), .unset, .unset, .unset] []))
      refine own_go (fun t k => XS.aload X468.here hx rfl (hb hby at_91) rfl rfl k) ?_
      have f469 := (Gc462.keep K468q (ninS (Ne.symm (Nat.ne_of_lt (Nat.lt_of_lt_of_le hi450 (Nat.le_trans (Nat.le_trans (Nat.le_trans (Nat.le_trans K451q.1 K453q.1) K456q.1) K458q.1) lo459)))) (ninS (Ne.symm (Nat.ne_of_lt (Nat.lt_of_lt_of_le hi453 (Nat.le_trans (Nat.le_trans K456q.1 K458q.1) lo459)))) nin0)))
      have f470 := (Fx462.keep K468q (ninS (Ne.symm (Nat.ne_of_lt (Nat.lt_of_lt_of_le hi450 (Nat.le_trans (Nat.le_trans (Nat.le_trans (Nat.le_trans (Nat.le_trans K451q.1 K453q.1) K456q.1) K458q.1) E459.1) lo462)))) (ninS (Ne.symm (Nat.ne_of_lt (Nat.lt_of_lt_of_le hi453 (Nat.le_trans (Nat.le_trans (Nat.le_trans K456q.1 K458q.1) E459.1) lo462)))) nin0)))
      have f471 := (Ay462.keep K468q (ninS (Ne.symm (Nat.ne_of_lt (Nat.lt_of_lt_of_le hi450 (Nat.le_trans (Nat.le_trans (Nat.le_trans (Nat.le_trans (Nat.le_trans K451q.1 K453q.1) K456q.1) K458q.1) E459.1) ly462)))) (ninS (Ne.symm (Nat.ne_of_lt (Nat.lt_of_lt_of_le hi453 (Nat.le_trans (Nat.le_trans (Nat.le_trans K456q.1 K458q.1) E459.1) ly462)))) nin0)))
      have f472 := ((f461.keep K462q (allS q459 all0)).keep K468q (allS q450 (allS q453 all0)))
      show own_Go _ _ _ _ (T468.setTop (mkF m 93 #[.val (.int cv), .val (.int iv), .val (.int fv), .val (.int (3 : Int32)), .val (.int bv), .val (.ref b450), .val (.ref b459), .unset, .unset, .unset] [(.ref b459)]))
      obtain ⟨cq473, kq473, q473a, q473b, q473c⟩ := isOf hZ e468 ((A459.keep K462q).keep K468q)
      obtain ⟨_, _, ⟨T473, L473, k473, n473⟩, -, X473, ⟨Lc473, hQ473, l473, y473, z473⟩, st473⟩ := X468.virtualBack hx (y := (⟨"com/example/grantfold/grantfold/model/Setting", "scopes", "()Ljava/util/List;"⟩ : MethodName)) (z := (⟨"com/example/grantfold/grantfold/model/Setting", "scopes", "()Ljava/util/List;"⟩ : MethodName)) hown (mvT hZ (w_105 hw)) (mvT hZ (w_106 hw)) (notFace_of_selects (args := #[]) (mvT hZ (w_108 hw))) (mvT hZ (w_108 hw)) (mvT hZ (w_107 hw)) (by decide) (backOf (W := 0) (rm_scp_3 l Z a0 hw [] b459 ux462 uy462 ky462 ue ude kde uel uem kem uemp urec umi h468 n0 Z468 f469 (Ex462.keep K468q) f470 f471 f472 hF) hZ (w_109 hw) (w_28 hw) (by decide) (by decide)) q473a q473c (g := (mkF m 93 #[.val (.int cv), .val (.int iv), .val (.int fv), .val (.int (3 : Int32)), .val (.int bv), .val (.ref b450), .val (.ref b459), .unset, .unset, .unset] [(.ref b459)])) rfl (by rw [hml]; rfl) (Steps.refl _) (argsL := []) (rest := []) (lenOf pd_13 rfl) rfl (by show 2 * 0 + _ ≤ _; exact Nat.le_of_eq rfl) (hb hby at_93) (fun _ _ => ⟨rfl, e468, (by decide : 6 + 0 ≤ _), (by decide : 24 + 0 ≤ _)⟩)
      dsimp only [Pt.U, Pt.locs, Pt.cells, Pt.slots] at X473 l473 y473 z473 st473 hQ473
      subst l473 y473 z473
      obtain ⟨rfl, N473q, e473⟩ := hQ473
      have N473 := Fr.app N468 N473q
      refine own_go (fun t k => st473.trans k) ?_
      show own_Go _ _ _ _ (T473.setTop (mkF m 96 #[.val (.int cv), .val (.int iv), .val (.int fv), .val (.int (3 : Int32)), .val (.int bv), .val (.ref b450), .val (.ref b459), .unset, .unset, .unset] [(.ref ux462)]))
      refine own_go (fun t k => XS.astore X473.here hx rfl (hb hby at_96) rfl rfl (l' := #[.val (.int cv), .val (.int iv), .val (.int fv), .val (.int (3 : Int32)), .val (.int bv), .val (.ref b450), .val (.ref b459), .val (.ref ux462), .unset, .unset]) rfl k) ?_
      show own_Go _ _ _ _ (T473.setTop (mkF m 98 #[.val (.int cv), .val (.int iv), .val (.int fv), .val (.int (3 : Int32)), .val (.int bv), .val (.ref b450), .val (.ref b459), .val (.ref ux462), .unset, .unset] []))
      refine own_go (fun t k => XS.iloadN X473.here hx rfl (hb hby at_98) rfl k) ?_
      show own_Go _ _ _ _ (T473.setTop (mkF m 99 #[.val (.int cv), .val (.int iv), .val (.int fv), .val (.int (3 : Int32)), .val (.int bv), .val (.ref b450), .val (.ref b459), .val (.ref ux462), .unset, .unset] [(.int (3 : Int32))]))
      refine own_go (fun t k => XS.ifYes X473.here hx rfl (pc0 := 99) (pc' := 106) rfl (hb hby at_99) rfl ((if0 _ _).trans (feq (by decide : ¬ ((3 : Int32) = (0 : Int32)))).2) (by decide) (by decide) k) ?_
      show own_Go _ _ _ _ (T473.setTop (mkF m 106 #[.val (.int cv), .val (.int iv), .val (.int fv), .val (.int (3 : Int32)), .val (.int bv), .val (.ref b450), .val (.ref b459), .val (.ref ux462), .unset, .unset] []))
      refine own_go (fun t k => XS.iloadN X473.here hx rfl (hb hby at_106) rfl k) ?_
      show own_Go _ _ _ _ (T473.setTop (mkF m 107 #[.val (.int cv), .val (.int iv), .val (.int fv), .val (.int (3 : Int32)), .val (.int bv), .val (.ref b450), .val (.ref b459), .val (.ref ux462), .unset, .unset] [(.int (3 : Int32))]))
      refine own_go (fun t k => XS.istore X473.here hx rfl (hb hby at_107) rfl (l' := #[.val (.int cv), .val (.int iv), .val (.int fv), .val (.int (3 : Int32)), .val (.int bv), .val (.ref b450), .val (.ref b459), .val (.ref ux462), .val (.int (3 : Int32)), .unset]) rfl k) ?_
      show own_Go _ _ _ _ (T473.setTop (mkF m 109 #[.val (.int cv), .val (.int iv), .val (.int fv), .val (.int (3 : Int32)), .val (.int bv), .val (.ref b450), .val (.ref b459), .val (.ref ux462), .val (.int (3 : Int32)), .unset] []))
      refine own_go (fun t k => XS.aload X473.here hx rfl (hb hby at_109) rfl rfl k) ?_
      show own_Go _ _ _ _ (T473.setTop (mkF m 111 #[.val (.int cv), .val (.int iv), .val (.int fv), .val (.int (3 : Int32)), .val (.int bv), .val (.ref b450), .val (.ref b459), .val (.ref ux462), .val (.int (3 : Int32)), .unset] [(.ref ux462)]))
      obtain ⟨cq474, kq474, q474a, q474b, q474c⟩ := isOf hZ e473 (Ex462.keep K468q)
      obtain ⟨_, _, ⟨T474, L474, k474, n474⟩, -, X474, ⟨Lc474, hQ474, l474, y474, z474⟩, st474⟩ := X473.interfaceBack hx (xi := (⟨"java/util/List", "size", "()I"⟩ : MethodName)) (y := (⟨"java/util/ImmutableCollections$ListN", "size", "()I"⟩ : MethodName)) hown (mvT hZ (w_124 hw)) (mvT hZ (w_125 hw)) (mvT hZ (w_126 hw)) (mvT hZ (w_235 hw)) (mvT hZ (w_236 hw)) (mvT hZ (w_237 hw)) (mvT hZ (w_238 hw)) (mvT hZ (w_117 hw)) (by decide) (backOf (W := 0) (rm_sN l Z a0 hw [] ux462 uy462 ky462 ue h468 n0 Z468 f470 f471) hZ (w_239 hw) (w_118 hw) (by decide) (by decide)) q474a q474b q474c (g := (mkF m 111 #[.val (.int cv), .val (.int iv), .val (.int fv), .val (.int (3 : Int32)), .val (.int bv), .val (.ref b450), .val (.ref b459), .val (.ref ux462), .val (.int (3 : Int32)), .unset] [(.ref ux462)])) rfl (by rw [hml]; rfl) (Steps.refl _) (argsL := []) (rest := []) (lenOf pd_17 rfl) rfl (by show 2 * 0 + _ ≤ _; exact Nat.le_of_eq rfl) (hb hby at_111) (fun _ _ => ⟨rfl, e473, (by decide : 6 + 0 ≤ _), (by decide : 24 + 0 ≤ _)⟩)
      dsimp only [Pt.U, Pt.locs, Pt.cells, Pt.slots] at X474 l474 y474 z474 st474 hQ474
      subst l474 y474 z474
      obtain ⟨rfl, N474q, e474⟩ := hQ474
      have N474 := Fr.app N473 N474q
      refine own_go (fun t k => st474.trans k) ?_
      show own_Go _ _ _ _ (T474.setTop (mkF m 116 #[.val (.int cv), .val (.int iv), .val (.int fv), .val (.int (3 : Int32)), .val (.int bv), .val (.ref b450), .val (.ref b459), .val (.ref ux462), .val (.int (3 : Int32)), .unset] [(.int (3 : Int32))]))
      refine own_go (fun t k => XS.iload X474.here hx rfl (hb hby at_116) rfl k) ?_
      show own_Go _ _ _ _ (T474.setTop (mkF m 118 #[.val (.int cv), .val (.int iv), .val (.int fv), .val (.int (3 : Int32)), .val (.int bv), .val (.ref b450), .val (.ref b459), .val (.ref ux462), .val (.int (3 : Int32)), .unset] [(.int (3 : Int32)), (.int (3 : Int32))]))
      refine own_go (fun t k => XS.icmpYes X474.here hx rfl (pc0 := 118) (pc' := 123) rfl (hb hby at_118) rfl (teq (by decide : (3 : Int32) = (3 : Int32))).1 (by decide) (by decide) k) ?_
      show own_Go _ _ _ _ (T474.setTop (mkF m 123 #[.val (.int cv), .val (.int iv), .val (.int fv), .val (.int (3 : Int32)), .val (.int bv), .val (.ref b450), .val (.ref b459), .val (.ref ux462), .val (.int (3 : Int32)), .unset] []))
      refine own_go (fun t k => XS.aload X474.here hx rfl (hb hby at_123) rfl rfl k) ?_
      show own_Go _ _ _ _ (T474.setTop (mkF m 125 #[.val (.int cv), .val (.int iv), .val (.int fv), .val (.int (3 : Int32)), .val (.int bv), .val (.ref b450), .val (.ref b459), .val (.ref ux462), .val (.int (3 : Int32)), .unset] [(.ref ux462)]))
      refine own_go (fun t k => XS.iconst X474.here hx rfl (hb hby at_125) k) ?_
      show own_Go _ _ _ _ (T474.setTop (mkF m 126 #[.val (.int cv), .val (.int iv), .val (.int fv), .val (.int (3 : Int32)), .val (.int bv), .val (.ref b450), .val (.ref b459), .val (.ref ux462), .val (.int (3 : Int32)), .unset] [(.int (0 : Int32)), (.ref ux462)]))
      obtain ⟨cq475, kq475, q475a, q475b, q475c⟩ := isOf hZ e474 (Ex462.keep K468q)
      obtain ⟨_, _, ⟨T475, L475, k475, n475⟩, -, X475, ⟨Lc475, hQ475, l475, y475, z475⟩, st475⟩ := X474.interfaceBack hx (xi := (⟨"java/util/List", "get", "(I)Ljava/lang/Object;"⟩ : MethodName)) (y := (⟨"java/util/ImmutableCollections$ListN", "get", "(I)Ljava/lang/Object;"⟩ : MethodName)) hown (mvT hZ (w_137 hw)) (mvT hZ (w_138 hw)) (mvT hZ (w_139 hw)) (mvT hZ (w_240 hw)) (mvT hZ (w_241 hw)) (mvT hZ (w_242 hw)) (mvT hZ (w_243 hw)) (mvT hZ (w_117 hw)) (by decide) (backOf (W := 0) (rm_gN_0 l Z a0 hw [] ux462 uy462 ky462 ue h468 n0 Z468 f470 f471) hZ (w_244 hw) (w_118 hw) (by decide) (by decide)) q475a q475b q475c (g := (mkF m 126 #[.val (.int cv), .val (.int iv), .val (.int fv), .val (.int (3 : Int32)), .val (.int bv), .val (.ref b450), .val (.ref b459), .val (.ref ux462), .val (.int (3 : Int32)), .unset] [(.int (0 : Int32)), (.ref ux462)])) rfl (by rw [hml]; rfl) (Steps.refl _) (argsL := [(.int (0 : Int32))]) (rest := []) (lenOf pd_18 rfl) rfl (by show 2 * 0 + _ ≤ _; exact Nat.le_of_eq rfl) (hb hby at_126) (fun _ _ => ⟨rfl, e474, (by decide : 6 + 0 ≤ _), (by decide : 24 + 0 ≤ _)⟩)
      dsimp only [Pt.U, Pt.locs, Pt.cells, Pt.slots] at X475 l475 y475 z475 st475 hQ475
      subst l475 y475 z475
      obtain ⟨rfl, N475q, e475⟩ := hQ475
      have N475 := Fr.app N474 N475q
      refine own_go (fun t k => st475.trans k) ?_
      show own_Go _ _ _ _ (T475.setTop (mkF m 131 #[.val (.int cv), .val (.int iv), .val (.int fv), .val (.int (3 : Int32)), .val (.int bv), .val (.ref b450), .val (.ref b459), .val (.ref ux462), .val (.int (3 : Int32)), .unset] [(.ref ue)]))
      obtain ⟨T476, X476, e476, st476⟩ := getS2 X475 hx hZ hown (host := "") (Or.inl (w_73 hw)) Via.refl e475 (Se.ext f472.2) (g := (mkF m 131 #[.val (.int cv), .val (.int iv), .val (.int fv), .val (.int (3 : Int32)), .val (.int bv), .val (.ref b450), .val (.ref b459), .val (.ref ux462), .val (.int (3 : Int32)), .unset] [(.ref ue)])) rfl (hb hby at_131)
      refine own_go st476 ?_
      show own_Go _ _ _ _ (T476.setTop (mkF m 134 #[.val (.int cv), .val (.int iv), .val (.int fv), .val (.int (3 : Int32)), .val (.int bv), .val (.ref b450), .val (.ref b459), .val (.ref ux462), .val (.int (3 : Int32)), .unset] [(.ref ue), (.ref ue)]))
      refine own_go (fun t k => Jvm.RoadKit.acmp (g := (mkF m 134 #[.val (.int cv), .val (.int iv), .val (.int fv), .val (.int (3 : Int32)), .val (.int bv), .val (.ref b450), .val (.ref b459), .val (.ref ux462), .val (.int (3 : Int32)), .unset] [(.ref ue), (.ref ue)])) X476 hx rfl rfl rfl (pc0 := 134) (pc' := 137) (same := true) rfl (hb hby at_134) rfl (decide_eq_true rfl) (by decide) (by decide) k) ?_
      show own_Go _ _ _ _ (T476.setTop (mkF m 137 #[.val (.int cv), .val (.int iv), .val (.int fv), .val (.int (3 : Int32)), .val (.int bv), .val (.ref b450), .val (.ref b459), .val (.ref ux462), .val (.int (3 : Int32)), .unset] []))
      refine own_go (fun t k => XS.iconst X476.here hx rfl (hb hby at_137) k) ?_
      show own_Go _ _ _ _ (T476.setTop (mkF m 138 #[.val (.int cv), .val (.int iv), .val (.int fv), .val (.int (3 : Int32)), .val (.int bv), .val (.ref b450), .val (.ref b459), .val (.ref ux462), .val (.int (3 : Int32)), .unset] [(.int (1 : Int32))]))
      refine own_go (fun t k => XS.goto X476.here hx rfl (pc0 := 138) (pc' := 142) rfl (hb hby at_138) (by decide) (by decide) k) ?_
      show own_Go _ _ _ _ (T476.setTop (mkF m 142 #[.val (.int cv), .val (.int iv), .val (.int fv), .val (.int (3 : Int32)), .val (.int bv), .val (.ref b450), .val (.ref b459), .val (.ref ux462), .val (.int (3 : Int32)), .unset] [(.int (1 : Int32))]))
      refine own_go (fun t k => XS.istore X476.here hx rfl (hb hby at_142) rfl (l' := #[.val (.int cv), .val (.int iv), .val (.int fv), .val (.int (3 : Int32)), .val (.int bv), .val (.ref b450), .val (.ref b459), .val (.ref ux462), .val (.int (3 : Int32)), .val (.int (1 : Int32))]) rfl k) ?_
      show own_Go _ _ _ _ (T476.setTop (mkF m 144 #[.val (.int cv), .val (.int iv), .val (.int fv), .val (.int (3 : Int32)), .val (.int bv), .val (.ref b450), .val (.ref b459), .val (.ref ux462), .val (.int (3 : Int32)), .val (.int (1 : Int32))] []))
      refine own_go (fun t k => XS.iload X476.here hx rfl (hb hby at_144) rfl k) ?_
      show own_Go _ _ _ _ (T476.setTop (mkF m 146 #[.val (.int cv), .val (.int iv), .val (.int fv), .val (.int (3 : Int32)), .val (.int bv), .val (.ref b450), .val (.ref b459), .val (.ref ux462), .val (.int (3 : Int32)), .val (.int (1 : Int32))] [(.int (3 : Int32))]))
      refine own_go (fun t k => XS.iconst X476.here hx rfl (hb hby at_146) k) ?_
      show own_Go _ _ _ _ (T476.setTop (mkF m 147 #[.val (.int cv), .val (.int iv), .val (.int fv), .val (.int (3 : Int32)), .val (.int bv), .val (.ref b450), .val (.ref b459), .val (.ref ux462), .val (.int (3 : Int32)), .val (.int (1 : Int32))] [(.int (2 : Int32)), (.int (3 : Int32))]))
      refine own_go (fun t k => XS.icmpNo X476.here hx rfl (hb hby at_147) rfl (flt (by decide : ¬ ((3 : Int32) < (2 : Int32)))).1 k) ?_
      show own_Go _ _ _ _ (T476.setTop (mkF m 150 #[.val (.int cv), .val (.int iv), .val (.int fv), .val (.int (3 : Int32)), .val (.int bv), .val (.ref b450), .val (.ref b459), .val (.ref ux462), .val (.int (3 : Int32)), .val (.int (1 : Int32))] []))
      refine own_go (fun t k => XS.iload X476.here hx rfl (hb hby at_150) rfl k) ?_
      show own_Go _ _ _ _ (T476.setTop (mkF m 152 #[.val (.int cv), .val (.int iv), .val (.int fv), .val (.int (3 : Int32)), .val (.int bv), .val (.ref b450), .val (.ref b459), .val (.ref ux462), .val (.int (3 : Int32)), .val (.int (1 : Int32))] [(.int (1 : Int32))]))
      refine own_go (fun t k => XS.ifNo X476.here hx rfl (hb hby at_152) rfl ((if0 _ _).trans (feq (by decide : ¬ ((1 : Int32) = (0 : Int32)))).1) k) ?_
      show own_Go _ _ _ _ (T476.setTop (mkF m 155 #[.val (.int cv), .val (.int iv), .val (.int fv), .val (.int (3 : Int32)), .val (.int bv), .val (.ref b450), .val (.ref b459), .val (.ref ux462), .val (.int (3 : Int32)), .val (.int (1 : Int32))] []))
      refine own_go (fun t k => XS.aload X476.here hx rfl (hb hby at_155) rfl rfl k) ?_
      show own_Go _ _ _ _ (T476.setTop (mkF m 157 #[.val (.int cv), .val (.int iv), .val (.int fv), .val (.int (3 : Int32)), .val (.int bv), .val (.ref b450), .val (.ref b459), .val (.ref ux462), .val (.int (3 : Int32)), .val (.int (1 : Int32))] [(.ref ux462)]))
      refine own_go (fun t k => XS.iconst X476.here hx rfl (hb hby at_157) k) ?_
      show own_Go _ _ _ _ (T476.setTop (mkF m 158 #[.val (.int cv), .val (.int iv), .val (.int fv), .val (.int (3 : Int32)), .val (.int bv), .val (.ref b450), .val (.ref b459), .val (.ref ux462), .val (.int (3 : Int32)), .val (.int (1 : Int32))] [(.int (1 : Int32)), (.ref ux462)]))
      obtain ⟨cq477, kq477, q477a, q477b, q477c⟩ := isOf hZ e476 (Ex462.keep K468q)
      obtain ⟨_, _, ⟨T477, L477, k477, n477⟩, -, X477, ⟨Lc477, hQ477, l477, y477, z477⟩, st477⟩ := X476.interfaceBack hx (xi := (⟨"java/util/List", "get", "(I)Ljava/lang/Object;"⟩ : MethodName)) (y := (⟨"java/util/ImmutableCollections$ListN", "get", "(I)Ljava/lang/Object;"⟩ : MethodName)) hown (mvT hZ (w_137 hw)) (mvT hZ (w_138 hw)) (mvT hZ (w_139 hw)) (mvT hZ (w_240 hw)) (mvT hZ (w_241 hw)) (mvT hZ (w_242 hw)) (mvT hZ (w_243 hw)) (mvT hZ (w_117 hw)) (by decide) (backOf (W := 0) (rm_gN_1 l Z a0 hw [] ux462 uy462 ky462 ue h468 n0 Z468 f470 f471) hZ (w_244 hw) (w_118 hw) (by decide) (by decide)) q477a q477b q477c (g := (mkF m 158 #[.val (.int cv), .val (.int iv), .val (.int fv), .val (.int (3 : Int32)), .val (.int bv), .val (.ref b450), .val (.ref b459), .val (.ref ux462), .val (.int (3 : Int32)), .val (.int (1 : Int32))] [(.int (1 : Int32)), (.ref ux462)])) rfl (by rw [hml]; rfl) (Steps.refl _) (argsL := [(.int (1 : Int32))]) (rest := []) (lenOf pd_18 rfl) rfl (by show 2 * 0 + _ ≤ _; exact Nat.le_of_eq rfl) (hb hby at_158) (fun _ _ => ⟨rfl, e476, (by decide : 6 + 0 ≤ _), (by decide : 24 + 0 ≤ _)⟩)
      dsimp only [Pt.U, Pt.locs, Pt.cells, Pt.slots] at X477 l477 y477 z477 st477 hQ477
      subst l477 y477 z477
      obtain ⟨rfl, N477q, e477⟩ := hQ477
      have N477 := Fr.app N475 N477q
      refine own_go (fun t k => st477.trans k) ?_
      show own_Go _ _ _ _ (T477.setTop (mkF m 163 #[.val (.int cv), .val (.int iv), .val (.int fv), .val (.int (3 : Int32)), .val (.int bv), .val (.ref b450), .val (.ref b459), .val (.ref ux462), .val (.int (3 : Int32)), .val (.int (1 : Int32))] [(.ref ue)]))
      obtain ⟨T478, X478, e478, st478⟩ := getS2 X477 hx hZ hown (host := "") (Or.inl (w_73 hw)) Via.refl e477 (Se.ext f472.2) (g := (mkF m 163 #[.val (.int cv), .val (.int iv), .val (.int fv), .val (.int (3 : Int32)), .val (.int bv), .val (.ref b450), .val (.ref b459), .val (.ref ux462), .val (.int (3 : Int32)), .val (.int (1 : Int32))] [(.ref ue)])) rfl (hb hby at_163)
      refine own_go st478 ?_
      show own_Go _ _ _ _ (T478.setTop (mkF m 166 #[.val (.int cv), .val (.int iv), .val (.int fv), .val (.int (3 : Int32)), .val (.int bv), .val (.ref b450), .val (.ref b459), .val (.ref ux462), .val (.int (3 : Int32)), .val (.int (1 : Int32))] [(.ref ue), (.ref ue)]))
      refine own_go (fun t k => Jvm.RoadKit.acmp (g := (mkF m 166 #[.val (.int cv), .val (.int iv), .val (.int fv), .val (.int (3 : Int32)), .val (.int bv), .val (.ref b450), .val (.ref b459), .val (.ref ux462), .val (.int (3 : Int32)), .val (.int (1 : Int32))] [(.ref ue), (.ref ue)])) X478 hx rfl rfl rfl (pc0 := 166) (pc' := 169) (same := true) rfl (hb hby at_166) rfl (decide_eq_true rfl) (by decide) (by decide) k) ?_
      show own_Go _ _ _ _ (T478.setTop (mkF m 169 #[.val (.int cv), .val (.int iv), .val (.int fv), .val (.int (3 : Int32)), .val (.int bv), .val (.ref b450), .val (.ref b459), .val (.ref ux462), .val (.int (3 : Int32)), .val (.int (1 : Int32))] []))
      refine own_go (fun t k => XS.iconst X478.here hx rfl (hb hby at_169) k) ?_
      show own_Go _ _ _ _ (T478.setTop (mkF m 170 #[.val (.int cv), .val (.int iv), .val (.int fv), .val (.int (3 : Int32)), .val (.int bv), .val (.ref b450), .val (.ref b459), .val (.ref ux462), .val (.int (3 : Int32)), .val (.int (1 : Int32))] [(.int (1 : Int32))]))
      refine own_go (fun t k => XS.goto X478.here hx rfl (pc0 := 170) (pc' := 174) rfl (hb hby at_170) (by decide) (by decide) k) ?_
      show own_Go _ _ _ _ (T478.setTop (mkF m 174 #[.val (.int cv), .val (.int iv), .val (.int fv), .val (.int (3 : Int32)), .val (.int bv), .val (.ref b450), .val (.ref b459), .val (.ref ux462), .val (.int (3 : Int32)), .val (.int (1 : Int32))] [(.int (1 : Int32))]))
      refine own_go (fun t k => XS.istore X478.here hx rfl (hb hby at_174) rfl (l' := #[.val (.int cv), .val (.int iv), .val (.int fv), .val (.int (3 : Int32)), .val (.int bv), .val (.ref b450), .val (.ref b459), .val (.ref ux462), .val (.int (3 : Int32)), .val (.int (1 : Int32))]) rfl k) ?_
      show own_Go _ _ _ _ (T478.setTop (mkF m 176 #[.val (.int cv), .val (.int iv), .val (.int fv), .val (.int (3 : Int32)), .val (.int bv), .val (.ref b450), .val (.ref b459), .val (.ref ux462), .val (.int (3 : Int32)), .val (.int (1 : Int32))] []))
      refine own_go (fun t k => XS.iload X478.here hx rfl (hb hby at_176) rfl k) ?_
      show own_Go _ _ _ _ (T478.setTop (mkF m 178 #[.val (.int cv), .val (.int iv), .val (.int fv), .val (.int (3 : Int32)), .val (.int bv), .val (.ref b450), .val (.ref b459), .val (.ref ux462), .val (.int (3 : Int32)), .val (.int (1 : Int32))] [(.int (3 : Int32))]))
      refine own_go (fun t k => XS.iconst X478.here hx rfl (hb hby at_178) k) ?_
      show own_Go _ _ _ _ (T478.setTop (mkF m 179 #[.val (.int cv), .val (.int iv), .val (.int fv), .val (.int (3 : Int32)), .val (.int bv), .val (.ref b450), .val (.ref b459), .val (.ref ux462), .val (.int (3 : Int32)), .val (.int (1 : Int32))] [(.int (3 : Int32)), (.int (3 : Int32))]))
      refine own_go (fun t k => XS.icmpNo X478.here hx rfl (hb hby at_179) rfl (flt (by decide : ¬ ((3 : Int32) < (3 : Int32)))).1 k) ?_
      show own_Go _ _ _ _ (T478.setTop (mkF m 182 #[.val (.int cv), .val (.int iv), .val (.int fv), .val (.int (3 : Int32)), .val (.int bv), .val (.ref b450), .val (.ref b459), .val (.ref ux462), .val (.int (3 : Int32)), .val (.int (1 : Int32))] []))
      refine own_go (fun t k => XS.iload X478.here hx rfl (hb hby at_182) rfl k) ?_
      show own_Go _ _ _ _ (T478.setTop (mkF m 184 #[.val (.int cv), .val (.int iv), .val (.int fv), .val (.int (3 : Int32)), .val (.int bv), .val (.ref b450), .val (.ref b459), .val (.ref ux462), .val (.int (3 : Int32)), .val (.int (1 : Int32))] [(.int (1 : Int32))]))
      refine own_go (fun t k => XS.ifNo X478.here hx rfl (hb hby at_184) rfl ((if0 _ _).trans (feq (by decide : ¬ ((1 : Int32) = (0 : Int32)))).1) k) ?_
      show own_Go _ _ _ _ (T478.setTop (mkF m 187 #[.val (.int cv), .val (.int iv), .val (.int fv), .val (.int (3 : Int32)), .val (.int bv), .val (.ref b450), .val (.ref b459), .val (.ref ux462), .val (.int (3 : Int32)), .val (.int (1 : Int32))] []))
      refine own_go (fun t k => XS.aload X478.here hx rfl (hb hby at_187) rfl rfl k) ?_
      show own_Go _ _ _ _ (T478.setTop (mkF m 189 #[.val (.int cv), .val (.int iv), .val (.int fv), .val (.int (3 : Int32)), .val (.int bv), .val (.ref b450), .val (.ref b459), .val (.ref ux462), .val (.int (3 : Int32)), .val (.int (1 : Int32))] [(.ref ux462)]))
      refine own_go (fun t k => XS.iconst X478.here hx rfl (hb hby at_189) k) ?_
      show own_Go _ _ _ _ (T478.setTop (mkF m 190 #[.val (.int cv), .val (.int iv), .val (.int fv), .val (.int (3 : Int32)), .val (.int bv), .val (.ref b450), .val (.ref b459), .val (.ref ux462), .val (.int (3 : Int32)), .val (.int (1 : Int32))] [(.int (2 : Int32)), (.ref ux462)]))
      obtain ⟨cq479, kq479, q479a, q479b, q479c⟩ := isOf hZ e478 (Ex462.keep K468q)
      obtain ⟨_, _, ⟨T479, L479, k479, n479⟩, -, X479, ⟨Lc479, hQ479, l479, y479, z479⟩, st479⟩ := X478.interfaceBack hx (xi := (⟨"java/util/List", "get", "(I)Ljava/lang/Object;"⟩ : MethodName)) (y := (⟨"java/util/ImmutableCollections$ListN", "get", "(I)Ljava/lang/Object;"⟩ : MethodName)) hown (mvT hZ (w_137 hw)) (mvT hZ (w_138 hw)) (mvT hZ (w_139 hw)) (mvT hZ (w_240 hw)) (mvT hZ (w_241 hw)) (mvT hZ (w_242 hw)) (mvT hZ (w_243 hw)) (mvT hZ (w_117 hw)) (by decide) (backOf (W := 0) (rm_gN_2 l Z a0 hw [] ux462 uy462 ky462 ue h468 n0 Z468 f470 f471) hZ (w_244 hw) (w_118 hw) (by decide) (by decide)) q479a q479b q479c (g := (mkF m 190 #[.val (.int cv), .val (.int iv), .val (.int fv), .val (.int (3 : Int32)), .val (.int bv), .val (.ref b450), .val (.ref b459), .val (.ref ux462), .val (.int (3 : Int32)), .val (.int (1 : Int32))] [(.int (2 : Int32)), (.ref ux462)])) rfl (by rw [hml]; rfl) (Steps.refl _) (argsL := [(.int (2 : Int32))]) (rest := []) (lenOf pd_18 rfl) rfl (by show 2 * 0 + _ ≤ _; exact Nat.le_of_eq rfl) (hb hby at_190) (fun _ _ => ⟨rfl, e478, (by decide : 6 + 0 ≤ _), (by decide : 24 + 0 ≤ _)⟩)
      dsimp only [Pt.U, Pt.locs, Pt.cells, Pt.slots] at X479 l479 y479 z479 st479 hQ479
      subst l479 y479 z479
      obtain ⟨rfl, N479q, e479⟩ := hQ479
      have N479 := Fr.app N477 N479q
      refine own_go (fun t k => st479.trans k) ?_
      show own_Go _ _ _ _ (T479.setTop (mkF m 195 #[.val (.int cv), .val (.int iv), .val (.int fv), .val (.int (3 : Int32)), .val (.int bv), .val (.ref b450), .val (.ref b459), .val (.ref ux462), .val (.int (3 : Int32)), .val (.int (1 : Int32))] [(.ref ue)]))
      obtain ⟨T480, X480, e480, st480⟩ := getS2 X479 hx hZ hown (host := "") (Or.inl (w_73 hw)) Via.refl e479 (Se.ext f472.2) (g := (mkF m 195 #[.val (.int cv), .val (.int iv), .val (.int fv), .val (.int (3 : Int32)), .val (.int bv), .val (.ref b450), .val (.ref b459), .val (.ref ux462), .val (.int (3 : Int32)), .val (.int (1 : Int32))] [(.ref ue)])) rfl (hb hby at_195)
      refine own_go st480 ?_
      show own_Go _ _ _ _ (T480.setTop (mkF m 198 #[.val (.int cv), .val (.int iv), .val (.int fv), .val (.int (3 : Int32)), .val (.int bv), .val (.ref b450), .val (.ref b459), .val (.ref ux462), .val (.int (3 : Int32)), .val (.int (1 : Int32))] [(.ref ue), (.ref ue)]))
      refine own_go (fun t k => Jvm.RoadKit.acmp (g := (mkF m 198 #[.val (.int cv), .val (.int iv), .val (.int fv), .val (.int (3 : Int32)), .val (.int bv), .val (.ref b450), .val (.ref b459), .val (.ref ux462), .val (.int (3 : Int32)), .val (.int (1 : Int32))] [(.ref ue), (.ref ue)])) X480 hx rfl rfl rfl (pc0 := 198) (pc' := 201) (same := true) rfl (hb hby at_198) rfl (decide_eq_true rfl) (by decide) (by decide) k) ?_
      show own_Go _ _ _ _ (T480.setTop (mkF m 201 #[.val (.int cv), .val (.int iv), .val (.int fv), .val (.int (3 : Int32)), .val (.int bv), .val (.ref b450), .val (.ref b459), .val (.ref ux462), .val (.int (3 : Int32)), .val (.int (1 : Int32))] []))
      refine own_go (fun t k => XS.iconst X480.here hx rfl (hb hby at_201) k) ?_
      show own_Go _ _ _ _ (T480.setTop (mkF m 202 #[.val (.int cv), .val (.int iv), .val (.int fv), .val (.int (3 : Int32)), .val (.int bv), .val (.ref b450), .val (.ref b459), .val (.ref ux462), .val (.int (3 : Int32)), .val (.int (1 : Int32))] [(.int (1 : Int32))]))
      refine own_go (fun t k => XS.goto X480.here hx rfl (pc0 := 202) (pc' := 206) rfl (hb hby at_202) (by decide) (by decide) k) ?_
      show own_Go _ _ _ _ (T480.setTop (mkF m 206 #[.val (.int cv), .val (.int iv), .val (.int fv), .val (.int (3 : Int32)), .val (.int bv), .val (.ref b450), .val (.ref b459), .val (.ref ux462), .val (.int (3 : Int32)), .val (.int (1 : Int32))] [(.int (1 : Int32))]))
      refine own_go (fun t k => XS.istore X480.here hx rfl (hb hby at_206) rfl (l' := #[.val (.int cv), .val (.int iv), .val (.int fv), .val (.int (3 : Int32)), .val (.int bv), .val (.ref b450), .val (.ref b459), .val (.ref ux462), .val (.int (3 : Int32)), .val (.int (1 : Int32))]) rfl k) ?_
      show own_Go _ _ _ _ (T480.setTop (mkF m 208 #[.val (.int cv), .val (.int iv), .val (.int fv), .val (.int (3 : Int32)), .val (.int bv), .val (.ref b450), .val (.ref b459), .val (.ref ux462), .val (.int (3 : Int32)), .val (.int (1 : Int32))] []))
      refine own_go (fun t k => XS.iload X480.here hx rfl (hb hby at_208) rfl k) ?_
      show own_Go _ _ _ _ (T480.setTop (mkF m 210 #[.val (.int cv), .val (.int iv), .val (.int fv), .val (.int (3 : Int32)), .val (.int bv), .val (.ref b450), .val (.ref b459), .val (.ref ux462), .val (.int (3 : Int32)), .val (.int (1 : Int32))] [(.int (1 : Int32))]))
      refine own_go (fun t k => XS.ifNo X480.here hx rfl (hb hby at_210) rfl ((if0 _ _).trans (feq (by decide : ¬ ((1 : Int32) = (0 : Int32)))).1) k) ?_
      show own_Go _ _ _ _ (T480.setTop (mkF m 213 #[.val (.int cv), .val (.int iv), .val (.int fv), .val (.int (3 : Int32)), .val (.int bv), .val (.ref b450), .val (.ref b459), .val (.ref ux462), .val (.int (3 : Int32)), .val (.int (1 : Int32))] []))
      refine own_go (fun t k => XS.aload X480.here hx rfl (hb hby at_213) rfl rfl k) ?_
      have f481 := (Ga462.keep K468q (ninS (Ne.symm (Nat.ne_of_lt (Nat.lt_of_lt_of_le hi450 (Nat.le_trans (Nat.le_trans (Nat.le_trans (Nat.le_trans K451q.1 K453q.1) K456q.1) K458q.1) lo459)))) (ninS (Ne.symm (Nat.ne_of_lt (Nat.lt_of_lt_of_le hi453 (Nat.le_trans (Nat.le_trans K456q.1 K458q.1) lo459)))) nin0)))
      show own_Go _ _ _ _ (T480.setTop (mkF m 215 #[.val (.int cv), .val (.int iv), .val (.int fv), .val (.int (3 : Int32)), .val (.int bv), .val (.ref b450), .val (.ref b459), .val (.ref ux462), .val (.int (3 : Int32)), .val (.int (1 : Int32))] [(.ref b459)]))
      obtain ⟨cq482, kq482, q482a, q482b, q482c⟩ := isOf hZ e480 ((A459.keep K462q).keep K468q)
      obtain ⟨_, _, ⟨T482, L482, k482, n482⟩, -, X482, ⟨Lc482, hQ482, l482, y482, z482⟩, st482⟩ := X480.virtualBack hx (y := (⟨"com/example/grantfold/grantfold/model/Setting", "allowed", "()Z"⟩ : MethodName)) (z := (⟨"com/example/grantfold/grantfold/model/Setting", "allowed", "()Z"⟩ : MethodName)) hown (mvT hZ (w_147 hw)) (mvT hZ (w_148 hw)) (notFace_of_selects (args := #[]) (mvT hZ (w_150 hw))) (mvT hZ (w_150 hw)) (mvT hZ (w_149 hw)) (by decide) (backOf (W := 0) (rm_alw l Z a0 hw [] b459 bv h468 n0 Z468 f481 hbv) hZ (w_151 hw) (w_28 hw) (by decide) (by decide)) q482a q482c (g := (mkF m 215 #[.val (.int cv), .val (.int iv), .val (.int fv), .val (.int (3 : Int32)), .val (.int bv), .val (.ref b450), .val (.ref b459), .val (.ref ux462), .val (.int (3 : Int32)), .val (.int (1 : Int32))] [(.ref b459)])) rfl (by rw [hml]; rfl) (Steps.refl _) (argsL := []) (rest := []) (lenOf pd_12 rfl) rfl (by show 2 * 0 + _ ≤ _; exact Nat.le_of_eq rfl) (hb hby at_215) (fun _ _ => ⟨rfl, e480, (by decide : 6 + 0 ≤ _), (by decide : 24 + 0 ≤ _)⟩)
      dsimp only [Pt.U, Pt.locs, Pt.cells, Pt.slots] at X482 l482 y482 z482 st482 hQ482
      subst l482 y482 z482
      obtain ⟨rfl, N482q, e482⟩ := hQ482
      have N482 := Fr.app N479 N482q
      refine own_go (fun t k => st482.trans k) ?_
      show own_Go _ _ _ _ (T482.setTop (mkF m 218 #[.val (.int cv), .val (.int iv), .val (.int fv), .val (.int (3 : Int32)), .val (.int bv), .val (.ref b450), .val (.ref b459), .val (.ref ux462), .val (.int (3 : Int32)), .val (.int (1 : Int32))] [(.int bv)]))
      refine own_go (fun t k => XS.iload X482.here hx rfl (hb hby at_218) rfl k) ?_
      show own_Go _ _ _ _ (T482.setTop (mkF m 220 #[.val (.int cv), .val (.int iv), .val (.int fv), .val (.int (3 : Int32)), .val (.int bv), .val (.ref b450), .val (.ref b459), .val (.ref ux462), .val (.int (3 : Int32)), .val (.int (1 : Int32))] [(.int bv), (.int bv)]))
      refine own_go (fun t k => XS.icmpNo X482.here hx rfl (hb hby at_220) rfl (teq (rfl : bv = bv)).2 k) ?_
      show own_Go _ _ _ _ (T482.setTop (mkF m 223 #[.val (.int cv), .val (.int iv), .val (.int fv), .val (.int (3 : Int32)), .val (.int bv), .val (.ref b450), .val (.ref b459), .val (.ref ux462), .val (.int (3 : Int32)), .val (.int (1 : Int32))] []))
      refine own_go (fun t k => XS.aload X482.here hx rfl (hb hby at_223) rfl rfl k) ?_
      have f483 := (Gb462.keep K468q (ninS (Ne.symm (Nat.ne_of_lt (Nat.lt_of_lt_of_le hi450 (Nat.le_trans (Nat.le_trans (Nat.le_trans (Nat.le_trans K451q.1 K453q.1) K456q.1) K458q.1) lo459)))) (ninS (Ne.symm (Nat.ne_of_lt (Nat.lt_of_lt_of_le hi453 (Nat.le_trans (Nat.le_trans K456q.1 K458q.1) lo459)))) nin0)))
      show own_Go _ _ _ _ (T482.setTop (mkF m 225 #[.val (.int cv), .val (.int iv), .val (.int fv), .val (.int (3 : Int32)), .val (.int bv), .val (.ref b450), .val (.ref b459), .val (.ref ux462), .val (.int (3 : Int32)), .val (.int (1 : Int32))] [(.ref b459)]))
      obtain ⟨cq484, kq484, q484a, q484b, q484c⟩ := isOf hZ e482 ((A459.keep K462q).keep K468q)
      obtain ⟨_, _, ⟨T484, L484, k484, n484⟩, -, X484, ⟨Lc484, hQ484, l484, y484, z484⟩, st484⟩ := X482.virtualBack hx (y := (⟨"com/example/grantfold/grantfold/model/Setting", "line", "()I"⟩ : MethodName)) (z := (⟨"com/example/grantfold/grantfold/model/Setting", "line", "()I"⟩ : MethodName)) hown (mvT hZ (w_152 hw)) (mvT hZ (w_153 hw)) (notFace_of_selects (args := #[]) (mvT hZ (w_155 hw))) (mvT hZ (w_155 hw)) (mvT hZ (w_154 hw)) (by decide) (backOf (W := 0) (rm_lin l Z a0 hw [] b459 iv h468 n0 Z468 f483) hZ (w_156 hw) (w_28 hw) (by decide) (by decide)) q484a q484c (g := (mkF m 225 #[.val (.int cv), .val (.int iv), .val (.int fv), .val (.int (3 : Int32)), .val (.int bv), .val (.ref b450), .val (.ref b459), .val (.ref ux462), .val (.int (3 : Int32)), .val (.int (1 : Int32))] [(.ref b459)])) rfl (by rw [hml]; rfl) (Steps.refl _) (argsL := []) (rest := []) (lenOf pd_17 rfl) rfl (by show 2 * 0 + _ ≤ _; exact Nat.le_of_eq rfl) (hb hby at_225) (fun _ _ => ⟨rfl, e482, (by decide : 6 + 0 ≤ _), (by decide : 24 + 0 ≤ _)⟩)
      dsimp only [Pt.U, Pt.locs, Pt.cells, Pt.slots] at X484 l484 y484 z484 st484 hQ484
      subst l484 y484 z484
      obtain ⟨rfl, N484q, e484⟩ := hQ484
      have N484 := Fr.app N482 N484q
      refine own_go (fun t k => st484.trans k) ?_
      show own_Go _ _ _ _ (T484.setTop (mkF m 228 #[.val (.int cv), .val (.int iv), .val (.int fv), .val (.int (3 : Int32)), .val (.int bv), .val (.ref b450), .val (.ref b459), .val (.ref ux462), .val (.int (3 : Int32)), .val (.int (1 : Int32))] [(.int iv)]))
      refine own_go (fun t k => XS.iloadN X484.here hx rfl (hb hby at_228) rfl k) ?_
      show own_Go _ _ _ _ (T484.setTop (mkF m 229 #[.val (.int cv), .val (.int iv), .val (.int fv), .val (.int (3 : Int32)), .val (.int bv), .val (.ref b450), .val (.ref b459), .val (.ref ux462), .val (.int (3 : Int32)), .val (.int (1 : Int32))] [(.int iv), (.int iv)]))
      refine own_go (fun t k => XS.icmpNo X484.here hx rfl (hb hby at_229) rfl (teq (rfl : iv = iv)).2 k) ?_
      show own_Go _ _ _ _ (T484.setTop (mkF m 232 #[.val (.int cv), .val (.int iv), .val (.int fv), .val (.int (3 : Int32)), .val (.int bv), .val (.ref b450), .val (.ref b459), .val (.ref ux462), .val (.int (3 : Int32)), .val (.int (1 : Int32))] []))
      refine own_go (fun t k => XS.iconst X484.here hx rfl (hb hby at_232) k) ?_
      show own_Go _ _ _ _ (T484.setTop (mkF m 233 #[.val (.int cv), .val (.int iv), .val (.int fv), .val (.int (3 : Int32)), .val (.int bv), .val (.ref b450), .val (.ref b459), .val (.ref ux462), .val (.int (3 : Int32)), .val (.int (1 : Int32))] [(.int (1 : Int32))]))
      refine own_go (fun t k => XS.goto X484.here hx rfl (pc0 := 233) (pc' := 237) rfl (hb hby at_233) (by decide) (by decide) k) ?_
      show own_Go _ _ _ _ (T484.setTop (mkF m 237 #[.val (.int cv), .val (.int iv), .val (.int fv), .val (.int (3 : Int32)), .val (.int bv), .val (.ref b450), .val (.ref b459), .val (.ref ux462), .val (.int (3 : Int32)), .val (.int (1 : Int32))] [(.int (1 : Int32))]))
      refine own_retN X484 hx hlk (t := .boolean) hret (by simp) (hb hby at_237) ?_ (by decide) (by decide)
      rw [e484]
      exact ⟨rfl, N484⟩
    show own_Go _ _ _ _ (s₁.setTop (mkF m 4 #[.val (.int cv), .val (.int iv), .val (.int fv), .val (.int (3 : Int32)), .unset, .unset, .unset, .unset, .unset, .unset] []))
    show own_Go _ _ _ _ (s₁.setTop (mkF m 4 #[.val (.int cv), .val (.int iv), .val (.int fv), .val (.int (3 : Int32)), .unset, .unset, .unset, .unset, .unset, .unset] []))
    refine own_go (fun t k => XS.iloadN X0.here hx rfl (hb hby at_4) rfl k) ?_
    show own_Go _ _ _ _ (s₁.setTop (mkF m 5 #[.val (.int cv), .val (.int iv), .val (.int fv), .val (.int (3 : Int32)), .unset, .unset, .unset, .unset, .unset, .unset] [(.int fv)]))
    refine own_go (fun t k => XS.iconst X0.here hx rfl (hb hby at_5) k) ?_
    show own_Go _ _ _ _ (s₁.setTop (mkF m 6 #[.val (.int cv), .val (.int iv), .val (.int fv), .val (.int (3 : Int32)), .unset, .unset, .unset, .unset, .unset, .unset] [(.int (1 : Int32)), (.int fv)]))
    refine own_go (fun t k => XS.iand X0.here hx rfl (hb hby at_6) rfl k) ?_
    by_cases hc485 : (fv &&& (1 : Int32)) = (0 : Int32)
    · show own_Go _ _ _ _ (s₁.setTop (mkF m 7 #[.val (.int cv), .val (.int iv), .val (.int fv), .val (.int (3 : Int32)), .unset, .unset, .unset, .unset, .unset, .unset] [(.int (fv &&& (1 : Int32)))]))
      refine own_go (fun t k => XS.ifYes X0.here hx rfl (pc0 := 7) (pc' := 14) rfl (hb hby at_7) rfl ((if0 _ _).trans (teq hc485).1) (by decide) (by decide) k) ?_
      show own_Go _ _ _ _ (s₁.setTop (mkF m 14 #[.val (.int cv), .val (.int iv), .val (.int fv), .val (.int (3 : Int32)), .unset, .unset, .unset, .unset, .unset, .unset] []))
      refine own_go (fun t k => XS.iconst X0.here hx rfl (hb hby at_14) k) ?_
      exact J _ (by decide)
    · show own_Go _ _ _ _ (s₁.setTop (mkF m 7 #[.val (.int cv), .val (.int iv), .val (.int fv), .val (.int (3 : Int32)), .unset, .unset, .unset, .unset, .unset, .unset] [(.int (fv &&& (1 : Int32)))]))
      refine own_go (fun t k => XS.ifNo X0.here hx rfl (hb hby at_7) rfl ((if0 _ _).trans (feq hc485).1) k) ?_
      show own_Go _ _ _ _ (s₁.setTop (mkF m 10 #[.val (.int cv), .val (.int iv), .val (.int fv), .val (.int (3 : Int32)), .unset, .unset, .unset, .unset, .unset, .unset] []))
      refine own_go (fun t k => XS.iconst X0.here hx rfl (hb hby at_10) k) ?_
      show own_Go _ _ _ _ (s₁.setTop (mkF m 11 #[.val (.int cv), .val (.int iv), .val (.int fv), .val (.int (3 : Int32)), .unset, .unset, .unset, .unset, .unset, .unset] [(.int (1 : Int32))]))
      refine own_go (fun t k => XS.goto X0.here hx rfl (pc0 := 11) (pc' := 15) rfl (hb hby at_11) (by decide) (by decide) k) ?_
      exact J _ (by decide)
theorem own_fldE {t u : Term} {C n d : String} {a b : Addr} {args : Array Value} {s : State} (ht : t.eval args s none [] s = some (.ref a)) (hu : u.eval args s none [] s = some (.ref b)) (h : (Jvm.Cond.eq (Term.field t C n d) u).value args s none s [] = some true) : Fld s s.heap a C n d (.ref b) := by
  obtain ⟨x, w, f1, f2, k1, k2⟩ := cmp_v (Or.inl h)
  cases f2.symm.trans hu
  have hx : x.isRef = true := k2.2
  have q := gotT (eq_R f1 hu hx rfl) h
  subst q
  exact own_fldR ht f1
theorem own_mirS {tb : Tables} {e : Env} {args : Array Value} {s : State} (h : call_1_1 tb e args s) : ∃ mr, Mir s "[Ljava/lang/Object;" mr := by
  obtain ⟨c, k, mr, h1, h2, h3, cell, h4, h5⟩ := h
  exact ⟨mr, c, k, h1, h2, h3, cell, h4, h5⟩
theorem w_74 {Z : State} {a0 : Array Value} (hw : ∀ d ∈ tables_1, d.before a0 Z = true) : (Jvm.Cond.initialized "com/example/grantfold/grantfold/model/Scope").before a0 Z = true := hw _ (List.mem_of_getElem? (i := 74) rfl)
theorem w_75 {Z : State} {a0 : Array Value} (hw : ∀ d ∈ tables_1, d.before a0 Z = true) : (Jvm.Cond.laysStatic "com/example/grantfold/grantfold/model/Scope" "EVERY_RECORD" "Lcom/example/grantfold/grantfold/model/Scope;").before a0 Z = true := hw _ (List.mem_of_getElem? (i := 75) rfl)
theorem w_123 {Z : State} {a0 : Array Value} (hw : ∀ d ∈ tables_1, d.before a0 Z = true) : (Jvm.Cond.laysStatic "com/example/grantfold/grantfold/model/Setting" "EVERY_RECORD" "Ljava/util/List;").before a0 Z = true := hw _ (List.mem_of_getElem? (i := 123) rfl)
set_option maxRecDepth 65536 in
set_option maxHeartbeats 40000000 in
theorem comes_1 {Post : Tables → Env → Array Value → State → Outcome → State → Prop} (hpost : ∀ tb e args s v u, (limb_1_1.after args s (.returned v) u = true ∧ limb_1_2.after args s (.returned v) u = true ∧ True) → FrameEnd s (.returned v) u (Jvm.fieldLocs frame_1_writes args s ++ Jvm.arrayLocs frame_1_arrays args s ++ Jvm.staticLocs frame_1_statics s) 24 128 → Post tb e args s (.returned v) u) :
    ArmFor flags0 classFile x code maxLocals ret World_1 tables_1 room_1 Calls_1 rest_1 Pre_1 Post := by
  intro l hfl _ _ p e ha hc hk s m args below hf hA hF happ hP
  obtain ⟨hcalls, hrest, hpre⟩ := hP
  obtain ⟨-, -, -, hnamed, -, -, -, hat⟩ := (Spec.applies_iff hf).mp happ
  obtain ⟨hg, hn⟩ := and_e (Cond.before_iff.mp (show (Jvm.Cond.and given_1 narrow_1).before args s = true from hpre))
  obtain ⟨g1, g2⟩ := and_e hg
  obtain ⟨g3, g4⟩ := and_e g2
  obtain ⟨g5, g6⟩ := and_e g4
  obtain ⟨n1, n2⟩ := and_e hn
  obtain ⟨n3, n4⟩ := and_e n2
  obtain ⟨n5, n6⟩ := and_e n4
  obtain ⟨n7, n8⟩ := and_e n6
  obtain ⟨w0, w1, w2, rfl⟩ : ∃ w0 w1 w2 : Value, args = #[w0, w1, w2] := by
    have hs : args.size = 3 := by simpa [Cond.value, given_1] using g1
    obtain ⟨L⟩ := args
    match L, hs with
    | [w0, w1, w2], _ => exact ⟨w0, w1, w2, rfl⟩
  have hw := fun d (hd : d ∈ tables_1) => atoms_spec (ws := Jvm.Cond.code x code maxLocals ret :: tables_1) hat d (List.mem_cons_of_mem _ hd)
  have hfit : Fit s := fun {y c} hc i hi => by
    obtain ⟨ha, rfl⟩ := Array.getElem?_eq_some_iff.mp hc
    have q := List.all_eq_true.mp ((Array.all_eq_true_iff_forall_mem.mp hF) _ (Array.getElem_mem ha)) i (List.mem_range.mpr hi)
    simpa [Array.getElem?_eq_getElem hi] using q
  obtain ⟨hsets, hown0⟩ := atoms_of _ (rest_1_c_eq ▸ (show rest_1_c.before _ s = true from hrest))
  have hr0 := Cond.before_iff.mp hown0
  obtain ⟨i0, ei0⟩ := is_v g3
  obtain rfl : w0 = (.int i0) := Option.some.inj ei0
  obtain ⟨i1, ei1⟩ := is_v g5
  obtain rfl : w1 = (.int i1) := Option.some.inj ei1
  obtain ⟨i2, ei2⟩ := is_v g6
  obtain rfl : w2 = (.int i2) := Option.some.inj ei2
  obtain ⟨ue, eve⟩ := exa_v n1
  have Ee := Exa.start eve n1
  have Se := Sta.start eve (Or.inr ⟨(w_74 hw), (w_75 hw)⟩)
  obtain ⟨ude, evd⟩ := exa_v (Cond.before_iff.mp (hsets _ (List.mem_of_getElem? (i := 7) rfl)))
  have Sd := Sta.start evd (Or.inr ⟨(w_2 hw), (hsets _ (List.mem_of_getElem? (i := 2) rfl))⟩)
  obtain ⟨cd_, Ad_⟩ := Arr.start evd (Cond.before_iff.mp (hsets _ (List.mem_of_getElem? (i := 6) rfl)))
  have ld := own_len evd Ad_ (Cond.before_iff.mp (hsets _ (List.mem_of_getElem? (i := 8) rfl)))
  have Ad : Arv s s.heap ude cd_.cls (.object "java/lang/Object") (0 : Int32) [] .null := Arv.start hfit Ad_ ld.1 ld.2 (by decide) rfl trivial
  obtain ⟨uel, evl⟩ := exa_v (Cond.before_iff.mp (hsets _ (List.mem_of_getElem? (i := 11) rfl)))
  have El := Exa.start evl (Cond.before_iff.mp (hsets _ (List.mem_of_getElem? (i := 11) rfl)))
  have Sl := Sta.start evl (Or.inl (hsets _ (List.mem_of_getElem? (i := 10) rfl)))
  obtain ⟨uem, evm⟩ := exa_v (Cond.before_iff.mp (hsets _ (List.mem_of_getElem? (i := 13) rfl)))
  have Fl := own_fldR evl evm
  obtain ⟨cm_, Am_⟩ := Arr.start evm (Cond.before_iff.mp (hsets _ (List.mem_of_getElem? (i := 12) rfl)))
  have lm := own_len evm Am_ (Cond.before_iff.mp (hsets _ (List.mem_of_getElem? (i := 14) rfl)))
  have Am : Arv s s.heap uem cm_.cls (.object "java/lang/Object") (0 : Int32) [] .null := Arv.start hfit Am_ lm.1 lm.2 (by decide) rfl trivial
  obtain ⟨uemp, evp⟩ := exa_v (Cond.before_iff.mp (hsets _ (List.mem_of_getElem? (i := 18) rfl)))
  have Em := Exa.start evp (Cond.before_iff.mp (hsets _ (List.mem_of_getElem? (i := 18) rfl)))
  have Sm := Sta.start evp (Or.inl (hsets _ (List.mem_of_getElem? (i := 17) rfl)))
  obtain ⟨urec, evr⟩ := exa_v n3
  have Er := Exa.start evr n3
  have Sr := Sta.start evr (Or.inr ⟨(w_28 hw), (w_123 hw)⟩)
  have Fr1 := own_fldE evr evp n7
  have Fr0 := own_fldE evr eve n8
  obtain ⟨umi, Mi⟩ := own_mirS hcalls.1
  obtain ⟨n, o, h1, h2, h3, _, L, rfl, ⟨rfl, N⟩, hq⟩ := rm_law l s _ hw tables_1 i0 i1 i2 ue ude cd_.cls uel uem cm_.cls uemp urec umi s.heap s.heap.size (Nat.le_refl _) (Old.start s) ⟨Se, Ee, Sd, Ad, Sl, El, Fl, Am, Sm, Em, Sr, Er, Fr1, Fr0, Mi⟩ p e ha hc hk s m _ below hf ((Spec.applies_iff_loose hf).mp happ).1 ⟨rfl, State.Warmed39.refl s, rfl⟩ trivial
  refine ⟨n, _, h1, h2, h3, hpost _ _ _ _ _ _ ⟨Cond.after_iff.mpr rfl, Cond.after_iff.mpr (eq_i res_at (Term.int_eval (1)) rfl), trivial⟩ ⟨hq.1, hq.2.1, (hq.2.2.sift fun y hy => Or.inr (N y hy)).mono (by decide) (by decide)⟩⟩
theorem main_1_1 : Claimed_1_1 := comes_1 fun _ _ _ _ _ _ h hF => ⟨h.1, hF⟩
theorem main_1_2 : Claimed_1_2 := comes_1 fun _ _ _ _ _ _ h hF => ⟨h.2.1, hF⟩
end Jvm.Pilot.@@N@@
namespace Jvm.Pilot.@@N@@
open Jvm Jvm.ClassFile Sem Op Lib Jvm.Free Jvm.Stand Jvm.Pilot.@@N@@.Jvm.D
/-! MADE BY PROGRAM (witnessworld.py) out of the Statement's table words and the real class files: 28 classes; the members and pool entries that the words name. The judged class is class 1, her method 1. -/
namespace start1
open Jvm.ClassFile
def u (s : String) : CpInfo := .utf8 (stringToUtf16 s)
/-- a pool by its gaps: so many unusable entries, then the entry; so many at the end -/
def gap : Nat → List CpInfo → List CpInfo
  | 0, r => r
  | n + 1, r => .unusable :: gap n r
def poolList (es : List (Nat × CpInfo)) (last : Nat) : List CpInfo := es.foldr (fun e r => gap e.1 (e.2 :: r)) (gap last [])
def pool (es : List (Nat × CpInfo)) (last : Nat) : Array CpInfo := ⟨poolList es last⟩
def fileOf (pool : Array CpInfo) (this : Nat) (attrs : Array Attribute := #[]) (ms : Array MethodInfo := #[]) (fl : Nat := 33) (sup : Nat := 0) (ifs : Array Nat := #[]) (fds : Array FieldInfo := #[]) : ClassFile where
  minorVersion := 0
  majorVersion := 65
  constantPool := pool
  accessFlags := fl
  thisClass := this
  superClass := sup
  interfaces := ifs
  fields := fds
  methods := ms
  attributes := attrs
def plain (name : String) (sup : Option ClassId) : Class where
  name := name
  kind := .ordinary
  loader := none
  accessFlags := 33
  super := sup
  interfaces := #[]
  cf := none
  fields := #[]
  methods := #[]
  instanceTypes := #[]
  staticTypes := #[]
  resolved := #[]
  callSites := []
  init := .initialized
  statics := none
  mirror := none

def pool0 : Array CpInfo := pool [(5, u "<init>"), (0, u "()V"), (1, .class_ 10), (1, u "java/lang/Object"), (0, u "getClass"), (0, u "()Ljava/lang/Class;")] 111

def k0c0 : Code := { maxStack := 0, maxLocals := 1, code := object_method_1_code, exceptionTable := #[], attributes := #[] }
def k0m0 : Method := { name := "<init>", desc := "()V", sig := { parameters := [], returnType := none }, accessFlags := 1, code := some k0c0 }
def k0m1 : Method := { name := "getClass", desc := "()Ljava/lang/Class;", sig := { parameters := [], returnType := some (.object "java/lang/Class") }, accessFlags := 273, code := none }
/-- java/lang/Object -/
def k0 : Class := { plain "java/lang/Object" none with
  accessFlags := 33
  interfaces := #[]
  cf := some (fileOf pool0 8 #[] #[{ accessFlags := 1, nameIndex := 5, descriptorIndex := 6, attributes := #[] }, { accessFlags := 273, nameIndex := 11, descriptorIndex := 12, attributes := #[] }] 33 0 #[] #[])
  fields := #[]
  methods := #[k0m0, k0m1]
  instanceTypes := #[]
  staticTypes := #[]
  resolved := Array.replicate 124 none
  statics := none }

def pool1 : Array CpInfo := pool [(2, .class_ 4), (0, .nameAndType 5 6), (0, u "java/lang/Object"), (0, u "<init>"), (0, u "()V"), (0, .class_ 8), (0, u "java/util/ArrayList"), (0, .methodref 7 3), (0, .fieldref 11 12), (0, .class_ 13), (0, .nameAndType 14 15), (0, u "com/example/grantfold/grantfold/model/Scope"), (0, u "EVERY_RECORD"), (0, u "Lcom/example/grantfold/grantfold/model/Scope;"), (0, .methodref 7 17), (0, .nameAndType 18 19), (0, u "add"), (0, u "(Ljava/lang/Object;)Z"), (0, .class_ 21), (0, u "com/example/grantfold/grantfold/model/Setting"), (0, .methodref 20 23), (0, .nameAndType 5 24), (0, u "(ZILjava/util/List;)V"), (0, .methodref 20 26), (0, .nameAndType 27 28), (0, u "scopes"), (0, u "()Ljava/util/List;"), (0, .interfaceMethodref 30 31), (0, .class_ 32), (0, .nameAndType 33 34), (0, u "java/util/List"), (0, u "size"), (0, u "()I"), (0, .interfaceMethodref 30 36), (0, .nameAndType 37 38), (0, u "get"), (0, u "(I)Ljava/lang/Object;"), (0, .methodref 20 40), (0, .nameAndType 41 42), (0, u "allowed"), (0, u "()Z"), (0, .methodref 20 44), (0, .nameAndType 45 34), (0, u "line"), (0, .class_ 47), (0, u "com/example/grantfold/grantfold/model/SettingScopesPinLaw"), (2, u "law"), (0, u "(III)Z")] 3

def k1m0 : Method := { name := "<init>", desc := "()V", sig := { parameters := [], returnType := none }, accessFlags := 1, code := none }
def k1c1 : Code := { maxStack := 5, maxLocals := 10, code := code, exceptionTable := #[], attributes := #[] }
def k1m1 : Method := { name := "law", desc := "(III)Z", sig := { parameters := [.int, .int, .int], returnType := some .boolean }, accessFlags := 9, code := some k1c1 }
/-- com/example/grantfold/grantfold/model/SettingScopesPinLaw -/
def k1 : Class := { plain "com/example/grantfold/grantfold/model/SettingScopesPinLaw" (some 0) with
  accessFlags := 49
  interfaces := #[]
  cf := some (fileOf pool1 46 #[] #[{ accessFlags := 1, nameIndex := 5, descriptorIndex := 6, attributes := #[] }, { accessFlags := 9, nameIndex := 50, descriptorIndex := 51, attributes := #[] }] 49 2 #[] #[])
  fields := #[]
  methods := #[k1m0, k1m1]
  instanceTypes := #[]
  staticTypes := #[]
  resolved := Array.replicate 55 none
  statics := none }

def pool2 : Array CpInfo := pool [(8, .class_ 10), (1, u "java/lang/Iterable"), (24, .class_ 36), (0, u "java/lang/Object")] 25

/-- java/lang/Iterable -/
def k2 : Class := { plain "java/lang/Iterable" (some 0) with
  accessFlags := 1537
  interfaces := #[]
  cf := some (fileOf pool2 8 #[] #[] 1537 35 #[] #[])
  fields := #[]
  methods := #[]
  instanceTypes := #[]
  staticTypes := #[]
  resolved := Array.replicate 62 none
  statics := none }

def pool3 : Array CpInfo := pool [(10, .class_ 12), (1, u "java/util/Collection"), (0, u "toArray"), (16, u "()Z"), (29, .class_ 61), (0, u "java/lang/Object"), (0, .class_ 63), (0, u "java/lang/Iterable"), (2, u "isEmpty"), (3, u "()[Ljava/lang/Object;")] 44

def k3m0 : Method := { name := "isEmpty", desc := "()Z", sig := { parameters := [], returnType := some .boolean }, accessFlags := 1025, code := none }
def k3m1 : Method := { name := "toArray", desc := "()[Ljava/lang/Object;", sig := { parameters := [], returnType := some (.array (.object "java/lang/Object")) }, accessFlags := 1025, code := none }
/-- java/util/Collection -/
def k3 : Class := { plain "java/util/Collection" (some 0) with
  accessFlags := 1537
  interfaces := #[2]
  cf := some (fileOf pool3 10 #[] #[{ accessFlags := 1025, nameIndex := 66, descriptorIndex := 30, attributes := #[] }, { accessFlags := 1025, nameIndex := 13, descriptorIndex := 70, attributes := #[] }] 1537 60 #[62] #[])
  fields := #[]
  methods := #[k3m0, k3m1]
  instanceTypes := #[]
  staticTypes := #[]
  resolved := Array.replicate 115 none
  statics := none }

def pool4 : Array CpInfo := pool [(1, .methodref 2 3), (0, .class_ 4), (0, .nameAndType 5 6), (0, u "java/lang/Object"), (0, u "<init>"), (0, u "()V"), (1, .class_ 10), (1, u "java/util/AbstractCollection"), (66, .class_ 78), (0, u "java/util/Collection")] 81

def k4c0 : Code := { maxStack := 1, maxLocals := 1, code := jdk_22_method_1_code, exceptionTable := #[], attributes := #[] }
def k4m0 : Method := { name := "<init>", desc := "()V", sig := { parameters := [], returnType := none }, accessFlags := 4, code := some k4c0 }
/-- java/util/AbstractCollection -/
def k4 : Class := { plain "java/util/AbstractCollection" (some 0) with
  accessFlags := 1057
  interfaces := #[3]
  cf := some (fileOf pool4 8 #[] #[{ accessFlags := 4, nameIndex := 5, descriptorIndex := 6, attributes := #[] }] 1057 2 #[77] #[])
  fields := #[]
  methods := #[k4m0]
  instanceTypes := #[]
  staticTypes := #[]
  resolved := Array.replicate 160 none
  statics := none }

def pool5 : Array CpInfo := pool [(8, .class_ 10), (1, u "java/util/SequencedCollection"), (15, .class_ 27), (0, u "java/lang/Object"), (0, .class_ 29), (0, u "java/util/Collection")] 27

/-- java/util/SequencedCollection -/
def k5 : Class := { plain "java/util/SequencedCollection" (some 0) with
  accessFlags := 1537
  interfaces := #[3]
  cf := some (fileOf pool5 8 #[] #[] 1537 26 #[28] #[])
  fields := #[]
  methods := #[]
  instanceTypes := #[]
  staticTypes := #[]
  resolved := Array.replicate 57 none
  statics := none }

def pool6 : Array CpInfo := pool [(8, .class_ 10), (1, u "java/util/List"), (7, u "()Z"), (12, u "(Ljava/lang/Object;)V"), (16, u "<init>"), (18, u "isEmpty"), (7, u "get"), (0, u "(I)Ljava/lang/Object;"), (2, u "size"), (0, u "()I"), (7, u "of"), (1, .fieldref 91 92), (0, .class_ 93), (0, .nameAndType 94 95), (0, u "java/util/ImmutableCollections"), (0, u "EMPTY_LIST"), (0, u "Ljava/util/ImmutableCollections$ListN;"), (0, .class_ 97), (0, u "java/util/ImmutableCollections$List12"), (0, .methodref 96 99), (0, .nameAndType 48 31), (0, .methodref 96 101), (0, .nameAndType 48 102), (0, u "(Ljava/lang/Object;Ljava/lang/Object;)V"), (0, .class_ 104), (0, u "java/lang/Object"), (3, u "([Ljava/lang/Object;)Ljava/util/List;"), (0, .methodref 91 110), (0, .nameAndType 111 108), (0, u "listFromArray"), (0, .methodref 91 113), (0, .nameAndType 114 115), (0, u "listCopy"), (0, u "(Ljava/util/Collection;)Ljava/util/List;"), (3, u "()Ljava/util/List;"), (0, .class_ 121), (0, u "java/util/SequencedCollection"), (112, u "copyOf")] 16

def k6m0 : Method := { name := "size", desc := "()I", sig := { parameters := [], returnType := some .int }, accessFlags := 1025, code := none }
def k6m1 : Method := { name := "isEmpty", desc := "()Z", sig := { parameters := [], returnType := some .boolean }, accessFlags := 1025, code := none }
def k6m2 : Method := { name := "get", desc := "(I)Ljava/lang/Object;", sig := { parameters := [.int], returnType := some (.object "java/lang/Object") }, accessFlags := 1025, code := none }
def k6c3 : Code := { maxStack := 1, maxLocals := 0, code := jdk_40_method_36_code, exceptionTable := #[], attributes := #[] }
def k6m3 : Method := { name := "of", desc := "()Ljava/util/List;", sig := { parameters := [], returnType := some (.object "java/util/List") }, accessFlags := 9, code := some k6c3 }
def k6c4 : Code := { maxStack := 5, maxLocals := 2, code := jdk_40_method_47_code, exceptionTable := #[], attributes := #[] }
def k6m4 : Method := { name := "of", desc := "([Ljava/lang/Object;)Ljava/util/List;", sig := { parameters := [(.array (.object "java/lang/Object"))], returnType := some (.object "java/util/List") }, accessFlags := 137, code := some k6c4 }
def k6c5 : Code := { maxStack := 1, maxLocals := 1, code := jdk_40_method_48_code, exceptionTable := #[], attributes := #[] }
def k6m5 : Method := { name := "copyOf", desc := "(Ljava/util/Collection;)Ljava/util/List;", sig := { parameters := [(.object "java/util/Collection")], returnType := some (.object "java/util/List") }, accessFlags := 9, code := some k6c5 }
/-- java/util/List -/
def k6 : Class := { plain "java/util/List" (some 0) with
  accessFlags := 1537
  interfaces := #[5]
  cf := some (fileOf pool6 8 #[] #[{ accessFlags := 1025, nameIndex := 79, descriptorIndex := 80, attributes := #[] }, { accessFlags := 1025, nameIndex := 67, descriptorIndex := 18, attributes := #[] }, { accessFlags := 1025, nameIndex := 75, descriptorIndex := 76, attributes := #[] }, { accessFlags := 9, nameIndex := 88, descriptorIndex := 119, attributes := #[] }, { accessFlags := 137, nameIndex := 88, descriptorIndex := 108, attributes := #[] }, { accessFlags := 9, nameIndex := 234, descriptorIndex := 115, attributes := #[] }] 1537 103 #[120] #[])
  fields := #[]
  methods := #[k6m0, k6m1, k6m2, k6m3, k6m4, k6m5]
  instanceTypes := #[]
  staticTypes := #[]
  resolved := Array.replicate 251 none
  statics := none }

def pool7 : Array CpInfo := pool [(1, .methodref 2 3), (0, .class_ 4), (0, .nameAndType 5 6), (0, u "java/util/AbstractCollection"), (0, u "<init>"), (0, u "()V"), (0, .fieldref 8 9), (0, .class_ 10), (0, .nameAndType 11 12), (0, u "java/util/AbstractList"), (0, u "modCount"), (0, u "I"), (64, .class_ 78), (0, u "java/util/AbstractList$Itr"), (3, .class_ 83), (0, u "java/util/AbstractList$ListItr"), (9, .class_ 94), (0, u "java/util/AbstractList$RandomAccessSubList"), (3, .class_ 99), (0, u "java/util/AbstractList$SubList"), (33, .class_ 134), (0, u "java/util/List"), (73, .class_ 209), (0, u "java/util/AbstractList$SubList$1"), (0, .class_ 211), (0, u "java/util/AbstractList$RandomAccessSpliterator")] 6

def k7c0 : Code := { maxStack := 2, maxLocals := 1, code := jdk_39_method_1_code, exceptionTable := #[], attributes := #[] }
def k7m0 : Method := { name := "<init>", desc := "()V", sig := { parameters := [], returnType := none }, accessFlags := 4, code := some k7c0 }
/-- java/util/AbstractList -/
def k7 : Class := { plain "java/util/AbstractList" (some 4) with
  accessFlags := 1057
  interfaces := #[6]
  cf := some (fileOf pool7 8 #[.nestMembers #[93, 98, 208, 210, 82, 77]] #[{ accessFlags := 4, nameIndex := 5, descriptorIndex := 6, attributes := #[] }] 1057 2 #[133] #[{ accessFlags := 132, nameIndex := 11, descriptorIndex := 12, attributes := #[] }])
  fields := #[{ name := "modCount", type := .int, accessFlags := 132, slot := 0, constantValue := 0 }]
  methods := #[k7m0]
  instanceTypes := #[.int]
  staticTypes := #[]
  resolved := Array.replicate 218 none
  statics := none }

def pool8 : Array CpInfo := pool [(1, .class_ 2), (0, u "java/util/RandomAccess"), (0, .class_ 4), (0, u "java/lang/Object")] 2

/-- java/util/RandomAccess -/
def k8 : Class := { plain "java/util/RandomAccess" (some 0) with
  accessFlags := 1537
  interfaces := #[]
  cf := some (fileOf pool8 1 #[] #[] 1537 3 #[] #[])
  fields := #[]
  methods := #[]
  instanceTypes := #[]
  staticTypes := #[]
  resolved := Array.replicate 7 none
  statics := none }

def pool9 : Array CpInfo := pool [(1, .class_ 2), (0, u "java/lang/Cloneable"), (0, .class_ 4), (0, u "java/lang/Object")] 2

/-- java/lang/Cloneable -/
def k9 : Class := { plain "java/lang/Cloneable" (some 0) with
  accessFlags := 1537
  interfaces := #[]
  cf := some (fileOf pool9 1 #[] #[] 1537 3 #[] #[])
  fields := #[]
  methods := #[]
  instanceTypes := #[]
  staticTypes := #[]
  resolved := Array.replicate 7 none
  statics := none }

def pool10 : Array CpInfo := pool [(1, .class_ 2), (0, u "java/io/Serializable"), (0, .class_ 4), (0, u "java/lang/Object")] 2

/-- java/io/Serializable -/
def k10 : Class := { plain "java/io/Serializable" (some 0) with
  accessFlags := 1537
  interfaces := #[]
  cf := some (fileOf pool10 1 #[] #[] 1537 3 #[] #[])
  fields := #[]
  methods := #[]
  instanceTypes := #[]
  staticTypes := #[]
  resolved := Array.replicate 7 none
  statics := none }

def pool11 : Array CpInfo := pool [(1, .methodref 2 3), (0, .class_ 4), (0, .nameAndType 5 6), (0, u "java/util/AbstractList"), (0, u "<init>"), (0, u "()V"), (0, .class_ 8), (0, u "java/lang/Object"), (0, .fieldref 10 11), (0, .class_ 12), (0, .nameAndType 13 14), (0, u "java/util/ArrayList"), (0, u "elementData"), (0, u "[Ljava/lang/Object;"), (2, u "EMPTY_ELEMENTDATA"), (21, .fieldref 10 40), (0, .nameAndType 41 14), (0, u "DEFAULTCAPACITY_EMPTY_ELEMENTDATA"), (4, u "toArray"), (0, u "()[Ljava/lang/Object;"), (0, .fieldref 10 49), (0, .nameAndType 50 51), (0, u "size"), (0, u "I"), (6, .class_ 60), (1, u "java/util/Arrays"), (0, u "copyOf"), (1, .fieldref 10 64), (0, .nameAndType 65 51), (0, u "modCount"), (0, .methodref 58 67), (0, .nameAndType 61 68), (0, u "([Ljava/lang/Object;I)[Ljava/lang/Object;"), (0, .methodref 10 70), (0, .nameAndType 71 72), (0, u "grow"), (0, u "(I)[Ljava/lang/Object;"), (6, .methodref 80 81), (0, .class_ 82), (0, .nameAndType 83 84), (0, u "java/lang/Math"), (0, u "max"), (0, u "(II)I"), (11, u "(Ljava/lang/Object;)Z"), (32, .methodref 10 130), (0, .nameAndType 71 47), (0, .methodref 10 132), (0, .nameAndType 133 134), (0, u "add"), (0, u "(Ljava/lang/Object;[Ljava/lang/Object;I)V"), (13, .class_ 149), (0, u "java/util/List"), (23, u "()Z"), (88, .class_ 263), (0, u "java/util/ArrayList$ListItr"), (3, .class_ 268), (0, u "java/util/ArrayList$Itr"), (7, .class_ 277), (0, u "java/util/ArrayList$SubList"), (12, .class_ 291), (0, u "java/util/ArrayList$ArrayListSpliterator"), (37, .class_ 330), (0, u "java/util/RandomAccess"), (0, .class_ 332), (0, u "java/lang/Cloneable"), (0, .class_ 334), (0, u "java/io/Serializable"), (0, u "serialVersionUID"), (0, u "J"), (3, u "DEFAULT_CAPACITY"), (22, u "isEmpty"), (136, .class_ 501), (0, u "java/util/ArrayList$SubList$2"), (0, .class_ 503), (0, u "java/util/ArrayList$SubList$1")] 5

def k11c0 : Code := { maxStack := 2, maxLocals := 1, code := jdk_38_method_2_code, exceptionTable := #[], attributes := #[] }
def k11m0 : Method := { name := "<init>", desc := "()V", sig := { parameters := [], returnType := none }, accessFlags := 1, code := some k11c0 }
def k11c1 : Code := { maxStack := 4, maxLocals := 4, code := jdk_38_method_6_code, exceptionTable := #[], attributes := #[] }
def k11m1 : Method := { name := "grow", desc := "(I)[Ljava/lang/Object;", sig := { parameters := [.int], returnType := some (.array (.object "java/lang/Object")) }, accessFlags := 2, code := some k11c1 }
def k11c2 : Code := { maxStack := 3, maxLocals := 1, code := jdk_38_method_7_code, exceptionTable := #[], attributes := #[] }
def k11m2 : Method := { name := "grow", desc := "()[Ljava/lang/Object;", sig := { parameters := [], returnType := some (.array (.object "java/lang/Object")) }, accessFlags := 2, code := some k11c2 }
def k11c3 : Code := { maxStack := 1, maxLocals := 1, code := jdk_38_method_9_code, exceptionTable := #[], attributes := #[] }
def k11m3 : Method := { name := "isEmpty", desc := "()Z", sig := { parameters := [], returnType := some .boolean }, accessFlags := 1, code := some k11c3 }
def k11c4 : Code := { maxStack := 2, maxLocals := 1, code := jdk_38_method_16_code, exceptionTable := #[], attributes := #[] }
def k11m4 : Method := { name := "toArray", desc := "()[Ljava/lang/Object;", sig := { parameters := [], returnType := some (.array (.object "java/lang/Object")) }, accessFlags := 1, code := some k11c4 }
def k11c5 : Code := { maxStack := 3, maxLocals := 4, code := jdk_38_method_24_code, exceptionTable := #[], attributes := #[] }
def k11m5 : Method := { name := "add", desc := "(Ljava/lang/Object;[Ljava/lang/Object;I)V", sig := { parameters := [(.object "java/lang/Object"), (.array (.object "java/lang/Object")), .int], returnType := none }, accessFlags := 2, code := some k11c5 }
def k11c6 : Code := { maxStack := 4, maxLocals := 2, code := jdk_38_method_25_code, exceptionTable := #[], attributes := #[] }
def k11m6 : Method := { name := "add", desc := "(Ljava/lang/Object;)Z", sig := { parameters := [(.object "java/lang/Object")], returnType := some .boolean }, accessFlags := 1, code := some k11c6 }
/-- java/util/ArrayList -/
def k11 : Class := { plain "java/util/ArrayList" (some 7) with
  accessFlags := 33
  interfaces := #[6, 8, 9, 10]
  cf := some (fileOf pool11 10 #[.nestMembers #[290, 276, 500, 502, 262, 267]] #[{ accessFlags := 1, nameIndex := 5, descriptorIndex := 6, attributes := #[] }, { accessFlags := 2, nameIndex := 71, descriptorIndex := 72, attributes := #[] }, { accessFlags := 2, nameIndex := 71, descriptorIndex := 47, attributes := #[] }, { accessFlags := 1, nameIndex := 363, descriptorIndex := 173, attributes := #[] }, { accessFlags := 1, nameIndex := 46, descriptorIndex := 47, attributes := #[] }, { accessFlags := 2, nameIndex := 133, descriptorIndex := 134, attributes := #[] }, { accessFlags := 1, nameIndex := 133, descriptorIndex := 96, attributes := #[] }] 33 2 #[148, 329, 331, 333] #[{ accessFlags := 26, nameIndex := 335, descriptorIndex := 336, attributes := #[] }, { accessFlags := 26, nameIndex := 340, descriptorIndex := 51, attributes := #[] }, { accessFlags := 26, nameIndex := 17, descriptorIndex := 14, attributes := #[] }, { accessFlags := 26, nameIndex := 41, descriptorIndex := 14, attributes := #[] }, { accessFlags := 128, nameIndex := 13, descriptorIndex := 14, attributes := #[] }, { accessFlags := 2, nameIndex := 50, descriptorIndex := 51, attributes := #[] }])
  fields := #[{ name := "serialVersionUID", type := .long, accessFlags := 26, slot := 0, constantValue := 0 }, { name := "DEFAULT_CAPACITY", type := .int, accessFlags := 26, slot := 1, constantValue := 0 }, { name := "EMPTY_ELEMENTDATA", type := (.array (.object "java/lang/Object")), accessFlags := 26, slot := 2, constantValue := 0 }, { name := "DEFAULTCAPACITY_EMPTY_ELEMENTDATA", type := (.array (.object "java/lang/Object")), accessFlags := 26, slot := 3, constantValue := 0 }, { name := "elementData", type := (.array (.object "java/lang/Object")), accessFlags := 128, slot := 1, constantValue := 0 }, { name := "size", type := .int, accessFlags := 2, slot := 2, constantValue := 0 }]
  methods := #[k11m0, k11m1, k11m2, k11m3, k11m4, k11m5, k11m6]
  instanceTypes := #[.int, (.array (.object "java/lang/Object")), .int]
  staticTypes := #[.long, .int, (.array (.object "java/lang/Object")), (.array (.object "java/lang/Object"))]
  resolved := Array.replicate 509 none
  statics := some 0 }

def pool12 : Array CpInfo := pool [(1, .methodref 2 3), (0, .class_ 4), (0, .nameAndType 5 6), (0, u "java/lang/Object"), (0, u "<init>"), (0, u "()V"), (0, .class_ 8), (0, u "java/lang/Record")] 13

def k12c0 : Code := { maxStack := 1, maxLocals := 1, code := jdk_30_method_1_code, exceptionTable := #[], attributes := #[] }
def k12m0 : Method := { name := "<init>", desc := "()V", sig := { parameters := [], returnType := none }, accessFlags := 4, code := some k12c0 }
/-- java/lang/Record -/
def k12 : Class := { plain "java/lang/Record" (some 0) with
  accessFlags := 1057
  interfaces := #[]
  cf := some (fileOf pool12 7 #[] #[{ accessFlags := 4, nameIndex := 5, descriptorIndex := 6, attributes := #[] }] 1057 2 #[] #[])
  fields := #[]
  methods := #[k12m0]
  instanceTypes := #[]
  staticTypes := #[]
  resolved := Array.replicate 22 none
  statics := none }

def pool13 : Array CpInfo := pool [(1, .methodref 2 3), (0, .class_ 4), (0, .nameAndType 5 6), (0, u "java/lang/Record"), (0, u "<init>"), (0, u "()V"), (0, .interfaceMethodref 8 9), (0, .class_ 10), (0, .nameAndType 11 12), (0, u "java/util/List"), (0, u "copyOf"), (0, u "(Ljava/util/Collection;)Ljava/util/List;"), (0, .fieldref 14 15), (0, .class_ 16), (0, .nameAndType 17 18), (0, u "com/example/grantfold/grantfold/model/Setting"), (0, u "allowed"), (0, u "Z"), (0, .fieldref 14 20), (0, .nameAndType 21 22), (0, u "line"), (0, u "I"), (0, .fieldref 14 24), (0, .nameAndType 25 26), (0, u "where"), (0, u "Ljava/util/List;"), (0, .interfaceMethodref 8 28), (0, .nameAndType 29 30), (0, u "isEmpty"), (0, u "()Z"), (0, .fieldref 14 32), (0, .nameAndType 33 26), (0, u "EVERY_RECORD"), (40, u "(ZILjava/util/List;)V"), (4, u "scopes"), (0, u "()Ljava/util/List;"), (4, u "()I")] 24

def k13c0 : Code := { maxStack := 2, maxLocals := 4, code := prog_25_method_1_code, exceptionTable := #[], attributes := #[] }
def k13m0 : Method := { name := "<init>", desc := "(ZILjava/util/List;)V", sig := { parameters := [.boolean, .int, (.object "java/util/List")], returnType := none }, accessFlags := 1, code := some k13c0 }
def k13c1 : Code := { maxStack := 1, maxLocals := 1, code := prog_25_method_2_code, exceptionTable := #[], attributes := #[] }
def k13m1 : Method := { name := "scopes", desc := "()Ljava/util/List;", sig := { parameters := [], returnType := some (.object "java/util/List") }, accessFlags := 1, code := some k13c1 }
def k13c2 : Code := { maxStack := 1, maxLocals := 1, code := prog_25_method_7_code, exceptionTable := #[], attributes := #[] }
def k13m2 : Method := { name := "allowed", desc := "()Z", sig := { parameters := [], returnType := some .boolean }, accessFlags := 1, code := some k13c2 }
def k13c3 : Code := { maxStack := 1, maxLocals := 1, code := prog_25_method_8_code, exceptionTable := #[], attributes := #[] }
def k13m3 : Method := { name := "line", desc := "()I", sig := { parameters := [], returnType := some .int }, accessFlags := 1, code := some k13c3 }
/-- com/example/grantfold/grantfold/model/Setting -/
def k13 : Class := { plain "com/example/grantfold/grantfold/model/Setting" (some 12) with
  accessFlags := 49
  interfaces := #[]
  cf := some (fileOf pool13 14 #[] #[{ accessFlags := 1, nameIndex := 5, descriptorIndex := 74, attributes := #[] }, { accessFlags := 1, nameIndex := 79, descriptorIndex := 80, attributes := #[] }, { accessFlags := 1, nameIndex := 17, descriptorIndex := 30, attributes := #[] }, { accessFlags := 1, nameIndex := 21, descriptorIndex := 85, attributes := #[] }] 49 2 #[] #[{ accessFlags := 18, nameIndex := 17, descriptorIndex := 18, attributes := #[] }, { accessFlags := 18, nameIndex := 21, descriptorIndex := 22, attributes := #[] }, { accessFlags := 18, nameIndex := 25, descriptorIndex := 26, attributes := #[] }, { accessFlags := 26, nameIndex := 33, descriptorIndex := 26, attributes := #[] }])
  fields := #[{ name := "allowed", type := .boolean, accessFlags := 18, slot := 0, constantValue := 0 }, { name := "line", type := .int, accessFlags := 18, slot := 1, constantValue := 0 }, { name := "where", type := (.object "java/util/List"), accessFlags := 18, slot := 2, constantValue := 0 }, { name := "EVERY_RECORD", type := (.object "java/util/List"), accessFlags := 26, slot := 0, constantValue := 0 }]
  methods := #[k13m0, k13m1, k13m2, k13m3]
  instanceTypes := #[.boolean, .int, (.object "java/util/List")]
  staticTypes := #[(.object "java/util/List")]
  resolved := Array.replicate 110 none
  statics := some 1 }

def pool14 : Array CpInfo := pool [(2, .class_ 4), (1, u "java/lang/Object"), (0, u "<init>"), (0, u "()V"), (3, .class_ 11), (0, u "java/util/ImmutableCollections$List12"), (0, .class_ 13), (0, u "java/util/ImmutableCollections$ListN"), (3, u "Z"), (0, .class_ 19), (0, u "java/util/List"), (0, .interfaceMethodref 21 22), (0, .class_ 23), (0, .nameAndType 24 25), (0, u "java/util/Collection"), (0, u "isEmpty"), (0, u "()Z"), (0, .interfaceMethodref 18 27), (0, .nameAndType 28 29), (0, u "of"), (0, u "()Ljava/util/List;"), (0, .interfaceMethodref 21 31), (0, .nameAndType 32 33), (0, u "toArray"), (0, u "()[Ljava/lang/Object;"), (0, .interfaceMethodref 18 35), (0, .nameAndType 28 36), (0, u "([Ljava/lang/Object;)Ljava/util/List;"), (0, .methodref 38 39), (0, .class_ 40), (0, .nameAndType 41 42), (0, u "java/util/Objects"), (0, u "requireNonNull"), (0, u "(Ljava/lang/Object;)Ljava/lang/Object;"), (0, .methodref 12 44), (0, .nameAndType 5 45), (0, u "([Ljava/lang/Object;Z)V"), (1, .class_ 49), (1, u "java/util/ImmutableCollections"), (0, u "$assertionsDisabled"), (5, u "[Ljava/lang/Object;"), (5, u "EMPTY_LIST"), (0, u "Ljava/util/ImmutableCollections$ListN;"), (8, u "EMPTY_LIST_NULLS"), (22, u "SALT32L"), (0, u "J"), (2, u "REVERSE"), (6, u "archivedObjects"), (2, u "EMPTY"), (0, u "Ljava/lang/Object;"), (0, .class_ 112), (0, u "java/util/ImmutableCollections$SetN"), (5, u "EMPTY_SET"), (0, u "Ljava/util/ImmutableCollections$SetN;"), (0, .class_ 121), (0, u "java/util/ImmutableCollections$MapN"), (3, u "EMPTY_MAP"), (0, u "Ljava/util/ImmutableCollections$MapN;"), (4, u "EXPAND_FACTOR"), (0, u "I"), (9, u "listCopy"), (0, u "(Ljava/util/Collection;)Ljava/util/List;"), (7, u "listFromArray"), (17, .class_ 170), (0, u "java/util/ImmutableCollections$MapN$MapNIterator"), (0, .class_ 172), (0, u "java/util/ImmutableCollections$MapN$1"), (0, .class_ 174), (0, u "java/util/ImmutableCollections$Map1"), (0, .class_ 176), (0, u "java/util/ImmutableCollections$AbstractImmutableMap"), (0, .class_ 178), (0, u "java/util/ImmutableCollections$SetN$SetNIterator"), (0, .class_ 180), (0, u "java/util/ImmutableCollections$Set12"), (0, .class_ 182), (0, u "java/util/ImmutableCollections$Set12$1"), (0, .class_ 184), (0, u "java/util/ImmutableCollections$AbstractImmutableSet"), (0, .class_ 186), (0, u "java/util/ImmutableCollections$SubList"), (0, .class_ 188), (0, u "java/util/ImmutableCollections$ListItr"), (0, .class_ 190), (0, u "java/util/ImmutableCollections$AbstractImmutableList"), (0, .class_ 192), (0, u "java/util/ImmutableCollections$AbstractImmutableCollection"), (0, .class_ 194), (0, u "java/util/ImmutableCollections$Access"), (0, .class_ 196), (0, u "java/util/ImmutableCollections$Access$1")] 16

def k14m0 : Method := { name := "<init>", desc := "()V", sig := { parameters := [], returnType := none }, accessFlags := 2, code := none }
def k14c1 : Code := { maxStack := 1, maxLocals := 2, code := jdk_56_method_3_code, exceptionTable := #[], attributes := #[] }
def k14m1 : Method := { name := "listCopy", desc := "(Ljava/util/Collection;)Ljava/util/List;", sig := { parameters := [(.object "java/util/Collection")], returnType := some (.object "java/util/List") }, accessFlags := 8, code := some k14c1 }
def k14c2 : Code := { maxStack := 4, maxLocals := 3, code := jdk_56_method_4_code, exceptionTable := #[], attributes := #[] }
def k14m2 : Method := { name := "listFromArray", desc := "([Ljava/lang/Object;)Ljava/util/List;", sig := { parameters := [(.array (.object "java/lang/Object"))], returnType := some (.object "java/util/List") }, accessFlags := 136, code := some k14c2 }
/-- java/util/ImmutableCollections -/
def k14 : Class := { plain "java/util/ImmutableCollections" (some 0) with
  accessFlags := 32
  interfaces := #[]
  cf := some (fileOf pool14 47 #[.nestMembers #[120, 169, 171, 173, 175, 111, 177, 179, 181, 183, 12, 10, 185, 187, 189, 191, 193, 195]] #[{ accessFlags := 2, nameIndex := 5, descriptorIndex := 6, attributes := #[] }, { accessFlags := 8, nameIndex := 142, descriptorIndex := 143, attributes := #[] }, { accessFlags := 136, nameIndex := 151, descriptorIndex := 36, attributes := #[] }] 32 2 #[] #[{ accessFlags := 26, nameIndex := 95, descriptorIndex := 96, attributes := #[] }, { accessFlags := 26, nameIndex := 99, descriptorIndex := 17, attributes := #[] }, { accessFlags := 10, nameIndex := 106, descriptorIndex := 56, attributes := #[] }, { accessFlags := 26, nameIndex := 109, descriptorIndex := 110, attributes := #[] }, { accessFlags := 24, nameIndex := 62, descriptorIndex := 63, attributes := #[] }, { accessFlags := 24, nameIndex := 72, descriptorIndex := 63, attributes := #[] }, { accessFlags := 24, nameIndex := 118, descriptorIndex := 119, attributes := #[] }, { accessFlags := 24, nameIndex := 125, descriptorIndex := 126, attributes := #[] }, { accessFlags := 24, nameIndex := 131, descriptorIndex := 132, attributes := #[] }, { accessFlags := 4120, nameIndex := 50, descriptorIndex := 17, attributes := #[] }])
  fields := #[{ name := "SALT32L", type := .long, accessFlags := 26, slot := 0, constantValue := 0 }, { name := "REVERSE", type := .boolean, accessFlags := 26, slot := 1, constantValue := 0 }, { name := "archivedObjects", type := (.array (.object "java/lang/Object")), accessFlags := 10, slot := 2, constantValue := 0 }, { name := "EMPTY", type := (.object "java/lang/Object"), accessFlags := 26, slot := 3, constantValue := 0 }, { name := "EMPTY_LIST", type := (.object "java/util/ImmutableCollections$ListN"), accessFlags := 24, slot := 4, constantValue := 0 }, { name := "EMPTY_LIST_NULLS", type := (.object "java/util/ImmutableCollections$ListN"), accessFlags := 24, slot := 5, constantValue := 0 }, { name := "EMPTY_SET", type := (.object "java/util/ImmutableCollections$SetN"), accessFlags := 24, slot := 6, constantValue := 0 }, { name := "EMPTY_MAP", type := (.object "java/util/ImmutableCollections$MapN"), accessFlags := 24, slot := 7, constantValue := 0 }, { name := "EXPAND_FACTOR", type := .int, accessFlags := 24, slot := 8, constantValue := 0 }, { name := "$assertionsDisabled", type := .boolean, accessFlags := 4120, slot := 9, constantValue := 0 }]
  methods := #[k14m0, k14m1, k14m2]
  instanceTypes := #[]
  staticTypes := #[.long, .boolean, (.array (.object "java/lang/Object")), (.object "java/lang/Object"), (.object "java/util/ImmutableCollections$ListN"), (.object "java/util/ImmutableCollections$ListN"), (.object "java/util/ImmutableCollections$SetN"), (.object "java/util/ImmutableCollections$MapN"), .int, .boolean]
  resolved := Array.replicate 213 none
  statics := some 2 }

def pool15 : Array CpInfo := pool [(1, .methodref 2 3), (0, .class_ 4), (0, .nameAndType 5 6), (0, u "java/util/AbstractCollection"), (0, u "<init>"), (0, u "()V"), (1, .class_ 10), (1, u "java/util/ImmutableCollections"), (2, .class_ 14), (0, u "java/util/ImmutableCollections$AbstractImmutableCollection")] 41

def k15c0 : Code := { maxStack := 1, maxLocals := 1, code := jdk_47_method_1_code, exceptionTable := #[], attributes := #[] }
def k15m0 : Method := { name := "<init>", desc := "()V", sig := { parameters := [], returnType := none }, accessFlags := 0, code := some k15c0 }
/-- java/util/ImmutableCollections$AbstractImmutableCollection -/
def k15 : Class := { plain "java/util/ImmutableCollections$AbstractImmutableCollection" (some 4) with
  accessFlags := 1056
  interfaces := #[]
  cf := some (fileOf pool15 13 #[.nestHost 8] #[{ accessFlags := 0, nameIndex := 5, descriptorIndex := 6, attributes := #[] }] 1056 2 #[] #[])
  fields := #[]
  methods := #[k15m0]
  instanceTypes := #[]
  staticTypes := #[]
  resolved := Array.replicate 56 none
  statics := none }

def pool16 : Array CpInfo := pool [(1, .methodref 2 3), (0, .class_ 4), (0, .nameAndType 5 6), (0, u "java/util/ImmutableCollections$AbstractImmutableCollection"), (0, u "<init>"), (0, u "()V"), (1, .class_ 10), (1, u "java/util/ImmutableCollections"), (3, .class_ 16), (1, u "java/util/ImmutableCollections$AbstractImmutableList"), (60, .class_ 78), (0, u "java/util/List"), (45, .class_ 125), (0, u "java/util/RandomAccess")] 70

def k16c0 : Code := { maxStack := 1, maxLocals := 1, code := jdk_46_method_1_code, exceptionTable := #[], attributes := #[] }
def k16m0 : Method := { name := "<init>", desc := "()V", sig := { parameters := [], returnType := none }, accessFlags := 0, code := some k16c0 }
/-- java/util/ImmutableCollections$AbstractImmutableList -/
def k16 : Class := { plain "java/util/ImmutableCollections$AbstractImmutableList" (some 15) with
  accessFlags := 1056
  interfaces := #[6, 8]
  cf := some (fileOf pool16 14 #[.nestHost 8] #[{ accessFlags := 0, nameIndex := 5, descriptorIndex := 6, attributes := #[] }] 1056 2 #[77, 124] #[])
  fields := #[]
  methods := #[k16m0]
  instanceTypes := #[]
  staticTypes := #[]
  resolved := Array.replicate 196 none
  statics := none }

def pool17 : Array CpInfo := pool [(1, .methodref 2 3), (0, .class_ 4), (0, .nameAndType 5 6), (0, u "java/util/ImmutableCollections$AbstractImmutableList"), (0, u "<init>"), (0, u "()V"), (0, .methodref 8 9), (0, .class_ 10), (0, .nameAndType 11 12), (0, u "java/util/Objects"), (0, u "requireNonNull"), (0, u "(Ljava/lang/Object;)Ljava/lang/Object;"), (0, .fieldref 14 15), (0, .class_ 16), (0, .nameAndType 17 18), (0, u "java/util/ImmutableCollections$List12"), (0, u "e0"), (0, u "Ljava/lang/Object;"), (0, .fieldref 20 21), (0, .class_ 22), (0, .nameAndType 23 18), (0, u "java/util/ImmutableCollections"), (0, u "EMPTY"), (0, .fieldref 14 25), (0, .nameAndType 26 18), (0, u "e1"), (24, u "size"), (0, u "()I"), (17, .class_ 71), (0, u "java/io/Serializable"), (4, u "(Ljava/lang/Object;)V"), (8, u "(Ljava/lang/Object;Ljava/lang/Object;)V"), (2, u "isEmpty"), (0, u "()Z"), (0, u "get"), (0, u "(I)Ljava/lang/Object;")] 33

def k17c0 : Code := { maxStack := 2, maxLocals := 2, code := jdk_44_method_1_code, exceptionTable := #[], attributes := #[] }
def k17m0 : Method := { name := "<init>", desc := "(Ljava/lang/Object;)V", sig := { parameters := [(.object "java/lang/Object")], returnType := none }, accessFlags := 0, code := some k17c0 }
def k17c1 : Code := { maxStack := 2, maxLocals := 3, code := jdk_44_method_2_code, exceptionTable := #[], attributes := #[] }
def k17m1 : Method := { name := "<init>", desc := "(Ljava/lang/Object;Ljava/lang/Object;)V", sig := { parameters := [(.object "java/lang/Object"), (.object "java/lang/Object")], returnType := none }, accessFlags := 0, code := some k17c1 }
def k17c2 : Code := { maxStack := 2, maxLocals := 1, code := jdk_44_method_3_code, exceptionTable := #[], attributes := #[] }
def k17m2 : Method := { name := "size", desc := "()I", sig := { parameters := [], returnType := some .int }, accessFlags := 1, code := some k17c2 }
def k17c3 : Code := { maxStack := 1, maxLocals := 1, code := jdk_44_method_4_code, exceptionTable := #[], attributes := #[] }
def k17m3 : Method := { name := "isEmpty", desc := "()Z", sig := { parameters := [], returnType := some .boolean }, accessFlags := 1, code := some k17c3 }
def k17c4 : Code := { maxStack := 2, maxLocals := 2, code := jdk_44_method_5_code, exceptionTable := #[], attributes := #[] }
def k17m4 : Method := { name := "get", desc := "(I)Ljava/lang/Object;", sig := { parameters := [.int], returnType := some (.object "java/lang/Object") }, accessFlags := 1, code := some k17c4 }
/-- java/util/ImmutableCollections$List12 -/
def k17 : Class := { plain "java/util/ImmutableCollections$List12" (some 16) with
  accessFlags := 48
  interfaces := #[10]
  cf := some (fileOf pool17 14 #[.nestHost 20] #[{ accessFlags := 0, nameIndex := 5, descriptorIndex := 76, attributes := #[] }, { accessFlags := 0, nameIndex := 5, descriptorIndex := 85, attributes := #[] }, { accessFlags := 1, nameIndex := 51, descriptorIndex := 52, attributes := #[] }, { accessFlags := 1, nameIndex := 88, descriptorIndex := 89, attributes := #[] }, { accessFlags := 1, nameIndex := 90, descriptorIndex := 91, attributes := #[] }] 48 2 #[70] #[{ accessFlags := 18, nameIndex := 17, descriptorIndex := 18, attributes := #[] }, { accessFlags := 18, nameIndex := 26, descriptorIndex := 18, attributes := #[] }])
  fields := #[{ name := "e0", type := (.object "java/lang/Object"), accessFlags := 18, slot := 0, constantValue := 0 }, { name := "e1", type := (.object "java/lang/Object"), accessFlags := 18, slot := 1, constantValue := 0 }]
  methods := #[k17m0, k17m1, k17m2, k17m3, k17m4]
  instanceTypes := #[(.object "java/lang/Object"), (.object "java/lang/Object")]
  staticTypes := #[]
  resolved := Array.replicate 125 none
  statics := none }

def pool18 : Array CpInfo := pool [(1, .methodref 2 3), (0, .class_ 4), (0, .nameAndType 5 6), (0, u "java/util/ImmutableCollections$AbstractImmutableList"), (0, u "<init>"), (0, u "()V"), (0, .fieldref 8 9), (0, .class_ 10), (0, .nameAndType 11 12), (0, u "java/util/ImmutableCollections$ListN"), (0, u "elements"), (0, u "[Ljava/lang/Object;"), (0, .fieldref 8 14), (0, .nameAndType 15 16), (0, u "allowNulls"), (0, u "Z"), (42, .class_ 60), (0, u "java/io/Serializable"), (4, u "([Ljava/lang/Object;Z)V"), (8, u "isEmpty"), (0, u "()Z"), (1, u "size"), (0, u "()I"), (0, u "get"), (0, u "(I)Ljava/lang/Object;"), (33, .class_ 115), (0, u "java/util/ImmutableCollections")] 3

def k18c0 : Code := { maxStack := 2, maxLocals := 3, code := jdk_45_method_1_code, exceptionTable := #[], attributes := #[] }
def k18m0 : Method := { name := "<init>", desc := "([Ljava/lang/Object;Z)V", sig := { parameters := [(.array (.object "java/lang/Object")), .boolean], returnType := none }, accessFlags := 2, code := some k18c0 }
def k18c1 : Code := { maxStack := 1, maxLocals := 1, code := jdk_45_method_2_code, exceptionTable := #[], attributes := #[] }
def k18m1 : Method := { name := "isEmpty", desc := "()Z", sig := { parameters := [], returnType := some .boolean }, accessFlags := 1, code := some k18c1 }
def k18c2 : Code := { maxStack := 1, maxLocals := 1, code := jdk_45_method_3_code, exceptionTable := #[], attributes := #[] }
def k18m2 : Method := { name := "size", desc := "()I", sig := { parameters := [], returnType := some .int }, accessFlags := 1, code := some k18c2 }
def k18c3 : Code := { maxStack := 2, maxLocals := 2, code := jdk_45_method_4_code, exceptionTable := #[], attributes := #[] }
def k18m3 : Method := { name := "get", desc := "(I)Ljava/lang/Object;", sig := { parameters := [.int], returnType := some (.object "java/lang/Object") }, accessFlags := 1, code := some k18c3 }
/-- java/util/ImmutableCollections$ListN -/
def k18 : Class := { plain "java/util/ImmutableCollections$ListN" (some 16) with
  accessFlags := 48
  interfaces := #[10]
  cf := some (fileOf pool18 8 #[.nestHost 114] #[{ accessFlags := 2, nameIndex := 5, descriptorIndex := 65, attributes := #[] }, { accessFlags := 1, nameIndex := 74, descriptorIndex := 75, attributes := #[] }, { accessFlags := 1, nameIndex := 77, descriptorIndex := 78, attributes := #[] }, { accessFlags := 1, nameIndex := 79, descriptorIndex := 80, attributes := #[] }] 48 2 #[59] #[{ accessFlags := 18, nameIndex := 11, descriptorIndex := 12, attributes := #[] }, { accessFlags := 18, nameIndex := 15, descriptorIndex := 16, attributes := #[] }])
  fields := #[{ name := "elements", type := (.array (.object "java/lang/Object")), accessFlags := 18, slot := 0, constantValue := 0 }, { name := "allowNulls", type := .boolean, accessFlags := 18, slot := 1, constantValue := 0 }]
  methods := #[k18m0, k18m1, k18m2, k18m3]
  instanceTypes := #[(.array (.object "java/lang/Object")), .boolean]
  staticTypes := #[]
  resolved := Array.replicate 119 none
  statics := none }

def pool19 : Array CpInfo := pool [(2, .class_ 4), (1, u "java/lang/Record"), (60, .class_ 67), (1, u "com/example/grantfold/grantfold/model/Scope"), (0, u "conditions"), (0, u "Ljava/util/Map;"), (40, u "EVERY_RECORD"), (0, u "Lcom/example/grantfold/grantfold/model/Scope;")] 34

/-- com/example/grantfold/grantfold/model/Scope -/
def k19 : Class := { plain "com/example/grantfold/grantfold/model/Scope" (some 12) with
  accessFlags := 49
  interfaces := #[]
  cf := some (fileOf pool19 65 #[] #[] 49 2 #[] #[{ accessFlags := 18, nameIndex := 68, descriptorIndex := 69, attributes := #[] }, { accessFlags := 25, nameIndex := 110, descriptorIndex := 111, attributes := #[] }])
  fields := #[{ name := "conditions", type := (.object "java/util/Map"), accessFlags := 18, slot := 0, constantValue := 0 }, { name := "EVERY_RECORD", type := (.object "com/example/grantfold/grantfold/model/Scope"), accessFlags := 25, slot := 0, constantValue := 0 }]
  methods := #[]
  instanceTypes := #[(.object "java/util/Map")]
  staticTypes := #[(.object "com/example/grantfold/grantfold/model/Scope")]
  resolved := Array.replicate 146 none
  statics := some 3 }

def pool20 : Array CpInfo := pool [(1, .class_ 2), (0, u "java/lang/Math"), (1, .class_ 6), (1, u "java/lang/Object"), (0, u "<init>"), (0, u "()V"), (89, .class_ 100), (1, u "java/lang/Math$RandomNumberGeneratorHolder"), (71, u "negativeZeroFloatBits"), (0, u "J"), (2, u "negativeZeroDoubleBits"), (21, u "max"), (2, u "min"), (43, u "$assertionsDisabled"), (0, u "Z"), (88, u "(II)I"), (2, u "twoToTheDoubleScaleDown"), (0, u "D"), (4, u "twoToTheDoubleScaleUp"), (9, u "E"), (3, u "PI"), (2, u "TAU"), (2, u "DEGREES_TO_RADIANS"), (0, u "RADIANS_TO_DEGREES")] 94

def k20m0 : Method := { name := "<init>", desc := "()V", sig := { parameters := [], returnType := none }, accessFlags := 2, code := none }
def k20c1 : Code := { maxStack := 2, maxLocals := 2, code := jdk_29_method_65_code, exceptionTable := #[], attributes := #[] }
def k20m1 : Method := { name := "max", desc := "(II)I", sig := { parameters := [.int, .int], returnType := some .int }, accessFlags := 9, code := some k20c1 }
def k20c2 : Code := { maxStack := 2, maxLocals := 2, code := jdk_29_method_69_code, exceptionTable := #[], attributes := #[] }
def k20m2 : Method := { name := "min", desc := "(II)I", sig := { parameters := [.int, .int], returnType := some .int }, accessFlags := 9, code := some k20c2 }
/-- java/lang/Math -/
def k20 : Class := { plain "java/lang/Math" (some 0) with
  accessFlags := 49
  interfaces := #[]
  cf := some (fileOf pool20 1 #[.nestMembers #[98]] #[{ accessFlags := 2, nameIndex := 7, descriptorIndex := 8, attributes := #[] }, { accessFlags := 9, nameIndex := 198, descriptorIndex := 335, attributes := #[] }, { accessFlags := 9, nameIndex := 201, descriptorIndex := 335, attributes := #[] }] 49 4 #[] #[{ accessFlags := 25, nameIndex := 354, descriptorIndex := 339, attributes := #[] }, { accessFlags := 25, nameIndex := 358, descriptorIndex := 339, attributes := #[] }, { accessFlags := 25, nameIndex := 361, descriptorIndex := 339, attributes := #[] }, { accessFlags := 26, nameIndex := 364, descriptorIndex := 339, attributes := #[] }, { accessFlags := 26, nameIndex := 365, descriptorIndex := 339, attributes := #[] }, { accessFlags := 26, nameIndex := 172, descriptorIndex := 173, attributes := #[] }, { accessFlags := 26, nameIndex := 176, descriptorIndex := 173, attributes := #[] }, { accessFlags := 8, nameIndex := 344, descriptorIndex := 339, attributes := #[] }, { accessFlags := 8, nameIndex := 338, descriptorIndex := 339, attributes := #[] }, { accessFlags := 4120, nameIndex := 245, descriptorIndex := 246, attributes := #[] }])
  fields := #[{ name := "E", type := .double, accessFlags := 25, slot := 0, constantValue := 0 }, { name := "PI", type := .double, accessFlags := 25, slot := 1, constantValue := 0 }, { name := "TAU", type := .double, accessFlags := 25, slot := 2, constantValue := 0 }, { name := "DEGREES_TO_RADIANS", type := .double, accessFlags := 26, slot := 3, constantValue := 0 }, { name := "RADIANS_TO_DEGREES", type := .double, accessFlags := 26, slot := 4, constantValue := 0 }, { name := "negativeZeroFloatBits", type := .long, accessFlags := 26, slot := 5, constantValue := 0 }, { name := "negativeZeroDoubleBits", type := .long, accessFlags := 26, slot := 6, constantValue := 0 }, { name := "twoToTheDoubleScaleUp", type := .double, accessFlags := 8, slot := 7, constantValue := 0 }, { name := "twoToTheDoubleScaleDown", type := .double, accessFlags := 8, slot := 8, constantValue := 0 }, { name := "$assertionsDisabled", type := .boolean, accessFlags := 4120, slot := 9, constantValue := 0 }]
  methods := #[k20m0, k20m1, k20m2]
  instanceTypes := #[]
  staticTypes := #[.double, .double, .double, .double, .double, .long, .long, .double, .double, .boolean]
  resolved := Array.replicate 460 none
  statics := none }

def pool21 : Array CpInfo := pool [(2, .class_ 4), (1, u "java/lang/Object"), (0, u "<init>"), (0, u "()V"), (7, .class_ 16), (1, u "java/util/Arrays"), (57, .class_ 76), (1, u "java/util/Arrays$NaturalOrder"), (9, .methodref 2 87), (0, .nameAndType 88 89), (0, u "getClass"), (0, u "()Ljava/lang/Class;"), (20, .class_ 111), (0, u "[Ljava/lang/Object;"), (1, .class_ 115), (1, u "java/util/Arrays$LegacyMergeSort"), (1, u "Z"), (32, .methodref 151 152), (0, .class_ 153), (0, .nameAndType 154 155), (0, u "java/lang/System"), (0, u "arraycopy"), (0, u "(Ljava/lang/Object;ILjava/lang/Object;II)V"), (144, .methodref 14 301), (0, .nameAndType 302 303), (0, u "copyOf"), (0, u "([Ljava/lang/Object;ILjava/lang/Class;)[Ljava/lang/Object;"), (0, .methodref 305 306), (0, .class_ 307), (0, .nameAndType 308 309), (0, u "java/lang/Math"), (0, u "min"), (0, u "(II)I"), (65, .class_ 376), (0, u "java/util/Arrays$ArrayList"), (68, u "$assertionsDisabled"), (269, u "MIN_ARRAY_SORT_GRAN"), (0, u "I"), (2, u "INSERTIONSORT_THRESHOLD"), (140, u "([Ljava/lang/Object;I)[Ljava/lang/Object;"), (114, .class_ 976), (0, u "java/util/Arrays$ArrayItr")] 52

def k21m0 : Method := { name := "<init>", desc := "()V", sig := { parameters := [], returnType := none }, accessFlags := 2, code := none }
def k21c1 : Code := { maxStack := 3, maxLocals := 2, code := jdk_65_method_119_code, exceptionTable := #[], attributes := #[] }
def k21m1 : Method := { name := "copyOf", desc := "([Ljava/lang/Object;I)[Ljava/lang/Object;", sig := { parameters := [(.array (.object "java/lang/Object")), .int], returnType := some (.array (.object "java/lang/Object")) }, accessFlags := 9, code := some k21c1 }
def k21c2 : Code := { maxStack := 6, maxLocals := 4, code := jdk_65_method_120_code, exceptionTable := #[], attributes := #[] }
def k21m2 : Method := { name := "copyOf", desc := "([Ljava/lang/Object;ILjava/lang/Class;)[Ljava/lang/Object;", sig := { parameters := [(.array (.object "java/lang/Object")), .int, (.object "java/lang/Class")], returnType := some (.array (.object "java/lang/Object")) }, accessFlags := 9, code := some k21c2 }
/-- java/util/Arrays -/
def k21 : Class := { plain "java/util/Arrays" (some 0) with
  accessFlags := 49
  interfaces := #[]
  cf := some (fileOf pool21 14 #[.nestMembers #[975, 375, 113, 74]] #[{ accessFlags := 2, nameIndex := 5, descriptorIndex := 6, attributes := #[] }, { accessFlags := 9, nameIndex := 302, descriptorIndex := 860, attributes := #[] }, { accessFlags := 9, nameIndex := 302, descriptorIndex := 303, attributes := #[] }] 49 2 #[] #[{ accessFlags := 26, nameIndex := 715, descriptorIndex := 716, attributes := #[] }, { accessFlags := 26, nameIndex := 719, descriptorIndex := 716, attributes := #[] }, { accessFlags := 4120, nameIndex := 445, descriptorIndex := 117, attributes := #[] }])
  fields := #[{ name := "MIN_ARRAY_SORT_GRAN", type := .int, accessFlags := 26, slot := 0, constantValue := 0 }, { name := "INSERTIONSORT_THRESHOLD", type := .int, accessFlags := 26, slot := 1, constantValue := 0 }, { name := "$assertionsDisabled", type := .boolean, accessFlags := 4120, slot := 2, constantValue := 0 }]
  methods := #[k21m0, k21m1, k21m2]
  instanceTypes := #[]
  staticTypes := #[.int, .int, .boolean]
  resolved := Array.replicate 1029 none
  statics := none }

def pool22 : Array CpInfo := pool [(2, .class_ 4), (1, u "java/lang/Object"), (0, u "<init>"), (0, u "()V"), (1, .class_ 10), (1, u "java/lang/System"), (0, u "allowSecurityManager"), (0, u "I"), (16, u "cons"), (0, u "Ljava/io/Console;"), (77, .class_ 110), (1, u "java/lang/System$CallersHolder"), (43, u "initialErrStream"), (0, u "Ljava/io/PrintStream;"), (19, u "security"), (0, u "Ljava/lang/SecurityManager;"), (31, .class_ 209), (0, u "java/lang/System$1"), (7, u "props"), (0, u "Ljava/util/Properties;"), (2, u "lineSeparator"), (0, u "Ljava/lang/String;"), (96, .class_ 321), (1, u "java/lang/System$LoggerFinder"), (5, .class_ 328), (0, u "java/lang/System$Logger"), (67, u "err"), (2, u "out"), (91, u "notSupportedJnuEncoding"), (15, u "in"), (17, u "initialIn"), (0, u "Ljava/io/InputStream;"), (35, u "bootLayer"), (0, u "Ljava/lang/ModuleLayer;"), (99, .class_ 664), (0, u "java/lang/System$2"), (9, u "NEVER"), (2, u "MAYBE"), (49, u "arraycopy"), (0, u "(Ljava/lang/Object;ILjava/lang/Object;II)V"), (72, .class_ 802), (0, u "java/lang/System$Logger$Level")] 31

def k22m0 : Method := { name := "<init>", desc := "()V", sig := { parameters := [], returnType := none }, accessFlags := 2, code := none }
def k22m1 : Method := { name := "arraycopy", desc := "(Ljava/lang/Object;ILjava/lang/Object;II)V", sig := { parameters := [(.object "java/lang/Object"), .int, (.object "java/lang/Object"), .int, .int], returnType := none }, accessFlags := 265, code := none }
/-- java/lang/System -/
def k22 : Class := { plain "java/lang/System" (some 0) with
  accessFlags := 49
  interfaces := #[]
  cf := some (fileOf pool22 8 #[.nestMembers #[319, 327, 801, 108, 663, 208]] #[{ accessFlags := 2, nameIndex := 5, descriptorIndex := 6, attributes := #[] }, { accessFlags := 265, nameIndex := 727, descriptorIndex := 728, attributes := #[] }] 49 2 #[] #[{ accessFlags := 25, nameIndex := 507, descriptorIndex := 526, attributes := #[] }, { accessFlags := 25, nameIndex := 399, descriptorIndex := 155, attributes := #[] }, { accessFlags := 25, nameIndex := 396, descriptorIndex := 155, attributes := #[] }, { accessFlags := 10, nameIndex := 525, descriptorIndex := 526, attributes := #[] }, { accessFlags := 26, nameIndex := 674, descriptorIndex := 12, attributes := #[] }, { accessFlags := 26, nameIndex := 677, descriptorIndex := 12, attributes := #[] }, { accessFlags := 10, nameIndex := 11, descriptorIndex := 12, attributes := #[] }, { accessFlags := 74, nameIndex := 175, descriptorIndex := 176, attributes := #[] }, { accessFlags := 10, nameIndex := 491, descriptorIndex := 222, attributes := #[] }, { accessFlags := 74, nameIndex := 29, descriptorIndex := 30, attributes := #[] }, { accessFlags := 74, nameIndex := 154, descriptorIndex := 155, attributes := #[] }, { accessFlags := 10, nameIndex := 217, descriptorIndex := 218, attributes := #[] }, { accessFlags := 10, nameIndex := 221, descriptorIndex := 222, attributes := #[] }, { accessFlags := 8, nameIndex := 562, descriptorIndex := 563, attributes := #[] }])
  fields := #[{ name := "in", type := (.object "java/io/InputStream"), accessFlags := 25, slot := 0, constantValue := 0 }, { name := "out", type := (.object "java/io/PrintStream"), accessFlags := 25, slot := 1, constantValue := 0 }, { name := "err", type := (.object "java/io/PrintStream"), accessFlags := 25, slot := 2, constantValue := 0 }, { name := "initialIn", type := (.object "java/io/InputStream"), accessFlags := 10, slot := 3, constantValue := 0 }, { name := "NEVER", type := .int, accessFlags := 26, slot := 4, constantValue := 0 }, { name := "MAYBE", type := .int, accessFlags := 26, slot := 5, constantValue := 0 }, { name := "allowSecurityManager", type := .int, accessFlags := 10, slot := 6, constantValue := 0 }, { name := "security", type := (.object "java/lang/SecurityManager"), accessFlags := 74, slot := 7, constantValue := 0 }, { name := "notSupportedJnuEncoding", type := (.object "java/lang/String"), accessFlags := 10, slot := 8, constantValue := 0 }, { name := "cons", type := (.object "java/io/Console"), accessFlags := 74, slot := 9, constantValue := 0 }, { name := "initialErrStream", type := (.object "java/io/PrintStream"), accessFlags := 74, slot := 10, constantValue := 0 }, { name := "props", type := (.object "java/util/Properties"), accessFlags := 10, slot := 11, constantValue := 0 }, { name := "lineSeparator", type := (.object "java/lang/String"), accessFlags := 10, slot := 12, constantValue := 0 }, { name := "bootLayer", type := (.object "java/lang/ModuleLayer"), accessFlags := 8, slot := 13, constantValue := 0 }]
  methods := #[k22m0, k22m1]
  instanceTypes := #[]
  staticTypes := #[(.object "java/io/InputStream"), (.object "java/io/PrintStream"), (.object "java/io/PrintStream"), (.object "java/io/InputStream"), .int, .int, .int, (.object "java/lang/SecurityManager"), (.object "java/lang/String"), (.object "java/io/Console"), (.object "java/io/PrintStream"), (.object "java/util/Properties"), (.object "java/lang/String"), (.object "java/lang/ModuleLayer")]
  resolved := Array.replicate 834 none
  statics := none }

def pool23 : Array CpInfo := pool [(2, .class_ 4), (1, u "java/lang/Object"), (0, u "<init>"), (0, u "()V"), (35, .class_ 44), (1, u "java/util/Objects"), (0, u "requireNonNull"), (0, u "(Ljava/lang/Object;)Ljava/lang/Object;")] 137

def k23m0 : Method := { name := "<init>", desc := "()V", sig := { parameters := [], returnType := none }, accessFlags := 2, code := none }
def k23c1 : Code := { maxStack := 2, maxLocals := 1, code := jdk_31_method_10_code, exceptionTable := #[], attributes := #[] }
def k23m1 : Method := { name := "requireNonNull", desc := "(Ljava/lang/Object;)Ljava/lang/Object;", sig := { parameters := [(.object "java/lang/Object")], returnType := some (.object "java/lang/Object") }, accessFlags := 9, code := some k23c1 }
/-- java/util/Objects -/
def k23 : Class := { plain "java/util/Objects" (some 0) with
  accessFlags := 49
  interfaces := #[]
  cf := some (fileOf pool23 42 #[] #[{ accessFlags := 2, nameIndex := 5, descriptorIndex := 6, attributes := #[] }, { accessFlags := 9, nameIndex := 45, descriptorIndex := 46, attributes := #[] }] 49 2 #[] #[])
  fields := #[]
  methods := #[k23m0, k23m1]
  instanceTypes := #[]
  staticTypes := #[]
  resolved := Array.replicate 184 none
  statics := none }

def pool24 : Array CpInfo := pool [(1, u "java/lang/Class"), (0, .class_ 1), (0, u "java/lang/Object"), (0, .class_ 3)] 0

/-- java/lang/Class -/
def k24 : Class := { plain "java/lang/Class" (some 0) with
  accessFlags := 49
  interfaces := #[]
  cf := some (fileOf pool24 2 #[] #[] 49 4 #[] #[])
  fields := #[]
  methods := #[]
  instanceTypes := #[]
  staticTypes := #[]
  resolved := Array.replicate 5 none
  statics := none }

/-- the primitive byte -/
def k25 : Class := { plain "byte" none with kind := .primitive 'B', accessFlags := 0x411 }
/-- [B -/
def k26 : Class := { plain "[B" (some 0) with kind := .array 25 .byte, interfaces := #[9, 10], accessFlags := 1041 }

/-- [Ljava/lang/Object; -/
def k27 : Class := { plain "[Ljava/lang/Object;" (some 0) with mirror := some 4, kind := .array 0 (.object "java/lang/Object"), interfaces := #[9, 10], accessFlags := 1041 }

def heap : Heap := #[{ cls := 11, slots := #[.long 0, .int 0, .ref 10, .ref 11], vm := .statics 11 },
  { cls := 13, slots := #[.ref 8], vm := .statics 13 },
  { cls := 14, slots := #[.long 0, .int 0, .null, .ref 7, .ref 9, .null, .null, .null, .int 0, .int 1], vm := .statics 14 },
  { cls := 19, slots := #[.ref 6], vm := .statics 19 },
  { cls := 24, slots := #[], vm := .mirror 27 },
  { cls := 27, slots := #[], vm := .none },
  { cls := 19, slots := #[.null], vm := .none },
  { cls := 0, slots := #[], vm := .none },
  { cls := 17, slots := #[.ref 6, .ref 7], vm := .none },
  { cls := 18, slots := #[.ref 5, .int 0], vm := .none },
  { cls := 27, slots := #[], vm := .none },
  { cls := 27, slots := #[], vm := .none }]
def classes : Array Class := #[k0, k1, k2, k3, k4, k5, k6, k7, k8, k9, k10, k11, k12, k13, k14, k15, k16, k17, k18, k19, k20, k21, k22, k23, k24, k25, k26, k27]
def interned : List (Array UInt16 × Addr) := []
def slotsUsed : Nat := 21
def theMethod : MethodId := ⟨1, 1⟩
def args0 : Array Value := #[.int 5, .int 1, .int 65]
def aboutOver (below : List Frame) : State where
  vm := { classes := classes, interned := interned.toArray }
  heap := heap
  slotsUsed := slotsUsed
  threads := #[{ frames := .invoking theMethod args0 :: below }]
def below0 : List Frame := [.native { method := ⟨0, 0⟩, args := #[] }]
def about1 : State := aboutOver below0
def p0 : Program := .bare "" "" ""
def e0 : Env := launch0.env 0 0 0
theorem w_frames : about1.frames = Frame.invoking theMethod args0 :: below0 := rfl
set_option maxRecDepth 65536 in
theorem w_args : argsFit about1.vm theMethod args0 = true := by decide +kernel
set_option maxRecDepth 65536 in
theorem w_heap : heapFits about1 = true := by decide +kernel
set_option maxRecDepth 65536 in
theorem w_runnable : about1.curStatus? = some .runnable := by decide +kernel
set_option maxRecDepth 65536 in
theorem w_alone : about1.alone = true := by decide +kernel
set_option maxRecDepth 65536 in
theorem w_named : about1.methodNamed? x = some theMethod := by decide +kernel
set_option maxRecDepth 65536 in
theorem w_hears : about1.hears theMethod below0 = true := by decide +kernel
set_option maxRecDepth 65536 in
theorem w_ripe : about1.ripe theMethod args0 below0 = true := by decide +kernel
theorem w_running : about1.status = .running := rfl
set_option maxRecDepth 65536 in
theorem w_room : about1.hasRoom e0.platform room_1 = true :=
  launch0.hasRoom_least _ room_1 (by decide +kernel) (by decide +kernel) (by decide +kernel) (by decide +kernel) (by decide +kernel) (by decide +kernel)
theorem allAtoms_all (ts : List Jvm.Cond) (a : Array Jvm.Value) (st : Jvm.State) : (allAtoms ts).before a st = ts.all (fun c => c.before a st) := by
  induction ts with
  | nil => rfl
  | cons c t ih =>
    show (Jvm.Cond.and c (allAtoms t)).before a st = _
    rw [Jvm.Cond.before_and, ih, List.all_cons]
def words1 : List Jvm.Cond := Jvm.Cond.code x code maxLocals ret :: tables_1
/-- a 'code' word, met by the world's own term for the bytes: nothing is compared byte by byte -/
theorem code_word {y : MethodName} {bytes : ByteArray} {mx : Nat} {rt : Option FieldType} {a : Array Value} {s : State} {m : MethodId} {meth : Method} {c : Code} (h1 : s.methodNamed? y = some m) (h2 : s.vm.method? m = some meth) (h3 : meth.code = some c) (h4 : c.code = bytes)
    (h5 : (c.maxLocals == mx && c.exceptionTable.isEmpty && decide (c.maxStack ≤ mostOperands) && decide (meth.sig.returnType = rt) && !meth.locks && decide (parseMethodDescriptor y.desc = some meth.sig)) = true) : (Jvm.Cond.code y bytes mx rt).before a s = true := by
  simp only [Bool.and_eq_true, beq_iff_eq, Bool.not_eq_true', decide_eq_true_eq] at h5
  obtain ⟨⟨⟨⟨⟨g1, g2⟩, g3⟩, g4⟩, g5⟩, g6⟩ := h5
  simp [Cond.before, Cond.holds, Cond.value, h1, h2, h3, h4, g1, g2, g3, g4, g5, g6]
def isCode : Jvm.Cond → Bool
  | .code _ _ _ _ => true
  | _ => false
theorem all_split {L : List Jvm.Cond} {P : Jvm.Cond → Bool} (h1 : L.all (fun c => isCode c || P c) = true) (h2 : ∀ c ∈ L.filter isCode, P c = true) : L.all P = true := by
  refine List.all_eq_true.mpr fun c hc => ?_
  have h := List.all_eq_true.mp h1 c hc
  rcases Bool.eq_false_or_eq_true (isCode c) with hi | hi
  · exact h2 c (List.mem_filter.mpr ⟨hc, hi⟩)
  · simpa [hi] using h
set_option maxRecDepth 65536 in
theorem w_c0 : (Jvm.Cond.code x code maxLocals ret).before args0 about1 = true := code_word (m := ⟨1, 1⟩) (meth := k1m1) (c := k1c1) (by decide +kernel) rfl rfl rfl (by decide +kernel)
set_option maxRecDepth 65536 in
theorem w_c1 : (Jvm.Cond.code ({ cls := "java/util/ArrayList", name := "<init>", desc := "()V" } : Jvm.MethodName) jdk_38_method_2_code (1 : Nat) (Option.none : Option Jvm.ClassFile.FieldType)).before args0 about1 = true := code_word (m := ⟨11, 0⟩) (meth := k11m0) (c := k11c0) (by decide +kernel) rfl rfl rfl (by decide +kernel)
set_option maxRecDepth 65536 in
theorem w_c2 : (Jvm.Cond.code ({ cls := "java/util/AbstractList", name := "<init>", desc := "()V" } : Jvm.MethodName) jdk_39_method_1_code (1 : Nat) (Option.none : Option Jvm.ClassFile.FieldType)).before args0 about1 = true := code_word (m := ⟨7, 0⟩) (meth := k7m0) (c := k7c0) (by decide +kernel) rfl rfl rfl (by decide +kernel)
set_option maxRecDepth 65536 in
theorem w_c3 : (Jvm.Cond.code ({ cls := "java/util/AbstractCollection", name := "<init>", desc := "()V" } : Jvm.MethodName) jdk_22_method_1_code (1 : Nat) (Option.none : Option Jvm.ClassFile.FieldType)).before args0 about1 = true := code_word (m := ⟨4, 0⟩) (meth := k4m0) (c := k4c0) (by decide +kernel) rfl rfl rfl (by decide +kernel)
set_option maxRecDepth 65536 in
theorem w_c4 : (Jvm.Cond.code ({ cls := "java/lang/Object", name := "<init>", desc := "()V" } : Jvm.MethodName) object_method_1_code (1 : Nat) (Option.none : Option Jvm.ClassFile.FieldType)).before args0 about1 = true := code_word (m := ⟨0, 0⟩) (meth := k0m0) (c := k0c0) (by decide +kernel) rfl rfl rfl (by decide +kernel)
set_option maxRecDepth 65536 in
theorem w_c5 : (Jvm.Cond.code ({ cls := "com/example/grantfold/grantfold/model/Setting", name := "<init>", desc := "(ZILjava/util/List;)V" } : Jvm.MethodName) prog_25_method_1_code (4 : Nat) (Option.none : Option Jvm.ClassFile.FieldType)).before args0 about1 = true := code_word (m := ⟨13, 0⟩) (meth := k13m0) (c := k13c0) (by decide +kernel) rfl rfl rfl (by decide +kernel)
set_option maxRecDepth 65536 in
theorem w_c6 : (Jvm.Cond.code ({ cls := "java/lang/Record", name := "<init>", desc := "()V" } : Jvm.MethodName) jdk_30_method_1_code (1 : Nat) (Option.none : Option Jvm.ClassFile.FieldType)).before args0 about1 = true := code_word (m := ⟨12, 0⟩) (meth := k12m0) (c := k12c0) (by decide +kernel) rfl rfl rfl (by decide +kernel)
set_option maxRecDepth 65536 in
theorem w_c7 : (Jvm.Cond.code ({ cls := "java/util/List", name := "copyOf", desc := "(Ljava/util/Collection;)Ljava/util/List;" } : Jvm.MethodName) jdk_40_method_48_code (1 : Nat) (Option.some (Jvm.ClassFile.FieldType.object "java/util/List"))).before args0 about1 = true := code_word (m := ⟨6, 5⟩) (meth := k6m5) (c := k6c5) (by decide +kernel) rfl rfl rfl (by decide +kernel)
set_option maxRecDepth 65536 in
theorem w_c8 : (Jvm.Cond.code ({ cls := "java/util/ImmutableCollections", name := "listCopy", desc := "(Ljava/util/Collection;)Ljava/util/List;" } : Jvm.MethodName) jdk_56_method_3_code (2 : Nat) (Option.some (Jvm.ClassFile.FieldType.object "java/util/List"))).before args0 about1 = true := code_word (m := ⟨14, 1⟩) (meth := k14m1) (c := k14c1) (by decide +kernel) rfl rfl rfl (by decide +kernel)
set_option maxRecDepth 65536 in
theorem w_c9 : (Jvm.Cond.code ({ cls := "java/util/ArrayList", name := "isEmpty", desc := "()Z" } : Jvm.MethodName) jdk_38_method_9_code (1 : Nat) (Option.some Jvm.ClassFile.FieldType.boolean)).before args0 about1 = true := code_word (m := ⟨11, 3⟩) (meth := k11m3) (c := k11c3) (by decide +kernel) rfl rfl rfl (by decide +kernel)
set_option maxRecDepth 65536 in
theorem w_c10 : (Jvm.Cond.code ({ cls := "java/util/List", name := "of", desc := "()Ljava/util/List;" } : Jvm.MethodName) jdk_40_method_36_code (0 : Nat) (Option.some (Jvm.ClassFile.FieldType.object "java/util/List"))).before args0 about1 = true := code_word (m := ⟨6, 3⟩) (meth := k6m3) (c := k6c3) (by decide +kernel) rfl rfl rfl (by decide +kernel)
set_option maxRecDepth 65536 in
theorem w_c11 : (Jvm.Cond.code ({ cls := "java/util/ArrayList", name := "add", desc := "(Ljava/lang/Object;)Z" } : Jvm.MethodName) jdk_38_method_25_code (2 : Nat) (Option.some Jvm.ClassFile.FieldType.boolean)).before args0 about1 = true := code_word (m := ⟨11, 6⟩) (meth := k11m6) (c := k11c6) (by decide +kernel) rfl rfl rfl (by decide +kernel)
set_option maxRecDepth 65536 in
theorem w_c12 : (Jvm.Cond.code ({ cls := "java/util/ArrayList", name := "add", desc := "(Ljava/lang/Object;[Ljava/lang/Object;I)V" } : Jvm.MethodName) jdk_38_method_24_code (4 : Nat) (Option.none : Option Jvm.ClassFile.FieldType)).before args0 about1 = true := code_word (m := ⟨11, 5⟩) (meth := k11m5) (c := k11c5) (by decide +kernel) rfl rfl rfl (by decide +kernel)
set_option maxRecDepth 65536 in
theorem w_c13 : (Jvm.Cond.code ({ cls := "java/util/ArrayList", name := "grow", desc := "()[Ljava/lang/Object;" } : Jvm.MethodName) jdk_38_method_7_code (1 : Nat) (Option.some (Jvm.ClassFile.FieldType.array (Jvm.ClassFile.FieldType.object "java/lang/Object")))).before args0 about1 = true := code_word (m := ⟨11, 2⟩) (meth := k11m2) (c := k11c2) (by decide +kernel) rfl rfl rfl (by decide +kernel)
set_option maxRecDepth 65536 in
theorem w_c14 : (Jvm.Cond.code ({ cls := "java/util/ArrayList", name := "grow", desc := "(I)[Ljava/lang/Object;" } : Jvm.MethodName) jdk_38_method_6_code (4 : Nat) (Option.some (Jvm.ClassFile.FieldType.array (Jvm.ClassFile.FieldType.object "java/lang/Object")))).before args0 about1 = true := code_word (m := ⟨11, 1⟩) (meth := k11m1) (c := k11c1) (by decide +kernel) rfl rfl rfl (by decide +kernel)
set_option maxRecDepth 65536 in
theorem w_c15 : (Jvm.Cond.code ({ cls := "java/lang/Math", name := "max", desc := "(II)I" } : Jvm.MethodName) jdk_29_method_65_code (2 : Nat) (Option.some Jvm.ClassFile.FieldType.int)).before args0 about1 = true := code_word (m := ⟨20, 1⟩) (meth := k20m1) (c := k20c1) (by decide +kernel) rfl rfl rfl (by decide +kernel)
set_option maxRecDepth 65536 in
theorem w_c16 : (Jvm.Cond.code ({ cls := "com/example/grantfold/grantfold/model/Setting", name := "scopes", desc := "()Ljava/util/List;" } : Jvm.MethodName) prog_25_method_2_code (1 : Nat) (Option.some (Jvm.ClassFile.FieldType.object "java/util/List"))).before args0 about1 = true := code_word (m := ⟨13, 1⟩) (meth := k13m1) (c := k13c1) (by decide +kernel) rfl rfl rfl (by decide +kernel)
set_option maxRecDepth 65536 in
theorem w_c17 : (Jvm.Cond.code ({ cls := "java/util/ImmutableCollections$ListN", name := "isEmpty", desc := "()Z" } : Jvm.MethodName) jdk_45_method_2_code (1 : Nat) (Option.some Jvm.ClassFile.FieldType.boolean)).before args0 about1 = true := code_word (m := ⟨18, 1⟩) (meth := k18m1) (c := k18c1) (by decide +kernel) rfl rfl rfl (by decide +kernel)
set_option maxRecDepth 65536 in
theorem w_c18 : (Jvm.Cond.code ({ cls := "java/util/ImmutableCollections$List12", name := "size", desc := "()I" } : Jvm.MethodName) jdk_44_method_3_code (1 : Nat) (Option.some Jvm.ClassFile.FieldType.int)).before args0 about1 = true := code_word (m := ⟨17, 2⟩) (meth := k17m2) (c := k17c2) (by decide +kernel) rfl rfl rfl (by decide +kernel)
set_option maxRecDepth 65536 in
theorem w_c19 : (Jvm.Cond.code ({ cls := "java/util/ImmutableCollections$List12", name := "get", desc := "(I)Ljava/lang/Object;" } : Jvm.MethodName) jdk_44_method_5_code (2 : Nat) (Option.some (Jvm.ClassFile.FieldType.object "java/lang/Object"))).before args0 about1 = true := code_word (m := ⟨17, 4⟩) (meth := k17m4) (c := k17c4) (by decide +kernel) rfl rfl rfl (by decide +kernel)
set_option maxRecDepth 65536 in
theorem w_c20 : (Jvm.Cond.code ({ cls := "com/example/grantfold/grantfold/model/Setting", name := "allowed", desc := "()Z" } : Jvm.MethodName) prog_25_method_7_code (1 : Nat) (Option.some Jvm.ClassFile.FieldType.boolean)).before args0 about1 = true := code_word (m := ⟨13, 2⟩) (meth := k13m2) (c := k13c2) (by decide +kernel) rfl rfl rfl (by decide +kernel)
set_option maxRecDepth 65536 in
theorem w_c21 : (Jvm.Cond.code ({ cls := "com/example/grantfold/grantfold/model/Setting", name := "line", desc := "()I" } : Jvm.MethodName) prog_25_method_8_code (1 : Nat) (Option.some Jvm.ClassFile.FieldType.int)).before args0 about1 = true := code_word (m := ⟨13, 3⟩) (meth := k13m3) (c := k13c3) (by decide +kernel) rfl rfl rfl (by decide +kernel)
set_option maxRecDepth 65536 in
theorem w_c22 : (Jvm.Cond.code ({ cls := "java/util/ArrayList", name := "toArray", desc := "()[Ljava/lang/Object;" } : Jvm.MethodName) jdk_38_method_16_code (1 : Nat) (Option.some (Jvm.ClassFile.FieldType.array (Jvm.ClassFile.FieldType.object "java/lang/Object")))).before args0 about1 = true := code_word (m := ⟨11, 4⟩) (meth := k11m4) (c := k11c4) (by decide +kernel) rfl rfl rfl (by decide +kernel)
set_option maxRecDepth 65536 in
theorem w_c23 : (Jvm.Cond.code ({ cls := "java/util/Arrays", name := "copyOf", desc := "([Ljava/lang/Object;I)[Ljava/lang/Object;" } : Jvm.MethodName) jdk_65_method_119_code (2 : Nat) (Option.some (Jvm.ClassFile.FieldType.array (Jvm.ClassFile.FieldType.object "java/lang/Object")))).before args0 about1 = true := code_word (m := ⟨21, 1⟩) (meth := k21m1) (c := k21c1) (by decide +kernel) rfl rfl rfl (by decide +kernel)
set_option maxRecDepth 65536 in
theorem w_c24 : (Jvm.Cond.code ({ cls := "java/util/Arrays", name := "copyOf", desc := "([Ljava/lang/Object;ILjava/lang/Class;)[Ljava/lang/Object;" } : Jvm.MethodName) jdk_65_method_120_code (4 : Nat) (Option.some (Jvm.ClassFile.FieldType.array (Jvm.ClassFile.FieldType.object "java/lang/Object")))).before args0 about1 = true := code_word (m := ⟨21, 2⟩) (meth := k21m2) (c := k21c2) (by decide +kernel) rfl rfl rfl (by decide +kernel)
set_option maxRecDepth 65536 in
theorem w_c25 : (Jvm.Cond.code ({ cls := "java/lang/Math", name := "min", desc := "(II)I" } : Jvm.MethodName) jdk_29_method_69_code (2 : Nat) (Option.some Jvm.ClassFile.FieldType.int)).before args0 about1 = true := code_word (m := ⟨20, 2⟩) (meth := k20m2) (c := k20c2) (by decide +kernel) rfl rfl rfl (by decide +kernel)
set_option maxRecDepth 65536 in
theorem w_c26 : (Jvm.Cond.code ({ cls := "java/util/List", name := "of", desc := "([Ljava/lang/Object;)Ljava/util/List;" } : Jvm.MethodName) jdk_40_method_47_code (2 : Nat) (Option.some (Jvm.ClassFile.FieldType.object "java/util/List"))).before args0 about1 = true := code_word (m := ⟨6, 4⟩) (meth := k6m4) (c := k6c4) (by decide +kernel) rfl rfl rfl (by decide +kernel)
set_option maxRecDepth 65536 in
theorem w_c27 : (Jvm.Cond.code ({ cls := "java/util/ImmutableCollections$List12", name := "<init>", desc := "(Ljava/lang/Object;)V" } : Jvm.MethodName) jdk_44_method_1_code (2 : Nat) (Option.none : Option Jvm.ClassFile.FieldType)).before args0 about1 = true := code_word (m := ⟨17, 0⟩) (meth := k17m0) (c := k17c0) (by decide +kernel) rfl rfl rfl (by decide +kernel)
set_option maxRecDepth 65536 in
theorem w_c28 : (Jvm.Cond.code ({ cls := "java/util/ImmutableCollections$AbstractImmutableList", name := "<init>", desc := "()V" } : Jvm.MethodName) jdk_46_method_1_code (1 : Nat) (Option.none : Option Jvm.ClassFile.FieldType)).before args0 about1 = true := code_word (m := ⟨16, 0⟩) (meth := k16m0) (c := k16c0) (by decide +kernel) rfl rfl rfl (by decide +kernel)
set_option maxRecDepth 65536 in
theorem w_c29 : (Jvm.Cond.code ({ cls := "java/util/ImmutableCollections$AbstractImmutableCollection", name := "<init>", desc := "()V" } : Jvm.MethodName) jdk_47_method_1_code (1 : Nat) (Option.none : Option Jvm.ClassFile.FieldType)).before args0 about1 = true := code_word (m := ⟨15, 0⟩) (meth := k15m0) (c := k15c0) (by decide +kernel) rfl rfl rfl (by decide +kernel)
set_option maxRecDepth 65536 in
theorem w_c30 : (Jvm.Cond.code ({ cls := "java/util/Objects", name := "requireNonNull", desc := "(Ljava/lang/Object;)Ljava/lang/Object;" } : Jvm.MethodName) jdk_31_method_10_code (1 : Nat) (Option.some (Jvm.ClassFile.FieldType.object "java/lang/Object"))).before args0 about1 = true := code_word (m := ⟨23, 1⟩) (meth := k23m1) (c := k23c1) (by decide +kernel) rfl rfl rfl (by decide +kernel)
set_option maxRecDepth 65536 in
theorem w_c31 : (Jvm.Cond.code ({ cls := "java/util/ImmutableCollections$List12", name := "isEmpty", desc := "()Z" } : Jvm.MethodName) jdk_44_method_4_code (1 : Nat) (Option.some Jvm.ClassFile.FieldType.boolean)).before args0 about1 = true := code_word (m := ⟨17, 3⟩) (meth := k17m3) (c := k17c3) (by decide +kernel) rfl rfl rfl (by decide +kernel)
set_option maxRecDepth 65536 in
theorem w_c32 : (Jvm.Cond.code ({ cls := "java/util/ImmutableCollections", name := "listFromArray", desc := "([Ljava/lang/Object;)Ljava/util/List;" } : Jvm.MethodName) jdk_56_method_4_code (3 : Nat) (Option.some (Jvm.ClassFile.FieldType.object "java/util/List"))).before args0 about1 = true := code_word (m := ⟨14, 2⟩) (meth := k14m2) (c := k14c2) (by decide +kernel) rfl rfl rfl (by decide +kernel)
set_option maxRecDepth 65536 in
theorem w_c33 : (Jvm.Cond.code ({ cls := "java/util/ImmutableCollections$ListN", name := "<init>", desc := "([Ljava/lang/Object;Z)V" } : Jvm.MethodName) jdk_45_method_1_code (3 : Nat) (Option.none : Option Jvm.ClassFile.FieldType)).before args0 about1 = true := code_word (m := ⟨18, 0⟩) (meth := k18m0) (c := k18c0) (by decide +kernel) rfl rfl rfl (by decide +kernel)
set_option maxRecDepth 65536 in
theorem w_c34 : (Jvm.Cond.code ({ cls := "java/util/ImmutableCollections$ListN", name := "size", desc := "()I" } : Jvm.MethodName) jdk_45_method_3_code (1 : Nat) (Option.some Jvm.ClassFile.FieldType.int)).before args0 about1 = true := code_word (m := ⟨18, 2⟩) (meth := k18m2) (c := k18c2) (by decide +kernel) rfl rfl rfl (by decide +kernel)
set_option maxRecDepth 65536 in
theorem w_c35 : (Jvm.Cond.code ({ cls := "java/util/ImmutableCollections$ListN", name := "get", desc := "(I)Ljava/lang/Object;" } : Jvm.MethodName) jdk_45_method_4_code (2 : Nat) (Option.some (Jvm.ClassFile.FieldType.object "java/lang/Object"))).before args0 about1 = true := code_word (m := ⟨18, 3⟩) (meth := k18m3) (c := k18c3) (by decide +kernel) rfl rfl rfl (by decide +kernel)
set_option maxRecDepth 65536 in
theorem w_c36 : (Jvm.Cond.code ({ cls := "java/util/ImmutableCollections$List12", name := "<init>", desc := "(Ljava/lang/Object;Ljava/lang/Object;)V" } : Jvm.MethodName) jdk_44_method_2_code (3 : Nat) (Option.none : Option Jvm.ClassFile.FieldType)).before args0 about1 = true := code_word (m := ⟨17, 1⟩) (meth := k17m1) (c := k17c1) (by decide +kernel) rfl rfl rfl (by decide +kernel)
def codes1 : List Jvm.Cond := [Jvm.Cond.code x code maxLocals ret, Jvm.Cond.code ({ cls := "java/util/ArrayList", name := "<init>", desc := "()V" } : Jvm.MethodName) jdk_38_method_2_code (1 : Nat) (Option.none : Option Jvm.ClassFile.FieldType), Jvm.Cond.code ({ cls := "java/util/AbstractList", name := "<init>", desc := "()V" } : Jvm.MethodName) jdk_39_method_1_code (1 : Nat) (Option.none : Option Jvm.ClassFile.FieldType), Jvm.Cond.code ({ cls := "java/util/AbstractCollection", name := "<init>", desc := "()V" } : Jvm.MethodName) jdk_22_method_1_code (1 : Nat) (Option.none : Option Jvm.ClassFile.FieldType), Jvm.Cond.code ({ cls := "java/lang/Object", name := "<init>", desc := "()V" } : Jvm.MethodName) object_method_1_code (1 : Nat) (Option.none : Option Jvm.ClassFile.FieldType), Jvm.Cond.code ({ cls := "com/example/grantfold/grantfold/model/Setting", name := "<init>", desc := "(ZILjava/util/List;)V" } : Jvm.MethodName) prog_25_method_1_code (4 : Nat) (Option.none : Option Jvm.ClassFile.FieldType), Jvm.Cond.code ({ cls := "java/lang/Record", name := "<init>", desc := "()V" } : Jvm.MethodName) jdk_30_method_1_code (1 : Nat) (Option.none : Option Jvm.ClassFile.FieldType), Jvm.Cond.code ({ cls := "java/util/List", name := "copyOf", desc := "(Ljava/util/Collection;)Ljava/util/List;" } : Jvm.MethodName) jdk_40_method_48_code (1 : Nat) (Option.some (Jvm.ClassFile.FieldType.object "java/util/List")), Jvm.Cond.code ({ cls := "java/util/ImmutableCollections", name := "listCopy", desc := "(Ljava/util/Collection;)Ljava/util/List;" } : Jvm.MethodName) jdk_56_method_3_code (2 : Nat) (Option.some (Jvm.ClassFile.FieldType.object "java/util/List")), Jvm.Cond.code ({ cls := "java/util/ArrayList", name := "isEmpty", desc := "()Z" } : Jvm.MethodName) jdk_38_method_9_code (1 : Nat) (Option.some Jvm.ClassFile.FieldType.boolean), Jvm.Cond.code ({ cls := "java/util/List", name := "of", desc := "()Ljava/util/List;" } : Jvm.MethodName) jdk_40_method_36_code (0 : Nat) (Option.some (Jvm.ClassFile.FieldType.object "java/util/List")), Jvm.Cond.code ({ cls := "java/util/ArrayList", name := "add", desc := "(Ljava/lang/Object;)Z" } : Jvm.MethodName) jdk_38_method_25_code (2 : Nat) (Option.some Jvm.ClassFile.FieldType.boolean), Jvm.Cond.code ({ cls := "java/util/ArrayList", name := "add", desc := "(Ljava/lang/Object;[Ljava/lang/Object;I)V" } : Jvm.MethodName) jdk_38_method_24_code (4 : Nat) (Option.none : Option Jvm.ClassFile.FieldType), Jvm.Cond.code ({ cls := "java/util/ArrayList", name := "grow", desc := "()[Ljava/lang/Object;" } : Jvm.MethodName) jdk_38_method_7_code (1 : Nat) (Option.some (Jvm.ClassFile.FieldType.array (Jvm.ClassFile.FieldType.object "java/lang/Object"))), Jvm.Cond.code ({ cls := "java/util/ArrayList", name := "grow", desc := "(I)[Ljava/lang/Object;" } : Jvm.MethodName) jdk_38_method_6_code (4 : Nat) (Option.some (Jvm.ClassFile.FieldType.array (Jvm.ClassFile.FieldType.object "java/lang/Object"))), Jvm.Cond.code ({ cls := "java/lang/Math", name := "max", desc := "(II)I" } : Jvm.MethodName) jdk_29_method_65_code (2 : Nat) (Option.some Jvm.ClassFile.FieldType.int), Jvm.Cond.code ({ cls := "com/example/grantfold/grantfold/model/Setting", name := "scopes", desc := "()Ljava/util/List;" } : Jvm.MethodName) prog_25_method_2_code (1 : Nat) (Option.some (Jvm.ClassFile.FieldType.object "java/util/List")), Jvm.Cond.code ({ cls := "java/util/ImmutableCollections$ListN", name := "isEmpty", desc := "()Z" } : Jvm.MethodName) jdk_45_method_2_code (1 : Nat) (Option.some Jvm.ClassFile.FieldType.boolean), Jvm.Cond.code ({ cls := "java/util/ImmutableCollections$List12", name := "size", desc := "()I" } : Jvm.MethodName) jdk_44_method_3_code (1 : Nat) (Option.some Jvm.ClassFile.FieldType.int), Jvm.Cond.code ({ cls := "java/util/ImmutableCollections$List12", name := "get", desc := "(I)Ljava/lang/Object;" } : Jvm.MethodName) jdk_44_method_5_code (2 : Nat) (Option.some (Jvm.ClassFile.FieldType.object "java/lang/Object")), Jvm.Cond.code ({ cls := "com/example/grantfold/grantfold/model/Setting", name := "allowed", desc := "()Z" } : Jvm.MethodName) prog_25_method_7_code (1 : Nat) (Option.some Jvm.ClassFile.FieldType.boolean), Jvm.Cond.code ({ cls := "com/example/grantfold/grantfold/model/Setting", name := "line", desc := "()I" } : Jvm.MethodName) prog_25_method_8_code (1 : Nat) (Option.some Jvm.ClassFile.FieldType.int), Jvm.Cond.code ({ cls := "java/util/ArrayList", name := "toArray", desc := "()[Ljava/lang/Object;" } : Jvm.MethodName) jdk_38_method_16_code (1 : Nat) (Option.some (Jvm.ClassFile.FieldType.array (Jvm.ClassFile.FieldType.object "java/lang/Object"))), Jvm.Cond.code ({ cls := "java/util/Arrays", name := "copyOf", desc := "([Ljava/lang/Object;I)[Ljava/lang/Object;" } : Jvm.MethodName) jdk_65_method_119_code (2 : Nat) (Option.some (Jvm.ClassFile.FieldType.array (Jvm.ClassFile.FieldType.object "java/lang/Object"))), Jvm.Cond.code ({ cls := "java/util/Arrays", name := "copyOf", desc := "([Ljava/lang/Object;ILjava/lang/Class;)[Ljava/lang/Object;" } : Jvm.MethodName) jdk_65_method_120_code (4 : Nat) (Option.some (Jvm.ClassFile.FieldType.array (Jvm.ClassFile.FieldType.object "java/lang/Object"))), Jvm.Cond.code ({ cls := "java/lang/Math", name := "min", desc := "(II)I" } : Jvm.MethodName) jdk_29_method_69_code (2 : Nat) (Option.some Jvm.ClassFile.FieldType.int), Jvm.Cond.code ({ cls := "java/util/List", name := "of", desc := "([Ljava/lang/Object;)Ljava/util/List;" } : Jvm.MethodName) jdk_40_method_47_code (2 : Nat) (Option.some (Jvm.ClassFile.FieldType.object "java/util/List")), Jvm.Cond.code ({ cls := "java/util/ImmutableCollections$List12", name := "<init>", desc := "(Ljava/lang/Object;)V" } : Jvm.MethodName) jdk_44_method_1_code (2 : Nat) (Option.none : Option Jvm.ClassFile.FieldType), Jvm.Cond.code ({ cls := "java/util/ImmutableCollections$AbstractImmutableList", name := "<init>", desc := "()V" } : Jvm.MethodName) jdk_46_method_1_code (1 : Nat) (Option.none : Option Jvm.ClassFile.FieldType), Jvm.Cond.code ({ cls := "java/util/ImmutableCollections$AbstractImmutableCollection", name := "<init>", desc := "()V" } : Jvm.MethodName) jdk_47_method_1_code (1 : Nat) (Option.none : Option Jvm.ClassFile.FieldType), Jvm.Cond.code ({ cls := "java/util/Objects", name := "requireNonNull", desc := "(Ljava/lang/Object;)Ljava/lang/Object;" } : Jvm.MethodName) jdk_31_method_10_code (1 : Nat) (Option.some (Jvm.ClassFile.FieldType.object "java/lang/Object")), Jvm.Cond.code ({ cls := "java/util/ImmutableCollections$List12", name := "isEmpty", desc := "()Z" } : Jvm.MethodName) jdk_44_method_4_code (1 : Nat) (Option.some Jvm.ClassFile.FieldType.boolean), Jvm.Cond.code ({ cls := "java/util/ImmutableCollections", name := "listFromArray", desc := "([Ljava/lang/Object;)Ljava/util/List;" } : Jvm.MethodName) jdk_56_method_4_code (3 : Nat) (Option.some (Jvm.ClassFile.FieldType.object "java/util/List")), Jvm.Cond.code ({ cls := "java/util/ImmutableCollections$ListN", name := "<init>", desc := "([Ljava/lang/Object;Z)V" } : Jvm.MethodName) jdk_45_method_1_code (3 : Nat) (Option.none : Option Jvm.ClassFile.FieldType), Jvm.Cond.code ({ cls := "java/util/ImmutableCollections$ListN", name := "size", desc := "()I" } : Jvm.MethodName) jdk_45_method_3_code (1 : Nat) (Option.some Jvm.ClassFile.FieldType.int), Jvm.Cond.code ({ cls := "java/util/ImmutableCollections$ListN", name := "get", desc := "(I)Ljava/lang/Object;" } : Jvm.MethodName) jdk_45_method_4_code (2 : Nat) (Option.some (Jvm.ClassFile.FieldType.object "java/lang/Object")), Jvm.Cond.code ({ cls := "java/util/ImmutableCollections$List12", name := "<init>", desc := "(Ljava/lang/Object;Ljava/lang/Object;)V" } : Jvm.MethodName) jdk_44_method_2_code (3 : Nat) (Option.none : Option Jvm.ClassFile.FieldType)]
set_option maxRecDepth 65536 in
theorem codes_eq : words1.filter isCode = codes1 := rfl
theorem w_codes : ∀ c ∈ words1.filter isCode, c.before args0 about1 = true := by
  rw [codes_eq]
  intro c hc
  simp only [codes1, List.mem_cons, List.not_mem_nil, or_false] at hc
  rcases hc with rfl | rfl | rfl | rfl | rfl | rfl | rfl | rfl | rfl | rfl | rfl | rfl | rfl | rfl | rfl | rfl | rfl | rfl | rfl | rfl | rfl | rfl | rfl | rfl | rfl | rfl | rfl | rfl | rfl | rfl | rfl | rfl | rfl | rfl | rfl | rfl | rfl
  · exact w_c0
  · exact w_c1
  · exact w_c2
  · exact w_c3
  · exact w_c4
  · exact w_c5
  · exact w_c6
  · exact w_c7
  · exact w_c8
  · exact w_c9
  · exact w_c10
  · exact w_c11
  · exact w_c12
  · exact w_c13
  · exact w_c14
  · exact w_c15
  · exact w_c16
  · exact w_c17
  · exact w_c18
  · exact w_c19
  · exact w_c20
  · exact w_c21
  · exact w_c22
  · exact w_c23
  · exact w_c24
  · exact w_c25
  · exact w_c26
  · exact w_c27
  · exact w_c28
  · exact w_c29
  · exact w_c30
  · exact w_c31
  · exact w_c32
  · exact w_c33
  · exact w_c34
  · exact w_c35
  · exact w_c36
set_option maxRecDepth 65536 in
theorem w_t1 : (words1.take 24).all (fun c => isCode c || c.before args0 about1) = true := by decide +kernel
set_option maxRecDepth 65536 in
theorem w_t2 : ((words1.drop 24).take 24).all (fun c => isCode c || c.before args0 about1) = true := by decide +kernel
set_option maxRecDepth 65536 in
theorem w_t3 : (((words1.drop 24).drop 24).take 24).all (fun c => isCode c || c.before args0 about1) = true := by decide +kernel
set_option maxRecDepth 65536 in
theorem w_t4 : ((((words1.drop 24).drop 24).drop 24).take 24).all (fun c => isCode c || c.before args0 about1) = true := by decide +kernel
set_option maxRecDepth 65536 in
theorem w_t5 : (((((words1.drop 24).drop 24).drop 24).drop 24).take 24).all (fun c => isCode c || c.before args0 about1) = true := by decide +kernel
set_option maxRecDepth 65536 in
theorem w_t6 : ((((((words1.drop 24).drop 24).drop 24).drop 24).drop 24).take 24).all (fun c => isCode c || c.before args0 about1) = true := by decide +kernel
set_option maxRecDepth 65536 in
theorem w_t7 : (((((((words1.drop 24).drop 24).drop 24).drop 24).drop 24).drop 24).take 24).all (fun c => isCode c || c.before args0 about1) = true := by decide +kernel
set_option maxRecDepth 65536 in
theorem w_t8 : ((((((((words1.drop 24).drop 24).drop 24).drop 24).drop 24).drop 24).drop 24).take 24).all (fun c => isCode c || c.before args0 about1) = true := by decide +kernel
set_option maxRecDepth 65536 in
theorem w_t9 : (((((((((words1.drop 24).drop 24).drop 24).drop 24).drop 24).drop 24).drop 24).drop 24).take 24).all (fun c => isCode c || c.before args0 about1) = true := by decide +kernel
set_option maxRecDepth 65536 in
theorem w_t10 : ((((((((((words1.drop 24).drop 24).drop 24).drop 24).drop 24).drop 24).drop 24).drop 24).drop 24).take 24).all (fun c => isCode c || c.before args0 about1) = true := by decide +kernel
set_option maxRecDepth 65536 in
theorem w_t11 : ((((((((((words1.drop 24).drop 24).drop 24).drop 24).drop 24).drop 24).drop 24).drop 24).drop 24).drop 24).all (fun c => isCode c || c.before args0 about1) = true := by decide +kernel
theorem w_tables : (allAtoms (Jvm.Cond.code x code maxLocals ret :: tables_1)).before args0 about1 = true := by
  rw [allAtoms_all]
  show words1.all (fun c => c.before args0 about1) = true
  refine all_split ?_ w_codes
  rw [← List.take_append_drop 24 words1, List.all_append, w_t1, ← List.take_append_drop 24 (words1.drop 24), List.all_append, w_t2, ← List.take_append_drop 24 ((words1.drop 24).drop 24), List.all_append, w_t3, ← List.take_append_drop 24 (((words1.drop 24).drop 24).drop 24), List.all_append, w_t4, ← List.take_append_drop 24 ((((words1.drop 24).drop 24).drop 24).drop 24), List.all_append, w_t5, ← List.take_append_drop 24 (((((words1.drop 24).drop 24).drop 24).drop 24).drop 24), List.all_append, w_t6, ← List.take_append_drop 24 ((((((words1.drop 24).drop 24).drop 24).drop 24).drop 24).drop 24), List.all_append, w_t7, ← List.take_append_drop 24 (((((((words1.drop 24).drop 24).drop 24).drop 24).drop 24).drop 24).drop 24), List.all_append, w_t8, ← List.take_append_drop 24 ((((((((words1.drop 24).drop 24).drop 24).drop 24).drop 24).drop 24).drop 24).drop 24), List.all_append, w_t9, ← List.take_append_drop 24 (((((((((words1.drop 24).drop 24).drop 24).drop 24).drop 24).drop 24).drop 24).drop 24).drop 24), List.all_append, w_t10, w_t11]
  rfl
set_option maxRecDepth 65536 in
theorem w_rest : rest_1_c.before args0 about1 = true := by decide +kernel
set_option maxRecDepth 65536 in
theorem w_case : (Jvm.Cond.and given_1 narrow_1).before args0 about1 = true := by decide +kernel
theorem w_applies : (headSpec (Jvm.Cond.code x code maxLocals ret :: tables_1) room_1).applies x e0.platform about1 = true :=
  (Spec.applies_iff w_frames).mpr ⟨w_running, w_runnable, w_alone, w_named, w_hears, w_ripe, w_room, w_tables⟩
theorem atStart : AtStart classFile x code maxLocals ret World_1 tables_1 room_1 Calls_1 rest_1 Pre_1 launch0 p0 e0 about1 theMethod args0 below0 :=
  ⟨lists_1, trivial, launch0.admits_env _ _ _, launch0.least_env, fairChoices_fair.cas, fairChoices_fair.clock, w_frames, w_args, w_heap, w_applies, ⟨⟨27, k27, 4, by decide +kernel, rfl, rfl, _, rfl, rfl⟩, trivial⟩, w_rest, w_case⟩
end start1
theorem witness_1 : WitnessClaimed_1 := ⟨start1.p0, start1.e0, start1.about1, start1.theMethod, start1.args0, start1.below0, start1.atStart⟩
end Jvm.Pilot.@@N@@
