import JvmDerived
import JvmDerived.Pilot.@@N@@Statement
import JvmDerived.Pilot.@@N@@Code
set_option linter.unusedVariables false
set_option linter.unusedSimpArgs false
namespace Jvm.RoadKit
open Sem ClassFile Op Lib Jvm.Stand Jvm.Free Jvm.LawKit
section Own
variable {p : Program} {l : Launch} {e : Env} {R : Room} {s : State} {m : MethodId} {args : Array Value} {below : List Frame} {meth : Method} {c : Code} {T : State} {locs : List Loc} {cells slots : Nat}
def own_Go (p : Program) (e : Env) (below : List Frame) (F : Outcome → State → Prop) (U : State) : Prop := ∃ s₂ o, Steps p.tables e below U s₂ ∧ s₂.status = .running ∧ Ended s₂ below o ∧ F o s₂
def own_Fin (s : State) (C S : Nat) (Q : Option Value → Heap → List Loc → Prop) (o : Outcome) (U' : State) : Prop := ∃ v L, o = .returned v ∧ Q v U'.heap L ∧ FrameEnd s o U' L C S
theorem own_go {F : Outcome → State → Prop} {U U' : State} (h : ∀ t, Steps p.tables e below U' t → Steps p.tables e below U t) (g : own_Go p e below F U') : own_Go p e below F U := by
  obtain ⟨s₂, o, h1, h2⟩ := g
  exact ⟨s₂, o, h _ h1, h2⟩
theorem own_cast {F : Outcome → State → Prop} {g g' : JFrame} (q : g = g') (k : own_Go p e below F (T.setTop g')) : own_Go p e below F (T.setTop g) := q ▸ k
theorem own_ret (X : Stand p l e R s m args below meth c T locs cells slots) (hx : p.tables.exec = Jvm.exec) (hlk : meth.locks = false) {pc : Nat} {Ls : Array Slot} {w : Value} {t : FieldType} {i : Instr} {rest : List Value} (hret : meth.sig.returnType = some t) (hn : narrow t w = w)
    (hi : (i = .ireturn ∧ (t = .int ∨ t = .boolean ∨ t = .byte ∨ t = .char ∨ t = .short) ∧ ∃ z, w = .int z) ∨ (i = .lreturn ∧ t = .long ∧ ∃ z, w = .long z) ∨ (i = .dreturn ∧ t = .double ∧ ∃ z, w = .double z) ∨ (i = .freturn ∧ t = .float ∧ ∃ z, w = .float z) ∨ (i = .areturn ∧ t.isReference = true ∧ w.isRef = true))
    (hd : decode c.code pc = .ok (i, 1)) {Q : Option Value → Heap → List Loc → Prop} (hQ : Q (some w) T.heap locs) {C S : Nat} (hc : cells ≤ C) (hs : slots ≤ S) : own_Go p e below (own_Fin s C S Q) (T.setTop (mkF m pc Ls (w :: rest))) := by
  obtain ⟨fs, hr, hrun, hended, hW, hsame⟩ := X.leave (v := some w) (fun h => by rw [hret] at h; cases h) hlk
  exact ⟨_, _, retOut X hx hret hn hi hd hr, hrun, hended, _, _, rfl, hQ, ⟨_, rfl⟩, hW, hsame.mono hc hs⟩
theorem own_retN (X : Stand p l e R s m args below meth c T locs cells slots) (hx : p.tables.exec = Jvm.exec) (hlk : meth.locks = false) {pc : Nat} {Ls : Array Slot} {z : Int32} {t : FieldType} {rest : List Value} (hret : meth.sig.returnType = some t) (ht : t = .boolean ∨ t = .byte ∨ t = .char ∨ t = .short)
    (hd : decode c.code pc = .ok (.ireturn, 1)) {Q : Option Value → Heap → List Loc → Prop} (hQ : Q (some (.int (nar t z))) T.heap locs) {C S : Nat} (hc : cells ≤ C) (hs : slots ≤ S) : own_Go p e below (own_Fin s C S Q) (T.setTop (mkF m pc Ls (.int z :: rest))) := by
  obtain ⟨fs, hr, hrun, hended, hW, hsame⟩ := X.leave (v := some (.int (nar t z))) (fun h => by rw [hret] at h; cases h) hlk
  exact ⟨_, _, retN X hx hret ht hd hr, hrun, hended, _, _, rfl, hQ, ⟨_, rfl⟩, hW, hsame.mono hc hs⟩
theorem own_retV (X : Stand p l e R s m args below meth c T locs cells slots) (hx : p.tables.exec = Jvm.exec) (hlk : meth.locks = false) {pc : Nat} {Ls : Array Slot} (hret : meth.sig.returnType = none)
    (hd : decode c.code pc = .ok (.return_, 1)) {Q : Option Value → Heap → List Loc → Prop} (hQ : Q none T.heap locs) {C S : Nat} (hc : cells ≤ C) (hs : slots ≤ S) : own_Go p e below (own_Fin s C S Q) (T.setTop (mkF m pc Ls [])) := by
  obtain ⟨fs, hr, hrun, hended, hW, hsame⟩ := X.leave (v := none) (fun _ => rfl) hlk
  exact ⟨_, _, X.returnOut hx hret hd hr, hrun, hended, _, _, rfl, hQ, ⟨_, rfl⟩, hW, hsame.mono hc hs⟩
def own_FinW (s : State) (C S : Nat) (Q : Option Value → Heap → List Loc → Prop) (o : Outcome) (U' : State) : Prop := ∃ v L, o = .returned v ∧ Q v U'.heap L ∧ ReturnedEndW s o U' L C S
theorem own_monoW {t : State} {o : Outcome} {L : List Loc} {k n C S : Nat} (h : ReturnedEndW s o t L k n) (hc : k ≤ C) (hs : n ≤ S) : ReturnedEndW s o t L C S := ⟨h.1, h.2.1, h.2.2.1, h.2.2.2.mono hc hs⟩
theorem own_retW {vm₁ : Vm} (X : Stand p l e R (s.setVm vm₁) m args below meth c T locs cells slots) (hx : p.tables.exec = Jvm.exec) {n : Nat} (hS : s.Since vm₁ n) (hk : n ≤ T.heap.size) (hlk : meth.locks = false) {pc : Nat} {Ls : Array Slot} {w : Value} {t : FieldType} {i : Instr} {rest : List Value} (hret : meth.sig.returnType = some t) (hn : narrow t w = w)
    (hi : (i = .ireturn ∧ (t = .int ∨ t = .boolean ∨ t = .byte ∨ t = .char ∨ t = .short) ∧ ∃ z, w = .int z) ∨ (i = .lreturn ∧ t = .long ∧ ∃ z, w = .long z) ∨ (i = .dreturn ∧ t = .double ∧ ∃ z, w = .double z) ∨ (i = .freturn ∧ t = .float ∧ ∃ z, w = .float z) ∨ (i = .areturn ∧ t.isReference = true ∧ w.isRef = true))
    (hd : decode c.code pc = .ok (i, 1)) {Q : Option Value → Heap → List Loc → Prop} (hQ : Q (some w) T.heap locs) {C S : Nat} (hc : cells ≤ C) (hs : slots ≤ S) : own_Go p e below (own_FinW s C S Q) (T.setTop (mkF m pc Ls (w :: rest))) := by
  obtain ⟨fs, hr, hrun, hended, hW⟩ := X.leaveW hS hk (v := some w) (fun h => by rw [hret] at h; cases h) hlk
  exact ⟨_, _, retOut X hx hret hn hi hd hr, hrun, hended, _, _, rfl, hQ, own_monoW hW hc hs⟩
theorem own_retNW {vm₁ : Vm} (X : Stand p l e R (s.setVm vm₁) m args below meth c T locs cells slots) (hx : p.tables.exec = Jvm.exec) {n : Nat} (hS : s.Since vm₁ n) (hk : n ≤ T.heap.size) (hlk : meth.locks = false) {pc : Nat} {Ls : Array Slot} {z : Int32} {t : FieldType} {rest : List Value} (hret : meth.sig.returnType = some t) (ht : t = .boolean ∨ t = .byte ∨ t = .char ∨ t = .short)
    (hd : decode c.code pc = .ok (.ireturn, 1)) {Q : Option Value → Heap → List Loc → Prop} (hQ : Q (some (.int (nar t z))) T.heap locs) {C S : Nat} (hc : cells ≤ C) (hs : slots ≤ S) : own_Go p e below (own_FinW s C S Q) (T.setTop (mkF m pc Ls (.int z :: rest))) := by
  obtain ⟨fs, hr, hrun, hended, hW⟩ := X.leaveW hS hk (v := some (.int (nar t z))) (fun h => by rw [hret] at h; cases h) hlk
  exact ⟨_, _, retN X hx hret ht hd hr, hrun, hended, _, _, rfl, hQ, own_monoW hW hc hs⟩
theorem own_retVW {vm₁ : Vm} (X : Stand p l e R (s.setVm vm₁) m args below meth c T locs cells slots) (hx : p.tables.exec = Jvm.exec) {n : Nat} (hS : s.Since vm₁ n) (hk : n ≤ T.heap.size) (hlk : meth.locks = false) {pc : Nat} {Ls : Array Slot} (hret : meth.sig.returnType = none)
    (hd : decode c.code pc = .ok (.return_, 1)) {Q : Option Value → Heap → List Loc → Prop} (hQ : Q none T.heap locs) {C S : Nat} (hc : cells ≤ C) (hs : slots ≤ S) : own_Go p e below (own_FinW s C S Q) (T.setTop (mkF m pc Ls [])) := by
  obtain ⟨fs, hr, hrun, hended, hW⟩ := X.leaveW hS hk (v := none) (fun _ => rfl) hlk
  exact ⟨_, _, X.returnOut hx hret hd hr, hrun, hended, _, _, rfl, hQ, own_monoW hW hc hs⟩
def own_FinH (Z : State) (EL : List (String × Nat)) (s : State) (C S : Nat) (Q : Option Value → Heap → List Loc → Prop) (o : Outcome) (U' : State) : Prop := ∃ v L, o = .returned v ∧ Q v U'.heap L ∧ CHr Z EL s.vm s.heap U'.vm U'.heap ∧ ReturnedEndW s o U' L C S
theorem own_retH {Z : State} {EL : List (String × Nat)} {vm₁ : Vm} (X : Stand p l e R (s.setVm vm₁) m args below meth c T locs cells slots) (hx : p.tables.exec = Jvm.exec) {n : Nat} (hS : s.Since vm₁ n) (hk : n ≤ T.heap.size) (hC : CHr Z EL s.vm s.heap T.vm T.heap) (hlk : meth.locks = false) {pc : Nat} {Ls : Array Slot} {w : Value} {t : FieldType} {i : Instr} {rest : List Value} (hret : meth.sig.returnType = some t) (hn : narrow t w = w)
    (hi : (i = .ireturn ∧ (t = .int ∨ t = .boolean ∨ t = .byte ∨ t = .char ∨ t = .short) ∧ ∃ z, w = .int z) ∨ (i = .lreturn ∧ t = .long ∧ ∃ z, w = .long z) ∨ (i = .dreturn ∧ t = .double ∧ ∃ z, w = .double z) ∨ (i = .freturn ∧ t = .float ∧ ∃ z, w = .float z) ∨ (i = .areturn ∧ t.isReference = true ∧ w.isRef = true))
    (hd : decode c.code pc = .ok (i, 1)) {Q : Option Value → Heap → List Loc → Prop} (hQ : Q (some w) T.heap locs) {C S : Nat} (hc : cells ≤ C) (hs : slots ≤ S) : own_Go p e below (own_FinH Z EL s C S Q) (T.setTop (mkF m pc Ls (w :: rest))) := by
  obtain ⟨fs, hr, hrun, hended, hW⟩ := X.leaveW hS hk (v := some w) (fun h => by rw [hret] at h; cases h) hlk
  exact ⟨_, _, retOut X hx hret hn hi hd hr, hrun, hended, _, _, rfl, hQ, hC, own_monoW hW hc hs⟩
theorem own_retNH {Z : State} {EL : List (String × Nat)} {vm₁ : Vm} (X : Stand p l e R (s.setVm vm₁) m args below meth c T locs cells slots) (hx : p.tables.exec = Jvm.exec) {n : Nat} (hS : s.Since vm₁ n) (hk : n ≤ T.heap.size) (hC : CHr Z EL s.vm s.heap T.vm T.heap) (hlk : meth.locks = false) {pc : Nat} {Ls : Array Slot} {z : Int32} {t : FieldType} {rest : List Value} (hret : meth.sig.returnType = some t) (ht : t = .boolean ∨ t = .byte ∨ t = .char ∨ t = .short)
    (hd : decode c.code pc = .ok (.ireturn, 1)) {Q : Option Value → Heap → List Loc → Prop} (hQ : Q (some (.int (nar t z))) T.heap locs) {C S : Nat} (hc : cells ≤ C) (hs : slots ≤ S) : own_Go p e below (own_FinH Z EL s C S Q) (T.setTop (mkF m pc Ls (.int z :: rest))) := by
  obtain ⟨fs, hr, hrun, hended, hW⟩ := X.leaveW hS hk (v := some (.int (nar t z))) (fun h => by rw [hret] at h; cases h) hlk
  exact ⟨_, _, retN X hx hret ht hd hr, hrun, hended, _, _, rfl, hQ, hC, own_monoW hW hc hs⟩
theorem own_retVH {Z : State} {EL : List (String × Nat)} {vm₁ : Vm} (X : Stand p l e R (s.setVm vm₁) m args below meth c T locs cells slots) (hx : p.tables.exec = Jvm.exec) {n : Nat} (hS : s.Since vm₁ n) (hk : n ≤ T.heap.size) (hC : CHr Z EL s.vm s.heap T.vm T.heap) (hlk : meth.locks = false) {pc : Nat} {Ls : Array Slot} (hret : meth.sig.returnType = none)
    (hd : decode c.code pc = .ok (.return_, 1)) {Q : Option Value → Heap → List Loc → Prop} (hQ : Q none T.heap locs) {C S : Nat} (hc : cells ≤ C) (hs : slots ≤ S) : own_Go p e below (own_FinH Z EL s C S Q) (T.setTop (mkF m pc Ls [])) := by
  obtain ⟨fs, hr, hrun, hended, hW⟩ := X.leaveW hS hk (v := none) (fun _ => rfl) hlk
  exact ⟨_, _, X.returnOut hx hret hd hr, hrun, hended, _, _, rfl, hQ, hC, own_monoW hW hc hs⟩
theorem own_safe_null {Z : State} {EL : List (String × Nat)} {vm : Vm} {h : Heap} {x : Addr} (hal : Z.vm.Alike vm) (E : Exa Z h x "java/lang/String") (F : Fld Z h x "java/lang/String" "value" "[B" .null) : Safe Z EL vm h x := fun B => by
  obtain ⟨p, -, u, a, -, q, -, G, rfl | rfl⟩ := B
  · obtain ⟨cell, cf, k, i, f, f1, f2, -, -, -, -, f7⟩ := F
    cases (show h[q.sa]? = some q.sC from G.ha).symm.trans f1
    obtain ⟨cS, ⟨⟨-, -, -, ⟨cv, kv, iv, s4, -⟩, -, -, -, s8, -⟩, -⟩, -⟩ := G
    obtain ⟨k', hi, -⟩ := State.fieldFound?_setVm (s := Z) hal f2
    have s4' : (Z.setVm vm).fieldFound? "java/lang/String" "value" "[B" = some (cv, kv, iv, q.fSV) := s4
    cases hi.symm.trans s4'
    rw [f7] at s8
    cases s8
  · obtain ⟨cell, k, e1, e2, e3, -, -⟩ := E
    cases (show h[q.sd]? = some q.SA from G.hd).symm.trans e1
    obtain ⟨cS, -, -, f, -⟩ := G
    have f' : vm.findClass "[B" = some q.SA.cls := f
    rw [hal.findClass] at f'
    obtain ⟨k1, q1, q2⟩ := Vm.findClass_spec f'
    obtain ⟨k2, q3, q4⟩ := Vm.findClass_spec e2
    cases q1.symm.trans q3
    exact absurd (q2.symm.trans q4) (by decide)
def own_Met (l : Launch) (Z : State) (y : MethodName) (bytes : ByteArray) (maxL : Nat) (ret : Option FieldType) (ws : List Jvm.Cond) (rm : Room) (as : Array Value) (h0 : Heap) (Q : Option Value → Heap → List Loc → Prop) : Prop :=
  MetFree l y (head1 (Jvm.Cond.code y bytes maxL ret :: ws) rm) (fun a U => a = as ∧ Z.Warmed39 U.vm ∧ U.heap = h0) (fun _ _ _ _ _ => True) (fun _ U o U' => ∃ v L, o = .returned v ∧ Q v U'.heap L ∧ FrameEnd U o U' L rm.cells rm.slots)
def own_MetW (l : Launch) (Z : State) (y : MethodName) (bytes : ByteArray) (maxL : Nat) (ret : Option FieldType) (ws : List Jvm.Cond) (rm : Room) (as : Array Value) (h0 : Heap) (Q : Option Value → Heap → List Loc → Prop) : Prop :=
  MetFree l y (head1 (Jvm.Cond.code y bytes maxL ret :: ws) rm) (fun a U => a = as ∧ Z.Warmed39 U.vm ∧ U.heap = h0) (fun _ _ _ _ _ => True) (fun _ U o U' => ∃ v L, o = .returned v ∧ Q v U'.heap L ∧ ReturnedEndW U o U' L rm.cells rm.slots)
def own_MetH (l : Launch) (Z : State) (EL : List (String × Nat)) (y : MethodName) (bytes : ByteArray) (maxL : Nat) (ret : Option FieldType) (ws : List Jvm.Cond) (rm : Room) (as : Array Value) (h0 : Heap) (Q : Option Value → Heap → List Loc → Prop) : Prop :=
  MetFree l y (head1 (Jvm.Cond.code y bytes maxL ret :: ws) rm) (fun a U => a = as ∧ Z.Warmed39 U.vm ∧ U.heap = h0 ∧ CHv Z EL U.vm h0) (fun _ _ _ _ _ => True) (fun _ U o U' => ∃ v L, o = .returned v ∧ Q v U'.heap L ∧ CHr Z EL U.vm U.heap U'.vm U'.heap ∧ ReturnedEndW U o U' L rm.cells rm.slots)
theorem own_enter {Z : State} {y : MethodName} {bytes : ByteArray} {maxL : Nat} {ret : Option FieldType} {ws : List Jvm.Cond} {rm : Room} {as : Array Value} {h0 : Heap} {Q : Option Value → Heap → List Loc → Prop} {own : String} (hpl : plainFor y = true) (ho : y.cls = own)
    (H : ∀ (p : Program) (e : Env) (s : State) (m : MethodId) (below : List Frame) (meth : Method) (c : Code) (s₁ : State), meth.locks = false → meth.sig.returnType = ret → p.tables.exec = Jvm.exec → c.code = bytes → c.maxLocals = maxL → s.vm.findClass own = some m.cls → meth.name = y.name → Z.Warmed39 s.vm → Stand p l e rm s m as below meth c s₁ [] 0 0 → s₁.heap = h0 → own_Go p e below (own_Fin s rm.cells rm.slots Q) (s₁.setTop (entryFrame m as maxL))) :
    own_Met l Z y bytes maxL ret ws rm as h0 Q := by
  refine MetFree.of_bodySF hpl hisR ?_
  intro p e s m args below meth c s₁ Bd hml0 hP hK
  obtain ⟨rfl, hZ, hh⟩ := hP
  subst ho
  exact H p e s m below meth c s₁ Bd.notSynchronized Bd.returns Bd.exec Bd.bytes hml0 (findClass_of_methodNamed Bd.named) (name_of_methodNamed Bd.named Bd.method).1 hZ (Stand.of_body Bd) (by rw [← hh, Bd.state]; rfl)
theorem own_enterW {Z : State} {y : MethodName} {bytes : ByteArray} {maxL : Nat} {ret : Option FieldType} {ws : List Jvm.Cond} {rm : Room} {as : Array Value} {h0 : Heap} {Q : Option Value → Heap → List Loc → Prop} {own : String} (hpl : plainFor y = true) (ho : y.cls = own)
    (H : ∀ (p : Program) (e : Env) (s : State) (m : MethodId) (below : List Frame) (meth : Method) (c : Code) (s₁ : State), meth.locks = false → meth.sig.returnType = ret → p.tables.exec = Jvm.exec → c.code = bytes → c.maxLocals = maxL → s.vm.findClass own = some m.cls → meth.name = y.name → Z.Warmed39 s.vm → Stand p l e rm (s.setVm s.vm) m as below meth c s₁ [] 0 0 → s₁.heap = h0 → own_Go p e below (own_FinW s rm.cells rm.slots Q) (s₁.setTop (entryFrame m as maxL))) :
    own_MetW l Z y bytes maxL ret ws rm as h0 Q := by
  refine MetFree.of_bodySF hpl hisR ?_
  intro p e s m args below meth c s₁ Bd hml0 hP hK
  obtain ⟨rfl, hZ, hh⟩ := hP
  subst ho
  exact H p e s m below meth c s₁ Bd.notSynchronized Bd.returns Bd.exec Bd.bytes hml0 (findClass_of_methodNamed Bd.named) (name_of_methodNamed Bd.named Bd.method).1 hZ (Stand.of_body Bd) (by rw [← hh, Bd.state]; rfl)
theorem own_enterH {Z : State} {EL : List (String × Nat)} {y : MethodName} {bytes : ByteArray} {maxL : Nat} {ret : Option FieldType} {ws : List Jvm.Cond} {rm : Room} {as : Array Value} {h0 : Heap} {Q : Option Value → Heap → List Loc → Prop} {own : String} (hpl : plainFor y = true) (ho : y.cls = own)
    (H : ∀ (p : Program) (e : Env) (s : State) (m : MethodId) (below : List Frame) (meth : Method) (c : Code) (s₁ : State), meth.locks = false → meth.sig.returnType = ret → p.tables.exec = Jvm.exec → c.code = bytes → c.maxLocals = maxL → s.vm.findClass own = some m.cls → meth.name = y.name → Z.Warmed39 s.vm → s.heap = h0 → CHv Z EL s.vm h0 → Stand p l e rm (s.setVm s.vm) m as below meth c s₁ [] 0 0 → s₁.heap = h0 → own_Go p e below (own_FinH Z EL s rm.cells rm.slots Q) (s₁.setTop (entryFrame m as maxL))) :
    own_MetH l Z EL y bytes maxL ret ws rm as h0 Q := by
  refine MetFree.of_bodySF hpl hisR ?_
  intro p e s m args below meth c s₁ Bd hml0 hP hK
  obtain ⟨rfl, hZ, hh, hH⟩ := hP
  subst ho
  exact H p e s m below meth c s₁ Bd.notSynchronized Bd.returns Bd.exec Bd.bytes hml0 (findClass_of_methodNamed Bd.named) (name_of_methodNamed Bd.named Bd.method).1 hZ hh hH (Stand.of_body Bd) (by rw [← hh, Bd.state]; rfl)
end Own
end Jvm.RoadKit
namespace Jvm.Pilot.@@N@@
open Jvm Jvm.ClassFile Sem Op Lib Jvm.Free Jvm.Stand Jvm.LawKit Jvm.RoadKit Bundle Jvm.Pilot.@@N@@.Jvm.D
section Own
variable {t u : Term} {C n d : String} {a b : Addr} {z j : Int32} {args : Array Value} {s : State} {cl : Cell} {ty : FieldType}
theorem own_cmp_int (h : (Jvm.Cond.eq t (Term.int z)).value args s none s [] = some true) : t.eval args s none [] s = some (.int z) := by
  have e2 : (Term.int z).eval args s none [] s = some (.int z) := Term.int_eval z
  obtain ⟨u, w, f1, f2, k1, k2⟩ := cmp_v (Or.inl h)
  cases f2.symm.trans e2
  obtain ⟨q, rfl⟩ : ∃ q, u = .int q := k2
  have : (Jvm.Cond.eq t (Term.int z)).value args s none s [] = some (decide (q = z)) := by simp [Cond.value, f1, e2]
  rw [f1, gotT this h]
theorem own_fld (ht : t.eval args s none [] s = some (.ref a)) (h : (Jvm.Cond.eq (Term.field t C n d) (Term.int z)).value args s none s [] = some true) : Fld s s.heap a C n d (.int z) :=
  Fld.start ((fld_at ht).symm.trans (own_cmp_int h))
theorem own_fldR (ht : t.eval args s none [] s = some (.ref a)) (h : (Term.field t C n d).eval args s none [] s = some (.ref b)) : Fld s s.heap a C n d (.ref b) :=
  Fld.start ((fld_at ht).symm.trans h)
theorem own_len (ht : t.eval args s none [] s = some (.ref a)) (A : Arr s s.heap a cl ty) (h : (Jvm.Cond.eq (Term.length t) (Term.int z)).value args s none s [] = some true) : cl.slots.size < 2 ^ 31 ∧ cl.slots.size.toInt32 = z := by
  have e := own_cmp_int h
  have ha : s.arrayAt? a = some cl := A.fin (Vm.Alike.refl _)
  simp only [Term.eval, ht, ha, Option.bind_eq_bind, Option.bind_some] at e
  split at e
  · rename_i q
    cases e
    exact ⟨q, rfl⟩
  · cases e
theorem own_el (ht : t.eval args s none [] s = some (.ref a)) (A : Arr s s.heap a cl ty) (h : (Jvm.Cond.eq (Term.elem t (Term.int j)) (Term.int z)).value args s none s [] = some true) : cl.slots[j.toNatClampNeg]? = some (.int z) :=
  (elem_in (own_cmp_int h) ht (Term.int_eval j) A.1).2
theorem own_elR (hu : u.eval args s none [] s = some (.ref b)) (ht : t.eval args s none [] s = some (.ref a)) (A : Arr s s.heap a cl ty) (h : (Jvm.Cond.eq (Term.elem t (Term.int j)) u).value args s none s [] = some true) : cl.slots[j.toNatClampNeg]? = some (.ref b) := by
  obtain ⟨x, w, f1, f2, k1, k2⟩ := cmp_v (Or.inl h)
  cases f2.symm.trans hu
  have hx : x.isRef = true := k2.2
  have q := gotT (eq_R f1 hu hx rfl) h
  subst q
  exact (elem_in f1 ht (Term.int_eval j) A.1).2
end Own
theorem own_b8 (c : Int32) : c.toInt8.toInt32.toInt8.toInt32 = c.toInt8.toInt32 := by simp
theorem own_mask {P : Int32 → Prop} (M : Nat) (m : Int32) (hm : m.toBitVec.toNat < M) (h : ∀ k : Fin M, P (Int32.ofNat k.val)) (x : Int32) : P (x &&& m) := by
  have h1 : (x &&& m).toBitVec.toNat < M := by
    simp only [Int32.toBitVec_and, BitVec.toNat_and]
    exact Nat.lt_of_le_of_lt Nat.and_le_right hm
  have e : (x &&& m) = Int32.ofNat (x &&& m).toBitVec.toNat := by
    apply Int32.toBitVec_inj.mp
    show _ = BitVec.ofNat 32 _
    rw [BitVec.ofNat_toNat]; simp
  rw [e]
  exact h ⟨_, h1⟩

theorem own_wS {Z : State} {a0 : Array Value} (hw : ∀ d ∈ tables_1, d.before a0 Z = true) : ∀ a ∈ Bundle.stringAtoms, a.before a0 Z = true := by
  intro a ha
  simp only [Bundle.stringAtoms, List.mem_cons, List.not_mem_nil, or_false] at ha
  rcases ha with rfl | rfl | rfl | rfl | rfl | rfl | rfl
  all_goals first | exact hw _ (List.mem_of_getElem? (i := 2) rfl) | exact hw _ (List.mem_of_getElem? (i := 1) rfl) | exact hw _ (List.mem_of_getElem? (i := 15) rfl) | exact hw _ (List.mem_of_getElem? (i := 16) rfl) | exact hw _ (List.mem_of_getElem? (i := 17) rfl) | exact hw _ (List.mem_of_getElem? (i := 18) rfl) | exact hw _ (List.mem_of_getElem? (i := 19) rfl)
theorem w_14 {Z : State} {a0 : Array Value} (hw : ∀ d ∈ tables_1, d.before a0 Z = true) : (Jvm.Cond.stringLink "java/lang/String" (7 : Nat) "").before a0 Z = true := hw _ (List.mem_of_getElem? (i := 14) rfl)
theorem own_EW {Z : State} {a0 : Array Value} (hw : ∀ d ∈ tables_1, d.before a0 Z = true) : EW Z a0 consts_1 := (EW.cons (w_14 hw) (by decide) EW.nil)
theorem own_held {tb : Tables} {e : Env} {args : Array Value} {s : State} (h : call_1_1 tb e args s) : ∀ p ∈ consts_1, Jvm.Lit.constHeld s p.1 p.2 := h
theorem own_compact {zv : Int32} {args : Array Value} {s : State} (ez : (Term.static "java/lang/String" "COMPACT_STRINGS" "Z").eval args s none [] s = some (.int zv)) (hz : ¬ zv = (0 : Int32)) : Jvm.Lit.compactW.before args s = true := by
  simp only [Jvm.Lit.compactW, Cond.before, Cond.holds, Cond.value, ez]
  simp [Term.eval, hz]
def Q_rec (Z : State) (ua : Addr) (h0 : Heap) (n0 : Nat) (v : Option Value) (h : Heap) (L : List Loc) : Prop := v = none ∧ Fr n0 L ∧ h = h0
theorem ef_rec (m : MethodId) (ua : Addr) : entryFrame m #[(.ref ua)] 1 = mkF m 0 #[.val (.ref ua)] [] := by first | (simp [entryFrame, mkF, argsToLocals, Value.category]; done) | rfl
theorem pn_0 : plainName "java/lang/Record" = true := by first | (simp [plainName, overriddenIn]; done) | decide +kernel
theorem d_j30_1_0 : decode jdk_30_method_1_code 0 = .ok (.aload_n 0, 1) := by decide +kernel
theorem w_33 {Z : State} {a0 : Array Value} (hw : ∀ d ∈ tables_1, d.before a0 Z = true) : (Jvm.Cond.methodLink "java/lang/Record" (1 : Nat) ({ cls := "java/lang/Object", name := "<init>", desc := "()V" } : Jvm.MethodName)).before a0 Z = true := hw _ (List.mem_of_getElem? (i := 33) rfl)
theorem w_13 {Z : State} {a0 : Array Value} (hw : ∀ d ∈ tables_1, d.before a0 Z = true) : (Jvm.Cond.code ({ cls := "java/lang/Object", name := "<init>", desc := "()V" } : Jvm.MethodName) object_method_1_code (1 : Nat) (Option.none : Option Jvm.ClassFile.FieldType)).before a0 Z = true := hw _ (List.mem_of_getElem? (i := 13) rfl)
theorem w_12 {Z : State} {a0 : Array Value} (hw : ∀ d ∈ tables_1, d.before a0 Z = true) : (Jvm.Cond.instanceMethod ({ cls := "java/lang/Object", name := "<init>", desc := "()V" } : Jvm.MethodName)).before a0 Z = true := hw _ (List.mem_of_getElem? (i := 12) rfl)
theorem d_j30_1_1 : decode jdk_30_method_1_code 1 = .ok (.invokespecial 1, 3) := by decide +kernel
theorem d_j30_1_4 : decode jdk_30_method_1_code 4 = .ok (.return_, 1) := by decide +kernel
set_option maxRecDepth 65536 in
set_option maxHeartbeats 40000000 in
theorem rm_rec (l : Launch) (Z : State) (a0 : Array Value) (hw : ∀ d ∈ tables_1, d.before a0 Z = true) (ws : List Jvm.Cond) (ua : Addr) (h0 : Heap) (n0 : Nat) (Z0 : n0 ≤ h0.size) :
    own_Met l Z (⟨"java/lang/Record", "<init>", "()V"⟩ : MethodName) jdk_30_method_1_code 1 none ws ({ frames := 1, cells := 0, slots := 0, locals := 12 } : Room) #[(.ref ua)] h0 (Q_rec Z ua h0 n0) := by
  refine own_enter (own := "java/lang/Record") (plainFor_of_name pn_0) rfl ?_
  intro p e s m below meth c s₁ hlk hret hx hby hml hown hnm hZ X0 e0
  have N0 := Fr.nil n0
  refine own_cast (ef_rec m ua) ?_
  show own_Go _ _ _ _ (s₁.setTop (mkF m 0 #[.val (.ref ua)] []))
  refine own_go (fun t k => XS.aloadN X0.here hx rfl (hb hby d_j30_1_0) rfl rfl k) ?_
  show own_Go _ _ _ _ (s₁.setTop (mkF m 1 #[.val (.ref ua)] [(.ref ua)]))
  obtain ⟨T101, X101, e101, st101⟩ := initO X0 hx hZ hown (w_33 hw) (w_12 hw) (w_13 hw) e0 (g := (mkF m 1 #[.val (.ref ua)] [(.ref ua)])) rfl (by rw [hml]; rfl) rfl (hb hby d_j30_1_1) (by decide) (W := 0) (by show 2 * 0 + _ ≤ _; exact Nat.le_of_eq rfl) (by decide)
  refine own_go st101 ?_
  show own_Go _ _ _ _ (T101.setTop (mkF m 4 #[.val (.ref ua)] []))
  refine own_retV X101 hx hlk hret (hb hby d_j30_1_4) ?_ (by decide) (by decide)
  rw [e101]
  exact ⟨rfl, N0, rfl⟩
def Q_vN (Z : State) (ua : Addr) (iv : Int32) (h0 : Heap) (n0 : Nat) (v : Option Value) (h : Heap) (L : List Loc) : Prop := v = none ∧ Fr n0 L ∧ Keep h0 h [ua] ∧ Fld Z h ua "com/example/lambdaloom/lambdaloom/model/Verdict" "fault" "Ljava/lang/String;" .null
theorem ef_vN (m : MethodId) (ua : Addr) (iv : Int32) : entryFrame m #[(.ref ua), .null, (.int iv)] 3 = mkF m 0 #[.val (.ref ua), .val .null, .val (.int iv)] [] := by first | (simp [entryFrame, mkF, argsToLocals, Value.category]; done) | rfl
theorem pn_1 : plainName "com/example/lambdaloom/lambdaloom/model/Verdict" = true := by first | (simp [plainName, overriddenIn]; done) | decide +kernel
theorem d_p49_1_0 : decode prog_49_method_1_code 0 = .ok (.aload_n 0, 1) := by decide +kernel
theorem w_28 {Z : State} {a0 : Array Value} (hw : ∀ d ∈ tables_1, d.before a0 Z = true) : (Jvm.Cond.methodLink "com/example/lambdaloom/lambdaloom/model/Verdict" (1 : Nat) ({ cls := "java/lang/Record", name := "<init>", desc := "()V" } : Jvm.MethodName)).before a0 Z = true := hw _ (List.mem_of_getElem? (i := 28) rfl)
theorem w_32 {Z : State} {a0 : Array Value} (hw : ∀ d ∈ tables_1, d.before a0 Z = true) : (Jvm.Cond.code ({ cls := "java/lang/Record", name := "<init>", desc := "()V" } : Jvm.MethodName) jdk_30_method_1_code (1 : Nat) (Option.none : Option Jvm.ClassFile.FieldType)).before a0 Z = true := hw _ (List.mem_of_getElem? (i := 32) rfl)
theorem w_31 {Z : State} {a0 : Array Value} (hw : ∀ d ∈ tables_1, d.before a0 Z = true) : (Jvm.Cond.initialized "java/lang/Record").before a0 Z = true := hw _ (List.mem_of_getElem? (i := 31) rfl)
theorem pd_0 : parseMethodDescriptor "()V" = some ⟨[], none⟩ := by decide +kernel
theorem d_p49_1_1 : decode prog_49_method_1_code 1 = .ok (.invokespecial 1, 3) := by decide +kernel
theorem w_29 {Z : State} {a0 : Array Value} (hw : ∀ d ∈ tables_1, d.before a0 Z = true) : (Jvm.Cond.instanceMethod ({ cls := "java/lang/Record", name := "<init>", desc := "()V" } : Jvm.MethodName)).before a0 Z = true := hw _ (List.mem_of_getElem? (i := 29) rfl)
theorem d_p49_1_4 : decode prog_49_method_1_code 4 = .ok (.aload_n 0, 1) := by decide +kernel
theorem d_p49_1_5 : decode prog_49_method_1_code 5 = .ok (.aload_n 1, 1) := by decide +kernel
theorem w_34 {Z : State} {a0 : Array Value} (hw : ∀ d ∈ tables_1, d.before a0 Z = true) : (Jvm.Cond.fieldLink "com/example/lambdaloom/lambdaloom/model/Verdict" (7 : Nat) "com/example/lambdaloom/lambdaloom/model/Verdict" "fault" "Ljava/lang/String;").before a0 Z = true := hw _ (List.mem_of_getElem? (i := 34) rfl)
theorem w_23 {Z : State} {a0 : Array Value} (hw : ∀ d ∈ tables_1, d.before a0 Z = true) : (Jvm.Cond.instantiable "com/example/lambdaloom/lambdaloom/model/Verdict" (2 : Nat)).before a0 Z = true := hw _ (List.mem_of_getElem? (i := 23) rfl)
theorem w_35 {Z : State} {a0 : Array Value} (hw : ∀ d ∈ tables_1, d.before a0 Z = true) : (Jvm.Cond.laysFinal "com/example/lambdaloom/lambdaloom/model/Verdict" "com/example/lambdaloom/lambdaloom/model/Verdict" "fault" "Ljava/lang/String;").before a0 Z = true := hw _ (List.mem_of_getElem? (i := 35) rfl)
theorem d_p49_1_6 : decode prog_49_method_1_code 6 = .ok (.putfield 7, 3) := by decide +kernel
theorem d_p49_1_9 : decode prog_49_method_1_code 9 = .ok (.aload_n 0, 1) := by decide +kernel
theorem d_p49_1_10 : decode prog_49_method_1_code 10 = .ok (.iload_n 2, 1) := by decide +kernel
theorem w_36 {Z : State} {a0 : Array Value} (hw : ∀ d ∈ tables_1, d.before a0 Z = true) : (Jvm.Cond.fieldLink "com/example/lambdaloom/lambdaloom/model/Verdict" (13 : Nat) "com/example/lambdaloom/lambdaloom/model/Verdict" "wavelengthCount" "I").before a0 Z = true := hw _ (List.mem_of_getElem? (i := 36) rfl)
theorem w_37 {Z : State} {a0 : Array Value} (hw : ∀ d ∈ tables_1, d.before a0 Z = true) : (Jvm.Cond.laysFinal "com/example/lambdaloom/lambdaloom/model/Verdict" "com/example/lambdaloom/lambdaloom/model/Verdict" "wavelengthCount" "I").before a0 Z = true := hw _ (List.mem_of_getElem? (i := 37) rfl)
theorem d_p49_1_11 : decode prog_49_method_1_code 11 = .ok (.putfield 13, 3) := by decide +kernel
theorem d_p49_1_14 : decode prog_49_method_1_code 14 = .ok (.return_, 1) := by decide +kernel
set_option maxRecDepth 65536 in
set_option maxHeartbeats 40000000 in
theorem rm_vN (l : Launch) (Z : State) (a0 : Array Value) (hw : ∀ d ∈ tables_1, d.before a0 Z = true) (ws : List Jvm.Cond) (ua : Addr) (iv : Int32) (h0 : Heap) (n0 : Nat) (Z0 : n0 ≤ h0.size) (q0 : n0 ≤ ua) (E0 : Exa Z h0 ua "com/example/lambdaloom/lambdaloom/model/Verdict") (F0 : Fld Z h0 ua "com/example/lambdaloom/lambdaloom/model/Verdict" "fault" "Ljava/lang/String;" .null) (F1 : Fld Z h0 ua "com/example/lambdaloom/lambdaloom/model/Verdict" "wavelengthCount" "I" (.int (0 : Int32))) :
    own_Met l Z (⟨"com/example/lambdaloom/lambdaloom/model/Verdict", "<init>", "(Ljava/lang/String;I)V"⟩ : MethodName) prog_49_method_1_code 3 none ws ({ frames := 2, cells := 0, slots := 0, locals := 24 } : Room) #[(.ref ua), .null, (.int iv)] h0 (Q_vN Z ua iv h0 n0) := by
  refine own_enter (own := "com/example/lambdaloom/lambdaloom/model/Verdict") (plainFor_of_name pn_1) rfl ?_
  intro p e s m below meth c s₁ hlk hret hx hby hml hown hnm hZ X0 e0
  have N0 := Fr.nil n0
  refine own_cast (ef_vN m ua iv) ?_
  show own_Go _ _ _ _ (s₁.setTop (mkF m 0 #[.val (.ref ua), .val .null, .val (.int iv)] []))
  refine own_go (fun t k => XS.aloadN X0.here hx rfl (hb hby d_p49_1_0) rfl rfl k) ?_
  show own_Go _ _ _ _ (s₁.setTop (mkF m 1 #[.val (.ref ua), .val .null, .val (.int iv)] [(.ref ua)]))
  obtain ⟨_, _, ⟨T102, L102, k102, n102⟩, -, X102, ⟨Lc102, hQ102, l102, y102, z102⟩, st102⟩ := X0.specialBack hx (y := (⟨"java/lang/Record", "<init>", "()V"⟩ : MethodName)) rfl hown (mvT hZ (w_28 hw)) (mvT hZ (w_29 hw)) (mvT hZ (w_32 hw)) (by decide) (backOf (W := 0) (rm_rec l Z a0 hw [] ua h0 n0 Z0 ) hZ (w_32 hw) (w_31 hw) (by decide) (by decide)) (g := (mkF m 1 #[.val (.ref ua), .val .null, .val (.int iv)] [(.ref ua)])) rfl (by rw [hml]; rfl) (Steps.refl _) (a := ua) (argsL := []) (rest := []) (lenOf pd_0 rfl) rfl (by show 2 * 0 + _ ≤ _; exact Nat.le_of_eq rfl) (hb hby d_p49_1_1) (fun _ _ => ⟨rfl, e0, (by decide : 0 + 0 ≤ _), (by decide : 0 + 0 ≤ _)⟩)
  dsimp only [Pt.U, Pt.locs, Pt.cells, Pt.slots] at X102 l102 y102 z102 st102 hQ102
  subst l102 y102 z102
  obtain ⟨rfl, N102q, e102⟩ := hQ102
  have N102 := Fr.app N0 N102q
  refine own_go (fun t k => st102.trans k) ?_
  show own_Go _ _ _ _ (T102.setTop (mkF m 4 #[.val (.ref ua), .val .null, .val (.int iv)] []))
  refine own_go (fun t k => XS.aloadN X102.here hx rfl (hb hby d_p49_1_4) rfl rfl k) ?_
  show own_Go _ _ _ _ (T102.setTop (mkF m 5 #[.val (.ref ua), .val .null, .val (.int iv)] [(.ref ua)]))
  refine own_go (fun t k => XS.aloadN X102.here hx rfl (hb hby d_p49_1_5) rfl rfl k) ?_
  show own_Go _ _ _ _ (T102.setTop (mkF m 6 #[.val (.ref ua), .val .null, .val (.int iv)] [.null, (.ref ua)]))
  obtain ⟨T103, h103, X103, e103, W103, st103⟩ := putF X102 hx hZ hown (host := "") (Or.inl (w_34 hw)) Via.refl e102 F0 E0 (Or.inr ⟨(w_35 hw), rfl, hnm⟩) (w_23 hw) (ty := (.object "java/lang/String")) (by decide) rfl rfl (g := (mkF m 6 #[.val (.ref ua), .val .null, .val (.int iv)] [.null, (.ref ua)])) rfl rfl (hb hby d_p49_1_6)
  refine own_go st103 ?_
  have F103 := F0.same W103
  have Z103 : n0 ≤ h103.size := (Nat.le_trans Z0 (Nat.le_of_eq W103.size.symm))
  have N103 := Fr.snoc X103 N102 q0
  have K103 : Keep h0 h103 [ua] := (Keep.refl h0 [ua]).wr W103 (Or.inl (List.mem_of_getElem? (i := 0) rfl))
  show own_Go _ _ _ _ (T103.setTop (mkF m 9 #[.val (.ref ua), .val .null, .val (.int iv)] []))
  refine own_go (fun t k => XS.aloadN X103.here hx rfl (hb hby d_p49_1_9) rfl rfl k) ?_
  show own_Go _ _ _ _ (T103.setTop (mkF m 10 #[.val (.ref ua), .val .null, .val (.int iv)] [(.ref ua)]))
  refine own_go (fun t k => XS.iloadN X103.here hx rfl (hb hby d_p49_1_10) rfl k) ?_
  show own_Go _ _ _ _ (T103.setTop (mkF m 11 #[.val (.ref ua), .val .null, .val (.int iv)] [(.int iv), (.ref ua)]))
  have f104 := (F1.other W103 (Or.inr (slot_ne (Or.inr (w_37 hw)) (Or.inr (w_35 hw)) (by decide) (t := .int) (t' := (.object "java/lang/String")) (by decide) (by decide))))
  obtain ⟨T105, h105, X105, e105, W105, st105⟩ := putF X103 hx hZ hown (host := "") (Or.inl (w_36 hw)) Via.refl e103 f104 (E0.wr W103) (Or.inr ⟨(w_37 hw), rfl, hnm⟩) (w_23 hw) (ty := .int) (by decide) rfl rfl (g := (mkF m 11 #[.val (.ref ua), .val .null, .val (.int iv)] [(.int iv), (.ref ua)])) rfl rfl (hb hby d_p49_1_11)
  refine own_go st105 ?_
  have F105 := f104.same W105
  have Z105 : n0 ≤ h105.size := (Nat.le_trans Z103 (Nat.le_of_eq W105.size.symm))
  have N105 := Fr.snoc X105 N103 q0
  have K105 : Keep h0 h105 [ua] := K103.wr W105 (Or.inl (List.mem_of_getElem? (i := 0) rfl))
  have f106 := (F103.other W105 (Or.inr (slot_ne (Or.inr (w_35 hw)) (Or.inr (w_37 hw)) (by decide) (t := (.object "java/lang/String")) (t' := .int) (by decide) (by decide))))
  show own_Go _ _ _ _ (T105.setTop (mkF m 14 #[.val (.ref ua), .val .null, .val (.int iv)] []))
  refine own_retV X105 hx hlk hret (hb hby d_p49_1_14) ?_ (by decide) (by decide)
  rw [e105]
  exact ⟨rfl, N105, K105, f106⟩
def Q_vR (Z : State) (ua : Addr) (uf : Addr) (iv : Int32) (h0 : Heap) (n0 : Nat) (v : Option Value) (h : Heap) (L : List Loc) : Prop := v = none ∧ Fr n0 L ∧ Keep h0 h [ua] ∧ Fld Z h ua "com/example/lambdaloom/lambdaloom/model/Verdict" "fault" "Ljava/lang/String;" (.ref uf)
theorem ef_vR (m : MethodId) (ua : Addr) (uf : Addr) (iv : Int32) : entryFrame m #[(.ref ua), (.ref uf), (.int iv)] 3 = mkF m 0 #[.val (.ref ua), .val (.ref uf), .val (.int iv)] [] := by first | (simp [entryFrame, mkF, argsToLocals, Value.category]; done) | rfl
set_option maxRecDepth 65536 in
set_option maxHeartbeats 40000000 in
theorem rm_vR (l : Launch) (Z : State) (a0 : Array Value) (hw : ∀ d ∈ tables_1, d.before a0 Z = true) (ws : List Jvm.Cond) (ua uf : Addr) (iv : Int32) (h0 : Heap) (n0 : Nat) (Z0 : n0 ≤ h0.size) (q0 : n0 ≤ ua) (E0 : Exa Z h0 ua "com/example/lambdaloom/lambdaloom/model/Verdict") (F0 : Fld Z h0 ua "com/example/lambdaloom/lambdaloom/model/Verdict" "fault" "Ljava/lang/String;" .null) (F1 : Fld Z h0 ua "com/example/lambdaloom/lambdaloom/model/Verdict" "wavelengthCount" "I" (.int (0 : Int32))) :
    own_Met l Z (⟨"com/example/lambdaloom/lambdaloom/model/Verdict", "<init>", "(Ljava/lang/String;I)V"⟩ : MethodName) prog_49_method_1_code 3 none ws ({ frames := 2, cells := 0, slots := 0, locals := 24 } : Room) #[(.ref ua), (.ref uf), (.int iv)] h0 (Q_vR Z ua uf iv h0 n0) := by
  refine own_enter (own := "com/example/lambdaloom/lambdaloom/model/Verdict") (plainFor_of_name pn_1) rfl ?_
  intro p e s m below meth c s₁ hlk hret hx hby hml hown hnm hZ X0 e0
  have N0 := Fr.nil n0
  refine own_cast (ef_vR m ua uf iv) ?_
  show own_Go _ _ _ _ (s₁.setTop (mkF m 0 #[.val (.ref ua), .val (.ref uf), .val (.int iv)] []))
  refine own_go (fun t k => XS.aloadN X0.here hx rfl (hb hby d_p49_1_0) rfl rfl k) ?_
  show own_Go _ _ _ _ (s₁.setTop (mkF m 1 #[.val (.ref ua), .val (.ref uf), .val (.int iv)] [(.ref ua)]))
  obtain ⟨_, _, ⟨T107, L107, k107, n107⟩, -, X107, ⟨Lc107, hQ107, l107, y107, z107⟩, st107⟩ := X0.specialBack hx (y := (⟨"java/lang/Record", "<init>", "()V"⟩ : MethodName)) rfl hown (mvT hZ (w_28 hw)) (mvT hZ (w_29 hw)) (mvT hZ (w_32 hw)) (by decide) (backOf (W := 0) (rm_rec l Z a0 hw [] ua h0 n0 Z0 ) hZ (w_32 hw) (w_31 hw) (by decide) (by decide)) (g := (mkF m 1 #[.val (.ref ua), .val (.ref uf), .val (.int iv)] [(.ref ua)])) rfl (by rw [hml]; rfl) (Steps.refl _) (a := ua) (argsL := []) (rest := []) (lenOf pd_0 rfl) rfl (by show 2 * 0 + _ ≤ _; exact Nat.le_of_eq rfl) (hb hby d_p49_1_1) (fun _ _ => ⟨rfl, e0, (by decide : 0 + 0 ≤ _), (by decide : 0 + 0 ≤ _)⟩)
  dsimp only [Pt.U, Pt.locs, Pt.cells, Pt.slots] at X107 l107 y107 z107 st107 hQ107
  subst l107 y107 z107
  obtain ⟨rfl, N107q, e107⟩ := hQ107
  have N107 := Fr.app N0 N107q
  refine own_go (fun t k => st107.trans k) ?_
  show own_Go _ _ _ _ (T107.setTop (mkF m 4 #[.val (.ref ua), .val (.ref uf), .val (.int iv)] []))
  refine own_go (fun t k => XS.aloadN X107.here hx rfl (hb hby d_p49_1_4) rfl rfl k) ?_
  show own_Go _ _ _ _ (T107.setTop (mkF m 5 #[.val (.ref ua), .val (.ref uf), .val (.int iv)] [(.ref ua)]))
  refine own_go (fun t k => XS.aloadN X107.here hx rfl (hb hby d_p49_1_5) rfl rfl k) ?_
  show own_Go _ _ _ _ (T107.setTop (mkF m 6 #[.val (.ref ua), .val (.ref uf), .val (.int iv)] [(.ref uf), (.ref ua)]))
  obtain ⟨T108, h108, X108, e108, W108, st108⟩ := putF X107 hx hZ hown (host := "") (Or.inl (w_34 hw)) Via.refl e107 F0 E0 (Or.inr ⟨(w_35 hw), rfl, hnm⟩) (w_23 hw) (ty := (.object "java/lang/String")) (by decide) rfl rfl (g := (mkF m 6 #[.val (.ref ua), .val (.ref uf), .val (.int iv)] [(.ref uf), (.ref ua)])) rfl rfl (hb hby d_p49_1_6)
  refine own_go st108 ?_
  have F108 := F0.same W108
  have Z108 : n0 ≤ h108.size := (Nat.le_trans Z0 (Nat.le_of_eq W108.size.symm))
  have N108 := Fr.snoc X108 N107 q0
  have K108 : Keep h0 h108 [ua] := (Keep.refl h0 [ua]).wr W108 (Or.inl (List.mem_of_getElem? (i := 0) rfl))
  show own_Go _ _ _ _ (T108.setTop (mkF m 9 #[.val (.ref ua), .val (.ref uf), .val (.int iv)] []))
  refine own_go (fun t k => XS.aloadN X108.here hx rfl (hb hby d_p49_1_9) rfl rfl k) ?_
  show own_Go _ _ _ _ (T108.setTop (mkF m 10 #[.val (.ref ua), .val (.ref uf), .val (.int iv)] [(.ref ua)]))
  refine own_go (fun t k => XS.iloadN X108.here hx rfl (hb hby d_p49_1_10) rfl k) ?_
  show own_Go _ _ _ _ (T108.setTop (mkF m 11 #[.val (.ref ua), .val (.ref uf), .val (.int iv)] [(.int iv), (.ref ua)]))
  have f109 := (F1.other W108 (Or.inr (slot_ne (Or.inr (w_37 hw)) (Or.inr (w_35 hw)) (by decide) (t := .int) (t' := (.object "java/lang/String")) (by decide) (by decide))))
  obtain ⟨T110, h110, X110, e110, W110, st110⟩ := putF X108 hx hZ hown (host := "") (Or.inl (w_36 hw)) Via.refl e108 f109 (E0.wr W108) (Or.inr ⟨(w_37 hw), rfl, hnm⟩) (w_23 hw) (ty := .int) (by decide) rfl rfl (g := (mkF m 11 #[.val (.ref ua), .val (.ref uf), .val (.int iv)] [(.int iv), (.ref ua)])) rfl rfl (hb hby d_p49_1_11)
  refine own_go st110 ?_
  have F110 := f109.same W110
  have Z110 : n0 ≤ h110.size := (Nat.le_trans Z108 (Nat.le_of_eq W110.size.symm))
  have N110 := Fr.snoc X110 N108 q0
  have K110 : Keep h0 h110 [ua] := K108.wr W110 (Or.inl (List.mem_of_getElem? (i := 0) rfl))
  have f111 := (F108.other W110 (Or.inr (slot_ne (Or.inr (w_35 hw)) (Or.inr (w_37 hw)) (by decide) (t := (.object "java/lang/String")) (t' := .int) (by decide) (by decide))))
  show own_Go _ _ _ _ (T110.setTop (mkF m 14 #[.val (.ref ua), .val (.ref uf), .val (.int iv)] []))
  refine own_retV X110 hx hlk hret (hb hby d_p49_1_14) ?_ (by decide) (by decide)
  rw [e110]
  exact ⟨rfl, N110, K110, f111⟩
def Q_val (Z : State) (iv : Int32) (h0 : Heap) (n0 : Nat) (v : Option Value) (h : Heap) (L : List Loc) : Prop := ∃ ub : Addr, v = some (.ref ub) ∧ Fr n0 L ∧ Keep h0 h [] ∧ h0.size ≤ ub ∧ n0 ≤ ub ∧ Exa Z h ub "com/example/lambdaloom/lambdaloom/model/Verdict" ∧ Fld Z h ub "com/example/lambdaloom/lambdaloom/model/Verdict" "fault" "Ljava/lang/String;" .null
theorem ef_val (m : MethodId) (iv : Int32) : entryFrame m #[(.int iv)] 1 = mkF m 0 #[.val (.int iv)] [] := by first | (simp [entryFrame, mkF, argsToLocals, Value.category]; done) | rfl
theorem w_41 {Z : State} {a0 : Array Value} (hw : ∀ d ∈ tables_1, d.before a0 Z = true) : (Jvm.Cond.classLink "com/example/lambdaloom/lambdaloom/model/Verdict" (8 : Nat) "com/example/lambdaloom/lambdaloom/model/Verdict").before a0 Z = true := hw _ (List.mem_of_getElem? (i := 41) rfl)
theorem w_24 {Z : State} {a0 : Array Value} (hw : ∀ d ∈ tables_1, d.before a0 Z = true) : (Jvm.Cond.initialized "com/example/lambdaloom/lambdaloom/model/Verdict").before a0 Z = true := hw _ (List.mem_of_getElem? (i := 24) rfl)
theorem d_p49_2_0 : decode prog_49_method_2_code 0 = .ok (.new 8, 3) := by decide +kernel
theorem d_p49_2_3 : decode prog_49_method_2_code 3 = .ok (.dup, 1) := by decide +kernel
theorem d_p49_2_4 : decode prog_49_method_2_code 4 = .ok (.aconst_null, 1) := by decide +kernel
theorem d_p49_2_5 : decode prog_49_method_2_code 5 = .ok (.iload_n 0, 1) := by decide +kernel
theorem w_42 {Z : State} {a0 : Array Value} (hw : ∀ d ∈ tables_1, d.before a0 Z = true) : (Jvm.Cond.methodLink "com/example/lambdaloom/lambdaloom/model/Verdict" (17 : Nat) ({ cls := "com/example/lambdaloom/lambdaloom/model/Verdict", name := "<init>", desc := "(Ljava/lang/String;I)V" } : Jvm.MethodName)).before a0 Z = true := hw _ (List.mem_of_getElem? (i := 42) rfl)
theorem w_27 {Z : State} {a0 : Array Value} (hw : ∀ d ∈ tables_1, d.before a0 Z = true) : (Jvm.Cond.code ({ cls := "com/example/lambdaloom/lambdaloom/model/Verdict", name := "<init>", desc := "(Ljava/lang/String;I)V" } : Jvm.MethodName) prog_49_method_1_code (3 : Nat) (Option.none : Option Jvm.ClassFile.FieldType)).before a0 Z = true := hw _ (List.mem_of_getElem? (i := 27) rfl)
theorem pd_1 : parseMethodDescriptor "(Ljava/lang/String;I)V" = some ⟨[(.object "java/lang/String"), .int], none⟩ := by decide +kernel
theorem d_p49_2_6 : decode prog_49_method_2_code 6 = .ok (.invokespecial 17, 3) := by decide +kernel
theorem w_26 {Z : State} {a0 : Array Value} (hw : ∀ d ∈ tables_1, d.before a0 Z = true) : (Jvm.Cond.instanceMethod ({ cls := "com/example/lambdaloom/lambdaloom/model/Verdict", name := "<init>", desc := "(Ljava/lang/String;I)V" } : Jvm.MethodName)).before a0 Z = true := hw _ (List.mem_of_getElem? (i := 26) rfl)
theorem d_p49_2_9 : decode prog_49_method_2_code 9 = .ok (.areturn, 1) := by decide +kernel
set_option maxRecDepth 65536 in
set_option maxHeartbeats 40000000 in
theorem rm_val (l : Launch) (Z : State) (a0 : Array Value) (hw : ∀ d ∈ tables_1, d.before a0 Z = true) (ws : List Jvm.Cond) (iv : Int32) (h0 : Heap) (n0 : Nat) (Z0 : n0 ≤ h0.size) :
    own_Met l Z (⟨"com/example/lambdaloom/lambdaloom/model/Verdict", "valid", "(I)Lcom/example/lambdaloom/lambdaloom/model/Verdict;"⟩ : MethodName) prog_49_method_2_code 1 (some (.object "com/example/lambdaloom/lambdaloom/model/Verdict")) ws ({ frames := 3, cells := 1, slots := 2, locals := 39 } : Room) #[(.int iv)] h0 (Q_val Z iv h0 n0) := by
  refine own_enter (own := "com/example/lambdaloom/lambdaloom/model/Verdict") (plainFor_of_name pn_1) rfl ?_
  intro p e s m below meth c s₁ hlk hret hx hby hml hown hnm hZ X0 e0
  have N0 := Fr.nil n0
  refine own_cast (ef_val m iv) ?_
  show own_Go _ _ _ _ (s₁.setTop (mkF m 0 #[.val (.int iv)] []))
  obtain ⟨T112, h112, X112, e112, E112, A112, D112, -, st112⟩ := newO X0 hx hZ hown (w_41 hw) (w_23 hw) (w_24 hw) e0 (g := (mkF m 0 #[.val (.int iv)] [])) rfl (hb hby d_p49_2_0) (by decide) (by decide)
  obtain ⟨b112, g112⟩ : ∃ z, z = h0.size := ⟨_, rfl⟩
  rw [← g112] at A112 D112 st112
  refine own_go st112 ?_
  have Z112 : n0 ≤ h112.size := (Nat.le_trans Z0 E112.1)
  have K112 : Keep h0 h112 [] := (Keep.refl h0 []).ext E112
  have lo112 : h0.size ≤ b112 := Nat.le_of_eq g112.symm
  have q112 : n0 ≤ b112 := Nat.le_trans Z0 lo112
  have hi112 : b112 < h112.size := A112.lt
  have F112_35 : Fld Z h112 b112 "com/example/lambdaloom/lambdaloom/model/Verdict" "fault" "Ljava/lang/String;" .null := D112 (Or.inr (w_35 hw)) (ty := (.object "java/lang/String")) (by decide)
  have F112_37 : Fld Z h112 b112 "com/example/lambdaloom/lambdaloom/model/Verdict" "wavelengthCount" "I" (.int (0 : Int32)) := D112 (Or.inr (w_37 hw)) (ty := .int) (by decide)
  show own_Go _ _ _ _ (T112.setTop (mkF m 3 #[.val (.int iv)] [(.ref b112)]))
  refine own_go (fun t k => XS.dup X112.here hx rfl (hb hby d_p49_2_3) rfl rfl k) ?_
  show own_Go _ _ _ _ (T112.setTop (mkF m 4 #[.val (.int iv)] [(.ref b112), (.ref b112)]))
  refine own_go (fun t k => XS.aconstNull X112.here hx rfl (hb hby d_p49_2_4) k) ?_
  show own_Go _ _ _ _ (T112.setTop (mkF m 5 #[.val (.int iv)] [.null, (.ref b112), (.ref b112)]))
  refine own_go (fun t k => XS.iloadN X112.here hx rfl (hb hby d_p49_2_5) rfl k) ?_
  show own_Go _ _ _ _ (T112.setTop (mkF m 6 #[.val (.int iv)] [(.int iv), .null, (.ref b112), (.ref b112)]))
  obtain ⟨_, _, ⟨T114, L114, k114, n114⟩, -, X114, ⟨Lc114, hQ114, l114, y114, z114⟩, st114⟩ := X112.specialBack hx (y := (⟨"com/example/lambdaloom/lambdaloom/model/Verdict", "<init>", "(Ljava/lang/String;I)V"⟩ : MethodName)) rfl hown (mvT hZ (w_42 hw)) (mvT hZ (w_26 hw)) (mvT hZ (w_27 hw)) (by decide) (backOf (W := 1) (rm_vN l Z a0 hw [] b112 iv h112 n0 Z112 q112 A112 F112_35 F112_37) hZ (w_27 hw) (w_24 hw) (by decide) (by decide)) (g := (mkF m 6 #[.val (.int iv)] [(.int iv), .null, (.ref b112), (.ref b112)])) rfl (by rw [hml]; rfl) (Steps.refl _) (a := b112) (argsL := [.null, (.int iv)]) (rest := [(.ref b112)]) (lenOf pd_1 rfl) rfl (by show 2 * 0 + _ ≤ _; exact Nat.le_of_eq rfl) (hb hby d_p49_2_6) (fun _ _ => ⟨rfl, e112, (by decide : 1 + 0 ≤ _), (by decide : 2 + 0 ≤ _)⟩)
  dsimp only [Pt.U, Pt.locs, Pt.cells, Pt.slots] at X114 l114 y114 z114 st114 hQ114
  subst l114 y114 z114
  generalize e114 : T114.heap = h114 at hQ114
  obtain ⟨rfl, N114q, K114q, F113⟩ := hQ114
  have N114 := Fr.app N0 N114q
  refine own_go (fun t k => st114.trans k) ?_
  have Z114 : n0 ≤ h114.size := (Nat.le_trans Z112 K114q.1)
  have K114 : Keep h0 h114 [] := K112.trans K114q (allS (Or.inr lo112) all0)
  show own_Go _ _ _ _ (T114.setTop (mkF m 9 #[.val (.int iv)] [(.ref b112)]))
  refine own_ret X114 hx hlk hret rfl (Or.inr (Or.inr (Or.inr (Or.inr ⟨rfl, rfl, rfl⟩)))) (hb hby d_p49_2_9) ?_ (by decide) (by decide)
  rw [e114]
  exact ⟨b112, rfl, N114, K114, lo112, q112, (A112.keep K114q), F113⟩
def Q_inv (Z : State) (uf : Addr) (h0 : Heap) (n0 : Nat) (v : Option Value) (h : Heap) (L : List Loc) : Prop := ∃ ub : Addr, v = some (.ref ub) ∧ Fr n0 L ∧ Keep h0 h [] ∧ h0.size ≤ ub ∧ n0 ≤ ub ∧ Exa Z h ub "com/example/lambdaloom/lambdaloom/model/Verdict" ∧ Fld Z h ub "com/example/lambdaloom/lambdaloom/model/Verdict" "fault" "Ljava/lang/String;" (.ref uf)
theorem ef_inv (m : MethodId) (uf : Addr) : entryFrame m #[(.ref uf)] 1 = mkF m 0 #[.val (.ref uf)] [] := by first | (simp [entryFrame, mkF, argsToLocals, Value.category]; done) | rfl
theorem d_p49_3_0 : decode prog_49_method_3_code 0 = .ok (.new 8, 3) := by decide +kernel
theorem d_p49_3_3 : decode prog_49_method_3_code 3 = .ok (.dup, 1) := by decide +kernel
theorem d_p49_3_4 : decode prog_49_method_3_code 4 = .ok (.aload_n 0, 1) := by decide +kernel
theorem d_p49_3_5 : decode prog_49_method_3_code 5 = .ok (.iconst 0, 1) := by decide +kernel
theorem d_p49_3_6 : decode prog_49_method_3_code 6 = .ok (.invokespecial 17, 3) := by decide +kernel
theorem d_p49_3_9 : decode prog_49_method_3_code 9 = .ok (.areturn, 1) := by decide +kernel
set_option maxRecDepth 65536 in
set_option maxHeartbeats 40000000 in
theorem rm_inv (l : Launch) (Z : State) (a0 : Array Value) (hw : ∀ d ∈ tables_1, d.before a0 Z = true) (ws : List Jvm.Cond) (uf : Addr) (h0 : Heap) (n0 : Nat) (Z0 : n0 ≤ h0.size) :
    own_Met l Z (⟨"com/example/lambdaloom/lambdaloom/model/Verdict", "invalid", "(Ljava/lang/String;)Lcom/example/lambdaloom/lambdaloom/model/Verdict;"⟩ : MethodName) prog_49_method_3_code 1 (some (.object "com/example/lambdaloom/lambdaloom/model/Verdict")) ws ({ frames := 3, cells := 1, slots := 2, locals := 39 } : Room) #[(.ref uf)] h0 (Q_inv Z uf h0 n0) := by
  refine own_enter (own := "com/example/lambdaloom/lambdaloom/model/Verdict") (plainFor_of_name pn_1) rfl ?_
  intro p e s m below meth c s₁ hlk hret hx hby hml hown hnm hZ X0 e0
  have N0 := Fr.nil n0
  refine own_cast (ef_inv m uf) ?_
  show own_Go _ _ _ _ (s₁.setTop (mkF m 0 #[.val (.ref uf)] []))
  obtain ⟨T115, h115, X115, e115, E115, A115, D115, -, st115⟩ := newO X0 hx hZ hown (w_41 hw) (w_23 hw) (w_24 hw) e0 (g := (mkF m 0 #[.val (.ref uf)] [])) rfl (hb hby d_p49_3_0) (by decide) (by decide)
  obtain ⟨b115, g115⟩ : ∃ z, z = h0.size := ⟨_, rfl⟩
  rw [← g115] at A115 D115 st115
  refine own_go st115 ?_
  have Z115 : n0 ≤ h115.size := (Nat.le_trans Z0 E115.1)
  have K115 : Keep h0 h115 [] := (Keep.refl h0 []).ext E115
  have lo115 : h0.size ≤ b115 := Nat.le_of_eq g115.symm
  have q115 : n0 ≤ b115 := Nat.le_trans Z0 lo115
  have hi115 : b115 < h115.size := A115.lt
  have F115_35 : Fld Z h115 b115 "com/example/lambdaloom/lambdaloom/model/Verdict" "fault" "Ljava/lang/String;" .null := D115 (Or.inr (w_35 hw)) (ty := (.object "java/lang/String")) (by decide)
  have F115_37 : Fld Z h115 b115 "com/example/lambdaloom/lambdaloom/model/Verdict" "wavelengthCount" "I" (.int (0 : Int32)) := D115 (Or.inr (w_37 hw)) (ty := .int) (by decide)
  show own_Go _ _ _ _ (T115.setTop (mkF m 3 #[.val (.ref uf)] [(.ref b115)]))
  refine own_go (fun t k => XS.dup X115.here hx rfl (hb hby d_p49_3_3) rfl rfl k) ?_
  show own_Go _ _ _ _ (T115.setTop (mkF m 4 #[.val (.ref uf)] [(.ref b115), (.ref b115)]))
  refine own_go (fun t k => XS.aloadN X115.here hx rfl (hb hby d_p49_3_4) rfl rfl k) ?_
  show own_Go _ _ _ _ (T115.setTop (mkF m 5 #[.val (.ref uf)] [(.ref uf), (.ref b115), (.ref b115)]))
  refine own_go (fun t k => XS.iconst X115.here hx rfl (hb hby d_p49_3_5) k) ?_
  show own_Go _ _ _ _ (T115.setTop (mkF m 6 #[.val (.ref uf)] [(.int (0 : Int32)), (.ref uf), (.ref b115), (.ref b115)]))
  obtain ⟨_, _, ⟨T117, L117, k117, n117⟩, -, X117, ⟨Lc117, hQ117, l117, y117, z117⟩, st117⟩ := X115.specialBack hx (y := (⟨"com/example/lambdaloom/lambdaloom/model/Verdict", "<init>", "(Ljava/lang/String;I)V"⟩ : MethodName)) rfl hown (mvT hZ (w_42 hw)) (mvT hZ (w_26 hw)) (mvT hZ (w_27 hw)) (by decide) (backOf (W := 1) (rm_vR l Z a0 hw [] b115 uf (0 : Int32) h115 n0 Z115 q115 A115 F115_35 F115_37) hZ (w_27 hw) (w_24 hw) (by decide) (by decide)) (g := (mkF m 6 #[.val (.ref uf)] [(.int (0 : Int32)), (.ref uf), (.ref b115), (.ref b115)])) rfl (by rw [hml]; rfl) (Steps.refl _) (a := b115) (argsL := [(.ref uf), (.int (0 : Int32))]) (rest := [(.ref b115)]) (lenOf pd_1 rfl) rfl (by show 2 * 0 + _ ≤ _; exact Nat.le_of_eq rfl) (hb hby d_p49_3_6) (fun _ _ => ⟨rfl, e115, (by decide : 1 + 0 ≤ _), (by decide : 2 + 0 ≤ _)⟩)
  dsimp only [Pt.U, Pt.locs, Pt.cells, Pt.slots] at X117 l117 y117 z117 st117 hQ117
  subst l117 y117 z117
  generalize e117 : T117.heap = h117 at hQ117
  obtain ⟨rfl, N117q, K117q, F116⟩ := hQ117
  have N117 := Fr.app N0 N117q
  refine own_go (fun t k => st117.trans k) ?_
  have Z117 : n0 ≤ h117.size := (Nat.le_trans Z115 K117q.1)
  have K117 : Keep h0 h117 [] := K115.trans K117q (allS (Or.inr lo115) all0)
  show own_Go _ _ _ _ (T117.setTop (mkF m 9 #[.val (.ref uf)] [(.ref b115)]))
  refine own_ret X117 hx hlk hret rfl (Or.inr (Or.inr (Or.inr (Or.inr ⟨rfl, rfl, rfl⟩)))) (hb hby d_p49_3_9) ?_ (by decide) (by decide)
  rw [e117]
  exact ⟨b115, rfl, N117, K117, lo115, q115, (A115.keep K117q), F116⟩
def Q_ivN (Z : State) (ua : Addr) (h0 : Heap) (n0 : Nat) (v : Option Value) (h : Heap) (L : List Loc) : Prop := v = some (.int 1) ∧ Fr n0 L ∧ h = h0
theorem ef_ivN (m : MethodId) (ua : Addr) : entryFrame m #[(.ref ua)] 1 = mkF m 0 #[.val (.ref ua)] [] := by first | (simp [entryFrame, mkF, argsToLocals, Value.category]; done) | rfl
theorem d_p49_4_0 : decode prog_49_method_4_code 0 = .ok (.aload_n 0, 1) := by decide +kernel
theorem d_p49_4_1 : decode prog_49_method_4_code 1 = .ok (.getfield 7, 3) := by decide +kernel
theorem d_p49_4_4 : decode prog_49_method_4_code 4 = .ok (.ifnonnull 7, 3) := by decide +kernel
theorem d_p49_4_7 : decode prog_49_method_4_code 7 = .ok (.iconst 1, 1) := by decide +kernel
theorem d_p49_4_8 : decode prog_49_method_4_code 8 = .ok (.goto 4, 3) := by decide +kernel
theorem d_p49_4_12 : decode prog_49_method_4_code 12 = .ok (.ireturn, 1) := by decide +kernel
set_option maxRecDepth 65536 in
set_option maxHeartbeats 40000000 in
theorem rm_ivN (l : Launch) (Z : State) (a0 : Array Value) (hw : ∀ d ∈ tables_1, d.before a0 Z = true) (ws : List Jvm.Cond) (ua : Addr) (h0 : Heap) (n0 : Nat) (Z0 : n0 ≤ h0.size) (F0 : Fld Z h0 ua "com/example/lambdaloom/lambdaloom/model/Verdict" "fault" "Ljava/lang/String;" .null) :
    own_Met l Z (⟨"com/example/lambdaloom/lambdaloom/model/Verdict", "isValid", "()Z"⟩ : MethodName) prog_49_method_4_code 1 (some .boolean) ws ({ frames := 0, cells := 0, slots := 0, locals := 0 } : Room) #[(.ref ua)] h0 (Q_ivN Z ua h0 n0) := by
  refine own_enter (own := "com/example/lambdaloom/lambdaloom/model/Verdict") (plainFor_of_name pn_1) rfl ?_
  intro p e s m below meth c s₁ hlk hret hx hby hml hown hnm hZ X0 e0
  have N0 := Fr.nil n0
  refine own_cast (ef_ivN m ua) ?_
  show own_Go _ _ _ _ (s₁.setTop (mkF m 0 #[.val (.ref ua)] []))
  refine own_go (fun t k => XS.aloadN X0.here hx rfl (hb hby d_p49_4_0) rfl rfl k) ?_
  show own_Go _ _ _ _ (s₁.setTop (mkF m 1 #[.val (.ref ua)] [(.ref ua)]))
  obtain ⟨T118, X118, e118, st118⟩ := getF X0 hx hZ hown (host := "") (Or.inl (w_34 hw)) Via.refl e0 F0 (g := (mkF m 1 #[.val (.ref ua)] [(.ref ua)])) rfl rfl (hb hby d_p49_4_1)
  refine own_go st118 ?_
  show own_Go _ _ _ _ (T118.setTop (mkF m 4 #[.val (.ref ua)] [.null]))
  refine own_go (fun t k => XS.ifnonnullNo X118.here hx rfl (hb hby d_p49_4_4) rfl k) ?_
  show own_Go _ _ _ _ (T118.setTop (mkF m 7 #[.val (.ref ua)] []))
  refine own_go (fun t k => XS.iconst X118.here hx rfl (hb hby d_p49_4_7) k) ?_
  show own_Go _ _ _ _ (T118.setTop (mkF m 8 #[.val (.ref ua)] [(.int (1 : Int32))]))
  refine own_go (fun t k => XS.goto X118.here hx rfl (pc0 := 8) (pc' := 12) rfl (hb hby d_p49_4_8) (by decide) (by decide) k) ?_
  show own_Go _ _ _ _ (T118.setTop (mkF m 12 #[.val (.ref ua)] [(.int (1 : Int32))]))
  refine own_retN X118 hx hlk (t := .boolean) hret (by simp) (hb hby d_p49_4_12) ?_ (by decide) (by decide)
  rw [e118]
  exact ⟨rfl, N0, rfl⟩
def Q_ivR (Z : State) (ua : Addr) (uf : Addr) (h0 : Heap) (n0 : Nat) (v : Option Value) (h : Heap) (L : List Loc) : Prop := v = some (.int 0) ∧ Fr n0 L ∧ h = h0
theorem ef_ivR (m : MethodId) (ua : Addr) : entryFrame m #[(.ref ua)] 1 = mkF m 0 #[.val (.ref ua)] [] := by first | (simp [entryFrame, mkF, argsToLocals, Value.category]; done) | rfl
theorem d_p49_4_11 : decode prog_49_method_4_code 11 = .ok (.iconst 0, 1) := by decide +kernel
set_option maxRecDepth 65536 in
set_option maxHeartbeats 40000000 in
theorem rm_ivR (l : Launch) (Z : State) (a0 : Array Value) (hw : ∀ d ∈ tables_1, d.before a0 Z = true) (ws : List Jvm.Cond) (ua uf : Addr) (h0 : Heap) (n0 : Nat) (Z0 : n0 ≤ h0.size) (F0 : Fld Z h0 ua "com/example/lambdaloom/lambdaloom/model/Verdict" "fault" "Ljava/lang/String;" (.ref uf)) :
    own_Met l Z (⟨"com/example/lambdaloom/lambdaloom/model/Verdict", "isValid", "()Z"⟩ : MethodName) prog_49_method_4_code 1 (some .boolean) ws ({ frames := 0, cells := 0, slots := 0, locals := 0 } : Room) #[(.ref ua)] h0 (Q_ivR Z ua uf h0 n0) := by
  refine own_enter (own := "com/example/lambdaloom/lambdaloom/model/Verdict") (plainFor_of_name pn_1) rfl ?_
  intro p e s m below meth c s₁ hlk hret hx hby hml hown hnm hZ X0 e0
  have N0 := Fr.nil n0
  refine own_cast (ef_ivR m ua) ?_
  show own_Go _ _ _ _ (s₁.setTop (mkF m 0 #[.val (.ref ua)] []))
  refine own_go (fun t k => XS.aloadN X0.here hx rfl (hb hby d_p49_4_0) rfl rfl k) ?_
  show own_Go _ _ _ _ (s₁.setTop (mkF m 1 #[.val (.ref ua)] [(.ref ua)]))
  obtain ⟨T119, X119, e119, st119⟩ := getF X0 hx hZ hown (host := "") (Or.inl (w_34 hw)) Via.refl e0 F0 (g := (mkF m 1 #[.val (.ref ua)] [(.ref ua)])) rfl rfl (hb hby d_p49_4_1)
  refine own_go st119 ?_
  show own_Go _ _ _ _ (T119.setTop (mkF m 4 #[.val (.ref ua)] [(.ref uf)]))
  refine own_go (fun t k => XS.ifnonnullYes X119.here hx rfl (pc0 := 4) (pc' := 11) rfl (hb hby d_p49_4_4) rfl (by decide) (by decide) k) ?_
  show own_Go _ _ _ _ (T119.setTop (mkF m 11 #[.val (.ref ua)] []))
  refine own_go (fun t k => XS.iconst X119.here hx rfl (hb hby d_p49_4_11) k) ?_
  show own_Go _ _ _ _ (T119.setTop (mkF m 12 #[.val (.ref ua)] [(.int (0 : Int32))]))
  refine own_retN X119 hx hlk (t := .boolean) hret (by simp) (hb hby d_p49_4_12) ?_ (by decide) (by decide)
  rw [e119]
  exact ⟨rfl, N0, rfl⟩
def Q_si0 (Z : State) (us : Addr) (uc : Addr) (h0 : Heap) (n0 : Nat) (v : Option Value) (h : Heap) (L : List Loc) : Prop := v = none ∧ Fr n0 L ∧ Keep h0 h [us]
theorem ef_si0 (m : MethodId) (us : Addr) (uc : Addr) : entryFrame m #[(.ref us), (.ref uc), (.int (0 : Int32)), (.int (0 : Int32)), .null] 6 = mkF m 0 #[.val (.ref us), .val (.ref uc), .val (.int (0 : Int32)), .val (.int (0 : Int32)), .val .null, .unset] [] := by first | (simp [entryFrame, mkF, argsToLocals, Value.category]; done) | rfl
theorem pn_2 : plainName "java/lang/String" = true := by first | (simp [plainName, overriddenIn]; done) | decide +kernel
theorem d_j42_149_0 : decode jdk_42_method_149_code 0 = .ok (.aload_n 0, 1) := by decide +kernel
theorem w_11 {Z : State} {a0 : Array Value} (hw : ∀ d ∈ tables_1, d.before a0 Z = true) : (Jvm.Cond.methodLink "java/lang/String" (1 : Nat) ({ cls := "java/lang/Object", name := "<init>", desc := "()V" } : Jvm.MethodName)).before a0 Z = true := hw _ (List.mem_of_getElem? (i := 11) rfl)
theorem d_j42_149_1 : decode jdk_42_method_149_code 1 = .ok (.invokespecial 1, 3) := by decide +kernel
theorem d_j42_149_4 : decode jdk_42_method_149_code 4 = .ok (.iload_n 3, 1) := by decide +kernel
theorem d_j42_149_5 : decode jdk_42_method_149_code 5 = .ok (.ifCond .ne 22, 3) := by decide +kernel
theorem d_j42_149_8 : decode jdk_42_method_149_code 8 = .ok (.aload_n 0, 1) := by decide +kernel
theorem d_j42_149_9 : decode jdk_42_method_149_code 9 = .ok (.ldc 7, 2) := by decide +kernel
theorem w_20 {Z : State} {a0 : Array Value} (hw : ∀ d ∈ tables_1, d.before a0 Z = true) : (Jvm.Cond.fieldLink "java/lang/String" (9 : Nat) "java/lang/String" "value" "[B").before a0 Z = true := hw _ (List.mem_of_getElem? (i := 20) rfl)
theorem d_j42_149_11 : decode jdk_42_method_149_code 11 = .ok (.getfield 9, 3) := by decide +kernel
theorem w_1 {Z : State} {a0 : Array Value} (hw : ∀ d ∈ tables_1, d.before a0 Z = true) : (Jvm.Cond.instantiable "java/lang/String" (4 : Nat)).before a0 Z = true := hw _ (List.mem_of_getElem? (i := 1) rfl)
theorem w_16 {Z : State} {a0 : Array Value} (hw : ∀ d ∈ tables_1, d.before a0 Z = true) : (Jvm.Cond.laysFinal "java/lang/String" "java/lang/String" "value" "[B").before a0 Z = true := hw _ (List.mem_of_getElem? (i := 16) rfl)
theorem d_j42_149_14 : decode jdk_42_method_149_code 14 = .ok (.putfield 9, 3) := by decide +kernel
theorem d_j42_149_17 : decode jdk_42_method_149_code 17 = .ok (.aload_n 0, 1) := by decide +kernel
theorem d_j42_149_18 : decode jdk_42_method_149_code 18 = .ok (.ldc 7, 2) := by decide +kernel
theorem w_21 {Z : State} {a0 : Array Value} (hw : ∀ d ∈ tables_1, d.before a0 Z = true) : (Jvm.Cond.fieldLink "java/lang/String" (15 : Nat) "java/lang/String" "coder" "B").before a0 Z = true := hw _ (List.mem_of_getElem? (i := 21) rfl)
theorem d_j42_149_20 : decode jdk_42_method_149_code 20 = .ok (.getfield 15, 3) := by decide +kernel
theorem w_17 {Z : State} {a0 : Array Value} (hw : ∀ d ∈ tables_1, d.before a0 Z = true) : (Jvm.Cond.laysFinal "java/lang/String" "java/lang/String" "coder" "B").before a0 Z = true := hw _ (List.mem_of_getElem? (i := 17) rfl)
theorem d_j42_149_23 : decode jdk_42_method_149_code 23 = .ok (.putfield 15, 3) := by decide +kernel
theorem d_j42_149_26 : decode jdk_42_method_149_code 26 = .ok (.return_, 1) := by decide +kernel
set_option maxRecDepth 65536 in
set_option maxHeartbeats 40000000 in
theorem rm_si0 (l : Launch) (Z : State) (a0 : Array Value) (hw : ∀ d ∈ tables_1, d.before a0 Z = true) (ws : List Jvm.Cond) (us uc : Addr) (h0 : Heap) (n0 : Nat) (Z0 : n0 ≤ h0.size) (q0 : n0 ≤ us) (E0 : Exa Z h0 us "java/lang/String") (V0 : Fld Z h0 us "java/lang/String" "value" "[B" .null) (Cd0 : Fld Z h0 us "java/lang/String" "coder" "B" (.int (0 : Int32))) :
    own_MetH l Z consts_1 (⟨"java/lang/String", "<init>", "([CIILjava/lang/Void;)V"⟩ : MethodName) jdk_42_method_149_code 6 none ws ({ frames := 1, cells := 4, slots := 8, locals := 12 } : Room) #[(.ref us), (.ref uc), (.int (0 : Int32)), (.int (0 : Int32)), .null] h0 (Q_si0 Z us uc h0 n0) := by
  refine own_enterH (own := "java/lang/String") (plainFor_of_name pn_2) rfl ?_
  intro p e s m below meth c s₁ hlk hret hx hby hml hown hnm hZ hh hH X0 e0
  have N0 := Fr.nil n0
  refine own_cast (ef_si0 m us uc) ?_
  have hS : s.Since s.vm 0 := (State.WarmedH.refl s).since 0
  have hk : 0 ≤ h0.size := Nat.zero_le _
  have C0 : CHr Z consts_1 s.vm h0 s.vm h0 := CHr.refl hH
  have Sx : Safe Z consts_1 s.vm h0 us := own_safe_null hZ.alike E0 V0
  show own_Go _ _ _ _ (s₁.setTop (mkF m 0 #[.val (.ref us), .val (.ref uc), .val (.int (0 : Int32)), .val (.int (0 : Int32)), .val .null, .unset] []))
  refine own_go (fun t k => XS.aloadN X0.here hx rfl (hb hby d_j42_149_0) rfl rfl k) ?_
  show own_Go _ _ _ _ (s₁.setTop (mkF m 1 #[.val (.ref us), .val (.ref uc), .val (.int (0 : Int32)), .val (.int (0 : Int32)), .val .null, .unset] [(.ref us)]))
  obtain ⟨T120, X120, e120, st120⟩ := initO X0 hx hZ hown (w_11 hw) (w_12 hw) (w_13 hw) e0 (g := (mkF m 1 #[.val (.ref us), .val (.ref uc), .val (.int (0 : Int32)), .val (.int (0 : Int32)), .val .null, .unset] [(.ref us)])) rfl (by rw [hml]; rfl) rfl (hb hby d_j42_149_1) (by decide) (W := 0) (by show 2 * 0 + _ ≤ _; exact Nat.le_of_eq rfl) (by decide)
  refine own_go st120 ?_
  show own_Go _ _ _ _ (T120.setTop (mkF m 4 #[.val (.ref us), .val (.ref uc), .val (.int (0 : Int32)), .val (.int (0 : Int32)), .val .null, .unset] []))
  refine own_go (fun t k => XS.iloadN X120.here hx rfl (hb hby d_j42_149_4) rfl k) ?_
  show own_Go _ _ _ _ (T120.setTop (mkF m 5 #[.val (.ref us), .val (.ref uc), .val (.int (0 : Int32)), .val (.int (0 : Int32)), .val .null, .unset] [(.int (0 : Int32))]))
  refine own_go (fun t k => XS.ifNo X120.here hx rfl (hb hby d_j42_149_5) rfl ((if0 _ _).trans (teq (by decide : (0 : Int32) = (0 : Int32))).2) k) ?_
  show own_Go _ _ _ _ (T120.setTop (mkF m 8 #[.val (.ref us), .val (.ref uc), .val (.int (0 : Int32)), .val (.int (0 : Int32)), .val .null, .unset] []))
  refine own_go (fun t k => XS.aloadN X120.here hx rfl (hb hby d_j42_149_8) rfl rfl k) ?_
  show own_Go _ _ _ _ (T120.setTop (mkF m 9 #[.val (.ref us), .val (.ref uc), .val (.int (0 : Int32)), .val (.int (0 : Int32)), .val .null, .unset] [(.ref us)]))
  obtain ⟨b121, T121, h121, k121, d121, kb121, X121, e121, E121, hS, hk, hZ, hown, A121, Fc121, Fv121, Va121, hia121, hib121, R121, -, hne121, st121⟩ := ldcCH X120 hx hZ hown (w_14 hw) (own_wS hw) e120 hS hk (own_EW hw) (List.mem_of_getElem? (i := 0) rfl) C0.1 (vs := []) (z := (0 : Int32)) ⟨by decide, rfl⟩ (by decide) rfl (g := (mkF m 9 #[.val (.ref us), .val (.ref uc), .val (.int (0 : Int32)), .val (.int (0 : Int32)), .val .null, .unset] [(.ref us)])) rfl (hb hby d_j42_149_9) (n := 0) (by decide) (by decide) (by decide) (by decide)
  refine own_go st121 ?_
  have Z121 : n0 ≤ h121.size := (Nat.le_trans Z0 E121.1)
  have C121 := C0.trans R121
  have K121 : Keep h0 h121 [us] := (Keep.refl h0 [us]).ext E121
  show own_Go _ _ _ _ (T121.setTop (mkF m 11 #[.val (.ref us), .val (.ref uc), .val (.int (0 : Int32)), .val (.int (0 : Int32)), .val .null, .unset] [(.ref b121), (.ref us)]))
  obtain ⟨T122, X122, e122, st122⟩ := getF X121 hx hZ hown (host := "") (Or.inl (w_20 hw)) Via.refl e121 Fv121 (g := (mkF m 11 #[.val (.ref us), .val (.ref uc), .val (.int (0 : Int32)), .val (.int (0 : Int32)), .val .null, .unset] [(.ref b121), (.ref us)])) rfl rfl (hb hby d_j42_149_11)
  refine own_go st122 ?_
  show own_Go _ _ _ _ (T122.setTop (mkF m 14 #[.val (.ref us), .val (.ref uc), .val (.int (0 : Int32)), .val (.int (0 : Int32)), .val .null, .unset] [(.ref d121), (.ref us)]))
  obtain ⟨T123, h123, X123, e123, W123, st123⟩ := putF X122 hx hZ hown (host := "") (Or.inl (w_20 hw)) Via.refl e122 (V0.ext E121) (E0.ext E121) (Or.inr ⟨(w_16 hw), rfl, hnm⟩) (w_1 hw) (ty := (.array .byte)) (by decide) rfl rfl (g := (mkF m 14 #[.val (.ref us), .val (.ref uc), .val (.int (0 : Int32)), .val (.int (0 : Int32)), .val .null, .unset] [(.ref d121), (.ref us)])) rfl rfl (hb hby d_j42_149_14)
  refine own_go st123 ?_
  have F123 := (V0.ext E121).same W123
  have C123 := C121.trans (CHr.wr W123 (R121.safe E0.lt Sx) C121.1)
  have Z123 : n0 ≤ h123.size := (Nat.le_trans Z121 (Nat.le_of_eq W123.size.symm))
  have N123 := Fr.snoc X123 N0 q0
  have K123 : Keep h0 h123 [us] := K121.wr W123 (Or.inl (List.mem_of_getElem? (i := 0) rfl))
  show own_Go _ _ _ _ (T123.setTop (mkF m 17 #[.val (.ref us), .val (.ref uc), .val (.int (0 : Int32)), .val (.int (0 : Int32)), .val .null, .unset] []))
  refine own_go (fun t k => XS.aloadN X123.here hx rfl (hb hby d_j42_149_17) rfl rfl k) ?_
  show own_Go _ _ _ _ (T123.setTop (mkF m 18 #[.val (.ref us), .val (.ref uc), .val (.int (0 : Int32)), .val (.int (0 : Int32)), .val .null, .unset] [(.ref us)]))
  have f124 := (Safe.wr W123 (R121.safe E0.lt Sx) C121.1 (R121.safe E0.lt Sx))
  obtain ⟨b125, T125, h125, k125, d125, kb125, X125, e125, E125, hS, hk, hZ, hown, A125, Fc125, Fv125, Va125, hia125, hib125, R125, -, hne125, st125⟩ := ldcCH X123 hx hZ hown (w_14 hw) (own_wS hw) e123 hS (Nat.le_trans hk (Nat.le_of_eq W123.size.symm)) (own_EW hw) (List.mem_of_getElem? (i := 0) rfl) C123.1 (vs := []) (z := (0 : Int32)) ⟨by decide, rfl⟩ (by decide) rfl (g := (mkF m 18 #[.val (.ref us), .val (.ref uc), .val (.int (0 : Int32)), .val (.int (0 : Int32)), .val .null, .unset] [(.ref us)])) rfl (hb hby d_j42_149_18) (n := 0) (by decide) (by decide) (by decide) (by decide)
  refine own_go st125 ?_
  have Z125 : n0 ≤ h125.size := (Nat.le_trans Z123 E125.1)
  have C125 := C123.trans R125
  have K125 : Keep h0 h125 [us] := K123.ext E125
  have f126 := (R125.safe (Nat.lt_of_lt_of_le E0.lt (Nat.le_trans E121.1 (Nat.le_of_eq W123.size.symm))) f124)
  show own_Go _ _ _ _ (T125.setTop (mkF m 20 #[.val (.ref us), .val (.ref uc), .val (.int (0 : Int32)), .val (.int (0 : Int32)), .val .null, .unset] [(.ref b125), (.ref us)]))
  obtain ⟨T127, X127, e127, st127⟩ := getF X125 hx hZ hown (host := "") (Or.inl (w_21 hw)) Via.refl e125 Fc125 (g := (mkF m 20 #[.val (.ref us), .val (.ref uc), .val (.int (0 : Int32)), .val (.int (0 : Int32)), .val .null, .unset] [(.ref b125), (.ref us)])) rfl rfl (hb hby d_j42_149_20)
  refine own_go st127 ?_
  show own_Go _ _ _ _ (T127.setTop (mkF m 23 #[.val (.ref us), .val (.ref uc), .val (.int (0 : Int32)), .val (.int (0 : Int32)), .val .null, .unset] [(.int (0 : Int32)), (.ref us)]))
  have f128 := (((Cd0.ext E121).other W123 (Or.inr (slot_ne (Or.inr (w_17 hw)) (Or.inr (w_16 hw)) (by decide) (t := .byte) (t' := (.array .byte)) (by decide) (by decide)))).ext E125)
  obtain ⟨T129, h129, X129, e129, W129, st129⟩ := putFN X127 hx hZ hown (w_21 hw) Via.refl e127 f128 (((E0.ext E121).wr W123).ext E125) (Or.inr ⟨(w_17 hw), rfl, hnm⟩) (w_1 hw) (ty := .byte) (v' := (.int (0 : Int32))) (by decide) rfl rfl (g := (mkF m 23 #[.val (.ref us), .val (.ref uc), .val (.int (0 : Int32)), .val (.int (0 : Int32)), .val .null, .unset] [(.int (0 : Int32)), (.ref us)])) rfl rfl (hb hby d_j42_149_23)
  refine own_go st129 ?_
  have F129 := f128.same W129
  have C129 := C125.trans (CHr.wr W129 f126 C125.1)
  have Z129 : n0 ≤ h129.size := (Nat.le_trans Z125 (Nat.le_of_eq W129.size.symm))
  have N129 := Fr.snoc X129 N123 q0
  have K129 : Keep h0 h129 [us] := K125.wr W129 (Or.inl (List.mem_of_getElem? (i := 0) rfl))
  show own_Go _ _ _ _ (T129.setTop (mkF m 26 #[.val (.ref us), .val (.ref uc), .val (.int (0 : Int32)), .val (.int (0 : Int32)), .val .null, .unset] []))
  refine own_retVH X129 hx hS (Nat.le_trans (Nat.le_trans hk (Nat.le_of_eq W129.size.symm)) (Nat.le_of_eq (congrArg Array.size e129.symm))) (by rw [hh, e129]; exact C129.trans (CHv.at X129 hZ (own_EW hw) C129.1)) hlk hret (hb hby d_j42_149_26) ?_ (by decide) (by decide)
  rw [e129]
  exact ⟨rfl, N129, K129⟩
def Q_s0 (Z : State) (us : Addr) (uc : Addr) (kc : ClassId) (h0 : Heap) (n0 : Nat) (v : Option Value) (h : Heap) (L : List Loc) : Prop := v = none ∧ Fr n0 L ∧ Keep h0 h [us]
theorem ef_s0 (m : MethodId) (us : Addr) (uc : Addr) : entryFrame m #[(.ref us), (.ref uc)] 2 = mkF m 0 #[.val (.ref us), .val (.ref uc)] [] := by first | (simp [entryFrame, mkF, argsToLocals, Value.category]; done) | rfl
theorem d_j42_3_0 : decode jdk_42_method_3_code 0 = .ok (.aload_n 0, 1) := by decide +kernel
theorem d_j42_3_1 : decode jdk_42_method_3_code 1 = .ok (.aload_n 1, 1) := by decide +kernel
theorem d_j42_3_2 : decode jdk_42_method_3_code 2 = .ok (.iconst 0, 1) := by decide +kernel
theorem d_j42_3_3 : decode jdk_42_method_3_code 3 = .ok (.aload_n 1, 1) := by decide +kernel
theorem d_j42_3_4 : decode jdk_42_method_3_code 4 = .ok (.arraylength, 1) := by decide +kernel
theorem d_j42_3_5 : decode jdk_42_method_3_code 5 = .ok (.aconst_null, 1) := by decide +kernel
theorem w_7 {Z : State} {a0 : Array Value} (hw : ∀ d ∈ tables_1, d.before a0 Z = true) : (Jvm.Cond.methodLink "java/lang/String" (27 : Nat) ({ cls := "java/lang/String", name := "<init>", desc := "([CIILjava/lang/Void;)V" } : Jvm.MethodName)).before a0 Z = true := hw _ (List.mem_of_getElem? (i := 7) rfl)
theorem w_10 {Z : State} {a0 : Array Value} (hw : ∀ d ∈ tables_1, d.before a0 Z = true) : (Jvm.Cond.code ({ cls := "java/lang/String", name := "<init>", desc := "([CIILjava/lang/Void;)V" } : Jvm.MethodName) jdk_42_method_149_code (6 : Nat) (Option.none : Option Jvm.ClassFile.FieldType)).before a0 Z = true := hw _ (List.mem_of_getElem? (i := 10) rfl)
theorem w_2 {Z : State} {a0 : Array Value} (hw : ∀ d ∈ tables_1, d.before a0 Z = true) : (Jvm.Cond.initialized "java/lang/String").before a0 Z = true := hw _ (List.mem_of_getElem? (i := 2) rfl)
theorem pd_2 : parseMethodDescriptor "([CIILjava/lang/Void;)V" = some ⟨[(.array .char), .int, .int, (.object "java/lang/Void")], none⟩ := by decide +kernel
theorem d_j42_3_6 : decode jdk_42_method_3_code 6 = .ok (.invokespecial 27, 3) := by decide +kernel
theorem w_8 {Z : State} {a0 : Array Value} (hw : ∀ d ∈ tables_1, d.before a0 Z = true) : (Jvm.Cond.instanceMethod ({ cls := "java/lang/String", name := "<init>", desc := "([CIILjava/lang/Void;)V" } : Jvm.MethodName)).before a0 Z = true := hw _ (List.mem_of_getElem? (i := 8) rfl)
theorem d_j42_3_9 : decode jdk_42_method_3_code 9 = .ok (.return_, 1) := by decide +kernel
set_option maxRecDepth 65536 in
set_option maxHeartbeats 40000000 in
theorem rm_s0 (l : Launch) (Z : State) (a0 : Array Value) (hw : ∀ d ∈ tables_1, d.before a0 Z = true) (ws : List Jvm.Cond) (us uc : Addr) (kc : ClassId) (h0 : Heap) (n0 : Nat) (Z0 : n0 ≤ h0.size) (q0 : n0 ≤ us) (E0 : Exa Z h0 us "java/lang/String") (V0 : Fld Z h0 us "java/lang/String" "value" "[B" .null) (Cd0 : Fld Z h0 us "java/lang/String" "coder" "B" (.int (0 : Int32))) (A0 : Arv Z h0 uc kc .char (0 : Int32) [] (.int (0 : Int32))) :
    own_MetH l Z consts_1 (⟨"java/lang/String", "<init>", "([C)V"⟩ : MethodName) jdk_42_method_3_code 2 none ws ({ frames := 2, cells := 4, slots := 8, locals := 29 } : Room) #[(.ref us), (.ref uc)] h0 (Q_s0 Z us uc kc h0 n0) := by
  refine own_enterH (own := "java/lang/String") (plainFor_of_name pn_2) rfl ?_
  intro p e s m below meth c s₁ hlk hret hx hby hml hown hnm hZ hh hH X0 e0
  have N0 := Fr.nil n0
  refine own_cast (ef_s0 m us uc) ?_
  have hS : s.Since s.vm 0 := (State.WarmedH.refl s).since 0
  have hk : 0 ≤ h0.size := Nat.zero_le _
  have C0 : CHr Z consts_1 s.vm h0 s.vm h0 := CHr.refl hH
  have Sx : Safe Z consts_1 s.vm h0 us := own_safe_null hZ.alike E0 V0
  show own_Go _ _ _ _ (s₁.setTop (mkF m 0 #[.val (.ref us), .val (.ref uc)] []))
  refine own_go (fun t k => XS.aloadN X0.here hx rfl (hb hby d_j42_3_0) rfl rfl k) ?_
  show own_Go _ _ _ _ (s₁.setTop (mkF m 1 #[.val (.ref us), .val (.ref uc)] [(.ref us)]))
  refine own_go (fun t k => XS.aloadN X0.here hx rfl (hb hby d_j42_3_1) rfl rfl k) ?_
  show own_Go _ _ _ _ (s₁.setTop (mkF m 2 #[.val (.ref us), .val (.ref uc)] [(.ref uc), (.ref us)]))
  refine own_go (fun t k => XS.iconst X0.here hx rfl (hb hby d_j42_3_2) k) ?_
  show own_Go _ _ _ _ (s₁.setTop (mkF m 3 #[.val (.ref us), .val (.ref uc)] [(.int (0 : Int32)), (.ref uc), (.ref us)]))
  refine own_go (fun t k => XS.aloadN X0.here hx rfl (hb hby d_j42_3_3) rfl rfl k) ?_
  show own_Go _ _ _ _ (s₁.setTop (mkF m 4 #[.val (.ref us), .val (.ref uc)] [(.ref uc), (.int (0 : Int32)), (.ref uc), (.ref us)]))
  obtain ⟨cl130, Ar130, qk130, sz130, nn130, ha130, gf130⟩ := id A0
  refine own_go (X0.arraylength hx (by rw [e0]; exact Ar130.1) (State.isArrayOf_alike hZ.alike Ar130.2.1) (g := (mkF m 4 #[.val (.ref us), .val (.ref uc)] [(.ref uc), (.int (0 : Int32)), (.ref uc), (.ref us)])) rfl rfl (hb hby d_j42_3_4)) ?_
  rw [len_of sz130 nn130]
  show own_Go _ _ _ _ (s₁.setTop (mkF m 5 #[.val (.ref us), .val (.ref uc)] [(.int (0 : Int32)), (.int (0 : Int32)), (.ref uc), (.ref us)]))
  refine own_go (fun t k => XS.aconstNull X0.here hx rfl (hb hby d_j42_3_5) k) ?_
  show own_Go _ _ _ _ (s₁.setTop (mkF m 6 #[.val (.ref us), .val (.ref uc)] [.null, (.int (0 : Int32)), (.int (0 : Int32)), (.ref uc), (.ref us)]))
  obtain ⟨_, _, ⟨T131, L131, k131, n131⟩, -, X131, hS131, hg131, ⟨Lc131, hQ131, l131, y131, z131, R131⟩, st131⟩ := X0.specialBackS hx (y := (⟨"java/lang/String", "<init>", "([CIILjava/lang/Void;)V"⟩ : MethodName)) rfl hown (mvT hZ (w_7 hw)) (mvT hZ (w_8 hw)) (mvT hZ (w_10 hw)) (by decide) (backOfSH (W := 0) (rm_si0 l Z a0 hw [] us uc h0 n0 Z0 q0 E0 V0 Cd0) hZ (w_10 hw) (w_2 hw) (by decide) (by decide) (own_EW hw) C0.1) (g := (mkF m 6 #[.val (.ref us), .val (.ref uc)] [.null, (.int (0 : Int32)), (.int (0 : Int32)), (.ref uc), (.ref us)])) rfl (by rw [hml]; rfl) (Steps.refl _) (a := us) (argsL := [(.ref uc), (.int (0 : Int32)), (.int (0 : Int32)), .null]) (rest := []) (lenOf pd_2 rfl) rfl (by show 2 * 0 + _ ≤ _; exact Nat.le_of_eq rfl) (hb hby d_j42_3_6) (fun _ _ => ⟨rfl, e0, (by decide : 0 + 4 ≤ _), (by decide : 0 + 8 ≤ _)⟩)
  dsimp only [Pt.U, Pt.locs, Pt.cells, Pt.slots] at X131 l131 y131 z131 st131 hQ131 hS131 hg131 R131
  replace hS := foldS hS (Nat.le_trans hk (Nat.le_of_eq (congrArg Array.size e0.symm))) hS131 hg131
  have hZ := State.Warmed39.trans hZ hS131.1
  have hown : T131.vm.findClass "java/lang/String" = some m.cls := by rw [hS131.1.alike.findClass]; exact hown
  replace X131 : Stand p l e ({ frames := 2, cells := 4, slots := 8, locals := 29 } : Room) (s.setVm T131.vm) m #[(.ref us), (.ref uc)] below meth c T131 _ _ _ := X131
  subst l131 y131 z131
  generalize e131 : T131.heap = h131 at hQ131 R131
  obtain ⟨rfl, N131q, K131q⟩ := hQ131
  have hk : T131.heap.size ≤ h131.size := Nat.le_of_eq (by rw [e131])
  have N131 := Fr.app N0 N131q
  refine own_go (fun t k => st131.trans k) ?_
  have C131 := C0.trans R131
  have Z131 : n0 ≤ h131.size := (Nat.le_trans Z0 K131q.1)
  have K131 : Keep h0 h131 [us] := (Keep.refl h0 [us]).trans K131q (allS (Or.inl (List.mem_of_getElem? (i := 0) rfl)) all0)
  show own_Go _ _ _ _ (T131.setTop (mkF m 9 #[.val (.ref us), .val (.ref uc)] []))
  refine own_retVH X131 hx hS (Nat.le_trans hk (Nat.le_of_eq (congrArg Array.size e131.symm))) (by rw [hh, e131]; exact C131.trans (CHv.at X131 hZ (own_EW hw) C131.1)) hlk hret (hb hby d_j42_3_9) ?_ (by decide) (by decide)
  rw [e131]
  exact ⟨rfl, N131, K131⟩
def Q_cp2 (Z : State) (uc : Addr) (kc : ClassId) (ub : Addr) (kb : ClassId) (c0_ : Int32) (c1_ : Int32) (h0 : Heap) (n0 : Nat) (v : Option Value) (h : Heap) (L : List Loc) : Prop := v = some (.int 2) ∧ Fr n0 L ∧ Keep h0 h [ub] ∧ Arv Z h ub kb .byte (2 : Int32) [(.int (c0_.toInt8.toInt32)), (.int (c1_.toInt8.toInt32))] (.int (0 : Int32))
theorem ef_cp2 (m : MethodId) (uc : Addr) (ub : Addr) : entryFrame m #[(.ref uc), (.int (0 : Int32)), (.ref ub), (.int (0 : Int32)), (.int (2 : Int32))] 7 = mkF m 0 #[.val (.ref uc), .val (.int (0 : Int32)), .val (.ref ub), .val (.int (0 : Int32)), .val (.int (2 : Int32)), .unset, .unset] [] := by first | (simp [entryFrame, mkF, argsToLocals, Value.category]; done) | rfl
theorem pn_3 : plainName "java/lang/StringUTF16" = true := by first | (simp [plainName, overriddenIn]; done) | decide +kernel
theorem d_j52_21_0 : decode jdk_52_method_21_code 0 = .ok (.iconst 0, 1) := by decide +kernel
theorem d_j52_21_1 : decode jdk_52_method_21_code 1 = .ok (.istore 5, 2) := by decide +kernel
theorem d_j52_21_3 : decode jdk_52_method_21_code 3 = .ok (.iload 5, 2) := by decide +kernel
theorem d_j52_21_5 : decode jdk_52_method_21_code 5 = .ok (.iload 4, 2) := by decide +kernel
theorem d_j52_21_7 : decode jdk_52_method_21_code 7 = .ok (.if_icmp .ge 37, 3) := by decide +kernel
theorem d_j52_21_10 : decode jdk_52_method_21_code 10 = .ok (.aload_n 0, 1) := by decide +kernel
theorem d_j52_21_11 : decode jdk_52_method_21_code 11 = .ok (.iload_n 1, 1) := by decide +kernel
theorem d_j52_21_12 : decode jdk_52_method_21_code 12 = .ok (.caload, 1) := by decide +kernel
theorem d_j52_21_13 : decode jdk_52_method_21_code 13 = .ok (.istore 6, 2) := by decide +kernel
theorem d_j52_21_15 : decode jdk_52_method_21_code 15 = .ok (.iload 6, 2) := by decide +kernel
theorem d_j52_21_17 : decode jdk_52_method_21_code 17 = .ok (.sipush 255, 3) := by decide +kernel
theorem d_j52_21_20 : decode jdk_52_method_21_code 20 = .ok (.if_icmp .le 6, 3) := by decide +kernel
theorem d_j52_21_26 : decode jdk_52_method_21_code 26 = .ok (.aload_n 2, 1) := by decide +kernel
theorem d_j52_21_27 : decode jdk_52_method_21_code 27 = .ok (.iload_n 3, 1) := by decide +kernel
theorem d_j52_21_28 : decode jdk_52_method_21_code 28 = .ok (.iload 6, 2) := by decide +kernel
theorem d_j52_21_30 : decode jdk_52_method_21_code 30 = .ok (.i2b, 1) := by decide +kernel
theorem d_j52_21_31 : decode jdk_52_method_21_code 31 = .ok (.bastore, 1) := by decide +kernel
theorem d_j52_21_32 : decode jdk_52_method_21_code 32 = .ok (.iinc 1 1, 3) := by decide +kernel
theorem d_j52_21_35 : decode jdk_52_method_21_code 35 = .ok (.iinc 3 1, 3) := by decide +kernel
theorem d_j52_21_38 : decode jdk_52_method_21_code 38 = .ok (.iinc 5 1, 3) := by decide +kernel
theorem d_j52_21_41 : decode jdk_52_method_21_code 41 = .ok (.goto (-38), 3) := by decide +kernel
theorem d_j52_21_44 : decode jdk_52_method_21_code 44 = .ok (.iload 4, 2) := by decide +kernel
theorem d_j52_21_46 : decode jdk_52_method_21_code 46 = .ok (.ireturn, 1) := by decide +kernel
set_option maxRecDepth 65536 in
set_option maxHeartbeats 40000000 in
theorem rm_cp2 (l : Launch) (Z : State) (a0 : Array Value) (hw : ∀ d ∈ tables_1, d.before a0 Z = true) (ws : List Jvm.Cond) (uc : Addr) (kc : ClassId) (ub : Addr) (kb : ClassId) (c0_ c1_ : Int32) (h0 : Heap) (n0 : Nat) (Z0 : n0 ≤ h0.size) (A0 : Arv Z h0 uc kc .char (2 : Int32) [(.int c0_), (.int c1_)] (.int (0 : Int32))) (B0 : Arv Z h0 ub kb .byte (2 : Int32) [(.int (0 : Int32)), (.int (0 : Int32))] (.int (0 : Int32))) (q1 : n0 ≤ ub) (nq : uc ≠ ub) (hc0 : ¬ (255 : Int32) < c0_) (hc1 : ¬ (255 : Int32) < c1_) :
    own_Met l Z (⟨"java/lang/StringUTF16", "compress", "([CI[BII)I"⟩ : MethodName) jdk_52_method_21_code 7 (some .int) ws ({ frames := 0, cells := 0, slots := 0, locals := 0 } : Room) #[(.ref uc), (.int (0 : Int32)), (.ref ub), (.int (0 : Int32)), (.int (2 : Int32))] h0 (Q_cp2 Z uc kc ub kb c0_ c1_ h0 n0) := by
  refine own_enter (own := "java/lang/StringUTF16") (plainFor_of_name pn_3) rfl ?_
  intro p e s m below meth c s₁ hlk hret hx hby hml hown hnm hZ X0 e0
  have N0 := Fr.nil n0
  refine own_cast (ef_cp2 m uc ub) ?_
  show own_Go _ _ _ _ (s₁.setTop (mkF m 0 #[.val (.ref uc), .val (.int (0 : Int32)), .val (.ref ub), .val (.int (0 : Int32)), .val (.int (2 : Int32)), .unset, .unset] []))
  refine own_go (fun t k => XS.iconst X0.here hx rfl (hb hby d_j52_21_0) k) ?_
  show own_Go _ _ _ _ (s₁.setTop (mkF m 1 #[.val (.ref uc), .val (.int (0 : Int32)), .val (.ref ub), .val (.int (0 : Int32)), .val (.int (2 : Int32)), .unset, .unset] [(.int (0 : Int32))]))
  refine own_go (fun t k => XS.istore X0.here hx rfl (hb hby d_j52_21_1) rfl (l' := #[.val (.ref uc), .val (.int (0 : Int32)), .val (.ref ub), .val (.int (0 : Int32)), .val (.int (2 : Int32)), .val (.int (0 : Int32)), .unset]) rfl k) ?_
  show own_Go _ _ _ _ (s₁.setTop (mkF m 3 #[.val (.ref uc), .val (.int (0 : Int32)), .val (.ref ub), .val (.int (0 : Int32)), .val (.int (2 : Int32)), .val (.int (0 : Int32)), .unset] []))
  refine own_go (fun t k => XS.iload X0.here hx rfl (hb hby d_j52_21_3) rfl k) ?_
  show own_Go _ _ _ _ (s₁.setTop (mkF m 5 #[.val (.ref uc), .val (.int (0 : Int32)), .val (.ref ub), .val (.int (0 : Int32)), .val (.int (2 : Int32)), .val (.int (0 : Int32)), .unset] [(.int (0 : Int32))]))
  refine own_go (fun t k => XS.iload X0.here hx rfl (hb hby d_j52_21_5) rfl k) ?_
  show own_Go _ _ _ _ (s₁.setTop (mkF m 7 #[.val (.ref uc), .val (.int (0 : Int32)), .val (.ref ub), .val (.int (0 : Int32)), .val (.int (2 : Int32)), .val (.int (0 : Int32)), .unset] [(.int (2 : Int32)), (.int (0 : Int32))]))
  refine own_go (fun t k => XS.icmpNo X0.here hx rfl (hb hby d_j52_21_7) rfl (tlt (by decide : (0 : Int32) < (2 : Int32))).2.1 k) ?_
  show own_Go _ _ _ _ (s₁.setTop (mkF m 10 #[.val (.ref uc), .val (.int (0 : Int32)), .val (.ref ub), .val (.int (0 : Int32)), .val (.int (2 : Int32)), .val (.int (0 : Int32)), .unset] []))
  refine own_go (fun t k => XS.aloadN X0.here hx rfl (hb hby d_j52_21_10) rfl rfl k) ?_
  show own_Go _ _ _ _ (s₁.setTop (mkF m 11 #[.val (.ref uc), .val (.int (0 : Int32)), .val (.ref ub), .val (.int (0 : Int32)), .val (.int (2 : Int32)), .val (.int (0 : Int32)), .unset] [(.ref uc)]))
  refine own_go (fun t k => XS.iloadN X0.here hx rfl (hb hby d_j52_21_11) rfl k) ?_
  show own_Go _ _ _ _ (s₁.setTop (mkF m 12 #[.val (.ref uc), .val (.int (0 : Int32)), .val (.ref ub), .val (.int (0 : Int32)), .val (.int (2 : Int32)), .val (.int (0 : Int32)), .unset] [(.int (0 : Int32)), (.ref uc)]))
  obtain ⟨cl132, Ar132, qk132, sz132, nn132, ha132, gf132⟩ := id A0
  have hin132 : ¬ ((0 : Int32) < 0 ∨ cl132.slots.size ≤ ((0 : Int32)).toNatClampNeg) := inb_of sz132 ⟨by decide, by decide⟩
  have hat132 : cl132.slots[((0 : Int32)).toNatClampNeg]? = some (.int c0_) := ha132.at hin132 rfl
  refine own_go (X0.caload hx (j := (0 : Int32)) (v := (.int c0_)) (by rw [e0]; exact Ar132.1) (State.isArrayOf_alike hZ.alike Ar132.2.1) Ar132.2.2 hin132 hat132 (g := (mkF m 12 #[.val (.ref uc), .val (.int (0 : Int32)), .val (.ref ub), .val (.int (0 : Int32)), .val (.int (2 : Int32)), .val (.int (0 : Int32)), .unset] [(.int (0 : Int32)), (.ref uc)])) rfl rfl (hb hby d_j52_21_12)) ?_
  show own_Go _ _ _ _ (s₁.setTop (mkF m 13 #[.val (.ref uc), .val (.int (0 : Int32)), .val (.ref ub), .val (.int (0 : Int32)), .val (.int (2 : Int32)), .val (.int (0 : Int32)), .unset] [(.int c0_)]))
  refine own_go (fun t k => XS.istore X0.here hx rfl (hb hby d_j52_21_13) rfl (l' := #[.val (.ref uc), .val (.int (0 : Int32)), .val (.ref ub), .val (.int (0 : Int32)), .val (.int (2 : Int32)), .val (.int (0 : Int32)), .val (.int c0_)]) rfl k) ?_
  show own_Go _ _ _ _ (s₁.setTop (mkF m 15 #[.val (.ref uc), .val (.int (0 : Int32)), .val (.ref ub), .val (.int (0 : Int32)), .val (.int (2 : Int32)), .val (.int (0 : Int32)), .val (.int c0_)] []))
  refine own_go (fun t k => XS.iload X0.here hx rfl (hb hby d_j52_21_15) rfl k) ?_
  show own_Go _ _ _ _ (s₁.setTop (mkF m 17 #[.val (.ref uc), .val (.int (0 : Int32)), .val (.ref ub), .val (.int (0 : Int32)), .val (.int (2 : Int32)), .val (.int (0 : Int32)), .val (.int c0_)] [(.int c0_)]))
  refine own_go (fun t k => XS.sipush X0.here hx rfl (hb hby d_j52_21_17) k) ?_
  show own_Go _ _ _ _ (s₁.setTop (mkF m 20 #[.val (.ref uc), .val (.int (0 : Int32)), .val (.ref ub), .val (.int (0 : Int32)), .val (.int (2 : Int32)), .val (.int (0 : Int32)), .val (.int c0_)] [(.int (255 : Int32)), (.int c0_)]))
  refine own_go (fun t k => XS.icmpYes X0.here hx rfl (pc0 := 20) (pc' := 26) rfl (hb hby d_j52_21_20) rfl (flt hc0).2.2.2 (by decide) (by decide) k) ?_
  show own_Go _ _ _ _ (s₁.setTop (mkF m 26 #[.val (.ref uc), .val (.int (0 : Int32)), .val (.ref ub), .val (.int (0 : Int32)), .val (.int (2 : Int32)), .val (.int (0 : Int32)), .val (.int c0_)] []))
  refine own_go (fun t k => XS.aloadN X0.here hx rfl (hb hby d_j52_21_26) rfl rfl k) ?_
  show own_Go _ _ _ _ (s₁.setTop (mkF m 27 #[.val (.ref uc), .val (.int (0 : Int32)), .val (.ref ub), .val (.int (0 : Int32)), .val (.int (2 : Int32)), .val (.int (0 : Int32)), .val (.int c0_)] [(.ref ub)]))
  refine own_go (fun t k => XS.iloadN X0.here hx rfl (hb hby d_j52_21_27) rfl k) ?_
  show own_Go _ _ _ _ (s₁.setTop (mkF m 28 #[.val (.ref uc), .val (.int (0 : Int32)), .val (.ref ub), .val (.int (0 : Int32)), .val (.int (2 : Int32)), .val (.int (0 : Int32)), .val (.int c0_)] [(.int (0 : Int32)), (.ref ub)]))
  refine own_go (fun t k => XS.iload X0.here hx rfl (hb hby d_j52_21_28) rfl k) ?_
  show own_Go _ _ _ _ (s₁.setTop (mkF m 30 #[.val (.ref uc), .val (.int (0 : Int32)), .val (.ref ub), .val (.int (0 : Int32)), .val (.int (2 : Int32)), .val (.int (0 : Int32)), .val (.int c0_)] [(.int c0_), (.int (0 : Int32)), (.ref ub)]))
  refine own_go (fun t k => XS.i2b X0.here hx rfl (hb hby d_j52_21_30) rfl k) ?_
  show own_Go _ _ _ _ (s₁.setTop (mkF m 31 #[.val (.ref uc), .val (.int (0 : Int32)), .val (.ref ub), .val (.int (0 : Int32)), .val (.int (2 : Int32)), .val (.int (0 : Int32)), .val (.int c0_)] [(.int (c0_.toInt8.toInt32)), (.int (0 : Int32)), (.ref ub)]))
  obtain ⟨cl133, Ar133, qk133, sz133, nn133, ha133, gf133⟩ := id B0
  have hin133 : ¬ ((0 : Int32) < 0 ∨ cl133.slots.size ≤ ((0 : Int32)).toNatClampNeg) := inb_of sz133 ⟨by decide, by decide⟩
  obtain ⟨T134, h134, X134, e134, W134, st134⟩ := stB X0 hx hZ e0 Ar133 (j := (0 : Int32)) hin133 (g := (mkF m 31 #[.val (.ref uc), .val (.int (0 : Int32)), .val (.ref ub), .val (.int (0 : Int32)), .val (.int (2 : Int32)), .val (.int (0 : Int32)), .val (.int c0_)] [(.int (c0_.toInt8.toInt32)), (.int (0 : Int32)), (.ref ub)])) rfl rfl (hb hby d_j52_21_31)
  refine own_go st134 ?_
  rw [show nar .byte (c0_.toInt8.toInt32) = (c0_.toInt8.toInt32) from own_b8 _] at W134
  have V134 : Arv Z h134 ub kb .byte (2 : Int32) [(.int (c0_.toInt8.toInt32)), (.int (0 : Int32))] (.int (0 : Int32)) := Arv.set Ar133 qk133 sz133 nn133 ha133 gf133 (fits_nar_byte _) W134 0 rfl (Nat.le_of_ble_eq_true rfl)
  have Z134 : n0 ≤ h134.size := (Nat.le_trans Z0 (Nat.le_of_eq W134.size.symm))
  have N134 := Fr.snoc X134 N0 q1
  have K134 : Keep h0 h134 [ub] := (Keep.refl h0 [ub]).wr W134 (Or.inl (List.mem_of_getElem? (i := 0) rfl))
  show own_Go _ _ _ _ (T134.setTop (mkF m 32 #[.val (.ref uc), .val (.int (0 : Int32)), .val (.ref ub), .val (.int (0 : Int32)), .val (.int (2 : Int32)), .val (.int (0 : Int32)), .val (.int c0_)] []))
  refine own_go (fun t k => XS.iinc X134.here hx rfl (hb hby d_j52_21_32) rfl (l' := #[.val (.ref uc), .val (.int ((0 : Int32) + (1 : Int32))), .val (.ref ub), .val (.int (0 : Int32)), .val (.int (2 : Int32)), .val (.int (0 : Int32)), .val (.int c0_)]) rfl k) ?_
  show own_Go _ _ _ _ (T134.setTop (mkF m 35 #[.val (.ref uc), .val (.int (1 : Int32)), .val (.ref ub), .val (.int (0 : Int32)), .val (.int (2 : Int32)), .val (.int (0 : Int32)), .val (.int c0_)] []))
  refine own_go (fun t k => XS.iinc X134.here hx rfl (hb hby d_j52_21_35) rfl (l' := #[.val (.ref uc), .val (.int (1 : Int32)), .val (.ref ub), .val (.int ((0 : Int32) + (1 : Int32))), .val (.int (2 : Int32)), .val (.int (0 : Int32)), .val (.int c0_)]) rfl k) ?_
  show own_Go _ _ _ _ (T134.setTop (mkF m 38 #[.val (.ref uc), .val (.int (1 : Int32)), .val (.ref ub), .val (.int (1 : Int32)), .val (.int (2 : Int32)), .val (.int (0 : Int32)), .val (.int c0_)] []))
  refine own_go (fun t k => XS.iinc X134.here hx rfl (hb hby d_j52_21_38) rfl (l' := #[.val (.ref uc), .val (.int (1 : Int32)), .val (.ref ub), .val (.int (1 : Int32)), .val (.int (2 : Int32)), .val (.int ((0 : Int32) + (1 : Int32))), .val (.int c0_)]) rfl k) ?_
  show own_Go _ _ _ _ (T134.setTop (mkF m 41 #[.val (.ref uc), .val (.int (1 : Int32)), .val (.ref ub), .val (.int (1 : Int32)), .val (.int (2 : Int32)), .val (.int (1 : Int32)), .val (.int c0_)] []))
  refine own_go (fun t k => XS.goto X134.here hx rfl (pc0 := 41) (pc' := 3) rfl (hb hby d_j52_21_41) (by decide) (by decide) k) ?_
  show own_Go _ _ _ _ (T134.setTop (mkF m 3 #[.val (.ref uc), .val (.int (1 : Int32)), .val (.ref ub), .val (.int (1 : Int32)), .val (.int (2 : Int32)), .val (.int (1 : Int32)), .val (.int c0_)] []))
  refine own_go (fun t k => XS.iload X134.here hx rfl (hb hby d_j52_21_3) rfl k) ?_
  show own_Go _ _ _ _ (T134.setTop (mkF m 5 #[.val (.ref uc), .val (.int (1 : Int32)), .val (.ref ub), .val (.int (1 : Int32)), .val (.int (2 : Int32)), .val (.int (1 : Int32)), .val (.int c0_)] [(.int (1 : Int32))]))
  refine own_go (fun t k => XS.iload X134.here hx rfl (hb hby d_j52_21_5) rfl k) ?_
  show own_Go _ _ _ _ (T134.setTop (mkF m 7 #[.val (.ref uc), .val (.int (1 : Int32)), .val (.ref ub), .val (.int (1 : Int32)), .val (.int (2 : Int32)), .val (.int (1 : Int32)), .val (.int c0_)] [(.int (2 : Int32)), (.int (1 : Int32))]))
  refine own_go (fun t k => XS.icmpNo X134.here hx rfl (hb hby d_j52_21_7) rfl (tlt (by decide : (1 : Int32) < (2 : Int32))).2.1 k) ?_
  show own_Go _ _ _ _ (T134.setTop (mkF m 10 #[.val (.ref uc), .val (.int (1 : Int32)), .val (.ref ub), .val (.int (1 : Int32)), .val (.int (2 : Int32)), .val (.int (1 : Int32)), .val (.int c0_)] []))
  refine own_go (fun t k => XS.aloadN X134.here hx rfl (hb hby d_j52_21_10) rfl rfl k) ?_
  show own_Go _ _ _ _ (T134.setTop (mkF m 11 #[.val (.ref uc), .val (.int (1 : Int32)), .val (.ref ub), .val (.int (1 : Int32)), .val (.int (2 : Int32)), .val (.int (1 : Int32)), .val (.int c0_)] [(.ref uc)]))
  refine own_go (fun t k => XS.iloadN X134.here hx rfl (hb hby d_j52_21_11) rfl k) ?_
  show own_Go _ _ _ _ (T134.setTop (mkF m 12 #[.val (.ref uc), .val (.int (1 : Int32)), .val (.ref ub), .val (.int (1 : Int32)), .val (.int (2 : Int32)), .val (.int (1 : Int32)), .val (.int c0_)] [(.int (1 : Int32)), (.ref uc)]))
  obtain ⟨cl135, Ar135, qk135, sz135, nn135, ha135, gf135⟩ := id (A0.other W134 nq)
  have hin135 : ¬ ((1 : Int32) < 0 ∨ cl135.slots.size ≤ ((1 : Int32)).toNatClampNeg) := inb_of sz135 ⟨by decide, by decide⟩
  have hat135 : cl135.slots[((1 : Int32)).toNatClampNeg]? = some (.int c1_) := ha135.at hin135 rfl
  refine own_go (X134.caload hx (j := (1 : Int32)) (v := (.int c1_)) (by rw [e134]; exact Ar135.1) (State.isArrayOf_alike hZ.alike Ar135.2.1) Ar135.2.2 hin135 hat135 (g := (mkF m 12 #[.val (.ref uc), .val (.int (1 : Int32)), .val (.ref ub), .val (.int (1 : Int32)), .val (.int (2 : Int32)), .val (.int (1 : Int32)), .val (.int c0_)] [(.int (1 : Int32)), (.ref uc)])) rfl rfl (hb hby d_j52_21_12)) ?_
  show own_Go _ _ _ _ (T134.setTop (mkF m 13 #[.val (.ref uc), .val (.int (1 : Int32)), .val (.ref ub), .val (.int (1 : Int32)), .val (.int (2 : Int32)), .val (.int (1 : Int32)), .val (.int c0_)] [(.int c1_)]))
  refine own_go (fun t k => XS.istore X134.here hx rfl (hb hby d_j52_21_13) rfl (l' := #[.val (.ref uc), .val (.int (1 : Int32)), .val (.ref ub), .val (.int (1 : Int32)), .val (.int (2 : Int32)), .val (.int (1 : Int32)), .val (.int c1_)]) rfl k) ?_
  show own_Go _ _ _ _ (T134.setTop (mkF m 15 #[.val (.ref uc), .val (.int (1 : Int32)), .val (.ref ub), .val (.int (1 : Int32)), .val (.int (2 : Int32)), .val (.int (1 : Int32)), .val (.int c1_)] []))
  refine own_go (fun t k => XS.iload X134.here hx rfl (hb hby d_j52_21_15) rfl k) ?_
  show own_Go _ _ _ _ (T134.setTop (mkF m 17 #[.val (.ref uc), .val (.int (1 : Int32)), .val (.ref ub), .val (.int (1 : Int32)), .val (.int (2 : Int32)), .val (.int (1 : Int32)), .val (.int c1_)] [(.int c1_)]))
  refine own_go (fun t k => XS.sipush X134.here hx rfl (hb hby d_j52_21_17) k) ?_
  show own_Go _ _ _ _ (T134.setTop (mkF m 20 #[.val (.ref uc), .val (.int (1 : Int32)), .val (.ref ub), .val (.int (1 : Int32)), .val (.int (2 : Int32)), .val (.int (1 : Int32)), .val (.int c1_)] [(.int (255 : Int32)), (.int c1_)]))
  refine own_go (fun t k => XS.icmpYes X134.here hx rfl (pc0 := 20) (pc' := 26) rfl (hb hby d_j52_21_20) rfl (flt hc1).2.2.2 (by decide) (by decide) k) ?_
  show own_Go _ _ _ _ (T134.setTop (mkF m 26 #[.val (.ref uc), .val (.int (1 : Int32)), .val (.ref ub), .val (.int (1 : Int32)), .val (.int (2 : Int32)), .val (.int (1 : Int32)), .val (.int c1_)] []))
  refine own_go (fun t k => XS.aloadN X134.here hx rfl (hb hby d_j52_21_26) rfl rfl k) ?_
  show own_Go _ _ _ _ (T134.setTop (mkF m 27 #[.val (.ref uc), .val (.int (1 : Int32)), .val (.ref ub), .val (.int (1 : Int32)), .val (.int (2 : Int32)), .val (.int (1 : Int32)), .val (.int c1_)] [(.ref ub)]))
  refine own_go (fun t k => XS.iloadN X134.here hx rfl (hb hby d_j52_21_27) rfl k) ?_
  show own_Go _ _ _ _ (T134.setTop (mkF m 28 #[.val (.ref uc), .val (.int (1 : Int32)), .val (.ref ub), .val (.int (1 : Int32)), .val (.int (2 : Int32)), .val (.int (1 : Int32)), .val (.int c1_)] [(.int (1 : Int32)), (.ref ub)]))
  refine own_go (fun t k => XS.iload X134.here hx rfl (hb hby d_j52_21_28) rfl k) ?_
  show own_Go _ _ _ _ (T134.setTop (mkF m 30 #[.val (.ref uc), .val (.int (1 : Int32)), .val (.ref ub), .val (.int (1 : Int32)), .val (.int (2 : Int32)), .val (.int (1 : Int32)), .val (.int c1_)] [(.int c1_), (.int (1 : Int32)), (.ref ub)]))
  refine own_go (fun t k => XS.i2b X134.here hx rfl (hb hby d_j52_21_30) rfl k) ?_
  show own_Go _ _ _ _ (T134.setTop (mkF m 31 #[.val (.ref uc), .val (.int (1 : Int32)), .val (.ref ub), .val (.int (1 : Int32)), .val (.int (2 : Int32)), .val (.int (1 : Int32)), .val (.int c1_)] [(.int (c1_.toInt8.toInt32)), (.int (1 : Int32)), (.ref ub)]))
  obtain ⟨cl136, Ar136, qk136, sz136, nn136, ha136, gf136⟩ := id V134
  have hin136 : ¬ ((1 : Int32) < 0 ∨ cl136.slots.size ≤ ((1 : Int32)).toNatClampNeg) := inb_of sz136 ⟨by decide, by decide⟩
  obtain ⟨T137, h137, X137, e137, W137, st137⟩ := stB X134 hx hZ e134 Ar136 (j := (1 : Int32)) hin136 (g := (mkF m 31 #[.val (.ref uc), .val (.int (1 : Int32)), .val (.ref ub), .val (.int (1 : Int32)), .val (.int (2 : Int32)), .val (.int (1 : Int32)), .val (.int c1_)] [(.int (c1_.toInt8.toInt32)), (.int (1 : Int32)), (.ref ub)])) rfl rfl (hb hby d_j52_21_31)
  refine own_go st137 ?_
  rw [show nar .byte (c1_.toInt8.toInt32) = (c1_.toInt8.toInt32) from own_b8 _] at W137
  have V137 : Arv Z h137 ub kb .byte (2 : Int32) [(.int (c0_.toInt8.toInt32)), (.int (c1_.toInt8.toInt32))] (.int (0 : Int32)) := Arv.set Ar136 qk136 sz136 nn136 ha136 gf136 (fits_nar_byte _) W137 1 rfl (Nat.le_of_ble_eq_true rfl)
  have Z137 : n0 ≤ h137.size := (Nat.le_trans Z134 (Nat.le_of_eq W137.size.symm))
  have N137 := Fr.snoc X137 N134 q1
  have K137 : Keep h0 h137 [ub] := K134.wr W137 (Or.inl (List.mem_of_getElem? (i := 0) rfl))
  show own_Go _ _ _ _ (T137.setTop (mkF m 32 #[.val (.ref uc), .val (.int (1 : Int32)), .val (.ref ub), .val (.int (1 : Int32)), .val (.int (2 : Int32)), .val (.int (1 : Int32)), .val (.int c1_)] []))
  refine own_go (fun t k => XS.iinc X137.here hx rfl (hb hby d_j52_21_32) rfl (l' := #[.val (.ref uc), .val (.int ((1 : Int32) + (1 : Int32))), .val (.ref ub), .val (.int (1 : Int32)), .val (.int (2 : Int32)), .val (.int (1 : Int32)), .val (.int c1_)]) rfl k) ?_
  show own_Go _ _ _ _ (T137.setTop (mkF m 35 #[.val (.ref uc), .val (.int (2 : Int32)), .val (.ref ub), .val (.int (1 : Int32)), .val (.int (2 : Int32)), .val (.int (1 : Int32)), .val (.int c1_)] []))
  refine own_go (fun t k => XS.iinc X137.here hx rfl (hb hby d_j52_21_35) rfl (l' := #[.val (.ref uc), .val (.int (2 : Int32)), .val (.ref ub), .val (.int ((1 : Int32) + (1 : Int32))), .val (.int (2 : Int32)), .val (.int (1 : Int32)), .val (.int c1_)]) rfl k) ?_
  show own_Go _ _ _ _ (T137.setTop (mkF m 38 #[.val (.ref uc), .val (.int (2 : Int32)), .val (.ref ub), .val (.int (2 : Int32)), .val (.int (2 : Int32)), .val (.int (1 : Int32)), .val (.int c1_)] []))
  refine own_go (fun t k => XS.iinc X137.here hx rfl (hb hby d_j52_21_38) rfl (l' := #[.val (.ref uc), .val (.int (2 : Int32)), .val (.ref ub), .val (.int (2 : Int32)), .val (.int (2 : Int32)), .val (.int ((1 : Int32) + (1 : Int32))), .val (.int c1_)]) rfl k) ?_
  show own_Go _ _ _ _ (T137.setTop (mkF m 41 #[.val (.ref uc), .val (.int (2 : Int32)), .val (.ref ub), .val (.int (2 : Int32)), .val (.int (2 : Int32)), .val (.int (2 : Int32)), .val (.int c1_)] []))
  refine own_go (fun t k => XS.goto X137.here hx rfl (pc0 := 41) (pc' := 3) rfl (hb hby d_j52_21_41) (by decide) (by decide) k) ?_
  show own_Go _ _ _ _ (T137.setTop (mkF m 3 #[.val (.ref uc), .val (.int (2 : Int32)), .val (.ref ub), .val (.int (2 : Int32)), .val (.int (2 : Int32)), .val (.int (2 : Int32)), .val (.int c1_)] []))
  refine own_go (fun t k => XS.iload X137.here hx rfl (hb hby d_j52_21_3) rfl k) ?_
  show own_Go _ _ _ _ (T137.setTop (mkF m 5 #[.val (.ref uc), .val (.int (2 : Int32)), .val (.ref ub), .val (.int (2 : Int32)), .val (.int (2 : Int32)), .val (.int (2 : Int32)), .val (.int c1_)] [(.int (2 : Int32))]))
  refine own_go (fun t k => XS.iload X137.here hx rfl (hb hby d_j52_21_5) rfl k) ?_
  show own_Go _ _ _ _ (T137.setTop (mkF m 7 #[.val (.ref uc), .val (.int (2 : Int32)), .val (.ref ub), .val (.int (2 : Int32)), .val (.int (2 : Int32)), .val (.int (2 : Int32)), .val (.int c1_)] [(.int (2 : Int32)), (.int (2 : Int32))]))
  refine own_go (fun t k => XS.icmpYes X137.here hx rfl (pc0 := 7) (pc' := 44) rfl (hb hby d_j52_21_7) rfl (flt (by decide : ¬ ((2 : Int32) < (2 : Int32)))).2.1 (by decide) (by decide) k) ?_
  show own_Go _ _ _ _ (T137.setTop (mkF m 44 #[.val (.ref uc), .val (.int (2 : Int32)), .val (.ref ub), .val (.int (2 : Int32)), .val (.int (2 : Int32)), .val (.int (2 : Int32)), .val (.int c1_)] []))
  refine own_go (fun t k => XS.iload X137.here hx rfl (hb hby d_j52_21_44) rfl k) ?_
  show own_Go _ _ _ _ (T137.setTop (mkF m 46 #[.val (.ref uc), .val (.int (2 : Int32)), .val (.ref ub), .val (.int (2 : Int32)), .val (.int (2 : Int32)), .val (.int (2 : Int32)), .val (.int c1_)] [(.int (2 : Int32))]))
  refine own_ret X137 hx hlk hret rfl (Or.inl ⟨rfl, Or.inl rfl, _, rfl⟩) (hb hby d_j52_21_46) ?_ (by decide) (by decide)
  rw [e137]
  exact ⟨rfl, N137, K137, V137⟩
def Q_cp3 (Z : State) (uc : Addr) (kc : ClassId) (c0_ : Int32) (c1_ : Int32) (h0 : Heap) (n0 : Nat) (v : Option Value) (h : Heap) (L : List Loc) : Prop := ∃ (ub : Addr) (kb : ClassId), v = some (.ref ub) ∧ Fr n0 L ∧ Keep h0 h [] ∧ h0.size ≤ ub ∧ n0 ≤ ub ∧ Arv Z h ub kb .byte (2 : Int32) [(.int (c0_.toInt8.toInt32)), (.int (c1_.toInt8.toInt32))] (.int (0 : Int32))
theorem ef_cp3 (m : MethodId) (uc : Addr) : entryFrame m #[(.ref uc), (.int (0 : Int32)), (.int (2 : Int32))] 6 = mkF m 0 #[.val (.ref uc), .val (.int (0 : Int32)), .val (.int (2 : Int32)), .unset, .unset, .unset] [] := by first | (simp [entryFrame, mkF, argsToLocals, Value.category]; done) | rfl
theorem d_j52_16_0 : decode jdk_52_method_16_code 0 = .ok (.iload_n 2, 1) := by decide +kernel
theorem w_15 {Z : State} {a0 : Array Value} (hw : ∀ d ∈ tables_1, d.before a0 Z = true) : (Jvm.Cond.arrayClass Jvm.ClassFile.FieldType.byte).before a0 Z = true := hw _ (List.mem_of_getElem? (i := 15) rfl)
theorem d_j52_16_1 : decode jdk_52_method_16_code 1 = .ok (.newarray .byte, 2) := by decide +kernel
theorem d_j52_16_3 : decode jdk_52_method_16_code 3 = .ok (.astore_n 3, 1) := by decide +kernel
theorem d_j52_16_4 : decode jdk_52_method_16_code 4 = .ok (.aload_n 0, 1) := by decide +kernel
theorem d_j52_16_5 : decode jdk_52_method_16_code 5 = .ok (.iload_n 1, 1) := by decide +kernel
theorem d_j52_16_6 : decode jdk_52_method_16_code 6 = .ok (.aload_n 3, 1) := by decide +kernel
theorem d_j52_16_7 : decode jdk_52_method_16_code 7 = .ok (.iconst 0, 1) := by decide +kernel
theorem d_j52_16_8 : decode jdk_52_method_16_code 8 = .ok (.iload_n 2, 1) := by decide +kernel
theorem w_70 {Z : State} {a0 : Array Value} (hw : ∀ d ∈ tables_1, d.before a0 Z = true) : (Jvm.Cond.methodLink "java/lang/StringUTF16" (115 : Nat) ({ cls := "java/lang/StringUTF16", name := "compress", desc := "([CI[BII)I" } : Jvm.MethodName)).before a0 Z = true := hw _ (List.mem_of_getElem? (i := 70) rfl)
theorem w_72 {Z : State} {a0 : Array Value} (hw : ∀ d ∈ tables_1, d.before a0 Z = true) : (Jvm.Cond.code ({ cls := "java/lang/StringUTF16", name := "compress", desc := "([CI[BII)I" } : Jvm.MethodName) jdk_52_method_21_code (7 : Nat) (Option.some Jvm.ClassFile.FieldType.int)).before a0 Z = true := hw _ (List.mem_of_getElem? (i := 72) rfl)
theorem w_68 {Z : State} {a0 : Array Value} (hw : ∀ d ∈ tables_1, d.before a0 Z = true) : (Jvm.Cond.initialized "java/lang/StringUTF16").before a0 Z = true := hw _ (List.mem_of_getElem? (i := 68) rfl)
theorem pd_3 : parseMethodDescriptor "([CI[BII)I" = some ⟨[(.array .char), .int, (.array .byte), .int, .int], some .int⟩ := by decide +kernel
theorem d_j52_16_9 : decode jdk_52_method_16_code 9 = .ok (.invokestatic 115, 3) := by decide +kernel
theorem w_71 {Z : State} {a0 : Array Value} (hw : ∀ d ∈ tables_1, d.before a0 Z = true) : (Jvm.Cond.static ({ cls := "java/lang/StringUTF16", name := "compress", desc := "([CI[BII)I" } : Jvm.MethodName)).before a0 Z = true := hw _ (List.mem_of_getElem? (i := 71) rfl)
theorem d_j52_16_12 : decode jdk_52_method_16_code 12 = .ok (.istore 4, 2) := by decide +kernel
theorem d_j52_16_14 : decode jdk_52_method_16_code 14 = .ok (.iload 4, 2) := by decide +kernel
theorem d_j52_16_16 : decode jdk_52_method_16_code 16 = .ok (.iload_n 2, 1) := by decide +kernel
theorem d_j52_16_17 : decode jdk_52_method_16_code 17 = .ok (.if_icmp .eq 40, 3) := by decide +kernel
theorem d_j52_16_57 : decode jdk_52_method_16_code 57 = .ok (.aload_n 3, 1) := by decide +kernel
theorem d_j52_16_58 : decode jdk_52_method_16_code 58 = .ok (.areturn, 1) := by decide +kernel
set_option maxRecDepth 65536 in
set_option maxHeartbeats 40000000 in
theorem rm_cp3 (l : Launch) (Z : State) (a0 : Array Value) (hw : ∀ d ∈ tables_1, d.before a0 Z = true) (ws : List Jvm.Cond) (uc : Addr) (kc : ClassId) (c0_ c1_ : Int32) (h0 : Heap) (n0 : Nat) (Z0 : n0 ≤ h0.size) (A0 : Arv Z h0 uc kc .char (2 : Int32) [(.int c0_), (.int c1_)] (.int (0 : Int32))) (hc0 : ¬ (255 : Int32) < c0_) (hc1 : ¬ (255 : Int32) < c1_) :
    own_Met l Z (⟨"java/lang/StringUTF16", "compress", "([CII)[B"⟩ : MethodName) jdk_52_method_16_code 6 (some (.array .byte)) ws ({ frames := 1, cells := 1, slots := 2, locals := 18 } : Room) #[(.ref uc), (.int (0 : Int32)), (.int (2 : Int32))] h0 (Q_cp3 Z uc kc c0_ c1_ h0 n0) := by
  refine own_enter (own := "java/lang/StringUTF16") (plainFor_of_name pn_3) rfl ?_
  intro p e s m below meth c s₁ hlk hret hx hby hml hown hnm hZ X0 e0
  have N0 := Fr.nil n0
  refine own_cast (ef_cp3 m uc) ?_
  show own_Go _ _ _ _ (s₁.setTop (mkF m 0 #[.val (.ref uc), .val (.int (0 : Int32)), .val (.int (2 : Int32)), .unset, .unset, .unset] []))
  refine own_go (fun t k => XS.iloadN X0.here hx rfl (hb hby d_j52_16_0) rfl k) ?_
  show own_Go _ _ _ _ (s₁.setTop (mkF m 1 #[.val (.ref uc), .val (.int (0 : Int32)), .val (.int (2 : Int32)), .unset, .unset, .unset] [(.int (2 : Int32))]))
  obtain ⟨T138, h138, k138, X138, e138, E138, A138, st138⟩ := newP (aty := .byte) X0 hx hZ (w_15 hw) e0 (n := (2 : Int32)) (rest := []) (g := (mkF m 1 #[.val (.ref uc), .val (.int (0 : Int32)), .val (.int (2 : Int32)), .unset, .unset, .unset] [(.int (2 : Int32))])) rfl (hb hby d_j52_16_1) rfl (by decide) (cap := 2) (by decide) (by decide) (by decide) (by decide)
  obtain ⟨b138, g138⟩ : ∃ z, z = h0.size := ⟨_, rfl⟩
  rw [← g138] at A138 st138
  refine own_go st138 ?_
  have Z138 : n0 ≤ h138.size := (Nat.le_trans Z0 E138.1)
  have K138 : Keep h0 h138 [] := (Keep.refl h0 []).ext E138
  have lo138 : h0.size ≤ b138 := Nat.le_of_eq g138.symm
  have q138 : n0 ≤ b138 := Nat.le_trans Z0 lo138
  have hi138 : b138 < h138.size := A138.lt
  have V138 : Arv Z h138 b138 k138 .byte (2 : Int32) [(.int (0 : Int32)), (.int (0 : Int32))] (.int (0 : Int32)) := (Arv.new A138 (by decide)).pad (pad_rep [] (.int (0 : Int32)) 2)
  show own_Go _ _ _ _ (T138.setTop (mkF m 3 #[.val (.ref uc), .val (.int (0 : Int32)), .val (.int (2 : Int32)), .unset, .unset, .unset] [(.ref b138)]))
  refine own_go (fun t k => XS.astoreN X138.here hx rfl (hb hby d_j52_16_3) rfl rfl (l' := #[.val (.ref uc), .val (.int (0 : Int32)), .val (.int (2 : Int32)), .val (.ref b138), .unset, .unset]) rfl k) ?_
  show own_Go _ _ _ _ (T138.setTop (mkF m 4 #[.val (.ref uc), .val (.int (0 : Int32)), .val (.int (2 : Int32)), .val (.ref b138), .unset, .unset] []))
  refine own_go (fun t k => XS.aloadN X138.here hx rfl (hb hby d_j52_16_4) rfl rfl k) ?_
  show own_Go _ _ _ _ (T138.setTop (mkF m 5 #[.val (.ref uc), .val (.int (0 : Int32)), .val (.int (2 : Int32)), .val (.ref b138), .unset, .unset] [(.ref uc)]))
  refine own_go (fun t k => XS.iloadN X138.here hx rfl (hb hby d_j52_16_5) rfl k) ?_
  show own_Go _ _ _ _ (T138.setTop (mkF m 6 #[.val (.ref uc), .val (.int (0 : Int32)), .val (.int (2 : Int32)), .val (.ref b138), .unset, .unset] [(.int (0 : Int32)), (.ref uc)]))
  refine own_go (fun t k => XS.aloadN X138.here hx rfl (hb hby d_j52_16_6) rfl rfl k) ?_
  show own_Go _ _ _ _ (T138.setTop (mkF m 7 #[.val (.ref uc), .val (.int (0 : Int32)), .val (.int (2 : Int32)), .val (.ref b138), .unset, .unset] [(.ref b138), (.int (0 : Int32)), (.ref uc)]))
  refine own_go (fun t k => XS.iconst X138.here hx rfl (hb hby d_j52_16_7) k) ?_
  show own_Go _ _ _ _ (T138.setTop (mkF m 8 #[.val (.ref uc), .val (.int (0 : Int32)), .val (.int (2 : Int32)), .val (.ref b138), .unset, .unset] [(.int (0 : Int32)), (.ref b138), (.int (0 : Int32)), (.ref uc)]))
  refine own_go (fun t k => XS.iloadN X138.here hx rfl (hb hby d_j52_16_8) rfl k) ?_
  show own_Go _ _ _ _ (T138.setTop (mkF m 9 #[.val (.ref uc), .val (.int (0 : Int32)), .val (.int (2 : Int32)), .val (.ref b138), .unset, .unset] [(.int (2 : Int32)), (.int (0 : Int32)), (.ref b138), (.int (0 : Int32)), (.ref uc)]))
  obtain ⟨_, _, ⟨T139, L139, k139, n139⟩, -, X139, ⟨Lc139, hQ139, l139, y139, z139⟩, st139⟩ := Jvm.LawKit.callS X138 hx (y := (⟨"java/lang/StringUTF16", "compress", "([CI[BII)I"⟩ : MethodName)) hown (mvT hZ (w_70 hw)) (mvT hZ (w_71 hw)) (mvT hZ (w_68 hw)) (mvT hZ (w_72 hw)) (by decide) (backOf (W := 0) (rm_cp2 l Z a0 hw [] uc kc b138 k138 c0_ c1_ h138 n0 Z138 (A0.ext E138) V138 q138 (Nat.ne_of_lt (Nat.lt_of_lt_of_le A0.lt lo138)) hc0 hc1) hZ (w_72 hw) (w_68 hw) (by decide) (by decide)) (g := (mkF m 9 #[.val (.ref uc), .val (.int (0 : Int32)), .val (.int (2 : Int32)), .val (.ref b138), .unset, .unset] [(.int (2 : Int32)), (.int (0 : Int32)), (.ref b138), (.int (0 : Int32)), (.ref uc)])) rfl (by rw [hml]; rfl) (argsL := [(.ref uc), (.int (0 : Int32)), (.ref b138), (.int (0 : Int32)), (.int (2 : Int32))]) (rest := []) (lenOf pd_3 rfl) rfl (by show 2 * 0 + _ ≤ _; exact Nat.le_of_eq rfl) (hb hby d_j52_16_9) (fun _ _ => ⟨rfl, e138, (by decide : 1 + 0 ≤ _), (by decide : 2 + 0 ≤ _)⟩)
  dsimp only [Pt.U, Pt.locs, Pt.cells, Pt.slots] at X139 l139 y139 z139 st139 hQ139
  subst l139 y139 z139
  generalize e139 : T139.heap = h139 at hQ139
  obtain ⟨rfl, N139q, K139q, VB⟩ := hQ139
  have N139 := Fr.app N0 N139q
  refine own_go st139 ?_
  have Z139 : n0 ≤ h139.size := (Nat.le_trans Z138 K139q.1)
  have K139 : Keep h0 h139 [] := K138.trans K139q (allS (Or.inr lo138) all0)
  show own_Go _ _ _ _ (T139.setTop (mkF m 12 #[.val (.ref uc), .val (.int (0 : Int32)), .val (.int (2 : Int32)), .val (.ref b138), .unset, .unset] [(.int (2 : Int32))]))
  refine own_go (fun t k => XS.istore X139.here hx rfl (hb hby d_j52_16_12) rfl (l' := #[.val (.ref uc), .val (.int (0 : Int32)), .val (.int (2 : Int32)), .val (.ref b138), .val (.int (2 : Int32)), .unset]) rfl k) ?_
  show own_Go _ _ _ _ (T139.setTop (mkF m 14 #[.val (.ref uc), .val (.int (0 : Int32)), .val (.int (2 : Int32)), .val (.ref b138), .val (.int (2 : Int32)), .unset] []))
  refine own_go (fun t k => XS.iload X139.here hx rfl (hb hby d_j52_16_14) rfl k) ?_
  show own_Go _ _ _ _ (T139.setTop (mkF m 16 #[.val (.ref uc), .val (.int (0 : Int32)), .val (.int (2 : Int32)), .val (.ref b138), .val (.int (2 : Int32)), .unset] [(.int (2 : Int32))]))
  refine own_go (fun t k => XS.iloadN X139.here hx rfl (hb hby d_j52_16_16) rfl k) ?_
  show own_Go _ _ _ _ (T139.setTop (mkF m 17 #[.val (.ref uc), .val (.int (0 : Int32)), .val (.int (2 : Int32)), .val (.ref b138), .val (.int (2 : Int32)), .unset] [(.int (2 : Int32)), (.int (2 : Int32))]))
  refine own_go (fun t k => XS.icmpYes X139.here hx rfl (pc0 := 17) (pc' := 57) rfl (hb hby d_j52_16_17) rfl (teq (by decide : (2 : Int32) = (2 : Int32))).1 (by decide) (by decide) k) ?_
  show own_Go _ _ _ _ (T139.setTop (mkF m 57 #[.val (.ref uc), .val (.int (0 : Int32)), .val (.int (2 : Int32)), .val (.ref b138), .val (.int (2 : Int32)), .unset] []))
  refine own_go (fun t k => XS.aloadN X139.here hx rfl (hb hby d_j52_16_57) rfl rfl k) ?_
  show own_Go _ _ _ _ (T139.setTop (mkF m 58 #[.val (.ref uc), .val (.int (0 : Int32)), .val (.int (2 : Int32)), .val (.ref b138), .val (.int (2 : Int32)), .unset] [(.ref b138)]))
  refine own_ret X139 hx hlk hret rfl (Or.inr (Or.inr (Or.inr (Or.inr ⟨rfl, rfl, rfl⟩)))) (hb hby d_j52_16_58) ?_ (by decide) (by decide)
  rw [e139]
  exact ⟨b138, k138, rfl, N139, K139, lo138, q138, VB⟩
def Q_cfl (Z : State) (ub : Addr) (kb : ClassId) (v0_ : Value) (v1_ : Value) (h0 : Heap) (n0 : Nat) (v : Option Value) (h : Heap) (L : List Loc) : Prop := v = some (.int 0) ∧ Fr n0 L ∧ h = h0
theorem ef_cfl (m : MethodId) (ub : Addr) : entryFrame m #[(.ref ub), (.int (2 : Int32))] 2 = mkF m 0 #[.val (.ref ub), .val (.int (2 : Int32))] [] := by first | (simp [entryFrame, mkF, argsToLocals, Value.category]; done) | rfl
theorem d_j52_15_0 : decode jdk_52_method_15_code 0 = .ok (.iload_n 1, 1) := by decide +kernel
theorem d_j52_15_1 : decode jdk_52_method_15_code 1 = .ok (.aload_n 0, 1) := by decide +kernel
theorem d_j52_15_2 : decode jdk_52_method_15_code 2 = .ok (.arraylength, 1) := by decide +kernel
theorem d_j52_15_3 : decode jdk_52_method_15_code 3 = .ok (.isub, 1) := by decide +kernel
theorem d_j52_15_4 : decode jdk_52_method_15_code 4 = .ok (.bipush 31, 2) := by decide +kernel
theorem d_j52_15_6 : decode jdk_52_method_15_code 6 = .ok (.iushr, 1) := by decide +kernel
theorem d_j52_15_7 : decode jdk_52_method_15_code 7 = .ok (.i2b, 1) := by decide +kernel
theorem d_j52_15_8 : decode jdk_52_method_15_code 8 = .ok (.ireturn, 1) := by decide +kernel
set_option maxRecDepth 65536 in
set_option maxHeartbeats 40000000 in
theorem rm_cfl (l : Launch) (Z : State) (a0 : Array Value) (hw : ∀ d ∈ tables_1, d.before a0 Z = true) (ws : List Jvm.Cond) (ub : Addr) (kb : ClassId) (v0_ v1_ : Value) (h0 : Heap) (n0 : Nat) (Z0 : n0 ≤ h0.size) (B0 : Arv Z h0 ub kb .byte (2 : Int32) [v0_, v1_] (.int (0 : Int32))) :
    own_Met l Z (⟨"java/lang/StringUTF16", "coderFromArrayLen", "([BI)B"⟩ : MethodName) jdk_52_method_15_code 2 (some .byte) ws ({ frames := 0, cells := 0, slots := 0, locals := 0 } : Room) #[(.ref ub), (.int (2 : Int32))] h0 (Q_cfl Z ub kb v0_ v1_ h0 n0) := by
  refine own_enter (own := "java/lang/StringUTF16") (plainFor_of_name pn_3) rfl ?_
  intro p e s m below meth c s₁ hlk hret hx hby hml hown hnm hZ X0 e0
  have N0 := Fr.nil n0
  refine own_cast (ef_cfl m ub) ?_
  show own_Go _ _ _ _ (s₁.setTop (mkF m 0 #[.val (.ref ub), .val (.int (2 : Int32))] []))
  refine own_go (fun t k => XS.iloadN X0.here hx rfl (hb hby d_j52_15_0) rfl k) ?_
  show own_Go _ _ _ _ (s₁.setTop (mkF m 1 #[.val (.ref ub), .val (.int (2 : Int32))] [(.int (2 : Int32))]))
  refine own_go (fun t k => XS.aloadN X0.here hx rfl (hb hby d_j52_15_1) rfl rfl k) ?_
  show own_Go _ _ _ _ (s₁.setTop (mkF m 2 #[.val (.ref ub), .val (.int (2 : Int32))] [(.ref ub), (.int (2 : Int32))]))
  obtain ⟨cl140, Ar140, qk140, sz140, nn140, ha140, gf140⟩ := id B0
  refine own_go (X0.arraylength hx (by rw [e0]; exact Ar140.1) (State.isArrayOf_alike hZ.alike Ar140.2.1) (g := (mkF m 2 #[.val (.ref ub), .val (.int (2 : Int32))] [(.ref ub), (.int (2 : Int32))])) rfl rfl (hb hby d_j52_15_2)) ?_
  rw [len_of sz140 nn140]
  show own_Go _ _ _ _ (s₁.setTop (mkF m 3 #[.val (.ref ub), .val (.int (2 : Int32))] [(.int (2 : Int32)), (.int (2 : Int32))]))
  refine own_go (fun t k => XS.isub X0.here hx rfl (hb hby d_j52_15_3) rfl k) ?_
  show own_Go _ _ _ _ (s₁.setTop (mkF m 4 #[.val (.ref ub), .val (.int (2 : Int32))] [(.int (0 : Int32))]))
  refine own_go (fun t k => XS.bipush X0.here hx rfl (hb hby d_j52_15_4) k) ?_
  show own_Go _ _ _ _ (s₁.setTop (mkF m 6 #[.val (.ref ub), .val (.int (2 : Int32))] [(.int (31 : Int32)), (.int (0 : Int32))]))
  refine own_go (fun t k => XS.iushr X0.here hx rfl (hb hby d_j52_15_6) rfl k) ?_
  show own_Go _ _ _ _ (s₁.setTop (mkF m 7 #[.val (.ref ub), .val (.int (2 : Int32))] [(.int (0 : Int32))]))
  refine own_go (fun t k => XS.i2b X0.here hx rfl (hb hby d_j52_15_7) rfl k) ?_
  show own_Go _ _ _ _ (s₁.setTop (mkF m 8 #[.val (.ref ub), .val (.int (2 : Int32))] [(.int (0 : Int32))]))
  refine own_retN X0 hx hlk (t := .byte) hret (by simp) (hb hby d_j52_15_8) ?_ (by decide) (by decide)
  rw [e0]
  exact ⟨rfl, N0, rfl⟩
def Q_si2 (Z : State) (us : Addr) (uc : Addr) (kc : ClassId) (c0_ : Int32) (c1_ : Int32) (zv : Int32) (h0 : Heap) (n0 : Nat) (v : Option Value) (h : Heap) (L : List Loc) : Prop := v = none ∧ Fr n0 L ∧ Keep h0 h [us]
theorem ef_si2 (m : MethodId) (us : Addr) (uc : Addr) : entryFrame m #[(.ref us), (.ref uc), (.int (0 : Int32)), (.int (2 : Int32)), .null] 6 = mkF m 0 #[.val (.ref us), .val (.ref uc), .val (.int (0 : Int32)), .val (.int (2 : Int32)), .val .null, .unset] [] := by first | (simp [entryFrame, mkF, argsToLocals, Value.category]; done) | rfl
theorem w_54 {Z : State} {a0 : Array Value} (hw : ∀ d ∈ tables_1, d.before a0 Z = true) : (Jvm.Cond.fieldLink "java/lang/String" (38 : Nat) "java/lang/String" "COMPACT_STRINGS" "Z").before a0 Z = true := hw _ (List.mem_of_getElem? (i := 54) rfl)
theorem d_j42_149_27 : decode jdk_42_method_149_code 27 = .ok (.getstatic 38, 3) := by decide +kernel
theorem d_j42_149_30 : decode jdk_42_method_149_code 30 = .ok (.ifCond .eq 28, 3) := by decide +kernel
theorem d_j42_149_33 : decode jdk_42_method_149_code 33 = .ok (.aload_n 1, 1) := by decide +kernel
theorem d_j42_149_34 : decode jdk_42_method_149_code 34 = .ok (.iload_n 2, 1) := by decide +kernel
theorem d_j42_149_35 : decode jdk_42_method_149_code 35 = .ok (.iload_n 3, 1) := by decide +kernel
theorem w_66 {Z : State} {a0 : Array Value} (hw : ∀ d ∈ tables_1, d.before a0 Z = true) : (Jvm.Cond.methodLink "java/lang/String" (177 : Nat) ({ cls := "java/lang/StringUTF16", name := "compress", desc := "([CII)[B" } : Jvm.MethodName)).before a0 Z = true := hw _ (List.mem_of_getElem? (i := 66) rfl)
theorem w_69 {Z : State} {a0 : Array Value} (hw : ∀ d ∈ tables_1, d.before a0 Z = true) : (Jvm.Cond.code ({ cls := "java/lang/StringUTF16", name := "compress", desc := "([CII)[B" } : Jvm.MethodName) jdk_52_method_16_code (6 : Nat) (Option.some (Jvm.ClassFile.FieldType.array Jvm.ClassFile.FieldType.byte))).before a0 Z = true := hw _ (List.mem_of_getElem? (i := 69) rfl)
theorem pd_4 : parseMethodDescriptor "([CII)[B" = some ⟨[(.array .char), .int, .int], some (.array .byte)⟩ := by decide +kernel
theorem d_j42_149_36 : decode jdk_42_method_149_code 36 = .ok (.invokestatic 177, 3) := by decide +kernel
theorem w_67 {Z : State} {a0 : Array Value} (hw : ∀ d ∈ tables_1, d.before a0 Z = true) : (Jvm.Cond.static ({ cls := "java/lang/StringUTF16", name := "compress", desc := "([CII)[B" } : Jvm.MethodName)).before a0 Z = true := hw _ (List.mem_of_getElem? (i := 67) rfl)
theorem d_j42_149_39 : decode jdk_42_method_149_code 39 = .ok (.astore 5, 2) := by decide +kernel
theorem d_j42_149_41 : decode jdk_42_method_149_code 41 = .ok (.aload_n 0, 1) := by decide +kernel
theorem d_j42_149_42 : decode jdk_42_method_149_code 42 = .ok (.aload 5, 2) := by decide +kernel
theorem d_j42_149_44 : decode jdk_42_method_149_code 44 = .ok (.iload_n 3, 1) := by decide +kernel
theorem w_73 {Z : State} {a0 : Array Value} (hw : ∀ d ∈ tables_1, d.before a0 Z = true) : (Jvm.Cond.methodLink "java/lang/String" (47 : Nat) ({ cls := "java/lang/StringUTF16", name := "coderFromArrayLen", desc := "([BI)B" } : Jvm.MethodName)).before a0 Z = true := hw _ (List.mem_of_getElem? (i := 73) rfl)
theorem w_75 {Z : State} {a0 : Array Value} (hw : ∀ d ∈ tables_1, d.before a0 Z = true) : (Jvm.Cond.code ({ cls := "java/lang/StringUTF16", name := "coderFromArrayLen", desc := "([BI)B" } : Jvm.MethodName) jdk_52_method_15_code (2 : Nat) (Option.some Jvm.ClassFile.FieldType.byte)).before a0 Z = true := hw _ (List.mem_of_getElem? (i := 75) rfl)
theorem pd_5 : parseMethodDescriptor "([BI)B" = some ⟨[(.array .byte), .int], some .byte⟩ := by decide +kernel
theorem d_j42_149_45 : decode jdk_42_method_149_code 45 = .ok (.invokestatic 47, 3) := by decide +kernel
theorem w_74 {Z : State} {a0 : Array Value} (hw : ∀ d ∈ tables_1, d.before a0 Z = true) : (Jvm.Cond.static ({ cls := "java/lang/StringUTF16", name := "coderFromArrayLen", desc := "([BI)B" } : Jvm.MethodName)).before a0 Z = true := hw _ (List.mem_of_getElem? (i := 74) rfl)
theorem d_j42_149_48 : decode jdk_42_method_149_code 48 = .ok (.putfield 15, 3) := by decide +kernel
theorem d_j42_149_51 : decode jdk_42_method_149_code 51 = .ok (.aload_n 0, 1) := by decide +kernel
theorem d_j42_149_52 : decode jdk_42_method_149_code 52 = .ok (.aload 5, 2) := by decide +kernel
theorem d_j42_149_54 : decode jdk_42_method_149_code 54 = .ok (.putfield 9, 3) := by decide +kernel
theorem d_j42_149_57 : decode jdk_42_method_149_code 57 = .ok (.return_, 1) := by decide +kernel
set_option maxRecDepth 65536 in
set_option maxHeartbeats 40000000 in
theorem rm_si2 (l : Launch) (Z : State) (a0 : Array Value) (hw : ∀ d ∈ tables_1, d.before a0 Z = true) (ws : List Jvm.Cond) (us uc : Addr) (kc : ClassId) (c0_ c1_ zv : Int32) (h0 : Heap) (n0 : Nat) (Z0 : n0 ≤ h0.size) (q0 : n0 ≤ us) (E0 : Exa Z h0 us "java/lang/String") (V0 : Fld Z h0 us "java/lang/String" "value" "[B" .null) (Cd0 : Fld Z h0 us "java/lang/String" "coder" "B" (.int (0 : Int32))) (A0 : Arv Z h0 uc kc .char (2 : Int32) [(.int c0_), (.int c1_)] (.int (0 : Int32))) (hc0 : ¬ (255 : Int32) < c0_) (hc1 : ¬ (255 : Int32) < c1_) (O0 : Old Z n0 h0) (hzv : ¬ zv = (0 : Int32)) (S0 : Sta Z Z.heap "java/lang/String" "COMPACT_STRINGS" "Z" (.int zv)) :
    own_Met l Z (⟨"java/lang/String", "<init>", "([CIILjava/lang/Void;)V"⟩ : MethodName) jdk_42_method_149_code 6 none ws ({ frames := 2, cells := 1, slots := 2, locals := 35 } : Room) #[(.ref us), (.ref uc), (.int (0 : Int32)), (.int (2 : Int32)), .null] h0 (Q_si2 Z us uc kc c0_ c1_ zv h0 n0) := by
  refine own_enter (own := "java/lang/String") (plainFor_of_name pn_2) rfl ?_
  intro p e s m below meth c s₁ hlk hret hx hby hml hown hnm hZ X0 e0
  have N0 := Fr.nil n0
  refine own_cast (ef_si2 m us uc) ?_
  show own_Go _ _ _ _ (s₁.setTop (mkF m 0 #[.val (.ref us), .val (.ref uc), .val (.int (0 : Int32)), .val (.int (2 : Int32)), .val .null, .unset] []))
  refine own_go (fun t k => XS.aloadN X0.here hx rfl (hb hby d_j42_149_0) rfl rfl k) ?_
  show own_Go _ _ _ _ (s₁.setTop (mkF m 1 #[.val (.ref us), .val (.ref uc), .val (.int (0 : Int32)), .val (.int (2 : Int32)), .val .null, .unset] [(.ref us)]))
  obtain ⟨T141, X141, e141, st141⟩ := initO X0 hx hZ hown (w_11 hw) (w_12 hw) (w_13 hw) e0 (g := (mkF m 1 #[.val (.ref us), .val (.ref uc), .val (.int (0 : Int32)), .val (.int (2 : Int32)), .val .null, .unset] [(.ref us)])) rfl (by rw [hml]; rfl) rfl (hb hby d_j42_149_1) (by decide) (W := 0) (by show 2 * 0 + _ ≤ _; exact Nat.le_of_eq rfl) (by decide)
  refine own_go st141 ?_
  show own_Go _ _ _ _ (T141.setTop (mkF m 4 #[.val (.ref us), .val (.ref uc), .val (.int (0 : Int32)), .val (.int (2 : Int32)), .val .null, .unset] []))
  refine own_go (fun t k => XS.iloadN X141.here hx rfl (hb hby d_j42_149_4) rfl k) ?_
  show own_Go _ _ _ _ (T141.setTop (mkF m 5 #[.val (.ref us), .val (.ref uc), .val (.int (0 : Int32)), .val (.int (2 : Int32)), .val .null, .unset] [(.int (2 : Int32))]))
  refine own_go (fun t k => XS.ifYes X141.here hx rfl (pc0 := 5) (pc' := 27) rfl (hb hby d_j42_149_5) rfl ((if0 _ _).trans (feq (by decide : ¬ ((2 : Int32) = (0 : Int32)))).2) (by decide) (by decide) k) ?_
  show own_Go _ _ _ _ (T141.setTop (mkF m 27 #[.val (.ref us), .val (.ref uc), .val (.int (0 : Int32)), .val (.int (2 : Int32)), .val .null, .unset] []))
  obtain ⟨T142, X142, e142, st142⟩ := getS2 X141 hx hZ hown (host := "") (Or.inl (w_54 hw)) Via.refl e141 (S0.ext O0.2) (g := (mkF m 27 #[.val (.ref us), .val (.ref uc), .val (.int (0 : Int32)), .val (.int (2 : Int32)), .val .null, .unset] [])) rfl (hb hby d_j42_149_27)
  refine own_go st142 ?_
  show own_Go _ _ _ _ (T142.setTop (mkF m 30 #[.val (.ref us), .val (.ref uc), .val (.int (0 : Int32)), .val (.int (2 : Int32)), .val .null, .unset] [(.int zv)]))
  refine own_go (fun t k => XS.ifNo X142.here hx rfl (hb hby d_j42_149_30) rfl ((if0 _ _).trans (feq hzv).1) k) ?_
  show own_Go _ _ _ _ (T142.setTop (mkF m 33 #[.val (.ref us), .val (.ref uc), .val (.int (0 : Int32)), .val (.int (2 : Int32)), .val .null, .unset] []))
  refine own_go (fun t k => XS.aloadN X142.here hx rfl (hb hby d_j42_149_33) rfl rfl k) ?_
  show own_Go _ _ _ _ (T142.setTop (mkF m 34 #[.val (.ref us), .val (.ref uc), .val (.int (0 : Int32)), .val (.int (2 : Int32)), .val .null, .unset] [(.ref uc)]))
  refine own_go (fun t k => XS.iloadN X142.here hx rfl (hb hby d_j42_149_34) rfl k) ?_
  show own_Go _ _ _ _ (T142.setTop (mkF m 35 #[.val (.ref us), .val (.ref uc), .val (.int (0 : Int32)), .val (.int (2 : Int32)), .val .null, .unset] [(.int (0 : Int32)), (.ref uc)]))
  refine own_go (fun t k => XS.iloadN X142.here hx rfl (hb hby d_j42_149_35) rfl k) ?_
  show own_Go _ _ _ _ (T142.setTop (mkF m 36 #[.val (.ref us), .val (.ref uc), .val (.int (0 : Int32)), .val (.int (2 : Int32)), .val .null, .unset] [(.int (2 : Int32)), (.int (0 : Int32)), (.ref uc)]))
  obtain ⟨_, _, ⟨T143, L143, k143, n143⟩, -, X143, ⟨Lc143, hQ143, l143, y143, z143⟩, st143⟩ := Jvm.LawKit.callS X142 hx (y := (⟨"java/lang/StringUTF16", "compress", "([CII)[B"⟩ : MethodName)) hown (mvT hZ (w_66 hw)) (mvT hZ (w_67 hw)) (mvT hZ (w_68 hw)) (mvT hZ (w_69 hw)) (by decide) (backOf (W := 0) (rm_cp3 l Z a0 hw [] uc kc c0_ c1_ h0 n0 Z0 A0 hc0 hc1) hZ (w_69 hw) (w_68 hw) (by decide) (by decide)) (g := (mkF m 36 #[.val (.ref us), .val (.ref uc), .val (.int (0 : Int32)), .val (.int (2 : Int32)), .val .null, .unset] [(.int (2 : Int32)), (.int (0 : Int32)), (.ref uc)])) rfl (by rw [hml]; rfl) (argsL := [(.ref uc), (.int (0 : Int32)), (.int (2 : Int32))]) (rest := []) (lenOf pd_4 rfl) rfl (by show 2 * 0 + _ ≤ _; exact Nat.le_of_eq rfl) (hb hby d_j42_149_36) (fun _ _ => ⟨rfl, e142, (by decide : 0 + 1 ≤ _), (by decide : 0 + 2 ≤ _)⟩)
  dsimp only [Pt.U, Pt.locs, Pt.cells, Pt.slots] at X143 l143 y143 z143 st143 hQ143
  subst l143 y143 z143
  generalize e143 : T143.heap = h143 at hQ143
  obtain ⟨ub143, kb143, rfl, N143q, K143q, lo143, q143, A143⟩ := hQ143
  have N143 := Fr.app N0 N143q
  refine own_go st143 ?_
  have Z143 : n0 ≤ h143.size := (Nat.le_trans Z0 K143q.1)
  have K143 : Keep h0 h143 [us] := (Keep.refl h0 [us]).trans K143q all0
  have hi143 := A143.lt
  show own_Go _ _ _ _ (T143.setTop (mkF m 39 #[.val (.ref us), .val (.ref uc), .val (.int (0 : Int32)), .val (.int (2 : Int32)), .val .null, .unset] [(.ref ub143)]))
  refine own_go (fun t k => XS.astore X143.here hx rfl (hb hby d_j42_149_39) rfl rfl (l' := #[.val (.ref us), .val (.ref uc), .val (.int (0 : Int32)), .val (.int (2 : Int32)), .val .null, .val (.ref ub143)]) rfl k) ?_
  show own_Go _ _ _ _ (T143.setTop (mkF m 41 #[.val (.ref us), .val (.ref uc), .val (.int (0 : Int32)), .val (.int (2 : Int32)), .val .null, .val (.ref ub143)] []))
  refine own_go (fun t k => XS.aloadN X143.here hx rfl (hb hby d_j42_149_41) rfl rfl k) ?_
  show own_Go _ _ _ _ (T143.setTop (mkF m 42 #[.val (.ref us), .val (.ref uc), .val (.int (0 : Int32)), .val (.int (2 : Int32)), .val .null, .val (.ref ub143)] [(.ref us)]))
  refine own_go (fun t k => XS.aload X143.here hx rfl (hb hby d_j42_149_42) rfl rfl k) ?_
  show own_Go _ _ _ _ (T143.setTop (mkF m 44 #[.val (.ref us), .val (.ref uc), .val (.int (0 : Int32)), .val (.int (2 : Int32)), .val .null, .val (.ref ub143)] [(.ref ub143), (.ref us)]))
  refine own_go (fun t k => XS.iloadN X143.here hx rfl (hb hby d_j42_149_44) rfl k) ?_
  show own_Go _ _ _ _ (T143.setTop (mkF m 45 #[.val (.ref us), .val (.ref uc), .val (.int (0 : Int32)), .val (.int (2 : Int32)), .val .null, .val (.ref ub143)] [(.int (2 : Int32)), (.ref ub143), (.ref us)]))
  obtain ⟨_, _, ⟨T144, L144, k144, n144⟩, -, X144, ⟨Lc144, hQ144, l144, y144, z144⟩, st144⟩ := Jvm.LawKit.callS X143 hx (y := (⟨"java/lang/StringUTF16", "coderFromArrayLen", "([BI)B"⟩ : MethodName)) hown (mvT hZ (w_73 hw)) (mvT hZ (w_74 hw)) (mvT hZ (w_68 hw)) (mvT hZ (w_75 hw)) (by decide) (backOf (W := 1) (rm_cfl l Z a0 hw [] ub143 kb143 (.int (c0_.toInt8.toInt32)) (.int (c1_.toInt8.toInt32)) h143 n0 Z143 A143) hZ (w_75 hw) (w_68 hw) (by decide) (by decide)) (g := (mkF m 45 #[.val (.ref us), .val (.ref uc), .val (.int (0 : Int32)), .val (.int (2 : Int32)), .val .null, .val (.ref ub143)] [(.int (2 : Int32)), (.ref ub143), (.ref us)])) rfl (by rw [hml]; rfl) (argsL := [(.ref ub143), (.int (2 : Int32))]) (rest := [(.ref us)]) (lenOf pd_5 rfl) rfl (by show 2 * 0 + _ ≤ _; exact Nat.le_of_eq rfl) (hb hby d_j42_149_45) (fun _ _ => ⟨rfl, e143, (by decide : 1 + 0 ≤ _), (by decide : 2 + 0 ≤ _)⟩)
  dsimp only [Pt.U, Pt.locs, Pt.cells, Pt.slots] at X144 l144 y144 z144 st144 hQ144
  subst l144 y144 z144
  obtain ⟨rfl, N144q, e144⟩ := hQ144
  have N144 := Fr.app N143 N144q
  refine own_go st144 ?_
  show own_Go _ _ _ _ (T144.setTop (mkF m 48 #[.val (.ref us), .val (.ref uc), .val (.int (0 : Int32)), .val (.int (2 : Int32)), .val .null, .val (.ref ub143)] [(.int (0 : Int32)), (.ref us)]))
  obtain ⟨T145, h145, X145, e145, W145, st145⟩ := putFN X144 hx hZ hown (w_21 hw) Via.refl e144 (Cd0.keep K143q nin0) (E0.keep K143q) (Or.inr ⟨(w_17 hw), rfl, hnm⟩) (w_1 hw) (ty := .byte) (v' := (.int (0 : Int32))) (by decide) rfl rfl (g := (mkF m 48 #[.val (.ref us), .val (.ref uc), .val (.int (0 : Int32)), .val (.int (2 : Int32)), .val .null, .val (.ref ub143)] [(.int (0 : Int32)), (.ref us)])) rfl rfl (hb hby d_j42_149_48)
  refine own_go st145 ?_
  have F145 := (Cd0.keep K143q nin0).same W145
  have Z145 : n0 ≤ h145.size := (Nat.le_trans Z143 (Nat.le_of_eq W145.size.symm))
  have N145 := Fr.snoc X145 N144 q0
  have K145 : Keep h0 h145 [us] := K143.wr W145 (Or.inl (List.mem_of_getElem? (i := 0) rfl))
  show own_Go _ _ _ _ (T145.setTop (mkF m 51 #[.val (.ref us), .val (.ref uc), .val (.int (0 : Int32)), .val (.int (2 : Int32)), .val .null, .val (.ref ub143)] []))
  refine own_go (fun t k => XS.aloadN X145.here hx rfl (hb hby d_j42_149_51) rfl rfl k) ?_
  show own_Go _ _ _ _ (T145.setTop (mkF m 52 #[.val (.ref us), .val (.ref uc), .val (.int (0 : Int32)), .val (.int (2 : Int32)), .val .null, .val (.ref ub143)] [(.ref us)]))
  refine own_go (fun t k => XS.aload X145.here hx rfl (hb hby d_j42_149_52) rfl rfl k) ?_
  show own_Go _ _ _ _ (T145.setTop (mkF m 54 #[.val (.ref us), .val (.ref uc), .val (.int (0 : Int32)), .val (.int (2 : Int32)), .val .null, .val (.ref ub143)] [(.ref ub143), (.ref us)]))
  have f146 := ((V0.keep K143q nin0).other W145 (Or.inr (slot_ne (Or.inr (w_16 hw)) (Or.inr (w_17 hw)) (by decide) (t := (.array .byte)) (t' := .byte) (by decide) (by decide))))
  obtain ⟨T147, h147, X147, e147, W147, st147⟩ := putF X145 hx hZ hown (host := "") (Or.inl (w_20 hw)) Via.refl e145 f146 ((E0.keep K143q).wr W145) (Or.inr ⟨(w_16 hw), rfl, hnm⟩) (w_1 hw) (ty := (.array .byte)) (by decide) rfl rfl (g := (mkF m 54 #[.val (.ref us), .val (.ref uc), .val (.int (0 : Int32)), .val (.int (2 : Int32)), .val .null, .val (.ref ub143)] [(.ref ub143), (.ref us)])) rfl rfl (hb hby d_j42_149_54)
  refine own_go st147 ?_
  have F147 := f146.same W147
  have Z147 : n0 ≤ h147.size := (Nat.le_trans Z145 (Nat.le_of_eq W147.size.symm))
  have N147 := Fr.snoc X147 N145 q0
  have K147 : Keep h0 h147 [us] := K145.wr W147 (Or.inl (List.mem_of_getElem? (i := 0) rfl))
  show own_Go _ _ _ _ (T147.setTop (mkF m 57 #[.val (.ref us), .val (.ref uc), .val (.int (0 : Int32)), .val (.int (2 : Int32)), .val .null, .val (.ref ub143)] []))
  refine own_retV X147 hx hlk hret (hb hby d_j42_149_57) ?_ (by decide) (by decide)
  rw [e147]
  exact ⟨rfl, N147, K147⟩
def Q_s2 (Z : State) (us : Addr) (uc : Addr) (kc : ClassId) (c0_ : Int32) (c1_ : Int32) (zv : Int32) (h0 : Heap) (n0 : Nat) (v : Option Value) (h : Heap) (L : List Loc) : Prop := v = none ∧ Fr n0 L ∧ Keep h0 h [us]
theorem ef_s2 (m : MethodId) (us : Addr) (uc : Addr) : entryFrame m #[(.ref us), (.ref uc)] 2 = mkF m 0 #[.val (.ref us), .val (.ref uc)] [] := by first | (simp [entryFrame, mkF, argsToLocals, Value.category]; done) | rfl
set_option maxRecDepth 65536 in
set_option maxHeartbeats 40000000 in
theorem rm_s2 (l : Launch) (Z : State) (a0 : Array Value) (hw : ∀ d ∈ tables_1, d.before a0 Z = true) (ws : List Jvm.Cond) (us uc : Addr) (kc : ClassId) (c0_ c1_ zv : Int32) (h0 : Heap) (n0 : Nat) (Z0 : n0 ≤ h0.size) (q0 : n0 ≤ us) (E0 : Exa Z h0 us "java/lang/String") (V0 : Fld Z h0 us "java/lang/String" "value" "[B" .null) (Cd0 : Fld Z h0 us "java/lang/String" "coder" "B" (.int (0 : Int32))) (A0 : Arv Z h0 uc kc .char (2 : Int32) [(.int c0_), (.int c1_)] (.int (0 : Int32))) (hc0 : ¬ (255 : Int32) < c0_) (hc1 : ¬ (255 : Int32) < c1_) (O0 : Old Z n0 h0) (hzv : ¬ zv = (0 : Int32)) (S0 : Sta Z Z.heap "java/lang/String" "COMPACT_STRINGS" "Z" (.int zv)) :
    own_Met l Z (⟨"java/lang/String", "<init>", "([C)V"⟩ : MethodName) jdk_42_method_3_code 2 none ws ({ frames := 3, cells := 1, slots := 2, locals := 52 } : Room) #[(.ref us), (.ref uc)] h0 (Q_s2 Z us uc kc c0_ c1_ zv h0 n0) := by
  refine own_enter (own := "java/lang/String") (plainFor_of_name pn_2) rfl ?_
  intro p e s m below meth c s₁ hlk hret hx hby hml hown hnm hZ X0 e0
  have N0 := Fr.nil n0
  refine own_cast (ef_s2 m us uc) ?_
  show own_Go _ _ _ _ (s₁.setTop (mkF m 0 #[.val (.ref us), .val (.ref uc)] []))
  refine own_go (fun t k => XS.aloadN X0.here hx rfl (hb hby d_j42_3_0) rfl rfl k) ?_
  show own_Go _ _ _ _ (s₁.setTop (mkF m 1 #[.val (.ref us), .val (.ref uc)] [(.ref us)]))
  refine own_go (fun t k => XS.aloadN X0.here hx rfl (hb hby d_j42_3_1) rfl rfl k) ?_
  show own_Go _ _ _ _ (s₁.setTop (mkF m 2 #[.val (.ref us), .val (.ref uc)] [(.ref uc), (.ref us)]))
  refine own_go (fun t k => XS.iconst X0.here hx rfl (hb hby d_j42_3_2) k) ?_
  show own_Go _ _ _ _ (s₁.setTop (mkF m 3 #[.val (.ref us), .val (.ref uc)] [(.int (0 : Int32)), (.ref uc), (.ref us)]))
  refine own_go (fun t k => XS.aloadN X0.here hx rfl (hb hby d_j42_3_3) rfl rfl k) ?_
  show own_Go _ _ _ _ (s₁.setTop (mkF m 4 #[.val (.ref us), .val (.ref uc)] [(.ref uc), (.int (0 : Int32)), (.ref uc), (.ref us)]))
  obtain ⟨cl148, Ar148, qk148, sz148, nn148, ha148, gf148⟩ := id A0
  refine own_go (X0.arraylength hx (by rw [e0]; exact Ar148.1) (State.isArrayOf_alike hZ.alike Ar148.2.1) (g := (mkF m 4 #[.val (.ref us), .val (.ref uc)] [(.ref uc), (.int (0 : Int32)), (.ref uc), (.ref us)])) rfl rfl (hb hby d_j42_3_4)) ?_
  rw [len_of sz148 nn148]
  show own_Go _ _ _ _ (s₁.setTop (mkF m 5 #[.val (.ref us), .val (.ref uc)] [(.int (2 : Int32)), (.int (0 : Int32)), (.ref uc), (.ref us)]))
  refine own_go (fun t k => XS.aconstNull X0.here hx rfl (hb hby d_j42_3_5) k) ?_
  show own_Go _ _ _ _ (s₁.setTop (mkF m 6 #[.val (.ref us), .val (.ref uc)] [.null, (.int (2 : Int32)), (.int (0 : Int32)), (.ref uc), (.ref us)]))
  obtain ⟨_, _, ⟨T149, L149, k149, n149⟩, -, X149, ⟨Lc149, hQ149, l149, y149, z149⟩, st149⟩ := X0.specialBack hx (y := (⟨"java/lang/String", "<init>", "([CIILjava/lang/Void;)V"⟩ : MethodName)) rfl hown (mvT hZ (w_7 hw)) (mvT hZ (w_8 hw)) (mvT hZ (w_10 hw)) (by decide) (backOf (W := 0) (rm_si2 l Z a0 hw [] us uc kc c0_ c1_ zv h0 n0 Z0 q0 E0 V0 Cd0 A0 hc0 hc1 O0 hzv S0) hZ (w_10 hw) (w_2 hw) (by decide) (by decide)) (g := (mkF m 6 #[.val (.ref us), .val (.ref uc)] [.null, (.int (2 : Int32)), (.int (0 : Int32)), (.ref uc), (.ref us)])) rfl (by rw [hml]; rfl) (Steps.refl _) (a := us) (argsL := [(.ref uc), (.int (0 : Int32)), (.int (2 : Int32)), .null]) (rest := []) (lenOf pd_2 rfl) rfl (by show 2 * 0 + _ ≤ _; exact Nat.le_of_eq rfl) (hb hby d_j42_3_6) (fun _ _ => ⟨rfl, e0, (by decide : 0 + 1 ≤ _), (by decide : 0 + 2 ≤ _)⟩)
  dsimp only [Pt.U, Pt.locs, Pt.cells, Pt.slots] at X149 l149 y149 z149 st149 hQ149
  subst l149 y149 z149
  generalize e149 : T149.heap = h149 at hQ149
  obtain ⟨rfl, N149q, K149q⟩ := hQ149
  have N149 := Fr.app N0 N149q
  refine own_go (fun t k => st149.trans k) ?_
  have Z149 : n0 ≤ h149.size := (Nat.le_trans Z0 K149q.1)
  have K149 : Keep h0 h149 [us] := (Keep.refl h0 [us]).trans K149q (allS (Or.inl (List.mem_of_getElem? (i := 0) rfl)) all0)
  show own_Go _ _ _ _ (T149.setTop (mkF m 9 #[.val (.ref us), .val (.ref uc)] []))
  refine own_retV X149 hx hlk hret (hb hby d_j42_3_9) ?_ (by decide) (by decide)
  rw [e149]
  exact ⟨rfl, N149, K149⟩
def Q_enc (Z : State) (c0_ : Int32) (h0 : Heap) (n0 : Nat) (v : Option Value) (h : Heap) (L : List Loc) : Prop := v = some (.int 1) ∧ Fr n0 L ∧ h = h0
theorem ef_enc (m : MethodId) (c0_ : Int32) : entryFrame m #[(.int c0_)] 1 = mkF m 0 #[.val (.int c0_)] [] := by first | (simp [entryFrame, mkF, argsToLocals, Value.category]; done) | rfl
theorem pn_4 : plainName "java/lang/StringLatin1" = true := by first | (simp [plainName, overriddenIn]; done) | decide +kernel
theorem d_j43_3_0 : decode jdk_43_method_3_code 0 = .ok (.iload_n 0, 1) := by decide +kernel
theorem d_j43_3_1 : decode jdk_43_method_3_code 1 = .ok (.sipush 255, 3) := by decide +kernel
theorem d_j43_3_4 : decode jdk_43_method_3_code 4 = .ok (.if_icmp .gt 7, 3) := by decide +kernel
theorem d_j43_3_7 : decode jdk_43_method_3_code 7 = .ok (.iconst 1, 1) := by decide +kernel
theorem d_j43_3_8 : decode jdk_43_method_3_code 8 = .ok (.goto 4, 3) := by decide +kernel
theorem d_j43_3_12 : decode jdk_43_method_3_code 12 = .ok (.ireturn, 1) := by decide +kernel
set_option maxRecDepth 65536 in
set_option maxHeartbeats 40000000 in
theorem rm_enc (l : Launch) (Z : State) (a0 : Array Value) (hw : ∀ d ∈ tables_1, d.before a0 Z = true) (ws : List Jvm.Cond) (c0_ : Int32) (h0 : Heap) (n0 : Nat) (Z0 : n0 ≤ h0.size) (hc0 : ¬ (255 : Int32) < c0_) :
    own_Met l Z (⟨"java/lang/StringLatin1", "canEncode", "(C)Z"⟩ : MethodName) jdk_43_method_3_code 1 (some .boolean) ws ({ frames := 0, cells := 0, slots := 0, locals := 0 } : Room) #[(.int c0_)] h0 (Q_enc Z c0_ h0 n0) := by
  refine own_enter (own := "java/lang/StringLatin1") (plainFor_of_name pn_4) rfl ?_
  intro p e s m below meth c s₁ hlk hret hx hby hml hown hnm hZ X0 e0
  have N0 := Fr.nil n0
  refine own_cast (ef_enc m c0_) ?_
  show own_Go _ _ _ _ (s₁.setTop (mkF m 0 #[.val (.int c0_)] []))
  refine own_go (fun t k => XS.iloadN X0.here hx rfl (hb hby d_j43_3_0) rfl k) ?_
  show own_Go _ _ _ _ (s₁.setTop (mkF m 1 #[.val (.int c0_)] [(.int c0_)]))
  refine own_go (fun t k => XS.sipush X0.here hx rfl (hb hby d_j43_3_1) k) ?_
  show own_Go _ _ _ _ (s₁.setTop (mkF m 4 #[.val (.int c0_)] [(.int (255 : Int32)), (.int c0_)]))
  refine own_go (fun t k => XS.icmpNo X0.here hx rfl (hb hby d_j43_3_4) rfl (flt hc0).2.2.1 k) ?_
  show own_Go _ _ _ _ (s₁.setTop (mkF m 7 #[.val (.int c0_)] []))
  refine own_go (fun t k => XS.iconst X0.here hx rfl (hb hby d_j43_3_7) k) ?_
  show own_Go _ _ _ _ (s₁.setTop (mkF m 8 #[.val (.int c0_)] [(.int (1 : Int32))]))
  refine own_go (fun t k => XS.goto X0.here hx rfl (pc0 := 8) (pc' := 12) rfl (hb hby d_j43_3_8) (by decide) (by decide) k) ?_
  show own_Go _ _ _ _ (s₁.setTop (mkF m 12 #[.val (.int c0_)] [(.int (1 : Int32))]))
  refine own_retN X0 hx hlk (t := .boolean) hret (by simp) (hb hby d_j43_3_12) ?_ (by decide) (by decide)
  rw [e0]
  exact ⟨rfl, N0, rfl⟩
def Q_tob (Z : State) (c0_ : Int32) (h0 : Heap) (n0 : Nat) (v : Option Value) (h : Heap) (L : List Loc) : Prop := ∃ (ub : Addr) (kb : ClassId), v = some (.ref ub) ∧ Fr n0 L ∧ Keep h0 h [] ∧ h0.size ≤ ub ∧ n0 ≤ ub ∧ Arv Z h ub kb .byte (1 : Int32) [(.int (c0_.toInt8.toInt32))] (.int (0 : Int32))
theorem ef_tob (m : MethodId) (c0_ : Int32) : entryFrame m #[(.int c0_)] 1 = mkF m 0 #[.val (.int c0_)] [] := by first | (simp [entryFrame, mkF, argsToLocals, Value.category]; done) | rfl
theorem d_j43_46_0 : decode jdk_43_method_46_code 0 = .ok (.iconst 1, 1) := by decide +kernel
theorem d_j43_46_1 : decode jdk_43_method_46_code 1 = .ok (.newarray .byte, 2) := by decide +kernel
theorem d_j43_46_3 : decode jdk_43_method_46_code 3 = .ok (.dup, 1) := by decide +kernel
theorem d_j43_46_4 : decode jdk_43_method_46_code 4 = .ok (.iconst 0, 1) := by decide +kernel
theorem d_j43_46_5 : decode jdk_43_method_46_code 5 = .ok (.iload_n 0, 1) := by decide +kernel
theorem d_j43_46_6 : decode jdk_43_method_46_code 6 = .ok (.i2b, 1) := by decide +kernel
theorem d_j43_46_7 : decode jdk_43_method_46_code 7 = .ok (.bastore, 1) := by decide +kernel
theorem d_j43_46_8 : decode jdk_43_method_46_code 8 = .ok (.areturn, 1) := by decide +kernel
set_option maxRecDepth 65536 in
set_option maxHeartbeats 40000000 in
theorem rm_tob (l : Launch) (Z : State) (a0 : Array Value) (hw : ∀ d ∈ tables_1, d.before a0 Z = true) (ws : List Jvm.Cond) (c0_ : Int32) (h0 : Heap) (n0 : Nat) (Z0 : n0 ≤ h0.size) :
    own_Met l Z (⟨"java/lang/StringLatin1", "toBytes", "(C)[B"⟩ : MethodName) jdk_43_method_46_code 1 (some (.array .byte)) ws ({ frames := 0, cells := 1, slots := 1, locals := 0 } : Room) #[(.int c0_)] h0 (Q_tob Z c0_ h0 n0) := by
  refine own_enter (own := "java/lang/StringLatin1") (plainFor_of_name pn_4) rfl ?_
  intro p e s m below meth c s₁ hlk hret hx hby hml hown hnm hZ X0 e0
  have N0 := Fr.nil n0
  refine own_cast (ef_tob m c0_) ?_
  show own_Go _ _ _ _ (s₁.setTop (mkF m 0 #[.val (.int c0_)] []))
  refine own_go (fun t k => XS.iconst X0.here hx rfl (hb hby d_j43_46_0) k) ?_
  show own_Go _ _ _ _ (s₁.setTop (mkF m 1 #[.val (.int c0_)] [(.int (1 : Int32))]))
  obtain ⟨T150, h150, k150, X150, e150, E150, A150, st150⟩ := newP (aty := .byte) X0 hx hZ (w_15 hw) e0 (n := (1 : Int32)) (rest := []) (g := (mkF m 1 #[.val (.int c0_)] [(.int (1 : Int32))])) rfl (hb hby d_j43_46_1) rfl (by decide) (cap := 1) (by decide) (by decide) (by decide) (by decide)
  obtain ⟨b150, g150⟩ : ∃ z, z = h0.size := ⟨_, rfl⟩
  rw [← g150] at A150 st150
  refine own_go st150 ?_
  have Z150 : n0 ≤ h150.size := (Nat.le_trans Z0 E150.1)
  have K150 : Keep h0 h150 [] := (Keep.refl h0 []).ext E150
  have lo150 : h0.size ≤ b150 := Nat.le_of_eq g150.symm
  have q150 : n0 ≤ b150 := Nat.le_trans Z0 lo150
  have hi150 : b150 < h150.size := A150.lt
  have V150 : Arv Z h150 b150 k150 .byte (1 : Int32) [(.int (0 : Int32))] (.int (0 : Int32)) := (Arv.new A150 (by decide)).pad (pad_rep [] (.int (0 : Int32)) 1)
  show own_Go _ _ _ _ (T150.setTop (mkF m 3 #[.val (.int c0_)] [(.ref b150)]))
  refine own_go (fun t k => XS.dup X150.here hx rfl (hb hby d_j43_46_3) rfl rfl k) ?_
  show own_Go _ _ _ _ (T150.setTop (mkF m 4 #[.val (.int c0_)] [(.ref b150), (.ref b150)]))
  refine own_go (fun t k => XS.iconst X150.here hx rfl (hb hby d_j43_46_4) k) ?_
  show own_Go _ _ _ _ (T150.setTop (mkF m 5 #[.val (.int c0_)] [(.int (0 : Int32)), (.ref b150), (.ref b150)]))
  refine own_go (fun t k => XS.iloadN X150.here hx rfl (hb hby d_j43_46_5) rfl k) ?_
  show own_Go _ _ _ _ (T150.setTop (mkF m 6 #[.val (.int c0_)] [(.int c0_), (.int (0 : Int32)), (.ref b150), (.ref b150)]))
  refine own_go (fun t k => XS.i2b X150.here hx rfl (hb hby d_j43_46_6) rfl k) ?_
  show own_Go _ _ _ _ (T150.setTop (mkF m 7 #[.val (.int c0_)] [(.int (c0_.toInt8.toInt32)), (.int (0 : Int32)), (.ref b150), (.ref b150)]))
  obtain ⟨cl151, Ar151, qk151, sz151, nn151, ha151, gf151⟩ := id V150
  have hin151 : ¬ ((0 : Int32) < 0 ∨ cl151.slots.size ≤ ((0 : Int32)).toNatClampNeg) := inb_of sz151 ⟨by decide, by decide⟩
  obtain ⟨T152, h152, X152, e152, W152, st152⟩ := stB X150 hx hZ e150 Ar151 (j := (0 : Int32)) hin151 (g := (mkF m 7 #[.val (.int c0_)] [(.int (c0_.toInt8.toInt32)), (.int (0 : Int32)), (.ref b150), (.ref b150)])) rfl rfl (hb hby d_j43_46_7)
  refine own_go st152 ?_
  rw [show nar .byte (c0_.toInt8.toInt32) = (c0_.toInt8.toInt32) from own_b8 _] at W152
  have V152 : Arv Z h152 b150 k150 .byte (1 : Int32) [(.int (c0_.toInt8.toInt32))] (.int (0 : Int32)) := Arv.set Ar151 qk151 sz151 nn151 ha151 gf151 (fits_nar_byte _) W152 0 rfl (Nat.le_of_ble_eq_true rfl)
  have Z152 : n0 ≤ h152.size := (Nat.le_trans Z150 (Nat.le_of_eq W152.size.symm))
  have N152 := Fr.snoc X152 N0 q150
  have K152 : Keep h0 h152 [] := K150.wr W152 (Or.inr lo150)
  show own_Go _ _ _ _ (T152.setTop (mkF m 8 #[.val (.int c0_)] [(.ref b150)]))
  refine own_ret X152 hx hlk hret rfl (Or.inr (Or.inr (Or.inr (Or.inr ⟨rfl, rfl, rfl⟩)))) (hb hby d_j43_46_8) ?_ (by decide) (by decide)
  rw [e152]
  exact ⟨b150, k150, rfl, N152, K152, lo150, q150, V152⟩
def Q_sbb (Z : State) (us : Addr) (ub : Addr) (h0 : Heap) (n0 : Nat) (v : Option Value) (h : Heap) (L : List Loc) : Prop := v = none ∧ Fr n0 L ∧ Keep h0 h [us]
theorem ef_sbb (m : MethodId) (us : Addr) (ub : Addr) : entryFrame m #[(.ref us), (.ref ub), (.int (0 : Int32))] 3 = mkF m 0 #[.val (.ref us), .val (.ref ub), .val (.int (0 : Int32))] [] := by first | (simp [entryFrame, mkF, argsToLocals, Value.category]; done) | rfl
theorem d_j42_151_0 : decode jdk_42_method_151_code 0 = .ok (.aload_n 0, 1) := by decide +kernel
theorem d_j42_151_1 : decode jdk_42_method_151_code 1 = .ok (.invokespecial 1, 3) := by decide +kernel
theorem d_j42_151_4 : decode jdk_42_method_151_code 4 = .ok (.aload_n 0, 1) := by decide +kernel
theorem d_j42_151_5 : decode jdk_42_method_151_code 5 = .ok (.aload_n 1, 1) := by decide +kernel
theorem d_j42_151_6 : decode jdk_42_method_151_code 6 = .ok (.putfield 9, 3) := by decide +kernel
theorem d_j42_151_9 : decode jdk_42_method_151_code 9 = .ok (.aload_n 0, 1) := by decide +kernel
theorem d_j42_151_10 : decode jdk_42_method_151_code 10 = .ok (.iload_n 2, 1) := by decide +kernel
theorem d_j42_151_11 : decode jdk_42_method_151_code 11 = .ok (.putfield 15, 3) := by decide +kernel
theorem d_j42_151_14 : decode jdk_42_method_151_code 14 = .ok (.return_, 1) := by decide +kernel
set_option maxRecDepth 65536 in
set_option maxHeartbeats 40000000 in
theorem rm_sbb (l : Launch) (Z : State) (a0 : Array Value) (hw : ∀ d ∈ tables_1, d.before a0 Z = true) (ws : List Jvm.Cond) (us ub : Addr) (h0 : Heap) (n0 : Nat) (Z0 : n0 ≤ h0.size) (q0 : n0 ≤ us) (E0 : Exa Z h0 us "java/lang/String") (V0 : Fld Z h0 us "java/lang/String" "value" "[B" .null) (Cd0 : Fld Z h0 us "java/lang/String" "coder" "B" (.int (0 : Int32))) :
    own_Met l Z (⟨"java/lang/String", "<init>", "([BB)V"⟩ : MethodName) jdk_42_method_151_code 3 none ws ({ frames := 1, cells := 0, slots := 0, locals := 12 } : Room) #[(.ref us), (.ref ub), (.int (0 : Int32))] h0 (Q_sbb Z us ub h0 n0) := by
  refine own_enter (own := "java/lang/String") (plainFor_of_name pn_2) rfl ?_
  intro p e s m below meth c s₁ hlk hret hx hby hml hown hnm hZ X0 e0
  have N0 := Fr.nil n0
  refine own_cast (ef_sbb m us ub) ?_
  show own_Go _ _ _ _ (s₁.setTop (mkF m 0 #[.val (.ref us), .val (.ref ub), .val (.int (0 : Int32))] []))
  refine own_go (fun t k => XS.aloadN X0.here hx rfl (hb hby d_j42_151_0) rfl rfl k) ?_
  show own_Go _ _ _ _ (s₁.setTop (mkF m 1 #[.val (.ref us), .val (.ref ub), .val (.int (0 : Int32))] [(.ref us)]))
  obtain ⟨T153, X153, e153, st153⟩ := initO X0 hx hZ hown (w_11 hw) (w_12 hw) (w_13 hw) e0 (g := (mkF m 1 #[.val (.ref us), .val (.ref ub), .val (.int (0 : Int32))] [(.ref us)])) rfl (by rw [hml]; rfl) rfl (hb hby d_j42_151_1) (by decide) (W := 0) (by show 2 * 0 + _ ≤ _; exact Nat.le_of_eq rfl) (by decide)
  refine own_go st153 ?_
  show own_Go _ _ _ _ (T153.setTop (mkF m 4 #[.val (.ref us), .val (.ref ub), .val (.int (0 : Int32))] []))
  refine own_go (fun t k => XS.aloadN X153.here hx rfl (hb hby d_j42_151_4) rfl rfl k) ?_
  show own_Go _ _ _ _ (T153.setTop (mkF m 5 #[.val (.ref us), .val (.ref ub), .val (.int (0 : Int32))] [(.ref us)]))
  refine own_go (fun t k => XS.aloadN X153.here hx rfl (hb hby d_j42_151_5) rfl rfl k) ?_
  show own_Go _ _ _ _ (T153.setTop (mkF m 6 #[.val (.ref us), .val (.ref ub), .val (.int (0 : Int32))] [(.ref ub), (.ref us)]))
  obtain ⟨T154, h154, X154, e154, W154, st154⟩ := putF X153 hx hZ hown (host := "") (Or.inl (w_20 hw)) Via.refl e153 V0 E0 (Or.inr ⟨(w_16 hw), rfl, hnm⟩) (w_1 hw) (ty := (.array .byte)) (by decide) rfl rfl (g := (mkF m 6 #[.val (.ref us), .val (.ref ub), .val (.int (0 : Int32))] [(.ref ub), (.ref us)])) rfl rfl (hb hby d_j42_151_6)
  refine own_go st154 ?_
  have F154 := V0.same W154
  have Z154 : n0 ≤ h154.size := (Nat.le_trans Z0 (Nat.le_of_eq W154.size.symm))
  have N154 := Fr.snoc X154 N0 q0
  have K154 : Keep h0 h154 [us] := (Keep.refl h0 [us]).wr W154 (Or.inl (List.mem_of_getElem? (i := 0) rfl))
  show own_Go _ _ _ _ (T154.setTop (mkF m 9 #[.val (.ref us), .val (.ref ub), .val (.int (0 : Int32))] []))
  refine own_go (fun t k => XS.aloadN X154.here hx rfl (hb hby d_j42_151_9) rfl rfl k) ?_
  show own_Go _ _ _ _ (T154.setTop (mkF m 10 #[.val (.ref us), .val (.ref ub), .val (.int (0 : Int32))] [(.ref us)]))
  refine own_go (fun t k => XS.iloadN X154.here hx rfl (hb hby d_j42_151_10) rfl k) ?_
  show own_Go _ _ _ _ (T154.setTop (mkF m 11 #[.val (.ref us), .val (.ref ub), .val (.int (0 : Int32))] [(.int (0 : Int32)), (.ref us)]))
  have f155 := (Cd0.other W154 (Or.inr (slot_ne (Or.inr (w_17 hw)) (Or.inr (w_16 hw)) (by decide) (t := .byte) (t' := (.array .byte)) (by decide) (by decide))))
  obtain ⟨T156, h156, X156, e156, W156, st156⟩ := putFN X154 hx hZ hown (w_21 hw) Via.refl e154 f155 (E0.wr W154) (Or.inr ⟨(w_17 hw), rfl, hnm⟩) (w_1 hw) (ty := .byte) (v' := (.int (0 : Int32))) (by decide) rfl rfl (g := (mkF m 11 #[.val (.ref us), .val (.ref ub), .val (.int (0 : Int32))] [(.int (0 : Int32)), (.ref us)])) rfl rfl (hb hby d_j42_151_11)
  refine own_go st156 ?_
  have F156 := f155.same W156
  have Z156 : n0 ≤ h156.size := (Nat.le_trans Z154 (Nat.le_of_eq W156.size.symm))
  have N156 := Fr.snoc X156 N154 q0
  have K156 : Keep h0 h156 [us] := K154.wr W156 (Or.inl (List.mem_of_getElem? (i := 0) rfl))
  show own_Go _ _ _ _ (T156.setTop (mkF m 14 #[.val (.ref us), .val (.ref ub), .val (.int (0 : Int32))] []))
  refine own_retV X156 hx hlk hret (hb hby d_j42_151_14) ?_ (by decide) (by decide)
  rw [e156]
  exact ⟨rfl, N156, K156⟩
def Q_vof (Z : State) (c0_ : Int32) (zv : Int32) (h0 : Heap) (n0 : Nat) (v : Option Value) (h : Heap) (L : List Loc) : Prop := ∃ us : Addr, v = some (.ref us) ∧ Fr n0 L ∧ Keep h0 h []
theorem ef_vof (m : MethodId) (c0_ : Int32) : entryFrame m #[(.int c0_)] 1 = mkF m 0 #[.val (.int c0_)] [] := by first | (simp [entryFrame, mkF, argsToLocals, Value.category]; done) | rfl
theorem d_j42_139_0 : decode jdk_42_method_139_code 0 = .ok (.getstatic 38, 3) := by decide +kernel
theorem d_j42_139_3 : decode jdk_42_method_139_code 3 = .ok (.ifCond .eq 23, 3) := by decide +kernel
theorem d_j42_139_6 : decode jdk_42_method_139_code 6 = .ok (.iload_n 0, 1) := by decide +kernel
theorem w_55 {Z : State} {a0 : Array Value} (hw : ∀ d ∈ tables_1, d.before a0 Z = true) : (Jvm.Cond.methodLink "java/lang/String" (1015 : Nat) ({ cls := "java/lang/StringLatin1", name := "canEncode", desc := "(C)Z" } : Jvm.MethodName)).before a0 Z = true := hw _ (List.mem_of_getElem? (i := 55) rfl)
theorem w_58 {Z : State} {a0 : Array Value} (hw : ∀ d ∈ tables_1, d.before a0 Z = true) : (Jvm.Cond.code ({ cls := "java/lang/StringLatin1", name := "canEncode", desc := "(C)Z" } : Jvm.MethodName) jdk_43_method_3_code (1 : Nat) (Option.some Jvm.ClassFile.FieldType.boolean)).before a0 Z = true := hw _ (List.mem_of_getElem? (i := 58) rfl)
theorem w_57 {Z : State} {a0 : Array Value} (hw : ∀ d ∈ tables_1, d.before a0 Z = true) : (Jvm.Cond.initialized "java/lang/StringLatin1").before a0 Z = true := hw _ (List.mem_of_getElem? (i := 57) rfl)
theorem pd_6 : parseMethodDescriptor "(C)Z" = some ⟨[.char], some .boolean⟩ := by decide +kernel
theorem d_j42_139_7 : decode jdk_42_method_139_code 7 = .ok (.invokestatic 1015, 3) := by decide +kernel
theorem w_56 {Z : State} {a0 : Array Value} (hw : ∀ d ∈ tables_1, d.before a0 Z = true) : (Jvm.Cond.static ({ cls := "java/lang/StringLatin1", name := "canEncode", desc := "(C)Z" } : Jvm.MethodName)).before a0 Z = true := hw _ (List.mem_of_getElem? (i := 56) rfl)
theorem d_j42_139_10 : decode jdk_42_method_139_code 10 = .ok (.ifCond .eq 16, 3) := by decide +kernel
theorem w_59 {Z : State} {a0 : Array Value} (hw : ∀ d ∈ tables_1, d.before a0 Z = true) : (Jvm.Cond.classLink "java/lang/String" (10 : Nat) "java/lang/String").before a0 Z = true := hw _ (List.mem_of_getElem? (i := 59) rfl)
theorem d_j42_139_13 : decode jdk_42_method_139_code 13 = .ok (.new 10, 3) := by decide +kernel
theorem d_j42_139_16 : decode jdk_42_method_139_code 16 = .ok (.dup, 1) := by decide +kernel
theorem d_j42_139_17 : decode jdk_42_method_139_code 17 = .ok (.iload_n 0, 1) := by decide +kernel
theorem w_60 {Z : State} {a0 : Array Value} (hw : ∀ d ∈ tables_1, d.before a0 Z = true) : (Jvm.Cond.methodLink "java/lang/String" (1018 : Nat) ({ cls := "java/lang/StringLatin1", name := "toBytes", desc := "(C)[B" } : Jvm.MethodName)).before a0 Z = true := hw _ (List.mem_of_getElem? (i := 60) rfl)
theorem w_62 {Z : State} {a0 : Array Value} (hw : ∀ d ∈ tables_1, d.before a0 Z = true) : (Jvm.Cond.code ({ cls := "java/lang/StringLatin1", name := "toBytes", desc := "(C)[B" } : Jvm.MethodName) jdk_43_method_46_code (1 : Nat) (Option.some (Jvm.ClassFile.FieldType.array Jvm.ClassFile.FieldType.byte))).before a0 Z = true := hw _ (List.mem_of_getElem? (i := 62) rfl)
theorem pd_7 : parseMethodDescriptor "(C)[B" = some ⟨[.char], some (.array .byte)⟩ := by decide +kernel
theorem d_j42_139_18 : decode jdk_42_method_139_code 18 = .ok (.invokestatic 1018, 3) := by decide +kernel
theorem w_61 {Z : State} {a0 : Array Value} (hw : ∀ d ∈ tables_1, d.before a0 Z = true) : (Jvm.Cond.static ({ cls := "java/lang/StringLatin1", name := "toBytes", desc := "(C)[B" } : Jvm.MethodName)).before a0 Z = true := hw _ (List.mem_of_getElem? (i := 61) rfl)
theorem d_j42_139_21 : decode jdk_42_method_139_code 21 = .ok (.iconst 0, 1) := by decide +kernel
theorem w_63 {Z : State} {a0 : Array Value} (hw : ∀ d ∈ tables_1, d.before a0 Z = true) : (Jvm.Cond.methodLink "java/lang/String" (209 : Nat) ({ cls := "java/lang/String", name := "<init>", desc := "([BB)V" } : Jvm.MethodName)).before a0 Z = true := hw _ (List.mem_of_getElem? (i := 63) rfl)
theorem w_65 {Z : State} {a0 : Array Value} (hw : ∀ d ∈ tables_1, d.before a0 Z = true) : (Jvm.Cond.code ({ cls := "java/lang/String", name := "<init>", desc := "([BB)V" } : Jvm.MethodName) jdk_42_method_151_code (3 : Nat) (Option.none : Option Jvm.ClassFile.FieldType)).before a0 Z = true := hw _ (List.mem_of_getElem? (i := 65) rfl)
theorem pd_8 : parseMethodDescriptor "([BB)V" = some ⟨[(.array .byte), .byte], none⟩ := by decide +kernel
theorem d_j42_139_22 : decode jdk_42_method_139_code 22 = .ok (.invokespecial 209, 3) := by decide +kernel
theorem w_64 {Z : State} {a0 : Array Value} (hw : ∀ d ∈ tables_1, d.before a0 Z = true) : (Jvm.Cond.instanceMethod ({ cls := "java/lang/String", name := "<init>", desc := "([BB)V" } : Jvm.MethodName)).before a0 Z = true := hw _ (List.mem_of_getElem? (i := 64) rfl)
theorem d_j42_139_25 : decode jdk_42_method_139_code 25 = .ok (.areturn, 1) := by decide +kernel
set_option maxRecDepth 65536 in
set_option maxHeartbeats 40000000 in
theorem rm_vof (l : Launch) (Z : State) (a0 : Array Value) (hw : ∀ d ∈ tables_1, d.before a0 Z = true) (ws : List Jvm.Cond) (c0_ zv : Int32) (h0 : Heap) (n0 : Nat) (Z0 : n0 ≤ h0.size) (hc0 : ¬ (255 : Int32) < c0_) (O0 : Old Z n0 h0) (hzv : ¬ zv = (0 : Int32)) (S0 : Sta Z Z.heap "java/lang/String" "COMPACT_STRINGS" "Z" (.int zv)) :
    own_Met l Z (⟨"java/lang/String", "valueOf", "(C)Ljava/lang/String;"⟩ : MethodName) jdk_42_method_139_code 1 (some (.object "java/lang/String")) ws ({ frames := 2, cells := 2, slots := 5, locals := 27 } : Room) #[(.int c0_)] h0 (Q_vof Z c0_ zv h0 n0) := by
  refine own_enter (own := "java/lang/String") (plainFor_of_name pn_2) rfl ?_
  intro p e s m below meth c s₁ hlk hret hx hby hml hown hnm hZ X0 e0
  have N0 := Fr.nil n0
  refine own_cast (ef_vof m c0_) ?_
  show own_Go _ _ _ _ (s₁.setTop (mkF m 0 #[.val (.int c0_)] []))
  obtain ⟨T157, X157, e157, st157⟩ := getS2 X0 hx hZ hown (host := "") (Or.inl (w_54 hw)) Via.refl e0 (S0.ext O0.2) (g := (mkF m 0 #[.val (.int c0_)] [])) rfl (hb hby d_j42_139_0)
  refine own_go st157 ?_
  show own_Go _ _ _ _ (T157.setTop (mkF m 3 #[.val (.int c0_)] [(.int zv)]))
  refine own_go (fun t k => XS.ifNo X157.here hx rfl (hb hby d_j42_139_3) rfl ((if0 _ _).trans (feq hzv).1) k) ?_
  show own_Go _ _ _ _ (T157.setTop (mkF m 6 #[.val (.int c0_)] []))
  refine own_go (fun t k => XS.iloadN X157.here hx rfl (hb hby d_j42_139_6) rfl k) ?_
  show own_Go _ _ _ _ (T157.setTop (mkF m 7 #[.val (.int c0_)] [(.int c0_)]))
  obtain ⟨_, _, ⟨T158, L158, k158, n158⟩, -, X158, ⟨Lc158, hQ158, l158, y158, z158⟩, st158⟩ := Jvm.LawKit.callS X157 hx (y := (⟨"java/lang/StringLatin1", "canEncode", "(C)Z"⟩ : MethodName)) hown (mvT hZ (w_55 hw)) (mvT hZ (w_56 hw)) (mvT hZ (w_57 hw)) (mvT hZ (w_58 hw)) (by decide) (backOf (W := 0) (rm_enc l Z a0 hw [] c0_ h0 n0 Z0 hc0) hZ (w_58 hw) (w_57 hw) (by decide) (by decide)) (g := (mkF m 7 #[.val (.int c0_)] [(.int c0_)])) rfl (by rw [hml]; rfl) (argsL := [(.int c0_)]) (rest := []) (lenOf pd_6 rfl) rfl (by show 2 * 0 + _ ≤ _; exact Nat.le_of_eq rfl) (hb hby d_j42_139_7) (fun _ _ => ⟨rfl, e157, (by decide : 0 + 0 ≤ _), (by decide : 0 + 0 ≤ _)⟩)
  dsimp only [Pt.U, Pt.locs, Pt.cells, Pt.slots] at X158 l158 y158 z158 st158 hQ158
  subst l158 y158 z158
  obtain ⟨rfl, N158q, e158⟩ := hQ158
  have N158 := Fr.app N0 N158q
  refine own_go st158 ?_
  show own_Go _ _ _ _ (T158.setTop (mkF m 10 #[.val (.int c0_)] [(.int (1 : Int32))]))
  refine own_go (fun t k => XS.ifNo X158.here hx rfl (hb hby d_j42_139_10) rfl ((if0 _ _).trans (feq (by decide : ¬ ((1 : Int32) = (0 : Int32)))).1) k) ?_
  show own_Go _ _ _ _ (T158.setTop (mkF m 13 #[.val (.int c0_)] []))
  obtain ⟨T159, h159, X159, e159, E159, A159, D159, -, st159⟩ := newO X158 hx hZ hown (w_59 hw) (w_1 hw) (w_2 hw) e158 (g := (mkF m 13 #[.val (.int c0_)] [])) rfl (hb hby d_j42_139_13) (by decide) (by decide)
  obtain ⟨b159, g159⟩ : ∃ z, z = h0.size := ⟨_, rfl⟩
  rw [← g159] at A159 D159 st159
  refine own_go st159 ?_
  have Z159 : n0 ≤ h159.size := (Nat.le_trans Z0 E159.1)
  have K159 : Keep h0 h159 [] := (Keep.refl h0 []).ext E159
  have lo159 : h0.size ≤ b159 := Nat.le_of_eq g159.symm
  have q159 : n0 ≤ b159 := Nat.le_trans Z0 lo159
  have hi159 : b159 < h159.size := A159.lt
  have F159_16 : Fld Z h159 b159 "java/lang/String" "value" "[B" .null := D159 (Or.inr (w_16 hw)) (ty := (.array .byte)) (by decide)
  have F159_17 : Fld Z h159 b159 "java/lang/String" "coder" "B" (.int (0 : Int32)) := D159 (Or.inr (w_17 hw)) (ty := .byte) (by decide)
  show own_Go _ _ _ _ (T159.setTop (mkF m 16 #[.val (.int c0_)] [(.ref b159)]))
  refine own_go (fun t k => XS.dup X159.here hx rfl (hb hby d_j42_139_16) rfl rfl k) ?_
  show own_Go _ _ _ _ (T159.setTop (mkF m 17 #[.val (.int c0_)] [(.ref b159), (.ref b159)]))
  refine own_go (fun t k => XS.iloadN X159.here hx rfl (hb hby d_j42_139_17) rfl k) ?_
  show own_Go _ _ _ _ (T159.setTop (mkF m 18 #[.val (.int c0_)] [(.int c0_), (.ref b159), (.ref b159)]))
  obtain ⟨_, _, ⟨T160, L160, k160, n160⟩, -, X160, ⟨Lc160, hQ160, l160, y160, z160⟩, st160⟩ := Jvm.LawKit.callS X159 hx (y := (⟨"java/lang/StringLatin1", "toBytes", "(C)[B"⟩ : MethodName)) hown (mvT hZ (w_60 hw)) (mvT hZ (w_61 hw)) (mvT hZ (w_57 hw)) (mvT hZ (w_62 hw)) (by decide) (backOf (W := 2) (rm_tob l Z a0 hw [] c0_ h159 n0 Z159 ) hZ (w_62 hw) (w_57 hw) (by decide) (by decide)) (g := (mkF m 18 #[.val (.int c0_)] [(.int c0_), (.ref b159), (.ref b159)])) rfl (by rw [hml]; rfl) (argsL := [(.int c0_)]) (rest := [(.ref b159), (.ref b159)]) (lenOf pd_7 rfl) rfl (by show 2 * 0 + _ ≤ _; exact Nat.le_of_eq rfl) (hb hby d_j42_139_18) (fun _ _ => ⟨rfl, e159, (by decide : 1 + 1 ≤ _), (by decide : 4 + 1 ≤ _)⟩)
  dsimp only [Pt.U, Pt.locs, Pt.cells, Pt.slots] at X160 l160 y160 z160 st160 hQ160
  subst l160 y160 z160
  generalize e160 : T160.heap = h160 at hQ160
  obtain ⟨ub160, kb160, rfl, N160q, K160q, lo160, q160, A160⟩ := hQ160
  have N160 := Fr.app N158 N160q
  refine own_go st160 ?_
  have Z160 : n0 ≤ h160.size := (Nat.le_trans Z159 K160q.1)
  have K160 : Keep h0 h160 [] := K159.trans K160q all0
  have hi160 := A160.lt
  show own_Go _ _ _ _ (T160.setTop (mkF m 21 #[.val (.int c0_)] [(.ref ub160), (.ref b159), (.ref b159)]))
  refine own_go (fun t k => XS.iconst X160.here hx rfl (hb hby d_j42_139_21) k) ?_
  show own_Go _ _ _ _ (T160.setTop (mkF m 22 #[.val (.int c0_)] [(.int (0 : Int32)), (.ref ub160), (.ref b159), (.ref b159)]))
  obtain ⟨_, _, ⟨T161, L161, k161, n161⟩, -, X161, ⟨Lc161, hQ161, l161, y161, z161⟩, st161⟩ := X160.specialBack hx (y := (⟨"java/lang/String", "<init>", "([BB)V"⟩ : MethodName)) rfl hown (mvT hZ (w_63 hw)) (mvT hZ (w_64 hw)) (mvT hZ (w_65 hw)) (by decide) (backOf (W := 1) (rm_sbb l Z a0 hw [] b159 ub160 h160 n0 Z160 q159 (A159.keep K160q) (F159_16.keep K160q nin0) (F159_17.keep K160q nin0)) hZ (w_65 hw) (w_2 hw) (by decide) (by decide)) (g := (mkF m 22 #[.val (.int c0_)] [(.int (0 : Int32)), (.ref ub160), (.ref b159), (.ref b159)])) rfl (by rw [hml]; rfl) (Steps.refl _) (a := b159) (argsL := [(.ref ub160), (.int (0 : Int32))]) (rest := [(.ref b159)]) (lenOf pd_8 rfl) rfl (by show 2 * 0 + _ ≤ _; exact Nat.le_of_eq rfl) (hb hby d_j42_139_22) (fun _ _ => ⟨rfl, e160, (by decide : 2 + 0 ≤ _), (by decide : 5 + 0 ≤ _)⟩)
  dsimp only [Pt.U, Pt.locs, Pt.cells, Pt.slots] at X161 l161 y161 z161 st161 hQ161
  subst l161 y161 z161
  generalize e161 : T161.heap = h161 at hQ161
  obtain ⟨rfl, N161q, K161q⟩ := hQ161
  have N161 := Fr.app N160 N161q
  refine own_go (fun t k => st161.trans k) ?_
  have Z161 : n0 ≤ h161.size := (Nat.le_trans Z160 K161q.1)
  have K161 : Keep h0 h161 [] := K160.trans K161q (allS (Or.inr lo159) all0)
  show own_Go _ _ _ _ (T161.setTop (mkF m 25 #[.val (.int c0_)] [(.ref b159)]))
  refine own_ret X161 hx hlk hret rfl (Or.inr (Or.inr (Or.inr (Or.inr ⟨rfl, rfl, rfl⟩)))) (hb hby d_j42_139_25) ?_ (by decide) (by decide)
  rw [e161]
  exact ⟨b159, rfl, N161, K161⟩
theorem own_low (x : Int32) : ¬ (255 : Int32) < nar .char ((x &&& (255 : Int32)).toUInt32.toUInt16.toUInt32.toInt32) ∧ ¬ (255 : Int32) < ((x &&& (255 : Int32)).toUInt32.toUInt16.toUInt32.toInt32) :=
  own_mask (P := fun y => ¬ (255 : Int32) < nar .char (y.toUInt32.toUInt16.toUInt32.toInt32) ∧ ¬ (255 : Int32) < (y.toUInt32.toUInt16.toUInt32.toInt32)) 256 255 (by decide) (by decide +kernel) x
def Q_law (Z : State) (iv : Int32) (fv : Int32) (p0 : Int32) (p1 : Int32) (zv : Int32) (h0 : Heap) (n0 : Nat) (v : Option Value) (h : Heap) (L : List Loc) : Prop := v = some (.int 1) ∧ Fr n0 L
theorem ef_law (m : MethodId) (iv : Int32) (fv : Int32) (p0 : Int32) (p1 : Int32) : entryFrame m #[(.int iv), (.int fv), (.int p0), (.int p1)] maxLocals = mkF m 0 #[.val (.int iv), .val (.int fv), .val (.int p0), .val (.int p1), .unset, .unset, .unset, .unset, .unset, .unset, .unset, .unset, .unset] [] := by first | (simp [entryFrame, mkF, argsToLocals, Value.category, maxLocals]; done) | rfl
theorem pn_5 : plainName "com/example/lambdaloom/lambdaloom/model/VerdictIsValidPinLaw" = true := by first | (simp [plainName, overriddenIn]; done) | decide +kernel
theorem w_3 {Z : State} {a0 : Array Value} (hw : ∀ d ∈ tables_1, d.before a0 Z = true) : (Jvm.Cond.arrayClass Jvm.ClassFile.FieldType.char).before a0 Z = true := hw _ (List.mem_of_getElem? (i := 3) rfl)
theorem w_0 {Z : State} {a0 : Array Value} (hw : ∀ d ∈ tables_1, d.before a0 Z = true) : (Jvm.Cond.classLink "com/example/lambdaloom/lambdaloom/model/VerdictIsValidPinLaw" (7 : Nat) "java/lang/String").before a0 Z = true := hw _ (List.mem_of_getElem? (i := 0) rfl)
theorem w_4 {Z : State} {a0 : Array Value} (hw : ∀ d ∈ tables_1, d.before a0 Z = true) : (Jvm.Cond.methodLink "com/example/lambdaloom/lambdaloom/model/VerdictIsValidPinLaw" (9 : Nat) ({ cls := "java/lang/String", name := "<init>", desc := "([C)V" } : Jvm.MethodName)).before a0 Z = true := hw _ (List.mem_of_getElem? (i := 4) rfl)
theorem w_6 {Z : State} {a0 : Array Value} (hw : ∀ d ∈ tables_1, d.before a0 Z = true) : (Jvm.Cond.code ({ cls := "java/lang/String", name := "<init>", desc := "([C)V" } : Jvm.MethodName) jdk_42_method_3_code (2 : Nat) (Option.none : Option Jvm.ClassFile.FieldType)).before a0 Z = true := hw _ (List.mem_of_getElem? (i := 6) rfl)
theorem pd_9 : parseMethodDescriptor "([C)V" = some ⟨[(.array .char)], none⟩ := by decide +kernel
theorem w_5 {Z : State} {a0 : Array Value} (hw : ∀ d ∈ tables_1, d.before a0 Z = true) : (Jvm.Cond.instanceMethod ({ cls := "java/lang/String", name := "<init>", desc := "([C)V" } : Jvm.MethodName)).before a0 Z = true := hw _ (List.mem_of_getElem? (i := 5) rfl)
theorem w_22 {Z : State} {a0 : Array Value} (hw : ∀ d ∈ tables_1, d.before a0 Z = true) : (Jvm.Cond.classLink "com/example/lambdaloom/lambdaloom/model/VerdictIsValidPinLaw" (16 : Nat) "com/example/lambdaloom/lambdaloom/model/Verdict").before a0 Z = true := hw _ (List.mem_of_getElem? (i := 22) rfl)
theorem w_25 {Z : State} {a0 : Array Value} (hw : ∀ d ∈ tables_1, d.before a0 Z = true) : (Jvm.Cond.methodLink "com/example/lambdaloom/lambdaloom/model/VerdictIsValidPinLaw" (18 : Nat) ({ cls := "com/example/lambdaloom/lambdaloom/model/Verdict", name := "<init>", desc := "(Ljava/lang/String;I)V" } : Jvm.MethodName)).before a0 Z = true := hw _ (List.mem_of_getElem? (i := 25) rfl)
theorem w_38 {Z : State} {a0 : Array Value} (hw : ∀ d ∈ tables_1, d.before a0 Z = true) : (Jvm.Cond.methodLink "com/example/lambdaloom/lambdaloom/model/VerdictIsValidPinLaw" (21 : Nat) ({ cls := "com/example/lambdaloom/lambdaloom/model/Verdict", name := "valid", desc := "(I)Lcom/example/lambdaloom/lambdaloom/model/Verdict;" } : Jvm.MethodName)).before a0 Z = true := hw _ (List.mem_of_getElem? (i := 38) rfl)
theorem w_40 {Z : State} {a0 : Array Value} (hw : ∀ d ∈ tables_1, d.before a0 Z = true) : (Jvm.Cond.code ({ cls := "com/example/lambdaloom/lambdaloom/model/Verdict", name := "valid", desc := "(I)Lcom/example/lambdaloom/lambdaloom/model/Verdict;" } : Jvm.MethodName) prog_49_method_2_code (1 : Nat) (Option.some (Jvm.ClassFile.FieldType.object "com/example/lambdaloom/lambdaloom/model/Verdict"))).before a0 Z = true := hw _ (List.mem_of_getElem? (i := 40) rfl)
theorem pd_10 : parseMethodDescriptor "(I)Lcom/example/lambdaloom/lambdaloom/model/Verdict;" = some ⟨[.int], some (.object "com/example/lambdaloom/lambdaloom/model/Verdict")⟩ := by decide +kernel
theorem w_39 {Z : State} {a0 : Array Value} (hw : ∀ d ∈ tables_1, d.before a0 Z = true) : (Jvm.Cond.static ({ cls := "com/example/lambdaloom/lambdaloom/model/Verdict", name := "valid", desc := "(I)Lcom/example/lambdaloom/lambdaloom/model/Verdict;" } : Jvm.MethodName)).before a0 Z = true := hw _ (List.mem_of_getElem? (i := 39) rfl)
theorem w_43 {Z : State} {a0 : Array Value} (hw : ∀ d ∈ tables_1, d.before a0 Z = true) : (Jvm.Cond.methodLink "com/example/lambdaloom/lambdaloom/model/VerdictIsValidPinLaw" (25 : Nat) ({ cls := "com/example/lambdaloom/lambdaloom/model/Verdict", name := "invalid", desc := "(Ljava/lang/String;)Lcom/example/lambdaloom/lambdaloom/model/Verdict;" } : Jvm.MethodName)).before a0 Z = true := hw _ (List.mem_of_getElem? (i := 43) rfl)
theorem w_45 {Z : State} {a0 : Array Value} (hw : ∀ d ∈ tables_1, d.before a0 Z = true) : (Jvm.Cond.code ({ cls := "com/example/lambdaloom/lambdaloom/model/Verdict", name := "invalid", desc := "(Ljava/lang/String;)Lcom/example/lambdaloom/lambdaloom/model/Verdict;" } : Jvm.MethodName) prog_49_method_3_code (1 : Nat) (Option.some (Jvm.ClassFile.FieldType.object "com/example/lambdaloom/lambdaloom/model/Verdict"))).before a0 Z = true := hw _ (List.mem_of_getElem? (i := 45) rfl)
theorem pd_11 : parseMethodDescriptor "(Ljava/lang/String;)Lcom/example/lambdaloom/lambdaloom/model/Verdict;" = some ⟨[(.object "java/lang/String")], some (.object "com/example/lambdaloom/lambdaloom/model/Verdict")⟩ := by decide +kernel
theorem w_44 {Z : State} {a0 : Array Value} (hw : ∀ d ∈ tables_1, d.before a0 Z = true) : (Jvm.Cond.static ({ cls := "com/example/lambdaloom/lambdaloom/model/Verdict", name := "invalid", desc := "(Ljava/lang/String;)Lcom/example/lambdaloom/lambdaloom/model/Verdict;" } : Jvm.MethodName)).before a0 Z = true := hw _ (List.mem_of_getElem? (i := 44) rfl)
theorem w_46 {Z : State} {a0 : Array Value} (hw : ∀ d ∈ tables_1, d.before a0 Z = true) : (Jvm.Cond.methodLink "com/example/lambdaloom/lambdaloom/model/VerdictIsValidPinLaw" (29 : Nat) ({ cls := "com/example/lambdaloom/lambdaloom/model/Verdict", name := "isValid", desc := "()Z" } : Jvm.MethodName)).before a0 Z = true := hw _ (List.mem_of_getElem? (i := 46) rfl)
theorem w_50 {Z : State} {a0 : Array Value} (hw : ∀ d ∈ tables_1, d.before a0 Z = true) : (Jvm.Cond.code ({ cls := "com/example/lambdaloom/lambdaloom/model/Verdict", name := "isValid", desc := "()Z" } : Jvm.MethodName) prog_49_method_4_code (1 : Nat) (Option.some Jvm.ClassFile.FieldType.boolean)).before a0 Z = true := hw _ (List.mem_of_getElem? (i := 50) rfl)
theorem pd_12 : parseMethodDescriptor "()Z" = some ⟨[], some .boolean⟩ := by decide +kernel
theorem w_49 {Z : State} {a0 : Array Value} (hw : ∀ d ∈ tables_1, d.before a0 Z = true) : (Jvm.Cond.selects "com/example/lambdaloom/lambdaloom/model/Verdict" ({ cls := "com/example/lambdaloom/lambdaloom/model/Verdict", name := "isValid", desc := "()Z" } : Jvm.MethodName) ({ cls := "com/example/lambdaloom/lambdaloom/model/Verdict", name := "isValid", desc := "()Z" } : Jvm.MethodName)).before a0 Z = true := hw _ (List.mem_of_getElem? (i := 49) rfl)
theorem w_47 {Z : State} {a0 : Array Value} (hw : ∀ d ∈ tables_1, d.before a0 Z = true) : (Jvm.Cond.declares ({ cls := "com/example/lambdaloom/lambdaloom/model/Verdict", name := "isValid", desc := "()Z" } : Jvm.MethodName)).before a0 Z = true := hw _ (List.mem_of_getElem? (i := 47) rfl)
theorem w_48 {Z : State} {a0 : Array Value} (hw : ∀ d ∈ tables_1, d.before a0 Z = true) : (Jvm.Cond.instanceMethod ({ cls := "com/example/lambdaloom/lambdaloom/model/Verdict", name := "isValid", desc := "()Z" } : Jvm.MethodName)).before a0 Z = true := hw _ (List.mem_of_getElem? (i := 48) rfl)
theorem w_51 {Z : State} {a0 : Array Value} (hw : ∀ d ∈ tables_1, d.before a0 Z = true) : (Jvm.Cond.methodLink "com/example/lambdaloom/lambdaloom/model/VerdictIsValidPinLaw" (12 : Nat) ({ cls := "java/lang/String", name := "valueOf", desc := "(C)Ljava/lang/String;" } : Jvm.MethodName)).before a0 Z = true := hw _ (List.mem_of_getElem? (i := 51) rfl)
theorem w_53 {Z : State} {a0 : Array Value} (hw : ∀ d ∈ tables_1, d.before a0 Z = true) : (Jvm.Cond.code ({ cls := "java/lang/String", name := "valueOf", desc := "(C)Ljava/lang/String;" } : Jvm.MethodName) jdk_42_method_139_code (1 : Nat) (Option.some (Jvm.ClassFile.FieldType.object "java/lang/String"))).before a0 Z = true := hw _ (List.mem_of_getElem? (i := 53) rfl)
theorem pd_13 : parseMethodDescriptor "(C)Ljava/lang/String;" = some ⟨[.char], some (.object "java/lang/String")⟩ := by decide +kernel
theorem w_52 {Z : State} {a0 : Array Value} (hw : ∀ d ∈ tables_1, d.before a0 Z = true) : (Jvm.Cond.static ({ cls := "java/lang/String", name := "valueOf", desc := "(C)Ljava/lang/String;" } : Jvm.MethodName)).before a0 Z = true := hw _ (List.mem_of_getElem? (i := 52) rfl)
set_option maxRecDepth 65536 in
set_option maxHeartbeats 40000000 in
theorem rm_law (l : Launch) (Z : State) (a0 : Array Value) (hw : ∀ d ∈ tables_1, d.before a0 Z = true) (ws : List Jvm.Cond) (iv fv p0 p1 zv : Int32) (h0 : Heap) (n0 : Nat) (Z0 : n0 ≤ h0.size) (O0 : Old Z n0 h0) (hzv : ¬ zv = (0 : Int32)) (S0 : Sta Z Z.heap "java/lang/String" "COMPACT_STRINGS" "Z" (.int zv)) :
    own_MetH l Z consts_1 x code maxLocals ret ws room_1 #[(.int iv), (.int fv), (.int p0), (.int p1)] h0 (Q_law Z iv fv p0 p1 zv h0 n0) := by
  refine own_enterH (own := "com/example/lambdaloom/lambdaloom/model/VerdictIsValidPinLaw") (plainFor_of_name pn_5) rfl ?_
  intro p e s m below meth c s₁ hlk hret hx hby hml hown hnm hZ hh hH X0 e0
  have N0 := Fr.nil n0
  refine own_cast (ef_law m iv fv p0 p1) ?_
  have hS : s.Since s.vm 0 := (State.WarmedH.refl s).since 0
  have hk : 0 ≤ h0.size := Nat.zero_le _
  have C0 : CHr Z consts_1 s.vm h0 s.vm h0 := CHr.refl hH
  show own_Go _ _ _ _ (s₁.setTop (mkF m 0 #[.val (.int iv), .val (.int fv), .val (.int p0), .val (.int p1), .unset, .unset, .unset, .unset, .unset, .unset, .unset, .unset, .unset] []))
  refine own_go (fun t k => XS.iloadN X0.here hx rfl (hb hby at_0) rfl k) ?_
  show own_Go _ _ _ _ (s₁.setTop (mkF m 1 #[.val (.int iv), .val (.int fv), .val (.int p0), .val (.int p1), .unset, .unset, .unset, .unset, .unset, .unset, .unset, .unset, .unset] [(.int fv)]))
  refine own_go (fun t k => XS.iconst X0.here hx rfl (hb hby at_1) k) ?_
  show own_Go _ _ _ _ (s₁.setTop (mkF m 2 #[.val (.int iv), .val (.int fv), .val (.int p0), .val (.int p1), .unset, .unset, .unset, .unset, .unset, .unset, .unset, .unset, .unset] [(.int (1 : Int32)), (.int fv)]))
  refine own_go (fun t k => XS.iand X0.here hx rfl (hb hby at_2) rfl k) ?_
  by_cases hc162 : (fv &&& (1 : Int32)) = (0 : Int32)
  · show own_Go _ _ _ _ (s₁.setTop (mkF m 3 #[.val (.int iv), .val (.int fv), .val (.int p0), .val (.int p1), .unset, .unset, .unset, .unset, .unset, .unset, .unset, .unset, .unset] [(.int (fv &&& (1 : Int32)))]))
    refine own_go (fun t k => XS.ifYes X0.here hx rfl (pc0 := 3) (pc' := 21) rfl (hb hby at_3) rfl ((if0 _ _).trans (teq hc162).1) (by decide) (by decide) k) ?_
    show own_Go _ _ _ _ (s₁.setTop (mkF m 21 #[.val (.int iv), .val (.int fv), .val (.int p0), .val (.int p1), .unset, .unset, .unset, .unset, .unset, .unset, .unset, .unset, .unset] []))
    refine own_go (fun t k => XS.iloadN X0.here hx rfl (hb hby at_21) rfl k) ?_
    show own_Go _ _ _ _ (s₁.setTop (mkF m 22 #[.val (.int iv), .val (.int fv), .val (.int p0), .val (.int p1), .unset, .unset, .unset, .unset, .unset, .unset, .unset, .unset, .unset] [(.int fv)]))
    refine own_go (fun t k => XS.iconst X0.here hx rfl (hb hby at_22) k) ?_
    show own_Go _ _ _ _ (s₁.setTop (mkF m 23 #[.val (.int iv), .val (.int fv), .val (.int p0), .val (.int p1), .unset, .unset, .unset, .unset, .unset, .unset, .unset, .unset, .unset] [(.int (2 : Int32)), (.int fv)]))
    refine own_go (fun t k => XS.iand X0.here hx rfl (hb hby at_23) rfl k) ?_
    by_cases hc163 : (fv &&& (2 : Int32)) = (0 : Int32)
    · show own_Go _ _ _ _ (s₁.setTop (mkF m 24 #[.val (.int iv), .val (.int fv), .val (.int p0), .val (.int p1), .unset, .unset, .unset, .unset, .unset, .unset, .unset, .unset, .unset] [(.int (fv &&& (2 : Int32)))]))
      refine own_go (fun t k => XS.ifYes X0.here hx rfl (pc0 := 24) (pc' := 41) rfl (hb hby at_24) rfl ((if0 _ _).trans (teq hc163).1) (by decide) (by decide) k) ?_
      show own_Go _ _ _ _ (s₁.setTop (mkF m 41 #[.val (.int iv), .val (.int fv), .val (.int p0), .val (.int p1), .unset, .unset, .unset, .unset, .unset, .unset, .unset, .unset, .unset] []))
      refine own_go (fun t k => XS.iconst X0.here hx rfl (hb hby at_41) k) ?_
      show own_Go _ _ _ _ (s₁.setTop (mkF m 42 #[.val (.int iv), .val (.int fv), .val (.int p0), .val (.int p1), .unset, .unset, .unset, .unset, .unset, .unset, .unset, .unset, .unset] [(.int (2 : Int32))]))
      obtain ⟨T164, h164, k164, X164, e164, E164, A164, st164⟩ := newP (aty := .char) X0 hx hZ (w_3 hw) e0 (n := (2 : Int32)) (rest := []) (g := (mkF m 42 #[.val (.int iv), .val (.int fv), .val (.int p0), .val (.int p1), .unset, .unset, .unset, .unset, .unset, .unset, .unset, .unset, .unset] [(.int (2 : Int32))])) rfl (hb hby at_42) rfl (by decide) (cap := 2) (by decide) (by decide) (by decide) (by decide)
      obtain ⟨b164, g164⟩ : ∃ z, z = h0.size := ⟨_, rfl⟩
      rw [← g164] at A164 st164
      refine own_go st164 ?_
      have Sf164 : Safe Z consts_1 s.vm h0 b164 := Safe.new (Nat.le_of_eq g164.symm)
      have Z164 : n0 ≤ h164.size := (Nat.le_trans Z0 E164.1)
      have C164 := C0.trans (CHr.ext E164 C0.1)
      have lo164 : h0.size ≤ b164 := Nat.le_of_eq g164.symm
      have q164 : n0 ≤ b164 := Nat.le_trans Z0 lo164
      have hi164 : b164 < h164.size := A164.lt
      have V164 : Arv Z h164 b164 k164 .char (2 : Int32) [(.int (0 : Int32)), (.int (0 : Int32))] (.int (0 : Int32)) := (Arv.new A164 (by decide)).pad (pad_rep [] (.int (0 : Int32)) 2)
      show own_Go _ _ _ _ (T164.setTop (mkF m 44 #[.val (.int iv), .val (.int fv), .val (.int p0), .val (.int p1), .unset, .unset, .unset, .unset, .unset, .unset, .unset, .unset, .unset] [(.ref b164)]))
      refine own_go (fun t k => XS.astore X164.here hx rfl (hb hby at_44) rfl rfl (l' := #[.val (.int iv), .val (.int fv), .val (.int p0), .val (.int p1), .unset, .val (.ref b164), .unset, .unset, .unset, .unset, .unset, .unset, .unset]) rfl k) ?_
      show own_Go _ _ _ _ (T164.setTop (mkF m 46 #[.val (.int iv), .val (.int fv), .val (.int p0), .val (.int p1), .unset, .val (.ref b164), .unset, .unset, .unset, .unset, .unset, .unset, .unset] []))
      refine own_go (fun t k => XS.aload X164.here hx rfl (hb hby at_46) rfl rfl k) ?_
      show own_Go _ _ _ _ (T164.setTop (mkF m 48 #[.val (.int iv), .val (.int fv), .val (.int p0), .val (.int p1), .unset, .val (.ref b164), .unset, .unset, .unset, .unset, .unset, .unset, .unset] [(.ref b164)]))
      refine own_go (fun t k => XS.iconst X164.here hx rfl (hb hby at_48) k) ?_
      show own_Go _ _ _ _ (T164.setTop (mkF m 49 #[.val (.int iv), .val (.int fv), .val (.int p0), .val (.int p1), .unset, .val (.ref b164), .unset, .unset, .unset, .unset, .unset, .unset, .unset] [(.int (0 : Int32)), (.ref b164)]))
      refine own_go (fun t k => XS.iloadN X164.here hx rfl (hb hby at_49) rfl k) ?_
      show own_Go _ _ _ _ (T164.setTop (mkF m 50 #[.val (.int iv), .val (.int fv), .val (.int p0), .val (.int p1), .unset, .val (.ref b164), .unset, .unset, .unset, .unset, .unset, .unset, .unset] [(.int p0), (.int (0 : Int32)), (.ref b164)]))
      refine own_go (fun t k => XS.sipush X164.here hx rfl (hb hby at_50) k) ?_
      show own_Go _ _ _ _ (T164.setTop (mkF m 53 #[.val (.int iv), .val (.int fv), .val (.int p0), .val (.int p1), .unset, .val (.ref b164), .unset, .unset, .unset, .unset, .unset, .unset, .unset] [(.int (255 : Int32)), (.int p0), (.int (0 : Int32)), (.ref b164)]))
      refine own_go (fun t k => XS.iand X164.here hx rfl (hb hby at_53) rfl k) ?_
      show own_Go _ _ _ _ (T164.setTop (mkF m 54 #[.val (.int iv), .val (.int fv), .val (.int p0), .val (.int p1), .unset, .val (.ref b164), .unset, .unset, .unset, .unset, .unset, .unset, .unset] [(.int (p0 &&& (255 : Int32))), (.int (0 : Int32)), (.ref b164)]))
      refine own_go (fun t k => XS.i2c X164.here hx rfl (hb hby at_54) rfl k) ?_
      show own_Go _ _ _ _ (T164.setTop (mkF m 55 #[.val (.int iv), .val (.int fv), .val (.int p0), .val (.int p1), .unset, .val (.ref b164), .unset, .unset, .unset, .unset, .unset, .unset, .unset] [(.int ((p0 &&& (255 : Int32)).toUInt32.toUInt16.toUInt32.toInt32)), (.int (0 : Int32)), (.ref b164)]))
      obtain ⟨cl165, Ar165, qk165, sz165, nn165, ha165, gf165⟩ := id V164
      have hin165 : ¬ ((0 : Int32) < 0 ∨ cl165.slots.size ≤ ((0 : Int32)).toNatClampNeg) := inb_of sz165 ⟨by decide, by decide⟩
      obtain ⟨T166, h166, X166, e166, W166, st166⟩ := stC X164 hx hZ e164 Ar165 (j := (0 : Int32)) hin165 (g := (mkF m 55 #[.val (.int iv), .val (.int fv), .val (.int p0), .val (.int p1), .unset, .val (.ref b164), .unset, .unset, .unset, .unset, .unset, .unset, .unset] [(.int ((p0 &&& (255 : Int32)).toUInt32.toUInt16.toUInt32.toInt32)), (.int (0 : Int32)), (.ref b164)])) rfl rfl (hb hby at_55)
      refine own_go st166 ?_
      have V166 : Arv Z h166 b164 k164 .char (2 : Int32) [(.int (nar .char ((p0 &&& (255 : Int32)).toUInt32.toUInt16.toUInt32.toInt32))), (.int (0 : Int32))] (.int (0 : Int32)) := Arv.set Ar165 qk165 sz165 nn165 ha165 gf165 (fits_nar_char _) W166 0 rfl (Nat.le_of_ble_eq_true rfl)
      have C166 := C164.trans (CHr.wr W166 (Safe.ext E164 C0.1 Sf164) C164.1)
      have Z166 : n0 ≤ h166.size := (Nat.le_trans Z164 (Nat.le_of_eq W166.size.symm))
      have N166 := Fr.snoc X166 N0 q164
      show own_Go _ _ _ _ (T166.setTop (mkF m 56 #[.val (.int iv), .val (.int fv), .val (.int p0), .val (.int p1), .unset, .val (.ref b164), .unset, .unset, .unset, .unset, .unset, .unset, .unset] []))
      refine own_go (fun t k => XS.aload X166.here hx rfl (hb hby at_56) rfl rfl k) ?_
      show own_Go _ _ _ _ (T166.setTop (mkF m 58 #[.val (.int iv), .val (.int fv), .val (.int p0), .val (.int p1), .unset, .val (.ref b164), .unset, .unset, .unset, .unset, .unset, .unset, .unset] [(.ref b164)]))
      refine own_go (fun t k => XS.iconst X166.here hx rfl (hb hby at_58) k) ?_
      show own_Go _ _ _ _ (T166.setTop (mkF m 59 #[.val (.int iv), .val (.int fv), .val (.int p0), .val (.int p1), .unset, .val (.ref b164), .unset, .unset, .unset, .unset, .unset, .unset, .unset] [(.int (1 : Int32)), (.ref b164)]))
      refine own_go (fun t k => XS.iloadN X166.here hx rfl (hb hby at_59) rfl k) ?_
      show own_Go _ _ _ _ (T166.setTop (mkF m 60 #[.val (.int iv), .val (.int fv), .val (.int p0), .val (.int p1), .unset, .val (.ref b164), .unset, .unset, .unset, .unset, .unset, .unset, .unset] [(.int p1), (.int (1 : Int32)), (.ref b164)]))
      refine own_go (fun t k => XS.sipush X166.here hx rfl (hb hby at_60) k) ?_
      show own_Go _ _ _ _ (T166.setTop (mkF m 63 #[.val (.int iv), .val (.int fv), .val (.int p0), .val (.int p1), .unset, .val (.ref b164), .unset, .unset, .unset, .unset, .unset, .unset, .unset] [(.int (255 : Int32)), (.int p1), (.int (1 : Int32)), (.ref b164)]))
      refine own_go (fun t k => XS.iand X166.here hx rfl (hb hby at_63) rfl k) ?_
      show own_Go _ _ _ _ (T166.setTop (mkF m 64 #[.val (.int iv), .val (.int fv), .val (.int p0), .val (.int p1), .unset, .val (.ref b164), .unset, .unset, .unset, .unset, .unset, .unset, .unset] [(.int (p1 &&& (255 : Int32))), (.int (1 : Int32)), (.ref b164)]))
      refine own_go (fun t k => XS.i2c X166.here hx rfl (hb hby at_64) rfl k) ?_
      show own_Go _ _ _ _ (T166.setTop (mkF m 65 #[.val (.int iv), .val (.int fv), .val (.int p0), .val (.int p1), .unset, .val (.ref b164), .unset, .unset, .unset, .unset, .unset, .unset, .unset] [(.int ((p1 &&& (255 : Int32)).toUInt32.toUInt16.toUInt32.toInt32)), (.int (1 : Int32)), (.ref b164)]))
      obtain ⟨cl167, Ar167, qk167, sz167, nn167, ha167, gf167⟩ := id V166
      have hin167 : ¬ ((1 : Int32) < 0 ∨ cl167.slots.size ≤ ((1 : Int32)).toNatClampNeg) := inb_of sz167 ⟨by decide, by decide⟩
      obtain ⟨T168, h168, X168, e168, W168, st168⟩ := stC X166 hx hZ e166 Ar167 (j := (1 : Int32)) hin167 (g := (mkF m 65 #[.val (.int iv), .val (.int fv), .val (.int p0), .val (.int p1), .unset, .val (.ref b164), .unset, .unset, .unset, .unset, .unset, .unset, .unset] [(.int ((p1 &&& (255 : Int32)).toUInt32.toUInt16.toUInt32.toInt32)), (.int (1 : Int32)), (.ref b164)])) rfl rfl (hb hby at_65)
      refine own_go st168 ?_
      have V168 : Arv Z h168 b164 k164 .char (2 : Int32) [(.int (nar .char ((p0 &&& (255 : Int32)).toUInt32.toUInt16.toUInt32.toInt32))), (.int (nar .char ((p1 &&& (255 : Int32)).toUInt32.toUInt16.toUInt32.toInt32)))] (.int (0 : Int32)) := Arv.set Ar167 qk167 sz167 nn167 ha167 gf167 (fits_nar_char _) W168 1 rfl (Nat.le_of_ble_eq_true rfl)
      have f169 := (Safe.wr W166 (Safe.ext E164 C0.1 Sf164) C164.1 (Safe.ext E164 C0.1 Sf164))
      have C168 := C166.trans (CHr.wr W168 f169 C166.1)
      have Z168 : n0 ≤ h168.size := (Nat.le_trans Z166 (Nat.le_of_eq W168.size.symm))
      have N168 := Fr.snoc X168 N166 q164
      show own_Go _ _ _ _ (T168.setTop (mkF m 66 #[.val (.int iv), .val (.int fv), .val (.int p0), .val (.int p1), .unset, .val (.ref b164), .unset, .unset, .unset, .unset, .unset, .unset, .unset] []))
      obtain ⟨T170, h170, X170, e170, E170, A170, D170, -, st170⟩ := newO X168 hx hZ hown (w_0 hw) (w_1 hw) (w_2 hw) e168 (g := (mkF m 66 #[.val (.int iv), .val (.int fv), .val (.int p0), .val (.int p1), .unset, .val (.ref b164), .unset, .unset, .unset, .unset, .unset, .unset, .unset] [])) rfl (hb hby at_66) (by decide) (by decide)
      obtain ⟨b170, g170⟩ : ∃ z, z = h168.size := ⟨_, rfl⟩
      rw [← g170] at A170 D170 st170
      refine own_go st170 ?_
      have Sf170 : Safe Z consts_1 s.vm h168 b170 := Safe.new (Nat.le_of_eq g170.symm)
      have Z170 : n0 ≤ h170.size := (Nat.le_trans Z168 E170.1)
      have C170 := C168.trans (CHr.ext E170 C168.1)
      have lo170 : h168.size ≤ b170 := Nat.le_of_eq g170.symm
      have q170 : n0 ≤ b170 := Nat.le_trans Z168 lo170
      have hi170 : b170 < h170.size := A170.lt
      have F170_16 : Fld Z h170 b170 "java/lang/String" "value" "[B" .null := D170 (Or.inr (w_16 hw)) (ty := (.array .byte)) (by decide)
      have F170_17 : Fld Z h170 b170 "java/lang/String" "coder" "B" (.int (0 : Int32)) := D170 (Or.inr (w_17 hw)) (ty := .byte) (by decide)
      show own_Go _ _ _ _ (T170.setTop (mkF m 69 #[.val (.int iv), .val (.int fv), .val (.int p0), .val (.int p1), .unset, .val (.ref b164), .unset, .unset, .unset, .unset, .unset, .unset, .unset] [(.ref b170)]))
      refine own_go (fun t k => XS.dup X170.here hx rfl (hb hby at_69) rfl rfl k) ?_
      show own_Go _ _ _ _ (T170.setTop (mkF m 70 #[.val (.int iv), .val (.int fv), .val (.int p0), .val (.int p1), .unset, .val (.ref b164), .unset, .unset, .unset, .unset, .unset, .unset, .unset] [(.ref b170), (.ref b170)]))
      refine own_go (fun t k => XS.aload X170.here hx rfl (hb hby at_70) rfl rfl k) ?_
      show own_Go _ _ _ _ (T170.setTop (mkF m 72 #[.val (.int iv), .val (.int fv), .val (.int p0), .val (.int p1), .unset, .val (.ref b164), .unset, .unset, .unset, .unset, .unset, .unset, .unset] [(.ref b164), (.ref b170), (.ref b170)]))
      obtain ⟨_, _, ⟨T171, L171, k171, n171⟩, -, X171, ⟨Lc171, hQ171, l171, y171, z171⟩, st171⟩ := X170.specialBack hx (y := (⟨"java/lang/String", "<init>", "([C)V"⟩ : MethodName)) rfl hown (mvT hZ (w_4 hw)) (mvT hZ (w_5 hw)) (mvT hZ (w_6 hw)) (by decide) (backOf (W := 1) (rm_s2 l Z a0 hw [] b170 b164 k164 (nar .char ((p0 &&& (255 : Int32)).toUInt32.toUInt16.toUInt32.toInt32)) (nar .char ((p1 &&& (255 : Int32)).toUInt32.toUInt16.toUInt32.toInt32)) zv h170 n0 Z170 q170 A170 F170_16 F170_17 (V168.ext E170) (own_low _).1 (own_low _).1 ((((O0.ext E164).wr W166 q164).wr W168 q164).ext E170) hzv S0) hZ (w_6 hw) (w_2 hw) (by decide) (by decide)) (g := (mkF m 72 #[.val (.int iv), .val (.int fv), .val (.int p0), .val (.int p1), .unset, .val (.ref b164), .unset, .unset, .unset, .unset, .unset, .unset, .unset] [(.ref b164), (.ref b170), (.ref b170)])) rfl (by rw [hml]; rfl) (Steps.refl _) (a := b170) (argsL := [(.ref b164)]) (rest := [(.ref b170)]) (lenOf pd_9 rfl) rfl (by show 2 * 0 + _ ≤ _; exact Nat.le_of_eq rfl) (hb hby at_72) (fun _ _ => ⟨rfl, e170, (by decide : 2 + 1 ≤ _), (by decide : 6 + 2 ≤ _)⟩)
      dsimp only [Pt.U, Pt.locs, Pt.cells, Pt.slots] at X171 l171 y171 z171 st171 hQ171
      subst l171 y171 z171
      generalize e171 : T171.heap = h171 at hQ171
      obtain ⟨rfl, N171q, K171q⟩ := hQ171
      have N171 := Fr.app N168 N171q
      refine own_go (fun t k => st171.trans k) ?_
      have C171 := C170.trans (CHr.keep K171q (allS (Safe.ext E170 C168.1 Sf170) all0) C170.1)
      have Z171 : n0 ≤ h171.size := (Nat.le_trans Z170 K171q.1)
      show own_Go _ _ _ _ (T171.setTop (mkF m 75 #[.val (.int iv), .val (.int fv), .val (.int p0), .val (.int p1), .unset, .val (.ref b164), .unset, .unset, .unset, .unset, .unset, .unset, .unset] [(.ref b170)]))
      refine own_go (fun t k => XS.astore X171.here hx rfl (hb hby at_75) rfl rfl (l' := #[.val (.int iv), .val (.int fv), .val (.int p0), .val (.int p1), .val (.ref b170), .val (.ref b164), .unset, .unset, .unset, .unset, .unset, .unset, .unset]) rfl k) ?_
      show own_Go _ _ _ _ (T171.setTop (mkF m 77 #[.val (.int iv), .val (.int fv), .val (.int p0), .val (.int p1), .val (.ref b170), .val (.ref b164), .unset, .unset, .unset, .unset, .unset, .unset, .unset] []))
      obtain ⟨T172, h172, X172, e172, E172, A172, D172, -, st172⟩ := newO X171 hx hZ hown (w_22 hw) (w_23 hw) (w_24 hw) e171 (g := (mkF m 77 #[.val (.int iv), .val (.int fv), .val (.int p0), .val (.int p1), .val (.ref b170), .val (.ref b164), .unset, .unset, .unset, .unset, .unset, .unset, .unset] [])) rfl (hb hby at_77) (by decide) (by decide)
      obtain ⟨b172, g172⟩ : ∃ z, z = h171.size := ⟨_, rfl⟩
      rw [← g172] at A172 D172 st172
      refine own_go st172 ?_
      have Sf172 : Safe Z consts_1 s.vm h171 b172 := Safe.new (Nat.le_of_eq g172.symm)
      have Z172 : n0 ≤ h172.size := (Nat.le_trans Z171 E172.1)
      have C172 := C171.trans (CHr.ext E172 C171.1)
      have lo172 : h171.size ≤ b172 := Nat.le_of_eq g172.symm
      have q172 : n0 ≤ b172 := Nat.le_trans Z171 lo172
      have hi172 : b172 < h172.size := A172.lt
      have F172_35 : Fld Z h172 b172 "com/example/lambdaloom/lambdaloom/model/Verdict" "fault" "Ljava/lang/String;" .null := D172 (Or.inr (w_35 hw)) (ty := (.object "java/lang/String")) (by decide)
      have F172_37 : Fld Z h172 b172 "com/example/lambdaloom/lambdaloom/model/Verdict" "wavelengthCount" "I" (.int (0 : Int32)) := D172 (Or.inr (w_37 hw)) (ty := .int) (by decide)
      show own_Go _ _ _ _ (T172.setTop (mkF m 80 #[.val (.int iv), .val (.int fv), .val (.int p0), .val (.int p1), .val (.ref b170), .val (.ref b164), .unset, .unset, .unset, .unset, .unset, .unset, .unset] [(.ref b172)]))
      refine own_go (fun t k => XS.dup X172.here hx rfl (hb hby at_80) rfl rfl k) ?_
      show own_Go _ _ _ _ (T172.setTop (mkF m 81 #[.val (.int iv), .val (.int fv), .val (.int p0), .val (.int p1), .val (.ref b170), .val (.ref b164), .unset, .unset, .unset, .unset, .unset, .unset, .unset] [(.ref b172), (.ref b172)]))
      refine own_go (fun t k => XS.aconstNull X172.here hx rfl (hb hby at_81) k) ?_
      show own_Go _ _ _ _ (T172.setTop (mkF m 82 #[.val (.int iv), .val (.int fv), .val (.int p0), .val (.int p1), .val (.ref b170), .val (.ref b164), .unset, .unset, .unset, .unset, .unset, .unset, .unset] [.null, (.ref b172), (.ref b172)]))
      refine own_go (fun t k => XS.iloadN X172.here hx rfl (hb hby at_82) rfl k) ?_
      show own_Go _ _ _ _ (T172.setTop (mkF m 83 #[.val (.int iv), .val (.int fv), .val (.int p0), .val (.int p1), .val (.ref b170), .val (.ref b164), .unset, .unset, .unset, .unset, .unset, .unset, .unset] [(.int iv), .null, (.ref b172), (.ref b172)]))
      obtain ⟨_, _, ⟨T174, L174, k174, n174⟩, -, X174, ⟨Lc174, hQ174, l174, y174, z174⟩, st174⟩ := X172.specialBack hx (y := (⟨"com/example/lambdaloom/lambdaloom/model/Verdict", "<init>", "(Ljava/lang/String;I)V"⟩ : MethodName)) rfl hown (mvT hZ (w_25 hw)) (mvT hZ (w_26 hw)) (mvT hZ (w_27 hw)) (by decide) (backOf (W := 1) (rm_vN l Z a0 hw [] b172 iv h172 n0 Z172 q172 A172 F172_35 F172_37) hZ (w_27 hw) (w_24 hw) (by decide) (by decide)) (g := (mkF m 83 #[.val (.int iv), .val (.int fv), .val (.int p0), .val (.int p1), .val (.ref b170), .val (.ref b164), .unset, .unset, .unset, .unset, .unset, .unset, .unset] [(.int iv), .null, (.ref b172), (.ref b172)])) rfl (by rw [hml]; rfl) (Steps.refl _) (a := b172) (argsL := [.null, (.int iv)]) (rest := [(.ref b172)]) (lenOf pd_1 rfl) rfl (by show 2 * 0 + _ ≤ _; exact Nat.le_of_eq rfl) (hb hby at_83) (fun _ _ => ⟨rfl, e172, (by decide : 4 + 0 ≤ _), (by decide : 10 + 0 ≤ _)⟩)
      dsimp only [Pt.U, Pt.locs, Pt.cells, Pt.slots] at X174 l174 y174 z174 st174 hQ174
      subst l174 y174 z174
      generalize e174 : T174.heap = h174 at hQ174
      obtain ⟨rfl, N174q, K174q, F173⟩ := hQ174
      have N174 := Fr.app N171 N174q
      refine own_go (fun t k => st174.trans k) ?_
      have C174 := C172.trans (CHr.keep K174q (allS (Safe.ext E172 C171.1 Sf172) all0) C172.1)
      have Z174 : n0 ≤ h174.size := (Nat.le_trans Z172 K174q.1)
      show own_Go _ _ _ _ (T174.setTop (mkF m 86 #[.val (.int iv), .val (.int fv), .val (.int p0), .val (.int p1), .val (.ref b170), .val (.ref b164), .unset, .unset, .unset, .unset, .unset, .unset, .unset] [(.ref b172)]))
      refine own_go (fun t k => XS.astore X174.here hx rfl (hb hby at_86) rfl rfl (l' := #[.val (.int iv), .val (.int fv), .val (.int p0), .val (.int p1), .val (.ref b170), .val (.ref b172), .unset, .unset, .unset, .unset, .unset, .unset, .unset]) rfl k) ?_
      show own_Go _ _ _ _ (T174.setTop (mkF m 88 #[.val (.int iv), .val (.int fv), .val (.int p0), .val (.int p1), .val (.ref b170), .val (.ref b172), .unset, .unset, .unset, .unset, .unset, .unset, .unset] []))
      obtain ⟨T175, h175, X175, e175, E175, A175, D175, -, st175⟩ := newO X174 hx hZ hown (w_22 hw) (w_23 hw) (w_24 hw) e174 (g := (mkF m 88 #[.val (.int iv), .val (.int fv), .val (.int p0), .val (.int p1), .val (.ref b170), .val (.ref b172), .unset, .unset, .unset, .unset, .unset, .unset, .unset] [])) rfl (hb hby at_88) (by decide) (by decide)
      obtain ⟨b175, g175⟩ : ∃ z, z = h174.size := ⟨_, rfl⟩
      rw [← g175] at A175 D175 st175
      refine own_go st175 ?_
      have Sf175 : Safe Z consts_1 s.vm h174 b175 := Safe.new (Nat.le_of_eq g175.symm)
      have Z175 : n0 ≤ h175.size := (Nat.le_trans Z174 E175.1)
      have C175 := C174.trans (CHr.ext E175 C174.1)
      have lo175 : h174.size ≤ b175 := Nat.le_of_eq g175.symm
      have q175 : n0 ≤ b175 := Nat.le_trans Z174 lo175
      have hi175 : b175 < h175.size := A175.lt
      have F175_35 : Fld Z h175 b175 "com/example/lambdaloom/lambdaloom/model/Verdict" "fault" "Ljava/lang/String;" .null := D175 (Or.inr (w_35 hw)) (ty := (.object "java/lang/String")) (by decide)
      have F175_37 : Fld Z h175 b175 "com/example/lambdaloom/lambdaloom/model/Verdict" "wavelengthCount" "I" (.int (0 : Int32)) := D175 (Or.inr (w_37 hw)) (ty := .int) (by decide)
      show own_Go _ _ _ _ (T175.setTop (mkF m 91 #[.val (.int iv), .val (.int fv), .val (.int p0), .val (.int p1), .val (.ref b170), .val (.ref b172), .unset, .unset, .unset, .unset, .unset, .unset, .unset] [(.ref b175)]))
      refine own_go (fun t k => XS.dup X175.here hx rfl (hb hby at_91) rfl rfl k) ?_
      show own_Go _ _ _ _ (T175.setTop (mkF m 92 #[.val (.int iv), .val (.int fv), .val (.int p0), .val (.int p1), .val (.ref b170), .val (.ref b172), .unset, .unset, .unset, .unset, .unset, .unset, .unset] [(.ref b175), (.ref b175)]))
      refine own_go (fun t k => XS.aload X175.here hx rfl (hb hby at_92) rfl rfl k) ?_
      show own_Go _ _ _ _ (T175.setTop (mkF m 94 #[.val (.int iv), .val (.int fv), .val (.int p0), .val (.int p1), .val (.ref b170), .val (.ref b172), .unset, .unset, .unset, .unset, .unset, .unset, .unset] [(.ref b170), (.ref b175), (.ref b175)]))
      refine own_go (fun t k => XS.iloadN X175.here hx rfl (hb hby at_94) rfl k) ?_
      show own_Go _ _ _ _ (T175.setTop (mkF m 95 #[.val (.int iv), .val (.int fv), .val (.int p0), .val (.int p1), .val (.ref b170), .val (.ref b172), .unset, .unset, .unset, .unset, .unset, .unset, .unset] [(.int iv), (.ref b170), (.ref b175), (.ref b175)]))
      obtain ⟨_, _, ⟨T177, L177, k177, n177⟩, -, X177, ⟨Lc177, hQ177, l177, y177, z177⟩, st177⟩ := X175.specialBack hx (y := (⟨"com/example/lambdaloom/lambdaloom/model/Verdict", "<init>", "(Ljava/lang/String;I)V"⟩ : MethodName)) rfl hown (mvT hZ (w_25 hw)) (mvT hZ (w_26 hw)) (mvT hZ (w_27 hw)) (by decide) (backOf (W := 1) (rm_vR l Z a0 hw [] b175 b170 iv h175 n0 Z175 q175 A175 F175_35 F175_37) hZ (w_27 hw) (w_24 hw) (by decide) (by decide)) (g := (mkF m 95 #[.val (.int iv), .val (.int fv), .val (.int p0), .val (.int p1), .val (.ref b170), .val (.ref b172), .unset, .unset, .unset, .unset, .unset, .unset, .unset] [(.int iv), (.ref b170), (.ref b175), (.ref b175)])) rfl (by rw [hml]; rfl) (Steps.refl _) (a := b175) (argsL := [(.ref b170), (.int iv)]) (rest := [(.ref b175)]) (lenOf pd_1 rfl) rfl (by show 2 * 0 + _ ≤ _; exact Nat.le_of_eq rfl) (hb hby at_95) (fun _ _ => ⟨rfl, e175, (by decide : 5 + 0 ≤ _), (by decide : 12 + 0 ≤ _)⟩)
      dsimp only [Pt.U, Pt.locs, Pt.cells, Pt.slots] at X177 l177 y177 z177 st177 hQ177
      subst l177 y177 z177
      generalize e177 : T177.heap = h177 at hQ177
      obtain ⟨rfl, N177q, K177q, F176⟩ := hQ177
      have N177 := Fr.app N174 N177q
      refine own_go (fun t k => st177.trans k) ?_
      have C177 := C175.trans (CHr.keep K177q (allS (Safe.ext E175 C174.1 Sf175) all0) C175.1)
      have Z177 : n0 ≤ h177.size := (Nat.le_trans Z175 K177q.1)
      show own_Go _ _ _ _ (T177.setTop (mkF m 98 #[.val (.int iv), .val (.int fv), .val (.int p0), .val (.int p1), .val (.ref b170), .val (.ref b172), .unset, .unset, .unset, .unset, .unset, .unset, .unset] [(.ref b175)]))
      refine own_go (fun t k => XS.astore X177.here hx rfl (hb hby at_98) rfl rfl (l' := #[.val (.int iv), .val (.int fv), .val (.int p0), .val (.int p1), .val (.ref b170), .val (.ref b172), .val (.ref b175), .unset, .unset, .unset, .unset, .unset, .unset]) rfl k) ?_
      show own_Go _ _ _ _ (T177.setTop (mkF m 100 #[.val (.int iv), .val (.int fv), .val (.int p0), .val (.int p1), .val (.ref b170), .val (.ref b172), .val (.ref b175), .unset, .unset, .unset, .unset, .unset, .unset] []))
      refine own_go (fun t k => XS.iloadN X177.here hx rfl (hb hby at_100) rfl k) ?_
      show own_Go _ _ _ _ (T177.setTop (mkF m 101 #[.val (.int iv), .val (.int fv), .val (.int p0), .val (.int p1), .val (.ref b170), .val (.ref b172), .val (.ref b175), .unset, .unset, .unset, .unset, .unset, .unset] [(.int iv)]))
      obtain ⟨_, _, ⟨T178, L178, k178, n178⟩, -, X178, ⟨Lc178, hQ178, l178, y178, z178⟩, st178⟩ := Jvm.LawKit.callS X177 hx (y := (⟨"com/example/lambdaloom/lambdaloom/model/Verdict", "valid", "(I)Lcom/example/lambdaloom/lambdaloom/model/Verdict;"⟩ : MethodName)) hown (mvT hZ (w_38 hw)) (mvT hZ (w_39 hw)) (mvT hZ (w_24 hw)) (mvT hZ (w_40 hw)) (by decide) (backOf (W := 0) (rm_val l Z a0 hw [] iv h177 n0 Z177 ) hZ (w_40 hw) (w_24 hw) (by decide) (by decide)) (g := (mkF m 101 #[.val (.int iv), .val (.int fv), .val (.int p0), .val (.int p1), .val (.ref b170), .val (.ref b172), .val (.ref b175), .unset, .unset, .unset, .unset, .unset, .unset] [(.int iv)])) rfl (by rw [hml]; rfl) (argsL := [(.int iv)]) (rest := []) (lenOf pd_10 rfl) rfl (by show 2 * 0 + _ ≤ _; exact Nat.le_of_eq rfl) (hb hby at_101) (fun _ _ => ⟨rfl, e177, (by decide : 5 + 1 ≤ _), (by decide : 12 + 2 ≤ _)⟩)
      dsimp only [Pt.U, Pt.locs, Pt.cells, Pt.slots] at X178 l178 y178 z178 st178 hQ178
      subst l178 y178 z178
      generalize e178 : T178.heap = h178 at hQ178
      obtain ⟨ub178, rfl, N178q, K178q, lo178, q178, A178, F178⟩ := hQ178
      have N178 := Fr.app N177 N178q
      refine own_go st178 ?_
      have C178 := C177.trans (CHr.keep K178q all0 C177.1)
      have Z178 : n0 ≤ h178.size := (Nat.le_trans Z177 K178q.1)
      have hi178 := A178.lt
      show own_Go _ _ _ _ (T178.setTop (mkF m 104 #[.val (.int iv), .val (.int fv), .val (.int p0), .val (.int p1), .val (.ref b170), .val (.ref b172), .val (.ref b175), .unset, .unset, .unset, .unset, .unset, .unset] [(.ref ub178)]))
      refine own_go (fun t k => XS.astore X178.here hx rfl (hb hby at_104) rfl rfl (l' := #[.val (.int iv), .val (.int fv), .val (.int p0), .val (.int p1), .val (.ref b170), .val (.ref b172), .val (.ref b175), .val (.ref ub178), .unset, .unset, .unset, .unset, .unset]) rfl k) ?_
      show own_Go _ _ _ _ (T178.setTop (mkF m 106 #[.val (.int iv), .val (.int fv), .val (.int p0), .val (.int p1), .val (.ref b170), .val (.ref b172), .val (.ref b175), .val (.ref ub178), .unset, .unset, .unset, .unset, .unset] []))
      refine own_go (fun t k => XS.aload X178.here hx rfl (hb hby at_106) rfl rfl k) ?_
      show own_Go _ _ _ _ (T178.setTop (mkF m 108 #[.val (.int iv), .val (.int fv), .val (.int p0), .val (.int p1), .val (.ref b170), .val (.ref b172), .val (.ref b175), .val (.ref ub178), .unset, .unset, .unset, .unset, .unset] [(.ref b170)]))
      obtain ⟨_, _, ⟨T179, L179, k179, n179⟩, -, X179, ⟨Lc179, hQ179, l179, y179, z179⟩, st179⟩ := Jvm.LawKit.callS X178 hx (y := (⟨"com/example/lambdaloom/lambdaloom/model/Verdict", "invalid", "(Ljava/lang/String;)Lcom/example/lambdaloom/lambdaloom/model/Verdict;"⟩ : MethodName)) hown (mvT hZ (w_43 hw)) (mvT hZ (w_44 hw)) (mvT hZ (w_24 hw)) (mvT hZ (w_45 hw)) (by decide) (backOf (W := 0) (rm_inv l Z a0 hw [] b170 h178 n0 Z178 ) hZ (w_45 hw) (w_24 hw) (by decide) (by decide)) (g := (mkF m 108 #[.val (.int iv), .val (.int fv), .val (.int p0), .val (.int p1), .val (.ref b170), .val (.ref b172), .val (.ref b175), .val (.ref ub178), .unset, .unset, .unset, .unset, .unset] [(.ref b170)])) rfl (by rw [hml]; rfl) (argsL := [(.ref b170)]) (rest := []) (lenOf pd_11 rfl) rfl (by show 2 * 0 + _ ≤ _; exact Nat.le_of_eq rfl) (hb hby at_108) (fun _ _ => ⟨rfl, e178, (by decide : 6 + 1 ≤ _), (by decide : 14 + 2 ≤ _)⟩)
      dsimp only [Pt.U, Pt.locs, Pt.cells, Pt.slots] at X179 l179 y179 z179 st179 hQ179
      subst l179 y179 z179
      generalize e179 : T179.heap = h179 at hQ179
      obtain ⟨ub179, rfl, N179q, K179q, lo179, q179, A179, F179⟩ := hQ179
      have N179 := Fr.app N178 N179q
      refine own_go st179 ?_
      have C179 := C178.trans (CHr.keep K179q all0 C178.1)
      have Z179 : n0 ≤ h179.size := (Nat.le_trans Z178 K179q.1)
      have hi179 := A179.lt
      show own_Go _ _ _ _ (T179.setTop (mkF m 111 #[.val (.int iv), .val (.int fv), .val (.int p0), .val (.int p1), .val (.ref b170), .val (.ref b172), .val (.ref b175), .val (.ref ub178), .unset, .unset, .unset, .unset, .unset] [(.ref ub179)]))
      refine own_go (fun t k => XS.astore X179.here hx rfl (hb hby at_111) rfl rfl (l' := #[.val (.int iv), .val (.int fv), .val (.int p0), .val (.int p1), .val (.ref b170), .val (.ref b172), .val (.ref b175), .val (.ref ub178), .val (.ref ub179), .unset, .unset, .unset, .unset]) rfl k) ?_
      show own_Go _ _ _ _ (T179.setTop (mkF m 113 #[.val (.int iv), .val (.int fv), .val (.int p0), .val (.int p1), .val (.ref b170), .val (.ref b172), .val (.ref b175), .val (.ref ub178), .val (.ref ub179), .unset, .unset, .unset, .unset] []))
      refine own_go (fun t k => XS.aload X179.here hx rfl (hb hby at_113) rfl rfl k) ?_
      have f180 := ((((F173.ext E175).keep K177q (ninS (Nat.ne_of_lt (Nat.lt_of_lt_of_le hi172 (Nat.le_trans K174q.1 lo175))) nin0)).keep K178q nin0).keep K179q nin0)
      show own_Go _ _ _ _ (T179.setTop (mkF m 115 #[.val (.int iv), .val (.int fv), .val (.int p0), .val (.int p1), .val (.ref b170), .val (.ref b172), .val (.ref b175), .val (.ref ub178), .val (.ref ub179), .unset, .unset, .unset, .unset] [(.ref b172)]))
      have f182 := (((((A172.keep K174q).ext E175).keep K177q).keep K178q).keep K179q)
      obtain ⟨cq181, kq181, q181a, q181b, q181c⟩ := isOf hZ e179 f182
      obtain ⟨_, _, ⟨T181, L181, k181, n181⟩, -, X181, ⟨Lc181, hQ181, l181, y181, z181⟩, st181⟩ := X179.virtualBack hx (y := (⟨"com/example/lambdaloom/lambdaloom/model/Verdict", "isValid", "()Z"⟩ : MethodName)) (z := (⟨"com/example/lambdaloom/lambdaloom/model/Verdict", "isValid", "()Z"⟩ : MethodName)) hown (mvT hZ (w_46 hw)) (mvT hZ (w_47 hw)) (notFace_of_selects (args := #[]) (mvT hZ (w_49 hw))) (mvT hZ (w_49 hw)) (mvT hZ (w_48 hw)) (by decide) (backOf (W := 0) (rm_ivN l Z a0 hw [] b172 h179 n0 Z179 f180) hZ (w_50 hw) (w_24 hw) (by decide) (by decide)) q181a q181c (g := (mkF m 115 #[.val (.int iv), .val (.int fv), .val (.int p0), .val (.int p1), .val (.ref b170), .val (.ref b172), .val (.ref b175), .val (.ref ub178), .val (.ref ub179), .unset, .unset, .unset, .unset] [(.ref b172)])) rfl (by rw [hml]; rfl) (Steps.refl _) (argsL := []) (rest := []) (lenOf pd_12 rfl) rfl (by show 2 * 0 + _ ≤ _; exact Nat.le_of_eq rfl) (hb hby at_115) (fun _ _ => ⟨rfl, e179, (by decide : 7 + 0 ≤ _), (by decide : 16 + 0 ≤ _)⟩)
      dsimp only [Pt.U, Pt.locs, Pt.cells, Pt.slots] at X181 l181 y181 z181 st181 hQ181
      subst l181 y181 z181
      obtain ⟨rfl, N181q, e181⟩ := hQ181
      have N181 := Fr.app N179 N181q
      refine own_go (fun t k => st181.trans k) ?_
      show own_Go _ _ _ _ (T181.setTop (mkF m 118 #[.val (.int iv), .val (.int fv), .val (.int p0), .val (.int p1), .val (.ref b170), .val (.ref b172), .val (.ref b175), .val (.ref ub178), .val (.ref ub179), .unset, .unset, .unset, .unset] [(.int (1 : Int32))]))
      refine own_go (fun t k => XS.istore X181.here hx rfl (hb hby at_118) rfl (l' := #[.val (.int iv), .val (.int fv), .val (.int p0), .val (.int p1), .val (.ref b170), .val (.ref b172), .val (.ref b175), .val (.ref ub178), .val (.ref ub179), .val (.int (1 : Int32)), .unset, .unset, .unset]) rfl k) ?_
      show own_Go _ _ _ _ (T181.setTop (mkF m 120 #[.val (.int iv), .val (.int fv), .val (.int p0), .val (.int p1), .val (.ref b170), .val (.ref b172), .val (.ref b175), .val (.ref ub178), .val (.ref ub179), .val (.int (1 : Int32)), .unset, .unset, .unset] []))
      refine own_go (fun t k => XS.aload X181.here hx rfl (hb hby at_120) rfl rfl k) ?_
      show own_Go _ _ _ _ (T181.setTop (mkF m 122 #[.val (.int iv), .val (.int fv), .val (.int p0), .val (.int p1), .val (.ref b170), .val (.ref b172), .val (.ref b175), .val (.ref ub178), .val (.ref ub179), .val (.int (1 : Int32)), .unset, .unset, .unset] [(.ref b175)]))
      obtain ⟨cq183, kq183, q183a, q183b, q183c⟩ := isOf hZ e181 (((A175.keep K177q).keep K178q).keep K179q)
      obtain ⟨_, _, ⟨T183, L183, k183, n183⟩, -, X183, ⟨Lc183, hQ183, l183, y183, z183⟩, st183⟩ := X181.virtualBack hx (y := (⟨"com/example/lambdaloom/lambdaloom/model/Verdict", "isValid", "()Z"⟩ : MethodName)) (z := (⟨"com/example/lambdaloom/lambdaloom/model/Verdict", "isValid", "()Z"⟩ : MethodName)) hown (mvT hZ (w_46 hw)) (mvT hZ (w_47 hw)) (notFace_of_selects (args := #[]) (mvT hZ (w_49 hw))) (mvT hZ (w_49 hw)) (mvT hZ (w_48 hw)) (by decide) (backOf (W := 0) (rm_ivR l Z a0 hw [] b175 b170 h179 n0 Z179 ((F176.keep K178q nin0).keep K179q nin0)) hZ (w_50 hw) (w_24 hw) (by decide) (by decide)) q183a q183c (g := (mkF m 122 #[.val (.int iv), .val (.int fv), .val (.int p0), .val (.int p1), .val (.ref b170), .val (.ref b172), .val (.ref b175), .val (.ref ub178), .val (.ref ub179), .val (.int (1 : Int32)), .unset, .unset, .unset] [(.ref b175)])) rfl (by rw [hml]; rfl) (Steps.refl _) (argsL := []) (rest := []) (lenOf pd_12 rfl) rfl (by show 2 * 0 + _ ≤ _; exact Nat.le_of_eq rfl) (hb hby at_122) (fun _ _ => ⟨rfl, e181, (by decide : 7 + 0 ≤ _), (by decide : 16 + 0 ≤ _)⟩)
      dsimp only [Pt.U, Pt.locs, Pt.cells, Pt.slots] at X183 l183 y183 z183 st183 hQ183
      subst l183 y183 z183
      obtain ⟨rfl, N183q, e183⟩ := hQ183
      have N183 := Fr.app N181 N183q
      refine own_go (fun t k => st183.trans k) ?_
      show own_Go _ _ _ _ (T183.setTop (mkF m 125 #[.val (.int iv), .val (.int fv), .val (.int p0), .val (.int p1), .val (.ref b170), .val (.ref b172), .val (.ref b175), .val (.ref ub178), .val (.ref ub179), .val (.int (1 : Int32)), .unset, .unset, .unset] [(.int (0 : Int32))]))
      refine own_go (fun t k => XS.ifNo X183.here hx rfl (hb hby at_125) rfl ((if0 _ _).trans (teq (by decide : (0 : Int32) = (0 : Int32))).2) k) ?_
      show own_Go _ _ _ _ (T183.setTop (mkF m 128 #[.val (.int iv), .val (.int fv), .val (.int p0), .val (.int p1), .val (.ref b170), .val (.ref b172), .val (.ref b175), .val (.ref ub178), .val (.ref ub179), .val (.int (1 : Int32)), .unset, .unset, .unset] []))
      refine own_go (fun t k => XS.iconst X183.here hx rfl (hb hby at_128) k) ?_
      show own_Go _ _ _ _ (T183.setTop (mkF m 129 #[.val (.int iv), .val (.int fv), .val (.int p0), .val (.int p1), .val (.ref b170), .val (.ref b172), .val (.ref b175), .val (.ref ub178), .val (.ref ub179), .val (.int (1 : Int32)), .unset, .unset, .unset] [(.int (1 : Int32))]))
      refine own_go (fun t k => XS.goto X183.here hx rfl (pc0 := 129) (pc' := 133) rfl (hb hby at_129) (by decide) (by decide) k) ?_
      show own_Go _ _ _ _ (T183.setTop (mkF m 133 #[.val (.int iv), .val (.int fv), .val (.int p0), .val (.int p1), .val (.ref b170), .val (.ref b172), .val (.ref b175), .val (.ref ub178), .val (.ref ub179), .val (.int (1 : Int32)), .unset, .unset, .unset] [(.int (1 : Int32))]))
      refine own_go (fun t k => XS.istore X183.here hx rfl (hb hby at_133) rfl (l' := #[.val (.int iv), .val (.int fv), .val (.int p0), .val (.int p1), .val (.ref b170), .val (.ref b172), .val (.ref b175), .val (.ref ub178), .val (.ref ub179), .val (.int (1 : Int32)), .val (.int (1 : Int32)), .unset, .unset]) rfl k) ?_
      show own_Go _ _ _ _ (T183.setTop (mkF m 135 #[.val (.int iv), .val (.int fv), .val (.int p0), .val (.int p1), .val (.ref b170), .val (.ref b172), .val (.ref b175), .val (.ref ub178), .val (.ref ub179), .val (.int (1 : Int32)), .val (.int (1 : Int32)), .unset, .unset] []))
      refine own_go (fun t k => XS.aload X183.here hx rfl (hb hby at_135) rfl rfl k) ?_
      show own_Go _ _ _ _ (T183.setTop (mkF m 137 #[.val (.int iv), .val (.int fv), .val (.int p0), .val (.int p1), .val (.ref b170), .val (.ref b172), .val (.ref b175), .val (.ref ub178), .val (.ref ub179), .val (.int (1 : Int32)), .val (.int (1 : Int32)), .unset, .unset] [(.ref ub178)]))
      obtain ⟨cq184, kq184, q184a, q184b, q184c⟩ := isOf hZ e183 (A178.keep K179q)
      obtain ⟨_, _, ⟨T184, L184, k184, n184⟩, -, X184, ⟨Lc184, hQ184, l184, y184, z184⟩, st184⟩ := X183.virtualBack hx (y := (⟨"com/example/lambdaloom/lambdaloom/model/Verdict", "isValid", "()Z"⟩ : MethodName)) (z := (⟨"com/example/lambdaloom/lambdaloom/model/Verdict", "isValid", "()Z"⟩ : MethodName)) hown (mvT hZ (w_46 hw)) (mvT hZ (w_47 hw)) (notFace_of_selects (args := #[]) (mvT hZ (w_49 hw))) (mvT hZ (w_49 hw)) (mvT hZ (w_48 hw)) (by decide) (backOf (W := 0) (rm_ivN l Z a0 hw [] ub178 h179 n0 Z179 (F178.keep K179q nin0)) hZ (w_50 hw) (w_24 hw) (by decide) (by decide)) q184a q184c (g := (mkF m 137 #[.val (.int iv), .val (.int fv), .val (.int p0), .val (.int p1), .val (.ref b170), .val (.ref b172), .val (.ref b175), .val (.ref ub178), .val (.ref ub179), .val (.int (1 : Int32)), .val (.int (1 : Int32)), .unset, .unset] [(.ref ub178)])) rfl (by rw [hml]; rfl) (Steps.refl _) (argsL := []) (rest := []) (lenOf pd_12 rfl) rfl (by show 2 * 0 + _ ≤ _; exact Nat.le_of_eq rfl) (hb hby at_137) (fun _ _ => ⟨rfl, e183, (by decide : 7 + 0 ≤ _), (by decide : 16 + 0 ≤ _)⟩)
      dsimp only [Pt.U, Pt.locs, Pt.cells, Pt.slots] at X184 l184 y184 z184 st184 hQ184
      subst l184 y184 z184
      obtain ⟨rfl, N184q, e184⟩ := hQ184
      have N184 := Fr.app N183 N184q
      refine own_go (fun t k => st184.trans k) ?_
      show own_Go _ _ _ _ (T184.setTop (mkF m 140 #[.val (.int iv), .val (.int fv), .val (.int p0), .val (.int p1), .val (.ref b170), .val (.ref b172), .val (.ref b175), .val (.ref ub178), .val (.ref ub179), .val (.int (1 : Int32)), .val (.int (1 : Int32)), .unset, .unset] [(.int (1 : Int32))]))
      refine own_go (fun t k => XS.istore X184.here hx rfl (hb hby at_140) rfl (l' := #[.val (.int iv), .val (.int fv), .val (.int p0), .val (.int p1), .val (.ref b170), .val (.ref b172), .val (.ref b175), .val (.ref ub178), .val (.ref ub179), .val (.int (1 : Int32)), .val (.int (1 : Int32)), .val (.int (1 : Int32)), .unset]) rfl k) ?_
      show own_Go _ _ _ _ (T184.setTop (mkF m 142 #[.val (.int iv), .val (.int fv), .val (.int p0), .val (.int p1), .val (.ref b170), .val (.ref b172), .val (.ref b175), .val (.ref ub178), .val (.ref ub179), .val (.int (1 : Int32)), .val (.int (1 : Int32)), .val (.int (1 : Int32)), .unset] []))
      refine own_go (fun t k => XS.aload X184.here hx rfl (hb hby at_142) rfl rfl k) ?_
      show own_Go _ _ _ _ (T184.setTop (mkF m 144 #[.val (.int iv), .val (.int fv), .val (.int p0), .val (.int p1), .val (.ref b170), .val (.ref b172), .val (.ref b175), .val (.ref ub178), .val (.ref ub179), .val (.int (1 : Int32)), .val (.int (1 : Int32)), .val (.int (1 : Int32)), .unset] [(.ref ub179)]))
      obtain ⟨cq185, kq185, q185a, q185b, q185c⟩ := isOf hZ e184 A179
      obtain ⟨_, _, ⟨T185, L185, k185, n185⟩, -, X185, ⟨Lc185, hQ185, l185, y185, z185⟩, st185⟩ := X184.virtualBack hx (y := (⟨"com/example/lambdaloom/lambdaloom/model/Verdict", "isValid", "()Z"⟩ : MethodName)) (z := (⟨"com/example/lambdaloom/lambdaloom/model/Verdict", "isValid", "()Z"⟩ : MethodName)) hown (mvT hZ (w_46 hw)) (mvT hZ (w_47 hw)) (notFace_of_selects (args := #[]) (mvT hZ (w_49 hw))) (mvT hZ (w_49 hw)) (mvT hZ (w_48 hw)) (by decide) (backOf (W := 0) (rm_ivR l Z a0 hw [] ub179 b170 h179 n0 Z179 F179) hZ (w_50 hw) (w_24 hw) (by decide) (by decide)) q185a q185c (g := (mkF m 144 #[.val (.int iv), .val (.int fv), .val (.int p0), .val (.int p1), .val (.ref b170), .val (.ref b172), .val (.ref b175), .val (.ref ub178), .val (.ref ub179), .val (.int (1 : Int32)), .val (.int (1 : Int32)), .val (.int (1 : Int32)), .unset] [(.ref ub179)])) rfl (by rw [hml]; rfl) (Steps.refl _) (argsL := []) (rest := []) (lenOf pd_12 rfl) rfl (by show 2 * 0 + _ ≤ _; exact Nat.le_of_eq rfl) (hb hby at_144) (fun _ _ => ⟨rfl, e184, (by decide : 7 + 0 ≤ _), (by decide : 16 + 0 ≤ _)⟩)
      dsimp only [Pt.U, Pt.locs, Pt.cells, Pt.slots] at X185 l185 y185 z185 st185 hQ185
      subst l185 y185 z185
      obtain ⟨rfl, N185q, e185⟩ := hQ185
      have N185 := Fr.app N184 N185q
      refine own_go (fun t k => st185.trans k) ?_
      show own_Go _ _ _ _ (T185.setTop (mkF m 147 #[.val (.int iv), .val (.int fv), .val (.int p0), .val (.int p1), .val (.ref b170), .val (.ref b172), .val (.ref b175), .val (.ref ub178), .val (.ref ub179), .val (.int (1 : Int32)), .val (.int (1 : Int32)), .val (.int (1 : Int32)), .unset] [(.int (0 : Int32))]))
      refine own_go (fun t k => XS.ifNo X185.here hx rfl (hb hby at_147) rfl ((if0 _ _).trans (teq (by decide : (0 : Int32) = (0 : Int32))).2) k) ?_
      show own_Go _ _ _ _ (T185.setTop (mkF m 150 #[.val (.int iv), .val (.int fv), .val (.int p0), .val (.int p1), .val (.ref b170), .val (.ref b172), .val (.ref b175), .val (.ref ub178), .val (.ref ub179), .val (.int (1 : Int32)), .val (.int (1 : Int32)), .val (.int (1 : Int32)), .unset] []))
      refine own_go (fun t k => XS.iconst X185.here hx rfl (hb hby at_150) k) ?_
      show own_Go _ _ _ _ (T185.setTop (mkF m 151 #[.val (.int iv), .val (.int fv), .val (.int p0), .val (.int p1), .val (.ref b170), .val (.ref b172), .val (.ref b175), .val (.ref ub178), .val (.ref ub179), .val (.int (1 : Int32)), .val (.int (1 : Int32)), .val (.int (1 : Int32)), .unset] [(.int (1 : Int32))]))
      refine own_go (fun t k => XS.goto X185.here hx rfl (pc0 := 151) (pc' := 155) rfl (hb hby at_151) (by decide) (by decide) k) ?_
      show own_Go _ _ _ _ (T185.setTop (mkF m 155 #[.val (.int iv), .val (.int fv), .val (.int p0), .val (.int p1), .val (.ref b170), .val (.ref b172), .val (.ref b175), .val (.ref ub178), .val (.ref ub179), .val (.int (1 : Int32)), .val (.int (1 : Int32)), .val (.int (1 : Int32)), .unset] [(.int (1 : Int32))]))
      refine own_go (fun t k => XS.istore X185.here hx rfl (hb hby at_155) rfl (l' := #[.val (.int iv), .val (.int fv), .val (.int p0), .val (.int p1), .val (.ref b170), .val (.ref b172), .val (.ref b175), .val (.ref ub178), .val (.ref ub179), .val (.int (1 : Int32)), .val (.int (1 : Int32)), .val (.int (1 : Int32)), .val (.int (1 : Int32))]) rfl k) ?_
      show own_Go _ _ _ _ (T185.setTop (mkF m 157 #[.val (.int iv), .val (.int fv), .val (.int p0), .val (.int p1), .val (.ref b170), .val (.ref b172), .val (.ref b175), .val (.ref ub178), .val (.ref ub179), .val (.int (1 : Int32)), .val (.int (1 : Int32)), .val (.int (1 : Int32)), .val (.int (1 : Int32))] []))
      refine own_go (fun t k => XS.iload X185.here hx rfl (hb hby at_157) rfl k) ?_
      show own_Go _ _ _ _ (T185.setTop (mkF m 159 #[.val (.int iv), .val (.int fv), .val (.int p0), .val (.int p1), .val (.ref b170), .val (.ref b172), .val (.ref b175), .val (.ref ub178), .val (.ref ub179), .val (.int (1 : Int32)), .val (.int (1 : Int32)), .val (.int (1 : Int32)), .val (.int (1 : Int32))] [(.int (1 : Int32))]))
      refine own_go (fun t k => XS.ifNo X185.here hx rfl (hb hby at_159) rfl ((if0 _ _).trans (feq (by decide : ¬ ((1 : Int32) = (0 : Int32)))).1) k) ?_
      show own_Go _ _ _ _ (T185.setTop (mkF m 162 #[.val (.int iv), .val (.int fv), .val (.int p0), .val (.int p1), .val (.ref b170), .val (.ref b172), .val (.ref b175), .val (.ref ub178), .val (.ref ub179), .val (.int (1 : Int32)), .val (.int (1 : Int32)), .val (.int (1 : Int32)), .val (.int (1 : Int32))] []))
      refine own_go (fun t k => XS.iload X185.here hx rfl (hb hby at_162) rfl k) ?_
      show own_Go _ _ _ _ (T185.setTop (mkF m 164 #[.val (.int iv), .val (.int fv), .val (.int p0), .val (.int p1), .val (.ref b170), .val (.ref b172), .val (.ref b175), .val (.ref ub178), .val (.ref ub179), .val (.int (1 : Int32)), .val (.int (1 : Int32)), .val (.int (1 : Int32)), .val (.int (1 : Int32))] [(.int (1 : Int32))]))
      refine own_go (fun t k => XS.ifNo X185.here hx rfl (hb hby at_164) rfl ((if0 _ _).trans (feq (by decide : ¬ ((1 : Int32) = (0 : Int32)))).1) k) ?_
      show own_Go _ _ _ _ (T185.setTop (mkF m 167 #[.val (.int iv), .val (.int fv), .val (.int p0), .val (.int p1), .val (.ref b170), .val (.ref b172), .val (.ref b175), .val (.ref ub178), .val (.ref ub179), .val (.int (1 : Int32)), .val (.int (1 : Int32)), .val (.int (1 : Int32)), .val (.int (1 : Int32))] []))
      refine own_go (fun t k => XS.iload X185.here hx rfl (hb hby at_167) rfl k) ?_
      show own_Go _ _ _ _ (T185.setTop (mkF m 169 #[.val (.int iv), .val (.int fv), .val (.int p0), .val (.int p1), .val (.ref b170), .val (.ref b172), .val (.ref b175), .val (.ref ub178), .val (.ref ub179), .val (.int (1 : Int32)), .val (.int (1 : Int32)), .val (.int (1 : Int32)), .val (.int (1 : Int32))] [(.int (1 : Int32))]))
      refine own_go (fun t k => XS.ifNo X185.here hx rfl (hb hby at_169) rfl ((if0 _ _).trans (feq (by decide : ¬ ((1 : Int32) = (0 : Int32)))).1) k) ?_
      show own_Go _ _ _ _ (T185.setTop (mkF m 172 #[.val (.int iv), .val (.int fv), .val (.int p0), .val (.int p1), .val (.ref b170), .val (.ref b172), .val (.ref b175), .val (.ref ub178), .val (.ref ub179), .val (.int (1 : Int32)), .val (.int (1 : Int32)), .val (.int (1 : Int32)), .val (.int (1 : Int32))] []))
      refine own_go (fun t k => XS.iload X185.here hx rfl (hb hby at_172) rfl k) ?_
      show own_Go _ _ _ _ (T185.setTop (mkF m 174 #[.val (.int iv), .val (.int fv), .val (.int p0), .val (.int p1), .val (.ref b170), .val (.ref b172), .val (.ref b175), .val (.ref ub178), .val (.ref ub179), .val (.int (1 : Int32)), .val (.int (1 : Int32)), .val (.int (1 : Int32)), .val (.int (1 : Int32))] [(.int (1 : Int32))]))
      refine own_go (fun t k => XS.ifNo X185.here hx rfl (hb hby at_174) rfl ((if0 _ _).trans (feq (by decide : ¬ ((1 : Int32) = (0 : Int32)))).1) k) ?_
      show own_Go _ _ _ _ (T185.setTop (mkF m 177 #[.val (.int iv), .val (.int fv), .val (.int p0), .val (.int p1), .val (.ref b170), .val (.ref b172), .val (.ref b175), .val (.ref ub178), .val (.ref ub179), .val (.int (1 : Int32)), .val (.int (1 : Int32)), .val (.int (1 : Int32)), .val (.int (1 : Int32))] []))
      refine own_go (fun t k => XS.iconst X185.here hx rfl (hb hby at_177) k) ?_
      show own_Go _ _ _ _ (T185.setTop (mkF m 178 #[.val (.int iv), .val (.int fv), .val (.int p0), .val (.int p1), .val (.ref b170), .val (.ref b172), .val (.ref b175), .val (.ref ub178), .val (.ref ub179), .val (.int (1 : Int32)), .val (.int (1 : Int32)), .val (.int (1 : Int32)), .val (.int (1 : Int32))] [(.int (1 : Int32))]))
      refine own_go (fun t k => XS.goto X185.here hx rfl (pc0 := 178) (pc' := 182) rfl (hb hby at_178) (by decide) (by decide) k) ?_
      show own_Go _ _ _ _ (T185.setTop (mkF m 182 #[.val (.int iv), .val (.int fv), .val (.int p0), .val (.int p1), .val (.ref b170), .val (.ref b172), .val (.ref b175), .val (.ref ub178), .val (.ref ub179), .val (.int (1 : Int32)), .val (.int (1 : Int32)), .val (.int (1 : Int32)), .val (.int (1 : Int32))] [(.int (1 : Int32))]))
      refine own_retNH X185 hx hS (Nat.le_trans (Nat.le_trans hk (Nat.le_trans (Nat.le_trans (Nat.le_trans (Nat.le_trans (Nat.le_trans (Nat.le_trans (Nat.le_trans (Nat.le_trans (Nat.le_trans (Nat.le_trans E164.1 (Nat.le_of_eq W166.size.symm)) (Nat.le_of_eq W168.size.symm)) E170.1) K171q.1) E172.1) K174q.1) E175.1) K177q.1) K178q.1) K179q.1)) (Nat.le_of_eq (congrArg Array.size e185.symm))) (by rw [hh, e185]; exact C179.trans (CHv.at X185 hZ (own_EW hw) C179.1)) hlk (t := .boolean) hret (by simp) (hb hby at_182) ?_ (by decide) (by decide)
      rw [e185]
      exact ⟨rfl, N185⟩
    · show own_Go _ _ _ _ (s₁.setTop (mkF m 24 #[.val (.int iv), .val (.int fv), .val (.int p0), .val (.int p1), .unset, .unset, .unset, .unset, .unset, .unset, .unset, .unset, .unset] [(.int (fv &&& (2 : Int32)))]))
      refine own_go (fun t k => XS.ifNo X0.here hx rfl (hb hby at_24) rfl ((if0 _ _).trans (feq hc163).1) k) ?_
      show own_Go _ _ _ _ (s₁.setTop (mkF m 27 #[.val (.int iv), .val (.int fv), .val (.int p0), .val (.int p1), .unset, .unset, .unset, .unset, .unset, .unset, .unset, .unset, .unset] []))
      refine own_go (fun t k => XS.iloadN X0.here hx rfl (hb hby at_27) rfl k) ?_
      show own_Go _ _ _ _ (s₁.setTop (mkF m 28 #[.val (.int iv), .val (.int fv), .val (.int p0), .val (.int p1), .unset, .unset, .unset, .unset, .unset, .unset, .unset, .unset, .unset] [(.int p0)]))
      refine own_go (fun t k => XS.sipush X0.here hx rfl (hb hby at_28) k) ?_
      show own_Go _ _ _ _ (s₁.setTop (mkF m 31 #[.val (.int iv), .val (.int fv), .val (.int p0), .val (.int p1), .unset, .unset, .unset, .unset, .unset, .unset, .unset, .unset, .unset] [(.int (255 : Int32)), (.int p0)]))
      refine own_go (fun t k => XS.iand X0.here hx rfl (hb hby at_31) rfl k) ?_
      show own_Go _ _ _ _ (s₁.setTop (mkF m 32 #[.val (.int iv), .val (.int fv), .val (.int p0), .val (.int p1), .unset, .unset, .unset, .unset, .unset, .unset, .unset, .unset, .unset] [(.int (p0 &&& (255 : Int32)))]))
      refine own_go (fun t k => XS.i2c X0.here hx rfl (hb hby at_32) rfl k) ?_
      show own_Go _ _ _ _ (s₁.setTop (mkF m 33 #[.val (.int iv), .val (.int fv), .val (.int p0), .val (.int p1), .unset, .unset, .unset, .unset, .unset, .unset, .unset, .unset, .unset] [(.int ((p0 &&& (255 : Int32)).toUInt32.toUInt16.toUInt32.toInt32))]))
      obtain ⟨_, _, ⟨T186, L186, k186, n186⟩, -, X186, ⟨Lc186, hQ186, l186, y186, z186⟩, st186⟩ := Jvm.LawKit.callS X0 hx (y := (⟨"java/lang/String", "valueOf", "(C)Ljava/lang/String;"⟩ : MethodName)) hown (mvT hZ (w_51 hw)) (mvT hZ (w_52 hw)) (mvT hZ (w_2 hw)) (mvT hZ (w_53 hw)) (by decide) (backOf (W := 0) (rm_vof l Z a0 hw [] ((p0 &&& (255 : Int32)).toUInt32.toUInt16.toUInt32.toInt32) zv h0 n0 Z0 (own_low _).2 O0 hzv S0) hZ (w_53 hw) (w_2 hw) (by decide) (by decide)) (g := (mkF m 33 #[.val (.int iv), .val (.int fv), .val (.int p0), .val (.int p1), .unset, .unset, .unset, .unset, .unset, .unset, .unset, .unset, .unset] [(.int ((p0 &&& (255 : Int32)).toUInt32.toUInt16.toUInt32.toInt32))])) rfl (by rw [hml]; rfl) (argsL := [(.int ((p0 &&& (255 : Int32)).toUInt32.toUInt16.toUInt32.toInt32))]) (rest := []) (lenOf pd_13 rfl) rfl (by show 2 * 0 + _ ≤ _; exact Nat.le_of_eq rfl) (hb hby at_33) (fun _ _ => ⟨rfl, e0, (by decide : 0 + 2 ≤ _), (by decide : 0 + 5 ≤ _)⟩)
      dsimp only [Pt.U, Pt.locs, Pt.cells, Pt.slots] at X186 l186 y186 z186 st186 hQ186
      subst l186 y186 z186
      generalize e186 : T186.heap = h186 at hQ186
      obtain ⟨us186, rfl, N186q, K186q⟩ := hQ186
      have N186 := Fr.app N0 N186q
      refine own_go st186 ?_
      have C186 := C0.trans (CHr.keep K186q all0 C0.1)
      have Z186 : n0 ≤ h186.size := (Nat.le_trans Z0 K186q.1)
      show own_Go _ _ _ _ (T186.setTop (mkF m 36 #[.val (.int iv), .val (.int fv), .val (.int p0), .val (.int p1), .unset, .unset, .unset, .unset, .unset, .unset, .unset, .unset, .unset] [(.ref us186)]))
      refine own_go (fun t k => XS.astore X186.here hx rfl (hb hby at_36) rfl rfl (l' := #[.val (.int iv), .val (.int fv), .val (.int p0), .val (.int p1), .val (.ref us186), .unset, .unset, .unset, .unset, .unset, .unset, .unset, .unset]) rfl k) ?_
      show own_Go _ _ _ _ (T186.setTop (mkF m 38 #[.val (.int iv), .val (.int fv), .val (.int p0), .val (.int p1), .val (.ref us186), .unset, .unset, .unset, .unset, .unset, .unset, .unset, .unset] []))
      refine own_go (fun t k => XS.goto X186.here hx rfl (pc0 := 38) (pc' := 77) rfl (hb hby at_38) (by decide) (by decide) k) ?_
      show own_Go _ _ _ _ (T186.setTop (mkF m 77 #[.val (.int iv), .val (.int fv), .val (.int p0), .val (.int p1), .val (.ref us186), .unset, .unset, .unset, .unset, .unset, .unset, .unset, .unset] []))
      obtain ⟨T187, h187, X187, e187, E187, A187, D187, -, st187⟩ := newO X186 hx hZ hown (w_22 hw) (w_23 hw) (w_24 hw) e186 (g := (mkF m 77 #[.val (.int iv), .val (.int fv), .val (.int p0), .val (.int p1), .val (.ref us186), .unset, .unset, .unset, .unset, .unset, .unset, .unset, .unset] [])) rfl (hb hby at_77) (by decide) (by decide)
      obtain ⟨b187, g187⟩ : ∃ z, z = h186.size := ⟨_, rfl⟩
      rw [← g187] at A187 D187 st187
      refine own_go st187 ?_
      have Sf187 : Safe Z consts_1 s.vm h186 b187 := Safe.new (Nat.le_of_eq g187.symm)
      have Z187 : n0 ≤ h187.size := (Nat.le_trans Z186 E187.1)
      have C187 := C186.trans (CHr.ext E187 C186.1)
      have lo187 : h186.size ≤ b187 := Nat.le_of_eq g187.symm
      have q187 : n0 ≤ b187 := Nat.le_trans Z186 lo187
      have hi187 : b187 < h187.size := A187.lt
      have F187_35 : Fld Z h187 b187 "com/example/lambdaloom/lambdaloom/model/Verdict" "fault" "Ljava/lang/String;" .null := D187 (Or.inr (w_35 hw)) (ty := (.object "java/lang/String")) (by decide)
      have F187_37 : Fld Z h187 b187 "com/example/lambdaloom/lambdaloom/model/Verdict" "wavelengthCount" "I" (.int (0 : Int32)) := D187 (Or.inr (w_37 hw)) (ty := .int) (by decide)
      show own_Go _ _ _ _ (T187.setTop (mkF m 80 #[.val (.int iv), .val (.int fv), .val (.int p0), .val (.int p1), .val (.ref us186), .unset, .unset, .unset, .unset, .unset, .unset, .unset, .unset] [(.ref b187)]))
      refine own_go (fun t k => XS.dup X187.here hx rfl (hb hby at_80) rfl rfl k) ?_
      show own_Go _ _ _ _ (T187.setTop (mkF m 81 #[.val (.int iv), .val (.int fv), .val (.int p0), .val (.int p1), .val (.ref us186), .unset, .unset, .unset, .unset, .unset, .unset, .unset, .unset] [(.ref b187), (.ref b187)]))
      refine own_go (fun t k => XS.aconstNull X187.here hx rfl (hb hby at_81) k) ?_
      show own_Go _ _ _ _ (T187.setTop (mkF m 82 #[.val (.int iv), .val (.int fv), .val (.int p0), .val (.int p1), .val (.ref us186), .unset, .unset, .unset, .unset, .unset, .unset, .unset, .unset] [.null, (.ref b187), (.ref b187)]))
      refine own_go (fun t k => XS.iloadN X187.here hx rfl (hb hby at_82) rfl k) ?_
      show own_Go _ _ _ _ (T187.setTop (mkF m 83 #[.val (.int iv), .val (.int fv), .val (.int p0), .val (.int p1), .val (.ref us186), .unset, .unset, .unset, .unset, .unset, .unset, .unset, .unset] [(.int iv), .null, (.ref b187), (.ref b187)]))
      obtain ⟨_, _, ⟨T189, L189, k189, n189⟩, -, X189, ⟨Lc189, hQ189, l189, y189, z189⟩, st189⟩ := X187.specialBack hx (y := (⟨"com/example/lambdaloom/lambdaloom/model/Verdict", "<init>", "(Ljava/lang/String;I)V"⟩ : MethodName)) rfl hown (mvT hZ (w_25 hw)) (mvT hZ (w_26 hw)) (mvT hZ (w_27 hw)) (by decide) (backOf (W := 1) (rm_vN l Z a0 hw [] b187 iv h187 n0 Z187 q187 A187 F187_35 F187_37) hZ (w_27 hw) (w_24 hw) (by decide) (by decide)) (g := (mkF m 83 #[.val (.int iv), .val (.int fv), .val (.int p0), .val (.int p1), .val (.ref us186), .unset, .unset, .unset, .unset, .unset, .unset, .unset, .unset] [(.int iv), .null, (.ref b187), (.ref b187)])) rfl (by rw [hml]; rfl) (Steps.refl _) (a := b187) (argsL := [.null, (.int iv)]) (rest := [(.ref b187)]) (lenOf pd_1 rfl) rfl (by show 2 * 0 + _ ≤ _; exact Nat.le_of_eq rfl) (hb hby at_83) (fun _ _ => ⟨rfl, e187, (by decide : 3 + 0 ≤ _), (by decide : 7 + 0 ≤ _)⟩)
      dsimp only [Pt.U, Pt.locs, Pt.cells, Pt.slots] at X189 l189 y189 z189 st189 hQ189
      subst l189 y189 z189
      generalize e189 : T189.heap = h189 at hQ189
      obtain ⟨rfl, N189q, K189q, F188⟩ := hQ189
      have N189 := Fr.app N186 N189q
      refine own_go (fun t k => st189.trans k) ?_
      have C189 := C187.trans (CHr.keep K189q (allS (Safe.ext E187 C186.1 Sf187) all0) C187.1)
      have Z189 : n0 ≤ h189.size := (Nat.le_trans Z187 K189q.1)
      show own_Go _ _ _ _ (T189.setTop (mkF m 86 #[.val (.int iv), .val (.int fv), .val (.int p0), .val (.int p1), .val (.ref us186), .unset, .unset, .unset, .unset, .unset, .unset, .unset, .unset] [(.ref b187)]))
      refine own_go (fun t k => XS.astore X189.here hx rfl (hb hby at_86) rfl rfl (l' := #[.val (.int iv), .val (.int fv), .val (.int p0), .val (.int p1), .val (.ref us186), .val (.ref b187), .unset, .unset, .unset, .unset, .unset, .unset, .unset]) rfl k) ?_
      show own_Go _ _ _ _ (T189.setTop (mkF m 88 #[.val (.int iv), .val (.int fv), .val (.int p0), .val (.int p1), .val (.ref us186), .val (.ref b187), .unset, .unset, .unset, .unset, .unset, .unset, .unset] []))
      obtain ⟨T190, h190, X190, e190, E190, A190, D190, -, st190⟩ := newO X189 hx hZ hown (w_22 hw) (w_23 hw) (w_24 hw) e189 (g := (mkF m 88 #[.val (.int iv), .val (.int fv), .val (.int p0), .val (.int p1), .val (.ref us186), .val (.ref b187), .unset, .unset, .unset, .unset, .unset, .unset, .unset] [])) rfl (hb hby at_88) (by decide) (by decide)
      obtain ⟨b190, g190⟩ : ∃ z, z = h189.size := ⟨_, rfl⟩
      rw [← g190] at A190 D190 st190
      refine own_go st190 ?_
      have Sf190 : Safe Z consts_1 s.vm h189 b190 := Safe.new (Nat.le_of_eq g190.symm)
      have Z190 : n0 ≤ h190.size := (Nat.le_trans Z189 E190.1)
      have C190 := C189.trans (CHr.ext E190 C189.1)
      have lo190 : h189.size ≤ b190 := Nat.le_of_eq g190.symm
      have q190 : n0 ≤ b190 := Nat.le_trans Z189 lo190
      have hi190 : b190 < h190.size := A190.lt
      have F190_35 : Fld Z h190 b190 "com/example/lambdaloom/lambdaloom/model/Verdict" "fault" "Ljava/lang/String;" .null := D190 (Or.inr (w_35 hw)) (ty := (.object "java/lang/String")) (by decide)
      have F190_37 : Fld Z h190 b190 "com/example/lambdaloom/lambdaloom/model/Verdict" "wavelengthCount" "I" (.int (0 : Int32)) := D190 (Or.inr (w_37 hw)) (ty := .int) (by decide)
      show own_Go _ _ _ _ (T190.setTop (mkF m 91 #[.val (.int iv), .val (.int fv), .val (.int p0), .val (.int p1), .val (.ref us186), .val (.ref b187), .unset, .unset, .unset, .unset, .unset, .unset, .unset] [(.ref b190)]))
      refine own_go (fun t k => XS.dup X190.here hx rfl (hb hby at_91) rfl rfl k) ?_
      show own_Go _ _ _ _ (T190.setTop (mkF m 92 #[.val (.int iv), .val (.int fv), .val (.int p0), .val (.int p1), .val (.ref us186), .val (.ref b187), .unset, .unset, .unset, .unset, .unset, .unset, .unset] [(.ref b190), (.ref b190)]))
      refine own_go (fun t k => XS.aload X190.here hx rfl (hb hby at_92) rfl rfl k) ?_
      show own_Go _ _ _ _ (T190.setTop (mkF m 94 #[.val (.int iv), .val (.int fv), .val (.int p0), .val (.int p1), .val (.ref us186), .val (.ref b187), .unset, .unset, .unset, .unset, .unset, .unset, .unset] [(.ref us186), (.ref b190), (.ref b190)]))
      refine own_go (fun t k => XS.iloadN X190.here hx rfl (hb hby at_94) rfl k) ?_
      show own_Go _ _ _ _ (T190.setTop (mkF m 95 #[.val (.int iv), .val (.int fv), .val (.int p0), .val (.int p1), .val (.ref us186), .val (.ref b187), .unset, .unset, .unset, .unset, .unset, .unset, .unset] [(.int iv), (.ref us186), (.ref b190), (.ref b190)]))
      obtain ⟨_, _, ⟨T192, L192, k192, n192⟩, -, X192, ⟨Lc192, hQ192, l192, y192, z192⟩, st192⟩ := X190.specialBack hx (y := (⟨"com/example/lambdaloom/lambdaloom/model/Verdict", "<init>", "(Ljava/lang/String;I)V"⟩ : MethodName)) rfl hown (mvT hZ (w_25 hw)) (mvT hZ (w_26 hw)) (mvT hZ (w_27 hw)) (by decide) (backOf (W := 1) (rm_vR l Z a0 hw [] b190 us186 iv h190 n0 Z190 q190 A190 F190_35 F190_37) hZ (w_27 hw) (w_24 hw) (by decide) (by decide)) (g := (mkF m 95 #[.val (.int iv), .val (.int fv), .val (.int p0), .val (.int p1), .val (.ref us186), .val (.ref b187), .unset, .unset, .unset, .unset, .unset, .unset, .unset] [(.int iv), (.ref us186), (.ref b190), (.ref b190)])) rfl (by rw [hml]; rfl) (Steps.refl _) (a := b190) (argsL := [(.ref us186), (.int iv)]) (rest := [(.ref b190)]) (lenOf pd_1 rfl) rfl (by show 2 * 0 + _ ≤ _; exact Nat.le_of_eq rfl) (hb hby at_95) (fun _ _ => ⟨rfl, e190, (by decide : 4 + 0 ≤ _), (by decide : 9 + 0 ≤ _)⟩)
      dsimp only [Pt.U, Pt.locs, Pt.cells, Pt.slots] at X192 l192 y192 z192 st192 hQ192
      subst l192 y192 z192
      generalize e192 : T192.heap = h192 at hQ192
      obtain ⟨rfl, N192q, K192q, F191⟩ := hQ192
      have N192 := Fr.app N189 N192q
      refine own_go (fun t k => st192.trans k) ?_
      have C192 := C190.trans (CHr.keep K192q (allS (Safe.ext E190 C189.1 Sf190) all0) C190.1)
      have Z192 : n0 ≤ h192.size := (Nat.le_trans Z190 K192q.1)
      show own_Go _ _ _ _ (T192.setTop (mkF m 98 #[.val (.int iv), .val (.int fv), .val (.int p0), .val (.int p1), .val (.ref us186), .val (.ref b187), .unset, .unset, .unset, .unset, .unset, .unset, .unset] [(.ref b190)]))
      refine own_go (fun t k => XS.astore X192.here hx rfl (hb hby at_98) rfl rfl (l' := #[.val (.int iv), .val (.int fv), .val (.int p0), .val (.int p1), .val (.ref us186), .val (.ref b187), .val (.ref b190), .unset, .unset, .unset, .unset, .unset, .unset]) rfl k) ?_
      show own_Go _ _ _ _ (T192.setTop (mkF m 100 #[.val (.int iv), .val (.int fv), .val (.int p0), .val (.int p1), .val (.ref us186), .val (.ref b187), .val (.ref b190), .unset, .unset, .unset, .unset, .unset, .unset] []))
      refine own_go (fun t k => XS.iloadN X192.here hx rfl (hb hby at_100) rfl k) ?_
      show own_Go _ _ _ _ (T192.setTop (mkF m 101 #[.val (.int iv), .val (.int fv), .val (.int p0), .val (.int p1), .val (.ref us186), .val (.ref b187), .val (.ref b190), .unset, .unset, .unset, .unset, .unset, .unset] [(.int iv)]))
      obtain ⟨_, _, ⟨T193, L193, k193, n193⟩, -, X193, ⟨Lc193, hQ193, l193, y193, z193⟩, st193⟩ := Jvm.LawKit.callS X192 hx (y := (⟨"com/example/lambdaloom/lambdaloom/model/Verdict", "valid", "(I)Lcom/example/lambdaloom/lambdaloom/model/Verdict;"⟩ : MethodName)) hown (mvT hZ (w_38 hw)) (mvT hZ (w_39 hw)) (mvT hZ (w_24 hw)) (mvT hZ (w_40 hw)) (by decide) (backOf (W := 0) (rm_val l Z a0 hw [] iv h192 n0 Z192 ) hZ (w_40 hw) (w_24 hw) (by decide) (by decide)) (g := (mkF m 101 #[.val (.int iv), .val (.int fv), .val (.int p0), .val (.int p1), .val (.ref us186), .val (.ref b187), .val (.ref b190), .unset, .unset, .unset, .unset, .unset, .unset] [(.int iv)])) rfl (by rw [hml]; rfl) (argsL := [(.int iv)]) (rest := []) (lenOf pd_10 rfl) rfl (by show 2 * 0 + _ ≤ _; exact Nat.le_of_eq rfl) (hb hby at_101) (fun _ _ => ⟨rfl, e192, (by decide : 4 + 1 ≤ _), (by decide : 9 + 2 ≤ _)⟩)
      dsimp only [Pt.U, Pt.locs, Pt.cells, Pt.slots] at X193 l193 y193 z193 st193 hQ193
      subst l193 y193 z193
      generalize e193 : T193.heap = h193 at hQ193
      obtain ⟨ub193, rfl, N193q, K193q, lo193, q193, A193, F193⟩ := hQ193
      have N193 := Fr.app N192 N193q
      refine own_go st193 ?_
      have C193 := C192.trans (CHr.keep K193q all0 C192.1)
      have Z193 : n0 ≤ h193.size := (Nat.le_trans Z192 K193q.1)
      have hi193 := A193.lt
      show own_Go _ _ _ _ (T193.setTop (mkF m 104 #[.val (.int iv), .val (.int fv), .val (.int p0), .val (.int p1), .val (.ref us186), .val (.ref b187), .val (.ref b190), .unset, .unset, .unset, .unset, .unset, .unset] [(.ref ub193)]))
      refine own_go (fun t k => XS.astore X193.here hx rfl (hb hby at_104) rfl rfl (l' := #[.val (.int iv), .val (.int fv), .val (.int p0), .val (.int p1), .val (.ref us186), .val (.ref b187), .val (.ref b190), .val (.ref ub193), .unset, .unset, .unset, .unset, .unset]) rfl k) ?_
      show own_Go _ _ _ _ (T193.setTop (mkF m 106 #[.val (.int iv), .val (.int fv), .val (.int p0), .val (.int p1), .val (.ref us186), .val (.ref b187), .val (.ref b190), .val (.ref ub193), .unset, .unset, .unset, .unset, .unset] []))
      refine own_go (fun t k => XS.aload X193.here hx rfl (hb hby at_106) rfl rfl k) ?_
      show own_Go _ _ _ _ (T193.setTop (mkF m 108 #[.val (.int iv), .val (.int fv), .val (.int p0), .val (.int p1), .val (.ref us186), .val (.ref b187), .val (.ref b190), .val (.ref ub193), .unset, .unset, .unset, .unset, .unset] [(.ref us186)]))
      obtain ⟨_, _, ⟨T194, L194, k194, n194⟩, -, X194, ⟨Lc194, hQ194, l194, y194, z194⟩, st194⟩ := Jvm.LawKit.callS X193 hx (y := (⟨"com/example/lambdaloom/lambdaloom/model/Verdict", "invalid", "(Ljava/lang/String;)Lcom/example/lambdaloom/lambdaloom/model/Verdict;"⟩ : MethodName)) hown (mvT hZ (w_43 hw)) (mvT hZ (w_44 hw)) (mvT hZ (w_24 hw)) (mvT hZ (w_45 hw)) (by decide) (backOf (W := 0) (rm_inv l Z a0 hw [] us186 h193 n0 Z193 ) hZ (w_45 hw) (w_24 hw) (by decide) (by decide)) (g := (mkF m 108 #[.val (.int iv), .val (.int fv), .val (.int p0), .val (.int p1), .val (.ref us186), .val (.ref b187), .val (.ref b190), .val (.ref ub193), .unset, .unset, .unset, .unset, .unset] [(.ref us186)])) rfl (by rw [hml]; rfl) (argsL := [(.ref us186)]) (rest := []) (lenOf pd_11 rfl) rfl (by show 2 * 0 + _ ≤ _; exact Nat.le_of_eq rfl) (hb hby at_108) (fun _ _ => ⟨rfl, e193, (by decide : 5 + 1 ≤ _), (by decide : 11 + 2 ≤ _)⟩)
      dsimp only [Pt.U, Pt.locs, Pt.cells, Pt.slots] at X194 l194 y194 z194 st194 hQ194
      subst l194 y194 z194
      generalize e194 : T194.heap = h194 at hQ194
      obtain ⟨ub194, rfl, N194q, K194q, lo194, q194, A194, F194⟩ := hQ194
      have N194 := Fr.app N193 N194q
      refine own_go st194 ?_
      have C194 := C193.trans (CHr.keep K194q all0 C193.1)
      have Z194 : n0 ≤ h194.size := (Nat.le_trans Z193 K194q.1)
      have hi194 := A194.lt
      show own_Go _ _ _ _ (T194.setTop (mkF m 111 #[.val (.int iv), .val (.int fv), .val (.int p0), .val (.int p1), .val (.ref us186), .val (.ref b187), .val (.ref b190), .val (.ref ub193), .unset, .unset, .unset, .unset, .unset] [(.ref ub194)]))
      refine own_go (fun t k => XS.astore X194.here hx rfl (hb hby at_111) rfl rfl (l' := #[.val (.int iv), .val (.int fv), .val (.int p0), .val (.int p1), .val (.ref us186), .val (.ref b187), .val (.ref b190), .val (.ref ub193), .val (.ref ub194), .unset, .unset, .unset, .unset]) rfl k) ?_
      show own_Go _ _ _ _ (T194.setTop (mkF m 113 #[.val (.int iv), .val (.int fv), .val (.int p0), .val (.int p1), .val (.ref us186), .val (.ref b187), .val (.ref b190), .val (.ref ub193), .val (.ref ub194), .unset, .unset, .unset, .unset] []))
      refine own_go (fun t k => XS.aload X194.here hx rfl (hb hby at_113) rfl rfl k) ?_
      have f195 := ((((F188.ext E190).keep K192q (ninS (Nat.ne_of_lt (Nat.lt_of_lt_of_le hi187 (Nat.le_trans K189q.1 lo190))) nin0)).keep K193q nin0).keep K194q nin0)
      show own_Go _ _ _ _ (T194.setTop (mkF m 115 #[.val (.int iv), .val (.int fv), .val (.int p0), .val (.int p1), .val (.ref us186), .val (.ref b187), .val (.ref b190), .val (.ref ub193), .val (.ref ub194), .unset, .unset, .unset, .unset] [(.ref b187)]))
      have f197 := (((((A187.keep K189q).ext E190).keep K192q).keep K193q).keep K194q)
      obtain ⟨cq196, kq196, q196a, q196b, q196c⟩ := isOf hZ e194 f197
      obtain ⟨_, _, ⟨T196, L196, k196, n196⟩, -, X196, ⟨Lc196, hQ196, l196, y196, z196⟩, st196⟩ := X194.virtualBack hx (y := (⟨"com/example/lambdaloom/lambdaloom/model/Verdict", "isValid", "()Z"⟩ : MethodName)) (z := (⟨"com/example/lambdaloom/lambdaloom/model/Verdict", "isValid", "()Z"⟩ : MethodName)) hown (mvT hZ (w_46 hw)) (mvT hZ (w_47 hw)) (notFace_of_selects (args := #[]) (mvT hZ (w_49 hw))) (mvT hZ (w_49 hw)) (mvT hZ (w_48 hw)) (by decide) (backOf (W := 0) (rm_ivN l Z a0 hw [] b187 h194 n0 Z194 f195) hZ (w_50 hw) (w_24 hw) (by decide) (by decide)) q196a q196c (g := (mkF m 115 #[.val (.int iv), .val (.int fv), .val (.int p0), .val (.int p1), .val (.ref us186), .val (.ref b187), .val (.ref b190), .val (.ref ub193), .val (.ref ub194), .unset, .unset, .unset, .unset] [(.ref b187)])) rfl (by rw [hml]; rfl) (Steps.refl _) (argsL := []) (rest := []) (lenOf pd_12 rfl) rfl (by show 2 * 0 + _ ≤ _; exact Nat.le_of_eq rfl) (hb hby at_115) (fun _ _ => ⟨rfl, e194, (by decide : 6 + 0 ≤ _), (by decide : 13 + 0 ≤ _)⟩)
      dsimp only [Pt.U, Pt.locs, Pt.cells, Pt.slots] at X196 l196 y196 z196 st196 hQ196
      subst l196 y196 z196
      obtain ⟨rfl, N196q, e196⟩ := hQ196
      have N196 := Fr.app N194 N196q
      refine own_go (fun t k => st196.trans k) ?_
      show own_Go _ _ _ _ (T196.setTop (mkF m 118 #[.val (.int iv), .val (.int fv), .val (.int p0), .val (.int p1), .val (.ref us186), .val (.ref b187), .val (.ref b190), .val (.ref ub193), .val (.ref ub194), .unset, .unset, .unset, .unset] [(.int (1 : Int32))]))
      refine own_go (fun t k => XS.istore X196.here hx rfl (hb hby at_118) rfl (l' := #[.val (.int iv), .val (.int fv), .val (.int p0), .val (.int p1), .val (.ref us186), .val (.ref b187), .val (.ref b190), .val (.ref ub193), .val (.ref ub194), .val (.int (1 : Int32)), .unset, .unset, .unset]) rfl k) ?_
      show own_Go _ _ _ _ (T196.setTop (mkF m 120 #[.val (.int iv), .val (.int fv), .val (.int p0), .val (.int p1), .val (.ref us186), .val (.ref b187), .val (.ref b190), .val (.ref ub193), .val (.ref ub194), .val (.int (1 : Int32)), .unset, .unset, .unset] []))
      refine own_go (fun t k => XS.aload X196.here hx rfl (hb hby at_120) rfl rfl k) ?_
      show own_Go _ _ _ _ (T196.setTop (mkF m 122 #[.val (.int iv), .val (.int fv), .val (.int p0), .val (.int p1), .val (.ref us186), .val (.ref b187), .val (.ref b190), .val (.ref ub193), .val (.ref ub194), .val (.int (1 : Int32)), .unset, .unset, .unset] [(.ref b190)]))
      obtain ⟨cq198, kq198, q198a, q198b, q198c⟩ := isOf hZ e196 (((A190.keep K192q).keep K193q).keep K194q)
      obtain ⟨_, _, ⟨T198, L198, k198, n198⟩, -, X198, ⟨Lc198, hQ198, l198, y198, z198⟩, st198⟩ := X196.virtualBack hx (y := (⟨"com/example/lambdaloom/lambdaloom/model/Verdict", "isValid", "()Z"⟩ : MethodName)) (z := (⟨"com/example/lambdaloom/lambdaloom/model/Verdict", "isValid", "()Z"⟩ : MethodName)) hown (mvT hZ (w_46 hw)) (mvT hZ (w_47 hw)) (notFace_of_selects (args := #[]) (mvT hZ (w_49 hw))) (mvT hZ (w_49 hw)) (mvT hZ (w_48 hw)) (by decide) (backOf (W := 0) (rm_ivR l Z a0 hw [] b190 us186 h194 n0 Z194 ((F191.keep K193q nin0).keep K194q nin0)) hZ (w_50 hw) (w_24 hw) (by decide) (by decide)) q198a q198c (g := (mkF m 122 #[.val (.int iv), .val (.int fv), .val (.int p0), .val (.int p1), .val (.ref us186), .val (.ref b187), .val (.ref b190), .val (.ref ub193), .val (.ref ub194), .val (.int (1 : Int32)), .unset, .unset, .unset] [(.ref b190)])) rfl (by rw [hml]; rfl) (Steps.refl _) (argsL := []) (rest := []) (lenOf pd_12 rfl) rfl (by show 2 * 0 + _ ≤ _; exact Nat.le_of_eq rfl) (hb hby at_122) (fun _ _ => ⟨rfl, e196, (by decide : 6 + 0 ≤ _), (by decide : 13 + 0 ≤ _)⟩)
      dsimp only [Pt.U, Pt.locs, Pt.cells, Pt.slots] at X198 l198 y198 z198 st198 hQ198
      subst l198 y198 z198
      obtain ⟨rfl, N198q, e198⟩ := hQ198
      have N198 := Fr.app N196 N198q
      refine own_go (fun t k => st198.trans k) ?_
      show own_Go _ _ _ _ (T198.setTop (mkF m 125 #[.val (.int iv), .val (.int fv), .val (.int p0), .val (.int p1), .val (.ref us186), .val (.ref b187), .val (.ref b190), .val (.ref ub193), .val (.ref ub194), .val (.int (1 : Int32)), .unset, .unset, .unset] [(.int (0 : Int32))]))
      refine own_go (fun t k => XS.ifNo X198.here hx rfl (hb hby at_125) rfl ((if0 _ _).trans (teq (by decide : (0 : Int32) = (0 : Int32))).2) k) ?_
      show own_Go _ _ _ _ (T198.setTop (mkF m 128 #[.val (.int iv), .val (.int fv), .val (.int p0), .val (.int p1), .val (.ref us186), .val (.ref b187), .val (.ref b190), .val (.ref ub193), .val (.ref ub194), .val (.int (1 : Int32)), .unset, .unset, .unset] []))
      refine own_go (fun t k => XS.iconst X198.here hx rfl (hb hby at_128) k) ?_
      show own_Go _ _ _ _ (T198.setTop (mkF m 129 #[.val (.int iv), .val (.int fv), .val (.int p0), .val (.int p1), .val (.ref us186), .val (.ref b187), .val (.ref b190), .val (.ref ub193), .val (.ref ub194), .val (.int (1 : Int32)), .unset, .unset, .unset] [(.int (1 : Int32))]))
      refine own_go (fun t k => XS.goto X198.here hx rfl (pc0 := 129) (pc' := 133) rfl (hb hby at_129) (by decide) (by decide) k) ?_
      show own_Go _ _ _ _ (T198.setTop (mkF m 133 #[.val (.int iv), .val (.int fv), .val (.int p0), .val (.int p1), .val (.ref us186), .val (.ref b187), .val (.ref b190), .val (.ref ub193), .val (.ref ub194), .val (.int (1 : Int32)), .unset, .unset, .unset] [(.int (1 : Int32))]))
      refine own_go (fun t k => XS.istore X198.here hx rfl (hb hby at_133) rfl (l' := #[.val (.int iv), .val (.int fv), .val (.int p0), .val (.int p1), .val (.ref us186), .val (.ref b187), .val (.ref b190), .val (.ref ub193), .val (.ref ub194), .val (.int (1 : Int32)), .val (.int (1 : Int32)), .unset, .unset]) rfl k) ?_
      show own_Go _ _ _ _ (T198.setTop (mkF m 135 #[.val (.int iv), .val (.int fv), .val (.int p0), .val (.int p1), .val (.ref us186), .val (.ref b187), .val (.ref b190), .val (.ref ub193), .val (.ref ub194), .val (.int (1 : Int32)), .val (.int (1 : Int32)), .unset, .unset] []))
      refine own_go (fun t k => XS.aload X198.here hx rfl (hb hby at_135) rfl rfl k) ?_
      show own_Go _ _ _ _ (T198.setTop (mkF m 137 #[.val (.int iv), .val (.int fv), .val (.int p0), .val (.int p1), .val (.ref us186), .val (.ref b187), .val (.ref b190), .val (.ref ub193), .val (.ref ub194), .val (.int (1 : Int32)), .val (.int (1 : Int32)), .unset, .unset] [(.ref ub193)]))
      obtain ⟨cq199, kq199, q199a, q199b, q199c⟩ := isOf hZ e198 (A193.keep K194q)
      obtain ⟨_, _, ⟨T199, L199, k199, n199⟩, -, X199, ⟨Lc199, hQ199, l199, y199, z199⟩, st199⟩ := X198.virtualBack hx (y := (⟨"com/example/lambdaloom/lambdaloom/model/Verdict", "isValid", "()Z"⟩ : MethodName)) (z := (⟨"com/example/lambdaloom/lambdaloom/model/Verdict", "isValid", "()Z"⟩ : MethodName)) hown (mvT hZ (w_46 hw)) (mvT hZ (w_47 hw)) (notFace_of_selects (args := #[]) (mvT hZ (w_49 hw))) (mvT hZ (w_49 hw)) (mvT hZ (w_48 hw)) (by decide) (backOf (W := 0) (rm_ivN l Z a0 hw [] ub193 h194 n0 Z194 (F193.keep K194q nin0)) hZ (w_50 hw) (w_24 hw) (by decide) (by decide)) q199a q199c (g := (mkF m 137 #[.val (.int iv), .val (.int fv), .val (.int p0), .val (.int p1), .val (.ref us186), .val (.ref b187), .val (.ref b190), .val (.ref ub193), .val (.ref ub194), .val (.int (1 : Int32)), .val (.int (1 : Int32)), .unset, .unset] [(.ref ub193)])) rfl (by rw [hml]; rfl) (Steps.refl _) (argsL := []) (rest := []) (lenOf pd_12 rfl) rfl (by show 2 * 0 + _ ≤ _; exact Nat.le_of_eq rfl) (hb hby at_137) (fun _ _ => ⟨rfl, e198, (by decide : 6 + 0 ≤ _), (by decide : 13 + 0 ≤ _)⟩)
      dsimp only [Pt.U, Pt.locs, Pt.cells, Pt.slots] at X199 l199 y199 z199 st199 hQ199
      subst l199 y199 z199
      obtain ⟨rfl, N199q, e199⟩ := hQ199
      have N199 := Fr.app N198 N199q
      refine own_go (fun t k => st199.trans k) ?_
      show own_Go _ _ _ _ (T199.setTop (mkF m 140 #[.val (.int iv), .val (.int fv), .val (.int p0), .val (.int p1), .val (.ref us186), .val (.ref b187), .val (.ref b190), .val (.ref ub193), .val (.ref ub194), .val (.int (1 : Int32)), .val (.int (1 : Int32)), .unset, .unset] [(.int (1 : Int32))]))
      refine own_go (fun t k => XS.istore X199.here hx rfl (hb hby at_140) rfl (l' := #[.val (.int iv), .val (.int fv), .val (.int p0), .val (.int p1), .val (.ref us186), .val (.ref b187), .val (.ref b190), .val (.ref ub193), .val (.ref ub194), .val (.int (1 : Int32)), .val (.int (1 : Int32)), .val (.int (1 : Int32)), .unset]) rfl k) ?_
      show own_Go _ _ _ _ (T199.setTop (mkF m 142 #[.val (.int iv), .val (.int fv), .val (.int p0), .val (.int p1), .val (.ref us186), .val (.ref b187), .val (.ref b190), .val (.ref ub193), .val (.ref ub194), .val (.int (1 : Int32)), .val (.int (1 : Int32)), .val (.int (1 : Int32)), .unset] []))
      refine own_go (fun t k => XS.aload X199.here hx rfl (hb hby at_142) rfl rfl k) ?_
      show own_Go _ _ _ _ (T199.setTop (mkF m 144 #[.val (.int iv), .val (.int fv), .val (.int p0), .val (.int p1), .val (.ref us186), .val (.ref b187), .val (.ref b190), .val (.ref ub193), .val (.ref ub194), .val (.int (1 : Int32)), .val (.int (1 : Int32)), .val (.int (1 : Int32)), .unset] [(.ref ub194)]))
      obtain ⟨cq200, kq200, q200a, q200b, q200c⟩ := isOf hZ e199 A194
      obtain ⟨_, _, ⟨T200, L200, k200, n200⟩, -, X200, ⟨Lc200, hQ200, l200, y200, z200⟩, st200⟩ := X199.virtualBack hx (y := (⟨"com/example/lambdaloom/lambdaloom/model/Verdict", "isValid", "()Z"⟩ : MethodName)) (z := (⟨"com/example/lambdaloom/lambdaloom/model/Verdict", "isValid", "()Z"⟩ : MethodName)) hown (mvT hZ (w_46 hw)) (mvT hZ (w_47 hw)) (notFace_of_selects (args := #[]) (mvT hZ (w_49 hw))) (mvT hZ (w_49 hw)) (mvT hZ (w_48 hw)) (by decide) (backOf (W := 0) (rm_ivR l Z a0 hw [] ub194 us186 h194 n0 Z194 F194) hZ (w_50 hw) (w_24 hw) (by decide) (by decide)) q200a q200c (g := (mkF m 144 #[.val (.int iv), .val (.int fv), .val (.int p0), .val (.int p1), .val (.ref us186), .val (.ref b187), .val (.ref b190), .val (.ref ub193), .val (.ref ub194), .val (.int (1 : Int32)), .val (.int (1 : Int32)), .val (.int (1 : Int32)), .unset] [(.ref ub194)])) rfl (by rw [hml]; rfl) (Steps.refl _) (argsL := []) (rest := []) (lenOf pd_12 rfl) rfl (by show 2 * 0 + _ ≤ _; exact Nat.le_of_eq rfl) (hb hby at_144) (fun _ _ => ⟨rfl, e199, (by decide : 6 + 0 ≤ _), (by decide : 13 + 0 ≤ _)⟩)
      dsimp only [Pt.U, Pt.locs, Pt.cells, Pt.slots] at X200 l200 y200 z200 st200 hQ200
      subst l200 y200 z200
      obtain ⟨rfl, N200q, e200⟩ := hQ200
      have N200 := Fr.app N199 N200q
      refine own_go (fun t k => st200.trans k) ?_
      show own_Go _ _ _ _ (T200.setTop (mkF m 147 #[.val (.int iv), .val (.int fv), .val (.int p0), .val (.int p1), .val (.ref us186), .val (.ref b187), .val (.ref b190), .val (.ref ub193), .val (.ref ub194), .val (.int (1 : Int32)), .val (.int (1 : Int32)), .val (.int (1 : Int32)), .unset] [(.int (0 : Int32))]))
      refine own_go (fun t k => XS.ifNo X200.here hx rfl (hb hby at_147) rfl ((if0 _ _).trans (teq (by decide : (0 : Int32) = (0 : Int32))).2) k) ?_
      show own_Go _ _ _ _ (T200.setTop (mkF m 150 #[.val (.int iv), .val (.int fv), .val (.int p0), .val (.int p1), .val (.ref us186), .val (.ref b187), .val (.ref b190), .val (.ref ub193), .val (.ref ub194), .val (.int (1 : Int32)), .val (.int (1 : Int32)), .val (.int (1 : Int32)), .unset] []))
      refine own_go (fun t k => XS.iconst X200.here hx rfl (hb hby at_150) k) ?_
      show own_Go _ _ _ _ (T200.setTop (mkF m 151 #[.val (.int iv), .val (.int fv), .val (.int p0), .val (.int p1), .val (.ref us186), .val (.ref b187), .val (.ref b190), .val (.ref ub193), .val (.ref ub194), .val (.int (1 : Int32)), .val (.int (1 : Int32)), .val (.int (1 : Int32)), .unset] [(.int (1 : Int32))]))
      refine own_go (fun t k => XS.goto X200.here hx rfl (pc0 := 151) (pc' := 155) rfl (hb hby at_151) (by decide) (by decide) k) ?_
      show own_Go _ _ _ _ (T200.setTop (mkF m 155 #[.val (.int iv), .val (.int fv), .val (.int p0), .val (.int p1), .val (.ref us186), .val (.ref b187), .val (.ref b190), .val (.ref ub193), .val (.ref ub194), .val (.int (1 : Int32)), .val (.int (1 : Int32)), .val (.int (1 : Int32)), .unset] [(.int (1 : Int32))]))
      refine own_go (fun t k => XS.istore X200.here hx rfl (hb hby at_155) rfl (l' := #[.val (.int iv), .val (.int fv), .val (.int p0), .val (.int p1), .val (.ref us186), .val (.ref b187), .val (.ref b190), .val (.ref ub193), .val (.ref ub194), .val (.int (1 : Int32)), .val (.int (1 : Int32)), .val (.int (1 : Int32)), .val (.int (1 : Int32))]) rfl k) ?_
      show own_Go _ _ _ _ (T200.setTop (mkF m 157 #[.val (.int iv), .val (.int fv), .val (.int p0), .val (.int p1), .val (.ref us186), .val (.ref b187), .val (.ref b190), .val (.ref ub193), .val (.ref ub194), .val (.int (1 : Int32)), .val (.int (1 : Int32)), .val (.int (1 : Int32)), .val (.int (1 : Int32))] []))
      refine own_go (fun t k => XS.iload X200.here hx rfl (hb hby at_157) rfl k) ?_
      show own_Go _ _ _ _ (T200.setTop (mkF m 159 #[.val (.int iv), .val (.int fv), .val (.int p0), .val (.int p1), .val (.ref us186), .val (.ref b187), .val (.ref b190), .val (.ref ub193), .val (.ref ub194), .val (.int (1 : Int32)), .val (.int (1 : Int32)), .val (.int (1 : Int32)), .val (.int (1 : Int32))] [(.int (1 : Int32))]))
      refine own_go (fun t k => XS.ifNo X200.here hx rfl (hb hby at_159) rfl ((if0 _ _).trans (feq (by decide : ¬ ((1 : Int32) = (0 : Int32)))).1) k) ?_
      show own_Go _ _ _ _ (T200.setTop (mkF m 162 #[.val (.int iv), .val (.int fv), .val (.int p0), .val (.int p1), .val (.ref us186), .val (.ref b187), .val (.ref b190), .val (.ref ub193), .val (.ref ub194), .val (.int (1 : Int32)), .val (.int (1 : Int32)), .val (.int (1 : Int32)), .val (.int (1 : Int32))] []))
      refine own_go (fun t k => XS.iload X200.here hx rfl (hb hby at_162) rfl k) ?_
      show own_Go _ _ _ _ (T200.setTop (mkF m 164 #[.val (.int iv), .val (.int fv), .val (.int p0), .val (.int p1), .val (.ref us186), .val (.ref b187), .val (.ref b190), .val (.ref ub193), .val (.ref ub194), .val (.int (1 : Int32)), .val (.int (1 : Int32)), .val (.int (1 : Int32)), .val (.int (1 : Int32))] [(.int (1 : Int32))]))
      refine own_go (fun t k => XS.ifNo X200.here hx rfl (hb hby at_164) rfl ((if0 _ _).trans (feq (by decide : ¬ ((1 : Int32) = (0 : Int32)))).1) k) ?_
      show own_Go _ _ _ _ (T200.setTop (mkF m 167 #[.val (.int iv), .val (.int fv), .val (.int p0), .val (.int p1), .val (.ref us186), .val (.ref b187), .val (.ref b190), .val (.ref ub193), .val (.ref ub194), .val (.int (1 : Int32)), .val (.int (1 : Int32)), .val (.int (1 : Int32)), .val (.int (1 : Int32))] []))
      refine own_go (fun t k => XS.iload X200.here hx rfl (hb hby at_167) rfl k) ?_
      show own_Go _ _ _ _ (T200.setTop (mkF m 169 #[.val (.int iv), .val (.int fv), .val (.int p0), .val (.int p1), .val (.ref us186), .val (.ref b187), .val (.ref b190), .val (.ref ub193), .val (.ref ub194), .val (.int (1 : Int32)), .val (.int (1 : Int32)), .val (.int (1 : Int32)), .val (.int (1 : Int32))] [(.int (1 : Int32))]))
      refine own_go (fun t k => XS.ifNo X200.here hx rfl (hb hby at_169) rfl ((if0 _ _).trans (feq (by decide : ¬ ((1 : Int32) = (0 : Int32)))).1) k) ?_
      show own_Go _ _ _ _ (T200.setTop (mkF m 172 #[.val (.int iv), .val (.int fv), .val (.int p0), .val (.int p1), .val (.ref us186), .val (.ref b187), .val (.ref b190), .val (.ref ub193), .val (.ref ub194), .val (.int (1 : Int32)), .val (.int (1 : Int32)), .val (.int (1 : Int32)), .val (.int (1 : Int32))] []))
      refine own_go (fun t k => XS.iload X200.here hx rfl (hb hby at_172) rfl k) ?_
      show own_Go _ _ _ _ (T200.setTop (mkF m 174 #[.val (.int iv), .val (.int fv), .val (.int p0), .val (.int p1), .val (.ref us186), .val (.ref b187), .val (.ref b190), .val (.ref ub193), .val (.ref ub194), .val (.int (1 : Int32)), .val (.int (1 : Int32)), .val (.int (1 : Int32)), .val (.int (1 : Int32))] [(.int (1 : Int32))]))
      refine own_go (fun t k => XS.ifNo X200.here hx rfl (hb hby at_174) rfl ((if0 _ _).trans (feq (by decide : ¬ ((1 : Int32) = (0 : Int32)))).1) k) ?_
      show own_Go _ _ _ _ (T200.setTop (mkF m 177 #[.val (.int iv), .val (.int fv), .val (.int p0), .val (.int p1), .val (.ref us186), .val (.ref b187), .val (.ref b190), .val (.ref ub193), .val (.ref ub194), .val (.int (1 : Int32)), .val (.int (1 : Int32)), .val (.int (1 : Int32)), .val (.int (1 : Int32))] []))
      refine own_go (fun t k => XS.iconst X200.here hx rfl (hb hby at_177) k) ?_
      show own_Go _ _ _ _ (T200.setTop (mkF m 178 #[.val (.int iv), .val (.int fv), .val (.int p0), .val (.int p1), .val (.ref us186), .val (.ref b187), .val (.ref b190), .val (.ref ub193), .val (.ref ub194), .val (.int (1 : Int32)), .val (.int (1 : Int32)), .val (.int (1 : Int32)), .val (.int (1 : Int32))] [(.int (1 : Int32))]))
      refine own_go (fun t k => XS.goto X200.here hx rfl (pc0 := 178) (pc' := 182) rfl (hb hby at_178) (by decide) (by decide) k) ?_
      show own_Go _ _ _ _ (T200.setTop (mkF m 182 #[.val (.int iv), .val (.int fv), .val (.int p0), .val (.int p1), .val (.ref us186), .val (.ref b187), .val (.ref b190), .val (.ref ub193), .val (.ref ub194), .val (.int (1 : Int32)), .val (.int (1 : Int32)), .val (.int (1 : Int32)), .val (.int (1 : Int32))] [(.int (1 : Int32))]))
      refine own_retNH X200 hx hS (Nat.le_trans (Nat.le_trans hk (Nat.le_trans (Nat.le_trans (Nat.le_trans (Nat.le_trans (Nat.le_trans (Nat.le_trans K186q.1 E187.1) K189q.1) E190.1) K192q.1) K193q.1) K194q.1)) (Nat.le_of_eq (congrArg Array.size e200.symm))) (by rw [hh, e200]; exact C194.trans (CHv.at X200 hZ (own_EW hw) C194.1)) hlk (t := .boolean) hret (by simp) (hb hby at_182) ?_ (by decide) (by decide)
      rw [e200]
      exact ⟨rfl, N200⟩
  · show own_Go _ _ _ _ (s₁.setTop (mkF m 3 #[.val (.int iv), .val (.int fv), .val (.int p0), .val (.int p1), .unset, .unset, .unset, .unset, .unset, .unset, .unset, .unset, .unset] [(.int (fv &&& (1 : Int32)))]))
    refine own_go (fun t k => XS.ifNo X0.here hx rfl (hb hby at_3) rfl ((if0 _ _).trans (feq hc162).1) k) ?_
    show own_Go _ _ _ _ (s₁.setTop (mkF m 6 #[.val (.int iv), .val (.int fv), .val (.int p0), .val (.int p1), .unset, .unset, .unset, .unset, .unset, .unset, .unset, .unset, .unset] []))
    obtain ⟨T201, h201, X201, e201, E201, A201, D201, -, st201⟩ := newO X0 hx hZ hown (w_0 hw) (w_1 hw) (w_2 hw) e0 (g := (mkF m 6 #[.val (.int iv), .val (.int fv), .val (.int p0), .val (.int p1), .unset, .unset, .unset, .unset, .unset, .unset, .unset, .unset, .unset] [])) rfl (hb hby at_6) (by decide) (by decide)
    obtain ⟨b201, g201⟩ : ∃ z, z = h0.size := ⟨_, rfl⟩
    rw [← g201] at A201 D201 st201
    refine own_go st201 ?_
    have Sf201 : Safe Z consts_1 s.vm h0 b201 := Safe.new (Nat.le_of_eq g201.symm)
    have Z201 : n0 ≤ h201.size := (Nat.le_trans Z0 E201.1)
    have C201 := C0.trans (CHr.ext E201 C0.1)
    have lo201 : h0.size ≤ b201 := Nat.le_of_eq g201.symm
    have q201 : n0 ≤ b201 := Nat.le_trans Z0 lo201
    have hi201 : b201 < h201.size := A201.lt
    have F201_16 : Fld Z h201 b201 "java/lang/String" "value" "[B" .null := D201 (Or.inr (w_16 hw)) (ty := (.array .byte)) (by decide)
    have F201_17 : Fld Z h201 b201 "java/lang/String" "coder" "B" (.int (0 : Int32)) := D201 (Or.inr (w_17 hw)) (ty := .byte) (by decide)
    show own_Go _ _ _ _ (T201.setTop (mkF m 9 #[.val (.int iv), .val (.int fv), .val (.int p0), .val (.int p1), .unset, .unset, .unset, .unset, .unset, .unset, .unset, .unset, .unset] [(.ref b201)]))
    refine own_go (fun t k => XS.dup X201.here hx rfl (hb hby at_9) rfl rfl k) ?_
    show own_Go _ _ _ _ (T201.setTop (mkF m 10 #[.val (.int iv), .val (.int fv), .val (.int p0), .val (.int p1), .unset, .unset, .unset, .unset, .unset, .unset, .unset, .unset, .unset] [(.ref b201), (.ref b201)]))
    refine own_go (fun t k => XS.iconst X201.here hx rfl (hb hby at_10) k) ?_
    show own_Go _ _ _ _ (T201.setTop (mkF m 11 #[.val (.int iv), .val (.int fv), .val (.int p0), .val (.int p1), .unset, .unset, .unset, .unset, .unset, .unset, .unset, .unset, .unset] [(.int (0 : Int32)), (.ref b201), (.ref b201)]))
    obtain ⟨T202, h202, k202, X202, e202, E202, A202, st202⟩ := newP (aty := .char) X201 hx hZ (w_3 hw) e201 (n := (0 : Int32)) (rest := [(.ref b201), (.ref b201)]) (g := (mkF m 11 #[.val (.int iv), .val (.int fv), .val (.int p0), .val (.int p1), .unset, .unset, .unset, .unset, .unset, .unset, .unset, .unset, .unset] [(.int (0 : Int32)), (.ref b201), (.ref b201)])) rfl (hb hby at_11) rfl (by decide) (cap := 0) (by decide) (by decide) (by decide) (by decide)
    obtain ⟨b202, g202⟩ : ∃ z, z = h201.size := ⟨_, rfl⟩
    rw [← g202] at A202 st202
    refine own_go st202 ?_
    have Sf202 : Safe Z consts_1 s.vm h201 b202 := Safe.new (Nat.le_of_eq g202.symm)
    have Z202 : n0 ≤ h202.size := (Nat.le_trans Z201 E202.1)
    have C202 := C201.trans (CHr.ext E202 C201.1)
    have lo202 : h201.size ≤ b202 := Nat.le_of_eq g202.symm
    have q202 : n0 ≤ b202 := Nat.le_trans Z201 lo202
    have hi202 : b202 < h202.size := A202.lt
    have V202 : Arv Z h202 b202 k202 .char (0 : Int32) [] (.int (0 : Int32)) := (Arv.new A202 (by decide)).pad (pad_rep [] (.int (0 : Int32)) 0)
    show own_Go _ _ _ _ (T202.setTop (mkF m 13 #[.val (.int iv), .val (.int fv), .val (.int p0), .val (.int p1), .unset, .unset, .unset, .unset, .unset, .unset, .unset, .unset, .unset] [(.ref b202), (.ref b201), (.ref b201)]))
    obtain ⟨_, _, ⟨T203, L203, k203, n203⟩, -, X203, hS203, hg203, ⟨Lc203, hQ203, l203, y203, z203, R203⟩, st203⟩ := X202.specialBackS hx (y := (⟨"java/lang/String", "<init>", "([C)V"⟩ : MethodName)) rfl hown (mvT hZ (w_4 hw)) (mvT hZ (w_5 hw)) (mvT hZ (w_6 hw)) (by decide) (backOfSH (W := 1) (rm_s0 l Z a0 hw [] b201 b202 k202 h202 n0 Z202 q201 (A201.ext E202) (F201_16.ext E202) (F201_17.ext E202) V202) hZ (w_6 hw) (w_2 hw) (by decide) (by decide) (own_EW hw) C202.1) (g := (mkF m 13 #[.val (.int iv), .val (.int fv), .val (.int p0), .val (.int p1), .unset, .unset, .unset, .unset, .unset, .unset, .unset, .unset, .unset] [(.ref b202), (.ref b201), (.ref b201)])) rfl (by rw [hml]; rfl) (Steps.refl _) (a := b201) (argsL := [(.ref b202)]) (rest := [(.ref b201)]) (lenOf pd_9 rfl) rfl (by show 2 * 0 + _ ≤ _; exact Nat.le_of_eq rfl) (hb hby at_13) (fun _ _ => ⟨rfl, e202, (by decide : 2 + 4 ≤ _), (by decide : 4 + 8 ≤ _)⟩)
    dsimp only [Pt.U, Pt.locs, Pt.cells, Pt.slots] at X203 l203 y203 z203 st203 hQ203 hS203 hg203 R203
    replace hS := foldS hS (Nat.le_trans (Nat.le_trans hk (Nat.le_trans E201.1 E202.1)) (Nat.le_of_eq (congrArg Array.size e202.symm))) hS203 hg203
    have hZ := State.Warmed39.trans hZ hS203.1
    have hown : T203.vm.findClass "com/example/lambdaloom/lambdaloom/model/VerdictIsValidPinLaw" = some m.cls := by rw [hS203.1.alike.findClass]; exact hown
    replace X203 : Stand p l e room_1 (s.setVm T203.vm) m #[(.int iv), (.int fv), (.int p0), (.int p1)] below meth c T203 _ _ _ := X203
    subst l203 y203 z203
    generalize e203 : T203.heap = h203 at hQ203 R203
    obtain ⟨rfl, N203q, K203q⟩ := hQ203
    have hk : T203.heap.size ≤ h203.size := Nat.le_of_eq (by rw [e203])
    have N203 := Fr.app N0 N203q
    refine own_go (fun t k => st203.trans k) ?_
    have C203 := C202.trans R203
    have Z203 : n0 ≤ h203.size := (Nat.le_trans Z202 K203q.1)
    show own_Go _ _ _ _ (T203.setTop (mkF m 16 #[.val (.int iv), .val (.int fv), .val (.int p0), .val (.int p1), .unset, .unset, .unset, .unset, .unset, .unset, .unset, .unset, .unset] [(.ref b201)]))
    refine own_go (fun t k => XS.astore X203.here hx rfl (hb hby at_16) rfl rfl (l' := #[.val (.int iv), .val (.int fv), .val (.int p0), .val (.int p1), .val (.ref b201), .unset, .unset, .unset, .unset, .unset, .unset, .unset, .unset]) rfl k) ?_
    show own_Go _ _ _ _ (T203.setTop (mkF m 18 #[.val (.int iv), .val (.int fv), .val (.int p0), .val (.int p1), .val (.ref b201), .unset, .unset, .unset, .unset, .unset, .unset, .unset, .unset] []))
    refine own_go (fun t k => XS.goto X203.here hx rfl (pc0 := 18) (pc' := 77) rfl (hb hby at_18) (by decide) (by decide) k) ?_
    show own_Go _ _ _ _ (T203.setTop (mkF m 77 #[.val (.int iv), .val (.int fv), .val (.int p0), .val (.int p1), .val (.ref b201), .unset, .unset, .unset, .unset, .unset, .unset, .unset, .unset] []))
    obtain ⟨T204, h204, X204, e204, E204, A204, D204, -, st204⟩ := newO X203 hx hZ hown (w_22 hw) (w_23 hw) (w_24 hw) e203 (g := (mkF m 77 #[.val (.int iv), .val (.int fv), .val (.int p0), .val (.int p1), .val (.ref b201), .unset, .unset, .unset, .unset, .unset, .unset, .unset, .unset] [])) rfl (hb hby at_77) (by decide) (by decide)
    obtain ⟨b204, g204⟩ : ∃ z, z = h203.size := ⟨_, rfl⟩
    rw [← g204] at A204 D204 st204
    refine own_go st204 ?_
    have Sf204 : Safe Z consts_1 T203.vm h203 b204 := Safe.new (Nat.le_of_eq g204.symm)
    have Z204 : n0 ≤ h204.size := (Nat.le_trans Z203 E204.1)
    have C204 := C203.trans (CHr.ext E204 C203.1)
    have lo204 : h203.size ≤ b204 := Nat.le_of_eq g204.symm
    have q204 : n0 ≤ b204 := Nat.le_trans Z203 lo204
    have hi204 : b204 < h204.size := A204.lt
    have F204_35 : Fld Z h204 b204 "com/example/lambdaloom/lambdaloom/model/Verdict" "fault" "Ljava/lang/String;" .null := D204 (Or.inr (w_35 hw)) (ty := (.object "java/lang/String")) (by decide)
    have F204_37 : Fld Z h204 b204 "com/example/lambdaloom/lambdaloom/model/Verdict" "wavelengthCount" "I" (.int (0 : Int32)) := D204 (Or.inr (w_37 hw)) (ty := .int) (by decide)
    show own_Go _ _ _ _ (T204.setTop (mkF m 80 #[.val (.int iv), .val (.int fv), .val (.int p0), .val (.int p1), .val (.ref b201), .unset, .unset, .unset, .unset, .unset, .unset, .unset, .unset] [(.ref b204)]))
    refine own_go (fun t k => XS.dup X204.here hx rfl (hb hby at_80) rfl rfl k) ?_
    show own_Go _ _ _ _ (T204.setTop (mkF m 81 #[.val (.int iv), .val (.int fv), .val (.int p0), .val (.int p1), .val (.ref b201), .unset, .unset, .unset, .unset, .unset, .unset, .unset, .unset] [(.ref b204), (.ref b204)]))
    refine own_go (fun t k => XS.aconstNull X204.here hx rfl (hb hby at_81) k) ?_
    show own_Go _ _ _ _ (T204.setTop (mkF m 82 #[.val (.int iv), .val (.int fv), .val (.int p0), .val (.int p1), .val (.ref b201), .unset, .unset, .unset, .unset, .unset, .unset, .unset, .unset] [.null, (.ref b204), (.ref b204)]))
    refine own_go (fun t k => XS.iloadN X204.here hx rfl (hb hby at_82) rfl k) ?_
    show own_Go _ _ _ _ (T204.setTop (mkF m 83 #[.val (.int iv), .val (.int fv), .val (.int p0), .val (.int p1), .val (.ref b201), .unset, .unset, .unset, .unset, .unset, .unset, .unset, .unset] [(.int iv), .null, (.ref b204), (.ref b204)]))
    obtain ⟨_, _, ⟨T206, L206, k206, n206⟩, -, X206, ⟨Lc206, hQ206, l206, y206, z206⟩, st206⟩ := X204.specialBack hx (y := (⟨"com/example/lambdaloom/lambdaloom/model/Verdict", "<init>", "(Ljava/lang/String;I)V"⟩ : MethodName)) rfl hown (mvT hZ (w_25 hw)) (mvT hZ (w_26 hw)) (mvT hZ (w_27 hw)) (by decide) (backOf (W := 1) (rm_vN l Z a0 hw [] b204 iv h204 n0 Z204 q204 A204 F204_35 F204_37) hZ (w_27 hw) (w_24 hw) (by decide) (by decide)) (g := (mkF m 83 #[.val (.int iv), .val (.int fv), .val (.int p0), .val (.int p1), .val (.ref b201), .unset, .unset, .unset, .unset, .unset, .unset, .unset, .unset] [(.int iv), .null, (.ref b204), (.ref b204)])) rfl (by rw [hml]; rfl) (Steps.refl _) (a := b204) (argsL := [.null, (.int iv)]) (rest := [(.ref b204)]) (lenOf pd_1 rfl) rfl (by show 2 * 0 + _ ≤ _; exact Nat.le_of_eq rfl) (hb hby at_83) (fun _ _ => ⟨rfl, e204, (by decide : 7 + 0 ≤ _), (by decide : 14 + 0 ≤ _)⟩)
    dsimp only [Pt.U, Pt.locs, Pt.cells, Pt.slots] at X206 l206 y206 z206 st206 hQ206
    subst l206 y206 z206
    generalize e206 : T206.heap = h206 at hQ206
    obtain ⟨rfl, N206q, K206q, F205⟩ := hQ206
    have N206 := Fr.app N203 N206q
    refine own_go (fun t k => st206.trans k) ?_
    have C206 := C204.trans (CHr.keep K206q (allS (Safe.ext E204 C203.1 Sf204) all0) C204.1)
    have Z206 : n0 ≤ h206.size := (Nat.le_trans Z204 K206q.1)
    show own_Go _ _ _ _ (T206.setTop (mkF m 86 #[.val (.int iv), .val (.int fv), .val (.int p0), .val (.int p1), .val (.ref b201), .unset, .unset, .unset, .unset, .unset, .unset, .unset, .unset] [(.ref b204)]))
    refine own_go (fun t k => XS.astore X206.here hx rfl (hb hby at_86) rfl rfl (l' := #[.val (.int iv), .val (.int fv), .val (.int p0), .val (.int p1), .val (.ref b201), .val (.ref b204), .unset, .unset, .unset, .unset, .unset, .unset, .unset]) rfl k) ?_
    show own_Go _ _ _ _ (T206.setTop (mkF m 88 #[.val (.int iv), .val (.int fv), .val (.int p0), .val (.int p1), .val (.ref b201), .val (.ref b204), .unset, .unset, .unset, .unset, .unset, .unset, .unset] []))
    obtain ⟨T207, h207, X207, e207, E207, A207, D207, -, st207⟩ := newO X206 hx hZ hown (w_22 hw) (w_23 hw) (w_24 hw) e206 (g := (mkF m 88 #[.val (.int iv), .val (.int fv), .val (.int p0), .val (.int p1), .val (.ref b201), .val (.ref b204), .unset, .unset, .unset, .unset, .unset, .unset, .unset] [])) rfl (hb hby at_88) (by decide) (by decide)
    obtain ⟨b207, g207⟩ : ∃ z, z = h206.size := ⟨_, rfl⟩
    rw [← g207] at A207 D207 st207
    refine own_go st207 ?_
    have Sf207 : Safe Z consts_1 T203.vm h206 b207 := Safe.new (Nat.le_of_eq g207.symm)
    have Z207 : n0 ≤ h207.size := (Nat.le_trans Z206 E207.1)
    have C207 := C206.trans (CHr.ext E207 C206.1)
    have lo207 : h206.size ≤ b207 := Nat.le_of_eq g207.symm
    have q207 : n0 ≤ b207 := Nat.le_trans Z206 lo207
    have hi207 : b207 < h207.size := A207.lt
    have F207_35 : Fld Z h207 b207 "com/example/lambdaloom/lambdaloom/model/Verdict" "fault" "Ljava/lang/String;" .null := D207 (Or.inr (w_35 hw)) (ty := (.object "java/lang/String")) (by decide)
    have F207_37 : Fld Z h207 b207 "com/example/lambdaloom/lambdaloom/model/Verdict" "wavelengthCount" "I" (.int (0 : Int32)) := D207 (Or.inr (w_37 hw)) (ty := .int) (by decide)
    show own_Go _ _ _ _ (T207.setTop (mkF m 91 #[.val (.int iv), .val (.int fv), .val (.int p0), .val (.int p1), .val (.ref b201), .val (.ref b204), .unset, .unset, .unset, .unset, .unset, .unset, .unset] [(.ref b207)]))
    refine own_go (fun t k => XS.dup X207.here hx rfl (hb hby at_91) rfl rfl k) ?_
    show own_Go _ _ _ _ (T207.setTop (mkF m 92 #[.val (.int iv), .val (.int fv), .val (.int p0), .val (.int p1), .val (.ref b201), .val (.ref b204), .unset, .unset, .unset, .unset, .unset, .unset, .unset] [(.ref b207), (.ref b207)]))
    refine own_go (fun t k => XS.aload X207.here hx rfl (hb hby at_92) rfl rfl k) ?_
    show own_Go _ _ _ _ (T207.setTop (mkF m 94 #[.val (.int iv), .val (.int fv), .val (.int p0), .val (.int p1), .val (.ref b201), .val (.ref b204), .unset, .unset, .unset, .unset, .unset, .unset, .unset] [(.ref b201), (.ref b207), (.ref b207)]))
    refine own_go (fun t k => XS.iloadN X207.here hx rfl (hb hby at_94) rfl k) ?_
    show own_Go _ _ _ _ (T207.setTop (mkF m 95 #[.val (.int iv), .val (.int fv), .val (.int p0), .val (.int p1), .val (.ref b201), .val (.ref b204), .unset, .unset, .unset, .unset, .unset, .unset, .unset] [(.int iv), (.ref b201), (.ref b207), (.ref b207)]))
    obtain ⟨_, _, ⟨T209, L209, k209, n209⟩, -, X209, ⟨Lc209, hQ209, l209, y209, z209⟩, st209⟩ := X207.specialBack hx (y := (⟨"com/example/lambdaloom/lambdaloom/model/Verdict", "<init>", "(Ljava/lang/String;I)V"⟩ : MethodName)) rfl hown (mvT hZ (w_25 hw)) (mvT hZ (w_26 hw)) (mvT hZ (w_27 hw)) (by decide) (backOf (W := 1) (rm_vR l Z a0 hw [] b207 b201 iv h207 n0 Z207 q207 A207 F207_35 F207_37) hZ (w_27 hw) (w_24 hw) (by decide) (by decide)) (g := (mkF m 95 #[.val (.int iv), .val (.int fv), .val (.int p0), .val (.int p1), .val (.ref b201), .val (.ref b204), .unset, .unset, .unset, .unset, .unset, .unset, .unset] [(.int iv), (.ref b201), (.ref b207), (.ref b207)])) rfl (by rw [hml]; rfl) (Steps.refl _) (a := b207) (argsL := [(.ref b201), (.int iv)]) (rest := [(.ref b207)]) (lenOf pd_1 rfl) rfl (by show 2 * 0 + _ ≤ _; exact Nat.le_of_eq rfl) (hb hby at_95) (fun _ _ => ⟨rfl, e207, (by decide : 8 + 0 ≤ _), (by decide : 16 + 0 ≤ _)⟩)
    dsimp only [Pt.U, Pt.locs, Pt.cells, Pt.slots] at X209 l209 y209 z209 st209 hQ209
    subst l209 y209 z209
    generalize e209 : T209.heap = h209 at hQ209
    obtain ⟨rfl, N209q, K209q, F208⟩ := hQ209
    have N209 := Fr.app N206 N209q
    refine own_go (fun t k => st209.trans k) ?_
    have C209 := C207.trans (CHr.keep K209q (allS (Safe.ext E207 C206.1 Sf207) all0) C207.1)
    have Z209 : n0 ≤ h209.size := (Nat.le_trans Z207 K209q.1)
    show own_Go _ _ _ _ (T209.setTop (mkF m 98 #[.val (.int iv), .val (.int fv), .val (.int p0), .val (.int p1), .val (.ref b201), .val (.ref b204), .unset, .unset, .unset, .unset, .unset, .unset, .unset] [(.ref b207)]))
    refine own_go (fun t k => XS.astore X209.here hx rfl (hb hby at_98) rfl rfl (l' := #[.val (.int iv), .val (.int fv), .val (.int p0), .val (.int p1), .val (.ref b201), .val (.ref b204), .val (.ref b207), .unset, .unset, .unset, .unset, .unset, .unset]) rfl k) ?_
    show own_Go _ _ _ _ (T209.setTop (mkF m 100 #[.val (.int iv), .val (.int fv), .val (.int p0), .val (.int p1), .val (.ref b201), .val (.ref b204), .val (.ref b207), .unset, .unset, .unset, .unset, .unset, .unset] []))
    refine own_go (fun t k => XS.iloadN X209.here hx rfl (hb hby at_100) rfl k) ?_
    show own_Go _ _ _ _ (T209.setTop (mkF m 101 #[.val (.int iv), .val (.int fv), .val (.int p0), .val (.int p1), .val (.ref b201), .val (.ref b204), .val (.ref b207), .unset, .unset, .unset, .unset, .unset, .unset] [(.int iv)]))
    obtain ⟨_, _, ⟨T210, L210, k210, n210⟩, -, X210, ⟨Lc210, hQ210, l210, y210, z210⟩, st210⟩ := Jvm.LawKit.callS X209 hx (y := (⟨"com/example/lambdaloom/lambdaloom/model/Verdict", "valid", "(I)Lcom/example/lambdaloom/lambdaloom/model/Verdict;"⟩ : MethodName)) hown (mvT hZ (w_38 hw)) (mvT hZ (w_39 hw)) (mvT hZ (w_24 hw)) (mvT hZ (w_40 hw)) (by decide) (backOf (W := 0) (rm_val l Z a0 hw [] iv h209 n0 Z209 ) hZ (w_40 hw) (w_24 hw) (by decide) (by decide)) (g := (mkF m 101 #[.val (.int iv), .val (.int fv), .val (.int p0), .val (.int p1), .val (.ref b201), .val (.ref b204), .val (.ref b207), .unset, .unset, .unset, .unset, .unset, .unset] [(.int iv)])) rfl (by rw [hml]; rfl) (argsL := [(.int iv)]) (rest := []) (lenOf pd_10 rfl) rfl (by show 2 * 0 + _ ≤ _; exact Nat.le_of_eq rfl) (hb hby at_101) (fun _ _ => ⟨rfl, e209, (by decide : 8 + 1 ≤ _), (by decide : 16 + 2 ≤ _)⟩)
    dsimp only [Pt.U, Pt.locs, Pt.cells, Pt.slots] at X210 l210 y210 z210 st210 hQ210
    subst l210 y210 z210
    generalize e210 : T210.heap = h210 at hQ210
    obtain ⟨ub210, rfl, N210q, K210q, lo210, q210, A210, F210⟩ := hQ210
    have N210 := Fr.app N209 N210q
    refine own_go st210 ?_
    have C210 := C209.trans (CHr.keep K210q all0 C209.1)
    have Z210 : n0 ≤ h210.size := (Nat.le_trans Z209 K210q.1)
    have hi210 := A210.lt
    show own_Go _ _ _ _ (T210.setTop (mkF m 104 #[.val (.int iv), .val (.int fv), .val (.int p0), .val (.int p1), .val (.ref b201), .val (.ref b204), .val (.ref b207), .unset, .unset, .unset, .unset, .unset, .unset] [(.ref ub210)]))
    refine own_go (fun t k => XS.astore X210.here hx rfl (hb hby at_104) rfl rfl (l' := #[.val (.int iv), .val (.int fv), .val (.int p0), .val (.int p1), .val (.ref b201), .val (.ref b204), .val (.ref b207), .val (.ref ub210), .unset, .unset, .unset, .unset, .unset]) rfl k) ?_
    show own_Go _ _ _ _ (T210.setTop (mkF m 106 #[.val (.int iv), .val (.int fv), .val (.int p0), .val (.int p1), .val (.ref b201), .val (.ref b204), .val (.ref b207), .val (.ref ub210), .unset, .unset, .unset, .unset, .unset] []))
    refine own_go (fun t k => XS.aload X210.here hx rfl (hb hby at_106) rfl rfl k) ?_
    show own_Go _ _ _ _ (T210.setTop (mkF m 108 #[.val (.int iv), .val (.int fv), .val (.int p0), .val (.int p1), .val (.ref b201), .val (.ref b204), .val (.ref b207), .val (.ref ub210), .unset, .unset, .unset, .unset, .unset] [(.ref b201)]))
    obtain ⟨_, _, ⟨T211, L211, k211, n211⟩, -, X211, ⟨Lc211, hQ211, l211, y211, z211⟩, st211⟩ := Jvm.LawKit.callS X210 hx (y := (⟨"com/example/lambdaloom/lambdaloom/model/Verdict", "invalid", "(Ljava/lang/String;)Lcom/example/lambdaloom/lambdaloom/model/Verdict;"⟩ : MethodName)) hown (mvT hZ (w_43 hw)) (mvT hZ (w_44 hw)) (mvT hZ (w_24 hw)) (mvT hZ (w_45 hw)) (by decide) (backOf (W := 0) (rm_inv l Z a0 hw [] b201 h210 n0 Z210 ) hZ (w_45 hw) (w_24 hw) (by decide) (by decide)) (g := (mkF m 108 #[.val (.int iv), .val (.int fv), .val (.int p0), .val (.int p1), .val (.ref b201), .val (.ref b204), .val (.ref b207), .val (.ref ub210), .unset, .unset, .unset, .unset, .unset] [(.ref b201)])) rfl (by rw [hml]; rfl) (argsL := [(.ref b201)]) (rest := []) (lenOf pd_11 rfl) rfl (by show 2 * 0 + _ ≤ _; exact Nat.le_of_eq rfl) (hb hby at_108) (fun _ _ => ⟨rfl, e210, (by decide : 9 + 1 ≤ _), (by decide : 18 + 2 ≤ _)⟩)
    dsimp only [Pt.U, Pt.locs, Pt.cells, Pt.slots] at X211 l211 y211 z211 st211 hQ211
    subst l211 y211 z211
    generalize e211 : T211.heap = h211 at hQ211
    obtain ⟨ub211, rfl, N211q, K211q, lo211, q211, A211, F211⟩ := hQ211
    have N211 := Fr.app N210 N211q
    refine own_go st211 ?_
    have C211 := C210.trans (CHr.keep K211q all0 C210.1)
    have Z211 : n0 ≤ h211.size := (Nat.le_trans Z210 K211q.1)
    have hi211 := A211.lt
    show own_Go _ _ _ _ (T211.setTop (mkF m 111 #[.val (.int iv), .val (.int fv), .val (.int p0), .val (.int p1), .val (.ref b201), .val (.ref b204), .val (.ref b207), .val (.ref ub210), .unset, .unset, .unset, .unset, .unset] [(.ref ub211)]))
    refine own_go (fun t k => XS.astore X211.here hx rfl (hb hby at_111) rfl rfl (l' := #[.val (.int iv), .val (.int fv), .val (.int p0), .val (.int p1), .val (.ref b201), .val (.ref b204), .val (.ref b207), .val (.ref ub210), .val (.ref ub211), .unset, .unset, .unset, .unset]) rfl k) ?_
    show own_Go _ _ _ _ (T211.setTop (mkF m 113 #[.val (.int iv), .val (.int fv), .val (.int p0), .val (.int p1), .val (.ref b201), .val (.ref b204), .val (.ref b207), .val (.ref ub210), .val (.ref ub211), .unset, .unset, .unset, .unset] []))
    refine own_go (fun t k => XS.aload X211.here hx rfl (hb hby at_113) rfl rfl k) ?_
    have f212 := ((((F205.ext E207).keep K209q (ninS (Nat.ne_of_lt (Nat.lt_of_lt_of_le hi204 (Nat.le_trans K206q.1 lo207))) nin0)).keep K210q nin0).keep K211q nin0)
    show own_Go _ _ _ _ (T211.setTop (mkF m 115 #[.val (.int iv), .val (.int fv), .val (.int p0), .val (.int p1), .val (.ref b201), .val (.ref b204), .val (.ref b207), .val (.ref ub210), .val (.ref ub211), .unset, .unset, .unset, .unset] [(.ref b204)]))
    have f214 := (((((A204.keep K206q).ext E207).keep K209q).keep K210q).keep K211q)
    obtain ⟨cq213, kq213, q213a, q213b, q213c⟩ := isOf hZ e211 f214
    obtain ⟨_, _, ⟨T213, L213, k213, n213⟩, -, X213, ⟨Lc213, hQ213, l213, y213, z213⟩, st213⟩ := X211.virtualBack hx (y := (⟨"com/example/lambdaloom/lambdaloom/model/Verdict", "isValid", "()Z"⟩ : MethodName)) (z := (⟨"com/example/lambdaloom/lambdaloom/model/Verdict", "isValid", "()Z"⟩ : MethodName)) hown (mvT hZ (w_46 hw)) (mvT hZ (w_47 hw)) (notFace_of_selects (args := #[]) (mvT hZ (w_49 hw))) (mvT hZ (w_49 hw)) (mvT hZ (w_48 hw)) (by decide) (backOf (W := 0) (rm_ivN l Z a0 hw [] b204 h211 n0 Z211 f212) hZ (w_50 hw) (w_24 hw) (by decide) (by decide)) q213a q213c (g := (mkF m 115 #[.val (.int iv), .val (.int fv), .val (.int p0), .val (.int p1), .val (.ref b201), .val (.ref b204), .val (.ref b207), .val (.ref ub210), .val (.ref ub211), .unset, .unset, .unset, .unset] [(.ref b204)])) rfl (by rw [hml]; rfl) (Steps.refl _) (argsL := []) (rest := []) (lenOf pd_12 rfl) rfl (by show 2 * 0 + _ ≤ _; exact Nat.le_of_eq rfl) (hb hby at_115) (fun _ _ => ⟨rfl, e211, (by decide : 10 + 0 ≤ _), (by decide : 20 + 0 ≤ _)⟩)
    dsimp only [Pt.U, Pt.locs, Pt.cells, Pt.slots] at X213 l213 y213 z213 st213 hQ213
    subst l213 y213 z213
    obtain ⟨rfl, N213q, e213⟩ := hQ213
    have N213 := Fr.app N211 N213q
    refine own_go (fun t k => st213.trans k) ?_
    show own_Go _ _ _ _ (T213.setTop (mkF m 118 #[.val (.int iv), .val (.int fv), .val (.int p0), .val (.int p1), .val (.ref b201), .val (.ref b204), .val (.ref b207), .val (.ref ub210), .val (.ref ub211), .unset, .unset, .unset, .unset] [(.int (1 : Int32))]))
    refine own_go (fun t k => XS.istore X213.here hx rfl (hb hby at_118) rfl (l' := #[.val (.int iv), .val (.int fv), .val (.int p0), .val (.int p1), .val (.ref b201), .val (.ref b204), .val (.ref b207), .val (.ref ub210), .val (.ref ub211), .val (.int (1 : Int32)), .unset, .unset, .unset]) rfl k) ?_
    show own_Go _ _ _ _ (T213.setTop (mkF m 120 #[.val (.int iv), .val (.int fv), .val (.int p0), .val (.int p1), .val (.ref b201), .val (.ref b204), .val (.ref b207), .val (.ref ub210), .val (.ref ub211), .val (.int (1 : Int32)), .unset, .unset, .unset] []))
    refine own_go (fun t k => XS.aload X213.here hx rfl (hb hby at_120) rfl rfl k) ?_
    show own_Go _ _ _ _ (T213.setTop (mkF m 122 #[.val (.int iv), .val (.int fv), .val (.int p0), .val (.int p1), .val (.ref b201), .val (.ref b204), .val (.ref b207), .val (.ref ub210), .val (.ref ub211), .val (.int (1 : Int32)), .unset, .unset, .unset] [(.ref b207)]))
    obtain ⟨cq215, kq215, q215a, q215b, q215c⟩ := isOf hZ e213 (((A207.keep K209q).keep K210q).keep K211q)
    obtain ⟨_, _, ⟨T215, L215, k215, n215⟩, -, X215, ⟨Lc215, hQ215, l215, y215, z215⟩, st215⟩ := X213.virtualBack hx (y := (⟨"com/example/lambdaloom/lambdaloom/model/Verdict", "isValid", "()Z"⟩ : MethodName)) (z := (⟨"com/example/lambdaloom/lambdaloom/model/Verdict", "isValid", "()Z"⟩ : MethodName)) hown (mvT hZ (w_46 hw)) (mvT hZ (w_47 hw)) (notFace_of_selects (args := #[]) (mvT hZ (w_49 hw))) (mvT hZ (w_49 hw)) (mvT hZ (w_48 hw)) (by decide) (backOf (W := 0) (rm_ivR l Z a0 hw [] b207 b201 h211 n0 Z211 ((F208.keep K210q nin0).keep K211q nin0)) hZ (w_50 hw) (w_24 hw) (by decide) (by decide)) q215a q215c (g := (mkF m 122 #[.val (.int iv), .val (.int fv), .val (.int p0), .val (.int p1), .val (.ref b201), .val (.ref b204), .val (.ref b207), .val (.ref ub210), .val (.ref ub211), .val (.int (1 : Int32)), .unset, .unset, .unset] [(.ref b207)])) rfl (by rw [hml]; rfl) (Steps.refl _) (argsL := []) (rest := []) (lenOf pd_12 rfl) rfl (by show 2 * 0 + _ ≤ _; exact Nat.le_of_eq rfl) (hb hby at_122) (fun _ _ => ⟨rfl, e213, (by decide : 10 + 0 ≤ _), (by decide : 20 + 0 ≤ _)⟩)
    dsimp only [Pt.U, Pt.locs, Pt.cells, Pt.slots] at X215 l215 y215 z215 st215 hQ215
    subst l215 y215 z215
    obtain ⟨rfl, N215q, e215⟩ := hQ215
    have N215 := Fr.app N213 N215q
    refine own_go (fun t k => st215.trans k) ?_
    show own_Go _ _ _ _ (T215.setTop (mkF m 125 #[.val (.int iv), .val (.int fv), .val (.int p0), .val (.int p1), .val (.ref b201), .val (.ref b204), .val (.ref b207), .val (.ref ub210), .val (.ref ub211), .val (.int (1 : Int32)), .unset, .unset, .unset] [(.int (0 : Int32))]))
    refine own_go (fun t k => XS.ifNo X215.here hx rfl (hb hby at_125) rfl ((if0 _ _).trans (teq (by decide : (0 : Int32) = (0 : Int32))).2) k) ?_
    show own_Go _ _ _ _ (T215.setTop (mkF m 128 #[.val (.int iv), .val (.int fv), .val (.int p0), .val (.int p1), .val (.ref b201), .val (.ref b204), .val (.ref b207), .val (.ref ub210), .val (.ref ub211), .val (.int (1 : Int32)), .unset, .unset, .unset] []))
    refine own_go (fun t k => XS.iconst X215.here hx rfl (hb hby at_128) k) ?_
    show own_Go _ _ _ _ (T215.setTop (mkF m 129 #[.val (.int iv), .val (.int fv), .val (.int p0), .val (.int p1), .val (.ref b201), .val (.ref b204), .val (.ref b207), .val (.ref ub210), .val (.ref ub211), .val (.int (1 : Int32)), .unset, .unset, .unset] [(.int (1 : Int32))]))
    refine own_go (fun t k => XS.goto X215.here hx rfl (pc0 := 129) (pc' := 133) rfl (hb hby at_129) (by decide) (by decide) k) ?_
    show own_Go _ _ _ _ (T215.setTop (mkF m 133 #[.val (.int iv), .val (.int fv), .val (.int p0), .val (.int p1), .val (.ref b201), .val (.ref b204), .val (.ref b207), .val (.ref ub210), .val (.ref ub211), .val (.int (1 : Int32)), .unset, .unset, .unset] [(.int (1 : Int32))]))
    refine own_go (fun t k => XS.istore X215.here hx rfl (hb hby at_133) rfl (l' := #[.val (.int iv), .val (.int fv), .val (.int p0), .val (.int p1), .val (.ref b201), .val (.ref b204), .val (.ref b207), .val (.ref ub210), .val (.ref ub211), .val (.int (1 : Int32)), .val (.int (1 : Int32)), .unset, .unset]) rfl k) ?_
    show own_Go _ _ _ _ (T215.setTop (mkF m 135 #[.val (.int iv), .val (.int fv), .val (.int p0), .val (.int p1), .val (.ref b201), .val (.ref b204), .val (.ref b207), .val (.ref ub210), .val (.ref ub211), .val (.int (1 : Int32)), .val (.int (1 : Int32)), .unset, .unset] []))
    refine own_go (fun t k => XS.aload X215.here hx rfl (hb hby at_135) rfl rfl k) ?_
    show own_Go _ _ _ _ (T215.setTop (mkF m 137 #[.val (.int iv), .val (.int fv), .val (.int p0), .val (.int p1), .val (.ref b201), .val (.ref b204), .val (.ref b207), .val (.ref ub210), .val (.ref ub211), .val (.int (1 : Int32)), .val (.int (1 : Int32)), .unset, .unset] [(.ref ub210)]))
    obtain ⟨cq216, kq216, q216a, q216b, q216c⟩ := isOf hZ e215 (A210.keep K211q)
    obtain ⟨_, _, ⟨T216, L216, k216, n216⟩, -, X216, ⟨Lc216, hQ216, l216, y216, z216⟩, st216⟩ := X215.virtualBack hx (y := (⟨"com/example/lambdaloom/lambdaloom/model/Verdict", "isValid", "()Z"⟩ : MethodName)) (z := (⟨"com/example/lambdaloom/lambdaloom/model/Verdict", "isValid", "()Z"⟩ : MethodName)) hown (mvT hZ (w_46 hw)) (mvT hZ (w_47 hw)) (notFace_of_selects (args := #[]) (mvT hZ (w_49 hw))) (mvT hZ (w_49 hw)) (mvT hZ (w_48 hw)) (by decide) (backOf (W := 0) (rm_ivN l Z a0 hw [] ub210 h211 n0 Z211 (F210.keep K211q nin0)) hZ (w_50 hw) (w_24 hw) (by decide) (by decide)) q216a q216c (g := (mkF m 137 #[.val (.int iv), .val (.int fv), .val (.int p0), .val (.int p1), .val (.ref b201), .val (.ref b204), .val (.ref b207), .val (.ref ub210), .val (.ref ub211), .val (.int (1 : Int32)), .val (.int (1 : Int32)), .unset, .unset] [(.ref ub210)])) rfl (by rw [hml]; rfl) (Steps.refl _) (argsL := []) (rest := []) (lenOf pd_12 rfl) rfl (by show 2 * 0 + _ ≤ _; exact Nat.le_of_eq rfl) (hb hby at_137) (fun _ _ => ⟨rfl, e215, (by decide : 10 + 0 ≤ _), (by decide : 20 + 0 ≤ _)⟩)
    dsimp only [Pt.U, Pt.locs, Pt.cells, Pt.slots] at X216 l216 y216 z216 st216 hQ216
    subst l216 y216 z216
    obtain ⟨rfl, N216q, e216⟩ := hQ216
    have N216 := Fr.app N215 N216q
    refine own_go (fun t k => st216.trans k) ?_
    show own_Go _ _ _ _ (T216.setTop (mkF m 140 #[.val (.int iv), .val (.int fv), .val (.int p0), .val (.int p1), .val (.ref b201), .val (.ref b204), .val (.ref b207), .val (.ref ub210), .val (.ref ub211), .val (.int (1 : Int32)), .val (.int (1 : Int32)), .unset, .unset] [(.int (1 : Int32))]))
    refine own_go (fun t k => XS.istore X216.here hx rfl (hb hby at_140) rfl (l' := #[.val (.int iv), .val (.int fv), .val (.int p0), .val (.int p1), .val (.ref b201), .val (.ref b204), .val (.ref b207), .val (.ref ub210), .val (.ref ub211), .val (.int (1 : Int32)), .val (.int (1 : Int32)), .val (.int (1 : Int32)), .unset]) rfl k) ?_
    show own_Go _ _ _ _ (T216.setTop (mkF m 142 #[.val (.int iv), .val (.int fv), .val (.int p0), .val (.int p1), .val (.ref b201), .val (.ref b204), .val (.ref b207), .val (.ref ub210), .val (.ref ub211), .val (.int (1 : Int32)), .val (.int (1 : Int32)), .val (.int (1 : Int32)), .unset] []))
    refine own_go (fun t k => XS.aload X216.here hx rfl (hb hby at_142) rfl rfl k) ?_
    show own_Go _ _ _ _ (T216.setTop (mkF m 144 #[.val (.int iv), .val (.int fv), .val (.int p0), .val (.int p1), .val (.ref b201), .val (.ref b204), .val (.ref b207), .val (.ref ub210), .val (.ref ub211), .val (.int (1 : Int32)), .val (.int (1 : Int32)), .val (.int (1 : Int32)), .unset] [(.ref ub211)]))
    obtain ⟨cq217, kq217, q217a, q217b, q217c⟩ := isOf hZ e216 A211
    obtain ⟨_, _, ⟨T217, L217, k217, n217⟩, -, X217, ⟨Lc217, hQ217, l217, y217, z217⟩, st217⟩ := X216.virtualBack hx (y := (⟨"com/example/lambdaloom/lambdaloom/model/Verdict", "isValid", "()Z"⟩ : MethodName)) (z := (⟨"com/example/lambdaloom/lambdaloom/model/Verdict", "isValid", "()Z"⟩ : MethodName)) hown (mvT hZ (w_46 hw)) (mvT hZ (w_47 hw)) (notFace_of_selects (args := #[]) (mvT hZ (w_49 hw))) (mvT hZ (w_49 hw)) (mvT hZ (w_48 hw)) (by decide) (backOf (W := 0) (rm_ivR l Z a0 hw [] ub211 b201 h211 n0 Z211 F211) hZ (w_50 hw) (w_24 hw) (by decide) (by decide)) q217a q217c (g := (mkF m 144 #[.val (.int iv), .val (.int fv), .val (.int p0), .val (.int p1), .val (.ref b201), .val (.ref b204), .val (.ref b207), .val (.ref ub210), .val (.ref ub211), .val (.int (1 : Int32)), .val (.int (1 : Int32)), .val (.int (1 : Int32)), .unset] [(.ref ub211)])) rfl (by rw [hml]; rfl) (Steps.refl _) (argsL := []) (rest := []) (lenOf pd_12 rfl) rfl (by show 2 * 0 + _ ≤ _; exact Nat.le_of_eq rfl) (hb hby at_144) (fun _ _ => ⟨rfl, e216, (by decide : 10 + 0 ≤ _), (by decide : 20 + 0 ≤ _)⟩)
    dsimp only [Pt.U, Pt.locs, Pt.cells, Pt.slots] at X217 l217 y217 z217 st217 hQ217
    subst l217 y217 z217
    obtain ⟨rfl, N217q, e217⟩ := hQ217
    have N217 := Fr.app N216 N217q
    refine own_go (fun t k => st217.trans k) ?_
    show own_Go _ _ _ _ (T217.setTop (mkF m 147 #[.val (.int iv), .val (.int fv), .val (.int p0), .val (.int p1), .val (.ref b201), .val (.ref b204), .val (.ref b207), .val (.ref ub210), .val (.ref ub211), .val (.int (1 : Int32)), .val (.int (1 : Int32)), .val (.int (1 : Int32)), .unset] [(.int (0 : Int32))]))
    refine own_go (fun t k => XS.ifNo X217.here hx rfl (hb hby at_147) rfl ((if0 _ _).trans (teq (by decide : (0 : Int32) = (0 : Int32))).2) k) ?_
    show own_Go _ _ _ _ (T217.setTop (mkF m 150 #[.val (.int iv), .val (.int fv), .val (.int p0), .val (.int p1), .val (.ref b201), .val (.ref b204), .val (.ref b207), .val (.ref ub210), .val (.ref ub211), .val (.int (1 : Int32)), .val (.int (1 : Int32)), .val (.int (1 : Int32)), .unset] []))
    refine own_go (fun t k => XS.iconst X217.here hx rfl (hb hby at_150) k) ?_
    show own_Go _ _ _ _ (T217.setTop (mkF m 151 #[.val (.int iv), .val (.int fv), .val (.int p0), .val (.int p1), .val (.ref b201), .val (.ref b204), .val (.ref b207), .val (.ref ub210), .val (.ref ub211), .val (.int (1 : Int32)), .val (.int (1 : Int32)), .val (.int (1 : Int32)), .unset] [(.int (1 : Int32))]))
    refine own_go (fun t k => XS.goto X217.here hx rfl (pc0 := 151) (pc' := 155) rfl (hb hby at_151) (by decide) (by decide) k) ?_
    show own_Go _ _ _ _ (T217.setTop (mkF m 155 #[.val (.int iv), .val (.int fv), .val (.int p0), .val (.int p1), .val (.ref b201), .val (.ref b204), .val (.ref b207), .val (.ref ub210), .val (.ref ub211), .val (.int (1 : Int32)), .val (.int (1 : Int32)), .val (.int (1 : Int32)), .unset] [(.int (1 : Int32))]))
    refine own_go (fun t k => XS.istore X217.here hx rfl (hb hby at_155) rfl (l' := #[.val (.int iv), .val (.int fv), .val (.int p0), .val (.int p1), .val (.ref b201), .val (.ref b204), .val (.ref b207), .val (.ref ub210), .val (.ref ub211), .val (.int (1 : Int32)), .val (.int (1 : Int32)), .val (.int (1 : Int32)), .val (.int (1 : Int32))]) rfl k) ?_
    show own_Go _ _ _ _ (T217.setTop (mkF m 157 #[.val (.int iv), .val (.int fv), .val (.int p0), .val (.int p1), .val (.ref b201), .val (.ref b204), .val (.ref b207), .val (.ref ub210), .val (.ref ub211), .val (.int (1 : Int32)), .val (.int (1 : Int32)), .val (.int (1 : Int32)), .val (.int (1 : Int32))] []))
    refine own_go (fun t k => XS.iload X217.here hx rfl (hb hby at_157) rfl k) ?_
    show own_Go _ _ _ _ (T217.setTop (mkF m 159 #[.val (.int iv), .val (.int fv), .val (.int p0), .val (.int p1), .val (.ref b201), .val (.ref b204), .val (.ref b207), .val (.ref ub210), .val (.ref ub211), .val (.int (1 : Int32)), .val (.int (1 : Int32)), .val (.int (1 : Int32)), .val (.int (1 : Int32))] [(.int (1 : Int32))]))
    refine own_go (fun t k => XS.ifNo X217.here hx rfl (hb hby at_159) rfl ((if0 _ _).trans (feq (by decide : ¬ ((1 : Int32) = (0 : Int32)))).1) k) ?_
    show own_Go _ _ _ _ (T217.setTop (mkF m 162 #[.val (.int iv), .val (.int fv), .val (.int p0), .val (.int p1), .val (.ref b201), .val (.ref b204), .val (.ref b207), .val (.ref ub210), .val (.ref ub211), .val (.int (1 : Int32)), .val (.int (1 : Int32)), .val (.int (1 : Int32)), .val (.int (1 : Int32))] []))
    refine own_go (fun t k => XS.iload X217.here hx rfl (hb hby at_162) rfl k) ?_
    show own_Go _ _ _ _ (T217.setTop (mkF m 164 #[.val (.int iv), .val (.int fv), .val (.int p0), .val (.int p1), .val (.ref b201), .val (.ref b204), .val (.ref b207), .val (.ref ub210), .val (.ref ub211), .val (.int (1 : Int32)), .val (.int (1 : Int32)), .val (.int (1 : Int32)), .val (.int (1 : Int32))] [(.int (1 : Int32))]))
    refine own_go (fun t k => XS.ifNo X217.here hx rfl (hb hby at_164) rfl ((if0 _ _).trans (feq (by decide : ¬ ((1 : Int32) = (0 : Int32)))).1) k) ?_
    show own_Go _ _ _ _ (T217.setTop (mkF m 167 #[.val (.int iv), .val (.int fv), .val (.int p0), .val (.int p1), .val (.ref b201), .val (.ref b204), .val (.ref b207), .val (.ref ub210), .val (.ref ub211), .val (.int (1 : Int32)), .val (.int (1 : Int32)), .val (.int (1 : Int32)), .val (.int (1 : Int32))] []))
    refine own_go (fun t k => XS.iload X217.here hx rfl (hb hby at_167) rfl k) ?_
    show own_Go _ _ _ _ (T217.setTop (mkF m 169 #[.val (.int iv), .val (.int fv), .val (.int p0), .val (.int p1), .val (.ref b201), .val (.ref b204), .val (.ref b207), .val (.ref ub210), .val (.ref ub211), .val (.int (1 : Int32)), .val (.int (1 : Int32)), .val (.int (1 : Int32)), .val (.int (1 : Int32))] [(.int (1 : Int32))]))
    refine own_go (fun t k => XS.ifNo X217.here hx rfl (hb hby at_169) rfl ((if0 _ _).trans (feq (by decide : ¬ ((1 : Int32) = (0 : Int32)))).1) k) ?_
    show own_Go _ _ _ _ (T217.setTop (mkF m 172 #[.val (.int iv), .val (.int fv), .val (.int p0), .val (.int p1), .val (.ref b201), .val (.ref b204), .val (.ref b207), .val (.ref ub210), .val (.ref ub211), .val (.int (1 : Int32)), .val (.int (1 : Int32)), .val (.int (1 : Int32)), .val (.int (1 : Int32))] []))
    refine own_go (fun t k => XS.iload X217.here hx rfl (hb hby at_172) rfl k) ?_
    show own_Go _ _ _ _ (T217.setTop (mkF m 174 #[.val (.int iv), .val (.int fv), .val (.int p0), .val (.int p1), .val (.ref b201), .val (.ref b204), .val (.ref b207), .val (.ref ub210), .val (.ref ub211), .val (.int (1 : Int32)), .val (.int (1 : Int32)), .val (.int (1 : Int32)), .val (.int (1 : Int32))] [(.int (1 : Int32))]))
    refine own_go (fun t k => XS.ifNo X217.here hx rfl (hb hby at_174) rfl ((if0 _ _).trans (feq (by decide : ¬ ((1 : Int32) = (0 : Int32)))).1) k) ?_
    show own_Go _ _ _ _ (T217.setTop (mkF m 177 #[.val (.int iv), .val (.int fv), .val (.int p0), .val (.int p1), .val (.ref b201), .val (.ref b204), .val (.ref b207), .val (.ref ub210), .val (.ref ub211), .val (.int (1 : Int32)), .val (.int (1 : Int32)), .val (.int (1 : Int32)), .val (.int (1 : Int32))] []))
    refine own_go (fun t k => XS.iconst X217.here hx rfl (hb hby at_177) k) ?_
    show own_Go _ _ _ _ (T217.setTop (mkF m 178 #[.val (.int iv), .val (.int fv), .val (.int p0), .val (.int p1), .val (.ref b201), .val (.ref b204), .val (.ref b207), .val (.ref ub210), .val (.ref ub211), .val (.int (1 : Int32)), .val (.int (1 : Int32)), .val (.int (1 : Int32)), .val (.int (1 : Int32))] [(.int (1 : Int32))]))
    refine own_go (fun t k => XS.goto X217.here hx rfl (pc0 := 178) (pc' := 182) rfl (hb hby at_178) (by decide) (by decide) k) ?_
    show own_Go _ _ _ _ (T217.setTop (mkF m 182 #[.val (.int iv), .val (.int fv), .val (.int p0), .val (.int p1), .val (.ref b201), .val (.ref b204), .val (.ref b207), .val (.ref ub210), .val (.ref ub211), .val (.int (1 : Int32)), .val (.int (1 : Int32)), .val (.int (1 : Int32)), .val (.int (1 : Int32))] [(.int (1 : Int32))]))
    refine own_retNH X217 hx hS (Nat.le_trans (Nat.le_trans hk (Nat.le_trans (Nat.le_trans (Nat.le_trans (Nat.le_trans (Nat.le_trans E204.1 K206q.1) E207.1) K209q.1) K210q.1) K211q.1)) (Nat.le_of_eq (congrArg Array.size e217.symm))) (by rw [hh, e217]; exact C211.trans (CHv.at X217 hZ (own_EW hw) C211.1)) hlk (t := .boolean) hret (by simp) (hb hby at_182) ?_ (by decide) (by decide)
    rw [e217]
    exact ⟨rfl, N217⟩
set_option maxRecDepth 65536 in
set_option maxHeartbeats 40000000 in
theorem comes_1 {Post : Tables → Env → Array Value → State → Outcome → State → Prop} (hpost : ∀ tb e args s v u, (limb_1_1.after args s (.returned v) u = true ∧ limb_1_2.after args s (.returned v) u = true ∧ True) → ReturnedEndW s (.returned v) u (Jvm.fieldLocs frame_1_writes args s ++ Jvm.arrayLocs frame_1_arrays args s ++ Jvm.staticLocs frame_1_statics s) 24 1152 → Post tb e args s (.returned v) u) :
    ArmFor flags0 classFile x code maxLocals ret World_1 tables_1 room_1 Calls_1 rest_1 Pre_1 Post := by
  intro l hfl _ _ p e ha hc hk s m args below hf hA hF happ hP
  obtain ⟨hcalls, hrest, hpre⟩ := hP
  obtain ⟨-, -, -, hnamed, -, -, -, hat⟩ := (Spec.applies_iff hf).mp happ
  obtain ⟨hg, hn⟩ := and_e (Cond.before_iff.mp (show (Jvm.Cond.and given_1 narrow_1).before args s = true from hpre))
  obtain ⟨g1, g2⟩ := and_e hg
  obtain ⟨g3, g4⟩ := and_e g2
  obtain ⟨g5, g6⟩ := and_e g4
  obtain ⟨g7, g8⟩ := and_e g6
  obtain ⟨w0, w1, w2, w3, rfl⟩ : ∃ w0 w1 w2 w3 : Value, args = #[w0, w1, w2, w3] := by
    have hs : args.size = 4 := by simpa [Cond.value, given_1] using g1
    obtain ⟨L⟩ := args
    match L, hs with
    | [w0, w1, w2, w3], _ => exact ⟨w0, w1, w2, w3, rfl⟩
  have hw := fun d (hd : d ∈ tables_1) => atoms_spec (ws := Jvm.Cond.code x code maxLocals ret :: tables_1) hat d (List.mem_cons_of_mem _ hd)
  have hfit : Fit s := fun {y c} hc i hi => by
    obtain ⟨ha, rfl⟩ := Array.getElem?_eq_some_iff.mp hc
    have q := List.all_eq_true.mp ((Array.all_eq_true_iff_forall_mem.mp hF) _ (Array.getElem_mem ha)) i (List.mem_range.mpr hi)
    simpa [Array.getElem?_eq_getElem hi] using q
  obtain ⟨hsets, hown0⟩ := atoms_of _ (rest_1_c_eq ▸ (show rest_1_c.before _ s = true from hrest))
  have hr0 := Cond.before_iff.mp hown0
  obtain ⟨i0, ei0⟩ := is_v g3
  obtain rfl : w0 = (.int i0) := Option.some.inj ei0
  obtain ⟨i1, ei1⟩ := is_v g5
  obtain rfl : w1 = (.int i1) := Option.some.inj ei1
  obtain ⟨i2, ei2⟩ := is_v g7
  obtain rfl : w2 = (.int i2) := Option.some.inj ei2
  obtain ⟨i3, ei3⟩ := is_v g8
  obtain rfl : w3 = (.int i3) := Option.some.inj ei3
  obtain ⟨zv, ezv⟩ := is_v (Cond.before_iff.mp (hsets _ (List.mem_of_getElem? (i := 1) rfl)))
  have hzv : ¬ zv = (0 : Int32) := gotF (Cond.eq_ints ezv (Term.int_eval (0))) (not_v (Cond.before_iff.mp (hsets _ (List.mem_of_getElem? (i := 2) rfl))))
  have S0 := Sta.start ezv (Or.inl (hsets _ (List.mem_of_getElem? (i := 0) rfl)))
  obtain ⟨gv, egv, rgv⟩ := isR_v (Cond.before_iff.mp (hsets _ (List.mem_of_getElem? (i := 8) rfl)))
  have G0 := Sta.start egv (Or.inl (hsets _ (List.mem_of_getElem? (i := 7) rfl)))
  have hH : CHv s consts_1 s.vm s.heap := CHv.start (own_EW hw) (own_held hcalls.1) (own_compact (zv := zv) ezv hzv) (w_15 hw) (w_1 hw)
  obtain ⟨n, o, h1, h2, h3, _, L, rfl, ⟨rfl, N⟩, -, hq⟩ := rm_law l s _ hw tables_1 i0 i1 i2 i3 zv s.heap s.heap.size (Nat.le_refl _) (Old.start s) hzv S0 p e ha hc hk s m _ below hf ((Spec.applies_iff_loose hf).mp happ).1 ⟨rfl, State.Warmed39.refl s, rfl, hH⟩ trivial
  refine ⟨n, _, h1, h2, h3, hpost _ _ _ _ _ _ ⟨Cond.after_iff.mpr rfl, Cond.after_iff.mpr (eq_i res_at (Term.int_eval (1)) rfl), trivial⟩ ⟨hq.1, hq.2.1, hq.2.2.1, (hq.2.2.2.sift fun y hy => Or.inr (N y hy)).mono (by decide) (by decide)⟩⟩
theorem main_1_1 : Claimed_1_1 := comes_1 fun _ _ _ _ _ _ h hF => ⟨h.1, hF⟩
theorem main_1_2 : Claimed_1_2 := comes_1 fun _ _ _ _ _ _ h hF => ⟨h.2.1, hF⟩
end Jvm.Pilot.@@N@@
namespace Jvm.Pilot.@@N@@
open Jvm Jvm.ClassFile Sem Op Lib Jvm.Free Jvm.Stand Jvm.Pilot.@@N@@.Jvm.D
/-! MADE BY PROGRAM (witnessworld.py) out of the Statement's table words and the real class files: 21 classes; the members and pool entries that the words name. The judged class is class 1, her method 1. -/
namespace start1
open Jvm.ClassFile
def u (s : String) : CpInfo := .utf8 (stringToUtf16 s)
/-- a pool by its gaps: so many unusable entries, then the entry; so many at the end -/
def gap : Nat → List CpInfo → List CpInfo
  | 0, r => r
  | n + 1, r => .unusable :: gap n r
def poolList (es : List (Nat × CpInfo)) (last : Nat) : List CpInfo := es.foldr (fun e r => gap e.1 (e.2 :: r)) (gap last [])
def pool (es : List (Nat × CpInfo)) (last : Nat) : Array CpInfo := ⟨poolList es last⟩
def fileOf (pool : Array CpInfo) (this : Nat) (attrs : Array Attribute := #[]) (ms : Array MethodInfo := #[]) (fl : Nat := 33) (sup : Nat := 0) (ifs : Array Nat := #[]) (fds : Array FieldInfo := #[]) : ClassFile where
  minorVersion := 0
  majorVersion := 65
  constantPool := pool
  accessFlags := fl
  thisClass := this
  superClass := sup
  interfaces := ifs
  fields := fds
  methods := ms
  attributes := attrs
def plain (name : String) (sup : Option ClassId) : Class where
  name := name
  kind := .ordinary
  loader := none
  accessFlags := 33
  super := sup
  interfaces := #[]
  cf := none
  fields := #[]
  methods := #[]
  instanceTypes := #[]
  staticTypes := #[]
  resolved := #[]
  callSites := []
  init := .initialized
  statics := none
  mirror := none

def pool0 : Array CpInfo := pool [(5, u "<init>"), (0, u "()V"), (1, .class_ 10), (1, u "java/lang/Object")] 113

def k0c0 : Code := { maxStack := 0, maxLocals := 1, code := object_method_1_code, exceptionTable := #[], attributes := #[] }
def k0m0 : Method := { name := "<init>", desc := "()V", sig := { parameters := [], returnType := none }, accessFlags := 1, code := some k0c0 }
/-- java/lang/Object -/
def k0 : Class := { plain "java/lang/Object" none with
  accessFlags := 33
  interfaces := #[]
  cf := some (fileOf pool0 8 #[] #[{ accessFlags := 1, nameIndex := 5, descriptorIndex := 6, attributes := #[] }] 33 0 #[] #[])
  fields := #[]
  methods := #[k0m0]
  instanceTypes := #[]
  staticTypes := #[]
  resolved := Array.replicate 124 none
  statics := none }

def pool1 : Array CpInfo := pool [(2, .class_ 4), (1, u "java/lang/Object"), (0, u "<init>"), (0, u "()V"), (0, .class_ 8), (0, u "java/lang/String"), (0, .methodref 7 10), (0, .nameAndType 5 11), (0, u "([C)V"), (0, .methodref 7 13), (0, .nameAndType 14 15), (0, u "valueOf"), (0, u "(C)Ljava/lang/String;"), (0, .class_ 17), (0, u "com/example/lambdaloom/lambdaloom/model/Verdict"), (0, .methodref 16 19), (0, .nameAndType 5 20), (0, u "(Ljava/lang/String;I)V"), (0, .methodref 16 22), (0, .nameAndType 23 24), (0, u "valid"), (0, u "(I)Lcom/example/lambdaloom/lambdaloom/model/Verdict;"), (0, .methodref 16 26), (0, .nameAndType 27 28), (0, u "invalid"), (0, u "(Ljava/lang/String;)Lcom/example/lambdaloom/lambdaloom/model/Verdict;"), (0, .methodref 16 30), (0, .nameAndType 31 32), (0, u "isValid"), (0, u "()Z"), (0, .class_ 34), (0, u "com/example/lambdaloom/lambdaloom/model/VerdictIsValidPinLaw"), (2, u "law"), (0, u "(IIII)Z")] 3

def k1m0 : Method := { name := "<init>", desc := "()V", sig := { parameters := [], returnType := none }, accessFlags := 1, code := none }
def k1c1 : Code := { maxStack := 4, maxLocals := 13, code := code, exceptionTable := #[], attributes := #[] }
def k1m1 : Method := { name := "law", desc := "(IIII)Z", sig := { parameters := [.int, .int, .int, .int], returnType := some .boolean }, accessFlags := 9, code := some k1c1 }
/-- com/example/lambdaloom/lambdaloom/model/VerdictIsValidPinLaw -/
def k1 : Class := { plain "com/example/lambdaloom/lambdaloom/model/VerdictIsValidPinLaw" (some 0) with
  accessFlags := 49
  interfaces := #[]
  cf := some (fileOf pool1 33 #[] #[{ accessFlags := 1, nameIndex := 5, descriptorIndex := 6, attributes := #[] }, { accessFlags := 9, nameIndex := 37, descriptorIndex := 38, attributes := #[] }] 49 2 #[] #[])
  fields := #[]
  methods := #[k1m0, k1m1]
  instanceTypes := #[]
  staticTypes := #[]
  resolved := Array.replicate 42 none
  statics := none }

def pool2 : Array CpInfo := pool [(1, .class_ 2), (0, u "java/io/Serializable"), (0, .class_ 4), (0, u "java/lang/Object")] 2

/-- java/io/Serializable -/
def k2 : Class := { plain "java/io/Serializable" (some 0) with
  accessFlags := 1537
  interfaces := #[]
  cf := some (fileOf pool2 1 #[] #[] 1537 3 #[] #[])
  fields := #[]
  methods := #[]
  instanceTypes := #[]
  staticTypes := #[]
  resolved := Array.replicate 7 none
  statics := none }

def pool3 : Array CpInfo := pool [(1, .class_ 2), (0, u "java/lang/Comparable"), (0, .class_ 4), (0, u "java/lang/Object")] 7

/-- java/lang/Comparable -/
def k3 : Class := { plain "java/lang/Comparable" (some 0) with
  accessFlags := 1537
  interfaces := #[]
  cf := some (fileOf pool3 1 #[] #[] 1537 3 #[] #[])
  fields := #[]
  methods := #[]
  instanceTypes := #[]
  staticTypes := #[]
  resolved := Array.replicate 12 none
  statics := none }

def pool4 : Array CpInfo := pool [(2, .class_ 4), (1, u "java/lang/CharSequence"), (42, .class_ 48), (0, u "java/lang/CharSequence$1CodePointIterator"), (10, .class_ 60), (0, u "java/lang/CharSequence$1CharIterator"), (5, .class_ 67), (0, u "java/lang/Object")] 63

/-- java/lang/CharSequence -/
def k4 : Class := { plain "java/lang/CharSequence" (some 0) with
  accessFlags := 1537
  interfaces := #[]
  cf := some (fileOf pool4 2 #[.nestMembers #[47, 59]] #[] 1537 66 #[] #[])
  fields := #[]
  methods := #[]
  instanceTypes := #[]
  staticTypes := #[]
  resolved := Array.replicate 131 none
  statics := none }

def pool5 : Array CpInfo := pool [(1, .class_ 2), (0, u "java/lang/constant/Constable"), (0, .class_ 4), (0, u "java/lang/Object")] 6

/-- java/lang/constant/Constable -/
def k5 : Class := { plain "java/lang/constant/Constable" (some 0) with
  accessFlags := 1537
  interfaces := #[]
  cf := some (fileOf pool5 1 #[] #[] 1537 3 #[] #[])
  fields := #[]
  methods := #[]
  instanceTypes := #[]
  staticTypes := #[]
  resolved := Array.replicate 11 none
  statics := none }

def pool6 : Array CpInfo := pool [(1, .class_ 2), (0, u "java/lang/constant/ConstantDesc"), (0, .class_ 4), (0, u "java/lang/Object")] 32

/-- java/lang/constant/ConstantDesc -/
def k6 : Class := { plain "java/lang/constant/ConstantDesc" (some 0) with
  accessFlags := 1537
  interfaces := #[]
  cf := some (fileOf pool6 1 #[] #[] 1537 3 #[] #[])
  fields := #[]
  methods := #[]
  instanceTypes := #[]
  staticTypes := #[]
  resolved := Array.replicate 37 none
  statics := none }

def pool7 : Array CpInfo := pool [(1, .methodref 2 3), (0, .class_ 4), (0, .nameAndType 5 6), (0, u "java/lang/Object"), (0, u "<init>"), (0, u "()V"), (0, .string 8), (0, u ""), (0, .fieldref 10 11), (0, .class_ 12), (0, .nameAndType 13 14), (0, u "java/lang/String"), (0, u "value"), (0, u "[B"), (0, .fieldref 10 16), (0, .nameAndType 17 18), (0, u "coder"), (0, u "B"), (2, u "hash"), (0, u "I"), (2, u "hashIsZero"), (0, u "Z"), (0, .methodref 10 28), (0, .nameAndType 5 29), (0, u "([CIILjava/lang/Void;)V"), (8, .fieldref 10 39), (0, .nameAndType 40 26), (0, u "COMPACT_STRINGS"), (1, .class_ 44), (1, u "java/lang/StringUTF16"), (0, u "compress"), (1, .methodref 42 48), (0, .nameAndType 49 50), (0, u "coderFromArrayLen"), (0, u "([BI)B"), (2, u "toBytes"), (53, .class_ 109), (1, u "java/lang/StringLatin1"), (67, .methodref 42 178), (0, .nameAndType 45 179), (0, u "([CII)[B"), (29, .methodref 10 210), (0, .nameAndType 5 211), (0, u "([BB)V"), (157, u "(C)Z"), (205, .class_ 576), (0, u "java/lang/CharSequence"), (22, u "CASE_INSENSITIVE_ORDER"), (0, u "Ljava/util/Comparator;"), (181, u "valueOf"), (0, u "(C)Ljava/lang/String;"), (226, u "([C)V"), (4, .methodref 107 1016), (0, .nameAndType 1017 369), (0, u "canEncode"), (0, .methodref 107 1019), (0, .nameAndType 53 1020), (0, u "(C)[B"), (80, u "serialPersistentFields"), (0, u "[Ljava/io/ObjectStreamField;"), (0, .class_ 1104), (0, u "java/lang/String$CaseInsensitiveComparator"), (1, .class_ 1107), (0, u "java/io/Serializable"), (0, .class_ 1109), (0, u "java/lang/Comparable"), (0, .class_ 1111), (0, u "java/lang/constant/Constable"), (0, .class_ 1113), (0, u "java/lang/constant/ConstantDesc"), (2, u "serialVersionUID"), (0, u "J"), (3, u "REPL"), (0, u "C"), (2, u "LATIN1"), (1, u "UTF16")] 323

def k7m0 : Method := { name := "<init>", desc := "()V", sig := { parameters := [], returnType := none }, accessFlags := 1, code := none }
def k7c1 : Code := { maxStack := 5, maxLocals := 2, code := jdk_42_method_3_code, exceptionTable := #[], attributes := #[] }
def k7m1 : Method := { name := "<init>", desc := "([C)V", sig := { parameters := [(.array .char)], returnType := none }, accessFlags := 1, code := some k7c1 }
def k7c2 : Code := { maxStack := 4, maxLocals := 1, code := jdk_42_method_139_code, exceptionTable := #[], attributes := #[] }
def k7m2 : Method := { name := "valueOf", desc := "(C)Ljava/lang/String;", sig := { parameters := [.char], returnType := some (.object "java/lang/String") }, accessFlags := 9, code := some k7c2 }
def k7c3 : Code := { maxStack := 4, maxLocals := 6, code := jdk_42_method_149_code, exceptionTable := #[], attributes := #[] }
def k7m3 : Method := { name := "<init>", desc := "([CIILjava/lang/Void;)V", sig := { parameters := [(.array .char), .int, .int, (.object "java/lang/Void")], returnType := none }, accessFlags := 2, code := some k7c3 }
def k7c4 : Code := { maxStack := 2, maxLocals := 3, code := jdk_42_method_151_code, exceptionTable := #[], attributes := #[] }
def k7m4 : Method := { name := "<init>", desc := "([BB)V", sig := { parameters := [(.array .byte), .byte], returnType := none }, accessFlags := 0, code := some k7c4 }
/-- java/lang/String -/
def k7 : Class := { plain "java/lang/String" (some 0) with
  accessFlags := 49
  interfaces := #[2, 3, 4, 5, 6]
  cf := some (fileOf pool7 10 #[.nestMembers #[1103]] #[{ accessFlags := 1, nameIndex := 5, descriptorIndex := 6, attributes := #[] }, { accessFlags := 1, nameIndex := 5, descriptorIndex := 1010, attributes := #[] }, { accessFlags := 9, nameIndex := 782, descriptorIndex := 783, attributes := #[] }, { accessFlags := 2, nameIndex := 5, descriptorIndex := 29, attributes := #[] }, { accessFlags := 0, nameIndex := 5, descriptorIndex := 211, attributes := #[] }] 49 2 #[1106, 1108, 575, 1110, 1112] #[{ accessFlags := 18, nameIndex := 13, descriptorIndex := 14, attributes := #[] }, { accessFlags := 18, nameIndex := 17, descriptorIndex := 18, attributes := #[] }, { accessFlags := 2, nameIndex := 21, descriptorIndex := 22, attributes := #[] }, { accessFlags := 2, nameIndex := 25, descriptorIndex := 26, attributes := #[] }, { accessFlags := 26, nameIndex := 1116, descriptorIndex := 1117, attributes := #[] }, { accessFlags := 24, nameIndex := 40, descriptorIndex := 26, attributes := #[] }, { accessFlags := 26, nameIndex := 1101, descriptorIndex := 1102, attributes := #[] }, { accessFlags := 26, nameIndex := 1121, descriptorIndex := 1122, attributes := #[] }, { accessFlags := 25, nameIndex := 599, descriptorIndex := 600, attributes := #[] }, { accessFlags := 24, nameIndex := 1125, descriptorIndex := 18, attributes := #[] }, { accessFlags := 24, nameIndex := 1127, descriptorIndex := 18, attributes := #[] }])
  fields := #[{ name := "value", type := (.array .byte), accessFlags := 18, slot := 0, constantValue := 0 }, { name := "coder", type := .byte, accessFlags := 18, slot := 1, constantValue := 0 }, { name := "hash", type := .int, accessFlags := 2, slot := 2, constantValue := 0 }, { name := "hashIsZero", type := .boolean, accessFlags := 2, slot := 3, constantValue := 0 }, { name := "serialVersionUID", type := .long, accessFlags := 26, slot := 0, constantValue := 0 }, { name := "COMPACT_STRINGS", type := .boolean, accessFlags := 24, slot := 1, constantValue := 0 }, { name := "serialPersistentFields", type := (.array (.object "java/io/ObjectStreamField")), accessFlags := 26, slot := 2, constantValue := 0 }, { name := "REPL", type := .char, accessFlags := 26, slot := 3, constantValue := 0 }, { name := "CASE_INSENSITIVE_ORDER", type := (.object "java/util/Comparator"), accessFlags := 25, slot := 4, constantValue := 0 }, { name := "LATIN1", type := .byte, accessFlags := 24, slot := 5, constantValue := 0 }, { name := "UTF16", type := .byte, accessFlags := 24, slot := 6, constantValue := 0 }]
  methods := #[k7m0, k7m1, k7m2, k7m3, k7m4]
  instanceTypes := #[(.array .byte), .byte, .int, .boolean]
  staticTypes := #[.long, .boolean, (.array (.object "java/io/ObjectStreamField")), .char, (.object "java/util/Comparator"), .byte, .byte]
  resolved := Array.replicate 1451 none
  statics := some 0 }

def pool8 : Array CpInfo := pool [(1, .methodref 2 3), (0, .class_ 4), (0, .nameAndType 5 6), (0, u "java/lang/Object"), (0, u "<init>"), (0, u "()V"), (0, .class_ 8), (0, u "java/lang/Record")] 13

def k8c0 : Code := { maxStack := 1, maxLocals := 1, code := jdk_30_method_1_code, exceptionTable := #[], attributes := #[] }
def k8m0 : Method := { name := "<init>", desc := "()V", sig := { parameters := [], returnType := none }, accessFlags := 4, code := some k8c0 }
/-- java/lang/Record -/
def k8 : Class := { plain "java/lang/Record" (some 0) with
  accessFlags := 1057
  interfaces := #[]
  cf := some (fileOf pool8 7 #[] #[{ accessFlags := 4, nameIndex := 5, descriptorIndex := 6, attributes := #[] }] 1057 2 #[] #[])
  fields := #[]
  methods := #[k8m0]
  instanceTypes := #[]
  staticTypes := #[]
  resolved := Array.replicate 22 none
  statics := none }

def pool9 : Array CpInfo := pool [(1, .methodref 2 3), (0, .class_ 4), (0, .nameAndType 5 6), (0, u "java/lang/Record"), (0, u "<init>"), (0, u "()V"), (0, .fieldref 8 9), (0, .class_ 10), (0, .nameAndType 11 12), (0, u "com/example/lambdaloom/lambdaloom/model/Verdict"), (0, u "fault"), (0, u "Ljava/lang/String;"), (0, .fieldref 8 14), (0, .nameAndType 15 16), (0, u "wavelengthCount"), (0, u "I"), (0, .methodref 8 18), (0, .nameAndType 5 19), (0, u "(Ljava/lang/String;I)V"), (15, u "valid"), (0, u "(I)Lcom/example/lambdaloom/lambdaloom/model/Verdict;"), (0, u "invalid"), (0, u "(Ljava/lang/String;)Lcom/example/lambdaloom/lambdaloom/model/Verdict;"), (0, u "isValid"), (0, u "()Z")] 25

def k9c0 : Code := { maxStack := 2, maxLocals := 3, code := prog_49_method_1_code, exceptionTable := #[], attributes := #[] }
def k9m0 : Method := { name := "<init>", desc := "(Ljava/lang/String;I)V", sig := { parameters := [(.object "java/lang/String"), .int], returnType := none }, accessFlags := 1, code := some k9c0 }
def k9c1 : Code := { maxStack := 4, maxLocals := 1, code := prog_49_method_2_code, exceptionTable := #[], attributes := #[] }
def k9m1 : Method := { name := "valid", desc := "(I)Lcom/example/lambdaloom/lambdaloom/model/Verdict;", sig := { parameters := [.int], returnType := some (.object "com/example/lambdaloom/lambdaloom/model/Verdict") }, accessFlags := 8, code := some k9c1 }
def k9c2 : Code := { maxStack := 4, maxLocals := 1, code := prog_49_method_3_code, exceptionTable := #[], attributes := #[] }
def k9m2 : Method := { name := "invalid", desc := "(Ljava/lang/String;)Lcom/example/lambdaloom/lambdaloom/model/Verdict;", sig := { parameters := [(.object "java/lang/String")], returnType := some (.object "com/example/lambdaloom/lambdaloom/model/Verdict") }, accessFlags := 8, code := some k9c2 }
def k9c3 : Code := { maxStack := 1, maxLocals := 1, code := prog_49_method_4_code, exceptionTable := #[], attributes := #[] }
def k9m3 : Method := { name := "isValid", desc := "()Z", sig := { parameters := [], returnType := some .boolean }, accessFlags := 1, code := some k9c3 }
/-- com/example/lambdaloom/lambdaloom/model/Verdict -/
def k9 : Class := { plain "com/example/lambdaloom/lambdaloom/model/Verdict" (some 8) with
  accessFlags := 49
  interfaces := #[]
  cf := some (fileOf pool9 8 #[] #[{ accessFlags := 1, nameIndex := 5, descriptorIndex := 19, attributes := #[] }, { accessFlags := 8, nameIndex := 35, descriptorIndex := 36, attributes := #[] }, { accessFlags := 8, nameIndex := 37, descriptorIndex := 38, attributes := #[] }, { accessFlags := 1, nameIndex := 39, descriptorIndex := 40, attributes := #[] }] 49 2 #[] #[{ accessFlags := 18, nameIndex := 11, descriptorIndex := 12, attributes := #[] }, { accessFlags := 18, nameIndex := 15, descriptorIndex := 16, attributes := #[] }])
  fields := #[{ name := "fault", type := (.object "java/lang/String"), accessFlags := 18, slot := 0, constantValue := 0 }, { name := "wavelengthCount", type := .int, accessFlags := 18, slot := 1, constantValue := 0 }]
  methods := #[k9m0, k9m1, k9m2, k9m3]
  instanceTypes := #[(.object "java/lang/String"), .int]
  staticTypes := #[]
  resolved := Array.replicate 66 none
  statics := none }

def pool10 : Array CpInfo := pool [(4, .class_ 6), (1, u "java/lang/Object"), (0, u "<init>"), (0, u "()V"), (5, .class_ 16), (1, u "java/lang/StringLatin1"), (73, u "canEncode"), (14, u "(C)Z"), (15, u "$assertionsDisabled"), (0, u "Z"), (98, .class_ 223), (1, u "java/lang/StringLatin1$LinesSpliterator"), (156, u "toBytes"), (1, u "(C)[B"), (7, .class_ 391), (0, u "java/lang/StringLatin1$CharsSpliterator")] 3

def k10m0 : Method := { name := "<init>", desc := "()V", sig := { parameters := [], returnType := none }, accessFlags := 0, code := none }
def k10c1 : Code := { maxStack := 2, maxLocals := 1, code := jdk_43_method_3_code, exceptionTable := #[], attributes := #[] }
def k10m1 : Method := { name := "canEncode", desc := "(C)Z", sig := { parameters := [.char], returnType := some .boolean }, accessFlags := 9, code := some k10c1 }
def k10c2 : Code := { maxStack := 4, maxLocals := 1, code := jdk_43_method_46_code, exceptionTable := #[], attributes := #[] }
def k10m2 : Method := { name := "toBytes", desc := "(C)[B", sig := { parameters := [.char], returnType := some (.array .byte) }, accessFlags := 9, code := some k10c2 }
/-- java/lang/StringLatin1 -/
def k10 : Class := { plain "java/lang/StringLatin1" (some 0) with
  accessFlags := 48
  interfaces := #[]
  cf := some (fileOf pool10 14 #[.nestMembers #[390, 221]] #[{ accessFlags := 0, nameIndex := 7, descriptorIndex := 8, attributes := #[] }, { accessFlags := 9, nameIndex := 90, descriptorIndex := 105, attributes := #[] }, { accessFlags := 9, nameIndex := 380, descriptorIndex := 382, attributes := #[] }] 48 4 #[] #[{ accessFlags := 4120, nameIndex := 121, descriptorIndex := 122, attributes := #[] }])
  fields := #[{ name := "$assertionsDisabled", type := .boolean, accessFlags := 4120, slot := 0, constantValue := 0 }]
  methods := #[k10m0, k10m1, k10m2]
  instanceTypes := #[]
  staticTypes := #[.boolean]
  resolved := Array.replicate 395 none
  statics := none }

def pool11 : Array CpInfo := pool [(6, .class_ 8), (1, u "java/lang/Object"), (0, u "<init>"), (0, u "()V"), (1, .class_ 14), (1, u "java/lang/StringUTF16"), (31, u "$assertionsDisabled"), (0, u "Z"), (13, u "HI_BYTE_SHIFT"), (0, u "I"), (2, u "LO_BYTE_SHIFT"), (49, .methodref 12 116), (0, .nameAndType 117 118), (0, u "compress"), (0, u "([CI[BII)I"), (3, u "([CII)[B"), (138, u "coderFromArrayLen"), (0, u "([BI)B"), (106, .class_ 371), (1, u "java/lang/StringUTF16$LinesSpliterator"), (58, u "MAX_LENGTH"), (196, .class_ 628), (0, u "java/lang/StringUTF16$CodePointsSpliterator"), (0, .class_ 630), (0, u "java/lang/StringUTF16$CharsSpliterator")] 4

def k11m0 : Method := { name := "<init>", desc := "()V", sig := { parameters := [], returnType := none }, accessFlags := 0, code := none }
def k11c1 : Code := { maxStack := 2, maxLocals := 2, code := jdk_52_method_15_code, exceptionTable := #[], attributes := #[] }
def k11m1 : Method := { name := "coderFromArrayLen", desc := "([BI)B", sig := { parameters := [(.array .byte), .int], returnType := some .byte }, accessFlags := 8, code := some k11c1 }
def k11c2 : Code := { maxStack := 5, maxLocals := 6, code := jdk_52_method_16_code, exceptionTable := #[], attributes := #[] }
def k11m2 : Method := { name := "compress", desc := "([CII)[B", sig := { parameters := [(.array .char), .int, .int], returnType := some (.array .byte) }, accessFlags := 9, code := some k11c2 }
def k11c3 : Code := { maxStack := 3, maxLocals := 7, code := jdk_52_method_21_code, exceptionTable := #[], attributes := #[] }
def k11m3 : Method := { name := "compress", desc := "([CI[BII)I", sig := { parameters := [(.array .char), .int, (.array .byte), .int, .int], returnType := some .int }, accessFlags := 9, code := some k11c3 }
/-- java/lang/StringUTF16 -/
def k11 : Class := { plain "java/lang/StringUTF16" (some 0) with
  accessFlags := 48
  interfaces := #[]
  cf := some (fileOf pool11 12 #[.nestMembers #[627, 629, 369]] #[{ accessFlags := 0, nameIndex := 9, descriptorIndex := 10, attributes := #[] }, { accessFlags := 8, nameIndex := 261, descriptorIndex := 262, attributes := #[] }, { accessFlags := 9, nameIndex := 117, descriptorIndex := 122, attributes := #[] }, { accessFlags := 9, nameIndex := 117, descriptorIndex := 118, attributes := #[] }] 48 6 #[] #[{ accessFlags := 26, nameIndex := 61, descriptorIndex := 62, attributes := #[] }, { accessFlags := 26, nameIndex := 65, descriptorIndex := 62, attributes := #[] }, { accessFlags := 24, nameIndex := 430, descriptorIndex := 62, attributes := #[] }, { accessFlags := 4120, nameIndex := 46, descriptorIndex := 47, attributes := #[] }])
  fields := #[{ name := "HI_BYTE_SHIFT", type := .int, accessFlags := 26, slot := 0, constantValue := 0 }, { name := "LO_BYTE_SHIFT", type := .int, accessFlags := 26, slot := 1, constantValue := 0 }, { name := "MAX_LENGTH", type := .int, accessFlags := 24, slot := 2, constantValue := 0 }, { name := "$assertionsDisabled", type := .boolean, accessFlags := 4120, slot := 3, constantValue := 0 }]
  methods := #[k11m0, k11m1, k11m2, k11m3]
  instanceTypes := #[]
  staticTypes := #[.int, .int, .int, .boolean]
  resolved := Array.replicate 635 none
  statics := none }

def pool12 : Array CpInfo := pool [(2, .class_ 4), (1, u "java/lang/Object"), (0, u "<init>"), (0, u "()V"), (17, .class_ 26), (1, u "jdk/internal/util/Preconditions"), (28, .class_ 56), (0, u "jdk/internal/util/Preconditions$4"), (57, .class_ 115), (0, u "jdk/internal/util/Preconditions$1"), (7, u "SIOOBE_FORMATTER"), (0, u "Ljava/util/function/BiFunction;"), (0, .class_ 126), (0, u "jdk/internal/util/Preconditions$2"), (3, u "AIOOBE_FORMATTER"), (0, .class_ 132), (0, u "jdk/internal/util/Preconditions$3"), (3, u "IOOBE_FORMATTER")] 57

def k12m0 : Method := { name := "<init>", desc := "()V", sig := { parameters := [], returnType := none }, accessFlags := 1, code := none }
/-- jdk/internal/util/Preconditions -/
def k12 : Class := { plain "jdk/internal/util/Preconditions" (some 0) with
  accessFlags := 33
  interfaces := #[]
  cf := some (fileOf pool12 24 #[.nestMembers #[55, 131, 125, 114]] #[{ accessFlags := 1, nameIndex := 5, descriptorIndex := 6, attributes := #[] }] 33 2 #[] #[{ accessFlags := 25, nameIndex := 123, descriptorIndex := 124, attributes := #[] }, { accessFlags := 25, nameIndex := 130, descriptorIndex := 124, attributes := #[] }, { accessFlags := 25, nameIndex := 136, descriptorIndex := 124, attributes := #[] }])
  fields := #[{ name := "SIOOBE_FORMATTER", type := (.object "java/util/function/BiFunction"), accessFlags := 25, slot := 0, constantValue := 0 }, { name := "AIOOBE_FORMATTER", type := (.object "java/util/function/BiFunction"), accessFlags := 25, slot := 1, constantValue := 0 }, { name := "IOOBE_FORMATTER", type := (.object "java/util/function/BiFunction"), accessFlags := 25, slot := 2, constantValue := 0 }]
  methods := #[k12m0]
  instanceTypes := #[]
  staticTypes := #[(.object "java/util/function/BiFunction"), (.object "java/util/function/BiFunction"), (.object "java/util/function/BiFunction")]
  resolved := Array.replicate 194 none
  statics := some 1 }

def pool13 : Array CpInfo := pool [(9, u "<init>"), (6, .class_ 18), (1, u "java/lang/Object"), (0, u "()V"), (1, .class_ 23), (1, u "jdk/internal/util/ArraysSupport"), (0, u "LOG2_ARRAY_LONG_INDEX_SCALE"), (0, u "I"), (2, u "U"), (0, u "Ljdk/internal/misc/Unsafe;"), (8, u "BIG_ENDIAN"), (0, u "Z"), (8, u "LOG2_BYTE_BIT_SIZE"), (4, u "LOG2_ARRAY_INT_INDEX_SCALE"), (54, u "JLA"), (0, u "Ljdk/internal/access/JavaLangAccess;"), (11, u "LOG2_ARRAY_BOOLEAN_INDEX_SCALE"), (9, u "LOG2_ARRAY_BYTE_INDEX_SCALE"), (5, u "LOG2_ARRAY_CHAR_INDEX_SCALE"), (5, u "LOG2_ARRAY_SHORT_INDEX_SCALE"), (18, u "LOG2_ARRAY_FLOAT_INDEX_SCALE"), (24, u "LOG2_ARRAY_DOUBLE_INDEX_SCALE"), (89, u "T_BOOLEAN"), (2, u "T_CHAR"), (1, u "T_FLOAT"), (1, u "T_DOUBLE"), (1, u "T_BYTE"), (1, u "T_SHORT"), (1, u "T_INT"), (1, u "T_LONG"), (1, u "SOFT_MAX_ARRAY_LENGTH")] 83

def k13m0 : Method := { name := "<init>", desc := "()V", sig := { parameters := [], returnType := none }, accessFlags := 2, code := none }
/-- jdk/internal/util/ArraysSupport -/
def k13 : Class := { plain "jdk/internal/util/ArraysSupport" (some 0) with
  accessFlags := 33
  interfaces := #[]
  cf := some (fileOf pool13 21 #[] #[{ accessFlags := 2, nameIndex := 9, descriptorIndex := 19, attributes := #[] }] 33 16 #[] #[{ accessFlags := 24, nameIndex := 28, descriptorIndex := 29, attributes := #[] }, { accessFlags := 26, nameIndex := 38, descriptorIndex := 39, attributes := #[] }, { accessFlags := 25, nameIndex := 121, descriptorIndex := 25, attributes := #[] }, { accessFlags := 25, nameIndex := 131, descriptorIndex := 25, attributes := #[] }, { accessFlags := 25, nameIndex := 137, descriptorIndex := 25, attributes := #[] }, { accessFlags := 25, nameIndex := 143, descriptorIndex := 25, attributes := #[] }, { accessFlags := 25, nameIndex := 53, descriptorIndex := 25, attributes := #[] }, { accessFlags := 25, nameIndex := 24, descriptorIndex := 25, attributes := #[] }, { accessFlags := 25, nameIndex := 162, descriptorIndex := 25, attributes := #[] }, { accessFlags := 25, nameIndex := 187, descriptorIndex := 25, attributes := #[] }, { accessFlags := 26, nameIndex := 48, descriptorIndex := 25, attributes := #[] }, { accessFlags := 25, nameIndex := 277, descriptorIndex := 25, attributes := #[] }, { accessFlags := 25, nameIndex := 280, descriptorIndex := 25, attributes := #[] }, { accessFlags := 25, nameIndex := 282, descriptorIndex := 25, attributes := #[] }, { accessFlags := 25, nameIndex := 284, descriptorIndex := 25, attributes := #[] }, { accessFlags := 25, nameIndex := 286, descriptorIndex := 25, attributes := #[] }, { accessFlags := 25, nameIndex := 288, descriptorIndex := 25, attributes := #[] }, { accessFlags := 25, nameIndex := 290, descriptorIndex := 25, attributes := #[] }, { accessFlags := 25, nameIndex := 292, descriptorIndex := 25, attributes := #[] }, { accessFlags := 26, nameIndex := 108, descriptorIndex := 109, attributes := #[] }, { accessFlags := 25, nameIndex := 294, descriptorIndex := 25, attributes := #[] }])
  fields := #[{ name := "U", type := (.object "jdk/internal/misc/Unsafe"), accessFlags := 24, slot := 0, constantValue := 0 }, { name := "BIG_ENDIAN", type := .boolean, accessFlags := 26, slot := 1, constantValue := 0 }, { name := "LOG2_ARRAY_BOOLEAN_INDEX_SCALE", type := .int, accessFlags := 25, slot := 2, constantValue := 0 }, { name := "LOG2_ARRAY_BYTE_INDEX_SCALE", type := .int, accessFlags := 25, slot := 3, constantValue := 0 }, { name := "LOG2_ARRAY_CHAR_INDEX_SCALE", type := .int, accessFlags := 25, slot := 4, constantValue := 0 }, { name := "LOG2_ARRAY_SHORT_INDEX_SCALE", type := .int, accessFlags := 25, slot := 5, constantValue := 0 }, { name := "LOG2_ARRAY_INT_INDEX_SCALE", type := .int, accessFlags := 25, slot := 6, constantValue := 0 }, { name := "LOG2_ARRAY_LONG_INDEX_SCALE", type := .int, accessFlags := 25, slot := 7, constantValue := 0 }, { name := "LOG2_ARRAY_FLOAT_INDEX_SCALE", type := .int, accessFlags := 25, slot := 8, constantValue := 0 }, { name := "LOG2_ARRAY_DOUBLE_INDEX_SCALE", type := .int, accessFlags := 25, slot := 9, constantValue := 0 }, { name := "LOG2_BYTE_BIT_SIZE", type := .int, accessFlags := 26, slot := 10, constantValue := 0 }, { name := "T_BOOLEAN", type := .int, accessFlags := 25, slot := 11, constantValue := 0 }, { name := "T_CHAR", type := .int, accessFlags := 25, slot := 12, constantValue := 0 }, { name := "T_FLOAT", type := .int, accessFlags := 25, slot := 13, constantValue := 0 }, { name := "T_DOUBLE", type := .int, accessFlags := 25, slot := 14, constantValue := 0 }, { name := "T_BYTE", type := .int, accessFlags := 25, slot := 15, constantValue := 0 }, { name := "T_SHORT", type := .int, accessFlags := 25, slot := 16, constantValue := 0 }, { name := "T_INT", type := .int, accessFlags := 25, slot := 17, constantValue := 0 }, { name := "T_LONG", type := .int, accessFlags := 25, slot := 18, constantValue := 0 }, { name := "JLA", type := (.object "jdk/internal/access/JavaLangAccess"), accessFlags := 26, slot := 19, constantValue := 0 }, { name := "SOFT_MAX_ARRAY_LENGTH", type := .int, accessFlags := 25, slot := 20, constantValue := 0 }]
  methods := #[k13m0]
  instanceTypes := #[]
  staticTypes := #[(.object "jdk/internal/misc/Unsafe"), .boolean, .int, .int, .int, .int, .int, .int, .int, .int, .int, .int, .int, .int, .int, .int, .int, .int, .int, (.object "jdk/internal/access/JavaLangAccess"), .int]
  resolved := Array.replicate 378 none
  statics := none }

def pool14 : Array CpInfo := pool [(1, u "java/lang/Cloneable"), (0, .class_ 1), (0, u "java/lang/Object"), (0, .class_ 3)] 3

/-- java/lang/Cloneable -/
def k14 : Class := { plain "java/lang/Cloneable" (some 0) with
  accessFlags := 1537
  interfaces := #[]
  cf := some (fileOf pool14 2 #[] #[] 1537 4 #[] #[])
  fields := #[]
  methods := #[]
  instanceTypes := #[]
  staticTypes := #[]
  resolved := Array.replicate 8 none
  statics := none }

/-- the primitive byte -/
def k15 : Class := { plain "byte" none with kind := .primitive 'B', accessFlags := 0x411 }
/-- [B -/
def k16 : Class := { plain "[B" (some 0) with kind := .array 15 .byte, interfaces := #[14, 2], accessFlags := 1041 }

/-- the primitive char -/
def k17 : Class := { plain "char" none with kind := .primitive 'C', accessFlags := 0x411 }
/-- [C -/
def k18 : Class := { plain "[C" (some 0) with kind := .array 17 .char, interfaces := #[14, 2], accessFlags := 1041 }

/-- the primitive int -/
def k19 : Class := { plain "int" none with kind := .primitive 'I', accessFlags := 0x411 }
/-- [I -/
def k20 : Class := { plain "[I" (some 0) with kind := .array 19 .int, interfaces := #[14, 2], accessFlags := 1041 }

def heap : Heap := #[{ cls := 7, slots := #[.long 0, .int 1, .null, .int 0, .null, .int 0, .int 0], vm := .statics 7 },
  { cls := 12, slots := #[.null, .null, .null], vm := .statics 12 }]
def classes : Array Class := #[k0, k1, k2, k3, k4, k5, k6, k7, k8, k9, k10, k11, k12, k13, k14, k15, k16, k17, k18, k19, k20]
def interned : List (Array UInt16 × Addr) := []
def slotsUsed : Nat := 10
def theMethod : MethodId := ⟨1, 1⟩
def args0 : Array Value := #[.int 5, .int 1, .int 65, .int 66]
def aboutOver (below : List Frame) : State where
  vm := { classes := classes, interned := interned.toArray }
  heap := heap
  slotsUsed := slotsUsed
  threads := #[{ frames := .invoking theMethod args0 :: below }]
def below0 : List Frame := [.native { method := ⟨0, 0⟩, args := #[] }]
def about1 : State := aboutOver below0
def p0 : Program := .bare "" "" ""
def e0 : Env := launch0.env 0 0 0
theorem w_frames : about1.frames = Frame.invoking theMethod args0 :: below0 := rfl
set_option maxRecDepth 65536 in
theorem w_args : argsFit about1.vm theMethod args0 = true := by decide +kernel
set_option maxRecDepth 65536 in
theorem w_heap : heapFits about1 = true := by decide +kernel
set_option maxRecDepth 65536 in
theorem w_runnable : about1.curStatus? = some .runnable := by decide +kernel
set_option maxRecDepth 65536 in
theorem w_alone : about1.alone = true := by decide +kernel
set_option maxRecDepth 65536 in
theorem w_named : about1.methodNamed? x = some theMethod := by decide +kernel
set_option maxRecDepth 65536 in
theorem w_hears : about1.hears theMethod below0 = true := by decide +kernel
set_option maxRecDepth 65536 in
theorem w_ripe : about1.ripe theMethod args0 below0 = true := by decide +kernel
theorem w_running : about1.status = .running := rfl
set_option maxRecDepth 65536 in
theorem w_room : about1.hasRoom e0.platform room_1 = true :=
  launch0.hasRoom_least _ room_1 (by decide +kernel) (by decide +kernel) (by decide +kernel) (by decide +kernel) (by decide +kernel) (by decide +kernel)
theorem allAtoms_all (ts : List Jvm.Cond) (a : Array Jvm.Value) (st : Jvm.State) : (allAtoms ts).before a st = ts.all (fun c => c.before a st) := by
  induction ts with
  | nil => rfl
  | cons c t ih =>
    show (Jvm.Cond.and c (allAtoms t)).before a st = _
    rw [Jvm.Cond.before_and, ih, List.all_cons]
def words1 : List Jvm.Cond := Jvm.Cond.code x code maxLocals ret :: tables_1
/-- a 'code' word, met by the world's own term for the bytes: nothing is compared byte by byte -/
theorem code_word {y : MethodName} {bytes : ByteArray} {mx : Nat} {rt : Option FieldType} {a : Array Value} {s : State} {m : MethodId} {meth : Method} {c : Code} (h1 : s.methodNamed? y = some m) (h2 : s.vm.method? m = some meth) (h3 : meth.code = some c) (h4 : c.code = bytes)
    (h5 : (c.maxLocals == mx && c.exceptionTable.isEmpty && decide (c.maxStack ≤ mostOperands) && decide (meth.sig.returnType = rt) && !meth.locks && decide (parseMethodDescriptor y.desc = some meth.sig)) = true) : (Jvm.Cond.code y bytes mx rt).before a s = true := by
  simp only [Bool.and_eq_true, beq_iff_eq, Bool.not_eq_true', decide_eq_true_eq] at h5
  obtain ⟨⟨⟨⟨⟨g1, g2⟩, g3⟩, g4⟩, g5⟩, g6⟩ := h5
  simp [Cond.before, Cond.holds, Cond.value, h1, h2, h3, h4, g1, g2, g3, g4, g5, g6]
def isCode : Jvm.Cond → Bool
  | .code _ _ _ _ => true
  | _ => false
theorem all_split {L : List Jvm.Cond} {P : Jvm.Cond → Bool} (h1 : L.all (fun c => isCode c || P c) = true) (h2 : ∀ c ∈ L.filter isCode, P c = true) : L.all P = true := by
  refine List.all_eq_true.mpr fun c hc => ?_
  have h := List.all_eq_true.mp h1 c hc
  rcases Bool.eq_false_or_eq_true (isCode c) with hi | hi
  · exact h2 c (List.mem_filter.mpr ⟨hc, hi⟩)
  · simpa [hi] using h
set_option maxRecDepth 65536 in
theorem w_c0 : (Jvm.Cond.code x code maxLocals ret).before args0 about1 = true := code_word (m := ⟨1, 1⟩) (meth := k1m1) (c := k1c1) (by decide +kernel) rfl rfl rfl (by decide +kernel)
set_option maxRecDepth 65536 in
theorem w_c1 : (Jvm.Cond.code ({ cls := "java/lang/String", name := "<init>", desc := "([C)V" } : Jvm.MethodName) jdk_42_method_3_code (2 : Nat) (Option.none : Option Jvm.ClassFile.FieldType)).before args0 about1 = true := code_word (m := ⟨7, 1⟩) (meth := k7m1) (c := k7c1) (by decide +kernel) rfl rfl rfl (by decide +kernel)
set_option maxRecDepth 65536 in
theorem w_c2 : (Jvm.Cond.code ({ cls := "java/lang/String", name := "<init>", desc := "([CIILjava/lang/Void;)V" } : Jvm.MethodName) jdk_42_method_149_code (6 : Nat) (Option.none : Option Jvm.ClassFile.FieldType)).before args0 about1 = true := code_word (m := ⟨7, 3⟩) (meth := k7m3) (c := k7c3) (by decide +kernel) rfl rfl rfl (by decide +kernel)
set_option maxRecDepth 65536 in
theorem w_c3 : (Jvm.Cond.code ({ cls := "java/lang/Object", name := "<init>", desc := "()V" } : Jvm.MethodName) object_method_1_code (1 : Nat) (Option.none : Option Jvm.ClassFile.FieldType)).before args0 about1 = true := code_word (m := ⟨0, 0⟩) (meth := k0m0) (c := k0c0) (by decide +kernel) rfl rfl rfl (by decide +kernel)
set_option maxRecDepth 65536 in
theorem w_c4 : (Jvm.Cond.code ({ cls := "com/example/lambdaloom/lambdaloom/model/Verdict", name := "<init>", desc := "(Ljava/lang/String;I)V" } : Jvm.MethodName) prog_49_method_1_code (3 : Nat) (Option.none : Option Jvm.ClassFile.FieldType)).before args0 about1 = true := code_word (m := ⟨9, 0⟩) (meth := k9m0) (c := k9c0) (by decide +kernel) rfl rfl rfl (by decide +kernel)
set_option maxRecDepth 65536 in
theorem w_c5 : (Jvm.Cond.code ({ cls := "java/lang/Record", name := "<init>", desc := "()V" } : Jvm.MethodName) jdk_30_method_1_code (1 : Nat) (Option.none : Option Jvm.ClassFile.FieldType)).before args0 about1 = true := code_word (m := ⟨8, 0⟩) (meth := k8m0) (c := k8c0) (by decide +kernel) rfl rfl rfl (by decide +kernel)
set_option maxRecDepth 65536 in
theorem w_c6 : (Jvm.Cond.code ({ cls := "com/example/lambdaloom/lambdaloom/model/Verdict", name := "valid", desc := "(I)Lcom/example/lambdaloom/lambdaloom/model/Verdict;" } : Jvm.MethodName) prog_49_method_2_code (1 : Nat) (Option.some (Jvm.ClassFile.FieldType.object "com/example/lambdaloom/lambdaloom/model/Verdict"))).before args0 about1 = true := code_word (m := ⟨9, 1⟩) (meth := k9m1) (c := k9c1) (by decide +kernel) rfl rfl rfl (by decide +kernel)
set_option maxRecDepth 65536 in
theorem w_c7 : (Jvm.Cond.code ({ cls := "com/example/lambdaloom/lambdaloom/model/Verdict", name := "invalid", desc := "(Ljava/lang/String;)Lcom/example/lambdaloom/lambdaloom/model/Verdict;" } : Jvm.MethodName) prog_49_method_3_code (1 : Nat) (Option.some (Jvm.ClassFile.FieldType.object "com/example/lambdaloom/lambdaloom/model/Verdict"))).before args0 about1 = true := code_word (m := ⟨9, 2⟩) (meth := k9m2) (c := k9c2) (by decide +kernel) rfl rfl rfl (by decide +kernel)
set_option maxRecDepth 65536 in
theorem w_c8 : (Jvm.Cond.code ({ cls := "com/example/lambdaloom/lambdaloom/model/Verdict", name := "isValid", desc := "()Z" } : Jvm.MethodName) prog_49_method_4_code (1 : Nat) (Option.some Jvm.ClassFile.FieldType.boolean)).before args0 about1 = true := code_word (m := ⟨9, 3⟩) (meth := k9m3) (c := k9c3) (by decide +kernel) rfl rfl rfl (by decide +kernel)
set_option maxRecDepth 65536 in
theorem w_c9 : (Jvm.Cond.code ({ cls := "java/lang/String", name := "valueOf", desc := "(C)Ljava/lang/String;" } : Jvm.MethodName) jdk_42_method_139_code (1 : Nat) (Option.some (Jvm.ClassFile.FieldType.object "java/lang/String"))).before args0 about1 = true := code_word (m := ⟨7, 2⟩) (meth := k7m2) (c := k7c2) (by decide +kernel) rfl rfl rfl (by decide +kernel)
set_option maxRecDepth 65536 in
theorem w_c10 : (Jvm.Cond.code ({ cls := "java/lang/StringLatin1", name := "canEncode", desc := "(C)Z" } : Jvm.MethodName) jdk_43_method_3_code (1 : Nat) (Option.some Jvm.ClassFile.FieldType.boolean)).before args0 about1 = true := code_word (m := ⟨10, 1⟩) (meth := k10m1) (c := k10c1) (by decide +kernel) rfl rfl rfl (by decide +kernel)
set_option maxRecDepth 65536 in
theorem w_c11 : (Jvm.Cond.code ({ cls := "java/lang/StringLatin1", name := "toBytes", desc := "(C)[B" } : Jvm.MethodName) jdk_43_method_46_code (1 : Nat) (Option.some (Jvm.ClassFile.FieldType.array Jvm.ClassFile.FieldType.byte))).before args0 about1 = true := code_word (m := ⟨10, 2⟩) (meth := k10m2) (c := k10c2) (by decide +kernel) rfl rfl rfl (by decide +kernel)
set_option maxRecDepth 65536 in
theorem w_c12 : (Jvm.Cond.code ({ cls := "java/lang/String", name := "<init>", desc := "([BB)V" } : Jvm.MethodName) jdk_42_method_151_code (3 : Nat) (Option.none : Option Jvm.ClassFile.FieldType)).before args0 about1 = true := code_word (m := ⟨7, 4⟩) (meth := k7m4) (c := k7c4) (by decide +kernel) rfl rfl rfl (by decide +kernel)
set_option maxRecDepth 65536 in
theorem w_c13 : (Jvm.Cond.code ({ cls := "java/lang/StringUTF16", name := "compress", desc := "([CII)[B" } : Jvm.MethodName) jdk_52_method_16_code (6 : Nat) (Option.some (Jvm.ClassFile.FieldType.array Jvm.ClassFile.FieldType.byte))).before args0 about1 = true := code_word (m := ⟨11, 2⟩) (meth := k11m2) (c := k11c2) (by decide +kernel) rfl rfl rfl (by decide +kernel)
set_option maxRecDepth 65536 in
theorem w_c14 : (Jvm.Cond.code ({ cls := "java/lang/StringUTF16", name := "compress", desc := "([CI[BII)I" } : Jvm.MethodName) jdk_52_method_21_code (7 : Nat) (Option.some Jvm.ClassFile.FieldType.int)).before args0 about1 = true := code_word (m := ⟨11, 3⟩) (meth := k11m3) (c := k11c3) (by decide +kernel) rfl rfl rfl (by decide +kernel)
set_option maxRecDepth 65536 in
theorem w_c15 : (Jvm.Cond.code ({ cls := "java/lang/StringUTF16", name := "coderFromArrayLen", desc := "([BI)B" } : Jvm.MethodName) jdk_52_method_15_code (2 : Nat) (Option.some Jvm.ClassFile.FieldType.byte)).before args0 about1 = true := code_word (m := ⟨11, 1⟩) (meth := k11m1) (c := k11c1) (by decide +kernel) rfl rfl rfl (by decide +kernel)
def codes1 : List Jvm.Cond := [Jvm.Cond.code x code maxLocals ret, Jvm.Cond.code ({ cls := "java/lang/String", name := "<init>", desc := "([C)V" } : Jvm.MethodName) jdk_42_method_3_code (2 : Nat) (Option.none : Option Jvm.ClassFile.FieldType), Jvm.Cond.code ({ cls := "java/lang/String", name := "<init>", desc := "([CIILjava/lang/Void;)V" } : Jvm.MethodName) jdk_42_method_149_code (6 : Nat) (Option.none : Option Jvm.ClassFile.FieldType), Jvm.Cond.code ({ cls := "java/lang/Object", name := "<init>", desc := "()V" } : Jvm.MethodName) object_method_1_code (1 : Nat) (Option.none : Option Jvm.ClassFile.FieldType), Jvm.Cond.code ({ cls := "com/example/lambdaloom/lambdaloom/model/Verdict", name := "<init>", desc := "(Ljava/lang/String;I)V" } : Jvm.MethodName) prog_49_method_1_code (3 : Nat) (Option.none : Option Jvm.ClassFile.FieldType), Jvm.Cond.code ({ cls := "java/lang/Record", name := "<init>", desc := "()V" } : Jvm.MethodName) jdk_30_method_1_code (1 : Nat) (Option.none : Option Jvm.ClassFile.FieldType), Jvm.Cond.code ({ cls := "com/example/lambdaloom/lambdaloom/model/Verdict", name := "valid", desc := "(I)Lcom/example/lambdaloom/lambdaloom/model/Verdict;" } : Jvm.MethodName) prog_49_method_2_code (1 : Nat) (Option.some (Jvm.ClassFile.FieldType.object "com/example/lambdaloom/lambdaloom/model/Verdict")), Jvm.Cond.code ({ cls := "com/example/lambdaloom/lambdaloom/model/Verdict", name := "invalid", desc := "(Ljava/lang/String;)Lcom/example/lambdaloom/lambdaloom/model/Verdict;" } : Jvm.MethodName) prog_49_method_3_code (1 : Nat) (Option.some (Jvm.ClassFile.FieldType.object "com/example/lambdaloom/lambdaloom/model/Verdict")), Jvm.Cond.code ({ cls := "com/example/lambdaloom/lambdaloom/model/Verdict", name := "isValid", desc := "()Z" } : Jvm.MethodName) prog_49_method_4_code (1 : Nat) (Option.some Jvm.ClassFile.FieldType.boolean), Jvm.Cond.code ({ cls := "java/lang/String", name := "valueOf", desc := "(C)Ljava/lang/String;" } : Jvm.MethodName) jdk_42_method_139_code (1 : Nat) (Option.some (Jvm.ClassFile.FieldType.object "java/lang/String")), Jvm.Cond.code ({ cls := "java/lang/StringLatin1", name := "canEncode", desc := "(C)Z" } : Jvm.MethodName) jdk_43_method_3_code (1 : Nat) (Option.some Jvm.ClassFile.FieldType.boolean), Jvm.Cond.code ({ cls := "java/lang/StringLatin1", name := "toBytes", desc := "(C)[B" } : Jvm.MethodName) jdk_43_method_46_code (1 : Nat) (Option.some (Jvm.ClassFile.FieldType.array Jvm.ClassFile.FieldType.byte)), Jvm.Cond.code ({ cls := "java/lang/String", name := "<init>", desc := "([BB)V" } : Jvm.MethodName) jdk_42_method_151_code (3 : Nat) (Option.none : Option Jvm.ClassFile.FieldType), Jvm.Cond.code ({ cls := "java/lang/StringUTF16", name := "compress", desc := "([CII)[B" } : Jvm.MethodName) jdk_52_method_16_code (6 : Nat) (Option.some (Jvm.ClassFile.FieldType.array Jvm.ClassFile.FieldType.byte)), Jvm.Cond.code ({ cls := "java/lang/StringUTF16", name := "compress", desc := "([CI[BII)I" } : Jvm.MethodName) jdk_52_method_21_code (7 : Nat) (Option.some Jvm.ClassFile.FieldType.int), Jvm.Cond.code ({ cls := "java/lang/StringUTF16", name := "coderFromArrayLen", desc := "([BI)B" } : Jvm.MethodName) jdk_52_method_15_code (2 : Nat) (Option.some Jvm.ClassFile.FieldType.byte)]
set_option maxRecDepth 65536 in
theorem codes_eq : words1.filter isCode = codes1 := rfl
theorem w_codes : ∀ c ∈ words1.filter isCode, c.before args0 about1 = true := by
  rw [codes_eq]
  intro c hc
  simp only [codes1, List.mem_cons, List.not_mem_nil, or_false] at hc
  rcases hc with rfl | rfl | rfl | rfl | rfl | rfl | rfl | rfl | rfl | rfl | rfl | rfl | rfl | rfl | rfl | rfl
  · exact w_c0
  · exact w_c1
  · exact w_c2
  · exact w_c3
  · exact w_c4
  · exact w_c5
  · exact w_c6
  · exact w_c7
  · exact w_c8
  · exact w_c9
  · exact w_c10
  · exact w_c11
  · exact w_c12
  · exact w_c13
  · exact w_c14
  · exact w_c15
set_option maxRecDepth 65536 in
theorem w_t1 : (words1.take 24).all (fun c => isCode c || c.before args0 about1) = true := by decide +kernel
set_option maxRecDepth 65536 in
theorem w_t2 : ((words1.drop 24).take 24).all (fun c => isCode c || c.before args0 about1) = true := by decide +kernel
set_option maxRecDepth 65536 in
theorem w_t3 : (((words1.drop 24).drop 24).take 24).all (fun c => isCode c || c.before args0 about1) = true := by decide +kernel
set_option maxRecDepth 65536 in
theorem w_t4 : (((words1.drop 24).drop 24).drop 24).all (fun c => isCode c || c.before args0 about1) = true := by decide +kernel
theorem w_tables : (allAtoms (Jvm.Cond.code x code maxLocals ret :: tables_1)).before args0 about1 = true := by
  rw [allAtoms_all]
  show words1.all (fun c => c.before args0 about1) = true
  refine all_split ?_ w_codes
  rw [← List.take_append_drop 24 words1, List.all_append, w_t1, ← List.take_append_drop 24 (words1.drop 24), List.all_append, w_t2, ← List.take_append_drop 24 ((words1.drop 24).drop 24), List.all_append, w_t3, w_t4]
  rfl
set_option maxRecDepth 65536 in
theorem w_rest : rest_1_c.before args0 about1 = true := by decide +kernel
set_option maxRecDepth 65536 in
theorem w_case : (Jvm.Cond.and given_1 narrow_1).before args0 about1 = true := by decide +kernel
set_option maxRecDepth 65536 in
theorem w_consts : constsHeld consts_1 about1 := Jvm.Lit.constsHeldB_iff.mp (by decide +kernel)
theorem w_applies : (headSpec (Jvm.Cond.code x code maxLocals ret :: tables_1) room_1).applies x e0.platform about1 = true :=
  (Spec.applies_iff w_frames).mpr ⟨w_running, w_runnable, w_alone, w_named, w_hears, w_ripe, w_room, w_tables⟩
theorem atStart : AtStart classFile x code maxLocals ret World_1 tables_1 room_1 Calls_1 rest_1 Pre_1 launch0 p0 e0 about1 theMethod args0 below0 :=
  ⟨lists_1, trivial, launch0.admits_env _ _ _, launch0.least_env, fairChoices_fair.cas, fairChoices_fair.clock, w_frames, w_args, w_heap, w_applies, ⟨w_consts, trivial⟩, w_rest, w_case⟩
end start1
theorem witness_1 : WitnessClaimed_1 := ⟨start1.p0, start1.e0, start1.about1, start1.theMethod, start1.args0, start1.below0, start1.atStart⟩
end Jvm.Pilot.@@N@@
