import JvmDerived
import JvmDerived.Pilot.@@N@@Statement
import JvmDerived.Pilot.@@N@@Code
set_option linter.unusedVariables false
set_option linter.unusedSimpArgs false
@@BLOCK:NumsL.lean.txt@@
namespace Jvm.RoadKit
open Sem ClassFile Op Lib Jvm.Stand Jvm.Free Jvm.LawKit
section Own
variable {p : Program} {l : Launch} {e : Env} {R : Room} {s : State} {m : MethodId} {args : Array Value} {below : List Frame} {meth : Method} {c : Code} {T : State} {locs : List Loc} {cells slots : Nat}
def own_Go (p : Program) (e : Env) (below : List Frame) (F : Outcome → State → Prop) (U : State) : Prop := ∃ s₂ o, Steps p.tables e below U s₂ ∧ s₂.status = .running ∧ Ended s₂ below o ∧ F o s₂
def own_Fin (s : State) (C S : Nat) (Q : Option Value → Heap → List Loc → Prop) (o : Outcome) (U' : State) : Prop := ∃ v L, o = .returned v ∧ Q v U'.heap L ∧ FrameEnd s o U' L C S
theorem own_go {F : Outcome → State → Prop} {U U' : State} (h : ∀ t, Steps p.tables e below U' t → Steps p.tables e below U t) (g : own_Go p e below F U') : own_Go p e below F U := by
  obtain ⟨s₂, o, h1, h2⟩ := g
  exact ⟨s₂, o, h _ h1, h2⟩
theorem own_cast {F : Outcome → State → Prop} {g g' : JFrame} (q : g = g') (k : own_Go p e below F (T.setTop g')) : own_Go p e below F (T.setTop g) := q ▸ k
theorem own_ret (X : Stand p l e R s m args below meth c T locs cells slots) (hx : p.tables.exec = Jvm.exec) (hlk : meth.locks = false) {pc : Nat} {Ls : Array Slot} {w : Value} {t : FieldType} {i : Instr} {rest : List Value} (hret : meth.sig.returnType = some t) (hn : narrow t w = w)
    (hi : (i = .ireturn ∧ (t = .int ∨ t = .boolean ∨ t = .byte ∨ t = .char ∨ t = .short) ∧ ∃ z, w = .int z) ∨ (i = .lreturn ∧ t = .long ∧ ∃ z, w = .long z) ∨ (i = .dreturn ∧ t = .double ∧ ∃ z, w = .double z) ∨ (i = .freturn ∧ t = .float ∧ ∃ z, w = .float z) ∨ (i = .areturn ∧ t.isReference = true ∧ w.isRef = true))
    (hd : decode c.code pc = .ok (i, 1)) {Q : Option Value → Heap → List Loc → Prop} (hQ : Q (some w) T.heap locs) {C S : Nat} (hc : cells ≤ C) (hs : slots ≤ S) : own_Go p e below (own_Fin s C S Q) (T.setTop (mkF m pc Ls (w :: rest))) := by
  obtain ⟨fs, hr, hrun, hended, hW, hsame⟩ := X.leave (v := some w) (fun h => by rw [hret] at h; cases h) hlk
  exact ⟨_, _, retOut X hx hret hn hi hd hr, hrun, hended, _, _, rfl, hQ, ⟨_, rfl⟩, hW, hsame.mono hc hs⟩
theorem own_retN (X : Stand p l e R s m args below meth c T locs cells slots) (hx : p.tables.exec = Jvm.exec) (hlk : meth.locks = false) {pc : Nat} {Ls : Array Slot} {z : Int32} {t : FieldType} {rest : List Value} (hret : meth.sig.returnType = some t) (ht : t = .boolean ∨ t = .byte ∨ t = .char ∨ t = .short)
    (hd : decode c.code pc = .ok (.ireturn, 1)) {Q : Option Value → Heap → List Loc → Prop} (hQ : Q (some (.int (nar t z))) T.heap locs) {C S : Nat} (hc : cells ≤ C) (hs : slots ≤ S) : own_Go p e below (own_Fin s C S Q) (T.setTop (mkF m pc Ls (.int z :: rest))) := by
  obtain ⟨fs, hr, hrun, hended, hW, hsame⟩ := X.leave (v := some (.int (nar t z))) (fun h => by rw [hret] at h; cases h) hlk
  exact ⟨_, _, retN X hx hret ht hd hr, hrun, hended, _, _, rfl, hQ, ⟨_, rfl⟩, hW, hsame.mono hc hs⟩
theorem own_retV (X : Stand p l e R s m args below meth c T locs cells slots) (hx : p.tables.exec = Jvm.exec) (hlk : meth.locks = false) {pc : Nat} {Ls : Array Slot} (hret : meth.sig.returnType = none)
    (hd : decode c.code pc = .ok (.return_, 1)) {Q : Option Value → Heap → List Loc → Prop} (hQ : Q none T.heap locs) {C S : Nat} (hc : cells ≤ C) (hs : slots ≤ S) : own_Go p e below (own_Fin s C S Q) (T.setTop (mkF m pc Ls [])) := by
  obtain ⟨fs, hr, hrun, hended, hW, hsame⟩ := X.leave (v := none) (fun _ => rfl) hlk
  exact ⟨_, _, X.returnOut hx hret hd hr, hrun, hended, _, _, rfl, hQ, ⟨_, rfl⟩, hW, hsame.mono hc hs⟩
def own_FinW (s : State) (C S : Nat) (Q : Option Value → Heap → List Loc → Prop) (o : Outcome) (U' : State) : Prop := ∃ v L, o = .returned v ∧ Q v U'.heap L ∧ ReturnedEndW s o U' L C S
theorem own_monoW {t : State} {o : Outcome} {L : List Loc} {k n C S : Nat} (h : ReturnedEndW s o t L k n) (hc : k ≤ C) (hs : n ≤ S) : ReturnedEndW s o t L C S := ⟨h.1, h.2.1, h.2.2.1, h.2.2.2.mono hc hs⟩
theorem own_retW {vm₁ : Vm} (X : Stand p l e R (s.setVm vm₁) m args below meth c T locs cells slots) (hx : p.tables.exec = Jvm.exec) {n : Nat} (hS : s.Since vm₁ n) (hk : n ≤ T.heap.size) (hlk : meth.locks = false) {pc : Nat} {Ls : Array Slot} {w : Value} {t : FieldType} {i : Instr} {rest : List Value} (hret : meth.sig.returnType = some t) (hn : narrow t w = w)
    (hi : (i = .ireturn ∧ (t = .int ∨ t = .boolean ∨ t = .byte ∨ t = .char ∨ t = .short) ∧ ∃ z, w = .int z) ∨ (i = .lreturn ∧ t = .long ∧ ∃ z, w = .long z) ∨ (i = .dreturn ∧ t = .double ∧ ∃ z, w = .double z) ∨ (i = .freturn ∧ t = .float ∧ ∃ z, w = .float z) ∨ (i = .areturn ∧ t.isReference = true ∧ w.isRef = true))
    (hd : decode c.code pc = .ok (i, 1)) {Q : Option Value → Heap → List Loc → Prop} (hQ : Q (some w) T.heap locs) {C S : Nat} (hc : cells ≤ C) (hs : slots ≤ S) : own_Go p e below (own_FinW s C S Q) (T.setTop (mkF m pc Ls (w :: rest))) := by
  obtain ⟨fs, hr, hrun, hended, hW⟩ := X.leaveW hS hk (v := some w) (fun h => by rw [hret] at h; cases h) hlk
  exact ⟨_, _, retOut X hx hret hn hi hd hr, hrun, hended, _, _, rfl, hQ, own_monoW hW hc hs⟩
theorem own_retNW {vm₁ : Vm} (X : Stand p l e R (s.setVm vm₁) m args below meth c T locs cells slots) (hx : p.tables.exec = Jvm.exec) {n : Nat} (hS : s.Since vm₁ n) (hk : n ≤ T.heap.size) (hlk : meth.locks = false) {pc : Nat} {Ls : Array Slot} {z : Int32} {t : FieldType} {rest : List Value} (hret : meth.sig.returnType = some t) (ht : t = .boolean ∨ t = .byte ∨ t = .char ∨ t = .short)
    (hd : decode c.code pc = .ok (.ireturn, 1)) {Q : Option Value → Heap → List Loc → Prop} (hQ : Q (some (.int (nar t z))) T.heap locs) {C S : Nat} (hc : cells ≤ C) (hs : slots ≤ S) : own_Go p e below (own_FinW s C S Q) (T.setTop (mkF m pc Ls (.int z :: rest))) := by
  obtain ⟨fs, hr, hrun, hended, hW⟩ := X.leaveW hS hk (v := some (.int (nar t z))) (fun h => by rw [hret] at h; cases h) hlk
  exact ⟨_, _, retN X hx hret ht hd hr, hrun, hended, _, _, rfl, hQ, own_monoW hW hc hs⟩
theorem own_retVW {vm₁ : Vm} (X : Stand p l e R (s.setVm vm₁) m args below meth c T locs cells slots) (hx : p.tables.exec = Jvm.exec) {n : Nat} (hS : s.Since vm₁ n) (hk : n ≤ T.heap.size) (hlk : meth.locks = false) {pc : Nat} {Ls : Array Slot} (hret : meth.sig.returnType = none)
    (hd : decode c.code pc = .ok (.return_, 1)) {Q : Option Value → Heap → List Loc → Prop} (hQ : Q none T.heap locs) {C S : Nat} (hc : cells ≤ C) (hs : slots ≤ S) : own_Go p e below (own_FinW s C S Q) (T.setTop (mkF m pc Ls [])) := by
  obtain ⟨fs, hr, hrun, hended, hW⟩ := X.leaveW hS hk (v := none) (fun _ => rfl) hlk
  exact ⟨_, _, X.returnOut hx hret hd hr, hrun, hended, _, _, rfl, hQ, own_monoW hW hc hs⟩
def own_FinH (Z : State) (EL : List (String × Nat)) (s : State) (C S : Nat) (Q : Option Value → Heap → List Loc → Prop) (o : Outcome) (U' : State) : Prop := ∃ v L, o = .returned v ∧ Q v U'.heap L ∧ CHr Z EL s.vm s.heap U'.vm U'.heap ∧ ReturnedEndW s o U' L C S
theorem own_retH {Z : State} {EL : List (String × Nat)} {vm₁ : Vm} (X : Stand p l e R (s.setVm vm₁) m args below meth c T locs cells slots) (hx : p.tables.exec = Jvm.exec) {n : Nat} (hS : s.Since vm₁ n) (hk : n ≤ T.heap.size) (hC : CHr Z EL s.vm s.heap T.vm T.heap) (hlk : meth.locks = false) {pc : Nat} {Ls : Array Slot} {w : Value} {t : FieldType} {i : Instr} {rest : List Value} (hret : meth.sig.returnType = some t) (hn : narrow t w = w)
    (hi : (i = .ireturn ∧ (t = .int ∨ t = .boolean ∨ t = .byte ∨ t = .char ∨ t = .short) ∧ ∃ z, w = .int z) ∨ (i = .lreturn ∧ t = .long ∧ ∃ z, w = .long z) ∨ (i = .dreturn ∧ t = .double ∧ ∃ z, w = .double z) ∨ (i = .freturn ∧ t = .float ∧ ∃ z, w = .float z) ∨ (i = .areturn ∧ t.isReference = true ∧ w.isRef = true))
    (hd : decode c.code pc = .ok (i, 1)) {Q : Option Value → Heap → List Loc → Prop} (hQ : Q (some w) T.heap locs) {C S : Nat} (hc : cells ≤ C) (hs : slots ≤ S) : own_Go p e below (own_FinH Z EL s C S Q) (T.setTop (mkF m pc Ls (w :: rest))) := by
  obtain ⟨fs, hr, hrun, hended, hW⟩ := X.leaveW hS hk (v := some w) (fun h => by rw [hret] at h; cases h) hlk
  exact ⟨_, _, retOut X hx hret hn hi hd hr, hrun, hended, _, _, rfl, hQ, hC, own_monoW hW hc hs⟩
theorem own_retNH {Z : State} {EL : List (String × Nat)} {vm₁ : Vm} (X : Stand p l e R (s.setVm vm₁) m args below meth c T locs cells slots) (hx : p.tables.exec = Jvm.exec) {n : Nat} (hS : s.Since vm₁ n) (hk : n ≤ T.heap.size) (hC : CHr Z EL s.vm s.heap T.vm T.heap) (hlk : meth.locks = false) {pc : Nat} {Ls : Array Slot} {z : Int32} {t : FieldType} {rest : List Value} (hret : meth.sig.returnType = some t) (ht : t = .boolean ∨ t = .byte ∨ t = .char ∨ t = .short)
    (hd : decode c.code pc = .ok (.ireturn, 1)) {Q : Option Value → Heap → List Loc → Prop} (hQ : Q (some (.int (nar t z))) T.heap locs) {C S : Nat} (hc : cells ≤ C) (hs : slots ≤ S) : own_Go p e below (own_FinH Z EL s C S Q) (T.setTop (mkF m pc Ls (.int z :: rest))) := by
  obtain ⟨fs, hr, hrun, hended, hW⟩ := X.leaveW hS hk (v := some (.int (nar t z))) (fun h => by rw [hret] at h; cases h) hlk
  exact ⟨_, _, retN X hx hret ht hd hr, hrun, hended, _, _, rfl, hQ, hC, own_monoW hW hc hs⟩
theorem own_retVH {Z : State} {EL : List (String × Nat)} {vm₁ : Vm} (X : Stand p l e R (s.setVm vm₁) m args below meth c T locs cells slots) (hx : p.tables.exec = Jvm.exec) {n : Nat} (hS : s.Since vm₁ n) (hk : n ≤ T.heap.size) (hC : CHr Z EL s.vm s.heap T.vm T.heap) (hlk : meth.locks = false) {pc : Nat} {Ls : Array Slot} (hret : meth.sig.returnType = none)
    (hd : decode c.code pc = .ok (.return_, 1)) {Q : Option Value → Heap → List Loc → Prop} (hQ : Q none T.heap locs) {C S : Nat} (hc : cells ≤ C) (hs : slots ≤ S) : own_Go p e below (own_FinH Z EL s C S Q) (T.setTop (mkF m pc Ls [])) := by
  obtain ⟨fs, hr, hrun, hended, hW⟩ := X.leaveW hS hk (v := none) (fun _ => rfl) hlk
  exact ⟨_, _, X.returnOut hx hret hd hr, hrun, hended, _, _, rfl, hQ, hC, own_monoW hW hc hs⟩
theorem own_safe_null {Z : State} {EL : List (String × Nat)} {vm : Vm} {h : Heap} {x : Addr} (hal : Z.vm.Alike vm) (E : Exa Z h x "java/lang/String") (F : Fld Z h x "java/lang/String" "value" "[B" .null) : Safe Z EL vm h x := fun B => by
  obtain ⟨p, -, u, a, -, q, -, G, rfl | rfl⟩ := B
  · obtain ⟨cell, cf, k, i, f, f1, f2, -, -, -, -, f7⟩ := F
    cases (show h[q.sa]? = some q.sC from G.ha).symm.trans f1
    obtain ⟨cS, ⟨⟨-, -, -, ⟨cv, kv, iv, s4, -⟩, -, -, -, s8, -⟩, -⟩, -⟩ := G
    obtain ⟨k', hi, -⟩ := State.fieldFound?_setVm (s := Z) hal f2
    have s4' : (Z.setVm vm).fieldFound? "java/lang/String" "value" "[B" = some (cv, kv, iv, q.fSV) := s4
    cases hi.symm.trans s4'
    rw [f7] at s8
    cases s8
  · obtain ⟨cell, k, e1, e2, e3, -, -⟩ := E
    cases (show h[q.sd]? = some q.SA from G.hd).symm.trans e1
    obtain ⟨cS, -, -, f, -⟩ := G
    have f' : vm.findClass "[B" = some q.SA.cls := f
    rw [hal.findClass] at f'
    obtain ⟨k1, q1, q2⟩ := Vm.findClass_spec f'
    obtain ⟨k2, q3, q4⟩ := Vm.findClass_spec e2
    cases q1.symm.trans q3
    exact absurd (q2.symm.trans q4) (by decide)
def own_Met (l : Launch) (Z : State) (y : MethodName) (bytes : ByteArray) (maxL : Nat) (ret : Option FieldType) (ws : List Jvm.Cond) (rm : Room) (as : Array Value) (h0 : Heap) (Q : Option Value → Heap → List Loc → Prop) : Prop :=
  MetFree l y (head1 (Jvm.Cond.code y bytes maxL ret :: ws) rm) (fun a U => a = as ∧ Z.Warmed39 U.vm ∧ U.heap = h0) (fun _ _ _ _ _ => True) (fun _ U o U' => ∃ v L, o = .returned v ∧ Q v U'.heap L ∧ FrameEnd U o U' L rm.cells rm.slots)
def own_MetW (l : Launch) (Z : State) (y : MethodName) (bytes : ByteArray) (maxL : Nat) (ret : Option FieldType) (ws : List Jvm.Cond) (rm : Room) (as : Array Value) (h0 : Heap) (Q : Option Value → Heap → List Loc → Prop) : Prop :=
  MetFree l y (head1 (Jvm.Cond.code y bytes maxL ret :: ws) rm) (fun a U => a = as ∧ Z.Warmed39 U.vm ∧ U.heap = h0) (fun _ _ _ _ _ => True) (fun _ U o U' => ∃ v L, o = .returned v ∧ Q v U'.heap L ∧ ReturnedEndW U o U' L rm.cells rm.slots)
def own_MetH (l : Launch) (Z : State) (EL : List (String × Nat)) (y : MethodName) (bytes : ByteArray) (maxL : Nat) (ret : Option FieldType) (ws : List Jvm.Cond) (rm : Room) (as : Array Value) (h0 : Heap) (Q : Option Value → Heap → List Loc → Prop) : Prop :=
  MetFree l y (head1 (Jvm.Cond.code y bytes maxL ret :: ws) rm) (fun a U => a = as ∧ Z.Warmed39 U.vm ∧ U.heap = h0 ∧ CHv Z EL U.vm h0) (fun _ _ _ _ _ => True) (fun _ U o U' => ∃ v L, o = .returned v ∧ Q v U'.heap L ∧ CHr Z EL U.vm U.heap U'.vm U'.heap ∧ ReturnedEndW U o U' L rm.cells rm.slots)
theorem own_enter {Z : State} {y : MethodName} {bytes : ByteArray} {maxL : Nat} {ret : Option FieldType} {ws : List Jvm.Cond} {rm : Room} {as : Array Value} {h0 : Heap} {Q : Option Value → Heap → List Loc → Prop} {own : String} (hpl : plainFor y = true) (ho : y.cls = own)
    (H : ∀ (p : Program) (e : Env) (s : State) (m : MethodId) (below : List Frame) (meth : Method) (c : Code) (s₁ : State), meth.locks = false → meth.sig.returnType = ret → p.tables.exec = Jvm.exec → c.code = bytes → c.maxLocals = maxL → s.vm.findClass own = some m.cls → meth.name = y.name → Z.Warmed39 s.vm → Stand p l e rm s m as below meth c s₁ [] 0 0 → s₁.heap = h0 → own_Go p e below (own_Fin s rm.cells rm.slots Q) (s₁.setTop (entryFrame m as maxL))) :
    own_Met l Z y bytes maxL ret ws rm as h0 Q := by
  refine MetFree.of_bodySF hpl hisR ?_
  intro p e s m args below meth c s₁ Bd hml0 hP hK
  obtain ⟨rfl, hZ, hh⟩ := hP
  subst ho
  exact H p e s m below meth c s₁ Bd.notSynchronized Bd.returns Bd.exec Bd.bytes hml0 (findClass_of_methodNamed Bd.named) (name_of_methodNamed Bd.named Bd.method).1 hZ (Stand.of_body Bd) (by rw [← hh, Bd.state]; rfl)
theorem own_enterW {Z : State} {y : MethodName} {bytes : ByteArray} {maxL : Nat} {ret : Option FieldType} {ws : List Jvm.Cond} {rm : Room} {as : Array Value} {h0 : Heap} {Q : Option Value → Heap → List Loc → Prop} {own : String} (hpl : plainFor y = true) (ho : y.cls = own)
    (H : ∀ (p : Program) (e : Env) (s : State) (m : MethodId) (below : List Frame) (meth : Method) (c : Code) (s₁ : State), meth.locks = false → meth.sig.returnType = ret → p.tables.exec = Jvm.exec → c.code = bytes → c.maxLocals = maxL → s.vm.findClass own = some m.cls → meth.name = y.name → Z.Warmed39 s.vm → Stand p l e rm (s.setVm s.vm) m as below meth c s₁ [] 0 0 → s₁.heap = h0 → own_Go p e below (own_FinW s rm.cells rm.slots Q) (s₁.setTop (entryFrame m as maxL))) :
    own_MetW l Z y bytes maxL ret ws rm as h0 Q := by
  refine MetFree.of_bodySF hpl hisR ?_
  intro p e s m args below meth c s₁ Bd hml0 hP hK
  obtain ⟨rfl, hZ, hh⟩ := hP
  subst ho
  exact H p e s m below meth c s₁ Bd.notSynchronized Bd.returns Bd.exec Bd.bytes hml0 (findClass_of_methodNamed Bd.named) (name_of_methodNamed Bd.named Bd.method).1 hZ (Stand.of_body Bd) (by rw [← hh, Bd.state]; rfl)
theorem own_enterH {Z : State} {EL : List (String × Nat)} {y : MethodName} {bytes : ByteArray} {maxL : Nat} {ret : Option FieldType} {ws : List Jvm.Cond} {rm : Room} {as : Array Value} {h0 : Heap} {Q : Option Value → Heap → List Loc → Prop} {own : String} (hpl : plainFor y = true) (ho : y.cls = own)
    (H : ∀ (p : Program) (e : Env) (s : State) (m : MethodId) (below : List Frame) (meth : Method) (c : Code) (s₁ : State), meth.locks = false → meth.sig.returnType = ret → p.tables.exec = Jvm.exec → c.code = bytes → c.maxLocals = maxL → s.vm.findClass own = some m.cls → meth.name = y.name → Z.Warmed39 s.vm → s.heap = h0 → CHv Z EL s.vm h0 → Stand p l e rm (s.setVm s.vm) m as below meth c s₁ [] 0 0 → s₁.heap = h0 → own_Go p e below (own_FinH Z EL s rm.cells rm.slots Q) (s₁.setTop (entryFrame m as maxL))) :
    own_MetH l Z EL y bytes maxL ret ws rm as h0 Q := by
  refine MetFree.of_bodySF hpl hisR ?_
  intro p e s m args below meth c s₁ Bd hml0 hP hK
  obtain ⟨rfl, hZ, hh, hH⟩ := hP
  subst ho
  exact H p e s m below meth c s₁ Bd.notSynchronized Bd.returns Bd.exec Bd.bytes hml0 (findClass_of_methodNamed Bd.named) (name_of_methodNamed Bd.named Bd.method).1 hZ hh hH (Stand.of_body Bd) (by rw [← hh, Bd.state]; rfl)
end Own
end Jvm.RoadKit
/- laws to paste: Road.backV, Road.lenW, Road.chN, Road.eqW, Road.codOf (cut by pick.py; bodies as the Statement names them) -/
namespace Jvm.Pilot.@@N@@
namespace StrChars
open Jvm Sem ClassFile Op Lib Jvm.Stand Jvm.Free.XT Jvm.Free.ALB Jvm.Free.JM Jvm.Free
open Jvm.Lib.Cold (StaticIs)
/-- a char array whose places are chars -/
def Ch (a : Addr) (A : Cell) (U : State) : Prop := Arr .char a A U ∧ Typed .char A
theorem Ch.mv {a : Addr} {A : Cell} {U U' : State} (h : Ch a A U) (hal : U.vm.Alike U'.vm) (hh : U'.heap = U.heap) : Ch a A U' := ⟨h.1.mv hal hh, h.2⟩
theorem Ch.keep {a : Addr} {A : Cell} {U U' : State} (h : Ch a A U) (hal : U.vm.Alike U'.vm) (hk : U'.heap[a]? = some A) : Ch a A U' := ⟨h.1.keep hal hk, h.2⟩
/-- what place i of a char[]'s cell holds -/
def cv (A : Cell) (i : Nat) : Int32 := match A.slots[i]? with | some (.int x) => x | _ => 0
theorem Ch.get {a : Addr} {A : Cell} {U : State} (h : Ch a A U) {i : Nat} (hi : i < A.slots.size) : A.slots[i]? = some (.int (cv A i)) := by
  have e := Array.getElem?_eq_getElem hi
  have f := h.2 i _ e
  unfold cv; rw [e]
  generalize A.slots[i] = v at f
  cases v <;> simp [fits] at f ⊢
/-- the byte that i2b leaves of a char -/
def lo8 (x : Int32) : Int32 := x.toInt8.toInt32
theorem fits_lo8 (y : Int32) : fits .byte (.int (lo8 y)) = true := by
  have h1 := y.toInt8.le_toInt
  have h2 := y.toInt8.toInt_lt
  simp only [lo8, fits, Bool.and_eq_true, decide_eq_true_eq, Int32.le_iff_toInt_le, Int8.toInt_toInt32, show (-128 : Int32).toInt = -128 from by decide, show (127 : Int32).toInt = 127 from by decide]
  omega
/-- A' is A but that each place j of lo .. hi - 1 holds f j -/
def Laid (A A' : Cell) (lo hi : Nat) (f : Nat → Value) : Prop := A'.cls = A.cls ∧ A'.vm = A.vm ∧ A'.slots.size = A.slots.size ∧ ∀ i, A'.slots[i]? = if lo ≤ i ∧ i < hi then some (f i) else A.slots[i]?
theorem Laid.zero (A : Cell) (lo : Nat) (f : Nat → Value) : Laid A A lo (lo + 0) f := ⟨rfl, rfl, rfl, fun i => by rw [if_neg (by omega)]⟩
theorem Laid.step {A Ak : Cell} {lo k : Nat} {f : Nat → Value} {v : Value} (h : Laid A Ak lo k f) (hlo : lo ≤ k) (hk : k < Ak.slots.size) (hv : v = f k) : Laid A (Ak.setSlot k v) lo (k + 1) f := by
  refine ⟨h.1, h.2.1, by simpa [Cell.setSlot] using h.2.2.1, fun i => ?_⟩
  by_cases e : k = i
  · subst e; rw [Cell.slots_setSlot_self v hk, if_pos (by omega), hv]
  · rw [Cell.slots_setSlot_ne v e, h.2.2.2 i]
    by_cases q : lo ≤ i ∧ i < k
    · rw [if_pos q, if_pos (by omega)]
    · rw [if_neg q, if_neg (by omega)]
def U16 : String := "java/lang/StringUTF16"
namespace Cmp5
def yN : MethodName := ⟨"java/lang/StringUTF16", "compress", "([CI[BII)I"⟩
abbrev yB : ByteArray := jdk_52_method_21_code
theorem d0 : decode yB 0 = .ok (.iconst 0, 1) := by decide +kernel
theorem d1 : decode yB 1 = .ok (.istore 5, 2) := by decide +kernel
theorem d3 : decode yB 3 = .ok (.iload 5, 2) := by decide +kernel
theorem d5 : decode yB 5 = .ok (.iload 4, 2) := by decide +kernel
theorem d7 : decode yB 7 = .ok (.if_icmp (.ge) 37, 3) := by decide +kernel
theorem d10 : decode yB 10 = .ok (.aload_n 0, 1) := by decide +kernel
theorem d11 : decode yB 11 = .ok (.iload_n 1, 1) := by decide +kernel
theorem d12 : decode yB 12 = .ok (.caload, 1) := by decide +kernel
theorem d13 : decode yB 13 = .ok (.istore 6, 2) := by decide +kernel
theorem d15 : decode yB 15 = .ok (.iload 6, 2) := by decide +kernel
theorem d17 : decode yB 17 = .ok (.sipush 255, 3) := by decide +kernel
theorem d20 : decode yB 20 = .ok (.if_icmp (.le) 6, 3) := by decide +kernel
theorem d26 : decode yB 26 = .ok (.aload_n 2, 1) := by decide +kernel
theorem d27 : decode yB 27 = .ok (.iload_n 3, 1) := by decide +kernel
theorem d28 : decode yB 28 = .ok (.iload 6, 2) := by decide +kernel
theorem d30 : decode yB 30 = .ok (.i2b, 1) := by decide +kernel
theorem d31 : decode yB 31 = .ok (.bastore, 1) := by decide +kernel
theorem d32 : decode yB 32 = .ok (.iinc 1 1, 3) := by decide +kernel
theorem d35 : decode yB 35 = .ok (.iinc 3 1, 3) := by decide +kernel
theorem d38 : decode yB 38 = .ok (.iinc 5 1, 3) := by decide +kernel
theorem d41 : decode yB 41 = .ok (.goto (-38), 3) := by decide +kernel
theorem d44 : decode yB 44 = .ok (.iload 4, 2) := by decide +kernel
theorem d46 : decode yB 46 = .ok (.ireturn, 1) := by decide +kernel
def site : List Cond := []
def tab : Cond := tabOf yN yB 7 (some .int) site
def P (b : Addr) (A : Cell) (d : Addr) (B : Cell) (o q len : Nat) (args : Array Value) (s : State) : Prop := args = #[.ref b, .int (Int32.ofNat o), .ref d, .int (Int32.ofNat q), .int (Int32.ofNat len)] ∧ Ch b A s ∧ Arr .byte d B s ∧ b ≠ d ∧ o + len ≤ A.slots.size ∧ q + len ≤ B.slots.size ∧ ∀ i, i < len → ¬ 255 < cv A (o + i)
def E (b : Addr) (A : Cell) (d : Addr) (B : Cell) (o q len : Nat) (r : Option Value) (s u : State) : Prop := r = some (.int (Int32.ofNat len)) ∧ ∃ B', Put d B' s u ∧ Laid B B' q (q + len) (fun j => Value.int (lo8 (cv A (o + (j - q)))))
/-- no char of the range above 255: len; the places written hold each char's low byte -/
theorem law (l : Launch) (b : Addr) (A : Cell) (d : Addr) (B : Cell) (o q len : Nat) : Law l yN 5 5 0 0 yB 7 (some .int) site (P b A d B o q len) (E b A d B o q len) (copyLocs d q len) 0 0 := by
  refine Law.of_walk (plainFor_of_name (by decide +kernel)) (by decide +kernel) (by decide +kernel) (by decide) (fun _ _ h => by rw [h.1]; rfl) (fun _ U U' hal hh h => ⟨h.1, h.2.1.mv hal hh, h.2.2.1.mv hal hh, h.2.2.2⟩) (fun r U U' V V' h1 hal h2 h => ⟨h.1, h.2.elim fun B' q => ⟨B', q.1.mv h1 h2, q.2⟩⟩) ?_
  intro p e s m args below meth c s₁ X0 hexec hbytes hml hret hlk hnm hown hh0 W hP
  obtain ⟨rfl, hA, hB, hne, l1, l2, hp⟩ := hP
  have c1 : Steps p.tables e below (s₁.setTop (entryFrame m #[.ref b, .int (Int32.ofNat o), .ref d, .int (Int32.ofNat q), .int (Int32.ofNat len)] 7)) (s₁.setTop (mkF m 0 #[.val (.ref b), .val (.int (Int32.ofNat o)), .val (.ref d), .val (.int (Int32.ofNat q)), .val (.int (Int32.ofNat len)), .unset, .unset] [])) := entry rfl
  have hA0 := hA.1.mv X0.warmed.alike hh0
  have hB0 := hB.mv X0.warmed.alike hh0
  have a31 := hA.1.2.2.2
  have c2 : Steps p.tables e below (s₁.setTop (entryFrame m #[.ref b, .int (Int32.ofNat o), .ref d, .int (Int32.ofNat q), .int (Int32.ofNat len)] 7)) (s₁.setTop (mkF m 3 #[.val (.ref b), .val (.int (Int32.ofNat o)), .val (.ref d), .val (.int (Int32.ofNat q)), .val (.int (Int32.ofNat len)), .val (.int 0), .unset] [])) := c1.trans (by
    refine iconstV X0.here hexec rfl 0 (hb hbytes d0) (by decide) ?_
    refine XS.istore X0.here hexec rfl (hb hbytes d1) rfl rfl ?_
    exact Steps.refl _)
  have loop : ∀ (r i : Nat), i + r = len → ∀ (z : Slot), (z = .unset ∨ ∃ w, z = .val w ∧ w.category = 1) → ∀ (Tl : State) (Bk : Cell), Stand p l e { frames := 0, locals := 0, cells := 0, slots := 0 } s m #[.ref b, .int (Int32.ofNat o), .ref d, .int (Int32.ofNat q), .int (Int32.ofNat len)] below meth c Tl ([] ++ copyLocs d q i) 0 0 → Put d Bk s₁ Tl → Laid B Bk q (q + i) (fun j => Value.int (lo8 (cv A (o + (j - q))))) →
      Steps p.tables e below (s₁.setTop (entryFrame m #[.ref b, .int (Int32.ofNat o), .ref d, .int (Int32.ofNat q), .int (Int32.ofNat len)] 7)) (Tl.setTop (mkF m 3 #[.val (.ref b), .val (.int (Int32.ofNat (o + i))), .val (.ref d), .val (.int (Int32.ofNat (q + i))), .val (.int (Int32.ofNat len)), .val (.int (Int32.ofNat i)), z] [])) → ∃ (T' : State) (B' : Cell) (z' : Slot), Stand p l e { frames := 0, locals := 0, cells := 0, slots := 0 } s m #[.ref b, .int (Int32.ofNat o), .ref d, .int (Int32.ofNat q), .int (Int32.ofNat len)] below meth c T' ([] ++ copyLocs d q len) 0 0 ∧ Put d B' s₁ T' ∧ Laid B B' q (q + len) (fun j => Value.int (lo8 (cv A (o + (j - q))))) ∧
      Steps p.tables e below (s₁.setTop (entryFrame m #[.ref b, .int (Int32.ofNat o), .ref d, .int (Int32.ofNat q), .int (Int32.ofNat len)] 7)) (T'.setTop (mkF m 3 #[.val (.ref b), .val (.int (Int32.ofNat (o + len))), .val (.ref d), .val (.int (Int32.ofNat (q + len))), .val (.int (Int32.ofNat len)), .val (.int (Int32.ofNat len)), z'] [])) := by
    intro r
    induction r with
    | zero =>
      intro i hi z hz Tl Bk Xl pl fl cl
      have hil : i = len := by omega
      rw [hil] at Xl fl cl
      exact ⟨Tl, Bk, z, Xl, pl, fl, cl⟩
    | succ r ih =>
      intro i hi z hz Tl Bk Xl pl fl cl
      have all := X0.warmed.alike.symm.trans Xl.warmed.alike
      have hAl := hA0.keep all (pl.other hne hA0.1)
      have hBk := hB0.like all pl.1 fl.1 fl.2.1 fl.2.2.1
      have hlt : q + i < Bk.slots.size := by rw [fl.2.2.1]; omega
      have c3 : Steps p.tables e below (s₁.setTop (entryFrame m #[.ref b, .int (Int32.ofNat o), .ref d, .int (Int32.ofNat q), .int (Int32.ofNat len)] 7)) (Tl.setTop (mkF m 12 #[.val (.ref b), .val (.int (Int32.ofNat (o + i))), .val (.ref d), .val (.int (Int32.ofNat (q + i))), .val (.int (Int32.ofNat len)), .val (.int (Int32.ofNat i)), z] [.int (Int32.ofNat (o + i)), .ref b])) := cl.trans (by
        refine XS.iload Xl.here hexec rfl (hb hbytes d3) rfl ?_
        refine XS.iload Xl.here hexec rfl (hb hbytes d5) rfl ?_
        refine XS.icmpNo Xl.here hexec rfl (hb hbytes d7) rfl (ii_ge_f (lt32 (by omega) (by omega))) ?_
        refine XS.aloadN Xl.here hexec rfl (hb hbytes d10) rfl rfl ?_
        refine XS.iloadN Xl.here hexec rfl (hb hbytes d11) rfl ?_
        exact Steps.refl _)
      have c4 : Steps p.tables e below (s₁.setTop (entryFrame m #[.ref b, .int (Int32.ofNat o), .ref d, .int (Int32.ofNat q), .int (Int32.ofNat len)] 7)) (Tl.setTop (mkF m 13 #[.val (.ref b), .val (.int (Int32.ofNat (o + i))), .val (.ref d), .val (.int (Int32.ofNat (q + i))), .val (.int (Int32.ofNat len)), .val (.int (Int32.ofNat i)), z] [.int (cv A (o + i))])) := c3.trans (by
        refine Xl.aget hexec hAl rfl (hA.get (i := o + i) (by omega)) rfl rfl (hb hbytes d12) ?_
        exact Steps.refl _)
      have c5 : Steps p.tables e below (s₁.setTop (entryFrame m #[.ref b, .int (Int32.ofNat o), .ref d, .int (Int32.ofNat q), .int (Int32.ofNat len)] 7)) (Tl.setTop (mkF m 15 #[.val (.ref b), .val (.int (Int32.ofNat (o + i))), .val (.ref d), .val (.int (Int32.ofNat (q + i))), .val (.int (Int32.ofNat len)), .val (.int (Int32.ofNat i)), .val (.int (cv A (o + i)))] [])) := c4.trans (by
        refine XS.istoreS Xl.here hexec rfl (hb hbytes d13) rfl rfl hz ?_
        exact Steps.refl _)
      have c6 : Steps p.tables e below (s₁.setTop (entryFrame m #[.ref b, .int (Int32.ofNat o), .ref d, .int (Int32.ofNat q), .int (Int32.ofNat len)] 7)) (Tl.setTop (mkF m 31 #[.val (.ref b), .val (.int (Int32.ofNat (o + i))), .val (.ref d), .val (.int (Int32.ofNat (q + i))), .val (.int (Int32.ofNat len)), .val (.int (Int32.ofNat i)), .val (.int (cv A (o + i)))] [.int (lo8 (cv A (o + i))), .int (Int32.ofNat (q + i)), .ref d])) := c5.trans (by
        refine XS.iload Xl.here hexec rfl (hb hbytes d15) rfl ?_
        refine sipushV Xl.here hexec rfl 255 (hb hbytes d17) (by decide) ?_
        refine XS.icmpYes Xl.here hexec rfl (pc0 := 20) rfl (hb hbytes d20) rfl (ii_le_t (hp i (by omega))) (by decide) rfl ?_
        refine XS.aloadN Xl.here hexec rfl (hb hbytes d26) rfl rfl ?_
        refine XS.iloadN Xl.here hexec rfl (hb hbytes d27) rfl ?_
        refine XS.iload Xl.here hexec rfl (hb hbytes d28) rfl ?_
        refine i2b Xl.here hexec rfl (hb hbytes d30) rfl ?_
        exact Steps.refl _)
      obtain ⟨T7, X7, p7, st7⟩ := Xl.aput hexec hBk rfl hlt rfl (fits_lo8 (cv A (o + i))) (g := (mkF m 31 #[.val (.ref b), .val (.int (Int32.ofNat (o + i))), .val (.ref d), .val (.int (Int32.ofNat (q + i))), .val (.int (Int32.ofNat len)), .val (.int (Int32.ofNat i)), .val (.int (cv A (o + i)))] [.int (lo8 (cv A (o + i))), .int (Int32.ofNat (q + i)), .ref d])) rfl (rest := []) rfl (hb hbytes d31)
      have c8 : Steps p.tables e below (s₁.setTop (entryFrame m #[.ref b, .int (Int32.ofNat o), .ref d, .int (Int32.ofNat q), .int (Int32.ofNat len)] 7)) (T7.setTop (mkF m 32 #[.val (.ref b), .val (.int (Int32.ofNat (o + i))), .val (.ref d), .val (.int (Int32.ofNat (q + i))), .val (.int (Int32.ofNat len)), .val (.int (Int32.ofNat i)), .val (.int (cv A (o + i)))] [])) := c6.trans (st7 _ (Steps.refl _))
      have c9 : Steps p.tables e below (s₁.setTop (entryFrame m #[.ref b, .int (Int32.ofNat o), .ref d, .int (Int32.ofNat q), .int (Int32.ofNat len)] 7)) (T7.setTop (mkF m 3 #[.val (.ref b), .val (.int (Int32.ofNat (o + i) + 1)), .val (.ref d), .val (.int (Int32.ofNat (q + i) + 1)), .val (.int (Int32.ofNat len)), .val (.int (Int32.ofNat i + 1)), .val (.int (cv A (o + i)))] [])) := c8.trans (by
        refine iincV X7.here hexec rfl 1 (hb hbytes d32) (by decide) rfl rfl ?_
        refine iincV X7.here hexec rfl 1 (hb hbytes d35) (by decide) rfl rfl ?_
        refine iincV X7.here hexec rfl 1 (hb hbytes d38) (by decide) rfl rfl ?_
        refine XS.goto X7.here hexec rfl (pc0 := 41) rfl (hb hbytes d41) (by decide) rfl ?_
        exact Steps.refl _)
      have c10 : Steps p.tables e below (s₁.setTop (entryFrame m #[.ref b, .int (Int32.ofNat o), .ref d, .int (Int32.ofNat q), .int (Int32.ofNat len)] 7)) (T7.setTop (mkF m 3 #[.val (.ref b), .val (.int (Int32.ofNat (o + (i + 1)))), .val (.ref d), .val (.int (Int32.ofNat (q + (i + 1)))), .val (.int (Int32.ofNat len)), .val (.int (Int32.ofNat (i + 1))), .val (.int (cv A (o + i)))] [])) := by
        have := c9
        rw [succ32, succ32, succ32] at this
        exact this
      exact ih (i + 1) (by omega) _ (Or.inr ⟨_, rfl, rfl⟩) T7 _ (by rw [copyLocs_step, ← List.append_assoc]; exact X7) (pl.trans p7) (fl.step (by omega) hlt (by simp)) c10
  obtain ⟨T9, B9, z9, X9, p9, f9, g9⟩ := loop len 0 (by omega) .unset (Or.inl rfl) s₁ B (by simpa [copyLocs] using X0) ⟨hB0.1, fun _ _ => rfl, rfl⟩ (Laid.zero _ _ _) c2
  have c11 : Steps p.tables e below (s₁.setTop (entryFrame m #[.ref b, .int (Int32.ofNat o), .ref d, .int (Int32.ofNat q), .int (Int32.ofNat len)] 7)) (T9.setTop (mkF m 46 #[.val (.ref b), .val (.int (Int32.ofNat (o + len))), .val (.ref d), .val (.int (Int32.ofNat (q + len))), .val (.int (Int32.ofNat len)), .val (.int (Int32.ofNat len)), z9] [.int (Int32.ofNat len)])) := g9.trans (by
    refine XS.iload X9.here hexec rfl (hb hbytes d3) rfl ?_
    refine XS.iload X9.here hexec rfl (hb hbytes d5) rfl ?_
    refine XS.icmpYes X9.here hexec rfl (pc0 := 7) rfl (hb hbytes d7) rfl (ii_ge_t (nlt32 (by omega) (Nat.le_refl _))) (by decide) rfl ?_
    refine XS.iload X9.here hexec rfl (hb hbytes d44) rfl ?_
    exact Steps.refl _)
  exact ⟨T9, some (.int (Int32.ofNat len)), _, _, _, X9, by simp, rfl, rfl, (fun h => by cases h), ⟨rfl, B9, p9.from hh0, f9⟩, fun fs hl => c11.trans (X9.ireturnOut hexec hret rfl (Or.inl rfl) (hb hbytes d46) hl)⟩
end Cmp5
namespace Cmp3
def yN : MethodName := ⟨"java/lang/StringUTF16", "compress", "([CII)[B"⟩
abbrev yB : ByteArray := jdk_52_method_16_code
theorem d0 : decode yB 0 = .ok (.iload_n 2, 1) := by decide +kernel
theorem d1 : decode yB 1 = .ok (.newarray .byte, 2) := by decide +kernel
theorem d3 : decode yB 3 = .ok (.astore_n 3, 1) := by decide +kernel
theorem d4 : decode yB 4 = .ok (.aload_n 0, 1) := by decide +kernel
theorem d5 : decode yB 5 = .ok (.iload_n 1, 1) := by decide +kernel
theorem d6 : decode yB 6 = .ok (.aload_n 3, 1) := by decide +kernel
theorem d7 : decode yB 7 = .ok (.iconst 0, 1) := by decide +kernel
theorem d8 : decode yB 8 = .ok (.iload_n 2, 1) := by decide +kernel
theorem d9 : decode yB 9 = .ok (.invokestatic 115, 3) := by decide +kernel
theorem d12 : decode yB 12 = .ok (.istore 4, 2) := by decide +kernel
theorem d14 : decode yB 14 = .ok (.iload 4, 2) := by decide +kernel
theorem d16 : decode yB 16 = .ok (.iload_n 2, 1) := by decide +kernel
theorem d17 : decode yB 17 = .ok (.if_icmp (.eq) 40, 3) := by decide +kernel
theorem d57 : decode yB 57 = .ok (.aload_n 3, 1) := by decide +kernel
theorem d58 : decode yB 58 = .ok (.areturn, 1) := by decide +kernel
def site : List Cond := [.arrayClass .byte, Cmp5.tab] ++ staticW U16 115 Cmp5.yN
def tab : Cond := tabOf yN yB 6 (some (.array .byte)) site
def P (b : Addr) (A : Cell) (o len : Nat) (args : Array Value) (s : State) : Prop := args = #[.ref b, .int (Int32.ofNat o), .int (Int32.ofNat len)] ∧ Ch b A s ∧ o + len ≤ A.slots.size ∧ len ≤ 536870912 ∧ ∀ i, i < len → ¬ 255 < cv A (o + i)
def E (b : Addr) (A : Cell) (o len : Nat) (r : Option Value) (s u : State) : Prop := NewArr .byte "[B" len (fun j => .int (lo8 (cv A (o + j)))) r s u ∧ u.heap.size = s.heap.size + 1
/-- no char of the range above 255: a new byte[] of their low bytes -/
theorem law (l : Launch) (b : Addr) (A : Cell) (o len : Nat) : Law l yN 3 3 1 18 yB 6 (some (.array .byte)) site (P b A o len) (E b A o len) [] 1 len := by
  refine Law.of_walk (plainFor_of_name (by decide +kernel)) (by decide +kernel) (by decide +kernel) (by decide) (fun _ _ h => by rw [h.1]; rfl) (fun _ U U' hal hh h => ⟨h.1, h.2.1.mv hal hh, h.2.2⟩) (fun r U U' V V' h1 hal h2 h => ⟨NewArr.mv r U U' V V' h1 hal h2 h.1, by rw [h1, h2]; exact h.2⟩) ?_
  intro p e s m args below meth c s₁ X0 hexec hbytes hml hret hlk hnm hown hh0 W hP
  obtain ⟨rfl, hA, l1, l2, hp⟩ := hP
  have a31 := hA.1.2.2.2
  have c1 : Steps p.tables e below (s₁.setTop (entryFrame m #[.ref b, .int (Int32.ofNat o), .int (Int32.ofNat len)] 6)) (s₁.setTop (mkF m 0 #[.val (.ref b), .val (.int (Int32.ofNat o)), .val (.int (Int32.ofNat len)), .unset, .unset, .unset] [])) := entry rfl
  have c2 : Steps p.tables e below (s₁.setTop (entryFrame m #[.ref b, .int (Int32.ofNat o), .int (Int32.ofNat len)] 6)) (s₁.setTop (mkF m 1 #[.val (.ref b), .val (.int (Int32.ofNat o)), .val (.int (Int32.ofNat len)), .unset, .unset, .unset] [.int (Int32.ofNat len)])) := c1.trans (by
    refine XS.iloadN X0.here hexec rfl (hb hbytes d0) rfl ?_
    exact Steps.refl _)
  obtain ⟨T3, B3, X3, ba3, bs3, bv3, bh3, bf3, st3⟩ := X0.anew hexec (atype := .byte) (wk W (.arrayClass .byte)) rfl (by show len * 1 ≤ _; omega) (by omega) (g := (mkF m 1 #[.val (.ref b), .val (.int (Int32.ofNat o)), .val (.int (Int32.ofNat len)), .unset, .unset, .unset] [.int (Int32.ofNat len)])) rfl (hb hbytes d1) (rest := []) rfl (Nat.le_refl _) (by show 0 + len ≤ len; omega)
  rw [hh0] at ba3 st3
  have kp3 : XT.Kept s T3 := (XT.Kept.of_eq hh0).push bh3
  have hA3 := hA.keep X3.warmed.alike (kp3 _ _ hA.1.1)
  have hne : b ≠ s.heap.size := hA.1.ne
  have c4 : Steps p.tables e below (s₁.setTop (entryFrame m #[.ref b, .int (Int32.ofNat o), .int (Int32.ofNat len)] 6)) (T3.setTop (mkF m 3 #[.val (.ref b), .val (.int (Int32.ofNat o)), .val (.int (Int32.ofNat len)), .unset, .unset, .unset] [.ref s.heap.size])) := c2.trans (st3 _ (Steps.refl _))
  have c5 : Steps p.tables e below (s₁.setTop (entryFrame m #[.ref b, .int (Int32.ofNat o), .int (Int32.ofNat len)] 6)) (T3.setTop (mkF m 9 #[.val (.ref b), .val (.int (Int32.ofNat o)), .val (.int (Int32.ofNat len)), .val (.ref s.heap.size), .unset, .unset] [.int (Int32.ofNat len), .int 0, .ref s.heap.size, .int (Int32.ofNat o), .ref b])) := c4.trans (by
    refine XS.astoreN X3.here hexec rfl (hb hbytes d3) rfl rfl rfl ?_
    refine XS.aloadN X3.here hexec rfl (hb hbytes d4) rfl rfl ?_
    refine XS.iloadN X3.here hexec rfl (hb hbytes d5) rfl ?_
    refine XS.aloadN X3.here hexec rfl (hb hbytes d6) rfl rfl ?_
    refine iconstV X3.here hexec rfl 0 (hb hbytes d7) (by decide) ?_
    refine XS.iloadN X3.here hexec rfl (hb hbytes d8) rfl ?_
    exact Steps.refl _)
  obtain ⟨v6, T6, X6, E6, g6⟩ := X3.callS hexec (Cmp5.law l b A s.heap.size B3 o 0 len) hown (wks W (staticW U16 115 Cmp5.yN)) (wk W Cmp5.tab) (W := 0) (Nat.le_of_ble_eq_true rfl) (Nat.le_of_ble_eq_true rfl) (Nat.le_refl _) (by show 0 + len + 0 ≤ len; omega) (g := (mkF m 9 #[.val (.ref b), .val (.int (Int32.ofNat o)), .val (.int (Int32.ofNat len)), .val (.ref s.heap.size), .unset, .unset] [.int (Int32.ofNat len), .int (Int32.ofNat 0), .ref s.heap.size, .int (Int32.ofNat o), .ref b])) rfl (by rw [hml]; rfl) c5 (argsL := [.ref b, .int (Int32.ofNat o), .ref s.heap.size, .int (Int32.ofNat 0), .int (Int32.ofNat len)]) (rest := []) rfl rfl (by show 2 * 0 + 0 ≤ _; decide) (hb hbytes d9) (⟨rfl, hA3, ba3, hne, l1, by rw [bs3]; simp, hp⟩)
  obtain ⟨rfl, B6, p6, f6⟩ := E6
  have c7 : Steps p.tables e below (s₁.setTop (entryFrame m #[.ref b, .int (Int32.ofNat o), .int (Int32.ofNat len)] 6)) (T6.setTop (mkF m 12 #[.val (.ref b), .val (.int (Int32.ofNat o)), .val (.int (Int32.ofNat len)), .val (.ref s.heap.size), .unset, .unset] [.int (Int32.ofNat len)])) := g6
  have c8 : Steps p.tables e below (s₁.setTop (entryFrame m #[.ref b, .int (Int32.ofNat o), .int (Int32.ofNat len)] 6)) (T6.setTop (mkF m 58 #[.val (.ref b), .val (.int (Int32.ofNat o)), .val (.int (Int32.ofNat len)), .val (.ref s.heap.size), .val (.int (Int32.ofNat len)), .unset] [.ref s.heap.size])) := c7.trans (by
    refine XS.istore X6.here hexec rfl (hb hbytes d12) rfl rfl ?_
    refine XS.iload X6.here hexec rfl (hb hbytes d14) rfl ?_
    refine XS.iloadN X6.here hexec rfl (hb hbytes d16) rfl ?_
    refine XS.icmpYes X6.here hexec rfl (pc0 := 17) rfl (hb hbytes d17) rfl (ii_eq_t rfl) (by decide) rfl ?_
    refine XS.aloadN X6.here hexec rfl (hb hbytes d57) rfl rfl ?_
    exact Steps.refl _)
  have X8 := X6.wide (L' := []) (cells' := 1) (slots' := len) (fun x hx hlt => by
    simp only [List.nil_append, copyLocs, List.mem_map, List.mem_range] at hx
    obtain ⟨i, -, rfl⟩ := hx
    exact absurd hlt (Nat.lt_irrefl _)) (Nat.le_refl _) (by omega)
  exact ⟨T6, some (.ref s.heap.size), _, _, _, X8, rfl, rfl, rfl, (fun h => by cases h), ⟨⟨rfl, B6, ba3.like (X3.warmed.alike.symm.trans X6.warmed.alike) p6.1 f6.1 f6.2.1 f6.2.2.1, f6.2.1.trans bv3, by rw [X6.warmed.alike.findClass, f6.1]; exact bf3, by rw [f6.2.2.1, bs3]; simp, fun j hj => by rw [f6.2.2.2 j, if_pos (by omega)]; rfl, kp3.put p6 (Nat.le_refl _)⟩, by rw [p6.2.2, bh3, hh0]; simp⟩, fun fs hl => c8.trans (X8.areturnOut hexec rfl hret rfl (hb hbytes d58) hl)⟩
end Cmp3
namespace CodL
def yN : MethodName := ⟨"java/lang/StringUTF16", "coderFromArrayLen", "([BI)B"⟩
abbrev yB : ByteArray := jdk_52_method_15_code
theorem d0 : decode yB 0 = .ok (.iload_n 1, 1) := by decide +kernel
theorem d1 : decode yB 1 = .ok (.aload_n 0, 1) := by decide +kernel
theorem d2 : decode yB 2 = .ok (.arraylength, 1) := by decide +kernel
theorem d3 : decode yB 3 = .ok (.isub, 1) := by decide +kernel
theorem d4 : decode yB 4 = .ok (.bipush 31, 2) := by decide +kernel
theorem d6 : decode yB 6 = .ok (.iushr, 1) := by decide +kernel
theorem d7 : decode yB 7 = .ok (.i2b, 1) := by decide +kernel
theorem d8 : decode yB 8 = .ok (.ireturn, 1) := by decide +kernel
def site : List Cond := []
def tab : Cond := tabOf yN yB 2 (some .byte) site
def P (d : Addr) (B : Cell) (args : Array Value) (s : State) : Prop := args = #[.ref d, .int (Int32.ofNat B.slots.size)] ∧ Arr .byte d B s
def E (r : Option Value) (s u : State) : Prop := XT.PureE (some (.int 0)) r s u
/-- an array as long as the number of chars: LATIN1 -/
theorem law (l : Launch) (d : Addr) (B : Cell) : Law l yN 2 2 0 0 yB 2 (some .byte) site (P d B) E [] 0 0 := by
  refine Law.of_walk (plainFor_of_name (by decide +kernel)) (by decide +kernel) (by decide +kernel) (by decide) (fun _ _ h => by rw [h.1]; rfl) (fun _ U U' hal hh h => ⟨h.1, h.2.mv hal hh⟩) (fun r U U' V V' h1 hal h2 h => XT.PureE.mv r U U' V V' h1 hal h2 h) ?_
  intro p e s m args below meth c s₁ X0 hexec hbytes hml hret hlk hnm hown hh0 W hP
  obtain ⟨rfl, hB⟩ := hP
  have hB0 := hB.mv X0.warmed.alike hh0
  have c1 : Steps p.tables e below (s₁.setTop (entryFrame m #[.ref d, .int (Int32.ofNat B.slots.size)] 2)) (s₁.setTop (mkF m 0 #[.val (.ref d), .val (.int (Int32.ofNat B.slots.size))] [])) := entry rfl
  have c2 : Steps p.tables e below (s₁.setTop (entryFrame m #[.ref d, .int (Int32.ofNat B.slots.size)] 2)) (s₁.setTop (mkF m 2 #[.val (.ref d), .val (.int (Int32.ofNat B.slots.size))] [.ref d, .int (Int32.ofNat B.slots.size)])) := c1.trans (by
    refine XS.iloadN X0.here hexec rfl (hb hbytes d0) rfl ?_
    refine XS.aloadN X0.here hexec rfl (hb hbytes d1) rfl rfl ?_
    exact Steps.refl _)
  have c3 : Steps p.tables e below (s₁.setTop (entryFrame m #[.ref d, .int (Int32.ofNat B.slots.size)] 2)) (s₁.setTop (mkF m 8 #[.val (.ref d), .val (.int (Int32.ofNat B.slots.size))] [.int (lo8 (ushr (Int32.ofNat B.slots.size - Int32.ofNat B.slots.size) 31))])) := c2.trans (by
    refine X0.alen hexec hB0 rfl rfl (hb hbytes d2) ?_
    refine XS.isub X0.here hexec rfl (hb hbytes d3) rfl ?_
    refine bipushV X0.here hexec rfl 31 (hb hbytes d4) (by decide) ?_
    refine iushr X0.here hexec rfl (hb hbytes d6) rfl ?_
    refine i2b X0.here hexec rfl (hb hbytes d7) rfl ?_
    exact Steps.refl _)
  have e0 : lo8 (ushr (Int32.ofNat B.slots.size - Int32.ofNat B.slots.size) 31) = 0 := by rw [Int32.sub_self]; decide
  rw [e0] at c3
  exact ⟨s₁, some (.int 0), _, _, _, X0, rfl, rfl, rfl, (fun h => by cases h), ⟨rfl, hh0⟩, fun fs hl => c3.trans (X0.ireturnOut hexec hret rfl (Or.inr (Or.inr (Or.inl rfl))) (hb hbytes d8) hl)⟩
end CodL
/-- the String at a is Latin-1 over a new byte[] (the heap's one new cell): the low bytes of the len chars of A from o on; every cell but a is kept -/
def Got (a : Addr) (D : Cell) (fV fC : Field) (A : Cell) (o len : Nat) (r : Option Value) (s u : State) : Prop := r = none ∧ ∃ D' V : Cell, Blank "java/lang/String" a D' u ∧ Same D D' [fV.slot, fC.slot] ∧ D'.slots[fV.slot]? = some (.ref s.heap.size) ∧ D'.slots[fC.slot]? = some (.int 0) ∧ Arr .byte s.heap.size V u ∧ V.vm = .none ∧ u.vm.findClass "[B" = some V.cls ∧ V.slots.size = len ∧ (∀ j, j < len → V.slots[j]? = some (.int (lo8 (cv A (o + j))))) ∧ (∀ (y : Addr) (c : Cell), y ≠ a → s.heap[y]? = some c → u.heap[y]? = some c) ∧ u.heap.size = s.heap.size + 1
theorem Got.mv {a : Addr} {D A : Cell} {fV fC : Field} {o len : Nat} : ∀ r (U U' V V' : State), U'.heap = U.heap → V.vm.Alike V'.vm → V'.heap = V.heap → Got a D fV fC A o len r U V → Got a D fV fC A o len r U' V' :=
  fun r U U' V V' h1 hal h2 ⟨e0, D', X, a1, a2, a3, a4, a5, a6, a7, a8, a9, a10, a11⟩ => ⟨e0, D', X, a1.mv hal h2, a2, by rw [h1]; exact a3, a4, by rw [h1]; exact a5.mv hal h2, a6, by rw [hal.findClass]; exact a7, a8, a9, by rw [h1, h2]; exact a10, by rw [h1, h2]; exact a11⟩
namespace New4
def yN : MethodName := ⟨"java/lang/String", "<init>", "([CIILjava/lang/Void;)V"⟩
abbrev yB : ByteArray := jdk_42_method_149_code
theorem d0 : decode yB 0 = .ok (.aload_n 0, 1) := by decide +kernel
theorem d1 : decode yB 1 = .ok (.invokespecial 1, 3) := by decide +kernel
theorem d4 : decode yB 4 = .ok (.iload_n 3, 1) := by decide +kernel
theorem d5 : decode yB 5 = .ok (.ifCond (.ne) 22, 3) := by decide +kernel
theorem d27 : decode yB 27 = .ok (.getstatic 38, 3) := by decide +kernel
theorem d30 : decode yB 30 = .ok (.ifCond (.eq) 28, 3) := by decide +kernel
theorem d33 : decode yB 33 = .ok (.aload_n 1, 1) := by decide +kernel
theorem d34 : decode yB 34 = .ok (.iload_n 2, 1) := by decide +kernel
theorem d35 : decode yB 35 = .ok (.iload_n 3, 1) := by decide +kernel
theorem d36 : decode yB 36 = .ok (.invokestatic 177, 3) := by decide +kernel
theorem d39 : decode yB 39 = .ok (.astore 5, 2) := by decide +kernel
theorem d41 : decode yB 41 = .ok (.aload_n 0, 1) := by decide +kernel
theorem d42 : decode yB 42 = .ok (.aload 5, 2) := by decide +kernel
theorem d44 : decode yB 44 = .ok (.iload_n 3, 1) := by decide +kernel
theorem d45 : decode yB 45 = .ok (.invokestatic 47, 3) := by decide +kernel
theorem d48 : decode yB 48 = .ok (.putfield 15, 3) := by decide +kernel
theorem d51 : decode yB 51 = .ok (.aload_n 0, 1) := by decide +kernel
theorem d52 : decode yB 52 = .ok (.aload 5, 2) := by decide +kernel
theorem d54 : decode yB 54 = .ok (.putfield 9, 3) := by decide +kernel
theorem d57 : decode yB 57 = .ok (.return_, 1) := by decide +kernel
def site : List Cond := [.fieldLink "java/lang/String" 38 "java/lang/String" "COMPACT_STRINGS" "Z", Cmp3.tab, CodL.tab, .laysFinal "java/lang/String" "java/lang/String" "value" "[B", .fieldLink "java/lang/String" 9 "java/lang/String" "value" "[B", .laysFinal "java/lang/String" "java/lang/String" "coder" "B", .fieldLink "java/lang/String" 15 "java/lang/String" "coder" "B"] ++ objW "java/lang/String" 1 ++ staticW "java/lang/String" 177 Cmp3.yN ++ staticW "java/lang/String" 47 CodL.yN
def tab : Cond := tabOf yN yB 6 none site
def P (a : Addr) (D : Cell) (fV fC : Field) (b : Addr) (A : Cell) (z : Int32) (o len : Nat) (args : Array Value) (s : State) : Prop := args = #[.ref a, .ref b, .int (Int32.ofNat o), .int (Int32.ofNat len), .null] ∧ Blank "java/lang/String" a D s ∧ Found "java/lang/String" "value" "[B" fV s ∧ Found "java/lang/String" "coder" "B" fC s ∧ Ch b A s ∧ StaticIs s "java/lang/String" "COMPACT_STRINGS" "Z" (.int z) ∧ ¬ z = 0 ∧ 0 < len ∧ o + len ≤ A.slots.size ∧ len ≤ 536870912 ∧ ∀ i, i < len → ¬ 255 < cv A (o + i)
def E (a : Addr) (D : Cell) (fV fC : Field) (A : Cell) (o len : Nat) (r : Option Value) (s u : State) : Prop := Got a D fV fC A o len r s u
/-- len > 0, no char of the range above 255: a Latin-1 String of their low bytes -/
theorem law (l : Launch) (a : Addr) (D : Cell) (fV fC : Field) (b : Addr) (A : Cell) (z : Int32) (o len : Nat) : Law l yN 5 4 2 35 yB 6 none site (P a D fV fC b A z o len) (E a D fV fC A o len) [⟨a, fC.slot⟩, ⟨a, fV.slot⟩] 1 len := by
  refine Law.of_walk (plainFor_of_name (by decide +kernel)) (by decide +kernel) (by decide +kernel) (by decide) (fun _ _ h => by rw [h.1]; rfl) (fun _ U U' hal hh h => ⟨h.1, h.2.1.mv hal hh, h.2.2.1.al hal, h.2.2.2.1.al hal, h.2.2.2.2.1.mv hal hh, h.2.2.2.2.2.1.there hal hh, h.2.2.2.2.2.2⟩) (fun r U U' V V' h1 hal h2 h => Got.mv r U U' V V' h1 hal h2 h) ?_
  intro p e s m args below meth c s₁ X0 hexec hbytes hml hret hlk hnm hown hh0 W hP
  obtain ⟨rfl, hB, f1, f2, hA, s1, hz, l0, l1, l2, hp⟩ := hP
  have a31 := hA.1.2.2.2
  have c1 : Steps p.tables e below (s₁.setTop (entryFrame m #[.ref a, .ref b, .int (Int32.ofNat o), .int (Int32.ofNat len), .null] 6)) (s₁.setTop (mkF m 0 #[.val (.ref a), .val (.ref b), .val (.int (Int32.ofNat o)), .val (.int (Int32.ofNat len)), .val .null, .unset] [])) := entry rfl
  have c2 : Steps p.tables e below (s₁.setTop (entryFrame m #[.ref a, .ref b, .int (Int32.ofNat o), .int (Int32.ofNat len), .null] 6)) (s₁.setTop (mkF m 1 #[.val (.ref a), .val (.ref b), .val (.int (Int32.ofNat o)), .val (.int (Int32.ofNat len)), .val .null, .unset] [.ref a])) := c1.trans (by
    refine XS.aloadN X0.here hexec rfl (hb hbytes d0) rfl rfl ?_
    exact Steps.refl _)
  obtain ⟨T3, X3, q3, st3⟩ := X0.oinit hexec hown (wks W (objW "java/lang/String" 1)) (g := (mkF m 1 #[.val (.ref a), .val (.ref b), .val (.int (Int32.ofNat o)), .val (.int (Int32.ofNat len)), .val .null, .unset] [.ref a])) rfl (by rw [hml]; rfl) (rest := []) rfl (hb hbytes d1) (W := 0) (by show 2 * 0 + 0 ≤ _; decide) (Nat.le_of_ble_eq_true rfl) (Nat.le_of_ble_eq_true rfl)
  have hh3 := q3.trans hh0
  have c4 : Steps p.tables e below (s₁.setTop (entryFrame m #[.ref a, .ref b, .int (Int32.ofNat o), .int (Int32.ofNat len), .null] 6)) (T3.setTop (mkF m 27 #[.val (.ref a), .val (.ref b), .val (.int (Int32.ofNat o)), .val (.int (Int32.ofNat len)), .val .null, .unset] [])) := (c2.trans (st3 _ (Steps.refl _))).trans (by
    refine XS.iloadN X3.here hexec rfl (hb hbytes d4) rfl ?_
    refine XS.ifYes X3.here hexec rfl (pc0 := 5) rfl (hb hbytes d5) rfl (i0_ne_t (nz32 (by omega) l0)) (by decide) rfl ?_
    exact Steps.refl _)
  obtain ⟨T5, X5, q5, st5⟩ := X3.sget hexec hown (wk W (.fieldLink "java/lang/String" 38 "java/lang/String" "COMPACT_STRINGS" "Z")) s1 (fun _ _ h => by rw [hh3]; exact h) (g := (mkF m 27 #[.val (.ref a), .val (.ref b), .val (.int (Int32.ofNat o)), .val (.int (Int32.ofNat len)), .val .null, .unset] [])) rfl (hb hbytes d27)
  have hh5 := q5.trans hh3
  have c6 : Steps p.tables e below (s₁.setTop (entryFrame m #[.ref a, .ref b, .int (Int32.ofNat o), .int (Int32.ofNat len), .null] 6)) (T5.setTop (mkF m 30 #[.val (.ref a), .val (.ref b), .val (.int (Int32.ofNat o)), .val (.int (Int32.ofNat len)), .val .null, .unset] [.int z])) := c4.trans (st5 _ (Steps.refl _))
  have c7 : Steps p.tables e below (s₁.setTop (entryFrame m #[.ref a, .ref b, .int (Int32.ofNat o), .int (Int32.ofNat len), .null] 6)) (T5.setTop (mkF m 36 #[.val (.ref a), .val (.ref b), .val (.int (Int32.ofNat o)), .val (.int (Int32.ofNat len)), .val .null, .unset] [.int (Int32.ofNat len), .int (Int32.ofNat o), .ref b])) := c6.trans (by
    refine XS.ifNo X5.here hexec rfl (hb hbytes d30) rfl (i0_eq_f hz) ?_
    refine XS.aloadN X5.here hexec rfl (hb hbytes d33) rfl rfl ?_
    refine XS.iloadN X5.here hexec rfl (hb hbytes d34) rfl ?_
    refine XS.iloadN X5.here hexec rfl (hb hbytes d35) rfl ?_
    exact Steps.refl _)
  obtain ⟨v8, T8, X8, E8, g8⟩ := X5.callS hexec (Cmp3.law l b A o len) hown (wks W (staticW "java/lang/String" 177 Cmp3.yN)) (wk W Cmp3.tab) (W := 0) (Nat.le_of_ble_eq_true rfl) (Nat.le_of_ble_eq_true rfl) (Nat.le_refl _) (by show 0 + len ≤ len; omega) (g := (mkF m 36 #[.val (.ref a), .val (.ref b), .val (.int (Int32.ofNat o)), .val (.int (Int32.ofNat len)), .val .null, .unset] [.int (Int32.ofNat len), .int (Int32.ofNat o), .ref b])) rfl (by rw [hml]; rfl) c7 (argsL := [.ref b, .int (Int32.ofNat o), .int (Int32.ofNat len)]) (rest := []) rfl rfl (by show 2 * 0 + 0 ≤ _; decide) (hb hbytes d36) (⟨rfl, hA.mv X5.warmed.alike hh5, l1, l2, hp⟩)
  obtain ⟨e8, z8⟩ := E8
  obtain ⟨rfl, N, n1, n2, n3, n4, n5, n6⟩ := NewArr.mv _ T5 s _ _ hh5.symm (Vm.Alike.refl _) rfl e8
  rw [hh5] at z8
  have hB1 := hB.keep X8.warmed.alike (n6 _ _ hB.1)
  have hne : s.heap.size ≠ a := (Nat.ne_of_lt (Array.getElem?_eq_some_iff.mp hB.1).1).symm
  have c9 : Steps p.tables e below (s₁.setTop (entryFrame m #[.ref a, .ref b, .int (Int32.ofNat o), .int (Int32.ofNat len), .null] 6)) (T8.setTop (mkF m 39 #[.val (.ref a), .val (.ref b), .val (.int (Int32.ofNat o)), .val (.int (Int32.ofNat len)), .val .null, .unset] [.ref s.heap.size])) := g8
  have c10 : Steps p.tables e below (s₁.setTop (entryFrame m #[.ref a, .ref b, .int (Int32.ofNat o), .int (Int32.ofNat len), .null] 6)) (T8.setTop (mkF m 45 #[.val (.ref a), .val (.ref b), .val (.int (Int32.ofNat o)), .val (.int (Int32.ofNat len)), .val .null, .val (.ref s.heap.size)] [.int (Int32.ofNat N.slots.size), .ref s.heap.size, .ref a])) := by
    have hc : Steps p.tables e below (s₁.setTop (entryFrame m #[.ref a, .ref b, .int (Int32.ofNat o), .int (Int32.ofNat len), .null] 6)) (T8.setTop (mkF m 45 #[.val (.ref a), .val (.ref b), .val (.int (Int32.ofNat o)), .val (.int (Int32.ofNat len)), .val .null, .val (.ref s.heap.size)] [.int (Int32.ofNat len), .ref s.heap.size, .ref a])) := c9.trans (by
      refine XS.astore X8.here hexec rfl (hb hbytes d39) rfl rfl rfl ?_
      refine XS.aloadN X8.here hexec rfl (hb hbytes d41) rfl rfl ?_
      refine XS.aload X8.here hexec rfl (hb hbytes d42) rfl rfl ?_
      refine XS.iloadN X8.here hexec rfl (hb hbytes d44) rfl ?_
      exact Steps.refl _)
    rw [n4]; exact hc
  obtain ⟨v11, T11, X11, E11, g11⟩ := X8.callS hexec (CodL.law l s.heap.size N) hown (wks W (staticW "java/lang/String" 47 CodL.yN)) (wk W CodL.tab) (W := 1) (Nat.le_of_ble_eq_true rfl) (Nat.le_of_ble_eq_true rfl) (Nat.le_refl _) (by show 0 + len + 0 ≤ len; omega) (g := (mkF m 45 #[.val (.ref a), .val (.ref b), .val (.int (Int32.ofNat o)), .val (.int (Int32.ofNat len)), .val .null, .val (.ref s.heap.size)] [.int (Int32.ofNat N.slots.size), .ref s.heap.size, .ref a])) rfl (by rw [hml]; rfl) c10 (argsL := [.ref s.heap.size, .int (Int32.ofNat N.slots.size)]) (rest := [.ref a]) rfl rfl (by show 2 * 0 + (1 + 0) ≤ _; decide) (hb hbytes d45) (⟨rfl, n1⟩)
  obtain ⟨rfl, q11⟩ := E11
  have hB11 := hB1.mv (X8.warmed.alike.symm.trans X11.warmed.alike) q11
  have c12 : Steps p.tables e below (s₁.setTop (entryFrame m #[.ref a, .ref b, .int (Int32.ofNat o), .int (Int32.ofNat len), .null] 6)) (T11.setTop (mkF m 48 #[.val (.ref a), .val (.ref b), .val (.int (Int32.ofNat o)), .val (.int (Int32.ofNat len)), .val .null, .val (.ref s.heap.size)] [.int 0, .ref a])) := g11
  obtain ⟨T13, X13, p13, bl13, sl13, st13⟩ := X11.finit hexec hown (wk W (.fieldLink "java/lang/String" 15 "java/lang/String" "coder" "B")) (Or.inr ⟨_, (wk W (.laysFinal "java/lang/String" "java/lang/String" "coder" "B"))⟩) (Or.inl ⟨rfl, hnm⟩) f2 (Or.inl rfl) hB11 (t := .byte) (by decide +kernel) rfl (g := (mkF m 48 #[.val (.ref a), .val (.ref b), .val (.int (Int32.ofNat o)), .val (.int (Int32.ofNat len)), .val .null, .val (.ref s.heap.size)] [.int 0, .ref a])) rfl (rest := []) rfl (hb hbytes d48)
  have c14 : Steps p.tables e below (s₁.setTop (entryFrame m #[.ref a, .ref b, .int (Int32.ofNat o), .int (Int32.ofNat len), .null] 6)) (T13.setTop (mkF m 54 #[.val (.ref a), .val (.ref b), .val (.int (Int32.ofNat o)), .val (.int (Int32.ofNat len)), .val .null, .val (.ref s.heap.size)] [.ref s.heap.size, .ref a])) := (c12.trans (st13 _ (Steps.refl _))).trans (by
    refine XS.aloadN X13.here hexec rfl (hb hbytes d51) rfl rfl ?_
    refine XS.aload X13.here hexec rfl (hb hbytes d52) rfl rfl ?_
    exact Steps.refl _)
  obtain ⟨T15, X15, p15, bl15, sl15, st15⟩ := X13.finit hexec hown (wk W (.fieldLink "java/lang/String" 9 "java/lang/String" "value" "[B")) (Or.inr ⟨_, (wk W (.laysFinal "java/lang/String" "java/lang/String" "value" "[B"))⟩) (Or.inl ⟨rfl, hnm⟩) f1 (Or.inl rfl) bl13 (t := (.array .byte)) (by decide +kernel) rfl (g := (mkF m 54 #[.val (.ref a), .val (.ref b), .val (.int (Int32.ofNat o)), .val (.int (Int32.ofNat len)), .val .null, .val (.ref s.heap.size)] [.ref s.heap.size, .ref a])) rfl (rest := []) rfl (hb hbytes d54)
  have c16 : Steps p.tables e below (s₁.setTop (entryFrame m #[.ref a, .ref b, .int (Int32.ofNat o), .int (Int32.ofNat len), .null] 6)) (T15.setTop (mkF m 57 #[.val (.ref a), .val (.ref b), .val (.int (Int32.ofNat o)), .val (.int (Int32.ofNat len)), .val .null, .val (.ref s.heap.size)] [])) := c14.trans (st15 _ (Steps.refl _))
  have ap := apart (Or.inr ⟨_, (wk W (.laysFinal "java/lang/String" "java/lang/String" "value" "[B"))⟩) (Or.inr ⟨_, (wk W (.laysFinal "java/lang/String" "java/lang/String" "coder" "B"))⟩) f1 f2 (t₁ := .array .byte) (t₂ := .byte) (by decide +kernel) (by decide +kernel) (by decide)
  have al := X8.warmed.alike.symm.trans X15.warmed.alike
  have n7 : T11.heap[s.heap.size]? = some N := by rw [q11]; exact n1.1
  exact ⟨T15, none, _, _, _, X15, by simp, rfl, by omega, (fun _ => rfl), ⟨rfl, _, N, bl15, ((Same.refl D _).set _ (by simp)).set _ (by simp), sl15, (Cell.slots_setSlot_ne _ ap).trans sl13, n1.keep al (p15.other hne (p13.other hne n7)), n2, by rw [al.findClass]; exact n3, n4, n5, fun y c h1 h2 => p15.other h1 (p13.other h1 (by rw [q11]; exact n6 y c h2)), by rw [p15.2.2, p13.2.2, q11]; exact z8⟩, fun fs hl => c16.trans (X15.returnOut hexec hret (hb hbytes d57) hl)⟩
end New4
namespace New1
def yN : MethodName := ⟨"java/lang/String", "<init>", "([C)V"⟩
abbrev yB : ByteArray := jdk_42_method_3_code
theorem d0 : decode yB 0 = .ok (.aload_n 0, 1) := by decide +kernel
theorem d1 : decode yB 1 = .ok (.aload_n 1, 1) := by decide +kernel
theorem d2 : decode yB 2 = .ok (.iconst 0, 1) := by decide +kernel
theorem d3 : decode yB 3 = .ok (.aload_n 1, 1) := by decide +kernel
theorem d4 : decode yB 4 = .ok (.arraylength, 1) := by decide +kernel
theorem d5 : decode yB 5 = .ok (.aconst_null, 1) := by decide +kernel
theorem d6 : decode yB 6 = .ok (.invokespecial 27, 3) := by decide +kernel
theorem d9 : decode yB 9 = .ok (.return_, 1) := by decide +kernel
def site : List Cond := [New4.tab] ++ initW "java/lang/String" 27 New4.yN
def tab : Cond := tabOf yN yB 2 none site
def P (a : Addr) (D : Cell) (fV fC : Field) (b : Addr) (A : Cell) (z : Int32) (args : Array Value) (s : State) : Prop := args = #[.ref a, .ref b] ∧ Blank "java/lang/String" a D s ∧ Found "java/lang/String" "value" "[B" fV s ∧ Found "java/lang/String" "coder" "B" fC s ∧ Ch b A s ∧ StaticIs s "java/lang/String" "COMPACT_STRINGS" "Z" (.int z) ∧ ¬ z = 0 ∧ 0 < A.slots.size ∧ A.slots.size ≤ 536870912 ∧ ∀ i, i < A.slots.size → ¬ 255 < cv A i
def E (a : Addr) (D : Cell) (fV fC : Field) (A : Cell) (r : Option Value) (s u : State) : Prop := Got a D fV fC A 0 A.slots.size r s u
/-- new String(chars), not empty, no char above 255: a Latin-1 String of their low bytes -/
theorem law (l : Launch) (a : Addr) (D : Cell) (fV fC : Field) (b : Addr) (A : Cell) (z : Int32) : Law l yN 2 1 3 52 yB 2 none site (P a D fV fC b A z) (E a D fV fC A) [⟨a, fC.slot⟩, ⟨a, fV.slot⟩] 1 A.slots.size := by
  refine Law.of_walk (plainFor_of_name (by decide +kernel)) (by decide +kernel) (by decide +kernel) (by decide) (fun _ _ h => by rw [h.1]; rfl) (fun _ U U' hal hh h => ⟨h.1, h.2.1.mv hal hh, h.2.2.1.al hal, h.2.2.2.1.al hal, h.2.2.2.2.1.mv hal hh, h.2.2.2.2.2.1.there hal hh, h.2.2.2.2.2.2⟩) (fun r U U' V V' h1 hal h2 h => Got.mv r U U' V V' h1 hal h2 h) ?_
  intro p e s m args below meth c s₁ X0 hexec hbytes hml hret hlk hnm hown hh0 W hP
  obtain ⟨rfl, hB, f1, f2, hA, s1, hz, l0, l2, hp⟩ := hP
  have c1 : Steps p.tables e below (s₁.setTop (entryFrame m #[.ref a, .ref b] 2)) (s₁.setTop (mkF m 0 #[.val (.ref a), .val (.ref b)] [])) := entry rfl
  have c2 : Steps p.tables e below (s₁.setTop (entryFrame m #[.ref a, .ref b] 2)) (s₁.setTop (mkF m 6 #[.val (.ref a), .val (.ref b)] [.null, .int (Int32.ofNat A.slots.size), .int 0, .ref b, .ref a])) := c1.trans (by
    refine XS.aloadN X0.here hexec rfl (hb hbytes d0) rfl rfl ?_
    refine XS.aloadN X0.here hexec rfl (hb hbytes d1) rfl rfl ?_
    refine iconstV X0.here hexec rfl 0 (hb hbytes d2) (by decide) ?_
    refine XS.aloadN X0.here hexec rfl (hb hbytes d3) rfl rfl ?_
    refine X0.alen hexec (hA.1.mv X0.warmed.alike hh0) rfl rfl (hb hbytes d4) ?_
    refine XS.aconstNull X0.here hexec rfl (hb hbytes d5) ?_
    exact Steps.refl _)
  obtain ⟨v3, T3, X3, E3, g3⟩ := X0.callN hexec (New4.law l a D fV fC b A z 0 A.slots.size) rfl hown (wks W (initW "java/lang/String" 27 New4.yN)) (W New4.tab (by simp only [site, List.mem_cons, List.mem_append, true_or, or_true])) (W := 0) (Nat.le_of_ble_eq_true rfl) (Nat.le_of_ble_eq_true rfl) (Nat.le_refl _) (by show 0 + A.slots.size ≤ A.slots.size; omega) (g := (mkF m 6 #[.val (.ref a), .val (.ref b)] [.null, .int (Int32.ofNat A.slots.size), .int (Int32.ofNat 0), .ref b, .ref a])) rfl (by rw [hml]; rfl) c2 (argsL := [.ref b, .int (Int32.ofNat 0), .int (Int32.ofNat A.slots.size), .null]) (rest := []) rfl rfl (by show 2 * 0 + 0 ≤ _; decide) (hb hbytes d6) (⟨rfl, hB.mv X0.warmed.alike hh0, f1.al X0.warmed.alike, f2.al X0.warmed.alike, hA.mv X0.warmed.alike hh0, s1.there X0.warmed.alike hh0, hz, l0, by omega, l2, fun i hi => by rw [Nat.zero_add]; exact hp i hi⟩)
  have e0 := Got.mv _ s₁ s _ _ hh0.symm (Vm.Alike.refl _) rfl E3
  obtain rfl := e0.1
  have c4 : Steps p.tables e below (s₁.setTop (entryFrame m #[.ref a, .ref b] 2)) (T3.setTop (mkF m 9 #[.val (.ref a), .val (.ref b)] [])) := g3
  exact ⟨T3, none, _, _, _, X3, by simp, rfl, by omega, (fun _ => rfl), e0, fun fs hl => c4.trans (X3.returnOut hexec hret (hb hbytes d9) hl)⟩
theorem pays {l : Launch} {R : Room} {p : Program} {e : Env} {below : List Frame} {s : State} {sargs : Array Value} {len W : Nat} (a : Addr) (D : Cell) (fV fC : Field) (b : Addr) (A : Cell) (z : Int32) (htab : tab.before sargs s = true) (hfr : 4 ≤ R.frames) (hlo : W + 65 ≤ R.locals) :
    Back l R p e below s sargs yN len W (fun A₁ a₁ => A₁.cells + 1 ≤ R.cells ∧ A₁.slots + A.slots.size ≤ R.slots ∧ P a D fV fC b A z a₁ A₁.U) (fun A₁ _ v₁ B₁ => E a D fV fC A v₁ A₁.U B₁.U ∧ B₁.locs = A₁.locs ++ [⟨a, fC.slot⟩, ⟨a, fV.slot⟩] ∧ B₁.cells = A₁.cells + 1 ∧ B₁.slots = A₁.slots + A.slots.size) :=
  (law l a D fV fC b A z).pays htab hfr (by omega)
end New1
/-- the byte, read back as charAt reads it, is the char -/
theorem lo8_mask {x : Int32} (h0 : ¬ x < 0) (h1 : ¬ 255 < x) : lo8 x &&& 255 = x := by
  have t : ∀ k : Fin 256, lo8 (Int32.ofNat k.val) &&& 255 = Int32.ofNat k.val := by decide +kernel
  rw [Int32.lt_iff_toInt_lt] at h0 h1
  have e0 : (0 : Int32).toInt = 0 := rfl
  have e1 : (255 : Int32).toInt = 255 := rfl
  obtain ⟨k, hk⟩ : ∃ k : Nat, x.toInt = k := ⟨x.toInt.toNat, by omega⟩
  have hx : x = Int32.ofNat k := Int32.toInt_inj.mp (by rw [hk, Int32.toInt_ofNat_small (by omega)])
  rw [hx]
  exact t ⟨k, by omega⟩
end StrChars
namespace StrChars.Road
open Jvm Sem ClassFile Op Lib Jvm.Stand Jvm.Free Jvm.Free.XT
open Jvm.Lib.Cold (StaticIs)
abbrev ST : String := "java/lang/String"
/-- every table word that New1's law asks, flat -/
abbrev words : List Jvm.Cond := [.code New1.yN New1.yB 2 none, .initialized ST, .methodLink ST 27 New4.yN, .instanceMethod New4.yN,
  .code New4.yN New4.yB 6 none, .fieldLink ST 38 ST "COMPACT_STRINGS" "Z", .laysFinal ST ST "value" "[B", .fieldLink ST 9 ST "value" "[B", .laysFinal ST ST "coder" "B", .fieldLink ST 15 ST "coder" "B",
  .methodLink ST 1 Lib.objectInit, .instanceMethod Lib.objectInit, .code Lib.objectInit ⟨#[0xb1]⟩ 1 none, .methodLink ST 177 Cmp3.yN, .static Cmp3.yN, .methodLink ST 47 CodL.yN, .static CodL.yN,
  .code Cmp3.yN Cmp3.yB 6 (some (.array .byte)), .initialized U16, .arrayClass .byte, .methodLink U16 115 Cmp5.yN, .static Cmp5.yN, .code Cmp5.yN Cmp5.yB 7 (some .int), .code CodL.yN CodL.yB 2 (some .byte)]
theorem tab_of {a : Array Value} {s : State} (h : ∀ w ∈ words, w.before a s = true) : New1.tab.before a s = true := by
  have h5 : Cmp5.tab.before a s = true := unparts (wk h (.code Cmp5.yN Cmp5.yB 7 (some .int))) (wks h (.initialized Cmp5.yN.cls :: Cmp5.site))
  have hc : CodL.tab.before a s = true := unparts (wk h (.code CodL.yN CodL.yB 2 (some .byte))) (wks h (.initialized CodL.yN.cls :: CodL.site))
  have q5 : ∀ w ∈ Cmp5.tab :: words, w.before a s = true := fun w hw => (List.mem_cons.mp hw).elim (fun e => e ▸ h5) (h w)
  have h3 : Cmp3.tab.before a s = true := unparts (wk q5 (.code Cmp3.yN Cmp3.yB 6 (some (.array .byte)))) (wks q5 (.initialized Cmp3.yN.cls :: Cmp3.site))
  have q3 : ∀ w ∈ Cmp3.tab :: CodL.tab :: words, w.before a s = true := fun w hw => (List.mem_cons.mp hw).elim (fun e => e ▸ h3) fun hw => (List.mem_cons.mp hw).elim (fun e => e ▸ hc) (h w)
  have h4 : New4.tab.before a s = true := unparts (wk q3 (.code New4.yN New4.yB 6 none)) (wks q3 (.initialized New4.yN.cls :: New4.site))
  have q4 : ∀ w ∈ New4.tab :: words, w.before a s = true := fun w hw => (List.mem_cons.mp hw).elim (fun e => e ▸ h4) (h w)
  exact unparts (wk q4 (.code New1.yN New1.yB 2 none)) (wks q4 (.initialized New1.yN.cls :: New1.site))
/-- the words ride from the start Z to the walk's own state -/
theorem moved {Z s : State} {a0 args : Array Value} (hZ : Z.Warmed39 s.vm) (hw : ∀ d ∈ words, d.before a0 Z = true) : ∀ d ∈ words, d.before args s = true := fun d hd => by
  have q := hw d hd
  have t : ∀ d ∈ words, d = .arrayClass .byte ∨ (d.onTables && d.keepsFace) = true := by decide +kernel
  rcases t d hd with rfl | t
  · exact RoadKit.mvA hZ q
  · exact RoadKit.mv hZ q t
/-- WHAT COMES BACK, over the tables of the start Z: h the heap at the call, h' behind it -/
def Q (Z : State) (x : Addr) (A : Cell) (h : Heap) (v : Option Value) (h' : Heap) (L : List Loc) : Prop := v = none ∧ (∀ y ∈ L, y.base = x) ∧ RoadKit.Keep h h' [x] ∧ h'.size = h.size + 1 ∧ RoadKit.Exa Z h' x ST ∧ RoadKit.Fld Z h' x ST "value" "[B" (.ref h.size) ∧ RoadKit.Fld Z h' x ST "coder" "B" (.int 0) ∧
  (∃ V : Cell, RoadKit.Arr Z h' h.size V .byte ∧ V.vm = .none ∧ Z.vm.findClass "[B" = some V.cls ∧ V.slots.size = A.slots.size ∧ ∀ j, j < A.slots.size → V.slots[j]? = some (.int (lo8 (cv A j)))) ∧
  ∀ (O n d : String) (w : Value), RoadKit.Fld Z h x O n d w → RoadKit.slotOf Z O n d ≠ RoadKit.slotOf Z ST "value" "[B" → RoadKit.slotOf Z O n d ≠ RoadKit.slotOf Z ST "coder" "B" → RoadKit.Fld Z h' x O n d w
/-- **new String(chars) AT A CALL, IN THE ROAD'S FORM**: for specialBack behind newO: x the fresh String, b the char[] with the cell A -/
theorem back {p : Program} {l : Launch} {e : Env} {R : Room} {s : State} {args : Array Value} {below : List Frame} {len W : Nat} {Z : State} {a0 : Array Value} {h : Heap} (hZ : Z.Warmed39 s.vm) (hw : ∀ d ∈ words, d.before a0 Z = true) {kI : Nat} (wi : (Jvm.Cond.instantiable ST kI).before a0 Z = true)
    {x b : Addr} {A : Cell} {z : Int32} {v0 c0 : Value} (E : RoadKit.Exa Z h x ST) (V : RoadKit.Fld Z h x ST "value" "[B" v0) (C : RoadKit.Fld Z h x ST "coder" "B" c0) (K : RoadKit.Arr Z h b A .char) (hty : Typed .char A) (S : RoadKit.Sta Z h ST "COMPACT_STRINGS" "Z" (.int z)) (hz : ¬ z = 0)
    (l0 : 0 < A.slots.size) (l2 : A.slots.size ≤ 536870912) (hp : ∀ i, i < A.slots.size → ¬ 255 < cv A i) (hfr : 4 ≤ R.frames) (hlo : W + 65 ≤ R.locals) :
    Back l R p e below s args New1.yN len W (fun P a => a = #[.ref x, .ref b] ∧ P.U.heap = h ∧ P.cells + 1 ≤ R.cells ∧ P.slots + A.slots.size ≤ R.slots)
      (fun P _ v B => ∃ L, Q Z x A h v B.U.heap L ∧ B.locs = P.locs ++ L ∧ B.cells = P.cells + 1 ∧ B.slots = P.slots + A.slots.size) := by
  intro m meth c P g ig mk a X hg hsize hdg hW hn hp'
  obtain ⟨rfl, rfl, r1, r2⟩ := hp'
  have al : Z.vm.Alike P.U.vm := hZ.alike.trans X.warmed.alike
  obtain ⟨D, cfV, kV, iV, fV, hD, gV, stV, knV, obV, asV, slV⟩ := id V
  obtain ⟨D', cfC, kC, iC, fC, hD', gC, stC, -, -, asC, slC⟩ := id C
  cases hD.symm.trans hD'
  obtain ⟨D2, kD, e1, e2, e3, e4, e5⟩ := id E
  cases hD.symm.trans e1
  obtain ⟨c2, k2, i1, i2, i3, -⟩ := Cond.instantiable_spec wi
  cases e2.symm.trans i1
  cases e3.symm.trans i2
  obtain ⟨kU, u1, u2⟩ := al.2.2 _ _ e3
  have hB : Blank ST x D P.U := ⟨hD, ⟨knV, fun q hq => by rw [hq] at obV; cases obV⟩, by rw [al.findClass]; exact e2, kU, u1, by rw [u2]; exact i3, by rw [u2]; exact e5 i3⟩
  have F1 : Found ST "value" "[B" fV P.U := ⟨SBG.found_only al ⟨cfV, kV, iV, gV⟩, stV⟩
  have F2 : Found ST "coder" "B" fC P.U := ⟨SBG.found_only al ⟨cfC, kC, iC, gC⟩, stC⟩
  have hA : Ch b A P.U := ⟨⟨K.1, State.isArrayOf_alike al K.2.1, K.2.2, by omega⟩, hty⟩
  have hS : StaticIs P.U ST "COMPACT_STRINGS" "Z" (.int z) := by
    obtain ⟨cfS, iS, kS, fS, st, cS, t1, t2, t3, t4, t5, t6, t7⟩ := S
    exact StaticIs.there (s := { Z with heap := P.U.heap }) ⟨cfS, iS, kS, fS, st, cS, t1, t2, t3, t4, t5, (fun q => by rw [q] at t6; cases t6), t7⟩ al rfl
  obtain ⟨v, B, X', ⟨⟨hv, E', V', q1, q2, q3, q4, q5, q6, q7, q8, q9, q10, q11⟩, hl, hc, hs⟩, st⟩ := New1.pays x D fV fC b A z (tab_of (moved hZ hw)) hfr hlo m meth c P g ig mk _ X hg hsize hdg hW hn ⟨r1, r2, rfl, hB, F1, F2, hA, hS, hz, l0, l2, hp⟩
  have al' : Z.vm.Alike B.U.vm := hZ.alike.trans X'.warmed.alike
  have hsz : E'.slots.size = D.slots.size := by
    obtain ⟨-, -, -, kB, w1, w2, w3⟩ := q1
    obtain ⟨kB', y1, y2⟩ := al'.2.2 _ _ e3
    rw [q2.2.1] at w1
    cases w1.symm.trans y1
    rw [w3, e5 i3, y2]
  refine ⟨v, B, X', ⟨_, ⟨hv, ?_, ⟨by omega, fun y cy hy hn' => q10 y cy (by simpa using hn') hy, fun y cy hy => ?_⟩, q11, ⟨E', _, q1.1, by rw [q2.2.1]; exact e2, by rw [q2.2.1]; exact e3, by rw [q2.1]; exact obV, fun _ => by rw [hsz]; exact e5 i3⟩,
    ⟨E', cfV, kV, iV, fV, q1.1, gV, stV, by rw [q2.1]; exact knV, by rw [q2.1]; exact obV, by rw [q2.2.1]; exact asV, q3⟩, ⟨E', cfC, kC, iC, fC, q1.1, gC, stC, by rw [q2.1]; exact knV, by rw [q2.1]; exact obV, by rw [q2.2.1]; exact asC, q4⟩,
    ⟨V', ⟨q5.1, State.isArrayOf_alike al'.symm q5.2.1, q5.2.2.1⟩, q6, by rw [← al'.findClass]; exact q7, q8, fun j hj => by have := q9 j hj; rwa [Nat.zero_add] at this⟩, fun O n d w F n1 n2 => ?_⟩, hl, hc, hs⟩, st⟩
  · intro y hy
    simp only [List.mem_cons, List.not_mem_nil, or_false] at hy
    rcases hy with rfl | rfl <;> rfl
  · by_cases q : y = x
    · subst q
      cases hD.symm.trans hy
      exact ⟨E', q1.1, q2.2.1, q2.1, hsz⟩
    · exact ⟨cy, q10 y cy q hy, rfl, rfl, rfl⟩
  · obtain ⟨D3, cf, k, i, f, g1, g2, g3, g4, g5, g6, g7⟩ := F
    cases hD.symm.trans g1
    simp only [RoadKit.slotOf, g2, gV, gC, Option.map_some, Option.getD_some] at n1 n2
    exact ⟨E', cf, k, i, f, q1.1, g2, g3, by rw [q2.1]; exact g4, by rw [q2.1]; exact g5, by rw [q2.2.1]; exact g6, by rw [q2.2.2 f.slot (by simp [n1, n2])]; exact g7⟩
end StrChars.Road
namespace StrChars.Road
open Jvm Sem ClassFile Op Lib Jvm.Stand Jvm.Free Jvm.Free.XT
/-- WHAT COMES BACK, the byte[] as a list of values -/
def QA (Z : State) (x : Addr) (zn : Int32) (cs : List Int32) (h : Heap) (v : Option Value) (h' : Heap) (L : List Loc) : Prop := v = none ∧ (∀ y ∈ L, y.base = x) ∧ RoadKit.Keep h h' [x] ∧ h'.size = h.size + 1 ∧ RoadKit.Exa Z h' x ST ∧ RoadKit.Fld Z h' x ST "value" "[B" (.ref h.size) ∧ RoadKit.Fld Z h' x ST "coder" "B" (.int 0) ∧
  (∃ kb, Z.vm.findClass "[B" = some kb ∧ RoadKit.Arv Z h' h.size kb .byte zn (cs.map fun c => .int (lo8 c)) (.int 0)) ∧
  ∀ (O n d : String) (w : Value), RoadKit.Fld Z h x O n d w → RoadKit.slotOf Z O n d ≠ RoadKit.slotOf Z ST "value" "[B" → RoadKit.slotOf Z O n d ≠ RoadKit.slotOf Z ST "coder" "B" → RoadKit.Fld Z h' x O n d w
/-- **new String(chars) AT A CALL, THE ARRAYS AS LISTS**: the char[] at b holds cs, not empty, no char above 255 -/
theorem backArv {p : Program} {l : Launch} {e : Env} {R : Room} {s : State} {args : Array Value} {below : List Frame} {len W : Nat} {Z : State} {a0 : Array Value} {h : Heap} (hZ : Z.Warmed39 s.vm) (hw : ∀ d ∈ words, d.before a0 Z = true) {kI : Nat} (wi : (Jvm.Cond.instantiable ST kI).before a0 Z = true)
    {x b : Addr} {k : ClassId} {zn z : Int32} {cs : List Int32} {dv v0 c0 : Value} (E : RoadKit.Exa Z h x ST) (V : RoadKit.Fld Z h x ST "value" "[B" v0) (C : RoadKit.Fld Z h x ST "coder" "B" c0) (K : RoadKit.Arv Z h b k .char zn (cs.map Value.int) dv) (S : RoadKit.Sta Z h ST "COMPACT_STRINGS" "Z" (.int z)) (hz : ¬ z = 0)
    (hlen : zn.toNatClampNeg = cs.length) (h0 : 0 < cs.length) (hbig : cs.length ≤ 536870912) (hall : ∀ c ∈ cs, ¬ 255 < c) (hfr : 4 ≤ R.frames) (hlo : W + 65 ≤ R.locals) :
    Back l R p e below s args New1.yN len W (fun P a => a = #[.ref x, .ref b] ∧ P.U.heap = h ∧ P.cells + 1 ≤ R.cells ∧ P.slots + cs.length ≤ R.slots)
      (fun P _ v B => ∃ L, QA Z x zn cs h v B.U.heap L ∧ B.locs = P.locs ++ L ∧ B.cells = P.cells + 1 ∧ B.slots = P.slots + cs.length) := by
  obtain ⟨A, K1, K2, K3, K4, K5, K6⟩ := K
  have e : A.slots.size = cs.length := K3.trans hlen
  have hat : ∀ (i : Nat) (hi : i < cs.length), A.slots[i]? = some (.int cs[i]) := fun i hi => by rw [K5 i (by omega)]; simp [List.getD_eq_getElem?_getD, hi]
  have hcv : ∀ (i : Nat) (hi : i < cs.length), cv A i = cs[i] := fun i hi => by unfold cv; rw [hat i hi]
  have hty : Typed .char A := fun i v hv => by
    have hi : i < A.slots.size := (Array.getElem?_eq_some_iff.mp hv).1
    have q := K5 i hi
    rw [hv] at q
    rw [Option.some.inj q]
    exact K6 i hi
  refine Back.mono (back hZ hw wi E V C K1 hty S hz (by omega) (by omega) (fun i hi => by rw [hcv i (by omega)]; exact hall _ (List.getElem_mem _)) hfr hlo) (fun P a hp => ⟨hp.1, hp.2.1, hp.2.2.1, by rw [e]; exact hp.2.2.2⟩) (fun P a v B hp hq => ?_)
  obtain ⟨L, ⟨q1, q2, q3, q4, q5, q6, q7, ⟨V', v1, v2, v3, v4, v5⟩, q9⟩, hl, hc, hs⟩ := hq
  refine ⟨L, ⟨q1, q2, q3, q4, q5, q6, q7, ⟨V'.cls, v3, V', v1, rfl, by rw [v4, e, hlen], K4, fun i hi => ?_, fun i hi => ?_⟩, q9⟩, hl, hc, by rw [hs, e]⟩
  · have hi' : i < cs.length := by omega
    rw [v5 i (by omega), hcv i hi']; simp [List.getD_eq_getElem?_getD, hi']
  · have hi' : i < cs.length := by omega
    simp only [List.getD_eq_getElem?_getD, List.getElem?_map, List.getElem?_eq_getElem hi', Option.map_some, Option.getD_some]
    exact fits_lo8 _
end StrChars.Road
namespace StrChars.Road
open Jvm Sem ClassFile Op Lib Jvm.Stand Jvm.Free Jvm.Free.XT
/-- WHAT COMES BACK, in the writer's own shape -/
def QV (Z : State) (x : Addr) (N : Int32) (bs : List Int32) (h : Heap) (n0 : Nat) (v : Option Value) (h' : Heap) (L : List Loc) : Prop := v = none ∧ RoadKit.Fr n0 L ∧ RoadKit.Keep h h' [x] ∧ RoadKit.Exa Z h' x ST ∧ RoadKit.Fld Z h' x ST "coder" "B" (.int 0) ∧
  ∃ (t : Addr) (kb : ClassId), n0 ≤ t ∧ h.size ≤ t ∧ ¬ t = x ∧ RoadKit.Fld Z h' x ST "value" "[B" (.ref t) ∧ RoadKit.Arv Z h' t kb .byte N (bs.map Value.int) (.int 0)
/-- **new String(chars) AT A CALL, FOR THE WRITER**: a char[] of n known ints, each 0 to 255 -/
theorem backV {p : Program} {l : Launch} {e : Env} {R : Room} {s : State} {args : Array Value} {below : List Frame} {len W : Nat} {Z : State} {a0 : Array Value} {h : Heap} (hZ : Z.Warmed39 s.vm) (hw : ∀ d ∈ words, d.before a0 Z = true) {kI : Nat} (wi : (Jvm.Cond.instantiable ST kI).before a0 Z = true)
    {x b : Addr} {kC : ClassId} {cs bs : List Int32} {d v0 c0 : Value} {z N : Int32} {n n0 : Nat} (hx0 : n0 ≤ x) (hh0 : n0 ≤ h.size) (E : RoadKit.Exa Z h x ST) (V : RoadKit.Fld Z h x ST "value" "[B" v0) (C : RoadKit.Fld Z h x ST "coder" "B" c0) (K : RoadKit.Arv Z h b kC .char N (cs.map Value.int) d) (S : RoadKit.Sta Z h ST "COMPACT_STRINGS" "Z" (.int z)) (hz : ¬ z = 0)
    (hn : cs.length = n) (hN : N = Int32.ofNat n) (l0 : 0 < n) (l2 : n ≤ 4000) (hp : ∀ c ∈ cs, ¬ c < 0 ∧ ¬ (255 : Int32) < c) (hb : bs = cs.map (fun c => c.toInt8.toInt32)) (hfr : 4 ≤ R.frames) (hlo : W + 65 ≤ R.locals) :
    Back l R p e below s args (⟨"java/lang/String", "<init>", "([C)V"⟩ : MethodName) len W (fun P a => a = #[.ref x, .ref b] ∧ P.U.heap = h ∧ P.cells + 1 ≤ R.cells ∧ P.slots + n ≤ R.slots)
      (fun P _ v B => ∃ L, QV Z x N bs h n0 v B.U.heap L ∧ B.locs = P.locs ++ L ∧ B.cells = P.cells + 1 ∧ B.slots = P.slots + n) := by
  subst hn hN hb
  refine Back.mono (backArv hZ hw wi E V C K S hz (n32 (by omega)) l0 (by omega) (fun c hc => (hp c hc).2) hfr hlo) (fun P a hp => hp) (fun P a v B hp hq => ?_)
  obtain ⟨L, ⟨q1, q2, q3, q4, q5, q6, q7, ⟨kb, v1, v2⟩, q9⟩, hl, hc, hs⟩ := hq
  exact ⟨L, ⟨q1, fun y hy => by rw [q2 y hy]; exact hx0, q3, q5, q7, h.size, kb, hh0, Nat.le_refl _, Nat.ne_of_gt E.lt, q6, by rw [List.map_map]; exact v2⟩, hl, hc, hs⟩
end StrChars.Road
namespace StrChars
open Jvm Sem ClassFile Op Lib Jvm.Stand Jvm.Free.XT Jvm.Free.ALB Jvm.Free.JM Jvm.Free
open Jvm.Lib.Cold (StaticIs)
def hi8 (x : Int32) : Int32 := lo8 (x >>> ((8 : Int32) &&& 31))
/-- what StringUTF16.getChar makes of two bytes -/
def pairCh (u v : Int32) : Int32 := (((u &&& 255) <<< ((0 : Int32) &&& 31)) ||| ((v &&& 255) <<< ((8 : Int32) &&& 31))).toUInt32.toUInt16.toUInt32.toInt32
theorem shr0 (c : Int32) : c >>> ((0 : Int32) &&& 31) = c := by
  have e : ((0 : Int32) &&& 31) = 0 := by decide
  rw [e]
  apply Int32.toBitVec_inj.mp
  rw [Int32.toBitVec_shiftRight]
  have e1 : ((0 : Int32).toBitVec.smod 32) = 0#32 := by decide
  rw [e1, BitVec.sshiftRight_eq']
  exact BitVec.sshiftRight_zero
theorem lo8_and (x : Int32) : (lo8 x &&& 255).toBitVec.toNat = x.toBitVec.toNat % 256 := by
  have h : (lo8 x).toBitVec = (x.toBitVec.signExtend 8).signExtend 32 := by rw [lo8, Int8.toBitVec_toInt32, Int32.toBitVec_toInt8]
  rw [Int32.toBitVec_and, BitVec.toNat_and, h]
  have e : ((x.toBitVec.signExtend 8).signExtend 32).toNat % 256 = x.toBitVec.toNat % 256 := by
    rw [BitVec.toNat_signExtend]
    have hlt := x.toBitVec.isLt
    simp only [BitVec.toNat_setWidth, BitVec.toNat_signExtend]
    split <;> split <;> omega
  rw [← e]
  exact Nat.and_two_pow_sub_one_eq_mod _ 8
theorem pair_says {c : Int32} (h0 : ¬ c < 0) (h1 : ¬ 65535 < c) : pairCh (lo8 c) (hi8 c) = c := by
  rw [Int32.lt_iff_toInt_lt] at h0 h1
  have e0 : (0 : Int32).toInt = 0 := rfl
  have e1 : (65535 : Int32).toInt = 65535 := rfl
  have hc : c.toInt = c.toBitVec.toNat := by
    have := c.toBitVec.isLt
    have e : c.toInt = c.toBitVec.toInt := rfl
    rw [e] at h0 h1
    rw [e]
    rw [BitVec.toInt_eq_toNat_cond] at h0 h1 ⊢
    split at h0 <;> split <;> omega
  have hn : c.toBitVec.toNat < 65536 := by omega
  have a1 := lo8_and c
  have a2 : (hi8 c &&& 255).toBitVec.toNat = c.toBitVec.toNat / 256 := by
    rw [hi8, lo8_and]
    have e : ((8 : Int32) &&& 31) = 8 := by decide
    rw [e, Int32.toBitVec_shiftRight]
    have e2 : ((8 : Int32).toBitVec.smod 32) = 8#32 := by decide
    rw [e2, BitVec.sshiftRight_eq', BitVec.toNat_sshiftRight_of_msb_false (by rw [BitVec.msb_eq_false_iff_two_mul_lt]; omega)]
    show c.toBitVec.toNat >>> 8 % 256 = _
    rw [Nat.shiftRight_eq_div_pow]
    omega
  unfold pairCh
  apply Int32.toBitVec_inj.mp
  apply BitVec.eq_of_toNat_eq
  have f0 : ((0 : Int32) &&& 31) = 0 := by decide
  have f8 : ((8 : Int32) &&& 31) = 8 := by decide
  rw [f0, f8]
  have g : (((lo8 c &&& 255) <<< (0 : Int32)) ||| ((hi8 c &&& 255) <<< (8 : Int32))).toBitVec.toNat = c.toBitVec.toNat := by
    rw [Int32.toBitVec_or, Int32.toBitVec_shiftLeft, Int32.toBitVec_shiftLeft]
    have s0 : ((0 : Int32).toBitVec.smod 32) = 0#32 := by decide
    have s8 : ((8 : Int32).toBitVec.smod 32) = 8#32 := by decide
    rw [s0, s8, BitVec.toNat_or]
    simp only [BitVec.shiftLeft_eq', BitVec.toNat_shiftLeft, a1, a2]
    show (c.toBitVec.toNat % 256) <<< 0 % 2 ^ 32 ||| (c.toBitVec.toNat / 256) <<< 8 % 2 ^ 32 = _
    rw [Nat.shiftLeft_zero, Nat.mod_eq_of_lt (show c.toBitVec.toNat % 256 < 2 ^ 32 by omega), Nat.mod_eq_of_lt (show (c.toBitVec.toNat / 256) <<< 8 < 2 ^ 32 by rw [Nat.shiftLeft_eq]; omega), Nat.or_comm, ← Nat.shiftLeft_add_eq_or_of_lt (by omega), Nat.shiftLeft_eq]
    omega
  show BitVec.toNat (((((lo8 c &&& 255) <<< (0 : Int32)) ||| ((hi8 c &&& 255) <<< (8 : Int32))).toBitVec.setWidth 16).setWidth 32) = _
  rw [BitVec.toNat_setWidth, BitVec.toNat_setWidth, g]
  omega
end StrChars
namespace StrChars
open Jvm Sem ClassFile Op Lib Jvm.Stand Jvm.Free.XT Jvm.Free.ALB Jvm.Free.JM Jvm.Free
open Jvm.Lib.Cold (StaticIs)
theorem shr1 {n : Nat} (h : 2 * n < 2 ^ 31) : Int32.ofNat (2 * n) >>> ((1 : Int32) &&& 31) = Int32.ofNat n := by
  have e : ((1 : Int32) &&& 31) = 1 := by decide
  rw [e]
  apply Int32.toBitVec_inj.mp
  rw [Int32.toBitVec_shiftRight]
  have e1 : ((1 : Int32).toBitVec.smod 32) = 1#32 := by decide
  have hm : (BitVec.ofNat 32 (2 * n)).toNat = 2 * n := by rw [BitVec.toNat_ofNat, Nat.mod_eq_of_lt (by omega)]
  rw [e1, BitVec.sshiftRight_eq']
  apply BitVec.eq_of_toNat_eq
  show ((BitVec.ofNat 32 (2 * n)).sshiftRight 1).toNat = (BitVec.ofNat 32 n).toNat
  rw [BitVec.toNat_sshiftRight_of_msb_false (by rw [BitVec.msb_eq_false_iff_two_mul_lt, hm]; omega), hm, BitVec.toNat_ofNat, Nat.shiftRight_eq_div_pow]
  omega
/-- charAt's cast of a byte read back -/
def chr8 (u : Int32) : Int32 := (u &&& 255).toUInt32.toUInt16.toUInt32.toInt32
theorem chr8_lo8 {c : Int32} (h0 : ¬ c < 0) (h1 : ¬ 255 < c) : chr8 (lo8 c) = c := by
  have t : ∀ k : Fin 256, (Int32.ofNat k.val).toUInt32.toUInt16.toUInt32.toInt32 = Int32.ofNat k.val := by decide +kernel
  unfold chr8
  rw [lo8_mask h0 h1]
  rw [Int32.lt_iff_toInt_lt] at h0 h1
  have e0 : (0 : Int32).toInt = 0 := rfl
  have e1 : (255 : Int32).toInt = 255 := rfl
  obtain ⟨k, hk⟩ : ∃ k : Nat, c.toInt = k := ⟨c.toInt.toNat, by omega⟩
  have hx : c = Int32.ofNat k := Int32.toInt_inj.mp (by rw [hk, Int32.toInt_ofNat_small (by omega)])
  rw [hx]
  exact t ⟨k, by omega⟩
theorem narrow_ch {c : Int32} (h0 : ¬ c < 0) (h1 : ¬ 65535 < c) : narrow .char (.int c) = .int c := by
  have q : narrow .char (.int (pairCh (lo8 c) (hi8 c))) = .int (pairCh (lo8 c) (hi8 c)) := narrow_c _
  rwa [pair_says h0 h1] at q
/-- the array's cell V codes the n chars f 0 .. f (n - 1) by the coder cd, as the JDK does: coder 1 just where some char is above 255 -/
def Cod (cd : Int32) (n : Nat) (f : Nat → Int32) (V : Cell) : Prop := (cd = 0 ∧ V.slots.size = n ∧ ∀ j, j < n → V.slots[j]? = some (.int (lo8 (f j))) ∧ ¬ 255 < f j) ∨ (cd = 1 ∧ V.slots.size = 2 * n ∧ (∀ j, j < n → V.slots[2 * j]? = some (.int (lo8 (f j))) ∧ V.slots[2 * j + 1]? = some (.int (hi8 (f j)))) ∧ ∃ j, j < n ∧ 255 < f j)
theorem Cod.cd {cd : Int32} {n : Nat} {f : Nat → Int32} {V : Cell} (h : Cod cd n f V) : cd = 0 ∨ cd = 1 := h.imp (fun q => q.1) fun q => q.1
theorem Cod.len {cd : Int32} {n : Nat} {f : Nat → Int32} {V : Cell} (h : Cod cd n f V) (hs : V.slots.size < 2 ^ 31) : Int32.ofNat V.slots.size >>> (cd &&& 31) = Int32.ofNat n := by
  rcases h with ⟨rfl, h, -⟩ | ⟨rfl, h, -⟩
  · rw [shr0, h]
  · rw [h, shr1 (by omega)]
/-- **x is a String of the n chars f 0 .. f (n - 1)**, Latin-1 or UTF-16; its array at t has the cell V -/
def Txt (x t : Addr) (V : Cell) (cd : Int32) (n : Nat) (f : Nat → Int32) (U : State) : Prop := Exact "java/lang/String" x U ∧ Has x "java/lang/String" "value" "[B" (.ref t) U ∧ Has x "java/lang/String" "coder" "B" (.int cd) U ∧ XT.Arr .byte t V U ∧ Cod cd n f V ∧ ∀ j, j < n → ¬ f j < 0 ∧ ¬ 65535 < f j
theorem Txt.mv {x t : Addr} {V : Cell} {cd : Int32} {n : Nat} {f : Nat → Int32} {U U' : State} (h : Txt x t V cd n f U) (hal : U.vm.Alike U'.vm) (hh : U'.heap = U.heap) : Txt x t V cd n f U' := ⟨h.1.mv hal hh, h.2.1.mv hal hh, h.2.2.1.mv hal hh, h.2.2.2.1.mv hal hh, h.2.2.2.2⟩
namespace Cdr
def yN : MethodName := ⟨"java/lang/String", "coder", "()B"⟩
abbrev yB : ByteArray := jdk_42_method_152_code
theorem d0 : decode yB 0 = .ok (.getstatic 38, 3) := by decide +kernel
theorem d3 : decode yB 3 = .ok (.ifCond (.eq) 10, 3) := by decide +kernel
theorem d6 : decode yB 6 = .ok (.aload_n 0, 1) := by decide +kernel
theorem d7 : decode yB 7 = .ok (.getfield 15, 3) := by decide +kernel
theorem d10 : decode yB 10 = .ok (.goto 4, 3) := by decide +kernel
theorem d14 : decode yB 14 = .ok (.ireturn, 1) := by decide +kernel
def site : List Cond := [.fieldLink "java/lang/String" 38 "java/lang/String" "COMPACT_STRINGS" "Z", .fieldLink "java/lang/String" 15 "java/lang/String" "coder" "B"]
def tab : Cond := tabOf yN yB 1 (some .byte) site
def P (x : Addr) (cd z : Int32) (args : Array Value) (s : State) : Prop := args = #[.ref x] ∧ Has x "java/lang/String" "coder" "B" (.int cd) s ∧ (cd = 0 ∨ cd = 1) ∧ StaticIs s "java/lang/String" "COMPACT_STRINGS" "Z" (.int z) ∧ ¬ z = 0
def E (cd : Int32) (r : Option Value) (s u : State) : Prop := XT.PureE (some (.int cd)) r s u
theorem law (l : Launch) (x : Addr) (cd z : Int32) : Law l yN 1 0 0 0 yB 1 (some .byte) site (P x cd z) (E cd) [] 0 0 := by
  refine Law.of_walk (plainFor_of_name (by decide +kernel)) (by decide +kernel) (by decide +kernel) (by decide) (fun _ _ h => by rw [h.1]; rfl) (fun _ U U' hal hh h => ⟨h.1, h.2.1.mv hal hh, h.2.2.1, h.2.2.2.1.there hal hh, h.2.2.2.2⟩) (fun r U U' V V' h1 hal h2 h => XT.PureE.mv r U U' V V' h1 hal h2 h) ?_
  intro p e s m args below meth c s₁ X0 hexec hbytes hml hret hlk hnm hown hh0 W hP
  obtain ⟨rfl, hx, hc, s1, hz⟩ := hP
  have c1 : Steps p.tables e below (s₁.setTop (entryFrame m #[.ref x] 1)) (s₁.setTop (mkF m 0 #[.val (.ref x)] [])) := entry rfl
  obtain ⟨T2, X2, q2, st2⟩ := X0.sget hexec hown (wk W (.fieldLink "java/lang/String" 38 "java/lang/String" "COMPACT_STRINGS" "Z")) s1 (fun _ _ h => by rw [hh0]; exact h) (g := (mkF m 0 #[.val (.ref x)] [])) rfl (hb hbytes d0)
  have hh2 := q2.trans hh0
  have c3 : Steps p.tables e below (s₁.setTop (entryFrame m #[.ref x] 1)) (T2.setTop (mkF m 7 #[.val (.ref x)] [.ref x])) := (c1.trans (st2 _ (Steps.refl _))).trans (by
    refine XS.ifNo X2.here hexec rfl (hb hbytes d3) rfl (i0_eq_f hz) ?_
    refine XS.aloadN X2.here hexec rfl (hb hbytes d6) rfl rfl ?_
    exact Steps.refl _)
  obtain ⟨T4, X4, q4, st4⟩ := X2.hget hexec hown (wk W (.fieldLink "java/lang/String" 15 "java/lang/String" "coder" "B")) (hx.mv X2.warmed.alike hh2) (g := (mkF m 7 #[.val (.ref x)] [.ref x])) rfl (rest := []) rfl (hb hbytes d7)
  have c5 : Steps p.tables e below (s₁.setTop (entryFrame m #[.ref x] 1)) (T4.setTop (mkF m 14 #[.val (.ref x)] [.int cd])) := (c3.trans (st4 _ (Steps.refl _))).trans (by
    refine XS.goto X4.here hexec rfl (pc0 := 10) rfl (hb hbytes d10) (by decide) rfl ?_
    exact Steps.refl _)
  exact ⟨T4, some (.int cd), _, _, _, X4, rfl, rfl, rfl, (fun h => by cases h), ⟨rfl, q4.trans hh2⟩, fun fs hl => c5.trans (X4.ireturnOut hexec hret (by rcases hc with rfl | rfl <;> rfl) (Or.inr (Or.inr (Or.inl rfl))) (hb hbytes d14) hl)⟩
end Cdr
namespace Len
def yN : MethodName := ⟨"java/lang/String", "length", "()I"⟩
abbrev yB : ByteArray := jdk_42_method_54_code
theorem d0 : decode yB 0 = .ok (.aload_n 0, 1) := by decide +kernel
theorem d1 : decode yB 1 = .ok (.getfield 9, 3) := by decide +kernel
theorem d4 : decode yB 4 = .ok (.arraylength, 1) := by decide +kernel
theorem d5 : decode yB 5 = .ok (.aload_n 0, 1) := by decide +kernel
theorem d6 : decode yB 6 = .ok (.invokevirtual 335, 3) := by decide +kernel
theorem d9 : decode yB 9 = .ok (.ishr, 1) := by decide +kernel
theorem d10 : decode yB 10 = .ok (.ireturn, 1) := by decide +kernel
def site : List Cond := [.fieldLink "java/lang/String" 9 "java/lang/String" "value" "[B", Cdr.tab] ++ virtW "java/lang/String" 335 "java/lang/String" Cdr.yN Cdr.yN
def tab : Cond := tabOf yN yB 1 (some .int) site
def P (x t : Addr) (V : Cell) (cd : Int32) (n : Nat) (f : Nat → Int32) (z : Int32) (args : Array Value) (s : State) : Prop := args = #[.ref x] ∧ Txt x t V cd n f s ∧ StaticIs s "java/lang/String" "COMPACT_STRINGS" "Z" (.int z) ∧ ¬ z = 0
def E (n : Nat) (r : Option Value) (s u : State) : Prop := XT.PureE (some (.int (Int32.ofNat n))) r s u
/-- length() of a String of n chars, in either coding -/
theorem law (l : Launch) (x t : Addr) (V : Cell) (cd : Int32) (n : Nat) (f : Nat → Int32) (z : Int32) : Law l yN 1 0 1 13 yB 1 (some .int) site (P x t V cd n f z) (E n) [] 0 0 := by
  refine Law.of_walk (plainFor_of_name (by decide +kernel)) (by decide +kernel) (by decide +kernel) (by decide) (fun _ _ h => by rw [h.1]; rfl) (fun _ U U' hal hh h => ⟨h.1, h.2.1.mv hal hh, h.2.2.1.there hal hh, h.2.2.2⟩) (fun r U U' V V' h1 hal h2 h => XT.PureE.mv r U U' V V' h1 hal h2 h) ?_
  intro p e s m args below meth c s₁ X0 hexec hbytes hml hret hlk hnm hown hh0 W hP
  obtain ⟨rfl, hx, s1, hz⟩ := hP
  have v31 := hx.2.2.2.1.2.2.2
  have c1 : Steps p.tables e below (s₁.setTop (entryFrame m #[.ref x] 1)) (s₁.setTop (mkF m 1 #[.val (.ref x)] [.ref x])) := Steps.trans (entry rfl) (by
    show Steps p.tables e below (s₁.setTop (mkF m 0 #[.val (.ref x)] [])) _
    refine XS.aloadN X0.here hexec rfl (hb hbytes d0) rfl rfl ?_
    exact Steps.refl _)
  obtain ⟨T2, X2, q2, st2⟩ := X0.hget hexec hown (wk W (.fieldLink "java/lang/String" 9 "java/lang/String" "value" "[B")) (hx.mv X0.warmed.alike hh0).2.1 (g := (mkF m 1 #[.val (.ref x)] [.ref x])) rfl (rest := []) rfl (hb hbytes d1)
  have hh2 := q2.trans hh0
  have hx2 := hx.mv X2.warmed.alike hh2
  have c3 : Steps p.tables e below (s₁.setTop (entryFrame m #[.ref x] 1)) (T2.setTop (mkF m 6 #[.val (.ref x)] [.ref x, .int (Int32.ofNat V.slots.size)])) := (c1.trans (st2 _ (Steps.refl _))).trans (by
    refine X2.alen hexec hx2.2.2.2.1 rfl rfl (hb hbytes d4) ?_
    refine XS.aloadN X2.here hexec rfl (hb hbytes d5) rfl rfl ?_
    exact Steps.refl _)
  obtain ⟨v4, T4, X4, E4, g4⟩ := X2.callV hexec (Cdr.law l x cd z) hown (wks W (virtW "java/lang/String" 335 "java/lang/String" Cdr.yN Cdr.yN)) rfl (by decide) (wk W Cdr.tab) (W := 1) (Nat.le_of_ble_eq_true rfl) (Nat.le_of_ble_eq_true rfl) (Nat.le_refl _) (Nat.le_refl _) (hx2.1.fc X2.warmed.alike) hx2.1.is (g := (mkF m 6 #[.val (.ref x)] [.ref x, .int (Int32.ofNat V.slots.size)])) rfl (by rw [hml]; rfl) c3 (argsL := []) (rest := [.int (Int32.ofNat V.slots.size)]) rfl rfl (by show 2 * 0 + (1 + 0) ≤ _; decide) (hb hbytes d6) (⟨rfl, hx2.2.2.1, hx.2.2.2.2.1.cd, s1.there X2.warmed.alike hh2, hz⟩)
  obtain ⟨rfl, q4⟩ := E4
  have c5 : Steps p.tables e below (s₁.setTop (entryFrame m #[.ref x] 1)) (T4.setTop (mkF m 10 #[.val (.ref x)] [.int (Int32.ofNat V.slots.size >>> (cd &&& 31))])) := Steps.trans g4 (by
    refine ishr X4.here hexec rfl (hb hbytes d9) rfl ?_
    exact Steps.refl _)
  rw [hx.2.2.2.2.1.len v31] at c5
  exact ⟨T4, some (.int (Int32.ofNat n)), _, _, _, X4, rfl, rfl, rfl, (fun h => by cases h), ⟨rfl, q4.trans hh2⟩, fun fs hl => c5.trans (X4.ireturnOut hexec hret rfl (Or.inl rfl) (hb hbytes d10) hl)⟩
theorem pays {l : Launch} {R : Room} {p : Program} {e : Env} {below : List Frame} {s : State} {sargs : Array Value} {len W : Nat} (x t : Addr) (V : Cell) (cd : Int32) (n : Nat) (f : Nat → Int32) (z : Int32) (htab : tab.before sargs s = true) (hfr : 2 ≤ R.frames) (hlo : W + 25 ≤ R.locals) :
    Back l R p e below s sargs yN len W (fun A₁ a₁ => A₁.cells + 0 ≤ R.cells ∧ A₁.slots + 0 ≤ R.slots ∧ P x t V cd n f z a₁ A₁.U) (fun A₁ _ v₁ B₁ => E n v₁ A₁.U B₁.U ∧ B₁.locs = A₁.locs ++ [] ∧ B₁.cells = A₁.cells + 0 ∧ B₁.slots = A₁.slots + 0) :=
  (law l x t V cd n f z).pays htab hfr (by omega)
end Len
namespace IsL
def yN : MethodName := ⟨"java/lang/String", "isLatin1", "()Z"⟩
abbrev yB : ByteArray := jdk_42_method_154_code
theorem d0 : decode yB 0 = .ok (.getstatic 38, 3) := by decide +kernel
theorem d3 : decode yB 3 = .ok (.ifCond (.eq) 14, 3) := by decide +kernel
theorem d6 : decode yB 6 = .ok (.aload_n 0, 1) := by decide +kernel
theorem d7 : decode yB 7 = .ok (.getfield 15, 3) := by decide +kernel
theorem d10 : decode yB 10 = .ok (.ifCond (.ne) 7, 3) := by decide +kernel
theorem d13 : decode yB 13 = .ok (.iconst 1, 1) := by decide +kernel
theorem d14 : decode yB 14 = .ok (.goto 4, 3) := by decide +kernel
theorem d17 : decode yB 17 = .ok (.iconst 0, 1) := by decide +kernel
theorem d18 : decode yB 18 = .ok (.ireturn, 1) := by decide +kernel
def site : List Cond := [.fieldLink "java/lang/String" 38 "java/lang/String" "COMPACT_STRINGS" "Z", .fieldLink "java/lang/String" 15 "java/lang/String" "coder" "B"]
def tab : Cond := tabOf yN yB 1 (some .boolean) site
def P (x : Addr) (cd z : Int32) (args : Array Value) (s : State) : Prop := args = #[.ref x] ∧ Has x "java/lang/String" "coder" "B" (.int cd) s ∧ (cd = 0 ∨ cd = 1) ∧ StaticIs s "java/lang/String" "COMPACT_STRINGS" "Z" (.int z) ∧ ¬ z = 0
def E (cd : Int32) (r : Option Value) (s u : State) : Prop := XT.PureE (some (.int (1 - cd))) r s u
theorem law (l : Launch) (x : Addr) (cd z : Int32) : Law l yN 1 0 0 0 yB 1 (some .boolean) site (P x cd z) (E cd) [] 0 0 := by
  refine Law.of_walk (plainFor_of_name (by decide +kernel)) (by decide +kernel) (by decide +kernel) (by decide) (fun _ _ h => by rw [h.1]; rfl) (fun _ U U' hal hh h => ⟨h.1, h.2.1.mv hal hh, h.2.2.1, h.2.2.2.1.there hal hh, h.2.2.2.2⟩) (fun r U U' V V' h1 hal h2 h => XT.PureE.mv r U U' V V' h1 hal h2 h) ?_
  intro p e s m args below meth c s₁ X0 hexec hbytes hml hret hlk hnm hown hh0 W hP
  obtain ⟨rfl, hx, hc, s1, hz⟩ := hP
  have c1 : Steps p.tables e below (s₁.setTop (entryFrame m #[.ref x] 1)) (s₁.setTop (mkF m 0 #[.val (.ref x)] [])) := entry rfl
  obtain ⟨T2, X2, q2, st2⟩ := X0.sget hexec hown (wk W (.fieldLink "java/lang/String" 38 "java/lang/String" "COMPACT_STRINGS" "Z")) s1 (fun _ _ h => by rw [hh0]; exact h) (g := (mkF m 0 #[.val (.ref x)] [])) rfl (hb hbytes d0)
  have hh2 := q2.trans hh0
  have c3 : Steps p.tables e below (s₁.setTop (entryFrame m #[.ref x] 1)) (T2.setTop (mkF m 7 #[.val (.ref x)] [.ref x])) := (c1.trans (st2 _ (Steps.refl _))).trans (by
    refine XS.ifNo X2.here hexec rfl (hb hbytes d3) rfl (i0_eq_f hz) ?_
    refine XS.aloadN X2.here hexec rfl (hb hbytes d6) rfl rfl ?_
    exact Steps.refl _)
  obtain ⟨T4, X4, q4, st4⟩ := X2.hget hexec hown (wk W (.fieldLink "java/lang/String" 15 "java/lang/String" "coder" "B")) (hx.mv X2.warmed.alike hh2) (g := (mkF m 7 #[.val (.ref x)] [.ref x])) rfl (rest := []) rfl (hb hbytes d7)
  have c5 : Steps p.tables e below (s₁.setTop (entryFrame m #[.ref x] 1)) (T4.setTop (mkF m 10 #[.val (.ref x)] [.int cd])) := c3.trans (st4 _ (Steps.refl _))
  have c6 : Steps p.tables e below (s₁.setTop (entryFrame m #[.ref x] 1)) (T4.setTop (mkF m 18 #[.val (.ref x)] [.int (1 - cd)])) := by
    rcases hc with rfl | rfl
    · exact c5.trans (by
        refine XS.ifNo X4.here hexec rfl (hb hbytes d10) rfl (i0_ne_f rfl) ?_
        refine iconstV X4.here hexec rfl 1 (hb hbytes d13) (by decide) ?_
        refine XS.goto X4.here hexec rfl (pc0 := 14) rfl (hb hbytes d14) (by decide) rfl ?_
        exact Steps.refl _)
    · exact c5.trans (by
        refine XS.ifYes X4.here hexec rfl (pc0 := 10) rfl (hb hbytes d10) rfl (i0_ne_t (by decide)) (by decide) rfl ?_
        refine iconstV X4.here hexec rfl 0 (hb hbytes d17) (by decide) ?_
        exact Steps.refl _)
  exact ⟨T4, some (.int (1 - cd)), _, _, _, X4, rfl, rfl, rfl, (fun h => by cases h), ⟨rfl, q4.trans hh2⟩, fun fs hl => c6.trans (X4.ireturnOut hexec hret (by rcases hc with rfl | rfl <;> rfl) (Or.inr (Or.inl rfl)) (hb hbytes d18) hl)⟩
end IsL
namespace LChA
def yN : MethodName := ⟨"java/lang/StringLatin1", "charAt", "([BI)C"⟩
abbrev yB : ByteArray := jdk_43_method_2_code
theorem d0 : decode yB 0 = .ok (.iload_n 1, 1) := by decide +kernel
theorem d1 : decode yB 1 = .ok (.aload_n 0, 1) := by decide +kernel
theorem d2 : decode yB 2 = .ok (.arraylength, 1) := by decide +kernel
theorem d3 : decode yB 3 = .ok (.invokestatic 9, 3) := by decide +kernel
theorem d6 : decode yB 6 = .ok (.aload_n 0, 1) := by decide +kernel
theorem d7 : decode yB 7 = .ok (.iload_n 1, 1) := by decide +kernel
theorem d8 : decode yB 8 = .ok (.baload, 1) := by decide +kernel
theorem d9 : decode yB 9 = .ok (.sipush 255, 3) := by decide +kernel
theorem d12 : decode yB 12 = .ok (.iand, 1) := by decide +kernel
theorem d13 : decode yB 13 = .ok (.i2c, 1) := by decide +kernel
theorem d14 : decode yB 14 = .ok (.ireturn, 1) := by decide +kernel
def site : List Cond := [JO.Str_checkIndex.tab] ++ staticW "java/lang/StringLatin1" 9 JO.Str_checkIndex.yN
def tab : Cond := tabOf yN yB 2 (some .char) site
def P (t : Addr) (V : Cell) (i : Nat) (u : Int32) (fm : Value) (args : Array Value) (s : State) : Prop := args = #[.ref t, .int (Int32.ofNat i)] ∧ XT.Arr .byte t V s ∧ V.slots[i]? = some (.int u) ∧ (StaticIs s "jdk/internal/util/Preconditions" "SIOOBE_FORMATTER" "Ljava/util/function/BiFunction;" fm ∧ fm.isRef = true)
def E (u : Int32) (r : Option Value) (s w : State) : Prop := XT.PureE (some (.int (chr8 u))) r s w
theorem law (l : Launch) (t : Addr) (V : Cell) (i : Nat) (u : Int32) (fm : Value) : Law l yN 2 2 2 27 yB 2 (some .char) site (P t V i u fm) (E u) [] 0 0 := by
  refine Law.of_walk (plainFor_of_name (by decide +kernel)) (by decide +kernel) (by decide +kernel) (by decide) (fun _ _ h => by rw [h.1]; rfl) (fun _ U U' hal hh h => ⟨h.1, h.2.1.mv hal hh, h.2.2.1, h.2.2.2.1.there hal hh, h.2.2.2.2⟩) (fun r U U' V V' h1 hal h2 h => XT.PureE.mv r U U' V V' h1 hal h2 h) ?_
  intro p e s m args below meth c s₁ X0 hexec hbytes hml hret hlk hnm hown hh0 W hP
  obtain ⟨rfl, hV, hu, s1, rf⟩ := hP
  have v31 := hV.2.2.2
  have hi : i < V.slots.size := (Array.getElem?_eq_some_iff.mp hu).1
  have c1 : Steps p.tables e below (s₁.setTop (entryFrame m #[.ref t, .int (Int32.ofNat i)] 2)) (s₁.setTop (mkF m 0 #[.val (.ref t), .val (.int (Int32.ofNat i))] [])) := entry rfl
  have c2 : Steps p.tables e below (s₁.setTop (entryFrame m #[.ref t, .int (Int32.ofNat i)] 2)) (s₁.setTop (mkF m 3 #[.val (.ref t), .val (.int (Int32.ofNat i))] [.int (Int32.ofNat V.slots.size), .int (Int32.ofNat i)])) := c1.trans (by
    refine XS.iloadN X0.here hexec rfl (hb hbytes d0) rfl ?_
    refine XS.aloadN X0.here hexec rfl (hb hbytes d1) rfl rfl ?_
    refine X0.alen hexec (hV.mv X0.warmed.alike hh0) rfl rfl (hb hbytes d2) ?_
    exact Steps.refl _)
  obtain ⟨v3, T3, X3, E3, g3⟩ := X0.callS hexec (JO.Str_checkIndex.law l (Int32.ofNat i) (Int32.ofNat V.slots.size) fm) hown (wks W (staticW "java/lang/StringLatin1" 9 JO.Str_checkIndex.yN)) (wk W JO.Str_checkIndex.tab) (W := 0) (Nat.le_of_ble_eq_true rfl) (Nat.le_of_ble_eq_true rfl) (Nat.le_refl _) (Nat.le_refl _) (g := (mkF m 3 #[.val (.ref t), .val (.int (Int32.ofNat i))] [.int (Int32.ofNat V.slots.size), .int (Int32.ofNat i)])) rfl (by rw [hml]; rfl) c2 (argsL := [.int (Int32.ofNat i), .int (Int32.ofNat V.slots.size)]) (rest := []) rfl rfl (by show 2 * 0 + 0 ≤ _; decide) (hb hbytes d3) (⟨rfl, rf, s1.there X0.warmed.alike hh0, Int32.ofNat_not_neg (by omega), lt32 v31 hi⟩)
  obtain ⟨rfl, q3⟩ := E3
  have hh3 := q3.trans hh0
  have c4 : Steps p.tables e below (s₁.setTop (entryFrame m #[.ref t, .int (Int32.ofNat i)] 2)) (T3.setTop (mkF m 14 #[.val (.ref t), .val (.int (Int32.ofNat i))] [.int (chr8 u)])) := Steps.trans g3 (by
    refine XS.aloadN X3.here hexec rfl (hb hbytes d6) rfl rfl ?_
    refine XS.iloadN X3.here hexec rfl (hb hbytes d7) rfl ?_
    refine X3.aget hexec (hV.mv X3.warmed.alike hh3) rfl hu rfl rfl (hb hbytes d8) ?_
    refine sipushV X3.here hexec rfl 255 (hb hbytes d9) (by decide) ?_
    refine XS.iand X3.here hexec rfl (hb hbytes d12) rfl ?_
    refine i2c X3.here hexec rfl (hb hbytes d13) rfl ?_
    exact Steps.refl _)
  exact ⟨T3, some (.int (chr8 u)), _, _, _, X3, rfl, rfl, rfl, (fun h => by cases h), ⟨rfl, hh3⟩, fun fs hl => c4.trans (X3.ireturnOut hexec hret (narrow_c _) (Or.inr (Or.inr (Or.inr (Or.inl rfl)))) (hb hbytes d14) hl)⟩
end LChA
end StrChars
namespace StrChars.Road
open Jvm Sem ClassFile Op Lib Jvm.Stand Jvm.Free Jvm.Free.XT
open Jvm.Lib.Cold (StaticIs)
theorem consq {a : Array Value} {s : State} {c : Jvm.Cond} {L : List Jvm.Cond} (h0 : c.before a s = true) (h : ∀ w ∈ L, w.before a s = true) : ∀ w ∈ c :: L, w.before a s = true := fun w hw => (List.mem_cons.mp hw).elim (fun e => e ▸ h0) (h w)
/-- the words of String.length(), either coding -/
abbrev wordsLen : List Jvm.Cond := [.code Len.yN Len.yB 1 (some .int), .initialized ST, .fieldLink ST 9 ST "value" "[B", .fieldLink ST 38 ST "COMPACT_STRINGS" "Z", .fieldLink ST 15 ST "coder" "B", .code Cdr.yN Cdr.yB 1 (some .byte), .methodLink ST 335 Cdr.yN, .declares Cdr.yN, .selects ST Cdr.yN Cdr.yN, .instanceMethod Cdr.yN]
theorem tabLen_of {a : Array Value} {s : State} (h : ∀ w ∈ wordsLen, w.before a s = true) : Len.tab.before a s = true := by
  have hc : Cdr.tab.before a s = true := unparts (wk h (.code Cdr.yN Cdr.yB 1 (some .byte))) (wks h (.initialized Cdr.yN.cls :: Cdr.site))
  have q := consq hc h
  exact unparts (wk q (.code Len.yN Len.yB 1 (some .int))) (wks q (.initialized Len.yN.cls :: Len.site))
theorem movedLen {Z s : State} {a0 args : Array Value} (hZ : Z.Warmed39 s.vm) (hw : ∀ d ∈ wordsLen, d.before a0 Z = true) : ∀ d ∈ wordsLen, d.before args s = true := fun d hd => by
  have q := hw d hd
  have t : ∀ d ∈ wordsLen, d = .arrayClass .byte ∨ (d.onTables && d.keepsFace) = true := by decide +kernel
  rcases t d hd with rfl | t
  · exact RoadKit.mvA hZ q
  · exact RoadKit.mv hZ q t
/-- the bytes of the chars cs, low before high -/
def wideBytes : List Int32 → List Value
  | [] => []
  | c :: cs => .int (lo8 c) :: .int (hi8 c) :: wideBytes cs
theorem wide_lo (d : Value) : ∀ (cs : List Int32) (j : Nat), j < cs.length → (wideBytes cs).getD (2 * j) d = .int (lo8 (cs.getD j 0))
  | [], j, h => absurd h (Nat.not_lt_zero j)
  | c :: cs, 0, _ => rfl
  | c :: cs, j + 1, h => by
    have q := wide_lo d cs j (by simpa using h)
    rw [show 2 * (j + 1) = 2 * j + 1 + 1 from by omega]
    simpa [wideBytes] using q
theorem wide_hi (d : Value) : ∀ (cs : List Int32) (j : Nat), j < cs.length → (wideBytes cs).getD (2 * j + 1) d = .int (hi8 (cs.getD j 0))
  | [], j, h => absurd h (Nat.not_lt_zero j)
  | c :: cs, 0, _ => rfl
  | c :: cs, j + 1, h => by
    have q := wide_hi d cs j (by simpa using h)
    rw [show 2 * (j + 1) + 1 = 2 * j + 1 + 1 + 1 from by omega]
    simpa [wideBytes] using q
theorem low_at (d : Value) (cs : List Int32) (j : Nat) (h : j < cs.length) : (cs.map fun c => Value.int (lo8 c)).getD j d = .int (lo8 (cs.getD j 0)) := by
  simp [List.getD_eq_getElem?_getD, h]
/-- an array of N2 bytes vs codes the chars cs by the coder cd -/
def CodA (cs : List Int32) (cd N2 : Int32) (vs : List Value) : Prop := (cd = 0 ∧ N2 = Int32.ofNat cs.length ∧ vs = (cs.map fun c => Value.int (lo8 c)) ∧ ∀ c ∈ cs, ¬ 255 < c) ∨ (cd = 1 ∧ N2 = Int32.ofNat (2 * cs.length) ∧ vs = wideBytes cs ∧ ∃ c ∈ cs, 255 < c)
theorem CodA.cod {cs : List Int32} {cd N2 : Int32} {vs : List Value} {V : Cell} (h : CodA cs cd N2 vs) (hn : 2 * cs.length < 2 ^ 31) (hs : V.slots.size = N2.toNatClampNeg) (hv : RoadKit.Has V vs (.int 0)) : Cod cd cs.length (fun j => cs.getD j 0) V := by
  rcases h with ⟨rfl, rfl, rfl, h⟩ | ⟨rfl, rfl, rfl, c, hc, hw⟩
  · rw [n32 (by omega)] at hs
    exact Or.inl ⟨rfl, hs, fun j hj => ⟨by rw [hv j (by omega), low_at _ _ _ hj], by
      have e : cs.getD j 0 = cs[j] := by simp [List.getD_eq_getElem?_getD, hj]
      show ¬ 255 < cs.getD j 0
      rw [e]; exact h _ (List.getElem_mem _)⟩⟩
  · rw [n32 (by omega)] at hs
    obtain ⟨j, hj, rfl⟩ := List.getElem_of_mem hc
    exact Or.inr ⟨rfl, hs, fun j hj => ⟨by rw [hv _ (by omega), wide_lo _ _ _ hj], by rw [hv _ (by omega), wide_hi _ _ _ hj]⟩, j, hj, by
      have e : cs.getD j 0 = cs[j] := by simp [List.getD_eq_getElem?_getD, hj]
      show 255 < cs.getD j 0
      rw [e]; exact hw⟩
/-- an object of exactly java/lang/String, its two fields found: as the laws ask it -/
theorem strObj {Z U : State} {a0 : Array Value} {kI : Nat} (wi : (Jvm.Cond.instantiable ST kI).before a0 Z = true) (al : Z.vm.Alike U.vm) {x : Addr} {v0 c0 : Value} (E : RoadKit.Exa Z U.heap x ST) (V : RoadKit.Fld Z U.heap x ST "value" "[B" v0) (C : RoadKit.Fld Z U.heap x ST "coder" "B" c0) :
    ∃ (D : Cell) (fV fC : Field), Blank ST x D U ∧ Found ST "value" "[B" fV U ∧ Found ST "coder" "B" fC U ∧ D.slots[fV.slot]? = some v0 ∧ D.slots[fC.slot]? = some c0 ∧ RoadKit.slotOf Z ST "value" "[B" = fV.slot ∧ RoadKit.slotOf Z ST "coder" "B" = fC.slot := by
  obtain ⟨D, cfV, kV, iV, fV, hD, gV, stV, knV, obV, asV, slV⟩ := V
  obtain ⟨D', cfC, kC, iC, fC, hD', gC, stC, -, -, asC, slC⟩ := C
  cases hD.symm.trans hD'
  obtain ⟨D2, kD, e1, e2, e3, e4, e5⟩ := E
  cases hD.symm.trans e1
  obtain ⟨c2, k2, i1, i2, i3, -⟩ := Cond.instantiable_spec wi
  cases e2.symm.trans i1
  cases e3.symm.trans i2
  obtain ⟨kU, u1, u2⟩ := al.2.2 _ _ e3
  exact ⟨D, fV, fC, ⟨hD, ⟨knV, fun q hq => by rw [hq] at obV; cases obV⟩, by rw [al.findClass]; exact e2, kU, u1, by rw [u2]; exact i3, by rw [u2]; exact e5 i3⟩, ⟨SBG.found_only al ⟨cfV, kV, iV, gV⟩, stV⟩, ⟨SBG.found_only al ⟨cfC, kC, iC, gC⟩, stC⟩, slV, slC, by simp [RoadKit.slotOf, gV], by simp [RoadKit.slotOf, gC]⟩
theorem sta_is {Z U : State} (al : Z.vm.Alike U.vm) {C n d : String} {v : Value} (S : RoadKit.Sta Z U.heap C n d v) : StaticIs U C n d v := by
  obtain ⟨cfS, iS, kS, fS, st, cS, t1, t2, t3, t4, t5, t6, t7⟩ := S
  exact StaticIs.there (s := { Z with heap := U.heap }) ⟨cfS, iS, kS, fS, st, cS, t1, t2, t3, t4, t5, (fun q => by rw [q] at t6; cases t6), t7⟩ al rfl
/-- **length() OF SUCH A STRING** -/
theorem lenW {p : Program} {l : Launch} {e : Env} {R : Room} {s : State} {args : Array Value} {below : List Frame} {len W : Nat} {Z : State} {a0 : Array Value} {h : Heap} (hZ : Z.Warmed39 s.vm) (hw : ∀ d ∈ wordsLen, d.before a0 Z = true) {kI : Nat} (wi : (Jvm.Cond.instantiable ST kI).before a0 Z = true)
    {x t : Addr} {kb : ClassId} {cs : List Int32} {cd N2 z : Int32} {vs : List Value} (E : RoadKit.Exa Z h x ST) (V : RoadKit.Fld Z h x ST "value" "[B" (.ref t)) (C : RoadKit.Fld Z h x ST "coder" "B" (.int cd)) (K : RoadKit.Arv Z h t kb .byte N2 vs (.int 0)) (hc : CodA cs cd N2 vs) (hb : ∀ c ∈ cs, ¬ c < 0 ∧ ¬ (65535 : Int32) < c)
    (S : RoadKit.Sta Z h ST "COMPACT_STRINGS" "Z" (.int z)) (hz : ¬ z = 0) (l2 : cs.length ≤ 4000) (hfr : 2 ≤ R.frames) (hlo : W + 25 ≤ R.locals) :
    Back l R p e below s args (⟨"java/lang/String", "length", "()I"⟩ : MethodName) len W (fun P a => a = #[.ref x] ∧ P.U.heap = h ∧ P.cells + 0 ≤ R.cells ∧ P.slots + 0 ≤ R.slots)
      (fun P _ v B => ∃ L, (v = some (.int (Int32.ofNat cs.length)) ∧ L = [] ∧ B.U.heap = h) ∧ B.locs = P.locs ++ L ∧ B.cells = P.cells + 0 ∧ B.slots = P.slots + 0) := by
  obtain ⟨A, K1, K2, K3, K4, K5, K6⟩ := K
  have hcod := hc.cod (by omega) K3 K5
  intro m meth c P g ig mk a X hg hsize hdg hW hn hp'
  obtain ⟨rfl, rfl, r1, r2⟩ := hp'
  have al : Z.vm.Alike P.U.vm := hZ.alike.trans X.warmed.alike
  obtain ⟨D, fV, fC, hB, F1, F2, g1, g2, -, -⟩ := strObj wi al E V C
  have hx : Txt x t A cd cs.length (fun j => cs.getD j 0) P.U := ⟨⟨_, hB.2.2.1, D, hB.1, rfl, by cases q : D.vm <;> first | rfl | exact absurd q (hB.2.1.2 _)⟩, Has.of hB F1 g1, Has.of hB F2 g2, ⟨K1.1, State.isArrayOf_alike al K1.2.1, K1.2.2, by rcases hcod with ⟨-, q, -⟩ | ⟨-, q, -⟩ <;> omega⟩, hcod, fun j hj => by
    have e : cs.getD j 0 = cs[j] := by simp [List.getD_eq_getElem?_getD, hj]
    show ¬ cs.getD j 0 < 0 ∧ ¬ 65535 < cs.getD j 0
    rw [e]; exact hb _ (List.getElem_mem _)⟩
  obtain ⟨v, B, X', ⟨⟨hv, hh⟩, hl, hk, hs⟩, st⟩ := Len.pays x t A cd cs.length (fun j => cs.getD j 0) z (tabLen_of (movedLen hZ hw)) hfr hlo m meth c P g ig mk _ X hg hsize hdg hW hn ⟨r1, r2, rfl, hx, sta_is al S, hz⟩
  exact ⟨v, B, X', ⟨[], ⟨hv, rfl, hh⟩, hl, hk, hs⟩, st⟩
end StrChars.Road
namespace StrChars
open Jvm Sem ClassFile Op Lib Jvm.Stand Jvm.Free.XT Jvm.Free.ALB Jvm.Free.JM Jvm.Free
open Jvm.Lib.Cold (StaticIs)
/-- what place i of a byte[]'s cell holds -/
def yv (A : Cell) (i : Nat) : Int32 := match A.slots[i]? with | some (.int x) => x | _ => 0
theorem yv_get {a : Addr} {A : Cell} {U : State} (h : XT.Arr .byte a A U) (ht : Typed .byte A) {i : Nat} (hi : i < A.slots.size) : A.slots[i]? = some (.int (yv A i)) := by
  have e := Array.getElem?_eq_getElem hi
  have f := ht i _ e
  unfold yv; rw [e]
  generalize A.slots[i] = v at f
  cases v <;> simp [fits] at f ⊢
/-- the two arrays are equal, place for place -/
def EqC (A B : Cell) : Prop := A.slots.size = B.slots.size ∧ ∀ i, i < A.slots.size → yv A i = yv B i
/-- a boolean that says whether p -/
def Says01 (q : Prop) (r : Option Value) (s u : State) : Prop := ∃ v : Int32, r = some (.int v) ∧ u.heap = s.heap ∧ ((v = 1 ∧ q) ∨ (v = 0 ∧ ¬ q))
theorem Says01.mv {q : Prop} : ∀ r (U U' V V' : State), U'.heap = U.heap → V.vm.Alike V'.vm → V'.heap = V.heap → Says01 q r U V → Says01 q r U' V' :=
  fun r U U' V V' h1 _ h2 ⟨v, a, b, c⟩ => ⟨v, a, by rw [h1, h2]; exact b, c⟩
namespace LEq
def yN : MethodName := ⟨"java/lang/StringLatin1", "equals", "([B[B)Z"⟩
abbrev yB : ByteArray := jdk_43_method_13_code
theorem d0 : decode yB 0 = .ok (.aload_n 0, 1) := by decide +kernel
theorem d1 : decode yB 1 = .ok (.arraylength, 1) := by decide +kernel
theorem d2 : decode yB 2 = .ok (.aload_n 1, 1) := by decide +kernel
theorem d3 : decode yB 3 = .ok (.arraylength, 1) := by decide +kernel
theorem d4 : decode yB 4 = .ok (.if_icmp (.ne) 30, 3) := by decide +kernel
theorem d7 : decode yB 7 = .ok (.iconst 0, 1) := by decide +kernel
theorem d8 : decode yB 8 = .ok (.istore_n 2, 1) := by decide +kernel
theorem d9 : decode yB 9 = .ok (.iload_n 2, 1) := by decide +kernel
theorem d10 : decode yB 10 = .ok (.aload_n 0, 1) := by decide +kernel
theorem d11 : decode yB 11 = .ok (.arraylength, 1) := by decide +kernel
theorem d12 : decode yB 12 = .ok (.if_icmp (.ge) 20, 3) := by decide +kernel
theorem d15 : decode yB 15 = .ok (.aload_n 0, 1) := by decide +kernel
theorem d16 : decode yB 16 = .ok (.iload_n 2, 1) := by decide +kernel
theorem d17 : decode yB 17 = .ok (.baload, 1) := by decide +kernel
theorem d18 : decode yB 18 = .ok (.aload_n 1, 1) := by decide +kernel
theorem d19 : decode yB 19 = .ok (.iload_n 2, 1) := by decide +kernel
theorem d20 : decode yB 20 = .ok (.baload, 1) := by decide +kernel
theorem d21 : decode yB 21 = .ok (.if_icmp (.eq) 5, 3) := by decide +kernel
theorem d24 : decode yB 24 = .ok (.iconst 0, 1) := by decide +kernel
theorem d25 : decode yB 25 = .ok (.ireturn, 1) := by decide +kernel
theorem d26 : decode yB 26 = .ok (.iinc 2 1, 3) := by decide +kernel
theorem d29 : decode yB 29 = .ok (.goto (-20), 3) := by decide +kernel
theorem d32 : decode yB 32 = .ok (.iconst 1, 1) := by decide +kernel
theorem d33 : decode yB 33 = .ok (.ireturn, 1) := by decide +kernel
theorem d34 : decode yB 34 = .ok (.iconst 0, 1) := by decide +kernel
theorem d35 : decode yB 35 = .ok (.ireturn, 1) := by decide +kernel
def site : List Cond := []
def tab : Cond := tabOf yN yB 3 (some .boolean) site
def P (a : Addr) (A : Cell) (b : Addr) (B : Cell) (args : Array Value) (s : State) : Prop := args = #[.ref a, .ref b] ∧ XT.Arr .byte a A s ∧ Typed .byte A ∧ XT.Arr .byte b B s ∧ Typed .byte B
/-- whether two byte[] are equal, place for place -/
theorem law (l : Launch) (a : Addr) (A : Cell) (b : Addr) (B : Cell) : Law l yN 2 2 0 0 yB 3 (some .boolean) site (P a A b B) (Says01 (EqC A B)) [] 0 0 := by
  refine Law.of_walk (plainFor_of_name (by decide +kernel)) (by decide +kernel) (by decide +kernel) (by decide) (fun _ _ h => by rw [h.1]; rfl) (fun _ U U' hal hh h => ⟨h.1, h.2.1.mv hal hh, h.2.2.1, h.2.2.2.1.mv hal hh, h.2.2.2.2⟩) (fun r U U' V V' h1 hal h2 h => Says01.mv r U U' V V' h1 hal h2 h) ?_
  intro p e s m args below meth c s₁ X0 hexec hbytes hml hret hlk hnm hown hh0 W hP
  obtain ⟨rfl, hA, tA, hB, tB⟩ := hP
  have a31 := hA.2.2.2
  have b31 := hB.2.2.2
  have hA0 := hA.mv X0.warmed.alike hh0
  have hB0 := hB.mv X0.warmed.alike hh0
  have c1 : Steps p.tables e below (s₁.setTop (entryFrame m #[.ref a, .ref b] 3)) (s₁.setTop (mkF m 0 #[.val (.ref a), .val (.ref b), .unset] [])) := entry rfl
  have c2 : Steps p.tables e below (s₁.setTop (entryFrame m #[.ref a, .ref b] 3)) (s₁.setTop (mkF m 4 #[.val (.ref a), .val (.ref b), .unset] [.int (Int32.ofNat B.slots.size), .int (Int32.ofNat A.slots.size)])) := c1.trans (by
    refine XS.aloadN X0.here hexec rfl (hb hbytes d0) rfl rfl ?_
    refine X0.alen hexec hA0 rfl rfl (hb hbytes d1) ?_
    refine XS.aloadN X0.here hexec rfl (hb hbytes d2) rfl rfl ?_
    refine X0.alen hexec hB0 rfl rfl (hb hbytes d3) ?_
    exact Steps.refl _)
  by_cases hs : A.slots.size = B.slots.size
  · have c3 : Steps p.tables e below (s₁.setTop (entryFrame m #[.ref a, .ref b] 3)) (s₁.setTop (mkF m 9 #[.val (.ref a), .val (.ref b), .val (.int 0)] [])) := c2.trans (by
      refine XS.icmpNo X0.here hexec rfl (hb hbytes d4) rfl (ii_ne_f (by rw [hs])) ?_
      refine iconstV X0.here hexec rfl 0 (hb hbytes d7) (by decide) ?_
      refine XS.istoreN X0.here hexec rfl (hb hbytes d8) rfl rfl ?_
      exact Steps.refl _)
    have loop : ∀ (r i : Nat), i + r = A.slots.size → (∀ j, j < i → yv A j = yv B j) → Steps p.tables e below (s₁.setTop (entryFrame m #[.ref a, .ref b] 3)) (s₁.setTop (mkF m 9 #[.val (.ref a), .val (.ref b), .val (.int (Int32.ofNat i))] [])) → ∃ (pc : Nat) (Ls : Array Slot) (v : Int32), (pc = 25 ∨ pc = 33) ∧ ((v = 1 ∧ EqC A B) ∨ (v = 0 ∧ ¬ EqC A B)) ∧ Steps p.tables e below (s₁.setTop (entryFrame m #[.ref a, .ref b] 3)) (s₁.setTop (mkF m pc Ls [.int v])) := by
      intro r
      induction r with
      | zero =>
        intro i hi he cl
        exact ⟨33, _, 1, Or.inr rfl, Or.inl ⟨rfl, hs, fun j hj => he j (by omega)⟩, cl.trans (by
          refine XS.iloadN X0.here hexec rfl (hb hbytes d9) rfl ?_
          refine XS.aloadN X0.here hexec rfl (hb hbytes d10) rfl rfl ?_
          refine X0.alen hexec hA0 rfl rfl (hb hbytes d11) ?_
          refine XS.icmpYes X0.here hexec rfl (pc0 := 12) rfl (hb hbytes d12) rfl (ii_ge_t (nlt32 (by omega) (by omega))) (by decide) rfl ?_
          refine iconstV X0.here hexec rfl 1 (hb hbytes d32) (by decide) ?_
          exact Steps.refl _)⟩
      | succ r ih =>
        intro i hi he cl
        have c4 : Steps p.tables e below (s₁.setTop (entryFrame m #[.ref a, .ref b] 3)) (s₁.setTop (mkF m 21 #[.val (.ref a), .val (.ref b), .val (.int (Int32.ofNat i))] [.int (yv B i), .int (yv A i)])) := cl.trans (by
          refine XS.iloadN X0.here hexec rfl (hb hbytes d9) rfl ?_
          refine XS.aloadN X0.here hexec rfl (hb hbytes d10) rfl rfl ?_
          refine X0.alen hexec hA0 rfl rfl (hb hbytes d11) ?_
          refine XS.icmpNo X0.here hexec rfl (hb hbytes d12) rfl (ii_ge_f (lt32 (by omega) (by omega))) ?_
          refine XS.aloadN X0.here hexec rfl (hb hbytes d15) rfl rfl ?_
          refine XS.iloadN X0.here hexec rfl (hb hbytes d16) rfl ?_
          refine X0.aget hexec hA0 rfl (yv_get hA tA (i := i) (by omega)) rfl rfl (hb hbytes d17) ?_
          refine XS.aloadN X0.here hexec rfl (hb hbytes d18) rfl rfl ?_
          refine XS.iloadN X0.here hexec rfl (hb hbytes d19) rfl ?_
          refine X0.aget hexec hB0 rfl (yv_get hB tB (i := i) (by omega)) rfl rfl (hb hbytes d20) ?_
          exact Steps.refl _)
        by_cases hv : yv A i = yv B i
        · have c5 : Steps p.tables e below (s₁.setTop (entryFrame m #[.ref a, .ref b] 3)) (s₁.setTop (mkF m 9 #[.val (.ref a), .val (.ref b), .val (.int (Int32.ofNat i + 1))] [])) := c4.trans (by
            refine XS.icmpYes X0.here hexec rfl (pc0 := 21) rfl (hb hbytes d21) rfl (ii_eq_t hv) (by decide) rfl ?_
            refine iincV X0.here hexec rfl 1 (hb hbytes d26) (by decide) rfl rfl ?_
            refine XS.goto X0.here hexec rfl (pc0 := 29) rfl (hb hbytes d29) (by decide) rfl ?_
            exact Steps.refl _)
          rw [succ32] at c5
          exact ih (i + 1) (by omega) (fun j hj => by
            by_cases e : j = i
            · rw [e]; exact hv
            · exact he j (by omega)) c5
        · exact ⟨25, _, 0, Or.inl rfl, Or.inr ⟨rfl, fun q => hv (q.2 i (by omega))⟩, c4.trans (by
            refine XS.icmpNo X0.here hexec rfl (hb hbytes d21) rfl (ii_eq_f hv) ?_
            refine iconstV X0.here hexec rfl 0 (hb hbytes d24) (by decide) ?_
            exact Steps.refl _)⟩
    obtain ⟨pc, Ls, v, hpc, hv, cz⟩ := loop A.slots.size 0 (by omega) (fun j hj => absurd hj (Nat.not_lt_zero j)) c3
    have nv : narrow .boolean (.int v) = .int v := by rcases hv with ⟨rfl, -⟩ | ⟨rfl, -⟩ <;> rfl
    rcases hpc with rfl | rfl
    · exact ⟨s₁, some (.int v), _, _, _, X0, rfl, rfl, rfl, (fun h => by cases h), ⟨v, rfl, hh0, hv⟩, fun fs hl => cz.trans (X0.ireturnOut hexec hret nv (Or.inr (Or.inl rfl)) (hb hbytes d25) hl)⟩
    · exact ⟨s₁, some (.int v), _, _, _, X0, rfl, rfl, rfl, (fun h => by cases h), ⟨v, rfl, hh0, hv⟩, fun fs hl => cz.trans (X0.ireturnOut hexec hret nv (Or.inr (Or.inl rfl)) (hb hbytes d33) hl)⟩
  · have c3 : Steps p.tables e below (s₁.setTop (entryFrame m #[.ref a, .ref b] 3)) (s₁.setTop (mkF m 35 #[.val (.ref a), .val (.ref b), .unset] [.int 0])) := c2.trans (by
      refine XS.icmpYes X0.here hexec rfl (pc0 := 4) rfl (hb hbytes d4) rfl (ii_ne_t (ne32 a31 b31 hs)) (by decide) rfl ?_
      refine iconstV X0.here hexec rfl 0 (hb hbytes d34) (by decide) ?_
      exact Steps.refl _)
    exact ⟨s₁, some (.int 0), _, _, _, X0, rfl, rfl, rfl, (fun h => by cases h), ⟨0, rfl, hh0, Or.inr ⟨rfl, fun q => hs q.1⟩⟩, fun fs hl => c3.trans (X0.ireturnOut hexec hret rfl (Or.inr (Or.inl rfl)) (hb hbytes d35) hl)⟩
end LEq
theorem Cod.ty {cd : Int32} {n : Nat} {f : Nat → Int32} {V : Cell} (h : Cod cd n f V) : Typed .byte V := fun i v hv => by
  have hi : i < V.slots.size := (Array.getElem?_eq_some_iff.mp hv).1
  rcases h with ⟨-, k1, k2⟩ | ⟨-, k1, k2, -⟩
  · rw [(k2 i (by omega)).1] at hv; cases hv; exact fits_lo8 _
  · rcases Nat.mod_two_eq_zero_or_one i with e | e
    · obtain ⟨j, rfl⟩ : ∃ j, i = 2 * j := ⟨i / 2, by omega⟩
      rw [(k2 j (by omega)).1] at hv; cases hv; exact fits_lo8 _
    · obtain ⟨j, rfl⟩ : ∃ j, i = 2 * j + 1 := ⟨i / 2, by omega⟩
      rw [(k2 j (by omega)).2] at hv; cases hv; exact fits_lo8 _
/-- the same text -/
def SameT (n : Nat) (f : Nat → Int32) (k : Nat) (g : Nat → Int32) : Prop := n = k ∧ ∀ j, j < n → f j = g j
theorem lo8_inj {x y : Int32} (h0 : ¬ x < 0) (h1 : ¬ 255 < x) (k0 : ¬ y < 0) (k1 : ¬ 255 < y) (h : lo8 x = lo8 y) : x = y := by
  rw [← lo8_mask h0 h1, ← lo8_mask k0 k1, h]
/-- arrays coded by one coder are equal just where the texts are -/
theorem Cod.eqv {cd : Int32} {n k : Nat} {f g : Nat → Int32} {V V' : Cell} (h : Cod cd n f V) (h' : Cod cd k g V') (hf : ∀ j, j < n → ¬ f j < 0 ∧ ¬ 65535 < f j) (hg : ∀ j, j < k → ¬ g j < 0 ∧ ¬ 65535 < g j) : EqC V V' ↔ SameT n f k g := by
  have yvv : ∀ {W : Cell} {i : Nat} {x : Int32}, W.slots[i]? = some (.int x) → yv W i = x := fun q => by unfold yv; rw [q]
  rcases h with ⟨rfl, k1, k2⟩ | ⟨rfl, k1, k2, -⟩
  · rcases h' with ⟨-, m1, m2⟩ | ⟨e, -⟩
    · constructor
      · rintro ⟨e1, e2⟩
        refine ⟨by omega, fun j hj => ?_⟩
        have q := e2 j (by omega)
        rw [yvv (k2 j hj).1, yvv (m2 j (by omega)).1] at q
        exact lo8_inj (hf j hj).1 (k2 j hj).2 (hg j (by omega)).1 (m2 j (by omega)).2 q
      · rintro ⟨rfl, e2⟩
        refine ⟨by omega, fun j hj => ?_⟩
        rw [yvv (k2 j (by omega)).1, yvv (m2 j (by omega)).1, e2 j (by omega)]
    · exact absurd e (by decide)
  · rcases h' with ⟨e, -⟩ | ⟨-, m1, m2, -⟩
    · exact absurd e (by decide)
    · constructor
      · rintro ⟨e1, e2⟩
        refine ⟨by omega, fun j hj => ?_⟩
        have q1 := e2 (2 * j) (by omega)
        have q2 := e2 (2 * j + 1) (by omega)
        rw [yvv (k2 j hj).1, yvv (m2 j (by omega)).1] at q1
        rw [yvv (k2 j hj).2, yvv (m2 j (by omega)).2] at q2
        rw [← pair_says (hf j hj).1 (hf j hj).2, ← pair_says (hg j (by omega)).1 (hg j (by omega)).2, q1, q2]
      · rintro ⟨rfl, e2⟩
        refine ⟨by omega, fun i hi => ?_⟩
        rcases Nat.mod_two_eq_zero_or_one i with e | e
        · obtain ⟨j, rfl⟩ : ∃ j, i = 2 * j := ⟨i / 2, by omega⟩
          rw [yvv (k2 j (by omega)).1, yvv (m2 j (by omega)).1, e2 j (by omega)]
        · obtain ⟨j, rfl⟩ : ∃ j, i = 2 * j + 1 := ⟨i / 2, by omega⟩
          rw [yvv (k2 j (by omega)).2, yvv (m2 j (by omega)).2, e2 j (by omega)]
/-- two codings differ: so do the texts -/
theorem Cod.dif {cd cd' : Int32} {n k : Nat} {f g : Nat → Int32} {V V' : Cell} (h : Cod cd n f V) (h' : Cod cd' k g V') (hne : ¬ cd = cd') : ¬ SameT n f k g := by
  rintro ⟨rfl, e⟩
  rcases h with ⟨rfl, -, k2⟩ | ⟨rfl, -, -, j, hj, hw⟩
  · rcases h' with ⟨rfl, -⟩ | ⟨-, -, -, j, hj, hw⟩
    · exact hne rfl
    · exact (k2 j hj).2 (by rw [e j hj]; exact hw)
  · rcases h' with ⟨-, -, m2⟩ | ⟨rfl, -⟩
    · exact (m2 j hj).2 (by rw [← e j hj]; exact hw)
    · exact hne rfl
/-- an object of exactly C is an instance of C -/
theorem cinst {p : Program} {l : Launch} {e : Env} {R : Room} {s : State} {m : MethodId} {args : Array Value} {below : List Frame} {meth : Method} {c : Code} {T : State} {locs : List Loc} {cells slots : Nat} (X : Stand p l e R s m args below meth c T locs cells slots) (hexec : p.tables.exec = Jvm.exec) {own C : String} {index : Nat} (hown : s.vm.findClass own = some m.cls) (hlink : (Cond.classLink own index C).before args s = true) {a : Addr} (hE : Exact C a T)
    {g : JFrame} (hg : g.method = m) {rest : List Value} (hstack : g.stack = .ref a :: rest) (hdg : decode c.code g.pc = .ok (.instanceof index, 3)) :
    ∃ T', Stand p l e R s m args below meth c T' locs cells slots ∧ T'.heap = T.heap ∧ ∀ target, Steps p.tables e below (T'.setTop { g with pc := g.pc + 3, stack := .int 1 :: rest }) target → Steps p.tables e below (T.setTop g) target := by
  obtain ⟨cB, h1, D, h2, h3, h4⟩ := hE
  have h1' : s.vm.findClass C = some cB := by rw [← X.warmed.alike.findClass]; exact h1
  obtain ⟨vm', X', st⟩ := X.instanceofYes hexec hown hlink h2 h4 h1' (by rw [h3]; exact Jvm.Free.SB.assignable_self _ _) hg hstack hdg
  exact ⟨_, X', rfl, st⟩
theorem cself {p : Program} {l : Launch} {e : Env} {R : Room} {s : State} {m : MethodId} {args : Array Value} {below : List Frame} {meth : Method} {c : Code} {T : State} {locs : List Loc} {cells slots : Nat} (X : Stand p l e R s m args below meth c T locs cells slots) (hexec : p.tables.exec = Jvm.exec) {own C : String} {index : Nat} (hown : s.vm.findClass own = some m.cls) (hlink : (Cond.classLink own index C).before args s = true) {a : Addr} (hE : Exact C a T)
    {g : JFrame} (hg : g.method = m) {rest : List Value} (hstack : g.stack = .ref a :: rest) (hdg : decode c.code g.pc = .ok (.checkcast index, 3)) :
    ∃ T', Stand p l e R s m args below meth c T' locs cells slots ∧ T'.heap = T.heap ∧ ∀ target, Steps p.tables e below (T'.setTop { g with pc := g.pc + 3, stack := .ref a :: rest }) target → Steps p.tables e below (T.setTop g) target := by
  obtain ⟨cB, h1, D, h2, h3, h4⟩ := hE
  have h1' : s.vm.findClass C = some cB := by rw [← X.warmed.alike.findClass]; exact h1
  obtain ⟨vm', X', st⟩ := X.checkcastYes hexec hown hlink h2 h4 h1' (by rw [h3]; exact Jvm.Free.SB.assignable_self _ _) hg hstack hdg
  exact ⟨_, X', rfl, fun t h => st t (by rw [← hstack] at h; exact h)⟩
namespace SEq
def yN : MethodName := ⟨"java/lang/String", "equals", "(Ljava/lang/Object;)Z"⟩
abbrev yB : ByteArray := jdk_42_method_66_code
theorem d0 : decode yB 0 = .ok (.aload_n 0, 1) := by decide +kernel
theorem d1 : decode yB 1 = .ok (.aload_n 1, 1) := by decide +kernel
theorem d2 : decode yB 2 = .ok (.if_acmp (.ne) 5, 3) := by decide +kernel
theorem d5 : decode yB 5 = .ok (.iconst 1, 1) := by decide +kernel
theorem d6 : decode yB 6 = .ok (.ireturn, 1) := by decide +kernel
theorem d7 : decode yB 7 = .ok (.aload_n 1, 1) := by decide +kernel
theorem d8 : decode yB 8 = .ok (.instanceof 10, 3) := by decide +kernel
theorem d11 : decode yB 11 = .ok (.ifCond (.eq) 43, 3) := by decide +kernel
theorem d14 : decode yB 14 = .ok (.aload_n 1, 1) := by decide +kernel
theorem d15 : decode yB 15 = .ok (.checkcast 10, 3) := by decide +kernel
theorem d18 : decode yB 18 = .ok (.astore_n 2, 1) := by decide +kernel
theorem d19 : decode yB 19 = .ok (.getstatic 38, 3) := by decide +kernel
theorem d22 : decode yB 22 = .ok (.ifCond (.eq) 14, 3) := by decide +kernel
theorem d25 : decode yB 25 = .ok (.aload_n 0, 1) := by decide +kernel
theorem d26 : decode yB 26 = .ok (.getfield 15, 3) := by decide +kernel
theorem d29 : decode yB 29 = .ok (.aload_n 2, 1) := by decide +kernel
theorem d30 : decode yB 30 = .ok (.getfield 15, 3) := by decide +kernel
theorem d33 : decode yB 33 = .ok (.if_icmp (.ne) 21, 3) := by decide +kernel
theorem d36 : decode yB 36 = .ok (.aload_n 0, 1) := by decide +kernel
theorem d37 : decode yB 37 = .ok (.getfield 9, 3) := by decide +kernel
theorem d40 : decode yB 40 = .ok (.aload_n 2, 1) := by decide +kernel
theorem d41 : decode yB 41 = .ok (.getfield 9, 3) := by decide +kernel
theorem d44 : decode yB 44 = .ok (.invokestatic 541, 3) := by decide +kernel
theorem d47 : decode yB 47 = .ok (.ifCond (.eq) 7, 3) := by decide +kernel
theorem d50 : decode yB 50 = .ok (.iconst 1, 1) := by decide +kernel
theorem d51 : decode yB 51 = .ok (.goto 4, 3) := by decide +kernel
theorem d54 : decode yB 54 = .ok (.iconst 0, 1) := by decide +kernel
theorem d55 : decode yB 55 = .ok (.ireturn, 1) := by decide +kernel
def site : List Cond := [.classLink "java/lang/String" 10 "java/lang/String", .fieldLink "java/lang/String" 38 "java/lang/String" "COMPACT_STRINGS" "Z", .fieldLink "java/lang/String" 15 "java/lang/String" "coder" "B", .fieldLink "java/lang/String" 9 "java/lang/String" "value" "[B", LEq.tab] ++ staticW "java/lang/String" 541 LEq.yN
def tab : Cond := tabOf yN yB 3 (some .boolean) site
def P (x t : Addr) (V : Cell) (cd : Int32) (n : Nat) (f : Nat → Int32) (y t' : Addr) (V' : Cell) (cd' : Int32) (k : Nat) (g : Nat → Int32) (z : Int32) (args : Array Value) (s : State) : Prop := args = #[.ref x, .ref y] ∧ Txt x t V cd n f s ∧ Txt y t' V' cd' k g s ∧ StaticIs s "java/lang/String" "COMPACT_STRINGS" "Z" (.int z) ∧ ¬ z = 0
/-- equals(Object) of two Strings: whether the texts are the same -/
theorem law (l : Launch) (x t : Addr) (V : Cell) (cd : Int32) (n : Nat) (f : Nat → Int32) (y t' : Addr) (V' : Cell) (cd' : Int32) (k : Nat) (g : Nat → Int32) (z : Int32) : Law l yN 2 1 1 14 yB 3 (some .boolean) site (P x t V cd n f y t' V' cd' k g z) (Says01 (SameT n f k g)) [] 0 0 := by
  refine Law.of_walk (plainFor_of_name (by decide +kernel)) (by decide +kernel) (by decide +kernel) (by decide) (fun _ _ h => by rw [h.1]; rfl) (fun _ U U' hal hh h => ⟨h.1, h.2.1.mv hal hh, h.2.2.1.mv hal hh, h.2.2.2.1.there hal hh, h.2.2.2.2⟩) (fun r U U' V V' h1 hal h2 h => Says01.mv r U U' V V' h1 hal h2 h) ?_
  intro p e s m args below meth c s₁ X0 hexec hbytes hml hret hlk hnm hown hh0 W hP
  obtain ⟨rfl, hx, hy, s1, hz⟩ := hP
  have c1 : Steps p.tables e below (s₁.setTop (entryFrame m #[.ref x, .ref y] 3)) (s₁.setTop (mkF m 2 #[.val (.ref x), .val (.ref y), .unset] [.ref y, .ref x])) := Steps.trans (entry rfl) (by
    show Steps p.tables e below (s₁.setTop (mkF m 0 #[.val (.ref x), .val (.ref y), .unset] [])) _
    refine XS.aloadN X0.here hexec rfl (hb hbytes d0) rfl rfl ?_
    refine XS.aloadN X0.here hexec rfl (hb hbytes d1) rfl rfl ?_
    exact Steps.refl _)
  by_cases hxy : x = y
  · have c2 : Steps p.tables e below (s₁.setTop (entryFrame m #[.ref x, .ref y] 3)) (s₁.setTop (mkF m 6 #[.val (.ref x), .val (.ref y), .unset] [.int 1])) := c1.trans (by
      refine acmpNo X0.here hexec rfl (hb hbytes d2) rfl rfl rfl (by simp [acmp, hxy]) ?_
      refine iconstV X0.here hexec rfl 1 (hb hbytes d5) (by decide) ?_
      exact Steps.refl _)
    subst hxy
    have ec : cd = cd' := by
      obtain ⟨D, fd, a1, a2, a3⟩ := hx.2.2.1
      obtain ⟨D', fd', b1, b2, b3⟩ := hy.2.2.1
      cases a1.symm.trans b1
      obtain ⟨q1, q2, q3, q4⟩ := a2.1
      obtain ⟨r1, r2, r3, r4⟩ := b2.1
      cases q4.symm.trans r4
      cases a3.symm.trans b3; rfl
    have et : t = t' := by
      obtain ⟨D, fd, a1, a2, a3⟩ := hx.2.1
      obtain ⟨D', fd', b1, b2, b3⟩ := hy.2.1
      cases a1.symm.trans b1
      obtain ⟨q1, q2, q3, q4⟩ := a2.1
      obtain ⟨r1, r2, r3, r4⟩ := b2.1
      cases q4.symm.trans r4
      cases a3.symm.trans b3; rfl
    subst ec et
    have ev : V = V' := by cases hx.2.2.2.1.1.symm.trans hy.2.2.2.1.1; rfl
    subst ev
    have hs : SameT n f k g := (Cod.eqv hx.2.2.2.2.1 hy.2.2.2.2.1 hx.2.2.2.2.2 hy.2.2.2.2.2).mp ⟨rfl, fun _ _ => rfl⟩
    exact ⟨s₁, some (.int 1), _, _, _, X0, rfl, rfl, rfl, (fun h => by cases h), ⟨1, rfl, hh0, Or.inl ⟨rfl, hs⟩⟩, fun fs hl => c2.trans (X0.ireturnOut hexec hret rfl (Or.inr (Or.inl rfl)) (hb hbytes d6) hl)⟩
  · have c2 : Steps p.tables e below (s₁.setTop (entryFrame m #[.ref x, .ref y] 3)) (s₁.setTop (mkF m 8 #[.val (.ref x), .val (.ref y), .unset] [.ref y])) := c1.trans (by
      refine acmpYes X0.here hexec rfl (pc0 := 2) rfl (hb hbytes d2) rfl rfl rfl (by simp [acmp, hxy]) (by decide) rfl ?_
      refine XS.aloadN X0.here hexec rfl (hb hbytes d7) rfl rfl ?_
      exact Steps.refl _)
    obtain ⟨T3, X3, q3, st3⟩ := cinst X0 hexec hown (wk W (.classLink "java/lang/String" 10 "java/lang/String")) (hy.mv X0.warmed.alike hh0).1 (g := (mkF m 8 #[.val (.ref x), .val (.ref y), .unset] [.ref y])) rfl (rest := []) rfl (hb hbytes d8)
    have hh3 := q3.trans hh0
    have c4 : Steps p.tables e below (s₁.setTop (entryFrame m #[.ref x, .ref y] 3)) (T3.setTop (mkF m 15 #[.val (.ref x), .val (.ref y), .unset] [.ref y])) := (c2.trans (st3 _ (Steps.refl _))).trans (by
      refine XS.ifNo X3.here hexec rfl (hb hbytes d11) rfl (i0_eq_f (by decide)) ?_
      refine XS.aloadN X3.here hexec rfl (hb hbytes d14) rfl rfl ?_
      exact Steps.refl _)
    obtain ⟨T5, X5, q5, st5⟩ := cself X3 hexec hown (wk W (.classLink "java/lang/String" 10 "java/lang/String")) (hy.mv X3.warmed.alike hh3).1 (g := (mkF m 15 #[.val (.ref x), .val (.ref y), .unset] [.ref y])) rfl (rest := []) rfl (hb hbytes d15)
    have hh5 := q5.trans hh3
    have c6 : Steps p.tables e below (s₁.setTop (entryFrame m #[.ref x, .ref y] 3)) (T5.setTop (mkF m 19 #[.val (.ref x), .val (.ref y), .val (.ref y)] [])) := (c4.trans (st5 _ (Steps.refl _))).trans (by
      refine XS.astoreN X5.here hexec rfl (hb hbytes d18) rfl rfl rfl ?_
      exact Steps.refl _)
    obtain ⟨T7, X7, q7, st7⟩ := X5.sget hexec hown (wk W (.fieldLink "java/lang/String" 38 "java/lang/String" "COMPACT_STRINGS" "Z")) s1 (fun _ _ h => by rw [hh5]; exact h) (g := (mkF m 19 #[.val (.ref x), .val (.ref y), .val (.ref y)] [])) rfl (hb hbytes d19)
    have hh7 := q7.trans hh5
    have c8 : Steps p.tables e below (s₁.setTop (entryFrame m #[.ref x, .ref y] 3)) (T7.setTop (mkF m 26 #[.val (.ref x), .val (.ref y), .val (.ref y)] [.ref x])) := (c6.trans (st7 _ (Steps.refl _))).trans (by
      refine XS.ifNo X7.here hexec rfl (hb hbytes d22) rfl (i0_eq_f hz) ?_
      refine XS.aloadN X7.here hexec rfl (hb hbytes d25) rfl rfl ?_
      exact Steps.refl _)
    obtain ⟨T9, X9, q9, st9⟩ := X7.hget hexec hown (wk W (.fieldLink "java/lang/String" 15 "java/lang/String" "coder" "B")) (hx.mv X7.warmed.alike hh7).2.2.1 (g := (mkF m 26 #[.val (.ref x), .val (.ref y), .val (.ref y)] [.ref x])) rfl (rest := []) rfl (hb hbytes d26)
    have hh9 := q9.trans hh7
    have c10 : Steps p.tables e below (s₁.setTop (entryFrame m #[.ref x, .ref y] 3)) (T9.setTop (mkF m 30 #[.val (.ref x), .val (.ref y), .val (.ref y)] [.ref y, .int cd])) := (c8.trans (st9 _ (Steps.refl _))).trans (by
      refine XS.aloadN X9.here hexec rfl (hb hbytes d29) rfl rfl ?_
      exact Steps.refl _)
    obtain ⟨T11, X11, q11, st11⟩ := X9.hget hexec hown (wk W (.fieldLink "java/lang/String" 15 "java/lang/String" "coder" "B")) (hy.mv X9.warmed.alike hh9).2.2.1 (g := (mkF m 30 #[.val (.ref x), .val (.ref y), .val (.ref y)] [.ref y, .int cd])) rfl (rest := [.int cd]) rfl (hb hbytes d30)
    have hh11 := q11.trans hh9
    have c12 : Steps p.tables e below (s₁.setTop (entryFrame m #[.ref x, .ref y] 3)) (T11.setTop (mkF m 33 #[.val (.ref x), .val (.ref y), .val (.ref y)] [.int cd', .int cd])) := c10.trans (st11 _ (Steps.refl _))
    by_cases hcd : cd = cd'
    · subst hcd
      have c13 : Steps p.tables e below (s₁.setTop (entryFrame m #[.ref x, .ref y] 3)) (T11.setTop (mkF m 37 #[.val (.ref x), .val (.ref y), .val (.ref y)] [.ref x])) := c12.trans (by
        refine XS.icmpNo X11.here hexec rfl (hb hbytes d33) rfl (ii_ne_f rfl) ?_
        refine XS.aloadN X11.here hexec rfl (hb hbytes d36) rfl rfl ?_
        exact Steps.refl _)
      obtain ⟨T14, X14, q14, st14⟩ := X11.hget hexec hown (wk W (.fieldLink "java/lang/String" 9 "java/lang/String" "value" "[B")) (hx.mv X11.warmed.alike hh11).2.1 (g := (mkF m 37 #[.val (.ref x), .val (.ref y), .val (.ref y)] [.ref x])) rfl (rest := []) rfl (hb hbytes d37)
      have hh14 := q14.trans hh11
      have c15 : Steps p.tables e below (s₁.setTop (entryFrame m #[.ref x, .ref y] 3)) (T14.setTop (mkF m 41 #[.val (.ref x), .val (.ref y), .val (.ref y)] [.ref y, .ref t])) := (c13.trans (st14 _ (Steps.refl _))).trans (by
        refine XS.aloadN X14.here hexec rfl (hb hbytes d40) rfl rfl ?_
        exact Steps.refl _)
      obtain ⟨T16, X16, q16, st16⟩ := X14.hget hexec hown (wk W (.fieldLink "java/lang/String" 9 "java/lang/String" "value" "[B")) (hy.mv X14.warmed.alike hh14).2.1 (g := (mkF m 41 #[.val (.ref x), .val (.ref y), .val (.ref y)] [.ref y, .ref t])) rfl (rest := [.ref t]) rfl (hb hbytes d41)
      have hh16 := q16.trans hh14
      have c17 : Steps p.tables e below (s₁.setTop (entryFrame m #[.ref x, .ref y] 3)) (T16.setTop (mkF m 44 #[.val (.ref x), .val (.ref y), .val (.ref y)] [.ref t', .ref t])) := c15.trans (st16 _ (Steps.refl _))
      obtain ⟨v18, T18, X18, E18, g18⟩ := X16.callS hexec (LEq.law l t V t' V') hown (wks W (staticW "java/lang/String" 541 LEq.yN)) (wk W LEq.tab) (W := 0) (Nat.le_of_ble_eq_true rfl) (Nat.le_of_ble_eq_true rfl) (Nat.le_refl _) (Nat.le_refl _) (g := (mkF m 44 #[.val (.ref x), .val (.ref y), .val (.ref y)] [.ref t', .ref t])) rfl (by rw [hml]; rfl) c17 (argsL := [.ref t, .ref t']) (rest := []) rfl rfl (by show 2 * 0 + 0 ≤ _; decide) (hb hbytes d44) (⟨rfl, hx.2.2.2.1.mv X16.warmed.alike hh16, hx.2.2.2.2.1.ty, hy.2.2.2.1.mv X16.warmed.alike hh16, hy.2.2.2.2.1.ty⟩)
      obtain ⟨v, rfl, q18, hv⟩ := E18
      have iff := Cod.eqv hx.2.2.2.2.1 hy.2.2.2.2.1 hx.2.2.2.2.2 hy.2.2.2.2.2
      rcases hv with ⟨rfl, he⟩ | ⟨rfl, he⟩
      · have c19 : Steps p.tables e below (s₁.setTop (entryFrame m #[.ref x, .ref y] 3)) (T18.setTop (mkF m 55 #[.val (.ref x), .val (.ref y), .val (.ref y)] [.int 1])) := Steps.trans g18 (by
          refine XS.ifNo X18.here hexec rfl (hb hbytes d47) rfl (i0_eq_f (by decide)) ?_
          refine iconstV X18.here hexec rfl 1 (hb hbytes d50) (by decide) ?_
          refine XS.goto X18.here hexec rfl (pc0 := 51) rfl (hb hbytes d51) (by decide) rfl ?_
          exact Steps.refl _)
        exact ⟨T18, some (.int 1), _, _, _, X18, rfl, rfl, rfl, (fun h => by cases h), ⟨1, rfl, q18.trans hh16, Or.inl ⟨rfl, iff.mp he⟩⟩, fun fs hl => c19.trans (X18.ireturnOut hexec hret rfl (Or.inr (Or.inl rfl)) (hb hbytes d55) hl)⟩
      · have c19 : Steps p.tables e below (s₁.setTop (entryFrame m #[.ref x, .ref y] 3)) (T18.setTop (mkF m 55 #[.val (.ref x), .val (.ref y), .val (.ref y)] [.int 0])) := Steps.trans g18 (by
          refine XS.ifYes X18.here hexec rfl (pc0 := 47) rfl (hb hbytes d47) rfl (i0_eq_t rfl) (by decide) rfl ?_
          refine iconstV X18.here hexec rfl 0 (hb hbytes d54) (by decide) ?_
          exact Steps.refl _)
        exact ⟨T18, some (.int 0), _, _, _, X18, rfl, rfl, rfl, (fun h => by cases h), ⟨0, rfl, q18.trans hh16, Or.inr ⟨rfl, fun q => he (iff.mpr q)⟩⟩, fun fs hl => c19.trans (X18.ireturnOut hexec hret rfl (Or.inr (Or.inl rfl)) (hb hbytes d55) hl)⟩
    · have c13 : Steps p.tables e below (s₁.setTop (entryFrame m #[.ref x, .ref y] 3)) (T11.setTop (mkF m 55 #[.val (.ref x), .val (.ref y), .val (.ref y)] [.int 0])) := c12.trans (by
        refine XS.icmpYes X11.here hexec rfl (pc0 := 33) rfl (hb hbytes d33) rfl (ii_ne_t hcd) (by decide) rfl ?_
        refine iconstV X11.here hexec rfl 0 (hb hbytes d54) (by decide) ?_
        exact Steps.refl _)
      exact ⟨T11, some (.int 0), _, _, _, X11, rfl, rfl, rfl, (fun h => by cases h), ⟨0, rfl, hh11, Or.inr ⟨rfl, Cod.dif hx.2.2.2.2.1 hy.2.2.2.2.1 hcd⟩⟩, fun fs hl => c13.trans (X11.ireturnOut hexec hret rfl (Or.inr (Or.inl rfl)) (hb hbytes d55) hl)⟩
theorem pays {l : Launch} {R : Room} {p : Program} {e : Env} {below : List Frame} {s : State} {sargs : Array Value} {len W : Nat} (x t : Addr) (V : Cell) (cd : Int32) (n : Nat) (f : Nat → Int32) (y t' : Addr) (V' : Cell) (cd' : Int32) (k : Nat) (g : Nat → Int32) (z : Int32) (htab : tab.before sargs s = true) (hfr : 2 ≤ R.frames) (hlo : W + 28 ≤ R.locals) :
    Back l R p e below s sargs yN len W (fun A₁ a₁ => A₁.cells + 0 ≤ R.cells ∧ A₁.slots + 0 ≤ R.slots ∧ P x t V cd n f y t' V' cd' k g z a₁ A₁.U) (fun A₁ _ v₁ B₁ => Says01 (SameT n f k g) v₁ A₁.U B₁.U ∧ B₁.locs = A₁.locs ++ [] ∧ B₁.cells = A₁.cells + 0 ∧ B₁.slots = A₁.slots + 0) :=
  (law l x t V cd n f y t' V' cd' k g z).pays htab hfr (by omega)
end SEq
end StrChars
namespace StrChars.Road
open Jvm Sem ClassFile Op Lib Jvm.Stand Jvm.Free Jvm.Free.XT
open Jvm.Lib.Cold (StaticIs)
/-- the words of String.equals(Object) -/
abbrev wordsEq : List Jvm.Cond := [.code SEq.yN SEq.yB 3 (some .boolean), .initialized ST, .classLink ST 10 ST, .fieldLink ST 38 ST "COMPACT_STRINGS" "Z", .fieldLink ST 15 ST "coder" "B", .fieldLink ST 9 ST "value" "[B", .methodLink ST 541 LEq.yN, .static LEq.yN, .code LEq.yN LEq.yB 3 (some .boolean), .initialized "java/lang/StringLatin1"]
theorem tabEq_of {a : Array Value} {s : State} (h : ∀ w ∈ wordsEq, w.before a s = true) : SEq.tab.before a s = true := by
  have hl : LEq.tab.before a s = true := unparts (wk h (.code LEq.yN LEq.yB 3 (some .boolean))) (wks h (.initialized LEq.yN.cls :: LEq.site))
  have q := consq hl h
  exact unparts (wk q (.code SEq.yN SEq.yB 3 (some .boolean))) (wks q (.initialized SEq.yN.cls :: SEq.site))
theorem movedEq {Z s : State} {a0 args : Array Value} (hZ : Z.Warmed39 s.vm) (hw : ∀ d ∈ wordsEq, d.before a0 Z = true) : ∀ d ∈ wordsEq, d.before args s = true := fun d hd => by
  have t : ∀ d ∈ wordsEq, (d.onTables && d.keepsFace) = true := by decide +kernel
  exact RoadKit.mv hZ (hw d hd) (t d hd)
/-- the road's facts of a String, as the laws ask it -/
theorem txt_of {Z U : State} {a0 : Array Value} {kI : Nat} (wi : (Jvm.Cond.instantiable ST kI).before a0 Z = true) (al : Z.vm.Alike U.vm) {x t : Addr} {kb : ClassId} {cs : List Int32} {cd N2 : Int32} {vs : List Value} (E : RoadKit.Exa Z U.heap x ST) (V : RoadKit.Fld Z U.heap x ST "value" "[B" (.ref t)) (C : RoadKit.Fld Z U.heap x ST "coder" "B" (.int cd)) (K : RoadKit.Arv Z U.heap t kb .byte N2 vs (.int 0)) (hc : CodA cs cd N2 vs) (hb : ∀ c ∈ cs, ¬ c < 0 ∧ ¬ (65535 : Int32) < c) (l2 : cs.length ≤ 4000) :
    ∃ A, Txt x t A cd cs.length (fun j => cs.getD j 0) U := by
  obtain ⟨A, K1, K2, K3, K4, K5, K6⟩ := K
  have hcod := hc.cod (by omega) K3 K5
  obtain ⟨D, fV, fC, hB, F1, F2, g1, g2, -, -⟩ := strObj wi al E V C
  exact ⟨A, ⟨_, hB.2.2.1, D, hB.1, rfl, by cases q : D.vm <;> first | rfl | exact absurd q (hB.2.1.2 _)⟩, Has.of hB F1 g1, Has.of hB F2 g2, ⟨K1.1, State.isArrayOf_alike al K1.2.1, K1.2.2, by rcases hcod with ⟨-, q, -⟩ | ⟨-, q, -⟩ <;> omega⟩, hcod, fun j hj => by
    have e : cs.getD j 0 = cs[j] := by simp [List.getD_eq_getElem?_getD, hj]
    show ¬ cs.getD j 0 < 0 ∧ ¬ 65535 < cs.getD j 0
    rw [e]; exact hb _ (List.getElem_mem _)⟩
theorem same_list (cs ds : List Int32) : SameT cs.length (fun j => cs.getD j 0) ds.length (fun j => ds.getD j 0) ↔ cs = ds := by
  constructor
  · rintro ⟨e, q⟩
    refine List.ext_getElem e fun j h1 h2 => ?_
    have := q j h1
    simpa [List.getD_eq_getElem?_getD, h1, h2] using this
  · rintro rfl
    exact ⟨rfl, fun _ _ => rfl⟩
/-- **equals(Object) OF TWO SUCH STRINGS**: 1 just where the chars are the same -/
theorem eqW {p : Program} {l : Launch} {e : Env} {R : Room} {s : State} {args : Array Value} {below : List Frame} {len W : Nat} {Z : State} {a0 : Array Value} {h : Heap} (hZ : Z.Warmed39 s.vm) (hw : ∀ d ∈ wordsEq, d.before a0 Z = true) {kI : Nat} (wi : (Jvm.Cond.instantiable ST kI).before a0 Z = true)
    {x t : Addr} {kb : ClassId} {cs : List Int32} {cd N2 : Int32} {vs : List Value} (E : RoadKit.Exa Z h x ST) (V : RoadKit.Fld Z h x ST "value" "[B" (.ref t)) (C : RoadKit.Fld Z h x ST "coder" "B" (.int cd)) (K : RoadKit.Arv Z h t kb .byte N2 vs (.int 0)) (hc : CodA cs cd N2 vs) (hb : ∀ c ∈ cs, ¬ c < 0 ∧ ¬ (65535 : Int32) < c) (l2 : cs.length ≤ 4000)
    {y t' : Addr} {kb' : ClassId} {ds : List Int32} {cd' N2' : Int32} {vs' : List Value} (E' : RoadKit.Exa Z h y ST) (V' : RoadKit.Fld Z h y ST "value" "[B" (.ref t')) (C' : RoadKit.Fld Z h y ST "coder" "B" (.int cd')) (K' : RoadKit.Arv Z h t' kb' .byte N2' vs' (.int 0)) (hc' : CodA ds cd' N2' vs') (hb' : ∀ c ∈ ds, ¬ c < 0 ∧ ¬ (65535 : Int32) < c) (l2' : ds.length ≤ 4000)
    {z : Int32} (S : RoadKit.Sta Z h ST "COMPACT_STRINGS" "Z" (.int z)) (hz : ¬ z = 0) (hfr : 2 ≤ R.frames) (hlo : W + 28 ≤ R.locals) :
    Back l R p e below s args (⟨"java/lang/String", "equals", "(Ljava/lang/Object;)Z"⟩ : MethodName) len W (fun P a => a = #[.ref x, .ref y] ∧ P.U.heap = h ∧ P.cells + 0 ≤ R.cells ∧ P.slots + 0 ≤ R.slots)
      (fun P _ v B => ∃ L, (((v = some (.int 1) ∧ cs = ds) ∨ (v = some (.int 0) ∧ ¬ cs = ds)) ∧ L = [] ∧ B.U.heap = h) ∧ B.locs = P.locs ++ L ∧ B.cells = P.cells + 0 ∧ B.slots = P.slots + 0) := by
  intro m meth c P g ig mk a X hg hsize hdg hW hn hp'
  obtain ⟨rfl, rfl, r1, r2⟩ := hp'
  have al : Z.vm.Alike P.U.vm := hZ.alike.trans X.warmed.alike
  obtain ⟨A, hx⟩ := txt_of wi al E V C K hc hb l2
  obtain ⟨A', hy⟩ := txt_of wi al E' V' C' K' hc' hb' l2'
  obtain ⟨v, B, X', ⟨⟨w, hv, hh, hq⟩, hl, hk, hs⟩, st⟩ := SEq.pays x t A cd cs.length (fun j => cs.getD j 0) y t' A' cd' ds.length (fun j => ds.getD j 0) z (tabEq_of (movedEq hZ hw)) hfr hlo m meth c P g ig mk _ X hg hsize hdg hW hn ⟨r1, r2, rfl, hx, hy, sta_is al S, hz⟩
  refine ⟨v, B, X', ⟨[], ⟨?_, rfl, hh⟩, hl, hk, hs⟩, st⟩
  rcases hq with ⟨rfl, q⟩ | ⟨rfl, q⟩
  · exact Or.inl ⟨hv, (same_list cs ds).mp q⟩
  · exact Or.inr ⟨hv, fun e => q ((same_list cs ds).mpr e)⟩
end StrChars.Road
namespace StrChars
open Jvm Sem ClassFile Op Lib Jvm.Stand Jvm.Free.XT Jvm.Free.ALB Jvm.Free.JM Jvm.Free
open Jvm.Lib.Cold (StaticIs)
namespace ChN
def yN : MethodName := ⟨"java/lang/String", "charAt", "(I)C"⟩
abbrev yB : ByteArray := jdk_42_method_56_code
theorem d0 : decode yB 0 = .ok (.aload_n 0, 1) := by decide +kernel
theorem d1 : decode yB 1 = .ok (.invokevirtual 492, 3) := by decide +kernel
theorem d4 : decode yB 4 = .ok (.ifCond (.eq) 12, 3) := by decide +kernel
theorem d7 : decode yB 7 = .ok (.aload_n 0, 1) := by decide +kernel
theorem d8 : decode yB 8 = .ok (.getfield 9, 3) := by decide +kernel
theorem d11 : decode yB 11 = .ok (.iload_n 1, 1) := by decide +kernel
theorem d12 : decode yB 12 = .ok (.invokestatic 495, 3) := by decide +kernel
theorem d15 : decode yB 15 = .ok (.ireturn, 1) := by decide +kernel
def site : List Cond := [.fieldLink "java/lang/String" 9 "java/lang/String" "value" "[B", IsL.tab, LChA.tab] ++ virtW "java/lang/String" 492 "java/lang/String" IsL.yN IsL.yN ++ staticW "java/lang/String" 495 LChA.yN
def tab : Cond := tabOf yN yB 2 (some .char) site
def P (x t : Addr) (V : Cell) (n : Nat) (f : Nat → Int32) (z : Int32) (fm : Value) (i : Nat) (args : Array Value) (s : State) : Prop := args = #[.ref x, .int (Int32.ofNat i)] ∧ Txt x t V 0 n f s ∧ i < n ∧ StaticIs s "java/lang/String" "COMPACT_STRINGS" "Z" (.int z) ∧ ¬ z = 0 ∧ StaticIs s "jdk/internal/util/Preconditions" "SIOOBE_FORMATTER" "Ljava/util/function/BiFunction;" fm ∧ fm.isRef = true
def E (f : Nat → Int32) (i : Nat) (r : Option Value) (s u : State) : Prop := XT.PureE (some (.int (f i))) r s u
/-- charAt(i) of a Latin-1 String of n chars, i < n: f i -/
theorem law (l : Launch) (x t : Addr) (V : Cell) (n : Nat) (f : Nat → Int32) (z : Int32) (fm : Value) (i : Nat) : Law l yN 2 1 3 40 yB 2 (some .char) site (P x t V n f z fm i) (E f i) [] 0 0 := by
  refine Law.of_walk (plainFor_of_name (by decide +kernel)) (by decide +kernel) (by decide +kernel) (by decide) (fun _ _ h => by rw [h.1]; rfl) (fun _ U U' hal hh h => ⟨h.1, h.2.1.mv hal hh, h.2.2.1, h.2.2.2.1.there hal hh, h.2.2.2.2.1, h.2.2.2.2.2.1.there hal hh, h.2.2.2.2.2.2⟩) (fun r U U' V V' h1 hal h2 h => XT.PureE.mv r U U' V V' h1 hal h2 h) ?_
  intro p e s m args below meth c s₁ X0 hexec hbytes hml hret hlk hnm hown hh0 W hP
  obtain ⟨rfl, hx, hi, s1, hz, s3, rf⟩ := hP
  have v31 := hx.2.2.2.1.2.2.2
  have hr := hx.2.2.2.2.2 i hi
  have hx0 := hx.mv X0.warmed.alike hh0
  have c1 : Steps p.tables e below (s₁.setTop (entryFrame m #[.ref x, .int (Int32.ofNat i)] 2)) (s₁.setTop (mkF m 1 #[.val (.ref x), .val (.int (Int32.ofNat i))] [.ref x])) := Steps.trans (entry rfl) (by
    show Steps p.tables e below (s₁.setTop (mkF m 0 #[.val (.ref x), .val (.int (Int32.ofNat i))] [])) _
    refine XS.aloadN X0.here hexec rfl (hb hbytes d0) rfl rfl ?_
    exact Steps.refl _)
  obtain ⟨v2, T2, X2, E2, g2⟩ := X0.callV hexec (IsL.law l x 0 z) hown (wks W (virtW "java/lang/String" 492 "java/lang/String" IsL.yN IsL.yN)) rfl (by decide) (wk W IsL.tab) (W := 0) (Nat.le_of_ble_eq_true rfl) (Nat.le_of_ble_eq_true rfl) (Nat.le_refl _) (Nat.le_refl _) (hx0.1.fc X0.warmed.alike) hx0.1.is (g := (mkF m 1 #[.val (.ref x), .val (.int (Int32.ofNat i))] [.ref x])) rfl (by rw [hml]; rfl) c1 (argsL := []) (rest := []) rfl rfl (by show 2 * 0 + 0 ≤ _; decide) (hb hbytes d1) (⟨rfl, hx0.2.2.1, hx.2.2.2.2.1.cd, s1.there X0.warmed.alike hh0, hz⟩)
  obtain ⟨rfl, q2⟩ := E2
  have hh2 := q2.trans hh0
  have hx2 := hx.mv X2.warmed.alike hh2
  obtain ⟨-, k1, k2⟩ | ⟨k0, -⟩ := hx.2.2.2.2.1
  · have c3 : Steps p.tables e below (s₁.setTop (entryFrame m #[.ref x, .int (Int32.ofNat i)] 2)) (T2.setTop (mkF m 8 #[.val (.ref x), .val (.int (Int32.ofNat i))] [.ref x])) := Steps.trans g2 (by
      refine XS.ifNo X2.here hexec rfl (hb hbytes d4) rfl (i0_eq_f (by decide)) ?_
      refine XS.aloadN X2.here hexec rfl (hb hbytes d7) rfl rfl ?_
      exact Steps.refl _)
    obtain ⟨T4, X4, q4, st4⟩ := X2.hget hexec hown (wk W (.fieldLink "java/lang/String" 9 "java/lang/String" "value" "[B")) hx2.2.1 (g := (mkF m 8 #[.val (.ref x), .val (.int (Int32.ofNat i))] [.ref x])) rfl (rest := []) rfl (hb hbytes d8)
    have hh4 := q4.trans hh2
    have c5 : Steps p.tables e below (s₁.setTop (entryFrame m #[.ref x, .int (Int32.ofNat i)] 2)) (T4.setTop (mkF m 12 #[.val (.ref x), .val (.int (Int32.ofNat i))] [.int (Int32.ofNat i), .ref t])) := (c3.trans (st4 _ (Steps.refl _))).trans (by
      refine XS.iloadN X4.here hexec rfl (hb hbytes d11) rfl ?_
      exact Steps.refl _)
    obtain ⟨v6, T6, X6, E6, g6⟩ := X4.callS hexec (LChA.law l t V i (lo8 (f i)) fm) hown (wks W (staticW "java/lang/String" 495 LChA.yN)) (wk W LChA.tab) (W := 0) (Nat.le_of_ble_eq_true rfl) (Nat.le_of_ble_eq_true rfl) (Nat.le_refl _) (Nat.le_refl _) (g := (mkF m 12 #[.val (.ref x), .val (.int (Int32.ofNat i))] [.int (Int32.ofNat i), .ref t])) rfl (by rw [hml]; rfl) c5 (argsL := [.ref t, .int (Int32.ofNat i)]) (rest := []) rfl rfl (by show 2 * 0 + 0 ≤ _; decide) (hb hbytes d12) (⟨rfl, hx.2.2.2.1.mv X4.warmed.alike hh4, (k2 i hi).1, s3.there X4.warmed.alike hh4, rf⟩)
    obtain ⟨rfl, q6⟩ := E6
    rw [chr8_lo8 hr.1 (k2 i hi).2] at g6
    exact ⟨T6, some (.int (f i)), _, _, _, X6, rfl, rfl, rfl, (fun h => by cases h), ⟨rfl, q6.trans hh4⟩, fun fs hl => Steps.trans g6 (X6.ireturnOut hexec hret (narrow_ch hr.1 hr.2) (Or.inr (Or.inr (Or.inr (Or.inl rfl)))) (hb hbytes d15) hl)⟩
  · exact absurd k0 (by decide)
theorem pays {l : Launch} {R : Room} {p : Program} {e : Env} {below : List Frame} {s : State} {sargs : Array Value} {len W : Nat} (x t : Addr) (V : Cell) (n : Nat) (f : Nat → Int32) (z : Int32) (fm : Value) (i : Nat) (htab : tab.before sargs s = true) (hfr : 4 ≤ R.frames) (hlo : W + 53 ≤ R.locals) :
    Back l R p e below s sargs yN len W (fun A₁ a₁ => A₁.cells + 0 ≤ R.cells ∧ A₁.slots + 0 ≤ R.slots ∧ P x t V n f z fm i a₁ A₁.U) (fun A₁ _ v₁ B₁ => E f i v₁ A₁.U B₁.U ∧ B₁.locs = A₁.locs ++ [] ∧ B₁.cells = A₁.cells + 0 ∧ B₁.slots = A₁.slots + 0) :=
  (law l x t V n f z fm i).pays htab hfr (by omega)
end ChN
end StrChars
namespace StrChars.Road
open Jvm Sem ClassFile Op Lib Jvm.Stand Jvm.Free Jvm.Free.XT
open Jvm.Lib.Cold (StaticIs)
/-- the words of String.charAt(int), the Latin-1 road alone -/
abbrev wordsChN : List Jvm.Cond := [.code ChN.yN ChN.yB 2 (some .char), .initialized ST, .fieldLink ST 9 ST "value" "[B", .fieldLink ST 38 ST "COMPACT_STRINGS" "Z", .fieldLink ST 15 ST "coder" "B", .code IsL.yN IsL.yB 1 (some .boolean), .methodLink ST 492 IsL.yN, .declares IsL.yN, .selects ST IsL.yN IsL.yN, .instanceMethod IsL.yN,
  .methodLink ST 495 LChA.yN, .static LChA.yN, .code LChA.yN LChA.yB 2 (some .char), .initialized "java/lang/StringLatin1", .methodLink "java/lang/StringLatin1" 9 JO.Str_checkIndex.yN, .static JO.Str_checkIndex.yN, .code JO.Str_checkIndex.yN JO.Str_checkIndex.yB 2 none,
  .fieldLink ST 1053 "jdk/internal/util/Preconditions" "SIOOBE_FORMATTER" "Ljava/util/function/BiFunction;", .methodLink ST 1059 JC.PreCheck.yN, .static JC.PreCheck.yN, .code JC.PreCheck.yN JC.PreCheck.yB 3 (some .int), .initialized "jdk/internal/util/Preconditions"]
theorem tabChN_of {a : Array Value} {s : State} (h : ∀ w ∈ wordsChN, w.before a s = true) : ChN.tab.before a s = true := by
  have hp : JC.PreCheck.tab.before a s = true := unparts (wk h (.code JC.PreCheck.yN JC.PreCheck.yB 3 (some .int))) (wks h (.initialized JC.PreCheck.yN.cls :: JC.PreCheck.site))
  have qk := consq hp h
  have hk : JO.Str_checkIndex.tab.before a s = true := unparts (wk qk (.code JO.Str_checkIndex.yN JO.Str_checkIndex.yB 2 none)) (wks qk (.initialized JO.Str_checkIndex.yN.cls :: JO.Str_checkIndex.site))
  have ql := consq hk h
  have hl : LChA.tab.before a s = true := unparts (wk ql (.code LChA.yN LChA.yB 2 (some .char))) (wks ql (.initialized LChA.yN.cls :: LChA.site))
  have hi : IsL.tab.before a s = true := unparts (wk h (.code IsL.yN IsL.yB 1 (some .boolean))) (wks h (.initialized IsL.yN.cls :: IsL.site))
  have q := consq hi (consq hl h)
  exact unparts (wk q (.code ChN.yN ChN.yB 2 (some .char))) (wks q (.initialized ChN.yN.cls :: ChN.site))
theorem movedChN {Z s : State} {a0 args : Array Value} (hZ : Z.Warmed39 s.vm) (hw : ∀ d ∈ wordsChN, d.before a0 Z = true) : ∀ d ∈ wordsChN, d.before args s = true := fun d hd => by
  have t : ∀ d ∈ wordsChN, (d.onTables && d.keepsFace) = true := by decide +kernel
  exact RoadKit.mv hZ (hw d hd) (t d hd)
/-- **charAt(i) OF A LATIN-1 STRING**, i < n: the char -/
theorem chN {p : Program} {l : Launch} {e : Env} {R : Room} {s : State} {args : Array Value} {below : List Frame} {len W : Nat} {Z : State} {a0 : Array Value} {h : Heap} (hZ : Z.Warmed39 s.vm) (hw : ∀ d ∈ wordsChN, d.before a0 Z = true) {kI : Nat} (wi : (Jvm.Cond.instantiable ST kI).before a0 Z = true)
    {x t : Addr} {kb : ClassId} {cs : List Int32} {N2 z : Int32} {vs : List Value} {fm : Value} {i : Nat} {j : Int32} (E : RoadKit.Exa Z h x ST) (V : RoadKit.Fld Z h x ST "value" "[B" (.ref t)) (C : RoadKit.Fld Z h x ST "coder" "B" (.int 0)) (K : RoadKit.Arv Z h t kb .byte N2 vs (.int 0)) (hc : CodA cs 0 N2 vs) (hb : ∀ c ∈ cs, ¬ c < 0 ∧ ¬ (65535 : Int32) < c)
    (S : RoadKit.Sta Z h ST "COMPACT_STRINGS" "Z" (.int z)) (hz : ¬ z = 0) (F : RoadKit.Sta Z h "jdk/internal/util/Preconditions" "SIOOBE_FORMATTER" "Ljava/util/function/BiFunction;" fm) (rf : fm.isRef = true) (l2 : cs.length ≤ 4000) (hi : i < cs.length) (hj : j = Int32.ofNat i) (hfr : 4 ≤ R.frames) (hlo : W + 53 ≤ R.locals) :
    Back l R p e below s args (⟨"java/lang/String", "charAt", "(I)C"⟩ : MethodName) len W (fun P a => a = #[.ref x, .int j] ∧ P.U.heap = h ∧ P.cells + 0 ≤ R.cells ∧ P.slots + 0 ≤ R.slots)
      (fun P _ v B => ∃ L, (v = some (.int (cs.getD i 0)) ∧ L = [] ∧ B.U.heap = h) ∧ B.locs = P.locs ++ L ∧ B.cells = P.cells + 0 ∧ B.slots = P.slots + 0) := by
  subst hj
  intro m meth c P g ig mk a X hg hsize hdg hW hn hp'
  obtain ⟨rfl, rfl, r1, r2⟩ := hp'
  have al : Z.vm.Alike P.U.vm := hZ.alike.trans X.warmed.alike
  obtain ⟨A, hx⟩ := txt_of wi al E V C K hc hb l2
  obtain ⟨v, B, X', ⟨⟨hv, hh⟩, hl, hk, hs⟩, st⟩ := ChN.pays x t A cs.length (fun j => cs.getD j 0) z fm i (tabChN_of (movedChN hZ hw)) hfr hlo m meth c P g ig mk _ X hg hsize hdg hW hn ⟨r1, r2, rfl, hx, hi, sta_is al S, hz, sta_is al F, rf⟩
  exact ⟨v, B, X', ⟨[], ⟨hv, rfl, hh⟩, hl, hk, hs⟩, st⟩
/-- what backV says of its String, as the contracts of this text ask it: cs's low bytes, coder 0 -/
theorem codOf {cs : List Int32} {n : Nat} (hn : cs.length = n) (hb : ∀ c ∈ cs, ¬ 255 < c) : CodA cs 0 (Int32.ofNat n) ((cs.map lo8).map Value.int) := Or.inl ⟨rfl, by rw [hn], by simp [List.map_map, Function.comp_def], hb⟩
end StrChars.Road
end Jvm.Pilot.@@N@@

namespace Jvm.Pilot.@@N@@
open Jvm Jvm.ClassFile Sem Op Lib Jvm.Free Jvm.Stand Jvm.LawKit Jvm.RoadKit Bundle Jvm.Pilot.@@N@@.Jvm.D
section Own
variable {t u : Term} {C n d : String} {a b : Addr} {z j : Int32} {args : Array Value} {s : State} {cl : Cell} {ty : FieldType}
theorem own_cmp_int (h : (Jvm.Cond.eq t (Term.int z)).value args s none s [] = some true) : t.eval args s none [] s = some (.int z) := by
  have e2 : (Term.int z).eval args s none [] s = some (.int z) := Term.int_eval z
  obtain ⟨u, w, f1, f2, k1, k2⟩ := cmp_v (Or.inl h)
  cases f2.symm.trans e2
  obtain ⟨q, rfl⟩ : ∃ q, u = .int q := k2
  have : (Jvm.Cond.eq t (Term.int z)).value args s none s [] = some (decide (q = z)) := by simp [Cond.value, f1, e2]
  rw [f1, gotT this h]
theorem own_fld (ht : t.eval args s none [] s = some (.ref a)) (h : (Jvm.Cond.eq (Term.field t C n d) (Term.int z)).value args s none s [] = some true) : Fld s s.heap a C n d (.int z) :=
  Fld.start ((fld_at ht).symm.trans (own_cmp_int h))
theorem own_fldR (ht : t.eval args s none [] s = some (.ref a)) (h : (Term.field t C n d).eval args s none [] s = some (.ref b)) : Fld s s.heap a C n d (.ref b) :=
  Fld.start ((fld_at ht).symm.trans h)
theorem own_len (ht : t.eval args s none [] s = some (.ref a)) (A : Arr s s.heap a cl ty) (h : (Jvm.Cond.eq (Term.length t) (Term.int z)).value args s none s [] = some true) : cl.slots.size < 2 ^ 31 ∧ cl.slots.size.toInt32 = z := by
  have e := own_cmp_int h
  have ha : s.arrayAt? a = some cl := A.fin (Vm.Alike.refl _)
  simp only [Term.eval, ht, ha, Option.bind_eq_bind, Option.bind_some] at e
  split at e
  · rename_i q
    cases e
    exact ⟨q, rfl⟩
  · cases e
theorem own_el (ht : t.eval args s none [] s = some (.ref a)) (A : Arr s s.heap a cl ty) (h : (Jvm.Cond.eq (Term.elem t (Term.int j)) (Term.int z)).value args s none s [] = some true) : cl.slots[j.toNatClampNeg]? = some (.int z) :=
  (elem_in (own_cmp_int h) ht (Term.int_eval j) A.1).2
theorem own_elR (hu : u.eval args s none [] s = some (.ref b)) (ht : t.eval args s none [] s = some (.ref a)) (A : Arr s s.heap a cl ty) (h : (Jvm.Cond.eq (Term.elem t (Term.int j)) u).value args s none s [] = some true) : cl.slots[j.toNatClampNeg]? = some (.ref b) := by
  obtain ⟨x, w, f1, f2, k1, k2⟩ := cmp_v (Or.inl h)
  cases f2.symm.trans hu
  have hx : x.isRef = true := k2.2
  have q := gotT (eq_R f1 hu hx rfl) h
  subst q
  exact (elem_in f1 ht (Term.int_eval j) A.1).2
end Own
theorem own_b8 (c : Int32) : c.toInt8.toInt32.toInt8.toInt32 = c.toInt8.toInt32 := by simp
theorem own_mask {P : Int32 → Prop} (M : Nat) (m : Int32) (hm : m.toBitVec.toNat < M) (h : ∀ k : Fin M, P (Int32.ofNat k.val)) (x : Int32) : P (x &&& m) := by
  have h1 : (x &&& m).toBitVec.toNat < M := by
    simp only [Int32.toBitVec_and, BitVec.toNat_and]
    exact Nat.lt_of_le_of_lt Nat.and_le_right hm
  have e : (x &&& m) = Int32.ofNat (x &&& m).toBitVec.toNat := by
    apply Int32.toBitVec_inj.mp
    show _ = BitVec.ofNat 32 _
    rw [BitVec.ofNat_toNat]; simp
  rw [e]
  exact h ⟨_, h1⟩
def own_B (c : Int32) : Prop := ¬ c < 0 ∧ ¬ (255 : Int32) < c
theorem own_fin256 {P : Int32 → Prop} (h : ∀ k : Fin 256, P (Int32.ofNat k.val)) {c : Int32} (b : own_B c) : P c := by
  have h1 : 0 ≤ c.toInt := by have := b.1; rw [Int32.lt_iff_toInt_lt] at this; have e : (0 : Int32).toInt = 0 := rfl; omega
  have h2 : c.toInt ≤ 255 := by have := b.2; rw [Int32.lt_iff_toInt_lt] at this; have e : (255 : Int32).toInt = 255 := rfl; omega
  have e : Int32.ofNat c.toInt.toNat = c := by
    have : Int32.ofInt ((c.toInt.toNat : Nat) : Int) = c := by rw [Int.toNat_of_nonneg h1]; exact Int32.ofInt_toInt c
    exact this
  have := h ⟨c.toInt.toNat, by omega⟩
  rw [e] at this
  exact this
theorem own_nc {c : Int32} (b : own_B c) : nar .char c = c := own_fin256 (P := fun c => nar .char c = c) (by decide +kernel) b
theorem own_fc {c : Int32} (b : own_B c) : fits .char (.int c) = true := own_nc b ▸ fits_nar_char c
theorem own_up (cs : List Int32) (h : ∀ c ∈ cs, own_B c) : ∀ c ∈ cs, ¬ c < 0 ∧ ¬ (65535 : Int32) < c := fun c hc => ⟨(h c hc).1, fun q => (h c hc).2 (by rw [Int32.lt_iff_toInt_lt] at q ⊢; have e1 : (65535 : Int32).toInt = 65535 := rfl; have e2 : (255 : Int32).toInt = 255 := rfl; omega)⟩

theorem own_wS {Z : State} {a0 : Array Value} (hw : ∀ d ∈ tables_1, d.before a0 Z = true) : ∀ a ∈ Bundle.stringAtoms, a.before a0 Z = true := by
  intro a ha
  simp only [Bundle.stringAtoms, List.mem_cons, List.not_mem_nil, or_false] at ha
  rcases ha with rfl | rfl | rfl | rfl | rfl | rfl | rfl
  all_goals first | exact hw _ (List.mem_of_getElem? (i := 7) rfl) | exact hw _ (List.mem_of_getElem? (i := 6) rfl) | exact hw _ (List.mem_of_getElem? (i := 27) rfl) | exact hw _ (List.mem_of_getElem? (i := 37) rfl) | exact hw _ (List.mem_of_getElem? (i := 35) rfl) | exact hw _ (List.mem_of_getElem? (i := 43) rfl) | exact hw _ (List.mem_of_getElem? (i := 44) rfl)
theorem w_42 {Z : State} {a0 : Array Value} (hw : ∀ d ∈ tables_1, d.before a0 Z = true) : (Jvm.Cond.stringLink "com/example/grantfold/grantfold/model/Configuration" (40 : Nat) "/").before a0 Z = true := hw _ (List.mem_of_getElem? (i := 42) rfl)
theorem own_EW {Z : State} {a0 : Array Value} (hw : ∀ d ∈ tables_1, d.before a0 Z = true) : EW Z a0 consts_1 := (EW.cons (w_42 hw) (by decide) EW.nil)
theorem own_held {tb : Tables} {e : Env} {args : Array Value} {s : State} (h : call_1_1 tb e args s) : ∀ p ∈ consts_1, Jvm.Lit.constHeld s p.1 p.2 := h
theorem own_compact {zv : Int32} {args : Array Value} {s : State} (ez : (Term.static "java/lang/String" "COMPACT_STRINGS" "Z").eval args s none [] s = some (.int zv)) (hz : ¬ zv = (0 : Int32)) : Jvm.Lit.compactW.before args s = true := by
  simp only [Jvm.Lit.compactW, Cond.before, Cond.holds, Cond.value, ez]
  simp [Term.eval, hz]
theorem own_wnew {Z : State} {a0 : Array Value} (hw : ∀ d ∈ tables_1, d.before a0 Z = true) : ∀ d ∈ StrChars.Road.words, d.before a0 Z = true := fun d hd => hw d ((by decide +kernel : ∀ d ∈ StrChars.Road.words, d ∈ tables_1) d hd)
theorem own_wlen {Z : State} {a0 : Array Value} (hw : ∀ d ∈ tables_1, d.before a0 Z = true) : ∀ d ∈ StrChars.Road.wordsLen, d.before a0 Z = true := fun d hd => hw d ((by decide +kernel : ∀ d ∈ StrChars.Road.wordsLen, d ∈ tables_1) d hd)
theorem own_wch {Z : State} {a0 : Array Value} (hw : ∀ d ∈ tables_1, d.before a0 Z = true) : ∀ d ∈ StrChars.Road.wordsChN, d.before a0 Z = true := fun d hd => hw d ((by decide +kernel : ∀ d ∈ StrChars.Road.wordsChN, d ∈ tables_1) d hd)
theorem own_weq {Z : State} {a0 : Array Value} (hw : ∀ d ∈ tables_1, d.before a0 Z = true) : ∀ d ∈ StrChars.Road.wordsEq, d.before a0 Z = true := fun d hd => hw d ((by decide +kernel : ∀ d ∈ StrChars.Road.wordsEq, d ∈ tables_1) d hd)
def own_ch (x : Int32) : Int32 := if x &&& 256 = 0 then nar .char ((x &&& (255 : Int32)).toUInt32.toUInt16.toUInt32.toInt32) else 47
theorem own_chB (x : Int32) : own_B (own_ch x) := by
  unfold own_ch
  split
  · exact own_mask (P := fun y => own_B (nar .char (y.toUInt32.toUInt16.toUInt32.toInt32))) 256 255 (by decide) (by unfold own_B; decide +kernel) x
  · constructor <;> decide
theorem own_b47 {c : Int32} (b : own_B c) : c.toInt8.toInt32 = 47 ↔ c = 47 := own_fin256 (P := fun c => c.toInt8.toInt32 = 47 ↔ c = 47) (by decide +kernel) b
def Q_ch (Z : State) (iv : Int32) (h0 : Heap) (n0 : Nat) (v : Option Value) (h : Heap) (L : List Loc) : Prop := v = some (.int (own_ch iv)) ∧ Fr n0 L ∧ h = h0
theorem ef_ch (m : MethodId) (iv : Int32) : entryFrame m #[(.int iv)] 1 = mkF m 0 #[.val (.int iv)] [] := by first | (simp [entryFrame, mkF, argsToLocals, Value.category]; done) | rfl
theorem pn_0 : plainName "com/example/grantfold/grantfold/model/ConfigurationParentPinLaw" = true := by first | (simp [plainName, overriddenIn]; done) | decide +kernel
theorem d_2_0 : decode method_2_code 0 = .ok (.iload_n 0, 1) := by decide +kernel
theorem d_2_1 : decode method_2_code 1 = .ok (.sipush 256, 3) := by decide +kernel
theorem d_2_4 : decode method_2_code 4 = .ok (.iand, 1) := by decide +kernel
theorem d_2_5 : decode method_2_code 5 = .ok (.ifCond .eq 8, 3) := by decide +kernel
theorem d_2_13 : decode method_2_code 13 = .ok (.iload_n 0, 1) := by decide +kernel
theorem d_2_14 : decode method_2_code 14 = .ok (.sipush 255, 3) := by decide +kernel
theorem d_2_17 : decode method_2_code 17 = .ok (.iand, 1) := by decide +kernel
theorem d_2_18 : decode method_2_code 18 = .ok (.i2c, 1) := by decide +kernel
theorem d_2_19 : decode method_2_code 19 = .ok (.ireturn, 1) := by decide +kernel
theorem d_2_8 : decode method_2_code 8 = .ok (.bipush 47, 2) := by decide +kernel
theorem d_2_10 : decode method_2_code 10 = .ok (.goto 9, 3) := by decide +kernel
set_option maxRecDepth 65536 in
set_option maxHeartbeats 40000000 in
theorem rm_ch (l : Launch) (Z : State) (a0 : Array Value) (hw : ∀ d ∈ tables_1, d.before a0 Z = true) (ws : List Jvm.Cond) (iv : Int32) (h0 : Heap) (n0 : Nat) (Z0 : n0 ≤ h0.size) :
    own_Met l Z (⟨"com/example/grantfold/grantfold/model/ConfigurationParentPinLaw", "ch", "(I)C"⟩ : MethodName) method_2_code 1 (some .char) ws ({ frames := 0, cells := 0, slots := 0, locals := 0 } : Room) #[(.int iv)] h0 (Q_ch Z iv h0 n0) := by
  refine own_enter (own := "com/example/grantfold/grantfold/model/ConfigurationParentPinLaw") (plainFor_of_name pn_0) rfl ?_
  intro p e s m below meth c s₁ hlk hret hx hby hml hown hnm hZ X0 e0
  have N0 := Fr.nil n0
  refine own_cast (ef_ch m iv) ?_
  show own_Go _ _ _ _ (s₁.setTop (mkF m 0 #[.val (.int iv)] []))
  refine own_go (fun t k => XS.iloadN X0.here hx rfl (hb hby d_2_0) rfl k) ?_
  refine own_go (fun t k => XS.sipush X0.here hx rfl (hb hby d_2_1) k) ?_
  refine own_go (fun t k => XS.iand X0.here hx rfl (hb hby d_2_4) rfl k) ?_
  by_cases hc101 : (iv &&& (256 : Int32)) = (0 : Int32)
  · show own_Go _ _ _ _ (s₁.setTop (mkF m 5 #[.val (.int iv)] [(.int (iv &&& (256 : Int32)))]))
    refine own_go (fun t k => XS.ifYes X0.here hx rfl (pc0 := 5) (pc' := 13) rfl (hb hby d_2_5) rfl ((if0 _ _).trans (teq hc101).1) (by decide) (by decide) k) ?_
    refine own_go (fun t k => XS.iloadN X0.here hx rfl (hb hby d_2_13) rfl k) ?_
    refine own_go (fun t k => XS.sipush X0.here hx rfl (hb hby d_2_14) k) ?_
    refine own_go (fun t k => XS.iand X0.here hx rfl (hb hby d_2_17) rfl k) ?_
    refine own_go (fun t k => XS.i2c X0.here hx rfl (hb hby d_2_18) rfl k) ?_
    show own_Go _ _ _ _ (s₁.setTop (mkF m 19 #[.val (.int iv)] [(.int ((iv &&& (255 : Int32)).toUInt32.toUInt16.toUInt32.toInt32))]))
    refine own_retN X0 hx hlk (t := .char) hret (by simp) (hb hby d_2_19) ?_ (by decide) (by decide)
    rw [e0]
    exact ⟨by rw [own_ch, if_pos hc101], N0, rfl⟩
  · show own_Go _ _ _ _ (s₁.setTop (mkF m 5 #[.val (.int iv)] [(.int (iv &&& (256 : Int32)))]))
    refine own_go (fun t k => XS.ifNo X0.here hx rfl (hb hby d_2_5) rfl ((if0 _ _).trans (feq hc101).1) k) ?_
    refine own_go (fun t k => XS.bipush X0.here hx rfl (hb hby d_2_8) k) ?_
    refine own_go (fun t k => XS.goto X0.here hx rfl (pc0 := 10) (pc' := 19) rfl (hb hby d_2_10) (by decide) (by decide) k) ?_
    show own_Go _ _ _ _ (s₁.setTop (mkF m 19 #[.val (.int iv)] [(.int (47 : Int32))]))
    refine own_retN X0 hx hlk (t := .char) hret (by simp) (hb hby d_2_19) ?_ (by decide) (by decide)
    rw [e0]
    exact ⟨by rw [own_ch, if_neg hc101]; rfl, N0, rfl⟩
def Q_chs_1 (Z : State) (c1_ : Int32) (c2_ : Int32) (c3_ : Int32) (c4_ : Int32) (h0 : Heap) (n0 : Nat) (v : Option Value) (h : Heap) (L : List Loc) : Prop := ∃ (uc : Addr) (kc : ClassId), v = some (.ref uc) ∧ Fr n0 L ∧ Keep h0 h [] ∧ h0.size ≤ uc ∧ n0 ≤ uc ∧ Arv Z h uc kc .char (1 : Int32) [(.int (47 : Int32))] (.int (0 : Int32))
theorem ef_chs_1 (m : MethodId) (c1_ : Int32) (c2_ : Int32) (c3_ : Int32) (c4_ : Int32) : entryFrame m #[(.int (1 : Int32)), (.int c1_), (.int c2_), (.int c3_), (.int c4_)] 5 = mkF m 0 #[.val (.int (1 : Int32)), .val (.int c1_), .val (.int c2_), .val (.int c3_), .val (.int c4_)] [] := by first | (simp [entryFrame, mkF, argsToLocals, Value.category]; done) | rfl
theorem d_3_0 : decode method_3_code 0 = .ok (.iload_n 0, 1) := by decide +kernel
theorem d_3_1 : decode method_3_code 1 = .ok (.iconst 1, 1) := by decide +kernel
theorem d_3_2 : decode method_3_code 2 = .ok (.if_icmp .ne 12, 3) := by decide +kernel
theorem d_3_5 : decode method_3_code 5 = .ok (.iconst 1, 1) := by decide +kernel
theorem w_11 {Z : State} {a0 : Array Value} (hw : ∀ d ∈ tables_1, d.before a0 Z = true) : (Jvm.Cond.arrayClass Jvm.ClassFile.FieldType.char).before a0 Z = true := hw _ (List.mem_of_getElem? (i := 11) rfl)
theorem d_3_6 : decode method_3_code 6 = .ok (.newarray .char, 2) := by decide +kernel
theorem d_3_8 : decode method_3_code 8 = .ok (.dup, 1) := by decide +kernel
theorem d_3_9 : decode method_3_code 9 = .ok (.iconst 0, 1) := by decide +kernel
theorem d_3_10 : decode method_3_code 10 = .ok (.bipush 47, 2) := by decide +kernel
theorem d_3_12 : decode method_3_code 12 = .ok (.castore, 1) := by decide +kernel
theorem d_3_13 : decode method_3_code 13 = .ok (.areturn, 1) := by decide +kernel
set_option maxRecDepth 65536 in
set_option maxHeartbeats 40000000 in
theorem rm_chs_1 (l : Launch) (Z : State) (a0 : Array Value) (hw : ∀ d ∈ tables_1, d.before a0 Z = true) (ws : List Jvm.Cond) (c1_ c2_ c3_ c4_ : Int32) (h0 : Heap) (n0 : Nat) (Z0 : n0 ≤ h0.size) (B1 : own_B c1_) (B2 : own_B c2_) (B3 : own_B c3_) (B4 : own_B c4_) :
    own_Met l Z (⟨"com/example/grantfold/grantfold/model/ConfigurationParentPinLaw", "chars", "(ICCCC)[C"⟩ : MethodName) method_3_code 5 (some (.array .char)) ws ({ frames := 0, cells := 1, slots := 1, locals := 0 } : Room) #[(.int (1 : Int32)), (.int c1_), (.int c2_), (.int c3_), (.int c4_)] h0 (Q_chs_1 Z c1_ c2_ c3_ c4_ h0 n0) := by
  refine own_enter (own := "com/example/grantfold/grantfold/model/ConfigurationParentPinLaw") (plainFor_of_name pn_0) rfl ?_
  intro p e s m below meth c s₁ hlk hret hx hby hml hown hnm hZ X0 e0
  have N0 := Fr.nil n0
  refine own_cast (ef_chs_1 m c1_ c2_ c3_ c4_) ?_
  show own_Go _ _ _ _ (s₁.setTop (mkF m 0 #[.val (.int (1 : Int32)), .val (.int c1_), .val (.int c2_), .val (.int c3_), .val (.int c4_)] []))
  refine own_go (fun t k => XS.iloadN X0.here hx rfl (hb hby d_3_0) rfl k) ?_
  refine own_go (fun t k => XS.iconst X0.here hx rfl (hb hby d_3_1) k) ?_
  show own_Go _ _ _ _ (s₁.setTop (mkF m 2 #[.val (.int (1 : Int32)), .val (.int c1_), .val (.int c2_), .val (.int c3_), .val (.int c4_)] [(.int (1 : Int32)), (.int (1 : Int32))]))
  refine own_go (fun t k => XS.icmpNo X0.here hx rfl (hb hby d_3_2) rfl (teq (by decide : (1 : Int32) = (1 : Int32))).2 k) ?_
  refine own_go (fun t k => XS.iconst X0.here hx rfl (hb hby d_3_5) k) ?_
  show own_Go _ _ _ _ (s₁.setTop (mkF m 6 #[.val (.int (1 : Int32)), .val (.int c1_), .val (.int c2_), .val (.int c3_), .val (.int c4_)] [(.int (1 : Int32))]))
  obtain ⟨T102, h102, k102, X102, e102, E102, A102, st102⟩ := newP (aty := .char) X0 hx hZ (w_11 hw) e0 (n := (1 : Int32)) (rest := []) (g := (mkF m 6 #[.val (.int (1 : Int32)), .val (.int c1_), .val (.int c2_), .val (.int c3_), .val (.int c4_)] [(.int (1 : Int32))])) rfl (hb hby d_3_6) rfl (by decide) (cap := 1) (by decide) (by decide) (by decide) (by decide)
  obtain ⟨b102, g102⟩ : ∃ z, z = h0.size := ⟨_, rfl⟩
  rw [← g102] at A102 st102
  refine own_go st102 ?_
  have Z102 : n0 ≤ h102.size := (Nat.le_trans Z0 E102.1)
  have K102 : Keep h0 h102 [] := (Keep.refl h0 []).ext E102
  have lo102 : h0.size ≤ b102 := Nat.le_of_eq g102.symm
  have q102 : n0 ≤ b102 := Nat.le_trans Z0 lo102
  have hi102 : b102 < h102.size := A102.lt
  have V102 : Arv Z h102 b102 k102 .char (1 : Int32) [(.int (0 : Int32))] (.int (0 : Int32)) := (Arv.new A102 (by decide)).pad (pad_rep [] (.int (0 : Int32)) 1)
  refine own_go (fun t k => XS.dup X102.here hx rfl (hb hby d_3_8) rfl rfl k) ?_
  refine own_go (fun t k => XS.iconst X102.here hx rfl (hb hby d_3_9) k) ?_
  refine own_go (fun t k => XS.bipush X102.here hx rfl (hb hby d_3_10) k) ?_
  show own_Go _ _ _ _ (T102.setTop (mkF m 12 #[.val (.int (1 : Int32)), .val (.int c1_), .val (.int c2_), .val (.int c3_), .val (.int c4_)] [(.int (47 : Int32)), (.int (0 : Int32)), (.ref b102), (.ref b102)]))
  obtain ⟨cl103, Ar103, qk103, sz103, nn103, ha103, gf103⟩ := id V102
  have hin103 : ¬ ((0 : Int32) < 0 ∨ cl103.slots.size ≤ ((0 : Int32)).toNatClampNeg) := inb_of sz103 ⟨by decide, by decide⟩
  obtain ⟨T104, h104, X104, e104, W104, st104⟩ := stC X102 hx hZ e102 Ar103 (j := (0 : Int32)) hin103 (g := (mkF m 12 #[.val (.int (1 : Int32)), .val (.int c1_), .val (.int c2_), .val (.int c3_), .val (.int c4_)] [(.int (47 : Int32)), (.int (0 : Int32)), (.ref b102), (.ref b102)])) rfl rfl (hb hby d_3_12)
  refine own_go st104 ?_
  have V104 : Arv Z h104 b102 k102 .char (1 : Int32) [(.int (47 : Int32))] (.int (0 : Int32)) := Arv.set Ar103 qk103 sz103 nn103 ha103 gf103 rfl W104 0 rfl (Nat.le_of_ble_eq_true rfl)
  have Z104 : n0 ≤ h104.size := (Nat.le_trans Z102 (Nat.le_of_eq W104.size.symm))
  have N104 := Fr.snoc X104 N0 q102
  have K104 : Keep h0 h104 [] := K102.wr W104 (Or.inr lo102)
  show own_Go _ _ _ _ (T104.setTop (mkF m 13 #[.val (.int (1 : Int32)), .val (.int c1_), .val (.int c2_), .val (.int c3_), .val (.int c4_)] [(.ref b102)]))
  refine own_ret X104 hx hlk hret rfl (Or.inr (Or.inr (Or.inr (Or.inr ⟨rfl, rfl, rfl⟩)))) (hb hby d_3_13) ?_ (by decide) (by decide)
  rw [e104]
  exact ⟨b102, k102, rfl, N104, K104, lo102, q102, V104⟩
def Q_chs_2 (Z : State) (c1_ : Int32) (c2_ : Int32) (c3_ : Int32) (c4_ : Int32) (h0 : Heap) (n0 : Nat) (v : Option Value) (h : Heap) (L : List Loc) : Prop := ∃ (uc : Addr) (kc : ClassId), v = some (.ref uc) ∧ Fr n0 L ∧ Keep h0 h [] ∧ h0.size ≤ uc ∧ n0 ≤ uc ∧ Arv Z h uc kc .char (2 : Int32) [(.int (47 : Int32)), (.int c1_)] (.int (0 : Int32))
theorem ef_chs_2 (m : MethodId) (c1_ : Int32) (c2_ : Int32) (c3_ : Int32) (c4_ : Int32) : entryFrame m #[(.int (2 : Int32)), (.int c1_), (.int c2_), (.int c3_), (.int c4_)] 5 = mkF m 0 #[.val (.int (2 : Int32)), .val (.int c1_), .val (.int c2_), .val (.int c3_), .val (.int c4_)] [] := by first | (simp [entryFrame, mkF, argsToLocals, Value.category]; done) | rfl
theorem d_3_14 : decode method_3_code 14 = .ok (.iload_n 0, 1) := by decide +kernel
theorem d_3_15 : decode method_3_code 15 = .ok (.iconst 2, 1) := by decide +kernel
theorem d_3_16 : decode method_3_code 16 = .ok (.if_icmp .ne 16, 3) := by decide +kernel
theorem d_3_19 : decode method_3_code 19 = .ok (.iconst 2, 1) := by decide +kernel
theorem d_3_20 : decode method_3_code 20 = .ok (.newarray .char, 2) := by decide +kernel
theorem d_3_22 : decode method_3_code 22 = .ok (.dup, 1) := by decide +kernel
theorem d_3_23 : decode method_3_code 23 = .ok (.iconst 0, 1) := by decide +kernel
theorem d_3_24 : decode method_3_code 24 = .ok (.bipush 47, 2) := by decide +kernel
theorem d_3_26 : decode method_3_code 26 = .ok (.castore, 1) := by decide +kernel
theorem d_3_27 : decode method_3_code 27 = .ok (.dup, 1) := by decide +kernel
theorem d_3_28 : decode method_3_code 28 = .ok (.iconst 1, 1) := by decide +kernel
theorem d_3_29 : decode method_3_code 29 = .ok (.iload_n 1, 1) := by decide +kernel
theorem d_3_30 : decode method_3_code 30 = .ok (.castore, 1) := by decide +kernel
theorem d_3_31 : decode method_3_code 31 = .ok (.areturn, 1) := by decide +kernel
set_option maxRecDepth 65536 in
set_option maxHeartbeats 40000000 in
theorem rm_chs_2 (l : Launch) (Z : State) (a0 : Array Value) (hw : ∀ d ∈ tables_1, d.before a0 Z = true) (ws : List Jvm.Cond) (c1_ c2_ c3_ c4_ : Int32) (h0 : Heap) (n0 : Nat) (Z0 : n0 ≤ h0.size) (B1 : own_B c1_) (B2 : own_B c2_) (B3 : own_B c3_) (B4 : own_B c4_) :
    own_Met l Z (⟨"com/example/grantfold/grantfold/model/ConfigurationParentPinLaw", "chars", "(ICCCC)[C"⟩ : MethodName) method_3_code 5 (some (.array .char)) ws ({ frames := 0, cells := 1, slots := 2, locals := 0 } : Room) #[(.int (2 : Int32)), (.int c1_), (.int c2_), (.int c3_), (.int c4_)] h0 (Q_chs_2 Z c1_ c2_ c3_ c4_ h0 n0) := by
  refine own_enter (own := "com/example/grantfold/grantfold/model/ConfigurationParentPinLaw") (plainFor_of_name pn_0) rfl ?_
  intro p e s m below meth c s₁ hlk hret hx hby hml hown hnm hZ X0 e0
  have N0 := Fr.nil n0
  refine own_cast (ef_chs_2 m c1_ c2_ c3_ c4_) ?_
  show own_Go _ _ _ _ (s₁.setTop (mkF m 0 #[.val (.int (2 : Int32)), .val (.int c1_), .val (.int c2_), .val (.int c3_), .val (.int c4_)] []))
  refine own_go (fun t k => XS.iloadN X0.here hx rfl (hb hby d_3_0) rfl k) ?_
  refine own_go (fun t k => XS.iconst X0.here hx rfl (hb hby d_3_1) k) ?_
  show own_Go _ _ _ _ (s₁.setTop (mkF m 2 #[.val (.int (2 : Int32)), .val (.int c1_), .val (.int c2_), .val (.int c3_), .val (.int c4_)] [(.int (1 : Int32)), (.int (2 : Int32))]))
  refine own_go (fun t k => XS.icmpYes X0.here hx rfl (pc0 := 2) (pc' := 14) rfl (hb hby d_3_2) rfl (feq (by decide : ¬ ((2 : Int32) = (1 : Int32)))).2 (by decide) (by decide) k) ?_
  refine own_go (fun t k => XS.iloadN X0.here hx rfl (hb hby d_3_14) rfl k) ?_
  refine own_go (fun t k => XS.iconst X0.here hx rfl (hb hby d_3_15) k) ?_
  show own_Go _ _ _ _ (s₁.setTop (mkF m 16 #[.val (.int (2 : Int32)), .val (.int c1_), .val (.int c2_), .val (.int c3_), .val (.int c4_)] [(.int (2 : Int32)), (.int (2 : Int32))]))
  refine own_go (fun t k => XS.icmpNo X0.here hx rfl (hb hby d_3_16) rfl (teq (by decide : (2 : Int32) = (2 : Int32))).2 k) ?_
  refine own_go (fun t k => XS.iconst X0.here hx rfl (hb hby d_3_19) k) ?_
  show own_Go _ _ _ _ (s₁.setTop (mkF m 20 #[.val (.int (2 : Int32)), .val (.int c1_), .val (.int c2_), .val (.int c3_), .val (.int c4_)] [(.int (2 : Int32))]))
  obtain ⟨T105, h105, k105, X105, e105, E105, A105, st105⟩ := newP (aty := .char) X0 hx hZ (w_11 hw) e0 (n := (2 : Int32)) (rest := []) (g := (mkF m 20 #[.val (.int (2 : Int32)), .val (.int c1_), .val (.int c2_), .val (.int c3_), .val (.int c4_)] [(.int (2 : Int32))])) rfl (hb hby d_3_20) rfl (by decide) (cap := 2) (by decide) (by decide) (by decide) (by decide)
  obtain ⟨b105, g105⟩ : ∃ z, z = h0.size := ⟨_, rfl⟩
  rw [← g105] at A105 st105
  refine own_go st105 ?_
  have Z105 : n0 ≤ h105.size := (Nat.le_trans Z0 E105.1)
  have K105 : Keep h0 h105 [] := (Keep.refl h0 []).ext E105
  have lo105 : h0.size ≤ b105 := Nat.le_of_eq g105.symm
  have q105 : n0 ≤ b105 := Nat.le_trans Z0 lo105
  have hi105 : b105 < h105.size := A105.lt
  have V105 : Arv Z h105 b105 k105 .char (2 : Int32) [(.int (0 : Int32)), (.int (0 : Int32))] (.int (0 : Int32)) := (Arv.new A105 (by decide)).pad (pad_rep [] (.int (0 : Int32)) 2)
  refine own_go (fun t k => XS.dup X105.here hx rfl (hb hby d_3_22) rfl rfl k) ?_
  refine own_go (fun t k => XS.iconst X105.here hx rfl (hb hby d_3_23) k) ?_
  refine own_go (fun t k => XS.bipush X105.here hx rfl (hb hby d_3_24) k) ?_
  show own_Go _ _ _ _ (T105.setTop (mkF m 26 #[.val (.int (2 : Int32)), .val (.int c1_), .val (.int c2_), .val (.int c3_), .val (.int c4_)] [(.int (47 : Int32)), (.int (0 : Int32)), (.ref b105), (.ref b105)]))
  obtain ⟨cl106, Ar106, qk106, sz106, nn106, ha106, gf106⟩ := id V105
  have hin106 : ¬ ((0 : Int32) < 0 ∨ cl106.slots.size ≤ ((0 : Int32)).toNatClampNeg) := inb_of sz106 ⟨by decide, by decide⟩
  obtain ⟨T107, h107, X107, e107, W107, st107⟩ := stC X105 hx hZ e105 Ar106 (j := (0 : Int32)) hin106 (g := (mkF m 26 #[.val (.int (2 : Int32)), .val (.int c1_), .val (.int c2_), .val (.int c3_), .val (.int c4_)] [(.int (47 : Int32)), (.int (0 : Int32)), (.ref b105), (.ref b105)])) rfl rfl (hb hby d_3_26)
  refine own_go st107 ?_
  have V107 : Arv Z h107 b105 k105 .char (2 : Int32) [(.int (47 : Int32)), (.int (0 : Int32))] (.int (0 : Int32)) := Arv.set Ar106 qk106 sz106 nn106 ha106 gf106 rfl W107 0 rfl (Nat.le_of_ble_eq_true rfl)
  have Z107 : n0 ≤ h107.size := (Nat.le_trans Z105 (Nat.le_of_eq W107.size.symm))
  have N107 := Fr.snoc X107 N0 q105
  have K107 : Keep h0 h107 [] := K105.wr W107 (Or.inr lo105)
  refine own_go (fun t k => XS.dup X107.here hx rfl (hb hby d_3_27) rfl rfl k) ?_
  refine own_go (fun t k => XS.iconst X107.here hx rfl (hb hby d_3_28) k) ?_
  refine own_go (fun t k => XS.iloadN X107.here hx rfl (hb hby d_3_29) rfl k) ?_
  show own_Go _ _ _ _ (T107.setTop (mkF m 30 #[.val (.int (2 : Int32)), .val (.int c1_), .val (.int c2_), .val (.int c3_), .val (.int c4_)] [(.int c1_), (.int (1 : Int32)), (.ref b105), (.ref b105)]))
  obtain ⟨cl108, Ar108, qk108, sz108, nn108, ha108, gf108⟩ := id V107
  have hin108 : ¬ ((1 : Int32) < 0 ∨ cl108.slots.size ≤ ((1 : Int32)).toNatClampNeg) := inb_of sz108 ⟨by decide, by decide⟩
  obtain ⟨T109, h109, X109, e109, W109, st109⟩ := stC X107 hx hZ e107 Ar108 (j := (1 : Int32)) hin108 (g := (mkF m 30 #[.val (.int (2 : Int32)), .val (.int c1_), .val (.int c2_), .val (.int c3_), .val (.int c4_)] [(.int c1_), (.int (1 : Int32)), (.ref b105), (.ref b105)])) rfl rfl (hb hby d_3_30)
  refine own_go st109 ?_
  rw [(own_nc B1)] at W109
  have V109 : Arv Z h109 b105 k105 .char (2 : Int32) [(.int (47 : Int32)), (.int c1_)] (.int (0 : Int32)) := Arv.set Ar108 qk108 sz108 nn108 ha108 gf108 (own_fc B1) W109 1 rfl (Nat.le_of_ble_eq_true rfl)
  have Z109 : n0 ≤ h109.size := (Nat.le_trans Z107 (Nat.le_of_eq W109.size.symm))
  have N109 := Fr.snoc X109 N107 q105
  have K109 : Keep h0 h109 [] := K107.wr W109 (Or.inr lo105)
  show own_Go _ _ _ _ (T109.setTop (mkF m 31 #[.val (.int (2 : Int32)), .val (.int c1_), .val (.int c2_), .val (.int c3_), .val (.int c4_)] [(.ref b105)]))
  refine own_ret X109 hx hlk hret rfl (Or.inr (Or.inr (Or.inr (Or.inr ⟨rfl, rfl, rfl⟩)))) (hb hby d_3_31) ?_ (by decide) (by decide)
  rw [e109]
  exact ⟨b105, k105, rfl, N109, K109, lo105, q105, V109⟩
def Q_chs_3 (Z : State) (c1_ : Int32) (c2_ : Int32) (c3_ : Int32) (c4_ : Int32) (h0 : Heap) (n0 : Nat) (v : Option Value) (h : Heap) (L : List Loc) : Prop := ∃ (uc : Addr) (kc : ClassId), v = some (.ref uc) ∧ Fr n0 L ∧ Keep h0 h [] ∧ h0.size ≤ uc ∧ n0 ≤ uc ∧ Arv Z h uc kc .char (3 : Int32) [(.int (47 : Int32)), (.int c1_), (.int c2_)] (.int (0 : Int32))
theorem ef_chs_3 (m : MethodId) (c1_ : Int32) (c2_ : Int32) (c3_ : Int32) (c4_ : Int32) : entryFrame m #[(.int (3 : Int32)), (.int c1_), (.int c2_), (.int c3_), (.int c4_)] 5 = mkF m 0 #[.val (.int (3 : Int32)), .val (.int c1_), .val (.int c2_), .val (.int c3_), .val (.int c4_)] [] := by first | (simp [entryFrame, mkF, argsToLocals, Value.category]; done) | rfl
theorem d_3_32 : decode method_3_code 32 = .ok (.iload_n 0, 1) := by decide +kernel
theorem d_3_33 : decode method_3_code 33 = .ok (.iconst 3, 1) := by decide +kernel
theorem d_3_34 : decode method_3_code 34 = .ok (.if_icmp .ne 20, 3) := by decide +kernel
theorem d_3_37 : decode method_3_code 37 = .ok (.iconst 3, 1) := by decide +kernel
theorem d_3_38 : decode method_3_code 38 = .ok (.newarray .char, 2) := by decide +kernel
theorem d_3_40 : decode method_3_code 40 = .ok (.dup, 1) := by decide +kernel
theorem d_3_41 : decode method_3_code 41 = .ok (.iconst 0, 1) := by decide +kernel
theorem d_3_42 : decode method_3_code 42 = .ok (.bipush 47, 2) := by decide +kernel
theorem d_3_44 : decode method_3_code 44 = .ok (.castore, 1) := by decide +kernel
theorem d_3_45 : decode method_3_code 45 = .ok (.dup, 1) := by decide +kernel
theorem d_3_46 : decode method_3_code 46 = .ok (.iconst 1, 1) := by decide +kernel
theorem d_3_47 : decode method_3_code 47 = .ok (.iload_n 1, 1) := by decide +kernel
theorem d_3_48 : decode method_3_code 48 = .ok (.castore, 1) := by decide +kernel
theorem d_3_49 : decode method_3_code 49 = .ok (.dup, 1) := by decide +kernel
theorem d_3_50 : decode method_3_code 50 = .ok (.iconst 2, 1) := by decide +kernel
theorem d_3_51 : decode method_3_code 51 = .ok (.iload_n 2, 1) := by decide +kernel
theorem d_3_52 : decode method_3_code 52 = .ok (.castore, 1) := by decide +kernel
theorem d_3_53 : decode method_3_code 53 = .ok (.areturn, 1) := by decide +kernel
set_option maxRecDepth 65536 in
set_option maxHeartbeats 40000000 in
theorem rm_chs_3 (l : Launch) (Z : State) (a0 : Array Value) (hw : ∀ d ∈ tables_1, d.before a0 Z = true) (ws : List Jvm.Cond) (c1_ c2_ c3_ c4_ : Int32) (h0 : Heap) (n0 : Nat) (Z0 : n0 ≤ h0.size) (B1 : own_B c1_) (B2 : own_B c2_) (B3 : own_B c3_) (B4 : own_B c4_) :
    own_Met l Z (⟨"com/example/grantfold/grantfold/model/ConfigurationParentPinLaw", "chars", "(ICCCC)[C"⟩ : MethodName) method_3_code 5 (some (.array .char)) ws ({ frames := 0, cells := 1, slots := 3, locals := 0 } : Room) #[(.int (3 : Int32)), (.int c1_), (.int c2_), (.int c3_), (.int c4_)] h0 (Q_chs_3 Z c1_ c2_ c3_ c4_ h0 n0) := by
  refine own_enter (own := "com/example/grantfold/grantfold/model/ConfigurationParentPinLaw") (plainFor_of_name pn_0) rfl ?_
  intro p e s m below meth c s₁ hlk hret hx hby hml hown hnm hZ X0 e0
  have N0 := Fr.nil n0
  refine own_cast (ef_chs_3 m c1_ c2_ c3_ c4_) ?_
  show own_Go _ _ _ _ (s₁.setTop (mkF m 0 #[.val (.int (3 : Int32)), .val (.int c1_), .val (.int c2_), .val (.int c3_), .val (.int c4_)] []))
  refine own_go (fun t k => XS.iloadN X0.here hx rfl (hb hby d_3_0) rfl k) ?_
  refine own_go (fun t k => XS.iconst X0.here hx rfl (hb hby d_3_1) k) ?_
  show own_Go _ _ _ _ (s₁.setTop (mkF m 2 #[.val (.int (3 : Int32)), .val (.int c1_), .val (.int c2_), .val (.int c3_), .val (.int c4_)] [(.int (1 : Int32)), (.int (3 : Int32))]))
  refine own_go (fun t k => XS.icmpYes X0.here hx rfl (pc0 := 2) (pc' := 14) rfl (hb hby d_3_2) rfl (feq (by decide : ¬ ((3 : Int32) = (1 : Int32)))).2 (by decide) (by decide) k) ?_
  refine own_go (fun t k => XS.iloadN X0.here hx rfl (hb hby d_3_14) rfl k) ?_
  refine own_go (fun t k => XS.iconst X0.here hx rfl (hb hby d_3_15) k) ?_
  show own_Go _ _ _ _ (s₁.setTop (mkF m 16 #[.val (.int (3 : Int32)), .val (.int c1_), .val (.int c2_), .val (.int c3_), .val (.int c4_)] [(.int (2 : Int32)), (.int (3 : Int32))]))
  refine own_go (fun t k => XS.icmpYes X0.here hx rfl (pc0 := 16) (pc' := 32) rfl (hb hby d_3_16) rfl (feq (by decide : ¬ ((3 : Int32) = (2 : Int32)))).2 (by decide) (by decide) k) ?_
  refine own_go (fun t k => XS.iloadN X0.here hx rfl (hb hby d_3_32) rfl k) ?_
  refine own_go (fun t k => XS.iconst X0.here hx rfl (hb hby d_3_33) k) ?_
  show own_Go _ _ _ _ (s₁.setTop (mkF m 34 #[.val (.int (3 : Int32)), .val (.int c1_), .val (.int c2_), .val (.int c3_), .val (.int c4_)] [(.int (3 : Int32)), (.int (3 : Int32))]))
  refine own_go (fun t k => XS.icmpNo X0.here hx rfl (hb hby d_3_34) rfl (teq (by decide : (3 : Int32) = (3 : Int32))).2 k) ?_
  refine own_go (fun t k => XS.iconst X0.here hx rfl (hb hby d_3_37) k) ?_
  show own_Go _ _ _ _ (s₁.setTop (mkF m 38 #[.val (.int (3 : Int32)), .val (.int c1_), .val (.int c2_), .val (.int c3_), .val (.int c4_)] [(.int (3 : Int32))]))
  obtain ⟨T110, h110, k110, X110, e110, E110, A110, st110⟩ := newP (aty := .char) X0 hx hZ (w_11 hw) e0 (n := (3 : Int32)) (rest := []) (g := (mkF m 38 #[.val (.int (3 : Int32)), .val (.int c1_), .val (.int c2_), .val (.int c3_), .val (.int c4_)] [(.int (3 : Int32))])) rfl (hb hby d_3_38) rfl (by decide) (cap := 3) (by decide) (by decide) (by decide) (by decide)
  obtain ⟨b110, g110⟩ : ∃ z, z = h0.size := ⟨_, rfl⟩
  rw [← g110] at A110 st110
  refine own_go st110 ?_
  have Z110 : n0 ≤ h110.size := (Nat.le_trans Z0 E110.1)
  have K110 : Keep h0 h110 [] := (Keep.refl h0 []).ext E110
  have lo110 : h0.size ≤ b110 := Nat.le_of_eq g110.symm
  have q110 : n0 ≤ b110 := Nat.le_trans Z0 lo110
  have hi110 : b110 < h110.size := A110.lt
  have V110 : Arv Z h110 b110 k110 .char (3 : Int32) [(.int (0 : Int32)), (.int (0 : Int32)), (.int (0 : Int32))] (.int (0 : Int32)) := (Arv.new A110 (by decide)).pad (pad_rep [] (.int (0 : Int32)) 3)
  refine own_go (fun t k => XS.dup X110.here hx rfl (hb hby d_3_40) rfl rfl k) ?_
  refine own_go (fun t k => XS.iconst X110.here hx rfl (hb hby d_3_41) k) ?_
  refine own_go (fun t k => XS.bipush X110.here hx rfl (hb hby d_3_42) k) ?_
  show own_Go _ _ _ _ (T110.setTop (mkF m 44 #[.val (.int (3 : Int32)), .val (.int c1_), .val (.int c2_), .val (.int c3_), .val (.int c4_)] [(.int (47 : Int32)), (.int (0 : Int32)), (.ref b110), (.ref b110)]))
  obtain ⟨cl111, Ar111, qk111, sz111, nn111, ha111, gf111⟩ := id V110
  have hin111 : ¬ ((0 : Int32) < 0 ∨ cl111.slots.size ≤ ((0 : Int32)).toNatClampNeg) := inb_of sz111 ⟨by decide, by decide⟩
  obtain ⟨T112, h112, X112, e112, W112, st112⟩ := stC X110 hx hZ e110 Ar111 (j := (0 : Int32)) hin111 (g := (mkF m 44 #[.val (.int (3 : Int32)), .val (.int c1_), .val (.int c2_), .val (.int c3_), .val (.int c4_)] [(.int (47 : Int32)), (.int (0 : Int32)), (.ref b110), (.ref b110)])) rfl rfl (hb hby d_3_44)
  refine own_go st112 ?_
  have V112 : Arv Z h112 b110 k110 .char (3 : Int32) [(.int (47 : Int32)), (.int (0 : Int32)), (.int (0 : Int32))] (.int (0 : Int32)) := Arv.set Ar111 qk111 sz111 nn111 ha111 gf111 rfl W112 0 rfl (Nat.le_of_ble_eq_true rfl)
  have Z112 : n0 ≤ h112.size := (Nat.le_trans Z110 (Nat.le_of_eq W112.size.symm))
  have N112 := Fr.snoc X112 N0 q110
  have K112 : Keep h0 h112 [] := K110.wr W112 (Or.inr lo110)
  refine own_go (fun t k => XS.dup X112.here hx rfl (hb hby d_3_45) rfl rfl k) ?_
  refine own_go (fun t k => XS.iconst X112.here hx rfl (hb hby d_3_46) k) ?_
  refine own_go (fun t k => XS.iloadN X112.here hx rfl (hb hby d_3_47) rfl k) ?_
  show own_Go _ _ _ _ (T112.setTop (mkF m 48 #[.val (.int (3 : Int32)), .val (.int c1_), .val (.int c2_), .val (.int c3_), .val (.int c4_)] [(.int c1_), (.int (1 : Int32)), (.ref b110), (.ref b110)]))
  obtain ⟨cl113, Ar113, qk113, sz113, nn113, ha113, gf113⟩ := id V112
  have hin113 : ¬ ((1 : Int32) < 0 ∨ cl113.slots.size ≤ ((1 : Int32)).toNatClampNeg) := inb_of sz113 ⟨by decide, by decide⟩
  obtain ⟨T114, h114, X114, e114, W114, st114⟩ := stC X112 hx hZ e112 Ar113 (j := (1 : Int32)) hin113 (g := (mkF m 48 #[.val (.int (3 : Int32)), .val (.int c1_), .val (.int c2_), .val (.int c3_), .val (.int c4_)] [(.int c1_), (.int (1 : Int32)), (.ref b110), (.ref b110)])) rfl rfl (hb hby d_3_48)
  refine own_go st114 ?_
  rw [(own_nc B1)] at W114
  have V114 : Arv Z h114 b110 k110 .char (3 : Int32) [(.int (47 : Int32)), (.int c1_), (.int (0 : Int32))] (.int (0 : Int32)) := Arv.set Ar113 qk113 sz113 nn113 ha113 gf113 (own_fc B1) W114 1 rfl (Nat.le_of_ble_eq_true rfl)
  have Z114 : n0 ≤ h114.size := (Nat.le_trans Z112 (Nat.le_of_eq W114.size.symm))
  have N114 := Fr.snoc X114 N112 q110
  have K114 : Keep h0 h114 [] := K112.wr W114 (Or.inr lo110)
  refine own_go (fun t k => XS.dup X114.here hx rfl (hb hby d_3_49) rfl rfl k) ?_
  refine own_go (fun t k => XS.iconst X114.here hx rfl (hb hby d_3_50) k) ?_
  refine own_go (fun t k => XS.iloadN X114.here hx rfl (hb hby d_3_51) rfl k) ?_
  show own_Go _ _ _ _ (T114.setTop (mkF m 52 #[.val (.int (3 : Int32)), .val (.int c1_), .val (.int c2_), .val (.int c3_), .val (.int c4_)] [(.int c2_), (.int (2 : Int32)), (.ref b110), (.ref b110)]))
  obtain ⟨cl115, Ar115, qk115, sz115, nn115, ha115, gf115⟩ := id V114
  have hin115 : ¬ ((2 : Int32) < 0 ∨ cl115.slots.size ≤ ((2 : Int32)).toNatClampNeg) := inb_of sz115 ⟨by decide, by decide⟩
  obtain ⟨T116, h116, X116, e116, W116, st116⟩ := stC X114 hx hZ e114 Ar115 (j := (2 : Int32)) hin115 (g := (mkF m 52 #[.val (.int (3 : Int32)), .val (.int c1_), .val (.int c2_), .val (.int c3_), .val (.int c4_)] [(.int c2_), (.int (2 : Int32)), (.ref b110), (.ref b110)])) rfl rfl (hb hby d_3_52)
  refine own_go st116 ?_
  rw [(own_nc B2)] at W116
  have V116 : Arv Z h116 b110 k110 .char (3 : Int32) [(.int (47 : Int32)), (.int c1_), (.int c2_)] (.int (0 : Int32)) := Arv.set Ar115 qk115 sz115 nn115 ha115 gf115 (own_fc B2) W116 2 rfl (Nat.le_of_ble_eq_true rfl)
  have Z116 : n0 ≤ h116.size := (Nat.le_trans Z114 (Nat.le_of_eq W116.size.symm))
  have N116 := Fr.snoc X116 N114 q110
  have K116 : Keep h0 h116 [] := K114.wr W116 (Or.inr lo110)
  show own_Go _ _ _ _ (T116.setTop (mkF m 53 #[.val (.int (3 : Int32)), .val (.int c1_), .val (.int c2_), .val (.int c3_), .val (.int c4_)] [(.ref b110)]))
  refine own_ret X116 hx hlk hret rfl (Or.inr (Or.inr (Or.inr (Or.inr ⟨rfl, rfl, rfl⟩)))) (hb hby d_3_53) ?_ (by decide) (by decide)
  rw [e116]
  exact ⟨b110, k110, rfl, N116, K116, lo110, q110, V116⟩
def Q_chs_4 (Z : State) (c1_ : Int32) (c2_ : Int32) (c3_ : Int32) (c4_ : Int32) (h0 : Heap) (n0 : Nat) (v : Option Value) (h : Heap) (L : List Loc) : Prop := ∃ (uc : Addr) (kc : ClassId), v = some (.ref uc) ∧ Fr n0 L ∧ Keep h0 h [] ∧ h0.size ≤ uc ∧ n0 ≤ uc ∧ Arv Z h uc kc .char (4 : Int32) [(.int (47 : Int32)), (.int c1_), (.int c2_), (.int c3_)] (.int (0 : Int32))
theorem ef_chs_4 (m : MethodId) (c1_ : Int32) (c2_ : Int32) (c3_ : Int32) (c4_ : Int32) : entryFrame m #[(.int (4 : Int32)), (.int c1_), (.int c2_), (.int c3_), (.int c4_)] 5 = mkF m 0 #[.val (.int (4 : Int32)), .val (.int c1_), .val (.int c2_), .val (.int c3_), .val (.int c4_)] [] := by first | (simp [entryFrame, mkF, argsToLocals, Value.category]; done) | rfl
theorem d_3_54 : decode method_3_code 54 = .ok (.iload_n 0, 1) := by decide +kernel
theorem d_3_55 : decode method_3_code 55 = .ok (.iconst 4, 1) := by decide +kernel
theorem d_3_56 : decode method_3_code 56 = .ok (.if_icmp .ne 24, 3) := by decide +kernel
theorem d_3_59 : decode method_3_code 59 = .ok (.iconst 4, 1) := by decide +kernel
theorem d_3_60 : decode method_3_code 60 = .ok (.newarray .char, 2) := by decide +kernel
theorem d_3_62 : decode method_3_code 62 = .ok (.dup, 1) := by decide +kernel
theorem d_3_63 : decode method_3_code 63 = .ok (.iconst 0, 1) := by decide +kernel
theorem d_3_64 : decode method_3_code 64 = .ok (.bipush 47, 2) := by decide +kernel
theorem d_3_66 : decode method_3_code 66 = .ok (.castore, 1) := by decide +kernel
theorem d_3_67 : decode method_3_code 67 = .ok (.dup, 1) := by decide +kernel
theorem d_3_68 : decode method_3_code 68 = .ok (.iconst 1, 1) := by decide +kernel
theorem d_3_69 : decode method_3_code 69 = .ok (.iload_n 1, 1) := by decide +kernel
theorem d_3_70 : decode method_3_code 70 = .ok (.castore, 1) := by decide +kernel
theorem d_3_71 : decode method_3_code 71 = .ok (.dup, 1) := by decide +kernel
theorem d_3_72 : decode method_3_code 72 = .ok (.iconst 2, 1) := by decide +kernel
theorem d_3_73 : decode method_3_code 73 = .ok (.iload_n 2, 1) := by decide +kernel
theorem d_3_74 : decode method_3_code 74 = .ok (.castore, 1) := by decide +kernel
theorem d_3_75 : decode method_3_code 75 = .ok (.dup, 1) := by decide +kernel
theorem d_3_76 : decode method_3_code 76 = .ok (.iconst 3, 1) := by decide +kernel
theorem d_3_77 : decode method_3_code 77 = .ok (.iload_n 3, 1) := by decide +kernel
theorem d_3_78 : decode method_3_code 78 = .ok (.castore, 1) := by decide +kernel
theorem d_3_79 : decode method_3_code 79 = .ok (.areturn, 1) := by decide +kernel
set_option maxRecDepth 65536 in
set_option maxHeartbeats 40000000 in
theorem rm_chs_4 (l : Launch) (Z : State) (a0 : Array Value) (hw : ∀ d ∈ tables_1, d.before a0 Z = true) (ws : List Jvm.Cond) (c1_ c2_ c3_ c4_ : Int32) (h0 : Heap) (n0 : Nat) (Z0 : n0 ≤ h0.size) (B1 : own_B c1_) (B2 : own_B c2_) (B3 : own_B c3_) (B4 : own_B c4_) :
    own_Met l Z (⟨"com/example/grantfold/grantfold/model/ConfigurationParentPinLaw", "chars", "(ICCCC)[C"⟩ : MethodName) method_3_code 5 (some (.array .char)) ws ({ frames := 0, cells := 1, slots := 4, locals := 0 } : Room) #[(.int (4 : Int32)), (.int c1_), (.int c2_), (.int c3_), (.int c4_)] h0 (Q_chs_4 Z c1_ c2_ c3_ c4_ h0 n0) := by
  refine own_enter (own := "com/example/grantfold/grantfold/model/ConfigurationParentPinLaw") (plainFor_of_name pn_0) rfl ?_
  intro p e s m below meth c s₁ hlk hret hx hby hml hown hnm hZ X0 e0
  have N0 := Fr.nil n0
  refine own_cast (ef_chs_4 m c1_ c2_ c3_ c4_) ?_
  show own_Go _ _ _ _ (s₁.setTop (mkF m 0 #[.val (.int (4 : Int32)), .val (.int c1_), .val (.int c2_), .val (.int c3_), .val (.int c4_)] []))
  refine own_go (fun t k => XS.iloadN X0.here hx rfl (hb hby d_3_0) rfl k) ?_
  refine own_go (fun t k => XS.iconst X0.here hx rfl (hb hby d_3_1) k) ?_
  show own_Go _ _ _ _ (s₁.setTop (mkF m 2 #[.val (.int (4 : Int32)), .val (.int c1_), .val (.int c2_), .val (.int c3_), .val (.int c4_)] [(.int (1 : Int32)), (.int (4 : Int32))]))
  refine own_go (fun t k => XS.icmpYes X0.here hx rfl (pc0 := 2) (pc' := 14) rfl (hb hby d_3_2) rfl (feq (by decide : ¬ ((4 : Int32) = (1 : Int32)))).2 (by decide) (by decide) k) ?_
  refine own_go (fun t k => XS.iloadN X0.here hx rfl (hb hby d_3_14) rfl k) ?_
  refine own_go (fun t k => XS.iconst X0.here hx rfl (hb hby d_3_15) k) ?_
  show own_Go _ _ _ _ (s₁.setTop (mkF m 16 #[.val (.int (4 : Int32)), .val (.int c1_), .val (.int c2_), .val (.int c3_), .val (.int c4_)] [(.int (2 : Int32)), (.int (4 : Int32))]))
  refine own_go (fun t k => XS.icmpYes X0.here hx rfl (pc0 := 16) (pc' := 32) rfl (hb hby d_3_16) rfl (feq (by decide : ¬ ((4 : Int32) = (2 : Int32)))).2 (by decide) (by decide) k) ?_
  refine own_go (fun t k => XS.iloadN X0.here hx rfl (hb hby d_3_32) rfl k) ?_
  refine own_go (fun t k => XS.iconst X0.here hx rfl (hb hby d_3_33) k) ?_
  show own_Go _ _ _ _ (s₁.setTop (mkF m 34 #[.val (.int (4 : Int32)), .val (.int c1_), .val (.int c2_), .val (.int c3_), .val (.int c4_)] [(.int (3 : Int32)), (.int (4 : Int32))]))
  refine own_go (fun t k => XS.icmpYes X0.here hx rfl (pc0 := 34) (pc' := 54) rfl (hb hby d_3_34) rfl (feq (by decide : ¬ ((4 : Int32) = (3 : Int32)))).2 (by decide) (by decide) k) ?_
  refine own_go (fun t k => XS.iloadN X0.here hx rfl (hb hby d_3_54) rfl k) ?_
  refine own_go (fun t k => XS.iconst X0.here hx rfl (hb hby d_3_55) k) ?_
  show own_Go _ _ _ _ (s₁.setTop (mkF m 56 #[.val (.int (4 : Int32)), .val (.int c1_), .val (.int c2_), .val (.int c3_), .val (.int c4_)] [(.int (4 : Int32)), (.int (4 : Int32))]))
  refine own_go (fun t k => XS.icmpNo X0.here hx rfl (hb hby d_3_56) rfl (teq (by decide : (4 : Int32) = (4 : Int32))).2 k) ?_
  refine own_go (fun t k => XS.iconst X0.here hx rfl (hb hby d_3_59) k) ?_
  show own_Go _ _ _ _ (s₁.setTop (mkF m 60 #[.val (.int (4 : Int32)), .val (.int c1_), .val (.int c2_), .val (.int c3_), .val (.int c4_)] [(.int (4 : Int32))]))
  obtain ⟨T117, h117, k117, X117, e117, E117, A117, st117⟩ := newP (aty := .char) X0 hx hZ (w_11 hw) e0 (n := (4 : Int32)) (rest := []) (g := (mkF m 60 #[.val (.int (4 : Int32)), .val (.int c1_), .val (.int c2_), .val (.int c3_), .val (.int c4_)] [(.int (4 : Int32))])) rfl (hb hby d_3_60) rfl (by decide) (cap := 4) (by decide) (by decide) (by decide) (by decide)
  obtain ⟨b117, g117⟩ : ∃ z, z = h0.size := ⟨_, rfl⟩
  rw [← g117] at A117 st117
  refine own_go st117 ?_
  have Z117 : n0 ≤ h117.size := (Nat.le_trans Z0 E117.1)
  have K117 : Keep h0 h117 [] := (Keep.refl h0 []).ext E117
  have lo117 : h0.size ≤ b117 := Nat.le_of_eq g117.symm
  have q117 : n0 ≤ b117 := Nat.le_trans Z0 lo117
  have hi117 : b117 < h117.size := A117.lt
  have V117 : Arv Z h117 b117 k117 .char (4 : Int32) [(.int (0 : Int32)), (.int (0 : Int32)), (.int (0 : Int32)), (.int (0 : Int32))] (.int (0 : Int32)) := (Arv.new A117 (by decide)).pad (pad_rep [] (.int (0 : Int32)) 4)
  refine own_go (fun t k => XS.dup X117.here hx rfl (hb hby d_3_62) rfl rfl k) ?_
  refine own_go (fun t k => XS.iconst X117.here hx rfl (hb hby d_3_63) k) ?_
  refine own_go (fun t k => XS.bipush X117.here hx rfl (hb hby d_3_64) k) ?_
  show own_Go _ _ _ _ (T117.setTop (mkF m 66 #[.val (.int (4 : Int32)), .val (.int c1_), .val (.int c2_), .val (.int c3_), .val (.int c4_)] [(.int (47 : Int32)), (.int (0 : Int32)), (.ref b117), (.ref b117)]))
  obtain ⟨cl118, Ar118, qk118, sz118, nn118, ha118, gf118⟩ := id V117
  have hin118 : ¬ ((0 : Int32) < 0 ∨ cl118.slots.size ≤ ((0 : Int32)).toNatClampNeg) := inb_of sz118 ⟨by decide, by decide⟩
  obtain ⟨T119, h119, X119, e119, W119, st119⟩ := stC X117 hx hZ e117 Ar118 (j := (0 : Int32)) hin118 (g := (mkF m 66 #[.val (.int (4 : Int32)), .val (.int c1_), .val (.int c2_), .val (.int c3_), .val (.int c4_)] [(.int (47 : Int32)), (.int (0 : Int32)), (.ref b117), (.ref b117)])) rfl rfl (hb hby d_3_66)
  refine own_go st119 ?_
  have V119 : Arv Z h119 b117 k117 .char (4 : Int32) [(.int (47 : Int32)), (.int (0 : Int32)), (.int (0 : Int32)), (.int (0 : Int32))] (.int (0 : Int32)) := Arv.set Ar118 qk118 sz118 nn118 ha118 gf118 rfl W119 0 rfl (Nat.le_of_ble_eq_true rfl)
  have Z119 : n0 ≤ h119.size := (Nat.le_trans Z117 (Nat.le_of_eq W119.size.symm))
  have N119 := Fr.snoc X119 N0 q117
  have K119 : Keep h0 h119 [] := K117.wr W119 (Or.inr lo117)
  refine own_go (fun t k => XS.dup X119.here hx rfl (hb hby d_3_67) rfl rfl k) ?_
  refine own_go (fun t k => XS.iconst X119.here hx rfl (hb hby d_3_68) k) ?_
  refine own_go (fun t k => XS.iloadN X119.here hx rfl (hb hby d_3_69) rfl k) ?_
  show own_Go _ _ _ _ (T119.setTop (mkF m 70 #[.val (.int (4 : Int32)), .val (.int c1_), .val (.int c2_), .val (.int c3_), .val (.int c4_)] [(.int c1_), (.int (1 : Int32)), (.ref b117), (.ref b117)]))
  obtain ⟨cl120, Ar120, qk120, sz120, nn120, ha120, gf120⟩ := id V119
  have hin120 : ¬ ((1 : Int32) < 0 ∨ cl120.slots.size ≤ ((1 : Int32)).toNatClampNeg) := inb_of sz120 ⟨by decide, by decide⟩
  obtain ⟨T121, h121, X121, e121, W121, st121⟩ := stC X119 hx hZ e119 Ar120 (j := (1 : Int32)) hin120 (g := (mkF m 70 #[.val (.int (4 : Int32)), .val (.int c1_), .val (.int c2_), .val (.int c3_), .val (.int c4_)] [(.int c1_), (.int (1 : Int32)), (.ref b117), (.ref b117)])) rfl rfl (hb hby d_3_70)
  refine own_go st121 ?_
  rw [(own_nc B1)] at W121
  have V121 : Arv Z h121 b117 k117 .char (4 : Int32) [(.int (47 : Int32)), (.int c1_), (.int (0 : Int32)), (.int (0 : Int32))] (.int (0 : Int32)) := Arv.set Ar120 qk120 sz120 nn120 ha120 gf120 (own_fc B1) W121 1 rfl (Nat.le_of_ble_eq_true rfl)
  have Z121 : n0 ≤ h121.size := (Nat.le_trans Z119 (Nat.le_of_eq W121.size.symm))
  have N121 := Fr.snoc X121 N119 q117
  have K121 : Keep h0 h121 [] := K119.wr W121 (Or.inr lo117)
  refine own_go (fun t k => XS.dup X121.here hx rfl (hb hby d_3_71) rfl rfl k) ?_
  refine own_go (fun t k => XS.iconst X121.here hx rfl (hb hby d_3_72) k) ?_
  refine own_go (fun t k => XS.iloadN X121.here hx rfl (hb hby d_3_73) rfl k) ?_
  show own_Go _ _ _ _ (T121.setTop (mkF m 74 #[.val (.int (4 : Int32)), .val (.int c1_), .val (.int c2_), .val (.int c3_), .val (.int c4_)] [(.int c2_), (.int (2 : Int32)), (.ref b117), (.ref b117)]))
  obtain ⟨cl122, Ar122, qk122, sz122, nn122, ha122, gf122⟩ := id V121
  have hin122 : ¬ ((2 : Int32) < 0 ∨ cl122.slots.size ≤ ((2 : Int32)).toNatClampNeg) := inb_of sz122 ⟨by decide, by decide⟩
  obtain ⟨T123, h123, X123, e123, W123, st123⟩ := stC X121 hx hZ e121 Ar122 (j := (2 : Int32)) hin122 (g := (mkF m 74 #[.val (.int (4 : Int32)), .val (.int c1_), .val (.int c2_), .val (.int c3_), .val (.int c4_)] [(.int c2_), (.int (2 : Int32)), (.ref b117), (.ref b117)])) rfl rfl (hb hby d_3_74)
  refine own_go st123 ?_
  rw [(own_nc B2)] at W123
  have V123 : Arv Z h123 b117 k117 .char (4 : Int32) [(.int (47 : Int32)), (.int c1_), (.int c2_), (.int (0 : Int32))] (.int (0 : Int32)) := Arv.set Ar122 qk122 sz122 nn122 ha122 gf122 (own_fc B2) W123 2 rfl (Nat.le_of_ble_eq_true rfl)
  have Z123 : n0 ≤ h123.size := (Nat.le_trans Z121 (Nat.le_of_eq W123.size.symm))
  have N123 := Fr.snoc X123 N121 q117
  have K123 : Keep h0 h123 [] := K121.wr W123 (Or.inr lo117)
  refine own_go (fun t k => XS.dup X123.here hx rfl (hb hby d_3_75) rfl rfl k) ?_
  refine own_go (fun t k => XS.iconst X123.here hx rfl (hb hby d_3_76) k) ?_
  refine own_go (fun t k => XS.iloadN X123.here hx rfl (hb hby d_3_77) rfl k) ?_
  show own_Go _ _ _ _ (T123.setTop (mkF m 78 #[.val (.int (4 : Int32)), .val (.int c1_), .val (.int c2_), .val (.int c3_), .val (.int c4_)] [(.int c3_), (.int (3 : Int32)), (.ref b117), (.ref b117)]))
  obtain ⟨cl124, Ar124, qk124, sz124, nn124, ha124, gf124⟩ := id V123
  have hin124 : ¬ ((3 : Int32) < 0 ∨ cl124.slots.size ≤ ((3 : Int32)).toNatClampNeg) := inb_of sz124 ⟨by decide, by decide⟩
  obtain ⟨T125, h125, X125, e125, W125, st125⟩ := stC X123 hx hZ e123 Ar124 (j := (3 : Int32)) hin124 (g := (mkF m 78 #[.val (.int (4 : Int32)), .val (.int c1_), .val (.int c2_), .val (.int c3_), .val (.int c4_)] [(.int c3_), (.int (3 : Int32)), (.ref b117), (.ref b117)])) rfl rfl (hb hby d_3_78)
  refine own_go st125 ?_
  rw [(own_nc B3)] at W125
  have V125 : Arv Z h125 b117 k117 .char (4 : Int32) [(.int (47 : Int32)), (.int c1_), (.int c2_), (.int c3_)] (.int (0 : Int32)) := Arv.set Ar124 qk124 sz124 nn124 ha124 gf124 (own_fc B3) W125 3 rfl (Nat.le_of_ble_eq_true rfl)
  have Z125 : n0 ≤ h125.size := (Nat.le_trans Z123 (Nat.le_of_eq W125.size.symm))
  have N125 := Fr.snoc X125 N123 q117
  have K125 : Keep h0 h125 [] := K123.wr W125 (Or.inr lo117)
  show own_Go _ _ _ _ (T125.setTop (mkF m 79 #[.val (.int (4 : Int32)), .val (.int c1_), .val (.int c2_), .val (.int c3_), .val (.int c4_)] [(.ref b117)]))
  refine own_ret X125 hx hlk hret rfl (Or.inr (Or.inr (Or.inr (Or.inr ⟨rfl, rfl, rfl⟩)))) (hb hby d_3_79) ?_ (by decide) (by decide)
  rw [e125]
  exact ⟨b117, k117, rfl, N125, K125, lo117, q117, V125⟩
def Q_chs_5 (Z : State) (c1_ : Int32) (c2_ : Int32) (c3_ : Int32) (c4_ : Int32) (h0 : Heap) (n0 : Nat) (v : Option Value) (h : Heap) (L : List Loc) : Prop := ∃ (uc : Addr) (kc : ClassId), v = some (.ref uc) ∧ Fr n0 L ∧ Keep h0 h [] ∧ h0.size ≤ uc ∧ n0 ≤ uc ∧ Arv Z h uc kc .char (5 : Int32) [(.int (47 : Int32)), (.int c1_), (.int c2_), (.int c3_), (.int c4_)] (.int (0 : Int32))
theorem ef_chs_5 (m : MethodId) (c1_ : Int32) (c2_ : Int32) (c3_ : Int32) (c4_ : Int32) : entryFrame m #[(.int (5 : Int32)), (.int c1_), (.int c2_), (.int c3_), (.int c4_)] 5 = mkF m 0 #[.val (.int (5 : Int32)), .val (.int c1_), .val (.int c2_), .val (.int c3_), .val (.int c4_)] [] := by first | (simp [entryFrame, mkF, argsToLocals, Value.category]; done) | rfl
theorem d_3_80 : decode method_3_code 80 = .ok (.iconst 5, 1) := by decide +kernel
theorem d_3_81 : decode method_3_code 81 = .ok (.newarray .char, 2) := by decide +kernel
theorem d_3_83 : decode method_3_code 83 = .ok (.dup, 1) := by decide +kernel
theorem d_3_84 : decode method_3_code 84 = .ok (.iconst 0, 1) := by decide +kernel
theorem d_3_85 : decode method_3_code 85 = .ok (.bipush 47, 2) := by decide +kernel
theorem d_3_87 : decode method_3_code 87 = .ok (.castore, 1) := by decide +kernel
theorem d_3_88 : decode method_3_code 88 = .ok (.dup, 1) := by decide +kernel
theorem d_3_89 : decode method_3_code 89 = .ok (.iconst 1, 1) := by decide +kernel
theorem d_3_90 : decode method_3_code 90 = .ok (.iload_n 1, 1) := by decide +kernel
theorem d_3_91 : decode method_3_code 91 = .ok (.castore, 1) := by decide +kernel
theorem d_3_92 : decode method_3_code 92 = .ok (.dup, 1) := by decide +kernel
theorem d_3_93 : decode method_3_code 93 = .ok (.iconst 2, 1) := by decide +kernel
theorem d_3_94 : decode method_3_code 94 = .ok (.iload_n 2, 1) := by decide +kernel
theorem d_3_95 : decode method_3_code 95 = .ok (.castore, 1) := by decide +kernel
theorem d_3_96 : decode method_3_code 96 = .ok (.dup, 1) := by decide +kernel
theorem d_3_97 : decode method_3_code 97 = .ok (.iconst 3, 1) := by decide +kernel
theorem d_3_98 : decode method_3_code 98 = .ok (.iload_n 3, 1) := by decide +kernel
theorem d_3_99 : decode method_3_code 99 = .ok (.castore, 1) := by decide +kernel
theorem d_3_100 : decode method_3_code 100 = .ok (.dup, 1) := by decide +kernel
theorem d_3_101 : decode method_3_code 101 = .ok (.iconst 4, 1) := by decide +kernel
theorem d_3_102 : decode method_3_code 102 = .ok (.iload 4, 2) := by decide +kernel
theorem d_3_104 : decode method_3_code 104 = .ok (.castore, 1) := by decide +kernel
theorem d_3_105 : decode method_3_code 105 = .ok (.areturn, 1) := by decide +kernel
set_option maxRecDepth 65536 in
set_option maxHeartbeats 40000000 in
theorem rm_chs_5 (l : Launch) (Z : State) (a0 : Array Value) (hw : ∀ d ∈ tables_1, d.before a0 Z = true) (ws : List Jvm.Cond) (c1_ c2_ c3_ c4_ : Int32) (h0 : Heap) (n0 : Nat) (Z0 : n0 ≤ h0.size) (B1 : own_B c1_) (B2 : own_B c2_) (B3 : own_B c3_) (B4 : own_B c4_) :
    own_Met l Z (⟨"com/example/grantfold/grantfold/model/ConfigurationParentPinLaw", "chars", "(ICCCC)[C"⟩ : MethodName) method_3_code 5 (some (.array .char)) ws ({ frames := 0, cells := 1, slots := 5, locals := 0 } : Room) #[(.int (5 : Int32)), (.int c1_), (.int c2_), (.int c3_), (.int c4_)] h0 (Q_chs_5 Z c1_ c2_ c3_ c4_ h0 n0) := by
  refine own_enter (own := "com/example/grantfold/grantfold/model/ConfigurationParentPinLaw") (plainFor_of_name pn_0) rfl ?_
  intro p e s m below meth c s₁ hlk hret hx hby hml hown hnm hZ X0 e0
  have N0 := Fr.nil n0
  refine own_cast (ef_chs_5 m c1_ c2_ c3_ c4_) ?_
  show own_Go _ _ _ _ (s₁.setTop (mkF m 0 #[.val (.int (5 : Int32)), .val (.int c1_), .val (.int c2_), .val (.int c3_), .val (.int c4_)] []))
  refine own_go (fun t k => XS.iloadN X0.here hx rfl (hb hby d_3_0) rfl k) ?_
  refine own_go (fun t k => XS.iconst X0.here hx rfl (hb hby d_3_1) k) ?_
  show own_Go _ _ _ _ (s₁.setTop (mkF m 2 #[.val (.int (5 : Int32)), .val (.int c1_), .val (.int c2_), .val (.int c3_), .val (.int c4_)] [(.int (1 : Int32)), (.int (5 : Int32))]))
  refine own_go (fun t k => XS.icmpYes X0.here hx rfl (pc0 := 2) (pc' := 14) rfl (hb hby d_3_2) rfl (feq (by decide : ¬ ((5 : Int32) = (1 : Int32)))).2 (by decide) (by decide) k) ?_
  refine own_go (fun t k => XS.iloadN X0.here hx rfl (hb hby d_3_14) rfl k) ?_
  refine own_go (fun t k => XS.iconst X0.here hx rfl (hb hby d_3_15) k) ?_
  show own_Go _ _ _ _ (s₁.setTop (mkF m 16 #[.val (.int (5 : Int32)), .val (.int c1_), .val (.int c2_), .val (.int c3_), .val (.int c4_)] [(.int (2 : Int32)), (.int (5 : Int32))]))
  refine own_go (fun t k => XS.icmpYes X0.here hx rfl (pc0 := 16) (pc' := 32) rfl (hb hby d_3_16) rfl (feq (by decide : ¬ ((5 : Int32) = (2 : Int32)))).2 (by decide) (by decide) k) ?_
  refine own_go (fun t k => XS.iloadN X0.here hx rfl (hb hby d_3_32) rfl k) ?_
  refine own_go (fun t k => XS.iconst X0.here hx rfl (hb hby d_3_33) k) ?_
  show own_Go _ _ _ _ (s₁.setTop (mkF m 34 #[.val (.int (5 : Int32)), .val (.int c1_), .val (.int c2_), .val (.int c3_), .val (.int c4_)] [(.int (3 : Int32)), (.int (5 : Int32))]))
  refine own_go (fun t k => XS.icmpYes X0.here hx rfl (pc0 := 34) (pc' := 54) rfl (hb hby d_3_34) rfl (feq (by decide : ¬ ((5 : Int32) = (3 : Int32)))).2 (by decide) (by decide) k) ?_
  refine own_go (fun t k => XS.iloadN X0.here hx rfl (hb hby d_3_54) rfl k) ?_
  refine own_go (fun t k => XS.iconst X0.here hx rfl (hb hby d_3_55) k) ?_
  show own_Go _ _ _ _ (s₁.setTop (mkF m 56 #[.val (.int (5 : Int32)), .val (.int c1_), .val (.int c2_), .val (.int c3_), .val (.int c4_)] [(.int (4 : Int32)), (.int (5 : Int32))]))
  refine own_go (fun t k => XS.icmpYes X0.here hx rfl (pc0 := 56) (pc' := 80) rfl (hb hby d_3_56) rfl (feq (by decide : ¬ ((5 : Int32) = (4 : Int32)))).2 (by decide) (by decide) k) ?_
  refine own_go (fun t k => XS.iconst X0.here hx rfl (hb hby d_3_80) k) ?_
  show own_Go _ _ _ _ (s₁.setTop (mkF m 81 #[.val (.int (5 : Int32)), .val (.int c1_), .val (.int c2_), .val (.int c3_), .val (.int c4_)] [(.int (5 : Int32))]))
  obtain ⟨T126, h126, k126, X126, e126, E126, A126, st126⟩ := newP (aty := .char) X0 hx hZ (w_11 hw) e0 (n := (5 : Int32)) (rest := []) (g := (mkF m 81 #[.val (.int (5 : Int32)), .val (.int c1_), .val (.int c2_), .val (.int c3_), .val (.int c4_)] [(.int (5 : Int32))])) rfl (hb hby d_3_81) rfl (by decide) (cap := 5) (by decide) (by decide) (by decide) (by decide)
  obtain ⟨b126, g126⟩ : ∃ z, z = h0.size := ⟨_, rfl⟩
  rw [← g126] at A126 st126
  refine own_go st126 ?_
  have Z126 : n0 ≤ h126.size := (Nat.le_trans Z0 E126.1)
  have K126 : Keep h0 h126 [] := (Keep.refl h0 []).ext E126
  have lo126 : h0.size ≤ b126 := Nat.le_of_eq g126.symm
  have q126 : n0 ≤ b126 := Nat.le_trans Z0 lo126
  have hi126 : b126 < h126.size := A126.lt
  have V126 : Arv Z h126 b126 k126 .char (5 : Int32) [(.int (0 : Int32)), (.int (0 : Int32)), (.int (0 : Int32)), (.int (0 : Int32)), (.int (0 : Int32))] (.int (0 : Int32)) := (Arv.new A126 (by decide)).pad (pad_rep [] (.int (0 : Int32)) 5)
  refine own_go (fun t k => XS.dup X126.here hx rfl (hb hby d_3_83) rfl rfl k) ?_
  refine own_go (fun t k => XS.iconst X126.here hx rfl (hb hby d_3_84) k) ?_
  refine own_go (fun t k => XS.bipush X126.here hx rfl (hb hby d_3_85) k) ?_
  show own_Go _ _ _ _ (T126.setTop (mkF m 87 #[.val (.int (5 : Int32)), .val (.int c1_), .val (.int c2_), .val (.int c3_), .val (.int c4_)] [(.int (47 : Int32)), (.int (0 : Int32)), (.ref b126), (.ref b126)]))
  obtain ⟨cl127, Ar127, qk127, sz127, nn127, ha127, gf127⟩ := id V126
  have hin127 : ¬ ((0 : Int32) < 0 ∨ cl127.slots.size ≤ ((0 : Int32)).toNatClampNeg) := inb_of sz127 ⟨by decide, by decide⟩
  obtain ⟨T128, h128, X128, e128, W128, st128⟩ := stC X126 hx hZ e126 Ar127 (j := (0 : Int32)) hin127 (g := (mkF m 87 #[.val (.int (5 : Int32)), .val (.int c1_), .val (.int c2_), .val (.int c3_), .val (.int c4_)] [(.int (47 : Int32)), (.int (0 : Int32)), (.ref b126), (.ref b126)])) rfl rfl (hb hby d_3_87)
  refine own_go st128 ?_
  have V128 : Arv Z h128 b126 k126 .char (5 : Int32) [(.int (47 : Int32)), (.int (0 : Int32)), (.int (0 : Int32)), (.int (0 : Int32)), (.int (0 : Int32))] (.int (0 : Int32)) := Arv.set Ar127 qk127 sz127 nn127 ha127 gf127 rfl W128 0 rfl (Nat.le_of_ble_eq_true rfl)
  have Z128 : n0 ≤ h128.size := (Nat.le_trans Z126 (Nat.le_of_eq W128.size.symm))
  have N128 := Fr.snoc X128 N0 q126
  have K128 : Keep h0 h128 [] := K126.wr W128 (Or.inr lo126)
  refine own_go (fun t k => XS.dup X128.here hx rfl (hb hby d_3_88) rfl rfl k) ?_
  refine own_go (fun t k => XS.iconst X128.here hx rfl (hb hby d_3_89) k) ?_
  refine own_go (fun t k => XS.iloadN X128.here hx rfl (hb hby d_3_90) rfl k) ?_
  show own_Go _ _ _ _ (T128.setTop (mkF m 91 #[.val (.int (5 : Int32)), .val (.int c1_), .val (.int c2_), .val (.int c3_), .val (.int c4_)] [(.int c1_), (.int (1 : Int32)), (.ref b126), (.ref b126)]))
  obtain ⟨cl129, Ar129, qk129, sz129, nn129, ha129, gf129⟩ := id V128
  have hin129 : ¬ ((1 : Int32) < 0 ∨ cl129.slots.size ≤ ((1 : Int32)).toNatClampNeg) := inb_of sz129 ⟨by decide, by decide⟩
  obtain ⟨T130, h130, X130, e130, W130, st130⟩ := stC X128 hx hZ e128 Ar129 (j := (1 : Int32)) hin129 (g := (mkF m 91 #[.val (.int (5 : Int32)), .val (.int c1_), .val (.int c2_), .val (.int c3_), .val (.int c4_)] [(.int c1_), (.int (1 : Int32)), (.ref b126), (.ref b126)])) rfl rfl (hb hby d_3_91)
  refine own_go st130 ?_
  rw [(own_nc B1)] at W130
  have V130 : Arv Z h130 b126 k126 .char (5 : Int32) [(.int (47 : Int32)), (.int c1_), (.int (0 : Int32)), (.int (0 : Int32)), (.int (0 : Int32))] (.int (0 : Int32)) := Arv.set Ar129 qk129 sz129 nn129 ha129 gf129 (own_fc B1) W130 1 rfl (Nat.le_of_ble_eq_true rfl)
  have Z130 : n0 ≤ h130.size := (Nat.le_trans Z128 (Nat.le_of_eq W130.size.symm))
  have N130 := Fr.snoc X130 N128 q126
  have K130 : Keep h0 h130 [] := K128.wr W130 (Or.inr lo126)
  refine own_go (fun t k => XS.dup X130.here hx rfl (hb hby d_3_92) rfl rfl k) ?_
  refine own_go (fun t k => XS.iconst X130.here hx rfl (hb hby d_3_93) k) ?_
  refine own_go (fun t k => XS.iloadN X130.here hx rfl (hb hby d_3_94) rfl k) ?_
  show own_Go _ _ _ _ (T130.setTop (mkF m 95 #[.val (.int (5 : Int32)), .val (.int c1_), .val (.int c2_), .val (.int c3_), .val (.int c4_)] [(.int c2_), (.int (2 : Int32)), (.ref b126), (.ref b126)]))
  obtain ⟨cl131, Ar131, qk131, sz131, nn131, ha131, gf131⟩ := id V130
  have hin131 : ¬ ((2 : Int32) < 0 ∨ cl131.slots.size ≤ ((2 : Int32)).toNatClampNeg) := inb_of sz131 ⟨by decide, by decide⟩
  obtain ⟨T132, h132, X132, e132, W132, st132⟩ := stC X130 hx hZ e130 Ar131 (j := (2 : Int32)) hin131 (g := (mkF m 95 #[.val (.int (5 : Int32)), .val (.int c1_), .val (.int c2_), .val (.int c3_), .val (.int c4_)] [(.int c2_), (.int (2 : Int32)), (.ref b126), (.ref b126)])) rfl rfl (hb hby d_3_95)
  refine own_go st132 ?_
  rw [(own_nc B2)] at W132
  have V132 : Arv Z h132 b126 k126 .char (5 : Int32) [(.int (47 : Int32)), (.int c1_), (.int c2_), (.int (0 : Int32)), (.int (0 : Int32))] (.int (0 : Int32)) := Arv.set Ar131 qk131 sz131 nn131 ha131 gf131 (own_fc B2) W132 2 rfl (Nat.le_of_ble_eq_true rfl)
  have Z132 : n0 ≤ h132.size := (Nat.le_trans Z130 (Nat.le_of_eq W132.size.symm))
  have N132 := Fr.snoc X132 N130 q126
  have K132 : Keep h0 h132 [] := K130.wr W132 (Or.inr lo126)
  refine own_go (fun t k => XS.dup X132.here hx rfl (hb hby d_3_96) rfl rfl k) ?_
  refine own_go (fun t k => XS.iconst X132.here hx rfl (hb hby d_3_97) k) ?_
  refine own_go (fun t k => XS.iloadN X132.here hx rfl (hb hby d_3_98) rfl k) ?_
  show own_Go _ _ _ _ (T132.setTop (mkF m 99 #[.val (.int (5 : Int32)), .val (.int c1_), .val (.int c2_), .val (.int c3_), .val (.int c4_)] [(.int c3_), (.int (3 : Int32)), (.ref b126), (.ref b126)]))
  obtain ⟨cl133, Ar133, qk133, sz133, nn133, ha133, gf133⟩ := id V132
  have hin133 : ¬ ((3 : Int32) < 0 ∨ cl133.slots.size ≤ ((3 : Int32)).toNatClampNeg) := inb_of sz133 ⟨by decide, by decide⟩
  obtain ⟨T134, h134, X134, e134, W134, st134⟩ := stC X132 hx hZ e132 Ar133 (j := (3 : Int32)) hin133 (g := (mkF m 99 #[.val (.int (5 : Int32)), .val (.int c1_), .val (.int c2_), .val (.int c3_), .val (.int c4_)] [(.int c3_), (.int (3 : Int32)), (.ref b126), (.ref b126)])) rfl rfl (hb hby d_3_99)
  refine own_go st134 ?_
  rw [(own_nc B3)] at W134
  have V134 : Arv Z h134 b126 k126 .char (5 : Int32) [(.int (47 : Int32)), (.int c1_), (.int c2_), (.int c3_), (.int (0 : Int32))] (.int (0 : Int32)) := Arv.set Ar133 qk133 sz133 nn133 ha133 gf133 (own_fc B3) W134 3 rfl (Nat.le_of_ble_eq_true rfl)
  have Z134 : n0 ≤ h134.size := (Nat.le_trans Z132 (Nat.le_of_eq W134.size.symm))
  have N134 := Fr.snoc X134 N132 q126
  have K134 : Keep h0 h134 [] := K132.wr W134 (Or.inr lo126)
  refine own_go (fun t k => XS.dup X134.here hx rfl (hb hby d_3_100) rfl rfl k) ?_
  refine own_go (fun t k => XS.iconst X134.here hx rfl (hb hby d_3_101) k) ?_
  refine own_go (fun t k => XS.iload X134.here hx rfl (hb hby d_3_102) rfl k) ?_
  show own_Go _ _ _ _ (T134.setTop (mkF m 104 #[.val (.int (5 : Int32)), .val (.int c1_), .val (.int c2_), .val (.int c3_), .val (.int c4_)] [(.int c4_), (.int (4 : Int32)), (.ref b126), (.ref b126)]))
  obtain ⟨cl135, Ar135, qk135, sz135, nn135, ha135, gf135⟩ := id V134
  have hin135 : ¬ ((4 : Int32) < 0 ∨ cl135.slots.size ≤ ((4 : Int32)).toNatClampNeg) := inb_of sz135 ⟨by decide, by decide⟩
  obtain ⟨T136, h136, X136, e136, W136, st136⟩ := stC X134 hx hZ e134 Ar135 (j := (4 : Int32)) hin135 (g := (mkF m 104 #[.val (.int (5 : Int32)), .val (.int c1_), .val (.int c2_), .val (.int c3_), .val (.int c4_)] [(.int c4_), (.int (4 : Int32)), (.ref b126), (.ref b126)])) rfl rfl (hb hby d_3_104)
  refine own_go st136 ?_
  rw [(own_nc B4)] at W136
  have V136 : Arv Z h136 b126 k126 .char (5 : Int32) [(.int (47 : Int32)), (.int c1_), (.int c2_), (.int c3_), (.int c4_)] (.int (0 : Int32)) := Arv.set Ar135 qk135 sz135 nn135 ha135 gf135 (own_fc B4) W136 4 rfl (Nat.le_of_ble_eq_true rfl)
  have Z136 : n0 ≤ h136.size := (Nat.le_trans Z134 (Nat.le_of_eq W136.size.symm))
  have N136 := Fr.snoc X136 N134 q126
  have K136 : Keep h0 h136 [] := K134.wr W136 (Or.inr lo126)
  show own_Go _ _ _ _ (T136.setTop (mkF m 105 #[.val (.int (5 : Int32)), .val (.int c1_), .val (.int c2_), .val (.int c3_), .val (.int c4_)] [(.ref b126)]))
  refine own_ret X136 hx hlk hret rfl (Or.inr (Or.inr (Or.inr (Or.inr ⟨rfl, rfl, rfl⟩)))) (hb hby d_3_105) ?_ (by decide) (by decide)
  rw [e136]
  exact ⟨b126, k126, rfl, N136, K136, lo126, q126, V136⟩
def own_last2 (c1_ c2_ c3_ c4_ : Int32) : Int32 := if c1_ = 47 then 1 else 0
def own_last3 (c1_ c2_ c3_ c4_ : Int32) : Int32 := if c2_ = 47 then 2 else if c1_ = 47 then 1 else 0
def own_last4 (c1_ c2_ c3_ c4_ : Int32) : Int32 := if c3_ = 47 then 3 else if c2_ = 47 then 2 else if c1_ = 47 then 1 else 0
def own_last5 (c1_ c2_ c3_ c4_ : Int32) : Int32 := if c4_ = 47 then 4 else if c3_ = 47 then 3 else if c2_ = 47 then 2 else if c1_ = 47 then 1 else 0
def Q_ls_2 (Z : State) (c1_ : Int32) (c2_ : Int32) (c3_ : Int32) (c4_ : Int32) (h0 : Heap) (n0 : Nat) (v : Option Value) (h : Heap) (L : List Loc) : Prop := v = some (.int (own_last2 c1_ c2_ c3_ c4_)) ∧ Fr n0 L ∧ h = h0
theorem ef_ls_2 (m : MethodId) (c1_ : Int32) (c2_ : Int32) (c3_ : Int32) (c4_ : Int32) : entryFrame m #[(.int (2 : Int32)), (.int c1_), (.int c2_), (.int c3_), (.int c4_)] 5 = mkF m 0 #[.val (.int (2 : Int32)), .val (.int c1_), .val (.int c2_), .val (.int c3_), .val (.int c4_)] [] := by first | (simp [entryFrame, mkF, argsToLocals, Value.category]; done) | rfl
theorem d_4_0 : decode method_4_code 0 = .ok (.iload_n 0, 1) := by decide +kernel
theorem d_4_1 : decode method_4_code 1 = .ok (.iconst 5, 1) := by decide +kernel
theorem d_4_2 : decode method_4_code 2 = .ok (.if_icmp .lt 12, 3) := by decide +kernel
theorem d_4_14 : decode method_4_code 14 = .ok (.iload_n 0, 1) := by decide +kernel
theorem d_4_15 : decode method_4_code 15 = .ok (.iconst 4, 1) := by decide +kernel
theorem d_4_16 : decode method_4_code 16 = .ok (.if_icmp .lt 11, 3) := by decide +kernel
theorem d_4_27 : decode method_4_code 27 = .ok (.iload_n 0, 1) := by decide +kernel
theorem d_4_28 : decode method_4_code 28 = .ok (.iconst 3, 1) := by decide +kernel
theorem d_4_29 : decode method_4_code 29 = .ok (.if_icmp .lt 11, 3) := by decide +kernel
theorem d_4_40 : decode method_4_code 40 = .ok (.iload_n 0, 1) := by decide +kernel
theorem d_4_41 : decode method_4_code 41 = .ok (.iconst 2, 1) := by decide +kernel
theorem d_4_42 : decode method_4_code 42 = .ok (.if_icmp .lt 11, 3) := by decide +kernel
theorem d_4_45 : decode method_4_code 45 = .ok (.iload_n 1, 1) := by decide +kernel
theorem d_4_46 : decode method_4_code 46 = .ok (.bipush 47, 2) := by decide +kernel
theorem d_4_48 : decode method_4_code 48 = .ok (.if_icmp .ne 5, 3) := by decide +kernel
theorem d_4_51 : decode method_4_code 51 = .ok (.iconst 1, 1) := by decide +kernel
theorem d_4_52 : decode method_4_code 52 = .ok (.ireturn, 1) := by decide +kernel
theorem d_4_53 : decode method_4_code 53 = .ok (.iconst 0, 1) := by decide +kernel
theorem d_4_54 : decode method_4_code 54 = .ok (.ireturn, 1) := by decide +kernel
set_option maxRecDepth 65536 in
set_option maxHeartbeats 40000000 in
theorem rm_ls_2 (l : Launch) (Z : State) (a0 : Array Value) (hw : ∀ d ∈ tables_1, d.before a0 Z = true) (ws : List Jvm.Cond) (c1_ c2_ c3_ c4_ : Int32) (h0 : Heap) (n0 : Nat) (Z0 : n0 ≤ h0.size) :
    own_Met l Z (⟨"com/example/grantfold/grantfold/model/ConfigurationParentPinLaw", "lastSlash", "(ICCCC)I"⟩ : MethodName) method_4_code 5 (some .int) ws ({ frames := 0, cells := 0, slots := 0, locals := 0 } : Room) #[(.int (2 : Int32)), (.int c1_), (.int c2_), (.int c3_), (.int c4_)] h0 (Q_ls_2 Z c1_ c2_ c3_ c4_ h0 n0) := by
  refine own_enter (own := "com/example/grantfold/grantfold/model/ConfigurationParentPinLaw") (plainFor_of_name pn_0) rfl ?_
  intro p e s m below meth c s₁ hlk hret hx hby hml hown hnm hZ X0 e0
  have N0 := Fr.nil n0
  refine own_cast (ef_ls_2 m c1_ c2_ c3_ c4_) ?_
  show own_Go _ _ _ _ (s₁.setTop (mkF m 0 #[.val (.int (2 : Int32)), .val (.int c1_), .val (.int c2_), .val (.int c3_), .val (.int c4_)] []))
  refine own_go (fun t k => XS.iloadN X0.here hx rfl (hb hby d_4_0) rfl k) ?_
  refine own_go (fun t k => XS.iconst X0.here hx rfl (hb hby d_4_1) k) ?_
  show own_Go _ _ _ _ (s₁.setTop (mkF m 2 #[.val (.int (2 : Int32)), .val (.int c1_), .val (.int c2_), .val (.int c3_), .val (.int c4_)] [(.int (5 : Int32)), (.int (2 : Int32))]))
  refine own_go (fun t k => XS.icmpYes X0.here hx rfl (pc0 := 2) (pc' := 14) rfl (hb hby d_4_2) rfl (tlt (by decide : (2 : Int32) < (5 : Int32))).1 (by decide) (by decide) k) ?_
  refine own_go (fun t k => XS.iloadN X0.here hx rfl (hb hby d_4_14) rfl k) ?_
  refine own_go (fun t k => XS.iconst X0.here hx rfl (hb hby d_4_15) k) ?_
  show own_Go _ _ _ _ (s₁.setTop (mkF m 16 #[.val (.int (2 : Int32)), .val (.int c1_), .val (.int c2_), .val (.int c3_), .val (.int c4_)] [(.int (4 : Int32)), (.int (2 : Int32))]))
  refine own_go (fun t k => XS.icmpYes X0.here hx rfl (pc0 := 16) (pc' := 27) rfl (hb hby d_4_16) rfl (tlt (by decide : (2 : Int32) < (4 : Int32))).1 (by decide) (by decide) k) ?_
  refine own_go (fun t k => XS.iloadN X0.here hx rfl (hb hby d_4_27) rfl k) ?_
  refine own_go (fun t k => XS.iconst X0.here hx rfl (hb hby d_4_28) k) ?_
  show own_Go _ _ _ _ (s₁.setTop (mkF m 29 #[.val (.int (2 : Int32)), .val (.int c1_), .val (.int c2_), .val (.int c3_), .val (.int c4_)] [(.int (3 : Int32)), (.int (2 : Int32))]))
  refine own_go (fun t k => XS.icmpYes X0.here hx rfl (pc0 := 29) (pc' := 40) rfl (hb hby d_4_29) rfl (tlt (by decide : (2 : Int32) < (3 : Int32))).1 (by decide) (by decide) k) ?_
  refine own_go (fun t k => XS.iloadN X0.here hx rfl (hb hby d_4_40) rfl k) ?_
  refine own_go (fun t k => XS.iconst X0.here hx rfl (hb hby d_4_41) k) ?_
  show own_Go _ _ _ _ (s₁.setTop (mkF m 42 #[.val (.int (2 : Int32)), .val (.int c1_), .val (.int c2_), .val (.int c3_), .val (.int c4_)] [(.int (2 : Int32)), (.int (2 : Int32))]))
  refine own_go (fun t k => XS.icmpNo X0.here hx rfl (hb hby d_4_42) rfl (flt (by decide : ¬ ((2 : Int32) < (2 : Int32)))).1 k) ?_
  refine own_go (fun t k => XS.iloadN X0.here hx rfl (hb hby d_4_45) rfl k) ?_
  refine own_go (fun t k => XS.bipush X0.here hx rfl (hb hby d_4_46) k) ?_
  by_cases hc137 : c1_ = (47 : Int32)
  · show own_Go _ _ _ _ (s₁.setTop (mkF m 48 #[.val (.int (2 : Int32)), .val (.int c1_), .val (.int c2_), .val (.int c3_), .val (.int c4_)] [(.int (47 : Int32)), (.int c1_)]))
    refine own_go (fun t k => XS.icmpNo X0.here hx rfl (hb hby d_4_48) rfl (teq hc137).2 k) ?_
    refine own_go (fun t k => XS.iconst X0.here hx rfl (hb hby d_4_51) k) ?_
    show own_Go _ _ _ _ (s₁.setTop (mkF m 52 #[.val (.int (2 : Int32)), .val (.int c1_), .val (.int c2_), .val (.int c3_), .val (.int c4_)] [(.int (1 : Int32))]))
    refine own_ret X0 hx hlk hret rfl (Or.inl ⟨rfl, Or.inl rfl, _, rfl⟩) (hb hby d_4_52) ?_ (by decide) (by decide)
    rw [e0]
    exact ⟨by simp [own_last2, hc137], N0, rfl⟩
  · show own_Go _ _ _ _ (s₁.setTop (mkF m 48 #[.val (.int (2 : Int32)), .val (.int c1_), .val (.int c2_), .val (.int c3_), .val (.int c4_)] [(.int (47 : Int32)), (.int c1_)]))
    refine own_go (fun t k => XS.icmpYes X0.here hx rfl (pc0 := 48) (pc' := 53) rfl (hb hby d_4_48) rfl (feq hc137).2 (by decide) (by decide) k) ?_
    refine own_go (fun t k => XS.iconst X0.here hx rfl (hb hby d_4_53) k) ?_
    show own_Go _ _ _ _ (s₁.setTop (mkF m 54 #[.val (.int (2 : Int32)), .val (.int c1_), .val (.int c2_), .val (.int c3_), .val (.int c4_)] [(.int (0 : Int32))]))
    refine own_ret X0 hx hlk hret rfl (Or.inl ⟨rfl, Or.inl rfl, _, rfl⟩) (hb hby d_4_54) ?_ (by decide) (by decide)
    rw [e0]
    exact ⟨by simp [own_last2, hc137], N0, rfl⟩
def Q_ls_3 (Z : State) (c1_ : Int32) (c2_ : Int32) (c3_ : Int32) (c4_ : Int32) (h0 : Heap) (n0 : Nat) (v : Option Value) (h : Heap) (L : List Loc) : Prop := v = some (.int (own_last3 c1_ c2_ c3_ c4_)) ∧ Fr n0 L ∧ h = h0
theorem ef_ls_3 (m : MethodId) (c1_ : Int32) (c2_ : Int32) (c3_ : Int32) (c4_ : Int32) : entryFrame m #[(.int (3 : Int32)), (.int c1_), (.int c2_), (.int c3_), (.int c4_)] 5 = mkF m 0 #[.val (.int (3 : Int32)), .val (.int c1_), .val (.int c2_), .val (.int c3_), .val (.int c4_)] [] := by first | (simp [entryFrame, mkF, argsToLocals, Value.category]; done) | rfl
theorem d_4_32 : decode method_4_code 32 = .ok (.iload_n 2, 1) := by decide +kernel
theorem d_4_33 : decode method_4_code 33 = .ok (.bipush 47, 2) := by decide +kernel
theorem d_4_35 : decode method_4_code 35 = .ok (.if_icmp .ne 5, 3) := by decide +kernel
theorem d_4_38 : decode method_4_code 38 = .ok (.iconst 2, 1) := by decide +kernel
theorem d_4_39 : decode method_4_code 39 = .ok (.ireturn, 1) := by decide +kernel
set_option maxRecDepth 65536 in
set_option maxHeartbeats 40000000 in
theorem rm_ls_3 (l : Launch) (Z : State) (a0 : Array Value) (hw : ∀ d ∈ tables_1, d.before a0 Z = true) (ws : List Jvm.Cond) (c1_ c2_ c3_ c4_ : Int32) (h0 : Heap) (n0 : Nat) (Z0 : n0 ≤ h0.size) :
    own_Met l Z (⟨"com/example/grantfold/grantfold/model/ConfigurationParentPinLaw", "lastSlash", "(ICCCC)I"⟩ : MethodName) method_4_code 5 (some .int) ws ({ frames := 0, cells := 0, slots := 0, locals := 0 } : Room) #[(.int (3 : Int32)), (.int c1_), (.int c2_), (.int c3_), (.int c4_)] h0 (Q_ls_3 Z c1_ c2_ c3_ c4_ h0 n0) := by
  refine own_enter (own := "com/example/grantfold/grantfold/model/ConfigurationParentPinLaw") (plainFor_of_name pn_0) rfl ?_
  intro p e s m below meth c s₁ hlk hret hx hby hml hown hnm hZ X0 e0
  have N0 := Fr.nil n0
  refine own_cast (ef_ls_3 m c1_ c2_ c3_ c4_) ?_
  show own_Go _ _ _ _ (s₁.setTop (mkF m 0 #[.val (.int (3 : Int32)), .val (.int c1_), .val (.int c2_), .val (.int c3_), .val (.int c4_)] []))
  refine own_go (fun t k => XS.iloadN X0.here hx rfl (hb hby d_4_0) rfl k) ?_
  refine own_go (fun t k => XS.iconst X0.here hx rfl (hb hby d_4_1) k) ?_
  show own_Go _ _ _ _ (s₁.setTop (mkF m 2 #[.val (.int (3 : Int32)), .val (.int c1_), .val (.int c2_), .val (.int c3_), .val (.int c4_)] [(.int (5 : Int32)), (.int (3 : Int32))]))
  refine own_go (fun t k => XS.icmpYes X0.here hx rfl (pc0 := 2) (pc' := 14) rfl (hb hby d_4_2) rfl (tlt (by decide : (3 : Int32) < (5 : Int32))).1 (by decide) (by decide) k) ?_
  refine own_go (fun t k => XS.iloadN X0.here hx rfl (hb hby d_4_14) rfl k) ?_
  refine own_go (fun t k => XS.iconst X0.here hx rfl (hb hby d_4_15) k) ?_
  show own_Go _ _ _ _ (s₁.setTop (mkF m 16 #[.val (.int (3 : Int32)), .val (.int c1_), .val (.int c2_), .val (.int c3_), .val (.int c4_)] [(.int (4 : Int32)), (.int (3 : Int32))]))
  refine own_go (fun t k => XS.icmpYes X0.here hx rfl (pc0 := 16) (pc' := 27) rfl (hb hby d_4_16) rfl (tlt (by decide : (3 : Int32) < (4 : Int32))).1 (by decide) (by decide) k) ?_
  refine own_go (fun t k => XS.iloadN X0.here hx rfl (hb hby d_4_27) rfl k) ?_
  refine own_go (fun t k => XS.iconst X0.here hx rfl (hb hby d_4_28) k) ?_
  show own_Go _ _ _ _ (s₁.setTop (mkF m 29 #[.val (.int (3 : Int32)), .val (.int c1_), .val (.int c2_), .val (.int c3_), .val (.int c4_)] [(.int (3 : Int32)), (.int (3 : Int32))]))
  refine own_go (fun t k => XS.icmpNo X0.here hx rfl (hb hby d_4_29) rfl (flt (by decide : ¬ ((3 : Int32) < (3 : Int32)))).1 k) ?_
  refine own_go (fun t k => XS.iloadN X0.here hx rfl (hb hby d_4_32) rfl k) ?_
  refine own_go (fun t k => XS.bipush X0.here hx rfl (hb hby d_4_33) k) ?_
  by_cases hc138 : c2_ = (47 : Int32)
  · show own_Go _ _ _ _ (s₁.setTop (mkF m 35 #[.val (.int (3 : Int32)), .val (.int c1_), .val (.int c2_), .val (.int c3_), .val (.int c4_)] [(.int (47 : Int32)), (.int c2_)]))
    refine own_go (fun t k => XS.icmpNo X0.here hx rfl (hb hby d_4_35) rfl (teq hc138).2 k) ?_
    refine own_go (fun t k => XS.iconst X0.here hx rfl (hb hby d_4_38) k) ?_
    show own_Go _ _ _ _ (s₁.setTop (mkF m 39 #[.val (.int (3 : Int32)), .val (.int c1_), .val (.int c2_), .val (.int c3_), .val (.int c4_)] [(.int (2 : Int32))]))
    refine own_ret X0 hx hlk hret rfl (Or.inl ⟨rfl, Or.inl rfl, _, rfl⟩) (hb hby d_4_39) ?_ (by decide) (by decide)
    rw [e0]
    exact ⟨by simp [own_last3, hc138], N0, rfl⟩
  · show own_Go _ _ _ _ (s₁.setTop (mkF m 35 #[.val (.int (3 : Int32)), .val (.int c1_), .val (.int c2_), .val (.int c3_), .val (.int c4_)] [(.int (47 : Int32)), (.int c2_)]))
    refine own_go (fun t k => XS.icmpYes X0.here hx rfl (pc0 := 35) (pc' := 40) rfl (hb hby d_4_35) rfl (feq hc138).2 (by decide) (by decide) k) ?_
    refine own_go (fun t k => XS.iloadN X0.here hx rfl (hb hby d_4_40) rfl k) ?_
    refine own_go (fun t k => XS.iconst X0.here hx rfl (hb hby d_4_41) k) ?_
    show own_Go _ _ _ _ (s₁.setTop (mkF m 42 #[.val (.int (3 : Int32)), .val (.int c1_), .val (.int c2_), .val (.int c3_), .val (.int c4_)] [(.int (2 : Int32)), (.int (3 : Int32))]))
    refine own_go (fun t k => XS.icmpNo X0.here hx rfl (hb hby d_4_42) rfl (flt (by decide : ¬ ((3 : Int32) < (2 : Int32)))).1 k) ?_
    refine own_go (fun t k => XS.iloadN X0.here hx rfl (hb hby d_4_45) rfl k) ?_
    refine own_go (fun t k => XS.bipush X0.here hx rfl (hb hby d_4_46) k) ?_
    by_cases hc139 : c1_ = (47 : Int32)
    · show own_Go _ _ _ _ (s₁.setTop (mkF m 48 #[.val (.int (3 : Int32)), .val (.int c1_), .val (.int c2_), .val (.int c3_), .val (.int c4_)] [(.int (47 : Int32)), (.int c1_)]))
      refine own_go (fun t k => XS.icmpNo X0.here hx rfl (hb hby d_4_48) rfl (teq hc139).2 k) ?_
      refine own_go (fun t k => XS.iconst X0.here hx rfl (hb hby d_4_51) k) ?_
      show own_Go _ _ _ _ (s₁.setTop (mkF m 52 #[.val (.int (3 : Int32)), .val (.int c1_), .val (.int c2_), .val (.int c3_), .val (.int c4_)] [(.int (1 : Int32))]))
      refine own_ret X0 hx hlk hret rfl (Or.inl ⟨rfl, Or.inl rfl, _, rfl⟩) (hb hby d_4_52) ?_ (by decide) (by decide)
      rw [e0]
      exact ⟨by simp [own_last3, hc138, hc139], N0, rfl⟩
    · show own_Go _ _ _ _ (s₁.setTop (mkF m 48 #[.val (.int (3 : Int32)), .val (.int c1_), .val (.int c2_), .val (.int c3_), .val (.int c4_)] [(.int (47 : Int32)), (.int c1_)]))
      refine own_go (fun t k => XS.icmpYes X0.here hx rfl (pc0 := 48) (pc' := 53) rfl (hb hby d_4_48) rfl (feq hc139).2 (by decide) (by decide) k) ?_
      refine own_go (fun t k => XS.iconst X0.here hx rfl (hb hby d_4_53) k) ?_
      show own_Go _ _ _ _ (s₁.setTop (mkF m 54 #[.val (.int (3 : Int32)), .val (.int c1_), .val (.int c2_), .val (.int c3_), .val (.int c4_)] [(.int (0 : Int32))]))
      refine own_ret X0 hx hlk hret rfl (Or.inl ⟨rfl, Or.inl rfl, _, rfl⟩) (hb hby d_4_54) ?_ (by decide) (by decide)
      rw [e0]
      exact ⟨by simp [own_last3, hc138, hc139], N0, rfl⟩
def Q_ls_4 (Z : State) (c1_ : Int32) (c2_ : Int32) (c3_ : Int32) (c4_ : Int32) (h0 : Heap) (n0 : Nat) (v : Option Value) (h : Heap) (L : List Loc) : Prop := v = some (.int (own_last4 c1_ c2_ c3_ c4_)) ∧ Fr n0 L ∧ h = h0
theorem ef_ls_4 (m : MethodId) (c1_ : Int32) (c2_ : Int32) (c3_ : Int32) (c4_ : Int32) : entryFrame m #[(.int (4 : Int32)), (.int c1_), (.int c2_), (.int c3_), (.int c4_)] 5 = mkF m 0 #[.val (.int (4 : Int32)), .val (.int c1_), .val (.int c2_), .val (.int c3_), .val (.int c4_)] [] := by first | (simp [entryFrame, mkF, argsToLocals, Value.category]; done) | rfl
theorem d_4_19 : decode method_4_code 19 = .ok (.iload_n 3, 1) := by decide +kernel
theorem d_4_20 : decode method_4_code 20 = .ok (.bipush 47, 2) := by decide +kernel
theorem d_4_22 : decode method_4_code 22 = .ok (.if_icmp .ne 5, 3) := by decide +kernel
theorem d_4_25 : decode method_4_code 25 = .ok (.iconst 3, 1) := by decide +kernel
theorem d_4_26 : decode method_4_code 26 = .ok (.ireturn, 1) := by decide +kernel
set_option maxRecDepth 65536 in
set_option maxHeartbeats 40000000 in
theorem rm_ls_4 (l : Launch) (Z : State) (a0 : Array Value) (hw : ∀ d ∈ tables_1, d.before a0 Z = true) (ws : List Jvm.Cond) (c1_ c2_ c3_ c4_ : Int32) (h0 : Heap) (n0 : Nat) (Z0 : n0 ≤ h0.size) :
    own_Met l Z (⟨"com/example/grantfold/grantfold/model/ConfigurationParentPinLaw", "lastSlash", "(ICCCC)I"⟩ : MethodName) method_4_code 5 (some .int) ws ({ frames := 0, cells := 0, slots := 0, locals := 0 } : Room) #[(.int (4 : Int32)), (.int c1_), (.int c2_), (.int c3_), (.int c4_)] h0 (Q_ls_4 Z c1_ c2_ c3_ c4_ h0 n0) := by
  refine own_enter (own := "com/example/grantfold/grantfold/model/ConfigurationParentPinLaw") (plainFor_of_name pn_0) rfl ?_
  intro p e s m below meth c s₁ hlk hret hx hby hml hown hnm hZ X0 e0
  have N0 := Fr.nil n0
  refine own_cast (ef_ls_4 m c1_ c2_ c3_ c4_) ?_
  show own_Go _ _ _ _ (s₁.setTop (mkF m 0 #[.val (.int (4 : Int32)), .val (.int c1_), .val (.int c2_), .val (.int c3_), .val (.int c4_)] []))
  refine own_go (fun t k => XS.iloadN X0.here hx rfl (hb hby d_4_0) rfl k) ?_
  refine own_go (fun t k => XS.iconst X0.here hx rfl (hb hby d_4_1) k) ?_
  show own_Go _ _ _ _ (s₁.setTop (mkF m 2 #[.val (.int (4 : Int32)), .val (.int c1_), .val (.int c2_), .val (.int c3_), .val (.int c4_)] [(.int (5 : Int32)), (.int (4 : Int32))]))
  refine own_go (fun t k => XS.icmpYes X0.here hx rfl (pc0 := 2) (pc' := 14) rfl (hb hby d_4_2) rfl (tlt (by decide : (4 : Int32) < (5 : Int32))).1 (by decide) (by decide) k) ?_
  refine own_go (fun t k => XS.iloadN X0.here hx rfl (hb hby d_4_14) rfl k) ?_
  refine own_go (fun t k => XS.iconst X0.here hx rfl (hb hby d_4_15) k) ?_
  show own_Go _ _ _ _ (s₁.setTop (mkF m 16 #[.val (.int (4 : Int32)), .val (.int c1_), .val (.int c2_), .val (.int c3_), .val (.int c4_)] [(.int (4 : Int32)), (.int (4 : Int32))]))
  refine own_go (fun t k => XS.icmpNo X0.here hx rfl (hb hby d_4_16) rfl (flt (by decide : ¬ ((4 : Int32) < (4 : Int32)))).1 k) ?_
  refine own_go (fun t k => XS.iloadN X0.here hx rfl (hb hby d_4_19) rfl k) ?_
  refine own_go (fun t k => XS.bipush X0.here hx rfl (hb hby d_4_20) k) ?_
  by_cases hc140 : c3_ = (47 : Int32)
  · show own_Go _ _ _ _ (s₁.setTop (mkF m 22 #[.val (.int (4 : Int32)), .val (.int c1_), .val (.int c2_), .val (.int c3_), .val (.int c4_)] [(.int (47 : Int32)), (.int c3_)]))
    refine own_go (fun t k => XS.icmpNo X0.here hx rfl (hb hby d_4_22) rfl (teq hc140).2 k) ?_
    refine own_go (fun t k => XS.iconst X0.here hx rfl (hb hby d_4_25) k) ?_
    show own_Go _ _ _ _ (s₁.setTop (mkF m 26 #[.val (.int (4 : Int32)), .val (.int c1_), .val (.int c2_), .val (.int c3_), .val (.int c4_)] [(.int (3 : Int32))]))
    refine own_ret X0 hx hlk hret rfl (Or.inl ⟨rfl, Or.inl rfl, _, rfl⟩) (hb hby d_4_26) ?_ (by decide) (by decide)
    rw [e0]
    exact ⟨by simp [own_last4, hc140], N0, rfl⟩
  · show own_Go _ _ _ _ (s₁.setTop (mkF m 22 #[.val (.int (4 : Int32)), .val (.int c1_), .val (.int c2_), .val (.int c3_), .val (.int c4_)] [(.int (47 : Int32)), (.int c3_)]))
    refine own_go (fun t k => XS.icmpYes X0.here hx rfl (pc0 := 22) (pc' := 27) rfl (hb hby d_4_22) rfl (feq hc140).2 (by decide) (by decide) k) ?_
    refine own_go (fun t k => XS.iloadN X0.here hx rfl (hb hby d_4_27) rfl k) ?_
    refine own_go (fun t k => XS.iconst X0.here hx rfl (hb hby d_4_28) k) ?_
    show own_Go _ _ _ _ (s₁.setTop (mkF m 29 #[.val (.int (4 : Int32)), .val (.int c1_), .val (.int c2_), .val (.int c3_), .val (.int c4_)] [(.int (3 : Int32)), (.int (4 : Int32))]))
    refine own_go (fun t k => XS.icmpNo X0.here hx rfl (hb hby d_4_29) rfl (flt (by decide : ¬ ((4 : Int32) < (3 : Int32)))).1 k) ?_
    refine own_go (fun t k => XS.iloadN X0.here hx rfl (hb hby d_4_32) rfl k) ?_
    refine own_go (fun t k => XS.bipush X0.here hx rfl (hb hby d_4_33) k) ?_
    by_cases hc141 : c2_ = (47 : Int32)
    · show own_Go _ _ _ _ (s₁.setTop (mkF m 35 #[.val (.int (4 : Int32)), .val (.int c1_), .val (.int c2_), .val (.int c3_), .val (.int c4_)] [(.int (47 : Int32)), (.int c2_)]))
      refine own_go (fun t k => XS.icmpNo X0.here hx rfl (hb hby d_4_35) rfl (teq hc141).2 k) ?_
      refine own_go (fun t k => XS.iconst X0.here hx rfl (hb hby d_4_38) k) ?_
      show own_Go _ _ _ _ (s₁.setTop (mkF m 39 #[.val (.int (4 : Int32)), .val (.int c1_), .val (.int c2_), .val (.int c3_), .val (.int c4_)] [(.int (2 : Int32))]))
      refine own_ret X0 hx hlk hret rfl (Or.inl ⟨rfl, Or.inl rfl, _, rfl⟩) (hb hby d_4_39) ?_ (by decide) (by decide)
      rw [e0]
      exact ⟨by simp [own_last4, hc140, hc141], N0, rfl⟩
    · show own_Go _ _ _ _ (s₁.setTop (mkF m 35 #[.val (.int (4 : Int32)), .val (.int c1_), .val (.int c2_), .val (.int c3_), .val (.int c4_)] [(.int (47 : Int32)), (.int c2_)]))
      refine own_go (fun t k => XS.icmpYes X0.here hx rfl (pc0 := 35) (pc' := 40) rfl (hb hby d_4_35) rfl (feq hc141).2 (by decide) (by decide) k) ?_
      refine own_go (fun t k => XS.iloadN X0.here hx rfl (hb hby d_4_40) rfl k) ?_
      refine own_go (fun t k => XS.iconst X0.here hx rfl (hb hby d_4_41) k) ?_
      show own_Go _ _ _ _ (s₁.setTop (mkF m 42 #[.val (.int (4 : Int32)), .val (.int c1_), .val (.int c2_), .val (.int c3_), .val (.int c4_)] [(.int (2 : Int32)), (.int (4 : Int32))]))
      refine own_go (fun t k => XS.icmpNo X0.here hx rfl (hb hby d_4_42) rfl (flt (by decide : ¬ ((4 : Int32) < (2 : Int32)))).1 k) ?_
      refine own_go (fun t k => XS.iloadN X0.here hx rfl (hb hby d_4_45) rfl k) ?_
      refine own_go (fun t k => XS.bipush X0.here hx rfl (hb hby d_4_46) k) ?_
      by_cases hc142 : c1_ = (47 : Int32)
      · show own_Go _ _ _ _ (s₁.setTop (mkF m 48 #[.val (.int (4 : Int32)), .val (.int c1_), .val (.int c2_), .val (.int c3_), .val (.int c4_)] [(.int (47 : Int32)), (.int c1_)]))
        refine own_go (fun t k => XS.icmpNo X0.here hx rfl (hb hby d_4_48) rfl (teq hc142).2 k) ?_
        refine own_go (fun t k => XS.iconst X0.here hx rfl (hb hby d_4_51) k) ?_
        show own_Go _ _ _ _ (s₁.setTop (mkF m 52 #[.val (.int (4 : Int32)), .val (.int c1_), .val (.int c2_), .val (.int c3_), .val (.int c4_)] [(.int (1 : Int32))]))
        refine own_ret X0 hx hlk hret rfl (Or.inl ⟨rfl, Or.inl rfl, _, rfl⟩) (hb hby d_4_52) ?_ (by decide) (by decide)
        rw [e0]
        exact ⟨by simp [own_last4, hc140, hc141, hc142], N0, rfl⟩
      · show own_Go _ _ _ _ (s₁.setTop (mkF m 48 #[.val (.int (4 : Int32)), .val (.int c1_), .val (.int c2_), .val (.int c3_), .val (.int c4_)] [(.int (47 : Int32)), (.int c1_)]))
        refine own_go (fun t k => XS.icmpYes X0.here hx rfl (pc0 := 48) (pc' := 53) rfl (hb hby d_4_48) rfl (feq hc142).2 (by decide) (by decide) k) ?_
        refine own_go (fun t k => XS.iconst X0.here hx rfl (hb hby d_4_53) k) ?_
        show own_Go _ _ _ _ (s₁.setTop (mkF m 54 #[.val (.int (4 : Int32)), .val (.int c1_), .val (.int c2_), .val (.int c3_), .val (.int c4_)] [(.int (0 : Int32))]))
        refine own_ret X0 hx hlk hret rfl (Or.inl ⟨rfl, Or.inl rfl, _, rfl⟩) (hb hby d_4_54) ?_ (by decide) (by decide)
        rw [e0]
        exact ⟨by simp [own_last4, hc140, hc141, hc142], N0, rfl⟩
def Q_ls_5 (Z : State) (c1_ : Int32) (c2_ : Int32) (c3_ : Int32) (c4_ : Int32) (h0 : Heap) (n0 : Nat) (v : Option Value) (h : Heap) (L : List Loc) : Prop := v = some (.int (own_last5 c1_ c2_ c3_ c4_)) ∧ Fr n0 L ∧ h = h0
theorem ef_ls_5 (m : MethodId) (c1_ : Int32) (c2_ : Int32) (c3_ : Int32) (c4_ : Int32) : entryFrame m #[(.int (5 : Int32)), (.int c1_), (.int c2_), (.int c3_), (.int c4_)] 5 = mkF m 0 #[.val (.int (5 : Int32)), .val (.int c1_), .val (.int c2_), .val (.int c3_), .val (.int c4_)] [] := by first | (simp [entryFrame, mkF, argsToLocals, Value.category]; done) | rfl
theorem d_4_5 : decode method_4_code 5 = .ok (.iload 4, 2) := by decide +kernel
theorem d_4_7 : decode method_4_code 7 = .ok (.bipush 47, 2) := by decide +kernel
theorem d_4_9 : decode method_4_code 9 = .ok (.if_icmp .ne 5, 3) := by decide +kernel
theorem d_4_12 : decode method_4_code 12 = .ok (.iconst 4, 1) := by decide +kernel
theorem d_4_13 : decode method_4_code 13 = .ok (.ireturn, 1) := by decide +kernel
set_option maxRecDepth 65536 in
set_option maxHeartbeats 40000000 in
theorem rm_ls_5 (l : Launch) (Z : State) (a0 : Array Value) (hw : ∀ d ∈ tables_1, d.before a0 Z = true) (ws : List Jvm.Cond) (c1_ c2_ c3_ c4_ : Int32) (h0 : Heap) (n0 : Nat) (Z0 : n0 ≤ h0.size) :
    own_Met l Z (⟨"com/example/grantfold/grantfold/model/ConfigurationParentPinLaw", "lastSlash", "(ICCCC)I"⟩ : MethodName) method_4_code 5 (some .int) ws ({ frames := 0, cells := 0, slots := 0, locals := 0 } : Room) #[(.int (5 : Int32)), (.int c1_), (.int c2_), (.int c3_), (.int c4_)] h0 (Q_ls_5 Z c1_ c2_ c3_ c4_ h0 n0) := by
  refine own_enter (own := "com/example/grantfold/grantfold/model/ConfigurationParentPinLaw") (plainFor_of_name pn_0) rfl ?_
  intro p e s m below meth c s₁ hlk hret hx hby hml hown hnm hZ X0 e0
  have N0 := Fr.nil n0
  refine own_cast (ef_ls_5 m c1_ c2_ c3_ c4_) ?_
  show own_Go _ _ _ _ (s₁.setTop (mkF m 0 #[.val (.int (5 : Int32)), .val (.int c1_), .val (.int c2_), .val (.int c3_), .val (.int c4_)] []))
  refine own_go (fun t k => XS.iloadN X0.here hx rfl (hb hby d_4_0) rfl k) ?_
  refine own_go (fun t k => XS.iconst X0.here hx rfl (hb hby d_4_1) k) ?_
  show own_Go _ _ _ _ (s₁.setTop (mkF m 2 #[.val (.int (5 : Int32)), .val (.int c1_), .val (.int c2_), .val (.int c3_), .val (.int c4_)] [(.int (5 : Int32)), (.int (5 : Int32))]))
  refine own_go (fun t k => XS.icmpNo X0.here hx rfl (hb hby d_4_2) rfl (flt (by decide : ¬ ((5 : Int32) < (5 : Int32)))).1 k) ?_
  refine own_go (fun t k => XS.iload X0.here hx rfl (hb hby d_4_5) rfl k) ?_
  refine own_go (fun t k => XS.bipush X0.here hx rfl (hb hby d_4_7) k) ?_
  by_cases hc143 : c4_ = (47 : Int32)
  · show own_Go _ _ _ _ (s₁.setTop (mkF m 9 #[.val (.int (5 : Int32)), .val (.int c1_), .val (.int c2_), .val (.int c3_), .val (.int c4_)] [(.int (47 : Int32)), (.int c4_)]))
    refine own_go (fun t k => XS.icmpNo X0.here hx rfl (hb hby d_4_9) rfl (teq hc143).2 k) ?_
    refine own_go (fun t k => XS.iconst X0.here hx rfl (hb hby d_4_12) k) ?_
    show own_Go _ _ _ _ (s₁.setTop (mkF m 13 #[.val (.int (5 : Int32)), .val (.int c1_), .val (.int c2_), .val (.int c3_), .val (.int c4_)] [(.int (4 : Int32))]))
    refine own_ret X0 hx hlk hret rfl (Or.inl ⟨rfl, Or.inl rfl, _, rfl⟩) (hb hby d_4_13) ?_ (by decide) (by decide)
    rw [e0]
    exact ⟨by simp [own_last5, hc143], N0, rfl⟩
  · show own_Go _ _ _ _ (s₁.setTop (mkF m 9 #[.val (.int (5 : Int32)), .val (.int c1_), .val (.int c2_), .val (.int c3_), .val (.int c4_)] [(.int (47 : Int32)), (.int c4_)]))
    refine own_go (fun t k => XS.icmpYes X0.here hx rfl (pc0 := 9) (pc' := 14) rfl (hb hby d_4_9) rfl (feq hc143).2 (by decide) (by decide) k) ?_
    refine own_go (fun t k => XS.iloadN X0.here hx rfl (hb hby d_4_14) rfl k) ?_
    refine own_go (fun t k => XS.iconst X0.here hx rfl (hb hby d_4_15) k) ?_
    show own_Go _ _ _ _ (s₁.setTop (mkF m 16 #[.val (.int (5 : Int32)), .val (.int c1_), .val (.int c2_), .val (.int c3_), .val (.int c4_)] [(.int (4 : Int32)), (.int (5 : Int32))]))
    refine own_go (fun t k => XS.icmpNo X0.here hx rfl (hb hby d_4_16) rfl (flt (by decide : ¬ ((5 : Int32) < (4 : Int32)))).1 k) ?_
    refine own_go (fun t k => XS.iloadN X0.here hx rfl (hb hby d_4_19) rfl k) ?_
    refine own_go (fun t k => XS.bipush X0.here hx rfl (hb hby d_4_20) k) ?_
    by_cases hc144 : c3_ = (47 : Int32)
    · show own_Go _ _ _ _ (s₁.setTop (mkF m 22 #[.val (.int (5 : Int32)), .val (.int c1_), .val (.int c2_), .val (.int c3_), .val (.int c4_)] [(.int (47 : Int32)), (.int c3_)]))
      refine own_go (fun t k => XS.icmpNo X0.here hx rfl (hb hby d_4_22) rfl (teq hc144).2 k) ?_
      refine own_go (fun t k => XS.iconst X0.here hx rfl (hb hby d_4_25) k) ?_
      show own_Go _ _ _ _ (s₁.setTop (mkF m 26 #[.val (.int (5 : Int32)), .val (.int c1_), .val (.int c2_), .val (.int c3_), .val (.int c4_)] [(.int (3 : Int32))]))
      refine own_ret X0 hx hlk hret rfl (Or.inl ⟨rfl, Or.inl rfl, _, rfl⟩) (hb hby d_4_26) ?_ (by decide) (by decide)
      rw [e0]
      exact ⟨by simp [own_last5, hc143, hc144], N0, rfl⟩
    · show own_Go _ _ _ _ (s₁.setTop (mkF m 22 #[.val (.int (5 : Int32)), .val (.int c1_), .val (.int c2_), .val (.int c3_), .val (.int c4_)] [(.int (47 : Int32)), (.int c3_)]))
      refine own_go (fun t k => XS.icmpYes X0.here hx rfl (pc0 := 22) (pc' := 27) rfl (hb hby d_4_22) rfl (feq hc144).2 (by decide) (by decide) k) ?_
      refine own_go (fun t k => XS.iloadN X0.here hx rfl (hb hby d_4_27) rfl k) ?_
      refine own_go (fun t k => XS.iconst X0.here hx rfl (hb hby d_4_28) k) ?_
      show own_Go _ _ _ _ (s₁.setTop (mkF m 29 #[.val (.int (5 : Int32)), .val (.int c1_), .val (.int c2_), .val (.int c3_), .val (.int c4_)] [(.int (3 : Int32)), (.int (5 : Int32))]))
      refine own_go (fun t k => XS.icmpNo X0.here hx rfl (hb hby d_4_29) rfl (flt (by decide : ¬ ((5 : Int32) < (3 : Int32)))).1 k) ?_
      refine own_go (fun t k => XS.iloadN X0.here hx rfl (hb hby d_4_32) rfl k) ?_
      refine own_go (fun t k => XS.bipush X0.here hx rfl (hb hby d_4_33) k) ?_
      by_cases hc145 : c2_ = (47 : Int32)
      · show own_Go _ _ _ _ (s₁.setTop (mkF m 35 #[.val (.int (5 : Int32)), .val (.int c1_), .val (.int c2_), .val (.int c3_), .val (.int c4_)] [(.int (47 : Int32)), (.int c2_)]))
        refine own_go (fun t k => XS.icmpNo X0.here hx rfl (hb hby d_4_35) rfl (teq hc145).2 k) ?_
        refine own_go (fun t k => XS.iconst X0.here hx rfl (hb hby d_4_38) k) ?_
        show own_Go _ _ _ _ (s₁.setTop (mkF m 39 #[.val (.int (5 : Int32)), .val (.int c1_), .val (.int c2_), .val (.int c3_), .val (.int c4_)] [(.int (2 : Int32))]))
        refine own_ret X0 hx hlk hret rfl (Or.inl ⟨rfl, Or.inl rfl, _, rfl⟩) (hb hby d_4_39) ?_ (by decide) (by decide)
        rw [e0]
        exact ⟨by simp [own_last5, hc143, hc144, hc145], N0, rfl⟩
      · show own_Go _ _ _ _ (s₁.setTop (mkF m 35 #[.val (.int (5 : Int32)), .val (.int c1_), .val (.int c2_), .val (.int c3_), .val (.int c4_)] [(.int (47 : Int32)), (.int c2_)]))
        refine own_go (fun t k => XS.icmpYes X0.here hx rfl (pc0 := 35) (pc' := 40) rfl (hb hby d_4_35) rfl (feq hc145).2 (by decide) (by decide) k) ?_
        refine own_go (fun t k => XS.iloadN X0.here hx rfl (hb hby d_4_40) rfl k) ?_
        refine own_go (fun t k => XS.iconst X0.here hx rfl (hb hby d_4_41) k) ?_
        show own_Go _ _ _ _ (s₁.setTop (mkF m 42 #[.val (.int (5 : Int32)), .val (.int c1_), .val (.int c2_), .val (.int c3_), .val (.int c4_)] [(.int (2 : Int32)), (.int (5 : Int32))]))
        refine own_go (fun t k => XS.icmpNo X0.here hx rfl (hb hby d_4_42) rfl (flt (by decide : ¬ ((5 : Int32) < (2 : Int32)))).1 k) ?_
        refine own_go (fun t k => XS.iloadN X0.here hx rfl (hb hby d_4_45) rfl k) ?_
        refine own_go (fun t k => XS.bipush X0.here hx rfl (hb hby d_4_46) k) ?_
        by_cases hc146 : c1_ = (47 : Int32)
        · show own_Go _ _ _ _ (s₁.setTop (mkF m 48 #[.val (.int (5 : Int32)), .val (.int c1_), .val (.int c2_), .val (.int c3_), .val (.int c4_)] [(.int (47 : Int32)), (.int c1_)]))
          refine own_go (fun t k => XS.icmpNo X0.here hx rfl (hb hby d_4_48) rfl (teq hc146).2 k) ?_
          refine own_go (fun t k => XS.iconst X0.here hx rfl (hb hby d_4_51) k) ?_
          show own_Go _ _ _ _ (s₁.setTop (mkF m 52 #[.val (.int (5 : Int32)), .val (.int c1_), .val (.int c2_), .val (.int c3_), .val (.int c4_)] [(.int (1 : Int32))]))
          refine own_ret X0 hx hlk hret rfl (Or.inl ⟨rfl, Or.inl rfl, _, rfl⟩) (hb hby d_4_52) ?_ (by decide) (by decide)
          rw [e0]
          exact ⟨by simp [own_last5, hc143, hc144, hc145, hc146], N0, rfl⟩
        · show own_Go _ _ _ _ (s₁.setTop (mkF m 48 #[.val (.int (5 : Int32)), .val (.int c1_), .val (.int c2_), .val (.int c3_), .val (.int c4_)] [(.int (47 : Int32)), (.int c1_)]))
          refine own_go (fun t k => XS.icmpYes X0.here hx rfl (pc0 := 48) (pc' := 53) rfl (hb hby d_4_48) rfl (feq hc146).2 (by decide) (by decide) k) ?_
          refine own_go (fun t k => XS.iconst X0.here hx rfl (hb hby d_4_53) k) ?_
          show own_Go _ _ _ _ (s₁.setTop (mkF m 54 #[.val (.int (5 : Int32)), .val (.int c1_), .val (.int c2_), .val (.int c3_), .val (.int c4_)] [(.int (0 : Int32))]))
          refine own_ret X0 hx hlk hret rfl (Or.inl ⟨rfl, Or.inl rfl, _, rfl⟩) (hb hby d_4_54) ?_ (by decide) (by decide)
          rw [e0]
          exact ⟨by simp [own_last5, hc143, hc144, hc145, hc146], N0, rfl⟩
def Q_enc (Z : State)  (h0 : Heap) (n0 : Nat) (v : Option Value) (h : Heap) (L : List Loc) : Prop := v = some (.int 1) ∧ Fr n0 L ∧ h = h0
theorem ef_enc (m : MethodId)  : entryFrame m #[(.int (47 : Int32))] 1 = mkF m 0 #[.val (.int (47 : Int32))] [] := by first | (simp [entryFrame, mkF, argsToLocals, Value.category]; done) | rfl
theorem pn_1 : plainName "java/lang/StringLatin1" = true := by first | (simp [plainName, overriddenIn]; done) | decide +kernel
theorem d_j43_4_0 : decode jdk_43_method_4_code 0 = .ok (.iload_n 0, 1) := by decide +kernel
theorem d_j43_4_1 : decode jdk_43_method_4_code 1 = .ok (.ifCond .lt 14, 3) := by decide +kernel
theorem d_j43_4_4 : decode jdk_43_method_4_code 4 = .ok (.iload_n 0, 1) := by decide +kernel
theorem d_j43_4_5 : decode jdk_43_method_4_code 5 = .ok (.sipush 255, 3) := by decide +kernel
theorem d_j43_4_8 : decode jdk_43_method_4_code 8 = .ok (.if_icmp .gt 7, 3) := by decide +kernel
theorem d_j43_4_11 : decode jdk_43_method_4_code 11 = .ok (.iconst 1, 1) := by decide +kernel
theorem d_j43_4_12 : decode jdk_43_method_4_code 12 = .ok (.goto 4, 3) := by decide +kernel
theorem d_j43_4_16 : decode jdk_43_method_4_code 16 = .ok (.ireturn, 1) := by decide +kernel
set_option maxRecDepth 65536 in
set_option maxHeartbeats 40000000 in
theorem rm_enc (l : Launch) (Z : State) (a0 : Array Value) (hw : ∀ d ∈ tables_1, d.before a0 Z = true) (ws : List Jvm.Cond)  (h0 : Heap) (n0 : Nat) (Z0 : n0 ≤ h0.size) :
    own_Met l Z (⟨"java/lang/StringLatin1", "canEncode", "(I)Z"⟩ : MethodName) jdk_43_method_4_code 1 (some .boolean) ws ({ frames := 0, cells := 0, slots := 0, locals := 0 } : Room) #[(.int (47 : Int32))] h0 (Q_enc Z  h0 n0) := by
  refine own_enter (own := "java/lang/StringLatin1") (plainFor_of_name pn_1) rfl ?_
  intro p e s m below meth c s₁ hlk hret hx hby hml hown hnm hZ X0 e0
  have N0 := Fr.nil n0
  refine own_cast (ef_enc m ) ?_
  show own_Go _ _ _ _ (s₁.setTop (mkF m 0 #[.val (.int (47 : Int32))] []))
  refine own_go (fun t k => XS.iloadN X0.here hx rfl (hb hby d_j43_4_0) rfl k) ?_
  show own_Go _ _ _ _ (s₁.setTop (mkF m 1 #[.val (.int (47 : Int32))] [(.int (47 : Int32))]))
  refine own_go (fun t k => XS.ifNo X0.here hx rfl (hb hby d_j43_4_1) rfl ((if0 _ _).trans (flt (by decide : ¬ ((47 : Int32) < (0 : Int32)))).1) k) ?_
  refine own_go (fun t k => XS.iloadN X0.here hx rfl (hb hby d_j43_4_4) rfl k) ?_
  refine own_go (fun t k => XS.sipush X0.here hx rfl (hb hby d_j43_4_5) k) ?_
  show own_Go _ _ _ _ (s₁.setTop (mkF m 8 #[.val (.int (47 : Int32))] [(.int (255 : Int32)), (.int (47 : Int32))]))
  refine own_go (fun t k => XS.icmpNo X0.here hx rfl (hb hby d_j43_4_8) rfl (flt (by decide : ¬ ((255 : Int32) < (47 : Int32)))).2.2.1 k) ?_
  refine own_go (fun t k => XS.iconst X0.here hx rfl (hb hby d_j43_4_11) k) ?_
  refine own_go (fun t k => XS.goto X0.here hx rfl (pc0 := 12) (pc' := 16) rfl (hb hby d_j43_4_12) (by decide) (by decide) k) ?_
  show own_Go _ _ _ _ (s₁.setTop (mkF m 16 #[.val (.int (47 : Int32))] [(.int (1 : Int32))]))
  refine own_retN X0 hx hlk (t := .boolean) hret (by simp) (hb hby d_j43_4_16) ?_ (by decide) (by decide)
  rw [e0]
  exact ⟨rfl, N0, rfl⟩
def Q_minA (Z : State) (av : Int32) (bv : Int32) (h0 : Heap) (n0 : Nat) (v : Option Value) (h : Heap) (L : List Loc) : Prop := v = some (.int av) ∧ Fr n0 L ∧ h = h0
theorem ef_minA (m : MethodId) (av : Int32) (bv : Int32) : entryFrame m #[(.int av), (.int bv)] 2 = mkF m 0 #[.val (.int av), .val (.int bv)] [] := by first | (simp [entryFrame, mkF, argsToLocals, Value.category]; done) | rfl
theorem d_j29_69_0 : decode jdk_29_method_69_code 0 = .ok (.iload_n 0, 1) := by decide +kernel
theorem d_j29_69_1 : decode jdk_29_method_69_code 1 = .ok (.iload_n 1, 1) := by decide +kernel
theorem d_j29_69_2 : decode jdk_29_method_69_code 2 = .ok (.if_icmp .gt 7, 3) := by decide +kernel
theorem d_j29_69_5 : decode jdk_29_method_69_code 5 = .ok (.iload_n 0, 1) := by decide +kernel
theorem d_j29_69_6 : decode jdk_29_method_69_code 6 = .ok (.goto 4, 3) := by decide +kernel
theorem d_j29_69_10 : decode jdk_29_method_69_code 10 = .ok (.ireturn, 1) := by decide +kernel
set_option maxRecDepth 65536 in
set_option maxHeartbeats 40000000 in
theorem rm_minA (l : Launch) (Z : State) (a0 : Array Value) (hw : ∀ d ∈ tables_1, d.before a0 Z = true) (ws : List Jvm.Cond) (av bv : Int32) (h0 : Heap) (n0 : Nat) (Z0 : n0 ≤ h0.size) (hm : ¬ bv < av) :
    own_Met l Z (⟨"java/lang/Math", "min", "(II)I"⟩ : MethodName) jdk_29_method_69_code 2 (some .int) ws ({ frames := 0, cells := 0, slots := 0, locals := 0 } : Room) #[(.int av), (.int bv)] h0 (Q_minA Z av bv h0 n0) := by
  refine own_enter (own := "java/lang/Math") (Jvm.Free.JP.mathPlain rfl (by decide +kernel)) rfl ?_
  intro p e s m below meth c s₁ hlk hret hx hby hml hown hnm hZ X0 e0
  have N0 := Fr.nil n0
  refine own_cast (ef_minA m av bv) ?_
  show own_Go _ _ _ _ (s₁.setTop (mkF m 0 #[.val (.int av), .val (.int bv)] []))
  refine own_go (fun t k => XS.iloadN X0.here hx rfl (hb hby d_j29_69_0) rfl k) ?_
  refine own_go (fun t k => XS.iloadN X0.here hx rfl (hb hby d_j29_69_1) rfl k) ?_
  show own_Go _ _ _ _ (s₁.setTop (mkF m 2 #[.val (.int av), .val (.int bv)] [(.int bv), (.int av)]))
  refine own_go (fun t k => XS.icmpNo X0.here hx rfl (hb hby d_j29_69_2) rfl (flt hm).2.2.1 k) ?_
  refine own_go (fun t k => XS.iloadN X0.here hx rfl (hb hby d_j29_69_5) rfl k) ?_
  refine own_go (fun t k => XS.goto X0.here hx rfl (pc0 := 6) (pc' := 10) rfl (hb hby d_j29_69_6) (by decide) (by decide) k) ?_
  show own_Go _ _ _ _ (s₁.setTop (mkF m 10 #[.val (.int av), .val (.int bv)] [(.int av)]))
  refine own_ret X0 hx hlk hret rfl (Or.inl ⟨rfl, Or.inl rfl, _, rfl⟩) (hb hby d_j29_69_10) ?_ (by decide) (by decide)
  rw [e0]
  exact ⟨rfl, N0, rfl⟩
def Q_minB (Z : State) (av : Int32) (bv : Int32) (h0 : Heap) (n0 : Nat) (v : Option Value) (h : Heap) (L : List Loc) : Prop := v = some (.int bv) ∧ Fr n0 L ∧ h = h0
theorem ef_minB (m : MethodId) (av : Int32) (bv : Int32) : entryFrame m #[(.int av), (.int bv)] 2 = mkF m 0 #[.val (.int av), .val (.int bv)] [] := by first | (simp [entryFrame, mkF, argsToLocals, Value.category]; done) | rfl
theorem d_j29_69_9 : decode jdk_29_method_69_code 9 = .ok (.iload_n 1, 1) := by decide +kernel
set_option maxRecDepth 65536 in
set_option maxHeartbeats 40000000 in
theorem rm_minB (l : Launch) (Z : State) (a0 : Array Value) (hw : ∀ d ∈ tables_1, d.before a0 Z = true) (ws : List Jvm.Cond) (av bv : Int32) (h0 : Heap) (n0 : Nat) (Z0 : n0 ≤ h0.size) (hm : bv < av) :
    own_Met l Z (⟨"java/lang/Math", "min", "(II)I"⟩ : MethodName) jdk_29_method_69_code 2 (some .int) ws ({ frames := 0, cells := 0, slots := 0, locals := 0 } : Room) #[(.int av), (.int bv)] h0 (Q_minB Z av bv h0 n0) := by
  refine own_enter (own := "java/lang/Math") (Jvm.Free.JP.mathPlain rfl (by decide +kernel)) rfl ?_
  intro p e s m below meth c s₁ hlk hret hx hby hml hown hnm hZ X0 e0
  have N0 := Fr.nil n0
  refine own_cast (ef_minB m av bv) ?_
  show own_Go _ _ _ _ (s₁.setTop (mkF m 0 #[.val (.int av), .val (.int bv)] []))
  refine own_go (fun t k => XS.iloadN X0.here hx rfl (hb hby d_j29_69_0) rfl k) ?_
  refine own_go (fun t k => XS.iloadN X0.here hx rfl (hb hby d_j29_69_1) rfl k) ?_
  show own_Go _ _ _ _ (s₁.setTop (mkF m 2 #[.val (.int av), .val (.int bv)] [(.int bv), (.int av)]))
  refine own_go (fun t k => XS.icmpYes X0.here hx rfl (pc0 := 2) (pc' := 9) rfl (hb hby d_j29_69_2) rfl (tlt hm).2.2.1 (by decide) (by decide) k) ?_
  refine own_go (fun t k => XS.iloadN X0.here hx rfl (hb hby d_j29_69_9) rfl k) ?_
  show own_Go _ _ _ _ (s₁.setTop (mkF m 10 #[.val (.int av), .val (.int bv)] [(.int bv)]))
  refine own_ret X0 hx hlk hret rfl (Or.inl ⟨rfl, Or.inl rfl, _, rfl⟩) (hb hby d_j29_69_10) ?_ (by decide) (by decide)
  rw [e0]
  exact ⟨rfl, N0, rfl⟩
def Q_il1 (Z : State) (us : Addr) (zv : Int32) (gv : Value) (h0 : Heap) (n0 : Nat) (v : Option Value) (h : Heap) (L : List Loc) : Prop := v = some (.int 1) ∧ Fr n0 L ∧ h = h0
theorem ef_il1 (m : MethodId) (us : Addr) : entryFrame m #[(.ref us)] 1 = mkF m 0 #[.val (.ref us)] [] := by first | (simp [entryFrame, mkF, argsToLocals, Value.category]; done) | rfl
theorem pn_2 : plainName "java/lang/String" = true := by first | (simp [plainName, overriddenIn]; done) | decide +kernel
theorem w_22 {Z : State} {a0 : Array Value} (hw : ∀ d ∈ tables_1, d.before a0 Z = true) : (Jvm.Cond.fieldLink "java/lang/String" (38 : Nat) "java/lang/String" "COMPACT_STRINGS" "Z").before a0 Z = true := hw _ (List.mem_of_getElem? (i := 22) rfl)
theorem d_j42_154_0 : decode jdk_42_method_154_code 0 = .ok (.getstatic 38, 3) := by decide +kernel
theorem d_j42_154_3 : decode jdk_42_method_154_code 3 = .ok (.ifCond .eq 14, 3) := by decide +kernel
theorem d_j42_154_6 : decode jdk_42_method_154_code 6 = .ok (.aload_n 0, 1) := by decide +kernel
theorem w_34 {Z : State} {a0 : Array Value} (hw : ∀ d ∈ tables_1, d.before a0 Z = true) : (Jvm.Cond.fieldLink "java/lang/String" (15 : Nat) "java/lang/String" "coder" "B").before a0 Z = true := hw _ (List.mem_of_getElem? (i := 34) rfl)
theorem d_j42_154_7 : decode jdk_42_method_154_code 7 = .ok (.getfield 15, 3) := by decide +kernel
theorem d_j42_154_10 : decode jdk_42_method_154_code 10 = .ok (.ifCond .ne 7, 3) := by decide +kernel
theorem d_j42_154_13 : decode jdk_42_method_154_code 13 = .ok (.iconst 1, 1) := by decide +kernel
theorem d_j42_154_14 : decode jdk_42_method_154_code 14 = .ok (.goto 4, 3) := by decide +kernel
theorem d_j42_154_18 : decode jdk_42_method_154_code 18 = .ok (.ireturn, 1) := by decide +kernel
set_option maxRecDepth 65536 in
set_option maxHeartbeats 40000000 in
theorem rm_il1 (l : Launch) (Z : State) (a0 : Array Value) (hw : ∀ d ∈ tables_1, d.before a0 Z = true) (ws : List Jvm.Cond) (us : Addr) (zv : Int32) (gv : Value) (h0 : Heap) (n0 : Nat) (Z0 : n0 ≤ h0.size) (O0 : Old Z n0 h0) (hzv : ¬ zv = (0 : Int32)) (S0 : Sta Z Z.heap "java/lang/String" "COMPACT_STRINGS" "Z" (.int zv)) (rgv : gv.isRef = true) (G0 : Sta Z Z.heap "jdk/internal/util/Preconditions" "SIOOBE_FORMATTER" "Ljava/util/function/BiFunction;" gv) (Cc0 : Fld Z h0 us "java/lang/String" "coder" "B" (.int (0 : Int32))) :
    own_Met l Z (⟨"java/lang/String", "isLatin1", "()Z"⟩ : MethodName) jdk_42_method_154_code 1 (some .boolean) ws ({ frames := 0, cells := 0, slots := 0, locals := 0 } : Room) #[(.ref us)] h0 (Q_il1 Z us zv gv h0 n0) := by
  refine own_enter (own := "java/lang/String") (plainFor_of_name pn_2) rfl ?_
  intro p e s m below meth c s₁ hlk hret hx hby hml hown hnm hZ X0 e0
  have N0 := Fr.nil n0
  refine own_cast (ef_il1 m us) ?_
  show own_Go _ _ _ _ (s₁.setTop (mkF m 0 #[.val (.ref us)] []))
  obtain ⟨T147, X147, e147, st147⟩ := getS2 X0 hx hZ hown (host := "") (Or.inl (w_22 hw)) Via.refl e0 (S0.ext O0.2) (g := (mkF m 0 #[.val (.ref us)] [])) rfl (hb hby d_j42_154_0)
  refine own_go st147 ?_
  show own_Go _ _ _ _ (T147.setTop (mkF m 3 #[.val (.ref us)] [(.int zv)]))
  refine own_go (fun t k => XS.ifNo X147.here hx rfl (hb hby d_j42_154_3) rfl ((if0 _ _).trans (feq hzv).1) k) ?_
  refine own_go (fun t k => XS.aloadN X147.here hx rfl (hb hby d_j42_154_6) rfl rfl k) ?_
  show own_Go _ _ _ _ (T147.setTop (mkF m 7 #[.val (.ref us)] [(.ref us)]))
  obtain ⟨T148, X148, e148, st148⟩ := getF X147 hx hZ hown (host := "") (Or.inl (w_34 hw)) Via.refl e147 Cc0 (g := (mkF m 7 #[.val (.ref us)] [(.ref us)])) rfl rfl (hb hby d_j42_154_7)
  refine own_go st148 ?_
  show own_Go _ _ _ _ (T148.setTop (mkF m 10 #[.val (.ref us)] [(.int (0 : Int32))]))
  refine own_go (fun t k => XS.ifNo X148.here hx rfl (hb hby d_j42_154_10) rfl ((if0 _ _).trans (teq (by decide : (0 : Int32) = (0 : Int32))).2) k) ?_
  refine own_go (fun t k => XS.iconst X148.here hx rfl (hb hby d_j42_154_13) k) ?_
  refine own_go (fun t k => XS.goto X148.here hx rfl (pc0 := 14) (pc' := 18) rfl (hb hby d_j42_154_14) (by decide) (by decide) k) ?_
  show own_Go _ _ _ _ (T148.setTop (mkF m 18 #[.val (.ref us)] [(.int (1 : Int32))]))
  refine own_retN X148 hx hlk (t := .boolean) hret (by simp) (hb hby d_j42_154_18) ?_ (by decide) (by decide)
  rw [e148]
  exact ⟨rfl, N0, rfl⟩
def Q_lx3_2 (Z : State) (ub : Addr) (kb : ClassId) (c1_ : Int32) (c2_ : Int32) (c3_ : Int32) (c4_ : Int32) (h0 : Heap) (n0 : Nat) (v : Option Value) (h : Heap) (L : List Loc) : Prop := v = some (.int (own_last2 c1_ c2_ c3_ c4_)) ∧ Fr n0 L ∧ h = h0
theorem ef_lx3_2 (m : MethodId) (ub : Addr) : entryFrame m #[(.ref ub), (.int (47 : Int32)), (.int (1 : Int32))] 4 = mkF m 0 #[.val (.ref ub), .val (.int (47 : Int32)), .val (.int (1 : Int32)), .unset] [] := by first | (simp [entryFrame, mkF, argsToLocals, Value.category]; done) | rfl
theorem d_j43_27_0 : decode jdk_43_method_27_code 0 = .ok (.iload_n 1, 1) := by decide +kernel
theorem w_83 {Z : State} {a0 : Array Value} (hw : ∀ d ∈ tables_1, d.before a0 Z = true) : (Jvm.Cond.methodLink "java/lang/StringLatin1" (88 : Nat) ({ cls := "java/lang/StringLatin1", name := "canEncode", desc := "(I)Z" } : Jvm.MethodName)).before a0 Z = true := hw _ (List.mem_of_getElem? (i := 83) rfl)
theorem w_85 {Z : State} {a0 : Array Value} (hw : ∀ d ∈ tables_1, d.before a0 Z = true) : (Jvm.Cond.code ({ cls := "java/lang/StringLatin1", name := "canEncode", desc := "(I)Z" } : Jvm.MethodName) jdk_43_method_4_code (1 : Nat) (Option.some Jvm.ClassFile.FieldType.boolean)).before a0 Z = true := hw _ (List.mem_of_getElem? (i := 85) rfl)
theorem w_53 {Z : State} {a0 : Array Value} (hw : ∀ d ∈ tables_1, d.before a0 Z = true) : (Jvm.Cond.initialized "java/lang/StringLatin1").before a0 Z = true := hw _ (List.mem_of_getElem? (i := 53) rfl)
theorem pd_0 : parseMethodDescriptor "(I)Z" = some ⟨[.int], some .boolean⟩ := by decide +kernel
theorem d_j43_27_1 : decode jdk_43_method_27_code 1 = .ok (.invokestatic 88, 3) := by decide +kernel
theorem w_84 {Z : State} {a0 : Array Value} (hw : ∀ d ∈ tables_1, d.before a0 Z = true) : (Jvm.Cond.static ({ cls := "java/lang/StringLatin1", name := "canEncode", desc := "(I)Z" } : Jvm.MethodName)).before a0 Z = true := hw _ (List.mem_of_getElem? (i := 84) rfl)
theorem d_j43_27_4 : decode jdk_43_method_27_code 4 = .ok (.ifCond .ne 5, 3) := by decide +kernel
theorem d_j43_27_9 : decode jdk_43_method_27_code 9 = .ok (.iload_n 2, 1) := by decide +kernel
theorem d_j43_27_10 : decode jdk_43_method_27_code 10 = .ok (.aload_n 0, 1) := by decide +kernel
theorem d_j43_27_11 : decode jdk_43_method_27_code 11 = .ok (.arraylength, 1) := by decide +kernel
theorem d_j43_27_12 : decode jdk_43_method_27_code 12 = .ok (.iconst 1, 1) := by decide +kernel
theorem d_j43_27_13 : decode jdk_43_method_27_code 13 = .ok (.isub, 1) := by decide +kernel
theorem w_86 {Z : State} {a0 : Array Value} (hw : ∀ d ∈ tables_1, d.before a0 Z = true) : (Jvm.Cond.methodLink "java/lang/StringLatin1" (38 : Nat) ({ cls := "java/lang/Math", name := "min", desc := "(II)I" } : Jvm.MethodName)).before a0 Z = true := hw _ (List.mem_of_getElem? (i := 86) rfl)
theorem w_89 {Z : State} {a0 : Array Value} (hw : ∀ d ∈ tables_1, d.before a0 Z = true) : (Jvm.Cond.code ({ cls := "java/lang/Math", name := "min", desc := "(II)I" } : Jvm.MethodName) jdk_29_method_69_code (2 : Nat) (Option.some Jvm.ClassFile.FieldType.int)).before a0 Z = true := hw _ (List.mem_of_getElem? (i := 89) rfl)
theorem w_88 {Z : State} {a0 : Array Value} (hw : ∀ d ∈ tables_1, d.before a0 Z = true) : (Jvm.Cond.initialized "java/lang/Math").before a0 Z = true := hw _ (List.mem_of_getElem? (i := 88) rfl)
theorem pd_1 : parseMethodDescriptor "(II)I" = some ⟨[.int, .int], some .int⟩ := by decide +kernel
theorem d_j43_27_14 : decode jdk_43_method_27_code 14 = .ok (.invokestatic 38, 3) := by decide +kernel
theorem w_87 {Z : State} {a0 : Array Value} (hw : ∀ d ∈ tables_1, d.before a0 Z = true) : (Jvm.Cond.static ({ cls := "java/lang/Math", name := "min", desc := "(II)I" } : Jvm.MethodName)).before a0 Z = true := hw _ (List.mem_of_getElem? (i := 87) rfl)
theorem d_j43_27_17 : decode jdk_43_method_27_code 17 = .ok (.istore_n 3, 1) := by decide +kernel
theorem d_j43_27_18 : decode jdk_43_method_27_code 18 = .ok (.iload_n 3, 1) := by decide +kernel
theorem d_j43_27_19 : decode jdk_43_method_27_code 19 = .ok (.ifCond .lt 19, 3) := by decide +kernel
theorem d_j43_27_22 : decode jdk_43_method_27_code 22 = .ok (.aload_n 0, 1) := by decide +kernel
theorem d_j43_27_23 : decode jdk_43_method_27_code 23 = .ok (.iload_n 3, 1) := by decide +kernel
theorem d_j43_27_24 : decode jdk_43_method_27_code 24 = .ok (.baload, 1) := by decide +kernel
theorem d_j43_27_25 : decode jdk_43_method_27_code 25 = .ok (.iload_n 1, 1) := by decide +kernel
theorem d_j43_27_26 : decode jdk_43_method_27_code 26 = .ok (.i2b, 1) := by decide +kernel
theorem d_j43_27_27 : decode jdk_43_method_27_code 27 = .ok (.if_icmp .ne 5, 3) := by decide +kernel
theorem d_j43_27_30 : decode jdk_43_method_27_code 30 = .ok (.iload_n 3, 1) := by decide +kernel
theorem d_j43_27_31 : decode jdk_43_method_27_code 31 = .ok (.ireturn, 1) := by decide +kernel
theorem d_j43_27_32 : decode jdk_43_method_27_code 32 = .ok (.iinc 3 (-1), 3) := by decide +kernel
theorem d_j43_27_35 : decode jdk_43_method_27_code 35 = .ok (.goto (-17), 3) := by decide +kernel
set_option maxRecDepth 65536 in
set_option maxHeartbeats 40000000 in
theorem rm_lx3_2 (l : Launch) (Z : State) (a0 : Array Value) (hw : ∀ d ∈ tables_1, d.before a0 Z = true) (ws : List Jvm.Cond) (ub : Addr) (kb : ClassId) (c1_ c2_ c3_ c4_ : Int32) (h0 : Heap) (n0 : Nat) (Z0 : n0 ≤ h0.size) (A0 : Arv Z h0 ub kb .byte (2 : Int32) [(.int (47 : Int32)), (.int (c1_.toInt8.toInt32))] (.int (0 : Int32))) (B1 : own_B c1_) (B2 : own_B c2_) (B3 : own_B c3_) (B4 : own_B c4_) :
    own_Met l Z (⟨"java/lang/StringLatin1", "lastIndexOf", "([BII)I"⟩ : MethodName) jdk_43_method_27_code 4 (some .int) ws ({ frames := 1, cells := 0, slots := 0, locals := 13 } : Room) #[(.ref ub), (.int (47 : Int32)), (.int (1 : Int32))] h0 (Q_lx3_2 Z ub kb c1_ c2_ c3_ c4_ h0 n0) := by
  refine own_enter (own := "java/lang/StringLatin1") (plainFor_of_name pn_1) rfl ?_
  intro p e s m below meth c s₁ hlk hret hx hby hml hown hnm hZ X0 e0
  have N0 := Fr.nil n0
  refine own_cast (ef_lx3_2 m ub) ?_
  show own_Go _ _ _ _ (s₁.setTop (mkF m 0 #[.val (.ref ub), .val (.int (47 : Int32)), .val (.int (1 : Int32)), .unset] []))
  refine own_go (fun t k => XS.iloadN X0.here hx rfl (hb hby d_j43_27_0) rfl k) ?_
  obtain ⟨_, _, ⟨T149, L149, k149, n149⟩, -, X149, ⟨Lc149, hQ149, l149, y149, z149⟩, st149⟩ := Jvm.LawKit.callS X0 hx (y := (⟨"java/lang/StringLatin1", "canEncode", "(I)Z"⟩ : MethodName)) hown (mvT hZ (w_83 hw)) (mvT hZ (w_84 hw)) (mvT hZ (w_53 hw)) (mvT hZ (w_85 hw)) (by decide) (backOf (W := 0) (rm_enc l Z a0 hw []  h0 n0 Z0 ) hZ (w_85 hw) (w_53 hw) (by decide) (by decide)) (g := (mkF m 1 #[.val (.ref ub), .val (.int (47 : Int32)), .val (.int (1 : Int32)), .unset] [(.int (47 : Int32))])) rfl (by rw [hml]; rfl) (argsL := [(.int (47 : Int32))]) (rest := []) (lenOf pd_0 rfl) rfl (by show 2 * 0 + _ ≤ _; exact Nat.le_of_eq rfl) (hb hby d_j43_27_1) (fun _ _ => ⟨rfl, e0, (by decide : 0 + 0 ≤ _), (by decide : 0 + 0 ≤ _)⟩)
  dsimp only [Pt.U, Pt.locs, Pt.cells, Pt.slots] at X149 l149 y149 z149 st149 hQ149
  subst l149 y149 z149
  obtain ⟨rfl, N149q, e149⟩ := hQ149
  have N149 := Fr.app N0 N149q
  refine own_go st149 ?_
  show own_Go _ _ _ _ (T149.setTop (mkF m 4 #[.val (.ref ub), .val (.int (47 : Int32)), .val (.int (1 : Int32)), .unset] [(.int (1 : Int32))]))
  refine own_go (fun t k => XS.ifYes X149.here hx rfl (pc0 := 4) (pc' := 9) rfl (hb hby d_j43_27_4) rfl ((if0 _ _).trans (feq (by decide : ¬ ((1 : Int32) = (0 : Int32)))).2) (by decide) (by decide) k) ?_
  refine own_go (fun t k => XS.iloadN X149.here hx rfl (hb hby d_j43_27_9) rfl k) ?_
  refine own_go (fun t k => XS.aloadN X149.here hx rfl (hb hby d_j43_27_10) rfl rfl k) ?_
  show own_Go _ _ _ _ (T149.setTop (mkF m 11 #[.val (.ref ub), .val (.int (47 : Int32)), .val (.int (1 : Int32)), .unset] [(.ref ub), (.int (1 : Int32))]))
  obtain ⟨cl150, Ar150, qk150, sz150, nn150, ha150, gf150⟩ := id A0
  refine own_go (X149.arraylength hx (by rw [e149]; exact Ar150.1) (State.isArrayOf_alike hZ.alike Ar150.2.1) (g := (mkF m 11 #[.val (.ref ub), .val (.int (47 : Int32)), .val (.int (1 : Int32)), .unset] [(.ref ub), (.int (1 : Int32))])) rfl rfl (hb hby d_j43_27_11)) ?_
  rw [len_of sz150 nn150]
  refine own_go (fun t k => XS.iconst X149.here hx rfl (hb hby d_j43_27_12) k) ?_
  refine own_go (fun t k => XS.isub X149.here hx rfl (hb hby d_j43_27_13) rfl k) ?_
  show own_Go _ _ _ _ (T149.setTop (mkF m 14 #[.val (.ref ub), .val (.int (47 : Int32)), .val (.int (1 : Int32)), .unset] [(.int (1 : Int32)), (.int (1 : Int32))]))
  obtain ⟨_, _, ⟨T151, L151, k151, n151⟩, -, X151, ⟨Lc151, hQ151, l151, y151, z151⟩, st151⟩ := Jvm.LawKit.callS X149 hx (y := (⟨"java/lang/Math", "min", "(II)I"⟩ : MethodName)) hown (mvT hZ (w_86 hw)) (mvT hZ (w_87 hw)) (mvT hZ (w_88 hw)) (mvT hZ (w_89 hw)) (by decide) (backOf (W := 0) (rm_minA l Z a0 hw [] (1 : Int32) (1 : Int32) h0 n0 Z0 (by decide)) hZ (w_89 hw) (w_88 hw) (by decide) (by decide)) (g := (mkF m 14 #[.val (.ref ub), .val (.int (47 : Int32)), .val (.int (1 : Int32)), .unset] [(.int (1 : Int32)), (.int (1 : Int32))])) rfl (by rw [hml]; rfl) (argsL := [(.int (1 : Int32)), (.int (1 : Int32))]) (rest := []) (lenOf pd_1 rfl) rfl (by show 2 * 0 + _ ≤ _; exact Nat.le_of_eq rfl) (hb hby d_j43_27_14) (fun _ _ => ⟨rfl, e149, (by decide : 0 + 0 ≤ _), (by decide : 0 + 0 ≤ _)⟩)
  dsimp only [Pt.U, Pt.locs, Pt.cells, Pt.slots] at X151 l151 y151 z151 st151 hQ151
  subst l151 y151 z151
  obtain ⟨rfl, N151q, e151⟩ := hQ151
  have N151 := Fr.app N149 N151q
  refine own_go st151 ?_
  refine own_go (fun t k => XS.istoreN X151.here hx rfl (hb hby d_j43_27_17) rfl (l' := #[.val (.ref ub), .val (.int (47 : Int32)), .val (.int (1 : Int32)), .val (.int (1 : Int32))]) rfl k) ?_
  refine own_go (fun t k => XS.iloadN X151.here hx rfl (hb hby d_j43_27_18) rfl k) ?_
  show own_Go _ _ _ _ (T151.setTop (mkF m 19 #[.val (.ref ub), .val (.int (47 : Int32)), .val (.int (1 : Int32)), .val (.int (1 : Int32))] [(.int (1 : Int32))]))
  refine own_go (fun t k => XS.ifNo X151.here hx rfl (hb hby d_j43_27_19) rfl ((if0 _ _).trans (flt (by decide : ¬ ((1 : Int32) < (0 : Int32)))).1) k) ?_
  refine own_go (fun t k => XS.aloadN X151.here hx rfl (hb hby d_j43_27_22) rfl rfl k) ?_
  refine own_go (fun t k => XS.iloadN X151.here hx rfl (hb hby d_j43_27_23) rfl k) ?_
  show own_Go _ _ _ _ (T151.setTop (mkF m 24 #[.val (.ref ub), .val (.int (47 : Int32)), .val (.int (1 : Int32)), .val (.int (1 : Int32))] [(.int (1 : Int32)), (.ref ub)]))
  obtain ⟨cl152, Ar152, qk152, sz152, nn152, ha152, gf152⟩ := id A0
  have hin152 : ¬ ((1 : Int32) < 0 ∨ cl152.slots.size ≤ ((1 : Int32)).toNatClampNeg) := inb_of sz152 ⟨by decide, by decide⟩
  have hat152 : cl152.slots[((1 : Int32)).toNatClampNeg]? = some (.int (c1_.toInt8.toInt32)) := ha152.at hin152 rfl
  refine own_go (X151.baloadBytes hx (j := (1 : Int32)) (v := (.int (c1_.toInt8.toInt32))) (by rw [e151]; exact Ar152.1) (State.isArrayOf_alike hZ.alike Ar152.2.1) Ar152.2.2 hin152 hat152 (g := (mkF m 24 #[.val (.ref ub), .val (.int (47 : Int32)), .val (.int (1 : Int32)), .val (.int (1 : Int32))] [(.int (1 : Int32)), (.ref ub)])) rfl rfl (hb hby d_j43_27_24)) ?_
  refine own_go (fun t k => XS.iloadN X151.here hx rfl (hb hby d_j43_27_25) rfl k) ?_
  refine own_go (fun t k => XS.i2b X151.here hx rfl (hb hby d_j43_27_26) rfl k) ?_
  by_cases s1 : c1_ = 47
  · show own_Go _ _ _ _ (T151.setTop (mkF m 27 #[.val (.ref ub), .val (.int (47 : Int32)), .val (.int (1 : Int32)), .val (.int (1 : Int32))] [(.int (47 : Int32)), (.int (c1_.toInt8.toInt32))]))
    refine own_go (fun t k => XS.icmpNo X151.here hx rfl (hb hby d_j43_27_27) rfl (teq ((own_b47 B1).mpr s1)).2 k) ?_
    refine own_go (fun t k => XS.iloadN X151.here hx rfl (hb hby d_j43_27_30) rfl k) ?_
    show own_Go _ _ _ _ (T151.setTop (mkF m 31 #[.val (.ref ub), .val (.int (47 : Int32)), .val (.int (1 : Int32)), .val (.int (1 : Int32))] [(.int (1 : Int32))]))
    refine own_ret X151 hx hlk hret rfl (Or.inl ⟨rfl, Or.inl rfl, _, rfl⟩) (hb hby d_j43_27_31) ?_ (by decide) (by decide)
    rw [e151]
    exact ⟨by simp [own_last2, s1], N151, rfl⟩
  · show own_Go _ _ _ _ (T151.setTop (mkF m 27 #[.val (.ref ub), .val (.int (47 : Int32)), .val (.int (1 : Int32)), .val (.int (1 : Int32))] [(.int (47 : Int32)), (.int (c1_.toInt8.toInt32))]))
    refine own_go (fun t k => XS.icmpYes X151.here hx rfl (pc0 := 27) (pc' := 32) rfl (hb hby d_j43_27_27) rfl (feq (fun q => s1 ((own_b47 B1).mp q))).2 (by decide) (by decide) k) ?_
    refine own_go (fun t k => XS.iinc X151.here hx rfl (hb hby d_j43_27_32) rfl (l' := #[.val (.ref ub), .val (.int (47 : Int32)), .val (.int (1 : Int32)), .val (.int ((1 : Int32) + (-1 : Int32)))]) rfl k) ?_
    refine own_go (fun t k => XS.goto X151.here hx rfl (pc0 := 35) (pc' := 18) rfl (hb hby d_j43_27_35) (by decide) (by decide) k) ?_
    refine own_go (fun t k => XS.iloadN X151.here hx rfl (hb hby d_j43_27_18) rfl k) ?_
    show own_Go _ _ _ _ (T151.setTop (mkF m 19 #[.val (.ref ub), .val (.int (47 : Int32)), .val (.int (1 : Int32)), .val (.int (0 : Int32))] [(.int (0 : Int32))]))
    refine own_go (fun t k => XS.ifNo X151.here hx rfl (hb hby d_j43_27_19) rfl ((if0 _ _).trans (flt (by decide : ¬ ((0 : Int32) < (0 : Int32)))).1) k) ?_
    refine own_go (fun t k => XS.aloadN X151.here hx rfl (hb hby d_j43_27_22) rfl rfl k) ?_
    refine own_go (fun t k => XS.iloadN X151.here hx rfl (hb hby d_j43_27_23) rfl k) ?_
    show own_Go _ _ _ _ (T151.setTop (mkF m 24 #[.val (.ref ub), .val (.int (47 : Int32)), .val (.int (1 : Int32)), .val (.int (0 : Int32))] [(.int (0 : Int32)), (.ref ub)]))
    obtain ⟨cl153, Ar153, qk153, sz153, nn153, ha153, gf153⟩ := id A0
    have hin153 : ¬ ((0 : Int32) < 0 ∨ cl153.slots.size ≤ ((0 : Int32)).toNatClampNeg) := inb_of sz153 ⟨by decide, by decide⟩
    have hat153 : cl153.slots[((0 : Int32)).toNatClampNeg]? = some (.int (47 : Int32)) := ha153.at hin153 rfl
    refine own_go (X151.baloadBytes hx (j := (0 : Int32)) (v := (.int (47 : Int32))) (by rw [e151]; exact Ar153.1) (State.isArrayOf_alike hZ.alike Ar153.2.1) Ar153.2.2 hin153 hat153 (g := (mkF m 24 #[.val (.ref ub), .val (.int (47 : Int32)), .val (.int (1 : Int32)), .val (.int (0 : Int32))] [(.int (0 : Int32)), (.ref ub)])) rfl rfl (hb hby d_j43_27_24)) ?_
    refine own_go (fun t k => XS.iloadN X151.here hx rfl (hb hby d_j43_27_25) rfl k) ?_
    refine own_go (fun t k => XS.i2b X151.here hx rfl (hb hby d_j43_27_26) rfl k) ?_
    show own_Go _ _ _ _ (T151.setTop (mkF m 27 #[.val (.ref ub), .val (.int (47 : Int32)), .val (.int (1 : Int32)), .val (.int (0 : Int32))] [(.int (47 : Int32)), (.int (47 : Int32))]))
    refine own_go (fun t k => XS.icmpNo X151.here hx rfl (hb hby d_j43_27_27) rfl (teq (by decide : (47 : Int32) = (47 : Int32))).2 k) ?_
    refine own_go (fun t k => XS.iloadN X151.here hx rfl (hb hby d_j43_27_30) rfl k) ?_
    show own_Go _ _ _ _ (T151.setTop (mkF m 31 #[.val (.ref ub), .val (.int (47 : Int32)), .val (.int (1 : Int32)), .val (.int (0 : Int32))] [(.int (0 : Int32))]))
    refine own_ret X151 hx hlk hret rfl (Or.inl ⟨rfl, Or.inl rfl, _, rfl⟩) (hb hby d_j43_27_31) ?_ (by decide) (by decide)
    rw [e151]
    exact ⟨by simp [own_last2, s1], N151, rfl⟩
def Q_lx2_2 (Z : State) (us : Addr) (ub : Addr) (kb : ClassId) (c1_ : Int32) (c2_ : Int32) (c3_ : Int32) (c4_ : Int32) (zv : Int32) (gv : Value) (h0 : Heap) (n0 : Nat) (v : Option Value) (h : Heap) (L : List Loc) : Prop := v = some (.int (own_last2 c1_ c2_ c3_ c4_)) ∧ Fr n0 L ∧ h = h0
theorem ef_lx2_2 (m : MethodId) (us : Addr) : entryFrame m #[(.ref us), (.int (47 : Int32)), (.int (1 : Int32))] 3 = mkF m 0 #[.val (.ref us), .val (.int (47 : Int32)), .val (.int (1 : Int32))] [] := by first | (simp [entryFrame, mkF, argsToLocals, Value.category]; done) | rfl
theorem d_j42_83_0 : decode jdk_42_method_83_code 0 = .ok (.aload_n 0, 1) := by decide +kernel
theorem w_75 {Z : State} {a0 : Array Value} (hw : ∀ d ∈ tables_1, d.before a0 Z = true) : (Jvm.Cond.methodLink "java/lang/String" (492 : Nat) ({ cls := "java/lang/String", name := "isLatin1", desc := "()Z" } : Jvm.MethodName)).before a0 Z = true := hw _ (List.mem_of_getElem? (i := 75) rfl)
theorem w_79 {Z : State} {a0 : Array Value} (hw : ∀ d ∈ tables_1, d.before a0 Z = true) : (Jvm.Cond.code ({ cls := "java/lang/String", name := "isLatin1", desc := "()Z" } : Jvm.MethodName) jdk_42_method_154_code (1 : Nat) (Option.some Jvm.ClassFile.FieldType.boolean)).before a0 Z = true := hw _ (List.mem_of_getElem? (i := 79) rfl)
theorem w_7 {Z : State} {a0 : Array Value} (hw : ∀ d ∈ tables_1, d.before a0 Z = true) : (Jvm.Cond.initialized "java/lang/String").before a0 Z = true := hw _ (List.mem_of_getElem? (i := 7) rfl)
theorem pd_2 : parseMethodDescriptor "()Z" = some ⟨[], some .boolean⟩ := by decide +kernel
theorem d_j42_83_1 : decode jdk_42_method_83_code 1 = .ok (.invokevirtual 492, 3) := by decide +kernel
theorem w_78 {Z : State} {a0 : Array Value} (hw : ∀ d ∈ tables_1, d.before a0 Z = true) : (Jvm.Cond.selects "java/lang/String" ({ cls := "java/lang/String", name := "isLatin1", desc := "()Z" } : Jvm.MethodName) ({ cls := "java/lang/String", name := "isLatin1", desc := "()Z" } : Jvm.MethodName)).before a0 Z = true := hw _ (List.mem_of_getElem? (i := 78) rfl)
theorem w_76 {Z : State} {a0 : Array Value} (hw : ∀ d ∈ tables_1, d.before a0 Z = true) : (Jvm.Cond.declares ({ cls := "java/lang/String", name := "isLatin1", desc := "()Z" } : Jvm.MethodName)).before a0 Z = true := hw _ (List.mem_of_getElem? (i := 76) rfl)
theorem w_77 {Z : State} {a0 : Array Value} (hw : ∀ d ∈ tables_1, d.before a0 Z = true) : (Jvm.Cond.instanceMethod ({ cls := "java/lang/String", name := "isLatin1", desc := "()Z" } : Jvm.MethodName)).before a0 Z = true := hw _ (List.mem_of_getElem? (i := 77) rfl)
theorem d_j42_83_4 : decode jdk_42_method_83_code 4 = .ok (.ifCond .eq 15, 3) := by decide +kernel
theorem d_j42_83_7 : decode jdk_42_method_83_code 7 = .ok (.aload_n 0, 1) := by decide +kernel
theorem w_36 {Z : State} {a0 : Array Value} (hw : ∀ d ∈ tables_1, d.before a0 Z = true) : (Jvm.Cond.fieldLink "java/lang/String" (9 : Nat) "java/lang/String" "value" "[B").before a0 Z = true := hw _ (List.mem_of_getElem? (i := 36) rfl)
theorem d_j42_83_8 : decode jdk_42_method_83_code 8 = .ok (.getfield 9, 3) := by decide +kernel
theorem d_j42_83_11 : decode jdk_42_method_83_code 11 = .ok (.iload_n 1, 1) := by decide +kernel
theorem d_j42_83_12 : decode jdk_42_method_83_code 12 = .ok (.iload_n 2, 1) := by decide +kernel
theorem w_80 {Z : State} {a0 : Array Value} (hw : ∀ d ∈ tables_1, d.before a0 Z = true) : (Jvm.Cond.methodLink "java/lang/String" (644 : Nat) ({ cls := "java/lang/StringLatin1", name := "lastIndexOf", desc := "([BII)I" } : Jvm.MethodName)).before a0 Z = true := hw _ (List.mem_of_getElem? (i := 80) rfl)
theorem w_82 {Z : State} {a0 : Array Value} (hw : ∀ d ∈ tables_1, d.before a0 Z = true) : (Jvm.Cond.code ({ cls := "java/lang/StringLatin1", name := "lastIndexOf", desc := "([BII)I" } : Jvm.MethodName) jdk_43_method_27_code (4 : Nat) (Option.some Jvm.ClassFile.FieldType.int)).before a0 Z = true := hw _ (List.mem_of_getElem? (i := 82) rfl)
theorem pd_3 : parseMethodDescriptor "([BII)I" = some ⟨[(.array .byte), .int, .int], some .int⟩ := by decide +kernel
theorem d_j42_83_13 : decode jdk_42_method_83_code 13 = .ok (.invokestatic 644, 3) := by decide +kernel
theorem w_81 {Z : State} {a0 : Array Value} (hw : ∀ d ∈ tables_1, d.before a0 Z = true) : (Jvm.Cond.static ({ cls := "java/lang/StringLatin1", name := "lastIndexOf", desc := "([BII)I" } : Jvm.MethodName)).before a0 Z = true := hw _ (List.mem_of_getElem? (i := 81) rfl)
theorem d_j42_83_16 : decode jdk_42_method_83_code 16 = .ok (.goto 12, 3) := by decide +kernel
theorem d_j42_83_28 : decode jdk_42_method_83_code 28 = .ok (.ireturn, 1) := by decide +kernel
set_option maxRecDepth 65536 in
set_option maxHeartbeats 40000000 in
theorem rm_lx2_2 (l : Launch) (Z : State) (a0 : Array Value) (hw : ∀ d ∈ tables_1, d.before a0 Z = true) (ws : List Jvm.Cond) (us ub : Addr) (kb : ClassId) (c1_ c2_ c3_ c4_ zv : Int32) (gv : Value) (h0 : Heap) (n0 : Nat) (Z0 : n0 ≤ h0.size) (E0 : Exa Z h0 us "java/lang/String") (Cc0 : Fld Z h0 us "java/lang/String" "coder" "B" (.int (0 : Int32))) (V0 : Fld Z h0 us "java/lang/String" "value" "[B" (.ref ub)) (A0 : Arv Z h0 ub kb .byte (2 : Int32) [(.int (47 : Int32)), (.int (c1_.toInt8.toInt32))] (.int (0 : Int32))) (B1 : own_B c1_) (B2 : own_B c2_) (B3 : own_B c3_) (B4 : own_B c4_) (O0 : Old Z n0 h0) (hzv : ¬ zv = (0 : Int32)) (S0 : Sta Z Z.heap "java/lang/String" "COMPACT_STRINGS" "Z" (.int zv)) (rgv : gv.isRef = true) (G0 : Sta Z Z.heap "jdk/internal/util/Preconditions" "SIOOBE_FORMATTER" "Ljava/util/function/BiFunction;" gv) :
    own_Met l Z (⟨"java/lang/String", "lastIndexOf", "(II)I"⟩ : MethodName) jdk_42_method_83_code 3 (some .int) ws ({ frames := 2, cells := 0, slots := 0, locals := 28 } : Room) #[(.ref us), (.int (47 : Int32)), (.int (1 : Int32))] h0 (Q_lx2_2 Z us ub kb c1_ c2_ c3_ c4_ zv gv h0 n0) := by
  refine own_enter (own := "java/lang/String") (plainFor_of_name pn_2) rfl ?_
  intro p e s m below meth c s₁ hlk hret hx hby hml hown hnm hZ X0 e0
  have N0 := Fr.nil n0
  refine own_cast (ef_lx2_2 m us) ?_
  show own_Go _ _ _ _ (s₁.setTop (mkF m 0 #[.val (.ref us), .val (.int (47 : Int32)), .val (.int (1 : Int32))] []))
  refine own_go (fun t k => XS.aloadN X0.here hx rfl (hb hby d_j42_83_0) rfl rfl k) ?_
  obtain ⟨cq154, kq154, q154a, q154b, q154c⟩ := isOf hZ e0 E0
  obtain ⟨_, _, ⟨T154, L154, k154, n154⟩, -, X154, ⟨Lc154, hQ154, l154, y154, z154⟩, st154⟩ := X0.virtualBack hx (y := (⟨"java/lang/String", "isLatin1", "()Z"⟩ : MethodName)) (z := (⟨"java/lang/String", "isLatin1", "()Z"⟩ : MethodName)) hown (mvT hZ (w_75 hw)) (mvT hZ (w_76 hw)) (notFace_of_selects (args := #[]) (mvT hZ (w_78 hw))) (mvT hZ (w_78 hw)) (mvT hZ (w_77 hw)) (by decide) (backOf (W := 0) (rm_il1 l Z a0 hw [] us zv gv h0 n0 Z0 O0 hzv S0 rgv G0 Cc0) hZ (w_79 hw) (w_7 hw) (by decide) (by decide)) q154a q154c (g := (mkF m 1 #[.val (.ref us), .val (.int (47 : Int32)), .val (.int (1 : Int32))] [(.ref us)])) rfl (by rw [hml]; rfl) (Steps.refl _) (argsL := []) (rest := []) (lenOf pd_2 rfl) rfl (by show 2 * 0 + _ ≤ _; exact Nat.le_of_eq rfl) (hb hby d_j42_83_1) (fun _ _ => ⟨rfl, e0, (by decide : 0 + 0 ≤ _), (by decide : 0 + 0 ≤ _)⟩)
  dsimp only [Pt.U, Pt.locs, Pt.cells, Pt.slots] at X154 l154 y154 z154 st154 hQ154
  subst l154 y154 z154
  obtain ⟨rfl, N154q, e154⟩ := hQ154
  have N154 := Fr.app N0 N154q
  refine own_go (fun t k => st154.trans k) ?_
  show own_Go _ _ _ _ (T154.setTop (mkF m 4 #[.val (.ref us), .val (.int (47 : Int32)), .val (.int (1 : Int32))] [(.int (1 : Int32))]))
  refine own_go (fun t k => XS.ifNo X154.here hx rfl (hb hby d_j42_83_4) rfl ((if0 _ _).trans (feq (by decide : ¬ ((1 : Int32) = (0 : Int32)))).1) k) ?_
  refine own_go (fun t k => XS.aloadN X154.here hx rfl (hb hby d_j42_83_7) rfl rfl k) ?_
  show own_Go _ _ _ _ (T154.setTop (mkF m 8 #[.val (.ref us), .val (.int (47 : Int32)), .val (.int (1 : Int32))] [(.ref us)]))
  obtain ⟨T155, X155, e155, st155⟩ := getF X154 hx hZ hown (host := "") (Or.inl (w_36 hw)) Via.refl e154 V0 (g := (mkF m 8 #[.val (.ref us), .val (.int (47 : Int32)), .val (.int (1 : Int32))] [(.ref us)])) rfl rfl (hb hby d_j42_83_8)
  refine own_go st155 ?_
  refine own_go (fun t k => XS.iloadN X155.here hx rfl (hb hby d_j42_83_11) rfl k) ?_
  refine own_go (fun t k => XS.iloadN X155.here hx rfl (hb hby d_j42_83_12) rfl k) ?_
  obtain ⟨_, _, ⟨T156, L156, k156, n156⟩, -, X156, ⟨Lc156, hQ156, l156, y156, z156⟩, st156⟩ := Jvm.LawKit.callS X155 hx (y := (⟨"java/lang/StringLatin1", "lastIndexOf", "([BII)I"⟩ : MethodName)) hown (mvT hZ (w_80 hw)) (mvT hZ (w_81 hw)) (mvT hZ (w_53 hw)) (mvT hZ (w_82 hw)) (by decide) (backOf (W := 0) (rm_lx3_2 l Z a0 hw [] ub kb c1_ c2_ c3_ c4_ h0 n0 Z0 A0 B1 B2 B3 B4) hZ (w_82 hw) (w_53 hw) (by decide) (by decide)) (g := (mkF m 13 #[.val (.ref us), .val (.int (47 : Int32)), .val (.int (1 : Int32))] [(.int (1 : Int32)), (.int (47 : Int32)), (.ref ub)])) rfl (by rw [hml]; rfl) (argsL := [(.ref ub), (.int (47 : Int32)), (.int (1 : Int32))]) (rest := []) (lenOf pd_3 rfl) rfl (by show 2 * 0 + _ ≤ _; exact Nat.le_of_eq rfl) (hb hby d_j42_83_13) (fun _ _ => ⟨rfl, e155, (by decide : 0 + 0 ≤ _), (by decide : 0 + 0 ≤ _)⟩)
  dsimp only [Pt.U, Pt.locs, Pt.cells, Pt.slots] at X156 l156 y156 z156 st156 hQ156
  subst l156 y156 z156
  obtain ⟨rfl, N156q, e156⟩ := hQ156
  have N156 := Fr.app N154 N156q
  refine own_go st156 ?_
  refine own_go (fun t k => XS.goto X156.here hx rfl (pc0 := 16) (pc' := 28) rfl (hb hby d_j42_83_16) (by decide) (by decide) k) ?_
  show own_Go _ _ _ _ (T156.setTop (mkF m 28 #[.val (.ref us), .val (.int (47 : Int32)), .val (.int (1 : Int32))] [(.int (own_last2 c1_ c2_ c3_ c4_))]))
  refine own_ret X156 hx hlk hret rfl (Or.inl ⟨rfl, Or.inl rfl, _, rfl⟩) (hb hby d_j42_83_28) ?_ (by decide) (by decide)
  rw [e156]
  exact ⟨rfl, N156, rfl⟩
def Q_lx1_2 (Z : State) (us : Addr) (ub : Addr) (kb : ClassId) (c1_ : Int32) (c2_ : Int32) (c3_ : Int32) (c4_ : Int32) (zv : Int32) (gv : Value) (h0 : Heap) (n0 : Nat) (v : Option Value) (h : Heap) (L : List Loc) : Prop := v = some (.int (own_last2 c1_ c2_ c3_ c4_)) ∧ Fr n0 L ∧ h = h0
theorem ef_lx1_2 (m : MethodId) (us : Addr) : entryFrame m #[(.ref us), (.int (47 : Int32))] 2 = mkF m 0 #[.val (.ref us), .val (.int (47 : Int32))] [] := by first | (simp [entryFrame, mkF, argsToLocals, Value.category]; done) | rfl
theorem d_j42_82_0 : decode jdk_42_method_82_code 0 = .ok (.aload_n 0, 1) := by decide +kernel
theorem d_j42_82_1 : decode jdk_42_method_82_code 1 = .ok (.iload_n 1, 1) := by decide +kernel
theorem d_j42_82_2 : decode jdk_42_method_82_code 2 = .ok (.aload_n 0, 1) := by decide +kernel
theorem w_60 {Z : State} {a0 : Array Value} (hw : ∀ d ∈ tables_1, d.before a0 Z = true) : (Jvm.Cond.methodLink "java/lang/String" (505 : Nat) ({ cls := "java/lang/String", name := "length", desc := "()I" } : Jvm.MethodName)).before a0 Z = true := hw _ (List.mem_of_getElem? (i := 60) rfl)
theorem w_6 {Z : State} {a0 : Array Value} (hw : ∀ d ∈ tables_1, d.before a0 Z = true) : (Jvm.Cond.instantiable "java/lang/String" (4 : Nat)).before a0 Z = true := hw _ (List.mem_of_getElem? (i := 6) rfl)
theorem w_64 {Z : State} {a0 : Array Value} (hw : ∀ d ∈ tables_1, d.before a0 Z = true) : (Jvm.Cond.code ({ cls := "java/lang/String", name := "length", desc := "()I" } : Jvm.MethodName) jdk_42_method_54_code (1 : Nat) (Option.some Jvm.ClassFile.FieldType.int)).before a0 Z = true := hw _ (List.mem_of_getElem? (i := 64) rfl)
theorem pd_4 : parseMethodDescriptor "()I" = some ⟨[], some .int⟩ := by decide +kernel
theorem d_j42_82_3 : decode jdk_42_method_82_code 3 = .ok (.invokevirtual 505, 3) := by decide +kernel
theorem w_63 {Z : State} {a0 : Array Value} (hw : ∀ d ∈ tables_1, d.before a0 Z = true) : (Jvm.Cond.selects "java/lang/String" ({ cls := "java/lang/String", name := "length", desc := "()I" } : Jvm.MethodName) ({ cls := "java/lang/String", name := "length", desc := "()I" } : Jvm.MethodName)).before a0 Z = true := hw _ (List.mem_of_getElem? (i := 63) rfl)
theorem w_61 {Z : State} {a0 : Array Value} (hw : ∀ d ∈ tables_1, d.before a0 Z = true) : (Jvm.Cond.declares ({ cls := "java/lang/String", name := "length", desc := "()I" } : Jvm.MethodName)).before a0 Z = true := hw _ (List.mem_of_getElem? (i := 61) rfl)
theorem w_62 {Z : State} {a0 : Array Value} (hw : ∀ d ∈ tables_1, d.before a0 Z = true) : (Jvm.Cond.instanceMethod ({ cls := "java/lang/String", name := "length", desc := "()I" } : Jvm.MethodName)).before a0 Z = true := hw _ (List.mem_of_getElem? (i := 62) rfl)
theorem d_j42_82_6 : decode jdk_42_method_82_code 6 = .ok (.iconst 1, 1) := by decide +kernel
theorem d_j42_82_7 : decode jdk_42_method_82_code 7 = .ok (.isub, 1) := by decide +kernel
theorem w_70 {Z : State} {a0 : Array Value} (hw : ∀ d ∈ tables_1, d.before a0 Z = true) : (Jvm.Cond.methodLink "java/lang/String" (641 : Nat) ({ cls := "java/lang/String", name := "lastIndexOf", desc := "(II)I" } : Jvm.MethodName)).before a0 Z = true := hw _ (List.mem_of_getElem? (i := 70) rfl)
theorem w_74 {Z : State} {a0 : Array Value} (hw : ∀ d ∈ tables_1, d.before a0 Z = true) : (Jvm.Cond.code ({ cls := "java/lang/String", name := "lastIndexOf", desc := "(II)I" } : Jvm.MethodName) jdk_42_method_83_code (3 : Nat) (Option.some Jvm.ClassFile.FieldType.int)).before a0 Z = true := hw _ (List.mem_of_getElem? (i := 74) rfl)
theorem d_j42_82_8 : decode jdk_42_method_82_code 8 = .ok (.invokevirtual 641, 3) := by decide +kernel
theorem w_73 {Z : State} {a0 : Array Value} (hw : ∀ d ∈ tables_1, d.before a0 Z = true) : (Jvm.Cond.selects "java/lang/String" ({ cls := "java/lang/String", name := "lastIndexOf", desc := "(II)I" } : Jvm.MethodName) ({ cls := "java/lang/String", name := "lastIndexOf", desc := "(II)I" } : Jvm.MethodName)).before a0 Z = true := hw _ (List.mem_of_getElem? (i := 73) rfl)
theorem w_71 {Z : State} {a0 : Array Value} (hw : ∀ d ∈ tables_1, d.before a0 Z = true) : (Jvm.Cond.declares ({ cls := "java/lang/String", name := "lastIndexOf", desc := "(II)I" } : Jvm.MethodName)).before a0 Z = true := hw _ (List.mem_of_getElem? (i := 71) rfl)
theorem w_72 {Z : State} {a0 : Array Value} (hw : ∀ d ∈ tables_1, d.before a0 Z = true) : (Jvm.Cond.instanceMethod ({ cls := "java/lang/String", name := "lastIndexOf", desc := "(II)I" } : Jvm.MethodName)).before a0 Z = true := hw _ (List.mem_of_getElem? (i := 72) rfl)
theorem d_j42_82_11 : decode jdk_42_method_82_code 11 = .ok (.ireturn, 1) := by decide +kernel
set_option maxRecDepth 65536 in
set_option maxHeartbeats 40000000 in
theorem rm_lx1_2 (l : Launch) (Z : State) (a0 : Array Value) (hw : ∀ d ∈ tables_1, d.before a0 Z = true) (ws : List Jvm.Cond) (us ub : Addr) (kb : ClassId) (c1_ c2_ c3_ c4_ zv : Int32) (gv : Value) (h0 : Heap) (n0 : Nat) (Z0 : n0 ≤ h0.size) (E0 : Exa Z h0 us "java/lang/String") (Cc0 : Fld Z h0 us "java/lang/String" "coder" "B" (.int (0 : Int32))) (V0 : Fld Z h0 us "java/lang/String" "value" "[B" (.ref ub)) (A0 : Arv Z h0 ub kb .byte (2 : Int32) [(.int (47 : Int32)), (.int (c1_.toInt8.toInt32))] (.int (0 : Int32))) (B1 : own_B c1_) (B2 : own_B c2_) (B3 : own_B c3_) (B4 : own_B c4_) (O0 : Old Z n0 h0) (hzv : ¬ zv = (0 : Int32)) (S0 : Sta Z Z.heap "java/lang/String" "COMPACT_STRINGS" "Z" (.int zv)) (rgv : gv.isRef = true) (G0 : Sta Z Z.heap "jdk/internal/util/Preconditions" "SIOOBE_FORMATTER" "Ljava/util/function/BiFunction;" gv) :
    own_Met l Z (⟨"java/lang/String", "lastIndexOf", "(I)I"⟩ : MethodName) jdk_42_method_82_code 2 (some .int) ws ({ frames := 3, cells := 0, slots := 0, locals := 42 } : Room) #[(.ref us), (.int (47 : Int32))] h0 (Q_lx1_2 Z us ub kb c1_ c2_ c3_ c4_ zv gv h0 n0) := by
  refine own_enter (own := "java/lang/String") (plainFor_of_name pn_2) rfl ?_
  intro p e s m below meth c s₁ hlk hret hx hby hml hown hnm hZ X0 e0
  have N0 := Fr.nil n0
  refine own_cast (ef_lx1_2 m us) ?_
  show own_Go _ _ _ _ (s₁.setTop (mkF m 0 #[.val (.ref us), .val (.int (47 : Int32))] []))
  refine own_go (fun t k => XS.aloadN X0.here hx rfl (hb hby d_j42_82_0) rfl rfl k) ?_
  refine own_go (fun t k => XS.iloadN X0.here hx rfl (hb hby d_j42_82_1) rfl k) ?_
  refine own_go (fun t k => XS.aloadN X0.here hx rfl (hb hby d_j42_82_2) rfl rfl k) ?_
  have hB157 : ∀ c ∈ ([(47 : Int32), c1_] : List Int32), own_B c := (List.forall_mem_cons.mpr ⟨(by constructor <;> decide : own_B (47 : Int32)), (List.forall_mem_cons.mpr ⟨B1, (List.forall_mem_nil _)⟩)⟩)
  have hD157 := StrChars.Road.codOf (cs := ([(47 : Int32), c1_] : List Int32)) (n := 2) rfl (fun x hx => (hB157 x hx).2)
  have hU157 := own_up _ hB157
  obtain ⟨cq158, kq158, q158a, q158b, q158c⟩ := isOf hZ e0 E0
  obtain ⟨_, _, ⟨T158, L158, k158, n158⟩, -, X158, ⟨Lc158, hQ158, l158, y158, z158⟩, st158⟩ := X0.virtualBack hx (y := (⟨"java/lang/String", "length", "()I"⟩ : MethodName)) (z := (⟨"java/lang/String", "length", "()I"⟩ : MethodName)) hown (mvT hZ (w_60 hw)) (mvT hZ (w_61 hw)) (notFace_of_selects (args := #[]) (mvT hZ (w_63 hw))) (mvT hZ (w_63 hw)) (mvT hZ (w_62 hw)) (by decide) (StrChars.Road.lenW (W := 2) hZ (own_wlen hw) (kI := 4) (w_6 hw) (cs := ([(47 : Int32), c1_] : List Int32)) E0 V0 Cc0 A0 hD157 hU157 (S0.ext O0.2) hzv (Nat.le_of_ble_eq_true rfl) (by decide) (by decide)) q158a q158c (g := (mkF m 3 #[.val (.ref us), .val (.int (47 : Int32))] [(.ref us), (.int (47 : Int32)), (.ref us)])) rfl (by rw [hml]; rfl) (Steps.refl _) (argsL := []) (rest := [(.int (47 : Int32)), (.ref us)]) (lenOf pd_4 rfl) rfl (by show 2 * 0 + _ ≤ _; exact Nat.le_of_eq rfl) (hb hby d_j42_82_3) (fun _ _ => ⟨rfl, e0, (by decide : 0 + 0 ≤ _), (by decide : 0 + 0 ≤ _)⟩)
  dsimp only [Pt.U, Pt.locs, Pt.cells, Pt.slots] at X158 l158 y158 z158 st158 hQ158
  subst l158 y158 z158
  obtain ⟨rfl, rfl, e158⟩ := hQ158
  have N158q : Fr n0 ([] : List Loc) := Fr.nil n0
  have N158 := Fr.app N0 N158q
  refine own_go (fun t k => st158.trans k) ?_
  show own_Go _ _ _ _ (T158.setTop (mkF m 6 #[.val (.ref us), .val (.int (47 : Int32))] [(.int (2 : Int32)), (.int (47 : Int32)), (.ref us)]))
  refine own_go (fun t k => XS.iconst X158.here hx rfl (hb hby d_j42_82_6) k) ?_
  refine own_go (fun t k => XS.isub X158.here hx rfl (hb hby d_j42_82_7) rfl k) ?_
  show own_Go _ _ _ _ (T158.setTop (mkF m 8 #[.val (.ref us), .val (.int (47 : Int32))] [(.int (1 : Int32)), (.int (47 : Int32)), (.ref us)]))
  obtain ⟨cq159, kq159, q159a, q159b, q159c⟩ := isOf hZ e158 E0
  obtain ⟨_, _, ⟨T159, L159, k159, n159⟩, -, X159, ⟨Lc159, hQ159, l159, y159, z159⟩, st159⟩ := X158.virtualBack hx (y := (⟨"java/lang/String", "lastIndexOf", "(II)I"⟩ : MethodName)) (z := (⟨"java/lang/String", "lastIndexOf", "(II)I"⟩ : MethodName)) hown (mvT hZ (w_70 hw)) (mvT hZ (w_71 hw)) (notFace_of_selects (args := #[]) (mvT hZ (w_73 hw))) (mvT hZ (w_73 hw)) (mvT hZ (w_72 hw)) (by decide) (backOf (W := 0) (rm_lx2_2 l Z a0 hw [] us ub kb c1_ c2_ c3_ c4_ zv gv h0 n0 Z0 E0 Cc0 V0 A0 B1 B2 B3 B4 O0 hzv S0 rgv G0) hZ (w_74 hw) (w_7 hw) (by decide) (by decide)) q159a q159c (g := (mkF m 8 #[.val (.ref us), .val (.int (47 : Int32))] [(.int (1 : Int32)), (.int (47 : Int32)), (.ref us)])) rfl (by rw [hml]; rfl) (Steps.refl _) (argsL := [(.int (47 : Int32)), (.int (1 : Int32))]) (rest := []) (lenOf pd_1 rfl) rfl (by show 2 * 0 + _ ≤ _; exact Nat.le_of_eq rfl) (hb hby d_j42_82_8) (fun _ _ => ⟨rfl, e158, (by decide : 0 + 0 ≤ _), (by decide : 0 + 0 ≤ _)⟩)
  dsimp only [Pt.U, Pt.locs, Pt.cells, Pt.slots] at X159 l159 y159 z159 st159 hQ159
  subst l159 y159 z159
  obtain ⟨rfl, N159q, e159⟩ := hQ159
  have N159 := Fr.app N158 N159q
  refine own_go (fun t k => st159.trans k) ?_
  show own_Go _ _ _ _ (T159.setTop (mkF m 11 #[.val (.ref us), .val (.int (47 : Int32))] [(.int (own_last2 c1_ c2_ c3_ c4_))]))
  refine own_ret X159 hx hlk hret rfl (Or.inl ⟨rfl, Or.inl rfl, _, rfl⟩) (hb hby d_j42_82_11) ?_ (by decide) (by decide)
  rw [e159]
  exact ⟨rfl, N159, rfl⟩
def Q_lx3_3 (Z : State) (ub : Addr) (kb : ClassId) (c1_ : Int32) (c2_ : Int32) (c3_ : Int32) (c4_ : Int32) (h0 : Heap) (n0 : Nat) (v : Option Value) (h : Heap) (L : List Loc) : Prop := v = some (.int (own_last3 c1_ c2_ c3_ c4_)) ∧ Fr n0 L ∧ h = h0
theorem ef_lx3_3 (m : MethodId) (ub : Addr) : entryFrame m #[(.ref ub), (.int (47 : Int32)), (.int (2 : Int32))] 4 = mkF m 0 #[.val (.ref ub), .val (.int (47 : Int32)), .val (.int (2 : Int32)), .unset] [] := by first | (simp [entryFrame, mkF, argsToLocals, Value.category]; done) | rfl
set_option maxRecDepth 65536 in
set_option maxHeartbeats 40000000 in
theorem rm_lx3_3 (l : Launch) (Z : State) (a0 : Array Value) (hw : ∀ d ∈ tables_1, d.before a0 Z = true) (ws : List Jvm.Cond) (ub : Addr) (kb : ClassId) (c1_ c2_ c3_ c4_ : Int32) (h0 : Heap) (n0 : Nat) (Z0 : n0 ≤ h0.size) (A0 : Arv Z h0 ub kb .byte (3 : Int32) [(.int (47 : Int32)), (.int (c1_.toInt8.toInt32)), (.int (c2_.toInt8.toInt32))] (.int (0 : Int32))) (B1 : own_B c1_) (B2 : own_B c2_) (B3 : own_B c3_) (B4 : own_B c4_) :
    own_Met l Z (⟨"java/lang/StringLatin1", "lastIndexOf", "([BII)I"⟩ : MethodName) jdk_43_method_27_code 4 (some .int) ws ({ frames := 1, cells := 0, slots := 0, locals := 13 } : Room) #[(.ref ub), (.int (47 : Int32)), (.int (2 : Int32))] h0 (Q_lx3_3 Z ub kb c1_ c2_ c3_ c4_ h0 n0) := by
  refine own_enter (own := "java/lang/StringLatin1") (plainFor_of_name pn_1) rfl ?_
  intro p e s m below meth c s₁ hlk hret hx hby hml hown hnm hZ X0 e0
  have N0 := Fr.nil n0
  refine own_cast (ef_lx3_3 m ub) ?_
  show own_Go _ _ _ _ (s₁.setTop (mkF m 0 #[.val (.ref ub), .val (.int (47 : Int32)), .val (.int (2 : Int32)), .unset] []))
  refine own_go (fun t k => XS.iloadN X0.here hx rfl (hb hby d_j43_27_0) rfl k) ?_
  obtain ⟨_, _, ⟨T160, L160, k160, n160⟩, -, X160, ⟨Lc160, hQ160, l160, y160, z160⟩, st160⟩ := Jvm.LawKit.callS X0 hx (y := (⟨"java/lang/StringLatin1", "canEncode", "(I)Z"⟩ : MethodName)) hown (mvT hZ (w_83 hw)) (mvT hZ (w_84 hw)) (mvT hZ (w_53 hw)) (mvT hZ (w_85 hw)) (by decide) (backOf (W := 0) (rm_enc l Z a0 hw []  h0 n0 Z0 ) hZ (w_85 hw) (w_53 hw) (by decide) (by decide)) (g := (mkF m 1 #[.val (.ref ub), .val (.int (47 : Int32)), .val (.int (2 : Int32)), .unset] [(.int (47 : Int32))])) rfl (by rw [hml]; rfl) (argsL := [(.int (47 : Int32))]) (rest := []) (lenOf pd_0 rfl) rfl (by show 2 * 0 + _ ≤ _; exact Nat.le_of_eq rfl) (hb hby d_j43_27_1) (fun _ _ => ⟨rfl, e0, (by decide : 0 + 0 ≤ _), (by decide : 0 + 0 ≤ _)⟩)
  dsimp only [Pt.U, Pt.locs, Pt.cells, Pt.slots] at X160 l160 y160 z160 st160 hQ160
  subst l160 y160 z160
  obtain ⟨rfl, N160q, e160⟩ := hQ160
  have N160 := Fr.app N0 N160q
  refine own_go st160 ?_
  show own_Go _ _ _ _ (T160.setTop (mkF m 4 #[.val (.ref ub), .val (.int (47 : Int32)), .val (.int (2 : Int32)), .unset] [(.int (1 : Int32))]))
  refine own_go (fun t k => XS.ifYes X160.here hx rfl (pc0 := 4) (pc' := 9) rfl (hb hby d_j43_27_4) rfl ((if0 _ _).trans (feq (by decide : ¬ ((1 : Int32) = (0 : Int32)))).2) (by decide) (by decide) k) ?_
  refine own_go (fun t k => XS.iloadN X160.here hx rfl (hb hby d_j43_27_9) rfl k) ?_
  refine own_go (fun t k => XS.aloadN X160.here hx rfl (hb hby d_j43_27_10) rfl rfl k) ?_
  show own_Go _ _ _ _ (T160.setTop (mkF m 11 #[.val (.ref ub), .val (.int (47 : Int32)), .val (.int (2 : Int32)), .unset] [(.ref ub), (.int (2 : Int32))]))
  obtain ⟨cl161, Ar161, qk161, sz161, nn161, ha161, gf161⟩ := id A0
  refine own_go (X160.arraylength hx (by rw [e160]; exact Ar161.1) (State.isArrayOf_alike hZ.alike Ar161.2.1) (g := (mkF m 11 #[.val (.ref ub), .val (.int (47 : Int32)), .val (.int (2 : Int32)), .unset] [(.ref ub), (.int (2 : Int32))])) rfl rfl (hb hby d_j43_27_11)) ?_
  rw [len_of sz161 nn161]
  refine own_go (fun t k => XS.iconst X160.here hx rfl (hb hby d_j43_27_12) k) ?_
  refine own_go (fun t k => XS.isub X160.here hx rfl (hb hby d_j43_27_13) rfl k) ?_
  show own_Go _ _ _ _ (T160.setTop (mkF m 14 #[.val (.ref ub), .val (.int (47 : Int32)), .val (.int (2 : Int32)), .unset] [(.int (2 : Int32)), (.int (2 : Int32))]))
  obtain ⟨_, _, ⟨T162, L162, k162, n162⟩, -, X162, ⟨Lc162, hQ162, l162, y162, z162⟩, st162⟩ := Jvm.LawKit.callS X160 hx (y := (⟨"java/lang/Math", "min", "(II)I"⟩ : MethodName)) hown (mvT hZ (w_86 hw)) (mvT hZ (w_87 hw)) (mvT hZ (w_88 hw)) (mvT hZ (w_89 hw)) (by decide) (backOf (W := 0) (rm_minA l Z a0 hw [] (2 : Int32) (2 : Int32) h0 n0 Z0 (by decide)) hZ (w_89 hw) (w_88 hw) (by decide) (by decide)) (g := (mkF m 14 #[.val (.ref ub), .val (.int (47 : Int32)), .val (.int (2 : Int32)), .unset] [(.int (2 : Int32)), (.int (2 : Int32))])) rfl (by rw [hml]; rfl) (argsL := [(.int (2 : Int32)), (.int (2 : Int32))]) (rest := []) (lenOf pd_1 rfl) rfl (by show 2 * 0 + _ ≤ _; exact Nat.le_of_eq rfl) (hb hby d_j43_27_14) (fun _ _ => ⟨rfl, e160, (by decide : 0 + 0 ≤ _), (by decide : 0 + 0 ≤ _)⟩)
  dsimp only [Pt.U, Pt.locs, Pt.cells, Pt.slots] at X162 l162 y162 z162 st162 hQ162
  subst l162 y162 z162
  obtain ⟨rfl, N162q, e162⟩ := hQ162
  have N162 := Fr.app N160 N162q
  refine own_go st162 ?_
  refine own_go (fun t k => XS.istoreN X162.here hx rfl (hb hby d_j43_27_17) rfl (l' := #[.val (.ref ub), .val (.int (47 : Int32)), .val (.int (2 : Int32)), .val (.int (2 : Int32))]) rfl k) ?_
  refine own_go (fun t k => XS.iloadN X162.here hx rfl (hb hby d_j43_27_18) rfl k) ?_
  show own_Go _ _ _ _ (T162.setTop (mkF m 19 #[.val (.ref ub), .val (.int (47 : Int32)), .val (.int (2 : Int32)), .val (.int (2 : Int32))] [(.int (2 : Int32))]))
  refine own_go (fun t k => XS.ifNo X162.here hx rfl (hb hby d_j43_27_19) rfl ((if0 _ _).trans (flt (by decide : ¬ ((2 : Int32) < (0 : Int32)))).1) k) ?_
  refine own_go (fun t k => XS.aloadN X162.here hx rfl (hb hby d_j43_27_22) rfl rfl k) ?_
  refine own_go (fun t k => XS.iloadN X162.here hx rfl (hb hby d_j43_27_23) rfl k) ?_
  show own_Go _ _ _ _ (T162.setTop (mkF m 24 #[.val (.ref ub), .val (.int (47 : Int32)), .val (.int (2 : Int32)), .val (.int (2 : Int32))] [(.int (2 : Int32)), (.ref ub)]))
  obtain ⟨cl163, Ar163, qk163, sz163, nn163, ha163, gf163⟩ := id A0
  have hin163 : ¬ ((2 : Int32) < 0 ∨ cl163.slots.size ≤ ((2 : Int32)).toNatClampNeg) := inb_of sz163 ⟨by decide, by decide⟩
  have hat163 : cl163.slots[((2 : Int32)).toNatClampNeg]? = some (.int (c2_.toInt8.toInt32)) := ha163.at hin163 rfl
  refine own_go (X162.baloadBytes hx (j := (2 : Int32)) (v := (.int (c2_.toInt8.toInt32))) (by rw [e162]; exact Ar163.1) (State.isArrayOf_alike hZ.alike Ar163.2.1) Ar163.2.2 hin163 hat163 (g := (mkF m 24 #[.val (.ref ub), .val (.int (47 : Int32)), .val (.int (2 : Int32)), .val (.int (2 : Int32))] [(.int (2 : Int32)), (.ref ub)])) rfl rfl (hb hby d_j43_27_24)) ?_
  refine own_go (fun t k => XS.iloadN X162.here hx rfl (hb hby d_j43_27_25) rfl k) ?_
  refine own_go (fun t k => XS.i2b X162.here hx rfl (hb hby d_j43_27_26) rfl k) ?_
  by_cases s2 : c2_ = 47
  · show own_Go _ _ _ _ (T162.setTop (mkF m 27 #[.val (.ref ub), .val (.int (47 : Int32)), .val (.int (2 : Int32)), .val (.int (2 : Int32))] [(.int (47 : Int32)), (.int (c2_.toInt8.toInt32))]))
    refine own_go (fun t k => XS.icmpNo X162.here hx rfl (hb hby d_j43_27_27) rfl (teq ((own_b47 B2).mpr s2)).2 k) ?_
    refine own_go (fun t k => XS.iloadN X162.here hx rfl (hb hby d_j43_27_30) rfl k) ?_
    show own_Go _ _ _ _ (T162.setTop (mkF m 31 #[.val (.ref ub), .val (.int (47 : Int32)), .val (.int (2 : Int32)), .val (.int (2 : Int32))] [(.int (2 : Int32))]))
    refine own_ret X162 hx hlk hret rfl (Or.inl ⟨rfl, Or.inl rfl, _, rfl⟩) (hb hby d_j43_27_31) ?_ (by decide) (by decide)
    rw [e162]
    exact ⟨by simp [own_last3, s2], N162, rfl⟩
  · show own_Go _ _ _ _ (T162.setTop (mkF m 27 #[.val (.ref ub), .val (.int (47 : Int32)), .val (.int (2 : Int32)), .val (.int (2 : Int32))] [(.int (47 : Int32)), (.int (c2_.toInt8.toInt32))]))
    refine own_go (fun t k => XS.icmpYes X162.here hx rfl (pc0 := 27) (pc' := 32) rfl (hb hby d_j43_27_27) rfl (feq (fun q => s2 ((own_b47 B2).mp q))).2 (by decide) (by decide) k) ?_
    refine own_go (fun t k => XS.iinc X162.here hx rfl (hb hby d_j43_27_32) rfl (l' := #[.val (.ref ub), .val (.int (47 : Int32)), .val (.int (2 : Int32)), .val (.int ((2 : Int32) + (-1 : Int32)))]) rfl k) ?_
    refine own_go (fun t k => XS.goto X162.here hx rfl (pc0 := 35) (pc' := 18) rfl (hb hby d_j43_27_35) (by decide) (by decide) k) ?_
    refine own_go (fun t k => XS.iloadN X162.here hx rfl (hb hby d_j43_27_18) rfl k) ?_
    show own_Go _ _ _ _ (T162.setTop (mkF m 19 #[.val (.ref ub), .val (.int (47 : Int32)), .val (.int (2 : Int32)), .val (.int (1 : Int32))] [(.int (1 : Int32))]))
    refine own_go (fun t k => XS.ifNo X162.here hx rfl (hb hby d_j43_27_19) rfl ((if0 _ _).trans (flt (by decide : ¬ ((1 : Int32) < (0 : Int32)))).1) k) ?_
    refine own_go (fun t k => XS.aloadN X162.here hx rfl (hb hby d_j43_27_22) rfl rfl k) ?_
    refine own_go (fun t k => XS.iloadN X162.here hx rfl (hb hby d_j43_27_23) rfl k) ?_
    show own_Go _ _ _ _ (T162.setTop (mkF m 24 #[.val (.ref ub), .val (.int (47 : Int32)), .val (.int (2 : Int32)), .val (.int (1 : Int32))] [(.int (1 : Int32)), (.ref ub)]))
    obtain ⟨cl164, Ar164, qk164, sz164, nn164, ha164, gf164⟩ := id A0
    have hin164 : ¬ ((1 : Int32) < 0 ∨ cl164.slots.size ≤ ((1 : Int32)).toNatClampNeg) := inb_of sz164 ⟨by decide, by decide⟩
    have hat164 : cl164.slots[((1 : Int32)).toNatClampNeg]? = some (.int (c1_.toInt8.toInt32)) := ha164.at hin164 rfl
    refine own_go (X162.baloadBytes hx (j := (1 : Int32)) (v := (.int (c1_.toInt8.toInt32))) (by rw [e162]; exact Ar164.1) (State.isArrayOf_alike hZ.alike Ar164.2.1) Ar164.2.2 hin164 hat164 (g := (mkF m 24 #[.val (.ref ub), .val (.int (47 : Int32)), .val (.int (2 : Int32)), .val (.int (1 : Int32))] [(.int (1 : Int32)), (.ref ub)])) rfl rfl (hb hby d_j43_27_24)) ?_
    refine own_go (fun t k => XS.iloadN X162.here hx rfl (hb hby d_j43_27_25) rfl k) ?_
    refine own_go (fun t k => XS.i2b X162.here hx rfl (hb hby d_j43_27_26) rfl k) ?_
    by_cases s1 : c1_ = 47
    · show own_Go _ _ _ _ (T162.setTop (mkF m 27 #[.val (.ref ub), .val (.int (47 : Int32)), .val (.int (2 : Int32)), .val (.int (1 : Int32))] [(.int (47 : Int32)), (.int (c1_.toInt8.toInt32))]))
      refine own_go (fun t k => XS.icmpNo X162.here hx rfl (hb hby d_j43_27_27) rfl (teq ((own_b47 B1).mpr s1)).2 k) ?_
      refine own_go (fun t k => XS.iloadN X162.here hx rfl (hb hby d_j43_27_30) rfl k) ?_
      show own_Go _ _ _ _ (T162.setTop (mkF m 31 #[.val (.ref ub), .val (.int (47 : Int32)), .val (.int (2 : Int32)), .val (.int (1 : Int32))] [(.int (1 : Int32))]))
      refine own_ret X162 hx hlk hret rfl (Or.inl ⟨rfl, Or.inl rfl, _, rfl⟩) (hb hby d_j43_27_31) ?_ (by decide) (by decide)
      rw [e162]
      exact ⟨by simp [own_last3, s2, s1], N162, rfl⟩
    · show own_Go _ _ _ _ (T162.setTop (mkF m 27 #[.val (.ref ub), .val (.int (47 : Int32)), .val (.int (2 : Int32)), .val (.int (1 : Int32))] [(.int (47 : Int32)), (.int (c1_.toInt8.toInt32))]))
      refine own_go (fun t k => XS.icmpYes X162.here hx rfl (pc0 := 27) (pc' := 32) rfl (hb hby d_j43_27_27) rfl (feq (fun q => s1 ((own_b47 B1).mp q))).2 (by decide) (by decide) k) ?_
      refine own_go (fun t k => XS.iinc X162.here hx rfl (hb hby d_j43_27_32) rfl (l' := #[.val (.ref ub), .val (.int (47 : Int32)), .val (.int (2 : Int32)), .val (.int ((1 : Int32) + (-1 : Int32)))]) rfl k) ?_
      refine own_go (fun t k => XS.goto X162.here hx rfl (pc0 := 35) (pc' := 18) rfl (hb hby d_j43_27_35) (by decide) (by decide) k) ?_
      refine own_go (fun t k => XS.iloadN X162.here hx rfl (hb hby d_j43_27_18) rfl k) ?_
      show own_Go _ _ _ _ (T162.setTop (mkF m 19 #[.val (.ref ub), .val (.int (47 : Int32)), .val (.int (2 : Int32)), .val (.int (0 : Int32))] [(.int (0 : Int32))]))
      refine own_go (fun t k => XS.ifNo X162.here hx rfl (hb hby d_j43_27_19) rfl ((if0 _ _).trans (flt (by decide : ¬ ((0 : Int32) < (0 : Int32)))).1) k) ?_
      refine own_go (fun t k => XS.aloadN X162.here hx rfl (hb hby d_j43_27_22) rfl rfl k) ?_
      refine own_go (fun t k => XS.iloadN X162.here hx rfl (hb hby d_j43_27_23) rfl k) ?_
      show own_Go _ _ _ _ (T162.setTop (mkF m 24 #[.val (.ref ub), .val (.int (47 : Int32)), .val (.int (2 : Int32)), .val (.int (0 : Int32))] [(.int (0 : Int32)), (.ref ub)]))
      obtain ⟨cl165, Ar165, qk165, sz165, nn165, ha165, gf165⟩ := id A0
      have hin165 : ¬ ((0 : Int32) < 0 ∨ cl165.slots.size ≤ ((0 : Int32)).toNatClampNeg) := inb_of sz165 ⟨by decide, by decide⟩
      have hat165 : cl165.slots[((0 : Int32)).toNatClampNeg]? = some (.int (47 : Int32)) := ha165.at hin165 rfl
      refine own_go (X162.baloadBytes hx (j := (0 : Int32)) (v := (.int (47 : Int32))) (by rw [e162]; exact Ar165.1) (State.isArrayOf_alike hZ.alike Ar165.2.1) Ar165.2.2 hin165 hat165 (g := (mkF m 24 #[.val (.ref ub), .val (.int (47 : Int32)), .val (.int (2 : Int32)), .val (.int (0 : Int32))] [(.int (0 : Int32)), (.ref ub)])) rfl rfl (hb hby d_j43_27_24)) ?_
      refine own_go (fun t k => XS.iloadN X162.here hx rfl (hb hby d_j43_27_25) rfl k) ?_
      refine own_go (fun t k => XS.i2b X162.here hx rfl (hb hby d_j43_27_26) rfl k) ?_
      show own_Go _ _ _ _ (T162.setTop (mkF m 27 #[.val (.ref ub), .val (.int (47 : Int32)), .val (.int (2 : Int32)), .val (.int (0 : Int32))] [(.int (47 : Int32)), (.int (47 : Int32))]))
      refine own_go (fun t k => XS.icmpNo X162.here hx rfl (hb hby d_j43_27_27) rfl (teq (by decide : (47 : Int32) = (47 : Int32))).2 k) ?_
      refine own_go (fun t k => XS.iloadN X162.here hx rfl (hb hby d_j43_27_30) rfl k) ?_
      show own_Go _ _ _ _ (T162.setTop (mkF m 31 #[.val (.ref ub), .val (.int (47 : Int32)), .val (.int (2 : Int32)), .val (.int (0 : Int32))] [(.int (0 : Int32))]))
      refine own_ret X162 hx hlk hret rfl (Or.inl ⟨rfl, Or.inl rfl, _, rfl⟩) (hb hby d_j43_27_31) ?_ (by decide) (by decide)
      rw [e162]
      exact ⟨by simp [own_last3, s2, s1], N162, rfl⟩
def Q_lx2_3 (Z : State) (us : Addr) (ub : Addr) (kb : ClassId) (c1_ : Int32) (c2_ : Int32) (c3_ : Int32) (c4_ : Int32) (zv : Int32) (gv : Value) (h0 : Heap) (n0 : Nat) (v : Option Value) (h : Heap) (L : List Loc) : Prop := v = some (.int (own_last3 c1_ c2_ c3_ c4_)) ∧ Fr n0 L ∧ h = h0
theorem ef_lx2_3 (m : MethodId) (us : Addr) : entryFrame m #[(.ref us), (.int (47 : Int32)), (.int (2 : Int32))] 3 = mkF m 0 #[.val (.ref us), .val (.int (47 : Int32)), .val (.int (2 : Int32))] [] := by first | (simp [entryFrame, mkF, argsToLocals, Value.category]; done) | rfl
set_option maxRecDepth 65536 in
set_option maxHeartbeats 40000000 in
theorem rm_lx2_3 (l : Launch) (Z : State) (a0 : Array Value) (hw : ∀ d ∈ tables_1, d.before a0 Z = true) (ws : List Jvm.Cond) (us ub : Addr) (kb : ClassId) (c1_ c2_ c3_ c4_ zv : Int32) (gv : Value) (h0 : Heap) (n0 : Nat) (Z0 : n0 ≤ h0.size) (E0 : Exa Z h0 us "java/lang/String") (Cc0 : Fld Z h0 us "java/lang/String" "coder" "B" (.int (0 : Int32))) (V0 : Fld Z h0 us "java/lang/String" "value" "[B" (.ref ub)) (A0 : Arv Z h0 ub kb .byte (3 : Int32) [(.int (47 : Int32)), (.int (c1_.toInt8.toInt32)), (.int (c2_.toInt8.toInt32))] (.int (0 : Int32))) (B1 : own_B c1_) (B2 : own_B c2_) (B3 : own_B c3_) (B4 : own_B c4_) (O0 : Old Z n0 h0) (hzv : ¬ zv = (0 : Int32)) (S0 : Sta Z Z.heap "java/lang/String" "COMPACT_STRINGS" "Z" (.int zv)) (rgv : gv.isRef = true) (G0 : Sta Z Z.heap "jdk/internal/util/Preconditions" "SIOOBE_FORMATTER" "Ljava/util/function/BiFunction;" gv) :
    own_Met l Z (⟨"java/lang/String", "lastIndexOf", "(II)I"⟩ : MethodName) jdk_42_method_83_code 3 (some .int) ws ({ frames := 2, cells := 0, slots := 0, locals := 28 } : Room) #[(.ref us), (.int (47 : Int32)), (.int (2 : Int32))] h0 (Q_lx2_3 Z us ub kb c1_ c2_ c3_ c4_ zv gv h0 n0) := by
  refine own_enter (own := "java/lang/String") (plainFor_of_name pn_2) rfl ?_
  intro p e s m below meth c s₁ hlk hret hx hby hml hown hnm hZ X0 e0
  have N0 := Fr.nil n0
  refine own_cast (ef_lx2_3 m us) ?_
  show own_Go _ _ _ _ (s₁.setTop (mkF m 0 #[.val (.ref us), .val (.int (47 : Int32)), .val (.int (2 : Int32))] []))
  refine own_go (fun t k => XS.aloadN X0.here hx rfl (hb hby d_j42_83_0) rfl rfl k) ?_
  obtain ⟨cq166, kq166, q166a, q166b, q166c⟩ := isOf hZ e0 E0
  obtain ⟨_, _, ⟨T166, L166, k166, n166⟩, -, X166, ⟨Lc166, hQ166, l166, y166, z166⟩, st166⟩ := X0.virtualBack hx (y := (⟨"java/lang/String", "isLatin1", "()Z"⟩ : MethodName)) (z := (⟨"java/lang/String", "isLatin1", "()Z"⟩ : MethodName)) hown (mvT hZ (w_75 hw)) (mvT hZ (w_76 hw)) (notFace_of_selects (args := #[]) (mvT hZ (w_78 hw))) (mvT hZ (w_78 hw)) (mvT hZ (w_77 hw)) (by decide) (backOf (W := 0) (rm_il1 l Z a0 hw [] us zv gv h0 n0 Z0 O0 hzv S0 rgv G0 Cc0) hZ (w_79 hw) (w_7 hw) (by decide) (by decide)) q166a q166c (g := (mkF m 1 #[.val (.ref us), .val (.int (47 : Int32)), .val (.int (2 : Int32))] [(.ref us)])) rfl (by rw [hml]; rfl) (Steps.refl _) (argsL := []) (rest := []) (lenOf pd_2 rfl) rfl (by show 2 * 0 + _ ≤ _; exact Nat.le_of_eq rfl) (hb hby d_j42_83_1) (fun _ _ => ⟨rfl, e0, (by decide : 0 + 0 ≤ _), (by decide : 0 + 0 ≤ _)⟩)
  dsimp only [Pt.U, Pt.locs, Pt.cells, Pt.slots] at X166 l166 y166 z166 st166 hQ166
  subst l166 y166 z166
  obtain ⟨rfl, N166q, e166⟩ := hQ166
  have N166 := Fr.app N0 N166q
  refine own_go (fun t k => st166.trans k) ?_
  show own_Go _ _ _ _ (T166.setTop (mkF m 4 #[.val (.ref us), .val (.int (47 : Int32)), .val (.int (2 : Int32))] [(.int (1 : Int32))]))
  refine own_go (fun t k => XS.ifNo X166.here hx rfl (hb hby d_j42_83_4) rfl ((if0 _ _).trans (feq (by decide : ¬ ((1 : Int32) = (0 : Int32)))).1) k) ?_
  refine own_go (fun t k => XS.aloadN X166.here hx rfl (hb hby d_j42_83_7) rfl rfl k) ?_
  show own_Go _ _ _ _ (T166.setTop (mkF m 8 #[.val (.ref us), .val (.int (47 : Int32)), .val (.int (2 : Int32))] [(.ref us)]))
  obtain ⟨T167, X167, e167, st167⟩ := getF X166 hx hZ hown (host := "") (Or.inl (w_36 hw)) Via.refl e166 V0 (g := (mkF m 8 #[.val (.ref us), .val (.int (47 : Int32)), .val (.int (2 : Int32))] [(.ref us)])) rfl rfl (hb hby d_j42_83_8)
  refine own_go st167 ?_
  refine own_go (fun t k => XS.iloadN X167.here hx rfl (hb hby d_j42_83_11) rfl k) ?_
  refine own_go (fun t k => XS.iloadN X167.here hx rfl (hb hby d_j42_83_12) rfl k) ?_
  obtain ⟨_, _, ⟨T168, L168, k168, n168⟩, -, X168, ⟨Lc168, hQ168, l168, y168, z168⟩, st168⟩ := Jvm.LawKit.callS X167 hx (y := (⟨"java/lang/StringLatin1", "lastIndexOf", "([BII)I"⟩ : MethodName)) hown (mvT hZ (w_80 hw)) (mvT hZ (w_81 hw)) (mvT hZ (w_53 hw)) (mvT hZ (w_82 hw)) (by decide) (backOf (W := 0) (rm_lx3_3 l Z a0 hw [] ub kb c1_ c2_ c3_ c4_ h0 n0 Z0 A0 B1 B2 B3 B4) hZ (w_82 hw) (w_53 hw) (by decide) (by decide)) (g := (mkF m 13 #[.val (.ref us), .val (.int (47 : Int32)), .val (.int (2 : Int32))] [(.int (2 : Int32)), (.int (47 : Int32)), (.ref ub)])) rfl (by rw [hml]; rfl) (argsL := [(.ref ub), (.int (47 : Int32)), (.int (2 : Int32))]) (rest := []) (lenOf pd_3 rfl) rfl (by show 2 * 0 + _ ≤ _; exact Nat.le_of_eq rfl) (hb hby d_j42_83_13) (fun _ _ => ⟨rfl, e167, (by decide : 0 + 0 ≤ _), (by decide : 0 + 0 ≤ _)⟩)
  dsimp only [Pt.U, Pt.locs, Pt.cells, Pt.slots] at X168 l168 y168 z168 st168 hQ168
  subst l168 y168 z168
  obtain ⟨rfl, N168q, e168⟩ := hQ168
  have N168 := Fr.app N166 N168q
  refine own_go st168 ?_
  refine own_go (fun t k => XS.goto X168.here hx rfl (pc0 := 16) (pc' := 28) rfl (hb hby d_j42_83_16) (by decide) (by decide) k) ?_
  show own_Go _ _ _ _ (T168.setTop (mkF m 28 #[.val (.ref us), .val (.int (47 : Int32)), .val (.int (2 : Int32))] [(.int (own_last3 c1_ c2_ c3_ c4_))]))
  refine own_ret X168 hx hlk hret rfl (Or.inl ⟨rfl, Or.inl rfl, _, rfl⟩) (hb hby d_j42_83_28) ?_ (by decide) (by decide)
  rw [e168]
  exact ⟨rfl, N168, rfl⟩
def Q_lx1_3 (Z : State) (us : Addr) (ub : Addr) (kb : ClassId) (c1_ : Int32) (c2_ : Int32) (c3_ : Int32) (c4_ : Int32) (zv : Int32) (gv : Value) (h0 : Heap) (n0 : Nat) (v : Option Value) (h : Heap) (L : List Loc) : Prop := v = some (.int (own_last3 c1_ c2_ c3_ c4_)) ∧ Fr n0 L ∧ h = h0
theorem ef_lx1_3 (m : MethodId) (us : Addr) : entryFrame m #[(.ref us), (.int (47 : Int32))] 2 = mkF m 0 #[.val (.ref us), .val (.int (47 : Int32))] [] := by first | (simp [entryFrame, mkF, argsToLocals, Value.category]; done) | rfl
set_option maxRecDepth 65536 in
set_option maxHeartbeats 40000000 in
theorem rm_lx1_3 (l : Launch) (Z : State) (a0 : Array Value) (hw : ∀ d ∈ tables_1, d.before a0 Z = true) (ws : List Jvm.Cond) (us ub : Addr) (kb : ClassId) (c1_ c2_ c3_ c4_ zv : Int32) (gv : Value) (h0 : Heap) (n0 : Nat) (Z0 : n0 ≤ h0.size) (E0 : Exa Z h0 us "java/lang/String") (Cc0 : Fld Z h0 us "java/lang/String" "coder" "B" (.int (0 : Int32))) (V0 : Fld Z h0 us "java/lang/String" "value" "[B" (.ref ub)) (A0 : Arv Z h0 ub kb .byte (3 : Int32) [(.int (47 : Int32)), (.int (c1_.toInt8.toInt32)), (.int (c2_.toInt8.toInt32))] (.int (0 : Int32))) (B1 : own_B c1_) (B2 : own_B c2_) (B3 : own_B c3_) (B4 : own_B c4_) (O0 : Old Z n0 h0) (hzv : ¬ zv = (0 : Int32)) (S0 : Sta Z Z.heap "java/lang/String" "COMPACT_STRINGS" "Z" (.int zv)) (rgv : gv.isRef = true) (G0 : Sta Z Z.heap "jdk/internal/util/Preconditions" "SIOOBE_FORMATTER" "Ljava/util/function/BiFunction;" gv) :
    own_Met l Z (⟨"java/lang/String", "lastIndexOf", "(I)I"⟩ : MethodName) jdk_42_method_82_code 2 (some .int) ws ({ frames := 3, cells := 0, slots := 0, locals := 42 } : Room) #[(.ref us), (.int (47 : Int32))] h0 (Q_lx1_3 Z us ub kb c1_ c2_ c3_ c4_ zv gv h0 n0) := by
  refine own_enter (own := "java/lang/String") (plainFor_of_name pn_2) rfl ?_
  intro p e s m below meth c s₁ hlk hret hx hby hml hown hnm hZ X0 e0
  have N0 := Fr.nil n0
  refine own_cast (ef_lx1_3 m us) ?_
  show own_Go _ _ _ _ (s₁.setTop (mkF m 0 #[.val (.ref us), .val (.int (47 : Int32))] []))
  refine own_go (fun t k => XS.aloadN X0.here hx rfl (hb hby d_j42_82_0) rfl rfl k) ?_
  refine own_go (fun t k => XS.iloadN X0.here hx rfl (hb hby d_j42_82_1) rfl k) ?_
  refine own_go (fun t k => XS.aloadN X0.here hx rfl (hb hby d_j42_82_2) rfl rfl k) ?_
  have hB169 : ∀ c ∈ ([(47 : Int32), c1_, c2_] : List Int32), own_B c := (List.forall_mem_cons.mpr ⟨(by constructor <;> decide : own_B (47 : Int32)), (List.forall_mem_cons.mpr ⟨B1, (List.forall_mem_cons.mpr ⟨B2, (List.forall_mem_nil _)⟩)⟩)⟩)
  have hD169 := StrChars.Road.codOf (cs := ([(47 : Int32), c1_, c2_] : List Int32)) (n := 3) rfl (fun x hx => (hB169 x hx).2)
  have hU169 := own_up _ hB169
  obtain ⟨cq170, kq170, q170a, q170b, q170c⟩ := isOf hZ e0 E0
  obtain ⟨_, _, ⟨T170, L170, k170, n170⟩, -, X170, ⟨Lc170, hQ170, l170, y170, z170⟩, st170⟩ := X0.virtualBack hx (y := (⟨"java/lang/String", "length", "()I"⟩ : MethodName)) (z := (⟨"java/lang/String", "length", "()I"⟩ : MethodName)) hown (mvT hZ (w_60 hw)) (mvT hZ (w_61 hw)) (notFace_of_selects (args := #[]) (mvT hZ (w_63 hw))) (mvT hZ (w_63 hw)) (mvT hZ (w_62 hw)) (by decide) (StrChars.Road.lenW (W := 2) hZ (own_wlen hw) (kI := 4) (w_6 hw) (cs := ([(47 : Int32), c1_, c2_] : List Int32)) E0 V0 Cc0 A0 hD169 hU169 (S0.ext O0.2) hzv (Nat.le_of_ble_eq_true rfl) (by decide) (by decide)) q170a q170c (g := (mkF m 3 #[.val (.ref us), .val (.int (47 : Int32))] [(.ref us), (.int (47 : Int32)), (.ref us)])) rfl (by rw [hml]; rfl) (Steps.refl _) (argsL := []) (rest := [(.int (47 : Int32)), (.ref us)]) (lenOf pd_4 rfl) rfl (by show 2 * 0 + _ ≤ _; exact Nat.le_of_eq rfl) (hb hby d_j42_82_3) (fun _ _ => ⟨rfl, e0, (by decide : 0 + 0 ≤ _), (by decide : 0 + 0 ≤ _)⟩)
  dsimp only [Pt.U, Pt.locs, Pt.cells, Pt.slots] at X170 l170 y170 z170 st170 hQ170
  subst l170 y170 z170
  obtain ⟨rfl, rfl, e170⟩ := hQ170
  have N170q : Fr n0 ([] : List Loc) := Fr.nil n0
  have N170 := Fr.app N0 N170q
  refine own_go (fun t k => st170.trans k) ?_
  show own_Go _ _ _ _ (T170.setTop (mkF m 6 #[.val (.ref us), .val (.int (47 : Int32))] [(.int (3 : Int32)), (.int (47 : Int32)), (.ref us)]))
  refine own_go (fun t k => XS.iconst X170.here hx rfl (hb hby d_j42_82_6) k) ?_
  refine own_go (fun t k => XS.isub X170.here hx rfl (hb hby d_j42_82_7) rfl k) ?_
  show own_Go _ _ _ _ (T170.setTop (mkF m 8 #[.val (.ref us), .val (.int (47 : Int32))] [(.int (2 : Int32)), (.int (47 : Int32)), (.ref us)]))
  obtain ⟨cq171, kq171, q171a, q171b, q171c⟩ := isOf hZ e170 E0
  obtain ⟨_, _, ⟨T171, L171, k171, n171⟩, -, X171, ⟨Lc171, hQ171, l171, y171, z171⟩, st171⟩ := X170.virtualBack hx (y := (⟨"java/lang/String", "lastIndexOf", "(II)I"⟩ : MethodName)) (z := (⟨"java/lang/String", "lastIndexOf", "(II)I"⟩ : MethodName)) hown (mvT hZ (w_70 hw)) (mvT hZ (w_71 hw)) (notFace_of_selects (args := #[]) (mvT hZ (w_73 hw))) (mvT hZ (w_73 hw)) (mvT hZ (w_72 hw)) (by decide) (backOf (W := 0) (rm_lx2_3 l Z a0 hw [] us ub kb c1_ c2_ c3_ c4_ zv gv h0 n0 Z0 E0 Cc0 V0 A0 B1 B2 B3 B4 O0 hzv S0 rgv G0) hZ (w_74 hw) (w_7 hw) (by decide) (by decide)) q171a q171c (g := (mkF m 8 #[.val (.ref us), .val (.int (47 : Int32))] [(.int (2 : Int32)), (.int (47 : Int32)), (.ref us)])) rfl (by rw [hml]; rfl) (Steps.refl _) (argsL := [(.int (47 : Int32)), (.int (2 : Int32))]) (rest := []) (lenOf pd_1 rfl) rfl (by show 2 * 0 + _ ≤ _; exact Nat.le_of_eq rfl) (hb hby d_j42_82_8) (fun _ _ => ⟨rfl, e170, (by decide : 0 + 0 ≤ _), (by decide : 0 + 0 ≤ _)⟩)
  dsimp only [Pt.U, Pt.locs, Pt.cells, Pt.slots] at X171 l171 y171 z171 st171 hQ171
  subst l171 y171 z171
  obtain ⟨rfl, N171q, e171⟩ := hQ171
  have N171 := Fr.app N170 N171q
  refine own_go (fun t k => st171.trans k) ?_
  show own_Go _ _ _ _ (T171.setTop (mkF m 11 #[.val (.ref us), .val (.int (47 : Int32))] [(.int (own_last3 c1_ c2_ c3_ c4_))]))
  refine own_ret X171 hx hlk hret rfl (Or.inl ⟨rfl, Or.inl rfl, _, rfl⟩) (hb hby d_j42_82_11) ?_ (by decide) (by decide)
  rw [e171]
  exact ⟨rfl, N171, rfl⟩
def Q_lx3_4 (Z : State) (ub : Addr) (kb : ClassId) (c1_ : Int32) (c2_ : Int32) (c3_ : Int32) (c4_ : Int32) (h0 : Heap) (n0 : Nat) (v : Option Value) (h : Heap) (L : List Loc) : Prop := v = some (.int (own_last4 c1_ c2_ c3_ c4_)) ∧ Fr n0 L ∧ h = h0
theorem ef_lx3_4 (m : MethodId) (ub : Addr) : entryFrame m #[(.ref ub), (.int (47 : Int32)), (.int (3 : Int32))] 4 = mkF m 0 #[.val (.ref ub), .val (.int (47 : Int32)), .val (.int (3 : Int32)), .unset] [] := by first | (simp [entryFrame, mkF, argsToLocals, Value.category]; done) | rfl
set_option maxRecDepth 65536 in
set_option maxHeartbeats 40000000 in
theorem rm_lx3_4 (l : Launch) (Z : State) (a0 : Array Value) (hw : ∀ d ∈ tables_1, d.before a0 Z = true) (ws : List Jvm.Cond) (ub : Addr) (kb : ClassId) (c1_ c2_ c3_ c4_ : Int32) (h0 : Heap) (n0 : Nat) (Z0 : n0 ≤ h0.size) (A0 : Arv Z h0 ub kb .byte (4 : Int32) [(.int (47 : Int32)), (.int (c1_.toInt8.toInt32)), (.int (c2_.toInt8.toInt32)), (.int (c3_.toInt8.toInt32))] (.int (0 : Int32))) (B1 : own_B c1_) (B2 : own_B c2_) (B3 : own_B c3_) (B4 : own_B c4_) :
    own_Met l Z (⟨"java/lang/StringLatin1", "lastIndexOf", "([BII)I"⟩ : MethodName) jdk_43_method_27_code 4 (some .int) ws ({ frames := 1, cells := 0, slots := 0, locals := 13 } : Room) #[(.ref ub), (.int (47 : Int32)), (.int (3 : Int32))] h0 (Q_lx3_4 Z ub kb c1_ c2_ c3_ c4_ h0 n0) := by
  refine own_enter (own := "java/lang/StringLatin1") (plainFor_of_name pn_1) rfl ?_
  intro p e s m below meth c s₁ hlk hret hx hby hml hown hnm hZ X0 e0
  have N0 := Fr.nil n0
  refine own_cast (ef_lx3_4 m ub) ?_
  show own_Go _ _ _ _ (s₁.setTop (mkF m 0 #[.val (.ref ub), .val (.int (47 : Int32)), .val (.int (3 : Int32)), .unset] []))
  refine own_go (fun t k => XS.iloadN X0.here hx rfl (hb hby d_j43_27_0) rfl k) ?_
  obtain ⟨_, _, ⟨T172, L172, k172, n172⟩, -, X172, ⟨Lc172, hQ172, l172, y172, z172⟩, st172⟩ := Jvm.LawKit.callS X0 hx (y := (⟨"java/lang/StringLatin1", "canEncode", "(I)Z"⟩ : MethodName)) hown (mvT hZ (w_83 hw)) (mvT hZ (w_84 hw)) (mvT hZ (w_53 hw)) (mvT hZ (w_85 hw)) (by decide) (backOf (W := 0) (rm_enc l Z a0 hw []  h0 n0 Z0 ) hZ (w_85 hw) (w_53 hw) (by decide) (by decide)) (g := (mkF m 1 #[.val (.ref ub), .val (.int (47 : Int32)), .val (.int (3 : Int32)), .unset] [(.int (47 : Int32))])) rfl (by rw [hml]; rfl) (argsL := [(.int (47 : Int32))]) (rest := []) (lenOf pd_0 rfl) rfl (by show 2 * 0 + _ ≤ _; exact Nat.le_of_eq rfl) (hb hby d_j43_27_1) (fun _ _ => ⟨rfl, e0, (by decide : 0 + 0 ≤ _), (by decide : 0 + 0 ≤ _)⟩)
  dsimp only [Pt.U, Pt.locs, Pt.cells, Pt.slots] at X172 l172 y172 z172 st172 hQ172
  subst l172 y172 z172
  obtain ⟨rfl, N172q, e172⟩ := hQ172
  have N172 := Fr.app N0 N172q
  refine own_go st172 ?_
  show own_Go _ _ _ _ (T172.setTop (mkF m 4 #[.val (.ref ub), .val (.int (47 : Int32)), .val (.int (3 : Int32)), .unset] [(.int (1 : Int32))]))
  refine own_go (fun t k => XS.ifYes X172.here hx rfl (pc0 := 4) (pc' := 9) rfl (hb hby d_j43_27_4) rfl ((if0 _ _).trans (feq (by decide : ¬ ((1 : Int32) = (0 : Int32)))).2) (by decide) (by decide) k) ?_
  refine own_go (fun t k => XS.iloadN X172.here hx rfl (hb hby d_j43_27_9) rfl k) ?_
  refine own_go (fun t k => XS.aloadN X172.here hx rfl (hb hby d_j43_27_10) rfl rfl k) ?_
  show own_Go _ _ _ _ (T172.setTop (mkF m 11 #[.val (.ref ub), .val (.int (47 : Int32)), .val (.int (3 : Int32)), .unset] [(.ref ub), (.int (3 : Int32))]))
  obtain ⟨cl173, Ar173, qk173, sz173, nn173, ha173, gf173⟩ := id A0
  refine own_go (X172.arraylength hx (by rw [e172]; exact Ar173.1) (State.isArrayOf_alike hZ.alike Ar173.2.1) (g := (mkF m 11 #[.val (.ref ub), .val (.int (47 : Int32)), .val (.int (3 : Int32)), .unset] [(.ref ub), (.int (3 : Int32))])) rfl rfl (hb hby d_j43_27_11)) ?_
  rw [len_of sz173 nn173]
  refine own_go (fun t k => XS.iconst X172.here hx rfl (hb hby d_j43_27_12) k) ?_
  refine own_go (fun t k => XS.isub X172.here hx rfl (hb hby d_j43_27_13) rfl k) ?_
  show own_Go _ _ _ _ (T172.setTop (mkF m 14 #[.val (.ref ub), .val (.int (47 : Int32)), .val (.int (3 : Int32)), .unset] [(.int (3 : Int32)), (.int (3 : Int32))]))
  obtain ⟨_, _, ⟨T174, L174, k174, n174⟩, -, X174, ⟨Lc174, hQ174, l174, y174, z174⟩, st174⟩ := Jvm.LawKit.callS X172 hx (y := (⟨"java/lang/Math", "min", "(II)I"⟩ : MethodName)) hown (mvT hZ (w_86 hw)) (mvT hZ (w_87 hw)) (mvT hZ (w_88 hw)) (mvT hZ (w_89 hw)) (by decide) (backOf (W := 0) (rm_minA l Z a0 hw [] (3 : Int32) (3 : Int32) h0 n0 Z0 (by decide)) hZ (w_89 hw) (w_88 hw) (by decide) (by decide)) (g := (mkF m 14 #[.val (.ref ub), .val (.int (47 : Int32)), .val (.int (3 : Int32)), .unset] [(.int (3 : Int32)), (.int (3 : Int32))])) rfl (by rw [hml]; rfl) (argsL := [(.int (3 : Int32)), (.int (3 : Int32))]) (rest := []) (lenOf pd_1 rfl) rfl (by show 2 * 0 + _ ≤ _; exact Nat.le_of_eq rfl) (hb hby d_j43_27_14) (fun _ _ => ⟨rfl, e172, (by decide : 0 + 0 ≤ _), (by decide : 0 + 0 ≤ _)⟩)
  dsimp only [Pt.U, Pt.locs, Pt.cells, Pt.slots] at X174 l174 y174 z174 st174 hQ174
  subst l174 y174 z174
  obtain ⟨rfl, N174q, e174⟩ := hQ174
  have N174 := Fr.app N172 N174q
  refine own_go st174 ?_
  refine own_go (fun t k => XS.istoreN X174.here hx rfl (hb hby d_j43_27_17) rfl (l' := #[.val (.ref ub), .val (.int (47 : Int32)), .val (.int (3 : Int32)), .val (.int (3 : Int32))]) rfl k) ?_
  refine own_go (fun t k => XS.iloadN X174.here hx rfl (hb hby d_j43_27_18) rfl k) ?_
  show own_Go _ _ _ _ (T174.setTop (mkF m 19 #[.val (.ref ub), .val (.int (47 : Int32)), .val (.int (3 : Int32)), .val (.int (3 : Int32))] [(.int (3 : Int32))]))
  refine own_go (fun t k => XS.ifNo X174.here hx rfl (hb hby d_j43_27_19) rfl ((if0 _ _).trans (flt (by decide : ¬ ((3 : Int32) < (0 : Int32)))).1) k) ?_
  refine own_go (fun t k => XS.aloadN X174.here hx rfl (hb hby d_j43_27_22) rfl rfl k) ?_
  refine own_go (fun t k => XS.iloadN X174.here hx rfl (hb hby d_j43_27_23) rfl k) ?_
  show own_Go _ _ _ _ (T174.setTop (mkF m 24 #[.val (.ref ub), .val (.int (47 : Int32)), .val (.int (3 : Int32)), .val (.int (3 : Int32))] [(.int (3 : Int32)), (.ref ub)]))
  obtain ⟨cl175, Ar175, qk175, sz175, nn175, ha175, gf175⟩ := id A0
  have hin175 : ¬ ((3 : Int32) < 0 ∨ cl175.slots.size ≤ ((3 : Int32)).toNatClampNeg) := inb_of sz175 ⟨by decide, by decide⟩
  have hat175 : cl175.slots[((3 : Int32)).toNatClampNeg]? = some (.int (c3_.toInt8.toInt32)) := ha175.at hin175 rfl
  refine own_go (X174.baloadBytes hx (j := (3 : Int32)) (v := (.int (c3_.toInt8.toInt32))) (by rw [e174]; exact Ar175.1) (State.isArrayOf_alike hZ.alike Ar175.2.1) Ar175.2.2 hin175 hat175 (g := (mkF m 24 #[.val (.ref ub), .val (.int (47 : Int32)), .val (.int (3 : Int32)), .val (.int (3 : Int32))] [(.int (3 : Int32)), (.ref ub)])) rfl rfl (hb hby d_j43_27_24)) ?_
  refine own_go (fun t k => XS.iloadN X174.here hx rfl (hb hby d_j43_27_25) rfl k) ?_
  refine own_go (fun t k => XS.i2b X174.here hx rfl (hb hby d_j43_27_26) rfl k) ?_
  by_cases s3 : c3_ = 47
  · show own_Go _ _ _ _ (T174.setTop (mkF m 27 #[.val (.ref ub), .val (.int (47 : Int32)), .val (.int (3 : Int32)), .val (.int (3 : Int32))] [(.int (47 : Int32)), (.int (c3_.toInt8.toInt32))]))
    refine own_go (fun t k => XS.icmpNo X174.here hx rfl (hb hby d_j43_27_27) rfl (teq ((own_b47 B3).mpr s3)).2 k) ?_
    refine own_go (fun t k => XS.iloadN X174.here hx rfl (hb hby d_j43_27_30) rfl k) ?_
    show own_Go _ _ _ _ (T174.setTop (mkF m 31 #[.val (.ref ub), .val (.int (47 : Int32)), .val (.int (3 : Int32)), .val (.int (3 : Int32))] [(.int (3 : Int32))]))
    refine own_ret X174 hx hlk hret rfl (Or.inl ⟨rfl, Or.inl rfl, _, rfl⟩) (hb hby d_j43_27_31) ?_ (by decide) (by decide)
    rw [e174]
    exact ⟨by simp [own_last4, s3], N174, rfl⟩
  · show own_Go _ _ _ _ (T174.setTop (mkF m 27 #[.val (.ref ub), .val (.int (47 : Int32)), .val (.int (3 : Int32)), .val (.int (3 : Int32))] [(.int (47 : Int32)), (.int (c3_.toInt8.toInt32))]))
    refine own_go (fun t k => XS.icmpYes X174.here hx rfl (pc0 := 27) (pc' := 32) rfl (hb hby d_j43_27_27) rfl (feq (fun q => s3 ((own_b47 B3).mp q))).2 (by decide) (by decide) k) ?_
    refine own_go (fun t k => XS.iinc X174.here hx rfl (hb hby d_j43_27_32) rfl (l' := #[.val (.ref ub), .val (.int (47 : Int32)), .val (.int (3 : Int32)), .val (.int ((3 : Int32) + (-1 : Int32)))]) rfl k) ?_
    refine own_go (fun t k => XS.goto X174.here hx rfl (pc0 := 35) (pc' := 18) rfl (hb hby d_j43_27_35) (by decide) (by decide) k) ?_
    refine own_go (fun t k => XS.iloadN X174.here hx rfl (hb hby d_j43_27_18) rfl k) ?_
    show own_Go _ _ _ _ (T174.setTop (mkF m 19 #[.val (.ref ub), .val (.int (47 : Int32)), .val (.int (3 : Int32)), .val (.int (2 : Int32))] [(.int (2 : Int32))]))
    refine own_go (fun t k => XS.ifNo X174.here hx rfl (hb hby d_j43_27_19) rfl ((if0 _ _).trans (flt (by decide : ¬ ((2 : Int32) < (0 : Int32)))).1) k) ?_
    refine own_go (fun t k => XS.aloadN X174.here hx rfl (hb hby d_j43_27_22) rfl rfl k) ?_
    refine own_go (fun t k => XS.iloadN X174.here hx rfl (hb hby d_j43_27_23) rfl k) ?_
    show own_Go _ _ _ _ (T174.setTop (mkF m 24 #[.val (.ref ub), .val (.int (47 : Int32)), .val (.int (3 : Int32)), .val (.int (2 : Int32))] [(.int (2 : Int32)), (.ref ub)]))
    obtain ⟨cl176, Ar176, qk176, sz176, nn176, ha176, gf176⟩ := id A0
    have hin176 : ¬ ((2 : Int32) < 0 ∨ cl176.slots.size ≤ ((2 : Int32)).toNatClampNeg) := inb_of sz176 ⟨by decide, by decide⟩
    have hat176 : cl176.slots[((2 : Int32)).toNatClampNeg]? = some (.int (c2_.toInt8.toInt32)) := ha176.at hin176 rfl
    refine own_go (X174.baloadBytes hx (j := (2 : Int32)) (v := (.int (c2_.toInt8.toInt32))) (by rw [e174]; exact Ar176.1) (State.isArrayOf_alike hZ.alike Ar176.2.1) Ar176.2.2 hin176 hat176 (g := (mkF m 24 #[.val (.ref ub), .val (.int (47 : Int32)), .val (.int (3 : Int32)), .val (.int (2 : Int32))] [(.int (2 : Int32)), (.ref ub)])) rfl rfl (hb hby d_j43_27_24)) ?_
    refine own_go (fun t k => XS.iloadN X174.here hx rfl (hb hby d_j43_27_25) rfl k) ?_
    refine own_go (fun t k => XS.i2b X174.here hx rfl (hb hby d_j43_27_26) rfl k) ?_
    by_cases s2 : c2_ = 47
    · show own_Go _ _ _ _ (T174.setTop (mkF m 27 #[.val (.ref ub), .val (.int (47 : Int32)), .val (.int (3 : Int32)), .val (.int (2 : Int32))] [(.int (47 : Int32)), (.int (c2_.toInt8.toInt32))]))
      refine own_go (fun t k => XS.icmpNo X174.here hx rfl (hb hby d_j43_27_27) rfl (teq ((own_b47 B2).mpr s2)).2 k) ?_
      refine own_go (fun t k => XS.iloadN X174.here hx rfl (hb hby d_j43_27_30) rfl k) ?_
      show own_Go _ _ _ _ (T174.setTop (mkF m 31 #[.val (.ref ub), .val (.int (47 : Int32)), .val (.int (3 : Int32)), .val (.int (2 : Int32))] [(.int (2 : Int32))]))
      refine own_ret X174 hx hlk hret rfl (Or.inl ⟨rfl, Or.inl rfl, _, rfl⟩) (hb hby d_j43_27_31) ?_ (by decide) (by decide)
      rw [e174]
      exact ⟨by simp [own_last4, s3, s2], N174, rfl⟩
    · show own_Go _ _ _ _ (T174.setTop (mkF m 27 #[.val (.ref ub), .val (.int (47 : Int32)), .val (.int (3 : Int32)), .val (.int (2 : Int32))] [(.int (47 : Int32)), (.int (c2_.toInt8.toInt32))]))
      refine own_go (fun t k => XS.icmpYes X174.here hx rfl (pc0 := 27) (pc' := 32) rfl (hb hby d_j43_27_27) rfl (feq (fun q => s2 ((own_b47 B2).mp q))).2 (by decide) (by decide) k) ?_
      refine own_go (fun t k => XS.iinc X174.here hx rfl (hb hby d_j43_27_32) rfl (l' := #[.val (.ref ub), .val (.int (47 : Int32)), .val (.int (3 : Int32)), .val (.int ((2 : Int32) + (-1 : Int32)))]) rfl k) ?_
      refine own_go (fun t k => XS.goto X174.here hx rfl (pc0 := 35) (pc' := 18) rfl (hb hby d_j43_27_35) (by decide) (by decide) k) ?_
      refine own_go (fun t k => XS.iloadN X174.here hx rfl (hb hby d_j43_27_18) rfl k) ?_
      show own_Go _ _ _ _ (T174.setTop (mkF m 19 #[.val (.ref ub), .val (.int (47 : Int32)), .val (.int (3 : Int32)), .val (.int (1 : Int32))] [(.int (1 : Int32))]))
      refine own_go (fun t k => XS.ifNo X174.here hx rfl (hb hby d_j43_27_19) rfl ((if0 _ _).trans (flt (by decide : ¬ ((1 : Int32) < (0 : Int32)))).1) k) ?_
      refine own_go (fun t k => XS.aloadN X174.here hx rfl (hb hby d_j43_27_22) rfl rfl k) ?_
      refine own_go (fun t k => XS.iloadN X174.here hx rfl (hb hby d_j43_27_23) rfl k) ?_
      show own_Go _ _ _ _ (T174.setTop (mkF m 24 #[.val (.ref ub), .val (.int (47 : Int32)), .val (.int (3 : Int32)), .val (.int (1 : Int32))] [(.int (1 : Int32)), (.ref ub)]))
      obtain ⟨cl177, Ar177, qk177, sz177, nn177, ha177, gf177⟩ := id A0
      have hin177 : ¬ ((1 : Int32) < 0 ∨ cl177.slots.size ≤ ((1 : Int32)).toNatClampNeg) := inb_of sz177 ⟨by decide, by decide⟩
      have hat177 : cl177.slots[((1 : Int32)).toNatClampNeg]? = some (.int (c1_.toInt8.toInt32)) := ha177.at hin177 rfl
      refine own_go (X174.baloadBytes hx (j := (1 : Int32)) (v := (.int (c1_.toInt8.toInt32))) (by rw [e174]; exact Ar177.1) (State.isArrayOf_alike hZ.alike Ar177.2.1) Ar177.2.2 hin177 hat177 (g := (mkF m 24 #[.val (.ref ub), .val (.int (47 : Int32)), .val (.int (3 : Int32)), .val (.int (1 : Int32))] [(.int (1 : Int32)), (.ref ub)])) rfl rfl (hb hby d_j43_27_24)) ?_
      refine own_go (fun t k => XS.iloadN X174.here hx rfl (hb hby d_j43_27_25) rfl k) ?_
      refine own_go (fun t k => XS.i2b X174.here hx rfl (hb hby d_j43_27_26) rfl k) ?_
      by_cases s1 : c1_ = 47
      · show own_Go _ _ _ _ (T174.setTop (mkF m 27 #[.val (.ref ub), .val (.int (47 : Int32)), .val (.int (3 : Int32)), .val (.int (1 : Int32))] [(.int (47 : Int32)), (.int (c1_.toInt8.toInt32))]))
        refine own_go (fun t k => XS.icmpNo X174.here hx rfl (hb hby d_j43_27_27) rfl (teq ((own_b47 B1).mpr s1)).2 k) ?_
        refine own_go (fun t k => XS.iloadN X174.here hx rfl (hb hby d_j43_27_30) rfl k) ?_
        show own_Go _ _ _ _ (T174.setTop (mkF m 31 #[.val (.ref ub), .val (.int (47 : Int32)), .val (.int (3 : Int32)), .val (.int (1 : Int32))] [(.int (1 : Int32))]))
        refine own_ret X174 hx hlk hret rfl (Or.inl ⟨rfl, Or.inl rfl, _, rfl⟩) (hb hby d_j43_27_31) ?_ (by decide) (by decide)
        rw [e174]
        exact ⟨by simp [own_last4, s3, s2, s1], N174, rfl⟩
      · show own_Go _ _ _ _ (T174.setTop (mkF m 27 #[.val (.ref ub), .val (.int (47 : Int32)), .val (.int (3 : Int32)), .val (.int (1 : Int32))] [(.int (47 : Int32)), (.int (c1_.toInt8.toInt32))]))
        refine own_go (fun t k => XS.icmpYes X174.here hx rfl (pc0 := 27) (pc' := 32) rfl (hb hby d_j43_27_27) rfl (feq (fun q => s1 ((own_b47 B1).mp q))).2 (by decide) (by decide) k) ?_
        refine own_go (fun t k => XS.iinc X174.here hx rfl (hb hby d_j43_27_32) rfl (l' := #[.val (.ref ub), .val (.int (47 : Int32)), .val (.int (3 : Int32)), .val (.int ((1 : Int32) + (-1 : Int32)))]) rfl k) ?_
        refine own_go (fun t k => XS.goto X174.here hx rfl (pc0 := 35) (pc' := 18) rfl (hb hby d_j43_27_35) (by decide) (by decide) k) ?_
        refine own_go (fun t k => XS.iloadN X174.here hx rfl (hb hby d_j43_27_18) rfl k) ?_
        show own_Go _ _ _ _ (T174.setTop (mkF m 19 #[.val (.ref ub), .val (.int (47 : Int32)), .val (.int (3 : Int32)), .val (.int (0 : Int32))] [(.int (0 : Int32))]))
        refine own_go (fun t k => XS.ifNo X174.here hx rfl (hb hby d_j43_27_19) rfl ((if0 _ _).trans (flt (by decide : ¬ ((0 : Int32) < (0 : Int32)))).1) k) ?_
        refine own_go (fun t k => XS.aloadN X174.here hx rfl (hb hby d_j43_27_22) rfl rfl k) ?_
        refine own_go (fun t k => XS.iloadN X174.here hx rfl (hb hby d_j43_27_23) rfl k) ?_
        show own_Go _ _ _ _ (T174.setTop (mkF m 24 #[.val (.ref ub), .val (.int (47 : Int32)), .val (.int (3 : Int32)), .val (.int (0 : Int32))] [(.int (0 : Int32)), (.ref ub)]))
        obtain ⟨cl178, Ar178, qk178, sz178, nn178, ha178, gf178⟩ := id A0
        have hin178 : ¬ ((0 : Int32) < 0 ∨ cl178.slots.size ≤ ((0 : Int32)).toNatClampNeg) := inb_of sz178 ⟨by decide, by decide⟩
        have hat178 : cl178.slots[((0 : Int32)).toNatClampNeg]? = some (.int (47 : Int32)) := ha178.at hin178 rfl
        refine own_go (X174.baloadBytes hx (j := (0 : Int32)) (v := (.int (47 : Int32))) (by rw [e174]; exact Ar178.1) (State.isArrayOf_alike hZ.alike Ar178.2.1) Ar178.2.2 hin178 hat178 (g := (mkF m 24 #[.val (.ref ub), .val (.int (47 : Int32)), .val (.int (3 : Int32)), .val (.int (0 : Int32))] [(.int (0 : Int32)), (.ref ub)])) rfl rfl (hb hby d_j43_27_24)) ?_
        refine own_go (fun t k => XS.iloadN X174.here hx rfl (hb hby d_j43_27_25) rfl k) ?_
        refine own_go (fun t k => XS.i2b X174.here hx rfl (hb hby d_j43_27_26) rfl k) ?_
        show own_Go _ _ _ _ (T174.setTop (mkF m 27 #[.val (.ref ub), .val (.int (47 : Int32)), .val (.int (3 : Int32)), .val (.int (0 : Int32))] [(.int (47 : Int32)), (.int (47 : Int32))]))
        refine own_go (fun t k => XS.icmpNo X174.here hx rfl (hb hby d_j43_27_27) rfl (teq (by decide : (47 : Int32) = (47 : Int32))).2 k) ?_
        refine own_go (fun t k => XS.iloadN X174.here hx rfl (hb hby d_j43_27_30) rfl k) ?_
        show own_Go _ _ _ _ (T174.setTop (mkF m 31 #[.val (.ref ub), .val (.int (47 : Int32)), .val (.int (3 : Int32)), .val (.int (0 : Int32))] [(.int (0 : Int32))]))
        refine own_ret X174 hx hlk hret rfl (Or.inl ⟨rfl, Or.inl rfl, _, rfl⟩) (hb hby d_j43_27_31) ?_ (by decide) (by decide)
        rw [e174]
        exact ⟨by simp [own_last4, s3, s2, s1], N174, rfl⟩
def Q_lx2_4 (Z : State) (us : Addr) (ub : Addr) (kb : ClassId) (c1_ : Int32) (c2_ : Int32) (c3_ : Int32) (c4_ : Int32) (zv : Int32) (gv : Value) (h0 : Heap) (n0 : Nat) (v : Option Value) (h : Heap) (L : List Loc) : Prop := v = some (.int (own_last4 c1_ c2_ c3_ c4_)) ∧ Fr n0 L ∧ h = h0
theorem ef_lx2_4 (m : MethodId) (us : Addr) : entryFrame m #[(.ref us), (.int (47 : Int32)), (.int (3 : Int32))] 3 = mkF m 0 #[.val (.ref us), .val (.int (47 : Int32)), .val (.int (3 : Int32))] [] := by first | (simp [entryFrame, mkF, argsToLocals, Value.category]; done) | rfl
set_option maxRecDepth 65536 in
set_option maxHeartbeats 40000000 in
theorem rm_lx2_4 (l : Launch) (Z : State) (a0 : Array Value) (hw : ∀ d ∈ tables_1, d.before a0 Z = true) (ws : List Jvm.Cond) (us ub : Addr) (kb : ClassId) (c1_ c2_ c3_ c4_ zv : Int32) (gv : Value) (h0 : Heap) (n0 : Nat) (Z0 : n0 ≤ h0.size) (E0 : Exa Z h0 us "java/lang/String") (Cc0 : Fld Z h0 us "java/lang/String" "coder" "B" (.int (0 : Int32))) (V0 : Fld Z h0 us "java/lang/String" "value" "[B" (.ref ub)) (A0 : Arv Z h0 ub kb .byte (4 : Int32) [(.int (47 : Int32)), (.int (c1_.toInt8.toInt32)), (.int (c2_.toInt8.toInt32)), (.int (c3_.toInt8.toInt32))] (.int (0 : Int32))) (B1 : own_B c1_) (B2 : own_B c2_) (B3 : own_B c3_) (B4 : own_B c4_) (O0 : Old Z n0 h0) (hzv : ¬ zv = (0 : Int32)) (S0 : Sta Z Z.heap "java/lang/String" "COMPACT_STRINGS" "Z" (.int zv)) (rgv : gv.isRef = true) (G0 : Sta Z Z.heap "jdk/internal/util/Preconditions" "SIOOBE_FORMATTER" "Ljava/util/function/BiFunction;" gv) :
    own_Met l Z (⟨"java/lang/String", "lastIndexOf", "(II)I"⟩ : MethodName) jdk_42_method_83_code 3 (some .int) ws ({ frames := 2, cells := 0, slots := 0, locals := 28 } : Room) #[(.ref us), (.int (47 : Int32)), (.int (3 : Int32))] h0 (Q_lx2_4 Z us ub kb c1_ c2_ c3_ c4_ zv gv h0 n0) := by
  refine own_enter (own := "java/lang/String") (plainFor_of_name pn_2) rfl ?_
  intro p e s m below meth c s₁ hlk hret hx hby hml hown hnm hZ X0 e0
  have N0 := Fr.nil n0
  refine own_cast (ef_lx2_4 m us) ?_
  show own_Go _ _ _ _ (s₁.setTop (mkF m 0 #[.val (.ref us), .val (.int (47 : Int32)), .val (.int (3 : Int32))] []))
  refine own_go (fun t k => XS.aloadN X0.here hx rfl (hb hby d_j42_83_0) rfl rfl k) ?_
  obtain ⟨cq179, kq179, q179a, q179b, q179c⟩ := isOf hZ e0 E0
  obtain ⟨_, _, ⟨T179, L179, k179, n179⟩, -, X179, ⟨Lc179, hQ179, l179, y179, z179⟩, st179⟩ := X0.virtualBack hx (y := (⟨"java/lang/String", "isLatin1", "()Z"⟩ : MethodName)) (z := (⟨"java/lang/String", "isLatin1", "()Z"⟩ : MethodName)) hown (mvT hZ (w_75 hw)) (mvT hZ (w_76 hw)) (notFace_of_selects (args := #[]) (mvT hZ (w_78 hw))) (mvT hZ (w_78 hw)) (mvT hZ (w_77 hw)) (by decide) (backOf (W := 0) (rm_il1 l Z a0 hw [] us zv gv h0 n0 Z0 O0 hzv S0 rgv G0 Cc0) hZ (w_79 hw) (w_7 hw) (by decide) (by decide)) q179a q179c (g := (mkF m 1 #[.val (.ref us), .val (.int (47 : Int32)), .val (.int (3 : Int32))] [(.ref us)])) rfl (by rw [hml]; rfl) (Steps.refl _) (argsL := []) (rest := []) (lenOf pd_2 rfl) rfl (by show 2 * 0 + _ ≤ _; exact Nat.le_of_eq rfl) (hb hby d_j42_83_1) (fun _ _ => ⟨rfl, e0, (by decide : 0 + 0 ≤ _), (by decide : 0 + 0 ≤ _)⟩)
  dsimp only [Pt.U, Pt.locs, Pt.cells, Pt.slots] at X179 l179 y179 z179 st179 hQ179
  subst l179 y179 z179
  obtain ⟨rfl, N179q, e179⟩ := hQ179
  have N179 := Fr.app N0 N179q
  refine own_go (fun t k => st179.trans k) ?_
  show own_Go _ _ _ _ (T179.setTop (mkF m 4 #[.val (.ref us), .val (.int (47 : Int32)), .val (.int (3 : Int32))] [(.int (1 : Int32))]))
  refine own_go (fun t k => XS.ifNo X179.here hx rfl (hb hby d_j42_83_4) rfl ((if0 _ _).trans (feq (by decide : ¬ ((1 : Int32) = (0 : Int32)))).1) k) ?_
  refine own_go (fun t k => XS.aloadN X179.here hx rfl (hb hby d_j42_83_7) rfl rfl k) ?_
  show own_Go _ _ _ _ (T179.setTop (mkF m 8 #[.val (.ref us), .val (.int (47 : Int32)), .val (.int (3 : Int32))] [(.ref us)]))
  obtain ⟨T180, X180, e180, st180⟩ := getF X179 hx hZ hown (host := "") (Or.inl (w_36 hw)) Via.refl e179 V0 (g := (mkF m 8 #[.val (.ref us), .val (.int (47 : Int32)), .val (.int (3 : Int32))] [(.ref us)])) rfl rfl (hb hby d_j42_83_8)
  refine own_go st180 ?_
  refine own_go (fun t k => XS.iloadN X180.here hx rfl (hb hby d_j42_83_11) rfl k) ?_
  refine own_go (fun t k => XS.iloadN X180.here hx rfl (hb hby d_j42_83_12) rfl k) ?_
  obtain ⟨_, _, ⟨T181, L181, k181, n181⟩, -, X181, ⟨Lc181, hQ181, l181, y181, z181⟩, st181⟩ := Jvm.LawKit.callS X180 hx (y := (⟨"java/lang/StringLatin1", "lastIndexOf", "([BII)I"⟩ : MethodName)) hown (mvT hZ (w_80 hw)) (mvT hZ (w_81 hw)) (mvT hZ (w_53 hw)) (mvT hZ (w_82 hw)) (by decide) (backOf (W := 0) (rm_lx3_4 l Z a0 hw [] ub kb c1_ c2_ c3_ c4_ h0 n0 Z0 A0 B1 B2 B3 B4) hZ (w_82 hw) (w_53 hw) (by decide) (by decide)) (g := (mkF m 13 #[.val (.ref us), .val (.int (47 : Int32)), .val (.int (3 : Int32))] [(.int (3 : Int32)), (.int (47 : Int32)), (.ref ub)])) rfl (by rw [hml]; rfl) (argsL := [(.ref ub), (.int (47 : Int32)), (.int (3 : Int32))]) (rest := []) (lenOf pd_3 rfl) rfl (by show 2 * 0 + _ ≤ _; exact Nat.le_of_eq rfl) (hb hby d_j42_83_13) (fun _ _ => ⟨rfl, e180, (by decide : 0 + 0 ≤ _), (by decide : 0 + 0 ≤ _)⟩)
  dsimp only [Pt.U, Pt.locs, Pt.cells, Pt.slots] at X181 l181 y181 z181 st181 hQ181
  subst l181 y181 z181
  obtain ⟨rfl, N181q, e181⟩ := hQ181
  have N181 := Fr.app N179 N181q
  refine own_go st181 ?_
  refine own_go (fun t k => XS.goto X181.here hx rfl (pc0 := 16) (pc' := 28) rfl (hb hby d_j42_83_16) (by decide) (by decide) k) ?_
  show own_Go _ _ _ _ (T181.setTop (mkF m 28 #[.val (.ref us), .val (.int (47 : Int32)), .val (.int (3 : Int32))] [(.int (own_last4 c1_ c2_ c3_ c4_))]))
  refine own_ret X181 hx hlk hret rfl (Or.inl ⟨rfl, Or.inl rfl, _, rfl⟩) (hb hby d_j42_83_28) ?_ (by decide) (by decide)
  rw [e181]
  exact ⟨rfl, N181, rfl⟩
def Q_lx1_4 (Z : State) (us : Addr) (ub : Addr) (kb : ClassId) (c1_ : Int32) (c2_ : Int32) (c3_ : Int32) (c4_ : Int32) (zv : Int32) (gv : Value) (h0 : Heap) (n0 : Nat) (v : Option Value) (h : Heap) (L : List Loc) : Prop := v = some (.int (own_last4 c1_ c2_ c3_ c4_)) ∧ Fr n0 L ∧ h = h0
theorem ef_lx1_4 (m : MethodId) (us : Addr) : entryFrame m #[(.ref us), (.int (47 : Int32))] 2 = mkF m 0 #[.val (.ref us), .val (.int (47 : Int32))] [] := by first | (simp [entryFrame, mkF, argsToLocals, Value.category]; done) | rfl
set_option maxRecDepth 65536 in
set_option maxHeartbeats 40000000 in
theorem rm_lx1_4 (l : Launch) (Z : State) (a0 : Array Value) (hw : ∀ d ∈ tables_1, d.before a0 Z = true) (ws : List Jvm.Cond) (us ub : Addr) (kb : ClassId) (c1_ c2_ c3_ c4_ zv : Int32) (gv : Value) (h0 : Heap) (n0 : Nat) (Z0 : n0 ≤ h0.size) (E0 : Exa Z h0 us "java/lang/String") (Cc0 : Fld Z h0 us "java/lang/String" "coder" "B" (.int (0 : Int32))) (V0 : Fld Z h0 us "java/lang/String" "value" "[B" (.ref ub)) (A0 : Arv Z h0 ub kb .byte (4 : Int32) [(.int (47 : Int32)), (.int (c1_.toInt8.toInt32)), (.int (c2_.toInt8.toInt32)), (.int (c3_.toInt8.toInt32))] (.int (0 : Int32))) (B1 : own_B c1_) (B2 : own_B c2_) (B3 : own_B c3_) (B4 : own_B c4_) (O0 : Old Z n0 h0) (hzv : ¬ zv = (0 : Int32)) (S0 : Sta Z Z.heap "java/lang/String" "COMPACT_STRINGS" "Z" (.int zv)) (rgv : gv.isRef = true) (G0 : Sta Z Z.heap "jdk/internal/util/Preconditions" "SIOOBE_FORMATTER" "Ljava/util/function/BiFunction;" gv) :
    own_Met l Z (⟨"java/lang/String", "lastIndexOf", "(I)I"⟩ : MethodName) jdk_42_method_82_code 2 (some .int) ws ({ frames := 3, cells := 0, slots := 0, locals := 42 } : Room) #[(.ref us), (.int (47 : Int32))] h0 (Q_lx1_4 Z us ub kb c1_ c2_ c3_ c4_ zv gv h0 n0) := by
  refine own_enter (own := "java/lang/String") (plainFor_of_name pn_2) rfl ?_
  intro p e s m below meth c s₁ hlk hret hx hby hml hown hnm hZ X0 e0
  have N0 := Fr.nil n0
  refine own_cast (ef_lx1_4 m us) ?_
  show own_Go _ _ _ _ (s₁.setTop (mkF m 0 #[.val (.ref us), .val (.int (47 : Int32))] []))
  refine own_go (fun t k => XS.aloadN X0.here hx rfl (hb hby d_j42_82_0) rfl rfl k) ?_
  refine own_go (fun t k => XS.iloadN X0.here hx rfl (hb hby d_j42_82_1) rfl k) ?_
  refine own_go (fun t k => XS.aloadN X0.here hx rfl (hb hby d_j42_82_2) rfl rfl k) ?_
  have hB182 : ∀ c ∈ ([(47 : Int32), c1_, c2_, c3_] : List Int32), own_B c := (List.forall_mem_cons.mpr ⟨(by constructor <;> decide : own_B (47 : Int32)), (List.forall_mem_cons.mpr ⟨B1, (List.forall_mem_cons.mpr ⟨B2, (List.forall_mem_cons.mpr ⟨B3, (List.forall_mem_nil _)⟩)⟩)⟩)⟩)
  have hD182 := StrChars.Road.codOf (cs := ([(47 : Int32), c1_, c2_, c3_] : List Int32)) (n := 4) rfl (fun x hx => (hB182 x hx).2)
  have hU182 := own_up _ hB182
  obtain ⟨cq183, kq183, q183a, q183b, q183c⟩ := isOf hZ e0 E0
  obtain ⟨_, _, ⟨T183, L183, k183, n183⟩, -, X183, ⟨Lc183, hQ183, l183, y183, z183⟩, st183⟩ := X0.virtualBack hx (y := (⟨"java/lang/String", "length", "()I"⟩ : MethodName)) (z := (⟨"java/lang/String", "length", "()I"⟩ : MethodName)) hown (mvT hZ (w_60 hw)) (mvT hZ (w_61 hw)) (notFace_of_selects (args := #[]) (mvT hZ (w_63 hw))) (mvT hZ (w_63 hw)) (mvT hZ (w_62 hw)) (by decide) (StrChars.Road.lenW (W := 2) hZ (own_wlen hw) (kI := 4) (w_6 hw) (cs := ([(47 : Int32), c1_, c2_, c3_] : List Int32)) E0 V0 Cc0 A0 hD182 hU182 (S0.ext O0.2) hzv (Nat.le_of_ble_eq_true rfl) (by decide) (by decide)) q183a q183c (g := (mkF m 3 #[.val (.ref us), .val (.int (47 : Int32))] [(.ref us), (.int (47 : Int32)), (.ref us)])) rfl (by rw [hml]; rfl) (Steps.refl _) (argsL := []) (rest := [(.int (47 : Int32)), (.ref us)]) (lenOf pd_4 rfl) rfl (by show 2 * 0 + _ ≤ _; exact Nat.le_of_eq rfl) (hb hby d_j42_82_3) (fun _ _ => ⟨rfl, e0, (by decide : 0 + 0 ≤ _), (by decide : 0 + 0 ≤ _)⟩)
  dsimp only [Pt.U, Pt.locs, Pt.cells, Pt.slots] at X183 l183 y183 z183 st183 hQ183
  subst l183 y183 z183
  obtain ⟨rfl, rfl, e183⟩ := hQ183
  have N183q : Fr n0 ([] : List Loc) := Fr.nil n0
  have N183 := Fr.app N0 N183q
  refine own_go (fun t k => st183.trans k) ?_
  show own_Go _ _ _ _ (T183.setTop (mkF m 6 #[.val (.ref us), .val (.int (47 : Int32))] [(.int (4 : Int32)), (.int (47 : Int32)), (.ref us)]))
  refine own_go (fun t k => XS.iconst X183.here hx rfl (hb hby d_j42_82_6) k) ?_
  refine own_go (fun t k => XS.isub X183.here hx rfl (hb hby d_j42_82_7) rfl k) ?_
  show own_Go _ _ _ _ (T183.setTop (mkF m 8 #[.val (.ref us), .val (.int (47 : Int32))] [(.int (3 : Int32)), (.int (47 : Int32)), (.ref us)]))
  obtain ⟨cq184, kq184, q184a, q184b, q184c⟩ := isOf hZ e183 E0
  obtain ⟨_, _, ⟨T184, L184, k184, n184⟩, -, X184, ⟨Lc184, hQ184, l184, y184, z184⟩, st184⟩ := X183.virtualBack hx (y := (⟨"java/lang/String", "lastIndexOf", "(II)I"⟩ : MethodName)) (z := (⟨"java/lang/String", "lastIndexOf", "(II)I"⟩ : MethodName)) hown (mvT hZ (w_70 hw)) (mvT hZ (w_71 hw)) (notFace_of_selects (args := #[]) (mvT hZ (w_73 hw))) (mvT hZ (w_73 hw)) (mvT hZ (w_72 hw)) (by decide) (backOf (W := 0) (rm_lx2_4 l Z a0 hw [] us ub kb c1_ c2_ c3_ c4_ zv gv h0 n0 Z0 E0 Cc0 V0 A0 B1 B2 B3 B4 O0 hzv S0 rgv G0) hZ (w_74 hw) (w_7 hw) (by decide) (by decide)) q184a q184c (g := (mkF m 8 #[.val (.ref us), .val (.int (47 : Int32))] [(.int (3 : Int32)), (.int (47 : Int32)), (.ref us)])) rfl (by rw [hml]; rfl) (Steps.refl _) (argsL := [(.int (47 : Int32)), (.int (3 : Int32))]) (rest := []) (lenOf pd_1 rfl) rfl (by show 2 * 0 + _ ≤ _; exact Nat.le_of_eq rfl) (hb hby d_j42_82_8) (fun _ _ => ⟨rfl, e183, (by decide : 0 + 0 ≤ _), (by decide : 0 + 0 ≤ _)⟩)
  dsimp only [Pt.U, Pt.locs, Pt.cells, Pt.slots] at X184 l184 y184 z184 st184 hQ184
  subst l184 y184 z184
  obtain ⟨rfl, N184q, e184⟩ := hQ184
  have N184 := Fr.app N183 N184q
  refine own_go (fun t k => st184.trans k) ?_
  show own_Go _ _ _ _ (T184.setTop (mkF m 11 #[.val (.ref us), .val (.int (47 : Int32))] [(.int (own_last4 c1_ c2_ c3_ c4_))]))
  refine own_ret X184 hx hlk hret rfl (Or.inl ⟨rfl, Or.inl rfl, _, rfl⟩) (hb hby d_j42_82_11) ?_ (by decide) (by decide)
  rw [e184]
  exact ⟨rfl, N184, rfl⟩
def Q_lx3_5 (Z : State) (ub : Addr) (kb : ClassId) (c1_ : Int32) (c2_ : Int32) (c3_ : Int32) (c4_ : Int32) (h0 : Heap) (n0 : Nat) (v : Option Value) (h : Heap) (L : List Loc) : Prop := v = some (.int (own_last5 c1_ c2_ c3_ c4_)) ∧ Fr n0 L ∧ h = h0
theorem ef_lx3_5 (m : MethodId) (ub : Addr) : entryFrame m #[(.ref ub), (.int (47 : Int32)), (.int (4 : Int32))] 4 = mkF m 0 #[.val (.ref ub), .val (.int (47 : Int32)), .val (.int (4 : Int32)), .unset] [] := by first | (simp [entryFrame, mkF, argsToLocals, Value.category]; done) | rfl
set_option maxRecDepth 65536 in
set_option maxHeartbeats 40000000 in
theorem rm_lx3_5 (l : Launch) (Z : State) (a0 : Array Value) (hw : ∀ d ∈ tables_1, d.before a0 Z = true) (ws : List Jvm.Cond) (ub : Addr) (kb : ClassId) (c1_ c2_ c3_ c4_ : Int32) (h0 : Heap) (n0 : Nat) (Z0 : n0 ≤ h0.size) (A0 : Arv Z h0 ub kb .byte (5 : Int32) [(.int (47 : Int32)), (.int (c1_.toInt8.toInt32)), (.int (c2_.toInt8.toInt32)), (.int (c3_.toInt8.toInt32)), (.int (c4_.toInt8.toInt32))] (.int (0 : Int32))) (B1 : own_B c1_) (B2 : own_B c2_) (B3 : own_B c3_) (B4 : own_B c4_) :
    own_Met l Z (⟨"java/lang/StringLatin1", "lastIndexOf", "([BII)I"⟩ : MethodName) jdk_43_method_27_code 4 (some .int) ws ({ frames := 1, cells := 0, slots := 0, locals := 13 } : Room) #[(.ref ub), (.int (47 : Int32)), (.int (4 : Int32))] h0 (Q_lx3_5 Z ub kb c1_ c2_ c3_ c4_ h0 n0) := by
  refine own_enter (own := "java/lang/StringLatin1") (plainFor_of_name pn_1) rfl ?_
  intro p e s m below meth c s₁ hlk hret hx hby hml hown hnm hZ X0 e0
  have N0 := Fr.nil n0
  refine own_cast (ef_lx3_5 m ub) ?_
  show own_Go _ _ _ _ (s₁.setTop (mkF m 0 #[.val (.ref ub), .val (.int (47 : Int32)), .val (.int (4 : Int32)), .unset] []))
  refine own_go (fun t k => XS.iloadN X0.here hx rfl (hb hby d_j43_27_0) rfl k) ?_
  obtain ⟨_, _, ⟨T185, L185, k185, n185⟩, -, X185, ⟨Lc185, hQ185, l185, y185, z185⟩, st185⟩ := Jvm.LawKit.callS X0 hx (y := (⟨"java/lang/StringLatin1", "canEncode", "(I)Z"⟩ : MethodName)) hown (mvT hZ (w_83 hw)) (mvT hZ (w_84 hw)) (mvT hZ (w_53 hw)) (mvT hZ (w_85 hw)) (by decide) (backOf (W := 0) (rm_enc l Z a0 hw []  h0 n0 Z0 ) hZ (w_85 hw) (w_53 hw) (by decide) (by decide)) (g := (mkF m 1 #[.val (.ref ub), .val (.int (47 : Int32)), .val (.int (4 : Int32)), .unset] [(.int (47 : Int32))])) rfl (by rw [hml]; rfl) (argsL := [(.int (47 : Int32))]) (rest := []) (lenOf pd_0 rfl) rfl (by show 2 * 0 + _ ≤ _; exact Nat.le_of_eq rfl) (hb hby d_j43_27_1) (fun _ _ => ⟨rfl, e0, (by decide : 0 + 0 ≤ _), (by decide : 0 + 0 ≤ _)⟩)
  dsimp only [Pt.U, Pt.locs, Pt.cells, Pt.slots] at X185 l185 y185 z185 st185 hQ185
  subst l185 y185 z185
  obtain ⟨rfl, N185q, e185⟩ := hQ185
  have N185 := Fr.app N0 N185q
  refine own_go st185 ?_
  show own_Go _ _ _ _ (T185.setTop (mkF m 4 #[.val (.ref ub), .val (.int (47 : Int32)), .val (.int (4 : Int32)), .unset] [(.int (1 : Int32))]))
  refine own_go (fun t k => XS.ifYes X185.here hx rfl (pc0 := 4) (pc' := 9) rfl (hb hby d_j43_27_4) rfl ((if0 _ _).trans (feq (by decide : ¬ ((1 : Int32) = (0 : Int32)))).2) (by decide) (by decide) k) ?_
  refine own_go (fun t k => XS.iloadN X185.here hx rfl (hb hby d_j43_27_9) rfl k) ?_
  refine own_go (fun t k => XS.aloadN X185.here hx rfl (hb hby d_j43_27_10) rfl rfl k) ?_
  show own_Go _ _ _ _ (T185.setTop (mkF m 11 #[.val (.ref ub), .val (.int (47 : Int32)), .val (.int (4 : Int32)), .unset] [(.ref ub), (.int (4 : Int32))]))
  obtain ⟨cl186, Ar186, qk186, sz186, nn186, ha186, gf186⟩ := id A0
  refine own_go (X185.arraylength hx (by rw [e185]; exact Ar186.1) (State.isArrayOf_alike hZ.alike Ar186.2.1) (g := (mkF m 11 #[.val (.ref ub), .val (.int (47 : Int32)), .val (.int (4 : Int32)), .unset] [(.ref ub), (.int (4 : Int32))])) rfl rfl (hb hby d_j43_27_11)) ?_
  rw [len_of sz186 nn186]
  refine own_go (fun t k => XS.iconst X185.here hx rfl (hb hby d_j43_27_12) k) ?_
  refine own_go (fun t k => XS.isub X185.here hx rfl (hb hby d_j43_27_13) rfl k) ?_
  show own_Go _ _ _ _ (T185.setTop (mkF m 14 #[.val (.ref ub), .val (.int (47 : Int32)), .val (.int (4 : Int32)), .unset] [(.int (4 : Int32)), (.int (4 : Int32))]))
  obtain ⟨_, _, ⟨T187, L187, k187, n187⟩, -, X187, ⟨Lc187, hQ187, l187, y187, z187⟩, st187⟩ := Jvm.LawKit.callS X185 hx (y := (⟨"java/lang/Math", "min", "(II)I"⟩ : MethodName)) hown (mvT hZ (w_86 hw)) (mvT hZ (w_87 hw)) (mvT hZ (w_88 hw)) (mvT hZ (w_89 hw)) (by decide) (backOf (W := 0) (rm_minA l Z a0 hw [] (4 : Int32) (4 : Int32) h0 n0 Z0 (by decide)) hZ (w_89 hw) (w_88 hw) (by decide) (by decide)) (g := (mkF m 14 #[.val (.ref ub), .val (.int (47 : Int32)), .val (.int (4 : Int32)), .unset] [(.int (4 : Int32)), (.int (4 : Int32))])) rfl (by rw [hml]; rfl) (argsL := [(.int (4 : Int32)), (.int (4 : Int32))]) (rest := []) (lenOf pd_1 rfl) rfl (by show 2 * 0 + _ ≤ _; exact Nat.le_of_eq rfl) (hb hby d_j43_27_14) (fun _ _ => ⟨rfl, e185, (by decide : 0 + 0 ≤ _), (by decide : 0 + 0 ≤ _)⟩)
  dsimp only [Pt.U, Pt.locs, Pt.cells, Pt.slots] at X187 l187 y187 z187 st187 hQ187
  subst l187 y187 z187
  obtain ⟨rfl, N187q, e187⟩ := hQ187
  have N187 := Fr.app N185 N187q
  refine own_go st187 ?_
  refine own_go (fun t k => XS.istoreN X187.here hx rfl (hb hby d_j43_27_17) rfl (l' := #[.val (.ref ub), .val (.int (47 : Int32)), .val (.int (4 : Int32)), .val (.int (4 : Int32))]) rfl k) ?_
  refine own_go (fun t k => XS.iloadN X187.here hx rfl (hb hby d_j43_27_18) rfl k) ?_
  show own_Go _ _ _ _ (T187.setTop (mkF m 19 #[.val (.ref ub), .val (.int (47 : Int32)), .val (.int (4 : Int32)), .val (.int (4 : Int32))] [(.int (4 : Int32))]))
  refine own_go (fun t k => XS.ifNo X187.here hx rfl (hb hby d_j43_27_19) rfl ((if0 _ _).trans (flt (by decide : ¬ ((4 : Int32) < (0 : Int32)))).1) k) ?_
  refine own_go (fun t k => XS.aloadN X187.here hx rfl (hb hby d_j43_27_22) rfl rfl k) ?_
  refine own_go (fun t k => XS.iloadN X187.here hx rfl (hb hby d_j43_27_23) rfl k) ?_
  show own_Go _ _ _ _ (T187.setTop (mkF m 24 #[.val (.ref ub), .val (.int (47 : Int32)), .val (.int (4 : Int32)), .val (.int (4 : Int32))] [(.int (4 : Int32)), (.ref ub)]))
  obtain ⟨cl188, Ar188, qk188, sz188, nn188, ha188, gf188⟩ := id A0
  have hin188 : ¬ ((4 : Int32) < 0 ∨ cl188.slots.size ≤ ((4 : Int32)).toNatClampNeg) := inb_of sz188 ⟨by decide, by decide⟩
  have hat188 : cl188.slots[((4 : Int32)).toNatClampNeg]? = some (.int (c4_.toInt8.toInt32)) := ha188.at hin188 rfl
  refine own_go (X187.baloadBytes hx (j := (4 : Int32)) (v := (.int (c4_.toInt8.toInt32))) (by rw [e187]; exact Ar188.1) (State.isArrayOf_alike hZ.alike Ar188.2.1) Ar188.2.2 hin188 hat188 (g := (mkF m 24 #[.val (.ref ub), .val (.int (47 : Int32)), .val (.int (4 : Int32)), .val (.int (4 : Int32))] [(.int (4 : Int32)), (.ref ub)])) rfl rfl (hb hby d_j43_27_24)) ?_
  refine own_go (fun t k => XS.iloadN X187.here hx rfl (hb hby d_j43_27_25) rfl k) ?_
  refine own_go (fun t k => XS.i2b X187.here hx rfl (hb hby d_j43_27_26) rfl k) ?_
  by_cases s4 : c4_ = 47
  · show own_Go _ _ _ _ (T187.setTop (mkF m 27 #[.val (.ref ub), .val (.int (47 : Int32)), .val (.int (4 : Int32)), .val (.int (4 : Int32))] [(.int (47 : Int32)), (.int (c4_.toInt8.toInt32))]))
    refine own_go (fun t k => XS.icmpNo X187.here hx rfl (hb hby d_j43_27_27) rfl (teq ((own_b47 B4).mpr s4)).2 k) ?_
    refine own_go (fun t k => XS.iloadN X187.here hx rfl (hb hby d_j43_27_30) rfl k) ?_
    show own_Go _ _ _ _ (T187.setTop (mkF m 31 #[.val (.ref ub), .val (.int (47 : Int32)), .val (.int (4 : Int32)), .val (.int (4 : Int32))] [(.int (4 : Int32))]))
    refine own_ret X187 hx hlk hret rfl (Or.inl ⟨rfl, Or.inl rfl, _, rfl⟩) (hb hby d_j43_27_31) ?_ (by decide) (by decide)
    rw [e187]
    exact ⟨by simp [own_last5, s4], N187, rfl⟩
  · show own_Go _ _ _ _ (T187.setTop (mkF m 27 #[.val (.ref ub), .val (.int (47 : Int32)), .val (.int (4 : Int32)), .val (.int (4 : Int32))] [(.int (47 : Int32)), (.int (c4_.toInt8.toInt32))]))
    refine own_go (fun t k => XS.icmpYes X187.here hx rfl (pc0 := 27) (pc' := 32) rfl (hb hby d_j43_27_27) rfl (feq (fun q => s4 ((own_b47 B4).mp q))).2 (by decide) (by decide) k) ?_
    refine own_go (fun t k => XS.iinc X187.here hx rfl (hb hby d_j43_27_32) rfl (l' := #[.val (.ref ub), .val (.int (47 : Int32)), .val (.int (4 : Int32)), .val (.int ((4 : Int32) + (-1 : Int32)))]) rfl k) ?_
    refine own_go (fun t k => XS.goto X187.here hx rfl (pc0 := 35) (pc' := 18) rfl (hb hby d_j43_27_35) (by decide) (by decide) k) ?_
    refine own_go (fun t k => XS.iloadN X187.here hx rfl (hb hby d_j43_27_18) rfl k) ?_
    show own_Go _ _ _ _ (T187.setTop (mkF m 19 #[.val (.ref ub), .val (.int (47 : Int32)), .val (.int (4 : Int32)), .val (.int (3 : Int32))] [(.int (3 : Int32))]))
    refine own_go (fun t k => XS.ifNo X187.here hx rfl (hb hby d_j43_27_19) rfl ((if0 _ _).trans (flt (by decide : ¬ ((3 : Int32) < (0 : Int32)))).1) k) ?_
    refine own_go (fun t k => XS.aloadN X187.here hx rfl (hb hby d_j43_27_22) rfl rfl k) ?_
    refine own_go (fun t k => XS.iloadN X187.here hx rfl (hb hby d_j43_27_23) rfl k) ?_
    show own_Go _ _ _ _ (T187.setTop (mkF m 24 #[.val (.ref ub), .val (.int (47 : Int32)), .val (.int (4 : Int32)), .val (.int (3 : Int32))] [(.int (3 : Int32)), (.ref ub)]))
    obtain ⟨cl189, Ar189, qk189, sz189, nn189, ha189, gf189⟩ := id A0
    have hin189 : ¬ ((3 : Int32) < 0 ∨ cl189.slots.size ≤ ((3 : Int32)).toNatClampNeg) := inb_of sz189 ⟨by decide, by decide⟩
    have hat189 : cl189.slots[((3 : Int32)).toNatClampNeg]? = some (.int (c3_.toInt8.toInt32)) := ha189.at hin189 rfl
    refine own_go (X187.baloadBytes hx (j := (3 : Int32)) (v := (.int (c3_.toInt8.toInt32))) (by rw [e187]; exact Ar189.1) (State.isArrayOf_alike hZ.alike Ar189.2.1) Ar189.2.2 hin189 hat189 (g := (mkF m 24 #[.val (.ref ub), .val (.int (47 : Int32)), .val (.int (4 : Int32)), .val (.int (3 : Int32))] [(.int (3 : Int32)), (.ref ub)])) rfl rfl (hb hby d_j43_27_24)) ?_
    refine own_go (fun t k => XS.iloadN X187.here hx rfl (hb hby d_j43_27_25) rfl k) ?_
    refine own_go (fun t k => XS.i2b X187.here hx rfl (hb hby d_j43_27_26) rfl k) ?_
    by_cases s3 : c3_ = 47
    · show own_Go _ _ _ _ (T187.setTop (mkF m 27 #[.val (.ref ub), .val (.int (47 : Int32)), .val (.int (4 : Int32)), .val (.int (3 : Int32))] [(.int (47 : Int32)), (.int (c3_.toInt8.toInt32))]))
      refine own_go (fun t k => XS.icmpNo X187.here hx rfl (hb hby d_j43_27_27) rfl (teq ((own_b47 B3).mpr s3)).2 k) ?_
      refine own_go (fun t k => XS.iloadN X187.here hx rfl (hb hby d_j43_27_30) rfl k) ?_
      show own_Go _ _ _ _ (T187.setTop (mkF m 31 #[.val (.ref ub), .val (.int (47 : Int32)), .val (.int (4 : Int32)), .val (.int (3 : Int32))] [(.int (3 : Int32))]))
      refine own_ret X187 hx hlk hret rfl (Or.inl ⟨rfl, Or.inl rfl, _, rfl⟩) (hb hby d_j43_27_31) ?_ (by decide) (by decide)
      rw [e187]
      exact ⟨by simp [own_last5, s4, s3], N187, rfl⟩
    · show own_Go _ _ _ _ (T187.setTop (mkF m 27 #[.val (.ref ub), .val (.int (47 : Int32)), .val (.int (4 : Int32)), .val (.int (3 : Int32))] [(.int (47 : Int32)), (.int (c3_.toInt8.toInt32))]))
      refine own_go (fun t k => XS.icmpYes X187.here hx rfl (pc0 := 27) (pc' := 32) rfl (hb hby d_j43_27_27) rfl (feq (fun q => s3 ((own_b47 B3).mp q))).2 (by decide) (by decide) k) ?_
      refine own_go (fun t k => XS.iinc X187.here hx rfl (hb hby d_j43_27_32) rfl (l' := #[.val (.ref ub), .val (.int (47 : Int32)), .val (.int (4 : Int32)), .val (.int ((3 : Int32) + (-1 : Int32)))]) rfl k) ?_
      refine own_go (fun t k => XS.goto X187.here hx rfl (pc0 := 35) (pc' := 18) rfl (hb hby d_j43_27_35) (by decide) (by decide) k) ?_
      refine own_go (fun t k => XS.iloadN X187.here hx rfl (hb hby d_j43_27_18) rfl k) ?_
      show own_Go _ _ _ _ (T187.setTop (mkF m 19 #[.val (.ref ub), .val (.int (47 : Int32)), .val (.int (4 : Int32)), .val (.int (2 : Int32))] [(.int (2 : Int32))]))
      refine own_go (fun t k => XS.ifNo X187.here hx rfl (hb hby d_j43_27_19) rfl ((if0 _ _).trans (flt (by decide : ¬ ((2 : Int32) < (0 : Int32)))).1) k) ?_
      refine own_go (fun t k => XS.aloadN X187.here hx rfl (hb hby d_j43_27_22) rfl rfl k) ?_
      refine own_go (fun t k => XS.iloadN X187.here hx rfl (hb hby d_j43_27_23) rfl k) ?_
      show own_Go _ _ _ _ (T187.setTop (mkF m 24 #[.val (.ref ub), .val (.int (47 : Int32)), .val (.int (4 : Int32)), .val (.int (2 : Int32))] [(.int (2 : Int32)), (.ref ub)]))
      obtain ⟨cl190, Ar190, qk190, sz190, nn190, ha190, gf190⟩ := id A0
      have hin190 : ¬ ((2 : Int32) < 0 ∨ cl190.slots.size ≤ ((2 : Int32)).toNatClampNeg) := inb_of sz190 ⟨by decide, by decide⟩
      have hat190 : cl190.slots[((2 : Int32)).toNatClampNeg]? = some (.int (c2_.toInt8.toInt32)) := ha190.at hin190 rfl
      refine own_go (X187.baloadBytes hx (j := (2 : Int32)) (v := (.int (c2_.toInt8.toInt32))) (by rw [e187]; exact Ar190.1) (State.isArrayOf_alike hZ.alike Ar190.2.1) Ar190.2.2 hin190 hat190 (g := (mkF m 24 #[.val (.ref ub), .val (.int (47 : Int32)), .val (.int (4 : Int32)), .val (.int (2 : Int32))] [(.int (2 : Int32)), (.ref ub)])) rfl rfl (hb hby d_j43_27_24)) ?_
      refine own_go (fun t k => XS.iloadN X187.here hx rfl (hb hby d_j43_27_25) rfl k) ?_
      refine own_go (fun t k => XS.i2b X187.here hx rfl (hb hby d_j43_27_26) rfl k) ?_
      by_cases s2 : c2_ = 47
      · show own_Go _ _ _ _ (T187.setTop (mkF m 27 #[.val (.ref ub), .val (.int (47 : Int32)), .val (.int (4 : Int32)), .val (.int (2 : Int32))] [(.int (47 : Int32)), (.int (c2_.toInt8.toInt32))]))
        refine own_go (fun t k => XS.icmpNo X187.here hx rfl (hb hby d_j43_27_27) rfl (teq ((own_b47 B2).mpr s2)).2 k) ?_
        refine own_go (fun t k => XS.iloadN X187.here hx rfl (hb hby d_j43_27_30) rfl k) ?_
        show own_Go _ _ _ _ (T187.setTop (mkF m 31 #[.val (.ref ub), .val (.int (47 : Int32)), .val (.int (4 : Int32)), .val (.int (2 : Int32))] [(.int (2 : Int32))]))
        refine own_ret X187 hx hlk hret rfl (Or.inl ⟨rfl, Or.inl rfl, _, rfl⟩) (hb hby d_j43_27_31) ?_ (by decide) (by decide)
        rw [e187]
        exact ⟨by simp [own_last5, s4, s3, s2], N187, rfl⟩
      · show own_Go _ _ _ _ (T187.setTop (mkF m 27 #[.val (.ref ub), .val (.int (47 : Int32)), .val (.int (4 : Int32)), .val (.int (2 : Int32))] [(.int (47 : Int32)), (.int (c2_.toInt8.toInt32))]))
        refine own_go (fun t k => XS.icmpYes X187.here hx rfl (pc0 := 27) (pc' := 32) rfl (hb hby d_j43_27_27) rfl (feq (fun q => s2 ((own_b47 B2).mp q))).2 (by decide) (by decide) k) ?_
        refine own_go (fun t k => XS.iinc X187.here hx rfl (hb hby d_j43_27_32) rfl (l' := #[.val (.ref ub), .val (.int (47 : Int32)), .val (.int (4 : Int32)), .val (.int ((2 : Int32) + (-1 : Int32)))]) rfl k) ?_
        refine own_go (fun t k => XS.goto X187.here hx rfl (pc0 := 35) (pc' := 18) rfl (hb hby d_j43_27_35) (by decide) (by decide) k) ?_
        refine own_go (fun t k => XS.iloadN X187.here hx rfl (hb hby d_j43_27_18) rfl k) ?_
        show own_Go _ _ _ _ (T187.setTop (mkF m 19 #[.val (.ref ub), .val (.int (47 : Int32)), .val (.int (4 : Int32)), .val (.int (1 : Int32))] [(.int (1 : Int32))]))
        refine own_go (fun t k => XS.ifNo X187.here hx rfl (hb hby d_j43_27_19) rfl ((if0 _ _).trans (flt (by decide : ¬ ((1 : Int32) < (0 : Int32)))).1) k) ?_
        refine own_go (fun t k => XS.aloadN X187.here hx rfl (hb hby d_j43_27_22) rfl rfl k) ?_
        refine own_go (fun t k => XS.iloadN X187.here hx rfl (hb hby d_j43_27_23) rfl k) ?_
        show own_Go _ _ _ _ (T187.setTop (mkF m 24 #[.val (.ref ub), .val (.int (47 : Int32)), .val (.int (4 : Int32)), .val (.int (1 : Int32))] [(.int (1 : Int32)), (.ref ub)]))
        obtain ⟨cl191, Ar191, qk191, sz191, nn191, ha191, gf191⟩ := id A0
        have hin191 : ¬ ((1 : Int32) < 0 ∨ cl191.slots.size ≤ ((1 : Int32)).toNatClampNeg) := inb_of sz191 ⟨by decide, by decide⟩
        have hat191 : cl191.slots[((1 : Int32)).toNatClampNeg]? = some (.int (c1_.toInt8.toInt32)) := ha191.at hin191 rfl
        refine own_go (X187.baloadBytes hx (j := (1 : Int32)) (v := (.int (c1_.toInt8.toInt32))) (by rw [e187]; exact Ar191.1) (State.isArrayOf_alike hZ.alike Ar191.2.1) Ar191.2.2 hin191 hat191 (g := (mkF m 24 #[.val (.ref ub), .val (.int (47 : Int32)), .val (.int (4 : Int32)), .val (.int (1 : Int32))] [(.int (1 : Int32)), (.ref ub)])) rfl rfl (hb hby d_j43_27_24)) ?_
        refine own_go (fun t k => XS.iloadN X187.here hx rfl (hb hby d_j43_27_25) rfl k) ?_
        refine own_go (fun t k => XS.i2b X187.here hx rfl (hb hby d_j43_27_26) rfl k) ?_
        by_cases s1 : c1_ = 47
        · show own_Go _ _ _ _ (T187.setTop (mkF m 27 #[.val (.ref ub), .val (.int (47 : Int32)), .val (.int (4 : Int32)), .val (.int (1 : Int32))] [(.int (47 : Int32)), (.int (c1_.toInt8.toInt32))]))
          refine own_go (fun t k => XS.icmpNo X187.here hx rfl (hb hby d_j43_27_27) rfl (teq ((own_b47 B1).mpr s1)).2 k) ?_
          refine own_go (fun t k => XS.iloadN X187.here hx rfl (hb hby d_j43_27_30) rfl k) ?_
          show own_Go _ _ _ _ (T187.setTop (mkF m 31 #[.val (.ref ub), .val (.int (47 : Int32)), .val (.int (4 : Int32)), .val (.int (1 : Int32))] [(.int (1 : Int32))]))
          refine own_ret X187 hx hlk hret rfl (Or.inl ⟨rfl, Or.inl rfl, _, rfl⟩) (hb hby d_j43_27_31) ?_ (by decide) (by decide)
          rw [e187]
          exact ⟨by simp [own_last5, s4, s3, s2, s1], N187, rfl⟩
        · show own_Go _ _ _ _ (T187.setTop (mkF m 27 #[.val (.ref ub), .val (.int (47 : Int32)), .val (.int (4 : Int32)), .val (.int (1 : Int32))] [(.int (47 : Int32)), (.int (c1_.toInt8.toInt32))]))
          refine own_go (fun t k => XS.icmpYes X187.here hx rfl (pc0 := 27) (pc' := 32) rfl (hb hby d_j43_27_27) rfl (feq (fun q => s1 ((own_b47 B1).mp q))).2 (by decide) (by decide) k) ?_
          refine own_go (fun t k => XS.iinc X187.here hx rfl (hb hby d_j43_27_32) rfl (l' := #[.val (.ref ub), .val (.int (47 : Int32)), .val (.int (4 : Int32)), .val (.int ((1 : Int32) + (-1 : Int32)))]) rfl k) ?_
          refine own_go (fun t k => XS.goto X187.here hx rfl (pc0 := 35) (pc' := 18) rfl (hb hby d_j43_27_35) (by decide) (by decide) k) ?_
          refine own_go (fun t k => XS.iloadN X187.here hx rfl (hb hby d_j43_27_18) rfl k) ?_
          show own_Go _ _ _ _ (T187.setTop (mkF m 19 #[.val (.ref ub), .val (.int (47 : Int32)), .val (.int (4 : Int32)), .val (.int (0 : Int32))] [(.int (0 : Int32))]))
          refine own_go (fun t k => XS.ifNo X187.here hx rfl (hb hby d_j43_27_19) rfl ((if0 _ _).trans (flt (by decide : ¬ ((0 : Int32) < (0 : Int32)))).1) k) ?_
          refine own_go (fun t k => XS.aloadN X187.here hx rfl (hb hby d_j43_27_22) rfl rfl k) ?_
          refine own_go (fun t k => XS.iloadN X187.here hx rfl (hb hby d_j43_27_23) rfl k) ?_
          show own_Go _ _ _ _ (T187.setTop (mkF m 24 #[.val (.ref ub), .val (.int (47 : Int32)), .val (.int (4 : Int32)), .val (.int (0 : Int32))] [(.int (0 : Int32)), (.ref ub)]))
          obtain ⟨cl192, Ar192, qk192, sz192, nn192, ha192, gf192⟩ := id A0
          have hin192 : ¬ ((0 : Int32) < 0 ∨ cl192.slots.size ≤ ((0 : Int32)).toNatClampNeg) := inb_of sz192 ⟨by decide, by decide⟩
          have hat192 : cl192.slots[((0 : Int32)).toNatClampNeg]? = some (.int (47 : Int32)) := ha192.at hin192 rfl
          refine own_go (X187.baloadBytes hx (j := (0 : Int32)) (v := (.int (47 : Int32))) (by rw [e187]; exact Ar192.1) (State.isArrayOf_alike hZ.alike Ar192.2.1) Ar192.2.2 hin192 hat192 (g := (mkF m 24 #[.val (.ref ub), .val (.int (47 : Int32)), .val (.int (4 : Int32)), .val (.int (0 : Int32))] [(.int (0 : Int32)), (.ref ub)])) rfl rfl (hb hby d_j43_27_24)) ?_
          refine own_go (fun t k => XS.iloadN X187.here hx rfl (hb hby d_j43_27_25) rfl k) ?_
          refine own_go (fun t k => XS.i2b X187.here hx rfl (hb hby d_j43_27_26) rfl k) ?_
          show own_Go _ _ _ _ (T187.setTop (mkF m 27 #[.val (.ref ub), .val (.int (47 : Int32)), .val (.int (4 : Int32)), .val (.int (0 : Int32))] [(.int (47 : Int32)), (.int (47 : Int32))]))
          refine own_go (fun t k => XS.icmpNo X187.here hx rfl (hb hby d_j43_27_27) rfl (teq (by decide : (47 : Int32) = (47 : Int32))).2 k) ?_
          refine own_go (fun t k => XS.iloadN X187.here hx rfl (hb hby d_j43_27_30) rfl k) ?_
          show own_Go _ _ _ _ (T187.setTop (mkF m 31 #[.val (.ref ub), .val (.int (47 : Int32)), .val (.int (4 : Int32)), .val (.int (0 : Int32))] [(.int (0 : Int32))]))
          refine own_ret X187 hx hlk hret rfl (Or.inl ⟨rfl, Or.inl rfl, _, rfl⟩) (hb hby d_j43_27_31) ?_ (by decide) (by decide)
          rw [e187]
          exact ⟨by simp [own_last5, s4, s3, s2, s1], N187, rfl⟩
def Q_lx2_5 (Z : State) (us : Addr) (ub : Addr) (kb : ClassId) (c1_ : Int32) (c2_ : Int32) (c3_ : Int32) (c4_ : Int32) (zv : Int32) (gv : Value) (h0 : Heap) (n0 : Nat) (v : Option Value) (h : Heap) (L : List Loc) : Prop := v = some (.int (own_last5 c1_ c2_ c3_ c4_)) ∧ Fr n0 L ∧ h = h0
theorem ef_lx2_5 (m : MethodId) (us : Addr) : entryFrame m #[(.ref us), (.int (47 : Int32)), (.int (4 : Int32))] 3 = mkF m 0 #[.val (.ref us), .val (.int (47 : Int32)), .val (.int (4 : Int32))] [] := by first | (simp [entryFrame, mkF, argsToLocals, Value.category]; done) | rfl
set_option maxRecDepth 65536 in
set_option maxHeartbeats 40000000 in
theorem rm_lx2_5 (l : Launch) (Z : State) (a0 : Array Value) (hw : ∀ d ∈ tables_1, d.before a0 Z = true) (ws : List Jvm.Cond) (us ub : Addr) (kb : ClassId) (c1_ c2_ c3_ c4_ zv : Int32) (gv : Value) (h0 : Heap) (n0 : Nat) (Z0 : n0 ≤ h0.size) (E0 : Exa Z h0 us "java/lang/String") (Cc0 : Fld Z h0 us "java/lang/String" "coder" "B" (.int (0 : Int32))) (V0 : Fld Z h0 us "java/lang/String" "value" "[B" (.ref ub)) (A0 : Arv Z h0 ub kb .byte (5 : Int32) [(.int (47 : Int32)), (.int (c1_.toInt8.toInt32)), (.int (c2_.toInt8.toInt32)), (.int (c3_.toInt8.toInt32)), (.int (c4_.toInt8.toInt32))] (.int (0 : Int32))) (B1 : own_B c1_) (B2 : own_B c2_) (B3 : own_B c3_) (B4 : own_B c4_) (O0 : Old Z n0 h0) (hzv : ¬ zv = (0 : Int32)) (S0 : Sta Z Z.heap "java/lang/String" "COMPACT_STRINGS" "Z" (.int zv)) (rgv : gv.isRef = true) (G0 : Sta Z Z.heap "jdk/internal/util/Preconditions" "SIOOBE_FORMATTER" "Ljava/util/function/BiFunction;" gv) :
    own_Met l Z (⟨"java/lang/String", "lastIndexOf", "(II)I"⟩ : MethodName) jdk_42_method_83_code 3 (some .int) ws ({ frames := 2, cells := 0, slots := 0, locals := 28 } : Room) #[(.ref us), (.int (47 : Int32)), (.int (4 : Int32))] h0 (Q_lx2_5 Z us ub kb c1_ c2_ c3_ c4_ zv gv h0 n0) := by
  refine own_enter (own := "java/lang/String") (plainFor_of_name pn_2) rfl ?_
  intro p e s m below meth c s₁ hlk hret hx hby hml hown hnm hZ X0 e0
  have N0 := Fr.nil n0
  refine own_cast (ef_lx2_5 m us) ?_
  show own_Go _ _ _ _ (s₁.setTop (mkF m 0 #[.val (.ref us), .val (.int (47 : Int32)), .val (.int (4 : Int32))] []))
  refine own_go (fun t k => XS.aloadN X0.here hx rfl (hb hby d_j42_83_0) rfl rfl k) ?_
  obtain ⟨cq193, kq193, q193a, q193b, q193c⟩ := isOf hZ e0 E0
  obtain ⟨_, _, ⟨T193, L193, k193, n193⟩, -, X193, ⟨Lc193, hQ193, l193, y193, z193⟩, st193⟩ := X0.virtualBack hx (y := (⟨"java/lang/String", "isLatin1", "()Z"⟩ : MethodName)) (z := (⟨"java/lang/String", "isLatin1", "()Z"⟩ : MethodName)) hown (mvT hZ (w_75 hw)) (mvT hZ (w_76 hw)) (notFace_of_selects (args := #[]) (mvT hZ (w_78 hw))) (mvT hZ (w_78 hw)) (mvT hZ (w_77 hw)) (by decide) (backOf (W := 0) (rm_il1 l Z a0 hw [] us zv gv h0 n0 Z0 O0 hzv S0 rgv G0 Cc0) hZ (w_79 hw) (w_7 hw) (by decide) (by decide)) q193a q193c (g := (mkF m 1 #[.val (.ref us), .val (.int (47 : Int32)), .val (.int (4 : Int32))] [(.ref us)])) rfl (by rw [hml]; rfl) (Steps.refl _) (argsL := []) (rest := []) (lenOf pd_2 rfl) rfl (by show 2 * 0 + _ ≤ _; exact Nat.le_of_eq rfl) (hb hby d_j42_83_1) (fun _ _ => ⟨rfl, e0, (by decide : 0 + 0 ≤ _), (by decide : 0 + 0 ≤ _)⟩)
  dsimp only [Pt.U, Pt.locs, Pt.cells, Pt.slots] at X193 l193 y193 z193 st193 hQ193
  subst l193 y193 z193
  obtain ⟨rfl, N193q, e193⟩ := hQ193
  have N193 := Fr.app N0 N193q
  refine own_go (fun t k => st193.trans k) ?_
  show own_Go _ _ _ _ (T193.setTop (mkF m 4 #[.val (.ref us), .val (.int (47 : Int32)), .val (.int (4 : Int32))] [(.int (1 : Int32))]))
  refine own_go (fun t k => XS.ifNo X193.here hx rfl (hb hby d_j42_83_4) rfl ((if0 _ _).trans (feq (by decide : ¬ ((1 : Int32) = (0 : Int32)))).1) k) ?_
  refine own_go (fun t k => XS.aloadN X193.here hx rfl (hb hby d_j42_83_7) rfl rfl k) ?_
  show own_Go _ _ _ _ (T193.setTop (mkF m 8 #[.val (.ref us), .val (.int (47 : Int32)), .val (.int (4 : Int32))] [(.ref us)]))
  obtain ⟨T194, X194, e194, st194⟩ := getF X193 hx hZ hown (host := "") (Or.inl (w_36 hw)) Via.refl e193 V0 (g := (mkF m 8 #[.val (.ref us), .val (.int (47 : Int32)), .val (.int (4 : Int32))] [(.ref us)])) rfl rfl (hb hby d_j42_83_8)
  refine own_go st194 ?_
  refine own_go (fun t k => XS.iloadN X194.here hx rfl (hb hby d_j42_83_11) rfl k) ?_
  refine own_go (fun t k => XS.iloadN X194.here hx rfl (hb hby d_j42_83_12) rfl k) ?_
  obtain ⟨_, _, ⟨T195, L195, k195, n195⟩, -, X195, ⟨Lc195, hQ195, l195, y195, z195⟩, st195⟩ := Jvm.LawKit.callS X194 hx (y := (⟨"java/lang/StringLatin1", "lastIndexOf", "([BII)I"⟩ : MethodName)) hown (mvT hZ (w_80 hw)) (mvT hZ (w_81 hw)) (mvT hZ (w_53 hw)) (mvT hZ (w_82 hw)) (by decide) (backOf (W := 0) (rm_lx3_5 l Z a0 hw [] ub kb c1_ c2_ c3_ c4_ h0 n0 Z0 A0 B1 B2 B3 B4) hZ (w_82 hw) (w_53 hw) (by decide) (by decide)) (g := (mkF m 13 #[.val (.ref us), .val (.int (47 : Int32)), .val (.int (4 : Int32))] [(.int (4 : Int32)), (.int (47 : Int32)), (.ref ub)])) rfl (by rw [hml]; rfl) (argsL := [(.ref ub), (.int (47 : Int32)), (.int (4 : Int32))]) (rest := []) (lenOf pd_3 rfl) rfl (by show 2 * 0 + _ ≤ _; exact Nat.le_of_eq rfl) (hb hby d_j42_83_13) (fun _ _ => ⟨rfl, e194, (by decide : 0 + 0 ≤ _), (by decide : 0 + 0 ≤ _)⟩)
  dsimp only [Pt.U, Pt.locs, Pt.cells, Pt.slots] at X195 l195 y195 z195 st195 hQ195
  subst l195 y195 z195
  obtain ⟨rfl, N195q, e195⟩ := hQ195
  have N195 := Fr.app N193 N195q
  refine own_go st195 ?_
  refine own_go (fun t k => XS.goto X195.here hx rfl (pc0 := 16) (pc' := 28) rfl (hb hby d_j42_83_16) (by decide) (by decide) k) ?_
  show own_Go _ _ _ _ (T195.setTop (mkF m 28 #[.val (.ref us), .val (.int (47 : Int32)), .val (.int (4 : Int32))] [(.int (own_last5 c1_ c2_ c3_ c4_))]))
  refine own_ret X195 hx hlk hret rfl (Or.inl ⟨rfl, Or.inl rfl, _, rfl⟩) (hb hby d_j42_83_28) ?_ (by decide) (by decide)
  rw [e195]
  exact ⟨rfl, N195, rfl⟩
def Q_lx1_5 (Z : State) (us : Addr) (ub : Addr) (kb : ClassId) (c1_ : Int32) (c2_ : Int32) (c3_ : Int32) (c4_ : Int32) (zv : Int32) (gv : Value) (h0 : Heap) (n0 : Nat) (v : Option Value) (h : Heap) (L : List Loc) : Prop := v = some (.int (own_last5 c1_ c2_ c3_ c4_)) ∧ Fr n0 L ∧ h = h0
theorem ef_lx1_5 (m : MethodId) (us : Addr) : entryFrame m #[(.ref us), (.int (47 : Int32))] 2 = mkF m 0 #[.val (.ref us), .val (.int (47 : Int32))] [] := by first | (simp [entryFrame, mkF, argsToLocals, Value.category]; done) | rfl
set_option maxRecDepth 65536 in
set_option maxHeartbeats 40000000 in
theorem rm_lx1_5 (l : Launch) (Z : State) (a0 : Array Value) (hw : ∀ d ∈ tables_1, d.before a0 Z = true) (ws : List Jvm.Cond) (us ub : Addr) (kb : ClassId) (c1_ c2_ c3_ c4_ zv : Int32) (gv : Value) (h0 : Heap) (n0 : Nat) (Z0 : n0 ≤ h0.size) (E0 : Exa Z h0 us "java/lang/String") (Cc0 : Fld Z h0 us "java/lang/String" "coder" "B" (.int (0 : Int32))) (V0 : Fld Z h0 us "java/lang/String" "value" "[B" (.ref ub)) (A0 : Arv Z h0 ub kb .byte (5 : Int32) [(.int (47 : Int32)), (.int (c1_.toInt8.toInt32)), (.int (c2_.toInt8.toInt32)), (.int (c3_.toInt8.toInt32)), (.int (c4_.toInt8.toInt32))] (.int (0 : Int32))) (B1 : own_B c1_) (B2 : own_B c2_) (B3 : own_B c3_) (B4 : own_B c4_) (O0 : Old Z n0 h0) (hzv : ¬ zv = (0 : Int32)) (S0 : Sta Z Z.heap "java/lang/String" "COMPACT_STRINGS" "Z" (.int zv)) (rgv : gv.isRef = true) (G0 : Sta Z Z.heap "jdk/internal/util/Preconditions" "SIOOBE_FORMATTER" "Ljava/util/function/BiFunction;" gv) :
    own_Met l Z (⟨"java/lang/String", "lastIndexOf", "(I)I"⟩ : MethodName) jdk_42_method_82_code 2 (some .int) ws ({ frames := 3, cells := 0, slots := 0, locals := 42 } : Room) #[(.ref us), (.int (47 : Int32))] h0 (Q_lx1_5 Z us ub kb c1_ c2_ c3_ c4_ zv gv h0 n0) := by
  refine own_enter (own := "java/lang/String") (plainFor_of_name pn_2) rfl ?_
  intro p e s m below meth c s₁ hlk hret hx hby hml hown hnm hZ X0 e0
  have N0 := Fr.nil n0
  refine own_cast (ef_lx1_5 m us) ?_
  show own_Go _ _ _ _ (s₁.setTop (mkF m 0 #[.val (.ref us), .val (.int (47 : Int32))] []))
  refine own_go (fun t k => XS.aloadN X0.here hx rfl (hb hby d_j42_82_0) rfl rfl k) ?_
  refine own_go (fun t k => XS.iloadN X0.here hx rfl (hb hby d_j42_82_1) rfl k) ?_
  refine own_go (fun t k => XS.aloadN X0.here hx rfl (hb hby d_j42_82_2) rfl rfl k) ?_
  have hB196 : ∀ c ∈ ([(47 : Int32), c1_, c2_, c3_, c4_] : List Int32), own_B c := (List.forall_mem_cons.mpr ⟨(by constructor <;> decide : own_B (47 : Int32)), (List.forall_mem_cons.mpr ⟨B1, (List.forall_mem_cons.mpr ⟨B2, (List.forall_mem_cons.mpr ⟨B3, (List.forall_mem_cons.mpr ⟨B4, (List.forall_mem_nil _)⟩)⟩)⟩)⟩)⟩)
  have hD196 := StrChars.Road.codOf (cs := ([(47 : Int32), c1_, c2_, c3_, c4_] : List Int32)) (n := 5) rfl (fun x hx => (hB196 x hx).2)
  have hU196 := own_up _ hB196
  obtain ⟨cq197, kq197, q197a, q197b, q197c⟩ := isOf hZ e0 E0
  obtain ⟨_, _, ⟨T197, L197, k197, n197⟩, -, X197, ⟨Lc197, hQ197, l197, y197, z197⟩, st197⟩ := X0.virtualBack hx (y := (⟨"java/lang/String", "length", "()I"⟩ : MethodName)) (z := (⟨"java/lang/String", "length", "()I"⟩ : MethodName)) hown (mvT hZ (w_60 hw)) (mvT hZ (w_61 hw)) (notFace_of_selects (args := #[]) (mvT hZ (w_63 hw))) (mvT hZ (w_63 hw)) (mvT hZ (w_62 hw)) (by decide) (StrChars.Road.lenW (W := 2) hZ (own_wlen hw) (kI := 4) (w_6 hw) (cs := ([(47 : Int32), c1_, c2_, c3_, c4_] : List Int32)) E0 V0 Cc0 A0 hD196 hU196 (S0.ext O0.2) hzv (Nat.le_of_ble_eq_true rfl) (by decide) (by decide)) q197a q197c (g := (mkF m 3 #[.val (.ref us), .val (.int (47 : Int32))] [(.ref us), (.int (47 : Int32)), (.ref us)])) rfl (by rw [hml]; rfl) (Steps.refl _) (argsL := []) (rest := [(.int (47 : Int32)), (.ref us)]) (lenOf pd_4 rfl) rfl (by show 2 * 0 + _ ≤ _; exact Nat.le_of_eq rfl) (hb hby d_j42_82_3) (fun _ _ => ⟨rfl, e0, (by decide : 0 + 0 ≤ _), (by decide : 0 + 0 ≤ _)⟩)
  dsimp only [Pt.U, Pt.locs, Pt.cells, Pt.slots] at X197 l197 y197 z197 st197 hQ197
  subst l197 y197 z197
  obtain ⟨rfl, rfl, e197⟩ := hQ197
  have N197q : Fr n0 ([] : List Loc) := Fr.nil n0
  have N197 := Fr.app N0 N197q
  refine own_go (fun t k => st197.trans k) ?_
  show own_Go _ _ _ _ (T197.setTop (mkF m 6 #[.val (.ref us), .val (.int (47 : Int32))] [(.int (5 : Int32)), (.int (47 : Int32)), (.ref us)]))
  refine own_go (fun t k => XS.iconst X197.here hx rfl (hb hby d_j42_82_6) k) ?_
  refine own_go (fun t k => XS.isub X197.here hx rfl (hb hby d_j42_82_7) rfl k) ?_
  show own_Go _ _ _ _ (T197.setTop (mkF m 8 #[.val (.ref us), .val (.int (47 : Int32))] [(.int (4 : Int32)), (.int (47 : Int32)), (.ref us)]))
  obtain ⟨cq198, kq198, q198a, q198b, q198c⟩ := isOf hZ e197 E0
  obtain ⟨_, _, ⟨T198, L198, k198, n198⟩, -, X198, ⟨Lc198, hQ198, l198, y198, z198⟩, st198⟩ := X197.virtualBack hx (y := (⟨"java/lang/String", "lastIndexOf", "(II)I"⟩ : MethodName)) (z := (⟨"java/lang/String", "lastIndexOf", "(II)I"⟩ : MethodName)) hown (mvT hZ (w_70 hw)) (mvT hZ (w_71 hw)) (notFace_of_selects (args := #[]) (mvT hZ (w_73 hw))) (mvT hZ (w_73 hw)) (mvT hZ (w_72 hw)) (by decide) (backOf (W := 0) (rm_lx2_5 l Z a0 hw [] us ub kb c1_ c2_ c3_ c4_ zv gv h0 n0 Z0 E0 Cc0 V0 A0 B1 B2 B3 B4 O0 hzv S0 rgv G0) hZ (w_74 hw) (w_7 hw) (by decide) (by decide)) q198a q198c (g := (mkF m 8 #[.val (.ref us), .val (.int (47 : Int32))] [(.int (4 : Int32)), (.int (47 : Int32)), (.ref us)])) rfl (by rw [hml]; rfl) (Steps.refl _) (argsL := [(.int (47 : Int32)), (.int (4 : Int32))]) (rest := []) (lenOf pd_1 rfl) rfl (by show 2 * 0 + _ ≤ _; exact Nat.le_of_eq rfl) (hb hby d_j42_82_8) (fun _ _ => ⟨rfl, e197, (by decide : 0 + 0 ≤ _), (by decide : 0 + 0 ≤ _)⟩)
  dsimp only [Pt.U, Pt.locs, Pt.cells, Pt.slots] at X198 l198 y198 z198 st198 hQ198
  subst l198 y198 z198
  obtain ⟨rfl, N198q, e198⟩ := hQ198
  have N198 := Fr.app N197 N198q
  refine own_go (fun t k => st198.trans k) ?_
  show own_Go _ _ _ _ (T198.setTop (mkF m 11 #[.val (.ref us), .val (.int (47 : Int32))] [(.int (own_last5 c1_ c2_ c3_ c4_))]))
  refine own_ret X198 hx hlk hret rfl (Or.inl ⟨rfl, Or.inl rfl, _, rfl⟩) (hb hby d_j42_82_11) ?_ (by decide) (by decide)
  rw [e198]
  exact ⟨rfl, N198, rfl⟩
def Q_cftN (Z : State) (iv : Int32) (nv : Int32) (h0 : Heap) (n0 : Nat) (v : Option Value) (h : Heap) (L : List Loc) : Prop := v = some (.int 0) ∧ Fr n0 L ∧ h = h0
theorem ef_cftN (m : MethodId) (iv : Int32) (nv : Int32) : entryFrame m #[(.int (0 : Int32)), (.int iv), (.int nv), .null] 4 = mkF m 0 #[.val (.int (0 : Int32)), .val (.int iv), .val (.int nv), .val .null] [] := by first | (simp [entryFrame, mkF, argsToLocals, Value.category]; done) | rfl
theorem pn_3 : plainName "jdk/internal/util/Preconditions" = true := by first | (simp [plainName, overriddenIn]; done) | decide +kernel
theorem d_j41_12_0 : decode jdk_41_method_12_code 0 = .ok (.iload_n 0, 1) := by decide +kernel
theorem d_j41_12_1 : decode jdk_41_method_12_code 1 = .ok (.ifCond .lt 13, 3) := by decide +kernel
theorem d_j41_12_4 : decode jdk_41_method_12_code 4 = .ok (.iload_n 0, 1) := by decide +kernel
theorem d_j41_12_5 : decode jdk_41_method_12_code 5 = .ok (.iload_n 1, 1) := by decide +kernel
theorem d_j41_12_6 : decode jdk_41_method_12_code 6 = .ok (.if_icmp .gt 8, 3) := by decide +kernel
theorem d_j41_12_9 : decode jdk_41_method_12_code 9 = .ok (.iload_n 1, 1) := by decide +kernel
theorem d_j41_12_10 : decode jdk_41_method_12_code 10 = .ok (.iload_n 2, 1) := by decide +kernel
theorem d_j41_12_11 : decode jdk_41_method_12_code 11 = .ok (.if_icmp .le 11, 3) := by decide +kernel
theorem d_j41_12_22 : decode jdk_41_method_12_code 22 = .ok (.iload_n 0, 1) := by decide +kernel
theorem d_j41_12_23 : decode jdk_41_method_12_code 23 = .ok (.ireturn, 1) := by decide +kernel
set_option maxRecDepth 65536 in
set_option maxHeartbeats 40000000 in
theorem rm_cftN (l : Launch) (Z : State) (a0 : Array Value) (hw : ∀ d ∈ tables_1, d.before a0 Z = true) (ws : List Jvm.Cond) (iv nv : Int32) (h0 : Heap) (n0 : Nat) (Z0 : n0 ≤ h0.size) (hi0 : ¬ iv < (0 : Int32)) (hin : ¬ nv < iv) :
    own_Met l Z (⟨"jdk/internal/util/Preconditions", "checkFromToIndex", "(IIILjava/util/function/BiFunction;)I"⟩ : MethodName) jdk_41_method_12_code 4 (some .int) ws ({ frames := 0, cells := 0, slots := 0, locals := 0 } : Room) #[(.int (0 : Int32)), (.int iv), (.int nv), .null] h0 (Q_cftN Z iv nv h0 n0) := by
  refine own_enter (own := "jdk/internal/util/Preconditions") (plainFor_of_name pn_3) rfl ?_
  intro p e s m below meth c s₁ hlk hret hx hby hml hown hnm hZ X0 e0
  have N0 := Fr.nil n0
  refine own_cast (ef_cftN m iv nv) ?_
  show own_Go _ _ _ _ (s₁.setTop (mkF m 0 #[.val (.int (0 : Int32)), .val (.int iv), .val (.int nv), .val .null] []))
  refine own_go (fun t k => XS.iloadN X0.here hx rfl (hb hby d_j41_12_0) rfl k) ?_
  show own_Go _ _ _ _ (s₁.setTop (mkF m 1 #[.val (.int (0 : Int32)), .val (.int iv), .val (.int nv), .val .null] [(.int (0 : Int32))]))
  refine own_go (fun t k => XS.ifNo X0.here hx rfl (hb hby d_j41_12_1) rfl ((if0 _ _).trans (flt (by decide : ¬ ((0 : Int32) < (0 : Int32)))).1) k) ?_
  refine own_go (fun t k => XS.iloadN X0.here hx rfl (hb hby d_j41_12_4) rfl k) ?_
  refine own_go (fun t k => XS.iloadN X0.here hx rfl (hb hby d_j41_12_5) rfl k) ?_
  show own_Go _ _ _ _ (s₁.setTop (mkF m 6 #[.val (.int (0 : Int32)), .val (.int iv), .val (.int nv), .val .null] [(.int iv), (.int (0 : Int32))]))
  refine own_go (fun t k => XS.icmpNo X0.here hx rfl (hb hby d_j41_12_6) rfl (flt hi0).2.2.1 k) ?_
  refine own_go (fun t k => XS.iloadN X0.here hx rfl (hb hby d_j41_12_9) rfl k) ?_
  refine own_go (fun t k => XS.iloadN X0.here hx rfl (hb hby d_j41_12_10) rfl k) ?_
  show own_Go _ _ _ _ (s₁.setTop (mkF m 11 #[.val (.int (0 : Int32)), .val (.int iv), .val (.int nv), .val .null] [(.int nv), (.int iv)]))
  refine own_go (fun t k => XS.icmpYes X0.here hx rfl (pc0 := 11) (pc' := 22) rfl (hb hby d_j41_12_11) rfl (flt hin).2.2.2 (by decide) (by decide) k) ?_
  refine own_go (fun t k => XS.iloadN X0.here hx rfl (hb hby d_j41_12_22) rfl k) ?_
  show own_Go _ _ _ _ (s₁.setTop (mkF m 23 #[.val (.int (0 : Int32)), .val (.int iv), .val (.int nv), .val .null] [(.int (0 : Int32))]))
  refine own_ret X0 hx hlk hret rfl (Or.inl ⟨rfl, Or.inl rfl, _, rfl⟩) (hb hby d_j41_12_23) ?_ (by decide) (by decide)
  rw [e0]
  exact ⟨rfl, N0, rfl⟩
def Q_cftR (Z : State) (iv : Int32) (nv : Int32) (ga : Addr) (h0 : Heap) (n0 : Nat) (v : Option Value) (h : Heap) (L : List Loc) : Prop := v = some (.int 0) ∧ Fr n0 L ∧ h = h0
theorem ef_cftR (m : MethodId) (iv : Int32) (nv : Int32) (ga : Addr) : entryFrame m #[(.int (0 : Int32)), (.int iv), (.int nv), (.ref ga)] 4 = mkF m 0 #[.val (.int (0 : Int32)), .val (.int iv), .val (.int nv), .val (.ref ga)] [] := by first | (simp [entryFrame, mkF, argsToLocals, Value.category]; done) | rfl
set_option maxRecDepth 65536 in
set_option maxHeartbeats 40000000 in
theorem rm_cftR (l : Launch) (Z : State) (a0 : Array Value) (hw : ∀ d ∈ tables_1, d.before a0 Z = true) (ws : List Jvm.Cond) (iv nv : Int32) (ga : Addr) (h0 : Heap) (n0 : Nat) (Z0 : n0 ≤ h0.size) (hi0 : ¬ iv < (0 : Int32)) (hin : ¬ nv < iv) :
    own_Met l Z (⟨"jdk/internal/util/Preconditions", "checkFromToIndex", "(IIILjava/util/function/BiFunction;)I"⟩ : MethodName) jdk_41_method_12_code 4 (some .int) ws ({ frames := 0, cells := 0, slots := 0, locals := 0 } : Room) #[(.int (0 : Int32)), (.int iv), (.int nv), (.ref ga)] h0 (Q_cftR Z iv nv ga h0 n0) := by
  refine own_enter (own := "jdk/internal/util/Preconditions") (plainFor_of_name pn_3) rfl ?_
  intro p e s m below meth c s₁ hlk hret hx hby hml hown hnm hZ X0 e0
  have N0 := Fr.nil n0
  refine own_cast (ef_cftR m iv nv ga) ?_
  show own_Go _ _ _ _ (s₁.setTop (mkF m 0 #[.val (.int (0 : Int32)), .val (.int iv), .val (.int nv), .val (.ref ga)] []))
  refine own_go (fun t k => XS.iloadN X0.here hx rfl (hb hby d_j41_12_0) rfl k) ?_
  show own_Go _ _ _ _ (s₁.setTop (mkF m 1 #[.val (.int (0 : Int32)), .val (.int iv), .val (.int nv), .val (.ref ga)] [(.int (0 : Int32))]))
  refine own_go (fun t k => XS.ifNo X0.here hx rfl (hb hby d_j41_12_1) rfl ((if0 _ _).trans (flt (by decide : ¬ ((0 : Int32) < (0 : Int32)))).1) k) ?_
  refine own_go (fun t k => XS.iloadN X0.here hx rfl (hb hby d_j41_12_4) rfl k) ?_
  refine own_go (fun t k => XS.iloadN X0.here hx rfl (hb hby d_j41_12_5) rfl k) ?_
  show own_Go _ _ _ _ (s₁.setTop (mkF m 6 #[.val (.int (0 : Int32)), .val (.int iv), .val (.int nv), .val (.ref ga)] [(.int iv), (.int (0 : Int32))]))
  refine own_go (fun t k => XS.icmpNo X0.here hx rfl (hb hby d_j41_12_6) rfl (flt hi0).2.2.1 k) ?_
  refine own_go (fun t k => XS.iloadN X0.here hx rfl (hb hby d_j41_12_9) rfl k) ?_
  refine own_go (fun t k => XS.iloadN X0.here hx rfl (hb hby d_j41_12_10) rfl k) ?_
  show own_Go _ _ _ _ (s₁.setTop (mkF m 11 #[.val (.int (0 : Int32)), .val (.int iv), .val (.int nv), .val (.ref ga)] [(.int nv), (.int iv)]))
  refine own_go (fun t k => XS.icmpYes X0.here hx rfl (pc0 := 11) (pc' := 22) rfl (hb hby d_j41_12_11) rfl (flt hin).2.2.2 (by decide) (by decide) k) ?_
  refine own_go (fun t k => XS.iloadN X0.here hx rfl (hb hby d_j41_12_22) rfl k) ?_
  show own_Go _ _ _ _ (s₁.setTop (mkF m 23 #[.val (.int (0 : Int32)), .val (.int iv), .val (.int nv), .val (.ref ga)] [(.int (0 : Int32))]))
  refine own_ret X0 hx hlk hret rfl (Or.inl ⟨rfl, Or.inl rfl, _, rfl⟩) (hb hby d_j41_12_23) ?_ (by decide) (by decide)
  rw [e0]
  exact ⟨rfl, N0, rfl⟩
def Q_cbb (Z : State) (iv : Int32) (nv : Int32) (zv : Int32) (gv : Value) (h0 : Heap) (n0 : Nat) (v : Option Value) (h : Heap) (L : List Loc) : Prop := v = none ∧ Fr n0 L ∧ h = h0
theorem ef_cbb (m : MethodId) (iv : Int32) (nv : Int32) : entryFrame m #[(.int (0 : Int32)), (.int iv), (.int nv)] 3 = mkF m 0 #[.val (.int (0 : Int32)), .val (.int iv), .val (.int nv)] [] := by first | (simp [entryFrame, mkF, argsToLocals, Value.category]; done) | rfl
theorem d_j42_158_0 : decode jdk_42_method_158_code 0 = .ok (.iload_n 0, 1) := by decide +kernel
theorem d_j42_158_1 : decode jdk_42_method_158_code 1 = .ok (.iload_n 1, 1) := by decide +kernel
theorem d_j42_158_2 : decode jdk_42_method_158_code 2 = .ok (.iload_n 2, 1) := by decide +kernel
theorem w_105 {Z : State} {a0 : Array Value} (hw : ∀ d ∈ tables_1, d.before a0 Z = true) : (Jvm.Cond.fieldLink "java/lang/String" (1053 : Nat) "jdk/internal/util/Preconditions" "SIOOBE_FORMATTER" "Ljava/util/function/BiFunction;").before a0 Z = true := hw _ (List.mem_of_getElem? (i := 105) rfl)
theorem d_j42_158_3 : decode jdk_42_method_158_code 3 = .ok (.getstatic 1053, 3) := by decide +kernel
theorem w_118 {Z : State} {a0 : Array Value} (hw : ∀ d ∈ tables_1, d.before a0 Z = true) : (Jvm.Cond.methodLink "java/lang/String" (1062 : Nat) ({ cls := "jdk/internal/util/Preconditions", name := "checkFromToIndex", desc := "(IIILjava/util/function/BiFunction;)I" } : Jvm.MethodName)).before a0 Z = true := hw _ (List.mem_of_getElem? (i := 118) rfl)
theorem w_120 {Z : State} {a0 : Array Value} (hw : ∀ d ∈ tables_1, d.before a0 Z = true) : (Jvm.Cond.code ({ cls := "jdk/internal/util/Preconditions", name := "checkFromToIndex", desc := "(IIILjava/util/function/BiFunction;)I" } : Jvm.MethodName) jdk_41_method_12_code (4 : Nat) (Option.some Jvm.ClassFile.FieldType.int)).before a0 Z = true := hw _ (List.mem_of_getElem? (i := 120) rfl)
theorem w_106 {Z : State} {a0 : Array Value} (hw : ∀ d ∈ tables_1, d.before a0 Z = true) : (Jvm.Cond.initialized "jdk/internal/util/Preconditions").before a0 Z = true := hw _ (List.mem_of_getElem? (i := 106) rfl)
theorem pd_5 : parseMethodDescriptor "(IIILjava/util/function/BiFunction;)I" = some ⟨[.int, .int, .int, (.object "java/util/function/BiFunction")], some .int⟩ := by decide +kernel
theorem d_j42_158_6 : decode jdk_42_method_158_code 6 = .ok (.invokestatic 1062, 3) := by decide +kernel
theorem w_119 {Z : State} {a0 : Array Value} (hw : ∀ d ∈ tables_1, d.before a0 Z = true) : (Jvm.Cond.static ({ cls := "jdk/internal/util/Preconditions", name := "checkFromToIndex", desc := "(IIILjava/util/function/BiFunction;)I" } : Jvm.MethodName)).before a0 Z = true := hw _ (List.mem_of_getElem? (i := 119) rfl)
theorem d_j42_158_9 : decode jdk_42_method_158_code 9 = .ok (.pop, 1) := by decide +kernel
theorem d_j42_158_10 : decode jdk_42_method_158_code 10 = .ok (.return_, 1) := by decide +kernel
set_option maxRecDepth 65536 in
set_option maxHeartbeats 40000000 in
theorem rm_cbb (l : Launch) (Z : State) (a0 : Array Value) (hw : ∀ d ∈ tables_1, d.before a0 Z = true) (ws : List Jvm.Cond) (iv nv zv : Int32) (gv : Value) (h0 : Heap) (n0 : Nat) (Z0 : n0 ≤ h0.size) (hi0 : ¬ iv < (0 : Int32)) (hin : ¬ nv < iv) (O0 : Old Z n0 h0) (hzv : ¬ zv = (0 : Int32)) (S0 : Sta Z Z.heap "java/lang/String" "COMPACT_STRINGS" "Z" (.int zv)) (rgv : gv.isRef = true) (G0 : Sta Z Z.heap "jdk/internal/util/Preconditions" "SIOOBE_FORMATTER" "Ljava/util/function/BiFunction;" gv) :
    own_Met l Z (⟨"java/lang/String", "checkBoundsBeginEnd", "(III)V"⟩ : MethodName) jdk_42_method_158_code 3 none ws ({ frames := 1, cells := 0, slots := 0, locals := 15 } : Room) #[(.int (0 : Int32)), (.int iv), (.int nv)] h0 (Q_cbb Z iv nv zv gv h0 n0) := by
  refine own_enter (own := "java/lang/String") (plainFor_of_name pn_2) rfl ?_
  intro p e s m below meth c s₁ hlk hret hx hby hml hown hnm hZ X0 e0
  have N0 := Fr.nil n0
  refine own_cast (ef_cbb m iv nv) ?_
  rcases ref_cases rgv with rfl | ⟨ga, rfl⟩
  · show own_Go _ _ _ _ (s₁.setTop (mkF m 0 #[.val (.int (0 : Int32)), .val (.int iv), .val (.int nv)] []))
    refine own_go (fun t k => XS.iloadN X0.here hx rfl (hb hby d_j42_158_0) rfl k) ?_
    refine own_go (fun t k => XS.iloadN X0.here hx rfl (hb hby d_j42_158_1) rfl k) ?_
    refine own_go (fun t k => XS.iloadN X0.here hx rfl (hb hby d_j42_158_2) rfl k) ?_
    show own_Go _ _ _ _ (s₁.setTop (mkF m 3 #[.val (.int (0 : Int32)), .val (.int iv), .val (.int nv)] [(.int nv), (.int iv), (.int (0 : Int32))]))
    obtain ⟨T199, X199, e199, st199⟩ := getS2 X0 hx hZ hown (host := "") (Or.inl (w_105 hw)) Via.refl e0 (G0.ext O0.2) (g := (mkF m 3 #[.val (.int (0 : Int32)), .val (.int iv), .val (.int nv)] [(.int nv), (.int iv), (.int (0 : Int32))])) rfl (hb hby d_j42_158_3)
    refine own_go st199 ?_
    obtain ⟨_, _, ⟨T200, L200, k200, n200⟩, -, X200, ⟨Lc200, hQ200, l200, y200, z200⟩, st200⟩ := Jvm.LawKit.callS X199 hx (y := (⟨"jdk/internal/util/Preconditions", "checkFromToIndex", "(IIILjava/util/function/BiFunction;)I"⟩ : MethodName)) hown (mvT hZ (w_118 hw)) (mvT hZ (w_119 hw)) (mvT hZ (w_106 hw)) (mvT hZ (w_120 hw)) (by decide) (backOf (W := 0) (rm_cftN l Z a0 hw [] iv nv h0 n0 Z0 hi0 hin) hZ (w_120 hw) (w_106 hw) (by decide) (by decide)) (g := (mkF m 6 #[.val (.int (0 : Int32)), .val (.int iv), .val (.int nv)] [.null, (.int nv), (.int iv), (.int (0 : Int32))])) rfl (by rw [hml]; rfl) (argsL := [(.int (0 : Int32)), (.int iv), (.int nv), .null]) (rest := []) (lenOf pd_5 rfl) rfl (by show 2 * 0 + _ ≤ _; exact Nat.le_of_eq rfl) (hb hby d_j42_158_6) (fun _ _ => ⟨rfl, e199, (by decide : 0 + 0 ≤ _), (by decide : 0 + 0 ≤ _)⟩)
    dsimp only [Pt.U, Pt.locs, Pt.cells, Pt.slots] at X200 l200 y200 z200 st200 hQ200
    subst l200 y200 z200
    obtain ⟨rfl, N200q, e200⟩ := hQ200
    have N200 := Fr.app N0 N200q
    refine own_go st200 ?_
    refine own_go (fun t k => XS.pop X200.here hx rfl (hb hby d_j42_158_9) rfl rfl k) ?_
    show own_Go _ _ _ _ (T200.setTop (mkF m 10 #[.val (.int (0 : Int32)), .val (.int iv), .val (.int nv)] []))
    refine own_retV X200 hx hlk hret (hb hby d_j42_158_10) ?_ (by decide) (by decide)
    rw [e200]
    exact ⟨rfl, N200, rfl⟩
  · show own_Go _ _ _ _ (s₁.setTop (mkF m 0 #[.val (.int (0 : Int32)), .val (.int iv), .val (.int nv)] []))
    refine own_go (fun t k => XS.iloadN X0.here hx rfl (hb hby d_j42_158_0) rfl k) ?_
    refine own_go (fun t k => XS.iloadN X0.here hx rfl (hb hby d_j42_158_1) rfl k) ?_
    refine own_go (fun t k => XS.iloadN X0.here hx rfl (hb hby d_j42_158_2) rfl k) ?_
    show own_Go _ _ _ _ (s₁.setTop (mkF m 3 #[.val (.int (0 : Int32)), .val (.int iv), .val (.int nv)] [(.int nv), (.int iv), (.int (0 : Int32))]))
    obtain ⟨T201, X201, e201, st201⟩ := getS2 X0 hx hZ hown (host := "") (Or.inl (w_105 hw)) Via.refl e0 (G0.ext O0.2) (g := (mkF m 3 #[.val (.int (0 : Int32)), .val (.int iv), .val (.int nv)] [(.int nv), (.int iv), (.int (0 : Int32))])) rfl (hb hby d_j42_158_3)
    refine own_go st201 ?_
    obtain ⟨_, _, ⟨T202, L202, k202, n202⟩, -, X202, ⟨Lc202, hQ202, l202, y202, z202⟩, st202⟩ := Jvm.LawKit.callS X201 hx (y := (⟨"jdk/internal/util/Preconditions", "checkFromToIndex", "(IIILjava/util/function/BiFunction;)I"⟩ : MethodName)) hown (mvT hZ (w_118 hw)) (mvT hZ (w_119 hw)) (mvT hZ (w_106 hw)) (mvT hZ (w_120 hw)) (by decide) (backOf (W := 0) (rm_cftR l Z a0 hw [] iv nv ga h0 n0 Z0 hi0 hin) hZ (w_120 hw) (w_106 hw) (by decide) (by decide)) (g := (mkF m 6 #[.val (.int (0 : Int32)), .val (.int iv), .val (.int nv)] [(.ref ga), (.int nv), (.int iv), (.int (0 : Int32))])) rfl (by rw [hml]; rfl) (argsL := [(.int (0 : Int32)), (.int iv), (.int nv), (.ref ga)]) (rest := []) (lenOf pd_5 rfl) rfl (by show 2 * 0 + _ ≤ _; exact Nat.le_of_eq rfl) (hb hby d_j42_158_6) (fun _ _ => ⟨rfl, e201, (by decide : 0 + 0 ≤ _), (by decide : 0 + 0 ≤ _)⟩)
    dsimp only [Pt.U, Pt.locs, Pt.cells, Pt.slots] at X202 l202 y202 z202 st202 hQ202
    subst l202 y202 z202
    obtain ⟨rfl, N202q, e202⟩ := hQ202
    have N202 := Fr.app N0 N202q
    refine own_go st202 ?_
    refine own_go (fun t k => XS.pop X202.here hx rfl (hb hby d_j42_158_9) rfl rfl k) ?_
    show own_Go _ _ _ _ (T202.setTop (mkF m 10 #[.val (.int (0 : Int32)), .val (.int iv), .val (.int nv)] []))
    refine own_retV X202 hx hlk hret (hb hby d_j42_158_10) ?_ (by decide) (by decide)
    rw [e202]
    exact ⟨rfl, N202, rfl⟩
def Q_sbb (Z : State) (us : Addr) (ub : Addr) (h0 : Heap) (n0 : Nat) (v : Option Value) (h : Heap) (L : List Loc) : Prop := v = none ∧ Fr n0 L ∧ Keep h0 h [us] ∧ Fld Z h us "java/lang/String" "coder" "B" (.int (0 : Int32)) ∧ Fld Z h us "java/lang/String" "value" "[B" (.ref ub)
theorem ef_sbb (m : MethodId) (us : Addr) (ub : Addr) : entryFrame m #[(.ref us), (.ref ub), (.int (0 : Int32))] 3 = mkF m 0 #[.val (.ref us), .val (.ref ub), .val (.int (0 : Int32))] [] := by first | (simp [entryFrame, mkF, argsToLocals, Value.category]; done) | rfl
theorem d_j42_151_0 : decode jdk_42_method_151_code 0 = .ok (.aload_n 0, 1) := by decide +kernel
theorem w_19 {Z : State} {a0 : Array Value} (hw : ∀ d ∈ tables_1, d.before a0 Z = true) : (Jvm.Cond.methodLink "java/lang/String" (1 : Nat) ({ cls := "java/lang/Object", name := "<init>", desc := "()V" } : Jvm.MethodName)).before a0 Z = true := hw _ (List.mem_of_getElem? (i := 19) rfl)
theorem w_21 {Z : State} {a0 : Array Value} (hw : ∀ d ∈ tables_1, d.before a0 Z = true) : (Jvm.Cond.code ({ cls := "java/lang/Object", name := "<init>", desc := "()V" } : Jvm.MethodName) object_method_1_code (1 : Nat) (Option.none : Option Jvm.ClassFile.FieldType)).before a0 Z = true := hw _ (List.mem_of_getElem? (i := 21) rfl)
theorem w_20 {Z : State} {a0 : Array Value} (hw : ∀ d ∈ tables_1, d.before a0 Z = true) : (Jvm.Cond.instanceMethod ({ cls := "java/lang/Object", name := "<init>", desc := "()V" } : Jvm.MethodName)).before a0 Z = true := hw _ (List.mem_of_getElem? (i := 20) rfl)
theorem d_j42_151_1 : decode jdk_42_method_151_code 1 = .ok (.invokespecial 1, 3) := by decide +kernel
theorem d_j42_151_4 : decode jdk_42_method_151_code 4 = .ok (.aload_n 0, 1) := by decide +kernel
theorem d_j42_151_5 : decode jdk_42_method_151_code 5 = .ok (.aload_n 1, 1) := by decide +kernel
theorem w_37 {Z : State} {a0 : Array Value} (hw : ∀ d ∈ tables_1, d.before a0 Z = true) : (Jvm.Cond.laysFinal "java/lang/String" "java/lang/String" "value" "[B").before a0 Z = true := hw _ (List.mem_of_getElem? (i := 37) rfl)
theorem d_j42_151_6 : decode jdk_42_method_151_code 6 = .ok (.putfield 9, 3) := by decide +kernel
theorem d_j42_151_9 : decode jdk_42_method_151_code 9 = .ok (.aload_n 0, 1) := by decide +kernel
theorem d_j42_151_10 : decode jdk_42_method_151_code 10 = .ok (.iload_n 2, 1) := by decide +kernel
theorem w_35 {Z : State} {a0 : Array Value} (hw : ∀ d ∈ tables_1, d.before a0 Z = true) : (Jvm.Cond.laysFinal "java/lang/String" "java/lang/String" "coder" "B").before a0 Z = true := hw _ (List.mem_of_getElem? (i := 35) rfl)
theorem d_j42_151_11 : decode jdk_42_method_151_code 11 = .ok (.putfield 15, 3) := by decide +kernel
theorem d_j42_151_14 : decode jdk_42_method_151_code 14 = .ok (.return_, 1) := by decide +kernel
set_option maxRecDepth 65536 in
set_option maxHeartbeats 40000000 in
theorem rm_sbb (l : Launch) (Z : State) (a0 : Array Value) (hw : ∀ d ∈ tables_1, d.before a0 Z = true) (ws : List Jvm.Cond) (us ub : Addr) (h0 : Heap) (n0 : Nat) (Z0 : n0 ≤ h0.size) (q0 : n0 ≤ us) (E0 : Exa Z h0 us "java/lang/String") (V0 : Fld Z h0 us "java/lang/String" "value" "[B" .null) (Cc0 : Fld Z h0 us "java/lang/String" "coder" "B" (.int (0 : Int32))) :
    own_Met l Z (⟨"java/lang/String", "<init>", "([BB)V"⟩ : MethodName) jdk_42_method_151_code 3 none ws ({ frames := 1, cells := 0, slots := 0, locals := 12 } : Room) #[(.ref us), (.ref ub), (.int (0 : Int32))] h0 (Q_sbb Z us ub h0 n0) := by
  refine own_enter (own := "java/lang/String") (plainFor_of_name pn_2) rfl ?_
  intro p e s m below meth c s₁ hlk hret hx hby hml hown hnm hZ X0 e0
  have N0 := Fr.nil n0
  refine own_cast (ef_sbb m us ub) ?_
  show own_Go _ _ _ _ (s₁.setTop (mkF m 0 #[.val (.ref us), .val (.ref ub), .val (.int (0 : Int32))] []))
  refine own_go (fun t k => XS.aloadN X0.here hx rfl (hb hby d_j42_151_0) rfl rfl k) ?_
  show own_Go _ _ _ _ (s₁.setTop (mkF m 1 #[.val (.ref us), .val (.ref ub), .val (.int (0 : Int32))] [(.ref us)]))
  obtain ⟨T203, X203, e203, st203⟩ := initO X0 hx hZ hown (w_19 hw) (w_20 hw) (w_21 hw) e0 (g := (mkF m 1 #[.val (.ref us), .val (.ref ub), .val (.int (0 : Int32))] [(.ref us)])) rfl (by rw [hml]; rfl) rfl (hb hby d_j42_151_1) (by decide) (W := 0) (by show 2 * 0 + _ ≤ _; exact Nat.le_of_eq rfl) (by decide)
  refine own_go st203 ?_
  refine own_go (fun t k => XS.aloadN X203.here hx rfl (hb hby d_j42_151_4) rfl rfl k) ?_
  refine own_go (fun t k => XS.aloadN X203.here hx rfl (hb hby d_j42_151_5) rfl rfl k) ?_
  show own_Go _ _ _ _ (T203.setTop (mkF m 6 #[.val (.ref us), .val (.ref ub), .val (.int (0 : Int32))] [(.ref ub), (.ref us)]))
  obtain ⟨T204, h204, X204, e204, W204, st204⟩ := putF X203 hx hZ hown (host := "") (Or.inl (w_36 hw)) Via.refl e203 V0 E0 (Or.inr ⟨(w_37 hw), rfl, hnm⟩) (w_6 hw) (ty := (.array .byte)) (by decide) rfl rfl (g := (mkF m 6 #[.val (.ref us), .val (.ref ub), .val (.int (0 : Int32))] [(.ref ub), (.ref us)])) rfl rfl (hb hby d_j42_151_6)
  refine own_go st204 ?_
  have F204 := V0.same W204
  have Z204 : n0 ≤ h204.size := (Nat.le_trans Z0 (Nat.le_of_eq W204.size.symm))
  have N204 := Fr.snoc X204 N0 q0
  have K204 : Keep h0 h204 [us] := (Keep.refl h0 [us]).wr W204 (Or.inl (List.mem_of_getElem? (i := 0) rfl))
  refine own_go (fun t k => XS.aloadN X204.here hx rfl (hb hby d_j42_151_9) rfl rfl k) ?_
  refine own_go (fun t k => XS.iloadN X204.here hx rfl (hb hby d_j42_151_10) rfl k) ?_
  show own_Go _ _ _ _ (T204.setTop (mkF m 11 #[.val (.ref us), .val (.ref ub), .val (.int (0 : Int32))] [(.int (0 : Int32)), (.ref us)]))
  have f205 := (Cc0.other W204 (Or.inr (slot_ne (Or.inr (w_35 hw)) (Or.inr (w_37 hw)) (by decide) (t := .byte) (t' := (.array .byte)) (by decide) (by decide))))
  obtain ⟨T206, h206, X206, e206, W206, st206⟩ := putFN X204 hx hZ hown (w_34 hw) Via.refl e204 f205 (E0.wr W204) (Or.inr ⟨(w_35 hw), rfl, hnm⟩) (w_6 hw) (ty := .byte) (v' := (.int (0 : Int32))) (by decide) rfl rfl (g := (mkF m 11 #[.val (.ref us), .val (.ref ub), .val (.int (0 : Int32))] [(.int (0 : Int32)), (.ref us)])) rfl rfl (hb hby d_j42_151_11)
  refine own_go st206 ?_
  have F206 := f205.same W206
  have Z206 : n0 ≤ h206.size := (Nat.le_trans Z204 (Nat.le_of_eq W206.size.symm))
  have N206 := Fr.snoc X206 N204 q0
  have K206 : Keep h0 h206 [us] := K204.wr W206 (Or.inl (List.mem_of_getElem? (i := 0) rfl))
  have f207 := (F204.other W206 (Or.inr (slot_ne (Or.inr (w_37 hw)) (Or.inr (w_35 hw)) (by decide) (t := (.array .byte)) (t' := .byte) (by decide) (by decide))))
  show own_Go _ _ _ _ (T206.setTop (mkF m 14 #[.val (.ref us), .val (.ref ub), .val (.int (0 : Int32))] []))
  refine own_retV X206 hx hlk hret (hb hby d_j42_151_14) ?_ (by decide) (by decide)
  rw [e206]
  exact ⟨rfl, N206, K206, F206, f207⟩
def Q_ckl_1 (Z : State)  (h0 : Heap) (n0 : Nat) (v : Option Value) (h : Heap) (L : List Loc) : Prop := v = none ∧ Fr n0 L ∧ h = h0
theorem ef_ckl_1 (m : MethodId)  : entryFrame m #[(.int (0 : Int32)), (.int (1 : Int32))] 2 = mkF m 0 #[.val (.int (0 : Int32)), .val (.int (1 : Int32))] [] := by first | (simp [entryFrame, mkF, argsToLocals, Value.category]; done) | rfl
theorem pn_4 : plainName "java/util/Arrays" = true := by first | (simp [plainName, overriddenIn]; done) | decide +kernel
theorem d_j65_131_0 : decode jdk_65_method_131_code 0 = .ok (.iload_n 1, 1) := by decide +kernel
theorem d_j65_131_1 : decode jdk_65_method_131_code 1 = .ok (.iload_n 0, 1) := by decide +kernel
theorem d_j65_131_2 : decode jdk_65_method_131_code 2 = .ok (.if_icmp .ge 35, 3) := by decide +kernel
theorem d_j65_131_37 : decode jdk_65_method_131_code 37 = .ok (.return_, 1) := by decide +kernel
set_option maxRecDepth 65536 in
set_option maxHeartbeats 40000000 in
theorem rm_ckl_1 (l : Launch) (Z : State) (a0 : Array Value) (hw : ∀ d ∈ tables_1, d.before a0 Z = true) (ws : List Jvm.Cond)  (h0 : Heap) (n0 : Nat) (Z0 : n0 ≤ h0.size) :
    own_Met l Z (⟨"java/util/Arrays", "checkLength", "(II)V"⟩ : MethodName) jdk_65_method_131_code 2 none ws ({ frames := 0, cells := 0, slots := 0, locals := 0 } : Room) #[(.int (0 : Int32)), (.int (1 : Int32))] h0 (Q_ckl_1 Z  h0 n0) := by
  refine own_enter (own := "java/util/Arrays") (plainFor_of_name pn_4) rfl ?_
  intro p e s m below meth c s₁ hlk hret hx hby hml hown hnm hZ X0 e0
  have N0 := Fr.nil n0
  refine own_cast (ef_ckl_1 m ) ?_
  show own_Go _ _ _ _ (s₁.setTop (mkF m 0 #[.val (.int (0 : Int32)), .val (.int (1 : Int32))] []))
  refine own_go (fun t k => XS.iloadN X0.here hx rfl (hb hby d_j65_131_0) rfl k) ?_
  refine own_go (fun t k => XS.iloadN X0.here hx rfl (hb hby d_j65_131_1) rfl k) ?_
  show own_Go _ _ _ _ (s₁.setTop (mkF m 2 #[.val (.int (0 : Int32)), .val (.int (1 : Int32))] [(.int (0 : Int32)), (.int (1 : Int32))]))
  refine own_go (fun t k => XS.icmpYes X0.here hx rfl (pc0 := 2) (pc' := 37) rfl (hb hby d_j65_131_2) rfl (flt (by decide : ¬ ((1 : Int32) < (0 : Int32)))).2.1 (by decide) (by decide) k) ?_
  show own_Go _ _ _ _ (s₁.setTop (mkF m 37 #[.val (.int (0 : Int32)), .val (.int (1 : Int32))] []))
  refine own_retV X0 hx hlk hret (hb hby d_j65_131_37) ?_ (by decide) (by decide)
  rw [e0]
  exact ⟨rfl, N0, rfl⟩
def Q_crb_1 (Z : State) (ub : Addr) (kb : ClassId) (nv : Int32) (vs : List Value) (h0 : Heap) (n0 : Nat) (v : Option Value) (h : Heap) (L : List Loc) : Prop := ∃ (uy : Addr) (ky : ClassId), v = some (.ref uy) ∧ Fr n0 L ∧ Keep h0 h [] ∧ h0.size ≤ uy ∧ n0 ≤ uy ∧ Arv Z h uy ky .byte (1 : Int32) [(vs.getD 0 (.int (0 : Int32)))] (.int (0 : Int32))
theorem ef_crb_1 (m : MethodId) (ub : Addr) : entryFrame m #[(.ref ub), (.int (0 : Int32)), (.int (1 : Int32))] 5 = mkF m 0 #[.val (.ref ub), .val (.int (0 : Int32)), .val (.int (1 : Int32)), .unset, .unset] [] := by first | (simp [entryFrame, mkF, argsToLocals, Value.category]; done) | rfl
theorem d_j65_133_0 : decode jdk_65_method_133_code 0 = .ok (.iload_n 1, 1) := by decide +kernel
theorem d_j65_133_1 : decode jdk_65_method_133_code 1 = .ok (.iload_n 2, 1) := by decide +kernel
theorem w_132 {Z : State} {a0 : Array Value} (hw : ∀ d ∈ tables_1, d.before a0 Z = true) : (Jvm.Cond.methodLink "java/util/Arrays" (343 : Nat) ({ cls := "java/util/Arrays", name := "checkLength", desc := "(II)V" } : Jvm.MethodName)).before a0 Z = true := hw _ (List.mem_of_getElem? (i := 132) rfl)
theorem w_134 {Z : State} {a0 : Array Value} (hw : ∀ d ∈ tables_1, d.before a0 Z = true) : (Jvm.Cond.code ({ cls := "java/util/Arrays", name := "checkLength", desc := "(II)V" } : Jvm.MethodName) jdk_65_method_131_code (2 : Nat) (Option.none : Option Jvm.ClassFile.FieldType)).before a0 Z = true := hw _ (List.mem_of_getElem? (i := 134) rfl)
theorem w_127 {Z : State} {a0 : Array Value} (hw : ∀ d ∈ tables_1, d.before a0 Z = true) : (Jvm.Cond.initialized "java/util/Arrays").before a0 Z = true := hw _ (List.mem_of_getElem? (i := 127) rfl)
theorem pd_6 : parseMethodDescriptor "(II)V" = some ⟨[.int, .int], none⟩ := by decide +kernel
theorem d_j65_133_2 : decode jdk_65_method_133_code 2 = .ok (.invokestatic 343, 3) := by decide +kernel
theorem w_133 {Z : State} {a0 : Array Value} (hw : ∀ d ∈ tables_1, d.before a0 Z = true) : (Jvm.Cond.static ({ cls := "java/util/Arrays", name := "checkLength", desc := "(II)V" } : Jvm.MethodName)).before a0 Z = true := hw _ (List.mem_of_getElem? (i := 133) rfl)
theorem d_j65_133_5 : decode jdk_65_method_133_code 5 = .ok (.iload_n 2, 1) := by decide +kernel
theorem d_j65_133_6 : decode jdk_65_method_133_code 6 = .ok (.iload_n 1, 1) := by decide +kernel
theorem d_j65_133_7 : decode jdk_65_method_133_code 7 = .ok (.isub, 1) := by decide +kernel
theorem d_j65_133_8 : decode jdk_65_method_133_code 8 = .ok (.istore_n 3, 1) := by decide +kernel
theorem d_j65_133_9 : decode jdk_65_method_133_code 9 = .ok (.iload_n 3, 1) := by decide +kernel
theorem w_27 {Z : State} {a0 : Array Value} (hw : ∀ d ∈ tables_1, d.before a0 Z = true) : (Jvm.Cond.arrayClass Jvm.ClassFile.FieldType.byte).before a0 Z = true := hw _ (List.mem_of_getElem? (i := 27) rfl)
theorem d_j65_133_10 : decode jdk_65_method_133_code 10 = .ok (.newarray .byte, 2) := by decide +kernel
theorem d_j65_133_12 : decode jdk_65_method_133_code 12 = .ok (.astore 4, 2) := by decide +kernel
theorem d_j65_133_14 : decode jdk_65_method_133_code 14 = .ok (.aload_n 0, 1) := by decide +kernel
theorem d_j65_133_15 : decode jdk_65_method_133_code 15 = .ok (.iload_n 1, 1) := by decide +kernel
theorem d_j65_133_16 : decode jdk_65_method_133_code 16 = .ok (.aload 4, 2) := by decide +kernel
theorem d_j65_133_18 : decode jdk_65_method_133_code 18 = .ok (.iconst 0, 1) := by decide +kernel
theorem d_j65_133_19 : decode jdk_65_method_133_code 19 = .ok (.aload_n 0, 1) := by decide +kernel
theorem d_j65_133_20 : decode jdk_65_method_133_code 20 = .ok (.arraylength, 1) := by decide +kernel
theorem d_j65_133_21 : decode jdk_65_method_133_code 21 = .ok (.iload_n 1, 1) := by decide +kernel
theorem d_j65_133_22 : decode jdk_65_method_133_code 22 = .ok (.isub, 1) := by decide +kernel
theorem d_j65_133_23 : decode jdk_65_method_133_code 23 = .ok (.iload_n 3, 1) := by decide +kernel
theorem w_135 {Z : State} {a0 : Array Value} (hw : ∀ d ∈ tables_1, d.before a0 Z = true) : (Jvm.Cond.methodLink "java/util/Arrays" (304 : Nat) ({ cls := "java/lang/Math", name := "min", desc := "(II)I" } : Jvm.MethodName)).before a0 Z = true := hw _ (List.mem_of_getElem? (i := 135) rfl)
theorem d_j65_133_24 : decode jdk_65_method_133_code 24 = .ok (.invokestatic 304, 3) := by decide +kernel
theorem w_136 {Z : State} {a0 : Array Value} (hw : ∀ d ∈ tables_1, d.before a0 Z = true) : (Jvm.Cond.methodLink "java/util/Arrays" (150 : Nat) ({ cls := "java/lang/System", name := "arraycopy", desc := "(Ljava/lang/Object;ILjava/lang/Object;II)V" } : Jvm.MethodName)).before a0 Z = true := hw _ (List.mem_of_getElem? (i := 136) rfl)
theorem w_139 {Z : State} {a0 : Array Value} (hw : ∀ d ∈ tables_1, d.before a0 Z = true) : (Jvm.Cond.native ({ cls := "java/lang/System", name := "arraycopy", desc := "(Ljava/lang/Object;ILjava/lang/Object;II)V" } : Jvm.MethodName)).before a0 Z = true := hw _ (List.mem_of_getElem? (i := 139) rfl)
theorem w_137 {Z : State} {a0 : Array Value} (hw : ∀ d ∈ tables_1, d.before a0 Z = true) : (Jvm.Cond.static ({ cls := "java/lang/System", name := "arraycopy", desc := "(Ljava/lang/Object;ILjava/lang/Object;II)V" } : Jvm.MethodName)).before a0 Z = true := hw _ (List.mem_of_getElem? (i := 137) rfl)
theorem w_138 {Z : State} {a0 : Array Value} (hw : ∀ d ∈ tables_1, d.before a0 Z = true) : (Jvm.Cond.initialized "java/lang/System").before a0 Z = true := hw _ (List.mem_of_getElem? (i := 138) rfl)
theorem d_j65_133_27 : decode jdk_65_method_133_code 27 = .ok (.invokestatic 150, 3) := by decide +kernel
theorem d_j65_133_30 : decode jdk_65_method_133_code 30 = .ok (.aload 4, 2) := by decide +kernel
theorem d_j65_133_32 : decode jdk_65_method_133_code 32 = .ok (.areturn, 1) := by decide +kernel
set_option maxRecDepth 65536 in
set_option maxHeartbeats 40000000 in
theorem rm_crb_1 (l : Launch) (Z : State) (a0 : Array Value) (hw : ∀ d ∈ tables_1, d.before a0 Z = true) (ws : List Jvm.Cond) (ub : Addr) (kb : ClassId) (nv : Int32) (vs : List Value) (h0 : Heap) (n0 : Nat) (Z0 : n0 ≤ h0.size) (A0 : Arv Z h0 ub kb .byte nv vs (.int (0 : Int32))) (hm : (1 : Int32) < nv - (0 : Int32)) (h4_ : (0 : Int32).toNatClampNeg + (1 : Int32).toNatClampNeg ≤ nv.toNatClampNeg) (hne : ¬ (1 : Int32) = nv) :
    own_Met l Z (⟨"java/util/Arrays", "copyOfRangeByte", "([BII)[B"⟩ : MethodName) jdk_65_method_133_code 5 (some (.array .byte)) ws ({ frames := 1, cells := 1, slots := 1, locals := 18 } : Room) #[(.ref ub), (.int (0 : Int32)), (.int (1 : Int32))] h0 (Q_crb_1 Z ub kb nv vs h0 n0) := by
  refine own_enter (own := "java/util/Arrays") (plainFor_of_name pn_4) rfl ?_
  intro p e s m below meth c s₁ hlk hret hx hby hml hown hnm hZ X0 e0
  have N0 := Fr.nil n0
  refine own_cast (ef_crb_1 m ub) ?_
  show own_Go _ _ _ _ (s₁.setTop (mkF m 0 #[.val (.ref ub), .val (.int (0 : Int32)), .val (.int (1 : Int32)), .unset, .unset] []))
  refine own_go (fun t k => XS.iloadN X0.here hx rfl (hb hby d_j65_133_0) rfl k) ?_
  refine own_go (fun t k => XS.iloadN X0.here hx rfl (hb hby d_j65_133_1) rfl k) ?_
  obtain ⟨_, _, ⟨T208, L208, k208, n208⟩, -, X208, ⟨Lc208, hQ208, l208, y208, z208⟩, st208⟩ := Jvm.LawKit.callS X0 hx (y := (⟨"java/util/Arrays", "checkLength", "(II)V"⟩ : MethodName)) hown (mvT hZ (w_132 hw)) (mvT hZ (w_133 hw)) (mvT hZ (w_127 hw)) (mvT hZ (w_134 hw)) (by decide) (backOf (W := 0) (rm_ckl_1 l Z a0 hw []  h0 n0 Z0 ) hZ (w_134 hw) (w_127 hw) (by decide) (by decide)) (g := (mkF m 2 #[.val (.ref ub), .val (.int (0 : Int32)), .val (.int (1 : Int32)), .unset, .unset] [(.int (1 : Int32)), (.int (0 : Int32))])) rfl (by rw [hml]; rfl) (argsL := [(.int (0 : Int32)), (.int (1 : Int32))]) (rest := []) (lenOf pd_6 rfl) rfl (by show 2 * 0 + _ ≤ _; exact Nat.le_of_eq rfl) (hb hby d_j65_133_2) (fun _ _ => ⟨rfl, e0, (by decide : 0 + 0 ≤ _), (by decide : 0 + 0 ≤ _)⟩)
  dsimp only [Pt.U, Pt.locs, Pt.cells, Pt.slots] at X208 l208 y208 z208 st208 hQ208
  subst l208 y208 z208
  obtain ⟨rfl, N208q, e208⟩ := hQ208
  have N208 := Fr.app N0 N208q
  refine own_go st208 ?_
  refine own_go (fun t k => XS.iloadN X208.here hx rfl (hb hby d_j65_133_5) rfl k) ?_
  refine own_go (fun t k => XS.iloadN X208.here hx rfl (hb hby d_j65_133_6) rfl k) ?_
  refine own_go (fun t k => XS.isub X208.here hx rfl (hb hby d_j65_133_7) rfl k) ?_
  refine own_go (fun t k => XS.istoreN X208.here hx rfl (hb hby d_j65_133_8) rfl (l' := #[.val (.ref ub), .val (.int (0 : Int32)), .val (.int (1 : Int32)), .val (.int (1 : Int32)), .unset]) rfl k) ?_
  show own_Go _ _ _ _ (T208.setTop (mkF m 9 #[.val (.ref ub), .val (.int (0 : Int32)), .val (.int (1 : Int32)), .val (.int (1 : Int32)), .unset] []))
  refine own_go (fun t k => XS.iloadN X208.here hx rfl (hb hby d_j65_133_9) rfl k) ?_
  show own_Go _ _ _ _ (T208.setTop (mkF m 10 #[.val (.ref ub), .val (.int (0 : Int32)), .val (.int (1 : Int32)), .val (.int (1 : Int32)), .unset] [(.int (1 : Int32))]))
  obtain ⟨T209, h209, k209, X209, e209, E209, A209, st209⟩ := newP (aty := .byte) X208 hx hZ (w_27 hw) e208 (n := (1 : Int32)) (rest := []) (g := (mkF m 10 #[.val (.ref ub), .val (.int (0 : Int32)), .val (.int (1 : Int32)), .val (.int (1 : Int32)), .unset] [(.int (1 : Int32))])) rfl (hb hby d_j65_133_10) rfl (by decide) (cap := 1) (by decide) (by decide) (by decide) (by decide)
  obtain ⟨b209, g209⟩ : ∃ z, z = h0.size := ⟨_, rfl⟩
  rw [← g209] at A209 st209
  refine own_go st209 ?_
  have Z209 : n0 ≤ h209.size := (Nat.le_trans Z0 E209.1)
  have K209 : Keep h0 h209 [] := (Keep.refl h0 []).ext E209
  have lo209 : h0.size ≤ b209 := Nat.le_of_eq g209.symm
  have q209 : n0 ≤ b209 := Nat.le_trans Z0 lo209
  have hi209 : b209 < h209.size := A209.lt
  have V209 : Arv Z h209 b209 k209 .byte (1 : Int32) [(.int (0 : Int32))] (.int (0 : Int32)) := (Arv.new A209 (by decide)).pad (pad_rep [] (.int (0 : Int32)) 1)
  refine own_go (fun t k => XS.astore X209.here hx rfl (hb hby d_j65_133_12) rfl rfl (l' := #[.val (.ref ub), .val (.int (0 : Int32)), .val (.int (1 : Int32)), .val (.int (1 : Int32)), .val (.ref b209)]) rfl k) ?_
  refine own_go (fun t k => XS.aloadN X209.here hx rfl (hb hby d_j65_133_14) rfl rfl k) ?_
  refine own_go (fun t k => XS.iloadN X209.here hx rfl (hb hby d_j65_133_15) rfl k) ?_
  refine own_go (fun t k => XS.aload X209.here hx rfl (hb hby d_j65_133_16) rfl rfl k) ?_
  refine own_go (fun t k => XS.iconst X209.here hx rfl (hb hby d_j65_133_18) k) ?_
  refine own_go (fun t k => XS.aloadN X209.here hx rfl (hb hby d_j65_133_19) rfl rfl k) ?_
  show own_Go _ _ _ _ (T209.setTop (mkF m 20 #[.val (.ref ub), .val (.int (0 : Int32)), .val (.int (1 : Int32)), .val (.int (1 : Int32)), .val (.ref b209)] [(.ref ub), (.int (0 : Int32)), (.ref b209), (.int (0 : Int32)), (.ref ub)]))
  obtain ⟨cl210, Ar210, qk210, sz210, nn210, ha210, gf210⟩ := id (A0.ext E209)
  refine own_go (X209.arraylength hx (by rw [e209]; exact Ar210.1) (State.isArrayOf_alike hZ.alike Ar210.2.1) (g := (mkF m 20 #[.val (.ref ub), .val (.int (0 : Int32)), .val (.int (1 : Int32)), .val (.int (1 : Int32)), .val (.ref b209)] [(.ref ub), (.int (0 : Int32)), (.ref b209), (.int (0 : Int32)), (.ref ub)])) rfl rfl (hb hby d_j65_133_20)) ?_
  rw [len_of sz210 nn210]
  refine own_go (fun t k => XS.iloadN X209.here hx rfl (hb hby d_j65_133_21) rfl k) ?_
  refine own_go (fun t k => XS.isub X209.here hx rfl (hb hby d_j65_133_22) rfl k) ?_
  refine own_go (fun t k => XS.iloadN X209.here hx rfl (hb hby d_j65_133_23) rfl k) ?_
  obtain ⟨_, _, ⟨T211, L211, k211, n211⟩, -, X211, ⟨Lc211, hQ211, l211, y211, z211⟩, st211⟩ := Jvm.LawKit.callS X209 hx (y := (⟨"java/lang/Math", "min", "(II)I"⟩ : MethodName)) hown (mvT hZ (w_135 hw)) (mvT hZ (w_87 hw)) (mvT hZ (w_88 hw)) (mvT hZ (w_89 hw)) (by decide) (backOf (W := 4) (rm_minB l Z a0 hw [] (nv - (0 : Int32)) (1 : Int32) h209 n0 Z209 hm) hZ (w_89 hw) (w_88 hw) (by decide) (by decide)) (g := (mkF m 24 #[.val (.ref ub), .val (.int (0 : Int32)), .val (.int (1 : Int32)), .val (.int (1 : Int32)), .val (.ref b209)] [(.int (1 : Int32)), (.int (nv - (0 : Int32))), (.int (0 : Int32)), (.ref b209), (.int (0 : Int32)), (.ref ub)])) rfl (by rw [hml]; rfl) (argsL := [(.int (nv - (0 : Int32))), (.int (1 : Int32))]) (rest := [(.int (0 : Int32)), (.ref b209), (.int (0 : Int32)), (.ref ub)]) (lenOf pd_1 rfl) rfl (by show 2 * 0 + _ ≤ _; exact Nat.le_of_eq rfl) (hb hby d_j65_133_24) (fun _ _ => ⟨rfl, e209, (by decide : 1 + 0 ≤ _), (by decide : 1 + 0 ≤ _)⟩)
  dsimp only [Pt.U, Pt.locs, Pt.cells, Pt.slots] at X211 l211 y211 z211 st211 hQ211
  subst l211 y211 z211
  obtain ⟨rfl, N211q, e211⟩ := hQ211
  have N211 := Fr.app N208 N211q
  refine own_go st211 ?_
  show own_Go _ _ _ _ (T211.setTop (mkF m 27 #[.val (.ref ub), .val (.int (0 : Int32)), .val (.int (1 : Int32)), .val (.int (1 : Int32)), .val (.ref b209)] [(.int (1 : Int32)), (.int (0 : Int32)), (.ref b209), (.int (0 : Int32)), (.ref ub)]))
  obtain ⟨T212, h212, L212, X212, e212, N212, K212q, V212, st212⟩ := cpA X211 hx hZ hown (w_136 hw) (w_139 hw) (w_137 hw) (w_138 hw) e211 (sp := (0 : Int32)) (dp := (0 : Int32)) (nn := (1 : Int32)) (us := [(vs.getD 0 (.int (0 : Int32)))]) (A0.ext E209) V209 (Or.inl ⟨rfl, rfl⟩) (by decide) (by decide) (by decide) h4_ (by decide) rfl (by decide) N211 q209 (g := (mkF m 27 #[.val (.ref ub), .val (.int (0 : Int32)), .val (.int (1 : Int32)), .val (.int (1 : Int32)), .val (.ref b209)] [(.int (1 : Int32)), (.int (0 : Int32)), (.ref b209), (.int (0 : Int32)), (.ref ub)])) rfl (by rw [hml]; rfl) rfl (hb hby d_j65_133_27) (by decide) (W := 0) (by show 2 * 0 + _ ≤ _; exact Nat.le_of_eq rfl) (by decide)
  refine own_go st212 ?_
  replace V212 : Arv Z h212 b209 k209 .byte (1 : Int32) [(vs.getD 0 (.int (0 : Int32)))] (.int (0 : Int32)) := V212
  have Z212 : n0 ≤ h212.size := (Nat.le_trans Z209 K212q.1)
  have K212 : Keep h0 h212 [] := K209.trans K212q (allS (Or.inr lo209) all0)
  refine own_go (fun t k => XS.aload X212.here hx rfl (hb hby d_j65_133_30) rfl rfl k) ?_
  show own_Go _ _ _ _ (T212.setTop (mkF m 32 #[.val (.ref ub), .val (.int (0 : Int32)), .val (.int (1 : Int32)), .val (.int (1 : Int32)), .val (.ref b209)] [(.ref b209)]))
  refine own_ret X212 hx hlk hret rfl (Or.inr (Or.inr (Or.inr (Or.inr ⟨rfl, rfl, rfl⟩)))) (hb hby d_j65_133_32) ?_ (by decide) (by decide)
  rw [e212]
  exact ⟨b209, k209, rfl, N212, K212, lo209, q209, V212⟩
def Q_cor_1 (Z : State) (ub : Addr) (kb : ClassId) (nv : Int32) (vs : List Value) (h0 : Heap) (n0 : Nat) (v : Option Value) (h : Heap) (L : List Loc) : Prop := ∃ (uy : Addr) (ky : ClassId), v = some (.ref uy) ∧ Fr n0 L ∧ Keep h0 h [] ∧ h0.size ≤ uy ∧ n0 ≤ uy ∧ Arv Z h uy ky .byte (1 : Int32) [(vs.getD 0 (.int (0 : Int32)))] (.int (0 : Int32))
theorem ef_cor_1 (m : MethodId) (ub : Addr) : entryFrame m #[(.ref ub), (.int (0 : Int32)), (.int (1 : Int32))] 3 = mkF m 0 #[.val (.ref ub), .val (.int (0 : Int32)), .val (.int (1 : Int32))] [] := by first | (simp [entryFrame, mkF, argsToLocals, Value.category]; done) | rfl
theorem d_j65_132_0 : decode jdk_65_method_132_code 0 = .ok (.iload_n 1, 1) := by decide +kernel
theorem d_j65_132_1 : decode jdk_65_method_132_code 1 = .ok (.ifCond .ne 9, 3) := by decide +kernel
theorem d_j65_132_4 : decode jdk_65_method_132_code 4 = .ok (.iload_n 2, 1) := by decide +kernel
theorem d_j65_132_5 : decode jdk_65_method_132_code 5 = .ok (.aload_n 0, 1) := by decide +kernel
theorem d_j65_132_6 : decode jdk_65_method_132_code 6 = .ok (.arraylength, 1) := by decide +kernel
theorem d_j65_132_7 : decode jdk_65_method_132_code 7 = .ok (.if_icmp .eq 10, 3) := by decide +kernel
theorem d_j65_132_10 : decode jdk_65_method_132_code 10 = .ok (.aload_n 0, 1) := by decide +kernel
theorem d_j65_132_11 : decode jdk_65_method_132_code 11 = .ok (.iload_n 1, 1) := by decide +kernel
theorem d_j65_132_12 : decode jdk_65_method_132_code 12 = .ok (.iload_n 2, 1) := by decide +kernel
theorem w_129 {Z : State} {a0 : Array Value} (hw : ∀ d ∈ tables_1, d.before a0 Z = true) : (Jvm.Cond.methodLink "java/util/Arrays" (339 : Nat) ({ cls := "java/util/Arrays", name := "copyOfRangeByte", desc := "([BII)[B" } : Jvm.MethodName)).before a0 Z = true := hw _ (List.mem_of_getElem? (i := 129) rfl)
theorem w_131 {Z : State} {a0 : Array Value} (hw : ∀ d ∈ tables_1, d.before a0 Z = true) : (Jvm.Cond.code ({ cls := "java/util/Arrays", name := "copyOfRangeByte", desc := "([BII)[B" } : Jvm.MethodName) jdk_65_method_133_code (5 : Nat) (Option.some (Jvm.ClassFile.FieldType.array Jvm.ClassFile.FieldType.byte))).before a0 Z = true := hw _ (List.mem_of_getElem? (i := 131) rfl)
theorem pd_7 : parseMethodDescriptor "([BII)[B" = some ⟨[(.array .byte), .int, .int], some (.array .byte)⟩ := by decide +kernel
theorem d_j65_132_13 : decode jdk_65_method_132_code 13 = .ok (.invokestatic 339, 3) := by decide +kernel
theorem w_130 {Z : State} {a0 : Array Value} (hw : ∀ d ∈ tables_1, d.before a0 Z = true) : (Jvm.Cond.static ({ cls := "java/util/Arrays", name := "copyOfRangeByte", desc := "([BII)[B" } : Jvm.MethodName)).before a0 Z = true := hw _ (List.mem_of_getElem? (i := 130) rfl)
theorem d_j65_132_16 : decode jdk_65_method_132_code 16 = .ok (.areturn, 1) := by decide +kernel
set_option maxRecDepth 65536 in
set_option maxHeartbeats 40000000 in
theorem rm_cor_1 (l : Launch) (Z : State) (a0 : Array Value) (hw : ∀ d ∈ tables_1, d.before a0 Z = true) (ws : List Jvm.Cond) (ub : Addr) (kb : ClassId) (nv : Int32) (vs : List Value) (h0 : Heap) (n0 : Nat) (Z0 : n0 ≤ h0.size) (A0 : Arv Z h0 ub kb .byte nv vs (.int (0 : Int32))) (hm : (1 : Int32) < nv - (0 : Int32)) (h4_ : (0 : Int32).toNatClampNeg + (1 : Int32).toNatClampNeg ≤ nv.toNatClampNeg) (hne : ¬ (1 : Int32) = nv) :
    own_Met l Z (⟨"java/util/Arrays", "copyOfRange", "([BII)[B"⟩ : MethodName) jdk_65_method_132_code 3 (some (.array .byte)) ws ({ frames := 2, cells := 1, slots := 1, locals := 34 } : Room) #[(.ref ub), (.int (0 : Int32)), (.int (1 : Int32))] h0 (Q_cor_1 Z ub kb nv vs h0 n0) := by
  refine own_enter (own := "java/util/Arrays") (plainFor_of_name pn_4) rfl ?_
  intro p e s m below meth c s₁ hlk hret hx hby hml hown hnm hZ X0 e0
  have N0 := Fr.nil n0
  refine own_cast (ef_cor_1 m ub) ?_
  show own_Go _ _ _ _ (s₁.setTop (mkF m 0 #[.val (.ref ub), .val (.int (0 : Int32)), .val (.int (1 : Int32))] []))
  refine own_go (fun t k => XS.iloadN X0.here hx rfl (hb hby d_j65_132_0) rfl k) ?_
  show own_Go _ _ _ _ (s₁.setTop (mkF m 1 #[.val (.ref ub), .val (.int (0 : Int32)), .val (.int (1 : Int32))] [(.int (0 : Int32))]))
  refine own_go (fun t k => XS.ifNo X0.here hx rfl (hb hby d_j65_132_1) rfl ((if0 _ _).trans (teq (by decide : (0 : Int32) = (0 : Int32))).2) k) ?_
  refine own_go (fun t k => XS.iloadN X0.here hx rfl (hb hby d_j65_132_4) rfl k) ?_
  refine own_go (fun t k => XS.aloadN X0.here hx rfl (hb hby d_j65_132_5) rfl rfl k) ?_
  show own_Go _ _ _ _ (s₁.setTop (mkF m 6 #[.val (.ref ub), .val (.int (0 : Int32)), .val (.int (1 : Int32))] [(.ref ub), (.int (1 : Int32))]))
  obtain ⟨cl213, Ar213, qk213, sz213, nn213, ha213, gf213⟩ := id A0
  refine own_go (X0.arraylength hx (by rw [e0]; exact Ar213.1) (State.isArrayOf_alike hZ.alike Ar213.2.1) (g := (mkF m 6 #[.val (.ref ub), .val (.int (0 : Int32)), .val (.int (1 : Int32))] [(.ref ub), (.int (1 : Int32))])) rfl rfl (hb hby d_j65_132_6)) ?_
  rw [len_of sz213 nn213]
  show own_Go _ _ _ _ (s₁.setTop (mkF m 7 #[.val (.ref ub), .val (.int (0 : Int32)), .val (.int (1 : Int32))] [(.int nv), (.int (1 : Int32))]))
  refine own_go (fun t k => XS.icmpNo X0.here hx rfl (hb hby d_j65_132_7) rfl (feq hne).1 k) ?_
  refine own_go (fun t k => XS.aloadN X0.here hx rfl (hb hby d_j65_132_10) rfl rfl k) ?_
  refine own_go (fun t k => XS.iloadN X0.here hx rfl (hb hby d_j65_132_11) rfl k) ?_
  refine own_go (fun t k => XS.iloadN X0.here hx rfl (hb hby d_j65_132_12) rfl k) ?_
  obtain ⟨_, _, ⟨T214, L214, k214, n214⟩, -, X214, ⟨Lc214, hQ214, l214, y214, z214⟩, st214⟩ := Jvm.LawKit.callS X0 hx (y := (⟨"java/util/Arrays", "copyOfRangeByte", "([BII)[B"⟩ : MethodName)) hown (mvT hZ (w_129 hw)) (mvT hZ (w_130 hw)) (mvT hZ (w_127 hw)) (mvT hZ (w_131 hw)) (by decide) (backOf (W := 0) (rm_crb_1 l Z a0 hw [] ub kb nv vs h0 n0 Z0 A0 hm h4_ hne) hZ (w_131 hw) (w_127 hw) (by decide) (by decide)) (g := (mkF m 13 #[.val (.ref ub), .val (.int (0 : Int32)), .val (.int (1 : Int32))] [(.int (1 : Int32)), (.int (0 : Int32)), (.ref ub)])) rfl (by rw [hml]; rfl) (argsL := [(.ref ub), (.int (0 : Int32)), (.int (1 : Int32))]) (rest := []) (lenOf pd_7 rfl) rfl (by show 2 * 0 + _ ≤ _; exact Nat.le_of_eq rfl) (hb hby d_j65_132_13) (fun _ _ => ⟨rfl, e0, (by decide : 0 + 1 ≤ _), (by decide : 0 + 1 ≤ _)⟩)
  dsimp only [Pt.U, Pt.locs, Pt.cells, Pt.slots] at X214 l214 y214 z214 st214 hQ214
  subst l214 y214 z214
  generalize e214 : T214.heap = h214 at hQ214
  obtain ⟨uy214, ky214, rfl, N214q, K214q, lo214, q214, A214⟩ := hQ214
  have N214 := Fr.app N0 N214q
  refine own_go st214 ?_
  have Z214 : n0 ≤ h214.size := (Nat.le_trans Z0 K214q.1)
  have K214 : Keep h0 h214 [] := (Keep.refl h0 []).trans K214q all0
  have hi214 := A214.lt
  show own_Go _ _ _ _ (T214.setTop (mkF m 16 #[.val (.ref ub), .val (.int (0 : Int32)), .val (.int (1 : Int32))] [(.ref uy214)]))
  refine own_ret X214 hx hlk hret rfl (Or.inr (Or.inr (Or.inr (Or.inr ⟨rfl, rfl, rfl⟩)))) (hb hby d_j65_132_16) ?_ (by decide) (by decide)
  rw [e214]
  exact ⟨uy214, ky214, rfl, N214, K214, lo214, q214, A214⟩
def Q_nst_1 (Z : State) (ub : Addr) (kb : ClassId) (nv : Int32) (vs : List Value) (h0 : Heap) (n0 : Nat) (v : Option Value) (h : Heap) (L : List Loc) : Prop := ∃ (ux uy : Addr) (ky : ClassId), v = some (.ref ux) ∧ Fr n0 L ∧ Keep h0 h [] ∧ h0.size ≤ ux ∧ n0 ≤ ux ∧ h0.size ≤ uy ∧ n0 ≤ uy ∧ Exa Z h ux "java/lang/String" ∧ Fld Z h ux "java/lang/String" "coder" "B" (.int (0 : Int32)) ∧ Fld Z h ux "java/lang/String" "value" "[B" (.ref uy) ∧ Arv Z h uy ky .byte (1 : Int32) [(vs.getD 0 (.int (0 : Int32)))] (.int (0 : Int32))
theorem ef_nst_1 (m : MethodId) (ub : Addr) : entryFrame m #[(.ref ub), (.int (0 : Int32)), (.int (1 : Int32))] 3 = mkF m 0 #[.val (.ref ub), .val (.int (0 : Int32)), .val (.int (1 : Int32))] [] := by first | (simp [entryFrame, mkF, argsToLocals, Value.category]; done) | rfl
theorem d_j43_47_0 : decode jdk_43_method_47_code 0 = .ok (.iload_n 2, 1) := by decide +kernel
theorem d_j43_47_1 : decode jdk_43_method_47_code 1 = .ok (.ifCond .ne 6, 3) := by decide +kernel
theorem w_124 {Z : State} {a0 : Array Value} (hw : ∀ d ∈ tables_1, d.before a0 Z = true) : (Jvm.Cond.classLink "java/lang/StringLatin1" (1 : Nat) "java/lang/String").before a0 Z = true := hw _ (List.mem_of_getElem? (i := 124) rfl)
theorem d_j43_47_7 : decode jdk_43_method_47_code 7 = .ok (.new 1, 3) := by decide +kernel
theorem d_j43_47_10 : decode jdk_43_method_47_code 10 = .ok (.dup, 1) := by decide +kernel
theorem d_j43_47_11 : decode jdk_43_method_47_code 11 = .ok (.aload_n 0, 1) := by decide +kernel
theorem d_j43_47_12 : decode jdk_43_method_47_code 12 = .ok (.iload_n 1, 1) := by decide +kernel
theorem d_j43_47_13 : decode jdk_43_method_47_code 13 = .ok (.iload_n 1, 1) := by decide +kernel
theorem d_j43_47_14 : decode jdk_43_method_47_code 14 = .ok (.iload_n 2, 1) := by decide +kernel
theorem d_j43_47_15 : decode jdk_43_method_47_code 15 = .ok (.iadd, 1) := by decide +kernel
theorem w_125 {Z : State} {a0 : Array Value} (hw : ∀ d ∈ tables_1, d.before a0 Z = true) : (Jvm.Cond.methodLink "java/lang/StringLatin1" (232 : Nat) ({ cls := "java/util/Arrays", name := "copyOfRange", desc := "([BII)[B" } : Jvm.MethodName)).before a0 Z = true := hw _ (List.mem_of_getElem? (i := 125) rfl)
theorem w_128 {Z : State} {a0 : Array Value} (hw : ∀ d ∈ tables_1, d.before a0 Z = true) : (Jvm.Cond.code ({ cls := "java/util/Arrays", name := "copyOfRange", desc := "([BII)[B" } : Jvm.MethodName) jdk_65_method_132_code (3 : Nat) (Option.some (Jvm.ClassFile.FieldType.array Jvm.ClassFile.FieldType.byte))).before a0 Z = true := hw _ (List.mem_of_getElem? (i := 128) rfl)
theorem d_j43_47_16 : decode jdk_43_method_47_code 16 = .ok (.invokestatic 232, 3) := by decide +kernel
theorem w_126 {Z : State} {a0 : Array Value} (hw : ∀ d ∈ tables_1, d.before a0 Z = true) : (Jvm.Cond.static ({ cls := "java/util/Arrays", name := "copyOfRange", desc := "([BII)[B" } : Jvm.MethodName)).before a0 Z = true := hw _ (List.mem_of_getElem? (i := 126) rfl)
theorem d_j43_47_19 : decode jdk_43_method_47_code 19 = .ok (.iconst 0, 1) := by decide +kernel
theorem w_140 {Z : State} {a0 : Array Value} (hw : ∀ d ∈ tables_1, d.before a0 Z = true) : (Jvm.Cond.methodLink "java/lang/StringLatin1" (112 : Nat) ({ cls := "java/lang/String", name := "<init>", desc := "([BB)V" } : Jvm.MethodName)).before a0 Z = true := hw _ (List.mem_of_getElem? (i := 140) rfl)
theorem w_142 {Z : State} {a0 : Array Value} (hw : ∀ d ∈ tables_1, d.before a0 Z = true) : (Jvm.Cond.code ({ cls := "java/lang/String", name := "<init>", desc := "([BB)V" } : Jvm.MethodName) jdk_42_method_151_code (3 : Nat) (Option.none : Option Jvm.ClassFile.FieldType)).before a0 Z = true := hw _ (List.mem_of_getElem? (i := 142) rfl)
theorem pd_8 : parseMethodDescriptor "([BB)V" = some ⟨[(.array .byte), .byte], none⟩ := by decide +kernel
theorem d_j43_47_20 : decode jdk_43_method_47_code 20 = .ok (.invokespecial 112, 3) := by decide +kernel
theorem w_141 {Z : State} {a0 : Array Value} (hw : ∀ d ∈ tables_1, d.before a0 Z = true) : (Jvm.Cond.instanceMethod ({ cls := "java/lang/String", name := "<init>", desc := "([BB)V" } : Jvm.MethodName)).before a0 Z = true := hw _ (List.mem_of_getElem? (i := 141) rfl)
theorem d_j43_47_23 : decode jdk_43_method_47_code 23 = .ok (.areturn, 1) := by decide +kernel
set_option maxRecDepth 65536 in
set_option maxHeartbeats 40000000 in
theorem rm_nst_1 (l : Launch) (Z : State) (a0 : Array Value) (hw : ∀ d ∈ tables_1, d.before a0 Z = true) (ws : List Jvm.Cond) (ub : Addr) (kb : ClassId) (nv : Int32) (vs : List Value) (h0 : Heap) (n0 : Nat) (Z0 : n0 ≤ h0.size) (A0 : Arv Z h0 ub kb .byte nv vs (.int (0 : Int32))) (hm : (1 : Int32) < nv - (0 : Int32)) (h4_ : (0 : Int32).toNatClampNeg + (1 : Int32).toNatClampNeg ≤ nv.toNatClampNeg) (hne : ¬ (1 : Int32) = nv) :
    own_Met l Z (⟨"java/lang/StringLatin1", "newString", "([BII)Ljava/lang/String;"⟩ : MethodName) jdk_43_method_47_code 3 (some (.object "java/lang/String")) ws ({ frames := 3, cells := 2, slots := 5, locals := 50 } : Room) #[(.ref ub), (.int (0 : Int32)), (.int (1 : Int32))] h0 (Q_nst_1 Z ub kb nv vs h0 n0) := by
  refine own_enter (own := "java/lang/StringLatin1") (plainFor_of_name pn_1) rfl ?_
  intro p e s m below meth c s₁ hlk hret hx hby hml hown hnm hZ X0 e0
  have N0 := Fr.nil n0
  refine own_cast (ef_nst_1 m ub) ?_
  show own_Go _ _ _ _ (s₁.setTop (mkF m 0 #[.val (.ref ub), .val (.int (0 : Int32)), .val (.int (1 : Int32))] []))
  refine own_go (fun t k => XS.iloadN X0.here hx rfl (hb hby d_j43_47_0) rfl k) ?_
  show own_Go _ _ _ _ (s₁.setTop (mkF m 1 #[.val (.ref ub), .val (.int (0 : Int32)), .val (.int (1 : Int32))] [(.int (1 : Int32))]))
  refine own_go (fun t k => XS.ifYes X0.here hx rfl (pc0 := 1) (pc' := 7) rfl (hb hby d_j43_47_1) rfl ((if0 _ _).trans (feq (by decide : ¬ ((1 : Int32) = (0 : Int32)))).2) (by decide) (by decide) k) ?_
  show own_Go _ _ _ _ (s₁.setTop (mkF m 7 #[.val (.ref ub), .val (.int (0 : Int32)), .val (.int (1 : Int32))] []))
  obtain ⟨T215, h215, X215, e215, E215, A215, D215, -, st215⟩ := newO X0 hx hZ hown (w_124 hw) (w_6 hw) (w_7 hw) e0 (g := (mkF m 7 #[.val (.ref ub), .val (.int (0 : Int32)), .val (.int (1 : Int32))] [])) rfl (hb hby d_j43_47_7) (by decide) (by decide)
  obtain ⟨b215, g215⟩ : ∃ z, z = h0.size := ⟨_, rfl⟩
  rw [← g215] at A215 D215 st215
  refine own_go st215 ?_
  have Z215 : n0 ≤ h215.size := (Nat.le_trans Z0 E215.1)
  have K215 : Keep h0 h215 [] := (Keep.refl h0 []).ext E215
  have lo215 : h0.size ≤ b215 := Nat.le_of_eq g215.symm
  have q215 : n0 ≤ b215 := Nat.le_trans Z0 lo215
  have hi215 : b215 < h215.size := A215.lt
  have F215_35 : Fld Z h215 b215 "java/lang/String" "coder" "B" (.int (0 : Int32)) := D215 (Or.inr (w_35 hw)) (ty := .byte) (by decide)
  have F215_37 : Fld Z h215 b215 "java/lang/String" "value" "[B" .null := D215 (Or.inr (w_37 hw)) (ty := (.array .byte)) (by decide)
  refine own_go (fun t k => XS.dup X215.here hx rfl (hb hby d_j43_47_10) rfl rfl k) ?_
  refine own_go (fun t k => XS.aloadN X215.here hx rfl (hb hby d_j43_47_11) rfl rfl k) ?_
  refine own_go (fun t k => XS.iloadN X215.here hx rfl (hb hby d_j43_47_12) rfl k) ?_
  refine own_go (fun t k => XS.iloadN X215.here hx rfl (hb hby d_j43_47_13) rfl k) ?_
  refine own_go (fun t k => XS.iloadN X215.here hx rfl (hb hby d_j43_47_14) rfl k) ?_
  refine own_go (fun t k => XS.iadd X215.here hx rfl (hb hby d_j43_47_15) rfl k) ?_
  show own_Go _ _ _ _ (T215.setTop (mkF m 16 #[.val (.ref ub), .val (.int (0 : Int32)), .val (.int (1 : Int32))] [(.int (1 : Int32)), (.int (0 : Int32)), (.ref ub), (.ref b215), (.ref b215)]))
  obtain ⟨_, _, ⟨T216, L216, k216, n216⟩, -, X216, ⟨Lc216, hQ216, l216, y216, z216⟩, st216⟩ := Jvm.LawKit.callS X215 hx (y := (⟨"java/util/Arrays", "copyOfRange", "([BII)[B"⟩ : MethodName)) hown (mvT hZ (w_125 hw)) (mvT hZ (w_126 hw)) (mvT hZ (w_127 hw)) (mvT hZ (w_128 hw)) (by decide) (backOf (W := 2) (rm_cor_1 l Z a0 hw [] ub kb nv vs h215 n0 Z215 (A0.ext E215) hm h4_ hne) hZ (w_128 hw) (w_127 hw) (by decide) (by decide)) (g := (mkF m 16 #[.val (.ref ub), .val (.int (0 : Int32)), .val (.int (1 : Int32))] [(.int (1 : Int32)), (.int (0 : Int32)), (.ref ub), (.ref b215), (.ref b215)])) rfl (by rw [hml]; rfl) (argsL := [(.ref ub), (.int (0 : Int32)), (.int (1 : Int32))]) (rest := [(.ref b215), (.ref b215)]) (lenOf pd_7 rfl) rfl (by show 2 * 0 + _ ≤ _; exact Nat.le_of_eq rfl) (hb hby d_j43_47_16) (fun _ _ => ⟨rfl, e215, (by decide : 1 + 1 ≤ _), (by decide : 4 + 1 ≤ _)⟩)
  dsimp only [Pt.U, Pt.locs, Pt.cells, Pt.slots] at X216 l216 y216 z216 st216 hQ216
  subst l216 y216 z216
  generalize e216 : T216.heap = h216 at hQ216
  obtain ⟨uy216, ky216, rfl, N216q, K216q, lo216, q216, A216⟩ := hQ216
  have N216 := Fr.app N0 N216q
  refine own_go st216 ?_
  have Z216 : n0 ≤ h216.size := (Nat.le_trans Z215 K216q.1)
  have K216 : Keep h0 h216 [] := K215.trans K216q all0
  have hi216 := A216.lt
  refine own_go (fun t k => XS.iconst X216.here hx rfl (hb hby d_j43_47_19) k) ?_
  obtain ⟨_, _, ⟨T217, L217, k217, n217⟩, -, X217, ⟨Lc217, hQ217, l217, y217, z217⟩, st217⟩ := X216.specialBack hx (y := (⟨"java/lang/String", "<init>", "([BB)V"⟩ : MethodName)) rfl hown (mvT hZ (w_140 hw)) (mvT hZ (w_141 hw)) (mvT hZ (w_142 hw)) (by decide) (backOf (W := 1) (rm_sbb l Z a0 hw [] b215 uy216 h216 n0 Z216 q215 (A215.keep K216q) (F215_37.keep K216q nin0) (F215_35.keep K216q nin0)) hZ (w_142 hw) (w_7 hw) (by decide) (by decide)) (g := (mkF m 20 #[.val (.ref ub), .val (.int (0 : Int32)), .val (.int (1 : Int32))] [(.int (0 : Int32)), (.ref uy216), (.ref b215), (.ref b215)])) rfl (by rw [hml]; rfl) (Steps.refl _) (a := b215) (argsL := [(.ref uy216), (.int (0 : Int32))]) (rest := [(.ref b215)]) (lenOf pd_8 rfl) rfl (by show 2 * 0 + _ ≤ _; exact Nat.le_of_eq rfl) (hb hby d_j43_47_20) (fun _ _ => ⟨rfl, e216, (by decide : 2 + 0 ≤ _), (by decide : 5 + 0 ≤ _)⟩)
  dsimp only [Pt.U, Pt.locs, Pt.cells, Pt.slots] at X217 l217 y217 z217 st217 hQ217
  subst l217 y217 z217
  generalize e217 : T217.heap = h217 at hQ217
  obtain ⟨rfl, N217q, K217q, Fc217, Fv217⟩ := hQ217
  have N217 := Fr.app N216 N217q
  refine own_go (fun t k => st217.trans k) ?_
  have Z217 : n0 ≤ h217.size := (Nat.le_trans Z216 K217q.1)
  have K217 : Keep h0 h217 [] := K216.trans K217q (allS (Or.inr lo215) all0)
  have f218 := (A216.keep K217q (ninS (Ne.symm (Nat.ne_of_lt (Nat.lt_of_lt_of_le hi215 lo216))) nin0))
  show own_Go _ _ _ _ (T217.setTop (mkF m 23 #[.val (.ref ub), .val (.int (0 : Int32)), .val (.int (1 : Int32))] [(.ref b215)]))
  refine own_ret X217 hx hlk hret rfl (Or.inr (Or.inr (Or.inr (Or.inr ⟨rfl, rfl, rfl⟩)))) (hb hby d_j43_47_23) ?_ (by decide) (by decide)
  rw [e217]
  exact ⟨b215, uy216, ky216, rfl, N217, K217, lo215, q215, (Nat.le_trans E215.1 lo216), q216, ((A215.keep K216q).keep K217q), Fc217, Fv217, f218⟩
def Q_ckl_2 (Z : State)  (h0 : Heap) (n0 : Nat) (v : Option Value) (h : Heap) (L : List Loc) : Prop := v = none ∧ Fr n0 L ∧ h = h0
theorem ef_ckl_2 (m : MethodId)  : entryFrame m #[(.int (0 : Int32)), (.int (2 : Int32))] 2 = mkF m 0 #[.val (.int (0 : Int32)), .val (.int (2 : Int32))] [] := by first | (simp [entryFrame, mkF, argsToLocals, Value.category]; done) | rfl
set_option maxRecDepth 65536 in
set_option maxHeartbeats 40000000 in
theorem rm_ckl_2 (l : Launch) (Z : State) (a0 : Array Value) (hw : ∀ d ∈ tables_1, d.before a0 Z = true) (ws : List Jvm.Cond)  (h0 : Heap) (n0 : Nat) (Z0 : n0 ≤ h0.size) :
    own_Met l Z (⟨"java/util/Arrays", "checkLength", "(II)V"⟩ : MethodName) jdk_65_method_131_code 2 none ws ({ frames := 0, cells := 0, slots := 0, locals := 0 } : Room) #[(.int (0 : Int32)), (.int (2 : Int32))] h0 (Q_ckl_2 Z  h0 n0) := by
  refine own_enter (own := "java/util/Arrays") (plainFor_of_name pn_4) rfl ?_
  intro p e s m below meth c s₁ hlk hret hx hby hml hown hnm hZ X0 e0
  have N0 := Fr.nil n0
  refine own_cast (ef_ckl_2 m ) ?_
  show own_Go _ _ _ _ (s₁.setTop (mkF m 0 #[.val (.int (0 : Int32)), .val (.int (2 : Int32))] []))
  refine own_go (fun t k => XS.iloadN X0.here hx rfl (hb hby d_j65_131_0) rfl k) ?_
  refine own_go (fun t k => XS.iloadN X0.here hx rfl (hb hby d_j65_131_1) rfl k) ?_
  show own_Go _ _ _ _ (s₁.setTop (mkF m 2 #[.val (.int (0 : Int32)), .val (.int (2 : Int32))] [(.int (0 : Int32)), (.int (2 : Int32))]))
  refine own_go (fun t k => XS.icmpYes X0.here hx rfl (pc0 := 2) (pc' := 37) rfl (hb hby d_j65_131_2) rfl (flt (by decide : ¬ ((2 : Int32) < (0 : Int32)))).2.1 (by decide) (by decide) k) ?_
  show own_Go _ _ _ _ (s₁.setTop (mkF m 37 #[.val (.int (0 : Int32)), .val (.int (2 : Int32))] []))
  refine own_retV X0 hx hlk hret (hb hby d_j65_131_37) ?_ (by decide) (by decide)
  rw [e0]
  exact ⟨rfl, N0, rfl⟩
def Q_crb_2 (Z : State) (ub : Addr) (kb : ClassId) (nv : Int32) (vs : List Value) (h0 : Heap) (n0 : Nat) (v : Option Value) (h : Heap) (L : List Loc) : Prop := ∃ (uy : Addr) (ky : ClassId), v = some (.ref uy) ∧ Fr n0 L ∧ Keep h0 h [] ∧ h0.size ≤ uy ∧ n0 ≤ uy ∧ Arv Z h uy ky .byte (2 : Int32) [(vs.getD 0 (.int (0 : Int32))), (vs.getD 1 (.int (0 : Int32)))] (.int (0 : Int32))
theorem ef_crb_2 (m : MethodId) (ub : Addr) : entryFrame m #[(.ref ub), (.int (0 : Int32)), (.int (2 : Int32))] 5 = mkF m 0 #[.val (.ref ub), .val (.int (0 : Int32)), .val (.int (2 : Int32)), .unset, .unset] [] := by first | (simp [entryFrame, mkF, argsToLocals, Value.category]; done) | rfl
set_option maxRecDepth 65536 in
set_option maxHeartbeats 40000000 in
theorem rm_crb_2 (l : Launch) (Z : State) (a0 : Array Value) (hw : ∀ d ∈ tables_1, d.before a0 Z = true) (ws : List Jvm.Cond) (ub : Addr) (kb : ClassId) (nv : Int32) (vs : List Value) (h0 : Heap) (n0 : Nat) (Z0 : n0 ≤ h0.size) (A0 : Arv Z h0 ub kb .byte nv vs (.int (0 : Int32))) (hm : (2 : Int32) < nv - (0 : Int32)) (h4_ : (0 : Int32).toNatClampNeg + (2 : Int32).toNatClampNeg ≤ nv.toNatClampNeg) (hne : ¬ (2 : Int32) = nv) :
    own_Met l Z (⟨"java/util/Arrays", "copyOfRangeByte", "([BII)[B"⟩ : MethodName) jdk_65_method_133_code 5 (some (.array .byte)) ws ({ frames := 1, cells := 1, slots := 2, locals := 18 } : Room) #[(.ref ub), (.int (0 : Int32)), (.int (2 : Int32))] h0 (Q_crb_2 Z ub kb nv vs h0 n0) := by
  refine own_enter (own := "java/util/Arrays") (plainFor_of_name pn_4) rfl ?_
  intro p e s m below meth c s₁ hlk hret hx hby hml hown hnm hZ X0 e0
  have N0 := Fr.nil n0
  refine own_cast (ef_crb_2 m ub) ?_
  show own_Go _ _ _ _ (s₁.setTop (mkF m 0 #[.val (.ref ub), .val (.int (0 : Int32)), .val (.int (2 : Int32)), .unset, .unset] []))
  refine own_go (fun t k => XS.iloadN X0.here hx rfl (hb hby d_j65_133_0) rfl k) ?_
  refine own_go (fun t k => XS.iloadN X0.here hx rfl (hb hby d_j65_133_1) rfl k) ?_
  obtain ⟨_, _, ⟨T219, L219, k219, n219⟩, -, X219, ⟨Lc219, hQ219, l219, y219, z219⟩, st219⟩ := Jvm.LawKit.callS X0 hx (y := (⟨"java/util/Arrays", "checkLength", "(II)V"⟩ : MethodName)) hown (mvT hZ (w_132 hw)) (mvT hZ (w_133 hw)) (mvT hZ (w_127 hw)) (mvT hZ (w_134 hw)) (by decide) (backOf (W := 0) (rm_ckl_2 l Z a0 hw []  h0 n0 Z0 ) hZ (w_134 hw) (w_127 hw) (by decide) (by decide)) (g := (mkF m 2 #[.val (.ref ub), .val (.int (0 : Int32)), .val (.int (2 : Int32)), .unset, .unset] [(.int (2 : Int32)), (.int (0 : Int32))])) rfl (by rw [hml]; rfl) (argsL := [(.int (0 : Int32)), (.int (2 : Int32))]) (rest := []) (lenOf pd_6 rfl) rfl (by show 2 * 0 + _ ≤ _; exact Nat.le_of_eq rfl) (hb hby d_j65_133_2) (fun _ _ => ⟨rfl, e0, (by decide : 0 + 0 ≤ _), (by decide : 0 + 0 ≤ _)⟩)
  dsimp only [Pt.U, Pt.locs, Pt.cells, Pt.slots] at X219 l219 y219 z219 st219 hQ219
  subst l219 y219 z219
  obtain ⟨rfl, N219q, e219⟩ := hQ219
  have N219 := Fr.app N0 N219q
  refine own_go st219 ?_
  refine own_go (fun t k => XS.iloadN X219.here hx rfl (hb hby d_j65_133_5) rfl k) ?_
  refine own_go (fun t k => XS.iloadN X219.here hx rfl (hb hby d_j65_133_6) rfl k) ?_
  refine own_go (fun t k => XS.isub X219.here hx rfl (hb hby d_j65_133_7) rfl k) ?_
  refine own_go (fun t k => XS.istoreN X219.here hx rfl (hb hby d_j65_133_8) rfl (l' := #[.val (.ref ub), .val (.int (0 : Int32)), .val (.int (2 : Int32)), .val (.int (2 : Int32)), .unset]) rfl k) ?_
  show own_Go _ _ _ _ (T219.setTop (mkF m 9 #[.val (.ref ub), .val (.int (0 : Int32)), .val (.int (2 : Int32)), .val (.int (2 : Int32)), .unset] []))
  refine own_go (fun t k => XS.iloadN X219.here hx rfl (hb hby d_j65_133_9) rfl k) ?_
  show own_Go _ _ _ _ (T219.setTop (mkF m 10 #[.val (.ref ub), .val (.int (0 : Int32)), .val (.int (2 : Int32)), .val (.int (2 : Int32)), .unset] [(.int (2 : Int32))]))
  obtain ⟨T220, h220, k220, X220, e220, E220, A220, st220⟩ := newP (aty := .byte) X219 hx hZ (w_27 hw) e219 (n := (2 : Int32)) (rest := []) (g := (mkF m 10 #[.val (.ref ub), .val (.int (0 : Int32)), .val (.int (2 : Int32)), .val (.int (2 : Int32)), .unset] [(.int (2 : Int32))])) rfl (hb hby d_j65_133_10) rfl (by decide) (cap := 2) (by decide) (by decide) (by decide) (by decide)
  obtain ⟨b220, g220⟩ : ∃ z, z = h0.size := ⟨_, rfl⟩
  rw [← g220] at A220 st220
  refine own_go st220 ?_
  have Z220 : n0 ≤ h220.size := (Nat.le_trans Z0 E220.1)
  have K220 : Keep h0 h220 [] := (Keep.refl h0 []).ext E220
  have lo220 : h0.size ≤ b220 := Nat.le_of_eq g220.symm
  have q220 : n0 ≤ b220 := Nat.le_trans Z0 lo220
  have hi220 : b220 < h220.size := A220.lt
  have V220 : Arv Z h220 b220 k220 .byte (2 : Int32) [(.int (0 : Int32)), (.int (0 : Int32))] (.int (0 : Int32)) := (Arv.new A220 (by decide)).pad (pad_rep [] (.int (0 : Int32)) 2)
  refine own_go (fun t k => XS.astore X220.here hx rfl (hb hby d_j65_133_12) rfl rfl (l' := #[.val (.ref ub), .val (.int (0 : Int32)), .val (.int (2 : Int32)), .val (.int (2 : Int32)), .val (.ref b220)]) rfl k) ?_
  refine own_go (fun t k => XS.aloadN X220.here hx rfl (hb hby d_j65_133_14) rfl rfl k) ?_
  refine own_go (fun t k => XS.iloadN X220.here hx rfl (hb hby d_j65_133_15) rfl k) ?_
  refine own_go (fun t k => XS.aload X220.here hx rfl (hb hby d_j65_133_16) rfl rfl k) ?_
  refine own_go (fun t k => XS.iconst X220.here hx rfl (hb hby d_j65_133_18) k) ?_
  refine own_go (fun t k => XS.aloadN X220.here hx rfl (hb hby d_j65_133_19) rfl rfl k) ?_
  show own_Go _ _ _ _ (T220.setTop (mkF m 20 #[.val (.ref ub), .val (.int (0 : Int32)), .val (.int (2 : Int32)), .val (.int (2 : Int32)), .val (.ref b220)] [(.ref ub), (.int (0 : Int32)), (.ref b220), (.int (0 : Int32)), (.ref ub)]))
  obtain ⟨cl221, Ar221, qk221, sz221, nn221, ha221, gf221⟩ := id (A0.ext E220)
  refine own_go (X220.arraylength hx (by rw [e220]; exact Ar221.1) (State.isArrayOf_alike hZ.alike Ar221.2.1) (g := (mkF m 20 #[.val (.ref ub), .val (.int (0 : Int32)), .val (.int (2 : Int32)), .val (.int (2 : Int32)), .val (.ref b220)] [(.ref ub), (.int (0 : Int32)), (.ref b220), (.int (0 : Int32)), (.ref ub)])) rfl rfl (hb hby d_j65_133_20)) ?_
  rw [len_of sz221 nn221]
  refine own_go (fun t k => XS.iloadN X220.here hx rfl (hb hby d_j65_133_21) rfl k) ?_
  refine own_go (fun t k => XS.isub X220.here hx rfl (hb hby d_j65_133_22) rfl k) ?_
  refine own_go (fun t k => XS.iloadN X220.here hx rfl (hb hby d_j65_133_23) rfl k) ?_
  obtain ⟨_, _, ⟨T222, L222, k222, n222⟩, -, X222, ⟨Lc222, hQ222, l222, y222, z222⟩, st222⟩ := Jvm.LawKit.callS X220 hx (y := (⟨"java/lang/Math", "min", "(II)I"⟩ : MethodName)) hown (mvT hZ (w_135 hw)) (mvT hZ (w_87 hw)) (mvT hZ (w_88 hw)) (mvT hZ (w_89 hw)) (by decide) (backOf (W := 4) (rm_minB l Z a0 hw [] (nv - (0 : Int32)) (2 : Int32) h220 n0 Z220 hm) hZ (w_89 hw) (w_88 hw) (by decide) (by decide)) (g := (mkF m 24 #[.val (.ref ub), .val (.int (0 : Int32)), .val (.int (2 : Int32)), .val (.int (2 : Int32)), .val (.ref b220)] [(.int (2 : Int32)), (.int (nv - (0 : Int32))), (.int (0 : Int32)), (.ref b220), (.int (0 : Int32)), (.ref ub)])) rfl (by rw [hml]; rfl) (argsL := [(.int (nv - (0 : Int32))), (.int (2 : Int32))]) (rest := [(.int (0 : Int32)), (.ref b220), (.int (0 : Int32)), (.ref ub)]) (lenOf pd_1 rfl) rfl (by show 2 * 0 + _ ≤ _; exact Nat.le_of_eq rfl) (hb hby d_j65_133_24) (fun _ _ => ⟨rfl, e220, (by decide : 1 + 0 ≤ _), (by decide : 2 + 0 ≤ _)⟩)
  dsimp only [Pt.U, Pt.locs, Pt.cells, Pt.slots] at X222 l222 y222 z222 st222 hQ222
  subst l222 y222 z222
  obtain ⟨rfl, N222q, e222⟩ := hQ222
  have N222 := Fr.app N219 N222q
  refine own_go st222 ?_
  show own_Go _ _ _ _ (T222.setTop (mkF m 27 #[.val (.ref ub), .val (.int (0 : Int32)), .val (.int (2 : Int32)), .val (.int (2 : Int32)), .val (.ref b220)] [(.int (2 : Int32)), (.int (0 : Int32)), (.ref b220), (.int (0 : Int32)), (.ref ub)]))
  obtain ⟨T223, h223, L223, X223, e223, N223, K223q, V223, st223⟩ := cpA X222 hx hZ hown (w_136 hw) (w_139 hw) (w_137 hw) (w_138 hw) e222 (sp := (0 : Int32)) (dp := (0 : Int32)) (nn := (2 : Int32)) (us := [(vs.getD 0 (.int (0 : Int32))), (vs.getD 1 (.int (0 : Int32)))]) (A0.ext E220) V220 (Or.inl ⟨rfl, rfl⟩) (by decide) (by decide) (by decide) h4_ (by decide) rfl (by decide) N222 q220 (g := (mkF m 27 #[.val (.ref ub), .val (.int (0 : Int32)), .val (.int (2 : Int32)), .val (.int (2 : Int32)), .val (.ref b220)] [(.int (2 : Int32)), (.int (0 : Int32)), (.ref b220), (.int (0 : Int32)), (.ref ub)])) rfl (by rw [hml]; rfl) rfl (hb hby d_j65_133_27) (by decide) (W := 0) (by show 2 * 0 + _ ≤ _; exact Nat.le_of_eq rfl) (by decide)
  refine own_go st223 ?_
  replace V223 : Arv Z h223 b220 k220 .byte (2 : Int32) [(vs.getD 0 (.int (0 : Int32))), (vs.getD 1 (.int (0 : Int32)))] (.int (0 : Int32)) := V223
  have Z223 : n0 ≤ h223.size := (Nat.le_trans Z220 K223q.1)
  have K223 : Keep h0 h223 [] := K220.trans K223q (allS (Or.inr lo220) all0)
  refine own_go (fun t k => XS.aload X223.here hx rfl (hb hby d_j65_133_30) rfl rfl k) ?_
  show own_Go _ _ _ _ (T223.setTop (mkF m 32 #[.val (.ref ub), .val (.int (0 : Int32)), .val (.int (2 : Int32)), .val (.int (2 : Int32)), .val (.ref b220)] [(.ref b220)]))
  refine own_ret X223 hx hlk hret rfl (Or.inr (Or.inr (Or.inr (Or.inr ⟨rfl, rfl, rfl⟩)))) (hb hby d_j65_133_32) ?_ (by decide) (by decide)
  rw [e223]
  exact ⟨b220, k220, rfl, N223, K223, lo220, q220, V223⟩
def Q_cor_2 (Z : State) (ub : Addr) (kb : ClassId) (nv : Int32) (vs : List Value) (h0 : Heap) (n0 : Nat) (v : Option Value) (h : Heap) (L : List Loc) : Prop := ∃ (uy : Addr) (ky : ClassId), v = some (.ref uy) ∧ Fr n0 L ∧ Keep h0 h [] ∧ h0.size ≤ uy ∧ n0 ≤ uy ∧ Arv Z h uy ky .byte (2 : Int32) [(vs.getD 0 (.int (0 : Int32))), (vs.getD 1 (.int (0 : Int32)))] (.int (0 : Int32))
theorem ef_cor_2 (m : MethodId) (ub : Addr) : entryFrame m #[(.ref ub), (.int (0 : Int32)), (.int (2 : Int32))] 3 = mkF m 0 #[.val (.ref ub), .val (.int (0 : Int32)), .val (.int (2 : Int32))] [] := by first | (simp [entryFrame, mkF, argsToLocals, Value.category]; done) | rfl
set_option maxRecDepth 65536 in
set_option maxHeartbeats 40000000 in
theorem rm_cor_2 (l : Launch) (Z : State) (a0 : Array Value) (hw : ∀ d ∈ tables_1, d.before a0 Z = true) (ws : List Jvm.Cond) (ub : Addr) (kb : ClassId) (nv : Int32) (vs : List Value) (h0 : Heap) (n0 : Nat) (Z0 : n0 ≤ h0.size) (A0 : Arv Z h0 ub kb .byte nv vs (.int (0 : Int32))) (hm : (2 : Int32) < nv - (0 : Int32)) (h4_ : (0 : Int32).toNatClampNeg + (2 : Int32).toNatClampNeg ≤ nv.toNatClampNeg) (hne : ¬ (2 : Int32) = nv) :
    own_Met l Z (⟨"java/util/Arrays", "copyOfRange", "([BII)[B"⟩ : MethodName) jdk_65_method_132_code 3 (some (.array .byte)) ws ({ frames := 2, cells := 1, slots := 2, locals := 34 } : Room) #[(.ref ub), (.int (0 : Int32)), (.int (2 : Int32))] h0 (Q_cor_2 Z ub kb nv vs h0 n0) := by
  refine own_enter (own := "java/util/Arrays") (plainFor_of_name pn_4) rfl ?_
  intro p e s m below meth c s₁ hlk hret hx hby hml hown hnm hZ X0 e0
  have N0 := Fr.nil n0
  refine own_cast (ef_cor_2 m ub) ?_
  show own_Go _ _ _ _ (s₁.setTop (mkF m 0 #[.val (.ref ub), .val (.int (0 : Int32)), .val (.int (2 : Int32))] []))
  refine own_go (fun t k => XS.iloadN X0.here hx rfl (hb hby d_j65_132_0) rfl k) ?_
  show own_Go _ _ _ _ (s₁.setTop (mkF m 1 #[.val (.ref ub), .val (.int (0 : Int32)), .val (.int (2 : Int32))] [(.int (0 : Int32))]))
  refine own_go (fun t k => XS.ifNo X0.here hx rfl (hb hby d_j65_132_1) rfl ((if0 _ _).trans (teq (by decide : (0 : Int32) = (0 : Int32))).2) k) ?_
  refine own_go (fun t k => XS.iloadN X0.here hx rfl (hb hby d_j65_132_4) rfl k) ?_
  refine own_go (fun t k => XS.aloadN X0.here hx rfl (hb hby d_j65_132_5) rfl rfl k) ?_
  show own_Go _ _ _ _ (s₁.setTop (mkF m 6 #[.val (.ref ub), .val (.int (0 : Int32)), .val (.int (2 : Int32))] [(.ref ub), (.int (2 : Int32))]))
  obtain ⟨cl224, Ar224, qk224, sz224, nn224, ha224, gf224⟩ := id A0
  refine own_go (X0.arraylength hx (by rw [e0]; exact Ar224.1) (State.isArrayOf_alike hZ.alike Ar224.2.1) (g := (mkF m 6 #[.val (.ref ub), .val (.int (0 : Int32)), .val (.int (2 : Int32))] [(.ref ub), (.int (2 : Int32))])) rfl rfl (hb hby d_j65_132_6)) ?_
  rw [len_of sz224 nn224]
  show own_Go _ _ _ _ (s₁.setTop (mkF m 7 #[.val (.ref ub), .val (.int (0 : Int32)), .val (.int (2 : Int32))] [(.int nv), (.int (2 : Int32))]))
  refine own_go (fun t k => XS.icmpNo X0.here hx rfl (hb hby d_j65_132_7) rfl (feq hne).1 k) ?_
  refine own_go (fun t k => XS.aloadN X0.here hx rfl (hb hby d_j65_132_10) rfl rfl k) ?_
  refine own_go (fun t k => XS.iloadN X0.here hx rfl (hb hby d_j65_132_11) rfl k) ?_
  refine own_go (fun t k => XS.iloadN X0.here hx rfl (hb hby d_j65_132_12) rfl k) ?_
  obtain ⟨_, _, ⟨T225, L225, k225, n225⟩, -, X225, ⟨Lc225, hQ225, l225, y225, z225⟩, st225⟩ := Jvm.LawKit.callS X0 hx (y := (⟨"java/util/Arrays", "copyOfRangeByte", "([BII)[B"⟩ : MethodName)) hown (mvT hZ (w_129 hw)) (mvT hZ (w_130 hw)) (mvT hZ (w_127 hw)) (mvT hZ (w_131 hw)) (by decide) (backOf (W := 0) (rm_crb_2 l Z a0 hw [] ub kb nv vs h0 n0 Z0 A0 hm h4_ hne) hZ (w_131 hw) (w_127 hw) (by decide) (by decide)) (g := (mkF m 13 #[.val (.ref ub), .val (.int (0 : Int32)), .val (.int (2 : Int32))] [(.int (2 : Int32)), (.int (0 : Int32)), (.ref ub)])) rfl (by rw [hml]; rfl) (argsL := [(.ref ub), (.int (0 : Int32)), (.int (2 : Int32))]) (rest := []) (lenOf pd_7 rfl) rfl (by show 2 * 0 + _ ≤ _; exact Nat.le_of_eq rfl) (hb hby d_j65_132_13) (fun _ _ => ⟨rfl, e0, (by decide : 0 + 1 ≤ _), (by decide : 0 + 2 ≤ _)⟩)
  dsimp only [Pt.U, Pt.locs, Pt.cells, Pt.slots] at X225 l225 y225 z225 st225 hQ225
  subst l225 y225 z225
  generalize e225 : T225.heap = h225 at hQ225
  obtain ⟨uy225, ky225, rfl, N225q, K225q, lo225, q225, A225⟩ := hQ225
  have N225 := Fr.app N0 N225q
  refine own_go st225 ?_
  have Z225 : n0 ≤ h225.size := (Nat.le_trans Z0 K225q.1)
  have K225 : Keep h0 h225 [] := (Keep.refl h0 []).trans K225q all0
  have hi225 := A225.lt
  show own_Go _ _ _ _ (T225.setTop (mkF m 16 #[.val (.ref ub), .val (.int (0 : Int32)), .val (.int (2 : Int32))] [(.ref uy225)]))
  refine own_ret X225 hx hlk hret rfl (Or.inr (Or.inr (Or.inr (Or.inr ⟨rfl, rfl, rfl⟩)))) (hb hby d_j65_132_16) ?_ (by decide) (by decide)
  rw [e225]
  exact ⟨uy225, ky225, rfl, N225, K225, lo225, q225, A225⟩
def Q_nst_2 (Z : State) (ub : Addr) (kb : ClassId) (nv : Int32) (vs : List Value) (h0 : Heap) (n0 : Nat) (v : Option Value) (h : Heap) (L : List Loc) : Prop := ∃ (ux uy : Addr) (ky : ClassId), v = some (.ref ux) ∧ Fr n0 L ∧ Keep h0 h [] ∧ h0.size ≤ ux ∧ n0 ≤ ux ∧ h0.size ≤ uy ∧ n0 ≤ uy ∧ Exa Z h ux "java/lang/String" ∧ Fld Z h ux "java/lang/String" "coder" "B" (.int (0 : Int32)) ∧ Fld Z h ux "java/lang/String" "value" "[B" (.ref uy) ∧ Arv Z h uy ky .byte (2 : Int32) [(vs.getD 0 (.int (0 : Int32))), (vs.getD 1 (.int (0 : Int32)))] (.int (0 : Int32))
theorem ef_nst_2 (m : MethodId) (ub : Addr) : entryFrame m #[(.ref ub), (.int (0 : Int32)), (.int (2 : Int32))] 3 = mkF m 0 #[.val (.ref ub), .val (.int (0 : Int32)), .val (.int (2 : Int32))] [] := by first | (simp [entryFrame, mkF, argsToLocals, Value.category]; done) | rfl
set_option maxRecDepth 65536 in
set_option maxHeartbeats 40000000 in
theorem rm_nst_2 (l : Launch) (Z : State) (a0 : Array Value) (hw : ∀ d ∈ tables_1, d.before a0 Z = true) (ws : List Jvm.Cond) (ub : Addr) (kb : ClassId) (nv : Int32) (vs : List Value) (h0 : Heap) (n0 : Nat) (Z0 : n0 ≤ h0.size) (A0 : Arv Z h0 ub kb .byte nv vs (.int (0 : Int32))) (hm : (2 : Int32) < nv - (0 : Int32)) (h4_ : (0 : Int32).toNatClampNeg + (2 : Int32).toNatClampNeg ≤ nv.toNatClampNeg) (hne : ¬ (2 : Int32) = nv) :
    own_Met l Z (⟨"java/lang/StringLatin1", "newString", "([BII)Ljava/lang/String;"⟩ : MethodName) jdk_43_method_47_code 3 (some (.object "java/lang/String")) ws ({ frames := 3, cells := 2, slots := 6, locals := 50 } : Room) #[(.ref ub), (.int (0 : Int32)), (.int (2 : Int32))] h0 (Q_nst_2 Z ub kb nv vs h0 n0) := by
  refine own_enter (own := "java/lang/StringLatin1") (plainFor_of_name pn_1) rfl ?_
  intro p e s m below meth c s₁ hlk hret hx hby hml hown hnm hZ X0 e0
  have N0 := Fr.nil n0
  refine own_cast (ef_nst_2 m ub) ?_
  show own_Go _ _ _ _ (s₁.setTop (mkF m 0 #[.val (.ref ub), .val (.int (0 : Int32)), .val (.int (2 : Int32))] []))
  refine own_go (fun t k => XS.iloadN X0.here hx rfl (hb hby d_j43_47_0) rfl k) ?_
  show own_Go _ _ _ _ (s₁.setTop (mkF m 1 #[.val (.ref ub), .val (.int (0 : Int32)), .val (.int (2 : Int32))] [(.int (2 : Int32))]))
  refine own_go (fun t k => XS.ifYes X0.here hx rfl (pc0 := 1) (pc' := 7) rfl (hb hby d_j43_47_1) rfl ((if0 _ _).trans (feq (by decide : ¬ ((2 : Int32) = (0 : Int32)))).2) (by decide) (by decide) k) ?_
  show own_Go _ _ _ _ (s₁.setTop (mkF m 7 #[.val (.ref ub), .val (.int (0 : Int32)), .val (.int (2 : Int32))] []))
  obtain ⟨T226, h226, X226, e226, E226, A226, D226, -, st226⟩ := newO X0 hx hZ hown (w_124 hw) (w_6 hw) (w_7 hw) e0 (g := (mkF m 7 #[.val (.ref ub), .val (.int (0 : Int32)), .val (.int (2 : Int32))] [])) rfl (hb hby d_j43_47_7) (by decide) (by decide)
  obtain ⟨b226, g226⟩ : ∃ z, z = h0.size := ⟨_, rfl⟩
  rw [← g226] at A226 D226 st226
  refine own_go st226 ?_
  have Z226 : n0 ≤ h226.size := (Nat.le_trans Z0 E226.1)
  have K226 : Keep h0 h226 [] := (Keep.refl h0 []).ext E226
  have lo226 : h0.size ≤ b226 := Nat.le_of_eq g226.symm
  have q226 : n0 ≤ b226 := Nat.le_trans Z0 lo226
  have hi226 : b226 < h226.size := A226.lt
  have F226_35 : Fld Z h226 b226 "java/lang/String" "coder" "B" (.int (0 : Int32)) := D226 (Or.inr (w_35 hw)) (ty := .byte) (by decide)
  have F226_37 : Fld Z h226 b226 "java/lang/String" "value" "[B" .null := D226 (Or.inr (w_37 hw)) (ty := (.array .byte)) (by decide)
  refine own_go (fun t k => XS.dup X226.here hx rfl (hb hby d_j43_47_10) rfl rfl k) ?_
  refine own_go (fun t k => XS.aloadN X226.here hx rfl (hb hby d_j43_47_11) rfl rfl k) ?_
  refine own_go (fun t k => XS.iloadN X226.here hx rfl (hb hby d_j43_47_12) rfl k) ?_
  refine own_go (fun t k => XS.iloadN X226.here hx rfl (hb hby d_j43_47_13) rfl k) ?_
  refine own_go (fun t k => XS.iloadN X226.here hx rfl (hb hby d_j43_47_14) rfl k) ?_
  refine own_go (fun t k => XS.iadd X226.here hx rfl (hb hby d_j43_47_15) rfl k) ?_
  show own_Go _ _ _ _ (T226.setTop (mkF m 16 #[.val (.ref ub), .val (.int (0 : Int32)), .val (.int (2 : Int32))] [(.int (2 : Int32)), (.int (0 : Int32)), (.ref ub), (.ref b226), (.ref b226)]))
  obtain ⟨_, _, ⟨T227, L227, k227, n227⟩, -, X227, ⟨Lc227, hQ227, l227, y227, z227⟩, st227⟩ := Jvm.LawKit.callS X226 hx (y := (⟨"java/util/Arrays", "copyOfRange", "([BII)[B"⟩ : MethodName)) hown (mvT hZ (w_125 hw)) (mvT hZ (w_126 hw)) (mvT hZ (w_127 hw)) (mvT hZ (w_128 hw)) (by decide) (backOf (W := 2) (rm_cor_2 l Z a0 hw [] ub kb nv vs h226 n0 Z226 (A0.ext E226) hm h4_ hne) hZ (w_128 hw) (w_127 hw) (by decide) (by decide)) (g := (mkF m 16 #[.val (.ref ub), .val (.int (0 : Int32)), .val (.int (2 : Int32))] [(.int (2 : Int32)), (.int (0 : Int32)), (.ref ub), (.ref b226), (.ref b226)])) rfl (by rw [hml]; rfl) (argsL := [(.ref ub), (.int (0 : Int32)), (.int (2 : Int32))]) (rest := [(.ref b226), (.ref b226)]) (lenOf pd_7 rfl) rfl (by show 2 * 0 + _ ≤ _; exact Nat.le_of_eq rfl) (hb hby d_j43_47_16) (fun _ _ => ⟨rfl, e226, (by decide : 1 + 1 ≤ _), (by decide : 4 + 2 ≤ _)⟩)
  dsimp only [Pt.U, Pt.locs, Pt.cells, Pt.slots] at X227 l227 y227 z227 st227 hQ227
  subst l227 y227 z227
  generalize e227 : T227.heap = h227 at hQ227
  obtain ⟨uy227, ky227, rfl, N227q, K227q, lo227, q227, A227⟩ := hQ227
  have N227 := Fr.app N0 N227q
  refine own_go st227 ?_
  have Z227 : n0 ≤ h227.size := (Nat.le_trans Z226 K227q.1)
  have K227 : Keep h0 h227 [] := K226.trans K227q all0
  have hi227 := A227.lt
  refine own_go (fun t k => XS.iconst X227.here hx rfl (hb hby d_j43_47_19) k) ?_
  obtain ⟨_, _, ⟨T228, L228, k228, n228⟩, -, X228, ⟨Lc228, hQ228, l228, y228, z228⟩, st228⟩ := X227.specialBack hx (y := (⟨"java/lang/String", "<init>", "([BB)V"⟩ : MethodName)) rfl hown (mvT hZ (w_140 hw)) (mvT hZ (w_141 hw)) (mvT hZ (w_142 hw)) (by decide) (backOf (W := 1) (rm_sbb l Z a0 hw [] b226 uy227 h227 n0 Z227 q226 (A226.keep K227q) (F226_37.keep K227q nin0) (F226_35.keep K227q nin0)) hZ (w_142 hw) (w_7 hw) (by decide) (by decide)) (g := (mkF m 20 #[.val (.ref ub), .val (.int (0 : Int32)), .val (.int (2 : Int32))] [(.int (0 : Int32)), (.ref uy227), (.ref b226), (.ref b226)])) rfl (by rw [hml]; rfl) (Steps.refl _) (a := b226) (argsL := [(.ref uy227), (.int (0 : Int32))]) (rest := [(.ref b226)]) (lenOf pd_8 rfl) rfl (by show 2 * 0 + _ ≤ _; exact Nat.le_of_eq rfl) (hb hby d_j43_47_20) (fun _ _ => ⟨rfl, e227, (by decide : 2 + 0 ≤ _), (by decide : 6 + 0 ≤ _)⟩)
  dsimp only [Pt.U, Pt.locs, Pt.cells, Pt.slots] at X228 l228 y228 z228 st228 hQ228
  subst l228 y228 z228
  generalize e228 : T228.heap = h228 at hQ228
  obtain ⟨rfl, N228q, K228q, Fc228, Fv228⟩ := hQ228
  have N228 := Fr.app N227 N228q
  refine own_go (fun t k => st228.trans k) ?_
  have Z228 : n0 ≤ h228.size := (Nat.le_trans Z227 K228q.1)
  have K228 : Keep h0 h228 [] := K227.trans K228q (allS (Or.inr lo226) all0)
  have f229 := (A227.keep K228q (ninS (Ne.symm (Nat.ne_of_lt (Nat.lt_of_lt_of_le hi226 lo227))) nin0))
  show own_Go _ _ _ _ (T228.setTop (mkF m 23 #[.val (.ref ub), .val (.int (0 : Int32)), .val (.int (2 : Int32))] [(.ref b226)]))
  refine own_ret X228 hx hlk hret rfl (Or.inr (Or.inr (Or.inr (Or.inr ⟨rfl, rfl, rfl⟩)))) (hb hby d_j43_47_23) ?_ (by decide) (by decide)
  rw [e228]
  exact ⟨b226, uy227, ky227, rfl, N228, K228, lo226, q226, (Nat.le_trans E226.1 lo227), q227, ((A226.keep K227q).keep K228q), Fc228, Fv228, f229⟩
def Q_ckl_3 (Z : State)  (h0 : Heap) (n0 : Nat) (v : Option Value) (h : Heap) (L : List Loc) : Prop := v = none ∧ Fr n0 L ∧ h = h0
theorem ef_ckl_3 (m : MethodId)  : entryFrame m #[(.int (0 : Int32)), (.int (3 : Int32))] 2 = mkF m 0 #[.val (.int (0 : Int32)), .val (.int (3 : Int32))] [] := by first | (simp [entryFrame, mkF, argsToLocals, Value.category]; done) | rfl
set_option maxRecDepth 65536 in
set_option maxHeartbeats 40000000 in
theorem rm_ckl_3 (l : Launch) (Z : State) (a0 : Array Value) (hw : ∀ d ∈ tables_1, d.before a0 Z = true) (ws : List Jvm.Cond)  (h0 : Heap) (n0 : Nat) (Z0 : n0 ≤ h0.size) :
    own_Met l Z (⟨"java/util/Arrays", "checkLength", "(II)V"⟩ : MethodName) jdk_65_method_131_code 2 none ws ({ frames := 0, cells := 0, slots := 0, locals := 0 } : Room) #[(.int (0 : Int32)), (.int (3 : Int32))] h0 (Q_ckl_3 Z  h0 n0) := by
  refine own_enter (own := "java/util/Arrays") (plainFor_of_name pn_4) rfl ?_
  intro p e s m below meth c s₁ hlk hret hx hby hml hown hnm hZ X0 e0
  have N0 := Fr.nil n0
  refine own_cast (ef_ckl_3 m ) ?_
  show own_Go _ _ _ _ (s₁.setTop (mkF m 0 #[.val (.int (0 : Int32)), .val (.int (3 : Int32))] []))
  refine own_go (fun t k => XS.iloadN X0.here hx rfl (hb hby d_j65_131_0) rfl k) ?_
  refine own_go (fun t k => XS.iloadN X0.here hx rfl (hb hby d_j65_131_1) rfl k) ?_
  show own_Go _ _ _ _ (s₁.setTop (mkF m 2 #[.val (.int (0 : Int32)), .val (.int (3 : Int32))] [(.int (0 : Int32)), (.int (3 : Int32))]))
  refine own_go (fun t k => XS.icmpYes X0.here hx rfl (pc0 := 2) (pc' := 37) rfl (hb hby d_j65_131_2) rfl (flt (by decide : ¬ ((3 : Int32) < (0 : Int32)))).2.1 (by decide) (by decide) k) ?_
  show own_Go _ _ _ _ (s₁.setTop (mkF m 37 #[.val (.int (0 : Int32)), .val (.int (3 : Int32))] []))
  refine own_retV X0 hx hlk hret (hb hby d_j65_131_37) ?_ (by decide) (by decide)
  rw [e0]
  exact ⟨rfl, N0, rfl⟩
def Q_crb_3 (Z : State) (ub : Addr) (kb : ClassId) (nv : Int32) (vs : List Value) (h0 : Heap) (n0 : Nat) (v : Option Value) (h : Heap) (L : List Loc) : Prop := ∃ (uy : Addr) (ky : ClassId), v = some (.ref uy) ∧ Fr n0 L ∧ Keep h0 h [] ∧ h0.size ≤ uy ∧ n0 ≤ uy ∧ Arv Z h uy ky .byte (3 : Int32) [(vs.getD 0 (.int (0 : Int32))), (vs.getD 1 (.int (0 : Int32))), (vs.getD 2 (.int (0 : Int32)))] (.int (0 : Int32))
theorem ef_crb_3 (m : MethodId) (ub : Addr) : entryFrame m #[(.ref ub), (.int (0 : Int32)), (.int (3 : Int32))] 5 = mkF m 0 #[.val (.ref ub), .val (.int (0 : Int32)), .val (.int (3 : Int32)), .unset, .unset] [] := by first | (simp [entryFrame, mkF, argsToLocals, Value.category]; done) | rfl
set_option maxRecDepth 65536 in
set_option maxHeartbeats 40000000 in
theorem rm_crb_3 (l : Launch) (Z : State) (a0 : Array Value) (hw : ∀ d ∈ tables_1, d.before a0 Z = true) (ws : List Jvm.Cond) (ub : Addr) (kb : ClassId) (nv : Int32) (vs : List Value) (h0 : Heap) (n0 : Nat) (Z0 : n0 ≤ h0.size) (A0 : Arv Z h0 ub kb .byte nv vs (.int (0 : Int32))) (hm : (3 : Int32) < nv - (0 : Int32)) (h4_ : (0 : Int32).toNatClampNeg + (3 : Int32).toNatClampNeg ≤ nv.toNatClampNeg) (hne : ¬ (3 : Int32) = nv) :
    own_Met l Z (⟨"java/util/Arrays", "copyOfRangeByte", "([BII)[B"⟩ : MethodName) jdk_65_method_133_code 5 (some (.array .byte)) ws ({ frames := 1, cells := 1, slots := 3, locals := 18 } : Room) #[(.ref ub), (.int (0 : Int32)), (.int (3 : Int32))] h0 (Q_crb_3 Z ub kb nv vs h0 n0) := by
  refine own_enter (own := "java/util/Arrays") (plainFor_of_name pn_4) rfl ?_
  intro p e s m below meth c s₁ hlk hret hx hby hml hown hnm hZ X0 e0
  have N0 := Fr.nil n0
  refine own_cast (ef_crb_3 m ub) ?_
  show own_Go _ _ _ _ (s₁.setTop (mkF m 0 #[.val (.ref ub), .val (.int (0 : Int32)), .val (.int (3 : Int32)), .unset, .unset] []))
  refine own_go (fun t k => XS.iloadN X0.here hx rfl (hb hby d_j65_133_0) rfl k) ?_
  refine own_go (fun t k => XS.iloadN X0.here hx rfl (hb hby d_j65_133_1) rfl k) ?_
  obtain ⟨_, _, ⟨T230, L230, k230, n230⟩, -, X230, ⟨Lc230, hQ230, l230, y230, z230⟩, st230⟩ := Jvm.LawKit.callS X0 hx (y := (⟨"java/util/Arrays", "checkLength", "(II)V"⟩ : MethodName)) hown (mvT hZ (w_132 hw)) (mvT hZ (w_133 hw)) (mvT hZ (w_127 hw)) (mvT hZ (w_134 hw)) (by decide) (backOf (W := 0) (rm_ckl_3 l Z a0 hw []  h0 n0 Z0 ) hZ (w_134 hw) (w_127 hw) (by decide) (by decide)) (g := (mkF m 2 #[.val (.ref ub), .val (.int (0 : Int32)), .val (.int (3 : Int32)), .unset, .unset] [(.int (3 : Int32)), (.int (0 : Int32))])) rfl (by rw [hml]; rfl) (argsL := [(.int (0 : Int32)), (.int (3 : Int32))]) (rest := []) (lenOf pd_6 rfl) rfl (by show 2 * 0 + _ ≤ _; exact Nat.le_of_eq rfl) (hb hby d_j65_133_2) (fun _ _ => ⟨rfl, e0, (by decide : 0 + 0 ≤ _), (by decide : 0 + 0 ≤ _)⟩)
  dsimp only [Pt.U, Pt.locs, Pt.cells, Pt.slots] at X230 l230 y230 z230 st230 hQ230
  subst l230 y230 z230
  obtain ⟨rfl, N230q, e230⟩ := hQ230
  have N230 := Fr.app N0 N230q
  refine own_go st230 ?_
  refine own_go (fun t k => XS.iloadN X230.here hx rfl (hb hby d_j65_133_5) rfl k) ?_
  refine own_go (fun t k => XS.iloadN X230.here hx rfl (hb hby d_j65_133_6) rfl k) ?_
  refine own_go (fun t k => XS.isub X230.here hx rfl (hb hby d_j65_133_7) rfl k) ?_
  refine own_go (fun t k => XS.istoreN X230.here hx rfl (hb hby d_j65_133_8) rfl (l' := #[.val (.ref ub), .val (.int (0 : Int32)), .val (.int (3 : Int32)), .val (.int (3 : Int32)), .unset]) rfl k) ?_
  show own_Go _ _ _ _ (T230.setTop (mkF m 9 #[.val (.ref ub), .val (.int (0 : Int32)), .val (.int (3 : Int32)), .val (.int (3 : Int32)), .unset] []))
  refine own_go (fun t k => XS.iloadN X230.here hx rfl (hb hby d_j65_133_9) rfl k) ?_
  show own_Go _ _ _ _ (T230.setTop (mkF m 10 #[.val (.ref ub), .val (.int (0 : Int32)), .val (.int (3 : Int32)), .val (.int (3 : Int32)), .unset] [(.int (3 : Int32))]))
  obtain ⟨T231, h231, k231, X231, e231, E231, A231, st231⟩ := newP (aty := .byte) X230 hx hZ (w_27 hw) e230 (n := (3 : Int32)) (rest := []) (g := (mkF m 10 #[.val (.ref ub), .val (.int (0 : Int32)), .val (.int (3 : Int32)), .val (.int (3 : Int32)), .unset] [(.int (3 : Int32))])) rfl (hb hby d_j65_133_10) rfl (by decide) (cap := 3) (by decide) (by decide) (by decide) (by decide)
  obtain ⟨b231, g231⟩ : ∃ z, z = h0.size := ⟨_, rfl⟩
  rw [← g231] at A231 st231
  refine own_go st231 ?_
  have Z231 : n0 ≤ h231.size := (Nat.le_trans Z0 E231.1)
  have K231 : Keep h0 h231 [] := (Keep.refl h0 []).ext E231
  have lo231 : h0.size ≤ b231 := Nat.le_of_eq g231.symm
  have q231 : n0 ≤ b231 := Nat.le_trans Z0 lo231
  have hi231 : b231 < h231.size := A231.lt
  have V231 : Arv Z h231 b231 k231 .byte (3 : Int32) [(.int (0 : Int32)), (.int (0 : Int32)), (.int (0 : Int32))] (.int (0 : Int32)) := (Arv.new A231 (by decide)).pad (pad_rep [] (.int (0 : Int32)) 3)
  refine own_go (fun t k => XS.astore X231.here hx rfl (hb hby d_j65_133_12) rfl rfl (l' := #[.val (.ref ub), .val (.int (0 : Int32)), .val (.int (3 : Int32)), .val (.int (3 : Int32)), .val (.ref b231)]) rfl k) ?_
  refine own_go (fun t k => XS.aloadN X231.here hx rfl (hb hby d_j65_133_14) rfl rfl k) ?_
  refine own_go (fun t k => XS.iloadN X231.here hx rfl (hb hby d_j65_133_15) rfl k) ?_
  refine own_go (fun t k => XS.aload X231.here hx rfl (hb hby d_j65_133_16) rfl rfl k) ?_
  refine own_go (fun t k => XS.iconst X231.here hx rfl (hb hby d_j65_133_18) k) ?_
  refine own_go (fun t k => XS.aloadN X231.here hx rfl (hb hby d_j65_133_19) rfl rfl k) ?_
  show own_Go _ _ _ _ (T231.setTop (mkF m 20 #[.val (.ref ub), .val (.int (0 : Int32)), .val (.int (3 : Int32)), .val (.int (3 : Int32)), .val (.ref b231)] [(.ref ub), (.int (0 : Int32)), (.ref b231), (.int (0 : Int32)), (.ref ub)]))
  obtain ⟨cl232, Ar232, qk232, sz232, nn232, ha232, gf232⟩ := id (A0.ext E231)
  refine own_go (X231.arraylength hx (by rw [e231]; exact Ar232.1) (State.isArrayOf_alike hZ.alike Ar232.2.1) (g := (mkF m 20 #[.val (.ref ub), .val (.int (0 : Int32)), .val (.int (3 : Int32)), .val (.int (3 : Int32)), .val (.ref b231)] [(.ref ub), (.int (0 : Int32)), (.ref b231), (.int (0 : Int32)), (.ref ub)])) rfl rfl (hb hby d_j65_133_20)) ?_
  rw [len_of sz232 nn232]
  refine own_go (fun t k => XS.iloadN X231.here hx rfl (hb hby d_j65_133_21) rfl k) ?_
  refine own_go (fun t k => XS.isub X231.here hx rfl (hb hby d_j65_133_22) rfl k) ?_
  refine own_go (fun t k => XS.iloadN X231.here hx rfl (hb hby d_j65_133_23) rfl k) ?_
  obtain ⟨_, _, ⟨T233, L233, k233, n233⟩, -, X233, ⟨Lc233, hQ233, l233, y233, z233⟩, st233⟩ := Jvm.LawKit.callS X231 hx (y := (⟨"java/lang/Math", "min", "(II)I"⟩ : MethodName)) hown (mvT hZ (w_135 hw)) (mvT hZ (w_87 hw)) (mvT hZ (w_88 hw)) (mvT hZ (w_89 hw)) (by decide) (backOf (W := 4) (rm_minB l Z a0 hw [] (nv - (0 : Int32)) (3 : Int32) h231 n0 Z231 hm) hZ (w_89 hw) (w_88 hw) (by decide) (by decide)) (g := (mkF m 24 #[.val (.ref ub), .val (.int (0 : Int32)), .val (.int (3 : Int32)), .val (.int (3 : Int32)), .val (.ref b231)] [(.int (3 : Int32)), (.int (nv - (0 : Int32))), (.int (0 : Int32)), (.ref b231), (.int (0 : Int32)), (.ref ub)])) rfl (by rw [hml]; rfl) (argsL := [(.int (nv - (0 : Int32))), (.int (3 : Int32))]) (rest := [(.int (0 : Int32)), (.ref b231), (.int (0 : Int32)), (.ref ub)]) (lenOf pd_1 rfl) rfl (by show 2 * 0 + _ ≤ _; exact Nat.le_of_eq rfl) (hb hby d_j65_133_24) (fun _ _ => ⟨rfl, e231, (by decide : 1 + 0 ≤ _), (by decide : 3 + 0 ≤ _)⟩)
  dsimp only [Pt.U, Pt.locs, Pt.cells, Pt.slots] at X233 l233 y233 z233 st233 hQ233
  subst l233 y233 z233
  obtain ⟨rfl, N233q, e233⟩ := hQ233
  have N233 := Fr.app N230 N233q
  refine own_go st233 ?_
  show own_Go _ _ _ _ (T233.setTop (mkF m 27 #[.val (.ref ub), .val (.int (0 : Int32)), .val (.int (3 : Int32)), .val (.int (3 : Int32)), .val (.ref b231)] [(.int (3 : Int32)), (.int (0 : Int32)), (.ref b231), (.int (0 : Int32)), (.ref ub)]))
  obtain ⟨T234, h234, L234, X234, e234, N234, K234q, V234, st234⟩ := cpA X233 hx hZ hown (w_136 hw) (w_139 hw) (w_137 hw) (w_138 hw) e233 (sp := (0 : Int32)) (dp := (0 : Int32)) (nn := (3 : Int32)) (us := [(vs.getD 0 (.int (0 : Int32))), (vs.getD 1 (.int (0 : Int32))), (vs.getD 2 (.int (0 : Int32)))]) (A0.ext E231) V231 (Or.inl ⟨rfl, rfl⟩) (by decide) (by decide) (by decide) h4_ (by decide) rfl (by decide) N233 q231 (g := (mkF m 27 #[.val (.ref ub), .val (.int (0 : Int32)), .val (.int (3 : Int32)), .val (.int (3 : Int32)), .val (.ref b231)] [(.int (3 : Int32)), (.int (0 : Int32)), (.ref b231), (.int (0 : Int32)), (.ref ub)])) rfl (by rw [hml]; rfl) rfl (hb hby d_j65_133_27) (by decide) (W := 0) (by show 2 * 0 + _ ≤ _; exact Nat.le_of_eq rfl) (by decide)
  refine own_go st234 ?_
  replace V234 : Arv Z h234 b231 k231 .byte (3 : Int32) [(vs.getD 0 (.int (0 : Int32))), (vs.getD 1 (.int (0 : Int32))), (vs.getD 2 (.int (0 : Int32)))] (.int (0 : Int32)) := V234
  have Z234 : n0 ≤ h234.size := (Nat.le_trans Z231 K234q.1)
  have K234 : Keep h0 h234 [] := K231.trans K234q (allS (Or.inr lo231) all0)
  refine own_go (fun t k => XS.aload X234.here hx rfl (hb hby d_j65_133_30) rfl rfl k) ?_
  show own_Go _ _ _ _ (T234.setTop (mkF m 32 #[.val (.ref ub), .val (.int (0 : Int32)), .val (.int (3 : Int32)), .val (.int (3 : Int32)), .val (.ref b231)] [(.ref b231)]))
  refine own_ret X234 hx hlk hret rfl (Or.inr (Or.inr (Or.inr (Or.inr ⟨rfl, rfl, rfl⟩)))) (hb hby d_j65_133_32) ?_ (by decide) (by decide)
  rw [e234]
  exact ⟨b231, k231, rfl, N234, K234, lo231, q231, V234⟩
def Q_cor_3 (Z : State) (ub : Addr) (kb : ClassId) (nv : Int32) (vs : List Value) (h0 : Heap) (n0 : Nat) (v : Option Value) (h : Heap) (L : List Loc) : Prop := ∃ (uy : Addr) (ky : ClassId), v = some (.ref uy) ∧ Fr n0 L ∧ Keep h0 h [] ∧ h0.size ≤ uy ∧ n0 ≤ uy ∧ Arv Z h uy ky .byte (3 : Int32) [(vs.getD 0 (.int (0 : Int32))), (vs.getD 1 (.int (0 : Int32))), (vs.getD 2 (.int (0 : Int32)))] (.int (0 : Int32))
theorem ef_cor_3 (m : MethodId) (ub : Addr) : entryFrame m #[(.ref ub), (.int (0 : Int32)), (.int (3 : Int32))] 3 = mkF m 0 #[.val (.ref ub), .val (.int (0 : Int32)), .val (.int (3 : Int32))] [] := by first | (simp [entryFrame, mkF, argsToLocals, Value.category]; done) | rfl
set_option maxRecDepth 65536 in
set_option maxHeartbeats 40000000 in
theorem rm_cor_3 (l : Launch) (Z : State) (a0 : Array Value) (hw : ∀ d ∈ tables_1, d.before a0 Z = true) (ws : List Jvm.Cond) (ub : Addr) (kb : ClassId) (nv : Int32) (vs : List Value) (h0 : Heap) (n0 : Nat) (Z0 : n0 ≤ h0.size) (A0 : Arv Z h0 ub kb .byte nv vs (.int (0 : Int32))) (hm : (3 : Int32) < nv - (0 : Int32)) (h4_ : (0 : Int32).toNatClampNeg + (3 : Int32).toNatClampNeg ≤ nv.toNatClampNeg) (hne : ¬ (3 : Int32) = nv) :
    own_Met l Z (⟨"java/util/Arrays", "copyOfRange", "([BII)[B"⟩ : MethodName) jdk_65_method_132_code 3 (some (.array .byte)) ws ({ frames := 2, cells := 1, slots := 3, locals := 34 } : Room) #[(.ref ub), (.int (0 : Int32)), (.int (3 : Int32))] h0 (Q_cor_3 Z ub kb nv vs h0 n0) := by
  refine own_enter (own := "java/util/Arrays") (plainFor_of_name pn_4) rfl ?_
  intro p e s m below meth c s₁ hlk hret hx hby hml hown hnm hZ X0 e0
  have N0 := Fr.nil n0
  refine own_cast (ef_cor_3 m ub) ?_
  show own_Go _ _ _ _ (s₁.setTop (mkF m 0 #[.val (.ref ub), .val (.int (0 : Int32)), .val (.int (3 : Int32))] []))
  refine own_go (fun t k => XS.iloadN X0.here hx rfl (hb hby d_j65_132_0) rfl k) ?_
  show own_Go _ _ _ _ (s₁.setTop (mkF m 1 #[.val (.ref ub), .val (.int (0 : Int32)), .val (.int (3 : Int32))] [(.int (0 : Int32))]))
  refine own_go (fun t k => XS.ifNo X0.here hx rfl (hb hby d_j65_132_1) rfl ((if0 _ _).trans (teq (by decide : (0 : Int32) = (0 : Int32))).2) k) ?_
  refine own_go (fun t k => XS.iloadN X0.here hx rfl (hb hby d_j65_132_4) rfl k) ?_
  refine own_go (fun t k => XS.aloadN X0.here hx rfl (hb hby d_j65_132_5) rfl rfl k) ?_
  show own_Go _ _ _ _ (s₁.setTop (mkF m 6 #[.val (.ref ub), .val (.int (0 : Int32)), .val (.int (3 : Int32))] [(.ref ub), (.int (3 : Int32))]))
  obtain ⟨cl235, Ar235, qk235, sz235, nn235, ha235, gf235⟩ := id A0
  refine own_go (X0.arraylength hx (by rw [e0]; exact Ar235.1) (State.isArrayOf_alike hZ.alike Ar235.2.1) (g := (mkF m 6 #[.val (.ref ub), .val (.int (0 : Int32)), .val (.int (3 : Int32))] [(.ref ub), (.int (3 : Int32))])) rfl rfl (hb hby d_j65_132_6)) ?_
  rw [len_of sz235 nn235]
  show own_Go _ _ _ _ (s₁.setTop (mkF m 7 #[.val (.ref ub), .val (.int (0 : Int32)), .val (.int (3 : Int32))] [(.int nv), (.int (3 : Int32))]))
  refine own_go (fun t k => XS.icmpNo X0.here hx rfl (hb hby d_j65_132_7) rfl (feq hne).1 k) ?_
  refine own_go (fun t k => XS.aloadN X0.here hx rfl (hb hby d_j65_132_10) rfl rfl k) ?_
  refine own_go (fun t k => XS.iloadN X0.here hx rfl (hb hby d_j65_132_11) rfl k) ?_
  refine own_go (fun t k => XS.iloadN X0.here hx rfl (hb hby d_j65_132_12) rfl k) ?_
  obtain ⟨_, _, ⟨T236, L236, k236, n236⟩, -, X236, ⟨Lc236, hQ236, l236, y236, z236⟩, st236⟩ := Jvm.LawKit.callS X0 hx (y := (⟨"java/util/Arrays", "copyOfRangeByte", "([BII)[B"⟩ : MethodName)) hown (mvT hZ (w_129 hw)) (mvT hZ (w_130 hw)) (mvT hZ (w_127 hw)) (mvT hZ (w_131 hw)) (by decide) (backOf (W := 0) (rm_crb_3 l Z a0 hw [] ub kb nv vs h0 n0 Z0 A0 hm h4_ hne) hZ (w_131 hw) (w_127 hw) (by decide) (by decide)) (g := (mkF m 13 #[.val (.ref ub), .val (.int (0 : Int32)), .val (.int (3 : Int32))] [(.int (3 : Int32)), (.int (0 : Int32)), (.ref ub)])) rfl (by rw [hml]; rfl) (argsL := [(.ref ub), (.int (0 : Int32)), (.int (3 : Int32))]) (rest := []) (lenOf pd_7 rfl) rfl (by show 2 * 0 + _ ≤ _; exact Nat.le_of_eq rfl) (hb hby d_j65_132_13) (fun _ _ => ⟨rfl, e0, (by decide : 0 + 1 ≤ _), (by decide : 0 + 3 ≤ _)⟩)
  dsimp only [Pt.U, Pt.locs, Pt.cells, Pt.slots] at X236 l236 y236 z236 st236 hQ236
  subst l236 y236 z236
  generalize e236 : T236.heap = h236 at hQ236
  obtain ⟨uy236, ky236, rfl, N236q, K236q, lo236, q236, A236⟩ := hQ236
  have N236 := Fr.app N0 N236q
  refine own_go st236 ?_
  have Z236 : n0 ≤ h236.size := (Nat.le_trans Z0 K236q.1)
  have K236 : Keep h0 h236 [] := (Keep.refl h0 []).trans K236q all0
  have hi236 := A236.lt
  show own_Go _ _ _ _ (T236.setTop (mkF m 16 #[.val (.ref ub), .val (.int (0 : Int32)), .val (.int (3 : Int32))] [(.ref uy236)]))
  refine own_ret X236 hx hlk hret rfl (Or.inr (Or.inr (Or.inr (Or.inr ⟨rfl, rfl, rfl⟩)))) (hb hby d_j65_132_16) ?_ (by decide) (by decide)
  rw [e236]
  exact ⟨uy236, ky236, rfl, N236, K236, lo236, q236, A236⟩
def Q_nst_3 (Z : State) (ub : Addr) (kb : ClassId) (nv : Int32) (vs : List Value) (h0 : Heap) (n0 : Nat) (v : Option Value) (h : Heap) (L : List Loc) : Prop := ∃ (ux uy : Addr) (ky : ClassId), v = some (.ref ux) ∧ Fr n0 L ∧ Keep h0 h [] ∧ h0.size ≤ ux ∧ n0 ≤ ux ∧ h0.size ≤ uy ∧ n0 ≤ uy ∧ Exa Z h ux "java/lang/String" ∧ Fld Z h ux "java/lang/String" "coder" "B" (.int (0 : Int32)) ∧ Fld Z h ux "java/lang/String" "value" "[B" (.ref uy) ∧ Arv Z h uy ky .byte (3 : Int32) [(vs.getD 0 (.int (0 : Int32))), (vs.getD 1 (.int (0 : Int32))), (vs.getD 2 (.int (0 : Int32)))] (.int (0 : Int32))
theorem ef_nst_3 (m : MethodId) (ub : Addr) : entryFrame m #[(.ref ub), (.int (0 : Int32)), (.int (3 : Int32))] 3 = mkF m 0 #[.val (.ref ub), .val (.int (0 : Int32)), .val (.int (3 : Int32))] [] := by first | (simp [entryFrame, mkF, argsToLocals, Value.category]; done) | rfl
set_option maxRecDepth 65536 in
set_option maxHeartbeats 40000000 in
theorem rm_nst_3 (l : Launch) (Z : State) (a0 : Array Value) (hw : ∀ d ∈ tables_1, d.before a0 Z = true) (ws : List Jvm.Cond) (ub : Addr) (kb : ClassId) (nv : Int32) (vs : List Value) (h0 : Heap) (n0 : Nat) (Z0 : n0 ≤ h0.size) (A0 : Arv Z h0 ub kb .byte nv vs (.int (0 : Int32))) (hm : (3 : Int32) < nv - (0 : Int32)) (h4_ : (0 : Int32).toNatClampNeg + (3 : Int32).toNatClampNeg ≤ nv.toNatClampNeg) (hne : ¬ (3 : Int32) = nv) :
    own_Met l Z (⟨"java/lang/StringLatin1", "newString", "([BII)Ljava/lang/String;"⟩ : MethodName) jdk_43_method_47_code 3 (some (.object "java/lang/String")) ws ({ frames := 3, cells := 2, slots := 7, locals := 50 } : Room) #[(.ref ub), (.int (0 : Int32)), (.int (3 : Int32))] h0 (Q_nst_3 Z ub kb nv vs h0 n0) := by
  refine own_enter (own := "java/lang/StringLatin1") (plainFor_of_name pn_1) rfl ?_
  intro p e s m below meth c s₁ hlk hret hx hby hml hown hnm hZ X0 e0
  have N0 := Fr.nil n0
  refine own_cast (ef_nst_3 m ub) ?_
  show own_Go _ _ _ _ (s₁.setTop (mkF m 0 #[.val (.ref ub), .val (.int (0 : Int32)), .val (.int (3 : Int32))] []))
  refine own_go (fun t k => XS.iloadN X0.here hx rfl (hb hby d_j43_47_0) rfl k) ?_
  show own_Go _ _ _ _ (s₁.setTop (mkF m 1 #[.val (.ref ub), .val (.int (0 : Int32)), .val (.int (3 : Int32))] [(.int (3 : Int32))]))
  refine own_go (fun t k => XS.ifYes X0.here hx rfl (pc0 := 1) (pc' := 7) rfl (hb hby d_j43_47_1) rfl ((if0 _ _).trans (feq (by decide : ¬ ((3 : Int32) = (0 : Int32)))).2) (by decide) (by decide) k) ?_
  show own_Go _ _ _ _ (s₁.setTop (mkF m 7 #[.val (.ref ub), .val (.int (0 : Int32)), .val (.int (3 : Int32))] []))
  obtain ⟨T237, h237, X237, e237, E237, A237, D237, -, st237⟩ := newO X0 hx hZ hown (w_124 hw) (w_6 hw) (w_7 hw) e0 (g := (mkF m 7 #[.val (.ref ub), .val (.int (0 : Int32)), .val (.int (3 : Int32))] [])) rfl (hb hby d_j43_47_7) (by decide) (by decide)
  obtain ⟨b237, g237⟩ : ∃ z, z = h0.size := ⟨_, rfl⟩
  rw [← g237] at A237 D237 st237
  refine own_go st237 ?_
  have Z237 : n0 ≤ h237.size := (Nat.le_trans Z0 E237.1)
  have K237 : Keep h0 h237 [] := (Keep.refl h0 []).ext E237
  have lo237 : h0.size ≤ b237 := Nat.le_of_eq g237.symm
  have q237 : n0 ≤ b237 := Nat.le_trans Z0 lo237
  have hi237 : b237 < h237.size := A237.lt
  have F237_35 : Fld Z h237 b237 "java/lang/String" "coder" "B" (.int (0 : Int32)) := D237 (Or.inr (w_35 hw)) (ty := .byte) (by decide)
  have F237_37 : Fld Z h237 b237 "java/lang/String" "value" "[B" .null := D237 (Or.inr (w_37 hw)) (ty := (.array .byte)) (by decide)
  refine own_go (fun t k => XS.dup X237.here hx rfl (hb hby d_j43_47_10) rfl rfl k) ?_
  refine own_go (fun t k => XS.aloadN X237.here hx rfl (hb hby d_j43_47_11) rfl rfl k) ?_
  refine own_go (fun t k => XS.iloadN X237.here hx rfl (hb hby d_j43_47_12) rfl k) ?_
  refine own_go (fun t k => XS.iloadN X237.here hx rfl (hb hby d_j43_47_13) rfl k) ?_
  refine own_go (fun t k => XS.iloadN X237.here hx rfl (hb hby d_j43_47_14) rfl k) ?_
  refine own_go (fun t k => XS.iadd X237.here hx rfl (hb hby d_j43_47_15) rfl k) ?_
  show own_Go _ _ _ _ (T237.setTop (mkF m 16 #[.val (.ref ub), .val (.int (0 : Int32)), .val (.int (3 : Int32))] [(.int (3 : Int32)), (.int (0 : Int32)), (.ref ub), (.ref b237), (.ref b237)]))
  obtain ⟨_, _, ⟨T238, L238, k238, n238⟩, -, X238, ⟨Lc238, hQ238, l238, y238, z238⟩, st238⟩ := Jvm.LawKit.callS X237 hx (y := (⟨"java/util/Arrays", "copyOfRange", "([BII)[B"⟩ : MethodName)) hown (mvT hZ (w_125 hw)) (mvT hZ (w_126 hw)) (mvT hZ (w_127 hw)) (mvT hZ (w_128 hw)) (by decide) (backOf (W := 2) (rm_cor_3 l Z a0 hw [] ub kb nv vs h237 n0 Z237 (A0.ext E237) hm h4_ hne) hZ (w_128 hw) (w_127 hw) (by decide) (by decide)) (g := (mkF m 16 #[.val (.ref ub), .val (.int (0 : Int32)), .val (.int (3 : Int32))] [(.int (3 : Int32)), (.int (0 : Int32)), (.ref ub), (.ref b237), (.ref b237)])) rfl (by rw [hml]; rfl) (argsL := [(.ref ub), (.int (0 : Int32)), (.int (3 : Int32))]) (rest := [(.ref b237), (.ref b237)]) (lenOf pd_7 rfl) rfl (by show 2 * 0 + _ ≤ _; exact Nat.le_of_eq rfl) (hb hby d_j43_47_16) (fun _ _ => ⟨rfl, e237, (by decide : 1 + 1 ≤ _), (by decide : 4 + 3 ≤ _)⟩)
  dsimp only [Pt.U, Pt.locs, Pt.cells, Pt.slots] at X238 l238 y238 z238 st238 hQ238
  subst l238 y238 z238
  generalize e238 : T238.heap = h238 at hQ238
  obtain ⟨uy238, ky238, rfl, N238q, K238q, lo238, q238, A238⟩ := hQ238
  have N238 := Fr.app N0 N238q
  refine own_go st238 ?_
  have Z238 : n0 ≤ h238.size := (Nat.le_trans Z237 K238q.1)
  have K238 : Keep h0 h238 [] := K237.trans K238q all0
  have hi238 := A238.lt
  refine own_go (fun t k => XS.iconst X238.here hx rfl (hb hby d_j43_47_19) k) ?_
  obtain ⟨_, _, ⟨T239, L239, k239, n239⟩, -, X239, ⟨Lc239, hQ239, l239, y239, z239⟩, st239⟩ := X238.specialBack hx (y := (⟨"java/lang/String", "<init>", "([BB)V"⟩ : MethodName)) rfl hown (mvT hZ (w_140 hw)) (mvT hZ (w_141 hw)) (mvT hZ (w_142 hw)) (by decide) (backOf (W := 1) (rm_sbb l Z a0 hw [] b237 uy238 h238 n0 Z238 q237 (A237.keep K238q) (F237_37.keep K238q nin0) (F237_35.keep K238q nin0)) hZ (w_142 hw) (w_7 hw) (by decide) (by decide)) (g := (mkF m 20 #[.val (.ref ub), .val (.int (0 : Int32)), .val (.int (3 : Int32))] [(.int (0 : Int32)), (.ref uy238), (.ref b237), (.ref b237)])) rfl (by rw [hml]; rfl) (Steps.refl _) (a := b237) (argsL := [(.ref uy238), (.int (0 : Int32))]) (rest := [(.ref b237)]) (lenOf pd_8 rfl) rfl (by show 2 * 0 + _ ≤ _; exact Nat.le_of_eq rfl) (hb hby d_j43_47_20) (fun _ _ => ⟨rfl, e238, (by decide : 2 + 0 ≤ _), (by decide : 7 + 0 ≤ _)⟩)
  dsimp only [Pt.U, Pt.locs, Pt.cells, Pt.slots] at X239 l239 y239 z239 st239 hQ239
  subst l239 y239 z239
  generalize e239 : T239.heap = h239 at hQ239
  obtain ⟨rfl, N239q, K239q, Fc239, Fv239⟩ := hQ239
  have N239 := Fr.app N238 N239q
  refine own_go (fun t k => st239.trans k) ?_
  have Z239 : n0 ≤ h239.size := (Nat.le_trans Z238 K239q.1)
  have K239 : Keep h0 h239 [] := K238.trans K239q (allS (Or.inr lo237) all0)
  have f240 := (A238.keep K239q (ninS (Ne.symm (Nat.ne_of_lt (Nat.lt_of_lt_of_le hi237 lo238))) nin0))
  show own_Go _ _ _ _ (T239.setTop (mkF m 23 #[.val (.ref ub), .val (.int (0 : Int32)), .val (.int (3 : Int32))] [(.ref b237)]))
  refine own_ret X239 hx hlk hret rfl (Or.inr (Or.inr (Or.inr (Or.inr ⟨rfl, rfl, rfl⟩)))) (hb hby d_j43_47_23) ?_ (by decide) (by decide)
  rw [e239]
  exact ⟨b237, uy238, ky238, rfl, N239, K239, lo237, q237, (Nat.le_trans E237.1 lo238), q238, ((A237.keep K238q).keep K239q), Fc239, Fv239, f240⟩
def Q_ckl_4 (Z : State)  (h0 : Heap) (n0 : Nat) (v : Option Value) (h : Heap) (L : List Loc) : Prop := v = none ∧ Fr n0 L ∧ h = h0
theorem ef_ckl_4 (m : MethodId)  : entryFrame m #[(.int (0 : Int32)), (.int (4 : Int32))] 2 = mkF m 0 #[.val (.int (0 : Int32)), .val (.int (4 : Int32))] [] := by first | (simp [entryFrame, mkF, argsToLocals, Value.category]; done) | rfl
set_option maxRecDepth 65536 in
set_option maxHeartbeats 40000000 in
theorem rm_ckl_4 (l : Launch) (Z : State) (a0 : Array Value) (hw : ∀ d ∈ tables_1, d.before a0 Z = true) (ws : List Jvm.Cond)  (h0 : Heap) (n0 : Nat) (Z0 : n0 ≤ h0.size) :
    own_Met l Z (⟨"java/util/Arrays", "checkLength", "(II)V"⟩ : MethodName) jdk_65_method_131_code 2 none ws ({ frames := 0, cells := 0, slots := 0, locals := 0 } : Room) #[(.int (0 : Int32)), (.int (4 : Int32))] h0 (Q_ckl_4 Z  h0 n0) := by
  refine own_enter (own := "java/util/Arrays") (plainFor_of_name pn_4) rfl ?_
  intro p e s m below meth c s₁ hlk hret hx hby hml hown hnm hZ X0 e0
  have N0 := Fr.nil n0
  refine own_cast (ef_ckl_4 m ) ?_
  show own_Go _ _ _ _ (s₁.setTop (mkF m 0 #[.val (.int (0 : Int32)), .val (.int (4 : Int32))] []))
  refine own_go (fun t k => XS.iloadN X0.here hx rfl (hb hby d_j65_131_0) rfl k) ?_
  refine own_go (fun t k => XS.iloadN X0.here hx rfl (hb hby d_j65_131_1) rfl k) ?_
  show own_Go _ _ _ _ (s₁.setTop (mkF m 2 #[.val (.int (0 : Int32)), .val (.int (4 : Int32))] [(.int (0 : Int32)), (.int (4 : Int32))]))
  refine own_go (fun t k => XS.icmpYes X0.here hx rfl (pc0 := 2) (pc' := 37) rfl (hb hby d_j65_131_2) rfl (flt (by decide : ¬ ((4 : Int32) < (0 : Int32)))).2.1 (by decide) (by decide) k) ?_
  show own_Go _ _ _ _ (s₁.setTop (mkF m 37 #[.val (.int (0 : Int32)), .val (.int (4 : Int32))] []))
  refine own_retV X0 hx hlk hret (hb hby d_j65_131_37) ?_ (by decide) (by decide)
  rw [e0]
  exact ⟨rfl, N0, rfl⟩
def Q_crb_4 (Z : State) (ub : Addr) (kb : ClassId) (nv : Int32) (vs : List Value) (h0 : Heap) (n0 : Nat) (v : Option Value) (h : Heap) (L : List Loc) : Prop := ∃ (uy : Addr) (ky : ClassId), v = some (.ref uy) ∧ Fr n0 L ∧ Keep h0 h [] ∧ h0.size ≤ uy ∧ n0 ≤ uy ∧ Arv Z h uy ky .byte (4 : Int32) [(vs.getD 0 (.int (0 : Int32))), (vs.getD 1 (.int (0 : Int32))), (vs.getD 2 (.int (0 : Int32))), (vs.getD 3 (.int (0 : Int32)))] (.int (0 : Int32))
theorem ef_crb_4 (m : MethodId) (ub : Addr) : entryFrame m #[(.ref ub), (.int (0 : Int32)), (.int (4 : Int32))] 5 = mkF m 0 #[.val (.ref ub), .val (.int (0 : Int32)), .val (.int (4 : Int32)), .unset, .unset] [] := by first | (simp [entryFrame, mkF, argsToLocals, Value.category]; done) | rfl
set_option maxRecDepth 65536 in
set_option maxHeartbeats 40000000 in
theorem rm_crb_4 (l : Launch) (Z : State) (a0 : Array Value) (hw : ∀ d ∈ tables_1, d.before a0 Z = true) (ws : List Jvm.Cond) (ub : Addr) (kb : ClassId) (nv : Int32) (vs : List Value) (h0 : Heap) (n0 : Nat) (Z0 : n0 ≤ h0.size) (A0 : Arv Z h0 ub kb .byte nv vs (.int (0 : Int32))) (hm : (4 : Int32) < nv - (0 : Int32)) (h4_ : (0 : Int32).toNatClampNeg + (4 : Int32).toNatClampNeg ≤ nv.toNatClampNeg) (hne : ¬ (4 : Int32) = nv) :
    own_Met l Z (⟨"java/util/Arrays", "copyOfRangeByte", "([BII)[B"⟩ : MethodName) jdk_65_method_133_code 5 (some (.array .byte)) ws ({ frames := 1, cells := 1, slots := 4, locals := 18 } : Room) #[(.ref ub), (.int (0 : Int32)), (.int (4 : Int32))] h0 (Q_crb_4 Z ub kb nv vs h0 n0) := by
  refine own_enter (own := "java/util/Arrays") (plainFor_of_name pn_4) rfl ?_
  intro p e s m below meth c s₁ hlk hret hx hby hml hown hnm hZ X0 e0
  have N0 := Fr.nil n0
  refine own_cast (ef_crb_4 m ub) ?_
  show own_Go _ _ _ _ (s₁.setTop (mkF m 0 #[.val (.ref ub), .val (.int (0 : Int32)), .val (.int (4 : Int32)), .unset, .unset] []))
  refine own_go (fun t k => XS.iloadN X0.here hx rfl (hb hby d_j65_133_0) rfl k) ?_
  refine own_go (fun t k => XS.iloadN X0.here hx rfl (hb hby d_j65_133_1) rfl k) ?_
  obtain ⟨_, _, ⟨T241, L241, k241, n241⟩, -, X241, ⟨Lc241, hQ241, l241, y241, z241⟩, st241⟩ := Jvm.LawKit.callS X0 hx (y := (⟨"java/util/Arrays", "checkLength", "(II)V"⟩ : MethodName)) hown (mvT hZ (w_132 hw)) (mvT hZ (w_133 hw)) (mvT hZ (w_127 hw)) (mvT hZ (w_134 hw)) (by decide) (backOf (W := 0) (rm_ckl_4 l Z a0 hw []  h0 n0 Z0 ) hZ (w_134 hw) (w_127 hw) (by decide) (by decide)) (g := (mkF m 2 #[.val (.ref ub), .val (.int (0 : Int32)), .val (.int (4 : Int32)), .unset, .unset] [(.int (4 : Int32)), (.int (0 : Int32))])) rfl (by rw [hml]; rfl) (argsL := [(.int (0 : Int32)), (.int (4 : Int32))]) (rest := []) (lenOf pd_6 rfl) rfl (by show 2 * 0 + _ ≤ _; exact Nat.le_of_eq rfl) (hb hby d_j65_133_2) (fun _ _ => ⟨rfl, e0, (by decide : 0 + 0 ≤ _), (by decide : 0 + 0 ≤ _)⟩)
  dsimp only [Pt.U, Pt.locs, Pt.cells, Pt.slots] at X241 l241 y241 z241 st241 hQ241
  subst l241 y241 z241
  obtain ⟨rfl, N241q, e241⟩ := hQ241
  have N241 := Fr.app N0 N241q
  refine own_go st241 ?_
  refine own_go (fun t k => XS.iloadN X241.here hx rfl (hb hby d_j65_133_5) rfl k) ?_
  refine own_go (fun t k => XS.iloadN X241.here hx rfl (hb hby d_j65_133_6) rfl k) ?_
  refine own_go (fun t k => XS.isub X241.here hx rfl (hb hby d_j65_133_7) rfl k) ?_
  refine own_go (fun t k => XS.istoreN X241.here hx rfl (hb hby d_j65_133_8) rfl (l' := #[.val (.ref ub), .val (.int (0 : Int32)), .val (.int (4 : Int32)), .val (.int (4 : Int32)), .unset]) rfl k) ?_
  show own_Go _ _ _ _ (T241.setTop (mkF m 9 #[.val (.ref ub), .val (.int (0 : Int32)), .val (.int (4 : Int32)), .val (.int (4 : Int32)), .unset] []))
  refine own_go (fun t k => XS.iloadN X241.here hx rfl (hb hby d_j65_133_9) rfl k) ?_
  show own_Go _ _ _ _ (T241.setTop (mkF m 10 #[.val (.ref ub), .val (.int (0 : Int32)), .val (.int (4 : Int32)), .val (.int (4 : Int32)), .unset] [(.int (4 : Int32))]))
  obtain ⟨T242, h242, k242, X242, e242, E242, A242, st242⟩ := newP (aty := .byte) X241 hx hZ (w_27 hw) e241 (n := (4 : Int32)) (rest := []) (g := (mkF m 10 #[.val (.ref ub), .val (.int (0 : Int32)), .val (.int (4 : Int32)), .val (.int (4 : Int32)), .unset] [(.int (4 : Int32))])) rfl (hb hby d_j65_133_10) rfl (by decide) (cap := 4) (by decide) (by decide) (by decide) (by decide)
  obtain ⟨b242, g242⟩ : ∃ z, z = h0.size := ⟨_, rfl⟩
  rw [← g242] at A242 st242
  refine own_go st242 ?_
  have Z242 : n0 ≤ h242.size := (Nat.le_trans Z0 E242.1)
  have K242 : Keep h0 h242 [] := (Keep.refl h0 []).ext E242
  have lo242 : h0.size ≤ b242 := Nat.le_of_eq g242.symm
  have q242 : n0 ≤ b242 := Nat.le_trans Z0 lo242
  have hi242 : b242 < h242.size := A242.lt
  have V242 : Arv Z h242 b242 k242 .byte (4 : Int32) [(.int (0 : Int32)), (.int (0 : Int32)), (.int (0 : Int32)), (.int (0 : Int32))] (.int (0 : Int32)) := (Arv.new A242 (by decide)).pad (pad_rep [] (.int (0 : Int32)) 4)
  refine own_go (fun t k => XS.astore X242.here hx rfl (hb hby d_j65_133_12) rfl rfl (l' := #[.val (.ref ub), .val (.int (0 : Int32)), .val (.int (4 : Int32)), .val (.int (4 : Int32)), .val (.ref b242)]) rfl k) ?_
  refine own_go (fun t k => XS.aloadN X242.here hx rfl (hb hby d_j65_133_14) rfl rfl k) ?_
  refine own_go (fun t k => XS.iloadN X242.here hx rfl (hb hby d_j65_133_15) rfl k) ?_
  refine own_go (fun t k => XS.aload X242.here hx rfl (hb hby d_j65_133_16) rfl rfl k) ?_
  refine own_go (fun t k => XS.iconst X242.here hx rfl (hb hby d_j65_133_18) k) ?_
  refine own_go (fun t k => XS.aloadN X242.here hx rfl (hb hby d_j65_133_19) rfl rfl k) ?_
  show own_Go _ _ _ _ (T242.setTop (mkF m 20 #[.val (.ref ub), .val (.int (0 : Int32)), .val (.int (4 : Int32)), .val (.int (4 : Int32)), .val (.ref b242)] [(.ref ub), (.int (0 : Int32)), (.ref b242), (.int (0 : Int32)), (.ref ub)]))
  obtain ⟨cl243, Ar243, qk243, sz243, nn243, ha243, gf243⟩ := id (A0.ext E242)
  refine own_go (X242.arraylength hx (by rw [e242]; exact Ar243.1) (State.isArrayOf_alike hZ.alike Ar243.2.1) (g := (mkF m 20 #[.val (.ref ub), .val (.int (0 : Int32)), .val (.int (4 : Int32)), .val (.int (4 : Int32)), .val (.ref b242)] [(.ref ub), (.int (0 : Int32)), (.ref b242), (.int (0 : Int32)), (.ref ub)])) rfl rfl (hb hby d_j65_133_20)) ?_
  rw [len_of sz243 nn243]
  refine own_go (fun t k => XS.iloadN X242.here hx rfl (hb hby d_j65_133_21) rfl k) ?_
  refine own_go (fun t k => XS.isub X242.here hx rfl (hb hby d_j65_133_22) rfl k) ?_
  refine own_go (fun t k => XS.iloadN X242.here hx rfl (hb hby d_j65_133_23) rfl k) ?_
  obtain ⟨_, _, ⟨T244, L244, k244, n244⟩, -, X244, ⟨Lc244, hQ244, l244, y244, z244⟩, st244⟩ := Jvm.LawKit.callS X242 hx (y := (⟨"java/lang/Math", "min", "(II)I"⟩ : MethodName)) hown (mvT hZ (w_135 hw)) (mvT hZ (w_87 hw)) (mvT hZ (w_88 hw)) (mvT hZ (w_89 hw)) (by decide) (backOf (W := 4) (rm_minB l Z a0 hw [] (nv - (0 : Int32)) (4 : Int32) h242 n0 Z242 hm) hZ (w_89 hw) (w_88 hw) (by decide) (by decide)) (g := (mkF m 24 #[.val (.ref ub), .val (.int (0 : Int32)), .val (.int (4 : Int32)), .val (.int (4 : Int32)), .val (.ref b242)] [(.int (4 : Int32)), (.int (nv - (0 : Int32))), (.int (0 : Int32)), (.ref b242), (.int (0 : Int32)), (.ref ub)])) rfl (by rw [hml]; rfl) (argsL := [(.int (nv - (0 : Int32))), (.int (4 : Int32))]) (rest := [(.int (0 : Int32)), (.ref b242), (.int (0 : Int32)), (.ref ub)]) (lenOf pd_1 rfl) rfl (by show 2 * 0 + _ ≤ _; exact Nat.le_of_eq rfl) (hb hby d_j65_133_24) (fun _ _ => ⟨rfl, e242, (by decide : 1 + 0 ≤ _), (by decide : 4 + 0 ≤ _)⟩)
  dsimp only [Pt.U, Pt.locs, Pt.cells, Pt.slots] at X244 l244 y244 z244 st244 hQ244
  subst l244 y244 z244
  obtain ⟨rfl, N244q, e244⟩ := hQ244
  have N244 := Fr.app N241 N244q
  refine own_go st244 ?_
  show own_Go _ _ _ _ (T244.setTop (mkF m 27 #[.val (.ref ub), .val (.int (0 : Int32)), .val (.int (4 : Int32)), .val (.int (4 : Int32)), .val (.ref b242)] [(.int (4 : Int32)), (.int (0 : Int32)), (.ref b242), (.int (0 : Int32)), (.ref ub)]))
  obtain ⟨T245, h245, L245, X245, e245, N245, K245q, V245, st245⟩ := cpA X244 hx hZ hown (w_136 hw) (w_139 hw) (w_137 hw) (w_138 hw) e244 (sp := (0 : Int32)) (dp := (0 : Int32)) (nn := (4 : Int32)) (us := [(vs.getD 0 (.int (0 : Int32))), (vs.getD 1 (.int (0 : Int32))), (vs.getD 2 (.int (0 : Int32))), (vs.getD 3 (.int (0 : Int32)))]) (A0.ext E242) V242 (Or.inl ⟨rfl, rfl⟩) (by decide) (by decide) (by decide) h4_ (by decide) rfl (by decide) N244 q242 (g := (mkF m 27 #[.val (.ref ub), .val (.int (0 : Int32)), .val (.int (4 : Int32)), .val (.int (4 : Int32)), .val (.ref b242)] [(.int (4 : Int32)), (.int (0 : Int32)), (.ref b242), (.int (0 : Int32)), (.ref ub)])) rfl (by rw [hml]; rfl) rfl (hb hby d_j65_133_27) (by decide) (W := 0) (by show 2 * 0 + _ ≤ _; exact Nat.le_of_eq rfl) (by decide)
  refine own_go st245 ?_
  replace V245 : Arv Z h245 b242 k242 .byte (4 : Int32) [(vs.getD 0 (.int (0 : Int32))), (vs.getD 1 (.int (0 : Int32))), (vs.getD 2 (.int (0 : Int32))), (vs.getD 3 (.int (0 : Int32)))] (.int (0 : Int32)) := V245
  have Z245 : n0 ≤ h245.size := (Nat.le_trans Z242 K245q.1)
  have K245 : Keep h0 h245 [] := K242.trans K245q (allS (Or.inr lo242) all0)
  refine own_go (fun t k => XS.aload X245.here hx rfl (hb hby d_j65_133_30) rfl rfl k) ?_
  show own_Go _ _ _ _ (T245.setTop (mkF m 32 #[.val (.ref ub), .val (.int (0 : Int32)), .val (.int (4 : Int32)), .val (.int (4 : Int32)), .val (.ref b242)] [(.ref b242)]))
  refine own_ret X245 hx hlk hret rfl (Or.inr (Or.inr (Or.inr (Or.inr ⟨rfl, rfl, rfl⟩)))) (hb hby d_j65_133_32) ?_ (by decide) (by decide)
  rw [e245]
  exact ⟨b242, k242, rfl, N245, K245, lo242, q242, V245⟩
def Q_cor_4 (Z : State) (ub : Addr) (kb : ClassId) (nv : Int32) (vs : List Value) (h0 : Heap) (n0 : Nat) (v : Option Value) (h : Heap) (L : List Loc) : Prop := ∃ (uy : Addr) (ky : ClassId), v = some (.ref uy) ∧ Fr n0 L ∧ Keep h0 h [] ∧ h0.size ≤ uy ∧ n0 ≤ uy ∧ Arv Z h uy ky .byte (4 : Int32) [(vs.getD 0 (.int (0 : Int32))), (vs.getD 1 (.int (0 : Int32))), (vs.getD 2 (.int (0 : Int32))), (vs.getD 3 (.int (0 : Int32)))] (.int (0 : Int32))
theorem ef_cor_4 (m : MethodId) (ub : Addr) : entryFrame m #[(.ref ub), (.int (0 : Int32)), (.int (4 : Int32))] 3 = mkF m 0 #[.val (.ref ub), .val (.int (0 : Int32)), .val (.int (4 : Int32))] [] := by first | (simp [entryFrame, mkF, argsToLocals, Value.category]; done) | rfl
set_option maxRecDepth 65536 in
set_option maxHeartbeats 40000000 in
theorem rm_cor_4 (l : Launch) (Z : State) (a0 : Array Value) (hw : ∀ d ∈ tables_1, d.before a0 Z = true) (ws : List Jvm.Cond) (ub : Addr) (kb : ClassId) (nv : Int32) (vs : List Value) (h0 : Heap) (n0 : Nat) (Z0 : n0 ≤ h0.size) (A0 : Arv Z h0 ub kb .byte nv vs (.int (0 : Int32))) (hm : (4 : Int32) < nv - (0 : Int32)) (h4_ : (0 : Int32).toNatClampNeg + (4 : Int32).toNatClampNeg ≤ nv.toNatClampNeg) (hne : ¬ (4 : Int32) = nv) :
    own_Met l Z (⟨"java/util/Arrays", "copyOfRange", "([BII)[B"⟩ : MethodName) jdk_65_method_132_code 3 (some (.array .byte)) ws ({ frames := 2, cells := 1, slots := 4, locals := 34 } : Room) #[(.ref ub), (.int (0 : Int32)), (.int (4 : Int32))] h0 (Q_cor_4 Z ub kb nv vs h0 n0) := by
  refine own_enter (own := "java/util/Arrays") (plainFor_of_name pn_4) rfl ?_
  intro p e s m below meth c s₁ hlk hret hx hby hml hown hnm hZ X0 e0
  have N0 := Fr.nil n0
  refine own_cast (ef_cor_4 m ub) ?_
  show own_Go _ _ _ _ (s₁.setTop (mkF m 0 #[.val (.ref ub), .val (.int (0 : Int32)), .val (.int (4 : Int32))] []))
  refine own_go (fun t k => XS.iloadN X0.here hx rfl (hb hby d_j65_132_0) rfl k) ?_
  show own_Go _ _ _ _ (s₁.setTop (mkF m 1 #[.val (.ref ub), .val (.int (0 : Int32)), .val (.int (4 : Int32))] [(.int (0 : Int32))]))
  refine own_go (fun t k => XS.ifNo X0.here hx rfl (hb hby d_j65_132_1) rfl ((if0 _ _).trans (teq (by decide : (0 : Int32) = (0 : Int32))).2) k) ?_
  refine own_go (fun t k => XS.iloadN X0.here hx rfl (hb hby d_j65_132_4) rfl k) ?_
  refine own_go (fun t k => XS.aloadN X0.here hx rfl (hb hby d_j65_132_5) rfl rfl k) ?_
  show own_Go _ _ _ _ (s₁.setTop (mkF m 6 #[.val (.ref ub), .val (.int (0 : Int32)), .val (.int (4 : Int32))] [(.ref ub), (.int (4 : Int32))]))
  obtain ⟨cl246, Ar246, qk246, sz246, nn246, ha246, gf246⟩ := id A0
  refine own_go (X0.arraylength hx (by rw [e0]; exact Ar246.1) (State.isArrayOf_alike hZ.alike Ar246.2.1) (g := (mkF m 6 #[.val (.ref ub), .val (.int (0 : Int32)), .val (.int (4 : Int32))] [(.ref ub), (.int (4 : Int32))])) rfl rfl (hb hby d_j65_132_6)) ?_
  rw [len_of sz246 nn246]
  show own_Go _ _ _ _ (s₁.setTop (mkF m 7 #[.val (.ref ub), .val (.int (0 : Int32)), .val (.int (4 : Int32))] [(.int nv), (.int (4 : Int32))]))
  refine own_go (fun t k => XS.icmpNo X0.here hx rfl (hb hby d_j65_132_7) rfl (feq hne).1 k) ?_
  refine own_go (fun t k => XS.aloadN X0.here hx rfl (hb hby d_j65_132_10) rfl rfl k) ?_
  refine own_go (fun t k => XS.iloadN X0.here hx rfl (hb hby d_j65_132_11) rfl k) ?_
  refine own_go (fun t k => XS.iloadN X0.here hx rfl (hb hby d_j65_132_12) rfl k) ?_
  obtain ⟨_, _, ⟨T247, L247, k247, n247⟩, -, X247, ⟨Lc247, hQ247, l247, y247, z247⟩, st247⟩ := Jvm.LawKit.callS X0 hx (y := (⟨"java/util/Arrays", "copyOfRangeByte", "([BII)[B"⟩ : MethodName)) hown (mvT hZ (w_129 hw)) (mvT hZ (w_130 hw)) (mvT hZ (w_127 hw)) (mvT hZ (w_131 hw)) (by decide) (backOf (W := 0) (rm_crb_4 l Z a0 hw [] ub kb nv vs h0 n0 Z0 A0 hm h4_ hne) hZ (w_131 hw) (w_127 hw) (by decide) (by decide)) (g := (mkF m 13 #[.val (.ref ub), .val (.int (0 : Int32)), .val (.int (4 : Int32))] [(.int (4 : Int32)), (.int (0 : Int32)), (.ref ub)])) rfl (by rw [hml]; rfl) (argsL := [(.ref ub), (.int (0 : Int32)), (.int (4 : Int32))]) (rest := []) (lenOf pd_7 rfl) rfl (by show 2 * 0 + _ ≤ _; exact Nat.le_of_eq rfl) (hb hby d_j65_132_13) (fun _ _ => ⟨rfl, e0, (by decide : 0 + 1 ≤ _), (by decide : 0 + 4 ≤ _)⟩)
  dsimp only [Pt.U, Pt.locs, Pt.cells, Pt.slots] at X247 l247 y247 z247 st247 hQ247
  subst l247 y247 z247
  generalize e247 : T247.heap = h247 at hQ247
  obtain ⟨uy247, ky247, rfl, N247q, K247q, lo247, q247, A247⟩ := hQ247
  have N247 := Fr.app N0 N247q
  refine own_go st247 ?_
  have Z247 : n0 ≤ h247.size := (Nat.le_trans Z0 K247q.1)
  have K247 : Keep h0 h247 [] := (Keep.refl h0 []).trans K247q all0
  have hi247 := A247.lt
  show own_Go _ _ _ _ (T247.setTop (mkF m 16 #[.val (.ref ub), .val (.int (0 : Int32)), .val (.int (4 : Int32))] [(.ref uy247)]))
  refine own_ret X247 hx hlk hret rfl (Or.inr (Or.inr (Or.inr (Or.inr ⟨rfl, rfl, rfl⟩)))) (hb hby d_j65_132_16) ?_ (by decide) (by decide)
  rw [e247]
  exact ⟨uy247, ky247, rfl, N247, K247, lo247, q247, A247⟩
def Q_nst_4 (Z : State) (ub : Addr) (kb : ClassId) (nv : Int32) (vs : List Value) (h0 : Heap) (n0 : Nat) (v : Option Value) (h : Heap) (L : List Loc) : Prop := ∃ (ux uy : Addr) (ky : ClassId), v = some (.ref ux) ∧ Fr n0 L ∧ Keep h0 h [] ∧ h0.size ≤ ux ∧ n0 ≤ ux ∧ h0.size ≤ uy ∧ n0 ≤ uy ∧ Exa Z h ux "java/lang/String" ∧ Fld Z h ux "java/lang/String" "coder" "B" (.int (0 : Int32)) ∧ Fld Z h ux "java/lang/String" "value" "[B" (.ref uy) ∧ Arv Z h uy ky .byte (4 : Int32) [(vs.getD 0 (.int (0 : Int32))), (vs.getD 1 (.int (0 : Int32))), (vs.getD 2 (.int (0 : Int32))), (vs.getD 3 (.int (0 : Int32)))] (.int (0 : Int32))
theorem ef_nst_4 (m : MethodId) (ub : Addr) : entryFrame m #[(.ref ub), (.int (0 : Int32)), (.int (4 : Int32))] 3 = mkF m 0 #[.val (.ref ub), .val (.int (0 : Int32)), .val (.int (4 : Int32))] [] := by first | (simp [entryFrame, mkF, argsToLocals, Value.category]; done) | rfl
set_option maxRecDepth 65536 in
set_option maxHeartbeats 40000000 in
theorem rm_nst_4 (l : Launch) (Z : State) (a0 : Array Value) (hw : ∀ d ∈ tables_1, d.before a0 Z = true) (ws : List Jvm.Cond) (ub : Addr) (kb : ClassId) (nv : Int32) (vs : List Value) (h0 : Heap) (n0 : Nat) (Z0 : n0 ≤ h0.size) (A0 : Arv Z h0 ub kb .byte nv vs (.int (0 : Int32))) (hm : (4 : Int32) < nv - (0 : Int32)) (h4_ : (0 : Int32).toNatClampNeg + (4 : Int32).toNatClampNeg ≤ nv.toNatClampNeg) (hne : ¬ (4 : Int32) = nv) :
    own_Met l Z (⟨"java/lang/StringLatin1", "newString", "([BII)Ljava/lang/String;"⟩ : MethodName) jdk_43_method_47_code 3 (some (.object "java/lang/String")) ws ({ frames := 3, cells := 2, slots := 8, locals := 50 } : Room) #[(.ref ub), (.int (0 : Int32)), (.int (4 : Int32))] h0 (Q_nst_4 Z ub kb nv vs h0 n0) := by
  refine own_enter (own := "java/lang/StringLatin1") (plainFor_of_name pn_1) rfl ?_
  intro p e s m below meth c s₁ hlk hret hx hby hml hown hnm hZ X0 e0
  have N0 := Fr.nil n0
  refine own_cast (ef_nst_4 m ub) ?_
  show own_Go _ _ _ _ (s₁.setTop (mkF m 0 #[.val (.ref ub), .val (.int (0 : Int32)), .val (.int (4 : Int32))] []))
  refine own_go (fun t k => XS.iloadN X0.here hx rfl (hb hby d_j43_47_0) rfl k) ?_
  show own_Go _ _ _ _ (s₁.setTop (mkF m 1 #[.val (.ref ub), .val (.int (0 : Int32)), .val (.int (4 : Int32))] [(.int (4 : Int32))]))
  refine own_go (fun t k => XS.ifYes X0.here hx rfl (pc0 := 1) (pc' := 7) rfl (hb hby d_j43_47_1) rfl ((if0 _ _).trans (feq (by decide : ¬ ((4 : Int32) = (0 : Int32)))).2) (by decide) (by decide) k) ?_
  show own_Go _ _ _ _ (s₁.setTop (mkF m 7 #[.val (.ref ub), .val (.int (0 : Int32)), .val (.int (4 : Int32))] []))
  obtain ⟨T248, h248, X248, e248, E248, A248, D248, -, st248⟩ := newO X0 hx hZ hown (w_124 hw) (w_6 hw) (w_7 hw) e0 (g := (mkF m 7 #[.val (.ref ub), .val (.int (0 : Int32)), .val (.int (4 : Int32))] [])) rfl (hb hby d_j43_47_7) (by decide) (by decide)
  obtain ⟨b248, g248⟩ : ∃ z, z = h0.size := ⟨_, rfl⟩
  rw [← g248] at A248 D248 st248
  refine own_go st248 ?_
  have Z248 : n0 ≤ h248.size := (Nat.le_trans Z0 E248.1)
  have K248 : Keep h0 h248 [] := (Keep.refl h0 []).ext E248
  have lo248 : h0.size ≤ b248 := Nat.le_of_eq g248.symm
  have q248 : n0 ≤ b248 := Nat.le_trans Z0 lo248
  have hi248 : b248 < h248.size := A248.lt
  have F248_35 : Fld Z h248 b248 "java/lang/String" "coder" "B" (.int (0 : Int32)) := D248 (Or.inr (w_35 hw)) (ty := .byte) (by decide)
  have F248_37 : Fld Z h248 b248 "java/lang/String" "value" "[B" .null := D248 (Or.inr (w_37 hw)) (ty := (.array .byte)) (by decide)
  refine own_go (fun t k => XS.dup X248.here hx rfl (hb hby d_j43_47_10) rfl rfl k) ?_
  refine own_go (fun t k => XS.aloadN X248.here hx rfl (hb hby d_j43_47_11) rfl rfl k) ?_
  refine own_go (fun t k => XS.iloadN X248.here hx rfl (hb hby d_j43_47_12) rfl k) ?_
  refine own_go (fun t k => XS.iloadN X248.here hx rfl (hb hby d_j43_47_13) rfl k) ?_
  refine own_go (fun t k => XS.iloadN X248.here hx rfl (hb hby d_j43_47_14) rfl k) ?_
  refine own_go (fun t k => XS.iadd X248.here hx rfl (hb hby d_j43_47_15) rfl k) ?_
  show own_Go _ _ _ _ (T248.setTop (mkF m 16 #[.val (.ref ub), .val (.int (0 : Int32)), .val (.int (4 : Int32))] [(.int (4 : Int32)), (.int (0 : Int32)), (.ref ub), (.ref b248), (.ref b248)]))
  obtain ⟨_, _, ⟨T249, L249, k249, n249⟩, -, X249, ⟨Lc249, hQ249, l249, y249, z249⟩, st249⟩ := Jvm.LawKit.callS X248 hx (y := (⟨"java/util/Arrays", "copyOfRange", "([BII)[B"⟩ : MethodName)) hown (mvT hZ (w_125 hw)) (mvT hZ (w_126 hw)) (mvT hZ (w_127 hw)) (mvT hZ (w_128 hw)) (by decide) (backOf (W := 2) (rm_cor_4 l Z a0 hw [] ub kb nv vs h248 n0 Z248 (A0.ext E248) hm h4_ hne) hZ (w_128 hw) (w_127 hw) (by decide) (by decide)) (g := (mkF m 16 #[.val (.ref ub), .val (.int (0 : Int32)), .val (.int (4 : Int32))] [(.int (4 : Int32)), (.int (0 : Int32)), (.ref ub), (.ref b248), (.ref b248)])) rfl (by rw [hml]; rfl) (argsL := [(.ref ub), (.int (0 : Int32)), (.int (4 : Int32))]) (rest := [(.ref b248), (.ref b248)]) (lenOf pd_7 rfl) rfl (by show 2 * 0 + _ ≤ _; exact Nat.le_of_eq rfl) (hb hby d_j43_47_16) (fun _ _ => ⟨rfl, e248, (by decide : 1 + 1 ≤ _), (by decide : 4 + 4 ≤ _)⟩)
  dsimp only [Pt.U, Pt.locs, Pt.cells, Pt.slots] at X249 l249 y249 z249 st249 hQ249
  subst l249 y249 z249
  generalize e249 : T249.heap = h249 at hQ249
  obtain ⟨uy249, ky249, rfl, N249q, K249q, lo249, q249, A249⟩ := hQ249
  have N249 := Fr.app N0 N249q
  refine own_go st249 ?_
  have Z249 : n0 ≤ h249.size := (Nat.le_trans Z248 K249q.1)
  have K249 : Keep h0 h249 [] := K248.trans K249q all0
  have hi249 := A249.lt
  refine own_go (fun t k => XS.iconst X249.here hx rfl (hb hby d_j43_47_19) k) ?_
  obtain ⟨_, _, ⟨T250, L250, k250, n250⟩, -, X250, ⟨Lc250, hQ250, l250, y250, z250⟩, st250⟩ := X249.specialBack hx (y := (⟨"java/lang/String", "<init>", "([BB)V"⟩ : MethodName)) rfl hown (mvT hZ (w_140 hw)) (mvT hZ (w_141 hw)) (mvT hZ (w_142 hw)) (by decide) (backOf (W := 1) (rm_sbb l Z a0 hw [] b248 uy249 h249 n0 Z249 q248 (A248.keep K249q) (F248_37.keep K249q nin0) (F248_35.keep K249q nin0)) hZ (w_142 hw) (w_7 hw) (by decide) (by decide)) (g := (mkF m 20 #[.val (.ref ub), .val (.int (0 : Int32)), .val (.int (4 : Int32))] [(.int (0 : Int32)), (.ref uy249), (.ref b248), (.ref b248)])) rfl (by rw [hml]; rfl) (Steps.refl _) (a := b248) (argsL := [(.ref uy249), (.int (0 : Int32))]) (rest := [(.ref b248)]) (lenOf pd_8 rfl) rfl (by show 2 * 0 + _ ≤ _; exact Nat.le_of_eq rfl) (hb hby d_j43_47_20) (fun _ _ => ⟨rfl, e249, (by decide : 2 + 0 ≤ _), (by decide : 8 + 0 ≤ _)⟩)
  dsimp only [Pt.U, Pt.locs, Pt.cells, Pt.slots] at X250 l250 y250 z250 st250 hQ250
  subst l250 y250 z250
  generalize e250 : T250.heap = h250 at hQ250
  obtain ⟨rfl, N250q, K250q, Fc250, Fv250⟩ := hQ250
  have N250 := Fr.app N249 N250q
  refine own_go (fun t k => st250.trans k) ?_
  have Z250 : n0 ≤ h250.size := (Nat.le_trans Z249 K250q.1)
  have K250 : Keep h0 h250 [] := K249.trans K250q (allS (Or.inr lo248) all0)
  have f251 := (A249.keep K250q (ninS (Ne.symm (Nat.ne_of_lt (Nat.lt_of_lt_of_le hi248 lo249))) nin0))
  show own_Go _ _ _ _ (T250.setTop (mkF m 23 #[.val (.ref ub), .val (.int (0 : Int32)), .val (.int (4 : Int32))] [(.ref b248)]))
  refine own_ret X250 hx hlk hret rfl (Or.inr (Or.inr (Or.inr (Or.inr ⟨rfl, rfl, rfl⟩)))) (hb hby d_j43_47_23) ?_ (by decide) (by decide)
  rw [e250]
  exact ⟨b248, uy249, ky249, rfl, N250, K250, lo248, q248, (Nat.le_trans E248.1 lo249), q249, ((A248.keep K249q).keep K250q), Fc250, Fv250, f251⟩
def Q_sub_1 (Z : State) (us : Addr) (ub : Addr) (kb : ClassId) (cs : List Int32) (zv : Int32) (gv : Value) (h0 : Heap) (n0 : Nat) (v : Option Value) (h : Heap) (L : List Loc) : Prop := ∃ (ux uy : Addr) (ky : ClassId), v = some (.ref ux) ∧ Fr n0 L ∧ Keep h0 h [] ∧ h0.size ≤ ux ∧ n0 ≤ ux ∧ h0.size ≤ uy ∧ n0 ≤ uy ∧ Exa Z h ux "java/lang/String" ∧ Fld Z h ux "java/lang/String" "coder" "B" (.int (0 : Int32)) ∧ Fld Z h ux "java/lang/String" "value" "[B" (.ref uy) ∧ Arv Z h uy ky .byte (1 : Int32) [(((cs.map (fun c => c.toInt8.toInt32)).map Value.int).getD 0 (.int (0 : Int32)))] (.int (0 : Int32))
theorem ef_sub_1 (m : MethodId) (us : Addr) : entryFrame m #[(.ref us), (.int (0 : Int32)), (.int (1 : Int32))] 5 = mkF m 0 #[.val (.ref us), .val (.int (0 : Int32)), .val (.int (1 : Int32)), .unset, .unset] [] := by first | (simp [entryFrame, mkF, argsToLocals, Value.category]; done) | rfl
theorem d_j42_92_0 : decode jdk_42_method_92_code 0 = .ok (.aload_n 0, 1) := by decide +kernel
theorem d_j42_92_1 : decode jdk_42_method_92_code 1 = .ok (.invokevirtual 505, 3) := by decide +kernel
theorem d_j42_92_4 : decode jdk_42_method_92_code 4 = .ok (.istore_n 3, 1) := by decide +kernel
theorem d_j42_92_5 : decode jdk_42_method_92_code 5 = .ok (.iload_n 1, 1) := by decide +kernel
theorem d_j42_92_6 : decode jdk_42_method_92_code 6 = .ok (.iload_n 2, 1) := by decide +kernel
theorem d_j42_92_7 : decode jdk_42_method_92_code 7 = .ok (.iload_n 3, 1) := by decide +kernel
theorem w_115 {Z : State} {a0 : Array Value} (hw : ∀ d ∈ tables_1, d.before a0 Z = true) : (Jvm.Cond.methodLink "java/lang/String" (521 : Nat) ({ cls := "java/lang/String", name := "checkBoundsBeginEnd", desc := "(III)V" } : Jvm.MethodName)).before a0 Z = true := hw _ (List.mem_of_getElem? (i := 115) rfl)
theorem w_117 {Z : State} {a0 : Array Value} (hw : ∀ d ∈ tables_1, d.before a0 Z = true) : (Jvm.Cond.code ({ cls := "java/lang/String", name := "checkBoundsBeginEnd", desc := "(III)V" } : Jvm.MethodName) jdk_42_method_158_code (3 : Nat) (Option.none : Option Jvm.ClassFile.FieldType)).before a0 Z = true := hw _ (List.mem_of_getElem? (i := 117) rfl)
theorem pd_9 : parseMethodDescriptor "(III)V" = some ⟨[.int, .int, .int], none⟩ := by decide +kernel
theorem d_j42_92_8 : decode jdk_42_method_92_code 8 = .ok (.invokestatic 521, 3) := by decide +kernel
theorem w_116 {Z : State} {a0 : Array Value} (hw : ∀ d ∈ tables_1, d.before a0 Z = true) : (Jvm.Cond.static ({ cls := "java/lang/String", name := "checkBoundsBeginEnd", desc := "(III)V" } : Jvm.MethodName)).before a0 Z = true := hw _ (List.mem_of_getElem? (i := 116) rfl)
theorem d_j42_92_11 : decode jdk_42_method_92_code 11 = .ok (.iload_n 1, 1) := by decide +kernel
theorem d_j42_92_12 : decode jdk_42_method_92_code 12 = .ok (.ifCond .ne 10, 3) := by decide +kernel
theorem d_j42_92_15 : decode jdk_42_method_92_code 15 = .ok (.iload_n 2, 1) := by decide +kernel
theorem d_j42_92_16 : decode jdk_42_method_92_code 16 = .ok (.iload_n 3, 1) := by decide +kernel
theorem d_j42_92_17 : decode jdk_42_method_92_code 17 = .ok (.if_icmp .ne 5, 3) := by decide +kernel
theorem d_j42_92_22 : decode jdk_42_method_92_code 22 = .ok (.iload_n 2, 1) := by decide +kernel
theorem d_j42_92_23 : decode jdk_42_method_92_code 23 = .ok (.iload_n 1, 1) := by decide +kernel
theorem d_j42_92_24 : decode jdk_42_method_92_code 24 = .ok (.isub, 1) := by decide +kernel
theorem d_j42_92_25 : decode jdk_42_method_92_code 25 = .ok (.istore 4, 2) := by decide +kernel
theorem d_j42_92_27 : decode jdk_42_method_92_code 27 = .ok (.aload_n 0, 1) := by decide +kernel
theorem d_j42_92_28 : decode jdk_42_method_92_code 28 = .ok (.invokevirtual 492, 3) := by decide +kernel
theorem d_j42_92_31 : decode jdk_42_method_92_code 31 = .ok (.ifCond .eq 16, 3) := by decide +kernel
theorem d_j42_92_34 : decode jdk_42_method_92_code 34 = .ok (.aload_n 0, 1) := by decide +kernel
theorem d_j42_92_35 : decode jdk_42_method_92_code 35 = .ok (.getfield 9, 3) := by decide +kernel
theorem d_j42_92_38 : decode jdk_42_method_92_code 38 = .ok (.iload_n 1, 1) := by decide +kernel
theorem d_j42_92_39 : decode jdk_42_method_92_code 39 = .ok (.iload 4, 2) := by decide +kernel
theorem w_121 {Z : State} {a0 : Array Value} (hw : ∀ d ∈ tables_1, d.before a0 Z = true) : (Jvm.Cond.methodLink "java/lang/String" (685 : Nat) ({ cls := "java/lang/StringLatin1", name := "newString", desc := "([BII)Ljava/lang/String;" } : Jvm.MethodName)).before a0 Z = true := hw _ (List.mem_of_getElem? (i := 121) rfl)
theorem w_123 {Z : State} {a0 : Array Value} (hw : ∀ d ∈ tables_1, d.before a0 Z = true) : (Jvm.Cond.code ({ cls := "java/lang/StringLatin1", name := "newString", desc := "([BII)Ljava/lang/String;" } : Jvm.MethodName) jdk_43_method_47_code (3 : Nat) (Option.some (Jvm.ClassFile.FieldType.object "java/lang/String"))).before a0 Z = true := hw _ (List.mem_of_getElem? (i := 123) rfl)
theorem pd_10 : parseMethodDescriptor "([BII)Ljava/lang/String;" = some ⟨[(.array .byte), .int, .int], some (.object "java/lang/String")⟩ := by decide +kernel
theorem d_j42_92_41 : decode jdk_42_method_92_code 41 = .ok (.invokestatic 685, 3) := by decide +kernel
theorem w_122 {Z : State} {a0 : Array Value} (hw : ∀ d ∈ tables_1, d.before a0 Z = true) : (Jvm.Cond.static ({ cls := "java/lang/StringLatin1", name := "newString", desc := "([BII)Ljava/lang/String;" } : Jvm.MethodName)).before a0 Z = true := hw _ (List.mem_of_getElem? (i := 122) rfl)
theorem d_j42_92_44 : decode jdk_42_method_92_code 44 = .ok (.goto 13, 3) := by decide +kernel
theorem d_j42_92_57 : decode jdk_42_method_92_code 57 = .ok (.areturn, 1) := by decide +kernel
set_option maxRecDepth 65536 in
set_option maxHeartbeats 40000000 in
theorem rm_sub_1 (l : Launch) (Z : State) (a0 : Array Value) (hw : ∀ d ∈ tables_1, d.before a0 Z = true) (ws : List Jvm.Cond) (us ub : Addr) (kb : ClassId) (cs : List Int32) (zv : Int32) (gv : Value) (h0 : Heap) (n0 : Nat) (Z0 : n0 ≤ h0.size) (E0 : Exa Z h0 us "java/lang/String") (Cc0 : Fld Z h0 us "java/lang/String" "coder" "B" (.int (0 : Int32))) (V0 : Fld Z h0 us "java/lang/String" "value" "[B" (.ref ub)) (A0 : Arv Z h0 ub kb .byte (Int32.ofNat cs.length) ((cs.map (fun c => c.toInt8.toInt32)).map Value.int) (.int (0 : Int32))) (hB : ∀ c ∈ cs, own_B c) (l4 : cs.length ≤ 4000) (hm : (1 : Int32) < (Int32.ofNat cs.length) - (0 : Int32)) (h4_ : (0 : Int32).toNatClampNeg + (1 : Int32).toNatClampNeg ≤ (Int32.ofNat cs.length).toNatClampNeg) (hne : ¬ (1 : Int32) = (Int32.ofNat cs.length)) (hin : ¬ (Int32.ofNat cs.length) < (1 : Int32)) (O0 : Old Z n0 h0) (hzv : ¬ zv = (0 : Int32)) (S0 : Sta Z Z.heap "java/lang/String" "COMPACT_STRINGS" "Z" (.int zv)) (rgv : gv.isRef = true) (G0 : Sta Z Z.heap "jdk/internal/util/Preconditions" "SIOOBE_FORMATTER" "Ljava/util/function/BiFunction;" gv) :
    own_Met l Z (⟨"java/lang/String", "substring", "(II)Ljava/lang/String;"⟩ : MethodName) jdk_42_method_92_code 5 (some (.object "java/lang/String")) ws ({ frames := 4, cells := 2, slots := 5, locals := 64 } : Room) #[(.ref us), (.int (0 : Int32)), (.int (1 : Int32))] h0 (Q_sub_1 Z us ub kb cs zv gv h0 n0) := by
  refine own_enter (own := "java/lang/String") (plainFor_of_name pn_2) rfl ?_
  intro p e s m below meth c s₁ hlk hret hx hby hml hown hnm hZ X0 e0
  have N0 := Fr.nil n0
  refine own_cast (ef_sub_1 m us) ?_
  show own_Go _ _ _ _ (s₁.setTop (mkF m 0 #[.val (.ref us), .val (.int (0 : Int32)), .val (.int (1 : Int32)), .unset, .unset] []))
  refine own_go (fun t k => XS.aloadN X0.here hx rfl (hb hby d_j42_92_0) rfl rfl k) ?_
  have hD252 := StrChars.Road.codOf (cs := cs) rfl (fun x hx => (hB x hx).2)
  have hU252 := own_up _ hB
  obtain ⟨cq253, kq253, q253a, q253b, q253c⟩ := isOf hZ e0 E0
  obtain ⟨_, _, ⟨T253, L253, k253, n253⟩, -, X253, ⟨Lc253, hQ253, l253, y253, z253⟩, st253⟩ := X0.virtualBack hx (y := (⟨"java/lang/String", "length", "()I"⟩ : MethodName)) (z := (⟨"java/lang/String", "length", "()I"⟩ : MethodName)) hown (mvT hZ (w_60 hw)) (mvT hZ (w_61 hw)) (notFace_of_selects (args := #[]) (mvT hZ (w_63 hw))) (mvT hZ (w_63 hw)) (mvT hZ (w_62 hw)) (by decide) (StrChars.Road.lenW (W := 0) hZ (own_wlen hw) (kI := 4) (w_6 hw) (cs := cs) E0 V0 Cc0 A0 hD252 hU252 (S0.ext O0.2) hzv l4 (by decide) (by decide)) q253a q253c (g := (mkF m 1 #[.val (.ref us), .val (.int (0 : Int32)), .val (.int (1 : Int32)), .unset, .unset] [(.ref us)])) rfl (by rw [hml]; rfl) (Steps.refl _) (argsL := []) (rest := []) (lenOf pd_4 rfl) rfl (by show 2 * 0 + _ ≤ _; exact Nat.le_of_eq rfl) (hb hby d_j42_92_1) (fun _ _ => ⟨rfl, e0, (by decide : 0 + 0 ≤ _), (by decide : 0 + 0 ≤ _)⟩)
  dsimp only [Pt.U, Pt.locs, Pt.cells, Pt.slots] at X253 l253 y253 z253 st253 hQ253
  subst l253 y253 z253
  obtain ⟨rfl, rfl, e253⟩ := hQ253
  have N253q : Fr n0 ([] : List Loc) := Fr.nil n0
  have N253 := Fr.app N0 N253q
  refine own_go (fun t k => st253.trans k) ?_
  show own_Go _ _ _ _ (T253.setTop (mkF m 4 #[.val (.ref us), .val (.int (0 : Int32)), .val (.int (1 : Int32)), .unset, .unset] [(.int (Int32.ofNat cs.length))]))
  refine own_go (fun t k => XS.istoreN X253.here hx rfl (hb hby d_j42_92_4) rfl (l' := #[.val (.ref us), .val (.int (0 : Int32)), .val (.int (1 : Int32)), .val (.int (Int32.ofNat cs.length)), .unset]) rfl k) ?_
  refine own_go (fun t k => XS.iloadN X253.here hx rfl (hb hby d_j42_92_5) rfl k) ?_
  refine own_go (fun t k => XS.iloadN X253.here hx rfl (hb hby d_j42_92_6) rfl k) ?_
  refine own_go (fun t k => XS.iloadN X253.here hx rfl (hb hby d_j42_92_7) rfl k) ?_
  obtain ⟨_, _, ⟨T254, L254, k254, n254⟩, -, X254, ⟨Lc254, hQ254, l254, y254, z254⟩, st254⟩ := Jvm.LawKit.callS X253 hx (y := (⟨"java/lang/String", "checkBoundsBeginEnd", "(III)V"⟩ : MethodName)) hown (mvT hZ (w_115 hw)) (mvT hZ (w_116 hw)) (mvT hZ (w_7 hw)) (mvT hZ (w_117 hw)) (by decide) (backOf (W := 0) (rm_cbb l Z a0 hw [] (1 : Int32) (Int32.ofNat cs.length) zv gv h0 n0 Z0 (by decide) hin O0 hzv S0 rgv G0) hZ (w_117 hw) (w_7 hw) (by decide) (by decide)) (g := (mkF m 8 #[.val (.ref us), .val (.int (0 : Int32)), .val (.int (1 : Int32)), .val (.int (Int32.ofNat cs.length)), .unset] [(.int (Int32.ofNat cs.length)), (.int (1 : Int32)), (.int (0 : Int32))])) rfl (by rw [hml]; rfl) (argsL := [(.int (0 : Int32)), (.int (1 : Int32)), (.int (Int32.ofNat cs.length))]) (rest := []) (lenOf pd_9 rfl) rfl (by show 2 * 0 + _ ≤ _; exact Nat.le_of_eq rfl) (hb hby d_j42_92_8) (fun _ _ => ⟨rfl, e253, (by decide : 0 + 0 ≤ _), (by decide : 0 + 0 ≤ _)⟩)
  dsimp only [Pt.U, Pt.locs, Pt.cells, Pt.slots] at X254 l254 y254 z254 st254 hQ254
  subst l254 y254 z254
  obtain ⟨rfl, N254q, e254⟩ := hQ254
  have N254 := Fr.app N253 N254q
  refine own_go st254 ?_
  refine own_go (fun t k => XS.iloadN X254.here hx rfl (hb hby d_j42_92_11) rfl k) ?_
  show own_Go _ _ _ _ (T254.setTop (mkF m 12 #[.val (.ref us), .val (.int (0 : Int32)), .val (.int (1 : Int32)), .val (.int (Int32.ofNat cs.length)), .unset] [(.int (0 : Int32))]))
  refine own_go (fun t k => XS.ifNo X254.here hx rfl (hb hby d_j42_92_12) rfl ((if0 _ _).trans (teq (by decide : (0 : Int32) = (0 : Int32))).2) k) ?_
  refine own_go (fun t k => XS.iloadN X254.here hx rfl (hb hby d_j42_92_15) rfl k) ?_
  refine own_go (fun t k => XS.iloadN X254.here hx rfl (hb hby d_j42_92_16) rfl k) ?_
  show own_Go _ _ _ _ (T254.setTop (mkF m 17 #[.val (.ref us), .val (.int (0 : Int32)), .val (.int (1 : Int32)), .val (.int (Int32.ofNat cs.length)), .unset] [(.int (Int32.ofNat cs.length)), (.int (1 : Int32))]))
  refine own_go (fun t k => XS.icmpYes X254.here hx rfl (pc0 := 17) (pc' := 22) rfl (hb hby d_j42_92_17) rfl (feq hne).2 (by decide) (by decide) k) ?_
  refine own_go (fun t k => XS.iloadN X254.here hx rfl (hb hby d_j42_92_22) rfl k) ?_
  refine own_go (fun t k => XS.iloadN X254.here hx rfl (hb hby d_j42_92_23) rfl k) ?_
  refine own_go (fun t k => XS.isub X254.here hx rfl (hb hby d_j42_92_24) rfl k) ?_
  refine own_go (fun t k => XS.istore X254.here hx rfl (hb hby d_j42_92_25) rfl (l' := #[.val (.ref us), .val (.int (0 : Int32)), .val (.int (1 : Int32)), .val (.int (Int32.ofNat cs.length)), .val (.int (1 : Int32))]) rfl k) ?_
  refine own_go (fun t k => XS.aloadN X254.here hx rfl (hb hby d_j42_92_27) rfl rfl k) ?_
  show own_Go _ _ _ _ (T254.setTop (mkF m 28 #[.val (.ref us), .val (.int (0 : Int32)), .val (.int (1 : Int32)), .val (.int (Int32.ofNat cs.length)), .val (.int (1 : Int32))] [(.ref us)]))
  obtain ⟨cq255, kq255, q255a, q255b, q255c⟩ := isOf hZ e254 E0
  obtain ⟨_, _, ⟨T255, L255, k255, n255⟩, -, X255, ⟨Lc255, hQ255, l255, y255, z255⟩, st255⟩ := X254.virtualBack hx (y := (⟨"java/lang/String", "isLatin1", "()Z"⟩ : MethodName)) (z := (⟨"java/lang/String", "isLatin1", "()Z"⟩ : MethodName)) hown (mvT hZ (w_75 hw)) (mvT hZ (w_76 hw)) (notFace_of_selects (args := #[]) (mvT hZ (w_78 hw))) (mvT hZ (w_78 hw)) (mvT hZ (w_77 hw)) (by decide) (backOf (W := 0) (rm_il1 l Z a0 hw [] us zv gv h0 n0 Z0 O0 hzv S0 rgv G0 Cc0) hZ (w_79 hw) (w_7 hw) (by decide) (by decide)) q255a q255c (g := (mkF m 28 #[.val (.ref us), .val (.int (0 : Int32)), .val (.int (1 : Int32)), .val (.int (Int32.ofNat cs.length)), .val (.int (1 : Int32))] [(.ref us)])) rfl (by rw [hml]; rfl) (Steps.refl _) (argsL := []) (rest := []) (lenOf pd_2 rfl) rfl (by show 2 * 0 + _ ≤ _; exact Nat.le_of_eq rfl) (hb hby d_j42_92_28) (fun _ _ => ⟨rfl, e254, (by decide : 0 + 0 ≤ _), (by decide : 0 + 0 ≤ _)⟩)
  dsimp only [Pt.U, Pt.locs, Pt.cells, Pt.slots] at X255 l255 y255 z255 st255 hQ255
  subst l255 y255 z255
  obtain ⟨rfl, N255q, e255⟩ := hQ255
  have N255 := Fr.app N254 N255q
  refine own_go (fun t k => st255.trans k) ?_
  show own_Go _ _ _ _ (T255.setTop (mkF m 31 #[.val (.ref us), .val (.int (0 : Int32)), .val (.int (1 : Int32)), .val (.int (Int32.ofNat cs.length)), .val (.int (1 : Int32))] [(.int (1 : Int32))]))
  refine own_go (fun t k => XS.ifNo X255.here hx rfl (hb hby d_j42_92_31) rfl ((if0 _ _).trans (feq (by decide : ¬ ((1 : Int32) = (0 : Int32)))).1) k) ?_
  refine own_go (fun t k => XS.aloadN X255.here hx rfl (hb hby d_j42_92_34) rfl rfl k) ?_
  show own_Go _ _ _ _ (T255.setTop (mkF m 35 #[.val (.ref us), .val (.int (0 : Int32)), .val (.int (1 : Int32)), .val (.int (Int32.ofNat cs.length)), .val (.int (1 : Int32))] [(.ref us)]))
  obtain ⟨T256, X256, e256, st256⟩ := getF X255 hx hZ hown (host := "") (Or.inl (w_36 hw)) Via.refl e255 V0 (g := (mkF m 35 #[.val (.ref us), .val (.int (0 : Int32)), .val (.int (1 : Int32)), .val (.int (Int32.ofNat cs.length)), .val (.int (1 : Int32))] [(.ref us)])) rfl rfl (hb hby d_j42_92_35)
  refine own_go st256 ?_
  refine own_go (fun t k => XS.iloadN X256.here hx rfl (hb hby d_j42_92_38) rfl k) ?_
  refine own_go (fun t k => XS.iload X256.here hx rfl (hb hby d_j42_92_39) rfl k) ?_
  obtain ⟨_, _, ⟨T257, L257, k257, n257⟩, -, X257, ⟨Lc257, hQ257, l257, y257, z257⟩, st257⟩ := Jvm.LawKit.callS X256 hx (y := (⟨"java/lang/StringLatin1", "newString", "([BII)Ljava/lang/String;"⟩ : MethodName)) hown (mvT hZ (w_121 hw)) (mvT hZ (w_122 hw)) (mvT hZ (w_53 hw)) (mvT hZ (w_123 hw)) (by decide) (backOf (W := 0) (rm_nst_1 l Z a0 hw [] ub kb (Int32.ofNat cs.length) ((cs.map (fun c => c.toInt8.toInt32)).map Value.int) h0 n0 Z0 A0 hm h4_ hne) hZ (w_123 hw) (w_53 hw) (by decide) (by decide)) (g := (mkF m 41 #[.val (.ref us), .val (.int (0 : Int32)), .val (.int (1 : Int32)), .val (.int (Int32.ofNat cs.length)), .val (.int (1 : Int32))] [(.int (1 : Int32)), (.int (0 : Int32)), (.ref ub)])) rfl (by rw [hml]; rfl) (argsL := [(.ref ub), (.int (0 : Int32)), (.int (1 : Int32))]) (rest := []) (lenOf pd_10 rfl) rfl (by show 2 * 0 + _ ≤ _; exact Nat.le_of_eq rfl) (hb hby d_j42_92_41) (fun _ _ => ⟨rfl, e256, (by decide : 0 + 2 ≤ _), (by decide : 0 + 5 ≤ _)⟩)
  dsimp only [Pt.U, Pt.locs, Pt.cells, Pt.slots] at X257 l257 y257 z257 st257 hQ257
  subst l257 y257 z257
  generalize e257 : T257.heap = h257 at hQ257
  obtain ⟨ux257, uy257, ky257, rfl, N257q, K257q, lo257, q257, ly257, qy257, E257, Cd257, V257, A257⟩ := hQ257
  have N257 := Fr.app N255 N257q
  refine own_go st257 ?_
  have Z257 : n0 ≤ h257.size := (Nat.le_trans Z0 K257q.1)
  have K257 : Keep h0 h257 [] := (Keep.refl h0 []).trans K257q all0
  have hi257 := E257.lt
  have hy257 := A257.lt
  refine own_go (fun t k => XS.goto X257.here hx rfl (pc0 := 44) (pc' := 57) rfl (hb hby d_j42_92_44) (by decide) (by decide) k) ?_
  show own_Go _ _ _ _ (T257.setTop (mkF m 57 #[.val (.ref us), .val (.int (0 : Int32)), .val (.int (1 : Int32)), .val (.int (Int32.ofNat cs.length)), .val (.int (1 : Int32))] [(.ref ux257)]))
  refine own_ret X257 hx hlk hret rfl (Or.inr (Or.inr (Or.inr (Or.inr ⟨rfl, rfl, rfl⟩)))) (hb hby d_j42_92_57) ?_ (by decide) (by decide)
  rw [e257]
  exact ⟨ux257, uy257, ky257, rfl, N257, K257, lo257, q257, ly257, qy257, E257, Cd257, V257, A257⟩
def Q_sub_2 (Z : State) (us : Addr) (ub : Addr) (kb : ClassId) (cs : List Int32) (zv : Int32) (gv : Value) (h0 : Heap) (n0 : Nat) (v : Option Value) (h : Heap) (L : List Loc) : Prop := ∃ (ux uy : Addr) (ky : ClassId), v = some (.ref ux) ∧ Fr n0 L ∧ Keep h0 h [] ∧ h0.size ≤ ux ∧ n0 ≤ ux ∧ h0.size ≤ uy ∧ n0 ≤ uy ∧ Exa Z h ux "java/lang/String" ∧ Fld Z h ux "java/lang/String" "coder" "B" (.int (0 : Int32)) ∧ Fld Z h ux "java/lang/String" "value" "[B" (.ref uy) ∧ Arv Z h uy ky .byte (2 : Int32) [(((cs.map (fun c => c.toInt8.toInt32)).map Value.int).getD 0 (.int (0 : Int32))), (((cs.map (fun c => c.toInt8.toInt32)).map Value.int).getD 1 (.int (0 : Int32)))] (.int (0 : Int32))
theorem ef_sub_2 (m : MethodId) (us : Addr) : entryFrame m #[(.ref us), (.int (0 : Int32)), (.int (2 : Int32))] 5 = mkF m 0 #[.val (.ref us), .val (.int (0 : Int32)), .val (.int (2 : Int32)), .unset, .unset] [] := by first | (simp [entryFrame, mkF, argsToLocals, Value.category]; done) | rfl
set_option maxRecDepth 65536 in
set_option maxHeartbeats 40000000 in
theorem rm_sub_2 (l : Launch) (Z : State) (a0 : Array Value) (hw : ∀ d ∈ tables_1, d.before a0 Z = true) (ws : List Jvm.Cond) (us ub : Addr) (kb : ClassId) (cs : List Int32) (zv : Int32) (gv : Value) (h0 : Heap) (n0 : Nat) (Z0 : n0 ≤ h0.size) (E0 : Exa Z h0 us "java/lang/String") (Cc0 : Fld Z h0 us "java/lang/String" "coder" "B" (.int (0 : Int32))) (V0 : Fld Z h0 us "java/lang/String" "value" "[B" (.ref ub)) (A0 : Arv Z h0 ub kb .byte (Int32.ofNat cs.length) ((cs.map (fun c => c.toInt8.toInt32)).map Value.int) (.int (0 : Int32))) (hB : ∀ c ∈ cs, own_B c) (l4 : cs.length ≤ 4000) (hm : (2 : Int32) < (Int32.ofNat cs.length) - (0 : Int32)) (h4_ : (0 : Int32).toNatClampNeg + (2 : Int32).toNatClampNeg ≤ (Int32.ofNat cs.length).toNatClampNeg) (hne : ¬ (2 : Int32) = (Int32.ofNat cs.length)) (hin : ¬ (Int32.ofNat cs.length) < (2 : Int32)) (O0 : Old Z n0 h0) (hzv : ¬ zv = (0 : Int32)) (S0 : Sta Z Z.heap "java/lang/String" "COMPACT_STRINGS" "Z" (.int zv)) (rgv : gv.isRef = true) (G0 : Sta Z Z.heap "jdk/internal/util/Preconditions" "SIOOBE_FORMATTER" "Ljava/util/function/BiFunction;" gv) :
    own_Met l Z (⟨"java/lang/String", "substring", "(II)Ljava/lang/String;"⟩ : MethodName) jdk_42_method_92_code 5 (some (.object "java/lang/String")) ws ({ frames := 4, cells := 2, slots := 6, locals := 64 } : Room) #[(.ref us), (.int (0 : Int32)), (.int (2 : Int32))] h0 (Q_sub_2 Z us ub kb cs zv gv h0 n0) := by
  refine own_enter (own := "java/lang/String") (plainFor_of_name pn_2) rfl ?_
  intro p e s m below meth c s₁ hlk hret hx hby hml hown hnm hZ X0 e0
  have N0 := Fr.nil n0
  refine own_cast (ef_sub_2 m us) ?_
  show own_Go _ _ _ _ (s₁.setTop (mkF m 0 #[.val (.ref us), .val (.int (0 : Int32)), .val (.int (2 : Int32)), .unset, .unset] []))
  refine own_go (fun t k => XS.aloadN X0.here hx rfl (hb hby d_j42_92_0) rfl rfl k) ?_
  have hD258 := StrChars.Road.codOf (cs := cs) rfl (fun x hx => (hB x hx).2)
  have hU258 := own_up _ hB
  obtain ⟨cq259, kq259, q259a, q259b, q259c⟩ := isOf hZ e0 E0
  obtain ⟨_, _, ⟨T259, L259, k259, n259⟩, -, X259, ⟨Lc259, hQ259, l259, y259, z259⟩, st259⟩ := X0.virtualBack hx (y := (⟨"java/lang/String", "length", "()I"⟩ : MethodName)) (z := (⟨"java/lang/String", "length", "()I"⟩ : MethodName)) hown (mvT hZ (w_60 hw)) (mvT hZ (w_61 hw)) (notFace_of_selects (args := #[]) (mvT hZ (w_63 hw))) (mvT hZ (w_63 hw)) (mvT hZ (w_62 hw)) (by decide) (StrChars.Road.lenW (W := 0) hZ (own_wlen hw) (kI := 4) (w_6 hw) (cs := cs) E0 V0 Cc0 A0 hD258 hU258 (S0.ext O0.2) hzv l4 (by decide) (by decide)) q259a q259c (g := (mkF m 1 #[.val (.ref us), .val (.int (0 : Int32)), .val (.int (2 : Int32)), .unset, .unset] [(.ref us)])) rfl (by rw [hml]; rfl) (Steps.refl _) (argsL := []) (rest := []) (lenOf pd_4 rfl) rfl (by show 2 * 0 + _ ≤ _; exact Nat.le_of_eq rfl) (hb hby d_j42_92_1) (fun _ _ => ⟨rfl, e0, (by decide : 0 + 0 ≤ _), (by decide : 0 + 0 ≤ _)⟩)
  dsimp only [Pt.U, Pt.locs, Pt.cells, Pt.slots] at X259 l259 y259 z259 st259 hQ259
  subst l259 y259 z259
  obtain ⟨rfl, rfl, e259⟩ := hQ259
  have N259q : Fr n0 ([] : List Loc) := Fr.nil n0
  have N259 := Fr.app N0 N259q
  refine own_go (fun t k => st259.trans k) ?_
  show own_Go _ _ _ _ (T259.setTop (mkF m 4 #[.val (.ref us), .val (.int (0 : Int32)), .val (.int (2 : Int32)), .unset, .unset] [(.int (Int32.ofNat cs.length))]))
  refine own_go (fun t k => XS.istoreN X259.here hx rfl (hb hby d_j42_92_4) rfl (l' := #[.val (.ref us), .val (.int (0 : Int32)), .val (.int (2 : Int32)), .val (.int (Int32.ofNat cs.length)), .unset]) rfl k) ?_
  refine own_go (fun t k => XS.iloadN X259.here hx rfl (hb hby d_j42_92_5) rfl k) ?_
  refine own_go (fun t k => XS.iloadN X259.here hx rfl (hb hby d_j42_92_6) rfl k) ?_
  refine own_go (fun t k => XS.iloadN X259.here hx rfl (hb hby d_j42_92_7) rfl k) ?_
  obtain ⟨_, _, ⟨T260, L260, k260, n260⟩, -, X260, ⟨Lc260, hQ260, l260, y260, z260⟩, st260⟩ := Jvm.LawKit.callS X259 hx (y := (⟨"java/lang/String", "checkBoundsBeginEnd", "(III)V"⟩ : MethodName)) hown (mvT hZ (w_115 hw)) (mvT hZ (w_116 hw)) (mvT hZ (w_7 hw)) (mvT hZ (w_117 hw)) (by decide) (backOf (W := 0) (rm_cbb l Z a0 hw [] (2 : Int32) (Int32.ofNat cs.length) zv gv h0 n0 Z0 (by decide) hin O0 hzv S0 rgv G0) hZ (w_117 hw) (w_7 hw) (by decide) (by decide)) (g := (mkF m 8 #[.val (.ref us), .val (.int (0 : Int32)), .val (.int (2 : Int32)), .val (.int (Int32.ofNat cs.length)), .unset] [(.int (Int32.ofNat cs.length)), (.int (2 : Int32)), (.int (0 : Int32))])) rfl (by rw [hml]; rfl) (argsL := [(.int (0 : Int32)), (.int (2 : Int32)), (.int (Int32.ofNat cs.length))]) (rest := []) (lenOf pd_9 rfl) rfl (by show 2 * 0 + _ ≤ _; exact Nat.le_of_eq rfl) (hb hby d_j42_92_8) (fun _ _ => ⟨rfl, e259, (by decide : 0 + 0 ≤ _), (by decide : 0 + 0 ≤ _)⟩)
  dsimp only [Pt.U, Pt.locs, Pt.cells, Pt.slots] at X260 l260 y260 z260 st260 hQ260
  subst l260 y260 z260
  obtain ⟨rfl, N260q, e260⟩ := hQ260
  have N260 := Fr.app N259 N260q
  refine own_go st260 ?_
  refine own_go (fun t k => XS.iloadN X260.here hx rfl (hb hby d_j42_92_11) rfl k) ?_
  show own_Go _ _ _ _ (T260.setTop (mkF m 12 #[.val (.ref us), .val (.int (0 : Int32)), .val (.int (2 : Int32)), .val (.int (Int32.ofNat cs.length)), .unset] [(.int (0 : Int32))]))
  refine own_go (fun t k => XS.ifNo X260.here hx rfl (hb hby d_j42_92_12) rfl ((if0 _ _).trans (teq (by decide : (0 : Int32) = (0 : Int32))).2) k) ?_
  refine own_go (fun t k => XS.iloadN X260.here hx rfl (hb hby d_j42_92_15) rfl k) ?_
  refine own_go (fun t k => XS.iloadN X260.here hx rfl (hb hby d_j42_92_16) rfl k) ?_
  show own_Go _ _ _ _ (T260.setTop (mkF m 17 #[.val (.ref us), .val (.int (0 : Int32)), .val (.int (2 : Int32)), .val (.int (Int32.ofNat cs.length)), .unset] [(.int (Int32.ofNat cs.length)), (.int (2 : Int32))]))
  refine own_go (fun t k => XS.icmpYes X260.here hx rfl (pc0 := 17) (pc' := 22) rfl (hb hby d_j42_92_17) rfl (feq hne).2 (by decide) (by decide) k) ?_
  refine own_go (fun t k => XS.iloadN X260.here hx rfl (hb hby d_j42_92_22) rfl k) ?_
  refine own_go (fun t k => XS.iloadN X260.here hx rfl (hb hby d_j42_92_23) rfl k) ?_
  refine own_go (fun t k => XS.isub X260.here hx rfl (hb hby d_j42_92_24) rfl k) ?_
  refine own_go (fun t k => XS.istore X260.here hx rfl (hb hby d_j42_92_25) rfl (l' := #[.val (.ref us), .val (.int (0 : Int32)), .val (.int (2 : Int32)), .val (.int (Int32.ofNat cs.length)), .val (.int (2 : Int32))]) rfl k) ?_
  refine own_go (fun t k => XS.aloadN X260.here hx rfl (hb hby d_j42_92_27) rfl rfl k) ?_
  show own_Go _ _ _ _ (T260.setTop (mkF m 28 #[.val (.ref us), .val (.int (0 : Int32)), .val (.int (2 : Int32)), .val (.int (Int32.ofNat cs.length)), .val (.int (2 : Int32))] [(.ref us)]))
  obtain ⟨cq261, kq261, q261a, q261b, q261c⟩ := isOf hZ e260 E0
  obtain ⟨_, _, ⟨T261, L261, k261, n261⟩, -, X261, ⟨Lc261, hQ261, l261, y261, z261⟩, st261⟩ := X260.virtualBack hx (y := (⟨"java/lang/String", "isLatin1", "()Z"⟩ : MethodName)) (z := (⟨"java/lang/String", "isLatin1", "()Z"⟩ : MethodName)) hown (mvT hZ (w_75 hw)) (mvT hZ (w_76 hw)) (notFace_of_selects (args := #[]) (mvT hZ (w_78 hw))) (mvT hZ (w_78 hw)) (mvT hZ (w_77 hw)) (by decide) (backOf (W := 0) (rm_il1 l Z a0 hw [] us zv gv h0 n0 Z0 O0 hzv S0 rgv G0 Cc0) hZ (w_79 hw) (w_7 hw) (by decide) (by decide)) q261a q261c (g := (mkF m 28 #[.val (.ref us), .val (.int (0 : Int32)), .val (.int (2 : Int32)), .val (.int (Int32.ofNat cs.length)), .val (.int (2 : Int32))] [(.ref us)])) rfl (by rw [hml]; rfl) (Steps.refl _) (argsL := []) (rest := []) (lenOf pd_2 rfl) rfl (by show 2 * 0 + _ ≤ _; exact Nat.le_of_eq rfl) (hb hby d_j42_92_28) (fun _ _ => ⟨rfl, e260, (by decide : 0 + 0 ≤ _), (by decide : 0 + 0 ≤ _)⟩)
  dsimp only [Pt.U, Pt.locs, Pt.cells, Pt.slots] at X261 l261 y261 z261 st261 hQ261
  subst l261 y261 z261
  obtain ⟨rfl, N261q, e261⟩ := hQ261
  have N261 := Fr.app N260 N261q
  refine own_go (fun t k => st261.trans k) ?_
  show own_Go _ _ _ _ (T261.setTop (mkF m 31 #[.val (.ref us), .val (.int (0 : Int32)), .val (.int (2 : Int32)), .val (.int (Int32.ofNat cs.length)), .val (.int (2 : Int32))] [(.int (1 : Int32))]))
  refine own_go (fun t k => XS.ifNo X261.here hx rfl (hb hby d_j42_92_31) rfl ((if0 _ _).trans (feq (by decide : ¬ ((1 : Int32) = (0 : Int32)))).1) k) ?_
  refine own_go (fun t k => XS.aloadN X261.here hx rfl (hb hby d_j42_92_34) rfl rfl k) ?_
  show own_Go _ _ _ _ (T261.setTop (mkF m 35 #[.val (.ref us), .val (.int (0 : Int32)), .val (.int (2 : Int32)), .val (.int (Int32.ofNat cs.length)), .val (.int (2 : Int32))] [(.ref us)]))
  obtain ⟨T262, X262, e262, st262⟩ := getF X261 hx hZ hown (host := "") (Or.inl (w_36 hw)) Via.refl e261 V0 (g := (mkF m 35 #[.val (.ref us), .val (.int (0 : Int32)), .val (.int (2 : Int32)), .val (.int (Int32.ofNat cs.length)), .val (.int (2 : Int32))] [(.ref us)])) rfl rfl (hb hby d_j42_92_35)
  refine own_go st262 ?_
  refine own_go (fun t k => XS.iloadN X262.here hx rfl (hb hby d_j42_92_38) rfl k) ?_
  refine own_go (fun t k => XS.iload X262.here hx rfl (hb hby d_j42_92_39) rfl k) ?_
  obtain ⟨_, _, ⟨T263, L263, k263, n263⟩, -, X263, ⟨Lc263, hQ263, l263, y263, z263⟩, st263⟩ := Jvm.LawKit.callS X262 hx (y := (⟨"java/lang/StringLatin1", "newString", "([BII)Ljava/lang/String;"⟩ : MethodName)) hown (mvT hZ (w_121 hw)) (mvT hZ (w_122 hw)) (mvT hZ (w_53 hw)) (mvT hZ (w_123 hw)) (by decide) (backOf (W := 0) (rm_nst_2 l Z a0 hw [] ub kb (Int32.ofNat cs.length) ((cs.map (fun c => c.toInt8.toInt32)).map Value.int) h0 n0 Z0 A0 hm h4_ hne) hZ (w_123 hw) (w_53 hw) (by decide) (by decide)) (g := (mkF m 41 #[.val (.ref us), .val (.int (0 : Int32)), .val (.int (2 : Int32)), .val (.int (Int32.ofNat cs.length)), .val (.int (2 : Int32))] [(.int (2 : Int32)), (.int (0 : Int32)), (.ref ub)])) rfl (by rw [hml]; rfl) (argsL := [(.ref ub), (.int (0 : Int32)), (.int (2 : Int32))]) (rest := []) (lenOf pd_10 rfl) rfl (by show 2 * 0 + _ ≤ _; exact Nat.le_of_eq rfl) (hb hby d_j42_92_41) (fun _ _ => ⟨rfl, e262, (by decide : 0 + 2 ≤ _), (by decide : 0 + 6 ≤ _)⟩)
  dsimp only [Pt.U, Pt.locs, Pt.cells, Pt.slots] at X263 l263 y263 z263 st263 hQ263
  subst l263 y263 z263
  generalize e263 : T263.heap = h263 at hQ263
  obtain ⟨ux263, uy263, ky263, rfl, N263q, K263q, lo263, q263, ly263, qy263, E263, Cd263, V263, A263⟩ := hQ263
  have N263 := Fr.app N261 N263q
  refine own_go st263 ?_
  have Z263 : n0 ≤ h263.size := (Nat.le_trans Z0 K263q.1)
  have K263 : Keep h0 h263 [] := (Keep.refl h0 []).trans K263q all0
  have hi263 := E263.lt
  have hy263 := A263.lt
  refine own_go (fun t k => XS.goto X263.here hx rfl (pc0 := 44) (pc' := 57) rfl (hb hby d_j42_92_44) (by decide) (by decide) k) ?_
  show own_Go _ _ _ _ (T263.setTop (mkF m 57 #[.val (.ref us), .val (.int (0 : Int32)), .val (.int (2 : Int32)), .val (.int (Int32.ofNat cs.length)), .val (.int (2 : Int32))] [(.ref ux263)]))
  refine own_ret X263 hx hlk hret rfl (Or.inr (Or.inr (Or.inr (Or.inr ⟨rfl, rfl, rfl⟩)))) (hb hby d_j42_92_57) ?_ (by decide) (by decide)
  rw [e263]
  exact ⟨ux263, uy263, ky263, rfl, N263, K263, lo263, q263, ly263, qy263, E263, Cd263, V263, A263⟩
def Q_sub_3 (Z : State) (us : Addr) (ub : Addr) (kb : ClassId) (cs : List Int32) (zv : Int32) (gv : Value) (h0 : Heap) (n0 : Nat) (v : Option Value) (h : Heap) (L : List Loc) : Prop := ∃ (ux uy : Addr) (ky : ClassId), v = some (.ref ux) ∧ Fr n0 L ∧ Keep h0 h [] ∧ h0.size ≤ ux ∧ n0 ≤ ux ∧ h0.size ≤ uy ∧ n0 ≤ uy ∧ Exa Z h ux "java/lang/String" ∧ Fld Z h ux "java/lang/String" "coder" "B" (.int (0 : Int32)) ∧ Fld Z h ux "java/lang/String" "value" "[B" (.ref uy) ∧ Arv Z h uy ky .byte (3 : Int32) [(((cs.map (fun c => c.toInt8.toInt32)).map Value.int).getD 0 (.int (0 : Int32))), (((cs.map (fun c => c.toInt8.toInt32)).map Value.int).getD 1 (.int (0 : Int32))), (((cs.map (fun c => c.toInt8.toInt32)).map Value.int).getD 2 (.int (0 : Int32)))] (.int (0 : Int32))
theorem ef_sub_3 (m : MethodId) (us : Addr) : entryFrame m #[(.ref us), (.int (0 : Int32)), (.int (3 : Int32))] 5 = mkF m 0 #[.val (.ref us), .val (.int (0 : Int32)), .val (.int (3 : Int32)), .unset, .unset] [] := by first | (simp [entryFrame, mkF, argsToLocals, Value.category]; done) | rfl
set_option maxRecDepth 65536 in
set_option maxHeartbeats 40000000 in
theorem rm_sub_3 (l : Launch) (Z : State) (a0 : Array Value) (hw : ∀ d ∈ tables_1, d.before a0 Z = true) (ws : List Jvm.Cond) (us ub : Addr) (kb : ClassId) (cs : List Int32) (zv : Int32) (gv : Value) (h0 : Heap) (n0 : Nat) (Z0 : n0 ≤ h0.size) (E0 : Exa Z h0 us "java/lang/String") (Cc0 : Fld Z h0 us "java/lang/String" "coder" "B" (.int (0 : Int32))) (V0 : Fld Z h0 us "java/lang/String" "value" "[B" (.ref ub)) (A0 : Arv Z h0 ub kb .byte (Int32.ofNat cs.length) ((cs.map (fun c => c.toInt8.toInt32)).map Value.int) (.int (0 : Int32))) (hB : ∀ c ∈ cs, own_B c) (l4 : cs.length ≤ 4000) (hm : (3 : Int32) < (Int32.ofNat cs.length) - (0 : Int32)) (h4_ : (0 : Int32).toNatClampNeg + (3 : Int32).toNatClampNeg ≤ (Int32.ofNat cs.length).toNatClampNeg) (hne : ¬ (3 : Int32) = (Int32.ofNat cs.length)) (hin : ¬ (Int32.ofNat cs.length) < (3 : Int32)) (O0 : Old Z n0 h0) (hzv : ¬ zv = (0 : Int32)) (S0 : Sta Z Z.heap "java/lang/String" "COMPACT_STRINGS" "Z" (.int zv)) (rgv : gv.isRef = true) (G0 : Sta Z Z.heap "jdk/internal/util/Preconditions" "SIOOBE_FORMATTER" "Ljava/util/function/BiFunction;" gv) :
    own_Met l Z (⟨"java/lang/String", "substring", "(II)Ljava/lang/String;"⟩ : MethodName) jdk_42_method_92_code 5 (some (.object "java/lang/String")) ws ({ frames := 4, cells := 2, slots := 7, locals := 64 } : Room) #[(.ref us), (.int (0 : Int32)), (.int (3 : Int32))] h0 (Q_sub_3 Z us ub kb cs zv gv h0 n0) := by
  refine own_enter (own := "java/lang/String") (plainFor_of_name pn_2) rfl ?_
  intro p e s m below meth c s₁ hlk hret hx hby hml hown hnm hZ X0 e0
  have N0 := Fr.nil n0
  refine own_cast (ef_sub_3 m us) ?_
  show own_Go _ _ _ _ (s₁.setTop (mkF m 0 #[.val (.ref us), .val (.int (0 : Int32)), .val (.int (3 : Int32)), .unset, .unset] []))
  refine own_go (fun t k => XS.aloadN X0.here hx rfl (hb hby d_j42_92_0) rfl rfl k) ?_
  have hD264 := StrChars.Road.codOf (cs := cs) rfl (fun x hx => (hB x hx).2)
  have hU264 := own_up _ hB
  obtain ⟨cq265, kq265, q265a, q265b, q265c⟩ := isOf hZ e0 E0
  obtain ⟨_, _, ⟨T265, L265, k265, n265⟩, -, X265, ⟨Lc265, hQ265, l265, y265, z265⟩, st265⟩ := X0.virtualBack hx (y := (⟨"java/lang/String", "length", "()I"⟩ : MethodName)) (z := (⟨"java/lang/String", "length", "()I"⟩ : MethodName)) hown (mvT hZ (w_60 hw)) (mvT hZ (w_61 hw)) (notFace_of_selects (args := #[]) (mvT hZ (w_63 hw))) (mvT hZ (w_63 hw)) (mvT hZ (w_62 hw)) (by decide) (StrChars.Road.lenW (W := 0) hZ (own_wlen hw) (kI := 4) (w_6 hw) (cs := cs) E0 V0 Cc0 A0 hD264 hU264 (S0.ext O0.2) hzv l4 (by decide) (by decide)) q265a q265c (g := (mkF m 1 #[.val (.ref us), .val (.int (0 : Int32)), .val (.int (3 : Int32)), .unset, .unset] [(.ref us)])) rfl (by rw [hml]; rfl) (Steps.refl _) (argsL := []) (rest := []) (lenOf pd_4 rfl) rfl (by show 2 * 0 + _ ≤ _; exact Nat.le_of_eq rfl) (hb hby d_j42_92_1) (fun _ _ => ⟨rfl, e0, (by decide : 0 + 0 ≤ _), (by decide : 0 + 0 ≤ _)⟩)
  dsimp only [Pt.U, Pt.locs, Pt.cells, Pt.slots] at X265 l265 y265 z265 st265 hQ265
  subst l265 y265 z265
  obtain ⟨rfl, rfl, e265⟩ := hQ265
  have N265q : Fr n0 ([] : List Loc) := Fr.nil n0
  have N265 := Fr.app N0 N265q
  refine own_go (fun t k => st265.trans k) ?_
  show own_Go _ _ _ _ (T265.setTop (mkF m 4 #[.val (.ref us), .val (.int (0 : Int32)), .val (.int (3 : Int32)), .unset, .unset] [(.int (Int32.ofNat cs.length))]))
  refine own_go (fun t k => XS.istoreN X265.here hx rfl (hb hby d_j42_92_4) rfl (l' := #[.val (.ref us), .val (.int (0 : Int32)), .val (.int (3 : Int32)), .val (.int (Int32.ofNat cs.length)), .unset]) rfl k) ?_
  refine own_go (fun t k => XS.iloadN X265.here hx rfl (hb hby d_j42_92_5) rfl k) ?_
  refine own_go (fun t k => XS.iloadN X265.here hx rfl (hb hby d_j42_92_6) rfl k) ?_
  refine own_go (fun t k => XS.iloadN X265.here hx rfl (hb hby d_j42_92_7) rfl k) ?_
  obtain ⟨_, _, ⟨T266, L266, k266, n266⟩, -, X266, ⟨Lc266, hQ266, l266, y266, z266⟩, st266⟩ := Jvm.LawKit.callS X265 hx (y := (⟨"java/lang/String", "checkBoundsBeginEnd", "(III)V"⟩ : MethodName)) hown (mvT hZ (w_115 hw)) (mvT hZ (w_116 hw)) (mvT hZ (w_7 hw)) (mvT hZ (w_117 hw)) (by decide) (backOf (W := 0) (rm_cbb l Z a0 hw [] (3 : Int32) (Int32.ofNat cs.length) zv gv h0 n0 Z0 (by decide) hin O0 hzv S0 rgv G0) hZ (w_117 hw) (w_7 hw) (by decide) (by decide)) (g := (mkF m 8 #[.val (.ref us), .val (.int (0 : Int32)), .val (.int (3 : Int32)), .val (.int (Int32.ofNat cs.length)), .unset] [(.int (Int32.ofNat cs.length)), (.int (3 : Int32)), (.int (0 : Int32))])) rfl (by rw [hml]; rfl) (argsL := [(.int (0 : Int32)), (.int (3 : Int32)), (.int (Int32.ofNat cs.length))]) (rest := []) (lenOf pd_9 rfl) rfl (by show 2 * 0 + _ ≤ _; exact Nat.le_of_eq rfl) (hb hby d_j42_92_8) (fun _ _ => ⟨rfl, e265, (by decide : 0 + 0 ≤ _), (by decide : 0 + 0 ≤ _)⟩)
  dsimp only [Pt.U, Pt.locs, Pt.cells, Pt.slots] at X266 l266 y266 z266 st266 hQ266
  subst l266 y266 z266
  obtain ⟨rfl, N266q, e266⟩ := hQ266
  have N266 := Fr.app N265 N266q
  refine own_go st266 ?_
  refine own_go (fun t k => XS.iloadN X266.here hx rfl (hb hby d_j42_92_11) rfl k) ?_
  show own_Go _ _ _ _ (T266.setTop (mkF m 12 #[.val (.ref us), .val (.int (0 : Int32)), .val (.int (3 : Int32)), .val (.int (Int32.ofNat cs.length)), .unset] [(.int (0 : Int32))]))
  refine own_go (fun t k => XS.ifNo X266.here hx rfl (hb hby d_j42_92_12) rfl ((if0 _ _).trans (teq (by decide : (0 : Int32) = (0 : Int32))).2) k) ?_
  refine own_go (fun t k => XS.iloadN X266.here hx rfl (hb hby d_j42_92_15) rfl k) ?_
  refine own_go (fun t k => XS.iloadN X266.here hx rfl (hb hby d_j42_92_16) rfl k) ?_
  show own_Go _ _ _ _ (T266.setTop (mkF m 17 #[.val (.ref us), .val (.int (0 : Int32)), .val (.int (3 : Int32)), .val (.int (Int32.ofNat cs.length)), .unset] [(.int (Int32.ofNat cs.length)), (.int (3 : Int32))]))
  refine own_go (fun t k => XS.icmpYes X266.here hx rfl (pc0 := 17) (pc' := 22) rfl (hb hby d_j42_92_17) rfl (feq hne).2 (by decide) (by decide) k) ?_
  refine own_go (fun t k => XS.iloadN X266.here hx rfl (hb hby d_j42_92_22) rfl k) ?_
  refine own_go (fun t k => XS.iloadN X266.here hx rfl (hb hby d_j42_92_23) rfl k) ?_
  refine own_go (fun t k => XS.isub X266.here hx rfl (hb hby d_j42_92_24) rfl k) ?_
  refine own_go (fun t k => XS.istore X266.here hx rfl (hb hby d_j42_92_25) rfl (l' := #[.val (.ref us), .val (.int (0 : Int32)), .val (.int (3 : Int32)), .val (.int (Int32.ofNat cs.length)), .val (.int (3 : Int32))]) rfl k) ?_
  refine own_go (fun t k => XS.aloadN X266.here hx rfl (hb hby d_j42_92_27) rfl rfl k) ?_
  show own_Go _ _ _ _ (T266.setTop (mkF m 28 #[.val (.ref us), .val (.int (0 : Int32)), .val (.int (3 : Int32)), .val (.int (Int32.ofNat cs.length)), .val (.int (3 : Int32))] [(.ref us)]))
  obtain ⟨cq267, kq267, q267a, q267b, q267c⟩ := isOf hZ e266 E0
  obtain ⟨_, _, ⟨T267, L267, k267, n267⟩, -, X267, ⟨Lc267, hQ267, l267, y267, z267⟩, st267⟩ := X266.virtualBack hx (y := (⟨"java/lang/String", "isLatin1", "()Z"⟩ : MethodName)) (z := (⟨"java/lang/String", "isLatin1", "()Z"⟩ : MethodName)) hown (mvT hZ (w_75 hw)) (mvT hZ (w_76 hw)) (notFace_of_selects (args := #[]) (mvT hZ (w_78 hw))) (mvT hZ (w_78 hw)) (mvT hZ (w_77 hw)) (by decide) (backOf (W := 0) (rm_il1 l Z a0 hw [] us zv gv h0 n0 Z0 O0 hzv S0 rgv G0 Cc0) hZ (w_79 hw) (w_7 hw) (by decide) (by decide)) q267a q267c (g := (mkF m 28 #[.val (.ref us), .val (.int (0 : Int32)), .val (.int (3 : Int32)), .val (.int (Int32.ofNat cs.length)), .val (.int (3 : Int32))] [(.ref us)])) rfl (by rw [hml]; rfl) (Steps.refl _) (argsL := []) (rest := []) (lenOf pd_2 rfl) rfl (by show 2 * 0 + _ ≤ _; exact Nat.le_of_eq rfl) (hb hby d_j42_92_28) (fun _ _ => ⟨rfl, e266, (by decide : 0 + 0 ≤ _), (by decide : 0 + 0 ≤ _)⟩)
  dsimp only [Pt.U, Pt.locs, Pt.cells, Pt.slots] at X267 l267 y267 z267 st267 hQ267
  subst l267 y267 z267
  obtain ⟨rfl, N267q, e267⟩ := hQ267
  have N267 := Fr.app N266 N267q
  refine own_go (fun t k => st267.trans k) ?_
  show own_Go _ _ _ _ (T267.setTop (mkF m 31 #[.val (.ref us), .val (.int (0 : Int32)), .val (.int (3 : Int32)), .val (.int (Int32.ofNat cs.length)), .val (.int (3 : Int32))] [(.int (1 : Int32))]))
  refine own_go (fun t k => XS.ifNo X267.here hx rfl (hb hby d_j42_92_31) rfl ((if0 _ _).trans (feq (by decide : ¬ ((1 : Int32) = (0 : Int32)))).1) k) ?_
  refine own_go (fun t k => XS.aloadN X267.here hx rfl (hb hby d_j42_92_34) rfl rfl k) ?_
  show own_Go _ _ _ _ (T267.setTop (mkF m 35 #[.val (.ref us), .val (.int (0 : Int32)), .val (.int (3 : Int32)), .val (.int (Int32.ofNat cs.length)), .val (.int (3 : Int32))] [(.ref us)]))
  obtain ⟨T268, X268, e268, st268⟩ := getF X267 hx hZ hown (host := "") (Or.inl (w_36 hw)) Via.refl e267 V0 (g := (mkF m 35 #[.val (.ref us), .val (.int (0 : Int32)), .val (.int (3 : Int32)), .val (.int (Int32.ofNat cs.length)), .val (.int (3 : Int32))] [(.ref us)])) rfl rfl (hb hby d_j42_92_35)
  refine own_go st268 ?_
  refine own_go (fun t k => XS.iloadN X268.here hx rfl (hb hby d_j42_92_38) rfl k) ?_
  refine own_go (fun t k => XS.iload X268.here hx rfl (hb hby d_j42_92_39) rfl k) ?_
  obtain ⟨_, _, ⟨T269, L269, k269, n269⟩, -, X269, ⟨Lc269, hQ269, l269, y269, z269⟩, st269⟩ := Jvm.LawKit.callS X268 hx (y := (⟨"java/lang/StringLatin1", "newString", "([BII)Ljava/lang/String;"⟩ : MethodName)) hown (mvT hZ (w_121 hw)) (mvT hZ (w_122 hw)) (mvT hZ (w_53 hw)) (mvT hZ (w_123 hw)) (by decide) (backOf (W := 0) (rm_nst_3 l Z a0 hw [] ub kb (Int32.ofNat cs.length) ((cs.map (fun c => c.toInt8.toInt32)).map Value.int) h0 n0 Z0 A0 hm h4_ hne) hZ (w_123 hw) (w_53 hw) (by decide) (by decide)) (g := (mkF m 41 #[.val (.ref us), .val (.int (0 : Int32)), .val (.int (3 : Int32)), .val (.int (Int32.ofNat cs.length)), .val (.int (3 : Int32))] [(.int (3 : Int32)), (.int (0 : Int32)), (.ref ub)])) rfl (by rw [hml]; rfl) (argsL := [(.ref ub), (.int (0 : Int32)), (.int (3 : Int32))]) (rest := []) (lenOf pd_10 rfl) rfl (by show 2 * 0 + _ ≤ _; exact Nat.le_of_eq rfl) (hb hby d_j42_92_41) (fun _ _ => ⟨rfl, e268, (by decide : 0 + 2 ≤ _), (by decide : 0 + 7 ≤ _)⟩)
  dsimp only [Pt.U, Pt.locs, Pt.cells, Pt.slots] at X269 l269 y269 z269 st269 hQ269
  subst l269 y269 z269
  generalize e269 : T269.heap = h269 at hQ269
  obtain ⟨ux269, uy269, ky269, rfl, N269q, K269q, lo269, q269, ly269, qy269, E269, Cd269, V269, A269⟩ := hQ269
  have N269 := Fr.app N267 N269q
  refine own_go st269 ?_
  have Z269 : n0 ≤ h269.size := (Nat.le_trans Z0 K269q.1)
  have K269 : Keep h0 h269 [] := (Keep.refl h0 []).trans K269q all0
  have hi269 := E269.lt
  have hy269 := A269.lt
  refine own_go (fun t k => XS.goto X269.here hx rfl (pc0 := 44) (pc' := 57) rfl (hb hby d_j42_92_44) (by decide) (by decide) k) ?_
  show own_Go _ _ _ _ (T269.setTop (mkF m 57 #[.val (.ref us), .val (.int (0 : Int32)), .val (.int (3 : Int32)), .val (.int (Int32.ofNat cs.length)), .val (.int (3 : Int32))] [(.ref ux269)]))
  refine own_ret X269 hx hlk hret rfl (Or.inr (Or.inr (Or.inr (Or.inr ⟨rfl, rfl, rfl⟩)))) (hb hby d_j42_92_57) ?_ (by decide) (by decide)
  rw [e269]
  exact ⟨ux269, uy269, ky269, rfl, N269, K269, lo269, q269, ly269, qy269, E269, Cd269, V269, A269⟩
def Q_sub_4 (Z : State) (us : Addr) (ub : Addr) (kb : ClassId) (cs : List Int32) (zv : Int32) (gv : Value) (h0 : Heap) (n0 : Nat) (v : Option Value) (h : Heap) (L : List Loc) : Prop := ∃ (ux uy : Addr) (ky : ClassId), v = some (.ref ux) ∧ Fr n0 L ∧ Keep h0 h [] ∧ h0.size ≤ ux ∧ n0 ≤ ux ∧ h0.size ≤ uy ∧ n0 ≤ uy ∧ Exa Z h ux "java/lang/String" ∧ Fld Z h ux "java/lang/String" "coder" "B" (.int (0 : Int32)) ∧ Fld Z h ux "java/lang/String" "value" "[B" (.ref uy) ∧ Arv Z h uy ky .byte (4 : Int32) [(((cs.map (fun c => c.toInt8.toInt32)).map Value.int).getD 0 (.int (0 : Int32))), (((cs.map (fun c => c.toInt8.toInt32)).map Value.int).getD 1 (.int (0 : Int32))), (((cs.map (fun c => c.toInt8.toInt32)).map Value.int).getD 2 (.int (0 : Int32))), (((cs.map (fun c => c.toInt8.toInt32)).map Value.int).getD 3 (.int (0 : Int32)))] (.int (0 : Int32))
theorem ef_sub_4 (m : MethodId) (us : Addr) : entryFrame m #[(.ref us), (.int (0 : Int32)), (.int (4 : Int32))] 5 = mkF m 0 #[.val (.ref us), .val (.int (0 : Int32)), .val (.int (4 : Int32)), .unset, .unset] [] := by first | (simp [entryFrame, mkF, argsToLocals, Value.category]; done) | rfl
set_option maxRecDepth 65536 in
set_option maxHeartbeats 40000000 in
theorem rm_sub_4 (l : Launch) (Z : State) (a0 : Array Value) (hw : ∀ d ∈ tables_1, d.before a0 Z = true) (ws : List Jvm.Cond) (us ub : Addr) (kb : ClassId) (cs : List Int32) (zv : Int32) (gv : Value) (h0 : Heap) (n0 : Nat) (Z0 : n0 ≤ h0.size) (E0 : Exa Z h0 us "java/lang/String") (Cc0 : Fld Z h0 us "java/lang/String" "coder" "B" (.int (0 : Int32))) (V0 : Fld Z h0 us "java/lang/String" "value" "[B" (.ref ub)) (A0 : Arv Z h0 ub kb .byte (Int32.ofNat cs.length) ((cs.map (fun c => c.toInt8.toInt32)).map Value.int) (.int (0 : Int32))) (hB : ∀ c ∈ cs, own_B c) (l4 : cs.length ≤ 4000) (hm : (4 : Int32) < (Int32.ofNat cs.length) - (0 : Int32)) (h4_ : (0 : Int32).toNatClampNeg + (4 : Int32).toNatClampNeg ≤ (Int32.ofNat cs.length).toNatClampNeg) (hne : ¬ (4 : Int32) = (Int32.ofNat cs.length)) (hin : ¬ (Int32.ofNat cs.length) < (4 : Int32)) (O0 : Old Z n0 h0) (hzv : ¬ zv = (0 : Int32)) (S0 : Sta Z Z.heap "java/lang/String" "COMPACT_STRINGS" "Z" (.int zv)) (rgv : gv.isRef = true) (G0 : Sta Z Z.heap "jdk/internal/util/Preconditions" "SIOOBE_FORMATTER" "Ljava/util/function/BiFunction;" gv) :
    own_Met l Z (⟨"java/lang/String", "substring", "(II)Ljava/lang/String;"⟩ : MethodName) jdk_42_method_92_code 5 (some (.object "java/lang/String")) ws ({ frames := 4, cells := 2, slots := 8, locals := 64 } : Room) #[(.ref us), (.int (0 : Int32)), (.int (4 : Int32))] h0 (Q_sub_4 Z us ub kb cs zv gv h0 n0) := by
  refine own_enter (own := "java/lang/String") (plainFor_of_name pn_2) rfl ?_
  intro p e s m below meth c s₁ hlk hret hx hby hml hown hnm hZ X0 e0
  have N0 := Fr.nil n0
  refine own_cast (ef_sub_4 m us) ?_
  show own_Go _ _ _ _ (s₁.setTop (mkF m 0 #[.val (.ref us), .val (.int (0 : Int32)), .val (.int (4 : Int32)), .unset, .unset] []))
  refine own_go (fun t k => XS.aloadN X0.here hx rfl (hb hby d_j42_92_0) rfl rfl k) ?_
  have hD270 := StrChars.Road.codOf (cs := cs) rfl (fun x hx => (hB x hx).2)
  have hU270 := own_up _ hB
  obtain ⟨cq271, kq271, q271a, q271b, q271c⟩ := isOf hZ e0 E0
  obtain ⟨_, _, ⟨T271, L271, k271, n271⟩, -, X271, ⟨Lc271, hQ271, l271, y271, z271⟩, st271⟩ := X0.virtualBack hx (y := (⟨"java/lang/String", "length", "()I"⟩ : MethodName)) (z := (⟨"java/lang/String", "length", "()I"⟩ : MethodName)) hown (mvT hZ (w_60 hw)) (mvT hZ (w_61 hw)) (notFace_of_selects (args := #[]) (mvT hZ (w_63 hw))) (mvT hZ (w_63 hw)) (mvT hZ (w_62 hw)) (by decide) (StrChars.Road.lenW (W := 0) hZ (own_wlen hw) (kI := 4) (w_6 hw) (cs := cs) E0 V0 Cc0 A0 hD270 hU270 (S0.ext O0.2) hzv l4 (by decide) (by decide)) q271a q271c (g := (mkF m 1 #[.val (.ref us), .val (.int (0 : Int32)), .val (.int (4 : Int32)), .unset, .unset] [(.ref us)])) rfl (by rw [hml]; rfl) (Steps.refl _) (argsL := []) (rest := []) (lenOf pd_4 rfl) rfl (by show 2 * 0 + _ ≤ _; exact Nat.le_of_eq rfl) (hb hby d_j42_92_1) (fun _ _ => ⟨rfl, e0, (by decide : 0 + 0 ≤ _), (by decide : 0 + 0 ≤ _)⟩)
  dsimp only [Pt.U, Pt.locs, Pt.cells, Pt.slots] at X271 l271 y271 z271 st271 hQ271
  subst l271 y271 z271
  obtain ⟨rfl, rfl, e271⟩ := hQ271
  have N271q : Fr n0 ([] : List Loc) := Fr.nil n0
  have N271 := Fr.app N0 N271q
  refine own_go (fun t k => st271.trans k) ?_
  show own_Go _ _ _ _ (T271.setTop (mkF m 4 #[.val (.ref us), .val (.int (0 : Int32)), .val (.int (4 : Int32)), .unset, .unset] [(.int (Int32.ofNat cs.length))]))
  refine own_go (fun t k => XS.istoreN X271.here hx rfl (hb hby d_j42_92_4) rfl (l' := #[.val (.ref us), .val (.int (0 : Int32)), .val (.int (4 : Int32)), .val (.int (Int32.ofNat cs.length)), .unset]) rfl k) ?_
  refine own_go (fun t k => XS.iloadN X271.here hx rfl (hb hby d_j42_92_5) rfl k) ?_
  refine own_go (fun t k => XS.iloadN X271.here hx rfl (hb hby d_j42_92_6) rfl k) ?_
  refine own_go (fun t k => XS.iloadN X271.here hx rfl (hb hby d_j42_92_7) rfl k) ?_
  obtain ⟨_, _, ⟨T272, L272, k272, n272⟩, -, X272, ⟨Lc272, hQ272, l272, y272, z272⟩, st272⟩ := Jvm.LawKit.callS X271 hx (y := (⟨"java/lang/String", "checkBoundsBeginEnd", "(III)V"⟩ : MethodName)) hown (mvT hZ (w_115 hw)) (mvT hZ (w_116 hw)) (mvT hZ (w_7 hw)) (mvT hZ (w_117 hw)) (by decide) (backOf (W := 0) (rm_cbb l Z a0 hw [] (4 : Int32) (Int32.ofNat cs.length) zv gv h0 n0 Z0 (by decide) hin O0 hzv S0 rgv G0) hZ (w_117 hw) (w_7 hw) (by decide) (by decide)) (g := (mkF m 8 #[.val (.ref us), .val (.int (0 : Int32)), .val (.int (4 : Int32)), .val (.int (Int32.ofNat cs.length)), .unset] [(.int (Int32.ofNat cs.length)), (.int (4 : Int32)), (.int (0 : Int32))])) rfl (by rw [hml]; rfl) (argsL := [(.int (0 : Int32)), (.int (4 : Int32)), (.int (Int32.ofNat cs.length))]) (rest := []) (lenOf pd_9 rfl) rfl (by show 2 * 0 + _ ≤ _; exact Nat.le_of_eq rfl) (hb hby d_j42_92_8) (fun _ _ => ⟨rfl, e271, (by decide : 0 + 0 ≤ _), (by decide : 0 + 0 ≤ _)⟩)
  dsimp only [Pt.U, Pt.locs, Pt.cells, Pt.slots] at X272 l272 y272 z272 st272 hQ272
  subst l272 y272 z272
  obtain ⟨rfl, N272q, e272⟩ := hQ272
  have N272 := Fr.app N271 N272q
  refine own_go st272 ?_
  refine own_go (fun t k => XS.iloadN X272.here hx rfl (hb hby d_j42_92_11) rfl k) ?_
  show own_Go _ _ _ _ (T272.setTop (mkF m 12 #[.val (.ref us), .val (.int (0 : Int32)), .val (.int (4 : Int32)), .val (.int (Int32.ofNat cs.length)), .unset] [(.int (0 : Int32))]))
  refine own_go (fun t k => XS.ifNo X272.here hx rfl (hb hby d_j42_92_12) rfl ((if0 _ _).trans (teq (by decide : (0 : Int32) = (0 : Int32))).2) k) ?_
  refine own_go (fun t k => XS.iloadN X272.here hx rfl (hb hby d_j42_92_15) rfl k) ?_
  refine own_go (fun t k => XS.iloadN X272.here hx rfl (hb hby d_j42_92_16) rfl k) ?_
  show own_Go _ _ _ _ (T272.setTop (mkF m 17 #[.val (.ref us), .val (.int (0 : Int32)), .val (.int (4 : Int32)), .val (.int (Int32.ofNat cs.length)), .unset] [(.int (Int32.ofNat cs.length)), (.int (4 : Int32))]))
  refine own_go (fun t k => XS.icmpYes X272.here hx rfl (pc0 := 17) (pc' := 22) rfl (hb hby d_j42_92_17) rfl (feq hne).2 (by decide) (by decide) k) ?_
  refine own_go (fun t k => XS.iloadN X272.here hx rfl (hb hby d_j42_92_22) rfl k) ?_
  refine own_go (fun t k => XS.iloadN X272.here hx rfl (hb hby d_j42_92_23) rfl k) ?_
  refine own_go (fun t k => XS.isub X272.here hx rfl (hb hby d_j42_92_24) rfl k) ?_
  refine own_go (fun t k => XS.istore X272.here hx rfl (hb hby d_j42_92_25) rfl (l' := #[.val (.ref us), .val (.int (0 : Int32)), .val (.int (4 : Int32)), .val (.int (Int32.ofNat cs.length)), .val (.int (4 : Int32))]) rfl k) ?_
  refine own_go (fun t k => XS.aloadN X272.here hx rfl (hb hby d_j42_92_27) rfl rfl k) ?_
  show own_Go _ _ _ _ (T272.setTop (mkF m 28 #[.val (.ref us), .val (.int (0 : Int32)), .val (.int (4 : Int32)), .val (.int (Int32.ofNat cs.length)), .val (.int (4 : Int32))] [(.ref us)]))
  obtain ⟨cq273, kq273, q273a, q273b, q273c⟩ := isOf hZ e272 E0
  obtain ⟨_, _, ⟨T273, L273, k273, n273⟩, -, X273, ⟨Lc273, hQ273, l273, y273, z273⟩, st273⟩ := X272.virtualBack hx (y := (⟨"java/lang/String", "isLatin1", "()Z"⟩ : MethodName)) (z := (⟨"java/lang/String", "isLatin1", "()Z"⟩ : MethodName)) hown (mvT hZ (w_75 hw)) (mvT hZ (w_76 hw)) (notFace_of_selects (args := #[]) (mvT hZ (w_78 hw))) (mvT hZ (w_78 hw)) (mvT hZ (w_77 hw)) (by decide) (backOf (W := 0) (rm_il1 l Z a0 hw [] us zv gv h0 n0 Z0 O0 hzv S0 rgv G0 Cc0) hZ (w_79 hw) (w_7 hw) (by decide) (by decide)) q273a q273c (g := (mkF m 28 #[.val (.ref us), .val (.int (0 : Int32)), .val (.int (4 : Int32)), .val (.int (Int32.ofNat cs.length)), .val (.int (4 : Int32))] [(.ref us)])) rfl (by rw [hml]; rfl) (Steps.refl _) (argsL := []) (rest := []) (lenOf pd_2 rfl) rfl (by show 2 * 0 + _ ≤ _; exact Nat.le_of_eq rfl) (hb hby d_j42_92_28) (fun _ _ => ⟨rfl, e272, (by decide : 0 + 0 ≤ _), (by decide : 0 + 0 ≤ _)⟩)
  dsimp only [Pt.U, Pt.locs, Pt.cells, Pt.slots] at X273 l273 y273 z273 st273 hQ273
  subst l273 y273 z273
  obtain ⟨rfl, N273q, e273⟩ := hQ273
  have N273 := Fr.app N272 N273q
  refine own_go (fun t k => st273.trans k) ?_
  show own_Go _ _ _ _ (T273.setTop (mkF m 31 #[.val (.ref us), .val (.int (0 : Int32)), .val (.int (4 : Int32)), .val (.int (Int32.ofNat cs.length)), .val (.int (4 : Int32))] [(.int (1 : Int32))]))
  refine own_go (fun t k => XS.ifNo X273.here hx rfl (hb hby d_j42_92_31) rfl ((if0 _ _).trans (feq (by decide : ¬ ((1 : Int32) = (0 : Int32)))).1) k) ?_
  refine own_go (fun t k => XS.aloadN X273.here hx rfl (hb hby d_j42_92_34) rfl rfl k) ?_
  show own_Go _ _ _ _ (T273.setTop (mkF m 35 #[.val (.ref us), .val (.int (0 : Int32)), .val (.int (4 : Int32)), .val (.int (Int32.ofNat cs.length)), .val (.int (4 : Int32))] [(.ref us)]))
  obtain ⟨T274, X274, e274, st274⟩ := getF X273 hx hZ hown (host := "") (Or.inl (w_36 hw)) Via.refl e273 V0 (g := (mkF m 35 #[.val (.ref us), .val (.int (0 : Int32)), .val (.int (4 : Int32)), .val (.int (Int32.ofNat cs.length)), .val (.int (4 : Int32))] [(.ref us)])) rfl rfl (hb hby d_j42_92_35)
  refine own_go st274 ?_
  refine own_go (fun t k => XS.iloadN X274.here hx rfl (hb hby d_j42_92_38) rfl k) ?_
  refine own_go (fun t k => XS.iload X274.here hx rfl (hb hby d_j42_92_39) rfl k) ?_
  obtain ⟨_, _, ⟨T275, L275, k275, n275⟩, -, X275, ⟨Lc275, hQ275, l275, y275, z275⟩, st275⟩ := Jvm.LawKit.callS X274 hx (y := (⟨"java/lang/StringLatin1", "newString", "([BII)Ljava/lang/String;"⟩ : MethodName)) hown (mvT hZ (w_121 hw)) (mvT hZ (w_122 hw)) (mvT hZ (w_53 hw)) (mvT hZ (w_123 hw)) (by decide) (backOf (W := 0) (rm_nst_4 l Z a0 hw [] ub kb (Int32.ofNat cs.length) ((cs.map (fun c => c.toInt8.toInt32)).map Value.int) h0 n0 Z0 A0 hm h4_ hne) hZ (w_123 hw) (w_53 hw) (by decide) (by decide)) (g := (mkF m 41 #[.val (.ref us), .val (.int (0 : Int32)), .val (.int (4 : Int32)), .val (.int (Int32.ofNat cs.length)), .val (.int (4 : Int32))] [(.int (4 : Int32)), (.int (0 : Int32)), (.ref ub)])) rfl (by rw [hml]; rfl) (argsL := [(.ref ub), (.int (0 : Int32)), (.int (4 : Int32))]) (rest := []) (lenOf pd_10 rfl) rfl (by show 2 * 0 + _ ≤ _; exact Nat.le_of_eq rfl) (hb hby d_j42_92_41) (fun _ _ => ⟨rfl, e274, (by decide : 0 + 2 ≤ _), (by decide : 0 + 8 ≤ _)⟩)
  dsimp only [Pt.U, Pt.locs, Pt.cells, Pt.slots] at X275 l275 y275 z275 st275 hQ275
  subst l275 y275 z275
  generalize e275 : T275.heap = h275 at hQ275
  obtain ⟨ux275, uy275, ky275, rfl, N275q, K275q, lo275, q275, ly275, qy275, E275, Cd275, V275, A275⟩ := hQ275
  have N275 := Fr.app N273 N275q
  refine own_go st275 ?_
  have Z275 : n0 ≤ h275.size := (Nat.le_trans Z0 K275q.1)
  have K275 : Keep h0 h275 [] := (Keep.refl h0 []).trans K275q all0
  have hi275 := E275.lt
  have hy275 := A275.lt
  refine own_go (fun t k => XS.goto X275.here hx rfl (pc0 := 44) (pc' := 57) rfl (hb hby d_j42_92_44) (by decide) (by decide) k) ?_
  show own_Go _ _ _ _ (T275.setTop (mkF m 57 #[.val (.ref us), .val (.int (0 : Int32)), .val (.int (4 : Int32)), .val (.int (Int32.ofNat cs.length)), .val (.int (4 : Int32))] [(.ref ux275)]))
  refine own_ret X275 hx hlk hret rfl (Or.inr (Or.inr (Or.inr (Or.inr ⟨rfl, rfl, rfl⟩)))) (hb hby d_j42_92_57) ?_ (by decide) (by decide)
  rw [e275]
  exact ⟨ux275, uy275, ky275, rfl, N275, K275, lo275, q275, ly275, qy275, E275, Cd275, V275, A275⟩
def Q_par_1 (Z : State) (us : Addr) (ub : Addr) (kb : ClassId) (zv : Int32) (gv : Value) (h0 : Heap) (n0 : Nat) (v : Option Value) (h : Heap) (L : List Loc) : Prop := v = some .null ∧ Fr n0 L ∧ Keep h0 h []
theorem ef_par_1 (m : MethodId) (us : Addr) : entryFrame m #[(.ref us)] 2 = mkF m 0 #[.val (.ref us), .unset] [] := by first | (simp [entryFrame, mkF, argsToLocals, Value.category]; done) | rfl
theorem pn_5 : plainName "com/example/grantfold/grantfold/model/Configuration" = true := by first | (simp [plainName, overriddenIn]; done) | decide +kernel
theorem d_p15_2_0 : decode prog_15_method_2_code 0 = .ok (.aload_n 0, 1) := by decide +kernel
theorem d_p15_2_1 : decode prog_15_method_2_code 1 = .ok (.ldc 40, 2) := by decide +kernel
theorem w_45 {Z : State} {a0 : Array Value} (hw : ∀ d ∈ tables_1, d.before a0 Z = true) : (Jvm.Cond.methodLink "com/example/grantfold/grantfold/model/Configuration" (53 : Nat) ({ cls := "java/lang/String", name := "equals", desc := "(Ljava/lang/Object;)Z" } : Jvm.MethodName)).before a0 Z = true := hw _ (List.mem_of_getElem? (i := 45) rfl)
theorem w_49 {Z : State} {a0 : Array Value} (hw : ∀ d ∈ tables_1, d.before a0 Z = true) : (Jvm.Cond.code ({ cls := "java/lang/String", name := "equals", desc := "(Ljava/lang/Object;)Z" } : Jvm.MethodName) jdk_42_method_66_code (3 : Nat) (Option.some Jvm.ClassFile.FieldType.boolean)).before a0 Z = true := hw _ (List.mem_of_getElem? (i := 49) rfl)
theorem pd_11 : parseMethodDescriptor "(Ljava/lang/Object;)Z" = some ⟨[(.object "java/lang/Object")], some .boolean⟩ := by decide +kernel
theorem d_p15_2_3 : decode prog_15_method_2_code 3 = .ok (.invokevirtual 53, 3) := by decide +kernel
theorem w_48 {Z : State} {a0 : Array Value} (hw : ∀ d ∈ tables_1, d.before a0 Z = true) : (Jvm.Cond.selects "java/lang/String" ({ cls := "java/lang/String", name := "equals", desc := "(Ljava/lang/Object;)Z" } : Jvm.MethodName) ({ cls := "java/lang/String", name := "equals", desc := "(Ljava/lang/Object;)Z" } : Jvm.MethodName)).before a0 Z = true := hw _ (List.mem_of_getElem? (i := 48) rfl)
theorem w_46 {Z : State} {a0 : Array Value} (hw : ∀ d ∈ tables_1, d.before a0 Z = true) : (Jvm.Cond.declares ({ cls := "java/lang/String", name := "equals", desc := "(Ljava/lang/Object;)Z" } : Jvm.MethodName)).before a0 Z = true := hw _ (List.mem_of_getElem? (i := 46) rfl)
theorem w_47 {Z : State} {a0 : Array Value} (hw : ∀ d ∈ tables_1, d.before a0 Z = true) : (Jvm.Cond.instanceMethod ({ cls := "java/lang/String", name := "equals", desc := "(Ljava/lang/Object;)Z" } : Jvm.MethodName)).before a0 Z = true := hw _ (List.mem_of_getElem? (i := 47) rfl)
theorem d_p15_2_6 : decode prog_15_method_2_code 6 = .ok (.ifCond .eq 5, 3) := by decide +kernel
theorem d_p15_2_9 : decode prog_15_method_2_code 9 = .ok (.aconst_null, 1) := by decide +kernel
theorem d_p15_2_10 : decode prog_15_method_2_code 10 = .ok (.areturn, 1) := by decide +kernel
set_option maxRecDepth 65536 in
set_option maxHeartbeats 40000000 in
theorem rm_par_1 (l : Launch) (Z : State) (a0 : Array Value) (hw : ∀ d ∈ tables_1, d.before a0 Z = true) (ws : List Jvm.Cond) (us ub : Addr) (kb : ClassId) (zv : Int32) (gv : Value) (h0 : Heap) (n0 : Nat) (Z0 : n0 ≤ h0.size) (E0 : Exa Z h0 us "java/lang/String") (Cc0 : Fld Z h0 us "java/lang/String" "coder" "B" (.int (0 : Int32))) (V0 : Fld Z h0 us "java/lang/String" "value" "[B" (.ref ub)) (A0 : Arv Z h0 ub kb .byte (1 : Int32) [(.int (47 : Int32))] (.int (0 : Int32))) (O0 : Old Z n0 h0) (hzv : ¬ zv = (0 : Int32)) (S0 : Sta Z Z.heap "java/lang/String" "COMPACT_STRINGS" "Z" (.int zv)) (rgv : gv.isRef = true) (G0 : Sta Z Z.heap "jdk/internal/util/Preconditions" "SIOOBE_FORMATTER" "Ljava/util/function/BiFunction;" gv) :
    own_MetH l Z consts_1 (⟨"com/example/grantfold/grantfold/model/Configuration", "parent", "(Ljava/lang/String;)Ljava/lang/String;"⟩ : MethodName) prog_15_method_2_code 2 (some (.object "java/lang/String")) ws ({ frames := 2, cells := 2, slots := 8, locals := 28 } : Room) #[(.ref us)] h0 (Q_par_1 Z us ub kb zv gv h0 n0) := by
  refine own_enterH (own := "com/example/grantfold/grantfold/model/Configuration") (plainFor_of_name pn_5) rfl ?_
  intro p e s m below meth c s₁ hlk hret hx hby hml hown hnm hZ hh hH X0 e0
  have N0 := Fr.nil n0
  refine own_cast (ef_par_1 m us) ?_
  have hS : s.Since s.vm 0 := (State.WarmedH.refl s).since 0
  have hk : 0 ≤ h0.size := Nat.zero_le _
  have C0 : CHr Z consts_1 s.vm h0 s.vm h0 := CHr.refl hH
  show own_Go _ _ _ _ (s₁.setTop (mkF m 0 #[.val (.ref us), .unset] []))
  refine own_go (fun t k => XS.aloadN X0.here hx rfl (hb hby d_p15_2_0) rfl rfl k) ?_
  show own_Go _ _ _ _ (s₁.setTop (mkF m 1 #[.val (.ref us), .unset] [(.ref us)]))
  obtain ⟨b276, T276, h276, k276, d276, kb276, X276, e276, E276, hS, hk, hZ, hown, A276, Fc276, Fv276, Va276, hia276, hib276, R276, -, hne276, st276⟩ := ldcCH X0 hx hZ hown (w_42 hw) (own_wS hw) e0 hS hk (own_EW hw) (List.mem_of_getElem? (i := 0) rfl) C0.1 (vs := [(.int (47 : Int32))]) (z := (1 : Int32)) ⟨by decide, rfl⟩ (by decide) rfl (g := (mkF m 1 #[.val (.ref us), .unset] [(.ref us)])) rfl (hb hby d_p15_2_1) (n := 4) (by decide) (by decide) (by decide) (by decide)
  refine own_go st276 ?_
  have Z276 : n0 ≤ h276.size := (Nat.le_trans Z0 E276.1)
  have C276 := C0.trans R276
  have K276 : Keep h0 h276 [] := (Keep.refl h0 []).ext E276
  have hB277 : ∀ c ∈ ([(47 : Int32)] : List Int32), own_B c := (List.forall_mem_cons.mpr ⟨(by constructor <;> decide : own_B (47 : Int32)), (List.forall_mem_nil _)⟩)
  have hD277 := StrChars.Road.codOf (cs := ([(47 : Int32)] : List Int32)) (n := 1) rfl (fun x hx => (hB277 x hx).2)
  have hU277 := own_up _ hB277
  have hB278 : ∀ c ∈ ([(47 : Int32)] : List Int32), own_B c := (List.forall_mem_cons.mpr ⟨(by constructor <;> decide : own_B (47 : Int32)), (List.forall_mem_nil _)⟩)
  have hD278 := StrChars.Road.codOf (cs := ([(47 : Int32)] : List Int32)) (n := 1) rfl (fun x hx => (hB278 x hx).2)
  have hU278 := own_up _ hB278
  obtain ⟨cq279, kq279, q279a, q279b, q279c⟩ := isOf hZ e276 (E0.ext E276)
  obtain ⟨_, _, ⟨T279, L279, k279, n279⟩, -, X279, ⟨Lc279, hQ279, l279, y279, z279⟩, st279⟩ := X276.virtualBack hx (y := (⟨"java/lang/String", "equals", "(Ljava/lang/Object;)Z"⟩ : MethodName)) (z := (⟨"java/lang/String", "equals", "(Ljava/lang/Object;)Z"⟩ : MethodName)) hown (mvT hZ (w_45 hw)) (mvT hZ (w_46 hw)) (notFace_of_selects (args := #[]) (mvT hZ (w_48 hw))) (mvT hZ (w_48 hw)) (mvT hZ (w_47 hw)) (by decide) (StrChars.Road.eqW (W := 0) hZ (own_weq hw) (kI := 4) (w_6 hw) (cs := ([(47 : Int32)] : List Int32)) (E0.ext E276) (V0.ext E276) (Cc0.ext E276) (A0.ext E276) hD277 hU277 (Nat.le_of_ble_eq_true rfl) (ds := ([(47 : Int32)] : List Int32)) A276 Fv276 Fc276 Va276 hD278 hU278 (Nat.le_of_ble_eq_true rfl) (S0.ext (O0.ext E276).2) hzv (by decide) (by decide)) q279a q279c (g := (mkF m 3 #[.val (.ref us), .unset] [(.ref b276), (.ref us)])) rfl (by rw [hml]; rfl) (Steps.refl _) (argsL := [(.ref b276)]) (rest := []) (lenOf pd_11 rfl) rfl (by show 2 * 0 + _ ≤ _; exact Nat.le_of_eq rfl) (hb hby d_p15_2_3) (fun _ _ => ⟨rfl, e276, (by decide : 2 + 0 ≤ _), (by decide : 8 + 0 ≤ _)⟩)
  dsimp only [Pt.U, Pt.locs, Pt.cells, Pt.slots] at X279 l279 y279 z279 st279 hQ279
  subst l279 y279 z279
  obtain ⟨hv279, rfl, e279⟩ := hQ279
  obtain rfl := (hv279.resolve_right fun q => q.2 rfl).1
  have N279q : Fr n0 ([] : List Loc) := Fr.nil n0
  have N279 := Fr.app N0 N279q
  refine own_go (fun t k => st279.trans k) ?_
  show own_Go _ _ _ _ (T279.setTop (mkF m 6 #[.val (.ref us), .unset] [(.int (1 : Int32))]))
  refine own_go (fun t k => XS.ifNo X279.here hx rfl (hb hby d_p15_2_6) rfl ((if0 _ _).trans (feq (by decide : ¬ ((1 : Int32) = (0 : Int32)))).1) k) ?_
  refine own_go (fun t k => XS.aconstNull X279.here hx rfl (hb hby d_p15_2_9) k) ?_
  show own_Go _ _ _ _ (T279.setTop (mkF m 10 #[.val (.ref us), .unset] [.null]))
  refine own_retH X279 hx hS (Nat.le_trans hk (Nat.le_of_eq (congrArg Array.size e279.symm))) (by rw [hh, e279]; exact C276.trans (CHv.at X279 hZ (own_EW hw) C276.1)) hlk hret rfl (Or.inr (Or.inr (Or.inr (Or.inr ⟨rfl, rfl, rfl⟩)))) (hb hby d_p15_2_10) ?_ (by decide) (by decide)
  rw [e279]
  exact ⟨rfl, N279, K276⟩
def Q_par_2 (Z : State) (us : Addr) (ub : Addr) (kb : ClassId) (c1_ : Int32) (c2_ : Int32) (c3_ : Int32) (c4_ : Int32) (zv : Int32) (gv : Value) (h0 : Heap) (n0 : Nat) (v : Option Value) (h : Heap) (L : List Loc) : Prop := ∃ (ux uy : Addr) (ky : ClassId), v = some (.ref ux) ∧ Fr n0 L ∧ Keep h0 h [] ∧ Exa Z h ux "java/lang/String" ∧ Fld Z h ux "java/lang/String" "coder" "B" (.int (0 : Int32)) ∧ Fld Z h ux "java/lang/String" "value" "[B" (.ref uy) ∧ ((¬ c1_ = 47 ∧ Arv Z h uy ky .byte (1 : Int32) [(.int (47 : Int32))] (.int (0 : Int32))) ∨ (c1_ = 47 ∧ Arv Z h uy ky .byte (1 : Int32) [(.int (47 : Int32))] (.int (0 : Int32))))
theorem ef_par_2 (m : MethodId) (us : Addr) : entryFrame m #[(.ref us)] 2 = mkF m 0 #[.val (.ref us), .unset] [] := by first | (simp [entryFrame, mkF, argsToLocals, Value.category]; done) | rfl
theorem d_p15_2_11 : decode prog_15_method_2_code 11 = .ok (.aload_n 0, 1) := by decide +kernel
theorem d_p15_2_12 : decode prog_15_method_2_code 12 = .ok (.bipush 47, 2) := by decide +kernel
theorem w_55 {Z : State} {a0 : Array Value} (hw : ∀ d ∈ tables_1, d.before a0 Z = true) : (Jvm.Cond.methodLink "com/example/grantfold/grantfold/model/Configuration" (59 : Nat) ({ cls := "java/lang/String", name := "lastIndexOf", desc := "(I)I" } : Jvm.MethodName)).before a0 Z = true := hw _ (List.mem_of_getElem? (i := 55) rfl)
theorem w_59 {Z : State} {a0 : Array Value} (hw : ∀ d ∈ tables_1, d.before a0 Z = true) : (Jvm.Cond.code ({ cls := "java/lang/String", name := "lastIndexOf", desc := "(I)I" } : Jvm.MethodName) jdk_42_method_82_code (2 : Nat) (Option.some Jvm.ClassFile.FieldType.int)).before a0 Z = true := hw _ (List.mem_of_getElem? (i := 59) rfl)
theorem pd_12 : parseMethodDescriptor "(I)I" = some ⟨[.int], some .int⟩ := by decide +kernel
theorem d_p15_2_14 : decode prog_15_method_2_code 14 = .ok (.invokevirtual 59, 3) := by decide +kernel
theorem w_58 {Z : State} {a0 : Array Value} (hw : ∀ d ∈ tables_1, d.before a0 Z = true) : (Jvm.Cond.selects "java/lang/String" ({ cls := "java/lang/String", name := "lastIndexOf", desc := "(I)I" } : Jvm.MethodName) ({ cls := "java/lang/String", name := "lastIndexOf", desc := "(I)I" } : Jvm.MethodName)).before a0 Z = true := hw _ (List.mem_of_getElem? (i := 58) rfl)
theorem w_56 {Z : State} {a0 : Array Value} (hw : ∀ d ∈ tables_1, d.before a0 Z = true) : (Jvm.Cond.declares ({ cls := "java/lang/String", name := "lastIndexOf", desc := "(I)I" } : Jvm.MethodName)).before a0 Z = true := hw _ (List.mem_of_getElem? (i := 56) rfl)
theorem w_57 {Z : State} {a0 : Array Value} (hw : ∀ d ∈ tables_1, d.before a0 Z = true) : (Jvm.Cond.instanceMethod ({ cls := "java/lang/String", name := "lastIndexOf", desc := "(I)I" } : Jvm.MethodName)).before a0 Z = true := hw _ (List.mem_of_getElem? (i := 57) rfl)
theorem d_p15_2_17 : decode prog_15_method_2_code 17 = .ok (.istore_n 1, 1) := by decide +kernel
theorem d_p15_2_18 : decode prog_15_method_2_code 18 = .ok (.iload_n 1, 1) := by decide +kernel
theorem d_p15_2_19 : decode prog_15_method_2_code 19 = .ok (.ifCond .ne 8, 3) := by decide +kernel
theorem d_p15_2_27 : decode prog_15_method_2_code 27 = .ok (.aload_n 0, 1) := by decide +kernel
theorem d_p15_2_28 : decode prog_15_method_2_code 28 = .ok (.iconst 0, 1) := by decide +kernel
theorem d_p15_2_29 : decode prog_15_method_2_code 29 = .ok (.iload_n 1, 1) := by decide +kernel
theorem w_110 {Z : State} {a0 : Array Value} (hw : ∀ d ∈ tables_1, d.before a0 Z = true) : (Jvm.Cond.methodLink "com/example/grantfold/grantfold/model/Configuration" (63 : Nat) ({ cls := "java/lang/String", name := "substring", desc := "(II)Ljava/lang/String;" } : Jvm.MethodName)).before a0 Z = true := hw _ (List.mem_of_getElem? (i := 110) rfl)
theorem w_114 {Z : State} {a0 : Array Value} (hw : ∀ d ∈ tables_1, d.before a0 Z = true) : (Jvm.Cond.code ({ cls := "java/lang/String", name := "substring", desc := "(II)Ljava/lang/String;" } : Jvm.MethodName) jdk_42_method_92_code (5 : Nat) (Option.some (Jvm.ClassFile.FieldType.object "java/lang/String"))).before a0 Z = true := hw _ (List.mem_of_getElem? (i := 114) rfl)
theorem pd_13 : parseMethodDescriptor "(II)Ljava/lang/String;" = some ⟨[.int, .int], some (.object "java/lang/String")⟩ := by decide +kernel
theorem d_p15_2_30 : decode prog_15_method_2_code 30 = .ok (.invokevirtual 63, 3) := by decide +kernel
theorem w_113 {Z : State} {a0 : Array Value} (hw : ∀ d ∈ tables_1, d.before a0 Z = true) : (Jvm.Cond.selects "java/lang/String" ({ cls := "java/lang/String", name := "substring", desc := "(II)Ljava/lang/String;" } : Jvm.MethodName) ({ cls := "java/lang/String", name := "substring", desc := "(II)Ljava/lang/String;" } : Jvm.MethodName)).before a0 Z = true := hw _ (List.mem_of_getElem? (i := 113) rfl)
theorem w_111 {Z : State} {a0 : Array Value} (hw : ∀ d ∈ tables_1, d.before a0 Z = true) : (Jvm.Cond.declares ({ cls := "java/lang/String", name := "substring", desc := "(II)Ljava/lang/String;" } : Jvm.MethodName)).before a0 Z = true := hw _ (List.mem_of_getElem? (i := 111) rfl)
theorem w_112 {Z : State} {a0 : Array Value} (hw : ∀ d ∈ tables_1, d.before a0 Z = true) : (Jvm.Cond.instanceMethod ({ cls := "java/lang/String", name := "substring", desc := "(II)Ljava/lang/String;" } : Jvm.MethodName)).before a0 Z = true := hw _ (List.mem_of_getElem? (i := 112) rfl)
theorem d_p15_2_33 : decode prog_15_method_2_code 33 = .ok (.areturn, 1) := by decide +kernel
theorem d_p15_2_22 : decode prog_15_method_2_code 22 = .ok (.ldc 40, 2) := by decide +kernel
theorem d_p15_2_24 : decode prog_15_method_2_code 24 = .ok (.goto 9, 3) := by decide +kernel
set_option maxRecDepth 65536 in
set_option maxHeartbeats 40000000 in
theorem rm_par_2 (l : Launch) (Z : State) (a0 : Array Value) (hw : ∀ d ∈ tables_1, d.before a0 Z = true) (ws : List Jvm.Cond) (us ub : Addr) (kb : ClassId) (c1_ c2_ c3_ c4_ zv : Int32) (gv : Value) (h0 : Heap) (n0 : Nat) (Z0 : n0 ≤ h0.size) (E0 : Exa Z h0 us "java/lang/String") (Cc0 : Fld Z h0 us "java/lang/String" "coder" "B" (.int (0 : Int32))) (V0 : Fld Z h0 us "java/lang/String" "value" "[B" (.ref ub)) (A0 : Arv Z h0 ub kb .byte (2 : Int32) [(.int (47 : Int32)), (.int (c1_.toInt8.toInt32))] (.int (0 : Int32))) (B1 : own_B c1_) (B2 : own_B c2_) (B3 : own_B c3_) (B4 : own_B c4_) (O0 : Old Z n0 h0) (hzv : ¬ zv = (0 : Int32)) (S0 : Sta Z Z.heap "java/lang/String" "COMPACT_STRINGS" "Z" (.int zv)) (rgv : gv.isRef = true) (G0 : Sta Z Z.heap "jdk/internal/util/Preconditions" "SIOOBE_FORMATTER" "Ljava/util/function/BiFunction;" gv) :
    own_MetH l Z consts_1 (⟨"com/example/grantfold/grantfold/model/Configuration", "parent", "(Ljava/lang/String;)Ljava/lang/String;"⟩ : MethodName) prog_15_method_2_code 2 (some (.object "java/lang/String")) ws ({ frames := 5, cells := 4, slots := 16, locals := 80 } : Room) #[(.ref us)] h0 (Q_par_2 Z us ub kb c1_ c2_ c3_ c4_ zv gv h0 n0) := by
  refine own_enterH (own := "com/example/grantfold/grantfold/model/Configuration") (plainFor_of_name pn_5) rfl ?_
  intro p e s m below meth c s₁ hlk hret hx hby hml hown hnm hZ hh hH X0 e0
  have N0 := Fr.nil n0
  refine own_cast (ef_par_2 m us) ?_
  have hS : s.Since s.vm 0 := (State.WarmedH.refl s).since 0
  have hk : 0 ≤ h0.size := Nat.zero_le _
  have C0 : CHr Z consts_1 s.vm h0 s.vm h0 := CHr.refl hH
  show own_Go _ _ _ _ (s₁.setTop (mkF m 0 #[.val (.ref us), .unset] []))
  refine own_go (fun t k => XS.aloadN X0.here hx rfl (hb hby d_p15_2_0) rfl rfl k) ?_
  show own_Go _ _ _ _ (s₁.setTop (mkF m 1 #[.val (.ref us), .unset] [(.ref us)]))
  obtain ⟨b280, T280, h280, k280, d280, kb280, X280, e280, E280, hS, hk, hZ, hown, A280, Fc280, Fv280, Va280, hia280, hib280, R280, -, hne280, st280⟩ := ldcCH X0 hx hZ hown (w_42 hw) (own_wS hw) e0 hS hk (own_EW hw) (List.mem_of_getElem? (i := 0) rfl) C0.1 (vs := [(.int (47 : Int32))]) (z := (1 : Int32)) ⟨by decide, rfl⟩ (by decide) rfl (g := (mkF m 1 #[.val (.ref us), .unset] [(.ref us)])) rfl (hb hby d_p15_2_1) (n := 4) (by decide) (by decide) (by decide) (by decide)
  refine own_go st280 ?_
  have Z280 : n0 ≤ h280.size := (Nat.le_trans Z0 E280.1)
  have C280 := C0.trans R280
  have K280 : Keep h0 h280 [] := (Keep.refl h0 []).ext E280
  have hB281 : ∀ c ∈ ([(47 : Int32), c1_] : List Int32), own_B c := (List.forall_mem_cons.mpr ⟨(by constructor <;> decide : own_B (47 : Int32)), (List.forall_mem_cons.mpr ⟨B1, (List.forall_mem_nil _)⟩)⟩)
  have hD281 := StrChars.Road.codOf (cs := ([(47 : Int32), c1_] : List Int32)) (n := 2) rfl (fun x hx => (hB281 x hx).2)
  have hU281 := own_up _ hB281
  have hB282 : ∀ c ∈ ([(47 : Int32)] : List Int32), own_B c := (List.forall_mem_cons.mpr ⟨(by constructor <;> decide : own_B (47 : Int32)), (List.forall_mem_nil _)⟩)
  have hD282 := StrChars.Road.codOf (cs := ([(47 : Int32)] : List Int32)) (n := 1) rfl (fun x hx => (hB282 x hx).2)
  have hU282 := own_up _ hB282
  obtain ⟨cq283, kq283, q283a, q283b, q283c⟩ := isOf hZ e280 (E0.ext E280)
  obtain ⟨_, _, ⟨T283, L283, k283, n283⟩, -, X283, ⟨Lc283, hQ283, l283, y283, z283⟩, st283⟩ := X280.virtualBack hx (y := (⟨"java/lang/String", "equals", "(Ljava/lang/Object;)Z"⟩ : MethodName)) (z := (⟨"java/lang/String", "equals", "(Ljava/lang/Object;)Z"⟩ : MethodName)) hown (mvT hZ (w_45 hw)) (mvT hZ (w_46 hw)) (notFace_of_selects (args := #[]) (mvT hZ (w_48 hw))) (mvT hZ (w_48 hw)) (mvT hZ (w_47 hw)) (by decide) (StrChars.Road.eqW (W := 0) hZ (own_weq hw) (kI := 4) (w_6 hw) (cs := ([(47 : Int32), c1_] : List Int32)) (E0.ext E280) (V0.ext E280) (Cc0.ext E280) (A0.ext E280) hD281 hU281 (Nat.le_of_ble_eq_true rfl) (ds := ([(47 : Int32)] : List Int32)) A280 Fv280 Fc280 Va280 hD282 hU282 (Nat.le_of_ble_eq_true rfl) (S0.ext (O0.ext E280).2) hzv (by decide) (by decide)) q283a q283c (g := (mkF m 3 #[.val (.ref us), .unset] [(.ref b280), (.ref us)])) rfl (by rw [hml]; rfl) (Steps.refl _) (argsL := [(.ref b280)]) (rest := []) (lenOf pd_11 rfl) rfl (by show 2 * 0 + _ ≤ _; exact Nat.le_of_eq rfl) (hb hby d_p15_2_3) (fun _ _ => ⟨rfl, e280, (by decide : 2 + 0 ≤ _), (by decide : 8 + 0 ≤ _)⟩)
  dsimp only [Pt.U, Pt.locs, Pt.cells, Pt.slots] at X283 l283 y283 z283 st283 hQ283
  subst l283 y283 z283
  obtain ⟨hv283, rfl, e283⟩ := hQ283
  obtain rfl := (hv283.resolve_left fun q => absurd (congrArg List.length q.2) (by simp)).1
  have N283q : Fr n0 ([] : List Loc) := Fr.nil n0
  have N283 := Fr.app N0 N283q
  refine own_go (fun t k => st283.trans k) ?_
  show own_Go _ _ _ _ (T283.setTop (mkF m 6 #[.val (.ref us), .unset] [(.int (0 : Int32))]))
  refine own_go (fun t k => XS.ifYes X283.here hx rfl (pc0 := 6) (pc' := 11) rfl (hb hby d_p15_2_6) rfl ((if0 _ _).trans (teq (by decide : (0 : Int32) = (0 : Int32))).1) (by decide) (by decide) k) ?_
  refine own_go (fun t k => XS.aloadN X283.here hx rfl (hb hby d_p15_2_11) rfl rfl k) ?_
  refine own_go (fun t k => XS.bipush X283.here hx rfl (hb hby d_p15_2_12) k) ?_
  by_cases s1 : c1_ = 47
  · obtain ⟨cq284, kq284, q284a, q284b, q284c⟩ := isOf hZ e283 (E0.ext E280)
    obtain ⟨_, _, ⟨T284, L284, k284, n284⟩, -, X284, ⟨Lc284, hQ284, l284, y284, z284⟩, st284⟩ := X283.virtualBack hx (y := (⟨"java/lang/String", "lastIndexOf", "(I)I"⟩ : MethodName)) (z := (⟨"java/lang/String", "lastIndexOf", "(I)I"⟩ : MethodName)) hown (mvT hZ (w_55 hw)) (mvT hZ (w_56 hw)) (notFace_of_selects (args := #[]) (mvT hZ (w_58 hw))) (mvT hZ (w_58 hw)) (mvT hZ (w_57 hw)) (by decide) (backOf (W := 0) (rm_lx1_2 l Z a0 hw [] us ub kb c1_ c2_ c3_ c4_ zv gv h280 n0 Z280 (E0.ext E280) (Cc0.ext E280) (V0.ext E280) (A0.ext E280) B1 B2 B3 B4 (O0.ext E280) hzv S0 rgv G0) hZ (w_59 hw) (w_7 hw) (by decide) (by decide)) q284a q284c (g := (mkF m 14 #[.val (.ref us), .unset] [(.int (47 : Int32)), (.ref us)])) rfl (by rw [hml]; rfl) (Steps.refl _) (argsL := [(.int (47 : Int32))]) (rest := []) (lenOf pd_12 rfl) rfl (by show 2 * 0 + _ ≤ _; exact Nat.le_of_eq rfl) (hb hby d_p15_2_14) (fun _ _ => ⟨rfl, e283, (by decide : 2 + 0 ≤ _), (by decide : 8 + 0 ≤ _)⟩)
    dsimp only [Pt.U, Pt.locs, Pt.cells, Pt.slots] at X284 l284 y284 z284 st284 hQ284
    subst l284 y284 z284
    obtain ⟨rfl, N284q, e284⟩ := hQ284
    have N284 := Fr.app N283 N284q
    rw [(by simp [own_last2, s1] : own_last2 c1_ c2_ c3_ c4_ = 1)] at st284
    refine own_go (fun t k => st284.trans k) ?_
    refine own_go (fun t k => XS.istoreN X284.here hx rfl (hb hby d_p15_2_17) rfl (l' := #[.val (.ref us), .val (.int (1 : Int32))]) rfl k) ?_
    refine own_go (fun t k => XS.iloadN X284.here hx rfl (hb hby d_p15_2_18) rfl k) ?_
    show own_Go _ _ _ _ (T284.setTop (mkF m 19 #[.val (.ref us), .val (.int (1 : Int32))] [(.int (1 : Int32))]))
    refine own_go (fun t k => XS.ifYes X284.here hx rfl (pc0 := 19) (pc' := 27) rfl (hb hby d_p15_2_19) rfl ((if0 _ _).trans (feq (by decide : ¬ ((1 : Int32) = (0 : Int32)))).2) (by decide) (by decide) k) ?_
    refine own_go (fun t k => XS.aloadN X284.here hx rfl (hb hby d_p15_2_27) rfl rfl k) ?_
    refine own_go (fun t k => XS.iconst X284.here hx rfl (hb hby d_p15_2_28) k) ?_
    refine own_go (fun t k => XS.iloadN X284.here hx rfl (hb hby d_p15_2_29) rfl k) ?_
    obtain ⟨cq285, kq285, q285a, q285b, q285c⟩ := isOf hZ e284 (E0.ext E280)
    obtain ⟨_, _, ⟨T285, L285, k285, n285⟩, -, X285, ⟨Lc285, hQ285, l285, y285, z285⟩, st285⟩ := X284.virtualBack hx (y := (⟨"java/lang/String", "substring", "(II)Ljava/lang/String;"⟩ : MethodName)) (z := (⟨"java/lang/String", "substring", "(II)Ljava/lang/String;"⟩ : MethodName)) hown (mvT hZ (w_110 hw)) (mvT hZ (w_111 hw)) (notFace_of_selects (args := #[]) (mvT hZ (w_113 hw))) (mvT hZ (w_113 hw)) (mvT hZ (w_112 hw)) (by decide) (backOf (W := 0) (rm_sub_1 l Z a0 hw [] us ub kb ([(47 : Int32), c1_] : List Int32) zv gv h280 n0 Z280 (E0.ext E280) (Cc0.ext E280) (V0.ext E280) (A0.ext E280) (List.forall_mem_cons.mpr ⟨(by constructor <;> decide : own_B (47 : Int32)), (List.forall_mem_cons.mpr ⟨B1, (List.forall_mem_nil _)⟩)⟩) (Nat.le_of_ble_eq_true rfl) (by show (1 : Int32) < Int32.ofNat 2 - (0 : Int32); decide) (by show (0 : Int32).toNatClampNeg + (1 : Int32).toNatClampNeg ≤ (Int32.ofNat 2).toNatClampNeg; decide) (by show ¬ (1 : Int32) = Int32.ofNat 2; decide) (by show ¬ Int32.ofNat 2 < (1 : Int32); decide) (O0.ext E280) hzv S0 rgv G0) hZ (w_114 hw) (w_7 hw) (by decide) (by decide)) q285a q285c (g := (mkF m 30 #[.val (.ref us), .val (.int (1 : Int32))] [(.int (1 : Int32)), (.int (0 : Int32)), (.ref us)])) rfl (by rw [hml]; rfl) (Steps.refl _) (argsL := [(.int (0 : Int32)), (.int (1 : Int32))]) (rest := []) (lenOf pd_13 rfl) rfl (by show 2 * 0 + _ ≤ _; exact Nat.le_of_eq rfl) (hb hby d_p15_2_30) (fun _ _ => ⟨rfl, e284, (by decide : 2 + 2 ≤ _), (by decide : 8 + 5 ≤ _)⟩)
    dsimp only [Pt.U, Pt.locs, Pt.cells, Pt.slots] at X285 l285 y285 z285 st285 hQ285
    subst l285 y285 z285
    generalize e285 : T285.heap = h285 at hQ285
    obtain ⟨ux285, uy285, ky285, rfl, N285q, K285q, lo285, q285, ly285, qy285, E285, Cd285, V285, A285⟩ := hQ285
    have N285 := Fr.app N284 N285q
    refine own_go (fun t k => st285.trans k) ?_
    have C285 := C280.trans (CHr.keep K285q all0 C280.1)
    have Z285 : n0 ≤ h285.size := (Nat.le_trans Z280 K285q.1)
    have K285 : Keep h0 h285 [] := K280.trans K285q all0
    have hi285 := E285.lt
    have hy285 := A285.lt
    replace A285 : Arv Z h285 uy285 ky285 .byte (1 : Int32) [(.int (47 : Int32))] (.int (0 : Int32)) := A285
    show own_Go _ _ _ _ (T285.setTop (mkF m 33 #[.val (.ref us), .val (.int (1 : Int32))] [(.ref ux285)]))
    refine own_retH X285 hx hS (Nat.le_trans (Nat.le_trans hk K285q.1) (Nat.le_of_eq (congrArg Array.size e285.symm))) (by rw [hh, e285]; exact C285.trans (CHv.at X285 hZ (own_EW hw) C285.1)) hlk hret rfl (Or.inr (Or.inr (Or.inr (Or.inr ⟨rfl, rfl, rfl⟩)))) (hb hby d_p15_2_33) ?_ (by decide) (by decide)
    rw [e285]
    exact ⟨ux285, uy285, ky285, rfl, N285, K285, E285, Cd285, V285, (Or.inr ⟨s1, A285⟩)⟩
  · obtain ⟨cq286, kq286, q286a, q286b, q286c⟩ := isOf hZ e283 (E0.ext E280)
    obtain ⟨_, _, ⟨T286, L286, k286, n286⟩, -, X286, ⟨Lc286, hQ286, l286, y286, z286⟩, st286⟩ := X283.virtualBack hx (y := (⟨"java/lang/String", "lastIndexOf", "(I)I"⟩ : MethodName)) (z := (⟨"java/lang/String", "lastIndexOf", "(I)I"⟩ : MethodName)) hown (mvT hZ (w_55 hw)) (mvT hZ (w_56 hw)) (notFace_of_selects (args := #[]) (mvT hZ (w_58 hw))) (mvT hZ (w_58 hw)) (mvT hZ (w_57 hw)) (by decide) (backOf (W := 0) (rm_lx1_2 l Z a0 hw [] us ub kb c1_ c2_ c3_ c4_ zv gv h280 n0 Z280 (E0.ext E280) (Cc0.ext E280) (V0.ext E280) (A0.ext E280) B1 B2 B3 B4 (O0.ext E280) hzv S0 rgv G0) hZ (w_59 hw) (w_7 hw) (by decide) (by decide)) q286a q286c (g := (mkF m 14 #[.val (.ref us), .unset] [(.int (47 : Int32)), (.ref us)])) rfl (by rw [hml]; rfl) (Steps.refl _) (argsL := [(.int (47 : Int32))]) (rest := []) (lenOf pd_12 rfl) rfl (by show 2 * 0 + _ ≤ _; exact Nat.le_of_eq rfl) (hb hby d_p15_2_14) (fun _ _ => ⟨rfl, e283, (by decide : 2 + 0 ≤ _), (by decide : 8 + 0 ≤ _)⟩)
    dsimp only [Pt.U, Pt.locs, Pt.cells, Pt.slots] at X286 l286 y286 z286 st286 hQ286
    subst l286 y286 z286
    obtain ⟨rfl, N286q, e286⟩ := hQ286
    have N286 := Fr.app N283 N286q
    rw [(by simp [own_last2, s1] : own_last2 c1_ c2_ c3_ c4_ = 0)] at st286
    refine own_go (fun t k => st286.trans k) ?_
    refine own_go (fun t k => XS.istoreN X286.here hx rfl (hb hby d_p15_2_17) rfl (l' := #[.val (.ref us), .val (.int (0 : Int32))]) rfl k) ?_
    refine own_go (fun t k => XS.iloadN X286.here hx rfl (hb hby d_p15_2_18) rfl k) ?_
    show own_Go _ _ _ _ (T286.setTop (mkF m 19 #[.val (.ref us), .val (.int (0 : Int32))] [(.int (0 : Int32))]))
    refine own_go (fun t k => XS.ifNo X286.here hx rfl (hb hby d_p15_2_19) rfl ((if0 _ _).trans (teq (by decide : (0 : Int32) = (0 : Int32))).2) k) ?_
    show own_Go _ _ _ _ (T286.setTop (mkF m 22 #[.val (.ref us), .val (.int (0 : Int32))] []))
    obtain ⟨b287, T287, h287, k287, d287, kb287, X287, e287, E287, hS, hk, hZ, hown, A287, Fc287, Fv287, Va287, hia287, hib287, R287, -, hne287, st287⟩ := ldcCH X286 hx hZ hown (w_42 hw) (own_wS hw) e286 hS hk (own_EW hw) (List.mem_of_getElem? (i := 0) rfl) C280.1 (vs := [(.int (47 : Int32))]) (z := (1 : Int32)) ⟨by decide, rfl⟩ (by decide) rfl (g := (mkF m 22 #[.val (.ref us), .val (.int (0 : Int32))] [])) rfl (hb hby d_p15_2_22) (n := 4) (by decide) (by decide) (by decide) (by decide)
    refine own_go st287 ?_
    have Z287 : n0 ≤ h287.size := (Nat.le_trans Z280 E287.1)
    have C287 := C280.trans R287
    have K287 : Keep h0 h287 [] := K280.ext E287
    refine own_go (fun t k => XS.goto X287.here hx rfl (pc0 := 24) (pc' := 33) rfl (hb hby d_p15_2_24) (by decide) (by decide) k) ?_
    show own_Go _ _ _ _ (T287.setTop (mkF m 33 #[.val (.ref us), .val (.int (0 : Int32))] [(.ref b287)]))
    refine own_retH X287 hx hS (Nat.le_trans hk (Nat.le_of_eq (congrArg Array.size e287.symm))) (by rw [hh, e287]; exact C287.trans (CHv.at X287 hZ (own_EW hw) C287.1)) hlk hret rfl (Or.inr (Or.inr (Or.inr (Or.inr ⟨rfl, rfl, rfl⟩)))) (hb hby d_p15_2_33) ?_ (by decide) (by decide)
    rw [e287]
    exact ⟨b287, d287, kb287, rfl, N286, K287, A287, Fc287, Fv287, (Or.inl ⟨s1, Va287⟩)⟩
def Q_par_3 (Z : State) (us : Addr) (ub : Addr) (kb : ClassId) (c1_ : Int32) (c2_ : Int32) (c3_ : Int32) (c4_ : Int32) (zv : Int32) (gv : Value) (h0 : Heap) (n0 : Nat) (v : Option Value) (h : Heap) (L : List Loc) : Prop := ∃ (ux uy : Addr) (ky : ClassId), v = some (.ref ux) ∧ Fr n0 L ∧ Keep h0 h [] ∧ Exa Z h ux "java/lang/String" ∧ Fld Z h ux "java/lang/String" "coder" "B" (.int (0 : Int32)) ∧ Fld Z h ux "java/lang/String" "value" "[B" (.ref uy) ∧ ((¬ c1_ = 47 ∧ ¬ c2_ = 47 ∧ Arv Z h uy ky .byte (1 : Int32) [(.int (47 : Int32))] (.int (0 : Int32))) ∨ (c1_ = 47 ∧ ¬ c2_ = 47 ∧ Arv Z h uy ky .byte (1 : Int32) [(.int (47 : Int32))] (.int (0 : Int32))) ∨ (c2_ = 47 ∧ Arv Z h uy ky .byte (2 : Int32) [(.int (47 : Int32)), (.int (c1_.toInt8.toInt32))] (.int (0 : Int32))))
theorem ef_par_3 (m : MethodId) (us : Addr) : entryFrame m #[(.ref us)] 2 = mkF m 0 #[.val (.ref us), .unset] [] := by first | (simp [entryFrame, mkF, argsToLocals, Value.category]; done) | rfl
set_option maxRecDepth 65536 in
set_option maxHeartbeats 40000000 in
theorem rm_par_3 (l : Launch) (Z : State) (a0 : Array Value) (hw : ∀ d ∈ tables_1, d.before a0 Z = true) (ws : List Jvm.Cond) (us ub : Addr) (kb : ClassId) (c1_ c2_ c3_ c4_ zv : Int32) (gv : Value) (h0 : Heap) (n0 : Nat) (Z0 : n0 ≤ h0.size) (E0 : Exa Z h0 us "java/lang/String") (Cc0 : Fld Z h0 us "java/lang/String" "coder" "B" (.int (0 : Int32))) (V0 : Fld Z h0 us "java/lang/String" "value" "[B" (.ref ub)) (A0 : Arv Z h0 ub kb .byte (3 : Int32) [(.int (47 : Int32)), (.int (c1_.toInt8.toInt32)), (.int (c2_.toInt8.toInt32))] (.int (0 : Int32))) (B1 : own_B c1_) (B2 : own_B c2_) (B3 : own_B c3_) (B4 : own_B c4_) (O0 : Old Z n0 h0) (hzv : ¬ zv = (0 : Int32)) (S0 : Sta Z Z.heap "java/lang/String" "COMPACT_STRINGS" "Z" (.int zv)) (rgv : gv.isRef = true) (G0 : Sta Z Z.heap "jdk/internal/util/Preconditions" "SIOOBE_FORMATTER" "Ljava/util/function/BiFunction;" gv) :
    own_MetH l Z consts_1 (⟨"com/example/grantfold/grantfold/model/Configuration", "parent", "(Ljava/lang/String;)Ljava/lang/String;"⟩ : MethodName) prog_15_method_2_code 2 (some (.object "java/lang/String")) ws ({ frames := 5, cells := 4, slots := 16, locals := 80 } : Room) #[(.ref us)] h0 (Q_par_3 Z us ub kb c1_ c2_ c3_ c4_ zv gv h0 n0) := by
  refine own_enterH (own := "com/example/grantfold/grantfold/model/Configuration") (plainFor_of_name pn_5) rfl ?_
  intro p e s m below meth c s₁ hlk hret hx hby hml hown hnm hZ hh hH X0 e0
  have N0 := Fr.nil n0
  refine own_cast (ef_par_3 m us) ?_
  have hS : s.Since s.vm 0 := (State.WarmedH.refl s).since 0
  have hk : 0 ≤ h0.size := Nat.zero_le _
  have C0 : CHr Z consts_1 s.vm h0 s.vm h0 := CHr.refl hH
  show own_Go _ _ _ _ (s₁.setTop (mkF m 0 #[.val (.ref us), .unset] []))
  refine own_go (fun t k => XS.aloadN X0.here hx rfl (hb hby d_p15_2_0) rfl rfl k) ?_
  show own_Go _ _ _ _ (s₁.setTop (mkF m 1 #[.val (.ref us), .unset] [(.ref us)]))
  obtain ⟨b288, T288, h288, k288, d288, kb288, X288, e288, E288, hS, hk, hZ, hown, A288, Fc288, Fv288, Va288, hia288, hib288, R288, -, hne288, st288⟩ := ldcCH X0 hx hZ hown (w_42 hw) (own_wS hw) e0 hS hk (own_EW hw) (List.mem_of_getElem? (i := 0) rfl) C0.1 (vs := [(.int (47 : Int32))]) (z := (1 : Int32)) ⟨by decide, rfl⟩ (by decide) rfl (g := (mkF m 1 #[.val (.ref us), .unset] [(.ref us)])) rfl (hb hby d_p15_2_1) (n := 4) (by decide) (by decide) (by decide) (by decide)
  refine own_go st288 ?_
  have Z288 : n0 ≤ h288.size := (Nat.le_trans Z0 E288.1)
  have C288 := C0.trans R288
  have K288 : Keep h0 h288 [] := (Keep.refl h0 []).ext E288
  have hB289 : ∀ c ∈ ([(47 : Int32), c1_, c2_] : List Int32), own_B c := (List.forall_mem_cons.mpr ⟨(by constructor <;> decide : own_B (47 : Int32)), (List.forall_mem_cons.mpr ⟨B1, (List.forall_mem_cons.mpr ⟨B2, (List.forall_mem_nil _)⟩)⟩)⟩)
  have hD289 := StrChars.Road.codOf (cs := ([(47 : Int32), c1_, c2_] : List Int32)) (n := 3) rfl (fun x hx => (hB289 x hx).2)
  have hU289 := own_up _ hB289
  have hB290 : ∀ c ∈ ([(47 : Int32)] : List Int32), own_B c := (List.forall_mem_cons.mpr ⟨(by constructor <;> decide : own_B (47 : Int32)), (List.forall_mem_nil _)⟩)
  have hD290 := StrChars.Road.codOf (cs := ([(47 : Int32)] : List Int32)) (n := 1) rfl (fun x hx => (hB290 x hx).2)
  have hU290 := own_up _ hB290
  obtain ⟨cq291, kq291, q291a, q291b, q291c⟩ := isOf hZ e288 (E0.ext E288)
  obtain ⟨_, _, ⟨T291, L291, k291, n291⟩, -, X291, ⟨Lc291, hQ291, l291, y291, z291⟩, st291⟩ := X288.virtualBack hx (y := (⟨"java/lang/String", "equals", "(Ljava/lang/Object;)Z"⟩ : MethodName)) (z := (⟨"java/lang/String", "equals", "(Ljava/lang/Object;)Z"⟩ : MethodName)) hown (mvT hZ (w_45 hw)) (mvT hZ (w_46 hw)) (notFace_of_selects (args := #[]) (mvT hZ (w_48 hw))) (mvT hZ (w_48 hw)) (mvT hZ (w_47 hw)) (by decide) (StrChars.Road.eqW (W := 0) hZ (own_weq hw) (kI := 4) (w_6 hw) (cs := ([(47 : Int32), c1_, c2_] : List Int32)) (E0.ext E288) (V0.ext E288) (Cc0.ext E288) (A0.ext E288) hD289 hU289 (Nat.le_of_ble_eq_true rfl) (ds := ([(47 : Int32)] : List Int32)) A288 Fv288 Fc288 Va288 hD290 hU290 (Nat.le_of_ble_eq_true rfl) (S0.ext (O0.ext E288).2) hzv (by decide) (by decide)) q291a q291c (g := (mkF m 3 #[.val (.ref us), .unset] [(.ref b288), (.ref us)])) rfl (by rw [hml]; rfl) (Steps.refl _) (argsL := [(.ref b288)]) (rest := []) (lenOf pd_11 rfl) rfl (by show 2 * 0 + _ ≤ _; exact Nat.le_of_eq rfl) (hb hby d_p15_2_3) (fun _ _ => ⟨rfl, e288, (by decide : 2 + 0 ≤ _), (by decide : 8 + 0 ≤ _)⟩)
  dsimp only [Pt.U, Pt.locs, Pt.cells, Pt.slots] at X291 l291 y291 z291 st291 hQ291
  subst l291 y291 z291
  obtain ⟨hv291, rfl, e291⟩ := hQ291
  obtain rfl := (hv291.resolve_left fun q => absurd (congrArg List.length q.2) (by simp)).1
  have N291q : Fr n0 ([] : List Loc) := Fr.nil n0
  have N291 := Fr.app N0 N291q
  refine own_go (fun t k => st291.trans k) ?_
  show own_Go _ _ _ _ (T291.setTop (mkF m 6 #[.val (.ref us), .unset] [(.int (0 : Int32))]))
  refine own_go (fun t k => XS.ifYes X291.here hx rfl (pc0 := 6) (pc' := 11) rfl (hb hby d_p15_2_6) rfl ((if0 _ _).trans (teq (by decide : (0 : Int32) = (0 : Int32))).1) (by decide) (by decide) k) ?_
  refine own_go (fun t k => XS.aloadN X291.here hx rfl (hb hby d_p15_2_11) rfl rfl k) ?_
  refine own_go (fun t k => XS.bipush X291.here hx rfl (hb hby d_p15_2_12) k) ?_
  by_cases s2 : c2_ = 47
  · obtain ⟨cq292, kq292, q292a, q292b, q292c⟩ := isOf hZ e291 (E0.ext E288)
    obtain ⟨_, _, ⟨T292, L292, k292, n292⟩, -, X292, ⟨Lc292, hQ292, l292, y292, z292⟩, st292⟩ := X291.virtualBack hx (y := (⟨"java/lang/String", "lastIndexOf", "(I)I"⟩ : MethodName)) (z := (⟨"java/lang/String", "lastIndexOf", "(I)I"⟩ : MethodName)) hown (mvT hZ (w_55 hw)) (mvT hZ (w_56 hw)) (notFace_of_selects (args := #[]) (mvT hZ (w_58 hw))) (mvT hZ (w_58 hw)) (mvT hZ (w_57 hw)) (by decide) (backOf (W := 0) (rm_lx1_3 l Z a0 hw [] us ub kb c1_ c2_ c3_ c4_ zv gv h288 n0 Z288 (E0.ext E288) (Cc0.ext E288) (V0.ext E288) (A0.ext E288) B1 B2 B3 B4 (O0.ext E288) hzv S0 rgv G0) hZ (w_59 hw) (w_7 hw) (by decide) (by decide)) q292a q292c (g := (mkF m 14 #[.val (.ref us), .unset] [(.int (47 : Int32)), (.ref us)])) rfl (by rw [hml]; rfl) (Steps.refl _) (argsL := [(.int (47 : Int32))]) (rest := []) (lenOf pd_12 rfl) rfl (by show 2 * 0 + _ ≤ _; exact Nat.le_of_eq rfl) (hb hby d_p15_2_14) (fun _ _ => ⟨rfl, e291, (by decide : 2 + 0 ≤ _), (by decide : 8 + 0 ≤ _)⟩)
    dsimp only [Pt.U, Pt.locs, Pt.cells, Pt.slots] at X292 l292 y292 z292 st292 hQ292
    subst l292 y292 z292
    obtain ⟨rfl, N292q, e292⟩ := hQ292
    have N292 := Fr.app N291 N292q
    rw [(by simp [own_last3, s2] : own_last3 c1_ c2_ c3_ c4_ = 2)] at st292
    refine own_go (fun t k => st292.trans k) ?_
    refine own_go (fun t k => XS.istoreN X292.here hx rfl (hb hby d_p15_2_17) rfl (l' := #[.val (.ref us), .val (.int (2 : Int32))]) rfl k) ?_
    refine own_go (fun t k => XS.iloadN X292.here hx rfl (hb hby d_p15_2_18) rfl k) ?_
    show own_Go _ _ _ _ (T292.setTop (mkF m 19 #[.val (.ref us), .val (.int (2 : Int32))] [(.int (2 : Int32))]))
    refine own_go (fun t k => XS.ifYes X292.here hx rfl (pc0 := 19) (pc' := 27) rfl (hb hby d_p15_2_19) rfl ((if0 _ _).trans (feq (by decide : ¬ ((2 : Int32) = (0 : Int32)))).2) (by decide) (by decide) k) ?_
    refine own_go (fun t k => XS.aloadN X292.here hx rfl (hb hby d_p15_2_27) rfl rfl k) ?_
    refine own_go (fun t k => XS.iconst X292.here hx rfl (hb hby d_p15_2_28) k) ?_
    refine own_go (fun t k => XS.iloadN X292.here hx rfl (hb hby d_p15_2_29) rfl k) ?_
    obtain ⟨cq293, kq293, q293a, q293b, q293c⟩ := isOf hZ e292 (E0.ext E288)
    obtain ⟨_, _, ⟨T293, L293, k293, n293⟩, -, X293, ⟨Lc293, hQ293, l293, y293, z293⟩, st293⟩ := X292.virtualBack hx (y := (⟨"java/lang/String", "substring", "(II)Ljava/lang/String;"⟩ : MethodName)) (z := (⟨"java/lang/String", "substring", "(II)Ljava/lang/String;"⟩ : MethodName)) hown (mvT hZ (w_110 hw)) (mvT hZ (w_111 hw)) (notFace_of_selects (args := #[]) (mvT hZ (w_113 hw))) (mvT hZ (w_113 hw)) (mvT hZ (w_112 hw)) (by decide) (backOf (W := 0) (rm_sub_2 l Z a0 hw [] us ub kb ([(47 : Int32), c1_, c2_] : List Int32) zv gv h288 n0 Z288 (E0.ext E288) (Cc0.ext E288) (V0.ext E288) (A0.ext E288) (List.forall_mem_cons.mpr ⟨(by constructor <;> decide : own_B (47 : Int32)), (List.forall_mem_cons.mpr ⟨B1, (List.forall_mem_cons.mpr ⟨B2, (List.forall_mem_nil _)⟩)⟩)⟩) (Nat.le_of_ble_eq_true rfl) (by show (2 : Int32) < Int32.ofNat 3 - (0 : Int32); decide) (by show (0 : Int32).toNatClampNeg + (2 : Int32).toNatClampNeg ≤ (Int32.ofNat 3).toNatClampNeg; decide) (by show ¬ (2 : Int32) = Int32.ofNat 3; decide) (by show ¬ Int32.ofNat 3 < (2 : Int32); decide) (O0.ext E288) hzv S0 rgv G0) hZ (w_114 hw) (w_7 hw) (by decide) (by decide)) q293a q293c (g := (mkF m 30 #[.val (.ref us), .val (.int (2 : Int32))] [(.int (2 : Int32)), (.int (0 : Int32)), (.ref us)])) rfl (by rw [hml]; rfl) (Steps.refl _) (argsL := [(.int (0 : Int32)), (.int (2 : Int32))]) (rest := []) (lenOf pd_13 rfl) rfl (by show 2 * 0 + _ ≤ _; exact Nat.le_of_eq rfl) (hb hby d_p15_2_30) (fun _ _ => ⟨rfl, e292, (by decide : 2 + 2 ≤ _), (by decide : 8 + 6 ≤ _)⟩)
    dsimp only [Pt.U, Pt.locs, Pt.cells, Pt.slots] at X293 l293 y293 z293 st293 hQ293
    subst l293 y293 z293
    generalize e293 : T293.heap = h293 at hQ293
    obtain ⟨ux293, uy293, ky293, rfl, N293q, K293q, lo293, q293, ly293, qy293, E293, Cd293, V293, A293⟩ := hQ293
    have N293 := Fr.app N292 N293q
    refine own_go (fun t k => st293.trans k) ?_
    have C293 := C288.trans (CHr.keep K293q all0 C288.1)
    have Z293 : n0 ≤ h293.size := (Nat.le_trans Z288 K293q.1)
    have K293 : Keep h0 h293 [] := K288.trans K293q all0
    have hi293 := E293.lt
    have hy293 := A293.lt
    replace A293 : Arv Z h293 uy293 ky293 .byte (2 : Int32) [(.int (47 : Int32)), (.int (c1_.toInt8.toInt32))] (.int (0 : Int32)) := A293
    show own_Go _ _ _ _ (T293.setTop (mkF m 33 #[.val (.ref us), .val (.int (2 : Int32))] [(.ref ux293)]))
    refine own_retH X293 hx hS (Nat.le_trans (Nat.le_trans hk K293q.1) (Nat.le_of_eq (congrArg Array.size e293.symm))) (by rw [hh, e293]; exact C293.trans (CHv.at X293 hZ (own_EW hw) C293.1)) hlk hret rfl (Or.inr (Or.inr (Or.inr (Or.inr ⟨rfl, rfl, rfl⟩)))) (hb hby d_p15_2_33) ?_ (by decide) (by decide)
    rw [e293]
    exact ⟨ux293, uy293, ky293, rfl, N293, K293, E293, Cd293, V293, (Or.inr (Or.inr ⟨s2, A293⟩))⟩
  · by_cases s1 : c1_ = 47
    · obtain ⟨cq294, kq294, q294a, q294b, q294c⟩ := isOf hZ e291 (E0.ext E288)
      obtain ⟨_, _, ⟨T294, L294, k294, n294⟩, -, X294, ⟨Lc294, hQ294, l294, y294, z294⟩, st294⟩ := X291.virtualBack hx (y := (⟨"java/lang/String", "lastIndexOf", "(I)I"⟩ : MethodName)) (z := (⟨"java/lang/String", "lastIndexOf", "(I)I"⟩ : MethodName)) hown (mvT hZ (w_55 hw)) (mvT hZ (w_56 hw)) (notFace_of_selects (args := #[]) (mvT hZ (w_58 hw))) (mvT hZ (w_58 hw)) (mvT hZ (w_57 hw)) (by decide) (backOf (W := 0) (rm_lx1_3 l Z a0 hw [] us ub kb c1_ c2_ c3_ c4_ zv gv h288 n0 Z288 (E0.ext E288) (Cc0.ext E288) (V0.ext E288) (A0.ext E288) B1 B2 B3 B4 (O0.ext E288) hzv S0 rgv G0) hZ (w_59 hw) (w_7 hw) (by decide) (by decide)) q294a q294c (g := (mkF m 14 #[.val (.ref us), .unset] [(.int (47 : Int32)), (.ref us)])) rfl (by rw [hml]; rfl) (Steps.refl _) (argsL := [(.int (47 : Int32))]) (rest := []) (lenOf pd_12 rfl) rfl (by show 2 * 0 + _ ≤ _; exact Nat.le_of_eq rfl) (hb hby d_p15_2_14) (fun _ _ => ⟨rfl, e291, (by decide : 2 + 0 ≤ _), (by decide : 8 + 0 ≤ _)⟩)
      dsimp only [Pt.U, Pt.locs, Pt.cells, Pt.slots] at X294 l294 y294 z294 st294 hQ294
      subst l294 y294 z294
      obtain ⟨rfl, N294q, e294⟩ := hQ294
      have N294 := Fr.app N291 N294q
      rw [(by simp [own_last3, s1, s2] : own_last3 c1_ c2_ c3_ c4_ = 1)] at st294
      refine own_go (fun t k => st294.trans k) ?_
      refine own_go (fun t k => XS.istoreN X294.here hx rfl (hb hby d_p15_2_17) rfl (l' := #[.val (.ref us), .val (.int (1 : Int32))]) rfl k) ?_
      refine own_go (fun t k => XS.iloadN X294.here hx rfl (hb hby d_p15_2_18) rfl k) ?_
      show own_Go _ _ _ _ (T294.setTop (mkF m 19 #[.val (.ref us), .val (.int (1 : Int32))] [(.int (1 : Int32))]))
      refine own_go (fun t k => XS.ifYes X294.here hx rfl (pc0 := 19) (pc' := 27) rfl (hb hby d_p15_2_19) rfl ((if0 _ _).trans (feq (by decide : ¬ ((1 : Int32) = (0 : Int32)))).2) (by decide) (by decide) k) ?_
      refine own_go (fun t k => XS.aloadN X294.here hx rfl (hb hby d_p15_2_27) rfl rfl k) ?_
      refine own_go (fun t k => XS.iconst X294.here hx rfl (hb hby d_p15_2_28) k) ?_
      refine own_go (fun t k => XS.iloadN X294.here hx rfl (hb hby d_p15_2_29) rfl k) ?_
      obtain ⟨cq295, kq295, q295a, q295b, q295c⟩ := isOf hZ e294 (E0.ext E288)
      obtain ⟨_, _, ⟨T295, L295, k295, n295⟩, -, X295, ⟨Lc295, hQ295, l295, y295, z295⟩, st295⟩ := X294.virtualBack hx (y := (⟨"java/lang/String", "substring", "(II)Ljava/lang/String;"⟩ : MethodName)) (z := (⟨"java/lang/String", "substring", "(II)Ljava/lang/String;"⟩ : MethodName)) hown (mvT hZ (w_110 hw)) (mvT hZ (w_111 hw)) (notFace_of_selects (args := #[]) (mvT hZ (w_113 hw))) (mvT hZ (w_113 hw)) (mvT hZ (w_112 hw)) (by decide) (backOf (W := 0) (rm_sub_1 l Z a0 hw [] us ub kb ([(47 : Int32), c1_, c2_] : List Int32) zv gv h288 n0 Z288 (E0.ext E288) (Cc0.ext E288) (V0.ext E288) (A0.ext E288) (List.forall_mem_cons.mpr ⟨(by constructor <;> decide : own_B (47 : Int32)), (List.forall_mem_cons.mpr ⟨B1, (List.forall_mem_cons.mpr ⟨B2, (List.forall_mem_nil _)⟩)⟩)⟩) (Nat.le_of_ble_eq_true rfl) (by show (1 : Int32) < Int32.ofNat 3 - (0 : Int32); decide) (by show (0 : Int32).toNatClampNeg + (1 : Int32).toNatClampNeg ≤ (Int32.ofNat 3).toNatClampNeg; decide) (by show ¬ (1 : Int32) = Int32.ofNat 3; decide) (by show ¬ Int32.ofNat 3 < (1 : Int32); decide) (O0.ext E288) hzv S0 rgv G0) hZ (w_114 hw) (w_7 hw) (by decide) (by decide)) q295a q295c (g := (mkF m 30 #[.val (.ref us), .val (.int (1 : Int32))] [(.int (1 : Int32)), (.int (0 : Int32)), (.ref us)])) rfl (by rw [hml]; rfl) (Steps.refl _) (argsL := [(.int (0 : Int32)), (.int (1 : Int32))]) (rest := []) (lenOf pd_13 rfl) rfl (by show 2 * 0 + _ ≤ _; exact Nat.le_of_eq rfl) (hb hby d_p15_2_30) (fun _ _ => ⟨rfl, e294, (by decide : 2 + 2 ≤ _), (by decide : 8 + 5 ≤ _)⟩)
      dsimp only [Pt.U, Pt.locs, Pt.cells, Pt.slots] at X295 l295 y295 z295 st295 hQ295
      subst l295 y295 z295
      generalize e295 : T295.heap = h295 at hQ295
      obtain ⟨ux295, uy295, ky295, rfl, N295q, K295q, lo295, q295, ly295, qy295, E295, Cd295, V295, A295⟩ := hQ295
      have N295 := Fr.app N294 N295q
      refine own_go (fun t k => st295.trans k) ?_
      have C295 := C288.trans (CHr.keep K295q all0 C288.1)
      have Z295 : n0 ≤ h295.size := (Nat.le_trans Z288 K295q.1)
      have K295 : Keep h0 h295 [] := K288.trans K295q all0
      have hi295 := E295.lt
      have hy295 := A295.lt
      replace A295 : Arv Z h295 uy295 ky295 .byte (1 : Int32) [(.int (47 : Int32))] (.int (0 : Int32)) := A295
      show own_Go _ _ _ _ (T295.setTop (mkF m 33 #[.val (.ref us), .val (.int (1 : Int32))] [(.ref ux295)]))
      refine own_retH X295 hx hS (Nat.le_trans (Nat.le_trans hk K295q.1) (Nat.le_of_eq (congrArg Array.size e295.symm))) (by rw [hh, e295]; exact C295.trans (CHv.at X295 hZ (own_EW hw) C295.1)) hlk hret rfl (Or.inr (Or.inr (Or.inr (Or.inr ⟨rfl, rfl, rfl⟩)))) (hb hby d_p15_2_33) ?_ (by decide) (by decide)
      rw [e295]
      exact ⟨ux295, uy295, ky295, rfl, N295, K295, E295, Cd295, V295, (Or.inr (Or.inl ⟨s1, s2, A295⟩))⟩
    · obtain ⟨cq296, kq296, q296a, q296b, q296c⟩ := isOf hZ e291 (E0.ext E288)
      obtain ⟨_, _, ⟨T296, L296, k296, n296⟩, -, X296, ⟨Lc296, hQ296, l296, y296, z296⟩, st296⟩ := X291.virtualBack hx (y := (⟨"java/lang/String", "lastIndexOf", "(I)I"⟩ : MethodName)) (z := (⟨"java/lang/String", "lastIndexOf", "(I)I"⟩ : MethodName)) hown (mvT hZ (w_55 hw)) (mvT hZ (w_56 hw)) (notFace_of_selects (args := #[]) (mvT hZ (w_58 hw))) (mvT hZ (w_58 hw)) (mvT hZ (w_57 hw)) (by decide) (backOf (W := 0) (rm_lx1_3 l Z a0 hw [] us ub kb c1_ c2_ c3_ c4_ zv gv h288 n0 Z288 (E0.ext E288) (Cc0.ext E288) (V0.ext E288) (A0.ext E288) B1 B2 B3 B4 (O0.ext E288) hzv S0 rgv G0) hZ (w_59 hw) (w_7 hw) (by decide) (by decide)) q296a q296c (g := (mkF m 14 #[.val (.ref us), .unset] [(.int (47 : Int32)), (.ref us)])) rfl (by rw [hml]; rfl) (Steps.refl _) (argsL := [(.int (47 : Int32))]) (rest := []) (lenOf pd_12 rfl) rfl (by show 2 * 0 + _ ≤ _; exact Nat.le_of_eq rfl) (hb hby d_p15_2_14) (fun _ _ => ⟨rfl, e291, (by decide : 2 + 0 ≤ _), (by decide : 8 + 0 ≤ _)⟩)
      dsimp only [Pt.U, Pt.locs, Pt.cells, Pt.slots] at X296 l296 y296 z296 st296 hQ296
      subst l296 y296 z296
      obtain ⟨rfl, N296q, e296⟩ := hQ296
      have N296 := Fr.app N291 N296q
      rw [(by simp [own_last3, s1, s2] : own_last3 c1_ c2_ c3_ c4_ = 0)] at st296
      refine own_go (fun t k => st296.trans k) ?_
      refine own_go (fun t k => XS.istoreN X296.here hx rfl (hb hby d_p15_2_17) rfl (l' := #[.val (.ref us), .val (.int (0 : Int32))]) rfl k) ?_
      refine own_go (fun t k => XS.iloadN X296.here hx rfl (hb hby d_p15_2_18) rfl k) ?_
      show own_Go _ _ _ _ (T296.setTop (mkF m 19 #[.val (.ref us), .val (.int (0 : Int32))] [(.int (0 : Int32))]))
      refine own_go (fun t k => XS.ifNo X296.here hx rfl (hb hby d_p15_2_19) rfl ((if0 _ _).trans (teq (by decide : (0 : Int32) = (0 : Int32))).2) k) ?_
      show own_Go _ _ _ _ (T296.setTop (mkF m 22 #[.val (.ref us), .val (.int (0 : Int32))] []))
      obtain ⟨b297, T297, h297, k297, d297, kb297, X297, e297, E297, hS, hk, hZ, hown, A297, Fc297, Fv297, Va297, hia297, hib297, R297, -, hne297, st297⟩ := ldcCH X296 hx hZ hown (w_42 hw) (own_wS hw) e296 hS hk (own_EW hw) (List.mem_of_getElem? (i := 0) rfl) C288.1 (vs := [(.int (47 : Int32))]) (z := (1 : Int32)) ⟨by decide, rfl⟩ (by decide) rfl (g := (mkF m 22 #[.val (.ref us), .val (.int (0 : Int32))] [])) rfl (hb hby d_p15_2_22) (n := 4) (by decide) (by decide) (by decide) (by decide)
      refine own_go st297 ?_
      have Z297 : n0 ≤ h297.size := (Nat.le_trans Z288 E297.1)
      have C297 := C288.trans R297
      have K297 : Keep h0 h297 [] := K288.ext E297
      refine own_go (fun t k => XS.goto X297.here hx rfl (pc0 := 24) (pc' := 33) rfl (hb hby d_p15_2_24) (by decide) (by decide) k) ?_
      show own_Go _ _ _ _ (T297.setTop (mkF m 33 #[.val (.ref us), .val (.int (0 : Int32))] [(.ref b297)]))
      refine own_retH X297 hx hS (Nat.le_trans hk (Nat.le_of_eq (congrArg Array.size e297.symm))) (by rw [hh, e297]; exact C297.trans (CHv.at X297 hZ (own_EW hw) C297.1)) hlk hret rfl (Or.inr (Or.inr (Or.inr (Or.inr ⟨rfl, rfl, rfl⟩)))) (hb hby d_p15_2_33) ?_ (by decide) (by decide)
      rw [e297]
      exact ⟨b297, d297, kb297, rfl, N296, K297, A297, Fc297, Fv297, (Or.inl ⟨s1, s2, Va297⟩)⟩
def Q_par_4 (Z : State) (us : Addr) (ub : Addr) (kb : ClassId) (c1_ : Int32) (c2_ : Int32) (c3_ : Int32) (c4_ : Int32) (zv : Int32) (gv : Value) (h0 : Heap) (n0 : Nat) (v : Option Value) (h : Heap) (L : List Loc) : Prop := ∃ (ux uy : Addr) (ky : ClassId), v = some (.ref ux) ∧ Fr n0 L ∧ Keep h0 h [] ∧ Exa Z h ux "java/lang/String" ∧ Fld Z h ux "java/lang/String" "coder" "B" (.int (0 : Int32)) ∧ Fld Z h ux "java/lang/String" "value" "[B" (.ref uy) ∧ ((¬ c1_ = 47 ∧ ¬ c2_ = 47 ∧ ¬ c3_ = 47 ∧ Arv Z h uy ky .byte (1 : Int32) [(.int (47 : Int32))] (.int (0 : Int32))) ∨ (c1_ = 47 ∧ ¬ c2_ = 47 ∧ ¬ c3_ = 47 ∧ Arv Z h uy ky .byte (1 : Int32) [(.int (47 : Int32))] (.int (0 : Int32))) ∨ (c2_ = 47 ∧ ¬ c3_ = 47 ∧ Arv Z h uy ky .byte (2 : Int32) [(.int (47 : Int32)), (.int (c1_.toInt8.toInt32))] (.int (0 : Int32))) ∨ (c3_ = 47 ∧ Arv Z h uy ky .byte (3 : Int32) [(.int (47 : Int32)), (.int (c1_.toInt8.toInt32)), (.int (c2_.toInt8.toInt32))] (.int (0 : Int32))))
theorem ef_par_4 (m : MethodId) (us : Addr) : entryFrame m #[(.ref us)] 2 = mkF m 0 #[.val (.ref us), .unset] [] := by first | (simp [entryFrame, mkF, argsToLocals, Value.category]; done) | rfl
set_option maxRecDepth 65536 in
set_option maxHeartbeats 40000000 in
theorem rm_par_4 (l : Launch) (Z : State) (a0 : Array Value) (hw : ∀ d ∈ tables_1, d.before a0 Z = true) (ws : List Jvm.Cond) (us ub : Addr) (kb : ClassId) (c1_ c2_ c3_ c4_ zv : Int32) (gv : Value) (h0 : Heap) (n0 : Nat) (Z0 : n0 ≤ h0.size) (E0 : Exa Z h0 us "java/lang/String") (Cc0 : Fld Z h0 us "java/lang/String" "coder" "B" (.int (0 : Int32))) (V0 : Fld Z h0 us "java/lang/String" "value" "[B" (.ref ub)) (A0 : Arv Z h0 ub kb .byte (4 : Int32) [(.int (47 : Int32)), (.int (c1_.toInt8.toInt32)), (.int (c2_.toInt8.toInt32)), (.int (c3_.toInt8.toInt32))] (.int (0 : Int32))) (B1 : own_B c1_) (B2 : own_B c2_) (B3 : own_B c3_) (B4 : own_B c4_) (O0 : Old Z n0 h0) (hzv : ¬ zv = (0 : Int32)) (S0 : Sta Z Z.heap "java/lang/String" "COMPACT_STRINGS" "Z" (.int zv)) (rgv : gv.isRef = true) (G0 : Sta Z Z.heap "jdk/internal/util/Preconditions" "SIOOBE_FORMATTER" "Ljava/util/function/BiFunction;" gv) :
    own_MetH l Z consts_1 (⟨"com/example/grantfold/grantfold/model/Configuration", "parent", "(Ljava/lang/String;)Ljava/lang/String;"⟩ : MethodName) prog_15_method_2_code 2 (some (.object "java/lang/String")) ws ({ frames := 5, cells := 4, slots := 16, locals := 80 } : Room) #[(.ref us)] h0 (Q_par_4 Z us ub kb c1_ c2_ c3_ c4_ zv gv h0 n0) := by
  refine own_enterH (own := "com/example/grantfold/grantfold/model/Configuration") (plainFor_of_name pn_5) rfl ?_
  intro p e s m below meth c s₁ hlk hret hx hby hml hown hnm hZ hh hH X0 e0
  have N0 := Fr.nil n0
  refine own_cast (ef_par_4 m us) ?_
  have hS : s.Since s.vm 0 := (State.WarmedH.refl s).since 0
  have hk : 0 ≤ h0.size := Nat.zero_le _
  have C0 : CHr Z consts_1 s.vm h0 s.vm h0 := CHr.refl hH
  show own_Go _ _ _ _ (s₁.setTop (mkF m 0 #[.val (.ref us), .unset] []))
  refine own_go (fun t k => XS.aloadN X0.here hx rfl (hb hby d_p15_2_0) rfl rfl k) ?_
  show own_Go _ _ _ _ (s₁.setTop (mkF m 1 #[.val (.ref us), .unset] [(.ref us)]))
  obtain ⟨b298, T298, h298, k298, d298, kb298, X298, e298, E298, hS, hk, hZ, hown, A298, Fc298, Fv298, Va298, hia298, hib298, R298, -, hne298, st298⟩ := ldcCH X0 hx hZ hown (w_42 hw) (own_wS hw) e0 hS hk (own_EW hw) (List.mem_of_getElem? (i := 0) rfl) C0.1 (vs := [(.int (47 : Int32))]) (z := (1 : Int32)) ⟨by decide, rfl⟩ (by decide) rfl (g := (mkF m 1 #[.val (.ref us), .unset] [(.ref us)])) rfl (hb hby d_p15_2_1) (n := 4) (by decide) (by decide) (by decide) (by decide)
  refine own_go st298 ?_
  have Z298 : n0 ≤ h298.size := (Nat.le_trans Z0 E298.1)
  have C298 := C0.trans R298
  have K298 : Keep h0 h298 [] := (Keep.refl h0 []).ext E298
  have hB299 : ∀ c ∈ ([(47 : Int32), c1_, c2_, c3_] : List Int32), own_B c := (List.forall_mem_cons.mpr ⟨(by constructor <;> decide : own_B (47 : Int32)), (List.forall_mem_cons.mpr ⟨B1, (List.forall_mem_cons.mpr ⟨B2, (List.forall_mem_cons.mpr ⟨B3, (List.forall_mem_nil _)⟩)⟩)⟩)⟩)
  have hD299 := StrChars.Road.codOf (cs := ([(47 : Int32), c1_, c2_, c3_] : List Int32)) (n := 4) rfl (fun x hx => (hB299 x hx).2)
  have hU299 := own_up _ hB299
  have hB300 : ∀ c ∈ ([(47 : Int32)] : List Int32), own_B c := (List.forall_mem_cons.mpr ⟨(by constructor <;> decide : own_B (47 : Int32)), (List.forall_mem_nil _)⟩)
  have hD300 := StrChars.Road.codOf (cs := ([(47 : Int32)] : List Int32)) (n := 1) rfl (fun x hx => (hB300 x hx).2)
  have hU300 := own_up _ hB300
  obtain ⟨cq301, kq301, q301a, q301b, q301c⟩ := isOf hZ e298 (E0.ext E298)
  obtain ⟨_, _, ⟨T301, L301, k301, n301⟩, -, X301, ⟨Lc301, hQ301, l301, y301, z301⟩, st301⟩ := X298.virtualBack hx (y := (⟨"java/lang/String", "equals", "(Ljava/lang/Object;)Z"⟩ : MethodName)) (z := (⟨"java/lang/String", "equals", "(Ljava/lang/Object;)Z"⟩ : MethodName)) hown (mvT hZ (w_45 hw)) (mvT hZ (w_46 hw)) (notFace_of_selects (args := #[]) (mvT hZ (w_48 hw))) (mvT hZ (w_48 hw)) (mvT hZ (w_47 hw)) (by decide) (StrChars.Road.eqW (W := 0) hZ (own_weq hw) (kI := 4) (w_6 hw) (cs := ([(47 : Int32), c1_, c2_, c3_] : List Int32)) (E0.ext E298) (V0.ext E298) (Cc0.ext E298) (A0.ext E298) hD299 hU299 (Nat.le_of_ble_eq_true rfl) (ds := ([(47 : Int32)] : List Int32)) A298 Fv298 Fc298 Va298 hD300 hU300 (Nat.le_of_ble_eq_true rfl) (S0.ext (O0.ext E298).2) hzv (by decide) (by decide)) q301a q301c (g := (mkF m 3 #[.val (.ref us), .unset] [(.ref b298), (.ref us)])) rfl (by rw [hml]; rfl) (Steps.refl _) (argsL := [(.ref b298)]) (rest := []) (lenOf pd_11 rfl) rfl (by show 2 * 0 + _ ≤ _; exact Nat.le_of_eq rfl) (hb hby d_p15_2_3) (fun _ _ => ⟨rfl, e298, (by decide : 2 + 0 ≤ _), (by decide : 8 + 0 ≤ _)⟩)
  dsimp only [Pt.U, Pt.locs, Pt.cells, Pt.slots] at X301 l301 y301 z301 st301 hQ301
  subst l301 y301 z301
  obtain ⟨hv301, rfl, e301⟩ := hQ301
  obtain rfl := (hv301.resolve_left fun q => absurd (congrArg List.length q.2) (by simp)).1
  have N301q : Fr n0 ([] : List Loc) := Fr.nil n0
  have N301 := Fr.app N0 N301q
  refine own_go (fun t k => st301.trans k) ?_
  show own_Go _ _ _ _ (T301.setTop (mkF m 6 #[.val (.ref us), .unset] [(.int (0 : Int32))]))
  refine own_go (fun t k => XS.ifYes X301.here hx rfl (pc0 := 6) (pc' := 11) rfl (hb hby d_p15_2_6) rfl ((if0 _ _).trans (teq (by decide : (0 : Int32) = (0 : Int32))).1) (by decide) (by decide) k) ?_
  refine own_go (fun t k => XS.aloadN X301.here hx rfl (hb hby d_p15_2_11) rfl rfl k) ?_
  refine own_go (fun t k => XS.bipush X301.here hx rfl (hb hby d_p15_2_12) k) ?_
  by_cases s3 : c3_ = 47
  · obtain ⟨cq302, kq302, q302a, q302b, q302c⟩ := isOf hZ e301 (E0.ext E298)
    obtain ⟨_, _, ⟨T302, L302, k302, n302⟩, -, X302, ⟨Lc302, hQ302, l302, y302, z302⟩, st302⟩ := X301.virtualBack hx (y := (⟨"java/lang/String", "lastIndexOf", "(I)I"⟩ : MethodName)) (z := (⟨"java/lang/String", "lastIndexOf", "(I)I"⟩ : MethodName)) hown (mvT hZ (w_55 hw)) (mvT hZ (w_56 hw)) (notFace_of_selects (args := #[]) (mvT hZ (w_58 hw))) (mvT hZ (w_58 hw)) (mvT hZ (w_57 hw)) (by decide) (backOf (W := 0) (rm_lx1_4 l Z a0 hw [] us ub kb c1_ c2_ c3_ c4_ zv gv h298 n0 Z298 (E0.ext E298) (Cc0.ext E298) (V0.ext E298) (A0.ext E298) B1 B2 B3 B4 (O0.ext E298) hzv S0 rgv G0) hZ (w_59 hw) (w_7 hw) (by decide) (by decide)) q302a q302c (g := (mkF m 14 #[.val (.ref us), .unset] [(.int (47 : Int32)), (.ref us)])) rfl (by rw [hml]; rfl) (Steps.refl _) (argsL := [(.int (47 : Int32))]) (rest := []) (lenOf pd_12 rfl) rfl (by show 2 * 0 + _ ≤ _; exact Nat.le_of_eq rfl) (hb hby d_p15_2_14) (fun _ _ => ⟨rfl, e301, (by decide : 2 + 0 ≤ _), (by decide : 8 + 0 ≤ _)⟩)
    dsimp only [Pt.U, Pt.locs, Pt.cells, Pt.slots] at X302 l302 y302 z302 st302 hQ302
    subst l302 y302 z302
    obtain ⟨rfl, N302q, e302⟩ := hQ302
    have N302 := Fr.app N301 N302q
    rw [(by simp [own_last4, s3] : own_last4 c1_ c2_ c3_ c4_ = 3)] at st302
    refine own_go (fun t k => st302.trans k) ?_
    refine own_go (fun t k => XS.istoreN X302.here hx rfl (hb hby d_p15_2_17) rfl (l' := #[.val (.ref us), .val (.int (3 : Int32))]) rfl k) ?_
    refine own_go (fun t k => XS.iloadN X302.here hx rfl (hb hby d_p15_2_18) rfl k) ?_
    show own_Go _ _ _ _ (T302.setTop (mkF m 19 #[.val (.ref us), .val (.int (3 : Int32))] [(.int (3 : Int32))]))
    refine own_go (fun t k => XS.ifYes X302.here hx rfl (pc0 := 19) (pc' := 27) rfl (hb hby d_p15_2_19) rfl ((if0 _ _).trans (feq (by decide : ¬ ((3 : Int32) = (0 : Int32)))).2) (by decide) (by decide) k) ?_
    refine own_go (fun t k => XS.aloadN X302.here hx rfl (hb hby d_p15_2_27) rfl rfl k) ?_
    refine own_go (fun t k => XS.iconst X302.here hx rfl (hb hby d_p15_2_28) k) ?_
    refine own_go (fun t k => XS.iloadN X302.here hx rfl (hb hby d_p15_2_29) rfl k) ?_
    obtain ⟨cq303, kq303, q303a, q303b, q303c⟩ := isOf hZ e302 (E0.ext E298)
    obtain ⟨_, _, ⟨T303, L303, k303, n303⟩, -, X303, ⟨Lc303, hQ303, l303, y303, z303⟩, st303⟩ := X302.virtualBack hx (y := (⟨"java/lang/String", "substring", "(II)Ljava/lang/String;"⟩ : MethodName)) (z := (⟨"java/lang/String", "substring", "(II)Ljava/lang/String;"⟩ : MethodName)) hown (mvT hZ (w_110 hw)) (mvT hZ (w_111 hw)) (notFace_of_selects (args := #[]) (mvT hZ (w_113 hw))) (mvT hZ (w_113 hw)) (mvT hZ (w_112 hw)) (by decide) (backOf (W := 0) (rm_sub_3 l Z a0 hw [] us ub kb ([(47 : Int32), c1_, c2_, c3_] : List Int32) zv gv h298 n0 Z298 (E0.ext E298) (Cc0.ext E298) (V0.ext E298) (A0.ext E298) (List.forall_mem_cons.mpr ⟨(by constructor <;> decide : own_B (47 : Int32)), (List.forall_mem_cons.mpr ⟨B1, (List.forall_mem_cons.mpr ⟨B2, (List.forall_mem_cons.mpr ⟨B3, (List.forall_mem_nil _)⟩)⟩)⟩)⟩) (Nat.le_of_ble_eq_true rfl) (by show (3 : Int32) < Int32.ofNat 4 - (0 : Int32); decide) (by show (0 : Int32).toNatClampNeg + (3 : Int32).toNatClampNeg ≤ (Int32.ofNat 4).toNatClampNeg; decide) (by show ¬ (3 : Int32) = Int32.ofNat 4; decide) (by show ¬ Int32.ofNat 4 < (3 : Int32); decide) (O0.ext E298) hzv S0 rgv G0) hZ (w_114 hw) (w_7 hw) (by decide) (by decide)) q303a q303c (g := (mkF m 30 #[.val (.ref us), .val (.int (3 : Int32))] [(.int (3 : Int32)), (.int (0 : Int32)), (.ref us)])) rfl (by rw [hml]; rfl) (Steps.refl _) (argsL := [(.int (0 : Int32)), (.int (3 : Int32))]) (rest := []) (lenOf pd_13 rfl) rfl (by show 2 * 0 + _ ≤ _; exact Nat.le_of_eq rfl) (hb hby d_p15_2_30) (fun _ _ => ⟨rfl, e302, (by decide : 2 + 2 ≤ _), (by decide : 8 + 7 ≤ _)⟩)
    dsimp only [Pt.U, Pt.locs, Pt.cells, Pt.slots] at X303 l303 y303 z303 st303 hQ303
    subst l303 y303 z303
    generalize e303 : T303.heap = h303 at hQ303
    obtain ⟨ux303, uy303, ky303, rfl, N303q, K303q, lo303, q303, ly303, qy303, E303, Cd303, V303, A303⟩ := hQ303
    have N303 := Fr.app N302 N303q
    refine own_go (fun t k => st303.trans k) ?_
    have C303 := C298.trans (CHr.keep K303q all0 C298.1)
    have Z303 : n0 ≤ h303.size := (Nat.le_trans Z298 K303q.1)
    have K303 : Keep h0 h303 [] := K298.trans K303q all0
    have hi303 := E303.lt
    have hy303 := A303.lt
    replace A303 : Arv Z h303 uy303 ky303 .byte (3 : Int32) [(.int (47 : Int32)), (.int (c1_.toInt8.toInt32)), (.int (c2_.toInt8.toInt32))] (.int (0 : Int32)) := A303
    show own_Go _ _ _ _ (T303.setTop (mkF m 33 #[.val (.ref us), .val (.int (3 : Int32))] [(.ref ux303)]))
    refine own_retH X303 hx hS (Nat.le_trans (Nat.le_trans hk K303q.1) (Nat.le_of_eq (congrArg Array.size e303.symm))) (by rw [hh, e303]; exact C303.trans (CHv.at X303 hZ (own_EW hw) C303.1)) hlk hret rfl (Or.inr (Or.inr (Or.inr (Or.inr ⟨rfl, rfl, rfl⟩)))) (hb hby d_p15_2_33) ?_ (by decide) (by decide)
    rw [e303]
    exact ⟨ux303, uy303, ky303, rfl, N303, K303, E303, Cd303, V303, (Or.inr (Or.inr (Or.inr ⟨s3, A303⟩)))⟩
  · by_cases s2 : c2_ = 47
    · obtain ⟨cq304, kq304, q304a, q304b, q304c⟩ := isOf hZ e301 (E0.ext E298)
      obtain ⟨_, _, ⟨T304, L304, k304, n304⟩, -, X304, ⟨Lc304, hQ304, l304, y304, z304⟩, st304⟩ := X301.virtualBack hx (y := (⟨"java/lang/String", "lastIndexOf", "(I)I"⟩ : MethodName)) (z := (⟨"java/lang/String", "lastIndexOf", "(I)I"⟩ : MethodName)) hown (mvT hZ (w_55 hw)) (mvT hZ (w_56 hw)) (notFace_of_selects (args := #[]) (mvT hZ (w_58 hw))) (mvT hZ (w_58 hw)) (mvT hZ (w_57 hw)) (by decide) (backOf (W := 0) (rm_lx1_4 l Z a0 hw [] us ub kb c1_ c2_ c3_ c4_ zv gv h298 n0 Z298 (E0.ext E298) (Cc0.ext E298) (V0.ext E298) (A0.ext E298) B1 B2 B3 B4 (O0.ext E298) hzv S0 rgv G0) hZ (w_59 hw) (w_7 hw) (by decide) (by decide)) q304a q304c (g := (mkF m 14 #[.val (.ref us), .unset] [(.int (47 : Int32)), (.ref us)])) rfl (by rw [hml]; rfl) (Steps.refl _) (argsL := [(.int (47 : Int32))]) (rest := []) (lenOf pd_12 rfl) rfl (by show 2 * 0 + _ ≤ _; exact Nat.le_of_eq rfl) (hb hby d_p15_2_14) (fun _ _ => ⟨rfl, e301, (by decide : 2 + 0 ≤ _), (by decide : 8 + 0 ≤ _)⟩)
      dsimp only [Pt.U, Pt.locs, Pt.cells, Pt.slots] at X304 l304 y304 z304 st304 hQ304
      subst l304 y304 z304
      obtain ⟨rfl, N304q, e304⟩ := hQ304
      have N304 := Fr.app N301 N304q
      rw [(by simp [own_last4, s2, s3] : own_last4 c1_ c2_ c3_ c4_ = 2)] at st304
      refine own_go (fun t k => st304.trans k) ?_
      refine own_go (fun t k => XS.istoreN X304.here hx rfl (hb hby d_p15_2_17) rfl (l' := #[.val (.ref us), .val (.int (2 : Int32))]) rfl k) ?_
      refine own_go (fun t k => XS.iloadN X304.here hx rfl (hb hby d_p15_2_18) rfl k) ?_
      show own_Go _ _ _ _ (T304.setTop (mkF m 19 #[.val (.ref us), .val (.int (2 : Int32))] [(.int (2 : Int32))]))
      refine own_go (fun t k => XS.ifYes X304.here hx rfl (pc0 := 19) (pc' := 27) rfl (hb hby d_p15_2_19) rfl ((if0 _ _).trans (feq (by decide : ¬ ((2 : Int32) = (0 : Int32)))).2) (by decide) (by decide) k) ?_
      refine own_go (fun t k => XS.aloadN X304.here hx rfl (hb hby d_p15_2_27) rfl rfl k) ?_
      refine own_go (fun t k => XS.iconst X304.here hx rfl (hb hby d_p15_2_28) k) ?_
      refine own_go (fun t k => XS.iloadN X304.here hx rfl (hb hby d_p15_2_29) rfl k) ?_
      obtain ⟨cq305, kq305, q305a, q305b, q305c⟩ := isOf hZ e304 (E0.ext E298)
      obtain ⟨_, _, ⟨T305, L305, k305, n305⟩, -, X305, ⟨Lc305, hQ305, l305, y305, z305⟩, st305⟩ := X304.virtualBack hx (y := (⟨"java/lang/String", "substring", "(II)Ljava/lang/String;"⟩ : MethodName)) (z := (⟨"java/lang/String", "substring", "(II)Ljava/lang/String;"⟩ : MethodName)) hown (mvT hZ (w_110 hw)) (mvT hZ (w_111 hw)) (notFace_of_selects (args := #[]) (mvT hZ (w_113 hw))) (mvT hZ (w_113 hw)) (mvT hZ (w_112 hw)) (by decide) (backOf (W := 0) (rm_sub_2 l Z a0 hw [] us ub kb ([(47 : Int32), c1_, c2_, c3_] : List Int32) zv gv h298 n0 Z298 (E0.ext E298) (Cc0.ext E298) (V0.ext E298) (A0.ext E298) (List.forall_mem_cons.mpr ⟨(by constructor <;> decide : own_B (47 : Int32)), (List.forall_mem_cons.mpr ⟨B1, (List.forall_mem_cons.mpr ⟨B2, (List.forall_mem_cons.mpr ⟨B3, (List.forall_mem_nil _)⟩)⟩)⟩)⟩) (Nat.le_of_ble_eq_true rfl) (by show (2 : Int32) < Int32.ofNat 4 - (0 : Int32); decide) (by show (0 : Int32).toNatClampNeg + (2 : Int32).toNatClampNeg ≤ (Int32.ofNat 4).toNatClampNeg; decide) (by show ¬ (2 : Int32) = Int32.ofNat 4; decide) (by show ¬ Int32.ofNat 4 < (2 : Int32); decide) (O0.ext E298) hzv S0 rgv G0) hZ (w_114 hw) (w_7 hw) (by decide) (by decide)) q305a q305c (g := (mkF m 30 #[.val (.ref us), .val (.int (2 : Int32))] [(.int (2 : Int32)), (.int (0 : Int32)), (.ref us)])) rfl (by rw [hml]; rfl) (Steps.refl _) (argsL := [(.int (0 : Int32)), (.int (2 : Int32))]) (rest := []) (lenOf pd_13 rfl) rfl (by show 2 * 0 + _ ≤ _; exact Nat.le_of_eq rfl) (hb hby d_p15_2_30) (fun _ _ => ⟨rfl, e304, (by decide : 2 + 2 ≤ _), (by decide : 8 + 6 ≤ _)⟩)
      dsimp only [Pt.U, Pt.locs, Pt.cells, Pt.slots] at X305 l305 y305 z305 st305 hQ305
      subst l305 y305 z305
      generalize e305 : T305.heap = h305 at hQ305
      obtain ⟨ux305, uy305, ky305, rfl, N305q, K305q, lo305, q305, ly305, qy305, E305, Cd305, V305, A305⟩ := hQ305
      have N305 := Fr.app N304 N305q
      refine own_go (fun t k => st305.trans k) ?_
      have C305 := C298.trans (CHr.keep K305q all0 C298.1)
      have Z305 : n0 ≤ h305.size := (Nat.le_trans Z298 K305q.1)
      have K305 : Keep h0 h305 [] := K298.trans K305q all0
      have hi305 := E305.lt
      have hy305 := A305.lt
      replace A305 : Arv Z h305 uy305 ky305 .byte (2 : Int32) [(.int (47 : Int32)), (.int (c1_.toInt8.toInt32))] (.int (0 : Int32)) := A305
      show own_Go _ _ _ _ (T305.setTop (mkF m 33 #[.val (.ref us), .val (.int (2 : Int32))] [(.ref ux305)]))
      refine own_retH X305 hx hS (Nat.le_trans (Nat.le_trans hk K305q.1) (Nat.le_of_eq (congrArg Array.size e305.symm))) (by rw [hh, e305]; exact C305.trans (CHv.at X305 hZ (own_EW hw) C305.1)) hlk hret rfl (Or.inr (Or.inr (Or.inr (Or.inr ⟨rfl, rfl, rfl⟩)))) (hb hby d_p15_2_33) ?_ (by decide) (by decide)
      rw [e305]
      exact ⟨ux305, uy305, ky305, rfl, N305, K305, E305, Cd305, V305, (Or.inr (Or.inr (Or.inl ⟨s2, s3, A305⟩)))⟩
    · by_cases s1 : c1_ = 47
      · obtain ⟨cq306, kq306, q306a, q306b, q306c⟩ := isOf hZ e301 (E0.ext E298)
        obtain ⟨_, _, ⟨T306, L306, k306, n306⟩, -, X306, ⟨Lc306, hQ306, l306, y306, z306⟩, st306⟩ := X301.virtualBack hx (y := (⟨"java/lang/String", "lastIndexOf", "(I)I"⟩ : MethodName)) (z := (⟨"java/lang/String", "lastIndexOf", "(I)I"⟩ : MethodName)) hown (mvT hZ (w_55 hw)) (mvT hZ (w_56 hw)) (notFace_of_selects (args := #[]) (mvT hZ (w_58 hw))) (mvT hZ (w_58 hw)) (mvT hZ (w_57 hw)) (by decide) (backOf (W := 0) (rm_lx1_4 l Z a0 hw [] us ub kb c1_ c2_ c3_ c4_ zv gv h298 n0 Z298 (E0.ext E298) (Cc0.ext E298) (V0.ext E298) (A0.ext E298) B1 B2 B3 B4 (O0.ext E298) hzv S0 rgv G0) hZ (w_59 hw) (w_7 hw) (by decide) (by decide)) q306a q306c (g := (mkF m 14 #[.val (.ref us), .unset] [(.int (47 : Int32)), (.ref us)])) rfl (by rw [hml]; rfl) (Steps.refl _) (argsL := [(.int (47 : Int32))]) (rest := []) (lenOf pd_12 rfl) rfl (by show 2 * 0 + _ ≤ _; exact Nat.le_of_eq rfl) (hb hby d_p15_2_14) (fun _ _ => ⟨rfl, e301, (by decide : 2 + 0 ≤ _), (by decide : 8 + 0 ≤ _)⟩)
        dsimp only [Pt.U, Pt.locs, Pt.cells, Pt.slots] at X306 l306 y306 z306 st306 hQ306
        subst l306 y306 z306
        obtain ⟨rfl, N306q, e306⟩ := hQ306
        have N306 := Fr.app N301 N306q
        rw [(by simp [own_last4, s1, s2, s3] : own_last4 c1_ c2_ c3_ c4_ = 1)] at st306
        refine own_go (fun t k => st306.trans k) ?_
        refine own_go (fun t k => XS.istoreN X306.here hx rfl (hb hby d_p15_2_17) rfl (l' := #[.val (.ref us), .val (.int (1 : Int32))]) rfl k) ?_
        refine own_go (fun t k => XS.iloadN X306.here hx rfl (hb hby d_p15_2_18) rfl k) ?_
        show own_Go _ _ _ _ (T306.setTop (mkF m 19 #[.val (.ref us), .val (.int (1 : Int32))] [(.int (1 : Int32))]))
        refine own_go (fun t k => XS.ifYes X306.here hx rfl (pc0 := 19) (pc' := 27) rfl (hb hby d_p15_2_19) rfl ((if0 _ _).trans (feq (by decide : ¬ ((1 : Int32) = (0 : Int32)))).2) (by decide) (by decide) k) ?_
        refine own_go (fun t k => XS.aloadN X306.here hx rfl (hb hby d_p15_2_27) rfl rfl k) ?_
        refine own_go (fun t k => XS.iconst X306.here hx rfl (hb hby d_p15_2_28) k) ?_
        refine own_go (fun t k => XS.iloadN X306.here hx rfl (hb hby d_p15_2_29) rfl k) ?_
        obtain ⟨cq307, kq307, q307a, q307b, q307c⟩ := isOf hZ e306 (E0.ext E298)
        obtain ⟨_, _, ⟨T307, L307, k307, n307⟩, -, X307, ⟨Lc307, hQ307, l307, y307, z307⟩, st307⟩ := X306.virtualBack hx (y := (⟨"java/lang/String", "substring", "(II)Ljava/lang/String;"⟩ : MethodName)) (z := (⟨"java/lang/String", "substring", "(II)Ljava/lang/String;"⟩ : MethodName)) hown (mvT hZ (w_110 hw)) (mvT hZ (w_111 hw)) (notFace_of_selects (args := #[]) (mvT hZ (w_113 hw))) (mvT hZ (w_113 hw)) (mvT hZ (w_112 hw)) (by decide) (backOf (W := 0) (rm_sub_1 l Z a0 hw [] us ub kb ([(47 : Int32), c1_, c2_, c3_] : List Int32) zv gv h298 n0 Z298 (E0.ext E298) (Cc0.ext E298) (V0.ext E298) (A0.ext E298) (List.forall_mem_cons.mpr ⟨(by constructor <;> decide : own_B (47 : Int32)), (List.forall_mem_cons.mpr ⟨B1, (List.forall_mem_cons.mpr ⟨B2, (List.forall_mem_cons.mpr ⟨B3, (List.forall_mem_nil _)⟩)⟩)⟩)⟩) (Nat.le_of_ble_eq_true rfl) (by show (1 : Int32) < Int32.ofNat 4 - (0 : Int32); decide) (by show (0 : Int32).toNatClampNeg + (1 : Int32).toNatClampNeg ≤ (Int32.ofNat 4).toNatClampNeg; decide) (by show ¬ (1 : Int32) = Int32.ofNat 4; decide) (by show ¬ Int32.ofNat 4 < (1 : Int32); decide) (O0.ext E298) hzv S0 rgv G0) hZ (w_114 hw) (w_7 hw) (by decide) (by decide)) q307a q307c (g := (mkF m 30 #[.val (.ref us), .val (.int (1 : Int32))] [(.int (1 : Int32)), (.int (0 : Int32)), (.ref us)])) rfl (by rw [hml]; rfl) (Steps.refl _) (argsL := [(.int (0 : Int32)), (.int (1 : Int32))]) (rest := []) (lenOf pd_13 rfl) rfl (by show 2 * 0 + _ ≤ _; exact Nat.le_of_eq rfl) (hb hby d_p15_2_30) (fun _ _ => ⟨rfl, e306, (by decide : 2 + 2 ≤ _), (by decide : 8 + 5 ≤ _)⟩)
        dsimp only [Pt.U, Pt.locs, Pt.cells, Pt.slots] at X307 l307 y307 z307 st307 hQ307
        subst l307 y307 z307
        generalize e307 : T307.heap = h307 at hQ307
        obtain ⟨ux307, uy307, ky307, rfl, N307q, K307q, lo307, q307, ly307, qy307, E307, Cd307, V307, A307⟩ := hQ307
        have N307 := Fr.app N306 N307q
        refine own_go (fun t k => st307.trans k) ?_
        have C307 := C298.trans (CHr.keep K307q all0 C298.1)
        have Z307 : n0 ≤ h307.size := (Nat.le_trans Z298 K307q.1)
        have K307 : Keep h0 h307 [] := K298.trans K307q all0
        have hi307 := E307.lt
        have hy307 := A307.lt
        replace A307 : Arv Z h307 uy307 ky307 .byte (1 : Int32) [(.int (47 : Int32))] (.int (0 : Int32)) := A307
        show own_Go _ _ _ _ (T307.setTop (mkF m 33 #[.val (.ref us), .val (.int (1 : Int32))] [(.ref ux307)]))
        refine own_retH X307 hx hS (Nat.le_trans (Nat.le_trans hk K307q.1) (Nat.le_of_eq (congrArg Array.size e307.symm))) (by rw [hh, e307]; exact C307.trans (CHv.at X307 hZ (own_EW hw) C307.1)) hlk hret rfl (Or.inr (Or.inr (Or.inr (Or.inr ⟨rfl, rfl, rfl⟩)))) (hb hby d_p15_2_33) ?_ (by decide) (by decide)
        rw [e307]
        exact ⟨ux307, uy307, ky307, rfl, N307, K307, E307, Cd307, V307, (Or.inr (Or.inl ⟨s1, s2, s3, A307⟩))⟩
      · obtain ⟨cq308, kq308, q308a, q308b, q308c⟩ := isOf hZ e301 (E0.ext E298)
        obtain ⟨_, _, ⟨T308, L308, k308, n308⟩, -, X308, ⟨Lc308, hQ308, l308, y308, z308⟩, st308⟩ := X301.virtualBack hx (y := (⟨"java/lang/String", "lastIndexOf", "(I)I"⟩ : MethodName)) (z := (⟨"java/lang/String", "lastIndexOf", "(I)I"⟩ : MethodName)) hown (mvT hZ (w_55 hw)) (mvT hZ (w_56 hw)) (notFace_of_selects (args := #[]) (mvT hZ (w_58 hw))) (mvT hZ (w_58 hw)) (mvT hZ (w_57 hw)) (by decide) (backOf (W := 0) (rm_lx1_4 l Z a0 hw [] us ub kb c1_ c2_ c3_ c4_ zv gv h298 n0 Z298 (E0.ext E298) (Cc0.ext E298) (V0.ext E298) (A0.ext E298) B1 B2 B3 B4 (O0.ext E298) hzv S0 rgv G0) hZ (w_59 hw) (w_7 hw) (by decide) (by decide)) q308a q308c (g := (mkF m 14 #[.val (.ref us), .unset] [(.int (47 : Int32)), (.ref us)])) rfl (by rw [hml]; rfl) (Steps.refl _) (argsL := [(.int (47 : Int32))]) (rest := []) (lenOf pd_12 rfl) rfl (by show 2 * 0 + _ ≤ _; exact Nat.le_of_eq rfl) (hb hby d_p15_2_14) (fun _ _ => ⟨rfl, e301, (by decide : 2 + 0 ≤ _), (by decide : 8 + 0 ≤ _)⟩)
        dsimp only [Pt.U, Pt.locs, Pt.cells, Pt.slots] at X308 l308 y308 z308 st308 hQ308
        subst l308 y308 z308
        obtain ⟨rfl, N308q, e308⟩ := hQ308
        have N308 := Fr.app N301 N308q
        rw [(by simp [own_last4, s1, s2, s3] : own_last4 c1_ c2_ c3_ c4_ = 0)] at st308
        refine own_go (fun t k => st308.trans k) ?_
        refine own_go (fun t k => XS.istoreN X308.here hx rfl (hb hby d_p15_2_17) rfl (l' := #[.val (.ref us), .val (.int (0 : Int32))]) rfl k) ?_
        refine own_go (fun t k => XS.iloadN X308.here hx rfl (hb hby d_p15_2_18) rfl k) ?_
        show own_Go _ _ _ _ (T308.setTop (mkF m 19 #[.val (.ref us), .val (.int (0 : Int32))] [(.int (0 : Int32))]))
        refine own_go (fun t k => XS.ifNo X308.here hx rfl (hb hby d_p15_2_19) rfl ((if0 _ _).trans (teq (by decide : (0 : Int32) = (0 : Int32))).2) k) ?_
        show own_Go _ _ _ _ (T308.setTop (mkF m 22 #[.val (.ref us), .val (.int (0 : Int32))] []))
        obtain ⟨b309, T309, h309, k309, d309, kb309, X309, e309, E309, hS, hk, hZ, hown, A309, Fc309, Fv309, Va309, hia309, hib309, R309, -, hne309, st309⟩ := ldcCH X308 hx hZ hown (w_42 hw) (own_wS hw) e308 hS hk (own_EW hw) (List.mem_of_getElem? (i := 0) rfl) C298.1 (vs := [(.int (47 : Int32))]) (z := (1 : Int32)) ⟨by decide, rfl⟩ (by decide) rfl (g := (mkF m 22 #[.val (.ref us), .val (.int (0 : Int32))] [])) rfl (hb hby d_p15_2_22) (n := 4) (by decide) (by decide) (by decide) (by decide)
        refine own_go st309 ?_
        have Z309 : n0 ≤ h309.size := (Nat.le_trans Z298 E309.1)
        have C309 := C298.trans R309
        have K309 : Keep h0 h309 [] := K298.ext E309
        refine own_go (fun t k => XS.goto X309.here hx rfl (pc0 := 24) (pc' := 33) rfl (hb hby d_p15_2_24) (by decide) (by decide) k) ?_
        show own_Go _ _ _ _ (T309.setTop (mkF m 33 #[.val (.ref us), .val (.int (0 : Int32))] [(.ref b309)]))
        refine own_retH X309 hx hS (Nat.le_trans hk (Nat.le_of_eq (congrArg Array.size e309.symm))) (by rw [hh, e309]; exact C309.trans (CHv.at X309 hZ (own_EW hw) C309.1)) hlk hret rfl (Or.inr (Or.inr (Or.inr (Or.inr ⟨rfl, rfl, rfl⟩)))) (hb hby d_p15_2_33) ?_ (by decide) (by decide)
        rw [e309]
        exact ⟨b309, d309, kb309, rfl, N308, K309, A309, Fc309, Fv309, (Or.inl ⟨s1, s2, s3, Va309⟩)⟩
def Q_par_5 (Z : State) (us : Addr) (ub : Addr) (kb : ClassId) (c1_ : Int32) (c2_ : Int32) (c3_ : Int32) (c4_ : Int32) (zv : Int32) (gv : Value) (h0 : Heap) (n0 : Nat) (v : Option Value) (h : Heap) (L : List Loc) : Prop := ∃ (ux uy : Addr) (ky : ClassId), v = some (.ref ux) ∧ Fr n0 L ∧ Keep h0 h [] ∧ Exa Z h ux "java/lang/String" ∧ Fld Z h ux "java/lang/String" "coder" "B" (.int (0 : Int32)) ∧ Fld Z h ux "java/lang/String" "value" "[B" (.ref uy) ∧ ((¬ c1_ = 47 ∧ ¬ c2_ = 47 ∧ ¬ c3_ = 47 ∧ ¬ c4_ = 47 ∧ Arv Z h uy ky .byte (1 : Int32) [(.int (47 : Int32))] (.int (0 : Int32))) ∨ (c1_ = 47 ∧ ¬ c2_ = 47 ∧ ¬ c3_ = 47 ∧ ¬ c4_ = 47 ∧ Arv Z h uy ky .byte (1 : Int32) [(.int (47 : Int32))] (.int (0 : Int32))) ∨ (c2_ = 47 ∧ ¬ c3_ = 47 ∧ ¬ c4_ = 47 ∧ Arv Z h uy ky .byte (2 : Int32) [(.int (47 : Int32)), (.int (c1_.toInt8.toInt32))] (.int (0 : Int32))) ∨ (c3_ = 47 ∧ ¬ c4_ = 47 ∧ Arv Z h uy ky .byte (3 : Int32) [(.int (47 : Int32)), (.int (c1_.toInt8.toInt32)), (.int (c2_.toInt8.toInt32))] (.int (0 : Int32))) ∨ (c4_ = 47 ∧ Arv Z h uy ky .byte (4 : Int32) [(.int (47 : Int32)), (.int (c1_.toInt8.toInt32)), (.int (c2_.toInt8.toInt32)), (.int (c3_.toInt8.toInt32))] (.int (0 : Int32))))
theorem ef_par_5 (m : MethodId) (us : Addr) : entryFrame m #[(.ref us)] 2 = mkF m 0 #[.val (.ref us), .unset] [] := by first | (simp [entryFrame, mkF, argsToLocals, Value.category]; done) | rfl
set_option maxRecDepth 65536 in
set_option maxHeartbeats 40000000 in
theorem rm_par_5 (l : Launch) (Z : State) (a0 : Array Value) (hw : ∀ d ∈ tables_1, d.before a0 Z = true) (ws : List Jvm.Cond) (us ub : Addr) (kb : ClassId) (c1_ c2_ c3_ c4_ zv : Int32) (gv : Value) (h0 : Heap) (n0 : Nat) (Z0 : n0 ≤ h0.size) (E0 : Exa Z h0 us "java/lang/String") (Cc0 : Fld Z h0 us "java/lang/String" "coder" "B" (.int (0 : Int32))) (V0 : Fld Z h0 us "java/lang/String" "value" "[B" (.ref ub)) (A0 : Arv Z h0 ub kb .byte (5 : Int32) [(.int (47 : Int32)), (.int (c1_.toInt8.toInt32)), (.int (c2_.toInt8.toInt32)), (.int (c3_.toInt8.toInt32)), (.int (c4_.toInt8.toInt32))] (.int (0 : Int32))) (B1 : own_B c1_) (B2 : own_B c2_) (B3 : own_B c3_) (B4 : own_B c4_) (O0 : Old Z n0 h0) (hzv : ¬ zv = (0 : Int32)) (S0 : Sta Z Z.heap "java/lang/String" "COMPACT_STRINGS" "Z" (.int zv)) (rgv : gv.isRef = true) (G0 : Sta Z Z.heap "jdk/internal/util/Preconditions" "SIOOBE_FORMATTER" "Ljava/util/function/BiFunction;" gv) :
    own_MetH l Z consts_1 (⟨"com/example/grantfold/grantfold/model/Configuration", "parent", "(Ljava/lang/String;)Ljava/lang/String;"⟩ : MethodName) prog_15_method_2_code 2 (some (.object "java/lang/String")) ws ({ frames := 5, cells := 4, slots := 16, locals := 80 } : Room) #[(.ref us)] h0 (Q_par_5 Z us ub kb c1_ c2_ c3_ c4_ zv gv h0 n0) := by
  refine own_enterH (own := "com/example/grantfold/grantfold/model/Configuration") (plainFor_of_name pn_5) rfl ?_
  intro p e s m below meth c s₁ hlk hret hx hby hml hown hnm hZ hh hH X0 e0
  have N0 := Fr.nil n0
  refine own_cast (ef_par_5 m us) ?_
  have hS : s.Since s.vm 0 := (State.WarmedH.refl s).since 0
  have hk : 0 ≤ h0.size := Nat.zero_le _
  have C0 : CHr Z consts_1 s.vm h0 s.vm h0 := CHr.refl hH
  show own_Go _ _ _ _ (s₁.setTop (mkF m 0 #[.val (.ref us), .unset] []))
  refine own_go (fun t k => XS.aloadN X0.here hx rfl (hb hby d_p15_2_0) rfl rfl k) ?_
  show own_Go _ _ _ _ (s₁.setTop (mkF m 1 #[.val (.ref us), .unset] [(.ref us)]))
  obtain ⟨b310, T310, h310, k310, d310, kb310, X310, e310, E310, hS, hk, hZ, hown, A310, Fc310, Fv310, Va310, hia310, hib310, R310, -, hne310, st310⟩ := ldcCH X0 hx hZ hown (w_42 hw) (own_wS hw) e0 hS hk (own_EW hw) (List.mem_of_getElem? (i := 0) rfl) C0.1 (vs := [(.int (47 : Int32))]) (z := (1 : Int32)) ⟨by decide, rfl⟩ (by decide) rfl (g := (mkF m 1 #[.val (.ref us), .unset] [(.ref us)])) rfl (hb hby d_p15_2_1) (n := 4) (by decide) (by decide) (by decide) (by decide)
  refine own_go st310 ?_
  have Z310 : n0 ≤ h310.size := (Nat.le_trans Z0 E310.1)
  have C310 := C0.trans R310
  have K310 : Keep h0 h310 [] := (Keep.refl h0 []).ext E310
  have hB311 : ∀ c ∈ ([(47 : Int32), c1_, c2_, c3_, c4_] : List Int32), own_B c := (List.forall_mem_cons.mpr ⟨(by constructor <;> decide : own_B (47 : Int32)), (List.forall_mem_cons.mpr ⟨B1, (List.forall_mem_cons.mpr ⟨B2, (List.forall_mem_cons.mpr ⟨B3, (List.forall_mem_cons.mpr ⟨B4, (List.forall_mem_nil _)⟩)⟩)⟩)⟩)⟩)
  have hD311 := StrChars.Road.codOf (cs := ([(47 : Int32), c1_, c2_, c3_, c4_] : List Int32)) (n := 5) rfl (fun x hx => (hB311 x hx).2)
  have hU311 := own_up _ hB311
  have hB312 : ∀ c ∈ ([(47 : Int32)] : List Int32), own_B c := (List.forall_mem_cons.mpr ⟨(by constructor <;> decide : own_B (47 : Int32)), (List.forall_mem_nil _)⟩)
  have hD312 := StrChars.Road.codOf (cs := ([(47 : Int32)] : List Int32)) (n := 1) rfl (fun x hx => (hB312 x hx).2)
  have hU312 := own_up _ hB312
  obtain ⟨cq313, kq313, q313a, q313b, q313c⟩ := isOf hZ e310 (E0.ext E310)
  obtain ⟨_, _, ⟨T313, L313, k313, n313⟩, -, X313, ⟨Lc313, hQ313, l313, y313, z313⟩, st313⟩ := X310.virtualBack hx (y := (⟨"java/lang/String", "equals", "(Ljava/lang/Object;)Z"⟩ : MethodName)) (z := (⟨"java/lang/String", "equals", "(Ljava/lang/Object;)Z"⟩ : MethodName)) hown (mvT hZ (w_45 hw)) (mvT hZ (w_46 hw)) (notFace_of_selects (args := #[]) (mvT hZ (w_48 hw))) (mvT hZ (w_48 hw)) (mvT hZ (w_47 hw)) (by decide) (StrChars.Road.eqW (W := 0) hZ (own_weq hw) (kI := 4) (w_6 hw) (cs := ([(47 : Int32), c1_, c2_, c3_, c4_] : List Int32)) (E0.ext E310) (V0.ext E310) (Cc0.ext E310) (A0.ext E310) hD311 hU311 (Nat.le_of_ble_eq_true rfl) (ds := ([(47 : Int32)] : List Int32)) A310 Fv310 Fc310 Va310 hD312 hU312 (Nat.le_of_ble_eq_true rfl) (S0.ext (O0.ext E310).2) hzv (by decide) (by decide)) q313a q313c (g := (mkF m 3 #[.val (.ref us), .unset] [(.ref b310), (.ref us)])) rfl (by rw [hml]; rfl) (Steps.refl _) (argsL := [(.ref b310)]) (rest := []) (lenOf pd_11 rfl) rfl (by show 2 * 0 + _ ≤ _; exact Nat.le_of_eq rfl) (hb hby d_p15_2_3) (fun _ _ => ⟨rfl, e310, (by decide : 2 + 0 ≤ _), (by decide : 8 + 0 ≤ _)⟩)
  dsimp only [Pt.U, Pt.locs, Pt.cells, Pt.slots] at X313 l313 y313 z313 st313 hQ313
  subst l313 y313 z313
  obtain ⟨hv313, rfl, e313⟩ := hQ313
  obtain rfl := (hv313.resolve_left fun q => absurd (congrArg List.length q.2) (by simp)).1
  have N313q : Fr n0 ([] : List Loc) := Fr.nil n0
  have N313 := Fr.app N0 N313q
  refine own_go (fun t k => st313.trans k) ?_
  show own_Go _ _ _ _ (T313.setTop (mkF m 6 #[.val (.ref us), .unset] [(.int (0 : Int32))]))
  refine own_go (fun t k => XS.ifYes X313.here hx rfl (pc0 := 6) (pc' := 11) rfl (hb hby d_p15_2_6) rfl ((if0 _ _).trans (teq (by decide : (0 : Int32) = (0 : Int32))).1) (by decide) (by decide) k) ?_
  refine own_go (fun t k => XS.aloadN X313.here hx rfl (hb hby d_p15_2_11) rfl rfl k) ?_
  refine own_go (fun t k => XS.bipush X313.here hx rfl (hb hby d_p15_2_12) k) ?_
  by_cases s4 : c4_ = 47
  · obtain ⟨cq314, kq314, q314a, q314b, q314c⟩ := isOf hZ e313 (E0.ext E310)
    obtain ⟨_, _, ⟨T314, L314, k314, n314⟩, -, X314, ⟨Lc314, hQ314, l314, y314, z314⟩, st314⟩ := X313.virtualBack hx (y := (⟨"java/lang/String", "lastIndexOf", "(I)I"⟩ : MethodName)) (z := (⟨"java/lang/String", "lastIndexOf", "(I)I"⟩ : MethodName)) hown (mvT hZ (w_55 hw)) (mvT hZ (w_56 hw)) (notFace_of_selects (args := #[]) (mvT hZ (w_58 hw))) (mvT hZ (w_58 hw)) (mvT hZ (w_57 hw)) (by decide) (backOf (W := 0) (rm_lx1_5 l Z a0 hw [] us ub kb c1_ c2_ c3_ c4_ zv gv h310 n0 Z310 (E0.ext E310) (Cc0.ext E310) (V0.ext E310) (A0.ext E310) B1 B2 B3 B4 (O0.ext E310) hzv S0 rgv G0) hZ (w_59 hw) (w_7 hw) (by decide) (by decide)) q314a q314c (g := (mkF m 14 #[.val (.ref us), .unset] [(.int (47 : Int32)), (.ref us)])) rfl (by rw [hml]; rfl) (Steps.refl _) (argsL := [(.int (47 : Int32))]) (rest := []) (lenOf pd_12 rfl) rfl (by show 2 * 0 + _ ≤ _; exact Nat.le_of_eq rfl) (hb hby d_p15_2_14) (fun _ _ => ⟨rfl, e313, (by decide : 2 + 0 ≤ _), (by decide : 8 + 0 ≤ _)⟩)
    dsimp only [Pt.U, Pt.locs, Pt.cells, Pt.slots] at X314 l314 y314 z314 st314 hQ314
    subst l314 y314 z314
    obtain ⟨rfl, N314q, e314⟩ := hQ314
    have N314 := Fr.app N313 N314q
    rw [(by simp [own_last5, s4] : own_last5 c1_ c2_ c3_ c4_ = 4)] at st314
    refine own_go (fun t k => st314.trans k) ?_
    refine own_go (fun t k => XS.istoreN X314.here hx rfl (hb hby d_p15_2_17) rfl (l' := #[.val (.ref us), .val (.int (4 : Int32))]) rfl k) ?_
    refine own_go (fun t k => XS.iloadN X314.here hx rfl (hb hby d_p15_2_18) rfl k) ?_
    show own_Go _ _ _ _ (T314.setTop (mkF m 19 #[.val (.ref us), .val (.int (4 : Int32))] [(.int (4 : Int32))]))
    refine own_go (fun t k => XS.ifYes X314.here hx rfl (pc0 := 19) (pc' := 27) rfl (hb hby d_p15_2_19) rfl ((if0 _ _).trans (feq (by decide : ¬ ((4 : Int32) = (0 : Int32)))).2) (by decide) (by decide) k) ?_
    refine own_go (fun t k => XS.aloadN X314.here hx rfl (hb hby d_p15_2_27) rfl rfl k) ?_
    refine own_go (fun t k => XS.iconst X314.here hx rfl (hb hby d_p15_2_28) k) ?_
    refine own_go (fun t k => XS.iloadN X314.here hx rfl (hb hby d_p15_2_29) rfl k) ?_
    obtain ⟨cq315, kq315, q315a, q315b, q315c⟩ := isOf hZ e314 (E0.ext E310)
    obtain ⟨_, _, ⟨T315, L315, k315, n315⟩, -, X315, ⟨Lc315, hQ315, l315, y315, z315⟩, st315⟩ := X314.virtualBack hx (y := (⟨"java/lang/String", "substring", "(II)Ljava/lang/String;"⟩ : MethodName)) (z := (⟨"java/lang/String", "substring", "(II)Ljava/lang/String;"⟩ : MethodName)) hown (mvT hZ (w_110 hw)) (mvT hZ (w_111 hw)) (notFace_of_selects (args := #[]) (mvT hZ (w_113 hw))) (mvT hZ (w_113 hw)) (mvT hZ (w_112 hw)) (by decide) (backOf (W := 0) (rm_sub_4 l Z a0 hw [] us ub kb ([(47 : Int32), c1_, c2_, c3_, c4_] : List Int32) zv gv h310 n0 Z310 (E0.ext E310) (Cc0.ext E310) (V0.ext E310) (A0.ext E310) (List.forall_mem_cons.mpr ⟨(by constructor <;> decide : own_B (47 : Int32)), (List.forall_mem_cons.mpr ⟨B1, (List.forall_mem_cons.mpr ⟨B2, (List.forall_mem_cons.mpr ⟨B3, (List.forall_mem_cons.mpr ⟨B4, (List.forall_mem_nil _)⟩)⟩)⟩)⟩)⟩) (Nat.le_of_ble_eq_true rfl) (by show (4 : Int32) < Int32.ofNat 5 - (0 : Int32); decide) (by show (0 : Int32).toNatClampNeg + (4 : Int32).toNatClampNeg ≤ (Int32.ofNat 5).toNatClampNeg; decide) (by show ¬ (4 : Int32) = Int32.ofNat 5; decide) (by show ¬ Int32.ofNat 5 < (4 : Int32); decide) (O0.ext E310) hzv S0 rgv G0) hZ (w_114 hw) (w_7 hw) (by decide) (by decide)) q315a q315c (g := (mkF m 30 #[.val (.ref us), .val (.int (4 : Int32))] [(.int (4 : Int32)), (.int (0 : Int32)), (.ref us)])) rfl (by rw [hml]; rfl) (Steps.refl _) (argsL := [(.int (0 : Int32)), (.int (4 : Int32))]) (rest := []) (lenOf pd_13 rfl) rfl (by show 2 * 0 + _ ≤ _; exact Nat.le_of_eq rfl) (hb hby d_p15_2_30) (fun _ _ => ⟨rfl, e314, (by decide : 2 + 2 ≤ _), (by decide : 8 + 8 ≤ _)⟩)
    dsimp only [Pt.U, Pt.locs, Pt.cells, Pt.slots] at X315 l315 y315 z315 st315 hQ315
    subst l315 y315 z315
    generalize e315 : T315.heap = h315 at hQ315
    obtain ⟨ux315, uy315, ky315, rfl, N315q, K315q, lo315, q315, ly315, qy315, E315, Cd315, V315, A315⟩ := hQ315
    have N315 := Fr.app N314 N315q
    refine own_go (fun t k => st315.trans k) ?_
    have C315 := C310.trans (CHr.keep K315q all0 C310.1)
    have Z315 : n0 ≤ h315.size := (Nat.le_trans Z310 K315q.1)
    have K315 : Keep h0 h315 [] := K310.trans K315q all0
    have hi315 := E315.lt
    have hy315 := A315.lt
    replace A315 : Arv Z h315 uy315 ky315 .byte (4 : Int32) [(.int (47 : Int32)), (.int (c1_.toInt8.toInt32)), (.int (c2_.toInt8.toInt32)), (.int (c3_.toInt8.toInt32))] (.int (0 : Int32)) := A315
    show own_Go _ _ _ _ (T315.setTop (mkF m 33 #[.val (.ref us), .val (.int (4 : Int32))] [(.ref ux315)]))
    refine own_retH X315 hx hS (Nat.le_trans (Nat.le_trans hk K315q.1) (Nat.le_of_eq (congrArg Array.size e315.symm))) (by rw [hh, e315]; exact C315.trans (CHv.at X315 hZ (own_EW hw) C315.1)) hlk hret rfl (Or.inr (Or.inr (Or.inr (Or.inr ⟨rfl, rfl, rfl⟩)))) (hb hby d_p15_2_33) ?_ (by decide) (by decide)
    rw [e315]
    exact ⟨ux315, uy315, ky315, rfl, N315, K315, E315, Cd315, V315, (Or.inr (Or.inr (Or.inr (Or.inr ⟨s4, A315⟩))))⟩
  · by_cases s3 : c3_ = 47
    · obtain ⟨cq316, kq316, q316a, q316b, q316c⟩ := isOf hZ e313 (E0.ext E310)
      obtain ⟨_, _, ⟨T316, L316, k316, n316⟩, -, X316, ⟨Lc316, hQ316, l316, y316, z316⟩, st316⟩ := X313.virtualBack hx (y := (⟨"java/lang/String", "lastIndexOf", "(I)I"⟩ : MethodName)) (z := (⟨"java/lang/String", "lastIndexOf", "(I)I"⟩ : MethodName)) hown (mvT hZ (w_55 hw)) (mvT hZ (w_56 hw)) (notFace_of_selects (args := #[]) (mvT hZ (w_58 hw))) (mvT hZ (w_58 hw)) (mvT hZ (w_57 hw)) (by decide) (backOf (W := 0) (rm_lx1_5 l Z a0 hw [] us ub kb c1_ c2_ c3_ c4_ zv gv h310 n0 Z310 (E0.ext E310) (Cc0.ext E310) (V0.ext E310) (A0.ext E310) B1 B2 B3 B4 (O0.ext E310) hzv S0 rgv G0) hZ (w_59 hw) (w_7 hw) (by decide) (by decide)) q316a q316c (g := (mkF m 14 #[.val (.ref us), .unset] [(.int (47 : Int32)), (.ref us)])) rfl (by rw [hml]; rfl) (Steps.refl _) (argsL := [(.int (47 : Int32))]) (rest := []) (lenOf pd_12 rfl) rfl (by show 2 * 0 + _ ≤ _; exact Nat.le_of_eq rfl) (hb hby d_p15_2_14) (fun _ _ => ⟨rfl, e313, (by decide : 2 + 0 ≤ _), (by decide : 8 + 0 ≤ _)⟩)
      dsimp only [Pt.U, Pt.locs, Pt.cells, Pt.slots] at X316 l316 y316 z316 st316 hQ316
      subst l316 y316 z316
      obtain ⟨rfl, N316q, e316⟩ := hQ316
      have N316 := Fr.app N313 N316q
      rw [(by simp [own_last5, s3, s4] : own_last5 c1_ c2_ c3_ c4_ = 3)] at st316
      refine own_go (fun t k => st316.trans k) ?_
      refine own_go (fun t k => XS.istoreN X316.here hx rfl (hb hby d_p15_2_17) rfl (l' := #[.val (.ref us), .val (.int (3 : Int32))]) rfl k) ?_
      refine own_go (fun t k => XS.iloadN X316.here hx rfl (hb hby d_p15_2_18) rfl k) ?_
      show own_Go _ _ _ _ (T316.setTop (mkF m 19 #[.val (.ref us), .val (.int (3 : Int32))] [(.int (3 : Int32))]))
      refine own_go (fun t k => XS.ifYes X316.here hx rfl (pc0 := 19) (pc' := 27) rfl (hb hby d_p15_2_19) rfl ((if0 _ _).trans (feq (by decide : ¬ ((3 : Int32) = (0 : Int32)))).2) (by decide) (by decide) k) ?_
      refine own_go (fun t k => XS.aloadN X316.here hx rfl (hb hby d_p15_2_27) rfl rfl k) ?_
      refine own_go (fun t k => XS.iconst X316.here hx rfl (hb hby d_p15_2_28) k) ?_
      refine own_go (fun t k => XS.iloadN X316.here hx rfl (hb hby d_p15_2_29) rfl k) ?_
      obtain ⟨cq317, kq317, q317a, q317b, q317c⟩ := isOf hZ e316 (E0.ext E310)
      obtain ⟨_, _, ⟨T317, L317, k317, n317⟩, -, X317, ⟨Lc317, hQ317, l317, y317, z317⟩, st317⟩ := X316.virtualBack hx (y := (⟨"java/lang/String", "substring", "(II)Ljava/lang/String;"⟩ : MethodName)) (z := (⟨"java/lang/String", "substring", "(II)Ljava/lang/String;"⟩ : MethodName)) hown (mvT hZ (w_110 hw)) (mvT hZ (w_111 hw)) (notFace_of_selects (args := #[]) (mvT hZ (w_113 hw))) (mvT hZ (w_113 hw)) (mvT hZ (w_112 hw)) (by decide) (backOf (W := 0) (rm_sub_3 l Z a0 hw [] us ub kb ([(47 : Int32), c1_, c2_, c3_, c4_] : List Int32) zv gv h310 n0 Z310 (E0.ext E310) (Cc0.ext E310) (V0.ext E310) (A0.ext E310) (List.forall_mem_cons.mpr ⟨(by constructor <;> decide : own_B (47 : Int32)), (List.forall_mem_cons.mpr ⟨B1, (List.forall_mem_cons.mpr ⟨B2, (List.forall_mem_cons.mpr ⟨B3, (List.forall_mem_cons.mpr ⟨B4, (List.forall_mem_nil _)⟩)⟩)⟩)⟩)⟩) (Nat.le_of_ble_eq_true rfl) (by show (3 : Int32) < Int32.ofNat 5 - (0 : Int32); decide) (by show (0 : Int32).toNatClampNeg + (3 : Int32).toNatClampNeg ≤ (Int32.ofNat 5).toNatClampNeg; decide) (by show ¬ (3 : Int32) = Int32.ofNat 5; decide) (by show ¬ Int32.ofNat 5 < (3 : Int32); decide) (O0.ext E310) hzv S0 rgv G0) hZ (w_114 hw) (w_7 hw) (by decide) (by decide)) q317a q317c (g := (mkF m 30 #[.val (.ref us), .val (.int (3 : Int32))] [(.int (3 : Int32)), (.int (0 : Int32)), (.ref us)])) rfl (by rw [hml]; rfl) (Steps.refl _) (argsL := [(.int (0 : Int32)), (.int (3 : Int32))]) (rest := []) (lenOf pd_13 rfl) rfl (by show 2 * 0 + _ ≤ _; exact Nat.le_of_eq rfl) (hb hby d_p15_2_30) (fun _ _ => ⟨rfl, e316, (by decide : 2 + 2 ≤ _), (by decide : 8 + 7 ≤ _)⟩)
      dsimp only [Pt.U, Pt.locs, Pt.cells, Pt.slots] at X317 l317 y317 z317 st317 hQ317
      subst l317 y317 z317
      generalize e317 : T317.heap = h317 at hQ317
      obtain ⟨ux317, uy317, ky317, rfl, N317q, K317q, lo317, q317, ly317, qy317, E317, Cd317, V317, A317⟩ := hQ317
      have N317 := Fr.app N316 N317q
      refine own_go (fun t k => st317.trans k) ?_
      have C317 := C310.trans (CHr.keep K317q all0 C310.1)
      have Z317 : n0 ≤ h317.size := (Nat.le_trans Z310 K317q.1)
      have K317 : Keep h0 h317 [] := K310.trans K317q all0
      have hi317 := E317.lt
      have hy317 := A317.lt
      replace A317 : Arv Z h317 uy317 ky317 .byte (3 : Int32) [(.int (47 : Int32)), (.int (c1_.toInt8.toInt32)), (.int (c2_.toInt8.toInt32))] (.int (0 : Int32)) := A317
      show own_Go _ _ _ _ (T317.setTop (mkF m 33 #[.val (.ref us), .val (.int (3 : Int32))] [(.ref ux317)]))
      refine own_retH X317 hx hS (Nat.le_trans (Nat.le_trans hk K317q.1) (Nat.le_of_eq (congrArg Array.size e317.symm))) (by rw [hh, e317]; exact C317.trans (CHv.at X317 hZ (own_EW hw) C317.1)) hlk hret rfl (Or.inr (Or.inr (Or.inr (Or.inr ⟨rfl, rfl, rfl⟩)))) (hb hby d_p15_2_33) ?_ (by decide) (by decide)
      rw [e317]
      exact ⟨ux317, uy317, ky317, rfl, N317, K317, E317, Cd317, V317, (Or.inr (Or.inr (Or.inr (Or.inl ⟨s3, s4, A317⟩))))⟩
    · by_cases s2 : c2_ = 47
      · obtain ⟨cq318, kq318, q318a, q318b, q318c⟩ := isOf hZ e313 (E0.ext E310)
        obtain ⟨_, _, ⟨T318, L318, k318, n318⟩, -, X318, ⟨Lc318, hQ318, l318, y318, z318⟩, st318⟩ := X313.virtualBack hx (y := (⟨"java/lang/String", "lastIndexOf", "(I)I"⟩ : MethodName)) (z := (⟨"java/lang/String", "lastIndexOf", "(I)I"⟩ : MethodName)) hown (mvT hZ (w_55 hw)) (mvT hZ (w_56 hw)) (notFace_of_selects (args := #[]) (mvT hZ (w_58 hw))) (mvT hZ (w_58 hw)) (mvT hZ (w_57 hw)) (by decide) (backOf (W := 0) (rm_lx1_5 l Z a0 hw [] us ub kb c1_ c2_ c3_ c4_ zv gv h310 n0 Z310 (E0.ext E310) (Cc0.ext E310) (V0.ext E310) (A0.ext E310) B1 B2 B3 B4 (O0.ext E310) hzv S0 rgv G0) hZ (w_59 hw) (w_7 hw) (by decide) (by decide)) q318a q318c (g := (mkF m 14 #[.val (.ref us), .unset] [(.int (47 : Int32)), (.ref us)])) rfl (by rw [hml]; rfl) (Steps.refl _) (argsL := [(.int (47 : Int32))]) (rest := []) (lenOf pd_12 rfl) rfl (by show 2 * 0 + _ ≤ _; exact Nat.le_of_eq rfl) (hb hby d_p15_2_14) (fun _ _ => ⟨rfl, e313, (by decide : 2 + 0 ≤ _), (by decide : 8 + 0 ≤ _)⟩)
        dsimp only [Pt.U, Pt.locs, Pt.cells, Pt.slots] at X318 l318 y318 z318 st318 hQ318
        subst l318 y318 z318
        obtain ⟨rfl, N318q, e318⟩ := hQ318
        have N318 := Fr.app N313 N318q
        rw [(by simp [own_last5, s2, s3, s4] : own_last5 c1_ c2_ c3_ c4_ = 2)] at st318
        refine own_go (fun t k => st318.trans k) ?_
        refine own_go (fun t k => XS.istoreN X318.here hx rfl (hb hby d_p15_2_17) rfl (l' := #[.val (.ref us), .val (.int (2 : Int32))]) rfl k) ?_
        refine own_go (fun t k => XS.iloadN X318.here hx rfl (hb hby d_p15_2_18) rfl k) ?_
        show own_Go _ _ _ _ (T318.setTop (mkF m 19 #[.val (.ref us), .val (.int (2 : Int32))] [(.int (2 : Int32))]))
        refine own_go (fun t k => XS.ifYes X318.here hx rfl (pc0 := 19) (pc' := 27) rfl (hb hby d_p15_2_19) rfl ((if0 _ _).trans (feq (by decide : ¬ ((2 : Int32) = (0 : Int32)))).2) (by decide) (by decide) k) ?_
        refine own_go (fun t k => XS.aloadN X318.here hx rfl (hb hby d_p15_2_27) rfl rfl k) ?_
        refine own_go (fun t k => XS.iconst X318.here hx rfl (hb hby d_p15_2_28) k) ?_
        refine own_go (fun t k => XS.iloadN X318.here hx rfl (hb hby d_p15_2_29) rfl k) ?_
        obtain ⟨cq319, kq319, q319a, q319b, q319c⟩ := isOf hZ e318 (E0.ext E310)
        obtain ⟨_, _, ⟨T319, L319, k319, n319⟩, -, X319, ⟨Lc319, hQ319, l319, y319, z319⟩, st319⟩ := X318.virtualBack hx (y := (⟨"java/lang/String", "substring", "(II)Ljava/lang/String;"⟩ : MethodName)) (z := (⟨"java/lang/String", "substring", "(II)Ljava/lang/String;"⟩ : MethodName)) hown (mvT hZ (w_110 hw)) (mvT hZ (w_111 hw)) (notFace_of_selects (args := #[]) (mvT hZ (w_113 hw))) (mvT hZ (w_113 hw)) (mvT hZ (w_112 hw)) (by decide) (backOf (W := 0) (rm_sub_2 l Z a0 hw [] us ub kb ([(47 : Int32), c1_, c2_, c3_, c4_] : List Int32) zv gv h310 n0 Z310 (E0.ext E310) (Cc0.ext E310) (V0.ext E310) (A0.ext E310) (List.forall_mem_cons.mpr ⟨(by constructor <;> decide : own_B (47 : Int32)), (List.forall_mem_cons.mpr ⟨B1, (List.forall_mem_cons.mpr ⟨B2, (List.forall_mem_cons.mpr ⟨B3, (List.forall_mem_cons.mpr ⟨B4, (List.forall_mem_nil _)⟩)⟩)⟩)⟩)⟩) (Nat.le_of_ble_eq_true rfl) (by show (2 : Int32) < Int32.ofNat 5 - (0 : Int32); decide) (by show (0 : Int32).toNatClampNeg + (2 : Int32).toNatClampNeg ≤ (Int32.ofNat 5).toNatClampNeg; decide) (by show ¬ (2 : Int32) = Int32.ofNat 5; decide) (by show ¬ Int32.ofNat 5 < (2 : Int32); decide) (O0.ext E310) hzv S0 rgv G0) hZ (w_114 hw) (w_7 hw) (by decide) (by decide)) q319a q319c (g := (mkF m 30 #[.val (.ref us), .val (.int (2 : Int32))] [(.int (2 : Int32)), (.int (0 : Int32)), (.ref us)])) rfl (by rw [hml]; rfl) (Steps.refl _) (argsL := [(.int (0 : Int32)), (.int (2 : Int32))]) (rest := []) (lenOf pd_13 rfl) rfl (by show 2 * 0 + _ ≤ _; exact Nat.le_of_eq rfl) (hb hby d_p15_2_30) (fun _ _ => ⟨rfl, e318, (by decide : 2 + 2 ≤ _), (by decide : 8 + 6 ≤ _)⟩)
        dsimp only [Pt.U, Pt.locs, Pt.cells, Pt.slots] at X319 l319 y319 z319 st319 hQ319
        subst l319 y319 z319
        generalize e319 : T319.heap = h319 at hQ319
        obtain ⟨ux319, uy319, ky319, rfl, N319q, K319q, lo319, q319, ly319, qy319, E319, Cd319, V319, A319⟩ := hQ319
        have N319 := Fr.app N318 N319q
        refine own_go (fun t k => st319.trans k) ?_
        have C319 := C310.trans (CHr.keep K319q all0 C310.1)
        have Z319 : n0 ≤ h319.size := (Nat.le_trans Z310 K319q.1)
        have K319 : Keep h0 h319 [] := K310.trans K319q all0
        have hi319 := E319.lt
        have hy319 := A319.lt
        replace A319 : Arv Z h319 uy319 ky319 .byte (2 : Int32) [(.int (47 : Int32)), (.int (c1_.toInt8.toInt32))] (.int (0 : Int32)) := A319
        show own_Go _ _ _ _ (T319.setTop (mkF m 33 #[.val (.ref us), .val (.int (2 : Int32))] [(.ref ux319)]))
        refine own_retH X319 hx hS (Nat.le_trans (Nat.le_trans hk K319q.1) (Nat.le_of_eq (congrArg Array.size e319.symm))) (by rw [hh, e319]; exact C319.trans (CHv.at X319 hZ (own_EW hw) C319.1)) hlk hret rfl (Or.inr (Or.inr (Or.inr (Or.inr ⟨rfl, rfl, rfl⟩)))) (hb hby d_p15_2_33) ?_ (by decide) (by decide)
        rw [e319]
        exact ⟨ux319, uy319, ky319, rfl, N319, K319, E319, Cd319, V319, (Or.inr (Or.inr (Or.inl ⟨s2, s3, s4, A319⟩)))⟩
      · by_cases s1 : c1_ = 47
        · obtain ⟨cq320, kq320, q320a, q320b, q320c⟩ := isOf hZ e313 (E0.ext E310)
          obtain ⟨_, _, ⟨T320, L320, k320, n320⟩, -, X320, ⟨Lc320, hQ320, l320, y320, z320⟩, st320⟩ := X313.virtualBack hx (y := (⟨"java/lang/String", "lastIndexOf", "(I)I"⟩ : MethodName)) (z := (⟨"java/lang/String", "lastIndexOf", "(I)I"⟩ : MethodName)) hown (mvT hZ (w_55 hw)) (mvT hZ (w_56 hw)) (notFace_of_selects (args := #[]) (mvT hZ (w_58 hw))) (mvT hZ (w_58 hw)) (mvT hZ (w_57 hw)) (by decide) (backOf (W := 0) (rm_lx1_5 l Z a0 hw [] us ub kb c1_ c2_ c3_ c4_ zv gv h310 n0 Z310 (E0.ext E310) (Cc0.ext E310) (V0.ext E310) (A0.ext E310) B1 B2 B3 B4 (O0.ext E310) hzv S0 rgv G0) hZ (w_59 hw) (w_7 hw) (by decide) (by decide)) q320a q320c (g := (mkF m 14 #[.val (.ref us), .unset] [(.int (47 : Int32)), (.ref us)])) rfl (by rw [hml]; rfl) (Steps.refl _) (argsL := [(.int (47 : Int32))]) (rest := []) (lenOf pd_12 rfl) rfl (by show 2 * 0 + _ ≤ _; exact Nat.le_of_eq rfl) (hb hby d_p15_2_14) (fun _ _ => ⟨rfl, e313, (by decide : 2 + 0 ≤ _), (by decide : 8 + 0 ≤ _)⟩)
          dsimp only [Pt.U, Pt.locs, Pt.cells, Pt.slots] at X320 l320 y320 z320 st320 hQ320
          subst l320 y320 z320
          obtain ⟨rfl, N320q, e320⟩ := hQ320
          have N320 := Fr.app N313 N320q
          rw [(by simp [own_last5, s1, s2, s3, s4] : own_last5 c1_ c2_ c3_ c4_ = 1)] at st320
          refine own_go (fun t k => st320.trans k) ?_
          refine own_go (fun t k => XS.istoreN X320.here hx rfl (hb hby d_p15_2_17) rfl (l' := #[.val (.ref us), .val (.int (1 : Int32))]) rfl k) ?_
          refine own_go (fun t k => XS.iloadN X320.here hx rfl (hb hby d_p15_2_18) rfl k) ?_
          show own_Go _ _ _ _ (T320.setTop (mkF m 19 #[.val (.ref us), .val (.int (1 : Int32))] [(.int (1 : Int32))]))
          refine own_go (fun t k => XS.ifYes X320.here hx rfl (pc0 := 19) (pc' := 27) rfl (hb hby d_p15_2_19) rfl ((if0 _ _).trans (feq (by decide : ¬ ((1 : Int32) = (0 : Int32)))).2) (by decide) (by decide) k) ?_
          refine own_go (fun t k => XS.aloadN X320.here hx rfl (hb hby d_p15_2_27) rfl rfl k) ?_
          refine own_go (fun t k => XS.iconst X320.here hx rfl (hb hby d_p15_2_28) k) ?_
          refine own_go (fun t k => XS.iloadN X320.here hx rfl (hb hby d_p15_2_29) rfl k) ?_
          obtain ⟨cq321, kq321, q321a, q321b, q321c⟩ := isOf hZ e320 (E0.ext E310)
          obtain ⟨_, _, ⟨T321, L321, k321, n321⟩, -, X321, ⟨Lc321, hQ321, l321, y321, z321⟩, st321⟩ := X320.virtualBack hx (y := (⟨"java/lang/String", "substring", "(II)Ljava/lang/String;"⟩ : MethodName)) (z := (⟨"java/lang/String", "substring", "(II)Ljava/lang/String;"⟩ : MethodName)) hown (mvT hZ (w_110 hw)) (mvT hZ (w_111 hw)) (notFace_of_selects (args := #[]) (mvT hZ (w_113 hw))) (mvT hZ (w_113 hw)) (mvT hZ (w_112 hw)) (by decide) (backOf (W := 0) (rm_sub_1 l Z a0 hw [] us ub kb ([(47 : Int32), c1_, c2_, c3_, c4_] : List Int32) zv gv h310 n0 Z310 (E0.ext E310) (Cc0.ext E310) (V0.ext E310) (A0.ext E310) (List.forall_mem_cons.mpr ⟨(by constructor <;> decide : own_B (47 : Int32)), (List.forall_mem_cons.mpr ⟨B1, (List.forall_mem_cons.mpr ⟨B2, (List.forall_mem_cons.mpr ⟨B3, (List.forall_mem_cons.mpr ⟨B4, (List.forall_mem_nil _)⟩)⟩)⟩)⟩)⟩) (Nat.le_of_ble_eq_true rfl) (by show (1 : Int32) < Int32.ofNat 5 - (0 : Int32); decide) (by show (0 : Int32).toNatClampNeg + (1 : Int32).toNatClampNeg ≤ (Int32.ofNat 5).toNatClampNeg; decide) (by show ¬ (1 : Int32) = Int32.ofNat 5; decide) (by show ¬ Int32.ofNat 5 < (1 : Int32); decide) (O0.ext E310) hzv S0 rgv G0) hZ (w_114 hw) (w_7 hw) (by decide) (by decide)) q321a q321c (g := (mkF m 30 #[.val (.ref us), .val (.int (1 : Int32))] [(.int (1 : Int32)), (.int (0 : Int32)), (.ref us)])) rfl (by rw [hml]; rfl) (Steps.refl _) (argsL := [(.int (0 : Int32)), (.int (1 : Int32))]) (rest := []) (lenOf pd_13 rfl) rfl (by show 2 * 0 + _ ≤ _; exact Nat.le_of_eq rfl) (hb hby d_p15_2_30) (fun _ _ => ⟨rfl, e320, (by decide : 2 + 2 ≤ _), (by decide : 8 + 5 ≤ _)⟩)
          dsimp only [Pt.U, Pt.locs, Pt.cells, Pt.slots] at X321 l321 y321 z321 st321 hQ321
          subst l321 y321 z321
          generalize e321 : T321.heap = h321 at hQ321
          obtain ⟨ux321, uy321, ky321, rfl, N321q, K321q, lo321, q321, ly321, qy321, E321, Cd321, V321, A321⟩ := hQ321
          have N321 := Fr.app N320 N321q
          refine own_go (fun t k => st321.trans k) ?_
          have C321 := C310.trans (CHr.keep K321q all0 C310.1)
          have Z321 : n0 ≤ h321.size := (Nat.le_trans Z310 K321q.1)
          have K321 : Keep h0 h321 [] := K310.trans K321q all0
          have hi321 := E321.lt
          have hy321 := A321.lt
          replace A321 : Arv Z h321 uy321 ky321 .byte (1 : Int32) [(.int (47 : Int32))] (.int (0 : Int32)) := A321
          show own_Go _ _ _ _ (T321.setTop (mkF m 33 #[.val (.ref us), .val (.int (1 : Int32))] [(.ref ux321)]))
          refine own_retH X321 hx hS (Nat.le_trans (Nat.le_trans hk K321q.1) (Nat.le_of_eq (congrArg Array.size e321.symm))) (by rw [hh, e321]; exact C321.trans (CHv.at X321 hZ (own_EW hw) C321.1)) hlk hret rfl (Or.inr (Or.inr (Or.inr (Or.inr ⟨rfl, rfl, rfl⟩)))) (hb hby d_p15_2_33) ?_ (by decide) (by decide)
          rw [e321]
          exact ⟨ux321, uy321, ky321, rfl, N321, K321, E321, Cd321, V321, (Or.inr (Or.inl ⟨s1, s2, s3, s4, A321⟩))⟩
        · obtain ⟨cq322, kq322, q322a, q322b, q322c⟩ := isOf hZ e313 (E0.ext E310)
          obtain ⟨_, _, ⟨T322, L322, k322, n322⟩, -, X322, ⟨Lc322, hQ322, l322, y322, z322⟩, st322⟩ := X313.virtualBack hx (y := (⟨"java/lang/String", "lastIndexOf", "(I)I"⟩ : MethodName)) (z := (⟨"java/lang/String", "lastIndexOf", "(I)I"⟩ : MethodName)) hown (mvT hZ (w_55 hw)) (mvT hZ (w_56 hw)) (notFace_of_selects (args := #[]) (mvT hZ (w_58 hw))) (mvT hZ (w_58 hw)) (mvT hZ (w_57 hw)) (by decide) (backOf (W := 0) (rm_lx1_5 l Z a0 hw [] us ub kb c1_ c2_ c3_ c4_ zv gv h310 n0 Z310 (E0.ext E310) (Cc0.ext E310) (V0.ext E310) (A0.ext E310) B1 B2 B3 B4 (O0.ext E310) hzv S0 rgv G0) hZ (w_59 hw) (w_7 hw) (by decide) (by decide)) q322a q322c (g := (mkF m 14 #[.val (.ref us), .unset] [(.int (47 : Int32)), (.ref us)])) rfl (by rw [hml]; rfl) (Steps.refl _) (argsL := [(.int (47 : Int32))]) (rest := []) (lenOf pd_12 rfl) rfl (by show 2 * 0 + _ ≤ _; exact Nat.le_of_eq rfl) (hb hby d_p15_2_14) (fun _ _ => ⟨rfl, e313, (by decide : 2 + 0 ≤ _), (by decide : 8 + 0 ≤ _)⟩)
          dsimp only [Pt.U, Pt.locs, Pt.cells, Pt.slots] at X322 l322 y322 z322 st322 hQ322
          subst l322 y322 z322
          obtain ⟨rfl, N322q, e322⟩ := hQ322
          have N322 := Fr.app N313 N322q
          rw [(by simp [own_last5, s1, s2, s3, s4] : own_last5 c1_ c2_ c3_ c4_ = 0)] at st322
          refine own_go (fun t k => st322.trans k) ?_
          refine own_go (fun t k => XS.istoreN X322.here hx rfl (hb hby d_p15_2_17) rfl (l' := #[.val (.ref us), .val (.int (0 : Int32))]) rfl k) ?_
          refine own_go (fun t k => XS.iloadN X322.here hx rfl (hb hby d_p15_2_18) rfl k) ?_
          show own_Go _ _ _ _ (T322.setTop (mkF m 19 #[.val (.ref us), .val (.int (0 : Int32))] [(.int (0 : Int32))]))
          refine own_go (fun t k => XS.ifNo X322.here hx rfl (hb hby d_p15_2_19) rfl ((if0 _ _).trans (teq (by decide : (0 : Int32) = (0 : Int32))).2) k) ?_
          show own_Go _ _ _ _ (T322.setTop (mkF m 22 #[.val (.ref us), .val (.int (0 : Int32))] []))
          obtain ⟨b323, T323, h323, k323, d323, kb323, X323, e323, E323, hS, hk, hZ, hown, A323, Fc323, Fv323, Va323, hia323, hib323, R323, -, hne323, st323⟩ := ldcCH X322 hx hZ hown (w_42 hw) (own_wS hw) e322 hS hk (own_EW hw) (List.mem_of_getElem? (i := 0) rfl) C310.1 (vs := [(.int (47 : Int32))]) (z := (1 : Int32)) ⟨by decide, rfl⟩ (by decide) rfl (g := (mkF m 22 #[.val (.ref us), .val (.int (0 : Int32))] [])) rfl (hb hby d_p15_2_22) (n := 4) (by decide) (by decide) (by decide) (by decide)
          refine own_go st323 ?_
          have Z323 : n0 ≤ h323.size := (Nat.le_trans Z310 E323.1)
          have C323 := C310.trans R323
          have K323 : Keep h0 h323 [] := K310.ext E323
          refine own_go (fun t k => XS.goto X323.here hx rfl (pc0 := 24) (pc' := 33) rfl (hb hby d_p15_2_24) (by decide) (by decide) k) ?_
          show own_Go _ _ _ _ (T323.setTop (mkF m 33 #[.val (.ref us), .val (.int (0 : Int32))] [(.ref b323)]))
          refine own_retH X323 hx hS (Nat.le_trans hk (Nat.le_of_eq (congrArg Array.size e323.symm))) (by rw [hh, e323]; exact C323.trans (CHv.at X323 hZ (own_EW hw) C323.1)) hlk hret rfl (Or.inr (Or.inr (Or.inr (Or.inr ⟨rfl, rfl, rfl⟩)))) (hb hby d_p15_2_33) ?_ (by decide) (by decide)
          rw [e323]
          exact ⟨b323, d323, kb323, rfl, N322, K323, A323, Fc323, Fv323, (Or.inl ⟨s1, s2, s3, s4, Va323⟩)⟩
def Q_law (Z : State) (iv : Int32) (p1_ : Int32) (p2_ : Int32) (p3_ : Int32) (p4_ : Int32) (zv : Int32) (gv : Value) (h0 : Heap) (n0 : Nat) (v : Option Value) (h : Heap) (L : List Loc) : Prop := v = some (.int 1) ∧ Fr n0 L
theorem w_93 {Z : State} {a0 : Array Value} (hw : ∀ d ∈ tables_1, d.before a0 Z = true) : (Jvm.Cond.methodLink "com/example/grantfold/grantfold/model/ConfigurationParentPinLaw" (33 : Nat) ({ cls := "java/lang/String", name := "length", desc := "()I" } : Jvm.MethodName)).before a0 Z = true := hw _ (List.mem_of_getElem? (i := 93) rfl)
theorem w_94 {Z : State} {a0 : Array Value} (hw : ∀ d ∈ tables_1, d.before a0 Z = true) : (Jvm.Cond.methodLink "com/example/grantfold/grantfold/model/ConfigurationParentPinLaw" (37 : Nat) ({ cls := "java/lang/String", name := "charAt", desc := "(I)C" } : Jvm.MethodName)).before a0 Z = true := hw _ (List.mem_of_getElem? (i := 94) rfl)
theorem w_98 {Z : State} {a0 : Array Value} (hw : ∀ d ∈ tables_1, d.before a0 Z = true) : (Jvm.Cond.code ({ cls := "java/lang/String", name := "charAt", desc := "(I)C" } : Jvm.MethodName) jdk_42_method_56_code (2 : Nat) (Option.some Jvm.ClassFile.FieldType.char)).before a0 Z = true := hw _ (List.mem_of_getElem? (i := 98) rfl)
theorem pd_14 : parseMethodDescriptor "(I)C" = some ⟨[.int], some .char⟩ := by decide +kernel
theorem w_97 {Z : State} {a0 : Array Value} (hw : ∀ d ∈ tables_1, d.before a0 Z = true) : (Jvm.Cond.selects "java/lang/String" ({ cls := "java/lang/String", name := "charAt", desc := "(I)C" } : Jvm.MethodName) ({ cls := "java/lang/String", name := "charAt", desc := "(I)C" } : Jvm.MethodName)).before a0 Z = true := hw _ (List.mem_of_getElem? (i := 97) rfl)
theorem w_95 {Z : State} {a0 : Array Value} (hw : ∀ d ∈ tables_1, d.before a0 Z = true) : (Jvm.Cond.declares ({ cls := "java/lang/String", name := "charAt", desc := "(I)C" } : Jvm.MethodName)).before a0 Z = true := hw _ (List.mem_of_getElem? (i := 95) rfl)
theorem w_96 {Z : State} {a0 : Array Value} (hw : ∀ d ∈ tables_1, d.before a0 Z = true) : (Jvm.Cond.instanceMethod ({ cls := "java/lang/String", name := "charAt", desc := "(I)C" } : Jvm.MethodName)).before a0 Z = true := hw _ (List.mem_of_getElem? (i := 96) rfl)
set_option maxRecDepth 65536 in
set_option maxHeartbeats 40000000 in
theorem sg_tl0 {p : Program} {l : Launch} {e : Env} {s : State} {vm0 : Vm} {m : MethodId} {args : Array Value} {below : List Frame} {meth : Method} {c : Code} {T0 : State} {locs : List Loc} {cells slots : Nat} {Z : State} {a0 : Array Value} (hw : ∀ d ∈ tables_1, d.before a0 Z = true) {s0_ s1_ s2_ s3_ s4_ s5_ s9_ s10_ : Slot} {h0 : Heap} {n0 : Nat} (X0 : Stand p l e room_1 (s.setVm vm0) m args below meth c T0 locs cells slots) (hlk : meth.locks = false) (hret : meth.sig.returnType = ret) (hx : p.tables.exec = Jvm.exec) (hby : c.code = code) (hml : c.maxLocals = maxLocals) (hown : vm0.findClass "com/example/grantfold/grantfold/model/ConfigurationParentPinLaw" = some m.cls) (hZ : Z.Warmed39 vm0) {k0 : Nat} (hS : s.Since vm0 k0) (hk : k0 ≤ h0.size) {hs0 : Heap} (hh : s.heap = hs0) (C0 : CHr Z consts_1 s.vm hs0 vm0 h0) (e0 : T0.heap = h0) (N0 : Fr n0 locs) (Z0 : n0 ≤ h0.size)
    (iv p1_ p2_ p3_ p4_ zv : Int32) (gv : Value) (hq : Heap) (us ub : Addr) (kb : ClassId) (c1_ c2_ c3_ c4_ : Int32) (O0 : Old Z n0 h0) (hzv : ¬ zv = (0 : Int32)) (S0 : Sta Z Z.heap "java/lang/String" "COMPACT_STRINGS" "Z" (.int zv)) (rgv : gv.isRef = true) (G0 : Sta Z Z.heap "jdk/internal/util/Preconditions" "SIOOBE_FORMATTER" "Ljava/util/function/BiFunction;" gv) (E0 : Exa Z h0 us "java/lang/String") (Cc0 : Fld Z h0 us "java/lang/String" "coder" "B" (.int (0 : Int32))) (V0 : Fld Z h0 us "java/lang/String" "value" "[B" (.ref ub)) (A0 : Arv Z h0 ub kb .byte (1 : Int32) [(.int (47 : Int32))] (.int (0 : Int32))) (B1 : own_B c1_) (B2 : own_B c2_) (B3 : own_B c3_) (B4 : own_B c4_) (hcc : cells + 0 ≤ 24) (hss : slots + 0 ≤ 1152) :
    own_Go p e below (own_FinH Z consts_1 s room_1.cells room_1.slots (Q_law Z iv p1_ p2_ p3_ p4_ zv gv hq n0)) (T0.setTop (mkF m 96 #[s0_, s1_, s2_, s3_, s4_, s5_, .val (.int c1_), .val (.int c2_), .val (.int c3_), s9_, s10_, .val (.ref us), .val (.int (0 : Int32))] [])) := by
  show own_Go _ _ _ _ (T0.setTop (mkF m 96 #[s0_, s1_, s2_, s3_, s4_, s5_, .val (.int c1_), .val (.int c2_), .val (.int c3_), s9_, s10_, .val (.ref us), .val (.int (0 : Int32))] []))
  refine own_go (fun t k => XS.aload X0.here hx rfl (hb hby at_96) rfl rfl k) ?_
  show own_Go _ _ _ _ (T0.setTop (mkF m 98 #[s0_, s1_, s2_, s3_, s4_, s5_, .val (.int c1_), .val (.int c2_), .val (.int c3_), s9_, s10_, .val (.ref us), .val (.int (0 : Int32))] [(.ref us)]))
  refine own_go (fun t k => XS.ifnonnullYes X0.here hx rfl (pc0 := 98) (pc' := 103) rfl (hb hby at_98) rfl (by decide) (by decide) k) ?_
  refine own_go (fun t k => XS.iload X0.here hx rfl (hb hby at_103) rfl k) ?_
  show own_Go _ _ _ _ (T0.setTop (mkF m 105 #[s0_, s1_, s2_, s3_, s4_, s5_, .val (.int c1_), .val (.int c2_), .val (.int c3_), s9_, s10_, .val (.ref us), .val (.int (0 : Int32))] [(.int (0 : Int32))]))
  refine own_go (fun t k => XS.ifNo X0.here hx rfl (hb hby at_105) rfl ((if0 _ _).trans (teq (by decide : (0 : Int32) = (0 : Int32))).2) k) ?_
  refine own_go (fun t k => XS.aload X0.here hx rfl (hb hby at_108) rfl rfl k) ?_
  have hB324 : ∀ c ∈ ([(47 : Int32)] : List Int32), own_B c := (List.forall_mem_cons.mpr ⟨(by constructor <;> decide : own_B (47 : Int32)), (List.forall_mem_nil _)⟩)
  have hD324 := StrChars.Road.codOf (cs := ([(47 : Int32)] : List Int32)) (n := 1) rfl (fun x hx => (hB324 x hx).2)
  have hU324 := own_up _ hB324
  obtain ⟨cq325, kq325, q325a, q325b, q325c⟩ := isOf (s := s.setVm vm0) hZ e0 E0
  obtain ⟨_, _, ⟨T325, L325, k325, n325⟩, -, X325, ⟨Lc325, hQ325, l325, y325, z325⟩, st325⟩ := X0.virtualBack hx (y := (⟨"java/lang/String", "length", "()I"⟩ : MethodName)) (z := (⟨"java/lang/String", "length", "()I"⟩ : MethodName)) hown (mvT hZ (w_93 hw)) (mvT hZ (w_61 hw)) (notFace_of_selects (args := #[]) (mvT hZ (w_63 hw))) (mvT hZ (w_63 hw)) (mvT hZ (w_62 hw)) (by decide) (StrChars.Road.lenW (W := 0) hZ (own_wlen hw) (kI := 4) (w_6 hw) (cs := ([(47 : Int32)] : List Int32)) E0 V0 Cc0 A0 hD324 hU324 (S0.ext O0.2) hzv (Nat.le_of_ble_eq_true rfl) (by decide) (by decide)) q325a q325c (g := (mkF m 110 #[s0_, s1_, s2_, s3_, s4_, s5_, .val (.int c1_), .val (.int c2_), .val (.int c3_), s9_, s10_, .val (.ref us), .val (.int (0 : Int32))] [(.ref us)])) rfl (by rw [hml]; rfl) (Steps.refl _) (argsL := []) (rest := []) (lenOf pd_4 rfl) rfl (by show 2 * 0 + _ ≤ _; exact Nat.le_of_eq rfl) (hb hby at_110) (fun _ _ => ⟨rfl, e0, (by show _ ≤ 24; omega), (by show _ ≤ 1152; omega)⟩)
  dsimp only [Pt.U, Pt.locs, Pt.cells, Pt.slots] at X325 l325 y325 z325 st325 hQ325
  subst l325 y325 z325
  obtain ⟨rfl, rfl, e325⟩ := hQ325
  have N325q : Fr n0 ([] : List Loc) := Fr.nil n0
  have N325 := Fr.app N0 N325q
  refine own_go (fun t k => st325.trans k) ?_
  show own_Go _ _ _ _ (T325.setTop (mkF m 113 #[s0_, s1_, s2_, s3_, s4_, s5_, .val (.int c1_), .val (.int c2_), .val (.int c3_), s9_, s10_, .val (.ref us), .val (.int (0 : Int32))] [(.int (1 : Int32))]))
  refine own_go (fun t k => XS.iconst X325.here hx rfl (hb hby at_113) k) ?_
  show own_Go _ _ _ _ (T325.setTop (mkF m 114 #[s0_, s1_, s2_, s3_, s4_, s5_, .val (.int c1_), .val (.int c2_), .val (.int c3_), s9_, s10_, .val (.ref us), .val (.int (0 : Int32))] [(.int (1 : Int32)), (.int (1 : Int32))]))
  refine own_go (fun t k => XS.icmpNo X325.here hx rfl (hb hby at_114) rfl (teq (by decide : (1 : Int32) = (1 : Int32))).2 k) ?_
  refine own_go (fun t k => XS.aload X325.here hx rfl (hb hby at_117) rfl rfl k) ?_
  refine own_go (fun t k => XS.iconst X325.here hx rfl (hb hby at_119) k) ?_
  obtain ⟨cq326, kq326, q326a, q326b, q326c⟩ := isOf (s := s.setVm vm0) hZ e325 E0
  obtain ⟨_, _, ⟨T326, L326, k326, n326⟩, -, X326, ⟨Lc326, hQ326, l326, y326, z326⟩, st326⟩ := X325.virtualBack hx (y := (⟨"java/lang/String", "charAt", "(I)C"⟩ : MethodName)) (z := (⟨"java/lang/String", "charAt", "(I)C"⟩ : MethodName)) hown (mvT hZ (w_94 hw)) (mvT hZ (w_95 hw)) (notFace_of_selects (args := #[]) (mvT hZ (w_97 hw))) (mvT hZ (w_97 hw)) (mvT hZ (w_96 hw)) (by decide) (StrChars.Road.chN (W := 0) hZ (own_wch hw) (kI := 4) (w_6 hw) (cs := ([(47 : Int32)] : List Int32)) E0 V0 Cc0 A0 hD324 hU324 (S0.ext O0.2) hzv (G0.ext O0.2) rgv (Nat.le_of_ble_eq_true rfl) (i := 0) (Nat.le_of_ble_eq_true rfl) (j := (0 : Int32)) rfl (by decide) (by decide)) q326a q326c (g := (mkF m 120 #[s0_, s1_, s2_, s3_, s4_, s5_, .val (.int c1_), .val (.int c2_), .val (.int c3_), s9_, s10_, .val (.ref us), .val (.int (0 : Int32))] [(.int (0 : Int32)), (.ref us)])) rfl (by rw [hml]; rfl) (Steps.refl _) (argsL := [(.int (0 : Int32))]) (rest := []) (lenOf pd_14 rfl) rfl (by show 2 * 0 + _ ≤ _; exact Nat.le_of_eq rfl) (hb hby at_120) (fun _ _ => ⟨rfl, e325, (by show _ ≤ 24; omega), (by show _ ≤ 1152; omega)⟩)
  dsimp only [Pt.U, Pt.locs, Pt.cells, Pt.slots] at X326 l326 y326 z326 st326 hQ326
  subst l326 y326 z326
  obtain ⟨rfl, rfl, e326⟩ := hQ326
  have N326q : Fr n0 ([] : List Loc) := Fr.nil n0
  have N326 := Fr.app N325 N326q
  refine own_go (fun t k => st326.trans k) ?_
  show own_Go _ _ _ _ (T326.setTop (mkF m 123 #[s0_, s1_, s2_, s3_, s4_, s5_, .val (.int c1_), .val (.int c2_), .val (.int c3_), s9_, s10_, .val (.ref us), .val (.int (0 : Int32))] [(.int (47 : Int32))]))
  refine own_go (fun t k => XS.bipush X326.here hx rfl (hb hby at_123) k) ?_
  show own_Go _ _ _ _ (T326.setTop (mkF m 125 #[s0_, s1_, s2_, s3_, s4_, s5_, .val (.int c1_), .val (.int c2_), .val (.int c3_), s9_, s10_, .val (.ref us), .val (.int (0 : Int32))] [(.int (47 : Int32)), (.int (47 : Int32))]))
  refine own_go (fun t k => XS.icmpNo X326.here hx rfl (hb hby at_125) rfl (teq (by decide : (47 : Int32) = (47 : Int32))).2 k) ?_
  refine own_go (fun t k => XS.iconst X326.here hx rfl (hb hby at_128) k) ?_
  refine own_go (fun t k => XS.goto X326.here hx rfl (pc0 := 129) (pc' := 133) rfl (hb hby at_129) (by decide) (by decide) k) ?_
  show own_Go _ _ _ _ (T326.setTop (mkF m 133 #[s0_, s1_, s2_, s3_, s4_, s5_, .val (.int c1_), .val (.int c2_), .val (.int c3_), s9_, s10_, .val (.ref us), .val (.int (0 : Int32))] [(.int (1 : Int32))]))
  refine own_retNH X326 hx hS (Nat.le_trans hk (Nat.le_of_eq (congrArg Array.size e326.symm))) (by rw [hh, e326]; exact C0.trans (CHv.at X326 hZ (own_EW hw) C0.1)) hlk (t := .boolean) hret (by simp) (hb hby at_133) ?_ (by show _ ≤ 24; omega) (by show _ ≤ 1152; omega)
  rw [e326]
  exact ⟨rfl, N326⟩
set_option maxRecDepth 65536 in
set_option maxHeartbeats 40000000 in
theorem sg_tl1 {p : Program} {l : Launch} {e : Env} {s : State} {vm0 : Vm} {m : MethodId} {args : Array Value} {below : List Frame} {meth : Method} {c : Code} {T0 : State} {locs : List Loc} {cells slots : Nat} {Z : State} {a0 : Array Value} (hw : ∀ d ∈ tables_1, d.before a0 Z = true) {s0_ s1_ s2_ s3_ s4_ s5_ s9_ s10_ : Slot} {h0 : Heap} {n0 : Nat} (X0 : Stand p l e room_1 (s.setVm vm0) m args below meth c T0 locs cells slots) (hlk : meth.locks = false) (hret : meth.sig.returnType = ret) (hx : p.tables.exec = Jvm.exec) (hby : c.code = code) (hml : c.maxLocals = maxLocals) (hown : vm0.findClass "com/example/grantfold/grantfold/model/ConfigurationParentPinLaw" = some m.cls) (hZ : Z.Warmed39 vm0) {k0 : Nat} (hS : s.Since vm0 k0) (hk : k0 ≤ h0.size) {hs0 : Heap} (hh : s.heap = hs0) (C0 : CHr Z consts_1 s.vm hs0 vm0 h0) (e0 : T0.heap = h0) (N0 : Fr n0 locs) (Z0 : n0 ≤ h0.size)
    (iv p1_ p2_ p3_ p4_ zv : Int32) (gv : Value) (hq : Heap) (us ub : Addr) (kb : ClassId) (c1_ c2_ c3_ c4_ : Int32) (O0 : Old Z n0 h0) (hzv : ¬ zv = (0 : Int32)) (S0 : Sta Z Z.heap "java/lang/String" "COMPACT_STRINGS" "Z" (.int zv)) (rgv : gv.isRef = true) (G0 : Sta Z Z.heap "jdk/internal/util/Preconditions" "SIOOBE_FORMATTER" "Ljava/util/function/BiFunction;" gv) (E0 : Exa Z h0 us "java/lang/String") (Cc0 : Fld Z h0 us "java/lang/String" "coder" "B" (.int (0 : Int32))) (V0 : Fld Z h0 us "java/lang/String" "value" "[B" (.ref ub)) (A0 : Arv Z h0 ub kb .byte (1 : Int32) [(.int (47 : Int32))] (.int (0 : Int32))) (B1 : own_B c1_) (B2 : own_B c2_) (B3 : own_B c3_) (B4 : own_B c4_) (hcc : cells + 0 ≤ 24) (hss : slots + 0 ≤ 1152) :
    own_Go p e below (own_FinH Z consts_1 s room_1.cells room_1.slots (Q_law Z iv p1_ p2_ p3_ p4_ zv gv hq n0)) (T0.setTop (mkF m 96 #[s0_, s1_, s2_, s3_, s4_, s5_, .val (.int c1_), .val (.int c2_), .val (.int c3_), s9_, s10_, .val (.ref us), .val (.int (1 : Int32))] [])) := by
  show own_Go _ _ _ _ (T0.setTop (mkF m 96 #[s0_, s1_, s2_, s3_, s4_, s5_, .val (.int c1_), .val (.int c2_), .val (.int c3_), s9_, s10_, .val (.ref us), .val (.int (1 : Int32))] []))
  refine own_go (fun t k => XS.aload X0.here hx rfl (hb hby at_96) rfl rfl k) ?_
  show own_Go _ _ _ _ (T0.setTop (mkF m 98 #[s0_, s1_, s2_, s3_, s4_, s5_, .val (.int c1_), .val (.int c2_), .val (.int c3_), s9_, s10_, .val (.ref us), .val (.int (1 : Int32))] [(.ref us)]))
  refine own_go (fun t k => XS.ifnonnullYes X0.here hx rfl (pc0 := 98) (pc' := 103) rfl (hb hby at_98) rfl (by decide) (by decide) k) ?_
  refine own_go (fun t k => XS.iload X0.here hx rfl (hb hby at_103) rfl k) ?_
  show own_Go _ _ _ _ (T0.setTop (mkF m 105 #[s0_, s1_, s2_, s3_, s4_, s5_, .val (.int c1_), .val (.int c2_), .val (.int c3_), s9_, s10_, .val (.ref us), .val (.int (1 : Int32))] [(.int (1 : Int32))]))
  refine own_go (fun t k => XS.ifYes X0.here hx rfl (pc0 := 105) (pc' := 134) rfl (hb hby at_105) rfl ((if0 _ _).trans (feq (by decide : ¬ ((1 : Int32) = (0 : Int32)))).2) (by decide) (by decide) k) ?_
  refine own_go (fun t k => XS.aload X0.here hx rfl (hb hby at_134) rfl rfl k) ?_
  have hB327 : ∀ c ∈ ([(47 : Int32)] : List Int32), own_B c := (List.forall_mem_cons.mpr ⟨(by constructor <;> decide : own_B (47 : Int32)), (List.forall_mem_nil _)⟩)
  have hD327 := StrChars.Road.codOf (cs := ([(47 : Int32)] : List Int32)) (n := 1) rfl (fun x hx => (hB327 x hx).2)
  have hU327 := own_up _ hB327
  obtain ⟨cq328, kq328, q328a, q328b, q328c⟩ := isOf (s := s.setVm vm0) hZ e0 E0
  obtain ⟨_, _, ⟨T328, L328, k328, n328⟩, -, X328, ⟨Lc328, hQ328, l328, y328, z328⟩, st328⟩ := X0.virtualBack hx (y := (⟨"java/lang/String", "length", "()I"⟩ : MethodName)) (z := (⟨"java/lang/String", "length", "()I"⟩ : MethodName)) hown (mvT hZ (w_93 hw)) (mvT hZ (w_61 hw)) (notFace_of_selects (args := #[]) (mvT hZ (w_63 hw))) (mvT hZ (w_63 hw)) (mvT hZ (w_62 hw)) (by decide) (StrChars.Road.lenW (W := 0) hZ (own_wlen hw) (kI := 4) (w_6 hw) (cs := ([(47 : Int32)] : List Int32)) E0 V0 Cc0 A0 hD327 hU327 (S0.ext O0.2) hzv (Nat.le_of_ble_eq_true rfl) (by decide) (by decide)) q328a q328c (g := (mkF m 136 #[s0_, s1_, s2_, s3_, s4_, s5_, .val (.int c1_), .val (.int c2_), .val (.int c3_), s9_, s10_, .val (.ref us), .val (.int (1 : Int32))] [(.ref us)])) rfl (by rw [hml]; rfl) (Steps.refl _) (argsL := []) (rest := []) (lenOf pd_4 rfl) rfl (by show 2 * 0 + _ ≤ _; exact Nat.le_of_eq rfl) (hb hby at_136) (fun _ _ => ⟨rfl, e0, (by show _ ≤ 24; omega), (by show _ ≤ 1152; omega)⟩)
  dsimp only [Pt.U, Pt.locs, Pt.cells, Pt.slots] at X328 l328 y328 z328 st328 hQ328
  subst l328 y328 z328
  obtain ⟨rfl, rfl, e328⟩ := hQ328
  have N328q : Fr n0 ([] : List Loc) := Fr.nil n0
  have N328 := Fr.app N0 N328q
  refine own_go (fun t k => st328.trans k) ?_
  show own_Go _ _ _ _ (T328.setTop (mkF m 139 #[s0_, s1_, s2_, s3_, s4_, s5_, .val (.int c1_), .val (.int c2_), .val (.int c3_), s9_, s10_, .val (.ref us), .val (.int (1 : Int32))] [(.int (1 : Int32))]))
  refine own_go (fun t k => XS.iload X328.here hx rfl (hb hby at_139) rfl k) ?_
  show own_Go _ _ _ _ (T328.setTop (mkF m 141 #[s0_, s1_, s2_, s3_, s4_, s5_, .val (.int c1_), .val (.int c2_), .val (.int c3_), s9_, s10_, .val (.ref us), .val (.int (1 : Int32))] [(.int (1 : Int32)), (.int (1 : Int32))]))
  refine own_go (fun t k => XS.icmpYes X328.here hx rfl (pc0 := 141) (pc' := 146) rfl (hb hby at_141) rfl (teq (by decide : (1 : Int32) = (1 : Int32))).1 (by decide) (by decide) k) ?_
  refine own_go (fun t k => XS.aload X328.here hx rfl (hb hby at_146) rfl rfl k) ?_
  refine own_go (fun t k => XS.iconst X328.here hx rfl (hb hby at_148) k) ?_
  obtain ⟨cq329, kq329, q329a, q329b, q329c⟩ := isOf (s := s.setVm vm0) hZ e328 E0
  obtain ⟨_, _, ⟨T329, L329, k329, n329⟩, -, X329, ⟨Lc329, hQ329, l329, y329, z329⟩, st329⟩ := X328.virtualBack hx (y := (⟨"java/lang/String", "charAt", "(I)C"⟩ : MethodName)) (z := (⟨"java/lang/String", "charAt", "(I)C"⟩ : MethodName)) hown (mvT hZ (w_94 hw)) (mvT hZ (w_95 hw)) (notFace_of_selects (args := #[]) (mvT hZ (w_97 hw))) (mvT hZ (w_97 hw)) (mvT hZ (w_96 hw)) (by decide) (StrChars.Road.chN (W := 0) hZ (own_wch hw) (kI := 4) (w_6 hw) (cs := ([(47 : Int32)] : List Int32)) E0 V0 Cc0 A0 hD327 hU327 (S0.ext O0.2) hzv (G0.ext O0.2) rgv (Nat.le_of_ble_eq_true rfl) (i := 0) (Nat.le_of_ble_eq_true rfl) (j := (0 : Int32)) rfl (by decide) (by decide)) q329a q329c (g := (mkF m 149 #[s0_, s1_, s2_, s3_, s4_, s5_, .val (.int c1_), .val (.int c2_), .val (.int c3_), s9_, s10_, .val (.ref us), .val (.int (1 : Int32))] [(.int (0 : Int32)), (.ref us)])) rfl (by rw [hml]; rfl) (Steps.refl _) (argsL := [(.int (0 : Int32))]) (rest := []) (lenOf pd_14 rfl) rfl (by show 2 * 0 + _ ≤ _; exact Nat.le_of_eq rfl) (hb hby at_149) (fun _ _ => ⟨rfl, e328, (by show _ ≤ 24; omega), (by show _ ≤ 1152; omega)⟩)
  dsimp only [Pt.U, Pt.locs, Pt.cells, Pt.slots] at X329 l329 y329 z329 st329 hQ329
  subst l329 y329 z329
  obtain ⟨rfl, rfl, e329⟩ := hQ329
  have N329q : Fr n0 ([] : List Loc) := Fr.nil n0
  have N329 := Fr.app N328 N329q
  refine own_go (fun t k => st329.trans k) ?_
  show own_Go _ _ _ _ (T329.setTop (mkF m 152 #[s0_, s1_, s2_, s3_, s4_, s5_, .val (.int c1_), .val (.int c2_), .val (.int c3_), s9_, s10_, .val (.ref us), .val (.int (1 : Int32))] [(.int (47 : Int32))]))
  refine own_go (fun t k => XS.bipush X329.here hx rfl (hb hby at_152) k) ?_
  show own_Go _ _ _ _ (T329.setTop (mkF m 154 #[s0_, s1_, s2_, s3_, s4_, s5_, .val (.int c1_), .val (.int c2_), .val (.int c3_), s9_, s10_, .val (.ref us), .val (.int (1 : Int32))] [(.int (47 : Int32)), (.int (47 : Int32))]))
  refine own_go (fun t k => XS.icmpNo X329.here hx rfl (hb hby at_154) rfl (teq (by decide : (47 : Int32) = (47 : Int32))).2 k) ?_
  refine own_go (fun t k => XS.iload X329.here hx rfl (hb hby at_157) rfl k) ?_
  refine own_go (fun t k => XS.iconst X329.here hx rfl (hb hby at_159) k) ?_
  show own_Go _ _ _ _ (T329.setTop (mkF m 160 #[s0_, s1_, s2_, s3_, s4_, s5_, .val (.int c1_), .val (.int c2_), .val (.int c3_), s9_, s10_, .val (.ref us), .val (.int (1 : Int32))] [(.int (2 : Int32)), (.int (1 : Int32))]))
  refine own_go (fun t k => XS.icmpYes X329.here hx rfl (pc0 := 160) (pc' := 174) rfl (hb hby at_160) rfl (tlt (by decide : (1 : Int32) < (2 : Int32))).1 (by decide) (by decide) k) ?_
  refine own_go (fun t k => XS.iload X329.here hx rfl (hb hby at_174) rfl k) ?_
  refine own_go (fun t k => XS.iconst X329.here hx rfl (hb hby at_176) k) ?_
  show own_Go _ _ _ _ (T329.setTop (mkF m 177 #[s0_, s1_, s2_, s3_, s4_, s5_, .val (.int c1_), .val (.int c2_), .val (.int c3_), s9_, s10_, .val (.ref us), .val (.int (1 : Int32))] [(.int (3 : Int32)), (.int (1 : Int32))]))
  refine own_go (fun t k => XS.icmpYes X329.here hx rfl (pc0 := 177) (pc' := 191) rfl (hb hby at_177) rfl (tlt (by decide : (1 : Int32) < (3 : Int32))).1 (by decide) (by decide) k) ?_
  refine own_go (fun t k => XS.iload X329.here hx rfl (hb hby at_191) rfl k) ?_
  refine own_go (fun t k => XS.iconst X329.here hx rfl (hb hby at_193) k) ?_
  show own_Go _ _ _ _ (T329.setTop (mkF m 194 #[s0_, s1_, s2_, s3_, s4_, s5_, .val (.int c1_), .val (.int c2_), .val (.int c3_), s9_, s10_, .val (.ref us), .val (.int (1 : Int32))] [(.int (4 : Int32)), (.int (1 : Int32))]))
  refine own_go (fun t k => XS.icmpYes X329.here hx rfl (pc0 := 194) (pc' := 208) rfl (hb hby at_194) rfl (tlt (by decide : (1 : Int32) < (4 : Int32))).1 (by decide) (by decide) k) ?_
  refine own_go (fun t k => XS.iconst X329.here hx rfl (hb hby at_208) k) ?_
  refine own_go (fun t k => XS.goto X329.here hx rfl (pc0 := 209) (pc' := 213) rfl (hb hby at_209) (by decide) (by decide) k) ?_
  show own_Go _ _ _ _ (T329.setTop (mkF m 213 #[s0_, s1_, s2_, s3_, s4_, s5_, .val (.int c1_), .val (.int c2_), .val (.int c3_), s9_, s10_, .val (.ref us), .val (.int (1 : Int32))] [(.int (1 : Int32))]))
  refine own_retNH X329 hx hS (Nat.le_trans hk (Nat.le_of_eq (congrArg Array.size e329.symm))) (by rw [hh, e329]; exact C0.trans (CHv.at X329 hZ (own_EW hw) C0.1)) hlk (t := .boolean) hret (by simp) (hb hby at_213) ?_ (by show _ ≤ 24; omega) (by show _ ≤ 1152; omega)
  rw [e329]
  exact ⟨rfl, N329⟩
set_option maxRecDepth 65536 in
set_option maxHeartbeats 40000000 in
theorem sg_tl2 {p : Program} {l : Launch} {e : Env} {s : State} {vm0 : Vm} {m : MethodId} {args : Array Value} {below : List Frame} {meth : Method} {c : Code} {T0 : State} {locs : List Loc} {cells slots : Nat} {Z : State} {a0 : Array Value} (hw : ∀ d ∈ tables_1, d.before a0 Z = true) {s0_ s1_ s2_ s3_ s4_ s5_ s9_ s10_ : Slot} {h0 : Heap} {n0 : Nat} (X0 : Stand p l e room_1 (s.setVm vm0) m args below meth c T0 locs cells slots) (hlk : meth.locks = false) (hret : meth.sig.returnType = ret) (hx : p.tables.exec = Jvm.exec) (hby : c.code = code) (hml : c.maxLocals = maxLocals) (hown : vm0.findClass "com/example/grantfold/grantfold/model/ConfigurationParentPinLaw" = some m.cls) (hZ : Z.Warmed39 vm0) {k0 : Nat} (hS : s.Since vm0 k0) (hk : k0 ≤ h0.size) {hs0 : Heap} (hh : s.heap = hs0) (C0 : CHr Z consts_1 s.vm hs0 vm0 h0) (e0 : T0.heap = h0) (N0 : Fr n0 locs) (Z0 : n0 ≤ h0.size)
    (iv p1_ p2_ p3_ p4_ zv : Int32) (gv : Value) (hq : Heap) (us ub : Addr) (kb : ClassId) (c1_ c2_ c3_ c4_ : Int32) (O0 : Old Z n0 h0) (hzv : ¬ zv = (0 : Int32)) (S0 : Sta Z Z.heap "java/lang/String" "COMPACT_STRINGS" "Z" (.int zv)) (rgv : gv.isRef = true) (G0 : Sta Z Z.heap "jdk/internal/util/Preconditions" "SIOOBE_FORMATTER" "Ljava/util/function/BiFunction;" gv) (E0 : Exa Z h0 us "java/lang/String") (Cc0 : Fld Z h0 us "java/lang/String" "coder" "B" (.int (0 : Int32))) (V0 : Fld Z h0 us "java/lang/String" "value" "[B" (.ref ub)) (A0 : Arv Z h0 ub kb .byte (2 : Int32) [(.int (47 : Int32)), (.int (c1_.toInt8.toInt32))] (.int (0 : Int32))) (B1 : own_B c1_) (B2 : own_B c2_) (B3 : own_B c3_) (B4 : own_B c4_) (hcc : cells + 0 ≤ 24) (hss : slots + 0 ≤ 1152) :
    own_Go p e below (own_FinH Z consts_1 s room_1.cells room_1.slots (Q_law Z iv p1_ p2_ p3_ p4_ zv gv hq n0)) (T0.setTop (mkF m 96 #[s0_, s1_, s2_, s3_, s4_, s5_, .val (.int c1_), .val (.int c2_), .val (.int c3_), s9_, s10_, .val (.ref us), .val (.int (2 : Int32))] [])) := by
  show own_Go _ _ _ _ (T0.setTop (mkF m 96 #[s0_, s1_, s2_, s3_, s4_, s5_, .val (.int c1_), .val (.int c2_), .val (.int c3_), s9_, s10_, .val (.ref us), .val (.int (2 : Int32))] []))
  refine own_go (fun t k => XS.aload X0.here hx rfl (hb hby at_96) rfl rfl k) ?_
  show own_Go _ _ _ _ (T0.setTop (mkF m 98 #[s0_, s1_, s2_, s3_, s4_, s5_, .val (.int c1_), .val (.int c2_), .val (.int c3_), s9_, s10_, .val (.ref us), .val (.int (2 : Int32))] [(.ref us)]))
  refine own_go (fun t k => XS.ifnonnullYes X0.here hx rfl (pc0 := 98) (pc' := 103) rfl (hb hby at_98) rfl (by decide) (by decide) k) ?_
  refine own_go (fun t k => XS.iload X0.here hx rfl (hb hby at_103) rfl k) ?_
  show own_Go _ _ _ _ (T0.setTop (mkF m 105 #[s0_, s1_, s2_, s3_, s4_, s5_, .val (.int c1_), .val (.int c2_), .val (.int c3_), s9_, s10_, .val (.ref us), .val (.int (2 : Int32))] [(.int (2 : Int32))]))
  refine own_go (fun t k => XS.ifYes X0.here hx rfl (pc0 := 105) (pc' := 134) rfl (hb hby at_105) rfl ((if0 _ _).trans (feq (by decide : ¬ ((2 : Int32) = (0 : Int32)))).2) (by decide) (by decide) k) ?_
  refine own_go (fun t k => XS.aload X0.here hx rfl (hb hby at_134) rfl rfl k) ?_
  have hB330 : ∀ c ∈ ([(47 : Int32), c1_] : List Int32), own_B c := (List.forall_mem_cons.mpr ⟨(by constructor <;> decide : own_B (47 : Int32)), (List.forall_mem_cons.mpr ⟨B1, (List.forall_mem_nil _)⟩)⟩)
  have hD330 := StrChars.Road.codOf (cs := ([(47 : Int32), c1_] : List Int32)) (n := 2) rfl (fun x hx => (hB330 x hx).2)
  have hU330 := own_up _ hB330
  obtain ⟨cq331, kq331, q331a, q331b, q331c⟩ := isOf (s := s.setVm vm0) hZ e0 E0
  obtain ⟨_, _, ⟨T331, L331, k331, n331⟩, -, X331, ⟨Lc331, hQ331, l331, y331, z331⟩, st331⟩ := X0.virtualBack hx (y := (⟨"java/lang/String", "length", "()I"⟩ : MethodName)) (z := (⟨"java/lang/String", "length", "()I"⟩ : MethodName)) hown (mvT hZ (w_93 hw)) (mvT hZ (w_61 hw)) (notFace_of_selects (args := #[]) (mvT hZ (w_63 hw))) (mvT hZ (w_63 hw)) (mvT hZ (w_62 hw)) (by decide) (StrChars.Road.lenW (W := 0) hZ (own_wlen hw) (kI := 4) (w_6 hw) (cs := ([(47 : Int32), c1_] : List Int32)) E0 V0 Cc0 A0 hD330 hU330 (S0.ext O0.2) hzv (Nat.le_of_ble_eq_true rfl) (by decide) (by decide)) q331a q331c (g := (mkF m 136 #[s0_, s1_, s2_, s3_, s4_, s5_, .val (.int c1_), .val (.int c2_), .val (.int c3_), s9_, s10_, .val (.ref us), .val (.int (2 : Int32))] [(.ref us)])) rfl (by rw [hml]; rfl) (Steps.refl _) (argsL := []) (rest := []) (lenOf pd_4 rfl) rfl (by show 2 * 0 + _ ≤ _; exact Nat.le_of_eq rfl) (hb hby at_136) (fun _ _ => ⟨rfl, e0, (by show _ ≤ 24; omega), (by show _ ≤ 1152; omega)⟩)
  dsimp only [Pt.U, Pt.locs, Pt.cells, Pt.slots] at X331 l331 y331 z331 st331 hQ331
  subst l331 y331 z331
  obtain ⟨rfl, rfl, e331⟩ := hQ331
  have N331q : Fr n0 ([] : List Loc) := Fr.nil n0
  have N331 := Fr.app N0 N331q
  refine own_go (fun t k => st331.trans k) ?_
  show own_Go _ _ _ _ (T331.setTop (mkF m 139 #[s0_, s1_, s2_, s3_, s4_, s5_, .val (.int c1_), .val (.int c2_), .val (.int c3_), s9_, s10_, .val (.ref us), .val (.int (2 : Int32))] [(.int (2 : Int32))]))
  refine own_go (fun t k => XS.iload X331.here hx rfl (hb hby at_139) rfl k) ?_
  show own_Go _ _ _ _ (T331.setTop (mkF m 141 #[s0_, s1_, s2_, s3_, s4_, s5_, .val (.int c1_), .val (.int c2_), .val (.int c3_), s9_, s10_, .val (.ref us), .val (.int (2 : Int32))] [(.int (2 : Int32)), (.int (2 : Int32))]))
  refine own_go (fun t k => XS.icmpYes X331.here hx rfl (pc0 := 141) (pc' := 146) rfl (hb hby at_141) rfl (teq (by decide : (2 : Int32) = (2 : Int32))).1 (by decide) (by decide) k) ?_
  refine own_go (fun t k => XS.aload X331.here hx rfl (hb hby at_146) rfl rfl k) ?_
  refine own_go (fun t k => XS.iconst X331.here hx rfl (hb hby at_148) k) ?_
  obtain ⟨cq332, kq332, q332a, q332b, q332c⟩ := isOf (s := s.setVm vm0) hZ e331 E0
  obtain ⟨_, _, ⟨T332, L332, k332, n332⟩, -, X332, ⟨Lc332, hQ332, l332, y332, z332⟩, st332⟩ := X331.virtualBack hx (y := (⟨"java/lang/String", "charAt", "(I)C"⟩ : MethodName)) (z := (⟨"java/lang/String", "charAt", "(I)C"⟩ : MethodName)) hown (mvT hZ (w_94 hw)) (mvT hZ (w_95 hw)) (notFace_of_selects (args := #[]) (mvT hZ (w_97 hw))) (mvT hZ (w_97 hw)) (mvT hZ (w_96 hw)) (by decide) (StrChars.Road.chN (W := 0) hZ (own_wch hw) (kI := 4) (w_6 hw) (cs := ([(47 : Int32), c1_] : List Int32)) E0 V0 Cc0 A0 hD330 hU330 (S0.ext O0.2) hzv (G0.ext O0.2) rgv (Nat.le_of_ble_eq_true rfl) (i := 0) (Nat.le_of_ble_eq_true rfl) (j := (0 : Int32)) rfl (by decide) (by decide)) q332a q332c (g := (mkF m 149 #[s0_, s1_, s2_, s3_, s4_, s5_, .val (.int c1_), .val (.int c2_), .val (.int c3_), s9_, s10_, .val (.ref us), .val (.int (2 : Int32))] [(.int (0 : Int32)), (.ref us)])) rfl (by rw [hml]; rfl) (Steps.refl _) (argsL := [(.int (0 : Int32))]) (rest := []) (lenOf pd_14 rfl) rfl (by show 2 * 0 + _ ≤ _; exact Nat.le_of_eq rfl) (hb hby at_149) (fun _ _ => ⟨rfl, e331, (by show _ ≤ 24; omega), (by show _ ≤ 1152; omega)⟩)
  dsimp only [Pt.U, Pt.locs, Pt.cells, Pt.slots] at X332 l332 y332 z332 st332 hQ332
  subst l332 y332 z332
  obtain ⟨rfl, rfl, e332⟩ := hQ332
  have N332q : Fr n0 ([] : List Loc) := Fr.nil n0
  have N332 := Fr.app N331 N332q
  refine own_go (fun t k => st332.trans k) ?_
  show own_Go _ _ _ _ (T332.setTop (mkF m 152 #[s0_, s1_, s2_, s3_, s4_, s5_, .val (.int c1_), .val (.int c2_), .val (.int c3_), s9_, s10_, .val (.ref us), .val (.int (2 : Int32))] [(.int (47 : Int32))]))
  refine own_go (fun t k => XS.bipush X332.here hx rfl (hb hby at_152) k) ?_
  show own_Go _ _ _ _ (T332.setTop (mkF m 154 #[s0_, s1_, s2_, s3_, s4_, s5_, .val (.int c1_), .val (.int c2_), .val (.int c3_), s9_, s10_, .val (.ref us), .val (.int (2 : Int32))] [(.int (47 : Int32)), (.int (47 : Int32))]))
  refine own_go (fun t k => XS.icmpNo X332.here hx rfl (hb hby at_154) rfl (teq (by decide : (47 : Int32) = (47 : Int32))).2 k) ?_
  refine own_go (fun t k => XS.iload X332.here hx rfl (hb hby at_157) rfl k) ?_
  refine own_go (fun t k => XS.iconst X332.here hx rfl (hb hby at_159) k) ?_
  show own_Go _ _ _ _ (T332.setTop (mkF m 160 #[s0_, s1_, s2_, s3_, s4_, s5_, .val (.int c1_), .val (.int c2_), .val (.int c3_), s9_, s10_, .val (.ref us), .val (.int (2 : Int32))] [(.int (2 : Int32)), (.int (2 : Int32))]))
  refine own_go (fun t k => XS.icmpNo X332.here hx rfl (hb hby at_160) rfl (flt (by decide : ¬ ((2 : Int32) < (2 : Int32)))).1 k) ?_
  refine own_go (fun t k => XS.aload X332.here hx rfl (hb hby at_163) rfl rfl k) ?_
  refine own_go (fun t k => XS.iconst X332.here hx rfl (hb hby at_165) k) ?_
  obtain ⟨cq333, kq333, q333a, q333b, q333c⟩ := isOf (s := s.setVm vm0) hZ e332 E0
  obtain ⟨_, _, ⟨T333, L333, k333, n333⟩, -, X333, ⟨Lc333, hQ333, l333, y333, z333⟩, st333⟩ := X332.virtualBack hx (y := (⟨"java/lang/String", "charAt", "(I)C"⟩ : MethodName)) (z := (⟨"java/lang/String", "charAt", "(I)C"⟩ : MethodName)) hown (mvT hZ (w_94 hw)) (mvT hZ (w_95 hw)) (notFace_of_selects (args := #[]) (mvT hZ (w_97 hw))) (mvT hZ (w_97 hw)) (mvT hZ (w_96 hw)) (by decide) (StrChars.Road.chN (W := 0) hZ (own_wch hw) (kI := 4) (w_6 hw) (cs := ([(47 : Int32), c1_] : List Int32)) E0 V0 Cc0 A0 hD330 hU330 (S0.ext O0.2) hzv (G0.ext O0.2) rgv (Nat.le_of_ble_eq_true rfl) (i := 1) (Nat.le_of_ble_eq_true rfl) (j := (1 : Int32)) rfl (by decide) (by decide)) q333a q333c (g := (mkF m 166 #[s0_, s1_, s2_, s3_, s4_, s5_, .val (.int c1_), .val (.int c2_), .val (.int c3_), s9_, s10_, .val (.ref us), .val (.int (2 : Int32))] [(.int (1 : Int32)), (.ref us)])) rfl (by rw [hml]; rfl) (Steps.refl _) (argsL := [(.int (1 : Int32))]) (rest := []) (lenOf pd_14 rfl) rfl (by show 2 * 0 + _ ≤ _; exact Nat.le_of_eq rfl) (hb hby at_166) (fun _ _ => ⟨rfl, e332, (by show _ ≤ 24; omega), (by show _ ≤ 1152; omega)⟩)
  dsimp only [Pt.U, Pt.locs, Pt.cells, Pt.slots] at X333 l333 y333 z333 st333 hQ333
  subst l333 y333 z333
  obtain ⟨rfl, rfl, e333⟩ := hQ333
  have N333q : Fr n0 ([] : List Loc) := Fr.nil n0
  have N333 := Fr.app N332 N333q
  refine own_go (fun t k => st333.trans k) ?_
  show own_Go _ _ _ _ (T333.setTop (mkF m 169 #[s0_, s1_, s2_, s3_, s4_, s5_, .val (.int c1_), .val (.int c2_), .val (.int c3_), s9_, s10_, .val (.ref us), .val (.int (2 : Int32))] [(.int c1_)]))
  refine own_go (fun t k => XS.iload X333.here hx rfl (hb hby at_169) rfl k) ?_
  show own_Go _ _ _ _ (T333.setTop (mkF m 171 #[s0_, s1_, s2_, s3_, s4_, s5_, .val (.int c1_), .val (.int c2_), .val (.int c3_), s9_, s10_, .val (.ref us), .val (.int (2 : Int32))] [(.int c1_), (.int c1_)]))
  refine own_go (fun t k => XS.icmpNo X333.here hx rfl (hb hby at_171) rfl (teq (rfl : c1_ = c1_)).2 k) ?_
  refine own_go (fun t k => XS.iload X333.here hx rfl (hb hby at_174) rfl k) ?_
  refine own_go (fun t k => XS.iconst X333.here hx rfl (hb hby at_176) k) ?_
  show own_Go _ _ _ _ (T333.setTop (mkF m 177 #[s0_, s1_, s2_, s3_, s4_, s5_, .val (.int c1_), .val (.int c2_), .val (.int c3_), s9_, s10_, .val (.ref us), .val (.int (2 : Int32))] [(.int (3 : Int32)), (.int (2 : Int32))]))
  refine own_go (fun t k => XS.icmpYes X333.here hx rfl (pc0 := 177) (pc' := 191) rfl (hb hby at_177) rfl (tlt (by decide : (2 : Int32) < (3 : Int32))).1 (by decide) (by decide) k) ?_
  refine own_go (fun t k => XS.iload X333.here hx rfl (hb hby at_191) rfl k) ?_
  refine own_go (fun t k => XS.iconst X333.here hx rfl (hb hby at_193) k) ?_
  show own_Go _ _ _ _ (T333.setTop (mkF m 194 #[s0_, s1_, s2_, s3_, s4_, s5_, .val (.int c1_), .val (.int c2_), .val (.int c3_), s9_, s10_, .val (.ref us), .val (.int (2 : Int32))] [(.int (4 : Int32)), (.int (2 : Int32))]))
  refine own_go (fun t k => XS.icmpYes X333.here hx rfl (pc0 := 194) (pc' := 208) rfl (hb hby at_194) rfl (tlt (by decide : (2 : Int32) < (4 : Int32))).1 (by decide) (by decide) k) ?_
  refine own_go (fun t k => XS.iconst X333.here hx rfl (hb hby at_208) k) ?_
  refine own_go (fun t k => XS.goto X333.here hx rfl (pc0 := 209) (pc' := 213) rfl (hb hby at_209) (by decide) (by decide) k) ?_
  show own_Go _ _ _ _ (T333.setTop (mkF m 213 #[s0_, s1_, s2_, s3_, s4_, s5_, .val (.int c1_), .val (.int c2_), .val (.int c3_), s9_, s10_, .val (.ref us), .val (.int (2 : Int32))] [(.int (1 : Int32))]))
  refine own_retNH X333 hx hS (Nat.le_trans hk (Nat.le_of_eq (congrArg Array.size e333.symm))) (by rw [hh, e333]; exact C0.trans (CHv.at X333 hZ (own_EW hw) C0.1)) hlk (t := .boolean) hret (by simp) (hb hby at_213) ?_ (by show _ ≤ 24; omega) (by show _ ≤ 1152; omega)
  rw [e333]
  exact ⟨rfl, N333⟩
set_option maxRecDepth 65536 in
set_option maxHeartbeats 40000000 in
theorem sg_tl3 {p : Program} {l : Launch} {e : Env} {s : State} {vm0 : Vm} {m : MethodId} {args : Array Value} {below : List Frame} {meth : Method} {c : Code} {T0 : State} {locs : List Loc} {cells slots : Nat} {Z : State} {a0 : Array Value} (hw : ∀ d ∈ tables_1, d.before a0 Z = true) {s0_ s1_ s2_ s3_ s4_ s5_ s9_ s10_ : Slot} {h0 : Heap} {n0 : Nat} (X0 : Stand p l e room_1 (s.setVm vm0) m args below meth c T0 locs cells slots) (hlk : meth.locks = false) (hret : meth.sig.returnType = ret) (hx : p.tables.exec = Jvm.exec) (hby : c.code = code) (hml : c.maxLocals = maxLocals) (hown : vm0.findClass "com/example/grantfold/grantfold/model/ConfigurationParentPinLaw" = some m.cls) (hZ : Z.Warmed39 vm0) {k0 : Nat} (hS : s.Since vm0 k0) (hk : k0 ≤ h0.size) {hs0 : Heap} (hh : s.heap = hs0) (C0 : CHr Z consts_1 s.vm hs0 vm0 h0) (e0 : T0.heap = h0) (N0 : Fr n0 locs) (Z0 : n0 ≤ h0.size)
    (iv p1_ p2_ p3_ p4_ zv : Int32) (gv : Value) (hq : Heap) (us ub : Addr) (kb : ClassId) (c1_ c2_ c3_ c4_ : Int32) (O0 : Old Z n0 h0) (hzv : ¬ zv = (0 : Int32)) (S0 : Sta Z Z.heap "java/lang/String" "COMPACT_STRINGS" "Z" (.int zv)) (rgv : gv.isRef = true) (G0 : Sta Z Z.heap "jdk/internal/util/Preconditions" "SIOOBE_FORMATTER" "Ljava/util/function/BiFunction;" gv) (E0 : Exa Z h0 us "java/lang/String") (Cc0 : Fld Z h0 us "java/lang/String" "coder" "B" (.int (0 : Int32))) (V0 : Fld Z h0 us "java/lang/String" "value" "[B" (.ref ub)) (A0 : Arv Z h0 ub kb .byte (3 : Int32) [(.int (47 : Int32)), (.int (c1_.toInt8.toInt32)), (.int (c2_.toInt8.toInt32))] (.int (0 : Int32))) (B1 : own_B c1_) (B2 : own_B c2_) (B3 : own_B c3_) (B4 : own_B c4_) (hcc : cells + 0 ≤ 24) (hss : slots + 0 ≤ 1152) :
    own_Go p e below (own_FinH Z consts_1 s room_1.cells room_1.slots (Q_law Z iv p1_ p2_ p3_ p4_ zv gv hq n0)) (T0.setTop (mkF m 96 #[s0_, s1_, s2_, s3_, s4_, s5_, .val (.int c1_), .val (.int c2_), .val (.int c3_), s9_, s10_, .val (.ref us), .val (.int (3 : Int32))] [])) := by
  show own_Go _ _ _ _ (T0.setTop (mkF m 96 #[s0_, s1_, s2_, s3_, s4_, s5_, .val (.int c1_), .val (.int c2_), .val (.int c3_), s9_, s10_, .val (.ref us), .val (.int (3 : Int32))] []))
  refine own_go (fun t k => XS.aload X0.here hx rfl (hb hby at_96) rfl rfl k) ?_
  show own_Go _ _ _ _ (T0.setTop (mkF m 98 #[s0_, s1_, s2_, s3_, s4_, s5_, .val (.int c1_), .val (.int c2_), .val (.int c3_), s9_, s10_, .val (.ref us), .val (.int (3 : Int32))] [(.ref us)]))
  refine own_go (fun t k => XS.ifnonnullYes X0.here hx rfl (pc0 := 98) (pc' := 103) rfl (hb hby at_98) rfl (by decide) (by decide) k) ?_
  refine own_go (fun t k => XS.iload X0.here hx rfl (hb hby at_103) rfl k) ?_
  show own_Go _ _ _ _ (T0.setTop (mkF m 105 #[s0_, s1_, s2_, s3_, s4_, s5_, .val (.int c1_), .val (.int c2_), .val (.int c3_), s9_, s10_, .val (.ref us), .val (.int (3 : Int32))] [(.int (3 : Int32))]))
  refine own_go (fun t k => XS.ifYes X0.here hx rfl (pc0 := 105) (pc' := 134) rfl (hb hby at_105) rfl ((if0 _ _).trans (feq (by decide : ¬ ((3 : Int32) = (0 : Int32)))).2) (by decide) (by decide) k) ?_
  refine own_go (fun t k => XS.aload X0.here hx rfl (hb hby at_134) rfl rfl k) ?_
  have hB334 : ∀ c ∈ ([(47 : Int32), c1_, c2_] : List Int32), own_B c := (List.forall_mem_cons.mpr ⟨(by constructor <;> decide : own_B (47 : Int32)), (List.forall_mem_cons.mpr ⟨B1, (List.forall_mem_cons.mpr ⟨B2, (List.forall_mem_nil _)⟩)⟩)⟩)
  have hD334 := StrChars.Road.codOf (cs := ([(47 : Int32), c1_, c2_] : List Int32)) (n := 3) rfl (fun x hx => (hB334 x hx).2)
  have hU334 := own_up _ hB334
  obtain ⟨cq335, kq335, q335a, q335b, q335c⟩ := isOf (s := s.setVm vm0) hZ e0 E0
  obtain ⟨_, _, ⟨T335, L335, k335, n335⟩, -, X335, ⟨Lc335, hQ335, l335, y335, z335⟩, st335⟩ := X0.virtualBack hx (y := (⟨"java/lang/String", "length", "()I"⟩ : MethodName)) (z := (⟨"java/lang/String", "length", "()I"⟩ : MethodName)) hown (mvT hZ (w_93 hw)) (mvT hZ (w_61 hw)) (notFace_of_selects (args := #[]) (mvT hZ (w_63 hw))) (mvT hZ (w_63 hw)) (mvT hZ (w_62 hw)) (by decide) (StrChars.Road.lenW (W := 0) hZ (own_wlen hw) (kI := 4) (w_6 hw) (cs := ([(47 : Int32), c1_, c2_] : List Int32)) E0 V0 Cc0 A0 hD334 hU334 (S0.ext O0.2) hzv (Nat.le_of_ble_eq_true rfl) (by decide) (by decide)) q335a q335c (g := (mkF m 136 #[s0_, s1_, s2_, s3_, s4_, s5_, .val (.int c1_), .val (.int c2_), .val (.int c3_), s9_, s10_, .val (.ref us), .val (.int (3 : Int32))] [(.ref us)])) rfl (by rw [hml]; rfl) (Steps.refl _) (argsL := []) (rest := []) (lenOf pd_4 rfl) rfl (by show 2 * 0 + _ ≤ _; exact Nat.le_of_eq rfl) (hb hby at_136) (fun _ _ => ⟨rfl, e0, (by show _ ≤ 24; omega), (by show _ ≤ 1152; omega)⟩)
  dsimp only [Pt.U, Pt.locs, Pt.cells, Pt.slots] at X335 l335 y335 z335 st335 hQ335
  subst l335 y335 z335
  obtain ⟨rfl, rfl, e335⟩ := hQ335
  have N335q : Fr n0 ([] : List Loc) := Fr.nil n0
  have N335 := Fr.app N0 N335q
  refine own_go (fun t k => st335.trans k) ?_
  show own_Go _ _ _ _ (T335.setTop (mkF m 139 #[s0_, s1_, s2_, s3_, s4_, s5_, .val (.int c1_), .val (.int c2_), .val (.int c3_), s9_, s10_, .val (.ref us), .val (.int (3 : Int32))] [(.int (3 : Int32))]))
  refine own_go (fun t k => XS.iload X335.here hx rfl (hb hby at_139) rfl k) ?_
  show own_Go _ _ _ _ (T335.setTop (mkF m 141 #[s0_, s1_, s2_, s3_, s4_, s5_, .val (.int c1_), .val (.int c2_), .val (.int c3_), s9_, s10_, .val (.ref us), .val (.int (3 : Int32))] [(.int (3 : Int32)), (.int (3 : Int32))]))
  refine own_go (fun t k => XS.icmpYes X335.here hx rfl (pc0 := 141) (pc' := 146) rfl (hb hby at_141) rfl (teq (by decide : (3 : Int32) = (3 : Int32))).1 (by decide) (by decide) k) ?_
  refine own_go (fun t k => XS.aload X335.here hx rfl (hb hby at_146) rfl rfl k) ?_
  refine own_go (fun t k => XS.iconst X335.here hx rfl (hb hby at_148) k) ?_
  obtain ⟨cq336, kq336, q336a, q336b, q336c⟩ := isOf (s := s.setVm vm0) hZ e335 E0
  obtain ⟨_, _, ⟨T336, L336, k336, n336⟩, -, X336, ⟨Lc336, hQ336, l336, y336, z336⟩, st336⟩ := X335.virtualBack hx (y := (⟨"java/lang/String", "charAt", "(I)C"⟩ : MethodName)) (z := (⟨"java/lang/String", "charAt", "(I)C"⟩ : MethodName)) hown (mvT hZ (w_94 hw)) (mvT hZ (w_95 hw)) (notFace_of_selects (args := #[]) (mvT hZ (w_97 hw))) (mvT hZ (w_97 hw)) (mvT hZ (w_96 hw)) (by decide) (StrChars.Road.chN (W := 0) hZ (own_wch hw) (kI := 4) (w_6 hw) (cs := ([(47 : Int32), c1_, c2_] : List Int32)) E0 V0 Cc0 A0 hD334 hU334 (S0.ext O0.2) hzv (G0.ext O0.2) rgv (Nat.le_of_ble_eq_true rfl) (i := 0) (Nat.le_of_ble_eq_true rfl) (j := (0 : Int32)) rfl (by decide) (by decide)) q336a q336c (g := (mkF m 149 #[s0_, s1_, s2_, s3_, s4_, s5_, .val (.int c1_), .val (.int c2_), .val (.int c3_), s9_, s10_, .val (.ref us), .val (.int (3 : Int32))] [(.int (0 : Int32)), (.ref us)])) rfl (by rw [hml]; rfl) (Steps.refl _) (argsL := [(.int (0 : Int32))]) (rest := []) (lenOf pd_14 rfl) rfl (by show 2 * 0 + _ ≤ _; exact Nat.le_of_eq rfl) (hb hby at_149) (fun _ _ => ⟨rfl, e335, (by show _ ≤ 24; omega), (by show _ ≤ 1152; omega)⟩)
  dsimp only [Pt.U, Pt.locs, Pt.cells, Pt.slots] at X336 l336 y336 z336 st336 hQ336
  subst l336 y336 z336
  obtain ⟨rfl, rfl, e336⟩ := hQ336
  have N336q : Fr n0 ([] : List Loc) := Fr.nil n0
  have N336 := Fr.app N335 N336q
  refine own_go (fun t k => st336.trans k) ?_
  show own_Go _ _ _ _ (T336.setTop (mkF m 152 #[s0_, s1_, s2_, s3_, s4_, s5_, .val (.int c1_), .val (.int c2_), .val (.int c3_), s9_, s10_, .val (.ref us), .val (.int (3 : Int32))] [(.int (47 : Int32))]))
  refine own_go (fun t k => XS.bipush X336.here hx rfl (hb hby at_152) k) ?_
  show own_Go _ _ _ _ (T336.setTop (mkF m 154 #[s0_, s1_, s2_, s3_, s4_, s5_, .val (.int c1_), .val (.int c2_), .val (.int c3_), s9_, s10_, .val (.ref us), .val (.int (3 : Int32))] [(.int (47 : Int32)), (.int (47 : Int32))]))
  refine own_go (fun t k => XS.icmpNo X336.here hx rfl (hb hby at_154) rfl (teq (by decide : (47 : Int32) = (47 : Int32))).2 k) ?_
  refine own_go (fun t k => XS.iload X336.here hx rfl (hb hby at_157) rfl k) ?_
  refine own_go (fun t k => XS.iconst X336.here hx rfl (hb hby at_159) k) ?_
  show own_Go _ _ _ _ (T336.setTop (mkF m 160 #[s0_, s1_, s2_, s3_, s4_, s5_, .val (.int c1_), .val (.int c2_), .val (.int c3_), s9_, s10_, .val (.ref us), .val (.int (3 : Int32))] [(.int (2 : Int32)), (.int (3 : Int32))]))
  refine own_go (fun t k => XS.icmpNo X336.here hx rfl (hb hby at_160) rfl (flt (by decide : ¬ ((3 : Int32) < (2 : Int32)))).1 k) ?_
  refine own_go (fun t k => XS.aload X336.here hx rfl (hb hby at_163) rfl rfl k) ?_
  refine own_go (fun t k => XS.iconst X336.here hx rfl (hb hby at_165) k) ?_
  obtain ⟨cq337, kq337, q337a, q337b, q337c⟩ := isOf (s := s.setVm vm0) hZ e336 E0
  obtain ⟨_, _, ⟨T337, L337, k337, n337⟩, -, X337, ⟨Lc337, hQ337, l337, y337, z337⟩, st337⟩ := X336.virtualBack hx (y := (⟨"java/lang/String", "charAt", "(I)C"⟩ : MethodName)) (z := (⟨"java/lang/String", "charAt", "(I)C"⟩ : MethodName)) hown (mvT hZ (w_94 hw)) (mvT hZ (w_95 hw)) (notFace_of_selects (args := #[]) (mvT hZ (w_97 hw))) (mvT hZ (w_97 hw)) (mvT hZ (w_96 hw)) (by decide) (StrChars.Road.chN (W := 0) hZ (own_wch hw) (kI := 4) (w_6 hw) (cs := ([(47 : Int32), c1_, c2_] : List Int32)) E0 V0 Cc0 A0 hD334 hU334 (S0.ext O0.2) hzv (G0.ext O0.2) rgv (Nat.le_of_ble_eq_true rfl) (i := 1) (Nat.le_of_ble_eq_true rfl) (j := (1 : Int32)) rfl (by decide) (by decide)) q337a q337c (g := (mkF m 166 #[s0_, s1_, s2_, s3_, s4_, s5_, .val (.int c1_), .val (.int c2_), .val (.int c3_), s9_, s10_, .val (.ref us), .val (.int (3 : Int32))] [(.int (1 : Int32)), (.ref us)])) rfl (by rw [hml]; rfl) (Steps.refl _) (argsL := [(.int (1 : Int32))]) (rest := []) (lenOf pd_14 rfl) rfl (by show 2 * 0 + _ ≤ _; exact Nat.le_of_eq rfl) (hb hby at_166) (fun _ _ => ⟨rfl, e336, (by show _ ≤ 24; omega), (by show _ ≤ 1152; omega)⟩)
  dsimp only [Pt.U, Pt.locs, Pt.cells, Pt.slots] at X337 l337 y337 z337 st337 hQ337
  subst l337 y337 z337
  obtain ⟨rfl, rfl, e337⟩ := hQ337
  have N337q : Fr n0 ([] : List Loc) := Fr.nil n0
  have N337 := Fr.app N336 N337q
  refine own_go (fun t k => st337.trans k) ?_
  show own_Go _ _ _ _ (T337.setTop (mkF m 169 #[s0_, s1_, s2_, s3_, s4_, s5_, .val (.int c1_), .val (.int c2_), .val (.int c3_), s9_, s10_, .val (.ref us), .val (.int (3 : Int32))] [(.int c1_)]))
  refine own_go (fun t k => XS.iload X337.here hx rfl (hb hby at_169) rfl k) ?_
  show own_Go _ _ _ _ (T337.setTop (mkF m 171 #[s0_, s1_, s2_, s3_, s4_, s5_, .val (.int c1_), .val (.int c2_), .val (.int c3_), s9_, s10_, .val (.ref us), .val (.int (3 : Int32))] [(.int c1_), (.int c1_)]))
  refine own_go (fun t k => XS.icmpNo X337.here hx rfl (hb hby at_171) rfl (teq (rfl : c1_ = c1_)).2 k) ?_
  refine own_go (fun t k => XS.iload X337.here hx rfl (hb hby at_174) rfl k) ?_
  refine own_go (fun t k => XS.iconst X337.here hx rfl (hb hby at_176) k) ?_
  show own_Go _ _ _ _ (T337.setTop (mkF m 177 #[s0_, s1_, s2_, s3_, s4_, s5_, .val (.int c1_), .val (.int c2_), .val (.int c3_), s9_, s10_, .val (.ref us), .val (.int (3 : Int32))] [(.int (3 : Int32)), (.int (3 : Int32))]))
  refine own_go (fun t k => XS.icmpNo X337.here hx rfl (hb hby at_177) rfl (flt (by decide : ¬ ((3 : Int32) < (3 : Int32)))).1 k) ?_
  refine own_go (fun t k => XS.aload X337.here hx rfl (hb hby at_180) rfl rfl k) ?_
  refine own_go (fun t k => XS.iconst X337.here hx rfl (hb hby at_182) k) ?_
  obtain ⟨cq338, kq338, q338a, q338b, q338c⟩ := isOf (s := s.setVm vm0) hZ e337 E0
  obtain ⟨_, _, ⟨T338, L338, k338, n338⟩, -, X338, ⟨Lc338, hQ338, l338, y338, z338⟩, st338⟩ := X337.virtualBack hx (y := (⟨"java/lang/String", "charAt", "(I)C"⟩ : MethodName)) (z := (⟨"java/lang/String", "charAt", "(I)C"⟩ : MethodName)) hown (mvT hZ (w_94 hw)) (mvT hZ (w_95 hw)) (notFace_of_selects (args := #[]) (mvT hZ (w_97 hw))) (mvT hZ (w_97 hw)) (mvT hZ (w_96 hw)) (by decide) (StrChars.Road.chN (W := 0) hZ (own_wch hw) (kI := 4) (w_6 hw) (cs := ([(47 : Int32), c1_, c2_] : List Int32)) E0 V0 Cc0 A0 hD334 hU334 (S0.ext O0.2) hzv (G0.ext O0.2) rgv (Nat.le_of_ble_eq_true rfl) (i := 2) (Nat.le_of_ble_eq_true rfl) (j := (2 : Int32)) rfl (by decide) (by decide)) q338a q338c (g := (mkF m 183 #[s0_, s1_, s2_, s3_, s4_, s5_, .val (.int c1_), .val (.int c2_), .val (.int c3_), s9_, s10_, .val (.ref us), .val (.int (3 : Int32))] [(.int (2 : Int32)), (.ref us)])) rfl (by rw [hml]; rfl) (Steps.refl _) (argsL := [(.int (2 : Int32))]) (rest := []) (lenOf pd_14 rfl) rfl (by show 2 * 0 + _ ≤ _; exact Nat.le_of_eq rfl) (hb hby at_183) (fun _ _ => ⟨rfl, e337, (by show _ ≤ 24; omega), (by show _ ≤ 1152; omega)⟩)
  dsimp only [Pt.U, Pt.locs, Pt.cells, Pt.slots] at X338 l338 y338 z338 st338 hQ338
  subst l338 y338 z338
  obtain ⟨rfl, rfl, e338⟩ := hQ338
  have N338q : Fr n0 ([] : List Loc) := Fr.nil n0
  have N338 := Fr.app N337 N338q
  refine own_go (fun t k => st338.trans k) ?_
  show own_Go _ _ _ _ (T338.setTop (mkF m 186 #[s0_, s1_, s2_, s3_, s4_, s5_, .val (.int c1_), .val (.int c2_), .val (.int c3_), s9_, s10_, .val (.ref us), .val (.int (3 : Int32))] [(.int c2_)]))
  refine own_go (fun t k => XS.iload X338.here hx rfl (hb hby at_186) rfl k) ?_
  show own_Go _ _ _ _ (T338.setTop (mkF m 188 #[s0_, s1_, s2_, s3_, s4_, s5_, .val (.int c1_), .val (.int c2_), .val (.int c3_), s9_, s10_, .val (.ref us), .val (.int (3 : Int32))] [(.int c2_), (.int c2_)]))
  refine own_go (fun t k => XS.icmpNo X338.here hx rfl (hb hby at_188) rfl (teq (rfl : c2_ = c2_)).2 k) ?_
  refine own_go (fun t k => XS.iload X338.here hx rfl (hb hby at_191) rfl k) ?_
  refine own_go (fun t k => XS.iconst X338.here hx rfl (hb hby at_193) k) ?_
  show own_Go _ _ _ _ (T338.setTop (mkF m 194 #[s0_, s1_, s2_, s3_, s4_, s5_, .val (.int c1_), .val (.int c2_), .val (.int c3_), s9_, s10_, .val (.ref us), .val (.int (3 : Int32))] [(.int (4 : Int32)), (.int (3 : Int32))]))
  refine own_go (fun t k => XS.icmpYes X338.here hx rfl (pc0 := 194) (pc' := 208) rfl (hb hby at_194) rfl (tlt (by decide : (3 : Int32) < (4 : Int32))).1 (by decide) (by decide) k) ?_
  refine own_go (fun t k => XS.iconst X338.here hx rfl (hb hby at_208) k) ?_
  refine own_go (fun t k => XS.goto X338.here hx rfl (pc0 := 209) (pc' := 213) rfl (hb hby at_209) (by decide) (by decide) k) ?_
  show own_Go _ _ _ _ (T338.setTop (mkF m 213 #[s0_, s1_, s2_, s3_, s4_, s5_, .val (.int c1_), .val (.int c2_), .val (.int c3_), s9_, s10_, .val (.ref us), .val (.int (3 : Int32))] [(.int (1 : Int32))]))
  refine own_retNH X338 hx hS (Nat.le_trans hk (Nat.le_of_eq (congrArg Array.size e338.symm))) (by rw [hh, e338]; exact C0.trans (CHv.at X338 hZ (own_EW hw) C0.1)) hlk (t := .boolean) hret (by simp) (hb hby at_213) ?_ (by show _ ≤ 24; omega) (by show _ ≤ 1152; omega)
  rw [e338]
  exact ⟨rfl, N338⟩
set_option maxRecDepth 65536 in
set_option maxHeartbeats 40000000 in
theorem sg_tl4 {p : Program} {l : Launch} {e : Env} {s : State} {vm0 : Vm} {m : MethodId} {args : Array Value} {below : List Frame} {meth : Method} {c : Code} {T0 : State} {locs : List Loc} {cells slots : Nat} {Z : State} {a0 : Array Value} (hw : ∀ d ∈ tables_1, d.before a0 Z = true) {s0_ s1_ s2_ s3_ s4_ s5_ s9_ s10_ : Slot} {h0 : Heap} {n0 : Nat} (X0 : Stand p l e room_1 (s.setVm vm0) m args below meth c T0 locs cells slots) (hlk : meth.locks = false) (hret : meth.sig.returnType = ret) (hx : p.tables.exec = Jvm.exec) (hby : c.code = code) (hml : c.maxLocals = maxLocals) (hown : vm0.findClass "com/example/grantfold/grantfold/model/ConfigurationParentPinLaw" = some m.cls) (hZ : Z.Warmed39 vm0) {k0 : Nat} (hS : s.Since vm0 k0) (hk : k0 ≤ h0.size) {hs0 : Heap} (hh : s.heap = hs0) (C0 : CHr Z consts_1 s.vm hs0 vm0 h0) (e0 : T0.heap = h0) (N0 : Fr n0 locs) (Z0 : n0 ≤ h0.size)
    (iv p1_ p2_ p3_ p4_ zv : Int32) (gv : Value) (hq : Heap) (us ub : Addr) (kb : ClassId) (c1_ c2_ c3_ c4_ : Int32) (O0 : Old Z n0 h0) (hzv : ¬ zv = (0 : Int32)) (S0 : Sta Z Z.heap "java/lang/String" "COMPACT_STRINGS" "Z" (.int zv)) (rgv : gv.isRef = true) (G0 : Sta Z Z.heap "jdk/internal/util/Preconditions" "SIOOBE_FORMATTER" "Ljava/util/function/BiFunction;" gv) (E0 : Exa Z h0 us "java/lang/String") (Cc0 : Fld Z h0 us "java/lang/String" "coder" "B" (.int (0 : Int32))) (V0 : Fld Z h0 us "java/lang/String" "value" "[B" (.ref ub)) (A0 : Arv Z h0 ub kb .byte (4 : Int32) [(.int (47 : Int32)), (.int (c1_.toInt8.toInt32)), (.int (c2_.toInt8.toInt32)), (.int (c3_.toInt8.toInt32))] (.int (0 : Int32))) (B1 : own_B c1_) (B2 : own_B c2_) (B3 : own_B c3_) (B4 : own_B c4_) (hcc : cells + 0 ≤ 24) (hss : slots + 0 ≤ 1152) :
    own_Go p e below (own_FinH Z consts_1 s room_1.cells room_1.slots (Q_law Z iv p1_ p2_ p3_ p4_ zv gv hq n0)) (T0.setTop (mkF m 96 #[s0_, s1_, s2_, s3_, s4_, s5_, .val (.int c1_), .val (.int c2_), .val (.int c3_), s9_, s10_, .val (.ref us), .val (.int (4 : Int32))] [])) := by
  show own_Go _ _ _ _ (T0.setTop (mkF m 96 #[s0_, s1_, s2_, s3_, s4_, s5_, .val (.int c1_), .val (.int c2_), .val (.int c3_), s9_, s10_, .val (.ref us), .val (.int (4 : Int32))] []))
  refine own_go (fun t k => XS.aload X0.here hx rfl (hb hby at_96) rfl rfl k) ?_
  show own_Go _ _ _ _ (T0.setTop (mkF m 98 #[s0_, s1_, s2_, s3_, s4_, s5_, .val (.int c1_), .val (.int c2_), .val (.int c3_), s9_, s10_, .val (.ref us), .val (.int (4 : Int32))] [(.ref us)]))
  refine own_go (fun t k => XS.ifnonnullYes X0.here hx rfl (pc0 := 98) (pc' := 103) rfl (hb hby at_98) rfl (by decide) (by decide) k) ?_
  refine own_go (fun t k => XS.iload X0.here hx rfl (hb hby at_103) rfl k) ?_
  show own_Go _ _ _ _ (T0.setTop (mkF m 105 #[s0_, s1_, s2_, s3_, s4_, s5_, .val (.int c1_), .val (.int c2_), .val (.int c3_), s9_, s10_, .val (.ref us), .val (.int (4 : Int32))] [(.int (4 : Int32))]))
  refine own_go (fun t k => XS.ifYes X0.here hx rfl (pc0 := 105) (pc' := 134) rfl (hb hby at_105) rfl ((if0 _ _).trans (feq (by decide : ¬ ((4 : Int32) = (0 : Int32)))).2) (by decide) (by decide) k) ?_
  refine own_go (fun t k => XS.aload X0.here hx rfl (hb hby at_134) rfl rfl k) ?_
  have hB339 : ∀ c ∈ ([(47 : Int32), c1_, c2_, c3_] : List Int32), own_B c := (List.forall_mem_cons.mpr ⟨(by constructor <;> decide : own_B (47 : Int32)), (List.forall_mem_cons.mpr ⟨B1, (List.forall_mem_cons.mpr ⟨B2, (List.forall_mem_cons.mpr ⟨B3, (List.forall_mem_nil _)⟩)⟩)⟩)⟩)
  have hD339 := StrChars.Road.codOf (cs := ([(47 : Int32), c1_, c2_, c3_] : List Int32)) (n := 4) rfl (fun x hx => (hB339 x hx).2)
  have hU339 := own_up _ hB339
  obtain ⟨cq340, kq340, q340a, q340b, q340c⟩ := isOf (s := s.setVm vm0) hZ e0 E0
  obtain ⟨_, _, ⟨T340, L340, k340, n340⟩, -, X340, ⟨Lc340, hQ340, l340, y340, z340⟩, st340⟩ := X0.virtualBack hx (y := (⟨"java/lang/String", "length", "()I"⟩ : MethodName)) (z := (⟨"java/lang/String", "length", "()I"⟩ : MethodName)) hown (mvT hZ (w_93 hw)) (mvT hZ (w_61 hw)) (notFace_of_selects (args := #[]) (mvT hZ (w_63 hw))) (mvT hZ (w_63 hw)) (mvT hZ (w_62 hw)) (by decide) (StrChars.Road.lenW (W := 0) hZ (own_wlen hw) (kI := 4) (w_6 hw) (cs := ([(47 : Int32), c1_, c2_, c3_] : List Int32)) E0 V0 Cc0 A0 hD339 hU339 (S0.ext O0.2) hzv (Nat.le_of_ble_eq_true rfl) (by decide) (by decide)) q340a q340c (g := (mkF m 136 #[s0_, s1_, s2_, s3_, s4_, s5_, .val (.int c1_), .val (.int c2_), .val (.int c3_), s9_, s10_, .val (.ref us), .val (.int (4 : Int32))] [(.ref us)])) rfl (by rw [hml]; rfl) (Steps.refl _) (argsL := []) (rest := []) (lenOf pd_4 rfl) rfl (by show 2 * 0 + _ ≤ _; exact Nat.le_of_eq rfl) (hb hby at_136) (fun _ _ => ⟨rfl, e0, (by show _ ≤ 24; omega), (by show _ ≤ 1152; omega)⟩)
  dsimp only [Pt.U, Pt.locs, Pt.cells, Pt.slots] at X340 l340 y340 z340 st340 hQ340
  subst l340 y340 z340
  obtain ⟨rfl, rfl, e340⟩ := hQ340
  have N340q : Fr n0 ([] : List Loc) := Fr.nil n0
  have N340 := Fr.app N0 N340q
  refine own_go (fun t k => st340.trans k) ?_
  show own_Go _ _ _ _ (T340.setTop (mkF m 139 #[s0_, s1_, s2_, s3_, s4_, s5_, .val (.int c1_), .val (.int c2_), .val (.int c3_), s9_, s10_, .val (.ref us), .val (.int (4 : Int32))] [(.int (4 : Int32))]))
  refine own_go (fun t k => XS.iload X340.here hx rfl (hb hby at_139) rfl k) ?_
  show own_Go _ _ _ _ (T340.setTop (mkF m 141 #[s0_, s1_, s2_, s3_, s4_, s5_, .val (.int c1_), .val (.int c2_), .val (.int c3_), s9_, s10_, .val (.ref us), .val (.int (4 : Int32))] [(.int (4 : Int32)), (.int (4 : Int32))]))
  refine own_go (fun t k => XS.icmpYes X340.here hx rfl (pc0 := 141) (pc' := 146) rfl (hb hby at_141) rfl (teq (by decide : (4 : Int32) = (4 : Int32))).1 (by decide) (by decide) k) ?_
  refine own_go (fun t k => XS.aload X340.here hx rfl (hb hby at_146) rfl rfl k) ?_
  refine own_go (fun t k => XS.iconst X340.here hx rfl (hb hby at_148) k) ?_
  obtain ⟨cq341, kq341, q341a, q341b, q341c⟩ := isOf (s := s.setVm vm0) hZ e340 E0
  obtain ⟨_, _, ⟨T341, L341, k341, n341⟩, -, X341, ⟨Lc341, hQ341, l341, y341, z341⟩, st341⟩ := X340.virtualBack hx (y := (⟨"java/lang/String", "charAt", "(I)C"⟩ : MethodName)) (z := (⟨"java/lang/String", "charAt", "(I)C"⟩ : MethodName)) hown (mvT hZ (w_94 hw)) (mvT hZ (w_95 hw)) (notFace_of_selects (args := #[]) (mvT hZ (w_97 hw))) (mvT hZ (w_97 hw)) (mvT hZ (w_96 hw)) (by decide) (StrChars.Road.chN (W := 0) hZ (own_wch hw) (kI := 4) (w_6 hw) (cs := ([(47 : Int32), c1_, c2_, c3_] : List Int32)) E0 V0 Cc0 A0 hD339 hU339 (S0.ext O0.2) hzv (G0.ext O0.2) rgv (Nat.le_of_ble_eq_true rfl) (i := 0) (Nat.le_of_ble_eq_true rfl) (j := (0 : Int32)) rfl (by decide) (by decide)) q341a q341c (g := (mkF m 149 #[s0_, s1_, s2_, s3_, s4_, s5_, .val (.int c1_), .val (.int c2_), .val (.int c3_), s9_, s10_, .val (.ref us), .val (.int (4 : Int32))] [(.int (0 : Int32)), (.ref us)])) rfl (by rw [hml]; rfl) (Steps.refl _) (argsL := [(.int (0 : Int32))]) (rest := []) (lenOf pd_14 rfl) rfl (by show 2 * 0 + _ ≤ _; exact Nat.le_of_eq rfl) (hb hby at_149) (fun _ _ => ⟨rfl, e340, (by show _ ≤ 24; omega), (by show _ ≤ 1152; omega)⟩)
  dsimp only [Pt.U, Pt.locs, Pt.cells, Pt.slots] at X341 l341 y341 z341 st341 hQ341
  subst l341 y341 z341
  obtain ⟨rfl, rfl, e341⟩ := hQ341
  have N341q : Fr n0 ([] : List Loc) := Fr.nil n0
  have N341 := Fr.app N340 N341q
  refine own_go (fun t k => st341.trans k) ?_
  show own_Go _ _ _ _ (T341.setTop (mkF m 152 #[s0_, s1_, s2_, s3_, s4_, s5_, .val (.int c1_), .val (.int c2_), .val (.int c3_), s9_, s10_, .val (.ref us), .val (.int (4 : Int32))] [(.int (47 : Int32))]))
  refine own_go (fun t k => XS.bipush X341.here hx rfl (hb hby at_152) k) ?_
  show own_Go _ _ _ _ (T341.setTop (mkF m 154 #[s0_, s1_, s2_, s3_, s4_, s5_, .val (.int c1_), .val (.int c2_), .val (.int c3_), s9_, s10_, .val (.ref us), .val (.int (4 : Int32))] [(.int (47 : Int32)), (.int (47 : Int32))]))
  refine own_go (fun t k => XS.icmpNo X341.here hx rfl (hb hby at_154) rfl (teq (by decide : (47 : Int32) = (47 : Int32))).2 k) ?_
  refine own_go (fun t k => XS.iload X341.here hx rfl (hb hby at_157) rfl k) ?_
  refine own_go (fun t k => XS.iconst X341.here hx rfl (hb hby at_159) k) ?_
  show own_Go _ _ _ _ (T341.setTop (mkF m 160 #[s0_, s1_, s2_, s3_, s4_, s5_, .val (.int c1_), .val (.int c2_), .val (.int c3_), s9_, s10_, .val (.ref us), .val (.int (4 : Int32))] [(.int (2 : Int32)), (.int (4 : Int32))]))
  refine own_go (fun t k => XS.icmpNo X341.here hx rfl (hb hby at_160) rfl (flt (by decide : ¬ ((4 : Int32) < (2 : Int32)))).1 k) ?_
  refine own_go (fun t k => XS.aload X341.here hx rfl (hb hby at_163) rfl rfl k) ?_
  refine own_go (fun t k => XS.iconst X341.here hx rfl (hb hby at_165) k) ?_
  obtain ⟨cq342, kq342, q342a, q342b, q342c⟩ := isOf (s := s.setVm vm0) hZ e341 E0
  obtain ⟨_, _, ⟨T342, L342, k342, n342⟩, -, X342, ⟨Lc342, hQ342, l342, y342, z342⟩, st342⟩ := X341.virtualBack hx (y := (⟨"java/lang/String", "charAt", "(I)C"⟩ : MethodName)) (z := (⟨"java/lang/String", "charAt", "(I)C"⟩ : MethodName)) hown (mvT hZ (w_94 hw)) (mvT hZ (w_95 hw)) (notFace_of_selects (args := #[]) (mvT hZ (w_97 hw))) (mvT hZ (w_97 hw)) (mvT hZ (w_96 hw)) (by decide) (StrChars.Road.chN (W := 0) hZ (own_wch hw) (kI := 4) (w_6 hw) (cs := ([(47 : Int32), c1_, c2_, c3_] : List Int32)) E0 V0 Cc0 A0 hD339 hU339 (S0.ext O0.2) hzv (G0.ext O0.2) rgv (Nat.le_of_ble_eq_true rfl) (i := 1) (Nat.le_of_ble_eq_true rfl) (j := (1 : Int32)) rfl (by decide) (by decide)) q342a q342c (g := (mkF m 166 #[s0_, s1_, s2_, s3_, s4_, s5_, .val (.int c1_), .val (.int c2_), .val (.int c3_), s9_, s10_, .val (.ref us), .val (.int (4 : Int32))] [(.int (1 : Int32)), (.ref us)])) rfl (by rw [hml]; rfl) (Steps.refl _) (argsL := [(.int (1 : Int32))]) (rest := []) (lenOf pd_14 rfl) rfl (by show 2 * 0 + _ ≤ _; exact Nat.le_of_eq rfl) (hb hby at_166) (fun _ _ => ⟨rfl, e341, (by show _ ≤ 24; omega), (by show _ ≤ 1152; omega)⟩)
  dsimp only [Pt.U, Pt.locs, Pt.cells, Pt.slots] at X342 l342 y342 z342 st342 hQ342
  subst l342 y342 z342
  obtain ⟨rfl, rfl, e342⟩ := hQ342
  have N342q : Fr n0 ([] : List Loc) := Fr.nil n0
  have N342 := Fr.app N341 N342q
  refine own_go (fun t k => st342.trans k) ?_
  show own_Go _ _ _ _ (T342.setTop (mkF m 169 #[s0_, s1_, s2_, s3_, s4_, s5_, .val (.int c1_), .val (.int c2_), .val (.int c3_), s9_, s10_, .val (.ref us), .val (.int (4 : Int32))] [(.int c1_)]))
  refine own_go (fun t k => XS.iload X342.here hx rfl (hb hby at_169) rfl k) ?_
  show own_Go _ _ _ _ (T342.setTop (mkF m 171 #[s0_, s1_, s2_, s3_, s4_, s5_, .val (.int c1_), .val (.int c2_), .val (.int c3_), s9_, s10_, .val (.ref us), .val (.int (4 : Int32))] [(.int c1_), (.int c1_)]))
  refine own_go (fun t k => XS.icmpNo X342.here hx rfl (hb hby at_171) rfl (teq (rfl : c1_ = c1_)).2 k) ?_
  refine own_go (fun t k => XS.iload X342.here hx rfl (hb hby at_174) rfl k) ?_
  refine own_go (fun t k => XS.iconst X342.here hx rfl (hb hby at_176) k) ?_
  show own_Go _ _ _ _ (T342.setTop (mkF m 177 #[s0_, s1_, s2_, s3_, s4_, s5_, .val (.int c1_), .val (.int c2_), .val (.int c3_), s9_, s10_, .val (.ref us), .val (.int (4 : Int32))] [(.int (3 : Int32)), (.int (4 : Int32))]))
  refine own_go (fun t k => XS.icmpNo X342.here hx rfl (hb hby at_177) rfl (flt (by decide : ¬ ((4 : Int32) < (3 : Int32)))).1 k) ?_
  refine own_go (fun t k => XS.aload X342.here hx rfl (hb hby at_180) rfl rfl k) ?_
  refine own_go (fun t k => XS.iconst X342.here hx rfl (hb hby at_182) k) ?_
  obtain ⟨cq343, kq343, q343a, q343b, q343c⟩ := isOf (s := s.setVm vm0) hZ e342 E0
  obtain ⟨_, _, ⟨T343, L343, k343, n343⟩, -, X343, ⟨Lc343, hQ343, l343, y343, z343⟩, st343⟩ := X342.virtualBack hx (y := (⟨"java/lang/String", "charAt", "(I)C"⟩ : MethodName)) (z := (⟨"java/lang/String", "charAt", "(I)C"⟩ : MethodName)) hown (mvT hZ (w_94 hw)) (mvT hZ (w_95 hw)) (notFace_of_selects (args := #[]) (mvT hZ (w_97 hw))) (mvT hZ (w_97 hw)) (mvT hZ (w_96 hw)) (by decide) (StrChars.Road.chN (W := 0) hZ (own_wch hw) (kI := 4) (w_6 hw) (cs := ([(47 : Int32), c1_, c2_, c3_] : List Int32)) E0 V0 Cc0 A0 hD339 hU339 (S0.ext O0.2) hzv (G0.ext O0.2) rgv (Nat.le_of_ble_eq_true rfl) (i := 2) (Nat.le_of_ble_eq_true rfl) (j := (2 : Int32)) rfl (by decide) (by decide)) q343a q343c (g := (mkF m 183 #[s0_, s1_, s2_, s3_, s4_, s5_, .val (.int c1_), .val (.int c2_), .val (.int c3_), s9_, s10_, .val (.ref us), .val (.int (4 : Int32))] [(.int (2 : Int32)), (.ref us)])) rfl (by rw [hml]; rfl) (Steps.refl _) (argsL := [(.int (2 : Int32))]) (rest := []) (lenOf pd_14 rfl) rfl (by show 2 * 0 + _ ≤ _; exact Nat.le_of_eq rfl) (hb hby at_183) (fun _ _ => ⟨rfl, e342, (by show _ ≤ 24; omega), (by show _ ≤ 1152; omega)⟩)
  dsimp only [Pt.U, Pt.locs, Pt.cells, Pt.slots] at X343 l343 y343 z343 st343 hQ343
  subst l343 y343 z343
  obtain ⟨rfl, rfl, e343⟩ := hQ343
  have N343q : Fr n0 ([] : List Loc) := Fr.nil n0
  have N343 := Fr.app N342 N343q
  refine own_go (fun t k => st343.trans k) ?_
  show own_Go _ _ _ _ (T343.setTop (mkF m 186 #[s0_, s1_, s2_, s3_, s4_, s5_, .val (.int c1_), .val (.int c2_), .val (.int c3_), s9_, s10_, .val (.ref us), .val (.int (4 : Int32))] [(.int c2_)]))
  refine own_go (fun t k => XS.iload X343.here hx rfl (hb hby at_186) rfl k) ?_
  show own_Go _ _ _ _ (T343.setTop (mkF m 188 #[s0_, s1_, s2_, s3_, s4_, s5_, .val (.int c1_), .val (.int c2_), .val (.int c3_), s9_, s10_, .val (.ref us), .val (.int (4 : Int32))] [(.int c2_), (.int c2_)]))
  refine own_go (fun t k => XS.icmpNo X343.here hx rfl (hb hby at_188) rfl (teq (rfl : c2_ = c2_)).2 k) ?_
  refine own_go (fun t k => XS.iload X343.here hx rfl (hb hby at_191) rfl k) ?_
  refine own_go (fun t k => XS.iconst X343.here hx rfl (hb hby at_193) k) ?_
  show own_Go _ _ _ _ (T343.setTop (mkF m 194 #[s0_, s1_, s2_, s3_, s4_, s5_, .val (.int c1_), .val (.int c2_), .val (.int c3_), s9_, s10_, .val (.ref us), .val (.int (4 : Int32))] [(.int (4 : Int32)), (.int (4 : Int32))]))
  refine own_go (fun t k => XS.icmpNo X343.here hx rfl (hb hby at_194) rfl (flt (by decide : ¬ ((4 : Int32) < (4 : Int32)))).1 k) ?_
  refine own_go (fun t k => XS.aload X343.here hx rfl (hb hby at_197) rfl rfl k) ?_
  refine own_go (fun t k => XS.iconst X343.here hx rfl (hb hby at_199) k) ?_
  obtain ⟨cq344, kq344, q344a, q344b, q344c⟩ := isOf (s := s.setVm vm0) hZ e343 E0
  obtain ⟨_, _, ⟨T344, L344, k344, n344⟩, -, X344, ⟨Lc344, hQ344, l344, y344, z344⟩, st344⟩ := X343.virtualBack hx (y := (⟨"java/lang/String", "charAt", "(I)C"⟩ : MethodName)) (z := (⟨"java/lang/String", "charAt", "(I)C"⟩ : MethodName)) hown (mvT hZ (w_94 hw)) (mvT hZ (w_95 hw)) (notFace_of_selects (args := #[]) (mvT hZ (w_97 hw))) (mvT hZ (w_97 hw)) (mvT hZ (w_96 hw)) (by decide) (StrChars.Road.chN (W := 0) hZ (own_wch hw) (kI := 4) (w_6 hw) (cs := ([(47 : Int32), c1_, c2_, c3_] : List Int32)) E0 V0 Cc0 A0 hD339 hU339 (S0.ext O0.2) hzv (G0.ext O0.2) rgv (Nat.le_of_ble_eq_true rfl) (i := 3) (Nat.le_of_ble_eq_true rfl) (j := (3 : Int32)) rfl (by decide) (by decide)) q344a q344c (g := (mkF m 200 #[s0_, s1_, s2_, s3_, s4_, s5_, .val (.int c1_), .val (.int c2_), .val (.int c3_), s9_, s10_, .val (.ref us), .val (.int (4 : Int32))] [(.int (3 : Int32)), (.ref us)])) rfl (by rw [hml]; rfl) (Steps.refl _) (argsL := [(.int (3 : Int32))]) (rest := []) (lenOf pd_14 rfl) rfl (by show 2 * 0 + _ ≤ _; exact Nat.le_of_eq rfl) (hb hby at_200) (fun _ _ => ⟨rfl, e343, (by show _ ≤ 24; omega), (by show _ ≤ 1152; omega)⟩)
  dsimp only [Pt.U, Pt.locs, Pt.cells, Pt.slots] at X344 l344 y344 z344 st344 hQ344
  subst l344 y344 z344
  obtain ⟨rfl, rfl, e344⟩ := hQ344
  have N344q : Fr n0 ([] : List Loc) := Fr.nil n0
  have N344 := Fr.app N343 N344q
  refine own_go (fun t k => st344.trans k) ?_
  show own_Go _ _ _ _ (T344.setTop (mkF m 203 #[s0_, s1_, s2_, s3_, s4_, s5_, .val (.int c1_), .val (.int c2_), .val (.int c3_), s9_, s10_, .val (.ref us), .val (.int (4 : Int32))] [(.int c3_)]))
  refine own_go (fun t k => XS.iload X344.here hx rfl (hb hby at_203) rfl k) ?_
  show own_Go _ _ _ _ (T344.setTop (mkF m 205 #[s0_, s1_, s2_, s3_, s4_, s5_, .val (.int c1_), .val (.int c2_), .val (.int c3_), s9_, s10_, .val (.ref us), .val (.int (4 : Int32))] [(.int c3_), (.int c3_)]))
  refine own_go (fun t k => XS.icmpNo X344.here hx rfl (hb hby at_205) rfl (teq (rfl : c3_ = c3_)).2 k) ?_
  refine own_go (fun t k => XS.iconst X344.here hx rfl (hb hby at_208) k) ?_
  refine own_go (fun t k => XS.goto X344.here hx rfl (pc0 := 209) (pc' := 213) rfl (hb hby at_209) (by decide) (by decide) k) ?_
  show own_Go _ _ _ _ (T344.setTop (mkF m 213 #[s0_, s1_, s2_, s3_, s4_, s5_, .val (.int c1_), .val (.int c2_), .val (.int c3_), s9_, s10_, .val (.ref us), .val (.int (4 : Int32))] [(.int (1 : Int32))]))
  refine own_retNH X344 hx hS (Nat.le_trans hk (Nat.le_of_eq (congrArg Array.size e344.symm))) (by rw [hh, e344]; exact C0.trans (CHv.at X344 hZ (own_EW hw) C0.1)) hlk (t := .boolean) hret (by simp) (hb hby at_213) ?_ (by show _ ≤ 24; omega) (by show _ ≤ 1152; omega)
  rw [e344]
  exact ⟨rfl, N344⟩
theorem own_five (x : Int32) : (x &&& 2147483647) % 5 = 0 ∨ (x &&& 2147483647) % 5 = 1 ∨ (x &&& 2147483647) % 5 = 2 ∨ (x &&& 2147483647) % 5 = 3 ∨ (x &&& 2147483647) % 5 = 4 := by
  have h1 : (x &&& 2147483647).toInt = x.toInt % 2 ^ 31 := Jvm.Kit.i32_mask x 2147483647 (k := 31) (by decide) (by decide)
  have h2 : ((x &&& 2147483647) % 5).toInt = (x &&& 2147483647).toInt % (5 : Int32).toInt := Jvm.Kit.i32_rem_nonneg (by rw [h1]; omega)
  have h3 : (5 : Int32).toInt = 5 := rfl
  rw [h3] at h2
  generalize (x &&& 2147483647) % 5 = k at h2 ⊢
  have h4 : 0 ≤ k.toInt ∧ k.toInt ≤ 4 := by omega
  have h5 : k = Int32.ofInt k.toInt := (Int32.ofInt_toInt k).symm
  have h6 : k.toInt = 0 ∨ k.toInt = 1 ∨ k.toInt = 2 ∨ k.toInt = 3 ∨ k.toInt = 4 := by omega
  rcases h6 with h | h | h | h | h <;> rw [h] at h5 <;> subst h5 <;> decide
theorem ef_law (m : MethodId) (iv : Int32) (p1_ : Int32) (p2_ : Int32) (p3_ : Int32) (p4_ : Int32) : entryFrame m #[(.int iv), (.int p1_), (.int p2_), (.int p3_), (.int p4_)] maxLocals = mkF m 0 #[.val (.int iv), .val (.int p1_), .val (.int p2_), .val (.int p3_), .val (.int p4_), .unset, .unset, .unset, .unset, .unset, .unset, .unset, .unset] [] := by first | (simp [entryFrame, mkF, argsToLocals, Value.category, maxLocals]; done) | rfl
theorem w_0 {Z : State} {a0 : Array Value} (hw : ∀ d ∈ tables_1, d.before a0 Z = true) : (Jvm.Cond.constant "com/example/grantfold/grantfold/model/ConfigurationParentPinLaw" (7 : Nat) (2147483647 : Int32)).before a0 Z = true := hw _ (List.mem_of_getElem? (i := 0) rfl)
theorem w_1 {Z : State} {a0 : Array Value} (hw : ∀ d ∈ tables_1, d.before a0 Z = true) : (Jvm.Cond.methodLink "com/example/grantfold/grantfold/model/ConfigurationParentPinLaw" (8 : Nat) ({ cls := "com/example/grantfold/grantfold/model/ConfigurationParentPinLaw", name := "ch", desc := "(I)C" } : Jvm.MethodName)).before a0 Z = true := hw _ (List.mem_of_getElem? (i := 1) rfl)
theorem w_4 {Z : State} {a0 : Array Value} (hw : ∀ d ∈ tables_1, d.before a0 Z = true) : (Jvm.Cond.code ({ cls := "com/example/grantfold/grantfold/model/ConfigurationParentPinLaw", name := "ch", desc := "(I)C" } : Jvm.MethodName) method_2_code (1 : Nat) (Option.some Jvm.ClassFile.FieldType.char)).before a0 Z = true := hw _ (List.mem_of_getElem? (i := 4) rfl)
theorem w_3 {Z : State} {a0 : Array Value} (hw : ∀ d ∈ tables_1, d.before a0 Z = true) : (Jvm.Cond.initialized "com/example/grantfold/grantfold/model/ConfigurationParentPinLaw").before a0 Z = true := hw _ (List.mem_of_getElem? (i := 3) rfl)
theorem w_2 {Z : State} {a0 : Array Value} (hw : ∀ d ∈ tables_1, d.before a0 Z = true) : (Jvm.Cond.static ({ cls := "com/example/grantfold/grantfold/model/ConfigurationParentPinLaw", name := "ch", desc := "(I)C" } : Jvm.MethodName)).before a0 Z = true := hw _ (List.mem_of_getElem? (i := 2) rfl)
theorem w_5 {Z : State} {a0 : Array Value} (hw : ∀ d ∈ tables_1, d.before a0 Z = true) : (Jvm.Cond.classLink "com/example/grantfold/grantfold/model/ConfigurationParentPinLaw" (14 : Nat) "java/lang/String").before a0 Z = true := hw _ (List.mem_of_getElem? (i := 5) rfl)
theorem w_8 {Z : State} {a0 : Array Value} (hw : ∀ d ∈ tables_1, d.before a0 Z = true) : (Jvm.Cond.methodLink "com/example/grantfold/grantfold/model/ConfigurationParentPinLaw" (16 : Nat) ({ cls := "com/example/grantfold/grantfold/model/ConfigurationParentPinLaw", name := "chars", desc := "(ICCCC)[C" } : Jvm.MethodName)).before a0 Z = true := hw _ (List.mem_of_getElem? (i := 8) rfl)
theorem w_10 {Z : State} {a0 : Array Value} (hw : ∀ d ∈ tables_1, d.before a0 Z = true) : (Jvm.Cond.code ({ cls := "com/example/grantfold/grantfold/model/ConfigurationParentPinLaw", name := "chars", desc := "(ICCCC)[C" } : Jvm.MethodName) method_3_code (5 : Nat) (Option.some (Jvm.ClassFile.FieldType.array Jvm.ClassFile.FieldType.char))).before a0 Z = true := hw _ (List.mem_of_getElem? (i := 10) rfl)
theorem pd_15 : parseMethodDescriptor "(ICCCC)[C" = some ⟨[.int, .char, .char, .char, .char], some (.array .char)⟩ := by decide +kernel
theorem w_9 {Z : State} {a0 : Array Value} (hw : ∀ d ∈ tables_1, d.before a0 Z = true) : (Jvm.Cond.static ({ cls := "com/example/grantfold/grantfold/model/ConfigurationParentPinLaw", name := "chars", desc := "(ICCCC)[C" } : Jvm.MethodName)).before a0 Z = true := hw _ (List.mem_of_getElem? (i := 9) rfl)
theorem w_12 {Z : State} {a0 : Array Value} (hw : ∀ d ∈ tables_1, d.before a0 Z = true) : (Jvm.Cond.methodLink "com/example/grantfold/grantfold/model/ConfigurationParentPinLaw" (20 : Nat) ({ cls := "java/lang/String", name := "<init>", desc := "([C)V" } : Jvm.MethodName)).before a0 Z = true := hw _ (List.mem_of_getElem? (i := 12) rfl)
theorem w_14 {Z : State} {a0 : Array Value} (hw : ∀ d ∈ tables_1, d.before a0 Z = true) : (Jvm.Cond.code ({ cls := "java/lang/String", name := "<init>", desc := "([C)V" } : Jvm.MethodName) jdk_42_method_3_code (2 : Nat) (Option.none : Option Jvm.ClassFile.FieldType)).before a0 Z = true := hw _ (List.mem_of_getElem? (i := 14) rfl)
theorem pd_16 : parseMethodDescriptor "([C)V" = some ⟨[(.array .char)], none⟩ := by decide +kernel
theorem w_13 {Z : State} {a0 : Array Value} (hw : ∀ d ∈ tables_1, d.before a0 Z = true) : (Jvm.Cond.instanceMethod ({ cls := "java/lang/String", name := "<init>", desc := "([C)V" } : Jvm.MethodName)).before a0 Z = true := hw _ (List.mem_of_getElem? (i := 13) rfl)
theorem w_38 {Z : State} {a0 : Array Value} (hw : ∀ d ∈ tables_1, d.before a0 Z = true) : (Jvm.Cond.methodLink "com/example/grantfold/grantfold/model/ConfigurationParentPinLaw" (23 : Nat) ({ cls := "com/example/grantfold/grantfold/model/Configuration", name := "parent", desc := "(Ljava/lang/String;)Ljava/lang/String;" } : Jvm.MethodName)).before a0 Z = true := hw _ (List.mem_of_getElem? (i := 38) rfl)
theorem w_41 {Z : State} {a0 : Array Value} (hw : ∀ d ∈ tables_1, d.before a0 Z = true) : (Jvm.Cond.code ({ cls := "com/example/grantfold/grantfold/model/Configuration", name := "parent", desc := "(Ljava/lang/String;)Ljava/lang/String;" } : Jvm.MethodName) prog_15_method_2_code (2 : Nat) (Option.some (Jvm.ClassFile.FieldType.object "java/lang/String"))).before a0 Z = true := hw _ (List.mem_of_getElem? (i := 41) rfl)
theorem w_40 {Z : State} {a0 : Array Value} (hw : ∀ d ∈ tables_1, d.before a0 Z = true) : (Jvm.Cond.initialized "com/example/grantfold/grantfold/model/Configuration").before a0 Z = true := hw _ (List.mem_of_getElem? (i := 40) rfl)
theorem pd_17 : parseMethodDescriptor "(Ljava/lang/String;)Ljava/lang/String;" = some ⟨[(.object "java/lang/String")], some (.object "java/lang/String")⟩ := by decide +kernel
theorem w_39 {Z : State} {a0 : Array Value} (hw : ∀ d ∈ tables_1, d.before a0 Z = true) : (Jvm.Cond.static ({ cls := "com/example/grantfold/grantfold/model/Configuration", name := "parent", desc := "(Ljava/lang/String;)Ljava/lang/String;" } : Jvm.MethodName)).before a0 Z = true := hw _ (List.mem_of_getElem? (i := 39) rfl)
theorem w_90 {Z : State} {a0 : Array Value} (hw : ∀ d ∈ tables_1, d.before a0 Z = true) : (Jvm.Cond.methodLink "com/example/grantfold/grantfold/model/ConfigurationParentPinLaw" (29 : Nat) ({ cls := "com/example/grantfold/grantfold/model/ConfigurationParentPinLaw", name := "lastSlash", desc := "(ICCCC)I" } : Jvm.MethodName)).before a0 Z = true := hw _ (List.mem_of_getElem? (i := 90) rfl)
theorem w_92 {Z : State} {a0 : Array Value} (hw : ∀ d ∈ tables_1, d.before a0 Z = true) : (Jvm.Cond.code ({ cls := "com/example/grantfold/grantfold/model/ConfigurationParentPinLaw", name := "lastSlash", desc := "(ICCCC)I" } : Jvm.MethodName) method_4_code (5 : Nat) (Option.some Jvm.ClassFile.FieldType.int)).before a0 Z = true := hw _ (List.mem_of_getElem? (i := 92) rfl)
theorem pd_18 : parseMethodDescriptor "(ICCCC)I" = some ⟨[.int, .char, .char, .char, .char], some .int⟩ := by decide +kernel
theorem w_91 {Z : State} {a0 : Array Value} (hw : ∀ d ∈ tables_1, d.before a0 Z = true) : (Jvm.Cond.static ({ cls := "com/example/grantfold/grantfold/model/ConfigurationParentPinLaw", name := "lastSlash", desc := "(ICCCC)I" } : Jvm.MethodName)).before a0 Z = true := hw _ (List.mem_of_getElem? (i := 91) rfl)
set_option maxRecDepth 65536 in
set_option maxHeartbeats 40000000 in
theorem rm_law (l : Launch) (Z : State) (a0 : Array Value) (hw : ∀ d ∈ tables_1, d.before a0 Z = true) (ws : List Jvm.Cond) (iv p1_ p2_ p3_ p4_ zv : Int32) (gv : Value) (h0 : Heap) (n0 : Nat) (Z0 : n0 ≤ h0.size) (O0 : Old Z n0 h0) (hzv : ¬ zv = (0 : Int32)) (S0 : Sta Z Z.heap "java/lang/String" "COMPACT_STRINGS" "Z" (.int zv)) (rgv : gv.isRef = true) (G0 : Sta Z Z.heap "jdk/internal/util/Preconditions" "SIOOBE_FORMATTER" "Ljava/util/function/BiFunction;" gv) :
    own_MetH l Z consts_1 x code maxLocals ret ws room_1 #[(.int iv), (.int p1_), (.int p2_), (.int p3_), (.int p4_)] h0 (Q_law Z iv p1_ p2_ p3_ p4_ zv gv h0 n0) := by
  refine own_enterH (own := "com/example/grantfold/grantfold/model/ConfigurationParentPinLaw") (plainFor_of_name pn_0) rfl ?_
  intro p e s m below meth c s₁ hlk hret hx hby hml hown hnm hZ hh hH X0 e0
  have N0 := Fr.nil n0
  refine own_cast (ef_law m iv p1_ p2_ p3_ p4_) ?_
  have hS : s.Since s.vm 0 := (State.WarmedH.refl s).since 0
  have hk : 0 ≤ h0.size := Nat.zero_le _
  have C0 : CHr Z consts_1 s.vm h0 s.vm h0 := CHr.refl hH
  show own_Go _ _ _ _ (s₁.setTop (mkF m 0 #[.val (.int iv), .val (.int p1_), .val (.int p2_), .val (.int p3_), .val (.int p4_), .unset, .unset, .unset, .unset, .unset, .unset, .unset, .unset] []))
  refine own_go (fun t k => XS.iconst X0.here hx rfl (hb hby at_0) k) ?_
  refine own_go (fun t k => XS.iloadN X0.here hx rfl (hb hby at_1) rfl k) ?_
  show own_Go _ _ _ _ (s₁.setTop (mkF m 2 #[.val (.int iv), .val (.int p1_), .val (.int p2_), .val (.int p3_), .val (.int p4_), .unset, .unset, .unset, .unset, .unset, .unset, .unset, .unset] [(.int iv), (.int (1 : Int32))]))
  refine own_go (X0.ldcInt hx hown (mvT hZ (w_0 hw)) (g := (mkF m 2 #[.val (.int iv), .val (.int p1_), .val (.int p2_), .val (.int p3_), .val (.int p4_), .unset, .unset, .unset, .unset, .unset, .unset, .unset, .unset] [(.int iv), (.int (1 : Int32))])) rfl (hb hby at_2)) ?_
  refine own_go (fun t k => XS.iand X0.here hx rfl (hb hby at_4) rfl k) ?_
  refine own_go (fun t k => XS.iconst X0.here hx rfl (hb hby at_5) k) ?_
  show own_Go _ _ _ _ (s₁.setTop (mkF m 6 #[.val (.int iv), .val (.int p1_), .val (.int p2_), .val (.int p3_), .val (.int p4_), .unset, .unset, .unset, .unset, .unset, .unset, .unset, .unset] [(.int (5 : Int32)), (.int (iv &&& (2147483647 : Int32))), (.int (1 : Int32))]))
  refine own_go (fun t k => iremM X0 hx rfl (hb hby at_6) rfl (by decide) k) ?_
  show own_Go _ _ _ _ (s₁.setTop (mkF m 7 #[.val (.int iv), .val (.int p1_), .val (.int p2_), .val (.int p3_), .val (.int p4_), .unset, .unset, .unset, .unset, .unset, .unset, .unset, .unset] [(.int ((iv &&& (2147483647 : Int32)) % (5 : Int32))), (.int (1 : Int32))]))
  generalize hk : (iv &&& (2147483647 : Int32)) % (5 : Int32) = kk
  have hten : kk = 0 ∨ kk = 1 ∨ kk = 2 ∨ kk = 3 ∨ kk = 4 := hk ▸ own_five iv
  clear hk
  refine own_go (fun t k => XS.iadd X0.here hx rfl (hb hby at_7) rfl k) ?_
  refine own_go (fun t k => XS.istore X0.here hx rfl (hb hby at_8) rfl (l' := #[.val (.int iv), .val (.int p1_), .val (.int p2_), .val (.int p3_), .val (.int p4_), .val (.int ((1 : Int32) + kk)), .unset, .unset, .unset, .unset, .unset, .unset, .unset]) rfl k) ?_
  refine own_go (fun t k => XS.iloadN X0.here hx rfl (hb hby at_10) rfl k) ?_
  obtain ⟨_, _, ⟨T345, L345, k345, n345⟩, -, X345, ⟨Lc345, hQ345, l345, y345, z345⟩, st345⟩ := Jvm.LawKit.callS X0 hx (y := (⟨"com/example/grantfold/grantfold/model/ConfigurationParentPinLaw", "ch", "(I)C"⟩ : MethodName)) hown (mvT hZ (w_1 hw)) (mvT hZ (w_2 hw)) (mvT hZ (w_3 hw)) (mvT hZ (w_4 hw)) (by decide) (backOf (W := 0) (rm_ch l Z a0 hw [] p1_ h0 n0 Z0 ) hZ (w_4 hw) (w_3 hw) (by decide) (by decide)) (g := (mkF m 11 #[.val (.int iv), .val (.int p1_), .val (.int p2_), .val (.int p3_), .val (.int p4_), .val (.int ((1 : Int32) + kk)), .unset, .unset, .unset, .unset, .unset, .unset, .unset] [(.int p1_)])) rfl (by rw [hml]; rfl) (argsL := [(.int p1_)]) (rest := []) (lenOf pd_14 rfl) rfl (by show 2 * 0 + _ ≤ _; exact Nat.le_of_eq rfl) (hb hby at_11) (fun _ _ => ⟨rfl, e0, (by decide : 0 + 0 ≤ _), (by decide : 0 + 0 ≤ _)⟩)
  dsimp only [Pt.U, Pt.locs, Pt.cells, Pt.slots] at X345 l345 y345 z345 st345 hQ345
  subst l345 y345 z345
  obtain ⟨rfl, N345q, e345⟩ := hQ345
  have N345 := Fr.app N0 N345q
  have B1 := own_chB p1_
  generalize own_ch p1_ = c1_ at B1 st345
  refine own_go st345 ?_
  refine own_go (fun t k => XS.istore X345.here hx rfl (hb hby at_14) rfl (l' := #[.val (.int iv), .val (.int p1_), .val (.int p2_), .val (.int p3_), .val (.int p4_), .val (.int ((1 : Int32) + kk)), .val (.int c1_), .unset, .unset, .unset, .unset, .unset, .unset]) rfl k) ?_
  refine own_go (fun t k => XS.iloadN X345.here hx rfl (hb hby at_16) rfl k) ?_
  show own_Go _ _ _ _ (T345.setTop (mkF m 17 #[.val (.int iv), .val (.int p1_), .val (.int p2_), .val (.int p3_), .val (.int p4_), .val (.int ((1 : Int32) + kk)), .val (.int c1_), .unset, .unset, .unset, .unset, .unset, .unset] [(.int p2_)]))
  obtain ⟨_, _, ⟨T346, L346, k346, n346⟩, -, X346, ⟨Lc346, hQ346, l346, y346, z346⟩, st346⟩ := Jvm.LawKit.callS X345 hx (y := (⟨"com/example/grantfold/grantfold/model/ConfigurationParentPinLaw", "ch", "(I)C"⟩ : MethodName)) hown (mvT hZ (w_1 hw)) (mvT hZ (w_2 hw)) (mvT hZ (w_3 hw)) (mvT hZ (w_4 hw)) (by decide) (backOf (W := 0) (rm_ch l Z a0 hw [] p2_ h0 n0 Z0 ) hZ (w_4 hw) (w_3 hw) (by decide) (by decide)) (g := (mkF m 17 #[.val (.int iv), .val (.int p1_), .val (.int p2_), .val (.int p3_), .val (.int p4_), .val (.int ((1 : Int32) + kk)), .val (.int c1_), .unset, .unset, .unset, .unset, .unset, .unset] [(.int p2_)])) rfl (by rw [hml]; rfl) (argsL := [(.int p2_)]) (rest := []) (lenOf pd_14 rfl) rfl (by show 2 * 0 + _ ≤ _; exact Nat.le_of_eq rfl) (hb hby at_17) (fun _ _ => ⟨rfl, e345, (by decide : 0 + 0 ≤ _), (by decide : 0 + 0 ≤ _)⟩)
  dsimp only [Pt.U, Pt.locs, Pt.cells, Pt.slots] at X346 l346 y346 z346 st346 hQ346
  subst l346 y346 z346
  obtain ⟨rfl, N346q, e346⟩ := hQ346
  have N346 := Fr.app N345 N346q
  have B2 := own_chB p2_
  generalize own_ch p2_ = c2_ at B2 st346
  refine own_go st346 ?_
  refine own_go (fun t k => XS.istore X346.here hx rfl (hb hby at_20) rfl (l' := #[.val (.int iv), .val (.int p1_), .val (.int p2_), .val (.int p3_), .val (.int p4_), .val (.int ((1 : Int32) + kk)), .val (.int c1_), .val (.int c2_), .unset, .unset, .unset, .unset, .unset]) rfl k) ?_
  refine own_go (fun t k => XS.iloadN X346.here hx rfl (hb hby at_22) rfl k) ?_
  obtain ⟨_, _, ⟨T347, L347, k347, n347⟩, -, X347, ⟨Lc347, hQ347, l347, y347, z347⟩, st347⟩ := Jvm.LawKit.callS X346 hx (y := (⟨"com/example/grantfold/grantfold/model/ConfigurationParentPinLaw", "ch", "(I)C"⟩ : MethodName)) hown (mvT hZ (w_1 hw)) (mvT hZ (w_2 hw)) (mvT hZ (w_3 hw)) (mvT hZ (w_4 hw)) (by decide) (backOf (W := 0) (rm_ch l Z a0 hw [] p3_ h0 n0 Z0 ) hZ (w_4 hw) (w_3 hw) (by decide) (by decide)) (g := (mkF m 23 #[.val (.int iv), .val (.int p1_), .val (.int p2_), .val (.int p3_), .val (.int p4_), .val (.int ((1 : Int32) + kk)), .val (.int c1_), .val (.int c2_), .unset, .unset, .unset, .unset, .unset] [(.int p3_)])) rfl (by rw [hml]; rfl) (argsL := [(.int p3_)]) (rest := []) (lenOf pd_14 rfl) rfl (by show 2 * 0 + _ ≤ _; exact Nat.le_of_eq rfl) (hb hby at_23) (fun _ _ => ⟨rfl, e346, (by decide : 0 + 0 ≤ _), (by decide : 0 + 0 ≤ _)⟩)
  dsimp only [Pt.U, Pt.locs, Pt.cells, Pt.slots] at X347 l347 y347 z347 st347 hQ347
  subst l347 y347 z347
  obtain ⟨rfl, N347q, e347⟩ := hQ347
  have N347 := Fr.app N346 N347q
  have B3 := own_chB p3_
  generalize own_ch p3_ = c3_ at B3 st347
  refine own_go st347 ?_
  refine own_go (fun t k => XS.istore X347.here hx rfl (hb hby at_26) rfl (l' := #[.val (.int iv), .val (.int p1_), .val (.int p2_), .val (.int p3_), .val (.int p4_), .val (.int ((1 : Int32) + kk)), .val (.int c1_), .val (.int c2_), .val (.int c3_), .unset, .unset, .unset, .unset]) rfl k) ?_
  refine own_go (fun t k => XS.iload X347.here hx rfl (hb hby at_28) rfl k) ?_
  obtain ⟨_, _, ⟨T348, L348, k348, n348⟩, -, X348, ⟨Lc348, hQ348, l348, y348, z348⟩, st348⟩ := Jvm.LawKit.callS X347 hx (y := (⟨"com/example/grantfold/grantfold/model/ConfigurationParentPinLaw", "ch", "(I)C"⟩ : MethodName)) hown (mvT hZ (w_1 hw)) (mvT hZ (w_2 hw)) (mvT hZ (w_3 hw)) (mvT hZ (w_4 hw)) (by decide) (backOf (W := 0) (rm_ch l Z a0 hw [] p4_ h0 n0 Z0 ) hZ (w_4 hw) (w_3 hw) (by decide) (by decide)) (g := (mkF m 30 #[.val (.int iv), .val (.int p1_), .val (.int p2_), .val (.int p3_), .val (.int p4_), .val (.int ((1 : Int32) + kk)), .val (.int c1_), .val (.int c2_), .val (.int c3_), .unset, .unset, .unset, .unset] [(.int p4_)])) rfl (by rw [hml]; rfl) (argsL := [(.int p4_)]) (rest := []) (lenOf pd_14 rfl) rfl (by show 2 * 0 + _ ≤ _; exact Nat.le_of_eq rfl) (hb hby at_30) (fun _ _ => ⟨rfl, e347, (by decide : 0 + 0 ≤ _), (by decide : 0 + 0 ≤ _)⟩)
  dsimp only [Pt.U, Pt.locs, Pt.cells, Pt.slots] at X348 l348 y348 z348 st348 hQ348
  subst l348 y348 z348
  obtain ⟨rfl, N348q, e348⟩ := hQ348
  have N348 := Fr.app N347 N348q
  have B4 := own_chB p4_
  generalize own_ch p4_ = c4_ at B4 st348
  refine own_go st348 ?_
  show own_Go _ _ _ _ (T348.setTop (mkF m 33 #[.val (.int iv), .val (.int p1_), .val (.int p2_), .val (.int p3_), .val (.int p4_), .val (.int ((1 : Int32) + kk)), .val (.int c1_), .val (.int c2_), .val (.int c3_), .unset, .unset, .unset, .unset] [(.int c4_)]))
  refine own_go (fun t k => XS.istore X348.here hx rfl (hb hby at_33) rfl (l' := #[.val (.int iv), .val (.int p1_), .val (.int p2_), .val (.int p3_), .val (.int p4_), .val (.int ((1 : Int32) + kk)), .val (.int c1_), .val (.int c2_), .val (.int c3_), .val (.int c4_), .unset, .unset, .unset]) rfl k) ?_
  rcases hten with rfl | rfl | rfl | rfl | rfl
  · show own_Go _ _ _ _ (T348.setTop (mkF m 35 #[.val (.int iv), .val (.int p1_), .val (.int p2_), .val (.int p3_), .val (.int p4_), .val (.int (1 : Int32)), .val (.int c1_), .val (.int c2_), .val (.int c3_), .val (.int c4_), .unset, .unset, .unset] []))
    obtain ⟨T349, h349, X349, e349, E349, A349, D349, -, st349⟩ := newO X348 hx hZ hown (w_5 hw) (w_6 hw) (w_7 hw) e348 (g := (mkF m 35 #[.val (.int iv), .val (.int p1_), .val (.int p2_), .val (.int p3_), .val (.int p4_), .val (.int (1 : Int32)), .val (.int c1_), .val (.int c2_), .val (.int c3_), .val (.int c4_), .unset, .unset, .unset] [])) rfl (hb hby at_35) (by decide) (by decide)
    obtain ⟨b349, g349⟩ : ∃ z, z = h0.size := ⟨_, rfl⟩
    rw [← g349] at A349 D349 st349
    refine own_go st349 ?_
    have Sf349 : Safe Z consts_1 s.vm h0 b349 := Safe.new (Nat.le_of_eq g349.symm)
    have Z349 : n0 ≤ h349.size := (Nat.le_trans Z0 E349.1)
    have C349 := C0.trans (CHr.ext E349 C0.1)
    have lo349 : h0.size ≤ b349 := Nat.le_of_eq g349.symm
    have q349 : n0 ≤ b349 := Nat.le_trans Z0 lo349
    have hi349 : b349 < h349.size := A349.lt
    have F349_35 : Fld Z h349 b349 "java/lang/String" "coder" "B" (.int (0 : Int32)) := D349 (Or.inr (w_35 hw)) (ty := .byte) (by decide)
    have F349_37 : Fld Z h349 b349 "java/lang/String" "value" "[B" .null := D349 (Or.inr (w_37 hw)) (ty := (.array .byte)) (by decide)
    refine own_go (fun t k => XS.dup X349.here hx rfl (hb hby at_38) rfl rfl k) ?_
    refine own_go (fun t k => XS.iload X349.here hx rfl (hb hby at_39) rfl k) ?_
    refine own_go (fun t k => XS.iload X349.here hx rfl (hb hby at_41) rfl k) ?_
    refine own_go (fun t k => XS.iload X349.here hx rfl (hb hby at_43) rfl k) ?_
    refine own_go (fun t k => XS.iload X349.here hx rfl (hb hby at_45) rfl k) ?_
    refine own_go (fun t k => XS.iload X349.here hx rfl (hb hby at_47) rfl k) ?_
    show own_Go _ _ _ _ (T349.setTop (mkF m 49 #[.val (.int iv), .val (.int p1_), .val (.int p2_), .val (.int p3_), .val (.int p4_), .val (.int (1 : Int32)), .val (.int c1_), .val (.int c2_), .val (.int c3_), .val (.int c4_), .unset, .unset, .unset] [(.int c4_), (.int c3_), (.int c2_), (.int c1_), (.int (1 : Int32)), (.ref b349), (.ref b349)]))
    obtain ⟨_, _, ⟨T350, L350, k350, n350⟩, -, X350, ⟨Lc350, hQ350, l350, y350, z350⟩, st350⟩ := Jvm.LawKit.callS X349 hx (y := (⟨"com/example/grantfold/grantfold/model/ConfigurationParentPinLaw", "chars", "(ICCCC)[C"⟩ : MethodName)) hown (mvT hZ (w_8 hw)) (mvT hZ (w_9 hw)) (mvT hZ (w_3 hw)) (mvT hZ (w_10 hw)) (by decide) (backOf (W := 2) (rm_chs_1 l Z a0 hw [] c1_ c2_ c3_ c4_ h349 n0 Z349 B1 B2 B3 B4) hZ (w_10 hw) (w_3 hw) (by decide) (by decide)) (g := (mkF m 49 #[.val (.int iv), .val (.int p1_), .val (.int p2_), .val (.int p3_), .val (.int p4_), .val (.int (1 : Int32)), .val (.int c1_), .val (.int c2_), .val (.int c3_), .val (.int c4_), .unset, .unset, .unset] [(.int c4_), (.int c3_), (.int c2_), (.int c1_), (.int (1 : Int32)), (.ref b349), (.ref b349)])) rfl (by rw [hml]; rfl) (argsL := [(.int (1 : Int32)), (.int c1_), (.int c2_), (.int c3_), (.int c4_)]) (rest := [(.ref b349), (.ref b349)]) (lenOf pd_15 rfl) rfl (by show 2 * 0 + _ ≤ _; exact Nat.le_of_eq rfl) (hb hby at_49) (fun _ _ => ⟨rfl, e349, (by decide : 1 + 1 ≤ _), (by decide : 4 + 1 ≤ _)⟩)
    dsimp only [Pt.U, Pt.locs, Pt.cells, Pt.slots] at X350 l350 y350 z350 st350 hQ350
    subst l350 y350 z350
    generalize e350 : T350.heap = h350 at hQ350
    obtain ⟨uc350, kc350, rfl, N350q, K350q, lo350, q350, A350⟩ := hQ350
    have N350 := Fr.app N348 N350q
    refine own_go st350 ?_
    have C350 := C349.trans (CHr.keep K350q all0 C349.1)
    have Z350 : n0 ≤ h350.size := (Nat.le_trans Z349 K350q.1)
    have hi350 := A350.lt
    obtain ⟨_, _, ⟨T351, L351, k351, n351⟩, -, X351, ⟨Lc351, hQ351, l351, y351, z351⟩, st351⟩ := X350.specialBack hx (y := (⟨"java/lang/String", "<init>", "([C)V"⟩ : MethodName)) rfl hown (mvT hZ (w_12 hw)) (mvT hZ (w_13 hw)) (mvT hZ (w_14 hw)) (by decide) (StrChars.Road.backV (W := 1) hZ (own_wnew hw) (kI := 4) (w_6 hw) (cs := ([(47 : Int32)] : List Int32)) (bs := (([(47 : Int32)] : List Int32)).map (fun c => c.toInt8.toInt32)) (n := 1) q349 Z350 (A349.keep K350q) (F349_37.keep K350q nin0) (F349_35.keep K350q nin0) A350 (S0.ext ((O0.ext E349).keep K350q all0).2) hzv rfl rfl (by decide) (by decide) (List.forall_mem_cons.mpr ⟨(by constructor <;> decide : own_B (47 : Int32)), (List.forall_mem_nil _)⟩) rfl (by decide) (by decide)) (g := (mkF m 52 #[.val (.int iv), .val (.int p1_), .val (.int p2_), .val (.int p3_), .val (.int p4_), .val (.int (1 : Int32)), .val (.int c1_), .val (.int c2_), .val (.int c3_), .val (.int c4_), .unset, .unset, .unset] [(.ref uc350), (.ref b349), (.ref b349)])) rfl (by rw [hml]; rfl) (Steps.refl _) (a := b349) (argsL := [(.ref uc350)]) (rest := [(.ref b349)]) (lenOf pd_16 rfl) rfl (by show 2 * 0 + _ ≤ _; exact Nat.le_of_eq rfl) (hb hby at_52) (fun _ _ => ⟨rfl, e350, (by decide : 2 + 1 ≤ _), (by decide : 5 + 1 ≤ _)⟩)
    dsimp only [Pt.U, Pt.locs, Pt.cells, Pt.slots] at X351 l351 y351 z351 st351 hQ351
    subst l351 y351 z351
    generalize e351 : T351.heap = h351 at hQ351
    obtain ⟨rfl, N351q, K351q, Ea351, Ec351, t351, kb351, q351, lo351, nt351, Ev351, Ek351⟩ := hQ351
    have N351 := Fr.app N350 N351q
    refine own_go (fun t k => st351.trans k) ?_
    have C351 := C350.trans (CHr.keep K351q (allS (Safe.keep K350q all0 C349.1 (Safe.ext E349 C0.1 Sf349)) all0) C350.1)
    have Z351 : n0 ≤ h351.size := (Nat.le_trans Z350 K351q.1)
    have hi351 := Ek351.lt
    replace Ek351 : Arv Z h351 t351 kb351 .byte (1 : Int32) [(.int (47 : Int32))] (.int (0 : Int32)) := Ek351
    refine own_go (fun t k => XS.astore X351.here hx rfl (hb hby at_55) rfl rfl (l' := #[.val (.int iv), .val (.int p1_), .val (.int p2_), .val (.int p3_), .val (.int p4_), .val (.int (1 : Int32)), .val (.int c1_), .val (.int c2_), .val (.int c3_), .val (.int c4_), .val (.ref b349), .unset, .unset]) rfl k) ?_
    refine own_go (fun t k => XS.aload X351.here hx rfl (hb hby at_57) rfl rfl k) ?_
    have f352 := (((O0.ext E349).keep K350q all0).keep K351q (allS q349 all0))
    obtain ⟨_, _, ⟨T353, L353, k353, n353⟩, -, X353, hS353, hg353, ⟨Lc353, hQ353, l353, y353, z353, R353⟩, st353⟩ := callSS X351 hx (y := (⟨"com/example/grantfold/grantfold/model/Configuration", "parent", "(Ljava/lang/String;)Ljava/lang/String;"⟩ : MethodName)) hown (mvT hZ (w_38 hw)) (mvT hZ (w_39 hw)) (mvT hZ (w_40 hw)) (mvT hZ (w_41 hw)) (by decide) (backOfSH (W := 0) (rm_par_1 l Z a0 hw [] b349 t351 kb351 zv gv h351 n0 Z351 Ea351 Ec351 Ev351 Ek351 f352 hzv S0 rgv G0) hZ (w_41 hw) (w_40 hw) (by decide) (by decide) (own_EW hw) C351.1) (g := (mkF m 59 #[.val (.int iv), .val (.int p1_), .val (.int p2_), .val (.int p3_), .val (.int p4_), .val (.int (1 : Int32)), .val (.int c1_), .val (.int c2_), .val (.int c3_), .val (.int c4_), .val (.ref b349), .unset, .unset] [(.ref b349)])) rfl (by rw [hml]; rfl) (argsL := [(.ref b349)]) (rest := []) (lenOf pd_17 rfl) rfl (by show 2 * 0 + _ ≤ _; exact Nat.le_of_eq rfl) (hb hby at_59) (fun _ _ => ⟨rfl, e351, (by decide : 3 + 2 ≤ _), (by decide : 6 + 8 ≤ _)⟩)
    dsimp only [Pt.U, Pt.locs, Pt.cells, Pt.slots] at X353 l353 y353 z353 st353 hQ353 hS353 hg353 R353
    replace hS := foldS hS (Nat.le_trans (Nat.le_trans hk (Nat.le_trans (Nat.le_trans E349.1 K350q.1) K351q.1)) (Nat.le_of_eq (congrArg Array.size e351.symm))) hS353 hg353
    have hZ := State.Warmed39.trans hZ hS353.1
    have hown : T353.vm.findClass "com/example/grantfold/grantfold/model/ConfigurationParentPinLaw" = some m.cls := by rw [hS353.1.alike.findClass]; exact hown
    replace X353 : Stand p l e room_1 (s.setVm T353.vm) m #[(.int iv), (.int p1_), (.int p2_), (.int p3_), (.int p4_)] below meth c T353 _ _ _ := X353
    subst l353 y353 z353
    generalize e353 : T353.heap = h353 at hQ353 R353
    obtain ⟨rfl, N353q, K353q⟩ := hQ353
    have hk : T353.heap.size ≤ h353.size := Nat.le_of_eq (by rw [e353])
    have N353 := Fr.app N351 N353q
    refine own_go (fun t k => st353.trans k) ?_
    have C353 := C351.trans R353
    have Z353 : n0 ≤ h353.size := (Nat.le_trans Z351 K353q.1)
    refine own_go (fun t k => XS.astore X353.here hx rfl (hb hby at_62) rfl rfl (l' := #[.val (.int iv), .val (.int p1_), .val (.int p2_), .val (.int p3_), .val (.int p4_), .val (.int (1 : Int32)), .val (.int c1_), .val (.int c2_), .val (.int c3_), .val (.int c4_), .val (.ref b349), .val .null, .unset]) rfl k) ?_
    refine own_go (fun t k => XS.iload X353.here hx rfl (hb hby at_64) rfl k) ?_
    show own_Go _ _ _ _ (T353.setTop (mkF m 66 #[.val (.int iv), .val (.int p1_), .val (.int p2_), .val (.int p3_), .val (.int p4_), .val (.int (1 : Int32)), .val (.int c1_), .val (.int c2_), .val (.int c3_), .val (.int c4_), .val (.ref b349), .val .null, .unset] [(.int (1 : Int32))]))
    refine own_go (fun t k => XS.iconst X353.here hx rfl (hb hby at_66) k) ?_
    show own_Go _ _ _ _ (T353.setTop (mkF m 67 #[.val (.int iv), .val (.int p1_), .val (.int p2_), .val (.int p3_), .val (.int p4_), .val (.int (1 : Int32)), .val (.int c1_), .val (.int c2_), .val (.int c3_), .val (.int c4_), .val (.ref b349), .val .null, .unset] [(.int (1 : Int32)), (.int (1 : Int32))]))
    refine own_go (fun t k => XS.icmpNo X353.here hx rfl (hb hby at_67) rfl (teq (by decide : (1 : Int32) = (1 : Int32))).2 k) ?_
    refine own_go (fun t k => XS.aload X353.here hx rfl (hb hby at_70) rfl rfl k) ?_
    show own_Go _ _ _ _ (T353.setTop (mkF m 72 #[.val (.int iv), .val (.int p1_), .val (.int p2_), .val (.int p3_), .val (.int p4_), .val (.int (1 : Int32)), .val (.int c1_), .val (.int c2_), .val (.int c3_), .val (.int c4_), .val (.ref b349), .val .null, .unset] [.null]))
    refine own_go (fun t k => XS.ifnonnullNo X353.here hx rfl (hb hby at_72) rfl k) ?_
    refine own_go (fun t k => XS.iconst X353.here hx rfl (hb hby at_75) k) ?_
    refine own_go (fun t k => XS.goto X353.here hx rfl (pc0 := 76) (pc' := 80) rfl (hb hby at_76) (by decide) (by decide) k) ?_
    show own_Go _ _ _ _ (T353.setTop (mkF m 80 #[.val (.int iv), .val (.int p1_), .val (.int p2_), .val (.int p3_), .val (.int p4_), .val (.int (1 : Int32)), .val (.int c1_), .val (.int c2_), .val (.int c3_), .val (.int c4_), .val (.ref b349), .val .null, .unset] [(.int (1 : Int32))]))
    refine own_retNH X353 hx hS (Nat.le_trans hk (Nat.le_of_eq (congrArg Array.size e353.symm))) (by rw [hh, e353]; exact C353.trans (CHv.at X353 hZ (own_EW hw) C353.1)) hlk (t := .boolean) hret (by simp) (hb hby at_80) ?_ (by decide) (by decide)
    rw [e353]
    exact ⟨rfl, N353⟩
  · show own_Go _ _ _ _ (T348.setTop (mkF m 35 #[.val (.int iv), .val (.int p1_), .val (.int p2_), .val (.int p3_), .val (.int p4_), .val (.int (2 : Int32)), .val (.int c1_), .val (.int c2_), .val (.int c3_), .val (.int c4_), .unset, .unset, .unset] []))
    obtain ⟨T354, h354, X354, e354, E354, A354, D354, -, st354⟩ := newO X348 hx hZ hown (w_5 hw) (w_6 hw) (w_7 hw) e348 (g := (mkF m 35 #[.val (.int iv), .val (.int p1_), .val (.int p2_), .val (.int p3_), .val (.int p4_), .val (.int (2 : Int32)), .val (.int c1_), .val (.int c2_), .val (.int c3_), .val (.int c4_), .unset, .unset, .unset] [])) rfl (hb hby at_35) (by decide) (by decide)
    obtain ⟨b354, g354⟩ : ∃ z, z = h0.size := ⟨_, rfl⟩
    rw [← g354] at A354 D354 st354
    refine own_go st354 ?_
    have Sf354 : Safe Z consts_1 s.vm h0 b354 := Safe.new (Nat.le_of_eq g354.symm)
    have Z354 : n0 ≤ h354.size := (Nat.le_trans Z0 E354.1)
    have C354 := C0.trans (CHr.ext E354 C0.1)
    have lo354 : h0.size ≤ b354 := Nat.le_of_eq g354.symm
    have q354 : n0 ≤ b354 := Nat.le_trans Z0 lo354
    have hi354 : b354 < h354.size := A354.lt
    have F354_35 : Fld Z h354 b354 "java/lang/String" "coder" "B" (.int (0 : Int32)) := D354 (Or.inr (w_35 hw)) (ty := .byte) (by decide)
    have F354_37 : Fld Z h354 b354 "java/lang/String" "value" "[B" .null := D354 (Or.inr (w_37 hw)) (ty := (.array .byte)) (by decide)
    refine own_go (fun t k => XS.dup X354.here hx rfl (hb hby at_38) rfl rfl k) ?_
    refine own_go (fun t k => XS.iload X354.here hx rfl (hb hby at_39) rfl k) ?_
    refine own_go (fun t k => XS.iload X354.here hx rfl (hb hby at_41) rfl k) ?_
    refine own_go (fun t k => XS.iload X354.here hx rfl (hb hby at_43) rfl k) ?_
    refine own_go (fun t k => XS.iload X354.here hx rfl (hb hby at_45) rfl k) ?_
    refine own_go (fun t k => XS.iload X354.here hx rfl (hb hby at_47) rfl k) ?_
    show own_Go _ _ _ _ (T354.setTop (mkF m 49 #[.val (.int iv), .val (.int p1_), .val (.int p2_), .val (.int p3_), .val (.int p4_), .val (.int (2 : Int32)), .val (.int c1_), .val (.int c2_), .val (.int c3_), .val (.int c4_), .unset, .unset, .unset] [(.int c4_), (.int c3_), (.int c2_), (.int c1_), (.int (2 : Int32)), (.ref b354), (.ref b354)]))
    obtain ⟨_, _, ⟨T355, L355, k355, n355⟩, -, X355, ⟨Lc355, hQ355, l355, y355, z355⟩, st355⟩ := Jvm.LawKit.callS X354 hx (y := (⟨"com/example/grantfold/grantfold/model/ConfigurationParentPinLaw", "chars", "(ICCCC)[C"⟩ : MethodName)) hown (mvT hZ (w_8 hw)) (mvT hZ (w_9 hw)) (mvT hZ (w_3 hw)) (mvT hZ (w_10 hw)) (by decide) (backOf (W := 2) (rm_chs_2 l Z a0 hw [] c1_ c2_ c3_ c4_ h354 n0 Z354 B1 B2 B3 B4) hZ (w_10 hw) (w_3 hw) (by decide) (by decide)) (g := (mkF m 49 #[.val (.int iv), .val (.int p1_), .val (.int p2_), .val (.int p3_), .val (.int p4_), .val (.int (2 : Int32)), .val (.int c1_), .val (.int c2_), .val (.int c3_), .val (.int c4_), .unset, .unset, .unset] [(.int c4_), (.int c3_), (.int c2_), (.int c1_), (.int (2 : Int32)), (.ref b354), (.ref b354)])) rfl (by rw [hml]; rfl) (argsL := [(.int (2 : Int32)), (.int c1_), (.int c2_), (.int c3_), (.int c4_)]) (rest := [(.ref b354), (.ref b354)]) (lenOf pd_15 rfl) rfl (by show 2 * 0 + _ ≤ _; exact Nat.le_of_eq rfl) (hb hby at_49) (fun _ _ => ⟨rfl, e354, (by decide : 1 + 1 ≤ _), (by decide : 4 + 2 ≤ _)⟩)
    dsimp only [Pt.U, Pt.locs, Pt.cells, Pt.slots] at X355 l355 y355 z355 st355 hQ355
    subst l355 y355 z355
    generalize e355 : T355.heap = h355 at hQ355
    obtain ⟨uc355, kc355, rfl, N355q, K355q, lo355, q355, A355⟩ := hQ355
    have N355 := Fr.app N348 N355q
    refine own_go st355 ?_
    have C355 := C354.trans (CHr.keep K355q all0 C354.1)
    have Z355 : n0 ≤ h355.size := (Nat.le_trans Z354 K355q.1)
    have hi355 := A355.lt
    obtain ⟨_, _, ⟨T356, L356, k356, n356⟩, -, X356, ⟨Lc356, hQ356, l356, y356, z356⟩, st356⟩ := X355.specialBack hx (y := (⟨"java/lang/String", "<init>", "([C)V"⟩ : MethodName)) rfl hown (mvT hZ (w_12 hw)) (mvT hZ (w_13 hw)) (mvT hZ (w_14 hw)) (by decide) (StrChars.Road.backV (W := 1) hZ (own_wnew hw) (kI := 4) (w_6 hw) (cs := ([(47 : Int32), c1_] : List Int32)) (bs := (([(47 : Int32), c1_] : List Int32)).map (fun c => c.toInt8.toInt32)) (n := 2) q354 Z355 (A354.keep K355q) (F354_37.keep K355q nin0) (F354_35.keep K355q nin0) A355 (S0.ext ((O0.ext E354).keep K355q all0).2) hzv rfl rfl (by decide) (by decide) (List.forall_mem_cons.mpr ⟨(by constructor <;> decide : own_B (47 : Int32)), (List.forall_mem_cons.mpr ⟨B1, (List.forall_mem_nil _)⟩)⟩) rfl (by decide) (by decide)) (g := (mkF m 52 #[.val (.int iv), .val (.int p1_), .val (.int p2_), .val (.int p3_), .val (.int p4_), .val (.int (2 : Int32)), .val (.int c1_), .val (.int c2_), .val (.int c3_), .val (.int c4_), .unset, .unset, .unset] [(.ref uc355), (.ref b354), (.ref b354)])) rfl (by rw [hml]; rfl) (Steps.refl _) (a := b354) (argsL := [(.ref uc355)]) (rest := [(.ref b354)]) (lenOf pd_16 rfl) rfl (by show 2 * 0 + _ ≤ _; exact Nat.le_of_eq rfl) (hb hby at_52) (fun _ _ => ⟨rfl, e355, (by decide : 2 + 1 ≤ _), (by decide : 6 + 2 ≤ _)⟩)
    dsimp only [Pt.U, Pt.locs, Pt.cells, Pt.slots] at X356 l356 y356 z356 st356 hQ356
    subst l356 y356 z356
    generalize e356 : T356.heap = h356 at hQ356
    obtain ⟨rfl, N356q, K356q, Ea356, Ec356, t356, kb356, q356, lo356, nt356, Ev356, Ek356⟩ := hQ356
    have N356 := Fr.app N355 N356q
    refine own_go (fun t k => st356.trans k) ?_
    have C356 := C355.trans (CHr.keep K356q (allS (Safe.keep K355q all0 C354.1 (Safe.ext E354 C0.1 Sf354)) all0) C355.1)
    have Z356 : n0 ≤ h356.size := (Nat.le_trans Z355 K356q.1)
    have hi356 := Ek356.lt
    replace Ek356 : Arv Z h356 t356 kb356 .byte (2 : Int32) [(.int (47 : Int32)), (.int (c1_.toInt8.toInt32))] (.int (0 : Int32)) := Ek356
    refine own_go (fun t k => XS.astore X356.here hx rfl (hb hby at_55) rfl rfl (l' := #[.val (.int iv), .val (.int p1_), .val (.int p2_), .val (.int p3_), .val (.int p4_), .val (.int (2 : Int32)), .val (.int c1_), .val (.int c2_), .val (.int c3_), .val (.int c4_), .val (.ref b354), .unset, .unset]) rfl k) ?_
    refine own_go (fun t k => XS.aload X356.here hx rfl (hb hby at_57) rfl rfl k) ?_
    have f357 := (((O0.ext E354).keep K355q all0).keep K356q (allS q354 all0))
    obtain ⟨_, _, ⟨T358, L358, k358, n358⟩, -, X358, hS358, hg358, ⟨Lc358, hQ358, l358, y358, z358, R358⟩, st358⟩ := callSS X356 hx (y := (⟨"com/example/grantfold/grantfold/model/Configuration", "parent", "(Ljava/lang/String;)Ljava/lang/String;"⟩ : MethodName)) hown (mvT hZ (w_38 hw)) (mvT hZ (w_39 hw)) (mvT hZ (w_40 hw)) (mvT hZ (w_41 hw)) (by decide) (backOfSH (W := 0) (rm_par_2 l Z a0 hw [] b354 t356 kb356 c1_ c2_ c3_ c4_ zv gv h356 n0 Z356 Ea356 Ec356 Ev356 Ek356 B1 B2 B3 B4 f357 hzv S0 rgv G0) hZ (w_41 hw) (w_40 hw) (by decide) (by decide) (own_EW hw) C356.1) (g := (mkF m 59 #[.val (.int iv), .val (.int p1_), .val (.int p2_), .val (.int p3_), .val (.int p4_), .val (.int (2 : Int32)), .val (.int c1_), .val (.int c2_), .val (.int c3_), .val (.int c4_), .val (.ref b354), .unset, .unset] [(.ref b354)])) rfl (by rw [hml]; rfl) (argsL := [(.ref b354)]) (rest := []) (lenOf pd_17 rfl) rfl (by show 2 * 0 + _ ≤ _; exact Nat.le_of_eq rfl) (hb hby at_59) (fun _ _ => ⟨rfl, e356, (by decide : 3 + 4 ≤ _), (by decide : 8 + 16 ≤ _)⟩)
    dsimp only [Pt.U, Pt.locs, Pt.cells, Pt.slots] at X358 l358 y358 z358 st358 hQ358 hS358 hg358 R358
    replace hS := foldS hS (Nat.le_trans (Nat.le_trans hk (Nat.le_trans (Nat.le_trans E354.1 K355q.1) K356q.1)) (Nat.le_of_eq (congrArg Array.size e356.symm))) hS358 hg358
    have hZ := State.Warmed39.trans hZ hS358.1
    have hown : T358.vm.findClass "com/example/grantfold/grantfold/model/ConfigurationParentPinLaw" = some m.cls := by rw [hS358.1.alike.findClass]; exact hown
    replace X358 : Stand p l e room_1 (s.setVm T358.vm) m #[(.int iv), (.int p1_), (.int p2_), (.int p3_), (.int p4_)] below meth c T358 _ _ _ := X358
    subst l358 y358 z358
    generalize e358 : T358.heap = h358 at hQ358 R358
    obtain ⟨ux358, uy358, ky358, rfl, N358q, K358q, E358, Cd358, V358, A358⟩ := hQ358
    have hk : T358.heap.size ≤ h358.size := Nat.le_of_eq (by rw [e358])
    have N358 := Fr.app N356 N358q
    refine own_go (fun t k => st358.trans k) ?_
    have C358 := C356.trans R358
    have Z358 : n0 ≤ h358.size := (Nat.le_trans Z356 K358q.1)
    have hi358 := E358.lt
    rcases A358 with ⟨s1, A358⟩ | ⟨s1, A358⟩
    · have hy358 := A358.lt
      refine own_go (fun t k => XS.astore X358.here hx rfl (hb hby at_62) rfl rfl (l' := #[.val (.int iv), .val (.int p1_), .val (.int p2_), .val (.int p3_), .val (.int p4_), .val (.int (2 : Int32)), .val (.int c1_), .val (.int c2_), .val (.int c3_), .val (.int c4_), .val (.ref b354), .val (.ref ux358), .unset]) rfl k) ?_
      refine own_go (fun t k => XS.iload X358.here hx rfl (hb hby at_64) rfl k) ?_
      show own_Go _ _ _ _ (T358.setTop (mkF m 66 #[.val (.int iv), .val (.int p1_), .val (.int p2_), .val (.int p3_), .val (.int p4_), .val (.int (2 : Int32)), .val (.int c1_), .val (.int c2_), .val (.int c3_), .val (.int c4_), .val (.ref b354), .val (.ref ux358), .unset] [(.int (2 : Int32))]))
      refine own_go (fun t k => XS.iconst X358.here hx rfl (hb hby at_66) k) ?_
      show own_Go _ _ _ _ (T358.setTop (mkF m 67 #[.val (.int iv), .val (.int p1_), .val (.int p2_), .val (.int p3_), .val (.int p4_), .val (.int (2 : Int32)), .val (.int c1_), .val (.int c2_), .val (.int c3_), .val (.int c4_), .val (.ref b354), .val (.ref ux358), .unset] [(.int (1 : Int32)), (.int (2 : Int32))]))
      refine own_go (fun t k => XS.icmpYes X358.here hx rfl (pc0 := 67) (pc' := 81) rfl (hb hby at_67) rfl (feq (by decide : ¬ ((2 : Int32) = (1 : Int32)))).2 (by decide) (by decide) k) ?_
      refine own_go (fun t k => XS.iload X358.here hx rfl (hb hby at_81) rfl k) ?_
      refine own_go (fun t k => XS.iload X358.here hx rfl (hb hby at_83) rfl k) ?_
      refine own_go (fun t k => XS.iload X358.here hx rfl (hb hby at_85) rfl k) ?_
      refine own_go (fun t k => XS.iload X358.here hx rfl (hb hby at_87) rfl k) ?_
      refine own_go (fun t k => XS.iload X358.here hx rfl (hb hby at_89) rfl k) ?_
      obtain ⟨_, _, ⟨T359, L359, k359, n359⟩, -, X359, ⟨Lc359, hQ359, l359, y359, z359⟩, st359⟩ := Jvm.LawKit.callS X358 hx (y := (⟨"com/example/grantfold/grantfold/model/ConfigurationParentPinLaw", "lastSlash", "(ICCCC)I"⟩ : MethodName)) hown (mvT hZ (w_90 hw)) (mvT hZ (w_91 hw)) (mvT hZ (w_3 hw)) (mvT hZ (w_92 hw)) (by decide) (backOf (W := 0) (rm_ls_2 l Z a0 hw [] c1_ c2_ c3_ c4_ h358 n0 Z358 ) hZ (w_92 hw) (w_3 hw) (by decide) (by decide)) (g := (mkF m 91 #[.val (.int iv), .val (.int p1_), .val (.int p2_), .val (.int p3_), .val (.int p4_), .val (.int (2 : Int32)), .val (.int c1_), .val (.int c2_), .val (.int c3_), .val (.int c4_), .val (.ref b354), .val (.ref ux358), .unset] [(.int c4_), (.int c3_), (.int c2_), (.int c1_), (.int (2 : Int32))])) rfl (by rw [hml]; rfl) (argsL := [(.int (2 : Int32)), (.int c1_), (.int c2_), (.int c3_), (.int c4_)]) (rest := []) (lenOf pd_18 rfl) rfl (by show 2 * 0 + _ ≤ _; exact Nat.le_of_eq rfl) (hb hby at_91) (fun _ _ => ⟨rfl, e358, (by decide : 7 + 0 ≤ _), (by decide : 24 + 0 ≤ _)⟩)
      dsimp only [Pt.U, Pt.locs, Pt.cells, Pt.slots] at X359 l359 y359 z359 st359 hQ359
      subst l359 y359 z359
      obtain ⟨rfl, N359q, e359⟩ := hQ359
      have N359 := Fr.app N358 N359q
      rw [(by simp [own_last2, s1] : own_last2 c1_ c2_ c3_ c4_ = 0)] at st359
      refine own_go st359 ?_
      show own_Go _ _ _ _ (T359.setTop (mkF m 94 #[.val (.int iv), .val (.int p1_), .val (.int p2_), .val (.int p3_), .val (.int p4_), .val (.int (2 : Int32)), .val (.int c1_), .val (.int c2_), .val (.int c3_), .val (.int c4_), .val (.ref b354), .val (.ref ux358), .unset] [(.int (0 : Int32))]))
      refine own_go (fun t k => XS.istore X359.here hx rfl (hb hby at_94) rfl (l' := #[.val (.int iv), .val (.int p1_), .val (.int p2_), .val (.int p3_), .val (.int p4_), .val (.int (2 : Int32)), .val (.int c1_), .val (.int c2_), .val (.int c3_), .val (.int c4_), .val (.ref b354), .val (.ref ux358), .val (.int (0 : Int32))]) rfl k) ?_
      show own_Go _ _ _ _ (T359.setTop (mkF m 96 #[.val (.int iv), .val (.int p1_), .val (.int p2_), .val (.int p3_), .val (.int p4_), .val (.int (2 : Int32)), .val (.int c1_), .val (.int c2_), .val (.int c3_), .val (.int c4_), .val (.ref b354), .val (.ref ux358), .val (.int (0 : Int32))] []))
      exact sg_tl0 hw X359 hlk hret hx hby hml hown hZ hS hk hh C358 e359 N359 Z358 iv p1_ p2_ p3_ p4_ zv gv h0 ux358 uy358 ky358 c1_ c2_ c3_ c4_ (f357.keep K358q all0) hzv S0 rgv G0 E358 Cd358 V358 A358 B1 B2 B3 B4 (by decide) (by decide)
    · have hy358 := A358.lt
      refine own_go (fun t k => XS.astore X358.here hx rfl (hb hby at_62) rfl rfl (l' := #[.val (.int iv), .val (.int p1_), .val (.int p2_), .val (.int p3_), .val (.int p4_), .val (.int (2 : Int32)), .val (.int c1_), .val (.int c2_), .val (.int c3_), .val (.int c4_), .val (.ref b354), .val (.ref ux358), .unset]) rfl k) ?_
      refine own_go (fun t k => XS.iload X358.here hx rfl (hb hby at_64) rfl k) ?_
      show own_Go _ _ _ _ (T358.setTop (mkF m 66 #[.val (.int iv), .val (.int p1_), .val (.int p2_), .val (.int p3_), .val (.int p4_), .val (.int (2 : Int32)), .val (.int c1_), .val (.int c2_), .val (.int c3_), .val (.int c4_), .val (.ref b354), .val (.ref ux358), .unset] [(.int (2 : Int32))]))
      refine own_go (fun t k => XS.iconst X358.here hx rfl (hb hby at_66) k) ?_
      show own_Go _ _ _ _ (T358.setTop (mkF m 67 #[.val (.int iv), .val (.int p1_), .val (.int p2_), .val (.int p3_), .val (.int p4_), .val (.int (2 : Int32)), .val (.int c1_), .val (.int c2_), .val (.int c3_), .val (.int c4_), .val (.ref b354), .val (.ref ux358), .unset] [(.int (1 : Int32)), (.int (2 : Int32))]))
      refine own_go (fun t k => XS.icmpYes X358.here hx rfl (pc0 := 67) (pc' := 81) rfl (hb hby at_67) rfl (feq (by decide : ¬ ((2 : Int32) = (1 : Int32)))).2 (by decide) (by decide) k) ?_
      refine own_go (fun t k => XS.iload X358.here hx rfl (hb hby at_81) rfl k) ?_
      refine own_go (fun t k => XS.iload X358.here hx rfl (hb hby at_83) rfl k) ?_
      refine own_go (fun t k => XS.iload X358.here hx rfl (hb hby at_85) rfl k) ?_
      refine own_go (fun t k => XS.iload X358.here hx rfl (hb hby at_87) rfl k) ?_
      refine own_go (fun t k => XS.iload X358.here hx rfl (hb hby at_89) rfl k) ?_
      obtain ⟨_, _, ⟨T360, L360, k360, n360⟩, -, X360, ⟨Lc360, hQ360, l360, y360, z360⟩, st360⟩ := Jvm.LawKit.callS X358 hx (y := (⟨"com/example/grantfold/grantfold/model/ConfigurationParentPinLaw", "lastSlash", "(ICCCC)I"⟩ : MethodName)) hown (mvT hZ (w_90 hw)) (mvT hZ (w_91 hw)) (mvT hZ (w_3 hw)) (mvT hZ (w_92 hw)) (by decide) (backOf (W := 0) (rm_ls_2 l Z a0 hw [] c1_ c2_ c3_ c4_ h358 n0 Z358 ) hZ (w_92 hw) (w_3 hw) (by decide) (by decide)) (g := (mkF m 91 #[.val (.int iv), .val (.int p1_), .val (.int p2_), .val (.int p3_), .val (.int p4_), .val (.int (2 : Int32)), .val (.int c1_), .val (.int c2_), .val (.int c3_), .val (.int c4_), .val (.ref b354), .val (.ref ux358), .unset] [(.int c4_), (.int c3_), (.int c2_), (.int c1_), (.int (2 : Int32))])) rfl (by rw [hml]; rfl) (argsL := [(.int (2 : Int32)), (.int c1_), (.int c2_), (.int c3_), (.int c4_)]) (rest := []) (lenOf pd_18 rfl) rfl (by show 2 * 0 + _ ≤ _; exact Nat.le_of_eq rfl) (hb hby at_91) (fun _ _ => ⟨rfl, e358, (by decide : 7 + 0 ≤ _), (by decide : 24 + 0 ≤ _)⟩)
      dsimp only [Pt.U, Pt.locs, Pt.cells, Pt.slots] at X360 l360 y360 z360 st360 hQ360
      subst l360 y360 z360
      obtain ⟨rfl, N360q, e360⟩ := hQ360
      have N360 := Fr.app N358 N360q
      rw [(by simp [own_last2, s1] : own_last2 c1_ c2_ c3_ c4_ = 1)] at st360
      refine own_go st360 ?_
      show own_Go _ _ _ _ (T360.setTop (mkF m 94 #[.val (.int iv), .val (.int p1_), .val (.int p2_), .val (.int p3_), .val (.int p4_), .val (.int (2 : Int32)), .val (.int c1_), .val (.int c2_), .val (.int c3_), .val (.int c4_), .val (.ref b354), .val (.ref ux358), .unset] [(.int (1 : Int32))]))
      refine own_go (fun t k => XS.istore X360.here hx rfl (hb hby at_94) rfl (l' := #[.val (.int iv), .val (.int p1_), .val (.int p2_), .val (.int p3_), .val (.int p4_), .val (.int (2 : Int32)), .val (.int c1_), .val (.int c2_), .val (.int c3_), .val (.int c4_), .val (.ref b354), .val (.ref ux358), .val (.int (1 : Int32))]) rfl k) ?_
      show own_Go _ _ _ _ (T360.setTop (mkF m 96 #[.val (.int iv), .val (.int p1_), .val (.int p2_), .val (.int p3_), .val (.int p4_), .val (.int (2 : Int32)), .val (.int c1_), .val (.int c2_), .val (.int c3_), .val (.int c4_), .val (.ref b354), .val (.ref ux358), .val (.int (1 : Int32))] []))
      exact sg_tl1 hw X360 hlk hret hx hby hml hown hZ hS hk hh C358 e360 N360 Z358 iv p1_ p2_ p3_ p4_ zv gv h0 ux358 uy358 ky358 c1_ c2_ c3_ c4_ (f357.keep K358q all0) hzv S0 rgv G0 E358 Cd358 V358 A358 B1 B2 B3 B4 (by decide) (by decide)
  · show own_Go _ _ _ _ (T348.setTop (mkF m 35 #[.val (.int iv), .val (.int p1_), .val (.int p2_), .val (.int p3_), .val (.int p4_), .val (.int (3 : Int32)), .val (.int c1_), .val (.int c2_), .val (.int c3_), .val (.int c4_), .unset, .unset, .unset] []))
    obtain ⟨T361, h361, X361, e361, E361, A361, D361, -, st361⟩ := newO X348 hx hZ hown (w_5 hw) (w_6 hw) (w_7 hw) e348 (g := (mkF m 35 #[.val (.int iv), .val (.int p1_), .val (.int p2_), .val (.int p3_), .val (.int p4_), .val (.int (3 : Int32)), .val (.int c1_), .val (.int c2_), .val (.int c3_), .val (.int c4_), .unset, .unset, .unset] [])) rfl (hb hby at_35) (by decide) (by decide)
    obtain ⟨b361, g361⟩ : ∃ z, z = h0.size := ⟨_, rfl⟩
    rw [← g361] at A361 D361 st361
    refine own_go st361 ?_
    have Sf361 : Safe Z consts_1 s.vm h0 b361 := Safe.new (Nat.le_of_eq g361.symm)
    have Z361 : n0 ≤ h361.size := (Nat.le_trans Z0 E361.1)
    have C361 := C0.trans (CHr.ext E361 C0.1)
    have lo361 : h0.size ≤ b361 := Nat.le_of_eq g361.symm
    have q361 : n0 ≤ b361 := Nat.le_trans Z0 lo361
    have hi361 : b361 < h361.size := A361.lt
    have F361_35 : Fld Z h361 b361 "java/lang/String" "coder" "B" (.int (0 : Int32)) := D361 (Or.inr (w_35 hw)) (ty := .byte) (by decide)
    have F361_37 : Fld Z h361 b361 "java/lang/String" "value" "[B" .null := D361 (Or.inr (w_37 hw)) (ty := (.array .byte)) (by decide)
    refine own_go (fun t k => XS.dup X361.here hx rfl (hb hby at_38) rfl rfl k) ?_
    refine own_go (fun t k => XS.iload X361.here hx rfl (hb hby at_39) rfl k) ?_
    refine own_go (fun t k => XS.iload X361.here hx rfl (hb hby at_41) rfl k) ?_
    refine own_go (fun t k => XS.iload X361.here hx rfl (hb hby at_43) rfl k) ?_
    refine own_go (fun t k => XS.iload X361.here hx rfl (hb hby at_45) rfl k) ?_
    refine own_go (fun t k => XS.iload X361.here hx rfl (hb hby at_47) rfl k) ?_
    show own_Go _ _ _ _ (T361.setTop (mkF m 49 #[.val (.int iv), .val (.int p1_), .val (.int p2_), .val (.int p3_), .val (.int p4_), .val (.int (3 : Int32)), .val (.int c1_), .val (.int c2_), .val (.int c3_), .val (.int c4_), .unset, .unset, .unset] [(.int c4_), (.int c3_), (.int c2_), (.int c1_), (.int (3 : Int32)), (.ref b361), (.ref b361)]))
    obtain ⟨_, _, ⟨T362, L362, k362, n362⟩, -, X362, ⟨Lc362, hQ362, l362, y362, z362⟩, st362⟩ := Jvm.LawKit.callS X361 hx (y := (⟨"com/example/grantfold/grantfold/model/ConfigurationParentPinLaw", "chars", "(ICCCC)[C"⟩ : MethodName)) hown (mvT hZ (w_8 hw)) (mvT hZ (w_9 hw)) (mvT hZ (w_3 hw)) (mvT hZ (w_10 hw)) (by decide) (backOf (W := 2) (rm_chs_3 l Z a0 hw [] c1_ c2_ c3_ c4_ h361 n0 Z361 B1 B2 B3 B4) hZ (w_10 hw) (w_3 hw) (by decide) (by decide)) (g := (mkF m 49 #[.val (.int iv), .val (.int p1_), .val (.int p2_), .val (.int p3_), .val (.int p4_), .val (.int (3 : Int32)), .val (.int c1_), .val (.int c2_), .val (.int c3_), .val (.int c4_), .unset, .unset, .unset] [(.int c4_), (.int c3_), (.int c2_), (.int c1_), (.int (3 : Int32)), (.ref b361), (.ref b361)])) rfl (by rw [hml]; rfl) (argsL := [(.int (3 : Int32)), (.int c1_), (.int c2_), (.int c3_), (.int c4_)]) (rest := [(.ref b361), (.ref b361)]) (lenOf pd_15 rfl) rfl (by show 2 * 0 + _ ≤ _; exact Nat.le_of_eq rfl) (hb hby at_49) (fun _ _ => ⟨rfl, e361, (by decide : 1 + 1 ≤ _), (by decide : 4 + 3 ≤ _)⟩)
    dsimp only [Pt.U, Pt.locs, Pt.cells, Pt.slots] at X362 l362 y362 z362 st362 hQ362
    subst l362 y362 z362
    generalize e362 : T362.heap = h362 at hQ362
    obtain ⟨uc362, kc362, rfl, N362q, K362q, lo362, q362, A362⟩ := hQ362
    have N362 := Fr.app N348 N362q
    refine own_go st362 ?_
    have C362 := C361.trans (CHr.keep K362q all0 C361.1)
    have Z362 : n0 ≤ h362.size := (Nat.le_trans Z361 K362q.1)
    have hi362 := A362.lt
    obtain ⟨_, _, ⟨T363, L363, k363, n363⟩, -, X363, ⟨Lc363, hQ363, l363, y363, z363⟩, st363⟩ := X362.specialBack hx (y := (⟨"java/lang/String", "<init>", "([C)V"⟩ : MethodName)) rfl hown (mvT hZ (w_12 hw)) (mvT hZ (w_13 hw)) (mvT hZ (w_14 hw)) (by decide) (StrChars.Road.backV (W := 1) hZ (own_wnew hw) (kI := 4) (w_6 hw) (cs := ([(47 : Int32), c1_, c2_] : List Int32)) (bs := (([(47 : Int32), c1_, c2_] : List Int32)).map (fun c => c.toInt8.toInt32)) (n := 3) q361 Z362 (A361.keep K362q) (F361_37.keep K362q nin0) (F361_35.keep K362q nin0) A362 (S0.ext ((O0.ext E361).keep K362q all0).2) hzv rfl rfl (by decide) (by decide) (List.forall_mem_cons.mpr ⟨(by constructor <;> decide : own_B (47 : Int32)), (List.forall_mem_cons.mpr ⟨B1, (List.forall_mem_cons.mpr ⟨B2, (List.forall_mem_nil _)⟩)⟩)⟩) rfl (by decide) (by decide)) (g := (mkF m 52 #[.val (.int iv), .val (.int p1_), .val (.int p2_), .val (.int p3_), .val (.int p4_), .val (.int (3 : Int32)), .val (.int c1_), .val (.int c2_), .val (.int c3_), .val (.int c4_), .unset, .unset, .unset] [(.ref uc362), (.ref b361), (.ref b361)])) rfl (by rw [hml]; rfl) (Steps.refl _) (a := b361) (argsL := [(.ref uc362)]) (rest := [(.ref b361)]) (lenOf pd_16 rfl) rfl (by show 2 * 0 + _ ≤ _; exact Nat.le_of_eq rfl) (hb hby at_52) (fun _ _ => ⟨rfl, e362, (by decide : 2 + 1 ≤ _), (by decide : 7 + 3 ≤ _)⟩)
    dsimp only [Pt.U, Pt.locs, Pt.cells, Pt.slots] at X363 l363 y363 z363 st363 hQ363
    subst l363 y363 z363
    generalize e363 : T363.heap = h363 at hQ363
    obtain ⟨rfl, N363q, K363q, Ea363, Ec363, t363, kb363, q363, lo363, nt363, Ev363, Ek363⟩ := hQ363
    have N363 := Fr.app N362 N363q
    refine own_go (fun t k => st363.trans k) ?_
    have C363 := C362.trans (CHr.keep K363q (allS (Safe.keep K362q all0 C361.1 (Safe.ext E361 C0.1 Sf361)) all0) C362.1)
    have Z363 : n0 ≤ h363.size := (Nat.le_trans Z362 K363q.1)
    have hi363 := Ek363.lt
    replace Ek363 : Arv Z h363 t363 kb363 .byte (3 : Int32) [(.int (47 : Int32)), (.int (c1_.toInt8.toInt32)), (.int (c2_.toInt8.toInt32))] (.int (0 : Int32)) := Ek363
    refine own_go (fun t k => XS.astore X363.here hx rfl (hb hby at_55) rfl rfl (l' := #[.val (.int iv), .val (.int p1_), .val (.int p2_), .val (.int p3_), .val (.int p4_), .val (.int (3 : Int32)), .val (.int c1_), .val (.int c2_), .val (.int c3_), .val (.int c4_), .val (.ref b361), .unset, .unset]) rfl k) ?_
    refine own_go (fun t k => XS.aload X363.here hx rfl (hb hby at_57) rfl rfl k) ?_
    have f364 := (((O0.ext E361).keep K362q all0).keep K363q (allS q361 all0))
    obtain ⟨_, _, ⟨T365, L365, k365, n365⟩, -, X365, hS365, hg365, ⟨Lc365, hQ365, l365, y365, z365, R365⟩, st365⟩ := callSS X363 hx (y := (⟨"com/example/grantfold/grantfold/model/Configuration", "parent", "(Ljava/lang/String;)Ljava/lang/String;"⟩ : MethodName)) hown (mvT hZ (w_38 hw)) (mvT hZ (w_39 hw)) (mvT hZ (w_40 hw)) (mvT hZ (w_41 hw)) (by decide) (backOfSH (W := 0) (rm_par_3 l Z a0 hw [] b361 t363 kb363 c1_ c2_ c3_ c4_ zv gv h363 n0 Z363 Ea363 Ec363 Ev363 Ek363 B1 B2 B3 B4 f364 hzv S0 rgv G0) hZ (w_41 hw) (w_40 hw) (by decide) (by decide) (own_EW hw) C363.1) (g := (mkF m 59 #[.val (.int iv), .val (.int p1_), .val (.int p2_), .val (.int p3_), .val (.int p4_), .val (.int (3 : Int32)), .val (.int c1_), .val (.int c2_), .val (.int c3_), .val (.int c4_), .val (.ref b361), .unset, .unset] [(.ref b361)])) rfl (by rw [hml]; rfl) (argsL := [(.ref b361)]) (rest := []) (lenOf pd_17 rfl) rfl (by show 2 * 0 + _ ≤ _; exact Nat.le_of_eq rfl) (hb hby at_59) (fun _ _ => ⟨rfl, e363, (by decide : 3 + 4 ≤ _), (by decide : 10 + 16 ≤ _)⟩)
    dsimp only [Pt.U, Pt.locs, Pt.cells, Pt.slots] at X365 l365 y365 z365 st365 hQ365 hS365 hg365 R365
    replace hS := foldS hS (Nat.le_trans (Nat.le_trans hk (Nat.le_trans (Nat.le_trans E361.1 K362q.1) K363q.1)) (Nat.le_of_eq (congrArg Array.size e363.symm))) hS365 hg365
    have hZ := State.Warmed39.trans hZ hS365.1
    have hown : T365.vm.findClass "com/example/grantfold/grantfold/model/ConfigurationParentPinLaw" = some m.cls := by rw [hS365.1.alike.findClass]; exact hown
    replace X365 : Stand p l e room_1 (s.setVm T365.vm) m #[(.int iv), (.int p1_), (.int p2_), (.int p3_), (.int p4_)] below meth c T365 _ _ _ := X365
    subst l365 y365 z365
    generalize e365 : T365.heap = h365 at hQ365 R365
    obtain ⟨ux365, uy365, ky365, rfl, N365q, K365q, E365, Cd365, V365, A365⟩ := hQ365
    have hk : T365.heap.size ≤ h365.size := Nat.le_of_eq (by rw [e365])
    have N365 := Fr.app N363 N365q
    refine own_go (fun t k => st365.trans k) ?_
    have C365 := C363.trans R365
    have Z365 : n0 ≤ h365.size := (Nat.le_trans Z363 K365q.1)
    have hi365 := E365.lt
    rcases A365 with ⟨s1, s2, A365⟩ | ⟨s1, s2, A365⟩ | ⟨s2, A365⟩
    · have hy365 := A365.lt
      refine own_go (fun t k => XS.astore X365.here hx rfl (hb hby at_62) rfl rfl (l' := #[.val (.int iv), .val (.int p1_), .val (.int p2_), .val (.int p3_), .val (.int p4_), .val (.int (3 : Int32)), .val (.int c1_), .val (.int c2_), .val (.int c3_), .val (.int c4_), .val (.ref b361), .val (.ref ux365), .unset]) rfl k) ?_
      refine own_go (fun t k => XS.iload X365.here hx rfl (hb hby at_64) rfl k) ?_
      show own_Go _ _ _ _ (T365.setTop (mkF m 66 #[.val (.int iv), .val (.int p1_), .val (.int p2_), .val (.int p3_), .val (.int p4_), .val (.int (3 : Int32)), .val (.int c1_), .val (.int c2_), .val (.int c3_), .val (.int c4_), .val (.ref b361), .val (.ref ux365), .unset] [(.int (3 : Int32))]))
      refine own_go (fun t k => XS.iconst X365.here hx rfl (hb hby at_66) k) ?_
      show own_Go _ _ _ _ (T365.setTop (mkF m 67 #[.val (.int iv), .val (.int p1_), .val (.int p2_), .val (.int p3_), .val (.int p4_), .val (.int (3 : Int32)), .val (.int c1_), .val (.int c2_), .val (.int c3_), .val (.int c4_), .val (.ref b361), .val (.ref ux365), .unset] [(.int (1 : Int32)), (.int (3 : Int32))]))
      refine own_go (fun t k => XS.icmpYes X365.here hx rfl (pc0 := 67) (pc' := 81) rfl (hb hby at_67) rfl (feq (by decide : ¬ ((3 : Int32) = (1 : Int32)))).2 (by decide) (by decide) k) ?_
      refine own_go (fun t k => XS.iload X365.here hx rfl (hb hby at_81) rfl k) ?_
      refine own_go (fun t k => XS.iload X365.here hx rfl (hb hby at_83) rfl k) ?_
      refine own_go (fun t k => XS.iload X365.here hx rfl (hb hby at_85) rfl k) ?_
      refine own_go (fun t k => XS.iload X365.here hx rfl (hb hby at_87) rfl k) ?_
      refine own_go (fun t k => XS.iload X365.here hx rfl (hb hby at_89) rfl k) ?_
      obtain ⟨_, _, ⟨T366, L366, k366, n366⟩, -, X366, ⟨Lc366, hQ366, l366, y366, z366⟩, st366⟩ := Jvm.LawKit.callS X365 hx (y := (⟨"com/example/grantfold/grantfold/model/ConfigurationParentPinLaw", "lastSlash", "(ICCCC)I"⟩ : MethodName)) hown (mvT hZ (w_90 hw)) (mvT hZ (w_91 hw)) (mvT hZ (w_3 hw)) (mvT hZ (w_92 hw)) (by decide) (backOf (W := 0) (rm_ls_3 l Z a0 hw [] c1_ c2_ c3_ c4_ h365 n0 Z365 ) hZ (w_92 hw) (w_3 hw) (by decide) (by decide)) (g := (mkF m 91 #[.val (.int iv), .val (.int p1_), .val (.int p2_), .val (.int p3_), .val (.int p4_), .val (.int (3 : Int32)), .val (.int c1_), .val (.int c2_), .val (.int c3_), .val (.int c4_), .val (.ref b361), .val (.ref ux365), .unset] [(.int c4_), (.int c3_), (.int c2_), (.int c1_), (.int (3 : Int32))])) rfl (by rw [hml]; rfl) (argsL := [(.int (3 : Int32)), (.int c1_), (.int c2_), (.int c3_), (.int c4_)]) (rest := []) (lenOf pd_18 rfl) rfl (by show 2 * 0 + _ ≤ _; exact Nat.le_of_eq rfl) (hb hby at_91) (fun _ _ => ⟨rfl, e365, (by decide : 7 + 0 ≤ _), (by decide : 26 + 0 ≤ _)⟩)
      dsimp only [Pt.U, Pt.locs, Pt.cells, Pt.slots] at X366 l366 y366 z366 st366 hQ366
      subst l366 y366 z366
      obtain ⟨rfl, N366q, e366⟩ := hQ366
      have N366 := Fr.app N365 N366q
      rw [(by simp [own_last3, s1, s2] : own_last3 c1_ c2_ c3_ c4_ = 0)] at st366
      refine own_go st366 ?_
      show own_Go _ _ _ _ (T366.setTop (mkF m 94 #[.val (.int iv), .val (.int p1_), .val (.int p2_), .val (.int p3_), .val (.int p4_), .val (.int (3 : Int32)), .val (.int c1_), .val (.int c2_), .val (.int c3_), .val (.int c4_), .val (.ref b361), .val (.ref ux365), .unset] [(.int (0 : Int32))]))
      refine own_go (fun t k => XS.istore X366.here hx rfl (hb hby at_94) rfl (l' := #[.val (.int iv), .val (.int p1_), .val (.int p2_), .val (.int p3_), .val (.int p4_), .val (.int (3 : Int32)), .val (.int c1_), .val (.int c2_), .val (.int c3_), .val (.int c4_), .val (.ref b361), .val (.ref ux365), .val (.int (0 : Int32))]) rfl k) ?_
      show own_Go _ _ _ _ (T366.setTop (mkF m 96 #[.val (.int iv), .val (.int p1_), .val (.int p2_), .val (.int p3_), .val (.int p4_), .val (.int (3 : Int32)), .val (.int c1_), .val (.int c2_), .val (.int c3_), .val (.int c4_), .val (.ref b361), .val (.ref ux365), .val (.int (0 : Int32))] []))
      exact sg_tl0 hw X366 hlk hret hx hby hml hown hZ hS hk hh C365 e366 N366 Z365 iv p1_ p2_ p3_ p4_ zv gv h0 ux365 uy365 ky365 c1_ c2_ c3_ c4_ (f364.keep K365q all0) hzv S0 rgv G0 E365 Cd365 V365 A365 B1 B2 B3 B4 (by decide) (by decide)
    · have hy365 := A365.lt
      refine own_go (fun t k => XS.astore X365.here hx rfl (hb hby at_62) rfl rfl (l' := #[.val (.int iv), .val (.int p1_), .val (.int p2_), .val (.int p3_), .val (.int p4_), .val (.int (3 : Int32)), .val (.int c1_), .val (.int c2_), .val (.int c3_), .val (.int c4_), .val (.ref b361), .val (.ref ux365), .unset]) rfl k) ?_
      refine own_go (fun t k => XS.iload X365.here hx rfl (hb hby at_64) rfl k) ?_
      show own_Go _ _ _ _ (T365.setTop (mkF m 66 #[.val (.int iv), .val (.int p1_), .val (.int p2_), .val (.int p3_), .val (.int p4_), .val (.int (3 : Int32)), .val (.int c1_), .val (.int c2_), .val (.int c3_), .val (.int c4_), .val (.ref b361), .val (.ref ux365), .unset] [(.int (3 : Int32))]))
      refine own_go (fun t k => XS.iconst X365.here hx rfl (hb hby at_66) k) ?_
      show own_Go _ _ _ _ (T365.setTop (mkF m 67 #[.val (.int iv), .val (.int p1_), .val (.int p2_), .val (.int p3_), .val (.int p4_), .val (.int (3 : Int32)), .val (.int c1_), .val (.int c2_), .val (.int c3_), .val (.int c4_), .val (.ref b361), .val (.ref ux365), .unset] [(.int (1 : Int32)), (.int (3 : Int32))]))
      refine own_go (fun t k => XS.icmpYes X365.here hx rfl (pc0 := 67) (pc' := 81) rfl (hb hby at_67) rfl (feq (by decide : ¬ ((3 : Int32) = (1 : Int32)))).2 (by decide) (by decide) k) ?_
      refine own_go (fun t k => XS.iload X365.here hx rfl (hb hby at_81) rfl k) ?_
      refine own_go (fun t k => XS.iload X365.here hx rfl (hb hby at_83) rfl k) ?_
      refine own_go (fun t k => XS.iload X365.here hx rfl (hb hby at_85) rfl k) ?_
      refine own_go (fun t k => XS.iload X365.here hx rfl (hb hby at_87) rfl k) ?_
      refine own_go (fun t k => XS.iload X365.here hx rfl (hb hby at_89) rfl k) ?_
      obtain ⟨_, _, ⟨T367, L367, k367, n367⟩, -, X367, ⟨Lc367, hQ367, l367, y367, z367⟩, st367⟩ := Jvm.LawKit.callS X365 hx (y := (⟨"com/example/grantfold/grantfold/model/ConfigurationParentPinLaw", "lastSlash", "(ICCCC)I"⟩ : MethodName)) hown (mvT hZ (w_90 hw)) (mvT hZ (w_91 hw)) (mvT hZ (w_3 hw)) (mvT hZ (w_92 hw)) (by decide) (backOf (W := 0) (rm_ls_3 l Z a0 hw [] c1_ c2_ c3_ c4_ h365 n0 Z365 ) hZ (w_92 hw) (w_3 hw) (by decide) (by decide)) (g := (mkF m 91 #[.val (.int iv), .val (.int p1_), .val (.int p2_), .val (.int p3_), .val (.int p4_), .val (.int (3 : Int32)), .val (.int c1_), .val (.int c2_), .val (.int c3_), .val (.int c4_), .val (.ref b361), .val (.ref ux365), .unset] [(.int c4_), (.int c3_), (.int c2_), (.int c1_), (.int (3 : Int32))])) rfl (by rw [hml]; rfl) (argsL := [(.int (3 : Int32)), (.int c1_), (.int c2_), (.int c3_), (.int c4_)]) (rest := []) (lenOf pd_18 rfl) rfl (by show 2 * 0 + _ ≤ _; exact Nat.le_of_eq rfl) (hb hby at_91) (fun _ _ => ⟨rfl, e365, (by decide : 7 + 0 ≤ _), (by decide : 26 + 0 ≤ _)⟩)
      dsimp only [Pt.U, Pt.locs, Pt.cells, Pt.slots] at X367 l367 y367 z367 st367 hQ367
      subst l367 y367 z367
      obtain ⟨rfl, N367q, e367⟩ := hQ367
      have N367 := Fr.app N365 N367q
      rw [(by simp [own_last3, s1, s2] : own_last3 c1_ c2_ c3_ c4_ = 1)] at st367
      refine own_go st367 ?_
      show own_Go _ _ _ _ (T367.setTop (mkF m 94 #[.val (.int iv), .val (.int p1_), .val (.int p2_), .val (.int p3_), .val (.int p4_), .val (.int (3 : Int32)), .val (.int c1_), .val (.int c2_), .val (.int c3_), .val (.int c4_), .val (.ref b361), .val (.ref ux365), .unset] [(.int (1 : Int32))]))
      refine own_go (fun t k => XS.istore X367.here hx rfl (hb hby at_94) rfl (l' := #[.val (.int iv), .val (.int p1_), .val (.int p2_), .val (.int p3_), .val (.int p4_), .val (.int (3 : Int32)), .val (.int c1_), .val (.int c2_), .val (.int c3_), .val (.int c4_), .val (.ref b361), .val (.ref ux365), .val (.int (1 : Int32))]) rfl k) ?_
      show own_Go _ _ _ _ (T367.setTop (mkF m 96 #[.val (.int iv), .val (.int p1_), .val (.int p2_), .val (.int p3_), .val (.int p4_), .val (.int (3 : Int32)), .val (.int c1_), .val (.int c2_), .val (.int c3_), .val (.int c4_), .val (.ref b361), .val (.ref ux365), .val (.int (1 : Int32))] []))
      exact sg_tl1 hw X367 hlk hret hx hby hml hown hZ hS hk hh C365 e367 N367 Z365 iv p1_ p2_ p3_ p4_ zv gv h0 ux365 uy365 ky365 c1_ c2_ c3_ c4_ (f364.keep K365q all0) hzv S0 rgv G0 E365 Cd365 V365 A365 B1 B2 B3 B4 (by decide) (by decide)
    · have hy365 := A365.lt
      refine own_go (fun t k => XS.astore X365.here hx rfl (hb hby at_62) rfl rfl (l' := #[.val (.int iv), .val (.int p1_), .val (.int p2_), .val (.int p3_), .val (.int p4_), .val (.int (3 : Int32)), .val (.int c1_), .val (.int c2_), .val (.int c3_), .val (.int c4_), .val (.ref b361), .val (.ref ux365), .unset]) rfl k) ?_
      refine own_go (fun t k => XS.iload X365.here hx rfl (hb hby at_64) rfl k) ?_
      show own_Go _ _ _ _ (T365.setTop (mkF m 66 #[.val (.int iv), .val (.int p1_), .val (.int p2_), .val (.int p3_), .val (.int p4_), .val (.int (3 : Int32)), .val (.int c1_), .val (.int c2_), .val (.int c3_), .val (.int c4_), .val (.ref b361), .val (.ref ux365), .unset] [(.int (3 : Int32))]))
      refine own_go (fun t k => XS.iconst X365.here hx rfl (hb hby at_66) k) ?_
      show own_Go _ _ _ _ (T365.setTop (mkF m 67 #[.val (.int iv), .val (.int p1_), .val (.int p2_), .val (.int p3_), .val (.int p4_), .val (.int (3 : Int32)), .val (.int c1_), .val (.int c2_), .val (.int c3_), .val (.int c4_), .val (.ref b361), .val (.ref ux365), .unset] [(.int (1 : Int32)), (.int (3 : Int32))]))
      refine own_go (fun t k => XS.icmpYes X365.here hx rfl (pc0 := 67) (pc' := 81) rfl (hb hby at_67) rfl (feq (by decide : ¬ ((3 : Int32) = (1 : Int32)))).2 (by decide) (by decide) k) ?_
      refine own_go (fun t k => XS.iload X365.here hx rfl (hb hby at_81) rfl k) ?_
      refine own_go (fun t k => XS.iload X365.here hx rfl (hb hby at_83) rfl k) ?_
      refine own_go (fun t k => XS.iload X365.here hx rfl (hb hby at_85) rfl k) ?_
      refine own_go (fun t k => XS.iload X365.here hx rfl (hb hby at_87) rfl k) ?_
      refine own_go (fun t k => XS.iload X365.here hx rfl (hb hby at_89) rfl k) ?_
      obtain ⟨_, _, ⟨T368, L368, k368, n368⟩, -, X368, ⟨Lc368, hQ368, l368, y368, z368⟩, st368⟩ := Jvm.LawKit.callS X365 hx (y := (⟨"com/example/grantfold/grantfold/model/ConfigurationParentPinLaw", "lastSlash", "(ICCCC)I"⟩ : MethodName)) hown (mvT hZ (w_90 hw)) (mvT hZ (w_91 hw)) (mvT hZ (w_3 hw)) (mvT hZ (w_92 hw)) (by decide) (backOf (W := 0) (rm_ls_3 l Z a0 hw [] c1_ c2_ c3_ c4_ h365 n0 Z365 ) hZ (w_92 hw) (w_3 hw) (by decide) (by decide)) (g := (mkF m 91 #[.val (.int iv), .val (.int p1_), .val (.int p2_), .val (.int p3_), .val (.int p4_), .val (.int (3 : Int32)), .val (.int c1_), .val (.int c2_), .val (.int c3_), .val (.int c4_), .val (.ref b361), .val (.ref ux365), .unset] [(.int c4_), (.int c3_), (.int c2_), (.int c1_), (.int (3 : Int32))])) rfl (by rw [hml]; rfl) (argsL := [(.int (3 : Int32)), (.int c1_), (.int c2_), (.int c3_), (.int c4_)]) (rest := []) (lenOf pd_18 rfl) rfl (by show 2 * 0 + _ ≤ _; exact Nat.le_of_eq rfl) (hb hby at_91) (fun _ _ => ⟨rfl, e365, (by decide : 7 + 0 ≤ _), (by decide : 26 + 0 ≤ _)⟩)
      dsimp only [Pt.U, Pt.locs, Pt.cells, Pt.slots] at X368 l368 y368 z368 st368 hQ368
      subst l368 y368 z368
      obtain ⟨rfl, N368q, e368⟩ := hQ368
      have N368 := Fr.app N365 N368q
      rw [(by simp [own_last3, s2] : own_last3 c1_ c2_ c3_ c4_ = 2)] at st368
      refine own_go st368 ?_
      show own_Go _ _ _ _ (T368.setTop (mkF m 94 #[.val (.int iv), .val (.int p1_), .val (.int p2_), .val (.int p3_), .val (.int p4_), .val (.int (3 : Int32)), .val (.int c1_), .val (.int c2_), .val (.int c3_), .val (.int c4_), .val (.ref b361), .val (.ref ux365), .unset] [(.int (2 : Int32))]))
      refine own_go (fun t k => XS.istore X368.here hx rfl (hb hby at_94) rfl (l' := #[.val (.int iv), .val (.int p1_), .val (.int p2_), .val (.int p3_), .val (.int p4_), .val (.int (3 : Int32)), .val (.int c1_), .val (.int c2_), .val (.int c3_), .val (.int c4_), .val (.ref b361), .val (.ref ux365), .val (.int (2 : Int32))]) rfl k) ?_
      show own_Go _ _ _ _ (T368.setTop (mkF m 96 #[.val (.int iv), .val (.int p1_), .val (.int p2_), .val (.int p3_), .val (.int p4_), .val (.int (3 : Int32)), .val (.int c1_), .val (.int c2_), .val (.int c3_), .val (.int c4_), .val (.ref b361), .val (.ref ux365), .val (.int (2 : Int32))] []))
      exact sg_tl2 hw X368 hlk hret hx hby hml hown hZ hS hk hh C365 e368 N368 Z365 iv p1_ p2_ p3_ p4_ zv gv h0 ux365 uy365 ky365 c1_ c2_ c3_ c4_ (f364.keep K365q all0) hzv S0 rgv G0 E365 Cd365 V365 A365 B1 B2 B3 B4 (by decide) (by decide)
  · show own_Go _ _ _ _ (T348.setTop (mkF m 35 #[.val (.int iv), .val (.int p1_), .val (.int p2_), .val (.int p3_), .val (.int p4_), .val (.int (4 : Int32)), .val (.int c1_), .val (.int c2_), .val (.int c3_), .val (.int c4_), .unset, .unset, .unset] []))
    obtain ⟨T369, h369, X369, e369, E369, A369, D369, -, st369⟩ := newO X348 hx hZ hown (w_5 hw) (w_6 hw) (w_7 hw) e348 (g := (mkF m 35 #[.val (.int iv), .val (.int p1_), .val (.int p2_), .val (.int p3_), .val (.int p4_), .val (.int (4 : Int32)), .val (.int c1_), .val (.int c2_), .val (.int c3_), .val (.int c4_), .unset, .unset, .unset] [])) rfl (hb hby at_35) (by decide) (by decide)
    obtain ⟨b369, g369⟩ : ∃ z, z = h0.size := ⟨_, rfl⟩
    rw [← g369] at A369 D369 st369
    refine own_go st369 ?_
    have Sf369 : Safe Z consts_1 s.vm h0 b369 := Safe.new (Nat.le_of_eq g369.symm)
    have Z369 : n0 ≤ h369.size := (Nat.le_trans Z0 E369.1)
    have C369 := C0.trans (CHr.ext E369 C0.1)
    have lo369 : h0.size ≤ b369 := Nat.le_of_eq g369.symm
    have q369 : n0 ≤ b369 := Nat.le_trans Z0 lo369
    have hi369 : b369 < h369.size := A369.lt
    have F369_35 : Fld Z h369 b369 "java/lang/String" "coder" "B" (.int (0 : Int32)) := D369 (Or.inr (w_35 hw)) (ty := .byte) (by decide)
    have F369_37 : Fld Z h369 b369 "java/lang/String" "value" "[B" .null := D369 (Or.inr (w_37 hw)) (ty := (.array .byte)) (by decide)
    refine own_go (fun t k => XS.dup X369.here hx rfl (hb hby at_38) rfl rfl k) ?_
    refine own_go (fun t k => XS.iload X369.here hx rfl (hb hby at_39) rfl k) ?_
    refine own_go (fun t k => XS.iload X369.here hx rfl (hb hby at_41) rfl k) ?_
    refine own_go (fun t k => XS.iload X369.here hx rfl (hb hby at_43) rfl k) ?_
    refine own_go (fun t k => XS.iload X369.here hx rfl (hb hby at_45) rfl k) ?_
    refine own_go (fun t k => XS.iload X369.here hx rfl (hb hby at_47) rfl k) ?_
    show own_Go _ _ _ _ (T369.setTop (mkF m 49 #[.val (.int iv), .val (.int p1_), .val (.int p2_), .val (.int p3_), .val (.int p4_), .val (.int (4 : Int32)), .val (.int c1_), .val (.int c2_), .val (.int c3_), .val (.int c4_), .unset, .unset, .unset] [(.int c4_), (.int c3_), (.int c2_), (.int c1_), (.int (4 : Int32)), (.ref b369), (.ref b369)]))
    obtain ⟨_, _, ⟨T370, L370, k370, n370⟩, -, X370, ⟨Lc370, hQ370, l370, y370, z370⟩, st370⟩ := Jvm.LawKit.callS X369 hx (y := (⟨"com/example/grantfold/grantfold/model/ConfigurationParentPinLaw", "chars", "(ICCCC)[C"⟩ : MethodName)) hown (mvT hZ (w_8 hw)) (mvT hZ (w_9 hw)) (mvT hZ (w_3 hw)) (mvT hZ (w_10 hw)) (by decide) (backOf (W := 2) (rm_chs_4 l Z a0 hw [] c1_ c2_ c3_ c4_ h369 n0 Z369 B1 B2 B3 B4) hZ (w_10 hw) (w_3 hw) (by decide) (by decide)) (g := (mkF m 49 #[.val (.int iv), .val (.int p1_), .val (.int p2_), .val (.int p3_), .val (.int p4_), .val (.int (4 : Int32)), .val (.int c1_), .val (.int c2_), .val (.int c3_), .val (.int c4_), .unset, .unset, .unset] [(.int c4_), (.int c3_), (.int c2_), (.int c1_), (.int (4 : Int32)), (.ref b369), (.ref b369)])) rfl (by rw [hml]; rfl) (argsL := [(.int (4 : Int32)), (.int c1_), (.int c2_), (.int c3_), (.int c4_)]) (rest := [(.ref b369), (.ref b369)]) (lenOf pd_15 rfl) rfl (by show 2 * 0 + _ ≤ _; exact Nat.le_of_eq rfl) (hb hby at_49) (fun _ _ => ⟨rfl, e369, (by decide : 1 + 1 ≤ _), (by decide : 4 + 4 ≤ _)⟩)
    dsimp only [Pt.U, Pt.locs, Pt.cells, Pt.slots] at X370 l370 y370 z370 st370 hQ370
    subst l370 y370 z370
    generalize e370 : T370.heap = h370 at hQ370
    obtain ⟨uc370, kc370, rfl, N370q, K370q, lo370, q370, A370⟩ := hQ370
    have N370 := Fr.app N348 N370q
    refine own_go st370 ?_
    have C370 := C369.trans (CHr.keep K370q all0 C369.1)
    have Z370 : n0 ≤ h370.size := (Nat.le_trans Z369 K370q.1)
    have hi370 := A370.lt
    obtain ⟨_, _, ⟨T371, L371, k371, n371⟩, -, X371, ⟨Lc371, hQ371, l371, y371, z371⟩, st371⟩ := X370.specialBack hx (y := (⟨"java/lang/String", "<init>", "([C)V"⟩ : MethodName)) rfl hown (mvT hZ (w_12 hw)) (mvT hZ (w_13 hw)) (mvT hZ (w_14 hw)) (by decide) (StrChars.Road.backV (W := 1) hZ (own_wnew hw) (kI := 4) (w_6 hw) (cs := ([(47 : Int32), c1_, c2_, c3_] : List Int32)) (bs := (([(47 : Int32), c1_, c2_, c3_] : List Int32)).map (fun c => c.toInt8.toInt32)) (n := 4) q369 Z370 (A369.keep K370q) (F369_37.keep K370q nin0) (F369_35.keep K370q nin0) A370 (S0.ext ((O0.ext E369).keep K370q all0).2) hzv rfl rfl (by decide) (by decide) (List.forall_mem_cons.mpr ⟨(by constructor <;> decide : own_B (47 : Int32)), (List.forall_mem_cons.mpr ⟨B1, (List.forall_mem_cons.mpr ⟨B2, (List.forall_mem_cons.mpr ⟨B3, (List.forall_mem_nil _)⟩)⟩)⟩)⟩) rfl (by decide) (by decide)) (g := (mkF m 52 #[.val (.int iv), .val (.int p1_), .val (.int p2_), .val (.int p3_), .val (.int p4_), .val (.int (4 : Int32)), .val (.int c1_), .val (.int c2_), .val (.int c3_), .val (.int c4_), .unset, .unset, .unset] [(.ref uc370), (.ref b369), (.ref b369)])) rfl (by rw [hml]; rfl) (Steps.refl _) (a := b369) (argsL := [(.ref uc370)]) (rest := [(.ref b369)]) (lenOf pd_16 rfl) rfl (by show 2 * 0 + _ ≤ _; exact Nat.le_of_eq rfl) (hb hby at_52) (fun _ _ => ⟨rfl, e370, (by decide : 2 + 1 ≤ _), (by decide : 8 + 4 ≤ _)⟩)
    dsimp only [Pt.U, Pt.locs, Pt.cells, Pt.slots] at X371 l371 y371 z371 st371 hQ371
    subst l371 y371 z371
    generalize e371 : T371.heap = h371 at hQ371
    obtain ⟨rfl, N371q, K371q, Ea371, Ec371, t371, kb371, q371, lo371, nt371, Ev371, Ek371⟩ := hQ371
    have N371 := Fr.app N370 N371q
    refine own_go (fun t k => st371.trans k) ?_
    have C371 := C370.trans (CHr.keep K371q (allS (Safe.keep K370q all0 C369.1 (Safe.ext E369 C0.1 Sf369)) all0) C370.1)
    have Z371 : n0 ≤ h371.size := (Nat.le_trans Z370 K371q.1)
    have hi371 := Ek371.lt
    replace Ek371 : Arv Z h371 t371 kb371 .byte (4 : Int32) [(.int (47 : Int32)), (.int (c1_.toInt8.toInt32)), (.int (c2_.toInt8.toInt32)), (.int (c3_.toInt8.toInt32))] (.int (0 : Int32)) := Ek371
    refine own_go (fun t k => XS.astore X371.here hx rfl (hb hby at_55) rfl rfl (l' := #[.val (.int iv), .val (.int p1_), .val (.int p2_), .val (.int p3_), .val (.int p4_), .val (.int (4 : Int32)), .val (.int c1_), .val (.int c2_), .val (.int c3_), .val (.int c4_), .val (.ref b369), .unset, .unset]) rfl k) ?_
    refine own_go (fun t k => XS.aload X371.here hx rfl (hb hby at_57) rfl rfl k) ?_
    have f372 := (((O0.ext E369).keep K370q all0).keep K371q (allS q369 all0))
    obtain ⟨_, _, ⟨T373, L373, k373, n373⟩, -, X373, hS373, hg373, ⟨Lc373, hQ373, l373, y373, z373, R373⟩, st373⟩ := callSS X371 hx (y := (⟨"com/example/grantfold/grantfold/model/Configuration", "parent", "(Ljava/lang/String;)Ljava/lang/String;"⟩ : MethodName)) hown (mvT hZ (w_38 hw)) (mvT hZ (w_39 hw)) (mvT hZ (w_40 hw)) (mvT hZ (w_41 hw)) (by decide) (backOfSH (W := 0) (rm_par_4 l Z a0 hw [] b369 t371 kb371 c1_ c2_ c3_ c4_ zv gv h371 n0 Z371 Ea371 Ec371 Ev371 Ek371 B1 B2 B3 B4 f372 hzv S0 rgv G0) hZ (w_41 hw) (w_40 hw) (by decide) (by decide) (own_EW hw) C371.1) (g := (mkF m 59 #[.val (.int iv), .val (.int p1_), .val (.int p2_), .val (.int p3_), .val (.int p4_), .val (.int (4 : Int32)), .val (.int c1_), .val (.int c2_), .val (.int c3_), .val (.int c4_), .val (.ref b369), .unset, .unset] [(.ref b369)])) rfl (by rw [hml]; rfl) (argsL := [(.ref b369)]) (rest := []) (lenOf pd_17 rfl) rfl (by show 2 * 0 + _ ≤ _; exact Nat.le_of_eq rfl) (hb hby at_59) (fun _ _ => ⟨rfl, e371, (by decide : 3 + 4 ≤ _), (by decide : 12 + 16 ≤ _)⟩)
    dsimp only [Pt.U, Pt.locs, Pt.cells, Pt.slots] at X373 l373 y373 z373 st373 hQ373 hS373 hg373 R373
    replace hS := foldS hS (Nat.le_trans (Nat.le_trans hk (Nat.le_trans (Nat.le_trans E369.1 K370q.1) K371q.1)) (Nat.le_of_eq (congrArg Array.size e371.symm))) hS373 hg373
    have hZ := State.Warmed39.trans hZ hS373.1
    have hown : T373.vm.findClass "com/example/grantfold/grantfold/model/ConfigurationParentPinLaw" = some m.cls := by rw [hS373.1.alike.findClass]; exact hown
    replace X373 : Stand p l e room_1 (s.setVm T373.vm) m #[(.int iv), (.int p1_), (.int p2_), (.int p3_), (.int p4_)] below meth c T373 _ _ _ := X373
    subst l373 y373 z373
    generalize e373 : T373.heap = h373 at hQ373 R373
    obtain ⟨ux373, uy373, ky373, rfl, N373q, K373q, E373, Cd373, V373, A373⟩ := hQ373
    have hk : T373.heap.size ≤ h373.size := Nat.le_of_eq (by rw [e373])
    have N373 := Fr.app N371 N373q
    refine own_go (fun t k => st373.trans k) ?_
    have C373 := C371.trans R373
    have Z373 : n0 ≤ h373.size := (Nat.le_trans Z371 K373q.1)
    have hi373 := E373.lt
    rcases A373 with ⟨s1, s2, s3, A373⟩ | ⟨s1, s2, s3, A373⟩ | ⟨s2, s3, A373⟩ | ⟨s3, A373⟩
    · have hy373 := A373.lt
      refine own_go (fun t k => XS.astore X373.here hx rfl (hb hby at_62) rfl rfl (l' := #[.val (.int iv), .val (.int p1_), .val (.int p2_), .val (.int p3_), .val (.int p4_), .val (.int (4 : Int32)), .val (.int c1_), .val (.int c2_), .val (.int c3_), .val (.int c4_), .val (.ref b369), .val (.ref ux373), .unset]) rfl k) ?_
      refine own_go (fun t k => XS.iload X373.here hx rfl (hb hby at_64) rfl k) ?_
      show own_Go _ _ _ _ (T373.setTop (mkF m 66 #[.val (.int iv), .val (.int p1_), .val (.int p2_), .val (.int p3_), .val (.int p4_), .val (.int (4 : Int32)), .val (.int c1_), .val (.int c2_), .val (.int c3_), .val (.int c4_), .val (.ref b369), .val (.ref ux373), .unset] [(.int (4 : Int32))]))
      refine own_go (fun t k => XS.iconst X373.here hx rfl (hb hby at_66) k) ?_
      show own_Go _ _ _ _ (T373.setTop (mkF m 67 #[.val (.int iv), .val (.int p1_), .val (.int p2_), .val (.int p3_), .val (.int p4_), .val (.int (4 : Int32)), .val (.int c1_), .val (.int c2_), .val (.int c3_), .val (.int c4_), .val (.ref b369), .val (.ref ux373), .unset] [(.int (1 : Int32)), (.int (4 : Int32))]))
      refine own_go (fun t k => XS.icmpYes X373.here hx rfl (pc0 := 67) (pc' := 81) rfl (hb hby at_67) rfl (feq (by decide : ¬ ((4 : Int32) = (1 : Int32)))).2 (by decide) (by decide) k) ?_
      refine own_go (fun t k => XS.iload X373.here hx rfl (hb hby at_81) rfl k) ?_
      refine own_go (fun t k => XS.iload X373.here hx rfl (hb hby at_83) rfl k) ?_
      refine own_go (fun t k => XS.iload X373.here hx rfl (hb hby at_85) rfl k) ?_
      refine own_go (fun t k => XS.iload X373.here hx rfl (hb hby at_87) rfl k) ?_
      refine own_go (fun t k => XS.iload X373.here hx rfl (hb hby at_89) rfl k) ?_
      obtain ⟨_, _, ⟨T374, L374, k374, n374⟩, -, X374, ⟨Lc374, hQ374, l374, y374, z374⟩, st374⟩ := Jvm.LawKit.callS X373 hx (y := (⟨"com/example/grantfold/grantfold/model/ConfigurationParentPinLaw", "lastSlash", "(ICCCC)I"⟩ : MethodName)) hown (mvT hZ (w_90 hw)) (mvT hZ (w_91 hw)) (mvT hZ (w_3 hw)) (mvT hZ (w_92 hw)) (by decide) (backOf (W := 0) (rm_ls_4 l Z a0 hw [] c1_ c2_ c3_ c4_ h373 n0 Z373 ) hZ (w_92 hw) (w_3 hw) (by decide) (by decide)) (g := (mkF m 91 #[.val (.int iv), .val (.int p1_), .val (.int p2_), .val (.int p3_), .val (.int p4_), .val (.int (4 : Int32)), .val (.int c1_), .val (.int c2_), .val (.int c3_), .val (.int c4_), .val (.ref b369), .val (.ref ux373), .unset] [(.int c4_), (.int c3_), (.int c2_), (.int c1_), (.int (4 : Int32))])) rfl (by rw [hml]; rfl) (argsL := [(.int (4 : Int32)), (.int c1_), (.int c2_), (.int c3_), (.int c4_)]) (rest := []) (lenOf pd_18 rfl) rfl (by show 2 * 0 + _ ≤ _; exact Nat.le_of_eq rfl) (hb hby at_91) (fun _ _ => ⟨rfl, e373, (by decide : 7 + 0 ≤ _), (by decide : 28 + 0 ≤ _)⟩)
      dsimp only [Pt.U, Pt.locs, Pt.cells, Pt.slots] at X374 l374 y374 z374 st374 hQ374
      subst l374 y374 z374
      obtain ⟨rfl, N374q, e374⟩ := hQ374
      have N374 := Fr.app N373 N374q
      rw [(by simp [own_last4, s1, s2, s3] : own_last4 c1_ c2_ c3_ c4_ = 0)] at st374
      refine own_go st374 ?_
      show own_Go _ _ _ _ (T374.setTop (mkF m 94 #[.val (.int iv), .val (.int p1_), .val (.int p2_), .val (.int p3_), .val (.int p4_), .val (.int (4 : Int32)), .val (.int c1_), .val (.int c2_), .val (.int c3_), .val (.int c4_), .val (.ref b369), .val (.ref ux373), .unset] [(.int (0 : Int32))]))
      refine own_go (fun t k => XS.istore X374.here hx rfl (hb hby at_94) rfl (l' := #[.val (.int iv), .val (.int p1_), .val (.int p2_), .val (.int p3_), .val (.int p4_), .val (.int (4 : Int32)), .val (.int c1_), .val (.int c2_), .val (.int c3_), .val (.int c4_), .val (.ref b369), .val (.ref ux373), .val (.int (0 : Int32))]) rfl k) ?_
      show own_Go _ _ _ _ (T374.setTop (mkF m 96 #[.val (.int iv), .val (.int p1_), .val (.int p2_), .val (.int p3_), .val (.int p4_), .val (.int (4 : Int32)), .val (.int c1_), .val (.int c2_), .val (.int c3_), .val (.int c4_), .val (.ref b369), .val (.ref ux373), .val (.int (0 : Int32))] []))
      exact sg_tl0 hw X374 hlk hret hx hby hml hown hZ hS hk hh C373 e374 N374 Z373 iv p1_ p2_ p3_ p4_ zv gv h0 ux373 uy373 ky373 c1_ c2_ c3_ c4_ (f372.keep K373q all0) hzv S0 rgv G0 E373 Cd373 V373 A373 B1 B2 B3 B4 (by decide) (by decide)
    · have hy373 := A373.lt
      refine own_go (fun t k => XS.astore X373.here hx rfl (hb hby at_62) rfl rfl (l' := #[.val (.int iv), .val (.int p1_), .val (.int p2_), .val (.int p3_), .val (.int p4_), .val (.int (4 : Int32)), .val (.int c1_), .val (.int c2_), .val (.int c3_), .val (.int c4_), .val (.ref b369), .val (.ref ux373), .unset]) rfl k) ?_
      refine own_go (fun t k => XS.iload X373.here hx rfl (hb hby at_64) rfl k) ?_
      show own_Go _ _ _ _ (T373.setTop (mkF m 66 #[.val (.int iv), .val (.int p1_), .val (.int p2_), .val (.int p3_), .val (.int p4_), .val (.int (4 : Int32)), .val (.int c1_), .val (.int c2_), .val (.int c3_), .val (.int c4_), .val (.ref b369), .val (.ref ux373), .unset] [(.int (4 : Int32))]))
      refine own_go (fun t k => XS.iconst X373.here hx rfl (hb hby at_66) k) ?_
      show own_Go _ _ _ _ (T373.setTop (mkF m 67 #[.val (.int iv), .val (.int p1_), .val (.int p2_), .val (.int p3_), .val (.int p4_), .val (.int (4 : Int32)), .val (.int c1_), .val (.int c2_), .val (.int c3_), .val (.int c4_), .val (.ref b369), .val (.ref ux373), .unset] [(.int (1 : Int32)), (.int (4 : Int32))]))
      refine own_go (fun t k => XS.icmpYes X373.here hx rfl (pc0 := 67) (pc' := 81) rfl (hb hby at_67) rfl (feq (by decide : ¬ ((4 : Int32) = (1 : Int32)))).2 (by decide) (by decide) k) ?_
      refine own_go (fun t k => XS.iload X373.here hx rfl (hb hby at_81) rfl k) ?_
      refine own_go (fun t k => XS.iload X373.here hx rfl (hb hby at_83) rfl k) ?_
      refine own_go (fun t k => XS.iload X373.here hx rfl (hb hby at_85) rfl k) ?_
      refine own_go (fun t k => XS.iload X373.here hx rfl (hb hby at_87) rfl k) ?_
      refine own_go (fun t k => XS.iload X373.here hx rfl (hb hby at_89) rfl k) ?_
      obtain ⟨_, _, ⟨T375, L375, k375, n375⟩, -, X375, ⟨Lc375, hQ375, l375, y375, z375⟩, st375⟩ := Jvm.LawKit.callS X373 hx (y := (⟨"com/example/grantfold/grantfold/model/ConfigurationParentPinLaw", "lastSlash", "(ICCCC)I"⟩ : MethodName)) hown (mvT hZ (w_90 hw)) (mvT hZ (w_91 hw)) (mvT hZ (w_3 hw)) (mvT hZ (w_92 hw)) (by decide) (backOf (W := 0) (rm_ls_4 l Z a0 hw [] c1_ c2_ c3_ c4_ h373 n0 Z373 ) hZ (w_92 hw) (w_3 hw) (by decide) (by decide)) (g := (mkF m 91 #[.val (.int iv), .val (.int p1_), .val (.int p2_), .val (.int p3_), .val (.int p4_), .val (.int (4 : Int32)), .val (.int c1_), .val (.int c2_), .val (.int c3_), .val (.int c4_), .val (.ref b369), .val (.ref ux373), .unset] [(.int c4_), (.int c3_), (.int c2_), (.int c1_), (.int (4 : Int32))])) rfl (by rw [hml]; rfl) (argsL := [(.int (4 : Int32)), (.int c1_), (.int c2_), (.int c3_), (.int c4_)]) (rest := []) (lenOf pd_18 rfl) rfl (by show 2 * 0 + _ ≤ _; exact Nat.le_of_eq rfl) (hb hby at_91) (fun _ _ => ⟨rfl, e373, (by decide : 7 + 0 ≤ _), (by decide : 28 + 0 ≤ _)⟩)
      dsimp only [Pt.U, Pt.locs, Pt.cells, Pt.slots] at X375 l375 y375 z375 st375 hQ375
      subst l375 y375 z375
      obtain ⟨rfl, N375q, e375⟩ := hQ375
      have N375 := Fr.app N373 N375q
      rw [(by simp [own_last4, s1, s2, s3] : own_last4 c1_ c2_ c3_ c4_ = 1)] at st375
      refine own_go st375 ?_
      show own_Go _ _ _ _ (T375.setTop (mkF m 94 #[.val (.int iv), .val (.int p1_), .val (.int p2_), .val (.int p3_), .val (.int p4_), .val (.int (4 : Int32)), .val (.int c1_), .val (.int c2_), .val (.int c3_), .val (.int c4_), .val (.ref b369), .val (.ref ux373), .unset] [(.int (1 : Int32))]))
      refine own_go (fun t k => XS.istore X375.here hx rfl (hb hby at_94) rfl (l' := #[.val (.int iv), .val (.int p1_), .val (.int p2_), .val (.int p3_), .val (.int p4_), .val (.int (4 : Int32)), .val (.int c1_), .val (.int c2_), .val (.int c3_), .val (.int c4_), .val (.ref b369), .val (.ref ux373), .val (.int (1 : Int32))]) rfl k) ?_
      show own_Go _ _ _ _ (T375.setTop (mkF m 96 #[.val (.int iv), .val (.int p1_), .val (.int p2_), .val (.int p3_), .val (.int p4_), .val (.int (4 : Int32)), .val (.int c1_), .val (.int c2_), .val (.int c3_), .val (.int c4_), .val (.ref b369), .val (.ref ux373), .val (.int (1 : Int32))] []))
      exact sg_tl1 hw X375 hlk hret hx hby hml hown hZ hS hk hh C373 e375 N375 Z373 iv p1_ p2_ p3_ p4_ zv gv h0 ux373 uy373 ky373 c1_ c2_ c3_ c4_ (f372.keep K373q all0) hzv S0 rgv G0 E373 Cd373 V373 A373 B1 B2 B3 B4 (by decide) (by decide)
    · have hy373 := A373.lt
      refine own_go (fun t k => XS.astore X373.here hx rfl (hb hby at_62) rfl rfl (l' := #[.val (.int iv), .val (.int p1_), .val (.int p2_), .val (.int p3_), .val (.int p4_), .val (.int (4 : Int32)), .val (.int c1_), .val (.int c2_), .val (.int c3_), .val (.int c4_), .val (.ref b369), .val (.ref ux373), .unset]) rfl k) ?_
      refine own_go (fun t k => XS.iload X373.here hx rfl (hb hby at_64) rfl k) ?_
      show own_Go _ _ _ _ (T373.setTop (mkF m 66 #[.val (.int iv), .val (.int p1_), .val (.int p2_), .val (.int p3_), .val (.int p4_), .val (.int (4 : Int32)), .val (.int c1_), .val (.int c2_), .val (.int c3_), .val (.int c4_), .val (.ref b369), .val (.ref ux373), .unset] [(.int (4 : Int32))]))
      refine own_go (fun t k => XS.iconst X373.here hx rfl (hb hby at_66) k) ?_
      show own_Go _ _ _ _ (T373.setTop (mkF m 67 #[.val (.int iv), .val (.int p1_), .val (.int p2_), .val (.int p3_), .val (.int p4_), .val (.int (4 : Int32)), .val (.int c1_), .val (.int c2_), .val (.int c3_), .val (.int c4_), .val (.ref b369), .val (.ref ux373), .unset] [(.int (1 : Int32)), (.int (4 : Int32))]))
      refine own_go (fun t k => XS.icmpYes X373.here hx rfl (pc0 := 67) (pc' := 81) rfl (hb hby at_67) rfl (feq (by decide : ¬ ((4 : Int32) = (1 : Int32)))).2 (by decide) (by decide) k) ?_
      refine own_go (fun t k => XS.iload X373.here hx rfl (hb hby at_81) rfl k) ?_
      refine own_go (fun t k => XS.iload X373.here hx rfl (hb hby at_83) rfl k) ?_
      refine own_go (fun t k => XS.iload X373.here hx rfl (hb hby at_85) rfl k) ?_
      refine own_go (fun t k => XS.iload X373.here hx rfl (hb hby at_87) rfl k) ?_
      refine own_go (fun t k => XS.iload X373.here hx rfl (hb hby at_89) rfl k) ?_
      obtain ⟨_, _, ⟨T376, L376, k376, n376⟩, -, X376, ⟨Lc376, hQ376, l376, y376, z376⟩, st376⟩ := Jvm.LawKit.callS X373 hx (y := (⟨"com/example/grantfold/grantfold/model/ConfigurationParentPinLaw", "lastSlash", "(ICCCC)I"⟩ : MethodName)) hown (mvT hZ (w_90 hw)) (mvT hZ (w_91 hw)) (mvT hZ (w_3 hw)) (mvT hZ (w_92 hw)) (by decide) (backOf (W := 0) (rm_ls_4 l Z a0 hw [] c1_ c2_ c3_ c4_ h373 n0 Z373 ) hZ (w_92 hw) (w_3 hw) (by decide) (by decide)) (g := (mkF m 91 #[.val (.int iv), .val (.int p1_), .val (.int p2_), .val (.int p3_), .val (.int p4_), .val (.int (4 : Int32)), .val (.int c1_), .val (.int c2_), .val (.int c3_), .val (.int c4_), .val (.ref b369), .val (.ref ux373), .unset] [(.int c4_), (.int c3_), (.int c2_), (.int c1_), (.int (4 : Int32))])) rfl (by rw [hml]; rfl) (argsL := [(.int (4 : Int32)), (.int c1_), (.int c2_), (.int c3_), (.int c4_)]) (rest := []) (lenOf pd_18 rfl) rfl (by show 2 * 0 + _ ≤ _; exact Nat.le_of_eq rfl) (hb hby at_91) (fun _ _ => ⟨rfl, e373, (by decide : 7 + 0 ≤ _), (by decide : 28 + 0 ≤ _)⟩)
      dsimp only [Pt.U, Pt.locs, Pt.cells, Pt.slots] at X376 l376 y376 z376 st376 hQ376
      subst l376 y376 z376
      obtain ⟨rfl, N376q, e376⟩ := hQ376
      have N376 := Fr.app N373 N376q
      rw [(by simp [own_last4, s2, s3] : own_last4 c1_ c2_ c3_ c4_ = 2)] at st376
      refine own_go st376 ?_
      show own_Go _ _ _ _ (T376.setTop (mkF m 94 #[.val (.int iv), .val (.int p1_), .val (.int p2_), .val (.int p3_), .val (.int p4_), .val (.int (4 : Int32)), .val (.int c1_), .val (.int c2_), .val (.int c3_), .val (.int c4_), .val (.ref b369), .val (.ref ux373), .unset] [(.int (2 : Int32))]))
      refine own_go (fun t k => XS.istore X376.here hx rfl (hb hby at_94) rfl (l' := #[.val (.int iv), .val (.int p1_), .val (.int p2_), .val (.int p3_), .val (.int p4_), .val (.int (4 : Int32)), .val (.int c1_), .val (.int c2_), .val (.int c3_), .val (.int c4_), .val (.ref b369), .val (.ref ux373), .val (.int (2 : Int32))]) rfl k) ?_
      show own_Go _ _ _ _ (T376.setTop (mkF m 96 #[.val (.int iv), .val (.int p1_), .val (.int p2_), .val (.int p3_), .val (.int p4_), .val (.int (4 : Int32)), .val (.int c1_), .val (.int c2_), .val (.int c3_), .val (.int c4_), .val (.ref b369), .val (.ref ux373), .val (.int (2 : Int32))] []))
      exact sg_tl2 hw X376 hlk hret hx hby hml hown hZ hS hk hh C373 e376 N376 Z373 iv p1_ p2_ p3_ p4_ zv gv h0 ux373 uy373 ky373 c1_ c2_ c3_ c4_ (f372.keep K373q all0) hzv S0 rgv G0 E373 Cd373 V373 A373 B1 B2 B3 B4 (by decide) (by decide)
    · have hy373 := A373.lt
      refine own_go (fun t k => XS.astore X373.here hx rfl (hb hby at_62) rfl rfl (l' := #[.val (.int iv), .val (.int p1_), .val (.int p2_), .val (.int p3_), .val (.int p4_), .val (.int (4 : Int32)), .val (.int c1_), .val (.int c2_), .val (.int c3_), .val (.int c4_), .val (.ref b369), .val (.ref ux373), .unset]) rfl k) ?_
      refine own_go (fun t k => XS.iload X373.here hx rfl (hb hby at_64) rfl k) ?_
      show own_Go _ _ _ _ (T373.setTop (mkF m 66 #[.val (.int iv), .val (.int p1_), .val (.int p2_), .val (.int p3_), .val (.int p4_), .val (.int (4 : Int32)), .val (.int c1_), .val (.int c2_), .val (.int c3_), .val (.int c4_), .val (.ref b369), .val (.ref ux373), .unset] [(.int (4 : Int32))]))
      refine own_go (fun t k => XS.iconst X373.here hx rfl (hb hby at_66) k) ?_
      show own_Go _ _ _ _ (T373.setTop (mkF m 67 #[.val (.int iv), .val (.int p1_), .val (.int p2_), .val (.int p3_), .val (.int p4_), .val (.int (4 : Int32)), .val (.int c1_), .val (.int c2_), .val (.int c3_), .val (.int c4_), .val (.ref b369), .val (.ref ux373), .unset] [(.int (1 : Int32)), (.int (4 : Int32))]))
      refine own_go (fun t k => XS.icmpYes X373.here hx rfl (pc0 := 67) (pc' := 81) rfl (hb hby at_67) rfl (feq (by decide : ¬ ((4 : Int32) = (1 : Int32)))).2 (by decide) (by decide) k) ?_
      refine own_go (fun t k => XS.iload X373.here hx rfl (hb hby at_81) rfl k) ?_
      refine own_go (fun t k => XS.iload X373.here hx rfl (hb hby at_83) rfl k) ?_
      refine own_go (fun t k => XS.iload X373.here hx rfl (hb hby at_85) rfl k) ?_
      refine own_go (fun t k => XS.iload X373.here hx rfl (hb hby at_87) rfl k) ?_
      refine own_go (fun t k => XS.iload X373.here hx rfl (hb hby at_89) rfl k) ?_
      obtain ⟨_, _, ⟨T377, L377, k377, n377⟩, -, X377, ⟨Lc377, hQ377, l377, y377, z377⟩, st377⟩ := Jvm.LawKit.callS X373 hx (y := (⟨"com/example/grantfold/grantfold/model/ConfigurationParentPinLaw", "lastSlash", "(ICCCC)I"⟩ : MethodName)) hown (mvT hZ (w_90 hw)) (mvT hZ (w_91 hw)) (mvT hZ (w_3 hw)) (mvT hZ (w_92 hw)) (by decide) (backOf (W := 0) (rm_ls_4 l Z a0 hw [] c1_ c2_ c3_ c4_ h373 n0 Z373 ) hZ (w_92 hw) (w_3 hw) (by decide) (by decide)) (g := (mkF m 91 #[.val (.int iv), .val (.int p1_), .val (.int p2_), .val (.int p3_), .val (.int p4_), .val (.int (4 : Int32)), .val (.int c1_), .val (.int c2_), .val (.int c3_), .val (.int c4_), .val (.ref b369), .val (.ref ux373), .unset] [(.int c4_), (.int c3_), (.int c2_), (.int c1_), (.int (4 : Int32))])) rfl (by rw [hml]; rfl) (argsL := [(.int (4 : Int32)), (.int c1_), (.int c2_), (.int c3_), (.int c4_)]) (rest := []) (lenOf pd_18 rfl) rfl (by show 2 * 0 + _ ≤ _; exact Nat.le_of_eq rfl) (hb hby at_91) (fun _ _ => ⟨rfl, e373, (by decide : 7 + 0 ≤ _), (by decide : 28 + 0 ≤ _)⟩)
      dsimp only [Pt.U, Pt.locs, Pt.cells, Pt.slots] at X377 l377 y377 z377 st377 hQ377
      subst l377 y377 z377
      obtain ⟨rfl, N377q, e377⟩ := hQ377
      have N377 := Fr.app N373 N377q
      rw [(by simp [own_last4, s3] : own_last4 c1_ c2_ c3_ c4_ = 3)] at st377
      refine own_go st377 ?_
      show own_Go _ _ _ _ (T377.setTop (mkF m 94 #[.val (.int iv), .val (.int p1_), .val (.int p2_), .val (.int p3_), .val (.int p4_), .val (.int (4 : Int32)), .val (.int c1_), .val (.int c2_), .val (.int c3_), .val (.int c4_), .val (.ref b369), .val (.ref ux373), .unset] [(.int (3 : Int32))]))
      refine own_go (fun t k => XS.istore X377.here hx rfl (hb hby at_94) rfl (l' := #[.val (.int iv), .val (.int p1_), .val (.int p2_), .val (.int p3_), .val (.int p4_), .val (.int (4 : Int32)), .val (.int c1_), .val (.int c2_), .val (.int c3_), .val (.int c4_), .val (.ref b369), .val (.ref ux373), .val (.int (3 : Int32))]) rfl k) ?_
      show own_Go _ _ _ _ (T377.setTop (mkF m 96 #[.val (.int iv), .val (.int p1_), .val (.int p2_), .val (.int p3_), .val (.int p4_), .val (.int (4 : Int32)), .val (.int c1_), .val (.int c2_), .val (.int c3_), .val (.int c4_), .val (.ref b369), .val (.ref ux373), .val (.int (3 : Int32))] []))
      exact sg_tl3 hw X377 hlk hret hx hby hml hown hZ hS hk hh C373 e377 N377 Z373 iv p1_ p2_ p3_ p4_ zv gv h0 ux373 uy373 ky373 c1_ c2_ c3_ c4_ (f372.keep K373q all0) hzv S0 rgv G0 E373 Cd373 V373 A373 B1 B2 B3 B4 (by decide) (by decide)
  · show own_Go _ _ _ _ (T348.setTop (mkF m 35 #[.val (.int iv), .val (.int p1_), .val (.int p2_), .val (.int p3_), .val (.int p4_), .val (.int (5 : Int32)), .val (.int c1_), .val (.int c2_), .val (.int c3_), .val (.int c4_), .unset, .unset, .unset] []))
    obtain ⟨T378, h378, X378, e378, E378, A378, D378, -, st378⟩ := newO X348 hx hZ hown (w_5 hw) (w_6 hw) (w_7 hw) e348 (g := (mkF m 35 #[.val (.int iv), .val (.int p1_), .val (.int p2_), .val (.int p3_), .val (.int p4_), .val (.int (5 : Int32)), .val (.int c1_), .val (.int c2_), .val (.int c3_), .val (.int c4_), .unset, .unset, .unset] [])) rfl (hb hby at_35) (by decide) (by decide)
    obtain ⟨b378, g378⟩ : ∃ z, z = h0.size := ⟨_, rfl⟩
    rw [← g378] at A378 D378 st378
    refine own_go st378 ?_
    have Sf378 : Safe Z consts_1 s.vm h0 b378 := Safe.new (Nat.le_of_eq g378.symm)
    have Z378 : n0 ≤ h378.size := (Nat.le_trans Z0 E378.1)
    have C378 := C0.trans (CHr.ext E378 C0.1)
    have lo378 : h0.size ≤ b378 := Nat.le_of_eq g378.symm
    have q378 : n0 ≤ b378 := Nat.le_trans Z0 lo378
    have hi378 : b378 < h378.size := A378.lt
    have F378_35 : Fld Z h378 b378 "java/lang/String" "coder" "B" (.int (0 : Int32)) := D378 (Or.inr (w_35 hw)) (ty := .byte) (by decide)
    have F378_37 : Fld Z h378 b378 "java/lang/String" "value" "[B" .null := D378 (Or.inr (w_37 hw)) (ty := (.array .byte)) (by decide)
    refine own_go (fun t k => XS.dup X378.here hx rfl (hb hby at_38) rfl rfl k) ?_
    refine own_go (fun t k => XS.iload X378.here hx rfl (hb hby at_39) rfl k) ?_
    refine own_go (fun t k => XS.iload X378.here hx rfl (hb hby at_41) rfl k) ?_
    refine own_go (fun t k => XS.iload X378.here hx rfl (hb hby at_43) rfl k) ?_
    refine own_go (fun t k => XS.iload X378.here hx rfl (hb hby at_45) rfl k) ?_
    refine own_go (fun t k => XS.iload X378.here hx rfl (hb hby at_47) rfl k) ?_
    show own_Go _ _ _ _ (T378.setTop (mkF m 49 #[.val (.int iv), .val (.int p1_), .val (.int p2_), .val (.int p3_), .val (.int p4_), .val (.int (5 : Int32)), .val (.int c1_), .val (.int c2_), .val (.int c3_), .val (.int c4_), .unset, .unset, .unset] [(.int c4_), (.int c3_), (.int c2_), (.int c1_), (.int (5 : Int32)), (.ref b378), (.ref b378)]))
    obtain ⟨_, _, ⟨T379, L379, k379, n379⟩, -, X379, ⟨Lc379, hQ379, l379, y379, z379⟩, st379⟩ := Jvm.LawKit.callS X378 hx (y := (⟨"com/example/grantfold/grantfold/model/ConfigurationParentPinLaw", "chars", "(ICCCC)[C"⟩ : MethodName)) hown (mvT hZ (w_8 hw)) (mvT hZ (w_9 hw)) (mvT hZ (w_3 hw)) (mvT hZ (w_10 hw)) (by decide) (backOf (W := 2) (rm_chs_5 l Z a0 hw [] c1_ c2_ c3_ c4_ h378 n0 Z378 B1 B2 B3 B4) hZ (w_10 hw) (w_3 hw) (by decide) (by decide)) (g := (mkF m 49 #[.val (.int iv), .val (.int p1_), .val (.int p2_), .val (.int p3_), .val (.int p4_), .val (.int (5 : Int32)), .val (.int c1_), .val (.int c2_), .val (.int c3_), .val (.int c4_), .unset, .unset, .unset] [(.int c4_), (.int c3_), (.int c2_), (.int c1_), (.int (5 : Int32)), (.ref b378), (.ref b378)])) rfl (by rw [hml]; rfl) (argsL := [(.int (5 : Int32)), (.int c1_), (.int c2_), (.int c3_), (.int c4_)]) (rest := [(.ref b378), (.ref b378)]) (lenOf pd_15 rfl) rfl (by show 2 * 0 + _ ≤ _; exact Nat.le_of_eq rfl) (hb hby at_49) (fun _ _ => ⟨rfl, e378, (by decide : 1 + 1 ≤ _), (by decide : 4 + 5 ≤ _)⟩)
    dsimp only [Pt.U, Pt.locs, Pt.cells, Pt.slots] at X379 l379 y379 z379 st379 hQ379
    subst l379 y379 z379
    generalize e379 : T379.heap = h379 at hQ379
    obtain ⟨uc379, kc379, rfl, N379q, K379q, lo379, q379, A379⟩ := hQ379
    have N379 := Fr.app N348 N379q
    refine own_go st379 ?_
    have C379 := C378.trans (CHr.keep K379q all0 C378.1)
    have Z379 : n0 ≤ h379.size := (Nat.le_trans Z378 K379q.1)
    have hi379 := A379.lt
    obtain ⟨_, _, ⟨T380, L380, k380, n380⟩, -, X380, ⟨Lc380, hQ380, l380, y380, z380⟩, st380⟩ := X379.specialBack hx (y := (⟨"java/lang/String", "<init>", "([C)V"⟩ : MethodName)) rfl hown (mvT hZ (w_12 hw)) (mvT hZ (w_13 hw)) (mvT hZ (w_14 hw)) (by decide) (StrChars.Road.backV (W := 1) hZ (own_wnew hw) (kI := 4) (w_6 hw) (cs := ([(47 : Int32), c1_, c2_, c3_, c4_] : List Int32)) (bs := (([(47 : Int32), c1_, c2_, c3_, c4_] : List Int32)).map (fun c => c.toInt8.toInt32)) (n := 5) q378 Z379 (A378.keep K379q) (F378_37.keep K379q nin0) (F378_35.keep K379q nin0) A379 (S0.ext ((O0.ext E378).keep K379q all0).2) hzv rfl rfl (by decide) (by decide) (List.forall_mem_cons.mpr ⟨(by constructor <;> decide : own_B (47 : Int32)), (List.forall_mem_cons.mpr ⟨B1, (List.forall_mem_cons.mpr ⟨B2, (List.forall_mem_cons.mpr ⟨B3, (List.forall_mem_cons.mpr ⟨B4, (List.forall_mem_nil _)⟩)⟩)⟩)⟩)⟩) rfl (by decide) (by decide)) (g := (mkF m 52 #[.val (.int iv), .val (.int p1_), .val (.int p2_), .val (.int p3_), .val (.int p4_), .val (.int (5 : Int32)), .val (.int c1_), .val (.int c2_), .val (.int c3_), .val (.int c4_), .unset, .unset, .unset] [(.ref uc379), (.ref b378), (.ref b378)])) rfl (by rw [hml]; rfl) (Steps.refl _) (a := b378) (argsL := [(.ref uc379)]) (rest := [(.ref b378)]) (lenOf pd_16 rfl) rfl (by show 2 * 0 + _ ≤ _; exact Nat.le_of_eq rfl) (hb hby at_52) (fun _ _ => ⟨rfl, e379, (by decide : 2 + 1 ≤ _), (by decide : 9 + 5 ≤ _)⟩)
    dsimp only [Pt.U, Pt.locs, Pt.cells, Pt.slots] at X380 l380 y380 z380 st380 hQ380
    subst l380 y380 z380
    generalize e380 : T380.heap = h380 at hQ380
    obtain ⟨rfl, N380q, K380q, Ea380, Ec380, t380, kb380, q380, lo380, nt380, Ev380, Ek380⟩ := hQ380
    have N380 := Fr.app N379 N380q
    refine own_go (fun t k => st380.trans k) ?_
    have C380 := C379.trans (CHr.keep K380q (allS (Safe.keep K379q all0 C378.1 (Safe.ext E378 C0.1 Sf378)) all0) C379.1)
    have Z380 : n0 ≤ h380.size := (Nat.le_trans Z379 K380q.1)
    have hi380 := Ek380.lt
    replace Ek380 : Arv Z h380 t380 kb380 .byte (5 : Int32) [(.int (47 : Int32)), (.int (c1_.toInt8.toInt32)), (.int (c2_.toInt8.toInt32)), (.int (c3_.toInt8.toInt32)), (.int (c4_.toInt8.toInt32))] (.int (0 : Int32)) := Ek380
    refine own_go (fun t k => XS.astore X380.here hx rfl (hb hby at_55) rfl rfl (l' := #[.val (.int iv), .val (.int p1_), .val (.int p2_), .val (.int p3_), .val (.int p4_), .val (.int (5 : Int32)), .val (.int c1_), .val (.int c2_), .val (.int c3_), .val (.int c4_), .val (.ref b378), .unset, .unset]) rfl k) ?_
    refine own_go (fun t k => XS.aload X380.here hx rfl (hb hby at_57) rfl rfl k) ?_
    have f381 := (((O0.ext E378).keep K379q all0).keep K380q (allS q378 all0))
    obtain ⟨_, _, ⟨T382, L382, k382, n382⟩, -, X382, hS382, hg382, ⟨Lc382, hQ382, l382, y382, z382, R382⟩, st382⟩ := callSS X380 hx (y := (⟨"com/example/grantfold/grantfold/model/Configuration", "parent", "(Ljava/lang/String;)Ljava/lang/String;"⟩ : MethodName)) hown (mvT hZ (w_38 hw)) (mvT hZ (w_39 hw)) (mvT hZ (w_40 hw)) (mvT hZ (w_41 hw)) (by decide) (backOfSH (W := 0) (rm_par_5 l Z a0 hw [] b378 t380 kb380 c1_ c2_ c3_ c4_ zv gv h380 n0 Z380 Ea380 Ec380 Ev380 Ek380 B1 B2 B3 B4 f381 hzv S0 rgv G0) hZ (w_41 hw) (w_40 hw) (by decide) (by decide) (own_EW hw) C380.1) (g := (mkF m 59 #[.val (.int iv), .val (.int p1_), .val (.int p2_), .val (.int p3_), .val (.int p4_), .val (.int (5 : Int32)), .val (.int c1_), .val (.int c2_), .val (.int c3_), .val (.int c4_), .val (.ref b378), .unset, .unset] [(.ref b378)])) rfl (by rw [hml]; rfl) (argsL := [(.ref b378)]) (rest := []) (lenOf pd_17 rfl) rfl (by show 2 * 0 + _ ≤ _; exact Nat.le_of_eq rfl) (hb hby at_59) (fun _ _ => ⟨rfl, e380, (by decide : 3 + 4 ≤ _), (by decide : 14 + 16 ≤ _)⟩)
    dsimp only [Pt.U, Pt.locs, Pt.cells, Pt.slots] at X382 l382 y382 z382 st382 hQ382 hS382 hg382 R382
    replace hS := foldS hS (Nat.le_trans (Nat.le_trans hk (Nat.le_trans (Nat.le_trans E378.1 K379q.1) K380q.1)) (Nat.le_of_eq (congrArg Array.size e380.symm))) hS382 hg382
    have hZ := State.Warmed39.trans hZ hS382.1
    have hown : T382.vm.findClass "com/example/grantfold/grantfold/model/ConfigurationParentPinLaw" = some m.cls := by rw [hS382.1.alike.findClass]; exact hown
    replace X382 : Stand p l e room_1 (s.setVm T382.vm) m #[(.int iv), (.int p1_), (.int p2_), (.int p3_), (.int p4_)] below meth c T382 _ _ _ := X382
    subst l382 y382 z382
    generalize e382 : T382.heap = h382 at hQ382 R382
    obtain ⟨ux382, uy382, ky382, rfl, N382q, K382q, E382, Cd382, V382, A382⟩ := hQ382
    have hk : T382.heap.size ≤ h382.size := Nat.le_of_eq (by rw [e382])
    have N382 := Fr.app N380 N382q
    refine own_go (fun t k => st382.trans k) ?_
    have C382 := C380.trans R382
    have Z382 : n0 ≤ h382.size := (Nat.le_trans Z380 K382q.1)
    have hi382 := E382.lt
    rcases A382 with ⟨s1, s2, s3, s4, A382⟩ | ⟨s1, s2, s3, s4, A382⟩ | ⟨s2, s3, s4, A382⟩ | ⟨s3, s4, A382⟩ | ⟨s4, A382⟩
    · have hy382 := A382.lt
      refine own_go (fun t k => XS.astore X382.here hx rfl (hb hby at_62) rfl rfl (l' := #[.val (.int iv), .val (.int p1_), .val (.int p2_), .val (.int p3_), .val (.int p4_), .val (.int (5 : Int32)), .val (.int c1_), .val (.int c2_), .val (.int c3_), .val (.int c4_), .val (.ref b378), .val (.ref ux382), .unset]) rfl k) ?_
      refine own_go (fun t k => XS.iload X382.here hx rfl (hb hby at_64) rfl k) ?_
      show own_Go _ _ _ _ (T382.setTop (mkF m 66 #[.val (.int iv), .val (.int p1_), .val (.int p2_), .val (.int p3_), .val (.int p4_), .val (.int (5 : Int32)), .val (.int c1_), .val (.int c2_), .val (.int c3_), .val (.int c4_), .val (.ref b378), .val (.ref ux382), .unset] [(.int (5 : Int32))]))
      refine own_go (fun t k => XS.iconst X382.here hx rfl (hb hby at_66) k) ?_
      show own_Go _ _ _ _ (T382.setTop (mkF m 67 #[.val (.int iv), .val (.int p1_), .val (.int p2_), .val (.int p3_), .val (.int p4_), .val (.int (5 : Int32)), .val (.int c1_), .val (.int c2_), .val (.int c3_), .val (.int c4_), .val (.ref b378), .val (.ref ux382), .unset] [(.int (1 : Int32)), (.int (5 : Int32))]))
      refine own_go (fun t k => XS.icmpYes X382.here hx rfl (pc0 := 67) (pc' := 81) rfl (hb hby at_67) rfl (feq (by decide : ¬ ((5 : Int32) = (1 : Int32)))).2 (by decide) (by decide) k) ?_
      refine own_go (fun t k => XS.iload X382.here hx rfl (hb hby at_81) rfl k) ?_
      refine own_go (fun t k => XS.iload X382.here hx rfl (hb hby at_83) rfl k) ?_
      refine own_go (fun t k => XS.iload X382.here hx rfl (hb hby at_85) rfl k) ?_
      refine own_go (fun t k => XS.iload X382.here hx rfl (hb hby at_87) rfl k) ?_
      refine own_go (fun t k => XS.iload X382.here hx rfl (hb hby at_89) rfl k) ?_
      obtain ⟨_, _, ⟨T383, L383, k383, n383⟩, -, X383, ⟨Lc383, hQ383, l383, y383, z383⟩, st383⟩ := Jvm.LawKit.callS X382 hx (y := (⟨"com/example/grantfold/grantfold/model/ConfigurationParentPinLaw", "lastSlash", "(ICCCC)I"⟩ : MethodName)) hown (mvT hZ (w_90 hw)) (mvT hZ (w_91 hw)) (mvT hZ (w_3 hw)) (mvT hZ (w_92 hw)) (by decide) (backOf (W := 0) (rm_ls_5 l Z a0 hw [] c1_ c2_ c3_ c4_ h382 n0 Z382 ) hZ (w_92 hw) (w_3 hw) (by decide) (by decide)) (g := (mkF m 91 #[.val (.int iv), .val (.int p1_), .val (.int p2_), .val (.int p3_), .val (.int p4_), .val (.int (5 : Int32)), .val (.int c1_), .val (.int c2_), .val (.int c3_), .val (.int c4_), .val (.ref b378), .val (.ref ux382), .unset] [(.int c4_), (.int c3_), (.int c2_), (.int c1_), (.int (5 : Int32))])) rfl (by rw [hml]; rfl) (argsL := [(.int (5 : Int32)), (.int c1_), (.int c2_), (.int c3_), (.int c4_)]) (rest := []) (lenOf pd_18 rfl) rfl (by show 2 * 0 + _ ≤ _; exact Nat.le_of_eq rfl) (hb hby at_91) (fun _ _ => ⟨rfl, e382, (by decide : 7 + 0 ≤ _), (by decide : 30 + 0 ≤ _)⟩)
      dsimp only [Pt.U, Pt.locs, Pt.cells, Pt.slots] at X383 l383 y383 z383 st383 hQ383
      subst l383 y383 z383
      obtain ⟨rfl, N383q, e383⟩ := hQ383
      have N383 := Fr.app N382 N383q
      rw [(by simp [own_last5, s1, s2, s3, s4] : own_last5 c1_ c2_ c3_ c4_ = 0)] at st383
      refine own_go st383 ?_
      show own_Go _ _ _ _ (T383.setTop (mkF m 94 #[.val (.int iv), .val (.int p1_), .val (.int p2_), .val (.int p3_), .val (.int p4_), .val (.int (5 : Int32)), .val (.int c1_), .val (.int c2_), .val (.int c3_), .val (.int c4_), .val (.ref b378), .val (.ref ux382), .unset] [(.int (0 : Int32))]))
      refine own_go (fun t k => XS.istore X383.here hx rfl (hb hby at_94) rfl (l' := #[.val (.int iv), .val (.int p1_), .val (.int p2_), .val (.int p3_), .val (.int p4_), .val (.int (5 : Int32)), .val (.int c1_), .val (.int c2_), .val (.int c3_), .val (.int c4_), .val (.ref b378), .val (.ref ux382), .val (.int (0 : Int32))]) rfl k) ?_
      show own_Go _ _ _ _ (T383.setTop (mkF m 96 #[.val (.int iv), .val (.int p1_), .val (.int p2_), .val (.int p3_), .val (.int p4_), .val (.int (5 : Int32)), .val (.int c1_), .val (.int c2_), .val (.int c3_), .val (.int c4_), .val (.ref b378), .val (.ref ux382), .val (.int (0 : Int32))] []))
      exact sg_tl0 hw X383 hlk hret hx hby hml hown hZ hS hk hh C382 e383 N383 Z382 iv p1_ p2_ p3_ p4_ zv gv h0 ux382 uy382 ky382 c1_ c2_ c3_ c4_ (f381.keep K382q all0) hzv S0 rgv G0 E382 Cd382 V382 A382 B1 B2 B3 B4 (by decide) (by decide)
    · have hy382 := A382.lt
      refine own_go (fun t k => XS.astore X382.here hx rfl (hb hby at_62) rfl rfl (l' := #[.val (.int iv), .val (.int p1_), .val (.int p2_), .val (.int p3_), .val (.int p4_), .val (.int (5 : Int32)), .val (.int c1_), .val (.int c2_), .val (.int c3_), .val (.int c4_), .val (.ref b378), .val (.ref ux382), .unset]) rfl k) ?_
      refine own_go (fun t k => XS.iload X382.here hx rfl (hb hby at_64) rfl k) ?_
      show own_Go _ _ _ _ (T382.setTop (mkF m 66 #[.val (.int iv), .val (.int p1_), .val (.int p2_), .val (.int p3_), .val (.int p4_), .val (.int (5 : Int32)), .val (.int c1_), .val (.int c2_), .val (.int c3_), .val (.int c4_), .val (.ref b378), .val (.ref ux382), .unset] [(.int (5 : Int32))]))
      refine own_go (fun t k => XS.iconst X382.here hx rfl (hb hby at_66) k) ?_
      show own_Go _ _ _ _ (T382.setTop (mkF m 67 #[.val (.int iv), .val (.int p1_), .val (.int p2_), .val (.int p3_), .val (.int p4_), .val (.int (5 : Int32)), .val (.int c1_), .val (.int c2_), .val (.int c3_), .val (.int c4_), .val (.ref b378), .val (.ref ux382), .unset] [(.int (1 : Int32)), (.int (5 : Int32))]))
      refine own_go (fun t k => XS.icmpYes X382.here hx rfl (pc0 := 67) (pc' := 81) rfl (hb hby at_67) rfl (feq (by decide : ¬ ((5 : Int32) = (1 : Int32)))).2 (by decide) (by decide) k) ?_
      refine own_go (fun t k => XS.iload X382.here hx rfl (hb hby at_81) rfl k) ?_
      refine own_go (fun t k => XS.iload X382.here hx rfl (hb hby at_83) rfl k) ?_
      refine own_go (fun t k => XS.iload X382.here hx rfl (hb hby at_85) rfl k) ?_
      refine own_go (fun t k => XS.iload X382.here hx rfl (hb hby at_87) rfl k) ?_
      refine own_go (fun t k => XS.iload X382.here hx rfl (hb hby at_89) rfl k) ?_
      obtain ⟨_, _, ⟨T384, L384, k384, n384⟩, -, X384, ⟨Lc384, hQ384, l384, y384, z384⟩, st384⟩ := Jvm.LawKit.callS X382 hx (y := (⟨"com/example/grantfold/grantfold/model/ConfigurationParentPinLaw", "lastSlash", "(ICCCC)I"⟩ : MethodName)) hown (mvT hZ (w_90 hw)) (mvT hZ (w_91 hw)) (mvT hZ (w_3 hw)) (mvT hZ (w_92 hw)) (by decide) (backOf (W := 0) (rm_ls_5 l Z a0 hw [] c1_ c2_ c3_ c4_ h382 n0 Z382 ) hZ (w_92 hw) (w_3 hw) (by decide) (by decide)) (g := (mkF m 91 #[.val (.int iv), .val (.int p1_), .val (.int p2_), .val (.int p3_), .val (.int p4_), .val (.int (5 : Int32)), .val (.int c1_), .val (.int c2_), .val (.int c3_), .val (.int c4_), .val (.ref b378), .val (.ref ux382), .unset] [(.int c4_), (.int c3_), (.int c2_), (.int c1_), (.int (5 : Int32))])) rfl (by rw [hml]; rfl) (argsL := [(.int (5 : Int32)), (.int c1_), (.int c2_), (.int c3_), (.int c4_)]) (rest := []) (lenOf pd_18 rfl) rfl (by show 2 * 0 + _ ≤ _; exact Nat.le_of_eq rfl) (hb hby at_91) (fun _ _ => ⟨rfl, e382, (by decide : 7 + 0 ≤ _), (by decide : 30 + 0 ≤ _)⟩)
      dsimp only [Pt.U, Pt.locs, Pt.cells, Pt.slots] at X384 l384 y384 z384 st384 hQ384
      subst l384 y384 z384
      obtain ⟨rfl, N384q, e384⟩ := hQ384
      have N384 := Fr.app N382 N384q
      rw [(by simp [own_last5, s1, s2, s3, s4] : own_last5 c1_ c2_ c3_ c4_ = 1)] at st384
      refine own_go st384 ?_
      show own_Go _ _ _ _ (T384.setTop (mkF m 94 #[.val (.int iv), .val (.int p1_), .val (.int p2_), .val (.int p3_), .val (.int p4_), .val (.int (5 : Int32)), .val (.int c1_), .val (.int c2_), .val (.int c3_), .val (.int c4_), .val (.ref b378), .val (.ref ux382), .unset] [(.int (1 : Int32))]))
      refine own_go (fun t k => XS.istore X384.here hx rfl (hb hby at_94) rfl (l' := #[.val (.int iv), .val (.int p1_), .val (.int p2_), .val (.int p3_), .val (.int p4_), .val (.int (5 : Int32)), .val (.int c1_), .val (.int c2_), .val (.int c3_), .val (.int c4_), .val (.ref b378), .val (.ref ux382), .val (.int (1 : Int32))]) rfl k) ?_
      show own_Go _ _ _ _ (T384.setTop (mkF m 96 #[.val (.int iv), .val (.int p1_), .val (.int p2_), .val (.int p3_), .val (.int p4_), .val (.int (5 : Int32)), .val (.int c1_), .val (.int c2_), .val (.int c3_), .val (.int c4_), .val (.ref b378), .val (.ref ux382), .val (.int (1 : Int32))] []))
      exact sg_tl1 hw X384 hlk hret hx hby hml hown hZ hS hk hh C382 e384 N384 Z382 iv p1_ p2_ p3_ p4_ zv gv h0 ux382 uy382 ky382 c1_ c2_ c3_ c4_ (f381.keep K382q all0) hzv S0 rgv G0 E382 Cd382 V382 A382 B1 B2 B3 B4 (by decide) (by decide)
    · have hy382 := A382.lt
      refine own_go (fun t k => XS.astore X382.here hx rfl (hb hby at_62) rfl rfl (l' := #[.val (.int iv), .val (.int p1_), .val (.int p2_), .val (.int p3_), .val (.int p4_), .val (.int (5 : Int32)), .val (.int c1_), .val (.int c2_), .val (.int c3_), .val (.int c4_), .val (.ref b378), .val (.ref ux382), .unset]) rfl k) ?_
      refine own_go (fun t k => XS.iload X382.here hx rfl (hb hby at_64) rfl k) ?_
      show own_Go _ _ _ _ (T382.setTop (mkF m 66 #[.val (.int iv), .val (.int p1_), .val (.int p2_), .val (.int p3_), .val (.int p4_), .val (.int (5 : Int32)), .val (.int c1_), .val (.int c2_), .val (.int c3_), .val (.int c4_), .val (.ref b378), .val (.ref ux382), .unset] [(.int (5 : Int32))]))
      refine own_go (fun t k => XS.iconst X382.here hx rfl (hb hby at_66) k) ?_
      show own_Go _ _ _ _ (T382.setTop (mkF m 67 #[.val (.int iv), .val (.int p1_), .val (.int p2_), .val (.int p3_), .val (.int p4_), .val (.int (5 : Int32)), .val (.int c1_), .val (.int c2_), .val (.int c3_), .val (.int c4_), .val (.ref b378), .val (.ref ux382), .unset] [(.int (1 : Int32)), (.int (5 : Int32))]))
      refine own_go (fun t k => XS.icmpYes X382.here hx rfl (pc0 := 67) (pc' := 81) rfl (hb hby at_67) rfl (feq (by decide : ¬ ((5 : Int32) = (1 : Int32)))).2 (by decide) (by decide) k) ?_
      refine own_go (fun t k => XS.iload X382.here hx rfl (hb hby at_81) rfl k) ?_
      refine own_go (fun t k => XS.iload X382.here hx rfl (hb hby at_83) rfl k) ?_
      refine own_go (fun t k => XS.iload X382.here hx rfl (hb hby at_85) rfl k) ?_
      refine own_go (fun t k => XS.iload X382.here hx rfl (hb hby at_87) rfl k) ?_
      refine own_go (fun t k => XS.iload X382.here hx rfl (hb hby at_89) rfl k) ?_
      obtain ⟨_, _, ⟨T385, L385, k385, n385⟩, -, X385, ⟨Lc385, hQ385, l385, y385, z385⟩, st385⟩ := Jvm.LawKit.callS X382 hx (y := (⟨"com/example/grantfold/grantfold/model/ConfigurationParentPinLaw", "lastSlash", "(ICCCC)I"⟩ : MethodName)) hown (mvT hZ (w_90 hw)) (mvT hZ (w_91 hw)) (mvT hZ (w_3 hw)) (mvT hZ (w_92 hw)) (by decide) (backOf (W := 0) (rm_ls_5 l Z a0 hw [] c1_ c2_ c3_ c4_ h382 n0 Z382 ) hZ (w_92 hw) (w_3 hw) (by decide) (by decide)) (g := (mkF m 91 #[.val (.int iv), .val (.int p1_), .val (.int p2_), .val (.int p3_), .val (.int p4_), .val (.int (5 : Int32)), .val (.int c1_), .val (.int c2_), .val (.int c3_), .val (.int c4_), .val (.ref b378), .val (.ref ux382), .unset] [(.int c4_), (.int c3_), (.int c2_), (.int c1_), (.int (5 : Int32))])) rfl (by rw [hml]; rfl) (argsL := [(.int (5 : Int32)), (.int c1_), (.int c2_), (.int c3_), (.int c4_)]) (rest := []) (lenOf pd_18 rfl) rfl (by show 2 * 0 + _ ≤ _; exact Nat.le_of_eq rfl) (hb hby at_91) (fun _ _ => ⟨rfl, e382, (by decide : 7 + 0 ≤ _), (by decide : 30 + 0 ≤ _)⟩)
      dsimp only [Pt.U, Pt.locs, Pt.cells, Pt.slots] at X385 l385 y385 z385 st385 hQ385
      subst l385 y385 z385
      obtain ⟨rfl, N385q, e385⟩ := hQ385
      have N385 := Fr.app N382 N385q
      rw [(by simp [own_last5, s2, s3, s4] : own_last5 c1_ c2_ c3_ c4_ = 2)] at st385
      refine own_go st385 ?_
      show own_Go _ _ _ _ (T385.setTop (mkF m 94 #[.val (.int iv), .val (.int p1_), .val (.int p2_), .val (.int p3_), .val (.int p4_), .val (.int (5 : Int32)), .val (.int c1_), .val (.int c2_), .val (.int c3_), .val (.int c4_), .val (.ref b378), .val (.ref ux382), .unset] [(.int (2 : Int32))]))
      refine own_go (fun t k => XS.istore X385.here hx rfl (hb hby at_94) rfl (l' := #[.val (.int iv), .val (.int p1_), .val (.int p2_), .val (.int p3_), .val (.int p4_), .val (.int (5 : Int32)), .val (.int c1_), .val (.int c2_), .val (.int c3_), .val (.int c4_), .val (.ref b378), .val (.ref ux382), .val (.int (2 : Int32))]) rfl k) ?_
      show own_Go _ _ _ _ (T385.setTop (mkF m 96 #[.val (.int iv), .val (.int p1_), .val (.int p2_), .val (.int p3_), .val (.int p4_), .val (.int (5 : Int32)), .val (.int c1_), .val (.int c2_), .val (.int c3_), .val (.int c4_), .val (.ref b378), .val (.ref ux382), .val (.int (2 : Int32))] []))
      exact sg_tl2 hw X385 hlk hret hx hby hml hown hZ hS hk hh C382 e385 N385 Z382 iv p1_ p2_ p3_ p4_ zv gv h0 ux382 uy382 ky382 c1_ c2_ c3_ c4_ (f381.keep K382q all0) hzv S0 rgv G0 E382 Cd382 V382 A382 B1 B2 B3 B4 (by decide) (by decide)
    · have hy382 := A382.lt
      refine own_go (fun t k => XS.astore X382.here hx rfl (hb hby at_62) rfl rfl (l' := #[.val (.int iv), .val (.int p1_), .val (.int p2_), .val (.int p3_), .val (.int p4_), .val (.int (5 : Int32)), .val (.int c1_), .val (.int c2_), .val (.int c3_), .val (.int c4_), .val (.ref b378), .val (.ref ux382), .unset]) rfl k) ?_
      refine own_go (fun t k => XS.iload X382.here hx rfl (hb hby at_64) rfl k) ?_
      show own_Go _ _ _ _ (T382.setTop (mkF m 66 #[.val (.int iv), .val (.int p1_), .val (.int p2_), .val (.int p3_), .val (.int p4_), .val (.int (5 : Int32)), .val (.int c1_), .val (.int c2_), .val (.int c3_), .val (.int c4_), .val (.ref b378), .val (.ref ux382), .unset] [(.int (5 : Int32))]))
      refine own_go (fun t k => XS.iconst X382.here hx rfl (hb hby at_66) k) ?_
      show own_Go _ _ _ _ (T382.setTop (mkF m 67 #[.val (.int iv), .val (.int p1_), .val (.int p2_), .val (.int p3_), .val (.int p4_), .val (.int (5 : Int32)), .val (.int c1_), .val (.int c2_), .val (.int c3_), .val (.int c4_), .val (.ref b378), .val (.ref ux382), .unset] [(.int (1 : Int32)), (.int (5 : Int32))]))
      refine own_go (fun t k => XS.icmpYes X382.here hx rfl (pc0 := 67) (pc' := 81) rfl (hb hby at_67) rfl (feq (by decide : ¬ ((5 : Int32) = (1 : Int32)))).2 (by decide) (by decide) k) ?_
      refine own_go (fun t k => XS.iload X382.here hx rfl (hb hby at_81) rfl k) ?_
      refine own_go (fun t k => XS.iload X382.here hx rfl (hb hby at_83) rfl k) ?_
      refine own_go (fun t k => XS.iload X382.here hx rfl (hb hby at_85) rfl k) ?_
      refine own_go (fun t k => XS.iload X382.here hx rfl (hb hby at_87) rfl k) ?_
      refine own_go (fun t k => XS.iload X382.here hx rfl (hb hby at_89) rfl k) ?_
      obtain ⟨_, _, ⟨T386, L386, k386, n386⟩, -, X386, ⟨Lc386, hQ386, l386, y386, z386⟩, st386⟩ := Jvm.LawKit.callS X382 hx (y := (⟨"com/example/grantfold/grantfold/model/ConfigurationParentPinLaw", "lastSlash", "(ICCCC)I"⟩ : MethodName)) hown (mvT hZ (w_90 hw)) (mvT hZ (w_91 hw)) (mvT hZ (w_3 hw)) (mvT hZ (w_92 hw)) (by decide) (backOf (W := 0) (rm_ls_5 l Z a0 hw [] c1_ c2_ c3_ c4_ h382 n0 Z382 ) hZ (w_92 hw) (w_3 hw) (by decide) (by decide)) (g := (mkF m 91 #[.val (.int iv), .val (.int p1_), .val (.int p2_), .val (.int p3_), .val (.int p4_), .val (.int (5 : Int32)), .val (.int c1_), .val (.int c2_), .val (.int c3_), .val (.int c4_), .val (.ref b378), .val (.ref ux382), .unset] [(.int c4_), (.int c3_), (.int c2_), (.int c1_), (.int (5 : Int32))])) rfl (by rw [hml]; rfl) (argsL := [(.int (5 : Int32)), (.int c1_), (.int c2_), (.int c3_), (.int c4_)]) (rest := []) (lenOf pd_18 rfl) rfl (by show 2 * 0 + _ ≤ _; exact Nat.le_of_eq rfl) (hb hby at_91) (fun _ _ => ⟨rfl, e382, (by decide : 7 + 0 ≤ _), (by decide : 30 + 0 ≤ _)⟩)
      dsimp only [Pt.U, Pt.locs, Pt.cells, Pt.slots] at X386 l386 y386 z386 st386 hQ386
      subst l386 y386 z386
      obtain ⟨rfl, N386q, e386⟩ := hQ386
      have N386 := Fr.app N382 N386q
      rw [(by simp [own_last5, s3, s4] : own_last5 c1_ c2_ c3_ c4_ = 3)] at st386
      refine own_go st386 ?_
      show own_Go _ _ _ _ (T386.setTop (mkF m 94 #[.val (.int iv), .val (.int p1_), .val (.int p2_), .val (.int p3_), .val (.int p4_), .val (.int (5 : Int32)), .val (.int c1_), .val (.int c2_), .val (.int c3_), .val (.int c4_), .val (.ref b378), .val (.ref ux382), .unset] [(.int (3 : Int32))]))
      refine own_go (fun t k => XS.istore X386.here hx rfl (hb hby at_94) rfl (l' := #[.val (.int iv), .val (.int p1_), .val (.int p2_), .val (.int p3_), .val (.int p4_), .val (.int (5 : Int32)), .val (.int c1_), .val (.int c2_), .val (.int c3_), .val (.int c4_), .val (.ref b378), .val (.ref ux382), .val (.int (3 : Int32))]) rfl k) ?_
      show own_Go _ _ _ _ (T386.setTop (mkF m 96 #[.val (.int iv), .val (.int p1_), .val (.int p2_), .val (.int p3_), .val (.int p4_), .val (.int (5 : Int32)), .val (.int c1_), .val (.int c2_), .val (.int c3_), .val (.int c4_), .val (.ref b378), .val (.ref ux382), .val (.int (3 : Int32))] []))
      exact sg_tl3 hw X386 hlk hret hx hby hml hown hZ hS hk hh C382 e386 N386 Z382 iv p1_ p2_ p3_ p4_ zv gv h0 ux382 uy382 ky382 c1_ c2_ c3_ c4_ (f381.keep K382q all0) hzv S0 rgv G0 E382 Cd382 V382 A382 B1 B2 B3 B4 (by decide) (by decide)
    · have hy382 := A382.lt
      refine own_go (fun t k => XS.astore X382.here hx rfl (hb hby at_62) rfl rfl (l' := #[.val (.int iv), .val (.int p1_), .val (.int p2_), .val (.int p3_), .val (.int p4_), .val (.int (5 : Int32)), .val (.int c1_), .val (.int c2_), .val (.int c3_), .val (.int c4_), .val (.ref b378), .val (.ref ux382), .unset]) rfl k) ?_
      refine own_go (fun t k => XS.iload X382.here hx rfl (hb hby at_64) rfl k) ?_
      show own_Go _ _ _ _ (T382.setTop (mkF m 66 #[.val (.int iv), .val (.int p1_), .val (.int p2_), .val (.int p3_), .val (.int p4_), .val (.int (5 : Int32)), .val (.int c1_), .val (.int c2_), .val (.int c3_), .val (.int c4_), .val (.ref b378), .val (.ref ux382), .unset] [(.int (5 : Int32))]))
      refine own_go (fun t k => XS.iconst X382.here hx rfl (hb hby at_66) k) ?_
      show own_Go _ _ _ _ (T382.setTop (mkF m 67 #[.val (.int iv), .val (.int p1_), .val (.int p2_), .val (.int p3_), .val (.int p4_), .val (.int (5 : Int32)), .val (.int c1_), .val (.int c2_), .val (.int c3_), .val (.int c4_), .val (.ref b378), .val (.ref ux382), .unset] [(.int (1 : Int32)), (.int (5 : Int32))]))
      refine own_go (fun t k => XS.icmpYes X382.here hx rfl (pc0 := 67) (pc' := 81) rfl (hb hby at_67) rfl (feq (by decide : ¬ ((5 : Int32) = (1 : Int32)))).2 (by decide) (by decide) k) ?_
      refine own_go (fun t k => XS.iload X382.here hx rfl (hb hby at_81) rfl k) ?_
      refine own_go (fun t k => XS.iload X382.here hx rfl (hb hby at_83) rfl k) ?_
      refine own_go (fun t k => XS.iload X382.here hx rfl (hb hby at_85) rfl k) ?_
      refine own_go (fun t k => XS.iload X382.here hx rfl (hb hby at_87) rfl k) ?_
      refine own_go (fun t k => XS.iload X382.here hx rfl (hb hby at_89) rfl k) ?_
      obtain ⟨_, _, ⟨T387, L387, k387, n387⟩, -, X387, ⟨Lc387, hQ387, l387, y387, z387⟩, st387⟩ := Jvm.LawKit.callS X382 hx (y := (⟨"com/example/grantfold/grantfold/model/ConfigurationParentPinLaw", "lastSlash", "(ICCCC)I"⟩ : MethodName)) hown (mvT hZ (w_90 hw)) (mvT hZ (w_91 hw)) (mvT hZ (w_3 hw)) (mvT hZ (w_92 hw)) (by decide) (backOf (W := 0) (rm_ls_5 l Z a0 hw [] c1_ c2_ c3_ c4_ h382 n0 Z382 ) hZ (w_92 hw) (w_3 hw) (by decide) (by decide)) (g := (mkF m 91 #[.val (.int iv), .val (.int p1_), .val (.int p2_), .val (.int p3_), .val (.int p4_), .val (.int (5 : Int32)), .val (.int c1_), .val (.int c2_), .val (.int c3_), .val (.int c4_), .val (.ref b378), .val (.ref ux382), .unset] [(.int c4_), (.int c3_), (.int c2_), (.int c1_), (.int (5 : Int32))])) rfl (by rw [hml]; rfl) (argsL := [(.int (5 : Int32)), (.int c1_), (.int c2_), (.int c3_), (.int c4_)]) (rest := []) (lenOf pd_18 rfl) rfl (by show 2 * 0 + _ ≤ _; exact Nat.le_of_eq rfl) (hb hby at_91) (fun _ _ => ⟨rfl, e382, (by decide : 7 + 0 ≤ _), (by decide : 30 + 0 ≤ _)⟩)
      dsimp only [Pt.U, Pt.locs, Pt.cells, Pt.slots] at X387 l387 y387 z387 st387 hQ387
      subst l387 y387 z387
      obtain ⟨rfl, N387q, e387⟩ := hQ387
      have N387 := Fr.app N382 N387q
      rw [(by simp [own_last5, s4] : own_last5 c1_ c2_ c3_ c4_ = 4)] at st387
      refine own_go st387 ?_
      show own_Go _ _ _ _ (T387.setTop (mkF m 94 #[.val (.int iv), .val (.int p1_), .val (.int p2_), .val (.int p3_), .val (.int p4_), .val (.int (5 : Int32)), .val (.int c1_), .val (.int c2_), .val (.int c3_), .val (.int c4_), .val (.ref b378), .val (.ref ux382), .unset] [(.int (4 : Int32))]))
      refine own_go (fun t k => XS.istore X387.here hx rfl (hb hby at_94) rfl (l' := #[.val (.int iv), .val (.int p1_), .val (.int p2_), .val (.int p3_), .val (.int p4_), .val (.int (5 : Int32)), .val (.int c1_), .val (.int c2_), .val (.int c3_), .val (.int c4_), .val (.ref b378), .val (.ref ux382), .val (.int (4 : Int32))]) rfl k) ?_
      show own_Go _ _ _ _ (T387.setTop (mkF m 96 #[.val (.int iv), .val (.int p1_), .val (.int p2_), .val (.int p3_), .val (.int p4_), .val (.int (5 : Int32)), .val (.int c1_), .val (.int c2_), .val (.int c3_), .val (.int c4_), .val (.ref b378), .val (.ref ux382), .val (.int (4 : Int32))] []))
      exact sg_tl4 hw X387 hlk hret hx hby hml hown hZ hS hk hh C382 e387 N387 Z382 iv p1_ p2_ p3_ p4_ zv gv h0 ux382 uy382 ky382 c1_ c2_ c3_ c4_ (f381.keep K382q all0) hzv S0 rgv G0 E382 Cd382 V382 A382 B1 B2 B3 B4 (by decide) (by decide)
set_option maxRecDepth 65536 in
set_option maxHeartbeats 40000000 in
theorem comes_1 {Post : Tables → Env → Array Value → State → Outcome → State → Prop} (hpost : ∀ tb e args s v u, (limb_1_1.after args s (.returned v) u = true ∧ limb_1_2.after args s (.returned v) u = true ∧ True) → ReturnedEndW s (.returned v) u (Jvm.fieldLocs frame_1_writes args s ++ Jvm.arrayLocs frame_1_arrays args s ++ Jvm.staticLocs frame_1_statics s) 24 1152 → Post tb e args s (.returned v) u) :
    ArmFor flags0 classFile x code maxLocals ret World_1 tables_1 room_1 Calls_1 rest_1 Pre_1 Post := by
  intro l hfl _ _ p e ha hc hk s m args below hf hA hF happ hP
  obtain ⟨hcalls, hrest, hpre⟩ := hP
  obtain ⟨-, -, -, hnamed, -, -, -, hat⟩ := (Spec.applies_iff hf).mp happ
  obtain ⟨hg, hn⟩ := and_e (Cond.before_iff.mp (show (Jvm.Cond.and given_1 narrow_1).before args s = true from hpre))
  obtain ⟨g1, g2⟩ := and_e hg
  obtain ⟨g3, g4⟩ := and_e g2
  obtain ⟨g5, g6⟩ := and_e g4
  obtain ⟨g7, g8⟩ := and_e g6
  obtain ⟨g9, g10⟩ := and_e g8
  obtain ⟨w0, w1, w2, w3, w4, rfl⟩ : ∃ w0 w1 w2 w3 w4 : Value, args = #[w0, w1, w2, w3, w4] := by
    have hs : args.size = 5 := by simpa [Cond.value, given_1] using g1
    obtain ⟨L⟩ := args
    match L, hs with
    | [w0, w1, w2, w3, w4], _ => exact ⟨w0, w1, w2, w3, w4, rfl⟩
  have hw := fun d (hd : d ∈ tables_1) => atoms_spec (ws := Jvm.Cond.code x code maxLocals ret :: tables_1) hat d (List.mem_cons_of_mem _ hd)
  have hfit : Fit s := fun {y c} hc i hi => by
    obtain ⟨ha, rfl⟩ := Array.getElem?_eq_some_iff.mp hc
    have q := List.all_eq_true.mp ((Array.all_eq_true_iff_forall_mem.mp hF) _ (Array.getElem_mem ha)) i (List.mem_range.mpr hi)
    simpa [Array.getElem?_eq_getElem hi] using q
  obtain ⟨hsets, hown0⟩ := atoms_of _ (rest_1_c_eq ▸ (show rest_1_c.before _ s = true from hrest))
  have hr0 := Cond.before_iff.mp hown0
  obtain ⟨i0, ei0⟩ := is_v g3
  obtain rfl : w0 = (.int i0) := Option.some.inj ei0
  obtain ⟨i1, ei1⟩ := is_v g5
  obtain rfl : w1 = (.int i1) := Option.some.inj ei1
  obtain ⟨i2, ei2⟩ := is_v g7
  obtain rfl : w2 = (.int i2) := Option.some.inj ei2
  obtain ⟨i3, ei3⟩ := is_v g9
  obtain rfl : w3 = (.int i3) := Option.some.inj ei3
  obtain ⟨i4, ei4⟩ := is_v g10
  obtain rfl : w4 = (.int i4) := Option.some.inj ei4
  obtain ⟨zv, ezv⟩ := is_v (Cond.before_iff.mp (hsets _ (List.mem_of_getElem? (i := 1) rfl)))
  have hzv : ¬ zv = (0 : Int32) := gotF (Cond.eq_ints ezv (Term.int_eval (0))) (not_v (Cond.before_iff.mp (hsets _ (List.mem_of_getElem? (i := 2) rfl))))
  have S0 := Sta.start ezv (Or.inl (hsets _ (List.mem_of_getElem? (i := 0) rfl)))
  obtain ⟨gv, egv, rgv⟩ := isR_v (Cond.before_iff.mp (hsets _ (List.mem_of_getElem? (i := 8) rfl)))
  have G0 := Sta.start egv (Or.inl (hsets _ (List.mem_of_getElem? (i := 7) rfl)))
  have hH : CHv s consts_1 s.vm s.heap := CHv.start (own_EW hw) (own_held hcalls.1) (own_compact (zv := zv) ezv hzv) (w_27 hw) (w_6 hw)
  obtain ⟨n, o, h1, h2, h3, _, L, rfl, ⟨rfl, N⟩, -, hq⟩ := rm_law l s _ hw tables_1 i0 i1 i2 i3 i4 zv gv s.heap s.heap.size (Nat.le_refl _) (Old.start s) hzv S0 rgv G0 p e ha hc hk s m _ below hf ((Spec.applies_iff_loose hf).mp happ).1 ⟨rfl, State.Warmed39.refl s, rfl, hH⟩ trivial
  refine ⟨n, _, h1, h2, h3, hpost _ _ _ _ _ _ ⟨Cond.after_iff.mpr rfl, Cond.after_iff.mpr (eq_i res_at (Term.int_eval (1)) rfl), trivial⟩ ⟨hq.1, hq.2.1, hq.2.2.1, (hq.2.2.2.sift fun y hy => Or.inr (N y hy)).mono (by decide) (by decide)⟩⟩
theorem main_1_1 : Claimed_1_1 := comes_1 fun _ _ _ _ _ _ h hF => ⟨h.1, hF⟩
theorem main_1_2 : Claimed_1_2 := comes_1 fun _ _ _ _ _ _ h hF => ⟨h.2.1, hF⟩
end Jvm.Pilot.@@N@@
namespace Jvm.Pilot.@@N@@
open Jvm Jvm.ClassFile Sem Op Lib Jvm.Free Jvm.Stand Jvm.Pilot.@@N@@.Jvm.D
/-! MADE BY PROGRAM (witnessworld.py) out of the Statement's table words and the real class files: 23 classes; the members and pool entries that the words name. The judged class is class 1, her method 4. -/
namespace start1
open Jvm.ClassFile
def u (s : String) : CpInfo := .utf8 (stringToUtf16 s)
/-- a pool by its gaps: so many unusable entries, then the entry; so many at the end -/
def gap : Nat → List CpInfo → List CpInfo
  | 0, r => r
  | n + 1, r => .unusable :: gap n r
def poolList (es : List (Nat × CpInfo)) (last : Nat) : List CpInfo := es.foldr (fun e r => gap e.1 (e.2 :: r)) (gap last [])
def pool (es : List (Nat × CpInfo)) (last : Nat) : Array CpInfo := ⟨poolList es last⟩
def fileOf (pool : Array CpInfo) (this : Nat) (attrs : Array Attribute := #[]) (ms : Array MethodInfo := #[]) (fl : Nat := 33) (sup : Nat := 0) (ifs : Array Nat := #[]) (fds : Array FieldInfo := #[]) : ClassFile where
  minorVersion := 0
  majorVersion := 65
  constantPool := pool
  accessFlags := fl
  thisClass := this
  superClass := sup
  interfaces := ifs
  fields := fds
  methods := ms
  attributes := attrs
def plain (name : String) (sup : Option ClassId) : Class where
  name := name
  kind := .ordinary
  loader := none
  accessFlags := 33
  super := sup
  interfaces := #[]
  cf := none
  fields := #[]
  methods := #[]
  instanceTypes := #[]
  staticTypes := #[]
  resolved := #[]
  callSites := []
  init := .initialized
  statics := none
  mirror := none

def pool0 : Array CpInfo := pool [(5, u "<init>"), (0, u "()V"), (1, .class_ 10), (1, u "java/lang/Object")] 113

def k0c0 : Code := { maxStack := 0, maxLocals := 1, code := object_method_1_code, exceptionTable := #[], attributes := #[] }
def k0m0 : Method := { name := "<init>", desc := "()V", sig := { parameters := [], returnType := none }, accessFlags := 1, code := some k0c0 }
/-- java/lang/Object -/
def k0 : Class := { plain "java/lang/Object" none with
  accessFlags := 33
  interfaces := #[]
  cf := some (fileOf pool0 8 #[] #[{ accessFlags := 1, nameIndex := 5, descriptorIndex := 6, attributes := #[] }] 33 0 #[] #[])
  fields := #[]
  methods := #[k0m0]
  instanceTypes := #[]
  staticTypes := #[]
  resolved := Array.replicate 124 none
  statics := none }

def pool1 : Array CpInfo := pool [(2, .class_ 4), (1, u "java/lang/Object"), (0, u "<init>"), (0, u "()V"), (0, .integer 2147483647), (0, .methodref 9 10), (0, .class_ 11), (0, .nameAndType 12 13), (0, u "com/example/grantfold/grantfold/model/ConfigurationParentPinLaw"), (0, u "ch"), (0, u "(I)C"), (0, .class_ 15), (0, u "java/lang/String"), (0, .methodref 9 17), (0, .nameAndType 18 19), (0, u "chars"), (0, u "(ICCCC)[C"), (0, .methodref 14 21), (0, .nameAndType 5 22), (0, u "([C)V"), (0, .methodref 24 25), (0, .class_ 26), (0, .nameAndType 27 28), (0, u "com/example/grantfold/grantfold/model/Configuration"), (0, u "parent"), (0, u "(Ljava/lang/String;)Ljava/lang/String;"), (0, .methodref 9 30), (0, .nameAndType 31 32), (0, u "lastSlash"), (0, u "(ICCCC)I"), (0, .methodref 14 34), (0, .nameAndType 35 36), (0, u "length"), (0, u "()I"), (0, .methodref 14 38), (0, .nameAndType 39 13), (0, u "charAt"), (3, u "law"), (0, u "(IIIII)Z")] 2

def k1m0 : Method := { name := "<init>", desc := "()V", sig := { parameters := [], returnType := none }, accessFlags := 2, code := none }
def k1c1 : Code := { maxStack := 2, maxLocals := 1, code := method_2_code, exceptionTable := #[], attributes := #[] }
def k1m1 : Method := { name := "ch", desc := "(I)C", sig := { parameters := [.int], returnType := some .char }, accessFlags := 10, code := some k1c1 }
def k1c2 : Code := { maxStack := 4, maxLocals := 5, code := method_3_code, exceptionTable := #[], attributes := #[] }
def k1m2 : Method := { name := "chars", desc := "(ICCCC)[C", sig := { parameters := [.int, .char, .char, .char, .char], returnType := some (.array .char) }, accessFlags := 10, code := some k1c2 }
def k1c3 : Code := { maxStack := 2, maxLocals := 5, code := method_4_code, exceptionTable := #[], attributes := #[] }
def k1m3 : Method := { name := "lastSlash", desc := "(ICCCC)I", sig := { parameters := [.int, .char, .char, .char, .char], returnType := some .int }, accessFlags := 10, code := some k1c3 }
def k1c4 : Code := { maxStack := 7, maxLocals := 13, code := code, exceptionTable := #[], attributes := #[] }
def k1m4 : Method := { name := "law", desc := "(IIIII)Z", sig := { parameters := [.int, .int, .int, .int, .int], returnType := some .boolean }, accessFlags := 9, code := some k1c4 }
/-- com/example/grantfold/grantfold/model/ConfigurationParentPinLaw -/
def k1 : Class := { plain "com/example/grantfold/grantfold/model/ConfigurationParentPinLaw" (some 0) with
  accessFlags := 49
  interfaces := #[]
  cf := some (fileOf pool1 9 #[] #[{ accessFlags := 2, nameIndex := 5, descriptorIndex := 6, attributes := #[] }, { accessFlags := 10, nameIndex := 12, descriptorIndex := 13, attributes := #[] }, { accessFlags := 10, nameIndex := 18, descriptorIndex := 19, attributes := #[] }, { accessFlags := 10, nameIndex := 31, descriptorIndex := 32, attributes := #[] }, { accessFlags := 9, nameIndex := 43, descriptorIndex := 44, attributes := #[] }] 49 2 #[] #[])
  fields := #[]
  methods := #[k1m0, k1m1, k1m2, k1m3, k1m4]
  instanceTypes := #[]
  staticTypes := #[]
  resolved := Array.replicate 47 none
  statics := none }

def pool2 : Array CpInfo := pool [(1, .class_ 2), (0, u "java/io/Serializable"), (0, .class_ 4), (0, u "java/lang/Object")] 2

/-- java/io/Serializable -/
def k2 : Class := { plain "java/io/Serializable" (some 0) with
  accessFlags := 1537
  interfaces := #[]
  cf := some (fileOf pool2 1 #[] #[] 1537 3 #[] #[])
  fields := #[]
  methods := #[]
  instanceTypes := #[]
  staticTypes := #[]
  resolved := Array.replicate 7 none
  statics := none }

def pool3 : Array CpInfo := pool [(1, .class_ 2), (0, u "java/lang/Comparable"), (0, .class_ 4), (0, u "java/lang/Object")] 7

/-- java/lang/Comparable -/
def k3 : Class := { plain "java/lang/Comparable" (some 0) with
  accessFlags := 1537
  interfaces := #[]
  cf := some (fileOf pool3 1 #[] #[] 1537 3 #[] #[])
  fields := #[]
  methods := #[]
  instanceTypes := #[]
  staticTypes := #[]
  resolved := Array.replicate 12 none
  statics := none }

def pool4 : Array CpInfo := pool [(2, .class_ 4), (1, u "java/lang/CharSequence"), (42, .class_ 48), (0, u "java/lang/CharSequence$1CodePointIterator"), (10, .class_ 60), (0, u "java/lang/CharSequence$1CharIterator"), (5, .class_ 67), (0, u "java/lang/Object")] 63

/-- java/lang/CharSequence -/
def k4 : Class := { plain "java/lang/CharSequence" (some 0) with
  accessFlags := 1537
  interfaces := #[]
  cf := some (fileOf pool4 2 #[.nestMembers #[47, 59]] #[] 1537 66 #[] #[])
  fields := #[]
  methods := #[]
  instanceTypes := #[]
  staticTypes := #[]
  resolved := Array.replicate 131 none
  statics := none }

def pool5 : Array CpInfo := pool [(1, .class_ 2), (0, u "java/lang/constant/Constable"), (0, .class_ 4), (0, u "java/lang/Object")] 6

/-- java/lang/constant/Constable -/
def k5 : Class := { plain "java/lang/constant/Constable" (some 0) with
  accessFlags := 1537
  interfaces := #[]
  cf := some (fileOf pool5 1 #[] #[] 1537 3 #[] #[])
  fields := #[]
  methods := #[]
  instanceTypes := #[]
  staticTypes := #[]
  resolved := Array.replicate 11 none
  statics := none }

def pool6 : Array CpInfo := pool [(1, .class_ 2), (0, u "java/lang/constant/ConstantDesc"), (0, .class_ 4), (0, u "java/lang/Object")] 32

/-- java/lang/constant/ConstantDesc -/
def k6 : Class := { plain "java/lang/constant/ConstantDesc" (some 0) with
  accessFlags := 1537
  interfaces := #[]
  cf := some (fileOf pool6 1 #[] #[] 1537 3 #[] #[])
  fields := #[]
  methods := #[]
  instanceTypes := #[]
  staticTypes := #[]
  resolved := Array.replicate 37 none
  statics := none }

def pool7 : Array CpInfo := pool [(1, .methodref 2 3), (0, .class_ 4), (0, .nameAndType 5 6), (0, u "java/lang/Object"), (0, u "<init>"), (0, u "()V"), (2, .fieldref 10 11), (0, .class_ 12), (0, .nameAndType 13 14), (0, u "java/lang/String"), (0, u "value"), (0, u "[B"), (0, .fieldref 10 16), (0, .nameAndType 17 18), (0, u "coder"), (0, u "B"), (2, u "hash"), (0, u "I"), (2, u "hashIsZero"), (0, u "Z"), (0, .methodref 10 28), (0, .nameAndType 5 29), (0, u "([CIILjava/lang/Void;)V"), (8, .fieldref 10 39), (0, .nameAndType 40 26), (0, u "COMPACT_STRINGS"), (1, .class_ 44), (1, u "java/lang/StringUTF16"), (0, u "compress"), (1, .methodref 42 48), (0, .nameAndType 49 50), (0, u "coderFromArrayLen"), (0, u "([BI)B"), (46, u "([BII)I"), (9, .class_ 109), (1, u "java/lang/StringLatin1"), (32, u "()Z"), (34, .methodref 42 178), (0, .nameAndType 45 179), (0, u "([CII)[B"), (31, u "([BB)V"), (122, u "()I"), (0, .methodref 10 336), (0, .nameAndType 17 337), (0, u "()B"), (25, u "([BI)C"), (27, u "(II)V"), (35, u "(I)C"), (64, .methodref 10 493), (0, .nameAndType 494 142), (0, u "isLatin1"), (0, .methodref 107 496), (0, .nameAndType 497 363), (0, u "charAt"), (3, u "checkIndex"), (3, .methodref 10 506), (0, .nameAndType 507 334), (0, u "length"), (5, u "checkFromToIndex"), (7, .methodref 10 522), (0, .nameAndType 523 524), (0, u "checkBoundsBeginEnd"), (0, u "(III)V"), (16, .methodref 107 542), (0, .nameAndType 543 544), (0, u "equals"), (0, u "([B[B)Z"), (28, u "(Ljava/lang/Object;)Z"), (1, .class_ 576), (0, u "java/lang/CharSequence"), (22, u "CASE_INSENSITIVE_ORDER"), (0, u "Ljava/util/Comparator;"), (35, u "(II)I"), (4, .methodref 10 642), (0, .nameAndType 643 636), (0, u "lastIndexOf"), (0, .methodref 107 645), (0, .nameAndType 643 97), (37, u "substring"), (0, u "(II)Ljava/lang/String;"), (0, .methodref 107 686), (0, .nameAndType 687 688), (0, u "newString"), (0, u "([BII)Ljava/lang/String;"), (76, u "(I)I"), (244, u "([C)V"), (42, .fieldref 1054 1055), (0, .class_ 1056), (0, .nameAndType 1057 1058), (0, u "jdk/internal/util/Preconditions"), (0, u "SIOOBE_FORMATTER"), (0, u "Ljava/util/function/BiFunction;"), (0, .methodref 1054 1060), (0, .nameAndType 501 1061), (0, u "(IILjava/util/function/BiFunction;)I"), (0, .methodref 1054 1063), (0, .nameAndType 513 1064), (0, u "(IIILjava/util/function/BiFunction;)I"), (36, u "serialPersistentFields"), (0, u "[Ljava/io/ObjectStreamField;"), (0, .class_ 1104), (0, u "java/lang/String$CaseInsensitiveComparator"), (1, .class_ 1107), (0, u "java/io/Serializable"), (0, .class_ 1109), (0, u "java/lang/Comparable"), (0, .class_ 1111), (0, u "java/lang/constant/Constable"), (0, .class_ 1113), (0, u "java/lang/constant/ConstantDesc"), (2, u "serialVersionUID"), (0, u "J"), (3, u "REPL"), (0, u "C"), (2, u "LATIN1"), (1, u "UTF16")] 323

def k7m0 : Method := { name := "<init>", desc := "()V", sig := { parameters := [], returnType := none }, accessFlags := 1, code := none }
def k7c1 : Code := { maxStack := 5, maxLocals := 2, code := jdk_42_method_3_code, exceptionTable := #[], attributes := #[] }
def k7m1 : Method := { name := "<init>", desc := "([C)V", sig := { parameters := [(.array .char)], returnType := none }, accessFlags := 1, code := some k7c1 }
def k7c2 : Code := { maxStack := 2, maxLocals := 1, code := jdk_42_method_54_code, exceptionTable := #[], attributes := #[] }
def k7m2 : Method := { name := "length", desc := "()I", sig := { parameters := [], returnType := some .int }, accessFlags := 1, code := some k7c2 }
def k7c3 : Code := { maxStack := 2, maxLocals := 2, code := jdk_42_method_56_code, exceptionTable := #[], attributes := #[] }
def k7m3 : Method := { name := "charAt", desc := "(I)C", sig := { parameters := [.int], returnType := some .char }, accessFlags := 1, code := some k7c3 }
def k7c4 : Code := { maxStack := 2, maxLocals := 3, code := jdk_42_method_66_code, exceptionTable := #[], attributes := #[] }
def k7m4 : Method := { name := "equals", desc := "(Ljava/lang/Object;)Z", sig := { parameters := [(.object "java/lang/Object")], returnType := some .boolean }, accessFlags := 1, code := some k7c4 }
def k7c5 : Code := { maxStack := 4, maxLocals := 2, code := jdk_42_method_82_code, exceptionTable := #[], attributes := #[] }
def k7m5 : Method := { name := "lastIndexOf", desc := "(I)I", sig := { parameters := [.int], returnType := some .int }, accessFlags := 1, code := some k7c5 }
def k7c6 : Code := { maxStack := 3, maxLocals := 3, code := jdk_42_method_83_code, exceptionTable := #[], attributes := #[] }
def k7m6 : Method := { name := "lastIndexOf", desc := "(II)I", sig := { parameters := [.int, .int], returnType := some .int }, accessFlags := 1, code := some k7c6 }
def k7c7 : Code := { maxStack := 3, maxLocals := 5, code := jdk_42_method_92_code, exceptionTable := #[], attributes := #[] }
def k7m7 : Method := { name := "substring", desc := "(II)Ljava/lang/String;", sig := { parameters := [.int, .int], returnType := some (.object "java/lang/String") }, accessFlags := 1, code := some k7c7 }
def k7c8 : Code := { maxStack := 4, maxLocals := 6, code := jdk_42_method_149_code, exceptionTable := #[], attributes := #[] }
def k7m8 : Method := { name := "<init>", desc := "([CIILjava/lang/Void;)V", sig := { parameters := [(.array .char), .int, .int, (.object "java/lang/Void")], returnType := none }, accessFlags := 2, code := some k7c8 }
def k7c9 : Code := { maxStack := 2, maxLocals := 3, code := jdk_42_method_151_code, exceptionTable := #[], attributes := #[] }
def k7m9 : Method := { name := "<init>", desc := "([BB)V", sig := { parameters := [(.array .byte), .byte], returnType := none }, accessFlags := 0, code := some k7c9 }
def k7c10 : Code := { maxStack := 1, maxLocals := 1, code := jdk_42_method_152_code, exceptionTable := #[], attributes := #[] }
def k7m10 : Method := { name := "coder", desc := "()B", sig := { parameters := [], returnType := some .byte }, accessFlags := 0, code := some k7c10 }
def k7c11 : Code := { maxStack := 1, maxLocals := 1, code := jdk_42_method_154_code, exceptionTable := #[], attributes := #[] }
def k7m11 : Method := { name := "isLatin1", desc := "()Z", sig := { parameters := [], returnType := some .boolean }, accessFlags := 0, code := some k7c11 }
def k7c12 : Code := { maxStack := 3, maxLocals := 2, code := jdk_42_method_155_code, exceptionTable := #[], attributes := #[] }
def k7m12 : Method := { name := "checkIndex", desc := "(II)V", sig := { parameters := [.int, .int], returnType := none }, accessFlags := 8, code := some k7c12 }
def k7c13 : Code := { maxStack := 4, maxLocals := 3, code := jdk_42_method_158_code, exceptionTable := #[], attributes := #[] }
def k7m13 : Method := { name := "checkBoundsBeginEnd", desc := "(III)V", sig := { parameters := [.int, .int, .int], returnType := none }, accessFlags := 8, code := some k7c13 }
/-- java/lang/String -/
def k7 : Class := { plain "java/lang/String" (some 0) with
  accessFlags := 49
  interfaces := #[2, 3, 4, 5, 6]
  cf := some (fileOf pool7 10 #[.nestMembers #[1103]] #[{ accessFlags := 1, nameIndex := 5, descriptorIndex := 6, attributes := #[] }, { accessFlags := 1, nameIndex := 5, descriptorIndex := 1010, attributes := #[] }, { accessFlags := 1, nameIndex := 507, descriptorIndex := 334, attributes := #[] }, { accessFlags := 1, nameIndex := 497, descriptorIndex := 427, attributes := #[] }, { accessFlags := 1, nameIndex := 543, descriptorIndex := 573, attributes := #[] }, { accessFlags := 1, nameIndex := 643, descriptorIndex := 765, attributes := #[] }, { accessFlags := 1, nameIndex := 643, descriptorIndex := 636, attributes := #[] }, { accessFlags := 1, nameIndex := 683, descriptorIndex := 684, attributes := #[] }, { accessFlags := 2, nameIndex := 5, descriptorIndex := 29, attributes := #[] }, { accessFlags := 0, nameIndex := 5, descriptorIndex := 211, attributes := #[] }, { accessFlags := 0, nameIndex := 17, descriptorIndex := 337, attributes := #[] }, { accessFlags := 0, nameIndex := 494, descriptorIndex := 142, attributes := #[] }, { accessFlags := 8, nameIndex := 501, descriptorIndex := 391, attributes := #[] }, { accessFlags := 8, nameIndex := 523, descriptorIndex := 524, attributes := #[] }] 49 2 #[1106, 1108, 575, 1110, 1112] #[{ accessFlags := 18, nameIndex := 13, descriptorIndex := 14, attributes := #[] }, { accessFlags := 18, nameIndex := 17, descriptorIndex := 18, attributes := #[] }, { accessFlags := 2, nameIndex := 21, descriptorIndex := 22, attributes := #[] }, { accessFlags := 2, nameIndex := 25, descriptorIndex := 26, attributes := #[] }, { accessFlags := 26, nameIndex := 1116, descriptorIndex := 1117, attributes := #[] }, { accessFlags := 24, nameIndex := 40, descriptorIndex := 26, attributes := #[] }, { accessFlags := 26, nameIndex := 1101, descriptorIndex := 1102, attributes := #[] }, { accessFlags := 26, nameIndex := 1121, descriptorIndex := 1122, attributes := #[] }, { accessFlags := 25, nameIndex := 599, descriptorIndex := 600, attributes := #[] }, { accessFlags := 24, nameIndex := 1125, descriptorIndex := 18, attributes := #[] }, { accessFlags := 24, nameIndex := 1127, descriptorIndex := 18, attributes := #[] }])
  fields := #[{ name := "value", type := (.array .byte), accessFlags := 18, slot := 0, constantValue := 0 }, { name := "coder", type := .byte, accessFlags := 18, slot := 1, constantValue := 0 }, { name := "hash", type := .int, accessFlags := 2, slot := 2, constantValue := 0 }, { name := "hashIsZero", type := .boolean, accessFlags := 2, slot := 3, constantValue := 0 }, { name := "serialVersionUID", type := .long, accessFlags := 26, slot := 0, constantValue := 0 }, { name := "COMPACT_STRINGS", type := .boolean, accessFlags := 24, slot := 1, constantValue := 0 }, { name := "serialPersistentFields", type := (.array (.object "java/io/ObjectStreamField")), accessFlags := 26, slot := 2, constantValue := 0 }, { name := "REPL", type := .char, accessFlags := 26, slot := 3, constantValue := 0 }, { name := "CASE_INSENSITIVE_ORDER", type := (.object "java/util/Comparator"), accessFlags := 25, slot := 4, constantValue := 0 }, { name := "LATIN1", type := .byte, accessFlags := 24, slot := 5, constantValue := 0 }, { name := "UTF16", type := .byte, accessFlags := 24, slot := 6, constantValue := 0 }]
  methods := #[k7m0, k7m1, k7m2, k7m3, k7m4, k7m5, k7m6, k7m7, k7m8, k7m9, k7m10, k7m11, k7m12, k7m13]
  instanceTypes := #[(.array .byte), .byte, .int, .boolean]
  staticTypes := #[.long, .boolean, (.array (.object "java/io/ObjectStreamField")), .char, (.object "java/util/Comparator"), .byte, .byte]
  resolved := Array.replicate 1451 none
  statics := some 0 }

def pool8 : Array CpInfo := pool [(6, .class_ 8), (1, u "java/lang/Object"), (0, u "<init>"), (0, u "()V"), (1, .class_ 14), (1, u "java/lang/StringUTF16"), (31, u "$assertionsDisabled"), (0, u "Z"), (13, u "HI_BYTE_SHIFT"), (0, u "I"), (2, u "LO_BYTE_SHIFT"), (49, .methodref 12 116), (0, .nameAndType 117 118), (0, u "compress"), (0, u "([CI[BII)I"), (3, u "([CII)[B"), (138, u "coderFromArrayLen"), (0, u "([BI)B"), (106, .class_ 371), (1, u "java/lang/StringUTF16$LinesSpliterator"), (58, u "MAX_LENGTH"), (196, .class_ 628), (0, u "java/lang/StringUTF16$CodePointsSpliterator"), (0, .class_ 630), (0, u "java/lang/StringUTF16$CharsSpliterator")] 4

def k8m0 : Method := { name := "<init>", desc := "()V", sig := { parameters := [], returnType := none }, accessFlags := 0, code := none }
def k8c1 : Code := { maxStack := 2, maxLocals := 2, code := jdk_52_method_15_code, exceptionTable := #[], attributes := #[] }
def k8m1 : Method := { name := "coderFromArrayLen", desc := "([BI)B", sig := { parameters := [(.array .byte), .int], returnType := some .byte }, accessFlags := 8, code := some k8c1 }
def k8c2 : Code := { maxStack := 5, maxLocals := 6, code := jdk_52_method_16_code, exceptionTable := #[], attributes := #[] }
def k8m2 : Method := { name := "compress", desc := "([CII)[B", sig := { parameters := [(.array .char), .int, .int], returnType := some (.array .byte) }, accessFlags := 9, code := some k8c2 }
def k8c3 : Code := { maxStack := 3, maxLocals := 7, code := jdk_52_method_21_code, exceptionTable := #[], attributes := #[] }
def k8m3 : Method := { name := "compress", desc := "([CI[BII)I", sig := { parameters := [(.array .char), .int, (.array .byte), .int, .int], returnType := some .int }, accessFlags := 9, code := some k8c3 }
/-- java/lang/StringUTF16 -/
def k8 : Class := { plain "java/lang/StringUTF16" (some 0) with
  accessFlags := 48
  interfaces := #[]
  cf := some (fileOf pool8 12 #[.nestMembers #[627, 629, 369]] #[{ accessFlags := 0, nameIndex := 9, descriptorIndex := 10, attributes := #[] }, { accessFlags := 8, nameIndex := 261, descriptorIndex := 262, attributes := #[] }, { accessFlags := 9, nameIndex := 117, descriptorIndex := 122, attributes := #[] }, { accessFlags := 9, nameIndex := 117, descriptorIndex := 118, attributes := #[] }] 48 6 #[] #[{ accessFlags := 26, nameIndex := 61, descriptorIndex := 62, attributes := #[] }, { accessFlags := 26, nameIndex := 65, descriptorIndex := 62, attributes := #[] }, { accessFlags := 24, nameIndex := 430, descriptorIndex := 62, attributes := #[] }, { accessFlags := 4120, nameIndex := 46, descriptorIndex := 47, attributes := #[] }])
  fields := #[{ name := "HI_BYTE_SHIFT", type := .int, accessFlags := 26, slot := 0, constantValue := 0 }, { name := "LO_BYTE_SHIFT", type := .int, accessFlags := 26, slot := 1, constantValue := 0 }, { name := "MAX_LENGTH", type := .int, accessFlags := 24, slot := 2, constantValue := 0 }, { name := "$assertionsDisabled", type := .boolean, accessFlags := 4120, slot := 3, constantValue := 0 }]
  methods := #[k8m0, k8m1, k8m2, k8m3]
  instanceTypes := #[]
  staticTypes := #[.int, .int, .int, .boolean]
  resolved := Array.replicate 635 none
  statics := none }

def pool9 : Array CpInfo := pool [(2, .class_ 4), (1, u "java/lang/Object"), (0, u "<init>"), (0, u "()V"), (4, .class_ 13), (1, u "com/example/grantfold/grantfold/model/Configuration"), (0, u "departments"), (0, u "Ljava/util/Map;"), (2, u "roles"), (2, u "users"), (2, u "objects"), (2, u "settings"), (2, u "namedDimensions"), (5, u "Lcom/example/grantfold/grantfold/model/Combine;"), (2, u "combine"), (0, .string 41), (0, u "/"), (11, .methodref 54 55), (0, .class_ 56), (0, .nameAndType 57 58), (0, u "java/lang/String"), (0, u "equals"), (0, u "(Ljava/lang/Object;)Z"), (0, .methodref 54 60), (0, .nameAndType 61 62), (0, u "lastIndexOf"), (0, u "(I)I"), (0, .methodref 54 64), (0, .nameAndType 65 66), (0, u "substring"), (0, u "(II)Ljava/lang/String;"), (26, u "parent"), (0, u "(Ljava/lang/String;)Ljava/lang/String;"), (58, u "ROOT"), (0, u "Ljava/lang/String;")] 67

def k9m0 : Method := { name := "<init>", desc := "()V", sig := { parameters := [], returnType := none }, accessFlags := 1, code := none }
def k9c1 : Code := { maxStack := 3, maxLocals := 2, code := prog_15_method_2_code, exceptionTable := #[], attributes := #[] }
def k9m1 : Method := { name := "parent", desc := "(Ljava/lang/String;)Ljava/lang/String;", sig := { parameters := [(.object "java/lang/String")], returnType := some (.object "java/lang/String") }, accessFlags := 9, code := some k9c1 }
/-- com/example/grantfold/grantfold/model/Configuration -/
def k9 : Class := { plain "com/example/grantfold/grantfold/model/Configuration" (some 0) with
  accessFlags := 49
  interfaces := #[]
  cf := some (fileOf pool9 11 #[] #[{ accessFlags := 1, nameIndex := 5, descriptorIndex := 6, attributes := #[] }, { accessFlags := 9, nameIndex := 93, descriptorIndex := 94, attributes := #[] }] 49 2 #[] #[{ accessFlags := 25, nameIndex := 153, descriptorIndex := 154, attributes := #[] }, { accessFlags := 18, nameIndex := 14, descriptorIndex := 15, attributes := #[] }, { accessFlags := 18, nameIndex := 18, descriptorIndex := 15, attributes := #[] }, { accessFlags := 18, nameIndex := 21, descriptorIndex := 15, attributes := #[] }, { accessFlags := 18, nameIndex := 24, descriptorIndex := 15, attributes := #[] }, { accessFlags := 18, nameIndex := 27, descriptorIndex := 15, attributes := #[] }, { accessFlags := 18, nameIndex := 30, descriptorIndex := 15, attributes := #[] }, { accessFlags := 2, nameIndex := 39, descriptorIndex := 36, attributes := #[] }])
  fields := #[{ name := "ROOT", type := (.object "java/lang/String"), accessFlags := 25, slot := 0, constantValue := 0 }, { name := "departments", type := (.object "java/util/Map"), accessFlags := 18, slot := 0, constantValue := 0 }, { name := "roles", type := (.object "java/util/Map"), accessFlags := 18, slot := 1, constantValue := 0 }, { name := "users", type := (.object "java/util/Map"), accessFlags := 18, slot := 2, constantValue := 0 }, { name := "objects", type := (.object "java/util/Map"), accessFlags := 18, slot := 3, constantValue := 0 }, { name := "settings", type := (.object "java/util/Map"), accessFlags := 18, slot := 4, constantValue := 0 }, { name := "namedDimensions", type := (.object "java/util/Map"), accessFlags := 18, slot := 5, constantValue := 0 }, { name := "combine", type := (.object "com/example/grantfold/grantfold/model/Combine"), accessFlags := 2, slot := 6, constantValue := 0 }]
  methods := #[k9m0, k9m1]
  instanceTypes := #[(.object "java/util/Map"), (.object "java/util/Map"), (.object "java/util/Map"), (.object "java/util/Map"), (.object "java/util/Map"), (.object "java/util/Map"), (.object "com/example/grantfold/grantfold/model/Combine")]
  staticTypes := #[(.object "java/lang/String")]
  resolved := Array.replicate 222 none
  statics := none }

def pool10 : Array CpInfo := pool [(1, .class_ 2), (0, u "java/lang/String"), (1, .class_ 6), (1, u "java/lang/Object"), (0, u "<init>"), (0, u "()V"), (0, .methodref 1 10), (0, .nameAndType 11 12), (0, u "checkIndex"), (0, u "(II)V"), (1, .class_ 16), (1, u "java/lang/StringLatin1"), (21, .methodref 39 40), (0, .class_ 41), (0, .nameAndType 42 43), (0, u "java/lang/Math"), (0, u "min"), (0, u "(II)I"), (9, u "([BI)C"), (34, .methodref 14 89), (0, .nameAndType 90 91), (0, u "canEncode"), (0, u "(I)Z"), (20, .methodref 1 113), (0, .nameAndType 7 114), (0, u "([BB)V"), (6, u "$assertionsDisabled"), (0, u "Z"), (8, .class_ 133), (1, u "java/util/Arrays"), (62, u "newString"), (0, u "([BII)Ljava/lang/String;"), (23, .class_ 223), (1, u "java/lang/StringLatin1$LinesSpliterator"), (8, .methodref 131 233), (0, .nameAndType 234 235), (0, u "copyOfRange"), (0, u "([BII)[B"), (16, u "charAt"), (8, u "([BII)I"), (19, u "equals"), (0, u "([B[B)Z"), (26, u "lastIndexOf"), (80, .class_ 391), (0, u "java/lang/StringLatin1$CharsSpliterator")] 3

def k10m0 : Method := { name := "<init>", desc := "()V", sig := { parameters := [], returnType := none }, accessFlags := 0, code := none }
def k10c1 : Code := { maxStack := 2, maxLocals := 2, code := jdk_43_method_2_code, exceptionTable := #[], attributes := #[] }
def k10m1 : Method := { name := "charAt", desc := "([BI)C", sig := { parameters := [(.array .byte), .int], returnType := some .char }, accessFlags := 9, code := some k10c1 }
def k10c2 : Code := { maxStack := 2, maxLocals := 1, code := jdk_43_method_4_code, exceptionTable := #[], attributes := #[] }
def k10m2 : Method := { name := "canEncode", desc := "(I)Z", sig := { parameters := [.int], returnType := some .boolean }, accessFlags := 9, code := some k10c2 }
def k10c3 : Code := { maxStack := 3, maxLocals := 3, code := jdk_43_method_13_code, exceptionTable := #[], attributes := #[] }
def k10m3 : Method := { name := "equals", desc := "([B[B)Z", sig := { parameters := [(.array .byte), (.array .byte)], returnType := some .boolean }, accessFlags := 9, code := some k10c3 }
def k10c4 : Code := { maxStack := 3, maxLocals := 4, code := jdk_43_method_27_code, exceptionTable := #[], attributes := #[] }
def k10m4 : Method := { name := "lastIndexOf", desc := "([BII)I", sig := { parameters := [(.array .byte), .int, .int], returnType := some .int }, accessFlags := 9, code := some k10c4 }
def k10c5 : Code := { maxStack := 6, maxLocals := 3, code := jdk_43_method_47_code, exceptionTable := #[], attributes := #[] }
def k10m5 : Method := { name := "newString", desc := "([BII)Ljava/lang/String;", sig := { parameters := [(.array .byte), .int, .int], returnType := some (.object "java/lang/String") }, accessFlags := 9, code := some k10c5 }
/-- java/lang/StringLatin1 -/
def k10 : Class := { plain "java/lang/StringLatin1" (some 0) with
  accessFlags := 48
  interfaces := #[]
  cf := some (fileOf pool10 14 #[.nestMembers #[390, 221]] #[{ accessFlags := 0, nameIndex := 7, descriptorIndex := 8, attributes := #[] }, { accessFlags := 9, nameIndex := 252, descriptorIndex := 53, attributes := #[] }, { accessFlags := 9, nameIndex := 90, descriptorIndex := 91, attributes := #[] }, { accessFlags := 9, nameIndex := 281, descriptorIndex := 282, attributes := #[] }, { accessFlags := 9, nameIndex := 309, descriptorIndex := 261, attributes := #[] }, { accessFlags := 9, nameIndex := 196, descriptorIndex := 197, attributes := #[] }] 48 4 #[] #[{ accessFlags := 4120, nameIndex := 121, descriptorIndex := 122, attributes := #[] }])
  fields := #[{ name := "$assertionsDisabled", type := .boolean, accessFlags := 4120, slot := 0, constantValue := 0 }]
  methods := #[k10m0, k10m1, k10m2, k10m3, k10m4, k10m5]
  instanceTypes := #[]
  staticTypes := #[.boolean]
  resolved := Array.replicate 395 none
  statics := none }

def pool11 : Array CpInfo := pool [(1, .class_ 2), (0, u "java/lang/Math"), (1, .class_ 6), (1, u "java/lang/Object"), (0, u "<init>"), (0, u "()V"), (89, .class_ 100), (1, u "java/lang/Math$RandomNumberGeneratorHolder"), (71, u "negativeZeroFloatBits"), (0, u "J"), (2, u "negativeZeroDoubleBits"), (24, u "min"), (43, u "$assertionsDisabled"), (0, u "Z"), (88, u "(II)I"), (2, u "twoToTheDoubleScaleDown"), (0, u "D"), (4, u "twoToTheDoubleScaleUp"), (9, u "E"), (3, u "PI"), (2, u "TAU"), (2, u "DEGREES_TO_RADIANS"), (0, u "RADIANS_TO_DEGREES")] 94

def k11m0 : Method := { name := "<init>", desc := "()V", sig := { parameters := [], returnType := none }, accessFlags := 2, code := none }
def k11c1 : Code := { maxStack := 2, maxLocals := 2, code := jdk_29_method_69_code, exceptionTable := #[], attributes := #[] }
def k11m1 : Method := { name := "min", desc := "(II)I", sig := { parameters := [.int, .int], returnType := some .int }, accessFlags := 9, code := some k11c1 }
/-- java/lang/Math -/
def k11 : Class := { plain "java/lang/Math" (some 0) with
  accessFlags := 49
  interfaces := #[]
  cf := some (fileOf pool11 1 #[.nestMembers #[98]] #[{ accessFlags := 2, nameIndex := 7, descriptorIndex := 8, attributes := #[] }, { accessFlags := 9, nameIndex := 201, descriptorIndex := 335, attributes := #[] }] 49 4 #[] #[{ accessFlags := 25, nameIndex := 354, descriptorIndex := 339, attributes := #[] }, { accessFlags := 25, nameIndex := 358, descriptorIndex := 339, attributes := #[] }, { accessFlags := 25, nameIndex := 361, descriptorIndex := 339, attributes := #[] }, { accessFlags := 26, nameIndex := 364, descriptorIndex := 339, attributes := #[] }, { accessFlags := 26, nameIndex := 365, descriptorIndex := 339, attributes := #[] }, { accessFlags := 26, nameIndex := 172, descriptorIndex := 173, attributes := #[] }, { accessFlags := 26, nameIndex := 176, descriptorIndex := 173, attributes := #[] }, { accessFlags := 8, nameIndex := 344, descriptorIndex := 339, attributes := #[] }, { accessFlags := 8, nameIndex := 338, descriptorIndex := 339, attributes := #[] }, { accessFlags := 4120, nameIndex := 245, descriptorIndex := 246, attributes := #[] }])
  fields := #[{ name := "E", type := .double, accessFlags := 25, slot := 0, constantValue := 0 }, { name := "PI", type := .double, accessFlags := 25, slot := 1, constantValue := 0 }, { name := "TAU", type := .double, accessFlags := 25, slot := 2, constantValue := 0 }, { name := "DEGREES_TO_RADIANS", type := .double, accessFlags := 26, slot := 3, constantValue := 0 }, { name := "RADIANS_TO_DEGREES", type := .double, accessFlags := 26, slot := 4, constantValue := 0 }, { name := "negativeZeroFloatBits", type := .long, accessFlags := 26, slot := 5, constantValue := 0 }, { name := "negativeZeroDoubleBits", type := .long, accessFlags := 26, slot := 6, constantValue := 0 }, { name := "twoToTheDoubleScaleUp", type := .double, accessFlags := 8, slot := 7, constantValue := 0 }, { name := "twoToTheDoubleScaleDown", type := .double, accessFlags := 8, slot := 8, constantValue := 0 }, { name := "$assertionsDisabled", type := .boolean, accessFlags := 4120, slot := 9, constantValue := 0 }]
  methods := #[k11m0, k11m1]
  instanceTypes := #[]
  staticTypes := #[.double, .double, .double, .double, .double, .long, .long, .double, .double, .boolean]
  resolved := Array.replicate 460 none
  statics := none }

def pool12 : Array CpInfo := pool [(2, .class_ 4), (1, u "java/lang/Object"), (0, u "<init>"), (0, u "()V"), (17, .class_ 26), (1, u "jdk/internal/util/Preconditions"), (6, u "checkIndex"), (13, u "checkFromToIndex"), (7, .class_ 56), (0, u "jdk/internal/util/Preconditions$4"), (57, .class_ 115), (0, u "jdk/internal/util/Preconditions$1"), (7, u "SIOOBE_FORMATTER"), (0, u "Ljava/util/function/BiFunction;"), (0, .class_ 126), (0, u "jdk/internal/util/Preconditions$2"), (3, u "AIOOBE_FORMATTER"), (0, .class_ 132), (0, u "jdk/internal/util/Preconditions$3"), (3, u "IOOBE_FORMATTER"), (41, u "(IILjava/util/function/BiFunction;)I"), (4, u "(IIILjava/util/function/BiFunction;)I")] 10

def k12m0 : Method := { name := "<init>", desc := "()V", sig := { parameters := [], returnType := none }, accessFlags := 1, code := none }
def k12c1 : Code := { maxStack := 3, maxLocals := 3, code := jdk_41_method_11_code, exceptionTable := #[], attributes := #[] }
def k12m1 : Method := { name := "checkIndex", desc := "(IILjava/util/function/BiFunction;)I", sig := { parameters := [.int, .int, (.object "java/util/function/BiFunction")], returnType := some .int }, accessFlags := 9, code := some k12c1 }
def k12c2 : Code := { maxStack := 4, maxLocals := 4, code := jdk_41_method_12_code, exceptionTable := #[], attributes := #[] }
def k12m2 : Method := { name := "checkFromToIndex", desc := "(IIILjava/util/function/BiFunction;)I", sig := { parameters := [.int, .int, .int, (.object "java/util/function/BiFunction")], returnType := some .int }, accessFlags := 9, code := some k12c2 }
/-- jdk/internal/util/Preconditions -/
def k12 : Class := { plain "jdk/internal/util/Preconditions" (some 0) with
  accessFlags := 33
  interfaces := #[]
  cf := some (fileOf pool12 24 #[.nestMembers #[55, 131, 125, 114]] #[{ accessFlags := 1, nameIndex := 5, descriptorIndex := 6, attributes := #[] }, { accessFlags := 9, nameIndex := 33, descriptorIndex := 178, attributes := #[] }, { accessFlags := 9, nameIndex := 47, descriptorIndex := 183, attributes := #[] }] 33 2 #[] #[{ accessFlags := 25, nameIndex := 123, descriptorIndex := 124, attributes := #[] }, { accessFlags := 25, nameIndex := 130, descriptorIndex := 124, attributes := #[] }, { accessFlags := 25, nameIndex := 136, descriptorIndex := 124, attributes := #[] }])
  fields := #[{ name := "SIOOBE_FORMATTER", type := (.object "java/util/function/BiFunction"), accessFlags := 25, slot := 0, constantValue := 0 }, { name := "AIOOBE_FORMATTER", type := (.object "java/util/function/BiFunction"), accessFlags := 25, slot := 1, constantValue := 0 }, { name := "IOOBE_FORMATTER", type := (.object "java/util/function/BiFunction"), accessFlags := 25, slot := 2, constantValue := 0 }]
  methods := #[k12m0, k12m1, k12m2]
  instanceTypes := #[]
  staticTypes := #[(.object "java/util/function/BiFunction"), (.object "java/util/function/BiFunction"), (.object "java/util/function/BiFunction")]
  resolved := Array.replicate 194 none
  statics := some 1 }

def pool13 : Array CpInfo := pool [(2, .class_ 4), (1, u "java/lang/Object"), (0, u "<init>"), (0, u "()V"), (7, .class_ 16), (1, u "java/util/Arrays"), (57, .class_ 76), (1, u "java/util/Arrays$NaturalOrder"), (36, .class_ 115), (1, u "java/util/Arrays$LegacyMergeSort"), (1, u "Z"), (21, u "copyOfRange"), (10, .methodref 151 152), (0, .class_ 153), (0, .nameAndType 154 155), (0, u "java/lang/System"), (0, u "arraycopy"), (0, u "(Ljava/lang/Object;ILjava/lang/Object;II)V"), (148, .methodref 305 306), (0, .class_ 307), (0, .nameAndType 308 309), (0, u "java/lang/Math"), (0, u "min"), (0, u "(II)I"), (29, .methodref 14 340), (0, .nameAndType 341 342), (0, u "copyOfRangeByte"), (0, u "([BII)[B"), (0, .methodref 14 344), (0, .nameAndType 345 346), (0, u "checkLength"), (0, u "(II)V"), (28, .class_ 376), (0, u "java/util/Arrays$ArrayList"), (68, u "$assertionsDisabled"), (269, u "MIN_ARRAY_SORT_GRAN"), (0, u "I"), (2, u "INSERTIONSORT_THRESHOLD"), (255, .class_ 976), (0, u "java/util/Arrays$ArrayItr")] 52

def k13m0 : Method := { name := "<init>", desc := "()V", sig := { parameters := [], returnType := none }, accessFlags := 2, code := none }
def k13c1 : Code := { maxStack := 4, maxLocals := 2, code := jdk_65_method_131_code, exceptionTable := #[], attributes := #[] }
def k13m1 : Method := { name := "checkLength", desc := "(II)V", sig := { parameters := [.int, .int], returnType := none }, accessFlags := 10, code := some k13c1 }
def k13c2 : Code := { maxStack := 3, maxLocals := 3, code := jdk_65_method_132_code, exceptionTable := #[], attributes := #[] }
def k13m2 : Method := { name := "copyOfRange", desc := "([BII)[B", sig := { parameters := [(.array .byte), .int, .int], returnType := some (.array .byte) }, accessFlags := 9, code := some k13c2 }
def k13c3 : Code := { maxStack := 6, maxLocals := 5, code := jdk_65_method_133_code, exceptionTable := #[], attributes := #[] }
def k13m3 : Method := { name := "copyOfRangeByte", desc := "([BII)[B", sig := { parameters := [(.array .byte), .int, .int], returnType := some (.array .byte) }, accessFlags := 10, code := some k13c3 }
/-- java/util/Arrays -/
def k13 : Class := { plain "java/util/Arrays" (some 0) with
  accessFlags := 49
  interfaces := #[]
  cf := some (fileOf pool13 14 #[.nestMembers #[975, 375, 113, 74]] #[{ accessFlags := 2, nameIndex := 5, descriptorIndex := 6, attributes := #[] }, { accessFlags := 10, nameIndex := 345, descriptorIndex := 346, attributes := #[] }, { accessFlags := 9, nameIndex := 139, descriptorIndex := 342, attributes := #[] }, { accessFlags := 10, nameIndex := 341, descriptorIndex := 342, attributes := #[] }] 49 2 #[] #[{ accessFlags := 26, nameIndex := 715, descriptorIndex := 716, attributes := #[] }, { accessFlags := 26, nameIndex := 719, descriptorIndex := 716, attributes := #[] }, { accessFlags := 4120, nameIndex := 445, descriptorIndex := 117, attributes := #[] }])
  fields := #[{ name := "MIN_ARRAY_SORT_GRAN", type := .int, accessFlags := 26, slot := 0, constantValue := 0 }, { name := "INSERTIONSORT_THRESHOLD", type := .int, accessFlags := 26, slot := 1, constantValue := 0 }, { name := "$assertionsDisabled", type := .boolean, accessFlags := 4120, slot := 2, constantValue := 0 }]
  methods := #[k13m0, k13m1, k13m2, k13m3]
  instanceTypes := #[]
  staticTypes := #[.int, .int, .boolean]
  resolved := Array.replicate 1029 none
  statics := none }

def pool14 : Array CpInfo := pool [(2, .class_ 4), (1, u "java/lang/Object"), (0, u "<init>"), (0, u "()V"), (1, .class_ 10), (1, u "java/lang/System"), (0, u "allowSecurityManager"), (0, u "I"), (16, u "cons"), (0, u "Ljava/io/Console;"), (77, .class_ 110), (1, u "java/lang/System$CallersHolder"), (43, u "initialErrStream"), (0, u "Ljava/io/PrintStream;"), (19, u "security"), (0, u "Ljava/lang/SecurityManager;"), (31, .class_ 209), (0, u "java/lang/System$1"), (7, u "props"), (0, u "Ljava/util/Properties;"), (2, u "lineSeparator"), (0, u "Ljava/lang/String;"), (96, .class_ 321), (1, u "java/lang/System$LoggerFinder"), (5, .class_ 328), (0, u "java/lang/System$Logger"), (67, u "err"), (2, u "out"), (91, u "notSupportedJnuEncoding"), (15, u "in"), (17, u "initialIn"), (0, u "Ljava/io/InputStream;"), (35, u "bootLayer"), (0, u "Ljava/lang/ModuleLayer;"), (99, .class_ 664), (0, u "java/lang/System$2"), (9, u "NEVER"), (2, u "MAYBE"), (49, u "arraycopy"), (0, u "(Ljava/lang/Object;ILjava/lang/Object;II)V"), (72, .class_ 802), (0, u "java/lang/System$Logger$Level")] 31

def k14m0 : Method := { name := "<init>", desc := "()V", sig := { parameters := [], returnType := none }, accessFlags := 2, code := none }
def k14m1 : Method := { name := "arraycopy", desc := "(Ljava/lang/Object;ILjava/lang/Object;II)V", sig := { parameters := [(.object "java/lang/Object"), .int, (.object "java/lang/Object"), .int, .int], returnType := none }, accessFlags := 265, code := none }
/-- java/lang/System -/
def k14 : Class := { plain "java/lang/System" (some 0) with
  accessFlags := 49
  interfaces := #[]
  cf := some (fileOf pool14 8 #[.nestMembers #[319, 327, 801, 108, 663, 208]] #[{ accessFlags := 2, nameIndex := 5, descriptorIndex := 6, attributes := #[] }, { accessFlags := 265, nameIndex := 727, descriptorIndex := 728, attributes := #[] }] 49 2 #[] #[{ accessFlags := 25, nameIndex := 507, descriptorIndex := 526, attributes := #[] }, { accessFlags := 25, nameIndex := 399, descriptorIndex := 155, attributes := #[] }, { accessFlags := 25, nameIndex := 396, descriptorIndex := 155, attributes := #[] }, { accessFlags := 10, nameIndex := 525, descriptorIndex := 526, attributes := #[] }, { accessFlags := 26, nameIndex := 674, descriptorIndex := 12, attributes := #[] }, { accessFlags := 26, nameIndex := 677, descriptorIndex := 12, attributes := #[] }, { accessFlags := 10, nameIndex := 11, descriptorIndex := 12, attributes := #[] }, { accessFlags := 74, nameIndex := 175, descriptorIndex := 176, attributes := #[] }, { accessFlags := 10, nameIndex := 491, descriptorIndex := 222, attributes := #[] }, { accessFlags := 74, nameIndex := 29, descriptorIndex := 30, attributes := #[] }, { accessFlags := 74, nameIndex := 154, descriptorIndex := 155, attributes := #[] }, { accessFlags := 10, nameIndex := 217, descriptorIndex := 218, attributes := #[] }, { accessFlags := 10, nameIndex := 221, descriptorIndex := 222, attributes := #[] }, { accessFlags := 8, nameIndex := 562, descriptorIndex := 563, attributes := #[] }])
  fields := #[{ name := "in", type := (.object "java/io/InputStream"), accessFlags := 25, slot := 0, constantValue := 0 }, { name := "out", type := (.object "java/io/PrintStream"), accessFlags := 25, slot := 1, constantValue := 0 }, { name := "err", type := (.object "java/io/PrintStream"), accessFlags := 25, slot := 2, constantValue := 0 }, { name := "initialIn", type := (.object "java/io/InputStream"), accessFlags := 10, slot := 3, constantValue := 0 }, { name := "NEVER", type := .int, accessFlags := 26, slot := 4, constantValue := 0 }, { name := "MAYBE", type := .int, accessFlags := 26, slot := 5, constantValue := 0 }, { name := "allowSecurityManager", type := .int, accessFlags := 10, slot := 6, constantValue := 0 }, { name := "security", type := (.object "java/lang/SecurityManager"), accessFlags := 74, slot := 7, constantValue := 0 }, { name := "notSupportedJnuEncoding", type := (.object "java/lang/String"), accessFlags := 10, slot := 8, constantValue := 0 }, { name := "cons", type := (.object "java/io/Console"), accessFlags := 74, slot := 9, constantValue := 0 }, { name := "initialErrStream", type := (.object "java/io/PrintStream"), accessFlags := 74, slot := 10, constantValue := 0 }, { name := "props", type := (.object "java/util/Properties"), accessFlags := 10, slot := 11, constantValue := 0 }, { name := "lineSeparator", type := (.object "java/lang/String"), accessFlags := 10, slot := 12, constantValue := 0 }, { name := "bootLayer", type := (.object "java/lang/ModuleLayer"), accessFlags := 8, slot := 13, constantValue := 0 }]
  methods := #[k14m0, k14m1]
  instanceTypes := #[]
  staticTypes := #[(.object "java/io/InputStream"), (.object "java/io/PrintStream"), (.object "java/io/PrintStream"), (.object "java/io/InputStream"), .int, .int, .int, (.object "java/lang/SecurityManager"), (.object "java/lang/String"), (.object "java/io/Console"), (.object "java/io/PrintStream"), (.object "java/util/Properties"), (.object "java/lang/String"), (.object "java/lang/ModuleLayer")]
  resolved := Array.replicate 834 none
  statics := none }

def pool15 : Array CpInfo := pool [(9, u "<init>"), (6, .class_ 18), (1, u "java/lang/Object"), (0, u "()V"), (1, .class_ 23), (1, u "jdk/internal/util/ArraysSupport"), (0, u "LOG2_ARRAY_LONG_INDEX_SCALE"), (0, u "I"), (2, u "U"), (0, u "Ljdk/internal/misc/Unsafe;"), (8, u "BIG_ENDIAN"), (0, u "Z"), (8, u "LOG2_BYTE_BIT_SIZE"), (4, u "LOG2_ARRAY_INT_INDEX_SCALE"), (54, u "JLA"), (0, u "Ljdk/internal/access/JavaLangAccess;"), (11, u "LOG2_ARRAY_BOOLEAN_INDEX_SCALE"), (9, u "LOG2_ARRAY_BYTE_INDEX_SCALE"), (5, u "LOG2_ARRAY_CHAR_INDEX_SCALE"), (5, u "LOG2_ARRAY_SHORT_INDEX_SCALE"), (18, u "LOG2_ARRAY_FLOAT_INDEX_SCALE"), (24, u "LOG2_ARRAY_DOUBLE_INDEX_SCALE"), (89, u "T_BOOLEAN"), (2, u "T_CHAR"), (1, u "T_FLOAT"), (1, u "T_DOUBLE"), (1, u "T_BYTE"), (1, u "T_SHORT"), (1, u "T_INT"), (1, u "T_LONG"), (1, u "SOFT_MAX_ARRAY_LENGTH")] 83

def k15m0 : Method := { name := "<init>", desc := "()V", sig := { parameters := [], returnType := none }, accessFlags := 2, code := none }
/-- jdk/internal/util/ArraysSupport -/
def k15 : Class := { plain "jdk/internal/util/ArraysSupport" (some 0) with
  accessFlags := 33
  interfaces := #[]
  cf := some (fileOf pool15 21 #[] #[{ accessFlags := 2, nameIndex := 9, descriptorIndex := 19, attributes := #[] }] 33 16 #[] #[{ accessFlags := 24, nameIndex := 28, descriptorIndex := 29, attributes := #[] }, { accessFlags := 26, nameIndex := 38, descriptorIndex := 39, attributes := #[] }, { accessFlags := 25, nameIndex := 121, descriptorIndex := 25, attributes := #[] }, { accessFlags := 25, nameIndex := 131, descriptorIndex := 25, attributes := #[] }, { accessFlags := 25, nameIndex := 137, descriptorIndex := 25, attributes := #[] }, { accessFlags := 25, nameIndex := 143, descriptorIndex := 25, attributes := #[] }, { accessFlags := 25, nameIndex := 53, descriptorIndex := 25, attributes := #[] }, { accessFlags := 25, nameIndex := 24, descriptorIndex := 25, attributes := #[] }, { accessFlags := 25, nameIndex := 162, descriptorIndex := 25, attributes := #[] }, { accessFlags := 25, nameIndex := 187, descriptorIndex := 25, attributes := #[] }, { accessFlags := 26, nameIndex := 48, descriptorIndex := 25, attributes := #[] }, { accessFlags := 25, nameIndex := 277, descriptorIndex := 25, attributes := #[] }, { accessFlags := 25, nameIndex := 280, descriptorIndex := 25, attributes := #[] }, { accessFlags := 25, nameIndex := 282, descriptorIndex := 25, attributes := #[] }, { accessFlags := 25, nameIndex := 284, descriptorIndex := 25, attributes := #[] }, { accessFlags := 25, nameIndex := 286, descriptorIndex := 25, attributes := #[] }, { accessFlags := 25, nameIndex := 288, descriptorIndex := 25, attributes := #[] }, { accessFlags := 25, nameIndex := 290, descriptorIndex := 25, attributes := #[] }, { accessFlags := 25, nameIndex := 292, descriptorIndex := 25, attributes := #[] }, { accessFlags := 26, nameIndex := 108, descriptorIndex := 109, attributes := #[] }, { accessFlags := 25, nameIndex := 294, descriptorIndex := 25, attributes := #[] }])
  fields := #[{ name := "U", type := (.object "jdk/internal/misc/Unsafe"), accessFlags := 24, slot := 0, constantValue := 0 }, { name := "BIG_ENDIAN", type := .boolean, accessFlags := 26, slot := 1, constantValue := 0 }, { name := "LOG2_ARRAY_BOOLEAN_INDEX_SCALE", type := .int, accessFlags := 25, slot := 2, constantValue := 0 }, { name := "LOG2_ARRAY_BYTE_INDEX_SCALE", type := .int, accessFlags := 25, slot := 3, constantValue := 0 }, { name := "LOG2_ARRAY_CHAR_INDEX_SCALE", type := .int, accessFlags := 25, slot := 4, constantValue := 0 }, { name := "LOG2_ARRAY_SHORT_INDEX_SCALE", type := .int, accessFlags := 25, slot := 5, constantValue := 0 }, { name := "LOG2_ARRAY_INT_INDEX_SCALE", type := .int, accessFlags := 25, slot := 6, constantValue := 0 }, { name := "LOG2_ARRAY_LONG_INDEX_SCALE", type := .int, accessFlags := 25, slot := 7, constantValue := 0 }, { name := "LOG2_ARRAY_FLOAT_INDEX_SCALE", type := .int, accessFlags := 25, slot := 8, constantValue := 0 }, { name := "LOG2_ARRAY_DOUBLE_INDEX_SCALE", type := .int, accessFlags := 25, slot := 9, constantValue := 0 }, { name := "LOG2_BYTE_BIT_SIZE", type := .int, accessFlags := 26, slot := 10, constantValue := 0 }, { name := "T_BOOLEAN", type := .int, accessFlags := 25, slot := 11, constantValue := 0 }, { name := "T_CHAR", type := .int, accessFlags := 25, slot := 12, constantValue := 0 }, { name := "T_FLOAT", type := .int, accessFlags := 25, slot := 13, constantValue := 0 }, { name := "T_DOUBLE", type := .int, accessFlags := 25, slot := 14, constantValue := 0 }, { name := "T_BYTE", type := .int, accessFlags := 25, slot := 15, constantValue := 0 }, { name := "T_SHORT", type := .int, accessFlags := 25, slot := 16, constantValue := 0 }, { name := "T_INT", type := .int, accessFlags := 25, slot := 17, constantValue := 0 }, { name := "T_LONG", type := .int, accessFlags := 25, slot := 18, constantValue := 0 }, { name := "JLA", type := (.object "jdk/internal/access/JavaLangAccess"), accessFlags := 26, slot := 19, constantValue := 0 }, { name := "SOFT_MAX_ARRAY_LENGTH", type := .int, accessFlags := 25, slot := 20, constantValue := 0 }]
  methods := #[k15m0]
  instanceTypes := #[]
  staticTypes := #[(.object "jdk/internal/misc/Unsafe"), .boolean, .int, .int, .int, .int, .int, .int, .int, .int, .int, .int, .int, .int, .int, .int, .int, .int, .int, (.object "jdk/internal/access/JavaLangAccess"), .int]
  resolved := Array.replicate 378 none
  statics := none }

def pool16 : Array CpInfo := pool [(1, u "java/lang/Cloneable"), (0, .class_ 1), (0, u "java/lang/Object"), (0, .class_ 3)] 3

/-- java/lang/Cloneable -/
def k16 : Class := { plain "java/lang/Cloneable" (some 0) with
  accessFlags := 1537
  interfaces := #[]
  cf := some (fileOf pool16 2 #[] #[] 1537 4 #[] #[])
  fields := #[]
  methods := #[]
  instanceTypes := #[]
  staticTypes := #[]
  resolved := Array.replicate 8 none
  statics := none }

/-- the primitive byte -/
def k17 : Class := { plain "byte" none with kind := .primitive 'B', accessFlags := 0x411 }
/-- [B -/
def k18 : Class := { plain "[B" (some 0) with kind := .array 17 .byte, interfaces := #[16, 2], accessFlags := 1041 }

/-- the primitive char -/
def k19 : Class := { plain "char" none with kind := .primitive 'C', accessFlags := 0x411 }
/-- [C -/
def k20 : Class := { plain "[C" (some 0) with kind := .array 19 .char, interfaces := #[16, 2], accessFlags := 1041 }

/-- the primitive int -/
def k21 : Class := { plain "int" none with kind := .primitive 'I', accessFlags := 0x411 }
/-- [I -/
def k22 : Class := { plain "[I" (some 0) with kind := .array 21 .int, interfaces := #[16, 2], accessFlags := 1041 }

def heap : Heap := #[{ cls := 7, slots := #[.long 0, .int 1, .null, .int 0, .null, .int 0, .int 0], vm := .statics 7 },
  { cls := 12, slots := #[.null, .null, .null], vm := .statics 12 }]
def classes : Array Class := #[k0, k1, k2, k3, k4, k5, k6, k7, k8, k9, k10, k11, k12, k13, k14, k15, k16, k17, k18, k19, k20, k21, k22]
def interned : List (Array UInt16 × Addr) := []
def slotsUsed : Nat := 10
def theMethod : MethodId := ⟨1, 4⟩
def args0 : Array Value := #[.int 5, .int 1, .int 65, .int 66, .int 67]
def aboutOver (below : List Frame) : State where
  vm := { classes := classes, interned := interned.toArray }
  heap := heap
  slotsUsed := slotsUsed
  threads := #[{ frames := .invoking theMethod args0 :: below }]
def below0 : List Frame := [.native { method := ⟨0, 0⟩, args := #[] }]
def about1 : State := aboutOver below0
def p0 : Program := .bare "" "" ""
def e0 : Env := launch0.env 0 0 0
theorem w_frames : about1.frames = Frame.invoking theMethod args0 :: below0 := rfl
set_option maxRecDepth 65536 in
theorem w_args : argsFit about1.vm theMethod args0 = true := by decide +kernel
set_option maxRecDepth 65536 in
theorem w_heap : heapFits about1 = true := by decide +kernel
set_option maxRecDepth 65536 in
theorem w_runnable : about1.curStatus? = some .runnable := by decide +kernel
set_option maxRecDepth 65536 in
theorem w_alone : about1.alone = true := by decide +kernel
set_option maxRecDepth 65536 in
theorem w_named : about1.methodNamed? x = some theMethod := by decide +kernel
set_option maxRecDepth 65536 in
theorem w_hears : about1.hears theMethod below0 = true := by decide +kernel
set_option maxRecDepth 65536 in
theorem w_ripe : about1.ripe theMethod args0 below0 = true := by decide +kernel
theorem w_running : about1.status = .running := rfl
set_option maxRecDepth 65536 in
theorem w_room : about1.hasRoom e0.platform room_1 = true :=
  launch0.hasRoom_least _ room_1 (by decide +kernel) (by decide +kernel) (by decide +kernel) (by decide +kernel) (by decide +kernel) (by decide +kernel)
theorem allAtoms_all (ts : List Jvm.Cond) (a : Array Jvm.Value) (st : Jvm.State) : (allAtoms ts).before a st = ts.all (fun c => c.before a st) := by
  induction ts with
  | nil => rfl
  | cons c t ih =>
    show (Jvm.Cond.and c (allAtoms t)).before a st = _
    rw [Jvm.Cond.before_and, ih, List.all_cons]
def words1 : List Jvm.Cond := Jvm.Cond.code x code maxLocals ret :: tables_1
/-- a 'code' word, met by the world's own term for the bytes: nothing is compared byte by byte -/
theorem code_word {y : MethodName} {bytes : ByteArray} {mx : Nat} {rt : Option FieldType} {a : Array Value} {s : State} {m : MethodId} {meth : Method} {c : Code} (h1 : s.methodNamed? y = some m) (h2 : s.vm.method? m = some meth) (h3 : meth.code = some c) (h4 : c.code = bytes)
    (h5 : (c.maxLocals == mx && c.exceptionTable.isEmpty && decide (c.maxStack ≤ mostOperands) && decide (meth.sig.returnType = rt) && !meth.locks && decide (parseMethodDescriptor y.desc = some meth.sig)) = true) : (Jvm.Cond.code y bytes mx rt).before a s = true := by
  simp only [Bool.and_eq_true, beq_iff_eq, Bool.not_eq_true', decide_eq_true_eq] at h5
  obtain ⟨⟨⟨⟨⟨g1, g2⟩, g3⟩, g4⟩, g5⟩, g6⟩ := h5
  simp [Cond.before, Cond.holds, Cond.value, h1, h2, h3, h4, g1, g2, g3, g4, g5, g6]
def isCode : Jvm.Cond → Bool
  | .code _ _ _ _ => true
  | _ => false
theorem all_split {L : List Jvm.Cond} {P : Jvm.Cond → Bool} (h1 : L.all (fun c => isCode c || P c) = true) (h2 : ∀ c ∈ L.filter isCode, P c = true) : L.all P = true := by
  refine List.all_eq_true.mpr fun c hc => ?_
  have h := List.all_eq_true.mp h1 c hc
  rcases Bool.eq_false_or_eq_true (isCode c) with hi | hi
  · exact h2 c (List.mem_filter.mpr ⟨hc, hi⟩)
  · simpa [hi] using h
set_option maxRecDepth 65536 in
theorem w_c0 : (Jvm.Cond.code x code maxLocals ret).before args0 about1 = true := code_word (m := ⟨1, 4⟩) (meth := k1m4) (c := k1c4) (by decide +kernel) rfl rfl rfl (by decide +kernel)
set_option maxRecDepth 65536 in
theorem w_c1 : (Jvm.Cond.code ({ cls := "com/example/grantfold/grantfold/model/ConfigurationParentPinLaw", name := "ch", desc := "(I)C" } : Jvm.MethodName) method_2_code (1 : Nat) (Option.some Jvm.ClassFile.FieldType.char)).before args0 about1 = true := code_word (m := ⟨1, 1⟩) (meth := k1m1) (c := k1c1) (by decide +kernel) rfl rfl rfl (by decide +kernel)
set_option maxRecDepth 65536 in
theorem w_c2 : (Jvm.Cond.code ({ cls := "com/example/grantfold/grantfold/model/ConfigurationParentPinLaw", name := "chars", desc := "(ICCCC)[C" } : Jvm.MethodName) method_3_code (5 : Nat) (Option.some (Jvm.ClassFile.FieldType.array Jvm.ClassFile.FieldType.char))).before args0 about1 = true := code_word (m := ⟨1, 2⟩) (meth := k1m2) (c := k1c2) (by decide +kernel) rfl rfl rfl (by decide +kernel)
set_option maxRecDepth 65536 in
theorem w_c3 : (Jvm.Cond.code ({ cls := "java/lang/String", name := "<init>", desc := "([C)V" } : Jvm.MethodName) jdk_42_method_3_code (2 : Nat) (Option.none : Option Jvm.ClassFile.FieldType)).before args0 about1 = true := code_word (m := ⟨7, 1⟩) (meth := k7m1) (c := k7c1) (by decide +kernel) rfl rfl rfl (by decide +kernel)
set_option maxRecDepth 65536 in
theorem w_c4 : (Jvm.Cond.code ({ cls := "java/lang/String", name := "<init>", desc := "([CIILjava/lang/Void;)V" } : Jvm.MethodName) jdk_42_method_149_code (6 : Nat) (Option.none : Option Jvm.ClassFile.FieldType)).before args0 about1 = true := code_word (m := ⟨7, 8⟩) (meth := k7m8) (c := k7c8) (by decide +kernel) rfl rfl rfl (by decide +kernel)
set_option maxRecDepth 65536 in
theorem w_c5 : (Jvm.Cond.code ({ cls := "java/lang/Object", name := "<init>", desc := "()V" } : Jvm.MethodName) object_method_1_code (1 : Nat) (Option.none : Option Jvm.ClassFile.FieldType)).before args0 about1 = true := code_word (m := ⟨0, 0⟩) (meth := k0m0) (c := k0c0) (by decide +kernel) rfl rfl rfl (by decide +kernel)
set_option maxRecDepth 65536 in
theorem w_c6 : (Jvm.Cond.code ({ cls := "java/lang/StringUTF16", name := "compress", desc := "([CII)[B" } : Jvm.MethodName) jdk_52_method_16_code (6 : Nat) (Option.some (Jvm.ClassFile.FieldType.array Jvm.ClassFile.FieldType.byte))).before args0 about1 = true := code_word (m := ⟨8, 2⟩) (meth := k8m2) (c := k8c2) (by decide +kernel) rfl rfl rfl (by decide +kernel)
set_option maxRecDepth 65536 in
theorem w_c7 : (Jvm.Cond.code ({ cls := "java/lang/StringUTF16", name := "compress", desc := "([CI[BII)I" } : Jvm.MethodName) jdk_52_method_21_code (7 : Nat) (Option.some Jvm.ClassFile.FieldType.int)).before args0 about1 = true := code_word (m := ⟨8, 3⟩) (meth := k8m3) (c := k8c3) (by decide +kernel) rfl rfl rfl (by decide +kernel)
set_option maxRecDepth 65536 in
theorem w_c8 : (Jvm.Cond.code ({ cls := "java/lang/StringUTF16", name := "coderFromArrayLen", desc := "([BI)B" } : Jvm.MethodName) jdk_52_method_15_code (2 : Nat) (Option.some Jvm.ClassFile.FieldType.byte)).before args0 about1 = true := code_word (m := ⟨8, 1⟩) (meth := k8m1) (c := k8c1) (by decide +kernel) rfl rfl rfl (by decide +kernel)
set_option maxRecDepth 65536 in
theorem w_c9 : (Jvm.Cond.code ({ cls := "com/example/grantfold/grantfold/model/Configuration", name := "parent", desc := "(Ljava/lang/String;)Ljava/lang/String;" } : Jvm.MethodName) prog_15_method_2_code (2 : Nat) (Option.some (Jvm.ClassFile.FieldType.object "java/lang/String"))).before args0 about1 = true := code_word (m := ⟨9, 1⟩) (meth := k9m1) (c := k9c1) (by decide +kernel) rfl rfl rfl (by decide +kernel)
set_option maxRecDepth 65536 in
theorem w_c10 : (Jvm.Cond.code ({ cls := "java/lang/String", name := "equals", desc := "(Ljava/lang/Object;)Z" } : Jvm.MethodName) jdk_42_method_66_code (3 : Nat) (Option.some Jvm.ClassFile.FieldType.boolean)).before args0 about1 = true := code_word (m := ⟨7, 4⟩) (meth := k7m4) (c := k7c4) (by decide +kernel) rfl rfl rfl (by decide +kernel)
set_option maxRecDepth 65536 in
theorem w_c11 : (Jvm.Cond.code ({ cls := "java/lang/StringLatin1", name := "equals", desc := "([B[B)Z" } : Jvm.MethodName) jdk_43_method_13_code (3 : Nat) (Option.some Jvm.ClassFile.FieldType.boolean)).before args0 about1 = true := code_word (m := ⟨10, 3⟩) (meth := k10m3) (c := k10c3) (by decide +kernel) rfl rfl rfl (by decide +kernel)
set_option maxRecDepth 65536 in
theorem w_c12 : (Jvm.Cond.code ({ cls := "java/lang/String", name := "lastIndexOf", desc := "(I)I" } : Jvm.MethodName) jdk_42_method_82_code (2 : Nat) (Option.some Jvm.ClassFile.FieldType.int)).before args0 about1 = true := code_word (m := ⟨7, 5⟩) (meth := k7m5) (c := k7c5) (by decide +kernel) rfl rfl rfl (by decide +kernel)
set_option maxRecDepth 65536 in
theorem w_c13 : (Jvm.Cond.code ({ cls := "java/lang/String", name := "length", desc := "()I" } : Jvm.MethodName) jdk_42_method_54_code (1 : Nat) (Option.some Jvm.ClassFile.FieldType.int)).before args0 about1 = true := code_word (m := ⟨7, 2⟩) (meth := k7m2) (c := k7c2) (by decide +kernel) rfl rfl rfl (by decide +kernel)
set_option maxRecDepth 65536 in
theorem w_c14 : (Jvm.Cond.code ({ cls := "java/lang/String", name := "coder", desc := "()B" } : Jvm.MethodName) jdk_42_method_152_code (1 : Nat) (Option.some Jvm.ClassFile.FieldType.byte)).before args0 about1 = true := code_word (m := ⟨7, 10⟩) (meth := k7m10) (c := k7c10) (by decide +kernel) rfl rfl rfl (by decide +kernel)
set_option maxRecDepth 65536 in
theorem w_c15 : (Jvm.Cond.code ({ cls := "java/lang/String", name := "lastIndexOf", desc := "(II)I" } : Jvm.MethodName) jdk_42_method_83_code (3 : Nat) (Option.some Jvm.ClassFile.FieldType.int)).before args0 about1 = true := code_word (m := ⟨7, 6⟩) (meth := k7m6) (c := k7c6) (by decide +kernel) rfl rfl rfl (by decide +kernel)
set_option maxRecDepth 65536 in
theorem w_c16 : (Jvm.Cond.code ({ cls := "java/lang/String", name := "isLatin1", desc := "()Z" } : Jvm.MethodName) jdk_42_method_154_code (1 : Nat) (Option.some Jvm.ClassFile.FieldType.boolean)).before args0 about1 = true := code_word (m := ⟨7, 11⟩) (meth := k7m11) (c := k7c11) (by decide +kernel) rfl rfl rfl (by decide +kernel)
set_option maxRecDepth 65536 in
theorem w_c17 : (Jvm.Cond.code ({ cls := "java/lang/StringLatin1", name := "lastIndexOf", desc := "([BII)I" } : Jvm.MethodName) jdk_43_method_27_code (4 : Nat) (Option.some Jvm.ClassFile.FieldType.int)).before args0 about1 = true := code_word (m := ⟨10, 4⟩) (meth := k10m4) (c := k10c4) (by decide +kernel) rfl rfl rfl (by decide +kernel)
set_option maxRecDepth 65536 in
theorem w_c18 : (Jvm.Cond.code ({ cls := "java/lang/StringLatin1", name := "canEncode", desc := "(I)Z" } : Jvm.MethodName) jdk_43_method_4_code (1 : Nat) (Option.some Jvm.ClassFile.FieldType.boolean)).before args0 about1 = true := code_word (m := ⟨10, 2⟩) (meth := k10m2) (c := k10c2) (by decide +kernel) rfl rfl rfl (by decide +kernel)
set_option maxRecDepth 65536 in
theorem w_c19 : (Jvm.Cond.code ({ cls := "java/lang/Math", name := "min", desc := "(II)I" } : Jvm.MethodName) jdk_29_method_69_code (2 : Nat) (Option.some Jvm.ClassFile.FieldType.int)).before args0 about1 = true := code_word (m := ⟨11, 1⟩) (meth := k11m1) (c := k11c1) (by decide +kernel) rfl rfl rfl (by decide +kernel)
set_option maxRecDepth 65536 in
theorem w_c20 : (Jvm.Cond.code ({ cls := "com/example/grantfold/grantfold/model/ConfigurationParentPinLaw", name := "lastSlash", desc := "(ICCCC)I" } : Jvm.MethodName) method_4_code (5 : Nat) (Option.some Jvm.ClassFile.FieldType.int)).before args0 about1 = true := code_word (m := ⟨1, 3⟩) (meth := k1m3) (c := k1c3) (by decide +kernel) rfl rfl rfl (by decide +kernel)
set_option maxRecDepth 65536 in
theorem w_c21 : (Jvm.Cond.code ({ cls := "java/lang/String", name := "charAt", desc := "(I)C" } : Jvm.MethodName) jdk_42_method_56_code (2 : Nat) (Option.some Jvm.ClassFile.FieldType.char)).before args0 about1 = true := code_word (m := ⟨7, 3⟩) (meth := k7m3) (c := k7c3) (by decide +kernel) rfl rfl rfl (by decide +kernel)
set_option maxRecDepth 65536 in
theorem w_c22 : (Jvm.Cond.code ({ cls := "java/lang/StringLatin1", name := "charAt", desc := "([BI)C" } : Jvm.MethodName) jdk_43_method_2_code (2 : Nat) (Option.some Jvm.ClassFile.FieldType.char)).before args0 about1 = true := code_word (m := ⟨10, 1⟩) (meth := k10m1) (c := k10c1) (by decide +kernel) rfl rfl rfl (by decide +kernel)
set_option maxRecDepth 65536 in
theorem w_c23 : (Jvm.Cond.code ({ cls := "java/lang/String", name := "checkIndex", desc := "(II)V" } : Jvm.MethodName) jdk_42_method_155_code (2 : Nat) (Option.none : Option Jvm.ClassFile.FieldType)).before args0 about1 = true := code_word (m := ⟨7, 12⟩) (meth := k7m12) (c := k7c12) (by decide +kernel) rfl rfl rfl (by decide +kernel)
set_option maxRecDepth 65536 in
theorem w_c24 : (Jvm.Cond.code ({ cls := "jdk/internal/util/Preconditions", name := "checkIndex", desc := "(IILjava/util/function/BiFunction;)I" } : Jvm.MethodName) jdk_41_method_11_code (3 : Nat) (Option.some Jvm.ClassFile.FieldType.int)).before args0 about1 = true := code_word (m := ⟨12, 1⟩) (meth := k12m1) (c := k12c1) (by decide +kernel) rfl rfl rfl (by decide +kernel)
set_option maxRecDepth 65536 in
theorem w_c25 : (Jvm.Cond.code ({ cls := "java/lang/String", name := "substring", desc := "(II)Ljava/lang/String;" } : Jvm.MethodName) jdk_42_method_92_code (5 : Nat) (Option.some (Jvm.ClassFile.FieldType.object "java/lang/String"))).before args0 about1 = true := code_word (m := ⟨7, 7⟩) (meth := k7m7) (c := k7c7) (by decide +kernel) rfl rfl rfl (by decide +kernel)
set_option maxRecDepth 65536 in
theorem w_c26 : (Jvm.Cond.code ({ cls := "java/lang/String", name := "checkBoundsBeginEnd", desc := "(III)V" } : Jvm.MethodName) jdk_42_method_158_code (3 : Nat) (Option.none : Option Jvm.ClassFile.FieldType)).before args0 about1 = true := code_word (m := ⟨7, 13⟩) (meth := k7m13) (c := k7c13) (by decide +kernel) rfl rfl rfl (by decide +kernel)
set_option maxRecDepth 65536 in
theorem w_c27 : (Jvm.Cond.code ({ cls := "jdk/internal/util/Preconditions", name := "checkFromToIndex", desc := "(IIILjava/util/function/BiFunction;)I" } : Jvm.MethodName) jdk_41_method_12_code (4 : Nat) (Option.some Jvm.ClassFile.FieldType.int)).before args0 about1 = true := code_word (m := ⟨12, 2⟩) (meth := k12m2) (c := k12c2) (by decide +kernel) rfl rfl rfl (by decide +kernel)
set_option maxRecDepth 65536 in
theorem w_c28 : (Jvm.Cond.code ({ cls := "java/lang/StringLatin1", name := "newString", desc := "([BII)Ljava/lang/String;" } : Jvm.MethodName) jdk_43_method_47_code (3 : Nat) (Option.some (Jvm.ClassFile.FieldType.object "java/lang/String"))).before args0 about1 = true := code_word (m := ⟨10, 5⟩) (meth := k10m5) (c := k10c5) (by decide +kernel) rfl rfl rfl (by decide +kernel)
set_option maxRecDepth 65536 in
theorem w_c29 : (Jvm.Cond.code ({ cls := "java/util/Arrays", name := "copyOfRange", desc := "([BII)[B" } : Jvm.MethodName) jdk_65_method_132_code (3 : Nat) (Option.some (Jvm.ClassFile.FieldType.array Jvm.ClassFile.FieldType.byte))).before args0 about1 = true := code_word (m := ⟨13, 2⟩) (meth := k13m2) (c := k13c2) (by decide +kernel) rfl rfl rfl (by decide +kernel)
set_option maxRecDepth 65536 in
theorem w_c30 : (Jvm.Cond.code ({ cls := "java/util/Arrays", name := "copyOfRangeByte", desc := "([BII)[B" } : Jvm.MethodName) jdk_65_method_133_code (5 : Nat) (Option.some (Jvm.ClassFile.FieldType.array Jvm.ClassFile.FieldType.byte))).before args0 about1 = true := code_word (m := ⟨13, 3⟩) (meth := k13m3) (c := k13c3) (by decide +kernel) rfl rfl rfl (by decide +kernel)
set_option maxRecDepth 65536 in
theorem w_c31 : (Jvm.Cond.code ({ cls := "java/util/Arrays", name := "checkLength", desc := "(II)V" } : Jvm.MethodName) jdk_65_method_131_code (2 : Nat) (Option.none : Option Jvm.ClassFile.FieldType)).before args0 about1 = true := code_word (m := ⟨13, 1⟩) (meth := k13m1) (c := k13c1) (by decide +kernel) rfl rfl rfl (by decide +kernel)
set_option maxRecDepth 65536 in
theorem w_c32 : (Jvm.Cond.code ({ cls := "java/lang/String", name := "<init>", desc := "([BB)V" } : Jvm.MethodName) jdk_42_method_151_code (3 : Nat) (Option.none : Option Jvm.ClassFile.FieldType)).before args0 about1 = true := code_word (m := ⟨7, 9⟩) (meth := k7m9) (c := k7c9) (by decide +kernel) rfl rfl rfl (by decide +kernel)
def codes1 : List Jvm.Cond := [Jvm.Cond.code x code maxLocals ret, Jvm.Cond.code ({ cls := "com/example/grantfold/grantfold/model/ConfigurationParentPinLaw", name := "ch", desc := "(I)C" } : Jvm.MethodName) method_2_code (1 : Nat) (Option.some Jvm.ClassFile.FieldType.char), Jvm.Cond.code ({ cls := "com/example/grantfold/grantfold/model/ConfigurationParentPinLaw", name := "chars", desc := "(ICCCC)[C" } : Jvm.MethodName) method_3_code (5 : Nat) (Option.some (Jvm.ClassFile.FieldType.array Jvm.ClassFile.FieldType.char)), Jvm.Cond.code ({ cls := "java/lang/String", name := "<init>", desc := "([C)V" } : Jvm.MethodName) jdk_42_method_3_code (2 : Nat) (Option.none : Option Jvm.ClassFile.FieldType), Jvm.Cond.code ({ cls := "java/lang/String", name := "<init>", desc := "([CIILjava/lang/Void;)V" } : Jvm.MethodName) jdk_42_method_149_code (6 : Nat) (Option.none : Option Jvm.ClassFile.FieldType), Jvm.Cond.code ({ cls := "java/lang/Object", name := "<init>", desc := "()V" } : Jvm.MethodName) object_method_1_code (1 : Nat) (Option.none : Option Jvm.ClassFile.FieldType), Jvm.Cond.code ({ cls := "java/lang/StringUTF16", name := "compress", desc := "([CII)[B" } : Jvm.MethodName) jdk_52_method_16_code (6 : Nat) (Option.some (Jvm.ClassFile.FieldType.array Jvm.ClassFile.FieldType.byte)), Jvm.Cond.code ({ cls := "java/lang/StringUTF16", name := "compress", desc := "([CI[BII)I" } : Jvm.MethodName) jdk_52_method_21_code (7 : Nat) (Option.some Jvm.ClassFile.FieldType.int), Jvm.Cond.code ({ cls := "java/lang/StringUTF16", name := "coderFromArrayLen", desc := "([BI)B" } : Jvm.MethodName) jdk_52_method_15_code (2 : Nat) (Option.some Jvm.ClassFile.FieldType.byte), Jvm.Cond.code ({ cls := "com/example/grantfold/grantfold/model/Configuration", name := "parent", desc := "(Ljava/lang/String;)Ljava/lang/String;" } : Jvm.MethodName) prog_15_method_2_code (2 : Nat) (Option.some (Jvm.ClassFile.FieldType.object "java/lang/String")), Jvm.Cond.code ({ cls := "java/lang/String", name := "equals", desc := "(Ljava/lang/Object;)Z" } : Jvm.MethodName) jdk_42_method_66_code (3 : Nat) (Option.some Jvm.ClassFile.FieldType.boolean), Jvm.Cond.code ({ cls := "java/lang/StringLatin1", name := "equals", desc := "([B[B)Z" } : Jvm.MethodName) jdk_43_method_13_code (3 : Nat) (Option.some Jvm.ClassFile.FieldType.boolean), Jvm.Cond.code ({ cls := "java/lang/String", name := "lastIndexOf", desc := "(I)I" } : Jvm.MethodName) jdk_42_method_82_code (2 : Nat) (Option.some Jvm.ClassFile.FieldType.int), Jvm.Cond.code ({ cls := "java/lang/String", name := "length", desc := "()I" } : Jvm.MethodName) jdk_42_method_54_code (1 : Nat) (Option.some Jvm.ClassFile.FieldType.int), Jvm.Cond.code ({ cls := "java/lang/String", name := "coder", desc := "()B" } : Jvm.MethodName) jdk_42_method_152_code (1 : Nat) (Option.some Jvm.ClassFile.FieldType.byte), Jvm.Cond.code ({ cls := "java/lang/String", name := "lastIndexOf", desc := "(II)I" } : Jvm.MethodName) jdk_42_method_83_code (3 : Nat) (Option.some Jvm.ClassFile.FieldType.int), Jvm.Cond.code ({ cls := "java/lang/String", name := "isLatin1", desc := "()Z" } : Jvm.MethodName) jdk_42_method_154_code (1 : Nat) (Option.some Jvm.ClassFile.FieldType.boolean), Jvm.Cond.code ({ cls := "java/lang/StringLatin1", name := "lastIndexOf", desc := "([BII)I" } : Jvm.MethodName) jdk_43_method_27_code (4 : Nat) (Option.some Jvm.ClassFile.FieldType.int), Jvm.Cond.code ({ cls := "java/lang/StringLatin1", name := "canEncode", desc := "(I)Z" } : Jvm.MethodName) jdk_43_method_4_code (1 : Nat) (Option.some Jvm.ClassFile.FieldType.boolean), Jvm.Cond.code ({ cls := "java/lang/Math", name := "min", desc := "(II)I" } : Jvm.MethodName) jdk_29_method_69_code (2 : Nat) (Option.some Jvm.ClassFile.FieldType.int), Jvm.Cond.code ({ cls := "com/example/grantfold/grantfold/model/ConfigurationParentPinLaw", name := "lastSlash", desc := "(ICCCC)I" } : Jvm.MethodName) method_4_code (5 : Nat) (Option.some Jvm.ClassFile.FieldType.int), Jvm.Cond.code ({ cls := "java/lang/String", name := "charAt", desc := "(I)C" } : Jvm.MethodName) jdk_42_method_56_code (2 : Nat) (Option.some Jvm.ClassFile.FieldType.char), Jvm.Cond.code ({ cls := "java/lang/StringLatin1", name := "charAt", desc := "([BI)C" } : Jvm.MethodName) jdk_43_method_2_code (2 : Nat) (Option.some Jvm.ClassFile.FieldType.char), Jvm.Cond.code ({ cls := "java/lang/String", name := "checkIndex", desc := "(II)V" } : Jvm.MethodName) jdk_42_method_155_code (2 : Nat) (Option.none : Option Jvm.ClassFile.FieldType), Jvm.Cond.code ({ cls := "jdk/internal/util/Preconditions", name := "checkIndex", desc := "(IILjava/util/function/BiFunction;)I" } : Jvm.MethodName) jdk_41_method_11_code (3 : Nat) (Option.some Jvm.ClassFile.FieldType.int), Jvm.Cond.code ({ cls := "java/lang/String", name := "substring", desc := "(II)Ljava/lang/String;" } : Jvm.MethodName) jdk_42_method_92_code (5 : Nat) (Option.some (Jvm.ClassFile.FieldType.object "java/lang/String")), Jvm.Cond.code ({ cls := "java/lang/String", name := "checkBoundsBeginEnd", desc := "(III)V" } : Jvm.MethodName) jdk_42_method_158_code (3 : Nat) (Option.none : Option Jvm.ClassFile.FieldType), Jvm.Cond.code ({ cls := "jdk/internal/util/Preconditions", name := "checkFromToIndex", desc := "(IIILjava/util/function/BiFunction;)I" } : Jvm.MethodName) jdk_41_method_12_code (4 : Nat) (Option.some Jvm.ClassFile.FieldType.int), Jvm.Cond.code ({ cls := "java/lang/StringLatin1", name := "newString", desc := "([BII)Ljava/lang/String;" } : Jvm.MethodName) jdk_43_method_47_code (3 : Nat) (Option.some (Jvm.ClassFile.FieldType.object "java/lang/String")), Jvm.Cond.code ({ cls := "java/util/Arrays", name := "copyOfRange", desc := "([BII)[B" } : Jvm.MethodName) jdk_65_method_132_code (3 : Nat) (Option.some (Jvm.ClassFile.FieldType.array Jvm.ClassFile.FieldType.byte)), Jvm.Cond.code ({ cls := "java/util/Arrays", name := "copyOfRangeByte", desc := "([BII)[B" } : Jvm.MethodName) jdk_65_method_133_code (5 : Nat) (Option.some (Jvm.ClassFile.FieldType.array Jvm.ClassFile.FieldType.byte)), Jvm.Cond.code ({ cls := "java/util/Arrays", name := "checkLength", desc := "(II)V" } : Jvm.MethodName) jdk_65_method_131_code (2 : Nat) (Option.none : Option Jvm.ClassFile.FieldType), Jvm.Cond.code ({ cls := "java/lang/String", name := "<init>", desc := "([BB)V" } : Jvm.MethodName) jdk_42_method_151_code (3 : Nat) (Option.none : Option Jvm.ClassFile.FieldType)]
set_option maxRecDepth 65536 in
theorem codes_eq : words1.filter isCode = codes1 := rfl
theorem w_codes : ∀ c ∈ words1.filter isCode, c.before args0 about1 = true := by
  rw [codes_eq]
  intro c hc
  simp only [codes1, List.mem_cons, List.not_mem_nil, or_false] at hc
  rcases hc with rfl | rfl | rfl | rfl | rfl | rfl | rfl | rfl | rfl | rfl | rfl | rfl | rfl | rfl | rfl | rfl | rfl | rfl | rfl | rfl | rfl | rfl | rfl | rfl | rfl | rfl | rfl | rfl | rfl | rfl | rfl | rfl | rfl
  · exact w_c0
  · exact w_c1
  · exact w_c2
  · exact w_c3
  · exact w_c4
  · exact w_c5
  · exact w_c6
  · exact w_c7
  · exact w_c8
  · exact w_c9
  · exact w_c10
  · exact w_c11
  · exact w_c12
  · exact w_c13
  · exact w_c14
  · exact w_c15
  · exact w_c16
  · exact w_c17
  · exact w_c18
  · exact w_c19
  · exact w_c20
  · exact w_c21
  · exact w_c22
  · exact w_c23
  · exact w_c24
  · exact w_c25
  · exact w_c26
  · exact w_c27
  · exact w_c28
  · exact w_c29
  · exact w_c30
  · exact w_c31
  · exact w_c32
set_option maxRecDepth 65536 in
theorem w_t1 : (words1.take 24).all (fun c => isCode c || c.before args0 about1) = true := by decide +kernel
set_option maxRecDepth 65536 in
theorem w_t2 : ((words1.drop 24).take 24).all (fun c => isCode c || c.before args0 about1) = true := by decide +kernel
set_option maxRecDepth 65536 in
theorem w_t3 : (((words1.drop 24).drop 24).take 24).all (fun c => isCode c || c.before args0 about1) = true := by decide +kernel
set_option maxRecDepth 65536 in
theorem w_t4 : ((((words1.drop 24).drop 24).drop 24).take 24).all (fun c => isCode c || c.before args0 about1) = true := by decide +kernel
set_option maxRecDepth 65536 in
theorem w_t5 : (((((words1.drop 24).drop 24).drop 24).drop 24).take 24).all (fun c => isCode c || c.before args0 about1) = true := by decide +kernel
set_option maxRecDepth 65536 in
theorem w_t6 : (((((words1.drop 24).drop 24).drop 24).drop 24).drop 24).all (fun c => isCode c || c.before args0 about1) = true := by decide +kernel
theorem w_tables : (allAtoms (Jvm.Cond.code x code maxLocals ret :: tables_1)).before args0 about1 = true := by
  rw [allAtoms_all]
  show words1.all (fun c => c.before args0 about1) = true
  refine all_split ?_ w_codes
  rw [← List.take_append_drop 24 words1, List.all_append, w_t1, ← List.take_append_drop 24 (words1.drop 24), List.all_append, w_t2, ← List.take_append_drop 24 ((words1.drop 24).drop 24), List.all_append, w_t3, ← List.take_append_drop 24 (((words1.drop 24).drop 24).drop 24), List.all_append, w_t4, ← List.take_append_drop 24 ((((words1.drop 24).drop 24).drop 24).drop 24), List.all_append, w_t5, w_t6]
  rfl
set_option maxRecDepth 65536 in
theorem w_rest : rest_1_c.before args0 about1 = true := by decide +kernel
set_option maxRecDepth 65536 in
theorem w_case : (Jvm.Cond.and given_1 narrow_1).before args0 about1 = true := by decide +kernel
set_option maxRecDepth 65536 in
theorem w_consts : constsHeld consts_1 about1 := Jvm.Lit.constsHeldB_iff.mp (by decide +kernel)
theorem w_applies : (headSpec (Jvm.Cond.code x code maxLocals ret :: tables_1) room_1).applies x e0.platform about1 = true :=
  (Spec.applies_iff w_frames).mpr ⟨w_running, w_runnable, w_alone, w_named, w_hears, w_ripe, w_room, w_tables⟩
theorem atStart : AtStart classFile x code maxLocals ret World_1 tables_1 room_1 Calls_1 rest_1 Pre_1 launch0 p0 e0 about1 theMethod args0 below0 :=
  ⟨lists_1, trivial, launch0.admits_env _ _ _, launch0.least_env, fairChoices_fair.cas, fairChoices_fair.clock, w_frames, w_args, w_heap, w_applies, ⟨w_consts, trivial⟩, w_rest, w_case⟩
end start1
theorem witness_1 : WitnessClaimed_1 := ⟨start1.p0, start1.e0, start1.about1, start1.theMethod, start1.args0, start1.below0, start1.atStart⟩
end Jvm.Pilot.@@N@@
