import JvmDerived
import JvmDerived.Pilot.@@N@@Statement
import JvmDerived.Pilot.@@N@@Code
set_option linter.unusedVariables false
set_option linter.unusedSimpArgs false
namespace Jvm.RoadKit
open Sem ClassFile Op Lib Jvm.Stand Jvm.Free Jvm.LawKit
section OwnKit
variable {p : Program} {l : Launch} {e : Env} {R : Room} {s : State} {m : MethodId} {args : Array Value} {below : List Frame} {meth : Method} {c : Code} {T : State} {locs : List Loc} {cells slots : Nat} {Z : State} {a0 : Array Value} {h : Heap}
abbrev OwnP : Type := Option Value → Heap → List Loc → Prop
/-- from the state A the run comes back with what P says -/
def OwnG (tb : Tables) (e : Env) (below : List Frame) (s : State) (P : OwnP) (rc rs : Nat) (A : State) : Prop :=
  ∃ s₂ o, Steps tb e below A s₂ ∧ s₂.status = .running ∧ Ended s₂ below o ∧ ∃ v L, o = .returned v ∧ P v s₂.heap L ∧ FrameEnd s o s₂ L rc rs
theorem own_go {tb : Tables} {P : OwnP} {rc rs : Nat} {A : State} (T' : State) (m' : MethodId) (pc : Nat) (Ls : Array Slot) (st : List Value) (f : ∀ t, Steps tb e below (T'.setTop (mkF m' pc Ls st)) t → Steps tb e below A t) (k : OwnG tb e below s P rc rs (T'.setTop (mkF m' pc Ls st))) : OwnG tb e below s P rc rs A := by
  obtain ⟨s₂, o, h1, h2⟩ := k
  exact ⟨s₂, o, f _ h1, h2⟩
theorem own_mono {tb : Tables} {P P' : OwnP} {rc rs : Nat} {A : State} (f : ∀ v h L, P v h L → P' v h L) (k : OwnG tb e below s P rc rs A) : OwnG tb e below s P' rc rs A := by
  obtain ⟨s₂, o, h1, h2, h3, v, L, h4, h5, h6⟩ := k
  exact ⟨s₂, o, h1, h2, h3, v, L, h4, f _ _ _ h5, h6⟩
/-- what a walk knows of the body -/
def OwnX (Z : State) (p : Program) (s : State) (m : MethodId) (meth : Method) (c : Code) (bytes : ByteArray) (maxL : Nat) (ret : Option FieldType) (own nm : String) : Prop :=
  p.tables.exec = Jvm.exec ∧ c.code = bytes ∧ c.maxLocals = maxL ∧ s.vm.findClass own = some m.cls ∧ meth.name = nm ∧ meth.sig.returnType = ret ∧ meth.locks = false ∧ Z.Warmed39 s.vm
/-- a body's contract -/
abbrev OwnC (l : Launch) (Z : State) (y : MethodName) (bytes : ByteArray) (maxL : Nat) (ret : Option FieldType) (ws : List Cond) (rm : Room) (as' : Array Value) (h0 : Heap) (P : OwnP) : Prop :=
  MetFree l y (head1 (Cond.code y bytes maxL ret :: ws) rm) (fun a U => a = as' ∧ Z.Warmed39 U.vm ∧ U.heap = h0) (fun _ _ _ _ _ => True) (fun _ U o U' => ∃ v L, o = .returned v ∧ P v U'.heap L ∧ FrameEnd U o U' L rm.cells rm.slots)
theorem own_entry {y : MethodName} {bytes : ByteArray} {maxL : Nat} {ret : Option FieldType} {ws : List Cond} {rm : Room} {as' : Array Value} {h0 : Heap} {P : OwnP} {Ls : Array Slot} (hpl : plainFor y = true) (ef : ∀ m, entryFrame m as' maxL = mkF m 0 Ls [])
    (body : ∀ (p : Program) (e : Env) (s : State) (m : MethodId) (below : List Frame) (meth : Method) (c : Code) (T : State), Stand p l e rm s m as' below meth c T [] 0 0 → OwnX Z p s m meth c bytes maxL ret y.cls y.name → T.heap = h0 → OwnG p.tables e below s P rm.cells rm.slots (T.setTop (mkF m 0 Ls []))) :
    OwnC l Z y bytes maxL ret ws rm as' h0 P := by
  refine MetFree.of_bodySF hpl hisR ?_
  intro p e s m args below meth c s₁ Bd hml0 hP hK
  obtain ⟨rfl, hZ, hh⟩ := hP
  have e0 : s₁.heap = h0 := by rw [← hh, Bd.state]; rfl
  obtain ⟨s₂, o, h1, h2⟩ := body p e s m below meth c s₁ (Stand.of_body Bd) ⟨Bd.exec, Bd.bytes, hml0, findClass_of_methodNamed Bd.named, (name_of_methodNamed Bd.named Bd.method).1, Bd.returns, Bd.notSynchronized, hZ⟩ e0
  exact ⟨s₂, o, castTop (ef m) h1, h2⟩
theorem own_ret {P : OwnP} {rc rs : Nat} (X : Stand p l e R s m args below meth c T locs cells slots) (hx : p.tables.exec = Jvm.exec) (hlk : meth.locks = false) {pc : Nat} {Ls : Array Slot} {w : Value} {t : FieldType} {i : Instr} {rest : List Value} (hret : meth.sig.returnType = some t) (hn : narrow t w = w)
    (hi : (i = .ireturn ∧ (t = .int ∨ t = .boolean ∨ t = .byte ∨ t = .char ∨ t = .short) ∧ ∃ z, w = .int z) ∨ (i = .lreturn ∧ t = .long ∧ ∃ z, w = .long z) ∨ (i = .dreturn ∧ t = .double ∧ ∃ z, w = .double z) ∨ (i = .freturn ∧ t = .float ∧ ∃ z, w = .float z) ∨ (i = .areturn ∧ t.isReference = true ∧ w.isRef = true))
    (hd : decode c.code pc = .ok (i, 1)) (hc : cells ≤ rc) (hs : slots ≤ rs) (hP : P (some w) T.heap locs) : OwnG p.tables e below s P rc rs (T.setTop (mkF m pc Ls (w :: rest))) := by
  obtain ⟨fs, hr, hrun, hended, hW, hsame⟩ := X.leave (v := some w) (fun h => by rw [hret] at h; cases h) hlk
  exact ⟨_, _, retOut X hx hret hn hi hd hr, hrun, hended, _, _, rfl, hP, ⟨_, rfl⟩, hW, hsame.mono hc hs⟩
theorem own_retI {P : OwnP} {rc rs : Nat} (X : Stand p l e R s m args below meth c T locs cells slots) (hx : p.tables.exec = Jvm.exec) (hlk : meth.locks = false) {pc : Nat} {Ls : Array Slot} {z : Int32} {rest : List Value} (hret : meth.sig.returnType = some .int)
    (hd : decode c.code pc = .ok (.ireturn, 1)) (hc : cells ≤ rc) (hs : slots ≤ rs) (hP : P (some (.int z)) T.heap locs) : OwnG p.tables e below s P rc rs (T.setTop (mkF m pc Ls (.int z :: rest))) :=
  own_ret X hx hlk hret rfl (Or.inl ⟨rfl, Or.inl rfl, z, rfl⟩) hd hc hs hP
theorem own_retZ {P : OwnP} {rc rs : Nat} (X : Stand p l e R s m args below meth c T locs cells slots) (hx : p.tables.exec = Jvm.exec) (hlk : meth.locks = false) {pc : Nat} {Ls : Array Slot} {z : Int32} {rest : List Value} (hret : meth.sig.returnType = some .boolean) (hz : z = 0 ∨ z = 1)
    (hd : decode c.code pc = .ok (.ireturn, 1)) (hc : cells ≤ rc) (hs : slots ≤ rs) (hP : P (some (.int z)) T.heap locs) : OwnG p.tables e below s P rc rs (T.setTop (mkF m pc Ls (.int z :: rest))) :=
  own_ret X hx hlk hret (by rcases hz with rfl | rfl <;> rfl) (Or.inl ⟨rfl, Or.inr (Or.inl rfl), z, rfl⟩) hd hc hs hP
theorem own_retB {P : OwnP} {rc rs : Nat} (X : Stand p l e R s m args below meth c T locs cells slots) (hx : p.tables.exec = Jvm.exec) (hlk : meth.locks = false) {pc : Nat} {Ls : Array Slot} {z : Int32} {rest : List Value} (hret : meth.sig.returnType = some .byte) (hz : narrow .byte (.int z) = .int z)
    (hd : decode c.code pc = .ok (.ireturn, 1)) (hc : cells ≤ rc) (hs : slots ≤ rs) (hP : P (some (.int z)) T.heap locs) : OwnG p.tables e below s P rc rs (T.setTop (mkF m pc Ls (.int z :: rest))) :=
  own_ret X hx hlk hret hz (Or.inl ⟨rfl, Or.inr (Or.inr (Or.inl rfl)), z, rfl⟩) hd hc hs hP
theorem own_retJ {P : OwnP} {rc rs : Nat} (X : Stand p l e R s m args below meth c T locs cells slots) (hx : p.tables.exec = Jvm.exec) (hlk : meth.locks = false) {pc : Nat} {Ls : Array Slot} {z : Int64} {rest : List Value} (hret : meth.sig.returnType = some .long)
    (hd : decode c.code pc = .ok (.lreturn, 1)) (hc : cells ≤ rc) (hs : slots ≤ rs) (hP : P (some (.long z)) T.heap locs) : OwnG p.tables e below s P rc rs (T.setTop (mkF m pc Ls (.long z :: rest))) :=
  own_ret X hx hlk hret rfl (Or.inr (Or.inl ⟨rfl, rfl, z, rfl⟩)) hd hc hs hP
theorem own_retA {P : OwnP} {rc rs : Nat} (X : Stand p l e R s m args below meth c T locs cells slots) (hx : p.tables.exec = Jvm.exec) (hlk : meth.locks = false) {pc : Nat} {Ls : Array Slot} {w : Value} {t : FieldType} {rest : List Value} (hret : meth.sig.returnType = some t) (hn : narrow t w = w) (ht : t.isReference = true) (hw : w.isRef = true)
    (hd : decode c.code pc = .ok (.areturn, 1)) (hc : cells ≤ rc) (hs : slots ≤ rs) (hP : P (some w) T.heap locs) : OwnG p.tables e below s P rc rs (T.setTop (mkF m pc Ls (w :: rest))) :=
  own_ret X hx hlk hret hn (Or.inr (Or.inr (Or.inr (Or.inr ⟨rfl, ht, hw⟩)))) hd hc hs hP
theorem own_retV {P : OwnP} {rc rs : Nat} (X : Stand p l e R s m args below meth c T locs cells slots) (hx : p.tables.exec = Jvm.exec) (hlk : meth.locks = false) {pc : Nat} {Ls : Array Slot} (hret : meth.sig.returnType = none)
    (hd : decode c.code pc = .ok (.return_, 1)) (hc : cells ≤ rc) (hs : slots ≤ rs) (hP : P none T.heap locs) : OwnG p.tables e below s P rc rs (T.setTop (mkF m pc Ls [])) := by
  obtain ⟨fs, hr, hrun, hended, hW, hsame⟩ := X.leave (v := none) (fun _ => rfl) hlk
  exact ⟨_, _, X.returnOut hx hret hd hr, hrun, hended, _, _, rfl, hP, ⟨_, rfl⟩, hW, hsame.mono hc hs⟩
theorem own_static (X : Stand p l e R s m args below meth c T locs cells slots) (hx : p.tables.exec = Jvm.exec) (hZ : Z.Warmed39 s.vm) {own : String} {index : Nat} {y : MethodName} {bytes : ByteArray} {maxL : Nat} {ret : Option FieldType} {rm : Room} {as' : Array Value} {P : OwnP}
    (hown : s.vm.findClass own = some m.cls) (w1 : (Cond.methodLink own index y).before a0 Z = true) (w2 : (Cond.static y).before a0 Z = true) (w3 : (Cond.initialized y.cls).before a0 Z = true) (w4 : (Cond.code y bytes maxL ret).before a0 Z = true) (hy : y.cls ≠ "java/lang/invoke/MethodHandle" ∧ y.cls ≠ "java/lang/invoke/VarHandle")
    (hM : OwnC l Z y bytes maxL ret [] rm as' h P) (eT : T.heap = h) {pc : Nat} {Ls : Array Slot} {argsL rest : List Value} (W : Nat) {st : List Value} (hsz : Ls.size = c.maxLocals) (hlen : ∀ sig, parseMethodDescriptor y.desc = some sig → argsL.length = sig.parameters.length) (has : argsL.toArray = as') (hst : st = argsL.reverse ++ rest) (hW : (rest.map fun v => v.category).sum ≤ W)
    (hd : decode c.code pc = .ok (.invokestatic index, 3)) (hf : rm.frames + 1 ≤ R.frames) (hl : W + (maxL + 11) + rm.locals ≤ R.locals) (hc : cells + rm.cells ≤ R.cells) (hs : slots + rm.slots ≤ R.slots) :
    ∃ v T' L, Stand p l e R s m args below meth c T' (locs ++ L) (cells + rm.cells) (slots + rm.slots) ∧ P v T'.heap L ∧ ∀ t, Steps p.tables e below (T'.setTop (mkF m (pc + 3) Ls (v.toList ++ rest))) t → Steps p.tables e below (T.setTop (mkF m pc Ls st)) t := by
  obtain ⟨v, vm₁, ⟨T', L', k', n'⟩, -, X', ⟨L, hQ, l1, l2, l3⟩, stp⟩ := Jvm.LawKit.callS X hx hown (mvT hZ w1) (mvT hZ w2) (mvT hZ w3) (mvT hZ w4) hy (backOf (W := W) hM hZ w4 w3 hf hl) (g := mkF m pc Ls st) rfl hsz (argsL := argsL) (rest := rest) hlen hst (by show 2 * 0 + _ ≤ _; omega) hd (fun _ _ => ⟨has, eT, hc, hs⟩)
  dsimp only [Pt.U, Pt.locs, Pt.cells, Pt.slots] at X' l1 l2 l3 stp hQ
  subst l1 l2 l3
  exact ⟨v, T', L, X', hQ, stp⟩
theorem own_init (X : Stand p l e R s m args below meth c T locs cells slots) (hx : p.tables.exec = Jvm.exec) (hZ : Z.Warmed39 s.vm) {own : String} {index : Nat} {y : MethodName} {bytes : ByteArray} {maxL : Nat} {rm : Room} {as' : Array Value} {P : OwnP} (hy1 : y.name = "<init>")
    (hown : s.vm.findClass own = some m.cls) (w1 : (Cond.methodLink own index y).before a0 Z = true) (w2 : (Cond.instanceMethod y).before a0 Z = true) (w3 : (Cond.initialized y.cls).before a0 Z = true) (w4 : (Cond.code y bytes maxL none).before a0 Z = true) (hy : y.cls ≠ "java/lang/invoke/MethodHandle" ∧ y.cls ≠ "java/lang/invoke/VarHandle")
    (hM : OwnC l Z y bytes maxL none [] rm as' h P) (eT : T.heap = h) {pc : Nat} {Ls : Array Slot} {a : Addr} {argsL rest : List Value} (W : Nat) {st : List Value} (hsz : Ls.size = c.maxLocals) (hlen : ∀ sig, parseMethodDescriptor y.desc = some sig → argsL.length = sig.parameters.length) (has : (.ref a :: argsL).toArray = as') (hst : st = argsL.reverse ++ .ref a :: rest) (hW : (rest.map fun v => v.category).sum ≤ W)
    (hd : decode c.code pc = .ok (.invokespecial index, 3)) (hf : rm.frames + 1 ≤ R.frames) (hl : W + (maxL + 11) + rm.locals ≤ R.locals) (hc : cells + rm.cells ≤ R.cells) (hs : slots + rm.slots ≤ R.slots) :
    ∃ v T' L, Stand p l e R s m args below meth c T' (locs ++ L) (cells + rm.cells) (slots + rm.slots) ∧ P v T'.heap L ∧ ∀ t, Steps p.tables e below (T'.setTop (mkF m (pc + 3) Ls (v.toList ++ rest))) t → Steps p.tables e below (T.setTop (mkF m pc Ls st)) t := by
  obtain ⟨v, vm₁, ⟨T', L', k', n'⟩, -, X', ⟨L, hQ, l1, l2, l3⟩, stp⟩ := X.specialBack hx hy1 hown (mvT hZ w1) (mvT hZ w2) (mvT hZ w4) hy (backOf (W := W) hM hZ w4 w3 hf hl) (g := mkF m pc Ls st) rfl hsz (Steps.refl _) (a := a) (argsL := argsL) (rest := rest) hlen hst (by show 2 * 0 + _ ≤ _; omega) hd (fun _ _ => ⟨has, eT, hc, hs⟩)
  dsimp only [Pt.U, Pt.locs, Pt.cells, Pt.slots] at X' l1 l2 l3 stp hQ
  subst l1 l2 l3
  exact ⟨v, T', L, X', hQ, fun t k => stp.trans k⟩
theorem own_virtual (X : Stand p l e R s m args below meth c T locs cells slots) (hx : p.tables.exec = Jvm.exec) (hZ : Z.Warmed39 s.vm) {own C : String} {index : Nat} {y z : MethodName} {bytes : ByteArray} {maxL : Nat} {ret : Option FieldType} {rm : Room} {as' : Array Value} {P : OwnP}
    (hown : s.vm.findClass own = some m.cls) (w1 : (Cond.methodLink own index y).before a0 Z = true) (w2 : (Cond.declares y).before a0 Z = true) (hnf : NotFace s y) (w5 : (Cond.selects C y z).before a0 Z = true) (w6 : (Cond.instanceMethod z).before a0 Z = true) (w3 : (Cond.initialized z.cls).before a0 Z = true) (w4 : (Cond.code z bytes maxL ret).before a0 Z = true) (hy : y.cls ≠ "java/lang/invoke/MethodHandle" ∧ y.cls ≠ "java/lang/invoke/VarHandle")
    (hM : OwnC l Z z bytes maxL ret [] rm as' h P) (eT : T.heap = h) {a : Addr} (E : Exa Z h a C) {pc : Nat} {Ls : Array Slot} {argsL rest : List Value} (W : Nat) {st : List Value} (hsz : Ls.size = c.maxLocals) (hlen : ∀ sig, parseMethodDescriptor y.desc = some sig → argsL.length = sig.parameters.length) (has : (.ref a :: argsL).toArray = as') (hst : st = argsL.reverse ++ .ref a :: rest) (hW : (rest.map fun v => v.category).sum ≤ W)
    (hd : decode c.code pc = .ok (.invokevirtual index, 3)) (hf : rm.frames + 1 ≤ R.frames) (hl : W + (maxL + 11) + rm.locals ≤ R.locals) (hc : cells + rm.cells ≤ R.cells) (hs : slots + rm.slots ≤ R.slots) :
    ∃ v T' L, Stand p l e R s m args below meth c T' (locs ++ L) (cells + rm.cells) (slots + rm.slots) ∧ P v T'.heap L ∧ ∀ t, Steps p.tables e below (T'.setTop (mkF m (pc + 3) Ls (v.toList ++ rest))) t → Steps p.tables e below (T.setTop (mkF m pc Ls st)) t := by
  obtain ⟨cq, kq, qa, qb, qc⟩ := isOf hZ eT E
  obtain ⟨v, vm₁, ⟨T', L', k', n'⟩, -, X', ⟨L, hQ, l1, l2, l3⟩, stp⟩ := X.virtualBack hx (y := y) (z := z) hown (mvT hZ w1) (mvT hZ w2) hnf (mvT hZ w5) (mvT hZ w6) hy (backOf (W := W) hM hZ w4 w3 hf hl) qa qc (g := mkF m pc Ls st) rfl hsz (Steps.refl _) (argsL := argsL) (rest := rest) hlen hst (by show 2 * 0 + _ ≤ _; omega) hd (fun _ _ => ⟨has, eT, hc, hs⟩)
  dsimp only [Pt.U, Pt.locs, Pt.cells, Pt.slots] at X' l1 l2 l3 stp hQ
  subst l1 l2 l3
  exact ⟨v, T', L, X', hQ, fun t k => stp.trans k⟩
/-- a body that writes nothing and makes nothing -/
def OwnPure (w : Value) (h0 : Heap) : OwnP := fun v h L => v = some w ∧ h = h0 ∧ L = []
theorem own_nil (X : Stand p l e R s m args below meth c T (locs ++ []) cells slots) : Stand p l e R s m args below meth c T locs cells slots := by rwa [List.append_nil] at X
theorem own_iaload (X : Stand p l e R s m args below meth c T locs cells slots) (hx : p.tables.exec = Jvm.exec) (hZ : Z.Warmed39 s.vm) (eT : T.heap = h) {a : Addr} {k : ClassId} {n : Int32} {vs : List Value} {dv : Value} (V : Arv Z h a k .int n vs dv) {j x : Int32} (hj : ¬ j < 0 ∧ j < n) (hv : vs.getD j.toNatClampNeg dv = .int x)
    {pc : Nat} {Ls : Array Slot} {rest : List Value} (hd : decode c.code pc = .ok (.iaload, 1)) : ∀ t, Steps p.tables e below (T.setTop (mkF m (pc + 1) Ls (.int x :: rest))) t → Steps p.tables e below (T.setTop (mkF m pc Ls (.int j :: .ref a :: rest))) t := by
  obtain ⟨cl, A, -, S, -, H, -⟩ := V
  exact fun t k => X.iaload hx (by rw [eT]; exact A.1) (State.isArrayOf_alike hZ.alike A.2.1) A.2.2 (inb_of S hj) (H.at (inb_of S hj) hv) (g := mkF m pc Ls (.int j :: .ref a :: rest)) rfl rfl hd t k
theorem own_baload (X : Stand p l e R s m args below meth c T locs cells slots) (hx : p.tables.exec = Jvm.exec) (hZ : Z.Warmed39 s.vm) (eT : T.heap = h) {a : Addr} {k : ClassId} {n : Int32} {vs : List Value} {dv : Value} (V : Arv Z h a k .byte n vs dv) {j x : Int32} (hj : ¬ j < 0 ∧ j < n) (hv : vs.getD j.toNatClampNeg dv = .int x)
    {pc : Nat} {Ls : Array Slot} {rest : List Value} (hd : decode c.code pc = .ok (.baload, 1)) : ∀ t, Steps p.tables e below (T.setTop (mkF m (pc + 1) Ls (.int x :: rest))) t → Steps p.tables e below (T.setTop (mkF m pc Ls (.int j :: .ref a :: rest))) t := by
  obtain ⟨cl, A, -, S, -, H, -⟩ := V
  exact fun t k => X.baloadBytes hx (by rw [eT]; exact A.1) (State.isArrayOf_alike hZ.alike A.2.1) A.2.2 (inb_of S hj) (H.at (inb_of S hj) hv) (g := mkF m pc Ls (.int j :: .ref a :: rest)) rfl rfl hd t k
theorem own_aaload (X : Stand p l e R s m args below meth c T locs cells slots) (hx : p.tables.exec = Jvm.exec) (hZ : Z.Warmed39 s.vm) (eT : T.heap = h) {a : Addr} {k : ClassId} {ty : FieldType} {n : Int32} {vs : List Value} {dv : Value} (V : Arv Z h a k ty n vs dv) (hty : ty.isReference = true) {j : Int32} {w : Value} (hj : ¬ j < 0 ∧ j < n) (hv : vs.getD j.toNatClampNeg dv = w)
    {pc : Nat} {Ls : Array Slot} {rest : List Value} (hd : decode c.code pc = .ok (.aaload, 1)) : ∀ t, Steps p.tables e below (T.setTop (mkF m (pc + 1) Ls (w :: rest))) t → Steps p.tables e below (T.setTop (mkF m pc Ls (.int j :: .ref a :: rest))) t := by
  obtain ⟨cl, A, -, S, -, H, -⟩ := V
  exact fun t k => X.aaload hx (by rw [eT]; exact A.1) (State.isArrayOf_alike hZ.alike A.2.1) hty A.2.2 (inb_of S hj) (H.at (inb_of S hj) hv) (g := mkF m pc Ls (.int j :: .ref a :: rest)) rfl rfl hd t k
theorem own_alen (X : Stand p l e R s m args below meth c T locs cells slots) (hx : p.tables.exec = Jvm.exec) (hZ : Z.Warmed39 s.vm) (eT : T.heap = h) {a : Addr} {k : ClassId} {ty : FieldType} {n : Int32} {vs : List Value} {dv : Value} (V : Arv Z h a k ty n vs dv)
    {pc : Nat} {Ls : Array Slot} {rest : List Value} (hd : decode c.code pc = .ok (.arraylength, 1)) : ∀ t, Steps p.tables e below (T.setTop (mkF m (pc + 1) Ls (.int n :: rest))) t → Steps p.tables e below (T.setTop (mkF m pc Ls (.ref a :: rest))) t := by
  obtain ⟨cl, A, -, S, N, H, -⟩ := V
  intro t q
  refine X.arraylength hx (by rw [eT]; exact A.1) (State.isArrayOf_alike hZ.alike A.2.1) (g := mkF m pc Ls (.ref a :: rest)) rfl rfl hd t ?_
  rw [len_of S N]
  exact q
theorem own_iastore (X : Stand p l e R s m args below meth c T locs cells slots) (hx : p.tables.exec = Jvm.exec) (hZ : Z.Warmed39 s.vm) (eT : T.heap = h) {a : Addr} {k : ClassId} {n : Int32} {vs : List Value} {dv : Value} (V : Arv Z h a k .int n vs dv) {j x : Int32} (hj : ¬ j < 0 ∧ j < n) (i : Nat) (hi : j.toNatClampNeg = i) (hl : i < vs.length)
    {pc : Nat} {Ls : Array Slot} {rest : List Value} (hd : decode c.code pc = .ok (.iastore, 1)) : ∃ T' h', Stand p l e R s m args below meth c T' (locs ++ [⟨a, i⟩]) cells slots ∧ T'.heap = h' ∧ Wr h h' a i (.int x) ∧ Arv Z h' a k .int n (vs.set i (.int x)) dv ∧ ∀ t, Steps p.tables e below (T'.setTop (mkF m (pc + 1) Ls rest)) t → Steps p.tables e below (T.setTop (mkF m pc Ls (.int x :: .int j :: .ref a :: rest))) t := by
  obtain ⟨cl, A, q1, S, N, H, G⟩ := V
  obtain ⟨T', h', X', e', W', st⟩ := stI X hx hZ eT A (j := j) (x := x) (inb_of S hj) (g := mkF m pc Ls (.int x :: .int j :: .ref a :: rest)) rfl rfl hd
  have V' := Arv.set A q1 S N H G (v := .int x) rfl W' i hi hl
  rw [hi] at X' W'
  exact ⟨T', h', X', e', W', V', st⟩
theorem own_bastore (X : Stand p l e R s m args below meth c T locs cells slots) (hx : p.tables.exec = Jvm.exec) (hZ : Z.Warmed39 s.vm) (eT : T.heap = h) {a : Addr} {k : ClassId} {n : Int32} {vs : List Value} {dv : Value} (V : Arv Z h a k .byte n vs dv) {j x : Int32} (hj : ¬ j < 0 ∧ j < n) (i : Nat) (hi : j.toNatClampNeg = i) (hl : i < vs.length)
    {pc : Nat} {Ls : Array Slot} {rest : List Value} (hd : decode c.code pc = .ok (.bastore, 1)) : ∃ T' h', Stand p l e R s m args below meth c T' (locs ++ [⟨a, i⟩]) cells slots ∧ T'.heap = h' ∧ Wr h h' a i (.int x.toInt8.toInt32) ∧ Arv Z h' a k .byte n (vs.set i (.int x.toInt8.toInt32)) dv ∧ ∀ t, Steps p.tables e below (T'.setTop (mkF m (pc + 1) Ls rest)) t → Steps p.tables e below (T.setTop (mkF m pc Ls (.int x :: .int j :: .ref a :: rest))) t := by
  obtain ⟨cl, A, q1, S, N, H, G⟩ := V
  obtain ⟨T', h', X', e', W', st⟩ := stB X hx hZ eT A (j := j) (x := x) (inb_of S hj) (g := mkF m pc Ls (.int x :: .int j :: .ref a :: rest)) rfl rfl hd
  have V' := Arv.set A q1 S N H G (v := .int x.toInt8.toInt32) (fits_nar_byte x) W' i hi hl
  rw [hi] at X' W'
  exact ⟨T', h', X', e', W', V', st⟩
theorem own_aastore (X : Stand p l e R s m args below meth c T locs cells slots) (hx : p.tables.exec = Jvm.exec) (hZ : Z.Warmed39 s.vm) (eT : T.heap = h) {a : Addr} {k : ClassId} {ty : FieldType} {n : Int32} {vs : List Value} {dv : Value} (V : Arv Z h a k ty n vs dv) (hty : ty.isReference = true) {C : String} (O : Ovr Z k C) {y : Addr} (I : Ins Z h y C true) {j : Int32} (hj : ¬ j < 0 ∧ j < n) (i : Nat) (hi : j.toNatClampNeg = i) (hl : i < vs.length)
    {pc : Nat} {Ls : Array Slot} {rest : List Value} (hd : decode c.code pc = .ok (.aastore, 1)) : ∃ T' h', Stand p l e R s m args below meth c T' (locs ++ [⟨a, i⟩]) cells slots ∧ T'.heap = h' ∧ Wr h h' a i (.ref y) ∧ Arv Z h' a k ty n (vs.set i (.ref y)) dv ∧ ∀ t, Steps p.tables e below (T'.setTop (mkF m (pc + 1) Ls rest)) t → Steps p.tables e below (T.setTop (mkF m pc Ls (.ref y :: .int j :: .ref a :: rest))) t := by
  obtain ⟨cl, A, q1, S, N, H, G⟩ := V
  obtain ⟨T', h', X', e', W', st⟩ := stR X hx hZ eT A (j := j) (v := .ref y) (inb_of S hj) hty (Sto.ofV A q1 O I) (g := mkF m pc Ls (.ref y :: .int j :: .ref a :: rest)) rfl rfl hd
  have V' := Arv.set A q1 S N H G (v := .ref y) (by cases ty <;> first | rfl | (simp [FieldType.isReference] at hty)) W' i hi hl
  rw [hi] at X' W'
  exact ⟨T', h', X', e', W', V', st⟩
theorem own_lt_eq {x y : Int64} (h : x = y) : lcmpW x y = 0 := (lw_eq x y).mpr h
theorem own_rem_ne {x y : Int32} {target : State} {g : JFrame} (X : Stand p l e R s m args below meth c T locs cells slots) (hx : p.tables.exec = Jvm.exec) (hg : g.method = m) {rest : List Value} (hd : decode c.code g.pc = .ok (.irem, 1)) (hs : g.stack = .int y :: .int x :: rest) (hy : y ≠ 0)
    (hr : Steps p.tables e below (T.setTop { g with pc := g.pc + 1, stack := .int (x % y) :: rest }) target) : Steps p.tables e below (T.setTop g) target := iremM X hx hg hd hs hy hr
theorem own_lrem {x y : Int64} {target : State} {g : JFrame} (X : Stand p l e R s m args below meth c T locs cells slots) (hx : p.tables.exec = Jvm.exec) (hg : g.method = m) {rest : List Value} (hd : decode c.code g.pc = .ok (.lrem, 1)) (hs : g.stack = .long y :: .long x :: rest) (hy : y ≠ 0)
    (hr : Steps p.tables e below (T.setTop { g with pc := g.pc + 1, stack := .long (x % y) :: rest }) target) : Steps p.tables e below (T.setTop g) target := by
  refine XS.lrem X.here hx hg hd hs hy ?_
  rw [lrem_mod]
  exact hr
theorem own_fld_int {args : Array Value} {t : Term} {C n d : String} {k : Int32} {a : Addr} (ev : t.eval args Z none [] Z = some (.ref a)) (h : (Cond.eq (Term.field t C n d) (Term.int k)).value args Z none Z [] = some true) : Fld Z Z.heap a C n d (.int k) := by
  obtain ⟨x, y, h1, h2, h3, h4⟩ := cmp_v (Or.inl h)
  have hy : y = .int k := by rw [Term.int_eval] at h2; exact (Option.some.inj h2).symm
  subst hy
  obtain ⟨z, rfl⟩ : ∃ z, x = .int z := h4
  have hz : z = k := by simpa [Cond.value, h1, h2] using h
  subst hz
  rw [fld_at ev] at h1
  exact Fld.start h1
theorem own_sta_keep {C n d : String} {v : Value} {h' : Heap} (F : Sta Z h C n d v) (K : Keep h h' []) : Sta Z h' C n d v := by
  obtain ⟨cf, i, k, f, st, cell, h1, h2, h3, h4, h5, h6⟩ := F
  exact ⟨cf, i, k, f, st, cell, h1, h2, h3, h4, K.2.1 _ _ h5 nin0, h6⟩
/-- the objects of C are no K: C's superclasses are named, K is a class that has objects -/
theorem own_nsroot {O K : String} {n : Nat} (w : (Cond.noSuperclass O).before a0 Z = true) (wk : (Cond.instantiable K n).before a0 Z = true) (hn : O ≠ K) : NS Z O K := by
  obtain ⟨c, k, h1, h2, h3, -, -⟩ := Cond.noSuperclass_spec w
  obtain ⟨t, kt, g1, -⟩ := Cond.instantiable_spec wk
  have ne := ids_ne h1 g1 hn
  refine ⟨c, t, h1, g1, fun fuel => ?_⟩
  cases fuel with
  | zero => rfl
  | succ f => simp [Vm.isSubclassAux, ne, h2, h3]
theorem own_nsno {C S K : String} {n : Nat} (w : (Cond.superclass C S).before a0 Z = true) (wk : (Cond.instantiable K n).before a0 Z = true) (q : NS Z C K) (hn : C ≠ K) : ∃ c t, Z.vm.findClass C = some c ∧ Z.vm.findClass K = some t ∧ Z.vm.assignable c t = false := by
  obtain ⟨c, t, h0, g0, n3⟩ := q
  obtain ⟨p, k, kp, h1, h2, h3, h4, h5, -, h7⟩ := Cond.superclass_spec h0 w
  obtain ⟨t', kt, g1, g2, g3, g4, -⟩ := Cond.instantiable_spec wk
  cases g0.symm.trans g1
  have g5 : kt.isInterface = false := by
    cases hq : kt.isInterface with
    | false => rfl
    | true => rw [hq] at g4; simp at g4
  have ne := ids_ne h0 g0 hn
  refine ⟨c, t, h0, g0, ?_⟩
  show Z.vm.assignableAux (255 + 1) c t = false
  simp [Vm.assignableAux, ne, h2, g2, h5, g3, g5, Vm.isSubclass, n3]
theorem own_s16 (x : Int32) : x.toInt16.toInt32.toInt16.toInt32 = x.toInt16.toInt32 := by simp
theorem own_virtualUp (X : Stand p l e R s m args below meth c T locs cells slots) (hx : p.tables.exec = Jvm.exec) (hZ : Z.Warmed39 s.vm) {own C owner : String} {index : Nat} {x y : MethodName} {bytes : ByteArray} {maxL : Nat} {ret : Option FieldType} {rm : Room} {as' : Array Value} {P : OwnP}
    (hown : s.vm.findClass own = some m.cls) (w1 : (Cond.methodLink own index x).before a0 Z = true) (w2 : (Cond.sameMethod x.cls owner x.name x.desc).before a0 Z = true) (w7 : (Cond.declares ⟨owner, x.name, x.desc⟩).before a0 Z = true) (hy : owner ≠ "java/lang/invoke/MethodHandle" ∧ owner ≠ "java/lang/invoke/VarHandle") (w5 : (Cond.selects C x y).before a0 Z = true) (w6 : (Cond.instanceMethod y).before a0 Z = true) (w3 : (Cond.initialized y.cls).before a0 Z = true) (w4 : (Cond.code y bytes maxL ret).before a0 Z = true)
    (hM : OwnC l Z y bytes maxL ret [] rm as' h P) (eT : T.heap = h) {a : Addr} (E : Exa Z h a C) {pc : Nat} {Ls : Array Slot} {argsL rest : List Value} (W : Nat) {st : List Value} (hsz : Ls.size = c.maxLocals) (hlen : ∀ sig, parseMethodDescriptor x.desc = some sig → argsL.length = sig.parameters.length) (has : (.ref a :: argsL).toArray = as') (hst : st = argsL.reverse ++ .ref a :: rest) (hW : (rest.map fun v => v.category).sum ≤ W)
    (hd : decode c.code pc = .ok (.invokevirtual index, 3)) (hf : rm.frames + 1 ≤ R.frames) (hl : W + (maxL + 11) + rm.locals ≤ R.locals) (hc : cells + rm.cells ≤ R.cells) (hs : slots + rm.slots ≤ R.slots) :
    ∃ v T' L, Stand p l e R s m args below meth c T' (locs ++ L) (cells + rm.cells) (slots + rm.slots) ∧ P v T'.heap L ∧ ∀ t, Steps p.tables e below (T'.setTop (mkF m (pc + 3) Ls (v.toList ++ rest))) t → Steps p.tables e below (T.setTop (mkF m pc Ls st)) t := by
  obtain ⟨cq, kq, qa, qb, qc⟩ := isOf hZ eT E
  obtain ⟨v, vm₁, ⟨T', L', k', n'⟩, -, X', ⟨L, hQ, l1, l2, l3⟩, stp⟩ := X.virtualBackUp hx (x := x) (y := y) hown (mvT hZ w1) (mvT hZ w2) (mvT hZ w7) hy (mvT hZ w5) (mvT hZ w6) (backOf (W := W) hM hZ w4 w3 hf hl) qa qc (g := mkF m pc Ls st) rfl hsz (Steps.refl _) (argsL := argsL) (rest := rest) hlen hst (by show 2 * 0 + _ ≤ _; omega) hd (fun _ _ => ⟨has, eT, hc, hs⟩)
  dsimp only [Pt.U, Pt.locs, Pt.cells, Pt.slots] at X' l1 l2 l3 stp hQ
  subst l1 l2 l3
  exact ⟨v, T', L, X', hQ, fun t k => stp.trans k⟩
theorem own_castore (X : Stand p l e R s m args below meth c T locs cells slots) (hx : p.tables.exec = Jvm.exec) (hZ : Z.Warmed39 s.vm) (eT : T.heap = h) {a : Addr} {k : ClassId} {n : Int32} {vs : List Value} {dv : Value} (V : Arv Z h a k .char n vs dv) {j x : Int32} (hj : ¬ j < 0 ∧ j < n) (i : Nat) (hi : j.toNatClampNeg = i) (hl : i < vs.length)
    {pc : Nat} {Ls : Array Slot} {rest : List Value} (hd : decode c.code pc = .ok (.castore, 1)) : ∃ T' h', Stand p l e R s m args below meth c T' (locs ++ [⟨a, i⟩]) cells slots ∧ T'.heap = h' ∧ Wr h h' a i (.int x.toUInt32.toUInt16.toUInt32.toInt32) ∧ Arv Z h' a k .char n (vs.set i (.int x.toUInt32.toUInt16.toUInt32.toInt32)) dv ∧ ∀ t, Steps p.tables e below (T'.setTop (mkF m (pc + 1) Ls rest)) t → Steps p.tables e below (T.setTop (mkF m pc Ls (.int x :: .int j :: .ref a :: rest))) t := by
  obtain ⟨cl, A, q1, S, N, H, G⟩ := V
  obtain ⟨T', h', X', e', W', st⟩ := stC X hx hZ eT A (j := j) (x := x) (inb_of S hj) (g := mkF m pc Ls (.int x :: .int j :: .ref a :: rest)) rfl rfl hd
  have V' := Arv.set A q1 S N H G (v := .int x.toUInt32.toUInt16.toUInt32.toInt32) (fits_nar_char x) W' i hi hl
  rw [hi] at X' W'
  exact ⟨T', h', X', e', W', V', st⟩
theorem own_sta_keep1 {C n d C' : String} {v : Value} {h' : Heap} {a : Addr} (F : Sta Z h C n d v) (K : Keep h h' [a]) (E : Exa Z h a C') : Sta Z h' C n d v := by
  obtain ⟨cf, i, k, f, st, cell, h1, h2, h3, h4, h5, h6, h7⟩ := F
  obtain ⟨cell', k', e1, -, -, e4, -⟩ := E
  have hne : st ≠ a := fun q => by
    subst q
    cases h5.symm.trans e1
    rw [h6] at e4
    cases e4
  exact ⟨cf, i, k, f, st, cell, h1, h2, h3, h4, K.2.1 _ _ h5 (ninS hne nin0), h6, h7⟩
theorem own_private (X : Stand p l e R s m args below meth c T locs cells slots) (hx : p.tables.exec = Jvm.exec) (hZ : Z.Warmed39 s.vm) {own C : String} {index n : Nat} {y : MethodName} {bytes : ByteArray} {maxL : Nat} {ret : Option FieldType} {rm : Room} {as' : Array Value} {P : OwnP}
    (hown : s.vm.findClass own = some m.cls) (w1 : (Cond.methodLink own index y).before a0 Z = true) (w2 : (Cond.instanceMethod y).before a0 Z = true) (wp : (Cond.privateMethod y).before a0 Z = true) (wi : (Cond.instantiable y.cls n).before a0 Z = true) (w3 : (Cond.initialized y.cls).before a0 Z = true) (w4 : (Cond.code y bytes maxL ret).before a0 Z = true) (hy : y.cls ≠ "java/lang/invoke/MethodHandle" ∧ y.cls ≠ "java/lang/invoke/VarHandle")
    (hM : OwnC l Z y bytes maxL ret [] rm as' h P) (eT : T.heap = h) {a : Addr} (E : Exa Z h a C) {pc : Nat} {Ls : Array Slot} {argsL rest : List Value} (W : Nat) {st : List Value} (hsz : Ls.size = c.maxLocals) (hlen : ∀ sig, parseMethodDescriptor y.desc = some sig → argsL.length = sig.parameters.length) (has : (.ref a :: argsL).toArray = as') (hst : st = argsL.reverse ++ .ref a :: rest) (hW : (rest.map fun v => v.category).sum ≤ W)
    (hd : decode c.code pc = .ok (.invokevirtual index, 3)) (hf : rm.frames + 1 ≤ R.frames) (hl : W + (maxL + 11) + rm.locals ≤ R.locals) (hc : cells + rm.cells ≤ R.cells) (hs : slots + rm.slots ≤ R.slots) :
    ∃ v T' L, Stand p l e R s m args below meth c T' (locs ++ L) (cells + rm.cells) (slots + rm.slots) ∧ P v T'.heap L ∧ ∀ t, Steps p.tables e below (T'.setTop (mkF m (pc + 3) Ls (v.toList ++ rest))) t → Steps p.tables e below (T.setTop (mkF m pc Ls st)) t := by
  obtain ⟨cell, hcell, hobj⟩ := E.cell
  have hpriv := Cond.privateMethod_at (mvP hZ wp (args := args))
  obtain ⟨ci, ki, i1, i2, i3, i4, -⟩ := Cond.instantiable_spec (show (Cond.instantiable y.cls n).before args s = true from mvT hZ wi)
  have hni : ki.isInterface = false := by
    cases hq : ki.isInterface with
    | false => rfl
    | true => rw [hq] at i4; simp at i4
  have hsel := selects_self_of_private (args := args) i1 i2 hni hpriv (mvT hZ w2) hy
  obtain ⟨v, vm₁, ⟨T', L', k', n'⟩, -, X', ⟨L, hQ, l1, l2, l3⟩, stp⟩ := X.privateBack hx (y := y) hown (mvT hZ w1) (mvT hZ w2) hsel hpriv (mvT hZ w4) hy (backOf (W := W) hM hZ w4 w3 hf hl) (g := mkF m pc Ls st) rfl hsz (Steps.refl _) (a := a) (by rw [eT]; exact hcell) hobj (argsL := argsL) (rest := rest) hlen hst (by show 2 * 0 + _ ≤ _; omega) hd (fun _ _ => ⟨has, eT, hc, hs⟩)
  dsimp only [Pt.U, Pt.locs, Pt.cells, Pt.slots] at X' l1 l2 l3 stp hQ
  subst l1 l2 l3
  exact ⟨v, T', L, X', hQ, fun t k => stp.trans k⟩
theorem own_interface (X : Stand p l e R s m args below meth c T locs cells slots) (hx : p.tables.exec = Jvm.exec) (hZ : Z.Warmed39 s.vm) {own C : String} {index count : Nat} {xi y : MethodName} {bytes : ByteArray} {maxL : Nat} {ret : Option FieldType} {rm : Room} {as' : Array Value} {P : OwnP}
    (hown : s.vm.findClass own = some m.cls) (w1 : (Cond.methodLink own index xi).before a0 Z = true) (w2 : (Cond.declares xi).before a0 Z = true) (w7 : (Cond.interfaceMethod xi.cls xi.cls xi.name xi.desc).before args s = true) (w5 : (Cond.selects C xi y).before a0 Z = true) (w6 : (Cond.instanceMethod y).before a0 Z = true) (w8 : (Cond.publicMethod y).before a0 Z = true) (w9 : (Cond.unhidden C xi.name xi.desc).before a0 Z = true) (w10 : (Cond.castable C xi.cls).before a0 Z = true) (w3 : (Cond.initialized y.cls).before a0 Z = true) (w4 : (Cond.code y bytes maxL ret).before a0 Z = true) (hy : xi.cls ≠ "java/lang/invoke/MethodHandle" ∧ xi.cls ≠ "java/lang/invoke/VarHandle")
    (hM : OwnC l Z y bytes maxL ret [] rm as' h P) (eT : T.heap = h) {a : Addr} (E : Exa Z h a C) {pc : Nat} {Ls : Array Slot} {argsL rest : List Value} (W : Nat) {st : List Value} (hsz : Ls.size = c.maxLocals) (hlen : ∀ sig, parseMethodDescriptor xi.desc = some sig → argsL.length = sig.parameters.length) (has : (.ref a :: argsL).toArray = as') (hst : st = argsL.reverse ++ .ref a :: rest) (hW : (rest.map fun v => v.category).sum ≤ W)
    (hd : decode c.code pc = .ok (.invokeinterface index count, 5)) (hf : rm.frames + 1 ≤ R.frames) (hl : W + (maxL + 11) + rm.locals ≤ R.locals) (hc : cells + rm.cells ≤ R.cells) (hs : slots + rm.slots ≤ R.slots) :
    ∃ v T' L, Stand p l e R s m args below meth c T' (locs ++ L) (cells + rm.cells) (slots + rm.slots) ∧ P v T'.heap L ∧ ∀ t, Steps p.tables e below (T'.setTop (mkF m (pc + 5) Ls (v.toList ++ rest))) t → Steps p.tables e below (T.setTop (mkF m pc Ls st)) t := by
  obtain ⟨cq, kq, qa, qb, qc⟩ := isOf hZ eT E
  obtain ⟨v, vm₁, ⟨T', L', k', n'⟩, -, X', ⟨L, hQ, l1, l2, l3⟩, stp⟩ := X.interfaceBack hx (xi := xi) (y := y) hown (mvT hZ w1) (mvT hZ w2) w7 (mvT hZ w5) (mvT hZ w6) (mvT hZ w8) (mvT hZ w9) (mvT hZ w10) hy (backOf (W := W) hM hZ w4 w3 hf hl) qa qb qc (g := mkF m pc Ls st) rfl hsz (Steps.refl _) (argsL := argsL) (rest := rest) hlen hst (by show 2 * 0 + _ ≤ _; omega) hd (fun _ _ => ⟨has, eT, hc, hs⟩)
  dsimp only [Pt.U, Pt.locs, Pt.cells, Pt.slots] at X' l1 l2 l3 stp hQ
  subst l1 l2 l3
  exact ⟨v, T', L, X', hQ, fun t k => stp.trans k⟩
theorem own_staticUp (X : Stand p l e R s m args below meth c T locs cells slots) (hx : p.tables.exec = Jvm.exec) (hZ : Z.Warmed39 s.vm) {own owner : String} {index : Nat} {x : MethodName} {bytes : ByteArray} {maxL : Nat} {ret : Option FieldType} {rm : Room} {as' : Array Value} {P : OwnP}
    (hown : s.vm.findClass own = some m.cls) (w1 : (Cond.methodLink own index x).before a0 Z = true) (w2 : (Cond.sameMethod x.cls owner x.name x.desc).before a0 Z = true) (hy : owner ≠ "java/lang/invoke/MethodHandle" ∧ owner ≠ "java/lang/invoke/VarHandle") (w5 : (Cond.static ⟨owner, x.name, x.desc⟩).before a0 Z = true) (w3 : (Cond.initialized owner).before a0 Z = true) (w4 : (Cond.code ⟨owner, x.name, x.desc⟩ bytes maxL ret).before a0 Z = true)
    (hM : OwnC l Z ⟨owner, x.name, x.desc⟩ bytes maxL ret [] rm as' h P) (eT : T.heap = h) {pc : Nat} {Ls : Array Slot} {argsL rest : List Value} (W : Nat) {st : List Value} (hsz : Ls.size = c.maxLocals) (hlen : ∀ sig, parseMethodDescriptor x.desc = some sig → argsL.length = sig.parameters.length) (has : argsL.toArray = as') (hst : st = argsL.reverse ++ rest) (hW : (rest.map fun v => v.category).sum ≤ W)
    (hd : decode c.code pc = .ok (.invokestatic index, 3)) (hf : rm.frames + 1 ≤ R.frames) (hl : W + (maxL + 11) + rm.locals ≤ R.locals) (hc : cells + rm.cells ≤ R.cells) (hs : slots + rm.slots ≤ R.slots) :
    ∃ v T' L, Stand p l e R s m args below meth c T' (locs ++ L) (cells + rm.cells) (slots + rm.slots) ∧ P v T'.heap L ∧ ∀ t, Steps p.tables e below (T'.setTop (mkF m (pc + 3) Ls (v.toList ++ rest))) t → Steps p.tables e below (T.setTop (mkF m pc Ls st)) t := by
  have c4 : (Cond.code ⟨owner, x.name, x.desc⟩ bytes maxL ret).before args s = true := mvT hZ w4
  obtain ⟨mk, hnamed⟩ := Cond.code_named c4
  obtain ⟨methM, cM, hmethM, -, -, -, -, -, -, hsigM⟩ := Cond.code_spec hnamed c4
  have hstatic : methM.isStatic = true := Cond.static_spec hnamed hmethM (mvT (args := args) hZ w5)
  obtain ⟨kP, hkP, -⟩ := className_of_methodNamed hnamed
  have hinitP : kP.init = .initialized := Cond.initialized_spec (findClass_of_methodNamed hnamed) hkP (mvT (args := args) hZ w3)
  obtain ⟨vm₁, X₁, hstep₁⟩ := X.invokestaticUp hx hown (mvT hZ w1) (mvT hZ w2) hy hnamed hmethM hstatic hkP hinitP (g := mkF m pc Ls st) rfl (argsL := argsL) (rest := rest) (hlen _ hsigM) hst hd
  obtain ⟨v, ⟨T', L', k', n'⟩, X', ⟨L, hQ, l1, l2, l3⟩, hsteps⟩ := (backOf (len := 3) (W := W) hM hZ w4 w3 hf hl) m meth c ⟨T.setVm vm₁, locs, cells, slots⟩ { mkF m pc Ls st with stack := rest } (.invokestatic index) mk argsL.toArray X₁ rfl hsz hd (by show 2 * 0 + (rest.map fun v => v.category).sum ≤ W; rw [Nat.mul_zero, Nat.zero_add]; exact hW) (X₁.named hnamed) ⟨has, eT, hc, hs⟩
  dsimp only [Pt.U, Pt.locs, Pt.cells, Pt.slots] at X' l1 l2 l3 hsteps hQ
  subst l1 l2 l3
  exact ⟨v, T', L, X', hQ, fun t k => ((hstep₁ _ fun acts => by rw [doInvoke_state]; exact Steps.refl _).trans hsteps).trans k⟩
theorem own_getfRef (X : Stand p l e R s m args below meth c T locs cells slots) (hx : p.tables.exec = Jvm.exec) (hZ : Z.Warmed39 s.vm) {own O n d : String} {index : Nat} (hown : s.vm.findClass own = some m.cls) (w : (Cond.fieldRef own index O n d).before a0 Z = true) (eT : T.heap = h) {a : Addr} {v : Value} (F : Fld Z h a O n d v)
    {pc : Nat} {Ls : Array Slot} {rest : List Value} (hd : decode c.code pc = .ok (.getfield index, 3)) : ∀ t, Steps p.tables e below (T.setTop (mkF m (pc + 3) Ls (v :: rest))) t → Steps p.tables e below (T.setTop (mkF m pc Ls (.ref a :: rest))) t := by
  obtain ⟨cell, cf, k, i, f, h1, h2, h3, h4, -, -, h7⟩ := F
  have hW : Z.Warmed39 T.vm := wtrans hZ X.warmed
  have hw := Cond.fieldRef_warmed39 hW w
  have hcur : (Z.setVm T.vm).vm.findClass own = some m.cls := by
    show T.vm.findClass own = _
    rw [X.warmed.alike.findClass]
    exact hown
  obtain ⟨c', k', i', f', q1, q2⟩ := Cond.fieldRef_spec hcur hw
  obtain ⟨k2, hi, -⟩ := State.fieldFound?_setVm (s := Z) hW.alike h2
  rw [hi] at q1
  cases q1
  exact fun t kk => (X.getfieldR hx (g := mkF m pc Ls (.ref a :: rest)) rfl q2 h3 rfl (by rw [eT]; exact h1) h4 h7 hd (Steps.refl _)).trans kk
theorem own_sneE {a b : Addr} {cell : Cell} {C : String} (h1 : h[a]? = some cell) (h2 : cell.vm.isStatics = true) (E : Exa Z h b C) : a ≠ b := fun q => by
  obtain ⟨cell', k', e1, -, -, e4, -⟩ := E
  subst q
  cases h1.symm.trans e1
  rw [h2] at e4
  cases e4
theorem own_sneA {a b : Addr} {cell : Cell} {k : ClassId} {ty : FieldType} {n : Int32} {vs : List Value} {dv : Value} (h1 : h[a]? = some cell) (h2 : cell.vm.isStatics = true) (V : Arv Z h b k ty n vs dv) : a ≠ b := fun q => by
  obtain ⟨cl, A, -⟩ := V
  subst q
  cases h1.symm.trans A.1
  have := A.plain
  rw [h2] at this
  cases this
theorem own_sta_keepL {C n d : String} {v : Value} {h' : Heap} {ws : List Addr} (F : Sta Z h C n d v) (K : Keep h h' ws) (q : ∀ (a : Addr) (cell : Cell), h[a]? = some cell → cell.vm.isStatics = true → a ∉ ws) : Sta Z h' C n d v := by
  obtain ⟨cf, i, k, f, st, cell, h1, h2, h3, h4, h5, h6, h7⟩ := F
  exact ⟨cf, i, k, f, st, cell, h1, h2, h3, h4, K.2.1 _ _ h5 (q _ _ h5 h6), h6, h7⟩
theorem own_nf {args : Array Value} {s : State} {C : String} {x y z : MethodName} (hsel : (Cond.selects C x z).before args s = true) (hc : y.cls = z.cls) : NotFace s y := fun r0 h0 => by
  obtain ⟨c2, r2, m2, q1, q2, q3, q4, kP, hkP, hkPi⟩ := Cond.selects_spec hsel
  have e1 := findClass_of_methodNamed h0
  have e2 := findClass_of_methodNamed q3
  rw [hc] at e1
  have e3 : r0.cls = m2.cls := Option.some.inj (e1.symm.trans e2)
  exact ⟨kP, by rw [e3]; exact hkP, hkPi⟩
end OwnKit
end Jvm.RoadKit
namespace Jvm.Pilot.@@N@@
open Jvm Jvm.ClassFile Sem Op Lib Jvm.Free Jvm.Stand Jvm.LawKit Jvm.RoadKit Bundle Jvm.Pilot.@@N@@.Jvm.D
theorem own_w {Z : State} {a0 : Array Value} (hw : ∀ d ∈ tables_1, d.before a0 Z = true) (i : Nat) {d : Jvm.Cond} (h : tables_1[i]? = some d) : d.before a0 Z = true := hw _ (List.mem_of_getElem? h)
theorem own_i {a : Addr} {L : List Addr} {Q : Prop} (i : Nat) (h : L[i]? = some a) : a ∈ L ∨ Q := Or.inl (List.mem_of_getElem? h)
theorem pd__JJ_V : parseMethodDescriptor "(JJ)V" = some ⟨[.long, .long], none⟩ := by decide +kernel
theorem pd___V : parseMethodDescriptor "()V" = some ⟨[], none⟩ := by decide +kernel
theorem pd__Ljava_lang_Object__Z : parseMethodDescriptor "(Ljava/lang/Object;)Z" = some ⟨[(.object "java/lang/Object")], some .boolean⟩ := by decide +kernel
theorem pd__C_Ljava_lang_String_ : parseMethodDescriptor "(C)Ljava/lang/String;" = some ⟨[.char], some (.object "java/lang/String")⟩ := by decide +kernel
theorem pd__C_Z : parseMethodDescriptor "(C)Z" = some ⟨[.char], some .boolean⟩ := by decide +kernel
theorem pd__C__B : parseMethodDescriptor "(C)[B" = some ⟨[.char], some (.array .byte)⟩ := by decide +kernel
theorem pd___BB_V : parseMethodDescriptor "([BB)V" = some ⟨[(.array .byte), .byte], none⟩ := by decide +kernel
theorem pd__J_Ljava_lang_Long_ : parseMethodDescriptor "(J)Ljava/lang/Long;" = some ⟨[.long], some (.object "java/lang/Long")⟩ := by decide +kernel
theorem pd__J_V : parseMethodDescriptor "(J)V" = some ⟨[.long], none⟩ := by decide +kernel
theorem d1_0 : decode prog_37_method_1_code 0 = .ok (.aload_n 0, 1) := by decide +kernel
theorem d1_1 : decode prog_37_method_1_code 1 = .ok (.invokespecial 1, 3) := by decide +kernel
theorem d1_4 : decode prog_37_method_1_code 4 = .ok (.aload_n 0, 1) := by decide +kernel
theorem d1_5 : decode prog_37_method_1_code 5 = .ok (.lload_n 1, 1) := by decide +kernel
theorem d1_6 : decode prog_37_method_1_code 6 = .ok (.putfield 7, 3) := by decide +kernel
theorem d1_9 : decode prog_37_method_1_code 9 = .ok (.aload_n 0, 1) := by decide +kernel
theorem d1_10 : decode prog_37_method_1_code 10 = .ok (.lload_n 3, 1) := by decide +kernel
theorem d1_11 : decode prog_37_method_1_code 11 = .ok (.putfield 13, 3) := by decide +kernel
theorem d1_14 : decode prog_37_method_1_code 14 = .ok (.return_, 1) := by decide +kernel
theorem pf_com_example_semel_semel_log_TimestampedOffset__init___JJ_V : plainFor (⟨"com/example/semel/semel/log/TimestampedOffset", "<init>", "(JJ)V"⟩ : MethodName) = true := by first | exact plainFor_of_name (by first | (simp [plainName, overriddenIn]; done) | decide +kernel) | exact Jvm.Free.JP.mathPlain rfl (by decide +kernel) | decide +kernel
theorem ef_rm1 (m : MethodId) (q0 : Addr) (q1 : Int64) (q2 : Int64) : entryFrame m #[(.ref q0), (.long q1), (.long q2)] 5 = mkF m 0 #[rv q0, .val (.long q1), .second, .val (.long q2), .second] [] := by first | (simp [entryFrame, mkF, argsToLocals, Value.category]; done) | rfl
set_option maxRecDepth 65536 in
set_option maxHeartbeats 40000000 in
theorem rm1 (l : Launch) (Z : State) (a0 : Array Value) (hw : ∀ d ∈ tables_1, d.before a0 Z = true) (ws : List Jvm.Cond) (x0 : Addr) (x1 : Int64) (x2 : Int64) (h0 : Heap) (n0 : Nat) (Z0 : n0 ≤ h0.size) (E_x0 : Exa Z h0 x0 "com/example/semel/semel/log/TimestampedOffset") (g_x0 : n0 ≤ x0) (F_offset : Fld Z h0 x0 "com/example/semel/semel/log/TimestampedOffset" "offset" "J" (.long 0)) (F_timestamp : Fld Z h0 x0 "com/example/semel/semel/log/TimestampedOffset" "timestamp" "J" (.long 0)) :
    OwnC l Z (⟨"com/example/semel/semel/log/TimestampedOffset", "<init>", "(JJ)V"⟩ : MethodName) prog_37_method_1_code 5 none ws ({ frames := 1, cells := 0, slots := 0, locals := 12 } : Room) #[(.ref x0), (.long x1), (.long x2)] h0 (fun v h L => v = none ∧ Fr n0 L ∧ Keep h0 h [x0] ∧ Exa Z h x0 "com/example/semel/semel/log/TimestampedOffset" ∧ Fld Z h x0 "com/example/semel/semel/log/TimestampedOffset" "offset" "J" (.long x1) ∧ Fld Z h x0 "com/example/semel/semel/log/TimestampedOffset" "timestamp" "J" (.long x2)) := by
  refine own_entry pf_com_example_semel_semel_log_TimestampedOffset__init___JJ_V (fun m => ef_rm1 m x0 x1 x2) ?_
  intro p e s m below meth c T0 X0 hC e0
  obtain ⟨hx, hby, hml, hown, hnm, hret, hlk, hZ⟩ := hC
  have N0 := Fr.nil n0
  have K0 := Keep.refl h0 [x0]
  refine own_go T0 m 1 #[rv x0, .val (.long x1), .second, .val (.long x2), .second] [(.ref x0)] (fun t k => XS.aloadN X0.here hx rfl (hb hby d1_0) rfl rfl k) ?_
  obtain ⟨T1, X1, e1, st1⟩ := initO X0 hx hZ hown (own_w hw 6 rfl) (own_w hw 7 rfl) (own_w hw 8 rfl) e0 (g := (mkF m 1 #[rv x0, .val (.long x1), .second, .val (.long x2), .second] [(.ref x0)])) rfl (by rw [hml]; rfl) rfl (hb hby d1_1) (by decide) (W := 0) (by show 2 * 0 + _ ≤ _; exact Nat.le_of_eq rfl) (by decide)
  refine own_go T1 m 4 #[rv x0, .val (.long x1), .second, .val (.long x2), .second] [] (st1) ?_
  refine own_go T1 m 5 #[rv x0, .val (.long x1), .second, .val (.long x2), .second] [(.ref x0)] (fun t k => XS.aloadN X1.here hx rfl (hb hby d1_4) rfl rfl k) ?_
  refine own_go T1 m 6 #[rv x0, .val (.long x1), .second, .val (.long x2), .second] [(.long x1), (.ref x0)] (fun t k => XS.lloadN X1.here hx rfl (hb hby d1_5) rfl k) ?_
  obtain ⟨T2, h2, X2, e2, W2, st2⟩ := putF X1 hx hZ hown (host := "") (Or.inl (own_w hw 9 rfl)) Via.refl e1 F_offset E_x0 (Or.inr ⟨(own_w hw 10 rfl), rfl, hnm⟩) (own_w hw 1 rfl) (ty := .long) (by decide) rfl rfl (g := (mkF m 6 #[rv x0, .val (.long x1), .second, .val (.long x2), .second] [(.long x1), (.ref x0)])) rfl rfl (hb hby d1_6)
  have F2 := F_offset.same W2
  have cf3 := E_x0.wr W2
  have cf4 := F_timestamp.other W2 (Or.inr (slot_ne (Or.inr (own_w hw 12 rfl)) (Or.inr (own_w hw 10 rfl)) (by decide) (t := .long) (t' := .long) (by decide) (by decide)))
  have Z_2 : n0 ≤ h2.size := Nat.le_trans Z0 (Keep.of_wr W2).1
  have K_2 : Keep h0 h2 [x0] := K0.wr W2 (own_i 0 rfl)
  have N2 := Fr.snoc X2 N0 g_x0
  refine own_go T2 m 9 #[rv x0, .val (.long x1), .second, .val (.long x2), .second] [] (st2) ?_
  refine own_go T2 m 10 #[rv x0, .val (.long x1), .second, .val (.long x2), .second] [(.ref x0)] (fun t k => XS.aloadN X2.here hx rfl (hb hby d1_9) rfl rfl k) ?_
  refine own_go T2 m 11 #[rv x0, .val (.long x1), .second, .val (.long x2), .second] [(.long x2), (.ref x0)] (fun t k => XS.lloadN X2.here hx rfl (hb hby d1_10) rfl k) ?_
  obtain ⟨T5, h5, X5, e5, W5, st5⟩ := putF X2 hx hZ hown (host := "") (Or.inl (own_w hw 11 rfl)) Via.refl e2 cf4 cf3 (Or.inr ⟨(own_w hw 12 rfl), rfl, hnm⟩) (own_w hw 1 rfl) (ty := .long) (by decide) rfl rfl (g := (mkF m 11 #[rv x0, .val (.long x1), .second, .val (.long x2), .second] [(.long x2), (.ref x0)])) rfl rfl (hb hby d1_11)
  have F5 := cf4.same W5
  have cf6 := cf3.wr W5
  have cf7 := F2.other W5 (Or.inr (slot_ne (Or.inr (own_w hw 10 rfl)) (Or.inr (own_w hw 12 rfl)) (by decide) (t := .long) (t' := .long) (by decide) (by decide)))
  have Z_5 : n0 ≤ h5.size := Nat.le_trans Z_2 (Keep.of_wr W5).1
  have K_5 : Keep h0 h5 [x0] := K_2.wr W5 (own_i 0 rfl)
  have N5 := Fr.snoc X5 N2 g_x0
  refine own_go T5 m 14 #[rv x0, .val (.long x1), .second, .val (.long x2), .second] [] (st5) ?_
  refine own_retV X5 hx hlk hret (hb hby d1_14) (by decide) (by decide) ?_
  rw [e5]
  exact ⟨rfl, N5, K_5, cf6, cf7, F5⟩
def own_eq (a0 : Int64) (a1 : Int64) (b0 : Int64) (b1 : Int64) : Int32 := if a0 = b0 then if a1 = b1 then 1 else 0 else 0
theorem d3_0 : decode prog_37_method_4_code 0 = .ok (.aload_n 1, 1) := by decide +kernel
theorem d3_1 : decode prog_37_method_4_code 1 = .ok (.instanceof 8, 3) := by decide +kernel
theorem d3_4 : decode prog_37_method_4_code 4 = .ok (.ifCond .eq 36, 3) := by decide +kernel
theorem d3_7 : decode prog_37_method_4_code 7 = .ok (.aload_n 1, 1) := by decide +kernel
theorem d3_8 : decode prog_37_method_4_code 8 = .ok (.checkcast 8, 3) := by decide +kernel
theorem d3_11 : decode prog_37_method_4_code 11 = .ok (.astore_n 2, 1) := by decide +kernel
theorem d3_12 : decode prog_37_method_4_code 12 = .ok (.aload_n 0, 1) := by decide +kernel
theorem d3_13 : decode prog_37_method_4_code 13 = .ok (.getfield 7, 3) := by decide +kernel
theorem d3_16 : decode prog_37_method_4_code 16 = .ok (.aload_n 2, 1) := by decide +kernel
theorem d3_17 : decode prog_37_method_4_code 17 = .ok (.getfield 7, 3) := by decide +kernel
theorem d3_20 : decode prog_37_method_4_code 20 = .ok (.lcmp, 1) := by decide +kernel
theorem d3_21 : decode prog_37_method_4_code 21 = .ok (.ifCond .ne 19, 3) := by decide +kernel
theorem d3_24 : decode prog_37_method_4_code 24 = .ok (.aload_n 0, 1) := by decide +kernel
theorem d3_25 : decode prog_37_method_4_code 25 = .ok (.getfield 13, 3) := by decide +kernel
theorem d3_28 : decode prog_37_method_4_code 28 = .ok (.aload_n 2, 1) := by decide +kernel
theorem d3_29 : decode prog_37_method_4_code 29 = .ok (.getfield 13, 3) := by decide +kernel
theorem d3_32 : decode prog_37_method_4_code 32 = .ok (.lcmp, 1) := by decide +kernel
theorem d3_33 : decode prog_37_method_4_code 33 = .ok (.ifCond .ne 7, 3) := by decide +kernel
theorem d3_36 : decode prog_37_method_4_code 36 = .ok (.iconst 1, 1) := by decide +kernel
theorem d3_37 : decode prog_37_method_4_code 37 = .ok (.goto 4, 3) := by decide +kernel
theorem d3_40 : decode prog_37_method_4_code 40 = .ok (.iconst 0, 1) := by decide +kernel
theorem d3_41 : decode prog_37_method_4_code 41 = .ok (.ireturn, 1) := by decide +kernel
theorem pf_com_example_semel_semel_log_TimestampedOffset_equals__Ljava_lang_Object__Z : plainFor (⟨"com/example/semel/semel/log/TimestampedOffset", "equals", "(Ljava/lang/Object;)Z"⟩ : MethodName) = true := by first | exact plainFor_of_name (by first | (simp [plainName, overriddenIn]; done) | decide +kernel) | exact Jvm.Free.JP.mathPlain rfl (by decide +kernel) | decide +kernel
theorem ef_rmEn (m : MethodId) (q0 : Addr) : entryFrame m #[(.ref q0), .null] 3 = mkF m 0 #[rv q0, .val .null, .unset] [] := by first | (simp [entryFrame, mkF, argsToLocals, Value.category]; done) | rfl
set_option maxRecDepth 65536 in
set_option maxHeartbeats 40000000 in
theorem rmEn (l : Launch) (Z : State) (a0 : Array Value) (hw : ∀ d ∈ tables_1, d.before a0 Z = true) (ws : List Jvm.Cond) (x0 : Addr) (h0 : Heap) :
    OwnC l Z (⟨"com/example/semel/semel/log/TimestampedOffset", "equals", "(Ljava/lang/Object;)Z"⟩ : MethodName) prog_37_method_4_code 3 (some .boolean) ws ({ frames := 0, cells := 0, slots := 0, locals := 0 } : Room) #[(.ref x0), .null] h0 (OwnPure (.int 0) h0) := by
  refine own_entry pf_com_example_semel_semel_log_TimestampedOffset_equals__Ljava_lang_Object__Z (fun m => ef_rmEn m x0) ?_
  intro p e s m below meth c T0 X0 hC e0
  obtain ⟨hx, hby, hml, hown, hnm, hret, hlk, hZ⟩ := hC
  refine own_go T0 m 1 #[rv x0, .val .null, .unset] [.null] (fun t k => XS.aloadN X0.here hx rfl (hb hby d3_0) rfl rfl k) ?_
  refine own_go T0 m 4 #[rv x0, .val .null, .unset] [(.int 0)] (X0.instanceofNull hx (g := (mkF m 1 #[rv x0, .val .null, .unset] [.null])) rfl rfl (hb hby d3_1)) ?_
  refine own_go T0 m 40 #[rv x0, .val .null, .unset] [] (fun t k => XS.ifYes X0.here hx rfl (pc0 := 4) (pc' := 40) rfl (hb hby d3_4) rfl ((if0 _ _).trans (teq (by decide)).1) (by decide) (by decide) k) ?_
  refine own_go T0 m 41 #[rv x0, .val .null, .unset] [(.int 0)] (fun t k => XS.iconst X0.here hx rfl (hb hby d3_40) k) ?_
  refine own_retZ X0 hx hlk hret (by decide) (hb hby d3_41) (by decide) (by decide) ?_
  exact ⟨rfl, e0, rfl⟩
theorem ef_rmEb (m : MethodId) (q0 : Addr) (q1 : Addr) : entryFrame m #[(.ref q0), (.ref q1)] 3 = mkF m 0 #[rv q0, rv q1, .unset] [] := by first | (simp [entryFrame, mkF, argsToLocals, Value.category]; done) | rfl
set_option maxRecDepth 65536 in
set_option maxHeartbeats 40000000 in
theorem rmEb (l : Launch) (Z : State) (a0 : Array Value) (hw : ∀ d ∈ tables_1, d.before a0 Z = true) (ws : List Jvm.Cond) (x0 : Addr) (x1 : Addr) (a0 : Int64) (a1 : Int64) (b0 : Int64) (b1 : Int64) (h0 : Heap) (F_offset_x0 : Fld Z h0 x0 "com/example/semel/semel/log/TimestampedOffset" "offset" "J" (.long a0)) (F_timestamp_x0 : Fld Z h0 x0 "com/example/semel/semel/log/TimestampedOffset" "timestamp" "J" (.long a1)) (F_offset_x1 : Fld Z h0 x1 "com/example/semel/semel/log/TimestampedOffset" "offset" "J" (.long b0)) (F_timestamp_x1 : Fld Z h0 x1 "com/example/semel/semel/log/TimestampedOffset" "timestamp" "J" (.long b1)) (E_x1 : Exa Z h0 x1 "com/example/semel/semel/log/TimestampedOffset") :
    OwnC l Z (⟨"com/example/semel/semel/log/TimestampedOffset", "equals", "(Ljava/lang/Object;)Z"⟩ : MethodName) prog_37_method_4_code 3 (some .boolean) ws ({ frames := 0, cells := 0, slots := 0, locals := 0 } : Room) #[(.ref x0), (.ref x1)] h0 (OwnPure (.int (own_eq a0 a1 b0 b1)) h0) := by
  refine own_entry pf_com_example_semel_semel_log_TimestampedOffset_equals__Ljava_lang_Object__Z (fun m => ef_rmEb m x0 x1) ?_
  intro p e s m below meth c T0 X0 hC e0
  obtain ⟨hx, hby, hml, hown, hnm, hret, hlk, hZ⟩ := hC
  refine own_go T0 m 1 #[rv x0, rv x1, .unset] [(.ref x1)] (fun t k => XS.aloadN X0.here hx rfl (hb hby d3_0) rfl rfl k) ?_
  obtain ⟨T1, X1, e1, st1⟩ := instY X0 hx hZ hown (own_w hw 18 rfl) e0 (Ins.self E_x1) (g := (mkF m 1 #[rv x0, rv x1, .unset] [(.ref x1)])) rfl rfl (hb hby d3_1)
  refine own_go T1 m 4 #[rv x0, rv x1, .unset] [(.int 1)] (st1) ?_
  refine own_go T1 m 7 #[rv x0, rv x1, .unset] [] (fun t k => XS.ifNo X1.here hx rfl (hb hby d3_4) rfl ((if0 _ _).trans (feq (by decide)).1) k) ?_
  refine own_go T1 m 8 #[rv x0, rv x1, .unset] [(.ref x1)] (fun t k => XS.aloadN X1.here hx rfl (hb hby d3_7) rfl rfl k) ?_
  obtain ⟨T2, X2, e2, st2⟩ := castY X1 hx hZ hown (own_w hw 18 rfl) e1 (Ins.self E_x1) (g := (mkF m 8 #[rv x0, rv x1, .unset] [(.ref x1)])) rfl rfl (hb hby d3_8)
  refine own_go T2 m 11 #[rv x0, rv x1, .unset] [(.ref x1)] (st2) ?_
  refine own_go T2 m 12 #[rv x0, rv x1, rv x1] [] (fun t k => XS.astoreN X2.here hx rfl (hb hby d3_11) rfl rfl rfl k) ?_
  refine own_go T2 m 13 #[rv x0, rv x1, rv x1] [(.ref x0)] (fun t k => XS.aloadN X2.here hx rfl (hb hby d3_12) rfl rfl k) ?_
  obtain ⟨T3, X3, e3, st3⟩ := getF X2 hx hZ hown (host := "") (Or.inl (own_w hw 9 rfl)) Via.refl e2 F_offset_x0 (g := (mkF m 13 #[rv x0, rv x1, rv x1] [(.ref x0)])) rfl rfl (hb hby d3_13)
  refine own_go T3 m 16 #[rv x0, rv x1, rv x1] [(.long a0)] (st3) ?_
  refine own_go T3 m 17 #[rv x0, rv x1, rv x1] [(.ref x1), (.long a0)] (fun t k => XS.aloadN X3.here hx rfl (hb hby d3_16) rfl rfl k) ?_
  obtain ⟨T4, X4, e4, st4⟩ := getF X3 hx hZ hown (host := "") (Or.inl (own_w hw 9 rfl)) Via.refl e3 F_offset_x1 (g := (mkF m 17 #[rv x0, rv x1, rv x1] [(.ref x1), (.long a0)])) rfl rfl (hb hby d3_17)
  refine own_go T4 m 20 #[rv x0, rv x1, rv x1] [(.long b0), (.long a0)] (st4) ?_
  refine own_go T4 m 21 #[rv x0, rv x1, rv x1] [(.int (lcmpW a0 b0))] (fun t k => XS.lcmp X4.here hx rfl (hb hby d3_20) rfl k) ?_
  by_cases hc21_5 : a0 = b0
  · refine own_go T4 m 24 #[rv x0, rv x1, rv x1] [] (fun t k => XS.ifNo X4.here hx rfl (hb hby d3_21) rfl ((if0 _ _).trans (teq ((lw_eq a0 b0).mpr hc21_5)).2) k) ?_
    refine own_go T4 m 25 #[rv x0, rv x1, rv x1] [(.ref x0)] (fun t k => XS.aloadN X4.here hx rfl (hb hby d3_24) rfl rfl k) ?_
    obtain ⟨T6, X6, e6, st6⟩ := getF X4 hx hZ hown (host := "") (Or.inl (own_w hw 11 rfl)) Via.refl e4 F_timestamp_x0 (g := (mkF m 25 #[rv x0, rv x1, rv x1] [(.ref x0)])) rfl rfl (hb hby d3_25)
    refine own_go T6 m 28 #[rv x0, rv x1, rv x1] [(.long a1)] (st6) ?_
    refine own_go T6 m 29 #[rv x0, rv x1, rv x1] [(.ref x1), (.long a1)] (fun t k => XS.aloadN X6.here hx rfl (hb hby d3_28) rfl rfl k) ?_
    obtain ⟨T7, X7, e7, st7⟩ := getF X6 hx hZ hown (host := "") (Or.inl (own_w hw 11 rfl)) Via.refl e6 F_timestamp_x1 (g := (mkF m 29 #[rv x0, rv x1, rv x1] [(.ref x1), (.long a1)])) rfl rfl (hb hby d3_29)
    refine own_go T7 m 32 #[rv x0, rv x1, rv x1] [(.long b1), (.long a1)] (st7) ?_
    refine own_go T7 m 33 #[rv x0, rv x1, rv x1] [(.int (lcmpW a1 b1))] (fun t k => XS.lcmp X7.here hx rfl (hb hby d3_32) rfl k) ?_
    by_cases hc33_8 : a1 = b1
    · refine own_go T7 m 36 #[rv x0, rv x1, rv x1] [] (fun t k => XS.ifNo X7.here hx rfl (hb hby d3_33) rfl ((if0 _ _).trans (teq ((lw_eq a1 b1).mpr hc33_8)).2) k) ?_
      refine own_go T7 m 37 #[rv x0, rv x1, rv x1] [(.int 1)] (fun t k => XS.iconst X7.here hx rfl (hb hby d3_36) k) ?_
      refine own_go T7 m 41 #[rv x0, rv x1, rv x1] [(.int 1)] (fun t k => XS.goto X7.here hx rfl (pc0 := 37) (pc' := 41) rfl (hb hby d3_37) (by decide) (by decide) k) ?_
      refine own_retZ X7 hx hlk hret (by decide) (hb hby d3_41) (by decide) (by decide) ?_
      refine ⟨?_, e7, rfl⟩
      simp [own_eq, hc21_5, hc33_8]
    · refine own_go T7 m 40 #[rv x0, rv x1, rv x1] [] (fun t k => XS.ifYes X7.here hx rfl (pc0 := 33) (pc' := 40) rfl (hb hby d3_33) rfl ((if0 _ _).trans (feq (mt (lw_eq a1 b1).mp hc33_8)).2) (by decide) (by decide) k) ?_
      refine own_go T7 m 41 #[rv x0, rv x1, rv x1] [(.int 0)] (fun t k => XS.iconst X7.here hx rfl (hb hby d3_40) k) ?_
      refine own_retZ X7 hx hlk hret (by decide) (hb hby d3_41) (by decide) (by decide) ?_
      refine ⟨?_, e7, rfl⟩
      simp [own_eq, hc21_5, hc33_8]
  · refine own_go T4 m 40 #[rv x0, rv x1, rv x1] [] (fun t k => XS.ifYes X4.here hx rfl (pc0 := 21) (pc' := 40) rfl (hb hby d3_21) rfl ((if0 _ _).trans (feq (mt (lw_eq a0 b0).mp hc21_5)).2) (by decide) (by decide) k) ?_
    refine own_go T4 m 41 #[rv x0, rv x1, rv x1] [(.int 0)] (fun t k => XS.iconst X4.here hx rfl (hb hby d3_40) k) ?_
    refine own_retZ X4 hx hlk hret (by decide) (hb hby d3_41) (by decide) (by decide) ?_
    refine ⟨?_, e4, rfl⟩
    simp [own_eq, hc21_5]
def OwnCache (Z : State) (h : Heap) (aC : Addr) (cell : Cell) : Prop :=
  Sta Z h "java/lang/Long$LongCache" "cache" "[Ljava/lang/Long;" (.ref aC) ∧ Arr Z h aC cell (.object "java/lang/Long") ∧ ∀ w : Int64, ¬ w < -128 → ¬ (127 : Int64) < w → ¬ ((w.toInt32 + 128) < 0 ∨ cell.slots.size ≤ (w.toInt32 + 128).toNatClampNeg) ∧ ∃ r, cell.slots[(w.toInt32 + 128).toNatClampNeg]? = some (.ref r) ∧ Exa Z h r "java/lang/Long"
theorem own_cache_keep {Z : State} {h h' : Heap} {aC : Addr} {cell : Cell} (HC : OwnCache Z h aC cell) (K : Keep h h' []) : OwnCache Z h' aC cell := by
  refine ⟨own_sta_keep HC.1 K, ⟨K.2.1 _ _ HC.2.1.1 nin0, HC.2.1.2⟩, fun w h1 h2 => ?_⟩
  obtain ⟨a, r, b, c⟩ := HC.2.2 w h1 h2
  exact ⟨a, r, b, c.keep K⟩
theorem own_cache {s : State} {args : Array Value} {D : Jvm.Cond} (hA : (Jvm.Cond.arrayOf (Term.static "java/lang/Long$LongCache" "cache" "[Ljava/lang/Long;") (.object "java/lang/Long")).before args s = true) (hi : (Jvm.Cond.initializedFor "java/lang/Long$LongCache" "cache" "[Ljava/lang/Long;").before args s = true)
    (hl : (Jvm.Cond.eq (.length (Term.static "java/lang/Long$LongCache" "cache" "[Ljava/lang/Long;")) (.int 256)).before args s = true) (hall : (Jvm.Cond.all (Term.static "java/lang/Long$LongCache" "cache" "[Ljava/lang/Long;") (.and (.exactly (.elem (Term.static "java/lang/Long$LongCache" "cache" "[Ljava/lang/Long;") (.index 0)) "java/lang/Long") D)).before args s = true) : ∃ aC cell, OwnCache s s.heap aC cell := by
  obtain ⟨aC, ev⟩ := arr_v (Cond.before_iff.mp hA)
  obtain ⟨cell, A⟩ := Arr.start ev (Cond.before_iff.mp hA)
  have S := Sta.start ev (Or.inl hi)
  obtain ⟨hsz, h256⟩ := Jvm.Free.IntBox.length_fwd hl ev A.1 A.2.1 A.2.2
  have hsize : cell.slots.size = 256 := by
    have q := len_toInt hsz
    rw [h256] at q
    have : ((256 : Int32)).toInt = 256 := by decide
    omega
  have hat := Arr.fin (Vm.Alike.refl _) A
  have H := Cond.all_elim ev hat (Cond.before_iff.mp hall)
  refine ⟨aC, cell, S, A, fun w h1 h2 => ?_⟩
  obtain ⟨hb, hlt⟩ := Jvm.Free.LongBox.place_okL w h1 h2
  rw [hsize]
  refine ⟨hb, ?_⟩
  have hi := H _ (by rw [hsize]; exact hlt)
  obtain ⟨hx, -⟩ := and_e hi
  obtain ⟨r, hr⟩ := exa_v hx
  have hj : ¬ (w.toInt32 + 128) < 0 := fun q => hb (Or.inl q)
  have evi : (Term.static "java/lang/Long$LongCache" "cache" "[Ljava/lang/Long;").eval args s none [(w.toInt32 + 128).toNatClampNeg] s = some (.ref aC) := by simpa [Term.eval] using ev
  have q := elem_f evi (idx_at hj) hat hj
  exact ⟨r, q.symm.trans hr, exa_at hr hx⟩
theorem d10_0 : decode jdk_18_method_1_code 0 = .ok (.aload_n 0, 1) := by decide +kernel
theorem d10_1 : decode jdk_18_method_1_code 1 = .ok (.invokespecial 1, 3) := by decide +kernel
theorem d10_4 : decode jdk_18_method_1_code 4 = .ok (.return_, 1) := by decide +kernel
theorem pf_java_lang_Number__init____V : plainFor (⟨"java/lang/Number", "<init>", "()V"⟩ : MethodName) = true := by first | exact plainFor_of_name (by first | (simp [plainName, overriddenIn]; done) | decide +kernel) | exact Jvm.Free.JP.mathPlain rfl (by decide +kernel) | decide +kernel
theorem ef_rm10 (m : MethodId) (q0 : Addr) : entryFrame m #[(.ref q0)] 1 = mkF m 0 #[rv q0] [] := by first | (simp [entryFrame, mkF, argsToLocals, Value.category]; done) | rfl
set_option maxRecDepth 65536 in
set_option maxHeartbeats 40000000 in
theorem rm10 (l : Launch) (Z : State) (a0 : Array Value) (hw : ∀ d ∈ tables_1, d.before a0 Z = true) (ws : List Jvm.Cond) (x0 : Addr) (h0 : Heap) :
    OwnC l Z (⟨"java/lang/Number", "<init>", "()V"⟩ : MethodName) jdk_18_method_1_code 1 none ws ({ frames := 1, cells := 0, slots := 0, locals := 12 } : Room) #[(.ref x0)] h0 (fun v h L => v = none ∧ h = h0 ∧ L = []) := by
  refine own_entry pf_java_lang_Number__init____V (fun m => ef_rm10 m x0) ?_
  intro p e s m below meth c T0 X0 hC e0
  obtain ⟨hx, hby, hml, hown, hnm, hret, hlk, hZ⟩ := hC
  refine own_go T0 m 1 #[rv x0] [(.ref x0)] (fun t k => XS.aloadN X0.here hx rfl (hb hby d10_0) rfl rfl k) ?_
  obtain ⟨T1, X1, e1, st1⟩ := initO X0 hx hZ hown (own_w hw 64 rfl) (own_w hw 7 rfl) (own_w hw 8 rfl) e0 (g := (mkF m 1 #[rv x0] [(.ref x0)])) rfl (by rw [hml]; rfl) rfl (hb hby d10_1) (by decide) (W := 0) (by show 2 * 0 + _ ≤ _; exact Nat.le_of_eq rfl) (by decide)
  refine own_go T1 m 4 #[rv x0] [] (st1) ?_
  refine own_retV X1 hx hlk hret (hb hby d10_4) (by decide) (by decide) ?_
  exact ⟨rfl, e1, rfl⟩
theorem d9_0 : decode jdk_35_method_26_code 0 = .ok (.aload_n 0, 1) := by decide +kernel
theorem d9_1 : decode jdk_35_method_26_code 1 = .ok (.invokespecial 270, 3) := by decide +kernel
theorem d9_4 : decode jdk_35_method_26_code 4 = .ok (.aload_n 0, 1) := by decide +kernel
theorem d9_5 : decode jdk_35_method_26_code 5 = .ok (.lload_n 1, 1) := by decide +kernel
theorem d9_6 : decode jdk_35_method_26_code 6 = .ok (.putfield 273, 3) := by decide +kernel
theorem d9_9 : decode jdk_35_method_26_code 9 = .ok (.return_, 1) := by decide +kernel
theorem pf_java_lang_Long__init___J_V : plainFor (⟨"java/lang/Long", "<init>", "(J)V"⟩ : MethodName) = true := by first | exact plainFor_of_name (by first | (simp [plainName, overriddenIn]; done) | decide +kernel) | exact Jvm.Free.JP.mathPlain rfl (by decide +kernel) | decide +kernel
theorem ef_rm9 (m : MethodId) (q0 : Addr) (q1 : Int64) : entryFrame m #[(.ref q0), (.long q1)] 3 = mkF m 0 #[rv q0, .val (.long q1), .second] [] := by first | (simp [entryFrame, mkF, argsToLocals, Value.category]; done) | rfl
set_option maxRecDepth 65536 in
set_option maxHeartbeats 40000000 in
theorem rm9 (l : Launch) (Z : State) (a0 : Array Value) (hw : ∀ d ∈ tables_1, d.before a0 Z = true) (ws : List Jvm.Cond) (x0 : Addr) (x1 : Int64) (h0 : Heap) (n0 : Nat) (Z0 : n0 ≤ h0.size) (E_x0 : Exa Z h0 x0 "java/lang/Long") (g_x0 : n0 ≤ x0) (F_value : Fld Z h0 x0 "java/lang/Long" "value" "J" (.long 0)) :
    OwnC l Z (⟨"java/lang/Long", "<init>", "(J)V"⟩ : MethodName) jdk_35_method_26_code 3 none ws ({ frames := 2, cells := 0, slots := 0, locals := 24 } : Room) #[(.ref x0), (.long x1)] h0 (fun v h L => v = none ∧ Fr n0 L ∧ Keep h0 h [x0] ∧ Exa Z h x0 "java/lang/Long" ∧ Fld Z h x0 "java/lang/Long" "value" "J" (.long x1)) := by
  refine own_entry pf_java_lang_Long__init___J_V (fun m => ef_rm9 m x0 x1) ?_
  intro p e s m below meth c T0 X0 hC e0
  obtain ⟨hx, hby, hml, hown, hnm, hret, hlk, hZ⟩ := hC
  have N0 := Fr.nil n0
  have K0 := Keep.refl h0 [x0]
  refine own_go T0 m 1 #[rv x0, .val (.long x1), .second] [(.ref x0)] (fun t k => XS.aloadN X0.here hx rfl (hb hby d9_0) rfl rfl k) ?_
  obtain ⟨_, T1, L1, X1, ⟨rfl, e1, rfl⟩, st1⟩ := own_init X0 hx hZ (y := (⟨"java/lang/Number", "<init>", "()V"⟩ : MethodName)) rfl hown (own_w hw 58 rfl) (own_w hw 59 rfl) (own_w hw 62 rfl) (own_w hw 63 rfl) (by decide) (rm10 l Z a0 hw [] x0 h0) e0 (a := x0) 0 (argsL := []) (rest := []) (Ls := #[rv x0, .val (.long x1), .second]) (by rw [hml]; rfl) (lenOf pd___V rfl) rfl rfl (Nat.le_of_eq rfl) (hb hby d9_1) (by decide) (by decide) (by decide) (by decide)
  replace X1 := own_nil X1
  refine own_go T1 m 4 #[rv x0, .val (.long x1), .second] [] (st1) ?_
  refine own_go T1 m 5 #[rv x0, .val (.long x1), .second] [(.ref x0)] (fun t k => XS.aloadN X1.here hx rfl (hb hby d9_4) rfl rfl k) ?_
  refine own_go T1 m 6 #[rv x0, .val (.long x1), .second] [(.long x1), (.ref x0)] (fun t k => XS.lloadN X1.here hx rfl (hb hby d9_5) rfl k) ?_
  obtain ⟨T2, h2, X2, e2, W2, st2⟩ := putF X1 hx hZ hown (host := "") (Or.inl (own_w hw 65 rfl)) Via.refl e1 F_value E_x0 (Or.inr ⟨(own_w hw 66 rfl), rfl, hnm⟩) (own_w hw 53 rfl) (ty := .long) (by decide) rfl rfl (g := (mkF m 6 #[rv x0, .val (.long x1), .second] [(.long x1), (.ref x0)])) rfl rfl (hb hby d9_6)
  have F2 := F_value.same W2
  have cf3 := E_x0.wr W2
  have Z_2 : n0 ≤ h2.size := Nat.le_trans Z0 (Keep.of_wr W2).1
  have K_2 : Keep h0 h2 [x0] := K0.wr W2 (own_i 0 rfl)
  have N2 := Fr.snoc X2 N0 g_x0
  refine own_go T2 m 9 #[rv x0, .val (.long x1), .second] [] (st2) ?_
  refine own_retV X2 hx hlk hret (hb hby d9_9) (by decide) (by decide) ?_
  rw [e2]
  exact ⟨rfl, N2, K_2, cf3, F2⟩
theorem d8_0 : decode jdk_35_method_24_code 0 = .ok (.sipush 128, 3) := by decide +kernel
theorem d8_3 : decode jdk_35_method_24_code 3 = .ok (.istore_n 2, 1) := by decide +kernel
theorem d8_4 : decode jdk_35_method_24_code 4 = .ok (.lload_n 0, 1) := by decide +kernel
theorem d8_5 : decode jdk_35_method_24_code 5 = .ok (.ldc2_w 230, 3) := by decide +kernel
theorem d8_8 : decode jdk_35_method_24_code 8 = .ok (.lcmp, 1) := by decide +kernel
theorem d8_9 : decode jdk_35_method_24_code 9 = .ok (.ifCond .lt 22, 3) := by decide +kernel
theorem d8_12 : decode jdk_35_method_24_code 12 = .ok (.lload_n 0, 1) := by decide +kernel
theorem d8_13 : decode jdk_35_method_24_code 13 = .ok (.ldc2_w 232, 3) := by decide +kernel
theorem d8_16 : decode jdk_35_method_24_code 16 = .ok (.lcmp, 1) := by decide +kernel
theorem d8_17 : decode jdk_35_method_24_code 17 = .ok (.ifCond .gt 14, 3) := by decide +kernel
theorem d8_20 : decode jdk_35_method_24_code 20 = .ok (.getstatic 234, 3) := by decide +kernel
theorem d8_23 : decode jdk_35_method_24_code 23 = .ok (.lload_n 0, 1) := by decide +kernel
theorem d8_24 : decode jdk_35_method_24_code 24 = .ok (.l2i, 1) := by decide +kernel
theorem d8_25 : decode jdk_35_method_24_code 25 = .ok (.sipush 128, 3) := by decide +kernel
theorem d8_28 : decode jdk_35_method_24_code 28 = .ok (.iadd, 1) := by decide +kernel
theorem d8_29 : decode jdk_35_method_24_code 29 = .ok (.aaload, 1) := by decide +kernel
theorem d8_30 : decode jdk_35_method_24_code 30 = .ok (.areturn, 1) := by decide +kernel
theorem d8_31 : decode jdk_35_method_24_code 31 = .ok (.new 1, 3) := by decide +kernel
theorem d8_34 : decode jdk_35_method_24_code 34 = .ok (.dup, 1) := by decide +kernel
theorem d8_35 : decode jdk_35_method_24_code 35 = .ok (.lload_n 0, 1) := by decide +kernel
theorem d8_36 : decode jdk_35_method_24_code 36 = .ok (.invokespecial 240, 3) := by decide +kernel
theorem d8_39 : decode jdk_35_method_24_code 39 = .ok (.areturn, 1) := by decide +kernel
theorem pf_java_lang_Long_valueOf__J_Ljava_lang_Long_ : plainFor (⟨"java/lang/Long", "valueOf", "(J)Ljava/lang/Long;"⟩ : MethodName) = true := by first | exact plainFor_of_name (by first | (simp [plainName, overriddenIn]; done) | decide +kernel) | exact Jvm.Free.JP.mathPlain rfl (by decide +kernel) | decide +kernel
theorem ef_rm8 (m : MethodId) (q0 : Int64) : entryFrame m #[(.long q0)] 3 = mkF m 0 #[.val (.long q0), .second, .unset] [] := by first | (simp [entryFrame, mkF, argsToLocals, Value.category]; done) | rfl
set_option maxRecDepth 65536 in
set_option maxHeartbeats 40000000 in
theorem rm8 (l : Launch) (Z : State) (a0 : Array Value) (hw : ∀ d ∈ tables_1, d.before a0 Z = true) (ws : List Jvm.Cond) (x0 : Int64) (aC : Addr) (cell : Cell) (h0 : Heap) (n0 : Nat) (Z0 : n0 ≤ h0.size) (HC : OwnCache Z h0 aC cell) :
    OwnC l Z (⟨"java/lang/Long", "valueOf", "(J)Ljava/lang/Long;"⟩ : MethodName) jdk_35_method_24_code 3 (some (.object "java/lang/Long")) ws ({ frames := 3, cells := 1, slots := 1, locals := 39 } : Room) #[(.long x0)] h0 (fun v h L => ∃ r, v = some (.ref r) ∧ Exa Z h r "java/lang/Long" ∧ Keep h0 h [] ∧ Fr n0 L) := by
  refine own_entry pf_java_lang_Long_valueOf__J_Ljava_lang_Long_ (fun m => ef_rm8 m x0) ?_
  intro p e s m below meth c T0 X0 hC e0
  obtain ⟨hx, hby, hml, hown, hnm, hret, hlk, hZ⟩ := hC
  have N0 := Fr.nil n0
  have K0 := Keep.refl h0 []
  refine own_go T0 m 3 #[.val (.long x0), .second, .unset] [(.int 128)] (fun t k => XS.sipush X0.here hx rfl (hb hby d8_0) k) ?_
  refine own_go T0 m 4 #[.val (.long x0), .second, iv 128] [] (fun t k => XS.istoreN X0.here hx rfl (hb hby d8_3) rfl rfl k) ?_
  refine own_go T0 m 5 #[.val (.long x0), .second, iv 128] [(.long x0)] (fun t k => XS.lloadN X0.here hx rfl (hb hby d8_4) rfl k) ?_
  refine own_go T0 m 8 #[.val (.long x0), .second, iv 128] [(.long (-128)), (.long x0)] (X0.ldc2Long hx hown (mvT hZ (own_w hw 51 rfl)) (g := (mkF m 5 #[.val (.long x0), .second, iv 128] [(.long x0)])) rfl (hb hby d8_5)) ?_
  refine own_go T0 m 9 #[.val (.long x0), .second, iv 128] [(.int (lcmpW x0 (-128 : Int64)))] (fun t k => XS.lcmp X0.here hx rfl (hb hby d8_8) rfl k) ?_
  by_cases hc9_1 : x0 < (-128 : Int64)
  · refine own_go T0 m 31 #[.val (.long x0), .second, iv 128] [] (fun t k => XS.ifYes X0.here hx rfl (pc0 := 9) (pc' := 31) rfl (hb hby d8_9) rfl ((if0 _ _).trans (tlt ((lw_lt x0 (-128 : Int64)).mpr hc9_1)).1) (by decide) (by decide) k) ?_
    obtain ⟨T2, h2, X2, e2, E2, A2, D2, -, st2⟩ := newO X0 hx hZ hown (own_w hw 52 rfl) (own_w hw 53 rfl) (own_w hw 49 rfl) e0 (g := (mkF m 31 #[.val (.long x0), .second, iv 128] [])) rfl (hb hby d8_31) (by decide) (by decide)
    obtain ⟨b2, g2⟩ : ∃ z, z = h0.size := ⟨_, rfl⟩
    rw [← g2] at A2 D2 st2
    have g_b2 : n0 ≤ b2 := Nat.le_trans Z0 (Nat.le_of_eq g2.symm)
    have sz_b2 : h0.size ≤ b2 := Nat.le_trans K0.1 (Nat.le_of_eq g2.symm)
    have cf3 := HC.1.ext E2
    have Z_2 : n0 ≤ h2.size := Nat.le_trans Z0 E2.1
    have K_2 : Keep h0 h2 [] := K0.ext E2
    have F_value_2 : Fld Z h2 b2 "java/lang/Long" "value" "J" (.long 0) := D2 (Or.inr (own_w hw 66 rfl)) (ty := .long) (by decide)
    refine own_go T2 m 34 #[.val (.long x0), .second, iv 128] [(.ref b2)] (st2) ?_
    refine own_go T2 m 35 #[.val (.long x0), .second, iv 128] [(.ref b2), (.ref b2)] (fun t k => XS.dup X2.here hx rfl (hb hby d8_34) rfl rfl k) ?_
    refine own_go T2 m 36 #[.val (.long x0), .second, iv 128] [(.long x0), (.ref b2), (.ref b2)] (fun t k => XS.lloadN X2.here hx rfl (hb hby d8_35) rfl k) ?_
    obtain ⟨_, T4, L4, X4, ⟨rfl, Nq4, Kq4, Aq4, Fq4_0⟩, st4⟩ := own_init X2 hx hZ (y := (⟨"java/lang/Long", "<init>", "(J)V"⟩ : MethodName)) rfl hown (own_w hw 54 rfl) (own_w hw 55 rfl) (own_w hw 49 rfl) (own_w hw 57 rfl) (by decide) (rm9 l Z a0 hw [] b2 x0 h2 n0 Z_2 A2 g_b2 F_value_2 ) e2 (a := b2) 1 (argsL := [(.long x0)]) (rest := [(.ref b2)]) (Ls := #[.val (.long x0), .second, iv 128]) (by rw [hml]; rfl) (lenOf pd__J_V rfl) rfl rfl (Nat.le_of_eq rfl) (hb hby d8_36) (by decide) (by decide) (by decide) (by decide)
    have N4 := Fr.app N0 Nq4
    have cf5 := own_sta_keep1 cf3 Kq4 A2
    have cf6 := A2.keep Kq4
    have Z_4 : n0 ≤ T4.heap.size := Nat.le_trans Z_2 Kq4.1
    have K_4 : Keep h0 T4.heap [] := K_2.trans Kq4 (allS (Or.inr sz_b2) all0)
    refine own_go T4 m 39 #[.val (.long x0), .second, iv 128] [(.ref b2)] (st4) ?_
    refine own_retA X4 hx hlk hret rfl rfl rfl (hb hby d8_39) (by decide) (by decide) ?_
    exact ⟨b2, rfl, Aq4, K_4, N4⟩
  · refine own_go T0 m 12 #[.val (.long x0), .second, iv 128] [] (fun t k => XS.ifNo X0.here hx rfl (hb hby d8_9) rfl ((if0 _ _).trans (flt (mt (lw_lt x0 (-128 : Int64)).mp hc9_1)).1) k) ?_
    refine own_go T0 m 13 #[.val (.long x0), .second, iv 128] [(.long x0)] (fun t k => XS.lloadN X0.here hx rfl (hb hby d8_12) rfl k) ?_
    refine own_go T0 m 16 #[.val (.long x0), .second, iv 128] [(.long 127), (.long x0)] (X0.ldc2Long hx hown (mvT hZ (own_w hw 69 rfl)) (g := (mkF m 13 #[.val (.long x0), .second, iv 128] [(.long x0)])) rfl (hb hby d8_13)) ?_
    refine own_go T0 m 17 #[.val (.long x0), .second, iv 128] [(.int (lcmpW x0 (127 : Int64)))] (fun t k => XS.lcmp X0.here hx rfl (hb hby d8_16) rfl k) ?_
    by_cases hc17_7 : (127 : Int64) < x0
    · refine own_go T0 m 31 #[.val (.long x0), .second, iv 128] [] (fun t k => XS.ifYes X0.here hx rfl (pc0 := 17) (pc' := 31) rfl (hb hby d8_17) rfl ((if0 _ _).trans (tlt ((lw_gt x0 (127 : Int64)).mpr hc17_7)).2.2.1) (by decide) (by decide) k) ?_
      obtain ⟨T8, h8, X8, e8, E8, A8, D8, -, st8⟩ := newO X0 hx hZ hown (own_w hw 52 rfl) (own_w hw 53 rfl) (own_w hw 49 rfl) e0 (g := (mkF m 31 #[.val (.long x0), .second, iv 128] [])) rfl (hb hby d8_31) (by decide) (by decide)
      obtain ⟨b8, g8⟩ : ∃ z, z = h0.size := ⟨_, rfl⟩
      rw [← g8] at A8 D8 st8
      have g_b8 : n0 ≤ b8 := Nat.le_trans Z0 (Nat.le_of_eq g8.symm)
      have sz_b8 : h0.size ≤ b8 := Nat.le_trans K0.1 (Nat.le_of_eq g8.symm)
      have cf9 := HC.1.ext E8
      have Z_8 : n0 ≤ h8.size := Nat.le_trans Z0 E8.1
      have K_8 : Keep h0 h8 [] := K0.ext E8
      have F_value_8 : Fld Z h8 b8 "java/lang/Long" "value" "J" (.long 0) := D8 (Or.inr (own_w hw 66 rfl)) (ty := .long) (by decide)
      refine own_go T8 m 34 #[.val (.long x0), .second, iv 128] [(.ref b8)] (st8) ?_
      refine own_go T8 m 35 #[.val (.long x0), .second, iv 128] [(.ref b8), (.ref b8)] (fun t k => XS.dup X8.here hx rfl (hb hby d8_34) rfl rfl k) ?_
      refine own_go T8 m 36 #[.val (.long x0), .second, iv 128] [(.long x0), (.ref b8), (.ref b8)] (fun t k => XS.lloadN X8.here hx rfl (hb hby d8_35) rfl k) ?_
      obtain ⟨_, T10, L10, X10, ⟨rfl, Nq10, Kq10, Aq10, Fq10_0⟩, st10⟩ := own_init X8 hx hZ (y := (⟨"java/lang/Long", "<init>", "(J)V"⟩ : MethodName)) rfl hown (own_w hw 54 rfl) (own_w hw 55 rfl) (own_w hw 49 rfl) (own_w hw 57 rfl) (by decide) (rm9 l Z a0 hw [] b8 x0 h8 n0 Z_8 A8 g_b8 F_value_8 ) e8 (a := b8) 1 (argsL := [(.long x0)]) (rest := [(.ref b8)]) (Ls := #[.val (.long x0), .second, iv 128]) (by rw [hml]; rfl) (lenOf pd__J_V rfl) rfl rfl (Nat.le_of_eq rfl) (hb hby d8_36) (by decide) (by decide) (by decide) (by decide)
      have N10 := Fr.app N0 Nq10
      have cf11 := own_sta_keep1 cf9 Kq10 A8
      have cf12 := A8.keep Kq10
      have Z_10 : n0 ≤ T10.heap.size := Nat.le_trans Z_8 Kq10.1
      have K_10 : Keep h0 T10.heap [] := K_8.trans Kq10 (allS (Or.inr sz_b8) all0)
      refine own_go T10 m 39 #[.val (.long x0), .second, iv 128] [(.ref b8)] (st10) ?_
      refine own_retA X10 hx hlk hret rfl rfl rfl (hb hby d8_39) (by decide) (by decide) ?_
      exact ⟨b8, rfl, Aq10, K_10, N10⟩
    · refine own_go T0 m 20 #[.val (.long x0), .second, iv 128] [] (fun t k => XS.ifNo X0.here hx rfl (hb hby d8_17) rfl ((if0 _ _).trans (flt (mt (lw_gt x0 (127 : Int64)).mp hc17_7)).2.2.1) k) ?_
      obtain ⟨T13, X13, e13, st13⟩ := getS2 X0 hx hZ hown (host := "") (Or.inl (own_w hw 70 rfl)) Via.refl e0 HC.1 (g := (mkF m 20 #[.val (.long x0), .second, iv 128] [])) rfl (hb hby d8_20)
      refine own_go T13 m 23 #[.val (.long x0), .second, iv 128] [(.ref aC)] (st13) ?_
      refine own_go T13 m 24 #[.val (.long x0), .second, iv 128] [(.long x0), (.ref aC)] (fun t k => XS.lloadN X13.here hx rfl (hb hby d8_23) rfl k) ?_
      refine own_go T13 m 25 #[.val (.long x0), .second, iv 128] [(.int x0.toInt32), (.ref aC)] (fun t k => XS.l2i X13.here hx rfl (hb hby d8_24) rfl k) ?_
      refine own_go T13 m 28 #[.val (.long x0), .second, iv 128] [(.int 128), (.int x0.toInt32), (.ref aC)] (fun t k => XS.sipush X13.here hx rfl (hb hby d8_25) k) ?_
      refine own_go T13 m 29 #[.val (.long x0), .second, iv 128] [(.int (x0.toInt32 + (128 : Int32))), (.ref aC)] (fun t k => XS.iadd X13.here hx rfl (hb hby d8_28) rfl k) ?_
      obtain ⟨hin, box, hat, Eb⟩ := HC.2.2 x0 hc9_1 hc17_7
      refine own_go T13 m 30 #[.val (.long x0), .second, iv 128] [(.ref box)] (fun t k => X13.aaload hx (by rw [e13]; exact HC.2.1.1) (State.isArrayOf_alike hZ.alike HC.2.1.2.1) rfl HC.2.1.2.2 hin hat (g := (mkF m 29 #[.val (.long x0), .second, iv 128] [(.int (x0.toInt32 + (128 : Int32))), (.ref aC)])) rfl rfl (hb hby d8_29) t k) ?_
      refine own_retA X13 hx hlk hret rfl rfl rfl (hb hby d8_30) (by decide) (by decide) ?_
      rw [e13]
      exact ⟨_, rfl, Eb, K0, N0⟩
theorem ef_rmEc0 (m : MethodId) (q0 : Addr) (q1 : Addr) : entryFrame m #[(.ref q0), (.ref q1)] 3 = mkF m 0 #[rv q0, rv q1, .unset] [] := by first | (simp [entryFrame, mkF, argsToLocals, Value.category]; done) | rfl
set_option maxRecDepth 65536 in
set_option maxHeartbeats 40000000 in
theorem rmEc0 (l : Launch) (Z : State) (a0 : Array Value) (hw : ∀ d ∈ tables_1, d.before a0 Z = true) (ws : List Jvm.Cond) (x0 : Addr) (x1 : Addr) (h0 : Heap) (E_x1 : Exa Z h0 x1 "java/lang/Long") :
    OwnC l Z (⟨"com/example/semel/semel/log/TimestampedOffset", "equals", "(Ljava/lang/Object;)Z"⟩ : MethodName) prog_37_method_4_code 3 (some .boolean) ws ({ frames := 0, cells := 0, slots := 0, locals := 0 } : Room) #[(.ref x0), (.ref x1)] h0 (OwnPure (.int 0) h0) := by
  refine own_entry pf_com_example_semel_semel_log_TimestampedOffset_equals__Ljava_lang_Object__Z (fun m => ef_rmEc0 m x0 x1) ?_
  intro p e s m below meth c T0 X0 hC e0
  obtain ⟨hx, hby, hml, hown, hnm, hret, hlk, hZ⟩ := hC
  refine own_go T0 m 1 #[rv x0, rv x1, .unset] [(.ref x1)] (fun t k => XS.aloadN X0.here hx rfl (hb hby d3_0) rfl rfl k) ?_
  obtain ⟨T1, X1, e1, st1⟩ := instNo X0 hx hZ hown (own_w hw 18 rfl) e0 E_x1 (own_nsno (own_w hw 67 rfl) (own_w hw 1 rfl) (NS.step (own_w hw 67 rfl) (NS.step (own_w hw 68 rfl) (own_nsroot (own_w hw 46 rfl) (own_w hw 1 rfl) (by decide)) (by decide)) (by decide)) (by decide)) (g := (mkF m 1 #[rv x0, rv x1, .unset] [(.ref x1)])) rfl rfl (hb hby d3_1)
  refine own_go T1 m 4 #[rv x0, rv x1, .unset] [(.int 0)] (st1) ?_
  refine own_go T1 m 40 #[rv x0, rv x1, .unset] [] (fun t k => XS.ifYes X1.here hx rfl (pc0 := 4) (pc' := 40) rfl (hb hby d3_4) rfl ((if0 _ _).trans (teq (by decide)).1) (by decide) (by decide) k) ?_
  refine own_go T1 m 41 #[rv x0, rv x1, .unset] [(.int 0)] (fun t k => XS.iconst X1.here hx rfl (hb hby d3_40) k) ?_
  refine own_retZ X1 hx hlk hret (by decide) (hb hby d3_41) (by decide) (by decide) ?_
  exact ⟨rfl, e1, rfl⟩
theorem d5_0 : decode jdk_43_method_3_code 0 = .ok (.iload_n 0, 1) := by decide +kernel
theorem d5_1 : decode jdk_43_method_3_code 1 = .ok (.sipush 255, 3) := by decide +kernel
theorem d5_4 : decode jdk_43_method_3_code 4 = .ok (.if_icmp .gt 7, 3) := by decide +kernel
theorem d5_7 : decode jdk_43_method_3_code 7 = .ok (.iconst 1, 1) := by decide +kernel
theorem d5_8 : decode jdk_43_method_3_code 8 = .ok (.goto 4, 3) := by decide +kernel
theorem d5_11 : decode jdk_43_method_3_code 11 = .ok (.iconst 0, 1) := by decide +kernel
theorem d5_12 : decode jdk_43_method_3_code 12 = .ok (.ireturn, 1) := by decide +kernel
theorem pf_java_lang_StringLatin1_canEncode__C_Z : plainFor (⟨"java/lang/StringLatin1", "canEncode", "(C)Z"⟩ : MethodName) = true := by first | exact plainFor_of_name (by first | (simp [plainName, overriddenIn]; done) | decide +kernel) | exact Jvm.Free.JP.mathPlain rfl (by decide +kernel) | decide +kernel
theorem ef_rm5 (m : MethodId) (q0 : Int32) : entryFrame m #[(.int q0)] 1 = mkF m 0 #[iv q0] [] := by first | (simp [entryFrame, mkF, argsToLocals, Value.category]; done) | rfl
set_option maxRecDepth 65536 in
set_option maxHeartbeats 40000000 in
theorem rm5 (l : Launch) (Z : State) (a0 : Array Value) (hw : ∀ d ∈ tables_1, d.before a0 Z = true) (ws : List Jvm.Cond) (x0 : Int32) (h0 : Heap) (hc : ¬ (255 : Int32) < x0) :
    OwnC l Z (⟨"java/lang/StringLatin1", "canEncode", "(C)Z"⟩ : MethodName) jdk_43_method_3_code 1 (some .boolean) ws ({ frames := 0, cells := 0, slots := 0, locals := 0 } : Room) #[(.int x0)] h0 (OwnPure (.int 1) h0) := by
  refine own_entry pf_java_lang_StringLatin1_canEncode__C_Z (fun m => ef_rm5 m x0) ?_
  intro p e s m below meth c T0 X0 hC e0
  obtain ⟨hx, hby, hml, hown, hnm, hret, hlk, hZ⟩ := hC
  refine own_go T0 m 1 #[iv x0] [(.int x0)] (fun t k => XS.iloadN X0.here hx rfl (hb hby d5_0) rfl k) ?_
  refine own_go T0 m 4 #[iv x0] [(.int 255), (.int x0)] (fun t k => XS.sipush X0.here hx rfl (hb hby d5_1) k) ?_
  refine own_go T0 m 7 #[iv x0] [] (fun t k => XS.icmpNo X0.here hx rfl (hb hby d5_4) rfl (flt hc).2.2.1 k) ?_
  refine own_go T0 m 8 #[iv x0] [(.int 1)] (fun t k => XS.iconst X0.here hx rfl (hb hby d5_7) k) ?_
  refine own_go T0 m 12 #[iv x0] [(.int 1)] (fun t k => XS.goto X0.here hx rfl (pc0 := 8) (pc' := 12) rfl (hb hby d5_8) (by decide) (by decide) k) ?_
  refine own_retZ X0 hx hlk hret (by decide) (hb hby d5_12) (by decide) (by decide) ?_
  exact ⟨rfl, e0, rfl⟩
theorem d6_0 : decode jdk_43_method_46_code 0 = .ok (.iconst 1, 1) := by decide +kernel
theorem d6_1 : decode jdk_43_method_46_code 1 = .ok (.newarray .byte, 2) := by decide +kernel
theorem d6_3 : decode jdk_43_method_46_code 3 = .ok (.dup, 1) := by decide +kernel
theorem d6_4 : decode jdk_43_method_46_code 4 = .ok (.iconst 0, 1) := by decide +kernel
theorem d6_5 : decode jdk_43_method_46_code 5 = .ok (.iload_n 0, 1) := by decide +kernel
theorem d6_6 : decode jdk_43_method_46_code 6 = .ok (.i2b, 1) := by decide +kernel
theorem d6_7 : decode jdk_43_method_46_code 7 = .ok (.bastore, 1) := by decide +kernel
theorem d6_8 : decode jdk_43_method_46_code 8 = .ok (.areturn, 1) := by decide +kernel
theorem pf_java_lang_StringLatin1_toBytes__C__B : plainFor (⟨"java/lang/StringLatin1", "toBytes", "(C)[B"⟩ : MethodName) = true := by first | exact plainFor_of_name (by first | (simp [plainName, overriddenIn]; done) | decide +kernel) | exact Jvm.Free.JP.mathPlain rfl (by decide +kernel) | decide +kernel
theorem ef_rm6 (m : MethodId) (q0 : Int32) : entryFrame m #[(.int q0)] 1 = mkF m 0 #[iv q0] [] := by first | (simp [entryFrame, mkF, argsToLocals, Value.category]; done) | rfl
set_option maxRecDepth 65536 in
set_option maxHeartbeats 40000000 in
theorem rm6 (l : Launch) (Z : State) (a0 : Array Value) (hw : ∀ d ∈ tables_1, d.before a0 Z = true) (ws : List Jvm.Cond) (x0 : Int32) (h0 : Heap) (n0 : Nat) (Z0 : n0 ≤ h0.size) :
    OwnC l Z (⟨"java/lang/StringLatin1", "toBytes", "(C)[B"⟩ : MethodName) jdk_43_method_46_code 1 (some (.array .byte)) ws ({ frames := 0, cells := 1, slots := 1, locals := 0 } : Room) #[(.int x0)] h0 (fun v h L => ∃ r, v = some (.ref r) ∧ Keep h0 h [] ∧ Fr n0 L) := by
  refine own_entry pf_java_lang_StringLatin1_toBytes__C__B (fun m => ef_rm6 m x0) ?_
  intro p e s m below meth c T0 X0 hC e0
  obtain ⟨hx, hby, hml, hown, hnm, hret, hlk, hZ⟩ := hC
  have N0 := Fr.nil n0
  have K0 := Keep.refl h0 []
  refine own_go T0 m 1 #[iv x0] [(.int 1)] (fun t k => XS.iconst X0.here hx rfl (hb hby d6_0) k) ?_
  obtain ⟨T1, h1, k1, X1, e1, E1, A1, st1⟩ := newP X0 hx hZ (own_w hw 35 rfl) e0 (g := (mkF m 1 #[iv x0] [(.int 1)])) rfl (hb hby d6_1) rfl (by decide) (cap := 1) (by decide) (by decide) (by decide) (by decide)
  obtain ⟨b1, g1⟩ : ∃ z, z = h0.size := ⟨_, rfl⟩
  rw [← g1] at A1 st1
  have g_b1 : n0 ≤ b1 := Nat.le_trans Z0 (Nat.le_of_eq g1.symm)
  have sz_b1 : h0.size ≤ b1 := Nat.le_trans K0.1 (Nat.le_of_eq g1.symm)
  have Z_1 : n0 ≤ h1.size := Nat.le_trans Z0 E1.1
  have K_1 : Keep h0 h1 [] := K0.ext E1
  have V_b1 : Arv Z h1 b1 k1 .byte (1 : Int32) [(.int 0)] (.int 0) := (Arv.new A1 (by decide)).pad (pad_rep [] (.int 0) 1)
  refine own_go T1 m 3 #[iv x0] [(.ref b1)] (st1) ?_
  refine own_go T1 m 4 #[iv x0] [(.ref b1), (.ref b1)] (fun t k => XS.dup X1.here hx rfl (hb hby d6_3) rfl rfl k) ?_
  refine own_go T1 m 5 #[iv x0] [(.int 0), (.ref b1), (.ref b1)] (fun t k => XS.iconst X1.here hx rfl (hb hby d6_4) k) ?_
  refine own_go T1 m 6 #[iv x0] [(.int x0), (.int 0), (.ref b1), (.ref b1)] (fun t k => XS.iloadN X1.here hx rfl (hb hby d6_5) rfl k) ?_
  refine own_go T1 m 7 #[iv x0] [(.int x0.toInt8.toInt32), (.int 0), (.ref b1), (.ref b1)] (fun t k => XS.i2b X1.here hx rfl (hb hby d6_6) rfl k) ?_
  obtain ⟨T2, h2, X2, e2, W2, V2, st2⟩ := own_bastore X1 hx hZ e1 V_b1 (j := (0 : Int32)) ⟨by decide, by decide⟩ 0 rfl (Nat.le_of_ble_eq_true rfl) (Ls := #[iv x0]) (rest := [(.ref b1)]) (x := x0.toInt8.toInt32) (hb hby d6_7)
  replace V2 : Arv Z h2 b1 k1 .byte (1 : Int32) [(.int x0.toInt8.toInt32.toInt8.toInt32)] (.int 0) := V2
  have Z_2 : n0 ≤ h2.size := Nat.le_trans Z_1 (Keep.of_wr W2).1
  have K_2 : Keep h0 h2 [] := K_1.wr W2 (Or.inr sz_b1)
  have N2 := Fr.snoc X2 N0 g_b1
  refine own_go T2 m 8 #[iv x0] [(.ref b1)] (st2) ?_
  refine own_retA X2 hx hlk hret rfl rfl rfl (hb hby d6_8) (by decide) (by decide) ?_
  rw [e2]
  exact ⟨_, rfl, K_2, N2⟩
theorem d7_0 : decode jdk_42_method_151_code 0 = .ok (.aload_n 0, 1) := by decide +kernel
theorem d7_1 : decode jdk_42_method_151_code 1 = .ok (.invokespecial 1, 3) := by decide +kernel
theorem d7_4 : decode jdk_42_method_151_code 4 = .ok (.aload_n 0, 1) := by decide +kernel
theorem d7_5 : decode jdk_42_method_151_code 5 = .ok (.aload_n 1, 1) := by decide +kernel
theorem d7_6 : decode jdk_42_method_151_code 6 = .ok (.putfield 9, 3) := by decide +kernel
theorem d7_9 : decode jdk_42_method_151_code 9 = .ok (.aload_n 0, 1) := by decide +kernel
theorem d7_10 : decode jdk_42_method_151_code 10 = .ok (.iload_n 2, 1) := by decide +kernel
theorem d7_11 : decode jdk_42_method_151_code 11 = .ok (.putfield 15, 3) := by decide +kernel
theorem d7_14 : decode jdk_42_method_151_code 14 = .ok (.return_, 1) := by decide +kernel
theorem pf_java_lang_String__init____BB_V : plainFor (⟨"java/lang/String", "<init>", "([BB)V"⟩ : MethodName) = true := by first | exact plainFor_of_name (by first | (simp [plainName, overriddenIn]; done) | decide +kernel) | exact Jvm.Free.JP.mathPlain rfl (by decide +kernel) | decide +kernel
theorem ef_rm7 (m : MethodId) (q0 : Addr) (q1 : Addr) (q2 : Int32) : entryFrame m #[(.ref q0), (.ref q1), (.int q2)] 3 = mkF m 0 #[rv q0, rv q1, iv q2] [] := by first | (simp [entryFrame, mkF, argsToLocals, Value.category]; done) | rfl
set_option maxRecDepth 65536 in
set_option maxHeartbeats 40000000 in
theorem rm7 (l : Launch) (Z : State) (a0 : Array Value) (hw : ∀ d ∈ tables_1, d.before a0 Z = true) (ws : List Jvm.Cond) (x0 : Addr) (x1 : Addr) (x2 : Int32) (h0 : Heap) (n0 : Nat) (Z0 : n0 ≤ h0.size) (E_x0 : Exa Z h0 x0 "java/lang/String") (g_x0 : n0 ≤ x0) (F_value : Fld Z h0 x0 "java/lang/String" "value" "[B" .null) (F_coder : Fld Z h0 x0 "java/lang/String" "coder" "B" (.int 0)) :
    OwnC l Z (⟨"java/lang/String", "<init>", "([BB)V"⟩ : MethodName) jdk_42_method_151_code 3 none ws ({ frames := 1, cells := 0, slots := 0, locals := 12 } : Room) #[(.ref x0), (.ref x1), (.int x2)] h0 (fun v h L => v = none ∧ Fr n0 L ∧ Keep h0 h [x0] ∧ Exa Z h x0 "java/lang/String" ∧ Fld Z h x0 "java/lang/String" "value" "[B" (.ref x1) ∧ Fld Z h x0 "java/lang/String" "coder" "B" (.int x2.toInt8.toInt32)) := by
  refine own_entry pf_java_lang_String__init____BB_V (fun m => ef_rm7 m x0 x1 x2) ?_
  intro p e s m below meth c T0 X0 hC e0
  obtain ⟨hx, hby, hml, hown, hnm, hret, hlk, hZ⟩ := hC
  have N0 := Fr.nil n0
  have K0 := Keep.refl h0 [x0]
  refine own_go T0 m 1 #[rv x0, rv x1, iv x2] [(.ref x0)] (fun t k => XS.aloadN X0.here hx rfl (hb hby d7_0) rfl rfl k) ?_
  obtain ⟨T1, X1, e1, st1⟩ := initO X0 hx hZ hown (own_w hw 40 rfl) (own_w hw 7 rfl) (own_w hw 8 rfl) e0 (g := (mkF m 1 #[rv x0, rv x1, iv x2] [(.ref x0)])) rfl (by rw [hml]; rfl) rfl (hb hby d7_1) (by decide) (W := 0) (by show 2 * 0 + _ ≤ _; exact Nat.le_of_eq rfl) (by decide)
  refine own_go T1 m 4 #[rv x0, rv x1, iv x2] [] (st1) ?_
  refine own_go T1 m 5 #[rv x0, rv x1, iv x2] [(.ref x0)] (fun t k => XS.aloadN X1.here hx rfl (hb hby d7_4) rfl rfl k) ?_
  refine own_go T1 m 6 #[rv x0, rv x1, iv x2] [(.ref x1), (.ref x0)] (fun t k => XS.aloadN X1.here hx rfl (hb hby d7_5) rfl rfl k) ?_
  obtain ⟨T2, h2, X2, e2, W2, st2⟩ := putF X1 hx hZ hown (host := "") (Or.inl (own_w hw 41 rfl)) Via.refl e1 F_value E_x0 (Or.inr ⟨(own_w hw 42 rfl), rfl, hnm⟩) (own_w hw 31 rfl) (ty := (.array .byte)) (by decide) rfl rfl (g := (mkF m 6 #[rv x0, rv x1, iv x2] [(.ref x1), (.ref x0)])) rfl rfl (hb hby d7_6)
  have F2 := F_value.same W2
  have cf3 := E_x0.wr W2
  have cf4 := F_coder.other W2 (Or.inr (slot_ne (Or.inr (own_w hw 44 rfl)) (Or.inr (own_w hw 42 rfl)) (by decide) (t := .byte) (t' := (.array .byte)) (by decide) (by decide)))
  have Z_2 : n0 ≤ h2.size := Nat.le_trans Z0 (Keep.of_wr W2).1
  have K_2 : Keep h0 h2 [x0] := K0.wr W2 (own_i 0 rfl)
  have N2 := Fr.snoc X2 N0 g_x0
  refine own_go T2 m 9 #[rv x0, rv x1, iv x2] [] (st2) ?_
  refine own_go T2 m 10 #[rv x0, rv x1, iv x2] [(.ref x0)] (fun t k => XS.aloadN X2.here hx rfl (hb hby d7_9) rfl rfl k) ?_
  refine own_go T2 m 11 #[rv x0, rv x1, iv x2] [(.int x2), (.ref x0)] (fun t k => XS.iloadN X2.here hx rfl (hb hby d7_10) rfl k) ?_
  obtain ⟨T5, h5, X5, e5, W5, st5⟩ := putFN X2 hx hZ hown (own_w hw 43 rfl) Via.refl e2 cf4 cf3 (Or.inr ⟨(own_w hw 44 rfl), rfl, hnm⟩) (own_w hw 31 rfl) (ty := .byte) (v' := (.int x2.toInt8.toInt32)) (by decide) rfl (fits_nar_byte _) (g := (mkF m 11 #[rv x0, rv x1, iv x2] [(.int x2), (.ref x0)])) rfl rfl (hb hby d7_11)
  have F5 := cf4.same W5
  have cf6 := cf3.wr W5
  have cf7 := F2.other W5 (Or.inr (slot_ne (Or.inr (own_w hw 42 rfl)) (Or.inr (own_w hw 44 rfl)) (by decide) (t := (.array .byte)) (t' := .byte) (by decide) (by decide)))
  have Z_5 : n0 ≤ h5.size := Nat.le_trans Z_2 (Keep.of_wr W5).1
  have K_5 : Keep h0 h5 [x0] := K_2.wr W5 (own_i 0 rfl)
  have N5 := Fr.snoc X5 N2 g_x0
  refine own_go T5 m 14 #[rv x0, rv x1, iv x2] [] (st5) ?_
  refine own_retV X5 hx hlk hret (hb hby d7_14) (by decide) (by decide) ?_
  rw [e5]
  exact ⟨rfl, N5, K_5, cf6, cf7, F5⟩
theorem d4_0 : decode jdk_42_method_139_code 0 = .ok (.getstatic 38, 3) := by decide +kernel
theorem d4_3 : decode jdk_42_method_139_code 3 = .ok (.ifCond .eq 23, 3) := by decide +kernel
theorem d4_6 : decode jdk_42_method_139_code 6 = .ok (.iload_n 0, 1) := by decide +kernel
theorem d4_7 : decode jdk_42_method_139_code 7 = .ok (.invokestatic 1015, 3) := by decide +kernel
theorem d4_10 : decode jdk_42_method_139_code 10 = .ok (.ifCond .eq 16, 3) := by decide +kernel
theorem d4_13 : decode jdk_42_method_139_code 13 = .ok (.new 10, 3) := by decide +kernel
theorem d4_16 : decode jdk_42_method_139_code 16 = .ok (.dup, 1) := by decide +kernel
theorem d4_17 : decode jdk_42_method_139_code 17 = .ok (.iload_n 0, 1) := by decide +kernel
theorem d4_18 : decode jdk_42_method_139_code 18 = .ok (.invokestatic 1018, 3) := by decide +kernel
theorem d4_21 : decode jdk_42_method_139_code 21 = .ok (.iconst 0, 1) := by decide +kernel
theorem d4_22 : decode jdk_42_method_139_code 22 = .ok (.invokespecial 209, 3) := by decide +kernel
theorem d4_25 : decode jdk_42_method_139_code 25 = .ok (.areturn, 1) := by decide +kernel
theorem d4_26 : decode jdk_42_method_139_code 26 = .ok (.new 10, 3) := by decide +kernel
theorem d4_29 : decode jdk_42_method_139_code 29 = .ok (.dup, 1) := by decide +kernel
theorem d4_30 : decode jdk_42_method_139_code 30 = .ok (.iload_n 0, 1) := by decide +kernel
theorem d4_31 : decode jdk_42_method_139_code 31 = .ok (.invokestatic 1021, 3) := by decide +kernel
theorem d4_34 : decode jdk_42_method_139_code 34 = .ok (.iconst 1, 1) := by decide +kernel
theorem d4_35 : decode jdk_42_method_139_code 35 = .ok (.invokespecial 209, 3) := by decide +kernel
theorem d4_38 : decode jdk_42_method_139_code 38 = .ok (.areturn, 1) := by decide +kernel
theorem pf_java_lang_String_valueOf__C_Ljava_lang_String_ : plainFor (⟨"java/lang/String", "valueOf", "(C)Ljava/lang/String;"⟩ : MethodName) = true := by first | exact plainFor_of_name (by first | (simp [plainName, overriddenIn]; done) | decide +kernel) | exact Jvm.Free.JP.mathPlain rfl (by decide +kernel) | decide +kernel
theorem ef_rm4 (m : MethodId) (q0 : Int32) : entryFrame m #[(.int q0)] 1 = mkF m 0 #[iv q0] [] := by first | (simp [entryFrame, mkF, argsToLocals, Value.category]; done) | rfl
set_option maxRecDepth 65536 in
set_option maxHeartbeats 40000000 in
theorem rm4 (l : Launch) (Z : State) (a0 : Array Value) (hw : ∀ d ∈ tables_1, d.before a0 Z = true) (ws : List Jvm.Cond) (x0 : Int32) (cs : Int32) (h0 : Heap) (n0 : Nat) (Z0 : n0 ≤ h0.size) (SCS : Sta Z h0 "java/lang/String" "COMPACT_STRINGS" "Z" (.int cs)) (hcs : ¬ cs = (0 : Int32)) (hc : ¬ (255 : Int32) < x0) :
    OwnC l Z (⟨"java/lang/String", "valueOf", "(C)Ljava/lang/String;"⟩ : MethodName) jdk_42_method_139_code 1 (some (.object "java/lang/String")) ws ({ frames := 2, cells := 2, slots := 5, locals := 27 } : Room) #[(.int x0)] h0 (fun v h L => ∃ r, v = some (.ref r) ∧ Exa Z h r "java/lang/String" ∧ Keep h0 h [] ∧ Fr n0 L) := by
  refine own_entry pf_java_lang_String_valueOf__C_Ljava_lang_String_ (fun m => ef_rm4 m x0) ?_
  intro p e s m below meth c T0 X0 hC e0
  obtain ⟨hx, hby, hml, hown, hnm, hret, hlk, hZ⟩ := hC
  have N0 := Fr.nil n0
  have K0 := Keep.refl h0 []
  obtain ⟨T1, X1, e1, st1⟩ := getS2 X0 hx hZ hown (host := "") (Or.inl (own_w hw 25 rfl)) Via.refl e0 SCS (g := (mkF m 0 #[iv x0] [])) rfl (hb hby d4_0)
  refine own_go T1 m 3 #[iv x0] [(.int cs)] (st1) ?_
  refine own_go T1 m 6 #[iv x0] [] (fun t k => XS.ifNo X1.here hx rfl (hb hby d4_3) rfl ((if0 _ _).trans (feq hcs).1) k) ?_
  refine own_go T1 m 7 #[iv x0] [(.int x0)] (fun t k => XS.iloadN X1.here hx rfl (hb hby d4_6) rfl k) ?_
  obtain ⟨_, T2, L2, X2, ⟨rfl, e2, rfl⟩, st2⟩ := own_static X1 hx hZ (y := (⟨"java/lang/StringLatin1", "canEncode", "(C)Z"⟩ : MethodName)) hown (own_w hw 26 rfl) (own_w hw 27 rfl) (own_w hw 28 rfl) (own_w hw 29 rfl) (by decide) (rm5 l Z a0 hw [] x0 h0 hc) e1 0 (argsL := [(.int x0)]) (rest := []) (Ls := #[iv x0]) (by rw [hml]; rfl) (lenOf pd__C_Z rfl) rfl rfl (Nat.le_of_eq rfl) (hb hby d4_7) (by decide) (by decide) (by decide) (by decide)
  replace X2 := own_nil X2
  refine own_go T2 m 10 #[iv x0] [(.int 1)] (st2) ?_
  refine own_go T2 m 13 #[iv x0] [] (fun t k => XS.ifNo X2.here hx rfl (hb hby d4_10) rfl ((if0 _ _).trans (feq (by decide)).1) k) ?_
  obtain ⟨T3, h3, X3, e3, E3, A3, D3, -, st3⟩ := newO X2 hx hZ hown (own_w hw 30 rfl) (own_w hw 31 rfl) (own_w hw 23 rfl) e2 (g := (mkF m 13 #[iv x0] [])) rfl (hb hby d4_13) (by decide) (by decide)
  obtain ⟨b3, g3⟩ : ∃ z, z = h0.size := ⟨_, rfl⟩
  rw [← g3] at A3 D3 st3
  have g_b3 : n0 ≤ b3 := Nat.le_trans Z0 (Nat.le_of_eq g3.symm)
  have sz_b3 : h0.size ≤ b3 := Nat.le_trans K0.1 (Nat.le_of_eq g3.symm)
  have cf4 := SCS.ext E3
  have Z_3 : n0 ≤ h3.size := Nat.le_trans Z0 E3.1
  have K_3 : Keep h0 h3 [] := K0.ext E3
  have F_value_3 : Fld Z h3 b3 "java/lang/String" "value" "[B" .null := D3 (Or.inr (own_w hw 42 rfl)) (ty := (.array .byte)) (by decide)
  have F_coder_3 : Fld Z h3 b3 "java/lang/String" "coder" "B" (.int 0) := D3 (Or.inr (own_w hw 44 rfl)) (ty := .byte) (by decide)
  refine own_go T3 m 16 #[iv x0] [(.ref b3)] (st3) ?_
  refine own_go T3 m 17 #[iv x0] [(.ref b3), (.ref b3)] (fun t k => XS.dup X3.here hx rfl (hb hby d4_16) rfl rfl k) ?_
  refine own_go T3 m 18 #[iv x0] [(.int x0), (.ref b3), (.ref b3)] (fun t k => XS.iloadN X3.here hx rfl (hb hby d4_17) rfl k) ?_
  obtain ⟨_, T5, L5, X5, ⟨r5, rfl, Kq5, Nq5⟩, st5⟩ := own_static X3 hx hZ (y := (⟨"java/lang/StringLatin1", "toBytes", "(C)[B"⟩ : MethodName)) hown (own_w hw 32 rfl) (own_w hw 33 rfl) (own_w hw 28 rfl) (own_w hw 34 rfl) (by decide) (rm6 l Z a0 hw [] x0 h3 n0 Z_3) e3 2 (argsL := [(.int x0)]) (rest := [(.ref b3), (.ref b3)]) (Ls := #[iv x0]) (by rw [hml]; rfl) (lenOf pd__C__B rfl) rfl rfl (Nat.le_of_eq rfl) (hb hby d4_18) (by decide) (by decide) (by decide) (by decide)
  have N5 := Fr.app N0 Nq5
  have cf6 := own_sta_keep cf4 Kq5
  have cf7 := A3.keep Kq5
  have cf8 := F_value_3.keep Kq5 nin0
  have cf9 := F_coder_3.keep Kq5 nin0
  have Z_5 : n0 ≤ T5.heap.size := Nat.le_trans Z_3 Kq5.1
  have K_5 : Keep h0 T5.heap [] := K_3.trans Kq5 all0
  refine own_go T5 m 21 #[iv x0] [(.ref r5), (.ref b3), (.ref b3)] (st5) ?_
  refine own_go T5 m 22 #[iv x0] [(.int 0), (.ref r5), (.ref b3), (.ref b3)] (fun t k => XS.iconst X5.here hx rfl (hb hby d4_21) k) ?_
  obtain ⟨_, T10, L10, X10, ⟨rfl, Nq10, Kq10, Aq10, Fq10_0, Fq10_1⟩, st10⟩ := own_init X5 hx hZ (y := (⟨"java/lang/String", "<init>", "([BB)V"⟩ : MethodName)) rfl hown (own_w hw 36 rfl) (own_w hw 37 rfl) (own_w hw 23 rfl) (own_w hw 39 rfl) (by decide) (rm7 l Z a0 hw [] b3 r5 (0 : Int32) T5.heap n0 Z_5 cf7 g_b3 cf8 cf9 ) rfl (a := b3) 1 (argsL := [(.ref r5), (.int 0)]) (rest := [(.ref b3)]) (Ls := #[iv x0]) (by rw [hml]; rfl) (lenOf pd___BB_V rfl) rfl rfl (Nat.le_of_eq rfl) (hb hby d4_22) (by decide) (by decide) (by decide) (by decide)
  have N10 := Fr.app N5 Nq10
  have cf11 := own_sta_keep1 cf6 Kq10 cf7
  have cf12 := cf7.keep Kq10
  have Z_10 : n0 ≤ T10.heap.size := Nat.le_trans Z_5 Kq10.1
  have K_10 : Keep h0 T10.heap [] := K_5.trans Kq10 (allS (Or.inr sz_b3) all0)
  refine own_go T10 m 25 #[iv x0] [(.ref b3)] (st10) ?_
  refine own_retA X10 hx hlk hret rfl rfl rfl (hb hby d4_25) (by decide) (by decide) ?_
  exact ⟨b3, rfl, Aq10, K_10, N10⟩
theorem ef_rmEc1 (m : MethodId) (q0 : Addr) (q1 : Addr) : entryFrame m #[(.ref q0), (.ref q1)] 3 = mkF m 0 #[rv q0, rv q1, .unset] [] := by first | (simp [entryFrame, mkF, argsToLocals, Value.category]; done) | rfl
set_option maxRecDepth 65536 in
set_option maxHeartbeats 40000000 in
theorem rmEc1 (l : Launch) (Z : State) (a0 : Array Value) (hw : ∀ d ∈ tables_1, d.before a0 Z = true) (ws : List Jvm.Cond) (x0 : Addr) (x1 : Addr) (h0 : Heap) (E_x1 : Exa Z h0 x1 "java/lang/String") :
    OwnC l Z (⟨"com/example/semel/semel/log/TimestampedOffset", "equals", "(Ljava/lang/Object;)Z"⟩ : MethodName) prog_37_method_4_code 3 (some .boolean) ws ({ frames := 0, cells := 0, slots := 0, locals := 0 } : Room) #[(.ref x0), (.ref x1)] h0 (OwnPure (.int 0) h0) := by
  refine own_entry pf_com_example_semel_semel_log_TimestampedOffset_equals__Ljava_lang_Object__Z (fun m => ef_rmEc1 m x0 x1) ?_
  intro p e s m below meth c T0 X0 hC e0
  obtain ⟨hx, hby, hml, hown, hnm, hret, hlk, hZ⟩ := hC
  refine own_go T0 m 1 #[rv x0, rv x1, .unset] [(.ref x1)] (fun t k => XS.aloadN X0.here hx rfl (hb hby d3_0) rfl rfl k) ?_
  obtain ⟨T1, X1, e1, st1⟩ := instNo X0 hx hZ hown (own_w hw 18 rfl) e0 E_x1 (own_nsno (own_w hw 45 rfl) (own_w hw 1 rfl) (NS.step (own_w hw 45 rfl) (own_nsroot (own_w hw 46 rfl) (own_w hw 1 rfl) (by decide)) (by decide)) (by decide)) (g := (mkF m 1 #[rv x0, rv x1, .unset] [(.ref x1)])) rfl rfl (hb hby d3_1)
  refine own_go T1 m 4 #[rv x0, rv x1, .unset] [(.int 0)] (st1) ?_
  refine own_go T1 m 40 #[rv x0, rv x1, .unset] [] (fun t k => XS.ifYes X1.here hx rfl (pc0 := 4) (pc' := 40) rfl (hb hby d3_4) rfl ((if0 _ _).trans (teq (by decide)).1) (by decide) (by decide) k) ?_
  refine own_go T1 m 41 #[rv x0, rv x1, .unset] [(.int 0)] (fun t k => XS.iconst X1.here hx rfl (hb hby d3_40) k) ?_
  refine own_retZ X1 hx hlk hret (by decide) (hb hby d3_41) (by decide) (by decide) ?_
  exact ⟨rfl, e1, rfl⟩
theorem own_ch (c : Int64) : ¬ (255 : Int32) < (c &&& 255).toInt32.toUInt32.toUInt16.toUInt32.toInt32 := by
  have h1 := c_maskL c 255 8 (by decide) (by decide)
  have h2 := c_l2i (c &&& 255)
  have h3 := c_i2c (c &&& 255).toInt32
  have h4 := rng32 (c &&& 255).toInt32
  rw [Int32.lt_iff_toInt_lt]
  have e : (255 : Int32).toInt = 255 := by decide
  omega
theorem pf_com_example_semel_semel_log_TimestampedOffsetEqualsPinLaw_law__JJJJI_Z : plainFor (⟨"com/example/semel/semel/log/TimestampedOffsetEqualsPinLaw", "law", "(JJJJI)Z"⟩ : MethodName) = true := by first | exact plainFor_of_name (by first | (simp [plainName, overriddenIn]; done) | decide +kernel) | exact Jvm.Free.JP.mathPlain rfl (by decide +kernel) | decide +kernel
theorem ef_rm0 (m : MethodId) (q0 : Int64) (q1 : Int64) (q2 : Int64) (q3 : Int64) (q4 : Int32) : entryFrame m #[(.long q0), (.long q1), (.long q2), (.long q3), (.int q4)] maxLocals = mkF m 0 #[.val (.long q0), .second, .val (.long q1), .second, .val (.long q2), .second, .val (.long q3), .second, iv q4, .unset, .unset, .unset, .unset, .unset, .unset, .unset, .unset] [] := by first | (simp [entryFrame, mkF, argsToLocals, Value.category, maxLocals]; done) | rfl
set_option maxRecDepth 65536 in
set_option maxHeartbeats 40000000 in
theorem rm0 (l : Launch) (Z : State) (a0 : Array Value) (hw : ∀ d ∈ tables_1, d.before a0 Z = true) (ws : List Jvm.Cond) (x0 : Int64) (x1 : Int64) (x2 : Int64) (x3 : Int64) (x4 : Int32) (aC : Addr) (cell : Cell) (cs : Int32) (h0 : Heap) (n0 : Nat) (Z0 : n0 ≤ h0.size) (HC : OwnCache Z h0 aC cell) (SCS : Sta Z h0 "java/lang/String" "COMPACT_STRINGS" "Z" (.int cs)) (hcs : ¬ cs = (0 : Int32)) :
    OwnC l Z x code maxLocals ret ws room_1 #[(.long x0), (.long x1), (.long x2), (.long x3), (.int x4)] h0 (fun v h L => v = some (.int 1) ∧ Fr n0 L) := by
  refine own_entry pf_com_example_semel_semel_log_TimestampedOffsetEqualsPinLaw_law__JJJJI_Z (fun m => ef_rm0 m x0 x1 x2 x3 x4) ?_
  intro p e s m below meth c T0 X0 hC e0
  obtain ⟨hx, hby, hml, hown, hnm, hret, hlk, hZ⟩ := hC
  have hml : c.maxLocals = 17 := hml
  have N0 := Fr.nil n0
  have K0 := Keep.refl h0 []
  obtain ⟨T1, h1, X1, e1, E1, A1, D1, -, st1⟩ := newO X0 hx hZ hown (own_w hw 0 rfl) (own_w hw 1 rfl) (own_w hw 2 rfl) e0 (g := (mkF m 0 #[.val (.long x0), .second, .val (.long x1), .second, .val (.long x2), .second, .val (.long x3), .second, iv x4, .unset, .unset, .unset, .unset, .unset, .unset, .unset, .unset] [])) rfl (hb hby at_0) (by decide) (by decide)
  obtain ⟨b1, g1⟩ : ∃ z, z = h0.size := ⟨_, rfl⟩
  rw [← g1] at A1 D1 st1
  have g_b1 : n0 ≤ b1 := Nat.le_trans Z0 (Nat.le_of_eq g1.symm)
  have sz_b1 : h0.size ≤ b1 := Nat.le_trans K0.1 (Nat.le_of_eq g1.symm)
  have Z_1 : n0 ≤ h1.size := Nat.le_trans Z0 E1.1
  have K_1 : Keep h0 h1 [] := K0.ext E1
  have F_offset_1 : Fld Z h1 b1 "com/example/semel/semel/log/TimestampedOffset" "offset" "J" (.long 0) := D1 (Or.inr (own_w hw 10 rfl)) (ty := .long) (by decide)
  have F_timestamp_1 : Fld Z h1 b1 "com/example/semel/semel/log/TimestampedOffset" "timestamp" "J" (.long 0) := D1 (Or.inr (own_w hw 12 rfl)) (ty := .long) (by decide)
  refine own_go T1 m 3 #[.val (.long x0), .second, .val (.long x1), .second, .val (.long x2), .second, .val (.long x3), .second, iv x4, .unset, .unset, .unset, .unset, .unset, .unset, .unset, .unset] [(.ref b1)] (st1) ?_
  refine own_go T1 m 4 #[.val (.long x0), .second, .val (.long x1), .second, .val (.long x2), .second, .val (.long x3), .second, iv x4, .unset, .unset, .unset, .unset, .unset, .unset, .unset, .unset] [(.ref b1), (.ref b1)] (fun t k => XS.dup X1.here hx rfl (hb hby at_3) rfl rfl k) ?_
  refine own_go T1 m 5 #[.val (.long x0), .second, .val (.long x1), .second, .val (.long x2), .second, .val (.long x3), .second, iv x4, .unset, .unset, .unset, .unset, .unset, .unset, .unset, .unset] [(.long x0), (.ref b1), (.ref b1)] (fun t k => XS.lloadN X1.here hx rfl (hb hby at_4) rfl k) ?_
  refine own_go T1 m 6 #[.val (.long x0), .second, .val (.long x1), .second, .val (.long x2), .second, .val (.long x3), .second, iv x4, .unset, .unset, .unset, .unset, .unset, .unset, .unset, .unset] [(.long x1), (.long x0), (.ref b1), (.ref b1)] (fun t k => XS.lloadN X1.here hx rfl (hb hby at_5) rfl k) ?_
  obtain ⟨_, T2, L2, X2, ⟨rfl, Nq2, Kq2, Aq2, Fq2_0, Fq2_1⟩, st2⟩ := own_init X1 hx hZ (y := (⟨"com/example/semel/semel/log/TimestampedOffset", "<init>", "(JJ)V"⟩ : MethodName)) rfl hown (own_w hw 3 rfl) (own_w hw 4 rfl) (own_w hw 2 rfl) (own_w hw 5 rfl) (by decide) (rm1 l Z a0 hw [] b1 x0 x1 h1 n0 Z_1 A1 g_b1 F_offset_1 F_timestamp_1 ) e1 (a := b1) 1 (argsL := [(.long x0), (.long x1)]) (rest := [(.ref b1)]) (Ls := #[.val (.long x0), .second, .val (.long x1), .second, .val (.long x2), .second, .val (.long x3), .second, iv x4, .unset, .unset, .unset, .unset, .unset, .unset, .unset, .unset]) (by rw [hml]; rfl) (lenOf pd__JJ_V rfl) rfl rfl (Nat.le_of_eq rfl) (hb hby at_6) (by decide) (by decide) (by decide) (by decide)
  have N2 := Fr.app N0 Nq2
  have cf3 := A1.keep Kq2
  have Z_2 : n0 ≤ T2.heap.size := Nat.le_trans Z_1 Kq2.1
  have K_2 : Keep h0 T2.heap [] := K_1.trans Kq2 (allS (Or.inr sz_b1) all0)
  refine own_go T2 m 9 #[.val (.long x0), .second, .val (.long x1), .second, .val (.long x2), .second, .val (.long x3), .second, iv x4, .unset, .unset, .unset, .unset, .unset, .unset, .unset, .unset] [(.ref b1)] (st2) ?_
  refine own_go T2 m 11 #[.val (.long x0), .second, .val (.long x1), .second, .val (.long x2), .second, .val (.long x3), .second, iv x4, rv b1, .unset, .unset, .unset, .unset, .unset, .unset, .unset] [] (fun t k => XS.astore X2.here hx rfl (hb hby at_9) rfl rfl rfl k) ?_
  refine own_go T2 m 13 #[.val (.long x0), .second, .val (.long x1), .second, .val (.long x2), .second, .val (.long x3), .second, iv x4, rv b1, .unset, .unset, .unset, .unset, .unset, .unset, .unset] [(.int x4)] (fun t k => XS.iload X2.here hx rfl (hb hby at_11) rfl k) ?_
  refine own_go T2 m 14 #[.val (.long x0), .second, .val (.long x1), .second, .val (.long x2), .second, .val (.long x3), .second, iv x4, rv b1, .unset, .unset, .unset, .unset, .unset, .unset, .unset] [(.int 1), (.int x4)] (fun t k => XS.iconst X2.here hx rfl (hb hby at_13) k) ?_
  refine own_go T2 m 15 #[.val (.long x0), .second, .val (.long x1), .second, .val (.long x2), .second, .val (.long x3), .second, iv x4, rv b1, .unset, .unset, .unset, .unset, .unset, .unset, .unset] [(.int (x4 &&& (1 : Int32)))] (fun t k => XS.iand X2.here hx rfl (hb hby at_14) rfl k) ?_
  have seg26 : ∀ (v10 : Int64), OwnG p.tables e below s (fun v h L => v = some (.int 1) ∧ Fr n0 L) room_1.cells room_1.slots (T2.setTop (mkF m 26 #[.val (.long x0), .second, .val (.long x1), .second, .val (.long x2), .second, .val (.long x3), .second, iv x4, rv b1, .val (.long v10), .second, .unset, .unset, .unset, .unset, .unset] [])) := by
    intro v10
    refine own_go T2 m 28 #[.val (.long x0), .second, .val (.long x1), .second, .val (.long x2), .second, .val (.long x3), .second, iv x4, rv b1, .val (.long v10), .second, .unset, .unset, .unset, .unset, .unset] [(.int x4)] (fun t k => XS.iload X2.here hx rfl (hb hby at_26) rfl k) ?_
    refine own_go T2 m 29 #[.val (.long x0), .second, .val (.long x1), .second, .val (.long x2), .second, .val (.long x3), .second, iv x4, rv b1, .val (.long v10), .second, .unset, .unset, .unset, .unset, .unset] [(.int 2), (.int x4)] (fun t k => XS.iconst X2.here hx rfl (hb hby at_28) k) ?_
    refine own_go T2 m 30 #[.val (.long x0), .second, .val (.long x1), .second, .val (.long x2), .second, .val (.long x3), .second, iv x4, rv b1, .val (.long v10), .second, .unset, .unset, .unset, .unset, .unset] [(.int (x4 &&& (2 : Int32)))] (fun t k => XS.iand X2.here hx rfl (hb hby at_29) rfl k) ?_
    have seg41 : ∀ (v12 : Int64), OwnG p.tables e below s (fun v h L => v = some (.int 1) ∧ Fr n0 L) room_1.cells room_1.slots (T2.setTop (mkF m 41 #[.val (.long x0), .second, .val (.long x1), .second, .val (.long x2), .second, .val (.long x3), .second, iv x4, rv b1, .val (.long v10), .second, .val (.long v12), .second, .unset, .unset, .unset] [])) := by
      intro v12
      obtain ⟨T6, h6, X6, e6, E6, A6, D6, -, st6⟩ := newO X2 hx hZ hown (own_w hw 0 rfl) (own_w hw 1 rfl) (own_w hw 2 rfl) rfl (g := (mkF m 41 #[.val (.long x0), .second, .val (.long x1), .second, .val (.long x2), .second, .val (.long x3), .second, iv x4, rv b1, .val (.long v10), .second, .val (.long v12), .second, .unset, .unset, .unset] [])) rfl (hb hby at_41) (by decide) (by decide)
      obtain ⟨b6, g6⟩ : ∃ z, z = T2.heap.size := ⟨_, rfl⟩
      rw [← g6] at A6 D6 st6
      have ne_b1_b6 : b1 ≠ b6 := Nat.ne_of_lt (Nat.lt_of_lt_of_eq Aq2.lt g6.symm)
      have g_b6 : n0 ≤ b6 := Nat.le_trans Z_2 (Nat.le_of_eq g6.symm)
      have sz_b6 : h0.size ≤ b6 := Nat.le_trans K_2.1 (Nat.le_of_eq g6.symm)
      have cf7 := Aq2.ext E6
      have cf8 := Fq2_0.ext E6
      have cf9 := Fq2_1.ext E6
      have Z_6 : n0 ≤ h6.size := Nat.le_trans Z_2 E6.1
      have K_6 : Keep h0 h6 [] := K_2.ext E6
      have F_offset_6 : Fld Z h6 b6 "com/example/semel/semel/log/TimestampedOffset" "offset" "J" (.long 0) := D6 (Or.inr (own_w hw 10 rfl)) (ty := .long) (by decide)
      have F_timestamp_6 : Fld Z h6 b6 "com/example/semel/semel/log/TimestampedOffset" "timestamp" "J" (.long 0) := D6 (Or.inr (own_w hw 12 rfl)) (ty := .long) (by decide)
      refine own_go T6 m 44 #[.val (.long x0), .second, .val (.long x1), .second, .val (.long x2), .second, .val (.long x3), .second, iv x4, rv b1, .val (.long v10), .second, .val (.long v12), .second, .unset, .unset, .unset] [(.ref b6)] (st6) ?_
      refine own_go T6 m 45 #[.val (.long x0), .second, .val (.long x1), .second, .val (.long x2), .second, .val (.long x3), .second, iv x4, rv b1, .val (.long v10), .second, .val (.long v12), .second, .unset, .unset, .unset] [(.ref b6), (.ref b6)] (fun t k => XS.dup X6.here hx rfl (hb hby at_44) rfl rfl k) ?_
      refine own_go T6 m 47 #[.val (.long x0), .second, .val (.long x1), .second, .val (.long x2), .second, .val (.long x3), .second, iv x4, rv b1, .val (.long v10), .second, .val (.long v12), .second, .unset, .unset, .unset] [(.long v10), (.ref b6), (.ref b6)] (fun t k => XS.lload X6.here hx rfl (hb hby at_45) rfl k) ?_
      refine own_go T6 m 49 #[.val (.long x0), .second, .val (.long x1), .second, .val (.long x2), .second, .val (.long x3), .second, iv x4, rv b1, .val (.long v10), .second, .val (.long v12), .second, .unset, .unset, .unset] [(.long v12), (.long v10), (.ref b6), (.ref b6)] (fun t k => XS.lload X6.here hx rfl (hb hby at_47) rfl k) ?_
      obtain ⟨_, T10, L10, X10, ⟨rfl, Nq10, Kq10, Aq10, Fq10_0, Fq10_1⟩, st10⟩ := own_init X6 hx hZ (y := (⟨"com/example/semel/semel/log/TimestampedOffset", "<init>", "(JJ)V"⟩ : MethodName)) rfl hown (own_w hw 3 rfl) (own_w hw 4 rfl) (own_w hw 2 rfl) (own_w hw 5 rfl) (by decide) (rm1 l Z a0 hw [] b6 v10 v12 h6 n0 Z_6 A6 g_b6 F_offset_6 F_timestamp_6 ) e6 (a := b6) 1 (argsL := [(.long v10), (.long v12)]) (rest := [(.ref b6)]) (Ls := #[.val (.long x0), .second, .val (.long x1), .second, .val (.long x2), .second, .val (.long x3), .second, iv x4, rv b1, .val (.long v10), .second, .val (.long v12), .second, .unset, .unset, .unset]) (by rw [hml]; rfl) (lenOf pd__JJ_V rfl) rfl rfl (Nat.le_of_eq rfl) (hb hby at_49) (by decide) (by decide) (by decide) (by decide)
      have N10 := Fr.app N2 Nq10
      have cf11 := cf7.keep Kq10
      have cf12 := cf8.keep Kq10 (ninS ne_b1_b6 nin0)
      have cf13 := cf9.keep Kq10 (ninS ne_b1_b6 nin0)
      have cf14 := A6.keep Kq10
      have Z_10 : n0 ≤ T10.heap.size := Nat.le_trans Z_6 Kq10.1
      have K_10 : Keep h0 T10.heap [] := K_6.trans Kq10 (allS (Or.inr sz_b6) all0)
      refine own_go T10 m 52 #[.val (.long x0), .second, .val (.long x1), .second, .val (.long x2), .second, .val (.long x3), .second, iv x4, rv b1, .val (.long v10), .second, .val (.long v12), .second, .unset, .unset, .unset] [(.ref b6)] (st10) ?_
      refine own_go T10 m 54 #[.val (.long x0), .second, .val (.long x1), .second, .val (.long x2), .second, .val (.long x3), .second, iv x4, rv b1, .val (.long v10), .second, .val (.long v12), .second, rv b6, .unset, .unset] [] (fun t k => XS.astore X10.here hx rfl (hb hby at_52) rfl rfl rfl k) ?_
      refine own_go T10 m 55 #[.val (.long x0), .second, .val (.long x1), .second, .val (.long x2), .second, .val (.long x3), .second, iv x4, rv b1, .val (.long v10), .second, .val (.long v12), .second, rv b6, .unset, .unset] [(.long x0)] (fun t k => XS.lloadN X10.here hx rfl (hb hby at_54) rfl k) ?_
      refine own_go T10 m 57 #[.val (.long x0), .second, .val (.long x1), .second, .val (.long x2), .second, .val (.long x3), .second, iv x4, rv b1, .val (.long v10), .second, .val (.long v12), .second, rv b6, .unset, .unset] [(.long v10), (.long x0)] (fun t k => XS.lload X10.here hx rfl (hb hby at_55) rfl k) ?_
      refine own_go T10 m 58 #[.val (.long x0), .second, .val (.long x1), .second, .val (.long x2), .second, .val (.long x3), .second, iv x4, rv b1, .val (.long v10), .second, .val (.long v12), .second, rv b6, .unset, .unset] [(.int (lcmpW x0 v10))] (fun t k => XS.lcmp X10.here hx rfl (hb hby at_57) rfl k) ?_
      by_cases hc58_15 : x0 = v10
      · refine own_go T10 m 61 #[.val (.long x0), .second, .val (.long x1), .second, .val (.long x2), .second, .val (.long x3), .second, iv x4, rv b1, .val (.long v10), .second, .val (.long v12), .second, rv b6, .unset, .unset] [] (fun t k => XS.ifNo X10.here hx rfl (hb hby at_58) rfl ((if0 _ _).trans (teq ((lw_eq x0 v10).mpr hc58_15)).2) k) ?_
        refine own_go T10 m 62 #[.val (.long x0), .second, .val (.long x1), .second, .val (.long x2), .second, .val (.long x3), .second, iv x4, rv b1, .val (.long v10), .second, .val (.long v12), .second, rv b6, .unset, .unset] [(.long x1)] (fun t k => XS.lloadN X10.here hx rfl (hb hby at_61) rfl k) ?_
        refine own_go T10 m 64 #[.val (.long x0), .second, .val (.long x1), .second, .val (.long x2), .second, .val (.long x3), .second, iv x4, rv b1, .val (.long v10), .second, .val (.long v12), .second, rv b6, .unset, .unset] [(.long v12), (.long x1)] (fun t k => XS.lload X10.here hx rfl (hb hby at_62) rfl k) ?_
        refine own_go T10 m 65 #[.val (.long x0), .second, .val (.long x1), .second, .val (.long x2), .second, .val (.long x3), .second, iv x4, rv b1, .val (.long v10), .second, .val (.long v12), .second, rv b6, .unset, .unset] [(.int (lcmpW x1 v12))] (fun t k => XS.lcmp X10.here hx rfl (hb hby at_64) rfl k) ?_
        by_cases hc65_16 : x1 = v12
        · refine own_go T10 m 68 #[.val (.long x0), .second, .val (.long x1), .second, .val (.long x2), .second, .val (.long x3), .second, iv x4, rv b1, .val (.long v10), .second, .val (.long v12), .second, rv b6, .unset, .unset] [] (fun t k => XS.ifNo X10.here hx rfl (hb hby at_65) rfl ((if0 _ _).trans (teq ((lw_eq x1 v12).mpr hc65_16)).2) k) ?_
          refine own_go T10 m 69 #[.val (.long x0), .second, .val (.long x1), .second, .val (.long x2), .second, .val (.long x3), .second, iv x4, rv b1, .val (.long v10), .second, .val (.long v12), .second, rv b6, .unset, .unset] [(.int 1)] (fun t k => XS.iconst X10.here hx rfl (hb hby at_68) k) ?_
          refine own_go T10 m 73 #[.val (.long x0), .second, .val (.long x1), .second, .val (.long x2), .second, .val (.long x3), .second, iv x4, rv b1, .val (.long v10), .second, .val (.long v12), .second, rv b6, .unset, .unset] [(.int 1)] (fun t k => XS.goto X10.here hx rfl (pc0 := 69) (pc' := 73) rfl (hb hby at_69) (by decide) (by decide) k) ?_
          refine own_go T10 m 75 #[.val (.long x0), .second, .val (.long x1), .second, .val (.long x2), .second, .val (.long x3), .second, iv x4, rv b1, .val (.long v10), .second, .val (.long v12), .second, rv b6, iv 1, .unset] [] (fun t k => XS.istore X10.here hx rfl (hb hby at_73) rfl rfl k) ?_
          refine own_go T10 m 77 #[.val (.long x0), .second, .val (.long x1), .second, .val (.long x2), .second, .val (.long x3), .second, iv x4, rv b1, .val (.long v10), .second, .val (.long v12), .second, rv b6, iv 1, .unset] [(.int x4)] (fun t k => XS.iload X10.here hx rfl (hb hby at_75) rfl k) ?_
          refine own_go T10 m 78 #[.val (.long x0), .second, .val (.long x1), .second, .val (.long x2), .second, .val (.long x3), .second, iv x4, rv b1, .val (.long v10), .second, .val (.long v12), .second, rv b6, iv 1, .unset] [(.int 2), (.int x4)] (fun t k => XS.iconst X10.here hx rfl (hb hby at_77) k) ?_
          refine own_go T10 m 79 #[.val (.long x0), .second, .val (.long x1), .second, .val (.long x2), .second, .val (.long x3), .second, iv x4, rv b1, .val (.long v10), .second, .val (.long v12), .second, rv b6, iv 1, .unset] [(.int ((x4.toUInt32 >>> ((2 : Int32) &&& 31).toUInt32).toInt32))] (fun t k => XS.iushr X10.here hx rfl (hb hby at_78) rfl k) ?_
          refine own_go T10 m 80 #[.val (.long x0), .second, .val (.long x1), .second, .val (.long x2), .second, .val (.long x3), .second, iv x4, rv b1, .val (.long v10), .second, .val (.long v12), .second, rv b6, iv 1, .unset] [(.int 3), (.int ((x4.toUInt32 >>> ((2 : Int32) &&& 31).toUInt32).toInt32))] (fun t k => XS.iconst X10.here hx rfl (hb hby at_79) k) ?_
          refine own_go T10 m 81 #[.val (.long x0), .second, .val (.long x1), .second, .val (.long x2), .second, .val (.long x3), .second, iv x4, rv b1, .val (.long v10), .second, .val (.long v12), .second, rv b6, iv 1, .unset] [(.int (((x4.toUInt32 >>> ((2 : Int32) &&& 31).toUInt32).toInt32) &&& (3 : Int32)))] (fun t k => XS.iand X10.here hx rfl (hb hby at_80) rfl k) ?_
          refine own_go T10 m 83 #[.val (.long x0), .second, .val (.long x1), .second, .val (.long x2), .second, .val (.long x3), .second, iv x4, rv b1, .val (.long v10), .second, .val (.long v12), .second, rv b6, iv 1, iv (((x4.toUInt32 >>> ((2 : Int32) &&& 31).toUInt32).toInt32) &&& (3 : Int32))] [] (fun t k => XS.istore X10.here hx rfl (hb hby at_81) rfl rfl k) ?_
          refine own_go T10 m 85 #[.val (.long x0), .second, .val (.long x1), .second, .val (.long x2), .second, .val (.long x3), .second, iv x4, rv b1, .val (.long v10), .second, .val (.long v12), .second, rv b6, iv 1, iv (((x4.toUInt32 >>> ((2 : Int32) &&& 31).toUInt32).toInt32) &&& (3 : Int32))] [(.int (((x4.toUInt32 >>> ((2 : Int32) &&& 31).toUInt32).toInt32) &&& (3 : Int32)))] (fun t k => XS.iload X10.here hx rfl (hb hby at_83) rfl k) ?_
          by_cases hc85_17 : (((x4.toUInt32 >>> ((2 : Int32) &&& 31).toUInt32).toInt32) &&& (3 : Int32)) = (0 : Int32)
          · refine own_go T10 m 88 #[.val (.long x0), .second, .val (.long x1), .second, .val (.long x2), .second, .val (.long x3), .second, iv x4, rv b1, .val (.long v10), .second, .val (.long v12), .second, rv b6, iv 1, iv (((x4.toUInt32 >>> ((2 : Int32) &&& 31).toUInt32).toInt32) &&& (3 : Int32))] [] (fun t k => XS.ifNo X10.here hx rfl (hb hby at_85) rfl ((if0 _ _).trans (teq hc85_17).2) k) ?_
            refine own_go T10 m 90 #[.val (.long x0), .second, .val (.long x1), .second, .val (.long x2), .second, .val (.long x3), .second, iv x4, rv b1, .val (.long v10), .second, .val (.long v12), .second, rv b6, iv 1, iv (((x4.toUInt32 >>> ((2 : Int32) &&& 31).toUInt32).toInt32) &&& (3 : Int32))] [(.ref b1)] (fun t k => XS.aload X10.here hx rfl (hb hby at_88) rfl rfl k) ?_
            refine own_go T10 m 92 #[.val (.long x0), .second, .val (.long x1), .second, .val (.long x2), .second, .val (.long x3), .second, iv x4, rv b1, .val (.long v10), .second, .val (.long v12), .second, rv b6, iv 1, iv (((x4.toUInt32 >>> ((2 : Int32) &&& 31).toUInt32).toInt32) &&& (3 : Int32))] [(.ref b6), (.ref b1)] (fun t k => XS.aload X10.here hx rfl (hb hby at_90) rfl rfl k) ?_
            obtain ⟨_, T18, L18, X18, ⟨rfl, e18, rfl⟩, st18⟩ := own_virtual X10 hx hZ (y := (⟨"com/example/semel/semel/log/TimestampedOffset", "equals", "(Ljava/lang/Object;)Z"⟩ : MethodName)) (z := (⟨"com/example/semel/semel/log/TimestampedOffset", "equals", "(Ljava/lang/Object;)Z"⟩ : MethodName)) hown (own_w hw 13 rfl) (own_w hw 14 rfl) (notFace_of_selects (args := #[]) (mvT hZ (own_w hw 16 rfl))) (own_w hw 16 rfl) (own_w hw 15 rfl) (own_w hw 2 rfl) (own_w hw 17 rfl) (by decide) (rmEb l Z a0 hw [] b1 b6 x0 x1 v10 v12 T10.heap cf12 cf13 Fq10_0 Fq10_1 Aq10) rfl cf11 0 (argsL := [(.ref b6)]) (rest := []) (Ls := #[.val (.long x0), .second, .val (.long x1), .second, .val (.long x2), .second, .val (.long x3), .second, iv x4, rv b1, .val (.long v10), .second, .val (.long v12), .second, rv b6, iv 1, iv (((x4.toUInt32 >>> ((2 : Int32) &&& 31).toUInt32).toInt32) &&& (3 : Int32))]) (by rw [hml]; rfl) (lenOf pd__Ljava_lang_Object__Z rfl) rfl rfl (Nat.le_of_eq rfl) (hb hby at_92) (by decide) (by decide) (by decide) (by decide)
            replace X18 := own_nil X18
            refine own_go T18 m 95 #[.val (.long x0), .second, .val (.long x1), .second, .val (.long x2), .second, .val (.long x3), .second, iv x4, rv b1, .val (.long v10), .second, .val (.long v12), .second, rv b6, iv 1, iv (((x4.toUInt32 >>> ((2 : Int32) &&& 31).toUInt32).toInt32) &&& (3 : Int32))] [(.int (own_eq x0 x1 v10 v12))] (st18) ?_
            rw [show (own_eq x0 x1 v10 v12) = (1 : Int32) from by simp [own_eq, hc58_15, hc65_16]]
            refine own_go T18 m 97 #[.val (.long x0), .second, .val (.long x1), .second, .val (.long x2), .second, .val (.long x3), .second, iv x4, rv b1, .val (.long v10), .second, .val (.long v12), .second, rv b6, iv 1, iv (((x4.toUInt32 >>> ((2 : Int32) &&& 31).toUInt32).toInt32) &&& (3 : Int32))] [(.int 1), (.int 1)] (fun t k => XS.iload X18.here hx rfl (hb hby at_95) rfl k) ?_
            refine own_go T18 m 100 #[.val (.long x0), .second, .val (.long x1), .second, .val (.long x2), .second, .val (.long x3), .second, iv x4, rv b1, .val (.long v10), .second, .val (.long v12), .second, rv b6, iv 1, iv (((x4.toUInt32 >>> ((2 : Int32) &&& 31).toUInt32).toInt32) &&& (3 : Int32))] [] (fun t k => XS.icmpNo X18.here hx rfl (hb hby at_97) rfl (teq (by decide)).2 k) ?_
            refine own_go T18 m 102 #[.val (.long x0), .second, .val (.long x1), .second, .val (.long x2), .second, .val (.long x3), .second, iv x4, rv b1, .val (.long v10), .second, .val (.long v12), .second, rv b6, iv 1, iv (((x4.toUInt32 >>> ((2 : Int32) &&& 31).toUInt32).toInt32) &&& (3 : Int32))] [(.ref b6)] (fun t k => XS.aload X18.here hx rfl (hb hby at_100) rfl rfl k) ?_
            refine own_go T18 m 104 #[.val (.long x0), .second, .val (.long x1), .second, .val (.long x2), .second, .val (.long x3), .second, iv x4, rv b1, .val (.long v10), .second, .val (.long v12), .second, rv b6, iv 1, iv (((x4.toUInt32 >>> ((2 : Int32) &&& 31).toUInt32).toInt32) &&& (3 : Int32))] [(.ref b1), (.ref b6)] (fun t k => XS.aload X18.here hx rfl (hb hby at_102) rfl rfl k) ?_
            obtain ⟨_, T19, L19, X19, ⟨rfl, e19, rfl⟩, st19⟩ := own_virtual X18 hx hZ (y := (⟨"com/example/semel/semel/log/TimestampedOffset", "equals", "(Ljava/lang/Object;)Z"⟩ : MethodName)) (z := (⟨"com/example/semel/semel/log/TimestampedOffset", "equals", "(Ljava/lang/Object;)Z"⟩ : MethodName)) hown (own_w hw 13 rfl) (own_w hw 14 rfl) (notFace_of_selects (args := #[]) (mvT hZ (own_w hw 16 rfl))) (own_w hw 16 rfl) (own_w hw 15 rfl) (own_w hw 2 rfl) (own_w hw 17 rfl) (by decide) (rmEb l Z a0 hw [] b6 b1 v10 v12 x0 x1 T10.heap Fq10_0 Fq10_1 cf12 cf13 cf11) e18 Aq10 0 (argsL := [(.ref b1)]) (rest := []) (Ls := #[.val (.long x0), .second, .val (.long x1), .second, .val (.long x2), .second, .val (.long x3), .second, iv x4, rv b1, .val (.long v10), .second, .val (.long v12), .second, rv b6, iv 1, iv (((x4.toUInt32 >>> ((2 : Int32) &&& 31).toUInt32).toInt32) &&& (3 : Int32))]) (by rw [hml]; rfl) (lenOf pd__Ljava_lang_Object__Z rfl) rfl rfl (Nat.le_of_eq rfl) (hb hby at_104) (by decide) (by decide) (by decide) (by decide)
            replace X19 := own_nil X19
            refine own_go T19 m 107 #[.val (.long x0), .second, .val (.long x1), .second, .val (.long x2), .second, .val (.long x3), .second, iv x4, rv b1, .val (.long v10), .second, .val (.long v12), .second, rv b6, iv 1, iv (((x4.toUInt32 >>> ((2 : Int32) &&& 31).toUInt32).toInt32) &&& (3 : Int32))] [(.int (own_eq v10 v12 x0 x1))] (st19) ?_
            rw [show (own_eq v10 v12 x0 x1) = (1 : Int32) from by simp [own_eq, hc58_15, hc65_16]]
            refine own_go T19 m 109 #[.val (.long x0), .second, .val (.long x1), .second, .val (.long x2), .second, .val (.long x3), .second, iv x4, rv b1, .val (.long v10), .second, .val (.long v12), .second, rv b6, iv 1, iv (((x4.toUInt32 >>> ((2 : Int32) &&& 31).toUInt32).toInt32) &&& (3 : Int32))] [(.int 1), (.int 1)] (fun t k => XS.iload X19.here hx rfl (hb hby at_107) rfl k) ?_
            refine own_go T19 m 112 #[.val (.long x0), .second, .val (.long x1), .second, .val (.long x2), .second, .val (.long x3), .second, iv x4, rv b1, .val (.long v10), .second, .val (.long v12), .second, rv b6, iv 1, iv (((x4.toUInt32 >>> ((2 : Int32) &&& 31).toUInt32).toInt32) &&& (3 : Int32))] [] (fun t k => XS.icmpNo X19.here hx rfl (hb hby at_109) rfl (teq (by decide)).2 k) ?_
            refine own_go T19 m 113 #[.val (.long x0), .second, .val (.long x1), .second, .val (.long x2), .second, .val (.long x3), .second, iv x4, rv b1, .val (.long v10), .second, .val (.long v12), .second, rv b6, iv 1, iv (((x4.toUInt32 >>> ((2 : Int32) &&& 31).toUInt32).toInt32) &&& (3 : Int32))] [(.int 1)] (fun t k => XS.iconst X19.here hx rfl (hb hby at_112) k) ?_
            refine own_go T19 m 117 #[.val (.long x0), .second, .val (.long x1), .second, .val (.long x2), .second, .val (.long x3), .second, iv x4, rv b1, .val (.long v10), .second, .val (.long v12), .second, rv b6, iv 1, iv (((x4.toUInt32 >>> ((2 : Int32) &&& 31).toUInt32).toInt32) &&& (3 : Int32))] [(.int 1)] (fun t k => XS.goto X19.here hx rfl (pc0 := 113) (pc' := 117) rfl (hb hby at_113) (by decide) (by decide) k) ?_
            refine own_retZ X19 hx hlk hret (by decide) (hb hby at_117) (by decide) (by decide) ?_
            exact ⟨rfl, N10⟩
          · refine own_go T10 m 118 #[.val (.long x0), .second, .val (.long x1), .second, .val (.long x2), .second, .val (.long x3), .second, iv x4, rv b1, .val (.long v10), .second, .val (.long v12), .second, rv b6, iv 1, iv (((x4.toUInt32 >>> ((2 : Int32) &&& 31).toUInt32).toInt32) &&& (3 : Int32))] [] (fun t k => XS.ifYes X10.here hx rfl (pc0 := 85) (pc' := 118) rfl (hb hby at_85) rfl ((if0 _ _).trans (feq hc85_17).2) (by decide) (by decide) k) ?_
            refine own_go T10 m 120 #[.val (.long x0), .second, .val (.long x1), .second, .val (.long x2), .second, .val (.long x3), .second, iv x4, rv b1, .val (.long v10), .second, .val (.long v12), .second, rv b6, iv 1, iv (((x4.toUInt32 >>> ((2 : Int32) &&& 31).toUInt32).toInt32) &&& (3 : Int32))] [(.int (((x4.toUInt32 >>> ((2 : Int32) &&& 31).toUInt32).toInt32) &&& (3 : Int32)))] (fun t k => XS.iload X10.here hx rfl (hb hby at_118) rfl k) ?_
            refine own_go T10 m 121 #[.val (.long x0), .second, .val (.long x1), .second, .val (.long x2), .second, .val (.long x3), .second, iv x4, rv b1, .val (.long v10), .second, .val (.long v12), .second, rv b6, iv 1, iv (((x4.toUInt32 >>> ((2 : Int32) &&& 31).toUInt32).toInt32) &&& (3 : Int32))] [(.int 1), (.int (((x4.toUInt32 >>> ((2 : Int32) &&& 31).toUInt32).toInt32) &&& (3 : Int32)))] (fun t k => XS.iconst X10.here hx rfl (hb hby at_120) k) ?_
            by_cases hc121_20 : (((x4.toUInt32 >>> ((2 : Int32) &&& 31).toUInt32).toInt32) &&& (3 : Int32)) = (1 : Int32)
            · refine own_go T10 m 124 #[.val (.long x0), .second, .val (.long x1), .second, .val (.long x2), .second, .val (.long x3), .second, iv x4, rv b1, .val (.long v10), .second, .val (.long v12), .second, rv b6, iv 1, iv (((x4.toUInt32 >>> ((2 : Int32) &&& 31).toUInt32).toInt32) &&& (3 : Int32))] [] (fun t k => XS.icmpNo X10.here hx rfl (hb hby at_121) rfl (teq hc121_20).2 k) ?_
              refine own_go T10 m 126 #[.val (.long x0), .second, .val (.long x1), .second, .val (.long x2), .second, .val (.long x3), .second, iv x4, rv b1, .val (.long v10), .second, .val (.long v12), .second, rv b6, iv 1, iv (((x4.toUInt32 >>> ((2 : Int32) &&& 31).toUInt32).toInt32) &&& (3 : Int32))] [(.ref b1)] (fun t k => XS.aload X10.here hx rfl (hb hby at_124) rfl rfl k) ?_
              refine own_go T10 m 127 #[.val (.long x0), .second, .val (.long x1), .second, .val (.long x2), .second, .val (.long x3), .second, iv x4, rv b1, .val (.long v10), .second, .val (.long v12), .second, rv b6, iv 1, iv (((x4.toUInt32 >>> ((2 : Int32) &&& 31).toUInt32).toInt32) &&& (3 : Int32))] [.null, (.ref b1)] (fun t k => XS.aconstNull X10.here hx rfl (hb hby at_126) k) ?_
              obtain ⟨_, T21, L21, X21, ⟨rfl, e21, rfl⟩, st21⟩ := own_virtual X10 hx hZ (y := (⟨"com/example/semel/semel/log/TimestampedOffset", "equals", "(Ljava/lang/Object;)Z"⟩ : MethodName)) (z := (⟨"com/example/semel/semel/log/TimestampedOffset", "equals", "(Ljava/lang/Object;)Z"⟩ : MethodName)) hown (own_w hw 13 rfl) (own_w hw 14 rfl) (notFace_of_selects (args := #[]) (mvT hZ (own_w hw 16 rfl))) (own_w hw 16 rfl) (own_w hw 15 rfl) (own_w hw 2 rfl) (own_w hw 17 rfl) (by decide) (rmEn l Z a0 hw [] b1 T10.heap) rfl cf11 0 (argsL := [.null]) (rest := []) (Ls := #[.val (.long x0), .second, .val (.long x1), .second, .val (.long x2), .second, .val (.long x3), .second, iv x4, rv b1, .val (.long v10), .second, .val (.long v12), .second, rv b6, iv 1, iv (((x4.toUInt32 >>> ((2 : Int32) &&& 31).toUInt32).toInt32) &&& (3 : Int32))]) (by rw [hml]; rfl) (lenOf pd__Ljava_lang_Object__Z rfl) rfl rfl (Nat.le_of_eq rfl) (hb hby at_127) (by decide) (by decide) (by decide) (by decide)
              replace X21 := own_nil X21
              refine own_go T21 m 130 #[.val (.long x0), .second, .val (.long x1), .second, .val (.long x2), .second, .val (.long x3), .second, iv x4, rv b1, .val (.long v10), .second, .val (.long v12), .second, rv b6, iv 1, iv (((x4.toUInt32 >>> ((2 : Int32) &&& 31).toUInt32).toInt32) &&& (3 : Int32))] [(.int 0)] (st21) ?_
              refine own_go T21 m 133 #[.val (.long x0), .second, .val (.long x1), .second, .val (.long x2), .second, .val (.long x3), .second, iv x4, rv b1, .val (.long v10), .second, .val (.long v12), .second, rv b6, iv 1, iv (((x4.toUInt32 >>> ((2 : Int32) &&& 31).toUInt32).toInt32) &&& (3 : Int32))] [] (fun t k => XS.ifNo X21.here hx rfl (hb hby at_130) rfl ((if0 _ _).trans (teq (by decide)).2) k) ?_
              refine own_go T21 m 135 #[.val (.long x0), .second, .val (.long x1), .second, .val (.long x2), .second, .val (.long x3), .second, iv x4, rv b1, .val (.long v10), .second, .val (.long v12), .second, rv b6, iv 1, iv (((x4.toUInt32 >>> ((2 : Int32) &&& 31).toUInt32).toInt32) &&& (3 : Int32))] [(.ref b1)] (fun t k => XS.aload X21.here hx rfl (hb hby at_133) rfl rfl k) ?_
              refine own_go T21 m 137 #[.val (.long x0), .second, .val (.long x1), .second, .val (.long x2), .second, .val (.long x3), .second, iv x4, rv b1, .val (.long v10), .second, .val (.long v12), .second, rv b6, iv 1, iv (((x4.toUInt32 >>> ((2 : Int32) &&& 31).toUInt32).toInt32) &&& (3 : Int32))] [(.ref b1), (.ref b1)] (fun t k => XS.aload X21.here hx rfl (hb hby at_135) rfl rfl k) ?_
              obtain ⟨_, T22, L22, X22, ⟨rfl, e22, rfl⟩, st22⟩ := own_virtual X21 hx hZ (y := (⟨"com/example/semel/semel/log/TimestampedOffset", "equals", "(Ljava/lang/Object;)Z"⟩ : MethodName)) (z := (⟨"com/example/semel/semel/log/TimestampedOffset", "equals", "(Ljava/lang/Object;)Z"⟩ : MethodName)) hown (own_w hw 13 rfl) (own_w hw 14 rfl) (notFace_of_selects (args := #[]) (mvT hZ (own_w hw 16 rfl))) (own_w hw 16 rfl) (own_w hw 15 rfl) (own_w hw 2 rfl) (own_w hw 17 rfl) (by decide) (rmEb l Z a0 hw [] b1 b1 x0 x1 x0 x1 T10.heap cf12 cf13 cf12 cf13 cf11) e21 cf11 0 (argsL := [(.ref b1)]) (rest := []) (Ls := #[.val (.long x0), .second, .val (.long x1), .second, .val (.long x2), .second, .val (.long x3), .second, iv x4, rv b1, .val (.long v10), .second, .val (.long v12), .second, rv b6, iv 1, iv (((x4.toUInt32 >>> ((2 : Int32) &&& 31).toUInt32).toInt32) &&& (3 : Int32))]) (by rw [hml]; rfl) (lenOf pd__Ljava_lang_Object__Z rfl) rfl rfl (Nat.le_of_eq rfl) (hb hby at_137) (by decide) (by decide) (by decide) (by decide)
              replace X22 := own_nil X22
              refine own_go T22 m 140 #[.val (.long x0), .second, .val (.long x1), .second, .val (.long x2), .second, .val (.long x3), .second, iv x4, rv b1, .val (.long v10), .second, .val (.long v12), .second, rv b6, iv 1, iv (((x4.toUInt32 >>> ((2 : Int32) &&& 31).toUInt32).toInt32) &&& (3 : Int32))] [(.int (own_eq x0 x1 x0 x1))] (st22) ?_
              rw [show (own_eq x0 x1 x0 x1) = (1 : Int32) from by simp [own_eq]]
              refine own_go T22 m 143 #[.val (.long x0), .second, .val (.long x1), .second, .val (.long x2), .second, .val (.long x3), .second, iv x4, rv b1, .val (.long v10), .second, .val (.long v12), .second, rv b6, iv 1, iv (((x4.toUInt32 >>> ((2 : Int32) &&& 31).toUInt32).toInt32) &&& (3 : Int32))] [] (fun t k => XS.ifNo X22.here hx rfl (hb hby at_140) rfl ((if0 _ _).trans (feq (by decide)).1) k) ?_
              refine own_go T22 m 144 #[.val (.long x0), .second, .val (.long x1), .second, .val (.long x2), .second, .val (.long x3), .second, iv x4, rv b1, .val (.long v10), .second, .val (.long v12), .second, rv b6, iv 1, iv (((x4.toUInt32 >>> ((2 : Int32) &&& 31).toUInt32).toInt32) &&& (3 : Int32))] [(.int 1)] (fun t k => XS.iconst X22.here hx rfl (hb hby at_143) k) ?_
              refine own_go T22 m 148 #[.val (.long x0), .second, .val (.long x1), .second, .val (.long x2), .second, .val (.long x3), .second, iv x4, rv b1, .val (.long v10), .second, .val (.long v12), .second, rv b6, iv 1, iv (((x4.toUInt32 >>> ((2 : Int32) &&& 31).toUInt32).toInt32) &&& (3 : Int32))] [(.int 1)] (fun t k => XS.goto X22.here hx rfl (pc0 := 144) (pc' := 148) rfl (hb hby at_144) (by decide) (by decide) k) ?_
              refine own_retZ X22 hx hlk hret (by decide) (hb hby at_148) (by decide) (by decide) ?_
              exact ⟨rfl, N10⟩
            · refine own_go T10 m 149 #[.val (.long x0), .second, .val (.long x1), .second, .val (.long x2), .second, .val (.long x3), .second, iv x4, rv b1, .val (.long v10), .second, .val (.long v12), .second, rv b6, iv 1, iv (((x4.toUInt32 >>> ((2 : Int32) &&& 31).toUInt32).toInt32) &&& (3 : Int32))] [] (fun t k => XS.icmpYes X10.here hx rfl (pc0 := 121) (pc' := 149) rfl (hb hby at_121) rfl (feq hc121_20).2 (by decide) (by decide) k) ?_
              refine own_go T10 m 151 #[.val (.long x0), .second, .val (.long x1), .second, .val (.long x2), .second, .val (.long x3), .second, iv x4, rv b1, .val (.long v10), .second, .val (.long v12), .second, rv b6, iv 1, iv (((x4.toUInt32 >>> ((2 : Int32) &&& 31).toUInt32).toInt32) &&& (3 : Int32))] [(.int (((x4.toUInt32 >>> ((2 : Int32) &&& 31).toUInt32).toInt32) &&& (3 : Int32)))] (fun t k => XS.iload X10.here hx rfl (hb hby at_149) rfl k) ?_
              refine own_go T10 m 152 #[.val (.long x0), .second, .val (.long x1), .second, .val (.long x2), .second, .val (.long x3), .second, iv x4, rv b1, .val (.long v10), .second, .val (.long v12), .second, rv b6, iv 1, iv (((x4.toUInt32 >>> ((2 : Int32) &&& 31).toUInt32).toInt32) &&& (3 : Int32))] [(.int 2), (.int (((x4.toUInt32 >>> ((2 : Int32) &&& 31).toUInt32).toInt32) &&& (3 : Int32)))] (fun t k => XS.iconst X10.here hx rfl (hb hby at_151) k) ?_
              by_cases hc152_23 : (((x4.toUInt32 >>> ((2 : Int32) &&& 31).toUInt32).toInt32) &&& (3 : Int32)) = (2 : Int32)
              · refine own_go T10 m 155 #[.val (.long x0), .second, .val (.long x1), .second, .val (.long x2), .second, .val (.long x3), .second, iv x4, rv b1, .val (.long v10), .second, .val (.long v12), .second, rv b6, iv 1, iv (((x4.toUInt32 >>> ((2 : Int32) &&& 31).toUInt32).toInt32) &&& (3 : Int32))] [] (fun t k => XS.icmpNo X10.here hx rfl (hb hby at_152) rfl (teq hc152_23).2 k) ?_
                refine own_go T10 m 157 #[.val (.long x0), .second, .val (.long x1), .second, .val (.long x2), .second, .val (.long x3), .second, iv x4, rv b1, .val (.long v10), .second, .val (.long v12), .second, rv b6, iv 1, iv (((x4.toUInt32 >>> ((2 : Int32) &&& 31).toUInt32).toInt32) &&& (3 : Int32))] [(.ref b1)] (fun t k => XS.aload X10.here hx rfl (hb hby at_155) rfl rfl k) ?_
                refine own_go T10 m 158 #[.val (.long x0), .second, .val (.long x1), .second, .val (.long x2), .second, .val (.long x3), .second, iv x4, rv b1, .val (.long v10), .second, .val (.long v12), .second, rv b6, iv 1, iv (((x4.toUInt32 >>> ((2 : Int32) &&& 31).toUInt32).toInt32) &&& (3 : Int32))] [(.long x0), (.ref b1)] (fun t k => XS.lloadN X10.here hx rfl (hb hby at_157) rfl k) ?_
                obtain ⟨_, T24, L24, X24, ⟨r24, rfl, Aq24, Kq24, Nq24⟩, st24⟩ := own_static X10 hx hZ (y := (⟨"java/lang/Long", "valueOf", "(J)Ljava/lang/Long;"⟩ : MethodName)) hown (own_w hw 47 rfl) (own_w hw 48 rfl) (own_w hw 49 rfl) (own_w hw 50 rfl) (by decide) (rm8 l Z a0 hw [] x0 aC cell T10.heap n0 Z_10 (own_cache_keep HC K_10)) rfl 1 (argsL := [(.long x0)]) (rest := [(.ref b1)]) (Ls := #[.val (.long x0), .second, .val (.long x1), .second, .val (.long x2), .second, .val (.long x3), .second, iv x4, rv b1, .val (.long v10), .second, .val (.long v12), .second, rv b6, iv 1, iv (((x4.toUInt32 >>> ((2 : Int32) &&& 31).toUInt32).toInt32) &&& (3 : Int32))]) (by rw [hml]; rfl) (lenOf pd__J_Ljava_lang_Long_ rfl) rfl rfl (Nat.le_of_eq rfl) (hb hby at_158) (by decide) (by decide) (by decide) (by decide)
                have N24 := Fr.app N10 Nq24
                have cf25 := cf11.keep Kq24
                have cf26 := cf12.keep Kq24 nin0
                have cf27 := cf13.keep Kq24 nin0
                have cf28 := Aq10.keep Kq24
                have cf29 := Fq10_0.keep Kq24 nin0
                have cf30 := Fq10_1.keep Kq24 nin0
                have Z_24 : n0 ≤ T24.heap.size := Nat.le_trans Z_10 Kq24.1
                have K_24 : Keep h0 T24.heap [] := K_10.trans Kq24 all0
                refine own_go T24 m 161 #[.val (.long x0), .second, .val (.long x1), .second, .val (.long x2), .second, .val (.long x3), .second, iv x4, rv b1, .val (.long v10), .second, .val (.long v12), .second, rv b6, iv 1, iv (((x4.toUInt32 >>> ((2 : Int32) &&& 31).toUInt32).toInt32) &&& (3 : Int32))] [(.ref r24), (.ref b1)] (st24) ?_
                obtain ⟨_, T31, L31, X31, ⟨rfl, e31, rfl⟩, st31⟩ := own_virtual X24 hx hZ (y := (⟨"com/example/semel/semel/log/TimestampedOffset", "equals", "(Ljava/lang/Object;)Z"⟩ : MethodName)) (z := (⟨"com/example/semel/semel/log/TimestampedOffset", "equals", "(Ljava/lang/Object;)Z"⟩ : MethodName)) hown (own_w hw 13 rfl) (own_w hw 14 rfl) (notFace_of_selects (args := #[]) (mvT hZ (own_w hw 16 rfl))) (own_w hw 16 rfl) (own_w hw 15 rfl) (own_w hw 2 rfl) (own_w hw 17 rfl) (by decide) (rmEc0 l Z a0 hw [] b1 r24 T24.heap Aq24) rfl cf25 0 (argsL := [(.ref r24)]) (rest := []) (Ls := #[.val (.long x0), .second, .val (.long x1), .second, .val (.long x2), .second, .val (.long x3), .second, iv x4, rv b1, .val (.long v10), .second, .val (.long v12), .second, rv b6, iv 1, iv (((x4.toUInt32 >>> ((2 : Int32) &&& 31).toUInt32).toInt32) &&& (3 : Int32))]) (by rw [hml]; rfl) (lenOf pd__Ljava_lang_Object__Z rfl) rfl rfl (Nat.le_of_eq rfl) (hb hby at_161) (by decide) (by decide) (by decide) (by decide)
                replace X31 := own_nil X31
                refine own_go T31 m 164 #[.val (.long x0), .second, .val (.long x1), .second, .val (.long x2), .second, .val (.long x3), .second, iv x4, rv b1, .val (.long v10), .second, .val (.long v12), .second, rv b6, iv 1, iv (((x4.toUInt32 >>> ((2 : Int32) &&& 31).toUInt32).toInt32) &&& (3 : Int32))] [(.int 0)] (st31) ?_
                refine own_go T31 m 167 #[.val (.long x0), .second, .val (.long x1), .second, .val (.long x2), .second, .val (.long x3), .second, iv x4, rv b1, .val (.long v10), .second, .val (.long v12), .second, rv b6, iv 1, iv (((x4.toUInt32 >>> ((2 : Int32) &&& 31).toUInt32).toInt32) &&& (3 : Int32))] [] (fun t k => XS.ifNo X31.here hx rfl (hb hby at_164) rfl ((if0 _ _).trans (teq (by decide)).2) k) ?_
                refine own_go T31 m 168 #[.val (.long x0), .second, .val (.long x1), .second, .val (.long x2), .second, .val (.long x3), .second, iv x4, rv b1, .val (.long v10), .second, .val (.long v12), .second, rv b6, iv 1, iv (((x4.toUInt32 >>> ((2 : Int32) &&& 31).toUInt32).toInt32) &&& (3 : Int32))] [(.int 1)] (fun t k => XS.iconst X31.here hx rfl (hb hby at_167) k) ?_
                refine own_go T31 m 172 #[.val (.long x0), .second, .val (.long x1), .second, .val (.long x2), .second, .val (.long x3), .second, iv x4, rv b1, .val (.long v10), .second, .val (.long v12), .second, rv b6, iv 1, iv (((x4.toUInt32 >>> ((2 : Int32) &&& 31).toUInt32).toInt32) &&& (3 : Int32))] [(.int 1)] (fun t k => XS.goto X31.here hx rfl (pc0 := 168) (pc' := 172) rfl (hb hby at_168) (by decide) (by decide) k) ?_
                refine own_retZ X31 hx hlk hret (by decide) (hb hby at_172) (by decide) (by decide) ?_
                exact ⟨rfl, N24⟩
              · refine own_go T10 m 173 #[.val (.long x0), .second, .val (.long x1), .second, .val (.long x2), .second, .val (.long x3), .second, iv x4, rv b1, .val (.long v10), .second, .val (.long v12), .second, rv b6, iv 1, iv (((x4.toUInt32 >>> ((2 : Int32) &&& 31).toUInt32).toInt32) &&& (3 : Int32))] [] (fun t k => XS.icmpYes X10.here hx rfl (pc0 := 152) (pc' := 173) rfl (hb hby at_152) rfl (feq hc152_23).2 (by decide) (by decide) k) ?_
                refine own_go T10 m 175 #[.val (.long x0), .second, .val (.long x1), .second, .val (.long x2), .second, .val (.long x3), .second, iv x4, rv b1, .val (.long v10), .second, .val (.long v12), .second, rv b6, iv 1, iv (((x4.toUInt32 >>> ((2 : Int32) &&& 31).toUInt32).toInt32) &&& (3 : Int32))] [(.ref b1)] (fun t k => XS.aload X10.here hx rfl (hb hby at_173) rfl rfl k) ?_
                refine own_go T10 m 177 #[.val (.long x0), .second, .val (.long x1), .second, .val (.long x2), .second, .val (.long x3), .second, iv x4, rv b1, .val (.long v10), .second, .val (.long v12), .second, rv b6, iv 1, iv (((x4.toUInt32 >>> ((2 : Int32) &&& 31).toUInt32).toInt32) &&& (3 : Int32))] [(.long x2), (.ref b1)] (fun t k => XS.lload X10.here hx rfl (hb hby at_175) rfl k) ?_
                refine own_go T10 m 180 #[.val (.long x0), .second, .val (.long x1), .second, .val (.long x2), .second, .val (.long x3), .second, iv x4, rv b1, .val (.long v10), .second, .val (.long v12), .second, rv b6, iv 1, iv (((x4.toUInt32 >>> ((2 : Int32) &&& 31).toUInt32).toInt32) &&& (3 : Int32))] [(.long 255), (.long x2), (.ref b1)] (X10.ldc2Long hx hown (mvT hZ (own_w hw 20 rfl)) (g := (mkF m 177 #[.val (.long x0), .second, .val (.long x1), .second, .val (.long x2), .second, .val (.long x3), .second, iv x4, rv b1, .val (.long v10), .second, .val (.long v12), .second, rv b6, iv 1, iv (((x4.toUInt32 >>> ((2 : Int32) &&& 31).toUInt32).toInt32) &&& (3 : Int32))] [(.long x2), (.ref b1)])) rfl (hb hby at_177)) ?_
                refine own_go T10 m 181 #[.val (.long x0), .second, .val (.long x1), .second, .val (.long x2), .second, .val (.long x3), .second, iv x4, rv b1, .val (.long v10), .second, .val (.long v12), .second, rv b6, iv 1, iv (((x4.toUInt32 >>> ((2 : Int32) &&& 31).toUInt32).toInt32) &&& (3 : Int32))] [(.long (x2 &&& (255 : Int64))), (.ref b1)] (fun t k => XS.land X10.here hx rfl (hb hby at_180) rfl k) ?_
                refine own_go T10 m 182 #[.val (.long x0), .second, .val (.long x1), .second, .val (.long x2), .second, .val (.long x3), .second, iv x4, rv b1, .val (.long v10), .second, .val (.long v12), .second, rv b6, iv 1, iv (((x4.toUInt32 >>> ((2 : Int32) &&& 31).toUInt32).toInt32) &&& (3 : Int32))] [(.int (x2 &&& (255 : Int64)).toInt32), (.ref b1)] (fun t k => XS.l2i X10.here hx rfl (hb hby at_181) rfl k) ?_
                refine own_go T10 m 183 #[.val (.long x0), .second, .val (.long x1), .second, .val (.long x2), .second, .val (.long x3), .second, iv x4, rv b1, .val (.long v10), .second, .val (.long v12), .second, rv b6, iv 1, iv (((x4.toUInt32 >>> ((2 : Int32) &&& 31).toUInt32).toInt32) &&& (3 : Int32))] [(.int (x2 &&& (255 : Int64)).toInt32.toUInt32.toUInt16.toUInt32.toInt32), (.ref b1)] (fun t k => XS.i2c X10.here hx rfl (hb hby at_182) rfl k) ?_
                obtain ⟨_, T32, L32, X32, ⟨r32, rfl, Aq32, Kq32, Nq32⟩, st32⟩ := own_static X10 hx hZ (y := (⟨"java/lang/String", "valueOf", "(C)Ljava/lang/String;"⟩ : MethodName)) hown (own_w hw 21 rfl) (own_w hw 22 rfl) (own_w hw 23 rfl) (own_w hw 24 rfl) (by decide) (rm4 l Z a0 hw [] (x2 &&& (255 : Int64)).toInt32.toUInt32.toUInt16.toUInt32.toInt32 cs T10.heap n0 Z_10 (own_sta_keep SCS K_10) hcs (own_ch x2)) rfl 1 (argsL := [(.int (x2 &&& (255 : Int64)).toInt32.toUInt32.toUInt16.toUInt32.toInt32)]) (rest := [(.ref b1)]) (Ls := #[.val (.long x0), .second, .val (.long x1), .second, .val (.long x2), .second, .val (.long x3), .second, iv x4, rv b1, .val (.long v10), .second, .val (.long v12), .second, rv b6, iv 1, iv (((x4.toUInt32 >>> ((2 : Int32) &&& 31).toUInt32).toInt32) &&& (3 : Int32))]) (by rw [hml]; rfl) (lenOf pd__C_Ljava_lang_String_ rfl) rfl rfl (Nat.le_of_eq rfl) (hb hby at_183) (by decide) (by decide) (by decide) (by decide)
                have N32 := Fr.app N10 Nq32
                have cf33 := cf11.keep Kq32
                have cf34 := cf12.keep Kq32 nin0
                have cf35 := cf13.keep Kq32 nin0
                have cf36 := Aq10.keep Kq32
                have cf37 := Fq10_0.keep Kq32 nin0
                have cf38 := Fq10_1.keep Kq32 nin0
                have Z_32 : n0 ≤ T32.heap.size := Nat.le_trans Z_10 Kq32.1
                have K_32 : Keep h0 T32.heap [] := K_10.trans Kq32 all0
                refine own_go T32 m 186 #[.val (.long x0), .second, .val (.long x1), .second, .val (.long x2), .second, .val (.long x3), .second, iv x4, rv b1, .val (.long v10), .second, .val (.long v12), .second, rv b6, iv 1, iv (((x4.toUInt32 >>> ((2 : Int32) &&& 31).toUInt32).toInt32) &&& (3 : Int32))] [(.ref r32), (.ref b1)] (st32) ?_
                obtain ⟨_, T39, L39, X39, ⟨rfl, e39, rfl⟩, st39⟩ := own_virtual X32 hx hZ (y := (⟨"com/example/semel/semel/log/TimestampedOffset", "equals", "(Ljava/lang/Object;)Z"⟩ : MethodName)) (z := (⟨"com/example/semel/semel/log/TimestampedOffset", "equals", "(Ljava/lang/Object;)Z"⟩ : MethodName)) hown (own_w hw 13 rfl) (own_w hw 14 rfl) (notFace_of_selects (args := #[]) (mvT hZ (own_w hw 16 rfl))) (own_w hw 16 rfl) (own_w hw 15 rfl) (own_w hw 2 rfl) (own_w hw 17 rfl) (by decide) (rmEc1 l Z a0 hw [] b1 r32 T32.heap Aq32) rfl cf33 0 (argsL := [(.ref r32)]) (rest := []) (Ls := #[.val (.long x0), .second, .val (.long x1), .second, .val (.long x2), .second, .val (.long x3), .second, iv x4, rv b1, .val (.long v10), .second, .val (.long v12), .second, rv b6, iv 1, iv (((x4.toUInt32 >>> ((2 : Int32) &&& 31).toUInt32).toInt32) &&& (3 : Int32))]) (by rw [hml]; rfl) (lenOf pd__Ljava_lang_Object__Z rfl) rfl rfl (Nat.le_of_eq rfl) (hb hby at_186) (by decide) (by decide) (by decide) (by decide)
                replace X39 := own_nil X39
                refine own_go T39 m 189 #[.val (.long x0), .second, .val (.long x1), .second, .val (.long x2), .second, .val (.long x3), .second, iv x4, rv b1, .val (.long v10), .second, .val (.long v12), .second, rv b6, iv 1, iv (((x4.toUInt32 >>> ((2 : Int32) &&& 31).toUInt32).toInt32) &&& (3 : Int32))] [(.int 0)] (st39) ?_
                refine own_go T39 m 192 #[.val (.long x0), .second, .val (.long x1), .second, .val (.long x2), .second, .val (.long x3), .second, iv x4, rv b1, .val (.long v10), .second, .val (.long v12), .second, rv b6, iv 1, iv (((x4.toUInt32 >>> ((2 : Int32) &&& 31).toUInt32).toInt32) &&& (3 : Int32))] [] (fun t k => XS.ifNo X39.here hx rfl (hb hby at_189) rfl ((if0 _ _).trans (teq (by decide)).2) k) ?_
                refine own_go T39 m 193 #[.val (.long x0), .second, .val (.long x1), .second, .val (.long x2), .second, .val (.long x3), .second, iv x4, rv b1, .val (.long v10), .second, .val (.long v12), .second, rv b6, iv 1, iv (((x4.toUInt32 >>> ((2 : Int32) &&& 31).toUInt32).toInt32) &&& (3 : Int32))] [(.int 1)] (fun t k => XS.iconst X39.here hx rfl (hb hby at_192) k) ?_
                refine own_go T39 m 197 #[.val (.long x0), .second, .val (.long x1), .second, .val (.long x2), .second, .val (.long x3), .second, iv x4, rv b1, .val (.long v10), .second, .val (.long v12), .second, rv b6, iv 1, iv (((x4.toUInt32 >>> ((2 : Int32) &&& 31).toUInt32).toInt32) &&& (3 : Int32))] [(.int 1)] (fun t k => XS.goto X39.here hx rfl (pc0 := 193) (pc' := 197) rfl (hb hby at_193) (by decide) (by decide) k) ?_
                refine own_retZ X39 hx hlk hret (by decide) (hb hby at_197) (by decide) (by decide) ?_
                exact ⟨rfl, N32⟩
        · refine own_go T10 m 72 #[.val (.long x0), .second, .val (.long x1), .second, .val (.long x2), .second, .val (.long x3), .second, iv x4, rv b1, .val (.long v10), .second, .val (.long v12), .second, rv b6, .unset, .unset] [] (fun t k => XS.ifYes X10.here hx rfl (pc0 := 65) (pc' := 72) rfl (hb hby at_65) rfl ((if0 _ _).trans (feq (mt (lw_eq x1 v12).mp hc65_16)).2) (by decide) (by decide) k) ?_
          refine own_go T10 m 73 #[.val (.long x0), .second, .val (.long x1), .second, .val (.long x2), .second, .val (.long x3), .second, iv x4, rv b1, .val (.long v10), .second, .val (.long v12), .second, rv b6, .unset, .unset] [(.int 0)] (fun t k => XS.iconst X10.here hx rfl (hb hby at_72) k) ?_
          refine own_go T10 m 75 #[.val (.long x0), .second, .val (.long x1), .second, .val (.long x2), .second, .val (.long x3), .second, iv x4, rv b1, .val (.long v10), .second, .val (.long v12), .second, rv b6, iv 0, .unset] [] (fun t k => XS.istore X10.here hx rfl (hb hby at_73) rfl rfl k) ?_
          refine own_go T10 m 77 #[.val (.long x0), .second, .val (.long x1), .second, .val (.long x2), .second, .val (.long x3), .second, iv x4, rv b1, .val (.long v10), .second, .val (.long v12), .second, rv b6, iv 0, .unset] [(.int x4)] (fun t k => XS.iload X10.here hx rfl (hb hby at_75) rfl k) ?_
          refine own_go T10 m 78 #[.val (.long x0), .second, .val (.long x1), .second, .val (.long x2), .second, .val (.long x3), .second, iv x4, rv b1, .val (.long v10), .second, .val (.long v12), .second, rv b6, iv 0, .unset] [(.int 2), (.int x4)] (fun t k => XS.iconst X10.here hx rfl (hb hby at_77) k) ?_
          refine own_go T10 m 79 #[.val (.long x0), .second, .val (.long x1), .second, .val (.long x2), .second, .val (.long x3), .second, iv x4, rv b1, .val (.long v10), .second, .val (.long v12), .second, rv b6, iv 0, .unset] [(.int ((x4.toUInt32 >>> ((2 : Int32) &&& 31).toUInt32).toInt32))] (fun t k => XS.iushr X10.here hx rfl (hb hby at_78) rfl k) ?_
          refine own_go T10 m 80 #[.val (.long x0), .second, .val (.long x1), .second, .val (.long x2), .second, .val (.long x3), .second, iv x4, rv b1, .val (.long v10), .second, .val (.long v12), .second, rv b6, iv 0, .unset] [(.int 3), (.int ((x4.toUInt32 >>> ((2 : Int32) &&& 31).toUInt32).toInt32))] (fun t k => XS.iconst X10.here hx rfl (hb hby at_79) k) ?_
          refine own_go T10 m 81 #[.val (.long x0), .second, .val (.long x1), .second, .val (.long x2), .second, .val (.long x3), .second, iv x4, rv b1, .val (.long v10), .second, .val (.long v12), .second, rv b6, iv 0, .unset] [(.int (((x4.toUInt32 >>> ((2 : Int32) &&& 31).toUInt32).toInt32) &&& (3 : Int32)))] (fun t k => XS.iand X10.here hx rfl (hb hby at_80) rfl k) ?_
          refine own_go T10 m 83 #[.val (.long x0), .second, .val (.long x1), .second, .val (.long x2), .second, .val (.long x3), .second, iv x4, rv b1, .val (.long v10), .second, .val (.long v12), .second, rv b6, iv 0, iv (((x4.toUInt32 >>> ((2 : Int32) &&& 31).toUInt32).toInt32) &&& (3 : Int32))] [] (fun t k => XS.istore X10.here hx rfl (hb hby at_81) rfl rfl k) ?_
          refine own_go T10 m 85 #[.val (.long x0), .second, .val (.long x1), .second, .val (.long x2), .second, .val (.long x3), .second, iv x4, rv b1, .val (.long v10), .second, .val (.long v12), .second, rv b6, iv 0, iv (((x4.toUInt32 >>> ((2 : Int32) &&& 31).toUInt32).toInt32) &&& (3 : Int32))] [(.int (((x4.toUInt32 >>> ((2 : Int32) &&& 31).toUInt32).toInt32) &&& (3 : Int32)))] (fun t k => XS.iload X10.here hx rfl (hb hby at_83) rfl k) ?_
          by_cases hc85_40 : (((x4.toUInt32 >>> ((2 : Int32) &&& 31).toUInt32).toInt32) &&& (3 : Int32)) = (0 : Int32)
          · refine own_go T10 m 88 #[.val (.long x0), .second, .val (.long x1), .second, .val (.long x2), .second, .val (.long x3), .second, iv x4, rv b1, .val (.long v10), .second, .val (.long v12), .second, rv b6, iv 0, iv (((x4.toUInt32 >>> ((2 : Int32) &&& 31).toUInt32).toInt32) &&& (3 : Int32))] [] (fun t k => XS.ifNo X10.here hx rfl (hb hby at_85) rfl ((if0 _ _).trans (teq hc85_40).2) k) ?_
            refine own_go T10 m 90 #[.val (.long x0), .second, .val (.long x1), .second, .val (.long x2), .second, .val (.long x3), .second, iv x4, rv b1, .val (.long v10), .second, .val (.long v12), .second, rv b6, iv 0, iv (((x4.toUInt32 >>> ((2 : Int32) &&& 31).toUInt32).toInt32) &&& (3 : Int32))] [(.ref b1)] (fun t k => XS.aload X10.here hx rfl (hb hby at_88) rfl rfl k) ?_
            refine own_go T10 m 92 #[.val (.long x0), .second, .val (.long x1), .second, .val (.long x2), .second, .val (.long x3), .second, iv x4, rv b1, .val (.long v10), .second, .val (.long v12), .second, rv b6, iv 0, iv (((x4.toUInt32 >>> ((2 : Int32) &&& 31).toUInt32).toInt32) &&& (3 : Int32))] [(.ref b6), (.ref b1)] (fun t k => XS.aload X10.here hx rfl (hb hby at_90) rfl rfl k) ?_
            obtain ⟨_, T41, L41, X41, ⟨rfl, e41, rfl⟩, st41⟩ := own_virtual X10 hx hZ (y := (⟨"com/example/semel/semel/log/TimestampedOffset", "equals", "(Ljava/lang/Object;)Z"⟩ : MethodName)) (z := (⟨"com/example/semel/semel/log/TimestampedOffset", "equals", "(Ljava/lang/Object;)Z"⟩ : MethodName)) hown (own_w hw 13 rfl) (own_w hw 14 rfl) (notFace_of_selects (args := #[]) (mvT hZ (own_w hw 16 rfl))) (own_w hw 16 rfl) (own_w hw 15 rfl) (own_w hw 2 rfl) (own_w hw 17 rfl) (by decide) (rmEb l Z a0 hw [] b1 b6 x0 x1 v10 v12 T10.heap cf12 cf13 Fq10_0 Fq10_1 Aq10) rfl cf11 0 (argsL := [(.ref b6)]) (rest := []) (Ls := #[.val (.long x0), .second, .val (.long x1), .second, .val (.long x2), .second, .val (.long x3), .second, iv x4, rv b1, .val (.long v10), .second, .val (.long v12), .second, rv b6, iv 0, iv (((x4.toUInt32 >>> ((2 : Int32) &&& 31).toUInt32).toInt32) &&& (3 : Int32))]) (by rw [hml]; rfl) (lenOf pd__Ljava_lang_Object__Z rfl) rfl rfl (Nat.le_of_eq rfl) (hb hby at_92) (by decide) (by decide) (by decide) (by decide)
            replace X41 := own_nil X41
            refine own_go T41 m 95 #[.val (.long x0), .second, .val (.long x1), .second, .val (.long x2), .second, .val (.long x3), .second, iv x4, rv b1, .val (.long v10), .second, .val (.long v12), .second, rv b6, iv 0, iv (((x4.toUInt32 >>> ((2 : Int32) &&& 31).toUInt32).toInt32) &&& (3 : Int32))] [(.int (own_eq x0 x1 v10 v12))] (st41) ?_
            rw [show (own_eq x0 x1 v10 v12) = (0 : Int32) from by simp [own_eq, hc58_15, hc65_16, Ne.symm hc65_16]]
            refine own_go T41 m 97 #[.val (.long x0), .second, .val (.long x1), .second, .val (.long x2), .second, .val (.long x3), .second, iv x4, rv b1, .val (.long v10), .second, .val (.long v12), .second, rv b6, iv 0, iv (((x4.toUInt32 >>> ((2 : Int32) &&& 31).toUInt32).toInt32) &&& (3 : Int32))] [(.int 0), (.int 0)] (fun t k => XS.iload X41.here hx rfl (hb hby at_95) rfl k) ?_
            refine own_go T41 m 100 #[.val (.long x0), .second, .val (.long x1), .second, .val (.long x2), .second, .val (.long x3), .second, iv x4, rv b1, .val (.long v10), .second, .val (.long v12), .second, rv b6, iv 0, iv (((x4.toUInt32 >>> ((2 : Int32) &&& 31).toUInt32).toInt32) &&& (3 : Int32))] [] (fun t k => XS.icmpNo X41.here hx rfl (hb hby at_97) rfl (teq (by decide)).2 k) ?_
            refine own_go T41 m 102 #[.val (.long x0), .second, .val (.long x1), .second, .val (.long x2), .second, .val (.long x3), .second, iv x4, rv b1, .val (.long v10), .second, .val (.long v12), .second, rv b6, iv 0, iv (((x4.toUInt32 >>> ((2 : Int32) &&& 31).toUInt32).toInt32) &&& (3 : Int32))] [(.ref b6)] (fun t k => XS.aload X41.here hx rfl (hb hby at_100) rfl rfl k) ?_
            refine own_go T41 m 104 #[.val (.long x0), .second, .val (.long x1), .second, .val (.long x2), .second, .val (.long x3), .second, iv x4, rv b1, .val (.long v10), .second, .val (.long v12), .second, rv b6, iv 0, iv (((x4.toUInt32 >>> ((2 : Int32) &&& 31).toUInt32).toInt32) &&& (3 : Int32))] [(.ref b1), (.ref b6)] (fun t k => XS.aload X41.here hx rfl (hb hby at_102) rfl rfl k) ?_
            obtain ⟨_, T42, L42, X42, ⟨rfl, e42, rfl⟩, st42⟩ := own_virtual X41 hx hZ (y := (⟨"com/example/semel/semel/log/TimestampedOffset", "equals", "(Ljava/lang/Object;)Z"⟩ : MethodName)) (z := (⟨"com/example/semel/semel/log/TimestampedOffset", "equals", "(Ljava/lang/Object;)Z"⟩ : MethodName)) hown (own_w hw 13 rfl) (own_w hw 14 rfl) (notFace_of_selects (args := #[]) (mvT hZ (own_w hw 16 rfl))) (own_w hw 16 rfl) (own_w hw 15 rfl) (own_w hw 2 rfl) (own_w hw 17 rfl) (by decide) (rmEb l Z a0 hw [] b6 b1 v10 v12 x0 x1 T10.heap Fq10_0 Fq10_1 cf12 cf13 cf11) e41 Aq10 0 (argsL := [(.ref b1)]) (rest := []) (Ls := #[.val (.long x0), .second, .val (.long x1), .second, .val (.long x2), .second, .val (.long x3), .second, iv x4, rv b1, .val (.long v10), .second, .val (.long v12), .second, rv b6, iv 0, iv (((x4.toUInt32 >>> ((2 : Int32) &&& 31).toUInt32).toInt32) &&& (3 : Int32))]) (by rw [hml]; rfl) (lenOf pd__Ljava_lang_Object__Z rfl) rfl rfl (Nat.le_of_eq rfl) (hb hby at_104) (by decide) (by decide) (by decide) (by decide)
            replace X42 := own_nil X42
            refine own_go T42 m 107 #[.val (.long x0), .second, .val (.long x1), .second, .val (.long x2), .second, .val (.long x3), .second, iv x4, rv b1, .val (.long v10), .second, .val (.long v12), .second, rv b6, iv 0, iv (((x4.toUInt32 >>> ((2 : Int32) &&& 31).toUInt32).toInt32) &&& (3 : Int32))] [(.int (own_eq v10 v12 x0 x1))] (st42) ?_
            rw [show (own_eq v10 v12 x0 x1) = (0 : Int32) from by simp [own_eq, hc58_15, hc65_16, Ne.symm hc65_16]]
            refine own_go T42 m 109 #[.val (.long x0), .second, .val (.long x1), .second, .val (.long x2), .second, .val (.long x3), .second, iv x4, rv b1, .val (.long v10), .second, .val (.long v12), .second, rv b6, iv 0, iv (((x4.toUInt32 >>> ((2 : Int32) &&& 31).toUInt32).toInt32) &&& (3 : Int32))] [(.int 0), (.int 0)] (fun t k => XS.iload X42.here hx rfl (hb hby at_107) rfl k) ?_
            refine own_go T42 m 112 #[.val (.long x0), .second, .val (.long x1), .second, .val (.long x2), .second, .val (.long x3), .second, iv x4, rv b1, .val (.long v10), .second, .val (.long v12), .second, rv b6, iv 0, iv (((x4.toUInt32 >>> ((2 : Int32) &&& 31).toUInt32).toInt32) &&& (3 : Int32))] [] (fun t k => XS.icmpNo X42.here hx rfl (hb hby at_109) rfl (teq (by decide)).2 k) ?_
            refine own_go T42 m 113 #[.val (.long x0), .second, .val (.long x1), .second, .val (.long x2), .second, .val (.long x3), .second, iv x4, rv b1, .val (.long v10), .second, .val (.long v12), .second, rv b6, iv 0, iv (((x4.toUInt32 >>> ((2 : Int32) &&& 31).toUInt32).toInt32) &&& (3 : Int32))] [(.int 1)] (fun t k => XS.iconst X42.here hx rfl (hb hby at_112) k) ?_
            refine own_go T42 m 117 #[.val (.long x0), .second, .val (.long x1), .second, .val (.long x2), .second, .val (.long x3), .second, iv x4, rv b1, .val (.long v10), .second, .val (.long v12), .second, rv b6, iv 0, iv (((x4.toUInt32 >>> ((2 : Int32) &&& 31).toUInt32).toInt32) &&& (3 : Int32))] [(.int 1)] (fun t k => XS.goto X42.here hx rfl (pc0 := 113) (pc' := 117) rfl (hb hby at_113) (by decide) (by decide) k) ?_
            refine own_retZ X42 hx hlk hret (by decide) (hb hby at_117) (by decide) (by decide) ?_
            exact ⟨rfl, N10⟩
          · refine own_go T10 m 118 #[.val (.long x0), .second, .val (.long x1), .second, .val (.long x2), .second, .val (.long x3), .second, iv x4, rv b1, .val (.long v10), .second, .val (.long v12), .second, rv b6, iv 0, iv (((x4.toUInt32 >>> ((2 : Int32) &&& 31).toUInt32).toInt32) &&& (3 : Int32))] [] (fun t k => XS.ifYes X10.here hx rfl (pc0 := 85) (pc' := 118) rfl (hb hby at_85) rfl ((if0 _ _).trans (feq hc85_40).2) (by decide) (by decide) k) ?_
            refine own_go T10 m 120 #[.val (.long x0), .second, .val (.long x1), .second, .val (.long x2), .second, .val (.long x3), .second, iv x4, rv b1, .val (.long v10), .second, .val (.long v12), .second, rv b6, iv 0, iv (((x4.toUInt32 >>> ((2 : Int32) &&& 31).toUInt32).toInt32) &&& (3 : Int32))] [(.int (((x4.toUInt32 >>> ((2 : Int32) &&& 31).toUInt32).toInt32) &&& (3 : Int32)))] (fun t k => XS.iload X10.here hx rfl (hb hby at_118) rfl k) ?_
            refine own_go T10 m 121 #[.val (.long x0), .second, .val (.long x1), .second, .val (.long x2), .second, .val (.long x3), .second, iv x4, rv b1, .val (.long v10), .second, .val (.long v12), .second, rv b6, iv 0, iv (((x4.toUInt32 >>> ((2 : Int32) &&& 31).toUInt32).toInt32) &&& (3 : Int32))] [(.int 1), (.int (((x4.toUInt32 >>> ((2 : Int32) &&& 31).toUInt32).toInt32) &&& (3 : Int32)))] (fun t k => XS.iconst X10.here hx rfl (hb hby at_120) k) ?_
            by_cases hc121_43 : (((x4.toUInt32 >>> ((2 : Int32) &&& 31).toUInt32).toInt32) &&& (3 : Int32)) = (1 : Int32)
            · refine own_go T10 m 124 #[.val (.long x0), .second, .val (.long x1), .second, .val (.long x2), .second, .val (.long x3), .second, iv x4, rv b1, .val (.long v10), .second, .val (.long v12), .second, rv b6, iv 0, iv (((x4.toUInt32 >>> ((2 : Int32) &&& 31).toUInt32).toInt32) &&& (3 : Int32))] [] (fun t k => XS.icmpNo X10.here hx rfl (hb hby at_121) rfl (teq hc121_43).2 k) ?_
              refine own_go T10 m 126 #[.val (.long x0), .second, .val (.long x1), .second, .val (.long x2), .second, .val (.long x3), .second, iv x4, rv b1, .val (.long v10), .second, .val (.long v12), .second, rv b6, iv 0, iv (((x4.toUInt32 >>> ((2 : Int32) &&& 31).toUInt32).toInt32) &&& (3 : Int32))] [(.ref b1)] (fun t k => XS.aload X10.here hx rfl (hb hby at_124) rfl rfl k) ?_
              refine own_go T10 m 127 #[.val (.long x0), .second, .val (.long x1), .second, .val (.long x2), .second, .val (.long x3), .second, iv x4, rv b1, .val (.long v10), .second, .val (.long v12), .second, rv b6, iv 0, iv (((x4.toUInt32 >>> ((2 : Int32) &&& 31).toUInt32).toInt32) &&& (3 : Int32))] [.null, (.ref b1)] (fun t k => XS.aconstNull X10.here hx rfl (hb hby at_126) k) ?_
              obtain ⟨_, T44, L44, X44, ⟨rfl, e44, rfl⟩, st44⟩ := own_virtual X10 hx hZ (y := (⟨"com/example/semel/semel/log/TimestampedOffset", "equals", "(Ljava/lang/Object;)Z"⟩ : MethodName)) (z := (⟨"com/example/semel/semel/log/TimestampedOffset", "equals", "(Ljava/lang/Object;)Z"⟩ : MethodName)) hown (own_w hw 13 rfl) (own_w hw 14 rfl) (notFace_of_selects (args := #[]) (mvT hZ (own_w hw 16 rfl))) (own_w hw 16 rfl) (own_w hw 15 rfl) (own_w hw 2 rfl) (own_w hw 17 rfl) (by decide) (rmEn l Z a0 hw [] b1 T10.heap) rfl cf11 0 (argsL := [.null]) (rest := []) (Ls := #[.val (.long x0), .second, .val (.long x1), .second, .val (.long x2), .second, .val (.long x3), .second, iv x4, rv b1, .val (.long v10), .second, .val (.long v12), .second, rv b6, iv 0, iv (((x4.toUInt32 >>> ((2 : Int32) &&& 31).toUInt32).toInt32) &&& (3 : Int32))]) (by rw [hml]; rfl) (lenOf pd__Ljava_lang_Object__Z rfl) rfl rfl (Nat.le_of_eq rfl) (hb hby at_127) (by decide) (by decide) (by decide) (by decide)
              replace X44 := own_nil X44
              refine own_go T44 m 130 #[.val (.long x0), .second, .val (.long x1), .second, .val (.long x2), .second, .val (.long x3), .second, iv x4, rv b1, .val (.long v10), .second, .val (.long v12), .second, rv b6, iv 0, iv (((x4.toUInt32 >>> ((2 : Int32) &&& 31).toUInt32).toInt32) &&& (3 : Int32))] [(.int 0)] (st44) ?_
              refine own_go T44 m 133 #[.val (.long x0), .second, .val (.long x1), .second, .val (.long x2), .second, .val (.long x3), .second, iv x4, rv b1, .val (.long v10), .second, .val (.long v12), .second, rv b6, iv 0, iv (((x4.toUInt32 >>> ((2 : Int32) &&& 31).toUInt32).toInt32) &&& (3 : Int32))] [] (fun t k => XS.ifNo X44.here hx rfl (hb hby at_130) rfl ((if0 _ _).trans (teq (by decide)).2) k) ?_
              refine own_go T44 m 135 #[.val (.long x0), .second, .val (.long x1), .second, .val (.long x2), .second, .val (.long x3), .second, iv x4, rv b1, .val (.long v10), .second, .val (.long v12), .second, rv b6, iv 0, iv (((x4.toUInt32 >>> ((2 : Int32) &&& 31).toUInt32).toInt32) &&& (3 : Int32))] [(.ref b1)] (fun t k => XS.aload X44.here hx rfl (hb hby at_133) rfl rfl k) ?_
              refine own_go T44 m 137 #[.val (.long x0), .second, .val (.long x1), .second, .val (.long x2), .second, .val (.long x3), .second, iv x4, rv b1, .val (.long v10), .second, .val (.long v12), .second, rv b6, iv 0, iv (((x4.toUInt32 >>> ((2 : Int32) &&& 31).toUInt32).toInt32) &&& (3 : Int32))] [(.ref b1), (.ref b1)] (fun t k => XS.aload X44.here hx rfl (hb hby at_135) rfl rfl k) ?_
              obtain ⟨_, T45, L45, X45, ⟨rfl, e45, rfl⟩, st45⟩ := own_virtual X44 hx hZ (y := (⟨"com/example/semel/semel/log/TimestampedOffset", "equals", "(Ljava/lang/Object;)Z"⟩ : MethodName)) (z := (⟨"com/example/semel/semel/log/TimestampedOffset", "equals", "(Ljava/lang/Object;)Z"⟩ : MethodName)) hown (own_w hw 13 rfl) (own_w hw 14 rfl) (notFace_of_selects (args := #[]) (mvT hZ (own_w hw 16 rfl))) (own_w hw 16 rfl) (own_w hw 15 rfl) (own_w hw 2 rfl) (own_w hw 17 rfl) (by decide) (rmEb l Z a0 hw [] b1 b1 x0 x1 x0 x1 T10.heap cf12 cf13 cf12 cf13 cf11) e44 cf11 0 (argsL := [(.ref b1)]) (rest := []) (Ls := #[.val (.long x0), .second, .val (.long x1), .second, .val (.long x2), .second, .val (.long x3), .second, iv x4, rv b1, .val (.long v10), .second, .val (.long v12), .second, rv b6, iv 0, iv (((x4.toUInt32 >>> ((2 : Int32) &&& 31).toUInt32).toInt32) &&& (3 : Int32))]) (by rw [hml]; rfl) (lenOf pd__Ljava_lang_Object__Z rfl) rfl rfl (Nat.le_of_eq rfl) (hb hby at_137) (by decide) (by decide) (by decide) (by decide)
              replace X45 := own_nil X45
              refine own_go T45 m 140 #[.val (.long x0), .second, .val (.long x1), .second, .val (.long x2), .second, .val (.long x3), .second, iv x4, rv b1, .val (.long v10), .second, .val (.long v12), .second, rv b6, iv 0, iv (((x4.toUInt32 >>> ((2 : Int32) &&& 31).toUInt32).toInt32) &&& (3 : Int32))] [(.int (own_eq x0 x1 x0 x1))] (st45) ?_
              rw [show (own_eq x0 x1 x0 x1) = (1 : Int32) from by simp [own_eq]]
              refine own_go T45 m 143 #[.val (.long x0), .second, .val (.long x1), .second, .val (.long x2), .second, .val (.long x3), .second, iv x4, rv b1, .val (.long v10), .second, .val (.long v12), .second, rv b6, iv 0, iv (((x4.toUInt32 >>> ((2 : Int32) &&& 31).toUInt32).toInt32) &&& (3 : Int32))] [] (fun t k => XS.ifNo X45.here hx rfl (hb hby at_140) rfl ((if0 _ _).trans (feq (by decide)).1) k) ?_
              refine own_go T45 m 144 #[.val (.long x0), .second, .val (.long x1), .second, .val (.long x2), .second, .val (.long x3), .second, iv x4, rv b1, .val (.long v10), .second, .val (.long v12), .second, rv b6, iv 0, iv (((x4.toUInt32 >>> ((2 : Int32) &&& 31).toUInt32).toInt32) &&& (3 : Int32))] [(.int 1)] (fun t k => XS.iconst X45.here hx rfl (hb hby at_143) k) ?_
              refine own_go T45 m 148 #[.val (.long x0), .second, .val (.long x1), .second, .val (.long x2), .second, .val (.long x3), .second, iv x4, rv b1, .val (.long v10), .second, .val (.long v12), .second, rv b6, iv 0, iv (((x4.toUInt32 >>> ((2 : Int32) &&& 31).toUInt32).toInt32) &&& (3 : Int32))] [(.int 1)] (fun t k => XS.goto X45.here hx rfl (pc0 := 144) (pc' := 148) rfl (hb hby at_144) (by decide) (by decide) k) ?_
              refine own_retZ X45 hx hlk hret (by decide) (hb hby at_148) (by decide) (by decide) ?_
              exact ⟨rfl, N10⟩
            · refine own_go T10 m 149 #[.val (.long x0), .second, .val (.long x1), .second, .val (.long x2), .second, .val (.long x3), .second, iv x4, rv b1, .val (.long v10), .second, .val (.long v12), .second, rv b6, iv 0, iv (((x4.toUInt32 >>> ((2 : Int32) &&& 31).toUInt32).toInt32) &&& (3 : Int32))] [] (fun t k => XS.icmpYes X10.here hx rfl (pc0 := 121) (pc' := 149) rfl (hb hby at_121) rfl (feq hc121_43).2 (by decide) (by decide) k) ?_
              refine own_go T10 m 151 #[.val (.long x0), .second, .val (.long x1), .second, .val (.long x2), .second, .val (.long x3), .second, iv x4, rv b1, .val (.long v10), .second, .val (.long v12), .second, rv b6, iv 0, iv (((x4.toUInt32 >>> ((2 : Int32) &&& 31).toUInt32).toInt32) &&& (3 : Int32))] [(.int (((x4.toUInt32 >>> ((2 : Int32) &&& 31).toUInt32).toInt32) &&& (3 : Int32)))] (fun t k => XS.iload X10.here hx rfl (hb hby at_149) rfl k) ?_
              refine own_go T10 m 152 #[.val (.long x0), .second, .val (.long x1), .second, .val (.long x2), .second, .val (.long x3), .second, iv x4, rv b1, .val (.long v10), .second, .val (.long v12), .second, rv b6, iv 0, iv (((x4.toUInt32 >>> ((2 : Int32) &&& 31).toUInt32).toInt32) &&& (3 : Int32))] [(.int 2), (.int (((x4.toUInt32 >>> ((2 : Int32) &&& 31).toUInt32).toInt32) &&& (3 : Int32)))] (fun t k => XS.iconst X10.here hx rfl (hb hby at_151) k) ?_
              by_cases hc152_46 : (((x4.toUInt32 >>> ((2 : Int32) &&& 31).toUInt32).toInt32) &&& (3 : Int32)) = (2 : Int32)
              · refine own_go T10 m 155 #[.val (.long x0), .second, .val (.long x1), .second, .val (.long x2), .second, .val (.long x3), .second, iv x4, rv b1, .val (.long v10), .second, .val (.long v12), .second, rv b6, iv 0, iv (((x4.toUInt32 >>> ((2 : Int32) &&& 31).toUInt32).toInt32) &&& (3 : Int32))] [] (fun t k => XS.icmpNo X10.here hx rfl (hb hby at_152) rfl (teq hc152_46).2 k) ?_
                refine own_go T10 m 157 #[.val (.long x0), .second, .val (.long x1), .second, .val (.long x2), .second, .val (.long x3), .second, iv x4, rv b1, .val (.long v10), .second, .val (.long v12), .second, rv b6, iv 0, iv (((x4.toUInt32 >>> ((2 : Int32) &&& 31).toUInt32).toInt32) &&& (3 : Int32))] [(.ref b1)] (fun t k => XS.aload X10.here hx rfl (hb hby at_155) rfl rfl k) ?_
                refine own_go T10 m 158 #[.val (.long x0), .second, .val (.long x1), .second, .val (.long x2), .second, .val (.long x3), .second, iv x4, rv b1, .val (.long v10), .second, .val (.long v12), .second, rv b6, iv 0, iv (((x4.toUInt32 >>> ((2 : Int32) &&& 31).toUInt32).toInt32) &&& (3 : Int32))] [(.long x0), (.ref b1)] (fun t k => XS.lloadN X10.here hx rfl (hb hby at_157) rfl k) ?_
                obtain ⟨_, T47, L47, X47, ⟨r47, rfl, Aq47, Kq47, Nq47⟩, st47⟩ := own_static X10 hx hZ (y := (⟨"java/lang/Long", "valueOf", "(J)Ljava/lang/Long;"⟩ : MethodName)) hown (own_w hw 47 rfl) (own_w hw 48 rfl) (own_w hw 49 rfl) (own_w hw 50 rfl) (by decide) (rm8 l Z a0 hw [] x0 aC cell T10.heap n0 Z_10 (own_cache_keep HC K_10)) rfl 1 (argsL := [(.long x0)]) (rest := [(.ref b1)]) (Ls := #[.val (.long x0), .second, .val (.long x1), .second, .val (.long x2), .second, .val (.long x3), .second, iv x4, rv b1, .val (.long v10), .second, .val (.long v12), .second, rv b6, iv 0, iv (((x4.toUInt32 >>> ((2 : Int32) &&& 31).toUInt32).toInt32) &&& (3 : Int32))]) (by rw [hml]; rfl) (lenOf pd__J_Ljava_lang_Long_ rfl) rfl rfl (Nat.le_of_eq rfl) (hb hby at_158) (by decide) (by decide) (by decide) (by decide)
                have N47 := Fr.app N10 Nq47
                have cf48 := cf11.keep Kq47
                have cf49 := cf12.keep Kq47 nin0
                have cf50 := cf13.keep Kq47 nin0
                have cf51 := Aq10.keep Kq47
                have cf52 := Fq10_0.keep Kq47 nin0
                have cf53 := Fq10_1.keep Kq47 nin0
                have Z_47 : n0 ≤ T47.heap.size := Nat.le_trans Z_10 Kq47.1
                have K_47 : Keep h0 T47.heap [] := K_10.trans Kq47 all0
                refine own_go T47 m 161 #[.val (.long x0), .second, .val (.long x1), .second, .val (.long x2), .second, .val (.long x3), .second, iv x4, rv b1, .val (.long v10), .second, .val (.long v12), .second, rv b6, iv 0, iv (((x4.toUInt32 >>> ((2 : Int32) &&& 31).toUInt32).toInt32) &&& (3 : Int32))] [(.ref r47), (.ref b1)] (st47) ?_
                obtain ⟨_, T54, L54, X54, ⟨rfl, e54, rfl⟩, st54⟩ := own_virtual X47 hx hZ (y := (⟨"com/example/semel/semel/log/TimestampedOffset", "equals", "(Ljava/lang/Object;)Z"⟩ : MethodName)) (z := (⟨"com/example/semel/semel/log/TimestampedOffset", "equals", "(Ljava/lang/Object;)Z"⟩ : MethodName)) hown (own_w hw 13 rfl) (own_w hw 14 rfl) (notFace_of_selects (args := #[]) (mvT hZ (own_w hw 16 rfl))) (own_w hw 16 rfl) (own_w hw 15 rfl) (own_w hw 2 rfl) (own_w hw 17 rfl) (by decide) (rmEc0 l Z a0 hw [] b1 r47 T47.heap Aq47) rfl cf48 0 (argsL := [(.ref r47)]) (rest := []) (Ls := #[.val (.long x0), .second, .val (.long x1), .second, .val (.long x2), .second, .val (.long x3), .second, iv x4, rv b1, .val (.long v10), .second, .val (.long v12), .second, rv b6, iv 0, iv (((x4.toUInt32 >>> ((2 : Int32) &&& 31).toUInt32).toInt32) &&& (3 : Int32))]) (by rw [hml]; rfl) (lenOf pd__Ljava_lang_Object__Z rfl) rfl rfl (Nat.le_of_eq rfl) (hb hby at_161) (by decide) (by decide) (by decide) (by decide)
                replace X54 := own_nil X54
                refine own_go T54 m 164 #[.val (.long x0), .second, .val (.long x1), .second, .val (.long x2), .second, .val (.long x3), .second, iv x4, rv b1, .val (.long v10), .second, .val (.long v12), .second, rv b6, iv 0, iv (((x4.toUInt32 >>> ((2 : Int32) &&& 31).toUInt32).toInt32) &&& (3 : Int32))] [(.int 0)] (st54) ?_
                refine own_go T54 m 167 #[.val (.long x0), .second, .val (.long x1), .second, .val (.long x2), .second, .val (.long x3), .second, iv x4, rv b1, .val (.long v10), .second, .val (.long v12), .second, rv b6, iv 0, iv (((x4.toUInt32 >>> ((2 : Int32) &&& 31).toUInt32).toInt32) &&& (3 : Int32))] [] (fun t k => XS.ifNo X54.here hx rfl (hb hby at_164) rfl ((if0 _ _).trans (teq (by decide)).2) k) ?_
                refine own_go T54 m 168 #[.val (.long x0), .second, .val (.long x1), .second, .val (.long x2), .second, .val (.long x3), .second, iv x4, rv b1, .val (.long v10), .second, .val (.long v12), .second, rv b6, iv 0, iv (((x4.toUInt32 >>> ((2 : Int32) &&& 31).toUInt32).toInt32) &&& (3 : Int32))] [(.int 1)] (fun t k => XS.iconst X54.here hx rfl (hb hby at_167) k) ?_
                refine own_go T54 m 172 #[.val (.long x0), .second, .val (.long x1), .second, .val (.long x2), .second, .val (.long x3), .second, iv x4, rv b1, .val (.long v10), .second, .val (.long v12), .second, rv b6, iv 0, iv (((x4.toUInt32 >>> ((2 : Int32) &&& 31).toUInt32).toInt32) &&& (3 : Int32))] [(.int 1)] (fun t k => XS.goto X54.here hx rfl (pc0 := 168) (pc' := 172) rfl (hb hby at_168) (by decide) (by decide) k) ?_
                refine own_retZ X54 hx hlk hret (by decide) (hb hby at_172) (by decide) (by decide) ?_
                exact ⟨rfl, N47⟩
              · refine own_go T10 m 173 #[.val (.long x0), .second, .val (.long x1), .second, .val (.long x2), .second, .val (.long x3), .second, iv x4, rv b1, .val (.long v10), .second, .val (.long v12), .second, rv b6, iv 0, iv (((x4.toUInt32 >>> ((2 : Int32) &&& 31).toUInt32).toInt32) &&& (3 : Int32))] [] (fun t k => XS.icmpYes X10.here hx rfl (pc0 := 152) (pc' := 173) rfl (hb hby at_152) rfl (feq hc152_46).2 (by decide) (by decide) k) ?_
                refine own_go T10 m 175 #[.val (.long x0), .second, .val (.long x1), .second, .val (.long x2), .second, .val (.long x3), .second, iv x4, rv b1, .val (.long v10), .second, .val (.long v12), .second, rv b6, iv 0, iv (((x4.toUInt32 >>> ((2 : Int32) &&& 31).toUInt32).toInt32) &&& (3 : Int32))] [(.ref b1)] (fun t k => XS.aload X10.here hx rfl (hb hby at_173) rfl rfl k) ?_
                refine own_go T10 m 177 #[.val (.long x0), .second, .val (.long x1), .second, .val (.long x2), .second, .val (.long x3), .second, iv x4, rv b1, .val (.long v10), .second, .val (.long v12), .second, rv b6, iv 0, iv (((x4.toUInt32 >>> ((2 : Int32) &&& 31).toUInt32).toInt32) &&& (3 : Int32))] [(.long x2), (.ref b1)] (fun t k => XS.lload X10.here hx rfl (hb hby at_175) rfl k) ?_
                refine own_go T10 m 180 #[.val (.long x0), .second, .val (.long x1), .second, .val (.long x2), .second, .val (.long x3), .second, iv x4, rv b1, .val (.long v10), .second, .val (.long v12), .second, rv b6, iv 0, iv (((x4.toUInt32 >>> ((2 : Int32) &&& 31).toUInt32).toInt32) &&& (3 : Int32))] [(.long 255), (.long x2), (.ref b1)] (X10.ldc2Long hx hown (mvT hZ (own_w hw 20 rfl)) (g := (mkF m 177 #[.val (.long x0), .second, .val (.long x1), .second, .val (.long x2), .second, .val (.long x3), .second, iv x4, rv b1, .val (.long v10), .second, .val (.long v12), .second, rv b6, iv 0, iv (((x4.toUInt32 >>> ((2 : Int32) &&& 31).toUInt32).toInt32) &&& (3 : Int32))] [(.long x2), (.ref b1)])) rfl (hb hby at_177)) ?_
                refine own_go T10 m 181 #[.val (.long x0), .second, .val (.long x1), .second, .val (.long x2), .second, .val (.long x3), .second, iv x4, rv b1, .val (.long v10), .second, .val (.long v12), .second, rv b6, iv 0, iv (((x4.toUInt32 >>> ((2 : Int32) &&& 31).toUInt32).toInt32) &&& (3 : Int32))] [(.long (x2 &&& (255 : Int64))), (.ref b1)] (fun t k => XS.land X10.here hx rfl (hb hby at_180) rfl k) ?_
                refine own_go T10 m 182 #[.val (.long x0), .second, .val (.long x1), .second, .val (.long x2), .second, .val (.long x3), .second, iv x4, rv b1, .val (.long v10), .second, .val (.long v12), .second, rv b6, iv 0, iv (((x4.toUInt32 >>> ((2 : Int32) &&& 31).toUInt32).toInt32) &&& (3 : Int32))] [(.int (x2 &&& (255 : Int64)).toInt32), (.ref b1)] (fun t k => XS.l2i X10.here hx rfl (hb hby at_181) rfl k) ?_
                refine own_go T10 m 183 #[.val (.long x0), .second, .val (.long x1), .second, .val (.long x2), .second, .val (.long x3), .second, iv x4, rv b1, .val (.long v10), .second, .val (.long v12), .second, rv b6, iv 0, iv (((x4.toUInt32 >>> ((2 : Int32) &&& 31).toUInt32).toInt32) &&& (3 : Int32))] [(.int (x2 &&& (255 : Int64)).toInt32.toUInt32.toUInt16.toUInt32.toInt32), (.ref b1)] (fun t k => XS.i2c X10.here hx rfl (hb hby at_182) rfl k) ?_
                obtain ⟨_, T55, L55, X55, ⟨r55, rfl, Aq55, Kq55, Nq55⟩, st55⟩ := own_static X10 hx hZ (y := (⟨"java/lang/String", "valueOf", "(C)Ljava/lang/String;"⟩ : MethodName)) hown (own_w hw 21 rfl) (own_w hw 22 rfl) (own_w hw 23 rfl) (own_w hw 24 rfl) (by decide) (rm4 l Z a0 hw [] (x2 &&& (255 : Int64)).toInt32.toUInt32.toUInt16.toUInt32.toInt32 cs T10.heap n0 Z_10 (own_sta_keep SCS K_10) hcs (own_ch x2)) rfl 1 (argsL := [(.int (x2 &&& (255 : Int64)).toInt32.toUInt32.toUInt16.toUInt32.toInt32)]) (rest := [(.ref b1)]) (Ls := #[.val (.long x0), .second, .val (.long x1), .second, .val (.long x2), .second, .val (.long x3), .second, iv x4, rv b1, .val (.long v10), .second, .val (.long v12), .second, rv b6, iv 0, iv (((x4.toUInt32 >>> ((2 : Int32) &&& 31).toUInt32).toInt32) &&& (3 : Int32))]) (by rw [hml]; rfl) (lenOf pd__C_Ljava_lang_String_ rfl) rfl rfl (Nat.le_of_eq rfl) (hb hby at_183) (by decide) (by decide) (by decide) (by decide)
                have N55 := Fr.app N10 Nq55
                have cf56 := cf11.keep Kq55
                have cf57 := cf12.keep Kq55 nin0
                have cf58 := cf13.keep Kq55 nin0
                have cf59 := Aq10.keep Kq55
                have cf60 := Fq10_0.keep Kq55 nin0
                have cf61 := Fq10_1.keep Kq55 nin0
                have Z_55 : n0 ≤ T55.heap.size := Nat.le_trans Z_10 Kq55.1
                have K_55 : Keep h0 T55.heap [] := K_10.trans Kq55 all0
                refine own_go T55 m 186 #[.val (.long x0), .second, .val (.long x1), .second, .val (.long x2), .second, .val (.long x3), .second, iv x4, rv b1, .val (.long v10), .second, .val (.long v12), .second, rv b6, iv 0, iv (((x4.toUInt32 >>> ((2 : Int32) &&& 31).toUInt32).toInt32) &&& (3 : Int32))] [(.ref r55), (.ref b1)] (st55) ?_
                obtain ⟨_, T62, L62, X62, ⟨rfl, e62, rfl⟩, st62⟩ := own_virtual X55 hx hZ (y := (⟨"com/example/semel/semel/log/TimestampedOffset", "equals", "(Ljava/lang/Object;)Z"⟩ : MethodName)) (z := (⟨"com/example/semel/semel/log/TimestampedOffset", "equals", "(Ljava/lang/Object;)Z"⟩ : MethodName)) hown (own_w hw 13 rfl) (own_w hw 14 rfl) (notFace_of_selects (args := #[]) (mvT hZ (own_w hw 16 rfl))) (own_w hw 16 rfl) (own_w hw 15 rfl) (own_w hw 2 rfl) (own_w hw 17 rfl) (by decide) (rmEc1 l Z a0 hw [] b1 r55 T55.heap Aq55) rfl cf56 0 (argsL := [(.ref r55)]) (rest := []) (Ls := #[.val (.long x0), .second, .val (.long x1), .second, .val (.long x2), .second, .val (.long x3), .second, iv x4, rv b1, .val (.long v10), .second, .val (.long v12), .second, rv b6, iv 0, iv (((x4.toUInt32 >>> ((2 : Int32) &&& 31).toUInt32).toInt32) &&& (3 : Int32))]) (by rw [hml]; rfl) (lenOf pd__Ljava_lang_Object__Z rfl) rfl rfl (Nat.le_of_eq rfl) (hb hby at_186) (by decide) (by decide) (by decide) (by decide)
                replace X62 := own_nil X62
                refine own_go T62 m 189 #[.val (.long x0), .second, .val (.long x1), .second, .val (.long x2), .second, .val (.long x3), .second, iv x4, rv b1, .val (.long v10), .second, .val (.long v12), .second, rv b6, iv 0, iv (((x4.toUInt32 >>> ((2 : Int32) &&& 31).toUInt32).toInt32) &&& (3 : Int32))] [(.int 0)] (st62) ?_
                refine own_go T62 m 192 #[.val (.long x0), .second, .val (.long x1), .second, .val (.long x2), .second, .val (.long x3), .second, iv x4, rv b1, .val (.long v10), .second, .val (.long v12), .second, rv b6, iv 0, iv (((x4.toUInt32 >>> ((2 : Int32) &&& 31).toUInt32).toInt32) &&& (3 : Int32))] [] (fun t k => XS.ifNo X62.here hx rfl (hb hby at_189) rfl ((if0 _ _).trans (teq (by decide)).2) k) ?_
                refine own_go T62 m 193 #[.val (.long x0), .second, .val (.long x1), .second, .val (.long x2), .second, .val (.long x3), .second, iv x4, rv b1, .val (.long v10), .second, .val (.long v12), .second, rv b6, iv 0, iv (((x4.toUInt32 >>> ((2 : Int32) &&& 31).toUInt32).toInt32) &&& (3 : Int32))] [(.int 1)] (fun t k => XS.iconst X62.here hx rfl (hb hby at_192) k) ?_
                refine own_go T62 m 197 #[.val (.long x0), .second, .val (.long x1), .second, .val (.long x2), .second, .val (.long x3), .second, iv x4, rv b1, .val (.long v10), .second, .val (.long v12), .second, rv b6, iv 0, iv (((x4.toUInt32 >>> ((2 : Int32) &&& 31).toUInt32).toInt32) &&& (3 : Int32))] [(.int 1)] (fun t k => XS.goto X62.here hx rfl (pc0 := 193) (pc' := 197) rfl (hb hby at_193) (by decide) (by decide) k) ?_
                refine own_retZ X62 hx hlk hret (by decide) (hb hby at_197) (by decide) (by decide) ?_
                exact ⟨rfl, N55⟩
      · refine own_go T10 m 72 #[.val (.long x0), .second, .val (.long x1), .second, .val (.long x2), .second, .val (.long x3), .second, iv x4, rv b1, .val (.long v10), .second, .val (.long v12), .second, rv b6, .unset, .unset] [] (fun t k => XS.ifYes X10.here hx rfl (pc0 := 58) (pc' := 72) rfl (hb hby at_58) rfl ((if0 _ _).trans (feq (mt (lw_eq x0 v10).mp hc58_15)).2) (by decide) (by decide) k) ?_
        refine own_go T10 m 73 #[.val (.long x0), .second, .val (.long x1), .second, .val (.long x2), .second, .val (.long x3), .second, iv x4, rv b1, .val (.long v10), .second, .val (.long v12), .second, rv b6, .unset, .unset] [(.int 0)] (fun t k => XS.iconst X10.here hx rfl (hb hby at_72) k) ?_
        refine own_go T10 m 75 #[.val (.long x0), .second, .val (.long x1), .second, .val (.long x2), .second, .val (.long x3), .second, iv x4, rv b1, .val (.long v10), .second, .val (.long v12), .second, rv b6, iv 0, .unset] [] (fun t k => XS.istore X10.here hx rfl (hb hby at_73) rfl rfl k) ?_
        refine own_go T10 m 77 #[.val (.long x0), .second, .val (.long x1), .second, .val (.long x2), .second, .val (.long x3), .second, iv x4, rv b1, .val (.long v10), .second, .val (.long v12), .second, rv b6, iv 0, .unset] [(.int x4)] (fun t k => XS.iload X10.here hx rfl (hb hby at_75) rfl k) ?_
        refine own_go T10 m 78 #[.val (.long x0), .second, .val (.long x1), .second, .val (.long x2), .second, .val (.long x3), .second, iv x4, rv b1, .val (.long v10), .second, .val (.long v12), .second, rv b6, iv 0, .unset] [(.int 2), (.int x4)] (fun t k => XS.iconst X10.here hx rfl (hb hby at_77) k) ?_
        refine own_go T10 m 79 #[.val (.long x0), .second, .val (.long x1), .second, .val (.long x2), .second, .val (.long x3), .second, iv x4, rv b1, .val (.long v10), .second, .val (.long v12), .second, rv b6, iv 0, .unset] [(.int ((x4.toUInt32 >>> ((2 : Int32) &&& 31).toUInt32).toInt32))] (fun t k => XS.iushr X10.here hx rfl (hb hby at_78) rfl k) ?_
        refine own_go T10 m 80 #[.val (.long x0), .second, .val (.long x1), .second, .val (.long x2), .second, .val (.long x3), .second, iv x4, rv b1, .val (.long v10), .second, .val (.long v12), .second, rv b6, iv 0, .unset] [(.int 3), (.int ((x4.toUInt32 >>> ((2 : Int32) &&& 31).toUInt32).toInt32))] (fun t k => XS.iconst X10.here hx rfl (hb hby at_79) k) ?_
        refine own_go T10 m 81 #[.val (.long x0), .second, .val (.long x1), .second, .val (.long x2), .second, .val (.long x3), .second, iv x4, rv b1, .val (.long v10), .second, .val (.long v12), .second, rv b6, iv 0, .unset] [(.int (((x4.toUInt32 >>> ((2 : Int32) &&& 31).toUInt32).toInt32) &&& (3 : Int32)))] (fun t k => XS.iand X10.here hx rfl (hb hby at_80) rfl k) ?_
        refine own_go T10 m 83 #[.val (.long x0), .second, .val (.long x1), .second, .val (.long x2), .second, .val (.long x3), .second, iv x4, rv b1, .val (.long v10), .second, .val (.long v12), .second, rv b6, iv 0, iv (((x4.toUInt32 >>> ((2 : Int32) &&& 31).toUInt32).toInt32) &&& (3 : Int32))] [] (fun t k => XS.istore X10.here hx rfl (hb hby at_81) rfl rfl k) ?_
        refine own_go T10 m 85 #[.val (.long x0), .second, .val (.long x1), .second, .val (.long x2), .second, .val (.long x3), .second, iv x4, rv b1, .val (.long v10), .second, .val (.long v12), .second, rv b6, iv 0, iv (((x4.toUInt32 >>> ((2 : Int32) &&& 31).toUInt32).toInt32) &&& (3 : Int32))] [(.int (((x4.toUInt32 >>> ((2 : Int32) &&& 31).toUInt32).toInt32) &&& (3 : Int32)))] (fun t k => XS.iload X10.here hx rfl (hb hby at_83) rfl k) ?_
        by_cases hc85_63 : (((x4.toUInt32 >>> ((2 : Int32) &&& 31).toUInt32).toInt32) &&& (3 : Int32)) = (0 : Int32)
        · refine own_go T10 m 88 #[.val (.long x0), .second, .val (.long x1), .second, .val (.long x2), .second, .val (.long x3), .second, iv x4, rv b1, .val (.long v10), .second, .val (.long v12), .second, rv b6, iv 0, iv (((x4.toUInt32 >>> ((2 : Int32) &&& 31).toUInt32).toInt32) &&& (3 : Int32))] [] (fun t k => XS.ifNo X10.here hx rfl (hb hby at_85) rfl ((if0 _ _).trans (teq hc85_63).2) k) ?_
          refine own_go T10 m 90 #[.val (.long x0), .second, .val (.long x1), .second, .val (.long x2), .second, .val (.long x3), .second, iv x4, rv b1, .val (.long v10), .second, .val (.long v12), .second, rv b6, iv 0, iv (((x4.toUInt32 >>> ((2 : Int32) &&& 31).toUInt32).toInt32) &&& (3 : Int32))] [(.ref b1)] (fun t k => XS.aload X10.here hx rfl (hb hby at_88) rfl rfl k) ?_
          refine own_go T10 m 92 #[.val (.long x0), .second, .val (.long x1), .second, .val (.long x2), .second, .val (.long x3), .second, iv x4, rv b1, .val (.long v10), .second, .val (.long v12), .second, rv b6, iv 0, iv (((x4.toUInt32 >>> ((2 : Int32) &&& 31).toUInt32).toInt32) &&& (3 : Int32))] [(.ref b6), (.ref b1)] (fun t k => XS.aload X10.here hx rfl (hb hby at_90) rfl rfl k) ?_
          obtain ⟨_, T64, L64, X64, ⟨rfl, e64, rfl⟩, st64⟩ := own_virtual X10 hx hZ (y := (⟨"com/example/semel/semel/log/TimestampedOffset", "equals", "(Ljava/lang/Object;)Z"⟩ : MethodName)) (z := (⟨"com/example/semel/semel/log/TimestampedOffset", "equals", "(Ljava/lang/Object;)Z"⟩ : MethodName)) hown (own_w hw 13 rfl) (own_w hw 14 rfl) (notFace_of_selects (args := #[]) (mvT hZ (own_w hw 16 rfl))) (own_w hw 16 rfl) (own_w hw 15 rfl) (own_w hw 2 rfl) (own_w hw 17 rfl) (by decide) (rmEb l Z a0 hw [] b1 b6 x0 x1 v10 v12 T10.heap cf12 cf13 Fq10_0 Fq10_1 Aq10) rfl cf11 0 (argsL := [(.ref b6)]) (rest := []) (Ls := #[.val (.long x0), .second, .val (.long x1), .second, .val (.long x2), .second, .val (.long x3), .second, iv x4, rv b1, .val (.long v10), .second, .val (.long v12), .second, rv b6, iv 0, iv (((x4.toUInt32 >>> ((2 : Int32) &&& 31).toUInt32).toInt32) &&& (3 : Int32))]) (by rw [hml]; rfl) (lenOf pd__Ljava_lang_Object__Z rfl) rfl rfl (Nat.le_of_eq rfl) (hb hby at_92) (by decide) (by decide) (by decide) (by decide)
          replace X64 := own_nil X64
          refine own_go T64 m 95 #[.val (.long x0), .second, .val (.long x1), .second, .val (.long x2), .second, .val (.long x3), .second, iv x4, rv b1, .val (.long v10), .second, .val (.long v12), .second, rv b6, iv 0, iv (((x4.toUInt32 >>> ((2 : Int32) &&& 31).toUInt32).toInt32) &&& (3 : Int32))] [(.int (own_eq x0 x1 v10 v12))] (st64) ?_
          rw [show (own_eq x0 x1 v10 v12) = (0 : Int32) from by simp [own_eq, hc58_15, Ne.symm hc58_15]]
          refine own_go T64 m 97 #[.val (.long x0), .second, .val (.long x1), .second, .val (.long x2), .second, .val (.long x3), .second, iv x4, rv b1, .val (.long v10), .second, .val (.long v12), .second, rv b6, iv 0, iv (((x4.toUInt32 >>> ((2 : Int32) &&& 31).toUInt32).toInt32) &&& (3 : Int32))] [(.int 0), (.int 0)] (fun t k => XS.iload X64.here hx rfl (hb hby at_95) rfl k) ?_
          refine own_go T64 m 100 #[.val (.long x0), .second, .val (.long x1), .second, .val (.long x2), .second, .val (.long x3), .second, iv x4, rv b1, .val (.long v10), .second, .val (.long v12), .second, rv b6, iv 0, iv (((x4.toUInt32 >>> ((2 : Int32) &&& 31).toUInt32).toInt32) &&& (3 : Int32))] [] (fun t k => XS.icmpNo X64.here hx rfl (hb hby at_97) rfl (teq (by decide)).2 k) ?_
          refine own_go T64 m 102 #[.val (.long x0), .second, .val (.long x1), .second, .val (.long x2), .second, .val (.long x3), .second, iv x4, rv b1, .val (.long v10), .second, .val (.long v12), .second, rv b6, iv 0, iv (((x4.toUInt32 >>> ((2 : Int32) &&& 31).toUInt32).toInt32) &&& (3 : Int32))] [(.ref b6)] (fun t k => XS.aload X64.here hx rfl (hb hby at_100) rfl rfl k) ?_
          refine own_go T64 m 104 #[.val (.long x0), .second, .val (.long x1), .second, .val (.long x2), .second, .val (.long x3), .second, iv x4, rv b1, .val (.long v10), .second, .val (.long v12), .second, rv b6, iv 0, iv (((x4.toUInt32 >>> ((2 : Int32) &&& 31).toUInt32).toInt32) &&& (3 : Int32))] [(.ref b1), (.ref b6)] (fun t k => XS.aload X64.here hx rfl (hb hby at_102) rfl rfl k) ?_
          obtain ⟨_, T65, L65, X65, ⟨rfl, e65, rfl⟩, st65⟩ := own_virtual X64 hx hZ (y := (⟨"com/example/semel/semel/log/TimestampedOffset", "equals", "(Ljava/lang/Object;)Z"⟩ : MethodName)) (z := (⟨"com/example/semel/semel/log/TimestampedOffset", "equals", "(Ljava/lang/Object;)Z"⟩ : MethodName)) hown (own_w hw 13 rfl) (own_w hw 14 rfl) (notFace_of_selects (args := #[]) (mvT hZ (own_w hw 16 rfl))) (own_w hw 16 rfl) (own_w hw 15 rfl) (own_w hw 2 rfl) (own_w hw 17 rfl) (by decide) (rmEb l Z a0 hw [] b6 b1 v10 v12 x0 x1 T10.heap Fq10_0 Fq10_1 cf12 cf13 cf11) e64 Aq10 0 (argsL := [(.ref b1)]) (rest := []) (Ls := #[.val (.long x0), .second, .val (.long x1), .second, .val (.long x2), .second, .val (.long x3), .second, iv x4, rv b1, .val (.long v10), .second, .val (.long v12), .second, rv b6, iv 0, iv (((x4.toUInt32 >>> ((2 : Int32) &&& 31).toUInt32).toInt32) &&& (3 : Int32))]) (by rw [hml]; rfl) (lenOf pd__Ljava_lang_Object__Z rfl) rfl rfl (Nat.le_of_eq rfl) (hb hby at_104) (by decide) (by decide) (by decide) (by decide)
          replace X65 := own_nil X65
          refine own_go T65 m 107 #[.val (.long x0), .second, .val (.long x1), .second, .val (.long x2), .second, .val (.long x3), .second, iv x4, rv b1, .val (.long v10), .second, .val (.long v12), .second, rv b6, iv 0, iv (((x4.toUInt32 >>> ((2 : Int32) &&& 31).toUInt32).toInt32) &&& (3 : Int32))] [(.int (own_eq v10 v12 x0 x1))] (st65) ?_
          rw [show (own_eq v10 v12 x0 x1) = (0 : Int32) from by simp [own_eq, hc58_15, Ne.symm hc58_15]]
          refine own_go T65 m 109 #[.val (.long x0), .second, .val (.long x1), .second, .val (.long x2), .second, .val (.long x3), .second, iv x4, rv b1, .val (.long v10), .second, .val (.long v12), .second, rv b6, iv 0, iv (((x4.toUInt32 >>> ((2 : Int32) &&& 31).toUInt32).toInt32) &&& (3 : Int32))] [(.int 0), (.int 0)] (fun t k => XS.iload X65.here hx rfl (hb hby at_107) rfl k) ?_
          refine own_go T65 m 112 #[.val (.long x0), .second, .val (.long x1), .second, .val (.long x2), .second, .val (.long x3), .second, iv x4, rv b1, .val (.long v10), .second, .val (.long v12), .second, rv b6, iv 0, iv (((x4.toUInt32 >>> ((2 : Int32) &&& 31).toUInt32).toInt32) &&& (3 : Int32))] [] (fun t k => XS.icmpNo X65.here hx rfl (hb hby at_109) rfl (teq (by decide)).2 k) ?_
          refine own_go T65 m 113 #[.val (.long x0), .second, .val (.long x1), .second, .val (.long x2), .second, .val (.long x3), .second, iv x4, rv b1, .val (.long v10), .second, .val (.long v12), .second, rv b6, iv 0, iv (((x4.toUInt32 >>> ((2 : Int32) &&& 31).toUInt32).toInt32) &&& (3 : Int32))] [(.int 1)] (fun t k => XS.iconst X65.here hx rfl (hb hby at_112) k) ?_
          refine own_go T65 m 117 #[.val (.long x0), .second, .val (.long x1), .second, .val (.long x2), .second, .val (.long x3), .second, iv x4, rv b1, .val (.long v10), .second, .val (.long v12), .second, rv b6, iv 0, iv (((x4.toUInt32 >>> ((2 : Int32) &&& 31).toUInt32).toInt32) &&& (3 : Int32))] [(.int 1)] (fun t k => XS.goto X65.here hx rfl (pc0 := 113) (pc' := 117) rfl (hb hby at_113) (by decide) (by decide) k) ?_
          refine own_retZ X65 hx hlk hret (by decide) (hb hby at_117) (by decide) (by decide) ?_
          exact ⟨rfl, N10⟩
        · refine own_go T10 m 118 #[.val (.long x0), .second, .val (.long x1), .second, .val (.long x2), .second, .val (.long x3), .second, iv x4, rv b1, .val (.long v10), .second, .val (.long v12), .second, rv b6, iv 0, iv (((x4.toUInt32 >>> ((2 : Int32) &&& 31).toUInt32).toInt32) &&& (3 : Int32))] [] (fun t k => XS.ifYes X10.here hx rfl (pc0 := 85) (pc' := 118) rfl (hb hby at_85) rfl ((if0 _ _).trans (feq hc85_63).2) (by decide) (by decide) k) ?_
          refine own_go T10 m 120 #[.val (.long x0), .second, .val (.long x1), .second, .val (.long x2), .second, .val (.long x3), .second, iv x4, rv b1, .val (.long v10), .second, .val (.long v12), .second, rv b6, iv 0, iv (((x4.toUInt32 >>> ((2 : Int32) &&& 31).toUInt32).toInt32) &&& (3 : Int32))] [(.int (((x4.toUInt32 >>> ((2 : Int32) &&& 31).toUInt32).toInt32) &&& (3 : Int32)))] (fun t k => XS.iload X10.here hx rfl (hb hby at_118) rfl k) ?_
          refine own_go T10 m 121 #[.val (.long x0), .second, .val (.long x1), .second, .val (.long x2), .second, .val (.long x3), .second, iv x4, rv b1, .val (.long v10), .second, .val (.long v12), .second, rv b6, iv 0, iv (((x4.toUInt32 >>> ((2 : Int32) &&& 31).toUInt32).toInt32) &&& (3 : Int32))] [(.int 1), (.int (((x4.toUInt32 >>> ((2 : Int32) &&& 31).toUInt32).toInt32) &&& (3 : Int32)))] (fun t k => XS.iconst X10.here hx rfl (hb hby at_120) k) ?_
          by_cases hc121_66 : (((x4.toUInt32 >>> ((2 : Int32) &&& 31).toUInt32).toInt32) &&& (3 : Int32)) = (1 : Int32)
          · refine own_go T10 m 124 #[.val (.long x0), .second, .val (.long x1), .second, .val (.long x2), .second, .val (.long x3), .second, iv x4, rv b1, .val (.long v10), .second, .val (.long v12), .second, rv b6, iv 0, iv (((x4.toUInt32 >>> ((2 : Int32) &&& 31).toUInt32).toInt32) &&& (3 : Int32))] [] (fun t k => XS.icmpNo X10.here hx rfl (hb hby at_121) rfl (teq hc121_66).2 k) ?_
            refine own_go T10 m 126 #[.val (.long x0), .second, .val (.long x1), .second, .val (.long x2), .second, .val (.long x3), .second, iv x4, rv b1, .val (.long v10), .second, .val (.long v12), .second, rv b6, iv 0, iv (((x4.toUInt32 >>> ((2 : Int32) &&& 31).toUInt32).toInt32) &&& (3 : Int32))] [(.ref b1)] (fun t k => XS.aload X10.here hx rfl (hb hby at_124) rfl rfl k) ?_
            refine own_go T10 m 127 #[.val (.long x0), .second, .val (.long x1), .second, .val (.long x2), .second, .val (.long x3), .second, iv x4, rv b1, .val (.long v10), .second, .val (.long v12), .second, rv b6, iv 0, iv (((x4.toUInt32 >>> ((2 : Int32) &&& 31).toUInt32).toInt32) &&& (3 : Int32))] [.null, (.ref b1)] (fun t k => XS.aconstNull X10.here hx rfl (hb hby at_126) k) ?_
            obtain ⟨_, T67, L67, X67, ⟨rfl, e67, rfl⟩, st67⟩ := own_virtual X10 hx hZ (y := (⟨"com/example/semel/semel/log/TimestampedOffset", "equals", "(Ljava/lang/Object;)Z"⟩ : MethodName)) (z := (⟨"com/example/semel/semel/log/TimestampedOffset", "equals", "(Ljava/lang/Object;)Z"⟩ : MethodName)) hown (own_w hw 13 rfl) (own_w hw 14 rfl) (notFace_of_selects (args := #[]) (mvT hZ (own_w hw 16 rfl))) (own_w hw 16 rfl) (own_w hw 15 rfl) (own_w hw 2 rfl) (own_w hw 17 rfl) (by decide) (rmEn l Z a0 hw [] b1 T10.heap) rfl cf11 0 (argsL := [.null]) (rest := []) (Ls := #[.val (.long x0), .second, .val (.long x1), .second, .val (.long x2), .second, .val (.long x3), .second, iv x4, rv b1, .val (.long v10), .second, .val (.long v12), .second, rv b6, iv 0, iv (((x4.toUInt32 >>> ((2 : Int32) &&& 31).toUInt32).toInt32) &&& (3 : Int32))]) (by rw [hml]; rfl) (lenOf pd__Ljava_lang_Object__Z rfl) rfl rfl (Nat.le_of_eq rfl) (hb hby at_127) (by decide) (by decide) (by decide) (by decide)
            replace X67 := own_nil X67
            refine own_go T67 m 130 #[.val (.long x0), .second, .val (.long x1), .second, .val (.long x2), .second, .val (.long x3), .second, iv x4, rv b1, .val (.long v10), .second, .val (.long v12), .second, rv b6, iv 0, iv (((x4.toUInt32 >>> ((2 : Int32) &&& 31).toUInt32).toInt32) &&& (3 : Int32))] [(.int 0)] (st67) ?_
            refine own_go T67 m 133 #[.val (.long x0), .second, .val (.long x1), .second, .val (.long x2), .second, .val (.long x3), .second, iv x4, rv b1, .val (.long v10), .second, .val (.long v12), .second, rv b6, iv 0, iv (((x4.toUInt32 >>> ((2 : Int32) &&& 31).toUInt32).toInt32) &&& (3 : Int32))] [] (fun t k => XS.ifNo X67.here hx rfl (hb hby at_130) rfl ((if0 _ _).trans (teq (by decide)).2) k) ?_
            refine own_go T67 m 135 #[.val (.long x0), .second, .val (.long x1), .second, .val (.long x2), .second, .val (.long x3), .second, iv x4, rv b1, .val (.long v10), .second, .val (.long v12), .second, rv b6, iv 0, iv (((x4.toUInt32 >>> ((2 : Int32) &&& 31).toUInt32).toInt32) &&& (3 : Int32))] [(.ref b1)] (fun t k => XS.aload X67.here hx rfl (hb hby at_133) rfl rfl k) ?_
            refine own_go T67 m 137 #[.val (.long x0), .second, .val (.long x1), .second, .val (.long x2), .second, .val (.long x3), .second, iv x4, rv b1, .val (.long v10), .second, .val (.long v12), .second, rv b6, iv 0, iv (((x4.toUInt32 >>> ((2 : Int32) &&& 31).toUInt32).toInt32) &&& (3 : Int32))] [(.ref b1), (.ref b1)] (fun t k => XS.aload X67.here hx rfl (hb hby at_135) rfl rfl k) ?_
            obtain ⟨_, T68, L68, X68, ⟨rfl, e68, rfl⟩, st68⟩ := own_virtual X67 hx hZ (y := (⟨"com/example/semel/semel/log/TimestampedOffset", "equals", "(Ljava/lang/Object;)Z"⟩ : MethodName)) (z := (⟨"com/example/semel/semel/log/TimestampedOffset", "equals", "(Ljava/lang/Object;)Z"⟩ : MethodName)) hown (own_w hw 13 rfl) (own_w hw 14 rfl) (notFace_of_selects (args := #[]) (mvT hZ (own_w hw 16 rfl))) (own_w hw 16 rfl) (own_w hw 15 rfl) (own_w hw 2 rfl) (own_w hw 17 rfl) (by decide) (rmEb l Z a0 hw [] b1 b1 x0 x1 x0 x1 T10.heap cf12 cf13 cf12 cf13 cf11) e67 cf11 0 (argsL := [(.ref b1)]) (rest := []) (Ls := #[.val (.long x0), .second, .val (.long x1), .second, .val (.long x2), .second, .val (.long x3), .second, iv x4, rv b1, .val (.long v10), .second, .val (.long v12), .second, rv b6, iv 0, iv (((x4.toUInt32 >>> ((2 : Int32) &&& 31).toUInt32).toInt32) &&& (3 : Int32))]) (by rw [hml]; rfl) (lenOf pd__Ljava_lang_Object__Z rfl) rfl rfl (Nat.le_of_eq rfl) (hb hby at_137) (by decide) (by decide) (by decide) (by decide)
            replace X68 := own_nil X68
            refine own_go T68 m 140 #[.val (.long x0), .second, .val (.long x1), .second, .val (.long x2), .second, .val (.long x3), .second, iv x4, rv b1, .val (.long v10), .second, .val (.long v12), .second, rv b6, iv 0, iv (((x4.toUInt32 >>> ((2 : Int32) &&& 31).toUInt32).toInt32) &&& (3 : Int32))] [(.int (own_eq x0 x1 x0 x1))] (st68) ?_
            rw [show (own_eq x0 x1 x0 x1) = (1 : Int32) from by simp [own_eq]]
            refine own_go T68 m 143 #[.val (.long x0), .second, .val (.long x1), .second, .val (.long x2), .second, .val (.long x3), .second, iv x4, rv b1, .val (.long v10), .second, .val (.long v12), .second, rv b6, iv 0, iv (((x4.toUInt32 >>> ((2 : Int32) &&& 31).toUInt32).toInt32) &&& (3 : Int32))] [] (fun t k => XS.ifNo X68.here hx rfl (hb hby at_140) rfl ((if0 _ _).trans (feq (by decide)).1) k) ?_
            refine own_go T68 m 144 #[.val (.long x0), .second, .val (.long x1), .second, .val (.long x2), .second, .val (.long x3), .second, iv x4, rv b1, .val (.long v10), .second, .val (.long v12), .second, rv b6, iv 0, iv (((x4.toUInt32 >>> ((2 : Int32) &&& 31).toUInt32).toInt32) &&& (3 : Int32))] [(.int 1)] (fun t k => XS.iconst X68.here hx rfl (hb hby at_143) k) ?_
            refine own_go T68 m 148 #[.val (.long x0), .second, .val (.long x1), .second, .val (.long x2), .second, .val (.long x3), .second, iv x4, rv b1, .val (.long v10), .second, .val (.long v12), .second, rv b6, iv 0, iv (((x4.toUInt32 >>> ((2 : Int32) &&& 31).toUInt32).toInt32) &&& (3 : Int32))] [(.int 1)] (fun t k => XS.goto X68.here hx rfl (pc0 := 144) (pc' := 148) rfl (hb hby at_144) (by decide) (by decide) k) ?_
            refine own_retZ X68 hx hlk hret (by decide) (hb hby at_148) (by decide) (by decide) ?_
            exact ⟨rfl, N10⟩
          · refine own_go T10 m 149 #[.val (.long x0), .second, .val (.long x1), .second, .val (.long x2), .second, .val (.long x3), .second, iv x4, rv b1, .val (.long v10), .second, .val (.long v12), .second, rv b6, iv 0, iv (((x4.toUInt32 >>> ((2 : Int32) &&& 31).toUInt32).toInt32) &&& (3 : Int32))] [] (fun t k => XS.icmpYes X10.here hx rfl (pc0 := 121) (pc' := 149) rfl (hb hby at_121) rfl (feq hc121_66).2 (by decide) (by decide) k) ?_
            refine own_go T10 m 151 #[.val (.long x0), .second, .val (.long x1), .second, .val (.long x2), .second, .val (.long x3), .second, iv x4, rv b1, .val (.long v10), .second, .val (.long v12), .second, rv b6, iv 0, iv (((x4.toUInt32 >>> ((2 : Int32) &&& 31).toUInt32).toInt32) &&& (3 : Int32))] [(.int (((x4.toUInt32 >>> ((2 : Int32) &&& 31).toUInt32).toInt32) &&& (3 : Int32)))] (fun t k => XS.iload X10.here hx rfl (hb hby at_149) rfl k) ?_
            refine own_go T10 m 152 #[.val (.long x0), .second, .val (.long x1), .second, .val (.long x2), .second, .val (.long x3), .second, iv x4, rv b1, .val (.long v10), .second, .val (.long v12), .second, rv b6, iv 0, iv (((x4.toUInt32 >>> ((2 : Int32) &&& 31).toUInt32).toInt32) &&& (3 : Int32))] [(.int 2), (.int (((x4.toUInt32 >>> ((2 : Int32) &&& 31).toUInt32).toInt32) &&& (3 : Int32)))] (fun t k => XS.iconst X10.here hx rfl (hb hby at_151) k) ?_
            by_cases hc152_69 : (((x4.toUInt32 >>> ((2 : Int32) &&& 31).toUInt32).toInt32) &&& (3 : Int32)) = (2 : Int32)
            · refine own_go T10 m 155 #[.val (.long x0), .second, .val (.long x1), .second, .val (.long x2), .second, .val (.long x3), .second, iv x4, rv b1, .val (.long v10), .second, .val (.long v12), .second, rv b6, iv 0, iv (((x4.toUInt32 >>> ((2 : Int32) &&& 31).toUInt32).toInt32) &&& (3 : Int32))] [] (fun t k => XS.icmpNo X10.here hx rfl (hb hby at_152) rfl (teq hc152_69).2 k) ?_
              refine own_go T10 m 157 #[.val (.long x0), .second, .val (.long x1), .second, .val (.long x2), .second, .val (.long x3), .second, iv x4, rv b1, .val (.long v10), .second, .val (.long v12), .second, rv b6, iv 0, iv (((x4.toUInt32 >>> ((2 : Int32) &&& 31).toUInt32).toInt32) &&& (3 : Int32))] [(.ref b1)] (fun t k => XS.aload X10.here hx rfl (hb hby at_155) rfl rfl k) ?_
              refine own_go T10 m 158 #[.val (.long x0), .second, .val (.long x1), .second, .val (.long x2), .second, .val (.long x3), .second, iv x4, rv b1, .val (.long v10), .second, .val (.long v12), .second, rv b6, iv 0, iv (((x4.toUInt32 >>> ((2 : Int32) &&& 31).toUInt32).toInt32) &&& (3 : Int32))] [(.long x0), (.ref b1)] (fun t k => XS.lloadN X10.here hx rfl (hb hby at_157) rfl k) ?_
              obtain ⟨_, T70, L70, X70, ⟨r70, rfl, Aq70, Kq70, Nq70⟩, st70⟩ := own_static X10 hx hZ (y := (⟨"java/lang/Long", "valueOf", "(J)Ljava/lang/Long;"⟩ : MethodName)) hown (own_w hw 47 rfl) (own_w hw 48 rfl) (own_w hw 49 rfl) (own_w hw 50 rfl) (by decide) (rm8 l Z a0 hw [] x0 aC cell T10.heap n0 Z_10 (own_cache_keep HC K_10)) rfl 1 (argsL := [(.long x0)]) (rest := [(.ref b1)]) (Ls := #[.val (.long x0), .second, .val (.long x1), .second, .val (.long x2), .second, .val (.long x3), .second, iv x4, rv b1, .val (.long v10), .second, .val (.long v12), .second, rv b6, iv 0, iv (((x4.toUInt32 >>> ((2 : Int32) &&& 31).toUInt32).toInt32) &&& (3 : Int32))]) (by rw [hml]; rfl) (lenOf pd__J_Ljava_lang_Long_ rfl) rfl rfl (Nat.le_of_eq rfl) (hb hby at_158) (by decide) (by decide) (by decide) (by decide)
              have N70 := Fr.app N10 Nq70
              have cf71 := cf11.keep Kq70
              have cf72 := cf12.keep Kq70 nin0
              have cf73 := cf13.keep Kq70 nin0
              have cf74 := Aq10.keep Kq70
              have cf75 := Fq10_0.keep Kq70 nin0
              have cf76 := Fq10_1.keep Kq70 nin0
              have Z_70 : n0 ≤ T70.heap.size := Nat.le_trans Z_10 Kq70.1
              have K_70 : Keep h0 T70.heap [] := K_10.trans Kq70 all0
              refine own_go T70 m 161 #[.val (.long x0), .second, .val (.long x1), .second, .val (.long x2), .second, .val (.long x3), .second, iv x4, rv b1, .val (.long v10), .second, .val (.long v12), .second, rv b6, iv 0, iv (((x4.toUInt32 >>> ((2 : Int32) &&& 31).toUInt32).toInt32) &&& (3 : Int32))] [(.ref r70), (.ref b1)] (st70) ?_
              obtain ⟨_, T77, L77, X77, ⟨rfl, e77, rfl⟩, st77⟩ := own_virtual X70 hx hZ (y := (⟨"com/example/semel/semel/log/TimestampedOffset", "equals", "(Ljava/lang/Object;)Z"⟩ : MethodName)) (z := (⟨"com/example/semel/semel/log/TimestampedOffset", "equals", "(Ljava/lang/Object;)Z"⟩ : MethodName)) hown (own_w hw 13 rfl) (own_w hw 14 rfl) (notFace_of_selects (args := #[]) (mvT hZ (own_w hw 16 rfl))) (own_w hw 16 rfl) (own_w hw 15 rfl) (own_w hw 2 rfl) (own_w hw 17 rfl) (by decide) (rmEc0 l Z a0 hw [] b1 r70 T70.heap Aq70) rfl cf71 0 (argsL := [(.ref r70)]) (rest := []) (Ls := #[.val (.long x0), .second, .val (.long x1), .second, .val (.long x2), .second, .val (.long x3), .second, iv x4, rv b1, .val (.long v10), .second, .val (.long v12), .second, rv b6, iv 0, iv (((x4.toUInt32 >>> ((2 : Int32) &&& 31).toUInt32).toInt32) &&& (3 : Int32))]) (by rw [hml]; rfl) (lenOf pd__Ljava_lang_Object__Z rfl) rfl rfl (Nat.le_of_eq rfl) (hb hby at_161) (by decide) (by decide) (by decide) (by decide)
              replace X77 := own_nil X77
              refine own_go T77 m 164 #[.val (.long x0), .second, .val (.long x1), .second, .val (.long x2), .second, .val (.long x3), .second, iv x4, rv b1, .val (.long v10), .second, .val (.long v12), .second, rv b6, iv 0, iv (((x4.toUInt32 >>> ((2 : Int32) &&& 31).toUInt32).toInt32) &&& (3 : Int32))] [(.int 0)] (st77) ?_
              refine own_go T77 m 167 #[.val (.long x0), .second, .val (.long x1), .second, .val (.long x2), .second, .val (.long x3), .second, iv x4, rv b1, .val (.long v10), .second, .val (.long v12), .second, rv b6, iv 0, iv (((x4.toUInt32 >>> ((2 : Int32) &&& 31).toUInt32).toInt32) &&& (3 : Int32))] [] (fun t k => XS.ifNo X77.here hx rfl (hb hby at_164) rfl ((if0 _ _).trans (teq (by decide)).2) k) ?_
              refine own_go T77 m 168 #[.val (.long x0), .second, .val (.long x1), .second, .val (.long x2), .second, .val (.long x3), .second, iv x4, rv b1, .val (.long v10), .second, .val (.long v12), .second, rv b6, iv 0, iv (((x4.toUInt32 >>> ((2 : Int32) &&& 31).toUInt32).toInt32) &&& (3 : Int32))] [(.int 1)] (fun t k => XS.iconst X77.here hx rfl (hb hby at_167) k) ?_
              refine own_go T77 m 172 #[.val (.long x0), .second, .val (.long x1), .second, .val (.long x2), .second, .val (.long x3), .second, iv x4, rv b1, .val (.long v10), .second, .val (.long v12), .second, rv b6, iv 0, iv (((x4.toUInt32 >>> ((2 : Int32) &&& 31).toUInt32).toInt32) &&& (3 : Int32))] [(.int 1)] (fun t k => XS.goto X77.here hx rfl (pc0 := 168) (pc' := 172) rfl (hb hby at_168) (by decide) (by decide) k) ?_
              refine own_retZ X77 hx hlk hret (by decide) (hb hby at_172) (by decide) (by decide) ?_
              exact ⟨rfl, N70⟩
            · refine own_go T10 m 173 #[.val (.long x0), .second, .val (.long x1), .second, .val (.long x2), .second, .val (.long x3), .second, iv x4, rv b1, .val (.long v10), .second, .val (.long v12), .second, rv b6, iv 0, iv (((x4.toUInt32 >>> ((2 : Int32) &&& 31).toUInt32).toInt32) &&& (3 : Int32))] [] (fun t k => XS.icmpYes X10.here hx rfl (pc0 := 152) (pc' := 173) rfl (hb hby at_152) rfl (feq hc152_69).2 (by decide) (by decide) k) ?_
              refine own_go T10 m 175 #[.val (.long x0), .second, .val (.long x1), .second, .val (.long x2), .second, .val (.long x3), .second, iv x4, rv b1, .val (.long v10), .second, .val (.long v12), .second, rv b6, iv 0, iv (((x4.toUInt32 >>> ((2 : Int32) &&& 31).toUInt32).toInt32) &&& (3 : Int32))] [(.ref b1)] (fun t k => XS.aload X10.here hx rfl (hb hby at_173) rfl rfl k) ?_
              refine own_go T10 m 177 #[.val (.long x0), .second, .val (.long x1), .second, .val (.long x2), .second, .val (.long x3), .second, iv x4, rv b1, .val (.long v10), .second, .val (.long v12), .second, rv b6, iv 0, iv (((x4.toUInt32 >>> ((2 : Int32) &&& 31).toUInt32).toInt32) &&& (3 : Int32))] [(.long x2), (.ref b1)] (fun t k => XS.lload X10.here hx rfl (hb hby at_175) rfl k) ?_
              refine own_go T10 m 180 #[.val (.long x0), .second, .val (.long x1), .second, .val (.long x2), .second, .val (.long x3), .second, iv x4, rv b1, .val (.long v10), .second, .val (.long v12), .second, rv b6, iv 0, iv (((x4.toUInt32 >>> ((2 : Int32) &&& 31).toUInt32).toInt32) &&& (3 : Int32))] [(.long 255), (.long x2), (.ref b1)] (X10.ldc2Long hx hown (mvT hZ (own_w hw 20 rfl)) (g := (mkF m 177 #[.val (.long x0), .second, .val (.long x1), .second, .val (.long x2), .second, .val (.long x3), .second, iv x4, rv b1, .val (.long v10), .second, .val (.long v12), .second, rv b6, iv 0, iv (((x4.toUInt32 >>> ((2 : Int32) &&& 31).toUInt32).toInt32) &&& (3 : Int32))] [(.long x2), (.ref b1)])) rfl (hb hby at_177)) ?_
              refine own_go T10 m 181 #[.val (.long x0), .second, .val (.long x1), .second, .val (.long x2), .second, .val (.long x3), .second, iv x4, rv b1, .val (.long v10), .second, .val (.long v12), .second, rv b6, iv 0, iv (((x4.toUInt32 >>> ((2 : Int32) &&& 31).toUInt32).toInt32) &&& (3 : Int32))] [(.long (x2 &&& (255 : Int64))), (.ref b1)] (fun t k => XS.land X10.here hx rfl (hb hby at_180) rfl k) ?_
              refine own_go T10 m 182 #[.val (.long x0), .second, .val (.long x1), .second, .val (.long x2), .second, .val (.long x3), .second, iv x4, rv b1, .val (.long v10), .second, .val (.long v12), .second, rv b6, iv 0, iv (((x4.toUInt32 >>> ((2 : Int32) &&& 31).toUInt32).toInt32) &&& (3 : Int32))] [(.int (x2 &&& (255 : Int64)).toInt32), (.ref b1)] (fun t k => XS.l2i X10.here hx rfl (hb hby at_181) rfl k) ?_
              refine own_go T10 m 183 #[.val (.long x0), .second, .val (.long x1), .second, .val (.long x2), .second, .val (.long x3), .second, iv x4, rv b1, .val (.long v10), .second, .val (.long v12), .second, rv b6, iv 0, iv (((x4.toUInt32 >>> ((2 : Int32) &&& 31).toUInt32).toInt32) &&& (3 : Int32))] [(.int (x2 &&& (255 : Int64)).toInt32.toUInt32.toUInt16.toUInt32.toInt32), (.ref b1)] (fun t k => XS.i2c X10.here hx rfl (hb hby at_182) rfl k) ?_
              obtain ⟨_, T78, L78, X78, ⟨r78, rfl, Aq78, Kq78, Nq78⟩, st78⟩ := own_static X10 hx hZ (y := (⟨"java/lang/String", "valueOf", "(C)Ljava/lang/String;"⟩ : MethodName)) hown (own_w hw 21 rfl) (own_w hw 22 rfl) (own_w hw 23 rfl) (own_w hw 24 rfl) (by decide) (rm4 l Z a0 hw [] (x2 &&& (255 : Int64)).toInt32.toUInt32.toUInt16.toUInt32.toInt32 cs T10.heap n0 Z_10 (own_sta_keep SCS K_10) hcs (own_ch x2)) rfl 1 (argsL := [(.int (x2 &&& (255 : Int64)).toInt32.toUInt32.toUInt16.toUInt32.toInt32)]) (rest := [(.ref b1)]) (Ls := #[.val (.long x0), .second, .val (.long x1), .second, .val (.long x2), .second, .val (.long x3), .second, iv x4, rv b1, .val (.long v10), .second, .val (.long v12), .second, rv b6, iv 0, iv (((x4.toUInt32 >>> ((2 : Int32) &&& 31).toUInt32).toInt32) &&& (3 : Int32))]) (by rw [hml]; rfl) (lenOf pd__C_Ljava_lang_String_ rfl) rfl rfl (Nat.le_of_eq rfl) (hb hby at_183) (by decide) (by decide) (by decide) (by decide)
              have N78 := Fr.app N10 Nq78
              have cf79 := cf11.keep Kq78
              have cf80 := cf12.keep Kq78 nin0
              have cf81 := cf13.keep Kq78 nin0
              have cf82 := Aq10.keep Kq78
              have cf83 := Fq10_0.keep Kq78 nin0
              have cf84 := Fq10_1.keep Kq78 nin0
              have Z_78 : n0 ≤ T78.heap.size := Nat.le_trans Z_10 Kq78.1
              have K_78 : Keep h0 T78.heap [] := K_10.trans Kq78 all0
              refine own_go T78 m 186 #[.val (.long x0), .second, .val (.long x1), .second, .val (.long x2), .second, .val (.long x3), .second, iv x4, rv b1, .val (.long v10), .second, .val (.long v12), .second, rv b6, iv 0, iv (((x4.toUInt32 >>> ((2 : Int32) &&& 31).toUInt32).toInt32) &&& (3 : Int32))] [(.ref r78), (.ref b1)] (st78) ?_
              obtain ⟨_, T85, L85, X85, ⟨rfl, e85, rfl⟩, st85⟩ := own_virtual X78 hx hZ (y := (⟨"com/example/semel/semel/log/TimestampedOffset", "equals", "(Ljava/lang/Object;)Z"⟩ : MethodName)) (z := (⟨"com/example/semel/semel/log/TimestampedOffset", "equals", "(Ljava/lang/Object;)Z"⟩ : MethodName)) hown (own_w hw 13 rfl) (own_w hw 14 rfl) (notFace_of_selects (args := #[]) (mvT hZ (own_w hw 16 rfl))) (own_w hw 16 rfl) (own_w hw 15 rfl) (own_w hw 2 rfl) (own_w hw 17 rfl) (by decide) (rmEc1 l Z a0 hw [] b1 r78 T78.heap Aq78) rfl cf79 0 (argsL := [(.ref r78)]) (rest := []) (Ls := #[.val (.long x0), .second, .val (.long x1), .second, .val (.long x2), .second, .val (.long x3), .second, iv x4, rv b1, .val (.long v10), .second, .val (.long v12), .second, rv b6, iv 0, iv (((x4.toUInt32 >>> ((2 : Int32) &&& 31).toUInt32).toInt32) &&& (3 : Int32))]) (by rw [hml]; rfl) (lenOf pd__Ljava_lang_Object__Z rfl) rfl rfl (Nat.le_of_eq rfl) (hb hby at_186) (by decide) (by decide) (by decide) (by decide)
              replace X85 := own_nil X85
              refine own_go T85 m 189 #[.val (.long x0), .second, .val (.long x1), .second, .val (.long x2), .second, .val (.long x3), .second, iv x4, rv b1, .val (.long v10), .second, .val (.long v12), .second, rv b6, iv 0, iv (((x4.toUInt32 >>> ((2 : Int32) &&& 31).toUInt32).toInt32) &&& (3 : Int32))] [(.int 0)] (st85) ?_
              refine own_go T85 m 192 #[.val (.long x0), .second, .val (.long x1), .second, .val (.long x2), .second, .val (.long x3), .second, iv x4, rv b1, .val (.long v10), .second, .val (.long v12), .second, rv b6, iv 0, iv (((x4.toUInt32 >>> ((2 : Int32) &&& 31).toUInt32).toInt32) &&& (3 : Int32))] [] (fun t k => XS.ifNo X85.here hx rfl (hb hby at_189) rfl ((if0 _ _).trans (teq (by decide)).2) k) ?_
              refine own_go T85 m 193 #[.val (.long x0), .second, .val (.long x1), .second, .val (.long x2), .second, .val (.long x3), .second, iv x4, rv b1, .val (.long v10), .second, .val (.long v12), .second, rv b6, iv 0, iv (((x4.toUInt32 >>> ((2 : Int32) &&& 31).toUInt32).toInt32) &&& (3 : Int32))] [(.int 1)] (fun t k => XS.iconst X85.here hx rfl (hb hby at_192) k) ?_
              refine own_go T85 m 197 #[.val (.long x0), .second, .val (.long x1), .second, .val (.long x2), .second, .val (.long x3), .second, iv x4, rv b1, .val (.long v10), .second, .val (.long v12), .second, rv b6, iv 0, iv (((x4.toUInt32 >>> ((2 : Int32) &&& 31).toUInt32).toInt32) &&& (3 : Int32))] [(.int 1)] (fun t k => XS.goto X85.here hx rfl (pc0 := 193) (pc' := 197) rfl (hb hby at_193) (by decide) (by decide) k) ?_
              refine own_retZ X85 hx hlk hret (by decide) (hb hby at_197) (by decide) (by decide) ?_
              exact ⟨rfl, N78⟩
    by_cases hc30_86 : (x4 &&& (2 : Int32)) = (0 : Int32)
    · refine own_go T2 m 37 #[.val (.long x0), .second, .val (.long x1), .second, .val (.long x2), .second, .val (.long x3), .second, iv x4, rv b1, .val (.long v10), .second, .unset, .unset, .unset, .unset, .unset] [] (fun t k => XS.ifYes X2.here hx rfl (pc0 := 30) (pc' := 37) rfl (hb hby at_30) rfl ((if0 _ _).trans (teq hc30_86).1) (by decide) (by decide) k) ?_
      refine own_go T2 m 39 #[.val (.long x0), .second, .val (.long x1), .second, .val (.long x2), .second, .val (.long x3), .second, iv x4, rv b1, .val (.long v10), .second, .unset, .unset, .unset, .unset, .unset] [(.long x3)] (fun t k => XS.lload X2.here hx rfl (hb hby at_37) rfl k) ?_
      refine own_go T2 m 41 #[.val (.long x0), .second, .val (.long x1), .second, .val (.long x2), .second, .val (.long x3), .second, iv x4, rv b1, .val (.long v10), .second, .val (.long x3), .second, .unset, .unset, .unset] [] (fun t k => XS.lstore X2.here hx rfl (hb hby at_39) rfl rfl k) ?_
      exact seg41 x3
    · refine own_go T2 m 33 #[.val (.long x0), .second, .val (.long x1), .second, .val (.long x2), .second, .val (.long x3), .second, iv x4, rv b1, .val (.long v10), .second, .unset, .unset, .unset, .unset, .unset] [] (fun t k => XS.ifNo X2.here hx rfl (hb hby at_30) rfl ((if0 _ _).trans (feq hc30_86).1) k) ?_
      refine own_go T2 m 34 #[.val (.long x0), .second, .val (.long x1), .second, .val (.long x2), .second, .val (.long x3), .second, iv x4, rv b1, .val (.long v10), .second, .unset, .unset, .unset, .unset, .unset] [(.long x1)] (fun t k => XS.lloadN X2.here hx rfl (hb hby at_33) rfl k) ?_
      refine own_go T2 m 39 #[.val (.long x0), .second, .val (.long x1), .second, .val (.long x2), .second, .val (.long x3), .second, iv x4, rv b1, .val (.long v10), .second, .unset, .unset, .unset, .unset, .unset] [(.long x1)] (fun t k => XS.goto X2.here hx rfl (pc0 := 34) (pc' := 39) rfl (hb hby at_34) (by decide) (by decide) k) ?_
      refine own_go T2 m 41 #[.val (.long x0), .second, .val (.long x1), .second, .val (.long x2), .second, .val (.long x3), .second, iv x4, rv b1, .val (.long v10), .second, .val (.long x1), .second, .unset, .unset, .unset] [] (fun t k => XS.lstore X2.here hx rfl (hb hby at_39) rfl rfl k) ?_
      exact seg41 x1
  by_cases hc15_87 : (x4 &&& (1 : Int32)) = (0 : Int32)
  · refine own_go T2 m 22 #[.val (.long x0), .second, .val (.long x1), .second, .val (.long x2), .second, .val (.long x3), .second, iv x4, rv b1, .unset, .unset, .unset, .unset, .unset, .unset, .unset] [] (fun t k => XS.ifYes X2.here hx rfl (pc0 := 15) (pc' := 22) rfl (hb hby at_15) rfl ((if0 _ _).trans (teq hc15_87).1) (by decide) (by decide) k) ?_
    refine own_go T2 m 24 #[.val (.long x0), .second, .val (.long x1), .second, .val (.long x2), .second, .val (.long x3), .second, iv x4, rv b1, .unset, .unset, .unset, .unset, .unset, .unset, .unset] [(.long x2)] (fun t k => XS.lload X2.here hx rfl (hb hby at_22) rfl k) ?_
    refine own_go T2 m 26 #[.val (.long x0), .second, .val (.long x1), .second, .val (.long x2), .second, .val (.long x3), .second, iv x4, rv b1, .val (.long x2), .second, .unset, .unset, .unset, .unset, .unset] [] (fun t k => XS.lstore X2.here hx rfl (hb hby at_24) rfl rfl k) ?_
    exact seg26 x2
  · refine own_go T2 m 18 #[.val (.long x0), .second, .val (.long x1), .second, .val (.long x2), .second, .val (.long x3), .second, iv x4, rv b1, .unset, .unset, .unset, .unset, .unset, .unset, .unset] [] (fun t k => XS.ifNo X2.here hx rfl (hb hby at_15) rfl ((if0 _ _).trans (feq hc15_87).1) k) ?_
    refine own_go T2 m 19 #[.val (.long x0), .second, .val (.long x1), .second, .val (.long x2), .second, .val (.long x3), .second, iv x4, rv b1, .unset, .unset, .unset, .unset, .unset, .unset, .unset] [(.long x0)] (fun t k => XS.lloadN X2.here hx rfl (hb hby at_18) rfl k) ?_
    refine own_go T2 m 24 #[.val (.long x0), .second, .val (.long x1), .second, .val (.long x2), .second, .val (.long x3), .second, iv x4, rv b1, .unset, .unset, .unset, .unset, .unset, .unset, .unset] [(.long x0)] (fun t k => XS.goto X2.here hx rfl (pc0 := 19) (pc' := 24) rfl (hb hby at_19) (by decide) (by decide) k) ?_
    refine own_go T2 m 26 #[.val (.long x0), .second, .val (.long x1), .second, .val (.long x2), .second, .val (.long x3), .second, iv x4, rv b1, .val (.long x0), .second, .unset, .unset, .unset, .unset, .unset] [] (fun t k => XS.lstore X2.here hx rfl (hb hby at_24) rfl rfl k) ?_
    exact seg26 x0
set_option maxRecDepth 65536 in
set_option maxHeartbeats 40000000 in
theorem comes_1 {Post : Tables → Env → Array Value → State → Outcome → State → Prop} (hpost : ∀ tb e args s v u, (limb_1_1.after args s (.returned v) u = true ∧ limb_1_2.after args s (.returned v) u = true ∧ True) → FrameEnd s (.returned v) u (Jvm.fieldLocs frame_1_writes args s ++ Jvm.arrayLocs frame_1_arrays args s ++ Jvm.staticLocs frame_1_statics s) 16 128 → Post tb e args s (.returned v) u) :
    ArmFor flags0 classFile x code maxLocals ret World_1 tables_1 room_1 Calls_1 rest_1 Pre_1 Post := by
  intro l hfl _ _ p e ha hc hk s m args below hf hA hF happ hP
  obtain ⟨hcalls, hrest, hpre⟩ := hP
  obtain ⟨-, -, -, hnamed, -, -, -, hat⟩ := (Spec.applies_iff hf).mp happ
  obtain ⟨hg, hn⟩ := and_e (Cond.before_iff.mp (show (Jvm.Cond.and given_1 narrow_1).before args s = true from hpre))
  obtain ⟨gg1, gg2⟩ := and_e hg
  obtain ⟨gg3, gg4⟩ := and_e gg2
  obtain ⟨gg5, gg6⟩ := and_e gg4
  obtain ⟨gg7, gg8⟩ := and_e gg6
  obtain ⟨gg9, gg10⟩ := and_e gg8
  obtain ⟨w0, w1, w2, w3, w4, rfl⟩ : ∃ w0 w1 w2 w3 w4 : Value, args = #[w0, w1, w2, w3, w4] := by
    have hs : args.size = 5 := by simpa [Cond.value, given_1] using gg1
    obtain ⟨L⟩ := args
    match L, hs with
    | [w0, w1, w2, w3, w4], _ => exact ⟨w0, w1, w2, w3, w4, rfl⟩
  have hw := fun d (hd : d ∈ tables_1) => atoms_spec (ws := Jvm.Cond.code x code maxLocals ret :: tables_1) hat d (List.mem_cons_of_mem _ hd)
  have hfit : Fit s := fun {y c} hc i hi => by
    obtain ⟨ha, rfl⟩ := Array.getElem?_eq_some_iff.mp hc
    have q := List.all_eq_true.mp ((Array.all_eq_true_iff_forall_mem.mp hF) _ (Array.getElem_mem ha)) i (List.mem_range.mpr hi)
    simpa [Array.getElem?_eq_getElem hi] using q
  obtain ⟨hsets, hown0⟩ := atoms_of _ (rest_1_c_eq ▸ (show rest_1_c.before _ s = true from hrest))
  obtain ⟨i0, ei0⟩ := isL_v gg3
  obtain rfl : w0 = (.long i0) := Option.some.inj ei0
  obtain ⟨i1, ei1⟩ := isL_v gg5
  obtain rfl : w1 = (.long i1) := Option.some.inj ei1
  obtain ⟨i2, ei2⟩ := isL_v gg7
  obtain rfl : w2 = (.long i2) := Option.some.inj ei2
  obtain ⟨i3, ei3⟩ := isL_v gg9
  obtain rfl : w3 = (.long i3) := Option.some.inj ei3
  obtain ⟨i4, ei4⟩ := is_v gg10
  obtain rfl : w4 = (.int i4) := Option.some.inj ei4
  obtain ⟨aC, cell, HC⟩ := own_cache (hsets _ (List.mem_of_getElem? (i := 11) rfl)) (hsets _ (List.mem_of_getElem? (i := 10) rfl)) (hsets _ (List.mem_of_getElem? (i := 13) rfl)) (hsets _ (List.mem_of_getElem? (i := 14) rfl))
  obtain ⟨cs, ev_cs⟩ := is_v (Cond.before_iff.mp (hsets _ (List.mem_of_getElem? (i := 1) rfl)))
  have SCS := Sta.start ev_cs (Or.inl (hsets _ (List.mem_of_getElem? (i := 0) rfl)))
  have hcs : ¬ cs = (0 : Int32) := fun q => by
    have h1 := not_v (Cond.before_iff.mp (hsets _ (List.mem_of_getElem? (i := 2) rfl)))
    have h2 := eq_i (args := _) ev_cs (Term.int_eval (0)) (congrArg Value.int q)
    rw [h2] at h1
    cases h1
  obtain ⟨n, o, h1, h2, h3, _, L, rfl, ⟨rfl, N⟩, hq⟩ := rm0 l s _ hw tables_1 i0 i1 i2 i3 i4 aC cell cs s.heap s.heap.size (Nat.le_refl _) HC SCS hcs p e ha hc hk s m _ below hf ((Spec.applies_iff_loose hf).mp happ).1 ⟨rfl, State.Warmed39.refl s, rfl⟩ trivial
  refine ⟨n, _, h1, h2, h3, hpost _ _ _ _ _ _ ⟨Cond.after_iff.mpr rfl, Cond.after_iff.mpr (eq_i res_at (Term.int_eval (1)) rfl), trivial⟩ ⟨hq.1, hq.2.1, (hq.2.2.sift fun y hy => Or.inr (N y hy)).mono (by decide) (by decide)⟩⟩
theorem main_1_1 : Claimed_1_1 := comes_1 fun _ _ _ _ _ _ h hF => ⟨h.1, hF⟩
theorem main_1_2 : Claimed_1_2 := comes_1 fun _ _ _ _ _ _ h hF => ⟨h.2.1, hF⟩
end Jvm.Pilot.@@N@@
namespace Jvm.Pilot.@@N@@
open Jvm Jvm.ClassFile Sem Op Lib Jvm.Free Jvm.Stand Jvm.Pilot.@@N@@.Jvm.D
/-! MADE BY PROGRAM (witnessworld.py) out of the Statement's table words and the real class files: 21 classes; the members and pool entries that the words name. The judged class is class 1, her method 1. -/
namespace start1
open Jvm.ClassFile
def u (s : String) : CpInfo := .utf8 (stringToUtf16 s)
/-- a pool by its gaps: so many unusable entries, then the entry; so many at the end -/
def gap : Nat → List CpInfo → List CpInfo
  | 0, r => r
  | n + 1, r => .unusable :: gap n r
def poolList (es : List (Nat × CpInfo)) (last : Nat) : List CpInfo := es.foldr (fun e r => gap e.1 (e.2 :: r)) (gap last [])
def pool (es : List (Nat × CpInfo)) (last : Nat) : Array CpInfo := ⟨poolList es last⟩
def fileOf (pool : Array CpInfo) (this : Nat) (attrs : Array Attribute := #[]) (ms : Array MethodInfo := #[]) (fl : Nat := 33) (sup : Nat := 0) (ifs : Array Nat := #[]) (fds : Array FieldInfo := #[]) : ClassFile where
  minorVersion := 0
  majorVersion := 65
  constantPool := pool
  accessFlags := fl
  thisClass := this
  superClass := sup
  interfaces := ifs
  fields := fds
  methods := ms
  attributes := attrs
def plain (name : String) (sup : Option ClassId) : Class where
  name := name
  kind := .ordinary
  loader := none
  accessFlags := 33
  super := sup
  interfaces := #[]
  cf := none
  fields := #[]
  methods := #[]
  instanceTypes := #[]
  staticTypes := #[]
  resolved := #[]
  callSites := []
  init := .initialized
  statics := none
  mirror := none

def pool0 : Array CpInfo := pool [(5, u "<init>"), (0, u "()V"), (1, .class_ 10), (1, u "java/lang/Object")] 113

def k0c0 : Code := { maxStack := 0, maxLocals := 1, code := object_method_1_code, exceptionTable := #[], attributes := #[] }
def k0m0 : Method := { name := "<init>", desc := "()V", sig := { parameters := [], returnType := none }, accessFlags := 1, code := some k0c0 }
/-- java/lang/Object -/
def k0 : Class := { plain "java/lang/Object" none with
  accessFlags := 33
  interfaces := #[]
  cf := some (fileOf pool0 8 #[] #[{ accessFlags := 1, nameIndex := 5, descriptorIndex := 6, attributes := #[] }] 33 0 #[] #[])
  fields := #[]
  methods := #[k0m0]
  instanceTypes := #[]
  staticTypes := #[]
  resolved := Array.replicate 124 none
  statics := none }

def pool1 : Array CpInfo := pool [(2, .class_ 4), (1, u "java/lang/Object"), (0, u "<init>"), (0, u "()V"), (0, .class_ 8), (0, u "com/example/semel/semel/log/TimestampedOffset"), (0, .methodref 7 10), (0, .nameAndType 5 11), (0, u "(JJ)V"), (0, .methodref 7 13), (0, .nameAndType 14 15), (0, u "equals"), (0, u "(Ljava/lang/Object;)Z"), (0, .methodref 17 18), (0, .class_ 19), (0, .nameAndType 20 21), (0, u "java/lang/Long"), (0, u "valueOf"), (0, u "(J)Ljava/lang/Long;"), (0, .long 255), (1, .methodref 25 26), (0, .class_ 27), (0, .nameAndType 20 28), (0, u "java/lang/String"), (0, u "(C)Ljava/lang/String;"), (0, .class_ 30), (0, u "com/example/semel/semel/log/TimestampedOffsetEqualsPinLaw"), (2, u "law"), (0, u "(JJJJI)Z")] 3

def k1m0 : Method := { name := "<init>", desc := "()V", sig := { parameters := [], returnType := none }, accessFlags := 1, code := none }
def k1c1 : Code := { maxStack := 6, maxLocals := 17, code := code, exceptionTable := #[], attributes := #[] }
def k1m1 : Method := { name := "law", desc := "(JJJJI)Z", sig := { parameters := [.long, .long, .long, .long, .int], returnType := some .boolean }, accessFlags := 9, code := some k1c1 }
/-- com/example/semel/semel/log/TimestampedOffsetEqualsPinLaw -/
def k1 : Class := { plain "com/example/semel/semel/log/TimestampedOffsetEqualsPinLaw" (some 0) with
  accessFlags := 49
  interfaces := #[]
  cf := some (fileOf pool1 29 #[] #[{ accessFlags := 1, nameIndex := 5, descriptorIndex := 6, attributes := #[] }, { accessFlags := 9, nameIndex := 33, descriptorIndex := 34, attributes := #[] }] 49 2 #[] #[])
  fields := #[]
  methods := #[k1m0, k1m1]
  instanceTypes := #[]
  staticTypes := #[]
  resolved := Array.replicate 38 none
  statics := none }

def pool2 : Array CpInfo := pool [(1, .methodref 2 3), (0, .class_ 4), (0, .nameAndType 5 6), (0, u "java/lang/Object"), (0, u "<init>"), (0, u "()V"), (0, .fieldref 8 9), (0, .class_ 10), (0, .nameAndType 11 12), (0, u "com/example/semel/semel/log/TimestampedOffset"), (0, u "offset"), (0, u "J"), (0, .fieldref 8 14), (0, .nameAndType 15 12), (0, u "timestamp"), (16, u "(JJ)V"), (3, u "equals"), (0, u "(Ljava/lang/Object;)Z")] 22

def k2c0 : Code := { maxStack := 3, maxLocals := 5, code := prog_37_method_1_code, exceptionTable := #[], attributes := #[] }
def k2m0 : Method := { name := "<init>", desc := "(JJ)V", sig := { parameters := [.long, .long], returnType := none }, accessFlags := 0, code := some k2c0 }
def k2c1 : Code := { maxStack := 4, maxLocals := 3, code := prog_37_method_4_code, exceptionTable := #[], attributes := #[] }
def k2m1 : Method := { name := "equals", desc := "(Ljava/lang/Object;)Z", sig := { parameters := [(.object "java/lang/Object")], returnType := some .boolean }, accessFlags := 1, code := some k2c1 }
/-- com/example/semel/semel/log/TimestampedOffset -/
def k2 : Class := { plain "com/example/semel/semel/log/TimestampedOffset" (some 0) with
  accessFlags := 49
  interfaces := #[]
  cf := some (fileOf pool2 8 #[] #[{ accessFlags := 0, nameIndex := 5, descriptorIndex := 32, attributes := #[] }, { accessFlags := 1, nameIndex := 36, descriptorIndex := 37, attributes := #[] }] 49 2 #[] #[{ accessFlags := 18, nameIndex := 11, descriptorIndex := 12, attributes := #[] }, { accessFlags := 18, nameIndex := 15, descriptorIndex := 12, attributes := #[] }])
  fields := #[{ name := "offset", type := .long, accessFlags := 18, slot := 0, constantValue := 0 }, { name := "timestamp", type := .long, accessFlags := 18, slot := 1, constantValue := 0 }]
  methods := #[k2m0, k2m1]
  instanceTypes := #[.long, .long]
  staticTypes := #[]
  resolved := Array.replicate 60 none
  statics := none }

def pool3 : Array CpInfo := pool [(1, .class_ 2), (0, u "java/io/Serializable"), (0, .class_ 4), (0, u "java/lang/Object")] 2

/-- java/io/Serializable -/
def k3 : Class := { plain "java/io/Serializable" (some 0) with
  accessFlags := 1537
  interfaces := #[]
  cf := some (fileOf pool3 1 #[] #[] 1537 3 #[] #[])
  fields := #[]
  methods := #[]
  instanceTypes := #[]
  staticTypes := #[]
  resolved := Array.replicate 7 none
  statics := none }

def pool4 : Array CpInfo := pool [(1, .class_ 2), (0, u "java/lang/Comparable"), (0, .class_ 4), (0, u "java/lang/Object")] 7

/-- java/lang/Comparable -/
def k4 : Class := { plain "java/lang/Comparable" (some 0) with
  accessFlags := 1537
  interfaces := #[]
  cf := some (fileOf pool4 1 #[] #[] 1537 3 #[] #[])
  fields := #[]
  methods := #[]
  instanceTypes := #[]
  staticTypes := #[]
  resolved := Array.replicate 12 none
  statics := none }

def pool5 : Array CpInfo := pool [(2, .class_ 4), (1, u "java/lang/CharSequence"), (42, .class_ 48), (0, u "java/lang/CharSequence$1CodePointIterator"), (10, .class_ 60), (0, u "java/lang/CharSequence$1CharIterator"), (5, .class_ 67), (0, u "java/lang/Object")] 63

/-- java/lang/CharSequence -/
def k5 : Class := { plain "java/lang/CharSequence" (some 0) with
  accessFlags := 1537
  interfaces := #[]
  cf := some (fileOf pool5 2 #[.nestMembers #[47, 59]] #[] 1537 66 #[] #[])
  fields := #[]
  methods := #[]
  instanceTypes := #[]
  staticTypes := #[]
  resolved := Array.replicate 131 none
  statics := none }

def pool6 : Array CpInfo := pool [(1, .class_ 2), (0, u "java/lang/constant/Constable"), (0, .class_ 4), (0, u "java/lang/Object")] 6

/-- java/lang/constant/Constable -/
def k6 : Class := { plain "java/lang/constant/Constable" (some 0) with
  accessFlags := 1537
  interfaces := #[]
  cf := some (fileOf pool6 1 #[] #[] 1537 3 #[] #[])
  fields := #[]
  methods := #[]
  instanceTypes := #[]
  staticTypes := #[]
  resolved := Array.replicate 11 none
  statics := none }

def pool7 : Array CpInfo := pool [(1, .class_ 2), (0, u "java/lang/constant/ConstantDesc"), (0, .class_ 4), (0, u "java/lang/Object")] 32

/-- java/lang/constant/ConstantDesc -/
def k7 : Class := { plain "java/lang/constant/ConstantDesc" (some 0) with
  accessFlags := 1537
  interfaces := #[]
  cf := some (fileOf pool7 1 #[] #[] 1537 3 #[] #[])
  fields := #[]
  methods := #[]
  instanceTypes := #[]
  staticTypes := #[]
  resolved := Array.replicate 37 none
  statics := none }

def pool8 : Array CpInfo := pool [(1, .methodref 2 3), (0, .class_ 4), (0, .nameAndType 5 6), (0, u "java/lang/Object"), (0, u "<init>"), (0, u "()V"), (2, .fieldref 10 11), (0, .class_ 12), (0, .nameAndType 13 14), (0, u "java/lang/String"), (0, u "value"), (0, u "[B"), (0, .fieldref 10 16), (0, .nameAndType 17 18), (0, u "coder"), (0, u "B"), (2, u "hash"), (0, u "I"), (2, u "hashIsZero"), (0, u "Z"), (11, .fieldref 10 39), (0, .nameAndType 40 26), (0, u "COMPACT_STRINGS"), (12, u "toBytes"), (53, .class_ 109), (1, u "java/lang/StringLatin1"), (99, .methodref 10 210), (0, .nameAndType 5 211), (0, u "([BB)V"), (157, u "(C)Z"), (205, .class_ 576), (0, u "java/lang/CharSequence"), (22, u "CASE_INSENSITIVE_ORDER"), (0, u "Ljava/util/Comparator;"), (181, u "valueOf"), (0, u "(C)Ljava/lang/String;"), (231, .methodref 107 1016), (0, .nameAndType 1017 369), (0, u "canEncode"), (0, .methodref 107 1019), (0, .nameAndType 53 1020), (0, u "(C)[B"), (80, u "serialPersistentFields"), (0, u "[Ljava/io/ObjectStreamField;"), (0, .class_ 1104), (0, u "java/lang/String$CaseInsensitiveComparator"), (1, .class_ 1107), (0, u "java/io/Serializable"), (0, .class_ 1109), (0, u "java/lang/Comparable"), (0, .class_ 1111), (0, u "java/lang/constant/Constable"), (0, .class_ 1113), (0, u "java/lang/constant/ConstantDesc"), (2, u "serialVersionUID"), (0, u "J"), (3, u "REPL"), (0, u "C"), (2, u "LATIN1"), (1, u "UTF16")] 323

def k8m0 : Method := { name := "<init>", desc := "()V", sig := { parameters := [], returnType := none }, accessFlags := 1, code := none }
def k8c1 : Code := { maxStack := 4, maxLocals := 1, code := jdk_42_method_139_code, exceptionTable := #[], attributes := #[] }
def k8m1 : Method := { name := "valueOf", desc := "(C)Ljava/lang/String;", sig := { parameters := [.char], returnType := some (.object "java/lang/String") }, accessFlags := 9, code := some k8c1 }
def k8c2 : Code := { maxStack := 2, maxLocals := 3, code := jdk_42_method_151_code, exceptionTable := #[], attributes := #[] }
def k8m2 : Method := { name := "<init>", desc := "([BB)V", sig := { parameters := [(.array .byte), .byte], returnType := none }, accessFlags := 0, code := some k8c2 }
/-- java/lang/String -/
def k8 : Class := { plain "java/lang/String" (some 0) with
  accessFlags := 49
  interfaces := #[3, 4, 5, 6, 7]
  cf := some (fileOf pool8 10 #[.nestMembers #[1103]] #[{ accessFlags := 1, nameIndex := 5, descriptorIndex := 6, attributes := #[] }, { accessFlags := 9, nameIndex := 782, descriptorIndex := 783, attributes := #[] }, { accessFlags := 0, nameIndex := 5, descriptorIndex := 211, attributes := #[] }] 49 2 #[1106, 1108, 575, 1110, 1112] #[{ accessFlags := 18, nameIndex := 13, descriptorIndex := 14, attributes := #[] }, { accessFlags := 18, nameIndex := 17, descriptorIndex := 18, attributes := #[] }, { accessFlags := 2, nameIndex := 21, descriptorIndex := 22, attributes := #[] }, { accessFlags := 2, nameIndex := 25, descriptorIndex := 26, attributes := #[] }, { accessFlags := 26, nameIndex := 1116, descriptorIndex := 1117, attributes := #[] }, { accessFlags := 24, nameIndex := 40, descriptorIndex := 26, attributes := #[] }, { accessFlags := 26, nameIndex := 1101, descriptorIndex := 1102, attributes := #[] }, { accessFlags := 26, nameIndex := 1121, descriptorIndex := 1122, attributes := #[] }, { accessFlags := 25, nameIndex := 599, descriptorIndex := 600, attributes := #[] }, { accessFlags := 24, nameIndex := 1125, descriptorIndex := 18, attributes := #[] }, { accessFlags := 24, nameIndex := 1127, descriptorIndex := 18, attributes := #[] }])
  fields := #[{ name := "value", type := (.array .byte), accessFlags := 18, slot := 0, constantValue := 0 }, { name := "coder", type := .byte, accessFlags := 18, slot := 1, constantValue := 0 }, { name := "hash", type := .int, accessFlags := 2, slot := 2, constantValue := 0 }, { name := "hashIsZero", type := .boolean, accessFlags := 2, slot := 3, constantValue := 0 }, { name := "serialVersionUID", type := .long, accessFlags := 26, slot := 0, constantValue := 0 }, { name := "COMPACT_STRINGS", type := .boolean, accessFlags := 24, slot := 1, constantValue := 0 }, { name := "serialPersistentFields", type := (.array (.object "java/io/ObjectStreamField")), accessFlags := 26, slot := 2, constantValue := 0 }, { name := "REPL", type := .char, accessFlags := 26, slot := 3, constantValue := 0 }, { name := "CASE_INSENSITIVE_ORDER", type := (.object "java/util/Comparator"), accessFlags := 25, slot := 4, constantValue := 0 }, { name := "LATIN1", type := .byte, accessFlags := 24, slot := 5, constantValue := 0 }, { name := "UTF16", type := .byte, accessFlags := 24, slot := 6, constantValue := 0 }]
  methods := #[k8m0, k8m1, k8m2]
  instanceTypes := #[(.array .byte), .byte, .int, .boolean]
  staticTypes := #[.long, .boolean, (.array (.object "java/io/ObjectStreamField")), .char, (.object "java/util/Comparator"), .byte, .byte]
  resolved := Array.replicate 1451 none
  statics := some 0 }

def pool9 : Array CpInfo := pool [(4, .class_ 6), (1, u "java/lang/Object"), (0, u "<init>"), (0, u "()V"), (5, .class_ 16), (1, u "java/lang/StringLatin1"), (73, u "canEncode"), (14, u "(C)Z"), (15, u "$assertionsDisabled"), (0, u "Z"), (98, .class_ 223), (1, u "java/lang/StringLatin1$LinesSpliterator"), (156, u "toBytes"), (1, u "(C)[B"), (7, .class_ 391), (0, u "java/lang/StringLatin1$CharsSpliterator")] 3

def k9m0 : Method := { name := "<init>", desc := "()V", sig := { parameters := [], returnType := none }, accessFlags := 0, code := none }
def k9c1 : Code := { maxStack := 2, maxLocals := 1, code := jdk_43_method_3_code, exceptionTable := #[], attributes := #[] }
def k9m1 : Method := { name := "canEncode", desc := "(C)Z", sig := { parameters := [.char], returnType := some .boolean }, accessFlags := 9, code := some k9c1 }
def k9c2 : Code := { maxStack := 4, maxLocals := 1, code := jdk_43_method_46_code, exceptionTable := #[], attributes := #[] }
def k9m2 : Method := { name := "toBytes", desc := "(C)[B", sig := { parameters := [.char], returnType := some (.array .byte) }, accessFlags := 9, code := some k9c2 }
/-- java/lang/StringLatin1 -/
def k9 : Class := { plain "java/lang/StringLatin1" (some 0) with
  accessFlags := 48
  interfaces := #[]
  cf := some (fileOf pool9 14 #[.nestMembers #[390, 221]] #[{ accessFlags := 0, nameIndex := 7, descriptorIndex := 8, attributes := #[] }, { accessFlags := 9, nameIndex := 90, descriptorIndex := 105, attributes := #[] }, { accessFlags := 9, nameIndex := 380, descriptorIndex := 382, attributes := #[] }] 48 4 #[] #[{ accessFlags := 4120, nameIndex := 121, descriptorIndex := 122, attributes := #[] }])
  fields := #[{ name := "$assertionsDisabled", type := .boolean, accessFlags := 4120, slot := 0, constantValue := 0 }]
  methods := #[k9m0, k9m1, k9m2]
  instanceTypes := #[]
  staticTypes := #[.boolean]
  resolved := Array.replicate 395 none
  statics := none }

def pool10 : Array CpInfo := pool [(1, .methodref 2 3), (0, .class_ 4), (0, .nameAndType 5 6), (0, u "java/lang/Object"), (0, u "<init>"), (0, u "()V"), (1, .class_ 10), (1, u "java/lang/Number"), (2, .class_ 14), (0, u "java/io/Serializable"), (0, u "serialVersionUID"), (0, u "J")] 20

def k10c0 : Code := { maxStack := 1, maxLocals := 1, code := jdk_18_method_1_code, exceptionTable := #[], attributes := #[] }
def k10m0 : Method := { name := "<init>", desc := "()V", sig := { parameters := [], returnType := none }, accessFlags := 1, code := some k10c0 }
/-- java/lang/Number -/
def k10 : Class := { plain "java/lang/Number" (some 0) with
  accessFlags := 1057
  interfaces := #[3]
  cf := some (fileOf pool10 8 #[] #[{ accessFlags := 1, nameIndex := 5, descriptorIndex := 6, attributes := #[] }] 1057 2 #[13] #[{ accessFlags := 26, nameIndex := 15, descriptorIndex := 16, attributes := #[] }])
  fields := #[{ name := "serialVersionUID", type := .long, accessFlags := 26, slot := 0, constantValue := 0 }]
  methods := #[k10m0]
  instanceTypes := #[]
  staticTypes := #[.long]
  resolved := Array.replicate 37 none
  statics := none }

def pool11 : Array CpInfo := pool [(1, .class_ 2), (0, u "java/lang/Long"), (55, .nameAndType 59 60), (0, u "<init>"), (0, u "()V"), (24, u "valueOf"), (143, u "(J)Ljava/lang/Long;"), (0, .long 18446744073709551488), (1, .long 127), (1, .fieldref 235 236), (0, .class_ 237), (0, .nameAndType 238 239), (0, u "java/lang/Long$LongCache"), (0, u "cache"), (0, u "[Ljava/lang/Long;"), (0, .methodref 1 241), (0, .nameAndType 59 242), (0, u "(J)V"), (27, .methodref 271 58), (0, .class_ 272), (0, u "java/lang/Number"), (0, .fieldref 1 274), (0, .nameAndType 275 276), (0, u "value"), (0, u "J"), (84, u "TYPE"), (0, u "Ljava/lang/Class;"), (0, .class_ 364), (0, u "java/lang/Comparable"), (0, .class_ 366), (0, u "java/lang/constant/Constable"), (0, .class_ 368), (0, u "java/lang/constant/ConstantDesc"), (0, u "MIN_VALUE"), (1, u "MAX_VALUE"), (4, u "SIZE"), (0, u "I"), (1, u "BYTES"), (1, u "serialVersionUID")] 142

def k11c0 : Code := { maxStack := 4, maxLocals := 3, code := jdk_35_method_24_code, exceptionTable := #[], attributes := #[] }
def k11m0 : Method := { name := "valueOf", desc := "(J)Ljava/lang/Long;", sig := { parameters := [.long], returnType := some (.object "java/lang/Long") }, accessFlags := 9, code := some k11c0 }
def k11c1 : Code := { maxStack := 3, maxLocals := 3, code := jdk_35_method_26_code, exceptionTable := #[], attributes := #[] }
def k11m1 : Method := { name := "<init>", desc := "(J)V", sig := { parameters := [.long], returnType := none }, accessFlags := 1, code := some k11c1 }
/-- java/lang/Long -/
def k11 : Class := { plain "java/lang/Long" (some 10) with
  accessFlags := 49
  interfaces := #[4, 6, 7]
  cf := some (fileOf pool11 1 #[.nestMembers #[235]] #[{ accessFlags := 9, nameIndex := 85, descriptorIndex := 229, attributes := #[] }, { accessFlags := 1, nameIndex := 59, descriptorIndex := 242, attributes := #[] }] 49 271 #[363, 365, 367] #[{ accessFlags := 25, nameIndex := 369, descriptorIndex := 276, attributes := #[] }, { accessFlags := 25, nameIndex := 371, descriptorIndex := 276, attributes := #[] }, { accessFlags := 25, nameIndex := 361, descriptorIndex := 362, attributes := #[] }, { accessFlags := 18, nameIndex := 275, descriptorIndex := 276, attributes := #[] }, { accessFlags := 25, nameIndex := 376, descriptorIndex := 377, attributes := #[] }, { accessFlags := 25, nameIndex := 379, descriptorIndex := 377, attributes := #[] }, { accessFlags := 26, nameIndex := 381, descriptorIndex := 276, attributes := #[] }])
  fields := #[{ name := "MIN_VALUE", type := .long, accessFlags := 25, slot := 0, constantValue := 0 }, { name := "MAX_VALUE", type := .long, accessFlags := 25, slot := 1, constantValue := 0 }, { name := "TYPE", type := (.object "java/lang/Class"), accessFlags := 25, slot := 2, constantValue := 0 }, { name := "value", type := .long, accessFlags := 18, slot := 0, constantValue := 0 }, { name := "SIZE", type := .int, accessFlags := 25, slot := 3, constantValue := 0 }, { name := "BYTES", type := .int, accessFlags := 25, slot := 4, constantValue := 0 }, { name := "serialVersionUID", type := .long, accessFlags := 26, slot := 5, constantValue := 0 }]
  methods := #[k11m0, k11m1]
  instanceTypes := #[.long]
  staticTypes := #[.long, .long, (.object "java/lang/Class"), .int, .int, .long]
  resolved := Array.replicate 524 none
  statics := none }

def pool12 : Array CpInfo := pool [(2, .class_ 4), (1, u "java/lang/Object"), (0, u "<init>"), (0, u "()V"), (0, .class_ 8), (0, u "java/lang/Long"), (7, .class_ 18), (1, u "java/lang/Long$LongCache"), (0, u "$assertionsDisabled"), (0, u "Z"), (8, u "archivedCache"), (0, u "[Ljava/lang/Long;"), (7, u "cache")] 24

def k12m0 : Method := { name := "<init>", desc := "()V", sig := { parameters := [], returnType := none }, accessFlags := 2, code := none }
/-- java/lang/Long$LongCache -/
def k12 : Class := { plain "java/lang/Long$LongCache" (some 0) with
  accessFlags := 48
  interfaces := #[]
  cf := some (fileOf pool12 16 #[.nestHost 7] #[{ accessFlags := 2, nameIndex := 5, descriptorIndex := 6, attributes := #[] }] 48 2 #[] #[{ accessFlags := 24, nameIndex := 38, descriptorIndex := 30, attributes := #[] }, { accessFlags := 8, nameIndex := 29, descriptorIndex := 30, attributes := #[] }, { accessFlags := 4120, nameIndex := 19, descriptorIndex := 20, attributes := #[] }])
  fields := #[{ name := "cache", type := (.array (.object "java/lang/Long")), accessFlags := 24, slot := 0, constantValue := 0 }, { name := "archivedCache", type := (.array (.object "java/lang/Long")), accessFlags := 8, slot := 1, constantValue := 0 }, { name := "$assertionsDisabled", type := .boolean, accessFlags := 4120, slot := 2, constantValue := 0 }]
  methods := #[k12m0]
  instanceTypes := #[]
  staticTypes := #[(.array (.object "java/lang/Long")), (.array (.object "java/lang/Long")), .boolean]
  resolved := Array.replicate 63 none
  statics := some 1 }

def pool13 : Array CpInfo := pool [(2, .class_ 4), (1, u "java/lang/Object"), (0, u "<init>"), (0, u "()V"), (17, .class_ 26), (1, u "jdk/internal/util/Preconditions"), (28, .class_ 56), (0, u "jdk/internal/util/Preconditions$4"), (57, .class_ 115), (0, u "jdk/internal/util/Preconditions$1"), (7, u "SIOOBE_FORMATTER"), (0, u "Ljava/util/function/BiFunction;"), (0, .class_ 126), (0, u "jdk/internal/util/Preconditions$2"), (3, u "AIOOBE_FORMATTER"), (0, .class_ 132), (0, u "jdk/internal/util/Preconditions$3"), (3, u "IOOBE_FORMATTER")] 57

def k13m0 : Method := { name := "<init>", desc := "()V", sig := { parameters := [], returnType := none }, accessFlags := 1, code := none }
/-- jdk/internal/util/Preconditions -/
def k13 : Class := { plain "jdk/internal/util/Preconditions" (some 0) with
  accessFlags := 33
  interfaces := #[]
  cf := some (fileOf pool13 24 #[.nestMembers #[55, 131, 125, 114]] #[{ accessFlags := 1, nameIndex := 5, descriptorIndex := 6, attributes := #[] }] 33 2 #[] #[{ accessFlags := 25, nameIndex := 123, descriptorIndex := 124, attributes := #[] }, { accessFlags := 25, nameIndex := 130, descriptorIndex := 124, attributes := #[] }, { accessFlags := 25, nameIndex := 136, descriptorIndex := 124, attributes := #[] }])
  fields := #[{ name := "SIOOBE_FORMATTER", type := (.object "java/util/function/BiFunction"), accessFlags := 25, slot := 0, constantValue := 0 }, { name := "AIOOBE_FORMATTER", type := (.object "java/util/function/BiFunction"), accessFlags := 25, slot := 1, constantValue := 0 }, { name := "IOOBE_FORMATTER", type := (.object "java/util/function/BiFunction"), accessFlags := 25, slot := 2, constantValue := 0 }]
  methods := #[k13m0]
  instanceTypes := #[]
  staticTypes := #[(.object "java/util/function/BiFunction"), (.object "java/util/function/BiFunction"), (.object "java/util/function/BiFunction")]
  resolved := Array.replicate 194 none
  statics := some 2 }

def pool14 : Array CpInfo := pool [(9, u "<init>"), (6, .class_ 18), (1, u "java/lang/Object"), (0, u "()V"), (1, .class_ 23), (1, u "jdk/internal/util/ArraysSupport"), (0, u "LOG2_ARRAY_LONG_INDEX_SCALE"), (0, u "I"), (2, u "U"), (0, u "Ljdk/internal/misc/Unsafe;"), (8, u "BIG_ENDIAN"), (0, u "Z"), (8, u "LOG2_BYTE_BIT_SIZE"), (4, u "LOG2_ARRAY_INT_INDEX_SCALE"), (54, u "JLA"), (0, u "Ljdk/internal/access/JavaLangAccess;"), (11, u "LOG2_ARRAY_BOOLEAN_INDEX_SCALE"), (9, u "LOG2_ARRAY_BYTE_INDEX_SCALE"), (5, u "LOG2_ARRAY_CHAR_INDEX_SCALE"), (5, u "LOG2_ARRAY_SHORT_INDEX_SCALE"), (18, u "LOG2_ARRAY_FLOAT_INDEX_SCALE"), (24, u "LOG2_ARRAY_DOUBLE_INDEX_SCALE"), (89, u "T_BOOLEAN"), (2, u "T_CHAR"), (1, u "T_FLOAT"), (1, u "T_DOUBLE"), (1, u "T_BYTE"), (1, u "T_SHORT"), (1, u "T_INT"), (1, u "T_LONG"), (1, u "SOFT_MAX_ARRAY_LENGTH")] 83

def k14m0 : Method := { name := "<init>", desc := "()V", sig := { parameters := [], returnType := none }, accessFlags := 2, code := none }
/-- jdk/internal/util/ArraysSupport -/
def k14 : Class := { plain "jdk/internal/util/ArraysSupport" (some 0) with
  accessFlags := 33
  interfaces := #[]
  cf := some (fileOf pool14 21 #[] #[{ accessFlags := 2, nameIndex := 9, descriptorIndex := 19, attributes := #[] }] 33 16 #[] #[{ accessFlags := 24, nameIndex := 28, descriptorIndex := 29, attributes := #[] }, { accessFlags := 26, nameIndex := 38, descriptorIndex := 39, attributes := #[] }, { accessFlags := 25, nameIndex := 121, descriptorIndex := 25, attributes := #[] }, { accessFlags := 25, nameIndex := 131, descriptorIndex := 25, attributes := #[] }, { accessFlags := 25, nameIndex := 137, descriptorIndex := 25, attributes := #[] }, { accessFlags := 25, nameIndex := 143, descriptorIndex := 25, attributes := #[] }, { accessFlags := 25, nameIndex := 53, descriptorIndex := 25, attributes := #[] }, { accessFlags := 25, nameIndex := 24, descriptorIndex := 25, attributes := #[] }, { accessFlags := 25, nameIndex := 162, descriptorIndex := 25, attributes := #[] }, { accessFlags := 25, nameIndex := 187, descriptorIndex := 25, attributes := #[] }, { accessFlags := 26, nameIndex := 48, descriptorIndex := 25, attributes := #[] }, { accessFlags := 25, nameIndex := 277, descriptorIndex := 25, attributes := #[] }, { accessFlags := 25, nameIndex := 280, descriptorIndex := 25, attributes := #[] }, { accessFlags := 25, nameIndex := 282, descriptorIndex := 25, attributes := #[] }, { accessFlags := 25, nameIndex := 284, descriptorIndex := 25, attributes := #[] }, { accessFlags := 25, nameIndex := 286, descriptorIndex := 25, attributes := #[] }, { accessFlags := 25, nameIndex := 288, descriptorIndex := 25, attributes := #[] }, { accessFlags := 25, nameIndex := 290, descriptorIndex := 25, attributes := #[] }, { accessFlags := 25, nameIndex := 292, descriptorIndex := 25, attributes := #[] }, { accessFlags := 26, nameIndex := 108, descriptorIndex := 109, attributes := #[] }, { accessFlags := 25, nameIndex := 294, descriptorIndex := 25, attributes := #[] }])
  fields := #[{ name := "U", type := (.object "jdk/internal/misc/Unsafe"), accessFlags := 24, slot := 0, constantValue := 0 }, { name := "BIG_ENDIAN", type := .boolean, accessFlags := 26, slot := 1, constantValue := 0 }, { name := "LOG2_ARRAY_BOOLEAN_INDEX_SCALE", type := .int, accessFlags := 25, slot := 2, constantValue := 0 }, { name := "LOG2_ARRAY_BYTE_INDEX_SCALE", type := .int, accessFlags := 25, slot := 3, constantValue := 0 }, { name := "LOG2_ARRAY_CHAR_INDEX_SCALE", type := .int, accessFlags := 25, slot := 4, constantValue := 0 }, { name := "LOG2_ARRAY_SHORT_INDEX_SCALE", type := .int, accessFlags := 25, slot := 5, constantValue := 0 }, { name := "LOG2_ARRAY_INT_INDEX_SCALE", type := .int, accessFlags := 25, slot := 6, constantValue := 0 }, { name := "LOG2_ARRAY_LONG_INDEX_SCALE", type := .int, accessFlags := 25, slot := 7, constantValue := 0 }, { name := "LOG2_ARRAY_FLOAT_INDEX_SCALE", type := .int, accessFlags := 25, slot := 8, constantValue := 0 }, { name := "LOG2_ARRAY_DOUBLE_INDEX_SCALE", type := .int, accessFlags := 25, slot := 9, constantValue := 0 }, { name := "LOG2_BYTE_BIT_SIZE", type := .int, accessFlags := 26, slot := 10, constantValue := 0 }, { name := "T_BOOLEAN", type := .int, accessFlags := 25, slot := 11, constantValue := 0 }, { name := "T_CHAR", type := .int, accessFlags := 25, slot := 12, constantValue := 0 }, { name := "T_FLOAT", type := .int, accessFlags := 25, slot := 13, constantValue := 0 }, { name := "T_DOUBLE", type := .int, accessFlags := 25, slot := 14, constantValue := 0 }, { name := "T_BYTE", type := .int, accessFlags := 25, slot := 15, constantValue := 0 }, { name := "T_SHORT", type := .int, accessFlags := 25, slot := 16, constantValue := 0 }, { name := "T_INT", type := .int, accessFlags := 25, slot := 17, constantValue := 0 }, { name := "T_LONG", type := .int, accessFlags := 25, slot := 18, constantValue := 0 }, { name := "JLA", type := (.object "jdk/internal/access/JavaLangAccess"), accessFlags := 26, slot := 19, constantValue := 0 }, { name := "SOFT_MAX_ARRAY_LENGTH", type := .int, accessFlags := 25, slot := 20, constantValue := 0 }]
  methods := #[k14m0]
  instanceTypes := #[]
  staticTypes := #[(.object "jdk/internal/misc/Unsafe"), .boolean, .int, .int, .int, .int, .int, .int, .int, .int, .int, .int, .int, .int, .int, .int, .int, .int, .int, (.object "jdk/internal/access/JavaLangAccess"), .int]
  resolved := Array.replicate 378 none
  statics := none }

def pool15 : Array CpInfo := pool [(1, u "java/lang/Cloneable"), (0, .class_ 1), (0, u "java/lang/Object"), (0, .class_ 3)] 3

/-- java/lang/Cloneable -/
def k15 : Class := { plain "java/lang/Cloneable" (some 0) with
  accessFlags := 1537
  interfaces := #[]
  cf := some (fileOf pool15 2 #[] #[] 1537 4 #[] #[])
  fields := #[]
  methods := #[]
  instanceTypes := #[]
  staticTypes := #[]
  resolved := Array.replicate 8 none
  statics := none }

/-- the primitive byte -/
def k16 : Class := { plain "byte" none with kind := .primitive 'B', accessFlags := 0x411 }
/-- [B -/
def k17 : Class := { plain "[B" (some 0) with kind := .array 16 .byte, interfaces := #[15, 3], accessFlags := 1041 }

/-- the primitive int -/
def k18 : Class := { plain "int" none with kind := .primitive 'I', accessFlags := 0x411 }
/-- [I -/
def k19 : Class := { plain "[I" (some 0) with kind := .array 18 .int, interfaces := #[15, 3], accessFlags := 1041 }

/-- [Ljava/lang/Long; -/
def k20 : Class := { plain "[Ljava/lang/Long;" (some 0) with kind := .array 11 (.object "java/lang/Long"), interfaces := #[15, 3], accessFlags := 1041 }

def heap : Heap := #[{ cls := 8, slots := #[.long 0, .int 1, .null, .int 0, .null, .int 0, .int 0], vm := .statics 8 },
  { cls := 12, slots := #[.ref 3, .null, .int 0], vm := .statics 12 },
  { cls := 13, slots := #[.null, .null, .null], vm := .statics 13 },
  { cls := 20, slots := #[.ref 4, .ref 5, .ref 6, .ref 7, .ref 8, .ref 9, .ref 10, .ref 11, .ref 12, .ref 13, .ref 14, .ref 15, .ref 16, .ref 17, .ref 18, .ref 19, .ref 20, .ref 21, .ref 22, .ref 23, .ref 24, .ref 25, .ref 26, .ref 27, .ref 28, .ref 29, .ref 30, .ref 31, .ref 32, .ref 33, .ref 34, .ref 35, .ref 36, .ref 37, .ref 38, .ref 39, .ref 40, .ref 41, .ref 42, .ref 43, .ref 44, .ref 45, .ref 46, .ref 47, .ref 48, .ref 49, .ref 50, .ref 51, .ref 52, .ref 53, .ref 54, .ref 55, .ref 56, .ref 57, .ref 58, .ref 59, .ref 60, .ref 61, .ref 62, .ref 63, .ref 64, .ref 65, .ref 66, .ref 67, .ref 68, .ref 69, .ref 70, .ref 71, .ref 72, .ref 73, .ref 74, .ref 75, .ref 76, .ref 77, .ref 78, .ref 79, .ref 80, .ref 81, .ref 82, .ref 83, .ref 84, .ref 85, .ref 86, .ref 87, .ref 88, .ref 89, .ref 90, .ref 91, .ref 92, .ref 93, .ref 94, .ref 95, .ref 96, .ref 97, .ref 98, .ref 99, .ref 100, .ref 101, .ref 102, .ref 103, .ref 104, .ref 105, .ref 106, .ref 107, .ref 108, .ref 109, .ref 110, .ref 111, .ref 112, .ref 113, .ref 114, .ref 115, .ref 116, .ref 117, .ref 118, .ref 119, .ref 120, .ref 121, .ref 122, .ref 123, .ref 124, .ref 125, .ref 126, .ref 127, .ref 128, .ref 129, .ref 130, .ref 131, .ref 132, .ref 133, .ref 134, .ref 135, .ref 136, .ref 137, .ref 138, .ref 139, .ref 140, .ref 141, .ref 142, .ref 143, .ref 144, .ref 145, .ref 146, .ref 147, .ref 148, .ref 149, .ref 150, .ref 151, .ref 152, .ref 153, .ref 154, .ref 155, .ref 156, .ref 157, .ref 158, .ref 159, .ref 160, .ref 161, .ref 162, .ref 163, .ref 164, .ref 165, .ref 166, .ref 167, .ref 168, .ref 169, .ref 170, .ref 171, .ref 172, .ref 173, .ref 174, .ref 175, .ref 176, .ref 177, .ref 178, .ref 179, .ref 180, .ref 181, .ref 182, .ref 183, .ref 184, .ref 185, .ref 186, .ref 187, .ref 188, .ref 189, .ref 190, .ref 191, .ref 192, .ref 193, .ref 194, .ref 195, .ref 196, .ref 197, .ref 198, .ref 199, .ref 200, .ref 201, .ref 202, .ref 203, .ref 204, .ref 205, .ref 206, .ref 207, .ref 208, .ref 209, .ref 210, .ref 211, .ref 212, .ref 213, .ref 214, .ref 215, .ref 216, .ref 217, .ref 218, .ref 219, .ref 220, .ref 221, .ref 222, .ref 223, .ref 224, .ref 225, .ref 226, .ref 227, .ref 228, .ref 229, .ref 230, .ref 231, .ref 232, .ref 233, .ref 234, .ref 235, .ref 236, .ref 237, .ref 238, .ref 239, .ref 240, .ref 241, .ref 242, .ref 243, .ref 244, .ref 245, .ref 246, .ref 247, .ref 248, .ref 249, .ref 250, .ref 251, .ref 252, .ref 253, .ref 254, .ref 255, .ref 256, .ref 257, .ref 258, .ref 259], vm := .none },
  { cls := 11, slots := #[.long (-128)], vm := .none },
  { cls := 11, slots := #[.long (-127)], vm := .none },
  { cls := 11, slots := #[.long (-126)], vm := .none },
  { cls := 11, slots := #[.long (-125)], vm := .none },
  { cls := 11, slots := #[.long (-124)], vm := .none },
  { cls := 11, slots := #[.long (-123)], vm := .none },
  { cls := 11, slots := #[.long (-122)], vm := .none },
  { cls := 11, slots := #[.long (-121)], vm := .none },
  { cls := 11, slots := #[.long (-120)], vm := .none },
  { cls := 11, slots := #[.long (-119)], vm := .none },
  { cls := 11, slots := #[.long (-118)], vm := .none },
  { cls := 11, slots := #[.long (-117)], vm := .none },
  { cls := 11, slots := #[.long (-116)], vm := .none },
  { cls := 11, slots := #[.long (-115)], vm := .none },
  { cls := 11, slots := #[.long (-114)], vm := .none },
  { cls := 11, slots := #[.long (-113)], vm := .none },
  { cls := 11, slots := #[.long (-112)], vm := .none },
  { cls := 11, slots := #[.long (-111)], vm := .none },
  { cls := 11, slots := #[.long (-110)], vm := .none },
  { cls := 11, slots := #[.long (-109)], vm := .none },
  { cls := 11, slots := #[.long (-108)], vm := .none },
  { cls := 11, slots := #[.long (-107)], vm := .none },
  { cls := 11, slots := #[.long (-106)], vm := .none },
  { cls := 11, slots := #[.long (-105)], vm := .none },
  { cls := 11, slots := #[.long (-104)], vm := .none },
  { cls := 11, slots := #[.long (-103)], vm := .none },
  { cls := 11, slots := #[.long (-102)], vm := .none },
  { cls := 11, slots := #[.long (-101)], vm := .none },
  { cls := 11, slots := #[.long (-100)], vm := .none },
  { cls := 11, slots := #[.long (-99)], vm := .none },
  { cls := 11, slots := #[.long (-98)], vm := .none },
  { cls := 11, slots := #[.long (-97)], vm := .none },
  { cls := 11, slots := #[.long (-96)], vm := .none },
  { cls := 11, slots := #[.long (-95)], vm := .none },
  { cls := 11, slots := #[.long (-94)], vm := .none },
  { cls := 11, slots := #[.long (-93)], vm := .none },
  { cls := 11, slots := #[.long (-92)], vm := .none },
  { cls := 11, slots := #[.long (-91)], vm := .none },
  { cls := 11, slots := #[.long (-90)], vm := .none },
  { cls := 11, slots := #[.long (-89)], vm := .none },
  { cls := 11, slots := #[.long (-88)], vm := .none },
  { cls := 11, slots := #[.long (-87)], vm := .none },
  { cls := 11, slots := #[.long (-86)], vm := .none },
  { cls := 11, slots := #[.long (-85)], vm := .none },
  { cls := 11, slots := #[.long (-84)], vm := .none },
  { cls := 11, slots := #[.long (-83)], vm := .none },
  { cls := 11, slots := #[.long (-82)], vm := .none },
  { cls := 11, slots := #[.long (-81)], vm := .none },
  { cls := 11, slots := #[.long (-80)], vm := .none },
  { cls := 11, slots := #[.long (-79)], vm := .none },
  { cls := 11, slots := #[.long (-78)], vm := .none },
  { cls := 11, slots := #[.long (-77)], vm := .none },
  { cls := 11, slots := #[.long (-76)], vm := .none },
  { cls := 11, slots := #[.long (-75)], vm := .none },
  { cls := 11, slots := #[.long (-74)], vm := .none },
  { cls := 11, slots := #[.long (-73)], vm := .none },
  { cls := 11, slots := #[.long (-72)], vm := .none },
  { cls := 11, slots := #[.long (-71)], vm := .none },
  { cls := 11, slots := #[.long (-70)], vm := .none },
  { cls := 11, slots := #[.long (-69)], vm := .none },
  { cls := 11, slots := #[.long (-68)], vm := .none },
  { cls := 11, slots := #[.long (-67)], vm := .none },
  { cls := 11, slots := #[.long (-66)], vm := .none },
  { cls := 11, slots := #[.long (-65)], vm := .none },
  { cls := 11, slots := #[.long (-64)], vm := .none },
  { cls := 11, slots := #[.long (-63)], vm := .none },
  { cls := 11, slots := #[.long (-62)], vm := .none },
  { cls := 11, slots := #[.long (-61)], vm := .none },
  { cls := 11, slots := #[.long (-60)], vm := .none },
  { cls := 11, slots := #[.long (-59)], vm := .none },
  { cls := 11, slots := #[.long (-58)], vm := .none },
  { cls := 11, slots := #[.long (-57)], vm := .none },
  { cls := 11, slots := #[.long (-56)], vm := .none },
  { cls := 11, slots := #[.long (-55)], vm := .none },
  { cls := 11, slots := #[.long (-54)], vm := .none },
  { cls := 11, slots := #[.long (-53)], vm := .none },
  { cls := 11, slots := #[.long (-52)], vm := .none },
  { cls := 11, slots := #[.long (-51)], vm := .none },
  { cls := 11, slots := #[.long (-50)], vm := .none },
  { cls := 11, slots := #[.long (-49)], vm := .none },
  { cls := 11, slots := #[.long (-48)], vm := .none },
  { cls := 11, slots := #[.long (-47)], vm := .none },
  { cls := 11, slots := #[.long (-46)], vm := .none },
  { cls := 11, slots := #[.long (-45)], vm := .none },
  { cls := 11, slots := #[.long (-44)], vm := .none },
  { cls := 11, slots := #[.long (-43)], vm := .none },
  { cls := 11, slots := #[.long (-42)], vm := .none },
  { cls := 11, slots := #[.long (-41)], vm := .none },
  { cls := 11, slots := #[.long (-40)], vm := .none },
  { cls := 11, slots := #[.long (-39)], vm := .none },
  { cls := 11, slots := #[.long (-38)], vm := .none },
  { cls := 11, slots := #[.long (-37)], vm := .none },
  { cls := 11, slots := #[.long (-36)], vm := .none },
  { cls := 11, slots := #[.long (-35)], vm := .none },
  { cls := 11, slots := #[.long (-34)], vm := .none },
  { cls := 11, slots := #[.long (-33)], vm := .none },
  { cls := 11, slots := #[.long (-32)], vm := .none },
  { cls := 11, slots := #[.long (-31)], vm := .none },
  { cls := 11, slots := #[.long (-30)], vm := .none },
  { cls := 11, slots := #[.long (-29)], vm := .none },
  { cls := 11, slots := #[.long (-28)], vm := .none },
  { cls := 11, slots := #[.long (-27)], vm := .none },
  { cls := 11, slots := #[.long (-26)], vm := .none },
  { cls := 11, slots := #[.long (-25)], vm := .none },
  { cls := 11, slots := #[.long (-24)], vm := .none },
  { cls := 11, slots := #[.long (-23)], vm := .none },
  { cls := 11, slots := #[.long (-22)], vm := .none },
  { cls := 11, slots := #[.long (-21)], vm := .none },
  { cls := 11, slots := #[.long (-20)], vm := .none },
  { cls := 11, slots := #[.long (-19)], vm := .none },
  { cls := 11, slots := #[.long (-18)], vm := .none },
  { cls := 11, slots := #[.long (-17)], vm := .none },
  { cls := 11, slots := #[.long (-16)], vm := .none },
  { cls := 11, slots := #[.long (-15)], vm := .none },
  { cls := 11, slots := #[.long (-14)], vm := .none },
  { cls := 11, slots := #[.long (-13)], vm := .none },
  { cls := 11, slots := #[.long (-12)], vm := .none },
  { cls := 11, slots := #[.long (-11)], vm := .none },
  { cls := 11, slots := #[.long (-10)], vm := .none },
  { cls := 11, slots := #[.long (-9)], vm := .none },
  { cls := 11, slots := #[.long (-8)], vm := .none },
  { cls := 11, slots := #[.long (-7)], vm := .none },
  { cls := 11, slots := #[.long (-6)], vm := .none },
  { cls := 11, slots := #[.long (-5)], vm := .none },
  { cls := 11, slots := #[.long (-4)], vm := .none },
  { cls := 11, slots := #[.long (-3)], vm := .none },
  { cls := 11, slots := #[.long (-2)], vm := .none },
  { cls := 11, slots := #[.long (-1)], vm := .none },
  { cls := 11, slots := #[.long (0)], vm := .none },
  { cls := 11, slots := #[.long (1)], vm := .none },
  { cls := 11, slots := #[.long (2)], vm := .none },
  { cls := 11, slots := #[.long (3)], vm := .none },
  { cls := 11, slots := #[.long (4)], vm := .none },
  { cls := 11, slots := #[.long (5)], vm := .none },
  { cls := 11, slots := #[.long (6)], vm := .none },
  { cls := 11, slots := #[.long (7)], vm := .none },
  { cls := 11, slots := #[.long (8)], vm := .none },
  { cls := 11, slots := #[.long (9)], vm := .none },
  { cls := 11, slots := #[.long (10)], vm := .none },
  { cls := 11, slots := #[.long (11)], vm := .none },
  { cls := 11, slots := #[.long (12)], vm := .none },
  { cls := 11, slots := #[.long (13)], vm := .none },
  { cls := 11, slots := #[.long (14)], vm := .none },
  { cls := 11, slots := #[.long (15)], vm := .none },
  { cls := 11, slots := #[.long (16)], vm := .none },
  { cls := 11, slots := #[.long (17)], vm := .none },
  { cls := 11, slots := #[.long (18)], vm := .none },
  { cls := 11, slots := #[.long (19)], vm := .none },
  { cls := 11, slots := #[.long (20)], vm := .none },
  { cls := 11, slots := #[.long (21)], vm := .none },
  { cls := 11, slots := #[.long (22)], vm := .none },
  { cls := 11, slots := #[.long (23)], vm := .none },
  { cls := 11, slots := #[.long (24)], vm := .none },
  { cls := 11, slots := #[.long (25)], vm := .none },
  { cls := 11, slots := #[.long (26)], vm := .none },
  { cls := 11, slots := #[.long (27)], vm := .none },
  { cls := 11, slots := #[.long (28)], vm := .none },
  { cls := 11, slots := #[.long (29)], vm := .none },
  { cls := 11, slots := #[.long (30)], vm := .none },
  { cls := 11, slots := #[.long (31)], vm := .none },
  { cls := 11, slots := #[.long (32)], vm := .none },
  { cls := 11, slots := #[.long (33)], vm := .none },
  { cls := 11, slots := #[.long (34)], vm := .none },
  { cls := 11, slots := #[.long (35)], vm := .none },
  { cls := 11, slots := #[.long (36)], vm := .none },
  { cls := 11, slots := #[.long (37)], vm := .none },
  { cls := 11, slots := #[.long (38)], vm := .none },
  { cls := 11, slots := #[.long (39)], vm := .none },
  { cls := 11, slots := #[.long (40)], vm := .none },
  { cls := 11, slots := #[.long (41)], vm := .none },
  { cls := 11, slots := #[.long (42)], vm := .none },
  { cls := 11, slots := #[.long (43)], vm := .none },
  { cls := 11, slots := #[.long (44)], vm := .none },
  { cls := 11, slots := #[.long (45)], vm := .none },
  { cls := 11, slots := #[.long (46)], vm := .none },
  { cls := 11, slots := #[.long (47)], vm := .none },
  { cls := 11, slots := #[.long (48)], vm := .none },
  { cls := 11, slots := #[.long (49)], vm := .none },
  { cls := 11, slots := #[.long (50)], vm := .none },
  { cls := 11, slots := #[.long (51)], vm := .none },
  { cls := 11, slots := #[.long (52)], vm := .none },
  { cls := 11, slots := #[.long (53)], vm := .none },
  { cls := 11, slots := #[.long (54)], vm := .none },
  { cls := 11, slots := #[.long (55)], vm := .none },
  { cls := 11, slots := #[.long (56)], vm := .none },
  { cls := 11, slots := #[.long (57)], vm := .none },
  { cls := 11, slots := #[.long (58)], vm := .none },
  { cls := 11, slots := #[.long (59)], vm := .none },
  { cls := 11, slots := #[.long (60)], vm := .none },
  { cls := 11, slots := #[.long (61)], vm := .none },
  { cls := 11, slots := #[.long (62)], vm := .none },
  { cls := 11, slots := #[.long (63)], vm := .none },
  { cls := 11, slots := #[.long (64)], vm := .none },
  { cls := 11, slots := #[.long (65)], vm := .none },
  { cls := 11, slots := #[.long (66)], vm := .none },
  { cls := 11, slots := #[.long (67)], vm := .none },
  { cls := 11, slots := #[.long (68)], vm := .none },
  { cls := 11, slots := #[.long (69)], vm := .none },
  { cls := 11, slots := #[.long (70)], vm := .none },
  { cls := 11, slots := #[.long (71)], vm := .none },
  { cls := 11, slots := #[.long (72)], vm := .none },
  { cls := 11, slots := #[.long (73)], vm := .none },
  { cls := 11, slots := #[.long (74)], vm := .none },
  { cls := 11, slots := #[.long (75)], vm := .none },
  { cls := 11, slots := #[.long (76)], vm := .none },
  { cls := 11, slots := #[.long (77)], vm := .none },
  { cls := 11, slots := #[.long (78)], vm := .none },
  { cls := 11, slots := #[.long (79)], vm := .none },
  { cls := 11, slots := #[.long (80)], vm := .none },
  { cls := 11, slots := #[.long (81)], vm := .none },
  { cls := 11, slots := #[.long (82)], vm := .none },
  { cls := 11, slots := #[.long (83)], vm := .none },
  { cls := 11, slots := #[.long (84)], vm := .none },
  { cls := 11, slots := #[.long (85)], vm := .none },
  { cls := 11, slots := #[.long (86)], vm := .none },
  { cls := 11, slots := #[.long (87)], vm := .none },
  { cls := 11, slots := #[.long (88)], vm := .none },
  { cls := 11, slots := #[.long (89)], vm := .none },
  { cls := 11, slots := #[.long (90)], vm := .none },
  { cls := 11, slots := #[.long (91)], vm := .none },
  { cls := 11, slots := #[.long (92)], vm := .none },
  { cls := 11, slots := #[.long (93)], vm := .none },
  { cls := 11, slots := #[.long (94)], vm := .none },
  { cls := 11, slots := #[.long (95)], vm := .none },
  { cls := 11, slots := #[.long (96)], vm := .none },
  { cls := 11, slots := #[.long (97)], vm := .none },
  { cls := 11, slots := #[.long (98)], vm := .none },
  { cls := 11, slots := #[.long (99)], vm := .none },
  { cls := 11, slots := #[.long (100)], vm := .none },
  { cls := 11, slots := #[.long (101)], vm := .none },
  { cls := 11, slots := #[.long (102)], vm := .none },
  { cls := 11, slots := #[.long (103)], vm := .none },
  { cls := 11, slots := #[.long (104)], vm := .none },
  { cls := 11, slots := #[.long (105)], vm := .none },
  { cls := 11, slots := #[.long (106)], vm := .none },
  { cls := 11, slots := #[.long (107)], vm := .none },
  { cls := 11, slots := #[.long (108)], vm := .none },
  { cls := 11, slots := #[.long (109)], vm := .none },
  { cls := 11, slots := #[.long (110)], vm := .none },
  { cls := 11, slots := #[.long (111)], vm := .none },
  { cls := 11, slots := #[.long (112)], vm := .none },
  { cls := 11, slots := #[.long (113)], vm := .none },
  { cls := 11, slots := #[.long (114)], vm := .none },
  { cls := 11, slots := #[.long (115)], vm := .none },
  { cls := 11, slots := #[.long (116)], vm := .none },
  { cls := 11, slots := #[.long (117)], vm := .none },
  { cls := 11, slots := #[.long (118)], vm := .none },
  { cls := 11, slots := #[.long (119)], vm := .none },
  { cls := 11, slots := #[.long (120)], vm := .none },
  { cls := 11, slots := #[.long (121)], vm := .none },
  { cls := 11, slots := #[.long (122)], vm := .none },
  { cls := 11, slots := #[.long (123)], vm := .none },
  { cls := 11, slots := #[.long (124)], vm := .none },
  { cls := 11, slots := #[.long (125)], vm := .none },
  { cls := 11, slots := #[.long (126)], vm := .none },
  { cls := 11, slots := #[.long (127)], vm := .none }]
def classes : Array Class := #[k0, k1, k2, k3, k4, k5, k6, k7, k8, k9, k10, k11, k12, k13, k14, k15, k16, k17, k18, k19, k20]
def interned : List (Array UInt16 × Addr) := []
def slotsUsed : Nat := 525
def theMethod : MethodId := ⟨1, 1⟩
def args0 : Array Value := #[.long 0, .long 0, .long 0, .long 0, .int 0]
def aboutOver (below : List Frame) : State where
  vm := { classes := classes, interned := interned.toArray }
  heap := heap
  slotsUsed := slotsUsed
  threads := #[{ frames := .invoking theMethod args0 :: below }]
def below0 : List Frame := [.native { method := ⟨0, 0⟩, args := #[] }]
def about1 : State := aboutOver below0
def p0 : Program := .bare "" "" ""
def e0 : Env := launch0.env 0 0 0
theorem w_frames : about1.frames = Frame.invoking theMethod args0 :: below0 := rfl
set_option maxRecDepth 65536 in
theorem w_args : argsFit about1.vm theMethod args0 = true := by decide +kernel
set_option maxRecDepth 65536 in
theorem w_heap : heapFits about1 = true := by decide +kernel
set_option maxRecDepth 65536 in
theorem w_runnable : about1.curStatus? = some .runnable := by decide +kernel
set_option maxRecDepth 65536 in
theorem w_alone : about1.alone = true := by decide +kernel
set_option maxRecDepth 65536 in
theorem w_named : about1.methodNamed? x = some theMethod := by decide +kernel
set_option maxRecDepth 65536 in
theorem w_hears : about1.hears theMethod below0 = true := by decide +kernel
set_option maxRecDepth 65536 in
theorem w_ripe : about1.ripe theMethod args0 below0 = true := by decide +kernel
theorem w_running : about1.status = .running := rfl
set_option maxRecDepth 65536 in
theorem w_room : about1.hasRoom e0.platform room_1 = true :=
  launch0.hasRoom_least _ room_1 (by decide +kernel) (by decide +kernel) (by decide +kernel) (by decide +kernel) (by decide +kernel) (by decide +kernel)
theorem allAtoms_all (ts : List Jvm.Cond) (a : Array Jvm.Value) (st : Jvm.State) : (allAtoms ts).before a st = ts.all (fun c => c.before a st) := by
  induction ts with
  | nil => rfl
  | cons c t ih =>
    show (Jvm.Cond.and c (allAtoms t)).before a st = _
    rw [Jvm.Cond.before_and, ih, List.all_cons]
def words1 : List Jvm.Cond := Jvm.Cond.code x code maxLocals ret :: tables_1
/-- a 'code' word, met by the world's own term for the bytes: nothing is compared byte by byte -/
theorem code_word {y : MethodName} {bytes : ByteArray} {mx : Nat} {rt : Option FieldType} {a : Array Value} {s : State} {m : MethodId} {meth : Method} {c : Code} (h1 : s.methodNamed? y = some m) (h2 : s.vm.method? m = some meth) (h3 : meth.code = some c) (h4 : c.code = bytes)
    (h5 : (c.maxLocals == mx && c.exceptionTable.isEmpty && decide (c.maxStack ≤ mostOperands) && decide (meth.sig.returnType = rt) && !meth.locks && decide (parseMethodDescriptor y.desc = some meth.sig)) = true) : (Jvm.Cond.code y bytes mx rt).before a s = true := by
  simp only [Bool.and_eq_true, beq_iff_eq, Bool.not_eq_true', decide_eq_true_eq] at h5
  obtain ⟨⟨⟨⟨⟨g1, g2⟩, g3⟩, g4⟩, g5⟩, g6⟩ := h5
  simp [Cond.before, Cond.holds, Cond.value, h1, h2, h3, h4, g1, g2, g3, g4, g5, g6]
def isCode : Jvm.Cond → Bool
  | .code _ _ _ _ => true
  | _ => false
theorem all_split {L : List Jvm.Cond} {P : Jvm.Cond → Bool} (h1 : L.all (fun c => isCode c || P c) = true) (h2 : ∀ c ∈ L.filter isCode, P c = true) : L.all P = true := by
  refine List.all_eq_true.mpr fun c hc => ?_
  have h := List.all_eq_true.mp h1 c hc
  rcases Bool.eq_false_or_eq_true (isCode c) with hi | hi
  · exact h2 c (List.mem_filter.mpr ⟨hc, hi⟩)
  · simpa [hi] using h
set_option maxRecDepth 65536 in
theorem w_c0 : (Jvm.Cond.code x code maxLocals ret).before args0 about1 = true := code_word (m := ⟨1, 1⟩) (meth := k1m1) (c := k1c1) (by decide +kernel) rfl rfl rfl (by decide +kernel)
set_option maxRecDepth 65536 in
theorem w_c1 : (Jvm.Cond.code ({ cls := "com/example/semel/semel/log/TimestampedOffset", name := "<init>", desc := "(JJ)V" } : Jvm.MethodName) prog_37_method_1_code (5 : Nat) (Option.none : Option Jvm.ClassFile.FieldType)).before args0 about1 = true := code_word (m := ⟨2, 0⟩) (meth := k2m0) (c := k2c0) (by decide +kernel) rfl rfl rfl (by decide +kernel)
set_option maxRecDepth 65536 in
theorem w_c2 : (Jvm.Cond.code ({ cls := "java/lang/Object", name := "<init>", desc := "()V" } : Jvm.MethodName) object_method_1_code (1 : Nat) (Option.none : Option Jvm.ClassFile.FieldType)).before args0 about1 = true := code_word (m := ⟨0, 0⟩) (meth := k0m0) (c := k0c0) (by decide +kernel) rfl rfl rfl (by decide +kernel)
set_option maxRecDepth 65536 in
theorem w_c3 : (Jvm.Cond.code ({ cls := "com/example/semel/semel/log/TimestampedOffset", name := "equals", desc := "(Ljava/lang/Object;)Z" } : Jvm.MethodName) prog_37_method_4_code (3 : Nat) (Option.some Jvm.ClassFile.FieldType.boolean)).before args0 about1 = true := code_word (m := ⟨2, 1⟩) (meth := k2m1) (c := k2c1) (by decide +kernel) rfl rfl rfl (by decide +kernel)
set_option maxRecDepth 65536 in
theorem w_c4 : (Jvm.Cond.code ({ cls := "java/lang/String", name := "valueOf", desc := "(C)Ljava/lang/String;" } : Jvm.MethodName) jdk_42_method_139_code (1 : Nat) (Option.some (Jvm.ClassFile.FieldType.object "java/lang/String"))).before args0 about1 = true := code_word (m := ⟨8, 1⟩) (meth := k8m1) (c := k8c1) (by decide +kernel) rfl rfl rfl (by decide +kernel)
set_option maxRecDepth 65536 in
theorem w_c5 : (Jvm.Cond.code ({ cls := "java/lang/StringLatin1", name := "canEncode", desc := "(C)Z" } : Jvm.MethodName) jdk_43_method_3_code (1 : Nat) (Option.some Jvm.ClassFile.FieldType.boolean)).before args0 about1 = true := code_word (m := ⟨9, 1⟩) (meth := k9m1) (c := k9c1) (by decide +kernel) rfl rfl rfl (by decide +kernel)
set_option maxRecDepth 65536 in
theorem w_c6 : (Jvm.Cond.code ({ cls := "java/lang/StringLatin1", name := "toBytes", desc := "(C)[B" } : Jvm.MethodName) jdk_43_method_46_code (1 : Nat) (Option.some (Jvm.ClassFile.FieldType.array Jvm.ClassFile.FieldType.byte))).before args0 about1 = true := code_word (m := ⟨9, 2⟩) (meth := k9m2) (c := k9c2) (by decide +kernel) rfl rfl rfl (by decide +kernel)
set_option maxRecDepth 65536 in
theorem w_c7 : (Jvm.Cond.code ({ cls := "java/lang/String", name := "<init>", desc := "([BB)V" } : Jvm.MethodName) jdk_42_method_151_code (3 : Nat) (Option.none : Option Jvm.ClassFile.FieldType)).before args0 about1 = true := code_word (m := ⟨8, 2⟩) (meth := k8m2) (c := k8c2) (by decide +kernel) rfl rfl rfl (by decide +kernel)
set_option maxRecDepth 65536 in
theorem w_c8 : (Jvm.Cond.code ({ cls := "java/lang/Long", name := "valueOf", desc := "(J)Ljava/lang/Long;" } : Jvm.MethodName) jdk_35_method_24_code (3 : Nat) (Option.some (Jvm.ClassFile.FieldType.object "java/lang/Long"))).before args0 about1 = true := code_word (m := ⟨11, 0⟩) (meth := k11m0) (c := k11c0) (by decide +kernel) rfl rfl rfl (by decide +kernel)
set_option maxRecDepth 65536 in
theorem w_c9 : (Jvm.Cond.code ({ cls := "java/lang/Long", name := "<init>", desc := "(J)V" } : Jvm.MethodName) jdk_35_method_26_code (3 : Nat) (Option.none : Option Jvm.ClassFile.FieldType)).before args0 about1 = true := code_word (m := ⟨11, 1⟩) (meth := k11m1) (c := k11c1) (by decide +kernel) rfl rfl rfl (by decide +kernel)
set_option maxRecDepth 65536 in
theorem w_c10 : (Jvm.Cond.code ({ cls := "java/lang/Number", name := "<init>", desc := "()V" } : Jvm.MethodName) jdk_18_method_1_code (1 : Nat) (Option.none : Option Jvm.ClassFile.FieldType)).before args0 about1 = true := code_word (m := ⟨10, 0⟩) (meth := k10m0) (c := k10c0) (by decide +kernel) rfl rfl rfl (by decide +kernel)
def codes1 : List Jvm.Cond := [Jvm.Cond.code x code maxLocals ret, Jvm.Cond.code ({ cls := "com/example/semel/semel/log/TimestampedOffset", name := "<init>", desc := "(JJ)V" } : Jvm.MethodName) prog_37_method_1_code (5 : Nat) (Option.none : Option Jvm.ClassFile.FieldType), Jvm.Cond.code ({ cls := "java/lang/Object", name := "<init>", desc := "()V" } : Jvm.MethodName) object_method_1_code (1 : Nat) (Option.none : Option Jvm.ClassFile.FieldType), Jvm.Cond.code ({ cls := "com/example/semel/semel/log/TimestampedOffset", name := "equals", desc := "(Ljava/lang/Object;)Z" } : Jvm.MethodName) prog_37_method_4_code (3 : Nat) (Option.some Jvm.ClassFile.FieldType.boolean), Jvm.Cond.code ({ cls := "java/lang/String", name := "valueOf", desc := "(C)Ljava/lang/String;" } : Jvm.MethodName) jdk_42_method_139_code (1 : Nat) (Option.some (Jvm.ClassFile.FieldType.object "java/lang/String")), Jvm.Cond.code ({ cls := "java/lang/StringLatin1", name := "canEncode", desc := "(C)Z" } : Jvm.MethodName) jdk_43_method_3_code (1 : Nat) (Option.some Jvm.ClassFile.FieldType.boolean), Jvm.Cond.code ({ cls := "java/lang/StringLatin1", name := "toBytes", desc := "(C)[B" } : Jvm.MethodName) jdk_43_method_46_code (1 : Nat) (Option.some (Jvm.ClassFile.FieldType.array Jvm.ClassFile.FieldType.byte)), Jvm.Cond.code ({ cls := "java/lang/String", name := "<init>", desc := "([BB)V" } : Jvm.MethodName) jdk_42_method_151_code (3 : Nat) (Option.none : Option Jvm.ClassFile.FieldType), Jvm.Cond.code ({ cls := "java/lang/Long", name := "valueOf", desc := "(J)Ljava/lang/Long;" } : Jvm.MethodName) jdk_35_method_24_code (3 : Nat) (Option.some (Jvm.ClassFile.FieldType.object "java/lang/Long")), Jvm.Cond.code ({ cls := "java/lang/Long", name := "<init>", desc := "(J)V" } : Jvm.MethodName) jdk_35_method_26_code (3 : Nat) (Option.none : Option Jvm.ClassFile.FieldType), Jvm.Cond.code ({ cls := "java/lang/Number", name := "<init>", desc := "()V" } : Jvm.MethodName) jdk_18_method_1_code (1 : Nat) (Option.none : Option Jvm.ClassFile.FieldType)]
set_option maxRecDepth 65536 in
theorem codes_eq : words1.filter isCode = codes1 := rfl
theorem w_codes : ∀ c ∈ words1.filter isCode, c.before args0 about1 = true := by
  rw [codes_eq]
  intro c hc
  simp only [codes1, List.mem_cons, List.not_mem_nil, or_false] at hc
  rcases hc with rfl | rfl | rfl | rfl | rfl | rfl | rfl | rfl | rfl | rfl | rfl
  · exact w_c0
  · exact w_c1
  · exact w_c2
  · exact w_c3
  · exact w_c4
  · exact w_c5
  · exact w_c6
  · exact w_c7
  · exact w_c8
  · exact w_c9
  · exact w_c10
set_option maxRecDepth 65536 in
theorem w_t1 : (words1.take 24).all (fun c => isCode c || c.before args0 about1) = true := by decide +kernel
set_option maxRecDepth 65536 in
theorem w_t2 : ((words1.drop 24).take 24).all (fun c => isCode c || c.before args0 about1) = true := by decide +kernel
set_option maxRecDepth 65536 in
theorem w_t3 : (((words1.drop 24).drop 24).take 24).all (fun c => isCode c || c.before args0 about1) = true := by decide +kernel
set_option maxRecDepth 65536 in
theorem w_t4 : (((words1.drop 24).drop 24).drop 24).all (fun c => isCode c || c.before args0 about1) = true := by decide +kernel
theorem w_tables : (allAtoms (Jvm.Cond.code x code maxLocals ret :: tables_1)).before args0 about1 = true := by
  rw [allAtoms_all]
  show words1.all (fun c => c.before args0 about1) = true
  refine all_split ?_ w_codes
  rw [← List.take_append_drop 24 words1, List.all_append, w_t1, ← List.take_append_drop 24 (words1.drop 24), List.all_append, w_t2, ← List.take_append_drop 24 ((words1.drop 24).drop 24), List.all_append, w_t3, w_t4]
  rfl
set_option maxRecDepth 65536 in
theorem w_rest : rest_1_c.before args0 about1 = true := by decide +kernel
set_option maxRecDepth 65536 in
theorem w_case : (Jvm.Cond.and given_1 narrow_1).before args0 about1 = true := by decide +kernel
theorem w_applies : (headSpec (Jvm.Cond.code x code maxLocals ret :: tables_1) room_1).applies x e0.platform about1 = true :=
  (Spec.applies_iff w_frames).mpr ⟨w_running, w_runnable, w_alone, w_named, w_hears, w_ripe, w_room, w_tables⟩
theorem atStart : AtStart classFile x code maxLocals ret World_1 tables_1 room_1 Calls_1 rest_1 Pre_1 launch0 p0 e0 about1 theMethod args0 below0 :=
  ⟨lists_1, trivial, launch0.admits_env _ _ _, launch0.least_env, fairChoices_fair.cas, fairChoices_fair.clock, w_frames, w_args, w_heap, w_applies, trivial, w_rest, w_case⟩
end start1
theorem witness_1 : WitnessClaimed_1 := ⟨start1.p0, start1.e0, start1.about1, start1.theMethod, start1.args0, start1.below0, start1.atStart⟩
end Jvm.Pilot.@@N@@
